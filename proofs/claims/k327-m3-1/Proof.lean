import JvmDerived
import JvmDerived.Pilot.@@N@@Statement
import JvmDerived.Pilot.@@N@@Code
set_option linter.unusedVariables false
set_option linter.unusedSimpArgs false
@@BLOCK:NumsL.lean.txt@@
namespace Jvm.RoadKit
open Sem ClassFile Op Lib Jvm.Stand Jvm.Free Jvm.LawKit
section New
variable {p : Program} {l : Launch} {e : Env} {R : Room} {s : State} {m : MethodId} {args : Array Value} {below : List Frame} {meth : Method} {c : Code} {T : State} {locs : List Loc} {cells slots : Nat}
theorem retI (X : Stand p l e R s m args below meth c T locs cells slots) (hx : p.tables.exec = Jvm.exec) {pc : Nat} {Ls : Array Slot} {z : Int32} {rest : List Value} (hret : meth.sig.returnType = some .int) (hd : decode c.code pc = .ok (.ireturn, 1)) {fs : List Frame}
    (hl : ∀ (f : JFrame) (acts : List Action), f.method = m → f.locked = none → f.entered = [] → (doReturn e (T.setTop f) acts (some (.int z))).1 = T.setFrames fs) : Steps p.tables e below (T.setTop (mkF m pc Ls (.int z :: rest))) (T.setFrames fs) := by
  have hm' : T.vm.method? m = some meth := X.method'
  have hn : narrow .int (.int z) = .int z := rfl
  show Steps p.tables e below (T.setTop { method := m, pc := pc, locals := Ls, stack := _ :: rest, locked := none }) _
  jvm_step X.here [X.here.top, hx, hd, hm', hret, hn]
  first | (intro acts; rw [hl _ acts rfl rfl rfl]) | rw [hl _ _ rfl rfl rfl]
  exact Steps.refl _
end New
end Jvm.RoadKit
namespace Jvm.Pilot.@@N@@
open Jvm Jvm.ClassFile Sem Op Lib Jvm.Free Jvm.Stand Jvm.LawKit Jvm.RoadKit Bundle Jvm.Pilot.@@N@@.Jvm.D
/-- the run from this frame comes to an end that R takes -/
def own_Fin (tb : Tables) (e : Env) (below : List Frame) (R : State → Prop) (T : State) (g : JFrame) : Prop := ∃ t, Steps tb e below (T.setTop g) t ∧ R t
theorem own_st {tb : Tables} {e : Env} {below : List Frame} {R : State → Prop} {T T' : State} {g g' : JFrame} (h : own_Fin tb e below R T' g') (k : ∀ t, Steps tb e below (T'.setTop g') t → Steps tb e below (T.setTop g) t) : own_Fin tb e below R T g := by
  obtain ⟨t, a, b⟩ := h
  exact ⟨t, k t a, b⟩
def own_End (below : List Frame) (s : State) (Q : Option Value → Heap → List Loc → Prop) (cells slots : Nat) (t : State) : Prop := t.status = .running ∧ ∃ o, Ended t below o ∧ ∃ v L, o = .returned v ∧ Q v t.heap L ∧ FrameEnd s o t L cells slots
/-- a body that writes nothing -/
def own_P (h0 : Heap) (n0 : Nat) (w : Option Value) (v : Option Value) (h : Heap) (L : List Loc) : Prop := v = w ∧ Fr n0 L ∧ h = h0
theorem own_cast {tb : Tables} {e : Env} {below : List Frame} {R R' : State → Prop} {T : State} {g : JFrame} (q : R' = R) (h : own_Fin tb e below R' T g) : own_Fin tb e below R T g := q ▸ h
/-- the law: what it returns, and nothing old is written -/
def own_L (n0 : Nat) (w : Value) (v : Option Value) (h : Heap) (L : List Loc) : Prop := v = some w ∧ Fr n0 L
theorem own_lcW (a b : Int64) : lcmpW a b = if a > b then 1 else if a = b then 0 else -1 := rfl
theorem own_lc_lt {a b : Int64} : lcmpW a b < 0 ↔ a < b := by
  rw [own_lcW]
  by_cases h1 : a > b
  · rw [if_pos h1]
    exact ⟨fun h => absurd h (by decide), fun h => absurd (Int64.lt_trans h h1) Int64.lt_irrefl⟩
  · rw [if_neg h1]
    by_cases h2 : a = b
    · rw [if_pos h2]
      exact ⟨fun h => absurd h (by decide), fun h => absurd (h2 ▸ h) Int64.lt_irrefl⟩
    · rw [if_neg h2]
      refine ⟨fun _ => ?_, fun _ => by decide⟩
      rw [Int64.lt_iff_toInt_lt] at *
      have h3 : a.toInt ≠ b.toInt := fun q => h2 (Int64.toInt_inj.mp q)
      have h4 : ¬ b.toInt < a.toInt := fun q => h1 (Int64.lt_iff_toInt_lt.mpr q)
      omega
theorem own_lc_gt {a b : Int64} : 0 < lcmpW a b ↔ b < a := by
  rw [own_lcW]
  by_cases h1 : a > b
  · rw [if_pos h1]; exact ⟨fun _ => h1, fun _ => by decide⟩
  · rw [if_neg h1]
    by_cases h2 : a = b
    · rw [if_pos h2]; exact ⟨fun h => absurd h (by decide), fun h => absurd h h1⟩
    · rw [if_neg h2]; exact ⟨fun h => absurd h (by decide), fun h => absurd h h1⟩
theorem own_lc_eq {a b : Int64} : lcmpW a b = 0 ↔ a = b := by
  rw [own_lcW]
  by_cases h1 : a > b
  · rw [if_pos h1]; exact ⟨fun h => absurd h (by decide), fun h => absurd (h ▸ h1 : a > a) Int64.lt_irrefl⟩
  · rw [if_neg h1]
    by_cases h2 : a = b
    · rw [if_pos h2]; exact ⟨fun _ => h2, fun _ => rfl⟩
    · rw [if_neg h2]; exact ⟨fun h => absurd h (by decide), fun h => absurd h h2⟩
def own_EndW (below : List Frame) (s : State) (Q : Option Value → Heap → List Loc → Prop) (cells slots : Nat) (t : State) : Prop := t.status = .running ∧ ∃ o, Ended t below o ∧ ∃ v L, o = .returned v ∧ Q v t.heap L ∧ ReturnedEndW s o t L cells slots
theorem own_fr {tb : Tables} {e : Env} {below : List Frame} {R : State → Prop} {T : State} {g g' : JFrame} (q : g' = g) (h : own_Fin tb e below R T g') : own_Fin tb e below R T g := q ▸ h
theorem own_irr32 (x : Int32) : ¬ x < x := Int32.lt_irrefl
theorem own_irr64 (x : Int64) : ¬ x < x := Int64.lt_irrefl
def own_ush32 (x y : Int32) : Int32 := (x.toUInt32 >>> (y &&& 31).toUInt32).toInt32
def own_ush64 (x : Int64) (y : Int32) : Int64 := (x.toUInt64 >>> (y &&& 0x3f).toInt64.toUInt64).toInt64
section OwnStep
variable {p : Program} {l : Launch} {e : Env} {R : Room} {s : State} {m : MethodId} {args : Array Value} {below : List Frame} {meth : Method} {c : Code} {T : State} {locs : List Loc} {kc ks : Nat} {Rr : State → Prop} {Ls Ls' : Array Slot} {st : List Value} {pc pc' : Nat} {Z : State} {a0 : Array Value} {h : Heap}
theorem own_iload (X : Stand p l e R s m args below meth c T locs kc ks) (hx : p.tables.exec = Jvm.exec) {j : Nat} {v : Int32} (hd : decode c.code pc = .ok (.iload j, 2)) (hp : pc + 2 = pc') (hl : Ls[j]? = some (.val (.int v))) (h : own_Fin p.tables e below Rr T (mkF m pc' Ls (.int v :: st))) : own_Fin p.tables e below Rr T (mkF m pc Ls st) := by
  subst hp; exact own_st h (fun t k => XS.iload X.here hx rfl hd hl k)
theorem own_iloadN (X : Stand p l e R s m args below meth c T locs kc ks) (hx : p.tables.exec = Jvm.exec) {j : Fin 4} {v : Int32} (hd : decode c.code pc = .ok (.iload_n j, 1)) (hp : pc + 1 = pc') (hl : Ls[j.val]? = some (.val (.int v))) (h : own_Fin p.tables e below Rr T (mkF m pc' Ls (.int v :: st))) : own_Fin p.tables e below Rr T (mkF m pc Ls st) := by
  subst hp; exact own_st h (fun t k => XS.iloadN X.here hx rfl hd hl k)
theorem own_istore (X : Stand p l e R s m args below meth c T locs kc ks) (hx : p.tables.exec = Jvm.exec) {j : Nat} {v : Int32} (hd : decode c.code pc = .ok (.istore j, 2)) (hp : pc + 2 = pc') (hl : storeLocals Ls j (.int v) = some Ls') (h : own_Fin p.tables e below Rr T (mkF m pc' Ls' st)) : own_Fin p.tables e below Rr T (mkF m pc Ls (.int v :: st)) := by
  subst hp; exact own_st h (fun t k => XS.istore X.here hx rfl hd rfl hl k)
theorem own_istoreN (X : Stand p l e R s m args below meth c T locs kc ks) (hx : p.tables.exec = Jvm.exec) {j : Fin 4} {v : Int32} (hd : decode c.code pc = .ok (.istore_n j, 1)) (hp : pc + 1 = pc') (hl : storeLocals Ls j.val (.int v) = some Ls') (h : own_Fin p.tables e below Rr T (mkF m pc' Ls' st)) : own_Fin p.tables e below Rr T (mkF m pc Ls (.int v :: st)) := by
  subst hp; exact own_st h (fun t k => XS.istoreN X.here hx rfl hd rfl hl k)
theorem own_lload (X : Stand p l e R s m args below meth c T locs kc ks) (hx : p.tables.exec = Jvm.exec) {j : Nat} {v : Int64} (hd : decode c.code pc = .ok (.lload j, 2)) (hp : pc + 2 = pc') (hl : Ls[j]? = some (.val (.long v))) (h : own_Fin p.tables e below Rr T (mkF m pc' Ls (.long v :: st))) : own_Fin p.tables e below Rr T (mkF m pc Ls st) := by
  subst hp; exact own_st h (fun t k => XS.lload X.here hx rfl hd hl k)
theorem own_lloadN (X : Stand p l e R s m args below meth c T locs kc ks) (hx : p.tables.exec = Jvm.exec) {j : Fin 4} {v : Int64} (hd : decode c.code pc = .ok (.lload_n j, 1)) (hp : pc + 1 = pc') (hl : Ls[j.val]? = some (.val (.long v))) (h : own_Fin p.tables e below Rr T (mkF m pc' Ls (.long v :: st))) : own_Fin p.tables e below Rr T (mkF m pc Ls st) := by
  subst hp; exact own_st h (fun t k => XS.lloadN X.here hx rfl hd hl k)
theorem own_lstore (X : Stand p l e R s m args below meth c T locs kc ks) (hx : p.tables.exec = Jvm.exec) {j : Nat} {v : Int64} (hd : decode c.code pc = .ok (.lstore j, 2)) (hp : pc + 2 = pc') (hl : storeLocals Ls j (.long v) = some Ls') (h : own_Fin p.tables e below Rr T (mkF m pc' Ls' st)) : own_Fin p.tables e below Rr T (mkF m pc Ls (.long v :: st)) := by
  subst hp; exact own_st h (fun t k => XS.lstore X.here hx rfl hd rfl hl k)
theorem own_lstoreN (X : Stand p l e R s m args below meth c T locs kc ks) (hx : p.tables.exec = Jvm.exec) {j : Fin 4} {v : Int64} (hd : decode c.code pc = .ok (.lstore_n j, 1)) (hp : pc + 1 = pc') (hl : storeLocals Ls j.val (.long v) = some Ls') (h : own_Fin p.tables e below Rr T (mkF m pc' Ls' st)) : own_Fin p.tables e below Rr T (mkF m pc Ls (.long v :: st)) := by
  subst hp; exact own_st h (fun t k => XS.lstoreN X.here hx rfl hd rfl hl k)
theorem own_aload (X : Stand p l e R s m args below meth c T locs kc ks) (hx : p.tables.exec = Jvm.exec) {j : Nat} {v : Value} (hd : decode c.code pc = .ok (.aload j, 2)) (hp : pc + 2 = pc') (hl : Ls[j]? = some (.val v)) (hv : v.isRef = true) (h : own_Fin p.tables e below Rr T (mkF m pc' Ls (v :: st))) : own_Fin p.tables e below Rr T (mkF m pc Ls st) := by
  subst hp; exact own_st h (fun t k => XS.aload X.here hx rfl hd hl hv k)
theorem own_aloadN (X : Stand p l e R s m args below meth c T locs kc ks) (hx : p.tables.exec = Jvm.exec) {j : Fin 4} {v : Value} (hd : decode c.code pc = .ok (.aload_n j, 1)) (hp : pc + 1 = pc') (hl : Ls[j.val]? = some (.val v)) (hv : v.isRef = true) (h : own_Fin p.tables e below Rr T (mkF m pc' Ls (v :: st))) : own_Fin p.tables e below Rr T (mkF m pc Ls st) := by
  subst hp; exact own_st h (fun t k => XS.aloadN X.here hx rfl hd hl hv k)
theorem own_astore (X : Stand p l e R s m args below meth c T locs kc ks) (hx : p.tables.exec = Jvm.exec) {j : Nat} {v : Value} (hd : decode c.code pc = .ok (.astore j, 2)) (hp : pc + 2 = pc') (hv : v.isRef = true) (hl : storeLocals Ls j v = some Ls') (h : own_Fin p.tables e below Rr T (mkF m pc' Ls' st)) : own_Fin p.tables e below Rr T (mkF m pc Ls (v :: st)) := by
  subst hp; exact own_st h (fun t k => XS.astore X.here hx rfl hd rfl hv hl k)
theorem own_astoreN (X : Stand p l e R s m args below meth c T locs kc ks) (hx : p.tables.exec = Jvm.exec) {j : Fin 4} {v : Value} (hd : decode c.code pc = .ok (.astore_n j, 1)) (hp : pc + 1 = pc') (hv : v.isRef = true) (hl : storeLocals Ls j.val v = some Ls') (h : own_Fin p.tables e below Rr T (mkF m pc' Ls' st)) : own_Fin p.tables e below Rr T (mkF m pc Ls (v :: st)) := by
  subst hp; exact own_st h (fun t k => XS.astoreN X.here hx rfl hd rfl hv hl k)
theorem own_iconst (X : Stand p l e R s m args below meth c T locs kc ks) (hx : p.tables.exec = Jvm.exec) {i : Int} {v : Int32} (hd : decode c.code pc = .ok (.iconst i, 1)) (hp : pc + 1 = pc') (hv : Int32.ofInt i = v) (h : own_Fin p.tables e below Rr T (mkF m pc' Ls (.int v :: st))) : own_Fin p.tables e below Rr T (mkF m pc Ls st) := by
  subst hp; exact own_st h (fun t k => XS.iconst X.here hx rfl hd (hv ▸ k))
theorem own_bipush (X : Stand p l e R s m args below meth c T locs kc ks) (hx : p.tables.exec = Jvm.exec) {i : Int} {v : Int32} (hd : decode c.code pc = .ok (.bipush i, 2)) (hp : pc + 2 = pc') (hv : (Int8.ofInt i).toInt32 = v) (h : own_Fin p.tables e below Rr T (mkF m pc' Ls (.int v :: st))) : own_Fin p.tables e below Rr T (mkF m pc Ls st) := by
  subst hp; exact own_st h (fun t k => XS.bipush X.here hx rfl hd (hv ▸ k))
theorem own_sipush (X : Stand p l e R s m args below meth c T locs kc ks) (hx : p.tables.exec = Jvm.exec) {i : Int} {v : Int32} (hd : decode c.code pc = .ok (.sipush i, 3)) (hp : pc + 3 = pc') (hv : (Int16.ofInt i).toInt32 = v) (h : own_Fin p.tables e below Rr T (mkF m pc' Ls (.int v :: st))) : own_Fin p.tables e below Rr T (mkF m pc Ls st) := by
  subst hp; exact own_st h (fun t k => XS.sipush X.here hx rfl hd (hv ▸ k))
theorem own_lconst (X : Stand p l e R s m args below meth c T locs kc ks) (hx : p.tables.exec = Jvm.exec) {i : Fin 2} {v : Int64} (hd : decode c.code pc = .ok (.lconst i, 1)) (hp : pc + 1 = pc') (hv : Int64.ofNat i = v) (h : own_Fin p.tables e below Rr T (mkF m pc' Ls (.long v :: st))) : own_Fin p.tables e below Rr T (mkF m pc Ls st) := by
  subst hp; exact own_st h (fun t k => XS.lconst X.here hx rfl hd (hv ▸ k))
theorem own_aconstNull (X : Stand p l e R s m args below meth c T locs kc ks) (hx : p.tables.exec = Jvm.exec)  (hd : decode c.code pc = .ok (.aconst_null, 1)) (hp : pc + 1 = pc')  (h : own_Fin p.tables e below Rr T (mkF m pc' Ls (.null :: st))) : own_Fin p.tables e below Rr T (mkF m pc Ls st) := by
  subst hp; exact own_st h (fun t k => XS.aconstNull X.here hx rfl hd k)
theorem own_iadd (X : Stand p l e R s m args below meth c T locs kc ks) (hx : p.tables.exec = Jvm.exec) {x y : Int32} (hd : decode c.code pc = .ok (.iadd, 1)) (hp : pc + 1 = pc')  (h : own_Fin p.tables e below Rr T (mkF m pc' Ls (.int (x + y) :: st))) : own_Fin p.tables e below Rr T (mkF m pc Ls (.int y :: .int x :: st)) := by
  subst hp; exact own_st h (fun t k => XS.iadd X.here hx rfl hd rfl k)
theorem own_ladd (X : Stand p l e R s m args below meth c T locs kc ks) (hx : p.tables.exec = Jvm.exec) {x y : Int64} (hd : decode c.code pc = .ok (.ladd, 1)) (hp : pc + 1 = pc')  (h : own_Fin p.tables e below Rr T (mkF m pc' Ls (.long (x + y) :: st))) : own_Fin p.tables e below Rr T (mkF m pc Ls (.long y :: .long x :: st)) := by
  subst hp; exact own_st h (fun t k => XS.ladd X.here hx rfl hd rfl k)
theorem own_isub (X : Stand p l e R s m args below meth c T locs kc ks) (hx : p.tables.exec = Jvm.exec) {x y : Int32} (hd : decode c.code pc = .ok (.isub, 1)) (hp : pc + 1 = pc')  (h : own_Fin p.tables e below Rr T (mkF m pc' Ls (.int (x - y) :: st))) : own_Fin p.tables e below Rr T (mkF m pc Ls (.int y :: .int x :: st)) := by
  subst hp; exact own_st h (fun t k => XS.isub X.here hx rfl hd rfl k)
theorem own_lsub (X : Stand p l e R s m args below meth c T locs kc ks) (hx : p.tables.exec = Jvm.exec) {x y : Int64} (hd : decode c.code pc = .ok (.lsub, 1)) (hp : pc + 1 = pc')  (h : own_Fin p.tables e below Rr T (mkF m pc' Ls (.long (x - y) :: st))) : own_Fin p.tables e below Rr T (mkF m pc Ls (.long y :: .long x :: st)) := by
  subst hp; exact own_st h (fun t k => XS.lsub X.here hx rfl hd rfl k)
theorem own_imul (X : Stand p l e R s m args below meth c T locs kc ks) (hx : p.tables.exec = Jvm.exec) {x y : Int32} (hd : decode c.code pc = .ok (.imul, 1)) (hp : pc + 1 = pc')  (h : own_Fin p.tables e below Rr T (mkF m pc' Ls (.int (x * y) :: st))) : own_Fin p.tables e below Rr T (mkF m pc Ls (.int y :: .int x :: st)) := by
  subst hp; exact own_st h (fun t k => XS.imul X.here hx rfl hd rfl k)
theorem own_lmul (X : Stand p l e R s m args below meth c T locs kc ks) (hx : p.tables.exec = Jvm.exec) {x y : Int64} (hd : decode c.code pc = .ok (.lmul, 1)) (hp : pc + 1 = pc')  (h : own_Fin p.tables e below Rr T (mkF m pc' Ls (.long (x * y) :: st))) : own_Fin p.tables e below Rr T (mkF m pc Ls (.long y :: .long x :: st)) := by
  subst hp; exact own_st h (fun t k => XS.lmul X.here hx rfl hd rfl k)
theorem own_iand (X : Stand p l e R s m args below meth c T locs kc ks) (hx : p.tables.exec = Jvm.exec) {x y : Int32} (hd : decode c.code pc = .ok (.iand, 1)) (hp : pc + 1 = pc')  (h : own_Fin p.tables e below Rr T (mkF m pc' Ls (.int (x &&& y) :: st))) : own_Fin p.tables e below Rr T (mkF m pc Ls (.int y :: .int x :: st)) := by
  subst hp; exact own_st h (fun t k => XS.iand X.here hx rfl hd rfl k)
theorem own_land (X : Stand p l e R s m args below meth c T locs kc ks) (hx : p.tables.exec = Jvm.exec) {x y : Int64} (hd : decode c.code pc = .ok (.land, 1)) (hp : pc + 1 = pc')  (h : own_Fin p.tables e below Rr T (mkF m pc' Ls (.long (x &&& y) :: st))) : own_Fin p.tables e below Rr T (mkF m pc Ls (.long y :: .long x :: st)) := by
  subst hp; exact own_st h (fun t k => XS.land X.here hx rfl hd rfl k)
theorem own_ior (X : Stand p l e R s m args below meth c T locs kc ks) (hx : p.tables.exec = Jvm.exec) {x y : Int32} (hd : decode c.code pc = .ok (.ior, 1)) (hp : pc + 1 = pc')  (h : own_Fin p.tables e below Rr T (mkF m pc' Ls (.int (x ||| y) :: st))) : own_Fin p.tables e below Rr T (mkF m pc Ls (.int y :: .int x :: st)) := by
  subst hp; exact own_st h (fun t k => XS.ior X.here hx rfl hd rfl k)
theorem own_lor (X : Stand p l e R s m args below meth c T locs kc ks) (hx : p.tables.exec = Jvm.exec) {x y : Int64} (hd : decode c.code pc = .ok (.lor, 1)) (hp : pc + 1 = pc')  (h : own_Fin p.tables e below Rr T (mkF m pc' Ls (.long (x ||| y) :: st))) : own_Fin p.tables e below Rr T (mkF m pc Ls (.long y :: .long x :: st)) := by
  subst hp; exact own_st h (fun t k => XS.lor X.here hx rfl hd rfl k)
theorem own_ixor (X : Stand p l e R s m args below meth c T locs kc ks) (hx : p.tables.exec = Jvm.exec) {x y : Int32} (hd : decode c.code pc = .ok (.ixor, 1)) (hp : pc + 1 = pc')  (h : own_Fin p.tables e below Rr T (mkF m pc' Ls (.int (x ^^^ y) :: st))) : own_Fin p.tables e below Rr T (mkF m pc Ls (.int y :: .int x :: st)) := by
  subst hp; exact own_st h (fun t k => XS.ixor X.here hx rfl hd rfl k)
theorem own_lxor (X : Stand p l e R s m args below meth c T locs kc ks) (hx : p.tables.exec = Jvm.exec) {x y : Int64} (hd : decode c.code pc = .ok (.lxor, 1)) (hp : pc + 1 = pc')  (h : own_Fin p.tables e below Rr T (mkF m pc' Ls (.long (x ^^^ y) :: st))) : own_Fin p.tables e below Rr T (mkF m pc Ls (.long y :: .long x :: st)) := by
  subst hp; exact own_st h (fun t k => XS.lxor X.here hx rfl hd rfl k)
theorem own_idiv (X : Stand p l e R s m args below meth c T locs kc ks) (hx : p.tables.exec = Jvm.exec) {x y : Int32} (hd : decode c.code pc = .ok (.idiv, 1)) (hp : pc + 1 = pc') (hy : y ≠ 0) (h : own_Fin p.tables e below Rr T (mkF m pc' Ls (.int (x / y) :: st))) : own_Fin p.tables e below Rr T (mkF m pc Ls (.int y :: .int x :: st)) := by
  subst hp; exact own_st h (fun t k => XS.idiv X.here hx rfl hd rfl hy k)
theorem own_ldiv (X : Stand p l e R s m args below meth c T locs kc ks) (hx : p.tables.exec = Jvm.exec) {x y : Int64} (hd : decode c.code pc = .ok (.ldiv, 1)) (hp : pc + 1 = pc') (hy : y ≠ 0) (h : own_Fin p.tables e below Rr T (mkF m pc' Ls (.long (x / y) :: st))) : own_Fin p.tables e below Rr T (mkF m pc Ls (.long y :: .long x :: st)) := by
  subst hp; exact own_st h (fun t k => XS.ldiv X.here hx rfl hd rfl hy k)
theorem own_irem (X : Stand p l e R s m args below meth c T locs kc ks) (hx : p.tables.exec = Jvm.exec) {x y : Int32} (hd : decode c.code pc = .ok (.irem, 1)) (hp : pc + 1 = pc') (hy : y ≠ 0) (h : own_Fin p.tables e below Rr T (mkF m pc' Ls (.int (x - (x / y) * y) :: st))) : own_Fin p.tables e below Rr T (mkF m pc Ls (.int y :: .int x :: st)) := by
  subst hp; exact own_st h (fun t k => XS.irem X.here hx rfl hd rfl hy k)
theorem own_lrem (X : Stand p l e R s m args below meth c T locs kc ks) (hx : p.tables.exec = Jvm.exec) {x y : Int64} (hd : decode c.code pc = .ok (.lrem, 1)) (hp : pc + 1 = pc') (hy : y ≠ 0) (h : own_Fin p.tables e below Rr T (mkF m pc' Ls (.long (x - (x / y) * y) :: st))) : own_Fin p.tables e below Rr T (mkF m pc Ls (.long y :: .long x :: st)) := by
  subst hp; exact own_st h (fun t k => XS.lrem X.here hx rfl hd rfl hy k)
theorem own_ishl (X : Stand p l e R s m args below meth c T locs kc ks) (hx : p.tables.exec = Jvm.exec) {x y : Int32} (hd : decode c.code pc = .ok (.ishl, 1)) (hp : pc + 1 = pc')  (h : own_Fin p.tables e below Rr T (mkF m pc' Ls (.int (x <<< (y &&& 31)) :: st))) : own_Fin p.tables e below Rr T (mkF m pc Ls (.int y :: .int x :: st)) := by
  subst hp; exact own_st h (fun t k => XS.ishl X.here hx rfl hd rfl k)
theorem own_ishr (X : Stand p l e R s m args below meth c T locs kc ks) (hx : p.tables.exec = Jvm.exec) {x y : Int32} (hd : decode c.code pc = .ok (.ishr, 1)) (hp : pc + 1 = pc')  (h : own_Fin p.tables e below Rr T (mkF m pc' Ls (.int (x >>> (y &&& 31)) :: st))) : own_Fin p.tables e below Rr T (mkF m pc Ls (.int y :: .int x :: st)) := by
  subst hp; exact own_st h (fun t k => XS.ishr X.here hx rfl hd rfl k)
theorem own_iushr (X : Stand p l e R s m args below meth c T locs kc ks) (hx : p.tables.exec = Jvm.exec) {x y : Int32} (hd : decode c.code pc = .ok (.iushr, 1)) (hp : pc + 1 = pc')  (h : own_Fin p.tables e below Rr T (mkF m pc' Ls (.int (own_ush32 x y) :: st))) : own_Fin p.tables e below Rr T (mkF m pc Ls (.int y :: .int x :: st)) := by
  subst hp; exact own_st h (fun t k => XS.iushr X.here hx rfl hd rfl k)
theorem own_lshl (X : Stand p l e R s m args below meth c T locs kc ks) (hx : p.tables.exec = Jvm.exec) {x : Int64} {y : Int32} (hd : decode c.code pc = .ok (.lshl, 1)) (hp : pc + 1 = pc')  (h : own_Fin p.tables e below Rr T (mkF m pc' Ls (.long (x <<< (y &&& 63).toInt64) :: st))) : own_Fin p.tables e below Rr T (mkF m pc Ls (.int y :: .long x :: st)) := by
  subst hp; exact own_st h (fun t k => XS.lshl X.here hx rfl hd rfl k)
theorem own_lshr (X : Stand p l e R s m args below meth c T locs kc ks) (hx : p.tables.exec = Jvm.exec) {x : Int64} {y : Int32} (hd : decode c.code pc = .ok (.lshr, 1)) (hp : pc + 1 = pc')  (h : own_Fin p.tables e below Rr T (mkF m pc' Ls (.long (x >>> (y &&& 63).toInt64) :: st))) : own_Fin p.tables e below Rr T (mkF m pc Ls (.int y :: .long x :: st)) := by
  subst hp; exact own_st h (fun t k => XS.lshr X.here hx rfl hd rfl k)
theorem own_lushr (X : Stand p l e R s m args below meth c T locs kc ks) (hx : p.tables.exec = Jvm.exec) {x : Int64} {y : Int32} (hd : decode c.code pc = .ok (.lushr, 1)) (hp : pc + 1 = pc')  (h : own_Fin p.tables e below Rr T (mkF m pc' Ls (.long (own_ush64 x y) :: st))) : own_Fin p.tables e below Rr T (mkF m pc Ls (.int y :: .long x :: st)) := by
  subst hp; exact own_st h (fun t k => XS.lushr X.here hx rfl hd rfl k)
theorem own_ineg (X : Stand p l e R s m args below meth c T locs kc ks) (hx : p.tables.exec = Jvm.exec) {x : Int32} (hd : decode c.code pc = .ok (.ineg, 1)) (hp : pc + 1 = pc')  (h : own_Fin p.tables e below Rr T (mkF m pc' Ls (.int (-x) :: st))) : own_Fin p.tables e below Rr T (mkF m pc Ls (.int x :: st)) := by
  subst hp; exact own_st h (fun t k => XS.ineg X.here hx rfl hd rfl k)
theorem own_lneg (X : Stand p l e R s m args below meth c T locs kc ks) (hx : p.tables.exec = Jvm.exec) {x : Int64} (hd : decode c.code pc = .ok (.lneg, 1)) (hp : pc + 1 = pc')  (h : own_Fin p.tables e below Rr T (mkF m pc' Ls (.long (-x) :: st))) : own_Fin p.tables e below Rr T (mkF m pc Ls (.long x :: st)) := by
  subst hp; exact own_st h (fun t k => XS.lneg X.here hx rfl hd rfl k)
theorem own_i2l (X : Stand p l e R s m args below meth c T locs kc ks) (hx : p.tables.exec = Jvm.exec) {x : Int32} (hd : decode c.code pc = .ok (.i2l, 1)) (hp : pc + 1 = pc')  (h : own_Fin p.tables e below Rr T (mkF m pc' Ls (.long (x.toInt64) :: st))) : own_Fin p.tables e below Rr T (mkF m pc Ls (.int x :: st)) := by
  subst hp; exact own_st h (fun t k => XS.i2l X.here hx rfl hd rfl k)
theorem own_l2i (X : Stand p l e R s m args below meth c T locs kc ks) (hx : p.tables.exec = Jvm.exec) {x : Int64} (hd : decode c.code pc = .ok (.l2i, 1)) (hp : pc + 1 = pc')  (h : own_Fin p.tables e below Rr T (mkF m pc' Ls (.int (x.toInt32) :: st))) : own_Fin p.tables e below Rr T (mkF m pc Ls (.long x :: st)) := by
  subst hp; exact own_st h (fun t k => XS.l2i X.here hx rfl hd rfl k)
theorem own_i2b (X : Stand p l e R s m args below meth c T locs kc ks) (hx : p.tables.exec = Jvm.exec) {x : Int32} (hd : decode c.code pc = .ok (.i2b, 1)) (hp : pc + 1 = pc')  (h : own_Fin p.tables e below Rr T (mkF m pc' Ls (.int (x.toInt8.toInt32) :: st))) : own_Fin p.tables e below Rr T (mkF m pc Ls (.int x :: st)) := by
  subst hp; exact own_st h (fun t k => XS.i2b X.here hx rfl hd rfl k)
theorem own_i2s (X : Stand p l e R s m args below meth c T locs kc ks) (hx : p.tables.exec = Jvm.exec) {x : Int32} (hd : decode c.code pc = .ok (.i2s, 1)) (hp : pc + 1 = pc')  (h : own_Fin p.tables e below Rr T (mkF m pc' Ls (.int (x.toInt16.toInt32) :: st))) : own_Fin p.tables e below Rr T (mkF m pc Ls (.int x :: st)) := by
  subst hp; exact own_st h (fun t k => XS.i2s X.here hx rfl hd rfl k)
theorem own_lcmp (X : Stand p l e R s m args below meth c T locs kc ks) (hx : p.tables.exec = Jvm.exec) {x y : Int64} (hd : decode c.code pc = .ok (.lcmp, 1)) (hp : pc + 1 = pc')  (h : own_Fin p.tables e below Rr T (mkF m pc' Ls (.int (lcmpW x y) :: st))) : own_Fin p.tables e below Rr T (mkF m pc Ls (.long y :: .long x :: st)) := by
  subst hp; exact own_st h (fun t k => XS.lcmp X.here hx rfl hd rfl k)
theorem own_iinc (X : Stand p l e R s m args below meth c T locs kc ks) (hx : p.tables.exec = Jvm.exec) {j : Nat} {i : Int} {x : Int32} (hd : decode c.code pc = .ok (.iinc j i, 3)) (hp : pc + 3 = pc') (hl : Ls[j]? = some (.val (.int x))) (hl' : storeLocals Ls j (.int (x + Int32.ofInt i)) = some Ls') (h : own_Fin p.tables e below Rr T (mkF m pc' Ls' st)) : own_Fin p.tables e below Rr T (mkF m pc Ls st) := by
  subst hp; exact own_st h (fun t k => XS.iinc X.here hx rfl hd hl hl' k)
theorem own_dup (X : Stand p l e R s m args below meth c T locs kc ks) (hx : p.tables.exec = Jvm.exec) {v : Value} (hd : decode c.code pc = .ok (.dup, 1)) (hp : pc + 1 = pc') (hc : v.category = 1) (h : own_Fin p.tables e below Rr T (mkF m pc' Ls (v :: v :: st))) : own_Fin p.tables e below Rr T (mkF m pc Ls (v :: st)) := by
  subst hp; exact own_st h (fun t k => XS.dup X.here hx rfl hd rfl hc k)
theorem own_pop (X : Stand p l e R s m args below meth c T locs kc ks) (hx : p.tables.exec = Jvm.exec) {v : Value} (hd : decode c.code pc = .ok (.pop, 1)) (hp : pc + 1 = pc') (hc : v.category = 1) (h : own_Fin p.tables e below Rr T (mkF m pc' Ls st)) : own_Fin p.tables e below Rr T (mkF m pc Ls (v :: st)) := by
  subst hp; exact own_st h (fun t k => XS.pop X.here hx rfl hd rfl hc k)
theorem own_goto (X : Stand p l e R s m args below meth c T locs kc ks) (hx : p.tables.exec = Jvm.exec) {o : Int} (hd : decode c.code pc = .ok (.goto o, 3))  (ho : 0 ≤ (pc : Int) + o) (hp : ((pc : Int) + o).toNat = pc') (h : own_Fin p.tables e below Rr T (mkF m pc' Ls st)) : own_Fin p.tables e below Rr T (mkF m pc Ls st) := own_st h (fun t k => XS.goto X.here hx rfl (pc0 := pc) (pc' := pc') rfl hd ho hp k)
theorem own_ifYes (X : Stand p l e R s m args below meth c T locs kc ks) (hx : p.tables.exec = Jvm.exec) {cd : ClassFile.Cond} {o : Int} {x : Int32} (hd : decode c.code pc = .ok (.ifCond cd o, 3)) (hc : ifCond.holds cd x = true) (ho : 0 ≤ (pc : Int) + o) (hp : ((pc : Int) + o).toNat = pc') (h : own_Fin p.tables e below Rr T (mkF m pc' Ls st)) : own_Fin p.tables e below Rr T (mkF m pc Ls (.int x :: st)) := own_st h (fun t k => XS.ifYes X.here hx rfl (pc0 := pc) (pc' := pc') rfl hd rfl hc ho hp k)
theorem own_icmpYes (X : Stand p l e R s m args below meth c T locs kc ks) (hx : p.tables.exec = Jvm.exec) {cd : ClassFile.Cond} {o : Int} {x y : Int32} (hd : decode c.code pc = .ok (.if_icmp cd o, 3)) (hc : if_icmp.holds cd x y = true) (ho : 0 ≤ (pc : Int) + o) (hp : ((pc : Int) + o).toNat = pc') (h : own_Fin p.tables e below Rr T (mkF m pc' Ls st)) : own_Fin p.tables e below Rr T (mkF m pc Ls (.int y :: .int x :: st)) := own_st h (fun t k => XS.icmpYes X.here hx rfl (pc0 := pc) (pc' := pc') rfl hd rfl hc ho hp k)
theorem own_ifNo (X : Stand p l e R s m args below meth c T locs kc ks) (hx : p.tables.exec = Jvm.exec) {cd : ClassFile.Cond} {o : Int} {x : Int32} (hd : decode c.code pc = .ok (.ifCond cd o, 3)) (hp : pc + 3 = pc') (hc : ifCond.holds cd x = false) (h : own_Fin p.tables e below Rr T (mkF m pc' Ls st)) : own_Fin p.tables e below Rr T (mkF m pc Ls (.int x :: st)) := by
  subst hp; exact own_st h (fun t k => XS.ifNo X.here hx rfl hd rfl hc k)
theorem own_icmpNo (X : Stand p l e R s m args below meth c T locs kc ks) (hx : p.tables.exec = Jvm.exec) {cd : ClassFile.Cond} {o : Int} {x y : Int32} (hd : decode c.code pc = .ok (.if_icmp cd o, 3)) (hp : pc + 3 = pc') (hc : if_icmp.holds cd x y = false) (h : own_Fin p.tables e below Rr T (mkF m pc' Ls st)) : own_Fin p.tables e below Rr T (mkF m pc Ls (.int y :: .int x :: st)) := by
  subst hp; exact own_st h (fun t k => XS.icmpNo X.here hx rfl hd rfl hc k)
theorem own_ldcInt (X : Stand p l e R s m args below meth c T locs kc ks) (hx : p.tables.exec = Jvm.exec) {own : String} {index : Nat} {v : Int32} (hZ : Z.Warmed39 s.vm) (hown : s.vm.findClass own = some m.cls) (w : (Jvm.Cond.constant own index v).before a0 Z = true) (hd : decode c.code pc = .ok (.ldc index, 2)) (hp : pc + 2 = pc') (h : own_Fin p.tables e below Rr T (mkF m pc' Ls (.int v :: st))) : own_Fin p.tables e below Rr T (mkF m pc Ls st) := by
  subst hp; exact own_st h (fun t k => X.ldcInt hx hown (mvT hZ w) (g := mkF m pc Ls st) rfl hd t k)
theorem own_ldc2Long (X : Stand p l e R s m args below meth c T locs kc ks) (hx : p.tables.exec = Jvm.exec) {own : String} {index : Nat} {v : Int64} (hZ : Z.Warmed39 s.vm) (hown : s.vm.findClass own = some m.cls) (w : (Jvm.Cond.constantLong own index v).before a0 Z = true) (hd : decode c.code pc = .ok (.ldc2_w index, 3)) (hp : pc + 3 = pc') (h : own_Fin p.tables e below Rr T (mkF m pc' Ls (.long v :: st))) : own_Fin p.tables e below Rr T (mkF m pc Ls st) := by
  subst hp; exact own_st h (fun t k => X.ldc2Long hx hown (mvT hZ w) (g := mkF m pc Ls st) rfl hd t k)
theorem own_getF (X : Stand p l e R s m args below meth c T locs kc ks) (hx : p.tables.exec = Jvm.exec) {own R0 O n d : String} {index : Nat} {a : Addr} {v : Value} (hZ : Z.Warmed39 s.vm) (hown : s.vm.findClass own = some m.cls) (w : (Jvm.Cond.fieldLink own index R0 n d).before a0 Z = true) (via : Via Z R0 O n d) (eT : T.heap = h) (Fl : Fld Z h a O n d v) (hd : decode c.code pc = .ok (.getfield index, 3)) (hp : pc + 3 = pc')
    (k : ∀ T', Stand p l e R s m args below meth c T' locs kc ks → T'.heap = h → own_Fin p.tables e below Rr T' (mkF m pc' Ls (v :: st))) : own_Fin p.tables e below Rr T (mkF m pc Ls (.ref a :: st)) := by
  obtain ⟨T', X', e', st'⟩ := getF X hx hZ hown (host := "") (Or.inl w) via eT Fl (g := mkF m pc Ls (.ref a :: st)) rfl rfl hd
  subst hp; exact own_st (k T' X' e') st'
end OwnStep
section OwnPop
variable {p : Program} {l : Launch} {e : Env} {R : Room} {s : State} {m : MethodId} {args : Array Value} {below : List Frame} {meth : Method} {c : Code} {T : State} {locs : List Loc} {k n : Nat}
theorem own_pop2 (X : Stand p l e R s m args below meth c T locs k n) (hx : p.tables.exec = Jvm.exec) {pc : Nat} {Ls : Array Slot} {z : Int64} {rest : List Value} {t : State} (hd : decode c.code pc = .ok (.pop2, 1)) (hr : Steps p.tables e below (T.setTop (mkF m (pc + 1) Ls rest)) t) : Steps p.tables e below (T.setTop (mkF m pc Ls (.long z :: rest))) t := by
  jvm_step X.here [X.here.top, hx, hd, Value.category]
  exact hr
end OwnPop
section OwnRet
variable {p : Program} {l : Launch} {e : Env} {R : Room} {s : State} {m : MethodId} {args : Array Value} {below : List Frame} {meth : Method} {c : Code} {T : State} {locs : List Loc} {k n k' n' : Nat} {Q : Option Value → Heap → List Loc → Prop} {pc : Nat} {Ls : Array Slot}
theorem own_retN (X : Stand p l e R s m args below meth c T locs k n) (hx : p.tables.exec = Jvm.exec) {t : FieldType} (hret : meth.sig.returnType = some t) (ht : t = .boolean ∨ t = .byte ∨ t = .char ∨ t = .short) (hlk : meth.locks = false) {z : Int32} {rest : List Value} (hd : decode c.code pc = .ok (.ireturn, 1)) (hk : k ≤ k') (hn : n ≤ n') (hq : Q (some (.int (nar t z))) T.heap locs) : own_Fin p.tables e below (own_End below s Q k' n') T (mkF m pc Ls (.int z :: rest)) := by
  obtain ⟨fs, hr, hrun, hended, hW, hsame⟩ := X.leave (v := some (.int (nar t z))) (fun h => by rw [hret] at h; cases h) hlk
  exact ⟨_, retN X hx hret ht hd hr, hrun, _, hended, _, _, rfl, hq, ⟨_, rfl⟩, hW, hsame.mono hk hn⟩
theorem own_retNW {vm₁ : Vm} {k0 : Nat} (X : Stand p l e R (s.setVm vm₁) m args below meth c T locs k n) (hx : p.tables.exec = Jvm.exec) (hS : s.Since vm₁ k0) (hk0 : k0 ≤ T.heap.size) {t : FieldType} (hret : meth.sig.returnType = some t) (ht : t = .boolean ∨ t = .byte ∨ t = .char ∨ t = .short) (hlk : meth.locks = false) {z : Int32} {rest : List Value} (hd : decode c.code pc = .ok (.ireturn, 1)) (hk : k ≤ k') (hn : n ≤ n') (hq : Q (some (.int (nar t z))) T.heap locs) : own_Fin p.tables e below (own_EndW below s Q k' n') T (mkF m pc Ls (.int z :: rest)) := by
  obtain ⟨fs, hr, hrun, hended, hW⟩ := X.leaveW hS hk0 (v := some (.int (nar t z))) (fun h => by rw [hret] at h; cases h) hlk
  exact ⟨_, retN X hx hret ht hd hr, hrun, _, hended, _, _, rfl, hq, hW.1, hW.2.1, hW.2.2.1, hW.2.2.2.mono hk hn⟩
theorem own_retI (X : Stand p l e R s m args below meth c T locs k n) (hx : p.tables.exec = Jvm.exec) (hret : meth.sig.returnType = some .int) (hlk : meth.locks = false) {z : Int32} {rest : List Value} (hd : decode c.code pc = .ok (.ireturn, 1)) (hk : k ≤ k') (hn : n ≤ n') (hq : Q (some (.int z)) T.heap locs) : own_Fin p.tables e below (own_End below s Q k' n') T (mkF m pc Ls (.int z :: rest)) := by
  obtain ⟨fs, hr, hrun, hended, hW, hsame⟩ := X.leave (v := some (.int z)) (fun h => by rw [hret] at h; cases h) hlk
  exact ⟨_, retI X hx hret hd hr, hrun, _, hended, _, _, rfl, hq, ⟨_, rfl⟩, hW, hsame.mono hk hn⟩
theorem own_retJ (X : Stand p l e R s m args below meth c T locs k n) (hx : p.tables.exec = Jvm.exec) (hret : meth.sig.returnType = some .long) (hlk : meth.locks = false) {z : Int64} (hd : decode c.code pc = .ok (.lreturn, 1)) (hk : k ≤ k') (hn : n ≤ n') (hq : Q (some (.long z)) T.heap locs) : own_Fin p.tables e below (own_End below s Q k' n') T (mkF m pc Ls [.long z]) := by
  obtain ⟨fs, hr, hrun, hended, hW, hsame⟩ := X.leave (v := some (.long z)) (fun h => by rw [hret] at h; cases h) hlk
  exact ⟨_, lreturnOut X hx hret hd hr, hrun, _, hended, _, _, rfl, hq, ⟨_, rfl⟩, hW, hsame.mono hk hn⟩
theorem own_retV (X : Stand p l e R s m args below meth c T locs k n) (hx : p.tables.exec = Jvm.exec) (hret : meth.sig.returnType = none) (hlk : meth.locks = false) (hd : decode c.code pc = .ok (.return_, 1)) (hk : k ≤ k') (hn : n ≤ n') (hq : Q none T.heap locs) : own_Fin p.tables e below (own_End below s Q k' n') T (mkF m pc Ls []) := by
  obtain ⟨fs, hr, hrun, hended, hW, hsame⟩ := X.leave (v := none) (fun _ => rfl) hlk
  exact ⟨_, X.returnOut hx hret hd hr, hrun, _, hended, _, _, rfl, hq, ⟨_, rfl⟩, hW, hsame.mono hk hn⟩
end OwnRet
end Jvm.Pilot.@@N@@
namespace Jvm.Pilot.@@N@@
open Jvm Jvm.ClassFile Sem Op Lib Jvm.Free Jvm.Stand Jvm.LawKit Jvm.RoadKit Bundle Jvm.Pilot.@@N@@.Jvm.D
theorem pd_0 : parseMethodDescriptor "(II)I" = some ⟨[.int, .int], some .int⟩ := by decide +kernel
theorem pd_1 : parseMethodDescriptor "(IJI)B" = some ⟨[.int, .long, .int], some .byte⟩ := by decide +kernel
theorem pd_2 : parseMethodDescriptor "([BIII)Z" = some ⟨[(.array .byte), .int, .int, .int], some .boolean⟩ := by decide +kernel
theorem pd_3 : parseMethodDescriptor "([BII)I" = some ⟨[(.array .byte), .int, .int], some .int⟩ := by decide +kernel
theorem d1_0 : decode method_2_code 0 = .ok (.iload_n 0, 1) := by decide +kernel
theorem d1_1 : decode method_2_code 1 = .ok (.iconst 2, 1) := by decide +kernel
theorem d1_2 : decode method_2_code 2 = .ok (.iload_n 3, 1) := by decide +kernel
theorem d1_3 : decode method_2_code 3 = .ok (.imul, 1) := by decide +kernel
theorem d1_4 : decode method_2_code 4 = .ok (.iushr, 1) := by decide +kernel
theorem d1_5 : decode method_2_code 5 = .ok (.iconst 3, 1) := by decide +kernel
theorem d1_6 : decode method_2_code 6 = .ok (.iand, 1) := by decide +kernel
theorem d1_7 : decode method_2_code 7 = .ok (.istore 4, 2) := by decide +kernel
theorem d1_9 : decode method_2_code 9 = .ok (.iload 4, 2) := by decide +kernel
theorem d1_11 : decode method_2_code 11 = .ok (.ifCond .ne 6, 3) := by decide +kernel
theorem d1_14 : decode method_2_code 14 = .ok (.bipush 10, 2) := by decide +kernel
theorem d1_16 : decode method_2_code 16 = .ok (.ireturn, 1) := by decide +kernel
theorem d1_17 : decode method_2_code 17 = .ok (.iload 4, 2) := by decide +kernel
theorem d1_19 : decode method_2_code 19 = .ok (.iconst 1, 1) := by decide +kernel
theorem d1_20 : decode method_2_code 20 = .ok (.if_icmp .ne 6, 3) := by decide +kernel
theorem d1_23 : decode method_2_code 23 = .ok (.bipush 13, 2) := by decide +kernel
theorem d1_25 : decode method_2_code 25 = .ok (.ireturn, 1) := by decide +kernel
theorem d1_26 : decode method_2_code 26 = .ok (.lload_n 1, 1) := by decide +kernel
theorem d1_27 : decode method_2_code 27 = .ok (.bipush 8, 2) := by decide +kernel
theorem d1_29 : decode method_2_code 29 = .ok (.iload_n 3, 1) := by decide +kernel
theorem d1_30 : decode method_2_code 30 = .ok (.imul, 1) := by decide +kernel
theorem d1_31 : decode method_2_code 31 = .ok (.lushr, 1) := by decide +kernel
theorem d1_32 : decode method_2_code 32 = .ok (.l2i, 1) := by decide +kernel
theorem d1_33 : decode method_2_code 33 = .ok (.i2b, 1) := by decide +kernel
theorem d1_34 : decode method_2_code 34 = .ok (.ireturn, 1) := by decide +kernel
theorem pn_1 : plainName "com/example/zhuanjie/zhuanjie/clearing/disputes/RequestHeadEndPinLaw" = true := by first | (simp [plainName, overriddenIn]; done) | decide +kernel
def own_f1 (q1 : Int32) (q2 : Int64) (q3 : Int32) : Int32 :=
  if ((own_ush32 q1 ((2 : Int32) * q3)) &&& (3 : Int32)) = (0 : Int32) then (nar .byte (10 : Int32)) else
  if ((own_ush32 q1 ((2 : Int32) * q3)) &&& (3 : Int32)) = (1 : Int32) then (nar .byte (13 : Int32)) else
  (nar .byte (((own_ush64 q2 ((8 : Int32) * q3)).toInt32).toInt8.toInt32))
set_option maxRecDepth 65536 in
set_option maxHeartbeats 40000000 in
theorem sg1_0 {p : Program} (l : Launch) {e : Env} {s : State} {m : MethodId} {args : Array Value} {below : List Frame} {meth : Method} {c : Code} {Z : State} {a0 : Array Value} (hw : ∀ d ∈ tables_1, d.before a0 Z = true) (hx : p.tables.exec = Jvm.exec) (hZ : Z.Warmed39 s.vm) (hby : c.code = method_2_code) (hml : c.maxLocals = 5) (hown : s.vm.findClass "com/example/zhuanjie/zhuanjie/clearing/disputes/RequestHeadEndPinLaw" = some m.cls) (hnm : meth.name = "pick") (hret : meth.sig.returnType = (some .byte)) (hlk : meth.locks = false) (q1 : Int32) (q2 : Int64) (q3 : Int32) {h0 : Heap} {n0 : Nat} (Z0 : n0 ≤ h0.size) {T0 : State} {L0 : List Loc} (X0 : Stand p l e ({ frames := 0, cells := 0, slots := 0, locals := 0 } : Room) s m args below meth c T0 L0 0 0) (N0 : Fr n0 L0) (e0 : T0.heap = h0)  :
    own_Fin p.tables e below (own_End below s (own_P h0 n0 (some (.int (own_f1 q1 q2 q3)))) 0 0) T0 (mkF m 0 #[.val (.int q1), .val (.long q2), .second, .val (.int q3), .unset] []) := by
  refine own_iloadN X0 hx (hb hby d1_0) (pc' := 1) rfl rfl ?_
  refine own_iconst X0 hx (hb hby d1_1) (pc' := 2) rfl (v := (2 : Int32)) rfl ?_
  refine own_iloadN X0 hx (hb hby d1_2) (pc' := 3) rfl rfl ?_
  refine own_imul X0 hx (hb hby d1_3) (pc' := 4) rfl ?_
  refine own_iushr X0 hx (hb hby d1_4) (pc' := 5) rfl ?_
  refine own_iconst X0 hx (hb hby d1_5) (pc' := 6) rfl (v := (3 : Int32)) rfl ?_
  refine own_iand X0 hx (hb hby d1_6) (pc' := 7) rfl ?_
  refine own_istore X0 hx (hb hby d1_7) (pc' := 9) rfl (Ls' := #[.val (.int q1), .val (.long q2), .second, .val (.int q3), .val (.int ((own_ush32 q1 ((2 : Int32) * q3)) &&& (3 : Int32)))]) rfl ?_
  refine own_iload X0 hx (hb hby d1_9) (pc' := 11) rfl rfl ?_
  by_cases hc1 : ((own_ush32 q1 ((2 : Int32) * q3)) &&& (3 : Int32)) = (0 : Int32)
  · refine own_ifNo X0 hx (hb hby d1_11) (pc' := 14) rfl ((if0 _ _).trans (teq hc1).2) ?_
    refine own_bipush X0 hx (hb hby d1_14) (pc' := 16) rfl (v := (10 : Int32)) rfl ?_
    refine own_retN X0 hx (t := .byte) hret (by simp) hlk (hb hby d1_16) (by decide) (by decide) ?_
    show own_P _ _ _ _ T0.heap _
    exact ⟨(congrArg some (congrArg Value.int (show (nar .byte (10 : Int32)) = (own_f1 q1 q2 q3) from by rw [own_f1, if_pos hc1]))), N0, e0⟩
  · refine own_ifYes X0 hx (hb hby d1_11) ((if0 _ _).trans (feq hc1).2) (pc' := 17) (by decide) (by decide) ?_
    refine own_iload X0 hx (hb hby d1_17) (pc' := 19) rfl rfl ?_
    refine own_iconst X0 hx (hb hby d1_19) (pc' := 20) rfl (v := (1 : Int32)) rfl ?_
    by_cases hc2 : ((own_ush32 q1 ((2 : Int32) * q3)) &&& (3 : Int32)) = (1 : Int32)
    · refine own_icmpNo X0 hx (hb hby d1_20) (pc' := 23) rfl (teq hc2).2 ?_
      refine own_bipush X0 hx (hb hby d1_23) (pc' := 25) rfl (v := (13 : Int32)) rfl ?_
      refine own_retN X0 hx (t := .byte) hret (by simp) hlk (hb hby d1_25) (by decide) (by decide) ?_
      show own_P _ _ _ _ T0.heap _
      exact ⟨(congrArg some (congrArg Value.int (show (nar .byte (13 : Int32)) = (own_f1 q1 q2 q3) from by rw [own_f1, if_neg hc1, if_pos hc2]))), N0, e0⟩
    · refine own_icmpYes X0 hx (hb hby d1_20) (feq hc2).2 (pc' := 26) (by decide) (by decide) ?_
      refine own_lloadN X0 hx (hb hby d1_26) (pc' := 27) rfl rfl ?_
      refine own_bipush X0 hx (hb hby d1_27) (pc' := 29) rfl (v := (8 : Int32)) rfl ?_
      refine own_iloadN X0 hx (hb hby d1_29) (pc' := 30) rfl rfl ?_
      refine own_imul X0 hx (hb hby d1_30) (pc' := 31) rfl ?_
      refine own_lushr X0 hx (hb hby d1_31) (pc' := 32) rfl ?_
      refine own_l2i X0 hx (hb hby d1_32) (pc' := 33) rfl ?_
      refine own_i2b X0 hx (hb hby d1_33) (pc' := 34) rfl ?_
      refine own_retN X0 hx (t := .byte) hret (by simp) hlk (hb hby d1_34) (by decide) (by decide) ?_
      show own_P _ _ _ _ T0.heap _
      exact ⟨(congrArg some (congrArg Value.int (show (nar .byte (((own_ush64 q2 ((8 : Int32) * q3)).toInt32).toInt8.toInt32)) = (own_f1 q1 q2 q3) from by rw [own_f1, if_neg hc1, if_neg hc2]))), N0, e0⟩
theorem ef_1 (m : MethodId) (q1 : Int32) (q2 : Int64) (q3 : Int32) : entryFrame m #[(.int q1), (.long q2), (.int q3)] 5 = mkF m 0 #[.val (.int q1), .val (.long q2), .second, .val (.int q3), .unset] [] := by first | (simp [entryFrame, mkF, argsToLocals, Value.category]; done) | rfl
set_option maxRecDepth 65536 in
set_option maxHeartbeats 40000000 in
theorem rm1 (l : Launch) (Z : State) (a0 : Array Value) (hw : ∀ d ∈ tables_1, d.before a0 Z = true) (ws : List Jvm.Cond) (q1 : Int32) (q2 : Int64) (q3 : Int32) (h0 : Heap) (n0 : Nat) (Z0 : n0 ≤ h0.size)  :
    MetFree l (⟨"com/example/zhuanjie/zhuanjie/clearing/disputes/RequestHeadEndPinLaw", "pick", "(IJI)B"⟩ : MethodName) (head1 (Jvm.Cond.code (⟨"com/example/zhuanjie/zhuanjie/clearing/disputes/RequestHeadEndPinLaw", "pick", "(IJI)B"⟩ : MethodName) method_2_code 5 (some .byte) :: ws) ({ frames := 0, cells := 0, slots := 0, locals := 0 } : Room)) (fun a U => a = #[(.int q1), (.long q2), (.int q3)] ∧ Z.Warmed39 U.vm ∧ U.heap = h0) (fun _ _ _ _ _ => True) (fun _ U o U' => ∃ v L, o = .returned v ∧ (own_P h0 n0 (some (.int (own_f1 q1 q2 q3)))) v U'.heap L ∧ FrameEnd U o U' L ({ frames := 0, cells := 0, slots := 0, locals := 0 } : Room).cells ({ frames := 0, cells := 0, slots := 0, locals := 0 } : Room).slots) := by
  refine MetFree.of_bodySF (plainFor_of_name pn_1) hisR ?_
  intro p e s m args below meth c s₁ Bd hml0 hP hK
  obtain ⟨rfl, hZ, hh⟩ := hP
  have hown : s.vm.findClass "com/example/zhuanjie/zhuanjie/clearing/disputes/RequestHeadEndPinLaw" = some m.cls := findClass_of_methodNamed Bd.named
  have hnm := (name_of_methodNamed Bd.named Bd.method).1
  have X0 : Stand p l e ({ frames := 0, cells := 0, slots := 0, locals := 0 } : Room) s m #[(.int q1), (.long q2), (.int q3)] below meth c s₁ [] 0 0 := Stand.of_body Bd
  have e0 : s₁.heap = h0 := by rw [← hh, Bd.state]; rfl
  have H := sg1_0 l hw Bd.exec hZ Bd.bytes hml0 hown hnm Bd.returns Bd.notSynchronized q1 q2 q3 Z0 X0 (Fr.nil n0) e0
  obtain ⟨t, h1, h2, o, h3, h4⟩ := H
  exact ⟨t, o, castTop (ef_1 m q1 q2 q3) h1, h2, h3, h4⟩
theorem d2_0 : decode jdk_29_method_65_code 0 = .ok (.iload_n 0, 1) := by decide +kernel
theorem d2_1 : decode jdk_29_method_65_code 1 = .ok (.iload_n 1, 1) := by decide +kernel
theorem d2_2 : decode jdk_29_method_65_code 2 = .ok (.if_icmp .lt 7, 3) := by decide +kernel
theorem d2_5 : decode jdk_29_method_65_code 5 = .ok (.iload_n 0, 1) := by decide +kernel
theorem d2_6 : decode jdk_29_method_65_code 6 = .ok (.goto 4, 3) := by decide +kernel
theorem d2_9 : decode jdk_29_method_65_code 9 = .ok (.iload_n 1, 1) := by decide +kernel
theorem d2_10 : decode jdk_29_method_65_code 10 = .ok (.ireturn, 1) := by decide +kernel
def own_f2 (q1 : Int32) (q2 : Int32) : Int32 :=
  if q1 < q2 then q2 else
  q1
set_option maxRecDepth 65536 in
set_option maxHeartbeats 40000000 in
theorem sg2_0 {p : Program} (l : Launch) {e : Env} {s : State} {m : MethodId} {args : Array Value} {below : List Frame} {meth : Method} {c : Code} {Z : State} {a0 : Array Value} (hw : ∀ d ∈ tables_1, d.before a0 Z = true) (hx : p.tables.exec = Jvm.exec) (hZ : Z.Warmed39 s.vm) (hby : c.code = jdk_29_method_65_code) (hml : c.maxLocals = 2) (hown : s.vm.findClass "java/lang/Math" = some m.cls) (hnm : meth.name = "max") (hret : meth.sig.returnType = (some .int)) (hlk : meth.locks = false) (q1 : Int32) (q2 : Int32) {h0 : Heap} {n0 : Nat} (Z0 : n0 ≤ h0.size) {T0 : State} {L0 : List Loc} (X0 : Stand p l e ({ frames := 0, cells := 0, slots := 0, locals := 0 } : Room) s m args below meth c T0 L0 0 0) (N0 : Fr n0 L0) (e0 : T0.heap = h0)  :
    own_Fin p.tables e below (own_End below s (own_P h0 n0 (some (.int (own_f2 q1 q2)))) 0 0) T0 (mkF m 0 #[.val (.int q1), .val (.int q2)] []) := by
  refine own_iloadN X0 hx (hb hby d2_0) (pc' := 1) rfl rfl ?_
  refine own_iloadN X0 hx (hb hby d2_1) (pc' := 2) rfl rfl ?_
  by_cases hc3 : q1 < q2
  · refine own_icmpYes X0 hx (hb hby d2_2) (tlt hc3).1 (pc' := 9) (by decide) (by decide) ?_
    refine own_iloadN X0 hx (hb hby d2_9) (pc' := 10) rfl rfl ?_
    refine own_retI X0 hx hret hlk (hb hby d2_10) (by decide) (by decide) ?_
    show own_P _ _ _ _ T0.heap _
    exact ⟨(congrArg some (congrArg Value.int (show q2 = (own_f2 q1 q2) from by rw [own_f2, if_pos hc3]))), N0, e0⟩
  · refine own_icmpNo X0 hx (hb hby d2_2) (pc' := 5) rfl (flt hc3).1 ?_
    refine own_iloadN X0 hx (hb hby d2_5) (pc' := 6) rfl rfl ?_
    refine own_goto X0 hx (hb hby d2_6) (pc' := 10) (by decide) (by decide) ?_
    refine own_retI X0 hx hret hlk (hb hby d2_10) (by decide) (by decide) ?_
    show own_P _ _ _ _ T0.heap _
    exact ⟨(congrArg some (congrArg Value.int (show q1 = (own_f2 q1 q2) from by rw [own_f2, if_neg hc3]))), N0, e0⟩
theorem ef_2 (m : MethodId) (q1 : Int32) (q2 : Int32) : entryFrame m #[(.int q1), (.int q2)] 2 = mkF m 0 #[.val (.int q1), .val (.int q2)] [] := by first | (simp [entryFrame, mkF, argsToLocals, Value.category]; done) | rfl
set_option maxRecDepth 65536 in
set_option maxHeartbeats 40000000 in
theorem rm2 (l : Launch) (Z : State) (a0 : Array Value) (hw : ∀ d ∈ tables_1, d.before a0 Z = true) (ws : List Jvm.Cond) (q1 : Int32) (q2 : Int32) (h0 : Heap) (n0 : Nat) (Z0 : n0 ≤ h0.size)  :
    MetFree l (⟨"java/lang/Math", "max", "(II)I"⟩ : MethodName) (head1 (Jvm.Cond.code (⟨"java/lang/Math", "max", "(II)I"⟩ : MethodName) jdk_29_method_65_code 2 (some .int) :: ws) ({ frames := 0, cells := 0, slots := 0, locals := 0 } : Room)) (fun a U => a = #[(.int q1), (.int q2)] ∧ Z.Warmed39 U.vm ∧ U.heap = h0) (fun _ _ _ _ _ => True) (fun _ U o U' => ∃ v L, o = .returned v ∧ (own_P h0 n0 (some (.int (own_f2 q1 q2)))) v U'.heap L ∧ FrameEnd U o U' L ({ frames := 0, cells := 0, slots := 0, locals := 0 } : Room).cells ({ frames := 0, cells := 0, slots := 0, locals := 0 } : Room).slots) := by
  refine MetFree.of_bodySF (Jvm.Free.JP.mathPlain rfl (by decide +kernel)) hisR ?_
  intro p e s m args below meth c s₁ Bd hml0 hP hK
  obtain ⟨rfl, hZ, hh⟩ := hP
  have hown : s.vm.findClass "java/lang/Math" = some m.cls := findClass_of_methodNamed Bd.named
  have hnm := (name_of_methodNamed Bd.named Bd.method).1
  have X0 : Stand p l e ({ frames := 0, cells := 0, slots := 0, locals := 0 } : Room) s m #[(.int q1), (.int q2)] below meth c s₁ [] 0 0 := Stand.of_body Bd
  have e0 : s₁.heap = h0 := by rw [← hh, Bd.state]; rfl
  have H := sg2_0 l hw Bd.exec hZ Bd.bytes hml0 hown hnm Bd.returns Bd.notSynchronized q1 q2 Z0 X0 (Fr.nil n0) e0
  obtain ⟨t, h1, h2, o, h3, h4⟩ := H
  exact ⟨t, o, castTop (ef_2 m q1 q2) h1, h2, h3, h4⟩
theorem d3_0 : decode method_3_code 0 = .ok (.iload_n 1, 1) := by decide +kernel
theorem d3_1 : decode method_3_code 1 = .ok (.iload_n 3, 1) := by decide +kernel
theorem d3_2 : decode method_3_code 2 = .ok (.if_icmp .le 5, 3) := by decide +kernel
theorem d3_5 : decode method_3_code 5 = .ok (.iconst 0, 1) := by decide +kernel
theorem d3_6 : decode method_3_code 6 = .ok (.ireturn, 1) := by decide +kernel
theorem d3_7 : decode method_3_code 7 = .ok (.iload_n 1, 1) := by decide +kernel
theorem d3_8 : decode method_3_code 8 = .ok (.iconst 2, 1) := by decide +kernel
theorem d3_9 : decode method_3_code 9 = .ok (.isub, 1) := by decide +kernel
theorem d3_10 : decode method_3_code 10 = .ok (.iload_n 2, 1) := by decide +kernel
theorem d3_11 : decode method_3_code 11 = .ok (.if_icmp .lt 25, 3) := by decide +kernel
theorem d3_14 : decode method_3_code 14 = .ok (.aload_n 0, 1) := by decide +kernel
theorem d3_15 : decode method_3_code 15 = .ok (.iload_n 1, 1) := by decide +kernel
theorem d3_16 : decode method_3_code 16 = .ok (.iconst 1, 1) := by decide +kernel
theorem d3_17 : decode method_3_code 17 = .ok (.isub, 1) := by decide +kernel
theorem d3_18 : decode method_3_code 18 = .ok (.baload, 1) := by decide +kernel
theorem d3_19 : decode method_3_code 19 = .ok (.bipush 10, 2) := by decide +kernel
theorem d3_21 : decode method_3_code 21 = .ok (.if_icmp .ne 15, 3) := by decide +kernel
theorem d3_24 : decode method_3_code 24 = .ok (.aload_n 0, 1) := by decide +kernel
theorem d3_25 : decode method_3_code 25 = .ok (.iload_n 1, 1) := by decide +kernel
theorem d3_26 : decode method_3_code 26 = .ok (.iconst 2, 1) := by decide +kernel
theorem d3_27 : decode method_3_code 27 = .ok (.isub, 1) := by decide +kernel
theorem d3_28 : decode method_3_code 28 = .ok (.baload, 1) := by decide +kernel
theorem d3_29 : decode method_3_code 29 = .ok (.bipush 10, 2) := by decide +kernel
theorem d3_31 : decode method_3_code 31 = .ok (.if_icmp .ne 5, 3) := by decide +kernel
theorem d3_34 : decode method_3_code 34 = .ok (.iconst 1, 1) := by decide +kernel
theorem d3_35 : decode method_3_code 35 = .ok (.ireturn, 1) := by decide +kernel
theorem d3_36 : decode method_3_code 36 = .ok (.iload_n 1, 1) := by decide +kernel
theorem d3_37 : decode method_3_code 37 = .ok (.iconst 3, 1) := by decide +kernel
theorem d3_38 : decode method_3_code 38 = .ok (.if_icmp .lt 44, 3) := by decide +kernel
theorem d3_41 : decode method_3_code 41 = .ok (.iload_n 1, 1) := by decide +kernel
theorem d3_42 : decode method_3_code 42 = .ok (.iconst 3, 1) := by decide +kernel
theorem d3_43 : decode method_3_code 43 = .ok (.isub, 1) := by decide +kernel
theorem d3_44 : decode method_3_code 44 = .ok (.iload_n 2, 1) := by decide +kernel
theorem d3_45 : decode method_3_code 45 = .ok (.if_icmp .lt 37, 3) := by decide +kernel
theorem d3_48 : decode method_3_code 48 = .ok (.aload_n 0, 1) := by decide +kernel
theorem d3_49 : decode method_3_code 49 = .ok (.iload_n 1, 1) := by decide +kernel
theorem d3_50 : decode method_3_code 50 = .ok (.iconst 1, 1) := by decide +kernel
theorem d3_51 : decode method_3_code 51 = .ok (.isub, 1) := by decide +kernel
theorem d3_52 : decode method_3_code 52 = .ok (.baload, 1) := by decide +kernel
theorem d3_53 : decode method_3_code 53 = .ok (.bipush 10, 2) := by decide +kernel
theorem d3_55 : decode method_3_code 55 = .ok (.if_icmp .ne 27, 3) := by decide +kernel
theorem d3_58 : decode method_3_code 58 = .ok (.aload_n 0, 1) := by decide +kernel
theorem d3_59 : decode method_3_code 59 = .ok (.iload_n 1, 1) := by decide +kernel
theorem d3_60 : decode method_3_code 60 = .ok (.iconst 2, 1) := by decide +kernel
theorem d3_61 : decode method_3_code 61 = .ok (.isub, 1) := by decide +kernel
theorem d3_62 : decode method_3_code 62 = .ok (.baload, 1) := by decide +kernel
theorem d3_63 : decode method_3_code 63 = .ok (.bipush 13, 2) := by decide +kernel
theorem d3_65 : decode method_3_code 65 = .ok (.if_icmp .ne 17, 3) := by decide +kernel
theorem d3_68 : decode method_3_code 68 = .ok (.aload_n 0, 1) := by decide +kernel
theorem d3_69 : decode method_3_code 69 = .ok (.iload_n 1, 1) := by decide +kernel
theorem d3_70 : decode method_3_code 70 = .ok (.iconst 3, 1) := by decide +kernel
theorem d3_71 : decode method_3_code 71 = .ok (.isub, 1) := by decide +kernel
theorem d3_72 : decode method_3_code 72 = .ok (.baload, 1) := by decide +kernel
theorem d3_73 : decode method_3_code 73 = .ok (.bipush 10, 2) := by decide +kernel
theorem d3_75 : decode method_3_code 75 = .ok (.if_icmp .ne 7, 3) := by decide +kernel
theorem d3_78 : decode method_3_code 78 = .ok (.iconst 1, 1) := by decide +kernel
theorem d3_79 : decode method_3_code 79 = .ok (.goto 4, 3) := by decide +kernel
theorem d3_82 : decode method_3_code 82 = .ok (.iconst 0, 1) := by decide +kernel
theorem d3_83 : decode method_3_code 83 = .ok (.ireturn, 1) := by decide +kernel
theorem pn_3 : plainName "com/example/zhuanjie/zhuanjie/clearing/disputes/RequestHeadEndPinLaw" = true := by first | (simp [plainName, overriddenIn]; done) | decide +kernel
def own_f3p2 (q3 : Int32) (q4 : Int32) (w0_q1 : Int32) (w1_q1 : Int32) (w2_q1 : Int32) (w3_q1 : Int32) (w4_q1 : Int32) (w5_q1 : Int32) : Int32 :=
  if q4 < (2 : Int32) then (0 : Int32) else
  if (0 : Int32) < q3 then (0 : Int32) else
  if w1_q1 = (10 : Int32) then (if w0_q1 = (10 : Int32) then (1 : Int32) else
    (0 : Int32)) else
  (0 : Int32)
set_option maxRecDepth 65536 in
set_option maxHeartbeats 40000000 in
theorem sg3p2_0 {p : Program} (l : Launch) {e : Env} {s : State} {m : MethodId} {args : Array Value} {below : List Frame} {meth : Method} {c : Code} {Z : State} {a0 : Array Value} (hw : ∀ d ∈ tables_1, d.before a0 Z = true) (hx : p.tables.exec = Jvm.exec) (hZ : Z.Warmed39 s.vm) (hby : c.code = method_3_code) (hml : c.maxLocals = 4) (hown : s.vm.findClass "com/example/zhuanjie/zhuanjie/clearing/disputes/RequestHeadEndPinLaw" = some m.cls) (hnm : meth.name = "endsAt") (hret : meth.sig.returnType = (some .boolean)) (hlk : meth.locks = false) (q1 : Addr) (q3 : Int32) (q4 : Int32) (kc_q1 : ClassId) (w0_q1 : Int32) (w1_q1 : Int32) (w2_q1 : Int32) (w3_q1 : Int32) (w4_q1 : Int32) (w5_q1 : Int32) {h0 : Heap} {n0 : Nat} (Z0 : n0 ≤ h0.size) {T0 : State} {L0 : List Loc} (X0 : Stand p l e ({ frames := 0, cells := 0, slots := 0, locals := 0 } : Room) s m args below meth c T0 L0 0 0) (N0 : Fr n0 L0) (e0 : T0.heap = h0) (A_q1 : Arv Z h0 q1 kc_q1 .byte (6 : Int32) [(.int w0_q1), (.int w1_q1), (.int w2_q1), (.int w3_q1), (.int w4_q1), (.int w5_q1)] (.int (0 : Int32))) :
    own_Fin p.tables e below (own_End below s (own_P h0 n0 (some (.int (own_f3p2 q3 q4 w0_q1 w1_q1 w2_q1 w3_q1 w4_q1 w5_q1)))) 0 0) T0 (mkF m 0 #[.val (.ref q1), .val (.int (2 : Int32)), .val (.int q3), .val (.int q4)] []) := by
  refine own_iloadN X0 hx (hb hby d3_0) (pc' := 1) rfl rfl ?_
  refine own_iloadN X0 hx (hb hby d3_1) (pc' := 2) rfl rfl ?_
  by_cases hc4 : q4 < (2 : Int32)
  · refine own_icmpNo X0 hx (hb hby d3_2) (pc' := 5) rfl (tlt hc4).2.2.2 ?_
    refine own_iconst X0 hx (hb hby d3_5) (pc' := 6) rfl (v := (0 : Int32)) rfl ?_
    refine own_retN X0 hx (t := .boolean) hret (by simp) hlk (hb hby d3_6) (by decide) (by decide) ?_
    show own_P _ _ _ _ T0.heap _
    exact ⟨(congrArg some (congrArg Value.int (show _ = (own_f3p2 q3 q4 w0_q1 w1_q1 w2_q1 w3_q1 w4_q1 w5_q1) from by rw [own_f3p2, if_pos hc4]; rfl))), N0, e0⟩
  · refine own_icmpYes X0 hx (hb hby d3_2) (flt hc4).2.2.2 (pc' := 7) (by decide) (by decide) ?_
    refine own_iloadN X0 hx (hb hby d3_7) (pc' := 8) rfl rfl ?_
    refine own_iconst X0 hx (hb hby d3_8) (pc' := 9) rfl (v := (2 : Int32)) rfl ?_
    refine own_isub X0 hx (hb hby d3_9) (pc' := 10) rfl ?_
    show own_Fin _ _ _ _ T0 (mkF m 10 #[.val (.ref q1), .val (.int (2 : Int32)), .val (.int q3), .val (.int q4)] [(.int (0 : Int32))])
    refine own_iloadN X0 hx (hb hby d3_10) (pc' := 11) rfl rfl ?_
    by_cases hc5 : (0 : Int32) < q3
    · refine own_icmpYes X0 hx (hb hby d3_11) (tlt hc5).1 (pc' := 36) (by decide) (by decide) ?_
      refine own_iloadN X0 hx (hb hby d3_36) (pc' := 37) rfl rfl ?_
      refine own_iconst X0 hx (hb hby d3_37) (pc' := 38) rfl (v := (3 : Int32)) rfl ?_
      refine own_icmpYes X0 hx (hb hby d3_38) (tlt (by decide : (2 : Int32) < (3 : Int32))).1 (pc' := 82) (by decide) (by decide) ?_
      refine own_iconst X0 hx (hb hby d3_82) (pc' := 83) rfl (v := (0 : Int32)) rfl ?_
      refine own_retN X0 hx (t := .boolean) hret (by simp) hlk (hb hby d3_83) (by decide) (by decide) ?_
      show own_P _ _ _ _ T0.heap _
      exact ⟨(congrArg some (congrArg Value.int (show _ = (own_f3p2 q3 q4 w0_q1 w1_q1 w2_q1 w3_q1 w4_q1 w5_q1) from by rw [own_f3p2, if_neg hc4, if_pos hc5]; rfl))), N0, e0⟩
    · refine own_icmpNo X0 hx (hb hby d3_11) (pc' := 14) rfl (flt hc5).1 ?_
      refine own_aloadN X0 hx (hb hby d3_14) (pc' := 15) rfl rfl rfl ?_
      refine own_iloadN X0 hx (hb hby d3_15) (pc' := 16) rfl rfl ?_
      refine own_iconst X0 hx (hb hby d3_16) (pc' := 17) rfl (v := (1 : Int32)) rfl ?_
      refine own_isub X0 hx (hb hby d3_17) (pc' := 18) rfl ?_
      show own_Fin _ _ _ _ T0 (mkF m 18 #[.val (.ref q1), .val (.int (2 : Int32)), .val (.int q3), .val (.int q4)] [(.int (1 : Int32)), (.ref q1)])
      obtain ⟨cl6, Ar6, qa6, S6, M6, H6, G6⟩ := id A_q1
      have hin6 : ¬ ((1 : Int32) < 0 ∨ cl6.slots.size ≤ ((1 : Int32)).toNatClampNeg) := inb_of S6 ⟨by decide, by decide⟩
      refine own_st ?_ (fun t k => X0.baloadBytes hx (j := (1 : Int32)) (v := (.int w1_q1)) (by rw [e0]; exact Ar6.1) (State.isArrayOf_alike hZ.alike Ar6.2.1) Ar6.2.2 hin6 (Has.at H6 hin6 rfl) (g := (mkF m 18 #[.val (.ref q1), .val (.int (2 : Int32)), .val (.int q3), .val (.int q4)] [(.int (1 : Int32)), (.ref q1)])) rfl rfl (hb hby d3_18) t k)
      show own_Fin _ _ _ _ T0 (mkF m 19 #[.val (.ref q1), .val (.int (2 : Int32)), .val (.int q3), .val (.int q4)] [(.int w1_q1)])
      refine own_bipush X0 hx (hb hby d3_19) (pc' := 21) rfl (v := (10 : Int32)) rfl ?_
      by_cases hc7 : w1_q1 = (10 : Int32)
      · refine own_icmpNo X0 hx (hb hby d3_21) (pc' := 24) rfl (teq hc7).2 ?_
        refine own_aloadN X0 hx (hb hby d3_24) (pc' := 25) rfl rfl rfl ?_
        refine own_iloadN X0 hx (hb hby d3_25) (pc' := 26) rfl rfl ?_
        refine own_iconst X0 hx (hb hby d3_26) (pc' := 27) rfl (v := (2 : Int32)) rfl ?_
        refine own_isub X0 hx (hb hby d3_27) (pc' := 28) rfl ?_
        show own_Fin _ _ _ _ T0 (mkF m 28 #[.val (.ref q1), .val (.int (2 : Int32)), .val (.int q3), .val (.int q4)] [(.int (0 : Int32)), (.ref q1)])
        obtain ⟨cl8, Ar8, qa8, S8, M8, H8, G8⟩ := id A_q1
        have hin8 : ¬ ((0 : Int32) < 0 ∨ cl8.slots.size ≤ ((0 : Int32)).toNatClampNeg) := inb_of S8 ⟨by decide, by decide⟩
        refine own_st ?_ (fun t k => X0.baloadBytes hx (j := (0 : Int32)) (v := (.int w0_q1)) (by rw [e0]; exact Ar8.1) (State.isArrayOf_alike hZ.alike Ar8.2.1) Ar8.2.2 hin8 (Has.at H8 hin8 rfl) (g := (mkF m 28 #[.val (.ref q1), .val (.int (2 : Int32)), .val (.int q3), .val (.int q4)] [(.int (0 : Int32)), (.ref q1)])) rfl rfl (hb hby d3_28) t k)
        show own_Fin _ _ _ _ T0 (mkF m 29 #[.val (.ref q1), .val (.int (2 : Int32)), .val (.int q3), .val (.int q4)] [(.int w0_q1)])
        refine own_bipush X0 hx (hb hby d3_29) (pc' := 31) rfl (v := (10 : Int32)) rfl ?_
        by_cases hc9 : w0_q1 = (10 : Int32)
        · refine own_icmpNo X0 hx (hb hby d3_31) (pc' := 34) rfl (teq hc9).2 ?_
          refine own_iconst X0 hx (hb hby d3_34) (pc' := 35) rfl (v := (1 : Int32)) rfl ?_
          refine own_retN X0 hx (t := .boolean) hret (by simp) hlk (hb hby d3_35) (by decide) (by decide) ?_
          show own_P _ _ _ _ T0.heap _
          exact ⟨(congrArg some (congrArg Value.int (show _ = (own_f3p2 q3 q4 w0_q1 w1_q1 w2_q1 w3_q1 w4_q1 w5_q1) from by rw [own_f3p2, if_neg hc4, if_neg hc5, if_pos hc7, if_pos hc9]; rfl))), N0, e0⟩
        · refine own_icmpYes X0 hx (hb hby d3_31) (feq hc9).2 (pc' := 36) (by decide) (by decide) ?_
          refine own_iloadN X0 hx (hb hby d3_36) (pc' := 37) rfl rfl ?_
          refine own_iconst X0 hx (hb hby d3_37) (pc' := 38) rfl (v := (3 : Int32)) rfl ?_
          refine own_icmpYes X0 hx (hb hby d3_38) (tlt (by decide : (2 : Int32) < (3 : Int32))).1 (pc' := 82) (by decide) (by decide) ?_
          refine own_iconst X0 hx (hb hby d3_82) (pc' := 83) rfl (v := (0 : Int32)) rfl ?_
          refine own_retN X0 hx (t := .boolean) hret (by simp) hlk (hb hby d3_83) (by decide) (by decide) ?_
          show own_P _ _ _ _ T0.heap _
          exact ⟨(congrArg some (congrArg Value.int (show _ = (own_f3p2 q3 q4 w0_q1 w1_q1 w2_q1 w3_q1 w4_q1 w5_q1) from by rw [own_f3p2, if_neg hc4, if_neg hc5, if_pos hc7, if_neg hc9]; rfl))), N0, e0⟩
      · refine own_icmpYes X0 hx (hb hby d3_21) (feq hc7).2 (pc' := 36) (by decide) (by decide) ?_
        refine own_iloadN X0 hx (hb hby d3_36) (pc' := 37) rfl rfl ?_
        refine own_iconst X0 hx (hb hby d3_37) (pc' := 38) rfl (v := (3 : Int32)) rfl ?_
        refine own_icmpYes X0 hx (hb hby d3_38) (tlt (by decide : (2 : Int32) < (3 : Int32))).1 (pc' := 82) (by decide) (by decide) ?_
        refine own_iconst X0 hx (hb hby d3_82) (pc' := 83) rfl (v := (0 : Int32)) rfl ?_
        refine own_retN X0 hx (t := .boolean) hret (by simp) hlk (hb hby d3_83) (by decide) (by decide) ?_
        show own_P _ _ _ _ T0.heap _
        exact ⟨(congrArg some (congrArg Value.int (show _ = (own_f3p2 q3 q4 w0_q1 w1_q1 w2_q1 w3_q1 w4_q1 w5_q1) from by rw [own_f3p2, if_neg hc4, if_neg hc5, if_neg hc7]; rfl))), N0, e0⟩
theorem ef_3p2 (m : MethodId) (q1 : Addr) (q3 : Int32) (q4 : Int32) : entryFrame m #[(.ref q1), (.int (2 : Int32)), (.int q3), (.int q4)] 4 = mkF m 0 #[.val (.ref q1), .val (.int (2 : Int32)), .val (.int q3), .val (.int q4)] [] := by first | (simp [entryFrame, mkF, argsToLocals, Value.category]; done) | rfl
set_option maxRecDepth 65536 in
set_option maxHeartbeats 40000000 in
theorem rm3p2 (l : Launch) (Z : State) (a0 : Array Value) (hw : ∀ d ∈ tables_1, d.before a0 Z = true) (ws : List Jvm.Cond) (q1 : Addr) (q3 : Int32) (q4 : Int32) (kc_q1 : ClassId) (w0_q1 : Int32) (w1_q1 : Int32) (w2_q1 : Int32) (w3_q1 : Int32) (w4_q1 : Int32) (w5_q1 : Int32) (h0 : Heap) (n0 : Nat) (Z0 : n0 ≤ h0.size) (A_q1 : Arv Z h0 q1 kc_q1 .byte (6 : Int32) [(.int w0_q1), (.int w1_q1), (.int w2_q1), (.int w3_q1), (.int w4_q1), (.int w5_q1)] (.int (0 : Int32))) :
    MetFree l (⟨"com/example/zhuanjie/zhuanjie/clearing/disputes/RequestHeadEndPinLaw", "endsAt", "([BIII)Z"⟩ : MethodName) (head1 (Jvm.Cond.code (⟨"com/example/zhuanjie/zhuanjie/clearing/disputes/RequestHeadEndPinLaw", "endsAt", "([BIII)Z"⟩ : MethodName) method_3_code 4 (some .boolean) :: ws) ({ frames := 0, cells := 0, slots := 0, locals := 0 } : Room)) (fun a U => a = #[(.ref q1), (.int (2 : Int32)), (.int q3), (.int q4)] ∧ Z.Warmed39 U.vm ∧ U.heap = h0) (fun _ _ _ _ _ => True) (fun _ U o U' => ∃ v L, o = .returned v ∧ (own_P h0 n0 (some (.int (own_f3p2 q3 q4 w0_q1 w1_q1 w2_q1 w3_q1 w4_q1 w5_q1)))) v U'.heap L ∧ FrameEnd U o U' L ({ frames := 0, cells := 0, slots := 0, locals := 0 } : Room).cells ({ frames := 0, cells := 0, slots := 0, locals := 0 } : Room).slots) := by
  refine MetFree.of_bodySF (plainFor_of_name pn_3) hisR ?_
  intro p e s m args below meth c s₁ Bd hml0 hP hK
  obtain ⟨rfl, hZ, hh⟩ := hP
  have hown : s.vm.findClass "com/example/zhuanjie/zhuanjie/clearing/disputes/RequestHeadEndPinLaw" = some m.cls := findClass_of_methodNamed Bd.named
  have hnm := (name_of_methodNamed Bd.named Bd.method).1
  have X0 : Stand p l e ({ frames := 0, cells := 0, slots := 0, locals := 0 } : Room) s m #[(.ref q1), (.int (2 : Int32)), (.int q3), (.int q4)] below meth c s₁ [] 0 0 := Stand.of_body Bd
  have e0 : s₁.heap = h0 := by rw [← hh, Bd.state]; rfl
  have H := sg3p2_0 l hw Bd.exec hZ Bd.bytes hml0 hown hnm Bd.returns Bd.notSynchronized q1 q3 q4 kc_q1 w0_q1 w1_q1 w2_q1 w3_q1 w4_q1 w5_q1 Z0 X0 (Fr.nil n0) e0 A_q1
  obtain ⟨t, h1, h2, o, h3, h4⟩ := H
  exact ⟨t, o, castTop (ef_3p2 m q1 q3 q4) h1, h2, h3, h4⟩
def own_f3p3 (q3 : Int32) (q4 : Int32) (w0_q1 : Int32) (w1_q1 : Int32) (w2_q1 : Int32) (w3_q1 : Int32) (w4_q1 : Int32) (w5_q1 : Int32) : Int32 :=
  if q4 < (3 : Int32) then (0 : Int32) else
  if (1 : Int32) < q3 then (0 : Int32) else
  if w2_q1 = (10 : Int32) then (if w1_q1 = (10 : Int32) then (1 : Int32) else
    if (0 : Int32) < q3 then (0 : Int32) else
    if w1_q1 = (13 : Int32) then (if w0_q1 = (10 : Int32) then (1 : Int32) else
    (0 : Int32)) else
    (0 : Int32)) else
  if (0 : Int32) < q3 then (0 : Int32) else
  (0 : Int32)
set_option maxRecDepth 65536 in
set_option maxHeartbeats 40000000 in
theorem sg3p3_0 {p : Program} (l : Launch) {e : Env} {s : State} {m : MethodId} {args : Array Value} {below : List Frame} {meth : Method} {c : Code} {Z : State} {a0 : Array Value} (hw : ∀ d ∈ tables_1, d.before a0 Z = true) (hx : p.tables.exec = Jvm.exec) (hZ : Z.Warmed39 s.vm) (hby : c.code = method_3_code) (hml : c.maxLocals = 4) (hown : s.vm.findClass "com/example/zhuanjie/zhuanjie/clearing/disputes/RequestHeadEndPinLaw" = some m.cls) (hnm : meth.name = "endsAt") (hret : meth.sig.returnType = (some .boolean)) (hlk : meth.locks = false) (q1 : Addr) (q3 : Int32) (q4 : Int32) (kc_q1 : ClassId) (w0_q1 : Int32) (w1_q1 : Int32) (w2_q1 : Int32) (w3_q1 : Int32) (w4_q1 : Int32) (w5_q1 : Int32) {h0 : Heap} {n0 : Nat} (Z0 : n0 ≤ h0.size) {T0 : State} {L0 : List Loc} (X0 : Stand p l e ({ frames := 0, cells := 0, slots := 0, locals := 0 } : Room) s m args below meth c T0 L0 0 0) (N0 : Fr n0 L0) (e0 : T0.heap = h0) (A_q1 : Arv Z h0 q1 kc_q1 .byte (6 : Int32) [(.int w0_q1), (.int w1_q1), (.int w2_q1), (.int w3_q1), (.int w4_q1), (.int w5_q1)] (.int (0 : Int32))) :
    own_Fin p.tables e below (own_End below s (own_P h0 n0 (some (.int (own_f3p3 q3 q4 w0_q1 w1_q1 w2_q1 w3_q1 w4_q1 w5_q1)))) 0 0) T0 (mkF m 0 #[.val (.ref q1), .val (.int (3 : Int32)), .val (.int q3), .val (.int q4)] []) := by
  refine own_iloadN X0 hx (hb hby d3_0) (pc' := 1) rfl rfl ?_
  refine own_iloadN X0 hx (hb hby d3_1) (pc' := 2) rfl rfl ?_
  by_cases hc10 : q4 < (3 : Int32)
  · refine own_icmpNo X0 hx (hb hby d3_2) (pc' := 5) rfl (tlt hc10).2.2.2 ?_
    refine own_iconst X0 hx (hb hby d3_5) (pc' := 6) rfl (v := (0 : Int32)) rfl ?_
    refine own_retN X0 hx (t := .boolean) hret (by simp) hlk (hb hby d3_6) (by decide) (by decide) ?_
    show own_P _ _ _ _ T0.heap _
    exact ⟨(congrArg some (congrArg Value.int (show _ = (own_f3p3 q3 q4 w0_q1 w1_q1 w2_q1 w3_q1 w4_q1 w5_q1) from by rw [own_f3p3, if_pos hc10]; rfl))), N0, e0⟩
  · refine own_icmpYes X0 hx (hb hby d3_2) (flt hc10).2.2.2 (pc' := 7) (by decide) (by decide) ?_
    refine own_iloadN X0 hx (hb hby d3_7) (pc' := 8) rfl rfl ?_
    refine own_iconst X0 hx (hb hby d3_8) (pc' := 9) rfl (v := (2 : Int32)) rfl ?_
    refine own_isub X0 hx (hb hby d3_9) (pc' := 10) rfl ?_
    show own_Fin _ _ _ _ T0 (mkF m 10 #[.val (.ref q1), .val (.int (3 : Int32)), .val (.int q3), .val (.int q4)] [(.int (1 : Int32))])
    refine own_iloadN X0 hx (hb hby d3_10) (pc' := 11) rfl rfl ?_
    by_cases hc11 : (1 : Int32) < q3
    · refine own_icmpYes X0 hx (hb hby d3_11) (tlt hc11).1 (pc' := 36) (by decide) (by decide) ?_
      refine own_iloadN X0 hx (hb hby d3_36) (pc' := 37) rfl rfl ?_
      refine own_iconst X0 hx (hb hby d3_37) (pc' := 38) rfl (v := (3 : Int32)) rfl ?_
      refine own_icmpNo X0 hx (hb hby d3_38) (pc' := 41) rfl (flt (by decide : ¬ ((3 : Int32) < (3 : Int32)))).1 ?_
      refine own_iloadN X0 hx (hb hby d3_41) (pc' := 42) rfl rfl ?_
      refine own_iconst X0 hx (hb hby d3_42) (pc' := 43) rfl (v := (3 : Int32)) rfl ?_
      refine own_isub X0 hx (hb hby d3_43) (pc' := 44) rfl ?_
      show own_Fin _ _ _ _ T0 (mkF m 44 #[.val (.ref q1), .val (.int (3 : Int32)), .val (.int q3), .val (.int q4)] [(.int (0 : Int32))])
      refine own_iloadN X0 hx (hb hby d3_44) (pc' := 45) rfl rfl ?_
      refine own_icmpYes X0 hx (hb hby d3_45) (tlt (Int32.lt_of_le_of_lt (by decide) hc11)).1 (pc' := 82) (by decide) (by decide) ?_
      refine own_iconst X0 hx (hb hby d3_82) (pc' := 83) rfl (v := (0 : Int32)) rfl ?_
      refine own_retN X0 hx (t := .boolean) hret (by simp) hlk (hb hby d3_83) (by decide) (by decide) ?_
      show own_P _ _ _ _ T0.heap _
      exact ⟨(congrArg some (congrArg Value.int (show _ = (own_f3p3 q3 q4 w0_q1 w1_q1 w2_q1 w3_q1 w4_q1 w5_q1) from by rw [own_f3p3, if_neg hc10, if_pos hc11]; rfl))), N0, e0⟩
    · refine own_icmpNo X0 hx (hb hby d3_11) (pc' := 14) rfl (flt hc11).1 ?_
      refine own_aloadN X0 hx (hb hby d3_14) (pc' := 15) rfl rfl rfl ?_
      refine own_iloadN X0 hx (hb hby d3_15) (pc' := 16) rfl rfl ?_
      refine own_iconst X0 hx (hb hby d3_16) (pc' := 17) rfl (v := (1 : Int32)) rfl ?_
      refine own_isub X0 hx (hb hby d3_17) (pc' := 18) rfl ?_
      show own_Fin _ _ _ _ T0 (mkF m 18 #[.val (.ref q1), .val (.int (3 : Int32)), .val (.int q3), .val (.int q4)] [(.int (2 : Int32)), (.ref q1)])
      obtain ⟨cl12, Ar12, qa12, S12, M12, H12, G12⟩ := id A_q1
      have hin12 : ¬ ((2 : Int32) < 0 ∨ cl12.slots.size ≤ ((2 : Int32)).toNatClampNeg) := inb_of S12 ⟨by decide, by decide⟩
      refine own_st ?_ (fun t k => X0.baloadBytes hx (j := (2 : Int32)) (v := (.int w2_q1)) (by rw [e0]; exact Ar12.1) (State.isArrayOf_alike hZ.alike Ar12.2.1) Ar12.2.2 hin12 (Has.at H12 hin12 rfl) (g := (mkF m 18 #[.val (.ref q1), .val (.int (3 : Int32)), .val (.int q3), .val (.int q4)] [(.int (2 : Int32)), (.ref q1)])) rfl rfl (hb hby d3_18) t k)
      show own_Fin _ _ _ _ T0 (mkF m 19 #[.val (.ref q1), .val (.int (3 : Int32)), .val (.int q3), .val (.int q4)] [(.int w2_q1)])
      refine own_bipush X0 hx (hb hby d3_19) (pc' := 21) rfl (v := (10 : Int32)) rfl ?_
      by_cases hc13 : w2_q1 = (10 : Int32)
      · refine own_icmpNo X0 hx (hb hby d3_21) (pc' := 24) rfl (teq hc13).2 ?_
        refine own_aloadN X0 hx (hb hby d3_24) (pc' := 25) rfl rfl rfl ?_
        refine own_iloadN X0 hx (hb hby d3_25) (pc' := 26) rfl rfl ?_
        refine own_iconst X0 hx (hb hby d3_26) (pc' := 27) rfl (v := (2 : Int32)) rfl ?_
        refine own_isub X0 hx (hb hby d3_27) (pc' := 28) rfl ?_
        show own_Fin _ _ _ _ T0 (mkF m 28 #[.val (.ref q1), .val (.int (3 : Int32)), .val (.int q3), .val (.int q4)] [(.int (1 : Int32)), (.ref q1)])
        obtain ⟨cl14, Ar14, qa14, S14, M14, H14, G14⟩ := id A_q1
        have hin14 : ¬ ((1 : Int32) < 0 ∨ cl14.slots.size ≤ ((1 : Int32)).toNatClampNeg) := inb_of S14 ⟨by decide, by decide⟩
        refine own_st ?_ (fun t k => X0.baloadBytes hx (j := (1 : Int32)) (v := (.int w1_q1)) (by rw [e0]; exact Ar14.1) (State.isArrayOf_alike hZ.alike Ar14.2.1) Ar14.2.2 hin14 (Has.at H14 hin14 rfl) (g := (mkF m 28 #[.val (.ref q1), .val (.int (3 : Int32)), .val (.int q3), .val (.int q4)] [(.int (1 : Int32)), (.ref q1)])) rfl rfl (hb hby d3_28) t k)
        show own_Fin _ _ _ _ T0 (mkF m 29 #[.val (.ref q1), .val (.int (3 : Int32)), .val (.int q3), .val (.int q4)] [(.int w1_q1)])
        refine own_bipush X0 hx (hb hby d3_29) (pc' := 31) rfl (v := (10 : Int32)) rfl ?_
        by_cases hc15 : w1_q1 = (10 : Int32)
        · refine own_icmpNo X0 hx (hb hby d3_31) (pc' := 34) rfl (teq hc15).2 ?_
          refine own_iconst X0 hx (hb hby d3_34) (pc' := 35) rfl (v := (1 : Int32)) rfl ?_
          refine own_retN X0 hx (t := .boolean) hret (by simp) hlk (hb hby d3_35) (by decide) (by decide) ?_
          show own_P _ _ _ _ T0.heap _
          exact ⟨(congrArg some (congrArg Value.int (show _ = (own_f3p3 q3 q4 w0_q1 w1_q1 w2_q1 w3_q1 w4_q1 w5_q1) from by rw [own_f3p3, if_neg hc10, if_neg hc11, if_pos hc13, if_pos hc15]; rfl))), N0, e0⟩
        · refine own_icmpYes X0 hx (hb hby d3_31) (feq hc15).2 (pc' := 36) (by decide) (by decide) ?_
          refine own_iloadN X0 hx (hb hby d3_36) (pc' := 37) rfl rfl ?_
          refine own_iconst X0 hx (hb hby d3_37) (pc' := 38) rfl (v := (3 : Int32)) rfl ?_
          refine own_icmpNo X0 hx (hb hby d3_38) (pc' := 41) rfl (flt (by decide : ¬ ((3 : Int32) < (3 : Int32)))).1 ?_
          refine own_iloadN X0 hx (hb hby d3_41) (pc' := 42) rfl rfl ?_
          refine own_iconst X0 hx (hb hby d3_42) (pc' := 43) rfl (v := (3 : Int32)) rfl ?_
          refine own_isub X0 hx (hb hby d3_43) (pc' := 44) rfl ?_
          show own_Fin _ _ _ _ T0 (mkF m 44 #[.val (.ref q1), .val (.int (3 : Int32)), .val (.int q3), .val (.int q4)] [(.int (0 : Int32))])
          refine own_iloadN X0 hx (hb hby d3_44) (pc' := 45) rfl rfl ?_
          by_cases hc16 : (0 : Int32) < q3
          · refine own_icmpYes X0 hx (hb hby d3_45) (tlt hc16).1 (pc' := 82) (by decide) (by decide) ?_
            refine own_iconst X0 hx (hb hby d3_82) (pc' := 83) rfl (v := (0 : Int32)) rfl ?_
            refine own_retN X0 hx (t := .boolean) hret (by simp) hlk (hb hby d3_83) (by decide) (by decide) ?_
            show own_P _ _ _ _ T0.heap _
            exact ⟨(congrArg some (congrArg Value.int (show _ = (own_f3p3 q3 q4 w0_q1 w1_q1 w2_q1 w3_q1 w4_q1 w5_q1) from by rw [own_f3p3, if_neg hc10, if_neg hc11, if_pos hc13, if_neg hc15, if_pos hc16]; rfl))), N0, e0⟩
          · refine own_icmpNo X0 hx (hb hby d3_45) (pc' := 48) rfl (flt hc16).1 ?_
            refine own_aloadN X0 hx (hb hby d3_48) (pc' := 49) rfl rfl rfl ?_
            refine own_iloadN X0 hx (hb hby d3_49) (pc' := 50) rfl rfl ?_
            refine own_iconst X0 hx (hb hby d3_50) (pc' := 51) rfl (v := (1 : Int32)) rfl ?_
            refine own_isub X0 hx (hb hby d3_51) (pc' := 52) rfl ?_
            show own_Fin _ _ _ _ T0 (mkF m 52 #[.val (.ref q1), .val (.int (3 : Int32)), .val (.int q3), .val (.int q4)] [(.int (2 : Int32)), (.ref q1)])
            obtain ⟨cl17, Ar17, qa17, S17, M17, H17, G17⟩ := id A_q1
            have hin17 : ¬ ((2 : Int32) < 0 ∨ cl17.slots.size ≤ ((2 : Int32)).toNatClampNeg) := inb_of S17 ⟨by decide, by decide⟩
            refine own_st ?_ (fun t k => X0.baloadBytes hx (j := (2 : Int32)) (v := (.int w2_q1)) (by rw [e0]; exact Ar17.1) (State.isArrayOf_alike hZ.alike Ar17.2.1) Ar17.2.2 hin17 (Has.at H17 hin17 rfl) (g := (mkF m 52 #[.val (.ref q1), .val (.int (3 : Int32)), .val (.int q3), .val (.int q4)] [(.int (2 : Int32)), (.ref q1)])) rfl rfl (hb hby d3_52) t k)
            show own_Fin _ _ _ _ T0 (mkF m 53 #[.val (.ref q1), .val (.int (3 : Int32)), .val (.int q3), .val (.int q4)] [(.int w2_q1)])
            refine own_bipush X0 hx (hb hby d3_53) (pc' := 55) rfl (v := (10 : Int32)) rfl ?_
            refine own_icmpNo X0 hx (hb hby d3_55) (pc' := 58) rfl (teq hc13).2 ?_
            refine own_aloadN X0 hx (hb hby d3_58) (pc' := 59) rfl rfl rfl ?_
            refine own_iloadN X0 hx (hb hby d3_59) (pc' := 60) rfl rfl ?_
            refine own_iconst X0 hx (hb hby d3_60) (pc' := 61) rfl (v := (2 : Int32)) rfl ?_
            refine own_isub X0 hx (hb hby d3_61) (pc' := 62) rfl ?_
            show own_Fin _ _ _ _ T0 (mkF m 62 #[.val (.ref q1), .val (.int (3 : Int32)), .val (.int q3), .val (.int q4)] [(.int (1 : Int32)), (.ref q1)])
            obtain ⟨cl18, Ar18, qa18, S18, M18, H18, G18⟩ := id A_q1
            have hin18 : ¬ ((1 : Int32) < 0 ∨ cl18.slots.size ≤ ((1 : Int32)).toNatClampNeg) := inb_of S18 ⟨by decide, by decide⟩
            refine own_st ?_ (fun t k => X0.baloadBytes hx (j := (1 : Int32)) (v := (.int w1_q1)) (by rw [e0]; exact Ar18.1) (State.isArrayOf_alike hZ.alike Ar18.2.1) Ar18.2.2 hin18 (Has.at H18 hin18 rfl) (g := (mkF m 62 #[.val (.ref q1), .val (.int (3 : Int32)), .val (.int q3), .val (.int q4)] [(.int (1 : Int32)), (.ref q1)])) rfl rfl (hb hby d3_62) t k)
            show own_Fin _ _ _ _ T0 (mkF m 63 #[.val (.ref q1), .val (.int (3 : Int32)), .val (.int q3), .val (.int q4)] [(.int w1_q1)])
            refine own_bipush X0 hx (hb hby d3_63) (pc' := 65) rfl (v := (13 : Int32)) rfl ?_
            by_cases hc19 : w1_q1 = (13 : Int32)
            · refine own_icmpNo X0 hx (hb hby d3_65) (pc' := 68) rfl (teq hc19).2 ?_
              refine own_aloadN X0 hx (hb hby d3_68) (pc' := 69) rfl rfl rfl ?_
              refine own_iloadN X0 hx (hb hby d3_69) (pc' := 70) rfl rfl ?_
              refine own_iconst X0 hx (hb hby d3_70) (pc' := 71) rfl (v := (3 : Int32)) rfl ?_
              refine own_isub X0 hx (hb hby d3_71) (pc' := 72) rfl ?_
              show own_Fin _ _ _ _ T0 (mkF m 72 #[.val (.ref q1), .val (.int (3 : Int32)), .val (.int q3), .val (.int q4)] [(.int (0 : Int32)), (.ref q1)])
              obtain ⟨cl20, Ar20, qa20, S20, M20, H20, G20⟩ := id A_q1
              have hin20 : ¬ ((0 : Int32) < 0 ∨ cl20.slots.size ≤ ((0 : Int32)).toNatClampNeg) := inb_of S20 ⟨by decide, by decide⟩
              refine own_st ?_ (fun t k => X0.baloadBytes hx (j := (0 : Int32)) (v := (.int w0_q1)) (by rw [e0]; exact Ar20.1) (State.isArrayOf_alike hZ.alike Ar20.2.1) Ar20.2.2 hin20 (Has.at H20 hin20 rfl) (g := (mkF m 72 #[.val (.ref q1), .val (.int (3 : Int32)), .val (.int q3), .val (.int q4)] [(.int (0 : Int32)), (.ref q1)])) rfl rfl (hb hby d3_72) t k)
              show own_Fin _ _ _ _ T0 (mkF m 73 #[.val (.ref q1), .val (.int (3 : Int32)), .val (.int q3), .val (.int q4)] [(.int w0_q1)])
              refine own_bipush X0 hx (hb hby d3_73) (pc' := 75) rfl (v := (10 : Int32)) rfl ?_
              by_cases hc21 : w0_q1 = (10 : Int32)
              · refine own_icmpNo X0 hx (hb hby d3_75) (pc' := 78) rfl (teq hc21).2 ?_
                refine own_iconst X0 hx (hb hby d3_78) (pc' := 79) rfl (v := (1 : Int32)) rfl ?_
                refine own_goto X0 hx (hb hby d3_79) (pc' := 83) (by decide) (by decide) ?_
                refine own_retN X0 hx (t := .boolean) hret (by simp) hlk (hb hby d3_83) (by decide) (by decide) ?_
                show own_P _ _ _ _ T0.heap _
                exact ⟨(congrArg some (congrArg Value.int (show _ = (own_f3p3 q3 q4 w0_q1 w1_q1 w2_q1 w3_q1 w4_q1 w5_q1) from by rw [own_f3p3, if_neg hc10, if_neg hc11, if_pos hc13, if_neg hc15, if_neg hc16, if_pos hc19, if_pos hc21]; rfl))), N0, e0⟩
              · refine own_icmpYes X0 hx (hb hby d3_75) (feq hc21).2 (pc' := 82) (by decide) (by decide) ?_
                refine own_iconst X0 hx (hb hby d3_82) (pc' := 83) rfl (v := (0 : Int32)) rfl ?_
                refine own_retN X0 hx (t := .boolean) hret (by simp) hlk (hb hby d3_83) (by decide) (by decide) ?_
                show own_P _ _ _ _ T0.heap _
                exact ⟨(congrArg some (congrArg Value.int (show _ = (own_f3p3 q3 q4 w0_q1 w1_q1 w2_q1 w3_q1 w4_q1 w5_q1) from by rw [own_f3p3, if_neg hc10, if_neg hc11, if_pos hc13, if_neg hc15, if_neg hc16, if_pos hc19, if_neg hc21]; rfl))), N0, e0⟩
            · refine own_icmpYes X0 hx (hb hby d3_65) (feq hc19).2 (pc' := 82) (by decide) (by decide) ?_
              refine own_iconst X0 hx (hb hby d3_82) (pc' := 83) rfl (v := (0 : Int32)) rfl ?_
              refine own_retN X0 hx (t := .boolean) hret (by simp) hlk (hb hby d3_83) (by decide) (by decide) ?_
              show own_P _ _ _ _ T0.heap _
              exact ⟨(congrArg some (congrArg Value.int (show _ = (own_f3p3 q3 q4 w0_q1 w1_q1 w2_q1 w3_q1 w4_q1 w5_q1) from by rw [own_f3p3, if_neg hc10, if_neg hc11, if_pos hc13, if_neg hc15, if_neg hc16, if_neg hc19]; rfl))), N0, e0⟩
      · refine own_icmpYes X0 hx (hb hby d3_21) (feq hc13).2 (pc' := 36) (by decide) (by decide) ?_
        refine own_iloadN X0 hx (hb hby d3_36) (pc' := 37) rfl rfl ?_
        refine own_iconst X0 hx (hb hby d3_37) (pc' := 38) rfl (v := (3 : Int32)) rfl ?_
        refine own_icmpNo X0 hx (hb hby d3_38) (pc' := 41) rfl (flt (by decide : ¬ ((3 : Int32) < (3 : Int32)))).1 ?_
        refine own_iloadN X0 hx (hb hby d3_41) (pc' := 42) rfl rfl ?_
        refine own_iconst X0 hx (hb hby d3_42) (pc' := 43) rfl (v := (3 : Int32)) rfl ?_
        refine own_isub X0 hx (hb hby d3_43) (pc' := 44) rfl ?_
        show own_Fin _ _ _ _ T0 (mkF m 44 #[.val (.ref q1), .val (.int (3 : Int32)), .val (.int q3), .val (.int q4)] [(.int (0 : Int32))])
        refine own_iloadN X0 hx (hb hby d3_44) (pc' := 45) rfl rfl ?_
        by_cases hc22 : (0 : Int32) < q3
        · refine own_icmpYes X0 hx (hb hby d3_45) (tlt hc22).1 (pc' := 82) (by decide) (by decide) ?_
          refine own_iconst X0 hx (hb hby d3_82) (pc' := 83) rfl (v := (0 : Int32)) rfl ?_
          refine own_retN X0 hx (t := .boolean) hret (by simp) hlk (hb hby d3_83) (by decide) (by decide) ?_
          show own_P _ _ _ _ T0.heap _
          exact ⟨(congrArg some (congrArg Value.int (show _ = (own_f3p3 q3 q4 w0_q1 w1_q1 w2_q1 w3_q1 w4_q1 w5_q1) from by rw [own_f3p3, if_neg hc10, if_neg hc11, if_neg hc13, if_pos hc22]; rfl))), N0, e0⟩
        · refine own_icmpNo X0 hx (hb hby d3_45) (pc' := 48) rfl (flt hc22).1 ?_
          refine own_aloadN X0 hx (hb hby d3_48) (pc' := 49) rfl rfl rfl ?_
          refine own_iloadN X0 hx (hb hby d3_49) (pc' := 50) rfl rfl ?_
          refine own_iconst X0 hx (hb hby d3_50) (pc' := 51) rfl (v := (1 : Int32)) rfl ?_
          refine own_isub X0 hx (hb hby d3_51) (pc' := 52) rfl ?_
          show own_Fin _ _ _ _ T0 (mkF m 52 #[.val (.ref q1), .val (.int (3 : Int32)), .val (.int q3), .val (.int q4)] [(.int (2 : Int32)), (.ref q1)])
          obtain ⟨cl23, Ar23, qa23, S23, M23, H23, G23⟩ := id A_q1
          have hin23 : ¬ ((2 : Int32) < 0 ∨ cl23.slots.size ≤ ((2 : Int32)).toNatClampNeg) := inb_of S23 ⟨by decide, by decide⟩
          refine own_st ?_ (fun t k => X0.baloadBytes hx (j := (2 : Int32)) (v := (.int w2_q1)) (by rw [e0]; exact Ar23.1) (State.isArrayOf_alike hZ.alike Ar23.2.1) Ar23.2.2 hin23 (Has.at H23 hin23 rfl) (g := (mkF m 52 #[.val (.ref q1), .val (.int (3 : Int32)), .val (.int q3), .val (.int q4)] [(.int (2 : Int32)), (.ref q1)])) rfl rfl (hb hby d3_52) t k)
          show own_Fin _ _ _ _ T0 (mkF m 53 #[.val (.ref q1), .val (.int (3 : Int32)), .val (.int q3), .val (.int q4)] [(.int w2_q1)])
          refine own_bipush X0 hx (hb hby d3_53) (pc' := 55) rfl (v := (10 : Int32)) rfl ?_
          refine own_icmpYes X0 hx (hb hby d3_55) (feq hc13).2 (pc' := 82) (by decide) (by decide) ?_
          refine own_iconst X0 hx (hb hby d3_82) (pc' := 83) rfl (v := (0 : Int32)) rfl ?_
          refine own_retN X0 hx (t := .boolean) hret (by simp) hlk (hb hby d3_83) (by decide) (by decide) ?_
          show own_P _ _ _ _ T0.heap _
          exact ⟨(congrArg some (congrArg Value.int (show _ = (own_f3p3 q3 q4 w0_q1 w1_q1 w2_q1 w3_q1 w4_q1 w5_q1) from by rw [own_f3p3, if_neg hc10, if_neg hc11, if_neg hc13, if_neg hc22]; rfl))), N0, e0⟩
theorem ef_3p3 (m : MethodId) (q1 : Addr) (q3 : Int32) (q4 : Int32) : entryFrame m #[(.ref q1), (.int (3 : Int32)), (.int q3), (.int q4)] 4 = mkF m 0 #[.val (.ref q1), .val (.int (3 : Int32)), .val (.int q3), .val (.int q4)] [] := by first | (simp [entryFrame, mkF, argsToLocals, Value.category]; done) | rfl
set_option maxRecDepth 65536 in
set_option maxHeartbeats 40000000 in
theorem rm3p3 (l : Launch) (Z : State) (a0 : Array Value) (hw : ∀ d ∈ tables_1, d.before a0 Z = true) (ws : List Jvm.Cond) (q1 : Addr) (q3 : Int32) (q4 : Int32) (kc_q1 : ClassId) (w0_q1 : Int32) (w1_q1 : Int32) (w2_q1 : Int32) (w3_q1 : Int32) (w4_q1 : Int32) (w5_q1 : Int32) (h0 : Heap) (n0 : Nat) (Z0 : n0 ≤ h0.size) (A_q1 : Arv Z h0 q1 kc_q1 .byte (6 : Int32) [(.int w0_q1), (.int w1_q1), (.int w2_q1), (.int w3_q1), (.int w4_q1), (.int w5_q1)] (.int (0 : Int32))) :
    MetFree l (⟨"com/example/zhuanjie/zhuanjie/clearing/disputes/RequestHeadEndPinLaw", "endsAt", "([BIII)Z"⟩ : MethodName) (head1 (Jvm.Cond.code (⟨"com/example/zhuanjie/zhuanjie/clearing/disputes/RequestHeadEndPinLaw", "endsAt", "([BIII)Z"⟩ : MethodName) method_3_code 4 (some .boolean) :: ws) ({ frames := 0, cells := 0, slots := 0, locals := 0 } : Room)) (fun a U => a = #[(.ref q1), (.int (3 : Int32)), (.int q3), (.int q4)] ∧ Z.Warmed39 U.vm ∧ U.heap = h0) (fun _ _ _ _ _ => True) (fun _ U o U' => ∃ v L, o = .returned v ∧ (own_P h0 n0 (some (.int (own_f3p3 q3 q4 w0_q1 w1_q1 w2_q1 w3_q1 w4_q1 w5_q1)))) v U'.heap L ∧ FrameEnd U o U' L ({ frames := 0, cells := 0, slots := 0, locals := 0 } : Room).cells ({ frames := 0, cells := 0, slots := 0, locals := 0 } : Room).slots) := by
  refine MetFree.of_bodySF (plainFor_of_name pn_3) hisR ?_
  intro p e s m args below meth c s₁ Bd hml0 hP hK
  obtain ⟨rfl, hZ, hh⟩ := hP
  have hown : s.vm.findClass "com/example/zhuanjie/zhuanjie/clearing/disputes/RequestHeadEndPinLaw" = some m.cls := findClass_of_methodNamed Bd.named
  have hnm := (name_of_methodNamed Bd.named Bd.method).1
  have X0 : Stand p l e ({ frames := 0, cells := 0, slots := 0, locals := 0 } : Room) s m #[(.ref q1), (.int (3 : Int32)), (.int q3), (.int q4)] below meth c s₁ [] 0 0 := Stand.of_body Bd
  have e0 : s₁.heap = h0 := by rw [← hh, Bd.state]; rfl
  have H := sg3p3_0 l hw Bd.exec hZ Bd.bytes hml0 hown hnm Bd.returns Bd.notSynchronized q1 q3 q4 kc_q1 w0_q1 w1_q1 w2_q1 w3_q1 w4_q1 w5_q1 Z0 X0 (Fr.nil n0) e0 A_q1
  obtain ⟨t, h1, h2, o, h3, h4⟩ := H
  exact ⟨t, o, castTop (ef_3p3 m q1 q3 q4) h1, h2, h3, h4⟩
def own_f3p4 (q3 : Int32) (q4 : Int32) (w0_q1 : Int32) (w1_q1 : Int32) (w2_q1 : Int32) (w3_q1 : Int32) (w4_q1 : Int32) (w5_q1 : Int32) : Int32 :=
  if q4 < (4 : Int32) then (0 : Int32) else
  if (2 : Int32) < q3 then (0 : Int32) else
  if w3_q1 = (10 : Int32) then (if w2_q1 = (10 : Int32) then (1 : Int32) else
    if (1 : Int32) < q3 then (0 : Int32) else
    if w2_q1 = (13 : Int32) then (if w1_q1 = (10 : Int32) then (1 : Int32) else
    (0 : Int32)) else
    (0 : Int32)) else
  if (1 : Int32) < q3 then (0 : Int32) else
  (0 : Int32)
set_option maxRecDepth 65536 in
set_option maxHeartbeats 40000000 in
theorem sg3p4_0 {p : Program} (l : Launch) {e : Env} {s : State} {m : MethodId} {args : Array Value} {below : List Frame} {meth : Method} {c : Code} {Z : State} {a0 : Array Value} (hw : ∀ d ∈ tables_1, d.before a0 Z = true) (hx : p.tables.exec = Jvm.exec) (hZ : Z.Warmed39 s.vm) (hby : c.code = method_3_code) (hml : c.maxLocals = 4) (hown : s.vm.findClass "com/example/zhuanjie/zhuanjie/clearing/disputes/RequestHeadEndPinLaw" = some m.cls) (hnm : meth.name = "endsAt") (hret : meth.sig.returnType = (some .boolean)) (hlk : meth.locks = false) (q1 : Addr) (q3 : Int32) (q4 : Int32) (kc_q1 : ClassId) (w0_q1 : Int32) (w1_q1 : Int32) (w2_q1 : Int32) (w3_q1 : Int32) (w4_q1 : Int32) (w5_q1 : Int32) {h0 : Heap} {n0 : Nat} (Z0 : n0 ≤ h0.size) {T0 : State} {L0 : List Loc} (X0 : Stand p l e ({ frames := 0, cells := 0, slots := 0, locals := 0 } : Room) s m args below meth c T0 L0 0 0) (N0 : Fr n0 L0) (e0 : T0.heap = h0) (A_q1 : Arv Z h0 q1 kc_q1 .byte (6 : Int32) [(.int w0_q1), (.int w1_q1), (.int w2_q1), (.int w3_q1), (.int w4_q1), (.int w5_q1)] (.int (0 : Int32))) :
    own_Fin p.tables e below (own_End below s (own_P h0 n0 (some (.int (own_f3p4 q3 q4 w0_q1 w1_q1 w2_q1 w3_q1 w4_q1 w5_q1)))) 0 0) T0 (mkF m 0 #[.val (.ref q1), .val (.int (4 : Int32)), .val (.int q3), .val (.int q4)] []) := by
  refine own_iloadN X0 hx (hb hby d3_0) (pc' := 1) rfl rfl ?_
  refine own_iloadN X0 hx (hb hby d3_1) (pc' := 2) rfl rfl ?_
  by_cases hc24 : q4 < (4 : Int32)
  · refine own_icmpNo X0 hx (hb hby d3_2) (pc' := 5) rfl (tlt hc24).2.2.2 ?_
    refine own_iconst X0 hx (hb hby d3_5) (pc' := 6) rfl (v := (0 : Int32)) rfl ?_
    refine own_retN X0 hx (t := .boolean) hret (by simp) hlk (hb hby d3_6) (by decide) (by decide) ?_
    show own_P _ _ _ _ T0.heap _
    exact ⟨(congrArg some (congrArg Value.int (show _ = (own_f3p4 q3 q4 w0_q1 w1_q1 w2_q1 w3_q1 w4_q1 w5_q1) from by rw [own_f3p4, if_pos hc24]; rfl))), N0, e0⟩
  · refine own_icmpYes X0 hx (hb hby d3_2) (flt hc24).2.2.2 (pc' := 7) (by decide) (by decide) ?_
    refine own_iloadN X0 hx (hb hby d3_7) (pc' := 8) rfl rfl ?_
    refine own_iconst X0 hx (hb hby d3_8) (pc' := 9) rfl (v := (2 : Int32)) rfl ?_
    refine own_isub X0 hx (hb hby d3_9) (pc' := 10) rfl ?_
    show own_Fin _ _ _ _ T0 (mkF m 10 #[.val (.ref q1), .val (.int (4 : Int32)), .val (.int q3), .val (.int q4)] [(.int (2 : Int32))])
    refine own_iloadN X0 hx (hb hby d3_10) (pc' := 11) rfl rfl ?_
    by_cases hc25 : (2 : Int32) < q3
    · refine own_icmpYes X0 hx (hb hby d3_11) (tlt hc25).1 (pc' := 36) (by decide) (by decide) ?_
      refine own_iloadN X0 hx (hb hby d3_36) (pc' := 37) rfl rfl ?_
      refine own_iconst X0 hx (hb hby d3_37) (pc' := 38) rfl (v := (3 : Int32)) rfl ?_
      refine own_icmpNo X0 hx (hb hby d3_38) (pc' := 41) rfl (flt (by decide : ¬ ((4 : Int32) < (3 : Int32)))).1 ?_
      refine own_iloadN X0 hx (hb hby d3_41) (pc' := 42) rfl rfl ?_
      refine own_iconst X0 hx (hb hby d3_42) (pc' := 43) rfl (v := (3 : Int32)) rfl ?_
      refine own_isub X0 hx (hb hby d3_43) (pc' := 44) rfl ?_
      show own_Fin _ _ _ _ T0 (mkF m 44 #[.val (.ref q1), .val (.int (4 : Int32)), .val (.int q3), .val (.int q4)] [(.int (1 : Int32))])
      refine own_iloadN X0 hx (hb hby d3_44) (pc' := 45) rfl rfl ?_
      refine own_icmpYes X0 hx (hb hby d3_45) (tlt (Int32.lt_of_le_of_lt (by decide) hc25)).1 (pc' := 82) (by decide) (by decide) ?_
      refine own_iconst X0 hx (hb hby d3_82) (pc' := 83) rfl (v := (0 : Int32)) rfl ?_
      refine own_retN X0 hx (t := .boolean) hret (by simp) hlk (hb hby d3_83) (by decide) (by decide) ?_
      show own_P _ _ _ _ T0.heap _
      exact ⟨(congrArg some (congrArg Value.int (show _ = (own_f3p4 q3 q4 w0_q1 w1_q1 w2_q1 w3_q1 w4_q1 w5_q1) from by rw [own_f3p4, if_neg hc24, if_pos hc25]; rfl))), N0, e0⟩
    · refine own_icmpNo X0 hx (hb hby d3_11) (pc' := 14) rfl (flt hc25).1 ?_
      refine own_aloadN X0 hx (hb hby d3_14) (pc' := 15) rfl rfl rfl ?_
      refine own_iloadN X0 hx (hb hby d3_15) (pc' := 16) rfl rfl ?_
      refine own_iconst X0 hx (hb hby d3_16) (pc' := 17) rfl (v := (1 : Int32)) rfl ?_
      refine own_isub X0 hx (hb hby d3_17) (pc' := 18) rfl ?_
      show own_Fin _ _ _ _ T0 (mkF m 18 #[.val (.ref q1), .val (.int (4 : Int32)), .val (.int q3), .val (.int q4)] [(.int (3 : Int32)), (.ref q1)])
      obtain ⟨cl26, Ar26, qa26, S26, M26, H26, G26⟩ := id A_q1
      have hin26 : ¬ ((3 : Int32) < 0 ∨ cl26.slots.size ≤ ((3 : Int32)).toNatClampNeg) := inb_of S26 ⟨by decide, by decide⟩
      refine own_st ?_ (fun t k => X0.baloadBytes hx (j := (3 : Int32)) (v := (.int w3_q1)) (by rw [e0]; exact Ar26.1) (State.isArrayOf_alike hZ.alike Ar26.2.1) Ar26.2.2 hin26 (Has.at H26 hin26 rfl) (g := (mkF m 18 #[.val (.ref q1), .val (.int (4 : Int32)), .val (.int q3), .val (.int q4)] [(.int (3 : Int32)), (.ref q1)])) rfl rfl (hb hby d3_18) t k)
      show own_Fin _ _ _ _ T0 (mkF m 19 #[.val (.ref q1), .val (.int (4 : Int32)), .val (.int q3), .val (.int q4)] [(.int w3_q1)])
      refine own_bipush X0 hx (hb hby d3_19) (pc' := 21) rfl (v := (10 : Int32)) rfl ?_
      by_cases hc27 : w3_q1 = (10 : Int32)
      · refine own_icmpNo X0 hx (hb hby d3_21) (pc' := 24) rfl (teq hc27).2 ?_
        refine own_aloadN X0 hx (hb hby d3_24) (pc' := 25) rfl rfl rfl ?_
        refine own_iloadN X0 hx (hb hby d3_25) (pc' := 26) rfl rfl ?_
        refine own_iconst X0 hx (hb hby d3_26) (pc' := 27) rfl (v := (2 : Int32)) rfl ?_
        refine own_isub X0 hx (hb hby d3_27) (pc' := 28) rfl ?_
        show own_Fin _ _ _ _ T0 (mkF m 28 #[.val (.ref q1), .val (.int (4 : Int32)), .val (.int q3), .val (.int q4)] [(.int (2 : Int32)), (.ref q1)])
        obtain ⟨cl28, Ar28, qa28, S28, M28, H28, G28⟩ := id A_q1
        have hin28 : ¬ ((2 : Int32) < 0 ∨ cl28.slots.size ≤ ((2 : Int32)).toNatClampNeg) := inb_of S28 ⟨by decide, by decide⟩
        refine own_st ?_ (fun t k => X0.baloadBytes hx (j := (2 : Int32)) (v := (.int w2_q1)) (by rw [e0]; exact Ar28.1) (State.isArrayOf_alike hZ.alike Ar28.2.1) Ar28.2.2 hin28 (Has.at H28 hin28 rfl) (g := (mkF m 28 #[.val (.ref q1), .val (.int (4 : Int32)), .val (.int q3), .val (.int q4)] [(.int (2 : Int32)), (.ref q1)])) rfl rfl (hb hby d3_28) t k)
        show own_Fin _ _ _ _ T0 (mkF m 29 #[.val (.ref q1), .val (.int (4 : Int32)), .val (.int q3), .val (.int q4)] [(.int w2_q1)])
        refine own_bipush X0 hx (hb hby d3_29) (pc' := 31) rfl (v := (10 : Int32)) rfl ?_
        by_cases hc29 : w2_q1 = (10 : Int32)
        · refine own_icmpNo X0 hx (hb hby d3_31) (pc' := 34) rfl (teq hc29).2 ?_
          refine own_iconst X0 hx (hb hby d3_34) (pc' := 35) rfl (v := (1 : Int32)) rfl ?_
          refine own_retN X0 hx (t := .boolean) hret (by simp) hlk (hb hby d3_35) (by decide) (by decide) ?_
          show own_P _ _ _ _ T0.heap _
          exact ⟨(congrArg some (congrArg Value.int (show _ = (own_f3p4 q3 q4 w0_q1 w1_q1 w2_q1 w3_q1 w4_q1 w5_q1) from by rw [own_f3p4, if_neg hc24, if_neg hc25, if_pos hc27, if_pos hc29]; rfl))), N0, e0⟩
        · refine own_icmpYes X0 hx (hb hby d3_31) (feq hc29).2 (pc' := 36) (by decide) (by decide) ?_
          refine own_iloadN X0 hx (hb hby d3_36) (pc' := 37) rfl rfl ?_
          refine own_iconst X0 hx (hb hby d3_37) (pc' := 38) rfl (v := (3 : Int32)) rfl ?_
          refine own_icmpNo X0 hx (hb hby d3_38) (pc' := 41) rfl (flt (by decide : ¬ ((4 : Int32) < (3 : Int32)))).1 ?_
          refine own_iloadN X0 hx (hb hby d3_41) (pc' := 42) rfl rfl ?_
          refine own_iconst X0 hx (hb hby d3_42) (pc' := 43) rfl (v := (3 : Int32)) rfl ?_
          refine own_isub X0 hx (hb hby d3_43) (pc' := 44) rfl ?_
          show own_Fin _ _ _ _ T0 (mkF m 44 #[.val (.ref q1), .val (.int (4 : Int32)), .val (.int q3), .val (.int q4)] [(.int (1 : Int32))])
          refine own_iloadN X0 hx (hb hby d3_44) (pc' := 45) rfl rfl ?_
          by_cases hc30 : (1 : Int32) < q3
          · refine own_icmpYes X0 hx (hb hby d3_45) (tlt hc30).1 (pc' := 82) (by decide) (by decide) ?_
            refine own_iconst X0 hx (hb hby d3_82) (pc' := 83) rfl (v := (0 : Int32)) rfl ?_
            refine own_retN X0 hx (t := .boolean) hret (by simp) hlk (hb hby d3_83) (by decide) (by decide) ?_
            show own_P _ _ _ _ T0.heap _
            exact ⟨(congrArg some (congrArg Value.int (show _ = (own_f3p4 q3 q4 w0_q1 w1_q1 w2_q1 w3_q1 w4_q1 w5_q1) from by rw [own_f3p4, if_neg hc24, if_neg hc25, if_pos hc27, if_neg hc29, if_pos hc30]; rfl))), N0, e0⟩
          · refine own_icmpNo X0 hx (hb hby d3_45) (pc' := 48) rfl (flt hc30).1 ?_
            refine own_aloadN X0 hx (hb hby d3_48) (pc' := 49) rfl rfl rfl ?_
            refine own_iloadN X0 hx (hb hby d3_49) (pc' := 50) rfl rfl ?_
            refine own_iconst X0 hx (hb hby d3_50) (pc' := 51) rfl (v := (1 : Int32)) rfl ?_
            refine own_isub X0 hx (hb hby d3_51) (pc' := 52) rfl ?_
            show own_Fin _ _ _ _ T0 (mkF m 52 #[.val (.ref q1), .val (.int (4 : Int32)), .val (.int q3), .val (.int q4)] [(.int (3 : Int32)), (.ref q1)])
            obtain ⟨cl31, Ar31, qa31, S31, M31, H31, G31⟩ := id A_q1
            have hin31 : ¬ ((3 : Int32) < 0 ∨ cl31.slots.size ≤ ((3 : Int32)).toNatClampNeg) := inb_of S31 ⟨by decide, by decide⟩
            refine own_st ?_ (fun t k => X0.baloadBytes hx (j := (3 : Int32)) (v := (.int w3_q1)) (by rw [e0]; exact Ar31.1) (State.isArrayOf_alike hZ.alike Ar31.2.1) Ar31.2.2 hin31 (Has.at H31 hin31 rfl) (g := (mkF m 52 #[.val (.ref q1), .val (.int (4 : Int32)), .val (.int q3), .val (.int q4)] [(.int (3 : Int32)), (.ref q1)])) rfl rfl (hb hby d3_52) t k)
            show own_Fin _ _ _ _ T0 (mkF m 53 #[.val (.ref q1), .val (.int (4 : Int32)), .val (.int q3), .val (.int q4)] [(.int w3_q1)])
            refine own_bipush X0 hx (hb hby d3_53) (pc' := 55) rfl (v := (10 : Int32)) rfl ?_
            refine own_icmpNo X0 hx (hb hby d3_55) (pc' := 58) rfl (teq hc27).2 ?_
            refine own_aloadN X0 hx (hb hby d3_58) (pc' := 59) rfl rfl rfl ?_
            refine own_iloadN X0 hx (hb hby d3_59) (pc' := 60) rfl rfl ?_
            refine own_iconst X0 hx (hb hby d3_60) (pc' := 61) rfl (v := (2 : Int32)) rfl ?_
            refine own_isub X0 hx (hb hby d3_61) (pc' := 62) rfl ?_
            show own_Fin _ _ _ _ T0 (mkF m 62 #[.val (.ref q1), .val (.int (4 : Int32)), .val (.int q3), .val (.int q4)] [(.int (2 : Int32)), (.ref q1)])
            obtain ⟨cl32, Ar32, qa32, S32, M32, H32, G32⟩ := id A_q1
            have hin32 : ¬ ((2 : Int32) < 0 ∨ cl32.slots.size ≤ ((2 : Int32)).toNatClampNeg) := inb_of S32 ⟨by decide, by decide⟩
            refine own_st ?_ (fun t k => X0.baloadBytes hx (j := (2 : Int32)) (v := (.int w2_q1)) (by rw [e0]; exact Ar32.1) (State.isArrayOf_alike hZ.alike Ar32.2.1) Ar32.2.2 hin32 (Has.at H32 hin32 rfl) (g := (mkF m 62 #[.val (.ref q1), .val (.int (4 : Int32)), .val (.int q3), .val (.int q4)] [(.int (2 : Int32)), (.ref q1)])) rfl rfl (hb hby d3_62) t k)
            show own_Fin _ _ _ _ T0 (mkF m 63 #[.val (.ref q1), .val (.int (4 : Int32)), .val (.int q3), .val (.int q4)] [(.int w2_q1)])
            refine own_bipush X0 hx (hb hby d3_63) (pc' := 65) rfl (v := (13 : Int32)) rfl ?_
            by_cases hc33 : w2_q1 = (13 : Int32)
            · refine own_icmpNo X0 hx (hb hby d3_65) (pc' := 68) rfl (teq hc33).2 ?_
              refine own_aloadN X0 hx (hb hby d3_68) (pc' := 69) rfl rfl rfl ?_
              refine own_iloadN X0 hx (hb hby d3_69) (pc' := 70) rfl rfl ?_
              refine own_iconst X0 hx (hb hby d3_70) (pc' := 71) rfl (v := (3 : Int32)) rfl ?_
              refine own_isub X0 hx (hb hby d3_71) (pc' := 72) rfl ?_
              show own_Fin _ _ _ _ T0 (mkF m 72 #[.val (.ref q1), .val (.int (4 : Int32)), .val (.int q3), .val (.int q4)] [(.int (1 : Int32)), (.ref q1)])
              obtain ⟨cl34, Ar34, qa34, S34, M34, H34, G34⟩ := id A_q1
              have hin34 : ¬ ((1 : Int32) < 0 ∨ cl34.slots.size ≤ ((1 : Int32)).toNatClampNeg) := inb_of S34 ⟨by decide, by decide⟩
              refine own_st ?_ (fun t k => X0.baloadBytes hx (j := (1 : Int32)) (v := (.int w1_q1)) (by rw [e0]; exact Ar34.1) (State.isArrayOf_alike hZ.alike Ar34.2.1) Ar34.2.2 hin34 (Has.at H34 hin34 rfl) (g := (mkF m 72 #[.val (.ref q1), .val (.int (4 : Int32)), .val (.int q3), .val (.int q4)] [(.int (1 : Int32)), (.ref q1)])) rfl rfl (hb hby d3_72) t k)
              show own_Fin _ _ _ _ T0 (mkF m 73 #[.val (.ref q1), .val (.int (4 : Int32)), .val (.int q3), .val (.int q4)] [(.int w1_q1)])
              refine own_bipush X0 hx (hb hby d3_73) (pc' := 75) rfl (v := (10 : Int32)) rfl ?_
              by_cases hc35 : w1_q1 = (10 : Int32)
              · refine own_icmpNo X0 hx (hb hby d3_75) (pc' := 78) rfl (teq hc35).2 ?_
                refine own_iconst X0 hx (hb hby d3_78) (pc' := 79) rfl (v := (1 : Int32)) rfl ?_
                refine own_goto X0 hx (hb hby d3_79) (pc' := 83) (by decide) (by decide) ?_
                refine own_retN X0 hx (t := .boolean) hret (by simp) hlk (hb hby d3_83) (by decide) (by decide) ?_
                show own_P _ _ _ _ T0.heap _
                exact ⟨(congrArg some (congrArg Value.int (show _ = (own_f3p4 q3 q4 w0_q1 w1_q1 w2_q1 w3_q1 w4_q1 w5_q1) from by rw [own_f3p4, if_neg hc24, if_neg hc25, if_pos hc27, if_neg hc29, if_neg hc30, if_pos hc33, if_pos hc35]; rfl))), N0, e0⟩
              · refine own_icmpYes X0 hx (hb hby d3_75) (feq hc35).2 (pc' := 82) (by decide) (by decide) ?_
                refine own_iconst X0 hx (hb hby d3_82) (pc' := 83) rfl (v := (0 : Int32)) rfl ?_
                refine own_retN X0 hx (t := .boolean) hret (by simp) hlk (hb hby d3_83) (by decide) (by decide) ?_
                show own_P _ _ _ _ T0.heap _
                exact ⟨(congrArg some (congrArg Value.int (show _ = (own_f3p4 q3 q4 w0_q1 w1_q1 w2_q1 w3_q1 w4_q1 w5_q1) from by rw [own_f3p4, if_neg hc24, if_neg hc25, if_pos hc27, if_neg hc29, if_neg hc30, if_pos hc33, if_neg hc35]; rfl))), N0, e0⟩
            · refine own_icmpYes X0 hx (hb hby d3_65) (feq hc33).2 (pc' := 82) (by decide) (by decide) ?_
              refine own_iconst X0 hx (hb hby d3_82) (pc' := 83) rfl (v := (0 : Int32)) rfl ?_
              refine own_retN X0 hx (t := .boolean) hret (by simp) hlk (hb hby d3_83) (by decide) (by decide) ?_
              show own_P _ _ _ _ T0.heap _
              exact ⟨(congrArg some (congrArg Value.int (show _ = (own_f3p4 q3 q4 w0_q1 w1_q1 w2_q1 w3_q1 w4_q1 w5_q1) from by rw [own_f3p4, if_neg hc24, if_neg hc25, if_pos hc27, if_neg hc29, if_neg hc30, if_neg hc33]; rfl))), N0, e0⟩
      · refine own_icmpYes X0 hx (hb hby d3_21) (feq hc27).2 (pc' := 36) (by decide) (by decide) ?_
        refine own_iloadN X0 hx (hb hby d3_36) (pc' := 37) rfl rfl ?_
        refine own_iconst X0 hx (hb hby d3_37) (pc' := 38) rfl (v := (3 : Int32)) rfl ?_
        refine own_icmpNo X0 hx (hb hby d3_38) (pc' := 41) rfl (flt (by decide : ¬ ((4 : Int32) < (3 : Int32)))).1 ?_
        refine own_iloadN X0 hx (hb hby d3_41) (pc' := 42) rfl rfl ?_
        refine own_iconst X0 hx (hb hby d3_42) (pc' := 43) rfl (v := (3 : Int32)) rfl ?_
        refine own_isub X0 hx (hb hby d3_43) (pc' := 44) rfl ?_
        show own_Fin _ _ _ _ T0 (mkF m 44 #[.val (.ref q1), .val (.int (4 : Int32)), .val (.int q3), .val (.int q4)] [(.int (1 : Int32))])
        refine own_iloadN X0 hx (hb hby d3_44) (pc' := 45) rfl rfl ?_
        by_cases hc36 : (1 : Int32) < q3
        · refine own_icmpYes X0 hx (hb hby d3_45) (tlt hc36).1 (pc' := 82) (by decide) (by decide) ?_
          refine own_iconst X0 hx (hb hby d3_82) (pc' := 83) rfl (v := (0 : Int32)) rfl ?_
          refine own_retN X0 hx (t := .boolean) hret (by simp) hlk (hb hby d3_83) (by decide) (by decide) ?_
          show own_P _ _ _ _ T0.heap _
          exact ⟨(congrArg some (congrArg Value.int (show _ = (own_f3p4 q3 q4 w0_q1 w1_q1 w2_q1 w3_q1 w4_q1 w5_q1) from by rw [own_f3p4, if_neg hc24, if_neg hc25, if_neg hc27, if_pos hc36]; rfl))), N0, e0⟩
        · refine own_icmpNo X0 hx (hb hby d3_45) (pc' := 48) rfl (flt hc36).1 ?_
          refine own_aloadN X0 hx (hb hby d3_48) (pc' := 49) rfl rfl rfl ?_
          refine own_iloadN X0 hx (hb hby d3_49) (pc' := 50) rfl rfl ?_
          refine own_iconst X0 hx (hb hby d3_50) (pc' := 51) rfl (v := (1 : Int32)) rfl ?_
          refine own_isub X0 hx (hb hby d3_51) (pc' := 52) rfl ?_
          show own_Fin _ _ _ _ T0 (mkF m 52 #[.val (.ref q1), .val (.int (4 : Int32)), .val (.int q3), .val (.int q4)] [(.int (3 : Int32)), (.ref q1)])
          obtain ⟨cl37, Ar37, qa37, S37, M37, H37, G37⟩ := id A_q1
          have hin37 : ¬ ((3 : Int32) < 0 ∨ cl37.slots.size ≤ ((3 : Int32)).toNatClampNeg) := inb_of S37 ⟨by decide, by decide⟩
          refine own_st ?_ (fun t k => X0.baloadBytes hx (j := (3 : Int32)) (v := (.int w3_q1)) (by rw [e0]; exact Ar37.1) (State.isArrayOf_alike hZ.alike Ar37.2.1) Ar37.2.2 hin37 (Has.at H37 hin37 rfl) (g := (mkF m 52 #[.val (.ref q1), .val (.int (4 : Int32)), .val (.int q3), .val (.int q4)] [(.int (3 : Int32)), (.ref q1)])) rfl rfl (hb hby d3_52) t k)
          show own_Fin _ _ _ _ T0 (mkF m 53 #[.val (.ref q1), .val (.int (4 : Int32)), .val (.int q3), .val (.int q4)] [(.int w3_q1)])
          refine own_bipush X0 hx (hb hby d3_53) (pc' := 55) rfl (v := (10 : Int32)) rfl ?_
          refine own_icmpYes X0 hx (hb hby d3_55) (feq hc27).2 (pc' := 82) (by decide) (by decide) ?_
          refine own_iconst X0 hx (hb hby d3_82) (pc' := 83) rfl (v := (0 : Int32)) rfl ?_
          refine own_retN X0 hx (t := .boolean) hret (by simp) hlk (hb hby d3_83) (by decide) (by decide) ?_
          show own_P _ _ _ _ T0.heap _
          exact ⟨(congrArg some (congrArg Value.int (show _ = (own_f3p4 q3 q4 w0_q1 w1_q1 w2_q1 w3_q1 w4_q1 w5_q1) from by rw [own_f3p4, if_neg hc24, if_neg hc25, if_neg hc27, if_neg hc36]; rfl))), N0, e0⟩
theorem ef_3p4 (m : MethodId) (q1 : Addr) (q3 : Int32) (q4 : Int32) : entryFrame m #[(.ref q1), (.int (4 : Int32)), (.int q3), (.int q4)] 4 = mkF m 0 #[.val (.ref q1), .val (.int (4 : Int32)), .val (.int q3), .val (.int q4)] [] := by first | (simp [entryFrame, mkF, argsToLocals, Value.category]; done) | rfl
set_option maxRecDepth 65536 in
set_option maxHeartbeats 40000000 in
theorem rm3p4 (l : Launch) (Z : State) (a0 : Array Value) (hw : ∀ d ∈ tables_1, d.before a0 Z = true) (ws : List Jvm.Cond) (q1 : Addr) (q3 : Int32) (q4 : Int32) (kc_q1 : ClassId) (w0_q1 : Int32) (w1_q1 : Int32) (w2_q1 : Int32) (w3_q1 : Int32) (w4_q1 : Int32) (w5_q1 : Int32) (h0 : Heap) (n0 : Nat) (Z0 : n0 ≤ h0.size) (A_q1 : Arv Z h0 q1 kc_q1 .byte (6 : Int32) [(.int w0_q1), (.int w1_q1), (.int w2_q1), (.int w3_q1), (.int w4_q1), (.int w5_q1)] (.int (0 : Int32))) :
    MetFree l (⟨"com/example/zhuanjie/zhuanjie/clearing/disputes/RequestHeadEndPinLaw", "endsAt", "([BIII)Z"⟩ : MethodName) (head1 (Jvm.Cond.code (⟨"com/example/zhuanjie/zhuanjie/clearing/disputes/RequestHeadEndPinLaw", "endsAt", "([BIII)Z"⟩ : MethodName) method_3_code 4 (some .boolean) :: ws) ({ frames := 0, cells := 0, slots := 0, locals := 0 } : Room)) (fun a U => a = #[(.ref q1), (.int (4 : Int32)), (.int q3), (.int q4)] ∧ Z.Warmed39 U.vm ∧ U.heap = h0) (fun _ _ _ _ _ => True) (fun _ U o U' => ∃ v L, o = .returned v ∧ (own_P h0 n0 (some (.int (own_f3p4 q3 q4 w0_q1 w1_q1 w2_q1 w3_q1 w4_q1 w5_q1)))) v U'.heap L ∧ FrameEnd U o U' L ({ frames := 0, cells := 0, slots := 0, locals := 0 } : Room).cells ({ frames := 0, cells := 0, slots := 0, locals := 0 } : Room).slots) := by
  refine MetFree.of_bodySF (plainFor_of_name pn_3) hisR ?_
  intro p e s m args below meth c s₁ Bd hml0 hP hK
  obtain ⟨rfl, hZ, hh⟩ := hP
  have hown : s.vm.findClass "com/example/zhuanjie/zhuanjie/clearing/disputes/RequestHeadEndPinLaw" = some m.cls := findClass_of_methodNamed Bd.named
  have hnm := (name_of_methodNamed Bd.named Bd.method).1
  have X0 : Stand p l e ({ frames := 0, cells := 0, slots := 0, locals := 0 } : Room) s m #[(.ref q1), (.int (4 : Int32)), (.int q3), (.int q4)] below meth c s₁ [] 0 0 := Stand.of_body Bd
  have e0 : s₁.heap = h0 := by rw [← hh, Bd.state]; rfl
  have H := sg3p4_0 l hw Bd.exec hZ Bd.bytes hml0 hown hnm Bd.returns Bd.notSynchronized q1 q3 q4 kc_q1 w0_q1 w1_q1 w2_q1 w3_q1 w4_q1 w5_q1 Z0 X0 (Fr.nil n0) e0 A_q1
  obtain ⟨t, h1, h2, o, h3, h4⟩ := H
  exact ⟨t, o, castTop (ef_3p4 m q1 q3 q4) h1, h2, h3, h4⟩
def own_f3p5 (q3 : Int32) (q4 : Int32) (w0_q1 : Int32) (w1_q1 : Int32) (w2_q1 : Int32) (w3_q1 : Int32) (w4_q1 : Int32) (w5_q1 : Int32) : Int32 :=
  if q4 < (5 : Int32) then (0 : Int32) else
  if (3 : Int32) < q3 then (0 : Int32) else
  if w4_q1 = (10 : Int32) then (if w3_q1 = (10 : Int32) then (1 : Int32) else
    if (2 : Int32) < q3 then (0 : Int32) else
    if w3_q1 = (13 : Int32) then (if w2_q1 = (10 : Int32) then (1 : Int32) else
    (0 : Int32)) else
    (0 : Int32)) else
  if (2 : Int32) < q3 then (0 : Int32) else
  (0 : Int32)
set_option maxRecDepth 65536 in
set_option maxHeartbeats 40000000 in
theorem sg3p5_0 {p : Program} (l : Launch) {e : Env} {s : State} {m : MethodId} {args : Array Value} {below : List Frame} {meth : Method} {c : Code} {Z : State} {a0 : Array Value} (hw : ∀ d ∈ tables_1, d.before a0 Z = true) (hx : p.tables.exec = Jvm.exec) (hZ : Z.Warmed39 s.vm) (hby : c.code = method_3_code) (hml : c.maxLocals = 4) (hown : s.vm.findClass "com/example/zhuanjie/zhuanjie/clearing/disputes/RequestHeadEndPinLaw" = some m.cls) (hnm : meth.name = "endsAt") (hret : meth.sig.returnType = (some .boolean)) (hlk : meth.locks = false) (q1 : Addr) (q3 : Int32) (q4 : Int32) (kc_q1 : ClassId) (w0_q1 : Int32) (w1_q1 : Int32) (w2_q1 : Int32) (w3_q1 : Int32) (w4_q1 : Int32) (w5_q1 : Int32) {h0 : Heap} {n0 : Nat} (Z0 : n0 ≤ h0.size) {T0 : State} {L0 : List Loc} (X0 : Stand p l e ({ frames := 0, cells := 0, slots := 0, locals := 0 } : Room) s m args below meth c T0 L0 0 0) (N0 : Fr n0 L0) (e0 : T0.heap = h0) (A_q1 : Arv Z h0 q1 kc_q1 .byte (6 : Int32) [(.int w0_q1), (.int w1_q1), (.int w2_q1), (.int w3_q1), (.int w4_q1), (.int w5_q1)] (.int (0 : Int32))) :
    own_Fin p.tables e below (own_End below s (own_P h0 n0 (some (.int (own_f3p5 q3 q4 w0_q1 w1_q1 w2_q1 w3_q1 w4_q1 w5_q1)))) 0 0) T0 (mkF m 0 #[.val (.ref q1), .val (.int (5 : Int32)), .val (.int q3), .val (.int q4)] []) := by
  refine own_iloadN X0 hx (hb hby d3_0) (pc' := 1) rfl rfl ?_
  refine own_iloadN X0 hx (hb hby d3_1) (pc' := 2) rfl rfl ?_
  by_cases hc38 : q4 < (5 : Int32)
  · refine own_icmpNo X0 hx (hb hby d3_2) (pc' := 5) rfl (tlt hc38).2.2.2 ?_
    refine own_iconst X0 hx (hb hby d3_5) (pc' := 6) rfl (v := (0 : Int32)) rfl ?_
    refine own_retN X0 hx (t := .boolean) hret (by simp) hlk (hb hby d3_6) (by decide) (by decide) ?_
    show own_P _ _ _ _ T0.heap _
    exact ⟨(congrArg some (congrArg Value.int (show _ = (own_f3p5 q3 q4 w0_q1 w1_q1 w2_q1 w3_q1 w4_q1 w5_q1) from by rw [own_f3p5, if_pos hc38]; rfl))), N0, e0⟩
  · refine own_icmpYes X0 hx (hb hby d3_2) (flt hc38).2.2.2 (pc' := 7) (by decide) (by decide) ?_
    refine own_iloadN X0 hx (hb hby d3_7) (pc' := 8) rfl rfl ?_
    refine own_iconst X0 hx (hb hby d3_8) (pc' := 9) rfl (v := (2 : Int32)) rfl ?_
    refine own_isub X0 hx (hb hby d3_9) (pc' := 10) rfl ?_
    show own_Fin _ _ _ _ T0 (mkF m 10 #[.val (.ref q1), .val (.int (5 : Int32)), .val (.int q3), .val (.int q4)] [(.int (3 : Int32))])
    refine own_iloadN X0 hx (hb hby d3_10) (pc' := 11) rfl rfl ?_
    by_cases hc39 : (3 : Int32) < q3
    · refine own_icmpYes X0 hx (hb hby d3_11) (tlt hc39).1 (pc' := 36) (by decide) (by decide) ?_
      refine own_iloadN X0 hx (hb hby d3_36) (pc' := 37) rfl rfl ?_
      refine own_iconst X0 hx (hb hby d3_37) (pc' := 38) rfl (v := (3 : Int32)) rfl ?_
      refine own_icmpNo X0 hx (hb hby d3_38) (pc' := 41) rfl (flt (by decide : ¬ ((5 : Int32) < (3 : Int32)))).1 ?_
      refine own_iloadN X0 hx (hb hby d3_41) (pc' := 42) rfl rfl ?_
      refine own_iconst X0 hx (hb hby d3_42) (pc' := 43) rfl (v := (3 : Int32)) rfl ?_
      refine own_isub X0 hx (hb hby d3_43) (pc' := 44) rfl ?_
      show own_Fin _ _ _ _ T0 (mkF m 44 #[.val (.ref q1), .val (.int (5 : Int32)), .val (.int q3), .val (.int q4)] [(.int (2 : Int32))])
      refine own_iloadN X0 hx (hb hby d3_44) (pc' := 45) rfl rfl ?_
      refine own_icmpYes X0 hx (hb hby d3_45) (tlt (Int32.lt_of_le_of_lt (by decide) hc39)).1 (pc' := 82) (by decide) (by decide) ?_
      refine own_iconst X0 hx (hb hby d3_82) (pc' := 83) rfl (v := (0 : Int32)) rfl ?_
      refine own_retN X0 hx (t := .boolean) hret (by simp) hlk (hb hby d3_83) (by decide) (by decide) ?_
      show own_P _ _ _ _ T0.heap _
      exact ⟨(congrArg some (congrArg Value.int (show _ = (own_f3p5 q3 q4 w0_q1 w1_q1 w2_q1 w3_q1 w4_q1 w5_q1) from by rw [own_f3p5, if_neg hc38, if_pos hc39]; rfl))), N0, e0⟩
    · refine own_icmpNo X0 hx (hb hby d3_11) (pc' := 14) rfl (flt hc39).1 ?_
      refine own_aloadN X0 hx (hb hby d3_14) (pc' := 15) rfl rfl rfl ?_
      refine own_iloadN X0 hx (hb hby d3_15) (pc' := 16) rfl rfl ?_
      refine own_iconst X0 hx (hb hby d3_16) (pc' := 17) rfl (v := (1 : Int32)) rfl ?_
      refine own_isub X0 hx (hb hby d3_17) (pc' := 18) rfl ?_
      show own_Fin _ _ _ _ T0 (mkF m 18 #[.val (.ref q1), .val (.int (5 : Int32)), .val (.int q3), .val (.int q4)] [(.int (4 : Int32)), (.ref q1)])
      obtain ⟨cl40, Ar40, qa40, S40, M40, H40, G40⟩ := id A_q1
      have hin40 : ¬ ((4 : Int32) < 0 ∨ cl40.slots.size ≤ ((4 : Int32)).toNatClampNeg) := inb_of S40 ⟨by decide, by decide⟩
      refine own_st ?_ (fun t k => X0.baloadBytes hx (j := (4 : Int32)) (v := (.int w4_q1)) (by rw [e0]; exact Ar40.1) (State.isArrayOf_alike hZ.alike Ar40.2.1) Ar40.2.2 hin40 (Has.at H40 hin40 rfl) (g := (mkF m 18 #[.val (.ref q1), .val (.int (5 : Int32)), .val (.int q3), .val (.int q4)] [(.int (4 : Int32)), (.ref q1)])) rfl rfl (hb hby d3_18) t k)
      show own_Fin _ _ _ _ T0 (mkF m 19 #[.val (.ref q1), .val (.int (5 : Int32)), .val (.int q3), .val (.int q4)] [(.int w4_q1)])
      refine own_bipush X0 hx (hb hby d3_19) (pc' := 21) rfl (v := (10 : Int32)) rfl ?_
      by_cases hc41 : w4_q1 = (10 : Int32)
      · refine own_icmpNo X0 hx (hb hby d3_21) (pc' := 24) rfl (teq hc41).2 ?_
        refine own_aloadN X0 hx (hb hby d3_24) (pc' := 25) rfl rfl rfl ?_
        refine own_iloadN X0 hx (hb hby d3_25) (pc' := 26) rfl rfl ?_
        refine own_iconst X0 hx (hb hby d3_26) (pc' := 27) rfl (v := (2 : Int32)) rfl ?_
        refine own_isub X0 hx (hb hby d3_27) (pc' := 28) rfl ?_
        show own_Fin _ _ _ _ T0 (mkF m 28 #[.val (.ref q1), .val (.int (5 : Int32)), .val (.int q3), .val (.int q4)] [(.int (3 : Int32)), (.ref q1)])
        obtain ⟨cl42, Ar42, qa42, S42, M42, H42, G42⟩ := id A_q1
        have hin42 : ¬ ((3 : Int32) < 0 ∨ cl42.slots.size ≤ ((3 : Int32)).toNatClampNeg) := inb_of S42 ⟨by decide, by decide⟩
        refine own_st ?_ (fun t k => X0.baloadBytes hx (j := (3 : Int32)) (v := (.int w3_q1)) (by rw [e0]; exact Ar42.1) (State.isArrayOf_alike hZ.alike Ar42.2.1) Ar42.2.2 hin42 (Has.at H42 hin42 rfl) (g := (mkF m 28 #[.val (.ref q1), .val (.int (5 : Int32)), .val (.int q3), .val (.int q4)] [(.int (3 : Int32)), (.ref q1)])) rfl rfl (hb hby d3_28) t k)
        show own_Fin _ _ _ _ T0 (mkF m 29 #[.val (.ref q1), .val (.int (5 : Int32)), .val (.int q3), .val (.int q4)] [(.int w3_q1)])
        refine own_bipush X0 hx (hb hby d3_29) (pc' := 31) rfl (v := (10 : Int32)) rfl ?_
        by_cases hc43 : w3_q1 = (10 : Int32)
        · refine own_icmpNo X0 hx (hb hby d3_31) (pc' := 34) rfl (teq hc43).2 ?_
          refine own_iconst X0 hx (hb hby d3_34) (pc' := 35) rfl (v := (1 : Int32)) rfl ?_
          refine own_retN X0 hx (t := .boolean) hret (by simp) hlk (hb hby d3_35) (by decide) (by decide) ?_
          show own_P _ _ _ _ T0.heap _
          exact ⟨(congrArg some (congrArg Value.int (show _ = (own_f3p5 q3 q4 w0_q1 w1_q1 w2_q1 w3_q1 w4_q1 w5_q1) from by rw [own_f3p5, if_neg hc38, if_neg hc39, if_pos hc41, if_pos hc43]; rfl))), N0, e0⟩
        · refine own_icmpYes X0 hx (hb hby d3_31) (feq hc43).2 (pc' := 36) (by decide) (by decide) ?_
          refine own_iloadN X0 hx (hb hby d3_36) (pc' := 37) rfl rfl ?_
          refine own_iconst X0 hx (hb hby d3_37) (pc' := 38) rfl (v := (3 : Int32)) rfl ?_
          refine own_icmpNo X0 hx (hb hby d3_38) (pc' := 41) rfl (flt (by decide : ¬ ((5 : Int32) < (3 : Int32)))).1 ?_
          refine own_iloadN X0 hx (hb hby d3_41) (pc' := 42) rfl rfl ?_
          refine own_iconst X0 hx (hb hby d3_42) (pc' := 43) rfl (v := (3 : Int32)) rfl ?_
          refine own_isub X0 hx (hb hby d3_43) (pc' := 44) rfl ?_
          show own_Fin _ _ _ _ T0 (mkF m 44 #[.val (.ref q1), .val (.int (5 : Int32)), .val (.int q3), .val (.int q4)] [(.int (2 : Int32))])
          refine own_iloadN X0 hx (hb hby d3_44) (pc' := 45) rfl rfl ?_
          by_cases hc44 : (2 : Int32) < q3
          · refine own_icmpYes X0 hx (hb hby d3_45) (tlt hc44).1 (pc' := 82) (by decide) (by decide) ?_
            refine own_iconst X0 hx (hb hby d3_82) (pc' := 83) rfl (v := (0 : Int32)) rfl ?_
            refine own_retN X0 hx (t := .boolean) hret (by simp) hlk (hb hby d3_83) (by decide) (by decide) ?_
            show own_P _ _ _ _ T0.heap _
            exact ⟨(congrArg some (congrArg Value.int (show _ = (own_f3p5 q3 q4 w0_q1 w1_q1 w2_q1 w3_q1 w4_q1 w5_q1) from by rw [own_f3p5, if_neg hc38, if_neg hc39, if_pos hc41, if_neg hc43, if_pos hc44]; rfl))), N0, e0⟩
          · refine own_icmpNo X0 hx (hb hby d3_45) (pc' := 48) rfl (flt hc44).1 ?_
            refine own_aloadN X0 hx (hb hby d3_48) (pc' := 49) rfl rfl rfl ?_
            refine own_iloadN X0 hx (hb hby d3_49) (pc' := 50) rfl rfl ?_
            refine own_iconst X0 hx (hb hby d3_50) (pc' := 51) rfl (v := (1 : Int32)) rfl ?_
            refine own_isub X0 hx (hb hby d3_51) (pc' := 52) rfl ?_
            show own_Fin _ _ _ _ T0 (mkF m 52 #[.val (.ref q1), .val (.int (5 : Int32)), .val (.int q3), .val (.int q4)] [(.int (4 : Int32)), (.ref q1)])
            obtain ⟨cl45, Ar45, qa45, S45, M45, H45, G45⟩ := id A_q1
            have hin45 : ¬ ((4 : Int32) < 0 ∨ cl45.slots.size ≤ ((4 : Int32)).toNatClampNeg) := inb_of S45 ⟨by decide, by decide⟩
            refine own_st ?_ (fun t k => X0.baloadBytes hx (j := (4 : Int32)) (v := (.int w4_q1)) (by rw [e0]; exact Ar45.1) (State.isArrayOf_alike hZ.alike Ar45.2.1) Ar45.2.2 hin45 (Has.at H45 hin45 rfl) (g := (mkF m 52 #[.val (.ref q1), .val (.int (5 : Int32)), .val (.int q3), .val (.int q4)] [(.int (4 : Int32)), (.ref q1)])) rfl rfl (hb hby d3_52) t k)
            show own_Fin _ _ _ _ T0 (mkF m 53 #[.val (.ref q1), .val (.int (5 : Int32)), .val (.int q3), .val (.int q4)] [(.int w4_q1)])
            refine own_bipush X0 hx (hb hby d3_53) (pc' := 55) rfl (v := (10 : Int32)) rfl ?_
            refine own_icmpNo X0 hx (hb hby d3_55) (pc' := 58) rfl (teq hc41).2 ?_
            refine own_aloadN X0 hx (hb hby d3_58) (pc' := 59) rfl rfl rfl ?_
            refine own_iloadN X0 hx (hb hby d3_59) (pc' := 60) rfl rfl ?_
            refine own_iconst X0 hx (hb hby d3_60) (pc' := 61) rfl (v := (2 : Int32)) rfl ?_
            refine own_isub X0 hx (hb hby d3_61) (pc' := 62) rfl ?_
            show own_Fin _ _ _ _ T0 (mkF m 62 #[.val (.ref q1), .val (.int (5 : Int32)), .val (.int q3), .val (.int q4)] [(.int (3 : Int32)), (.ref q1)])
            obtain ⟨cl46, Ar46, qa46, S46, M46, H46, G46⟩ := id A_q1
            have hin46 : ¬ ((3 : Int32) < 0 ∨ cl46.slots.size ≤ ((3 : Int32)).toNatClampNeg) := inb_of S46 ⟨by decide, by decide⟩
            refine own_st ?_ (fun t k => X0.baloadBytes hx (j := (3 : Int32)) (v := (.int w3_q1)) (by rw [e0]; exact Ar46.1) (State.isArrayOf_alike hZ.alike Ar46.2.1) Ar46.2.2 hin46 (Has.at H46 hin46 rfl) (g := (mkF m 62 #[.val (.ref q1), .val (.int (5 : Int32)), .val (.int q3), .val (.int q4)] [(.int (3 : Int32)), (.ref q1)])) rfl rfl (hb hby d3_62) t k)
            show own_Fin _ _ _ _ T0 (mkF m 63 #[.val (.ref q1), .val (.int (5 : Int32)), .val (.int q3), .val (.int q4)] [(.int w3_q1)])
            refine own_bipush X0 hx (hb hby d3_63) (pc' := 65) rfl (v := (13 : Int32)) rfl ?_
            by_cases hc47 : w3_q1 = (13 : Int32)
            · refine own_icmpNo X0 hx (hb hby d3_65) (pc' := 68) rfl (teq hc47).2 ?_
              refine own_aloadN X0 hx (hb hby d3_68) (pc' := 69) rfl rfl rfl ?_
              refine own_iloadN X0 hx (hb hby d3_69) (pc' := 70) rfl rfl ?_
              refine own_iconst X0 hx (hb hby d3_70) (pc' := 71) rfl (v := (3 : Int32)) rfl ?_
              refine own_isub X0 hx (hb hby d3_71) (pc' := 72) rfl ?_
              show own_Fin _ _ _ _ T0 (mkF m 72 #[.val (.ref q1), .val (.int (5 : Int32)), .val (.int q3), .val (.int q4)] [(.int (2 : Int32)), (.ref q1)])
              obtain ⟨cl48, Ar48, qa48, S48, M48, H48, G48⟩ := id A_q1
              have hin48 : ¬ ((2 : Int32) < 0 ∨ cl48.slots.size ≤ ((2 : Int32)).toNatClampNeg) := inb_of S48 ⟨by decide, by decide⟩
              refine own_st ?_ (fun t k => X0.baloadBytes hx (j := (2 : Int32)) (v := (.int w2_q1)) (by rw [e0]; exact Ar48.1) (State.isArrayOf_alike hZ.alike Ar48.2.1) Ar48.2.2 hin48 (Has.at H48 hin48 rfl) (g := (mkF m 72 #[.val (.ref q1), .val (.int (5 : Int32)), .val (.int q3), .val (.int q4)] [(.int (2 : Int32)), (.ref q1)])) rfl rfl (hb hby d3_72) t k)
              show own_Fin _ _ _ _ T0 (mkF m 73 #[.val (.ref q1), .val (.int (5 : Int32)), .val (.int q3), .val (.int q4)] [(.int w2_q1)])
              refine own_bipush X0 hx (hb hby d3_73) (pc' := 75) rfl (v := (10 : Int32)) rfl ?_
              by_cases hc49 : w2_q1 = (10 : Int32)
              · refine own_icmpNo X0 hx (hb hby d3_75) (pc' := 78) rfl (teq hc49).2 ?_
                refine own_iconst X0 hx (hb hby d3_78) (pc' := 79) rfl (v := (1 : Int32)) rfl ?_
                refine own_goto X0 hx (hb hby d3_79) (pc' := 83) (by decide) (by decide) ?_
                refine own_retN X0 hx (t := .boolean) hret (by simp) hlk (hb hby d3_83) (by decide) (by decide) ?_
                show own_P _ _ _ _ T0.heap _
                exact ⟨(congrArg some (congrArg Value.int (show _ = (own_f3p5 q3 q4 w0_q1 w1_q1 w2_q1 w3_q1 w4_q1 w5_q1) from by rw [own_f3p5, if_neg hc38, if_neg hc39, if_pos hc41, if_neg hc43, if_neg hc44, if_pos hc47, if_pos hc49]; rfl))), N0, e0⟩
              · refine own_icmpYes X0 hx (hb hby d3_75) (feq hc49).2 (pc' := 82) (by decide) (by decide) ?_
                refine own_iconst X0 hx (hb hby d3_82) (pc' := 83) rfl (v := (0 : Int32)) rfl ?_
                refine own_retN X0 hx (t := .boolean) hret (by simp) hlk (hb hby d3_83) (by decide) (by decide) ?_
                show own_P _ _ _ _ T0.heap _
                exact ⟨(congrArg some (congrArg Value.int (show _ = (own_f3p5 q3 q4 w0_q1 w1_q1 w2_q1 w3_q1 w4_q1 w5_q1) from by rw [own_f3p5, if_neg hc38, if_neg hc39, if_pos hc41, if_neg hc43, if_neg hc44, if_pos hc47, if_neg hc49]; rfl))), N0, e0⟩
            · refine own_icmpYes X0 hx (hb hby d3_65) (feq hc47).2 (pc' := 82) (by decide) (by decide) ?_
              refine own_iconst X0 hx (hb hby d3_82) (pc' := 83) rfl (v := (0 : Int32)) rfl ?_
              refine own_retN X0 hx (t := .boolean) hret (by simp) hlk (hb hby d3_83) (by decide) (by decide) ?_
              show own_P _ _ _ _ T0.heap _
              exact ⟨(congrArg some (congrArg Value.int (show _ = (own_f3p5 q3 q4 w0_q1 w1_q1 w2_q1 w3_q1 w4_q1 w5_q1) from by rw [own_f3p5, if_neg hc38, if_neg hc39, if_pos hc41, if_neg hc43, if_neg hc44, if_neg hc47]; rfl))), N0, e0⟩
      · refine own_icmpYes X0 hx (hb hby d3_21) (feq hc41).2 (pc' := 36) (by decide) (by decide) ?_
        refine own_iloadN X0 hx (hb hby d3_36) (pc' := 37) rfl rfl ?_
        refine own_iconst X0 hx (hb hby d3_37) (pc' := 38) rfl (v := (3 : Int32)) rfl ?_
        refine own_icmpNo X0 hx (hb hby d3_38) (pc' := 41) rfl (flt (by decide : ¬ ((5 : Int32) < (3 : Int32)))).1 ?_
        refine own_iloadN X0 hx (hb hby d3_41) (pc' := 42) rfl rfl ?_
        refine own_iconst X0 hx (hb hby d3_42) (pc' := 43) rfl (v := (3 : Int32)) rfl ?_
        refine own_isub X0 hx (hb hby d3_43) (pc' := 44) rfl ?_
        show own_Fin _ _ _ _ T0 (mkF m 44 #[.val (.ref q1), .val (.int (5 : Int32)), .val (.int q3), .val (.int q4)] [(.int (2 : Int32))])
        refine own_iloadN X0 hx (hb hby d3_44) (pc' := 45) rfl rfl ?_
        by_cases hc50 : (2 : Int32) < q3
        · refine own_icmpYes X0 hx (hb hby d3_45) (tlt hc50).1 (pc' := 82) (by decide) (by decide) ?_
          refine own_iconst X0 hx (hb hby d3_82) (pc' := 83) rfl (v := (0 : Int32)) rfl ?_
          refine own_retN X0 hx (t := .boolean) hret (by simp) hlk (hb hby d3_83) (by decide) (by decide) ?_
          show own_P _ _ _ _ T0.heap _
          exact ⟨(congrArg some (congrArg Value.int (show _ = (own_f3p5 q3 q4 w0_q1 w1_q1 w2_q1 w3_q1 w4_q1 w5_q1) from by rw [own_f3p5, if_neg hc38, if_neg hc39, if_neg hc41, if_pos hc50]; rfl))), N0, e0⟩
        · refine own_icmpNo X0 hx (hb hby d3_45) (pc' := 48) rfl (flt hc50).1 ?_
          refine own_aloadN X0 hx (hb hby d3_48) (pc' := 49) rfl rfl rfl ?_
          refine own_iloadN X0 hx (hb hby d3_49) (pc' := 50) rfl rfl ?_
          refine own_iconst X0 hx (hb hby d3_50) (pc' := 51) rfl (v := (1 : Int32)) rfl ?_
          refine own_isub X0 hx (hb hby d3_51) (pc' := 52) rfl ?_
          show own_Fin _ _ _ _ T0 (mkF m 52 #[.val (.ref q1), .val (.int (5 : Int32)), .val (.int q3), .val (.int q4)] [(.int (4 : Int32)), (.ref q1)])
          obtain ⟨cl51, Ar51, qa51, S51, M51, H51, G51⟩ := id A_q1
          have hin51 : ¬ ((4 : Int32) < 0 ∨ cl51.slots.size ≤ ((4 : Int32)).toNatClampNeg) := inb_of S51 ⟨by decide, by decide⟩
          refine own_st ?_ (fun t k => X0.baloadBytes hx (j := (4 : Int32)) (v := (.int w4_q1)) (by rw [e0]; exact Ar51.1) (State.isArrayOf_alike hZ.alike Ar51.2.1) Ar51.2.2 hin51 (Has.at H51 hin51 rfl) (g := (mkF m 52 #[.val (.ref q1), .val (.int (5 : Int32)), .val (.int q3), .val (.int q4)] [(.int (4 : Int32)), (.ref q1)])) rfl rfl (hb hby d3_52) t k)
          show own_Fin _ _ _ _ T0 (mkF m 53 #[.val (.ref q1), .val (.int (5 : Int32)), .val (.int q3), .val (.int q4)] [(.int w4_q1)])
          refine own_bipush X0 hx (hb hby d3_53) (pc' := 55) rfl (v := (10 : Int32)) rfl ?_
          refine own_icmpYes X0 hx (hb hby d3_55) (feq hc41).2 (pc' := 82) (by decide) (by decide) ?_
          refine own_iconst X0 hx (hb hby d3_82) (pc' := 83) rfl (v := (0 : Int32)) rfl ?_
          refine own_retN X0 hx (t := .boolean) hret (by simp) hlk (hb hby d3_83) (by decide) (by decide) ?_
          show own_P _ _ _ _ T0.heap _
          exact ⟨(congrArg some (congrArg Value.int (show _ = (own_f3p5 q3 q4 w0_q1 w1_q1 w2_q1 w3_q1 w4_q1 w5_q1) from by rw [own_f3p5, if_neg hc38, if_neg hc39, if_neg hc41, if_neg hc50]; rfl))), N0, e0⟩
theorem ef_3p5 (m : MethodId) (q1 : Addr) (q3 : Int32) (q4 : Int32) : entryFrame m #[(.ref q1), (.int (5 : Int32)), (.int q3), (.int q4)] 4 = mkF m 0 #[.val (.ref q1), .val (.int (5 : Int32)), .val (.int q3), .val (.int q4)] [] := by first | (simp [entryFrame, mkF, argsToLocals, Value.category]; done) | rfl
set_option maxRecDepth 65536 in
set_option maxHeartbeats 40000000 in
theorem rm3p5 (l : Launch) (Z : State) (a0 : Array Value) (hw : ∀ d ∈ tables_1, d.before a0 Z = true) (ws : List Jvm.Cond) (q1 : Addr) (q3 : Int32) (q4 : Int32) (kc_q1 : ClassId) (w0_q1 : Int32) (w1_q1 : Int32) (w2_q1 : Int32) (w3_q1 : Int32) (w4_q1 : Int32) (w5_q1 : Int32) (h0 : Heap) (n0 : Nat) (Z0 : n0 ≤ h0.size) (A_q1 : Arv Z h0 q1 kc_q1 .byte (6 : Int32) [(.int w0_q1), (.int w1_q1), (.int w2_q1), (.int w3_q1), (.int w4_q1), (.int w5_q1)] (.int (0 : Int32))) :
    MetFree l (⟨"com/example/zhuanjie/zhuanjie/clearing/disputes/RequestHeadEndPinLaw", "endsAt", "([BIII)Z"⟩ : MethodName) (head1 (Jvm.Cond.code (⟨"com/example/zhuanjie/zhuanjie/clearing/disputes/RequestHeadEndPinLaw", "endsAt", "([BIII)Z"⟩ : MethodName) method_3_code 4 (some .boolean) :: ws) ({ frames := 0, cells := 0, slots := 0, locals := 0 } : Room)) (fun a U => a = #[(.ref q1), (.int (5 : Int32)), (.int q3), (.int q4)] ∧ Z.Warmed39 U.vm ∧ U.heap = h0) (fun _ _ _ _ _ => True) (fun _ U o U' => ∃ v L, o = .returned v ∧ (own_P h0 n0 (some (.int (own_f3p5 q3 q4 w0_q1 w1_q1 w2_q1 w3_q1 w4_q1 w5_q1)))) v U'.heap L ∧ FrameEnd U o U' L ({ frames := 0, cells := 0, slots := 0, locals := 0 } : Room).cells ({ frames := 0, cells := 0, slots := 0, locals := 0 } : Room).slots) := by
  refine MetFree.of_bodySF (plainFor_of_name pn_3) hisR ?_
  intro p e s m args below meth c s₁ Bd hml0 hP hK
  obtain ⟨rfl, hZ, hh⟩ := hP
  have hown : s.vm.findClass "com/example/zhuanjie/zhuanjie/clearing/disputes/RequestHeadEndPinLaw" = some m.cls := findClass_of_methodNamed Bd.named
  have hnm := (name_of_methodNamed Bd.named Bd.method).1
  have X0 : Stand p l e ({ frames := 0, cells := 0, slots := 0, locals := 0 } : Room) s m #[(.ref q1), (.int (5 : Int32)), (.int q3), (.int q4)] below meth c s₁ [] 0 0 := Stand.of_body Bd
  have e0 : s₁.heap = h0 := by rw [← hh, Bd.state]; rfl
  have H := sg3p5_0 l hw Bd.exec hZ Bd.bytes hml0 hown hnm Bd.returns Bd.notSynchronized q1 q3 q4 kc_q1 w0_q1 w1_q1 w2_q1 w3_q1 w4_q1 w5_q1 Z0 X0 (Fr.nil n0) e0 A_q1
  obtain ⟨t, h1, h2, o, h3, h4⟩ := H
  exact ⟨t, o, castTop (ef_3p5 m q1 q3 q4) h1, h2, h3, h4⟩
def own_f3p6 (q3 : Int32) (q4 : Int32) (w0_q1 : Int32) (w1_q1 : Int32) (w2_q1 : Int32) (w3_q1 : Int32) (w4_q1 : Int32) (w5_q1 : Int32) : Int32 :=
  if q4 < (6 : Int32) then (0 : Int32) else
  if (4 : Int32) < q3 then (0 : Int32) else
  if w5_q1 = (10 : Int32) then (if w4_q1 = (10 : Int32) then (1 : Int32) else
    if (3 : Int32) < q3 then (0 : Int32) else
    if w4_q1 = (13 : Int32) then (if w3_q1 = (10 : Int32) then (1 : Int32) else
    (0 : Int32)) else
    (0 : Int32)) else
  if (3 : Int32) < q3 then (0 : Int32) else
  (0 : Int32)
set_option maxRecDepth 65536 in
set_option maxHeartbeats 40000000 in
theorem sg3p6_0 {p : Program} (l : Launch) {e : Env} {s : State} {m : MethodId} {args : Array Value} {below : List Frame} {meth : Method} {c : Code} {Z : State} {a0 : Array Value} (hw : ∀ d ∈ tables_1, d.before a0 Z = true) (hx : p.tables.exec = Jvm.exec) (hZ : Z.Warmed39 s.vm) (hby : c.code = method_3_code) (hml : c.maxLocals = 4) (hown : s.vm.findClass "com/example/zhuanjie/zhuanjie/clearing/disputes/RequestHeadEndPinLaw" = some m.cls) (hnm : meth.name = "endsAt") (hret : meth.sig.returnType = (some .boolean)) (hlk : meth.locks = false) (q1 : Addr) (q3 : Int32) (q4 : Int32) (kc_q1 : ClassId) (w0_q1 : Int32) (w1_q1 : Int32) (w2_q1 : Int32) (w3_q1 : Int32) (w4_q1 : Int32) (w5_q1 : Int32) {h0 : Heap} {n0 : Nat} (Z0 : n0 ≤ h0.size) {T0 : State} {L0 : List Loc} (X0 : Stand p l e ({ frames := 0, cells := 0, slots := 0, locals := 0 } : Room) s m args below meth c T0 L0 0 0) (N0 : Fr n0 L0) (e0 : T0.heap = h0) (A_q1 : Arv Z h0 q1 kc_q1 .byte (6 : Int32) [(.int w0_q1), (.int w1_q1), (.int w2_q1), (.int w3_q1), (.int w4_q1), (.int w5_q1)] (.int (0 : Int32))) :
    own_Fin p.tables e below (own_End below s (own_P h0 n0 (some (.int (own_f3p6 q3 q4 w0_q1 w1_q1 w2_q1 w3_q1 w4_q1 w5_q1)))) 0 0) T0 (mkF m 0 #[.val (.ref q1), .val (.int (6 : Int32)), .val (.int q3), .val (.int q4)] []) := by
  refine own_iloadN X0 hx (hb hby d3_0) (pc' := 1) rfl rfl ?_
  refine own_iloadN X0 hx (hb hby d3_1) (pc' := 2) rfl rfl ?_
  by_cases hc52 : q4 < (6 : Int32)
  · refine own_icmpNo X0 hx (hb hby d3_2) (pc' := 5) rfl (tlt hc52).2.2.2 ?_
    refine own_iconst X0 hx (hb hby d3_5) (pc' := 6) rfl (v := (0 : Int32)) rfl ?_
    refine own_retN X0 hx (t := .boolean) hret (by simp) hlk (hb hby d3_6) (by decide) (by decide) ?_
    show own_P _ _ _ _ T0.heap _
    exact ⟨(congrArg some (congrArg Value.int (show _ = (own_f3p6 q3 q4 w0_q1 w1_q1 w2_q1 w3_q1 w4_q1 w5_q1) from by rw [own_f3p6, if_pos hc52]; rfl))), N0, e0⟩
  · refine own_icmpYes X0 hx (hb hby d3_2) (flt hc52).2.2.2 (pc' := 7) (by decide) (by decide) ?_
    refine own_iloadN X0 hx (hb hby d3_7) (pc' := 8) rfl rfl ?_
    refine own_iconst X0 hx (hb hby d3_8) (pc' := 9) rfl (v := (2 : Int32)) rfl ?_
    refine own_isub X0 hx (hb hby d3_9) (pc' := 10) rfl ?_
    show own_Fin _ _ _ _ T0 (mkF m 10 #[.val (.ref q1), .val (.int (6 : Int32)), .val (.int q3), .val (.int q4)] [(.int (4 : Int32))])
    refine own_iloadN X0 hx (hb hby d3_10) (pc' := 11) rfl rfl ?_
    by_cases hc53 : (4 : Int32) < q3
    · refine own_icmpYes X0 hx (hb hby d3_11) (tlt hc53).1 (pc' := 36) (by decide) (by decide) ?_
      refine own_iloadN X0 hx (hb hby d3_36) (pc' := 37) rfl rfl ?_
      refine own_iconst X0 hx (hb hby d3_37) (pc' := 38) rfl (v := (3 : Int32)) rfl ?_
      refine own_icmpNo X0 hx (hb hby d3_38) (pc' := 41) rfl (flt (by decide : ¬ ((6 : Int32) < (3 : Int32)))).1 ?_
      refine own_iloadN X0 hx (hb hby d3_41) (pc' := 42) rfl rfl ?_
      refine own_iconst X0 hx (hb hby d3_42) (pc' := 43) rfl (v := (3 : Int32)) rfl ?_
      refine own_isub X0 hx (hb hby d3_43) (pc' := 44) rfl ?_
      show own_Fin _ _ _ _ T0 (mkF m 44 #[.val (.ref q1), .val (.int (6 : Int32)), .val (.int q3), .val (.int q4)] [(.int (3 : Int32))])
      refine own_iloadN X0 hx (hb hby d3_44) (pc' := 45) rfl rfl ?_
      refine own_icmpYes X0 hx (hb hby d3_45) (tlt (Int32.lt_of_le_of_lt (by decide) hc53)).1 (pc' := 82) (by decide) (by decide) ?_
      refine own_iconst X0 hx (hb hby d3_82) (pc' := 83) rfl (v := (0 : Int32)) rfl ?_
      refine own_retN X0 hx (t := .boolean) hret (by simp) hlk (hb hby d3_83) (by decide) (by decide) ?_
      show own_P _ _ _ _ T0.heap _
      exact ⟨(congrArg some (congrArg Value.int (show _ = (own_f3p6 q3 q4 w0_q1 w1_q1 w2_q1 w3_q1 w4_q1 w5_q1) from by rw [own_f3p6, if_neg hc52, if_pos hc53]; rfl))), N0, e0⟩
    · refine own_icmpNo X0 hx (hb hby d3_11) (pc' := 14) rfl (flt hc53).1 ?_
      refine own_aloadN X0 hx (hb hby d3_14) (pc' := 15) rfl rfl rfl ?_
      refine own_iloadN X0 hx (hb hby d3_15) (pc' := 16) rfl rfl ?_
      refine own_iconst X0 hx (hb hby d3_16) (pc' := 17) rfl (v := (1 : Int32)) rfl ?_
      refine own_isub X0 hx (hb hby d3_17) (pc' := 18) rfl ?_
      show own_Fin _ _ _ _ T0 (mkF m 18 #[.val (.ref q1), .val (.int (6 : Int32)), .val (.int q3), .val (.int q4)] [(.int (5 : Int32)), (.ref q1)])
      obtain ⟨cl54, Ar54, qa54, S54, M54, H54, G54⟩ := id A_q1
      have hin54 : ¬ ((5 : Int32) < 0 ∨ cl54.slots.size ≤ ((5 : Int32)).toNatClampNeg) := inb_of S54 ⟨by decide, by decide⟩
      refine own_st ?_ (fun t k => X0.baloadBytes hx (j := (5 : Int32)) (v := (.int w5_q1)) (by rw [e0]; exact Ar54.1) (State.isArrayOf_alike hZ.alike Ar54.2.1) Ar54.2.2 hin54 (Has.at H54 hin54 rfl) (g := (mkF m 18 #[.val (.ref q1), .val (.int (6 : Int32)), .val (.int q3), .val (.int q4)] [(.int (5 : Int32)), (.ref q1)])) rfl rfl (hb hby d3_18) t k)
      show own_Fin _ _ _ _ T0 (mkF m 19 #[.val (.ref q1), .val (.int (6 : Int32)), .val (.int q3), .val (.int q4)] [(.int w5_q1)])
      refine own_bipush X0 hx (hb hby d3_19) (pc' := 21) rfl (v := (10 : Int32)) rfl ?_
      by_cases hc55 : w5_q1 = (10 : Int32)
      · refine own_icmpNo X0 hx (hb hby d3_21) (pc' := 24) rfl (teq hc55).2 ?_
        refine own_aloadN X0 hx (hb hby d3_24) (pc' := 25) rfl rfl rfl ?_
        refine own_iloadN X0 hx (hb hby d3_25) (pc' := 26) rfl rfl ?_
        refine own_iconst X0 hx (hb hby d3_26) (pc' := 27) rfl (v := (2 : Int32)) rfl ?_
        refine own_isub X0 hx (hb hby d3_27) (pc' := 28) rfl ?_
        show own_Fin _ _ _ _ T0 (mkF m 28 #[.val (.ref q1), .val (.int (6 : Int32)), .val (.int q3), .val (.int q4)] [(.int (4 : Int32)), (.ref q1)])
        obtain ⟨cl56, Ar56, qa56, S56, M56, H56, G56⟩ := id A_q1
        have hin56 : ¬ ((4 : Int32) < 0 ∨ cl56.slots.size ≤ ((4 : Int32)).toNatClampNeg) := inb_of S56 ⟨by decide, by decide⟩
        refine own_st ?_ (fun t k => X0.baloadBytes hx (j := (4 : Int32)) (v := (.int w4_q1)) (by rw [e0]; exact Ar56.1) (State.isArrayOf_alike hZ.alike Ar56.2.1) Ar56.2.2 hin56 (Has.at H56 hin56 rfl) (g := (mkF m 28 #[.val (.ref q1), .val (.int (6 : Int32)), .val (.int q3), .val (.int q4)] [(.int (4 : Int32)), (.ref q1)])) rfl rfl (hb hby d3_28) t k)
        show own_Fin _ _ _ _ T0 (mkF m 29 #[.val (.ref q1), .val (.int (6 : Int32)), .val (.int q3), .val (.int q4)] [(.int w4_q1)])
        refine own_bipush X0 hx (hb hby d3_29) (pc' := 31) rfl (v := (10 : Int32)) rfl ?_
        by_cases hc57 : w4_q1 = (10 : Int32)
        · refine own_icmpNo X0 hx (hb hby d3_31) (pc' := 34) rfl (teq hc57).2 ?_
          refine own_iconst X0 hx (hb hby d3_34) (pc' := 35) rfl (v := (1 : Int32)) rfl ?_
          refine own_retN X0 hx (t := .boolean) hret (by simp) hlk (hb hby d3_35) (by decide) (by decide) ?_
          show own_P _ _ _ _ T0.heap _
          exact ⟨(congrArg some (congrArg Value.int (show _ = (own_f3p6 q3 q4 w0_q1 w1_q1 w2_q1 w3_q1 w4_q1 w5_q1) from by rw [own_f3p6, if_neg hc52, if_neg hc53, if_pos hc55, if_pos hc57]; rfl))), N0, e0⟩
        · refine own_icmpYes X0 hx (hb hby d3_31) (feq hc57).2 (pc' := 36) (by decide) (by decide) ?_
          refine own_iloadN X0 hx (hb hby d3_36) (pc' := 37) rfl rfl ?_
          refine own_iconst X0 hx (hb hby d3_37) (pc' := 38) rfl (v := (3 : Int32)) rfl ?_
          refine own_icmpNo X0 hx (hb hby d3_38) (pc' := 41) rfl (flt (by decide : ¬ ((6 : Int32) < (3 : Int32)))).1 ?_
          refine own_iloadN X0 hx (hb hby d3_41) (pc' := 42) rfl rfl ?_
          refine own_iconst X0 hx (hb hby d3_42) (pc' := 43) rfl (v := (3 : Int32)) rfl ?_
          refine own_isub X0 hx (hb hby d3_43) (pc' := 44) rfl ?_
          show own_Fin _ _ _ _ T0 (mkF m 44 #[.val (.ref q1), .val (.int (6 : Int32)), .val (.int q3), .val (.int q4)] [(.int (3 : Int32))])
          refine own_iloadN X0 hx (hb hby d3_44) (pc' := 45) rfl rfl ?_
          by_cases hc58 : (3 : Int32) < q3
          · refine own_icmpYes X0 hx (hb hby d3_45) (tlt hc58).1 (pc' := 82) (by decide) (by decide) ?_
            refine own_iconst X0 hx (hb hby d3_82) (pc' := 83) rfl (v := (0 : Int32)) rfl ?_
            refine own_retN X0 hx (t := .boolean) hret (by simp) hlk (hb hby d3_83) (by decide) (by decide) ?_
            show own_P _ _ _ _ T0.heap _
            exact ⟨(congrArg some (congrArg Value.int (show _ = (own_f3p6 q3 q4 w0_q1 w1_q1 w2_q1 w3_q1 w4_q1 w5_q1) from by rw [own_f3p6, if_neg hc52, if_neg hc53, if_pos hc55, if_neg hc57, if_pos hc58]; rfl))), N0, e0⟩
          · refine own_icmpNo X0 hx (hb hby d3_45) (pc' := 48) rfl (flt hc58).1 ?_
            refine own_aloadN X0 hx (hb hby d3_48) (pc' := 49) rfl rfl rfl ?_
            refine own_iloadN X0 hx (hb hby d3_49) (pc' := 50) rfl rfl ?_
            refine own_iconst X0 hx (hb hby d3_50) (pc' := 51) rfl (v := (1 : Int32)) rfl ?_
            refine own_isub X0 hx (hb hby d3_51) (pc' := 52) rfl ?_
            show own_Fin _ _ _ _ T0 (mkF m 52 #[.val (.ref q1), .val (.int (6 : Int32)), .val (.int q3), .val (.int q4)] [(.int (5 : Int32)), (.ref q1)])
            obtain ⟨cl59, Ar59, qa59, S59, M59, H59, G59⟩ := id A_q1
            have hin59 : ¬ ((5 : Int32) < 0 ∨ cl59.slots.size ≤ ((5 : Int32)).toNatClampNeg) := inb_of S59 ⟨by decide, by decide⟩
            refine own_st ?_ (fun t k => X0.baloadBytes hx (j := (5 : Int32)) (v := (.int w5_q1)) (by rw [e0]; exact Ar59.1) (State.isArrayOf_alike hZ.alike Ar59.2.1) Ar59.2.2 hin59 (Has.at H59 hin59 rfl) (g := (mkF m 52 #[.val (.ref q1), .val (.int (6 : Int32)), .val (.int q3), .val (.int q4)] [(.int (5 : Int32)), (.ref q1)])) rfl rfl (hb hby d3_52) t k)
            show own_Fin _ _ _ _ T0 (mkF m 53 #[.val (.ref q1), .val (.int (6 : Int32)), .val (.int q3), .val (.int q4)] [(.int w5_q1)])
            refine own_bipush X0 hx (hb hby d3_53) (pc' := 55) rfl (v := (10 : Int32)) rfl ?_
            refine own_icmpNo X0 hx (hb hby d3_55) (pc' := 58) rfl (teq hc55).2 ?_
            refine own_aloadN X0 hx (hb hby d3_58) (pc' := 59) rfl rfl rfl ?_
            refine own_iloadN X0 hx (hb hby d3_59) (pc' := 60) rfl rfl ?_
            refine own_iconst X0 hx (hb hby d3_60) (pc' := 61) rfl (v := (2 : Int32)) rfl ?_
            refine own_isub X0 hx (hb hby d3_61) (pc' := 62) rfl ?_
            show own_Fin _ _ _ _ T0 (mkF m 62 #[.val (.ref q1), .val (.int (6 : Int32)), .val (.int q3), .val (.int q4)] [(.int (4 : Int32)), (.ref q1)])
            obtain ⟨cl60, Ar60, qa60, S60, M60, H60, G60⟩ := id A_q1
            have hin60 : ¬ ((4 : Int32) < 0 ∨ cl60.slots.size ≤ ((4 : Int32)).toNatClampNeg) := inb_of S60 ⟨by decide, by decide⟩
            refine own_st ?_ (fun t k => X0.baloadBytes hx (j := (4 : Int32)) (v := (.int w4_q1)) (by rw [e0]; exact Ar60.1) (State.isArrayOf_alike hZ.alike Ar60.2.1) Ar60.2.2 hin60 (Has.at H60 hin60 rfl) (g := (mkF m 62 #[.val (.ref q1), .val (.int (6 : Int32)), .val (.int q3), .val (.int q4)] [(.int (4 : Int32)), (.ref q1)])) rfl rfl (hb hby d3_62) t k)
            show own_Fin _ _ _ _ T0 (mkF m 63 #[.val (.ref q1), .val (.int (6 : Int32)), .val (.int q3), .val (.int q4)] [(.int w4_q1)])
            refine own_bipush X0 hx (hb hby d3_63) (pc' := 65) rfl (v := (13 : Int32)) rfl ?_
            by_cases hc61 : w4_q1 = (13 : Int32)
            · refine own_icmpNo X0 hx (hb hby d3_65) (pc' := 68) rfl (teq hc61).2 ?_
              refine own_aloadN X0 hx (hb hby d3_68) (pc' := 69) rfl rfl rfl ?_
              refine own_iloadN X0 hx (hb hby d3_69) (pc' := 70) rfl rfl ?_
              refine own_iconst X0 hx (hb hby d3_70) (pc' := 71) rfl (v := (3 : Int32)) rfl ?_
              refine own_isub X0 hx (hb hby d3_71) (pc' := 72) rfl ?_
              show own_Fin _ _ _ _ T0 (mkF m 72 #[.val (.ref q1), .val (.int (6 : Int32)), .val (.int q3), .val (.int q4)] [(.int (3 : Int32)), (.ref q1)])
              obtain ⟨cl62, Ar62, qa62, S62, M62, H62, G62⟩ := id A_q1
              have hin62 : ¬ ((3 : Int32) < 0 ∨ cl62.slots.size ≤ ((3 : Int32)).toNatClampNeg) := inb_of S62 ⟨by decide, by decide⟩
              refine own_st ?_ (fun t k => X0.baloadBytes hx (j := (3 : Int32)) (v := (.int w3_q1)) (by rw [e0]; exact Ar62.1) (State.isArrayOf_alike hZ.alike Ar62.2.1) Ar62.2.2 hin62 (Has.at H62 hin62 rfl) (g := (mkF m 72 #[.val (.ref q1), .val (.int (6 : Int32)), .val (.int q3), .val (.int q4)] [(.int (3 : Int32)), (.ref q1)])) rfl rfl (hb hby d3_72) t k)
              show own_Fin _ _ _ _ T0 (mkF m 73 #[.val (.ref q1), .val (.int (6 : Int32)), .val (.int q3), .val (.int q4)] [(.int w3_q1)])
              refine own_bipush X0 hx (hb hby d3_73) (pc' := 75) rfl (v := (10 : Int32)) rfl ?_
              by_cases hc63 : w3_q1 = (10 : Int32)
              · refine own_icmpNo X0 hx (hb hby d3_75) (pc' := 78) rfl (teq hc63).2 ?_
                refine own_iconst X0 hx (hb hby d3_78) (pc' := 79) rfl (v := (1 : Int32)) rfl ?_
                refine own_goto X0 hx (hb hby d3_79) (pc' := 83) (by decide) (by decide) ?_
                refine own_retN X0 hx (t := .boolean) hret (by simp) hlk (hb hby d3_83) (by decide) (by decide) ?_
                show own_P _ _ _ _ T0.heap _
                exact ⟨(congrArg some (congrArg Value.int (show _ = (own_f3p6 q3 q4 w0_q1 w1_q1 w2_q1 w3_q1 w4_q1 w5_q1) from by rw [own_f3p6, if_neg hc52, if_neg hc53, if_pos hc55, if_neg hc57, if_neg hc58, if_pos hc61, if_pos hc63]; rfl))), N0, e0⟩
              · refine own_icmpYes X0 hx (hb hby d3_75) (feq hc63).2 (pc' := 82) (by decide) (by decide) ?_
                refine own_iconst X0 hx (hb hby d3_82) (pc' := 83) rfl (v := (0 : Int32)) rfl ?_
                refine own_retN X0 hx (t := .boolean) hret (by simp) hlk (hb hby d3_83) (by decide) (by decide) ?_
                show own_P _ _ _ _ T0.heap _
                exact ⟨(congrArg some (congrArg Value.int (show _ = (own_f3p6 q3 q4 w0_q1 w1_q1 w2_q1 w3_q1 w4_q1 w5_q1) from by rw [own_f3p6, if_neg hc52, if_neg hc53, if_pos hc55, if_neg hc57, if_neg hc58, if_pos hc61, if_neg hc63]; rfl))), N0, e0⟩
            · refine own_icmpYes X0 hx (hb hby d3_65) (feq hc61).2 (pc' := 82) (by decide) (by decide) ?_
              refine own_iconst X0 hx (hb hby d3_82) (pc' := 83) rfl (v := (0 : Int32)) rfl ?_
              refine own_retN X0 hx (t := .boolean) hret (by simp) hlk (hb hby d3_83) (by decide) (by decide) ?_
              show own_P _ _ _ _ T0.heap _
              exact ⟨(congrArg some (congrArg Value.int (show _ = (own_f3p6 q3 q4 w0_q1 w1_q1 w2_q1 w3_q1 w4_q1 w5_q1) from by rw [own_f3p6, if_neg hc52, if_neg hc53, if_pos hc55, if_neg hc57, if_neg hc58, if_neg hc61]; rfl))), N0, e0⟩
      · refine own_icmpYes X0 hx (hb hby d3_21) (feq hc55).2 (pc' := 36) (by decide) (by decide) ?_
        refine own_iloadN X0 hx (hb hby d3_36) (pc' := 37) rfl rfl ?_
        refine own_iconst X0 hx (hb hby d3_37) (pc' := 38) rfl (v := (3 : Int32)) rfl ?_
        refine own_icmpNo X0 hx (hb hby d3_38) (pc' := 41) rfl (flt (by decide : ¬ ((6 : Int32) < (3 : Int32)))).1 ?_
        refine own_iloadN X0 hx (hb hby d3_41) (pc' := 42) rfl rfl ?_
        refine own_iconst X0 hx (hb hby d3_42) (pc' := 43) rfl (v := (3 : Int32)) rfl ?_
        refine own_isub X0 hx (hb hby d3_43) (pc' := 44) rfl ?_
        show own_Fin _ _ _ _ T0 (mkF m 44 #[.val (.ref q1), .val (.int (6 : Int32)), .val (.int q3), .val (.int q4)] [(.int (3 : Int32))])
        refine own_iloadN X0 hx (hb hby d3_44) (pc' := 45) rfl rfl ?_
        by_cases hc64 : (3 : Int32) < q3
        · refine own_icmpYes X0 hx (hb hby d3_45) (tlt hc64).1 (pc' := 82) (by decide) (by decide) ?_
          refine own_iconst X0 hx (hb hby d3_82) (pc' := 83) rfl (v := (0 : Int32)) rfl ?_
          refine own_retN X0 hx (t := .boolean) hret (by simp) hlk (hb hby d3_83) (by decide) (by decide) ?_
          show own_P _ _ _ _ T0.heap _
          exact ⟨(congrArg some (congrArg Value.int (show _ = (own_f3p6 q3 q4 w0_q1 w1_q1 w2_q1 w3_q1 w4_q1 w5_q1) from by rw [own_f3p6, if_neg hc52, if_neg hc53, if_neg hc55, if_pos hc64]; rfl))), N0, e0⟩
        · refine own_icmpNo X0 hx (hb hby d3_45) (pc' := 48) rfl (flt hc64).1 ?_
          refine own_aloadN X0 hx (hb hby d3_48) (pc' := 49) rfl rfl rfl ?_
          refine own_iloadN X0 hx (hb hby d3_49) (pc' := 50) rfl rfl ?_
          refine own_iconst X0 hx (hb hby d3_50) (pc' := 51) rfl (v := (1 : Int32)) rfl ?_
          refine own_isub X0 hx (hb hby d3_51) (pc' := 52) rfl ?_
          show own_Fin _ _ _ _ T0 (mkF m 52 #[.val (.ref q1), .val (.int (6 : Int32)), .val (.int q3), .val (.int q4)] [(.int (5 : Int32)), (.ref q1)])
          obtain ⟨cl65, Ar65, qa65, S65, M65, H65, G65⟩ := id A_q1
          have hin65 : ¬ ((5 : Int32) < 0 ∨ cl65.slots.size ≤ ((5 : Int32)).toNatClampNeg) := inb_of S65 ⟨by decide, by decide⟩
          refine own_st ?_ (fun t k => X0.baloadBytes hx (j := (5 : Int32)) (v := (.int w5_q1)) (by rw [e0]; exact Ar65.1) (State.isArrayOf_alike hZ.alike Ar65.2.1) Ar65.2.2 hin65 (Has.at H65 hin65 rfl) (g := (mkF m 52 #[.val (.ref q1), .val (.int (6 : Int32)), .val (.int q3), .val (.int q4)] [(.int (5 : Int32)), (.ref q1)])) rfl rfl (hb hby d3_52) t k)
          show own_Fin _ _ _ _ T0 (mkF m 53 #[.val (.ref q1), .val (.int (6 : Int32)), .val (.int q3), .val (.int q4)] [(.int w5_q1)])
          refine own_bipush X0 hx (hb hby d3_53) (pc' := 55) rfl (v := (10 : Int32)) rfl ?_
          refine own_icmpYes X0 hx (hb hby d3_55) (feq hc55).2 (pc' := 82) (by decide) (by decide) ?_
          refine own_iconst X0 hx (hb hby d3_82) (pc' := 83) rfl (v := (0 : Int32)) rfl ?_
          refine own_retN X0 hx (t := .boolean) hret (by simp) hlk (hb hby d3_83) (by decide) (by decide) ?_
          show own_P _ _ _ _ T0.heap _
          exact ⟨(congrArg some (congrArg Value.int (show _ = (own_f3p6 q3 q4 w0_q1 w1_q1 w2_q1 w3_q1 w4_q1 w5_q1) from by rw [own_f3p6, if_neg hc52, if_neg hc53, if_neg hc55, if_neg hc64]; rfl))), N0, e0⟩
theorem ef_3p6 (m : MethodId) (q1 : Addr) (q3 : Int32) (q4 : Int32) : entryFrame m #[(.ref q1), (.int (6 : Int32)), (.int q3), (.int q4)] 4 = mkF m 0 #[.val (.ref q1), .val (.int (6 : Int32)), .val (.int q3), .val (.int q4)] [] := by first | (simp [entryFrame, mkF, argsToLocals, Value.category]; done) | rfl
set_option maxRecDepth 65536 in
set_option maxHeartbeats 40000000 in
theorem rm3p6 (l : Launch) (Z : State) (a0 : Array Value) (hw : ∀ d ∈ tables_1, d.before a0 Z = true) (ws : List Jvm.Cond) (q1 : Addr) (q3 : Int32) (q4 : Int32) (kc_q1 : ClassId) (w0_q1 : Int32) (w1_q1 : Int32) (w2_q1 : Int32) (w3_q1 : Int32) (w4_q1 : Int32) (w5_q1 : Int32) (h0 : Heap) (n0 : Nat) (Z0 : n0 ≤ h0.size) (A_q1 : Arv Z h0 q1 kc_q1 .byte (6 : Int32) [(.int w0_q1), (.int w1_q1), (.int w2_q1), (.int w3_q1), (.int w4_q1), (.int w5_q1)] (.int (0 : Int32))) :
    MetFree l (⟨"com/example/zhuanjie/zhuanjie/clearing/disputes/RequestHeadEndPinLaw", "endsAt", "([BIII)Z"⟩ : MethodName) (head1 (Jvm.Cond.code (⟨"com/example/zhuanjie/zhuanjie/clearing/disputes/RequestHeadEndPinLaw", "endsAt", "([BIII)Z"⟩ : MethodName) method_3_code 4 (some .boolean) :: ws) ({ frames := 0, cells := 0, slots := 0, locals := 0 } : Room)) (fun a U => a = #[(.ref q1), (.int (6 : Int32)), (.int q3), (.int q4)] ∧ Z.Warmed39 U.vm ∧ U.heap = h0) (fun _ _ _ _ _ => True) (fun _ U o U' => ∃ v L, o = .returned v ∧ (own_P h0 n0 (some (.int (own_f3p6 q3 q4 w0_q1 w1_q1 w2_q1 w3_q1 w4_q1 w5_q1)))) v U'.heap L ∧ FrameEnd U o U' L ({ frames := 0, cells := 0, slots := 0, locals := 0 } : Room).cells ({ frames := 0, cells := 0, slots := 0, locals := 0 } : Room).slots) := by
  refine MetFree.of_bodySF (plainFor_of_name pn_3) hisR ?_
  intro p e s m args below meth c s₁ Bd hml0 hP hK
  obtain ⟨rfl, hZ, hh⟩ := hP
  have hown : s.vm.findClass "com/example/zhuanjie/zhuanjie/clearing/disputes/RequestHeadEndPinLaw" = some m.cls := findClass_of_methodNamed Bd.named
  have hnm := (name_of_methodNamed Bd.named Bd.method).1
  have X0 : Stand p l e ({ frames := 0, cells := 0, slots := 0, locals := 0 } : Room) s m #[(.ref q1), (.int (6 : Int32)), (.int q3), (.int q4)] below meth c s₁ [] 0 0 := Stand.of_body Bd
  have e0 : s₁.heap = h0 := by rw [← hh, Bd.state]; rfl
  have H := sg3p6_0 l hw Bd.exec hZ Bd.bytes hml0 hown hnm Bd.returns Bd.notSynchronized q1 q3 q4 kc_q1 w0_q1 w1_q1 w2_q1 w3_q1 w4_q1 w5_q1 Z0 X0 (Fr.nil n0) e0 A_q1
  obtain ⟨t, h1, h2, o, h3, h4⟩ := H
  exact ⟨t, o, castTop (ef_3p6 m q1 q3 q4) h1, h2, h3, h4⟩
theorem own_b64 (x : Int64) : -9223372036854775808 ≤ x.toInt ∧ x.toInt < 9223372036854775808 := ⟨Int64.le_toInt x, Int64.toInt_lt x⟩
theorem own_b32 (x : Int32) : -2147483648 ≤ x.toInt ∧ x.toInt < 2147483648 := ⟨Int32.le_toInt x, Int32.toInt_lt x⟩
theorem own_wrap64 (n : Int) : ∃ k : Int, n.bmod (2 ^ 64) = n + k * 18446744073709551616 := by
  rw [Int.bmod_def]
  split
  · exact ⟨-(n / 18446744073709551616), by omega⟩
  · exact ⟨-(n / 18446744073709551616) - 1, by omega⟩
theorem own_add64 (x y : Int64) : ∃ k : Int, (x + y).toInt = x.toInt + y.toInt + k * 18446744073709551616 := by
  rw [Int64.toInt_add]; exact own_wrap64 _
theorem own_sub64 (x y : Int64) : ∃ k : Int, (x - y).toInt = x.toInt - y.toInt + k * 18446744073709551616 := by
  rw [Int64.toInt_sub]; exact own_wrap64 _
theorem own_wrap32 (n : Int) : ∃ k : Int, n.bmod (2 ^ 32) = n + k * 4294967296 := by
  rw [Int.bmod_def]
  split
  · exact ⟨-(n / 4294967296), by omega⟩
  · exact ⟨-(n / 4294967296) - 1, by omega⟩
theorem own_add32 (x y : Int32) : ∃ k : Int, (x + y).toInt = x.toInt + y.toInt + k * 4294967296 := by
  rw [Int32.toInt_add]; exact own_wrap32 _
theorem own_sub32 (x y : Int32) : ∃ k : Int, (x - y).toInt = x.toInt - y.toInt + k * 4294967296 := by
  rw [Int32.toInt_sub]; exact own_wrap32 _
theorem own_m63 (x : Int64) : (x &&& (9223372036854775807 : Int64)).toInt = x.toInt % 9223372036854775808 := Jvm.Kit.i64_mask x _ (k := 63) (by decide) (by decide)
theorem own_m31 (x : Int32) : (x &&& (2147483647 : Int32)).toInt = x.toInt % 2147483648 := Jvm.Kit.i32_mask x _ (k := 31) (by decide) (by decide)
theorem own_max64 : (9223372036854775807 : Int64).toInt = 9223372036854775807 := by decide
theorem own_lt64 {x y : Int64} : x < y ↔ x.toInt < y.toInt := Int64.lt_iff_toInt_lt
theorem own_lt32 {x y : Int32} : x < y ↔ x.toInt < y.toInt := Int32.lt_iff_toInt_lt
theorem own_eq64 {x y : Int64} : x = y ↔ x.toInt = y.toInt := Int64.toInt_inj.symm
theorem own_eq32 {x y : Int32} : x = y ↔ x.toInt = y.toInt := Int32.toInt_inj.symm
theorem own_rem32 (x y : Int32) (hx : 0 ≤ x.toInt) (hy : 0 < y.toInt) : (x - x / y * y).toInt = x.toInt % y.toInt := by
  have bx := own_b32 x; have by' := own_b32 y
  have hd : (x / y).toInt = x.toInt / y.toInt := by
    rw [Jvm.Kit.i32_div (by omega), Int.tdiv_eq_ediv_of_nonneg hx]
  have h1 : 0 ≤ x.toInt / y.toInt := Int.ediv_nonneg hx (by omega)
  have h2 : x.toInt / y.toInt * y.toInt ≤ x.toInt := Int.ediv_mul_le _ (by omega)
  have h3 : 0 ≤ x.toInt / y.toInt * y.toInt := Int.mul_nonneg h1 (by omega)
  have h4 : x.toInt % y.toInt = x.toInt - x.toInt / y.toInt * y.toInt := by rw [Int.emod_def, Int.mul_comm]
  have hm : (x / y * y).toInt = x.toInt / y.toInt * y.toInt := by
    rw [Jvm.Kit.i32_mul (by rw [hd]; omega) (by rw [hd]; omega), hd]
  rw [Jvm.Kit.i32_sub (by rw [hm]; omega) (by rw [hm]; omega), hm, h4]

theorem own_mx (x : Int32) (h : 0 ≤ x.toInt ∧ x.toInt ≤ 7) : (own_f2 (x - (2 : Int32)) (0 : Int32)) = 0 ∨ (own_f2 (x - (2 : Int32)) (0 : Int32)) = 1 ∨ (own_f2 (x - (2 : Int32)) (0 : Int32)) = 2 ∨ (own_f2 (x - (2 : Int32)) (0 : Int32)) = 3 ∨ (own_f2 (x - (2 : Int32)) (0 : Int32)) = 4 ∨ (own_f2 (x - (2 : Int32)) (0 : Int32)) = 5 := by
  have e0 : (0 : Int32).toInt = 0 := by decide
  have e1 : (1 : Int32).toInt = 1 := by decide
  have e2 : (2 : Int32).toInt = 2 := by decide
  have e3 : (3 : Int32).toInt = 3 := by decide
  have e4 : (4 : Int32).toInt = 4 := by decide
  have e5 : (5 : Int32).toInt = 5 := by decide
  have hs : (x - (2 : Int32)).toInt = x.toInt - 2 := by rw [Jvm.Kit.i32_sub (by omega) (by omega), e2]
  unfold own_f2
  by_cases h1 : x - (2 : Int32) < 0
  · rw [if_pos h1]; exact Or.inl rfl
  · simp only [if_neg h1, own_eq32, hs]; rw [own_lt32] at h1; omega
theorem d4_0 : decode prog_27_method_2_code 0 = .ok (.iconst (-1), 1) := by decide +kernel
theorem d4_1 : decode prog_27_method_2_code 1 = .ok (.istore_n 3, 1) := by decide +kernel
theorem d4_2 : decode prog_27_method_2_code 2 = .ok (.iload_n 1, 1) := by decide +kernel
theorem d4_3 : decode prog_27_method_2_code 3 = .ok (.iconst 2, 1) := by decide +kernel
theorem d4_4 : decode prog_27_method_2_code 4 = .ok (.isub, 1) := by decide +kernel
theorem d4_5 : decode prog_27_method_2_code 5 = .ok (.iconst 0, 1) := by decide +kernel
theorem d4_6 : decode prog_27_method_2_code 6 = .ok (.invokestatic 28, 3) := by decide +kernel
theorem d4_9 : decode prog_27_method_2_code 9 = .ok (.istore 4, 2) := by decide +kernel
theorem d4_11 : decode prog_27_method_2_code 11 = .ok (.iload_n 3, 1) := by decide +kernel
theorem d4_12 : decode prog_27_method_2_code 12 = .ok (.ifCond .ge 93, 3) := by decide +kernel
theorem d4_15 : decode prog_27_method_2_code 15 = .ok (.iload 4, 2) := by decide +kernel
theorem d4_17 : decode prog_27_method_2_code 17 = .ok (.iload_n 2, 1) := by decide +kernel
theorem d4_18 : decode prog_27_method_2_code 18 = .ok (.iconst 1, 1) := by decide +kernel
theorem d4_19 : decode prog_27_method_2_code 19 = .ok (.isub, 1) := by decide +kernel
theorem d4_20 : decode prog_27_method_2_code 20 = .ok (.if_icmp .ge 85, 3) := by decide +kernel
theorem d4_23 : decode prog_27_method_2_code 23 = .ok (.aload_n 0, 1) := by decide +kernel
theorem d4_24 : decode prog_27_method_2_code 24 = .ok (.iload 4, 2) := by decide +kernel
theorem d4_26 : decode prog_27_method_2_code 26 = .ok (.baload, 1) := by decide +kernel
theorem d4_27 : decode prog_27_method_2_code 27 = .ok (.bipush 10, 2) := by decide +kernel
theorem d4_29 : decode prog_27_method_2_code 29 = .ok (.if_icmp .ne 22, 3) := by decide +kernel
theorem d4_32 : decode prog_27_method_2_code 32 = .ok (.aload_n 0, 1) := by decide +kernel
theorem d4_33 : decode prog_27_method_2_code 33 = .ok (.iload 4, 2) := by decide +kernel
theorem d4_35 : decode prog_27_method_2_code 35 = .ok (.iconst 1, 1) := by decide +kernel
theorem d4_36 : decode prog_27_method_2_code 36 = .ok (.iadd, 1) := by decide +kernel
theorem d4_37 : decode prog_27_method_2_code 37 = .ok (.baload, 1) := by decide +kernel
theorem d4_38 : decode prog_27_method_2_code 38 = .ok (.bipush 10, 2) := by decide +kernel
theorem d4_40 : decode prog_27_method_2_code 40 = .ok (.if_icmp .ne 11, 3) := by decide +kernel
theorem d4_43 : decode prog_27_method_2_code 43 = .ok (.iload 4, 2) := by decide +kernel
theorem d4_45 : decode prog_27_method_2_code 45 = .ok (.iconst 2, 1) := by decide +kernel
theorem d4_46 : decode prog_27_method_2_code 46 = .ok (.iadd, 1) := by decide +kernel
theorem d4_47 : decode prog_27_method_2_code 47 = .ok (.istore_n 3, 1) := by decide +kernel
theorem d4_48 : decode prog_27_method_2_code 48 = .ok (.goto 51, 3) := by decide +kernel
theorem d4_51 : decode prog_27_method_2_code 51 = .ok (.aload_n 0, 1) := by decide +kernel
theorem d4_52 : decode prog_27_method_2_code 52 = .ok (.iload 4, 2) := by decide +kernel
theorem d4_54 : decode prog_27_method_2_code 54 = .ok (.baload, 1) := by decide +kernel
theorem d4_55 : decode prog_27_method_2_code 55 = .ok (.bipush 10, 2) := by decide +kernel
theorem d4_57 : decode prog_27_method_2_code 57 = .ok (.if_icmp .ne 42, 3) := by decide +kernel
theorem d4_60 : decode prog_27_method_2_code 60 = .ok (.aload_n 0, 1) := by decide +kernel
theorem d4_61 : decode prog_27_method_2_code 61 = .ok (.iload 4, 2) := by decide +kernel
theorem d4_63 : decode prog_27_method_2_code 63 = .ok (.iconst 1, 1) := by decide +kernel
theorem d4_64 : decode prog_27_method_2_code 64 = .ok (.iadd, 1) := by decide +kernel
theorem d4_65 : decode prog_27_method_2_code 65 = .ok (.baload, 1) := by decide +kernel
theorem d4_66 : decode prog_27_method_2_code 66 = .ok (.bipush 13, 2) := by decide +kernel
theorem d4_68 : decode prog_27_method_2_code 68 = .ok (.if_icmp .ne 31, 3) := by decide +kernel
theorem d4_71 : decode prog_27_method_2_code 71 = .ok (.iload 4, 2) := by decide +kernel
theorem d4_73 : decode prog_27_method_2_code 73 = .ok (.iconst 2, 1) := by decide +kernel
theorem d4_74 : decode prog_27_method_2_code 74 = .ok (.iadd, 1) := by decide +kernel
theorem d4_75 : decode prog_27_method_2_code 75 = .ok (.iload_n 2, 1) := by decide +kernel
theorem d4_76 : decode prog_27_method_2_code 76 = .ok (.if_icmp .ge 23, 3) := by decide +kernel
theorem d4_79 : decode prog_27_method_2_code 79 = .ok (.aload_n 0, 1) := by decide +kernel
theorem d4_80 : decode prog_27_method_2_code 80 = .ok (.iload 4, 2) := by decide +kernel
theorem d4_82 : decode prog_27_method_2_code 82 = .ok (.iconst 2, 1) := by decide +kernel
theorem d4_83 : decode prog_27_method_2_code 83 = .ok (.iadd, 1) := by decide +kernel
theorem d4_84 : decode prog_27_method_2_code 84 = .ok (.baload, 1) := by decide +kernel
theorem d4_85 : decode prog_27_method_2_code 85 = .ok (.bipush 10, 2) := by decide +kernel
theorem d4_87 : decode prog_27_method_2_code 87 = .ok (.if_icmp .ne 10, 3) := by decide +kernel
theorem d4_90 : decode prog_27_method_2_code 90 = .ok (.iload 4, 2) := by decide +kernel
theorem d4_92 : decode prog_27_method_2_code 92 = .ok (.iconst 3, 1) := by decide +kernel
theorem d4_93 : decode prog_27_method_2_code 93 = .ok (.iadd, 1) := by decide +kernel
theorem d4_94 : decode prog_27_method_2_code 94 = .ok (.goto 4, 3) := by decide +kernel
theorem d4_97 : decode prog_27_method_2_code 97 = .ok (.iconst (-1), 1) := by decide +kernel
theorem d4_98 : decode prog_27_method_2_code 98 = .ok (.istore_n 3, 1) := by decide +kernel
theorem d4_99 : decode prog_27_method_2_code 99 = .ok (.iinc 4 1, 3) := by decide +kernel
theorem d4_102 : decode prog_27_method_2_code 102 = .ok (.goto (-91), 3) := by decide +kernel
theorem d4_105 : decode prog_27_method_2_code 105 = .ok (.iload_n 3, 1) := by decide +kernel
theorem d4_106 : decode prog_27_method_2_code 106 = .ok (.ireturn, 1) := by decide +kernel
theorem pn_4 : plainName "com/example/zhuanjie/zhuanjie/clearing/disputes/RequestHead" = true := by first | (simp [plainName, overriddenIn]; done) | decide +kernel
def own_f4_11_5 (v2 : Int32) (v3 : Int32) (u1 : Int32) (u2 : Int32) (u3 : Int32) (u4 : Int32) (u5 : Int32) (u6 : Int32) : Int32 :=
  (-1 : Int32)
def own_f4_11_4 (v2 : Int32) (v3 : Int32) (u1 : Int32) (u2 : Int32) (u3 : Int32) (u4 : Int32) (u5 : Int32) (u6 : Int32) : Int32 :=
  if (4 : Int32) < (v3 - (1 : Int32)) then (if u5 = (10 : Int32) then (if u6 = (10 : Int32) then (6 : Int32) else
    if u6 = (13 : Int32) then (own_f4_11_5 v2 v3 u1 u2 u3 u4 u5 u6) else
    (own_f4_11_5 v2 v3 u1 u2 u3 u4 u5 u6)) else
    (own_f4_11_5 v2 v3 u1 u2 u3 u4 u5 u6)) else
  (-1 : Int32)
def own_f4_11_3 (v2 : Int32) (v3 : Int32) (u1 : Int32) (u2 : Int32) (u3 : Int32) (u4 : Int32) (u5 : Int32) (u6 : Int32) : Int32 :=
  if (3 : Int32) < (v3 - (1 : Int32)) then (if u4 = (10 : Int32) then (if u5 = (10 : Int32) then (5 : Int32) else
    if u5 = (13 : Int32) then (if (5 : Int32) < v3 then (if u6 = (10 : Int32) then (6 : Int32) else
    (own_f4_11_4 v2 v3 u1 u2 u3 u4 u5 u6)) else
    (own_f4_11_4 v2 v3 u1 u2 u3 u4 u5 u6)) else
    (own_f4_11_4 v2 v3 u1 u2 u3 u4 u5 u6)) else
    (own_f4_11_4 v2 v3 u1 u2 u3 u4 u5 u6)) else
  (-1 : Int32)
def own_f4_11_2 (v2 : Int32) (v3 : Int32) (u1 : Int32) (u2 : Int32) (u3 : Int32) (u4 : Int32) (u5 : Int32) (u6 : Int32) : Int32 :=
  if (2 : Int32) < (v3 - (1 : Int32)) then (if u3 = (10 : Int32) then (if u4 = (10 : Int32) then (4 : Int32) else
    if u4 = (13 : Int32) then (if (4 : Int32) < v3 then (if u5 = (10 : Int32) then (5 : Int32) else
    (own_f4_11_3 v2 v3 u1 u2 u3 u4 u5 u6)) else
    (own_f4_11_3 v2 v3 u1 u2 u3 u4 u5 u6)) else
    (own_f4_11_3 v2 v3 u1 u2 u3 u4 u5 u6)) else
    (own_f4_11_3 v2 v3 u1 u2 u3 u4 u5 u6)) else
  (-1 : Int32)
def own_f4_11_1 (v2 : Int32) (v3 : Int32) (u1 : Int32) (u2 : Int32) (u3 : Int32) (u4 : Int32) (u5 : Int32) (u6 : Int32) : Int32 :=
  if (1 : Int32) < (v3 - (1 : Int32)) then (if u2 = (10 : Int32) then (if u3 = (10 : Int32) then (3 : Int32) else
    if u3 = (13 : Int32) then (if (3 : Int32) < v3 then (if u4 = (10 : Int32) then (4 : Int32) else
    (own_f4_11_2 v2 v3 u1 u2 u3 u4 u5 u6)) else
    (own_f4_11_2 v2 v3 u1 u2 u3 u4 u5 u6)) else
    (own_f4_11_2 v2 v3 u1 u2 u3 u4 u5 u6)) else
    (own_f4_11_2 v2 v3 u1 u2 u3 u4 u5 u6)) else
  (-1 : Int32)
def own_f4_11_0 (v2 : Int32) (v3 : Int32) (u1 : Int32) (u2 : Int32) (u3 : Int32) (u4 : Int32) (u5 : Int32) (u6 : Int32) : Int32 :=
  if (0 : Int32) < (v3 - (1 : Int32)) then (if u1 = (10 : Int32) then (if u2 = (10 : Int32) then (2 : Int32) else
    if u2 = (13 : Int32) then (if (2 : Int32) < v3 then (if u3 = (10 : Int32) then (3 : Int32) else
    (own_f4_11_1 v2 v3 u1 u2 u3 u4 u5 u6)) else
    (own_f4_11_1 v2 v3 u1 u2 u3 u4 u5 u6)) else
    (own_f4_11_1 v2 v3 u1 u2 u3 u4 u5 u6)) else
    (own_f4_11_1 v2 v3 u1 u2 u3 u4 u5 u6)) else
  (-1 : Int32)
def own_f4 (q2 : Int32) (q3 : Int32) (w0_q1 : Int32) (w1_q1 : Int32) (w2_q1 : Int32) (w3_q1 : Int32) (w4_q1 : Int32) (w5_q1 : Int32) : Int32 :=
  if (own_f2 (q2 - (2 : Int32)) (0 : Int32)) = (0 : Int32) then (own_f4_11_0 q2 q3 w0_q1 w1_q1 w2_q1 w3_q1 w4_q1 w5_q1) else
  if (own_f2 (q2 - (2 : Int32)) (0 : Int32)) = (1 : Int32) then (own_f4_11_1 q2 q3 w0_q1 w1_q1 w2_q1 w3_q1 w4_q1 w5_q1) else
  if (own_f2 (q2 - (2 : Int32)) (0 : Int32)) = (2 : Int32) then (own_f4_11_2 q2 q3 w0_q1 w1_q1 w2_q1 w3_q1 w4_q1 w5_q1) else
  if (own_f2 (q2 - (2 : Int32)) (0 : Int32)) = (3 : Int32) then (own_f4_11_3 q2 q3 w0_q1 w1_q1 w2_q1 w3_q1 w4_q1 w5_q1) else
  if (own_f2 (q2 - (2 : Int32)) (0 : Int32)) = (4 : Int32) then (own_f4_11_4 q2 q3 w0_q1 w1_q1 w2_q1 w3_q1 w4_q1 w5_q1) else
  (own_f4_11_5 q2 q3 w0_q1 w1_q1 w2_q1 w3_q1 w4_q1 w5_q1)
set_option maxRecDepth 65536 in
set_option maxHeartbeats 40000000 in
theorem sg4_11_5 {p : Program} (l : Launch) {e : Env} {s : State} {m : MethodId} {args : Array Value} {below : List Frame} {meth : Method} {c : Code} {Z : State} {a0 : Array Value} (hw : ∀ d ∈ tables_1, d.before a0 Z = true) (hx : p.tables.exec = Jvm.exec) (hZ : Z.Warmed39 s.vm) (hby : c.code = prog_27_method_2_code) (hml : c.maxLocals = 5) (hown : s.vm.findClass "com/example/zhuanjie/zhuanjie/clearing/disputes/RequestHead" = some m.cls) (hnm : meth.name = "end") (hret : meth.sig.returnType = (some .int)) (hlk : meth.locks = false) (v1 : Addr) (v2 : Int32) (v3 : Int32) (kc_v1 : ClassId) (u1 : Int32) (u2 : Int32) (u3 : Int32) (u4 : Int32) (u5 : Int32) (u6 : Int32) {h0 : Heap} {n0 : Nat} (Z0 : n0 ≤ h0.size) {T0 : State} {L0 : List Loc} (X0 : Stand p l e ({ frames := 1, cells := 0, slots := 0, locals := 13 } : Room) s m args below meth c T0 L0 0 0) (N0 : Fr n0 L0) (e0 : T0.heap = h0) (A_v1 : Arv Z h0 v1 kc_v1 .byte (6 : Int32) [(.int u1), (.int u2), (.int u3), (.int u4), (.int u5), (.int u6)] (.int (0 : Int32))) (h5 : ¬ ((5 : Int32) < (v3 - (1 : Int32)))) (h6 : ¬ ((6 : Int32) < v3)) :
    own_Fin p.tables e below (own_End below s (own_P h0 n0 (some (.int (own_f4_11_5 v2 v3 u1 u2 u3 u4 u5 u6)))) 0 0) T0 (mkF m 11 #[.val (.ref v1), .val (.int v2), .val (.int v3), .val (.int (-1 : Int32)), .val (.int (5 : Int32))] []) := by
  refine own_iloadN X0 hx (hb hby d4_11) (pc' := 12) rfl rfl ?_
  refine own_ifNo X0 hx (hb hby d4_12) (pc' := 15) rfl ((if0 _ _).trans (tlt (by decide : (-1 : Int32) < (0 : Int32))).2.1) ?_
  refine own_iload X0 hx (hb hby d4_15) (pc' := 17) rfl rfl ?_
  refine own_iloadN X0 hx (hb hby d4_17) (pc' := 18) rfl rfl ?_
  refine own_iconst X0 hx (hb hby d4_18) (pc' := 19) rfl (v := (1 : Int32)) rfl ?_
  refine own_isub X0 hx (hb hby d4_19) (pc' := 20) rfl ?_
  refine own_icmpYes X0 hx (hb hby d4_20) (flt (fun q => h5 (Int32.lt_of_le_of_lt (by decide) q))).2.1 (pc' := 105) (by decide) (by decide) ?_
  refine own_iloadN X0 hx (hb hby d4_105) (pc' := 106) rfl rfl ?_
  refine own_retI X0 hx hret hlk (hb hby d4_106) (by decide) (by decide) ?_
  show own_P _ _ _ _ T0.heap _
  exact ⟨(congrArg some (congrArg Value.int (show (-1 : Int32) = (own_f4_11_5 v2 v3 u1 u2 u3 u4 u5 u6) from by rw [own_f4_11_5]))), N0, e0⟩
set_option maxRecDepth 65536 in
set_option maxHeartbeats 40000000 in
theorem sg4_11_4 {p : Program} (l : Launch) {e : Env} {s : State} {m : MethodId} {args : Array Value} {below : List Frame} {meth : Method} {c : Code} {Z : State} {a0 : Array Value} (hw : ∀ d ∈ tables_1, d.before a0 Z = true) (hx : p.tables.exec = Jvm.exec) (hZ : Z.Warmed39 s.vm) (hby : c.code = prog_27_method_2_code) (hml : c.maxLocals = 5) (hown : s.vm.findClass "com/example/zhuanjie/zhuanjie/clearing/disputes/RequestHead" = some m.cls) (hnm : meth.name = "end") (hret : meth.sig.returnType = (some .int)) (hlk : meth.locks = false) (v1 : Addr) (v2 : Int32) (v3 : Int32) (kc_v1 : ClassId) (u1 : Int32) (u2 : Int32) (u3 : Int32) (u4 : Int32) (u5 : Int32) (u6 : Int32) {h0 : Heap} {n0 : Nat} (Z0 : n0 ≤ h0.size) {T0 : State} {L0 : List Loc} (X0 : Stand p l e ({ frames := 1, cells := 0, slots := 0, locals := 13 } : Room) s m args below meth c T0 L0 0 0) (N0 : Fr n0 L0) (e0 : T0.heap = h0) (A_v1 : Arv Z h0 v1 kc_v1 .byte (6 : Int32) [(.int u1), (.int u2), (.int u3), (.int u4), (.int u5), (.int u6)] (.int (0 : Int32))) (h5 : ¬ ((5 : Int32) < (v3 - (1 : Int32)))) (h6 : ¬ ((6 : Int32) < v3)) :
    own_Fin p.tables e below (own_End below s (own_P h0 n0 (some (.int (own_f4_11_4 v2 v3 u1 u2 u3 u4 u5 u6)))) 0 0) T0 (mkF m 11 #[.val (.ref v1), .val (.int v2), .val (.int v3), .val (.int (-1 : Int32)), .val (.int (4 : Int32))] []) := by
  refine own_iloadN X0 hx (hb hby d4_11) (pc' := 12) rfl rfl ?_
  refine own_ifNo X0 hx (hb hby d4_12) (pc' := 15) rfl ((if0 _ _).trans (tlt (by decide : (-1 : Int32) < (0 : Int32))).2.1) ?_
  refine own_iload X0 hx (hb hby d4_15) (pc' := 17) rfl rfl ?_
  refine own_iloadN X0 hx (hb hby d4_17) (pc' := 18) rfl rfl ?_
  refine own_iconst X0 hx (hb hby d4_18) (pc' := 19) rfl (v := (1 : Int32)) rfl ?_
  refine own_isub X0 hx (hb hby d4_19) (pc' := 20) rfl ?_
  by_cases hc121 : (4 : Int32) < (v3 - (1 : Int32))
  · refine own_icmpNo X0 hx (hb hby d4_20) (pc' := 23) rfl (tlt hc121).2.1 ?_
    refine own_aloadN X0 hx (hb hby d4_23) (pc' := 24) rfl rfl rfl ?_
    refine own_iload X0 hx (hb hby d4_24) (pc' := 26) rfl rfl ?_
    obtain ⟨cl122, Ar122, qa122, S122, M122, H122, G122⟩ := id A_v1
    have hin122 : ¬ ((4 : Int32) < 0 ∨ cl122.slots.size ≤ ((4 : Int32)).toNatClampNeg) := inb_of S122 ⟨by decide, by decide⟩
    refine own_st ?_ (fun t k => X0.baloadBytes hx (j := (4 : Int32)) (v := (.int u5)) (by rw [e0]; exact Ar122.1) (State.isArrayOf_alike hZ.alike Ar122.2.1) Ar122.2.2 hin122 (Has.at H122 hin122 rfl) (g := (mkF m 26 #[.val (.ref v1), .val (.int v2), .val (.int v3), .val (.int (-1 : Int32)), .val (.int (4 : Int32))] [(.int (4 : Int32)), (.ref v1)])) rfl rfl (hb hby d4_26) t k)
    show own_Fin _ _ _ _ T0 (mkF m 27 #[.val (.ref v1), .val (.int v2), .val (.int v3), .val (.int (-1 : Int32)), .val (.int (4 : Int32))] [(.int u5)])
    refine own_bipush X0 hx (hb hby d4_27) (pc' := 29) rfl (v := (10 : Int32)) rfl ?_
    by_cases hc123 : u5 = (10 : Int32)
    · refine own_icmpNo X0 hx (hb hby d4_29) (pc' := 32) rfl (teq hc123).2 ?_
      refine own_aloadN X0 hx (hb hby d4_32) (pc' := 33) rfl rfl rfl ?_
      refine own_iload X0 hx (hb hby d4_33) (pc' := 35) rfl rfl ?_
      refine own_iconst X0 hx (hb hby d4_35) (pc' := 36) rfl (v := (1 : Int32)) rfl ?_
      refine own_iadd X0 hx (hb hby d4_36) (pc' := 37) rfl ?_
      show own_Fin _ _ _ _ T0 (mkF m 37 #[.val (.ref v1), .val (.int v2), .val (.int v3), .val (.int (-1 : Int32)), .val (.int (4 : Int32))] [(.int (5 : Int32)), (.ref v1)])
      obtain ⟨cl124, Ar124, qa124, S124, M124, H124, G124⟩ := id A_v1
      have hin124 : ¬ ((5 : Int32) < 0 ∨ cl124.slots.size ≤ ((5 : Int32)).toNatClampNeg) := inb_of S124 ⟨by decide, by decide⟩
      refine own_st ?_ (fun t k => X0.baloadBytes hx (j := (5 : Int32)) (v := (.int u6)) (by rw [e0]; exact Ar124.1) (State.isArrayOf_alike hZ.alike Ar124.2.1) Ar124.2.2 hin124 (Has.at H124 hin124 rfl) (g := (mkF m 37 #[.val (.ref v1), .val (.int v2), .val (.int v3), .val (.int (-1 : Int32)), .val (.int (4 : Int32))] [(.int (5 : Int32)), (.ref v1)])) rfl rfl (hb hby d4_37) t k)
      show own_Fin _ _ _ _ T0 (mkF m 38 #[.val (.ref v1), .val (.int v2), .val (.int v3), .val (.int (-1 : Int32)), .val (.int (4 : Int32))] [(.int u6)])
      refine own_bipush X0 hx (hb hby d4_38) (pc' := 40) rfl (v := (10 : Int32)) rfl ?_
      by_cases hc125 : u6 = (10 : Int32)
      · refine own_icmpNo X0 hx (hb hby d4_40) (pc' := 43) rfl (teq hc125).2 ?_
        refine own_iload X0 hx (hb hby d4_43) (pc' := 45) rfl rfl ?_
        refine own_iconst X0 hx (hb hby d4_45) (pc' := 46) rfl (v := (2 : Int32)) rfl ?_
        refine own_iadd X0 hx (hb hby d4_46) (pc' := 47) rfl ?_
        show own_Fin _ _ _ _ T0 (mkF m 47 #[.val (.ref v1), .val (.int v2), .val (.int v3), .val (.int (-1 : Int32)), .val (.int (4 : Int32))] [(.int (6 : Int32))])
        refine own_istoreN X0 hx (hb hby d4_47) (pc' := 48) rfl (Ls' := #[.val (.ref v1), .val (.int v2), .val (.int v3), .val (.int (6 : Int32)), .val (.int (4 : Int32))]) rfl ?_
        refine own_goto X0 hx (hb hby d4_48) (pc' := 99) (by decide) (by decide) ?_
        refine own_iinc X0 hx (hb hby d4_99) (pc' := 102) rfl (Ls' := #[.val (.ref v1), .val (.int v2), .val (.int v3), .val (.int (6 : Int32)), .val (.int (5 : Int32))]) rfl rfl ?_
        refine own_goto X0 hx (hb hby d4_102) (pc' := 11) (by decide) (by decide) ?_
        refine own_iloadN X0 hx (hb hby d4_11) (pc' := 12) rfl rfl ?_
        refine own_ifYes X0 hx (hb hby d4_12) ((if0 _ _).trans (flt (by decide : ¬ ((6 : Int32) < (0 : Int32)))).2.1) (pc' := 105) (by decide) (by decide) ?_
        refine own_iloadN X0 hx (hb hby d4_105) (pc' := 106) rfl rfl ?_
        refine own_retI X0 hx hret hlk (hb hby d4_106) (by decide) (by decide) ?_
        show own_P _ _ _ _ T0.heap _
        exact ⟨(congrArg some (congrArg Value.int (show (6 : Int32) = (own_f4_11_4 v2 v3 u1 u2 u3 u4 u5 u6) from by rw [own_f4_11_4, if_pos hc121, if_pos hc123, if_pos hc125]))), N0, e0⟩
      · refine own_icmpYes X0 hx (hb hby d4_40) (feq hc125).2 (pc' := 51) (by decide) (by decide) ?_
        refine own_aloadN X0 hx (hb hby d4_51) (pc' := 52) rfl rfl rfl ?_
        refine own_iload X0 hx (hb hby d4_52) (pc' := 54) rfl rfl ?_
        obtain ⟨cl126, Ar126, qa126, S126, M126, H126, G126⟩ := id A_v1
        have hin126 : ¬ ((4 : Int32) < 0 ∨ cl126.slots.size ≤ ((4 : Int32)).toNatClampNeg) := inb_of S126 ⟨by decide, by decide⟩
        refine own_st ?_ (fun t k => X0.baloadBytes hx (j := (4 : Int32)) (v := (.int u5)) (by rw [e0]; exact Ar126.1) (State.isArrayOf_alike hZ.alike Ar126.2.1) Ar126.2.2 hin126 (Has.at H126 hin126 rfl) (g := (mkF m 54 #[.val (.ref v1), .val (.int v2), .val (.int v3), .val (.int (-1 : Int32)), .val (.int (4 : Int32))] [(.int (4 : Int32)), (.ref v1)])) rfl rfl (hb hby d4_54) t k)
        show own_Fin _ _ _ _ T0 (mkF m 55 #[.val (.ref v1), .val (.int v2), .val (.int v3), .val (.int (-1 : Int32)), .val (.int (4 : Int32))] [(.int u5)])
        refine own_bipush X0 hx (hb hby d4_55) (pc' := 57) rfl (v := (10 : Int32)) rfl ?_
        refine own_icmpNo X0 hx (hb hby d4_57) (pc' := 60) rfl (teq hc123).2 ?_
        refine own_aloadN X0 hx (hb hby d4_60) (pc' := 61) rfl rfl rfl ?_
        refine own_iload X0 hx (hb hby d4_61) (pc' := 63) rfl rfl ?_
        refine own_iconst X0 hx (hb hby d4_63) (pc' := 64) rfl (v := (1 : Int32)) rfl ?_
        refine own_iadd X0 hx (hb hby d4_64) (pc' := 65) rfl ?_
        show own_Fin _ _ _ _ T0 (mkF m 65 #[.val (.ref v1), .val (.int v2), .val (.int v3), .val (.int (-1 : Int32)), .val (.int (4 : Int32))] [(.int (5 : Int32)), (.ref v1)])
        obtain ⟨cl127, Ar127, qa127, S127, M127, H127, G127⟩ := id A_v1
        have hin127 : ¬ ((5 : Int32) < 0 ∨ cl127.slots.size ≤ ((5 : Int32)).toNatClampNeg) := inb_of S127 ⟨by decide, by decide⟩
        refine own_st ?_ (fun t k => X0.baloadBytes hx (j := (5 : Int32)) (v := (.int u6)) (by rw [e0]; exact Ar127.1) (State.isArrayOf_alike hZ.alike Ar127.2.1) Ar127.2.2 hin127 (Has.at H127 hin127 rfl) (g := (mkF m 65 #[.val (.ref v1), .val (.int v2), .val (.int v3), .val (.int (-1 : Int32)), .val (.int (4 : Int32))] [(.int (5 : Int32)), (.ref v1)])) rfl rfl (hb hby d4_65) t k)
        show own_Fin _ _ _ _ T0 (mkF m 66 #[.val (.ref v1), .val (.int v2), .val (.int v3), .val (.int (-1 : Int32)), .val (.int (4 : Int32))] [(.int u6)])
        refine own_bipush X0 hx (hb hby d4_66) (pc' := 68) rfl (v := (13 : Int32)) rfl ?_
        by_cases hc128 : u6 = (13 : Int32)
        · refine own_icmpNo X0 hx (hb hby d4_68) (pc' := 71) rfl (teq hc128).2 ?_
          refine own_iload X0 hx (hb hby d4_71) (pc' := 73) rfl rfl ?_
          refine own_iconst X0 hx (hb hby d4_73) (pc' := 74) rfl (v := (2 : Int32)) rfl ?_
          refine own_iadd X0 hx (hb hby d4_74) (pc' := 75) rfl ?_
          show own_Fin _ _ _ _ T0 (mkF m 75 #[.val (.ref v1), .val (.int v2), .val (.int v3), .val (.int (-1 : Int32)), .val (.int (4 : Int32))] [(.int (6 : Int32))])
          refine own_iloadN X0 hx (hb hby d4_75) (pc' := 76) rfl rfl ?_
          refine own_icmpYes X0 hx (hb hby d4_76) (flt (fun q => h6 (Int32.lt_of_le_of_lt (by decide) q))).2.1 (pc' := 99) (by decide) (by decide) ?_
          refine own_iinc X0 hx (hb hby d4_99) (pc' := 102) rfl (Ls' := #[.val (.ref v1), .val (.int v2), .val (.int v3), .val (.int (-1 : Int32)), .val (.int (5 : Int32))]) rfl rfl ?_
          refine own_goto X0 hx (hb hby d4_102) (pc' := 11) (by decide) (by decide) ?_
          refine own_cast ?_ (sg4_11_5 l hw hx hZ hby hml hown hnm hret hlk v1 v2 v3 kc_v1 u1 u2 u3 u4 u5 u6 Z0 X0 N0 e0 A_v1 (h5) (h6))
          rw [own_f4_11_4, if_pos hc121, if_pos hc123, if_neg hc125, if_pos hc128]
        · refine own_icmpYes X0 hx (hb hby d4_68) (feq hc128).2 (pc' := 99) (by decide) (by decide) ?_
          refine own_iinc X0 hx (hb hby d4_99) (pc' := 102) rfl (Ls' := #[.val (.ref v1), .val (.int v2), .val (.int v3), .val (.int (-1 : Int32)), .val (.int (5 : Int32))]) rfl rfl ?_
          refine own_goto X0 hx (hb hby d4_102) (pc' := 11) (by decide) (by decide) ?_
          refine own_cast ?_ (sg4_11_5 l hw hx hZ hby hml hown hnm hret hlk v1 v2 v3 kc_v1 u1 u2 u3 u4 u5 u6 Z0 X0 N0 e0 A_v1 (h5) (h6))
          rw [own_f4_11_4, if_pos hc121, if_pos hc123, if_neg hc125, if_neg hc128]
    · refine own_icmpYes X0 hx (hb hby d4_29) (feq hc123).2 (pc' := 51) (by decide) (by decide) ?_
      refine own_aloadN X0 hx (hb hby d4_51) (pc' := 52) rfl rfl rfl ?_
      refine own_iload X0 hx (hb hby d4_52) (pc' := 54) rfl rfl ?_
      obtain ⟨cl129, Ar129, qa129, S129, M129, H129, G129⟩ := id A_v1
      have hin129 : ¬ ((4 : Int32) < 0 ∨ cl129.slots.size ≤ ((4 : Int32)).toNatClampNeg) := inb_of S129 ⟨by decide, by decide⟩
      refine own_st ?_ (fun t k => X0.baloadBytes hx (j := (4 : Int32)) (v := (.int u5)) (by rw [e0]; exact Ar129.1) (State.isArrayOf_alike hZ.alike Ar129.2.1) Ar129.2.2 hin129 (Has.at H129 hin129 rfl) (g := (mkF m 54 #[.val (.ref v1), .val (.int v2), .val (.int v3), .val (.int (-1 : Int32)), .val (.int (4 : Int32))] [(.int (4 : Int32)), (.ref v1)])) rfl rfl (hb hby d4_54) t k)
      show own_Fin _ _ _ _ T0 (mkF m 55 #[.val (.ref v1), .val (.int v2), .val (.int v3), .val (.int (-1 : Int32)), .val (.int (4 : Int32))] [(.int u5)])
      refine own_bipush X0 hx (hb hby d4_55) (pc' := 57) rfl (v := (10 : Int32)) rfl ?_
      refine own_icmpYes X0 hx (hb hby d4_57) (feq hc123).2 (pc' := 99) (by decide) (by decide) ?_
      refine own_iinc X0 hx (hb hby d4_99) (pc' := 102) rfl (Ls' := #[.val (.ref v1), .val (.int v2), .val (.int v3), .val (.int (-1 : Int32)), .val (.int (5 : Int32))]) rfl rfl ?_
      refine own_goto X0 hx (hb hby d4_102) (pc' := 11) (by decide) (by decide) ?_
      refine own_cast ?_ (sg4_11_5 l hw hx hZ hby hml hown hnm hret hlk v1 v2 v3 kc_v1 u1 u2 u3 u4 u5 u6 Z0 X0 N0 e0 A_v1 (h5) (h6))
      rw [own_f4_11_4, if_pos hc121, if_neg hc123]
  · refine own_icmpYes X0 hx (hb hby d4_20) (flt hc121).2.1 (pc' := 105) (by decide) (by decide) ?_
    refine own_iloadN X0 hx (hb hby d4_105) (pc' := 106) rfl rfl ?_
    refine own_retI X0 hx hret hlk (hb hby d4_106) (by decide) (by decide) ?_
    show own_P _ _ _ _ T0.heap _
    exact ⟨(congrArg some (congrArg Value.int (show (-1 : Int32) = (own_f4_11_4 v2 v3 u1 u2 u3 u4 u5 u6) from by rw [own_f4_11_4, if_neg hc121]))), N0, e0⟩
set_option maxRecDepth 65536 in
set_option maxHeartbeats 40000000 in
theorem sg4_11_3 {p : Program} (l : Launch) {e : Env} {s : State} {m : MethodId} {args : Array Value} {below : List Frame} {meth : Method} {c : Code} {Z : State} {a0 : Array Value} (hw : ∀ d ∈ tables_1, d.before a0 Z = true) (hx : p.tables.exec = Jvm.exec) (hZ : Z.Warmed39 s.vm) (hby : c.code = prog_27_method_2_code) (hml : c.maxLocals = 5) (hown : s.vm.findClass "com/example/zhuanjie/zhuanjie/clearing/disputes/RequestHead" = some m.cls) (hnm : meth.name = "end") (hret : meth.sig.returnType = (some .int)) (hlk : meth.locks = false) (v1 : Addr) (v2 : Int32) (v3 : Int32) (kc_v1 : ClassId) (u1 : Int32) (u2 : Int32) (u3 : Int32) (u4 : Int32) (u5 : Int32) (u6 : Int32) {h0 : Heap} {n0 : Nat} (Z0 : n0 ≤ h0.size) {T0 : State} {L0 : List Loc} (X0 : Stand p l e ({ frames := 1, cells := 0, slots := 0, locals := 13 } : Room) s m args below meth c T0 L0 0 0) (N0 : Fr n0 L0) (e0 : T0.heap = h0) (A_v1 : Arv Z h0 v1 kc_v1 .byte (6 : Int32) [(.int u1), (.int u2), (.int u3), (.int u4), (.int u5), (.int u6)] (.int (0 : Int32))) (h5 : ¬ ((5 : Int32) < (v3 - (1 : Int32)))) (h6 : ¬ ((6 : Int32) < v3)) :
    own_Fin p.tables e below (own_End below s (own_P h0 n0 (some (.int (own_f4_11_3 v2 v3 u1 u2 u3 u4 u5 u6)))) 0 0) T0 (mkF m 11 #[.val (.ref v1), .val (.int v2), .val (.int v3), .val (.int (-1 : Int32)), .val (.int (3 : Int32))] []) := by
  refine own_iloadN X0 hx (hb hby d4_11) (pc' := 12) rfl rfl ?_
  refine own_ifNo X0 hx (hb hby d4_12) (pc' := 15) rfl ((if0 _ _).trans (tlt (by decide : (-1 : Int32) < (0 : Int32))).2.1) ?_
  refine own_iload X0 hx (hb hby d4_15) (pc' := 17) rfl rfl ?_
  refine own_iloadN X0 hx (hb hby d4_17) (pc' := 18) rfl rfl ?_
  refine own_iconst X0 hx (hb hby d4_18) (pc' := 19) rfl (v := (1 : Int32)) rfl ?_
  refine own_isub X0 hx (hb hby d4_19) (pc' := 20) rfl ?_
  by_cases hc109 : (3 : Int32) < (v3 - (1 : Int32))
  · refine own_icmpNo X0 hx (hb hby d4_20) (pc' := 23) rfl (tlt hc109).2.1 ?_
    refine own_aloadN X0 hx (hb hby d4_23) (pc' := 24) rfl rfl rfl ?_
    refine own_iload X0 hx (hb hby d4_24) (pc' := 26) rfl rfl ?_
    obtain ⟨cl110, Ar110, qa110, S110, M110, H110, G110⟩ := id A_v1
    have hin110 : ¬ ((3 : Int32) < 0 ∨ cl110.slots.size ≤ ((3 : Int32)).toNatClampNeg) := inb_of S110 ⟨by decide, by decide⟩
    refine own_st ?_ (fun t k => X0.baloadBytes hx (j := (3 : Int32)) (v := (.int u4)) (by rw [e0]; exact Ar110.1) (State.isArrayOf_alike hZ.alike Ar110.2.1) Ar110.2.2 hin110 (Has.at H110 hin110 rfl) (g := (mkF m 26 #[.val (.ref v1), .val (.int v2), .val (.int v3), .val (.int (-1 : Int32)), .val (.int (3 : Int32))] [(.int (3 : Int32)), (.ref v1)])) rfl rfl (hb hby d4_26) t k)
    show own_Fin _ _ _ _ T0 (mkF m 27 #[.val (.ref v1), .val (.int v2), .val (.int v3), .val (.int (-1 : Int32)), .val (.int (3 : Int32))] [(.int u4)])
    refine own_bipush X0 hx (hb hby d4_27) (pc' := 29) rfl (v := (10 : Int32)) rfl ?_
    by_cases hc111 : u4 = (10 : Int32)
    · refine own_icmpNo X0 hx (hb hby d4_29) (pc' := 32) rfl (teq hc111).2 ?_
      refine own_aloadN X0 hx (hb hby d4_32) (pc' := 33) rfl rfl rfl ?_
      refine own_iload X0 hx (hb hby d4_33) (pc' := 35) rfl rfl ?_
      refine own_iconst X0 hx (hb hby d4_35) (pc' := 36) rfl (v := (1 : Int32)) rfl ?_
      refine own_iadd X0 hx (hb hby d4_36) (pc' := 37) rfl ?_
      show own_Fin _ _ _ _ T0 (mkF m 37 #[.val (.ref v1), .val (.int v2), .val (.int v3), .val (.int (-1 : Int32)), .val (.int (3 : Int32))] [(.int (4 : Int32)), (.ref v1)])
      obtain ⟨cl112, Ar112, qa112, S112, M112, H112, G112⟩ := id A_v1
      have hin112 : ¬ ((4 : Int32) < 0 ∨ cl112.slots.size ≤ ((4 : Int32)).toNatClampNeg) := inb_of S112 ⟨by decide, by decide⟩
      refine own_st ?_ (fun t k => X0.baloadBytes hx (j := (4 : Int32)) (v := (.int u5)) (by rw [e0]; exact Ar112.1) (State.isArrayOf_alike hZ.alike Ar112.2.1) Ar112.2.2 hin112 (Has.at H112 hin112 rfl) (g := (mkF m 37 #[.val (.ref v1), .val (.int v2), .val (.int v3), .val (.int (-1 : Int32)), .val (.int (3 : Int32))] [(.int (4 : Int32)), (.ref v1)])) rfl rfl (hb hby d4_37) t k)
      show own_Fin _ _ _ _ T0 (mkF m 38 #[.val (.ref v1), .val (.int v2), .val (.int v3), .val (.int (-1 : Int32)), .val (.int (3 : Int32))] [(.int u5)])
      refine own_bipush X0 hx (hb hby d4_38) (pc' := 40) rfl (v := (10 : Int32)) rfl ?_
      by_cases hc113 : u5 = (10 : Int32)
      · refine own_icmpNo X0 hx (hb hby d4_40) (pc' := 43) rfl (teq hc113).2 ?_
        refine own_iload X0 hx (hb hby d4_43) (pc' := 45) rfl rfl ?_
        refine own_iconst X0 hx (hb hby d4_45) (pc' := 46) rfl (v := (2 : Int32)) rfl ?_
        refine own_iadd X0 hx (hb hby d4_46) (pc' := 47) rfl ?_
        show own_Fin _ _ _ _ T0 (mkF m 47 #[.val (.ref v1), .val (.int v2), .val (.int v3), .val (.int (-1 : Int32)), .val (.int (3 : Int32))] [(.int (5 : Int32))])
        refine own_istoreN X0 hx (hb hby d4_47) (pc' := 48) rfl (Ls' := #[.val (.ref v1), .val (.int v2), .val (.int v3), .val (.int (5 : Int32)), .val (.int (3 : Int32))]) rfl ?_
        refine own_goto X0 hx (hb hby d4_48) (pc' := 99) (by decide) (by decide) ?_
        refine own_iinc X0 hx (hb hby d4_99) (pc' := 102) rfl (Ls' := #[.val (.ref v1), .val (.int v2), .val (.int v3), .val (.int (5 : Int32)), .val (.int (4 : Int32))]) rfl rfl ?_
        refine own_goto X0 hx (hb hby d4_102) (pc' := 11) (by decide) (by decide) ?_
        refine own_iloadN X0 hx (hb hby d4_11) (pc' := 12) rfl rfl ?_
        refine own_ifYes X0 hx (hb hby d4_12) ((if0 _ _).trans (flt (by decide : ¬ ((5 : Int32) < (0 : Int32)))).2.1) (pc' := 105) (by decide) (by decide) ?_
        refine own_iloadN X0 hx (hb hby d4_105) (pc' := 106) rfl rfl ?_
        refine own_retI X0 hx hret hlk (hb hby d4_106) (by decide) (by decide) ?_
        show own_P _ _ _ _ T0.heap _
        exact ⟨(congrArg some (congrArg Value.int (show (5 : Int32) = (own_f4_11_3 v2 v3 u1 u2 u3 u4 u5 u6) from by rw [own_f4_11_3, if_pos hc109, if_pos hc111, if_pos hc113]))), N0, e0⟩
      · refine own_icmpYes X0 hx (hb hby d4_40) (feq hc113).2 (pc' := 51) (by decide) (by decide) ?_
        refine own_aloadN X0 hx (hb hby d4_51) (pc' := 52) rfl rfl rfl ?_
        refine own_iload X0 hx (hb hby d4_52) (pc' := 54) rfl rfl ?_
        obtain ⟨cl114, Ar114, qa114, S114, M114, H114, G114⟩ := id A_v1
        have hin114 : ¬ ((3 : Int32) < 0 ∨ cl114.slots.size ≤ ((3 : Int32)).toNatClampNeg) := inb_of S114 ⟨by decide, by decide⟩
        refine own_st ?_ (fun t k => X0.baloadBytes hx (j := (3 : Int32)) (v := (.int u4)) (by rw [e0]; exact Ar114.1) (State.isArrayOf_alike hZ.alike Ar114.2.1) Ar114.2.2 hin114 (Has.at H114 hin114 rfl) (g := (mkF m 54 #[.val (.ref v1), .val (.int v2), .val (.int v3), .val (.int (-1 : Int32)), .val (.int (3 : Int32))] [(.int (3 : Int32)), (.ref v1)])) rfl rfl (hb hby d4_54) t k)
        show own_Fin _ _ _ _ T0 (mkF m 55 #[.val (.ref v1), .val (.int v2), .val (.int v3), .val (.int (-1 : Int32)), .val (.int (3 : Int32))] [(.int u4)])
        refine own_bipush X0 hx (hb hby d4_55) (pc' := 57) rfl (v := (10 : Int32)) rfl ?_
        refine own_icmpNo X0 hx (hb hby d4_57) (pc' := 60) rfl (teq hc111).2 ?_
        refine own_aloadN X0 hx (hb hby d4_60) (pc' := 61) rfl rfl rfl ?_
        refine own_iload X0 hx (hb hby d4_61) (pc' := 63) rfl rfl ?_
        refine own_iconst X0 hx (hb hby d4_63) (pc' := 64) rfl (v := (1 : Int32)) rfl ?_
        refine own_iadd X0 hx (hb hby d4_64) (pc' := 65) rfl ?_
        show own_Fin _ _ _ _ T0 (mkF m 65 #[.val (.ref v1), .val (.int v2), .val (.int v3), .val (.int (-1 : Int32)), .val (.int (3 : Int32))] [(.int (4 : Int32)), (.ref v1)])
        obtain ⟨cl115, Ar115, qa115, S115, M115, H115, G115⟩ := id A_v1
        have hin115 : ¬ ((4 : Int32) < 0 ∨ cl115.slots.size ≤ ((4 : Int32)).toNatClampNeg) := inb_of S115 ⟨by decide, by decide⟩
        refine own_st ?_ (fun t k => X0.baloadBytes hx (j := (4 : Int32)) (v := (.int u5)) (by rw [e0]; exact Ar115.1) (State.isArrayOf_alike hZ.alike Ar115.2.1) Ar115.2.2 hin115 (Has.at H115 hin115 rfl) (g := (mkF m 65 #[.val (.ref v1), .val (.int v2), .val (.int v3), .val (.int (-1 : Int32)), .val (.int (3 : Int32))] [(.int (4 : Int32)), (.ref v1)])) rfl rfl (hb hby d4_65) t k)
        show own_Fin _ _ _ _ T0 (mkF m 66 #[.val (.ref v1), .val (.int v2), .val (.int v3), .val (.int (-1 : Int32)), .val (.int (3 : Int32))] [(.int u5)])
        refine own_bipush X0 hx (hb hby d4_66) (pc' := 68) rfl (v := (13 : Int32)) rfl ?_
        by_cases hc116 : u5 = (13 : Int32)
        · refine own_icmpNo X0 hx (hb hby d4_68) (pc' := 71) rfl (teq hc116).2 ?_
          refine own_iload X0 hx (hb hby d4_71) (pc' := 73) rfl rfl ?_
          refine own_iconst X0 hx (hb hby d4_73) (pc' := 74) rfl (v := (2 : Int32)) rfl ?_
          refine own_iadd X0 hx (hb hby d4_74) (pc' := 75) rfl ?_
          show own_Fin _ _ _ _ T0 (mkF m 75 #[.val (.ref v1), .val (.int v2), .val (.int v3), .val (.int (-1 : Int32)), .val (.int (3 : Int32))] [(.int (5 : Int32))])
          refine own_iloadN X0 hx (hb hby d4_75) (pc' := 76) rfl rfl ?_
          by_cases hc117 : (5 : Int32) < v3
          · refine own_icmpNo X0 hx (hb hby d4_76) (pc' := 79) rfl (tlt hc117).2.1 ?_
            refine own_aloadN X0 hx (hb hby d4_79) (pc' := 80) rfl rfl rfl ?_
            refine own_iload X0 hx (hb hby d4_80) (pc' := 82) rfl rfl ?_
            refine own_iconst X0 hx (hb hby d4_82) (pc' := 83) rfl (v := (2 : Int32)) rfl ?_
            refine own_iadd X0 hx (hb hby d4_83) (pc' := 84) rfl ?_
            show own_Fin _ _ _ _ T0 (mkF m 84 #[.val (.ref v1), .val (.int v2), .val (.int v3), .val (.int (-1 : Int32)), .val (.int (3 : Int32))] [(.int (5 : Int32)), (.ref v1)])
            obtain ⟨cl118, Ar118, qa118, S118, M118, H118, G118⟩ := id A_v1
            have hin118 : ¬ ((5 : Int32) < 0 ∨ cl118.slots.size ≤ ((5 : Int32)).toNatClampNeg) := inb_of S118 ⟨by decide, by decide⟩
            refine own_st ?_ (fun t k => X0.baloadBytes hx (j := (5 : Int32)) (v := (.int u6)) (by rw [e0]; exact Ar118.1) (State.isArrayOf_alike hZ.alike Ar118.2.1) Ar118.2.2 hin118 (Has.at H118 hin118 rfl) (g := (mkF m 84 #[.val (.ref v1), .val (.int v2), .val (.int v3), .val (.int (-1 : Int32)), .val (.int (3 : Int32))] [(.int (5 : Int32)), (.ref v1)])) rfl rfl (hb hby d4_84) t k)
            show own_Fin _ _ _ _ T0 (mkF m 85 #[.val (.ref v1), .val (.int v2), .val (.int v3), .val (.int (-1 : Int32)), .val (.int (3 : Int32))] [(.int u6)])
            refine own_bipush X0 hx (hb hby d4_85) (pc' := 87) rfl (v := (10 : Int32)) rfl ?_
            by_cases hc119 : u6 = (10 : Int32)
            · refine own_icmpNo X0 hx (hb hby d4_87) (pc' := 90) rfl (teq hc119).2 ?_
              refine own_iload X0 hx (hb hby d4_90) (pc' := 92) rfl rfl ?_
              refine own_iconst X0 hx (hb hby d4_92) (pc' := 93) rfl (v := (3 : Int32)) rfl ?_
              refine own_iadd X0 hx (hb hby d4_93) (pc' := 94) rfl ?_
              show own_Fin _ _ _ _ T0 (mkF m 94 #[.val (.ref v1), .val (.int v2), .val (.int v3), .val (.int (-1 : Int32)), .val (.int (3 : Int32))] [(.int (6 : Int32))])
              refine own_goto X0 hx (hb hby d4_94) (pc' := 98) (by decide) (by decide) ?_
              refine own_istoreN X0 hx (hb hby d4_98) (pc' := 99) rfl (Ls' := #[.val (.ref v1), .val (.int v2), .val (.int v3), .val (.int (6 : Int32)), .val (.int (3 : Int32))]) rfl ?_
              refine own_iinc X0 hx (hb hby d4_99) (pc' := 102) rfl (Ls' := #[.val (.ref v1), .val (.int v2), .val (.int v3), .val (.int (6 : Int32)), .val (.int (4 : Int32))]) rfl rfl ?_
              refine own_goto X0 hx (hb hby d4_102) (pc' := 11) (by decide) (by decide) ?_
              refine own_iloadN X0 hx (hb hby d4_11) (pc' := 12) rfl rfl ?_
              refine own_ifYes X0 hx (hb hby d4_12) ((if0 _ _).trans (flt (by decide : ¬ ((6 : Int32) < (0 : Int32)))).2.1) (pc' := 105) (by decide) (by decide) ?_
              refine own_iloadN X0 hx (hb hby d4_105) (pc' := 106) rfl rfl ?_
              refine own_retI X0 hx hret hlk (hb hby d4_106) (by decide) (by decide) ?_
              show own_P _ _ _ _ T0.heap _
              exact ⟨(congrArg some (congrArg Value.int (show (6 : Int32) = (own_f4_11_3 v2 v3 u1 u2 u3 u4 u5 u6) from by rw [own_f4_11_3, if_pos hc109, if_pos hc111, if_neg hc113, if_pos hc116, if_pos hc117, if_pos hc119]))), N0, e0⟩
            · refine own_icmpYes X0 hx (hb hby d4_87) (feq hc119).2 (pc' := 97) (by decide) (by decide) ?_
              refine own_iconst X0 hx (hb hby d4_97) (pc' := 98) rfl (v := (-1 : Int32)) rfl ?_
              refine own_istoreN X0 hx (hb hby d4_98) (pc' := 99) rfl (Ls' := #[.val (.ref v1), .val (.int v2), .val (.int v3), .val (.int (-1 : Int32)), .val (.int (3 : Int32))]) rfl ?_
              refine own_iinc X0 hx (hb hby d4_99) (pc' := 102) rfl (Ls' := #[.val (.ref v1), .val (.int v2), .val (.int v3), .val (.int (-1 : Int32)), .val (.int (4 : Int32))]) rfl rfl ?_
              refine own_goto X0 hx (hb hby d4_102) (pc' := 11) (by decide) (by decide) ?_
              refine own_cast ?_ (sg4_11_4 l hw hx hZ hby hml hown hnm hret hlk v1 v2 v3 kc_v1 u1 u2 u3 u4 u5 u6 Z0 X0 N0 e0 A_v1 (h5) (h6))
              rw [own_f4_11_3, if_pos hc109, if_pos hc111, if_neg hc113, if_pos hc116, if_pos hc117, if_neg hc119]
          · refine own_icmpYes X0 hx (hb hby d4_76) (flt hc117).2.1 (pc' := 99) (by decide) (by decide) ?_
            refine own_iinc X0 hx (hb hby d4_99) (pc' := 102) rfl (Ls' := #[.val (.ref v1), .val (.int v2), .val (.int v3), .val (.int (-1 : Int32)), .val (.int (4 : Int32))]) rfl rfl ?_
            refine own_goto X0 hx (hb hby d4_102) (pc' := 11) (by decide) (by decide) ?_
            refine own_cast ?_ (sg4_11_4 l hw hx hZ hby hml hown hnm hret hlk v1 v2 v3 kc_v1 u1 u2 u3 u4 u5 u6 Z0 X0 N0 e0 A_v1 (h5) (h6))
            rw [own_f4_11_3, if_pos hc109, if_pos hc111, if_neg hc113, if_pos hc116, if_neg hc117]
        · refine own_icmpYes X0 hx (hb hby d4_68) (feq hc116).2 (pc' := 99) (by decide) (by decide) ?_
          refine own_iinc X0 hx (hb hby d4_99) (pc' := 102) rfl (Ls' := #[.val (.ref v1), .val (.int v2), .val (.int v3), .val (.int (-1 : Int32)), .val (.int (4 : Int32))]) rfl rfl ?_
          refine own_goto X0 hx (hb hby d4_102) (pc' := 11) (by decide) (by decide) ?_
          refine own_cast ?_ (sg4_11_4 l hw hx hZ hby hml hown hnm hret hlk v1 v2 v3 kc_v1 u1 u2 u3 u4 u5 u6 Z0 X0 N0 e0 A_v1 (h5) (h6))
          rw [own_f4_11_3, if_pos hc109, if_pos hc111, if_neg hc113, if_neg hc116]
    · refine own_icmpYes X0 hx (hb hby d4_29) (feq hc111).2 (pc' := 51) (by decide) (by decide) ?_
      refine own_aloadN X0 hx (hb hby d4_51) (pc' := 52) rfl rfl rfl ?_
      refine own_iload X0 hx (hb hby d4_52) (pc' := 54) rfl rfl ?_
      obtain ⟨cl120, Ar120, qa120, S120, M120, H120, G120⟩ := id A_v1
      have hin120 : ¬ ((3 : Int32) < 0 ∨ cl120.slots.size ≤ ((3 : Int32)).toNatClampNeg) := inb_of S120 ⟨by decide, by decide⟩
      refine own_st ?_ (fun t k => X0.baloadBytes hx (j := (3 : Int32)) (v := (.int u4)) (by rw [e0]; exact Ar120.1) (State.isArrayOf_alike hZ.alike Ar120.2.1) Ar120.2.2 hin120 (Has.at H120 hin120 rfl) (g := (mkF m 54 #[.val (.ref v1), .val (.int v2), .val (.int v3), .val (.int (-1 : Int32)), .val (.int (3 : Int32))] [(.int (3 : Int32)), (.ref v1)])) rfl rfl (hb hby d4_54) t k)
      show own_Fin _ _ _ _ T0 (mkF m 55 #[.val (.ref v1), .val (.int v2), .val (.int v3), .val (.int (-1 : Int32)), .val (.int (3 : Int32))] [(.int u4)])
      refine own_bipush X0 hx (hb hby d4_55) (pc' := 57) rfl (v := (10 : Int32)) rfl ?_
      refine own_icmpYes X0 hx (hb hby d4_57) (feq hc111).2 (pc' := 99) (by decide) (by decide) ?_
      refine own_iinc X0 hx (hb hby d4_99) (pc' := 102) rfl (Ls' := #[.val (.ref v1), .val (.int v2), .val (.int v3), .val (.int (-1 : Int32)), .val (.int (4 : Int32))]) rfl rfl ?_
      refine own_goto X0 hx (hb hby d4_102) (pc' := 11) (by decide) (by decide) ?_
      refine own_cast ?_ (sg4_11_4 l hw hx hZ hby hml hown hnm hret hlk v1 v2 v3 kc_v1 u1 u2 u3 u4 u5 u6 Z0 X0 N0 e0 A_v1 (h5) (h6))
      rw [own_f4_11_3, if_pos hc109, if_neg hc111]
  · refine own_icmpYes X0 hx (hb hby d4_20) (flt hc109).2.1 (pc' := 105) (by decide) (by decide) ?_
    refine own_iloadN X0 hx (hb hby d4_105) (pc' := 106) rfl rfl ?_
    refine own_retI X0 hx hret hlk (hb hby d4_106) (by decide) (by decide) ?_
    show own_P _ _ _ _ T0.heap _
    exact ⟨(congrArg some (congrArg Value.int (show (-1 : Int32) = (own_f4_11_3 v2 v3 u1 u2 u3 u4 u5 u6) from by rw [own_f4_11_3, if_neg hc109]))), N0, e0⟩
set_option maxRecDepth 65536 in
set_option maxHeartbeats 40000000 in
theorem sg4_11_2 {p : Program} (l : Launch) {e : Env} {s : State} {m : MethodId} {args : Array Value} {below : List Frame} {meth : Method} {c : Code} {Z : State} {a0 : Array Value} (hw : ∀ d ∈ tables_1, d.before a0 Z = true) (hx : p.tables.exec = Jvm.exec) (hZ : Z.Warmed39 s.vm) (hby : c.code = prog_27_method_2_code) (hml : c.maxLocals = 5) (hown : s.vm.findClass "com/example/zhuanjie/zhuanjie/clearing/disputes/RequestHead" = some m.cls) (hnm : meth.name = "end") (hret : meth.sig.returnType = (some .int)) (hlk : meth.locks = false) (v1 : Addr) (v2 : Int32) (v3 : Int32) (kc_v1 : ClassId) (u1 : Int32) (u2 : Int32) (u3 : Int32) (u4 : Int32) (u5 : Int32) (u6 : Int32) {h0 : Heap} {n0 : Nat} (Z0 : n0 ≤ h0.size) {T0 : State} {L0 : List Loc} (X0 : Stand p l e ({ frames := 1, cells := 0, slots := 0, locals := 13 } : Room) s m args below meth c T0 L0 0 0) (N0 : Fr n0 L0) (e0 : T0.heap = h0) (A_v1 : Arv Z h0 v1 kc_v1 .byte (6 : Int32) [(.int u1), (.int u2), (.int u3), (.int u4), (.int u5), (.int u6)] (.int (0 : Int32))) (h5 : ¬ ((5 : Int32) < (v3 - (1 : Int32)))) (h6 : ¬ ((6 : Int32) < v3)) :
    own_Fin p.tables e below (own_End below s (own_P h0 n0 (some (.int (own_f4_11_2 v2 v3 u1 u2 u3 u4 u5 u6)))) 0 0) T0 (mkF m 11 #[.val (.ref v1), .val (.int v2), .val (.int v3), .val (.int (-1 : Int32)), .val (.int (2 : Int32))] []) := by
  refine own_iloadN X0 hx (hb hby d4_11) (pc' := 12) rfl rfl ?_
  refine own_ifNo X0 hx (hb hby d4_12) (pc' := 15) rfl ((if0 _ _).trans (tlt (by decide : (-1 : Int32) < (0 : Int32))).2.1) ?_
  refine own_iload X0 hx (hb hby d4_15) (pc' := 17) rfl rfl ?_
  refine own_iloadN X0 hx (hb hby d4_17) (pc' := 18) rfl rfl ?_
  refine own_iconst X0 hx (hb hby d4_18) (pc' := 19) rfl (v := (1 : Int32)) rfl ?_
  refine own_isub X0 hx (hb hby d4_19) (pc' := 20) rfl ?_
  by_cases hc97 : (2 : Int32) < (v3 - (1 : Int32))
  · refine own_icmpNo X0 hx (hb hby d4_20) (pc' := 23) rfl (tlt hc97).2.1 ?_
    refine own_aloadN X0 hx (hb hby d4_23) (pc' := 24) rfl rfl rfl ?_
    refine own_iload X0 hx (hb hby d4_24) (pc' := 26) rfl rfl ?_
    obtain ⟨cl98, Ar98, qa98, S98, M98, H98, G98⟩ := id A_v1
    have hin98 : ¬ ((2 : Int32) < 0 ∨ cl98.slots.size ≤ ((2 : Int32)).toNatClampNeg) := inb_of S98 ⟨by decide, by decide⟩
    refine own_st ?_ (fun t k => X0.baloadBytes hx (j := (2 : Int32)) (v := (.int u3)) (by rw [e0]; exact Ar98.1) (State.isArrayOf_alike hZ.alike Ar98.2.1) Ar98.2.2 hin98 (Has.at H98 hin98 rfl) (g := (mkF m 26 #[.val (.ref v1), .val (.int v2), .val (.int v3), .val (.int (-1 : Int32)), .val (.int (2 : Int32))] [(.int (2 : Int32)), (.ref v1)])) rfl rfl (hb hby d4_26) t k)
    show own_Fin _ _ _ _ T0 (mkF m 27 #[.val (.ref v1), .val (.int v2), .val (.int v3), .val (.int (-1 : Int32)), .val (.int (2 : Int32))] [(.int u3)])
    refine own_bipush X0 hx (hb hby d4_27) (pc' := 29) rfl (v := (10 : Int32)) rfl ?_
    by_cases hc99 : u3 = (10 : Int32)
    · refine own_icmpNo X0 hx (hb hby d4_29) (pc' := 32) rfl (teq hc99).2 ?_
      refine own_aloadN X0 hx (hb hby d4_32) (pc' := 33) rfl rfl rfl ?_
      refine own_iload X0 hx (hb hby d4_33) (pc' := 35) rfl rfl ?_
      refine own_iconst X0 hx (hb hby d4_35) (pc' := 36) rfl (v := (1 : Int32)) rfl ?_
      refine own_iadd X0 hx (hb hby d4_36) (pc' := 37) rfl ?_
      show own_Fin _ _ _ _ T0 (mkF m 37 #[.val (.ref v1), .val (.int v2), .val (.int v3), .val (.int (-1 : Int32)), .val (.int (2 : Int32))] [(.int (3 : Int32)), (.ref v1)])
      obtain ⟨cl100, Ar100, qa100, S100, M100, H100, G100⟩ := id A_v1
      have hin100 : ¬ ((3 : Int32) < 0 ∨ cl100.slots.size ≤ ((3 : Int32)).toNatClampNeg) := inb_of S100 ⟨by decide, by decide⟩
      refine own_st ?_ (fun t k => X0.baloadBytes hx (j := (3 : Int32)) (v := (.int u4)) (by rw [e0]; exact Ar100.1) (State.isArrayOf_alike hZ.alike Ar100.2.1) Ar100.2.2 hin100 (Has.at H100 hin100 rfl) (g := (mkF m 37 #[.val (.ref v1), .val (.int v2), .val (.int v3), .val (.int (-1 : Int32)), .val (.int (2 : Int32))] [(.int (3 : Int32)), (.ref v1)])) rfl rfl (hb hby d4_37) t k)
      show own_Fin _ _ _ _ T0 (mkF m 38 #[.val (.ref v1), .val (.int v2), .val (.int v3), .val (.int (-1 : Int32)), .val (.int (2 : Int32))] [(.int u4)])
      refine own_bipush X0 hx (hb hby d4_38) (pc' := 40) rfl (v := (10 : Int32)) rfl ?_
      by_cases hc101 : u4 = (10 : Int32)
      · refine own_icmpNo X0 hx (hb hby d4_40) (pc' := 43) rfl (teq hc101).2 ?_
        refine own_iload X0 hx (hb hby d4_43) (pc' := 45) rfl rfl ?_
        refine own_iconst X0 hx (hb hby d4_45) (pc' := 46) rfl (v := (2 : Int32)) rfl ?_
        refine own_iadd X0 hx (hb hby d4_46) (pc' := 47) rfl ?_
        show own_Fin _ _ _ _ T0 (mkF m 47 #[.val (.ref v1), .val (.int v2), .val (.int v3), .val (.int (-1 : Int32)), .val (.int (2 : Int32))] [(.int (4 : Int32))])
        refine own_istoreN X0 hx (hb hby d4_47) (pc' := 48) rfl (Ls' := #[.val (.ref v1), .val (.int v2), .val (.int v3), .val (.int (4 : Int32)), .val (.int (2 : Int32))]) rfl ?_
        refine own_goto X0 hx (hb hby d4_48) (pc' := 99) (by decide) (by decide) ?_
        refine own_iinc X0 hx (hb hby d4_99) (pc' := 102) rfl (Ls' := #[.val (.ref v1), .val (.int v2), .val (.int v3), .val (.int (4 : Int32)), .val (.int (3 : Int32))]) rfl rfl ?_
        refine own_goto X0 hx (hb hby d4_102) (pc' := 11) (by decide) (by decide) ?_
        refine own_iloadN X0 hx (hb hby d4_11) (pc' := 12) rfl rfl ?_
        refine own_ifYes X0 hx (hb hby d4_12) ((if0 _ _).trans (flt (by decide : ¬ ((4 : Int32) < (0 : Int32)))).2.1) (pc' := 105) (by decide) (by decide) ?_
        refine own_iloadN X0 hx (hb hby d4_105) (pc' := 106) rfl rfl ?_
        refine own_retI X0 hx hret hlk (hb hby d4_106) (by decide) (by decide) ?_
        show own_P _ _ _ _ T0.heap _
        exact ⟨(congrArg some (congrArg Value.int (show (4 : Int32) = (own_f4_11_2 v2 v3 u1 u2 u3 u4 u5 u6) from by rw [own_f4_11_2, if_pos hc97, if_pos hc99, if_pos hc101]))), N0, e0⟩
      · refine own_icmpYes X0 hx (hb hby d4_40) (feq hc101).2 (pc' := 51) (by decide) (by decide) ?_
        refine own_aloadN X0 hx (hb hby d4_51) (pc' := 52) rfl rfl rfl ?_
        refine own_iload X0 hx (hb hby d4_52) (pc' := 54) rfl rfl ?_
        obtain ⟨cl102, Ar102, qa102, S102, M102, H102, G102⟩ := id A_v1
        have hin102 : ¬ ((2 : Int32) < 0 ∨ cl102.slots.size ≤ ((2 : Int32)).toNatClampNeg) := inb_of S102 ⟨by decide, by decide⟩
        refine own_st ?_ (fun t k => X0.baloadBytes hx (j := (2 : Int32)) (v := (.int u3)) (by rw [e0]; exact Ar102.1) (State.isArrayOf_alike hZ.alike Ar102.2.1) Ar102.2.2 hin102 (Has.at H102 hin102 rfl) (g := (mkF m 54 #[.val (.ref v1), .val (.int v2), .val (.int v3), .val (.int (-1 : Int32)), .val (.int (2 : Int32))] [(.int (2 : Int32)), (.ref v1)])) rfl rfl (hb hby d4_54) t k)
        show own_Fin _ _ _ _ T0 (mkF m 55 #[.val (.ref v1), .val (.int v2), .val (.int v3), .val (.int (-1 : Int32)), .val (.int (2 : Int32))] [(.int u3)])
        refine own_bipush X0 hx (hb hby d4_55) (pc' := 57) rfl (v := (10 : Int32)) rfl ?_
        refine own_icmpNo X0 hx (hb hby d4_57) (pc' := 60) rfl (teq hc99).2 ?_
        refine own_aloadN X0 hx (hb hby d4_60) (pc' := 61) rfl rfl rfl ?_
        refine own_iload X0 hx (hb hby d4_61) (pc' := 63) rfl rfl ?_
        refine own_iconst X0 hx (hb hby d4_63) (pc' := 64) rfl (v := (1 : Int32)) rfl ?_
        refine own_iadd X0 hx (hb hby d4_64) (pc' := 65) rfl ?_
        show own_Fin _ _ _ _ T0 (mkF m 65 #[.val (.ref v1), .val (.int v2), .val (.int v3), .val (.int (-1 : Int32)), .val (.int (2 : Int32))] [(.int (3 : Int32)), (.ref v1)])
        obtain ⟨cl103, Ar103, qa103, S103, M103, H103, G103⟩ := id A_v1
        have hin103 : ¬ ((3 : Int32) < 0 ∨ cl103.slots.size ≤ ((3 : Int32)).toNatClampNeg) := inb_of S103 ⟨by decide, by decide⟩
        refine own_st ?_ (fun t k => X0.baloadBytes hx (j := (3 : Int32)) (v := (.int u4)) (by rw [e0]; exact Ar103.1) (State.isArrayOf_alike hZ.alike Ar103.2.1) Ar103.2.2 hin103 (Has.at H103 hin103 rfl) (g := (mkF m 65 #[.val (.ref v1), .val (.int v2), .val (.int v3), .val (.int (-1 : Int32)), .val (.int (2 : Int32))] [(.int (3 : Int32)), (.ref v1)])) rfl rfl (hb hby d4_65) t k)
        show own_Fin _ _ _ _ T0 (mkF m 66 #[.val (.ref v1), .val (.int v2), .val (.int v3), .val (.int (-1 : Int32)), .val (.int (2 : Int32))] [(.int u4)])
        refine own_bipush X0 hx (hb hby d4_66) (pc' := 68) rfl (v := (13 : Int32)) rfl ?_
        by_cases hc104 : u4 = (13 : Int32)
        · refine own_icmpNo X0 hx (hb hby d4_68) (pc' := 71) rfl (teq hc104).2 ?_
          refine own_iload X0 hx (hb hby d4_71) (pc' := 73) rfl rfl ?_
          refine own_iconst X0 hx (hb hby d4_73) (pc' := 74) rfl (v := (2 : Int32)) rfl ?_
          refine own_iadd X0 hx (hb hby d4_74) (pc' := 75) rfl ?_
          show own_Fin _ _ _ _ T0 (mkF m 75 #[.val (.ref v1), .val (.int v2), .val (.int v3), .val (.int (-1 : Int32)), .val (.int (2 : Int32))] [(.int (4 : Int32))])
          refine own_iloadN X0 hx (hb hby d4_75) (pc' := 76) rfl rfl ?_
          by_cases hc105 : (4 : Int32) < v3
          · refine own_icmpNo X0 hx (hb hby d4_76) (pc' := 79) rfl (tlt hc105).2.1 ?_
            refine own_aloadN X0 hx (hb hby d4_79) (pc' := 80) rfl rfl rfl ?_
            refine own_iload X0 hx (hb hby d4_80) (pc' := 82) rfl rfl ?_
            refine own_iconst X0 hx (hb hby d4_82) (pc' := 83) rfl (v := (2 : Int32)) rfl ?_
            refine own_iadd X0 hx (hb hby d4_83) (pc' := 84) rfl ?_
            show own_Fin _ _ _ _ T0 (mkF m 84 #[.val (.ref v1), .val (.int v2), .val (.int v3), .val (.int (-1 : Int32)), .val (.int (2 : Int32))] [(.int (4 : Int32)), (.ref v1)])
            obtain ⟨cl106, Ar106, qa106, S106, M106, H106, G106⟩ := id A_v1
            have hin106 : ¬ ((4 : Int32) < 0 ∨ cl106.slots.size ≤ ((4 : Int32)).toNatClampNeg) := inb_of S106 ⟨by decide, by decide⟩
            refine own_st ?_ (fun t k => X0.baloadBytes hx (j := (4 : Int32)) (v := (.int u5)) (by rw [e0]; exact Ar106.1) (State.isArrayOf_alike hZ.alike Ar106.2.1) Ar106.2.2 hin106 (Has.at H106 hin106 rfl) (g := (mkF m 84 #[.val (.ref v1), .val (.int v2), .val (.int v3), .val (.int (-1 : Int32)), .val (.int (2 : Int32))] [(.int (4 : Int32)), (.ref v1)])) rfl rfl (hb hby d4_84) t k)
            show own_Fin _ _ _ _ T0 (mkF m 85 #[.val (.ref v1), .val (.int v2), .val (.int v3), .val (.int (-1 : Int32)), .val (.int (2 : Int32))] [(.int u5)])
            refine own_bipush X0 hx (hb hby d4_85) (pc' := 87) rfl (v := (10 : Int32)) rfl ?_
            by_cases hc107 : u5 = (10 : Int32)
            · refine own_icmpNo X0 hx (hb hby d4_87) (pc' := 90) rfl (teq hc107).2 ?_
              refine own_iload X0 hx (hb hby d4_90) (pc' := 92) rfl rfl ?_
              refine own_iconst X0 hx (hb hby d4_92) (pc' := 93) rfl (v := (3 : Int32)) rfl ?_
              refine own_iadd X0 hx (hb hby d4_93) (pc' := 94) rfl ?_
              show own_Fin _ _ _ _ T0 (mkF m 94 #[.val (.ref v1), .val (.int v2), .val (.int v3), .val (.int (-1 : Int32)), .val (.int (2 : Int32))] [(.int (5 : Int32))])
              refine own_goto X0 hx (hb hby d4_94) (pc' := 98) (by decide) (by decide) ?_
              refine own_istoreN X0 hx (hb hby d4_98) (pc' := 99) rfl (Ls' := #[.val (.ref v1), .val (.int v2), .val (.int v3), .val (.int (5 : Int32)), .val (.int (2 : Int32))]) rfl ?_
              refine own_iinc X0 hx (hb hby d4_99) (pc' := 102) rfl (Ls' := #[.val (.ref v1), .val (.int v2), .val (.int v3), .val (.int (5 : Int32)), .val (.int (3 : Int32))]) rfl rfl ?_
              refine own_goto X0 hx (hb hby d4_102) (pc' := 11) (by decide) (by decide) ?_
              refine own_iloadN X0 hx (hb hby d4_11) (pc' := 12) rfl rfl ?_
              refine own_ifYes X0 hx (hb hby d4_12) ((if0 _ _).trans (flt (by decide : ¬ ((5 : Int32) < (0 : Int32)))).2.1) (pc' := 105) (by decide) (by decide) ?_
              refine own_iloadN X0 hx (hb hby d4_105) (pc' := 106) rfl rfl ?_
              refine own_retI X0 hx hret hlk (hb hby d4_106) (by decide) (by decide) ?_
              show own_P _ _ _ _ T0.heap _
              exact ⟨(congrArg some (congrArg Value.int (show (5 : Int32) = (own_f4_11_2 v2 v3 u1 u2 u3 u4 u5 u6) from by rw [own_f4_11_2, if_pos hc97, if_pos hc99, if_neg hc101, if_pos hc104, if_pos hc105, if_pos hc107]))), N0, e0⟩
            · refine own_icmpYes X0 hx (hb hby d4_87) (feq hc107).2 (pc' := 97) (by decide) (by decide) ?_
              refine own_iconst X0 hx (hb hby d4_97) (pc' := 98) rfl (v := (-1 : Int32)) rfl ?_
              refine own_istoreN X0 hx (hb hby d4_98) (pc' := 99) rfl (Ls' := #[.val (.ref v1), .val (.int v2), .val (.int v3), .val (.int (-1 : Int32)), .val (.int (2 : Int32))]) rfl ?_
              refine own_iinc X0 hx (hb hby d4_99) (pc' := 102) rfl (Ls' := #[.val (.ref v1), .val (.int v2), .val (.int v3), .val (.int (-1 : Int32)), .val (.int (3 : Int32))]) rfl rfl ?_
              refine own_goto X0 hx (hb hby d4_102) (pc' := 11) (by decide) (by decide) ?_
              refine own_cast ?_ (sg4_11_3 l hw hx hZ hby hml hown hnm hret hlk v1 v2 v3 kc_v1 u1 u2 u3 u4 u5 u6 Z0 X0 N0 e0 A_v1 (h5) (h6))
              rw [own_f4_11_2, if_pos hc97, if_pos hc99, if_neg hc101, if_pos hc104, if_pos hc105, if_neg hc107]
          · refine own_icmpYes X0 hx (hb hby d4_76) (flt hc105).2.1 (pc' := 99) (by decide) (by decide) ?_
            refine own_iinc X0 hx (hb hby d4_99) (pc' := 102) rfl (Ls' := #[.val (.ref v1), .val (.int v2), .val (.int v3), .val (.int (-1 : Int32)), .val (.int (3 : Int32))]) rfl rfl ?_
            refine own_goto X0 hx (hb hby d4_102) (pc' := 11) (by decide) (by decide) ?_
            refine own_cast ?_ (sg4_11_3 l hw hx hZ hby hml hown hnm hret hlk v1 v2 v3 kc_v1 u1 u2 u3 u4 u5 u6 Z0 X0 N0 e0 A_v1 (h5) (h6))
            rw [own_f4_11_2, if_pos hc97, if_pos hc99, if_neg hc101, if_pos hc104, if_neg hc105]
        · refine own_icmpYes X0 hx (hb hby d4_68) (feq hc104).2 (pc' := 99) (by decide) (by decide) ?_
          refine own_iinc X0 hx (hb hby d4_99) (pc' := 102) rfl (Ls' := #[.val (.ref v1), .val (.int v2), .val (.int v3), .val (.int (-1 : Int32)), .val (.int (3 : Int32))]) rfl rfl ?_
          refine own_goto X0 hx (hb hby d4_102) (pc' := 11) (by decide) (by decide) ?_
          refine own_cast ?_ (sg4_11_3 l hw hx hZ hby hml hown hnm hret hlk v1 v2 v3 kc_v1 u1 u2 u3 u4 u5 u6 Z0 X0 N0 e0 A_v1 (h5) (h6))
          rw [own_f4_11_2, if_pos hc97, if_pos hc99, if_neg hc101, if_neg hc104]
    · refine own_icmpYes X0 hx (hb hby d4_29) (feq hc99).2 (pc' := 51) (by decide) (by decide) ?_
      refine own_aloadN X0 hx (hb hby d4_51) (pc' := 52) rfl rfl rfl ?_
      refine own_iload X0 hx (hb hby d4_52) (pc' := 54) rfl rfl ?_
      obtain ⟨cl108, Ar108, qa108, S108, M108, H108, G108⟩ := id A_v1
      have hin108 : ¬ ((2 : Int32) < 0 ∨ cl108.slots.size ≤ ((2 : Int32)).toNatClampNeg) := inb_of S108 ⟨by decide, by decide⟩
      refine own_st ?_ (fun t k => X0.baloadBytes hx (j := (2 : Int32)) (v := (.int u3)) (by rw [e0]; exact Ar108.1) (State.isArrayOf_alike hZ.alike Ar108.2.1) Ar108.2.2 hin108 (Has.at H108 hin108 rfl) (g := (mkF m 54 #[.val (.ref v1), .val (.int v2), .val (.int v3), .val (.int (-1 : Int32)), .val (.int (2 : Int32))] [(.int (2 : Int32)), (.ref v1)])) rfl rfl (hb hby d4_54) t k)
      show own_Fin _ _ _ _ T0 (mkF m 55 #[.val (.ref v1), .val (.int v2), .val (.int v3), .val (.int (-1 : Int32)), .val (.int (2 : Int32))] [(.int u3)])
      refine own_bipush X0 hx (hb hby d4_55) (pc' := 57) rfl (v := (10 : Int32)) rfl ?_
      refine own_icmpYes X0 hx (hb hby d4_57) (feq hc99).2 (pc' := 99) (by decide) (by decide) ?_
      refine own_iinc X0 hx (hb hby d4_99) (pc' := 102) rfl (Ls' := #[.val (.ref v1), .val (.int v2), .val (.int v3), .val (.int (-1 : Int32)), .val (.int (3 : Int32))]) rfl rfl ?_
      refine own_goto X0 hx (hb hby d4_102) (pc' := 11) (by decide) (by decide) ?_
      refine own_cast ?_ (sg4_11_3 l hw hx hZ hby hml hown hnm hret hlk v1 v2 v3 kc_v1 u1 u2 u3 u4 u5 u6 Z0 X0 N0 e0 A_v1 (h5) (h6))
      rw [own_f4_11_2, if_pos hc97, if_neg hc99]
  · refine own_icmpYes X0 hx (hb hby d4_20) (flt hc97).2.1 (pc' := 105) (by decide) (by decide) ?_
    refine own_iloadN X0 hx (hb hby d4_105) (pc' := 106) rfl rfl ?_
    refine own_retI X0 hx hret hlk (hb hby d4_106) (by decide) (by decide) ?_
    show own_P _ _ _ _ T0.heap _
    exact ⟨(congrArg some (congrArg Value.int (show (-1 : Int32) = (own_f4_11_2 v2 v3 u1 u2 u3 u4 u5 u6) from by rw [own_f4_11_2, if_neg hc97]))), N0, e0⟩
set_option maxRecDepth 65536 in
set_option maxHeartbeats 40000000 in
theorem sg4_11_1 {p : Program} (l : Launch) {e : Env} {s : State} {m : MethodId} {args : Array Value} {below : List Frame} {meth : Method} {c : Code} {Z : State} {a0 : Array Value} (hw : ∀ d ∈ tables_1, d.before a0 Z = true) (hx : p.tables.exec = Jvm.exec) (hZ : Z.Warmed39 s.vm) (hby : c.code = prog_27_method_2_code) (hml : c.maxLocals = 5) (hown : s.vm.findClass "com/example/zhuanjie/zhuanjie/clearing/disputes/RequestHead" = some m.cls) (hnm : meth.name = "end") (hret : meth.sig.returnType = (some .int)) (hlk : meth.locks = false) (v1 : Addr) (v2 : Int32) (v3 : Int32) (kc_v1 : ClassId) (u1 : Int32) (u2 : Int32) (u3 : Int32) (u4 : Int32) (u5 : Int32) (u6 : Int32) {h0 : Heap} {n0 : Nat} (Z0 : n0 ≤ h0.size) {T0 : State} {L0 : List Loc} (X0 : Stand p l e ({ frames := 1, cells := 0, slots := 0, locals := 13 } : Room) s m args below meth c T0 L0 0 0) (N0 : Fr n0 L0) (e0 : T0.heap = h0) (A_v1 : Arv Z h0 v1 kc_v1 .byte (6 : Int32) [(.int u1), (.int u2), (.int u3), (.int u4), (.int u5), (.int u6)] (.int (0 : Int32))) (h5 : ¬ ((5 : Int32) < (v3 - (1 : Int32)))) (h6 : ¬ ((6 : Int32) < v3)) :
    own_Fin p.tables e below (own_End below s (own_P h0 n0 (some (.int (own_f4_11_1 v2 v3 u1 u2 u3 u4 u5 u6)))) 0 0) T0 (mkF m 11 #[.val (.ref v1), .val (.int v2), .val (.int v3), .val (.int (-1 : Int32)), .val (.int (1 : Int32))] []) := by
  refine own_iloadN X0 hx (hb hby d4_11) (pc' := 12) rfl rfl ?_
  refine own_ifNo X0 hx (hb hby d4_12) (pc' := 15) rfl ((if0 _ _).trans (tlt (by decide : (-1 : Int32) < (0 : Int32))).2.1) ?_
  refine own_iload X0 hx (hb hby d4_15) (pc' := 17) rfl rfl ?_
  refine own_iloadN X0 hx (hb hby d4_17) (pc' := 18) rfl rfl ?_
  refine own_iconst X0 hx (hb hby d4_18) (pc' := 19) rfl (v := (1 : Int32)) rfl ?_
  refine own_isub X0 hx (hb hby d4_19) (pc' := 20) rfl ?_
  by_cases hc85 : (1 : Int32) < (v3 - (1 : Int32))
  · refine own_icmpNo X0 hx (hb hby d4_20) (pc' := 23) rfl (tlt hc85).2.1 ?_
    refine own_aloadN X0 hx (hb hby d4_23) (pc' := 24) rfl rfl rfl ?_
    refine own_iload X0 hx (hb hby d4_24) (pc' := 26) rfl rfl ?_
    obtain ⟨cl86, Ar86, qa86, S86, M86, H86, G86⟩ := id A_v1
    have hin86 : ¬ ((1 : Int32) < 0 ∨ cl86.slots.size ≤ ((1 : Int32)).toNatClampNeg) := inb_of S86 ⟨by decide, by decide⟩
    refine own_st ?_ (fun t k => X0.baloadBytes hx (j := (1 : Int32)) (v := (.int u2)) (by rw [e0]; exact Ar86.1) (State.isArrayOf_alike hZ.alike Ar86.2.1) Ar86.2.2 hin86 (Has.at H86 hin86 rfl) (g := (mkF m 26 #[.val (.ref v1), .val (.int v2), .val (.int v3), .val (.int (-1 : Int32)), .val (.int (1 : Int32))] [(.int (1 : Int32)), (.ref v1)])) rfl rfl (hb hby d4_26) t k)
    show own_Fin _ _ _ _ T0 (mkF m 27 #[.val (.ref v1), .val (.int v2), .val (.int v3), .val (.int (-1 : Int32)), .val (.int (1 : Int32))] [(.int u2)])
    refine own_bipush X0 hx (hb hby d4_27) (pc' := 29) rfl (v := (10 : Int32)) rfl ?_
    by_cases hc87 : u2 = (10 : Int32)
    · refine own_icmpNo X0 hx (hb hby d4_29) (pc' := 32) rfl (teq hc87).2 ?_
      refine own_aloadN X0 hx (hb hby d4_32) (pc' := 33) rfl rfl rfl ?_
      refine own_iload X0 hx (hb hby d4_33) (pc' := 35) rfl rfl ?_
      refine own_iconst X0 hx (hb hby d4_35) (pc' := 36) rfl (v := (1 : Int32)) rfl ?_
      refine own_iadd X0 hx (hb hby d4_36) (pc' := 37) rfl ?_
      show own_Fin _ _ _ _ T0 (mkF m 37 #[.val (.ref v1), .val (.int v2), .val (.int v3), .val (.int (-1 : Int32)), .val (.int (1 : Int32))] [(.int (2 : Int32)), (.ref v1)])
      obtain ⟨cl88, Ar88, qa88, S88, M88, H88, G88⟩ := id A_v1
      have hin88 : ¬ ((2 : Int32) < 0 ∨ cl88.slots.size ≤ ((2 : Int32)).toNatClampNeg) := inb_of S88 ⟨by decide, by decide⟩
      refine own_st ?_ (fun t k => X0.baloadBytes hx (j := (2 : Int32)) (v := (.int u3)) (by rw [e0]; exact Ar88.1) (State.isArrayOf_alike hZ.alike Ar88.2.1) Ar88.2.2 hin88 (Has.at H88 hin88 rfl) (g := (mkF m 37 #[.val (.ref v1), .val (.int v2), .val (.int v3), .val (.int (-1 : Int32)), .val (.int (1 : Int32))] [(.int (2 : Int32)), (.ref v1)])) rfl rfl (hb hby d4_37) t k)
      show own_Fin _ _ _ _ T0 (mkF m 38 #[.val (.ref v1), .val (.int v2), .val (.int v3), .val (.int (-1 : Int32)), .val (.int (1 : Int32))] [(.int u3)])
      refine own_bipush X0 hx (hb hby d4_38) (pc' := 40) rfl (v := (10 : Int32)) rfl ?_
      by_cases hc89 : u3 = (10 : Int32)
      · refine own_icmpNo X0 hx (hb hby d4_40) (pc' := 43) rfl (teq hc89).2 ?_
        refine own_iload X0 hx (hb hby d4_43) (pc' := 45) rfl rfl ?_
        refine own_iconst X0 hx (hb hby d4_45) (pc' := 46) rfl (v := (2 : Int32)) rfl ?_
        refine own_iadd X0 hx (hb hby d4_46) (pc' := 47) rfl ?_
        show own_Fin _ _ _ _ T0 (mkF m 47 #[.val (.ref v1), .val (.int v2), .val (.int v3), .val (.int (-1 : Int32)), .val (.int (1 : Int32))] [(.int (3 : Int32))])
        refine own_istoreN X0 hx (hb hby d4_47) (pc' := 48) rfl (Ls' := #[.val (.ref v1), .val (.int v2), .val (.int v3), .val (.int (3 : Int32)), .val (.int (1 : Int32))]) rfl ?_
        refine own_goto X0 hx (hb hby d4_48) (pc' := 99) (by decide) (by decide) ?_
        refine own_iinc X0 hx (hb hby d4_99) (pc' := 102) rfl (Ls' := #[.val (.ref v1), .val (.int v2), .val (.int v3), .val (.int (3 : Int32)), .val (.int (2 : Int32))]) rfl rfl ?_
        refine own_goto X0 hx (hb hby d4_102) (pc' := 11) (by decide) (by decide) ?_
        refine own_iloadN X0 hx (hb hby d4_11) (pc' := 12) rfl rfl ?_
        refine own_ifYes X0 hx (hb hby d4_12) ((if0 _ _).trans (flt (by decide : ¬ ((3 : Int32) < (0 : Int32)))).2.1) (pc' := 105) (by decide) (by decide) ?_
        refine own_iloadN X0 hx (hb hby d4_105) (pc' := 106) rfl rfl ?_
        refine own_retI X0 hx hret hlk (hb hby d4_106) (by decide) (by decide) ?_
        show own_P _ _ _ _ T0.heap _
        exact ⟨(congrArg some (congrArg Value.int (show (3 : Int32) = (own_f4_11_1 v2 v3 u1 u2 u3 u4 u5 u6) from by rw [own_f4_11_1, if_pos hc85, if_pos hc87, if_pos hc89]))), N0, e0⟩
      · refine own_icmpYes X0 hx (hb hby d4_40) (feq hc89).2 (pc' := 51) (by decide) (by decide) ?_
        refine own_aloadN X0 hx (hb hby d4_51) (pc' := 52) rfl rfl rfl ?_
        refine own_iload X0 hx (hb hby d4_52) (pc' := 54) rfl rfl ?_
        obtain ⟨cl90, Ar90, qa90, S90, M90, H90, G90⟩ := id A_v1
        have hin90 : ¬ ((1 : Int32) < 0 ∨ cl90.slots.size ≤ ((1 : Int32)).toNatClampNeg) := inb_of S90 ⟨by decide, by decide⟩
        refine own_st ?_ (fun t k => X0.baloadBytes hx (j := (1 : Int32)) (v := (.int u2)) (by rw [e0]; exact Ar90.1) (State.isArrayOf_alike hZ.alike Ar90.2.1) Ar90.2.2 hin90 (Has.at H90 hin90 rfl) (g := (mkF m 54 #[.val (.ref v1), .val (.int v2), .val (.int v3), .val (.int (-1 : Int32)), .val (.int (1 : Int32))] [(.int (1 : Int32)), (.ref v1)])) rfl rfl (hb hby d4_54) t k)
        show own_Fin _ _ _ _ T0 (mkF m 55 #[.val (.ref v1), .val (.int v2), .val (.int v3), .val (.int (-1 : Int32)), .val (.int (1 : Int32))] [(.int u2)])
        refine own_bipush X0 hx (hb hby d4_55) (pc' := 57) rfl (v := (10 : Int32)) rfl ?_
        refine own_icmpNo X0 hx (hb hby d4_57) (pc' := 60) rfl (teq hc87).2 ?_
        refine own_aloadN X0 hx (hb hby d4_60) (pc' := 61) rfl rfl rfl ?_
        refine own_iload X0 hx (hb hby d4_61) (pc' := 63) rfl rfl ?_
        refine own_iconst X0 hx (hb hby d4_63) (pc' := 64) rfl (v := (1 : Int32)) rfl ?_
        refine own_iadd X0 hx (hb hby d4_64) (pc' := 65) rfl ?_
        show own_Fin _ _ _ _ T0 (mkF m 65 #[.val (.ref v1), .val (.int v2), .val (.int v3), .val (.int (-1 : Int32)), .val (.int (1 : Int32))] [(.int (2 : Int32)), (.ref v1)])
        obtain ⟨cl91, Ar91, qa91, S91, M91, H91, G91⟩ := id A_v1
        have hin91 : ¬ ((2 : Int32) < 0 ∨ cl91.slots.size ≤ ((2 : Int32)).toNatClampNeg) := inb_of S91 ⟨by decide, by decide⟩
        refine own_st ?_ (fun t k => X0.baloadBytes hx (j := (2 : Int32)) (v := (.int u3)) (by rw [e0]; exact Ar91.1) (State.isArrayOf_alike hZ.alike Ar91.2.1) Ar91.2.2 hin91 (Has.at H91 hin91 rfl) (g := (mkF m 65 #[.val (.ref v1), .val (.int v2), .val (.int v3), .val (.int (-1 : Int32)), .val (.int (1 : Int32))] [(.int (2 : Int32)), (.ref v1)])) rfl rfl (hb hby d4_65) t k)
        show own_Fin _ _ _ _ T0 (mkF m 66 #[.val (.ref v1), .val (.int v2), .val (.int v3), .val (.int (-1 : Int32)), .val (.int (1 : Int32))] [(.int u3)])
        refine own_bipush X0 hx (hb hby d4_66) (pc' := 68) rfl (v := (13 : Int32)) rfl ?_
        by_cases hc92 : u3 = (13 : Int32)
        · refine own_icmpNo X0 hx (hb hby d4_68) (pc' := 71) rfl (teq hc92).2 ?_
          refine own_iload X0 hx (hb hby d4_71) (pc' := 73) rfl rfl ?_
          refine own_iconst X0 hx (hb hby d4_73) (pc' := 74) rfl (v := (2 : Int32)) rfl ?_
          refine own_iadd X0 hx (hb hby d4_74) (pc' := 75) rfl ?_
          show own_Fin _ _ _ _ T0 (mkF m 75 #[.val (.ref v1), .val (.int v2), .val (.int v3), .val (.int (-1 : Int32)), .val (.int (1 : Int32))] [(.int (3 : Int32))])
          refine own_iloadN X0 hx (hb hby d4_75) (pc' := 76) rfl rfl ?_
          by_cases hc93 : (3 : Int32) < v3
          · refine own_icmpNo X0 hx (hb hby d4_76) (pc' := 79) rfl (tlt hc93).2.1 ?_
            refine own_aloadN X0 hx (hb hby d4_79) (pc' := 80) rfl rfl rfl ?_
            refine own_iload X0 hx (hb hby d4_80) (pc' := 82) rfl rfl ?_
            refine own_iconst X0 hx (hb hby d4_82) (pc' := 83) rfl (v := (2 : Int32)) rfl ?_
            refine own_iadd X0 hx (hb hby d4_83) (pc' := 84) rfl ?_
            show own_Fin _ _ _ _ T0 (mkF m 84 #[.val (.ref v1), .val (.int v2), .val (.int v3), .val (.int (-1 : Int32)), .val (.int (1 : Int32))] [(.int (3 : Int32)), (.ref v1)])
            obtain ⟨cl94, Ar94, qa94, S94, M94, H94, G94⟩ := id A_v1
            have hin94 : ¬ ((3 : Int32) < 0 ∨ cl94.slots.size ≤ ((3 : Int32)).toNatClampNeg) := inb_of S94 ⟨by decide, by decide⟩
            refine own_st ?_ (fun t k => X0.baloadBytes hx (j := (3 : Int32)) (v := (.int u4)) (by rw [e0]; exact Ar94.1) (State.isArrayOf_alike hZ.alike Ar94.2.1) Ar94.2.2 hin94 (Has.at H94 hin94 rfl) (g := (mkF m 84 #[.val (.ref v1), .val (.int v2), .val (.int v3), .val (.int (-1 : Int32)), .val (.int (1 : Int32))] [(.int (3 : Int32)), (.ref v1)])) rfl rfl (hb hby d4_84) t k)
            show own_Fin _ _ _ _ T0 (mkF m 85 #[.val (.ref v1), .val (.int v2), .val (.int v3), .val (.int (-1 : Int32)), .val (.int (1 : Int32))] [(.int u4)])
            refine own_bipush X0 hx (hb hby d4_85) (pc' := 87) rfl (v := (10 : Int32)) rfl ?_
            by_cases hc95 : u4 = (10 : Int32)
            · refine own_icmpNo X0 hx (hb hby d4_87) (pc' := 90) rfl (teq hc95).2 ?_
              refine own_iload X0 hx (hb hby d4_90) (pc' := 92) rfl rfl ?_
              refine own_iconst X0 hx (hb hby d4_92) (pc' := 93) rfl (v := (3 : Int32)) rfl ?_
              refine own_iadd X0 hx (hb hby d4_93) (pc' := 94) rfl ?_
              show own_Fin _ _ _ _ T0 (mkF m 94 #[.val (.ref v1), .val (.int v2), .val (.int v3), .val (.int (-1 : Int32)), .val (.int (1 : Int32))] [(.int (4 : Int32))])
              refine own_goto X0 hx (hb hby d4_94) (pc' := 98) (by decide) (by decide) ?_
              refine own_istoreN X0 hx (hb hby d4_98) (pc' := 99) rfl (Ls' := #[.val (.ref v1), .val (.int v2), .val (.int v3), .val (.int (4 : Int32)), .val (.int (1 : Int32))]) rfl ?_
              refine own_iinc X0 hx (hb hby d4_99) (pc' := 102) rfl (Ls' := #[.val (.ref v1), .val (.int v2), .val (.int v3), .val (.int (4 : Int32)), .val (.int (2 : Int32))]) rfl rfl ?_
              refine own_goto X0 hx (hb hby d4_102) (pc' := 11) (by decide) (by decide) ?_
              refine own_iloadN X0 hx (hb hby d4_11) (pc' := 12) rfl rfl ?_
              refine own_ifYes X0 hx (hb hby d4_12) ((if0 _ _).trans (flt (by decide : ¬ ((4 : Int32) < (0 : Int32)))).2.1) (pc' := 105) (by decide) (by decide) ?_
              refine own_iloadN X0 hx (hb hby d4_105) (pc' := 106) rfl rfl ?_
              refine own_retI X0 hx hret hlk (hb hby d4_106) (by decide) (by decide) ?_
              show own_P _ _ _ _ T0.heap _
              exact ⟨(congrArg some (congrArg Value.int (show (4 : Int32) = (own_f4_11_1 v2 v3 u1 u2 u3 u4 u5 u6) from by rw [own_f4_11_1, if_pos hc85, if_pos hc87, if_neg hc89, if_pos hc92, if_pos hc93, if_pos hc95]))), N0, e0⟩
            · refine own_icmpYes X0 hx (hb hby d4_87) (feq hc95).2 (pc' := 97) (by decide) (by decide) ?_
              refine own_iconst X0 hx (hb hby d4_97) (pc' := 98) rfl (v := (-1 : Int32)) rfl ?_
              refine own_istoreN X0 hx (hb hby d4_98) (pc' := 99) rfl (Ls' := #[.val (.ref v1), .val (.int v2), .val (.int v3), .val (.int (-1 : Int32)), .val (.int (1 : Int32))]) rfl ?_
              refine own_iinc X0 hx (hb hby d4_99) (pc' := 102) rfl (Ls' := #[.val (.ref v1), .val (.int v2), .val (.int v3), .val (.int (-1 : Int32)), .val (.int (2 : Int32))]) rfl rfl ?_
              refine own_goto X0 hx (hb hby d4_102) (pc' := 11) (by decide) (by decide) ?_
              refine own_cast ?_ (sg4_11_2 l hw hx hZ hby hml hown hnm hret hlk v1 v2 v3 kc_v1 u1 u2 u3 u4 u5 u6 Z0 X0 N0 e0 A_v1 (h5) (h6))
              rw [own_f4_11_1, if_pos hc85, if_pos hc87, if_neg hc89, if_pos hc92, if_pos hc93, if_neg hc95]
          · refine own_icmpYes X0 hx (hb hby d4_76) (flt hc93).2.1 (pc' := 99) (by decide) (by decide) ?_
            refine own_iinc X0 hx (hb hby d4_99) (pc' := 102) rfl (Ls' := #[.val (.ref v1), .val (.int v2), .val (.int v3), .val (.int (-1 : Int32)), .val (.int (2 : Int32))]) rfl rfl ?_
            refine own_goto X0 hx (hb hby d4_102) (pc' := 11) (by decide) (by decide) ?_
            refine own_cast ?_ (sg4_11_2 l hw hx hZ hby hml hown hnm hret hlk v1 v2 v3 kc_v1 u1 u2 u3 u4 u5 u6 Z0 X0 N0 e0 A_v1 (h5) (h6))
            rw [own_f4_11_1, if_pos hc85, if_pos hc87, if_neg hc89, if_pos hc92, if_neg hc93]
        · refine own_icmpYes X0 hx (hb hby d4_68) (feq hc92).2 (pc' := 99) (by decide) (by decide) ?_
          refine own_iinc X0 hx (hb hby d4_99) (pc' := 102) rfl (Ls' := #[.val (.ref v1), .val (.int v2), .val (.int v3), .val (.int (-1 : Int32)), .val (.int (2 : Int32))]) rfl rfl ?_
          refine own_goto X0 hx (hb hby d4_102) (pc' := 11) (by decide) (by decide) ?_
          refine own_cast ?_ (sg4_11_2 l hw hx hZ hby hml hown hnm hret hlk v1 v2 v3 kc_v1 u1 u2 u3 u4 u5 u6 Z0 X0 N0 e0 A_v1 (h5) (h6))
          rw [own_f4_11_1, if_pos hc85, if_pos hc87, if_neg hc89, if_neg hc92]
    · refine own_icmpYes X0 hx (hb hby d4_29) (feq hc87).2 (pc' := 51) (by decide) (by decide) ?_
      refine own_aloadN X0 hx (hb hby d4_51) (pc' := 52) rfl rfl rfl ?_
      refine own_iload X0 hx (hb hby d4_52) (pc' := 54) rfl rfl ?_
      obtain ⟨cl96, Ar96, qa96, S96, M96, H96, G96⟩ := id A_v1
      have hin96 : ¬ ((1 : Int32) < 0 ∨ cl96.slots.size ≤ ((1 : Int32)).toNatClampNeg) := inb_of S96 ⟨by decide, by decide⟩
      refine own_st ?_ (fun t k => X0.baloadBytes hx (j := (1 : Int32)) (v := (.int u2)) (by rw [e0]; exact Ar96.1) (State.isArrayOf_alike hZ.alike Ar96.2.1) Ar96.2.2 hin96 (Has.at H96 hin96 rfl) (g := (mkF m 54 #[.val (.ref v1), .val (.int v2), .val (.int v3), .val (.int (-1 : Int32)), .val (.int (1 : Int32))] [(.int (1 : Int32)), (.ref v1)])) rfl rfl (hb hby d4_54) t k)
      show own_Fin _ _ _ _ T0 (mkF m 55 #[.val (.ref v1), .val (.int v2), .val (.int v3), .val (.int (-1 : Int32)), .val (.int (1 : Int32))] [(.int u2)])
      refine own_bipush X0 hx (hb hby d4_55) (pc' := 57) rfl (v := (10 : Int32)) rfl ?_
      refine own_icmpYes X0 hx (hb hby d4_57) (feq hc87).2 (pc' := 99) (by decide) (by decide) ?_
      refine own_iinc X0 hx (hb hby d4_99) (pc' := 102) rfl (Ls' := #[.val (.ref v1), .val (.int v2), .val (.int v3), .val (.int (-1 : Int32)), .val (.int (2 : Int32))]) rfl rfl ?_
      refine own_goto X0 hx (hb hby d4_102) (pc' := 11) (by decide) (by decide) ?_
      refine own_cast ?_ (sg4_11_2 l hw hx hZ hby hml hown hnm hret hlk v1 v2 v3 kc_v1 u1 u2 u3 u4 u5 u6 Z0 X0 N0 e0 A_v1 (h5) (h6))
      rw [own_f4_11_1, if_pos hc85, if_neg hc87]
  · refine own_icmpYes X0 hx (hb hby d4_20) (flt hc85).2.1 (pc' := 105) (by decide) (by decide) ?_
    refine own_iloadN X0 hx (hb hby d4_105) (pc' := 106) rfl rfl ?_
    refine own_retI X0 hx hret hlk (hb hby d4_106) (by decide) (by decide) ?_
    show own_P _ _ _ _ T0.heap _
    exact ⟨(congrArg some (congrArg Value.int (show (-1 : Int32) = (own_f4_11_1 v2 v3 u1 u2 u3 u4 u5 u6) from by rw [own_f4_11_1, if_neg hc85]))), N0, e0⟩
set_option maxRecDepth 65536 in
set_option maxHeartbeats 40000000 in
theorem sg4_11_0 {p : Program} (l : Launch) {e : Env} {s : State} {m : MethodId} {args : Array Value} {below : List Frame} {meth : Method} {c : Code} {Z : State} {a0 : Array Value} (hw : ∀ d ∈ tables_1, d.before a0 Z = true) (hx : p.tables.exec = Jvm.exec) (hZ : Z.Warmed39 s.vm) (hby : c.code = prog_27_method_2_code) (hml : c.maxLocals = 5) (hown : s.vm.findClass "com/example/zhuanjie/zhuanjie/clearing/disputes/RequestHead" = some m.cls) (hnm : meth.name = "end") (hret : meth.sig.returnType = (some .int)) (hlk : meth.locks = false) (v1 : Addr) (v2 : Int32) (v3 : Int32) (kc_v1 : ClassId) (u1 : Int32) (u2 : Int32) (u3 : Int32) (u4 : Int32) (u5 : Int32) (u6 : Int32) {h0 : Heap} {n0 : Nat} (Z0 : n0 ≤ h0.size) {T0 : State} {L0 : List Loc} (X0 : Stand p l e ({ frames := 1, cells := 0, slots := 0, locals := 13 } : Room) s m args below meth c T0 L0 0 0) (N0 : Fr n0 L0) (e0 : T0.heap = h0) (A_v1 : Arv Z h0 v1 kc_v1 .byte (6 : Int32) [(.int u1), (.int u2), (.int u3), (.int u4), (.int u5), (.int u6)] (.int (0 : Int32))) (h5 : ¬ ((5 : Int32) < (v3 - (1 : Int32)))) (h6 : ¬ ((6 : Int32) < v3)) :
    own_Fin p.tables e below (own_End below s (own_P h0 n0 (some (.int (own_f4_11_0 v2 v3 u1 u2 u3 u4 u5 u6)))) 0 0) T0 (mkF m 11 #[.val (.ref v1), .val (.int v2), .val (.int v3), .val (.int (-1 : Int32)), .val (.int (0 : Int32))] []) := by
  refine own_iloadN X0 hx (hb hby d4_11) (pc' := 12) rfl rfl ?_
  refine own_ifNo X0 hx (hb hby d4_12) (pc' := 15) rfl ((if0 _ _).trans (tlt (by decide : (-1 : Int32) < (0 : Int32))).2.1) ?_
  refine own_iload X0 hx (hb hby d4_15) (pc' := 17) rfl rfl ?_
  refine own_iloadN X0 hx (hb hby d4_17) (pc' := 18) rfl rfl ?_
  refine own_iconst X0 hx (hb hby d4_18) (pc' := 19) rfl (v := (1 : Int32)) rfl ?_
  refine own_isub X0 hx (hb hby d4_19) (pc' := 20) rfl ?_
  by_cases hc73 : (0 : Int32) < (v3 - (1 : Int32))
  · refine own_icmpNo X0 hx (hb hby d4_20) (pc' := 23) rfl (tlt hc73).2.1 ?_
    refine own_aloadN X0 hx (hb hby d4_23) (pc' := 24) rfl rfl rfl ?_
    refine own_iload X0 hx (hb hby d4_24) (pc' := 26) rfl rfl ?_
    obtain ⟨cl74, Ar74, qa74, S74, M74, H74, G74⟩ := id A_v1
    have hin74 : ¬ ((0 : Int32) < 0 ∨ cl74.slots.size ≤ ((0 : Int32)).toNatClampNeg) := inb_of S74 ⟨by decide, by decide⟩
    refine own_st ?_ (fun t k => X0.baloadBytes hx (j := (0 : Int32)) (v := (.int u1)) (by rw [e0]; exact Ar74.1) (State.isArrayOf_alike hZ.alike Ar74.2.1) Ar74.2.2 hin74 (Has.at H74 hin74 rfl) (g := (mkF m 26 #[.val (.ref v1), .val (.int v2), .val (.int v3), .val (.int (-1 : Int32)), .val (.int (0 : Int32))] [(.int (0 : Int32)), (.ref v1)])) rfl rfl (hb hby d4_26) t k)
    show own_Fin _ _ _ _ T0 (mkF m 27 #[.val (.ref v1), .val (.int v2), .val (.int v3), .val (.int (-1 : Int32)), .val (.int (0 : Int32))] [(.int u1)])
    refine own_bipush X0 hx (hb hby d4_27) (pc' := 29) rfl (v := (10 : Int32)) rfl ?_
    by_cases hc75 : u1 = (10 : Int32)
    · refine own_icmpNo X0 hx (hb hby d4_29) (pc' := 32) rfl (teq hc75).2 ?_
      refine own_aloadN X0 hx (hb hby d4_32) (pc' := 33) rfl rfl rfl ?_
      refine own_iload X0 hx (hb hby d4_33) (pc' := 35) rfl rfl ?_
      refine own_iconst X0 hx (hb hby d4_35) (pc' := 36) rfl (v := (1 : Int32)) rfl ?_
      refine own_iadd X0 hx (hb hby d4_36) (pc' := 37) rfl ?_
      show own_Fin _ _ _ _ T0 (mkF m 37 #[.val (.ref v1), .val (.int v2), .val (.int v3), .val (.int (-1 : Int32)), .val (.int (0 : Int32))] [(.int (1 : Int32)), (.ref v1)])
      obtain ⟨cl76, Ar76, qa76, S76, M76, H76, G76⟩ := id A_v1
      have hin76 : ¬ ((1 : Int32) < 0 ∨ cl76.slots.size ≤ ((1 : Int32)).toNatClampNeg) := inb_of S76 ⟨by decide, by decide⟩
      refine own_st ?_ (fun t k => X0.baloadBytes hx (j := (1 : Int32)) (v := (.int u2)) (by rw [e0]; exact Ar76.1) (State.isArrayOf_alike hZ.alike Ar76.2.1) Ar76.2.2 hin76 (Has.at H76 hin76 rfl) (g := (mkF m 37 #[.val (.ref v1), .val (.int v2), .val (.int v3), .val (.int (-1 : Int32)), .val (.int (0 : Int32))] [(.int (1 : Int32)), (.ref v1)])) rfl rfl (hb hby d4_37) t k)
      show own_Fin _ _ _ _ T0 (mkF m 38 #[.val (.ref v1), .val (.int v2), .val (.int v3), .val (.int (-1 : Int32)), .val (.int (0 : Int32))] [(.int u2)])
      refine own_bipush X0 hx (hb hby d4_38) (pc' := 40) rfl (v := (10 : Int32)) rfl ?_
      by_cases hc77 : u2 = (10 : Int32)
      · refine own_icmpNo X0 hx (hb hby d4_40) (pc' := 43) rfl (teq hc77).2 ?_
        refine own_iload X0 hx (hb hby d4_43) (pc' := 45) rfl rfl ?_
        refine own_iconst X0 hx (hb hby d4_45) (pc' := 46) rfl (v := (2 : Int32)) rfl ?_
        refine own_iadd X0 hx (hb hby d4_46) (pc' := 47) rfl ?_
        show own_Fin _ _ _ _ T0 (mkF m 47 #[.val (.ref v1), .val (.int v2), .val (.int v3), .val (.int (-1 : Int32)), .val (.int (0 : Int32))] [(.int (2 : Int32))])
        refine own_istoreN X0 hx (hb hby d4_47) (pc' := 48) rfl (Ls' := #[.val (.ref v1), .val (.int v2), .val (.int v3), .val (.int (2 : Int32)), .val (.int (0 : Int32))]) rfl ?_
        refine own_goto X0 hx (hb hby d4_48) (pc' := 99) (by decide) (by decide) ?_
        refine own_iinc X0 hx (hb hby d4_99) (pc' := 102) rfl (Ls' := #[.val (.ref v1), .val (.int v2), .val (.int v3), .val (.int (2 : Int32)), .val (.int (1 : Int32))]) rfl rfl ?_
        refine own_goto X0 hx (hb hby d4_102) (pc' := 11) (by decide) (by decide) ?_
        refine own_iloadN X0 hx (hb hby d4_11) (pc' := 12) rfl rfl ?_
        refine own_ifYes X0 hx (hb hby d4_12) ((if0 _ _).trans (flt (by decide : ¬ ((2 : Int32) < (0 : Int32)))).2.1) (pc' := 105) (by decide) (by decide) ?_
        refine own_iloadN X0 hx (hb hby d4_105) (pc' := 106) rfl rfl ?_
        refine own_retI X0 hx hret hlk (hb hby d4_106) (by decide) (by decide) ?_
        show own_P _ _ _ _ T0.heap _
        exact ⟨(congrArg some (congrArg Value.int (show (2 : Int32) = (own_f4_11_0 v2 v3 u1 u2 u3 u4 u5 u6) from by rw [own_f4_11_0, if_pos hc73, if_pos hc75, if_pos hc77]))), N0, e0⟩
      · refine own_icmpYes X0 hx (hb hby d4_40) (feq hc77).2 (pc' := 51) (by decide) (by decide) ?_
        refine own_aloadN X0 hx (hb hby d4_51) (pc' := 52) rfl rfl rfl ?_
        refine own_iload X0 hx (hb hby d4_52) (pc' := 54) rfl rfl ?_
        obtain ⟨cl78, Ar78, qa78, S78, M78, H78, G78⟩ := id A_v1
        have hin78 : ¬ ((0 : Int32) < 0 ∨ cl78.slots.size ≤ ((0 : Int32)).toNatClampNeg) := inb_of S78 ⟨by decide, by decide⟩
        refine own_st ?_ (fun t k => X0.baloadBytes hx (j := (0 : Int32)) (v := (.int u1)) (by rw [e0]; exact Ar78.1) (State.isArrayOf_alike hZ.alike Ar78.2.1) Ar78.2.2 hin78 (Has.at H78 hin78 rfl) (g := (mkF m 54 #[.val (.ref v1), .val (.int v2), .val (.int v3), .val (.int (-1 : Int32)), .val (.int (0 : Int32))] [(.int (0 : Int32)), (.ref v1)])) rfl rfl (hb hby d4_54) t k)
        show own_Fin _ _ _ _ T0 (mkF m 55 #[.val (.ref v1), .val (.int v2), .val (.int v3), .val (.int (-1 : Int32)), .val (.int (0 : Int32))] [(.int u1)])
        refine own_bipush X0 hx (hb hby d4_55) (pc' := 57) rfl (v := (10 : Int32)) rfl ?_
        refine own_icmpNo X0 hx (hb hby d4_57) (pc' := 60) rfl (teq hc75).2 ?_
        refine own_aloadN X0 hx (hb hby d4_60) (pc' := 61) rfl rfl rfl ?_
        refine own_iload X0 hx (hb hby d4_61) (pc' := 63) rfl rfl ?_
        refine own_iconst X0 hx (hb hby d4_63) (pc' := 64) rfl (v := (1 : Int32)) rfl ?_
        refine own_iadd X0 hx (hb hby d4_64) (pc' := 65) rfl ?_
        show own_Fin _ _ _ _ T0 (mkF m 65 #[.val (.ref v1), .val (.int v2), .val (.int v3), .val (.int (-1 : Int32)), .val (.int (0 : Int32))] [(.int (1 : Int32)), (.ref v1)])
        obtain ⟨cl79, Ar79, qa79, S79, M79, H79, G79⟩ := id A_v1
        have hin79 : ¬ ((1 : Int32) < 0 ∨ cl79.slots.size ≤ ((1 : Int32)).toNatClampNeg) := inb_of S79 ⟨by decide, by decide⟩
        refine own_st ?_ (fun t k => X0.baloadBytes hx (j := (1 : Int32)) (v := (.int u2)) (by rw [e0]; exact Ar79.1) (State.isArrayOf_alike hZ.alike Ar79.2.1) Ar79.2.2 hin79 (Has.at H79 hin79 rfl) (g := (mkF m 65 #[.val (.ref v1), .val (.int v2), .val (.int v3), .val (.int (-1 : Int32)), .val (.int (0 : Int32))] [(.int (1 : Int32)), (.ref v1)])) rfl rfl (hb hby d4_65) t k)
        show own_Fin _ _ _ _ T0 (mkF m 66 #[.val (.ref v1), .val (.int v2), .val (.int v3), .val (.int (-1 : Int32)), .val (.int (0 : Int32))] [(.int u2)])
        refine own_bipush X0 hx (hb hby d4_66) (pc' := 68) rfl (v := (13 : Int32)) rfl ?_
        by_cases hc80 : u2 = (13 : Int32)
        · refine own_icmpNo X0 hx (hb hby d4_68) (pc' := 71) rfl (teq hc80).2 ?_
          refine own_iload X0 hx (hb hby d4_71) (pc' := 73) rfl rfl ?_
          refine own_iconst X0 hx (hb hby d4_73) (pc' := 74) rfl (v := (2 : Int32)) rfl ?_
          refine own_iadd X0 hx (hb hby d4_74) (pc' := 75) rfl ?_
          show own_Fin _ _ _ _ T0 (mkF m 75 #[.val (.ref v1), .val (.int v2), .val (.int v3), .val (.int (-1 : Int32)), .val (.int (0 : Int32))] [(.int (2 : Int32))])
          refine own_iloadN X0 hx (hb hby d4_75) (pc' := 76) rfl rfl ?_
          by_cases hc81 : (2 : Int32) < v3
          · refine own_icmpNo X0 hx (hb hby d4_76) (pc' := 79) rfl (tlt hc81).2.1 ?_
            refine own_aloadN X0 hx (hb hby d4_79) (pc' := 80) rfl rfl rfl ?_
            refine own_iload X0 hx (hb hby d4_80) (pc' := 82) rfl rfl ?_
            refine own_iconst X0 hx (hb hby d4_82) (pc' := 83) rfl (v := (2 : Int32)) rfl ?_
            refine own_iadd X0 hx (hb hby d4_83) (pc' := 84) rfl ?_
            show own_Fin _ _ _ _ T0 (mkF m 84 #[.val (.ref v1), .val (.int v2), .val (.int v3), .val (.int (-1 : Int32)), .val (.int (0 : Int32))] [(.int (2 : Int32)), (.ref v1)])
            obtain ⟨cl82, Ar82, qa82, S82, M82, H82, G82⟩ := id A_v1
            have hin82 : ¬ ((2 : Int32) < 0 ∨ cl82.slots.size ≤ ((2 : Int32)).toNatClampNeg) := inb_of S82 ⟨by decide, by decide⟩
            refine own_st ?_ (fun t k => X0.baloadBytes hx (j := (2 : Int32)) (v := (.int u3)) (by rw [e0]; exact Ar82.1) (State.isArrayOf_alike hZ.alike Ar82.2.1) Ar82.2.2 hin82 (Has.at H82 hin82 rfl) (g := (mkF m 84 #[.val (.ref v1), .val (.int v2), .val (.int v3), .val (.int (-1 : Int32)), .val (.int (0 : Int32))] [(.int (2 : Int32)), (.ref v1)])) rfl rfl (hb hby d4_84) t k)
            show own_Fin _ _ _ _ T0 (mkF m 85 #[.val (.ref v1), .val (.int v2), .val (.int v3), .val (.int (-1 : Int32)), .val (.int (0 : Int32))] [(.int u3)])
            refine own_bipush X0 hx (hb hby d4_85) (pc' := 87) rfl (v := (10 : Int32)) rfl ?_
            by_cases hc83 : u3 = (10 : Int32)
            · refine own_icmpNo X0 hx (hb hby d4_87) (pc' := 90) rfl (teq hc83).2 ?_
              refine own_iload X0 hx (hb hby d4_90) (pc' := 92) rfl rfl ?_
              refine own_iconst X0 hx (hb hby d4_92) (pc' := 93) rfl (v := (3 : Int32)) rfl ?_
              refine own_iadd X0 hx (hb hby d4_93) (pc' := 94) rfl ?_
              show own_Fin _ _ _ _ T0 (mkF m 94 #[.val (.ref v1), .val (.int v2), .val (.int v3), .val (.int (-1 : Int32)), .val (.int (0 : Int32))] [(.int (3 : Int32))])
              refine own_goto X0 hx (hb hby d4_94) (pc' := 98) (by decide) (by decide) ?_
              refine own_istoreN X0 hx (hb hby d4_98) (pc' := 99) rfl (Ls' := #[.val (.ref v1), .val (.int v2), .val (.int v3), .val (.int (3 : Int32)), .val (.int (0 : Int32))]) rfl ?_
              refine own_iinc X0 hx (hb hby d4_99) (pc' := 102) rfl (Ls' := #[.val (.ref v1), .val (.int v2), .val (.int v3), .val (.int (3 : Int32)), .val (.int (1 : Int32))]) rfl rfl ?_
              refine own_goto X0 hx (hb hby d4_102) (pc' := 11) (by decide) (by decide) ?_
              refine own_iloadN X0 hx (hb hby d4_11) (pc' := 12) rfl rfl ?_
              refine own_ifYes X0 hx (hb hby d4_12) ((if0 _ _).trans (flt (by decide : ¬ ((3 : Int32) < (0 : Int32)))).2.1) (pc' := 105) (by decide) (by decide) ?_
              refine own_iloadN X0 hx (hb hby d4_105) (pc' := 106) rfl rfl ?_
              refine own_retI X0 hx hret hlk (hb hby d4_106) (by decide) (by decide) ?_
              show own_P _ _ _ _ T0.heap _
              exact ⟨(congrArg some (congrArg Value.int (show (3 : Int32) = (own_f4_11_0 v2 v3 u1 u2 u3 u4 u5 u6) from by rw [own_f4_11_0, if_pos hc73, if_pos hc75, if_neg hc77, if_pos hc80, if_pos hc81, if_pos hc83]))), N0, e0⟩
            · refine own_icmpYes X0 hx (hb hby d4_87) (feq hc83).2 (pc' := 97) (by decide) (by decide) ?_
              refine own_iconst X0 hx (hb hby d4_97) (pc' := 98) rfl (v := (-1 : Int32)) rfl ?_
              refine own_istoreN X0 hx (hb hby d4_98) (pc' := 99) rfl (Ls' := #[.val (.ref v1), .val (.int v2), .val (.int v3), .val (.int (-1 : Int32)), .val (.int (0 : Int32))]) rfl ?_
              refine own_iinc X0 hx (hb hby d4_99) (pc' := 102) rfl (Ls' := #[.val (.ref v1), .val (.int v2), .val (.int v3), .val (.int (-1 : Int32)), .val (.int (1 : Int32))]) rfl rfl ?_
              refine own_goto X0 hx (hb hby d4_102) (pc' := 11) (by decide) (by decide) ?_
              refine own_cast ?_ (sg4_11_1 l hw hx hZ hby hml hown hnm hret hlk v1 v2 v3 kc_v1 u1 u2 u3 u4 u5 u6 Z0 X0 N0 e0 A_v1 (h5) (h6))
              rw [own_f4_11_0, if_pos hc73, if_pos hc75, if_neg hc77, if_pos hc80, if_pos hc81, if_neg hc83]
          · refine own_icmpYes X0 hx (hb hby d4_76) (flt hc81).2.1 (pc' := 99) (by decide) (by decide) ?_
            refine own_iinc X0 hx (hb hby d4_99) (pc' := 102) rfl (Ls' := #[.val (.ref v1), .val (.int v2), .val (.int v3), .val (.int (-1 : Int32)), .val (.int (1 : Int32))]) rfl rfl ?_
            refine own_goto X0 hx (hb hby d4_102) (pc' := 11) (by decide) (by decide) ?_
            refine own_cast ?_ (sg4_11_1 l hw hx hZ hby hml hown hnm hret hlk v1 v2 v3 kc_v1 u1 u2 u3 u4 u5 u6 Z0 X0 N0 e0 A_v1 (h5) (h6))
            rw [own_f4_11_0, if_pos hc73, if_pos hc75, if_neg hc77, if_pos hc80, if_neg hc81]
        · refine own_icmpYes X0 hx (hb hby d4_68) (feq hc80).2 (pc' := 99) (by decide) (by decide) ?_
          refine own_iinc X0 hx (hb hby d4_99) (pc' := 102) rfl (Ls' := #[.val (.ref v1), .val (.int v2), .val (.int v3), .val (.int (-1 : Int32)), .val (.int (1 : Int32))]) rfl rfl ?_
          refine own_goto X0 hx (hb hby d4_102) (pc' := 11) (by decide) (by decide) ?_
          refine own_cast ?_ (sg4_11_1 l hw hx hZ hby hml hown hnm hret hlk v1 v2 v3 kc_v1 u1 u2 u3 u4 u5 u6 Z0 X0 N0 e0 A_v1 (h5) (h6))
          rw [own_f4_11_0, if_pos hc73, if_pos hc75, if_neg hc77, if_neg hc80]
    · refine own_icmpYes X0 hx (hb hby d4_29) (feq hc75).2 (pc' := 51) (by decide) (by decide) ?_
      refine own_aloadN X0 hx (hb hby d4_51) (pc' := 52) rfl rfl rfl ?_
      refine own_iload X0 hx (hb hby d4_52) (pc' := 54) rfl rfl ?_
      obtain ⟨cl84, Ar84, qa84, S84, M84, H84, G84⟩ := id A_v1
      have hin84 : ¬ ((0 : Int32) < 0 ∨ cl84.slots.size ≤ ((0 : Int32)).toNatClampNeg) := inb_of S84 ⟨by decide, by decide⟩
      refine own_st ?_ (fun t k => X0.baloadBytes hx (j := (0 : Int32)) (v := (.int u1)) (by rw [e0]; exact Ar84.1) (State.isArrayOf_alike hZ.alike Ar84.2.1) Ar84.2.2 hin84 (Has.at H84 hin84 rfl) (g := (mkF m 54 #[.val (.ref v1), .val (.int v2), .val (.int v3), .val (.int (-1 : Int32)), .val (.int (0 : Int32))] [(.int (0 : Int32)), (.ref v1)])) rfl rfl (hb hby d4_54) t k)
      show own_Fin _ _ _ _ T0 (mkF m 55 #[.val (.ref v1), .val (.int v2), .val (.int v3), .val (.int (-1 : Int32)), .val (.int (0 : Int32))] [(.int u1)])
      refine own_bipush X0 hx (hb hby d4_55) (pc' := 57) rfl (v := (10 : Int32)) rfl ?_
      refine own_icmpYes X0 hx (hb hby d4_57) (feq hc75).2 (pc' := 99) (by decide) (by decide) ?_
      refine own_iinc X0 hx (hb hby d4_99) (pc' := 102) rfl (Ls' := #[.val (.ref v1), .val (.int v2), .val (.int v3), .val (.int (-1 : Int32)), .val (.int (1 : Int32))]) rfl rfl ?_
      refine own_goto X0 hx (hb hby d4_102) (pc' := 11) (by decide) (by decide) ?_
      refine own_cast ?_ (sg4_11_1 l hw hx hZ hby hml hown hnm hret hlk v1 v2 v3 kc_v1 u1 u2 u3 u4 u5 u6 Z0 X0 N0 e0 A_v1 (h5) (h6))
      rw [own_f4_11_0, if_pos hc73, if_neg hc75]
  · refine own_icmpYes X0 hx (hb hby d4_20) (flt hc73).2.1 (pc' := 105) (by decide) (by decide) ?_
    refine own_iloadN X0 hx (hb hby d4_105) (pc' := 106) rfl rfl ?_
    refine own_retI X0 hx hret hlk (hb hby d4_106) (by decide) (by decide) ?_
    show own_P _ _ _ _ T0.heap _
    exact ⟨(congrArg some (congrArg Value.int (show (-1 : Int32) = (own_f4_11_0 v2 v3 u1 u2 u3 u4 u5 u6) from by rw [own_f4_11_0, if_neg hc73]))), N0, e0⟩
set_option maxRecDepth 65536 in
set_option maxHeartbeats 40000000 in
theorem sg4_0 {p : Program} (l : Launch) {e : Env} {s : State} {m : MethodId} {args : Array Value} {below : List Frame} {meth : Method} {c : Code} {Z : State} {a0 : Array Value} (hw : ∀ d ∈ tables_1, d.before a0 Z = true) (hx : p.tables.exec = Jvm.exec) (hZ : Z.Warmed39 s.vm) (hby : c.code = prog_27_method_2_code) (hml : c.maxLocals = 5) (hown : s.vm.findClass "com/example/zhuanjie/zhuanjie/clearing/disputes/RequestHead" = some m.cls) (hnm : meth.name = "end") (hret : meth.sig.returnType = (some .int)) (hlk : meth.locks = false) (q1 : Addr) (q2 : Int32) (q3 : Int32) (kc_q1 : ClassId) (w0_q1 : Int32) (w1_q1 : Int32) (w2_q1 : Int32) (w3_q1 : Int32) (w4_q1 : Int32) (w5_q1 : Int32) {h0 : Heap} {n0 : Nat} (Z0 : n0 ≤ h0.size) {T0 : State} {L0 : List Loc} (X0 : Stand p l e ({ frames := 1, cells := 0, slots := 0, locals := 13 } : Room) s m args below meth c T0 L0 0 0) (N0 : Fr n0 L0) (e0 : T0.heap = h0) (A_q1 : Arv Z h0 q1 kc_q1 .byte (6 : Int32) [(.int w0_q1), (.int w1_q1), (.int w2_q1), (.int w3_q1), (.int w4_q1), (.int w5_q1)] (.int (0 : Int32))) (hf : 0 ≤ q2.toInt ∧ q2.toInt ≤ 7) (h5 : ¬ ((5 : Int32) < (q3 - (1 : Int32)))) (h6 : ¬ ((6 : Int32) < q3)) :
    own_Fin p.tables e below (own_End below s (own_P h0 n0 (some (.int (own_f4 q2 q3 w0_q1 w1_q1 w2_q1 w3_q1 w4_q1 w5_q1)))) 0 0) T0 (mkF m 0 #[.val (.ref q1), .val (.int q2), .val (.int q3), .unset, .unset] []) := by
  refine own_iconst X0 hx (hb hby d4_0) (pc' := 1) rfl (v := (-1 : Int32)) rfl ?_
  refine own_istoreN X0 hx (hb hby d4_1) (pc' := 2) rfl (Ls' := #[.val (.ref q1), .val (.int q2), .val (.int q3), .val (.int (-1 : Int32)), .unset]) rfl ?_
  refine own_iloadN X0 hx (hb hby d4_2) (pc' := 3) rfl rfl ?_
  refine own_iconst X0 hx (hb hby d4_3) (pc' := 4) rfl (v := (2 : Int32)) rfl ?_
  refine own_isub X0 hx (hb hby d4_4) (pc' := 5) rfl ?_
  refine own_iconst X0 hx (hb hby d4_5) (pc' := 6) rfl (v := (0 : Int32)) rfl ?_
  obtain ⟨_, _, ⟨T66, L66, k66, n66⟩, -, X66, ⟨Lc66, hQ66, l66, y66, z66⟩, st66⟩ := Jvm.LawKit.callS X0 hx (y := (⟨"java/lang/Math", "max", "(II)I"⟩ : MethodName)) hown (mvT hZ (hw _ (List.mem_of_getElem? (i := 17) rfl))) (mvT hZ (hw _ (List.mem_of_getElem? (i := 7) rfl))) (mvT hZ (hw _ (List.mem_of_getElem? (i := 8) rfl))) (mvT hZ (hw _ (List.mem_of_getElem? (i := 9) rfl))) (by decide) (backOf (W := 0) (rm2 l Z a0 hw [] (q2 - (2 : Int32)) (0 : Int32) h0 n0 Z0 ) hZ (hw _ (List.mem_of_getElem? (i := 9) rfl)) (hw _ (List.mem_of_getElem? (i := 8) rfl)) (by decide) (by decide)) (g := (mkF m 6 #[.val (.ref q1), .val (.int q2), .val (.int q3), .val (.int (-1 : Int32)), .unset] [(.int (0 : Int32)), (.int (q2 - (2 : Int32)))])) rfl (by rw [hml]; rfl) (argsL := [(.int (q2 - (2 : Int32))), (.int (0 : Int32))]) (rest := []) (lenOf pd_0 rfl) rfl (by show 2 * 0 + _ ≤ _; exact Nat.le_of_eq rfl) (hb hby d4_6) (fun _ _ => ⟨rfl, e0, (by decide : 0 + 0 ≤ _), (by decide : 0 + 0 ≤ _)⟩)
  dsimp only [Pt.U, Pt.locs, Pt.cells, Pt.slots] at X66 l66 y66 z66 st66 hQ66
  subst l66 y66 z66
  obtain ⟨rfl, N66q, e66'⟩ := hQ66
  have N66 := Fr.app N0 N66q
  refine own_st ?_ st66
  show own_Fin _ _ _ _ T66 (mkF m 9 #[.val (.ref q1), .val (.int q2), .val (.int q3), .val (.int (-1 : Int32)), .unset] [(.int (own_f2 (q2 - (2 : Int32)) (0 : Int32)))])
  refine own_istore X66 hx (hb hby d4_9) (pc' := 11) rfl (Ls' := #[.val (.ref q1), .val (.int q2), .val (.int q3), .val (.int (-1 : Int32)), .val (.int (own_f2 (q2 - (2 : Int32)) (0 : Int32)))]) rfl ?_
  by_cases hc67 : (own_f2 (q2 - (2 : Int32)) (0 : Int32)) = (0 : Int32)
  · refine own_fr (g' := (mkF m 11 #[.val (.ref q1), .val (.int q2), .val (.int q3), .val (.int (-1 : Int32)), .val (.int (0 : Int32))] [])) (by rw [hc67]) ?_
    refine own_cast ?_ (sg4_11_0 l hw hx hZ hby hml hown hnm hret hlk q1 q2 q3 kc_q1 w0_q1 w1_q1 w2_q1 w3_q1 w4_q1 w5_q1 Z0 X66 N66 e66' A_q1 (h5) (h6))
    rw [own_f4, if_pos hc67]
  · by_cases hc68 : (own_f2 (q2 - (2 : Int32)) (0 : Int32)) = (1 : Int32)
    · refine own_fr (g' := (mkF m 11 #[.val (.ref q1), .val (.int q2), .val (.int q3), .val (.int (-1 : Int32)), .val (.int (1 : Int32))] [])) (by rw [hc68]) ?_
      refine own_cast ?_ (sg4_11_1 l hw hx hZ hby hml hown hnm hret hlk q1 q2 q3 kc_q1 w0_q1 w1_q1 w2_q1 w3_q1 w4_q1 w5_q1 Z0 X66 N66 e66' A_q1 (h5) (h6))
      rw [own_f4, if_neg hc67, if_pos hc68]
    · by_cases hc69 : (own_f2 (q2 - (2 : Int32)) (0 : Int32)) = (2 : Int32)
      · refine own_fr (g' := (mkF m 11 #[.val (.ref q1), .val (.int q2), .val (.int q3), .val (.int (-1 : Int32)), .val (.int (2 : Int32))] [])) (by rw [hc69]) ?_
        refine own_cast ?_ (sg4_11_2 l hw hx hZ hby hml hown hnm hret hlk q1 q2 q3 kc_q1 w0_q1 w1_q1 w2_q1 w3_q1 w4_q1 w5_q1 Z0 X66 N66 e66' A_q1 (h5) (h6))
        rw [own_f4, if_neg hc67, if_neg hc68, if_pos hc69]
      · by_cases hc70 : (own_f2 (q2 - (2 : Int32)) (0 : Int32)) = (3 : Int32)
        · refine own_fr (g' := (mkF m 11 #[.val (.ref q1), .val (.int q2), .val (.int q3), .val (.int (-1 : Int32)), .val (.int (3 : Int32))] [])) (by rw [hc70]) ?_
          refine own_cast ?_ (sg4_11_3 l hw hx hZ hby hml hown hnm hret hlk q1 q2 q3 kc_q1 w0_q1 w1_q1 w2_q1 w3_q1 w4_q1 w5_q1 Z0 X66 N66 e66' A_q1 (h5) (h6))
          rw [own_f4, if_neg hc67, if_neg hc68, if_neg hc69, if_pos hc70]
        · by_cases hc71 : (own_f2 (q2 - (2 : Int32)) (0 : Int32)) = (4 : Int32)
          · refine own_fr (g' := (mkF m 11 #[.val (.ref q1), .val (.int q2), .val (.int q3), .val (.int (-1 : Int32)), .val (.int (4 : Int32))] [])) (by rw [hc71]) ?_
            refine own_cast ?_ (sg4_11_4 l hw hx hZ hby hml hown hnm hret hlk q1 q2 q3 kc_q1 w0_q1 w1_q1 w2_q1 w3_q1 w4_q1 w5_q1 Z0 X66 N66 e66' A_q1 (h5) (h6))
            rw [own_f4, if_neg hc67, if_neg hc68, if_neg hc69, if_neg hc70, if_pos hc71]
          · have hc72 : (own_f2 (q2 - (2 : Int32)) (0 : Int32)) = (5 : Int32) := ((((((own_mx q2 hf).resolve_left hc67).resolve_left hc68).resolve_left hc69).resolve_left hc70).resolve_left hc71)
            refine own_fr (g' := (mkF m 11 #[.val (.ref q1), .val (.int q2), .val (.int q3), .val (.int (-1 : Int32)), .val (.int (5 : Int32))] [])) (by rw [hc72]) ?_
            refine own_cast ?_ (sg4_11_5 l hw hx hZ hby hml hown hnm hret hlk q1 q2 q3 kc_q1 w0_q1 w1_q1 w2_q1 w3_q1 w4_q1 w5_q1 Z0 X66 N66 e66' A_q1 (h5) (h6))
            rw [own_f4, if_neg hc67, if_neg hc68, if_neg hc69, if_neg hc70, if_neg hc71]
theorem ef_4 (m : MethodId) (q1 : Addr) (q2 : Int32) (q3 : Int32) : entryFrame m #[(.ref q1), (.int q2), (.int q3)] 5 = mkF m 0 #[.val (.ref q1), .val (.int q2), .val (.int q3), .unset, .unset] [] := by first | (simp [entryFrame, mkF, argsToLocals, Value.category]; done) | rfl
set_option maxRecDepth 65536 in
set_option maxHeartbeats 40000000 in
theorem rm4 (l : Launch) (Z : State) (a0 : Array Value) (hw : ∀ d ∈ tables_1, d.before a0 Z = true) (ws : List Jvm.Cond) (q1 : Addr) (q2 : Int32) (q3 : Int32) (kc_q1 : ClassId) (w0_q1 : Int32) (w1_q1 : Int32) (w2_q1 : Int32) (w3_q1 : Int32) (w4_q1 : Int32) (w5_q1 : Int32) (h0 : Heap) (n0 : Nat) (Z0 : n0 ≤ h0.size) (A_q1 : Arv Z h0 q1 kc_q1 .byte (6 : Int32) [(.int w0_q1), (.int w1_q1), (.int w2_q1), (.int w3_q1), (.int w4_q1), (.int w5_q1)] (.int (0 : Int32))) (hf : 0 ≤ q2.toInt ∧ q2.toInt ≤ 7) (h5 : ¬ ((5 : Int32) < (q3 - (1 : Int32)))) (h6 : ¬ ((6 : Int32) < q3)) :
    MetFree l (⟨"com/example/zhuanjie/zhuanjie/clearing/disputes/RequestHead", "end", "([BII)I"⟩ : MethodName) (head1 (Jvm.Cond.code (⟨"com/example/zhuanjie/zhuanjie/clearing/disputes/RequestHead", "end", "([BII)I"⟩ : MethodName) prog_27_method_2_code 5 (some .int) :: ws) ({ frames := 1, cells := 0, slots := 0, locals := 13 } : Room)) (fun a U => a = #[(.ref q1), (.int q2), (.int q3)] ∧ Z.Warmed39 U.vm ∧ U.heap = h0) (fun _ _ _ _ _ => True) (fun _ U o U' => ∃ v L, o = .returned v ∧ (own_P h0 n0 (some (.int (own_f4 q2 q3 w0_q1 w1_q1 w2_q1 w3_q1 w4_q1 w5_q1)))) v U'.heap L ∧ FrameEnd U o U' L ({ frames := 1, cells := 0, slots := 0, locals := 13 } : Room).cells ({ frames := 1, cells := 0, slots := 0, locals := 13 } : Room).slots) := by
  refine MetFree.of_bodySF (plainFor_of_name pn_4) hisR ?_
  intro p e s m args below meth c s₁ Bd hml0 hP hK
  obtain ⟨rfl, hZ, hh⟩ := hP
  have hown : s.vm.findClass "com/example/zhuanjie/zhuanjie/clearing/disputes/RequestHead" = some m.cls := findClass_of_methodNamed Bd.named
  have hnm := (name_of_methodNamed Bd.named Bd.method).1
  have X0 : Stand p l e ({ frames := 1, cells := 0, slots := 0, locals := 13 } : Room) s m #[(.ref q1), (.int q2), (.int q3)] below meth c s₁ [] 0 0 := Stand.of_body Bd
  have e0 : s₁.heap = h0 := by rw [← hh, Bd.state]; rfl
  have H := sg4_0 l hw Bd.exec hZ Bd.bytes hml0 hown hnm Bd.returns Bd.notSynchronized q1 q2 q3 kc_q1 w0_q1 w1_q1 w2_q1 w3_q1 w4_q1 w5_q1 Z0 X0 (Fr.nil n0) e0 A_q1 hf h5 h6
  obtain ⟨t, h1, h2, o, h3, h4⟩ := H
  exact ⟨t, o, castTop (ef_4 m q1 q2 q3) h1, h2, h3, h4⟩
theorem own_len (x : Int32) : 0 ≤ ((x &&& (2147483647 : Int32)) - ((x &&& (2147483647 : Int32)) / (7 : Int32)) * (7 : Int32)).toInt ∧ ((x &&& (2147483647 : Int32)) - ((x &&& (2147483647 : Int32)) / (7 : Int32)) * (7 : Int32)).toInt ≤ 6 := by
  have h := own_m31 x
  have e : (7 : Int32).toInt = 7 := by decide
  rw [own_rem32 _ _ (by omega) (by omega), e]; omega
theorem own_and7 (x : Int32) : 0 ≤ (x &&& (7 : Int32)).toInt ∧ (x &&& (7 : Int32)).toInt ≤ 7 := by
  have h : (x &&& (7 : Int32)).toInt = x.toInt % 8 := Jvm.Kit.i32_mask x _ (k := 3) (by decide) (by decide)
  omega
theorem own_h5 {x : Int32} (h : 0 ≤ x.toInt ∧ x.toInt ≤ 6) : ¬ ((5 : Int32) < (x - (1 : Int32))) := by
  have e5 : (5 : Int32).toInt = 5 := by decide
  have e1 : (1 : Int32).toInt = 1 := by decide
  rw [own_lt32, Jvm.Kit.i32_sub (by omega) (by omega), e5, e1]; omega
theorem own_h6 {x : Int32} (h : 0 ≤ x.toInt ∧ x.toInt ≤ 6) : ¬ ((6 : Int32) < x) := by
  have e6 : (6 : Int32).toInt = 6 := by decide
  rw [own_lt32, e6]; omega
theorem pn_0 : plainName "com/example/zhuanjie/zhuanjie/clearing/disputes/RequestHeadEndPinLaw" = true := by first | (simp [plainName, overriddenIn]; done) | decide +kernel
def own_f0_192 (v1 : Int32) (v2 : Int64) (v3 : Int32) (v4 : Int32) (v6 : Int32) (v7 : Int32) (v8 : Int32) (v9 : Int32) (u1 : Int32) (u2 : Int32) (u3 : Int32) (u4 : Int32) (u5 : Int32) (u6 : Int32) : Int32 :=
  if (own_f4 v7 v6 u1 u2 u3 u4 u5 u6) = v9 then (1 : Int32) else
  (0 : Int32)
def own_f0_92 (v1 : Int32) (v2 : Int64) (v3 : Int32) (v4 : Int32) (v6 : Int32) (v7 : Int32) (v8 : Int32) (u1 : Int32) (u2 : Int32) (u3 : Int32) (u4 : Int32) (u5 : Int32) (u6 : Int32) : Int32 :=
  if (own_f3p2 v8 v6 u1 u2 u3 u4 u5 u6) = (0 : Int32) then (if (own_f3p3 v8 v6 u1 u2 u3 u4 u5 u6) = (0 : Int32) then (if (own_f3p4 v8 v6 u1 u2 u3 u4 u5 u6) = (0 : Int32) then (if (own_f3p5 v8 v6 u1 u2 u3 u4 u5 u6) = (0 : Int32) then (if (own_f3p6 v8 v6 u1 u2 u3 u4 u5 u6) = (0 : Int32) then (own_f0_192 v1 v2 v3 v4 v6 v7 v8 (-1 : Int32) u1 u2 u3 u4 u5 u6) else
    (own_f0_192 v1 v2 v3 v4 v6 v7 v8 (6 : Int32) u1 u2 u3 u4 u5 u6)) else
    (own_f0_192 v1 v2 v3 v4 v6 v7 v8 (5 : Int32) u1 u2 u3 u4 u5 u6)) else
    (own_f0_192 v1 v2 v3 v4 v6 v7 v8 (4 : Int32) u1 u2 u3 u4 u5 u6)) else
    (own_f0_192 v1 v2 v3 v4 v6 v7 v8 (3 : Int32) u1 u2 u3 u4 u5 u6)) else
  (own_f0_192 v1 v2 v3 v4 v6 v7 v8 (2 : Int32) u1 u2 u3 u4 u5 u6)
def own_f0 (q1 : Int32) (q2 : Int64) (q3 : Int32) (q4 : Int32) : Int32 :=
  (own_f0_92 q1 q2 q3 q4 ((q4 &&& (2147483647 : Int32)) - ((q4 &&& (2147483647 : Int32)) / (7 : Int32)) * (7 : Int32)) (q3 &&& (7 : Int32)) (own_f2 ((q3 &&& (7 : Int32)) - (2 : Int32)) (0 : Int32)) (nar .byte (own_f1 q1 q2 (0 : Int32))) (nar .byte (own_f1 q1 q2 (1 : Int32))) (nar .byte (own_f1 q1 q2 (2 : Int32))) (nar .byte (own_f1 q1 q2 (3 : Int32))) (nar .byte (own_f1 q1 q2 (4 : Int32))) (nar .byte (own_f1 q1 q2 (5 : Int32))))
set_option maxRecDepth 65536 in
set_option maxHeartbeats 40000000 in
theorem sg0_192 {p : Program} (l : Launch) {e : Env} {s : State} {m : MethodId} {args : Array Value} {below : List Frame} {meth : Method} {c : Code} {Z : State} {a0 : Array Value} (hw : ∀ d ∈ tables_1, d.before a0 Z = true) (hx : p.tables.exec = Jvm.exec) (hZ : Z.Warmed39 s.vm) (hby : c.code = code) (hml : c.maxLocals = 10) (hown : s.vm.findClass "com/example/zhuanjie/zhuanjie/clearing/disputes/RequestHeadEndPinLaw" = some m.cls) (hnm : meth.name = "law") (hret : meth.sig.returnType = (some .boolean)) (hlk : meth.locks = false) (v1 : Int32) (v2 : Int64) (v3 : Int32) (v4 : Int32) (v5 : Addr) (v6 : Int32) (v7 : Int32) (v8 : Int32) (v9 : Int32) (kc_v5 : ClassId) (u1 : Int32) (u2 : Int32) (u3 : Int32) (u4 : Int32) (u5 : Int32) (u6 : Int32) {h0 : Heap} {n0 : Nat} (Z0 : n0 ≤ h0.size) {T0 : State} {L0 : List Loc} (X0 : Stand p l e room_1 s m args below meth c T0 L0 1 6) (N0 : Fr n0 L0) (e0 : T0.heap = h0) (A_v5 : Arv Z h0 v5 kc_v5 .byte (6 : Int32) [(.int u1), (.int u2), (.int u3), (.int u4), (.int u5), (.int u6)] (.int (0 : Int32))) (g_v5 : n0 ≤ v5) (hl : 0 ≤ v6.toInt ∧ v6.toInt ≤ 6) (hf : 0 ≤ v7.toInt ∧ v7.toInt ≤ 7) :
    own_Fin p.tables e below (own_End below s (own_L n0 (.int (own_f0_192 v1 v2 v3 v4 v6 v7 v8 v9 u1 u2 u3 u4 u5 u6))) 1 6) T0 (mkF m 192 #[.val (.int v1), .val (.long v2), .second, .val (.int v3), .val (.int v4), .val (.ref v5), .val (.int v6), .val (.int v7), .val (.int v8), .val (.int v9)] []) := by
  refine own_aload X0 hx (hb hby at_192) (pc' := 194) rfl rfl rfl ?_
  refine own_iload X0 hx (hb hby at_194) (pc' := 196) rfl rfl ?_
  refine own_iload X0 hx (hb hby at_196) (pc' := 198) rfl rfl ?_
  obtain ⟨_, _, ⟨T154, L154, k154, n154⟩, -, X154, ⟨Lc154, hQ154, l154, y154, z154⟩, st154⟩ := Jvm.LawKit.callS X0 hx (y := (⟨"com/example/zhuanjie/zhuanjie/clearing/disputes/RequestHead", "end", "([BII)I"⟩ : MethodName)) hown (mvT hZ (hw _ (List.mem_of_getElem? (i := 13) rfl))) (mvT hZ (hw _ (List.mem_of_getElem? (i := 14) rfl))) (mvT hZ (hw _ (List.mem_of_getElem? (i := 15) rfl))) (mvT hZ (hw _ (List.mem_of_getElem? (i := 16) rfl))) (by decide) (backOf (W := 0) (rm4 l Z a0 hw [] v5 v7 v6 kc_v5 u1 u2 u3 u4 u5 u6 h0 n0 Z0 A_v5 hf (own_h5 hl) (own_h6 hl)) hZ (hw _ (List.mem_of_getElem? (i := 16) rfl)) (hw _ (List.mem_of_getElem? (i := 15) rfl)) (by decide) (by decide)) (g := (mkF m 198 #[.val (.int v1), .val (.long v2), .second, .val (.int v3), .val (.int v4), .val (.ref v5), .val (.int v6), .val (.int v7), .val (.int v8), .val (.int v9)] [(.int v6), (.int v7), (.ref v5)])) rfl (by rw [hml]; rfl) (argsL := [(.ref v5), (.int v7), (.int v6)]) (rest := []) (lenOf pd_3 rfl) rfl (by show 2 * 0 + _ ≤ _; exact Nat.le_of_eq rfl) (hb hby at_198) (fun _ _ => ⟨rfl, e0, (by decide : 1 + 0 ≤ _), (by decide : 6 + 0 ≤ _)⟩)
  dsimp only [Pt.U, Pt.locs, Pt.cells, Pt.slots] at X154 l154 y154 z154 st154 hQ154
  subst l154 y154 z154
  obtain ⟨rfl, N154q, e154'⟩ := hQ154
  have N154 := Fr.app N0 N154q
  refine own_st ?_ st154
  show own_Fin _ _ _ _ T154 (mkF m 201 #[.val (.int v1), .val (.long v2), .second, .val (.int v3), .val (.int v4), .val (.ref v5), .val (.int v6), .val (.int v7), .val (.int v8), .val (.int v9)] [(.int (own_f4 v7 v6 u1 u2 u3 u4 u5 u6))])
  refine own_iload X154 hx (hb hby at_201) (pc' := 203) rfl rfl ?_
  by_cases hc155 : (own_f4 v7 v6 u1 u2 u3 u4 u5 u6) = v9
  · refine own_icmpNo X154 hx (hb hby at_203) (pc' := 206) rfl (teq hc155).2 ?_
    refine own_iconst X154 hx (hb hby at_206) (pc' := 207) rfl (v := (1 : Int32)) rfl ?_
    refine own_goto X154 hx (hb hby at_207) (pc' := 211) (by decide) (by decide) ?_
    refine own_retN X154 hx (t := .boolean) hret (by simp) hlk (hb hby at_211) (by decide) (by decide) ?_
    exact ⟨(congrArg some (congrArg Value.int (show _ = (own_f0_192 v1 v2 v3 v4 v6 v7 v8 v9 u1 u2 u3 u4 u5 u6) from by rw [own_f0_192, if_pos hc155]; rfl))), N154⟩
  · refine own_icmpYes X154 hx (hb hby at_203) (feq hc155).2 (pc' := 210) (by decide) (by decide) ?_
    refine own_iconst X154 hx (hb hby at_210) (pc' := 211) rfl (v := (0 : Int32)) rfl ?_
    refine own_retN X154 hx (t := .boolean) hret (by simp) hlk (hb hby at_211) (by decide) (by decide) ?_
    exact ⟨(congrArg some (congrArg Value.int (show _ = (own_f0_192 v1 v2 v3 v4 v6 v7 v8 v9 u1 u2 u3 u4 u5 u6) from by rw [own_f0_192, if_neg hc155]; rfl))), N154⟩
set_option maxRecDepth 65536 in
set_option maxHeartbeats 40000000 in
theorem sg0_92 {p : Program} (l : Launch) {e : Env} {s : State} {m : MethodId} {args : Array Value} {below : List Frame} {meth : Method} {c : Code} {Z : State} {a0 : Array Value} (hw : ∀ d ∈ tables_1, d.before a0 Z = true) (hx : p.tables.exec = Jvm.exec) (hZ : Z.Warmed39 s.vm) (hby : c.code = code) (hml : c.maxLocals = 10) (hown : s.vm.findClass "com/example/zhuanjie/zhuanjie/clearing/disputes/RequestHeadEndPinLaw" = some m.cls) (hnm : meth.name = "law") (hret : meth.sig.returnType = (some .boolean)) (hlk : meth.locks = false) (v1 : Int32) (v2 : Int64) (v3 : Int32) (v4 : Int32) (v5 : Addr) (v6 : Int32) (v7 : Int32) (v8 : Int32) (kc_v5 : ClassId) (u1 : Int32) (u2 : Int32) (u3 : Int32) (u4 : Int32) (u5 : Int32) (u6 : Int32) {h0 : Heap} {n0 : Nat} (Z0 : n0 ≤ h0.size) {T0 : State} {L0 : List Loc} (X0 : Stand p l e room_1 s m args below meth c T0 L0 1 6) (N0 : Fr n0 L0) (e0 : T0.heap = h0) (A_v5 : Arv Z h0 v5 kc_v5 .byte (6 : Int32) [(.int u1), (.int u2), (.int u3), (.int u4), (.int u5), (.int u6)] (.int (0 : Int32))) (g_v5 : n0 ≤ v5) (hl : 0 ≤ v6.toInt ∧ v6.toInt ≤ 6) (hf : 0 ≤ v7.toInt ∧ v7.toInt ≤ 7) :
    own_Fin p.tables e below (own_End below s (own_L n0 (.int (own_f0_92 v1 v2 v3 v4 v6 v7 v8 u1 u2 u3 u4 u5 u6))) 1 6) T0 (mkF m 92 #[.val (.int v1), .val (.long v2), .second, .val (.int v3), .val (.int v4), .val (.ref v5), .val (.int v6), .val (.int v7), .val (.int v8), .unset] []) := by
  refine own_aload X0 hx (hb hby at_92) (pc' := 94) rfl rfl rfl ?_
  refine own_iconst X0 hx (hb hby at_94) (pc' := 95) rfl (v := (2 : Int32)) rfl ?_
  refine own_iload X0 hx (hb hby at_95) (pc' := 97) rfl rfl ?_
  refine own_iload X0 hx (hb hby at_97) (pc' := 99) rfl rfl ?_
  obtain ⟨_, _, ⟨T144, L144, k144, n144⟩, -, X144, ⟨Lc144, hQ144, l144, y144, z144⟩, st144⟩ := Jvm.LawKit.callS X0 hx (y := (⟨"com/example/zhuanjie/zhuanjie/clearing/disputes/RequestHeadEndPinLaw", "endsAt", "([BIII)Z"⟩ : MethodName)) hown (mvT hZ (hw _ (List.mem_of_getElem? (i := 10) rfl))) (mvT hZ (hw _ (List.mem_of_getElem? (i := 11) rfl))) (mvT hZ (hw _ (List.mem_of_getElem? (i := 3) rfl))) (mvT hZ (hw _ (List.mem_of_getElem? (i := 12) rfl))) (by decide) (backOf (W := 0) (rm3p2 l Z a0 hw [] v5 v8 v6 kc_v5 u1 u2 u3 u4 u5 u6 h0 n0 Z0 A_v5) hZ (hw _ (List.mem_of_getElem? (i := 12) rfl)) (hw _ (List.mem_of_getElem? (i := 3) rfl)) (by decide) (by decide)) (g := (mkF m 99 #[.val (.int v1), .val (.long v2), .second, .val (.int v3), .val (.int v4), .val (.ref v5), .val (.int v6), .val (.int v7), .val (.int v8), .unset] [(.int v6), (.int v8), (.int (2 : Int32)), (.ref v5)])) rfl (by rw [hml]; rfl) (argsL := [(.ref v5), (.int (2 : Int32)), (.int v8), (.int v6)]) (rest := []) (lenOf pd_2 rfl) rfl (by show 2 * 0 + _ ≤ _; exact Nat.le_of_eq rfl) (hb hby at_99) (fun _ _ => ⟨rfl, e0, (by decide : 1 + 0 ≤ _), (by decide : 6 + 0 ≤ _)⟩)
  dsimp only [Pt.U, Pt.locs, Pt.cells, Pt.slots] at X144 l144 y144 z144 st144 hQ144
  subst l144 y144 z144
  obtain ⟨rfl, N144q, e144'⟩ := hQ144
  have N144 := Fr.app N0 N144q
  refine own_st ?_ st144
  show own_Fin _ _ _ _ T144 (mkF m 102 #[.val (.int v1), .val (.long v2), .second, .val (.int v3), .val (.int v4), .val (.ref v5), .val (.int v6), .val (.int v7), .val (.int v8), .unset] [(.int (own_f3p2 v8 v6 u1 u2 u3 u4 u5 u6))])
  by_cases hc145 : (own_f3p2 v8 v6 u1 u2 u3 u4 u5 u6) = (0 : Int32)
  · refine own_ifYes X144 hx (hb hby at_102) ((if0 _ _).trans (teq hc145).1) (pc' := 111) (by decide) (by decide) ?_
    refine own_aload X144 hx (hb hby at_111) (pc' := 113) rfl rfl rfl ?_
    refine own_iconst X144 hx (hb hby at_113) (pc' := 114) rfl (v := (3 : Int32)) rfl ?_
    refine own_iload X144 hx (hb hby at_114) (pc' := 116) rfl rfl ?_
    refine own_iload X144 hx (hb hby at_116) (pc' := 118) rfl rfl ?_
    obtain ⟨_, _, ⟨T146, L146, k146, n146⟩, -, X146, ⟨Lc146, hQ146, l146, y146, z146⟩, st146⟩ := Jvm.LawKit.callS X144 hx (y := (⟨"com/example/zhuanjie/zhuanjie/clearing/disputes/RequestHeadEndPinLaw", "endsAt", "([BIII)Z"⟩ : MethodName)) hown (mvT hZ (hw _ (List.mem_of_getElem? (i := 10) rfl))) (mvT hZ (hw _ (List.mem_of_getElem? (i := 11) rfl))) (mvT hZ (hw _ (List.mem_of_getElem? (i := 3) rfl))) (mvT hZ (hw _ (List.mem_of_getElem? (i := 12) rfl))) (by decide) (backOf (W := 0) (rm3p3 l Z a0 hw [] v5 v8 v6 kc_v5 u1 u2 u3 u4 u5 u6 h0 n0 Z0 A_v5) hZ (hw _ (List.mem_of_getElem? (i := 12) rfl)) (hw _ (List.mem_of_getElem? (i := 3) rfl)) (by decide) (by decide)) (g := (mkF m 118 #[.val (.int v1), .val (.long v2), .second, .val (.int v3), .val (.int v4), .val (.ref v5), .val (.int v6), .val (.int v7), .val (.int v8), .unset] [(.int v6), (.int v8), (.int (3 : Int32)), (.ref v5)])) rfl (by rw [hml]; rfl) (argsL := [(.ref v5), (.int (3 : Int32)), (.int v8), (.int v6)]) (rest := []) (lenOf pd_2 rfl) rfl (by show 2 * 0 + _ ≤ _; exact Nat.le_of_eq rfl) (hb hby at_118) (fun _ _ => ⟨rfl, e144', (by decide : 1 + 0 ≤ _), (by decide : 6 + 0 ≤ _)⟩)
    dsimp only [Pt.U, Pt.locs, Pt.cells, Pt.slots] at X146 l146 y146 z146 st146 hQ146
    subst l146 y146 z146
    obtain ⟨rfl, N146q, e146'⟩ := hQ146
    have N146 := Fr.app N144 N146q
    refine own_st ?_ st146
    show own_Fin _ _ _ _ T146 (mkF m 121 #[.val (.int v1), .val (.long v2), .second, .val (.int v3), .val (.int v4), .val (.ref v5), .val (.int v6), .val (.int v7), .val (.int v8), .unset] [(.int (own_f3p3 v8 v6 u1 u2 u3 u4 u5 u6))])
    by_cases hc147 : (own_f3p3 v8 v6 u1 u2 u3 u4 u5 u6) = (0 : Int32)
    · refine own_ifYes X146 hx (hb hby at_121) ((if0 _ _).trans (teq hc147).1) (pc' := 130) (by decide) (by decide) ?_
      refine own_aload X146 hx (hb hby at_130) (pc' := 132) rfl rfl rfl ?_
      refine own_iconst X146 hx (hb hby at_132) (pc' := 133) rfl (v := (4 : Int32)) rfl ?_
      refine own_iload X146 hx (hb hby at_133) (pc' := 135) rfl rfl ?_
      refine own_iload X146 hx (hb hby at_135) (pc' := 137) rfl rfl ?_
      obtain ⟨_, _, ⟨T148, L148, k148, n148⟩, -, X148, ⟨Lc148, hQ148, l148, y148, z148⟩, st148⟩ := Jvm.LawKit.callS X146 hx (y := (⟨"com/example/zhuanjie/zhuanjie/clearing/disputes/RequestHeadEndPinLaw", "endsAt", "([BIII)Z"⟩ : MethodName)) hown (mvT hZ (hw _ (List.mem_of_getElem? (i := 10) rfl))) (mvT hZ (hw _ (List.mem_of_getElem? (i := 11) rfl))) (mvT hZ (hw _ (List.mem_of_getElem? (i := 3) rfl))) (mvT hZ (hw _ (List.mem_of_getElem? (i := 12) rfl))) (by decide) (backOf (W := 0) (rm3p4 l Z a0 hw [] v5 v8 v6 kc_v5 u1 u2 u3 u4 u5 u6 h0 n0 Z0 A_v5) hZ (hw _ (List.mem_of_getElem? (i := 12) rfl)) (hw _ (List.mem_of_getElem? (i := 3) rfl)) (by decide) (by decide)) (g := (mkF m 137 #[.val (.int v1), .val (.long v2), .second, .val (.int v3), .val (.int v4), .val (.ref v5), .val (.int v6), .val (.int v7), .val (.int v8), .unset] [(.int v6), (.int v8), (.int (4 : Int32)), (.ref v5)])) rfl (by rw [hml]; rfl) (argsL := [(.ref v5), (.int (4 : Int32)), (.int v8), (.int v6)]) (rest := []) (lenOf pd_2 rfl) rfl (by show 2 * 0 + _ ≤ _; exact Nat.le_of_eq rfl) (hb hby at_137) (fun _ _ => ⟨rfl, e146', (by decide : 1 + 0 ≤ _), (by decide : 6 + 0 ≤ _)⟩)
      dsimp only [Pt.U, Pt.locs, Pt.cells, Pt.slots] at X148 l148 y148 z148 st148 hQ148
      subst l148 y148 z148
      obtain ⟨rfl, N148q, e148'⟩ := hQ148
      have N148 := Fr.app N146 N148q
      refine own_st ?_ st148
      show own_Fin _ _ _ _ T148 (mkF m 140 #[.val (.int v1), .val (.long v2), .second, .val (.int v3), .val (.int v4), .val (.ref v5), .val (.int v6), .val (.int v7), .val (.int v8), .unset] [(.int (own_f3p4 v8 v6 u1 u2 u3 u4 u5 u6))])
      by_cases hc149 : (own_f3p4 v8 v6 u1 u2 u3 u4 u5 u6) = (0 : Int32)
      · refine own_ifYes X148 hx (hb hby at_140) ((if0 _ _).trans (teq hc149).1) (pc' := 149) (by decide) (by decide) ?_
        refine own_aload X148 hx (hb hby at_149) (pc' := 151) rfl rfl rfl ?_
        refine own_iconst X148 hx (hb hby at_151) (pc' := 152) rfl (v := (5 : Int32)) rfl ?_
        refine own_iload X148 hx (hb hby at_152) (pc' := 154) rfl rfl ?_
        refine own_iload X148 hx (hb hby at_154) (pc' := 156) rfl rfl ?_
        obtain ⟨_, _, ⟨T150, L150, k150, n150⟩, -, X150, ⟨Lc150, hQ150, l150, y150, z150⟩, st150⟩ := Jvm.LawKit.callS X148 hx (y := (⟨"com/example/zhuanjie/zhuanjie/clearing/disputes/RequestHeadEndPinLaw", "endsAt", "([BIII)Z"⟩ : MethodName)) hown (mvT hZ (hw _ (List.mem_of_getElem? (i := 10) rfl))) (mvT hZ (hw _ (List.mem_of_getElem? (i := 11) rfl))) (mvT hZ (hw _ (List.mem_of_getElem? (i := 3) rfl))) (mvT hZ (hw _ (List.mem_of_getElem? (i := 12) rfl))) (by decide) (backOf (W := 0) (rm3p5 l Z a0 hw [] v5 v8 v6 kc_v5 u1 u2 u3 u4 u5 u6 h0 n0 Z0 A_v5) hZ (hw _ (List.mem_of_getElem? (i := 12) rfl)) (hw _ (List.mem_of_getElem? (i := 3) rfl)) (by decide) (by decide)) (g := (mkF m 156 #[.val (.int v1), .val (.long v2), .second, .val (.int v3), .val (.int v4), .val (.ref v5), .val (.int v6), .val (.int v7), .val (.int v8), .unset] [(.int v6), (.int v8), (.int (5 : Int32)), (.ref v5)])) rfl (by rw [hml]; rfl) (argsL := [(.ref v5), (.int (5 : Int32)), (.int v8), (.int v6)]) (rest := []) (lenOf pd_2 rfl) rfl (by show 2 * 0 + _ ≤ _; exact Nat.le_of_eq rfl) (hb hby at_156) (fun _ _ => ⟨rfl, e148', (by decide : 1 + 0 ≤ _), (by decide : 6 + 0 ≤ _)⟩)
        dsimp only [Pt.U, Pt.locs, Pt.cells, Pt.slots] at X150 l150 y150 z150 st150 hQ150
        subst l150 y150 z150
        obtain ⟨rfl, N150q, e150'⟩ := hQ150
        have N150 := Fr.app N148 N150q
        refine own_st ?_ st150
        show own_Fin _ _ _ _ T150 (mkF m 159 #[.val (.int v1), .val (.long v2), .second, .val (.int v3), .val (.int v4), .val (.ref v5), .val (.int v6), .val (.int v7), .val (.int v8), .unset] [(.int (own_f3p5 v8 v6 u1 u2 u3 u4 u5 u6))])
        by_cases hc151 : (own_f3p5 v8 v6 u1 u2 u3 u4 u5 u6) = (0 : Int32)
        · refine own_ifYes X150 hx (hb hby at_159) ((if0 _ _).trans (teq hc151).1) (pc' := 168) (by decide) (by decide) ?_
          refine own_aload X150 hx (hb hby at_168) (pc' := 170) rfl rfl rfl ?_
          refine own_bipush X150 hx (hb hby at_170) (pc' := 172) rfl (v := (6 : Int32)) rfl ?_
          refine own_iload X150 hx (hb hby at_172) (pc' := 174) rfl rfl ?_
          refine own_iload X150 hx (hb hby at_174) (pc' := 176) rfl rfl ?_
          obtain ⟨_, _, ⟨T152, L152, k152, n152⟩, -, X152, ⟨Lc152, hQ152, l152, y152, z152⟩, st152⟩ := Jvm.LawKit.callS X150 hx (y := (⟨"com/example/zhuanjie/zhuanjie/clearing/disputes/RequestHeadEndPinLaw", "endsAt", "([BIII)Z"⟩ : MethodName)) hown (mvT hZ (hw _ (List.mem_of_getElem? (i := 10) rfl))) (mvT hZ (hw _ (List.mem_of_getElem? (i := 11) rfl))) (mvT hZ (hw _ (List.mem_of_getElem? (i := 3) rfl))) (mvT hZ (hw _ (List.mem_of_getElem? (i := 12) rfl))) (by decide) (backOf (W := 0) (rm3p6 l Z a0 hw [] v5 v8 v6 kc_v5 u1 u2 u3 u4 u5 u6 h0 n0 Z0 A_v5) hZ (hw _ (List.mem_of_getElem? (i := 12) rfl)) (hw _ (List.mem_of_getElem? (i := 3) rfl)) (by decide) (by decide)) (g := (mkF m 176 #[.val (.int v1), .val (.long v2), .second, .val (.int v3), .val (.int v4), .val (.ref v5), .val (.int v6), .val (.int v7), .val (.int v8), .unset] [(.int v6), (.int v8), (.int (6 : Int32)), (.ref v5)])) rfl (by rw [hml]; rfl) (argsL := [(.ref v5), (.int (6 : Int32)), (.int v8), (.int v6)]) (rest := []) (lenOf pd_2 rfl) rfl (by show 2 * 0 + _ ≤ _; exact Nat.le_of_eq rfl) (hb hby at_176) (fun _ _ => ⟨rfl, e150', (by decide : 1 + 0 ≤ _), (by decide : 6 + 0 ≤ _)⟩)
          dsimp only [Pt.U, Pt.locs, Pt.cells, Pt.slots] at X152 l152 y152 z152 st152 hQ152
          subst l152 y152 z152
          obtain ⟨rfl, N152q, e152'⟩ := hQ152
          have N152 := Fr.app N150 N152q
          refine own_st ?_ st152
          show own_Fin _ _ _ _ T152 (mkF m 179 #[.val (.int v1), .val (.long v2), .second, .val (.int v3), .val (.int v4), .val (.ref v5), .val (.int v6), .val (.int v7), .val (.int v8), .unset] [(.int (own_f3p6 v8 v6 u1 u2 u3 u4 u5 u6))])
          by_cases hc153 : (own_f3p6 v8 v6 u1 u2 u3 u4 u5 u6) = (0 : Int32)
          · refine own_ifYes X152 hx (hb hby at_179) ((if0 _ _).trans (teq hc153).1) (pc' := 189) (by decide) (by decide) ?_
            refine own_iconst X152 hx (hb hby at_189) (pc' := 190) rfl (v := (-1 : Int32)) rfl ?_
            refine own_istore X152 hx (hb hby at_190) (pc' := 192) rfl (Ls' := #[.val (.int v1), .val (.long v2), .second, .val (.int v3), .val (.int v4), .val (.ref v5), .val (.int v6), .val (.int v7), .val (.int v8), .val (.int (-1 : Int32))]) rfl ?_
            refine own_cast ?_ (sg0_192 l hw hx hZ hby hml hown hnm hret hlk v1 v2 v3 v4 v5 v6 v7 v8 (-1 : Int32) kc_v5 u1 u2 u3 u4 u5 u6 Z0 X152 N152 e152' A_v5 g_v5 (hl) (hf))
            rw [own_f0_92, if_pos hc145, if_pos hc147, if_pos hc149, if_pos hc151, if_pos hc153]
          · refine own_ifNo X152 hx (hb hby at_179) (pc' := 182) rfl ((if0 _ _).trans (feq hc153).1) ?_
            refine own_bipush X152 hx (hb hby at_182) (pc' := 184) rfl (v := (6 : Int32)) rfl ?_
            refine own_istore X152 hx (hb hby at_184) (pc' := 186) rfl (Ls' := #[.val (.int v1), .val (.long v2), .second, .val (.int v3), .val (.int v4), .val (.ref v5), .val (.int v6), .val (.int v7), .val (.int v8), .val (.int (6 : Int32))]) rfl ?_
            refine own_goto X152 hx (hb hby at_186) (pc' := 192) (by decide) (by decide) ?_
            refine own_cast ?_ (sg0_192 l hw hx hZ hby hml hown hnm hret hlk v1 v2 v3 v4 v5 v6 v7 v8 (6 : Int32) kc_v5 u1 u2 u3 u4 u5 u6 Z0 X152 N152 e152' A_v5 g_v5 (hl) (hf))
            rw [own_f0_92, if_pos hc145, if_pos hc147, if_pos hc149, if_pos hc151, if_neg hc153]
        · refine own_ifNo X150 hx (hb hby at_159) (pc' := 162) rfl ((if0 _ _).trans (feq hc151).1) ?_
          refine own_iconst X150 hx (hb hby at_162) (pc' := 163) rfl (v := (5 : Int32)) rfl ?_
          refine own_istore X150 hx (hb hby at_163) (pc' := 165) rfl (Ls' := #[.val (.int v1), .val (.long v2), .second, .val (.int v3), .val (.int v4), .val (.ref v5), .val (.int v6), .val (.int v7), .val (.int v8), .val (.int (5 : Int32))]) rfl ?_
          refine own_goto X150 hx (hb hby at_165) (pc' := 192) (by decide) (by decide) ?_
          refine own_cast ?_ (sg0_192 l hw hx hZ hby hml hown hnm hret hlk v1 v2 v3 v4 v5 v6 v7 v8 (5 : Int32) kc_v5 u1 u2 u3 u4 u5 u6 Z0 X150 N150 e150' A_v5 g_v5 (hl) (hf))
          rw [own_f0_92, if_pos hc145, if_pos hc147, if_pos hc149, if_neg hc151]
      · refine own_ifNo X148 hx (hb hby at_140) (pc' := 143) rfl ((if0 _ _).trans (feq hc149).1) ?_
        refine own_iconst X148 hx (hb hby at_143) (pc' := 144) rfl (v := (4 : Int32)) rfl ?_
        refine own_istore X148 hx (hb hby at_144) (pc' := 146) rfl (Ls' := #[.val (.int v1), .val (.long v2), .second, .val (.int v3), .val (.int v4), .val (.ref v5), .val (.int v6), .val (.int v7), .val (.int v8), .val (.int (4 : Int32))]) rfl ?_
        refine own_goto X148 hx (hb hby at_146) (pc' := 192) (by decide) (by decide) ?_
        refine own_cast ?_ (sg0_192 l hw hx hZ hby hml hown hnm hret hlk v1 v2 v3 v4 v5 v6 v7 v8 (4 : Int32) kc_v5 u1 u2 u3 u4 u5 u6 Z0 X148 N148 e148' A_v5 g_v5 (hl) (hf))
        rw [own_f0_92, if_pos hc145, if_pos hc147, if_neg hc149]
    · refine own_ifNo X146 hx (hb hby at_121) (pc' := 124) rfl ((if0 _ _).trans (feq hc147).1) ?_
      refine own_iconst X146 hx (hb hby at_124) (pc' := 125) rfl (v := (3 : Int32)) rfl ?_
      refine own_istore X146 hx (hb hby at_125) (pc' := 127) rfl (Ls' := #[.val (.int v1), .val (.long v2), .second, .val (.int v3), .val (.int v4), .val (.ref v5), .val (.int v6), .val (.int v7), .val (.int v8), .val (.int (3 : Int32))]) rfl ?_
      refine own_goto X146 hx (hb hby at_127) (pc' := 192) (by decide) (by decide) ?_
      refine own_cast ?_ (sg0_192 l hw hx hZ hby hml hown hnm hret hlk v1 v2 v3 v4 v5 v6 v7 v8 (3 : Int32) kc_v5 u1 u2 u3 u4 u5 u6 Z0 X146 N146 e146' A_v5 g_v5 (hl) (hf))
      rw [own_f0_92, if_pos hc145, if_neg hc147]
  · refine own_ifNo X144 hx (hb hby at_102) (pc' := 105) rfl ((if0 _ _).trans (feq hc145).1) ?_
    refine own_iconst X144 hx (hb hby at_105) (pc' := 106) rfl (v := (2 : Int32)) rfl ?_
    refine own_istore X144 hx (hb hby at_106) (pc' := 108) rfl (Ls' := #[.val (.int v1), .val (.long v2), .second, .val (.int v3), .val (.int v4), .val (.ref v5), .val (.int v6), .val (.int v7), .val (.int v8), .val (.int (2 : Int32))]) rfl ?_
    refine own_goto X144 hx (hb hby at_108) (pc' := 192) (by decide) (by decide) ?_
    refine own_cast ?_ (sg0_192 l hw hx hZ hby hml hown hnm hret hlk v1 v2 v3 v4 v5 v6 v7 v8 (2 : Int32) kc_v5 u1 u2 u3 u4 u5 u6 Z0 X144 N144 e144' A_v5 g_v5 (hl) (hf))
    rw [own_f0_92, if_neg hc145]
set_option maxRecDepth 65536 in
set_option maxHeartbeats 40000000 in
theorem sg0_0 {p : Program} (l : Launch) {e : Env} {s : State} {m : MethodId} {args : Array Value} {below : List Frame} {meth : Method} {c : Code} {Z : State} {a0 : Array Value} (hw : ∀ d ∈ tables_1, d.before a0 Z = true) (hx : p.tables.exec = Jvm.exec) (hZ : Z.Warmed39 s.vm) (hby : c.code = code) (hml : c.maxLocals = 10) (hown : s.vm.findClass "com/example/zhuanjie/zhuanjie/clearing/disputes/RequestHeadEndPinLaw" = some m.cls) (hnm : meth.name = "law") (hret : meth.sig.returnType = (some .boolean)) (hlk : meth.locks = false) (q1 : Int32) (q2 : Int64) (q3 : Int32) (q4 : Int32) {h0 : Heap} {n0 : Nat} (Z0 : n0 ≤ h0.size) {T0 : State} {L0 : List Loc} (X0 : Stand p l e room_1 s m args below meth c T0 L0 0 0) (N0 : Fr n0 L0) (e0 : T0.heap = h0)  :
    own_Fin p.tables e below (own_End below s (own_L n0 (.int (own_f0 q1 q2 q3 q4))) 1 6) T0 (mkF m 0 #[.val (.int q1), .val (.long q2), .second, .val (.int q3), .val (.int q4), .unset, .unset, .unset, .unset, .unset] []) := by
  refine own_bipush X0 hx (hb hby at_0) (pc' := 2) rfl (v := (6 : Int32)) rfl ?_
  obtain ⟨T130, h130, k130, X130, e130, E130, A130, st130⟩ := newP X0 hx hZ (hw _ (List.mem_of_getElem? (i := 0) rfl)) e0 (g := (mkF m 2 #[.val (.int q1), .val (.long q2), .second, .val (.int q3), .val (.int q4), .unset, .unset, .unset, .unset, .unset] [(.int (6 : Int32))])) rfl (hb hby at_2) rfl (by decide) (cap := 6) (by decide) (by decide) (by decide) (by decide)
  obtain ⟨b130, g130⟩ : ∃ z, z = h0.size := ⟨_, rfl⟩
  rw [← g130] at A130 st130
  have g_b130 : n0 ≤ b130 := Nat.le_trans Z0 (Nat.le_of_eq g130.symm)
  have A_b130_130 : Arv Z h130 b130 k130 .byte (6 : Int32) [(.int (0 : Int32)), (.int (0 : Int32)), (.int (0 : Int32)), (.int (0 : Int32)), (.int (0 : Int32)), (.int (0 : Int32))] (.int (0 : Int32)) := (Arv.new A130 (by decide)).pad (pad_rep [] (.int (0 : Int32)) 6)
  have sz130 : n0 ≤ h130.size := Nat.le_trans Z0 E130.1
  refine own_st ?_ st130
  show own_Fin _ _ _ _ T130 (mkF m 4 #[.val (.int q1), .val (.long q2), .second, .val (.int q3), .val (.int q4), .unset, .unset, .unset, .unset, .unset] [(.ref b130)])
  refine own_astore X130 hx (hb hby at_4) (pc' := 6) rfl (Ls' := #[.val (.int q1), .val (.long q2), .second, .val (.int q3), .val (.int q4), .val (.ref b130), .unset, .unset, .unset, .unset]) rfl rfl ?_
  refine own_aload X130 hx (hb hby at_6) (pc' := 8) rfl rfl rfl ?_
  refine own_iconst X130 hx (hb hby at_8) (pc' := 9) rfl (v := (0 : Int32)) rfl ?_
  refine own_iloadN X130 hx (hb hby at_9) (pc' := 10) rfl rfl ?_
  refine own_lloadN X130 hx (hb hby at_10) (pc' := 11) rfl rfl ?_
  refine own_iconst X130 hx (hb hby at_11) (pc' := 12) rfl (v := (0 : Int32)) rfl ?_
  obtain ⟨_, _, ⟨T131, L131, k131, n131⟩, -, X131, ⟨Lc131, hQ131, l131, y131, z131⟩, st131⟩ := Jvm.LawKit.callS X130 hx (y := (⟨"com/example/zhuanjie/zhuanjie/clearing/disputes/RequestHeadEndPinLaw", "pick", "(IJI)B"⟩ : MethodName)) hown (mvT hZ (hw _ (List.mem_of_getElem? (i := 1) rfl))) (mvT hZ (hw _ (List.mem_of_getElem? (i := 2) rfl))) (mvT hZ (hw _ (List.mem_of_getElem? (i := 3) rfl))) (mvT hZ (hw _ (List.mem_of_getElem? (i := 4) rfl))) (by decide) (backOf (W := 2) (rm1 l Z a0 hw [] q1 q2 (0 : Int32) h130 n0 sz130 ) hZ (hw _ (List.mem_of_getElem? (i := 4) rfl)) (hw _ (List.mem_of_getElem? (i := 3) rfl)) (by decide) (by decide)) (g := (mkF m 12 #[.val (.int q1), .val (.long q2), .second, .val (.int q3), .val (.int q4), .val (.ref b130), .unset, .unset, .unset, .unset] [(.int (0 : Int32)), (.long q2), (.int q1), (.int (0 : Int32)), (.ref b130)])) rfl (by rw [hml]; rfl) (argsL := [(.int q1), (.long q2), (.int (0 : Int32))]) (rest := [(.int (0 : Int32)), (.ref b130)]) (lenOf pd_1 rfl) rfl (by show 2 * 0 + _ ≤ _; exact Nat.le_of_eq rfl) (hb hby at_12) (fun _ _ => ⟨rfl, e130, (by decide : 1 + 0 ≤ _), (by decide : 6 + 0 ≤ _)⟩)
  dsimp only [Pt.U, Pt.locs, Pt.cells, Pt.slots] at X131 l131 y131 z131 st131 hQ131
  subst l131 y131 z131
  obtain ⟨rfl, N131q, e131'⟩ := hQ131
  have N131 := Fr.app N0 N131q
  refine own_st ?_ st131
  show own_Fin _ _ _ _ T131 (mkF m 15 #[.val (.int q1), .val (.long q2), .second, .val (.int q3), .val (.int q4), .val (.ref b130), .unset, .unset, .unset, .unset] [(.int (own_f1 q1 q2 (0 : Int32))), (.int (0 : Int32)), (.ref b130)])
  obtain ⟨cl132, Ar132, qa132, S132, M132, H132, G132⟩ := id A_b130_130
  have hin132 : ¬ ((0 : Int32) < 0 ∨ cl132.slots.size ≤ ((0 : Int32)).toNatClampNeg) := inb_of S132 ⟨by decide, by decide⟩
  obtain ⟨T132, h132, X132, e132, W132, st132⟩ := stB X131 hx hZ e131' Ar132 (j := (0 : Int32)) hin132 (g := (mkF m 15 #[.val (.int q1), .val (.long q2), .second, .val (.int q3), .val (.int q4), .val (.ref b130), .unset, .unset, .unset, .unset] [(.int (own_f1 q1 q2 (0 : Int32))), (.int (0 : Int32)), (.ref b130)])) rfl rfl (hb hby at_15)
  have A_b130_132 : Arv Z h132 b130 k130 .byte (6 : Int32) [(.int (nar .byte (own_f1 q1 q2 (0 : Int32)))), (.int (0 : Int32)), (.int (0 : Int32)), (.int (0 : Int32)), (.int (0 : Int32)), (.int (0 : Int32))] (.int (0 : Int32)) := Arv.set Ar132 qa132 S132 M132 H132 G132 (fits_nar_byte _) W132 0 rfl (Nat.le_of_ble_eq_true rfl)
  have N132 := Fr.snoc X132 N131 g_b130
  have sz132 : n0 ≤ h132.size := Nat.le_trans sz130 (Keep.of_wr W132).1
  refine own_st ?_ st132
  show own_Fin _ _ _ _ T132 (mkF m 16 #[.val (.int q1), .val (.long q2), .second, .val (.int q3), .val (.int q4), .val (.ref b130), .unset, .unset, .unset, .unset] [])
  refine own_aload X132 hx (hb hby at_16) (pc' := 18) rfl rfl rfl ?_
  refine own_iconst X132 hx (hb hby at_18) (pc' := 19) rfl (v := (1 : Int32)) rfl ?_
  refine own_iloadN X132 hx (hb hby at_19) (pc' := 20) rfl rfl ?_
  refine own_lloadN X132 hx (hb hby at_20) (pc' := 21) rfl rfl ?_
  refine own_iconst X132 hx (hb hby at_21) (pc' := 22) rfl (v := (1 : Int32)) rfl ?_
  obtain ⟨_, _, ⟨T133, L133, k133, n133⟩, -, X133, ⟨Lc133, hQ133, l133, y133, z133⟩, st133⟩ := Jvm.LawKit.callS X132 hx (y := (⟨"com/example/zhuanjie/zhuanjie/clearing/disputes/RequestHeadEndPinLaw", "pick", "(IJI)B"⟩ : MethodName)) hown (mvT hZ (hw _ (List.mem_of_getElem? (i := 1) rfl))) (mvT hZ (hw _ (List.mem_of_getElem? (i := 2) rfl))) (mvT hZ (hw _ (List.mem_of_getElem? (i := 3) rfl))) (mvT hZ (hw _ (List.mem_of_getElem? (i := 4) rfl))) (by decide) (backOf (W := 2) (rm1 l Z a0 hw [] q1 q2 (1 : Int32) h132 n0 sz132 ) hZ (hw _ (List.mem_of_getElem? (i := 4) rfl)) (hw _ (List.mem_of_getElem? (i := 3) rfl)) (by decide) (by decide)) (g := (mkF m 22 #[.val (.int q1), .val (.long q2), .second, .val (.int q3), .val (.int q4), .val (.ref b130), .unset, .unset, .unset, .unset] [(.int (1 : Int32)), (.long q2), (.int q1), (.int (1 : Int32)), (.ref b130)])) rfl (by rw [hml]; rfl) (argsL := [(.int q1), (.long q2), (.int (1 : Int32))]) (rest := [(.int (1 : Int32)), (.ref b130)]) (lenOf pd_1 rfl) rfl (by show 2 * 0 + _ ≤ _; exact Nat.le_of_eq rfl) (hb hby at_22) (fun _ _ => ⟨rfl, e132, (by decide : 1 + 0 ≤ _), (by decide : 6 + 0 ≤ _)⟩)
  dsimp only [Pt.U, Pt.locs, Pt.cells, Pt.slots] at X133 l133 y133 z133 st133 hQ133
  subst l133 y133 z133
  obtain ⟨rfl, N133q, e133'⟩ := hQ133
  have N133 := Fr.app N132 N133q
  refine own_st ?_ st133
  show own_Fin _ _ _ _ T133 (mkF m 25 #[.val (.int q1), .val (.long q2), .second, .val (.int q3), .val (.int q4), .val (.ref b130), .unset, .unset, .unset, .unset] [(.int (own_f1 q1 q2 (1 : Int32))), (.int (1 : Int32)), (.ref b130)])
  obtain ⟨cl134, Ar134, qa134, S134, M134, H134, G134⟩ := id A_b130_132
  have hin134 : ¬ ((1 : Int32) < 0 ∨ cl134.slots.size ≤ ((1 : Int32)).toNatClampNeg) := inb_of S134 ⟨by decide, by decide⟩
  obtain ⟨T134, h134, X134, e134, W134, st134⟩ := stB X133 hx hZ e133' Ar134 (j := (1 : Int32)) hin134 (g := (mkF m 25 #[.val (.int q1), .val (.long q2), .second, .val (.int q3), .val (.int q4), .val (.ref b130), .unset, .unset, .unset, .unset] [(.int (own_f1 q1 q2 (1 : Int32))), (.int (1 : Int32)), (.ref b130)])) rfl rfl (hb hby at_25)
  have A_b130_134 : Arv Z h134 b130 k130 .byte (6 : Int32) [(.int (nar .byte (own_f1 q1 q2 (0 : Int32)))), (.int (nar .byte (own_f1 q1 q2 (1 : Int32)))), (.int (0 : Int32)), (.int (0 : Int32)), (.int (0 : Int32)), (.int (0 : Int32))] (.int (0 : Int32)) := Arv.set Ar134 qa134 S134 M134 H134 G134 (fits_nar_byte _) W134 1 rfl (Nat.le_of_ble_eq_true rfl)
  have N134 := Fr.snoc X134 N133 g_b130
  have sz134 : n0 ≤ h134.size := Nat.le_trans sz132 (Keep.of_wr W134).1
  refine own_st ?_ st134
  show own_Fin _ _ _ _ T134 (mkF m 26 #[.val (.int q1), .val (.long q2), .second, .val (.int q3), .val (.int q4), .val (.ref b130), .unset, .unset, .unset, .unset] [])
  refine own_aload X134 hx (hb hby at_26) (pc' := 28) rfl rfl rfl ?_
  refine own_iconst X134 hx (hb hby at_28) (pc' := 29) rfl (v := (2 : Int32)) rfl ?_
  refine own_iloadN X134 hx (hb hby at_29) (pc' := 30) rfl rfl ?_
  refine own_lloadN X134 hx (hb hby at_30) (pc' := 31) rfl rfl ?_
  refine own_iconst X134 hx (hb hby at_31) (pc' := 32) rfl (v := (2 : Int32)) rfl ?_
  obtain ⟨_, _, ⟨T135, L135, k135, n135⟩, -, X135, ⟨Lc135, hQ135, l135, y135, z135⟩, st135⟩ := Jvm.LawKit.callS X134 hx (y := (⟨"com/example/zhuanjie/zhuanjie/clearing/disputes/RequestHeadEndPinLaw", "pick", "(IJI)B"⟩ : MethodName)) hown (mvT hZ (hw _ (List.mem_of_getElem? (i := 1) rfl))) (mvT hZ (hw _ (List.mem_of_getElem? (i := 2) rfl))) (mvT hZ (hw _ (List.mem_of_getElem? (i := 3) rfl))) (mvT hZ (hw _ (List.mem_of_getElem? (i := 4) rfl))) (by decide) (backOf (W := 2) (rm1 l Z a0 hw [] q1 q2 (2 : Int32) h134 n0 sz134 ) hZ (hw _ (List.mem_of_getElem? (i := 4) rfl)) (hw _ (List.mem_of_getElem? (i := 3) rfl)) (by decide) (by decide)) (g := (mkF m 32 #[.val (.int q1), .val (.long q2), .second, .val (.int q3), .val (.int q4), .val (.ref b130), .unset, .unset, .unset, .unset] [(.int (2 : Int32)), (.long q2), (.int q1), (.int (2 : Int32)), (.ref b130)])) rfl (by rw [hml]; rfl) (argsL := [(.int q1), (.long q2), (.int (2 : Int32))]) (rest := [(.int (2 : Int32)), (.ref b130)]) (lenOf pd_1 rfl) rfl (by show 2 * 0 + _ ≤ _; exact Nat.le_of_eq rfl) (hb hby at_32) (fun _ _ => ⟨rfl, e134, (by decide : 1 + 0 ≤ _), (by decide : 6 + 0 ≤ _)⟩)
  dsimp only [Pt.U, Pt.locs, Pt.cells, Pt.slots] at X135 l135 y135 z135 st135 hQ135
  subst l135 y135 z135
  obtain ⟨rfl, N135q, e135'⟩ := hQ135
  have N135 := Fr.app N134 N135q
  refine own_st ?_ st135
  show own_Fin _ _ _ _ T135 (mkF m 35 #[.val (.int q1), .val (.long q2), .second, .val (.int q3), .val (.int q4), .val (.ref b130), .unset, .unset, .unset, .unset] [(.int (own_f1 q1 q2 (2 : Int32))), (.int (2 : Int32)), (.ref b130)])
  obtain ⟨cl136, Ar136, qa136, S136, M136, H136, G136⟩ := id A_b130_134
  have hin136 : ¬ ((2 : Int32) < 0 ∨ cl136.slots.size ≤ ((2 : Int32)).toNatClampNeg) := inb_of S136 ⟨by decide, by decide⟩
  obtain ⟨T136, h136, X136, e136, W136, st136⟩ := stB X135 hx hZ e135' Ar136 (j := (2 : Int32)) hin136 (g := (mkF m 35 #[.val (.int q1), .val (.long q2), .second, .val (.int q3), .val (.int q4), .val (.ref b130), .unset, .unset, .unset, .unset] [(.int (own_f1 q1 q2 (2 : Int32))), (.int (2 : Int32)), (.ref b130)])) rfl rfl (hb hby at_35)
  have A_b130_136 : Arv Z h136 b130 k130 .byte (6 : Int32) [(.int (nar .byte (own_f1 q1 q2 (0 : Int32)))), (.int (nar .byte (own_f1 q1 q2 (1 : Int32)))), (.int (nar .byte (own_f1 q1 q2 (2 : Int32)))), (.int (0 : Int32)), (.int (0 : Int32)), (.int (0 : Int32))] (.int (0 : Int32)) := Arv.set Ar136 qa136 S136 M136 H136 G136 (fits_nar_byte _) W136 2 rfl (Nat.le_of_ble_eq_true rfl)
  have N136 := Fr.snoc X136 N135 g_b130
  have sz136 : n0 ≤ h136.size := Nat.le_trans sz134 (Keep.of_wr W136).1
  refine own_st ?_ st136
  show own_Fin _ _ _ _ T136 (mkF m 36 #[.val (.int q1), .val (.long q2), .second, .val (.int q3), .val (.int q4), .val (.ref b130), .unset, .unset, .unset, .unset] [])
  refine own_aload X136 hx (hb hby at_36) (pc' := 38) rfl rfl rfl ?_
  refine own_iconst X136 hx (hb hby at_38) (pc' := 39) rfl (v := (3 : Int32)) rfl ?_
  refine own_iloadN X136 hx (hb hby at_39) (pc' := 40) rfl rfl ?_
  refine own_lloadN X136 hx (hb hby at_40) (pc' := 41) rfl rfl ?_
  refine own_iconst X136 hx (hb hby at_41) (pc' := 42) rfl (v := (3 : Int32)) rfl ?_
  obtain ⟨_, _, ⟨T137, L137, k137, n137⟩, -, X137, ⟨Lc137, hQ137, l137, y137, z137⟩, st137⟩ := Jvm.LawKit.callS X136 hx (y := (⟨"com/example/zhuanjie/zhuanjie/clearing/disputes/RequestHeadEndPinLaw", "pick", "(IJI)B"⟩ : MethodName)) hown (mvT hZ (hw _ (List.mem_of_getElem? (i := 1) rfl))) (mvT hZ (hw _ (List.mem_of_getElem? (i := 2) rfl))) (mvT hZ (hw _ (List.mem_of_getElem? (i := 3) rfl))) (mvT hZ (hw _ (List.mem_of_getElem? (i := 4) rfl))) (by decide) (backOf (W := 2) (rm1 l Z a0 hw [] q1 q2 (3 : Int32) h136 n0 sz136 ) hZ (hw _ (List.mem_of_getElem? (i := 4) rfl)) (hw _ (List.mem_of_getElem? (i := 3) rfl)) (by decide) (by decide)) (g := (mkF m 42 #[.val (.int q1), .val (.long q2), .second, .val (.int q3), .val (.int q4), .val (.ref b130), .unset, .unset, .unset, .unset] [(.int (3 : Int32)), (.long q2), (.int q1), (.int (3 : Int32)), (.ref b130)])) rfl (by rw [hml]; rfl) (argsL := [(.int q1), (.long q2), (.int (3 : Int32))]) (rest := [(.int (3 : Int32)), (.ref b130)]) (lenOf pd_1 rfl) rfl (by show 2 * 0 + _ ≤ _; exact Nat.le_of_eq rfl) (hb hby at_42) (fun _ _ => ⟨rfl, e136, (by decide : 1 + 0 ≤ _), (by decide : 6 + 0 ≤ _)⟩)
  dsimp only [Pt.U, Pt.locs, Pt.cells, Pt.slots] at X137 l137 y137 z137 st137 hQ137
  subst l137 y137 z137
  obtain ⟨rfl, N137q, e137'⟩ := hQ137
  have N137 := Fr.app N136 N137q
  refine own_st ?_ st137
  show own_Fin _ _ _ _ T137 (mkF m 45 #[.val (.int q1), .val (.long q2), .second, .val (.int q3), .val (.int q4), .val (.ref b130), .unset, .unset, .unset, .unset] [(.int (own_f1 q1 q2 (3 : Int32))), (.int (3 : Int32)), (.ref b130)])
  obtain ⟨cl138, Ar138, qa138, S138, M138, H138, G138⟩ := id A_b130_136
  have hin138 : ¬ ((3 : Int32) < 0 ∨ cl138.slots.size ≤ ((3 : Int32)).toNatClampNeg) := inb_of S138 ⟨by decide, by decide⟩
  obtain ⟨T138, h138, X138, e138, W138, st138⟩ := stB X137 hx hZ e137' Ar138 (j := (3 : Int32)) hin138 (g := (mkF m 45 #[.val (.int q1), .val (.long q2), .second, .val (.int q3), .val (.int q4), .val (.ref b130), .unset, .unset, .unset, .unset] [(.int (own_f1 q1 q2 (3 : Int32))), (.int (3 : Int32)), (.ref b130)])) rfl rfl (hb hby at_45)
  have A_b130_138 : Arv Z h138 b130 k130 .byte (6 : Int32) [(.int (nar .byte (own_f1 q1 q2 (0 : Int32)))), (.int (nar .byte (own_f1 q1 q2 (1 : Int32)))), (.int (nar .byte (own_f1 q1 q2 (2 : Int32)))), (.int (nar .byte (own_f1 q1 q2 (3 : Int32)))), (.int (0 : Int32)), (.int (0 : Int32))] (.int (0 : Int32)) := Arv.set Ar138 qa138 S138 M138 H138 G138 (fits_nar_byte _) W138 3 rfl (Nat.le_of_ble_eq_true rfl)
  have N138 := Fr.snoc X138 N137 g_b130
  have sz138 : n0 ≤ h138.size := Nat.le_trans sz136 (Keep.of_wr W138).1
  refine own_st ?_ st138
  show own_Fin _ _ _ _ T138 (mkF m 46 #[.val (.int q1), .val (.long q2), .second, .val (.int q3), .val (.int q4), .val (.ref b130), .unset, .unset, .unset, .unset] [])
  refine own_aload X138 hx (hb hby at_46) (pc' := 48) rfl rfl rfl ?_
  refine own_iconst X138 hx (hb hby at_48) (pc' := 49) rfl (v := (4 : Int32)) rfl ?_
  refine own_iloadN X138 hx (hb hby at_49) (pc' := 50) rfl rfl ?_
  refine own_lloadN X138 hx (hb hby at_50) (pc' := 51) rfl rfl ?_
  refine own_iconst X138 hx (hb hby at_51) (pc' := 52) rfl (v := (4 : Int32)) rfl ?_
  obtain ⟨_, _, ⟨T139, L139, k139, n139⟩, -, X139, ⟨Lc139, hQ139, l139, y139, z139⟩, st139⟩ := Jvm.LawKit.callS X138 hx (y := (⟨"com/example/zhuanjie/zhuanjie/clearing/disputes/RequestHeadEndPinLaw", "pick", "(IJI)B"⟩ : MethodName)) hown (mvT hZ (hw _ (List.mem_of_getElem? (i := 1) rfl))) (mvT hZ (hw _ (List.mem_of_getElem? (i := 2) rfl))) (mvT hZ (hw _ (List.mem_of_getElem? (i := 3) rfl))) (mvT hZ (hw _ (List.mem_of_getElem? (i := 4) rfl))) (by decide) (backOf (W := 2) (rm1 l Z a0 hw [] q1 q2 (4 : Int32) h138 n0 sz138 ) hZ (hw _ (List.mem_of_getElem? (i := 4) rfl)) (hw _ (List.mem_of_getElem? (i := 3) rfl)) (by decide) (by decide)) (g := (mkF m 52 #[.val (.int q1), .val (.long q2), .second, .val (.int q3), .val (.int q4), .val (.ref b130), .unset, .unset, .unset, .unset] [(.int (4 : Int32)), (.long q2), (.int q1), (.int (4 : Int32)), (.ref b130)])) rfl (by rw [hml]; rfl) (argsL := [(.int q1), (.long q2), (.int (4 : Int32))]) (rest := [(.int (4 : Int32)), (.ref b130)]) (lenOf pd_1 rfl) rfl (by show 2 * 0 + _ ≤ _; exact Nat.le_of_eq rfl) (hb hby at_52) (fun _ _ => ⟨rfl, e138, (by decide : 1 + 0 ≤ _), (by decide : 6 + 0 ≤ _)⟩)
  dsimp only [Pt.U, Pt.locs, Pt.cells, Pt.slots] at X139 l139 y139 z139 st139 hQ139
  subst l139 y139 z139
  obtain ⟨rfl, N139q, e139'⟩ := hQ139
  have N139 := Fr.app N138 N139q
  refine own_st ?_ st139
  show own_Fin _ _ _ _ T139 (mkF m 55 #[.val (.int q1), .val (.long q2), .second, .val (.int q3), .val (.int q4), .val (.ref b130), .unset, .unset, .unset, .unset] [(.int (own_f1 q1 q2 (4 : Int32))), (.int (4 : Int32)), (.ref b130)])
  obtain ⟨cl140, Ar140, qa140, S140, M140, H140, G140⟩ := id A_b130_138
  have hin140 : ¬ ((4 : Int32) < 0 ∨ cl140.slots.size ≤ ((4 : Int32)).toNatClampNeg) := inb_of S140 ⟨by decide, by decide⟩
  obtain ⟨T140, h140, X140, e140, W140, st140⟩ := stB X139 hx hZ e139' Ar140 (j := (4 : Int32)) hin140 (g := (mkF m 55 #[.val (.int q1), .val (.long q2), .second, .val (.int q3), .val (.int q4), .val (.ref b130), .unset, .unset, .unset, .unset] [(.int (own_f1 q1 q2 (4 : Int32))), (.int (4 : Int32)), (.ref b130)])) rfl rfl (hb hby at_55)
  have A_b130_140 : Arv Z h140 b130 k130 .byte (6 : Int32) [(.int (nar .byte (own_f1 q1 q2 (0 : Int32)))), (.int (nar .byte (own_f1 q1 q2 (1 : Int32)))), (.int (nar .byte (own_f1 q1 q2 (2 : Int32)))), (.int (nar .byte (own_f1 q1 q2 (3 : Int32)))), (.int (nar .byte (own_f1 q1 q2 (4 : Int32)))), (.int (0 : Int32))] (.int (0 : Int32)) := Arv.set Ar140 qa140 S140 M140 H140 G140 (fits_nar_byte _) W140 4 rfl (Nat.le_of_ble_eq_true rfl)
  have N140 := Fr.snoc X140 N139 g_b130
  have sz140 : n0 ≤ h140.size := Nat.le_trans sz138 (Keep.of_wr W140).1
  refine own_st ?_ st140
  show own_Fin _ _ _ _ T140 (mkF m 56 #[.val (.int q1), .val (.long q2), .second, .val (.int q3), .val (.int q4), .val (.ref b130), .unset, .unset, .unset, .unset] [])
  refine own_aload X140 hx (hb hby at_56) (pc' := 58) rfl rfl rfl ?_
  refine own_iconst X140 hx (hb hby at_58) (pc' := 59) rfl (v := (5 : Int32)) rfl ?_
  refine own_iloadN X140 hx (hb hby at_59) (pc' := 60) rfl rfl ?_
  refine own_lloadN X140 hx (hb hby at_60) (pc' := 61) rfl rfl ?_
  refine own_iconst X140 hx (hb hby at_61) (pc' := 62) rfl (v := (5 : Int32)) rfl ?_
  obtain ⟨_, _, ⟨T141, L141, k141, n141⟩, -, X141, ⟨Lc141, hQ141, l141, y141, z141⟩, st141⟩ := Jvm.LawKit.callS X140 hx (y := (⟨"com/example/zhuanjie/zhuanjie/clearing/disputes/RequestHeadEndPinLaw", "pick", "(IJI)B"⟩ : MethodName)) hown (mvT hZ (hw _ (List.mem_of_getElem? (i := 1) rfl))) (mvT hZ (hw _ (List.mem_of_getElem? (i := 2) rfl))) (mvT hZ (hw _ (List.mem_of_getElem? (i := 3) rfl))) (mvT hZ (hw _ (List.mem_of_getElem? (i := 4) rfl))) (by decide) (backOf (W := 2) (rm1 l Z a0 hw [] q1 q2 (5 : Int32) h140 n0 sz140 ) hZ (hw _ (List.mem_of_getElem? (i := 4) rfl)) (hw _ (List.mem_of_getElem? (i := 3) rfl)) (by decide) (by decide)) (g := (mkF m 62 #[.val (.int q1), .val (.long q2), .second, .val (.int q3), .val (.int q4), .val (.ref b130), .unset, .unset, .unset, .unset] [(.int (5 : Int32)), (.long q2), (.int q1), (.int (5 : Int32)), (.ref b130)])) rfl (by rw [hml]; rfl) (argsL := [(.int q1), (.long q2), (.int (5 : Int32))]) (rest := [(.int (5 : Int32)), (.ref b130)]) (lenOf pd_1 rfl) rfl (by show 2 * 0 + _ ≤ _; exact Nat.le_of_eq rfl) (hb hby at_62) (fun _ _ => ⟨rfl, e140, (by decide : 1 + 0 ≤ _), (by decide : 6 + 0 ≤ _)⟩)
  dsimp only [Pt.U, Pt.locs, Pt.cells, Pt.slots] at X141 l141 y141 z141 st141 hQ141
  subst l141 y141 z141
  obtain ⟨rfl, N141q, e141'⟩ := hQ141
  have N141 := Fr.app N140 N141q
  refine own_st ?_ st141
  show own_Fin _ _ _ _ T141 (mkF m 65 #[.val (.int q1), .val (.long q2), .second, .val (.int q3), .val (.int q4), .val (.ref b130), .unset, .unset, .unset, .unset] [(.int (own_f1 q1 q2 (5 : Int32))), (.int (5 : Int32)), (.ref b130)])
  obtain ⟨cl142, Ar142, qa142, S142, M142, H142, G142⟩ := id A_b130_140
  have hin142 : ¬ ((5 : Int32) < 0 ∨ cl142.slots.size ≤ ((5 : Int32)).toNatClampNeg) := inb_of S142 ⟨by decide, by decide⟩
  obtain ⟨T142, h142, X142, e142, W142, st142⟩ := stB X141 hx hZ e141' Ar142 (j := (5 : Int32)) hin142 (g := (mkF m 65 #[.val (.int q1), .val (.long q2), .second, .val (.int q3), .val (.int q4), .val (.ref b130), .unset, .unset, .unset, .unset] [(.int (own_f1 q1 q2 (5 : Int32))), (.int (5 : Int32)), (.ref b130)])) rfl rfl (hb hby at_65)
  have A_b130_142 : Arv Z h142 b130 k130 .byte (6 : Int32) [(.int (nar .byte (own_f1 q1 q2 (0 : Int32)))), (.int (nar .byte (own_f1 q1 q2 (1 : Int32)))), (.int (nar .byte (own_f1 q1 q2 (2 : Int32)))), (.int (nar .byte (own_f1 q1 q2 (3 : Int32)))), (.int (nar .byte (own_f1 q1 q2 (4 : Int32)))), (.int (nar .byte (own_f1 q1 q2 (5 : Int32))))] (.int (0 : Int32)) := Arv.set Ar142 qa142 S142 M142 H142 G142 (fits_nar_byte _) W142 5 rfl (Nat.le_of_ble_eq_true rfl)
  have N142 := Fr.snoc X142 N141 g_b130
  have sz142 : n0 ≤ h142.size := Nat.le_trans sz140 (Keep.of_wr W142).1
  refine own_st ?_ st142
  show own_Fin _ _ _ _ T142 (mkF m 66 #[.val (.int q1), .val (.long q2), .second, .val (.int q3), .val (.int q4), .val (.ref b130), .unset, .unset, .unset, .unset] [])
  refine own_iload X142 hx (hb hby at_66) (pc' := 68) rfl rfl ?_
  refine own_ldcInt X142 hx hZ hown (hw _ (List.mem_of_getElem? (i := 5) rfl)) (hb hby at_68) (pc' := 70) rfl ?_
  refine own_iand X142 hx (hb hby at_70) (pc' := 71) rfl ?_
  refine own_bipush X142 hx (hb hby at_71) (pc' := 73) rfl (v := (7 : Int32)) rfl ?_
  refine own_irem X142 hx (hb hby at_73) (pc' := 74) rfl (by decide) ?_
  refine own_istore X142 hx (hb hby at_74) (pc' := 76) rfl (Ls' := #[.val (.int q1), .val (.long q2), .second, .val (.int q3), .val (.int q4), .val (.ref b130), .val (.int ((q4 &&& (2147483647 : Int32)) - ((q4 &&& (2147483647 : Int32)) / (7 : Int32)) * (7 : Int32))), .unset, .unset, .unset]) rfl ?_
  refine own_iloadN X142 hx (hb hby at_76) (pc' := 77) rfl rfl ?_
  refine own_bipush X142 hx (hb hby at_77) (pc' := 79) rfl (v := (7 : Int32)) rfl ?_
  refine own_iand X142 hx (hb hby at_79) (pc' := 80) rfl ?_
  refine own_istore X142 hx (hb hby at_80) (pc' := 82) rfl (Ls' := #[.val (.int q1), .val (.long q2), .second, .val (.int q3), .val (.int q4), .val (.ref b130), .val (.int ((q4 &&& (2147483647 : Int32)) - ((q4 &&& (2147483647 : Int32)) / (7 : Int32)) * (7 : Int32))), .val (.int (q3 &&& (7 : Int32))), .unset, .unset]) rfl ?_
  refine own_iload X142 hx (hb hby at_82) (pc' := 84) rfl rfl ?_
  refine own_iconst X142 hx (hb hby at_84) (pc' := 85) rfl (v := (2 : Int32)) rfl ?_
  refine own_isub X142 hx (hb hby at_85) (pc' := 86) rfl ?_
  refine own_iconst X142 hx (hb hby at_86) (pc' := 87) rfl (v := (0 : Int32)) rfl ?_
  obtain ⟨_, _, ⟨T143, L143, k143, n143⟩, -, X143, ⟨Lc143, hQ143, l143, y143, z143⟩, st143⟩ := Jvm.LawKit.callS X142 hx (y := (⟨"java/lang/Math", "max", "(II)I"⟩ : MethodName)) hown (mvT hZ (hw _ (List.mem_of_getElem? (i := 6) rfl))) (mvT hZ (hw _ (List.mem_of_getElem? (i := 7) rfl))) (mvT hZ (hw _ (List.mem_of_getElem? (i := 8) rfl))) (mvT hZ (hw _ (List.mem_of_getElem? (i := 9) rfl))) (by decide) (backOf (W := 0) (rm2 l Z a0 hw [] ((q3 &&& (7 : Int32)) - (2 : Int32)) (0 : Int32) h142 n0 sz142 ) hZ (hw _ (List.mem_of_getElem? (i := 9) rfl)) (hw _ (List.mem_of_getElem? (i := 8) rfl)) (by decide) (by decide)) (g := (mkF m 87 #[.val (.int q1), .val (.long q2), .second, .val (.int q3), .val (.int q4), .val (.ref b130), .val (.int ((q4 &&& (2147483647 : Int32)) - ((q4 &&& (2147483647 : Int32)) / (7 : Int32)) * (7 : Int32))), .val (.int (q3 &&& (7 : Int32))), .unset, .unset] [(.int (0 : Int32)), (.int ((q3 &&& (7 : Int32)) - (2 : Int32)))])) rfl (by rw [hml]; rfl) (argsL := [(.int ((q3 &&& (7 : Int32)) - (2 : Int32))), (.int (0 : Int32))]) (rest := []) (lenOf pd_0 rfl) rfl (by show 2 * 0 + _ ≤ _; exact Nat.le_of_eq rfl) (hb hby at_87) (fun _ _ => ⟨rfl, e142, (by decide : 1 + 0 ≤ _), (by decide : 6 + 0 ≤ _)⟩)
  dsimp only [Pt.U, Pt.locs, Pt.cells, Pt.slots] at X143 l143 y143 z143 st143 hQ143
  subst l143 y143 z143
  obtain ⟨rfl, N143q, e143'⟩ := hQ143
  have N143 := Fr.app N142 N143q
  refine own_st ?_ st143
  show own_Fin _ _ _ _ T143 (mkF m 90 #[.val (.int q1), .val (.long q2), .second, .val (.int q3), .val (.int q4), .val (.ref b130), .val (.int ((q4 &&& (2147483647 : Int32)) - ((q4 &&& (2147483647 : Int32)) / (7 : Int32)) * (7 : Int32))), .val (.int (q3 &&& (7 : Int32))), .unset, .unset] [(.int (own_f2 ((q3 &&& (7 : Int32)) - (2 : Int32)) (0 : Int32)))])
  refine own_istore X143 hx (hb hby at_90) (pc' := 92) rfl (Ls' := #[.val (.int q1), .val (.long q2), .second, .val (.int q3), .val (.int q4), .val (.ref b130), .val (.int ((q4 &&& (2147483647 : Int32)) - ((q4 &&& (2147483647 : Int32)) / (7 : Int32)) * (7 : Int32))), .val (.int (q3 &&& (7 : Int32))), .val (.int (own_f2 ((q3 &&& (7 : Int32)) - (2 : Int32)) (0 : Int32))), .unset]) rfl ?_
  refine own_cast ?_ (sg0_92 l hw hx hZ hby hml hown hnm hret hlk q1 q2 q3 q4 b130 ((q4 &&& (2147483647 : Int32)) - ((q4 &&& (2147483647 : Int32)) / (7 : Int32)) * (7 : Int32)) (q3 &&& (7 : Int32)) (own_f2 ((q3 &&& (7 : Int32)) - (2 : Int32)) (0 : Int32)) k130 (nar .byte (own_f1 q1 q2 (0 : Int32))) (nar .byte (own_f1 q1 q2 (1 : Int32))) (nar .byte (own_f1 q1 q2 (2 : Int32))) (nar .byte (own_f1 q1 q2 (3 : Int32))) (nar .byte (own_f1 q1 q2 (4 : Int32))) (nar .byte (own_f1 q1 q2 (5 : Int32))) sz142 X143 N143 e143' A_b130_142 g_b130 (own_len _) (own_and7 _))
  rw [own_f0]
theorem ef_0 (m : MethodId) (q1 : Int32) (q2 : Int64) (q3 : Int32) (q4 : Int32) : entryFrame m #[(.int q1), (.long q2), (.int q3), (.int q4)] maxLocals = mkF m 0 #[.val (.int q1), .val (.long q2), .second, .val (.int q3), .val (.int q4), .unset, .unset, .unset, .unset, .unset] [] := by first | (simp [entryFrame, mkF, argsToLocals, Value.category, maxLocals]; done) | rfl
set_option maxRecDepth 65536 in
set_option maxHeartbeats 40000000 in
theorem rm0 (l : Launch) (Z : State) (a0 : Array Value) (hw : ∀ d ∈ tables_1, d.before a0 Z = true) (ws : List Jvm.Cond) (q1 : Int32) (q2 : Int64) (q3 : Int32) (q4 : Int32) (h0 : Heap) (n0 : Nat) (Z0 : n0 ≤ h0.size)  (own_law : ∀ (q1 : Int32) (q2 : Int64) (q3 : Int32) (q4 : Int32), (own_f0 q1 q2 q3 q4) = 1) :
    MetFree l x (head1 (Jvm.Cond.code x code maxLocals ret :: ws) room_1) (fun a U => a = #[(.int q1), (.long q2), (.int q3), (.int q4)] ∧ Z.Warmed39 U.vm ∧ U.heap = h0) (fun _ _ _ _ _ => True) (fun _ U o U' => ∃ v L, o = .returned v ∧ (own_L n0 (.int 1)) v U'.heap L ∧ FrameEnd U o U' L 1 6) := by
  refine MetFree.of_bodySF (plainFor_of_name pn_0) hisR ?_
  intro p e s m args below meth c s₁ Bd hml0 hP hK
  obtain ⟨rfl, hZ, hh⟩ := hP
  have hown : s.vm.findClass "com/example/zhuanjie/zhuanjie/clearing/disputes/RequestHeadEndPinLaw" = some m.cls := findClass_of_methodNamed Bd.named
  have hnm := (name_of_methodNamed Bd.named Bd.method).1
  have X0 : Stand p l e room_1 s m #[(.int q1), (.long q2), (.int q3), (.int q4)] below meth c s₁ [] 0 0 := Stand.of_body Bd
  have e0 : s₁.heap = h0 := by rw [← hh, Bd.state]; rfl
  have H := sg0_0 l hw Bd.exec hZ Bd.bytes hml0 hown hnm Bd.returns Bd.notSynchronized q1 q2 q3 q4 Z0 X0 (Fr.nil n0) e0
  rw [own_law] at H
  obtain ⟨t, h1, h2, o, h3, h4⟩ := H
  exact ⟨t, o, castTop (ef_0 m q1 q2 q3 q4) h1, h2, h3, h4⟩
def own_c (u : Int32) : Int32 := if u = 10 then 10 else if u = 13 then 13 else 0
theorem own_c10 (u : Int32) : (own_c u = 10) ↔ (u = 10) := by
  unfold own_c
  by_cases h1 : u = 10
  · rw [if_pos h1]; exact ⟨fun _ => h1, fun _ => rfl⟩
  · rw [if_neg h1]
    by_cases h2 : u = 13
    · rw [if_pos h2]; exact ⟨fun h => absurd h (by decide), fun h => absurd h h1⟩
    · rw [if_neg h2]; exact ⟨fun h => absurd h (by decide), fun h => absurd h h1⟩
theorem own_c13 (u : Int32) : (own_c u = 13) ↔ (u = 13) := by
  unfold own_c
  by_cases h1 : u = 10
  · rw [if_pos h1]; exact ⟨fun h => absurd h (by decide), fun h => absurd (h1.symm.trans h) (by decide)⟩
  · rw [if_neg h1]
    by_cases h2 : u = 13
    · rw [if_pos h2]; exact ⟨fun _ => h2, fun _ => rfl⟩
    · rw [if_neg h2]; exact ⟨fun h => absurd h (by decide), fun h => absurd h h2⟩
theorem own_cm (u : Int32) : own_c u ∈ ([10, 13, 0] : List Int32) := by
  unfold own_c
  by_cases h1 : u = 10
  · rw [if_pos h1]; decide
  · rw [if_neg h1]
    by_cases h2 : u = 13
    · rw [if_pos h2]; decide
    · rw [if_neg h2]; decide

theorem own_clp2 (q3 q4 u1 u2 u3 u4 u5 u6 : Int32) : own_f3p2 q3 q4 u1 u2 u3 u4 u5 u6 = own_f3p2 q3 q4 (own_c u1) (own_c u2) (own_c u3) (own_c u4) (own_c u5) (own_c u6) := by
  unfold own_f3p2; simp only [own_c10, own_c13]
theorem own_clp3 (q3 q4 u1 u2 u3 u4 u5 u6 : Int32) : own_f3p3 q3 q4 u1 u2 u3 u4 u5 u6 = own_f3p3 q3 q4 (own_c u1) (own_c u2) (own_c u3) (own_c u4) (own_c u5) (own_c u6) := by
  unfold own_f3p3; simp only [own_c10, own_c13]
theorem own_clp4 (q3 q4 u1 u2 u3 u4 u5 u6 : Int32) : own_f3p4 q3 q4 u1 u2 u3 u4 u5 u6 = own_f3p4 q3 q4 (own_c u1) (own_c u2) (own_c u3) (own_c u4) (own_c u5) (own_c u6) := by
  unfold own_f3p4; simp only [own_c10, own_c13]
theorem own_clp5 (q3 q4 u1 u2 u3 u4 u5 u6 : Int32) : own_f3p5 q3 q4 u1 u2 u3 u4 u5 u6 = own_f3p5 q3 q4 (own_c u1) (own_c u2) (own_c u3) (own_c u4) (own_c u5) (own_c u6) := by
  unfold own_f3p5; simp only [own_c10, own_c13]
theorem own_clp6 (q3 q4 u1 u2 u3 u4 u5 u6 : Int32) : own_f3p6 q3 q4 u1 u2 u3 u4 u5 u6 = own_f3p6 q3 q4 (own_c u1) (own_c u2) (own_c u3) (own_c u4) (own_c u5) (own_c u6) := by
  unfold own_f3p6; simp only [own_c10, own_c13]
theorem own_cl5 (v2 v3 u1 u2 u3 u4 u5 u6 : Int32) : own_f4_11_5 v2 v3 u1 u2 u3 u4 u5 u6 = own_f4_11_5 v2 v3 (own_c u1) (own_c u2) (own_c u3) (own_c u4) (own_c u5) (own_c u6) := by
  rfl
theorem own_vv5 (v2 w2 v3 u1 u2 u3 u4 u5 u6 : Int32) : own_f4_11_5 v2 v3 u1 u2 u3 u4 u5 u6 = own_f4_11_5 w2 v3 u1 u2 u3 u4 u5 u6 := by
  rfl
theorem own_cl4 (v2 v3 u1 u2 u3 u4 u5 u6 : Int32) : own_f4_11_4 v2 v3 u1 u2 u3 u4 u5 u6 = own_f4_11_4 v2 v3 (own_c u1) (own_c u2) (own_c u3) (own_c u4) (own_c u5) (own_c u6) := by
  unfold own_f4_11_4; simp only [own_c10, own_c13, ← own_cl5]
theorem own_vv4 (v2 w2 v3 u1 u2 u3 u4 u5 u6 : Int32) : own_f4_11_4 v2 v3 u1 u2 u3 u4 u5 u6 = own_f4_11_4 w2 v3 u1 u2 u3 u4 u5 u6 := by
  unfold own_f4_11_4; simp only [own_vv5 v2 w2]
theorem own_cl3 (v2 v3 u1 u2 u3 u4 u5 u6 : Int32) : own_f4_11_3 v2 v3 u1 u2 u3 u4 u5 u6 = own_f4_11_3 v2 v3 (own_c u1) (own_c u2) (own_c u3) (own_c u4) (own_c u5) (own_c u6) := by
  unfold own_f4_11_3; simp only [own_c10, own_c13, ← own_cl4]
theorem own_vv3 (v2 w2 v3 u1 u2 u3 u4 u5 u6 : Int32) : own_f4_11_3 v2 v3 u1 u2 u3 u4 u5 u6 = own_f4_11_3 w2 v3 u1 u2 u3 u4 u5 u6 := by
  unfold own_f4_11_3; simp only [own_vv4 v2 w2]
theorem own_cl2 (v2 v3 u1 u2 u3 u4 u5 u6 : Int32) : own_f4_11_2 v2 v3 u1 u2 u3 u4 u5 u6 = own_f4_11_2 v2 v3 (own_c u1) (own_c u2) (own_c u3) (own_c u4) (own_c u5) (own_c u6) := by
  unfold own_f4_11_2; simp only [own_c10, own_c13, ← own_cl3]
theorem own_vv2 (v2 w2 v3 u1 u2 u3 u4 u5 u6 : Int32) : own_f4_11_2 v2 v3 u1 u2 u3 u4 u5 u6 = own_f4_11_2 w2 v3 u1 u2 u3 u4 u5 u6 := by
  unfold own_f4_11_2; simp only [own_vv3 v2 w2]
theorem own_cl1 (v2 v3 u1 u2 u3 u4 u5 u6 : Int32) : own_f4_11_1 v2 v3 u1 u2 u3 u4 u5 u6 = own_f4_11_1 v2 v3 (own_c u1) (own_c u2) (own_c u3) (own_c u4) (own_c u5) (own_c u6) := by
  unfold own_f4_11_1; simp only [own_c10, own_c13, ← own_cl2]
theorem own_vv1 (v2 w2 v3 u1 u2 u3 u4 u5 u6 : Int32) : own_f4_11_1 v2 v3 u1 u2 u3 u4 u5 u6 = own_f4_11_1 w2 v3 u1 u2 u3 u4 u5 u6 := by
  unfold own_f4_11_1; simp only [own_vv2 v2 w2]
theorem own_cl0 (v2 v3 u1 u2 u3 u4 u5 u6 : Int32) : own_f4_11_0 v2 v3 u1 u2 u3 u4 u5 u6 = own_f4_11_0 v2 v3 (own_c u1) (own_c u2) (own_c u3) (own_c u4) (own_c u5) (own_c u6) := by
  unfold own_f4_11_0; simp only [own_c10, own_c13, ← own_cl1]
theorem own_vv0 (v2 w2 v3 u1 u2 u3 u4 u5 u6 : Int32) : own_f4_11_0 v2 v3 u1 u2 u3 u4 u5 u6 = own_f4_11_0 w2 v3 u1 u2 u3 u4 u5 u6 := by
  unfold own_f4_11_0; simp only [own_vv1 v2 w2]
theorem own_clf (q2 q3 u1 u2 u3 u4 u5 u6 : Int32) : own_f4 q2 q3 u1 u2 u3 u4 u5 u6 = own_f4 q2 q3 (own_c u1) (own_c u2) (own_c u3) (own_c u4) (own_c u5) (own_c u6) := by
  unfold own_f4; simp only [← own_cl0, ← own_cl1, ← own_cl2, ← own_cl3, ← own_cl4, ← own_cl5]
theorem own_vvf (q2 w2 q3 u1 u2 u3 u4 u5 u6 : Int32) (h : own_f2 (q2 - (2 : Int32)) (0 : Int32) = own_f2 (w2 - (2 : Int32)) (0 : Int32)) : own_f4 q2 q3 u1 u2 u3 u4 u5 u6 = own_f4 w2 q3 u1 u2 u3 u4 u5 u6 := by
  unfold own_f4; simp only [h, own_vv0 q2 w2, own_vv1 q2 w2, own_vv2 q2 w2, own_vv3 q2 w2, own_vv4 q2 w2, own_vv5 q2 w2]

theorem own_cls (v1 : Int32) (v2 : Int64) (v3 v4 v6 v7 v8 u1 u2 u3 u4 u5 u6 : Int32) : own_f0_92 v1 v2 v3 v4 v6 v7 v8 u1 u2 u3 u4 u5 u6 = own_f0_92 v1 v2 v3 v4 v6 v7 v8 (own_c u1) (own_c u2) (own_c u3) (own_c u4) (own_c u5) (own_c u6) := by
  unfold own_f0_92 own_f0_192
  simp only [← own_clp2, ← own_clp3, ← own_clp4, ← own_clp5, ← own_clp6, ← own_clf]
theorem own_rep (v1 : Int32) (v2 : Int64) (v3 v4 v6 v7 v8 w7 u1 u2 u3 u4 u5 u6 : Int32) (h : own_f2 (v7 - (2 : Int32)) (0 : Int32) = own_f2 (w7 - (2 : Int32)) (0 : Int32)) : own_f0_92 v1 v2 v3 v4 v6 v7 v8 u1 u2 u3 u4 u5 u6 = own_f0_92 0 0 0 0 v6 w7 v8 u1 u2 u3 u4 u5 u6 := by
  unfold own_f0_92 own_f0_192
  rw [own_vvf v7 w7 _ _ _ _ _ _ _ h]

set_option maxRecDepth 65536 in
theorem own_all : ∀ st ∈ ([0, 1, 2, 3, 4, 5] : List Int32), own_f2 ((st + 2) - (2 : Int32)) (0 : Int32) = st ∧ ∀ n ∈ ([0, 1, 2, 3, 4, 5, 6] : List Int32), ∀ c1 ∈ ([10, 13, 0] : List Int32), ∀ c2 ∈ ([10, 13, 0] : List Int32), ∀ c3 ∈ ([10, 13, 0] : List Int32), ∀ c4 ∈ ([10, 13, 0] : List Int32), ∀ c5 ∈ ([10, 13, 0] : List Int32), ∀ c6 ∈ ([10, 13, 0] : List Int32), own_f0_92 0 0 0 0 n (st + 2) st c1 c2 c3 c4 c5 c6 = 1 := by decide +kernel
theorem own_m5 (x : Int32) (h : x = 0 ∨ x = 1 ∨ x = 2 ∨ x = 3 ∨ x = 4 ∨ x = 5) : x ∈ ([0, 1, 2, 3, 4, 5] : List Int32) := by
  rcases h with rfl | rfl | rfl | rfl | rfl | rfl <;> decide
theorem own_m6 (x : Int32) (h : 0 ≤ x.toInt ∧ x.toInt ≤ 6) : x ∈ ([0, 1, 2, 3, 4, 5, 6] : List Int32) := by
  have e0 : (0 : Int32).toInt = 0 := by decide
  have e1 : (1 : Int32).toInt = 1 := by decide
  have e2 : (2 : Int32).toInt = 2 := by decide
  have e3 : (3 : Int32).toInt = 3 := by decide
  have e4 : (4 : Int32).toInt = 4 := by decide
  have e5 : (5 : Int32).toInt = 5 := by decide
  have e6 : (6 : Int32).toInt = 6 := by decide
  simp only [List.mem_cons, List.not_mem_nil, or_false, own_eq32]
  omega
theorem own_law (q1 : Int32) (q2 : Int64) (q3 q4 : Int32) : own_f0 q1 q2 q3 q4 = 1 := by
  unfold own_f0
  have hl := own_m6 _ (own_len q4)
  have hs := own_m5 _ (own_mx _ (own_and7 q3))
  obtain ⟨h1, h2⟩ := own_all _ hs
  rw [own_cls, own_rep _ _ _ _ _ _ _ _ _ _ _ _ _ _ h1.symm]
  exact h2 _ hl _ (own_cm _) _ (own_cm _) _ (own_cm _) _ (own_cm _) _ (own_cm _) _ (own_cm _)
set_option maxRecDepth 65536 in
set_option maxHeartbeats 40000000 in
theorem comes_1 {Post : Tables → Env → Array Value → State → Outcome → State → Prop} (hpost : ∀ tb e args s v u, (limb_1_1.after args s (.returned v) u = true ∧ limb_1_2.after args s (.returned v) u = true ∧ True) → FrameEnd s (.returned v) u (Jvm.fieldLocs frame_1_writes args s ++ Jvm.arrayLocs frame_1_arrays args s ++ Jvm.staticLocs frame_1_statics s) 16 128 → Post tb e args s (.returned v) u) :
    ArmFor flags0 classFile x code maxLocals ret World_1 tables_1 room_1 Calls_1 rest_1 Pre_1 Post := by
  intro l hfl _ _ p e ha hc hk s m args below hf hA hF happ hP
  obtain ⟨hcalls, hrest, hpre⟩ := hP
  obtain ⟨-, -, -, hnamed, -, -, -, hat⟩ := (Spec.applies_iff hf).mp happ
  obtain ⟨hg, hn⟩ := and_e (Cond.before_iff.mp (show (Jvm.Cond.and given_1 narrow_1).before args s = true from hpre))
  obtain ⟨gc, g0⟩ := and_e hg
  obtain ⟨gv0, g1⟩ := and_e g0
  obtain ⟨gv1, g2⟩ := and_e g1
  obtain ⟨gv2, g3⟩ := and_e g2
  have gv3 := g3
  obtain ⟨w0, w1, w2, w3, rfl⟩ : ∃ w0 w1 w2 w3 : Value, args = #[w0, w1, w2, w3] := by
    have hs : args.size = 4 := by simpa [Cond.value, given_1] using gc
    obtain ⟨L⟩ := args
    match L, hs with
    | [w0, w1, w2, w3], _ => exact ⟨w0, w1, w2, w3, rfl⟩
  have hw := fun d (hd : d ∈ tables_1) => atoms_spec (ws := Jvm.Cond.code x code maxLocals ret :: tables_1) hat d (List.mem_cons_of_mem _ hd)
  obtain ⟨i0, ei0⟩ := is_v gv0
  obtain rfl : w0 = (.int i0) := Option.some.inj ei0
  obtain ⟨i1, ei1⟩ := isL_v gv1
  obtain rfl : w1 = (.long i1) := Option.some.inj ei1
  obtain ⟨i2, ei2⟩ := is_v gv2
  obtain rfl : w2 = (.int i2) := Option.some.inj ei2
  obtain ⟨i3, ei3⟩ := is_v gv3
  obtain rfl : w3 = (.int i3) := Option.some.inj ei3
  obtain ⟨n, o, h1, h2, h3, _, L, rfl, ⟨rfl, N⟩, hq⟩ := rm0 l s _ hw tables_1 i0 i1 i2 i3 s.heap s.heap.size (Nat.le_refl _) own_law p e ha hc hk s m _ below hf ((Spec.applies_iff_loose hf).mp happ).1 ⟨rfl, State.Warmed39.refl s, rfl⟩ trivial
  refine ⟨n, _, h1, h2, h3, hpost _ _ _ _ _ _ ⟨Cond.after_iff.mpr rfl, Cond.after_iff.mpr (eq_i res_at (Term.int_eval (1)) rfl), trivial⟩ ⟨hq.1, hq.2.1, (hq.2.2.sift fun y hy => Or.inr (N y hy)).mono (by decide) (by decide)⟩⟩
theorem main_1_1 : Claimed_1_1 := comes_1 fun _ _ _ _ _ _ h hF => ⟨h.1, hF⟩
theorem main_1_2 : Claimed_1_2 := comes_1 fun _ _ _ _ _ _ h hF => ⟨h.2.1, hF⟩
end Jvm.Pilot.@@N@@
namespace Jvm.Pilot.@@N@@
open Jvm Jvm.ClassFile Sem Op Lib Jvm.Free Jvm.Stand Jvm.Pilot.@@N@@.Jvm.D
/-! MADE BY PROGRAM (witnessworld.py) out of the Statement's table words and the real class files: 10 classes; the members and pool entries that the words name. The judged class is class 1, her method 3. -/
namespace start1
open Jvm.ClassFile
def u (s : String) : CpInfo := .utf8 (stringToUtf16 s)
/-- a pool by its gaps: so many unusable entries, then the entry; so many at the end -/
def gap : Nat → List CpInfo → List CpInfo
  | 0, r => r
  | n + 1, r => .unusable :: gap n r
def poolList (es : List (Nat × CpInfo)) (last : Nat) : List CpInfo := es.foldr (fun e r => gap e.1 (e.2 :: r)) (gap last [])
def pool (es : List (Nat × CpInfo)) (last : Nat) : Array CpInfo := ⟨poolList es last⟩
def fileOf (pool : Array CpInfo) (this : Nat) (attrs : Array Attribute := #[]) (ms : Array MethodInfo := #[]) (fl : Nat := 33) (sup : Nat := 0) (ifs : Array Nat := #[]) (fds : Array FieldInfo := #[]) : ClassFile where
  minorVersion := 0
  majorVersion := 65
  constantPool := pool
  accessFlags := fl
  thisClass := this
  superClass := sup
  interfaces := ifs
  fields := fds
  methods := ms
  attributes := attrs
def plain (name : String) (sup : Option ClassId) : Class where
  name := name
  kind := .ordinary
  loader := none
  accessFlags := 33
  super := sup
  interfaces := #[]
  cf := none
  fields := #[]
  methods := #[]
  instanceTypes := #[]
  staticTypes := #[]
  resolved := #[]
  callSites := []
  init := .initialized
  statics := none
  mirror := none

def pool0 : Array CpInfo := pool [(5, u "<init>"), (0, u "()V"), (1, .class_ 10), (1, u "java/lang/Object")] 113

def k0m0 : Method := { name := "<init>", desc := "()V", sig := { parameters := [], returnType := none }, accessFlags := 1, code := none }
/-- java/lang/Object -/
def k0 : Class := { plain "java/lang/Object" none with
  accessFlags := 33
  interfaces := #[]
  cf := some (fileOf pool0 8 #[] #[{ accessFlags := 1, nameIndex := 5, descriptorIndex := 6, attributes := #[] }] 33 0 #[] #[])
  fields := #[]
  methods := #[k0m0]
  instanceTypes := #[]
  staticTypes := #[]
  resolved := Array.replicate 124 none
  statics := none }

def pool1 : Array CpInfo := pool [(2, .class_ 4), (1, u "java/lang/Object"), (0, u "<init>"), (0, u "()V"), (0, .methodref 8 9), (0, .class_ 10), (0, .nameAndType 11 12), (0, u "com/example/zhuanjie/zhuanjie/clearing/disputes/RequestHeadEndPinLaw"), (0, u "pick"), (0, u "(IJI)B"), (0, .integer 2147483647), (0, .methodref 15 16), (0, .class_ 17), (0, .nameAndType 18 19), (0, u "java/lang/Math"), (0, u "max"), (0, u "(II)I"), (0, .methodref 8 21), (0, .nameAndType 22 23), (0, u "endsAt"), (0, u "([BIII)Z"), (0, .methodref 25 26), (0, .class_ 27), (0, .nameAndType 28 29), (0, u "com/example/zhuanjie/zhuanjie/clearing/disputes/RequestHead"), (0, u "end"), (0, u "([BII)I"), (3, u "law"), (0, u "(IJII)Z")] 4

def k1m0 : Method := { name := "<init>", desc := "()V", sig := { parameters := [], returnType := none }, accessFlags := 1, code := none }
def k1c1 : Code := { maxStack := 4, maxLocals := 5, code := method_2_code, exceptionTable := #[], attributes := #[] }
def k1m1 : Method := { name := "pick", desc := "(IJI)B", sig := { parameters := [.int, .long, .int], returnType := some .byte }, accessFlags := 10, code := some k1c1 }
def k1c2 : Code := { maxStack := 3, maxLocals := 4, code := method_3_code, exceptionTable := #[], attributes := #[] }
def k1m2 : Method := { name := "endsAt", desc := "([BIII)Z", sig := { parameters := [(.array .byte), .int, .int, .int], returnType := some .boolean }, accessFlags := 10, code := some k1c2 }
def k1c3 : Code := { maxStack := 6, maxLocals := 10, code := code, exceptionTable := #[], attributes := #[] }
def k1m3 : Method := { name := "law", desc := "(IJII)Z", sig := { parameters := [.int, .long, .int, .int], returnType := some .boolean }, accessFlags := 9, code := some k1c3 }
/-- com/example/zhuanjie/zhuanjie/clearing/disputes/RequestHeadEndPinLaw -/
def k1 : Class := { plain "com/example/zhuanjie/zhuanjie/clearing/disputes/RequestHeadEndPinLaw" (some 0) with
  accessFlags := 49
  interfaces := #[]
  cf := some (fileOf pool1 8 #[] #[{ accessFlags := 1, nameIndex := 5, descriptorIndex := 6, attributes := #[] }, { accessFlags := 10, nameIndex := 11, descriptorIndex := 12, attributes := #[] }, { accessFlags := 10, nameIndex := 22, descriptorIndex := 23, attributes := #[] }, { accessFlags := 9, nameIndex := 33, descriptorIndex := 34, attributes := #[] }] 49 2 #[] #[])
  fields := #[]
  methods := #[k1m0, k1m1, k1m2, k1m3]
  instanceTypes := #[]
  staticTypes := #[]
  resolved := Array.replicate 39 none
  statics := none }

def pool2 : Array CpInfo := pool [(1, .class_ 2), (0, u "java/lang/Math"), (1, .class_ 6), (1, u "java/lang/Object"), (0, u "<init>"), (0, u "()V"), (89, .class_ 100), (1, u "java/lang/Math$RandomNumberGeneratorHolder"), (71, u "negativeZeroFloatBits"), (0, u "J"), (2, u "negativeZeroDoubleBits"), (21, u "max"), (46, u "$assertionsDisabled"), (0, u "Z"), (88, u "(II)I"), (2, u "twoToTheDoubleScaleDown"), (0, u "D"), (4, u "twoToTheDoubleScaleUp"), (9, u "E"), (3, u "PI"), (2, u "TAU"), (2, u "DEGREES_TO_RADIANS"), (0, u "RADIANS_TO_DEGREES")] 94

def k2m0 : Method := { name := "<init>", desc := "()V", sig := { parameters := [], returnType := none }, accessFlags := 2, code := none }
def k2c1 : Code := { maxStack := 2, maxLocals := 2, code := jdk_29_method_65_code, exceptionTable := #[], attributes := #[] }
def k2m1 : Method := { name := "max", desc := "(II)I", sig := { parameters := [.int, .int], returnType := some .int }, accessFlags := 9, code := some k2c1 }
/-- java/lang/Math -/
def k2 : Class := { plain "java/lang/Math" (some 0) with
  accessFlags := 49
  interfaces := #[]
  cf := some (fileOf pool2 1 #[.nestMembers #[98]] #[{ accessFlags := 2, nameIndex := 7, descriptorIndex := 8, attributes := #[] }, { accessFlags := 9, nameIndex := 198, descriptorIndex := 335, attributes := #[] }] 49 4 #[] #[{ accessFlags := 25, nameIndex := 354, descriptorIndex := 339, attributes := #[] }, { accessFlags := 25, nameIndex := 358, descriptorIndex := 339, attributes := #[] }, { accessFlags := 25, nameIndex := 361, descriptorIndex := 339, attributes := #[] }, { accessFlags := 26, nameIndex := 364, descriptorIndex := 339, attributes := #[] }, { accessFlags := 26, nameIndex := 365, descriptorIndex := 339, attributes := #[] }, { accessFlags := 26, nameIndex := 172, descriptorIndex := 173, attributes := #[] }, { accessFlags := 26, nameIndex := 176, descriptorIndex := 173, attributes := #[] }, { accessFlags := 8, nameIndex := 344, descriptorIndex := 339, attributes := #[] }, { accessFlags := 8, nameIndex := 338, descriptorIndex := 339, attributes := #[] }, { accessFlags := 4120, nameIndex := 245, descriptorIndex := 246, attributes := #[] }])
  fields := #[{ name := "E", type := .double, accessFlags := 25, slot := 0, constantValue := 0 }, { name := "PI", type := .double, accessFlags := 25, slot := 1, constantValue := 0 }, { name := "TAU", type := .double, accessFlags := 25, slot := 2, constantValue := 0 }, { name := "DEGREES_TO_RADIANS", type := .double, accessFlags := 26, slot := 3, constantValue := 0 }, { name := "RADIANS_TO_DEGREES", type := .double, accessFlags := 26, slot := 4, constantValue := 0 }, { name := "negativeZeroFloatBits", type := .long, accessFlags := 26, slot := 5, constantValue := 0 }, { name := "negativeZeroDoubleBits", type := .long, accessFlags := 26, slot := 6, constantValue := 0 }, { name := "twoToTheDoubleScaleUp", type := .double, accessFlags := 8, slot := 7, constantValue := 0 }, { name := "twoToTheDoubleScaleDown", type := .double, accessFlags := 8, slot := 8, constantValue := 0 }, { name := "$assertionsDisabled", type := .boolean, accessFlags := 4120, slot := 9, constantValue := 0 }]
  methods := #[k2m0, k2m1]
  instanceTypes := #[]
  staticTypes := #[.double, .double, .double, .double, .double, .long, .long, .double, .double, .boolean]
  resolved := Array.replicate 460 none
  statics := none }

def pool3 : Array CpInfo := pool [(2, .class_ 4), (1, u "java/lang/Object"), (3, .class_ 10), (1, u "com/example/zhuanjie/zhuanjie/clearing/disputes/RequestHead"), (0, u "method"), (0, u "Ljava/lang/String;"), (2, u "path"), (2, u "fields"), (0, u "Ljava/util/Map;"), (2, u "chunked"), (0, u "Z"), (2, u "length"), (0, u "J"), (0, .methodref 29 30), (0, .class_ 31), (0, .nameAndType 32 33), (0, u "java/lang/Math"), (0, u "max"), (0, u "(II)I"), (66, u "TOKEN"), (0, u "Ljava/util/regex/Pattern;"), (19, u "VERSION"), (218, u "LENGTH"), (20, u "end"), (0, u "([BII)I")] 62

def k3c0 : Code := { maxStack := 3, maxLocals := 5, code := prog_27_method_2_code, exceptionTable := #[], attributes := #[] }
def k3m0 : Method := { name := "end", desc := "([BII)I", sig := { parameters := [(.array .byte), .int, .int], returnType := some .int }, accessFlags := 8, code := some k3c0 }
/-- com/example/zhuanjie/zhuanjie/clearing/disputes/RequestHead -/
def k3 : Class := { plain "com/example/zhuanjie/zhuanjie/clearing/disputes/RequestHead" (some 0) with
  accessFlags := 48
  interfaces := #[]
  cf := some (fileOf pool3 8 #[] #[{ accessFlags := 8, nameIndex := 361, descriptorIndex := 362, attributes := #[] }] 48 2 #[] #[{ accessFlags := 26, nameIndex := 100, descriptorIndex := 101, attributes := #[] }, { accessFlags := 26, nameIndex := 121, descriptorIndex := 101, attributes := #[] }, { accessFlags := 26, nameIndex := 340, descriptorIndex := 101, attributes := #[] }, { accessFlags := 18, nameIndex := 11, descriptorIndex := 12, attributes := #[] }, { accessFlags := 18, nameIndex := 15, descriptorIndex := 12, attributes := #[] }, { accessFlags := 18, nameIndex := 18, descriptorIndex := 19, attributes := #[] }, { accessFlags := 18, nameIndex := 22, descriptorIndex := 23, attributes := #[] }, { accessFlags := 18, nameIndex := 26, descriptorIndex := 27, attributes := #[] }])
  fields := #[{ name := "TOKEN", type := (.object "java/util/regex/Pattern"), accessFlags := 26, slot := 0, constantValue := 0 }, { name := "VERSION", type := (.object "java/util/regex/Pattern"), accessFlags := 26, slot := 1, constantValue := 0 }, { name := "LENGTH", type := (.object "java/util/regex/Pattern"), accessFlags := 26, slot := 2, constantValue := 0 }, { name := "method", type := (.object "java/lang/String"), accessFlags := 18, slot := 0, constantValue := 0 }, { name := "path", type := (.object "java/lang/String"), accessFlags := 18, slot := 1, constantValue := 0 }, { name := "fields", type := (.object "java/util/Map"), accessFlags := 18, slot := 2, constantValue := 0 }, { name := "chunked", type := .boolean, accessFlags := 18, slot := 3, constantValue := 0 }, { name := "length", type := .long, accessFlags := 18, slot := 4, constantValue := 0 }]
  methods := #[k3m0]
  instanceTypes := #[(.object "java/lang/String"), (.object "java/lang/String"), (.object "java/util/Map"), .boolean, .long]
  staticTypes := #[(.object "java/util/regex/Pattern"), (.object "java/util/regex/Pattern"), (.object "java/util/regex/Pattern")]
  resolved := Array.replicate 425 none
  statics := none }

def pool4 : Array CpInfo := pool [(1, u "java/lang/Cloneable"), (0, .class_ 1), (0, u "java/lang/Object"), (0, .class_ 3)] 3

/-- java/lang/Cloneable -/
def k4 : Class := { plain "java/lang/Cloneable" (some 0) with
  accessFlags := 1537
  interfaces := #[]
  cf := some (fileOf pool4 2 #[] #[] 1537 4 #[] #[])
  fields := #[]
  methods := #[]
  instanceTypes := #[]
  staticTypes := #[]
  resolved := Array.replicate 8 none
  statics := none }

def pool5 : Array CpInfo := pool [(1, u "java/io/Serializable"), (0, .class_ 1), (0, u "java/lang/Object"), (0, .class_ 3)] 3

/-- java/io/Serializable -/
def k5 : Class := { plain "java/io/Serializable" (some 0) with
  accessFlags := 1537
  interfaces := #[]
  cf := some (fileOf pool5 2 #[] #[] 1537 4 #[] #[])
  fields := #[]
  methods := #[]
  instanceTypes := #[]
  staticTypes := #[]
  resolved := Array.replicate 8 none
  statics := none }

/-- the primitive byte -/
def k6 : Class := { plain "byte" none with kind := .primitive 'B', accessFlags := 0x411 }
/-- [B -/
def k7 : Class := { plain "[B" (some 0) with kind := .array 6 .byte, interfaces := #[4, 5], accessFlags := 1041 }

/-- the primitive int -/
def k8 : Class := { plain "int" none with kind := .primitive 'I', accessFlags := 0x411 }
/-- [I -/
def k9 : Class := { plain "[I" (some 0) with kind := .array 8 .int, interfaces := #[4, 5], accessFlags := 1041 }

def heap : Heap := #[]
def classes : Array Class := #[k0, k1, k2, k3, k4, k5, k6, k7, k8, k9]
def interned : List (Array UInt16 × Addr) := []
def slotsUsed : Nat := 0
def theMethod : MethodId := ⟨1, 3⟩
def args0 : Array Value := #[.int 5, .long 500, .int 3, .int 7]
def aboutOver (below : List Frame) : State where
  vm := { classes := classes, interned := interned.toArray }
  heap := heap
  slotsUsed := slotsUsed
  threads := #[{ frames := .invoking theMethod args0 :: below }]
def below0 : List Frame := [.native { method := ⟨0, 0⟩, args := #[] }]
def about1 : State := aboutOver below0
def p0 : Program := .bare "" "" ""
def e0 : Env := launch0.env 0 0 0
theorem w_frames : about1.frames = Frame.invoking theMethod args0 :: below0 := rfl
set_option maxRecDepth 65536 in
theorem w_args : argsFit about1.vm theMethod args0 = true := by decide +kernel
set_option maxRecDepth 65536 in
theorem w_heap : heapFits about1 = true := by decide +kernel
set_option maxRecDepth 65536 in
theorem w_runnable : about1.curStatus? = some .runnable := by decide +kernel
set_option maxRecDepth 65536 in
theorem w_alone : about1.alone = true := by decide +kernel
set_option maxRecDepth 65536 in
theorem w_named : about1.methodNamed? x = some theMethod := by decide +kernel
set_option maxRecDepth 65536 in
theorem w_hears : about1.hears theMethod below0 = true := by decide +kernel
set_option maxRecDepth 65536 in
theorem w_ripe : about1.ripe theMethod args0 below0 = true := by decide +kernel
theorem w_running : about1.status = .running := rfl
set_option maxRecDepth 65536 in
theorem w_room : about1.hasRoom e0.platform room_1 = true :=
  launch0.hasRoom_least _ room_1 (by decide +kernel) (by decide +kernel) (by decide +kernel) (by decide +kernel) (by decide +kernel) (by decide +kernel)
theorem allAtoms_all (ts : List Jvm.Cond) (a : Array Jvm.Value) (st : Jvm.State) : (allAtoms ts).before a st = ts.all (fun c => c.before a st) := by
  induction ts with
  | nil => rfl
  | cons c t ih =>
    show (Jvm.Cond.and c (allAtoms t)).before a st = _
    rw [Jvm.Cond.before_and, ih, List.all_cons]
def words1 : List Jvm.Cond := Jvm.Cond.code x code maxLocals ret :: tables_1
/-- a 'code' word, met by the world's own term for the bytes: nothing is compared byte by byte -/
theorem code_word {y : MethodName} {bytes : ByteArray} {mx : Nat} {rt : Option FieldType} {a : Array Value} {s : State} {m : MethodId} {meth : Method} {c : Code} (h1 : s.methodNamed? y = some m) (h2 : s.vm.method? m = some meth) (h3 : meth.code = some c) (h4 : c.code = bytes)
    (h5 : (c.maxLocals == mx && c.exceptionTable.isEmpty && decide (c.maxStack ≤ mostOperands) && decide (meth.sig.returnType = rt) && !meth.locks && decide (parseMethodDescriptor y.desc = some meth.sig)) = true) : (Jvm.Cond.code y bytes mx rt).before a s = true := by
  simp only [Bool.and_eq_true, beq_iff_eq, Bool.not_eq_true', decide_eq_true_eq] at h5
  obtain ⟨⟨⟨⟨⟨g1, g2⟩, g3⟩, g4⟩, g5⟩, g6⟩ := h5
  simp [Cond.before, Cond.holds, Cond.value, h1, h2, h3, h4, g1, g2, g3, g4, g5, g6]
def isCode : Jvm.Cond → Bool
  | .code _ _ _ _ => true
  | _ => false
theorem all_split {L : List Jvm.Cond} {P : Jvm.Cond → Bool} (h1 : L.all (fun c => isCode c || P c) = true) (h2 : ∀ c ∈ L.filter isCode, P c = true) : L.all P = true := by
  refine List.all_eq_true.mpr fun c hc => ?_
  have h := List.all_eq_true.mp h1 c hc
  rcases Bool.eq_false_or_eq_true (isCode c) with hi | hi
  · exact h2 c (List.mem_filter.mpr ⟨hc, hi⟩)
  · simpa [hi] using h
set_option maxRecDepth 65536 in
theorem w_c0 : (Jvm.Cond.code x code maxLocals ret).before args0 about1 = true := code_word (m := ⟨1, 3⟩) (meth := k1m3) (c := k1c3) (by decide +kernel) rfl rfl rfl (by decide +kernel)
set_option maxRecDepth 65536 in
theorem w_c1 : (Jvm.Cond.code ({ cls := "com/example/zhuanjie/zhuanjie/clearing/disputes/RequestHeadEndPinLaw", name := "pick", desc := "(IJI)B" } : Jvm.MethodName) method_2_code (5 : Nat) (Option.some Jvm.ClassFile.FieldType.byte)).before args0 about1 = true := code_word (m := ⟨1, 1⟩) (meth := k1m1) (c := k1c1) (by decide +kernel) rfl rfl rfl (by decide +kernel)
set_option maxRecDepth 65536 in
theorem w_c2 : (Jvm.Cond.code ({ cls := "java/lang/Math", name := "max", desc := "(II)I" } : Jvm.MethodName) jdk_29_method_65_code (2 : Nat) (Option.some Jvm.ClassFile.FieldType.int)).before args0 about1 = true := code_word (m := ⟨2, 1⟩) (meth := k2m1) (c := k2c1) (by decide +kernel) rfl rfl rfl (by decide +kernel)
set_option maxRecDepth 65536 in
theorem w_c3 : (Jvm.Cond.code ({ cls := "com/example/zhuanjie/zhuanjie/clearing/disputes/RequestHeadEndPinLaw", name := "endsAt", desc := "([BIII)Z" } : Jvm.MethodName) method_3_code (4 : Nat) (Option.some Jvm.ClassFile.FieldType.boolean)).before args0 about1 = true := code_word (m := ⟨1, 2⟩) (meth := k1m2) (c := k1c2) (by decide +kernel) rfl rfl rfl (by decide +kernel)
set_option maxRecDepth 65536 in
theorem w_c4 : (Jvm.Cond.code ({ cls := "com/example/zhuanjie/zhuanjie/clearing/disputes/RequestHead", name := "end", desc := "([BII)I" } : Jvm.MethodName) prog_27_method_2_code (5 : Nat) (Option.some Jvm.ClassFile.FieldType.int)).before args0 about1 = true := code_word (m := ⟨3, 0⟩) (meth := k3m0) (c := k3c0) (by decide +kernel) rfl rfl rfl (by decide +kernel)
def codes1 : List Jvm.Cond := [Jvm.Cond.code x code maxLocals ret, Jvm.Cond.code ({ cls := "com/example/zhuanjie/zhuanjie/clearing/disputes/RequestHeadEndPinLaw", name := "pick", desc := "(IJI)B" } : Jvm.MethodName) method_2_code (5 : Nat) (Option.some Jvm.ClassFile.FieldType.byte), Jvm.Cond.code ({ cls := "java/lang/Math", name := "max", desc := "(II)I" } : Jvm.MethodName) jdk_29_method_65_code (2 : Nat) (Option.some Jvm.ClassFile.FieldType.int), Jvm.Cond.code ({ cls := "com/example/zhuanjie/zhuanjie/clearing/disputes/RequestHeadEndPinLaw", name := "endsAt", desc := "([BIII)Z" } : Jvm.MethodName) method_3_code (4 : Nat) (Option.some Jvm.ClassFile.FieldType.boolean), Jvm.Cond.code ({ cls := "com/example/zhuanjie/zhuanjie/clearing/disputes/RequestHead", name := "end", desc := "([BII)I" } : Jvm.MethodName) prog_27_method_2_code (5 : Nat) (Option.some Jvm.ClassFile.FieldType.int)]
set_option maxRecDepth 65536 in
theorem codes_eq : words1.filter isCode = codes1 := rfl
theorem w_codes : ∀ c ∈ words1.filter isCode, c.before args0 about1 = true := by
  rw [codes_eq]
  intro c hc
  simp only [codes1, List.mem_cons, List.not_mem_nil, or_false] at hc
  rcases hc with rfl | rfl | rfl | rfl | rfl
  · exact w_c0
  · exact w_c1
  · exact w_c2
  · exact w_c3
  · exact w_c4
set_option maxRecDepth 65536 in
theorem w_t1 : words1.all (fun c => isCode c || c.before args0 about1) = true := by decide +kernel
theorem w_tables : (allAtoms (Jvm.Cond.code x code maxLocals ret :: tables_1)).before args0 about1 = true := by
  rw [allAtoms_all]
  show words1.all (fun c => c.before args0 about1) = true
  refine all_split ?_ w_codes
  rw [w_t1]
set_option maxRecDepth 65536 in
theorem w_case : (Jvm.Cond.and given_1 narrow_1).before args0 about1 = true := by decide +kernel
theorem w_applies : (headSpec (Jvm.Cond.code x code maxLocals ret :: tables_1) room_1).applies x e0.platform about1 = true :=
  (Spec.applies_iff w_frames).mpr ⟨w_running, w_runnable, w_alone, w_named, w_hears, w_ripe, w_room, w_tables⟩
theorem atStart : AtStart classFile x code maxLocals ret World_1 tables_1 room_1 Calls_1 rest_1 Pre_1 launch0 p0 e0 about1 theMethod args0 below0 :=
  ⟨lists_1, trivial, launch0.admits_env _ _ _, launch0.least_env, fairChoices_fair.cas, fairChoices_fair.clock, w_frames, w_args, w_heap, w_applies, trivial, trivial, w_case⟩
end start1
theorem witness_1 : WitnessClaimed_1 := ⟨start1.p0, start1.e0, start1.about1, start1.theMethod, start1.args0, start1.below0, start1.atStart⟩
end Jvm.Pilot.@@N@@
