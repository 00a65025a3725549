import JvmDerived
import JvmDerived.Pilot.@@N@@Statement
import JvmDerived.Pilot.@@N@@Code
set_option linter.unusedVariables false
set_option linter.unusedSimpArgs false
@@BLOCK:NumsL.lean.txt@@
namespace Jvm.RoadKit
open Sem ClassFile Op Lib Jvm.Stand Jvm.Free Jvm.LawKit
section New
variable {p : Program} {l : Launch} {e : Env} {R : Room} {s : State} {m : MethodId} {args : Array Value} {below : List Frame} {meth : Method} {c : Code} {T : State} {locs : List Loc} {cells slots : Nat}
theorem retI (X : Stand p l e R s m args below meth c T locs cells slots) (hx : p.tables.exec = Jvm.exec) {pc : Nat} {Ls : Array Slot} {z : Int32} {rest : List Value} (hret : meth.sig.returnType = some .int) (hd : decode c.code pc = .ok (.ireturn, 1)) {fs : List Frame}
    (hl : ∀ (f : JFrame) (acts : List Action), f.method = m → f.locked = none → f.entered = [] → (doReturn e (T.setTop f) acts (some (.int z))).1 = T.setFrames fs) : Steps p.tables e below (T.setTop (mkF m pc Ls (.int z :: rest))) (T.setFrames fs) := by
  have hm' : T.vm.method? m = some meth := X.method'
  have hn : narrow .int (.int z) = .int z := rfl
  show Steps p.tables e below (T.setTop { method := m, pc := pc, locals := Ls, stack := _ :: rest, locked := none }) _
  jvm_step X.here [X.here.top, hx, hd, hm', hret, hn]
  first | (intro acts; rw [hl _ acts rfl rfl rfl]) | rw [hl _ _ rfl rfl rfl]
  exact Steps.refl _
end New
end Jvm.RoadKit
namespace Jvm.Pilot.@@N@@
open Jvm Jvm.ClassFile Sem Op Lib Jvm.Free Jvm.Stand Jvm.LawKit Jvm.RoadKit Bundle Jvm.Pilot.@@N@@.Jvm.D
/-- the run from this frame comes to an end that R takes -/
def own_Fin (tb : Tables) (e : Env) (below : List Frame) (R : State → Prop) (T : State) (g : JFrame) : Prop := ∃ t, Steps tb e below (T.setTop g) t ∧ R t
theorem own_st {tb : Tables} {e : Env} {below : List Frame} {R : State → Prop} {T T' : State} {g g' : JFrame} (h : own_Fin tb e below R T' g') (k : ∀ t, Steps tb e below (T'.setTop g') t → Steps tb e below (T.setTop g) t) : own_Fin tb e below R T g := by
  obtain ⟨t, a, b⟩ := h
  exact ⟨t, k t a, b⟩
def own_End (below : List Frame) (s : State) (Q : Option Value → Heap → List Loc → Prop) (cells slots : Nat) (t : State) : Prop := t.status = .running ∧ ∃ o, Ended t below o ∧ ∃ v L, o = .returned v ∧ Q v t.heap L ∧ FrameEnd s o t L cells slots
/-- a body that writes nothing -/
def own_P (h0 : Heap) (n0 : Nat) (w : Option Value) (v : Option Value) (h : Heap) (L : List Loc) : Prop := v = w ∧ Fr n0 L ∧ h = h0
theorem own_cast {tb : Tables} {e : Env} {below : List Frame} {R R' : State → Prop} {T : State} {g : JFrame} (q : R' = R) (h : own_Fin tb e below R' T g) : own_Fin tb e below R T g := q ▸ h
/-- the law: what it returns, and nothing old is written -/
def own_L (n0 : Nat) (w : Value) (v : Option Value) (h : Heap) (L : List Loc) : Prop := v = some w ∧ Fr n0 L
theorem own_lcW (a b : Int64) : lcmpW a b = if a > b then 1 else if a = b then 0 else -1 := rfl
theorem own_lc_lt {a b : Int64} : lcmpW a b < 0 ↔ a < b := by
  rw [own_lcW]
  by_cases h1 : a > b
  · rw [if_pos h1]
    exact ⟨fun h => absurd h (by decide), fun h => absurd (Int64.lt_trans h h1) Int64.lt_irrefl⟩
  · rw [if_neg h1]
    by_cases h2 : a = b
    · rw [if_pos h2]
      exact ⟨fun h => absurd h (by decide), fun h => absurd (h2 ▸ h) Int64.lt_irrefl⟩
    · rw [if_neg h2]
      refine ⟨fun _ => ?_, fun _ => by decide⟩
      rw [Int64.lt_iff_toInt_lt] at *
      have h3 : a.toInt ≠ b.toInt := fun q => h2 (Int64.toInt_inj.mp q)
      have h4 : ¬ b.toInt < a.toInt := fun q => h1 (Int64.lt_iff_toInt_lt.mpr q)
      omega
theorem own_lc_gt {a b : Int64} : 0 < lcmpW a b ↔ b < a := by
  rw [own_lcW]
  by_cases h1 : a > b
  · rw [if_pos h1]; exact ⟨fun _ => h1, fun _ => by decide⟩
  · rw [if_neg h1]
    by_cases h2 : a = b
    · rw [if_pos h2]; exact ⟨fun h => absurd h (by decide), fun h => absurd h h1⟩
    · rw [if_neg h2]; exact ⟨fun h => absurd h (by decide), fun h => absurd h h1⟩
theorem own_lc_eq {a b : Int64} : lcmpW a b = 0 ↔ a = b := by
  rw [own_lcW]
  by_cases h1 : a > b
  · rw [if_pos h1]; exact ⟨fun h => absurd h (by decide), fun h => absurd (h ▸ h1 : a > a) Int64.lt_irrefl⟩
  · rw [if_neg h1]
    by_cases h2 : a = b
    · rw [if_pos h2]; exact ⟨fun _ => h2, fun _ => rfl⟩
    · rw [if_neg h2]; exact ⟨fun h => absurd h (by decide), fun h => absurd h h2⟩
def own_EndW (below : List Frame) (s : State) (Q : Option Value → Heap → List Loc → Prop) (cells slots : Nat) (t : State) : Prop := t.status = .running ∧ ∃ o, Ended t below o ∧ ∃ v L, o = .returned v ∧ Q v t.heap L ∧ ReturnedEndW s o t L cells slots
theorem own_fr {tb : Tables} {e : Env} {below : List Frame} {R : State → Prop} {T : State} {g g' : JFrame} (q : g' = g) (h : own_Fin tb e below R T g') : own_Fin tb e below R T g := q ▸ h
theorem own_irr32 (x : Int32) : ¬ x < x := Int32.lt_irrefl
theorem own_irr64 (x : Int64) : ¬ x < x := Int64.lt_irrefl
def own_ush32 (x y : Int32) : Int32 := (x.toUInt32 >>> (y &&& 31).toUInt32).toInt32
def own_ush64 (x : Int64) (y : Int32) : Int64 := (x.toUInt64 >>> (y &&& 0x3f).toInt64.toUInt64).toInt64
section OwnStep
variable {p : Program} {l : Launch} {e : Env} {R : Room} {s : State} {m : MethodId} {args : Array Value} {below : List Frame} {meth : Method} {c : Code} {T : State} {locs : List Loc} {kc ks : Nat} {Rr : State → Prop} {Ls Ls' : Array Slot} {st : List Value} {pc pc' : Nat} {Z : State} {a0 : Array Value} {h : Heap}
theorem own_iload (X : Stand p l e R s m args below meth c T locs kc ks) (hx : p.tables.exec = Jvm.exec) {j : Nat} {v : Int32} (hd : decode c.code pc = .ok (.iload j, 2)) (hp : pc + 2 = pc') (hl : Ls[j]? = some (.val (.int v))) (h : own_Fin p.tables e below Rr T (mkF m pc' Ls (.int v :: st))) : own_Fin p.tables e below Rr T (mkF m pc Ls st) := by
  subst hp; exact own_st h (fun t k => XS.iload X.here hx rfl hd hl k)
theorem own_iloadN (X : Stand p l e R s m args below meth c T locs kc ks) (hx : p.tables.exec = Jvm.exec) {j : Fin 4} {v : Int32} (hd : decode c.code pc = .ok (.iload_n j, 1)) (hp : pc + 1 = pc') (hl : Ls[j.val]? = some (.val (.int v))) (h : own_Fin p.tables e below Rr T (mkF m pc' Ls (.int v :: st))) : own_Fin p.tables e below Rr T (mkF m pc Ls st) := by
  subst hp; exact own_st h (fun t k => XS.iloadN X.here hx rfl hd hl k)
theorem own_istore (X : Stand p l e R s m args below meth c T locs kc ks) (hx : p.tables.exec = Jvm.exec) {j : Nat} {v : Int32} (hd : decode c.code pc = .ok (.istore j, 2)) (hp : pc + 2 = pc') (hl : storeLocals Ls j (.int v) = some Ls') (h : own_Fin p.tables e below Rr T (mkF m pc' Ls' st)) : own_Fin p.tables e below Rr T (mkF m pc Ls (.int v :: st)) := by
  subst hp; exact own_st h (fun t k => XS.istore X.here hx rfl hd rfl hl k)
theorem own_istoreN (X : Stand p l e R s m args below meth c T locs kc ks) (hx : p.tables.exec = Jvm.exec) {j : Fin 4} {v : Int32} (hd : decode c.code pc = .ok (.istore_n j, 1)) (hp : pc + 1 = pc') (hl : storeLocals Ls j.val (.int v) = some Ls') (h : own_Fin p.tables e below Rr T (mkF m pc' Ls' st)) : own_Fin p.tables e below Rr T (mkF m pc Ls (.int v :: st)) := by
  subst hp; exact own_st h (fun t k => XS.istoreN X.here hx rfl hd rfl hl k)
theorem own_lload (X : Stand p l e R s m args below meth c T locs kc ks) (hx : p.tables.exec = Jvm.exec) {j : Nat} {v : Int64} (hd : decode c.code pc = .ok (.lload j, 2)) (hp : pc + 2 = pc') (hl : Ls[j]? = some (.val (.long v))) (h : own_Fin p.tables e below Rr T (mkF m pc' Ls (.long v :: st))) : own_Fin p.tables e below Rr T (mkF m pc Ls st) := by
  subst hp; exact own_st h (fun t k => XS.lload X.here hx rfl hd hl k)
theorem own_lloadN (X : Stand p l e R s m args below meth c T locs kc ks) (hx : p.tables.exec = Jvm.exec) {j : Fin 4} {v : Int64} (hd : decode c.code pc = .ok (.lload_n j, 1)) (hp : pc + 1 = pc') (hl : Ls[j.val]? = some (.val (.long v))) (h : own_Fin p.tables e below Rr T (mkF m pc' Ls (.long v :: st))) : own_Fin p.tables e below Rr T (mkF m pc Ls st) := by
  subst hp; exact own_st h (fun t k => XS.lloadN X.here hx rfl hd hl k)
theorem own_lstore (X : Stand p l e R s m args below meth c T locs kc ks) (hx : p.tables.exec = Jvm.exec) {j : Nat} {v : Int64} (hd : decode c.code pc = .ok (.lstore j, 2)) (hp : pc + 2 = pc') (hl : storeLocals Ls j (.long v) = some Ls') (h : own_Fin p.tables e below Rr T (mkF m pc' Ls' st)) : own_Fin p.tables e below Rr T (mkF m pc Ls (.long v :: st)) := by
  subst hp; exact own_st h (fun t k => XS.lstore X.here hx rfl hd rfl hl k)
theorem own_lstoreN (X : Stand p l e R s m args below meth c T locs kc ks) (hx : p.tables.exec = Jvm.exec) {j : Fin 4} {v : Int64} (hd : decode c.code pc = .ok (.lstore_n j, 1)) (hp : pc + 1 = pc') (hl : storeLocals Ls j.val (.long v) = some Ls') (h : own_Fin p.tables e below Rr T (mkF m pc' Ls' st)) : own_Fin p.tables e below Rr T (mkF m pc Ls (.long v :: st)) := by
  subst hp; exact own_st h (fun t k => XS.lstoreN X.here hx rfl hd rfl hl k)
theorem own_aload (X : Stand p l e R s m args below meth c T locs kc ks) (hx : p.tables.exec = Jvm.exec) {j : Nat} {v : Value} (hd : decode c.code pc = .ok (.aload j, 2)) (hp : pc + 2 = pc') (hl : Ls[j]? = some (.val v)) (hv : v.isRef = true) (h : own_Fin p.tables e below Rr T (mkF m pc' Ls (v :: st))) : own_Fin p.tables e below Rr T (mkF m pc Ls st) := by
  subst hp; exact own_st h (fun t k => XS.aload X.here hx rfl hd hl hv k)
theorem own_aloadN (X : Stand p l e R s m args below meth c T locs kc ks) (hx : p.tables.exec = Jvm.exec) {j : Fin 4} {v : Value} (hd : decode c.code pc = .ok (.aload_n j, 1)) (hp : pc + 1 = pc') (hl : Ls[j.val]? = some (.val v)) (hv : v.isRef = true) (h : own_Fin p.tables e below Rr T (mkF m pc' Ls (v :: st))) : own_Fin p.tables e below Rr T (mkF m pc Ls st) := by
  subst hp; exact own_st h (fun t k => XS.aloadN X.here hx rfl hd hl hv k)
theorem own_astore (X : Stand p l e R s m args below meth c T locs kc ks) (hx : p.tables.exec = Jvm.exec) {j : Nat} {v : Value} (hd : decode c.code pc = .ok (.astore j, 2)) (hp : pc + 2 = pc') (hv : v.isRef = true) (hl : storeLocals Ls j v = some Ls') (h : own_Fin p.tables e below Rr T (mkF m pc' Ls' st)) : own_Fin p.tables e below Rr T (mkF m pc Ls (v :: st)) := by
  subst hp; exact own_st h (fun t k => XS.astore X.here hx rfl hd rfl hv hl k)
theorem own_astoreN (X : Stand p l e R s m args below meth c T locs kc ks) (hx : p.tables.exec = Jvm.exec) {j : Fin 4} {v : Value} (hd : decode c.code pc = .ok (.astore_n j, 1)) (hp : pc + 1 = pc') (hv : v.isRef = true) (hl : storeLocals Ls j.val v = some Ls') (h : own_Fin p.tables e below Rr T (mkF m pc' Ls' st)) : own_Fin p.tables e below Rr T (mkF m pc Ls (v :: st)) := by
  subst hp; exact own_st h (fun t k => XS.astoreN X.here hx rfl hd rfl hv hl k)
theorem own_iconst (X : Stand p l e R s m args below meth c T locs kc ks) (hx : p.tables.exec = Jvm.exec) {i : Int} {v : Int32} (hd : decode c.code pc = .ok (.iconst i, 1)) (hp : pc + 1 = pc') (hv : Int32.ofInt i = v) (h : own_Fin p.tables e below Rr T (mkF m pc' Ls (.int v :: st))) : own_Fin p.tables e below Rr T (mkF m pc Ls st) := by
  subst hp; exact own_st h (fun t k => XS.iconst X.here hx rfl hd (hv ▸ k))
theorem own_bipush (X : Stand p l e R s m args below meth c T locs kc ks) (hx : p.tables.exec = Jvm.exec) {i : Int} {v : Int32} (hd : decode c.code pc = .ok (.bipush i, 2)) (hp : pc + 2 = pc') (hv : (Int8.ofInt i).toInt32 = v) (h : own_Fin p.tables e below Rr T (mkF m pc' Ls (.int v :: st))) : own_Fin p.tables e below Rr T (mkF m pc Ls st) := by
  subst hp; exact own_st h (fun t k => XS.bipush X.here hx rfl hd (hv ▸ k))
theorem own_sipush (X : Stand p l e R s m args below meth c T locs kc ks) (hx : p.tables.exec = Jvm.exec) {i : Int} {v : Int32} (hd : decode c.code pc = .ok (.sipush i, 3)) (hp : pc + 3 = pc') (hv : (Int16.ofInt i).toInt32 = v) (h : own_Fin p.tables e below Rr T (mkF m pc' Ls (.int v :: st))) : own_Fin p.tables e below Rr T (mkF m pc Ls st) := by
  subst hp; exact own_st h (fun t k => XS.sipush X.here hx rfl hd (hv ▸ k))
theorem own_lconst (X : Stand p l e R s m args below meth c T locs kc ks) (hx : p.tables.exec = Jvm.exec) {i : Fin 2} {v : Int64} (hd : decode c.code pc = .ok (.lconst i, 1)) (hp : pc + 1 = pc') (hv : Int64.ofNat i = v) (h : own_Fin p.tables e below Rr T (mkF m pc' Ls (.long v :: st))) : own_Fin p.tables e below Rr T (mkF m pc Ls st) := by
  subst hp; exact own_st h (fun t k => XS.lconst X.here hx rfl hd (hv ▸ k))
theorem own_aconstNull (X : Stand p l e R s m args below meth c T locs kc ks) (hx : p.tables.exec = Jvm.exec)  (hd : decode c.code pc = .ok (.aconst_null, 1)) (hp : pc + 1 = pc')  (h : own_Fin p.tables e below Rr T (mkF m pc' Ls (.null :: st))) : own_Fin p.tables e below Rr T (mkF m pc Ls st) := by
  subst hp; exact own_st h (fun t k => XS.aconstNull X.here hx rfl hd k)
theorem own_iadd (X : Stand p l e R s m args below meth c T locs kc ks) (hx : p.tables.exec = Jvm.exec) {x y : Int32} (hd : decode c.code pc = .ok (.iadd, 1)) (hp : pc + 1 = pc')  (h : own_Fin p.tables e below Rr T (mkF m pc' Ls (.int (x + y) :: st))) : own_Fin p.tables e below Rr T (mkF m pc Ls (.int y :: .int x :: st)) := by
  subst hp; exact own_st h (fun t k => XS.iadd X.here hx rfl hd rfl k)
theorem own_ladd (X : Stand p l e R s m args below meth c T locs kc ks) (hx : p.tables.exec = Jvm.exec) {x y : Int64} (hd : decode c.code pc = .ok (.ladd, 1)) (hp : pc + 1 = pc')  (h : own_Fin p.tables e below Rr T (mkF m pc' Ls (.long (x + y) :: st))) : own_Fin p.tables e below Rr T (mkF m pc Ls (.long y :: .long x :: st)) := by
  subst hp; exact own_st h (fun t k => XS.ladd X.here hx rfl hd rfl k)
theorem own_isub (X : Stand p l e R s m args below meth c T locs kc ks) (hx : p.tables.exec = Jvm.exec) {x y : Int32} (hd : decode c.code pc = .ok (.isub, 1)) (hp : pc + 1 = pc')  (h : own_Fin p.tables e below Rr T (mkF m pc' Ls (.int (x - y) :: st))) : own_Fin p.tables e below Rr T (mkF m pc Ls (.int y :: .int x :: st)) := by
  subst hp; exact own_st h (fun t k => XS.isub X.here hx rfl hd rfl k)
theorem own_lsub (X : Stand p l e R s m args below meth c T locs kc ks) (hx : p.tables.exec = Jvm.exec) {x y : Int64} (hd : decode c.code pc = .ok (.lsub, 1)) (hp : pc + 1 = pc')  (h : own_Fin p.tables e below Rr T (mkF m pc' Ls (.long (x - y) :: st))) : own_Fin p.tables e below Rr T (mkF m pc Ls (.long y :: .long x :: st)) := by
  subst hp; exact own_st h (fun t k => XS.lsub X.here hx rfl hd rfl k)
theorem own_imul (X : Stand p l e R s m args below meth c T locs kc ks) (hx : p.tables.exec = Jvm.exec) {x y : Int32} (hd : decode c.code pc = .ok (.imul, 1)) (hp : pc + 1 = pc')  (h : own_Fin p.tables e below Rr T (mkF m pc' Ls (.int (x * y) :: st))) : own_Fin p.tables e below Rr T (mkF m pc Ls (.int y :: .int x :: st)) := by
  subst hp; exact own_st h (fun t k => XS.imul X.here hx rfl hd rfl k)
theorem own_lmul (X : Stand p l e R s m args below meth c T locs kc ks) (hx : p.tables.exec = Jvm.exec) {x y : Int64} (hd : decode c.code pc = .ok (.lmul, 1)) (hp : pc + 1 = pc')  (h : own_Fin p.tables e below Rr T (mkF m pc' Ls (.long (x * y) :: st))) : own_Fin p.tables e below Rr T (mkF m pc Ls (.long y :: .long x :: st)) := by
  subst hp; exact own_st h (fun t k => XS.lmul X.here hx rfl hd rfl k)
theorem own_iand (X : Stand p l e R s m args below meth c T locs kc ks) (hx : p.tables.exec = Jvm.exec) {x y : Int32} (hd : decode c.code pc = .ok (.iand, 1)) (hp : pc + 1 = pc')  (h : own_Fin p.tables e below Rr T (mkF m pc' Ls (.int (x &&& y) :: st))) : own_Fin p.tables e below Rr T (mkF m pc Ls (.int y :: .int x :: st)) := by
  subst hp; exact own_st h (fun t k => XS.iand X.here hx rfl hd rfl k)
theorem own_land (X : Stand p l e R s m args below meth c T locs kc ks) (hx : p.tables.exec = Jvm.exec) {x y : Int64} (hd : decode c.code pc = .ok (.land, 1)) (hp : pc + 1 = pc')  (h : own_Fin p.tables e below Rr T (mkF m pc' Ls (.long (x &&& y) :: st))) : own_Fin p.tables e below Rr T (mkF m pc Ls (.long y :: .long x :: st)) := by
  subst hp; exact own_st h (fun t k => XS.land X.here hx rfl hd rfl k)
theorem own_ior (X : Stand p l e R s m args below meth c T locs kc ks) (hx : p.tables.exec = Jvm.exec) {x y : Int32} (hd : decode c.code pc = .ok (.ior, 1)) (hp : pc + 1 = pc')  (h : own_Fin p.tables e below Rr T (mkF m pc' Ls (.int (x ||| y) :: st))) : own_Fin p.tables e below Rr T (mkF m pc Ls (.int y :: .int x :: st)) := by
  subst hp; exact own_st h (fun t k => XS.ior X.here hx rfl hd rfl k)
theorem own_lor (X : Stand p l e R s m args below meth c T locs kc ks) (hx : p.tables.exec = Jvm.exec) {x y : Int64} (hd : decode c.code pc = .ok (.lor, 1)) (hp : pc + 1 = pc')  (h : own_Fin p.tables e below Rr T (mkF m pc' Ls (.long (x ||| y) :: st))) : own_Fin p.tables e below Rr T (mkF m pc Ls (.long y :: .long x :: st)) := by
  subst hp; exact own_st h (fun t k => XS.lor X.here hx rfl hd rfl k)
theorem own_ixor (X : Stand p l e R s m args below meth c T locs kc ks) (hx : p.tables.exec = Jvm.exec) {x y : Int32} (hd : decode c.code pc = .ok (.ixor, 1)) (hp : pc + 1 = pc')  (h : own_Fin p.tables e below Rr T (mkF m pc' Ls (.int (x ^^^ y) :: st))) : own_Fin p.tables e below Rr T (mkF m pc Ls (.int y :: .int x :: st)) := by
  subst hp; exact own_st h (fun t k => XS.ixor X.here hx rfl hd rfl k)
theorem own_lxor (X : Stand p l e R s m args below meth c T locs kc ks) (hx : p.tables.exec = Jvm.exec) {x y : Int64} (hd : decode c.code pc = .ok (.lxor, 1)) (hp : pc + 1 = pc')  (h : own_Fin p.tables e below Rr T (mkF m pc' Ls (.long (x ^^^ y) :: st))) : own_Fin p.tables e below Rr T (mkF m pc Ls (.long y :: .long x :: st)) := by
  subst hp; exact own_st h (fun t k => XS.lxor X.here hx rfl hd rfl k)
theorem own_idiv (X : Stand p l e R s m args below meth c T locs kc ks) (hx : p.tables.exec = Jvm.exec) {x y : Int32} (hd : decode c.code pc = .ok (.idiv, 1)) (hp : pc + 1 = pc') (hy : y ≠ 0) (h : own_Fin p.tables e below Rr T (mkF m pc' Ls (.int (x / y) :: st))) : own_Fin p.tables e below Rr T (mkF m pc Ls (.int y :: .int x :: st)) := by
  subst hp; exact own_st h (fun t k => XS.idiv X.here hx rfl hd rfl hy k)
theorem own_ldiv (X : Stand p l e R s m args below meth c T locs kc ks) (hx : p.tables.exec = Jvm.exec) {x y : Int64} (hd : decode c.code pc = .ok (.ldiv, 1)) (hp : pc + 1 = pc') (hy : y ≠ 0) (h : own_Fin p.tables e below Rr T (mkF m pc' Ls (.long (x / y) :: st))) : own_Fin p.tables e below Rr T (mkF m pc Ls (.long y :: .long x :: st)) := by
  subst hp; exact own_st h (fun t k => XS.ldiv X.here hx rfl hd rfl hy k)
theorem own_irem (X : Stand p l e R s m args below meth c T locs kc ks) (hx : p.tables.exec = Jvm.exec) {x y : Int32} (hd : decode c.code pc = .ok (.irem, 1)) (hp : pc + 1 = pc') (hy : y ≠ 0) (h : own_Fin p.tables e below Rr T (mkF m pc' Ls (.int (x - (x / y) * y) :: st))) : own_Fin p.tables e below Rr T (mkF m pc Ls (.int y :: .int x :: st)) := by
  subst hp; exact own_st h (fun t k => XS.irem X.here hx rfl hd rfl hy k)
theorem own_lrem (X : Stand p l e R s m args below meth c T locs kc ks) (hx : p.tables.exec = Jvm.exec) {x y : Int64} (hd : decode c.code pc = .ok (.lrem, 1)) (hp : pc + 1 = pc') (hy : y ≠ 0) (h : own_Fin p.tables e below Rr T (mkF m pc' Ls (.long (x - (x / y) * y) :: st))) : own_Fin p.tables e below Rr T (mkF m pc Ls (.long y :: .long x :: st)) := by
  subst hp; exact own_st h (fun t k => XS.lrem X.here hx rfl hd rfl hy k)
theorem own_ishl (X : Stand p l e R s m args below meth c T locs kc ks) (hx : p.tables.exec = Jvm.exec) {x y : Int32} (hd : decode c.code pc = .ok (.ishl, 1)) (hp : pc + 1 = pc')  (h : own_Fin p.tables e below Rr T (mkF m pc' Ls (.int (x <<< (y &&& 31)) :: st))) : own_Fin p.tables e below Rr T (mkF m pc Ls (.int y :: .int x :: st)) := by
  subst hp; exact own_st h (fun t k => XS.ishl X.here hx rfl hd rfl k)
theorem own_ishr (X : Stand p l e R s m args below meth c T locs kc ks) (hx : p.tables.exec = Jvm.exec) {x y : Int32} (hd : decode c.code pc = .ok (.ishr, 1)) (hp : pc + 1 = pc')  (h : own_Fin p.tables e below Rr T (mkF m pc' Ls (.int (x >>> (y &&& 31)) :: st))) : own_Fin p.tables e below Rr T (mkF m pc Ls (.int y :: .int x :: st)) := by
  subst hp; exact own_st h (fun t k => XS.ishr X.here hx rfl hd rfl k)
theorem own_iushr (X : Stand p l e R s m args below meth c T locs kc ks) (hx : p.tables.exec = Jvm.exec) {x y : Int32} (hd : decode c.code pc = .ok (.iushr, 1)) (hp : pc + 1 = pc')  (h : own_Fin p.tables e below Rr T (mkF m pc' Ls (.int (own_ush32 x y) :: st))) : own_Fin p.tables e below Rr T (mkF m pc Ls (.int y :: .int x :: st)) := by
  subst hp; exact own_st h (fun t k => XS.iushr X.here hx rfl hd rfl k)
theorem own_lshl (X : Stand p l e R s m args below meth c T locs kc ks) (hx : p.tables.exec = Jvm.exec) {x : Int64} {y : Int32} (hd : decode c.code pc = .ok (.lshl, 1)) (hp : pc + 1 = pc')  (h : own_Fin p.tables e below Rr T (mkF m pc' Ls (.long (x <<< (y &&& 63).toInt64) :: st))) : own_Fin p.tables e below Rr T (mkF m pc Ls (.int y :: .long x :: st)) := by
  subst hp; exact own_st h (fun t k => XS.lshl X.here hx rfl hd rfl k)
theorem own_lshr (X : Stand p l e R s m args below meth c T locs kc ks) (hx : p.tables.exec = Jvm.exec) {x : Int64} {y : Int32} (hd : decode c.code pc = .ok (.lshr, 1)) (hp : pc + 1 = pc')  (h : own_Fin p.tables e below Rr T (mkF m pc' Ls (.long (x >>> (y &&& 63).toInt64) :: st))) : own_Fin p.tables e below Rr T (mkF m pc Ls (.int y :: .long x :: st)) := by
  subst hp; exact own_st h (fun t k => XS.lshr X.here hx rfl hd rfl k)
theorem own_lushr (X : Stand p l e R s m args below meth c T locs kc ks) (hx : p.tables.exec = Jvm.exec) {x : Int64} {y : Int32} (hd : decode c.code pc = .ok (.lushr, 1)) (hp : pc + 1 = pc')  (h : own_Fin p.tables e below Rr T (mkF m pc' Ls (.long (own_ush64 x y) :: st))) : own_Fin p.tables e below Rr T (mkF m pc Ls (.int y :: .long x :: st)) := by
  subst hp; exact own_st h (fun t k => XS.lushr X.here hx rfl hd rfl k)
theorem own_ineg (X : Stand p l e R s m args below meth c T locs kc ks) (hx : p.tables.exec = Jvm.exec) {x : Int32} (hd : decode c.code pc = .ok (.ineg, 1)) (hp : pc + 1 = pc')  (h : own_Fin p.tables e below Rr T (mkF m pc' Ls (.int (-x) :: st))) : own_Fin p.tables e below Rr T (mkF m pc Ls (.int x :: st)) := by
  subst hp; exact own_st h (fun t k => XS.ineg X.here hx rfl hd rfl k)
theorem own_lneg (X : Stand p l e R s m args below meth c T locs kc ks) (hx : p.tables.exec = Jvm.exec) {x : Int64} (hd : decode c.code pc = .ok (.lneg, 1)) (hp : pc + 1 = pc')  (h : own_Fin p.tables e below Rr T (mkF m pc' Ls (.long (-x) :: st))) : own_Fin p.tables e below Rr T (mkF m pc Ls (.long x :: st)) := by
  subst hp; exact own_st h (fun t k => XS.lneg X.here hx rfl hd rfl k)
theorem own_i2l (X : Stand p l e R s m args below meth c T locs kc ks) (hx : p.tables.exec = Jvm.exec) {x : Int32} (hd : decode c.code pc = .ok (.i2l, 1)) (hp : pc + 1 = pc')  (h : own_Fin p.tables e below Rr T (mkF m pc' Ls (.long (x.toInt64) :: st))) : own_Fin p.tables e below Rr T (mkF m pc Ls (.int x :: st)) := by
  subst hp; exact own_st h (fun t k => XS.i2l X.here hx rfl hd rfl k)
theorem own_l2i (X : Stand p l e R s m args below meth c T locs kc ks) (hx : p.tables.exec = Jvm.exec) {x : Int64} (hd : decode c.code pc = .ok (.l2i, 1)) (hp : pc + 1 = pc')  (h : own_Fin p.tables e below Rr T (mkF m pc' Ls (.int (x.toInt32) :: st))) : own_Fin p.tables e below Rr T (mkF m pc Ls (.long x :: st)) := by
  subst hp; exact own_st h (fun t k => XS.l2i X.here hx rfl hd rfl k)
theorem own_i2b (X : Stand p l e R s m args below meth c T locs kc ks) (hx : p.tables.exec = Jvm.exec) {x : Int32} (hd : decode c.code pc = .ok (.i2b, 1)) (hp : pc + 1 = pc')  (h : own_Fin p.tables e below Rr T (mkF m pc' Ls (.int (x.toInt8.toInt32) :: st))) : own_Fin p.tables e below Rr T (mkF m pc Ls (.int x :: st)) := by
  subst hp; exact own_st h (fun t k => XS.i2b X.here hx rfl hd rfl k)
theorem own_i2s (X : Stand p l e R s m args below meth c T locs kc ks) (hx : p.tables.exec = Jvm.exec) {x : Int32} (hd : decode c.code pc = .ok (.i2s, 1)) (hp : pc + 1 = pc')  (h : own_Fin p.tables e below Rr T (mkF m pc' Ls (.int (x.toInt16.toInt32) :: st))) : own_Fin p.tables e below Rr T (mkF m pc Ls (.int x :: st)) := by
  subst hp; exact own_st h (fun t k => XS.i2s X.here hx rfl hd rfl k)
theorem own_lcmp (X : Stand p l e R s m args below meth c T locs kc ks) (hx : p.tables.exec = Jvm.exec) {x y : Int64} (hd : decode c.code pc = .ok (.lcmp, 1)) (hp : pc + 1 = pc')  (h : own_Fin p.tables e below Rr T (mkF m pc' Ls (.int (lcmpW x y) :: st))) : own_Fin p.tables e below Rr T (mkF m pc Ls (.long y :: .long x :: st)) := by
  subst hp; exact own_st h (fun t k => XS.lcmp X.here hx rfl hd rfl k)
theorem own_iinc (X : Stand p l e R s m args below meth c T locs kc ks) (hx : p.tables.exec = Jvm.exec) {j : Nat} {i : Int} {x : Int32} (hd : decode c.code pc = .ok (.iinc j i, 3)) (hp : pc + 3 = pc') (hl : Ls[j]? = some (.val (.int x))) (hl' : storeLocals Ls j (.int (x + Int32.ofInt i)) = some Ls') (h : own_Fin p.tables e below Rr T (mkF m pc' Ls' st)) : own_Fin p.tables e below Rr T (mkF m pc Ls st) := by
  subst hp; exact own_st h (fun t k => XS.iinc X.here hx rfl hd hl hl' k)
theorem own_dup (X : Stand p l e R s m args below meth c T locs kc ks) (hx : p.tables.exec = Jvm.exec) {v : Value} (hd : decode c.code pc = .ok (.dup, 1)) (hp : pc + 1 = pc') (hc : v.category = 1) (h : own_Fin p.tables e below Rr T (mkF m pc' Ls (v :: v :: st))) : own_Fin p.tables e below Rr T (mkF m pc Ls (v :: st)) := by
  subst hp; exact own_st h (fun t k => XS.dup X.here hx rfl hd rfl hc k)
theorem own_pop (X : Stand p l e R s m args below meth c T locs kc ks) (hx : p.tables.exec = Jvm.exec) {v : Value} (hd : decode c.code pc = .ok (.pop, 1)) (hp : pc + 1 = pc') (hc : v.category = 1) (h : own_Fin p.tables e below Rr T (mkF m pc' Ls st)) : own_Fin p.tables e below Rr T (mkF m pc Ls (v :: st)) := by
  subst hp; exact own_st h (fun t k => XS.pop X.here hx rfl hd rfl hc k)
theorem own_goto (X : Stand p l e R s m args below meth c T locs kc ks) (hx : p.tables.exec = Jvm.exec) {o : Int} (hd : decode c.code pc = .ok (.goto o, 3))  (ho : 0 ≤ (pc : Int) + o) (hp : ((pc : Int) + o).toNat = pc') (h : own_Fin p.tables e below Rr T (mkF m pc' Ls st)) : own_Fin p.tables e below Rr T (mkF m pc Ls st) := own_st h (fun t k => XS.goto X.here hx rfl (pc0 := pc) (pc' := pc') rfl hd ho hp k)
theorem own_ifYes (X : Stand p l e R s m args below meth c T locs kc ks) (hx : p.tables.exec = Jvm.exec) {cd : ClassFile.Cond} {o : Int} {x : Int32} (hd : decode c.code pc = .ok (.ifCond cd o, 3)) (hc : ifCond.holds cd x = true) (ho : 0 ≤ (pc : Int) + o) (hp : ((pc : Int) + o).toNat = pc') (h : own_Fin p.tables e below Rr T (mkF m pc' Ls st)) : own_Fin p.tables e below Rr T (mkF m pc Ls (.int x :: st)) := own_st h (fun t k => XS.ifYes X.here hx rfl (pc0 := pc) (pc' := pc') rfl hd rfl hc ho hp k)
theorem own_icmpYes (X : Stand p l e R s m args below meth c T locs kc ks) (hx : p.tables.exec = Jvm.exec) {cd : ClassFile.Cond} {o : Int} {x y : Int32} (hd : decode c.code pc = .ok (.if_icmp cd o, 3)) (hc : if_icmp.holds cd x y = true) (ho : 0 ≤ (pc : Int) + o) (hp : ((pc : Int) + o).toNat = pc') (h : own_Fin p.tables e below Rr T (mkF m pc' Ls st)) : own_Fin p.tables e below Rr T (mkF m pc Ls (.int y :: .int x :: st)) := own_st h (fun t k => XS.icmpYes X.here hx rfl (pc0 := pc) (pc' := pc') rfl hd rfl hc ho hp k)
theorem own_ifNo (X : Stand p l e R s m args below meth c T locs kc ks) (hx : p.tables.exec = Jvm.exec) {cd : ClassFile.Cond} {o : Int} {x : Int32} (hd : decode c.code pc = .ok (.ifCond cd o, 3)) (hp : pc + 3 = pc') (hc : ifCond.holds cd x = false) (h : own_Fin p.tables e below Rr T (mkF m pc' Ls st)) : own_Fin p.tables e below Rr T (mkF m pc Ls (.int x :: st)) := by
  subst hp; exact own_st h (fun t k => XS.ifNo X.here hx rfl hd rfl hc k)
theorem own_icmpNo (X : Stand p l e R s m args below meth c T locs kc ks) (hx : p.tables.exec = Jvm.exec) {cd : ClassFile.Cond} {o : Int} {x y : Int32} (hd : decode c.code pc = .ok (.if_icmp cd o, 3)) (hp : pc + 3 = pc') (hc : if_icmp.holds cd x y = false) (h : own_Fin p.tables e below Rr T (mkF m pc' Ls st)) : own_Fin p.tables e below Rr T (mkF m pc Ls (.int y :: .int x :: st)) := by
  subst hp; exact own_st h (fun t k => XS.icmpNo X.here hx rfl hd rfl hc k)
theorem own_ldcInt (X : Stand p l e R s m args below meth c T locs kc ks) (hx : p.tables.exec = Jvm.exec) {own : String} {index : Nat} {v : Int32} (hZ : Z.Warmed39 s.vm) (hown : s.vm.findClass own = some m.cls) (w : (Jvm.Cond.constant own index v).before a0 Z = true) (hd : decode c.code pc = .ok (.ldc index, 2)) (hp : pc + 2 = pc') (h : own_Fin p.tables e below Rr T (mkF m pc' Ls (.int v :: st))) : own_Fin p.tables e below Rr T (mkF m pc Ls st) := by
  subst hp; exact own_st h (fun t k => X.ldcInt hx hown (mvT hZ w) (g := mkF m pc Ls st) rfl hd t k)
theorem own_ldc2Long (X : Stand p l e R s m args below meth c T locs kc ks) (hx : p.tables.exec = Jvm.exec) {own : String} {index : Nat} {v : Int64} (hZ : Z.Warmed39 s.vm) (hown : s.vm.findClass own = some m.cls) (w : (Jvm.Cond.constantLong own index v).before a0 Z = true) (hd : decode c.code pc = .ok (.ldc2_w index, 3)) (hp : pc + 3 = pc') (h : own_Fin p.tables e below Rr T (mkF m pc' Ls (.long v :: st))) : own_Fin p.tables e below Rr T (mkF m pc Ls st) := by
  subst hp; exact own_st h (fun t k => X.ldc2Long hx hown (mvT hZ w) (g := mkF m pc Ls st) rfl hd t k)
theorem own_getF (X : Stand p l e R s m args below meth c T locs kc ks) (hx : p.tables.exec = Jvm.exec) {own R0 O n d : String} {index : Nat} {a : Addr} {v : Value} (hZ : Z.Warmed39 s.vm) (hown : s.vm.findClass own = some m.cls) (w : (Jvm.Cond.fieldLink own index R0 n d).before a0 Z = true) (via : Via Z R0 O n d) (eT : T.heap = h) (Fl : Fld Z h a O n d v) (hd : decode c.code pc = .ok (.getfield index, 3)) (hp : pc + 3 = pc')
    (k : ∀ T', Stand p l e R s m args below meth c T' locs kc ks → T'.heap = h → own_Fin p.tables e below Rr T' (mkF m pc' Ls (v :: st))) : own_Fin p.tables e below Rr T (mkF m pc Ls (.ref a :: st)) := by
  obtain ⟨T', X', e', st'⟩ := getF X hx hZ hown (host := "") (Or.inl w) via eT Fl (g := mkF m pc Ls (.ref a :: st)) rfl rfl hd
  subst hp; exact own_st (k T' X' e') st'
end OwnStep
section OwnPop
variable {p : Program} {l : Launch} {e : Env} {R : Room} {s : State} {m : MethodId} {args : Array Value} {below : List Frame} {meth : Method} {c : Code} {T : State} {locs : List Loc} {k n : Nat}
theorem own_pop2 (X : Stand p l e R s m args below meth c T locs k n) (hx : p.tables.exec = Jvm.exec) {pc : Nat} {Ls : Array Slot} {z : Int64} {rest : List Value} {t : State} (hd : decode c.code pc = .ok (.pop2, 1)) (hr : Steps p.tables e below (T.setTop (mkF m (pc + 1) Ls rest)) t) : Steps p.tables e below (T.setTop (mkF m pc Ls (.long z :: rest))) t := by
  jvm_step X.here [X.here.top, hx, hd, Value.category]
  exact hr
end OwnPop
section OwnRet
variable {p : Program} {l : Launch} {e : Env} {R : Room} {s : State} {m : MethodId} {args : Array Value} {below : List Frame} {meth : Method} {c : Code} {T : State} {locs : List Loc} {k n k' n' : Nat} {Q : Option Value → Heap → List Loc → Prop} {pc : Nat} {Ls : Array Slot}
theorem own_retN (X : Stand p l e R s m args below meth c T locs k n) (hx : p.tables.exec = Jvm.exec) {t : FieldType} (hret : meth.sig.returnType = some t) (ht : t = .boolean ∨ t = .byte ∨ t = .char ∨ t = .short) (hlk : meth.locks = false) {z : Int32} {rest : List Value} (hd : decode c.code pc = .ok (.ireturn, 1)) (hk : k ≤ k') (hn : n ≤ n') (hq : Q (some (.int (nar t z))) T.heap locs) : own_Fin p.tables e below (own_End below s Q k' n') T (mkF m pc Ls (.int z :: rest)) := by
  obtain ⟨fs, hr, hrun, hended, hW, hsame⟩ := X.leave (v := some (.int (nar t z))) (fun h => by rw [hret] at h; cases h) hlk
  exact ⟨_, retN X hx hret ht hd hr, hrun, _, hended, _, _, rfl, hq, ⟨_, rfl⟩, hW, hsame.mono hk hn⟩
theorem own_retNW {vm₁ : Vm} {k0 : Nat} (X : Stand p l e R (s.setVm vm₁) m args below meth c T locs k n) (hx : p.tables.exec = Jvm.exec) (hS : s.Since vm₁ k0) (hk0 : k0 ≤ T.heap.size) {t : FieldType} (hret : meth.sig.returnType = some t) (ht : t = .boolean ∨ t = .byte ∨ t = .char ∨ t = .short) (hlk : meth.locks = false) {z : Int32} {rest : List Value} (hd : decode c.code pc = .ok (.ireturn, 1)) (hk : k ≤ k') (hn : n ≤ n') (hq : Q (some (.int (nar t z))) T.heap locs) : own_Fin p.tables e below (own_EndW below s Q k' n') T (mkF m pc Ls (.int z :: rest)) := by
  obtain ⟨fs, hr, hrun, hended, hW⟩ := X.leaveW hS hk0 (v := some (.int (nar t z))) (fun h => by rw [hret] at h; cases h) hlk
  exact ⟨_, retN X hx hret ht hd hr, hrun, _, hended, _, _, rfl, hq, hW.1, hW.2.1, hW.2.2.1, hW.2.2.2.mono hk hn⟩
theorem own_retI (X : Stand p l e R s m args below meth c T locs k n) (hx : p.tables.exec = Jvm.exec) (hret : meth.sig.returnType = some .int) (hlk : meth.locks = false) {z : Int32} {rest : List Value} (hd : decode c.code pc = .ok (.ireturn, 1)) (hk : k ≤ k') (hn : n ≤ n') (hq : Q (some (.int z)) T.heap locs) : own_Fin p.tables e below (own_End below s Q k' n') T (mkF m pc Ls (.int z :: rest)) := by
  obtain ⟨fs, hr, hrun, hended, hW, hsame⟩ := X.leave (v := some (.int z)) (fun h => by rw [hret] at h; cases h) hlk
  exact ⟨_, retI X hx hret hd hr, hrun, _, hended, _, _, rfl, hq, ⟨_, rfl⟩, hW, hsame.mono hk hn⟩
theorem own_retJ (X : Stand p l e R s m args below meth c T locs k n) (hx : p.tables.exec = Jvm.exec) (hret : meth.sig.returnType = some .long) (hlk : meth.locks = false) {z : Int64} (hd : decode c.code pc = .ok (.lreturn, 1)) (hk : k ≤ k') (hn : n ≤ n') (hq : Q (some (.long z)) T.heap locs) : own_Fin p.tables e below (own_End below s Q k' n') T (mkF m pc Ls [.long z]) := by
  obtain ⟨fs, hr, hrun, hended, hW, hsame⟩ := X.leave (v := some (.long z)) (fun h => by rw [hret] at h; cases h) hlk
  exact ⟨_, lreturnOut X hx hret hd hr, hrun, _, hended, _, _, rfl, hq, ⟨_, rfl⟩, hW, hsame.mono hk hn⟩
theorem own_retV (X : Stand p l e R s m args below meth c T locs k n) (hx : p.tables.exec = Jvm.exec) (hret : meth.sig.returnType = none) (hlk : meth.locks = false) (hd : decode c.code pc = .ok (.return_, 1)) (hk : k ≤ k') (hn : n ≤ n') (hq : Q none T.heap locs) : own_Fin p.tables e below (own_End below s Q k' n') T (mkF m pc Ls []) := by
  obtain ⟨fs, hr, hrun, hended, hW, hsame⟩ := X.leave (v := none) (fun _ => rfl) hlk
  exact ⟨_, X.returnOut hx hret hd hr, hrun, _, hended, _, _, rfl, hq, ⟨_, rfl⟩, hW, hsame.mono hk hn⟩
end OwnRet
end Jvm.Pilot.@@N@@
namespace Jvm.Pilot.@@N@@
open Jvm Jvm.ClassFile Sem Op Lib Jvm.Free Jvm.Stand Jvm.LawKit Jvm.RoadKit Bundle Jvm.Pilot.@@N@@.Jvm.D
theorem pd_0 : parseMethodDescriptor "()I" = some ⟨[], some .int⟩ := by decide +kernel
theorem pd_1 : parseMethodDescriptor "()V" = some ⟨[], none⟩ := by decide +kernel
theorem pd_2 : parseMethodDescriptor "(Lcom/example/bushtit/bushtit/session/SequenceNumbers;Lcom/example/bushtit/bushtit/session/SequenceNumbers;[II)Z" = some ⟨[(.object "com/example/bushtit/bushtit/session/SequenceNumbers"), (.object "com/example/bushtit/bushtit/session/SequenceNumbers"), (.array .int), .int], some .boolean⟩ := by decide +kernel
theorem d1_0 : decode prog_99_method_1_code 0 = .ok (.aload_n 0, 1) := by decide +kernel
theorem d1_1 : decode prog_99_method_1_code 1 = .ok (.invokespecial 1, 3) := by decide +kernel
theorem d1_4 : decode prog_99_method_1_code 4 = .ok (.return_, 1) := by decide +kernel
theorem pn_1 : plainName "com/example/bushtit/bushtit/session/SequenceNumbers" = true := by first | (simp [plainName, overriddenIn]; done) | decide +kernel
set_option maxRecDepth 65536 in
set_option maxHeartbeats 40000000 in
theorem sg1_0 {p : Program} (l : Launch) {e : Env} {s : State} {m : MethodId} {args : Array Value} {below : List Frame} {meth : Method} {c : Code} {Z : State} {a0 : Array Value} (hw : ∀ d ∈ tables_1, d.before a0 Z = true) (hx : p.tables.exec = Jvm.exec) (hZ : Z.Warmed39 s.vm) (hby : c.code = prog_99_method_1_code) (hml : c.maxLocals = 1) (hown : s.vm.findClass "com/example/bushtit/bushtit/session/SequenceNumbers" = some m.cls) (hnm : meth.name = "<init>") (hret : meth.sig.returnType = none) (hlk : meth.locks = false) (q1 : Addr) (w_last_q1 : Int32) {h0 : Heap} {n0 : Nat} (Z0 : n0 ≤ h0.size) {T0 : State} {L0 : List Loc} (X0 : Stand p l e ({ frames := 1, cells := 0, slots := 0, locals := 12 } : Room) s m args below meth c T0 L0 0 0) (N0 : Fr n0 L0) (e0 : T0.heap = h0) (E_q1 : Exa Z h0 q1 "com/example/bushtit/bushtit/session/SequenceNumbers") (F_last_q1 : Fld Z h0 q1 "com/example/bushtit/bushtit/session/SequenceNumbers" "last" "I" (.int w_last_q1)) :
    own_Fin p.tables e below (own_End below s (own_P h0 n0 none) 0 0) T0 (mkF m 0 #[.val (.ref q1)] []) := by
  refine own_aloadN X0 hx (hb hby d1_0) (pc' := 1) rfl rfl rfl ?_
  obtain ⟨T1, X1, e1, st1⟩ := initO X0 hx hZ hown (hw _ (List.mem_of_getElem? (i := 6) rfl)) (hw _ (List.mem_of_getElem? (i := 7) rfl)) (hw _ (List.mem_of_getElem? (i := 8) rfl)) e0 (g := (mkF m 1 #[.val (.ref q1)] [(.ref q1)])) rfl (by rw [hml]; rfl) rfl (hb hby d1_1) (by decide) (W := 0) (by show 2 * 0 + _ ≤ _; exact Nat.le_of_eq rfl) (by decide)
  refine own_st ?_ st1
  show own_Fin _ _ _ _ T1 (mkF m 4 #[.val (.ref q1)] [])
  refine own_retV X1 hx hret hlk (hb hby d1_4) (by decide) (by decide) ?_
  show own_P _ _ _ _ T1.heap _
  exact ⟨rfl, N0, e1⟩
theorem ef_1 (m : MethodId) (q1 : Addr) : entryFrame m #[(.ref q1)] 1 = mkF m 0 #[.val (.ref q1)] [] := by first | (simp [entryFrame, mkF, argsToLocals, Value.category]; done) | rfl
set_option maxRecDepth 65536 in
set_option maxHeartbeats 40000000 in
theorem rm1 (l : Launch) (Z : State) (a0 : Array Value) (hw : ∀ d ∈ tables_1, d.before a0 Z = true) (ws : List Jvm.Cond) (q1 : Addr) (w_last_q1 : Int32) (h0 : Heap) (n0 : Nat) (Z0 : n0 ≤ h0.size) (E_q1 : Exa Z h0 q1 "com/example/bushtit/bushtit/session/SequenceNumbers") (F_last_q1 : Fld Z h0 q1 "com/example/bushtit/bushtit/session/SequenceNumbers" "last" "I" (.int w_last_q1)) :
    MetFree l (⟨"com/example/bushtit/bushtit/session/SequenceNumbers", "<init>", "()V"⟩ : MethodName) (head1 (Jvm.Cond.code (⟨"com/example/bushtit/bushtit/session/SequenceNumbers", "<init>", "()V"⟩ : MethodName) prog_99_method_1_code 1 none :: ws) ({ frames := 1, cells := 0, slots := 0, locals := 12 } : Room)) (fun a U => a = #[(.ref q1)] ∧ Z.Warmed39 U.vm ∧ U.heap = h0) (fun _ _ _ _ _ => True) (fun _ U o U' => ∃ v L, o = .returned v ∧ (own_P h0 n0 none) v U'.heap L ∧ FrameEnd U o U' L ({ frames := 1, cells := 0, slots := 0, locals := 12 } : Room).cells ({ frames := 1, cells := 0, slots := 0, locals := 12 } : Room).slots) := by
  refine MetFree.of_bodySF (plainFor_of_name pn_1) hisR ?_
  intro p e s m args below meth c s₁ Bd hml0 hP hK
  obtain ⟨rfl, hZ, hh⟩ := hP
  have hown : s.vm.findClass "com/example/bushtit/bushtit/session/SequenceNumbers" = some m.cls := findClass_of_methodNamed Bd.named
  have hnm := (name_of_methodNamed Bd.named Bd.method).1
  have X0 : Stand p l e ({ frames := 1, cells := 0, slots := 0, locals := 12 } : Room) s m #[(.ref q1)] below meth c s₁ [] 0 0 := Stand.of_body Bd
  have e0 : s₁.heap = h0 := by rw [← hh, Bd.state]; rfl
  have H := sg1_0 l hw Bd.exec hZ Bd.bytes hml0 hown hnm Bd.returns Bd.notSynchronized q1 w_last_q1 Z0 X0 (Fr.nil n0) e0 E_q1 F_last_q1
  obtain ⟨t, h1, h2, o, h3, h4⟩ := H
  exact ⟨t, o, castTop (ef_1 m q1) h1, h2, h3, h4⟩
theorem d4_0 : decode prog_99_method_2_code 0 = .ok (.aload_n 0, 1) := by decide +kernel
theorem d4_1 : decode prog_99_method_2_code 1 = .ok (.aload_n 0, 1) := by decide +kernel
theorem d4_2 : decode prog_99_method_2_code 2 = .ok (.getfield 7, 3) := by decide +kernel
theorem d4_5 : decode prog_99_method_2_code 5 = .ok (.ldc 13, 2) := by decide +kernel
theorem d4_7 : decode prog_99_method_2_code 7 = .ok (.if_icmp .ne 7, 3) := by decide +kernel
theorem d4_10 : decode prog_99_method_2_code 10 = .ok (.iconst 1, 1) := by decide +kernel
theorem d4_11 : decode prog_99_method_2_code 11 = .ok (.goto 9, 3) := by decide +kernel
theorem d4_14 : decode prog_99_method_2_code 14 = .ok (.aload_n 0, 1) := by decide +kernel
theorem d4_15 : decode prog_99_method_2_code 15 = .ok (.getfield 7, 3) := by decide +kernel
theorem d4_18 : decode prog_99_method_2_code 18 = .ok (.iconst 1, 1) := by decide +kernel
theorem d4_19 : decode prog_99_method_2_code 19 = .ok (.iadd, 1) := by decide +kernel
theorem d4_20 : decode prog_99_method_2_code 20 = .ok (.putfield 7, 3) := by decide +kernel
theorem d4_23 : decode prog_99_method_2_code 23 = .ok (.aload_n 0, 1) := by decide +kernel
theorem d4_24 : decode prog_99_method_2_code 24 = .ok (.getfield 7, 3) := by decide +kernel
theorem d4_27 : decode prog_99_method_2_code 27 = .ok (.ireturn, 1) := by decide +kernel
theorem pn_4 : plainName "com/example/bushtit/bushtit/session/SequenceNumbers" = true := by first | (simp [plainName, overriddenIn]; done) | decide +kernel
def own_f4 (w_last_q1 : Int32) : Int32 :=
  (w_last_q1 + (1 : Int32))
def own_Q4 (Z : State) (q1 : Addr) (w_last_q1 : Int32) (h0 : Heap) (n0 : Nat) (v : Option Value) (h : Heap) (L : List Loc) : Prop := v = some (.int (own_f4 w_last_q1)) ∧ Fr n0 L ∧ Keep h0 h [q1] ∧ Exa Z h q1 "com/example/bushtit/bushtit/session/SequenceNumbers" ∧ Fld Z h q1 "com/example/bushtit/bushtit/session/SequenceNumbers" "last" "I" (.int (w_last_q1 + (1 : Int32)))
set_option maxRecDepth 65536 in
set_option maxHeartbeats 40000000 in
theorem sg4_0 {p : Program} (l : Launch) {e : Env} {s : State} {m : MethodId} {args : Array Value} {below : List Frame} {meth : Method} {c : Code} {Z : State} {a0 : Array Value} (hw : ∀ d ∈ tables_1, d.before a0 Z = true) (hx : p.tables.exec = Jvm.exec) (hZ : Z.Warmed39 s.vm) (hby : c.code = prog_99_method_2_code) (hml : c.maxLocals = 1) (hown : s.vm.findClass "com/example/bushtit/bushtit/session/SequenceNumbers" = some m.cls) (hnm : meth.name = "next") (hret : meth.sig.returnType = (some .int)) (hlk : meth.locks = false) (q1 : Addr) (w_last_q1 : Int32) {h0 : Heap} {n0 : Nat} (Z0 : n0 ≤ h0.size) {T0 : State} {L0 : List Loc} (X0 : Stand p l e ({ frames := 0, cells := 0, slots := 0, locals := 0 } : Room) s m args below meth c T0 L0 0 0) (N0 : Fr n0 L0) (e0 : T0.heap = h0) (E_q1 : Exa Z h0 q1 "com/example/bushtit/bushtit/session/SequenceNumbers") (g_q1 : n0 ≤ q1) (F_last_q1 : Fld Z h0 q1 "com/example/bushtit/bushtit/session/SequenceNumbers" "last" "I" (.int w_last_q1)) (hc7 : ¬ (w_last_q1 = (2147483647 : Int32))) :
    own_Fin p.tables e below (own_End below s (own_Q4 Z q1 w_last_q1 h0 n0) 0 0) T0 (mkF m 0 #[.val (.ref q1)] []) := by
  have K0 := Keep.refl h0 [q1]
  refine own_aloadN X0 hx (hb hby d4_0) (pc' := 1) rfl rfl rfl ?_
  refine own_aloadN X0 hx (hb hby d4_1) (pc' := 2) rfl rfl rfl ?_
  refine own_getF X0 hx hZ hown (hw _ (List.mem_of_getElem? (i := 19) rfl)) Via.refl e0 F_last_q1 (hb hby d4_2) (pc' := 5) rfl (fun T2 X2 e2 => ?_)
  refine own_ldcInt X2 hx hZ hown (hw _ (List.mem_of_getElem? (i := 21) rfl)) (hb hby d4_5) (pc' := 7) rfl ?_
  refine own_icmpYes X2 hx (hb hby d4_7) (feq hc7).2 (pc' := 14) (by decide) (by decide) ?_
  refine own_aloadN X2 hx (hb hby d4_14) (pc' := 15) rfl rfl rfl ?_
  refine own_getF X2 hx hZ hown (hw _ (List.mem_of_getElem? (i := 19) rfl)) Via.refl e2 F_last_q1 (hb hby d4_15) (pc' := 18) rfl (fun T3 X3 e3 => ?_)
  refine own_iconst X3 hx (hb hby d4_18) (pc' := 19) rfl (v := (1 : Int32)) rfl ?_
  refine own_iadd X3 hx (hb hby d4_19) (pc' := 20) rfl ?_
  obtain ⟨T4, h4, X4, e4, W4, st4⟩ := putF X3 hx hZ hown (host := "") (Or.inl (hw _ (List.mem_of_getElem? (i := 19) rfl))) Via.refl e3 F_last_q1 E_q1 (Or.inl (hw _ (List.mem_of_getElem? (i := 20) rfl))) (hw _ (List.mem_of_getElem? (i := 1) rfl)) (ty := .int) (by decide) rfl rfl (g := (mkF m 20 #[.val (.ref q1)] [(.int (w_last_q1 + (1 : Int32))), (.ref q1)])) rfl rfl (hb hby d4_20)
  have E_q1_4 : Exa Z h4 q1 "com/example/bushtit/bushtit/session/SequenceNumbers" := E_q1.wr W4
  have F_q1_last_4 : Fld Z h4 q1 "com/example/bushtit/bushtit/session/SequenceNumbers" "last" "I" (.int (w_last_q1 + (1 : Int32))) := F_last_q1.same W4
  have N4 := Fr.snoc X4 N0 g_q1
  have sz4 : n0 ≤ h4.size := Nat.le_trans Z0 (Keep.of_wr W4).1
  have K4 : Keep h0 h4 [q1] := K0.wr W4 (Or.inl (List.mem_of_getElem? (i := 0) rfl))
  refine own_st ?_ st4
  show own_Fin _ _ _ _ T4 (mkF m 23 #[.val (.ref q1)] [])
  refine own_aloadN X4 hx (hb hby d4_23) (pc' := 24) rfl rfl rfl ?_
  refine own_getF X4 hx hZ hown (hw _ (List.mem_of_getElem? (i := 19) rfl)) Via.refl e4 F_q1_last_4 (hb hby d4_24) (pc' := 27) rfl (fun T5 X5 e5 => ?_)
  refine own_retI X5 hx hret hlk (hb hby d4_27) (by decide) (by decide) ?_
  show own_Q4 Z q1 w_last_q1 h0 n0 _ T5.heap _
  rw [e5]
  exact ⟨(congrArg some (congrArg Value.int (show (w_last_q1 + (1 : Int32)) = (own_f4 w_last_q1) from by rw [own_f4]))), N4, K4, E_q1_4, F_q1_last_4⟩
theorem ef_4 (m : MethodId) (q1 : Addr) : entryFrame m #[(.ref q1)] 1 = mkF m 0 #[.val (.ref q1)] [] := by first | (simp [entryFrame, mkF, argsToLocals, Value.category]; done) | rfl
set_option maxRecDepth 65536 in
set_option maxHeartbeats 40000000 in
theorem rm4 (l : Launch) (Z : State) (a0 : Array Value) (hw : ∀ d ∈ tables_1, d.before a0 Z = true) (ws : List Jvm.Cond) (q1 : Addr) (w_last_q1 : Int32) (h0 : Heap) (n0 : Nat) (Z0 : n0 ≤ h0.size) (E_q1 : Exa Z h0 q1 "com/example/bushtit/bushtit/session/SequenceNumbers") (g_q1 : n0 ≤ q1) (F_last_q1 : Fld Z h0 q1 "com/example/bushtit/bushtit/session/SequenceNumbers" "last" "I" (.int w_last_q1)) (hc7 : ¬ (w_last_q1 = (2147483647 : Int32))) :
    MetFree l (⟨"com/example/bushtit/bushtit/session/SequenceNumbers", "next", "()I"⟩ : MethodName) (head1 (Jvm.Cond.code (⟨"com/example/bushtit/bushtit/session/SequenceNumbers", "next", "()I"⟩ : MethodName) prog_99_method_2_code 1 (some .int) :: ws) ({ frames := 0, cells := 0, slots := 0, locals := 0 } : Room)) (fun a U => a = #[(.ref q1)] ∧ Z.Warmed39 U.vm ∧ U.heap = h0) (fun _ _ _ _ _ => True) (fun _ U o U' => ∃ v L, o = .returned v ∧ (own_Q4 Z q1 w_last_q1 h0 n0) v U'.heap L ∧ FrameEnd U o U' L ({ frames := 0, cells := 0, slots := 0, locals := 0 } : Room).cells ({ frames := 0, cells := 0, slots := 0, locals := 0 } : Room).slots) := by
  refine MetFree.of_bodySF (plainFor_of_name pn_4) hisR ?_
  intro p e s m args below meth c s₁ Bd hml0 hP hK
  obtain ⟨rfl, hZ, hh⟩ := hP
  have hown : s.vm.findClass "com/example/bushtit/bushtit/session/SequenceNumbers" = some m.cls := findClass_of_methodNamed Bd.named
  have hnm := (name_of_methodNamed Bd.named Bd.method).1
  have X0 : Stand p l e ({ frames := 0, cells := 0, slots := 0, locals := 0 } : Room) s m #[(.ref q1)] below meth c s₁ [] 0 0 := Stand.of_body Bd
  have e0 : s₁.heap = h0 := by rw [← hh, Bd.state]; rfl
  have H := sg4_0 l hw Bd.exec hZ Bd.bytes hml0 hown hnm Bd.returns Bd.notSynchronized q1 w_last_q1 Z0 X0 (Fr.nil n0) e0 E_q1 g_q1 F_last_q1 hc7
  obtain ⟨t, h1, h2, o, h3, h4⟩ := H
  exact ⟨t, o, castTop (ef_4 m q1) h1, h2, h3, h4⟩
theorem d3_0 : decode method_2_code 0 = .ok (.iload_n 3, 1) := by decide +kernel
theorem d3_1 : decode method_2_code 1 = .ok (.ifCond .eq 27, 3) := by decide +kernel
theorem d3_4 : decode method_2_code 4 = .ok (.aload_n 2, 1) := by decide +kernel
theorem d3_5 : decode method_2_code 5 = .ok (.iconst 1, 1) := by decide +kernel
theorem d3_6 : decode method_2_code 6 = .ok (.aload_n 2, 1) := by decide +kernel
theorem d3_7 : decode method_2_code 7 = .ok (.iconst 1, 1) := by decide +kernel
theorem d3_8 : decode method_2_code 8 = .ok (.iaload, 1) := by decide +kernel
theorem d3_9 : decode method_2_code 9 = .ok (.iconst 1, 1) := by decide +kernel
theorem d3_10 : decode method_2_code 10 = .ok (.iadd, 1) := by decide +kernel
theorem d3_11 : decode method_2_code 11 = .ok (.iastore, 1) := by decide +kernel
theorem d3_12 : decode method_2_code 12 = .ok (.aload_n 1, 1) := by decide +kernel
theorem d3_13 : decode method_2_code 13 = .ok (.invokevirtual 7, 3) := by decide +kernel
theorem d3_16 : decode method_2_code 16 = .ok (.aload_n 2, 1) := by decide +kernel
theorem d3_17 : decode method_2_code 17 = .ok (.iconst 1, 1) := by decide +kernel
theorem d3_18 : decode method_2_code 18 = .ok (.iaload, 1) := by decide +kernel
theorem d3_19 : decode method_2_code 19 = .ok (.if_icmp .ne 7, 3) := by decide +kernel
theorem d3_22 : decode method_2_code 22 = .ok (.iconst 1, 1) := by decide +kernel
theorem d3_23 : decode method_2_code 23 = .ok (.goto 4, 3) := by decide +kernel
theorem d3_26 : decode method_2_code 26 = .ok (.iconst 0, 1) := by decide +kernel
theorem d3_27 : decode method_2_code 27 = .ok (.ireturn, 1) := by decide +kernel
theorem d3_28 : decode method_2_code 28 = .ok (.aload_n 2, 1) := by decide +kernel
theorem d3_29 : decode method_2_code 29 = .ok (.iconst 0, 1) := by decide +kernel
theorem d3_30 : decode method_2_code 30 = .ok (.aload_n 2, 1) := by decide +kernel
theorem d3_31 : decode method_2_code 31 = .ok (.iconst 0, 1) := by decide +kernel
theorem d3_32 : decode method_2_code 32 = .ok (.iaload, 1) := by decide +kernel
theorem d3_33 : decode method_2_code 33 = .ok (.iconst 1, 1) := by decide +kernel
theorem d3_34 : decode method_2_code 34 = .ok (.iadd, 1) := by decide +kernel
theorem d3_35 : decode method_2_code 35 = .ok (.iastore, 1) := by decide +kernel
theorem d3_36 : decode method_2_code 36 = .ok (.aload_n 0, 1) := by decide +kernel
theorem d3_37 : decode method_2_code 37 = .ok (.invokevirtual 7, 3) := by decide +kernel
theorem d3_40 : decode method_2_code 40 = .ok (.aload_n 2, 1) := by decide +kernel
theorem d3_41 : decode method_2_code 41 = .ok (.iconst 0, 1) := by decide +kernel
theorem d3_42 : decode method_2_code 42 = .ok (.iaload, 1) := by decide +kernel
theorem d3_43 : decode method_2_code 43 = .ok (.if_icmp .ne 7, 3) := by decide +kernel
theorem d3_46 : decode method_2_code 46 = .ok (.iconst 1, 1) := by decide +kernel
theorem d3_47 : decode method_2_code 47 = .ok (.goto 4, 3) := by decide +kernel
theorem d3_50 : decode method_2_code 50 = .ok (.iconst 0, 1) := by decide +kernel
theorem d3_51 : decode method_2_code 51 = .ok (.ireturn, 1) := by decide +kernel
theorem pn_3 : plainName "com/example/bushtit/bushtit/session/SequenceNumbersNextPinLaw" = true := by first | (simp [plainName, overriddenIn]; done) | decide +kernel
def own_f3t (q4 : Int32) (w_last_q1 : Int32) (w_last_q2 : Int32) : Int32 :=
  (1 : Int32)
def own_Q3t (Z : State) (q1 : Addr) (q2 : Addr) (q3 : Addr) (q4 : Int32) (w_last_q1 : Int32) (w_last_q2 : Int32) (kc_q3 : ClassId) (h0 : Heap) (n0 : Nat) (v : Option Value) (h : Heap) (L : List Loc) : Prop := v = some (.int (own_f3t q4 w_last_q1 w_last_q2)) ∧ Fr n0 L ∧ Keep h0 h [q1, q2, q3] ∧ Exa Z h q1 "com/example/bushtit/bushtit/session/SequenceNumbers" ∧ Fld Z h q1 "com/example/bushtit/bushtit/session/SequenceNumbers" "last" "I" (.int (w_last_q1 + (1 : Int32))) ∧ Exa Z h q2 "com/example/bushtit/bushtit/session/SequenceNumbers" ∧ Fld Z h q2 "com/example/bushtit/bushtit/session/SequenceNumbers" "last" "I" (.int w_last_q2) ∧ Arv Z h q3 kc_q3 .int (2 : Int32) [(.int (w_last_q1 + (1 : Int32))), (.int w_last_q2)] (.int (0 : Int32))
set_option maxRecDepth 65536 in
set_option maxHeartbeats 40000000 in
theorem sg3t_0 {p : Program} (l : Launch) {e : Env} {s : State} {m : MethodId} {args : Array Value} {below : List Frame} {meth : Method} {c : Code} {Z : State} {a0 : Array Value} (hw : ∀ d ∈ tables_1, d.before a0 Z = true) (hx : p.tables.exec = Jvm.exec) (hZ : Z.Warmed39 s.vm) (hby : c.code = method_2_code) (hml : c.maxLocals = 4) (hown : s.vm.findClass "com/example/bushtit/bushtit/session/SequenceNumbersNextPinLaw" = some m.cls) (hnm : meth.name = "step") (hret : meth.sig.returnType = (some .boolean)) (hlk : meth.locks = false) (q1 : Addr) (q2 : Addr) (q3 : Addr) (q4 : Int32) (w_last_q1 : Int32) (w_last_q2 : Int32) (kc_q3 : ClassId) {h0 : Heap} {n0 : Nat} (Z0 : n0 ≤ h0.size) {T0 : State} {L0 : List Loc} (X0 : Stand p l e ({ frames := 1, cells := 0, slots := 0, locals := 12 } : Room) s m args below meth c T0 L0 0 0) (N0 : Fr n0 L0) (e0 : T0.heap = h0) (E_q1 : Exa Z h0 q1 "com/example/bushtit/bushtit/session/SequenceNumbers") (g_q1 : n0 ≤ q1) (F_last_q1 : Fld Z h0 q1 "com/example/bushtit/bushtit/session/SequenceNumbers" "last" "I" (.int w_last_q1)) (E_q2 : Exa Z h0 q2 "com/example/bushtit/bushtit/session/SequenceNumbers") (g_q2 : n0 ≤ q2) (F_last_q2 : Fld Z h0 q2 "com/example/bushtit/bushtit/session/SequenceNumbers" "last" "I" (.int w_last_q2)) (A_q3 : Arv Z h0 q3 kc_q3 .int (2 : Int32) [(.int w_last_q1), (.int w_last_q2)] (.int (0 : Int32))) (g_q3 : n0 ≤ q3) (ne_q1_q2 : q1 ≠ q2) (ne_q1_q3 : q1 ≠ q3) (ne_q2_q3 : q2 ≠ q3) (hm1 : ¬ (w_last_q1 = (2147483647 : Int32))) (hm2 : ¬ (w_last_q2 = (2147483647 : Int32))) (hc1 : q4 = (0 : Int32)) :
    own_Fin p.tables e below (own_End below s (own_Q3t Z q1 q2 q3 q4 w_last_q1 w_last_q2 kc_q3 h0 n0) 0 0) T0 (mkF m 0 #[.val (.ref q1), .val (.ref q2), .val (.ref q3), .val (.int q4)] []) := by
  have K0 := Keep.refl h0 [q1, q2, q3]
  refine own_iloadN X0 hx (hb hby d3_0) (pc' := 1) rfl rfl ?_
  refine own_ifYes X0 hx (hb hby d3_1) ((if0 _ _).trans (teq hc1).1) (pc' := 28) (by decide) (by decide) ?_
  refine own_aloadN X0 hx (hb hby d3_28) (pc' := 29) rfl rfl rfl ?_
  refine own_iconst X0 hx (hb hby d3_29) (pc' := 30) rfl (v := (0 : Int32)) rfl ?_
  refine own_aloadN X0 hx (hb hby d3_30) (pc' := 31) rfl rfl rfl ?_
  refine own_iconst X0 hx (hb hby d3_31) (pc' := 32) rfl (v := (0 : Int32)) rfl ?_
  obtain ⟨cl6, Ar6, qa6, S6, M6, H6, G6⟩ := id A_q3
  have hin6 : ¬ ((0 : Int32) < 0 ∨ cl6.slots.size ≤ ((0 : Int32)).toNatClampNeg) := inb_of S6 ⟨by decide, by decide⟩
  refine own_st ?_ (fun t k => X0.iaload hx (j := (0 : Int32)) (v := (.int w_last_q1)) (by rw [e0]; exact Ar6.1) (State.isArrayOf_alike hZ.alike Ar6.2.1) Ar6.2.2 hin6 (Has.at H6 hin6 rfl) (g := (mkF m 32 #[.val (.ref q1), .val (.ref q2), .val (.ref q3), .val (.int q4)] [(.int (0 : Int32)), (.ref q3), (.int (0 : Int32)), (.ref q3)])) rfl rfl (hb hby d3_32) t k)
  show own_Fin _ _ _ _ T0 (mkF m 33 #[.val (.ref q1), .val (.ref q2), .val (.ref q3), .val (.int q4)] [(.int w_last_q1), (.int (0 : Int32)), (.ref q3)])
  refine own_iconst X0 hx (hb hby d3_33) (pc' := 34) rfl (v := (1 : Int32)) rfl ?_
  refine own_iadd X0 hx (hb hby d3_34) (pc' := 35) rfl ?_
  obtain ⟨cl7, Ar7, qa7, S7, M7, H7, G7⟩ := id A_q3
  have hin7 : ¬ ((0 : Int32) < 0 ∨ cl7.slots.size ≤ ((0 : Int32)).toNatClampNeg) := inb_of S7 ⟨by decide, by decide⟩
  obtain ⟨T7, h7, X7, e7, W7, st7⟩ := stI X0 hx hZ e0 Ar7 (j := (0 : Int32)) hin7 (g := (mkF m 35 #[.val (.ref q1), .val (.ref q2), .val (.ref q3), .val (.int q4)] [(.int (w_last_q1 + (1 : Int32))), (.int (0 : Int32)), (.ref q3)])) rfl rfl (hb hby d3_35)
  have E_q1_7 : Exa Z h7 q1 "com/example/bushtit/bushtit/session/SequenceNumbers" := E_q1.wr W7
  have F_q1_last_7 : Fld Z h7 q1 "com/example/bushtit/bushtit/session/SequenceNumbers" "last" "I" (.int w_last_q1) := F_last_q1.other W7 (Or.inl ne_q1_q3)
  have E_q2_7 : Exa Z h7 q2 "com/example/bushtit/bushtit/session/SequenceNumbers" := E_q2.wr W7
  have F_q2_last_7 : Fld Z h7 q2 "com/example/bushtit/bushtit/session/SequenceNumbers" "last" "I" (.int w_last_q2) := F_last_q2.other W7 (Or.inl ne_q2_q3)
  have A_q3_7 : Arv Z h7 q3 kc_q3 .int (2 : Int32) [(.int (w_last_q1 + (1 : Int32))), (.int w_last_q2)] (.int (0 : Int32)) := Arv.set Ar7 qa7 S7 M7 H7 G7 rfl W7 0 rfl (Nat.le_of_ble_eq_true rfl)
  have N7 := Fr.snoc X7 N0 g_q3
  have sz7 : n0 ≤ h7.size := Nat.le_trans Z0 (Keep.of_wr W7).1
  have K7 : Keep h0 h7 [q1, q2, q3] := K0.wr W7 (Or.inl (List.mem_of_getElem? (i := 2) rfl))
  refine own_st ?_ st7
  show own_Fin _ _ _ _ T7 (mkF m 36 #[.val (.ref q1), .val (.ref q2), .val (.ref q3), .val (.int q4)] [])
  refine own_aloadN X7 hx (hb hby d3_36) (pc' := 37) rfl rfl rfl ?_
  obtain ⟨cq8, kq8, q8a, q8b, q8c⟩ := isOf hZ e7 E_q1_7
  obtain ⟨_, _, ⟨T8, L8, k8, n8⟩, -, X8, ⟨Lc8, hQ8, l8, y8, z8⟩, st8⟩ := X7.virtualBack hx (y := (⟨"com/example/bushtit/bushtit/session/SequenceNumbers", "next", "()I"⟩ : MethodName)) (z := (⟨"com/example/bushtit/bushtit/session/SequenceNumbers", "next", "()I"⟩ : MethodName)) hown (mvT hZ (hw _ (List.mem_of_getElem? (i := 14) rfl))) (mvT hZ (hw _ (List.mem_of_getElem? (i := 15) rfl))) (notFace_of_selects (args := #[]) (mvT hZ (hw _ (List.mem_of_getElem? (i := 17) rfl)))) (mvT hZ (hw _ (List.mem_of_getElem? (i := 17) rfl))) (mvT hZ (hw _ (List.mem_of_getElem? (i := 16) rfl))) (by decide) (backOf (W := 0) (rm4 l Z a0 hw [] q1 w_last_q1 h7 n0 sz7 E_q1_7 g_q1 F_q1_last_7 hm1) hZ (hw _ (List.mem_of_getElem? (i := 18) rfl)) (hw _ (List.mem_of_getElem? (i := 2) rfl)) (by decide) (by decide)) q8a q8c (g := (mkF m 37 #[.val (.ref q1), .val (.ref q2), .val (.ref q3), .val (.int q4)] [(.ref q1)])) rfl (by rw [hml]; rfl) (Steps.refl _) (argsL := []) (rest := []) (lenOf pd_0 rfl) rfl (by show 2 * 0 + _ ≤ _; exact Nat.le_of_eq rfl) (hb hby d3_37) (fun _ _ => ⟨rfl, e7, (by decide : 0 + 0 ≤ _), (by decide : 0 + 0 ≤ _)⟩)
  dsimp only [Pt.U, Pt.locs, Pt.cells, Pt.slots] at X8 l8 y8 z8 st8 hQ8
  subst l8 y8 z8
  obtain ⟨rfl, N8q, K8', E_q1_8, F_q1_last_8⟩ := hQ8
  have E_q2_8 : Exa Z T8.heap q2 "com/example/bushtit/bushtit/session/SequenceNumbers" := E_q2_7.keep K8'
  have F_q2_last_8 : Fld Z T8.heap q2 "com/example/bushtit/bushtit/session/SequenceNumbers" "last" "I" (.int w_last_q2) := F_q2_last_7.keep K8' (ninS (Ne.symm ne_q1_q2) nin0)
  have A_q3_8 : Arv Z T8.heap q3 kc_q3 .int (2 : Int32) [(.int (w_last_q1 + (1 : Int32))), (.int w_last_q2)] (.int (0 : Int32)) := A_q3_7.keep K8' (ninS (Ne.symm ne_q1_q3) nin0)
  have sz8 : n0 ≤ T8.heap.size := Nat.le_trans sz7 K8'.1
  have K8 : Keep h0 T8.heap [q1, q2, q3] := K7.trans K8' (allS (Or.inl (List.mem_of_getElem? (i := 0) rfl)) all0)
  have N8 := Fr.app N7 N8q
  refine own_st ?_ (fun t k => st8.trans k)
  show own_Fin _ _ _ _ T8 (mkF m 40 #[.val (.ref q1), .val (.ref q2), .val (.ref q3), .val (.int q4)] [(.int (w_last_q1 + (1 : Int32)))])
  refine own_aloadN X8 hx (hb hby d3_40) (pc' := 41) rfl rfl rfl ?_
  refine own_iconst X8 hx (hb hby d3_41) (pc' := 42) rfl (v := (0 : Int32)) rfl ?_
  obtain ⟨cl9, Ar9, qa9, S9, M9, H9, G9⟩ := id A_q3_8
  have hin9 : ¬ ((0 : Int32) < 0 ∨ cl9.slots.size ≤ ((0 : Int32)).toNatClampNeg) := inb_of S9 ⟨by decide, by decide⟩
  refine own_st ?_ (fun t k => X8.iaload hx (j := (0 : Int32)) (v := (.int (w_last_q1 + (1 : Int32)))) Ar9.1 (State.isArrayOf_alike hZ.alike Ar9.2.1) Ar9.2.2 hin9 (Has.at H9 hin9 rfl) (g := (mkF m 42 #[.val (.ref q1), .val (.ref q2), .val (.ref q3), .val (.int q4)] [(.int (0 : Int32)), (.ref q3), (.int (w_last_q1 + (1 : Int32)))])) rfl rfl (hb hby d3_42) t k)
  show own_Fin _ _ _ _ T8 (mkF m 43 #[.val (.ref q1), .val (.ref q2), .val (.ref q3), .val (.int q4)] [(.int (w_last_q1 + (1 : Int32))), (.int (w_last_q1 + (1 : Int32)))])
  refine own_icmpNo X8 hx (hb hby d3_43) (pc' := 46) rfl (teq (rfl : (w_last_q1 + (1 : Int32)) = (w_last_q1 + (1 : Int32)))).2 ?_
  refine own_iconst X8 hx (hb hby d3_46) (pc' := 47) rfl (v := (1 : Int32)) rfl ?_
  refine own_goto X8 hx (hb hby d3_47) (pc' := 51) (by decide) (by decide) ?_
  refine own_retN X8 hx (t := .boolean) hret (by simp) hlk (hb hby d3_51) (by decide) (by decide) ?_
  show own_Q3t Z q1 q2 q3 q4 w_last_q1 w_last_q2 kc_q3 h0 n0 _ T8.heap _
  exact ⟨(congrArg some (congrArg Value.int (show _ = (own_f3t q4 w_last_q1 w_last_q2) from by rw [own_f3t]; rfl))), N8, K8, E_q1_8, F_q1_last_8, E_q2_8, F_q2_last_8, A_q3_8⟩
theorem ef_3t (m : MethodId) (q1 : Addr) (q2 : Addr) (q3 : Addr) (q4 : Int32) : entryFrame m #[(.ref q1), (.ref q2), (.ref q3), (.int q4)] 4 = mkF m 0 #[.val (.ref q1), .val (.ref q2), .val (.ref q3), .val (.int q4)] [] := by first | (simp [entryFrame, mkF, argsToLocals, Value.category]; done) | rfl
set_option maxRecDepth 65536 in
set_option maxHeartbeats 40000000 in
theorem rm3t (l : Launch) (Z : State) (a0 : Array Value) (hw : ∀ d ∈ tables_1, d.before a0 Z = true) (ws : List Jvm.Cond) (q1 : Addr) (q2 : Addr) (q3 : Addr) (q4 : Int32) (w_last_q1 : Int32) (w_last_q2 : Int32) (kc_q3 : ClassId) (h0 : Heap) (n0 : Nat) (Z0 : n0 ≤ h0.size) (E_q1 : Exa Z h0 q1 "com/example/bushtit/bushtit/session/SequenceNumbers") (g_q1 : n0 ≤ q1) (F_last_q1 : Fld Z h0 q1 "com/example/bushtit/bushtit/session/SequenceNumbers" "last" "I" (.int w_last_q1)) (E_q2 : Exa Z h0 q2 "com/example/bushtit/bushtit/session/SequenceNumbers") (g_q2 : n0 ≤ q2) (F_last_q2 : Fld Z h0 q2 "com/example/bushtit/bushtit/session/SequenceNumbers" "last" "I" (.int w_last_q2)) (A_q3 : Arv Z h0 q3 kc_q3 .int (2 : Int32) [(.int w_last_q1), (.int w_last_q2)] (.int (0 : Int32))) (g_q3 : n0 ≤ q3) (ne_q1_q2 : q1 ≠ q2) (ne_q1_q3 : q1 ≠ q3) (ne_q2_q3 : q2 ≠ q3) (hm1 : ¬ (w_last_q1 = (2147483647 : Int32))) (hm2 : ¬ (w_last_q2 = (2147483647 : Int32))) (hc1 : q4 = (0 : Int32)) :
    MetFree l (⟨"com/example/bushtit/bushtit/session/SequenceNumbersNextPinLaw", "step", "(Lcom/example/bushtit/bushtit/session/SequenceNumbers;Lcom/example/bushtit/bushtit/session/SequenceNumbers;[II)Z"⟩ : MethodName) (head1 (Jvm.Cond.code (⟨"com/example/bushtit/bushtit/session/SequenceNumbersNextPinLaw", "step", "(Lcom/example/bushtit/bushtit/session/SequenceNumbers;Lcom/example/bushtit/bushtit/session/SequenceNumbers;[II)Z"⟩ : MethodName) method_2_code 4 (some .boolean) :: ws) ({ frames := 1, cells := 0, slots := 0, locals := 12 } : Room)) (fun a U => a = #[(.ref q1), (.ref q2), (.ref q3), (.int q4)] ∧ Z.Warmed39 U.vm ∧ U.heap = h0) (fun _ _ _ _ _ => True) (fun _ U o U' => ∃ v L, o = .returned v ∧ (own_Q3t Z q1 q2 q3 q4 w_last_q1 w_last_q2 kc_q3 h0 n0) v U'.heap L ∧ FrameEnd U o U' L ({ frames := 1, cells := 0, slots := 0, locals := 12 } : Room).cells ({ frames := 1, cells := 0, slots := 0, locals := 12 } : Room).slots) := by
  refine MetFree.of_bodySF (plainFor_of_name pn_3) hisR ?_
  intro p e s m args below meth c s₁ Bd hml0 hP hK
  obtain ⟨rfl, hZ, hh⟩ := hP
  have hown : s.vm.findClass "com/example/bushtit/bushtit/session/SequenceNumbersNextPinLaw" = some m.cls := findClass_of_methodNamed Bd.named
  have hnm := (name_of_methodNamed Bd.named Bd.method).1
  have X0 : Stand p l e ({ frames := 1, cells := 0, slots := 0, locals := 12 } : Room) s m #[(.ref q1), (.ref q2), (.ref q3), (.int q4)] below meth c s₁ [] 0 0 := Stand.of_body Bd
  have e0 : s₁.heap = h0 := by rw [← hh, Bd.state]; rfl
  have H := sg3t_0 l hw Bd.exec hZ Bd.bytes hml0 hown hnm Bd.returns Bd.notSynchronized q1 q2 q3 q4 w_last_q1 w_last_q2 kc_q3 Z0 X0 (Fr.nil n0) e0 E_q1 g_q1 F_last_q1 E_q2 g_q2 F_last_q2 A_q3 g_q3 ne_q1_q2 ne_q1_q3 ne_q2_q3 hm1 hm2 hc1
  obtain ⟨t, h1, h2, o, h3, h4⟩ := H
  exact ⟨t, o, castTop (ef_3t m q1 q2 q3 q4) h1, h2, h3, h4⟩
def own_f3f (q4 : Int32) (w_last_q1 : Int32) (w_last_q2 : Int32) : Int32 :=
  (1 : Int32)
def own_Q3f (Z : State) (q1 : Addr) (q2 : Addr) (q3 : Addr) (q4 : Int32) (w_last_q1 : Int32) (w_last_q2 : Int32) (kc_q3 : ClassId) (h0 : Heap) (n0 : Nat) (v : Option Value) (h : Heap) (L : List Loc) : Prop := v = some (.int (own_f3f q4 w_last_q1 w_last_q2)) ∧ Fr n0 L ∧ Keep h0 h [q1, q2, q3] ∧ Exa Z h q1 "com/example/bushtit/bushtit/session/SequenceNumbers" ∧ Fld Z h q1 "com/example/bushtit/bushtit/session/SequenceNumbers" "last" "I" (.int w_last_q1) ∧ Exa Z h q2 "com/example/bushtit/bushtit/session/SequenceNumbers" ∧ Fld Z h q2 "com/example/bushtit/bushtit/session/SequenceNumbers" "last" "I" (.int (w_last_q2 + (1 : Int32))) ∧ Arv Z h q3 kc_q3 .int (2 : Int32) [(.int w_last_q1), (.int (w_last_q2 + (1 : Int32)))] (.int (0 : Int32))
set_option maxRecDepth 65536 in
set_option maxHeartbeats 40000000 in
theorem sg3f_0 {p : Program} (l : Launch) {e : Env} {s : State} {m : MethodId} {args : Array Value} {below : List Frame} {meth : Method} {c : Code} {Z : State} {a0 : Array Value} (hw : ∀ d ∈ tables_1, d.before a0 Z = true) (hx : p.tables.exec = Jvm.exec) (hZ : Z.Warmed39 s.vm) (hby : c.code = method_2_code) (hml : c.maxLocals = 4) (hown : s.vm.findClass "com/example/bushtit/bushtit/session/SequenceNumbersNextPinLaw" = some m.cls) (hnm : meth.name = "step") (hret : meth.sig.returnType = (some .boolean)) (hlk : meth.locks = false) (q1 : Addr) (q2 : Addr) (q3 : Addr) (q4 : Int32) (w_last_q1 : Int32) (w_last_q2 : Int32) (kc_q3 : ClassId) {h0 : Heap} {n0 : Nat} (Z0 : n0 ≤ h0.size) {T0 : State} {L0 : List Loc} (X0 : Stand p l e ({ frames := 1, cells := 0, slots := 0, locals := 12 } : Room) s m args below meth c T0 L0 0 0) (N0 : Fr n0 L0) (e0 : T0.heap = h0) (E_q1 : Exa Z h0 q1 "com/example/bushtit/bushtit/session/SequenceNumbers") (g_q1 : n0 ≤ q1) (F_last_q1 : Fld Z h0 q1 "com/example/bushtit/bushtit/session/SequenceNumbers" "last" "I" (.int w_last_q1)) (E_q2 : Exa Z h0 q2 "com/example/bushtit/bushtit/session/SequenceNumbers") (g_q2 : n0 ≤ q2) (F_last_q2 : Fld Z h0 q2 "com/example/bushtit/bushtit/session/SequenceNumbers" "last" "I" (.int w_last_q2)) (A_q3 : Arv Z h0 q3 kc_q3 .int (2 : Int32) [(.int w_last_q1), (.int w_last_q2)] (.int (0 : Int32))) (g_q3 : n0 ≤ q3) (ne_q1_q2 : q1 ≠ q2) (ne_q1_q3 : q1 ≠ q3) (ne_q2_q3 : q2 ≠ q3) (hm1 : ¬ (w_last_q1 = (2147483647 : Int32))) (hm2 : ¬ (w_last_q2 = (2147483647 : Int32))) (hc1 : ¬ (q4 = (0 : Int32))) :
    own_Fin p.tables e below (own_End below s (own_Q3f Z q1 q2 q3 q4 w_last_q1 w_last_q2 kc_q3 h0 n0) 0 0) T0 (mkF m 0 #[.val (.ref q1), .val (.ref q2), .val (.ref q3), .val (.int q4)] []) := by
  have K0 := Keep.refl h0 [q1, q2, q3]
  refine own_iloadN X0 hx (hb hby d3_0) (pc' := 1) rfl rfl ?_
  refine own_ifNo X0 hx (hb hby d3_1) (pc' := 4) rfl ((if0 _ _).trans (feq hc1).1) ?_
  refine own_aloadN X0 hx (hb hby d3_4) (pc' := 5) rfl rfl rfl ?_
  refine own_iconst X0 hx (hb hby d3_5) (pc' := 6) rfl (v := (1 : Int32)) rfl ?_
  refine own_aloadN X0 hx (hb hby d3_6) (pc' := 7) rfl rfl rfl ?_
  refine own_iconst X0 hx (hb hby d3_7) (pc' := 8) rfl (v := (1 : Int32)) rfl ?_
  obtain ⟨cl10, Ar10, qa10, S10, M10, H10, G10⟩ := id A_q3
  have hin10 : ¬ ((1 : Int32) < 0 ∨ cl10.slots.size ≤ ((1 : Int32)).toNatClampNeg) := inb_of S10 ⟨by decide, by decide⟩
  refine own_st ?_ (fun t k => X0.iaload hx (j := (1 : Int32)) (v := (.int w_last_q2)) (by rw [e0]; exact Ar10.1) (State.isArrayOf_alike hZ.alike Ar10.2.1) Ar10.2.2 hin10 (Has.at H10 hin10 rfl) (g := (mkF m 8 #[.val (.ref q1), .val (.ref q2), .val (.ref q3), .val (.int q4)] [(.int (1 : Int32)), (.ref q3), (.int (1 : Int32)), (.ref q3)])) rfl rfl (hb hby d3_8) t k)
  show own_Fin _ _ _ _ T0 (mkF m 9 #[.val (.ref q1), .val (.ref q2), .val (.ref q3), .val (.int q4)] [(.int w_last_q2), (.int (1 : Int32)), (.ref q3)])
  refine own_iconst X0 hx (hb hby d3_9) (pc' := 10) rfl (v := (1 : Int32)) rfl ?_
  refine own_iadd X0 hx (hb hby d3_10) (pc' := 11) rfl ?_
  obtain ⟨cl11, Ar11, qa11, S11, M11, H11, G11⟩ := id A_q3
  have hin11 : ¬ ((1 : Int32) < 0 ∨ cl11.slots.size ≤ ((1 : Int32)).toNatClampNeg) := inb_of S11 ⟨by decide, by decide⟩
  obtain ⟨T11, h11, X11, e11, W11, st11⟩ := stI X0 hx hZ e0 Ar11 (j := (1 : Int32)) hin11 (g := (mkF m 11 #[.val (.ref q1), .val (.ref q2), .val (.ref q3), .val (.int q4)] [(.int (w_last_q2 + (1 : Int32))), (.int (1 : Int32)), (.ref q3)])) rfl rfl (hb hby d3_11)
  have E_q1_11 : Exa Z h11 q1 "com/example/bushtit/bushtit/session/SequenceNumbers" := E_q1.wr W11
  have F_q1_last_11 : Fld Z h11 q1 "com/example/bushtit/bushtit/session/SequenceNumbers" "last" "I" (.int w_last_q1) := F_last_q1.other W11 (Or.inl ne_q1_q3)
  have E_q2_11 : Exa Z h11 q2 "com/example/bushtit/bushtit/session/SequenceNumbers" := E_q2.wr W11
  have F_q2_last_11 : Fld Z h11 q2 "com/example/bushtit/bushtit/session/SequenceNumbers" "last" "I" (.int w_last_q2) := F_last_q2.other W11 (Or.inl ne_q2_q3)
  have A_q3_11 : Arv Z h11 q3 kc_q3 .int (2 : Int32) [(.int w_last_q1), (.int (w_last_q2 + (1 : Int32)))] (.int (0 : Int32)) := Arv.set Ar11 qa11 S11 M11 H11 G11 rfl W11 1 rfl (Nat.le_of_ble_eq_true rfl)
  have N11 := Fr.snoc X11 N0 g_q3
  have sz11 : n0 ≤ h11.size := Nat.le_trans Z0 (Keep.of_wr W11).1
  have K11 : Keep h0 h11 [q1, q2, q3] := K0.wr W11 (Or.inl (List.mem_of_getElem? (i := 2) rfl))
  refine own_st ?_ st11
  show own_Fin _ _ _ _ T11 (mkF m 12 #[.val (.ref q1), .val (.ref q2), .val (.ref q3), .val (.int q4)] [])
  refine own_aloadN X11 hx (hb hby d3_12) (pc' := 13) rfl rfl rfl ?_
  obtain ⟨cq12, kq12, q12a, q12b, q12c⟩ := isOf hZ e11 E_q2_11
  obtain ⟨_, _, ⟨T12, L12, k12, n12⟩, -, X12, ⟨Lc12, hQ12, l12, y12, z12⟩, st12⟩ := X11.virtualBack hx (y := (⟨"com/example/bushtit/bushtit/session/SequenceNumbers", "next", "()I"⟩ : MethodName)) (z := (⟨"com/example/bushtit/bushtit/session/SequenceNumbers", "next", "()I"⟩ : MethodName)) hown (mvT hZ (hw _ (List.mem_of_getElem? (i := 14) rfl))) (mvT hZ (hw _ (List.mem_of_getElem? (i := 15) rfl))) (notFace_of_selects (args := #[]) (mvT hZ (hw _ (List.mem_of_getElem? (i := 17) rfl)))) (mvT hZ (hw _ (List.mem_of_getElem? (i := 17) rfl))) (mvT hZ (hw _ (List.mem_of_getElem? (i := 16) rfl))) (by decide) (backOf (W := 0) (rm4 l Z a0 hw [] q2 w_last_q2 h11 n0 sz11 E_q2_11 g_q2 F_q2_last_11 hm2) hZ (hw _ (List.mem_of_getElem? (i := 18) rfl)) (hw _ (List.mem_of_getElem? (i := 2) rfl)) (by decide) (by decide)) q12a q12c (g := (mkF m 13 #[.val (.ref q1), .val (.ref q2), .val (.ref q3), .val (.int q4)] [(.ref q2)])) rfl (by rw [hml]; rfl) (Steps.refl _) (argsL := []) (rest := []) (lenOf pd_0 rfl) rfl (by show 2 * 0 + _ ≤ _; exact Nat.le_of_eq rfl) (hb hby d3_13) (fun _ _ => ⟨rfl, e11, (by decide : 0 + 0 ≤ _), (by decide : 0 + 0 ≤ _)⟩)
  dsimp only [Pt.U, Pt.locs, Pt.cells, Pt.slots] at X12 l12 y12 z12 st12 hQ12
  subst l12 y12 z12
  obtain ⟨rfl, N12q, K12', E_q2_12, F_q2_last_12⟩ := hQ12
  have E_q1_12 : Exa Z T12.heap q1 "com/example/bushtit/bushtit/session/SequenceNumbers" := E_q1_11.keep K12'
  have F_q1_last_12 : Fld Z T12.heap q1 "com/example/bushtit/bushtit/session/SequenceNumbers" "last" "I" (.int w_last_q1) := F_q1_last_11.keep K12' (ninS ne_q1_q2 nin0)
  have A_q3_12 : Arv Z T12.heap q3 kc_q3 .int (2 : Int32) [(.int w_last_q1), (.int (w_last_q2 + (1 : Int32)))] (.int (0 : Int32)) := A_q3_11.keep K12' (ninS (Ne.symm ne_q2_q3) nin0)
  have sz12 : n0 ≤ T12.heap.size := Nat.le_trans sz11 K12'.1
  have K12 : Keep h0 T12.heap [q1, q2, q3] := K11.trans K12' (allS (Or.inl (List.mem_of_getElem? (i := 1) rfl)) all0)
  have N12 := Fr.app N11 N12q
  refine own_st ?_ (fun t k => st12.trans k)
  show own_Fin _ _ _ _ T12 (mkF m 16 #[.val (.ref q1), .val (.ref q2), .val (.ref q3), .val (.int q4)] [(.int (w_last_q2 + (1 : Int32)))])
  refine own_aloadN X12 hx (hb hby d3_16) (pc' := 17) rfl rfl rfl ?_
  refine own_iconst X12 hx (hb hby d3_17) (pc' := 18) rfl (v := (1 : Int32)) rfl ?_
  obtain ⟨cl13, Ar13, qa13, S13, M13, H13, G13⟩ := id A_q3_12
  have hin13 : ¬ ((1 : Int32) < 0 ∨ cl13.slots.size ≤ ((1 : Int32)).toNatClampNeg) := inb_of S13 ⟨by decide, by decide⟩
  refine own_st ?_ (fun t k => X12.iaload hx (j := (1 : Int32)) (v := (.int (w_last_q2 + (1 : Int32)))) Ar13.1 (State.isArrayOf_alike hZ.alike Ar13.2.1) Ar13.2.2 hin13 (Has.at H13 hin13 rfl) (g := (mkF m 18 #[.val (.ref q1), .val (.ref q2), .val (.ref q3), .val (.int q4)] [(.int (1 : Int32)), (.ref q3), (.int (w_last_q2 + (1 : Int32)))])) rfl rfl (hb hby d3_18) t k)
  show own_Fin _ _ _ _ T12 (mkF m 19 #[.val (.ref q1), .val (.ref q2), .val (.ref q3), .val (.int q4)] [(.int (w_last_q2 + (1 : Int32))), (.int (w_last_q2 + (1 : Int32)))])
  refine own_icmpNo X12 hx (hb hby d3_19) (pc' := 22) rfl (teq (rfl : (w_last_q2 + (1 : Int32)) = (w_last_q2 + (1 : Int32)))).2 ?_
  refine own_iconst X12 hx (hb hby d3_22) (pc' := 23) rfl (v := (1 : Int32)) rfl ?_
  refine own_goto X12 hx (hb hby d3_23) (pc' := 27) (by decide) (by decide) ?_
  refine own_retN X12 hx (t := .boolean) hret (by simp) hlk (hb hby d3_27) (by decide) (by decide) ?_
  show own_Q3f Z q1 q2 q3 q4 w_last_q1 w_last_q2 kc_q3 h0 n0 _ T12.heap _
  exact ⟨(congrArg some (congrArg Value.int (show _ = (own_f3f q4 w_last_q1 w_last_q2) from by rw [own_f3f]; rfl))), N12, K12, E_q1_12, F_q1_last_12, E_q2_12, F_q2_last_12, A_q3_12⟩
theorem ef_3f (m : MethodId) (q1 : Addr) (q2 : Addr) (q3 : Addr) (q4 : Int32) : entryFrame m #[(.ref q1), (.ref q2), (.ref q3), (.int q4)] 4 = mkF m 0 #[.val (.ref q1), .val (.ref q2), .val (.ref q3), .val (.int q4)] [] := by first | (simp [entryFrame, mkF, argsToLocals, Value.category]; done) | rfl
set_option maxRecDepth 65536 in
set_option maxHeartbeats 40000000 in
theorem rm3f (l : Launch) (Z : State) (a0 : Array Value) (hw : ∀ d ∈ tables_1, d.before a0 Z = true) (ws : List Jvm.Cond) (q1 : Addr) (q2 : Addr) (q3 : Addr) (q4 : Int32) (w_last_q1 : Int32) (w_last_q2 : Int32) (kc_q3 : ClassId) (h0 : Heap) (n0 : Nat) (Z0 : n0 ≤ h0.size) (E_q1 : Exa Z h0 q1 "com/example/bushtit/bushtit/session/SequenceNumbers") (g_q1 : n0 ≤ q1) (F_last_q1 : Fld Z h0 q1 "com/example/bushtit/bushtit/session/SequenceNumbers" "last" "I" (.int w_last_q1)) (E_q2 : Exa Z h0 q2 "com/example/bushtit/bushtit/session/SequenceNumbers") (g_q2 : n0 ≤ q2) (F_last_q2 : Fld Z h0 q2 "com/example/bushtit/bushtit/session/SequenceNumbers" "last" "I" (.int w_last_q2)) (A_q3 : Arv Z h0 q3 kc_q3 .int (2 : Int32) [(.int w_last_q1), (.int w_last_q2)] (.int (0 : Int32))) (g_q3 : n0 ≤ q3) (ne_q1_q2 : q1 ≠ q2) (ne_q1_q3 : q1 ≠ q3) (ne_q2_q3 : q2 ≠ q3) (hm1 : ¬ (w_last_q1 = (2147483647 : Int32))) (hm2 : ¬ (w_last_q2 = (2147483647 : Int32))) (hc1 : ¬ (q4 = (0 : Int32))) :
    MetFree l (⟨"com/example/bushtit/bushtit/session/SequenceNumbersNextPinLaw", "step", "(Lcom/example/bushtit/bushtit/session/SequenceNumbers;Lcom/example/bushtit/bushtit/session/SequenceNumbers;[II)Z"⟩ : MethodName) (head1 (Jvm.Cond.code (⟨"com/example/bushtit/bushtit/session/SequenceNumbersNextPinLaw", "step", "(Lcom/example/bushtit/bushtit/session/SequenceNumbers;Lcom/example/bushtit/bushtit/session/SequenceNumbers;[II)Z"⟩ : MethodName) method_2_code 4 (some .boolean) :: ws) ({ frames := 1, cells := 0, slots := 0, locals := 12 } : Room)) (fun a U => a = #[(.ref q1), (.ref q2), (.ref q3), (.int q4)] ∧ Z.Warmed39 U.vm ∧ U.heap = h0) (fun _ _ _ _ _ => True) (fun _ U o U' => ∃ v L, o = .returned v ∧ (own_Q3f Z q1 q2 q3 q4 w_last_q1 w_last_q2 kc_q3 h0 n0) v U'.heap L ∧ FrameEnd U o U' L ({ frames := 1, cells := 0, slots := 0, locals := 12 } : Room).cells ({ frames := 1, cells := 0, slots := 0, locals := 12 } : Room).slots) := by
  refine MetFree.of_bodySF (plainFor_of_name pn_3) hisR ?_
  intro p e s m args below meth c s₁ Bd hml0 hP hK
  obtain ⟨rfl, hZ, hh⟩ := hP
  have hown : s.vm.findClass "com/example/bushtit/bushtit/session/SequenceNumbersNextPinLaw" = some m.cls := findClass_of_methodNamed Bd.named
  have hnm := (name_of_methodNamed Bd.named Bd.method).1
  have X0 : Stand p l e ({ frames := 1, cells := 0, slots := 0, locals := 12 } : Room) s m #[(.ref q1), (.ref q2), (.ref q3), (.int q4)] below meth c s₁ [] 0 0 := Stand.of_body Bd
  have e0 : s₁.heap = h0 := by rw [← hh, Bd.state]; rfl
  have H := sg3f_0 l hw Bd.exec hZ Bd.bytes hml0 hown hnm Bd.returns Bd.notSynchronized q1 q2 q3 q4 w_last_q1 w_last_q2 kc_q3 Z0 X0 (Fr.nil n0) e0 E_q1 g_q1 F_last_q1 E_q2 g_q2 F_last_q2 A_q3 g_q3 ne_q1_q2 ne_q1_q3 ne_q2_q3 hm1 hm2 hc1
  obtain ⟨t, h1, h2, o, h3, h4⟩ := H
  exact ⟨t, o, castTop (ef_3f m q1 q2 q3 q4) h1, h2, h3, h4⟩
theorem own_b64 (x : Int64) : -9223372036854775808 ≤ x.toInt ∧ x.toInt < 9223372036854775808 := ⟨Int64.le_toInt x, Int64.toInt_lt x⟩
theorem own_b32 (x : Int32) : -2147483648 ≤ x.toInt ∧ x.toInt < 2147483648 := ⟨Int32.le_toInt x, Int32.toInt_lt x⟩
theorem own_wrap64 (n : Int) : ∃ k : Int, n.bmod (2 ^ 64) = n + k * 18446744073709551616 := by
  rw [Int.bmod_def]
  split
  · exact ⟨-(n / 18446744073709551616), by omega⟩
  · exact ⟨-(n / 18446744073709551616) - 1, by omega⟩
theorem own_add64 (x y : Int64) : ∃ k : Int, (x + y).toInt = x.toInt + y.toInt + k * 18446744073709551616 := by
  rw [Int64.toInt_add]; exact own_wrap64 _
theorem own_sub64 (x y : Int64) : ∃ k : Int, (x - y).toInt = x.toInt - y.toInt + k * 18446744073709551616 := by
  rw [Int64.toInt_sub]; exact own_wrap64 _
theorem own_wrap32 (n : Int) : ∃ k : Int, n.bmod (2 ^ 32) = n + k * 4294967296 := by
  rw [Int.bmod_def]
  split
  · exact ⟨-(n / 4294967296), by omega⟩
  · exact ⟨-(n / 4294967296) - 1, by omega⟩
theorem own_add32 (x y : Int32) : ∃ k : Int, (x + y).toInt = x.toInt + y.toInt + k * 4294967296 := by
  rw [Int32.toInt_add]; exact own_wrap32 _
theorem own_sub32 (x y : Int32) : ∃ k : Int, (x - y).toInt = x.toInt - y.toInt + k * 4294967296 := by
  rw [Int32.toInt_sub]; exact own_wrap32 _
theorem own_m63 (x : Int64) : (x &&& (9223372036854775807 : Int64)).toInt = x.toInt % 9223372036854775808 := Jvm.Kit.i64_mask x _ (k := 63) (by decide) (by decide)
theorem own_m31 (x : Int32) : (x &&& (2147483647 : Int32)).toInt = x.toInt % 2147483648 := Jvm.Kit.i32_mask x _ (k := 31) (by decide) (by decide)
theorem own_max64 : (9223372036854775807 : Int64).toInt = 9223372036854775807 := by decide
theorem own_lt64 {x y : Int64} : x < y ↔ x.toInt < y.toInt := Int64.lt_iff_toInt_lt
theorem own_lt32 {x y : Int32} : x < y ↔ x.toInt < y.toInt := Int32.lt_iff_toInt_lt
theorem own_eq64 {x y : Int64} : x = y ↔ x.toInt = y.toInt := Int64.toInt_inj.symm
theorem own_eq32 {x y : Int32} : x = y ↔ x.toInt = y.toInt := Int32.toInt_inj.symm

def own_B (n : Int) (x y : Int32) : Prop := 0 ≤ x.toInt ∧ x.toInt ≤ n ∧ 0 ≤ y.toInt ∧ y.toInt ≤ n
def own_Qs (Z : State) (q1 q2 q3 : Addr) (kc : ClassId) (n : Int) (h0 : Heap) (n0 : Nat) (v : Option Value) (h : Heap) (L : List Loc) : Prop := v = some (.int 1) ∧ Fr n0 L ∧ Keep h0 h [q1, q2, q3] ∧ ∃ x y : Int32, own_B (n + 1) x y ∧ Exa Z h q1 "com/example/bushtit/bushtit/session/SequenceNumbers" ∧ Fld Z h q1 "com/example/bushtit/bushtit/session/SequenceNumbers" "last" "I" (.int x) ∧ Exa Z h q2 "com/example/bushtit/bushtit/session/SequenceNumbers" ∧ Fld Z h q2 "com/example/bushtit/bushtit/session/SequenceNumbers" "last" "I" (.int y) ∧ Arv Z h q3 kc .int (2 : Int32) [(.int x), (.int y)] (.int (0 : Int32))
theorem own_nmax {n : Int} (hn : n ≤ 100) {x : Int32} (h : x.toInt ≤ n) : ¬ x = (2147483647 : Int32) := by
  rw [own_eq32, show (2147483647 : Int32).toInt = 2147483647 from by decide]; omega
theorem own_inc {n : Int} (hn : n ≤ 100) {x : Int32} (h0 : 0 ≤ x.toInt) (h : x.toInt ≤ n) : 0 ≤ (x + 1).toInt ∧ (x + 1).toInt ≤ n + 1 := by
  have e : (1 : Int32).toInt = 1 := by decide
  rw [Jvm.Kit.i32_add (by omega) (by omega), e]; omega
set_option maxRecDepth 65536 in
set_option maxHeartbeats 40000000 in
theorem rms (l : Launch) (Z : State) (a0 : Array Value) (hw : ∀ d ∈ tables_1, d.before a0 Z = true) (ws : List Jvm.Cond) (q1 q2 q3 : Addr) (q4 x y : Int32) (kc : ClassId) (n : Int) (h0 : Heap) (n0 : Nat) (Z0 : n0 ≤ h0.size) (E1 : Exa Z h0 q1 "com/example/bushtit/bushtit/session/SequenceNumbers") (g1 : n0 ≤ q1) (F1 : Fld Z h0 q1 "com/example/bushtit/bushtit/session/SequenceNumbers" "last" "I" (.int x)) (E2 : Exa Z h0 q2 "com/example/bushtit/bushtit/session/SequenceNumbers") (g2 : n0 ≤ q2) (F2 : Fld Z h0 q2 "com/example/bushtit/bushtit/session/SequenceNumbers" "last" "I" (.int y)) (A3 : Arv Z h0 q3 kc .int (2 : Int32) [(.int x), (.int y)] (.int (0 : Int32))) (g3 : n0 ≤ q3) (n12 : q1 ≠ q2) (n13 : q1 ≠ q3) (n23 : q2 ≠ q3) (hB : own_B n x y) (hn : n ≤ 100) :
    MetFree l (⟨"com/example/bushtit/bushtit/session/SequenceNumbersNextPinLaw", "step", "(Lcom/example/bushtit/bushtit/session/SequenceNumbers;Lcom/example/bushtit/bushtit/session/SequenceNumbers;[II)Z"⟩ : MethodName) (head1 (Jvm.Cond.code (⟨"com/example/bushtit/bushtit/session/SequenceNumbersNextPinLaw", "step", "(Lcom/example/bushtit/bushtit/session/SequenceNumbers;Lcom/example/bushtit/bushtit/session/SequenceNumbers;[II)Z"⟩ : MethodName) method_2_code 4 (some .boolean) :: ws) ({ frames := 1, cells := 0, slots := 0, locals := 12 } : Room)) (fun a U => a = #[(.ref q1), (.ref q2), (.ref q3), (.int q4)] ∧ Z.Warmed39 U.vm ∧ U.heap = h0) (fun _ _ _ _ _ => True) (fun _ U o U' => ∃ v L, o = .returned v ∧ (own_Qs Z q1 q2 q3 kc n h0 n0) v U'.heap L ∧ FrameEnd U o U' L ({ frames := 1, cells := 0, slots := 0, locals := 12 } : Room).cells ({ frames := 1, cells := 0, slots := 0, locals := 12 } : Room).slots) := by
  obtain ⟨b1, b2, b3, b4⟩ := hB
  have m1 := own_nmax hn b2
  have m2 := own_nmax hn b4
  by_cases hq : q4 = 0
  · intro p e ha hc hk s m args below hf happ hP hK
    obtain ⟨k, o, h1, h2, h3, v, L, h4, ⟨h5, h6, h7, h8, h9, h10, h11, h12⟩, h13⟩ := rm3t l Z a0 hw ws q1 q2 q3 q4 x y kc h0 n0 Z0 E1 g1 F1 E2 g2 F2 A3 g3 n12 n13 n23 m1 m2 hq p e ha hc hk s m args below hf happ hP hK
    have b5 := own_inc hn b1 b2
    exact ⟨k, o, h1, h2, h3, v, L, h4, ⟨h5, h6, h7, _, _, ⟨b5.1, b5.2, b3, by omega⟩, h8, h9, h10, h11, h12⟩, h13⟩
  · intro p e ha hc hk s m args below hf happ hP hK
    obtain ⟨k, o, h1, h2, h3, v, L, h4, ⟨h5, h6, h7, h8, h9, h10, h11, h12⟩, h13⟩ := rm3f l Z a0 hw ws q1 q2 q3 q4 x y kc h0 n0 Z0 E1 g1 F1 E2 g2 F2 A3 g3 n12 n13 n23 m1 m2 hq p e ha hc hk s m args below hf happ hP hK
    have b5 := own_inc hn b3 b4
    exact ⟨k, o, h1, h2, h3, v, L, h4, ⟨h5, h6, h7, _, _, ⟨b1, by omega, b5.1, b5.2⟩, h8, h9, h10, h11, h12⟩, h13⟩
theorem pn_0 : plainName "com/example/bushtit/bushtit/session/SequenceNumbersNextPinLaw" = true := by first | (simp [plainName, overriddenIn]; done) | decide +kernel
def own_f0 (q1 : Int32) : Int32 :=
  (1 : Int32)
set_option maxRecDepth 65536 in
set_option maxHeartbeats 40000000 in
theorem sg0_0 {p : Program} (l : Launch) {e : Env} {s : State} {m : MethodId} {args : Array Value} {below : List Frame} {meth : Method} {c : Code} {Z : State} {a0 : Array Value} (hw : ∀ d ∈ tables_1, d.before a0 Z = true) (hx : p.tables.exec = Jvm.exec) (hZ : Z.Warmed39 s.vm) (hby : c.code = code) (hml : c.maxLocals = 5) (hown : s.vm.findClass "com/example/bushtit/bushtit/session/SequenceNumbersNextPinLaw" = some m.cls) (hnm : meth.name = "law") (hret : meth.sig.returnType = (some .boolean)) (hlk : meth.locks = false) (q1 : Int32) {h0 : Heap} {n0 : Nat} (Z0 : n0 ≤ h0.size) {T0 : State} {L0 : List Loc} (X0 : Stand p l e room_1 s m args below meth c T0 L0 0 0) (N0 : Fr n0 L0) (e0 : T0.heap = h0)  :
    own_Fin p.tables e below (own_End below s (own_L n0 (.int (own_f0 q1))) 3 4) T0 (mkF m 0 #[.val (.int q1), .unset, .unset, .unset, .unset] []) := by
  obtain ⟨T14, h14, X14, e14, E14, A14, D14, -, st14⟩ := newO X0 hx hZ hown (hw _ (List.mem_of_getElem? (i := 0) rfl)) (hw _ (List.mem_of_getElem? (i := 1) rfl)) (hw _ (List.mem_of_getElem? (i := 2) rfl)) e0 (g := (mkF m 0 #[.val (.int q1), .unset, .unset, .unset, .unset] [])) rfl (hb hby at_0) (by decide) (by decide)
  obtain ⟨b14, g14⟩ : ∃ z, z = h0.size := ⟨_, rfl⟩
  rw [← g14] at A14 D14 st14
  have g_b14 : n0 ≤ b14 := Nat.le_trans Z0 (Nat.le_of_eq g14.symm)
  have F_b14_last_14 : Fld Z h14 b14 "com/example/bushtit/bushtit/session/SequenceNumbers" "last" "I" (.int (0 : Int32)) := D14 (Or.inl (hw _ (List.mem_of_getElem? (i := 20) rfl))) (ty := .int) (by decide)
  have sz14 : n0 ≤ h14.size := Nat.le_trans Z0 E14.1
  refine own_st ?_ st14
  show own_Fin _ _ _ _ T14 (mkF m 3 #[.val (.int q1), .unset, .unset, .unset, .unset] [(.ref b14)])
  refine own_dup X14 hx (hb hby at_3) (pc' := 4) rfl rfl ?_
  obtain ⟨_, _, ⟨T15, L15, k15, n15⟩, -, X15, ⟨Lc15, hQ15, l15, y15, z15⟩, st15⟩ := X14.specialBack hx (y := (⟨"com/example/bushtit/bushtit/session/SequenceNumbers", "<init>", "()V"⟩ : MethodName)) rfl hown (mvT hZ (hw _ (List.mem_of_getElem? (i := 3) rfl))) (mvT hZ (hw _ (List.mem_of_getElem? (i := 4) rfl))) (mvT hZ (hw _ (List.mem_of_getElem? (i := 5) rfl))) (by decide) (backOf (W := 1) (rm1 l Z a0 hw [] b14 (0 : Int32) h14 n0 sz14 A14 F_b14_last_14) hZ (hw _ (List.mem_of_getElem? (i := 5) rfl)) (hw _ (List.mem_of_getElem? (i := 2) rfl)) (by decide) (by decide)) (g := (mkF m 4 #[.val (.int q1), .unset, .unset, .unset, .unset] [(.ref b14), (.ref b14)])) rfl (by rw [hml]; rfl) (Steps.refl _) (a := b14) (argsL := []) (rest := [(.ref b14)]) (lenOf pd_1 rfl) rfl (by show 2 * 0 + _ ≤ _; exact Nat.le_of_eq rfl) (hb hby at_4) (fun _ _ => ⟨rfl, e14, (by decide : 1 + 0 ≤ _), (by decide : 1 + 0 ≤ _)⟩)
  dsimp only [Pt.U, Pt.locs, Pt.cells, Pt.slots] at X15 l15 y15 z15 st15 hQ15
  subst l15 y15 z15
  obtain ⟨rfl, N15q, e15'⟩ := hQ15
  have N15 := Fr.app N0 N15q
  refine own_st ?_ (fun t k => st15.trans k)
  show own_Fin _ _ _ _ T15 (mkF m 7 #[.val (.int q1), .unset, .unset, .unset, .unset] [(.ref b14)])
  refine own_astoreN X15 hx (hb hby at_7) (pc' := 8) rfl (Ls' := #[.val (.int q1), .val (.ref b14), .unset, .unset, .unset]) rfl rfl ?_
  obtain ⟨T16, h16, X16, e16, E16, A16, D16, -, st16⟩ := newO X15 hx hZ hown (hw _ (List.mem_of_getElem? (i := 0) rfl)) (hw _ (List.mem_of_getElem? (i := 1) rfl)) (hw _ (List.mem_of_getElem? (i := 2) rfl)) e15' (g := (mkF m 8 #[.val (.int q1), .val (.ref b14), .unset, .unset, .unset] [])) rfl (hb hby at_8) (by decide) (by decide)
  obtain ⟨b16, g16⟩ : ∃ z, z = h14.size := ⟨_, rfl⟩
  rw [← g16] at A16 D16 st16
  have g_b16 : n0 ≤ b16 := Nat.le_trans sz14 (Nat.le_of_eq g16.symm)
  have ne_b14_b16 : b14 ≠ b16 := Nat.ne_of_lt (Nat.lt_of_lt_of_le F_b14_last_14.lt (Nat.le_of_eq g16.symm))
  have E_b14_16 : Exa Z h16 b14 "com/example/bushtit/bushtit/session/SequenceNumbers" := A14.ext E16
  have F_b14_last_16 : Fld Z h16 b14 "com/example/bushtit/bushtit/session/SequenceNumbers" "last" "I" (.int (0 : Int32)) := F_b14_last_14.ext E16
  have F_b16_last_16 : Fld Z h16 b16 "com/example/bushtit/bushtit/session/SequenceNumbers" "last" "I" (.int (0 : Int32)) := D16 (Or.inl (hw _ (List.mem_of_getElem? (i := 20) rfl))) (ty := .int) (by decide)
  have sz16 : n0 ≤ h16.size := Nat.le_trans sz14 E16.1
  refine own_st ?_ st16
  show own_Fin _ _ _ _ T16 (mkF m 11 #[.val (.int q1), .val (.ref b14), .unset, .unset, .unset] [(.ref b16)])
  refine own_dup X16 hx (hb hby at_11) (pc' := 12) rfl rfl ?_
  obtain ⟨_, _, ⟨T17, L17, k17, n17⟩, -, X17, ⟨Lc17, hQ17, l17, y17, z17⟩, st17⟩ := X16.specialBack hx (y := (⟨"com/example/bushtit/bushtit/session/SequenceNumbers", "<init>", "()V"⟩ : MethodName)) rfl hown (mvT hZ (hw _ (List.mem_of_getElem? (i := 3) rfl))) (mvT hZ (hw _ (List.mem_of_getElem? (i := 4) rfl))) (mvT hZ (hw _ (List.mem_of_getElem? (i := 5) rfl))) (by decide) (backOf (W := 1) (rm1 l Z a0 hw [] b16 (0 : Int32) h16 n0 sz16 A16 F_b16_last_16) hZ (hw _ (List.mem_of_getElem? (i := 5) rfl)) (hw _ (List.mem_of_getElem? (i := 2) rfl)) (by decide) (by decide)) (g := (mkF m 12 #[.val (.int q1), .val (.ref b14), .unset, .unset, .unset] [(.ref b16), (.ref b16)])) rfl (by rw [hml]; rfl) (Steps.refl _) (a := b16) (argsL := []) (rest := [(.ref b16)]) (lenOf pd_1 rfl) rfl (by show 2 * 0 + _ ≤ _; exact Nat.le_of_eq rfl) (hb hby at_12) (fun _ _ => ⟨rfl, e16, (by decide : 2 + 0 ≤ _), (by decide : 2 + 0 ≤ _)⟩)
  dsimp only [Pt.U, Pt.locs, Pt.cells, Pt.slots] at X17 l17 y17 z17 st17 hQ17
  subst l17 y17 z17
  obtain ⟨rfl, N17q, e17'⟩ := hQ17
  have N17 := Fr.app N15 N17q
  refine own_st ?_ (fun t k => st17.trans k)
  show own_Fin _ _ _ _ T17 (mkF m 15 #[.val (.int q1), .val (.ref b14), .unset, .unset, .unset] [(.ref b16)])
  refine own_astoreN X17 hx (hb hby at_15) (pc' := 16) rfl (Ls' := #[.val (.int q1), .val (.ref b14), .val (.ref b16), .unset, .unset]) rfl rfl ?_
  refine own_iconst X17 hx (hb hby at_16) (pc' := 17) rfl (v := (2 : Int32)) rfl ?_
  obtain ⟨T18, h18, k18, X18, e18, E18, A18, st18⟩ := newP X17 hx hZ (hw _ (List.mem_of_getElem? (i := 9) rfl)) e17' (g := (mkF m 17 #[.val (.int q1), .val (.ref b14), .val (.ref b16), .unset, .unset] [(.int (2 : Int32))])) rfl (hb hby at_17) rfl (by decide) (cap := 2) (by decide) (by decide) (by decide) (by decide)
  obtain ⟨b18, g18⟩ : ∃ z, z = h16.size := ⟨_, rfl⟩
  rw [← g18] at A18 st18
  have g_b18 : n0 ≤ b18 := Nat.le_trans sz16 (Nat.le_of_eq g18.symm)
  have ne_b14_b18 : b14 ≠ b18 := Nat.ne_of_lt (Nat.lt_of_lt_of_le F_b14_last_16.lt (Nat.le_of_eq g18.symm))
  have ne_b16_b18 : b16 ≠ b18 := Nat.ne_of_lt (Nat.lt_of_lt_of_le F_b16_last_16.lt (Nat.le_of_eq g18.symm))
  have E_b14_18 : Exa Z h18 b14 "com/example/bushtit/bushtit/session/SequenceNumbers" := E_b14_16.ext E18
  have F_b14_last_18 : Fld Z h18 b14 "com/example/bushtit/bushtit/session/SequenceNumbers" "last" "I" (.int (0 : Int32)) := F_b14_last_16.ext E18
  have E_b16_18 : Exa Z h18 b16 "com/example/bushtit/bushtit/session/SequenceNumbers" := A16.ext E18
  have F_b16_last_18 : Fld Z h18 b16 "com/example/bushtit/bushtit/session/SequenceNumbers" "last" "I" (.int (0 : Int32)) := F_b16_last_16.ext E18
  have A_b18_18 : Arv Z h18 b18 k18 .int (2 : Int32) [(.int (0 : Int32)), (.int (0 : Int32))] (.int (0 : Int32)) := (Arv.new A18 (by decide)).pad (pad_rep [] (.int (0 : Int32)) 2)
  have sz18 : n0 ≤ h18.size := Nat.le_trans sz16 E18.1
  refine own_st ?_ st18
  show own_Fin _ _ _ _ T18 (mkF m 19 #[.val (.int q1), .val (.ref b14), .val (.ref b16), .unset, .unset] [(.ref b18)])
  refine own_astoreN X18 hx (hb hby at_19) (pc' := 20) rfl (Ls' := #[.val (.int q1), .val (.ref b14), .val (.ref b16), .val (.ref b18), .unset]) rfl rfl ?_
  refine own_iconst X18 hx (hb hby at_20) (pc' := 21) rfl (v := (1 : Int32)) rfl ?_
  refine own_istore X18 hx (hb hby at_21) (pc' := 23) rfl (Ls' := #[.val (.int q1), .val (.ref b14), .val (.ref b16), .val (.ref b18), .val (.int (1 : Int32))]) rfl ?_
  refine own_iload X18 hx (hb hby at_23) (pc' := 25) rfl rfl ?_
  refine own_aloadN X18 hx (hb hby at_25) (pc' := 26) rfl rfl rfl ?_
  refine own_aloadN X18 hx (hb hby at_26) (pc' := 27) rfl rfl rfl ?_
  refine own_aloadN X18 hx (hb hby at_27) (pc' := 28) rfl rfl rfl ?_
  refine own_iloadN X18 hx (hb hby at_28) (pc' := 29) rfl rfl ?_
  refine own_iconst X18 hx (hb hby at_29) (pc' := 30) rfl (v := (1 : Int32)) rfl ?_
  refine own_iand X18 hx (hb hby at_30) (pc' := 31) rfl ?_
  obtain ⟨_, _, ⟨T19, L19, k19, n19⟩, -, X19, ⟨Lc19, hQ19, l19, y19, z19⟩, st19⟩ := Jvm.LawKit.callS X18 hx (y := (⟨"com/example/bushtit/bushtit/session/SequenceNumbersNextPinLaw", "step", "(Lcom/example/bushtit/bushtit/session/SequenceNumbers;Lcom/example/bushtit/bushtit/session/SequenceNumbers;[II)Z"⟩ : MethodName)) hown (mvT hZ (hw _ (List.mem_of_getElem? (i := 10) rfl))) (mvT hZ (hw _ (List.mem_of_getElem? (i := 11) rfl))) (mvT hZ (hw _ (List.mem_of_getElem? (i := 12) rfl))) (mvT hZ (hw _ (List.mem_of_getElem? (i := 13) rfl))) (by decide) (backOf (W := 1) (rms l Z a0 hw [] b14 b16 b18 (q1 &&& (1 : Int32)) (0 : Int32) (0 : Int32) k18 (0 : Int) h18 n0 sz18 E_b14_18 g_b14 F_b14_last_18 E_b16_18 g_b16 F_b16_last_18 A_b18_18 g_b18 ne_b14_b16 ne_b14_b18 ne_b16_b18 ⟨by decide, by decide, by decide, by decide⟩ (by decide)) hZ (hw _ (List.mem_of_getElem? (i := 13) rfl)) (hw _ (List.mem_of_getElem? (i := 12) rfl)) (by decide) (by decide)) (g := (mkF m 31 #[.val (.int q1), .val (.ref b14), .val (.ref b16), .val (.ref b18), .val (.int (1 : Int32))] [(.int (q1 &&& (1 : Int32))), (.ref b18), (.ref b16), (.ref b14), (.int (1 : Int32))])) rfl (by rw [hml]; rfl) (argsL := [(.ref b14), (.ref b16), (.ref b18), (.int (q1 &&& (1 : Int32)))]) (rest := [(.int (1 : Int32))]) (lenOf pd_2 rfl) rfl (by show 2 * 0 + _ ≤ _; exact Nat.le_of_eq rfl) (hb hby at_31) (fun _ _ => ⟨rfl, e18, (by decide : 3 + 0 ≤ _), (by decide : 4 + 0 ≤ _)⟩)
  dsimp only [Pt.U, Pt.locs, Pt.cells, Pt.slots] at X19 l19 y19 z19 st19 hQ19
  subst l19 y19 z19
  obtain ⟨rfl, N19q, K19', x19, y19, hB19, EA19, FA19, EB19, FB19, AC19⟩ := hQ19
  have sz19 : n0 ≤ T19.heap.size := Nat.le_trans sz18 K19'.1
  have N19 := Fr.app N17 N19q
  refine own_st ?_ st19
  show own_Fin _ _ _ _ T19 (mkF m 34 #[.val (.int q1), .val (.ref b14), .val (.ref b16), .val (.ref b18), .val (.int (1 : Int32))] [(.int (1 : Int32)), (.int (1 : Int32))])
  refine own_iand X19 hx (hb hby at_34) (pc' := 35) rfl ?_
  show own_Fin _ _ _ _ T19 (mkF m 35 #[.val (.int q1), .val (.ref b14), .val (.ref b16), .val (.ref b18), .val (.int (1 : Int32))] [(.int (1 : Int32))])
  refine own_istore X19 hx (hb hby at_35) (pc' := 37) rfl (Ls' := #[.val (.int q1), .val (.ref b14), .val (.ref b16), .val (.ref b18), .val (.int (1 : Int32))]) rfl ?_
  refine own_iload X19 hx (hb hby at_37) (pc' := 39) rfl rfl ?_
  refine own_aloadN X19 hx (hb hby at_39) (pc' := 40) rfl rfl rfl ?_
  refine own_aloadN X19 hx (hb hby at_40) (pc' := 41) rfl rfl rfl ?_
  refine own_aloadN X19 hx (hb hby at_41) (pc' := 42) rfl rfl rfl ?_
  refine own_iloadN X19 hx (hb hby at_42) (pc' := 43) rfl rfl ?_
  refine own_iconst X19 hx (hb hby at_43) (pc' := 44) rfl (v := (1 : Int32)) rfl ?_
  refine own_ishr X19 hx (hb hby at_44) (pc' := 45) rfl ?_
  refine own_iconst X19 hx (hb hby at_45) (pc' := 46) rfl (v := (1 : Int32)) rfl ?_
  refine own_iand X19 hx (hb hby at_46) (pc' := 47) rfl ?_
  obtain ⟨_, _, ⟨T20, L20, k20, n20⟩, -, X20, ⟨Lc20, hQ20, l20, y20, z20⟩, st20⟩ := Jvm.LawKit.callS X19 hx (y := (⟨"com/example/bushtit/bushtit/session/SequenceNumbersNextPinLaw", "step", "(Lcom/example/bushtit/bushtit/session/SequenceNumbers;Lcom/example/bushtit/bushtit/session/SequenceNumbers;[II)Z"⟩ : MethodName)) hown (mvT hZ (hw _ (List.mem_of_getElem? (i := 10) rfl))) (mvT hZ (hw _ (List.mem_of_getElem? (i := 11) rfl))) (mvT hZ (hw _ (List.mem_of_getElem? (i := 12) rfl))) (mvT hZ (hw _ (List.mem_of_getElem? (i := 13) rfl))) (by decide) (backOf (W := 1) (rms l Z a0 hw [] b14 b16 b18 ((q1 >>> ((1 : Int32) &&& 31)) &&& (1 : Int32)) x19 y19 k18 ((0 : Int) + 1) T19.heap n0 sz19 EA19 g_b14 FA19 EB19 g_b16 FB19 AC19 g_b18 ne_b14_b16 ne_b14_b18 ne_b16_b18 hB19 (by decide)) hZ (hw _ (List.mem_of_getElem? (i := 13) rfl)) (hw _ (List.mem_of_getElem? (i := 12) rfl)) (by decide) (by decide)) (g := (mkF m 47 #[.val (.int q1), .val (.ref b14), .val (.ref b16), .val (.ref b18), .val (.int (1 : Int32))] [(.int ((q1 >>> ((1 : Int32) &&& 31)) &&& (1 : Int32))), (.ref b18), (.ref b16), (.ref b14), (.int (1 : Int32))])) rfl (by rw [hml]; rfl) (argsL := [(.ref b14), (.ref b16), (.ref b18), (.int ((q1 >>> ((1 : Int32) &&& 31)) &&& (1 : Int32)))]) (rest := [(.int (1 : Int32))]) (lenOf pd_2 rfl) rfl (by show 2 * 0 + _ ≤ _; exact Nat.le_of_eq rfl) (hb hby at_47) (fun _ _ => ⟨rfl, rfl, (by decide : 3 + 0 ≤ _), (by decide : 4 + 0 ≤ _)⟩)
  dsimp only [Pt.U, Pt.locs, Pt.cells, Pt.slots] at X20 l20 y20 z20 st20 hQ20
  subst l20 y20 z20
  obtain ⟨rfl, N20q, K20', x20, y20, hB20, EA20, FA20, EB20, FB20, AC20⟩ := hQ20
  have sz20 : n0 ≤ T20.heap.size := Nat.le_trans sz19 K20'.1
  have N20 := Fr.app N19 N20q
  refine own_st ?_ st20
  show own_Fin _ _ _ _ T20 (mkF m 50 #[.val (.int q1), .val (.ref b14), .val (.ref b16), .val (.ref b18), .val (.int (1 : Int32))] [(.int (1 : Int32)), (.int (1 : Int32))])
  refine own_iand X20 hx (hb hby at_50) (pc' := 51) rfl ?_
  show own_Fin _ _ _ _ T20 (mkF m 51 #[.val (.int q1), .val (.ref b14), .val (.ref b16), .val (.ref b18), .val (.int (1 : Int32))] [(.int (1 : Int32))])
  refine own_istore X20 hx (hb hby at_51) (pc' := 53) rfl (Ls' := #[.val (.int q1), .val (.ref b14), .val (.ref b16), .val (.ref b18), .val (.int (1 : Int32))]) rfl ?_
  refine own_iload X20 hx (hb hby at_53) (pc' := 55) rfl rfl ?_
  refine own_aloadN X20 hx (hb hby at_55) (pc' := 56) rfl rfl rfl ?_
  refine own_aloadN X20 hx (hb hby at_56) (pc' := 57) rfl rfl rfl ?_
  refine own_aloadN X20 hx (hb hby at_57) (pc' := 58) rfl rfl rfl ?_
  refine own_iloadN X20 hx (hb hby at_58) (pc' := 59) rfl rfl ?_
  refine own_iconst X20 hx (hb hby at_59) (pc' := 60) rfl (v := (2 : Int32)) rfl ?_
  refine own_ishr X20 hx (hb hby at_60) (pc' := 61) rfl ?_
  refine own_iconst X20 hx (hb hby at_61) (pc' := 62) rfl (v := (1 : Int32)) rfl ?_
  refine own_iand X20 hx (hb hby at_62) (pc' := 63) rfl ?_
  obtain ⟨_, _, ⟨T21, L21, k21, n21⟩, -, X21, ⟨Lc21, hQ21, l21, y21, z21⟩, st21⟩ := Jvm.LawKit.callS X20 hx (y := (⟨"com/example/bushtit/bushtit/session/SequenceNumbersNextPinLaw", "step", "(Lcom/example/bushtit/bushtit/session/SequenceNumbers;Lcom/example/bushtit/bushtit/session/SequenceNumbers;[II)Z"⟩ : MethodName)) hown (mvT hZ (hw _ (List.mem_of_getElem? (i := 10) rfl))) (mvT hZ (hw _ (List.mem_of_getElem? (i := 11) rfl))) (mvT hZ (hw _ (List.mem_of_getElem? (i := 12) rfl))) (mvT hZ (hw _ (List.mem_of_getElem? (i := 13) rfl))) (by decide) (backOf (W := 1) (rms l Z a0 hw [] b14 b16 b18 ((q1 >>> ((2 : Int32) &&& 31)) &&& (1 : Int32)) x20 y20 k18 (((0 : Int) + 1) + 1) T20.heap n0 sz20 EA20 g_b14 FA20 EB20 g_b16 FB20 AC20 g_b18 ne_b14_b16 ne_b14_b18 ne_b16_b18 hB20 (by decide)) hZ (hw _ (List.mem_of_getElem? (i := 13) rfl)) (hw _ (List.mem_of_getElem? (i := 12) rfl)) (by decide) (by decide)) (g := (mkF m 63 #[.val (.int q1), .val (.ref b14), .val (.ref b16), .val (.ref b18), .val (.int (1 : Int32))] [(.int ((q1 >>> ((2 : Int32) &&& 31)) &&& (1 : Int32))), (.ref b18), (.ref b16), (.ref b14), (.int (1 : Int32))])) rfl (by rw [hml]; rfl) (argsL := [(.ref b14), (.ref b16), (.ref b18), (.int ((q1 >>> ((2 : Int32) &&& 31)) &&& (1 : Int32)))]) (rest := [(.int (1 : Int32))]) (lenOf pd_2 rfl) rfl (by show 2 * 0 + _ ≤ _; exact Nat.le_of_eq rfl) (hb hby at_63) (fun _ _ => ⟨rfl, rfl, (by decide : 3 + 0 ≤ _), (by decide : 4 + 0 ≤ _)⟩)
  dsimp only [Pt.U, Pt.locs, Pt.cells, Pt.slots] at X21 l21 y21 z21 st21 hQ21
  subst l21 y21 z21
  obtain ⟨rfl, N21q, K21', x21, y21, hB21, EA21, FA21, EB21, FB21, AC21⟩ := hQ21
  have sz21 : n0 ≤ T21.heap.size := Nat.le_trans sz20 K21'.1
  have N21 := Fr.app N20 N21q
  refine own_st ?_ st21
  show own_Fin _ _ _ _ T21 (mkF m 66 #[.val (.int q1), .val (.ref b14), .val (.ref b16), .val (.ref b18), .val (.int (1 : Int32))] [(.int (1 : Int32)), (.int (1 : Int32))])
  refine own_iand X21 hx (hb hby at_66) (pc' := 67) rfl ?_
  show own_Fin _ _ _ _ T21 (mkF m 67 #[.val (.int q1), .val (.ref b14), .val (.ref b16), .val (.ref b18), .val (.int (1 : Int32))] [(.int (1 : Int32))])
  refine own_istore X21 hx (hb hby at_67) (pc' := 69) rfl (Ls' := #[.val (.int q1), .val (.ref b14), .val (.ref b16), .val (.ref b18), .val (.int (1 : Int32))]) rfl ?_
  refine own_iload X21 hx (hb hby at_69) (pc' := 71) rfl rfl ?_
  refine own_aloadN X21 hx (hb hby at_71) (pc' := 72) rfl rfl rfl ?_
  refine own_aloadN X21 hx (hb hby at_72) (pc' := 73) rfl rfl rfl ?_
  refine own_aloadN X21 hx (hb hby at_73) (pc' := 74) rfl rfl rfl ?_
  refine own_iloadN X21 hx (hb hby at_74) (pc' := 75) rfl rfl ?_
  refine own_iconst X21 hx (hb hby at_75) (pc' := 76) rfl (v := (3 : Int32)) rfl ?_
  refine own_ishr X21 hx (hb hby at_76) (pc' := 77) rfl ?_
  refine own_iconst X21 hx (hb hby at_77) (pc' := 78) rfl (v := (1 : Int32)) rfl ?_
  refine own_iand X21 hx (hb hby at_78) (pc' := 79) rfl ?_
  obtain ⟨_, _, ⟨T22, L22, k22, n22⟩, -, X22, ⟨Lc22, hQ22, l22, y22, z22⟩, st22⟩ := Jvm.LawKit.callS X21 hx (y := (⟨"com/example/bushtit/bushtit/session/SequenceNumbersNextPinLaw", "step", "(Lcom/example/bushtit/bushtit/session/SequenceNumbers;Lcom/example/bushtit/bushtit/session/SequenceNumbers;[II)Z"⟩ : MethodName)) hown (mvT hZ (hw _ (List.mem_of_getElem? (i := 10) rfl))) (mvT hZ (hw _ (List.mem_of_getElem? (i := 11) rfl))) (mvT hZ (hw _ (List.mem_of_getElem? (i := 12) rfl))) (mvT hZ (hw _ (List.mem_of_getElem? (i := 13) rfl))) (by decide) (backOf (W := 1) (rms l Z a0 hw [] b14 b16 b18 ((q1 >>> ((3 : Int32) &&& 31)) &&& (1 : Int32)) x21 y21 k18 ((((0 : Int) + 1) + 1) + 1) T21.heap n0 sz21 EA21 g_b14 FA21 EB21 g_b16 FB21 AC21 g_b18 ne_b14_b16 ne_b14_b18 ne_b16_b18 hB21 (by decide)) hZ (hw _ (List.mem_of_getElem? (i := 13) rfl)) (hw _ (List.mem_of_getElem? (i := 12) rfl)) (by decide) (by decide)) (g := (mkF m 79 #[.val (.int q1), .val (.ref b14), .val (.ref b16), .val (.ref b18), .val (.int (1 : Int32))] [(.int ((q1 >>> ((3 : Int32) &&& 31)) &&& (1 : Int32))), (.ref b18), (.ref b16), (.ref b14), (.int (1 : Int32))])) rfl (by rw [hml]; rfl) (argsL := [(.ref b14), (.ref b16), (.ref b18), (.int ((q1 >>> ((3 : Int32) &&& 31)) &&& (1 : Int32)))]) (rest := [(.int (1 : Int32))]) (lenOf pd_2 rfl) rfl (by show 2 * 0 + _ ≤ _; exact Nat.le_of_eq rfl) (hb hby at_79) (fun _ _ => ⟨rfl, rfl, (by decide : 3 + 0 ≤ _), (by decide : 4 + 0 ≤ _)⟩)
  dsimp only [Pt.U, Pt.locs, Pt.cells, Pt.slots] at X22 l22 y22 z22 st22 hQ22
  subst l22 y22 z22
  obtain ⟨rfl, N22q, K22', x22, y22, hB22, EA22, FA22, EB22, FB22, AC22⟩ := hQ22
  have sz22 : n0 ≤ T22.heap.size := Nat.le_trans sz21 K22'.1
  have N22 := Fr.app N21 N22q
  refine own_st ?_ st22
  show own_Fin _ _ _ _ T22 (mkF m 82 #[.val (.int q1), .val (.ref b14), .val (.ref b16), .val (.ref b18), .val (.int (1 : Int32))] [(.int (1 : Int32)), (.int (1 : Int32))])
  refine own_iand X22 hx (hb hby at_82) (pc' := 83) rfl ?_
  show own_Fin _ _ _ _ T22 (mkF m 83 #[.val (.int q1), .val (.ref b14), .val (.ref b16), .val (.ref b18), .val (.int (1 : Int32))] [(.int (1 : Int32))])
  refine own_istore X22 hx (hb hby at_83) (pc' := 85) rfl (Ls' := #[.val (.int q1), .val (.ref b14), .val (.ref b16), .val (.ref b18), .val (.int (1 : Int32))]) rfl ?_
  refine own_iload X22 hx (hb hby at_85) (pc' := 87) rfl rfl ?_
  refine own_aloadN X22 hx (hb hby at_87) (pc' := 88) rfl rfl rfl ?_
  refine own_aloadN X22 hx (hb hby at_88) (pc' := 89) rfl rfl rfl ?_
  refine own_aloadN X22 hx (hb hby at_89) (pc' := 90) rfl rfl rfl ?_
  refine own_iloadN X22 hx (hb hby at_90) (pc' := 91) rfl rfl ?_
  refine own_iconst X22 hx (hb hby at_91) (pc' := 92) rfl (v := (4 : Int32)) rfl ?_
  refine own_ishr X22 hx (hb hby at_92) (pc' := 93) rfl ?_
  refine own_iconst X22 hx (hb hby at_93) (pc' := 94) rfl (v := (1 : Int32)) rfl ?_
  refine own_iand X22 hx (hb hby at_94) (pc' := 95) rfl ?_
  obtain ⟨_, _, ⟨T23, L23, k23, n23⟩, -, X23, ⟨Lc23, hQ23, l23, y23, z23⟩, st23⟩ := Jvm.LawKit.callS X22 hx (y := (⟨"com/example/bushtit/bushtit/session/SequenceNumbersNextPinLaw", "step", "(Lcom/example/bushtit/bushtit/session/SequenceNumbers;Lcom/example/bushtit/bushtit/session/SequenceNumbers;[II)Z"⟩ : MethodName)) hown (mvT hZ (hw _ (List.mem_of_getElem? (i := 10) rfl))) (mvT hZ (hw _ (List.mem_of_getElem? (i := 11) rfl))) (mvT hZ (hw _ (List.mem_of_getElem? (i := 12) rfl))) (mvT hZ (hw _ (List.mem_of_getElem? (i := 13) rfl))) (by decide) (backOf (W := 1) (rms l Z a0 hw [] b14 b16 b18 ((q1 >>> ((4 : Int32) &&& 31)) &&& (1 : Int32)) x22 y22 k18 (((((0 : Int) + 1) + 1) + 1) + 1) T22.heap n0 sz22 EA22 g_b14 FA22 EB22 g_b16 FB22 AC22 g_b18 ne_b14_b16 ne_b14_b18 ne_b16_b18 hB22 (by decide)) hZ (hw _ (List.mem_of_getElem? (i := 13) rfl)) (hw _ (List.mem_of_getElem? (i := 12) rfl)) (by decide) (by decide)) (g := (mkF m 95 #[.val (.int q1), .val (.ref b14), .val (.ref b16), .val (.ref b18), .val (.int (1 : Int32))] [(.int ((q1 >>> ((4 : Int32) &&& 31)) &&& (1 : Int32))), (.ref b18), (.ref b16), (.ref b14), (.int (1 : Int32))])) rfl (by rw [hml]; rfl) (argsL := [(.ref b14), (.ref b16), (.ref b18), (.int ((q1 >>> ((4 : Int32) &&& 31)) &&& (1 : Int32)))]) (rest := [(.int (1 : Int32))]) (lenOf pd_2 rfl) rfl (by show 2 * 0 + _ ≤ _; exact Nat.le_of_eq rfl) (hb hby at_95) (fun _ _ => ⟨rfl, rfl, (by decide : 3 + 0 ≤ _), (by decide : 4 + 0 ≤ _)⟩)
  dsimp only [Pt.U, Pt.locs, Pt.cells, Pt.slots] at X23 l23 y23 z23 st23 hQ23
  subst l23 y23 z23
  obtain ⟨rfl, N23q, K23', x23, y23, hB23, EA23, FA23, EB23, FB23, AC23⟩ := hQ23
  have sz23 : n0 ≤ T23.heap.size := Nat.le_trans sz22 K23'.1
  have N23 := Fr.app N22 N23q
  refine own_st ?_ st23
  show own_Fin _ _ _ _ T23 (mkF m 98 #[.val (.int q1), .val (.ref b14), .val (.ref b16), .val (.ref b18), .val (.int (1 : Int32))] [(.int (1 : Int32)), (.int (1 : Int32))])
  refine own_iand X23 hx (hb hby at_98) (pc' := 99) rfl ?_
  show own_Fin _ _ _ _ T23 (mkF m 99 #[.val (.int q1), .val (.ref b14), .val (.ref b16), .val (.ref b18), .val (.int (1 : Int32))] [(.int (1 : Int32))])
  refine own_istore X23 hx (hb hby at_99) (pc' := 101) rfl (Ls' := #[.val (.int q1), .val (.ref b14), .val (.ref b16), .val (.ref b18), .val (.int (1 : Int32))]) rfl ?_
  refine own_iload X23 hx (hb hby at_101) (pc' := 103) rfl rfl ?_
  refine own_aloadN X23 hx (hb hby at_103) (pc' := 104) rfl rfl rfl ?_
  refine own_aloadN X23 hx (hb hby at_104) (pc' := 105) rfl rfl rfl ?_
  refine own_aloadN X23 hx (hb hby at_105) (pc' := 106) rfl rfl rfl ?_
  refine own_iloadN X23 hx (hb hby at_106) (pc' := 107) rfl rfl ?_
  refine own_iconst X23 hx (hb hby at_107) (pc' := 108) rfl (v := (5 : Int32)) rfl ?_
  refine own_ishr X23 hx (hb hby at_108) (pc' := 109) rfl ?_
  refine own_iconst X23 hx (hb hby at_109) (pc' := 110) rfl (v := (1 : Int32)) rfl ?_
  refine own_iand X23 hx (hb hby at_110) (pc' := 111) rfl ?_
  obtain ⟨_, _, ⟨T24, L24, k24, n24⟩, -, X24, ⟨Lc24, hQ24, l24, y24, z24⟩, st24⟩ := Jvm.LawKit.callS X23 hx (y := (⟨"com/example/bushtit/bushtit/session/SequenceNumbersNextPinLaw", "step", "(Lcom/example/bushtit/bushtit/session/SequenceNumbers;Lcom/example/bushtit/bushtit/session/SequenceNumbers;[II)Z"⟩ : MethodName)) hown (mvT hZ (hw _ (List.mem_of_getElem? (i := 10) rfl))) (mvT hZ (hw _ (List.mem_of_getElem? (i := 11) rfl))) (mvT hZ (hw _ (List.mem_of_getElem? (i := 12) rfl))) (mvT hZ (hw _ (List.mem_of_getElem? (i := 13) rfl))) (by decide) (backOf (W := 1) (rms l Z a0 hw [] b14 b16 b18 ((q1 >>> ((5 : Int32) &&& 31)) &&& (1 : Int32)) x23 y23 k18 ((((((0 : Int) + 1) + 1) + 1) + 1) + 1) T23.heap n0 sz23 EA23 g_b14 FA23 EB23 g_b16 FB23 AC23 g_b18 ne_b14_b16 ne_b14_b18 ne_b16_b18 hB23 (by decide)) hZ (hw _ (List.mem_of_getElem? (i := 13) rfl)) (hw _ (List.mem_of_getElem? (i := 12) rfl)) (by decide) (by decide)) (g := (mkF m 111 #[.val (.int q1), .val (.ref b14), .val (.ref b16), .val (.ref b18), .val (.int (1 : Int32))] [(.int ((q1 >>> ((5 : Int32) &&& 31)) &&& (1 : Int32))), (.ref b18), (.ref b16), (.ref b14), (.int (1 : Int32))])) rfl (by rw [hml]; rfl) (argsL := [(.ref b14), (.ref b16), (.ref b18), (.int ((q1 >>> ((5 : Int32) &&& 31)) &&& (1 : Int32)))]) (rest := [(.int (1 : Int32))]) (lenOf pd_2 rfl) rfl (by show 2 * 0 + _ ≤ _; exact Nat.le_of_eq rfl) (hb hby at_111) (fun _ _ => ⟨rfl, rfl, (by decide : 3 + 0 ≤ _), (by decide : 4 + 0 ≤ _)⟩)
  dsimp only [Pt.U, Pt.locs, Pt.cells, Pt.slots] at X24 l24 y24 z24 st24 hQ24
  subst l24 y24 z24
  obtain ⟨rfl, N24q, K24', x24, y24, hB24, EA24, FA24, EB24, FB24, AC24⟩ := hQ24
  have sz24 : n0 ≤ T24.heap.size := Nat.le_trans sz23 K24'.1
  have N24 := Fr.app N23 N24q
  refine own_st ?_ st24
  show own_Fin _ _ _ _ T24 (mkF m 114 #[.val (.int q1), .val (.ref b14), .val (.ref b16), .val (.ref b18), .val (.int (1 : Int32))] [(.int (1 : Int32)), (.int (1 : Int32))])
  refine own_iand X24 hx (hb hby at_114) (pc' := 115) rfl ?_
  show own_Fin _ _ _ _ T24 (mkF m 115 #[.val (.int q1), .val (.ref b14), .val (.ref b16), .val (.ref b18), .val (.int (1 : Int32))] [(.int (1 : Int32))])
  refine own_istore X24 hx (hb hby at_115) (pc' := 117) rfl (Ls' := #[.val (.int q1), .val (.ref b14), .val (.ref b16), .val (.ref b18), .val (.int (1 : Int32))]) rfl ?_
  refine own_iload X24 hx (hb hby at_117) (pc' := 119) rfl rfl ?_
  refine own_retN X24 hx (t := .boolean) hret (by simp) hlk (hb hby at_119) (by decide) (by decide) ?_
  exact ⟨(congrArg some (congrArg Value.int (show _ = (own_f0 q1) from by rw [own_f0]; rfl))), N24⟩
theorem ef_0 (m : MethodId) (q1 : Int32) : entryFrame m #[(.int q1)] maxLocals = mkF m 0 #[.val (.int q1), .unset, .unset, .unset, .unset] [] := by first | (simp [entryFrame, mkF, argsToLocals, Value.category, maxLocals]; done) | rfl
set_option maxRecDepth 65536 in
set_option maxHeartbeats 40000000 in
theorem rm0 (l : Launch) (Z : State) (a0 : Array Value) (hw : ∀ d ∈ tables_1, d.before a0 Z = true) (ws : List Jvm.Cond) (q1 : Int32) (h0 : Heap) (n0 : Nat) (Z0 : n0 ≤ h0.size)  (own_law : ∀ (q1 : Int32), (own_f0 q1) = 1) :
    MetFree l x (head1 (Jvm.Cond.code x code maxLocals ret :: ws) room_1) (fun a U => a = #[(.int q1)] ∧ Z.Warmed39 U.vm ∧ U.heap = h0) (fun _ _ _ _ _ => True) (fun _ U o U' => ∃ v L, o = .returned v ∧ (own_L n0 (.int 1)) v U'.heap L ∧ FrameEnd U o U' L 3 4) := by
  refine MetFree.of_bodySF (plainFor_of_name pn_0) hisR ?_
  intro p e s m args below meth c s₁ Bd hml0 hP hK
  obtain ⟨rfl, hZ, hh⟩ := hP
  have hown : s.vm.findClass "com/example/bushtit/bushtit/session/SequenceNumbersNextPinLaw" = some m.cls := findClass_of_methodNamed Bd.named
  have hnm := (name_of_methodNamed Bd.named Bd.method).1
  have X0 : Stand p l e room_1 s m #[(.int q1)] below meth c s₁ [] 0 0 := Stand.of_body Bd
  have e0 : s₁.heap = h0 := by rw [← hh, Bd.state]; rfl
  have H := sg0_0 l hw Bd.exec hZ Bd.bytes hml0 hown hnm Bd.returns Bd.notSynchronized q1 Z0 X0 (Fr.nil n0) e0
  rw [own_law] at H
  obtain ⟨t, h1, h2, o, h3, h4⟩ := H
  exact ⟨t, o, castTop (ef_0 m q1) h1, h2, h3, h4⟩
theorem own_law (q1 : Int32) : own_f0 q1 = 1 := rfl
set_option maxRecDepth 65536 in
set_option maxHeartbeats 40000000 in
theorem comes_1 {Post : Tables → Env → Array Value → State → Outcome → State → Prop} (hpost : ∀ tb e args s v u, (limb_1_1.after args s (.returned v) u = true ∧ limb_1_2.after args s (.returned v) u = true ∧ True) → FrameEnd s (.returned v) u (Jvm.fieldLocs frame_1_writes args s ++ Jvm.arrayLocs frame_1_arrays args s ++ Jvm.staticLocs frame_1_statics s) 16 128 → Post tb e args s (.returned v) u) :
    ArmFor flags0 classFile x code maxLocals ret World_1 tables_1 room_1 Calls_1 rest_1 Pre_1 Post := by
  intro l hfl _ _ p e ha hc hk s m args below hf hA hF happ hP
  obtain ⟨hcalls, hrest, hpre⟩ := hP
  obtain ⟨-, -, -, hnamed, -, -, -, hat⟩ := (Spec.applies_iff hf).mp happ
  obtain ⟨hg, hn⟩ := and_e (Cond.before_iff.mp (show (Jvm.Cond.and given_1 narrow_1).before args s = true from hpre))
  obtain ⟨gc, g0⟩ := and_e hg
  have gv0 := g0
  obtain ⟨w0, rfl⟩ : ∃ w0 : Value, args = #[w0] := by
    have hs : args.size = 1 := by simpa [Cond.value, given_1] using gc
    obtain ⟨L⟩ := args
    match L, hs with
    | [w0], _ => exact ⟨w0, rfl⟩
  have hw := fun d (hd : d ∈ tables_1) => atoms_spec (ws := Jvm.Cond.code x code maxLocals ret :: tables_1) hat d (List.mem_cons_of_mem _ hd)
  obtain ⟨i0, ei0⟩ := is_v gv0
  obtain rfl : w0 = (.int i0) := Option.some.inj ei0
  obtain ⟨n, o, h1, h2, h3, _, L, rfl, ⟨rfl, N⟩, hq⟩ := rm0 l s _ hw tables_1 i0 s.heap s.heap.size (Nat.le_refl _) own_law p e ha hc hk s m _ below hf ((Spec.applies_iff_loose hf).mp happ).1 ⟨rfl, State.Warmed39.refl s, rfl⟩ trivial
  refine ⟨n, _, h1, h2, h3, hpost _ _ _ _ _ _ ⟨Cond.after_iff.mpr rfl, Cond.after_iff.mpr (eq_i res_at (Term.int_eval (1)) rfl), trivial⟩ ⟨hq.1, hq.2.1, (hq.2.2.sift fun y hy => Or.inr (N y hy)).mono (by decide) (by decide)⟩⟩
theorem main_1_1 : Claimed_1_1 := comes_1 fun _ _ _ _ _ _ h hF => ⟨h.1, hF⟩
theorem main_1_2 : Claimed_1_2 := comes_1 fun _ _ _ _ _ _ h hF => ⟨h.2.1, hF⟩
end Jvm.Pilot.@@N@@
namespace Jvm.Pilot.@@N@@
open Jvm Jvm.ClassFile Sem Op Lib Jvm.Free Jvm.Stand Jvm.Pilot.@@N@@.Jvm.D
/-! MADE BY PROGRAM (witnessworld.py) out of the Statement's table words and the real class files: 9 classes; the members and pool entries that the words name. The judged class is class 1, her method 2. -/
namespace start1
open Jvm.ClassFile
def u (s : String) : CpInfo := .utf8 (stringToUtf16 s)
/-- a pool by its gaps: so many unusable entries, then the entry; so many at the end -/
def gap : Nat → List CpInfo → List CpInfo
  | 0, r => r
  | n + 1, r => .unusable :: gap n r
def poolList (es : List (Nat × CpInfo)) (last : Nat) : List CpInfo := es.foldr (fun e r => gap e.1 (e.2 :: r)) (gap last [])
def pool (es : List (Nat × CpInfo)) (last : Nat) : Array CpInfo := ⟨poolList es last⟩
def fileOf (pool : Array CpInfo) (this : Nat) (attrs : Array Attribute := #[]) (ms : Array MethodInfo := #[]) (fl : Nat := 33) (sup : Nat := 0) (ifs : Array Nat := #[]) (fds : Array FieldInfo := #[]) : ClassFile where
  minorVersion := 0
  majorVersion := 65
  constantPool := pool
  accessFlags := fl
  thisClass := this
  superClass := sup
  interfaces := ifs
  fields := fds
  methods := ms
  attributes := attrs
def plain (name : String) (sup : Option ClassId) : Class where
  name := name
  kind := .ordinary
  loader := none
  accessFlags := 33
  super := sup
  interfaces := #[]
  cf := none
  fields := #[]
  methods := #[]
  instanceTypes := #[]
  staticTypes := #[]
  resolved := #[]
  callSites := []
  init := .initialized
  statics := none
  mirror := none

def pool0 : Array CpInfo := pool [(5, u "<init>"), (0, u "()V"), (1, .class_ 10), (1, u "java/lang/Object")] 113

def k0c0 : Code := { maxStack := 0, maxLocals := 1, code := object_method_1_code, exceptionTable := #[], attributes := #[] }
def k0m0 : Method := { name := "<init>", desc := "()V", sig := { parameters := [], returnType := none }, accessFlags := 1, code := some k0c0 }
/-- java/lang/Object -/
def k0 : Class := { plain "java/lang/Object" none with
  accessFlags := 33
  interfaces := #[]
  cf := some (fileOf pool0 8 #[] #[{ accessFlags := 1, nameIndex := 5, descriptorIndex := 6, attributes := #[] }] 33 0 #[] #[])
  fields := #[]
  methods := #[k0m0]
  instanceTypes := #[]
  staticTypes := #[]
  resolved := Array.replicate 124 none
  statics := none }

def pool1 : Array CpInfo := pool [(2, .class_ 4), (0, .nameAndType 5 6), (0, u "java/lang/Object"), (0, u "<init>"), (0, u "()V"), (0, .methodref 8 9), (0, .class_ 10), (0, .nameAndType 11 12), (0, u "com/example/bushtit/bushtit/session/SequenceNumbers"), (0, u "next"), (0, u "()I"), (0, .methodref 8 3), (0, .methodref 15 16), (0, .class_ 17), (0, .nameAndType 18 19), (0, u "com/example/bushtit/bushtit/session/SequenceNumbersNextPinLaw"), (0, u "step"), (0, u "(Lcom/example/bushtit/bushtit/session/SequenceNumbers;Lcom/example/bushtit/bushtit/session/SequenceNumbers;[II)Z"), (3, u "law"), (0, u "(I)Z")] 2

def k1m0 : Method := { name := "<init>", desc := "()V", sig := { parameters := [], returnType := none }, accessFlags := 1, code := none }
def k1c1 : Code := { maxStack := 4, maxLocals := 4, code := method_2_code, exceptionTable := #[], attributes := #[] }
def k1m1 : Method := { name := "step", desc := "(Lcom/example/bushtit/bushtit/session/SequenceNumbers;Lcom/example/bushtit/bushtit/session/SequenceNumbers;[II)Z", sig := { parameters := [(.object "com/example/bushtit/bushtit/session/SequenceNumbers"), (.object "com/example/bushtit/bushtit/session/SequenceNumbers"), (.array .int), .int], returnType := some .boolean }, accessFlags := 10, code := some k1c1 }
def k1c2 : Code := { maxStack := 6, maxLocals := 5, code := code, exceptionTable := #[], attributes := #[] }
def k1m2 : Method := { name := "law", desc := "(I)Z", sig := { parameters := [.int], returnType := some .boolean }, accessFlags := 9, code := some k1c2 }
/-- com/example/bushtit/bushtit/session/SequenceNumbersNextPinLaw -/
def k1 : Class := { plain "com/example/bushtit/bushtit/session/SequenceNumbersNextPinLaw" (some 0) with
  accessFlags := 49
  interfaces := #[]
  cf := some (fileOf pool1 15 #[] #[{ accessFlags := 1, nameIndex := 5, descriptorIndex := 6, attributes := #[] }, { accessFlags := 10, nameIndex := 18, descriptorIndex := 19, attributes := #[] }, { accessFlags := 9, nameIndex := 23, descriptorIndex := 24, attributes := #[] }] 49 2 #[] #[])
  fields := #[]
  methods := #[k1m0, k1m1, k1m2]
  instanceTypes := #[]
  staticTypes := #[]
  resolved := Array.replicate 27 none
  statics := none }

def pool2 : Array CpInfo := pool [(1, .methodref 2 3), (0, .class_ 4), (0, .nameAndType 5 6), (0, u "java/lang/Object"), (0, u "<init>"), (0, u "()V"), (0, .fieldref 8 9), (0, .class_ 10), (0, .nameAndType 11 12), (0, u "com/example/bushtit/bushtit/session/SequenceNumbers"), (0, u "last"), (0, u "I"), (0, .integer 2147483647), (0, u "MAX_SEQUENCE_NUMBER"), (3, u "next"), (0, u "()I")] 3

def k2c0 : Code := { maxStack := 1, maxLocals := 1, code := prog_99_method_1_code, exceptionTable := #[], attributes := #[] }
def k2m0 : Method := { name := "<init>", desc := "()V", sig := { parameters := [], returnType := none }, accessFlags := 0, code := some k2c0 }
def k2c1 : Code := { maxStack := 3, maxLocals := 1, code := prog_99_method_2_code, exceptionTable := #[], attributes := #[] }
def k2m1 : Method := { name := "next", desc := "()I", sig := { parameters := [], returnType := some .int }, accessFlags := 0, code := some k2c1 }
/-- com/example/bushtit/bushtit/session/SequenceNumbers -/
def k2 : Class := { plain "com/example/bushtit/bushtit/session/SequenceNumbers" (some 0) with
  accessFlags := 48
  interfaces := #[]
  cf := some (fileOf pool2 8 #[] #[{ accessFlags := 0, nameIndex := 5, descriptorIndex := 6, attributes := #[] }, { accessFlags := 0, nameIndex := 18, descriptorIndex := 19, attributes := #[] }] 48 2 #[] #[{ accessFlags := 26, nameIndex := 14, descriptorIndex := 12, attributes := #[] }, { accessFlags := 2, nameIndex := 11, descriptorIndex := 12, attributes := #[] }])
  fields := #[{ name := "MAX_SEQUENCE_NUMBER", type := .int, accessFlags := 26, slot := 0, constantValue := 0 }, { name := "last", type := .int, accessFlags := 2, slot := 0, constantValue := 0 }]
  methods := #[k2m0, k2m1]
  instanceTypes := #[.int]
  staticTypes := #[.int]
  resolved := Array.replicate 23 none
  statics := none }

def pool3 : Array CpInfo := pool [(1, u "java/lang/Cloneable"), (0, .class_ 1), (0, u "java/lang/Object"), (0, .class_ 3)] 3

/-- java/lang/Cloneable -/
def k3 : Class := { plain "java/lang/Cloneable" (some 0) with
  accessFlags := 1537
  interfaces := #[]
  cf := some (fileOf pool3 2 #[] #[] 1537 4 #[] #[])
  fields := #[]
  methods := #[]
  instanceTypes := #[]
  staticTypes := #[]
  resolved := Array.replicate 8 none
  statics := none }

def pool4 : Array CpInfo := pool [(1, u "java/io/Serializable"), (0, .class_ 1), (0, u "java/lang/Object"), (0, .class_ 3)] 3

/-- java/io/Serializable -/
def k4 : Class := { plain "java/io/Serializable" (some 0) with
  accessFlags := 1537
  interfaces := #[]
  cf := some (fileOf pool4 2 #[] #[] 1537 4 #[] #[])
  fields := #[]
  methods := #[]
  instanceTypes := #[]
  staticTypes := #[]
  resolved := Array.replicate 8 none
  statics := none }

/-- the primitive byte -/
def k5 : Class := { plain "byte" none with kind := .primitive 'B', accessFlags := 0x411 }
/-- [B -/
def k6 : Class := { plain "[B" (some 0) with kind := .array 5 .byte, interfaces := #[3, 4], accessFlags := 1041 }

/-- the primitive int -/
def k7 : Class := { plain "int" none with kind := .primitive 'I', accessFlags := 0x411 }
/-- [I -/
def k8 : Class := { plain "[I" (some 0) with kind := .array 7 .int, interfaces := #[3, 4], accessFlags := 1041 }

def heap : Heap := #[]
def classes : Array Class := #[k0, k1, k2, k3, k4, k5, k6, k7, k8]
def interned : List (Array UInt16 × Addr) := []
def slotsUsed : Nat := 0
def theMethod : MethodId := ⟨1, 2⟩
def args0 : Array Value := #[.int 5]
def aboutOver (below : List Frame) : State where
  vm := { classes := classes, interned := interned.toArray }
  heap := heap
  slotsUsed := slotsUsed
  threads := #[{ frames := .invoking theMethod args0 :: below }]
def below0 : List Frame := [.native { method := ⟨0, 0⟩, args := #[] }]
def about1 : State := aboutOver below0
def p0 : Program := .bare "" "" ""
def e0 : Env := launch0.env 0 0 0
theorem w_frames : about1.frames = Frame.invoking theMethod args0 :: below0 := rfl
set_option maxRecDepth 65536 in
theorem w_args : argsFit about1.vm theMethod args0 = true := by decide +kernel
set_option maxRecDepth 65536 in
theorem w_heap : heapFits about1 = true := by decide +kernel
set_option maxRecDepth 65536 in
theorem w_runnable : about1.curStatus? = some .runnable := by decide +kernel
set_option maxRecDepth 65536 in
theorem w_alone : about1.alone = true := by decide +kernel
set_option maxRecDepth 65536 in
theorem w_named : about1.methodNamed? x = some theMethod := by decide +kernel
set_option maxRecDepth 65536 in
theorem w_hears : about1.hears theMethod below0 = true := by decide +kernel
set_option maxRecDepth 65536 in
theorem w_ripe : about1.ripe theMethod args0 below0 = true := by decide +kernel
theorem w_running : about1.status = .running := rfl
set_option maxRecDepth 65536 in
theorem w_room : about1.hasRoom e0.platform room_1 = true :=
  launch0.hasRoom_least _ room_1 (by decide +kernel) (by decide +kernel) (by decide +kernel) (by decide +kernel) (by decide +kernel) (by decide +kernel)
theorem allAtoms_all (ts : List Jvm.Cond) (a : Array Jvm.Value) (st : Jvm.State) : (allAtoms ts).before a st = ts.all (fun c => c.before a st) := by
  induction ts with
  | nil => rfl
  | cons c t ih =>
    show (Jvm.Cond.and c (allAtoms t)).before a st = _
    rw [Jvm.Cond.before_and, ih, List.all_cons]
def words1 : List Jvm.Cond := Jvm.Cond.code x code maxLocals ret :: tables_1
/-- a 'code' word, met by the world's own term for the bytes: nothing is compared byte by byte -/
theorem code_word {y : MethodName} {bytes : ByteArray} {mx : Nat} {rt : Option FieldType} {a : Array Value} {s : State} {m : MethodId} {meth : Method} {c : Code} (h1 : s.methodNamed? y = some m) (h2 : s.vm.method? m = some meth) (h3 : meth.code = some c) (h4 : c.code = bytes)
    (h5 : (c.maxLocals == mx && c.exceptionTable.isEmpty && decide (c.maxStack ≤ mostOperands) && decide (meth.sig.returnType = rt) && !meth.locks && decide (parseMethodDescriptor y.desc = some meth.sig)) = true) : (Jvm.Cond.code y bytes mx rt).before a s = true := by
  simp only [Bool.and_eq_true, beq_iff_eq, Bool.not_eq_true', decide_eq_true_eq] at h5
  obtain ⟨⟨⟨⟨⟨g1, g2⟩, g3⟩, g4⟩, g5⟩, g6⟩ := h5
  simp [Cond.before, Cond.holds, Cond.value, h1, h2, h3, h4, g1, g2, g3, g4, g5, g6]
def isCode : Jvm.Cond → Bool
  | .code _ _ _ _ => true
  | _ => false
theorem all_split {L : List Jvm.Cond} {P : Jvm.Cond → Bool} (h1 : L.all (fun c => isCode c || P c) = true) (h2 : ∀ c ∈ L.filter isCode, P c = true) : L.all P = true := by
  refine List.all_eq_true.mpr fun c hc => ?_
  have h := List.all_eq_true.mp h1 c hc
  rcases Bool.eq_false_or_eq_true (isCode c) with hi | hi
  · exact h2 c (List.mem_filter.mpr ⟨hc, hi⟩)
  · simpa [hi] using h
set_option maxRecDepth 65536 in
theorem w_c0 : (Jvm.Cond.code x code maxLocals ret).before args0 about1 = true := code_word (m := ⟨1, 2⟩) (meth := k1m2) (c := k1c2) (by decide +kernel) rfl rfl rfl (by decide +kernel)
set_option maxRecDepth 65536 in
theorem w_c1 : (Jvm.Cond.code ({ cls := "com/example/bushtit/bushtit/session/SequenceNumbers", name := "<init>", desc := "()V" } : Jvm.MethodName) prog_99_method_1_code (1 : Nat) (Option.none : Option Jvm.ClassFile.FieldType)).before args0 about1 = true := code_word (m := ⟨2, 0⟩) (meth := k2m0) (c := k2c0) (by decide +kernel) rfl rfl rfl (by decide +kernel)
set_option maxRecDepth 65536 in
theorem w_c2 : (Jvm.Cond.code ({ cls := "java/lang/Object", name := "<init>", desc := "()V" } : Jvm.MethodName) object_method_1_code (1 : Nat) (Option.none : Option Jvm.ClassFile.FieldType)).before args0 about1 = true := code_word (m := ⟨0, 0⟩) (meth := k0m0) (c := k0c0) (by decide +kernel) rfl rfl rfl (by decide +kernel)
set_option maxRecDepth 65536 in
theorem w_c3 : (Jvm.Cond.code ({ cls := "com/example/bushtit/bushtit/session/SequenceNumbersNextPinLaw", name := "step", desc := "(Lcom/example/bushtit/bushtit/session/SequenceNumbers;Lcom/example/bushtit/bushtit/session/SequenceNumbers;[II)Z" } : Jvm.MethodName) method_2_code (4 : Nat) (Option.some Jvm.ClassFile.FieldType.boolean)).before args0 about1 = true := code_word (m := ⟨1, 1⟩) (meth := k1m1) (c := k1c1) (by decide +kernel) rfl rfl rfl (by decide +kernel)
set_option maxRecDepth 65536 in
theorem w_c4 : (Jvm.Cond.code ({ cls := "com/example/bushtit/bushtit/session/SequenceNumbers", name := "next", desc := "()I" } : Jvm.MethodName) prog_99_method_2_code (1 : Nat) (Option.some Jvm.ClassFile.FieldType.int)).before args0 about1 = true := code_word (m := ⟨2, 1⟩) (meth := k2m1) (c := k2c1) (by decide +kernel) rfl rfl rfl (by decide +kernel)
def codes1 : List Jvm.Cond := [Jvm.Cond.code x code maxLocals ret, Jvm.Cond.code ({ cls := "com/example/bushtit/bushtit/session/SequenceNumbers", name := "<init>", desc := "()V" } : Jvm.MethodName) prog_99_method_1_code (1 : Nat) (Option.none : Option Jvm.ClassFile.FieldType), Jvm.Cond.code ({ cls := "java/lang/Object", name := "<init>", desc := "()V" } : Jvm.MethodName) object_method_1_code (1 : Nat) (Option.none : Option Jvm.ClassFile.FieldType), Jvm.Cond.code ({ cls := "com/example/bushtit/bushtit/session/SequenceNumbersNextPinLaw", name := "step", desc := "(Lcom/example/bushtit/bushtit/session/SequenceNumbers;Lcom/example/bushtit/bushtit/session/SequenceNumbers;[II)Z" } : Jvm.MethodName) method_2_code (4 : Nat) (Option.some Jvm.ClassFile.FieldType.boolean), Jvm.Cond.code ({ cls := "com/example/bushtit/bushtit/session/SequenceNumbers", name := "next", desc := "()I" } : Jvm.MethodName) prog_99_method_2_code (1 : Nat) (Option.some Jvm.ClassFile.FieldType.int)]
set_option maxRecDepth 65536 in
theorem codes_eq : words1.filter isCode = codes1 := rfl
theorem w_codes : ∀ c ∈ words1.filter isCode, c.before args0 about1 = true := by
  rw [codes_eq]
  intro c hc
  simp only [codes1, List.mem_cons, List.not_mem_nil, or_false] at hc
  rcases hc with rfl | rfl | rfl | rfl | rfl
  · exact w_c0
  · exact w_c1
  · exact w_c2
  · exact w_c3
  · exact w_c4
set_option maxRecDepth 65536 in
theorem w_t1 : words1.all (fun c => isCode c || c.before args0 about1) = true := by decide +kernel
theorem w_tables : (allAtoms (Jvm.Cond.code x code maxLocals ret :: tables_1)).before args0 about1 = true := by
  rw [allAtoms_all]
  show words1.all (fun c => c.before args0 about1) = true
  refine all_split ?_ w_codes
  rw [w_t1]
set_option maxRecDepth 65536 in
theorem w_case : (Jvm.Cond.and given_1 narrow_1).before args0 about1 = true := by decide +kernel
theorem w_applies : (headSpec (Jvm.Cond.code x code maxLocals ret :: tables_1) room_1).applies x e0.platform about1 = true :=
  (Spec.applies_iff w_frames).mpr ⟨w_running, w_runnable, w_alone, w_named, w_hears, w_ripe, w_room, w_tables⟩
theorem atStart : AtStart classFile x code maxLocals ret World_1 tables_1 room_1 Calls_1 rest_1 Pre_1 launch0 p0 e0 about1 theMethod args0 below0 :=
  ⟨lists_1, trivial, launch0.admits_env _ _ _, launch0.least_env, fairChoices_fair.cas, fairChoices_fair.clock, w_frames, w_args, w_heap, w_applies, trivial, trivial, w_case⟩
end start1
theorem witness_1 : WitnessClaimed_1 := ⟨start1.p0, start1.e0, start1.about1, start1.theMethod, start1.args0, start1.below0, start1.atStart⟩
end Jvm.Pilot.@@N@@
