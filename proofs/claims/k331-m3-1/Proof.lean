import JvmDerived
import JvmDerived.Pilot.@@N@@Statement
import JvmDerived.Pilot.@@N@@Code
set_option linter.unusedVariables false
set_option linter.unusedSimpArgs false
@@BLOCK:NumsL.lean.txt@@
namespace Jvm.RoadKit
open Sem ClassFile Op Lib Jvm.Stand Jvm.Free Jvm.LawKit
section New
variable {p : Program} {l : Launch} {e : Env} {R : Room} {s : State} {m : MethodId} {args : Array Value} {below : List Frame} {meth : Method} {c : Code} {T : State} {locs : List Loc} {cells slots : Nat}
theorem retI (X : Stand p l e R s m args below meth c T locs cells slots) (hx : p.tables.exec = Jvm.exec) {pc : Nat} {Ls : Array Slot} {z : Int32} {rest : List Value} (hret : meth.sig.returnType = some .int) (hd : decode c.code pc = .ok (.ireturn, 1)) {fs : List Frame}
    (hl : ∀ (f : JFrame) (acts : List Action), f.method = m → f.locked = none → f.entered = [] → (doReturn e (T.setTop f) acts (some (.int z))).1 = T.setFrames fs) : Steps p.tables e below (T.setTop (mkF m pc Ls (.int z :: rest))) (T.setFrames fs) := by
  have hm' : T.vm.method? m = some meth := X.method'
  have hn : narrow .int (.int z) = .int z := rfl
  show Steps p.tables e below (T.setTop { method := m, pc := pc, locals := Ls, stack := _ :: rest, locked := none }) _
  jvm_step X.here [X.here.top, hx, hd, hm', hret, hn]
  first | (intro acts; rw [hl _ acts rfl rfl rfl]) | rw [hl _ _ rfl rfl rfl]
  exact Steps.refl _
end New
end Jvm.RoadKit
namespace Jvm.Pilot.@@N@@
open Jvm Jvm.ClassFile Sem Op Lib Jvm.Free Jvm.Stand Jvm.LawKit Jvm.RoadKit Bundle Jvm.Pilot.@@N@@.Jvm.D
/-- the run from this frame comes to an end that R takes -/
def own_Fin (tb : Tables) (e : Env) (below : List Frame) (R : State → Prop) (T : State) (g : JFrame) : Prop := ∃ t, Steps tb e below (T.setTop g) t ∧ R t
theorem own_st {tb : Tables} {e : Env} {below : List Frame} {R : State → Prop} {T T' : State} {g g' : JFrame} (h : own_Fin tb e below R T' g') (k : ∀ t, Steps tb e below (T'.setTop g') t → Steps tb e below (T.setTop g) t) : own_Fin tb e below R T g := by
  obtain ⟨t, a, b⟩ := h
  exact ⟨t, k t a, b⟩
def own_End (below : List Frame) (s : State) (Q : Option Value → Heap → List Loc → Prop) (cells slots : Nat) (t : State) : Prop := t.status = .running ∧ ∃ o, Ended t below o ∧ ∃ v L, o = .returned v ∧ Q v t.heap L ∧ FrameEnd s o t L cells slots
/-- a body that writes nothing -/
def own_P (h0 : Heap) (n0 : Nat) (w : Option Value) (v : Option Value) (h : Heap) (L : List Loc) : Prop := v = w ∧ Fr n0 L ∧ h = h0
theorem own_cast {tb : Tables} {e : Env} {below : List Frame} {R R' : State → Prop} {T : State} {g : JFrame} (q : R' = R) (h : own_Fin tb e below R' T g) : own_Fin tb e below R T g := q ▸ h
/-- the law: what it returns, and nothing old is written -/
def own_L (n0 : Nat) (w : Value) (v : Option Value) (h : Heap) (L : List Loc) : Prop := v = some w ∧ Fr n0 L
theorem own_lcW (a b : Int64) : lcmpW a b = if a > b then 1 else if a = b then 0 else -1 := rfl
theorem own_lc_lt {a b : Int64} : lcmpW a b < 0 ↔ a < b := by
  rw [own_lcW]
  by_cases h1 : a > b
  · rw [if_pos h1]
    exact ⟨fun h => absurd h (by decide), fun h => absurd (Int64.lt_trans h h1) Int64.lt_irrefl⟩
  · rw [if_neg h1]
    by_cases h2 : a = b
    · rw [if_pos h2]
      exact ⟨fun h => absurd h (by decide), fun h => absurd (h2 ▸ h) Int64.lt_irrefl⟩
    · rw [if_neg h2]
      refine ⟨fun _ => ?_, fun _ => by decide⟩
      rw [Int64.lt_iff_toInt_lt] at *
      have h3 : a.toInt ≠ b.toInt := fun q => h2 (Int64.toInt_inj.mp q)
      have h4 : ¬ b.toInt < a.toInt := fun q => h1 (Int64.lt_iff_toInt_lt.mpr q)
      omega
theorem own_lc_gt {a b : Int64} : 0 < lcmpW a b ↔ b < a := by
  rw [own_lcW]
  by_cases h1 : a > b
  · rw [if_pos h1]; exact ⟨fun _ => h1, fun _ => by decide⟩
  · rw [if_neg h1]
    by_cases h2 : a = b
    · rw [if_pos h2]; exact ⟨fun h => absurd h (by decide), fun h => absurd h h1⟩
    · rw [if_neg h2]; exact ⟨fun h => absurd h (by decide), fun h => absurd h h1⟩
theorem own_lc_eq {a b : Int64} : lcmpW a b = 0 ↔ a = b := by
  rw [own_lcW]
  by_cases h1 : a > b
  · rw [if_pos h1]; exact ⟨fun h => absurd h (by decide), fun h => absurd (h ▸ h1 : a > a) Int64.lt_irrefl⟩
  · rw [if_neg h1]
    by_cases h2 : a = b
    · rw [if_pos h2]; exact ⟨fun _ => h2, fun _ => rfl⟩
    · rw [if_neg h2]; exact ⟨fun h => absurd h (by decide), fun h => absurd h h2⟩
def own_EndW (below : List Frame) (s : State) (Q : Option Value → Heap → List Loc → Prop) (cells slots : Nat) (t : State) : Prop := t.status = .running ∧ ∃ o, Ended t below o ∧ ∃ v L, o = .returned v ∧ Q v t.heap L ∧ ReturnedEndW s o t L cells slots
theorem own_fr {tb : Tables} {e : Env} {below : List Frame} {R : State → Prop} {T : State} {g g' : JFrame} (q : g' = g) (h : own_Fin tb e below R T g') : own_Fin tb e below R T g := q ▸ h
theorem own_irr32 (x : Int32) : ¬ x < x := Int32.lt_irrefl
theorem own_irr64 (x : Int64) : ¬ x < x := Int64.lt_irrefl
def own_ush32 (x y : Int32) : Int32 := (x.toUInt32 >>> (y &&& 31).toUInt32).toInt32
def own_ush64 (x : Int64) (y : Int32) : Int64 := (x.toUInt64 >>> (y &&& 0x3f).toInt64.toUInt64).toInt64
section OwnStep
variable {p : Program} {l : Launch} {e : Env} {R : Room} {s : State} {m : MethodId} {args : Array Value} {below : List Frame} {meth : Method} {c : Code} {T : State} {locs : List Loc} {kc ks : Nat} {Rr : State → Prop} {Ls Ls' : Array Slot} {st : List Value} {pc pc' : Nat} {Z : State} {a0 : Array Value} {h : Heap}
theorem own_iload (X : Stand p l e R s m args below meth c T locs kc ks) (hx : p.tables.exec = Jvm.exec) {j : Nat} {v : Int32} (hd : decode c.code pc = .ok (.iload j, 2)) (hp : pc + 2 = pc') (hl : Ls[j]? = some (.val (.int v))) (h : own_Fin p.tables e below Rr T (mkF m pc' Ls (.int v :: st))) : own_Fin p.tables e below Rr T (mkF m pc Ls st) := by
  subst hp; exact own_st h (fun t k => XS.iload X.here hx rfl hd hl k)
theorem own_iloadN (X : Stand p l e R s m args below meth c T locs kc ks) (hx : p.tables.exec = Jvm.exec) {j : Fin 4} {v : Int32} (hd : decode c.code pc = .ok (.iload_n j, 1)) (hp : pc + 1 = pc') (hl : Ls[j.val]? = some (.val (.int v))) (h : own_Fin p.tables e below Rr T (mkF m pc' Ls (.int v :: st))) : own_Fin p.tables e below Rr T (mkF m pc Ls st) := by
  subst hp; exact own_st h (fun t k => XS.iloadN X.here hx rfl hd hl k)
theorem own_istore (X : Stand p l e R s m args below meth c T locs kc ks) (hx : p.tables.exec = Jvm.exec) {j : Nat} {v : Int32} (hd : decode c.code pc = .ok (.istore j, 2)) (hp : pc + 2 = pc') (hl : storeLocals Ls j (.int v) = some Ls') (h : own_Fin p.tables e below Rr T (mkF m pc' Ls' st)) : own_Fin p.tables e below Rr T (mkF m pc Ls (.int v :: st)) := by
  subst hp; exact own_st h (fun t k => XS.istore X.here hx rfl hd rfl hl k)
theorem own_istoreN (X : Stand p l e R s m args below meth c T locs kc ks) (hx : p.tables.exec = Jvm.exec) {j : Fin 4} {v : Int32} (hd : decode c.code pc = .ok (.istore_n j, 1)) (hp : pc + 1 = pc') (hl : storeLocals Ls j.val (.int v) = some Ls') (h : own_Fin p.tables e below Rr T (mkF m pc' Ls' st)) : own_Fin p.tables e below Rr T (mkF m pc Ls (.int v :: st)) := by
  subst hp; exact own_st h (fun t k => XS.istoreN X.here hx rfl hd rfl hl k)
theorem own_lload (X : Stand p l e R s m args below meth c T locs kc ks) (hx : p.tables.exec = Jvm.exec) {j : Nat} {v : Int64} (hd : decode c.code pc = .ok (.lload j, 2)) (hp : pc + 2 = pc') (hl : Ls[j]? = some (.val (.long v))) (h : own_Fin p.tables e below Rr T (mkF m pc' Ls (.long v :: st))) : own_Fin p.tables e below Rr T (mkF m pc Ls st) := by
  subst hp; exact own_st h (fun t k => XS.lload X.here hx rfl hd hl k)
theorem own_lloadN (X : Stand p l e R s m args below meth c T locs kc ks) (hx : p.tables.exec = Jvm.exec) {j : Fin 4} {v : Int64} (hd : decode c.code pc = .ok (.lload_n j, 1)) (hp : pc + 1 = pc') (hl : Ls[j.val]? = some (.val (.long v))) (h : own_Fin p.tables e below Rr T (mkF m pc' Ls (.long v :: st))) : own_Fin p.tables e below Rr T (mkF m pc Ls st) := by
  subst hp; exact own_st h (fun t k => XS.lloadN X.here hx rfl hd hl k)
theorem own_lstore (X : Stand p l e R s m args below meth c T locs kc ks) (hx : p.tables.exec = Jvm.exec) {j : Nat} {v : Int64} (hd : decode c.code pc = .ok (.lstore j, 2)) (hp : pc + 2 = pc') (hl : storeLocals Ls j (.long v) = some Ls') (h : own_Fin p.tables e below Rr T (mkF m pc' Ls' st)) : own_Fin p.tables e below Rr T (mkF m pc Ls (.long v :: st)) := by
  subst hp; exact own_st h (fun t k => XS.lstore X.here hx rfl hd rfl hl k)
theorem own_lstoreN (X : Stand p l e R s m args below meth c T locs kc ks) (hx : p.tables.exec = Jvm.exec) {j : Fin 4} {v : Int64} (hd : decode c.code pc = .ok (.lstore_n j, 1)) (hp : pc + 1 = pc') (hl : storeLocals Ls j.val (.long v) = some Ls') (h : own_Fin p.tables e below Rr T (mkF m pc' Ls' st)) : own_Fin p.tables e below Rr T (mkF m pc Ls (.long v :: st)) := by
  subst hp; exact own_st h (fun t k => XS.lstoreN X.here hx rfl hd rfl hl k)
theorem own_aload (X : Stand p l e R s m args below meth c T locs kc ks) (hx : p.tables.exec = Jvm.exec) {j : Nat} {v : Value} (hd : decode c.code pc = .ok (.aload j, 2)) (hp : pc + 2 = pc') (hl : Ls[j]? = some (.val v)) (hv : v.isRef = true) (h : own_Fin p.tables e below Rr T (mkF m pc' Ls (v :: st))) : own_Fin p.tables e below Rr T (mkF m pc Ls st) := by
  subst hp; exact own_st h (fun t k => XS.aload X.here hx rfl hd hl hv k)
theorem own_aloadN (X : Stand p l e R s m args below meth c T locs kc ks) (hx : p.tables.exec = Jvm.exec) {j : Fin 4} {v : Value} (hd : decode c.code pc = .ok (.aload_n j, 1)) (hp : pc + 1 = pc') (hl : Ls[j.val]? = some (.val v)) (hv : v.isRef = true) (h : own_Fin p.tables e below Rr T (mkF m pc' Ls (v :: st))) : own_Fin p.tables e below Rr T (mkF m pc Ls st) := by
  subst hp; exact own_st h (fun t k => XS.aloadN X.here hx rfl hd hl hv k)
theorem own_astore (X : Stand p l e R s m args below meth c T locs kc ks) (hx : p.tables.exec = Jvm.exec) {j : Nat} {v : Value} (hd : decode c.code pc = .ok (.astore j, 2)) (hp : pc + 2 = pc') (hv : v.isRef = true) (hl : storeLocals Ls j v = some Ls') (h : own_Fin p.tables e below Rr T (mkF m pc' Ls' st)) : own_Fin p.tables e below Rr T (mkF m pc Ls (v :: st)) := by
  subst hp; exact own_st h (fun t k => XS.astore X.here hx rfl hd rfl hv hl k)
theorem own_astoreN (X : Stand p l e R s m args below meth c T locs kc ks) (hx : p.tables.exec = Jvm.exec) {j : Fin 4} {v : Value} (hd : decode c.code pc = .ok (.astore_n j, 1)) (hp : pc + 1 = pc') (hv : v.isRef = true) (hl : storeLocals Ls j.val v = some Ls') (h : own_Fin p.tables e below Rr T (mkF m pc' Ls' st)) : own_Fin p.tables e below Rr T (mkF m pc Ls (v :: st)) := by
  subst hp; exact own_st h (fun t k => XS.astoreN X.here hx rfl hd rfl hv hl k)
theorem own_iconst (X : Stand p l e R s m args below meth c T locs kc ks) (hx : p.tables.exec = Jvm.exec) {i : Int} {v : Int32} (hd : decode c.code pc = .ok (.iconst i, 1)) (hp : pc + 1 = pc') (hv : Int32.ofInt i = v) (h : own_Fin p.tables e below Rr T (mkF m pc' Ls (.int v :: st))) : own_Fin p.tables e below Rr T (mkF m pc Ls st) := by
  subst hp; exact own_st h (fun t k => XS.iconst X.here hx rfl hd (hv ▸ k))
theorem own_bipush (X : Stand p l e R s m args below meth c T locs kc ks) (hx : p.tables.exec = Jvm.exec) {i : Int} {v : Int32} (hd : decode c.code pc = .ok (.bipush i, 2)) (hp : pc + 2 = pc') (hv : (Int8.ofInt i).toInt32 = v) (h : own_Fin p.tables e below Rr T (mkF m pc' Ls (.int v :: st))) : own_Fin p.tables e below Rr T (mkF m pc Ls st) := by
  subst hp; exact own_st h (fun t k => XS.bipush X.here hx rfl hd (hv ▸ k))
theorem own_sipush (X : Stand p l e R s m args below meth c T locs kc ks) (hx : p.tables.exec = Jvm.exec) {i : Int} {v : Int32} (hd : decode c.code pc = .ok (.sipush i, 3)) (hp : pc + 3 = pc') (hv : (Int16.ofInt i).toInt32 = v) (h : own_Fin p.tables e below Rr T (mkF m pc' Ls (.int v :: st))) : own_Fin p.tables e below Rr T (mkF m pc Ls st) := by
  subst hp; exact own_st h (fun t k => XS.sipush X.here hx rfl hd (hv ▸ k))
theorem own_lconst (X : Stand p l e R s m args below meth c T locs kc ks) (hx : p.tables.exec = Jvm.exec) {i : Fin 2} {v : Int64} (hd : decode c.code pc = .ok (.lconst i, 1)) (hp : pc + 1 = pc') (hv : Int64.ofNat i = v) (h : own_Fin p.tables e below Rr T (mkF m pc' Ls (.long v :: st))) : own_Fin p.tables e below Rr T (mkF m pc Ls st) := by
  subst hp; exact own_st h (fun t k => XS.lconst X.here hx rfl hd (hv ▸ k))
theorem own_aconstNull (X : Stand p l e R s m args below meth c T locs kc ks) (hx : p.tables.exec = Jvm.exec)  (hd : decode c.code pc = .ok (.aconst_null, 1)) (hp : pc + 1 = pc')  (h : own_Fin p.tables e below Rr T (mkF m pc' Ls (.null :: st))) : own_Fin p.tables e below Rr T (mkF m pc Ls st) := by
  subst hp; exact own_st h (fun t k => XS.aconstNull X.here hx rfl hd k)
theorem own_iadd (X : Stand p l e R s m args below meth c T locs kc ks) (hx : p.tables.exec = Jvm.exec) {x y : Int32} (hd : decode c.code pc = .ok (.iadd, 1)) (hp : pc + 1 = pc')  (h : own_Fin p.tables e below Rr T (mkF m pc' Ls (.int (x + y) :: st))) : own_Fin p.tables e below Rr T (mkF m pc Ls (.int y :: .int x :: st)) := by
  subst hp; exact own_st h (fun t k => XS.iadd X.here hx rfl hd rfl k)
theorem own_ladd (X : Stand p l e R s m args below meth c T locs kc ks) (hx : p.tables.exec = Jvm.exec) {x y : Int64} (hd : decode c.code pc = .ok (.ladd, 1)) (hp : pc + 1 = pc')  (h : own_Fin p.tables e below Rr T (mkF m pc' Ls (.long (x + y) :: st))) : own_Fin p.tables e below Rr T (mkF m pc Ls (.long y :: .long x :: st)) := by
  subst hp; exact own_st h (fun t k => XS.ladd X.here hx rfl hd rfl k)
theorem own_isub (X : Stand p l e R s m args below meth c T locs kc ks) (hx : p.tables.exec = Jvm.exec) {x y : Int32} (hd : decode c.code pc = .ok (.isub, 1)) (hp : pc + 1 = pc')  (h : own_Fin p.tables e below Rr T (mkF m pc' Ls (.int (x - y) :: st))) : own_Fin p.tables e below Rr T (mkF m pc Ls (.int y :: .int x :: st)) := by
  subst hp; exact own_st h (fun t k => XS.isub X.here hx rfl hd rfl k)
theorem own_lsub (X : Stand p l e R s m args below meth c T locs kc ks) (hx : p.tables.exec = Jvm.exec) {x y : Int64} (hd : decode c.code pc = .ok (.lsub, 1)) (hp : pc + 1 = pc')  (h : own_Fin p.tables e below Rr T (mkF m pc' Ls (.long (x - y) :: st))) : own_Fin p.tables e below Rr T (mkF m pc Ls (.long y :: .long x :: st)) := by
  subst hp; exact own_st h (fun t k => XS.lsub X.here hx rfl hd rfl k)
theorem own_imul (X : Stand p l e R s m args below meth c T locs kc ks) (hx : p.tables.exec = Jvm.exec) {x y : Int32} (hd : decode c.code pc = .ok (.imul, 1)) (hp : pc + 1 = pc')  (h : own_Fin p.tables e below Rr T (mkF m pc' Ls (.int (x * y) :: st))) : own_Fin p.tables e below Rr T (mkF m pc Ls (.int y :: .int x :: st)) := by
  subst hp; exact own_st h (fun t k => XS.imul X.here hx rfl hd rfl k)
theorem own_lmul (X : Stand p l e R s m args below meth c T locs kc ks) (hx : p.tables.exec = Jvm.exec) {x y : Int64} (hd : decode c.code pc = .ok (.lmul, 1)) (hp : pc + 1 = pc')  (h : own_Fin p.tables e below Rr T (mkF m pc' Ls (.long (x * y) :: st))) : own_Fin p.tables e below Rr T (mkF m pc Ls (.long y :: .long x :: st)) := by
  subst hp; exact own_st h (fun t k => XS.lmul X.here hx rfl hd rfl k)
theorem own_iand (X : Stand p l e R s m args below meth c T locs kc ks) (hx : p.tables.exec = Jvm.exec) {x y : Int32} (hd : decode c.code pc = .ok (.iand, 1)) (hp : pc + 1 = pc')  (h : own_Fin p.tables e below Rr T (mkF m pc' Ls (.int (x &&& y) :: st))) : own_Fin p.tables e below Rr T (mkF m pc Ls (.int y :: .int x :: st)) := by
  subst hp; exact own_st h (fun t k => XS.iand X.here hx rfl hd rfl k)
theorem own_land (X : Stand p l e R s m args below meth c T locs kc ks) (hx : p.tables.exec = Jvm.exec) {x y : Int64} (hd : decode c.code pc = .ok (.land, 1)) (hp : pc + 1 = pc')  (h : own_Fin p.tables e below Rr T (mkF m pc' Ls (.long (x &&& y) :: st))) : own_Fin p.tables e below Rr T (mkF m pc Ls (.long y :: .long x :: st)) := by
  subst hp; exact own_st h (fun t k => XS.land X.here hx rfl hd rfl k)
theorem own_ior (X : Stand p l e R s m args below meth c T locs kc ks) (hx : p.tables.exec = Jvm.exec) {x y : Int32} (hd : decode c.code pc = .ok (.ior, 1)) (hp : pc + 1 = pc')  (h : own_Fin p.tables e below Rr T (mkF m pc' Ls (.int (x ||| y) :: st))) : own_Fin p.tables e below Rr T (mkF m pc Ls (.int y :: .int x :: st)) := by
  subst hp; exact own_st h (fun t k => XS.ior X.here hx rfl hd rfl k)
theorem own_lor (X : Stand p l e R s m args below meth c T locs kc ks) (hx : p.tables.exec = Jvm.exec) {x y : Int64} (hd : decode c.code pc = .ok (.lor, 1)) (hp : pc + 1 = pc')  (h : own_Fin p.tables e below Rr T (mkF m pc' Ls (.long (x ||| y) :: st))) : own_Fin p.tables e below Rr T (mkF m pc Ls (.long y :: .long x :: st)) := by
  subst hp; exact own_st h (fun t k => XS.lor X.here hx rfl hd rfl k)
theorem own_ixor (X : Stand p l e R s m args below meth c T locs kc ks) (hx : p.tables.exec = Jvm.exec) {x y : Int32} (hd : decode c.code pc = .ok (.ixor, 1)) (hp : pc + 1 = pc')  (h : own_Fin p.tables e below Rr T (mkF m pc' Ls (.int (x ^^^ y) :: st))) : own_Fin p.tables e below Rr T (mkF m pc Ls (.int y :: .int x :: st)) := by
  subst hp; exact own_st h (fun t k => XS.ixor X.here hx rfl hd rfl k)
theorem own_lxor (X : Stand p l e R s m args below meth c T locs kc ks) (hx : p.tables.exec = Jvm.exec) {x y : Int64} (hd : decode c.code pc = .ok (.lxor, 1)) (hp : pc + 1 = pc')  (h : own_Fin p.tables e below Rr T (mkF m pc' Ls (.long (x ^^^ y) :: st))) : own_Fin p.tables e below Rr T (mkF m pc Ls (.long y :: .long x :: st)) := by
  subst hp; exact own_st h (fun t k => XS.lxor X.here hx rfl hd rfl k)
theorem own_idiv (X : Stand p l e R s m args below meth c T locs kc ks) (hx : p.tables.exec = Jvm.exec) {x y : Int32} (hd : decode c.code pc = .ok (.idiv, 1)) (hp : pc + 1 = pc') (hy : y ≠ 0) (h : own_Fin p.tables e below Rr T (mkF m pc' Ls (.int (x / y) :: st))) : own_Fin p.tables e below Rr T (mkF m pc Ls (.int y :: .int x :: st)) := by
  subst hp; exact own_st h (fun t k => XS.idiv X.here hx rfl hd rfl hy k)
theorem own_ldiv (X : Stand p l e R s m args below meth c T locs kc ks) (hx : p.tables.exec = Jvm.exec) {x y : Int64} (hd : decode c.code pc = .ok (.ldiv, 1)) (hp : pc + 1 = pc') (hy : y ≠ 0) (h : own_Fin p.tables e below Rr T (mkF m pc' Ls (.long (x / y) :: st))) : own_Fin p.tables e below Rr T (mkF m pc Ls (.long y :: .long x :: st)) := by
  subst hp; exact own_st h (fun t k => XS.ldiv X.here hx rfl hd rfl hy k)
theorem own_irem (X : Stand p l e R s m args below meth c T locs kc ks) (hx : p.tables.exec = Jvm.exec) {x y : Int32} (hd : decode c.code pc = .ok (.irem, 1)) (hp : pc + 1 = pc') (hy : y ≠ 0) (h : own_Fin p.tables e below Rr T (mkF m pc' Ls (.int (x - (x / y) * y) :: st))) : own_Fin p.tables e below Rr T (mkF m pc Ls (.int y :: .int x :: st)) := by
  subst hp; exact own_st h (fun t k => XS.irem X.here hx rfl hd rfl hy k)
theorem own_lrem (X : Stand p l e R s m args below meth c T locs kc ks) (hx : p.tables.exec = Jvm.exec) {x y : Int64} (hd : decode c.code pc = .ok (.lrem, 1)) (hp : pc + 1 = pc') (hy : y ≠ 0) (h : own_Fin p.tables e below Rr T (mkF m pc' Ls (.long (x - (x / y) * y) :: st))) : own_Fin p.tables e below Rr T (mkF m pc Ls (.long y :: .long x :: st)) := by
  subst hp; exact own_st h (fun t k => XS.lrem X.here hx rfl hd rfl hy k)
theorem own_ishl (X : Stand p l e R s m args below meth c T locs kc ks) (hx : p.tables.exec = Jvm.exec) {x y : Int32} (hd : decode c.code pc = .ok (.ishl, 1)) (hp : pc + 1 = pc')  (h : own_Fin p.tables e below Rr T (mkF m pc' Ls (.int (x <<< (y &&& 31)) :: st))) : own_Fin p.tables e below Rr T (mkF m pc Ls (.int y :: .int x :: st)) := by
  subst hp; exact own_st h (fun t k => XS.ishl X.here hx rfl hd rfl k)
theorem own_ishr (X : Stand p l e R s m args below meth c T locs kc ks) (hx : p.tables.exec = Jvm.exec) {x y : Int32} (hd : decode c.code pc = .ok (.ishr, 1)) (hp : pc + 1 = pc')  (h : own_Fin p.tables e below Rr T (mkF m pc' Ls (.int (x >>> (y &&& 31)) :: st))) : own_Fin p.tables e below Rr T (mkF m pc Ls (.int y :: .int x :: st)) := by
  subst hp; exact own_st h (fun t k => XS.ishr X.here hx rfl hd rfl k)
theorem own_iushr (X : Stand p l e R s m args below meth c T locs kc ks) (hx : p.tables.exec = Jvm.exec) {x y : Int32} (hd : decode c.code pc = .ok (.iushr, 1)) (hp : pc + 1 = pc')  (h : own_Fin p.tables e below Rr T (mkF m pc' Ls (.int (own_ush32 x y) :: st))) : own_Fin p.tables e below Rr T (mkF m pc Ls (.int y :: .int x :: st)) := by
  subst hp; exact own_st h (fun t k => XS.iushr X.here hx rfl hd rfl k)
theorem own_lshl (X : Stand p l e R s m args below meth c T locs kc ks) (hx : p.tables.exec = Jvm.exec) {x : Int64} {y : Int32} (hd : decode c.code pc = .ok (.lshl, 1)) (hp : pc + 1 = pc')  (h : own_Fin p.tables e below Rr T (mkF m pc' Ls (.long (x <<< (y &&& 63).toInt64) :: st))) : own_Fin p.tables e below Rr T (mkF m pc Ls (.int y :: .long x :: st)) := by
  subst hp; exact own_st h (fun t k => XS.lshl X.here hx rfl hd rfl k)
theorem own_lshr (X : Stand p l e R s m args below meth c T locs kc ks) (hx : p.tables.exec = Jvm.exec) {x : Int64} {y : Int32} (hd : decode c.code pc = .ok (.lshr, 1)) (hp : pc + 1 = pc')  (h : own_Fin p.tables e below Rr T (mkF m pc' Ls (.long (x >>> (y &&& 63).toInt64) :: st))) : own_Fin p.tables e below Rr T (mkF m pc Ls (.int y :: .long x :: st)) := by
  subst hp; exact own_st h (fun t k => XS.lshr X.here hx rfl hd rfl k)
theorem own_lushr (X : Stand p l e R s m args below meth c T locs kc ks) (hx : p.tables.exec = Jvm.exec) {x : Int64} {y : Int32} (hd : decode c.code pc = .ok (.lushr, 1)) (hp : pc + 1 = pc')  (h : own_Fin p.tables e below Rr T (mkF m pc' Ls (.long (own_ush64 x y) :: st))) : own_Fin p.tables e below Rr T (mkF m pc Ls (.int y :: .long x :: st)) := by
  subst hp; exact own_st h (fun t k => XS.lushr X.here hx rfl hd rfl k)
theorem own_ineg (X : Stand p l e R s m args below meth c T locs kc ks) (hx : p.tables.exec = Jvm.exec) {x : Int32} (hd : decode c.code pc = .ok (.ineg, 1)) (hp : pc + 1 = pc')  (h : own_Fin p.tables e below Rr T (mkF m pc' Ls (.int (-x) :: st))) : own_Fin p.tables e below Rr T (mkF m pc Ls (.int x :: st)) := by
  subst hp; exact own_st h (fun t k => XS.ineg X.here hx rfl hd rfl k)
theorem own_lneg (X : Stand p l e R s m args below meth c T locs kc ks) (hx : p.tables.exec = Jvm.exec) {x : Int64} (hd : decode c.code pc = .ok (.lneg, 1)) (hp : pc + 1 = pc')  (h : own_Fin p.tables e below Rr T (mkF m pc' Ls (.long (-x) :: st))) : own_Fin p.tables e below Rr T (mkF m pc Ls (.long x :: st)) := by
  subst hp; exact own_st h (fun t k => XS.lneg X.here hx rfl hd rfl k)
theorem own_i2l (X : Stand p l e R s m args below meth c T locs kc ks) (hx : p.tables.exec = Jvm.exec) {x : Int32} (hd : decode c.code pc = .ok (.i2l, 1)) (hp : pc + 1 = pc')  (h : own_Fin p.tables e below Rr T (mkF m pc' Ls (.long (x.toInt64) :: st))) : own_Fin p.tables e below Rr T (mkF m pc Ls (.int x :: st)) := by
  subst hp; exact own_st h (fun t k => XS.i2l X.here hx rfl hd rfl k)
theorem own_l2i (X : Stand p l e R s m args below meth c T locs kc ks) (hx : p.tables.exec = Jvm.exec) {x : Int64} (hd : decode c.code pc = .ok (.l2i, 1)) (hp : pc + 1 = pc')  (h : own_Fin p.tables e below Rr T (mkF m pc' Ls (.int (x.toInt32) :: st))) : own_Fin p.tables e below Rr T (mkF m pc Ls (.long x :: st)) := by
  subst hp; exact own_st h (fun t k => XS.l2i X.here hx rfl hd rfl k)
theorem own_i2b (X : Stand p l e R s m args below meth c T locs kc ks) (hx : p.tables.exec = Jvm.exec) {x : Int32} (hd : decode c.code pc = .ok (.i2b, 1)) (hp : pc + 1 = pc')  (h : own_Fin p.tables e below Rr T (mkF m pc' Ls (.int (x.toInt8.toInt32) :: st))) : own_Fin p.tables e below Rr T (mkF m pc Ls (.int x :: st)) := by
  subst hp; exact own_st h (fun t k => XS.i2b X.here hx rfl hd rfl k)
theorem own_i2s (X : Stand p l e R s m args below meth c T locs kc ks) (hx : p.tables.exec = Jvm.exec) {x : Int32} (hd : decode c.code pc = .ok (.i2s, 1)) (hp : pc + 1 = pc')  (h : own_Fin p.tables e below Rr T (mkF m pc' Ls (.int (x.toInt16.toInt32) :: st))) : own_Fin p.tables e below Rr T (mkF m pc Ls (.int x :: st)) := by
  subst hp; exact own_st h (fun t k => XS.i2s X.here hx rfl hd rfl k)
theorem own_lcmp (X : Stand p l e R s m args below meth c T locs kc ks) (hx : p.tables.exec = Jvm.exec) {x y : Int64} (hd : decode c.code pc = .ok (.lcmp, 1)) (hp : pc + 1 = pc')  (h : own_Fin p.tables e below Rr T (mkF m pc' Ls (.int (lcmpW x y) :: st))) : own_Fin p.tables e below Rr T (mkF m pc Ls (.long y :: .long x :: st)) := by
  subst hp; exact own_st h (fun t k => XS.lcmp X.here hx rfl hd rfl k)
theorem own_iinc (X : Stand p l e R s m args below meth c T locs kc ks) (hx : p.tables.exec = Jvm.exec) {j : Nat} {i : Int} {x : Int32} (hd : decode c.code pc = .ok (.iinc j i, 3)) (hp : pc + 3 = pc') (hl : Ls[j]? = some (.val (.int x))) (hl' : storeLocals Ls j (.int (x + Int32.ofInt i)) = some Ls') (h : own_Fin p.tables e below Rr T (mkF m pc' Ls' st)) : own_Fin p.tables e below Rr T (mkF m pc Ls st) := by
  subst hp; exact own_st h (fun t k => XS.iinc X.here hx rfl hd hl hl' k)
theorem own_dup (X : Stand p l e R s m args below meth c T locs kc ks) (hx : p.tables.exec = Jvm.exec) {v : Value} (hd : decode c.code pc = .ok (.dup, 1)) (hp : pc + 1 = pc') (hc : v.category = 1) (h : own_Fin p.tables e below Rr T (mkF m pc' Ls (v :: v :: st))) : own_Fin p.tables e below Rr T (mkF m pc Ls (v :: st)) := by
  subst hp; exact own_st h (fun t k => XS.dup X.here hx rfl hd rfl hc k)
theorem own_pop (X : Stand p l e R s m args below meth c T locs kc ks) (hx : p.tables.exec = Jvm.exec) {v : Value} (hd : decode c.code pc = .ok (.pop, 1)) (hp : pc + 1 = pc') (hc : v.category = 1) (h : own_Fin p.tables e below Rr T (mkF m pc' Ls st)) : own_Fin p.tables e below Rr T (mkF m pc Ls (v :: st)) := by
  subst hp; exact own_st h (fun t k => XS.pop X.here hx rfl hd rfl hc k)
theorem own_goto (X : Stand p l e R s m args below meth c T locs kc ks) (hx : p.tables.exec = Jvm.exec) {o : Int} (hd : decode c.code pc = .ok (.goto o, 3))  (ho : 0 ≤ (pc : Int) + o) (hp : ((pc : Int) + o).toNat = pc') (h : own_Fin p.tables e below Rr T (mkF m pc' Ls st)) : own_Fin p.tables e below Rr T (mkF m pc Ls st) := own_st h (fun t k => XS.goto X.here hx rfl (pc0 := pc) (pc' := pc') rfl hd ho hp k)
theorem own_ifYes (X : Stand p l e R s m args below meth c T locs kc ks) (hx : p.tables.exec = Jvm.exec) {cd : ClassFile.Cond} {o : Int} {x : Int32} (hd : decode c.code pc = .ok (.ifCond cd o, 3)) (hc : ifCond.holds cd x = true) (ho : 0 ≤ (pc : Int) + o) (hp : ((pc : Int) + o).toNat = pc') (h : own_Fin p.tables e below Rr T (mkF m pc' Ls st)) : own_Fin p.tables e below Rr T (mkF m pc Ls (.int x :: st)) := own_st h (fun t k => XS.ifYes X.here hx rfl (pc0 := pc) (pc' := pc') rfl hd rfl hc ho hp k)
theorem own_icmpYes (X : Stand p l e R s m args below meth c T locs kc ks) (hx : p.tables.exec = Jvm.exec) {cd : ClassFile.Cond} {o : Int} {x y : Int32} (hd : decode c.code pc = .ok (.if_icmp cd o, 3)) (hc : if_icmp.holds cd x y = true) (ho : 0 ≤ (pc : Int) + o) (hp : ((pc : Int) + o).toNat = pc') (h : own_Fin p.tables e below Rr T (mkF m pc' Ls st)) : own_Fin p.tables e below Rr T (mkF m pc Ls (.int y :: .int x :: st)) := own_st h (fun t k => XS.icmpYes X.here hx rfl (pc0 := pc) (pc' := pc') rfl hd rfl hc ho hp k)
theorem own_ifNo (X : Stand p l e R s m args below meth c T locs kc ks) (hx : p.tables.exec = Jvm.exec) {cd : ClassFile.Cond} {o : Int} {x : Int32} (hd : decode c.code pc = .ok (.ifCond cd o, 3)) (hp : pc + 3 = pc') (hc : ifCond.holds cd x = false) (h : own_Fin p.tables e below Rr T (mkF m pc' Ls st)) : own_Fin p.tables e below Rr T (mkF m pc Ls (.int x :: st)) := by
  subst hp; exact own_st h (fun t k => XS.ifNo X.here hx rfl hd rfl hc k)
theorem own_icmpNo (X : Stand p l e R s m args below meth c T locs kc ks) (hx : p.tables.exec = Jvm.exec) {cd : ClassFile.Cond} {o : Int} {x y : Int32} (hd : decode c.code pc = .ok (.if_icmp cd o, 3)) (hp : pc + 3 = pc') (hc : if_icmp.holds cd x y = false) (h : own_Fin p.tables e below Rr T (mkF m pc' Ls st)) : own_Fin p.tables e below Rr T (mkF m pc Ls (.int y :: .int x :: st)) := by
  subst hp; exact own_st h (fun t k => XS.icmpNo X.here hx rfl hd rfl hc k)
theorem own_ldcInt (X : Stand p l e R s m args below meth c T locs kc ks) (hx : p.tables.exec = Jvm.exec) {own : String} {index : Nat} {v : Int32} (hZ : Z.Warmed39 s.vm) (hown : s.vm.findClass own = some m.cls) (w : (Jvm.Cond.constant own index v).before a0 Z = true) (hd : decode c.code pc = .ok (.ldc index, 2)) (hp : pc + 2 = pc') (h : own_Fin p.tables e below Rr T (mkF m pc' Ls (.int v :: st))) : own_Fin p.tables e below Rr T (mkF m pc Ls st) := by
  subst hp; exact own_st h (fun t k => X.ldcInt hx hown (mvT hZ w) (g := mkF m pc Ls st) rfl hd t k)
theorem own_ldc2Long (X : Stand p l e R s m args below meth c T locs kc ks) (hx : p.tables.exec = Jvm.exec) {own : String} {index : Nat} {v : Int64} (hZ : Z.Warmed39 s.vm) (hown : s.vm.findClass own = some m.cls) (w : (Jvm.Cond.constantLong own index v).before a0 Z = true) (hd : decode c.code pc = .ok (.ldc2_w index, 3)) (hp : pc + 3 = pc') (h : own_Fin p.tables e below Rr T (mkF m pc' Ls (.long v :: st))) : own_Fin p.tables e below Rr T (mkF m pc Ls st) := by
  subst hp; exact own_st h (fun t k => X.ldc2Long hx hown (mvT hZ w) (g := mkF m pc Ls st) rfl hd t k)
theorem own_getF (X : Stand p l e R s m args below meth c T locs kc ks) (hx : p.tables.exec = Jvm.exec) {own R0 O n d : String} {index : Nat} {a : Addr} {v : Value} (hZ : Z.Warmed39 s.vm) (hown : s.vm.findClass own = some m.cls) (w : (Jvm.Cond.fieldLink own index R0 n d).before a0 Z = true) (via : Via Z R0 O n d) (eT : T.heap = h) (Fl : Fld Z h a O n d v) (hd : decode c.code pc = .ok (.getfield index, 3)) (hp : pc + 3 = pc')
    (k : ∀ T', Stand p l e R s m args below meth c T' locs kc ks → T'.heap = h → own_Fin p.tables e below Rr T' (mkF m pc' Ls (v :: st))) : own_Fin p.tables e below Rr T (mkF m pc Ls (.ref a :: st)) := by
  obtain ⟨T', X', e', st'⟩ := getF X hx hZ hown (host := "") (Or.inl w) via eT Fl (g := mkF m pc Ls (.ref a :: st)) rfl rfl hd
  subst hp; exact own_st (k T' X' e') st'
end OwnStep
section OwnPop
variable {p : Program} {l : Launch} {e : Env} {R : Room} {s : State} {m : MethodId} {args : Array Value} {below : List Frame} {meth : Method} {c : Code} {T : State} {locs : List Loc} {k n : Nat}
theorem own_pop2 (X : Stand p l e R s m args below meth c T locs k n) (hx : p.tables.exec = Jvm.exec) {pc : Nat} {Ls : Array Slot} {z : Int64} {rest : List Value} {t : State} (hd : decode c.code pc = .ok (.pop2, 1)) (hr : Steps p.tables e below (T.setTop (mkF m (pc + 1) Ls rest)) t) : Steps p.tables e below (T.setTop (mkF m pc Ls (.long z :: rest))) t := by
  jvm_step X.here [X.here.top, hx, hd, Value.category]
  exact hr
end OwnPop
section OwnRet
variable {p : Program} {l : Launch} {e : Env} {R : Room} {s : State} {m : MethodId} {args : Array Value} {below : List Frame} {meth : Method} {c : Code} {T : State} {locs : List Loc} {k n k' n' : Nat} {Q : Option Value → Heap → List Loc → Prop} {pc : Nat} {Ls : Array Slot}
theorem own_retN (X : Stand p l e R s m args below meth c T locs k n) (hx : p.tables.exec = Jvm.exec) {t : FieldType} (hret : meth.sig.returnType = some t) (ht : t = .boolean ∨ t = .byte ∨ t = .char ∨ t = .short) (hlk : meth.locks = false) {z : Int32} {rest : List Value} (hd : decode c.code pc = .ok (.ireturn, 1)) (hk : k ≤ k') (hn : n ≤ n') (hq : Q (some (.int (nar t z))) T.heap locs) : own_Fin p.tables e below (own_End below s Q k' n') T (mkF m pc Ls (.int z :: rest)) := by
  obtain ⟨fs, hr, hrun, hended, hW, hsame⟩ := X.leave (v := some (.int (nar t z))) (fun h => by rw [hret] at h; cases h) hlk
  exact ⟨_, retN X hx hret ht hd hr, hrun, _, hended, _, _, rfl, hq, ⟨_, rfl⟩, hW, hsame.mono hk hn⟩
theorem own_retNW {vm₁ : Vm} {k0 : Nat} (X : Stand p l e R (s.setVm vm₁) m args below meth c T locs k n) (hx : p.tables.exec = Jvm.exec) (hS : s.Since vm₁ k0) (hk0 : k0 ≤ T.heap.size) {t : FieldType} (hret : meth.sig.returnType = some t) (ht : t = .boolean ∨ t = .byte ∨ t = .char ∨ t = .short) (hlk : meth.locks = false) {z : Int32} {rest : List Value} (hd : decode c.code pc = .ok (.ireturn, 1)) (hk : k ≤ k') (hn : n ≤ n') (hq : Q (some (.int (nar t z))) T.heap locs) : own_Fin p.tables e below (own_EndW below s Q k' n') T (mkF m pc Ls (.int z :: rest)) := by
  obtain ⟨fs, hr, hrun, hended, hW⟩ := X.leaveW hS hk0 (v := some (.int (nar t z))) (fun h => by rw [hret] at h; cases h) hlk
  exact ⟨_, retN X hx hret ht hd hr, hrun, _, hended, _, _, rfl, hq, hW.1, hW.2.1, hW.2.2.1, hW.2.2.2.mono hk hn⟩
theorem own_retI (X : Stand p l e R s m args below meth c T locs k n) (hx : p.tables.exec = Jvm.exec) (hret : meth.sig.returnType = some .int) (hlk : meth.locks = false) {z : Int32} {rest : List Value} (hd : decode c.code pc = .ok (.ireturn, 1)) (hk : k ≤ k') (hn : n ≤ n') (hq : Q (some (.int z)) T.heap locs) : own_Fin p.tables e below (own_End below s Q k' n') T (mkF m pc Ls (.int z :: rest)) := by
  obtain ⟨fs, hr, hrun, hended, hW, hsame⟩ := X.leave (v := some (.int z)) (fun h => by rw [hret] at h; cases h) hlk
  exact ⟨_, retI X hx hret hd hr, hrun, _, hended, _, _, rfl, hq, ⟨_, rfl⟩, hW, hsame.mono hk hn⟩
theorem own_retJ (X : Stand p l e R s m args below meth c T locs k n) (hx : p.tables.exec = Jvm.exec) (hret : meth.sig.returnType = some .long) (hlk : meth.locks = false) {z : Int64} (hd : decode c.code pc = .ok (.lreturn, 1)) (hk : k ≤ k') (hn : n ≤ n') (hq : Q (some (.long z)) T.heap locs) : own_Fin p.tables e below (own_End below s Q k' n') T (mkF m pc Ls [.long z]) := by
  obtain ⟨fs, hr, hrun, hended, hW, hsame⟩ := X.leave (v := some (.long z)) (fun h => by rw [hret] at h; cases h) hlk
  exact ⟨_, lreturnOut X hx hret hd hr, hrun, _, hended, _, _, rfl, hq, ⟨_, rfl⟩, hW, hsame.mono hk hn⟩
theorem own_retV (X : Stand p l e R s m args below meth c T locs k n) (hx : p.tables.exec = Jvm.exec) (hret : meth.sig.returnType = none) (hlk : meth.locks = false) (hd : decode c.code pc = .ok (.return_, 1)) (hk : k ≤ k') (hn : n ≤ n') (hq : Q none T.heap locs) : own_Fin p.tables e below (own_End below s Q k' n') T (mkF m pc Ls []) := by
  obtain ⟨fs, hr, hrun, hended, hW, hsame⟩ := X.leave (v := none) (fun _ => rfl) hlk
  exact ⟨_, X.returnOut hx hret hd hr, hrun, _, hended, _, _, rfl, hq, ⟨_, rfl⟩, hW, hsame.mono hk hn⟩
end OwnRet
end Jvm.Pilot.@@N@@
namespace Jvm.Pilot.@@N@@
open Jvm Jvm.ClassFile Sem Op Lib Jvm.Free Jvm.Stand Jvm.LawKit Jvm.RoadKit Bundle Jvm.Pilot.@@N@@.Jvm.D
theorem pd_0 : parseMethodDescriptor "(JJ)J" = some ⟨[.long, .long], some .long⟩ := by decide +kernel
theorem pd_1 : parseMethodDescriptor "(JI)V" = some ⟨[.long, .int], none⟩ := by decide +kernel
theorem pd_2 : parseMethodDescriptor "()Z" = some ⟨[], some .boolean⟩ := by decide +kernel
theorem pd_3 : parseMethodDescriptor "(JJ)V" = some ⟨[.long, .long], none⟩ := by decide +kernel
theorem d1_0 : decode jdk_29_method_70_code 0 = .ok (.lload_n 0, 1) := by decide +kernel
theorem d1_1 : decode jdk_29_method_70_code 1 = .ok (.lload_n 2, 1) := by decide +kernel
theorem d1_2 : decode jdk_29_method_70_code 2 = .ok (.lcmp, 1) := by decide +kernel
theorem d1_3 : decode jdk_29_method_70_code 3 = .ok (.ifCond .gt 7, 3) := by decide +kernel
theorem d1_6 : decode jdk_29_method_70_code 6 = .ok (.lload_n 0, 1) := by decide +kernel
theorem d1_7 : decode jdk_29_method_70_code 7 = .ok (.goto 4, 3) := by decide +kernel
theorem d1_10 : decode jdk_29_method_70_code 10 = .ok (.lload_n 2, 1) := by decide +kernel
theorem d1_11 : decode jdk_29_method_70_code 11 = .ok (.lreturn, 1) := by decide +kernel
def own_f1 (q1 : Int64) (q2 : Int64) : Int64 :=
  if q2 < q1 then q2 else
  q1
set_option maxRecDepth 65536 in
set_option maxHeartbeats 40000000 in
theorem sg1_0 {p : Program} (l : Launch) {e : Env} {s : State} {m : MethodId} {args : Array Value} {below : List Frame} {meth : Method} {c : Code} {Z : State} {a0 : Array Value} (hw : ∀ d ∈ tables_1, d.before a0 Z = true) (hx : p.tables.exec = Jvm.exec) (hZ : Z.Warmed39 s.vm) (hby : c.code = jdk_29_method_70_code) (hml : c.maxLocals = 4) (hown : s.vm.findClass "java/lang/Math" = some m.cls) (hnm : meth.name = "min") (hret : meth.sig.returnType = (some .long)) (hlk : meth.locks = false) (q1 : Int64) (q2 : Int64) {h0 : Heap} {n0 : Nat} (Z0 : n0 ≤ h0.size) {T0 : State} {L0 : List Loc} (X0 : Stand p l e ({ frames := 0, cells := 0, slots := 0, locals := 0 } : Room) s m args below meth c T0 L0 0 0) (N0 : Fr n0 L0) (e0 : T0.heap = h0)  :
    own_Fin p.tables e below (own_End below s (own_P h0 n0 (some (.long (own_f1 q1 q2)))) 0 0) T0 (mkF m 0 #[.val (.long q1), .second, .val (.long q2), .second] []) := by
  refine own_lloadN X0 hx (hb hby d1_0) (pc' := 1) rfl rfl ?_
  refine own_lloadN X0 hx (hb hby d1_1) (pc' := 2) rfl rfl ?_
  refine own_lcmp X0 hx (hb hby d1_2) (pc' := 3) rfl ?_
  by_cases hc1 : q2 < q1
  · refine own_ifYes X0 hx (hb hby d1_3) ((if0 _ _).trans (tlt (own_lc_gt.mpr hc1)).2.2.1) (pc' := 10) (by decide) (by decide) ?_
    refine own_lloadN X0 hx (hb hby d1_10) (pc' := 11) rfl rfl ?_
    refine own_retJ X0 hx hret hlk (hb hby d1_11) (by decide) (by decide) ?_
    show own_P _ _ _ _ T0.heap _
    exact ⟨(congrArg some (congrArg Value.long (show q2 = (own_f1 q1 q2) from by rw [own_f1, if_pos hc1]))), N0, e0⟩
  · refine own_ifNo X0 hx (hb hby d1_3) (pc' := 6) rfl ((if0 _ _).trans (flt (mt own_lc_gt.mp hc1)).2.2.1) ?_
    refine own_lloadN X0 hx (hb hby d1_6) (pc' := 7) rfl rfl ?_
    refine own_goto X0 hx (hb hby d1_7) (pc' := 11) (by decide) (by decide) ?_
    refine own_retJ X0 hx hret hlk (hb hby d1_11) (by decide) (by decide) ?_
    show own_P _ _ _ _ T0.heap _
    exact ⟨(congrArg some (congrArg Value.long (show q1 = (own_f1 q1 q2) from by rw [own_f1, if_neg hc1]))), N0, e0⟩
theorem ef_1 (m : MethodId) (q1 : Int64) (q2 : Int64) : entryFrame m #[(.long q1), (.long q2)] 4 = mkF m 0 #[.val (.long q1), .second, .val (.long q2), .second] [] := by first | (simp [entryFrame, mkF, argsToLocals, Value.category]; done) | rfl
set_option maxRecDepth 65536 in
set_option maxHeartbeats 40000000 in
theorem rm1 (l : Launch) (Z : State) (a0 : Array Value) (hw : ∀ d ∈ tables_1, d.before a0 Z = true) (ws : List Jvm.Cond) (q1 : Int64) (q2 : Int64) (h0 : Heap) (n0 : Nat) (Z0 : n0 ≤ h0.size)  :
    MetFree l (⟨"java/lang/Math", "min", "(JJ)J"⟩ : MethodName) (head1 (Jvm.Cond.code (⟨"java/lang/Math", "min", "(JJ)J"⟩ : MethodName) jdk_29_method_70_code 4 (some .long) :: ws) ({ frames := 0, cells := 0, slots := 0, locals := 0 } : Room)) (fun a U => a = #[(.long q1), (.long q2)] ∧ Z.Warmed39 U.vm ∧ U.heap = h0) (fun _ _ _ _ _ => True) (fun _ U o U' => ∃ v L, o = .returned v ∧ (own_P h0 n0 (some (.long (own_f1 q1 q2)))) v U'.heap L ∧ FrameEnd U o U' L ({ frames := 0, cells := 0, slots := 0, locals := 0 } : Room).cells ({ frames := 0, cells := 0, slots := 0, locals := 0 } : Room).slots) := by
  refine MetFree.of_bodySF (Jvm.Free.JP.mathPlain rfl (by decide +kernel)) hisR ?_
  intro p e s m args below meth c s₁ Bd hml0 hP hK
  obtain ⟨rfl, hZ, hh⟩ := hP
  have hown : s.vm.findClass "java/lang/Math" = some m.cls := findClass_of_methodNamed Bd.named
  have hnm := (name_of_methodNamed Bd.named Bd.method).1
  have X0 : Stand p l e ({ frames := 0, cells := 0, slots := 0, locals := 0 } : Room) s m #[(.long q1), (.long q2)] below meth c s₁ [] 0 0 := Stand.of_body Bd
  have e0 : s₁.heap = h0 := by rw [← hh, Bd.state]; rfl
  have H := sg1_0 l hw Bd.exec hZ Bd.bytes hml0 hown hnm Bd.returns Bd.notSynchronized q1 q2 Z0 X0 (Fr.nil n0) e0
  obtain ⟨t, h1, h2, o, h3, h4⟩ := H
  exact ⟨t, o, castTop (ef_1 m q1 q2) h1, h2, h3, h4⟩
theorem d2_0 : decode prog_62_method_1_code 0 = .ok (.aload_n 0, 1) := by decide +kernel
theorem d2_1 : decode prog_62_method_1_code 1 = .ok (.invokespecial 1, 3) := by decide +kernel
theorem d2_4 : decode prog_62_method_1_code 4 = .ok (.lload_n 1, 1) := by decide +kernel
theorem d2_5 : decode prog_62_method_1_code 5 = .ok (.ldc2_w 7, 3) := by decide +kernel
theorem d2_8 : decode prog_62_method_1_code 8 = .ok (.ldiv, 1) := by decide +kernel
theorem d2_9 : decode prog_62_method_1_code 9 = .ok (.lstore 4, 2) := by decide +kernel
theorem d2_11 : decode prog_62_method_1_code 11 = .ok (.lload 4, 2) := by decide +kernel
theorem d2_13 : decode prog_62_method_1_code 13 = .ok (.ldc2_w 11, 3) := by decide +kernel
theorem d2_16 : decode prog_62_method_1_code 16 = .ok (.iload_n 3, 1) := by decide +kernel
theorem d2_17 : decode prog_62_method_1_code 17 = .ok (.i2l, 1) := by decide +kernel
theorem d2_18 : decode prog_62_method_1_code 18 = .ok (.lmul, 1) := by decide +kernel
theorem d2_19 : decode prog_62_method_1_code 19 = .ok (.lcmp, 1) := by decide +kernel
theorem d2_20 : decode prog_62_method_1_code 20 = .ok (.ifCond .ge 24, 3) := by decide +kernel
theorem d2_23 : decode prog_62_method_1_code 23 = .ok (.new 13, 3) := by decide +kernel
theorem d2_26 : decode prog_62_method_1_code 26 = .ok (.dup, 1) := by decide +kernel
theorem d2_27 : decode prog_62_method_1_code 27 = .ok (.lload_n 1, 1) := by decide +kernel
theorem d2_28 : decode prog_62_method_1_code 28 = .ok (.lload 4, 2) := by decide +kernel
theorem d2_30 : decode prog_62_method_1_code 30 = .ok (.ldc2_w 11, 3) := by decide +kernel
theorem d2_33 : decode prog_62_method_1_code 33 = .ok (.ldiv, 1) := by decide +kernel
theorem d2_34 : decode prog_62_method_1_code 34 = .ok (.iload_n 3, 1) := by decide +kernel
theorem d2_35 : decode prog_62_method_1_code 35 = .ok (.invokedynamic 15, 5) := by decide +kernel
theorem d2_40 : decode prog_62_method_1_code 40 = .ok (.invokespecial 19, 3) := by decide +kernel
theorem d2_43 : decode prog_62_method_1_code 43 = .ok (.athrow, 1) := by decide +kernel
theorem d2_44 : decode prog_62_method_1_code 44 = .ok (.aload_n 0, 1) := by decide +kernel
theorem d2_45 : decode prog_62_method_1_code 45 = .ok (.lload 4, 2) := by decide +kernel
theorem d2_47 : decode prog_62_method_1_code 47 = .ok (.putfield 22, 3) := by decide +kernel
theorem d2_50 : decode prog_62_method_1_code 50 = .ok (.return_, 1) := by decide +kernel
theorem pn_2 : plainName "com/example/bushtit/bushtit/net/ConnectionHeap" = true := by first | (simp [plainName, overriddenIn]; done) | decide +kernel
def own_Q2 (Z : State) (q1 : Addr) (q2 : Int64) (q3 : Int32) (w_limit_q1 : Int64) (w_taken_q1 : Int64) (h0 : Heap) (n0 : Nat) (v : Option Value) (h : Heap) (L : List Loc) : Prop := v = none ∧ Fr n0 L ∧ Keep h0 h [q1] ∧ Exa Z h q1 "com/example/bushtit/bushtit/net/ConnectionHeap" ∧ Fld Z h q1 "com/example/bushtit/bushtit/net/ConnectionHeap" "limit" "J" (.long (q2 / (2 : Int64))) ∧ Fld Z h q1 "com/example/bushtit/bushtit/net/ConnectionHeap" "taken" "J" (.long w_taken_q1)
set_option maxRecDepth 65536 in
set_option maxHeartbeats 40000000 in
theorem sg2_0 {p : Program} (l : Launch) {e : Env} {s : State} {m : MethodId} {args : Array Value} {below : List Frame} {meth : Method} {c : Code} {Z : State} {a0 : Array Value} (hw : ∀ d ∈ tables_1, d.before a0 Z = true) (hx : p.tables.exec = Jvm.exec) (hZ : Z.Warmed39 s.vm) (hby : c.code = prog_62_method_1_code) (hml : c.maxLocals = 6) (hown : s.vm.findClass "com/example/bushtit/bushtit/net/ConnectionHeap" = some m.cls) (hnm : meth.name = "<init>") (hret : meth.sig.returnType = none) (hlk : meth.locks = false) (q1 : Addr) (q2 : Int64) (q3 : Int32) (w_limit_q1 : Int64) (w_taken_q1 : Int64) {h0 : Heap} {n0 : Nat} (Z0 : n0 ≤ h0.size) {T0 : State} {L0 : List Loc} (X0 : Stand p l e ({ frames := 1, cells := 0, slots := 0, locals := 12 } : Room) s m args below meth c T0 L0 0 0) (N0 : Fr n0 L0) (e0 : T0.heap = h0) (E_q1 : Exa Z h0 q1 "com/example/bushtit/bushtit/net/ConnectionHeap") (g_q1 : n0 ≤ q1) (F_limit_q1 : Fld Z h0 q1 "com/example/bushtit/bushtit/net/ConnectionHeap" "limit" "J" (.long w_limit_q1)) (F_taken_q1 : Fld Z h0 q1 "com/example/bushtit/bushtit/net/ConnectionHeap" "taken" "J" (.long w_taken_q1)) (hc20 : ¬ ((q2 / (2 : Int64)) < ((8 : Int64) * (q3.toInt64)))) :
    own_Fin p.tables e below (own_End below s (own_Q2 Z q1 q2 q3 w_limit_q1 w_taken_q1 h0 n0) 0 0) T0 (mkF m 0 #[.val (.ref q1), .val (.long q2), .second, .val (.int q3), .unset, .unset] []) := by
  have K0 := Keep.refl h0 [q1]
  refine own_aloadN X0 hx (hb hby d2_0) (pc' := 1) rfl rfl rfl ?_
  obtain ⟨T2, X2, e2, st2⟩ := initO X0 hx hZ hown (hw _ (List.mem_of_getElem? (i := 14) rfl)) (hw _ (List.mem_of_getElem? (i := 15) rfl)) (hw _ (List.mem_of_getElem? (i := 16) rfl)) e0 (g := (mkF m 1 #[.val (.ref q1), .val (.long q2), .second, .val (.int q3), .unset, .unset] [(.ref q1)])) rfl (by rw [hml]; rfl) rfl (hb hby d2_1) (by decide) (W := 0) (by show 2 * 0 + _ ≤ _; exact Nat.le_of_eq rfl) (by decide)
  refine own_st ?_ st2
  show own_Fin _ _ _ _ T2 (mkF m 4 #[.val (.ref q1), .val (.long q2), .second, .val (.int q3), .unset, .unset] [])
  refine own_lloadN X2 hx (hb hby d2_4) (pc' := 5) rfl rfl ?_
  refine own_ldc2Long X2 hx hZ hown (hw _ (List.mem_of_getElem? (i := 17) rfl)) (hb hby d2_5) (pc' := 8) rfl ?_
  refine own_ldiv X2 hx (hb hby d2_8) (pc' := 9) rfl (by decide) ?_
  refine own_lstore X2 hx (hb hby d2_9) (pc' := 11) rfl (Ls' := #[.val (.ref q1), .val (.long q2), .second, .val (.int q3), .val (.long (q2 / (2 : Int64))), .second]) rfl ?_
  refine own_lload X2 hx (hb hby d2_11) (pc' := 13) rfl rfl ?_
  refine own_ldc2Long X2 hx hZ hown (hw _ (List.mem_of_getElem? (i := 18) rfl)) (hb hby d2_13) (pc' := 16) rfl ?_
  refine own_iloadN X2 hx (hb hby d2_16) (pc' := 17) rfl rfl ?_
  refine own_i2l X2 hx (hb hby d2_17) (pc' := 18) rfl ?_
  refine own_lmul X2 hx (hb hby d2_18) (pc' := 19) rfl ?_
  refine own_lcmp X2 hx (hb hby d2_19) (pc' := 20) rfl ?_
  refine own_ifYes X2 hx (hb hby d2_20) ((if0 _ _).trans (flt (mt own_lc_lt.mp hc20)).2.1) (pc' := 44) (by decide) (by decide) ?_
  refine own_aloadN X2 hx (hb hby d2_44) (pc' := 45) rfl rfl rfl ?_
  refine own_lload X2 hx (hb hby d2_45) (pc' := 47) rfl rfl ?_
  obtain ⟨T3, h3, X3, e3, W3, st3⟩ := putF X2 hx hZ hown (host := "") (Or.inl (hw _ (List.mem_of_getElem? (i := 19) rfl))) Via.refl e2 F_limit_q1 E_q1 (Or.inr ⟨(hw _ (List.mem_of_getElem? (i := 20) rfl)), rfl, hnm⟩) (hw _ (List.mem_of_getElem? (i := 9) rfl)) (ty := .long) (by decide) rfl rfl (g := (mkF m 47 #[.val (.ref q1), .val (.long q2), .second, .val (.int q3), .val (.long (q2 / (2 : Int64))), .second] [(.long (q2 / (2 : Int64))), (.ref q1)])) rfl rfl (hb hby d2_47)
  have E_q1_3 : Exa Z h3 q1 "com/example/bushtit/bushtit/net/ConnectionHeap" := E_q1.wr W3
  have F_q1_limit_3 : Fld Z h3 q1 "com/example/bushtit/bushtit/net/ConnectionHeap" "limit" "J" (.long (q2 / (2 : Int64))) := F_limit_q1.same W3
  have F_q1_taken_3 : Fld Z h3 q1 "com/example/bushtit/bushtit/net/ConnectionHeap" "taken" "J" (.long w_taken_q1) := F_taken_q1.other W3 (Or.inr (slot_ne (Or.inl (hw _ (List.mem_of_getElem? (i := 27) rfl))) (Or.inr (hw _ (List.mem_of_getElem? (i := 20) rfl))) (by decide) (t := .long) (t' := .long) (by decide) (by decide)))
  have N3 := Fr.snoc X3 N0 g_q1
  have sz3 : n0 ≤ h3.size := Nat.le_trans Z0 (Keep.of_wr W3).1
  have K3 : Keep h0 h3 [q1] := K0.wr W3 (Or.inl (List.mem_of_getElem? (i := 0) rfl))
  refine own_st ?_ st3
  show own_Fin _ _ _ _ T3 (mkF m 50 #[.val (.ref q1), .val (.long q2), .second, .val (.int q3), .val (.long (q2 / (2 : Int64))), .second] [])
  refine own_retV X3 hx hret hlk (hb hby d2_50) (by decide) (by decide) ?_
  show own_Q2 Z q1 q2 q3 w_limit_q1 w_taken_q1 h0 n0 _ T3.heap _
  rw [e3]
  exact ⟨rfl, N3, K3, E_q1_3, F_q1_limit_3, F_q1_taken_3⟩
theorem ef_2 (m : MethodId) (q1 : Addr) (q2 : Int64) (q3 : Int32) : entryFrame m #[(.ref q1), (.long q2), (.int q3)] 6 = mkF m 0 #[.val (.ref q1), .val (.long q2), .second, .val (.int q3), .unset, .unset] [] := by first | (simp [entryFrame, mkF, argsToLocals, Value.category]; done) | rfl
set_option maxRecDepth 65536 in
set_option maxHeartbeats 40000000 in
theorem rm2 (l : Launch) (Z : State) (a0 : Array Value) (hw : ∀ d ∈ tables_1, d.before a0 Z = true) (ws : List Jvm.Cond) (q1 : Addr) (q2 : Int64) (q3 : Int32) (w_limit_q1 : Int64) (w_taken_q1 : Int64) (h0 : Heap) (n0 : Nat) (Z0 : n0 ≤ h0.size) (E_q1 : Exa Z h0 q1 "com/example/bushtit/bushtit/net/ConnectionHeap") (g_q1 : n0 ≤ q1) (F_limit_q1 : Fld Z h0 q1 "com/example/bushtit/bushtit/net/ConnectionHeap" "limit" "J" (.long w_limit_q1)) (F_taken_q1 : Fld Z h0 q1 "com/example/bushtit/bushtit/net/ConnectionHeap" "taken" "J" (.long w_taken_q1)) (hc20 : ¬ ((q2 / (2 : Int64)) < ((8 : Int64) * (q3.toInt64)))) :
    MetFree l (⟨"com/example/bushtit/bushtit/net/ConnectionHeap", "<init>", "(JI)V"⟩ : MethodName) (head1 (Jvm.Cond.code (⟨"com/example/bushtit/bushtit/net/ConnectionHeap", "<init>", "(JI)V"⟩ : MethodName) prog_62_method_1_code 6 none :: ws) ({ frames := 1, cells := 0, slots := 0, locals := 12 } : Room)) (fun a U => a = #[(.ref q1), (.long q2), (.int q3)] ∧ Z.Warmed39 U.vm ∧ U.heap = h0) (fun _ _ _ _ _ => True) (fun _ U o U' => ∃ v L, o = .returned v ∧ (own_Q2 Z q1 q2 q3 w_limit_q1 w_taken_q1 h0 n0) v U'.heap L ∧ FrameEnd U o U' L ({ frames := 1, cells := 0, slots := 0, locals := 12 } : Room).cells ({ frames := 1, cells := 0, slots := 0, locals := 12 } : Room).slots) := by
  refine MetFree.of_bodySF (plainFor_of_name pn_2) hisR ?_
  intro p e s m args below meth c s₁ Bd hml0 hP hK
  obtain ⟨rfl, hZ, hh⟩ := hP
  have hown : s.vm.findClass "com/example/bushtit/bushtit/net/ConnectionHeap" = some m.cls := findClass_of_methodNamed Bd.named
  have hnm := (name_of_methodNamed Bd.named Bd.method).1
  have X0 : Stand p l e ({ frames := 1, cells := 0, slots := 0, locals := 12 } : Room) s m #[(.ref q1), (.long q2), (.int q3)] below meth c s₁ [] 0 0 := Stand.of_body Bd
  have e0 : s₁.heap = h0 := by rw [← hh, Bd.state]; rfl
  have H := sg2_0 l hw Bd.exec hZ Bd.bytes hml0 hown hnm Bd.returns Bd.notSynchronized q1 q2 q3 w_limit_q1 w_taken_q1 Z0 X0 (Fr.nil n0) e0 E_q1 g_q1 F_limit_q1 F_taken_q1 hc20
  obtain ⟨t, h1, h2, o, h3, h4⟩ := H
  exact ⟨t, o, castTop (ef_2 m q1 q2 q3) h1, h2, h3, h4⟩
theorem d4_0 : decode prog_62_method_5_code 0 = .ok (.aload_n 0, 1) := by decide +kernel
theorem d4_1 : decode prog_62_method_5_code 1 = .ok (.getfield 26, 3) := by decide +kernel
theorem d4_4 : decode prog_62_method_5_code 4 = .ok (.aload_n 0, 1) := by decide +kernel
theorem d4_5 : decode prog_62_method_5_code 5 = .ok (.getfield 22, 3) := by decide +kernel
theorem d4_8 : decode prog_62_method_5_code 8 = .ok (.lcmp, 1) := by decide +kernel
theorem d4_9 : decode prog_62_method_5_code 9 = .ok (.ifCond .le 7, 3) := by decide +kernel
theorem d4_12 : decode prog_62_method_5_code 12 = .ok (.iconst 1, 1) := by decide +kernel
theorem d4_13 : decode prog_62_method_5_code 13 = .ok (.goto 4, 3) := by decide +kernel
theorem d4_16 : decode prog_62_method_5_code 16 = .ok (.iconst 0, 1) := by decide +kernel
theorem d4_17 : decode prog_62_method_5_code 17 = .ok (.ireturn, 1) := by decide +kernel
theorem pn_4 : plainName "com/example/bushtit/bushtit/net/ConnectionHeap" = true := by first | (simp [plainName, overriddenIn]; done) | decide +kernel
def own_f4 (w_limit_q1 : Int64) (w_taken_q1 : Int64) : Int32 :=
  if w_limit_q1 < w_taken_q1 then (1 : Int32) else
  (0 : Int32)
set_option maxRecDepth 65536 in
set_option maxHeartbeats 40000000 in
theorem sg4_0 {p : Program} (l : Launch) {e : Env} {s : State} {m : MethodId} {args : Array Value} {below : List Frame} {meth : Method} {c : Code} {Z : State} {a0 : Array Value} (hw : ∀ d ∈ tables_1, d.before a0 Z = true) (hx : p.tables.exec = Jvm.exec) (hZ : Z.Warmed39 s.vm) (hby : c.code = prog_62_method_5_code) (hml : c.maxLocals = 1) (hown : s.vm.findClass "com/example/bushtit/bushtit/net/ConnectionHeap" = some m.cls) (hnm : meth.name = "isOverdrawn") (hret : meth.sig.returnType = (some .boolean)) (hlk : meth.locks = false) (q1 : Addr) (w_limit_q1 : Int64) (w_taken_q1 : Int64) {h0 : Heap} {n0 : Nat} (Z0 : n0 ≤ h0.size) {T0 : State} {L0 : List Loc} (X0 : Stand p l e ({ frames := 0, cells := 0, slots := 0, locals := 0 } : Room) s m args below meth c T0 L0 0 0) (N0 : Fr n0 L0) (e0 : T0.heap = h0) (E_q1 : Exa Z h0 q1 "com/example/bushtit/bushtit/net/ConnectionHeap") (F_limit_q1 : Fld Z h0 q1 "com/example/bushtit/bushtit/net/ConnectionHeap" "limit" "J" (.long w_limit_q1)) (F_taken_q1 : Fld Z h0 q1 "com/example/bushtit/bushtit/net/ConnectionHeap" "taken" "J" (.long w_taken_q1)) :
    own_Fin p.tables e below (own_End below s (own_P h0 n0 (some (.int (own_f4 w_limit_q1 w_taken_q1)))) 0 0) T0 (mkF m 0 #[.val (.ref q1)] []) := by
  refine own_aloadN X0 hx (hb hby d4_0) (pc' := 1) rfl rfl rfl ?_
  refine own_getF X0 hx hZ hown (hw _ (List.mem_of_getElem? (i := 26) rfl)) Via.refl e0 F_taken_q1 (hb hby d4_1) (pc' := 4) rfl (fun T4 X4 e4 => ?_)
  refine own_aloadN X4 hx (hb hby d4_4) (pc' := 5) rfl rfl rfl ?_
  refine own_getF X4 hx hZ hown (hw _ (List.mem_of_getElem? (i := 19) rfl)) Via.refl e4 F_limit_q1 (hb hby d4_5) (pc' := 8) rfl (fun T5 X5 e5 => ?_)
  refine own_lcmp X5 hx (hb hby d4_8) (pc' := 9) rfl ?_
  by_cases hc6 : w_limit_q1 < w_taken_q1
  · refine own_ifNo X5 hx (hb hby d4_9) (pc' := 12) rfl ((if0 _ _).trans (tlt (own_lc_gt.mpr hc6)).2.2.2) ?_
    refine own_iconst X5 hx (hb hby d4_12) (pc' := 13) rfl (v := (1 : Int32)) rfl ?_
    refine own_goto X5 hx (hb hby d4_13) (pc' := 17) (by decide) (by decide) ?_
    refine own_retN X5 hx (t := .boolean) hret (by simp) hlk (hb hby d4_17) (by decide) (by decide) ?_
    show own_P _ _ _ _ T5.heap _
    exact ⟨(congrArg some (congrArg Value.int (show _ = (own_f4 w_limit_q1 w_taken_q1) from by rw [own_f4, if_pos hc6]; rfl))), N0, e5⟩
  · refine own_ifYes X5 hx (hb hby d4_9) ((if0 _ _).trans (flt (mt own_lc_gt.mp hc6)).2.2.2) (pc' := 16) (by decide) (by decide) ?_
    refine own_iconst X5 hx (hb hby d4_16) (pc' := 17) rfl (v := (0 : Int32)) rfl ?_
    refine own_retN X5 hx (t := .boolean) hret (by simp) hlk (hb hby d4_17) (by decide) (by decide) ?_
    show own_P _ _ _ _ T5.heap _
    exact ⟨(congrArg some (congrArg Value.int (show _ = (own_f4 w_limit_q1 w_taken_q1) from by rw [own_f4, if_neg hc6]; rfl))), N0, e5⟩
theorem ef_4 (m : MethodId) (q1 : Addr) : entryFrame m #[(.ref q1)] 1 = mkF m 0 #[.val (.ref q1)] [] := by first | (simp [entryFrame, mkF, argsToLocals, Value.category]; done) | rfl
set_option maxRecDepth 65536 in
set_option maxHeartbeats 40000000 in
theorem rm4 (l : Launch) (Z : State) (a0 : Array Value) (hw : ∀ d ∈ tables_1, d.before a0 Z = true) (ws : List Jvm.Cond) (q1 : Addr) (w_limit_q1 : Int64) (w_taken_q1 : Int64) (h0 : Heap) (n0 : Nat) (Z0 : n0 ≤ h0.size) (E_q1 : Exa Z h0 q1 "com/example/bushtit/bushtit/net/ConnectionHeap") (F_limit_q1 : Fld Z h0 q1 "com/example/bushtit/bushtit/net/ConnectionHeap" "limit" "J" (.long w_limit_q1)) (F_taken_q1 : Fld Z h0 q1 "com/example/bushtit/bushtit/net/ConnectionHeap" "taken" "J" (.long w_taken_q1)) :
    MetFree l (⟨"com/example/bushtit/bushtit/net/ConnectionHeap", "isOverdrawn", "()Z"⟩ : MethodName) (head1 (Jvm.Cond.code (⟨"com/example/bushtit/bushtit/net/ConnectionHeap", "isOverdrawn", "()Z"⟩ : MethodName) prog_62_method_5_code 1 (some .boolean) :: ws) ({ frames := 0, cells := 0, slots := 0, locals := 0 } : Room)) (fun a U => a = #[(.ref q1)] ∧ Z.Warmed39 U.vm ∧ U.heap = h0) (fun _ _ _ _ _ => True) (fun _ U o U' => ∃ v L, o = .returned v ∧ (own_P h0 n0 (some (.int (own_f4 w_limit_q1 w_taken_q1)))) v U'.heap L ∧ FrameEnd U o U' L ({ frames := 0, cells := 0, slots := 0, locals := 0 } : Room).cells ({ frames := 0, cells := 0, slots := 0, locals := 0 } : Room).slots) := by
  refine MetFree.of_bodySF (plainFor_of_name pn_4) hisR ?_
  intro p e s m args below meth c s₁ Bd hml0 hP hK
  obtain ⟨rfl, hZ, hh⟩ := hP
  have hown : s.vm.findClass "com/example/bushtit/bushtit/net/ConnectionHeap" = some m.cls := findClass_of_methodNamed Bd.named
  have hnm := (name_of_methodNamed Bd.named Bd.method).1
  have X0 : Stand p l e ({ frames := 0, cells := 0, slots := 0, locals := 0 } : Room) s m #[(.ref q1)] below meth c s₁ [] 0 0 := Stand.of_body Bd
  have e0 : s₁.heap = h0 := by rw [← hh, Bd.state]; rfl
  have H := sg4_0 l hw Bd.exec hZ Bd.bytes hml0 hown hnm Bd.returns Bd.notSynchronized q1 w_limit_q1 w_taken_q1 Z0 X0 (Fr.nil n0) e0 E_q1 F_limit_q1 F_taken_q1
  obtain ⟨t, h1, h2, o, h3, h4⟩ := H
  exact ⟨t, o, castTop (ef_4 m q1) h1, h2, h3, h4⟩
theorem d5_0 : decode prog_62_method_4_code 0 = .ok (.aload_n 0, 1) := by decide +kernel
theorem d5_1 : decode prog_62_method_4_code 1 = .ok (.dup, 1) := by decide +kernel
theorem d5_2 : decode prog_62_method_4_code 2 = .ok (.getfield 26, 3) := by decide +kernel
theorem d5_5 : decode prog_62_method_4_code 5 = .ok (.lload_n 3, 1) := by decide +kernel
theorem d5_6 : decode prog_62_method_4_code 6 = .ok (.lload_n 1, 1) := by decide +kernel
theorem d5_7 : decode prog_62_method_4_code 7 = .ok (.lsub, 1) := by decide +kernel
theorem d5_8 : decode prog_62_method_4_code 8 = .ok (.ladd, 1) := by decide +kernel
theorem d5_9 : decode prog_62_method_4_code 9 = .ok (.putfield 26, 3) := by decide +kernel
theorem d5_12 : decode prog_62_method_4_code 12 = .ok (.return_, 1) := by decide +kernel
theorem pn_5 : plainName "com/example/bushtit/bushtit/net/ConnectionHeap" = true := by first | (simp [plainName, overriddenIn]; done) | decide +kernel
def own_Q5 (Z : State) (q1 : Addr) (q2 : Int64) (q3 : Int64) (w_limit_q1 : Int64) (w_taken_q1 : Int64) (h0 : Heap) (n0 : Nat) (v : Option Value) (h : Heap) (L : List Loc) : Prop := v = none ∧ Fr n0 L ∧ Keep h0 h [q1] ∧ Exa Z h q1 "com/example/bushtit/bushtit/net/ConnectionHeap" ∧ Fld Z h q1 "com/example/bushtit/bushtit/net/ConnectionHeap" "limit" "J" (.long w_limit_q1) ∧ Fld Z h q1 "com/example/bushtit/bushtit/net/ConnectionHeap" "taken" "J" (.long (w_taken_q1 + (q3 - q2)))
set_option maxRecDepth 65536 in
set_option maxHeartbeats 40000000 in
theorem sg5_0 {p : Program} (l : Launch) {e : Env} {s : State} {m : MethodId} {args : Array Value} {below : List Frame} {meth : Method} {c : Code} {Z : State} {a0 : Array Value} (hw : ∀ d ∈ tables_1, d.before a0 Z = true) (hx : p.tables.exec = Jvm.exec) (hZ : Z.Warmed39 s.vm) (hby : c.code = prog_62_method_4_code) (hml : c.maxLocals = 5) (hown : s.vm.findClass "com/example/bushtit/bushtit/net/ConnectionHeap" = some m.cls) (hnm : meth.name = "change") (hret : meth.sig.returnType = none) (hlk : meth.locks = false) (q1 : Addr) (q2 : Int64) (q3 : Int64) (w_limit_q1 : Int64) (w_taken_q1 : Int64) {h0 : Heap} {n0 : Nat} (Z0 : n0 ≤ h0.size) {T0 : State} {L0 : List Loc} (X0 : Stand p l e ({ frames := 0, cells := 0, slots := 0, locals := 0 } : Room) s m args below meth c T0 L0 0 0) (N0 : Fr n0 L0) (e0 : T0.heap = h0) (E_q1 : Exa Z h0 q1 "com/example/bushtit/bushtit/net/ConnectionHeap") (g_q1 : n0 ≤ q1) (F_limit_q1 : Fld Z h0 q1 "com/example/bushtit/bushtit/net/ConnectionHeap" "limit" "J" (.long w_limit_q1)) (F_taken_q1 : Fld Z h0 q1 "com/example/bushtit/bushtit/net/ConnectionHeap" "taken" "J" (.long w_taken_q1)) :
    own_Fin p.tables e below (own_End below s (own_Q5 Z q1 q2 q3 w_limit_q1 w_taken_q1 h0 n0) 0 0) T0 (mkF m 0 #[.val (.ref q1), .val (.long q2), .second, .val (.long q3), .second] []) := by
  have K0 := Keep.refl h0 [q1]
  refine own_aloadN X0 hx (hb hby d5_0) (pc' := 1) rfl rfl rfl ?_
  refine own_dup X0 hx (hb hby d5_1) (pc' := 2) rfl rfl ?_
  refine own_getF X0 hx hZ hown (hw _ (List.mem_of_getElem? (i := 26) rfl)) Via.refl e0 F_taken_q1 (hb hby d5_2) (pc' := 5) rfl (fun T7 X7 e7 => ?_)
  refine own_lloadN X7 hx (hb hby d5_5) (pc' := 6) rfl rfl ?_
  refine own_lloadN X7 hx (hb hby d5_6) (pc' := 7) rfl rfl ?_
  refine own_lsub X7 hx (hb hby d5_7) (pc' := 8) rfl ?_
  refine own_ladd X7 hx (hb hby d5_8) (pc' := 9) rfl ?_
  obtain ⟨T8, h8, X8, e8, W8, st8⟩ := putF X7 hx hZ hown (host := "") (Or.inl (hw _ (List.mem_of_getElem? (i := 26) rfl))) Via.refl e7 F_taken_q1 E_q1 (Or.inl (hw _ (List.mem_of_getElem? (i := 27) rfl))) (hw _ (List.mem_of_getElem? (i := 9) rfl)) (ty := .long) (by decide) rfl rfl (g := (mkF m 9 #[.val (.ref q1), .val (.long q2), .second, .val (.long q3), .second] [(.long (w_taken_q1 + (q3 - q2))), (.ref q1)])) rfl rfl (hb hby d5_9)
  have E_q1_8 : Exa Z h8 q1 "com/example/bushtit/bushtit/net/ConnectionHeap" := E_q1.wr W8
  have F_q1_limit_8 : Fld Z h8 q1 "com/example/bushtit/bushtit/net/ConnectionHeap" "limit" "J" (.long w_limit_q1) := F_limit_q1.other W8 (Or.inr (slot_ne (Or.inr (hw _ (List.mem_of_getElem? (i := 20) rfl))) (Or.inl (hw _ (List.mem_of_getElem? (i := 27) rfl))) (by decide) (t := .long) (t' := .long) (by decide) (by decide)))
  have F_q1_taken_8 : Fld Z h8 q1 "com/example/bushtit/bushtit/net/ConnectionHeap" "taken" "J" (.long (w_taken_q1 + (q3 - q2))) := F_taken_q1.same W8
  have N8 := Fr.snoc X8 N0 g_q1
  have sz8 : n0 ≤ h8.size := Nat.le_trans Z0 (Keep.of_wr W8).1
  have K8 : Keep h0 h8 [q1] := K0.wr W8 (Or.inl (List.mem_of_getElem? (i := 0) rfl))
  refine own_st ?_ st8
  show own_Fin _ _ _ _ T8 (mkF m 12 #[.val (.ref q1), .val (.long q2), .second, .val (.long q3), .second] [])
  refine own_retV X8 hx hret hlk (hb hby d5_12) (by decide) (by decide) ?_
  show own_Q5 Z q1 q2 q3 w_limit_q1 w_taken_q1 h0 n0 _ T8.heap _
  rw [e8]
  exact ⟨rfl, N8, K8, E_q1_8, F_q1_limit_8, F_q1_taken_8⟩
theorem ef_5 (m : MethodId) (q1 : Addr) (q2 : Int64) (q3 : Int64) : entryFrame m #[(.ref q1), (.long q2), (.long q3)] 5 = mkF m 0 #[.val (.ref q1), .val (.long q2), .second, .val (.long q3), .second] [] := by first | (simp [entryFrame, mkF, argsToLocals, Value.category]; done) | rfl
set_option maxRecDepth 65536 in
set_option maxHeartbeats 40000000 in
theorem rm5 (l : Launch) (Z : State) (a0 : Array Value) (hw : ∀ d ∈ tables_1, d.before a0 Z = true) (ws : List Jvm.Cond) (q1 : Addr) (q2 : Int64) (q3 : Int64) (w_limit_q1 : Int64) (w_taken_q1 : Int64) (h0 : Heap) (n0 : Nat) (Z0 : n0 ≤ h0.size) (E_q1 : Exa Z h0 q1 "com/example/bushtit/bushtit/net/ConnectionHeap") (g_q1 : n0 ≤ q1) (F_limit_q1 : Fld Z h0 q1 "com/example/bushtit/bushtit/net/ConnectionHeap" "limit" "J" (.long w_limit_q1)) (F_taken_q1 : Fld Z h0 q1 "com/example/bushtit/bushtit/net/ConnectionHeap" "taken" "J" (.long w_taken_q1)) :
    MetFree l (⟨"com/example/bushtit/bushtit/net/ConnectionHeap", "change", "(JJ)V"⟩ : MethodName) (head1 (Jvm.Cond.code (⟨"com/example/bushtit/bushtit/net/ConnectionHeap", "change", "(JJ)V"⟩ : MethodName) prog_62_method_4_code 5 none :: ws) ({ frames := 0, cells := 0, slots := 0, locals := 0 } : Room)) (fun a U => a = #[(.ref q1), (.long q2), (.long q3)] ∧ Z.Warmed39 U.vm ∧ U.heap = h0) (fun _ _ _ _ _ => True) (fun _ U o U' => ∃ v L, o = .returned v ∧ (own_Q5 Z q1 q2 q3 w_limit_q1 w_taken_q1 h0 n0) v U'.heap L ∧ FrameEnd U o U' L ({ frames := 0, cells := 0, slots := 0, locals := 0 } : Room).cells ({ frames := 0, cells := 0, slots := 0, locals := 0 } : Room).slots) := by
  refine MetFree.of_bodySF (plainFor_of_name pn_5) hisR ?_
  intro p e s m args below meth c s₁ Bd hml0 hP hK
  obtain ⟨rfl, hZ, hh⟩ := hP
  have hown : s.vm.findClass "com/example/bushtit/bushtit/net/ConnectionHeap" = some m.cls := findClass_of_methodNamed Bd.named
  have hnm := (name_of_methodNamed Bd.named Bd.method).1
  have X0 : Stand p l e ({ frames := 0, cells := 0, slots := 0, locals := 0 } : Room) s m #[(.ref q1), (.long q2), (.long q3)] below meth c s₁ [] 0 0 := Stand.of_body Bd
  have e0 : s₁.heap = h0 := by rw [← hh, Bd.state]; rfl
  have H := sg5_0 l hw Bd.exec hZ Bd.bytes hml0 hown hnm Bd.returns Bd.notSynchronized q1 q2 q3 w_limit_q1 w_taken_q1 Z0 X0 (Fr.nil n0) e0 E_q1 g_q1 F_limit_q1 F_taken_q1
  obtain ⟨t, h1, h2, o, h3, h4⟩ := H
  exact ⟨t, o, castTop (ef_5 m q1 q2 q3) h1, h2, h3, h4⟩
theorem own_b64 (x : Int64) : -9223372036854775808 ≤ x.toInt ∧ x.toInt < 9223372036854775808 := ⟨Int64.le_toInt x, Int64.toInt_lt x⟩
theorem own_b32 (x : Int32) : -2147483648 ≤ x.toInt ∧ x.toInt < 2147483648 := ⟨Int32.le_toInt x, Int32.toInt_lt x⟩
theorem own_wrap64 (n : Int) : ∃ k : Int, n.bmod (2 ^ 64) = n + k * 18446744073709551616 := by
  rw [Int.bmod_def]
  split
  · exact ⟨-(n / 18446744073709551616), by omega⟩
  · exact ⟨-(n / 18446744073709551616) - 1, by omega⟩
theorem own_add64 (x y : Int64) : ∃ k : Int, (x + y).toInt = x.toInt + y.toInt + k * 18446744073709551616 := by
  rw [Int64.toInt_add]; exact own_wrap64 _
theorem own_sub64 (x y : Int64) : ∃ k : Int, (x - y).toInt = x.toInt - y.toInt + k * 18446744073709551616 := by
  rw [Int64.toInt_sub]; exact own_wrap64 _
theorem own_wrap32 (n : Int) : ∃ k : Int, n.bmod (2 ^ 32) = n + k * 4294967296 := by
  rw [Int.bmod_def]
  split
  · exact ⟨-(n / 4294967296), by omega⟩
  · exact ⟨-(n / 4294967296) - 1, by omega⟩
theorem own_add32 (x y : Int32) : ∃ k : Int, (x + y).toInt = x.toInt + y.toInt + k * 4294967296 := by
  rw [Int32.toInt_add]; exact own_wrap32 _
theorem own_sub32 (x y : Int32) : ∃ k : Int, (x - y).toInt = x.toInt - y.toInt + k * 4294967296 := by
  rw [Int32.toInt_sub]; exact own_wrap32 _
theorem own_m63 (x : Int64) : (x &&& (9223372036854775807 : Int64)).toInt = x.toInt % 9223372036854775808 := Jvm.Kit.i64_mask x _ (k := 63) (by decide) (by decide)
theorem own_m31 (x : Int32) : (x &&& (2147483647 : Int32)).toInt = x.toInt % 2147483648 := Jvm.Kit.i32_mask x _ (k := 31) (by decide) (by decide)
theorem own_max64 : (9223372036854775807 : Int64).toInt = 9223372036854775807 := by decide
theorem own_lt64 {x y : Int64} : x < y ↔ x.toInt < y.toInt := Int64.lt_iff_toInt_lt
theorem own_lt32 {x y : Int32} : x < y ↔ x.toInt < y.toInt := Int32.lt_iff_toInt_lt
theorem own_eq64 {x y : Int64} : x = y ↔ x.toInt = y.toInt := Int64.toInt_inj.symm
theorem own_eq32 {x y : Int32} : x = y ↔ x.toInt = y.toInt := Int32.toInt_inj.symm

theorem own_pre (q1 : Int64) (q2 : Int32) : ¬ (((q1 &&& (9223372036854775807 : Int64)) / (2 : Int64)) < ((8 : Int64) * ((own_f1 ((q2.toInt64) &&& (2147483647 : Int64)) (((q1 &&& (9223372036854775807 : Int64)) / (2 : Int64)) / (8 : Int64))).toInt32).toInt64)) := by
  have h1 := own_m63 q1
  have b1 := own_b64 q1
  have e2 : (2 : Int64).toInt = 2 := by decide
  have e8 : (8 : Int64).toInt = 8 := by decide
  have hm : (q2.toInt64 &&& (2147483647 : Int64)).toInt = q2.toInt64.toInt % 2147483648 := Jvm.Kit.i64_mask _ _ (k := 31) (by decide) (by decide)
  generalize (q1 &&& (9223372036854775807 : Int64)) = f at *
  generalize (q2.toInt64 &&& (2147483647 : Int64)) = mm at *
  have hf : 0 ≤ f.toInt := by omega
  have hh : (f / 2).toInt = f.toInt / 2 := by rw [Jvm.Kit.i64_div (by omega), e2, Int.tdiv_eq_ediv_of_nonneg hf]
  generalize f / 2 = half at *
  have h8 : (half / 8).toInt = half.toInt / 8 := by rw [Jvm.Kit.i64_div (by omega), e8, Int.tdiv_eq_ediv_of_nonneg (by omega)]
  generalize half / 8 = h at *
  have hv : 0 ≤ (own_f1 mm h).toInt ∧ (own_f1 mm h).toInt ≤ h.toInt ∧ (own_f1 mm h).toInt < 2147483648 := by
    unfold own_f1
    by_cases hc : h < mm
    · rw [if_pos hc]; rw [own_lt64] at hc; omega
    · rw [if_neg hc]; rw [own_lt64] at hc; omega
  generalize own_f1 mm h = v at *
  have hv32 : v.toInt32.toInt64.toInt = v.toInt := by rw [Int32.toInt_toInt64, Jvm.Kit.i32_of_i64 (by omega) (by omega)]
  have hp : (8 * v.toInt32.toInt64).toInt = 8 * v.toInt := by rw [Jvm.Kit.i64_mul (by rw [hv32, e8]; omega) (by rw [hv32, e8]; omega), hv32, e8]
  rw [own_lt64, hp]; omega
theorem pn_0 : plainName "com/example/bushtit/bushtit/net/ConnectionHeapIsOverdrawnPinLaw" = true := by first | (simp [plainName, overriddenIn]; done) | decide +kernel
def own_f0 (q1 : Int64) (q2 : Int32) (q3 : Int64) (q4 : Int64) (q5 : Int64) (q6 : Int64) : Int32 :=
  if ((q1 &&& (9223372036854775807 : Int64)) / (2 : Int64)) < ((q4 - q3) + (q6 - q5)) then (if (own_f4 ((q1 &&& (9223372036854775807 : Int64)) / (2 : Int64)) (0 : Int64)) = (0 : Int32) then (if (own_f4 ((q1 &&& (9223372036854775807 : Int64)) / (2 : Int64)) (((0 : Int64) + (q4 - q3)) + (q6 - q5))) = (1 : Int32) then (1 : Int32) else
    (0 : Int32)) else
    (0 : Int32)) else
  if (own_f4 ((q1 &&& (9223372036854775807 : Int64)) / (2 : Int64)) (0 : Int64)) = (0 : Int32) then (if (own_f4 ((q1 &&& (9223372036854775807 : Int64)) / (2 : Int64)) (((0 : Int64) + (q4 - q3)) + (q6 - q5))) = (0 : Int32) then (1 : Int32) else
    (0 : Int32)) else
  (0 : Int32)
set_option maxRecDepth 65536 in
set_option maxHeartbeats 40000000 in
theorem sg0_0 {p : Program} (l : Launch) {e : Env} {s : State} {m : MethodId} {args : Array Value} {below : List Frame} {meth : Method} {c : Code} {Z : State} {a0 : Array Value} (hw : ∀ d ∈ tables_1, d.before a0 Z = true) (hx : p.tables.exec = Jvm.exec) (hZ : Z.Warmed39 s.vm) (hby : c.code = code) (hml : c.maxLocals = 21) (hown : s.vm.findClass "com/example/bushtit/bushtit/net/ConnectionHeapIsOverdrawnPinLaw" = some m.cls) (hnm : meth.name = "law") (hret : meth.sig.returnType = (some .boolean)) (hlk : meth.locks = false) (q1 : Int64) (q2 : Int32) (q3 : Int64) (q4 : Int64) (q5 : Int64) (q6 : Int64) {h0 : Heap} {n0 : Nat} (Z0 : n0 ≤ h0.size) {T0 : State} {L0 : List Loc} (X0 : Stand p l e room_1 s m args below meth c T0 L0 0 0) (N0 : Fr n0 L0) (e0 : T0.heap = h0)  :
    own_Fin p.tables e below (own_End below s (own_L n0 (.int (own_f0 q1 q2 q3 q4 q5 q6))) 1 2) T0 (mkF m 0 #[.val (.long q1), .second, .val (.int q2), .val (.long q3), .second, .val (.long q4), .second, .val (.long q5), .second, .val (.long q6), .second, .unset, .unset, .unset, .unset, .unset, .unset, .unset, .unset, .unset, .unset] []) := by
  refine own_lloadN X0 hx (hb hby at_0) (pc' := 1) rfl rfl ?_
  refine own_ldc2Long X0 hx hZ hown (hw _ (List.mem_of_getElem? (i := 0) rfl)) (hb hby at_1) (pc' := 4) rfl ?_
  refine own_land X0 hx (hb hby at_4) (pc' := 5) rfl ?_
  refine own_lstore X0 hx (hb hby at_5) (pc' := 7) rfl (Ls' := #[.val (.long q1), .second, .val (.int q2), .val (.long q3), .second, .val (.long q4), .second, .val (.long q5), .second, .val (.long q6), .second, .val (.long (q1 &&& (9223372036854775807 : Int64))), .second, .unset, .unset, .unset, .unset, .unset, .unset, .unset, .unset]) rfl ?_
  refine own_lload X0 hx (hb hby at_7) (pc' := 9) rfl rfl ?_
  refine own_ldc2Long X0 hx hZ hown (hw _ (List.mem_of_getElem? (i := 1) rfl)) (hb hby at_9) (pc' := 12) rfl ?_
  refine own_ldiv X0 hx (hb hby at_12) (pc' := 13) rfl (by decide) ?_
  refine own_lstore X0 hx (hb hby at_13) (pc' := 15) rfl (Ls' := #[.val (.long q1), .second, .val (.int q2), .val (.long q3), .second, .val (.long q4), .second, .val (.long q5), .second, .val (.long q6), .second, .val (.long (q1 &&& (9223372036854775807 : Int64))), .second, .val (.long ((q1 &&& (9223372036854775807 : Int64)) / (2 : Int64))), .second, .unset, .unset, .unset, .unset, .unset, .unset]) rfl ?_
  refine own_iloadN X0 hx (hb hby at_15) (pc' := 16) rfl rfl ?_
  refine own_i2l X0 hx (hb hby at_16) (pc' := 17) rfl ?_
  refine own_ldc2Long X0 hx hZ hown (hw _ (List.mem_of_getElem? (i := 2) rfl)) (hb hby at_17) (pc' := 20) rfl ?_
  refine own_land X0 hx (hb hby at_20) (pc' := 21) rfl ?_
  refine own_lload X0 hx (hb hby at_21) (pc' := 23) rfl rfl ?_
  refine own_ldc2Long X0 hx hZ hown (hw _ (List.mem_of_getElem? (i := 3) rfl)) (hb hby at_23) (pc' := 26) rfl ?_
  refine own_ldiv X0 hx (hb hby at_26) (pc' := 27) rfl (by decide) ?_
  obtain ⟨_, _, ⟨T9, L9, k9, n9⟩, -, X9, ⟨Lc9, hQ9, l9, y9, z9⟩, st9⟩ := Jvm.LawKit.callS X0 hx (y := (⟨"java/lang/Math", "min", "(JJ)J"⟩ : MethodName)) hown (mvT hZ (hw _ (List.mem_of_getElem? (i := 4) rfl))) (mvT hZ (hw _ (List.mem_of_getElem? (i := 5) rfl))) (mvT hZ (hw _ (List.mem_of_getElem? (i := 6) rfl))) (mvT hZ (hw _ (List.mem_of_getElem? (i := 7) rfl))) (by decide) (backOf (W := 0) (rm1 l Z a0 hw [] ((q2.toInt64) &&& (2147483647 : Int64)) (((q1 &&& (9223372036854775807 : Int64)) / (2 : Int64)) / (8 : Int64)) h0 n0 Z0 ) hZ (hw _ (List.mem_of_getElem? (i := 7) rfl)) (hw _ (List.mem_of_getElem? (i := 6) rfl)) (by decide) (by decide)) (g := (mkF m 27 #[.val (.long q1), .second, .val (.int q2), .val (.long q3), .second, .val (.long q4), .second, .val (.long q5), .second, .val (.long q6), .second, .val (.long (q1 &&& (9223372036854775807 : Int64))), .second, .val (.long ((q1 &&& (9223372036854775807 : Int64)) / (2 : Int64))), .second, .unset, .unset, .unset, .unset, .unset, .unset] [(.long (((q1 &&& (9223372036854775807 : Int64)) / (2 : Int64)) / (8 : Int64))), (.long ((q2.toInt64) &&& (2147483647 : Int64)))])) rfl (by rw [hml]; rfl) (argsL := [(.long ((q2.toInt64) &&& (2147483647 : Int64))), (.long (((q1 &&& (9223372036854775807 : Int64)) / (2 : Int64)) / (8 : Int64)))]) (rest := []) (lenOf pd_0 rfl) rfl (by show 2 * 0 + _ ≤ _; exact Nat.le_of_eq rfl) (hb hby at_27) (fun _ _ => ⟨rfl, e0, (by decide : 0 + 0 ≤ _), (by decide : 0 + 0 ≤ _)⟩)
  dsimp only [Pt.U, Pt.locs, Pt.cells, Pt.slots] at X9 l9 y9 z9 st9 hQ9
  subst l9 y9 z9
  obtain ⟨rfl, N9q, e9'⟩ := hQ9
  have N9 := Fr.app N0 N9q
  refine own_st ?_ st9
  show own_Fin _ _ _ _ T9 (mkF m 30 #[.val (.long q1), .second, .val (.int q2), .val (.long q3), .second, .val (.long q4), .second, .val (.long q5), .second, .val (.long q6), .second, .val (.long (q1 &&& (9223372036854775807 : Int64))), .second, .val (.long ((q1 &&& (9223372036854775807 : Int64)) / (2 : Int64))), .second, .unset, .unset, .unset, .unset, .unset, .unset] [(.long (own_f1 ((q2.toInt64) &&& (2147483647 : Int64)) (((q1 &&& (9223372036854775807 : Int64)) / (2 : Int64)) / (8 : Int64))))])
  refine own_l2i X9 hx (hb hby at_30) (pc' := 31) rfl ?_
  refine own_istore X9 hx (hb hby at_31) (pc' := 33) rfl (Ls' := #[.val (.long q1), .second, .val (.int q2), .val (.long q3), .second, .val (.long q4), .second, .val (.long q5), .second, .val (.long q6), .second, .val (.long (q1 &&& (9223372036854775807 : Int64))), .second, .val (.long ((q1 &&& (9223372036854775807 : Int64)) / (2 : Int64))), .second, .val (.int ((own_f1 ((q2.toInt64) &&& (2147483647 : Int64)) (((q1 &&& (9223372036854775807 : Int64)) / (2 : Int64)) / (8 : Int64))).toInt32)), .unset, .unset, .unset, .unset, .unset]) rfl ?_
  obtain ⟨T10, h10, X10, e10, E10, A10, D10, -, st10⟩ := newO X9 hx hZ hown (hw _ (List.mem_of_getElem? (i := 8) rfl)) (hw _ (List.mem_of_getElem? (i := 9) rfl)) (hw _ (List.mem_of_getElem? (i := 10) rfl)) e9' (g := (mkF m 33 #[.val (.long q1), .second, .val (.int q2), .val (.long q3), .second, .val (.long q4), .second, .val (.long q5), .second, .val (.long q6), .second, .val (.long (q1 &&& (9223372036854775807 : Int64))), .second, .val (.long ((q1 &&& (9223372036854775807 : Int64)) / (2 : Int64))), .second, .val (.int ((own_f1 ((q2.toInt64) &&& (2147483647 : Int64)) (((q1 &&& (9223372036854775807 : Int64)) / (2 : Int64)) / (8 : Int64))).toInt32)), .unset, .unset, .unset, .unset, .unset] [])) rfl (hb hby at_33) (by decide) (by decide)
  obtain ⟨b10, g10⟩ : ∃ z, z = h0.size := ⟨_, rfl⟩
  rw [← g10] at A10 D10 st10
  have g_b10 : n0 ≤ b10 := Nat.le_trans Z0 (Nat.le_of_eq g10.symm)
  have F_b10_limit_10 : Fld Z h10 b10 "com/example/bushtit/bushtit/net/ConnectionHeap" "limit" "J" (.long (0 : Int64)) := D10 (Or.inr (hw _ (List.mem_of_getElem? (i := 20) rfl))) (ty := .long) (by decide)
  have F_b10_taken_10 : Fld Z h10 b10 "com/example/bushtit/bushtit/net/ConnectionHeap" "taken" "J" (.long (0 : Int64)) := D10 (Or.inl (hw _ (List.mem_of_getElem? (i := 27) rfl))) (ty := .long) (by decide)
  have sz10 : n0 ≤ h10.size := Nat.le_trans Z0 E10.1
  refine own_st ?_ st10
  show own_Fin _ _ _ _ T10 (mkF m 36 #[.val (.long q1), .second, .val (.int q2), .val (.long q3), .second, .val (.long q4), .second, .val (.long q5), .second, .val (.long q6), .second, .val (.long (q1 &&& (9223372036854775807 : Int64))), .second, .val (.long ((q1 &&& (9223372036854775807 : Int64)) / (2 : Int64))), .second, .val (.int ((own_f1 ((q2.toInt64) &&& (2147483647 : Int64)) (((q1 &&& (9223372036854775807 : Int64)) / (2 : Int64)) / (8 : Int64))).toInt32)), .unset, .unset, .unset, .unset, .unset] [(.ref b10)])
  refine own_dup X10 hx (hb hby at_36) (pc' := 37) rfl rfl ?_
  refine own_lload X10 hx (hb hby at_37) (pc' := 39) rfl rfl ?_
  refine own_iload X10 hx (hb hby at_39) (pc' := 41) rfl rfl ?_
  obtain ⟨_, _, ⟨T11, L11, k11, n11⟩, -, X11, ⟨Lc11, hQ11, l11, y11, z11⟩, st11⟩ := X10.specialBack hx (y := (⟨"com/example/bushtit/bushtit/net/ConnectionHeap", "<init>", "(JI)V"⟩ : MethodName)) rfl hown (mvT hZ (hw _ (List.mem_of_getElem? (i := 11) rfl))) (mvT hZ (hw _ (List.mem_of_getElem? (i := 12) rfl))) (mvT hZ (hw _ (List.mem_of_getElem? (i := 13) rfl))) (by decide) (backOf (W := 1) (rm2 l Z a0 hw [] b10 (q1 &&& (9223372036854775807 : Int64)) ((own_f1 ((q2.toInt64) &&& (2147483647 : Int64)) (((q1 &&& (9223372036854775807 : Int64)) / (2 : Int64)) / (8 : Int64))).toInt32) (0 : Int64) (0 : Int64) h10 n0 sz10 A10 g_b10 F_b10_limit_10 F_b10_taken_10 (own_pre q1 q2)) hZ (hw _ (List.mem_of_getElem? (i := 13) rfl)) (hw _ (List.mem_of_getElem? (i := 10) rfl)) (by decide) (by decide)) (g := (mkF m 41 #[.val (.long q1), .second, .val (.int q2), .val (.long q3), .second, .val (.long q4), .second, .val (.long q5), .second, .val (.long q6), .second, .val (.long (q1 &&& (9223372036854775807 : Int64))), .second, .val (.long ((q1 &&& (9223372036854775807 : Int64)) / (2 : Int64))), .second, .val (.int ((own_f1 ((q2.toInt64) &&& (2147483647 : Int64)) (((q1 &&& (9223372036854775807 : Int64)) / (2 : Int64)) / (8 : Int64))).toInt32)), .unset, .unset, .unset, .unset, .unset] [(.int ((own_f1 ((q2.toInt64) &&& (2147483647 : Int64)) (((q1 &&& (9223372036854775807 : Int64)) / (2 : Int64)) / (8 : Int64))).toInt32)), (.long (q1 &&& (9223372036854775807 : Int64))), (.ref b10), (.ref b10)])) rfl (by rw [hml]; rfl) (Steps.refl _) (a := b10) (argsL := [(.long (q1 &&& (9223372036854775807 : Int64))), (.int ((own_f1 ((q2.toInt64) &&& (2147483647 : Int64)) (((q1 &&& (9223372036854775807 : Int64)) / (2 : Int64)) / (8 : Int64))).toInt32))]) (rest := [(.ref b10)]) (lenOf pd_1 rfl) rfl (by show 2 * 0 + _ ≤ _; exact Nat.le_of_eq rfl) (hb hby at_41) (fun _ _ => ⟨rfl, e10, (by decide : 1 + 0 ≤ _), (by decide : 2 + 0 ≤ _)⟩)
  dsimp only [Pt.U, Pt.locs, Pt.cells, Pt.slots] at X11 l11 y11 z11 st11 hQ11
  subst l11 y11 z11
  obtain ⟨rfl, N11q, K11', E_b10_11, F_b10_limit_11, F_b10_taken_11⟩ := hQ11
  have sz11 : n0 ≤ T11.heap.size := Nat.le_trans sz10 K11'.1
  have N11 := Fr.app N9 N11q
  refine own_st ?_ (fun t k => st11.trans k)
  show own_Fin _ _ _ _ T11 (mkF m 44 #[.val (.long q1), .second, .val (.int q2), .val (.long q3), .second, .val (.long q4), .second, .val (.long q5), .second, .val (.long q6), .second, .val (.long (q1 &&& (9223372036854775807 : Int64))), .second, .val (.long ((q1 &&& (9223372036854775807 : Int64)) / (2 : Int64))), .second, .val (.int ((own_f1 ((q2.toInt64) &&& (2147483647 : Int64)) (((q1 &&& (9223372036854775807 : Int64)) / (2 : Int64)) / (8 : Int64))).toInt32)), .unset, .unset, .unset, .unset, .unset] [(.ref b10)])
  refine own_astore X11 hx (hb hby at_44) (pc' := 46) rfl (Ls' := #[.val (.long q1), .second, .val (.int q2), .val (.long q3), .second, .val (.long q4), .second, .val (.long q5), .second, .val (.long q6), .second, .val (.long (q1 &&& (9223372036854775807 : Int64))), .second, .val (.long ((q1 &&& (9223372036854775807 : Int64)) / (2 : Int64))), .second, .val (.int ((own_f1 ((q2.toInt64) &&& (2147483647 : Int64)) (((q1 &&& (9223372036854775807 : Int64)) / (2 : Int64)) / (8 : Int64))).toInt32)), .val (.ref b10), .unset, .unset, .unset, .unset]) rfl rfl ?_
  refine own_aload X11 hx (hb hby at_46) (pc' := 48) rfl rfl rfl ?_
  obtain ⟨cq12, kq12, q12a, q12b, q12c⟩ := isOf hZ rfl E_b10_11
  obtain ⟨_, _, ⟨T12, L12, k12, n12⟩, -, X12, ⟨Lc12, hQ12, l12, y12, z12⟩, st12⟩ := X11.virtualBack hx (y := (⟨"com/example/bushtit/bushtit/net/ConnectionHeap", "isOverdrawn", "()Z"⟩ : MethodName)) (z := (⟨"com/example/bushtit/bushtit/net/ConnectionHeap", "isOverdrawn", "()Z"⟩ : MethodName)) hown (mvT hZ (hw _ (List.mem_of_getElem? (i := 21) rfl))) (mvT hZ (hw _ (List.mem_of_getElem? (i := 22) rfl))) (notFace_of_selects (args := #[]) (mvT hZ (hw _ (List.mem_of_getElem? (i := 24) rfl)))) (mvT hZ (hw _ (List.mem_of_getElem? (i := 24) rfl))) (mvT hZ (hw _ (List.mem_of_getElem? (i := 23) rfl))) (by decide) (backOf (W := 0) (rm4 l Z a0 hw [] b10 ((q1 &&& (9223372036854775807 : Int64)) / (2 : Int64)) (0 : Int64) T11.heap n0 sz11 E_b10_11 F_b10_limit_11 F_b10_taken_11) hZ (hw _ (List.mem_of_getElem? (i := 25) rfl)) (hw _ (List.mem_of_getElem? (i := 10) rfl)) (by decide) (by decide)) q12a q12c (g := (mkF m 48 #[.val (.long q1), .second, .val (.int q2), .val (.long q3), .second, .val (.long q4), .second, .val (.long q5), .second, .val (.long q6), .second, .val (.long (q1 &&& (9223372036854775807 : Int64))), .second, .val (.long ((q1 &&& (9223372036854775807 : Int64)) / (2 : Int64))), .second, .val (.int ((own_f1 ((q2.toInt64) &&& (2147483647 : Int64)) (((q1 &&& (9223372036854775807 : Int64)) / (2 : Int64)) / (8 : Int64))).toInt32)), .val (.ref b10), .unset, .unset, .unset, .unset] [(.ref b10)])) rfl (by rw [hml]; rfl) (Steps.refl _) (argsL := []) (rest := []) (lenOf pd_2 rfl) rfl (by show 2 * 0 + _ ≤ _; exact Nat.le_of_eq rfl) (hb hby at_48) (fun _ _ => ⟨rfl, rfl, (by decide : 1 + 0 ≤ _), (by decide : 2 + 0 ≤ _)⟩)
  dsimp only [Pt.U, Pt.locs, Pt.cells, Pt.slots] at X12 l12 y12 z12 st12 hQ12
  subst l12 y12 z12
  obtain ⟨rfl, N12q, e12'⟩ := hQ12
  have N12 := Fr.app N11 N12q
  refine own_st ?_ (fun t k => st12.trans k)
  show own_Fin _ _ _ _ T12 (mkF m 51 #[.val (.long q1), .second, .val (.int q2), .val (.long q3), .second, .val (.long q4), .second, .val (.long q5), .second, .val (.long q6), .second, .val (.long (q1 &&& (9223372036854775807 : Int64))), .second, .val (.long ((q1 &&& (9223372036854775807 : Int64)) / (2 : Int64))), .second, .val (.int ((own_f1 ((q2.toInt64) &&& (2147483647 : Int64)) (((q1 &&& (9223372036854775807 : Int64)) / (2 : Int64)) / (8 : Int64))).toInt32)), .val (.ref b10), .unset, .unset, .unset, .unset] [(.int (own_f4 ((q1 &&& (9223372036854775807 : Int64)) / (2 : Int64)) (0 : Int64)))])
  refine own_istore X12 hx (hb hby at_51) (pc' := 53) rfl (Ls' := #[.val (.long q1), .second, .val (.int q2), .val (.long q3), .second, .val (.long q4), .second, .val (.long q5), .second, .val (.long q6), .second, .val (.long (q1 &&& (9223372036854775807 : Int64))), .second, .val (.long ((q1 &&& (9223372036854775807 : Int64)) / (2 : Int64))), .second, .val (.int ((own_f1 ((q2.toInt64) &&& (2147483647 : Int64)) (((q1 &&& (9223372036854775807 : Int64)) / (2 : Int64)) / (8 : Int64))).toInt32)), .val (.ref b10), .val (.int (own_f4 ((q1 &&& (9223372036854775807 : Int64)) / (2 : Int64)) (0 : Int64))), .unset, .unset, .unset]) rfl ?_
  refine own_aload X12 hx (hb hby at_53) (pc' := 55) rfl rfl rfl ?_
  refine own_lloadN X12 hx (hb hby at_55) (pc' := 56) rfl rfl ?_
  refine own_lload X12 hx (hb hby at_56) (pc' := 58) rfl rfl ?_
  obtain ⟨cq13, kq13, q13a, q13b, q13c⟩ := isOf hZ e12' E_b10_11
  obtain ⟨_, _, ⟨T13, L13, k13, n13⟩, -, X13, ⟨Lc13, hQ13, l13, y13, z13⟩, st13⟩ := X12.virtualBack hx (y := (⟨"com/example/bushtit/bushtit/net/ConnectionHeap", "change", "(JJ)V"⟩ : MethodName)) (z := (⟨"com/example/bushtit/bushtit/net/ConnectionHeap", "change", "(JJ)V"⟩ : MethodName)) hown (mvT hZ (hw _ (List.mem_of_getElem? (i := 28) rfl))) (mvT hZ (hw _ (List.mem_of_getElem? (i := 29) rfl))) (notFace_of_selects (args := #[]) (mvT hZ (hw _ (List.mem_of_getElem? (i := 31) rfl)))) (mvT hZ (hw _ (List.mem_of_getElem? (i := 31) rfl))) (mvT hZ (hw _ (List.mem_of_getElem? (i := 30) rfl))) (by decide) (backOf (W := 0) (rm5 l Z a0 hw [] b10 q3 q4 ((q1 &&& (9223372036854775807 : Int64)) / (2 : Int64)) (0 : Int64) T11.heap n0 sz11 E_b10_11 g_b10 F_b10_limit_11 F_b10_taken_11) hZ (hw _ (List.mem_of_getElem? (i := 32) rfl)) (hw _ (List.mem_of_getElem? (i := 10) rfl)) (by decide) (by decide)) q13a q13c (g := (mkF m 58 #[.val (.long q1), .second, .val (.int q2), .val (.long q3), .second, .val (.long q4), .second, .val (.long q5), .second, .val (.long q6), .second, .val (.long (q1 &&& (9223372036854775807 : Int64))), .second, .val (.long ((q1 &&& (9223372036854775807 : Int64)) / (2 : Int64))), .second, .val (.int ((own_f1 ((q2.toInt64) &&& (2147483647 : Int64)) (((q1 &&& (9223372036854775807 : Int64)) / (2 : Int64)) / (8 : Int64))).toInt32)), .val (.ref b10), .val (.int (own_f4 ((q1 &&& (9223372036854775807 : Int64)) / (2 : Int64)) (0 : Int64))), .unset, .unset, .unset] [(.long q4), (.long q3), (.ref b10)])) rfl (by rw [hml]; rfl) (Steps.refl _) (argsL := [(.long q3), (.long q4)]) (rest := []) (lenOf pd_3 rfl) rfl (by show 2 * 0 + _ ≤ _; exact Nat.le_of_eq rfl) (hb hby at_58) (fun _ _ => ⟨rfl, e12', (by decide : 1 + 0 ≤ _), (by decide : 2 + 0 ≤ _)⟩)
  dsimp only [Pt.U, Pt.locs, Pt.cells, Pt.slots] at X13 l13 y13 z13 st13 hQ13
  subst l13 y13 z13
  obtain ⟨rfl, N13q, K13', E_b10_13, F_b10_limit_13, F_b10_taken_13⟩ := hQ13
  have sz13 : n0 ≤ T13.heap.size := Nat.le_trans sz11 K13'.1
  have N13 := Fr.app N12 N13q
  refine own_st ?_ (fun t k => st13.trans k)
  show own_Fin _ _ _ _ T13 (mkF m 61 #[.val (.long q1), .second, .val (.int q2), .val (.long q3), .second, .val (.long q4), .second, .val (.long q5), .second, .val (.long q6), .second, .val (.long (q1 &&& (9223372036854775807 : Int64))), .second, .val (.long ((q1 &&& (9223372036854775807 : Int64)) / (2 : Int64))), .second, .val (.int ((own_f1 ((q2.toInt64) &&& (2147483647 : Int64)) (((q1 &&& (9223372036854775807 : Int64)) / (2 : Int64)) / (8 : Int64))).toInt32)), .val (.ref b10), .val (.int (own_f4 ((q1 &&& (9223372036854775807 : Int64)) / (2 : Int64)) (0 : Int64))), .unset, .unset, .unset] [])
  refine own_aload X13 hx (hb hby at_61) (pc' := 63) rfl rfl rfl ?_
  refine own_lload X13 hx (hb hby at_63) (pc' := 65) rfl rfl ?_
  refine own_lload X13 hx (hb hby at_65) (pc' := 67) rfl rfl ?_
  obtain ⟨cq14, kq14, q14a, q14b, q14c⟩ := isOf hZ rfl E_b10_13
  obtain ⟨_, _, ⟨T14, L14, k14, n14⟩, -, X14, ⟨Lc14, hQ14, l14, y14, z14⟩, st14⟩ := X13.virtualBack hx (y := (⟨"com/example/bushtit/bushtit/net/ConnectionHeap", "change", "(JJ)V"⟩ : MethodName)) (z := (⟨"com/example/bushtit/bushtit/net/ConnectionHeap", "change", "(JJ)V"⟩ : MethodName)) hown (mvT hZ (hw _ (List.mem_of_getElem? (i := 28) rfl))) (mvT hZ (hw _ (List.mem_of_getElem? (i := 29) rfl))) (notFace_of_selects (args := #[]) (mvT hZ (hw _ (List.mem_of_getElem? (i := 31) rfl)))) (mvT hZ (hw _ (List.mem_of_getElem? (i := 31) rfl))) (mvT hZ (hw _ (List.mem_of_getElem? (i := 30) rfl))) (by decide) (backOf (W := 0) (rm5 l Z a0 hw [] b10 q5 q6 ((q1 &&& (9223372036854775807 : Int64)) / (2 : Int64)) ((0 : Int64) + (q4 - q3)) T13.heap n0 sz13 E_b10_13 g_b10 F_b10_limit_13 F_b10_taken_13) hZ (hw _ (List.mem_of_getElem? (i := 32) rfl)) (hw _ (List.mem_of_getElem? (i := 10) rfl)) (by decide) (by decide)) q14a q14c (g := (mkF m 67 #[.val (.long q1), .second, .val (.int q2), .val (.long q3), .second, .val (.long q4), .second, .val (.long q5), .second, .val (.long q6), .second, .val (.long (q1 &&& (9223372036854775807 : Int64))), .second, .val (.long ((q1 &&& (9223372036854775807 : Int64)) / (2 : Int64))), .second, .val (.int ((own_f1 ((q2.toInt64) &&& (2147483647 : Int64)) (((q1 &&& (9223372036854775807 : Int64)) / (2 : Int64)) / (8 : Int64))).toInt32)), .val (.ref b10), .val (.int (own_f4 ((q1 &&& (9223372036854775807 : Int64)) / (2 : Int64)) (0 : Int64))), .unset, .unset, .unset] [(.long q6), (.long q5), (.ref b10)])) rfl (by rw [hml]; rfl) (Steps.refl _) (argsL := [(.long q5), (.long q6)]) (rest := []) (lenOf pd_3 rfl) rfl (by show 2 * 0 + _ ≤ _; exact Nat.le_of_eq rfl) (hb hby at_67) (fun _ _ => ⟨rfl, rfl, (by decide : 1 + 0 ≤ _), (by decide : 2 + 0 ≤ _)⟩)
  dsimp only [Pt.U, Pt.locs, Pt.cells, Pt.slots] at X14 l14 y14 z14 st14 hQ14
  subst l14 y14 z14
  obtain ⟨rfl, N14q, K14', E_b10_14, F_b10_limit_14, F_b10_taken_14⟩ := hQ14
  have sz14 : n0 ≤ T14.heap.size := Nat.le_trans sz13 K14'.1
  have N14 := Fr.app N13 N14q
  refine own_st ?_ (fun t k => st14.trans k)
  show own_Fin _ _ _ _ T14 (mkF m 70 #[.val (.long q1), .second, .val (.int q2), .val (.long q3), .second, .val (.long q4), .second, .val (.long q5), .second, .val (.long q6), .second, .val (.long (q1 &&& (9223372036854775807 : Int64))), .second, .val (.long ((q1 &&& (9223372036854775807 : Int64)) / (2 : Int64))), .second, .val (.int ((own_f1 ((q2.toInt64) &&& (2147483647 : Int64)) (((q1 &&& (9223372036854775807 : Int64)) / (2 : Int64)) / (8 : Int64))).toInt32)), .val (.ref b10), .val (.int (own_f4 ((q1 &&& (9223372036854775807 : Int64)) / (2 : Int64)) (0 : Int64))), .unset, .unset, .unset] [])
  refine own_lload X14 hx (hb hby at_70) (pc' := 72) rfl rfl ?_
  refine own_lloadN X14 hx (hb hby at_72) (pc' := 73) rfl rfl ?_
  refine own_lsub X14 hx (hb hby at_73) (pc' := 74) rfl ?_
  refine own_lload X14 hx (hb hby at_74) (pc' := 76) rfl rfl ?_
  refine own_lload X14 hx (hb hby at_76) (pc' := 78) rfl rfl ?_
  refine own_lsub X14 hx (hb hby at_78) (pc' := 79) rfl ?_
  refine own_ladd X14 hx (hb hby at_79) (pc' := 80) rfl ?_
  refine own_lstore X14 hx (hb hby at_80) (pc' := 82) rfl (Ls' := #[.val (.long q1), .second, .val (.int q2), .val (.long q3), .second, .val (.long q4), .second, .val (.long q5), .second, .val (.long q6), .second, .val (.long (q1 &&& (9223372036854775807 : Int64))), .second, .val (.long ((q1 &&& (9223372036854775807 : Int64)) / (2 : Int64))), .second, .val (.int ((own_f1 ((q2.toInt64) &&& (2147483647 : Int64)) (((q1 &&& (9223372036854775807 : Int64)) / (2 : Int64)) / (8 : Int64))).toInt32)), .val (.ref b10), .val (.int (own_f4 ((q1 &&& (9223372036854775807 : Int64)) / (2 : Int64)) (0 : Int64))), .val (.long ((q4 - q3) + (q6 - q5))), .second, .unset]) rfl ?_
  refine own_lload X14 hx (hb hby at_82) (pc' := 84) rfl rfl ?_
  refine own_lload X14 hx (hb hby at_84) (pc' := 86) rfl rfl ?_
  refine own_lcmp X14 hx (hb hby at_86) (pc' := 87) rfl ?_
  by_cases hc15 : ((q1 &&& (9223372036854775807 : Int64)) / (2 : Int64)) < ((q4 - q3) + (q6 - q5))
  · refine own_ifNo X14 hx (hb hby at_87) (pc' := 90) rfl ((if0 _ _).trans (tlt (own_lc_gt.mpr hc15)).2.2.2) ?_
    refine own_iconst X14 hx (hb hby at_90) (pc' := 91) rfl (v := (1 : Int32)) rfl ?_
    refine own_goto X14 hx (hb hby at_91) (pc' := 95) (by decide) (by decide) ?_
    refine own_istore X14 hx (hb hby at_95) (pc' := 97) rfl (Ls' := #[.val (.long q1), .second, .val (.int q2), .val (.long q3), .second, .val (.long q4), .second, .val (.long q5), .second, .val (.long q6), .second, .val (.long (q1 &&& (9223372036854775807 : Int64))), .second, .val (.long ((q1 &&& (9223372036854775807 : Int64)) / (2 : Int64))), .second, .val (.int ((own_f1 ((q2.toInt64) &&& (2147483647 : Int64)) (((q1 &&& (9223372036854775807 : Int64)) / (2 : Int64)) / (8 : Int64))).toInt32)), .val (.ref b10), .val (.int (own_f4 ((q1 &&& (9223372036854775807 : Int64)) / (2 : Int64)) (0 : Int64))), .val (.long ((q4 - q3) + (q6 - q5))), .second, .val (.int (1 : Int32))]) rfl ?_
    refine own_iload X14 hx (hb hby at_97) (pc' := 99) rfl rfl ?_
    by_cases hc16 : (own_f4 ((q1 &&& (9223372036854775807 : Int64)) / (2 : Int64)) (0 : Int64)) = (0 : Int32)
    · refine own_ifNo X14 hx (hb hby at_99) (pc' := 102) rfl ((if0 _ _).trans (teq hc16).2) ?_
      refine own_aload X14 hx (hb hby at_102) (pc' := 104) rfl rfl rfl ?_
      obtain ⟨cq17, kq17, q17a, q17b, q17c⟩ := isOf hZ rfl E_b10_14
      obtain ⟨_, _, ⟨T17, L17, k17, n17⟩, -, X17, ⟨Lc17, hQ17, l17, y17, z17⟩, st17⟩ := X14.virtualBack hx (y := (⟨"com/example/bushtit/bushtit/net/ConnectionHeap", "isOverdrawn", "()Z"⟩ : MethodName)) (z := (⟨"com/example/bushtit/bushtit/net/ConnectionHeap", "isOverdrawn", "()Z"⟩ : MethodName)) hown (mvT hZ (hw _ (List.mem_of_getElem? (i := 21) rfl))) (mvT hZ (hw _ (List.mem_of_getElem? (i := 22) rfl))) (notFace_of_selects (args := #[]) (mvT hZ (hw _ (List.mem_of_getElem? (i := 24) rfl)))) (mvT hZ (hw _ (List.mem_of_getElem? (i := 24) rfl))) (mvT hZ (hw _ (List.mem_of_getElem? (i := 23) rfl))) (by decide) (backOf (W := 0) (rm4 l Z a0 hw [] b10 ((q1 &&& (9223372036854775807 : Int64)) / (2 : Int64)) (((0 : Int64) + (q4 - q3)) + (q6 - q5)) T14.heap n0 sz14 E_b10_14 F_b10_limit_14 F_b10_taken_14) hZ (hw _ (List.mem_of_getElem? (i := 25) rfl)) (hw _ (List.mem_of_getElem? (i := 10) rfl)) (by decide) (by decide)) q17a q17c (g := (mkF m 104 #[.val (.long q1), .second, .val (.int q2), .val (.long q3), .second, .val (.long q4), .second, .val (.long q5), .second, .val (.long q6), .second, .val (.long (q1 &&& (9223372036854775807 : Int64))), .second, .val (.long ((q1 &&& (9223372036854775807 : Int64)) / (2 : Int64))), .second, .val (.int ((own_f1 ((q2.toInt64) &&& (2147483647 : Int64)) (((q1 &&& (9223372036854775807 : Int64)) / (2 : Int64)) / (8 : Int64))).toInt32)), .val (.ref b10), .val (.int (own_f4 ((q1 &&& (9223372036854775807 : Int64)) / (2 : Int64)) (0 : Int64))), .val (.long ((q4 - q3) + (q6 - q5))), .second, .val (.int (1 : Int32))] [(.ref b10)])) rfl (by rw [hml]; rfl) (Steps.refl _) (argsL := []) (rest := []) (lenOf pd_2 rfl) rfl (by show 2 * 0 + _ ≤ _; exact Nat.le_of_eq rfl) (hb hby at_104) (fun _ _ => ⟨rfl, rfl, (by decide : 1 + 0 ≤ _), (by decide : 2 + 0 ≤ _)⟩)
      dsimp only [Pt.U, Pt.locs, Pt.cells, Pt.slots] at X17 l17 y17 z17 st17 hQ17
      subst l17 y17 z17
      obtain ⟨rfl, N17q, e17'⟩ := hQ17
      have N17 := Fr.app N14 N17q
      refine own_st ?_ (fun t k => st17.trans k)
      show own_Fin _ _ _ _ T17 (mkF m 107 #[.val (.long q1), .second, .val (.int q2), .val (.long q3), .second, .val (.long q4), .second, .val (.long q5), .second, .val (.long q6), .second, .val (.long (q1 &&& (9223372036854775807 : Int64))), .second, .val (.long ((q1 &&& (9223372036854775807 : Int64)) / (2 : Int64))), .second, .val (.int ((own_f1 ((q2.toInt64) &&& (2147483647 : Int64)) (((q1 &&& (9223372036854775807 : Int64)) / (2 : Int64)) / (8 : Int64))).toInt32)), .val (.ref b10), .val (.int (own_f4 ((q1 &&& (9223372036854775807 : Int64)) / (2 : Int64)) (0 : Int64))), .val (.long ((q4 - q3) + (q6 - q5))), .second, .val (.int (1 : Int32))] [(.int (own_f4 ((q1 &&& (9223372036854775807 : Int64)) / (2 : Int64)) (((0 : Int64) + (q4 - q3)) + (q6 - q5))))])
      refine own_iload X17 hx (hb hby at_107) (pc' := 109) rfl rfl ?_
      by_cases hc18 : (own_f4 ((q1 &&& (9223372036854775807 : Int64)) / (2 : Int64)) (((0 : Int64) + (q4 - q3)) + (q6 - q5))) = (1 : Int32)
      · refine own_icmpNo X17 hx (hb hby at_109) (pc' := 112) rfl (teq hc18).2 ?_
        refine own_iconst X17 hx (hb hby at_112) (pc' := 113) rfl (v := (1 : Int32)) rfl ?_
        refine own_goto X17 hx (hb hby at_113) (pc' := 117) (by decide) (by decide) ?_
        refine own_retN X17 hx (t := .boolean) hret (by simp) hlk (hb hby at_117) (by decide) (by decide) ?_
        exact ⟨(congrArg some (congrArg Value.int (show _ = (own_f0 q1 q2 q3 q4 q5 q6) from by rw [own_f0, if_pos hc15, if_pos hc16, if_pos hc18]; rfl))), N17⟩
      · refine own_icmpYes X17 hx (hb hby at_109) (feq hc18).2 (pc' := 116) (by decide) (by decide) ?_
        refine own_iconst X17 hx (hb hby at_116) (pc' := 117) rfl (v := (0 : Int32)) rfl ?_
        refine own_retN X17 hx (t := .boolean) hret (by simp) hlk (hb hby at_117) (by decide) (by decide) ?_
        exact ⟨(congrArg some (congrArg Value.int (show _ = (own_f0 q1 q2 q3 q4 q5 q6) from by rw [own_f0, if_pos hc15, if_pos hc16, if_neg hc18]; rfl))), N17⟩
    · refine own_ifYes X14 hx (hb hby at_99) ((if0 _ _).trans (feq hc16).2) (pc' := 116) (by decide) (by decide) ?_
      refine own_iconst X14 hx (hb hby at_116) (pc' := 117) rfl (v := (0 : Int32)) rfl ?_
      refine own_retN X14 hx (t := .boolean) hret (by simp) hlk (hb hby at_117) (by decide) (by decide) ?_
      exact ⟨(congrArg some (congrArg Value.int (show _ = (own_f0 q1 q2 q3 q4 q5 q6) from by rw [own_f0, if_pos hc15, if_neg hc16]; rfl))), N14⟩
  · refine own_ifYes X14 hx (hb hby at_87) ((if0 _ _).trans (flt (mt own_lc_gt.mp hc15)).2.2.2) (pc' := 94) (by decide) (by decide) ?_
    refine own_iconst X14 hx (hb hby at_94) (pc' := 95) rfl (v := (0 : Int32)) rfl ?_
    refine own_istore X14 hx (hb hby at_95) (pc' := 97) rfl (Ls' := #[.val (.long q1), .second, .val (.int q2), .val (.long q3), .second, .val (.long q4), .second, .val (.long q5), .second, .val (.long q6), .second, .val (.long (q1 &&& (9223372036854775807 : Int64))), .second, .val (.long ((q1 &&& (9223372036854775807 : Int64)) / (2 : Int64))), .second, .val (.int ((own_f1 ((q2.toInt64) &&& (2147483647 : Int64)) (((q1 &&& (9223372036854775807 : Int64)) / (2 : Int64)) / (8 : Int64))).toInt32)), .val (.ref b10), .val (.int (own_f4 ((q1 &&& (9223372036854775807 : Int64)) / (2 : Int64)) (0 : Int64))), .val (.long ((q4 - q3) + (q6 - q5))), .second, .val (.int (0 : Int32))]) rfl ?_
    refine own_iload X14 hx (hb hby at_97) (pc' := 99) rfl rfl ?_
    by_cases hc19 : (own_f4 ((q1 &&& (9223372036854775807 : Int64)) / (2 : Int64)) (0 : Int64)) = (0 : Int32)
    · refine own_ifNo X14 hx (hb hby at_99) (pc' := 102) rfl ((if0 _ _).trans (teq hc19).2) ?_
      refine own_aload X14 hx (hb hby at_102) (pc' := 104) rfl rfl rfl ?_
      obtain ⟨cq20, kq20, q20a, q20b, q20c⟩ := isOf hZ rfl E_b10_14
      obtain ⟨_, _, ⟨T20, L20, k20, n20⟩, -, X20, ⟨Lc20, hQ20, l20, y20, z20⟩, st20⟩ := X14.virtualBack hx (y := (⟨"com/example/bushtit/bushtit/net/ConnectionHeap", "isOverdrawn", "()Z"⟩ : MethodName)) (z := (⟨"com/example/bushtit/bushtit/net/ConnectionHeap", "isOverdrawn", "()Z"⟩ : MethodName)) hown (mvT hZ (hw _ (List.mem_of_getElem? (i := 21) rfl))) (mvT hZ (hw _ (List.mem_of_getElem? (i := 22) rfl))) (notFace_of_selects (args := #[]) (mvT hZ (hw _ (List.mem_of_getElem? (i := 24) rfl)))) (mvT hZ (hw _ (List.mem_of_getElem? (i := 24) rfl))) (mvT hZ (hw _ (List.mem_of_getElem? (i := 23) rfl))) (by decide) (backOf (W := 0) (rm4 l Z a0 hw [] b10 ((q1 &&& (9223372036854775807 : Int64)) / (2 : Int64)) (((0 : Int64) + (q4 - q3)) + (q6 - q5)) T14.heap n0 sz14 E_b10_14 F_b10_limit_14 F_b10_taken_14) hZ (hw _ (List.mem_of_getElem? (i := 25) rfl)) (hw _ (List.mem_of_getElem? (i := 10) rfl)) (by decide) (by decide)) q20a q20c (g := (mkF m 104 #[.val (.long q1), .second, .val (.int q2), .val (.long q3), .second, .val (.long q4), .second, .val (.long q5), .second, .val (.long q6), .second, .val (.long (q1 &&& (9223372036854775807 : Int64))), .second, .val (.long ((q1 &&& (9223372036854775807 : Int64)) / (2 : Int64))), .second, .val (.int ((own_f1 ((q2.toInt64) &&& (2147483647 : Int64)) (((q1 &&& (9223372036854775807 : Int64)) / (2 : Int64)) / (8 : Int64))).toInt32)), .val (.ref b10), .val (.int (own_f4 ((q1 &&& (9223372036854775807 : Int64)) / (2 : Int64)) (0 : Int64))), .val (.long ((q4 - q3) + (q6 - q5))), .second, .val (.int (0 : Int32))] [(.ref b10)])) rfl (by rw [hml]; rfl) (Steps.refl _) (argsL := []) (rest := []) (lenOf pd_2 rfl) rfl (by show 2 * 0 + _ ≤ _; exact Nat.le_of_eq rfl) (hb hby at_104) (fun _ _ => ⟨rfl, rfl, (by decide : 1 + 0 ≤ _), (by decide : 2 + 0 ≤ _)⟩)
      dsimp only [Pt.U, Pt.locs, Pt.cells, Pt.slots] at X20 l20 y20 z20 st20 hQ20
      subst l20 y20 z20
      obtain ⟨rfl, N20q, e20'⟩ := hQ20
      have N20 := Fr.app N14 N20q
      refine own_st ?_ (fun t k => st20.trans k)
      show own_Fin _ _ _ _ T20 (mkF m 107 #[.val (.long q1), .second, .val (.int q2), .val (.long q3), .second, .val (.long q4), .second, .val (.long q5), .second, .val (.long q6), .second, .val (.long (q1 &&& (9223372036854775807 : Int64))), .second, .val (.long ((q1 &&& (9223372036854775807 : Int64)) / (2 : Int64))), .second, .val (.int ((own_f1 ((q2.toInt64) &&& (2147483647 : Int64)) (((q1 &&& (9223372036854775807 : Int64)) / (2 : Int64)) / (8 : Int64))).toInt32)), .val (.ref b10), .val (.int (own_f4 ((q1 &&& (9223372036854775807 : Int64)) / (2 : Int64)) (0 : Int64))), .val (.long ((q4 - q3) + (q6 - q5))), .second, .val (.int (0 : Int32))] [(.int (own_f4 ((q1 &&& (9223372036854775807 : Int64)) / (2 : Int64)) (((0 : Int64) + (q4 - q3)) + (q6 - q5))))])
      refine own_iload X20 hx (hb hby at_107) (pc' := 109) rfl rfl ?_
      by_cases hc21 : (own_f4 ((q1 &&& (9223372036854775807 : Int64)) / (2 : Int64)) (((0 : Int64) + (q4 - q3)) + (q6 - q5))) = (0 : Int32)
      · refine own_icmpNo X20 hx (hb hby at_109) (pc' := 112) rfl (teq hc21).2 ?_
        refine own_iconst X20 hx (hb hby at_112) (pc' := 113) rfl (v := (1 : Int32)) rfl ?_
        refine own_goto X20 hx (hb hby at_113) (pc' := 117) (by decide) (by decide) ?_
        refine own_retN X20 hx (t := .boolean) hret (by simp) hlk (hb hby at_117) (by decide) (by decide) ?_
        exact ⟨(congrArg some (congrArg Value.int (show _ = (own_f0 q1 q2 q3 q4 q5 q6) from by rw [own_f0, if_neg hc15, if_pos hc19, if_pos hc21]; rfl))), N20⟩
      · refine own_icmpYes X20 hx (hb hby at_109) (feq hc21).2 (pc' := 116) (by decide) (by decide) ?_
        refine own_iconst X20 hx (hb hby at_116) (pc' := 117) rfl (v := (0 : Int32)) rfl ?_
        refine own_retN X20 hx (t := .boolean) hret (by simp) hlk (hb hby at_117) (by decide) (by decide) ?_
        exact ⟨(congrArg some (congrArg Value.int (show _ = (own_f0 q1 q2 q3 q4 q5 q6) from by rw [own_f0, if_neg hc15, if_pos hc19, if_neg hc21]; rfl))), N20⟩
    · refine own_ifYes X14 hx (hb hby at_99) ((if0 _ _).trans (feq hc19).2) (pc' := 116) (by decide) (by decide) ?_
      refine own_iconst X14 hx (hb hby at_116) (pc' := 117) rfl (v := (0 : Int32)) rfl ?_
      refine own_retN X14 hx (t := .boolean) hret (by simp) hlk (hb hby at_117) (by decide) (by decide) ?_
      exact ⟨(congrArg some (congrArg Value.int (show _ = (own_f0 q1 q2 q3 q4 q5 q6) from by rw [own_f0, if_neg hc15, if_neg hc19]; rfl))), N14⟩
theorem ef_0 (m : MethodId) (q1 : Int64) (q2 : Int32) (q3 : Int64) (q4 : Int64) (q5 : Int64) (q6 : Int64) : entryFrame m #[(.long q1), (.int q2), (.long q3), (.long q4), (.long q5), (.long q6)] maxLocals = mkF m 0 #[.val (.long q1), .second, .val (.int q2), .val (.long q3), .second, .val (.long q4), .second, .val (.long q5), .second, .val (.long q6), .second, .unset, .unset, .unset, .unset, .unset, .unset, .unset, .unset, .unset, .unset] [] := by first | (simp [entryFrame, mkF, argsToLocals, Value.category, maxLocals]; done) | rfl
set_option maxRecDepth 65536 in
set_option maxHeartbeats 40000000 in
theorem rm0 (l : Launch) (Z : State) (a0 : Array Value) (hw : ∀ d ∈ tables_1, d.before a0 Z = true) (ws : List Jvm.Cond) (q1 : Int64) (q2 : Int32) (q3 : Int64) (q4 : Int64) (q5 : Int64) (q6 : Int64) (h0 : Heap) (n0 : Nat) (Z0 : n0 ≤ h0.size)  (own_law : ∀ (q1 : Int64) (q2 : Int32) (q3 : Int64) (q4 : Int64) (q5 : Int64) (q6 : Int64), (own_f0 q1 q2 q3 q4 q5 q6) = 1) :
    MetFree l x (head1 (Jvm.Cond.code x code maxLocals ret :: ws) room_1) (fun a U => a = #[(.long q1), (.int q2), (.long q3), (.long q4), (.long q5), (.long q6)] ∧ Z.Warmed39 U.vm ∧ U.heap = h0) (fun _ _ _ _ _ => True) (fun _ U o U' => ∃ v L, o = .returned v ∧ (own_L n0 (.int 1)) v U'.heap L ∧ FrameEnd U o U' L 1 2) := by
  refine MetFree.of_bodySF (plainFor_of_name pn_0) hisR ?_
  intro p e s m args below meth c s₁ Bd hml0 hP hK
  obtain ⟨rfl, hZ, hh⟩ := hP
  have hown : s.vm.findClass "com/example/bushtit/bushtit/net/ConnectionHeapIsOverdrawnPinLaw" = some m.cls := findClass_of_methodNamed Bd.named
  have hnm := (name_of_methodNamed Bd.named Bd.method).1
  have X0 : Stand p l e room_1 s m #[(.long q1), (.int q2), (.long q3), (.long q4), (.long q5), (.long q6)] below meth c s₁ [] 0 0 := Stand.of_body Bd
  have e0 : s₁.heap = h0 := by rw [← hh, Bd.state]; rfl
  have H := sg0_0 l hw Bd.exec hZ Bd.bytes hml0 hown hnm Bd.returns Bd.notSynchronized q1 q2 q3 q4 q5 q6 Z0 X0 (Fr.nil n0) e0
  rw [own_law] at H
  obtain ⟨t, h1, h2, o, h3, h4⟩ := H
  exact ⟨t, o, castTop (ef_0 m q1 q2 q3 q4 q5 q6) h1, h2, h3, h4⟩
theorem own_law (q1 : Int64) (q2 : Int32) (q3 q4 q5 q6 : Int64) : own_f0 q1 q2 q3 q4 q5 q6 = 1 := by
  have n : ¬ ((q1 &&& (9223372036854775807 : Int64)) / 2) < 0 := by
    have h1 := own_m63 q1
    have e2 : (2 : Int64).toInt = 2 := by decide
    have z : (0 : Int64).toInt = 0 := by decide
    rw [own_lt64, Jvm.Kit.i64_div (by omega), e2, z, h1, Int.tdiv_eq_ediv_of_nonneg (by omega)]; omega
  unfold own_f0
  rw [Int64.zero_add]
  generalize ((q1 &&& (9223372036854775807 : Int64)) / 2) = half at *
  generalize (q4 - q3) + (q6 - q5) = t at *
  have f0 : own_f4 half 0 = 0 := by unfold own_f4; rw [if_neg n]
  by_cases h : half < t
  · have f1 : own_f4 half t = 1 := by unfold own_f4; rw [if_pos h]
    rw [if_pos h, if_pos f0, if_pos f1]
  · have f1 : own_f4 half t = 0 := by unfold own_f4; rw [if_neg h]
    rw [if_neg h, if_pos f0, if_pos f1]
set_option maxRecDepth 65536 in
set_option maxHeartbeats 40000000 in
theorem comes_1 {Post : Tables → Env → Array Value → State → Outcome → State → Prop} (hpost : ∀ tb e args s v u, (limb_1_1.after args s (.returned v) u = true ∧ limb_1_2.after args s (.returned v) u = true ∧ True) → FrameEnd s (.returned v) u (Jvm.fieldLocs frame_1_writes args s ++ Jvm.arrayLocs frame_1_arrays args s ++ Jvm.staticLocs frame_1_statics s) 16 128 → Post tb e args s (.returned v) u) :
    ArmFor flags0 classFile x code maxLocals ret World_1 tables_1 room_1 Calls_1 rest_1 Pre_1 Post := by
  intro l hfl _ _ p e ha hc hk s m args below hf hA hF happ hP
  obtain ⟨hcalls, hrest, hpre⟩ := hP
  obtain ⟨-, -, -, hnamed, -, -, -, hat⟩ := (Spec.applies_iff hf).mp happ
  obtain ⟨hg, hn⟩ := and_e (Cond.before_iff.mp (show (Jvm.Cond.and given_1 narrow_1).before args s = true from hpre))
  obtain ⟨gc, g0⟩ := and_e hg
  obtain ⟨gv0, g1⟩ := and_e g0
  obtain ⟨gv1, g2⟩ := and_e g1
  obtain ⟨gv2, g3⟩ := and_e g2
  obtain ⟨gv3, g4⟩ := and_e g3
  obtain ⟨gv4, g5⟩ := and_e g4
  have gv5 := g5
  obtain ⟨w0, w1, w2, w3, w4, w5, rfl⟩ : ∃ w0 w1 w2 w3 w4 w5 : Value, args = #[w0, w1, w2, w3, w4, w5] := by
    have hs : args.size = 6 := by simpa [Cond.value, given_1] using gc
    obtain ⟨L⟩ := args
    match L, hs with
    | [w0, w1, w2, w3, w4, w5], _ => exact ⟨w0, w1, w2, w3, w4, w5, rfl⟩
  have hw := fun d (hd : d ∈ tables_1) => atoms_spec (ws := Jvm.Cond.code x code maxLocals ret :: tables_1) hat d (List.mem_cons_of_mem _ hd)
  obtain ⟨i0, ei0⟩ := isL_v gv0
  obtain rfl : w0 = (.long i0) := Option.some.inj ei0
  obtain ⟨i1, ei1⟩ := is_v gv1
  obtain rfl : w1 = (.int i1) := Option.some.inj ei1
  obtain ⟨i2, ei2⟩ := isL_v gv2
  obtain rfl : w2 = (.long i2) := Option.some.inj ei2
  obtain ⟨i3, ei3⟩ := isL_v gv3
  obtain rfl : w3 = (.long i3) := Option.some.inj ei3
  obtain ⟨i4, ei4⟩ := isL_v gv4
  obtain rfl : w4 = (.long i4) := Option.some.inj ei4
  obtain ⟨i5, ei5⟩ := isL_v gv5
  obtain rfl : w5 = (.long i5) := Option.some.inj ei5
  obtain ⟨n, o, h1, h2, h3, _, L, rfl, ⟨rfl, N⟩, hq⟩ := rm0 l s _ hw tables_1 i0 i1 i2 i3 i4 i5 s.heap s.heap.size (Nat.le_refl _) own_law p e ha hc hk s m _ below hf ((Spec.applies_iff_loose hf).mp happ).1 ⟨rfl, State.Warmed39.refl s, rfl⟩ trivial
  refine ⟨n, _, h1, h2, h3, hpost _ _ _ _ _ _ ⟨Cond.after_iff.mpr rfl, Cond.after_iff.mpr (eq_i res_at (Term.int_eval (1)) rfl), trivial⟩ ⟨hq.1, hq.2.1, (hq.2.2.sift fun y hy => Or.inr (N y hy)).mono (by decide) (by decide)⟩⟩
theorem main_1_1 : Claimed_1_1 := comes_1 fun _ _ _ _ _ _ h hF => ⟨h.1, hF⟩
theorem main_1_2 : Claimed_1_2 := comes_1 fun _ _ _ _ _ _ h hF => ⟨h.2.1, hF⟩
end Jvm.Pilot.@@N@@
namespace Jvm.Pilot.@@N@@
open Jvm Jvm.ClassFile Sem Op Lib Jvm.Free Jvm.Stand Jvm.Pilot.@@N@@.Jvm.D
/-! MADE BY PROGRAM (witnessworld.py) out of the Statement's table words and the real class files: 10 classes; the members and pool entries that the words name. The judged class is class 1, her method 1. -/
namespace start1
open Jvm.ClassFile
def u (s : String) : CpInfo := .utf8 (stringToUtf16 s)
/-- a pool by its gaps: so many unusable entries, then the entry; so many at the end -/
def gap : Nat → List CpInfo → List CpInfo
  | 0, r => r
  | n + 1, r => .unusable :: gap n r
def poolList (es : List (Nat × CpInfo)) (last : Nat) : List CpInfo := es.foldr (fun e r => gap e.1 (e.2 :: r)) (gap last [])
def pool (es : List (Nat × CpInfo)) (last : Nat) : Array CpInfo := ⟨poolList es last⟩
def fileOf (pool : Array CpInfo) (this : Nat) (attrs : Array Attribute := #[]) (ms : Array MethodInfo := #[]) (fl : Nat := 33) (sup : Nat := 0) (ifs : Array Nat := #[]) (fds : Array FieldInfo := #[]) : ClassFile where
  minorVersion := 0
  majorVersion := 65
  constantPool := pool
  accessFlags := fl
  thisClass := this
  superClass := sup
  interfaces := ifs
  fields := fds
  methods := ms
  attributes := attrs
def plain (name : String) (sup : Option ClassId) : Class where
  name := name
  kind := .ordinary
  loader := none
  accessFlags := 33
  super := sup
  interfaces := #[]
  cf := none
  fields := #[]
  methods := #[]
  instanceTypes := #[]
  staticTypes := #[]
  resolved := #[]
  callSites := []
  init := .initialized
  statics := none
  mirror := none

def pool0 : Array CpInfo := pool [(5, u "<init>"), (0, u "()V"), (1, .class_ 10), (1, u "java/lang/Object")] 113

def k0c0 : Code := { maxStack := 0, maxLocals := 1, code := object_method_1_code, exceptionTable := #[], attributes := #[] }
def k0m0 : Method := { name := "<init>", desc := "()V", sig := { parameters := [], returnType := none }, accessFlags := 1, code := some k0c0 }
/-- java/lang/Object -/
def k0 : Class := { plain "java/lang/Object" none with
  accessFlags := 33
  interfaces := #[]
  cf := some (fileOf pool0 8 #[] #[{ accessFlags := 1, nameIndex := 5, descriptorIndex := 6, attributes := #[] }] 33 0 #[] #[])
  fields := #[]
  methods := #[k0m0]
  instanceTypes := #[]
  staticTypes := #[]
  resolved := Array.replicate 124 none
  statics := none }

def pool1 : Array CpInfo := pool [(2, .class_ 4), (1, u "java/lang/Object"), (0, u "<init>"), (0, u "()V"), (2, .long 9223372036854775807), (1, .long 2), (1, .long 2147483647), (1, .long 8), (1, .methodref 18 19), (0, .class_ 20), (0, .nameAndType 21 22), (0, u "java/lang/Math"), (0, u "min"), (0, u "(JJ)J"), (0, .class_ 24), (0, u "com/example/bushtit/bushtit/net/ConnectionHeap"), (0, .methodref 23 26), (0, .nameAndType 5 27), (0, u "(JI)V"), (0, .methodref 23 29), (0, .nameAndType 30 31), (0, u "isOverdrawn"), (0, u "()Z"), (0, .methodref 23 33), (0, .nameAndType 34 35), (0, u "change"), (0, u "(JJ)V"), (0, .class_ 37), (0, u "com/example/bushtit/bushtit/net/ConnectionHeapIsOverdrawnPinLaw"), (2, u "law"), (0, u "(JIJJJJ)Z")] 3

def k1m0 : Method := { name := "<init>", desc := "()V", sig := { parameters := [], returnType := none }, accessFlags := 1, code := none }
def k1c1 : Code := { maxStack := 6, maxLocals := 21, code := code, exceptionTable := #[], attributes := #[] }
def k1m1 : Method := { name := "law", desc := "(JIJJJJ)Z", sig := { parameters := [.long, .int, .long, .long, .long, .long], returnType := some .boolean }, accessFlags := 9, code := some k1c1 }
/-- com/example/bushtit/bushtit/net/ConnectionHeapIsOverdrawnPinLaw -/
def k1 : Class := { plain "com/example/bushtit/bushtit/net/ConnectionHeapIsOverdrawnPinLaw" (some 0) with
  accessFlags := 49
  interfaces := #[]
  cf := some (fileOf pool1 36 #[] #[{ accessFlags := 1, nameIndex := 5, descriptorIndex := 6, attributes := #[] }, { accessFlags := 9, nameIndex := 40, descriptorIndex := 41, attributes := #[] }] 49 2 #[] #[])
  fields := #[]
  methods := #[k1m0, k1m1]
  instanceTypes := #[]
  staticTypes := #[]
  resolved := Array.replicate 45 none
  statics := none }

def pool2 : Array CpInfo := pool [(1, .class_ 2), (0, u "java/lang/Math"), (1, .class_ 6), (1, u "java/lang/Object"), (0, u "<init>"), (0, u "()V"), (89, .class_ 100), (1, u "java/lang/Math$RandomNumberGeneratorHolder"), (20, u "(JJ)J"), (50, u "negativeZeroFloatBits"), (0, u "J"), (2, u "negativeZeroDoubleBits"), (24, u "min"), (43, u "$assertionsDisabled"), (0, u "Z"), (91, u "twoToTheDoubleScaleDown"), (0, u "D"), (4, u "twoToTheDoubleScaleUp"), (9, u "E"), (3, u "PI"), (2, u "TAU"), (2, u "DEGREES_TO_RADIANS"), (0, u "RADIANS_TO_DEGREES")] 94

def k2m0 : Method := { name := "<init>", desc := "()V", sig := { parameters := [], returnType := none }, accessFlags := 2, code := none }
def k2c1 : Code := { maxStack := 4, maxLocals := 4, code := jdk_29_method_70_code, exceptionTable := #[], attributes := #[] }
def k2m1 : Method := { name := "min", desc := "(JJ)J", sig := { parameters := [.long, .long], returnType := some .long }, accessFlags := 9, code := some k2c1 }
/-- java/lang/Math -/
def k2 : Class := { plain "java/lang/Math" (some 0) with
  accessFlags := 49
  interfaces := #[]
  cf := some (fileOf pool2 1 #[.nestMembers #[98]] #[{ accessFlags := 2, nameIndex := 7, descriptorIndex := 8, attributes := #[] }, { accessFlags := 9, nameIndex := 201, descriptorIndex := 121, attributes := #[] }] 49 4 #[] #[{ accessFlags := 25, nameIndex := 354, descriptorIndex := 339, attributes := #[] }, { accessFlags := 25, nameIndex := 358, descriptorIndex := 339, attributes := #[] }, { accessFlags := 25, nameIndex := 361, descriptorIndex := 339, attributes := #[] }, { accessFlags := 26, nameIndex := 364, descriptorIndex := 339, attributes := #[] }, { accessFlags := 26, nameIndex := 365, descriptorIndex := 339, attributes := #[] }, { accessFlags := 26, nameIndex := 172, descriptorIndex := 173, attributes := #[] }, { accessFlags := 26, nameIndex := 176, descriptorIndex := 173, attributes := #[] }, { accessFlags := 8, nameIndex := 344, descriptorIndex := 339, attributes := #[] }, { accessFlags := 8, nameIndex := 338, descriptorIndex := 339, attributes := #[] }, { accessFlags := 4120, nameIndex := 245, descriptorIndex := 246, attributes := #[] }])
  fields := #[{ name := "E", type := .double, accessFlags := 25, slot := 0, constantValue := 0 }, { name := "PI", type := .double, accessFlags := 25, slot := 1, constantValue := 0 }, { name := "TAU", type := .double, accessFlags := 25, slot := 2, constantValue := 0 }, { name := "DEGREES_TO_RADIANS", type := .double, accessFlags := 26, slot := 3, constantValue := 0 }, { name := "RADIANS_TO_DEGREES", type := .double, accessFlags := 26, slot := 4, constantValue := 0 }, { name := "negativeZeroFloatBits", type := .long, accessFlags := 26, slot := 5, constantValue := 0 }, { name := "negativeZeroDoubleBits", type := .long, accessFlags := 26, slot := 6, constantValue := 0 }, { name := "twoToTheDoubleScaleUp", type := .double, accessFlags := 8, slot := 7, constantValue := 0 }, { name := "twoToTheDoubleScaleDown", type := .double, accessFlags := 8, slot := 8, constantValue := 0 }, { name := "$assertionsDisabled", type := .boolean, accessFlags := 4120, slot := 9, constantValue := 0 }]
  methods := #[k2m0, k2m1]
  instanceTypes := #[]
  staticTypes := #[.double, .double, .double, .double, .double, .long, .long, .double, .double, .boolean]
  resolved := Array.replicate 460 none
  statics := none }

def pool3 : Array CpInfo := pool [(1, .methodref 2 3), (0, .class_ 4), (0, .nameAndType 5 6), (0, u "java/lang/Object"), (0, u "<init>"), (0, u "()V"), (0, .long 2), (1, .class_ 10), (0, u "com/example/bushtit/bushtit/net/ConnectionHeap"), (0, .long 8), (10, .fieldref 9 23), (0, .nameAndType 24 25), (0, u "limit"), (0, u "J"), (0, .fieldref 9 27), (0, .nameAndType 28 25), (0, u "taken"), (4, u "PDU_COPIES"), (1, u "(JI)V"), (4, u "()Z"), (0, u "change"), (0, u "(JJ)V"), (0, u "isOverdrawn")] 17

def k3c0 : Code := { maxStack := 8, maxLocals := 6, code := prog_62_method_1_code, exceptionTable := #[], attributes := #[] }
def k3m0 : Method := { name := "<init>", desc := "(JI)V", sig := { parameters := [.long, .int], returnType := none }, accessFlags := 0, code := some k3c0 }
def k3c1 : Code := { maxStack := 7, maxLocals := 5, code := prog_62_method_4_code, exceptionTable := #[], attributes := #[] }
def k3m1 : Method := { name := "change", desc := "(JJ)V", sig := { parameters := [.long, .long], returnType := none }, accessFlags := 0, code := some k3c1 }
def k3c2 : Code := { maxStack := 4, maxLocals := 1, code := prog_62_method_5_code, exceptionTable := #[], attributes := #[] }
def k3m2 : Method := { name := "isOverdrawn", desc := "()Z", sig := { parameters := [], returnType := some .boolean }, accessFlags := 0, code := some k3c2 }
/-- com/example/bushtit/bushtit/net/ConnectionHeap -/
def k3 : Class := { plain "com/example/bushtit/bushtit/net/ConnectionHeap" (some 0) with
  accessFlags := 48
  interfaces := #[]
  cf := some (fileOf pool3 9 #[] #[{ accessFlags := 0, nameIndex := 5, descriptorIndex := 35, attributes := #[] }, { accessFlags := 0, nameIndex := 41, descriptorIndex := 42, attributes := #[] }, { accessFlags := 0, nameIndex := 43, descriptorIndex := 40, attributes := #[] }] 48 2 #[] #[{ accessFlags := 26, nameIndex := 33, descriptorIndex := 25, attributes := #[] }, { accessFlags := 18, nameIndex := 24, descriptorIndex := 25, attributes := #[] }, { accessFlags := 2, nameIndex := 28, descriptorIndex := 25, attributes := #[] }])
  fields := #[{ name := "PDU_COPIES", type := .long, accessFlags := 26, slot := 0, constantValue := 0 }, { name := "limit", type := .long, accessFlags := 18, slot := 0, constantValue := 0 }, { name := "taken", type := .long, accessFlags := 2, slot := 1, constantValue := 0 }]
  methods := #[k3m0, k3m1, k3m2]
  instanceTypes := #[.long, .long]
  staticTypes := #[.long]
  resolved := Array.replicate 61 none
  statics := none }

def pool4 : Array CpInfo := pool [(1, u "java/lang/Cloneable"), (0, .class_ 1), (0, u "java/lang/Object"), (0, .class_ 3)] 3

/-- java/lang/Cloneable -/
def k4 : Class := { plain "java/lang/Cloneable" (some 0) with
  accessFlags := 1537
  interfaces := #[]
  cf := some (fileOf pool4 2 #[] #[] 1537 4 #[] #[])
  fields := #[]
  methods := #[]
  instanceTypes := #[]
  staticTypes := #[]
  resolved := Array.replicate 8 none
  statics := none }

def pool5 : Array CpInfo := pool [(1, u "java/io/Serializable"), (0, .class_ 1), (0, u "java/lang/Object"), (0, .class_ 3)] 3

/-- java/io/Serializable -/
def k5 : Class := { plain "java/io/Serializable" (some 0) with
  accessFlags := 1537
  interfaces := #[]
  cf := some (fileOf pool5 2 #[] #[] 1537 4 #[] #[])
  fields := #[]
  methods := #[]
  instanceTypes := #[]
  staticTypes := #[]
  resolved := Array.replicate 8 none
  statics := none }

/-- the primitive byte -/
def k6 : Class := { plain "byte" none with kind := .primitive 'B', accessFlags := 0x411 }
/-- [B -/
def k7 : Class := { plain "[B" (some 0) with kind := .array 6 .byte, interfaces := #[4, 5], accessFlags := 1041 }

/-- the primitive int -/
def k8 : Class := { plain "int" none with kind := .primitive 'I', accessFlags := 0x411 }
/-- [I -/
def k9 : Class := { plain "[I" (some 0) with kind := .array 8 .int, interfaces := #[4, 5], accessFlags := 1041 }

def heap : Heap := #[]
def classes : Array Class := #[k0, k1, k2, k3, k4, k5, k6, k7, k8, k9]
def interned : List (Array UInt16 × Addr) := []
def slotsUsed : Nat := 0
def theMethod : MethodId := ⟨1, 1⟩
def args0 : Array Value := #[.long 500, .int 3, .long 5, .long 300, .long 5, .long 300]
def aboutOver (below : List Frame) : State where
  vm := { classes := classes, interned := interned.toArray }
  heap := heap
  slotsUsed := slotsUsed
  threads := #[{ frames := .invoking theMethod args0 :: below }]
def below0 : List Frame := [.native { method := ⟨0, 0⟩, args := #[] }]
def about1 : State := aboutOver below0
def p0 : Program := .bare "" "" ""
def e0 : Env := launch0.env 0 0 0
theorem w_frames : about1.frames = Frame.invoking theMethod args0 :: below0 := rfl
set_option maxRecDepth 65536 in
theorem w_args : argsFit about1.vm theMethod args0 = true := by decide +kernel
set_option maxRecDepth 65536 in
theorem w_heap : heapFits about1 = true := by decide +kernel
set_option maxRecDepth 65536 in
theorem w_runnable : about1.curStatus? = some .runnable := by decide +kernel
set_option maxRecDepth 65536 in
theorem w_alone : about1.alone = true := by decide +kernel
set_option maxRecDepth 65536 in
theorem w_named : about1.methodNamed? x = some theMethod := by decide +kernel
set_option maxRecDepth 65536 in
theorem w_hears : about1.hears theMethod below0 = true := by decide +kernel
set_option maxRecDepth 65536 in
theorem w_ripe : about1.ripe theMethod args0 below0 = true := by decide +kernel
theorem w_running : about1.status = .running := rfl
set_option maxRecDepth 65536 in
theorem w_room : about1.hasRoom e0.platform room_1 = true :=
  launch0.hasRoom_least _ room_1 (by decide +kernel) (by decide +kernel) (by decide +kernel) (by decide +kernel) (by decide +kernel) (by decide +kernel)
theorem allAtoms_all (ts : List Jvm.Cond) (a : Array Jvm.Value) (st : Jvm.State) : (allAtoms ts).before a st = ts.all (fun c => c.before a st) := by
  induction ts with
  | nil => rfl
  | cons c t ih =>
    show (Jvm.Cond.and c (allAtoms t)).before a st = _
    rw [Jvm.Cond.before_and, ih, List.all_cons]
def words1 : List Jvm.Cond := Jvm.Cond.code x code maxLocals ret :: tables_1
/-- a 'code' word, met by the world's own term for the bytes: nothing is compared byte by byte -/
theorem code_word {y : MethodName} {bytes : ByteArray} {mx : Nat} {rt : Option FieldType} {a : Array Value} {s : State} {m : MethodId} {meth : Method} {c : Code} (h1 : s.methodNamed? y = some m) (h2 : s.vm.method? m = some meth) (h3 : meth.code = some c) (h4 : c.code = bytes)
    (h5 : (c.maxLocals == mx && c.exceptionTable.isEmpty && decide (c.maxStack ≤ mostOperands) && decide (meth.sig.returnType = rt) && !meth.locks && decide (parseMethodDescriptor y.desc = some meth.sig)) = true) : (Jvm.Cond.code y bytes mx rt).before a s = true := by
  simp only [Bool.and_eq_true, beq_iff_eq, Bool.not_eq_true', decide_eq_true_eq] at h5
  obtain ⟨⟨⟨⟨⟨g1, g2⟩, g3⟩, g4⟩, g5⟩, g6⟩ := h5
  simp [Cond.before, Cond.holds, Cond.value, h1, h2, h3, h4, g1, g2, g3, g4, g5, g6]
def isCode : Jvm.Cond → Bool
  | .code _ _ _ _ => true
  | _ => false
theorem all_split {L : List Jvm.Cond} {P : Jvm.Cond → Bool} (h1 : L.all (fun c => isCode c || P c) = true) (h2 : ∀ c ∈ L.filter isCode, P c = true) : L.all P = true := by
  refine List.all_eq_true.mpr fun c hc => ?_
  have h := List.all_eq_true.mp h1 c hc
  rcases Bool.eq_false_or_eq_true (isCode c) with hi | hi
  · exact h2 c (List.mem_filter.mpr ⟨hc, hi⟩)
  · simpa [hi] using h
set_option maxRecDepth 65536 in
theorem w_c0 : (Jvm.Cond.code x code maxLocals ret).before args0 about1 = true := code_word (m := ⟨1, 1⟩) (meth := k1m1) (c := k1c1) (by decide +kernel) rfl rfl rfl (by decide +kernel)
set_option maxRecDepth 65536 in
theorem w_c1 : (Jvm.Cond.code ({ cls := "java/lang/Math", name := "min", desc := "(JJ)J" } : Jvm.MethodName) jdk_29_method_70_code (4 : Nat) (Option.some Jvm.ClassFile.FieldType.long)).before args0 about1 = true := code_word (m := ⟨2, 1⟩) (meth := k2m1) (c := k2c1) (by decide +kernel) rfl rfl rfl (by decide +kernel)
set_option maxRecDepth 65536 in
theorem w_c2 : (Jvm.Cond.code ({ cls := "com/example/bushtit/bushtit/net/ConnectionHeap", name := "<init>", desc := "(JI)V" } : Jvm.MethodName) prog_62_method_1_code (6 : Nat) (Option.none : Option Jvm.ClassFile.FieldType)).before args0 about1 = true := code_word (m := ⟨3, 0⟩) (meth := k3m0) (c := k3c0) (by decide +kernel) rfl rfl rfl (by decide +kernel)
set_option maxRecDepth 65536 in
theorem w_c3 : (Jvm.Cond.code ({ cls := "java/lang/Object", name := "<init>", desc := "()V" } : Jvm.MethodName) object_method_1_code (1 : Nat) (Option.none : Option Jvm.ClassFile.FieldType)).before args0 about1 = true := code_word (m := ⟨0, 0⟩) (meth := k0m0) (c := k0c0) (by decide +kernel) rfl rfl rfl (by decide +kernel)
set_option maxRecDepth 65536 in
theorem w_c4 : (Jvm.Cond.code ({ cls := "com/example/bushtit/bushtit/net/ConnectionHeap", name := "isOverdrawn", desc := "()Z" } : Jvm.MethodName) prog_62_method_5_code (1 : Nat) (Option.some Jvm.ClassFile.FieldType.boolean)).before args0 about1 = true := code_word (m := ⟨3, 2⟩) (meth := k3m2) (c := k3c2) (by decide +kernel) rfl rfl rfl (by decide +kernel)
set_option maxRecDepth 65536 in
theorem w_c5 : (Jvm.Cond.code ({ cls := "com/example/bushtit/bushtit/net/ConnectionHeap", name := "change", desc := "(JJ)V" } : Jvm.MethodName) prog_62_method_4_code (5 : Nat) (Option.none : Option Jvm.ClassFile.FieldType)).before args0 about1 = true := code_word (m := ⟨3, 1⟩) (meth := k3m1) (c := k3c1) (by decide +kernel) rfl rfl rfl (by decide +kernel)
def codes1 : List Jvm.Cond := [Jvm.Cond.code x code maxLocals ret, Jvm.Cond.code ({ cls := "java/lang/Math", name := "min", desc := "(JJ)J" } : Jvm.MethodName) jdk_29_method_70_code (4 : Nat) (Option.some Jvm.ClassFile.FieldType.long), Jvm.Cond.code ({ cls := "com/example/bushtit/bushtit/net/ConnectionHeap", name := "<init>", desc := "(JI)V" } : Jvm.MethodName) prog_62_method_1_code (6 : Nat) (Option.none : Option Jvm.ClassFile.FieldType), Jvm.Cond.code ({ cls := "java/lang/Object", name := "<init>", desc := "()V" } : Jvm.MethodName) object_method_1_code (1 : Nat) (Option.none : Option Jvm.ClassFile.FieldType), Jvm.Cond.code ({ cls := "com/example/bushtit/bushtit/net/ConnectionHeap", name := "isOverdrawn", desc := "()Z" } : Jvm.MethodName) prog_62_method_5_code (1 : Nat) (Option.some Jvm.ClassFile.FieldType.boolean), Jvm.Cond.code ({ cls := "com/example/bushtit/bushtit/net/ConnectionHeap", name := "change", desc := "(JJ)V" } : Jvm.MethodName) prog_62_method_4_code (5 : Nat) (Option.none : Option Jvm.ClassFile.FieldType)]
set_option maxRecDepth 65536 in
theorem codes_eq : words1.filter isCode = codes1 := rfl
theorem w_codes : ∀ c ∈ words1.filter isCode, c.before args0 about1 = true := by
  rw [codes_eq]
  intro c hc
  simp only [codes1, List.mem_cons, List.not_mem_nil, or_false] at hc
  rcases hc with rfl | rfl | rfl | rfl | rfl | rfl
  · exact w_c0
  · exact w_c1
  · exact w_c2
  · exact w_c3
  · exact w_c4
  · exact w_c5
set_option maxRecDepth 65536 in
theorem w_t1 : (words1.take 24).all (fun c => isCode c || c.before args0 about1) = true := by decide +kernel
set_option maxRecDepth 65536 in
theorem w_t2 : (words1.drop 24).all (fun c => isCode c || c.before args0 about1) = true := by decide +kernel
theorem w_tables : (allAtoms (Jvm.Cond.code x code maxLocals ret :: tables_1)).before args0 about1 = true := by
  rw [allAtoms_all]
  show words1.all (fun c => c.before args0 about1) = true
  refine all_split ?_ w_codes
  rw [← List.take_append_drop 24 words1, List.all_append, w_t1, w_t2]
  rfl
set_option maxRecDepth 65536 in
theorem w_case : (Jvm.Cond.and given_1 narrow_1).before args0 about1 = true := by decide +kernel
theorem w_applies : (headSpec (Jvm.Cond.code x code maxLocals ret :: tables_1) room_1).applies x e0.platform about1 = true :=
  (Spec.applies_iff w_frames).mpr ⟨w_running, w_runnable, w_alone, w_named, w_hears, w_ripe, w_room, w_tables⟩
theorem atStart : AtStart classFile x code maxLocals ret World_1 tables_1 room_1 Calls_1 rest_1 Pre_1 launch0 p0 e0 about1 theMethod args0 below0 :=
  ⟨lists_1, trivial, launch0.admits_env _ _ _, launch0.least_env, fairChoices_fair.cas, fairChoices_fair.clock, w_frames, w_args, w_heap, w_applies, trivial, trivial, w_case⟩
end start1
theorem witness_1 : WitnessClaimed_1 := ⟨start1.p0, start1.e0, start1.about1, start1.theMethod, start1.args0, start1.below0, start1.atStart⟩
end Jvm.Pilot.@@N@@
