import JvmDerived
import JvmDerived.Pilot.@@N@@Statement
import JvmDerived.Pilot.@@N@@Code
set_option linter.unusedVariables false
set_option linter.unusedSimpArgs false
@@BLOCK:NumsL.lean.txt@@
namespace Jvm.RoadKit
open Sem ClassFile Op Lib Jvm.Stand Jvm.Free Jvm.LawKit
section New
variable {p : Program} {l : Launch} {e : Env} {R : Room} {s : State} {m : MethodId} {args : Array Value} {below : List Frame} {meth : Method} {c : Code} {T : State} {locs : List Loc} {cells slots : Nat}
theorem retI (X : Stand p l e R s m args below meth c T locs cells slots) (hx : p.tables.exec = Jvm.exec) {pc : Nat} {Ls : Array Slot} {z : Int32} {rest : List Value} (hret : meth.sig.returnType = some .int) (hd : decode c.code pc = .ok (.ireturn, 1)) {fs : List Frame}
    (hl : ∀ (f : JFrame) (acts : List Action), f.method = m → f.locked = none → f.entered = [] → (doReturn e (T.setTop f) acts (some (.int z))).1 = T.setFrames fs) : Steps p.tables e below (T.setTop (mkF m pc Ls (.int z :: rest))) (T.setFrames fs) := by
  have hm' : T.vm.method? m = some meth := X.method'
  have hn : narrow .int (.int z) = .int z := rfl
  show Steps p.tables e below (T.setTop { method := m, pc := pc, locals := Ls, stack := _ :: rest, locked := none }) _
  jvm_step X.here [X.here.top, hx, hd, hm', hret, hn]
  first | (intro acts; rw [hl _ acts rfl rfl rfl]) | rw [hl _ _ rfl rfl rfl]
  exact Steps.refl _
end New
end Jvm.RoadKit
namespace Jvm.Pilot.@@N@@
open Jvm Jvm.ClassFile Sem Op Lib Jvm.Free Jvm.Stand Jvm.LawKit Jvm.RoadKit Bundle Jvm.Pilot.@@N@@.Jvm.D
/-- the run from this frame comes to an end that R takes -/
def own_Fin (tb : Tables) (e : Env) (below : List Frame) (R : State → Prop) (T : State) (g : JFrame) : Prop := ∃ t, Steps tb e below (T.setTop g) t ∧ R t
theorem own_st {tb : Tables} {e : Env} {below : List Frame} {R : State → Prop} {T T' : State} {g g' : JFrame} (h : own_Fin tb e below R T' g') (k : ∀ t, Steps tb e below (T'.setTop g') t → Steps tb e below (T.setTop g) t) : own_Fin tb e below R T g := by
  obtain ⟨t, a, b⟩ := h
  exact ⟨t, k t a, b⟩
def own_End (below : List Frame) (s : State) (Q : Option Value → Heap → List Loc → Prop) (cells slots : Nat) (t : State) : Prop := t.status = .running ∧ ∃ o, Ended t below o ∧ ∃ v L, o = .returned v ∧ Q v t.heap L ∧ FrameEnd s o t L cells slots
/-- a body that writes nothing -/
def own_P (h0 : Heap) (n0 : Nat) (w : Option Value) (v : Option Value) (h : Heap) (L : List Loc) : Prop := v = w ∧ Fr n0 L ∧ h = h0
theorem own_cast {tb : Tables} {e : Env} {below : List Frame} {R R' : State → Prop} {T : State} {g : JFrame} (q : R' = R) (h : own_Fin tb e below R' T g) : own_Fin tb e below R T g := q ▸ h
/-- the law: what it returns, and nothing old is written -/
def own_L (n0 : Nat) (w : Value) (v : Option Value) (h : Heap) (L : List Loc) : Prop := v = some w ∧ Fr n0 L
theorem own_lcW (a b : Int64) : lcmpW a b = if a > b then 1 else if a = b then 0 else -1 := rfl
theorem own_lc_lt {a b : Int64} : lcmpW a b < 0 ↔ a < b := by
  rw [own_lcW]
  by_cases h1 : a > b
  · rw [if_pos h1]
    exact ⟨fun h => absurd h (by decide), fun h => absurd (Int64.lt_trans h h1) Int64.lt_irrefl⟩
  · rw [if_neg h1]
    by_cases h2 : a = b
    · rw [if_pos h2]
      exact ⟨fun h => absurd h (by decide), fun h => absurd (h2 ▸ h) Int64.lt_irrefl⟩
    · rw [if_neg h2]
      refine ⟨fun _ => ?_, fun _ => by decide⟩
      rw [Int64.lt_iff_toInt_lt] at *
      have h3 : a.toInt ≠ b.toInt := fun q => h2 (Int64.toInt_inj.mp q)
      have h4 : ¬ b.toInt < a.toInt := fun q => h1 (Int64.lt_iff_toInt_lt.mpr q)
      omega
theorem own_lc_gt {a b : Int64} : 0 < lcmpW a b ↔ b < a := by
  rw [own_lcW]
  by_cases h1 : a > b
  · rw [if_pos h1]; exact ⟨fun _ => h1, fun _ => by decide⟩
  · rw [if_neg h1]
    by_cases h2 : a = b
    · rw [if_pos h2]; exact ⟨fun h => absurd h (by decide), fun h => absurd h h1⟩
    · rw [if_neg h2]; exact ⟨fun h => absurd h (by decide), fun h => absurd h h1⟩
theorem own_lc_eq {a b : Int64} : lcmpW a b = 0 ↔ a = b := by
  rw [own_lcW]
  by_cases h1 : a > b
  · rw [if_pos h1]; exact ⟨fun h => absurd h (by decide), fun h => absurd (h ▸ h1 : a > a) Int64.lt_irrefl⟩
  · rw [if_neg h1]
    by_cases h2 : a = b
    · rw [if_pos h2]; exact ⟨fun _ => h2, fun _ => rfl⟩
    · rw [if_neg h2]; exact ⟨fun h => absurd h (by decide), fun h => absurd h h2⟩
def own_EndW (below : List Frame) (s : State) (Q : Option Value → Heap → List Loc → Prop) (cells slots : Nat) (t : State) : Prop := t.status = .running ∧ ∃ o, Ended t below o ∧ ∃ v L, o = .returned v ∧ Q v t.heap L ∧ ReturnedEndW s o t L cells slots
theorem own_fr {tb : Tables} {e : Env} {below : List Frame} {R : State → Prop} {T : State} {g g' : JFrame} (q : g' = g) (h : own_Fin tb e below R T g') : own_Fin tb e below R T g := q ▸ h
theorem own_irr32 (x : Int32) : ¬ x < x := Int32.lt_irrefl
theorem own_irr64 (x : Int64) : ¬ x < x := Int64.lt_irrefl
def own_ush32 (x y : Int32) : Int32 := (x.toUInt32 >>> (y &&& 31).toUInt32).toInt32
def own_ush64 (x : Int64) (y : Int32) : Int64 := (x.toUInt64 >>> (y &&& 0x3f).toInt64.toUInt64).toInt64
section OwnStep
variable {p : Program} {l : Launch} {e : Env} {R : Room} {s : State} {m : MethodId} {args : Array Value} {below : List Frame} {meth : Method} {c : Code} {T : State} {locs : List Loc} {kc ks : Nat} {Rr : State → Prop} {Ls Ls' : Array Slot} {st : List Value} {pc pc' : Nat} {Z : State} {a0 : Array Value} {h : Heap}
theorem own_iload (X : Stand p l e R s m args below meth c T locs kc ks) (hx : p.tables.exec = Jvm.exec) {j : Nat} {v : Int32} (hd : decode c.code pc = .ok (.iload j, 2)) (hp : pc + 2 = pc') (hl : Ls[j]? = some (.val (.int v))) (h : own_Fin p.tables e below Rr T (mkF m pc' Ls (.int v :: st))) : own_Fin p.tables e below Rr T (mkF m pc Ls st) := by
  subst hp; exact own_st h (fun t k => XS.iload X.here hx rfl hd hl k)
theorem own_iloadN (X : Stand p l e R s m args below meth c T locs kc ks) (hx : p.tables.exec = Jvm.exec) {j : Fin 4} {v : Int32} (hd : decode c.code pc = .ok (.iload_n j, 1)) (hp : pc + 1 = pc') (hl : Ls[j.val]? = some (.val (.int v))) (h : own_Fin p.tables e below Rr T (mkF m pc' Ls (.int v :: st))) : own_Fin p.tables e below Rr T (mkF m pc Ls st) := by
  subst hp; exact own_st h (fun t k => XS.iloadN X.here hx rfl hd hl k)
theorem own_istore (X : Stand p l e R s m args below meth c T locs kc ks) (hx : p.tables.exec = Jvm.exec) {j : Nat} {v : Int32} (hd : decode c.code pc = .ok (.istore j, 2)) (hp : pc + 2 = pc') (hl : storeLocals Ls j (.int v) = some Ls') (h : own_Fin p.tables e below Rr T (mkF m pc' Ls' st)) : own_Fin p.tables e below Rr T (mkF m pc Ls (.int v :: st)) := by
  subst hp; exact own_st h (fun t k => XS.istore X.here hx rfl hd rfl hl k)
theorem own_istoreN (X : Stand p l e R s m args below meth c T locs kc ks) (hx : p.tables.exec = Jvm.exec) {j : Fin 4} {v : Int32} (hd : decode c.code pc = .ok (.istore_n j, 1)) (hp : pc + 1 = pc') (hl : storeLocals Ls j.val (.int v) = some Ls') (h : own_Fin p.tables e below Rr T (mkF m pc' Ls' st)) : own_Fin p.tables e below Rr T (mkF m pc Ls (.int v :: st)) := by
  subst hp; exact own_st h (fun t k => XS.istoreN X.here hx rfl hd rfl hl k)
theorem own_lload (X : Stand p l e R s m args below meth c T locs kc ks) (hx : p.tables.exec = Jvm.exec) {j : Nat} {v : Int64} (hd : decode c.code pc = .ok (.lload j, 2)) (hp : pc + 2 = pc') (hl : Ls[j]? = some (.val (.long v))) (h : own_Fin p.tables e below Rr T (mkF m pc' Ls (.long v :: st))) : own_Fin p.tables e below Rr T (mkF m pc Ls st) := by
  subst hp; exact own_st h (fun t k => XS.lload X.here hx rfl hd hl k)
theorem own_lloadN (X : Stand p l e R s m args below meth c T locs kc ks) (hx : p.tables.exec = Jvm.exec) {j : Fin 4} {v : Int64} (hd : decode c.code pc = .ok (.lload_n j, 1)) (hp : pc + 1 = pc') (hl : Ls[j.val]? = some (.val (.long v))) (h : own_Fin p.tables e below Rr T (mkF m pc' Ls (.long v :: st))) : own_Fin p.tables e below Rr T (mkF m pc Ls st) := by
  subst hp; exact own_st h (fun t k => XS.lloadN X.here hx rfl hd hl k)
theorem own_lstore (X : Stand p l e R s m args below meth c T locs kc ks) (hx : p.tables.exec = Jvm.exec) {j : Nat} {v : Int64} (hd : decode c.code pc = .ok (.lstore j, 2)) (hp : pc + 2 = pc') (hl : storeLocals Ls j (.long v) = some Ls') (h : own_Fin p.tables e below Rr T (mkF m pc' Ls' st)) : own_Fin p.tables e below Rr T (mkF m pc Ls (.long v :: st)) := by
  subst hp; exact own_st h (fun t k => XS.lstore X.here hx rfl hd rfl hl k)
theorem own_lstoreN (X : Stand p l e R s m args below meth c T locs kc ks) (hx : p.tables.exec = Jvm.exec) {j : Fin 4} {v : Int64} (hd : decode c.code pc = .ok (.lstore_n j, 1)) (hp : pc + 1 = pc') (hl : storeLocals Ls j.val (.long v) = some Ls') (h : own_Fin p.tables e below Rr T (mkF m pc' Ls' st)) : own_Fin p.tables e below Rr T (mkF m pc Ls (.long v :: st)) := by
  subst hp; exact own_st h (fun t k => XS.lstoreN X.here hx rfl hd rfl hl k)
theorem own_aload (X : Stand p l e R s m args below meth c T locs kc ks) (hx : p.tables.exec = Jvm.exec) {j : Nat} {v : Value} (hd : decode c.code pc = .ok (.aload j, 2)) (hp : pc + 2 = pc') (hl : Ls[j]? = some (.val v)) (hv : v.isRef = true) (h : own_Fin p.tables e below Rr T (mkF m pc' Ls (v :: st))) : own_Fin p.tables e below Rr T (mkF m pc Ls st) := by
  subst hp; exact own_st h (fun t k => XS.aload X.here hx rfl hd hl hv k)
theorem own_aloadN (X : Stand p l e R s m args below meth c T locs kc ks) (hx : p.tables.exec = Jvm.exec) {j : Fin 4} {v : Value} (hd : decode c.code pc = .ok (.aload_n j, 1)) (hp : pc + 1 = pc') (hl : Ls[j.val]? = some (.val v)) (hv : v.isRef = true) (h : own_Fin p.tables e below Rr T (mkF m pc' Ls (v :: st))) : own_Fin p.tables e below Rr T (mkF m pc Ls st) := by
  subst hp; exact own_st h (fun t k => XS.aloadN X.here hx rfl hd hl hv k)
theorem own_astore (X : Stand p l e R s m args below meth c T locs kc ks) (hx : p.tables.exec = Jvm.exec) {j : Nat} {v : Value} (hd : decode c.code pc = .ok (.astore j, 2)) (hp : pc + 2 = pc') (hv : v.isRef = true) (hl : storeLocals Ls j v = some Ls') (h : own_Fin p.tables e below Rr T (mkF m pc' Ls' st)) : own_Fin p.tables e below Rr T (mkF m pc Ls (v :: st)) := by
  subst hp; exact own_st h (fun t k => XS.astore X.here hx rfl hd rfl hv hl k)
theorem own_astoreN (X : Stand p l e R s m args below meth c T locs kc ks) (hx : p.tables.exec = Jvm.exec) {j : Fin 4} {v : Value} (hd : decode c.code pc = .ok (.astore_n j, 1)) (hp : pc + 1 = pc') (hv : v.isRef = true) (hl : storeLocals Ls j.val v = some Ls') (h : own_Fin p.tables e below Rr T (mkF m pc' Ls' st)) : own_Fin p.tables e below Rr T (mkF m pc Ls (v :: st)) := by
  subst hp; exact own_st h (fun t k => XS.astoreN X.here hx rfl hd rfl hv hl k)
theorem own_iconst (X : Stand p l e R s m args below meth c T locs kc ks) (hx : p.tables.exec = Jvm.exec) {i : Int} {v : Int32} (hd : decode c.code pc = .ok (.iconst i, 1)) (hp : pc + 1 = pc') (hv : Int32.ofInt i = v) (h : own_Fin p.tables e below Rr T (mkF m pc' Ls (.int v :: st))) : own_Fin p.tables e below Rr T (mkF m pc Ls st) := by
  subst hp; exact own_st h (fun t k => XS.iconst X.here hx rfl hd (hv ▸ k))
theorem own_bipush (X : Stand p l e R s m args below meth c T locs kc ks) (hx : p.tables.exec = Jvm.exec) {i : Int} {v : Int32} (hd : decode c.code pc = .ok (.bipush i, 2)) (hp : pc + 2 = pc') (hv : (Int8.ofInt i).toInt32 = v) (h : own_Fin p.tables e below Rr T (mkF m pc' Ls (.int v :: st))) : own_Fin p.tables e below Rr T (mkF m pc Ls st) := by
  subst hp; exact own_st h (fun t k => XS.bipush X.here hx rfl hd (hv ▸ k))
theorem own_sipush (X : Stand p l e R s m args below meth c T locs kc ks) (hx : p.tables.exec = Jvm.exec) {i : Int} {v : Int32} (hd : decode c.code pc = .ok (.sipush i, 3)) (hp : pc + 3 = pc') (hv : (Int16.ofInt i).toInt32 = v) (h : own_Fin p.tables e below Rr T (mkF m pc' Ls (.int v :: st))) : own_Fin p.tables e below Rr T (mkF m pc Ls st) := by
  subst hp; exact own_st h (fun t k => XS.sipush X.here hx rfl hd (hv ▸ k))
theorem own_lconst (X : Stand p l e R s m args below meth c T locs kc ks) (hx : p.tables.exec = Jvm.exec) {i : Fin 2} {v : Int64} (hd : decode c.code pc = .ok (.lconst i, 1)) (hp : pc + 1 = pc') (hv : Int64.ofNat i = v) (h : own_Fin p.tables e below Rr T (mkF m pc' Ls (.long v :: st))) : own_Fin p.tables e below Rr T (mkF m pc Ls st) := by
  subst hp; exact own_st h (fun t k => XS.lconst X.here hx rfl hd (hv ▸ k))
theorem own_aconstNull (X : Stand p l e R s m args below meth c T locs kc ks) (hx : p.tables.exec = Jvm.exec)  (hd : decode c.code pc = .ok (.aconst_null, 1)) (hp : pc + 1 = pc')  (h : own_Fin p.tables e below Rr T (mkF m pc' Ls (.null :: st))) : own_Fin p.tables e below Rr T (mkF m pc Ls st) := by
  subst hp; exact own_st h (fun t k => XS.aconstNull X.here hx rfl hd k)
theorem own_iadd (X : Stand p l e R s m args below meth c T locs kc ks) (hx : p.tables.exec = Jvm.exec) {x y : Int32} (hd : decode c.code pc = .ok (.iadd, 1)) (hp : pc + 1 = pc')  (h : own_Fin p.tables e below Rr T (mkF m pc' Ls (.int (x + y) :: st))) : own_Fin p.tables e below Rr T (mkF m pc Ls (.int y :: .int x :: st)) := by
  subst hp; exact own_st h (fun t k => XS.iadd X.here hx rfl hd rfl k)
theorem own_ladd (X : Stand p l e R s m args below meth c T locs kc ks) (hx : p.tables.exec = Jvm.exec) {x y : Int64} (hd : decode c.code pc = .ok (.ladd, 1)) (hp : pc + 1 = pc')  (h : own_Fin p.tables e below Rr T (mkF m pc' Ls (.long (x + y) :: st))) : own_Fin p.tables e below Rr T (mkF m pc Ls (.long y :: .long x :: st)) := by
  subst hp; exact own_st h (fun t k => XS.ladd X.here hx rfl hd rfl k)
theorem own_isub (X : Stand p l e R s m args below meth c T locs kc ks) (hx : p.tables.exec = Jvm.exec) {x y : Int32} (hd : decode c.code pc = .ok (.isub, 1)) (hp : pc + 1 = pc')  (h : own_Fin p.tables e below Rr T (mkF m pc' Ls (.int (x - y) :: st))) : own_Fin p.tables e below Rr T (mkF m pc Ls (.int y :: .int x :: st)) := by
  subst hp; exact own_st h (fun t k => XS.isub X.here hx rfl hd rfl k)
theorem own_lsub (X : Stand p l e R s m args below meth c T locs kc ks) (hx : p.tables.exec = Jvm.exec) {x y : Int64} (hd : decode c.code pc = .ok (.lsub, 1)) (hp : pc + 1 = pc')  (h : own_Fin p.tables e below Rr T (mkF m pc' Ls (.long (x - y) :: st))) : own_Fin p.tables e below Rr T (mkF m pc Ls (.long y :: .long x :: st)) := by
  subst hp; exact own_st h (fun t k => XS.lsub X.here hx rfl hd rfl k)
theorem own_imul (X : Stand p l e R s m args below meth c T locs kc ks) (hx : p.tables.exec = Jvm.exec) {x y : Int32} (hd : decode c.code pc = .ok (.imul, 1)) (hp : pc + 1 = pc')  (h : own_Fin p.tables e below Rr T (mkF m pc' Ls (.int (x * y) :: st))) : own_Fin p.tables e below Rr T (mkF m pc Ls (.int y :: .int x :: st)) := by
  subst hp; exact own_st h (fun t k => XS.imul X.here hx rfl hd rfl k)
theorem own_lmul (X : Stand p l e R s m args below meth c T locs kc ks) (hx : p.tables.exec = Jvm.exec) {x y : Int64} (hd : decode c.code pc = .ok (.lmul, 1)) (hp : pc + 1 = pc')  (h : own_Fin p.tables e below Rr T (mkF m pc' Ls (.long (x * y) :: st))) : own_Fin p.tables e below Rr T (mkF m pc Ls (.long y :: .long x :: st)) := by
  subst hp; exact own_st h (fun t k => XS.lmul X.here hx rfl hd rfl k)
theorem own_iand (X : Stand p l e R s m args below meth c T locs kc ks) (hx : p.tables.exec = Jvm.exec) {x y : Int32} (hd : decode c.code pc = .ok (.iand, 1)) (hp : pc + 1 = pc')  (h : own_Fin p.tables e below Rr T (mkF m pc' Ls (.int (x &&& y) :: st))) : own_Fin p.tables e below Rr T (mkF m pc Ls (.int y :: .int x :: st)) := by
  subst hp; exact own_st h (fun t k => XS.iand X.here hx rfl hd rfl k)
theorem own_land (X : Stand p l e R s m args below meth c T locs kc ks) (hx : p.tables.exec = Jvm.exec) {x y : Int64} (hd : decode c.code pc = .ok (.land, 1)) (hp : pc + 1 = pc')  (h : own_Fin p.tables e below Rr T (mkF m pc' Ls (.long (x &&& y) :: st))) : own_Fin p.tables e below Rr T (mkF m pc Ls (.long y :: .long x :: st)) := by
  subst hp; exact own_st h (fun t k => XS.land X.here hx rfl hd rfl k)
theorem own_ior (X : Stand p l e R s m args below meth c T locs kc ks) (hx : p.tables.exec = Jvm.exec) {x y : Int32} (hd : decode c.code pc = .ok (.ior, 1)) (hp : pc + 1 = pc')  (h : own_Fin p.tables e below Rr T (mkF m pc' Ls (.int (x ||| y) :: st))) : own_Fin p.tables e below Rr T (mkF m pc Ls (.int y :: .int x :: st)) := by
  subst hp; exact own_st h (fun t k => XS.ior X.here hx rfl hd rfl k)
theorem own_lor (X : Stand p l e R s m args below meth c T locs kc ks) (hx : p.tables.exec = Jvm.exec) {x y : Int64} (hd : decode c.code pc = .ok (.lor, 1)) (hp : pc + 1 = pc')  (h : own_Fin p.tables e below Rr T (mkF m pc' Ls (.long (x ||| y) :: st))) : own_Fin p.tables e below Rr T (mkF m pc Ls (.long y :: .long x :: st)) := by
  subst hp; exact own_st h (fun t k => XS.lor X.here hx rfl hd rfl k)
theorem own_ixor (X : Stand p l e R s m args below meth c T locs kc ks) (hx : p.tables.exec = Jvm.exec) {x y : Int32} (hd : decode c.code pc = .ok (.ixor, 1)) (hp : pc + 1 = pc')  (h : own_Fin p.tables e below Rr T (mkF m pc' Ls (.int (x ^^^ y) :: st))) : own_Fin p.tables e below Rr T (mkF m pc Ls (.int y :: .int x :: st)) := by
  subst hp; exact own_st h (fun t k => XS.ixor X.here hx rfl hd rfl k)
theorem own_lxor (X : Stand p l e R s m args below meth c T locs kc ks) (hx : p.tables.exec = Jvm.exec) {x y : Int64} (hd : decode c.code pc = .ok (.lxor, 1)) (hp : pc + 1 = pc')  (h : own_Fin p.tables e below Rr T (mkF m pc' Ls (.long (x ^^^ y) :: st))) : own_Fin p.tables e below Rr T (mkF m pc Ls (.long y :: .long x :: st)) := by
  subst hp; exact own_st h (fun t k => XS.lxor X.here hx rfl hd rfl k)
theorem own_idiv (X : Stand p l e R s m args below meth c T locs kc ks) (hx : p.tables.exec = Jvm.exec) {x y : Int32} (hd : decode c.code pc = .ok (.idiv, 1)) (hp : pc + 1 = pc') (hy : y ≠ 0) (h : own_Fin p.tables e below Rr T (mkF m pc' Ls (.int (x / y) :: st))) : own_Fin p.tables e below Rr T (mkF m pc Ls (.int y :: .int x :: st)) := by
  subst hp; exact own_st h (fun t k => XS.idiv X.here hx rfl hd rfl hy k)
theorem own_ldiv (X : Stand p l e R s m args below meth c T locs kc ks) (hx : p.tables.exec = Jvm.exec) {x y : Int64} (hd : decode c.code pc = .ok (.ldiv, 1)) (hp : pc + 1 = pc') (hy : y ≠ 0) (h : own_Fin p.tables e below Rr T (mkF m pc' Ls (.long (x / y) :: st))) : own_Fin p.tables e below Rr T (mkF m pc Ls (.long y :: .long x :: st)) := by
  subst hp; exact own_st h (fun t k => XS.ldiv X.here hx rfl hd rfl hy k)
theorem own_irem (X : Stand p l e R s m args below meth c T locs kc ks) (hx : p.tables.exec = Jvm.exec) {x y : Int32} (hd : decode c.code pc = .ok (.irem, 1)) (hp : pc + 1 = pc') (hy : y ≠ 0) (h : own_Fin p.tables e below Rr T (mkF m pc' Ls (.int (x - (x / y) * y) :: st))) : own_Fin p.tables e below Rr T (mkF m pc Ls (.int y :: .int x :: st)) := by
  subst hp; exact own_st h (fun t k => XS.irem X.here hx rfl hd rfl hy k)
theorem own_lrem (X : Stand p l e R s m args below meth c T locs kc ks) (hx : p.tables.exec = Jvm.exec) {x y : Int64} (hd : decode c.code pc = .ok (.lrem, 1)) (hp : pc + 1 = pc') (hy : y ≠ 0) (h : own_Fin p.tables e below Rr T (mkF m pc' Ls (.long (x - (x / y) * y) :: st))) : own_Fin p.tables e below Rr T (mkF m pc Ls (.long y :: .long x :: st)) := by
  subst hp; exact own_st h (fun t k => XS.lrem X.here hx rfl hd rfl hy k)
theorem own_ishl (X : Stand p l e R s m args below meth c T locs kc ks) (hx : p.tables.exec = Jvm.exec) {x y : Int32} (hd : decode c.code pc = .ok (.ishl, 1)) (hp : pc + 1 = pc')  (h : own_Fin p.tables e below Rr T (mkF m pc' Ls (.int (x <<< (y &&& 31)) :: st))) : own_Fin p.tables e below Rr T (mkF m pc Ls (.int y :: .int x :: st)) := by
  subst hp; exact own_st h (fun t k => XS.ishl X.here hx rfl hd rfl k)
theorem own_ishr (X : Stand p l e R s m args below meth c T locs kc ks) (hx : p.tables.exec = Jvm.exec) {x y : Int32} (hd : decode c.code pc = .ok (.ishr, 1)) (hp : pc + 1 = pc')  (h : own_Fin p.tables e below Rr T (mkF m pc' Ls (.int (x >>> (y &&& 31)) :: st))) : own_Fin p.tables e below Rr T (mkF m pc Ls (.int y :: .int x :: st)) := by
  subst hp; exact own_st h (fun t k => XS.ishr X.here hx rfl hd rfl k)
theorem own_iushr (X : Stand p l e R s m args below meth c T locs kc ks) (hx : p.tables.exec = Jvm.exec) {x y : Int32} (hd : decode c.code pc = .ok (.iushr, 1)) (hp : pc + 1 = pc')  (h : own_Fin p.tables e below Rr T (mkF m pc' Ls (.int (own_ush32 x y) :: st))) : own_Fin p.tables e below Rr T (mkF m pc Ls (.int y :: .int x :: st)) := by
  subst hp; exact own_st h (fun t k => XS.iushr X.here hx rfl hd rfl k)
theorem own_lshl (X : Stand p l e R s m args below meth c T locs kc ks) (hx : p.tables.exec = Jvm.exec) {x : Int64} {y : Int32} (hd : decode c.code pc = .ok (.lshl, 1)) (hp : pc + 1 = pc')  (h : own_Fin p.tables e below Rr T (mkF m pc' Ls (.long (x <<< (y &&& 63).toInt64) :: st))) : own_Fin p.tables e below Rr T (mkF m pc Ls (.int y :: .long x :: st)) := by
  subst hp; exact own_st h (fun t k => XS.lshl X.here hx rfl hd rfl k)
theorem own_lshr (X : Stand p l e R s m args below meth c T locs kc ks) (hx : p.tables.exec = Jvm.exec) {x : Int64} {y : Int32} (hd : decode c.code pc = .ok (.lshr, 1)) (hp : pc + 1 = pc')  (h : own_Fin p.tables e below Rr T (mkF m pc' Ls (.long (x >>> (y &&& 63).toInt64) :: st))) : own_Fin p.tables e below Rr T (mkF m pc Ls (.int y :: .long x :: st)) := by
  subst hp; exact own_st h (fun t k => XS.lshr X.here hx rfl hd rfl k)
theorem own_lushr (X : Stand p l e R s m args below meth c T locs kc ks) (hx : p.tables.exec = Jvm.exec) {x : Int64} {y : Int32} (hd : decode c.code pc = .ok (.lushr, 1)) (hp : pc + 1 = pc')  (h : own_Fin p.tables e below Rr T (mkF m pc' Ls (.long (own_ush64 x y) :: st))) : own_Fin p.tables e below Rr T (mkF m pc Ls (.int y :: .long x :: st)) := by
  subst hp; exact own_st h (fun t k => XS.lushr X.here hx rfl hd rfl k)
theorem own_ineg (X : Stand p l e R s m args below meth c T locs kc ks) (hx : p.tables.exec = Jvm.exec) {x : Int32} (hd : decode c.code pc = .ok (.ineg, 1)) (hp : pc + 1 = pc')  (h : own_Fin p.tables e below Rr T (mkF m pc' Ls (.int (-x) :: st))) : own_Fin p.tables e below Rr T (mkF m pc Ls (.int x :: st)) := by
  subst hp; exact own_st h (fun t k => XS.ineg X.here hx rfl hd rfl k)
theorem own_lneg (X : Stand p l e R s m args below meth c T locs kc ks) (hx : p.tables.exec = Jvm.exec) {x : Int64} (hd : decode c.code pc = .ok (.lneg, 1)) (hp : pc + 1 = pc')  (h : own_Fin p.tables e below Rr T (mkF m pc' Ls (.long (-x) :: st))) : own_Fin p.tables e below Rr T (mkF m pc Ls (.long x :: st)) := by
  subst hp; exact own_st h (fun t k => XS.lneg X.here hx rfl hd rfl k)
theorem own_i2l (X : Stand p l e R s m args below meth c T locs kc ks) (hx : p.tables.exec = Jvm.exec) {x : Int32} (hd : decode c.code pc = .ok (.i2l, 1)) (hp : pc + 1 = pc')  (h : own_Fin p.tables e below Rr T (mkF m pc' Ls (.long (x.toInt64) :: st))) : own_Fin p.tables e below Rr T (mkF m pc Ls (.int x :: st)) := by
  subst hp; exact own_st h (fun t k => XS.i2l X.here hx rfl hd rfl k)
theorem own_l2i (X : Stand p l e R s m args below meth c T locs kc ks) (hx : p.tables.exec = Jvm.exec) {x : Int64} (hd : decode c.code pc = .ok (.l2i, 1)) (hp : pc + 1 = pc')  (h : own_Fin p.tables e below Rr T (mkF m pc' Ls (.int (x.toInt32) :: st))) : own_Fin p.tables e below Rr T (mkF m pc Ls (.long x :: st)) := by
  subst hp; exact own_st h (fun t k => XS.l2i X.here hx rfl hd rfl k)
theorem own_i2b (X : Stand p l e R s m args below meth c T locs kc ks) (hx : p.tables.exec = Jvm.exec) {x : Int32} (hd : decode c.code pc = .ok (.i2b, 1)) (hp : pc + 1 = pc')  (h : own_Fin p.tables e below Rr T (mkF m pc' Ls (.int (x.toInt8.toInt32) :: st))) : own_Fin p.tables e below Rr T (mkF m pc Ls (.int x :: st)) := by
  subst hp; exact own_st h (fun t k => XS.i2b X.here hx rfl hd rfl k)
theorem own_i2s (X : Stand p l e R s m args below meth c T locs kc ks) (hx : p.tables.exec = Jvm.exec) {x : Int32} (hd : decode c.code pc = .ok (.i2s, 1)) (hp : pc + 1 = pc')  (h : own_Fin p.tables e below Rr T (mkF m pc' Ls (.int (x.toInt16.toInt32) :: st))) : own_Fin p.tables e below Rr T (mkF m pc Ls (.int x :: st)) := by
  subst hp; exact own_st h (fun t k => XS.i2s X.here hx rfl hd rfl k)
theorem own_lcmp (X : Stand p l e R s m args below meth c T locs kc ks) (hx : p.tables.exec = Jvm.exec) {x y : Int64} (hd : decode c.code pc = .ok (.lcmp, 1)) (hp : pc + 1 = pc')  (h : own_Fin p.tables e below Rr T (mkF m pc' Ls (.int (lcmpW x y) :: st))) : own_Fin p.tables e below Rr T (mkF m pc Ls (.long y :: .long x :: st)) := by
  subst hp; exact own_st h (fun t k => XS.lcmp X.here hx rfl hd rfl k)
theorem own_iinc (X : Stand p l e R s m args below meth c T locs kc ks) (hx : p.tables.exec = Jvm.exec) {j : Nat} {i : Int} {x : Int32} (hd : decode c.code pc = .ok (.iinc j i, 3)) (hp : pc + 3 = pc') (hl : Ls[j]? = some (.val (.int x))) (hl' : storeLocals Ls j (.int (x + Int32.ofInt i)) = some Ls') (h : own_Fin p.tables e below Rr T (mkF m pc' Ls' st)) : own_Fin p.tables e below Rr T (mkF m pc Ls st) := by
  subst hp; exact own_st h (fun t k => XS.iinc X.here hx rfl hd hl hl' k)
theorem own_dup (X : Stand p l e R s m args below meth c T locs kc ks) (hx : p.tables.exec = Jvm.exec) {v : Value} (hd : decode c.code pc = .ok (.dup, 1)) (hp : pc + 1 = pc') (hc : v.category = 1) (h : own_Fin p.tables e below Rr T (mkF m pc' Ls (v :: v :: st))) : own_Fin p.tables e below Rr T (mkF m pc Ls (v :: st)) := by
  subst hp; exact own_st h (fun t k => XS.dup X.here hx rfl hd rfl hc k)
theorem own_pop (X : Stand p l e R s m args below meth c T locs kc ks) (hx : p.tables.exec = Jvm.exec) {v : Value} (hd : decode c.code pc = .ok (.pop, 1)) (hp : pc + 1 = pc') (hc : v.category = 1) (h : own_Fin p.tables e below Rr T (mkF m pc' Ls st)) : own_Fin p.tables e below Rr T (mkF m pc Ls (v :: st)) := by
  subst hp; exact own_st h (fun t k => XS.pop X.here hx rfl hd rfl hc k)
theorem own_goto (X : Stand p l e R s m args below meth c T locs kc ks) (hx : p.tables.exec = Jvm.exec) {o : Int} (hd : decode c.code pc = .ok (.goto o, 3))  (ho : 0 ≤ (pc : Int) + o) (hp : ((pc : Int) + o).toNat = pc') (h : own_Fin p.tables e below Rr T (mkF m pc' Ls st)) : own_Fin p.tables e below Rr T (mkF m pc Ls st) := own_st h (fun t k => XS.goto X.here hx rfl (pc0 := pc) (pc' := pc') rfl hd ho hp k)
theorem own_ifYes (X : Stand p l e R s m args below meth c T locs kc ks) (hx : p.tables.exec = Jvm.exec) {cd : ClassFile.Cond} {o : Int} {x : Int32} (hd : decode c.code pc = .ok (.ifCond cd o, 3)) (hc : ifCond.holds cd x = true) (ho : 0 ≤ (pc : Int) + o) (hp : ((pc : Int) + o).toNat = pc') (h : own_Fin p.tables e below Rr T (mkF m pc' Ls st)) : own_Fin p.tables e below Rr T (mkF m pc Ls (.int x :: st)) := own_st h (fun t k => XS.ifYes X.here hx rfl (pc0 := pc) (pc' := pc') rfl hd rfl hc ho hp k)
theorem own_icmpYes (X : Stand p l e R s m args below meth c T locs kc ks) (hx : p.tables.exec = Jvm.exec) {cd : ClassFile.Cond} {o : Int} {x y : Int32} (hd : decode c.code pc = .ok (.if_icmp cd o, 3)) (hc : if_icmp.holds cd x y = true) (ho : 0 ≤ (pc : Int) + o) (hp : ((pc : Int) + o).toNat = pc') (h : own_Fin p.tables e below Rr T (mkF m pc' Ls st)) : own_Fin p.tables e below Rr T (mkF m pc Ls (.int y :: .int x :: st)) := own_st h (fun t k => XS.icmpYes X.here hx rfl (pc0 := pc) (pc' := pc') rfl hd rfl hc ho hp k)
theorem own_ifNo (X : Stand p l e R s m args below meth c T locs kc ks) (hx : p.tables.exec = Jvm.exec) {cd : ClassFile.Cond} {o : Int} {x : Int32} (hd : decode c.code pc = .ok (.ifCond cd o, 3)) (hp : pc + 3 = pc') (hc : ifCond.holds cd x = false) (h : own_Fin p.tables e below Rr T (mkF m pc' Ls st)) : own_Fin p.tables e below Rr T (mkF m pc Ls (.int x :: st)) := by
  subst hp; exact own_st h (fun t k => XS.ifNo X.here hx rfl hd rfl hc k)
theorem own_icmpNo (X : Stand p l e R s m args below meth c T locs kc ks) (hx : p.tables.exec = Jvm.exec) {cd : ClassFile.Cond} {o : Int} {x y : Int32} (hd : decode c.code pc = .ok (.if_icmp cd o, 3)) (hp : pc + 3 = pc') (hc : if_icmp.holds cd x y = false) (h : own_Fin p.tables e below Rr T (mkF m pc' Ls st)) : own_Fin p.tables e below Rr T (mkF m pc Ls (.int y :: .int x :: st)) := by
  subst hp; exact own_st h (fun t k => XS.icmpNo X.here hx rfl hd rfl hc k)
theorem own_ldcInt (X : Stand p l e R s m args below meth c T locs kc ks) (hx : p.tables.exec = Jvm.exec) {own : String} {index : Nat} {v : Int32} (hZ : Z.Warmed39 s.vm) (hown : s.vm.findClass own = some m.cls) (w : (Jvm.Cond.constant own index v).before a0 Z = true) (hd : decode c.code pc = .ok (.ldc index, 2)) (hp : pc + 2 = pc') (h : own_Fin p.tables e below Rr T (mkF m pc' Ls (.int v :: st))) : own_Fin p.tables e below Rr T (mkF m pc Ls st) := by
  subst hp; exact own_st h (fun t k => X.ldcInt hx hown (mvT hZ w) (g := mkF m pc Ls st) rfl hd t k)
theorem own_ldc2Long (X : Stand p l e R s m args below meth c T locs kc ks) (hx : p.tables.exec = Jvm.exec) {own : String} {index : Nat} {v : Int64} (hZ : Z.Warmed39 s.vm) (hown : s.vm.findClass own = some m.cls) (w : (Jvm.Cond.constantLong own index v).before a0 Z = true) (hd : decode c.code pc = .ok (.ldc2_w index, 3)) (hp : pc + 3 = pc') (h : own_Fin p.tables e below Rr T (mkF m pc' Ls (.long v :: st))) : own_Fin p.tables e below Rr T (mkF m pc Ls st) := by
  subst hp; exact own_st h (fun t k => X.ldc2Long hx hown (mvT hZ w) (g := mkF m pc Ls st) rfl hd t k)
theorem own_getF (X : Stand p l e R s m args below meth c T locs kc ks) (hx : p.tables.exec = Jvm.exec) {own R0 O n d : String} {index : Nat} {a : Addr} {v : Value} (hZ : Z.Warmed39 s.vm) (hown : s.vm.findClass own = some m.cls) (w : (Jvm.Cond.fieldLink own index R0 n d).before a0 Z = true) (via : Via Z R0 O n d) (eT : T.heap = h) (Fl : Fld Z h a O n d v) (hd : decode c.code pc = .ok (.getfield index, 3)) (hp : pc + 3 = pc')
    (k : ∀ T', Stand p l e R s m args below meth c T' locs kc ks → T'.heap = h → own_Fin p.tables e below Rr T' (mkF m pc' Ls (v :: st))) : own_Fin p.tables e below Rr T (mkF m pc Ls (.ref a :: st)) := by
  obtain ⟨T', X', e', st'⟩ := getF X hx hZ hown (host := "") (Or.inl w) via eT Fl (g := mkF m pc Ls (.ref a :: st)) rfl rfl hd
  subst hp; exact own_st (k T' X' e') st'
end OwnStep
section OwnPop
variable {p : Program} {l : Launch} {e : Env} {R : Room} {s : State} {m : MethodId} {args : Array Value} {below : List Frame} {meth : Method} {c : Code} {T : State} {locs : List Loc} {k n : Nat}
theorem own_pop2 (X : Stand p l e R s m args below meth c T locs k n) (hx : p.tables.exec = Jvm.exec) {pc : Nat} {Ls : Array Slot} {z : Int64} {rest : List Value} {t : State} (hd : decode c.code pc = .ok (.pop2, 1)) (hr : Steps p.tables e below (T.setTop (mkF m (pc + 1) Ls rest)) t) : Steps p.tables e below (T.setTop (mkF m pc Ls (.long z :: rest))) t := by
  jvm_step X.here [X.here.top, hx, hd, Value.category]
  exact hr
end OwnPop
section OwnRet
variable {p : Program} {l : Launch} {e : Env} {R : Room} {s : State} {m : MethodId} {args : Array Value} {below : List Frame} {meth : Method} {c : Code} {T : State} {locs : List Loc} {k n k' n' : Nat} {Q : Option Value → Heap → List Loc → Prop} {pc : Nat} {Ls : Array Slot}
theorem own_retN (X : Stand p l e R s m args below meth c T locs k n) (hx : p.tables.exec = Jvm.exec) {t : FieldType} (hret : meth.sig.returnType = some t) (ht : t = .boolean ∨ t = .byte ∨ t = .char ∨ t = .short) (hlk : meth.locks = false) {z : Int32} {rest : List Value} (hd : decode c.code pc = .ok (.ireturn, 1)) (hk : k ≤ k') (hn : n ≤ n') (hq : Q (some (.int (nar t z))) T.heap locs) : own_Fin p.tables e below (own_End below s Q k' n') T (mkF m pc Ls (.int z :: rest)) := by
  obtain ⟨fs, hr, hrun, hended, hW, hsame⟩ := X.leave (v := some (.int (nar t z))) (fun h => by rw [hret] at h; cases h) hlk
  exact ⟨_, retN X hx hret ht hd hr, hrun, _, hended, _, _, rfl, hq, ⟨_, rfl⟩, hW, hsame.mono hk hn⟩
theorem own_retNW {vm₁ : Vm} {k0 : Nat} (X : Stand p l e R (s.setVm vm₁) m args below meth c T locs k n) (hx : p.tables.exec = Jvm.exec) (hS : s.Since vm₁ k0) (hk0 : k0 ≤ T.heap.size) {t : FieldType} (hret : meth.sig.returnType = some t) (ht : t = .boolean ∨ t = .byte ∨ t = .char ∨ t = .short) (hlk : meth.locks = false) {z : Int32} {rest : List Value} (hd : decode c.code pc = .ok (.ireturn, 1)) (hk : k ≤ k') (hn : n ≤ n') (hq : Q (some (.int (nar t z))) T.heap locs) : own_Fin p.tables e below (own_EndW below s Q k' n') T (mkF m pc Ls (.int z :: rest)) := by
  obtain ⟨fs, hr, hrun, hended, hW⟩ := X.leaveW hS hk0 (v := some (.int (nar t z))) (fun h => by rw [hret] at h; cases h) hlk
  exact ⟨_, retN X hx hret ht hd hr, hrun, _, hended, _, _, rfl, hq, hW.1, hW.2.1, hW.2.2.1, hW.2.2.2.mono hk hn⟩
theorem own_retI (X : Stand p l e R s m args below meth c T locs k n) (hx : p.tables.exec = Jvm.exec) (hret : meth.sig.returnType = some .int) (hlk : meth.locks = false) {z : Int32} {rest : List Value} (hd : decode c.code pc = .ok (.ireturn, 1)) (hk : k ≤ k') (hn : n ≤ n') (hq : Q (some (.int z)) T.heap locs) : own_Fin p.tables e below (own_End below s Q k' n') T (mkF m pc Ls (.int z :: rest)) := by
  obtain ⟨fs, hr, hrun, hended, hW, hsame⟩ := X.leave (v := some (.int z)) (fun h => by rw [hret] at h; cases h) hlk
  exact ⟨_, retI X hx hret hd hr, hrun, _, hended, _, _, rfl, hq, ⟨_, rfl⟩, hW, hsame.mono hk hn⟩
theorem own_retJ (X : Stand p l e R s m args below meth c T locs k n) (hx : p.tables.exec = Jvm.exec) (hret : meth.sig.returnType = some .long) (hlk : meth.locks = false) {z : Int64} (hd : decode c.code pc = .ok (.lreturn, 1)) (hk : k ≤ k') (hn : n ≤ n') (hq : Q (some (.long z)) T.heap locs) : own_Fin p.tables e below (own_End below s Q k' n') T (mkF m pc Ls [.long z]) := by
  obtain ⟨fs, hr, hrun, hended, hW, hsame⟩ := X.leave (v := some (.long z)) (fun h => by rw [hret] at h; cases h) hlk
  exact ⟨_, lreturnOut X hx hret hd hr, hrun, _, hended, _, _, rfl, hq, ⟨_, rfl⟩, hW, hsame.mono hk hn⟩
theorem own_retV (X : Stand p l e R s m args below meth c T locs k n) (hx : p.tables.exec = Jvm.exec) (hret : meth.sig.returnType = none) (hlk : meth.locks = false) (hd : decode c.code pc = .ok (.return_, 1)) (hk : k ≤ k') (hn : n ≤ n') (hq : Q none T.heap locs) : own_Fin p.tables e below (own_End below s Q k' n') T (mkF m pc Ls []) := by
  obtain ⟨fs, hr, hrun, hended, hW, hsame⟩ := X.leave (v := none) (fun _ => rfl) hlk
  exact ⟨_, X.returnOut hx hret hd hr, hrun, _, hended, _, _, rfl, hq, ⟨_, rfl⟩, hW, hsame.mono hk hn⟩
end OwnRet
end Jvm.Pilot.@@N@@
namespace Jvm.Pilot.@@N@@
open Jvm Jvm.ClassFile Sem Op Lib Jvm.Free Jvm.Stand Jvm.LawKit Jvm.RoadKit Bundle Jvm.Pilot.@@N@@.Jvm.D
theorem pd_0 : parseMethodDescriptor "()V" = some ⟨[], none⟩ := by decide +kernel
theorem pd_1 : parseMethodDescriptor "(J)V" = some ⟨[.long], none⟩ := by decide +kernel
theorem pd_2 : parseMethodDescriptor "(Lcom/example/keystrand/keystrand/model/Amount;)Z" = some ⟨[(.object "com/example/keystrand/keystrand/model/Amount")], some .boolean⟩ := by decide +kernel
theorem d2_0 : decode jdk_30_method_1_code 0 = .ok (.aload_n 0, 1) := by decide +kernel
theorem d2_1 : decode jdk_30_method_1_code 1 = .ok (.invokespecial 1, 3) := by decide +kernel
theorem d2_4 : decode jdk_30_method_1_code 4 = .ok (.return_, 1) := by decide +kernel
theorem pn_2 : plainName "java/lang/Record" = true := by first | (simp [plainName, overriddenIn]; done) | decide +kernel
set_option maxRecDepth 65536 in
set_option maxHeartbeats 40000000 in
theorem sg2_0 {p : Program} (l : Launch) {e : Env} {s : State} {m : MethodId} {args : Array Value} {below : List Frame} {meth : Method} {c : Code} {Z : State} {a0 : Array Value} (hw : ∀ d ∈ tables_1, d.before a0 Z = true) (hx : p.tables.exec = Jvm.exec) (hZ : Z.Warmed39 s.vm) (hby : c.code = jdk_30_method_1_code) (hml : c.maxLocals = 1) (hown : s.vm.findClass "java/lang/Record" = some m.cls) (hnm : meth.name = "<init>") (hret : meth.sig.returnType = none) (hlk : meth.locks = false) (q1 : Addr) {h0 : Heap} {n0 : Nat} (Z0 : n0 ≤ h0.size) {T0 : State} {L0 : List Loc} (X0 : Stand p l e ({ frames := 1, cells := 0, slots := 0, locals := 12 } : Room) s m args below meth c T0 L0 0 0) (N0 : Fr n0 L0) (e0 : T0.heap = h0)  :
    own_Fin p.tables e below (own_End below s (own_P h0 n0 none) 0 0) T0 (mkF m 0 #[.val (.ref q1)] []) := by
  refine own_aloadN X0 hx (hb hby d2_0) (pc' := 1) rfl rfl rfl ?_
  obtain ⟨T1, X1, e1, st1⟩ := initO X0 hx hZ hown (hw _ (List.mem_of_getElem? (i := 13) rfl)) (hw _ (List.mem_of_getElem? (i := 14) rfl)) (hw _ (List.mem_of_getElem? (i := 15) rfl)) e0 (g := (mkF m 1 #[.val (.ref q1)] [(.ref q1)])) rfl (by rw [hml]; rfl) rfl (hb hby d2_1) (by decide) (W := 0) (by show 2 * 0 + _ ≤ _; exact Nat.le_of_eq rfl) (by decide)
  refine own_st ?_ st1
  show own_Fin _ _ _ _ T1 (mkF m 4 #[.val (.ref q1)] [])
  refine own_retV X1 hx hret hlk (hb hby d2_4) (by decide) (by decide) ?_
  show own_P _ _ _ _ T1.heap _
  exact ⟨rfl, N0, e1⟩
theorem ef_2 (m : MethodId) (q1 : Addr) : entryFrame m #[(.ref q1)] 1 = mkF m 0 #[.val (.ref q1)] [] := by first | (simp [entryFrame, mkF, argsToLocals, Value.category]; done) | rfl
set_option maxRecDepth 65536 in
set_option maxHeartbeats 40000000 in
theorem rm2 (l : Launch) (Z : State) (a0 : Array Value) (hw : ∀ d ∈ tables_1, d.before a0 Z = true) (ws : List Jvm.Cond) (q1 : Addr) (h0 : Heap) (n0 : Nat) (Z0 : n0 ≤ h0.size)  :
    MetFree l (⟨"java/lang/Record", "<init>", "()V"⟩ : MethodName) (head1 (Jvm.Cond.code (⟨"java/lang/Record", "<init>", "()V"⟩ : MethodName) jdk_30_method_1_code 1 none :: ws) ({ frames := 1, cells := 0, slots := 0, locals := 12 } : Room)) (fun a U => a = #[(.ref q1)] ∧ Z.Warmed39 U.vm ∧ U.heap = h0) (fun _ _ _ _ _ => True) (fun _ U o U' => ∃ v L, o = .returned v ∧ (own_P h0 n0 none) v U'.heap L ∧ FrameEnd U o U' L ({ frames := 1, cells := 0, slots := 0, locals := 12 } : Room).cells ({ frames := 1, cells := 0, slots := 0, locals := 12 } : Room).slots) := by
  refine MetFree.of_bodySF (plainFor_of_name pn_2) hisR ?_
  intro p e s m args below meth c s₁ Bd hml0 hP hK
  obtain ⟨rfl, hZ, hh⟩ := hP
  have hown : s.vm.findClass "java/lang/Record" = some m.cls := findClass_of_methodNamed Bd.named
  have hnm := (name_of_methodNamed Bd.named Bd.method).1
  have X0 : Stand p l e ({ frames := 1, cells := 0, slots := 0, locals := 12 } : Room) s m #[(.ref q1)] below meth c s₁ [] 0 0 := Stand.of_body Bd
  have e0 : s₁.heap = h0 := by rw [← hh, Bd.state]; rfl
  have H := sg2_0 l hw Bd.exec hZ Bd.bytes hml0 hown hnm Bd.returns Bd.notSynchronized q1 Z0 X0 (Fr.nil n0) e0
  obtain ⟨t, h1, h2, o, h3, h4⟩ := H
  exact ⟨t, o, castTop (ef_2 m q1) h1, h2, h3, h4⟩
theorem d1_0 : decode prog_21_method_1_code 0 = .ok (.aload_n 0, 1) := by decide +kernel
theorem d1_1 : decode prog_21_method_1_code 1 = .ok (.invokespecial 1, 3) := by decide +kernel
theorem d1_4 : decode prog_21_method_1_code 4 = .ok (.lload_n 1, 1) := by decide +kernel
theorem d1_5 : decode prog_21_method_1_code 5 = .ok (.lconst 0, 1) := by decide +kernel
theorem d1_6 : decode prog_21_method_1_code 6 = .ok (.lcmp, 1) := by decide +kernel
theorem d1_7 : decode prog_21_method_1_code 7 = .ok (.ifCond .ge 17, 3) := by decide +kernel
theorem d1_10 : decode prog_21_method_1_code 10 = .ok (.new 7, 3) := by decide +kernel
theorem d1_13 : decode prog_21_method_1_code 13 = .ok (.dup, 1) := by decide +kernel
theorem d1_14 : decode prog_21_method_1_code 14 = .ok (.lload_n 1, 1) := by decide +kernel
theorem d1_15 : decode prog_21_method_1_code 15 = .ok (.invokedynamic 9, 5) := by decide +kernel
theorem d1_20 : decode prog_21_method_1_code 20 = .ok (.invokespecial 13, 3) := by decide +kernel
theorem d1_23 : decode prog_21_method_1_code 23 = .ok (.athrow, 1) := by decide +kernel
theorem d1_24 : decode prog_21_method_1_code 24 = .ok (.aload_n 0, 1) := by decide +kernel
theorem d1_25 : decode prog_21_method_1_code 25 = .ok (.lload_n 1, 1) := by decide +kernel
theorem d1_26 : decode prog_21_method_1_code 26 = .ok (.putfield 16, 3) := by decide +kernel
theorem d1_29 : decode prog_21_method_1_code 29 = .ok (.return_, 1) := by decide +kernel
theorem pn_1 : plainName "com/example/keystrand/keystrand/model/Amount" = true := by first | (simp [plainName, overriddenIn]; done) | decide +kernel
def own_Q1 (Z : State) (q1 : Addr) (q2 : Int64) (w_minorUnits_q1 : Int64) (h0 : Heap) (n0 : Nat) (v : Option Value) (h : Heap) (L : List Loc) : Prop := v = none ∧ Fr n0 L ∧ Keep h0 h [q1] ∧ Exa Z h q1 "com/example/keystrand/keystrand/model/Amount" ∧ Fld Z h q1 "com/example/keystrand/keystrand/model/Amount" "minorUnits" "J" (.long q2)
set_option maxRecDepth 65536 in
set_option maxHeartbeats 40000000 in
theorem sg1_0 {p : Program} (l : Launch) {e : Env} {s : State} {m : MethodId} {args : Array Value} {below : List Frame} {meth : Method} {c : Code} {Z : State} {a0 : Array Value} (hw : ∀ d ∈ tables_1, d.before a0 Z = true) (hx : p.tables.exec = Jvm.exec) (hZ : Z.Warmed39 s.vm) (hby : c.code = prog_21_method_1_code) (hml : c.maxLocals = 3) (hown : s.vm.findClass "com/example/keystrand/keystrand/model/Amount" = some m.cls) (hnm : meth.name = "<init>") (hret : meth.sig.returnType = none) (hlk : meth.locks = false) (q1 : Addr) (q2 : Int64) (w_minorUnits_q1 : Int64) {h0 : Heap} {n0 : Nat} (Z0 : n0 ≤ h0.size) {T0 : State} {L0 : List Loc} (X0 : Stand p l e ({ frames := 2, cells := 0, slots := 0, locals := 24 } : Room) s m args below meth c T0 L0 0 0) (N0 : Fr n0 L0) (e0 : T0.heap = h0) (E_q1 : Exa Z h0 q1 "com/example/keystrand/keystrand/model/Amount") (g_q1 : n0 ≤ q1) (F_minorUnits_q1 : Fld Z h0 q1 "com/example/keystrand/keystrand/model/Amount" "minorUnits" "J" (.long w_minorUnits_q1)) (hc7 : ¬ (q2 < (0 : Int64))) :
    own_Fin p.tables e below (own_End below s (own_Q1 Z q1 q2 w_minorUnits_q1 h0 n0) 0 0) T0 (mkF m 0 #[.val (.ref q1), .val (.long q2), .second] []) := by
  have K0 := Keep.refl h0 [q1]
  refine own_aloadN X0 hx (hb hby d1_0) (pc' := 1) rfl rfl rfl ?_
  obtain ⟨_, _, ⟨T2, L2, k2, n2⟩, -, X2, ⟨Lc2, hQ2, l2, y2, z2⟩, st2⟩ := X0.specialBack hx (y := (⟨"java/lang/Record", "<init>", "()V"⟩ : MethodName)) rfl hown (mvT hZ (hw _ (List.mem_of_getElem? (i := 8) rfl))) (mvT hZ (hw _ (List.mem_of_getElem? (i := 9) rfl))) (mvT hZ (hw _ (List.mem_of_getElem? (i := 12) rfl))) (by decide) (backOf (W := 0) (rm2 l Z a0 hw [] q1 h0 n0 Z0 ) hZ (hw _ (List.mem_of_getElem? (i := 12) rfl)) (hw _ (List.mem_of_getElem? (i := 11) rfl)) (by decide) (by decide)) (g := (mkF m 1 #[.val (.ref q1), .val (.long q2), .second] [(.ref q1)])) rfl (by rw [hml]; rfl) (Steps.refl _) (a := q1) (argsL := []) (rest := []) (lenOf pd_0 rfl) rfl (by show 2 * 0 + _ ≤ _; exact Nat.le_of_eq rfl) (hb hby d1_1) (fun _ _ => ⟨rfl, e0, (by decide : 0 + 0 ≤ _), (by decide : 0 + 0 ≤ _)⟩)
  dsimp only [Pt.U, Pt.locs, Pt.cells, Pt.slots] at X2 l2 y2 z2 st2 hQ2
  subst l2 y2 z2
  obtain ⟨rfl, N2q, e2'⟩ := hQ2
  have N2 := Fr.app N0 N2q
  refine own_st ?_ (fun t k => st2.trans k)
  show own_Fin _ _ _ _ T2 (mkF m 4 #[.val (.ref q1), .val (.long q2), .second] [])
  refine own_lloadN X2 hx (hb hby d1_4) (pc' := 5) rfl rfl ?_
  refine own_lconst X2 hx (hb hby d1_5) (pc' := 6) rfl (v := (0 : Int64)) rfl ?_
  refine own_lcmp X2 hx (hb hby d1_6) (pc' := 7) rfl ?_
  refine own_ifYes X2 hx (hb hby d1_7) ((if0 _ _).trans (flt (mt own_lc_lt.mp hc7)).2.1) (pc' := 24) (by decide) (by decide) ?_
  refine own_aloadN X2 hx (hb hby d1_24) (pc' := 25) rfl rfl rfl ?_
  refine own_lloadN X2 hx (hb hby d1_25) (pc' := 26) rfl rfl ?_
  obtain ⟨T3, h3, X3, e3, W3, st3⟩ := putF X2 hx hZ hown (host := "") (Or.inl (hw _ (List.mem_of_getElem? (i := 16) rfl))) Via.refl e2' F_minorUnits_q1 E_q1 (Or.inr ⟨(hw _ (List.mem_of_getElem? (i := 17) rfl)), rfl, hnm⟩) (hw _ (List.mem_of_getElem? (i := 3) rfl)) (ty := .long) (by decide) rfl rfl (g := (mkF m 26 #[.val (.ref q1), .val (.long q2), .second] [(.long q2), (.ref q1)])) rfl rfl (hb hby d1_26)
  have E_q1_3 : Exa Z h3 q1 "com/example/keystrand/keystrand/model/Amount" := E_q1.wr W3
  have F_q1_minorUnits_3 : Fld Z h3 q1 "com/example/keystrand/keystrand/model/Amount" "minorUnits" "J" (.long q2) := F_minorUnits_q1.same W3
  have N3 := Fr.snoc X3 N2 g_q1
  have sz3 : n0 ≤ h3.size := Nat.le_trans Z0 (Keep.of_wr W3).1
  have K3 : Keep h0 h3 [q1] := K0.wr W3 (Or.inl (List.mem_of_getElem? (i := 0) rfl))
  refine own_st ?_ st3
  show own_Fin _ _ _ _ T3 (mkF m 29 #[.val (.ref q1), .val (.long q2), .second] [])
  refine own_retV X3 hx hret hlk (hb hby d1_29) (by decide) (by decide) ?_
  show own_Q1 Z q1 q2 w_minorUnits_q1 h0 n0 _ T3.heap _
  rw [e3]
  exact ⟨rfl, N3, K3, E_q1_3, F_q1_minorUnits_3⟩
theorem ef_1 (m : MethodId) (q1 : Addr) (q2 : Int64) : entryFrame m #[(.ref q1), (.long q2)] 3 = mkF m 0 #[.val (.ref q1), .val (.long q2), .second] [] := by first | (simp [entryFrame, mkF, argsToLocals, Value.category]; done) | rfl
set_option maxRecDepth 65536 in
set_option maxHeartbeats 40000000 in
theorem rm1 (l : Launch) (Z : State) (a0 : Array Value) (hw : ∀ d ∈ tables_1, d.before a0 Z = true) (ws : List Jvm.Cond) (q1 : Addr) (q2 : Int64) (w_minorUnits_q1 : Int64) (h0 : Heap) (n0 : Nat) (Z0 : n0 ≤ h0.size) (E_q1 : Exa Z h0 q1 "com/example/keystrand/keystrand/model/Amount") (g_q1 : n0 ≤ q1) (F_minorUnits_q1 : Fld Z h0 q1 "com/example/keystrand/keystrand/model/Amount" "minorUnits" "J" (.long w_minorUnits_q1)) (hc7 : ¬ (q2 < (0 : Int64))) :
    MetFree l (⟨"com/example/keystrand/keystrand/model/Amount", "<init>", "(J)V"⟩ : MethodName) (head1 (Jvm.Cond.code (⟨"com/example/keystrand/keystrand/model/Amount", "<init>", "(J)V"⟩ : MethodName) prog_21_method_1_code 3 none :: ws) ({ frames := 2, cells := 0, slots := 0, locals := 24 } : Room)) (fun a U => a = #[(.ref q1), (.long q2)] ∧ Z.Warmed39 U.vm ∧ U.heap = h0) (fun _ _ _ _ _ => True) (fun _ U o U' => ∃ v L, o = .returned v ∧ (own_Q1 Z q1 q2 w_minorUnits_q1 h0 n0) v U'.heap L ∧ FrameEnd U o U' L ({ frames := 2, cells := 0, slots := 0, locals := 24 } : Room).cells ({ frames := 2, cells := 0, slots := 0, locals := 24 } : Room).slots) := by
  refine MetFree.of_bodySF (plainFor_of_name pn_1) hisR ?_
  intro p e s m args below meth c s₁ Bd hml0 hP hK
  obtain ⟨rfl, hZ, hh⟩ := hP
  have hown : s.vm.findClass "com/example/keystrand/keystrand/model/Amount" = some m.cls := findClass_of_methodNamed Bd.named
  have hnm := (name_of_methodNamed Bd.named Bd.method).1
  have X0 : Stand p l e ({ frames := 2, cells := 0, slots := 0, locals := 24 } : Room) s m #[(.ref q1), (.long q2)] below meth c s₁ [] 0 0 := Stand.of_body Bd
  have e0 : s₁.heap = h0 := by rw [← hh, Bd.state]; rfl
  have H := sg1_0 l hw Bd.exec hZ Bd.bytes hml0 hown hnm Bd.returns Bd.notSynchronized q1 q2 w_minorUnits_q1 Z0 X0 (Fr.nil n0) e0 E_q1 g_q1 F_minorUnits_q1 hc7
  obtain ⟨t, h1, h2, o, h3, h4⟩ := H
  exact ⟨t, o, castTop (ef_1 m q1 q2) h1, h2, h3, h4⟩
theorem d4_0 : decode prog_21_method_5_code 0 = .ok (.aload_n 0, 1) := by decide +kernel
theorem d4_1 : decode prog_21_method_5_code 1 = .ok (.getfield 16, 3) := by decide +kernel
theorem d4_4 : decode prog_21_method_5_code 4 = .ok (.aload_n 1, 1) := by decide +kernel
theorem d4_5 : decode prog_21_method_5_code 5 = .ok (.getfield 16, 3) := by decide +kernel
theorem d4_8 : decode prog_21_method_5_code 8 = .ok (.lcmp, 1) := by decide +kernel
theorem d4_9 : decode prog_21_method_5_code 9 = .ok (.ifCond .le 7, 3) := by decide +kernel
theorem d4_12 : decode prog_21_method_5_code 12 = .ok (.iconst 1, 1) := by decide +kernel
theorem d4_13 : decode prog_21_method_5_code 13 = .ok (.goto 4, 3) := by decide +kernel
theorem d4_16 : decode prog_21_method_5_code 16 = .ok (.iconst 0, 1) := by decide +kernel
theorem d4_17 : decode prog_21_method_5_code 17 = .ok (.ireturn, 1) := by decide +kernel
theorem pn_4 : plainName "com/example/keystrand/keystrand/model/Amount" = true := by first | (simp [plainName, overriddenIn]; done) | decide +kernel
def own_f4 (w_minorUnits_q1 : Int64) (w_minorUnits_q2 : Int64) : Int32 :=
  if w_minorUnits_q2 < w_minorUnits_q1 then (1 : Int32) else
  (0 : Int32)
set_option maxRecDepth 65536 in
set_option maxHeartbeats 40000000 in
theorem sg4_0 {p : Program} (l : Launch) {e : Env} {s : State} {m : MethodId} {args : Array Value} {below : List Frame} {meth : Method} {c : Code} {Z : State} {a0 : Array Value} (hw : ∀ d ∈ tables_1, d.before a0 Z = true) (hx : p.tables.exec = Jvm.exec) (hZ : Z.Warmed39 s.vm) (hby : c.code = prog_21_method_5_code) (hml : c.maxLocals = 2) (hown : s.vm.findClass "com/example/keystrand/keystrand/model/Amount" = some m.cls) (hnm : meth.name = "exceeds") (hret : meth.sig.returnType = (some .boolean)) (hlk : meth.locks = false) (q1 : Addr) (q2 : Addr) (w_minorUnits_q1 : Int64) (w_minorUnits_q2 : Int64) {h0 : Heap} {n0 : Nat} (Z0 : n0 ≤ h0.size) {T0 : State} {L0 : List Loc} (X0 : Stand p l e ({ frames := 0, cells := 0, slots := 0, locals := 0 } : Room) s m args below meth c T0 L0 0 0) (N0 : Fr n0 L0) (e0 : T0.heap = h0) (E_q1 : Exa Z h0 q1 "com/example/keystrand/keystrand/model/Amount") (F_minorUnits_q1 : Fld Z h0 q1 "com/example/keystrand/keystrand/model/Amount" "minorUnits" "J" (.long w_minorUnits_q1)) (E_q2 : Exa Z h0 q2 "com/example/keystrand/keystrand/model/Amount") (F_minorUnits_q2 : Fld Z h0 q2 "com/example/keystrand/keystrand/model/Amount" "minorUnits" "J" (.long w_minorUnits_q2)) :
    own_Fin p.tables e below (own_End below s (own_P h0 n0 (some (.int (own_f4 w_minorUnits_q1 w_minorUnits_q2)))) 0 0) T0 (mkF m 0 #[.val (.ref q1), .val (.ref q2)] []) := by
  refine own_aloadN X0 hx (hb hby d4_0) (pc' := 1) rfl rfl rfl ?_
  refine own_getF X0 hx hZ hown (hw _ (List.mem_of_getElem? (i := 16) rfl)) Via.refl e0 F_minorUnits_q1 (hb hby d4_1) (pc' := 4) rfl (fun T4 X4 e4 => ?_)
  refine own_aloadN X4 hx (hb hby d4_4) (pc' := 5) rfl rfl rfl ?_
  refine own_getF X4 hx hZ hown (hw _ (List.mem_of_getElem? (i := 16) rfl)) Via.refl e4 F_minorUnits_q2 (hb hby d4_5) (pc' := 8) rfl (fun T5 X5 e5 => ?_)
  refine own_lcmp X5 hx (hb hby d4_8) (pc' := 9) rfl ?_
  by_cases hc6 : w_minorUnits_q2 < w_minorUnits_q1
  · refine own_ifNo X5 hx (hb hby d4_9) (pc' := 12) rfl ((if0 _ _).trans (tlt (own_lc_gt.mpr hc6)).2.2.2) ?_
    refine own_iconst X5 hx (hb hby d4_12) (pc' := 13) rfl (v := (1 : Int32)) rfl ?_
    refine own_goto X5 hx (hb hby d4_13) (pc' := 17) (by decide) (by decide) ?_
    refine own_retN X5 hx (t := .boolean) hret (by simp) hlk (hb hby d4_17) (by decide) (by decide) ?_
    show own_P _ _ _ _ T5.heap _
    exact ⟨(congrArg some (congrArg Value.int (show _ = (own_f4 w_minorUnits_q1 w_minorUnits_q2) from by rw [own_f4, if_pos hc6]; rfl))), N0, e5⟩
  · refine own_ifYes X5 hx (hb hby d4_9) ((if0 _ _).trans (flt (mt own_lc_gt.mp hc6)).2.2.2) (pc' := 16) (by decide) (by decide) ?_
    refine own_iconst X5 hx (hb hby d4_16) (pc' := 17) rfl (v := (0 : Int32)) rfl ?_
    refine own_retN X5 hx (t := .boolean) hret (by simp) hlk (hb hby d4_17) (by decide) (by decide) ?_
    show own_P _ _ _ _ T5.heap _
    exact ⟨(congrArg some (congrArg Value.int (show _ = (own_f4 w_minorUnits_q1 w_minorUnits_q2) from by rw [own_f4, if_neg hc6]; rfl))), N0, e5⟩
theorem ef_4 (m : MethodId) (q1 : Addr) (q2 : Addr) : entryFrame m #[(.ref q1), (.ref q2)] 2 = mkF m 0 #[.val (.ref q1), .val (.ref q2)] [] := by first | (simp [entryFrame, mkF, argsToLocals, Value.category]; done) | rfl
set_option maxRecDepth 65536 in
set_option maxHeartbeats 40000000 in
theorem rm4 (l : Launch) (Z : State) (a0 : Array Value) (hw : ∀ d ∈ tables_1, d.before a0 Z = true) (ws : List Jvm.Cond) (q1 : Addr) (q2 : Addr) (w_minorUnits_q1 : Int64) (w_minorUnits_q2 : Int64) (h0 : Heap) (n0 : Nat) (Z0 : n0 ≤ h0.size) (E_q1 : Exa Z h0 q1 "com/example/keystrand/keystrand/model/Amount") (F_minorUnits_q1 : Fld Z h0 q1 "com/example/keystrand/keystrand/model/Amount" "minorUnits" "J" (.long w_minorUnits_q1)) (E_q2 : Exa Z h0 q2 "com/example/keystrand/keystrand/model/Amount") (F_minorUnits_q2 : Fld Z h0 q2 "com/example/keystrand/keystrand/model/Amount" "minorUnits" "J" (.long w_minorUnits_q2)) :
    MetFree l (⟨"com/example/keystrand/keystrand/model/Amount", "exceeds", "(Lcom/example/keystrand/keystrand/model/Amount;)Z"⟩ : MethodName) (head1 (Jvm.Cond.code (⟨"com/example/keystrand/keystrand/model/Amount", "exceeds", "(Lcom/example/keystrand/keystrand/model/Amount;)Z"⟩ : MethodName) prog_21_method_5_code 2 (some .boolean) :: ws) ({ frames := 0, cells := 0, slots := 0, locals := 0 } : Room)) (fun a U => a = #[(.ref q1), (.ref q2)] ∧ Z.Warmed39 U.vm ∧ U.heap = h0) (fun _ _ _ _ _ => True) (fun _ U o U' => ∃ v L, o = .returned v ∧ (own_P h0 n0 (some (.int (own_f4 w_minorUnits_q1 w_minorUnits_q2)))) v U'.heap L ∧ FrameEnd U o U' L ({ frames := 0, cells := 0, slots := 0, locals := 0 } : Room).cells ({ frames := 0, cells := 0, slots := 0, locals := 0 } : Room).slots) := by
  refine MetFree.of_bodySF (plainFor_of_name pn_4) hisR ?_
  intro p e s m args below meth c s₁ Bd hml0 hP hK
  obtain ⟨rfl, hZ, hh⟩ := hP
  have hown : s.vm.findClass "com/example/keystrand/keystrand/model/Amount" = some m.cls := findClass_of_methodNamed Bd.named
  have hnm := (name_of_methodNamed Bd.named Bd.method).1
  have X0 : Stand p l e ({ frames := 0, cells := 0, slots := 0, locals := 0 } : Room) s m #[(.ref q1), (.ref q2)] below meth c s₁ [] 0 0 := Stand.of_body Bd
  have e0 : s₁.heap = h0 := by rw [← hh, Bd.state]; rfl
  have H := sg4_0 l hw Bd.exec hZ Bd.bytes hml0 hown hnm Bd.returns Bd.notSynchronized q1 q2 w_minorUnits_q1 w_minorUnits_q2 Z0 X0 (Fr.nil n0) e0 E_q1 F_minorUnits_q1 E_q2 F_minorUnits_q2
  obtain ⟨t, h1, h2, o, h3, h4⟩ := H
  exact ⟨t, o, castTop (ef_4 m q1 q2) h1, h2, h3, h4⟩
theorem own_b64 (x : Int64) : -9223372036854775808 ≤ x.toInt ∧ x.toInt < 9223372036854775808 := ⟨Int64.le_toInt x, Int64.toInt_lt x⟩
theorem own_b32 (x : Int32) : -2147483648 ≤ x.toInt ∧ x.toInt < 2147483648 := ⟨Int32.le_toInt x, Int32.toInt_lt x⟩
theorem own_wrap64 (n : Int) : ∃ k : Int, n.bmod (2 ^ 64) = n + k * 18446744073709551616 := by
  rw [Int.bmod_def]
  split
  · exact ⟨-(n / 18446744073709551616), by omega⟩
  · exact ⟨-(n / 18446744073709551616) - 1, by omega⟩
theorem own_add64 (x y : Int64) : ∃ k : Int, (x + y).toInt = x.toInt + y.toInt + k * 18446744073709551616 := by
  rw [Int64.toInt_add]; exact own_wrap64 _
theorem own_sub64 (x y : Int64) : ∃ k : Int, (x - y).toInt = x.toInt - y.toInt + k * 18446744073709551616 := by
  rw [Int64.toInt_sub]; exact own_wrap64 _
theorem own_wrap32 (n : Int) : ∃ k : Int, n.bmod (2 ^ 32) = n + k * 4294967296 := by
  rw [Int.bmod_def]
  split
  · exact ⟨-(n / 4294967296), by omega⟩
  · exact ⟨-(n / 4294967296) - 1, by omega⟩
theorem own_add32 (x y : Int32) : ∃ k : Int, (x + y).toInt = x.toInt + y.toInt + k * 4294967296 := by
  rw [Int32.toInt_add]; exact own_wrap32 _
theorem own_sub32 (x y : Int32) : ∃ k : Int, (x - y).toInt = x.toInt - y.toInt + k * 4294967296 := by
  rw [Int32.toInt_sub]; exact own_wrap32 _
theorem own_m63 (x : Int64) : (x &&& (9223372036854775807 : Int64)).toInt = x.toInt % 9223372036854775808 := Jvm.Kit.i64_mask x _ (k := 63) (by decide) (by decide)
theorem own_m31 (x : Int32) : (x &&& (2147483647 : Int32)).toInt = x.toInt % 2147483648 := Jvm.Kit.i32_mask x _ (k := 31) (by decide) (by decide)
theorem own_max64 : (9223372036854775807 : Int64).toInt = 9223372036854775807 := by decide
theorem own_lt64 {x y : Int64} : x < y ↔ x.toInt < y.toInt := Int64.lt_iff_toInt_lt
theorem own_lt32 {x y : Int32} : x < y ↔ x.toInt < y.toInt := Int32.lt_iff_toInt_lt
theorem own_eq64 {x y : Int64} : x = y ↔ x.toInt = y.toInt := Int64.toInt_inj.symm
theorem own_eq32 {x y : Int32} : x = y ↔ x.toInt = y.toInt := Int32.toInt_inj.symm

theorem own_nn (x : Int64) : ¬ ((x &&& (9223372036854775807 : Int64)) < (0 : Int64)) := by
  have h := own_m63 x
  have z : (0 : Int64).toInt = 0 := by decide
  rw [own_lt64, h, z]; omega
theorem own_nx (x : Int64) : ¬ (((x &&& (9223372036854775807 : Int64)) ^^^ (1 : Int64)) < (0 : Int64)) := by
  have h : ((x &&& (9223372036854775807 : Int64)) ^^^ (1 : Int64)).toBitVec.msb = false := by
    rw [Int64.toBitVec_xor, BitVec.msb_xor, Int64.toBitVec_and, BitVec.msb_and]
    have e1 : (9223372036854775807 : Int64).toBitVec.msb = false := by decide
    have e2 : (1 : Int64).toBitVec.msb = false := by decide
    rw [e1, e2]; simp
  rw [BitVec.msb_eq_toInt] at h
  have z : (0 : Int64).toInt = 0 := by decide
  rw [own_lt64, z]
  exact of_decide_eq_false h
theorem pn_0 : plainName "com/example/keystrand/keystrand/model/AmountExceedsPinLaw" = true := by first | (simp [plainName, overriddenIn]; done) | decide +kernel
def own_f0_200 (v1 : Int64) (v2 : Int64) (v3 : Int32) (v4 : Int64) (v5 : Int32) (v6 : Int64) (v9 : Int32) (v10 : Int32) (v11 : Int32) (v12 : Int32) (v13 : Int32) (v14 : Int32) (v15 : Int32) : Int32 :=
  if v13 = (0 : Int32) then (0 : Int32) else
  if v14 = (0 : Int32) then (0 : Int32) else
  if v15 = (0 : Int32) then (0 : Int32) else
  (1 : Int32)
def own_f0_162 (v1 : Int64) (v2 : Int64) (v3 : Int32) (v4 : Int64) (v5 : Int32) (v6 : Int64) (v9 : Int32) (v10 : Int32) (v11 : Int32) (v12 : Int32) (v13 : Int32) (v14 : Int32) : Int32 :=
  if v9 = (0 : Int32) then (if v10 = (0 : Int32) then (if v4 = v6 then (own_f0_200 v1 v2 v3 v4 v5 v6 v9 v10 v11 v12 v13 v14 (1 : Int32)) else
    (own_f0_200 v1 v2 v3 v4 v5 v6 v9 v10 v11 v12 v13 v14 (0 : Int32))) else
    if v4 = v6 then (own_f0_200 v1 v2 v3 v4 v5 v6 v9 v10 v11 v12 v13 v14 (0 : Int32)) else
    (own_f0_200 v1 v2 v3 v4 v5 v6 v9 v10 v11 v12 v13 v14 (1 : Int32))) else
  if v4 = v6 then (own_f0_200 v1 v2 v3 v4 v5 v6 v9 v10 v11 v12 v13 v14 (0 : Int32)) else
  (own_f0_200 v1 v2 v3 v4 v5 v6 v9 v10 v11 v12 v13 v14 (1 : Int32))
def own_f0_145 (v1 : Int64) (v2 : Int64) (v3 : Int32) (v4 : Int64) (v5 : Int32) (v6 : Int64) (v9 : Int32) (v10 : Int32) (v11 : Int32) (v12 : Int32) (v13 : Int32) : Int32 :=
  if v9 = (0 : Int32) then (own_f0_162 v1 v2 v3 v4 v5 v6 v9 v10 v11 v12 v13 (1 : Int32)) else
  if v10 = (0 : Int32) then (own_f0_162 v1 v2 v3 v4 v5 v6 v9 v10 v11 v12 v13 (1 : Int32)) else
  (own_f0_162 v1 v2 v3 v4 v5 v6 v9 v10 v11 v12 v13 (0 : Int32))
def own_f0_124 (v1 : Int64) (v2 : Int64) (v3 : Int32) (v4 : Int64) (v5 : Int32) (v6 : Int64) (v9 : Int32) (v10 : Int32) (v11 : Int32) (v12 : Int32) : Int32 :=
  if v9 = v11 then (if v10 = v12 then (own_f0_145 v1 v2 v3 v4 v5 v6 v9 v10 v11 v12 (1 : Int32)) else
    (own_f0_145 v1 v2 v3 v4 v5 v6 v9 v10 v11 v12 (0 : Int32))) else
  (own_f0_145 v1 v2 v3 v4 v5 v6 v9 v10 v11 v12 (0 : Int32))
def own_f0_90 (v1 : Int64) (v2 : Int64) (v3 : Int32) (v4 : Int64) (v5 : Int32) (v6 : Int64) (v9 : Int32) (v10 : Int32) : Int32 :=
  if (0 : Int64) < (v4 - v6) then (if (0 : Int64) < (v6 - v4) then (own_f0_124 v1 v2 v3 v4 v5 v6 v9 v10 (1 : Int32) (1 : Int32)) else
    (own_f0_124 v1 v2 v3 v4 v5 v6 v9 v10 (1 : Int32) (0 : Int32))) else
  if (0 : Int64) < (v6 - v4) then (own_f0_124 v1 v2 v3 v4 v5 v6 v9 v10 (0 : Int32) (1 : Int32)) else
  (own_f0_124 v1 v2 v3 v4 v5 v6 v9 v10 (0 : Int32) (0 : Int32))
def own_f0_50 (v1 : Int64) (v2 : Int64) (v3 : Int32) (v4 : Int64) (v5 : Int32) (v6 : Int64) : Int32 :=
  (own_f0_90 v1 v2 v3 v4 v5 v6 (own_f4 v4 v6) (own_f4 v6 v4))
def own_f0 (q1 : Int64) (q2 : Int64) (q3 : Int32) : Int32 :=
  if ((q3 &&& (2147483647 : Int32)) - ((q3 &&& (2147483647 : Int32)) / (3 : Int32)) * (3 : Int32)) = (0 : Int32) then (own_f0_50 q1 q2 q3 (q1 &&& (9223372036854775807 : Int64)) ((q3 &&& (2147483647 : Int32)) - ((q3 &&& (2147483647 : Int32)) / (3 : Int32)) * (3 : Int32)) (q2 &&& (9223372036854775807 : Int64))) else
  if ((q3 &&& (2147483647 : Int32)) - ((q3 &&& (2147483647 : Int32)) / (3 : Int32)) * (3 : Int32)) = (1 : Int32) then (own_f0_50 q1 q2 q3 (q1 &&& (9223372036854775807 : Int64)) ((q3 &&& (2147483647 : Int32)) - ((q3 &&& (2147483647 : Int32)) / (3 : Int32)) * (3 : Int32)) (q1 &&& (9223372036854775807 : Int64))) else
  (own_f0_50 q1 q2 q3 (q1 &&& (9223372036854775807 : Int64)) ((q3 &&& (2147483647 : Int32)) - ((q3 &&& (2147483647 : Int32)) / (3 : Int32)) * (3 : Int32)) ((q1 &&& (9223372036854775807 : Int64)) ^^^ (1 : Int64)))
set_option maxRecDepth 65536 in
set_option maxHeartbeats 40000000 in
theorem sg0_200 {p : Program} (l : Launch) {e : Env} {s : State} {m : MethodId} {args : Array Value} {below : List Frame} {meth : Method} {c : Code} {Z : State} {a0 : Array Value} (hw : ∀ d ∈ tables_1, d.before a0 Z = true) (hx : p.tables.exec = Jvm.exec) (hZ : Z.Warmed39 s.vm) (hby : c.code = code) (hml : c.maxLocals = 19) (hown : s.vm.findClass "com/example/keystrand/keystrand/model/AmountExceedsPinLaw" = some m.cls) (hnm : meth.name = "law") (hret : meth.sig.returnType = (some .boolean)) (hlk : meth.locks = false) (v1 : Int64) (v2 : Int64) (v3 : Int32) (v4 : Int64) (v5 : Int32) (v6 : Int64) (v7 : Addr) (v8 : Addr) (v9 : Int32) (v10 : Int32) (v11 : Int32) (v12 : Int32) (v13 : Int32) (v14 : Int32) (v15 : Int32) {h0 : Heap} {n0 : Nat} (Z0 : n0 ≤ h0.size) {T0 : State} {L0 : List Loc} (X0 : Stand p l e room_1 s m args below meth c T0 L0 2 2) (N0 : Fr n0 L0) (e0 : T0.heap = h0)  :
    own_Fin p.tables e below (own_End below s (own_L n0 (.int (own_f0_200 v1 v2 v3 v4 v5 v6 v9 v10 v11 v12 v13 v14 v15))) 2 2) T0 (mkF m 200 #[.val (.long v1), .second, .val (.long v2), .second, .val (.int v3), .val (.long v4), .second, .val (.int v5), .val (.long v6), .second, .val (.ref v7), .val (.ref v8), .val (.int v9), .val (.int v10), .val (.int v11), .val (.int v12), .val (.int v13), .val (.int v14), .val (.int v15)] []) := by
  refine own_iload X0 hx (hb hby at_200) (pc' := 202) rfl rfl ?_
  by_cases hc27 : v13 = (0 : Int32)
  · refine own_ifYes X0 hx (hb hby at_202) ((if0 _ _).trans (teq hc27).1) (pc' := 219) (by decide) (by decide) ?_
    refine own_iconst X0 hx (hb hby at_219) (pc' := 220) rfl (v := (0 : Int32)) rfl ?_
    refine own_retN X0 hx (t := .boolean) hret (by simp) hlk (hb hby at_220) (by decide) (by decide) ?_
    exact ⟨(congrArg some (congrArg Value.int (show _ = (own_f0_200 v1 v2 v3 v4 v5 v6 v9 v10 v11 v12 v13 v14 v15) from by rw [own_f0_200, if_pos hc27]; rfl))), N0⟩
  · refine own_ifNo X0 hx (hb hby at_202) (pc' := 205) rfl ((if0 _ _).trans (feq hc27).1) ?_
    refine own_iload X0 hx (hb hby at_205) (pc' := 207) rfl rfl ?_
    by_cases hc28 : v14 = (0 : Int32)
    · refine own_ifYes X0 hx (hb hby at_207) ((if0 _ _).trans (teq hc28).1) (pc' := 219) (by decide) (by decide) ?_
      refine own_iconst X0 hx (hb hby at_219) (pc' := 220) rfl (v := (0 : Int32)) rfl ?_
      refine own_retN X0 hx (t := .boolean) hret (by simp) hlk (hb hby at_220) (by decide) (by decide) ?_
      exact ⟨(congrArg some (congrArg Value.int (show _ = (own_f0_200 v1 v2 v3 v4 v5 v6 v9 v10 v11 v12 v13 v14 v15) from by rw [own_f0_200, if_neg hc27, if_pos hc28]; rfl))), N0⟩
    · refine own_ifNo X0 hx (hb hby at_207) (pc' := 210) rfl ((if0 _ _).trans (feq hc28).1) ?_
      refine own_iload X0 hx (hb hby at_210) (pc' := 212) rfl rfl ?_
      by_cases hc29 : v15 = (0 : Int32)
      · refine own_ifYes X0 hx (hb hby at_212) ((if0 _ _).trans (teq hc29).1) (pc' := 219) (by decide) (by decide) ?_
        refine own_iconst X0 hx (hb hby at_219) (pc' := 220) rfl (v := (0 : Int32)) rfl ?_
        refine own_retN X0 hx (t := .boolean) hret (by simp) hlk (hb hby at_220) (by decide) (by decide) ?_
        exact ⟨(congrArg some (congrArg Value.int (show _ = (own_f0_200 v1 v2 v3 v4 v5 v6 v9 v10 v11 v12 v13 v14 v15) from by rw [own_f0_200, if_neg hc27, if_neg hc28, if_pos hc29]; rfl))), N0⟩
      · refine own_ifNo X0 hx (hb hby at_212) (pc' := 215) rfl ((if0 _ _).trans (feq hc29).1) ?_
        refine own_iconst X0 hx (hb hby at_215) (pc' := 216) rfl (v := (1 : Int32)) rfl ?_
        refine own_goto X0 hx (hb hby at_216) (pc' := 220) (by decide) (by decide) ?_
        refine own_retN X0 hx (t := .boolean) hret (by simp) hlk (hb hby at_220) (by decide) (by decide) ?_
        exact ⟨(congrArg some (congrArg Value.int (show _ = (own_f0_200 v1 v2 v3 v4 v5 v6 v9 v10 v11 v12 v13 v14 v15) from by rw [own_f0_200, if_neg hc27, if_neg hc28, if_neg hc29]; rfl))), N0⟩
set_option maxRecDepth 65536 in
set_option maxHeartbeats 40000000 in
theorem sg0_162 {p : Program} (l : Launch) {e : Env} {s : State} {m : MethodId} {args : Array Value} {below : List Frame} {meth : Method} {c : Code} {Z : State} {a0 : Array Value} (hw : ∀ d ∈ tables_1, d.before a0 Z = true) (hx : p.tables.exec = Jvm.exec) (hZ : Z.Warmed39 s.vm) (hby : c.code = code) (hml : c.maxLocals = 19) (hown : s.vm.findClass "com/example/keystrand/keystrand/model/AmountExceedsPinLaw" = some m.cls) (hnm : meth.name = "law") (hret : meth.sig.returnType = (some .boolean)) (hlk : meth.locks = false) (v1 : Int64) (v2 : Int64) (v3 : Int32) (v4 : Int64) (v5 : Int32) (v6 : Int64) (v7 : Addr) (v8 : Addr) (v9 : Int32) (v10 : Int32) (v11 : Int32) (v12 : Int32) (v13 : Int32) (v14 : Int32) {h0 : Heap} {n0 : Nat} (Z0 : n0 ≤ h0.size) {T0 : State} {L0 : List Loc} (X0 : Stand p l e room_1 s m args below meth c T0 L0 2 2) (N0 : Fr n0 L0) (e0 : T0.heap = h0)  :
    own_Fin p.tables e below (own_End below s (own_L n0 (.int (own_f0_162 v1 v2 v3 v4 v5 v6 v9 v10 v11 v12 v13 v14))) 2 2) T0 (mkF m 162 #[.val (.long v1), .second, .val (.long v2), .second, .val (.int v3), .val (.long v4), .second, .val (.int v5), .val (.long v6), .second, .val (.ref v7), .val (.ref v8), .val (.int v9), .val (.int v10), .val (.int v11), .val (.int v12), .val (.int v13), .val (.int v14), .unset] []) := by
  refine own_iload X0 hx (hb hby at_162) (pc' := 164) rfl rfl ?_
  by_cases hc22 : v9 = (0 : Int32)
  · refine own_ifNo X0 hx (hb hby at_164) (pc' := 167) rfl ((if0 _ _).trans (teq hc22).2) ?_
    refine own_iload X0 hx (hb hby at_167) (pc' := 169) rfl rfl ?_
    by_cases hc23 : v10 = (0 : Int32)
    · refine own_ifYes X0 hx (hb hby at_169) ((if0 _ _).trans (teq hc23).1) (pc' := 176) (by decide) (by decide) ?_
      refine own_iconst X0 hx (hb hby at_176) (pc' := 177) rfl (v := (0 : Int32)) rfl ?_
      refine own_lload X0 hx (hb hby at_177) (pc' := 179) rfl rfl ?_
      refine own_lload X0 hx (hb hby at_179) (pc' := 181) rfl rfl ?_
      refine own_lcmp X0 hx (hb hby at_181) (pc' := 182) rfl ?_
      by_cases hc24 : v4 = v6
      · refine own_ifNo X0 hx (hb hby at_182) (pc' := 185) rfl ((if0 _ _).trans (teq (own_lc_eq.mpr hc24)).2) ?_
        refine own_iconst X0 hx (hb hby at_185) (pc' := 186) rfl (v := (1 : Int32)) rfl ?_
        refine own_goto X0 hx (hb hby at_186) (pc' := 190) (by decide) (by decide) ?_
        refine own_icmpNo X0 hx (hb hby at_190) (pc' := 193) rfl (feq (by decide : ¬ ((0 : Int32) = (1 : Int32)))).1 ?_
        refine own_iconst X0 hx (hb hby at_193) (pc' := 194) rfl (v := (1 : Int32)) rfl ?_
        refine own_goto X0 hx (hb hby at_194) (pc' := 198) (by decide) (by decide) ?_
        refine own_istore X0 hx (hb hby at_198) (pc' := 200) rfl (Ls' := #[.val (.long v1), .second, .val (.long v2), .second, .val (.int v3), .val (.long v4), .second, .val (.int v5), .val (.long v6), .second, .val (.ref v7), .val (.ref v8), .val (.int v9), .val (.int v10), .val (.int v11), .val (.int v12), .val (.int v13), .val (.int v14), .val (.int (1 : Int32))]) rfl ?_
        refine own_cast ?_ (sg0_200 l hw hx hZ hby hml hown hnm hret hlk v1 v2 v3 v4 v5 v6 v7 v8 v9 v10 v11 v12 v13 v14 (1 : Int32) Z0 X0 N0 e0)
        rw [own_f0_162, if_pos hc22, if_pos hc23, if_pos hc24]
      · refine own_ifYes X0 hx (hb hby at_182) ((if0 _ _).trans (feq (mt own_lc_eq.mp hc24)).2) (pc' := 189) (by decide) (by decide) ?_
        refine own_iconst X0 hx (hb hby at_189) (pc' := 190) rfl (v := (0 : Int32)) rfl ?_
        refine own_icmpYes X0 hx (hb hby at_190) (teq (by decide : (0 : Int32) = (0 : Int32))).1 (pc' := 197) (by decide) (by decide) ?_
        refine own_iconst X0 hx (hb hby at_197) (pc' := 198) rfl (v := (0 : Int32)) rfl ?_
        refine own_istore X0 hx (hb hby at_198) (pc' := 200) rfl (Ls' := #[.val (.long v1), .second, .val (.long v2), .second, .val (.int v3), .val (.long v4), .second, .val (.int v5), .val (.long v6), .second, .val (.ref v7), .val (.ref v8), .val (.int v9), .val (.int v10), .val (.int v11), .val (.int v12), .val (.int v13), .val (.int v14), .val (.int (0 : Int32))]) rfl ?_
        refine own_cast ?_ (sg0_200 l hw hx hZ hby hml hown hnm hret hlk v1 v2 v3 v4 v5 v6 v7 v8 v9 v10 v11 v12 v13 v14 (0 : Int32) Z0 X0 N0 e0)
        rw [own_f0_162, if_pos hc22, if_pos hc23, if_neg hc24]
    · refine own_ifNo X0 hx (hb hby at_169) (pc' := 172) rfl ((if0 _ _).trans (feq hc23).1) ?_
      refine own_iconst X0 hx (hb hby at_172) (pc' := 173) rfl (v := (1 : Int32)) rfl ?_
      refine own_goto X0 hx (hb hby at_173) (pc' := 177) (by decide) (by decide) ?_
      refine own_lload X0 hx (hb hby at_177) (pc' := 179) rfl rfl ?_
      refine own_lload X0 hx (hb hby at_179) (pc' := 181) rfl rfl ?_
      refine own_lcmp X0 hx (hb hby at_181) (pc' := 182) rfl ?_
      by_cases hc25 : v4 = v6
      · refine own_ifNo X0 hx (hb hby at_182) (pc' := 185) rfl ((if0 _ _).trans (teq (own_lc_eq.mpr hc25)).2) ?_
        refine own_iconst X0 hx (hb hby at_185) (pc' := 186) rfl (v := (1 : Int32)) rfl ?_
        refine own_goto X0 hx (hb hby at_186) (pc' := 190) (by decide) (by decide) ?_
        refine own_icmpYes X0 hx (hb hby at_190) (teq (by decide : (1 : Int32) = (1 : Int32))).1 (pc' := 197) (by decide) (by decide) ?_
        refine own_iconst X0 hx (hb hby at_197) (pc' := 198) rfl (v := (0 : Int32)) rfl ?_
        refine own_istore X0 hx (hb hby at_198) (pc' := 200) rfl (Ls' := #[.val (.long v1), .second, .val (.long v2), .second, .val (.int v3), .val (.long v4), .second, .val (.int v5), .val (.long v6), .second, .val (.ref v7), .val (.ref v8), .val (.int v9), .val (.int v10), .val (.int v11), .val (.int v12), .val (.int v13), .val (.int v14), .val (.int (0 : Int32))]) rfl ?_
        refine own_cast ?_ (sg0_200 l hw hx hZ hby hml hown hnm hret hlk v1 v2 v3 v4 v5 v6 v7 v8 v9 v10 v11 v12 v13 v14 (0 : Int32) Z0 X0 N0 e0)
        rw [own_f0_162, if_pos hc22, if_neg hc23, if_pos hc25]
      · refine own_ifYes X0 hx (hb hby at_182) ((if0 _ _).trans (feq (mt own_lc_eq.mp hc25)).2) (pc' := 189) (by decide) (by decide) ?_
        refine own_iconst X0 hx (hb hby at_189) (pc' := 190) rfl (v := (0 : Int32)) rfl ?_
        refine own_icmpNo X0 hx (hb hby at_190) (pc' := 193) rfl (feq (by decide : ¬ ((1 : Int32) = (0 : Int32)))).1 ?_
        refine own_iconst X0 hx (hb hby at_193) (pc' := 194) rfl (v := (1 : Int32)) rfl ?_
        refine own_goto X0 hx (hb hby at_194) (pc' := 198) (by decide) (by decide) ?_
        refine own_istore X0 hx (hb hby at_198) (pc' := 200) rfl (Ls' := #[.val (.long v1), .second, .val (.long v2), .second, .val (.int v3), .val (.long v4), .second, .val (.int v5), .val (.long v6), .second, .val (.ref v7), .val (.ref v8), .val (.int v9), .val (.int v10), .val (.int v11), .val (.int v12), .val (.int v13), .val (.int v14), .val (.int (1 : Int32))]) rfl ?_
        refine own_cast ?_ (sg0_200 l hw hx hZ hby hml hown hnm hret hlk v1 v2 v3 v4 v5 v6 v7 v8 v9 v10 v11 v12 v13 v14 (1 : Int32) Z0 X0 N0 e0)
        rw [own_f0_162, if_pos hc22, if_neg hc23, if_neg hc25]
  · refine own_ifYes X0 hx (hb hby at_164) ((if0 _ _).trans (feq hc22).2) (pc' := 172) (by decide) (by decide) ?_
    refine own_iconst X0 hx (hb hby at_172) (pc' := 173) rfl (v := (1 : Int32)) rfl ?_
    refine own_goto X0 hx (hb hby at_173) (pc' := 177) (by decide) (by decide) ?_
    refine own_lload X0 hx (hb hby at_177) (pc' := 179) rfl rfl ?_
    refine own_lload X0 hx (hb hby at_179) (pc' := 181) rfl rfl ?_
    refine own_lcmp X0 hx (hb hby at_181) (pc' := 182) rfl ?_
    by_cases hc26 : v4 = v6
    · refine own_ifNo X0 hx (hb hby at_182) (pc' := 185) rfl ((if0 _ _).trans (teq (own_lc_eq.mpr hc26)).2) ?_
      refine own_iconst X0 hx (hb hby at_185) (pc' := 186) rfl (v := (1 : Int32)) rfl ?_
      refine own_goto X0 hx (hb hby at_186) (pc' := 190) (by decide) (by decide) ?_
      refine own_icmpYes X0 hx (hb hby at_190) (teq (by decide : (1 : Int32) = (1 : Int32))).1 (pc' := 197) (by decide) (by decide) ?_
      refine own_iconst X0 hx (hb hby at_197) (pc' := 198) rfl (v := (0 : Int32)) rfl ?_
      refine own_istore X0 hx (hb hby at_198) (pc' := 200) rfl (Ls' := #[.val (.long v1), .second, .val (.long v2), .second, .val (.int v3), .val (.long v4), .second, .val (.int v5), .val (.long v6), .second, .val (.ref v7), .val (.ref v8), .val (.int v9), .val (.int v10), .val (.int v11), .val (.int v12), .val (.int v13), .val (.int v14), .val (.int (0 : Int32))]) rfl ?_
      refine own_cast ?_ (sg0_200 l hw hx hZ hby hml hown hnm hret hlk v1 v2 v3 v4 v5 v6 v7 v8 v9 v10 v11 v12 v13 v14 (0 : Int32) Z0 X0 N0 e0)
      rw [own_f0_162, if_neg hc22, if_pos hc26]
    · refine own_ifYes X0 hx (hb hby at_182) ((if0 _ _).trans (feq (mt own_lc_eq.mp hc26)).2) (pc' := 189) (by decide) (by decide) ?_
      refine own_iconst X0 hx (hb hby at_189) (pc' := 190) rfl (v := (0 : Int32)) rfl ?_
      refine own_icmpNo X0 hx (hb hby at_190) (pc' := 193) rfl (feq (by decide : ¬ ((1 : Int32) = (0 : Int32)))).1 ?_
      refine own_iconst X0 hx (hb hby at_193) (pc' := 194) rfl (v := (1 : Int32)) rfl ?_
      refine own_goto X0 hx (hb hby at_194) (pc' := 198) (by decide) (by decide) ?_
      refine own_istore X0 hx (hb hby at_198) (pc' := 200) rfl (Ls' := #[.val (.long v1), .second, .val (.long v2), .second, .val (.int v3), .val (.long v4), .second, .val (.int v5), .val (.long v6), .second, .val (.ref v7), .val (.ref v8), .val (.int v9), .val (.int v10), .val (.int v11), .val (.int v12), .val (.int v13), .val (.int v14), .val (.int (1 : Int32))]) rfl ?_
      refine own_cast ?_ (sg0_200 l hw hx hZ hby hml hown hnm hret hlk v1 v2 v3 v4 v5 v6 v7 v8 v9 v10 v11 v12 v13 v14 (1 : Int32) Z0 X0 N0 e0)
      rw [own_f0_162, if_neg hc22, if_neg hc26]
set_option maxRecDepth 65536 in
set_option maxHeartbeats 40000000 in
theorem sg0_145 {p : Program} (l : Launch) {e : Env} {s : State} {m : MethodId} {args : Array Value} {below : List Frame} {meth : Method} {c : Code} {Z : State} {a0 : Array Value} (hw : ∀ d ∈ tables_1, d.before a0 Z = true) (hx : p.tables.exec = Jvm.exec) (hZ : Z.Warmed39 s.vm) (hby : c.code = code) (hml : c.maxLocals = 19) (hown : s.vm.findClass "com/example/keystrand/keystrand/model/AmountExceedsPinLaw" = some m.cls) (hnm : meth.name = "law") (hret : meth.sig.returnType = (some .boolean)) (hlk : meth.locks = false) (v1 : Int64) (v2 : Int64) (v3 : Int32) (v4 : Int64) (v5 : Int32) (v6 : Int64) (v7 : Addr) (v8 : Addr) (v9 : Int32) (v10 : Int32) (v11 : Int32) (v12 : Int32) (v13 : Int32) {h0 : Heap} {n0 : Nat} (Z0 : n0 ≤ h0.size) {T0 : State} {L0 : List Loc} (X0 : Stand p l e room_1 s m args below meth c T0 L0 2 2) (N0 : Fr n0 L0) (e0 : T0.heap = h0)  :
    own_Fin p.tables e below (own_End below s (own_L n0 (.int (own_f0_145 v1 v2 v3 v4 v5 v6 v9 v10 v11 v12 v13))) 2 2) T0 (mkF m 145 #[.val (.long v1), .second, .val (.long v2), .second, .val (.int v3), .val (.long v4), .second, .val (.int v5), .val (.long v6), .second, .val (.ref v7), .val (.ref v8), .val (.int v9), .val (.int v10), .val (.int v11), .val (.int v12), .val (.int v13), .unset, .unset] []) := by
  refine own_iload X0 hx (hb hby at_145) (pc' := 147) rfl rfl ?_
  by_cases hc20 : v9 = (0 : Int32)
  · refine own_ifYes X0 hx (hb hby at_147) ((if0 _ _).trans (teq hc20).1) (pc' := 155) (by decide) (by decide) ?_
    refine own_iconst X0 hx (hb hby at_155) (pc' := 156) rfl (v := (1 : Int32)) rfl ?_
    refine own_goto X0 hx (hb hby at_156) (pc' := 160) (by decide) (by decide) ?_
    refine own_istore X0 hx (hb hby at_160) (pc' := 162) rfl (Ls' := #[.val (.long v1), .second, .val (.long v2), .second, .val (.int v3), .val (.long v4), .second, .val (.int v5), .val (.long v6), .second, .val (.ref v7), .val (.ref v8), .val (.int v9), .val (.int v10), .val (.int v11), .val (.int v12), .val (.int v13), .val (.int (1 : Int32)), .unset]) rfl ?_
    refine own_cast ?_ (sg0_162 l hw hx hZ hby hml hown hnm hret hlk v1 v2 v3 v4 v5 v6 v7 v8 v9 v10 v11 v12 v13 (1 : Int32) Z0 X0 N0 e0)
    rw [own_f0_145, if_pos hc20]
  · refine own_ifNo X0 hx (hb hby at_147) (pc' := 150) rfl ((if0 _ _).trans (feq hc20).1) ?_
    refine own_iload X0 hx (hb hby at_150) (pc' := 152) rfl rfl ?_
    by_cases hc21 : v10 = (0 : Int32)
    · refine own_ifNo X0 hx (hb hby at_152) (pc' := 155) rfl ((if0 _ _).trans (teq hc21).2) ?_
      refine own_iconst X0 hx (hb hby at_155) (pc' := 156) rfl (v := (1 : Int32)) rfl ?_
      refine own_goto X0 hx (hb hby at_156) (pc' := 160) (by decide) (by decide) ?_
      refine own_istore X0 hx (hb hby at_160) (pc' := 162) rfl (Ls' := #[.val (.long v1), .second, .val (.long v2), .second, .val (.int v3), .val (.long v4), .second, .val (.int v5), .val (.long v6), .second, .val (.ref v7), .val (.ref v8), .val (.int v9), .val (.int v10), .val (.int v11), .val (.int v12), .val (.int v13), .val (.int (1 : Int32)), .unset]) rfl ?_
      refine own_cast ?_ (sg0_162 l hw hx hZ hby hml hown hnm hret hlk v1 v2 v3 v4 v5 v6 v7 v8 v9 v10 v11 v12 v13 (1 : Int32) Z0 X0 N0 e0)
      rw [own_f0_145, if_neg hc20, if_pos hc21]
    · refine own_ifYes X0 hx (hb hby at_152) ((if0 _ _).trans (feq hc21).2) (pc' := 159) (by decide) (by decide) ?_
      refine own_iconst X0 hx (hb hby at_159) (pc' := 160) rfl (v := (0 : Int32)) rfl ?_
      refine own_istore X0 hx (hb hby at_160) (pc' := 162) rfl (Ls' := #[.val (.long v1), .second, .val (.long v2), .second, .val (.int v3), .val (.long v4), .second, .val (.int v5), .val (.long v6), .second, .val (.ref v7), .val (.ref v8), .val (.int v9), .val (.int v10), .val (.int v11), .val (.int v12), .val (.int v13), .val (.int (0 : Int32)), .unset]) rfl ?_
      refine own_cast ?_ (sg0_162 l hw hx hZ hby hml hown hnm hret hlk v1 v2 v3 v4 v5 v6 v7 v8 v9 v10 v11 v12 v13 (0 : Int32) Z0 X0 N0 e0)
      rw [own_f0_145, if_neg hc20, if_neg hc21]
set_option maxRecDepth 65536 in
set_option maxHeartbeats 40000000 in
theorem sg0_124 {p : Program} (l : Launch) {e : Env} {s : State} {m : MethodId} {args : Array Value} {below : List Frame} {meth : Method} {c : Code} {Z : State} {a0 : Array Value} (hw : ∀ d ∈ tables_1, d.before a0 Z = true) (hx : p.tables.exec = Jvm.exec) (hZ : Z.Warmed39 s.vm) (hby : c.code = code) (hml : c.maxLocals = 19) (hown : s.vm.findClass "com/example/keystrand/keystrand/model/AmountExceedsPinLaw" = some m.cls) (hnm : meth.name = "law") (hret : meth.sig.returnType = (some .boolean)) (hlk : meth.locks = false) (v1 : Int64) (v2 : Int64) (v3 : Int32) (v4 : Int64) (v5 : Int32) (v6 : Int64) (v7 : Addr) (v8 : Addr) (v9 : Int32) (v10 : Int32) (v11 : Int32) (v12 : Int32) {h0 : Heap} {n0 : Nat} (Z0 : n0 ≤ h0.size) {T0 : State} {L0 : List Loc} (X0 : Stand p l e room_1 s m args below meth c T0 L0 2 2) (N0 : Fr n0 L0) (e0 : T0.heap = h0)  :
    own_Fin p.tables e below (own_End below s (own_L n0 (.int (own_f0_124 v1 v2 v3 v4 v5 v6 v9 v10 v11 v12))) 2 2) T0 (mkF m 124 #[.val (.long v1), .second, .val (.long v2), .second, .val (.int v3), .val (.long v4), .second, .val (.int v5), .val (.long v6), .second, .val (.ref v7), .val (.ref v8), .val (.int v9), .val (.int v10), .val (.int v11), .val (.int v12), .unset, .unset, .unset] []) := by
  refine own_iload X0 hx (hb hby at_124) (pc' := 126) rfl rfl ?_
  refine own_iload X0 hx (hb hby at_126) (pc' := 128) rfl rfl ?_
  by_cases hc18 : v9 = v11
  · refine own_icmpNo X0 hx (hb hby at_128) (pc' := 131) rfl (teq hc18).2 ?_
    refine own_iload X0 hx (hb hby at_131) (pc' := 133) rfl rfl ?_
    refine own_iload X0 hx (hb hby at_133) (pc' := 135) rfl rfl ?_
    by_cases hc19 : v10 = v12
    · refine own_icmpNo X0 hx (hb hby at_135) (pc' := 138) rfl (teq hc19).2 ?_
      refine own_iconst X0 hx (hb hby at_138) (pc' := 139) rfl (v := (1 : Int32)) rfl ?_
      refine own_goto X0 hx (hb hby at_139) (pc' := 143) (by decide) (by decide) ?_
      refine own_istore X0 hx (hb hby at_143) (pc' := 145) rfl (Ls' := #[.val (.long v1), .second, .val (.long v2), .second, .val (.int v3), .val (.long v4), .second, .val (.int v5), .val (.long v6), .second, .val (.ref v7), .val (.ref v8), .val (.int v9), .val (.int v10), .val (.int v11), .val (.int v12), .val (.int (1 : Int32)), .unset, .unset]) rfl ?_
      refine own_cast ?_ (sg0_145 l hw hx hZ hby hml hown hnm hret hlk v1 v2 v3 v4 v5 v6 v7 v8 v9 v10 v11 v12 (1 : Int32) Z0 X0 N0 e0)
      rw [own_f0_124, if_pos hc18, if_pos hc19]
    · refine own_icmpYes X0 hx (hb hby at_135) (feq hc19).2 (pc' := 142) (by decide) (by decide) ?_
      refine own_iconst X0 hx (hb hby at_142) (pc' := 143) rfl (v := (0 : Int32)) rfl ?_
      refine own_istore X0 hx (hb hby at_143) (pc' := 145) rfl (Ls' := #[.val (.long v1), .second, .val (.long v2), .second, .val (.int v3), .val (.long v4), .second, .val (.int v5), .val (.long v6), .second, .val (.ref v7), .val (.ref v8), .val (.int v9), .val (.int v10), .val (.int v11), .val (.int v12), .val (.int (0 : Int32)), .unset, .unset]) rfl ?_
      refine own_cast ?_ (sg0_145 l hw hx hZ hby hml hown hnm hret hlk v1 v2 v3 v4 v5 v6 v7 v8 v9 v10 v11 v12 (0 : Int32) Z0 X0 N0 e0)
      rw [own_f0_124, if_pos hc18, if_neg hc19]
  · refine own_icmpYes X0 hx (hb hby at_128) (feq hc18).2 (pc' := 142) (by decide) (by decide) ?_
    refine own_iconst X0 hx (hb hby at_142) (pc' := 143) rfl (v := (0 : Int32)) rfl ?_
    refine own_istore X0 hx (hb hby at_143) (pc' := 145) rfl (Ls' := #[.val (.long v1), .second, .val (.long v2), .second, .val (.int v3), .val (.long v4), .second, .val (.int v5), .val (.long v6), .second, .val (.ref v7), .val (.ref v8), .val (.int v9), .val (.int v10), .val (.int v11), .val (.int v12), .val (.int (0 : Int32)), .unset, .unset]) rfl ?_
    refine own_cast ?_ (sg0_145 l hw hx hZ hby hml hown hnm hret hlk v1 v2 v3 v4 v5 v6 v7 v8 v9 v10 v11 v12 (0 : Int32) Z0 X0 N0 e0)
    rw [own_f0_124, if_neg hc18]
set_option maxRecDepth 65536 in
set_option maxHeartbeats 40000000 in
theorem sg0_90 {p : Program} (l : Launch) {e : Env} {s : State} {m : MethodId} {args : Array Value} {below : List Frame} {meth : Method} {c : Code} {Z : State} {a0 : Array Value} (hw : ∀ d ∈ tables_1, d.before a0 Z = true) (hx : p.tables.exec = Jvm.exec) (hZ : Z.Warmed39 s.vm) (hby : c.code = code) (hml : c.maxLocals = 19) (hown : s.vm.findClass "com/example/keystrand/keystrand/model/AmountExceedsPinLaw" = some m.cls) (hnm : meth.name = "law") (hret : meth.sig.returnType = (some .boolean)) (hlk : meth.locks = false) (v1 : Int64) (v2 : Int64) (v3 : Int32) (v4 : Int64) (v5 : Int32) (v6 : Int64) (v7 : Addr) (v8 : Addr) (v9 : Int32) (v10 : Int32) {h0 : Heap} {n0 : Nat} (Z0 : n0 ≤ h0.size) {T0 : State} {L0 : List Loc} (X0 : Stand p l e room_1 s m args below meth c T0 L0 2 2) (N0 : Fr n0 L0) (e0 : T0.heap = h0)  :
    own_Fin p.tables e below (own_End below s (own_L n0 (.int (own_f0_90 v1 v2 v3 v4 v5 v6 v9 v10))) 2 2) T0 (mkF m 90 #[.val (.long v1), .second, .val (.long v2), .second, .val (.int v3), .val (.long v4), .second, .val (.int v5), .val (.long v6), .second, .val (.ref v7), .val (.ref v8), .val (.int v9), .val (.int v10), .unset, .unset, .unset, .unset, .unset] []) := by
  refine own_lload X0 hx (hb hby at_90) (pc' := 92) rfl rfl ?_
  refine own_lload X0 hx (hb hby at_92) (pc' := 94) rfl rfl ?_
  refine own_lsub X0 hx (hb hby at_94) (pc' := 95) rfl ?_
  refine own_lconst X0 hx (hb hby at_95) (pc' := 96) rfl (v := (0 : Int64)) rfl ?_
  refine own_lcmp X0 hx (hb hby at_96) (pc' := 97) rfl ?_
  by_cases hc15 : (0 : Int64) < (v4 - v6)
  · refine own_ifNo X0 hx (hb hby at_97) (pc' := 100) rfl ((if0 _ _).trans (tlt (own_lc_gt.mpr hc15)).2.2.2) ?_
    refine own_iconst X0 hx (hb hby at_100) (pc' := 101) rfl (v := (1 : Int32)) rfl ?_
    refine own_goto X0 hx (hb hby at_101) (pc' := 105) (by decide) (by decide) ?_
    refine own_istore X0 hx (hb hby at_105) (pc' := 107) rfl (Ls' := #[.val (.long v1), .second, .val (.long v2), .second, .val (.int v3), .val (.long v4), .second, .val (.int v5), .val (.long v6), .second, .val (.ref v7), .val (.ref v8), .val (.int v9), .val (.int v10), .val (.int (1 : Int32)), .unset, .unset, .unset, .unset]) rfl ?_
    refine own_lload X0 hx (hb hby at_107) (pc' := 109) rfl rfl ?_
    refine own_lload X0 hx (hb hby at_109) (pc' := 111) rfl rfl ?_
    refine own_lsub X0 hx (hb hby at_111) (pc' := 112) rfl ?_
    refine own_lconst X0 hx (hb hby at_112) (pc' := 113) rfl (v := (0 : Int64)) rfl ?_
    refine own_lcmp X0 hx (hb hby at_113) (pc' := 114) rfl ?_
    by_cases hc16 : (0 : Int64) < (v6 - v4)
    · refine own_ifNo X0 hx (hb hby at_114) (pc' := 117) rfl ((if0 _ _).trans (tlt (own_lc_gt.mpr hc16)).2.2.2) ?_
      refine own_iconst X0 hx (hb hby at_117) (pc' := 118) rfl (v := (1 : Int32)) rfl ?_
      refine own_goto X0 hx (hb hby at_118) (pc' := 122) (by decide) (by decide) ?_
      refine own_istore X0 hx (hb hby at_122) (pc' := 124) rfl (Ls' := #[.val (.long v1), .second, .val (.long v2), .second, .val (.int v3), .val (.long v4), .second, .val (.int v5), .val (.long v6), .second, .val (.ref v7), .val (.ref v8), .val (.int v9), .val (.int v10), .val (.int (1 : Int32)), .val (.int (1 : Int32)), .unset, .unset, .unset]) rfl ?_
      refine own_cast ?_ (sg0_124 l hw hx hZ hby hml hown hnm hret hlk v1 v2 v3 v4 v5 v6 v7 v8 v9 v10 (1 : Int32) (1 : Int32) Z0 X0 N0 e0)
      rw [own_f0_90, if_pos hc15, if_pos hc16]
    · refine own_ifYes X0 hx (hb hby at_114) ((if0 _ _).trans (flt (mt own_lc_gt.mp hc16)).2.2.2) (pc' := 121) (by decide) (by decide) ?_
      refine own_iconst X0 hx (hb hby at_121) (pc' := 122) rfl (v := (0 : Int32)) rfl ?_
      refine own_istore X0 hx (hb hby at_122) (pc' := 124) rfl (Ls' := #[.val (.long v1), .second, .val (.long v2), .second, .val (.int v3), .val (.long v4), .second, .val (.int v5), .val (.long v6), .second, .val (.ref v7), .val (.ref v8), .val (.int v9), .val (.int v10), .val (.int (1 : Int32)), .val (.int (0 : Int32)), .unset, .unset, .unset]) rfl ?_
      refine own_cast ?_ (sg0_124 l hw hx hZ hby hml hown hnm hret hlk v1 v2 v3 v4 v5 v6 v7 v8 v9 v10 (1 : Int32) (0 : Int32) Z0 X0 N0 e0)
      rw [own_f0_90, if_pos hc15, if_neg hc16]
  · refine own_ifYes X0 hx (hb hby at_97) ((if0 _ _).trans (flt (mt own_lc_gt.mp hc15)).2.2.2) (pc' := 104) (by decide) (by decide) ?_
    refine own_iconst X0 hx (hb hby at_104) (pc' := 105) rfl (v := (0 : Int32)) rfl ?_
    refine own_istore X0 hx (hb hby at_105) (pc' := 107) rfl (Ls' := #[.val (.long v1), .second, .val (.long v2), .second, .val (.int v3), .val (.long v4), .second, .val (.int v5), .val (.long v6), .second, .val (.ref v7), .val (.ref v8), .val (.int v9), .val (.int v10), .val (.int (0 : Int32)), .unset, .unset, .unset, .unset]) rfl ?_
    refine own_lload X0 hx (hb hby at_107) (pc' := 109) rfl rfl ?_
    refine own_lload X0 hx (hb hby at_109) (pc' := 111) rfl rfl ?_
    refine own_lsub X0 hx (hb hby at_111) (pc' := 112) rfl ?_
    refine own_lconst X0 hx (hb hby at_112) (pc' := 113) rfl (v := (0 : Int64)) rfl ?_
    refine own_lcmp X0 hx (hb hby at_113) (pc' := 114) rfl ?_
    by_cases hc17 : (0 : Int64) < (v6 - v4)
    · refine own_ifNo X0 hx (hb hby at_114) (pc' := 117) rfl ((if0 _ _).trans (tlt (own_lc_gt.mpr hc17)).2.2.2) ?_
      refine own_iconst X0 hx (hb hby at_117) (pc' := 118) rfl (v := (1 : Int32)) rfl ?_
      refine own_goto X0 hx (hb hby at_118) (pc' := 122) (by decide) (by decide) ?_
      refine own_istore X0 hx (hb hby at_122) (pc' := 124) rfl (Ls' := #[.val (.long v1), .second, .val (.long v2), .second, .val (.int v3), .val (.long v4), .second, .val (.int v5), .val (.long v6), .second, .val (.ref v7), .val (.ref v8), .val (.int v9), .val (.int v10), .val (.int (0 : Int32)), .val (.int (1 : Int32)), .unset, .unset, .unset]) rfl ?_
      refine own_cast ?_ (sg0_124 l hw hx hZ hby hml hown hnm hret hlk v1 v2 v3 v4 v5 v6 v7 v8 v9 v10 (0 : Int32) (1 : Int32) Z0 X0 N0 e0)
      rw [own_f0_90, if_neg hc15, if_pos hc17]
    · refine own_ifYes X0 hx (hb hby at_114) ((if0 _ _).trans (flt (mt own_lc_gt.mp hc17)).2.2.2) (pc' := 121) (by decide) (by decide) ?_
      refine own_iconst X0 hx (hb hby at_121) (pc' := 122) rfl (v := (0 : Int32)) rfl ?_
      refine own_istore X0 hx (hb hby at_122) (pc' := 124) rfl (Ls' := #[.val (.long v1), .second, .val (.long v2), .second, .val (.int v3), .val (.long v4), .second, .val (.int v5), .val (.long v6), .second, .val (.ref v7), .val (.ref v8), .val (.int v9), .val (.int v10), .val (.int (0 : Int32)), .val (.int (0 : Int32)), .unset, .unset, .unset]) rfl ?_
      refine own_cast ?_ (sg0_124 l hw hx hZ hby hml hown hnm hret hlk v1 v2 v3 v4 v5 v6 v7 v8 v9 v10 (0 : Int32) (0 : Int32) Z0 X0 N0 e0)
      rw [own_f0_90, if_neg hc15, if_neg hc17]
set_option maxRecDepth 65536 in
set_option maxHeartbeats 40000000 in
theorem sg0_50 {p : Program} (l : Launch) {e : Env} {s : State} {m : MethodId} {args : Array Value} {below : List Frame} {meth : Method} {c : Code} {Z : State} {a0 : Array Value} (hw : ∀ d ∈ tables_1, d.before a0 Z = true) (hx : p.tables.exec = Jvm.exec) (hZ : Z.Warmed39 s.vm) (hby : c.code = code) (hml : c.maxLocals = 19) (hown : s.vm.findClass "com/example/keystrand/keystrand/model/AmountExceedsPinLaw" = some m.cls) (hnm : meth.name = "law") (hret : meth.sig.returnType = (some .boolean)) (hlk : meth.locks = false) (v1 : Int64) (v2 : Int64) (v3 : Int32) (v4 : Int64) (v5 : Int32) (v6 : Int64) {h0 : Heap} {n0 : Nat} (Z0 : n0 ≤ h0.size) {T0 : State} {L0 : List Loc} (X0 : Stand p l e room_1 s m args below meth c T0 L0 0 0) (N0 : Fr n0 L0) (e0 : T0.heap = h0) (ha : ¬ (v4 < (0 : Int64))) (hb' : ¬ (v6 < (0 : Int64))) :
    own_Fin p.tables e below (own_End below s (own_L n0 (.int (own_f0_50 v1 v2 v3 v4 v5 v6))) 2 2) T0 (mkF m 50 #[.val (.long v1), .second, .val (.long v2), .second, .val (.int v3), .val (.long v4), .second, .val (.int v5), .val (.long v6), .second, .unset, .unset, .unset, .unset, .unset, .unset, .unset, .unset, .unset] []) := by
  obtain ⟨T9, h9, X9, e9, E9, A9, D9, -, st9⟩ := newO X0 hx hZ hown (hw _ (List.mem_of_getElem? (i := 2) rfl)) (hw _ (List.mem_of_getElem? (i := 3) rfl)) (hw _ (List.mem_of_getElem? (i := 4) rfl)) e0 (g := (mkF m 50 #[.val (.long v1), .second, .val (.long v2), .second, .val (.int v3), .val (.long v4), .second, .val (.int v5), .val (.long v6), .second, .unset, .unset, .unset, .unset, .unset, .unset, .unset, .unset, .unset] [])) rfl (hb hby at_50) (by decide) (by decide)
  obtain ⟨b9, g9⟩ : ∃ z, z = h0.size := ⟨_, rfl⟩
  rw [← g9] at A9 D9 st9
  have g_b9 : n0 ≤ b9 := Nat.le_trans Z0 (Nat.le_of_eq g9.symm)
  have F_b9_minorUnits_9 : Fld Z h9 b9 "com/example/keystrand/keystrand/model/Amount" "minorUnits" "J" (.long (0 : Int64)) := D9 (Or.inr (hw _ (List.mem_of_getElem? (i := 17) rfl))) (ty := .long) (by decide)
  have sz9 : n0 ≤ h9.size := Nat.le_trans Z0 E9.1
  refine own_st ?_ st9
  show own_Fin _ _ _ _ T9 (mkF m 53 #[.val (.long v1), .second, .val (.long v2), .second, .val (.int v3), .val (.long v4), .second, .val (.int v5), .val (.long v6), .second, .unset, .unset, .unset, .unset, .unset, .unset, .unset, .unset, .unset] [(.ref b9)])
  refine own_dup X9 hx (hb hby at_53) (pc' := 54) rfl rfl ?_
  refine own_lload X9 hx (hb hby at_54) (pc' := 56) rfl rfl ?_
  obtain ⟨_, _, ⟨T10, L10, k10, n10⟩, -, X10, ⟨Lc10, hQ10, l10, y10, z10⟩, st10⟩ := X9.specialBack hx (y := (⟨"com/example/keystrand/keystrand/model/Amount", "<init>", "(J)V"⟩ : MethodName)) rfl hown (mvT hZ (hw _ (List.mem_of_getElem? (i := 5) rfl))) (mvT hZ (hw _ (List.mem_of_getElem? (i := 6) rfl))) (mvT hZ (hw _ (List.mem_of_getElem? (i := 7) rfl))) (by decide) (backOf (W := 1) (rm1 l Z a0 hw [] b9 v4 (0 : Int64) h9 n0 sz9 A9 g_b9 F_b9_minorUnits_9 ha) hZ (hw _ (List.mem_of_getElem? (i := 7) rfl)) (hw _ (List.mem_of_getElem? (i := 4) rfl)) (by decide) (by decide)) (g := (mkF m 56 #[.val (.long v1), .second, .val (.long v2), .second, .val (.int v3), .val (.long v4), .second, .val (.int v5), .val (.long v6), .second, .unset, .unset, .unset, .unset, .unset, .unset, .unset, .unset, .unset] [(.long v4), (.ref b9), (.ref b9)])) rfl (by rw [hml]; rfl) (Steps.refl _) (a := b9) (argsL := [(.long v4)]) (rest := [(.ref b9)]) (lenOf pd_1 rfl) rfl (by show 2 * 0 + _ ≤ _; exact Nat.le_of_eq rfl) (hb hby at_56) (fun _ _ => ⟨rfl, e9, (by decide : 1 + 0 ≤ _), (by decide : 1 + 0 ≤ _)⟩)
  dsimp only [Pt.U, Pt.locs, Pt.cells, Pt.slots] at X10 l10 y10 z10 st10 hQ10
  subst l10 y10 z10
  obtain ⟨rfl, N10q, K10', E_b9_10, F_b9_minorUnits_10⟩ := hQ10
  have sz10 : n0 ≤ T10.heap.size := Nat.le_trans sz9 K10'.1
  have N10 := Fr.app N0 N10q
  refine own_st ?_ (fun t k => st10.trans k)
  show own_Fin _ _ _ _ T10 (mkF m 59 #[.val (.long v1), .second, .val (.long v2), .second, .val (.int v3), .val (.long v4), .second, .val (.int v5), .val (.long v6), .second, .unset, .unset, .unset, .unset, .unset, .unset, .unset, .unset, .unset] [(.ref b9)])
  refine own_astore X10 hx (hb hby at_59) (pc' := 61) rfl (Ls' := #[.val (.long v1), .second, .val (.long v2), .second, .val (.int v3), .val (.long v4), .second, .val (.int v5), .val (.long v6), .second, .val (.ref b9), .unset, .unset, .unset, .unset, .unset, .unset, .unset, .unset]) rfl rfl ?_
  obtain ⟨T11, h11, X11, e11, E11, A11, D11, -, st11⟩ := newO X10 hx hZ hown (hw _ (List.mem_of_getElem? (i := 2) rfl)) (hw _ (List.mem_of_getElem? (i := 3) rfl)) (hw _ (List.mem_of_getElem? (i := 4) rfl)) rfl (g := (mkF m 61 #[.val (.long v1), .second, .val (.long v2), .second, .val (.int v3), .val (.long v4), .second, .val (.int v5), .val (.long v6), .second, .val (.ref b9), .unset, .unset, .unset, .unset, .unset, .unset, .unset, .unset] [])) rfl (hb hby at_61) (by decide) (by decide)
  obtain ⟨b11, g11⟩ : ∃ z, z = T10.heap.size := ⟨_, rfl⟩
  rw [← g11] at A11 D11 st11
  have g_b11 : n0 ≤ b11 := Nat.le_trans sz10 (Nat.le_of_eq g11.symm)
  have ne_b9_b11 : b9 ≠ b11 := Nat.ne_of_lt (Nat.lt_of_lt_of_le F_b9_minorUnits_10.lt (Nat.le_of_eq g11.symm))
  have E_b9_11 : Exa Z h11 b9 "com/example/keystrand/keystrand/model/Amount" := E_b9_10.ext E11
  have F_b9_minorUnits_11 : Fld Z h11 b9 "com/example/keystrand/keystrand/model/Amount" "minorUnits" "J" (.long v4) := F_b9_minorUnits_10.ext E11
  have F_b11_minorUnits_11 : Fld Z h11 b11 "com/example/keystrand/keystrand/model/Amount" "minorUnits" "J" (.long (0 : Int64)) := D11 (Or.inr (hw _ (List.mem_of_getElem? (i := 17) rfl))) (ty := .long) (by decide)
  have sz11 : n0 ≤ h11.size := Nat.le_trans sz10 E11.1
  refine own_st ?_ st11
  show own_Fin _ _ _ _ T11 (mkF m 64 #[.val (.long v1), .second, .val (.long v2), .second, .val (.int v3), .val (.long v4), .second, .val (.int v5), .val (.long v6), .second, .val (.ref b9), .unset, .unset, .unset, .unset, .unset, .unset, .unset, .unset] [(.ref b11)])
  refine own_dup X11 hx (hb hby at_64) (pc' := 65) rfl rfl ?_
  refine own_lload X11 hx (hb hby at_65) (pc' := 67) rfl rfl ?_
  obtain ⟨_, _, ⟨T12, L12, k12, n12⟩, -, X12, ⟨Lc12, hQ12, l12, y12, z12⟩, st12⟩ := X11.specialBack hx (y := (⟨"com/example/keystrand/keystrand/model/Amount", "<init>", "(J)V"⟩ : MethodName)) rfl hown (mvT hZ (hw _ (List.mem_of_getElem? (i := 5) rfl))) (mvT hZ (hw _ (List.mem_of_getElem? (i := 6) rfl))) (mvT hZ (hw _ (List.mem_of_getElem? (i := 7) rfl))) (by decide) (backOf (W := 1) (rm1 l Z a0 hw [] b11 v6 (0 : Int64) h11 n0 sz11 A11 g_b11 F_b11_minorUnits_11 hb') hZ (hw _ (List.mem_of_getElem? (i := 7) rfl)) (hw _ (List.mem_of_getElem? (i := 4) rfl)) (by decide) (by decide)) (g := (mkF m 67 #[.val (.long v1), .second, .val (.long v2), .second, .val (.int v3), .val (.long v4), .second, .val (.int v5), .val (.long v6), .second, .val (.ref b9), .unset, .unset, .unset, .unset, .unset, .unset, .unset, .unset] [(.long v6), (.ref b11), (.ref b11)])) rfl (by rw [hml]; rfl) (Steps.refl _) (a := b11) (argsL := [(.long v6)]) (rest := [(.ref b11)]) (lenOf pd_1 rfl) rfl (by show 2 * 0 + _ ≤ _; exact Nat.le_of_eq rfl) (hb hby at_67) (fun _ _ => ⟨rfl, e11, (by decide : 2 + 0 ≤ _), (by decide : 2 + 0 ≤ _)⟩)
  dsimp only [Pt.U, Pt.locs, Pt.cells, Pt.slots] at X12 l12 y12 z12 st12 hQ12
  subst l12 y12 z12
  obtain ⟨rfl, N12q, K12', E_b11_12, F_b11_minorUnits_12⟩ := hQ12
  have E_b9_12 : Exa Z T12.heap b9 "com/example/keystrand/keystrand/model/Amount" := E_b9_11.keep K12'
  have F_b9_minorUnits_12 : Fld Z T12.heap b9 "com/example/keystrand/keystrand/model/Amount" "minorUnits" "J" (.long v4) := F_b9_minorUnits_11.keep K12' (ninS ne_b9_b11 nin0)
  have sz12 : n0 ≤ T12.heap.size := Nat.le_trans sz11 K12'.1
  have N12 := Fr.app N10 N12q
  refine own_st ?_ (fun t k => st12.trans k)
  show own_Fin _ _ _ _ T12 (mkF m 70 #[.val (.long v1), .second, .val (.long v2), .second, .val (.int v3), .val (.long v4), .second, .val (.int v5), .val (.long v6), .second, .val (.ref b9), .unset, .unset, .unset, .unset, .unset, .unset, .unset, .unset] [(.ref b11)])
  refine own_astore X12 hx (hb hby at_70) (pc' := 72) rfl (Ls' := #[.val (.long v1), .second, .val (.long v2), .second, .val (.int v3), .val (.long v4), .second, .val (.int v5), .val (.long v6), .second, .val (.ref b9), .val (.ref b11), .unset, .unset, .unset, .unset, .unset, .unset, .unset]) rfl rfl ?_
  refine own_aload X12 hx (hb hby at_72) (pc' := 74) rfl rfl rfl ?_
  refine own_aload X12 hx (hb hby at_74) (pc' := 76) rfl rfl rfl ?_
  obtain ⟨cq13, kq13, q13a, q13b, q13c⟩ := isOf hZ rfl E_b9_12
  obtain ⟨_, _, ⟨T13, L13, k13, n13⟩, -, X13, ⟨Lc13, hQ13, l13, y13, z13⟩, st13⟩ := X12.virtualBack hx (y := (⟨"com/example/keystrand/keystrand/model/Amount", "exceeds", "(Lcom/example/keystrand/keystrand/model/Amount;)Z"⟩ : MethodName)) (z := (⟨"com/example/keystrand/keystrand/model/Amount", "exceeds", "(Lcom/example/keystrand/keystrand/model/Amount;)Z"⟩ : MethodName)) hown (mvT hZ (hw _ (List.mem_of_getElem? (i := 18) rfl))) (mvT hZ (hw _ (List.mem_of_getElem? (i := 19) rfl))) (notFace_of_selects (args := #[]) (mvT hZ (hw _ (List.mem_of_getElem? (i := 21) rfl)))) (mvT hZ (hw _ (List.mem_of_getElem? (i := 21) rfl))) (mvT hZ (hw _ (List.mem_of_getElem? (i := 20) rfl))) (by decide) (backOf (W := 0) (rm4 l Z a0 hw [] b9 b11 v4 v6 T12.heap n0 sz12 E_b9_12 F_b9_minorUnits_12 E_b11_12 F_b11_minorUnits_12) hZ (hw _ (List.mem_of_getElem? (i := 22) rfl)) (hw _ (List.mem_of_getElem? (i := 4) rfl)) (by decide) (by decide)) q13a q13c (g := (mkF m 76 #[.val (.long v1), .second, .val (.long v2), .second, .val (.int v3), .val (.long v4), .second, .val (.int v5), .val (.long v6), .second, .val (.ref b9), .val (.ref b11), .unset, .unset, .unset, .unset, .unset, .unset, .unset] [(.ref b11), (.ref b9)])) rfl (by rw [hml]; rfl) (Steps.refl _) (argsL := [(.ref b11)]) (rest := []) (lenOf pd_2 rfl) rfl (by show 2 * 0 + _ ≤ _; exact Nat.le_of_eq rfl) (hb hby at_76) (fun _ _ => ⟨rfl, rfl, (by decide : 2 + 0 ≤ _), (by decide : 2 + 0 ≤ _)⟩)
  dsimp only [Pt.U, Pt.locs, Pt.cells, Pt.slots] at X13 l13 y13 z13 st13 hQ13
  subst l13 y13 z13
  obtain ⟨rfl, N13q, e13'⟩ := hQ13
  have N13 := Fr.app N12 N13q
  refine own_st ?_ (fun t k => st13.trans k)
  show own_Fin _ _ _ _ T13 (mkF m 79 #[.val (.long v1), .second, .val (.long v2), .second, .val (.int v3), .val (.long v4), .second, .val (.int v5), .val (.long v6), .second, .val (.ref b9), .val (.ref b11), .unset, .unset, .unset, .unset, .unset, .unset, .unset] [(.int (own_f4 v4 v6))])
  refine own_istore X13 hx (hb hby at_79) (pc' := 81) rfl (Ls' := #[.val (.long v1), .second, .val (.long v2), .second, .val (.int v3), .val (.long v4), .second, .val (.int v5), .val (.long v6), .second, .val (.ref b9), .val (.ref b11), .val (.int (own_f4 v4 v6)), .unset, .unset, .unset, .unset, .unset, .unset]) rfl ?_
  refine own_aload X13 hx (hb hby at_81) (pc' := 83) rfl rfl rfl ?_
  refine own_aload X13 hx (hb hby at_83) (pc' := 85) rfl rfl rfl ?_
  obtain ⟨cq14, kq14, q14a, q14b, q14c⟩ := isOf hZ e13' E_b11_12
  obtain ⟨_, _, ⟨T14, L14, k14, n14⟩, -, X14, ⟨Lc14, hQ14, l14, y14, z14⟩, st14⟩ := X13.virtualBack hx (y := (⟨"com/example/keystrand/keystrand/model/Amount", "exceeds", "(Lcom/example/keystrand/keystrand/model/Amount;)Z"⟩ : MethodName)) (z := (⟨"com/example/keystrand/keystrand/model/Amount", "exceeds", "(Lcom/example/keystrand/keystrand/model/Amount;)Z"⟩ : MethodName)) hown (mvT hZ (hw _ (List.mem_of_getElem? (i := 18) rfl))) (mvT hZ (hw _ (List.mem_of_getElem? (i := 19) rfl))) (notFace_of_selects (args := #[]) (mvT hZ (hw _ (List.mem_of_getElem? (i := 21) rfl)))) (mvT hZ (hw _ (List.mem_of_getElem? (i := 21) rfl))) (mvT hZ (hw _ (List.mem_of_getElem? (i := 20) rfl))) (by decide) (backOf (W := 0) (rm4 l Z a0 hw [] b11 b9 v6 v4 T12.heap n0 sz12 E_b11_12 F_b11_minorUnits_12 E_b9_12 F_b9_minorUnits_12) hZ (hw _ (List.mem_of_getElem? (i := 22) rfl)) (hw _ (List.mem_of_getElem? (i := 4) rfl)) (by decide) (by decide)) q14a q14c (g := (mkF m 85 #[.val (.long v1), .second, .val (.long v2), .second, .val (.int v3), .val (.long v4), .second, .val (.int v5), .val (.long v6), .second, .val (.ref b9), .val (.ref b11), .val (.int (own_f4 v4 v6)), .unset, .unset, .unset, .unset, .unset, .unset] [(.ref b9), (.ref b11)])) rfl (by rw [hml]; rfl) (Steps.refl _) (argsL := [(.ref b9)]) (rest := []) (lenOf pd_2 rfl) rfl (by show 2 * 0 + _ ≤ _; exact Nat.le_of_eq rfl) (hb hby at_85) (fun _ _ => ⟨rfl, e13', (by decide : 2 + 0 ≤ _), (by decide : 2 + 0 ≤ _)⟩)
  dsimp only [Pt.U, Pt.locs, Pt.cells, Pt.slots] at X14 l14 y14 z14 st14 hQ14
  subst l14 y14 z14
  obtain ⟨rfl, N14q, e14'⟩ := hQ14
  have N14 := Fr.app N13 N14q
  refine own_st ?_ (fun t k => st14.trans k)
  show own_Fin _ _ _ _ T14 (mkF m 88 #[.val (.long v1), .second, .val (.long v2), .second, .val (.int v3), .val (.long v4), .second, .val (.int v5), .val (.long v6), .second, .val (.ref b9), .val (.ref b11), .val (.int (own_f4 v4 v6)), .unset, .unset, .unset, .unset, .unset, .unset] [(.int (own_f4 v6 v4))])
  refine own_istore X14 hx (hb hby at_88) (pc' := 90) rfl (Ls' := #[.val (.long v1), .second, .val (.long v2), .second, .val (.int v3), .val (.long v4), .second, .val (.int v5), .val (.long v6), .second, .val (.ref b9), .val (.ref b11), .val (.int (own_f4 v4 v6)), .val (.int (own_f4 v6 v4)), .unset, .unset, .unset, .unset, .unset]) rfl ?_
  refine own_cast ?_ (sg0_90 l hw hx hZ hby hml hown hnm hret hlk v1 v2 v3 v4 v5 v6 b9 b11 (own_f4 v4 v6) (own_f4 v6 v4) sz12 X14 N14 e14')
  rw [own_f0_50]
set_option maxRecDepth 65536 in
set_option maxHeartbeats 40000000 in
theorem sg0_0 {p : Program} (l : Launch) {e : Env} {s : State} {m : MethodId} {args : Array Value} {below : List Frame} {meth : Method} {c : Code} {Z : State} {a0 : Array Value} (hw : ∀ d ∈ tables_1, d.before a0 Z = true) (hx : p.tables.exec = Jvm.exec) (hZ : Z.Warmed39 s.vm) (hby : c.code = code) (hml : c.maxLocals = 19) (hown : s.vm.findClass "com/example/keystrand/keystrand/model/AmountExceedsPinLaw" = some m.cls) (hnm : meth.name = "law") (hret : meth.sig.returnType = (some .boolean)) (hlk : meth.locks = false) (q1 : Int64) (q2 : Int64) (q3 : Int32) {h0 : Heap} {n0 : Nat} (Z0 : n0 ≤ h0.size) {T0 : State} {L0 : List Loc} (X0 : Stand p l e room_1 s m args below meth c T0 L0 0 0) (N0 : Fr n0 L0) (e0 : T0.heap = h0)  :
    own_Fin p.tables e below (own_End below s (own_L n0 (.int (own_f0 q1 q2 q3))) 2 2) T0 (mkF m 0 #[.val (.long q1), .second, .val (.long q2), .second, .val (.int q3), .unset, .unset, .unset, .unset, .unset, .unset, .unset, .unset, .unset, .unset, .unset, .unset, .unset, .unset] []) := by
  refine own_lloadN X0 hx (hb hby at_0) (pc' := 1) rfl rfl ?_
  refine own_ldc2Long X0 hx hZ hown (hw _ (List.mem_of_getElem? (i := 0) rfl)) (hb hby at_1) (pc' := 4) rfl ?_
  refine own_land X0 hx (hb hby at_4) (pc' := 5) rfl ?_
  refine own_lstore X0 hx (hb hby at_5) (pc' := 7) rfl (Ls' := #[.val (.long q1), .second, .val (.long q2), .second, .val (.int q3), .val (.long (q1 &&& (9223372036854775807 : Int64))), .second, .unset, .unset, .unset, .unset, .unset, .unset, .unset, .unset, .unset, .unset, .unset, .unset]) rfl ?_
  refine own_iload X0 hx (hb hby at_7) (pc' := 9) rfl rfl ?_
  refine own_ldcInt X0 hx hZ hown (hw _ (List.mem_of_getElem? (i := 1) rfl)) (hb hby at_9) (pc' := 11) rfl ?_
  refine own_iand X0 hx (hb hby at_11) (pc' := 12) rfl ?_
  refine own_iconst X0 hx (hb hby at_12) (pc' := 13) rfl (v := (3 : Int32)) rfl ?_
  refine own_irem X0 hx (hb hby at_13) (pc' := 14) rfl (by decide) ?_
  refine own_istore X0 hx (hb hby at_14) (pc' := 16) rfl (Ls' := #[.val (.long q1), .second, .val (.long q2), .second, .val (.int q3), .val (.long (q1 &&& (9223372036854775807 : Int64))), .second, .val (.int ((q3 &&& (2147483647 : Int32)) - ((q3 &&& (2147483647 : Int32)) / (3 : Int32)) * (3 : Int32))), .unset, .unset, .unset, .unset, .unset, .unset, .unset, .unset, .unset, .unset, .unset]) rfl ?_
  refine own_iload X0 hx (hb hby at_16) (pc' := 18) rfl rfl ?_
  by_cases hc7 : ((q3 &&& (2147483647 : Int32)) - ((q3 &&& (2147483647 : Int32)) / (3 : Int32)) * (3 : Int32)) = (0 : Int32)
  · refine own_ifNo X0 hx (hb hby at_18) (pc' := 21) rfl ((if0 _ _).trans (teq hc7).2) ?_
    refine own_lloadN X0 hx (hb hby at_21) (pc' := 22) rfl rfl ?_
    refine own_ldc2Long X0 hx hZ hown (hw _ (List.mem_of_getElem? (i := 0) rfl)) (hb hby at_22) (pc' := 25) rfl ?_
    refine own_land X0 hx (hb hby at_25) (pc' := 26) rfl ?_
    refine own_lstore X0 hx (hb hby at_26) (pc' := 28) rfl (Ls' := #[.val (.long q1), .second, .val (.long q2), .second, .val (.int q3), .val (.long (q1 &&& (9223372036854775807 : Int64))), .second, .val (.int ((q3 &&& (2147483647 : Int32)) - ((q3 &&& (2147483647 : Int32)) / (3 : Int32)) * (3 : Int32))), .val (.long (q2 &&& (9223372036854775807 : Int64))), .second, .unset, .unset, .unset, .unset, .unset, .unset, .unset, .unset, .unset]) rfl ?_
    refine own_goto X0 hx (hb hby at_28) (pc' := 50) (by decide) (by decide) ?_
    refine own_cast ?_ (sg0_50 l hw hx hZ hby hml hown hnm hret hlk q1 q2 q3 (q1 &&& (9223372036854775807 : Int64)) ((q3 &&& (2147483647 : Int32)) - ((q3 &&& (2147483647 : Int32)) / (3 : Int32)) * (3 : Int32)) (q2 &&& (9223372036854775807 : Int64)) Z0 X0 N0 e0 (own_nn _) (own_nn _))
    rw [own_f0, if_pos hc7]
  · refine own_ifYes X0 hx (hb hby at_18) ((if0 _ _).trans (feq hc7).2) (pc' := 31) (by decide) (by decide) ?_
    refine own_iload X0 hx (hb hby at_31) (pc' := 33) rfl rfl ?_
    refine own_iconst X0 hx (hb hby at_33) (pc' := 34) rfl (v := (1 : Int32)) rfl ?_
    by_cases hc8 : ((q3 &&& (2147483647 : Int32)) - ((q3 &&& (2147483647 : Int32)) / (3 : Int32)) * (3 : Int32)) = (1 : Int32)
    · refine own_icmpNo X0 hx (hb hby at_34) (pc' := 37) rfl (teq hc8).2 ?_
      refine own_lload X0 hx (hb hby at_37) (pc' := 39) rfl rfl ?_
      refine own_lstore X0 hx (hb hby at_39) (pc' := 41) rfl (Ls' := #[.val (.long q1), .second, .val (.long q2), .second, .val (.int q3), .val (.long (q1 &&& (9223372036854775807 : Int64))), .second, .val (.int ((q3 &&& (2147483647 : Int32)) - ((q3 &&& (2147483647 : Int32)) / (3 : Int32)) * (3 : Int32))), .val (.long (q1 &&& (9223372036854775807 : Int64))), .second, .unset, .unset, .unset, .unset, .unset, .unset, .unset, .unset, .unset]) rfl ?_
      refine own_goto X0 hx (hb hby at_41) (pc' := 50) (by decide) (by decide) ?_
      refine own_cast ?_ (sg0_50 l hw hx hZ hby hml hown hnm hret hlk q1 q2 q3 (q1 &&& (9223372036854775807 : Int64)) ((q3 &&& (2147483647 : Int32)) - ((q3 &&& (2147483647 : Int32)) / (3 : Int32)) * (3 : Int32)) (q1 &&& (9223372036854775807 : Int64)) Z0 X0 N0 e0 (own_nn _) (own_nn _))
      rw [own_f0, if_neg hc7, if_pos hc8]
    · refine own_icmpYes X0 hx (hb hby at_34) (feq hc8).2 (pc' := 44) (by decide) (by decide) ?_
      refine own_lload X0 hx (hb hby at_44) (pc' := 46) rfl rfl ?_
      refine own_lconst X0 hx (hb hby at_46) (pc' := 47) rfl (v := (1 : Int64)) rfl ?_
      refine own_lxor X0 hx (hb hby at_47) (pc' := 48) rfl ?_
      refine own_lstore X0 hx (hb hby at_48) (pc' := 50) rfl (Ls' := #[.val (.long q1), .second, .val (.long q2), .second, .val (.int q3), .val (.long (q1 &&& (9223372036854775807 : Int64))), .second, .val (.int ((q3 &&& (2147483647 : Int32)) - ((q3 &&& (2147483647 : Int32)) / (3 : Int32)) * (3 : Int32))), .val (.long ((q1 &&& (9223372036854775807 : Int64)) ^^^ (1 : Int64))), .second, .unset, .unset, .unset, .unset, .unset, .unset, .unset, .unset, .unset]) rfl ?_
      refine own_cast ?_ (sg0_50 l hw hx hZ hby hml hown hnm hret hlk q1 q2 q3 (q1 &&& (9223372036854775807 : Int64)) ((q3 &&& (2147483647 : Int32)) - ((q3 &&& (2147483647 : Int32)) / (3 : Int32)) * (3 : Int32)) ((q1 &&& (9223372036854775807 : Int64)) ^^^ (1 : Int64)) Z0 X0 N0 e0 (own_nn _) (own_nx q1))
      rw [own_f0, if_neg hc7, if_neg hc8]
theorem ef_0 (m : MethodId) (q1 : Int64) (q2 : Int64) (q3 : Int32) : entryFrame m #[(.long q1), (.long q2), (.int q3)] maxLocals = mkF m 0 #[.val (.long q1), .second, .val (.long q2), .second, .val (.int q3), .unset, .unset, .unset, .unset, .unset, .unset, .unset, .unset, .unset, .unset, .unset, .unset, .unset, .unset] [] := by first | (simp [entryFrame, mkF, argsToLocals, Value.category, maxLocals]; done) | rfl
set_option maxRecDepth 65536 in
set_option maxHeartbeats 40000000 in
theorem rm0 (l : Launch) (Z : State) (a0 : Array Value) (hw : ∀ d ∈ tables_1, d.before a0 Z = true) (ws : List Jvm.Cond) (q1 : Int64) (q2 : Int64) (q3 : Int32) (h0 : Heap) (n0 : Nat) (Z0 : n0 ≤ h0.size)  (own_law : ∀ (q1 : Int64) (q2 : Int64) (q3 : Int32), (own_f0 q1 q2 q3) = 1) :
    MetFree l x (head1 (Jvm.Cond.code x code maxLocals ret :: ws) room_1) (fun a U => a = #[(.long q1), (.long q2), (.int q3)] ∧ Z.Warmed39 U.vm ∧ U.heap = h0) (fun _ _ _ _ _ => True) (fun _ U o U' => ∃ v L, o = .returned v ∧ (own_L n0 (.int 1)) v U'.heap L ∧ FrameEnd U o U' L 2 2) := by
  refine MetFree.of_bodySF (plainFor_of_name pn_0) hisR ?_
  intro p e s m args below meth c s₁ Bd hml0 hP hK
  obtain ⟨rfl, hZ, hh⟩ := hP
  have hown : s.vm.findClass "com/example/keystrand/keystrand/model/AmountExceedsPinLaw" = some m.cls := findClass_of_methodNamed Bd.named
  have hnm := (name_of_methodNamed Bd.named Bd.method).1
  have X0 : Stand p l e room_1 s m #[(.long q1), (.long q2), (.int q3)] below meth c s₁ [] 0 0 := Stand.of_body Bd
  have e0 : s₁.heap = h0 := by rw [← hh, Bd.state]; rfl
  have H := sg0_0 l hw Bd.exec hZ Bd.bytes hml0 hown hnm Bd.returns Bd.notSynchronized q1 q2 q3 Z0 X0 (Fr.nil n0) e0
  rw [own_law] at H
  obtain ⟨t, h1, h2, o, h3, h4⟩ := H
  exact ⟨t, o, castTop (ef_0 m q1 q2 q3) h1, h2, h3, h4⟩
theorem own_k50 (v1 v2 : Int64) (v3 : Int32) (v4 : Int64) (v5 : Int32) (v6 : Int64) (ha : ¬ v4 < 0) (hb : ¬ v6 < 0) : own_f0_50 v1 v2 v3 v4 v5 v6 = 1 := by
  have z : (0 : Int64).toInt = 0 := by decide
  have b4 := own_b64 v4
  have b6 := own_b64 v6
  rw [own_lt64, z] at ha hb
  have s1 : (v4 - v6).toInt = v4.toInt - v6.toInt := Jvm.Kit.i64_sub (by omega) (by omega)
  have s2 : (v6 - v4).toInt = v6.toInt - v4.toInt := Jvm.Kit.i64_sub (by omega) (by omega)
  unfold own_f0_50 own_f0_90 own_f4
  by_cases h1 : v6 < v4
  · have h2 : ¬ v4 < v6 := by rw [own_lt64] at h1 ⊢; omega
    have h3 : (0 : Int64) < v4 - v6 := by rw [own_lt64] at h1 ⊢; omega
    have h4 : ¬ (0 : Int64) < v6 - v4 := by rw [own_lt64] at h1 ⊢; omega
    have h5 : ¬ v4 = v6 := by rw [own_lt64] at h1; rw [own_eq64]; omega
    rw [if_pos h1, if_neg h2, if_pos h3, if_neg h4]
    simp +decide only [own_f0_124, own_f0_145, own_f0_162, own_f0_200, h5, if_true, if_false]
  · by_cases h2 : v4 < v6
    · have h3 : ¬ (0 : Int64) < v4 - v6 := by rw [own_lt64] at h2 ⊢; omega
      have h4 : (0 : Int64) < v6 - v4 := by rw [own_lt64] at h2 ⊢; omega
      have h5 : ¬ v4 = v6 := by rw [own_lt64] at h2; rw [own_eq64]; omega
      rw [if_neg h1, if_pos h2, if_neg h3, if_pos h4]
      simp +decide only [own_f0_124, own_f0_145, own_f0_162, own_f0_200, h5, if_true, if_false]
    · have h3 : ¬ (0 : Int64) < v4 - v6 := by rw [own_lt64] at h1 h2 ⊢; omega
      have h4 : ¬ (0 : Int64) < v6 - v4 := by rw [own_lt64] at h1 h2 ⊢; omega
      have h5 : v4 = v6 := by rw [own_lt64] at h1 h2; rw [own_eq64]; omega
      rw [if_neg h1, if_neg h2, if_neg h3, if_neg h4]
      simp +decide only [own_f0_124, own_f0_145, own_f0_162, own_f0_200, h5, if_true, if_false]
theorem own_law (q1 q2 : Int64) (q3 : Int32) : own_f0 q1 q2 q3 = 1 := by
  unfold own_f0
  rw [own_k50 _ _ _ _ _ _ (own_nn _) (own_nn _), own_k50 _ _ _ _ _ _ (own_nn _) (own_nn _), own_k50 _ _ _ _ _ _ (own_nn _) (own_nx _)]
  simp only [ite_self]
set_option maxRecDepth 65536 in
set_option maxHeartbeats 40000000 in
theorem comes_1 {Post : Tables → Env → Array Value → State → Outcome → State → Prop} (hpost : ∀ tb e args s v u, (limb_1_1.after args s (.returned v) u = true ∧ limb_1_2.after args s (.returned v) u = true ∧ True) → FrameEnd s (.returned v) u (Jvm.fieldLocs frame_1_writes args s ++ Jvm.arrayLocs frame_1_arrays args s ++ Jvm.staticLocs frame_1_statics s) 16 128 → Post tb e args s (.returned v) u) :
    ArmFor flags0 classFile x code maxLocals ret World_1 tables_1 room_1 Calls_1 rest_1 Pre_1 Post := by
  intro l hfl _ _ p e ha hc hk s m args below hf hA hF happ hP
  obtain ⟨hcalls, hrest, hpre⟩ := hP
  obtain ⟨-, -, -, hnamed, -, -, -, hat⟩ := (Spec.applies_iff hf).mp happ
  obtain ⟨hg, hn⟩ := and_e (Cond.before_iff.mp (show (Jvm.Cond.and given_1 narrow_1).before args s = true from hpre))
  obtain ⟨gc, g0⟩ := and_e hg
  obtain ⟨gv0, g1⟩ := and_e g0
  obtain ⟨gv1, g2⟩ := and_e g1
  have gv2 := g2
  obtain ⟨w0, w1, w2, rfl⟩ : ∃ w0 w1 w2 : Value, args = #[w0, w1, w2] := by
    have hs : args.size = 3 := by simpa [Cond.value, given_1] using gc
    obtain ⟨L⟩ := args
    match L, hs with
    | [w0, w1, w2], _ => exact ⟨w0, w1, w2, rfl⟩
  have hw := fun d (hd : d ∈ tables_1) => atoms_spec (ws := Jvm.Cond.code x code maxLocals ret :: tables_1) hat d (List.mem_cons_of_mem _ hd)
  obtain ⟨i0, ei0⟩ := isL_v gv0
  obtain rfl : w0 = (.long i0) := Option.some.inj ei0
  obtain ⟨i1, ei1⟩ := isL_v gv1
  obtain rfl : w1 = (.long i1) := Option.some.inj ei1
  obtain ⟨i2, ei2⟩ := is_v gv2
  obtain rfl : w2 = (.int i2) := Option.some.inj ei2
  obtain ⟨n, o, h1, h2, h3, _, L, rfl, ⟨rfl, N⟩, hq⟩ := rm0 l s _ hw tables_1 i0 i1 i2 s.heap s.heap.size (Nat.le_refl _) own_law p e ha hc hk s m _ below hf ((Spec.applies_iff_loose hf).mp happ).1 ⟨rfl, State.Warmed39.refl s, rfl⟩ trivial
  refine ⟨n, _, h1, h2, h3, hpost _ _ _ _ _ _ ⟨Cond.after_iff.mpr rfl, Cond.after_iff.mpr (eq_i res_at (Term.int_eval (1)) rfl), trivial⟩ ⟨hq.1, hq.2.1, (hq.2.2.sift fun y hy => Or.inr (N y hy)).mono (by decide) (by decide)⟩⟩
theorem main_1_1 : Claimed_1_1 := comes_1 fun _ _ _ _ _ _ h hF => ⟨h.1, hF⟩
theorem main_1_2 : Claimed_1_2 := comes_1 fun _ _ _ _ _ _ h hF => ⟨h.2.1, hF⟩
end Jvm.Pilot.@@N@@
namespace Jvm.Pilot.@@N@@
open Jvm Jvm.ClassFile Sem Op Lib Jvm.Free Jvm.Stand Jvm.Pilot.@@N@@.Jvm.D
/-! MADE BY PROGRAM (witnessworld.py) out of the Statement's table words and the real class files: 10 classes; the members and pool entries that the words name. The judged class is class 1, her method 1. -/
namespace start1
open Jvm.ClassFile
def u (s : String) : CpInfo := .utf8 (stringToUtf16 s)
/-- a pool by its gaps: so many unusable entries, then the entry; so many at the end -/
def gap : Nat → List CpInfo → List CpInfo
  | 0, r => r
  | n + 1, r => .unusable :: gap n r
def poolList (es : List (Nat × CpInfo)) (last : Nat) : List CpInfo := es.foldr (fun e r => gap e.1 (e.2 :: r)) (gap last [])
def pool (es : List (Nat × CpInfo)) (last : Nat) : Array CpInfo := ⟨poolList es last⟩
def fileOf (pool : Array CpInfo) (this : Nat) (attrs : Array Attribute := #[]) (ms : Array MethodInfo := #[]) (fl : Nat := 33) (sup : Nat := 0) (ifs : Array Nat := #[]) (fds : Array FieldInfo := #[]) : ClassFile where
  minorVersion := 0
  majorVersion := 65
  constantPool := pool
  accessFlags := fl
  thisClass := this
  superClass := sup
  interfaces := ifs
  fields := fds
  methods := ms
  attributes := attrs
def plain (name : String) (sup : Option ClassId) : Class where
  name := name
  kind := .ordinary
  loader := none
  accessFlags := 33
  super := sup
  interfaces := #[]
  cf := none
  fields := #[]
  methods := #[]
  instanceTypes := #[]
  staticTypes := #[]
  resolved := #[]
  callSites := []
  init := .initialized
  statics := none
  mirror := none

def pool0 : Array CpInfo := pool [(5, u "<init>"), (0, u "()V"), (1, .class_ 10), (1, u "java/lang/Object")] 113

def k0c0 : Code := { maxStack := 0, maxLocals := 1, code := object_method_1_code, exceptionTable := #[], attributes := #[] }
def k0m0 : Method := { name := "<init>", desc := "()V", sig := { parameters := [], returnType := none }, accessFlags := 1, code := some k0c0 }
/-- java/lang/Object -/
def k0 : Class := { plain "java/lang/Object" none with
  accessFlags := 33
  interfaces := #[]
  cf := some (fileOf pool0 8 #[] #[{ accessFlags := 1, nameIndex := 5, descriptorIndex := 6, attributes := #[] }] 33 0 #[] #[])
  fields := #[]
  methods := #[k0m0]
  instanceTypes := #[]
  staticTypes := #[]
  resolved := Array.replicate 124 none
  statics := none }

def pool1 : Array CpInfo := pool [(2, .class_ 4), (1, u "java/lang/Object"), (0, u "<init>"), (0, u "()V"), (2, .long 9223372036854775807), (1, .integer 2147483647), (0, .class_ 13), (0, u "com/example/keystrand/keystrand/model/Amount"), (0, .methodref 12 15), (0, .nameAndType 5 16), (0, u "(J)V"), (0, .methodref 12 18), (0, .nameAndType 19 20), (0, u "exceeds"), (0, u "(Lcom/example/keystrand/keystrand/model/Amount;)Z"), (0, .class_ 22), (0, u "com/example/keystrand/keystrand/model/AmountExceedsPinLaw"), (2, u "law"), (0, u "(JJI)Z")] 3

def k1m0 : Method := { name := "<init>", desc := "()V", sig := { parameters := [], returnType := none }, accessFlags := 1, code := none }
def k1c1 : Code := { maxStack := 5, maxLocals := 19, code := code, exceptionTable := #[], attributes := #[] }
def k1m1 : Method := { name := "law", desc := "(JJI)Z", sig := { parameters := [.long, .long, .int], returnType := some .boolean }, accessFlags := 9, code := some k1c1 }
/-- com/example/keystrand/keystrand/model/AmountExceedsPinLaw -/
def k1 : Class := { plain "com/example/keystrand/keystrand/model/AmountExceedsPinLaw" (some 0) with
  accessFlags := 49
  interfaces := #[]
  cf := some (fileOf pool1 21 #[] #[{ accessFlags := 1, nameIndex := 5, descriptorIndex := 6, attributes := #[] }, { accessFlags := 9, nameIndex := 25, descriptorIndex := 26, attributes := #[] }] 49 2 #[] #[])
  fields := #[]
  methods := #[k1m0, k1m1]
  instanceTypes := #[]
  staticTypes := #[]
  resolved := Array.replicate 30 none
  statics := none }

def pool2 : Array CpInfo := pool [(1, .methodref 2 3), (0, .class_ 4), (0, .nameAndType 5 6), (0, u "java/lang/Object"), (0, u "<init>"), (0, u "()V"), (0, .class_ 8), (0, u "java/lang/Record")] 13

def k2c0 : Code := { maxStack := 1, maxLocals := 1, code := jdk_30_method_1_code, exceptionTable := #[], attributes := #[] }
def k2m0 : Method := { name := "<init>", desc := "()V", sig := { parameters := [], returnType := none }, accessFlags := 4, code := some k2c0 }
/-- java/lang/Record -/
def k2 : Class := { plain "java/lang/Record" (some 0) with
  accessFlags := 1057
  interfaces := #[]
  cf := some (fileOf pool2 7 #[] #[{ accessFlags := 4, nameIndex := 5, descriptorIndex := 6, attributes := #[] }] 1057 2 #[] #[])
  fields := #[]
  methods := #[k2m0]
  instanceTypes := #[]
  staticTypes := #[]
  resolved := Array.replicate 22 none
  statics := none }

def pool3 : Array CpInfo := pool [(1, .methodref 2 3), (0, .class_ 4), (0, .nameAndType 5 6), (0, u "java/lang/Record"), (0, u "<init>"), (0, u "()V"), (9, .fieldref 17 18), (0, .class_ 19), (0, .nameAndType 20 21), (0, u "com/example/keystrand/keystrand/model/Amount"), (0, u "minorUnits"), (0, u "J"), (2, u "TEXT"), (0, u "Ljava/util/regex/Pattern;"), (38, u "(J)V"), (45, u "ENCODED_LENGTH"), (0, u "I"), (15, u "exceeds"), (0, u "(Lcom/example/keystrand/keystrand/model/Amount;)Z")] 36

def k3c0 : Code := { maxStack := 4, maxLocals := 3, code := prog_21_method_1_code, exceptionTable := #[], attributes := #[] }
def k3m0 : Method := { name := "<init>", desc := "(J)V", sig := { parameters := [.long], returnType := none }, accessFlags := 1, code := some k3c0 }
def k3c1 : Code := { maxStack := 4, maxLocals := 2, code := prog_21_method_5_code, exceptionTable := #[], attributes := #[] }
def k3m1 : Method := { name := "exceeds", desc := "(Lcom/example/keystrand/keystrand/model/Amount;)Z", sig := { parameters := [(.object "com/example/keystrand/keystrand/model/Amount")], returnType := some .boolean }, accessFlags := 1, code := some k3c1 }
/-- com/example/keystrand/keystrand/model/Amount -/
def k3 : Class := { plain "com/example/keystrand/keystrand/model/Amount" (some 2) with
  accessFlags := 49
  interfaces := #[]
  cf := some (fileOf pool3 17 #[] #[{ accessFlags := 1, nameIndex := 5, descriptorIndex := 64, attributes := #[] }, { accessFlags := 1, nameIndex := 127, descriptorIndex := 128, attributes := #[] }] 49 2 #[] #[{ accessFlags := 18, nameIndex := 20, descriptorIndex := 21, attributes := #[] }, { accessFlags := 25, nameIndex := 110, descriptorIndex := 111, attributes := #[] }, { accessFlags := 26, nameIndex := 24, descriptorIndex := 25, attributes := #[] }])
  fields := #[{ name := "minorUnits", type := .long, accessFlags := 18, slot := 0, constantValue := 0 }, { name := "ENCODED_LENGTH", type := .int, accessFlags := 25, slot := 0, constantValue := 0 }, { name := "TEXT", type := (.object "java/util/regex/Pattern"), accessFlags := 26, slot := 1, constantValue := 0 }]
  methods := #[k3m0, k3m1]
  instanceTypes := #[.long]
  staticTypes := #[.int, (.object "java/util/regex/Pattern")]
  resolved := Array.replicate 165 none
  statics := none }

def pool4 : Array CpInfo := pool [(1, u "java/lang/Cloneable"), (0, .class_ 1), (0, u "java/lang/Object"), (0, .class_ 3)] 3

/-- java/lang/Cloneable -/
def k4 : Class := { plain "java/lang/Cloneable" (some 0) with
  accessFlags := 1537
  interfaces := #[]
  cf := some (fileOf pool4 2 #[] #[] 1537 4 #[] #[])
  fields := #[]
  methods := #[]
  instanceTypes := #[]
  staticTypes := #[]
  resolved := Array.replicate 8 none
  statics := none }

def pool5 : Array CpInfo := pool [(1, u "java/io/Serializable"), (0, .class_ 1), (0, u "java/lang/Object"), (0, .class_ 3)] 3

/-- java/io/Serializable -/
def k5 : Class := { plain "java/io/Serializable" (some 0) with
  accessFlags := 1537
  interfaces := #[]
  cf := some (fileOf pool5 2 #[] #[] 1537 4 #[] #[])
  fields := #[]
  methods := #[]
  instanceTypes := #[]
  staticTypes := #[]
  resolved := Array.replicate 8 none
  statics := none }

/-- the primitive byte -/
def k6 : Class := { plain "byte" none with kind := .primitive 'B', accessFlags := 0x411 }
/-- [B -/
def k7 : Class := { plain "[B" (some 0) with kind := .array 6 .byte, interfaces := #[4, 5], accessFlags := 1041 }

/-- the primitive int -/
def k8 : Class := { plain "int" none with kind := .primitive 'I', accessFlags := 0x411 }
/-- [I -/
def k9 : Class := { plain "[I" (some 0) with kind := .array 8 .int, interfaces := #[4, 5], accessFlags := 1041 }

def heap : Heap := #[]
def classes : Array Class := #[k0, k1, k2, k3, k4, k5, k6, k7, k8, k9]
def interned : List (Array UInt16 × Addr) := []
def slotsUsed : Nat := 0
def theMethod : MethodId := ⟨1, 1⟩
def args0 : Array Value := #[.long 500, .long 5, .int 3]
def aboutOver (below : List Frame) : State where
  vm := { classes := classes, interned := interned.toArray }
  heap := heap
  slotsUsed := slotsUsed
  threads := #[{ frames := .invoking theMethod args0 :: below }]
def below0 : List Frame := [.native { method := ⟨0, 0⟩, args := #[] }]
def about1 : State := aboutOver below0
def p0 : Program := .bare "" "" ""
def e0 : Env := launch0.env 0 0 0
theorem w_frames : about1.frames = Frame.invoking theMethod args0 :: below0 := rfl
set_option maxRecDepth 65536 in
theorem w_args : argsFit about1.vm theMethod args0 = true := by decide +kernel
set_option maxRecDepth 65536 in
theorem w_heap : heapFits about1 = true := by decide +kernel
set_option maxRecDepth 65536 in
theorem w_runnable : about1.curStatus? = some .runnable := by decide +kernel
set_option maxRecDepth 65536 in
theorem w_alone : about1.alone = true := by decide +kernel
set_option maxRecDepth 65536 in
theorem w_named : about1.methodNamed? x = some theMethod := by decide +kernel
set_option maxRecDepth 65536 in
theorem w_hears : about1.hears theMethod below0 = true := by decide +kernel
set_option maxRecDepth 65536 in
theorem w_ripe : about1.ripe theMethod args0 below0 = true := by decide +kernel
theorem w_running : about1.status = .running := rfl
set_option maxRecDepth 65536 in
theorem w_room : about1.hasRoom e0.platform room_1 = true :=
  launch0.hasRoom_least _ room_1 (by decide +kernel) (by decide +kernel) (by decide +kernel) (by decide +kernel) (by decide +kernel) (by decide +kernel)
theorem allAtoms_all (ts : List Jvm.Cond) (a : Array Jvm.Value) (st : Jvm.State) : (allAtoms ts).before a st = ts.all (fun c => c.before a st) := by
  induction ts with
  | nil => rfl
  | cons c t ih =>
    show (Jvm.Cond.and c (allAtoms t)).before a st = _
    rw [Jvm.Cond.before_and, ih, List.all_cons]
def words1 : List Jvm.Cond := Jvm.Cond.code x code maxLocals ret :: tables_1
/-- a 'code' word, met by the world's own term for the bytes: nothing is compared byte by byte -/
theorem code_word {y : MethodName} {bytes : ByteArray} {mx : Nat} {rt : Option FieldType} {a : Array Value} {s : State} {m : MethodId} {meth : Method} {c : Code} (h1 : s.methodNamed? y = some m) (h2 : s.vm.method? m = some meth) (h3 : meth.code = some c) (h4 : c.code = bytes)
    (h5 : (c.maxLocals == mx && c.exceptionTable.isEmpty && decide (c.maxStack ≤ mostOperands) && decide (meth.sig.returnType = rt) && !meth.locks && decide (parseMethodDescriptor y.desc = some meth.sig)) = true) : (Jvm.Cond.code y bytes mx rt).before a s = true := by
  simp only [Bool.and_eq_true, beq_iff_eq, Bool.not_eq_true', decide_eq_true_eq] at h5
  obtain ⟨⟨⟨⟨⟨g1, g2⟩, g3⟩, g4⟩, g5⟩, g6⟩ := h5
  simp [Cond.before, Cond.holds, Cond.value, h1, h2, h3, h4, g1, g2, g3, g4, g5, g6]
def isCode : Jvm.Cond → Bool
  | .code _ _ _ _ => true
  | _ => false
theorem all_split {L : List Jvm.Cond} {P : Jvm.Cond → Bool} (h1 : L.all (fun c => isCode c || P c) = true) (h2 : ∀ c ∈ L.filter isCode, P c = true) : L.all P = true := by
  refine List.all_eq_true.mpr fun c hc => ?_
  have h := List.all_eq_true.mp h1 c hc
  rcases Bool.eq_false_or_eq_true (isCode c) with hi | hi
  · exact h2 c (List.mem_filter.mpr ⟨hc, hi⟩)
  · simpa [hi] using h
set_option maxRecDepth 65536 in
theorem w_c0 : (Jvm.Cond.code x code maxLocals ret).before args0 about1 = true := code_word (m := ⟨1, 1⟩) (meth := k1m1) (c := k1c1) (by decide +kernel) rfl rfl rfl (by decide +kernel)
set_option maxRecDepth 65536 in
theorem w_c1 : (Jvm.Cond.code ({ cls := "com/example/keystrand/keystrand/model/Amount", name := "<init>", desc := "(J)V" } : Jvm.MethodName) prog_21_method_1_code (3 : Nat) (Option.none : Option Jvm.ClassFile.FieldType)).before args0 about1 = true := code_word (m := ⟨3, 0⟩) (meth := k3m0) (c := k3c0) (by decide +kernel) rfl rfl rfl (by decide +kernel)
set_option maxRecDepth 65536 in
theorem w_c2 : (Jvm.Cond.code ({ cls := "java/lang/Record", name := "<init>", desc := "()V" } : Jvm.MethodName) jdk_30_method_1_code (1 : Nat) (Option.none : Option Jvm.ClassFile.FieldType)).before args0 about1 = true := code_word (m := ⟨2, 0⟩) (meth := k2m0) (c := k2c0) (by decide +kernel) rfl rfl rfl (by decide +kernel)
set_option maxRecDepth 65536 in
theorem w_c3 : (Jvm.Cond.code ({ cls := "java/lang/Object", name := "<init>", desc := "()V" } : Jvm.MethodName) object_method_1_code (1 : Nat) (Option.none : Option Jvm.ClassFile.FieldType)).before args0 about1 = true := code_word (m := ⟨0, 0⟩) (meth := k0m0) (c := k0c0) (by decide +kernel) rfl rfl rfl (by decide +kernel)
set_option maxRecDepth 65536 in
theorem w_c4 : (Jvm.Cond.code ({ cls := "com/example/keystrand/keystrand/model/Amount", name := "exceeds", desc := "(Lcom/example/keystrand/keystrand/model/Amount;)Z" } : Jvm.MethodName) prog_21_method_5_code (2 : Nat) (Option.some Jvm.ClassFile.FieldType.boolean)).before args0 about1 = true := code_word (m := ⟨3, 1⟩) (meth := k3m1) (c := k3c1) (by decide +kernel) rfl rfl rfl (by decide +kernel)
def codes1 : List Jvm.Cond := [Jvm.Cond.code x code maxLocals ret, Jvm.Cond.code ({ cls := "com/example/keystrand/keystrand/model/Amount", name := "<init>", desc := "(J)V" } : Jvm.MethodName) prog_21_method_1_code (3 : Nat) (Option.none : Option Jvm.ClassFile.FieldType), Jvm.Cond.code ({ cls := "java/lang/Record", name := "<init>", desc := "()V" } : Jvm.MethodName) jdk_30_method_1_code (1 : Nat) (Option.none : Option Jvm.ClassFile.FieldType), Jvm.Cond.code ({ cls := "java/lang/Object", name := "<init>", desc := "()V" } : Jvm.MethodName) object_method_1_code (1 : Nat) (Option.none : Option Jvm.ClassFile.FieldType), Jvm.Cond.code ({ cls := "com/example/keystrand/keystrand/model/Amount", name := "exceeds", desc := "(Lcom/example/keystrand/keystrand/model/Amount;)Z" } : Jvm.MethodName) prog_21_method_5_code (2 : Nat) (Option.some Jvm.ClassFile.FieldType.boolean)]
set_option maxRecDepth 65536 in
theorem codes_eq : words1.filter isCode = codes1 := rfl
theorem w_codes : ∀ c ∈ words1.filter isCode, c.before args0 about1 = true := by
  rw [codes_eq]
  intro c hc
  simp only [codes1, List.mem_cons, List.not_mem_nil, or_false] at hc
  rcases hc with rfl | rfl | rfl | rfl | rfl
  · exact w_c0
  · exact w_c1
  · exact w_c2
  · exact w_c3
  · exact w_c4
set_option maxRecDepth 65536 in
theorem w_t1 : words1.all (fun c => isCode c || c.before args0 about1) = true := by decide +kernel
theorem w_tables : (allAtoms (Jvm.Cond.code x code maxLocals ret :: tables_1)).before args0 about1 = true := by
  rw [allAtoms_all]
  show words1.all (fun c => c.before args0 about1) = true
  refine all_split ?_ w_codes
  rw [w_t1]
set_option maxRecDepth 65536 in
theorem w_case : (Jvm.Cond.and given_1 narrow_1).before args0 about1 = true := by decide +kernel
theorem w_applies : (headSpec (Jvm.Cond.code x code maxLocals ret :: tables_1) room_1).applies x e0.platform about1 = true :=
  (Spec.applies_iff w_frames).mpr ⟨w_running, w_runnable, w_alone, w_named, w_hears, w_ripe, w_room, w_tables⟩
theorem atStart : AtStart classFile x code maxLocals ret World_1 tables_1 room_1 Calls_1 rest_1 Pre_1 launch0 p0 e0 about1 theMethod args0 below0 :=
  ⟨lists_1, trivial, launch0.admits_env _ _ _, launch0.least_env, fairChoices_fair.cas, fairChoices_fair.clock, w_frames, w_args, w_heap, w_applies, trivial, trivial, w_case⟩
end start1
theorem witness_1 : WitnessClaimed_1 := ⟨start1.p0, start1.e0, start1.about1, start1.theMethod, start1.args0, start1.below0, start1.atStart⟩
end Jvm.Pilot.@@N@@
