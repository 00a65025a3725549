import JvmDerived
import JvmDerived.Pilot.@@N@@Statement
import JvmDerived.Pilot.@@N@@Code
set_option linter.unusedVariables false
set_option linter.unusedSimpArgs false
@@BLOCK:NumsL.lean.txt@@
namespace Jvm.RoadKit
open Sem ClassFile Op Lib Jvm.Stand Jvm.Free Jvm.LawKit
section New
variable {p : Program} {l : Launch} {e : Env} {R : Room} {s : State} {m : MethodId} {args : Array Value} {below : List Frame} {meth : Method} {c : Code} {T : State} {locs : List Loc} {cells slots : Nat}
theorem retI (X : Stand p l e R s m args below meth c T locs cells slots) (hx : p.tables.exec = Jvm.exec) {pc : Nat} {Ls : Array Slot} {z : Int32} {rest : List Value} (hret : meth.sig.returnType = some .int) (hd : decode c.code pc = .ok (.ireturn, 1)) {fs : List Frame}
    (hl : ∀ (f : JFrame) (acts : List Action), f.method = m → f.locked = none → f.entered = [] → (doReturn e (T.setTop f) acts (some (.int z))).1 = T.setFrames fs) : Steps p.tables e below (T.setTop (mkF m pc Ls (.int z :: rest))) (T.setFrames fs) := by
  have hm' : T.vm.method? m = some meth := X.method'
  have hn : narrow .int (.int z) = .int z := rfl
  show Steps p.tables e below (T.setTop { method := m, pc := pc, locals := Ls, stack := _ :: rest, locked := none }) _
  jvm_step X.here [X.here.top, hx, hd, hm', hret, hn]
  first | (intro acts; rw [hl _ acts rfl rfl rfl]) | rw [hl _ _ rfl rfl rfl]
  exact Steps.refl _
end New
end Jvm.RoadKit
namespace Jvm.Pilot.@@N@@
open Jvm Jvm.ClassFile Sem Op Lib Jvm.Free Jvm.Stand Jvm.LawKit Jvm.RoadKit Bundle Jvm.Pilot.@@N@@.Jvm.D
/-- the run from this frame comes to an end that R takes -/
def own_Fin (tb : Tables) (e : Env) (below : List Frame) (R : State → Prop) (T : State) (g : JFrame) : Prop := ∃ t, Steps tb e below (T.setTop g) t ∧ R t
theorem own_st {tb : Tables} {e : Env} {below : List Frame} {R : State → Prop} {T T' : State} {g g' : JFrame} (h : own_Fin tb e below R T' g') (k : ∀ t, Steps tb e below (T'.setTop g') t → Steps tb e below (T.setTop g) t) : own_Fin tb e below R T g := by
  obtain ⟨t, a, b⟩ := h
  exact ⟨t, k t a, b⟩
def own_End (below : List Frame) (s : State) (Q : Option Value → Heap → List Loc → Prop) (cells slots : Nat) (t : State) : Prop := t.status = .running ∧ ∃ o, Ended t below o ∧ ∃ v L, o = .returned v ∧ Q v t.heap L ∧ FrameEnd s o t L cells slots
/-- a body that writes nothing -/
def own_P (h0 : Heap) (n0 : Nat) (w : Option Value) (v : Option Value) (h : Heap) (L : List Loc) : Prop := v = w ∧ Fr n0 L ∧ h = h0
theorem own_cast {tb : Tables} {e : Env} {below : List Frame} {R R' : State → Prop} {T : State} {g : JFrame} (q : R' = R) (h : own_Fin tb e below R' T g) : own_Fin tb e below R T g := q ▸ h
/-- the law: what it returns, and nothing old is written -/
def own_L (n0 : Nat) (w : Value) (v : Option Value) (h : Heap) (L : List Loc) : Prop := v = some w ∧ Fr n0 L
theorem own_lcW (a b : Int64) : lcmpW a b = if a > b then 1 else if a = b then 0 else -1 := rfl
theorem own_lc_lt {a b : Int64} : lcmpW a b < 0 ↔ a < b := by
  rw [own_lcW]
  by_cases h1 : a > b
  · rw [if_pos h1]
    exact ⟨fun h => absurd h (by decide), fun h => absurd (Int64.lt_trans h h1) Int64.lt_irrefl⟩
  · rw [if_neg h1]
    by_cases h2 : a = b
    · rw [if_pos h2]
      exact ⟨fun h => absurd h (by decide), fun h => absurd (h2 ▸ h) Int64.lt_irrefl⟩
    · rw [if_neg h2]
      refine ⟨fun _ => ?_, fun _ => by decide⟩
      rw [Int64.lt_iff_toInt_lt] at *
      have h3 : a.toInt ≠ b.toInt := fun q => h2 (Int64.toInt_inj.mp q)
      have h4 : ¬ b.toInt < a.toInt := fun q => h1 (Int64.lt_iff_toInt_lt.mpr q)
      omega
theorem own_lc_gt {a b : Int64} : 0 < lcmpW a b ↔ b < a := by
  rw [own_lcW]
  by_cases h1 : a > b
  · rw [if_pos h1]; exact ⟨fun _ => h1, fun _ => by decide⟩
  · rw [if_neg h1]
    by_cases h2 : a = b
    · rw [if_pos h2]; exact ⟨fun h => absurd h (by decide), fun h => absurd h h1⟩
    · rw [if_neg h2]; exact ⟨fun h => absurd h (by decide), fun h => absurd h h1⟩
theorem own_lc_eq {a b : Int64} : lcmpW a b = 0 ↔ a = b := by
  rw [own_lcW]
  by_cases h1 : a > b
  · rw [if_pos h1]; exact ⟨fun h => absurd h (by decide), fun h => absurd (h ▸ h1 : a > a) Int64.lt_irrefl⟩
  · rw [if_neg h1]
    by_cases h2 : a = b
    · rw [if_pos h2]; exact ⟨fun _ => h2, fun _ => rfl⟩
    · rw [if_neg h2]; exact ⟨fun h => absurd h (by decide), fun h => absurd h h2⟩
def own_EndW (below : List Frame) (s : State) (Q : Option Value → Heap → List Loc → Prop) (cells slots : Nat) (t : State) : Prop := t.status = .running ∧ ∃ o, Ended t below o ∧ ∃ v L, o = .returned v ∧ Q v t.heap L ∧ ReturnedEndW s o t L cells slots
theorem own_fr {tb : Tables} {e : Env} {below : List Frame} {R : State → Prop} {T : State} {g g' : JFrame} (q : g' = g) (h : own_Fin tb e below R T g') : own_Fin tb e below R T g := q ▸ h
theorem own_irr32 (x : Int32) : ¬ x < x := Int32.lt_irrefl
theorem own_irr64 (x : Int64) : ¬ x < x := Int64.lt_irrefl
def own_ush32 (x y : Int32) : Int32 := (x.toUInt32 >>> (y &&& 31).toUInt32).toInt32
def own_ush64 (x : Int64) (y : Int32) : Int64 := (x.toUInt64 >>> (y &&& 0x3f).toInt64.toUInt64).toInt64
section OwnStep
variable {p : Program} {l : Launch} {e : Env} {R : Room} {s : State} {m : MethodId} {args : Array Value} {below : List Frame} {meth : Method} {c : Code} {T : State} {locs : List Loc} {kc ks : Nat} {Rr : State → Prop} {Ls Ls' : Array Slot} {st : List Value} {pc pc' : Nat} {Z : State} {a0 : Array Value} {h : Heap}
theorem own_iload (X : Stand p l e R s m args below meth c T locs kc ks) (hx : p.tables.exec = Jvm.exec) {j : Nat} {v : Int32} (hd : decode c.code pc = .ok (.iload j, 2)) (hp : pc + 2 = pc') (hl : Ls[j]? = some (.val (.int v))) (h : own_Fin p.tables e below Rr T (mkF m pc' Ls (.int v :: st))) : own_Fin p.tables e below Rr T (mkF m pc Ls st) := by
  subst hp; exact own_st h (fun t k => XS.iload X.here hx rfl hd hl k)
theorem own_iloadN (X : Stand p l e R s m args below meth c T locs kc ks) (hx : p.tables.exec = Jvm.exec) {j : Fin 4} {v : Int32} (hd : decode c.code pc = .ok (.iload_n j, 1)) (hp : pc + 1 = pc') (hl : Ls[j.val]? = some (.val (.int v))) (h : own_Fin p.tables e below Rr T (mkF m pc' Ls (.int v :: st))) : own_Fin p.tables e below Rr T (mkF m pc Ls st) := by
  subst hp; exact own_st h (fun t k => XS.iloadN X.here hx rfl hd hl k)
theorem own_istore (X : Stand p l e R s m args below meth c T locs kc ks) (hx : p.tables.exec = Jvm.exec) {j : Nat} {v : Int32} (hd : decode c.code pc = .ok (.istore j, 2)) (hp : pc + 2 = pc') (hl : storeLocals Ls j (.int v) = some Ls') (h : own_Fin p.tables e below Rr T (mkF m pc' Ls' st)) : own_Fin p.tables e below Rr T (mkF m pc Ls (.int v :: st)) := by
  subst hp; exact own_st h (fun t k => XS.istore X.here hx rfl hd rfl hl k)
theorem own_istoreN (X : Stand p l e R s m args below meth c T locs kc ks) (hx : p.tables.exec = Jvm.exec) {j : Fin 4} {v : Int32} (hd : decode c.code pc = .ok (.istore_n j, 1)) (hp : pc + 1 = pc') (hl : storeLocals Ls j.val (.int v) = some Ls') (h : own_Fin p.tables e below Rr T (mkF m pc' Ls' st)) : own_Fin p.tables e below Rr T (mkF m pc Ls (.int v :: st)) := by
  subst hp; exact own_st h (fun t k => XS.istoreN X.here hx rfl hd rfl hl k)
theorem own_lload (X : Stand p l e R s m args below meth c T locs kc ks) (hx : p.tables.exec = Jvm.exec) {j : Nat} {v : Int64} (hd : decode c.code pc = .ok (.lload j, 2)) (hp : pc + 2 = pc') (hl : Ls[j]? = some (.val (.long v))) (h : own_Fin p.tables e below Rr T (mkF m pc' Ls (.long v :: st))) : own_Fin p.tables e below Rr T (mkF m pc Ls st) := by
  subst hp; exact own_st h (fun t k => XS.lload X.here hx rfl hd hl k)
theorem own_lloadN (X : Stand p l e R s m args below meth c T locs kc ks) (hx : p.tables.exec = Jvm.exec) {j : Fin 4} {v : Int64} (hd : decode c.code pc = .ok (.lload_n j, 1)) (hp : pc + 1 = pc') (hl : Ls[j.val]? = some (.val (.long v))) (h : own_Fin p.tables e below Rr T (mkF m pc' Ls (.long v :: st))) : own_Fin p.tables e below Rr T (mkF m pc Ls st) := by
  subst hp; exact own_st h (fun t k => XS.lloadN X.here hx rfl hd hl k)
theorem own_lstore (X : Stand p l e R s m args below meth c T locs kc ks) (hx : p.tables.exec = Jvm.exec) {j : Nat} {v : Int64} (hd : decode c.code pc = .ok (.lstore j, 2)) (hp : pc + 2 = pc') (hl : storeLocals Ls j (.long v) = some Ls') (h : own_Fin p.tables e below Rr T (mkF m pc' Ls' st)) : own_Fin p.tables e below Rr T (mkF m pc Ls (.long v :: st)) := by
  subst hp; exact own_st h (fun t k => XS.lstore X.here hx rfl hd rfl hl k)
theorem own_lstoreN (X : Stand p l e R s m args below meth c T locs kc ks) (hx : p.tables.exec = Jvm.exec) {j : Fin 4} {v : Int64} (hd : decode c.code pc = .ok (.lstore_n j, 1)) (hp : pc + 1 = pc') (hl : storeLocals Ls j.val (.long v) = some Ls') (h : own_Fin p.tables e below Rr T (mkF m pc' Ls' st)) : own_Fin p.tables e below Rr T (mkF m pc Ls (.long v :: st)) := by
  subst hp; exact own_st h (fun t k => XS.lstoreN X.here hx rfl hd rfl hl k)
theorem own_aload (X : Stand p l e R s m args below meth c T locs kc ks) (hx : p.tables.exec = Jvm.exec) {j : Nat} {v : Value} (hd : decode c.code pc = .ok (.aload j, 2)) (hp : pc + 2 = pc') (hl : Ls[j]? = some (.val v)) (hv : v.isRef = true) (h : own_Fin p.tables e below Rr T (mkF m pc' Ls (v :: st))) : own_Fin p.tables e below Rr T (mkF m pc Ls st) := by
  subst hp; exact own_st h (fun t k => XS.aload X.here hx rfl hd hl hv k)
theorem own_aloadN (X : Stand p l e R s m args below meth c T locs kc ks) (hx : p.tables.exec = Jvm.exec) {j : Fin 4} {v : Value} (hd : decode c.code pc = .ok (.aload_n j, 1)) (hp : pc + 1 = pc') (hl : Ls[j.val]? = some (.val v)) (hv : v.isRef = true) (h : own_Fin p.tables e below Rr T (mkF m pc' Ls (v :: st))) : own_Fin p.tables e below Rr T (mkF m pc Ls st) := by
  subst hp; exact own_st h (fun t k => XS.aloadN X.here hx rfl hd hl hv k)
theorem own_astore (X : Stand p l e R s m args below meth c T locs kc ks) (hx : p.tables.exec = Jvm.exec) {j : Nat} {v : Value} (hd : decode c.code pc = .ok (.astore j, 2)) (hp : pc + 2 = pc') (hv : v.isRef = true) (hl : storeLocals Ls j v = some Ls') (h : own_Fin p.tables e below Rr T (mkF m pc' Ls' st)) : own_Fin p.tables e below Rr T (mkF m pc Ls (v :: st)) := by
  subst hp; exact own_st h (fun t k => XS.astore X.here hx rfl hd rfl hv hl k)
theorem own_astoreN (X : Stand p l e R s m args below meth c T locs kc ks) (hx : p.tables.exec = Jvm.exec) {j : Fin 4} {v : Value} (hd : decode c.code pc = .ok (.astore_n j, 1)) (hp : pc + 1 = pc') (hv : v.isRef = true) (hl : storeLocals Ls j.val v = some Ls') (h : own_Fin p.tables e below Rr T (mkF m pc' Ls' st)) : own_Fin p.tables e below Rr T (mkF m pc Ls (v :: st)) := by
  subst hp; exact own_st h (fun t k => XS.astoreN X.here hx rfl hd rfl hv hl k)
theorem own_iconst (X : Stand p l e R s m args below meth c T locs kc ks) (hx : p.tables.exec = Jvm.exec) {i : Int} {v : Int32} (hd : decode c.code pc = .ok (.iconst i, 1)) (hp : pc + 1 = pc') (hv : Int32.ofInt i = v) (h : own_Fin p.tables e below Rr T (mkF m pc' Ls (.int v :: st))) : own_Fin p.tables e below Rr T (mkF m pc Ls st) := by
  subst hp; exact own_st h (fun t k => XS.iconst X.here hx rfl hd (hv ▸ k))
theorem own_bipush (X : Stand p l e R s m args below meth c T locs kc ks) (hx : p.tables.exec = Jvm.exec) {i : Int} {v : Int32} (hd : decode c.code pc = .ok (.bipush i, 2)) (hp : pc + 2 = pc') (hv : (Int8.ofInt i).toInt32 = v) (h : own_Fin p.tables e below Rr T (mkF m pc' Ls (.int v :: st))) : own_Fin p.tables e below Rr T (mkF m pc Ls st) := by
  subst hp; exact own_st h (fun t k => XS.bipush X.here hx rfl hd (hv ▸ k))
theorem own_sipush (X : Stand p l e R s m args below meth c T locs kc ks) (hx : p.tables.exec = Jvm.exec) {i : Int} {v : Int32} (hd : decode c.code pc = .ok (.sipush i, 3)) (hp : pc + 3 = pc') (hv : (Int16.ofInt i).toInt32 = v) (h : own_Fin p.tables e below Rr T (mkF m pc' Ls (.int v :: st))) : own_Fin p.tables e below Rr T (mkF m pc Ls st) := by
  subst hp; exact own_st h (fun t k => XS.sipush X.here hx rfl hd (hv ▸ k))
theorem own_lconst (X : Stand p l e R s m args below meth c T locs kc ks) (hx : p.tables.exec = Jvm.exec) {i : Fin 2} {v : Int64} (hd : decode c.code pc = .ok (.lconst i, 1)) (hp : pc + 1 = pc') (hv : Int64.ofNat i = v) (h : own_Fin p.tables e below Rr T (mkF m pc' Ls (.long v :: st))) : own_Fin p.tables e below Rr T (mkF m pc Ls st) := by
  subst hp; exact own_st h (fun t k => XS.lconst X.here hx rfl hd (hv ▸ k))
theorem own_aconstNull (X : Stand p l e R s m args below meth c T locs kc ks) (hx : p.tables.exec = Jvm.exec)  (hd : decode c.code pc = .ok (.aconst_null, 1)) (hp : pc + 1 = pc')  (h : own_Fin p.tables e below Rr T (mkF m pc' Ls (.null :: st))) : own_Fin p.tables e below Rr T (mkF m pc Ls st) := by
  subst hp; exact own_st h (fun t k => XS.aconstNull X.here hx rfl hd k)
theorem own_iadd (X : Stand p l e R s m args below meth c T locs kc ks) (hx : p.tables.exec = Jvm.exec) {x y : Int32} (hd : decode c.code pc = .ok (.iadd, 1)) (hp : pc + 1 = pc')  (h : own_Fin p.tables e below Rr T (mkF m pc' Ls (.int (x + y) :: st))) : own_Fin p.tables e below Rr T (mkF m pc Ls (.int y :: .int x :: st)) := by
  subst hp; exact own_st h (fun t k => XS.iadd X.here hx rfl hd rfl k)
theorem own_ladd (X : Stand p l e R s m args below meth c T locs kc ks) (hx : p.tables.exec = Jvm.exec) {x y : Int64} (hd : decode c.code pc = .ok (.ladd, 1)) (hp : pc + 1 = pc')  (h : own_Fin p.tables e below Rr T (mkF m pc' Ls (.long (x + y) :: st))) : own_Fin p.tables e below Rr T (mkF m pc Ls (.long y :: .long x :: st)) := by
  subst hp; exact own_st h (fun t k => XS.ladd X.here hx rfl hd rfl k)
theorem own_isub (X : Stand p l e R s m args below meth c T locs kc ks) (hx : p.tables.exec = Jvm.exec) {x y : Int32} (hd : decode c.code pc = .ok (.isub, 1)) (hp : pc + 1 = pc')  (h : own_Fin p.tables e below Rr T (mkF m pc' Ls (.int (x - y) :: st))) : own_Fin p.tables e below Rr T (mkF m pc Ls (.int y :: .int x :: st)) := by
  subst hp; exact own_st h (fun t k => XS.isub X.here hx rfl hd rfl k)
theorem own_lsub (X : Stand p l e R s m args below meth c T locs kc ks) (hx : p.tables.exec = Jvm.exec) {x y : Int64} (hd : decode c.code pc = .ok (.lsub, 1)) (hp : pc + 1 = pc')  (h : own_Fin p.tables e below Rr T (mkF m pc' Ls (.long (x - y) :: st))) : own_Fin p.tables e below Rr T (mkF m pc Ls (.long y :: .long x :: st)) := by
  subst hp; exact own_st h (fun t k => XS.lsub X.here hx rfl hd rfl k)
theorem own_imul (X : Stand p l e R s m args below meth c T locs kc ks) (hx : p.tables.exec = Jvm.exec) {x y : Int32} (hd : decode c.code pc = .ok (.imul, 1)) (hp : pc + 1 = pc')  (h : own_Fin p.tables e below Rr T (mkF m pc' Ls (.int (x * y) :: st))) : own_Fin p.tables e below Rr T (mkF m pc Ls (.int y :: .int x :: st)) := by
  subst hp; exact own_st h (fun t k => XS.imul X.here hx rfl hd rfl k)
theorem own_lmul (X : Stand p l e R s m args below meth c T locs kc ks) (hx : p.tables.exec = Jvm.exec) {x y : Int64} (hd : decode c.code pc = .ok (.lmul, 1)) (hp : pc + 1 = pc')  (h : own_Fin p.tables e below Rr T (mkF m pc' Ls (.long (x * y) :: st))) : own_Fin p.tables e below Rr T (mkF m pc Ls (.long y :: .long x :: st)) := by
  subst hp; exact own_st h (fun t k => XS.lmul X.here hx rfl hd rfl k)
theorem own_iand (X : Stand p l e R s m args below meth c T locs kc ks) (hx : p.tables.exec = Jvm.exec) {x y : Int32} (hd : decode c.code pc = .ok (.iand, 1)) (hp : pc + 1 = pc')  (h : own_Fin p.tables e below Rr T (mkF m pc' Ls (.int (x &&& y) :: st))) : own_Fin p.tables e below Rr T (mkF m pc Ls (.int y :: .int x :: st)) := by
  subst hp; exact own_st h (fun t k => XS.iand X.here hx rfl hd rfl k)
theorem own_land (X : Stand p l e R s m args below meth c T locs kc ks) (hx : p.tables.exec = Jvm.exec) {x y : Int64} (hd : decode c.code pc = .ok (.land, 1)) (hp : pc + 1 = pc')  (h : own_Fin p.tables e below Rr T (mkF m pc' Ls (.long (x &&& y) :: st))) : own_Fin p.tables e below Rr T (mkF m pc Ls (.long y :: .long x :: st)) := by
  subst hp; exact own_st h (fun t k => XS.land X.here hx rfl hd rfl k)
theorem own_ior (X : Stand p l e R s m args below meth c T locs kc ks) (hx : p.tables.exec = Jvm.exec) {x y : Int32} (hd : decode c.code pc = .ok (.ior, 1)) (hp : pc + 1 = pc')  (h : own_Fin p.tables e below Rr T (mkF m pc' Ls (.int (x ||| y) :: st))) : own_Fin p.tables e below Rr T (mkF m pc Ls (.int y :: .int x :: st)) := by
  subst hp; exact own_st h (fun t k => XS.ior X.here hx rfl hd rfl k)
theorem own_lor (X : Stand p l e R s m args below meth c T locs kc ks) (hx : p.tables.exec = Jvm.exec) {x y : Int64} (hd : decode c.code pc = .ok (.lor, 1)) (hp : pc + 1 = pc')  (h : own_Fin p.tables e below Rr T (mkF m pc' Ls (.long (x ||| y) :: st))) : own_Fin p.tables e below Rr T (mkF m pc Ls (.long y :: .long x :: st)) := by
  subst hp; exact own_st h (fun t k => XS.lor X.here hx rfl hd rfl k)
theorem own_ixor (X : Stand p l e R s m args below meth c T locs kc ks) (hx : p.tables.exec = Jvm.exec) {x y : Int32} (hd : decode c.code pc = .ok (.ixor, 1)) (hp : pc + 1 = pc')  (h : own_Fin p.tables e below Rr T (mkF m pc' Ls (.int (x ^^^ y) :: st))) : own_Fin p.tables e below Rr T (mkF m pc Ls (.int y :: .int x :: st)) := by
  subst hp; exact own_st h (fun t k => XS.ixor X.here hx rfl hd rfl k)
theorem own_lxor (X : Stand p l e R s m args below meth c T locs kc ks) (hx : p.tables.exec = Jvm.exec) {x y : Int64} (hd : decode c.code pc = .ok (.lxor, 1)) (hp : pc + 1 = pc')  (h : own_Fin p.tables e below Rr T (mkF m pc' Ls (.long (x ^^^ y) :: st))) : own_Fin p.tables e below Rr T (mkF m pc Ls (.long y :: .long x :: st)) := by
  subst hp; exact own_st h (fun t k => XS.lxor X.here hx rfl hd rfl k)
theorem own_idiv (X : Stand p l e R s m args below meth c T locs kc ks) (hx : p.tables.exec = Jvm.exec) {x y : Int32} (hd : decode c.code pc = .ok (.idiv, 1)) (hp : pc + 1 = pc') (hy : y ≠ 0) (h : own_Fin p.tables e below Rr T (mkF m pc' Ls (.int (x / y) :: st))) : own_Fin p.tables e below Rr T (mkF m pc Ls (.int y :: .int x :: st)) := by
  subst hp; exact own_st h (fun t k => XS.idiv X.here hx rfl hd rfl hy k)
theorem own_ldiv (X : Stand p l e R s m args below meth c T locs kc ks) (hx : p.tables.exec = Jvm.exec) {x y : Int64} (hd : decode c.code pc = .ok (.ldiv, 1)) (hp : pc + 1 = pc') (hy : y ≠ 0) (h : own_Fin p.tables e below Rr T (mkF m pc' Ls (.long (x / y) :: st))) : own_Fin p.tables e below Rr T (mkF m pc Ls (.long y :: .long x :: st)) := by
  subst hp; exact own_st h (fun t k => XS.ldiv X.here hx rfl hd rfl hy k)
theorem own_irem (X : Stand p l e R s m args below meth c T locs kc ks) (hx : p.tables.exec = Jvm.exec) {x y : Int32} (hd : decode c.code pc = .ok (.irem, 1)) (hp : pc + 1 = pc') (hy : y ≠ 0) (h : own_Fin p.tables e below Rr T (mkF m pc' Ls (.int (x - (x / y) * y) :: st))) : own_Fin p.tables e below Rr T (mkF m pc Ls (.int y :: .int x :: st)) := by
  subst hp; exact own_st h (fun t k => XS.irem X.here hx rfl hd rfl hy k)
theorem own_lrem (X : Stand p l e R s m args below meth c T locs kc ks) (hx : p.tables.exec = Jvm.exec) {x y : Int64} (hd : decode c.code pc = .ok (.lrem, 1)) (hp : pc + 1 = pc') (hy : y ≠ 0) (h : own_Fin p.tables e below Rr T (mkF m pc' Ls (.long (x - (x / y) * y) :: st))) : own_Fin p.tables e below Rr T (mkF m pc Ls (.long y :: .long x :: st)) := by
  subst hp; exact own_st h (fun t k => XS.lrem X.here hx rfl hd rfl hy k)
theorem own_ishl (X : Stand p l e R s m args below meth c T locs kc ks) (hx : p.tables.exec = Jvm.exec) {x y : Int32} (hd : decode c.code pc = .ok (.ishl, 1)) (hp : pc + 1 = pc')  (h : own_Fin p.tables e below Rr T (mkF m pc' Ls (.int (x <<< (y &&& 31)) :: st))) : own_Fin p.tables e below Rr T (mkF m pc Ls (.int y :: .int x :: st)) := by
  subst hp; exact own_st h (fun t k => XS.ishl X.here hx rfl hd rfl k)
theorem own_ishr (X : Stand p l e R s m args below meth c T locs kc ks) (hx : p.tables.exec = Jvm.exec) {x y : Int32} (hd : decode c.code pc = .ok (.ishr, 1)) (hp : pc + 1 = pc')  (h : own_Fin p.tables e below Rr T (mkF m pc' Ls (.int (x >>> (y &&& 31)) :: st))) : own_Fin p.tables e below Rr T (mkF m pc Ls (.int y :: .int x :: st)) := by
  subst hp; exact own_st h (fun t k => XS.ishr X.here hx rfl hd rfl k)
theorem own_iushr (X : Stand p l e R s m args below meth c T locs kc ks) (hx : p.tables.exec = Jvm.exec) {x y : Int32} (hd : decode c.code pc = .ok (.iushr, 1)) (hp : pc + 1 = pc')  (h : own_Fin p.tables e below Rr T (mkF m pc' Ls (.int (own_ush32 x y) :: st))) : own_Fin p.tables e below Rr T (mkF m pc Ls (.int y :: .int x :: st)) := by
  subst hp; exact own_st h (fun t k => XS.iushr X.here hx rfl hd rfl k)
theorem own_lshl (X : Stand p l e R s m args below meth c T locs kc ks) (hx : p.tables.exec = Jvm.exec) {x : Int64} {y : Int32} (hd : decode c.code pc = .ok (.lshl, 1)) (hp : pc + 1 = pc')  (h : own_Fin p.tables e below Rr T (mkF m pc' Ls (.long (x <<< (y &&& 63).toInt64) :: st))) : own_Fin p.tables e below Rr T (mkF m pc Ls (.int y :: .long x :: st)) := by
  subst hp; exact own_st h (fun t k => XS.lshl X.here hx rfl hd rfl k)
theorem own_lshr (X : Stand p l e R s m args below meth c T locs kc ks) (hx : p.tables.exec = Jvm.exec) {x : Int64} {y : Int32} (hd : decode c.code pc = .ok (.lshr, 1)) (hp : pc + 1 = pc')  (h : own_Fin p.tables e below Rr T (mkF m pc' Ls (.long (x >>> (y &&& 63).toInt64) :: st))) : own_Fin p.tables e below Rr T (mkF m pc Ls (.int y :: .long x :: st)) := by
  subst hp; exact own_st h (fun t k => XS.lshr X.here hx rfl hd rfl k)
theorem own_lushr (X : Stand p l e R s m args below meth c T locs kc ks) (hx : p.tables.exec = Jvm.exec) {x : Int64} {y : Int32} (hd : decode c.code pc = .ok (.lushr, 1)) (hp : pc + 1 = pc')  (h : own_Fin p.tables e below Rr T (mkF m pc' Ls (.long (own_ush64 x y) :: st))) : own_Fin p.tables e below Rr T (mkF m pc Ls (.int y :: .long x :: st)) := by
  subst hp; exact own_st h (fun t k => XS.lushr X.here hx rfl hd rfl k)
theorem own_ineg (X : Stand p l e R s m args below meth c T locs kc ks) (hx : p.tables.exec = Jvm.exec) {x : Int32} (hd : decode c.code pc = .ok (.ineg, 1)) (hp : pc + 1 = pc')  (h : own_Fin p.tables e below Rr T (mkF m pc' Ls (.int (-x) :: st))) : own_Fin p.tables e below Rr T (mkF m pc Ls (.int x :: st)) := by
  subst hp; exact own_st h (fun t k => XS.ineg X.here hx rfl hd rfl k)
theorem own_lneg (X : Stand p l e R s m args below meth c T locs kc ks) (hx : p.tables.exec = Jvm.exec) {x : Int64} (hd : decode c.code pc = .ok (.lneg, 1)) (hp : pc + 1 = pc')  (h : own_Fin p.tables e below Rr T (mkF m pc' Ls (.long (-x) :: st))) : own_Fin p.tables e below Rr T (mkF m pc Ls (.long x :: st)) := by
  subst hp; exact own_st h (fun t k => XS.lneg X.here hx rfl hd rfl k)
theorem own_i2l (X : Stand p l e R s m args below meth c T locs kc ks) (hx : p.tables.exec = Jvm.exec) {x : Int32} (hd : decode c.code pc = .ok (.i2l, 1)) (hp : pc + 1 = pc')  (h : own_Fin p.tables e below Rr T (mkF m pc' Ls (.long (x.toInt64) :: st))) : own_Fin p.tables e below Rr T (mkF m pc Ls (.int x :: st)) := by
  subst hp; exact own_st h (fun t k => XS.i2l X.here hx rfl hd rfl k)
theorem own_l2i (X : Stand p l e R s m args below meth c T locs kc ks) (hx : p.tables.exec = Jvm.exec) {x : Int64} (hd : decode c.code pc = .ok (.l2i, 1)) (hp : pc + 1 = pc')  (h : own_Fin p.tables e below Rr T (mkF m pc' Ls (.int (x.toInt32) :: st))) : own_Fin p.tables e below Rr T (mkF m pc Ls (.long x :: st)) := by
  subst hp; exact own_st h (fun t k => XS.l2i X.here hx rfl hd rfl k)
theorem own_i2b (X : Stand p l e R s m args below meth c T locs kc ks) (hx : p.tables.exec = Jvm.exec) {x : Int32} (hd : decode c.code pc = .ok (.i2b, 1)) (hp : pc + 1 = pc')  (h : own_Fin p.tables e below Rr T (mkF m pc' Ls (.int (x.toInt8.toInt32) :: st))) : own_Fin p.tables e below Rr T (mkF m pc Ls (.int x :: st)) := by
  subst hp; exact own_st h (fun t k => XS.i2b X.here hx rfl hd rfl k)
theorem own_i2s (X : Stand p l e R s m args below meth c T locs kc ks) (hx : p.tables.exec = Jvm.exec) {x : Int32} (hd : decode c.code pc = .ok (.i2s, 1)) (hp : pc + 1 = pc')  (h : own_Fin p.tables e below Rr T (mkF m pc' Ls (.int (x.toInt16.toInt32) :: st))) : own_Fin p.tables e below Rr T (mkF m pc Ls (.int x :: st)) := by
  subst hp; exact own_st h (fun t k => XS.i2s X.here hx rfl hd rfl k)
theorem own_lcmp (X : Stand p l e R s m args below meth c T locs kc ks) (hx : p.tables.exec = Jvm.exec) {x y : Int64} (hd : decode c.code pc = .ok (.lcmp, 1)) (hp : pc + 1 = pc')  (h : own_Fin p.tables e below Rr T (mkF m pc' Ls (.int (lcmpW x y) :: st))) : own_Fin p.tables e below Rr T (mkF m pc Ls (.long y :: .long x :: st)) := by
  subst hp; exact own_st h (fun t k => XS.lcmp X.here hx rfl hd rfl k)
theorem own_iinc (X : Stand p l e R s m args below meth c T locs kc ks) (hx : p.tables.exec = Jvm.exec) {j : Nat} {i : Int} {x : Int32} (hd : decode c.code pc = .ok (.iinc j i, 3)) (hp : pc + 3 = pc') (hl : Ls[j]? = some (.val (.int x))) (hl' : storeLocals Ls j (.int (x + Int32.ofInt i)) = some Ls') (h : own_Fin p.tables e below Rr T (mkF m pc' Ls' st)) : own_Fin p.tables e below Rr T (mkF m pc Ls st) := by
  subst hp; exact own_st h (fun t k => XS.iinc X.here hx rfl hd hl hl' k)
theorem own_dup (X : Stand p l e R s m args below meth c T locs kc ks) (hx : p.tables.exec = Jvm.exec) {v : Value} (hd : decode c.code pc = .ok (.dup, 1)) (hp : pc + 1 = pc') (hc : v.category = 1) (h : own_Fin p.tables e below Rr T (mkF m pc' Ls (v :: v :: st))) : own_Fin p.tables e below Rr T (mkF m pc Ls (v :: st)) := by
  subst hp; exact own_st h (fun t k => XS.dup X.here hx rfl hd rfl hc k)
theorem own_pop (X : Stand p l e R s m args below meth c T locs kc ks) (hx : p.tables.exec = Jvm.exec) {v : Value} (hd : decode c.code pc = .ok (.pop, 1)) (hp : pc + 1 = pc') (hc : v.category = 1) (h : own_Fin p.tables e below Rr T (mkF m pc' Ls st)) : own_Fin p.tables e below Rr T (mkF m pc Ls (v :: st)) := by
  subst hp; exact own_st h (fun t k => XS.pop X.here hx rfl hd rfl hc k)
theorem own_goto (X : Stand p l e R s m args below meth c T locs kc ks) (hx : p.tables.exec = Jvm.exec) {o : Int} (hd : decode c.code pc = .ok (.goto o, 3))  (ho : 0 ≤ (pc : Int) + o) (hp : ((pc : Int) + o).toNat = pc') (h : own_Fin p.tables e below Rr T (mkF m pc' Ls st)) : own_Fin p.tables e below Rr T (mkF m pc Ls st) := own_st h (fun t k => XS.goto X.here hx rfl (pc0 := pc) (pc' := pc') rfl hd ho hp k)
theorem own_ifYes (X : Stand p l e R s m args below meth c T locs kc ks) (hx : p.tables.exec = Jvm.exec) {cd : ClassFile.Cond} {o : Int} {x : Int32} (hd : decode c.code pc = .ok (.ifCond cd o, 3)) (hc : ifCond.holds cd x = true) (ho : 0 ≤ (pc : Int) + o) (hp : ((pc : Int) + o).toNat = pc') (h : own_Fin p.tables e below Rr T (mkF m pc' Ls st)) : own_Fin p.tables e below Rr T (mkF m pc Ls (.int x :: st)) := own_st h (fun t k => XS.ifYes X.here hx rfl (pc0 := pc) (pc' := pc') rfl hd rfl hc ho hp k)
theorem own_icmpYes (X : Stand p l e R s m args below meth c T locs kc ks) (hx : p.tables.exec = Jvm.exec) {cd : ClassFile.Cond} {o : Int} {x y : Int32} (hd : decode c.code pc = .ok (.if_icmp cd o, 3)) (hc : if_icmp.holds cd x y = true) (ho : 0 ≤ (pc : Int) + o) (hp : ((pc : Int) + o).toNat = pc') (h : own_Fin p.tables e below Rr T (mkF m pc' Ls st)) : own_Fin p.tables e below Rr T (mkF m pc Ls (.int y :: .int x :: st)) := own_st h (fun t k => XS.icmpYes X.here hx rfl (pc0 := pc) (pc' := pc') rfl hd rfl hc ho hp k)
theorem own_ifNo (X : Stand p l e R s m args below meth c T locs kc ks) (hx : p.tables.exec = Jvm.exec) {cd : ClassFile.Cond} {o : Int} {x : Int32} (hd : decode c.code pc = .ok (.ifCond cd o, 3)) (hp : pc + 3 = pc') (hc : ifCond.holds cd x = false) (h : own_Fin p.tables e below Rr T (mkF m pc' Ls st)) : own_Fin p.tables e below Rr T (mkF m pc Ls (.int x :: st)) := by
  subst hp; exact own_st h (fun t k => XS.ifNo X.here hx rfl hd rfl hc k)
theorem own_icmpNo (X : Stand p l e R s m args below meth c T locs kc ks) (hx : p.tables.exec = Jvm.exec) {cd : ClassFile.Cond} {o : Int} {x y : Int32} (hd : decode c.code pc = .ok (.if_icmp cd o, 3)) (hp : pc + 3 = pc') (hc : if_icmp.holds cd x y = false) (h : own_Fin p.tables e below Rr T (mkF m pc' Ls st)) : own_Fin p.tables e below Rr T (mkF m pc Ls (.int y :: .int x :: st)) := by
  subst hp; exact own_st h (fun t k => XS.icmpNo X.here hx rfl hd rfl hc k)
theorem own_ldcInt (X : Stand p l e R s m args below meth c T locs kc ks) (hx : p.tables.exec = Jvm.exec) {own : String} {index : Nat} {v : Int32} (hZ : Z.Warmed39 s.vm) (hown : s.vm.findClass own = some m.cls) (w : (Jvm.Cond.constant own index v).before a0 Z = true) (hd : decode c.code pc = .ok (.ldc index, 2)) (hp : pc + 2 = pc') (h : own_Fin p.tables e below Rr T (mkF m pc' Ls (.int v :: st))) : own_Fin p.tables e below Rr T (mkF m pc Ls st) := by
  subst hp; exact own_st h (fun t k => X.ldcInt hx hown (mvT hZ w) (g := mkF m pc Ls st) rfl hd t k)
theorem own_ldc2Long (X : Stand p l e R s m args below meth c T locs kc ks) (hx : p.tables.exec = Jvm.exec) {own : String} {index : Nat} {v : Int64} (hZ : Z.Warmed39 s.vm) (hown : s.vm.findClass own = some m.cls) (w : (Jvm.Cond.constantLong own index v).before a0 Z = true) (hd : decode c.code pc = .ok (.ldc2_w index, 3)) (hp : pc + 3 = pc') (h : own_Fin p.tables e below Rr T (mkF m pc' Ls (.long v :: st))) : own_Fin p.tables e below Rr T (mkF m pc Ls st) := by
  subst hp; exact own_st h (fun t k => X.ldc2Long hx hown (mvT hZ w) (g := mkF m pc Ls st) rfl hd t k)
theorem own_getF (X : Stand p l e R s m args below meth c T locs kc ks) (hx : p.tables.exec = Jvm.exec) {own R0 O n d : String} {index : Nat} {a : Addr} {v : Value} (hZ : Z.Warmed39 s.vm) (hown : s.vm.findClass own = some m.cls) (w : (Jvm.Cond.fieldLink own index R0 n d).before a0 Z = true) (via : Via Z R0 O n d) (eT : T.heap = h) (Fl : Fld Z h a O n d v) (hd : decode c.code pc = .ok (.getfield index, 3)) (hp : pc + 3 = pc')
    (k : ∀ T', Stand p l e R s m args below meth c T' locs kc ks → T'.heap = h → own_Fin p.tables e below Rr T' (mkF m pc' Ls (v :: st))) : own_Fin p.tables e below Rr T (mkF m pc Ls (.ref a :: st)) := by
  obtain ⟨T', X', e', st'⟩ := getF X hx hZ hown (host := "") (Or.inl w) via eT Fl (g := mkF m pc Ls (.ref a :: st)) rfl rfl hd
  subst hp; exact own_st (k T' X' e') st'
end OwnStep
section OwnPop
variable {p : Program} {l : Launch} {e : Env} {R : Room} {s : State} {m : MethodId} {args : Array Value} {below : List Frame} {meth : Method} {c : Code} {T : State} {locs : List Loc} {k n : Nat}
theorem own_pop2 (X : Stand p l e R s m args below meth c T locs k n) (hx : p.tables.exec = Jvm.exec) {pc : Nat} {Ls : Array Slot} {z : Int64} {rest : List Value} {t : State} (hd : decode c.code pc = .ok (.pop2, 1)) (hr : Steps p.tables e below (T.setTop (mkF m (pc + 1) Ls rest)) t) : Steps p.tables e below (T.setTop (mkF m pc Ls (.long z :: rest))) t := by
  jvm_step X.here [X.here.top, hx, hd, Value.category]
  exact hr
end OwnPop
section OwnRet
variable {p : Program} {l : Launch} {e : Env} {R : Room} {s : State} {m : MethodId} {args : Array Value} {below : List Frame} {meth : Method} {c : Code} {T : State} {locs : List Loc} {k n k' n' : Nat} {Q : Option Value → Heap → List Loc → Prop} {pc : Nat} {Ls : Array Slot}
theorem own_retN (X : Stand p l e R s m args below meth c T locs k n) (hx : p.tables.exec = Jvm.exec) {t : FieldType} (hret : meth.sig.returnType = some t) (ht : t = .boolean ∨ t = .byte ∨ t = .char ∨ t = .short) (hlk : meth.locks = false) {z : Int32} {rest : List Value} (hd : decode c.code pc = .ok (.ireturn, 1)) (hk : k ≤ k') (hn : n ≤ n') (hq : Q (some (.int (nar t z))) T.heap locs) : own_Fin p.tables e below (own_End below s Q k' n') T (mkF m pc Ls (.int z :: rest)) := by
  obtain ⟨fs, hr, hrun, hended, hW, hsame⟩ := X.leave (v := some (.int (nar t z))) (fun h => by rw [hret] at h; cases h) hlk
  exact ⟨_, retN X hx hret ht hd hr, hrun, _, hended, _, _, rfl, hq, ⟨_, rfl⟩, hW, hsame.mono hk hn⟩
theorem own_retNW {vm₁ : Vm} {k0 : Nat} (X : Stand p l e R (s.setVm vm₁) m args below meth c T locs k n) (hx : p.tables.exec = Jvm.exec) (hS : s.Since vm₁ k0) (hk0 : k0 ≤ T.heap.size) {t : FieldType} (hret : meth.sig.returnType = some t) (ht : t = .boolean ∨ t = .byte ∨ t = .char ∨ t = .short) (hlk : meth.locks = false) {z : Int32} {rest : List Value} (hd : decode c.code pc = .ok (.ireturn, 1)) (hk : k ≤ k') (hn : n ≤ n') (hq : Q (some (.int (nar t z))) T.heap locs) : own_Fin p.tables e below (own_EndW below s Q k' n') T (mkF m pc Ls (.int z :: rest)) := by
  obtain ⟨fs, hr, hrun, hended, hW⟩ := X.leaveW hS hk0 (v := some (.int (nar t z))) (fun h => by rw [hret] at h; cases h) hlk
  exact ⟨_, retN X hx hret ht hd hr, hrun, _, hended, _, _, rfl, hq, hW.1, hW.2.1, hW.2.2.1, hW.2.2.2.mono hk hn⟩
theorem own_retI (X : Stand p l e R s m args below meth c T locs k n) (hx : p.tables.exec = Jvm.exec) (hret : meth.sig.returnType = some .int) (hlk : meth.locks = false) {z : Int32} {rest : List Value} (hd : decode c.code pc = .ok (.ireturn, 1)) (hk : k ≤ k') (hn : n ≤ n') (hq : Q (some (.int z)) T.heap locs) : own_Fin p.tables e below (own_End below s Q k' n') T (mkF m pc Ls (.int z :: rest)) := by
  obtain ⟨fs, hr, hrun, hended, hW, hsame⟩ := X.leave (v := some (.int z)) (fun h => by rw [hret] at h; cases h) hlk
  exact ⟨_, retI X hx hret hd hr, hrun, _, hended, _, _, rfl, hq, ⟨_, rfl⟩, hW, hsame.mono hk hn⟩
theorem own_retJ (X : Stand p l e R s m args below meth c T locs k n) (hx : p.tables.exec = Jvm.exec) (hret : meth.sig.returnType = some .long) (hlk : meth.locks = false) {z : Int64} (hd : decode c.code pc = .ok (.lreturn, 1)) (hk : k ≤ k') (hn : n ≤ n') (hq : Q (some (.long z)) T.heap locs) : own_Fin p.tables e below (own_End below s Q k' n') T (mkF m pc Ls [.long z]) := by
  obtain ⟨fs, hr, hrun, hended, hW, hsame⟩ := X.leave (v := some (.long z)) (fun h => by rw [hret] at h; cases h) hlk
  exact ⟨_, lreturnOut X hx hret hd hr, hrun, _, hended, _, _, rfl, hq, ⟨_, rfl⟩, hW, hsame.mono hk hn⟩
theorem own_retV (X : Stand p l e R s m args below meth c T locs k n) (hx : p.tables.exec = Jvm.exec) (hret : meth.sig.returnType = none) (hlk : meth.locks = false) (hd : decode c.code pc = .ok (.return_, 1)) (hk : k ≤ k') (hn : n ≤ n') (hq : Q none T.heap locs) : own_Fin p.tables e below (own_End below s Q k' n') T (mkF m pc Ls []) := by
  obtain ⟨fs, hr, hrun, hended, hW, hsame⟩ := X.leave (v := none) (fun _ => rfl) hlk
  exact ⟨_, X.returnOut hx hret hd hr, hrun, _, hended, _, _, rfl, hq, ⟨_, rfl⟩, hW, hsame.mono hk hn⟩
end OwnRet
end Jvm.Pilot.@@N@@
namespace Jvm.Pilot.@@N@@
open Jvm Jvm.ClassFile Sem Op Lib Jvm.Free Jvm.Stand Jvm.LawKit Jvm.RoadKit Bundle Jvm.Pilot.@@N@@.Jvm.D
theorem pd_0 : parseMethodDescriptor "([J)J" = some ⟨[(.array .long)], some .long⟩ := by decide +kernel
theorem pd_1 : parseMethodDescriptor "(JJ)J" = some ⟨[.long, .long], some .long⟩ := by decide +kernel
theorem own_b64 (x : Int64) : -9223372036854775808 ≤ x.toInt ∧ x.toInt < 9223372036854775808 := ⟨Int64.le_toInt x, Int64.toInt_lt x⟩
theorem own_b32 (x : Int32) : -2147483648 ≤ x.toInt ∧ x.toInt < 2147483648 := ⟨Int32.le_toInt x, Int32.toInt_lt x⟩
theorem own_wrap64 (n : Int) : ∃ k : Int, n.bmod (2 ^ 64) = n + k * 18446744073709551616 := by
  rw [Int.bmod_def]
  split
  · exact ⟨-(n / 18446744073709551616), by omega⟩
  · exact ⟨-(n / 18446744073709551616) - 1, by omega⟩
theorem own_add64 (x y : Int64) : ∃ k : Int, (x + y).toInt = x.toInt + y.toInt + k * 18446744073709551616 := by
  rw [Int64.toInt_add]; exact own_wrap64 _
theorem own_sub64 (x y : Int64) : ∃ k : Int, (x - y).toInt = x.toInt - y.toInt + k * 18446744073709551616 := by
  rw [Int64.toInt_sub]; exact own_wrap64 _
theorem own_wrap32 (n : Int) : ∃ k : Int, n.bmod (2 ^ 32) = n + k * 4294967296 := by
  rw [Int.bmod_def]
  split
  · exact ⟨-(n / 4294967296), by omega⟩
  · exact ⟨-(n / 4294967296) - 1, by omega⟩
theorem own_add32 (x y : Int32) : ∃ k : Int, (x + y).toInt = x.toInt + y.toInt + k * 4294967296 := by
  rw [Int32.toInt_add]; exact own_wrap32 _
theorem own_sub32 (x y : Int32) : ∃ k : Int, (x - y).toInt = x.toInt - y.toInt + k * 4294967296 := by
  rw [Int32.toInt_sub]; exact own_wrap32 _
theorem own_m63 (x : Int64) : (x &&& (9223372036854775807 : Int64)).toInt = x.toInt % 9223372036854775808 := Jvm.Kit.i64_mask x _ (k := 63) (by decide) (by decide)
theorem own_m31 (x : Int32) : (x &&& (2147483647 : Int32)).toInt = x.toInt % 2147483648 := Jvm.Kit.i32_mask x _ (k := 31) (by decide) (by decide)
theorem own_max64 : (9223372036854775807 : Int64).toInt = 9223372036854775807 := by decide
theorem own_lt64 {x y : Int64} : x < y ↔ x.toInt < y.toInt := Int64.lt_iff_toInt_lt
theorem own_lt32 {x y : Int32} : x < y ↔ x.toInt < y.toInt := Int32.lt_iff_toInt_lt
theorem own_eq64 {x y : Int64} : x = y ↔ x.toInt = y.toInt := Int64.toInt_inj.symm
theorem own_eq32 {x y : Int32} : x = y ↔ x.toInt = y.toInt := Int32.toInt_inj.symm

theorem own_divM (y : Int64) (hy : 0 < y.toInt) : ((9223372036854775807 : Int64) / y).toInt = 9223372036854775807 / y.toInt := by
  rw [Jvm.Kit.i64_div (by rw [own_max64]; omega), own_max64, Int.tdiv_eq_ediv_of_nonneg (by omega)]
theorem own_e1 : (1 : Int64).toInt = 1 := by decide
theorem own_e0 : (0 : Int64).toInt = 0 := by decide
/-- no early end: the product doesn't wrap -/
theorem own_step {s w : Int64} (hs : 0 < s) (hw : ¬ w < 0) (h : w < ((9223372036854775807 : Int64) / s) - 1) : (s * (w + 1)).toInt = s.toInt * (w.toInt + 1) ∧ s.toInt * (w.toInt + 1) ≤ 9223372036854775807 ∧ w.toInt + 1 < 9223372036854775807 := by
  rw [own_lt64, own_e0] at hs hw
  have b := own_b64 s
  have bw := own_b64 w
  have hd := own_divM s hs
  have hq0 : 0 ≤ 9223372036854775807 / s.toInt := Int.ediv_nonneg (by omega) (by omega)
  have hq1 : 9223372036854775807 / s.toInt ≤ 9223372036854775807 := Int.ediv_le_self _ (by omega)
  have h1 : (((9223372036854775807 : Int64) / s) - 1).toInt = 9223372036854775807 / s.toInt - 1 := by rw [Jvm.Kit.i64_sub (by rw [hd, own_e1]; omega) (by rw [hd, own_e1]; omega), hd, own_e1]
  rw [own_lt64, h1] at h
  have h2 : s.toInt * (w.toInt + 1) ≤ s.toInt * (9223372036854775807 / s.toInt) := Int.mul_le_mul_of_nonneg_left (by omega) (by omega)
  have h3 : s.toInt * (9223372036854775807 / s.toInt) ≤ 9223372036854775807 := Int.mul_ediv_self_le (by omega)
  have h4 : 0 ≤ s.toInt * (w.toInt + 1) := Int.mul_nonneg (by omega) (by omega)
  have h5 : (w + 1).toInt = w.toInt + 1 := by rw [Jvm.Kit.i64_add (by rw [own_e1]; omega) (by rw [own_e1]; omega), own_e1]
  refine ⟨?_, by omega, by omega⟩
  rw [Jvm.Kit.i64_mul (by rw [h5]; omega) (by rw [h5]; omega), h5]
theorem own_pos {s w : Int64} (hs : 0 < s) (hw : ¬ w < 0) (h : w < ((9223372036854775807 : Int64) / s) - 1) : 0 < s * (w + 1) := by
  have q := own_step hs hw h
  rw [own_lt64, own_e0] at hs hw ⊢
  rw [q.1]
  exact Int.mul_pos hs (by omega)
theorem own_nz {s : Int64} (h : 0 < s) : s ≠ 0 := by rintro rfl; exact absurd h (by decide)
theorem own_nz1 {w : Int64} (hw : ¬ w < 0) (h : ¬ w = 9223372036854775807) : w + 1 ≠ 0 := by
  intro e
  rw [own_lt64, own_e0] at hw
  rw [own_eq64, own_max64] at h
  have b := own_b64 w
  have h5 : (w + 1).toInt = w.toInt + 1 := by rw [Jvm.Kit.i64_add (by rw [own_e1]; omega) (by rw [own_e1]; omega), own_e1]
  rw [e, own_e0] at h5; omega
theorem d1_0 : decode prog_42_method_2_code 0 = .ok (.lconst 1, 1) := by decide +kernel
theorem d1_1 : decode prog_42_method_2_code 1 = .ok (.lstore_n 1, 1) := by decide +kernel
theorem d1_2 : decode prog_42_method_2_code 2 = .ok (.aload_n 0, 1) := by decide +kernel
theorem d1_3 : decode prog_42_method_2_code 3 = .ok (.astore_n 3, 1) := by decide +kernel
theorem d1_4 : decode prog_42_method_2_code 4 = .ok (.aload_n 3, 1) := by decide +kernel
theorem d1_5 : decode prog_42_method_2_code 5 = .ok (.arraylength, 1) := by decide +kernel
theorem d1_6 : decode prog_42_method_2_code 6 = .ok (.istore 4, 2) := by decide +kernel
theorem d1_8 : decode prog_42_method_2_code 8 = .ok (.iconst 0, 1) := by decide +kernel
theorem d1_9 : decode prog_42_method_2_code 9 = .ok (.istore 5, 2) := by decide +kernel
theorem d1_11 : decode prog_42_method_2_code 11 = .ok (.iload 5, 2) := by decide +kernel
theorem d1_13 : decode prog_42_method_2_code 13 = .ok (.iload 4, 2) := by decide +kernel
theorem d1_15 : decode prog_42_method_2_code 15 = .ok (.if_icmp .ge 39, 3) := by decide +kernel
theorem d1_18 : decode prog_42_method_2_code 18 = .ok (.aload_n 3, 1) := by decide +kernel
theorem d1_19 : decode prog_42_method_2_code 19 = .ok (.iload 5, 2) := by decide +kernel
theorem d1_21 : decode prog_42_method_2_code 21 = .ok (.laload, 1) := by decide +kernel
theorem d1_22 : decode prog_42_method_2_code 22 = .ok (.lstore 6, 2) := by decide +kernel
theorem d1_24 : decode prog_42_method_2_code 24 = .ok (.lload 6, 2) := by decide +kernel
theorem d1_26 : decode prog_42_method_2_code 26 = .ok (.ldc2_w 19, 3) := by decide +kernel
theorem d1_29 : decode prog_42_method_2_code 29 = .ok (.lload_n 1, 1) := by decide +kernel
theorem d1_30 : decode prog_42_method_2_code 30 = .ok (.ldiv, 1) := by decide +kernel
theorem d1_31 : decode prog_42_method_2_code 31 = .ok (.lconst 1, 1) := by decide +kernel
theorem d1_32 : decode prog_42_method_2_code 32 = .ok (.lsub, 1) := by decide +kernel
theorem d1_33 : decode prog_42_method_2_code 33 = .ok (.lcmp, 1) := by decide +kernel
theorem d1_34 : decode prog_42_method_2_code 34 = .ok (.ifCond .lt 7, 3) := by decide +kernel
theorem d1_37 : decode prog_42_method_2_code 37 = .ok (.ldc2_w 19, 3) := by decide +kernel
theorem d1_40 : decode prog_42_method_2_code 40 = .ok (.lreturn, 1) := by decide +kernel
theorem d1_41 : decode prog_42_method_2_code 41 = .ok (.lload_n 1, 1) := by decide +kernel
theorem d1_42 : decode prog_42_method_2_code 42 = .ok (.lload 6, 2) := by decide +kernel
theorem d1_44 : decode prog_42_method_2_code 44 = .ok (.lconst 1, 1) := by decide +kernel
theorem d1_45 : decode prog_42_method_2_code 45 = .ok (.ladd, 1) := by decide +kernel
theorem d1_46 : decode prog_42_method_2_code 46 = .ok (.lmul, 1) := by decide +kernel
theorem d1_47 : decode prog_42_method_2_code 47 = .ok (.lstore_n 1, 1) := by decide +kernel
theorem d1_48 : decode prog_42_method_2_code 48 = .ok (.iinc 5 1, 3) := by decide +kernel
theorem d1_51 : decode prog_42_method_2_code 51 = .ok (.goto (-40), 3) := by decide +kernel
theorem d1_54 : decode prog_42_method_2_code 54 = .ok (.lload_n 1, 1) := by decide +kernel
theorem d1_55 : decode prog_42_method_2_code 55 = .ok (.lreturn, 1) := by decide +kernel
theorem pn_1 : plainName "com/example/optiview/optiview/subset/ProfitTable" = true := by first | (simp [plainName, overriddenIn]; done) | decide +kernel
def own_f1c0  : Int64 :=
  (1 : Int64)
set_option maxRecDepth 65536 in
set_option maxHeartbeats 40000000 in
theorem sg1c0_0 {p : Program} (l : Launch) {e : Env} {s : State} {m : MethodId} {args : Array Value} {below : List Frame} {meth : Method} {c : Code} {Z : State} {a0 : Array Value} (hw : ∀ d ∈ tables_1, d.before a0 Z = true) (hx : p.tables.exec = Jvm.exec) (hZ : Z.Warmed39 s.vm) (hby : c.code = prog_42_method_2_code) (hml : c.maxLocals = 8) (hown : s.vm.findClass "com/example/optiview/optiview/subset/ProfitTable" = some m.cls) (hnm : meth.name = "cells") (hret : meth.sig.returnType = (some .long)) (hlk : meth.locks = false) (q1 : Addr) (kc_q1 : ClassId) {h0 : Heap} {n0 : Nat} (Z0 : n0 ≤ h0.size) {T0 : State} {L0 : List Loc} (X0 : Stand p l e ({ frames := 0, cells := 0, slots := 0, locals := 0 } : Room) s m args below meth c T0 L0 0 0) (N0 : Fr n0 L0) (e0 : T0.heap = h0) (A_q1 : Arv Z h0 q1 kc_q1 .long (0 : Int32) [] (.long (0 : Int64))) :
    own_Fin p.tables e below (own_End below s (own_P h0 n0 (some (.long own_f1c0))) 0 0) T0 (mkF m 0 #[.val (.ref q1), .unset, .unset, .unset, .unset, .unset, .unset, .unset] []) := by
  refine own_lconst X0 hx (hb hby d1_0) (pc' := 1) rfl (v := (1 : Int64)) rfl ?_
  refine own_lstoreN X0 hx (hb hby d1_1) (pc' := 2) rfl (Ls' := #[.val (.ref q1), .val (.long (1 : Int64)), .second, .unset, .unset, .unset, .unset, .unset]) rfl ?_
  refine own_aloadN X0 hx (hb hby d1_2) (pc' := 3) rfl rfl rfl ?_
  refine own_astoreN X0 hx (hb hby d1_3) (pc' := 4) rfl (Ls' := #[.val (.ref q1), .val (.long (1 : Int64)), .second, .val (.ref q1), .unset, .unset, .unset, .unset]) rfl rfl ?_
  refine own_aloadN X0 hx (hb hby d1_4) (pc' := 5) rfl rfl rfl ?_
  obtain ⟨cl1, Ar1, qa1, S1, M1, H1, G1⟩ := id A_q1
  refine own_st ?_ (fun t k => X0.arraylength hx (by rw [e0]; exact Ar1.1) (State.isArrayOf_alike hZ.alike Ar1.2.1) (g := (mkF m 5 #[.val (.ref q1), .val (.long (1 : Int64)), .second, .val (.ref q1), .unset, .unset, .unset, .unset] [(.ref q1)])) rfl rfl (hb hby d1_5) t k)
  rw [len_of S1 M1]
  show own_Fin _ _ _ _ T0 (mkF m 6 #[.val (.ref q1), .val (.long (1 : Int64)), .second, .val (.ref q1), .unset, .unset, .unset, .unset] [(.int (0 : Int32))])
  refine own_istore X0 hx (hb hby d1_6) (pc' := 8) rfl (Ls' := #[.val (.ref q1), .val (.long (1 : Int64)), .second, .val (.ref q1), .val (.int (0 : Int32)), .unset, .unset, .unset]) rfl ?_
  refine own_iconst X0 hx (hb hby d1_8) (pc' := 9) rfl (v := (0 : Int32)) rfl ?_
  refine own_istore X0 hx (hb hby d1_9) (pc' := 11) rfl (Ls' := #[.val (.ref q1), .val (.long (1 : Int64)), .second, .val (.ref q1), .val (.int (0 : Int32)), .val (.int (0 : Int32)), .unset, .unset]) rfl ?_
  refine own_iload X0 hx (hb hby d1_11) (pc' := 13) rfl rfl ?_
  refine own_iload X0 hx (hb hby d1_13) (pc' := 15) rfl rfl ?_
  refine own_icmpYes X0 hx (hb hby d1_15) (flt (by decide : ¬ ((0 : Int32) < (0 : Int32)))).2.1 (pc' := 54) (by decide) (by decide) ?_
  refine own_lloadN X0 hx (hb hby d1_54) (pc' := 55) rfl rfl ?_
  refine own_retJ X0 hx hret hlk (hb hby d1_55) (by decide) (by decide) ?_
  show own_P _ _ _ _ T0.heap _
  exact ⟨(congrArg some (congrArg Value.long (show (1 : Int64) = own_f1c0 from by rw [own_f1c0]))), N0, e0⟩
theorem ef_1c0 (m : MethodId) (q1 : Addr) : entryFrame m #[(.ref q1)] 8 = mkF m 0 #[.val (.ref q1), .unset, .unset, .unset, .unset, .unset, .unset, .unset] [] := by first | (simp [entryFrame, mkF, argsToLocals, Value.category]; done) | rfl
set_option maxRecDepth 65536 in
set_option maxHeartbeats 40000000 in
theorem rm1c0 (l : Launch) (Z : State) (a0 : Array Value) (hw : ∀ d ∈ tables_1, d.before a0 Z = true) (ws : List Jvm.Cond) (q1 : Addr) (kc_q1 : ClassId) (h0 : Heap) (n0 : Nat) (Z0 : n0 ≤ h0.size) (A_q1 : Arv Z h0 q1 kc_q1 .long (0 : Int32) [] (.long (0 : Int64))) :
    MetFree l (⟨"com/example/optiview/optiview/subset/ProfitTable", "cells", "([J)J"⟩ : MethodName) (head1 (Jvm.Cond.code (⟨"com/example/optiview/optiview/subset/ProfitTable", "cells", "([J)J"⟩ : MethodName) prog_42_method_2_code 8 (some .long) :: ws) ({ frames := 0, cells := 0, slots := 0, locals := 0 } : Room)) (fun a U => a = #[(.ref q1)] ∧ Z.Warmed39 U.vm ∧ U.heap = h0) (fun _ _ _ _ _ => True) (fun _ U o U' => ∃ v L, o = .returned v ∧ (own_P h0 n0 (some (.long own_f1c0))) v U'.heap L ∧ FrameEnd U o U' L ({ frames := 0, cells := 0, slots := 0, locals := 0 } : Room).cells ({ frames := 0, cells := 0, slots := 0, locals := 0 } : Room).slots) := by
  refine MetFree.of_bodySF (plainFor_of_name pn_1) hisR ?_
  intro p e s m args below meth c s₁ Bd hml0 hP hK
  obtain ⟨rfl, hZ, hh⟩ := hP
  have hown : s.vm.findClass "com/example/optiview/optiview/subset/ProfitTable" = some m.cls := findClass_of_methodNamed Bd.named
  have hnm := (name_of_methodNamed Bd.named Bd.method).1
  have X0 : Stand p l e ({ frames := 0, cells := 0, slots := 0, locals := 0 } : Room) s m #[(.ref q1)] below meth c s₁ [] 0 0 := Stand.of_body Bd
  have e0 : s₁.heap = h0 := by rw [← hh, Bd.state]; rfl
  have H := sg1c0_0 l hw Bd.exec hZ Bd.bytes hml0 hown hnm Bd.returns Bd.notSynchronized q1 kc_q1 Z0 X0 (Fr.nil n0) e0 A_q1
  obtain ⟨t, h1, h2, o, h3, h4⟩ := H
  exact ⟨t, o, castTop (ef_1c0 m q1) h1, h2, h3, h4⟩
def own_f1c1 (w0_q1 : Int64) : Int64 :=
  if w0_q1 < (((9223372036854775807 : Int64) / (1 : Int64)) - (1 : Int64)) then ((1 : Int64) * (w0_q1 + (1 : Int64))) else
  (9223372036854775807 : Int64)
set_option maxRecDepth 65536 in
set_option maxHeartbeats 40000000 in
theorem sg1c1_0 {p : Program} (l : Launch) {e : Env} {s : State} {m : MethodId} {args : Array Value} {below : List Frame} {meth : Method} {c : Code} {Z : State} {a0 : Array Value} (hw : ∀ d ∈ tables_1, d.before a0 Z = true) (hx : p.tables.exec = Jvm.exec) (hZ : Z.Warmed39 s.vm) (hby : c.code = prog_42_method_2_code) (hml : c.maxLocals = 8) (hown : s.vm.findClass "com/example/optiview/optiview/subset/ProfitTable" = some m.cls) (hnm : meth.name = "cells") (hret : meth.sig.returnType = (some .long)) (hlk : meth.locks = false) (q1 : Addr) (kc_q1 : ClassId) (w0_q1 : Int64) {h0 : Heap} {n0 : Nat} (Z0 : n0 ≤ h0.size) {T0 : State} {L0 : List Loc} (X0 : Stand p l e ({ frames := 0, cells := 0, slots := 0, locals := 0 } : Room) s m args below meth c T0 L0 0 0) (N0 : Fr n0 L0) (e0 : T0.heap = h0) (A_q1 : Arv Z h0 q1 kc_q1 .long (1 : Int32) [(.long w0_q1)] (.long (0 : Int64))) (hw0 : ¬ (w0_q1 < (0 : Int64))) :
    own_Fin p.tables e below (own_End below s (own_P h0 n0 (some (.long (own_f1c1 w0_q1)))) 0 0) T0 (mkF m 0 #[.val (.ref q1), .unset, .unset, .unset, .unset, .unset, .unset, .unset] []) := by
  refine own_lconst X0 hx (hb hby d1_0) (pc' := 1) rfl (v := (1 : Int64)) rfl ?_
  refine own_lstoreN X0 hx (hb hby d1_1) (pc' := 2) rfl (Ls' := #[.val (.ref q1), .val (.long (1 : Int64)), .second, .unset, .unset, .unset, .unset, .unset]) rfl ?_
  refine own_aloadN X0 hx (hb hby d1_2) (pc' := 3) rfl rfl rfl ?_
  refine own_astoreN X0 hx (hb hby d1_3) (pc' := 4) rfl (Ls' := #[.val (.ref q1), .val (.long (1 : Int64)), .second, .val (.ref q1), .unset, .unset, .unset, .unset]) rfl rfl ?_
  refine own_aloadN X0 hx (hb hby d1_4) (pc' := 5) rfl rfl rfl ?_
  obtain ⟨cl2, Ar2, qa2, S2, M2, H2, G2⟩ := id A_q1
  refine own_st ?_ (fun t k => X0.arraylength hx (by rw [e0]; exact Ar2.1) (State.isArrayOf_alike hZ.alike Ar2.2.1) (g := (mkF m 5 #[.val (.ref q1), .val (.long (1 : Int64)), .second, .val (.ref q1), .unset, .unset, .unset, .unset] [(.ref q1)])) rfl rfl (hb hby d1_5) t k)
  rw [len_of S2 M2]
  show own_Fin _ _ _ _ T0 (mkF m 6 #[.val (.ref q1), .val (.long (1 : Int64)), .second, .val (.ref q1), .unset, .unset, .unset, .unset] [(.int (1 : Int32))])
  refine own_istore X0 hx (hb hby d1_6) (pc' := 8) rfl (Ls' := #[.val (.ref q1), .val (.long (1 : Int64)), .second, .val (.ref q1), .val (.int (1 : Int32)), .unset, .unset, .unset]) rfl ?_
  refine own_iconst X0 hx (hb hby d1_8) (pc' := 9) rfl (v := (0 : Int32)) rfl ?_
  refine own_istore X0 hx (hb hby d1_9) (pc' := 11) rfl (Ls' := #[.val (.ref q1), .val (.long (1 : Int64)), .second, .val (.ref q1), .val (.int (1 : Int32)), .val (.int (0 : Int32)), .unset, .unset]) rfl ?_
  refine own_iload X0 hx (hb hby d1_11) (pc' := 13) rfl rfl ?_
  refine own_iload X0 hx (hb hby d1_13) (pc' := 15) rfl rfl ?_
  refine own_icmpNo X0 hx (hb hby d1_15) (pc' := 18) rfl (tlt (by decide : (0 : Int32) < (1 : Int32))).2.1 ?_
  refine own_aloadN X0 hx (hb hby d1_18) (pc' := 19) rfl rfl rfl ?_
  refine own_iload X0 hx (hb hby d1_19) (pc' := 21) rfl rfl ?_
  obtain ⟨cl3, Ar3, qa3, S3, M3, H3, G3⟩ := id A_q1
  have hin3 : ¬ ((0 : Int32) < 0 ∨ cl3.slots.size ≤ ((0 : Int32)).toNatClampNeg) := inb_of S3 ⟨by decide, by decide⟩
  refine own_st ?_ (fun t k => X0.laload hx (j := (0 : Int32)) (v := (.long w0_q1)) (by rw [e0]; exact Ar3.1) (State.isArrayOf_alike hZ.alike Ar3.2.1) Ar3.2.2 hin3 (Has.at H3 hin3 rfl) (g := (mkF m 21 #[.val (.ref q1), .val (.long (1 : Int64)), .second, .val (.ref q1), .val (.int (1 : Int32)), .val (.int (0 : Int32)), .unset, .unset] [(.int (0 : Int32)), (.ref q1)])) rfl rfl (hb hby d1_21) t k)
  show own_Fin _ _ _ _ T0 (mkF m 22 #[.val (.ref q1), .val (.long (1 : Int64)), .second, .val (.ref q1), .val (.int (1 : Int32)), .val (.int (0 : Int32)), .unset, .unset] [(.long w0_q1)])
  refine own_lstore X0 hx (hb hby d1_22) (pc' := 24) rfl (Ls' := #[.val (.ref q1), .val (.long (1 : Int64)), .second, .val (.ref q1), .val (.int (1 : Int32)), .val (.int (0 : Int32)), .val (.long w0_q1), .second]) rfl ?_
  refine own_lload X0 hx (hb hby d1_24) (pc' := 26) rfl rfl ?_
  refine own_ldc2Long X0 hx hZ hown (hw _ (List.mem_of_getElem? (i := 11) rfl)) (hb hby d1_26) (pc' := 29) rfl ?_
  refine own_lloadN X0 hx (hb hby d1_29) (pc' := 30) rfl rfl ?_
  refine own_ldiv X0 hx (hb hby d1_30) (pc' := 31) rfl (by decide) ?_
  refine own_lconst X0 hx (hb hby d1_31) (pc' := 32) rfl (v := (1 : Int64)) rfl ?_
  refine own_lsub X0 hx (hb hby d1_32) (pc' := 33) rfl ?_
  refine own_lcmp X0 hx (hb hby d1_33) (pc' := 34) rfl ?_
  by_cases hc4 : w0_q1 < (((9223372036854775807 : Int64) / (1 : Int64)) - (1 : Int64))
  · refine own_ifYes X0 hx (hb hby d1_34) ((if0 _ _).trans (tlt (own_lc_lt.mpr hc4)).1) (pc' := 41) (by decide) (by decide) ?_
    refine own_lloadN X0 hx (hb hby d1_41) (pc' := 42) rfl rfl ?_
    refine own_lload X0 hx (hb hby d1_42) (pc' := 44) rfl rfl ?_
    refine own_lconst X0 hx (hb hby d1_44) (pc' := 45) rfl (v := (1 : Int64)) rfl ?_
    refine own_ladd X0 hx (hb hby d1_45) (pc' := 46) rfl ?_
    refine own_lmul X0 hx (hb hby d1_46) (pc' := 47) rfl ?_
    refine own_lstoreN X0 hx (hb hby d1_47) (pc' := 48) rfl (Ls' := #[.val (.ref q1), .val (.long ((1 : Int64) * (w0_q1 + (1 : Int64)))), .second, .val (.ref q1), .val (.int (1 : Int32)), .val (.int (0 : Int32)), .val (.long w0_q1), .second]) rfl ?_
    refine own_iinc X0 hx (hb hby d1_48) (pc' := 51) rfl (Ls' := #[.val (.ref q1), .val (.long ((1 : Int64) * (w0_q1 + (1 : Int64)))), .second, .val (.ref q1), .val (.int (1 : Int32)), .val (.int (1 : Int32)), .val (.long w0_q1), .second]) rfl rfl ?_
    refine own_goto X0 hx (hb hby d1_51) (pc' := 11) (by decide) (by decide) ?_
    refine own_iload X0 hx (hb hby d1_11) (pc' := 13) rfl rfl ?_
    refine own_iload X0 hx (hb hby d1_13) (pc' := 15) rfl rfl ?_
    refine own_icmpYes X0 hx (hb hby d1_15) (flt (by decide : ¬ ((1 : Int32) < (1 : Int32)))).2.1 (pc' := 54) (by decide) (by decide) ?_
    refine own_lloadN X0 hx (hb hby d1_54) (pc' := 55) rfl rfl ?_
    refine own_retJ X0 hx hret hlk (hb hby d1_55) (by decide) (by decide) ?_
    show own_P _ _ _ _ T0.heap _
    exact ⟨(congrArg some (congrArg Value.long (show ((1 : Int64) * (w0_q1 + (1 : Int64))) = (own_f1c1 w0_q1) from by rw [own_f1c1, if_pos hc4]))), N0, e0⟩
  · refine own_ifNo X0 hx (hb hby d1_34) (pc' := 37) rfl ((if0 _ _).trans (flt (mt own_lc_lt.mp hc4)).1) ?_
    refine own_ldc2Long X0 hx hZ hown (hw _ (List.mem_of_getElem? (i := 11) rfl)) (hb hby d1_37) (pc' := 40) rfl ?_
    refine own_retJ X0 hx hret hlk (hb hby d1_40) (by decide) (by decide) ?_
    show own_P _ _ _ _ T0.heap _
    exact ⟨(congrArg some (congrArg Value.long (show (9223372036854775807 : Int64) = (own_f1c1 w0_q1) from by rw [own_f1c1, if_neg hc4]))), N0, e0⟩
theorem ef_1c1 (m : MethodId) (q1 : Addr) : entryFrame m #[(.ref q1)] 8 = mkF m 0 #[.val (.ref q1), .unset, .unset, .unset, .unset, .unset, .unset, .unset] [] := by first | (simp [entryFrame, mkF, argsToLocals, Value.category]; done) | rfl
set_option maxRecDepth 65536 in
set_option maxHeartbeats 40000000 in
theorem rm1c1 (l : Launch) (Z : State) (a0 : Array Value) (hw : ∀ d ∈ tables_1, d.before a0 Z = true) (ws : List Jvm.Cond) (q1 : Addr) (kc_q1 : ClassId) (w0_q1 : Int64) (h0 : Heap) (n0 : Nat) (Z0 : n0 ≤ h0.size) (A_q1 : Arv Z h0 q1 kc_q1 .long (1 : Int32) [(.long w0_q1)] (.long (0 : Int64))) (hw0 : ¬ (w0_q1 < (0 : Int64))) :
    MetFree l (⟨"com/example/optiview/optiview/subset/ProfitTable", "cells", "([J)J"⟩ : MethodName) (head1 (Jvm.Cond.code (⟨"com/example/optiview/optiview/subset/ProfitTable", "cells", "([J)J"⟩ : MethodName) prog_42_method_2_code 8 (some .long) :: ws) ({ frames := 0, cells := 0, slots := 0, locals := 0 } : Room)) (fun a U => a = #[(.ref q1)] ∧ Z.Warmed39 U.vm ∧ U.heap = h0) (fun _ _ _ _ _ => True) (fun _ U o U' => ∃ v L, o = .returned v ∧ (own_P h0 n0 (some (.long (own_f1c1 w0_q1)))) v U'.heap L ∧ FrameEnd U o U' L ({ frames := 0, cells := 0, slots := 0, locals := 0 } : Room).cells ({ frames := 0, cells := 0, slots := 0, locals := 0 } : Room).slots) := by
  refine MetFree.of_bodySF (plainFor_of_name pn_1) hisR ?_
  intro p e s m args below meth c s₁ Bd hml0 hP hK
  obtain ⟨rfl, hZ, hh⟩ := hP
  have hown : s.vm.findClass "com/example/optiview/optiview/subset/ProfitTable" = some m.cls := findClass_of_methodNamed Bd.named
  have hnm := (name_of_methodNamed Bd.named Bd.method).1
  have X0 : Stand p l e ({ frames := 0, cells := 0, slots := 0, locals := 0 } : Room) s m #[(.ref q1)] below meth c s₁ [] 0 0 := Stand.of_body Bd
  have e0 : s₁.heap = h0 := by rw [← hh, Bd.state]; rfl
  have H := sg1c1_0 l hw Bd.exec hZ Bd.bytes hml0 hown hnm Bd.returns Bd.notSynchronized q1 kc_q1 w0_q1 Z0 X0 (Fr.nil n0) e0 A_q1 hw0
  obtain ⟨t, h1, h2, o, h3, h4⟩ := H
  exact ⟨t, o, castTop (ef_1c1 m q1) h1, h2, h3, h4⟩
def own_f1c2 (w0_q1 : Int64) (w1_q1 : Int64) : Int64 :=
  if w0_q1 < (((9223372036854775807 : Int64) / (1 : Int64)) - (1 : Int64)) then (if w1_q1 < (((9223372036854775807 : Int64) / ((1 : Int64) * (w0_q1 + (1 : Int64)))) - (1 : Int64)) then (((1 : Int64) * (w0_q1 + (1 : Int64))) * (w1_q1 + (1 : Int64))) else
    (9223372036854775807 : Int64)) else
  (9223372036854775807 : Int64)
set_option maxRecDepth 65536 in
set_option maxHeartbeats 40000000 in
theorem sg1c2_0 {p : Program} (l : Launch) {e : Env} {s : State} {m : MethodId} {args : Array Value} {below : List Frame} {meth : Method} {c : Code} {Z : State} {a0 : Array Value} (hw : ∀ d ∈ tables_1, d.before a0 Z = true) (hx : p.tables.exec = Jvm.exec) (hZ : Z.Warmed39 s.vm) (hby : c.code = prog_42_method_2_code) (hml : c.maxLocals = 8) (hown : s.vm.findClass "com/example/optiview/optiview/subset/ProfitTable" = some m.cls) (hnm : meth.name = "cells") (hret : meth.sig.returnType = (some .long)) (hlk : meth.locks = false) (q1 : Addr) (kc_q1 : ClassId) (w0_q1 : Int64) (w1_q1 : Int64) {h0 : Heap} {n0 : Nat} (Z0 : n0 ≤ h0.size) {T0 : State} {L0 : List Loc} (X0 : Stand p l e ({ frames := 0, cells := 0, slots := 0, locals := 0 } : Room) s m args below meth c T0 L0 0 0) (N0 : Fr n0 L0) (e0 : T0.heap = h0) (A_q1 : Arv Z h0 q1 kc_q1 .long (2 : Int32) [(.long w0_q1), (.long w1_q1)] (.long (0 : Int64))) (hw0 : ¬ (w0_q1 < (0 : Int64))) (hw1 : ¬ (w1_q1 < (0 : Int64))) :
    own_Fin p.tables e below (own_End below s (own_P h0 n0 (some (.long (own_f1c2 w0_q1 w1_q1)))) 0 0) T0 (mkF m 0 #[.val (.ref q1), .unset, .unset, .unset, .unset, .unset, .unset, .unset] []) := by
  refine own_lconst X0 hx (hb hby d1_0) (pc' := 1) rfl (v := (1 : Int64)) rfl ?_
  refine own_lstoreN X0 hx (hb hby d1_1) (pc' := 2) rfl (Ls' := #[.val (.ref q1), .val (.long (1 : Int64)), .second, .unset, .unset, .unset, .unset, .unset]) rfl ?_
  refine own_aloadN X0 hx (hb hby d1_2) (pc' := 3) rfl rfl rfl ?_
  refine own_astoreN X0 hx (hb hby d1_3) (pc' := 4) rfl (Ls' := #[.val (.ref q1), .val (.long (1 : Int64)), .second, .val (.ref q1), .unset, .unset, .unset, .unset]) rfl rfl ?_
  refine own_aloadN X0 hx (hb hby d1_4) (pc' := 5) rfl rfl rfl ?_
  obtain ⟨cl5, Ar5, qa5, S5, M5, H5, G5⟩ := id A_q1
  refine own_st ?_ (fun t k => X0.arraylength hx (by rw [e0]; exact Ar5.1) (State.isArrayOf_alike hZ.alike Ar5.2.1) (g := (mkF m 5 #[.val (.ref q1), .val (.long (1 : Int64)), .second, .val (.ref q1), .unset, .unset, .unset, .unset] [(.ref q1)])) rfl rfl (hb hby d1_5) t k)
  rw [len_of S5 M5]
  show own_Fin _ _ _ _ T0 (mkF m 6 #[.val (.ref q1), .val (.long (1 : Int64)), .second, .val (.ref q1), .unset, .unset, .unset, .unset] [(.int (2 : Int32))])
  refine own_istore X0 hx (hb hby d1_6) (pc' := 8) rfl (Ls' := #[.val (.ref q1), .val (.long (1 : Int64)), .second, .val (.ref q1), .val (.int (2 : Int32)), .unset, .unset, .unset]) rfl ?_
  refine own_iconst X0 hx (hb hby d1_8) (pc' := 9) rfl (v := (0 : Int32)) rfl ?_
  refine own_istore X0 hx (hb hby d1_9) (pc' := 11) rfl (Ls' := #[.val (.ref q1), .val (.long (1 : Int64)), .second, .val (.ref q1), .val (.int (2 : Int32)), .val (.int (0 : Int32)), .unset, .unset]) rfl ?_
  refine own_iload X0 hx (hb hby d1_11) (pc' := 13) rfl rfl ?_
  refine own_iload X0 hx (hb hby d1_13) (pc' := 15) rfl rfl ?_
  refine own_icmpNo X0 hx (hb hby d1_15) (pc' := 18) rfl (tlt (by decide : (0 : Int32) < (2 : Int32))).2.1 ?_
  refine own_aloadN X0 hx (hb hby d1_18) (pc' := 19) rfl rfl rfl ?_
  refine own_iload X0 hx (hb hby d1_19) (pc' := 21) rfl rfl ?_
  obtain ⟨cl6, Ar6, qa6, S6, M6, H6, G6⟩ := id A_q1
  have hin6 : ¬ ((0 : Int32) < 0 ∨ cl6.slots.size ≤ ((0 : Int32)).toNatClampNeg) := inb_of S6 ⟨by decide, by decide⟩
  refine own_st ?_ (fun t k => X0.laload hx (j := (0 : Int32)) (v := (.long w0_q1)) (by rw [e0]; exact Ar6.1) (State.isArrayOf_alike hZ.alike Ar6.2.1) Ar6.2.2 hin6 (Has.at H6 hin6 rfl) (g := (mkF m 21 #[.val (.ref q1), .val (.long (1 : Int64)), .second, .val (.ref q1), .val (.int (2 : Int32)), .val (.int (0 : Int32)), .unset, .unset] [(.int (0 : Int32)), (.ref q1)])) rfl rfl (hb hby d1_21) t k)
  show own_Fin _ _ _ _ T0 (mkF m 22 #[.val (.ref q1), .val (.long (1 : Int64)), .second, .val (.ref q1), .val (.int (2 : Int32)), .val (.int (0 : Int32)), .unset, .unset] [(.long w0_q1)])
  refine own_lstore X0 hx (hb hby d1_22) (pc' := 24) rfl (Ls' := #[.val (.ref q1), .val (.long (1 : Int64)), .second, .val (.ref q1), .val (.int (2 : Int32)), .val (.int (0 : Int32)), .val (.long w0_q1), .second]) rfl ?_
  refine own_lload X0 hx (hb hby d1_24) (pc' := 26) rfl rfl ?_
  refine own_ldc2Long X0 hx hZ hown (hw _ (List.mem_of_getElem? (i := 11) rfl)) (hb hby d1_26) (pc' := 29) rfl ?_
  refine own_lloadN X0 hx (hb hby d1_29) (pc' := 30) rfl rfl ?_
  refine own_ldiv X0 hx (hb hby d1_30) (pc' := 31) rfl (by decide) ?_
  refine own_lconst X0 hx (hb hby d1_31) (pc' := 32) rfl (v := (1 : Int64)) rfl ?_
  refine own_lsub X0 hx (hb hby d1_32) (pc' := 33) rfl ?_
  refine own_lcmp X0 hx (hb hby d1_33) (pc' := 34) rfl ?_
  by_cases hc7 : w0_q1 < (((9223372036854775807 : Int64) / (1 : Int64)) - (1 : Int64))
  · refine own_ifYes X0 hx (hb hby d1_34) ((if0 _ _).trans (tlt (own_lc_lt.mpr hc7)).1) (pc' := 41) (by decide) (by decide) ?_
    refine own_lloadN X0 hx (hb hby d1_41) (pc' := 42) rfl rfl ?_
    refine own_lload X0 hx (hb hby d1_42) (pc' := 44) rfl rfl ?_
    refine own_lconst X0 hx (hb hby d1_44) (pc' := 45) rfl (v := (1 : Int64)) rfl ?_
    refine own_ladd X0 hx (hb hby d1_45) (pc' := 46) rfl ?_
    refine own_lmul X0 hx (hb hby d1_46) (pc' := 47) rfl ?_
    refine own_lstoreN X0 hx (hb hby d1_47) (pc' := 48) rfl (Ls' := #[.val (.ref q1), .val (.long ((1 : Int64) * (w0_q1 + (1 : Int64)))), .second, .val (.ref q1), .val (.int (2 : Int32)), .val (.int (0 : Int32)), .val (.long w0_q1), .second]) rfl ?_
    refine own_iinc X0 hx (hb hby d1_48) (pc' := 51) rfl (Ls' := #[.val (.ref q1), .val (.long ((1 : Int64) * (w0_q1 + (1 : Int64)))), .second, .val (.ref q1), .val (.int (2 : Int32)), .val (.int (1 : Int32)), .val (.long w0_q1), .second]) rfl rfl ?_
    refine own_goto X0 hx (hb hby d1_51) (pc' := 11) (by decide) (by decide) ?_
    refine own_iload X0 hx (hb hby d1_11) (pc' := 13) rfl rfl ?_
    refine own_iload X0 hx (hb hby d1_13) (pc' := 15) rfl rfl ?_
    refine own_icmpNo X0 hx (hb hby d1_15) (pc' := 18) rfl (tlt (by decide : (1 : Int32) < (2 : Int32))).2.1 ?_
    refine own_aloadN X0 hx (hb hby d1_18) (pc' := 19) rfl rfl rfl ?_
    refine own_iload X0 hx (hb hby d1_19) (pc' := 21) rfl rfl ?_
    obtain ⟨cl8, Ar8, qa8, S8, M8, H8, G8⟩ := id A_q1
    have hin8 : ¬ ((1 : Int32) < 0 ∨ cl8.slots.size ≤ ((1 : Int32)).toNatClampNeg) := inb_of S8 ⟨by decide, by decide⟩
    refine own_st ?_ (fun t k => X0.laload hx (j := (1 : Int32)) (v := (.long w1_q1)) (by rw [e0]; exact Ar8.1) (State.isArrayOf_alike hZ.alike Ar8.2.1) Ar8.2.2 hin8 (Has.at H8 hin8 rfl) (g := (mkF m 21 #[.val (.ref q1), .val (.long ((1 : Int64) * (w0_q1 + (1 : Int64)))), .second, .val (.ref q1), .val (.int (2 : Int32)), .val (.int (1 : Int32)), .val (.long w0_q1), .second] [(.int (1 : Int32)), (.ref q1)])) rfl rfl (hb hby d1_21) t k)
    show own_Fin _ _ _ _ T0 (mkF m 22 #[.val (.ref q1), .val (.long ((1 : Int64) * (w0_q1 + (1 : Int64)))), .second, .val (.ref q1), .val (.int (2 : Int32)), .val (.int (1 : Int32)), .val (.long w0_q1), .second] [(.long w1_q1)])
    refine own_lstore X0 hx (hb hby d1_22) (pc' := 24) rfl (Ls' := #[.val (.ref q1), .val (.long ((1 : Int64) * (w0_q1 + (1 : Int64)))), .second, .val (.ref q1), .val (.int (2 : Int32)), .val (.int (1 : Int32)), .val (.long w1_q1), .second]) rfl ?_
    refine own_lload X0 hx (hb hby d1_24) (pc' := 26) rfl rfl ?_
    refine own_ldc2Long X0 hx hZ hown (hw _ (List.mem_of_getElem? (i := 11) rfl)) (hb hby d1_26) (pc' := 29) rfl ?_
    refine own_lloadN X0 hx (hb hby d1_29) (pc' := 30) rfl rfl ?_
    refine own_ldiv X0 hx (hb hby d1_30) (pc' := 31) rfl (own_nz (own_pos (by decide) hw0 hc7)) ?_
    refine own_lconst X0 hx (hb hby d1_31) (pc' := 32) rfl (v := (1 : Int64)) rfl ?_
    refine own_lsub X0 hx (hb hby d1_32) (pc' := 33) rfl ?_
    refine own_lcmp X0 hx (hb hby d1_33) (pc' := 34) rfl ?_
    by_cases hc9 : w1_q1 < (((9223372036854775807 : Int64) / ((1 : Int64) * (w0_q1 + (1 : Int64)))) - (1 : Int64))
    · refine own_ifYes X0 hx (hb hby d1_34) ((if0 _ _).trans (tlt (own_lc_lt.mpr hc9)).1) (pc' := 41) (by decide) (by decide) ?_
      refine own_lloadN X0 hx (hb hby d1_41) (pc' := 42) rfl rfl ?_
      refine own_lload X0 hx (hb hby d1_42) (pc' := 44) rfl rfl ?_
      refine own_lconst X0 hx (hb hby d1_44) (pc' := 45) rfl (v := (1 : Int64)) rfl ?_
      refine own_ladd X0 hx (hb hby d1_45) (pc' := 46) rfl ?_
      refine own_lmul X0 hx (hb hby d1_46) (pc' := 47) rfl ?_
      refine own_lstoreN X0 hx (hb hby d1_47) (pc' := 48) rfl (Ls' := #[.val (.ref q1), .val (.long (((1 : Int64) * (w0_q1 + (1 : Int64))) * (w1_q1 + (1 : Int64)))), .second, .val (.ref q1), .val (.int (2 : Int32)), .val (.int (1 : Int32)), .val (.long w1_q1), .second]) rfl ?_
      refine own_iinc X0 hx (hb hby d1_48) (pc' := 51) rfl (Ls' := #[.val (.ref q1), .val (.long (((1 : Int64) * (w0_q1 + (1 : Int64))) * (w1_q1 + (1 : Int64)))), .second, .val (.ref q1), .val (.int (2 : Int32)), .val (.int (2 : Int32)), .val (.long w1_q1), .second]) rfl rfl ?_
      refine own_goto X0 hx (hb hby d1_51) (pc' := 11) (by decide) (by decide) ?_
      refine own_iload X0 hx (hb hby d1_11) (pc' := 13) rfl rfl ?_
      refine own_iload X0 hx (hb hby d1_13) (pc' := 15) rfl rfl ?_
      refine own_icmpYes X0 hx (hb hby d1_15) (flt (by decide : ¬ ((2 : Int32) < (2 : Int32)))).2.1 (pc' := 54) (by decide) (by decide) ?_
      refine own_lloadN X0 hx (hb hby d1_54) (pc' := 55) rfl rfl ?_
      refine own_retJ X0 hx hret hlk (hb hby d1_55) (by decide) (by decide) ?_
      show own_P _ _ _ _ T0.heap _
      exact ⟨(congrArg some (congrArg Value.long (show (((1 : Int64) * (w0_q1 + (1 : Int64))) * (w1_q1 + (1 : Int64))) = (own_f1c2 w0_q1 w1_q1) from by rw [own_f1c2, if_pos hc7, if_pos hc9]))), N0, e0⟩
    · refine own_ifNo X0 hx (hb hby d1_34) (pc' := 37) rfl ((if0 _ _).trans (flt (mt own_lc_lt.mp hc9)).1) ?_
      refine own_ldc2Long X0 hx hZ hown (hw _ (List.mem_of_getElem? (i := 11) rfl)) (hb hby d1_37) (pc' := 40) rfl ?_
      refine own_retJ X0 hx hret hlk (hb hby d1_40) (by decide) (by decide) ?_
      show own_P _ _ _ _ T0.heap _
      exact ⟨(congrArg some (congrArg Value.long (show (9223372036854775807 : Int64) = (own_f1c2 w0_q1 w1_q1) from by rw [own_f1c2, if_pos hc7, if_neg hc9]))), N0, e0⟩
  · refine own_ifNo X0 hx (hb hby d1_34) (pc' := 37) rfl ((if0 _ _).trans (flt (mt own_lc_lt.mp hc7)).1) ?_
    refine own_ldc2Long X0 hx hZ hown (hw _ (List.mem_of_getElem? (i := 11) rfl)) (hb hby d1_37) (pc' := 40) rfl ?_
    refine own_retJ X0 hx hret hlk (hb hby d1_40) (by decide) (by decide) ?_
    show own_P _ _ _ _ T0.heap _
    exact ⟨(congrArg some (congrArg Value.long (show (9223372036854775807 : Int64) = (own_f1c2 w0_q1 w1_q1) from by rw [own_f1c2, if_neg hc7]))), N0, e0⟩
theorem ef_1c2 (m : MethodId) (q1 : Addr) : entryFrame m #[(.ref q1)] 8 = mkF m 0 #[.val (.ref q1), .unset, .unset, .unset, .unset, .unset, .unset, .unset] [] := by first | (simp [entryFrame, mkF, argsToLocals, Value.category]; done) | rfl
set_option maxRecDepth 65536 in
set_option maxHeartbeats 40000000 in
theorem rm1c2 (l : Launch) (Z : State) (a0 : Array Value) (hw : ∀ d ∈ tables_1, d.before a0 Z = true) (ws : List Jvm.Cond) (q1 : Addr) (kc_q1 : ClassId) (w0_q1 : Int64) (w1_q1 : Int64) (h0 : Heap) (n0 : Nat) (Z0 : n0 ≤ h0.size) (A_q1 : Arv Z h0 q1 kc_q1 .long (2 : Int32) [(.long w0_q1), (.long w1_q1)] (.long (0 : Int64))) (hw0 : ¬ (w0_q1 < (0 : Int64))) (hw1 : ¬ (w1_q1 < (0 : Int64))) :
    MetFree l (⟨"com/example/optiview/optiview/subset/ProfitTable", "cells", "([J)J"⟩ : MethodName) (head1 (Jvm.Cond.code (⟨"com/example/optiview/optiview/subset/ProfitTable", "cells", "([J)J"⟩ : MethodName) prog_42_method_2_code 8 (some .long) :: ws) ({ frames := 0, cells := 0, slots := 0, locals := 0 } : Room)) (fun a U => a = #[(.ref q1)] ∧ Z.Warmed39 U.vm ∧ U.heap = h0) (fun _ _ _ _ _ => True) (fun _ U o U' => ∃ v L, o = .returned v ∧ (own_P h0 n0 (some (.long (own_f1c2 w0_q1 w1_q1)))) v U'.heap L ∧ FrameEnd U o U' L ({ frames := 0, cells := 0, slots := 0, locals := 0 } : Room).cells ({ frames := 0, cells := 0, slots := 0, locals := 0 } : Room).slots) := by
  refine MetFree.of_bodySF (plainFor_of_name pn_1) hisR ?_
  intro p e s m args below meth c s₁ Bd hml0 hP hK
  obtain ⟨rfl, hZ, hh⟩ := hP
  have hown : s.vm.findClass "com/example/optiview/optiview/subset/ProfitTable" = some m.cls := findClass_of_methodNamed Bd.named
  have hnm := (name_of_methodNamed Bd.named Bd.method).1
  have X0 : Stand p l e ({ frames := 0, cells := 0, slots := 0, locals := 0 } : Room) s m #[(.ref q1)] below meth c s₁ [] 0 0 := Stand.of_body Bd
  have e0 : s₁.heap = h0 := by rw [← hh, Bd.state]; rfl
  have H := sg1c2_0 l hw Bd.exec hZ Bd.bytes hml0 hown hnm Bd.returns Bd.notSynchronized q1 kc_q1 w0_q1 w1_q1 Z0 X0 (Fr.nil n0) e0 A_q1 hw0 hw1
  obtain ⟨t, h1, h2, o, h3, h4⟩ := H
  exact ⟨t, o, castTop (ef_1c2 m q1) h1, h2, h3, h4⟩
def own_f1c3 (w0_q1 : Int64) (w1_q1 : Int64) (w2_q1 : Int64) : Int64 :=
  if w0_q1 < (((9223372036854775807 : Int64) / (1 : Int64)) - (1 : Int64)) then (if w1_q1 < (((9223372036854775807 : Int64) / ((1 : Int64) * (w0_q1 + (1 : Int64)))) - (1 : Int64)) then (if w2_q1 < (((9223372036854775807 : Int64) / (((1 : Int64) * (w0_q1 + (1 : Int64))) * (w1_q1 + (1 : Int64)))) - (1 : Int64)) then ((((1 : Int64) * (w0_q1 + (1 : Int64))) * (w1_q1 + (1 : Int64))) * (w2_q1 + (1 : Int64))) else
    (9223372036854775807 : Int64)) else
    (9223372036854775807 : Int64)) else
  (9223372036854775807 : Int64)
set_option maxRecDepth 65536 in
set_option maxHeartbeats 40000000 in
theorem sg1c3_0 {p : Program} (l : Launch) {e : Env} {s : State} {m : MethodId} {args : Array Value} {below : List Frame} {meth : Method} {c : Code} {Z : State} {a0 : Array Value} (hw : ∀ d ∈ tables_1, d.before a0 Z = true) (hx : p.tables.exec = Jvm.exec) (hZ : Z.Warmed39 s.vm) (hby : c.code = prog_42_method_2_code) (hml : c.maxLocals = 8) (hown : s.vm.findClass "com/example/optiview/optiview/subset/ProfitTable" = some m.cls) (hnm : meth.name = "cells") (hret : meth.sig.returnType = (some .long)) (hlk : meth.locks = false) (q1 : Addr) (kc_q1 : ClassId) (w0_q1 : Int64) (w1_q1 : Int64) (w2_q1 : Int64) {h0 : Heap} {n0 : Nat} (Z0 : n0 ≤ h0.size) {T0 : State} {L0 : List Loc} (X0 : Stand p l e ({ frames := 0, cells := 0, slots := 0, locals := 0 } : Room) s m args below meth c T0 L0 0 0) (N0 : Fr n0 L0) (e0 : T0.heap = h0) (A_q1 : Arv Z h0 q1 kc_q1 .long (3 : Int32) [(.long w0_q1), (.long w1_q1), (.long w2_q1)] (.long (0 : Int64))) (hw0 : ¬ (w0_q1 < (0 : Int64))) (hw1 : ¬ (w1_q1 < (0 : Int64))) (hw2 : ¬ (w2_q1 < (0 : Int64))) :
    own_Fin p.tables e below (own_End below s (own_P h0 n0 (some (.long (own_f1c3 w0_q1 w1_q1 w2_q1)))) 0 0) T0 (mkF m 0 #[.val (.ref q1), .unset, .unset, .unset, .unset, .unset, .unset, .unset] []) := by
  refine own_lconst X0 hx (hb hby d1_0) (pc' := 1) rfl (v := (1 : Int64)) rfl ?_
  refine own_lstoreN X0 hx (hb hby d1_1) (pc' := 2) rfl (Ls' := #[.val (.ref q1), .val (.long (1 : Int64)), .second, .unset, .unset, .unset, .unset, .unset]) rfl ?_
  refine own_aloadN X0 hx (hb hby d1_2) (pc' := 3) rfl rfl rfl ?_
  refine own_astoreN X0 hx (hb hby d1_3) (pc' := 4) rfl (Ls' := #[.val (.ref q1), .val (.long (1 : Int64)), .second, .val (.ref q1), .unset, .unset, .unset, .unset]) rfl rfl ?_
  refine own_aloadN X0 hx (hb hby d1_4) (pc' := 5) rfl rfl rfl ?_
  obtain ⟨cl10, Ar10, qa10, S10, M10, H10, G10⟩ := id A_q1
  refine own_st ?_ (fun t k => X0.arraylength hx (by rw [e0]; exact Ar10.1) (State.isArrayOf_alike hZ.alike Ar10.2.1) (g := (mkF m 5 #[.val (.ref q1), .val (.long (1 : Int64)), .second, .val (.ref q1), .unset, .unset, .unset, .unset] [(.ref q1)])) rfl rfl (hb hby d1_5) t k)
  rw [len_of S10 M10]
  show own_Fin _ _ _ _ T0 (mkF m 6 #[.val (.ref q1), .val (.long (1 : Int64)), .second, .val (.ref q1), .unset, .unset, .unset, .unset] [(.int (3 : Int32))])
  refine own_istore X0 hx (hb hby d1_6) (pc' := 8) rfl (Ls' := #[.val (.ref q1), .val (.long (1 : Int64)), .second, .val (.ref q1), .val (.int (3 : Int32)), .unset, .unset, .unset]) rfl ?_
  refine own_iconst X0 hx (hb hby d1_8) (pc' := 9) rfl (v := (0 : Int32)) rfl ?_
  refine own_istore X0 hx (hb hby d1_9) (pc' := 11) rfl (Ls' := #[.val (.ref q1), .val (.long (1 : Int64)), .second, .val (.ref q1), .val (.int (3 : Int32)), .val (.int (0 : Int32)), .unset, .unset]) rfl ?_
  refine own_iload X0 hx (hb hby d1_11) (pc' := 13) rfl rfl ?_
  refine own_iload X0 hx (hb hby d1_13) (pc' := 15) rfl rfl ?_
  refine own_icmpNo X0 hx (hb hby d1_15) (pc' := 18) rfl (tlt (by decide : (0 : Int32) < (3 : Int32))).2.1 ?_
  refine own_aloadN X0 hx (hb hby d1_18) (pc' := 19) rfl rfl rfl ?_
  refine own_iload X0 hx (hb hby d1_19) (pc' := 21) rfl rfl ?_
  obtain ⟨cl11, Ar11, qa11, S11, M11, H11, G11⟩ := id A_q1
  have hin11 : ¬ ((0 : Int32) < 0 ∨ cl11.slots.size ≤ ((0 : Int32)).toNatClampNeg) := inb_of S11 ⟨by decide, by decide⟩
  refine own_st ?_ (fun t k => X0.laload hx (j := (0 : Int32)) (v := (.long w0_q1)) (by rw [e0]; exact Ar11.1) (State.isArrayOf_alike hZ.alike Ar11.2.1) Ar11.2.2 hin11 (Has.at H11 hin11 rfl) (g := (mkF m 21 #[.val (.ref q1), .val (.long (1 : Int64)), .second, .val (.ref q1), .val (.int (3 : Int32)), .val (.int (0 : Int32)), .unset, .unset] [(.int (0 : Int32)), (.ref q1)])) rfl rfl (hb hby d1_21) t k)
  show own_Fin _ _ _ _ T0 (mkF m 22 #[.val (.ref q1), .val (.long (1 : Int64)), .second, .val (.ref q1), .val (.int (3 : Int32)), .val (.int (0 : Int32)), .unset, .unset] [(.long w0_q1)])
  refine own_lstore X0 hx (hb hby d1_22) (pc' := 24) rfl (Ls' := #[.val (.ref q1), .val (.long (1 : Int64)), .second, .val (.ref q1), .val (.int (3 : Int32)), .val (.int (0 : Int32)), .val (.long w0_q1), .second]) rfl ?_
  refine own_lload X0 hx (hb hby d1_24) (pc' := 26) rfl rfl ?_
  refine own_ldc2Long X0 hx hZ hown (hw _ (List.mem_of_getElem? (i := 11) rfl)) (hb hby d1_26) (pc' := 29) rfl ?_
  refine own_lloadN X0 hx (hb hby d1_29) (pc' := 30) rfl rfl ?_
  refine own_ldiv X0 hx (hb hby d1_30) (pc' := 31) rfl (by decide) ?_
  refine own_lconst X0 hx (hb hby d1_31) (pc' := 32) rfl (v := (1 : Int64)) rfl ?_
  refine own_lsub X0 hx (hb hby d1_32) (pc' := 33) rfl ?_
  refine own_lcmp X0 hx (hb hby d1_33) (pc' := 34) rfl ?_
  by_cases hc12 : w0_q1 < (((9223372036854775807 : Int64) / (1 : Int64)) - (1 : Int64))
  · refine own_ifYes X0 hx (hb hby d1_34) ((if0 _ _).trans (tlt (own_lc_lt.mpr hc12)).1) (pc' := 41) (by decide) (by decide) ?_
    refine own_lloadN X0 hx (hb hby d1_41) (pc' := 42) rfl rfl ?_
    refine own_lload X0 hx (hb hby d1_42) (pc' := 44) rfl rfl ?_
    refine own_lconst X0 hx (hb hby d1_44) (pc' := 45) rfl (v := (1 : Int64)) rfl ?_
    refine own_ladd X0 hx (hb hby d1_45) (pc' := 46) rfl ?_
    refine own_lmul X0 hx (hb hby d1_46) (pc' := 47) rfl ?_
    refine own_lstoreN X0 hx (hb hby d1_47) (pc' := 48) rfl (Ls' := #[.val (.ref q1), .val (.long ((1 : Int64) * (w0_q1 + (1 : Int64)))), .second, .val (.ref q1), .val (.int (3 : Int32)), .val (.int (0 : Int32)), .val (.long w0_q1), .second]) rfl ?_
    refine own_iinc X0 hx (hb hby d1_48) (pc' := 51) rfl (Ls' := #[.val (.ref q1), .val (.long ((1 : Int64) * (w0_q1 + (1 : Int64)))), .second, .val (.ref q1), .val (.int (3 : Int32)), .val (.int (1 : Int32)), .val (.long w0_q1), .second]) rfl rfl ?_
    refine own_goto X0 hx (hb hby d1_51) (pc' := 11) (by decide) (by decide) ?_
    refine own_iload X0 hx (hb hby d1_11) (pc' := 13) rfl rfl ?_
    refine own_iload X0 hx (hb hby d1_13) (pc' := 15) rfl rfl ?_
    refine own_icmpNo X0 hx (hb hby d1_15) (pc' := 18) rfl (tlt (by decide : (1 : Int32) < (3 : Int32))).2.1 ?_
    refine own_aloadN X0 hx (hb hby d1_18) (pc' := 19) rfl rfl rfl ?_
    refine own_iload X0 hx (hb hby d1_19) (pc' := 21) rfl rfl ?_
    obtain ⟨cl13, Ar13, qa13, S13, M13, H13, G13⟩ := id A_q1
    have hin13 : ¬ ((1 : Int32) < 0 ∨ cl13.slots.size ≤ ((1 : Int32)).toNatClampNeg) := inb_of S13 ⟨by decide, by decide⟩
    refine own_st ?_ (fun t k => X0.laload hx (j := (1 : Int32)) (v := (.long w1_q1)) (by rw [e0]; exact Ar13.1) (State.isArrayOf_alike hZ.alike Ar13.2.1) Ar13.2.2 hin13 (Has.at H13 hin13 rfl) (g := (mkF m 21 #[.val (.ref q1), .val (.long ((1 : Int64) * (w0_q1 + (1 : Int64)))), .second, .val (.ref q1), .val (.int (3 : Int32)), .val (.int (1 : Int32)), .val (.long w0_q1), .second] [(.int (1 : Int32)), (.ref q1)])) rfl rfl (hb hby d1_21) t k)
    show own_Fin _ _ _ _ T0 (mkF m 22 #[.val (.ref q1), .val (.long ((1 : Int64) * (w0_q1 + (1 : Int64)))), .second, .val (.ref q1), .val (.int (3 : Int32)), .val (.int (1 : Int32)), .val (.long w0_q1), .second] [(.long w1_q1)])
    refine own_lstore X0 hx (hb hby d1_22) (pc' := 24) rfl (Ls' := #[.val (.ref q1), .val (.long ((1 : Int64) * (w0_q1 + (1 : Int64)))), .second, .val (.ref q1), .val (.int (3 : Int32)), .val (.int (1 : Int32)), .val (.long w1_q1), .second]) rfl ?_
    refine own_lload X0 hx (hb hby d1_24) (pc' := 26) rfl rfl ?_
    refine own_ldc2Long X0 hx hZ hown (hw _ (List.mem_of_getElem? (i := 11) rfl)) (hb hby d1_26) (pc' := 29) rfl ?_
    refine own_lloadN X0 hx (hb hby d1_29) (pc' := 30) rfl rfl ?_
    refine own_ldiv X0 hx (hb hby d1_30) (pc' := 31) rfl (own_nz (own_pos (by decide) hw0 hc12)) ?_
    refine own_lconst X0 hx (hb hby d1_31) (pc' := 32) rfl (v := (1 : Int64)) rfl ?_
    refine own_lsub X0 hx (hb hby d1_32) (pc' := 33) rfl ?_
    refine own_lcmp X0 hx (hb hby d1_33) (pc' := 34) rfl ?_
    by_cases hc14 : w1_q1 < (((9223372036854775807 : Int64) / ((1 : Int64) * (w0_q1 + (1 : Int64)))) - (1 : Int64))
    · refine own_ifYes X0 hx (hb hby d1_34) ((if0 _ _).trans (tlt (own_lc_lt.mpr hc14)).1) (pc' := 41) (by decide) (by decide) ?_
      refine own_lloadN X0 hx (hb hby d1_41) (pc' := 42) rfl rfl ?_
      refine own_lload X0 hx (hb hby d1_42) (pc' := 44) rfl rfl ?_
      refine own_lconst X0 hx (hb hby d1_44) (pc' := 45) rfl (v := (1 : Int64)) rfl ?_
      refine own_ladd X0 hx (hb hby d1_45) (pc' := 46) rfl ?_
      refine own_lmul X0 hx (hb hby d1_46) (pc' := 47) rfl ?_
      refine own_lstoreN X0 hx (hb hby d1_47) (pc' := 48) rfl (Ls' := #[.val (.ref q1), .val (.long (((1 : Int64) * (w0_q1 + (1 : Int64))) * (w1_q1 + (1 : Int64)))), .second, .val (.ref q1), .val (.int (3 : Int32)), .val (.int (1 : Int32)), .val (.long w1_q1), .second]) rfl ?_
      refine own_iinc X0 hx (hb hby d1_48) (pc' := 51) rfl (Ls' := #[.val (.ref q1), .val (.long (((1 : Int64) * (w0_q1 + (1 : Int64))) * (w1_q1 + (1 : Int64)))), .second, .val (.ref q1), .val (.int (3 : Int32)), .val (.int (2 : Int32)), .val (.long w1_q1), .second]) rfl rfl ?_
      refine own_goto X0 hx (hb hby d1_51) (pc' := 11) (by decide) (by decide) ?_
      refine own_iload X0 hx (hb hby d1_11) (pc' := 13) rfl rfl ?_
      refine own_iload X0 hx (hb hby d1_13) (pc' := 15) rfl rfl ?_
      refine own_icmpNo X0 hx (hb hby d1_15) (pc' := 18) rfl (tlt (by decide : (2 : Int32) < (3 : Int32))).2.1 ?_
      refine own_aloadN X0 hx (hb hby d1_18) (pc' := 19) rfl rfl rfl ?_
      refine own_iload X0 hx (hb hby d1_19) (pc' := 21) rfl rfl ?_
      obtain ⟨cl15, Ar15, qa15, S15, M15, H15, G15⟩ := id A_q1
      have hin15 : ¬ ((2 : Int32) < 0 ∨ cl15.slots.size ≤ ((2 : Int32)).toNatClampNeg) := inb_of S15 ⟨by decide, by decide⟩
      refine own_st ?_ (fun t k => X0.laload hx (j := (2 : Int32)) (v := (.long w2_q1)) (by rw [e0]; exact Ar15.1) (State.isArrayOf_alike hZ.alike Ar15.2.1) Ar15.2.2 hin15 (Has.at H15 hin15 rfl) (g := (mkF m 21 #[.val (.ref q1), .val (.long (((1 : Int64) * (w0_q1 + (1 : Int64))) * (w1_q1 + (1 : Int64)))), .second, .val (.ref q1), .val (.int (3 : Int32)), .val (.int (2 : Int32)), .val (.long w1_q1), .second] [(.int (2 : Int32)), (.ref q1)])) rfl rfl (hb hby d1_21) t k)
      show own_Fin _ _ _ _ T0 (mkF m 22 #[.val (.ref q1), .val (.long (((1 : Int64) * (w0_q1 + (1 : Int64))) * (w1_q1 + (1 : Int64)))), .second, .val (.ref q1), .val (.int (3 : Int32)), .val (.int (2 : Int32)), .val (.long w1_q1), .second] [(.long w2_q1)])
      refine own_lstore X0 hx (hb hby d1_22) (pc' := 24) rfl (Ls' := #[.val (.ref q1), .val (.long (((1 : Int64) * (w0_q1 + (1 : Int64))) * (w1_q1 + (1 : Int64)))), .second, .val (.ref q1), .val (.int (3 : Int32)), .val (.int (2 : Int32)), .val (.long w2_q1), .second]) rfl ?_
      refine own_lload X0 hx (hb hby d1_24) (pc' := 26) rfl rfl ?_
      refine own_ldc2Long X0 hx hZ hown (hw _ (List.mem_of_getElem? (i := 11) rfl)) (hb hby d1_26) (pc' := 29) rfl ?_
      refine own_lloadN X0 hx (hb hby d1_29) (pc' := 30) rfl rfl ?_
      refine own_ldiv X0 hx (hb hby d1_30) (pc' := 31) rfl (own_nz (own_pos (own_pos (by decide) hw0 hc12) hw1 hc14)) ?_
      refine own_lconst X0 hx (hb hby d1_31) (pc' := 32) rfl (v := (1 : Int64)) rfl ?_
      refine own_lsub X0 hx (hb hby d1_32) (pc' := 33) rfl ?_
      refine own_lcmp X0 hx (hb hby d1_33) (pc' := 34) rfl ?_
      by_cases hc16 : w2_q1 < (((9223372036854775807 : Int64) / (((1 : Int64) * (w0_q1 + (1 : Int64))) * (w1_q1 + (1 : Int64)))) - (1 : Int64))
      · refine own_ifYes X0 hx (hb hby d1_34) ((if0 _ _).trans (tlt (own_lc_lt.mpr hc16)).1) (pc' := 41) (by decide) (by decide) ?_
        refine own_lloadN X0 hx (hb hby d1_41) (pc' := 42) rfl rfl ?_
        refine own_lload X0 hx (hb hby d1_42) (pc' := 44) rfl rfl ?_
        refine own_lconst X0 hx (hb hby d1_44) (pc' := 45) rfl (v := (1 : Int64)) rfl ?_
        refine own_ladd X0 hx (hb hby d1_45) (pc' := 46) rfl ?_
        refine own_lmul X0 hx (hb hby d1_46) (pc' := 47) rfl ?_
        refine own_lstoreN X0 hx (hb hby d1_47) (pc' := 48) rfl (Ls' := #[.val (.ref q1), .val (.long ((((1 : Int64) * (w0_q1 + (1 : Int64))) * (w1_q1 + (1 : Int64))) * (w2_q1 + (1 : Int64)))), .second, .val (.ref q1), .val (.int (3 : Int32)), .val (.int (2 : Int32)), .val (.long w2_q1), .second]) rfl ?_
        refine own_iinc X0 hx (hb hby d1_48) (pc' := 51) rfl (Ls' := #[.val (.ref q1), .val (.long ((((1 : Int64) * (w0_q1 + (1 : Int64))) * (w1_q1 + (1 : Int64))) * (w2_q1 + (1 : Int64)))), .second, .val (.ref q1), .val (.int (3 : Int32)), .val (.int (3 : Int32)), .val (.long w2_q1), .second]) rfl rfl ?_
        refine own_goto X0 hx (hb hby d1_51) (pc' := 11) (by decide) (by decide) ?_
        refine own_iload X0 hx (hb hby d1_11) (pc' := 13) rfl rfl ?_
        refine own_iload X0 hx (hb hby d1_13) (pc' := 15) rfl rfl ?_
        refine own_icmpYes X0 hx (hb hby d1_15) (flt (by decide : ¬ ((3 : Int32) < (3 : Int32)))).2.1 (pc' := 54) (by decide) (by decide) ?_
        refine own_lloadN X0 hx (hb hby d1_54) (pc' := 55) rfl rfl ?_
        refine own_retJ X0 hx hret hlk (hb hby d1_55) (by decide) (by decide) ?_
        show own_P _ _ _ _ T0.heap _
        exact ⟨(congrArg some (congrArg Value.long (show ((((1 : Int64) * (w0_q1 + (1 : Int64))) * (w1_q1 + (1 : Int64))) * (w2_q1 + (1 : Int64))) = (own_f1c3 w0_q1 w1_q1 w2_q1) from by rw [own_f1c3, if_pos hc12, if_pos hc14, if_pos hc16]))), N0, e0⟩
      · refine own_ifNo X0 hx (hb hby d1_34) (pc' := 37) rfl ((if0 _ _).trans (flt (mt own_lc_lt.mp hc16)).1) ?_
        refine own_ldc2Long X0 hx hZ hown (hw _ (List.mem_of_getElem? (i := 11) rfl)) (hb hby d1_37) (pc' := 40) rfl ?_
        refine own_retJ X0 hx hret hlk (hb hby d1_40) (by decide) (by decide) ?_
        show own_P _ _ _ _ T0.heap _
        exact ⟨(congrArg some (congrArg Value.long (show (9223372036854775807 : Int64) = (own_f1c3 w0_q1 w1_q1 w2_q1) from by rw [own_f1c3, if_pos hc12, if_pos hc14, if_neg hc16]))), N0, e0⟩
    · refine own_ifNo X0 hx (hb hby d1_34) (pc' := 37) rfl ((if0 _ _).trans (flt (mt own_lc_lt.mp hc14)).1) ?_
      refine own_ldc2Long X0 hx hZ hown (hw _ (List.mem_of_getElem? (i := 11) rfl)) (hb hby d1_37) (pc' := 40) rfl ?_
      refine own_retJ X0 hx hret hlk (hb hby d1_40) (by decide) (by decide) ?_
      show own_P _ _ _ _ T0.heap _
      exact ⟨(congrArg some (congrArg Value.long (show (9223372036854775807 : Int64) = (own_f1c3 w0_q1 w1_q1 w2_q1) from by rw [own_f1c3, if_pos hc12, if_neg hc14]))), N0, e0⟩
  · refine own_ifNo X0 hx (hb hby d1_34) (pc' := 37) rfl ((if0 _ _).trans (flt (mt own_lc_lt.mp hc12)).1) ?_
    refine own_ldc2Long X0 hx hZ hown (hw _ (List.mem_of_getElem? (i := 11) rfl)) (hb hby d1_37) (pc' := 40) rfl ?_
    refine own_retJ X0 hx hret hlk (hb hby d1_40) (by decide) (by decide) ?_
    show own_P _ _ _ _ T0.heap _
    exact ⟨(congrArg some (congrArg Value.long (show (9223372036854775807 : Int64) = (own_f1c3 w0_q1 w1_q1 w2_q1) from by rw [own_f1c3, if_neg hc12]))), N0, e0⟩
theorem ef_1c3 (m : MethodId) (q1 : Addr) : entryFrame m #[(.ref q1)] 8 = mkF m 0 #[.val (.ref q1), .unset, .unset, .unset, .unset, .unset, .unset, .unset] [] := by first | (simp [entryFrame, mkF, argsToLocals, Value.category]; done) | rfl
set_option maxRecDepth 65536 in
set_option maxHeartbeats 40000000 in
theorem rm1c3 (l : Launch) (Z : State) (a0 : Array Value) (hw : ∀ d ∈ tables_1, d.before a0 Z = true) (ws : List Jvm.Cond) (q1 : Addr) (kc_q1 : ClassId) (w0_q1 : Int64) (w1_q1 : Int64) (w2_q1 : Int64) (h0 : Heap) (n0 : Nat) (Z0 : n0 ≤ h0.size) (A_q1 : Arv Z h0 q1 kc_q1 .long (3 : Int32) [(.long w0_q1), (.long w1_q1), (.long w2_q1)] (.long (0 : Int64))) (hw0 : ¬ (w0_q1 < (0 : Int64))) (hw1 : ¬ (w1_q1 < (0 : Int64))) (hw2 : ¬ (w2_q1 < (0 : Int64))) :
    MetFree l (⟨"com/example/optiview/optiview/subset/ProfitTable", "cells", "([J)J"⟩ : MethodName) (head1 (Jvm.Cond.code (⟨"com/example/optiview/optiview/subset/ProfitTable", "cells", "([J)J"⟩ : MethodName) prog_42_method_2_code 8 (some .long) :: ws) ({ frames := 0, cells := 0, slots := 0, locals := 0 } : Room)) (fun a U => a = #[(.ref q1)] ∧ Z.Warmed39 U.vm ∧ U.heap = h0) (fun _ _ _ _ _ => True) (fun _ U o U' => ∃ v L, o = .returned v ∧ (own_P h0 n0 (some (.long (own_f1c3 w0_q1 w1_q1 w2_q1)))) v U'.heap L ∧ FrameEnd U o U' L ({ frames := 0, cells := 0, slots := 0, locals := 0 } : Room).cells ({ frames := 0, cells := 0, slots := 0, locals := 0 } : Room).slots) := by
  refine MetFree.of_bodySF (plainFor_of_name pn_1) hisR ?_
  intro p e s m args below meth c s₁ Bd hml0 hP hK
  obtain ⟨rfl, hZ, hh⟩ := hP
  have hown : s.vm.findClass "com/example/optiview/optiview/subset/ProfitTable" = some m.cls := findClass_of_methodNamed Bd.named
  have hnm := (name_of_methodNamed Bd.named Bd.method).1
  have X0 : Stand p l e ({ frames := 0, cells := 0, slots := 0, locals := 0 } : Room) s m #[(.ref q1)] below meth c s₁ [] 0 0 := Stand.of_body Bd
  have e0 : s₁.heap = h0 := by rw [← hh, Bd.state]; rfl
  have H := sg1c3_0 l hw Bd.exec hZ Bd.bytes hml0 hown hnm Bd.returns Bd.notSynchronized q1 kc_q1 w0_q1 w1_q1 w2_q1 Z0 X0 (Fr.nil n0) e0 A_q1 hw0 hw1 hw2
  obtain ⟨t, h1, h2, o, h3, h4⟩ := H
  exact ⟨t, o, castTop (ef_1c3 m q1) h1, h2, h3, h4⟩
theorem d2_0 : decode method_2_code 0 = .ok (.lload_n 2, 1) := by decide +kernel
theorem d2_1 : decode method_2_code 1 = .ok (.ldc2_w 9, 3) := by decide +kernel
theorem d2_4 : decode method_2_code 4 = .ok (.lcmp, 1) := by decide +kernel
theorem d2_5 : decode method_2_code 5 = .ok (.ifCond .ne 7, 3) := by decide +kernel
theorem d2_8 : decode method_2_code 8 = .ok (.ldc2_w 9, 3) := by decide +kernel
theorem d2_11 : decode method_2_code 11 = .ok (.lreturn, 1) := by decide +kernel
theorem d2_12 : decode method_2_code 12 = .ok (.lload_n 2, 1) := by decide +kernel
theorem d2_13 : decode method_2_code 13 = .ok (.lconst 1, 1) := by decide +kernel
theorem d2_14 : decode method_2_code 14 = .ok (.ladd, 1) := by decide +kernel
theorem d2_15 : decode method_2_code 15 = .ok (.lstore 4, 2) := by decide +kernel
theorem d2_17 : decode method_2_code 17 = .ok (.lload_n 0, 1) := by decide +kernel
theorem d2_18 : decode method_2_code 18 = .ok (.ldc2_w 9, 3) := by decide +kernel
theorem d2_21 : decode method_2_code 21 = .ok (.lload 4, 2) := by decide +kernel
theorem d2_23 : decode method_2_code 23 = .ok (.ldiv, 1) := by decide +kernel
theorem d2_24 : decode method_2_code 24 = .ok (.lcmp, 1) := by decide +kernel
theorem d2_25 : decode method_2_code 25 = .ok (.ifCond .le 7, 3) := by decide +kernel
theorem d2_28 : decode method_2_code 28 = .ok (.ldc2_w 9, 3) := by decide +kernel
theorem d2_31 : decode method_2_code 31 = .ok (.lreturn, 1) := by decide +kernel
theorem d2_32 : decode method_2_code 32 = .ok (.lload_n 0, 1) := by decide +kernel
theorem d2_33 : decode method_2_code 33 = .ok (.lload 4, 2) := by decide +kernel
theorem d2_35 : decode method_2_code 35 = .ok (.lmul, 1) := by decide +kernel
theorem d2_36 : decode method_2_code 36 = .ok (.lreturn, 1) := by decide +kernel
theorem pn_2 : plainName "com/example/optiview/optiview/subset/ProfitTableCellsPinLaw" = true := by first | (simp [plainName, overriddenIn]; done) | decide +kernel
def own_f2 (q1 : Int64) (q2 : Int64) : Int64 :=
  if q2 = (9223372036854775807 : Int64) then (9223372036854775807 : Int64) else
  if ((9223372036854775807 : Int64) / (q2 + (1 : Int64))) < q1 then (9223372036854775807 : Int64) else
  (q1 * (q2 + (1 : Int64)))
set_option maxRecDepth 65536 in
set_option maxHeartbeats 40000000 in
theorem sg2_0 {p : Program} (l : Launch) {e : Env} {s : State} {m : MethodId} {args : Array Value} {below : List Frame} {meth : Method} {c : Code} {Z : State} {a0 : Array Value} (hw : ∀ d ∈ tables_1, d.before a0 Z = true) (hx : p.tables.exec = Jvm.exec) (hZ : Z.Warmed39 s.vm) (hby : c.code = method_2_code) (hml : c.maxLocals = 6) (hown : s.vm.findClass "com/example/optiview/optiview/subset/ProfitTableCellsPinLaw" = some m.cls) (hnm : meth.name = "sat") (hret : meth.sig.returnType = (some .long)) (hlk : meth.locks = false) (q1 : Int64) (q2 : Int64) {h0 : Heap} {n0 : Nat} (Z0 : n0 ≤ h0.size) {T0 : State} {L0 : List Loc} (X0 : Stand p l e ({ frames := 0, cells := 0, slots := 0, locals := 0 } : Room) s m args below meth c T0 L0 0 0) (N0 : Fr n0 L0) (e0 : T0.heap = h0) (hq2 : ¬ (q2 < (0 : Int64))) :
    own_Fin p.tables e below (own_End below s (own_P h0 n0 (some (.long (own_f2 q1 q2)))) 0 0) T0 (mkF m 0 #[.val (.long q1), .second, .val (.long q2), .second, .unset, .unset] []) := by
  refine own_lloadN X0 hx (hb hby d2_0) (pc' := 1) rfl rfl ?_
  refine own_ldc2Long X0 hx hZ hown (hw _ (List.mem_of_getElem? (i := 0) rfl)) (hb hby d2_1) (pc' := 4) rfl ?_
  refine own_lcmp X0 hx (hb hby d2_4) (pc' := 5) rfl ?_
  by_cases hc17 : q2 = (9223372036854775807 : Int64)
  · refine own_ifNo X0 hx (hb hby d2_5) (pc' := 8) rfl ((if0 _ _).trans (teq (own_lc_eq.mpr hc17)).2) ?_
    refine own_ldc2Long X0 hx hZ hown (hw _ (List.mem_of_getElem? (i := 0) rfl)) (hb hby d2_8) (pc' := 11) rfl ?_
    refine own_retJ X0 hx hret hlk (hb hby d2_11) (by decide) (by decide) ?_
    show own_P _ _ _ _ T0.heap _
    exact ⟨(congrArg some (congrArg Value.long (show (9223372036854775807 : Int64) = (own_f2 q1 q2) from by rw [own_f2, if_pos hc17]))), N0, e0⟩
  · refine own_ifYes X0 hx (hb hby d2_5) ((if0 _ _).trans (feq (mt own_lc_eq.mp hc17)).2) (pc' := 12) (by decide) (by decide) ?_
    refine own_lloadN X0 hx (hb hby d2_12) (pc' := 13) rfl rfl ?_
    refine own_lconst X0 hx (hb hby d2_13) (pc' := 14) rfl (v := (1 : Int64)) rfl ?_
    refine own_ladd X0 hx (hb hby d2_14) (pc' := 15) rfl ?_
    refine own_lstore X0 hx (hb hby d2_15) (pc' := 17) rfl (Ls' := #[.val (.long q1), .second, .val (.long q2), .second, .val (.long (q2 + (1 : Int64))), .second]) rfl ?_
    refine own_lloadN X0 hx (hb hby d2_17) (pc' := 18) rfl rfl ?_
    refine own_ldc2Long X0 hx hZ hown (hw _ (List.mem_of_getElem? (i := 0) rfl)) (hb hby d2_18) (pc' := 21) rfl ?_
    refine own_lload X0 hx (hb hby d2_21) (pc' := 23) rfl rfl ?_
    refine own_ldiv X0 hx (hb hby d2_23) (pc' := 24) rfl (own_nz1 hq2 hc17) ?_
    refine own_lcmp X0 hx (hb hby d2_24) (pc' := 25) rfl ?_
    by_cases hc18 : ((9223372036854775807 : Int64) / (q2 + (1 : Int64))) < q1
    · refine own_ifNo X0 hx (hb hby d2_25) (pc' := 28) rfl ((if0 _ _).trans (tlt (own_lc_gt.mpr hc18)).2.2.2) ?_
      refine own_ldc2Long X0 hx hZ hown (hw _ (List.mem_of_getElem? (i := 0) rfl)) (hb hby d2_28) (pc' := 31) rfl ?_
      refine own_retJ X0 hx hret hlk (hb hby d2_31) (by decide) (by decide) ?_
      show own_P _ _ _ _ T0.heap _
      exact ⟨(congrArg some (congrArg Value.long (show (9223372036854775807 : Int64) = (own_f2 q1 q2) from by rw [own_f2, if_neg hc17, if_pos hc18]))), N0, e0⟩
    · refine own_ifYes X0 hx (hb hby d2_25) ((if0 _ _).trans (flt (mt own_lc_gt.mp hc18)).2.2.2) (pc' := 32) (by decide) (by decide) ?_
      refine own_lloadN X0 hx (hb hby d2_32) (pc' := 33) rfl rfl ?_
      refine own_lload X0 hx (hb hby d2_33) (pc' := 35) rfl rfl ?_
      refine own_lmul X0 hx (hb hby d2_35) (pc' := 36) rfl ?_
      refine own_retJ X0 hx hret hlk (hb hby d2_36) (by decide) (by decide) ?_
      show own_P _ _ _ _ T0.heap _
      exact ⟨(congrArg some (congrArg Value.long (show (q1 * (q2 + (1 : Int64))) = (own_f2 q1 q2) from by rw [own_f2, if_neg hc17, if_neg hc18]))), N0, e0⟩
theorem ef_2 (m : MethodId) (q1 : Int64) (q2 : Int64) : entryFrame m #[(.long q1), (.long q2)] 6 = mkF m 0 #[.val (.long q1), .second, .val (.long q2), .second, .unset, .unset] [] := by first | (simp [entryFrame, mkF, argsToLocals, Value.category]; done) | rfl
set_option maxRecDepth 65536 in
set_option maxHeartbeats 40000000 in
theorem rm2 (l : Launch) (Z : State) (a0 : Array Value) (hw : ∀ d ∈ tables_1, d.before a0 Z = true) (ws : List Jvm.Cond) (q1 : Int64) (q2 : Int64) (h0 : Heap) (n0 : Nat) (Z0 : n0 ≤ h0.size) (hq2 : ¬ (q2 < (0 : Int64))) :
    MetFree l (⟨"com/example/optiview/optiview/subset/ProfitTableCellsPinLaw", "sat", "(JJ)J"⟩ : MethodName) (head1 (Jvm.Cond.code (⟨"com/example/optiview/optiview/subset/ProfitTableCellsPinLaw", "sat", "(JJ)J"⟩ : MethodName) method_2_code 6 (some .long) :: ws) ({ frames := 0, cells := 0, slots := 0, locals := 0 } : Room)) (fun a U => a = #[(.long q1), (.long q2)] ∧ Z.Warmed39 U.vm ∧ U.heap = h0) (fun _ _ _ _ _ => True) (fun _ U o U' => ∃ v L, o = .returned v ∧ (own_P h0 n0 (some (.long (own_f2 q1 q2)))) v U'.heap L ∧ FrameEnd U o U' L ({ frames := 0, cells := 0, slots := 0, locals := 0 } : Room).cells ({ frames := 0, cells := 0, slots := 0, locals := 0 } : Room).slots) := by
  refine MetFree.of_bodySF (plainFor_of_name pn_2) hisR ?_
  intro p e s m args below meth c s₁ Bd hml0 hP hK
  obtain ⟨rfl, hZ, hh⟩ := hP
  have hown : s.vm.findClass "com/example/optiview/optiview/subset/ProfitTableCellsPinLaw" = some m.cls := findClass_of_methodNamed Bd.named
  have hnm := (name_of_methodNamed Bd.named Bd.method).1
  have X0 : Stand p l e ({ frames := 0, cells := 0, slots := 0, locals := 0 } : Room) s m #[(.long q1), (.long q2)] below meth c s₁ [] 0 0 := Stand.of_body Bd
  have e0 : s₁.heap = h0 := by rw [← hh, Bd.state]; rfl
  have H := sg2_0 l hw Bd.exec hZ Bd.bytes hml0 hown hnm Bd.returns Bd.notSynchronized q1 q2 Z0 X0 (Fr.nil n0) e0 hq2
  obtain ⟨t, h1, h2, o, h3, h4⟩ := H
  exact ⟨t, o, castTop (ef_2 m q1 q2) h1, h2, h3, h4⟩
theorem own_sh (k : Int32) : (k &&& 0x3f).toInt64.toUInt64.toNat < 64 := by
  have h : (k &&& (63 : Int32)).toInt = k.toInt % 64 := Jvm.Kit.i32_mask k _ (k := 6) (by decide) (by decide)
  have h1 : ((k &&& (63 : Int32)).toInt64).toInt = k.toInt % 64 := by rw [Int32.toInt_toInt64, h]
  have h2 : ((k &&& (63 : Int32)).toInt64).toBitVec.toInt = k.toInt % 64 := h1
  rw [BitVec.toInt_eq_toNat_cond] at h2
  show ((k &&& (63 : Int32)).toInt64).toBitVec.toNat < 64
  split at h2 <;> omega
theorem own_ushr (x : Int64) (k : Int32) : ¬ (own_ush64 (x &&& (9223372036854775807 : Int64)) k < (0 : Int64)) := by
  have h := own_m63 x
  have hx : 0 ≤ (x &&& (9223372036854775807 : Int64)) := by rw [Jvm.Kit.i64_nonneg]; omega
  rw [own_lt64]
  unfold own_ush64
  rw [Jvm.Kit.i64_lushr hx rfl (own_sh k), own_e0]
  have hp : (0 : Int) ≤ 2 ^ (k &&& 0x3f).toInt64.toUInt64.toNat := Int.le_of_lt (Int.pow_pos (by decide))
  exact Int.not_lt.mpr (Int.ediv_nonneg (Jvm.Kit.i64_nonneg.mp hx) hp)
theorem own_n3 (x : Int32) : (x &&& (3 : Int32)) = 0 ∨ (x &&& (3 : Int32)) = 1 ∨ (x &&& (3 : Int32)) = 2 ∨ (x &&& (3 : Int32)) = 3 := by
  have h : (x &&& (3 : Int32)).toInt = x.toInt % 4 := Jvm.Kit.i32_mask x _ (k := 2) (by decide) (by decide)
  have e0 : (0 : Int32).toInt = 0 := by decide
  have e1 : (1 : Int32).toInt = 1 := by decide
  have e2 : (2 : Int32).toInt = 2 := by decide
  have e3 : (3 : Int32).toInt = 3 := by decide
  simp only [own_eq32]; omega
theorem pn_0 : plainName "com/example/optiview/optiview/subset/ProfitTableCellsPinLaw" = true := by first | (simp [plainName, overriddenIn]; done) | decide +kernel
def own_f0_129 (v1 : Int32) (v2 : Int64) (v3 : Int64) (v4 : Int64) (v5 : Int32) (v6 : Int32) (v7 : Int64) (v8 : Int64) (v9 : Int64) (v11 : Int64) (v12 : Int64) : Int32 :=
  if v11 < (4611686018427387904 : Int64) then (if v12 = v11 then (1 : Int32) else
    (0 : Int32)) else
  if v11 = (9223372036854775807 : Int64) then (if v12 = (9223372036854775807 : Int64) then (1 : Int32) else
    (0 : Int32)) else
  if v12 = v11 then (1 : Int32) else
  if v12 = (9223372036854775807 : Int64) then (1 : Int32) else
  (0 : Int32)
def own_f0_51 (v1 : Int32) (v2 : Int64) (v3 : Int64) (v4 : Int64) (v5 : Int32) (v6 : Int32) (v7 : Int64) (v8 : Int64) (v9 : Int64) : Int32 :=
  if v6 = (0 : Int32) then (own_f0_129 v1 v2 v3 v4 v5 (0 : Int32) v7 v8 v9 (1 : Int64) (1 : Int64)) else
  if v6 = (1 : Int32) then (own_f0_129 v1 v2 v3 v4 v5 (1 : Int32) v7 v8 v9 (own_f2 (1 : Int64) v7) (own_f1c1 v7)) else
  if v6 = (2 : Int32) then (own_f0_129 v1 v2 v3 v4 v5 (2 : Int32) v7 v8 v9 (own_f2 (own_f2 (1 : Int64) v7) v8) (own_f1c2 v7 v8)) else
  (own_f0_129 v1 v2 v3 v4 v5 (3 : Int32) v7 v8 v9 (own_f2 (own_f2 (own_f2 (1 : Int64) v7) v8) v9) (own_f1c3 v7 v8 v9))
def own_f0 (q1 : Int32) (q2 : Int64) (q3 : Int64) (q4 : Int64) (q5 : Int32) : Int32 :=
  (own_f0_51 q1 q2 q3 q4 q5 (q1 &&& (3 : Int32)) (own_ush64 (q2 &&& (9223372036854775807 : Int64)) (q5 &&& (63 : Int32))) (own_ush64 (q3 &&& (9223372036854775807 : Int64)) ((own_ush32 q5 (6 : Int32)) &&& (63 : Int32))) (own_ush64 (q4 &&& (9223372036854775807 : Int64)) ((own_ush32 q5 (12 : Int32)) &&& (63 : Int32))))
set_option maxRecDepth 65536 in
set_option maxHeartbeats 40000000 in
theorem sg0_129 {p : Program} (l : Launch) {e : Env} {s : State} {m : MethodId} {args : Array Value} {below : List Frame} {meth : Method} {c : Code} {Z : State} {a0 : Array Value} (hw : ∀ d ∈ tables_1, d.before a0 Z = true) (hx : p.tables.exec = Jvm.exec) (hZ : Z.Warmed39 s.vm) (hby : c.code = code) (hml : c.maxLocals = 20) (hown : s.vm.findClass "com/example/optiview/optiview/subset/ProfitTableCellsPinLaw" = some m.cls) (hnm : meth.name = "law") (hret : meth.sig.returnType = (some .boolean)) (hlk : meth.locks = false) (v1 : Int32) (v2 : Int64) (v3 : Int64) (v4 : Int64) (v5 : Int32) (v6 : Int32) (v7 : Int64) (v8 : Int64) (v9 : Int64) (v10 : Addr) (v11 : Int64) (v12 : Int64) {h0 : Heap} {n0 : Nat} (Z0 : n0 ≤ h0.size) {T0 : State} {L0 : List Loc} {kc0 ks0 : Nat} (X0 : Stand p l e room_1 s m args below meth c T0 L0 kc0 ks0) (N0 : Fr n0 L0) (e0 : T0.heap = h0) (hkc : kc0 ≤ 1) (hks : ks0 ≤ 3) :
    own_Fin p.tables e below (own_End below s (own_L n0 (.int (own_f0_129 v1 v2 v3 v4 v5 v6 v7 v8 v9 v11 v12))) 1 3) T0 (mkF m 129 #[.val (.int v1), .val (.long v2), .second, .val (.long v3), .second, .val (.long v4), .second, .val (.int v5), .val (.int v6), .val (.long v7), .second, .val (.long v8), .second, .val (.long v9), .second, .val (.ref v10), .val (.long v11), .second, .val (.long v12), .second] []) := by
  refine own_lload X0 hx (hb hby at_129) (pc' := 131) rfl rfl ?_
  refine own_ldc2Long X0 hx hZ hown (hw _ (List.mem_of_getElem? (i := 6) rfl)) (hb hby at_131) (pc' := 134) rfl ?_
  refine own_lcmp X0 hx (hb hby at_134) (pc' := 135) rfl ?_
  by_cases hc43 : v11 < (4611686018427387904 : Int64)
  · refine own_ifNo X0 hx (hb hby at_135) (pc' := 138) rfl ((if0 _ _).trans (tlt (own_lc_lt.mpr hc43)).2.1) ?_
    refine own_lload X0 hx (hb hby at_138) (pc' := 140) rfl rfl ?_
    refine own_lload X0 hx (hb hby at_140) (pc' := 142) rfl rfl ?_
    refine own_lcmp X0 hx (hb hby at_142) (pc' := 143) rfl ?_
    by_cases hc44 : v12 = v11
    · refine own_ifNo X0 hx (hb hby at_143) (pc' := 146) rfl ((if0 _ _).trans (teq (own_lc_eq.mpr hc44)).2) ?_
      refine own_iconst X0 hx (hb hby at_146) (pc' := 147) rfl (v := (1 : Int32)) rfl ?_
      refine own_goto X0 hx (hb hby at_147) (pc' := 151) (by decide) (by decide) ?_
      refine own_retN X0 hx (t := .boolean) hret (by simp) hlk (hb hby at_151) hkc hks ?_
      exact ⟨(congrArg some (congrArg Value.int (show _ = (own_f0_129 v1 v2 v3 v4 v5 v6 v7 v8 v9 v11 v12) from by rw [own_f0_129, if_pos hc43, if_pos hc44]; rfl))), N0⟩
    · refine own_ifYes X0 hx (hb hby at_143) ((if0 _ _).trans (feq (mt own_lc_eq.mp hc44)).2) (pc' := 150) (by decide) (by decide) ?_
      refine own_iconst X0 hx (hb hby at_150) (pc' := 151) rfl (v := (0 : Int32)) rfl ?_
      refine own_retN X0 hx (t := .boolean) hret (by simp) hlk (hb hby at_151) hkc hks ?_
      exact ⟨(congrArg some (congrArg Value.int (show _ = (own_f0_129 v1 v2 v3 v4 v5 v6 v7 v8 v9 v11 v12) from by rw [own_f0_129, if_pos hc43, if_neg hc44]; rfl))), N0⟩
  · refine own_ifYes X0 hx (hb hby at_135) ((if0 _ _).trans (flt (mt own_lc_lt.mp hc43)).2.1) (pc' := 152) (by decide) (by decide) ?_
    refine own_lload X0 hx (hb hby at_152) (pc' := 154) rfl rfl ?_
    refine own_ldc2Long X0 hx hZ hown (hw _ (List.mem_of_getElem? (i := 0) rfl)) (hb hby at_154) (pc' := 157) rfl ?_
    refine own_lcmp X0 hx (hb hby at_157) (pc' := 158) rfl ?_
    by_cases hc45 : v11 = (9223372036854775807 : Int64)
    · refine own_ifNo X0 hx (hb hby at_158) (pc' := 161) rfl ((if0 _ _).trans (teq (own_lc_eq.mpr hc45)).2) ?_
      refine own_lload X0 hx (hb hby at_161) (pc' := 163) rfl rfl ?_
      refine own_ldc2Long X0 hx hZ hown (hw _ (List.mem_of_getElem? (i := 0) rfl)) (hb hby at_163) (pc' := 166) rfl ?_
      refine own_lcmp X0 hx (hb hby at_166) (pc' := 167) rfl ?_
      by_cases hc46 : v12 = (9223372036854775807 : Int64)
      · refine own_ifNo X0 hx (hb hby at_167) (pc' := 170) rfl ((if0 _ _).trans (teq (own_lc_eq.mpr hc46)).2) ?_
        refine own_iconst X0 hx (hb hby at_170) (pc' := 171) rfl (v := (1 : Int32)) rfl ?_
        refine own_goto X0 hx (hb hby at_171) (pc' := 175) (by decide) (by decide) ?_
        refine own_retN X0 hx (t := .boolean) hret (by simp) hlk (hb hby at_175) hkc hks ?_
        exact ⟨(congrArg some (congrArg Value.int (show _ = (own_f0_129 v1 v2 v3 v4 v5 v6 v7 v8 v9 v11 v12) from by rw [own_f0_129, if_neg hc43, if_pos hc45, if_pos hc46]; rfl))), N0⟩
      · refine own_ifYes X0 hx (hb hby at_167) ((if0 _ _).trans (feq (mt own_lc_eq.mp hc46)).2) (pc' := 174) (by decide) (by decide) ?_
        refine own_iconst X0 hx (hb hby at_174) (pc' := 175) rfl (v := (0 : Int32)) rfl ?_
        refine own_retN X0 hx (t := .boolean) hret (by simp) hlk (hb hby at_175) hkc hks ?_
        exact ⟨(congrArg some (congrArg Value.int (show _ = (own_f0_129 v1 v2 v3 v4 v5 v6 v7 v8 v9 v11 v12) from by rw [own_f0_129, if_neg hc43, if_pos hc45, if_neg hc46]; rfl))), N0⟩
    · refine own_ifYes X0 hx (hb hby at_158) ((if0 _ _).trans (feq (mt own_lc_eq.mp hc45)).2) (pc' := 176) (by decide) (by decide) ?_
      refine own_lload X0 hx (hb hby at_176) (pc' := 178) rfl rfl ?_
      refine own_lload X0 hx (hb hby at_178) (pc' := 180) rfl rfl ?_
      refine own_lcmp X0 hx (hb hby at_180) (pc' := 181) rfl ?_
      by_cases hc47 : v12 = v11
      · refine own_ifYes X0 hx (hb hby at_181) ((if0 _ _).trans (teq (own_lc_eq.mpr hc47)).1) (pc' := 193) (by decide) (by decide) ?_
        refine own_iconst X0 hx (hb hby at_193) (pc' := 194) rfl (v := (1 : Int32)) rfl ?_
        refine own_goto X0 hx (hb hby at_194) (pc' := 198) (by decide) (by decide) ?_
        refine own_retN X0 hx (t := .boolean) hret (by simp) hlk (hb hby at_198) hkc hks ?_
        exact ⟨(congrArg some (congrArg Value.int (show _ = (own_f0_129 v1 v2 v3 v4 v5 v6 v7 v8 v9 v11 v12) from by rw [own_f0_129, if_neg hc43, if_neg hc45, if_pos hc47]; rfl))), N0⟩
      · refine own_ifNo X0 hx (hb hby at_181) (pc' := 184) rfl ((if0 _ _).trans (feq (mt own_lc_eq.mp hc47)).1) ?_
        refine own_lload X0 hx (hb hby at_184) (pc' := 186) rfl rfl ?_
        refine own_ldc2Long X0 hx hZ hown (hw _ (List.mem_of_getElem? (i := 0) rfl)) (hb hby at_186) (pc' := 189) rfl ?_
        refine own_lcmp X0 hx (hb hby at_189) (pc' := 190) rfl ?_
        by_cases hc48 : v12 = (9223372036854775807 : Int64)
        · refine own_ifNo X0 hx (hb hby at_190) (pc' := 193) rfl ((if0 _ _).trans (teq (own_lc_eq.mpr hc48)).2) ?_
          refine own_iconst X0 hx (hb hby at_193) (pc' := 194) rfl (v := (1 : Int32)) rfl ?_
          refine own_goto X0 hx (hb hby at_194) (pc' := 198) (by decide) (by decide) ?_
          refine own_retN X0 hx (t := .boolean) hret (by simp) hlk (hb hby at_198) hkc hks ?_
          exact ⟨(congrArg some (congrArg Value.int (show _ = (own_f0_129 v1 v2 v3 v4 v5 v6 v7 v8 v9 v11 v12) from by rw [own_f0_129, if_neg hc43, if_neg hc45, if_neg hc47, if_pos hc48]; rfl))), N0⟩
        · refine own_ifYes X0 hx (hb hby at_190) ((if0 _ _).trans (feq (mt own_lc_eq.mp hc48)).2) (pc' := 197) (by decide) (by decide) ?_
          refine own_iconst X0 hx (hb hby at_197) (pc' := 198) rfl (v := (0 : Int32)) rfl ?_
          refine own_retN X0 hx (t := .boolean) hret (by simp) hlk (hb hby at_198) hkc hks ?_
          exact ⟨(congrArg some (congrArg Value.int (show _ = (own_f0_129 v1 v2 v3 v4 v5 v6 v7 v8 v9 v11 v12) from by rw [own_f0_129, if_neg hc43, if_neg hc45, if_neg hc47, if_neg hc48]; rfl))), N0⟩
set_option maxRecDepth 65536 in
set_option maxHeartbeats 40000000 in
theorem sg0_51 {p : Program} (l : Launch) {e : Env} {s : State} {m : MethodId} {args : Array Value} {below : List Frame} {meth : Method} {c : Code} {Z : State} {a0 : Array Value} (hw : ∀ d ∈ tables_1, d.before a0 Z = true) (hx : p.tables.exec = Jvm.exec) (hZ : Z.Warmed39 s.vm) (hby : c.code = code) (hml : c.maxLocals = 20) (hown : s.vm.findClass "com/example/optiview/optiview/subset/ProfitTableCellsPinLaw" = some m.cls) (hnm : meth.name = "law") (hret : meth.sig.returnType = (some .boolean)) (hlk : meth.locks = false) (v1 : Int32) (v2 : Int64) (v3 : Int64) (v4 : Int64) (v5 : Int32) (v6 : Int32) (v7 : Int64) (v8 : Int64) (v9 : Int64) {h0 : Heap} {n0 : Nat} (Z0 : n0 ≤ h0.size) {T0 : State} {L0 : List Loc} (X0 : Stand p l e room_1 s m args below meth c T0 L0 0 0) (N0 : Fr n0 L0) (e0 : T0.heap = h0) (hn0 : ¬ (v7 < (0 : Int64))) (hn1 : ¬ (v8 < (0 : Int64))) (hn2 : ¬ (v9 < (0 : Int64))) (hn : v6 = (0 : Int32) ∨ v6 = (1 : Int32) ∨ v6 = (2 : Int32) ∨ v6 = (3 : Int32)) :
    own_Fin p.tables e below (own_End below s (own_L n0 (.int (own_f0_51 v1 v2 v3 v4 v5 v6 v7 v8 v9))) 1 3) T0 (mkF m 51 #[.val (.int v1), .val (.long v2), .second, .val (.long v3), .second, .val (.long v4), .second, .val (.int v5), .val (.int v6), .val (.long v7), .second, .val (.long v8), .second, .val (.long v9), .second, .unset, .unset, .unset, .unset, .unset] []) := by
  by_cases hc19 : v6 = (0 : Int32)
  · refine own_fr (g' := (mkF m 51 #[.val (.int v1), .val (.long v2), .second, .val (.long v3), .second, .val (.long v4), .second, .val (.int v5), .val (.int (0 : Int32)), .val (.long v7), .second, .val (.long v8), .second, .val (.long v9), .second, .unset, .unset, .unset, .unset, .unset] [])) (by rw [hc19]) ?_
    refine own_iload X0 hx (hb hby at_51) (pc' := 53) rfl rfl ?_
    obtain ⟨T20, h20, k20, X20, e20, E20, A20, st20⟩ := newP X0 hx hZ (hw _ (List.mem_of_getElem? (i := 1) rfl)) e0 (g := (mkF m 53 #[.val (.int v1), .val (.long v2), .second, .val (.long v3), .second, .val (.long v4), .second, .val (.int v5), .val (.int (0 : Int32)), .val (.long v7), .second, .val (.long v8), .second, .val (.long v9), .second, .unset, .unset, .unset, .unset, .unset] [(.int (0 : Int32))])) rfl (hb hby at_53) rfl (by decide) (cap := 0) (by decide) (by decide) (by decide) (by decide)
    obtain ⟨b20, g20⟩ : ∃ z, z = h0.size := ⟨_, rfl⟩
    rw [← g20] at A20 st20
    have g_b20 : n0 ≤ b20 := Nat.le_trans Z0 (Nat.le_of_eq g20.symm)
    have A_b20_20 : Arv Z h20 b20 k20 .long (0 : Int32) [] (.long (0 : Int64)) := (Arv.new A20 (by decide)).pad (pad_rep [] (.long (0 : Int64)) 0)
    have sz20 : n0 ≤ h20.size := Nat.le_trans Z0 E20.1
    refine own_st ?_ st20
    show own_Fin _ _ _ _ T20 (mkF m 55 #[.val (.int v1), .val (.long v2), .second, .val (.long v3), .second, .val (.long v4), .second, .val (.int v5), .val (.int (0 : Int32)), .val (.long v7), .second, .val (.long v8), .second, .val (.long v9), .second, .unset, .unset, .unset, .unset, .unset] [(.ref b20)])
    refine own_astore X20 hx (hb hby at_55) (pc' := 57) rfl (Ls' := #[.val (.int v1), .val (.long v2), .second, .val (.long v3), .second, .val (.long v4), .second, .val (.int v5), .val (.int (0 : Int32)), .val (.long v7), .second, .val (.long v8), .second, .val (.long v9), .second, .val (.ref b20), .unset, .unset, .unset, .unset]) rfl rfl ?_
    refine own_lconst X20 hx (hb hby at_57) (pc' := 58) rfl (v := (1 : Int64)) rfl ?_
    refine own_lstore X20 hx (hb hby at_58) (pc' := 60) rfl (Ls' := #[.val (.int v1), .val (.long v2), .second, .val (.long v3), .second, .val (.long v4), .second, .val (.int v5), .val (.int (0 : Int32)), .val (.long v7), .second, .val (.long v8), .second, .val (.long v9), .second, .val (.ref b20), .val (.long (1 : Int64)), .second, .unset, .unset]) rfl ?_
    refine own_iload X20 hx (hb hby at_60) (pc' := 62) rfl rfl ?_
    refine own_ifYes X20 hx (hb hby at_62) ((if0 _ _).trans (flt (by decide : ¬ ((0 : Int32) < (0 : Int32)))).2.2.2) (pc' := 80) (by decide) (by decide) ?_
    refine own_iload X20 hx (hb hby at_80) (pc' := 82) rfl rfl ?_
    refine own_iconst X20 hx (hb hby at_82) (pc' := 83) rfl (v := (1 : Int32)) rfl ?_
    refine own_icmpYes X20 hx (hb hby at_83) (flt (by decide : ¬ ((1 : Int32) < (0 : Int32)))).2.2.2 (pc' := 101) (by decide) (by decide) ?_
    refine own_iload X20 hx (hb hby at_101) (pc' := 103) rfl rfl ?_
    refine own_iconst X20 hx (hb hby at_103) (pc' := 104) rfl (v := (2 : Int32)) rfl ?_
    refine own_icmpYes X20 hx (hb hby at_104) (flt (by decide : ¬ ((2 : Int32) < (0 : Int32)))).2.2.2 (pc' := 122) (by decide) (by decide) ?_
    refine own_aload X20 hx (hb hby at_122) (pc' := 124) rfl rfl rfl ?_
    obtain ⟨_, _, ⟨T21, L21, k21, n21⟩, -, X21, ⟨Lc21, hQ21, l21, y21, z21⟩, st21⟩ := Jvm.LawKit.callS X20 hx (y := (⟨"com/example/optiview/optiview/subset/ProfitTable", "cells", "([J)J"⟩ : MethodName)) hown (mvT hZ (hw _ (List.mem_of_getElem? (i := 2) rfl))) (mvT hZ (hw _ (List.mem_of_getElem? (i := 3) rfl))) (mvT hZ (hw _ (List.mem_of_getElem? (i := 4) rfl))) (mvT hZ (hw _ (List.mem_of_getElem? (i := 5) rfl))) (by decide) (backOf (W := 0) (rm1c0 l Z a0 hw [] b20 k20 h20 n0 sz20 A_b20_20) hZ (hw _ (List.mem_of_getElem? (i := 5) rfl)) (hw _ (List.mem_of_getElem? (i := 4) rfl)) (by decide) (by decide)) (g := (mkF m 124 #[.val (.int v1), .val (.long v2), .second, .val (.long v3), .second, .val (.long v4), .second, .val (.int v5), .val (.int (0 : Int32)), .val (.long v7), .second, .val (.long v8), .second, .val (.long v9), .second, .val (.ref b20), .val (.long (1 : Int64)), .second, .unset, .unset] [(.ref b20)])) rfl (by rw [hml]; rfl) (argsL := [(.ref b20)]) (rest := []) (lenOf pd_0 rfl) rfl (by show 2 * 0 + _ ≤ _; exact Nat.le_of_eq rfl) (hb hby at_124) (fun _ _ => ⟨rfl, e20, (by decide : 1 + 0 ≤ _), (by decide : 0 + 0 ≤ _)⟩)
    dsimp only [Pt.U, Pt.locs, Pt.cells, Pt.slots] at X21 l21 y21 z21 st21 hQ21
    subst l21 y21 z21
    obtain ⟨rfl, N21q, e21'⟩ := hQ21
    have N21 := Fr.app N0 N21q
    refine own_st ?_ st21
    show own_Fin _ _ _ _ T21 (mkF m 127 #[.val (.int v1), .val (.long v2), .second, .val (.long v3), .second, .val (.long v4), .second, .val (.int v5), .val (.int (0 : Int32)), .val (.long v7), .second, .val (.long v8), .second, .val (.long v9), .second, .val (.ref b20), .val (.long (1 : Int64)), .second, .unset, .unset] [(.long (1 : Int64))])
    refine own_lstore X21 hx (hb hby at_127) (pc' := 129) rfl (Ls' := #[.val (.int v1), .val (.long v2), .second, .val (.long v3), .second, .val (.long v4), .second, .val (.int v5), .val (.int (0 : Int32)), .val (.long v7), .second, .val (.long v8), .second, .val (.long v9), .second, .val (.ref b20), .val (.long (1 : Int64)), .second, .val (.long (1 : Int64)), .second]) rfl ?_
    refine own_cast ?_ (sg0_129 l hw hx hZ hby hml hown hnm hret hlk v1 v2 v3 v4 v5 (0 : Int32) v7 v8 v9 b20 (1 : Int64) (1 : Int64) sz20 X21 N21 e21' (by decide) (by decide))
    rw [own_f0_51, if_pos hc19]
  · by_cases hc22 : v6 = (1 : Int32)
    · refine own_fr (g' := (mkF m 51 #[.val (.int v1), .val (.long v2), .second, .val (.long v3), .second, .val (.long v4), .second, .val (.int v5), .val (.int (1 : Int32)), .val (.long v7), .second, .val (.long v8), .second, .val (.long v9), .second, .unset, .unset, .unset, .unset, .unset] [])) (by rw [hc22]) ?_
      refine own_iload X0 hx (hb hby at_51) (pc' := 53) rfl rfl ?_
      obtain ⟨T23, h23, k23, X23, e23, E23, A23, st23⟩ := newP X0 hx hZ (hw _ (List.mem_of_getElem? (i := 1) rfl)) e0 (g := (mkF m 53 #[.val (.int v1), .val (.long v2), .second, .val (.long v3), .second, .val (.long v4), .second, .val (.int v5), .val (.int (1 : Int32)), .val (.long v7), .second, .val (.long v8), .second, .val (.long v9), .second, .unset, .unset, .unset, .unset, .unset] [(.int (1 : Int32))])) rfl (hb hby at_53) rfl (by decide) (cap := 1) (by decide) (by decide) (by decide) (by decide)
      obtain ⟨b23, g23⟩ : ∃ z, z = h0.size := ⟨_, rfl⟩
      rw [← g23] at A23 st23
      have g_b23 : n0 ≤ b23 := Nat.le_trans Z0 (Nat.le_of_eq g23.symm)
      have A_b23_23 : Arv Z h23 b23 k23 .long (1 : Int32) [(.long (0 : Int64))] (.long (0 : Int64)) := (Arv.new A23 (by decide)).pad (pad_rep [] (.long (0 : Int64)) 1)
      have sz23 : n0 ≤ h23.size := Nat.le_trans Z0 E23.1
      refine own_st ?_ st23
      show own_Fin _ _ _ _ T23 (mkF m 55 #[.val (.int v1), .val (.long v2), .second, .val (.long v3), .second, .val (.long v4), .second, .val (.int v5), .val (.int (1 : Int32)), .val (.long v7), .second, .val (.long v8), .second, .val (.long v9), .second, .unset, .unset, .unset, .unset, .unset] [(.ref b23)])
      refine own_astore X23 hx (hb hby at_55) (pc' := 57) rfl (Ls' := #[.val (.int v1), .val (.long v2), .second, .val (.long v3), .second, .val (.long v4), .second, .val (.int v5), .val (.int (1 : Int32)), .val (.long v7), .second, .val (.long v8), .second, .val (.long v9), .second, .val (.ref b23), .unset, .unset, .unset, .unset]) rfl rfl ?_
      refine own_lconst X23 hx (hb hby at_57) (pc' := 58) rfl (v := (1 : Int64)) rfl ?_
      refine own_lstore X23 hx (hb hby at_58) (pc' := 60) rfl (Ls' := #[.val (.int v1), .val (.long v2), .second, .val (.long v3), .second, .val (.long v4), .second, .val (.int v5), .val (.int (1 : Int32)), .val (.long v7), .second, .val (.long v8), .second, .val (.long v9), .second, .val (.ref b23), .val (.long (1 : Int64)), .second, .unset, .unset]) rfl ?_
      refine own_iload X23 hx (hb hby at_60) (pc' := 62) rfl rfl ?_
      refine own_ifNo X23 hx (hb hby at_62) (pc' := 65) rfl ((if0 _ _).trans (tlt (by decide : (0 : Int32) < (1 : Int32))).2.2.2) ?_
      refine own_aload X23 hx (hb hby at_65) (pc' := 67) rfl rfl rfl ?_
      refine own_iconst X23 hx (hb hby at_67) (pc' := 68) rfl (v := (0 : Int32)) rfl ?_
      refine own_lload X23 hx (hb hby at_68) (pc' := 70) rfl rfl ?_
      obtain ⟨cl24, Ar24, qa24, S24, M24, H24, G24⟩ := id A_b23_23
      have hin24 : ¬ ((0 : Int32) < 0 ∨ cl24.slots.size ≤ ((0 : Int32)).toNatClampNeg) := inb_of S24 ⟨by decide, by decide⟩
      obtain ⟨T24, h24, X24, e24, W24, st24⟩ := stJ X23 hx hZ e23 Ar24 (j := (0 : Int32)) hin24 (g := (mkF m 70 #[.val (.int v1), .val (.long v2), .second, .val (.long v3), .second, .val (.long v4), .second, .val (.int v5), .val (.int (1 : Int32)), .val (.long v7), .second, .val (.long v8), .second, .val (.long v9), .second, .val (.ref b23), .val (.long (1 : Int64)), .second, .unset, .unset] [(.long v7), (.int (0 : Int32)), (.ref b23)])) rfl rfl (hb hby at_70)
      have A_b23_24 : Arv Z h24 b23 k23 .long (1 : Int32) [(.long v7)] (.long (0 : Int64)) := Arv.set Ar24 qa24 S24 M24 H24 G24 rfl W24 0 rfl (Nat.le_of_ble_eq_true rfl)
      have N24 := Fr.snoc X24 N0 g_b23
      have sz24 : n0 ≤ h24.size := Nat.le_trans sz23 (Keep.of_wr W24).1
      refine own_st ?_ st24
      show own_Fin _ _ _ _ T24 (mkF m 71 #[.val (.int v1), .val (.long v2), .second, .val (.long v3), .second, .val (.long v4), .second, .val (.int v5), .val (.int (1 : Int32)), .val (.long v7), .second, .val (.long v8), .second, .val (.long v9), .second, .val (.ref b23), .val (.long (1 : Int64)), .second, .unset, .unset] [])
      refine own_lload X24 hx (hb hby at_71) (pc' := 73) rfl rfl ?_
      refine own_lload X24 hx (hb hby at_73) (pc' := 75) rfl rfl ?_
      obtain ⟨_, _, ⟨T25, L25, k25, n25⟩, -, X25, ⟨Lc25, hQ25, l25, y25, z25⟩, st25⟩ := Jvm.LawKit.callS X24 hx (y := (⟨"com/example/optiview/optiview/subset/ProfitTableCellsPinLaw", "sat", "(JJ)J"⟩ : MethodName)) hown (mvT hZ (hw _ (List.mem_of_getElem? (i := 7) rfl))) (mvT hZ (hw _ (List.mem_of_getElem? (i := 8) rfl))) (mvT hZ (hw _ (List.mem_of_getElem? (i := 9) rfl))) (mvT hZ (hw _ (List.mem_of_getElem? (i := 10) rfl))) (by decide) (backOf (W := 0) (rm2 l Z a0 hw [] (1 : Int64) v7 h24 n0 sz24 hn0) hZ (hw _ (List.mem_of_getElem? (i := 10) rfl)) (hw _ (List.mem_of_getElem? (i := 9) rfl)) (by decide) (by decide)) (g := (mkF m 75 #[.val (.int v1), .val (.long v2), .second, .val (.long v3), .second, .val (.long v4), .second, .val (.int v5), .val (.int (1 : Int32)), .val (.long v7), .second, .val (.long v8), .second, .val (.long v9), .second, .val (.ref b23), .val (.long (1 : Int64)), .second, .unset, .unset] [(.long v7), (.long (1 : Int64))])) rfl (by rw [hml]; rfl) (argsL := [(.long (1 : Int64)), (.long v7)]) (rest := []) (lenOf pd_1 rfl) rfl (by show 2 * 0 + _ ≤ _; exact Nat.le_of_eq rfl) (hb hby at_75) (fun _ _ => ⟨rfl, e24, (by decide : 1 + 0 ≤ _), (by decide : 1 + 0 ≤ _)⟩)
      dsimp only [Pt.U, Pt.locs, Pt.cells, Pt.slots] at X25 l25 y25 z25 st25 hQ25
      subst l25 y25 z25
      obtain ⟨rfl, N25q, e25'⟩ := hQ25
      have N25 := Fr.app N24 N25q
      refine own_st ?_ st25
      show own_Fin _ _ _ _ T25 (mkF m 78 #[.val (.int v1), .val (.long v2), .second, .val (.long v3), .second, .val (.long v4), .second, .val (.int v5), .val (.int (1 : Int32)), .val (.long v7), .second, .val (.long v8), .second, .val (.long v9), .second, .val (.ref b23), .val (.long (1 : Int64)), .second, .unset, .unset] [(.long (own_f2 (1 : Int64) v7))])
      refine own_lstore X25 hx (hb hby at_78) (pc' := 80) rfl (Ls' := #[.val (.int v1), .val (.long v2), .second, .val (.long v3), .second, .val (.long v4), .second, .val (.int v5), .val (.int (1 : Int32)), .val (.long v7), .second, .val (.long v8), .second, .val (.long v9), .second, .val (.ref b23), .val (.long (own_f2 (1 : Int64) v7)), .second, .unset, .unset]) rfl ?_
      refine own_iload X25 hx (hb hby at_80) (pc' := 82) rfl rfl ?_
      refine own_iconst X25 hx (hb hby at_82) (pc' := 83) rfl (v := (1 : Int32)) rfl ?_
      refine own_icmpYes X25 hx (hb hby at_83) (flt (by decide : ¬ ((1 : Int32) < (1 : Int32)))).2.2.2 (pc' := 101) (by decide) (by decide) ?_
      refine own_iload X25 hx (hb hby at_101) (pc' := 103) rfl rfl ?_
      refine own_iconst X25 hx (hb hby at_103) (pc' := 104) rfl (v := (2 : Int32)) rfl ?_
      refine own_icmpYes X25 hx (hb hby at_104) (flt (by decide : ¬ ((2 : Int32) < (1 : Int32)))).2.2.2 (pc' := 122) (by decide) (by decide) ?_
      refine own_aload X25 hx (hb hby at_122) (pc' := 124) rfl rfl rfl ?_
      obtain ⟨_, _, ⟨T26, L26, k26, n26⟩, -, X26, ⟨Lc26, hQ26, l26, y26, z26⟩, st26⟩ := Jvm.LawKit.callS X25 hx (y := (⟨"com/example/optiview/optiview/subset/ProfitTable", "cells", "([J)J"⟩ : MethodName)) hown (mvT hZ (hw _ (List.mem_of_getElem? (i := 2) rfl))) (mvT hZ (hw _ (List.mem_of_getElem? (i := 3) rfl))) (mvT hZ (hw _ (List.mem_of_getElem? (i := 4) rfl))) (mvT hZ (hw _ (List.mem_of_getElem? (i := 5) rfl))) (by decide) (backOf (W := 0) (rm1c1 l Z a0 hw [] b23 k23 v7 h24 n0 sz24 A_b23_24 hn0) hZ (hw _ (List.mem_of_getElem? (i := 5) rfl)) (hw _ (List.mem_of_getElem? (i := 4) rfl)) (by decide) (by decide)) (g := (mkF m 124 #[.val (.int v1), .val (.long v2), .second, .val (.long v3), .second, .val (.long v4), .second, .val (.int v5), .val (.int (1 : Int32)), .val (.long v7), .second, .val (.long v8), .second, .val (.long v9), .second, .val (.ref b23), .val (.long (own_f2 (1 : Int64) v7)), .second, .unset, .unset] [(.ref b23)])) rfl (by rw [hml]; rfl) (argsL := [(.ref b23)]) (rest := []) (lenOf pd_0 rfl) rfl (by show 2 * 0 + _ ≤ _; exact Nat.le_of_eq rfl) (hb hby at_124) (fun _ _ => ⟨rfl, e25', (by decide : 1 + 0 ≤ _), (by decide : 1 + 0 ≤ _)⟩)
      dsimp only [Pt.U, Pt.locs, Pt.cells, Pt.slots] at X26 l26 y26 z26 st26 hQ26
      subst l26 y26 z26
      obtain ⟨rfl, N26q, e26'⟩ := hQ26
      have N26 := Fr.app N25 N26q
      refine own_st ?_ st26
      show own_Fin _ _ _ _ T26 (mkF m 127 #[.val (.int v1), .val (.long v2), .second, .val (.long v3), .second, .val (.long v4), .second, .val (.int v5), .val (.int (1 : Int32)), .val (.long v7), .second, .val (.long v8), .second, .val (.long v9), .second, .val (.ref b23), .val (.long (own_f2 (1 : Int64) v7)), .second, .unset, .unset] [(.long (own_f1c1 v7))])
      refine own_lstore X26 hx (hb hby at_127) (pc' := 129) rfl (Ls' := #[.val (.int v1), .val (.long v2), .second, .val (.long v3), .second, .val (.long v4), .second, .val (.int v5), .val (.int (1 : Int32)), .val (.long v7), .second, .val (.long v8), .second, .val (.long v9), .second, .val (.ref b23), .val (.long (own_f2 (1 : Int64) v7)), .second, .val (.long (own_f1c1 v7)), .second]) rfl ?_
      refine own_cast ?_ (sg0_129 l hw hx hZ hby hml hown hnm hret hlk v1 v2 v3 v4 v5 (1 : Int32) v7 v8 v9 b23 (own_f2 (1 : Int64) v7) (own_f1c1 v7) sz24 X26 N26 e26' (by decide) (by decide))
      rw [own_f0_51, if_neg hc19, if_pos hc22]
    · by_cases hc27 : v6 = (2 : Int32)
      · refine own_fr (g' := (mkF m 51 #[.val (.int v1), .val (.long v2), .second, .val (.long v3), .second, .val (.long v4), .second, .val (.int v5), .val (.int (2 : Int32)), .val (.long v7), .second, .val (.long v8), .second, .val (.long v9), .second, .unset, .unset, .unset, .unset, .unset] [])) (by rw [hc27]) ?_
        refine own_iload X0 hx (hb hby at_51) (pc' := 53) rfl rfl ?_
        obtain ⟨T28, h28, k28, X28, e28, E28, A28, st28⟩ := newP X0 hx hZ (hw _ (List.mem_of_getElem? (i := 1) rfl)) e0 (g := (mkF m 53 #[.val (.int v1), .val (.long v2), .second, .val (.long v3), .second, .val (.long v4), .second, .val (.int v5), .val (.int (2 : Int32)), .val (.long v7), .second, .val (.long v8), .second, .val (.long v9), .second, .unset, .unset, .unset, .unset, .unset] [(.int (2 : Int32))])) rfl (hb hby at_53) rfl (by decide) (cap := 2) (by decide) (by decide) (by decide) (by decide)
        obtain ⟨b28, g28⟩ : ∃ z, z = h0.size := ⟨_, rfl⟩
        rw [← g28] at A28 st28
        have g_b28 : n0 ≤ b28 := Nat.le_trans Z0 (Nat.le_of_eq g28.symm)
        have A_b28_28 : Arv Z h28 b28 k28 .long (2 : Int32) [(.long (0 : Int64)), (.long (0 : Int64))] (.long (0 : Int64)) := (Arv.new A28 (by decide)).pad (pad_rep [] (.long (0 : Int64)) 2)
        have sz28 : n0 ≤ h28.size := Nat.le_trans Z0 E28.1
        refine own_st ?_ st28
        show own_Fin _ _ _ _ T28 (mkF m 55 #[.val (.int v1), .val (.long v2), .second, .val (.long v3), .second, .val (.long v4), .second, .val (.int v5), .val (.int (2 : Int32)), .val (.long v7), .second, .val (.long v8), .second, .val (.long v9), .second, .unset, .unset, .unset, .unset, .unset] [(.ref b28)])
        refine own_astore X28 hx (hb hby at_55) (pc' := 57) rfl (Ls' := #[.val (.int v1), .val (.long v2), .second, .val (.long v3), .second, .val (.long v4), .second, .val (.int v5), .val (.int (2 : Int32)), .val (.long v7), .second, .val (.long v8), .second, .val (.long v9), .second, .val (.ref b28), .unset, .unset, .unset, .unset]) rfl rfl ?_
        refine own_lconst X28 hx (hb hby at_57) (pc' := 58) rfl (v := (1 : Int64)) rfl ?_
        refine own_lstore X28 hx (hb hby at_58) (pc' := 60) rfl (Ls' := #[.val (.int v1), .val (.long v2), .second, .val (.long v3), .second, .val (.long v4), .second, .val (.int v5), .val (.int (2 : Int32)), .val (.long v7), .second, .val (.long v8), .second, .val (.long v9), .second, .val (.ref b28), .val (.long (1 : Int64)), .second, .unset, .unset]) rfl ?_
        refine own_iload X28 hx (hb hby at_60) (pc' := 62) rfl rfl ?_
        refine own_ifNo X28 hx (hb hby at_62) (pc' := 65) rfl ((if0 _ _).trans (tlt (by decide : (0 : Int32) < (2 : Int32))).2.2.2) ?_
        refine own_aload X28 hx (hb hby at_65) (pc' := 67) rfl rfl rfl ?_
        refine own_iconst X28 hx (hb hby at_67) (pc' := 68) rfl (v := (0 : Int32)) rfl ?_
        refine own_lload X28 hx (hb hby at_68) (pc' := 70) rfl rfl ?_
        obtain ⟨cl29, Ar29, qa29, S29, M29, H29, G29⟩ := id A_b28_28
        have hin29 : ¬ ((0 : Int32) < 0 ∨ cl29.slots.size ≤ ((0 : Int32)).toNatClampNeg) := inb_of S29 ⟨by decide, by decide⟩
        obtain ⟨T29, h29, X29, e29, W29, st29⟩ := stJ X28 hx hZ e28 Ar29 (j := (0 : Int32)) hin29 (g := (mkF m 70 #[.val (.int v1), .val (.long v2), .second, .val (.long v3), .second, .val (.long v4), .second, .val (.int v5), .val (.int (2 : Int32)), .val (.long v7), .second, .val (.long v8), .second, .val (.long v9), .second, .val (.ref b28), .val (.long (1 : Int64)), .second, .unset, .unset] [(.long v7), (.int (0 : Int32)), (.ref b28)])) rfl rfl (hb hby at_70)
        have A_b28_29 : Arv Z h29 b28 k28 .long (2 : Int32) [(.long v7), (.long (0 : Int64))] (.long (0 : Int64)) := Arv.set Ar29 qa29 S29 M29 H29 G29 rfl W29 0 rfl (Nat.le_of_ble_eq_true rfl)
        have N29 := Fr.snoc X29 N0 g_b28
        have sz29 : n0 ≤ h29.size := Nat.le_trans sz28 (Keep.of_wr W29).1
        refine own_st ?_ st29
        show own_Fin _ _ _ _ T29 (mkF m 71 #[.val (.int v1), .val (.long v2), .second, .val (.long v3), .second, .val (.long v4), .second, .val (.int v5), .val (.int (2 : Int32)), .val (.long v7), .second, .val (.long v8), .second, .val (.long v9), .second, .val (.ref b28), .val (.long (1 : Int64)), .second, .unset, .unset] [])
        refine own_lload X29 hx (hb hby at_71) (pc' := 73) rfl rfl ?_
        refine own_lload X29 hx (hb hby at_73) (pc' := 75) rfl rfl ?_
        obtain ⟨_, _, ⟨T30, L30, k30, n30⟩, -, X30, ⟨Lc30, hQ30, l30, y30, z30⟩, st30⟩ := Jvm.LawKit.callS X29 hx (y := (⟨"com/example/optiview/optiview/subset/ProfitTableCellsPinLaw", "sat", "(JJ)J"⟩ : MethodName)) hown (mvT hZ (hw _ (List.mem_of_getElem? (i := 7) rfl))) (mvT hZ (hw _ (List.mem_of_getElem? (i := 8) rfl))) (mvT hZ (hw _ (List.mem_of_getElem? (i := 9) rfl))) (mvT hZ (hw _ (List.mem_of_getElem? (i := 10) rfl))) (by decide) (backOf (W := 0) (rm2 l Z a0 hw [] (1 : Int64) v7 h29 n0 sz29 hn0) hZ (hw _ (List.mem_of_getElem? (i := 10) rfl)) (hw _ (List.mem_of_getElem? (i := 9) rfl)) (by decide) (by decide)) (g := (mkF m 75 #[.val (.int v1), .val (.long v2), .second, .val (.long v3), .second, .val (.long v4), .second, .val (.int v5), .val (.int (2 : Int32)), .val (.long v7), .second, .val (.long v8), .second, .val (.long v9), .second, .val (.ref b28), .val (.long (1 : Int64)), .second, .unset, .unset] [(.long v7), (.long (1 : Int64))])) rfl (by rw [hml]; rfl) (argsL := [(.long (1 : Int64)), (.long v7)]) (rest := []) (lenOf pd_1 rfl) rfl (by show 2 * 0 + _ ≤ _; exact Nat.le_of_eq rfl) (hb hby at_75) (fun _ _ => ⟨rfl, e29, (by decide : 1 + 0 ≤ _), (by decide : 2 + 0 ≤ _)⟩)
        dsimp only [Pt.U, Pt.locs, Pt.cells, Pt.slots] at X30 l30 y30 z30 st30 hQ30
        subst l30 y30 z30
        obtain ⟨rfl, N30q, e30'⟩ := hQ30
        have N30 := Fr.app N29 N30q
        refine own_st ?_ st30
        show own_Fin _ _ _ _ T30 (mkF m 78 #[.val (.int v1), .val (.long v2), .second, .val (.long v3), .second, .val (.long v4), .second, .val (.int v5), .val (.int (2 : Int32)), .val (.long v7), .second, .val (.long v8), .second, .val (.long v9), .second, .val (.ref b28), .val (.long (1 : Int64)), .second, .unset, .unset] [(.long (own_f2 (1 : Int64) v7))])
        refine own_lstore X30 hx (hb hby at_78) (pc' := 80) rfl (Ls' := #[.val (.int v1), .val (.long v2), .second, .val (.long v3), .second, .val (.long v4), .second, .val (.int v5), .val (.int (2 : Int32)), .val (.long v7), .second, .val (.long v8), .second, .val (.long v9), .second, .val (.ref b28), .val (.long (own_f2 (1 : Int64) v7)), .second, .unset, .unset]) rfl ?_
        refine own_iload X30 hx (hb hby at_80) (pc' := 82) rfl rfl ?_
        refine own_iconst X30 hx (hb hby at_82) (pc' := 83) rfl (v := (1 : Int32)) rfl ?_
        refine own_icmpNo X30 hx (hb hby at_83) (pc' := 86) rfl (tlt (by decide : (1 : Int32) < (2 : Int32))).2.2.2 ?_
        refine own_aload X30 hx (hb hby at_86) (pc' := 88) rfl rfl rfl ?_
        refine own_iconst X30 hx (hb hby at_88) (pc' := 89) rfl (v := (1 : Int32)) rfl ?_
        refine own_lload X30 hx (hb hby at_89) (pc' := 91) rfl rfl ?_
        obtain ⟨cl31, Ar31, qa31, S31, M31, H31, G31⟩ := id A_b28_29
        have hin31 : ¬ ((1 : Int32) < 0 ∨ cl31.slots.size ≤ ((1 : Int32)).toNatClampNeg) := inb_of S31 ⟨by decide, by decide⟩
        obtain ⟨T31, h31, X31, e31, W31, st31⟩ := stJ X30 hx hZ e30' Ar31 (j := (1 : Int32)) hin31 (g := (mkF m 91 #[.val (.int v1), .val (.long v2), .second, .val (.long v3), .second, .val (.long v4), .second, .val (.int v5), .val (.int (2 : Int32)), .val (.long v7), .second, .val (.long v8), .second, .val (.long v9), .second, .val (.ref b28), .val (.long (own_f2 (1 : Int64) v7)), .second, .unset, .unset] [(.long v8), (.int (1 : Int32)), (.ref b28)])) rfl rfl (hb hby at_91)
        have A_b28_31 : Arv Z h31 b28 k28 .long (2 : Int32) [(.long v7), (.long v8)] (.long (0 : Int64)) := Arv.set Ar31 qa31 S31 M31 H31 G31 rfl W31 1 rfl (Nat.le_of_ble_eq_true rfl)
        have N31 := Fr.snoc X31 N30 g_b28
        have sz31 : n0 ≤ h31.size := Nat.le_trans sz29 (Keep.of_wr W31).1
        refine own_st ?_ st31
        show own_Fin _ _ _ _ T31 (mkF m 92 #[.val (.int v1), .val (.long v2), .second, .val (.long v3), .second, .val (.long v4), .second, .val (.int v5), .val (.int (2 : Int32)), .val (.long v7), .second, .val (.long v8), .second, .val (.long v9), .second, .val (.ref b28), .val (.long (own_f2 (1 : Int64) v7)), .second, .unset, .unset] [])
        refine own_lload X31 hx (hb hby at_92) (pc' := 94) rfl rfl ?_
        refine own_lload X31 hx (hb hby at_94) (pc' := 96) rfl rfl ?_
        obtain ⟨_, _, ⟨T32, L32, k32, n32⟩, -, X32, ⟨Lc32, hQ32, l32, y32, z32⟩, st32⟩ := Jvm.LawKit.callS X31 hx (y := (⟨"com/example/optiview/optiview/subset/ProfitTableCellsPinLaw", "sat", "(JJ)J"⟩ : MethodName)) hown (mvT hZ (hw _ (List.mem_of_getElem? (i := 7) rfl))) (mvT hZ (hw _ (List.mem_of_getElem? (i := 8) rfl))) (mvT hZ (hw _ (List.mem_of_getElem? (i := 9) rfl))) (mvT hZ (hw _ (List.mem_of_getElem? (i := 10) rfl))) (by decide) (backOf (W := 0) (rm2 l Z a0 hw [] (own_f2 (1 : Int64) v7) v8 h31 n0 sz31 hn1) hZ (hw _ (List.mem_of_getElem? (i := 10) rfl)) (hw _ (List.mem_of_getElem? (i := 9) rfl)) (by decide) (by decide)) (g := (mkF m 96 #[.val (.int v1), .val (.long v2), .second, .val (.long v3), .second, .val (.long v4), .second, .val (.int v5), .val (.int (2 : Int32)), .val (.long v7), .second, .val (.long v8), .second, .val (.long v9), .second, .val (.ref b28), .val (.long (own_f2 (1 : Int64) v7)), .second, .unset, .unset] [(.long v8), (.long (own_f2 (1 : Int64) v7))])) rfl (by rw [hml]; rfl) (argsL := [(.long (own_f2 (1 : Int64) v7)), (.long v8)]) (rest := []) (lenOf pd_1 rfl) rfl (by show 2 * 0 + _ ≤ _; exact Nat.le_of_eq rfl) (hb hby at_96) (fun _ _ => ⟨rfl, e31, (by decide : 1 + 0 ≤ _), (by decide : 2 + 0 ≤ _)⟩)
        dsimp only [Pt.U, Pt.locs, Pt.cells, Pt.slots] at X32 l32 y32 z32 st32 hQ32
        subst l32 y32 z32
        obtain ⟨rfl, N32q, e32'⟩ := hQ32
        have N32 := Fr.app N31 N32q
        refine own_st ?_ st32
        show own_Fin _ _ _ _ T32 (mkF m 99 #[.val (.int v1), .val (.long v2), .second, .val (.long v3), .second, .val (.long v4), .second, .val (.int v5), .val (.int (2 : Int32)), .val (.long v7), .second, .val (.long v8), .second, .val (.long v9), .second, .val (.ref b28), .val (.long (own_f2 (1 : Int64) v7)), .second, .unset, .unset] [(.long (own_f2 (own_f2 (1 : Int64) v7) v8))])
        refine own_lstore X32 hx (hb hby at_99) (pc' := 101) rfl (Ls' := #[.val (.int v1), .val (.long v2), .second, .val (.long v3), .second, .val (.long v4), .second, .val (.int v5), .val (.int (2 : Int32)), .val (.long v7), .second, .val (.long v8), .second, .val (.long v9), .second, .val (.ref b28), .val (.long (own_f2 (own_f2 (1 : Int64) v7) v8)), .second, .unset, .unset]) rfl ?_
        refine own_iload X32 hx (hb hby at_101) (pc' := 103) rfl rfl ?_
        refine own_iconst X32 hx (hb hby at_103) (pc' := 104) rfl (v := (2 : Int32)) rfl ?_
        refine own_icmpYes X32 hx (hb hby at_104) (flt (by decide : ¬ ((2 : Int32) < (2 : Int32)))).2.2.2 (pc' := 122) (by decide) (by decide) ?_
        refine own_aload X32 hx (hb hby at_122) (pc' := 124) rfl rfl rfl ?_
        obtain ⟨_, _, ⟨T33, L33, k33, n33⟩, -, X33, ⟨Lc33, hQ33, l33, y33, z33⟩, st33⟩ := Jvm.LawKit.callS X32 hx (y := (⟨"com/example/optiview/optiview/subset/ProfitTable", "cells", "([J)J"⟩ : MethodName)) hown (mvT hZ (hw _ (List.mem_of_getElem? (i := 2) rfl))) (mvT hZ (hw _ (List.mem_of_getElem? (i := 3) rfl))) (mvT hZ (hw _ (List.mem_of_getElem? (i := 4) rfl))) (mvT hZ (hw _ (List.mem_of_getElem? (i := 5) rfl))) (by decide) (backOf (W := 0) (rm1c2 l Z a0 hw [] b28 k28 v7 v8 h31 n0 sz31 A_b28_31 hn0 hn1) hZ (hw _ (List.mem_of_getElem? (i := 5) rfl)) (hw _ (List.mem_of_getElem? (i := 4) rfl)) (by decide) (by decide)) (g := (mkF m 124 #[.val (.int v1), .val (.long v2), .second, .val (.long v3), .second, .val (.long v4), .second, .val (.int v5), .val (.int (2 : Int32)), .val (.long v7), .second, .val (.long v8), .second, .val (.long v9), .second, .val (.ref b28), .val (.long (own_f2 (own_f2 (1 : Int64) v7) v8)), .second, .unset, .unset] [(.ref b28)])) rfl (by rw [hml]; rfl) (argsL := [(.ref b28)]) (rest := []) (lenOf pd_0 rfl) rfl (by show 2 * 0 + _ ≤ _; exact Nat.le_of_eq rfl) (hb hby at_124) (fun _ _ => ⟨rfl, e32', (by decide : 1 + 0 ≤ _), (by decide : 2 + 0 ≤ _)⟩)
        dsimp only [Pt.U, Pt.locs, Pt.cells, Pt.slots] at X33 l33 y33 z33 st33 hQ33
        subst l33 y33 z33
        obtain ⟨rfl, N33q, e33'⟩ := hQ33
        have N33 := Fr.app N32 N33q
        refine own_st ?_ st33
        show own_Fin _ _ _ _ T33 (mkF m 127 #[.val (.int v1), .val (.long v2), .second, .val (.long v3), .second, .val (.long v4), .second, .val (.int v5), .val (.int (2 : Int32)), .val (.long v7), .second, .val (.long v8), .second, .val (.long v9), .second, .val (.ref b28), .val (.long (own_f2 (own_f2 (1 : Int64) v7) v8)), .second, .unset, .unset] [(.long (own_f1c2 v7 v8))])
        refine own_lstore X33 hx (hb hby at_127) (pc' := 129) rfl (Ls' := #[.val (.int v1), .val (.long v2), .second, .val (.long v3), .second, .val (.long v4), .second, .val (.int v5), .val (.int (2 : Int32)), .val (.long v7), .second, .val (.long v8), .second, .val (.long v9), .second, .val (.ref b28), .val (.long (own_f2 (own_f2 (1 : Int64) v7) v8)), .second, .val (.long (own_f1c2 v7 v8)), .second]) rfl ?_
        refine own_cast ?_ (sg0_129 l hw hx hZ hby hml hown hnm hret hlk v1 v2 v3 v4 v5 (2 : Int32) v7 v8 v9 b28 (own_f2 (own_f2 (1 : Int64) v7) v8) (own_f1c2 v7 v8) sz31 X33 N33 e33' (by decide) (by decide))
        rw [own_f0_51, if_neg hc19, if_neg hc22, if_pos hc27]
      · have hc34 : v6 = (3 : Int32) := ((hn.resolve_left hc19).resolve_left hc22).resolve_left hc27
        refine own_fr (g' := (mkF m 51 #[.val (.int v1), .val (.long v2), .second, .val (.long v3), .second, .val (.long v4), .second, .val (.int v5), .val (.int (3 : Int32)), .val (.long v7), .second, .val (.long v8), .second, .val (.long v9), .second, .unset, .unset, .unset, .unset, .unset] [])) (by rw [hc34]) ?_
        refine own_iload X0 hx (hb hby at_51) (pc' := 53) rfl rfl ?_
        obtain ⟨T35, h35, k35, X35, e35, E35, A35, st35⟩ := newP X0 hx hZ (hw _ (List.mem_of_getElem? (i := 1) rfl)) e0 (g := (mkF m 53 #[.val (.int v1), .val (.long v2), .second, .val (.long v3), .second, .val (.long v4), .second, .val (.int v5), .val (.int (3 : Int32)), .val (.long v7), .second, .val (.long v8), .second, .val (.long v9), .second, .unset, .unset, .unset, .unset, .unset] [(.int (3 : Int32))])) rfl (hb hby at_53) rfl (by decide) (cap := 3) (by decide) (by decide) (by decide) (by decide)
        obtain ⟨b35, g35⟩ : ∃ z, z = h0.size := ⟨_, rfl⟩
        rw [← g35] at A35 st35
        have g_b35 : n0 ≤ b35 := Nat.le_trans Z0 (Nat.le_of_eq g35.symm)
        have A_b35_35 : Arv Z h35 b35 k35 .long (3 : Int32) [(.long (0 : Int64)), (.long (0 : Int64)), (.long (0 : Int64))] (.long (0 : Int64)) := (Arv.new A35 (by decide)).pad (pad_rep [] (.long (0 : Int64)) 3)
        have sz35 : n0 ≤ h35.size := Nat.le_trans Z0 E35.1
        refine own_st ?_ st35
        show own_Fin _ _ _ _ T35 (mkF m 55 #[.val (.int v1), .val (.long v2), .second, .val (.long v3), .second, .val (.long v4), .second, .val (.int v5), .val (.int (3 : Int32)), .val (.long v7), .second, .val (.long v8), .second, .val (.long v9), .second, .unset, .unset, .unset, .unset, .unset] [(.ref b35)])
        refine own_astore X35 hx (hb hby at_55) (pc' := 57) rfl (Ls' := #[.val (.int v1), .val (.long v2), .second, .val (.long v3), .second, .val (.long v4), .second, .val (.int v5), .val (.int (3 : Int32)), .val (.long v7), .second, .val (.long v8), .second, .val (.long v9), .second, .val (.ref b35), .unset, .unset, .unset, .unset]) rfl rfl ?_
        refine own_lconst X35 hx (hb hby at_57) (pc' := 58) rfl (v := (1 : Int64)) rfl ?_
        refine own_lstore X35 hx (hb hby at_58) (pc' := 60) rfl (Ls' := #[.val (.int v1), .val (.long v2), .second, .val (.long v3), .second, .val (.long v4), .second, .val (.int v5), .val (.int (3 : Int32)), .val (.long v7), .second, .val (.long v8), .second, .val (.long v9), .second, .val (.ref b35), .val (.long (1 : Int64)), .second, .unset, .unset]) rfl ?_
        refine own_iload X35 hx (hb hby at_60) (pc' := 62) rfl rfl ?_
        refine own_ifNo X35 hx (hb hby at_62) (pc' := 65) rfl ((if0 _ _).trans (tlt (by decide : (0 : Int32) < (3 : Int32))).2.2.2) ?_
        refine own_aload X35 hx (hb hby at_65) (pc' := 67) rfl rfl rfl ?_
        refine own_iconst X35 hx (hb hby at_67) (pc' := 68) rfl (v := (0 : Int32)) rfl ?_
        refine own_lload X35 hx (hb hby at_68) (pc' := 70) rfl rfl ?_
        obtain ⟨cl36, Ar36, qa36, S36, M36, H36, G36⟩ := id A_b35_35
        have hin36 : ¬ ((0 : Int32) < 0 ∨ cl36.slots.size ≤ ((0 : Int32)).toNatClampNeg) := inb_of S36 ⟨by decide, by decide⟩
        obtain ⟨T36, h36, X36, e36, W36, st36⟩ := stJ X35 hx hZ e35 Ar36 (j := (0 : Int32)) hin36 (g := (mkF m 70 #[.val (.int v1), .val (.long v2), .second, .val (.long v3), .second, .val (.long v4), .second, .val (.int v5), .val (.int (3 : Int32)), .val (.long v7), .second, .val (.long v8), .second, .val (.long v9), .second, .val (.ref b35), .val (.long (1 : Int64)), .second, .unset, .unset] [(.long v7), (.int (0 : Int32)), (.ref b35)])) rfl rfl (hb hby at_70)
        have A_b35_36 : Arv Z h36 b35 k35 .long (3 : Int32) [(.long v7), (.long (0 : Int64)), (.long (0 : Int64))] (.long (0 : Int64)) := Arv.set Ar36 qa36 S36 M36 H36 G36 rfl W36 0 rfl (Nat.le_of_ble_eq_true rfl)
        have N36 := Fr.snoc X36 N0 g_b35
        have sz36 : n0 ≤ h36.size := Nat.le_trans sz35 (Keep.of_wr W36).1
        refine own_st ?_ st36
        show own_Fin _ _ _ _ T36 (mkF m 71 #[.val (.int v1), .val (.long v2), .second, .val (.long v3), .second, .val (.long v4), .second, .val (.int v5), .val (.int (3 : Int32)), .val (.long v7), .second, .val (.long v8), .second, .val (.long v9), .second, .val (.ref b35), .val (.long (1 : Int64)), .second, .unset, .unset] [])
        refine own_lload X36 hx (hb hby at_71) (pc' := 73) rfl rfl ?_
        refine own_lload X36 hx (hb hby at_73) (pc' := 75) rfl rfl ?_
        obtain ⟨_, _, ⟨T37, L37, k37, n37⟩, -, X37, ⟨Lc37, hQ37, l37, y37, z37⟩, st37⟩ := Jvm.LawKit.callS X36 hx (y := (⟨"com/example/optiview/optiview/subset/ProfitTableCellsPinLaw", "sat", "(JJ)J"⟩ : MethodName)) hown (mvT hZ (hw _ (List.mem_of_getElem? (i := 7) rfl))) (mvT hZ (hw _ (List.mem_of_getElem? (i := 8) rfl))) (mvT hZ (hw _ (List.mem_of_getElem? (i := 9) rfl))) (mvT hZ (hw _ (List.mem_of_getElem? (i := 10) rfl))) (by decide) (backOf (W := 0) (rm2 l Z a0 hw [] (1 : Int64) v7 h36 n0 sz36 hn0) hZ (hw _ (List.mem_of_getElem? (i := 10) rfl)) (hw _ (List.mem_of_getElem? (i := 9) rfl)) (by decide) (by decide)) (g := (mkF m 75 #[.val (.int v1), .val (.long v2), .second, .val (.long v3), .second, .val (.long v4), .second, .val (.int v5), .val (.int (3 : Int32)), .val (.long v7), .second, .val (.long v8), .second, .val (.long v9), .second, .val (.ref b35), .val (.long (1 : Int64)), .second, .unset, .unset] [(.long v7), (.long (1 : Int64))])) rfl (by rw [hml]; rfl) (argsL := [(.long (1 : Int64)), (.long v7)]) (rest := []) (lenOf pd_1 rfl) rfl (by show 2 * 0 + _ ≤ _; exact Nat.le_of_eq rfl) (hb hby at_75) (fun _ _ => ⟨rfl, e36, (by decide : 1 + 0 ≤ _), (by decide : 3 + 0 ≤ _)⟩)
        dsimp only [Pt.U, Pt.locs, Pt.cells, Pt.slots] at X37 l37 y37 z37 st37 hQ37
        subst l37 y37 z37
        obtain ⟨rfl, N37q, e37'⟩ := hQ37
        have N37 := Fr.app N36 N37q
        refine own_st ?_ st37
        show own_Fin _ _ _ _ T37 (mkF m 78 #[.val (.int v1), .val (.long v2), .second, .val (.long v3), .second, .val (.long v4), .second, .val (.int v5), .val (.int (3 : Int32)), .val (.long v7), .second, .val (.long v8), .second, .val (.long v9), .second, .val (.ref b35), .val (.long (1 : Int64)), .second, .unset, .unset] [(.long (own_f2 (1 : Int64) v7))])
        refine own_lstore X37 hx (hb hby at_78) (pc' := 80) rfl (Ls' := #[.val (.int v1), .val (.long v2), .second, .val (.long v3), .second, .val (.long v4), .second, .val (.int v5), .val (.int (3 : Int32)), .val (.long v7), .second, .val (.long v8), .second, .val (.long v9), .second, .val (.ref b35), .val (.long (own_f2 (1 : Int64) v7)), .second, .unset, .unset]) rfl ?_
        refine own_iload X37 hx (hb hby at_80) (pc' := 82) rfl rfl ?_
        refine own_iconst X37 hx (hb hby at_82) (pc' := 83) rfl (v := (1 : Int32)) rfl ?_
        refine own_icmpNo X37 hx (hb hby at_83) (pc' := 86) rfl (tlt (by decide : (1 : Int32) < (3 : Int32))).2.2.2 ?_
        refine own_aload X37 hx (hb hby at_86) (pc' := 88) rfl rfl rfl ?_
        refine own_iconst X37 hx (hb hby at_88) (pc' := 89) rfl (v := (1 : Int32)) rfl ?_
        refine own_lload X37 hx (hb hby at_89) (pc' := 91) rfl rfl ?_
        obtain ⟨cl38, Ar38, qa38, S38, M38, H38, G38⟩ := id A_b35_36
        have hin38 : ¬ ((1 : Int32) < 0 ∨ cl38.slots.size ≤ ((1 : Int32)).toNatClampNeg) := inb_of S38 ⟨by decide, by decide⟩
        obtain ⟨T38, h38, X38, e38, W38, st38⟩ := stJ X37 hx hZ e37' Ar38 (j := (1 : Int32)) hin38 (g := (mkF m 91 #[.val (.int v1), .val (.long v2), .second, .val (.long v3), .second, .val (.long v4), .second, .val (.int v5), .val (.int (3 : Int32)), .val (.long v7), .second, .val (.long v8), .second, .val (.long v9), .second, .val (.ref b35), .val (.long (own_f2 (1 : Int64) v7)), .second, .unset, .unset] [(.long v8), (.int (1 : Int32)), (.ref b35)])) rfl rfl (hb hby at_91)
        have A_b35_38 : Arv Z h38 b35 k35 .long (3 : Int32) [(.long v7), (.long v8), (.long (0 : Int64))] (.long (0 : Int64)) := Arv.set Ar38 qa38 S38 M38 H38 G38 rfl W38 1 rfl (Nat.le_of_ble_eq_true rfl)
        have N38 := Fr.snoc X38 N37 g_b35
        have sz38 : n0 ≤ h38.size := Nat.le_trans sz36 (Keep.of_wr W38).1
        refine own_st ?_ st38
        show own_Fin _ _ _ _ T38 (mkF m 92 #[.val (.int v1), .val (.long v2), .second, .val (.long v3), .second, .val (.long v4), .second, .val (.int v5), .val (.int (3 : Int32)), .val (.long v7), .second, .val (.long v8), .second, .val (.long v9), .second, .val (.ref b35), .val (.long (own_f2 (1 : Int64) v7)), .second, .unset, .unset] [])
        refine own_lload X38 hx (hb hby at_92) (pc' := 94) rfl rfl ?_
        refine own_lload X38 hx (hb hby at_94) (pc' := 96) rfl rfl ?_
        obtain ⟨_, _, ⟨T39, L39, k39, n39⟩, -, X39, ⟨Lc39, hQ39, l39, y39, z39⟩, st39⟩ := Jvm.LawKit.callS X38 hx (y := (⟨"com/example/optiview/optiview/subset/ProfitTableCellsPinLaw", "sat", "(JJ)J"⟩ : MethodName)) hown (mvT hZ (hw _ (List.mem_of_getElem? (i := 7) rfl))) (mvT hZ (hw _ (List.mem_of_getElem? (i := 8) rfl))) (mvT hZ (hw _ (List.mem_of_getElem? (i := 9) rfl))) (mvT hZ (hw _ (List.mem_of_getElem? (i := 10) rfl))) (by decide) (backOf (W := 0) (rm2 l Z a0 hw [] (own_f2 (1 : Int64) v7) v8 h38 n0 sz38 hn1) hZ (hw _ (List.mem_of_getElem? (i := 10) rfl)) (hw _ (List.mem_of_getElem? (i := 9) rfl)) (by decide) (by decide)) (g := (mkF m 96 #[.val (.int v1), .val (.long v2), .second, .val (.long v3), .second, .val (.long v4), .second, .val (.int v5), .val (.int (3 : Int32)), .val (.long v7), .second, .val (.long v8), .second, .val (.long v9), .second, .val (.ref b35), .val (.long (own_f2 (1 : Int64) v7)), .second, .unset, .unset] [(.long v8), (.long (own_f2 (1 : Int64) v7))])) rfl (by rw [hml]; rfl) (argsL := [(.long (own_f2 (1 : Int64) v7)), (.long v8)]) (rest := []) (lenOf pd_1 rfl) rfl (by show 2 * 0 + _ ≤ _; exact Nat.le_of_eq rfl) (hb hby at_96) (fun _ _ => ⟨rfl, e38, (by decide : 1 + 0 ≤ _), (by decide : 3 + 0 ≤ _)⟩)
        dsimp only [Pt.U, Pt.locs, Pt.cells, Pt.slots] at X39 l39 y39 z39 st39 hQ39
        subst l39 y39 z39
        obtain ⟨rfl, N39q, e39'⟩ := hQ39
        have N39 := Fr.app N38 N39q
        refine own_st ?_ st39
        show own_Fin _ _ _ _ T39 (mkF m 99 #[.val (.int v1), .val (.long v2), .second, .val (.long v3), .second, .val (.long v4), .second, .val (.int v5), .val (.int (3 : Int32)), .val (.long v7), .second, .val (.long v8), .second, .val (.long v9), .second, .val (.ref b35), .val (.long (own_f2 (1 : Int64) v7)), .second, .unset, .unset] [(.long (own_f2 (own_f2 (1 : Int64) v7) v8))])
        refine own_lstore X39 hx (hb hby at_99) (pc' := 101) rfl (Ls' := #[.val (.int v1), .val (.long v2), .second, .val (.long v3), .second, .val (.long v4), .second, .val (.int v5), .val (.int (3 : Int32)), .val (.long v7), .second, .val (.long v8), .second, .val (.long v9), .second, .val (.ref b35), .val (.long (own_f2 (own_f2 (1 : Int64) v7) v8)), .second, .unset, .unset]) rfl ?_
        refine own_iload X39 hx (hb hby at_101) (pc' := 103) rfl rfl ?_
        refine own_iconst X39 hx (hb hby at_103) (pc' := 104) rfl (v := (2 : Int32)) rfl ?_
        refine own_icmpNo X39 hx (hb hby at_104) (pc' := 107) rfl (tlt (by decide : (2 : Int32) < (3 : Int32))).2.2.2 ?_
        refine own_aload X39 hx (hb hby at_107) (pc' := 109) rfl rfl rfl ?_
        refine own_iconst X39 hx (hb hby at_109) (pc' := 110) rfl (v := (2 : Int32)) rfl ?_
        refine own_lload X39 hx (hb hby at_110) (pc' := 112) rfl rfl ?_
        obtain ⟨cl40, Ar40, qa40, S40, M40, H40, G40⟩ := id A_b35_38
        have hin40 : ¬ ((2 : Int32) < 0 ∨ cl40.slots.size ≤ ((2 : Int32)).toNatClampNeg) := inb_of S40 ⟨by decide, by decide⟩
        obtain ⟨T40, h40, X40, e40, W40, st40⟩ := stJ X39 hx hZ e39' Ar40 (j := (2 : Int32)) hin40 (g := (mkF m 112 #[.val (.int v1), .val (.long v2), .second, .val (.long v3), .second, .val (.long v4), .second, .val (.int v5), .val (.int (3 : Int32)), .val (.long v7), .second, .val (.long v8), .second, .val (.long v9), .second, .val (.ref b35), .val (.long (own_f2 (own_f2 (1 : Int64) v7) v8)), .second, .unset, .unset] [(.long v9), (.int (2 : Int32)), (.ref b35)])) rfl rfl (hb hby at_112)
        have A_b35_40 : Arv Z h40 b35 k35 .long (3 : Int32) [(.long v7), (.long v8), (.long v9)] (.long (0 : Int64)) := Arv.set Ar40 qa40 S40 M40 H40 G40 rfl W40 2 rfl (Nat.le_of_ble_eq_true rfl)
        have N40 := Fr.snoc X40 N39 g_b35
        have sz40 : n0 ≤ h40.size := Nat.le_trans sz38 (Keep.of_wr W40).1
        refine own_st ?_ st40
        show own_Fin _ _ _ _ T40 (mkF m 113 #[.val (.int v1), .val (.long v2), .second, .val (.long v3), .second, .val (.long v4), .second, .val (.int v5), .val (.int (3 : Int32)), .val (.long v7), .second, .val (.long v8), .second, .val (.long v9), .second, .val (.ref b35), .val (.long (own_f2 (own_f2 (1 : Int64) v7) v8)), .second, .unset, .unset] [])
        refine own_lload X40 hx (hb hby at_113) (pc' := 115) rfl rfl ?_
        refine own_lload X40 hx (hb hby at_115) (pc' := 117) rfl rfl ?_
        obtain ⟨_, _, ⟨T41, L41, k41, n41⟩, -, X41, ⟨Lc41, hQ41, l41, y41, z41⟩, st41⟩ := Jvm.LawKit.callS X40 hx (y := (⟨"com/example/optiview/optiview/subset/ProfitTableCellsPinLaw", "sat", "(JJ)J"⟩ : MethodName)) hown (mvT hZ (hw _ (List.mem_of_getElem? (i := 7) rfl))) (mvT hZ (hw _ (List.mem_of_getElem? (i := 8) rfl))) (mvT hZ (hw _ (List.mem_of_getElem? (i := 9) rfl))) (mvT hZ (hw _ (List.mem_of_getElem? (i := 10) rfl))) (by decide) (backOf (W := 0) (rm2 l Z a0 hw [] (own_f2 (own_f2 (1 : Int64) v7) v8) v9 h40 n0 sz40 hn2) hZ (hw _ (List.mem_of_getElem? (i := 10) rfl)) (hw _ (List.mem_of_getElem? (i := 9) rfl)) (by decide) (by decide)) (g := (mkF m 117 #[.val (.int v1), .val (.long v2), .second, .val (.long v3), .second, .val (.long v4), .second, .val (.int v5), .val (.int (3 : Int32)), .val (.long v7), .second, .val (.long v8), .second, .val (.long v9), .second, .val (.ref b35), .val (.long (own_f2 (own_f2 (1 : Int64) v7) v8)), .second, .unset, .unset] [(.long v9), (.long (own_f2 (own_f2 (1 : Int64) v7) v8))])) rfl (by rw [hml]; rfl) (argsL := [(.long (own_f2 (own_f2 (1 : Int64) v7) v8)), (.long v9)]) (rest := []) (lenOf pd_1 rfl) rfl (by show 2 * 0 + _ ≤ _; exact Nat.le_of_eq rfl) (hb hby at_117) (fun _ _ => ⟨rfl, e40, (by decide : 1 + 0 ≤ _), (by decide : 3 + 0 ≤ _)⟩)
        dsimp only [Pt.U, Pt.locs, Pt.cells, Pt.slots] at X41 l41 y41 z41 st41 hQ41
        subst l41 y41 z41
        obtain ⟨rfl, N41q, e41'⟩ := hQ41
        have N41 := Fr.app N40 N41q
        refine own_st ?_ st41
        show own_Fin _ _ _ _ T41 (mkF m 120 #[.val (.int v1), .val (.long v2), .second, .val (.long v3), .second, .val (.long v4), .second, .val (.int v5), .val (.int (3 : Int32)), .val (.long v7), .second, .val (.long v8), .second, .val (.long v9), .second, .val (.ref b35), .val (.long (own_f2 (own_f2 (1 : Int64) v7) v8)), .second, .unset, .unset] [(.long (own_f2 (own_f2 (own_f2 (1 : Int64) v7) v8) v9))])
        refine own_lstore X41 hx (hb hby at_120) (pc' := 122) rfl (Ls' := #[.val (.int v1), .val (.long v2), .second, .val (.long v3), .second, .val (.long v4), .second, .val (.int v5), .val (.int (3 : Int32)), .val (.long v7), .second, .val (.long v8), .second, .val (.long v9), .second, .val (.ref b35), .val (.long (own_f2 (own_f2 (own_f2 (1 : Int64) v7) v8) v9)), .second, .unset, .unset]) rfl ?_
        refine own_aload X41 hx (hb hby at_122) (pc' := 124) rfl rfl rfl ?_
        obtain ⟨_, _, ⟨T42, L42, k42, n42⟩, -, X42, ⟨Lc42, hQ42, l42, y42, z42⟩, st42⟩ := Jvm.LawKit.callS X41 hx (y := (⟨"com/example/optiview/optiview/subset/ProfitTable", "cells", "([J)J"⟩ : MethodName)) hown (mvT hZ (hw _ (List.mem_of_getElem? (i := 2) rfl))) (mvT hZ (hw _ (List.mem_of_getElem? (i := 3) rfl))) (mvT hZ (hw _ (List.mem_of_getElem? (i := 4) rfl))) (mvT hZ (hw _ (List.mem_of_getElem? (i := 5) rfl))) (by decide) (backOf (W := 0) (rm1c3 l Z a0 hw [] b35 k35 v7 v8 v9 h40 n0 sz40 A_b35_40 hn0 hn1 hn2) hZ (hw _ (List.mem_of_getElem? (i := 5) rfl)) (hw _ (List.mem_of_getElem? (i := 4) rfl)) (by decide) (by decide)) (g := (mkF m 124 #[.val (.int v1), .val (.long v2), .second, .val (.long v3), .second, .val (.long v4), .second, .val (.int v5), .val (.int (3 : Int32)), .val (.long v7), .second, .val (.long v8), .second, .val (.long v9), .second, .val (.ref b35), .val (.long (own_f2 (own_f2 (own_f2 (1 : Int64) v7) v8) v9)), .second, .unset, .unset] [(.ref b35)])) rfl (by rw [hml]; rfl) (argsL := [(.ref b35)]) (rest := []) (lenOf pd_0 rfl) rfl (by show 2 * 0 + _ ≤ _; exact Nat.le_of_eq rfl) (hb hby at_124) (fun _ _ => ⟨rfl, e41', (by decide : 1 + 0 ≤ _), (by decide : 3 + 0 ≤ _)⟩)
        dsimp only [Pt.U, Pt.locs, Pt.cells, Pt.slots] at X42 l42 y42 z42 st42 hQ42
        subst l42 y42 z42
        obtain ⟨rfl, N42q, e42'⟩ := hQ42
        have N42 := Fr.app N41 N42q
        refine own_st ?_ st42
        show own_Fin _ _ _ _ T42 (mkF m 127 #[.val (.int v1), .val (.long v2), .second, .val (.long v3), .second, .val (.long v4), .second, .val (.int v5), .val (.int (3 : Int32)), .val (.long v7), .second, .val (.long v8), .second, .val (.long v9), .second, .val (.ref b35), .val (.long (own_f2 (own_f2 (own_f2 (1 : Int64) v7) v8) v9)), .second, .unset, .unset] [(.long (own_f1c3 v7 v8 v9))])
        refine own_lstore X42 hx (hb hby at_127) (pc' := 129) rfl (Ls' := #[.val (.int v1), .val (.long v2), .second, .val (.long v3), .second, .val (.long v4), .second, .val (.int v5), .val (.int (3 : Int32)), .val (.long v7), .second, .val (.long v8), .second, .val (.long v9), .second, .val (.ref b35), .val (.long (own_f2 (own_f2 (own_f2 (1 : Int64) v7) v8) v9)), .second, .val (.long (own_f1c3 v7 v8 v9)), .second]) rfl ?_
        refine own_cast ?_ (sg0_129 l hw hx hZ hby hml hown hnm hret hlk v1 v2 v3 v4 v5 (3 : Int32) v7 v8 v9 b35 (own_f2 (own_f2 (own_f2 (1 : Int64) v7) v8) v9) (own_f1c3 v7 v8 v9) sz40 X42 N42 e42' (by decide) (by decide))
        rw [own_f0_51, if_neg hc19, if_neg hc22, if_neg hc27]
set_option maxRecDepth 65536 in
set_option maxHeartbeats 40000000 in
theorem sg0_0 {p : Program} (l : Launch) {e : Env} {s : State} {m : MethodId} {args : Array Value} {below : List Frame} {meth : Method} {c : Code} {Z : State} {a0 : Array Value} (hw : ∀ d ∈ tables_1, d.before a0 Z = true) (hx : p.tables.exec = Jvm.exec) (hZ : Z.Warmed39 s.vm) (hby : c.code = code) (hml : c.maxLocals = 20) (hown : s.vm.findClass "com/example/optiview/optiview/subset/ProfitTableCellsPinLaw" = some m.cls) (hnm : meth.name = "law") (hret : meth.sig.returnType = (some .boolean)) (hlk : meth.locks = false) (q1 : Int32) (q2 : Int64) (q3 : Int64) (q4 : Int64) (q5 : Int32) {h0 : Heap} {n0 : Nat} (Z0 : n0 ≤ h0.size) {T0 : State} {L0 : List Loc} (X0 : Stand p l e room_1 s m args below meth c T0 L0 0 0) (N0 : Fr n0 L0) (e0 : T0.heap = h0)  :
    own_Fin p.tables e below (own_End below s (own_L n0 (.int (own_f0 q1 q2 q3 q4 q5))) 1 3) T0 (mkF m 0 #[.val (.int q1), .val (.long q2), .second, .val (.long q3), .second, .val (.long q4), .second, .val (.int q5), .unset, .unset, .unset, .unset, .unset, .unset, .unset, .unset, .unset, .unset, .unset, .unset] []) := by
  refine own_iloadN X0 hx (hb hby at_0) (pc' := 1) rfl rfl ?_
  refine own_iconst X0 hx (hb hby at_1) (pc' := 2) rfl (v := (3 : Int32)) rfl ?_
  refine own_iand X0 hx (hb hby at_2) (pc' := 3) rfl ?_
  refine own_istore X0 hx (hb hby at_3) (pc' := 5) rfl (Ls' := #[.val (.int q1), .val (.long q2), .second, .val (.long q3), .second, .val (.long q4), .second, .val (.int q5), .val (.int (q1 &&& (3 : Int32))), .unset, .unset, .unset, .unset, .unset, .unset, .unset, .unset, .unset, .unset, .unset]) rfl ?_
  refine own_lloadN X0 hx (hb hby at_5) (pc' := 6) rfl rfl ?_
  refine own_ldc2Long X0 hx hZ hown (hw _ (List.mem_of_getElem? (i := 0) rfl)) (hb hby at_6) (pc' := 9) rfl ?_
  refine own_land X0 hx (hb hby at_9) (pc' := 10) rfl ?_
  refine own_iload X0 hx (hb hby at_10) (pc' := 12) rfl rfl ?_
  refine own_bipush X0 hx (hb hby at_12) (pc' := 14) rfl (v := (63 : Int32)) rfl ?_
  refine own_iand X0 hx (hb hby at_14) (pc' := 15) rfl ?_
  refine own_lushr X0 hx (hb hby at_15) (pc' := 16) rfl ?_
  refine own_lstore X0 hx (hb hby at_16) (pc' := 18) rfl (Ls' := #[.val (.int q1), .val (.long q2), .second, .val (.long q3), .second, .val (.long q4), .second, .val (.int q5), .val (.int (q1 &&& (3 : Int32))), .val (.long (own_ush64 (q2 &&& (9223372036854775807 : Int64)) (q5 &&& (63 : Int32)))), .second, .unset, .unset, .unset, .unset, .unset, .unset, .unset, .unset, .unset]) rfl ?_
  refine own_lloadN X0 hx (hb hby at_18) (pc' := 19) rfl rfl ?_
  refine own_ldc2Long X0 hx hZ hown (hw _ (List.mem_of_getElem? (i := 0) rfl)) (hb hby at_19) (pc' := 22) rfl ?_
  refine own_land X0 hx (hb hby at_22) (pc' := 23) rfl ?_
  refine own_iload X0 hx (hb hby at_23) (pc' := 25) rfl rfl ?_
  refine own_bipush X0 hx (hb hby at_25) (pc' := 27) rfl (v := (6 : Int32)) rfl ?_
  refine own_iushr X0 hx (hb hby at_27) (pc' := 28) rfl ?_
  refine own_bipush X0 hx (hb hby at_28) (pc' := 30) rfl (v := (63 : Int32)) rfl ?_
  refine own_iand X0 hx (hb hby at_30) (pc' := 31) rfl ?_
  refine own_lushr X0 hx (hb hby at_31) (pc' := 32) rfl ?_
  refine own_lstore X0 hx (hb hby at_32) (pc' := 34) rfl (Ls' := #[.val (.int q1), .val (.long q2), .second, .val (.long q3), .second, .val (.long q4), .second, .val (.int q5), .val (.int (q1 &&& (3 : Int32))), .val (.long (own_ush64 (q2 &&& (9223372036854775807 : Int64)) (q5 &&& (63 : Int32)))), .second, .val (.long (own_ush64 (q3 &&& (9223372036854775807 : Int64)) ((own_ush32 q5 (6 : Int32)) &&& (63 : Int32)))), .second, .unset, .unset, .unset, .unset, .unset, .unset, .unset]) rfl ?_
  refine own_lload X0 hx (hb hby at_34) (pc' := 36) rfl rfl ?_
  refine own_ldc2Long X0 hx hZ hown (hw _ (List.mem_of_getElem? (i := 0) rfl)) (hb hby at_36) (pc' := 39) rfl ?_
  refine own_land X0 hx (hb hby at_39) (pc' := 40) rfl ?_
  refine own_iload X0 hx (hb hby at_40) (pc' := 42) rfl rfl ?_
  refine own_bipush X0 hx (hb hby at_42) (pc' := 44) rfl (v := (12 : Int32)) rfl ?_
  refine own_iushr X0 hx (hb hby at_44) (pc' := 45) rfl ?_
  refine own_bipush X0 hx (hb hby at_45) (pc' := 47) rfl (v := (63 : Int32)) rfl ?_
  refine own_iand X0 hx (hb hby at_47) (pc' := 48) rfl ?_
  refine own_lushr X0 hx (hb hby at_48) (pc' := 49) rfl ?_
  refine own_lstore X0 hx (hb hby at_49) (pc' := 51) rfl (Ls' := #[.val (.int q1), .val (.long q2), .second, .val (.long q3), .second, .val (.long q4), .second, .val (.int q5), .val (.int (q1 &&& (3 : Int32))), .val (.long (own_ush64 (q2 &&& (9223372036854775807 : Int64)) (q5 &&& (63 : Int32)))), .second, .val (.long (own_ush64 (q3 &&& (9223372036854775807 : Int64)) ((own_ush32 q5 (6 : Int32)) &&& (63 : Int32)))), .second, .val (.long (own_ush64 (q4 &&& (9223372036854775807 : Int64)) ((own_ush32 q5 (12 : Int32)) &&& (63 : Int32)))), .second, .unset, .unset, .unset, .unset, .unset]) rfl ?_
  refine own_cast ?_ (sg0_51 l hw hx hZ hby hml hown hnm hret hlk q1 q2 q3 q4 q5 (q1 &&& (3 : Int32)) (own_ush64 (q2 &&& (9223372036854775807 : Int64)) (q5 &&& (63 : Int32))) (own_ush64 (q3 &&& (9223372036854775807 : Int64)) ((own_ush32 q5 (6 : Int32)) &&& (63 : Int32))) (own_ush64 (q4 &&& (9223372036854775807 : Int64)) ((own_ush32 q5 (12 : Int32)) &&& (63 : Int32))) Z0 X0 N0 e0 (own_ushr _ _) (own_ushr _ _) (own_ushr _ _) (own_n3 _))
  rw [own_f0]
theorem ef_0 (m : MethodId) (q1 : Int32) (q2 : Int64) (q3 : Int64) (q4 : Int64) (q5 : Int32) : entryFrame m #[(.int q1), (.long q2), (.long q3), (.long q4), (.int q5)] maxLocals = mkF m 0 #[.val (.int q1), .val (.long q2), .second, .val (.long q3), .second, .val (.long q4), .second, .val (.int q5), .unset, .unset, .unset, .unset, .unset, .unset, .unset, .unset, .unset, .unset, .unset, .unset] [] := by first | (simp [entryFrame, mkF, argsToLocals, Value.category, maxLocals]; done) | rfl
set_option maxRecDepth 65536 in
set_option maxHeartbeats 40000000 in
theorem rm0 (l : Launch) (Z : State) (a0 : Array Value) (hw : ∀ d ∈ tables_1, d.before a0 Z = true) (ws : List Jvm.Cond) (q1 : Int32) (q2 : Int64) (q3 : Int64) (q4 : Int64) (q5 : Int32) (h0 : Heap) (n0 : Nat) (Z0 : n0 ≤ h0.size)  (own_law : ∀ (q1 : Int32) (q2 : Int64) (q3 : Int64) (q4 : Int64) (q5 : Int32), (own_f0 q1 q2 q3 q4 q5) = 1) :
    MetFree l x (head1 (Jvm.Cond.code x code maxLocals ret :: ws) room_1) (fun a U => a = #[(.int q1), (.long q2), (.long q3), (.long q4), (.int q5)] ∧ Z.Warmed39 U.vm ∧ U.heap = h0) (fun _ _ _ _ _ => True) (fun _ U o U' => ∃ v L, o = .returned v ∧ (own_L n0 (.int 1)) v U'.heap L ∧ FrameEnd U o U' L 1 3) := by
  refine MetFree.of_bodySF (plainFor_of_name pn_0) hisR ?_
  intro p e s m args below meth c s₁ Bd hml0 hP hK
  obtain ⟨rfl, hZ, hh⟩ := hP
  have hown : s.vm.findClass "com/example/optiview/optiview/subset/ProfitTableCellsPinLaw" = some m.cls := findClass_of_methodNamed Bd.named
  have hnm := (name_of_methodNamed Bd.named Bd.method).1
  have X0 : Stand p l e room_1 s m #[(.int q1), (.long q2), (.long q3), (.long q4), (.int q5)] below meth c s₁ [] 0 0 := Stand.of_body Bd
  have e0 : s₁.heap = h0 := by rw [← hh, Bd.state]; rfl
  have H := sg0_0 l hw Bd.exec hZ Bd.bytes hml0 hown hnm Bd.returns Bd.notSynchronized q1 q2 q3 q4 q5 Z0 X0 (Fr.nil n0) e0
  rw [own_law] at H
  obtain ⟨t, h1, h2, o, h3, h4⟩ := H
  exact ⟨t, o, castTop (ef_0 m q1 q2 q3 q4 q5) h1, h2, h3, h4⟩
theorem own_sat_ok {s w : Int64} (hs : 0 < s) (hw : ¬ w < 0) (h : w < ((9223372036854775807 : Int64) / s) - 1) : own_f2 s w = s * (w + 1) := by
  obtain ⟨q1, q2, q3⟩ := own_step hs hw h
  rw [own_lt64, own_e0] at hs hw
  have bw := own_b64 w
  have h5 : (w + 1).toInt = w.toInt + 1 := by rw [Jvm.Kit.i64_add (by rw [own_e1]; omega) (by rw [own_e1]; omega), own_e1]
  have n1 : ¬ w = 9223372036854775807 := by rw [own_eq64, own_max64]; omega
  have n2 : ¬ ((9223372036854775807 : Int64) / (w + 1)) < s := by
    rw [own_lt64, own_divM _ (by omega), h5]
    have : s.toInt ≤ 9223372036854775807 / (w.toInt + 1) := (Int.le_ediv_iff_mul_le (by omega)).mpr q2
    omega
  unfold own_f2; rw [if_neg n1, if_neg n2]
/-- what the third road of sat gives -/
theorem own_sat_cases (s w : Int64) (hs : 0 < s) (hw : ¬ w < 0) : own_f2 s w = 9223372036854775807 ∨ ((own_f2 s w).toInt = s.toInt * (w.toInt + 1)) := by
  rw [own_lt64, own_e0] at hs hw
  have bw := own_b64 w
  unfold own_f2
  by_cases n1 : w = 9223372036854775807
  · rw [if_pos n1]; exact Or.inl rfl
  · rw [if_neg n1]
    by_cases n2 : ((9223372036854775807 : Int64) / (w + 1)) < s
    · rw [if_pos n2]; exact Or.inl rfl
    · rw [if_neg n2]
      right
      rw [own_eq64, own_max64] at n1
      have h5 : (w + 1).toInt = w.toInt + 1 := by rw [Jvm.Kit.i64_add (by rw [own_e1]; omega) (by rw [own_e1]; omega), own_e1]
      rw [own_lt64, own_divM _ (by omega), h5] at n2
      have h6 : s.toInt * (w.toInt + 1) ≤ 9223372036854775807 := (Int.le_ediv_iff_mul_le (by omega)).mp (by omega)
      have h4 : 0 ≤ s.toInt * (w.toInt + 1) := Int.mul_nonneg (by omega) (by omega)
      rw [Jvm.Kit.i64_mul (by rw [h5]; omega) (by rw [h5]; omega), h5]
theorem own_sat_mono {s w : Int64} (hs : 0 < s) (hw : ¬ w < 0) : s.toInt ≤ (own_f2 s w).toInt := by
  have b := own_b64 s
  rcases own_sat_cases s w hs hw with h | h
  · rw [h, own_max64]; omega
  · rw [h]
    rw [own_lt64, own_e0] at hs hw
    have h1 : s.toInt * 1 ≤ s.toInt * (w.toInt + 1) := Int.mul_le_mul_of_nonneg_left (by omega) (by omega)
    omega
theorem own_sat_big {s w : Int64} (hs : 0 < s) (hw : ¬ w < 0) (h : ¬ w < ((9223372036854775807 : Int64) / s) - 1) : 4611686018427387904 ≤ (own_f2 s w).toInt := by
  have b := own_b64 s
  have hm := own_sat_mono hs hw
  rcases own_sat_cases s w hs hw with h' | h'
  · rw [h', own_max64]; omega
  · rw [own_lt64, own_e0] at hs hw
    by_cases hb : 4611686018427387904 ≤ s.toInt
    · omega
    · have hd := own_divM s hs
      have hq0 : 0 ≤ 9223372036854775807 / s.toInt := Int.ediv_nonneg (by omega) (by omega)
      have hq1 : 9223372036854775807 / s.toInt ≤ 9223372036854775807 := Int.ediv_le_self _ (by omega)
      have h1 : (((9223372036854775807 : Int64) / s) - 1).toInt = 9223372036854775807 / s.toInt - 1 := by rw [Jvm.Kit.i64_sub (by rw [hd, own_e1]; omega) (by rw [hd, own_e1]; omega), hd, own_e1]
      rw [own_lt64, h1] at h
      have h2 : s.toInt * (9223372036854775807 / s.toInt) ≤ s.toInt * (w.toInt + 1) := Int.mul_le_mul_of_nonneg_left (by omega) (by omega)
      have h3 := Int.mul_ediv_add_emod 9223372036854775807 s.toInt
      have h4 : 9223372036854775807 % s.toInt < s.toInt := Int.emod_lt_of_pos _ hs
      rw [h']; omega
theorem own_chk_eq (v1 : Int32) (v2 v3 v4 : Int64) (v5 v6 : Int32) (v7 v8 v9 s : Int64) : own_f0_129 v1 v2 v3 v4 v5 v6 v7 v8 v9 s s = 1 := by
  unfold own_f0_129
  by_cases h1 : s < 4611686018427387904
  · rw [if_pos h1, if_pos rfl]
  · rw [if_neg h1]
    by_cases h2 : s = 9223372036854775807
    · rw [if_pos h2, if_pos h2]
    · rw [if_neg h2, if_pos rfl]
theorem own_chk_max (v1 : Int32) (v2 v3 v4 : Int64) (v5 v6 : Int32) (v7 v8 v9 s : Int64) (h : 4611686018427387904 ≤ s.toInt) : own_f0_129 v1 v2 v3 v4 v5 v6 v7 v8 v9 s 9223372036854775807 = 1 := by
  unfold own_f0_129
  have h1 : ¬ s < 4611686018427387904 := by rw [own_lt64, show (4611686018427387904 : Int64).toInt = 4611686018427387904 from by decide]; omega
  rw [if_neg h1]
  by_cases h2 : s = 9223372036854775807
  · rw [if_pos h2, if_pos rfl]
  · rw [if_neg h2, if_pos rfl, ite_self]
theorem own_sat_pos {s w : Int64} (hs : 0 < s) (hw : ¬ w < 0) : 0 < own_f2 s w := by
  have := own_sat_mono hs hw
  rw [own_lt64, own_e0] at hs ⊢; omega
theorem own_law (q1 : Int32) (q2 q3 q4 : Int64) (q5 : Int32) : own_f0 q1 q2 q3 q4 q5 = 1 := by
  unfold own_f0
  have n0 := own_ushr q2 (q5 &&& (63 : Int32))
  have n1 := own_ushr q3 ((own_ush32 q5 (6 : Int32)) &&& (63 : Int32))
  have n2 := own_ushr q4 ((own_ush32 q5 (12 : Int32)) &&& (63 : Int32))
  generalize (own_ush64 (q2 &&& (9223372036854775807 : Int64)) (q5 &&& (63 : Int32))) = c0 at *
  generalize (own_ush64 (q3 &&& (9223372036854775807 : Int64)) ((own_ush32 q5 (6 : Int32)) &&& (63 : Int32))) = c1 at *
  generalize (own_ush64 (q4 &&& (9223372036854775807 : Int64)) ((own_ush32 q5 (12 : Int32)) &&& (63 : Int32))) = c2 at *
  have p1 : (0 : Int64) < 1 := by decide
  have r1 : own_f0_129 q1 q2 q3 q4 q5 1 c0 c1 c2 (own_f2 1 c0) (own_f1c1 c0) = 1 := by
    unfold own_f1c1
    by_cases h0 : c0 < ((9223372036854775807 : Int64) / 1) - 1
    · rw [if_pos h0, own_sat_ok p1 n0 h0]; exact own_chk_eq _ _ _ _ _ _ _ _ _ _
    · rw [if_neg h0]; exact own_chk_max _ _ _ _ _ _ _ _ _ _ (own_sat_big p1 n0 h0)
  have r2 : own_f0_129 q1 q2 q3 q4 q5 2 c0 c1 c2 (own_f2 (own_f2 1 c0) c1) (own_f1c2 c0 c1) = 1 := by
    unfold own_f1c2
    by_cases h0 : c0 < ((9223372036854775807 : Int64) / 1) - 1
    · rw [if_pos h0, own_sat_ok p1 n0 h0]
      have p2 := own_pos p1 n0 h0
      by_cases h1 : c1 < ((9223372036854775807 : Int64) / (1 * (c0 + 1))) - 1
      · rw [if_pos h1, own_sat_ok p2 n1 h1]; exact own_chk_eq _ _ _ _ _ _ _ _ _ _
      · rw [if_neg h1]; exact own_chk_max _ _ _ _ _ _ _ _ _ _ (own_sat_big p2 n1 h1)
    · rw [if_neg h0]
      have b0 := own_sat_big p1 n0 h0
      have b1 := own_sat_mono (own_sat_pos p1 n0) n1
      exact own_chk_max _ _ _ _ _ _ _ _ _ _ (by omega)
  have r3 : own_f0_129 q1 q2 q3 q4 q5 3 c0 c1 c2 (own_f2 (own_f2 (own_f2 1 c0) c1) c2) (own_f1c3 c0 c1 c2) = 1 := by
    unfold own_f1c3
    by_cases h0 : c0 < ((9223372036854775807 : Int64) / 1) - 1
    · rw [if_pos h0, own_sat_ok p1 n0 h0]
      have p2 := own_pos p1 n0 h0
      by_cases h1 : c1 < ((9223372036854775807 : Int64) / (1 * (c0 + 1))) - 1
      · rw [if_pos h1, own_sat_ok p2 n1 h1]
        have p3 := own_pos p2 n1 h1
        by_cases h2 : c2 < ((9223372036854775807 : Int64) / (1 * (c0 + 1) * (c1 + 1))) - 1
        · rw [if_pos h2, own_sat_ok p3 n2 h2]; exact own_chk_eq _ _ _ _ _ _ _ _ _ _
        · rw [if_neg h2]; exact own_chk_max _ _ _ _ _ _ _ _ _ _ (own_sat_big p3 n2 h2)
      · rw [if_neg h1]
        have b0 := own_sat_big p2 n1 h1
        have b1 := own_sat_mono (own_sat_pos p2 n1) n2
        exact own_chk_max _ _ _ _ _ _ _ _ _ _ (by omega)
    · rw [if_neg h0]
      have b0 := own_sat_big p1 n0 h0
      have b1 := own_sat_mono (own_sat_pos p1 n0) n1
      have b2 := own_sat_mono (own_sat_pos (own_sat_pos p1 n0) n1) n2
      exact own_chk_max _ _ _ _ _ _ _ _ _ _ (by omega)
  unfold own_f0_51
  rw [own_chk_eq, r1, r2, r3]
  simp only [ite_self]
set_option maxRecDepth 65536 in
set_option maxHeartbeats 40000000 in
theorem comes_1 {Post : Tables → Env → Array Value → State → Outcome → State → Prop} (hpost : ∀ tb e args s v u, (limb_1_1.after args s (.returned v) u = true ∧ limb_1_2.after args s (.returned v) u = true ∧ True) → FrameEnd s (.returned v) u (Jvm.fieldLocs frame_1_writes args s ++ Jvm.arrayLocs frame_1_arrays args s ++ Jvm.staticLocs frame_1_statics s) 16 128 → Post tb e args s (.returned v) u) :
    ArmFor flags0 classFile x code maxLocals ret World_1 tables_1 room_1 Calls_1 rest_1 Pre_1 Post := by
  intro l hfl _ _ p e ha hc hk s m args below hf hA hF happ hP
  obtain ⟨hcalls, hrest, hpre⟩ := hP
  obtain ⟨-, -, -, hnamed, -, -, -, hat⟩ := (Spec.applies_iff hf).mp happ
  obtain ⟨hg, hn⟩ := and_e (Cond.before_iff.mp (show (Jvm.Cond.and given_1 narrow_1).before args s = true from hpre))
  obtain ⟨gc, g0⟩ := and_e hg
  obtain ⟨gv0, g1⟩ := and_e g0
  obtain ⟨gv1, g2⟩ := and_e g1
  obtain ⟨gv2, g3⟩ := and_e g2
  obtain ⟨gv3, g4⟩ := and_e g3
  have gv4 := g4
  obtain ⟨w0, w1, w2, w3, w4, rfl⟩ : ∃ w0 w1 w2 w3 w4 : Value, args = #[w0, w1, w2, w3, w4] := by
    have hs : args.size = 5 := by simpa [Cond.value, given_1] using gc
    obtain ⟨L⟩ := args
    match L, hs with
    | [w0, w1, w2, w3, w4], _ => exact ⟨w0, w1, w2, w3, w4, rfl⟩
  have hw := fun d (hd : d ∈ tables_1) => atoms_spec (ws := Jvm.Cond.code x code maxLocals ret :: tables_1) hat d (List.mem_cons_of_mem _ hd)
  obtain ⟨i0, ei0⟩ := is_v gv0
  obtain rfl : w0 = (.int i0) := Option.some.inj ei0
  obtain ⟨i1, ei1⟩ := isL_v gv1
  obtain rfl : w1 = (.long i1) := Option.some.inj ei1
  obtain ⟨i2, ei2⟩ := isL_v gv2
  obtain rfl : w2 = (.long i2) := Option.some.inj ei2
  obtain ⟨i3, ei3⟩ := isL_v gv3
  obtain rfl : w3 = (.long i3) := Option.some.inj ei3
  obtain ⟨i4, ei4⟩ := is_v gv4
  obtain rfl : w4 = (.int i4) := Option.some.inj ei4
  obtain ⟨n, o, h1, h2, h3, _, L, rfl, ⟨rfl, N⟩, hq⟩ := rm0 l s _ hw tables_1 i0 i1 i2 i3 i4 s.heap s.heap.size (Nat.le_refl _) own_law p e ha hc hk s m _ below hf ((Spec.applies_iff_loose hf).mp happ).1 ⟨rfl, State.Warmed39.refl s, rfl⟩ trivial
  refine ⟨n, _, h1, h2, h3, hpost _ _ _ _ _ _ ⟨Cond.after_iff.mpr rfl, Cond.after_iff.mpr (eq_i res_at (Term.int_eval (1)) rfl), trivial⟩ ⟨hq.1, hq.2.1, (hq.2.2.sift fun y hy => Or.inr (N y hy)).mono (by decide) (by decide)⟩⟩
theorem main_1_1 : Claimed_1_1 := comes_1 fun _ _ _ _ _ _ h hF => ⟨h.1, hF⟩
theorem main_1_2 : Claimed_1_2 := comes_1 fun _ _ _ _ _ _ h hF => ⟨h.2.1, hF⟩
end Jvm.Pilot.@@N@@
namespace Jvm.Pilot.@@N@@
open Jvm Jvm.ClassFile Sem Op Lib Jvm.Free Jvm.Stand Jvm.Pilot.@@N@@.Jvm.D
/-! MADE BY PROGRAM (witnessworld.py) out of the Statement's table words and the real class files: 11 classes; the members and pool entries that the words name. The judged class is class 1, her method 2. -/
namespace start1
open Jvm.ClassFile
def u (s : String) : CpInfo := .utf8 (stringToUtf16 s)
/-- a pool by its gaps: so many unusable entries, then the entry; so many at the end -/
def gap : Nat → List CpInfo → List CpInfo
  | 0, r => r
  | n + 1, r => .unusable :: gap n r
def poolList (es : List (Nat × CpInfo)) (last : Nat) : List CpInfo := es.foldr (fun e r => gap e.1 (e.2 :: r)) (gap last [])
def pool (es : List (Nat × CpInfo)) (last : Nat) : Array CpInfo := ⟨poolList es last⟩
def fileOf (pool : Array CpInfo) (this : Nat) (attrs : Array Attribute := #[]) (ms : Array MethodInfo := #[]) (fl : Nat := 33) (sup : Nat := 0) (ifs : Array Nat := #[]) (fds : Array FieldInfo := #[]) : ClassFile where
  minorVersion := 0
  majorVersion := 65
  constantPool := pool
  accessFlags := fl
  thisClass := this
  superClass := sup
  interfaces := ifs
  fields := fds
  methods := ms
  attributes := attrs
def plain (name : String) (sup : Option ClassId) : Class where
  name := name
  kind := .ordinary
  loader := none
  accessFlags := 33
  super := sup
  interfaces := #[]
  cf := none
  fields := #[]
  methods := #[]
  instanceTypes := #[]
  staticTypes := #[]
  resolved := #[]
  callSites := []
  init := .initialized
  statics := none
  mirror := none

def pool0 : Array CpInfo := pool [(5, u "<init>"), (0, u "()V"), (1, .class_ 10), (1, u "java/lang/Object")] 113

def k0m0 : Method := { name := "<init>", desc := "()V", sig := { parameters := [], returnType := none }, accessFlags := 1, code := none }
/-- java/lang/Object -/
def k0 : Class := { plain "java/lang/Object" none with
  accessFlags := 33
  interfaces := #[]
  cf := some (fileOf pool0 8 #[] #[{ accessFlags := 1, nameIndex := 5, descriptorIndex := 6, attributes := #[] }] 33 0 #[] #[])
  fields := #[]
  methods := #[k0m0]
  instanceTypes := #[]
  staticTypes := #[]
  resolved := Array.replicate 124 none
  statics := none }

def pool1 : Array CpInfo := pool [(2, .class_ 4), (1, u "java/lang/Object"), (0, u "<init>"), (0, u "()V"), (2, .long 9223372036854775807), (1, .methodref 12 13), (0, .class_ 14), (0, .nameAndType 15 16), (0, u "com/example/optiview/optiview/subset/ProfitTableCellsPinLaw"), (0, u "sat"), (0, u "(JJ)J"), (0, .methodref 18 19), (0, .class_ 20), (0, .nameAndType 21 22), (0, u "com/example/optiview/optiview/subset/ProfitTable"), (0, u "cells"), (0, u "([J)J"), (0, .long 4611686018427387904), (4, u "law"), (0, u "(IJJJI)Z")] 4

def k1m0 : Method := { name := "<init>", desc := "()V", sig := { parameters := [], returnType := none }, accessFlags := 1, code := none }
def k1c1 : Code := { maxStack := 6, maxLocals := 6, code := method_2_code, exceptionTable := #[], attributes := #[] }
def k1m1 : Method := { name := "sat", desc := "(JJ)J", sig := { parameters := [.long, .long], returnType := some .long }, accessFlags := 10, code := some k1c1 }
def k1c2 : Code := { maxStack := 4, maxLocals := 20, code := code, exceptionTable := #[], attributes := #[] }
def k1m2 : Method := { name := "law", desc := "(IJJJI)Z", sig := { parameters := [.int, .long, .long, .long, .int], returnType := some .boolean }, accessFlags := 9, code := some k1c2 }
/-- com/example/optiview/optiview/subset/ProfitTableCellsPinLaw -/
def k1 : Class := { plain "com/example/optiview/optiview/subset/ProfitTableCellsPinLaw" (some 0) with
  accessFlags := 49
  interfaces := #[]
  cf := some (fileOf pool1 12 #[] #[{ accessFlags := 1, nameIndex := 5, descriptorIndex := 6, attributes := #[] }, { accessFlags := 10, nameIndex := 15, descriptorIndex := 16, attributes := #[] }, { accessFlags := 9, nameIndex := 28, descriptorIndex := 29, attributes := #[] }] 49 2 #[] #[])
  fields := #[]
  methods := #[k1m0, k1m1, k1m2]
  instanceTypes := #[]
  staticTypes := #[]
  resolved := Array.replicate 34 none
  statics := none }

def pool2 : Array CpInfo := pool [(4, .class_ 6), (1, u "java/lang/Object"), (3, .class_ 12), (1, u "com/example/optiview/optiview/subset/ProfitTable"), (0, u "profits"), (0, u "[J"), (2, u "weights"), (0, u "[[J"), (0, .long 9223372036854775807), (3, u "cells"), (0, u "([J)J"), (84, u "MAX_CELLS"), (0, u "J"), (1, u "LEAF"), (0, u "I"), (1, u "DIMENSIONS")] 34

def k2c0 : Code := { maxStack := 6, maxLocals := 8, code := prog_42_method_2_code, exceptionTable := #[], attributes := #[] }
def k2m0 : Method := { name := "cells", desc := "([J)J", sig := { parameters := [(.array .long)], returnType := some .long }, accessFlags := 8, code := some k2c0 }
/-- com/example/optiview/optiview/subset/ProfitTable -/
def k2 : Class := { plain "com/example/optiview/optiview/subset/ProfitTable" (some 0) with
  accessFlags := 48
  interfaces := #[]
  cf := some (fileOf pool2 10 #[] #[{ accessFlags := 8, nameIndex := 23, descriptorIndex := 24, attributes := #[] }] 48 4 #[] #[{ accessFlags := 24, nameIndex := 109, descriptorIndex := 110, attributes := #[] }, { accessFlags := 26, nameIndex := 112, descriptorIndex := 113, attributes := #[] }, { accessFlags := 26, nameIndex := 115, descriptorIndex := 113, attributes := #[] }, { accessFlags := 18, nameIndex := 13, descriptorIndex := 14, attributes := #[] }, { accessFlags := 18, nameIndex := 17, descriptorIndex := 18, attributes := #[] }])
  fields := #[{ name := "MAX_CELLS", type := .long, accessFlags := 24, slot := 0, constantValue := 0 }, { name := "LEAF", type := .int, accessFlags := 26, slot := 1, constantValue := 0 }, { name := "DIMENSIONS", type := .int, accessFlags := 26, slot := 2, constantValue := 0 }, { name := "profits", type := (.array .long), accessFlags := 18, slot := 0, constantValue := 0 }, { name := "weights", type := (.array (.array .long)), accessFlags := 18, slot := 1, constantValue := 0 }]
  methods := #[k2m0]
  instanceTypes := #[(.array .long), (.array (.array .long))]
  staticTypes := #[.long, .int, .int]
  resolved := Array.replicate 150 none
  statics := none }

def pool3 : Array CpInfo := pool [(1, u "java/lang/Cloneable"), (0, .class_ 1), (0, u "java/lang/Object"), (0, .class_ 3)] 3

/-- java/lang/Cloneable -/
def k3 : Class := { plain "java/lang/Cloneable" (some 0) with
  accessFlags := 1537
  interfaces := #[]
  cf := some (fileOf pool3 2 #[] #[] 1537 4 #[] #[])
  fields := #[]
  methods := #[]
  instanceTypes := #[]
  staticTypes := #[]
  resolved := Array.replicate 8 none
  statics := none }

def pool4 : Array CpInfo := pool [(1, u "java/io/Serializable"), (0, .class_ 1), (0, u "java/lang/Object"), (0, .class_ 3)] 3

/-- java/io/Serializable -/
def k4 : Class := { plain "java/io/Serializable" (some 0) with
  accessFlags := 1537
  interfaces := #[]
  cf := some (fileOf pool4 2 #[] #[] 1537 4 #[] #[])
  fields := #[]
  methods := #[]
  instanceTypes := #[]
  staticTypes := #[]
  resolved := Array.replicate 8 none
  statics := none }

/-- the primitive byte -/
def k5 : Class := { plain "byte" none with kind := .primitive 'B', accessFlags := 0x411 }
/-- [B -/
def k6 : Class := { plain "[B" (some 0) with kind := .array 5 .byte, interfaces := #[3, 4], accessFlags := 1041 }

/-- the primitive int -/
def k7 : Class := { plain "int" none with kind := .primitive 'I', accessFlags := 0x411 }
/-- [I -/
def k8 : Class := { plain "[I" (some 0) with kind := .array 7 .int, interfaces := #[3, 4], accessFlags := 1041 }

/-- the primitive long -/
def k9 : Class := { plain "long" none with kind := .primitive 'J', accessFlags := 0x411 }
/-- [J -/
def k10 : Class := { plain "[J" (some 0) with kind := .array 9 .long, interfaces := #[3, 4], accessFlags := 1041 }

def heap : Heap := #[]
def classes : Array Class := #[k0, k1, k2, k3, k4, k5, k6, k7, k8, k9, k10]
def interned : List (Array UInt16 × Addr) := []
def slotsUsed : Nat := 0
def theMethod : MethodId := ⟨1, 2⟩
def args0 : Array Value := #[.int 5, .long 500, .long 5, .long 3, .int 7]
def aboutOver (below : List Frame) : State where
  vm := { classes := classes, interned := interned.toArray }
  heap := heap
  slotsUsed := slotsUsed
  threads := #[{ frames := .invoking theMethod args0 :: below }]
def below0 : List Frame := [.native { method := ⟨0, 0⟩, args := #[] }]
def about1 : State := aboutOver below0
def p0 : Program := .bare "" "" ""
def e0 : Env := launch0.env 0 0 0
theorem w_frames : about1.frames = Frame.invoking theMethod args0 :: below0 := rfl
set_option maxRecDepth 65536 in
theorem w_args : argsFit about1.vm theMethod args0 = true := by decide +kernel
set_option maxRecDepth 65536 in
theorem w_heap : heapFits about1 = true := by decide +kernel
set_option maxRecDepth 65536 in
theorem w_runnable : about1.curStatus? = some .runnable := by decide +kernel
set_option maxRecDepth 65536 in
theorem w_alone : about1.alone = true := by decide +kernel
set_option maxRecDepth 65536 in
theorem w_named : about1.methodNamed? x = some theMethod := by decide +kernel
set_option maxRecDepth 65536 in
theorem w_hears : about1.hears theMethod below0 = true := by decide +kernel
set_option maxRecDepth 65536 in
theorem w_ripe : about1.ripe theMethod args0 below0 = true := by decide +kernel
theorem w_running : about1.status = .running := rfl
set_option maxRecDepth 65536 in
theorem w_room : about1.hasRoom e0.platform room_1 = true :=
  launch0.hasRoom_least _ room_1 (by decide +kernel) (by decide +kernel) (by decide +kernel) (by decide +kernel) (by decide +kernel) (by decide +kernel)
theorem allAtoms_all (ts : List Jvm.Cond) (a : Array Jvm.Value) (st : Jvm.State) : (allAtoms ts).before a st = ts.all (fun c => c.before a st) := by
  induction ts with
  | nil => rfl
  | cons c t ih =>
    show (Jvm.Cond.and c (allAtoms t)).before a st = _
    rw [Jvm.Cond.before_and, ih, List.all_cons]
def words1 : List Jvm.Cond := Jvm.Cond.code x code maxLocals ret :: tables_1
/-- a 'code' word, met by the world's own term for the bytes: nothing is compared byte by byte -/
theorem code_word {y : MethodName} {bytes : ByteArray} {mx : Nat} {rt : Option FieldType} {a : Array Value} {s : State} {m : MethodId} {meth : Method} {c : Code} (h1 : s.methodNamed? y = some m) (h2 : s.vm.method? m = some meth) (h3 : meth.code = some c) (h4 : c.code = bytes)
    (h5 : (c.maxLocals == mx && c.exceptionTable.isEmpty && decide (c.maxStack ≤ mostOperands) && decide (meth.sig.returnType = rt) && !meth.locks && decide (parseMethodDescriptor y.desc = some meth.sig)) = true) : (Jvm.Cond.code y bytes mx rt).before a s = true := by
  simp only [Bool.and_eq_true, beq_iff_eq, Bool.not_eq_true', decide_eq_true_eq] at h5
  obtain ⟨⟨⟨⟨⟨g1, g2⟩, g3⟩, g4⟩, g5⟩, g6⟩ := h5
  simp [Cond.before, Cond.holds, Cond.value, h1, h2, h3, h4, g1, g2, g3, g4, g5, g6]
def isCode : Jvm.Cond → Bool
  | .code _ _ _ _ => true
  | _ => false
theorem all_split {L : List Jvm.Cond} {P : Jvm.Cond → Bool} (h1 : L.all (fun c => isCode c || P c) = true) (h2 : ∀ c ∈ L.filter isCode, P c = true) : L.all P = true := by
  refine List.all_eq_true.mpr fun c hc => ?_
  have h := List.all_eq_true.mp h1 c hc
  rcases Bool.eq_false_or_eq_true (isCode c) with hi | hi
  · exact h2 c (List.mem_filter.mpr ⟨hc, hi⟩)
  · simpa [hi] using h
set_option maxRecDepth 65536 in
theorem w_c0 : (Jvm.Cond.code x code maxLocals ret).before args0 about1 = true := code_word (m := ⟨1, 2⟩) (meth := k1m2) (c := k1c2) (by decide +kernel) rfl rfl rfl (by decide +kernel)
set_option maxRecDepth 65536 in
theorem w_c1 : (Jvm.Cond.code ({ cls := "com/example/optiview/optiview/subset/ProfitTable", name := "cells", desc := "([J)J" } : Jvm.MethodName) prog_42_method_2_code (8 : Nat) (Option.some Jvm.ClassFile.FieldType.long)).before args0 about1 = true := code_word (m := ⟨2, 0⟩) (meth := k2m0) (c := k2c0) (by decide +kernel) rfl rfl rfl (by decide +kernel)
set_option maxRecDepth 65536 in
theorem w_c2 : (Jvm.Cond.code ({ cls := "com/example/optiview/optiview/subset/ProfitTableCellsPinLaw", name := "sat", desc := "(JJ)J" } : Jvm.MethodName) method_2_code (6 : Nat) (Option.some Jvm.ClassFile.FieldType.long)).before args0 about1 = true := code_word (m := ⟨1, 1⟩) (meth := k1m1) (c := k1c1) (by decide +kernel) rfl rfl rfl (by decide +kernel)
def codes1 : List Jvm.Cond := [Jvm.Cond.code x code maxLocals ret, Jvm.Cond.code ({ cls := "com/example/optiview/optiview/subset/ProfitTable", name := "cells", desc := "([J)J" } : Jvm.MethodName) prog_42_method_2_code (8 : Nat) (Option.some Jvm.ClassFile.FieldType.long), Jvm.Cond.code ({ cls := "com/example/optiview/optiview/subset/ProfitTableCellsPinLaw", name := "sat", desc := "(JJ)J" } : Jvm.MethodName) method_2_code (6 : Nat) (Option.some Jvm.ClassFile.FieldType.long)]
set_option maxRecDepth 65536 in
theorem codes_eq : words1.filter isCode = codes1 := rfl
theorem w_codes : ∀ c ∈ words1.filter isCode, c.before args0 about1 = true := by
  rw [codes_eq]
  intro c hc
  simp only [codes1, List.mem_cons, List.not_mem_nil, or_false] at hc
  rcases hc with rfl | rfl | rfl
  · exact w_c0
  · exact w_c1
  · exact w_c2
set_option maxRecDepth 65536 in
theorem w_t1 : words1.all (fun c => isCode c || c.before args0 about1) = true := by decide +kernel
theorem w_tables : (allAtoms (Jvm.Cond.code x code maxLocals ret :: tables_1)).before args0 about1 = true := by
  rw [allAtoms_all]
  show words1.all (fun c => c.before args0 about1) = true
  refine all_split ?_ w_codes
  rw [w_t1]
set_option maxRecDepth 65536 in
theorem w_case : (Jvm.Cond.and given_1 narrow_1).before args0 about1 = true := by decide +kernel
theorem w_applies : (headSpec (Jvm.Cond.code x code maxLocals ret :: tables_1) room_1).applies x e0.platform about1 = true :=
  (Spec.applies_iff w_frames).mpr ⟨w_running, w_runnable, w_alone, w_named, w_hears, w_ripe, w_room, w_tables⟩
theorem atStart : AtStart classFile x code maxLocals ret World_1 tables_1 room_1 Calls_1 rest_1 Pre_1 launch0 p0 e0 about1 theMethod args0 below0 :=
  ⟨lists_1, trivial, launch0.admits_env _ _ _, launch0.least_env, fairChoices_fair.cas, fairChoices_fair.clock, w_frames, w_args, w_heap, w_applies, trivial, trivial, w_case⟩
end start1
theorem witness_1 : WitnessClaimed_1 := ⟨start1.p0, start1.e0, start1.about1, start1.theMethod, start1.args0, start1.below0, start1.atStart⟩
end Jvm.Pilot.@@N@@
