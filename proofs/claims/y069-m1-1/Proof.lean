import JvmDerived
import JvmDerived.Pilot.@@N@@Statement
import JvmDerived.Pilot.@@N@@Code
set_option linter.unusedVariables false
set_option linter.unusedSimpArgs false
namespace Jvm.OwnKit
open Sem ClassFile Op Lib Jvm.Stand Jvm.Free Jvm.LawKit Jvm.RoadKit
/-- from S the run ends as wanted: it returns v, leaves a heap and has written the places L -/
def Goes (p : Program) (e : Env) (below : List Frame) (s : State) (K N : Nat) (Q : Option Value → Heap → List Loc → Prop) (S : State) : Prop :=
  ∃ s₂ o, Steps p.tables e below S s₂ ∧ s₂.status = .running ∧ Ended s₂ below o ∧ ∃ v L, o = .returned v ∧ Q v s₂.heap L ∧ FrameEnd s o s₂ L K N
def Cl (p : Program) (e : Env) (below : List Frame) (G : State → Prop) : Prop := ∀ S S', (∀ t, Steps p.tables e below S' t → Steps p.tables e below S t) → G S' → G S
theorem Goes.cl (p : Program) (e : Env) (below : List Frame) (s : State) (K N : Nat) (Q : Option Value → Heap → List Loc → Prop) : Cl p e below (Goes p e below s K N Q) := fun S S' h k => by
  obtain ⟨s₂, o, h1, r⟩ := k
  exact ⟨s₂, o, h _ h1, r⟩
/-- a body's contract -/
abbrev Con (l : Launch) (y : MethodName) (bytes : ByteArray) (maxL : Nat) (ret : Option FieldType) (ws : List Jvm.Cond) (rm : Room) (Z : State) (as : Array Value) (h0 : Heap) (K N : Nat) (Q : Option Value → Heap → List Loc → Prop) : Prop :=
  MetFree l y (head1 (Jvm.Cond.code y bytes maxL ret :: ws) rm) (fun a U => a = as ∧ Z.Warmed39 U.vm ∧ U.heap = h0) (fun _ _ _ _ _ => True) (fun _ U o U' => ∃ v L, o = .returned v ∧ Q v U'.heap L ∧ FrameEnd U o U' L K N)
theorem Con.of {l : Launch} {y : MethodName} {bytes : ByteArray} {maxL : Nat} {ret : Option FieldType} {ws : List Jvm.Cond} {rm : Room} {Z : State} {as : Array Value} {h0 : Heap} {K N : Nat} {Q : Option Value → Heap → List Loc → Prop} {Ls : Array Slot}
    (pl : plainFor y = true) (hef : ∀ m, entryFrame m as maxL = mkF m 0 Ls [])
    (H : ∀ (p : Program) (e : Env) (s : State) (m : MethodId) (below : List Frame) (meth : Method) (c : Code) (s₁ : State) (G : State → Prop), G = Goes p e below s K N Q → Cl p e below G → p.tables.exec = Jvm.exec → c.code = bytes → c.maxLocals = maxL → s.vm.findClass y.cls = some m.cls → meth.name = y.name → meth.sig.returnType = ret → meth.locks = false → Z.Warmed39 s.vm → Stand p l e rm s m as below meth c s₁ [] 0 0 → s₁.heap = h0 → G (s₁.setTop (mkF m 0 Ls []))) :
    Con l y bytes maxL ret ws rm Z as h0 K N Q := by
  refine MetFree.of_bodySF pl hisR ?_
  intro p e s m args below meth c s₁ Bd hml0 hP hK
  obtain ⟨rfl, hZ, hh⟩ := hP
  have X0 : Stand p l e rm s m args below meth c s₁ [] 0 0 := Stand.of_body Bd
  have e0 : s₁.heap = h0 := by rw [← hh, Bd.state]; rfl
  have g := H p e s m below meth c s₁ _ rfl (Goes.cl p e below s K N Q) Bd.exec Bd.bytes hml0 (findClass_of_methodNamed Bd.named) (name_of_methodNamed Bd.named Bd.method).1 Bd.returns Bd.notSynchronized hZ X0 e0
  rw [← hef m] at g
  exact g
theorem Wr.size {h h' : Heap} {a : Addr} {sl : Nat} {v : Value} (W : Wr h h' a sl v) : h.size ≤ h'.size := by
  obtain ⟨c, -, -, -, rfl⟩ := W
  simp
section New
variable {p : Program} {l : Launch} {e : Env} {R : Room} {s : State} {m : MethodId} {args : Array Value} {below : List Frame} {meth : Method} {c : Code} {T : State} {locs : List Loc} {cells slots : Nat} {Z : State} {a0 : Array Value} {h : Heap} {G : State → Prop} {pc pc' : Nat} {Ls Ls' : Array Slot} {rest : List Value} {K N : Nat} {Q : Option Value → Heap → List Loc → Prop}
/-! the ends -/
theorem e_ret (hGe : G = Goes p e below s K N Q) (X : Stand p l e R s m args below meth c T locs cells slots) (hx : p.tables.exec = Jvm.exec) {w : Value} {t : FieldType} {i : Instr} (hret : meth.sig.returnType = some t) (hlk : meth.locks = false) (hd : decode c.code pc = .ok (i, 1)) (hn : narrow t w = w)
    (hi : (i = .ireturn ∧ (t = .int ∨ t = .boolean ∨ t = .byte ∨ t = .char ∨ t = .short) ∧ ∃ z, w = .int z) ∨ (i = .lreturn ∧ t = .long ∧ ∃ z, w = .long z) ∨ (i = .dreturn ∧ t = .double ∧ ∃ z, w = .double z) ∨ (i = .freturn ∧ t = .float ∧ ∃ z, w = .float z) ∨ (i = .areturn ∧ t.isReference = true ∧ w.isRef = true))
    (eT : T.heap = h) (hk : cells ≤ K) (hs : slots ≤ N) (hQ : Q (some w) h locs) : G (T.setTop (mkF m pc Ls (w :: rest))) := by
  subst hGe
  obtain ⟨fs, hr, hrun, hended, hW, hsame⟩ := X.leave (v := some w) (fun h => by rw [hret] at h; cases h) hlk
  refine ⟨_, _, retOut X hx hret hn hi hd hr, hrun, hended, _, _, rfl, ?_, ⟨_, rfl⟩, hW, hsame.mono hk hs⟩
  show Q _ T.heap _
  rw [eT]; exact hQ
theorem e_retI (hGe : G = Goes p e below s K N Q) (X : Stand p l e R s m args below meth c T locs cells slots) (hx : p.tables.exec = Jvm.exec) {z : Int32} (hret : meth.sig.returnType = some .int) (hlk : meth.locks = false) (hd : decode c.code pc = .ok (.ireturn, 1)) (eT : T.heap = h) (hk : cells ≤ K) (hs : slots ≤ N) (hQ : Q (some (.int z)) h locs) : G (T.setTop (mkF m pc Ls (.int z :: rest))) :=
  e_ret hGe X hx hret hlk hd rfl (Or.inl ⟨rfl, Or.inl rfl, z, rfl⟩) eT hk hs hQ
theorem e_retD (hGe : G = Goes p e below s K N Q) (X : Stand p l e R s m args below meth c T locs cells slots) (hx : p.tables.exec = Jvm.exec) {z : UInt64} (hret : meth.sig.returnType = some .double) (hlk : meth.locks = false) (hd : decode c.code pc = .ok (.dreturn, 1)) (eT : T.heap = h) (hk : cells ≤ K) (hs : slots ≤ N) (hQ : Q (some (.double z)) h locs) : G (T.setTop (mkF m pc Ls (.double z :: rest))) :=
  e_ret hGe X hx hret hlk hd rfl (Or.inr (Or.inr (Or.inl ⟨rfl, rfl, z, rfl⟩))) eT hk hs hQ
theorem e_retA (hGe : G = Goes p e below s K N Q) (X : Stand p l e R s m args below meth c T locs cells slots) (hx : p.tables.exec = Jvm.exec) {a : Addr} {t : FieldType} (hret : meth.sig.returnType = some t) (ht : t.isReference = true) (hlk : meth.locks = false) (hd : decode c.code pc = .ok (.areturn, 1)) (eT : T.heap = h) (hk : cells ≤ K) (hs : slots ≤ N) (hQ : Q (some (.ref a)) h locs) : G (T.setTop (mkF m pc Ls (.ref a :: rest))) :=
  e_ret hGe X hx hret hlk hd (by cases t <;> first | rfl | (cases ht)) (Or.inr (Or.inr (Or.inr (Or.inr ⟨rfl, ht, rfl⟩)))) eT hk hs hQ
theorem e_retZ (hGe : G = Goes p e below s K N Q) (X : Stand p l e R s m args below meth c T locs cells slots) (hx : p.tables.exec = Jvm.exec) {z : Int32} (hret : meth.sig.returnType = some .boolean) (hlk : meth.locks = false) (hd : decode c.code pc = .ok (.ireturn, 1)) (hz : z = 0 ∨ z = 1) (eT : T.heap = h) (hk : cells ≤ K) (hs : slots ≤ N) (hQ : Q (some (.int z)) h locs) : G (T.setTop (mkF m pc Ls (.int z :: rest))) :=
  e_ret hGe X hx hret hlk hd (by rcases hz with rfl | rfl <;> rfl) (Or.inl ⟨rfl, Or.inr (Or.inl rfl), z, rfl⟩) eT hk hs hQ
theorem e_ret0 (hGe : G = Goes p e below s K N Q) (X : Stand p l e R s m args below meth c T locs cells slots) (hx : p.tables.exec = Jvm.exec) (hret : meth.sig.returnType = none) (hlk : meth.locks = false) (hd : decode c.code pc = .ok (.return_, 1)) (eT : T.heap = h) (hk : cells ≤ K) (hs : slots ≤ N) (hQ : Q none h locs) : G (T.setTop (mkF m pc Ls [])) := by
  subst hGe
  obtain ⟨fs, hr, hrun, hended, hW, hsame⟩ := X.leave (v := none) (fun _ => rfl) hlk
  refine ⟨_, _, X.returnOut hx hret hd hr, hrun, hended, _, _, rfl, ?_, ⟨_, rfl⟩, hW, hsame.mono hk hs⟩
  show Q _ T.heap _
  rw [eT]; exact hQ
/-! the plain steps -/
theorem g_iload (hG : Cl p e below G) (X : Stand p l e R s m args below meth c T locs cells slots) (hx : p.tables.exec = Jvm.exec) {i : Nat} {v : Int32} (hd : decode c.code pc = .ok (.iload i, 2)) (hp : pc' = pc + 2) (hl : Ls[i]? = some (.val (.int v))) (k : G (T.setTop (mkF m pc' Ls (.int v :: rest)))) : G (T.setTop (mkF m pc Ls (rest))) := by
  subst hp
  refine hG _ _ (fun t ht => ?_) k
  exact XS.iload X.here hx rfl hd hl ht
theorem g_iloadN (hG : Cl p e below G) (X : Stand p l e R s m args below meth c T locs cells slots) (hx : p.tables.exec = Jvm.exec) {i : Fin 4} {v : Int32} (hd : decode c.code pc = .ok (.iload_n i, 1)) (hp : pc' = pc + 1) (hl : Ls[i.val]? = some (.val (.int v))) (k : G (T.setTop (mkF m pc' Ls (.int v :: rest)))) : G (T.setTop (mkF m pc Ls (rest))) := by
  subst hp
  refine hG _ _ (fun t ht => ?_) k
  exact XS.iloadN X.here hx rfl hd hl ht
theorem g_istore (hG : Cl p e below G) (X : Stand p l e R s m args below meth c T locs cells slots) (hx : p.tables.exec = Jvm.exec) {i : Nat} {v : Int32} (hd : decode c.code pc = .ok (.istore i, 2)) (hp : pc' = pc + 2) (hl : storeLocals Ls i (.int v) = some Ls') (k : G (T.setTop (mkF m pc' Ls' (rest)))) : G (T.setTop (mkF m pc Ls (.int v :: rest))) := by
  subst hp
  refine hG _ _ (fun t ht => ?_) k
  exact XS.istore X.here hx rfl hd rfl hl ht
theorem g_istoreN (hG : Cl p e below G) (X : Stand p l e R s m args below meth c T locs cells slots) (hx : p.tables.exec = Jvm.exec) {i : Fin 4} {v : Int32} (hd : decode c.code pc = .ok (.istore_n i, 1)) (hp : pc' = pc + 1) (hl : storeLocals Ls i.val (.int v) = some Ls') (k : G (T.setTop (mkF m pc' Ls' (rest)))) : G (T.setTop (mkF m pc Ls (.int v :: rest))) := by
  subst hp
  refine hG _ _ (fun t ht => ?_) k
  exact XS.istoreN X.here hx rfl hd rfl hl ht
theorem g_dload (hG : Cl p e below G) (X : Stand p l e R s m args below meth c T locs cells slots) (hx : p.tables.exec = Jvm.exec) {i : Nat} {v : UInt64} (hd : decode c.code pc = .ok (.dload i, 2)) (hp : pc' = pc + 2) (hl : Ls[i]? = some (.val (.double v))) (k : G (T.setTop (mkF m pc' Ls (.double v :: rest)))) : G (T.setTop (mkF m pc Ls (rest))) := by
  subst hp
  refine hG _ _ (fun t ht => ?_) k
  exact XS.dload X.here hx rfl hd hl ht
theorem g_dloadN (hG : Cl p e below G) (X : Stand p l e R s m args below meth c T locs cells slots) (hx : p.tables.exec = Jvm.exec) {i : Fin 4} {v : UInt64} (hd : decode c.code pc = .ok (.dload_n i, 1)) (hp : pc' = pc + 1) (hl : Ls[i.val]? = some (.val (.double v))) (k : G (T.setTop (mkF m pc' Ls (.double v :: rest)))) : G (T.setTop (mkF m pc Ls (rest))) := by
  subst hp
  refine hG _ _ (fun t ht => ?_) k
  exact XS.dloadN X.here hx rfl hd hl ht
theorem g_dstore (hG : Cl p e below G) (X : Stand p l e R s m args below meth c T locs cells slots) (hx : p.tables.exec = Jvm.exec) {i : Nat} {v : UInt64} (hd : decode c.code pc = .ok (.dstore i, 2)) (hp : pc' = pc + 2) (hl : storeLocals Ls i (.double v) = some Ls') (k : G (T.setTop (mkF m pc' Ls' (rest)))) : G (T.setTop (mkF m pc Ls (.double v :: rest))) := by
  subst hp
  refine hG _ _ (fun t ht => ?_) k
  exact XS.dstore X.here hx rfl hd rfl hl ht
theorem g_aload (hG : Cl p e below G) (X : Stand p l e R s m args below meth c T locs cells slots) (hx : p.tables.exec = Jvm.exec) {i : Nat} {v : Value} (hd : decode c.code pc = .ok (.aload i, 2)) (hp : pc' = pc + 2) (hl : Ls[i]? = some (.val v)) (hv' : v.isRef = true) (k : G (T.setTop (mkF m pc' Ls (v :: rest)))) : G (T.setTop (mkF m pc Ls (rest))) := by
  subst hp
  refine hG _ _ (fun t ht => ?_) k
  exact XS.aload X.here hx rfl hd hl hv' ht
theorem g_aloadN (hG : Cl p e below G) (X : Stand p l e R s m args below meth c T locs cells slots) (hx : p.tables.exec = Jvm.exec) {i : Fin 4} {v : Value} (hd : decode c.code pc = .ok (.aload_n i, 1)) (hp : pc' = pc + 1) (hl : Ls[i.val]? = some (.val v)) (hv' : v.isRef = true) (k : G (T.setTop (mkF m pc' Ls (v :: rest)))) : G (T.setTop (mkF m pc Ls (rest))) := by
  subst hp
  refine hG _ _ (fun t ht => ?_) k
  exact XS.aloadN X.here hx rfl hd hl hv' ht
theorem g_astore (hG : Cl p e below G) (X : Stand p l e R s m args below meth c T locs cells slots) (hx : p.tables.exec = Jvm.exec) {i : Nat} {v : Value} (hd : decode c.code pc = .ok (.astore i, 2)) (hp : pc' = pc + 2) (hv' : v.isRef = true) (hl : storeLocals Ls i v = some Ls') (k : G (T.setTop (mkF m pc' Ls' (rest)))) : G (T.setTop (mkF m pc Ls (v :: rest))) := by
  subst hp
  refine hG _ _ (fun t ht => ?_) k
  exact XS.astore X.here hx rfl hd rfl hv' hl ht
theorem g_astoreN (hG : Cl p e below G) (X : Stand p l e R s m args below meth c T locs cells slots) (hx : p.tables.exec = Jvm.exec) {i : Fin 4} {v : Value} (hd : decode c.code pc = .ok (.astore_n i, 1)) (hp : pc' = pc + 1) (hv' : v.isRef = true) (hl : storeLocals Ls i.val v = some Ls') (k : G (T.setTop (mkF m pc' Ls' (rest)))) : G (T.setTop (mkF m pc Ls (v :: rest))) := by
  subst hp
  refine hG _ _ (fun t ht => ?_) k
  exact XS.astoreN X.here hx rfl hd rfl hv' hl ht
theorem g_iconst (hG : Cl p e below G) (X : Stand p l e R s m args below meth c T locs cells slots) (hx : p.tables.exec = Jvm.exec) {i : Int} {v : Int32} (hd : decode c.code pc = .ok (.iconst i, 1)) (hp : pc' = pc + 1) (hv : Int32.ofInt i = v) (k : G (T.setTop (mkF m pc' Ls (.int v :: rest)))) : G (T.setTop (mkF m pc Ls (rest))) := by
  subst hp
  subst hv
  refine hG _ _ (fun t ht => ?_) k
  exact XS.iconst X.here hx rfl hd ht
theorem g_bipush (hG : Cl p e below G) (X : Stand p l e R s m args below meth c T locs cells slots) (hx : p.tables.exec = Jvm.exec) {i : Int} {v : Int32} (hd : decode c.code pc = .ok (.bipush i, 2)) (hp : pc' = pc + 2) (hv : (Int8.ofInt i).toInt32 = v) (k : G (T.setTop (mkF m pc' Ls (.int v :: rest)))) : G (T.setTop (mkF m pc Ls (rest))) := by
  subst hp
  subst hv
  refine hG _ _ (fun t ht => ?_) k
  exact XS.bipush X.here hx rfl hd ht
theorem g_dconst0 (hG : Cl p e below G) (X : Stand p l e R s m args below meth c T locs cells slots) (hx : p.tables.exec = Jvm.exec) {v : UInt64} (hd : decode c.code pc = .ok (.dconst 0, 1)) (hp : pc' = pc + 1) (hv : FP.dconst0 = v) (k : G (T.setTop (mkF m pc' Ls (.double v :: rest)))) : G (T.setTop (mkF m pc Ls (rest))) := by
  subst hp
  subst hv
  refine hG _ _ (fun t ht => ?_) k
  exact XS.dconst0 X.here hx rfl hd rfl ht
theorem g_aconstNull (hG : Cl p e below G) (X : Stand p l e R s m args below meth c T locs cells slots) (hx : p.tables.exec = Jvm.exec)  (hd : decode c.code pc = .ok (.aconst_null, 1)) (hp : pc' = pc + 1) (k : G (T.setTop (mkF m pc' Ls (.null :: rest)))) : G (T.setTop (mkF m pc Ls (rest))) := by
  subst hp
  refine hG _ _ (fun t ht => ?_) k
  exact XS.aconstNull X.here hx rfl hd ht
theorem g_iadd (hG : Cl p e below G) (X : Stand p l e R s m args below meth c T locs cells slots) (hx : p.tables.exec = Jvm.exec) {x y v : Int32} (hd : decode c.code pc = .ok (.iadd, 1)) (hp : pc' = pc + 1) (hv : x + y = v) (k : G (T.setTop (mkF m pc' Ls (.int v :: rest)))) : G (T.setTop (mkF m pc Ls (.int y :: .int x :: rest))) := by
  subst hp
  subst hv
  refine hG _ _ (fun t ht => ?_) k
  exact XS.iadd X.here hx rfl hd rfl ht
theorem g_isub (hG : Cl p e below G) (X : Stand p l e R s m args below meth c T locs cells slots) (hx : p.tables.exec = Jvm.exec) {x y v : Int32} (hd : decode c.code pc = .ok (.isub, 1)) (hp : pc' = pc + 1) (hv : x - y = v) (k : G (T.setTop (mkF m pc' Ls (.int v :: rest)))) : G (T.setTop (mkF m pc Ls (.int y :: .int x :: rest))) := by
  subst hp
  subst hv
  refine hG _ _ (fun t ht => ?_) k
  exact XS.isub X.here hx rfl hd rfl ht
theorem g_iand (hG : Cl p e below G) (X : Stand p l e R s m args below meth c T locs cells slots) (hx : p.tables.exec = Jvm.exec) {x y v : Int32} (hd : decode c.code pc = .ok (.iand, 1)) (hp : pc' = pc + 1) (hv : x &&& y = v) (k : G (T.setTop (mkF m pc' Ls (.int v :: rest)))) : G (T.setTop (mkF m pc Ls (.int y :: .int x :: rest))) := by
  subst hp
  subst hv
  refine hG _ _ (fun t ht => ?_) k
  exact XS.iand X.here hx rfl hd rfl ht
theorem g_iushr (hG : Cl p e below G) (X : Stand p l e R s m args below meth c T locs cells slots) (hx : p.tables.exec = Jvm.exec) {x y v : Int32} (hd : decode c.code pc = .ok (.iushr, 1)) (hp : pc' = pc + 1) (hv : (x.toUInt32 >>> (y &&& 31).toUInt32).toInt32 = v) (k : G (T.setTop (mkF m pc' Ls (.int v :: rest)))) : G (T.setTop (mkF m pc Ls (.int y :: .int x :: rest))) := by
  subst hp
  subst hv
  refine hG _ _ (fun t ht => ?_) k
  exact XS.iushr X.here hx rfl hd rfl ht
theorem g_irem (hG : Cl p e below G) (X : Stand p l e R s m args below meth c T locs cells slots) (hx : p.tables.exec = Jvm.exec) {x y v : Int32} (hd : decode c.code pc = .ok (.irem, 1)) (hp : pc' = pc + 1) (hy : y ≠ 0) (hv : x % y = v) (k : G (T.setTop (mkF m pc' Ls (.int v :: rest)))) : G (T.setTop (mkF m pc Ls (.int y :: .int x :: rest))) := by
  subst hp
  subst hv
  refine hG _ _ (fun t ht => ?_) k
  exact iremM X hx rfl hd rfl hy ht
theorem g_dup (hG : Cl p e below G) (X : Stand p l e R s m args below meth c T locs cells slots) (hx : p.tables.exec = Jvm.exec) {x : Value} (hd : decode c.code pc = .ok (.dup, 1)) (hp : pc' = pc + 1) (hc : x.category = 1) (k : G (T.setTop (mkF m pc' Ls (x :: x :: rest)))) : G (T.setTop (mkF m pc Ls (x :: rest))) := by
  subst hp
  refine hG _ _ (fun t ht => ?_) k
  exact XS.dup X.here hx rfl hd rfl hc ht
theorem g_dupX1 (hG : Cl p e below G) (X : Stand p l e R s m args below meth c T locs cells slots) (hx : p.tables.exec = Jvm.exec) {x y : Value} (hd : decode c.code pc = .ok (.dup_x1, 1)) (hp : pc' = pc + 1) (hc : x.category = 1) (hc' : y.category = 1) (k : G (T.setTop (mkF m pc' Ls (x :: y :: x :: rest)))) : G (T.setTop (mkF m pc Ls (x :: y :: rest))) := by
  subst hp
  refine hG _ _ (fun t ht => ?_) k
  exact XS.dupX1 X.here hx rfl hd rfl hc hc' ht
theorem g_iinc (hG : Cl p e below G) (X : Stand p l e R s m args below meth c T locs cells slots) (hx : p.tables.exec = Jvm.exec) {i : Nat} {cst : Int} {x v : Int32} (hd : decode c.code pc = .ok (.iinc i cst, 3)) (hp : pc' = pc + 3) (hl : Ls[i]? = some (.val (.int x))) (hv : x + Int32.ofInt cst = v) (hl' : storeLocals Ls i (.int v) = some Ls') (k : G (T.setTop (mkF m pc' Ls' (rest)))) : G (T.setTop (mkF m pc Ls (rest))) := by
  subst hp
  subst hv
  refine hG _ _ (fun t ht => ?_) k
  exact XS.iinc X.here hx rfl hd hl hl' ht
theorem g_i2d (hG : Cl p e below G) (X : Stand p l e R s m args below meth c T locs cells slots) (hx : p.tables.exec = Jvm.exec) {x : Int32} {v : UInt64} (hd : decode c.code pc = .ok (.i2d, 1)) (hp : pc' = pc + 1) (hv : FP.i2d x = v) (k : G (T.setTop (mkF m pc' Ls (.double v :: rest)))) : G (T.setTop (mkF m pc Ls (.int x :: rest))) := by
  subst hp
  subst hv
  refine hG _ _ (fun t ht => ?_) k
  exact XS.i2dS X.here hx rfl hd rfl rfl ht
theorem g_dcmp (hG : Cl p e below G) (X : Stand p l e R s m args below meth c T locs cells slots) (hx : p.tables.exec = Jvm.exec) {x y : UInt64} {o : CmpOp} {v : Int32} (hd : decode c.code pc = .ok (.dcmp o, 1)) (hp : pc' = pc + 1) (hv : cmpValue (FP.dcmp x y) o = v) (k : G (T.setTop (mkF m pc' Ls (.int v :: rest)))) : G (T.setTop (mkF m pc Ls (.double y :: .double x :: rest))) := by
  subst hp
  subst hv
  refine hG _ _ (fun t ht => ?_) k
  exact XS.dcmpS X.here hx rfl hd rfl rfl ht
theorem g_goto (hG : Cl p e below G) (X : Stand p l e R s m args below meth c T locs cells slots) (hx : p.tables.exec = Jvm.exec) {o : Int} (hd : decode c.code pc = .ok (.goto o, 3)) (ho : 0 ≤ (pc : Int) + o) (hp : ((pc : Int) + o).toNat = pc') (k : G (T.setTop (mkF m pc' Ls rest))) : G (T.setTop (mkF m pc Ls rest)) := by
  refine hG _ _ (fun t ht => ?_) k
  exact XS.goto X.here hx rfl (pc0 := pc) rfl hd ho hp ht
theorem g_ifYes (hG : Cl p e below G) (X : Stand p l e R s m args below meth c T locs cells slots) (hx : p.tables.exec = Jvm.exec) {cd : ClassFile.Cond} {x : Int32} {o : Int} (hd : decode c.code pc = .ok (.ifCond cd o, 3)) (hc : ifCond.holds cd x = true) (ho : 0 ≤ (pc : Int) + o) (hp : ((pc : Int) + o).toNat = pc') (k : G (T.setTop (mkF m pc' Ls rest))) : G (T.setTop (mkF m pc Ls (.int x :: rest))) := by
  refine hG _ _ (fun t ht => ?_) k
  exact XS.ifYes X.here hx rfl (pc0 := pc) rfl hd rfl hc ho hp ht
theorem g_ifNo (hG : Cl p e below G) (X : Stand p l e R s m args below meth c T locs cells slots) (hx : p.tables.exec = Jvm.exec) {cd : ClassFile.Cond} {x : Int32} {o : Int} (hd : decode c.code pc = .ok (.ifCond cd o, 3)) (hc : ifCond.holds cd x = false) (hp : pc' = pc + 3) (k : G (T.setTop (mkF m pc' Ls rest))) : G (T.setTop (mkF m pc Ls (.int x :: rest))) := by
  subst hp
  refine hG _ _ (fun t ht => ?_) k
  exact XS.ifNo X.here hx rfl hd rfl hc ht
theorem g_icmpYes (hG : Cl p e below G) (X : Stand p l e R s m args below meth c T locs cells slots) (hx : p.tables.exec = Jvm.exec) {cd : ClassFile.Cond} {x y : Int32} {o : Int} (hd : decode c.code pc = .ok (.if_icmp cd o, 3)) (hc : if_icmp.holds cd x y = true) (ho : 0 ≤ (pc : Int) + o) (hp : ((pc : Int) + o).toNat = pc') (k : G (T.setTop (mkF m pc' Ls rest))) : G (T.setTop (mkF m pc Ls (.int y :: .int x :: rest))) := by
  refine hG _ _ (fun t ht => ?_) k
  exact XS.icmpYes X.here hx rfl (pc0 := pc) rfl hd rfl hc ho hp ht
theorem g_icmpNo (hG : Cl p e below G) (X : Stand p l e R s m args below meth c T locs cells slots) (hx : p.tables.exec = Jvm.exec) {cd : ClassFile.Cond} {x y : Int32} {o : Int} (hd : decode c.code pc = .ok (.if_icmp cd o, 3)) (hc : if_icmp.holds cd x y = false) (hp : pc' = pc + 3) (k : G (T.setTop (mkF m pc' Ls rest))) : G (T.setTop (mkF m pc Ls (.int y :: .int x :: rest))) := by
  subst hp
  refine hG _ _ (fun t ht => ?_) k
  exact XS.icmpNo X.here hx rfl hd rfl hc ht
/-! constants -/
/-! fields -/
theorem g_getF (hG : Cl p e below G) (X : Stand p l e R s m args below meth c T locs cells slots) (hx : p.tables.exec = Jvm.exec) (hZ : Z.Warmed39 s.vm) {own R0 O n d : String} {index : Nat} (hown : s.vm.findClass own = some m.cls) (w : (Jvm.Cond.fieldLink own index R0 n d).before a0 Z = true) (via : Via Z R0 O n d) (eT : T.heap = h) {a : Addr} {v : Value} (F : Fld Z h a O n d v) (hd : decode c.code pc = .ok (.getfield index, 3)) (hp : pc' = pc + 3)
    (k : ∀ T', Stand p l e R s m args below meth c T' locs cells slots → T'.heap = h → G (T'.setTop (mkF m pc' Ls (v :: rest)))) : G (T.setTop (mkF m pc Ls (.ref a :: rest))) := by
  subst hp
  obtain ⟨T', X', e', st⟩ := getF X hx hZ hown (host := "") (Or.inl w) via eT F (g := mkF m pc Ls (.ref a :: rest)) rfl rfl hd
  exact hG _ _ st (k T' X' e')
theorem g_putF (hG : Cl p e below G) (X : Stand p l e R s m args below meth c T locs cells slots) (hx : p.tables.exec = Jvm.exec) (hZ : Z.Warmed39 s.vm) {own R0 O n d C : String} {index kk : Nat} {ty : FieldType} (hown : s.vm.findClass own = some m.cls) (w : (Jvm.Cond.fieldLink own index R0 n d).before a0 Z = true) (via : Via Z R0 O n d) (eT : T.heap = h) {a : Addr} {v v' old : Value} (F : Fld Z h a O n d old) (E : Exa Z h a C)
    (L : (Jvm.Cond.lays C O n d).before a0 Z = true ∨ ((Jvm.Cond.laysFinal C O n d).before a0 Z = true ∧ own = O ∧ meth.name = "<init>")) (wi : (Jvm.Cond.instantiable C kk).before a0 Z = true) (hty : parseFieldDescriptor d = some ty) (hn : narrow ty v = v') (hf : fits ty v' = true) (hd : decode c.code pc = .ok (.putfield index, 3)) (hp : pc' = pc + 3)
    (k : ∀ T' h', Stand p l e R s m args below meth c T' (locs ++ [⟨a, Jvm.RoadKit.slotOf Z O n d⟩]) cells slots → T'.heap = h' → Wr h h' a (Jvm.RoadKit.slotOf Z O n d) v' → G (T'.setTop (mkF m pc' Ls rest))) : G (T.setTop (mkF m pc Ls (v :: .ref a :: rest))) := by
  subst hp
  obtain ⟨T', h', X', e', W, st⟩ := putFN X hx hZ hown w via eT F E L wi hty hn hf (g := mkF m pc Ls (v :: .ref a :: rest)) rfl rfl hd
  exact hG _ _ st (k T' h' X' e' W)
theorem g_newO (hG : Cl p e below G) (X : Stand p l e R s m args below meth c T locs cells slots) (hx : p.tables.exec = Jvm.exec) (hZ : Z.Warmed39 s.vm) {own C : String} {index n : Nat} (hown : s.vm.findClass own = some m.cls) (w : (Jvm.Cond.classLink own index C).before a0 Z = true) (wi : (Jvm.Cond.instantiable C n).before a0 Z = true) (wz : (Jvm.Cond.initialized C).before a0 Z = true) (eT : T.heap = h) (hd : decode c.code pc = .ok (.new index, 3)) (hc : cells + 1 ≤ R.cells) (hl : slots + n ≤ R.slots) (hp : pc' = pc + 3)
    (k : ∀ T' h' b, b = h.size → Stand p l e R s m args below meth c T' locs (cells + 1) (slots + n) → T'.heap = h' → Ext h h' → Exa Z h' b C → (∀ {O nm d : String} {ty : FieldType}, Laid Z a0 C O nm d → parseFieldDescriptor d = some ty → Fld Z h' b O nm d (defaultValue ty)) → G (T'.setTop (mkF m pc' Ls (.ref b :: rest)))) : G (T.setTop (mkF m pc Ls rest)) := by
  subst hp
  obtain ⟨T', h', X', e', E, A, D, -, st⟩ := newO X hx hZ hown w wi wz eT (g := mkF m pc Ls rest) rfl hd hc hl
  exact hG _ _ st (k T' h' _ rfl X' e' E A D)
theorem g_initO (hG : Cl p e below G) (X : Stand p l e R s m args below meth c T locs cells slots) (hx : p.tables.exec = Jvm.exec) (hZ : Z.Warmed39 s.vm) {own : String} {index : Nat} (hown : s.vm.findClass own = some m.cls) (w1 : (Jvm.Cond.methodLink own index Lib.objectInit).before a0 Z = true) (w2 : (Jvm.Cond.instanceMethod Lib.objectInit).before a0 Z = true) (w3 : (Jvm.Cond.code Lib.objectInit ⟨#[0xb1]⟩ 1 none).before a0 Z = true) (eT : T.heap = h) {a : Addr}
    (hsz : Ls.size = c.maxLocals) (hd : decode c.code pc = .ok (.invokespecial index, 3)) (hfr : 1 ≤ R.frames) (hlo : (rest.map fun v => v.category).sum + 12 ≤ R.locals) (hp : pc' = pc + 3)
    (k : ∀ T', Stand p l e R s m args below meth c T' locs cells slots → T'.heap = h → G (T'.setTop (mkF m pc' Ls rest))) : G (T.setTop (mkF m pc Ls (.ref a :: rest))) := by
  subst hp
  obtain ⟨T', X', e', st⟩ := initO X hx hZ hown w1 w2 w3 eT (g := mkF m pc Ls (.ref a :: rest)) rfl hsz rfl hd hfr (W := (rest.map fun v => v.category).sum) (by show 2 * 0 + _ ≤ _; omega) hlo
  exact hG _ _ st (k T' X' e')
/-! arrays -/
theorem g_newP (hG : Cl p e below G) (X : Stand p l e R s m args below meth c T locs cells slots) (hx : p.tables.exec = Jvm.exec) (hZ : Z.Warmed39 s.vm) {aty : ArrayType} (w : (Jvm.Cond.arrayClass (newarray.typeOf aty)).before a0 Z = true) (eT : T.heap = h) {n : Int32} (hd : decode c.code pc = .ok (.newarray aty, 2)) (hn : ¬ n < 0) (cap : Nat) (hcap : n.toNatClampNeg ≤ cap) (hb : cap * 8 ≤ 536870912) (hc : cells + 1 ≤ R.cells) (hl : slots + cap ≤ R.slots) (hp : pc' = pc + 2)
    (k : ∀ T' h' b kA, b = h.size → Stand p l e R s m args below meth c T' locs (cells + 1) (slots + cap) → T'.heap = h' → Ext h h' → Arv Z h' b kA (newarray.typeOf aty) n [] (defaultValue (newarray.typeOf aty)) → G (T'.setTop (mkF m pc' Ls (.ref b :: rest)))) : G (T.setTop (mkF m pc Ls (.int n :: rest))) := by
  subst hp
  obtain ⟨T', h', kA, X', e', E, A, st⟩ := newP X hx hZ w eT (g := mkF m pc Ls (.int n :: rest)) rfl hd rfl hn hcap hb hc hl
  exact hG _ _ st (k T' h' _ kA rfl X' e' E (Arv.new A hn))

/-! arrays, with all that they hold -/
def AV (Z : State) (h : Heap) (a : Addr) (ty : FieldType) (n : Int32) (vs : List Value) : Prop := ∃ k, Arv Z h a k ty n vs (defaultValue ty) ∧ vs.length = n.toNatClampNeg
theorem AV.lt {a : Addr} {ty : FieldType} {n : Int32} {vs : List Value} (A : AV Z h a ty n vs) : a < h.size := by obtain ⟨k, A, -⟩ := A; exact A.lt
theorem AV.ext {h' : Heap} {a : Addr} {ty : FieldType} {n : Int32} {vs : List Value} (A : AV Z h a ty n vs) (E : Ext h h') : AV Z h' a ty n vs := by obtain ⟨k, A, q⟩ := A; exact ⟨k, A.ext E, q⟩
theorem AV.other {h' : Heap} {a b : Addr} {sl : Nat} {v : Value} {ty : FieldType} {n : Int32} {vs : List Value} (A : AV Z h a ty n vs) (W : Wr h h' b sl v) (q : a ≠ b) : AV Z h' a ty n vs := by obtain ⟨k, A, r⟩ := A; exact ⟨k, A.other W q, r⟩
theorem AV.keep {h' : Heap} {a : Addr} {ws : List Addr} {ty : FieldType} {n : Int32} {vs : List Value} (A : AV Z h a ty n vs) (K : Keep h h' ws) (q : a ∉ ws) : AV Z h' a ty n vs := by obtain ⟨k, A, r⟩ := A; exact ⟨k, A.keep K q, r⟩
theorem AV.new {a : Addr} {k : ClassId} {ty : FieldType} {n : Int32} (A : Arv Z h a k ty n [] (defaultValue ty)) : AV Z h a ty n (List.replicate n.toNatClampNeg (defaultValue ty)) := ⟨k, A.pad (fun i => by have q := pad_rep [] (defaultValue ty) n.toNatClampNeg i; simpa using q), by simp⟩
theorem AV.at {a : Addr} {ty : FieldType} {n : Int32} {vs : List Value} (A : AV Z h a ty n vs) {j : Int32} {v : Value} (hj : ¬ j < 0) (hv : vs[j.toNatClampNeg]? = some v) :
    ∃ c, Arr Z h a c ty ∧ ¬ (j < 0 ∨ c.slots.size ≤ j.toNatClampNeg) ∧ c.slots[j.toNatClampNeg]? = some v := by
  obtain ⟨k, ⟨c, A, q1, S, q3, H, Gf⟩, q⟩ := A
  have hl : j.toNatClampNeg < vs.length := (List.getElem?_eq_some_iff.mp hv).1
  have hin : ¬ (j < 0 ∨ c.slots.size ≤ j.toNatClampNeg) := fun z => z.elim hj (fun y => by omega)
  refine ⟨c, A, hin, Has.at H hin ?_⟩
  simp [List.getD, hv]
theorem AV.set {h' : Heap} {a : Addr} {ty : FieldType} {n : Int32} {vs : List Value} (A : AV Z h a ty n vs) {j : Int32} {v : Value} (W : Wr h h' a j.toNatClampNeg v) (hv : fits ty v = true) (hl : j.toNatClampNeg < vs.length) : AV Z h' a ty n (vs.set j.toNatClampNeg v) := by
  obtain ⟨k, ⟨c, A, q1, S, q3, H, Gf⟩, q⟩ := A
  exact ⟨k, Arv.set A q1 S q3 H Gf hv W _ rfl hl, by simpa using q⟩
theorem AV.inb {a : Addr} {ty : FieldType} {n : Int32} {vs : List Value} (A : AV Z h a ty n vs) {j : Int32} (hj : ¬ j < 0) (hl : j.toNatClampNeg < vs.length) : ∃ c, Arr Z h a c ty ∧ ¬ (j < 0 ∨ c.slots.size ≤ j.toNatClampNeg) := by
  obtain ⟨k, ⟨c, A, q1, S, q3, H, Gf⟩, q⟩ := A
  exact ⟨c, A, fun z => z.elim hj (fun y => by omega)⟩
theorem g_iaload (hG : Cl p e below G) (X : Stand p l e R s m args below meth c T locs cells slots) (hx : p.tables.exec = Jvm.exec) (hZ : Z.Warmed39 s.vm) (eT : T.heap = h) {a : Addr} {n : Int32} {vs : List Value} (A : AV Z h a .int n vs) {j : Int32} {v : Value} (hj : ¬ j < 0) (hv : vs[j.toNatClampNeg]? = some v) (hd : decode c.code pc = .ok (.iaload, 1)) (hp : pc' = pc + 1) (k : G (T.setTop (mkF m pc' Ls (v :: rest)))) : G (T.setTop (mkF m pc Ls (.int j :: .ref a :: rest))) := by
  subst hp
  obtain ⟨cl, Ar, hin, hat⟩ := A.at hj hv
  refine hG _ _ (fun t ht => ?_) k
  exact X.iaload hx (by rw [eT]; exact Ar.1) (State.isArrayOf_alike hZ.alike Ar.2.1) Ar.2.2 hin hat (g := mkF m pc Ls (.int j :: .ref a :: rest)) rfl rfl hd t ht
theorem g_daload (hG : Cl p e below G) (X : Stand p l e R s m args below meth c T locs cells slots) (hx : p.tables.exec = Jvm.exec) (hZ : Z.Warmed39 s.vm) (eT : T.heap = h) {a : Addr} {n : Int32} {vs : List Value} (A : AV Z h a .double n vs) {j : Int32} {v : Value} (hj : ¬ j < 0) (hv : vs[j.toNatClampNeg]? = some v) (hd : decode c.code pc = .ok (.daload, 1)) (hp : pc' = pc + 1) (k : G (T.setTop (mkF m pc' Ls (v :: rest)))) : G (T.setTop (mkF m pc Ls (.int j :: .ref a :: rest))) := by
  subst hp
  obtain ⟨cl, Ar, hin, hat⟩ := A.at hj hv
  refine hG _ _ (fun t ht => ?_) k
  exact X.daload hx (by rw [eT]; exact Ar.1) (State.isArrayOf_alike hZ.alike Ar.2.1) Ar.2.2 hin hat (g := mkF m pc Ls (.int j :: .ref a :: rest)) rfl rfl hd t ht
theorem g_iastore (hG : Cl p e below G) (X : Stand p l e R s m args below meth c T locs cells slots) (hx : p.tables.exec = Jvm.exec) (hZ : Z.Warmed39 s.vm) (eT : T.heap = h) {a : Addr} {n : Int32} {vs : List Value} (A : AV Z h a .int n vs) {j : Int32} {x : Int32} (hj : ¬ j < 0) (hl : j.toNatClampNeg < vs.length) (hd : decode c.code pc = .ok (.iastore, 1)) (hp : pc' = pc + 1)
    (k : ∀ T' h', Stand p l e R s m args below meth c T' (locs ++ [⟨a, j.toNatClampNeg⟩]) cells slots → T'.heap = h' → Wr h h' a j.toNatClampNeg (.int x) → AV Z h' a .int n (vs.set j.toNatClampNeg (.int x)) → G (T'.setTop (mkF m pc' Ls rest))) : G (T.setTop (mkF m pc Ls (.int x :: .int j :: .ref a :: rest))) := by
  subst hp
  obtain ⟨cl, Ar, hin⟩ := A.inb hj hl
  obtain ⟨T', h', X', e', W, st⟩ := stI X hx hZ eT Ar hin (g := mkF m pc Ls (.int x :: .int j :: .ref a :: rest)) rfl rfl hd
  exact hG _ _ st (k T' h' X' e' W (A.set W rfl hl))
theorem g_dastore (hG : Cl p e below G) (X : Stand p l e R s m args below meth c T locs cells slots) (hx : p.tables.exec = Jvm.exec) (hZ : Z.Warmed39 s.vm) (eT : T.heap = h) {a : Addr} {n : Int32} {vs : List Value} (A : AV Z h a .double n vs) {j : Int32} {x : UInt64} (hj : ¬ j < 0) (hl : j.toNatClampNeg < vs.length) (hd : decode c.code pc = .ok (.dastore, 1)) (hp : pc' = pc + 1)
    (k : ∀ T' h', Stand p l e R s m args below meth c T' (locs ++ [⟨a, j.toNatClampNeg⟩]) cells slots → T'.heap = h' → Wr h h' a j.toNatClampNeg (.double x) → AV Z h' a .double n (vs.set j.toNatClampNeg (.double x)) → G (T'.setTop (mkF m pc' Ls rest))) : G (T.setTop (mkF m pc Ls (.double x :: .int j :: .ref a :: rest))) := by
  subst hp
  obtain ⟨cl, Ar, hin⟩ := A.inb hj hl
  obtain ⟨T', h', X', e', W, st⟩ := stD X hx hZ eT Ar hin (g := mkF m pc Ls (.double x :: .int j :: .ref a :: rest)) rfl rfl hd
  exact hG _ _ st (k T' h' X' e' W (A.set W rfl hl))
theorem g_arraylength (hG : Cl p e below G) (X : Stand p l e R s m args below meth c T locs cells slots) (hx : p.tables.exec = Jvm.exec) (hZ : Z.Warmed39 s.vm) (eT : T.heap = h) {a : Addr} {ty : FieldType} {n : Int32} {vs : List Value} (A : AV Z h a ty n vs) (hd : decode c.code pc = .ok (.arraylength, 1)) (hp : pc' = pc + 1) (k : G (T.setTop (mkF m pc' Ls (.int n :: rest)))) : G (T.setTop (mkF m pc Ls (.ref a :: rest))) := by
  subst hp
  obtain ⟨kA, ⟨cl, Ar, q1, S, q3, H, Gf⟩, q⟩ := A
  rw [← len_of S q3] at k
  refine hG _ _ (fun t ht => ?_) k
  exact X.arraylength hx (by rw [eT]; exact Ar.1) (State.isArrayOf_alike hZ.alike Ar.2.1) (g := mkF m pc Ls (.ref a :: rest)) rfl rfl hd t ht
/-! calls by a contract -/
theorem g_callS (hG : Cl p e below G) (X : Stand p l e R s m args below meth c T locs cells slots) (hx : p.tables.exec = Jvm.exec) (hZ : Z.Warmed39 s.vm) {own : String} {index : Nat} {y : MethodName} {bytes : ByteArray} {maxL : Nat} {ret : Option FieldType} {rm : Room} {as : Array Value} {Qc : Option Value → Heap → List Loc → Prop} {argsL stack : List Value} {ps : List FieldType} {rt : Option FieldType} (W : Nat)
    (hown : s.vm.findClass own = some m.cls) (w1 : (Jvm.Cond.methodLink own index y).before a0 Z = true) (w2 : (Jvm.Cond.static y).before a0 Z = true) (w3 : (Jvm.Cond.initialized y.cls).before a0 Z = true) (w4 : (Jvm.Cond.code y bytes maxL ret).before a0 Z = true) (hy : y.cls ≠ "java/lang/invoke/MethodHandle" ∧ y.cls ≠ "java/lang/invoke/VarHandle")
    (hM : Con l y bytes maxL ret [] rm Z as h rm.cells rm.slots Qc) (hfr : rm.frames + 1 ≤ R.frames) (hlo : W + (maxL + 11) + rm.locals ≤ R.locals) (hsz : Ls.size = c.maxLocals) (hpd : parseMethodDescriptor y.desc = some ⟨ps, rt⟩) (hln : argsL.length = ps.length) (hst : stack = argsL.reverse ++ rest) (has : argsL.toArray = as) (hW : (rest.map fun v => v.category).sum ≤ W)
    (hd : decode c.code pc = .ok (.invokestatic index, 3)) (eT : T.heap = h) (hc : cells + rm.cells ≤ R.cells) (hs : slots + rm.slots ≤ R.slots) (hp : pc' = pc + 3)
    (k : ∀ T' v L', Stand p l e R s m args below meth c T' (locs ++ L') (cells + rm.cells) (slots + rm.slots) → Qc v T'.heap L' → G (T'.setTop (mkF m pc' Ls (v.toList ++ rest)))) : G (T.setTop (mkF m pc Ls stack)) := by
  subst hp hst has
  obtain ⟨v, _, ⟨T1, L1, k1, n1⟩, -, X1, ⟨Lc, hQ, l1, y1, z1⟩, st⟩ := Jvm.LawKit.callS X hx (y := y) hown (mvT hZ w1) (mvT hZ w2) (mvT hZ w3) (mvT hZ w4) hy (backOf (W := W) hM hZ w4 w3 hfr hlo) (g := mkF m pc Ls (argsL.reverse ++ rest)) rfl hsz (argsL := argsL) (rest := rest) (lenOf hpd hln) rfl (by show 2 * 0 + _ ≤ _; omega) hd (fun _ _ => ⟨rfl, eT, hc, hs⟩)
  dsimp only [Pt.U, Pt.locs, Pt.cells, Pt.slots] at X1 l1 y1 z1 st hQ
  subst l1 y1 z1
  exact hG _ _ st (k T1 v Lc X1 hQ)
theorem g_callI (hG : Cl p e below G) (X : Stand p l e R s m args below meth c T locs cells slots) (hx : p.tables.exec = Jvm.exec) (hZ : Z.Warmed39 s.vm) {own : String} {index : Nat} {y : MethodName} {bytes : ByteArray} {maxL : Nat} {rm : Room} {as : Array Value} {Qc : Option Value → Heap → List Loc → Prop} {a : Addr} {argsL stack : List Value} {ps : List FieldType} {rt : Option FieldType} (W : Nat)
    (hy1 : y.name = "<init>") (hown : s.vm.findClass own = some m.cls) (w1 : (Jvm.Cond.methodLink own index y).before a0 Z = true) (w2 : (Jvm.Cond.instanceMethod y).before a0 Z = true) (w3 : (Jvm.Cond.initialized y.cls).before a0 Z = true) (w4 : (Jvm.Cond.code y bytes maxL none).before a0 Z = true) (hy : y.cls ≠ "java/lang/invoke/MethodHandle" ∧ y.cls ≠ "java/lang/invoke/VarHandle")
    (hM : Con l y bytes maxL none [] rm Z as h rm.cells rm.slots Qc) (hfr : rm.frames + 1 ≤ R.frames) (hlo : W + (maxL + 11) + rm.locals ≤ R.locals) (hsz : Ls.size = c.maxLocals) (hpd : parseMethodDescriptor y.desc = some ⟨ps, rt⟩) (hln : argsL.length = ps.length) (hst : stack = argsL.reverse ++ .ref a :: rest) (has : (.ref a :: argsL).toArray = as) (hW : (rest.map fun v => v.category).sum ≤ W)
    (hd : decode c.code pc = .ok (.invokespecial index, 3)) (eT : T.heap = h) (hc : cells + rm.cells ≤ R.cells) (hs : slots + rm.slots ≤ R.slots) (hp : pc' = pc + 3)
    (k : ∀ T' v L', Stand p l e R s m args below meth c T' (locs ++ L') (cells + rm.cells) (slots + rm.slots) → Qc v T'.heap L' → G (T'.setTop (mkF m pc' Ls (v.toList ++ rest)))) : G (T.setTop (mkF m pc Ls stack)) := by
  subst hp hst has
  obtain ⟨v, _, ⟨T1, L1, k1, n1⟩, -, X1, ⟨Lc, hQ, l1, y1, z1⟩, st⟩ := X.specialBack hx (y := y) hy1 hown (mvT hZ w1) (mvT hZ w2) (mvT hZ w4) hy (backOf (W := W) hM hZ w4 w3 hfr hlo) (g := mkF m pc Ls (argsL.reverse ++ .ref a :: rest)) rfl hsz (Steps.refl _) (a := a) (argsL := argsL) (rest := rest) (lenOf hpd hln) rfl (by show 2 * 0 + _ ≤ _; omega) hd (fun _ _ => ⟨rfl, eT, hc, hs⟩)
  dsimp only [Pt.U, Pt.locs, Pt.cells, Pt.slots] at X1 l1 y1 z1 st hQ
  subst l1 y1 z1
  exact hG _ _ (fun t ht => st.trans ht) (k T1 v Lc X1 hQ)
theorem g_callV (hG : Cl p e below G) (X : Stand p l e R s m args below meth c T locs cells slots) (hx : p.tables.exec = Jvm.exec) (hZ : Z.Warmed39 s.vm) {own C : String} {index : Nat} {y : MethodName} {bytes : ByteArray} {maxL : Nat} {ret : Option FieldType} {rm : Room} {as : Array Value} {Qc : Option Value → Heap → List Loc → Prop} {a : Addr} {argsL stack : List Value} {ps : List FieldType} {rt : Option FieldType} (W : Nat)
    (hown : s.vm.findClass own = some m.cls) (w1 : (Jvm.Cond.methodLink own index y).before a0 Z = true) (w2 : (Jvm.Cond.declares y).before a0 Z = true) (ws : (Jvm.Cond.selects C y y).before a0 Z = true) (wi : (Jvm.Cond.instanceMethod y).before a0 Z = true) (w3 : (Jvm.Cond.initialized y.cls).before a0 Z = true) (w4 : (Jvm.Cond.code y bytes maxL ret).before a0 Z = true) (hy : y.cls ≠ "java/lang/invoke/MethodHandle" ∧ y.cls ≠ "java/lang/invoke/VarHandle")
    (hM : Con l y bytes maxL ret [] rm Z as h rm.cells rm.slots Qc) (hfr : rm.frames + 1 ≤ R.frames) (hlo : W + (maxL + 11) + rm.locals ≤ R.locals) (hsz : Ls.size = c.maxLocals) (hpd : parseMethodDescriptor y.desc = some ⟨ps, rt⟩) (hln : argsL.length = ps.length) (hst : stack = argsL.reverse ++ .ref a :: rest) (has : (.ref a :: argsL).toArray = as) (hW : (rest.map fun v => v.category).sum ≤ W)
    (hd : decode c.code pc = .ok (.invokevirtual index, 3)) (eT : T.heap = h) (E : Exa Z h a C) (hc : cells + rm.cells ≤ R.cells) (hs : slots + rm.slots ≤ R.slots) (hp : pc' = pc + 3)
    (k : ∀ T' v L', Stand p l e R s m args below meth c T' (locs ++ L') (cells + rm.cells) (slots + rm.slots) → Qc v T'.heap L' → G (T'.setTop (mkF m pc' Ls (v.toList ++ rest)))) : G (T.setTop (mkF m pc Ls stack)) := by
  subst hp hst has
  obtain ⟨cq, kq, qa, qb, qc⟩ := isOf hZ eT E
  obtain ⟨v, _, ⟨T1, L1, k1, n1⟩, -, X1, ⟨Lc, hQ, l1, y1, z1⟩, st⟩ := X.virtualBack hx (y := y) (z := y) hown (mvT hZ w1) (mvT hZ w2) (notFace_of_selects (args := #[]) (mvT hZ ws)) (mvT hZ ws) (mvT hZ wi) hy (backOf (W := W) hM hZ w4 w3 hfr hlo) qa qc (g := mkF m pc Ls (argsL.reverse ++ .ref a :: rest)) rfl hsz (Steps.refl _) (argsL := argsL) (rest := rest) (lenOf hpd hln) rfl (by show 2 * 0 + _ ≤ _; omega) hd (fun _ _ => ⟨rfl, eT, hc, hs⟩)
  dsimp only [Pt.U, Pt.locs, Pt.cells, Pt.slots] at X1 l1 y1 z1 st hQ
  subst l1 y1 z1
  exact hG _ _ (fun t ht => st.trans ht) (k T1 v Lc X1 hQ)
theorem g_natS (hG : Cl p e below G) (X : Stand p l e R s m args below meth c T locs cells slots) (hx : p.tables.exec = Jvm.exec) (hZ : Z.Warmed39 s.vm) {own : String} {index : Nat} {y : MethodName} {by0 : ByteArray} {ml : Nat} {rt : Option FieldType} {F : Array Value → Prop} {val : Value} {argsL stack : List Value} {ps : List FieldType} {rt' : Option FieldType} (W : Nat)
    (hown : s.vm.findClass own = some m.cls) (w1 : (Jvm.Cond.methodLink own index y).before a0 Z = true) (w2 : (Jvm.Cond.static y).before a0 Z = true) (w3 : (Jvm.Cond.initialized y.cls).before a0 Z = true) (w4 : (Jvm.Cond.code y by0 ml rt).before a0 Z = true) (hy : y.cls ≠ "java/lang/invoke/MethodHandle" ∧ y.cls ≠ "java/lang/invoke/VarHandle")
    (hK : (Jvm.Cond.code y by0 ml rt).before args s = true → Back l R p e below s args y 3 W (fun A a' => A.cells ≤ R.cells ∧ A.slots ≤ R.slots ∧ F a') (fun A _ v B => v = some val ∧ B = A)) (hsz : Ls.size = c.maxLocals) (hpd : parseMethodDescriptor y.desc = some ⟨ps, rt'⟩) (hln : argsL.length = ps.length) (hst : stack = argsL.reverse ++ rest) (hW : (rest.map fun v => v.category).sum ≤ W)
    (hd : decode c.code pc = .ok (.invokestatic index, 3)) (eT : T.heap = h) (hc : cells ≤ R.cells) (hs : slots ≤ R.slots) (hF : F argsL.toArray) (hp : pc' = pc + 3)
    (k : ∀ T', Stand p l e R s m args below meth c T' locs cells slots → T'.heap = h → G (T'.setTop (mkF m pc' Ls (val :: rest)))) : G (T.setTop (mkF m pc Ls stack)) := by
  subst hp hst
  obtain ⟨T', X', e', st⟩ := natS X hx hZ hown w1 w2 w3 w4 hy eT hK (g := mkF m pc Ls (argsL.reverse ++ rest)) rfl hsz (argsL := argsL) (rest := rest) (lenOf hpd hln) rfl (by show 2 * 0 + _ ≤ _; omega) hd hc hs hF rfl
  exact hG _ _ st (k T' X' e')
theorem g_castY (hG : Cl p e below G) (X : Stand p l e R s m args below meth c T locs cells slots) (hx : p.tables.exec = Jvm.exec) (hZ : Z.Warmed39 s.vm) {own K0 : String} {index : Nat} (hown : s.vm.findClass own = some m.cls) (w : (Jvm.Cond.classLink own index K0).before a0 Z = true) (eT : T.heap = h) {a : Addr} (F : Ins Z h a K0 true) (hd : decode c.code pc = .ok (.checkcast index, 3)) (hp : pc' = pc + 3)
    (k : ∀ T', Stand p l e R s m args below meth c T' locs cells slots → T'.heap = h → G (T'.setTop (mkF m pc' Ls (.ref a :: rest)))) : G (T.setTop (mkF m pc Ls (.ref a :: rest))) := by
  subst hp
  obtain ⟨T', X', e', st⟩ := castY X hx hZ hown w eT F (g := mkF m pc Ls (.ref a :: rest)) rfl rfl hd
  exact hG _ _ st (k T' X' e')
theorem g_newPE (hG : Cl p e below G) (X : Stand p l e R s m args below meth c T locs cells slots) (hx : p.tables.exec = Jvm.exec) (hZ : Z.Warmed39 s.vm) {aty : ArrayType} (w : (Jvm.Cond.arrayClass (newarray.typeOf aty)).before a0 Z = true) (eT : T.heap = h) {n : Int32} (hd : decode c.code pc = .ok (.newarray aty, 2)) (hn : ¬ n < 0) (cap : Nat) (hcap : n.toNatClampNeg ≤ cap) (hb : cap * 8 ≤ 536870912) (hc : cells + 1 ≤ R.cells) (hl : slots + cap ≤ R.slots) {ad : String} (had : "[" ++ (newarray.typeOf aty).toString = ad) (hp : pc' = pc + 2)
    (k : ∀ T' h' b, b = h.size → Stand p l e R s m args below meth c T' locs (cells + 1) (slots + cap) → T'.heap = h' → Ext h h' → AV Z h' b (newarray.typeOf aty) n (List.replicate n.toNatClampNeg (defaultValue (newarray.typeOf aty))) → Exa Z h' b ad → G (T'.setTop (mkF m pc' Ls (.ref b :: rest)))) : G (T.setTop (mkF m pc Ls (.int n :: rest))) := by
  subst hp
  obtain ⟨T', h', kA, X', e', E, A, Ex, st⟩ := newPE X hx hZ w eT (g := mkF m pc Ls (.int n :: rest)) rfl hd rfl hn hcap hb hc hl had
  exact hG _ _ st (k T' h' _ rfl X' e' E (AV.new (Arv.new A hn)) Ex)
theorem g_clone (hG : Cl p e below G) (X : Stand p l e R s m args below meth c T locs cells slots) (hx : p.tables.exec = Jvm.exec) (hZ : Z.Warmed39 s.vm) {own ad : String} {index : Nat} (hown : s.vm.findClass own = some m.cls)
    (w1 : (Jvm.Cond.methodLink own index ⟨ad, "clone", "()Ljava/lang/Object;"⟩).before a0 Z = true) (w2 : (Jvm.Cond.sameMethod ad "java/lang/Object" "clone" "()Ljava/lang/Object;").before a0 Z = true) (w3 : (Jvm.Cond.native ⟨"java/lang/Object", "clone", "()Ljava/lang/Object;"⟩).before a0 Z = true)
    (w4 : (Jvm.Cond.instanceMethod ⟨"java/lang/Object", "clone", "()Ljava/lang/Object;"⟩).before a0 Z = true) (w5 : (Jvm.Cond.selects ad ⟨ad, "clone", "()Ljava/lang/Object;"⟩ ⟨"java/lang/Object", "clone", "()Ljava/lang/Object;"⟩).before a0 Z = true) (w6 : (Jvm.Cond.castable ad "java/lang/Cloneable").before a0 Z = true)
    (eT : T.heap = h) {a : Addr} {ty : FieldType} {n : Int32} {vs : List Value} (A : AV Z h a ty n vs) (E : Exa Z h a ad) (hsz : Ls.size = c.maxLocals) (hd : decode c.code pc = .ok (.invokevirtual index, 3)) (hfr : 1 ≤ R.frames) (W cap : Nat) (hW : (rest.map fun v => v.category).sum ≤ W) (hlo : W + 14 ≤ R.locals) (hcap : n.toNatClampNeg ≤ cap) (hc : cells + 1 ≤ R.cells) (hsl : slots + cap ≤ R.slots) (hp : pc' = pc + 3)
    (k : ∀ T' h' b, b = h.size → Stand p l e R s m args below meth c T' locs (cells + 1) (slots + cap) → T'.heap = h' → Ext h h' → AV Z h' b ty n vs → Exa Z h' b ad → G (T'.setTop (mkF m pc' Ls (.ref b :: rest)))) : G (T.setTop (mkF m pc Ls (.ref a :: rest))) := by
  subst hp
  obtain ⟨kA, A, q⟩ := A
  obtain ⟨T', h', X', e', E', A', Ex, st⟩ := cloneH X hx hZ hown w1 w2 w3 w4 w5 w6 eT A.arh E (g := mkF m pc Ls (.ref a :: rest)) rfl hsz rfl hd hfr (W := W) (by show 2 * 0 + _ ≤ _; omega) hlo hcap hc hsl
  exact hG _ _ st (k T' h' _ rfl X' e' E' ⟨kA, A', q⟩ Ex)
theorem g_copy (hG : Cl p e below G) (X : Stand p l e R s m args below meth c T locs cells slots) (hx : p.tables.exec = Jvm.exec) (hZ : Z.Warmed39 s.vm) {own : String} {index : Nat} (hown : s.vm.findClass own = some m.cls)
    (w1 : (Jvm.Cond.methodLink own index Jvm.Stand.acN).before a0 Z = true) (w2 : (Jvm.Cond.native Jvm.Stand.acN).before a0 Z = true) (w3 : (Jvm.Cond.static Jvm.Stand.acN).before a0 Z = true) (w4 : (Jvm.Cond.initialized "java/lang/System").before a0 Z = true) (eT : T.heap = h)
    {a b : Addr} {ty : FieldType} {n z sp dp nn : Int32} {vs vd vr : List Value} (A : AV Z h a ty n vs) (B : AV Z h b ty z vd) (hr : refKind ty = false) (h1 : ¬ sp < 0) (h2 : ¬ dp < 0) (h3 : ¬ nn < 0) (h4 : sp.toNatClampNeg + nn.toNatClampNeg ≤ n.toNatClampNeg) (h5 : dp.toNatClampNeg + nn.toNatClampNeg ≤ z.toNatClampNeg)
    (hvr : vd.take dp.toNatClampNeg ++ ((List.range nn.toNatClampNeg).map fun i => vs.getD (sp.toNatClampNeg + i) (defaultValue ty)) ++ vd.drop (dp.toNatClampNeg + nn.toNatClampNeg) = vr) {n0 : Nat} (N0 : Fr n0 locs) (ge : n0 ≤ b) (hsz : Ls.size = c.maxLocals) (hd : decode c.code pc = .ok (.invokestatic index, 3)) (hfr : 1 ≤ R.frames) (W : Nat) (hW : (rest.map fun v => v.category).sum ≤ W) (hlo : W + (nativeFrameWords "java/lang/System" "arraycopy" 5 + 11) ≤ R.locals) (hp : pc' = pc + 3)
    (k : ∀ T' h' L, Stand p l e R s m args below meth c T' L cells slots → T'.heap = h' → Fr n0 L → Keep h h' [b] → AV Z h' b ty z vr → G (T'.setTop (mkF m pc' Ls rest))) : G (T.setTop (mkF m pc Ls (.int nn :: .int dp :: .ref b :: .int sp :: .ref a :: rest))) := by
  subst hp hvr
  obtain ⟨kA, A, qa⟩ := A
  obtain ⟨kB, B, qb⟩ := B
  obtain ⟨T', h', L', X', e', N', K', V', st⟩ := cpA X hx hZ hown w1 w2 w3 w4 eT A B (Or.inl ⟨rfl, hr⟩) h1 h2 h3 h4 h5 rfl (by omega) N0 ge (g := mkF m pc Ls (.int nn :: .int dp :: .ref b :: .int sp :: .ref a :: rest)) rfl hsz rfl hd hfr (W := W) (by show 2 * 0 + _ ≤ _; omega) hlo
  exact hG _ _ st (k T' h' L' X' e' N' K' ⟨kB, V', by simp only [List.length_append, List.length_take, List.length_map, List.length_range, List.length_drop]; omega⟩)
end New
end Jvm.OwnKit
namespace Jvm.OwnFl
open Jvm.FP.Core
theorem two_ne : (2 : Rat) ≠ 0 := by decide
theorem p2pos (q : Int) : (0 : Rat) < (2 : Rat) ^ q := Rat.zpow_pos (by decide)
theorem p2add (a b : Int) : (2 : Rat) ^ (a + b) = (2 : Rat) ^ a * (2 : Rat) ^ b := Rat.zpow_add two_ne a b
theorem p2nat (n : Nat) : (2 : Rat) ^ (n : Int) = ((2 ^ n : Nat) : Rat) := by rw [Rat.zpow_natCast, Rat.natCast_pow]; rfl
theorem p2le {a b : Int} (h : a ≤ b) : (2 : Rat) ^ a ≤ (2 : Rat) ^ b := by
  obtain ⟨n, hn⟩ : ∃ n : Nat, b = a + n := ⟨(b - a).toNat, by omega⟩
  subst hn
  rw [p2add, p2nat]
  have h1 : (1 : Rat) ≤ ((2 ^ n : Nat) : Rat) := by
    have q : ((1 : Nat) : Rat) ≤ ((2 ^ n : Nat) : Rat) := Rat.natCast_le_natCast.mpr (Nat.two_pow_pos n)
    exact q
  have q := Rat.mul_le_mul_of_nonneg_left h1 (Rat.le_of_lt (p2pos a))
  rwa [Rat.mul_one] at q
theorem p2lt {a b : Int} (h : (2 : Rat) ^ a < (2 : Rat) ^ b) : a < b := by
  by_cases q : a < b
  · exact q
  · exact absurd (p2le (Int.not_lt.mp q)) (Rat.not_le.mpr h)
/-- the value of a datum (nought for what is no number) -/
def rvd : Datum → Rat
  | .fin s c q => ((signed s c : Int) : Rat) * (2 : Rat) ^ q
  | _ => 0
/-- v is a finite double, of the value x -/
def DV (v : UInt64) (x : Rat) : Prop := ∃ s c q, val64 v = .fin s c q ∧ rvd (.fin s c q) = x
theorem DV.fin {v : UInt64} {x : Rat} (h : DV v x) : Jvm.Free.Fl.Fin64 v := by
  obtain ⟨s, c, q, h, -⟩ := h
  exact Jvm.Free.Fl.fin64_core.mpr ⟨s, c, q, h⟩
theorem DV.noNaN {v : UInt64} {x : Rat} (h : DV v x) : Jvm.Free.Fl.NoNaN64 v := h.fin.noNaN
theorem units_val (s : Bool) (c : Nat) {q e : Int} (h : e ≤ q) : ((signed s (inUnits c q e) : Int) : Rat) * (2 : Rat) ^ e = ((signed s c : Int) : Rat) * (2 : Rat) ^ q := by
  obtain ⟨n, rfl⟩ : ∃ n : Nat, q = e + n := ⟨(q - e).toNat, by omega⟩
  unfold inUnits
  rw [signed_mul, Rat.intCast_mul, Rat.mul_assoc, show (e + (n : Int) - e).toNat = n by omega, p2add, p2nat, Rat.mul_comm ((2 : Rat) ^ e)]
  rfl
theorem dcmp_of {a b : UInt64} {x y : Rat} (ha : DV a x) (hb : DV b y) : dcmp a b = some (if x < y then .lt else if x = y then .eq else .gt) := by
  obtain ⟨s, c, q, h1, rfl⟩ := ha
  obtain ⟨t, d, r, h2, rfl⟩ := hb
  show order (val64 a) (val64 b) = _
  rw [h1, h2]
  show some (compare (signed s (inUnits c q (min q r))) (signed t (inUnits d r (min q r)))) = some (if ((signed s c : Int) : Rat) * (2 : Rat) ^ q < ((signed t d : Int) : Rat) * (2 : Rat) ^ r then .lt else if ((signed s c : Int) : Rat) * (2 : Rat) ^ q = ((signed t d : Int) : Rat) * (2 : Rat) ^ r then .eq else .gt)
  rw [compare_ite, ← units_val s c (Int.min_le_left q r), ← units_val t d (Int.min_le_right q r)]
  generalize signed s (inUnits c q (min q r)) = i
  generalize signed t (inUnits d r (min q r)) = j
  have hu := p2pos (min q r)
  generalize (2 : Rat) ^ (min q r) = u at hu
  have k1 : ∀ i j : Int, ((i : Rat) * u < (j : Rat) * u) ↔ i < j := fun i j => (Rat.mul_lt_mul_right hu).trans Rat.intCast_lt_intCast
  have k2 : ((i : Rat) * u = (j : Rat) * u) ↔ i = j := by
    constructor
    · intro h
      rcases Int.lt_trichotomy i j with g | g | g
      · have := (k1 i j).mpr g; rw [h] at this; exact absurd this Rat.lt_irrefl
      · exact g
      · have := (k1 j i).mpr g; rw [h] at this; exact absurd this Rat.lt_irrefl
    · intro h; rw [h]
  simp only [k1, k2]
theorem dcmp_lt {a b : UInt64} {x y : Rat} (ha : DV a x) (hb : DV b y) (h : x < y) : Jvm.FP.dcmp a b = some .lt := by
  show dcmp a b = _
  rw [dcmp_of ha hb, if_pos h]
theorem dcmp_eq {a b : UInt64} {x y : Rat} (ha : DV a x) (hb : DV b y) (h : x = y) : Jvm.FP.dcmp a b = some .eq := by
  show dcmp a b = _
  rw [dcmp_of ha hb, if_neg (by rw [h]; exact Rat.lt_irrefl), if_pos h]
theorem dcmp_gt {a b : UInt64} {x y : Rat} (ha : DV a x) (hb : DV b y) (h : y < x) : Jvm.FP.dcmp a b = some .gt := by
  show dcmp a b = _
  rw [dcmp_of ha hb, if_neg (by rw [Rat.not_lt]; exact Rat.le_of_lt h), if_neg (Rat.ne_of_gt h)]
theorem dcmp_le {a b : UInt64} {x y : Rat} (ha : DV a x) (hb : DV b y) (h : x ≤ y) : Jvm.FP.dcmp a b = some .lt ∨ Jvm.FP.dcmp a b = some .eq := by
  by_cases q : x = y
  · exact Or.inr (dcmp_eq ha hb q)
  · exact Or.inl (dcmp_lt ha hb (Rat.lt_of_le_of_ne h q))
theorem dcmp_ge {a b : UInt64} {x y : Rat} (ha : DV a x) (hb : DV b y) (h : y ≤ x) : Jvm.FP.dcmp a b = some .gt ∨ Jvm.FP.dcmp a b = some .eq := by
  by_cases q : x = y
  · exact Or.inr (dcmp_eq ha hb q)
  · exact Or.inl (dcmp_gt ha hb (Rat.lt_of_le_of_ne h (fun z => q z.symm)))
/-- the rounding of a positive ratio, in full -/
theorem rr_spec (s : Bool) {A B : Nat} (e : Int) (hA : 0 < A) (hB : 0 < B) {x : Rat} (hx : x * (B : Rat) = (A : Rat) * (2 : Rat) ^ e) (hlt : x < (2 : Rat) ^ (1023 : Int)) :
    ∃ c q, roundRatio b64 s A B e = .fin s c q ∧ ∃ (m : Nat) (r : Int), (c : Rat) * (2 : Rat) ^ q = (m : Rat) * (2 : Rat) ^ r ∧ -1074 ≤ r ∧ m ≤ 2 ^ 53 ∧ 2 * x ≤ (2 * (m : Rat) + 1) * (2 : Rat) ^ r ∧ 2 * (m : Rat) * (2 : Rat) ^ r ≤ 2 * x + (2 : Rat) ^ r ∧
      x < 9007199254740992 * (2 : Rat) ^ r ∧ (r = -1074 ∨ 4503599627370496 * (2 : Rat) ^ r ≤ x) := by
  have g1 := quantum_ge b64 A B e
  have g2 := nearest_units_le (f := b64) hA hB e
  have g3 := quantum_not_below (f := b64) hA hB e
  have g4 := quantum_below (f := b64) hA hB e
  unfold roundRatio
  rw [if_neg (by omega : ¬ A = 0)]
  generalize quantum b64 A B e = r at *
  unfold roundAt
  have hD := unitsDen_pos hB e r
  obtain ⟨n1, n2, -⟩ := nearest_spec (unitsNum A e r) (unitsDen B e r) hD
  have key : x * (unitsDen B e r : Rat) = (unitsNum A e r : Rat) * (2 : Rat) ^ r := by
    unfold unitsDen unitsNum
    rw [Rat.natCast_mul, Rat.natCast_mul, ← Rat.mul_assoc, hx, ← p2nat, ← p2nat, Rat.mul_assoc, Rat.mul_assoc, ← p2add, ← p2add, show e + ((r - e).toNat : Int) = ((e - r).toNat : Int) + r by omega]
  have b1 : unitsNum A e r < 2 ^ 53 * unitsDen B e r := (units_below A B e r 53).mpr g4
  have b2 : r = -1074 ∨ 2 ^ 52 * unitsDen B e r ≤ unitsNum A e r := by
    rcases g3 with g3 | g3
    · exact Or.inl g3
    · exact Or.inr (Nat.le_of_not_lt fun q => g3 ((units_below A B e r 52).mp q))
  have hr0 : -1074 ≤ r := g1
  have hm53 : nearest (unitsNum A e r) (unitsDen B e r) ≤ 2 ^ 53 := g2
  clear g1 g2 g3 g4
  generalize nearest (unitsNum A e r) (unitsDen B e r) = m at *
  generalize unitsNum A e r = N at *
  generalize unitsDen B e r = D at *
  have hu := p2pos r
  have hDp : (0 : Rat) < (D : Rat) := Rat.natCast_pos.mpr hD
  have n1' : 2 * (N : Rat) ≤ (2 * (m : Rat) + 1) * (D : Rat) := by
    have q := Rat.natCast_le_natCast.mpr n1
    simpa [Rat.natCast_mul, Rat.natCast_add] using q
  have n2' : 2 * (m : Rat) * (D : Rat) ≤ 2 * (N : Rat) + (D : Rat) := by
    have q := Rat.natCast_le_natCast.mpr n2
    simpa [Rat.natCast_mul, Rat.natCast_add] using q
  have b1' : (N : Rat) < 9007199254740992 * (D : Rat) := by
    have q := Rat.natCast_lt_natCast.mpr b1
    simpa [Rat.natCast_mul] using q
  have b2' : r = -1074 ∨ 4503599627370496 * (D : Rat) ≤ (N : Rat) := by
    rcases b2 with q | q
    · exact Or.inl q
    · right
      have q := Rat.natCast_le_natCast.mpr q
      simpa [Rat.natCast_mul] using q
  have f1 : 2 * x ≤ (2 * (m : Rat) + 1) * (2 : Rat) ^ r := by
    refine Rat.le_of_mul_le_mul_right (c := (D : Rat)) ?_ hDp
    have q := Rat.mul_le_mul_of_nonneg_right n1' (Rat.le_of_lt hu)
    generalize (2 : Rat) ^ r = u at *
    grind
  have f2 : 2 * (m : Rat) * (2 : Rat) ^ r ≤ 2 * x + (2 : Rat) ^ r := by
    refine Rat.le_of_mul_le_mul_right (c := (D : Rat)) ?_ hDp
    have q := Rat.mul_le_mul_of_nonneg_right n2' (Rat.le_of_lt hu)
    generalize (2 : Rat) ^ r = u at *
    grind
  have f3 : x < 9007199254740992 * (2 : Rat) ^ r := by
    refine Rat.lt_of_mul_lt_mul_right (c := (D : Rat)) ?_ (Rat.le_of_lt hDp)
    have q := Rat.mul_lt_mul_of_pos_right b1' hu
    generalize (2 : Rat) ^ r = u at *
    grind
  have f4 : r = -1074 ∨ 4503599627370496 * (2 : Rat) ^ r ≤ x := by
    rcases b2' with q | q
    · exact Or.inl q
    · right
      refine Rat.le_of_mul_le_mul_right (c := (D : Rat)) ?_ hDp
      have q := Rat.mul_le_mul_of_nonneg_right q (Rat.le_of_lt hu)
      generalize (2 : Rat) ^ r = u at *
      grind
  have hr : r ≤ 970 := by
    rcases f4 with q | q
    · omega
    · have q1 : (2 : Rat) ^ ((52 : Int) + r) < (2 : Rat) ^ (1023 : Int) := by
        rw [p2add, show (2 : Rat) ^ (52 : Int) = 4503599627370496 by decide +kernel]
        exact Std.lt_of_le_of_lt q hlt
      have := p2lt q1
      omega
  have hqm : b64.qmax = 971 := by decide
  by_cases hm : m < 2 ^ 53
  · refine ⟨m, r, ?_, m, r, rfl, hr0, hm53, f1, f2, f3, f4⟩
    show (if m < 2 ^ 53 then bound b64 s m r else _) = _
    rw [if_pos hm]
    unfold bound
    rw [if_pos (by omega)]
  · have hm : m = 2 ^ 53 := by omega
    refine ⟨2 ^ 52, r + 1, ?_, m, r, ?_, hr0, hm53, f1, f2, f3, f4⟩
    · show (if m < 2 ^ 53 then bound b64 s m r else bound b64 s b64.tails (r + 1)) = _
      rw [if_neg (by omega)]
      unfold bound
      rw [if_pos (by omega)]
      rfl
    · subst hm
      rw [p2add, Rat.zpow_one]
      generalize (2 : Rat) ^ r = u
      have e1 : ((2 ^ 52 : Nat) : Rat) = 4503599627370496 := by decide +kernel
      have e2 : ((2 ^ 53 : Nat) : Rat) = 9007199254740992 := by decide +kernel
      rw [e1, e2]
      grind
/-- the rounding of a rational number to a double's precision -/
def RR (x : Rat) : Rat := rvd (roundRatio b64 (decide (x < 0)) x.num.natAbs x.den 0)
theorem rat_num (x : Rat) : x * (x.den : Rat) = (x.num : Rat) := by
  have h : x = (x.num : Rat) / ((x.den : Int) : Rat) := by rw [← Rat.divInt_eq_div, Rat.num_divInt_den]
  have hd : (((x.den : Int)) : Rat) ≠ 0 := by
    intro q
    have := Rat.intCast_eq_zero_iff.mp q
    have := x.den_nz
    omega
  have q := Rat.div_mul_cancel (a := (x.num : Rat)) hd
  rw [← h] at q
  exact q
theorem signed_rat (s : Bool) (c : Nat) : ((signed s c : Int) : Rat) = if s then -(c : Rat) else (c : Rat) := by cases s <;> simp [signed, Rat.intCast_natCast]
/-- rounding goes by the value -/
theorem rr_congr {s : Bool} {A B : Nat} {e : Int} {x : Rat} (hB : 0 < B) (hx : x * (B : Rat) = ((signed s A : Int) : Rat) * (2 : Rat) ^ e) (hA : A ≠ 0) : roundRatio b64 s A B e = roundRatio b64 (decide (x < 0)) x.num.natAbs x.den 0 := by
  have hu := p2pos e
  have hBp : (0 : Rat) < (B : Rat) := Rat.natCast_pos.mpr hB
  have hAp : (0 : Rat) < (A : Rat) := Rat.natCast_pos.mpr (by omega)
  have hAu := Rat.mul_pos hAp hu
  have hs : decide (x < 0) = s := by
    rw [signed_rat] at hx
    cases s
    · simp only [Bool.false_eq_true, if_false] at hx
      rw [decide_eq_false_iff_not]
      intro q
      have := (Rat.mul_neg_iff_of_pos_right hBp).mpr q
      rw [hx] at this
      grind
    · simp only [if_true] at hx
      rw [decide_eq_true_iff]
      refine (Rat.mul_neg_iff_of_pos_right hBp).mp ?_
      rw [hx]
      grind
  rw [hs]
  refine roundRatio_congr hB x.den_pos ?_
  -- magnitudes
  have h1 := rat_num x
  have h2 : (x.num : Rat) * (B : Rat) = ((signed s A : Int) : Rat) * (2 : Rat) ^ e * (x.den : Rat) := by rw [← h1, ← hx]; grind
  have h3 : (x.num : Rat) * (B : Rat) * (2 : Rat) ^ (((0 - e).toNat : Nat) : Int) = ((signed s A : Int) : Rat) * (x.den : Rat) * (2 : Rat) ^ (((e - 0).toNat : Nat) : Int) := by
    rw [h2, Rat.mul_assoc, Rat.mul_assoc, Rat.mul_comm ((2 : Rat) ^ e), Rat.mul_assoc, ← p2add, ← Rat.mul_assoc]
    rw [show (((0 - e).toNat : Nat) : Int) + e = (((e - 0).toNat : Nat) : Int) by omega]
  rw [p2nat, p2nat] at h3
  have h4 : x.num * (B : Int) * ((2 ^ (0 - e).toNat : Nat) : Int) = signed s A * (x.den : Int) * ((2 ^ (e - 0).toNat : Nat) : Int) := by
    refine Rat.intCast_inj.mp ?_
    rw [Rat.intCast_mul, Rat.intCast_mul, Rat.intCast_mul, Rat.intCast_mul]
    exact h3
  have h5 := congrArg Int.natAbs h4
  simp only [Int.natAbs_mul, Int.natAbs_natCast, natAbs_signed] at h5
  exact h5.symm
theorem rvd_rr {s : Bool} {A B : Nat} {e : Int} {x : Rat} (hB : 0 < B) (hx : x * (B : Rat) = ((signed s A : Int) : Rat) * (2 : Rat) ^ e) : rvd (roundRatio b64 s A B e) = RR x := by
  by_cases hA : A = 0
  · subst hA
    have hx0 : x = 0 := by
      rw [signed_zero] at hx
      have hBp : (B : Rat) ≠ 0 := fun q => by have := Rat.natCast_eq_zero_iff.mp q; omega
      rcases Rat.mul_eq_zero.mp (hx.trans (by rw [show ((0 : Int) : Rat) = 0 from rfl, Rat.zero_mul])) with q | q
      · exact q
      · exact absurd q hBp
    subst hx0
    unfold RR roundRatio
    rw [if_pos rfl, if_pos (by decide)]
    show ((signed s 0 : Int) : Rat) * _ = ((signed _ 0 : Int) : Rat) * _
    rw [signed_zero, signed_zero]
  · rw [rr_congr hB hx hA]; rfl
theorem RR_neg (x : Rat) : RR (-x) = - RR x := by
  have h := rat_num x
  have h1 : rvd (roundRatio b64 (!decide (x < 0)) x.num.natAbs x.den 0) = RR (-x) := by
    refine rvd_rr x.den_pos ?_
    rw [Rat.zpow_zero, Rat.mul_one, Rat.neg_mul, h]
    have : (signed (!decide (x < 0)) x.num.natAbs : Int) = - x.num := by
      by_cases q : x < 0
      · have : x.num < 0 := by
          rw [← Int.not_le, Rat.num_nonneg, Rat.not_le]; exact q
        simp [signed, q]; omega
      · have : 0 ≤ x.num := by rw [Rat.num_nonneg]; exact Rat.not_lt.mp q
        simp [signed, q]; omega
    rw [this]; rfl
  rw [← h1, ← negate_roundRatio]
  unfold RR
  generalize roundRatio b64 (decide (x < 0)) x.num.natAbs x.den 0 = d
  cases d with
  | nan => simp [negate, rvd]
  | inf s => simp [negate, rvd]
  | fin s c q =>
    show ((signed (!s) c : Int) : Rat) * _ = -(((signed s c : Int) : Rat) * _)
    rw [← Rat.neg_mul]
    congr 1
    cases s <;> simp [signed]
/-- what is known of a rounding y of x -/
def Rsp (x y : Rat) : Prop := ∃ (m r : Int), y = (m : Rat) * (2 : Rat) ^ r ∧ -1074 ≤ r ∧ m.natAbs ≤ 2 ^ 53 ∧ 2 * x ≤ (2 * (m : Rat) + 1) * (2 : Rat) ^ r ∧ (2 * (m : Rat) - 1) * (2 : Rat) ^ r ≤ 2 * x ∧
    x < 9007199254740992 * (2 : Rat) ^ r ∧ -(9007199254740992 * (2 : Rat) ^ r) < x ∧ (r = -1074 ∨ 4503599627370496 * (2 : Rat) ^ r ≤ x ∨ x ≤ -(4503599627370496 * (2 : Rat) ^ r))
theorem Rsp.neg {x y : Rat} (h : Rsp x y) : Rsp (-x) (-y) := by
  obtain ⟨m, r, h1, h2, h3, h4, h5, h6, h7, h8⟩ := h
  have hu := p2pos r
  refine ⟨-m, r, ?_, h2, by omega, ?_, ?_, ?_, ?_, ?_⟩ <;> (try rw [Rat.intCast_neg]) <;> generalize (2 : Rat) ^ r = u at * <;> grind
theorem big_lt : (1267650600228229401496703205376 : Rat) < (2 : Rat) ^ (1023 : Int) := by
  have h : (2 : Rat) ^ (100 : Int) < (2 : Rat) ^ (1023 : Int) := by
    refine Rat.lt_of_le_of_ne (p2le (by decide)) fun q => ?_
    have h2 : (2 : Rat) ^ (1023 : Int) = (2 : Rat) ^ (100 : Int) * (2 : Rat) ^ (923 : Int) := by rw [← p2add]; rfl
    have h3 : (2 : Rat) ^ (1 : Int) ≤ (2 : Rat) ^ (923 : Int) := p2le (by decide)
    have h4 := p2pos 100
    rw [Rat.zpow_one] at h3
    have h5 := Rat.mul_le_mul_of_nonneg_left h3 (Rat.le_of_lt h4)
    grind
  have e : (2 : Rat) ^ (100 : Int) = 1267650600228229401496703205376 := by decide +kernel
  rw [← e]; exact h
theorem RR_pos {x : Rat} (h0 : 0 < x) (h : x ≤ 1267650600228229401496703205376) : Rsp x (RR x) ∧ ∃ c q, roundRatio b64 (decide (x < 0)) x.num.natAbs x.den 0 = .fin false c q := by
  have hn : 0 < x.num := by
    have : 0 ≤ x.num := by rw [Rat.num_nonneg]; exact Rat.le_of_lt h0
    have : x.num ≠ 0 := fun q => by rw [Rat.num_eq_zero] at q; rw [q] at h0; exact absurd h0 Rat.lt_irrefl
    omega
  have hd : decide (x < 0) = false := by rw [decide_eq_false_iff_not, Rat.not_lt]; exact Rat.le_of_lt h0
  have e1 : ((x.num.natAbs : Nat) : Rat) = (x.num : Rat) := by
    have : ((x.num.natAbs : Nat) : Int) = x.num := by omega
    rw [← Rat.intCast_natCast, this]
  obtain ⟨c, q, hr, m, r, f0, f1, f2, f3, f4, f5, f6⟩ := rr_spec false (A := x.num.natAbs) (B := x.den) 0 (by omega) x.den_pos (x := x) (by rw [Rat.zpow_zero, Rat.mul_one, e1]; exact rat_num x) (Std.lt_of_le_of_lt h big_lt)
  refine ⟨⟨m, r, ?_, f1, by omega, ?_, ?_, ?_, ?_, ?_⟩, c, q, by rw [hd]; exact hr⟩
  · unfold RR
    rw [hd, hr]
    show ((signed false c : Int) : Rat) * _ = _
    rw [← Rat.intCast_natCast] at f0
    exact f0
  all_goals
    have hu := p2pos r
    have e2 : ((m : Int) : Rat) = (m : Rat) := rfl
    rw [e2] at *
    generalize (2 : Rat) ^ r = u at *
    grind
theorem RR_zero : RR 0 = 0 := by
  unfold RR roundRatio
  rw [if_pos (by decide)]
  show ((signed _ 0 : Int) : Rat) * _ = 0
  rw [signed_zero]
  exact Rat.zero_mul _
theorem Rsp.zero : Rsp 0 0 := by
  have hu := p2pos (-1074)
  refine ⟨0, -1074, ?_, by decide, by decide, ?_, ?_, ?_, ?_, Or.inl rfl⟩ <;> generalize (2 : Rat) ^ (-1074 : Int) = u at * <;> (try rw [show ((0 : Int) : Rat) = 0 from rfl]) <;> grind
theorem RR_spec {x : Rat} (h1 : -1267650600228229401496703205376 ≤ x) (h2 : x ≤ 1267650600228229401496703205376) : Rsp x (RR x) := by
  by_cases q : 0 < x
  · exact (RR_pos q h2).1
  · by_cases q2 : x = 0
    · subst q2; rw [RR_zero]; exact Rsp.zero
    · have q3 : 0 < -x := by grind
      have g := (RR_pos q3 (by grind)).1.neg
      rw [RR_neg, Rat.neg_neg, Rat.neg_neg] at g
      exact g
theorem DV.of_rr {v : UInt64} {s : Bool} {A B : Nat} {e : Int} {x : Rat} (hv : val64 v = roundRatio b64 s A B e) (hB : 0 < B) (hx : x * (B : Rat) = ((signed s A : Int) : Rat) * (2 : Rat) ^ e) (h1 : -1267650600228229401496703205376 ≤ x) (h2 : x ≤ 1267650600228229401496703205376) : DV v (RR x) := by
  have hr := rvd_rr hB hx
  by_cases hA : A = 0
  · subst hA
    refine ⟨s, 0, b64.qmin, by rw [hv]; unfold roundRatio; rw [if_pos rfl], ?_⟩
    rw [← hr]; unfold roundRatio; rw [if_pos rfl]
  · obtain ⟨c, q, h, -⟩ := rr_spec s (A := A) (B := B) e (by omega) hB (x := if s then -x else x) (by rw [signed_rat] at hx; cases s <;> simp at hx ⊢ <;> grind) (Std.lt_of_le_of_lt (by cases s <;> simp <;> grind) big_lt)
    exact ⟨s, c, q, by rw [hv, h], by rw [← hr, h]⟩
theorem i2d_RR (n : Int32) : DV (Jvm.FP.i2d n) (RR (n.toInt : Rat)) := by
  have h := n.le_toInt
  have h' := n.toInt_lt
  refine DV.of_rr (s := decide (n.toInt < 0)) (A := n.toInt.natAbs) (B := 1) (e := 0) ?_ (by decide) ?_ ?_ ?_
  · show val64 (i2d n) = _
    rw [val64_i2d]; rfl
  · rw [Rat.zpow_zero, Rat.mul_one, show ((1 : Nat) : Rat) = 1 from rfl, Rat.mul_one]
    congr 1
    by_cases q : n.toInt < 0 <;> simp [signed, q] <;> omega
  · have := Rat.intCast_le_intCast.mpr h; grind
  · have := Rat.intCast_le_intCast.mpr (Int.le_of_lt h'); grind
/-- a rational number that a double can hold (no overflow asked) -/
def Rp (z : Rat) : Prop := ∃ m k : Int, z = (m : Rat) * (2 : Rat) ^ k ∧ m.natAbs ≤ 2 ^ 53 ∧ -1074 ≤ k
theorem abs_le {m : Int} (h : m.natAbs ≤ 2 ^ 53) : -(9007199254740992 : Rat) ≤ (m : Rat) ∧ (m : Rat) ≤ 9007199254740992 := by
  have h1 : (-9007199254740992 : Int) ≤ m ∧ m ≤ 9007199254740992 := by omega
  exact ⟨by have := Rat.intCast_le_intCast.mpr h1.1; simpa using this, by have := Rat.intCast_le_intCast.mpr h1.2; simpa using this⟩
/-- a number that can be held is a multiple of the quantum, or no greater than the quantum's least -/
theorem rp_mul {z : Rat} {r : Int} (h : Rp z) : (∃ j : Int, z = (j : Rat) * (2 : Rat) ^ r) ∨ (-1074 < r ∧ z ≤ 4503599627370496 * (2 : Rat) ^ r ∧ -(4503599627370496 * (2 : Rat) ^ r) ≤ z) := by
  obtain ⟨m, k, hz, hm, hk⟩ := h
  by_cases hkr : r ≤ k
  · left
    obtain ⟨i, rfl⟩ : ∃ i : Nat, k = r + i := ⟨(k - r).toNat, by omega⟩
    refine ⟨m * ((2 ^ i : Nat) : Int), ?_⟩
    rw [hz, p2add, p2nat, Rat.intCast_mul, Rat.intCast_natCast]
    generalize (2 : Rat) ^ r = u
    generalize ((2 ^ i : Nat) : Rat) = w
    grind
  · right
    have h1 : (2 : Rat) ^ (k + 1) ≤ (2 : Rat) ^ r := p2le (by omega)
    rw [p2add, Rat.zpow_one] at h1
    obtain ⟨a1, a2⟩ := abs_le hm
    have hu := p2pos k
    have b1 := Rat.mul_le_mul_of_nonneg_right a1 (Rat.le_of_lt hu)
    have b2 := Rat.mul_le_mul_of_nonneg_right a2 (Rat.le_of_lt hu)
    rw [hz]
    refine ⟨by omega, ?_, ?_⟩ <;> generalize (2 : Rat) ^ r = w at * <;> generalize (2 : Rat) ^ k = u at * <;> grind
/-- the nearest: whatever can be held is no nearer -/
theorem Rsp.near {x y z : Rat} (h : Rsp x y) (hz : Rp z) (t : Rat) (t1 : x - z ≤ t) (t2 : z - x ≤ t) : x - y ≤ t ∧ y - x ≤ t := by
  obtain ⟨n, r, rfl, h2, h3, h4, h5, h6, h7, h8⟩ := h
  have hu := p2pos r
  -- multiples of the quantum
  have main : ∀ (j : Int) (t : Rat), x - (j : Rat) * (2 : Rat) ^ r ≤ t → (j : Rat) * (2 : Rat) ^ r - x ≤ t → x - (n : Rat) * (2 : Rat) ^ r ≤ t ∧ (n : Rat) * (2 : Rat) ^ r - x ≤ t := by
    intro j t t1 t2
    rcases Int.lt_trichotomy j n with g | g | g
    · have g1 : (j : Rat) + 1 ≤ (n : Rat) := by have := Rat.intCast_le_intCast.mpr (show j + 1 ≤ n by omega); simpa using this
      have g2 := Rat.mul_le_mul_of_nonneg_right g1 (Rat.le_of_lt hu)
      generalize (2 : Rat) ^ r = u at *
      constructor <;> grind
    · subst g; exact ⟨t1, t2⟩
    · have g1 : (n : Rat) + 1 ≤ (j : Rat) := by have := Rat.intCast_le_intCast.mpr (show n + 1 ≤ j by omega); simpa using this
      have g2 := Rat.mul_le_mul_of_nonneg_right g1 (Rat.le_of_lt hu)
      generalize (2 : Rat) ^ r = u at *
      constructor <;> grind
  rcases rp_mul (r := r) hz with ⟨j, rfl⟩ | ⟨g0, g1, g2⟩
  · exact main j t t1 t2
  · rcases h8 with q | q | q
    · omega
    · refine main 4503599627370496 t ?_ ?_ <;> rw [show ((4503599627370496 : Int) : Rat) = 4503599627370496 from rfl] <;> generalize (2 : Rat) ^ r = u at * <;> grind
    · refine main (-4503599627370496) t ?_ ?_ <;> rw [show ((-4503599627370496 : Int) : Rat) = -4503599627370496 from rfl] <;> generalize (2 : Rat) ^ r = u at * <;> grind
theorem Rsp.exact {x y : Rat} (h : Rsp x y) (hx : Rp x) : y = x := by
  have := h.near hx 0 (by grind) (by grind)
  grind
theorem RR_exact {x : Rat} (hx : Rp x) (h1 : -1267650600228229401496703205376 ≤ x) (h2 : x ≤ 1267650600228229401496703205376) : RR x = x := (RR_spec h1 h2).exact hx
theorem Rsp.le {x y z : Rat} (h : Rsp x y) (hz : Rp z) (q : x ≤ z) : y ≤ z := by
  have := h.near hz (z - x) (by grind) (by grind)
  grind
theorem Rsp.ge {x y z : Rat} (h : Rsp x y) (hz : Rp z) (q : z ≤ x) : z ≤ y := by
  have := h.near hz (x - z) (by grind) (by grind)
  grind
/-- the relative error, of what is not tiny -/
theorem Rsp.err {x y : Rat} (h : Rsp x y) (hx : 1 ≤ x * 1267650600228229401496703205376) : 9007199254740992 * (y - x) ≤ x ∧ 9007199254740992 * (x - y) ≤ x := by
  obtain ⟨n, r, rfl, h2, h3, h4, h5, h6, h7, h8⟩ := h
  have hu := p2pos r
  have k : 4503599627370496 * (2 : Rat) ^ r ≤ x := by
    rcases h8 with q | q | q
    · subst q
      have e1 : (2 : Rat) ^ (-1022 : Int) = 4503599627370496 * (2 : Rat) ^ (-1074 : Int) := by
        rw [show (-1022 : Int) = 52 + -1074 from rfl, p2add, show (2 : Rat) ^ (52 : Int) = 4503599627370496 by decide +kernel]
      have e2 : (2 : Rat) ^ (-1022 : Int) ≤ (2 : Rat) ^ (-100 : Int) := p2le (by decide)
      have e3 : (2 : Rat) ^ (-100 : Int) * (2 : Rat) ^ (100 : Int) = 1 := by rw [← p2add]; rfl
      have e4 : (2 : Rat) ^ (100 : Int) = 1267650600228229401496703205376 := by decide +kernel
      rw [e4] at e3
      rw [← e1]
      generalize (2 : Rat) ^ (-1022 : Int) = v at *
      generalize (2 : Rat) ^ (-100 : Int) = w at *
      grind
    · exact q
    · generalize (2 : Rat) ^ r = u at *
      grind
  generalize (2 : Rat) ^ r = u at *
  constructor <;> grind
/-- the error, of whatever size: relative, or below 2^-53 -/
theorem rp_int {n : Int} (h : n.natAbs ≤ 2 ^ 53) : Rp (n : Rat) := ⟨n, 0, by rw [Rat.zpow_zero, Rat.mul_one], h, by decide⟩
theorem RR_int {n : Int} (h : n.natAbs ≤ 2 ^ 53) : RR (n : Rat) = (n : Rat) := by
  refine RR_exact (rp_int h) ?_ ?_
  · have := Rat.intCast_le_intCast.mpr (show (-9007199254740992 : Int) ≤ n by omega); grind
  · have := Rat.intCast_le_intCast.mpr (show n ≤ (9007199254740992 : Int) by omega); grind
theorem i2d_DV (n : Int32) : DV (Jvm.FP.i2d n) (n.toInt : Rat) := by
  have h := n.le_toInt
  have h' := n.toInt_lt
  have q := i2d_RR n
  rw [RR_int (by omega)] at q
  exact q
/-- a written double, by its fields -/
theorem lit_DV {v : UInt64} {s : Bool} {c : Nat} {q : Int} {x : Rat} (h : val64 v = .fin s c q) (hx : ((signed s c : Int) : Rat) * (2 : Rat) ^ q = x) : DV v x := ⟨s, c, q, h, hx⟩
end Jvm.OwnFl
namespace Jvm.Pilot.@@N@@
open Jvm Jvm.ClassFile Sem Op Lib Jvm.Free Jvm.Stand Jvm.LawKit Jvm.RoadKit Jvm.OwnKit Bundle Jvm.Pilot.@@N@@.Jvm.D
theorem wd {a0 : Array Value} {Z : State} {d : Jvm.Cond} (hw : ∀ d ∈ tables_1, d.before a0 Z = true) (i : Nat) (h : tables_1[i]? = some d) : d.before a0 Z = true := hw d (List.mem_of_getElem? h)
theorem d1_0 : decode prog_78_method_1_code 0 = .ok (.aload_n 0, 1) := by decide +kernel
theorem d1_1 : decode prog_78_method_1_code 1 = .ok (.invokespecial 1, 3) := by decide +kernel
theorem d1_4 : decode prog_78_method_1_code 4 = .ok (.aload_n 0, 1) := by decide +kernel
theorem d1_5 : decode prog_78_method_1_code 5 = .ok (.iload_n 1, 1) := by decide +kernel
theorem d1_6 : decode prog_78_method_1_code 6 = .ok (.newarray .double, 2) := by decide +kernel
theorem d1_8 : decode prog_78_method_1_code 8 = .ok (.putfield 7, 3) := by decide +kernel
theorem d1_11 : decode prog_78_method_1_code 11 = .ok (.aload_n 0, 1) := by decide +kernel
theorem d1_12 : decode prog_78_method_1_code 12 = .ok (.iload_n 1, 1) := by decide +kernel
theorem d1_13 : decode prog_78_method_1_code 13 = .ok (.newarray .int, 2) := by decide +kernel
theorem d1_15 : decode prog_78_method_1_code 15 = .ok (.putfield 13, 3) := by decide +kernel
theorem d1_18 : decode prog_78_method_1_code 18 = .ok (.return_, 1) := by decide +kernel
theorem d3_0 : decode prog_78_method_2_code 0 = .ok (.aload_n 0, 1) := by decide +kernel
theorem d3_1 : decode prog_78_method_2_code 1 = .ok (.getfield 7, 3) := by decide +kernel
theorem d3_4 : decode prog_78_method_2_code 4 = .ok (.iload_n 1, 1) := by decide +kernel
theorem d3_5 : decode prog_78_method_2_code 5 = .ok (.daload, 1) := by decide +kernel
theorem d3_6 : decode prog_78_method_2_code 6 = .ok (.dconst 0, 1) := by decide +kernel
theorem d3_7 : decode prog_78_method_2_code 7 = .ok (.dcmp .l, 1) := by decide +kernel
theorem d3_8 : decode prog_78_method_2_code 8 = .ok (.ifCond .ne 20, 3) := by decide +kernel
theorem d3_11 : decode prog_78_method_2_code 11 = .ok (.aload_n 0, 1) := by decide +kernel
theorem d3_12 : decode prog_78_method_2_code 12 = .ok (.getfield 13, 3) := by decide +kernel
theorem d3_15 : decode prog_78_method_2_code 15 = .ok (.aload_n 0, 1) := by decide +kernel
theorem d3_16 : decode prog_78_method_2_code 16 = .ok (.dup, 1) := by decide +kernel
theorem d3_17 : decode prog_78_method_2_code 17 = .ok (.getfield 17, 3) := by decide +kernel
theorem d3_20 : decode prog_78_method_2_code 20 = .ok (.dup_x1, 1) := by decide +kernel
theorem d3_21 : decode prog_78_method_2_code 21 = .ok (.iconst 1, 1) := by decide +kernel
theorem d3_22 : decode prog_78_method_2_code 22 = .ok (.iadd, 1) := by decide +kernel
theorem d3_23 : decode prog_78_method_2_code 23 = .ok (.putfield 17, 3) := by decide +kernel
theorem d3_26 : decode prog_78_method_2_code 26 = .ok (.iload_n 1, 1) := by decide +kernel
theorem d3_27 : decode prog_78_method_2_code 27 = .ok (.iastore, 1) := by decide +kernel
theorem d3_28 : decode prog_78_method_2_code 28 = .ok (.aload_n 0, 1) := by decide +kernel
theorem d3_29 : decode prog_78_method_2_code 29 = .ok (.getfield 7, 3) := by decide +kernel
theorem d3_32 : decode prog_78_method_2_code 32 = .ok (.iload_n 1, 1) := by decide +kernel
theorem d3_33 : decode prog_78_method_2_code 33 = .ok (.aload_n 0, 1) := by decide +kernel
theorem d3_34 : decode prog_78_method_2_code 34 = .ok (.getfield 7, 3) := by decide +kernel
theorem d3_37 : decode prog_78_method_2_code 37 = .ok (.iload_n 1, 1) := by decide +kernel
theorem d3_38 : decode prog_78_method_2_code 38 = .ok (.daload, 1) := by decide +kernel
theorem d3_39 : decode prog_78_method_2_code 39 = .ok (.dload_n 2, 1) := by decide +kernel
theorem d3_40 : decode prog_78_method_2_code 40 = .ok (.invokestatic 21, 3) := by decide +kernel
theorem d3_43 : decode prog_78_method_2_code 43 = .ok (.dastore, 1) := by decide +kernel
theorem d3_44 : decode prog_78_method_2_code 44 = .ok (.return_, 1) := by decide +kernel
theorem d5_0 : decode prog_78_method_4_code 0 = .ok (.iconst 0, 1) := by decide +kernel
theorem d5_1 : decode prog_78_method_4_code 1 = .ok (.istore_n 1, 1) := by decide +kernel
theorem d5_2 : decode prog_78_method_4_code 2 = .ok (.iload_n 1, 1) := by decide +kernel
theorem d5_3 : decode prog_78_method_4_code 3 = .ok (.aload_n 0, 1) := by decide +kernel
theorem d5_4 : decode prog_78_method_4_code 4 = .ok (.getfield 17, 3) := by decide +kernel
theorem d5_7 : decode prog_78_method_4_code 7 = .ok (.if_icmp .ge 21, 3) := by decide +kernel
theorem d5_10 : decode prog_78_method_4_code 10 = .ok (.aload_n 0, 1) := by decide +kernel
theorem d5_11 : decode prog_78_method_4_code 11 = .ok (.getfield 7, 3) := by decide +kernel
theorem d5_14 : decode prog_78_method_4_code 14 = .ok (.aload_n 0, 1) := by decide +kernel
theorem d5_15 : decode prog_78_method_4_code 15 = .ok (.getfield 13, 3) := by decide +kernel
theorem d5_18 : decode prog_78_method_4_code 18 = .ok (.iload_n 1, 1) := by decide +kernel
theorem d5_19 : decode prog_78_method_4_code 19 = .ok (.iaload, 1) := by decide +kernel
theorem d5_20 : decode prog_78_method_4_code 20 = .ok (.dconst 0, 1) := by decide +kernel
theorem d5_21 : decode prog_78_method_4_code 21 = .ok (.dastore, 1) := by decide +kernel
theorem d5_22 : decode prog_78_method_4_code 22 = .ok (.iinc 1 1, 3) := by decide +kernel
theorem d5_25 : decode prog_78_method_4_code 25 = .ok (.goto (-23), 3) := by decide +kernel
theorem d5_28 : decode prog_78_method_4_code 28 = .ok (.aload_n 0, 1) := by decide +kernel
theorem d5_29 : decode prog_78_method_4_code 29 = .ok (.iconst 0, 1) := by decide +kernel
theorem d5_30 : decode prog_78_method_4_code 30 = .ok (.putfield 17, 3) := by decide +kernel
theorem d5_33 : decode prog_78_method_4_code 33 = .ok (.return_, 1) := by decide +kernel
theorem d6_0 : decode prog_78_method_6_code 0 = .ok (.aload_n 0, 1) := by decide +kernel
theorem d6_1 : decode prog_78_method_6_code 1 = .ok (.getfield 13, 3) := by decide +kernel
theorem d6_4 : decode prog_78_method_6_code 4 = .ok (.aload_n 0, 1) := by decide +kernel
theorem d6_5 : decode prog_78_method_6_code 5 = .ok (.getfield 17, 3) := by decide +kernel
theorem d6_8 : decode prog_78_method_6_code 8 = .ok (.invokestatic 31, 3) := by decide +kernel
theorem d6_11 : decode prog_78_method_6_code 11 = .ok (.astore_n 1, 1) := by decide +kernel
theorem d6_12 : decode prog_78_method_6_code 12 = .ok (.aload_n 1, 1) := by decide +kernel
theorem d6_13 : decode prog_78_method_6_code 13 = .ok (.invokestatic 37, 3) := by decide +kernel
theorem d6_16 : decode prog_78_method_6_code 16 = .ok (.aload_n 1, 1) := by decide +kernel
theorem d6_17 : decode prog_78_method_6_code 17 = .ok (.areturn, 1) := by decide +kernel
theorem d7_0 : decode jdk_65_method_123_code 0 = .ok (.iload_n 1, 1) := by decide +kernel
theorem d7_1 : decode jdk_65_method_123_code 1 = .ok (.aload_n 0, 1) := by decide +kernel
theorem d7_2 : decode jdk_65_method_123_code 2 = .ok (.arraylength, 1) := by decide +kernel
theorem d7_3 : decode jdk_65_method_123_code 3 = .ok (.if_icmp .ne 11, 3) := by decide +kernel
theorem d7_6 : decode jdk_65_method_123_code 6 = .ok (.aload_n 0, 1) := by decide +kernel
theorem d7_7 : decode jdk_65_method_123_code 7 = .ok (.invokevirtual 316, 3) := by decide +kernel
theorem d7_10 : decode jdk_65_method_123_code 10 = .ok (.checkcast 317, 3) := by decide +kernel
theorem d7_13 : decode jdk_65_method_123_code 13 = .ok (.areturn, 1) := by decide +kernel
theorem d7_14 : decode jdk_65_method_123_code 14 = .ok (.iload_n 1, 1) := by decide +kernel
theorem d7_15 : decode jdk_65_method_123_code 15 = .ok (.newarray .int, 2) := by decide +kernel
theorem d7_17 : decode jdk_65_method_123_code 17 = .ok (.astore_n 2, 1) := by decide +kernel
theorem d7_18 : decode jdk_65_method_123_code 18 = .ok (.aload_n 0, 1) := by decide +kernel
theorem d7_19 : decode jdk_65_method_123_code 19 = .ok (.iconst 0, 1) := by decide +kernel
theorem d7_20 : decode jdk_65_method_123_code 20 = .ok (.aload_n 2, 1) := by decide +kernel
theorem d7_21 : decode jdk_65_method_123_code 21 = .ok (.iconst 0, 1) := by decide +kernel
theorem d7_22 : decode jdk_65_method_123_code 22 = .ok (.aload_n 0, 1) := by decide +kernel
theorem d7_23 : decode jdk_65_method_123_code 23 = .ok (.arraylength, 1) := by decide +kernel
theorem d7_24 : decode jdk_65_method_123_code 24 = .ok (.iload_n 1, 1) := by decide +kernel
theorem d7_25 : decode jdk_65_method_123_code 25 = .ok (.invokestatic 304, 3) := by decide +kernel
theorem d7_28 : decode jdk_65_method_123_code 28 = .ok (.invokestatic 150, 3) := by decide +kernel
theorem d7_31 : decode jdk_65_method_123_code 31 = .ok (.aload_n 2, 1) := by decide +kernel
theorem d7_32 : decode jdk_65_method_123_code 32 = .ok (.areturn, 1) := by decide +kernel
theorem d8_0 : decode jdk_29_method_69_code 0 = .ok (.iload_n 0, 1) := by decide +kernel
theorem d8_1 : decode jdk_29_method_69_code 1 = .ok (.iload_n 1, 1) := by decide +kernel
theorem d8_2 : decode jdk_29_method_69_code 2 = .ok (.if_icmp .gt 7, 3) := by decide +kernel
theorem d8_5 : decode jdk_29_method_69_code 5 = .ok (.iload_n 0, 1) := by decide +kernel
theorem d8_6 : decode jdk_29_method_69_code 6 = .ok (.goto 4, 3) := by decide +kernel
theorem d8_9 : decode jdk_29_method_69_code 9 = .ok (.iload_n 1, 1) := by decide +kernel
theorem d8_10 : decode jdk_29_method_69_code 10 = .ok (.ireturn, 1) := by decide +kernel
theorem d9_0 : decode jdk_65_method_2_code 0 = .ok (.aload_n 0, 1) := by decide +kernel
theorem d9_1 : decode jdk_65_method_2_code 1 = .ok (.iconst 0, 1) := by decide +kernel
theorem d9_2 : decode jdk_65_method_2_code 2 = .ok (.iconst 0, 1) := by decide +kernel
theorem d9_3 : decode jdk_65_method_2_code 3 = .ok (.aload_n 0, 1) := by decide +kernel
theorem d9_4 : decode jdk_65_method_2_code 4 = .ok (.arraylength, 1) := by decide +kernel
theorem d9_5 : decode jdk_65_method_2_code 5 = .ok (.invokestatic 7, 3) := by decide +kernel
theorem d9_8 : decode jdk_65_method_2_code 8 = .ok (.return_, 1) := by decide +kernel
theorem d10_0 : decode jdk_2529_method_3_code 0 = .ok (.iload_n 3, 1) := by decide +kernel
theorem d10_1 : decode jdk_2529_method_3_code 1 = .ok (.iload_n 2, 1) := by decide +kernel
theorem d10_2 : decode jdk_2529_method_3_code 2 = .ok (.isub, 1) := by decide +kernel
theorem d10_3 : decode jdk_2529_method_3_code 3 = .ok (.istore 4, 2) := by decide +kernel
theorem d10_5 : decode jdk_2529_method_3_code 5 = .ok (.iload_n 1, 1) := by decide +kernel
theorem d10_6 : decode jdk_2529_method_3_code 6 = .ok (.iconst 1, 1) := by decide +kernel
theorem d10_7 : decode jdk_2529_method_3_code 7 = .ok (.if_icmp .le 61, 3) := by decide +kernel
theorem d10_68 : decode jdk_2529_method_3_code 68 = .ok (.aconst_null, 1) := by decide +kernel
theorem d10_69 : decode jdk_2529_method_3_code 69 = .ok (.aload_n 0, 1) := by decide +kernel
theorem d10_70 : decode jdk_2529_method_3_code 70 = .ok (.iconst 0, 1) := by decide +kernel
theorem d10_71 : decode jdk_2529_method_3_code 71 = .ok (.iload_n 2, 1) := by decide +kernel
theorem d10_72 : decode jdk_2529_method_3_code 72 = .ok (.iload_n 3, 1) := by decide +kernel
theorem d10_73 : decode jdk_2529_method_3_code 73 = .ok (.invokestatic 26, 3) := by decide +kernel
theorem d10_76 : decode jdk_2529_method_3_code 76 = .ok (.return_, 1) := by decide +kernel
theorem d11_0 : decode jdk_2529_method_4_code 0 = .ok (.iload 4, 2) := by decide +kernel
theorem d11_2 : decode jdk_2529_method_4_code 2 = .ok (.iconst 1, 1) := by decide +kernel
theorem d11_3 : decode jdk_2529_method_4_code 3 = .ok (.isub, 1) := by decide +kernel
theorem d11_4 : decode jdk_2529_method_4_code 4 = .ok (.istore 5, 2) := by decide +kernel
theorem d11_6 : decode jdk_2529_method_4_code 6 = .ok (.iload 4, 2) := by decide +kernel
theorem d11_8 : decode jdk_2529_method_4_code 8 = .ok (.iload_n 3, 1) := by decide +kernel
theorem d11_9 : decode jdk_2529_method_4_code 9 = .ok (.isub, 1) := by decide +kernel
theorem d11_10 : decode jdk_2529_method_4_code 10 = .ok (.istore 6, 2) := by decide +kernel
theorem d11_12 : decode jdk_2529_method_4_code 12 = .ok (.iload 6, 2) := by decide +kernel
theorem d11_14 : decode jdk_2529_method_4_code 14 = .ok (.bipush 65, 2) := by decide +kernel
theorem d11_16 : decode jdk_2529_method_4_code 16 = .ok (.iload_n 2, 1) := by decide +kernel
theorem d11_17 : decode jdk_2529_method_4_code 17 = .ok (.iadd, 1) := by decide +kernel
theorem d11_18 : decode jdk_2529_method_4_code 18 = .ok (.if_icmp .ge 28, 3) := by decide +kernel
theorem d11_21 : decode jdk_2529_method_4_code 21 = .ok (.iload_n 2, 1) := by decide +kernel
theorem d11_22 : decode jdk_2529_method_4_code 22 = .ok (.iconst 1, 1) := by decide +kernel
theorem d11_23 : decode jdk_2529_method_4_code 23 = .ok (.iand, 1) := by decide +kernel
theorem d11_24 : decode jdk_2529_method_4_code 24 = .ok (.ifCond .le 22, 3) := by decide +kernel
theorem d11_46 : decode jdk_2529_method_4_code 46 = .ok (.iload 6, 2) := by decide +kernel
theorem d11_48 : decode jdk_2529_method_4_code 48 = .ok (.bipush 44, 2) := by decide +kernel
theorem d11_50 : decode jdk_2529_method_4_code 50 = .ok (.if_icmp .ge 11, 3) := by decide +kernel
theorem d11_53 : decode jdk_2529_method_4_code 53 = .ok (.aload_n 1, 1) := by decide +kernel
theorem d11_54 : decode jdk_2529_method_4_code 54 = .ok (.iload_n 3, 1) := by decide +kernel
theorem d11_55 : decode jdk_2529_method_4_code 55 = .ok (.iload 4, 2) := by decide +kernel
theorem d11_57 : decode jdk_2529_method_4_code 57 = .ok (.invokestatic 34, 3) := by decide +kernel
theorem d11_60 : decode jdk_2529_method_4_code 60 = .ok (.return_, 1) := by decide +kernel
theorem d12_0 : decode jdk_2529_method_6_code 0 = .ok (.iload_n 1, 1) := by decide +kernel
theorem d12_1 : decode jdk_2529_method_6_code 1 = .ok (.istore 4, 2) := by decide +kernel
theorem d12_3 : decode jdk_2529_method_6_code 3 = .ok (.iinc 4 1, 3) := by decide +kernel
theorem d12_6 : decode jdk_2529_method_6_code 6 = .ok (.iload 4, 2) := by decide +kernel
theorem d12_8 : decode jdk_2529_method_6_code 8 = .ok (.iload_n 2, 1) := by decide +kernel
theorem d12_9 : decode jdk_2529_method_6_code 9 = .ok (.if_icmp .ge 58, 3) := by decide +kernel
theorem d12_67 : decode jdk_2529_method_6_code 67 = .ok (.return_, 1) := by decide +kernel
theorem d13_0 : decode method_3_code 0 = .ok (.iload_n 1, 1) := by decide +kernel
theorem d13_1 : decode method_3_code 1 = .ok (.iload_n 2, 1) := by decide +kernel
theorem d13_2 : decode method_3_code 2 = .ok (.if_icmp .lt 5, 3) := by decide +kernel
theorem d13_5 : decode method_3_code 5 = .ok (.iconst 1, 1) := by decide +kernel
theorem d13_6 : decode method_3_code 6 = .ok (.ireturn, 1) := by decide +kernel
theorem d13_7 : decode method_3_code 7 = .ok (.iload_n 1, 1) := by decide +kernel
theorem d13_8 : decode method_3_code 8 = .ok (.iload_n 3, 1) := by decide +kernel
theorem d13_9 : decode method_3_code 9 = .ok (.if_icmp .ne 8, 3) := by decide +kernel
theorem d13_12 : decode method_3_code 12 = .ok (.dload 4, 2) := by decide +kernel
theorem d13_14 : decode method_3_code 14 = .ok (.goto 4, 3) := by decide +kernel
theorem d13_17 : decode method_3_code 17 = .ok (.dconst 0, 1) := by decide +kernel
theorem d13_18 : decode method_3_code 18 = .ok (.dstore 6, 2) := by decide +kernel
theorem d13_20 : decode method_3_code 20 = .ok (.aload_n 0, 1) := by decide +kernel
theorem d13_21 : decode method_3_code 21 = .ok (.iload_n 1, 1) := by decide +kernel
theorem d13_22 : decode method_3_code 22 = .ok (.invokevirtual 29, 3) := by decide +kernel
theorem d13_25 : decode method_3_code 25 = .ok (.dload 6, 2) := by decide +kernel
theorem d13_27 : decode method_3_code 27 = .ok (.dcmp .l, 1) := by decide +kernel
theorem d13_28 : decode method_3_code 28 = .ok (.ifCond .ne 7, 3) := by decide +kernel
theorem d13_31 : decode method_3_code 31 = .ok (.iconst 1, 1) := by decide +kernel
theorem d13_32 : decode method_3_code 32 = .ok (.goto 4, 3) := by decide +kernel
theorem d13_36 : decode method_3_code 36 = .ok (.ireturn, 1) := by decide +kernel
theorem d14_0 : decode prog_78_method_5_code 0 = .ok (.aload_n 0, 1) := by decide +kernel
theorem d14_1 : decode prog_78_method_5_code 1 = .ok (.getfield 7, 3) := by decide +kernel
theorem d14_4 : decode prog_78_method_5_code 4 = .ok (.iload_n 1, 1) := by decide +kernel
theorem d14_5 : decode prog_78_method_5_code 5 = .ok (.daload, 1) := by decide +kernel
theorem d14_6 : decode prog_78_method_5_code 6 = .ok (.dreturn, 1) := by decide +kernel
theorem pd_0 : parseMethodDescriptor "([III)V" = some ⟨[(.array .int), .int, .int], none⟩ := by decide +kernel
theorem pd_1 : parseMethodDescriptor "(Ljava/util/DualPivotQuicksort$Sorter;[IIII)V" = some ⟨[(.object "java/util/DualPivotQuicksort$Sorter"), (.array .int), .int, .int, .int], none⟩ := by decide +kernel
theorem pd_2 : parseMethodDescriptor "([IIII)V" = some ⟨[(.array .int), .int, .int, .int], none⟩ := by decide +kernel
theorem pd_3 : parseMethodDescriptor "(II)I" = some ⟨[.int, .int], some .int⟩ := by decide +kernel
theorem pd_4 : parseMethodDescriptor "([II)[I" = some ⟨[(.array .int), .int], some (.array .int)⟩ := by decide +kernel
theorem pd_5 : parseMethodDescriptor "([I)V" = some ⟨[(.array .int)], none⟩ := by decide +kernel
theorem pd_6 : parseMethodDescriptor "(I)D" = some ⟨[.int], some .double⟩ := by decide +kernel
theorem pd_7 : parseMethodDescriptor "(DD)D" = some ⟨[.double, .double], some .double⟩ := by decide +kernel
theorem pd_8 : parseMethodDescriptor "(I)V" = some ⟨[.int], none⟩ := by decide +kernel
theorem pd_9 : parseMethodDescriptor "()[I" = some ⟨[], some (.array .int)⟩ := by decide +kernel
theorem pd_10 : parseMethodDescriptor "(ID)V" = some ⟨[.int, .double], none⟩ := by decide +kernel
theorem pd_11 : parseMethodDescriptor "(Lorg/termsieve/mapping/Shares;IIID)Z" = some ⟨[(.object "org/termsieve/mapping/Shares"), .int, .int, .int, .double], some .boolean⟩ := by decide +kernel
theorem pd_12 : parseMethodDescriptor "()V" = some ⟨[], none⟩ := by decide +kernel
section OwnLaw
open Jvm.OwnFl Jvm.Native.java_lang_Math.nans
def upd {α : Type} (p : Int32 → α) (j : Int32) (v : α) : Int32 → α := fun i => if i = j then v else p i
theorem upd_ne {α : Type} {p : Int32 → α} {i j : Int32} {v : α} (h : ¬ i = j) : upd p j v i = p i := if_neg h
theorem upd_same {α : Type} {p : Int32 → α} {j : Int32} {v : α} : upd p j v j = v := if_pos rfl
def fn1 (p : Int32 → Int32) : List Value := [.int (p 0)]
def fd1 (p : Int32 → UInt64) : List Value := [.double (p 0)]
abbrev In1 (j : Int32) : Prop := j = 0
theorem in1_0 : In1 0 := by rfl
theorem in1_nn {j : Int32} (h : In1 j) : ¬ j < 0 := by rcases h with rfl <;> decide
theorem in1_at {p : Int32 → Int32} {j : Int32} {v : Int32} (h : In1 j) (q : p j = v) : (fn1 p)[j.toNatClampNeg]? = some (.int v) := by subst q; rcases h with rfl <;> rfl
theorem in1_len {p : Int32 → Int32} {j : Int32} (h : In1 j) : j.toNatClampNeg < (fn1 p).length := by rcases h with rfl <;> (show _ < 1) <;> decide
theorem in1_set {p : Int32 → Int32} {j : Int32} {v : Int32} (h : In1 j) : (fn1 p).set j.toNatClampNeg (.int v) = fn1 (upd p j v) := by rcases h with rfl <;> rfl
theorem in1_atd {p : Int32 → UInt64} {j : Int32} {v : UInt64} (h : In1 j) (q : p j = v) : (fd1 p)[j.toNatClampNeg]? = some (.double v) := by subst q; rcases h with rfl <;> rfl
theorem in1_lend {p : Int32 → UInt64} {j : Int32} (h : In1 j) : j.toNatClampNeg < (fd1 p).length := by rcases h with rfl <;> (show _ < 1) <;> decide
theorem in1_setd {p : Int32 → UInt64} {j : Int32} {v : UInt64} (h : In1 j) : (fd1 p).set j.toNatClampNeg (.double v) = fd1 (upd p j v) := by rcases h with rfl <;> rfl
theorem in1_of {x : Int32} (h0 : 0 ≤ x.toInt) : In1 (x % 1) := by
  have e : (x % 1).toInt = x.toInt.tmod 1 := by rw [Int32.toInt_mod]; rfl
  have a := Int.tmod_lt_of_pos x.toInt (show (0 : Int) < 1 by decide)
  have b := Int.tmod_nonneg (1 : Int) h0
  unfold In1
  simp only [← Int32.toInt_inj, e, show (0 : Int32).toInt = 0 by decide]
  omega
def fn2 (p : Int32 → Int32) : List Value := [.int (p 0), .int (p 1)]
def fd2 (p : Int32 → UInt64) : List Value := [.double (p 0), .double (p 1)]
abbrev In2 (j : Int32) : Prop := j = 0 ∨ j = 1
theorem in2_0 : In2 0 := by unfold In2; decide
theorem in2_1 : In2 1 := by unfold In2; decide
theorem in2_nn {j : Int32} (h : In2 j) : ¬ j < 0 := by rcases h with rfl | rfl <;> decide
theorem in2_at {p : Int32 → Int32} {j : Int32} {v : Int32} (h : In2 j) (q : p j = v) : (fn2 p)[j.toNatClampNeg]? = some (.int v) := by subst q; rcases h with rfl | rfl <;> rfl
theorem in2_len {p : Int32 → Int32} {j : Int32} (h : In2 j) : j.toNatClampNeg < (fn2 p).length := by rcases h with rfl | rfl <;> (show _ < 2) <;> decide
theorem in2_set {p : Int32 → Int32} {j : Int32} {v : Int32} (h : In2 j) : (fn2 p).set j.toNatClampNeg (.int v) = fn2 (upd p j v) := by rcases h with rfl | rfl <;> rfl
theorem in2_atd {p : Int32 → UInt64} {j : Int32} {v : UInt64} (h : In2 j) (q : p j = v) : (fd2 p)[j.toNatClampNeg]? = some (.double v) := by subst q; rcases h with rfl | rfl <;> rfl
theorem in2_lend {p : Int32 → UInt64} {j : Int32} (h : In2 j) : j.toNatClampNeg < (fd2 p).length := by rcases h with rfl | rfl <;> (show _ < 2) <;> decide
theorem in2_setd {p : Int32 → UInt64} {j : Int32} {v : UInt64} (h : In2 j) : (fd2 p).set j.toNatClampNeg (.double v) = fd2 (upd p j v) := by rcases h with rfl | rfl <;> rfl
theorem in2_of {x : Int32} (h0 : 0 ≤ x.toInt) : In2 (x % 2) := by
  have e : (x % 2).toInt = x.toInt.tmod 2 := by rw [Int32.toInt_mod]; rfl
  have a := Int.tmod_lt_of_pos x.toInt (show (0 : Int) < 2 by decide)
  have b := Int.tmod_nonneg (2 : Int) h0
  unfold In2
  simp only [← Int32.toInt_inj, e, show (0 : Int32).toInt = 0 by decide, show (1 : Int32).toInt = 1 by decide]
  omega
def fn3 (p : Int32 → Int32) : List Value := [.int (p 0), .int (p 1), .int (p 2)]
def fd3 (p : Int32 → UInt64) : List Value := [.double (p 0), .double (p 1), .double (p 2)]
abbrev In3 (j : Int32) : Prop := j = 0 ∨ j = 1 ∨ j = 2
theorem in3_0 : In3 0 := by unfold In3; decide
theorem in3_1 : In3 1 := by unfold In3; decide
theorem in3_2 : In3 2 := by unfold In3; decide
theorem in3_nn {j : Int32} (h : In3 j) : ¬ j < 0 := by rcases h with rfl | rfl | rfl <;> decide
theorem in3_at {p : Int32 → Int32} {j : Int32} {v : Int32} (h : In3 j) (q : p j = v) : (fn3 p)[j.toNatClampNeg]? = some (.int v) := by subst q; rcases h with rfl | rfl | rfl <;> rfl
theorem in3_len {p : Int32 → Int32} {j : Int32} (h : In3 j) : j.toNatClampNeg < (fn3 p).length := by rcases h with rfl | rfl | rfl <;> (show _ < 3) <;> decide
theorem in3_set {p : Int32 → Int32} {j : Int32} {v : Int32} (h : In3 j) : (fn3 p).set j.toNatClampNeg (.int v) = fn3 (upd p j v) := by rcases h with rfl | rfl | rfl <;> rfl
theorem in3_atd {p : Int32 → UInt64} {j : Int32} {v : UInt64} (h : In3 j) (q : p j = v) : (fd3 p)[j.toNatClampNeg]? = some (.double v) := by subst q; rcases h with rfl | rfl | rfl <;> rfl
theorem in3_lend {p : Int32 → UInt64} {j : Int32} (h : In3 j) : j.toNatClampNeg < (fd3 p).length := by rcases h with rfl | rfl | rfl <;> (show _ < 3) <;> decide
theorem in3_setd {p : Int32 → UInt64} {j : Int32} {v : UInt64} (h : In3 j) : (fd3 p).set j.toNatClampNeg (.double v) = fd3 (upd p j v) := by rcases h with rfl | rfl | rfl <;> rfl
theorem in3_of {x : Int32} (h0 : 0 ≤ x.toInt) : In3 (x % 3) := by
  have e : (x % 3).toInt = x.toInt.tmod 3 := by rw [Int32.toInt_mod]; rfl
  have a := Int.tmod_lt_of_pos x.toInt (show (0 : Int) < 3 by decide)
  have b := Int.tmod_nonneg (3 : Int) h0
  unfold In3
  simp only [← Int32.toInt_inj, e, show (0 : Int32).toInt = 0 by decide, show (1 : Int32).toInt = 1 by decide, show (2 : Int32).toInt = 2 by decide]
  omega
def fn4 (p : Int32 → Int32) : List Value := [.int (p 0), .int (p 1), .int (p 2), .int (p 3)]
def fd4 (p : Int32 → UInt64) : List Value := [.double (p 0), .double (p 1), .double (p 2), .double (p 3)]
abbrev In4 (j : Int32) : Prop := j = 0 ∨ j = 1 ∨ j = 2 ∨ j = 3
theorem in4_0 : In4 0 := by unfold In4; decide
theorem in4_1 : In4 1 := by unfold In4; decide
theorem in4_2 : In4 2 := by unfold In4; decide
theorem in4_3 : In4 3 := by unfold In4; decide
theorem in4_nn {j : Int32} (h : In4 j) : ¬ j < 0 := by rcases h with rfl | rfl | rfl | rfl <;> decide
theorem in4_at {p : Int32 → Int32} {j : Int32} {v : Int32} (h : In4 j) (q : p j = v) : (fn4 p)[j.toNatClampNeg]? = some (.int v) := by subst q; rcases h with rfl | rfl | rfl | rfl <;> rfl
theorem in4_len {p : Int32 → Int32} {j : Int32} (h : In4 j) : j.toNatClampNeg < (fn4 p).length := by rcases h with rfl | rfl | rfl | rfl <;> (show _ < 4) <;> decide
theorem in4_set {p : Int32 → Int32} {j : Int32} {v : Int32} (h : In4 j) : (fn4 p).set j.toNatClampNeg (.int v) = fn4 (upd p j v) := by rcases h with rfl | rfl | rfl | rfl <;> rfl
theorem in4_atd {p : Int32 → UInt64} {j : Int32} {v : UInt64} (h : In4 j) (q : p j = v) : (fd4 p)[j.toNatClampNeg]? = some (.double v) := by subst q; rcases h with rfl | rfl | rfl | rfl <;> rfl
theorem in4_lend {p : Int32 → UInt64} {j : Int32} (h : In4 j) : j.toNatClampNeg < (fd4 p).length := by rcases h with rfl | rfl | rfl | rfl <;> (show _ < 4) <;> decide
theorem in4_setd {p : Int32 → UInt64} {j : Int32} {v : UInt64} (h : In4 j) : (fd4 p).set j.toNatClampNeg (.double v) = fd4 (upd p j v) := by rcases h with rfl | rfl | rfl | rfl <;> rfl
theorem in4_of {x : Int32} (h0 : 0 ≤ x.toInt) : In4 (x % 4) := by
  have e : (x % 4).toInt = x.toInt.tmod 4 := by rw [Int32.toInt_mod]; rfl
  have a := Int.tmod_lt_of_pos x.toInt (show (0 : Int) < 4 by decide)
  have b := Int.tmod_nonneg (4 : Int) h0
  unfold In4
  simp only [← Int32.toInt_inj, e, show (0 : Int32).toInt = 0 by decide, show (1 : Int32).toInt = 1 by decide, show (2 : Int32).toInt = 2 by decide, show (3 : Int32).toInt = 3 by decide]
  omega
abbrev NS1 (Z : State) (h : Heap) (a sa ha : Addr) (sz : Int32) (sh : Int32 → UInt64) (hd : Int32 → Int32) : Prop := Exa Z h a "org/termsieve/mapping/Shares" ∧ Exa Z h ha "[I" ∧ Fld Z h a "org/termsieve/mapping/Shares" "shares" "[D" (.ref sa) ∧ Fld Z h a "org/termsieve/mapping/Shares" "held" "[I" (.ref ha) ∧ Fld Z h a "org/termsieve/mapping/Shares" "size" "I" (.int sz) ∧ AV Z h sa .double (1 : Int32) (fd1 sh) ∧ AV Z h ha .int (1 : Int32) (fn1 hd)
abbrev NS2 (Z : State) (h : Heap) (a sa ha : Addr) (sz : Int32) (sh : Int32 → UInt64) (hd : Int32 → Int32) : Prop := Exa Z h a "org/termsieve/mapping/Shares" ∧ Exa Z h ha "[I" ∧ Fld Z h a "org/termsieve/mapping/Shares" "shares" "[D" (.ref sa) ∧ Fld Z h a "org/termsieve/mapping/Shares" "held" "[I" (.ref ha) ∧ Fld Z h a "org/termsieve/mapping/Shares" "size" "I" (.int sz) ∧ AV Z h sa .double (2 : Int32) (fd2 sh) ∧ AV Z h ha .int (2 : Int32) (fn2 hd)
abbrev NS3 (Z : State) (h : Heap) (a sa ha : Addr) (sz : Int32) (sh : Int32 → UInt64) (hd : Int32 → Int32) : Prop := Exa Z h a "org/termsieve/mapping/Shares" ∧ Exa Z h ha "[I" ∧ Fld Z h a "org/termsieve/mapping/Shares" "shares" "[D" (.ref sa) ∧ Fld Z h a "org/termsieve/mapping/Shares" "held" "[I" (.ref ha) ∧ Fld Z h a "org/termsieve/mapping/Shares" "size" "I" (.int sz) ∧ AV Z h sa .double (3 : Int32) (fd3 sh) ∧ AV Z h ha .int (3 : Int32) (fn3 hd)
abbrev NS4 (Z : State) (h : Heap) (a sa ha : Addr) (sz : Int32) (sh : Int32 → UInt64) (hd : Int32 → Int32) : Prop := Exa Z h a "org/termsieve/mapping/Shares" ∧ Exa Z h ha "[I" ∧ Fld Z h a "org/termsieve/mapping/Shares" "shares" "[D" (.ref sa) ∧ Fld Z h a "org/termsieve/mapping/Shares" "held" "[I" (.ref ha) ∧ Fld Z h a "org/termsieve/mapping/Shares" "size" "I" (.int sz) ∧ AV Z h sa .double (4 : Int32) (fd4 sh) ∧ AV Z h ha .int (4 : Int32) (fn4 hd)
abbrev Dis (n0 : Nat) (a sa ha : Addr) : Prop := n0 ≤ a ∧ n0 ≤ sa ∧ n0 ≤ ha ∧ a ≠ sa ∧ a ≠ ha ∧ sa ≠ ha
theorem own_z : DV 0 0 := lit_DV (s := false) (c := 0) (q := -1074) (by decide +kernel) (by decide +kernel)
theorem own_zz : FP.dcmp 0 0 = some .eq := dcmp_eq own_z own_z rfl
theorem own_max {a b : UInt64} {x y : Rat} (ha : DV a x) (hb : DV b y) (h : y ≤ x) : DV (pick64 true a b) x := by
  unfold pick64
  rcases dcmp_ge ha hb h with q | q
  · rw [q]; exact ha
  · have e : x = y := by
      have z := dcmp_of ha hb
      rw [show Jvm.FP.Core.dcmp a b = _ from q] at z
      by_cases c : x = y
      · exact c
      · rw [if_neg (by rw [Rat.not_lt]; exact h), if_neg c] at z; cases z
    rw [q]
    simp only
    split
    · rw [e]; exact hb
    · exact ha
theorem own_max' {a b : UInt64} {x y : Rat} (ha : DV a x) (hb : DV b y) (h : x ≤ y) : DV (pick64 true a b) y := by
  unfold pick64
  rcases dcmp_le ha hb h with q | q
  · rw [q]; exact hb
  · have e : x = y := by
      have z := dcmp_of ha hb
      rw [show Jvm.FP.Core.dcmp a b = _ from q] at z
      by_cases c : x = y
      · exact c
      · rw [if_neg c] at z; split at z <;> cases z
    rw [q]
    simp only
    split
    · exact hb
    · rw [← e]; exact ha
/-- weights in 128ths -/
theorem own_pk {x y : UInt64} {a b : Rat} (hx : DV x a) (hy : DV y b) (h0 : 0 ≤ a) (h1 : 0 < b) : ∃ c, DV (pick64 true x y) c ∧ 0 < c := by
  by_cases q : b ≤ a
  · exact ⟨a, own_max hx hy q, by grind⟩
  · exact ⟨b, own_max' hx hy (by grind), h1⟩
theorem own_cnt4 {x : Int32} (h0 : 0 ≤ x.toInt) (h2 : x.toInt ≤ 3) : x = 0 ∨ x = 1 ∨ x = 2 ∨ x = 3 := by
  simp only [← Int32.toInt_inj, show (0 : Int32).toInt = 0 by decide, show (1 : Int32).toInt = 1 by decide, show (2 : Int32).toInt = 2 by decide, show (3 : Int32).toInt = 3 by decide]
  omega
theorem own_val (x v w : Int32) (hv : x &&& 7 = v) (hw : 1 + v = w) : DV (FP.i2d w) (w.toInt : Rat) ∧ (0 : Rat) < (w.toInt : Rat) := by
  have h := c_and x 7 (by decide)
  rw [hv, show (7 : Int32).toInt = 7 by decide] at h
  have a := c_iadd 1 v
  have b := rng32 w
  rw [hw, show (1 : Int32).toInt = 1 by decide] at a
  exact ⟨i2d_DV w, Rat.intCast_pos.mpr (by omega)⟩
end OwnLaw
def Q_rmMI (Z : State) (x y r : Int32) (h0 : Heap) (n0 : Nat) (v : Option Value) (h : Heap) (L : List Loc) : Prop := v = some (.int r) ∧ Fr n0 L ∧ h = h0
set_option maxRecDepth 65536 in
set_option maxHeartbeats 40000000 in
theorem rmMI (l : Launch) (Z : State) (a0 : Array Value) (hw : ∀ d ∈ tables_1, d.before a0 Z = true) (ws : List Jvm.Cond) (x y r : Int32) (h0 : Heap) (n0 : Nat) (Zs : n0 ≤ h0.size) (hm : (¬ y < x ∧ r = x) ∨ (y < x ∧ r = y)) :
    Con l (⟨"java/lang/Math", "min", "(II)I"⟩ : MethodName) jdk_29_method_69_code 2 (some .int) ws ({ frames := 0, cells := 0, slots := 0, locals := 0 } : Room) Z #[(.int x), (.int y)] h0 ({ frames := 0, cells := 0, slots := 0, locals := 0 } : Room).cells ({ frames := 0, cells := 0, slots := 0, locals := 0 } : Room).slots (Q_rmMI Z x y r h0 n0) := by
  refine Con.of (Ls := #[.val (.int x), .val (.int y)]) (Jvm.Free.JP.mathPlain rfl (by decide +kernel)) (fun m => by first | (simp [entryFrame, mkF, argsToLocals, Value.category]; done) | rfl) ?_
  intro p e s m below meth c s₁ G hGe hG hx hby hml hown hnm hrt hlk hZ X0 e0
  have hown : s.vm.findClass "java/lang/Math" = some m.cls := hown
  have hnm : meth.name = "min" := hnm
  have NF0 := Fr.nil n0
  rcases hm with ⟨c1, hr⟩ | ⟨c1, hr⟩
  · skip
    refine g_iloadN hG X0 hx (hb hby d8_0) (pc' := 1) rfl rfl ?_
    show G (s₁.setTop (mkF m 1 #[.val (.int x), .val (.int y)] [(.int x)]))
    refine g_iloadN hG X0 hx (hb hby d8_1) (pc' := 2) rfl rfl ?_
    show G (s₁.setTop (mkF m 2 #[.val (.int x), .val (.int y)] [(.int y), (.int x)]))
    refine g_icmpNo hG X0 hx (hb hby d8_2) (pc' := 5) ((flt c1).2.2.1) rfl ?_
    show G (s₁.setTop (mkF m 5 #[.val (.int x), .val (.int y)] []))
    refine g_iloadN hG X0 hx (hb hby d8_5) (pc' := 6) rfl rfl ?_
    show G (s₁.setTop (mkF m 6 #[.val (.int x), .val (.int y)] [(.int x)]))
    refine g_goto hG X0 hx (hb hby d8_6) (pc' := 10) (by decide) (by decide) ?_
    show G (s₁.setTop (mkF m 10 #[.val (.int x), .val (.int y)] [(.int x)]))
    exact e_retI hGe X0 hx hrt hlk (hb hby d8_10) e0 (by decide) (by decide) (⟨by rw [hr], NF0, rfl⟩)
  · skip
    refine g_iloadN hG X0 hx (hb hby d8_0) (pc' := 1) rfl rfl ?_
    show G (s₁.setTop (mkF m 1 #[.val (.int x), .val (.int y)] [(.int x)]))
    refine g_iloadN hG X0 hx (hb hby d8_1) (pc' := 2) rfl rfl ?_
    show G (s₁.setTop (mkF m 2 #[.val (.int x), .val (.int y)] [(.int y), (.int x)]))
    refine g_icmpYes hG X0 hx (hb hby d8_2) (pc' := 9) ((tlt c1).2.2.1) (by decide) (by decide) ?_
    show G (s₁.setTop (mkF m 9 #[.val (.int x), .val (.int y)] []))
    refine g_iloadN hG X0 hx (hb hby d8_9) (pc' := 10) rfl rfl ?_
    show G (s₁.setTop (mkF m 10 #[.val (.int x), .val (.int y)] [(.int y)]))
    exact e_retI hGe X0 hx hrt hlk (hb hby d8_10) e0 (by decide) (by decide) (⟨by rw [hr], NF0, rfl⟩)

def Q_rmIn0 (Z : State) (a : Addr) (h0 : Heap) (n0 : Nat) (v : Option Value) (h : Heap) (L : List Loc) : Prop := v = none ∧ Fr n0 L ∧ h = h0
set_option maxRecDepth 65536 in
set_option maxHeartbeats 40000000 in
theorem rmIn0 (l : Launch) (Z : State) (a0 : Array Value) (hw : ∀ d ∈ tables_1, d.before a0 Z = true) (ws : List Jvm.Cond) (a : Addr) (h0 : Heap) (n0 : Nat) (Zs : n0 ≤ h0.size)  :
    Con l (⟨"java/util/DualPivotQuicksort", "insertionSort", "([III)V"⟩ : MethodName) jdk_2529_method_6_code 6 none ws ({ frames := 0, cells := 0, slots := 0, locals := 0 } : Room) Z #[(.ref a), (.int 0), (.int 0)] h0 ({ frames := 0, cells := 0, slots := 0, locals := 0 } : Room).cells ({ frames := 0, cells := 0, slots := 0, locals := 0 } : Room).slots (Q_rmIn0 Z a h0 n0) := by
  refine Con.of (Ls := #[.val (.ref a), .val (.int 0), .val (.int 0), .unset, .unset, .unset]) (plainFor_of_name (by first | (simp [plainName, overriddenIn]; done) | decide +kernel)) (fun m => by first | (simp [entryFrame, mkF, argsToLocals, Value.category]; done) | rfl) ?_
  intro p e s m below meth c s₁ G hGe hG hx hby hml hown hnm hrt hlk hZ X0 e0
  have hown : s.vm.findClass "java/util/DualPivotQuicksort" = some m.cls := hown
  have hnm : meth.name = "insertionSort" := hnm
  have NF0 := Fr.nil n0
  refine g_iloadN hG X0 hx (hb hby d12_0) (pc' := 1) rfl rfl ?_
  refine g_istore hG X0 hx (hb hby d12_1) (pc' := 3) rfl (Ls' := #[.val (.ref a), .val (.int 0), .val (.int 0), .unset, .val (.int 0), .unset]) rfl ?_
  refine g_iinc hG X0 hx (hb hby d12_3) (pc' := 6) rfl rfl (v := (1 : Int32)) (by decide) (Ls' := #[.val (.ref a), .val (.int 0), .val (.int 0), .unset, .val (.int 1), .unset]) rfl ?_
  refine g_iload hG X0 hx (hb hby d12_6) (pc' := 8) rfl rfl ?_
  refine g_iloadN hG X0 hx (hb hby d12_8) (pc' := 9) rfl rfl ?_
  refine g_icmpYes hG X0 hx (hb hby d12_9) (pc' := 67) (by decide) (by decide) (by decide) ?_
  exact e_ret0 hGe X0 hx hrt hlk (hb hby d12_67) e0 (by decide) (by decide) (⟨rfl, NF0, rfl⟩)

def Q_rmS50 (Z : State) (a : Addr) (h0 : Heap) (n0 : Nat) (v : Option Value) (h : Heap) (L : List Loc) : Prop := v = none ∧ Fr n0 L ∧ h = h0
set_option maxRecDepth 65536 in
set_option maxHeartbeats 40000000 in
theorem rmS50 (l : Launch) (Z : State) (a0 : Array Value) (hw : ∀ d ∈ tables_1, d.before a0 Z = true) (ws : List Jvm.Cond) (a : Addr) (h0 : Heap) (n0 : Nat) (Zs : n0 ≤ h0.size)  :
    Con l (⟨"java/util/DualPivotQuicksort", "sort", "(Ljava/util/DualPivotQuicksort$Sorter;[IIII)V"⟩ : MethodName) jdk_2529_method_4_code 21 none ws ({ frames := 1, cells := 0, slots := 0, locals := 24 } : Room) Z #[.null, (.ref a), (.int 0), (.int 0), (.int 0)] h0 ({ frames := 1, cells := 0, slots := 0, locals := 24 } : Room).cells ({ frames := 1, cells := 0, slots := 0, locals := 24 } : Room).slots (Q_rmS50 Z a h0 n0) := by
  refine Con.of (Ls := #[.val .null, .val (.ref a), .val (.int 0), .val (.int 0), .val (.int 0), .unset, .unset, .unset, .unset, .unset, .unset, .unset, .unset, .unset, .unset, .unset, .unset, .unset, .unset, .unset, .unset]) (plainFor_of_name (by first | (simp [plainName, overriddenIn]; done) | decide +kernel)) (fun m => by first | (simp [entryFrame, mkF, argsToLocals, Value.category]; done) | rfl) ?_
  intro p e s m below meth c s₁ G hGe hG hx hby hml hown hnm hrt hlk hZ X0 e0
  have hown : s.vm.findClass "java/util/DualPivotQuicksort" = some m.cls := hown
  have hnm : meth.name = "sort" := hnm
  have NF0 := Fr.nil n0
  refine g_iload hG X0 hx (hb hby d11_0) (pc' := 2) rfl rfl ?_
  refine g_iconst hG X0 hx (hb hby d11_2) (pc' := 3) rfl (v := (1 : Int32)) rfl ?_
  refine g_isub hG X0 hx (hb hby d11_3) (pc' := 4) rfl (v := (-1 : Int32)) (by decide) ?_
  refine g_istore hG X0 hx (hb hby d11_4) (pc' := 6) rfl (Ls' := #[.val .null, .val (.ref a), .val (.int 0), .val (.int 0), .val (.int 0), .val (.int (-1)), .unset, .unset, .unset, .unset, .unset, .unset, .unset, .unset, .unset, .unset, .unset, .unset, .unset, .unset, .unset]) rfl ?_
  refine g_iload hG X0 hx (hb hby d11_6) (pc' := 8) rfl rfl ?_
  refine g_iloadN hG X0 hx (hb hby d11_8) (pc' := 9) rfl rfl ?_
  refine g_isub hG X0 hx (hb hby d11_9) (pc' := 10) rfl (v := (0 : Int32)) (by decide) ?_
  refine g_istore hG X0 hx (hb hby d11_10) (pc' := 12) rfl (Ls' := #[.val .null, .val (.ref a), .val (.int 0), .val (.int 0), .val (.int 0), .val (.int (-1)), .val (.int 0), .unset, .unset, .unset, .unset, .unset, .unset, .unset, .unset, .unset, .unset, .unset, .unset, .unset, .unset]) rfl ?_
  refine g_iload hG X0 hx (hb hby d11_12) (pc' := 14) rfl rfl ?_
  refine g_bipush hG X0 hx (hb hby d11_14) (pc' := 16) rfl (v := (65 : Int32)) rfl ?_
  refine g_iloadN hG X0 hx (hb hby d11_16) (pc' := 17) rfl rfl ?_
  refine g_iadd hG X0 hx (hb hby d11_17) (pc' := 18) rfl (v := (65 : Int32)) (by decide) ?_
  refine g_icmpNo hG X0 hx (hb hby d11_18) (pc' := 21) (by decide) rfl ?_
  refine g_iloadN hG X0 hx (hb hby d11_21) (pc' := 22) rfl rfl ?_
  refine g_iconst hG X0 hx (hb hby d11_22) (pc' := 23) rfl (v := (1 : Int32)) rfl ?_
  refine g_iand hG X0 hx (hb hby d11_23) (pc' := 24) rfl (v := (0 : Int32)) (by decide) ?_
  refine g_ifYes hG X0 hx (hb hby d11_24) (pc' := 46) (by decide) (by decide) (by decide) ?_
  refine g_iload hG X0 hx (hb hby d11_46) (pc' := 48) rfl rfl ?_
  refine g_bipush hG X0 hx (hb hby d11_48) (pc' := 50) rfl (v := (44 : Int32)) rfl ?_
  refine g_icmpNo hG X0 hx (hb hby d11_50) (pc' := 53) (by decide) rfl ?_
  refine g_aloadN hG X0 hx (hb hby d11_53) (pc' := 54) rfl rfl rfl ?_
  refine g_iloadN hG X0 hx (hb hby d11_54) (pc' := 55) rfl rfl ?_
  refine g_iload hG X0 hx (hb hby d11_55) (pc' := 57) rfl rfl ?_
  refine g_callS hG X0 hx hZ (y := (⟨"java/util/DualPivotQuicksort", "insertionSort", "([III)V"⟩ : MethodName)) 0 hown (wd hw 57 rfl) (wd hw 58 rfl) (wd hw 52 rfl) (wd hw 59 rfl) (by decide) (rmIn0 l Z a0 hw [] a h0 n0 Zs) (by decide) (by decide) (by rw [hml]; rfl) pd_0 rfl (argsL := [(.ref a), (.int 0), (.int 0)]) (rest := []) rfl rfl (Nat.le_of_eq rfl) (hb hby d11_57) e0 (by decide) (by decide) (pc' := 60) rfl ?_
  intro T1 rv1 L1 X1 hQ1
  obtain ⟨rfl, Nq1, eh1⟩ := hQ1
  have NF1 := Fr.app NF0 Nq1
  show G (T1.setTop (mkF m 60 _ []))
  exact e_ret0 hGe X1 hx hrt hlk (hb hby d11_60) eh1 (by decide) (by decide) (⟨rfl, NF1, rfl⟩)

def Q_rmS40 (Z : State) (a : Addr) (h0 : Heap) (n0 : Nat) (v : Option Value) (h : Heap) (L : List Loc) : Prop := v = none ∧ Fr n0 L ∧ h = h0
set_option maxRecDepth 65536 in
set_option maxHeartbeats 40000000 in
theorem rmS40 (l : Launch) (Z : State) (a0 : Array Value) (hw : ∀ d ∈ tables_1, d.before a0 Z = true) (ws : List Jvm.Cond) (a : Addr) (h0 : Heap) (n0 : Nat) (Zs : n0 ≤ h0.size)  :
    Con l (⟨"java/util/DualPivotQuicksort", "sort", "([IIII)V"⟩ : MethodName) jdk_2529_method_3_code 7 none ws ({ frames := 2, cells := 0, slots := 0, locals := 64 } : Room) Z #[(.ref a), (.int 0), (.int 0), (.int 0)] h0 ({ frames := 2, cells := 0, slots := 0, locals := 64 } : Room).cells ({ frames := 2, cells := 0, slots := 0, locals := 64 } : Room).slots (Q_rmS40 Z a h0 n0) := by
  refine Con.of (Ls := #[.val (.ref a), .val (.int 0), .val (.int 0), .val (.int 0), .unset, .unset, .unset]) (plainFor_of_name (by first | (simp [plainName, overriddenIn]; done) | decide +kernel)) (fun m => by first | (simp [entryFrame, mkF, argsToLocals, Value.category]; done) | rfl) ?_
  intro p e s m below meth c s₁ G hGe hG hx hby hml hown hnm hrt hlk hZ X0 e0
  have hown : s.vm.findClass "java/util/DualPivotQuicksort" = some m.cls := hown
  have hnm : meth.name = "sort" := hnm
  have NF0 := Fr.nil n0
  refine g_iloadN hG X0 hx (hb hby d10_0) (pc' := 1) rfl rfl ?_
  refine g_iloadN hG X0 hx (hb hby d10_1) (pc' := 2) rfl rfl ?_
  refine g_isub hG X0 hx (hb hby d10_2) (pc' := 3) rfl (v := (0 : Int32)) (by decide) ?_
  refine g_istore hG X0 hx (hb hby d10_3) (pc' := 5) rfl (Ls' := #[.val (.ref a), .val (.int 0), .val (.int 0), .val (.int 0), .val (.int 0), .unset, .unset]) rfl ?_
  refine g_iloadN hG X0 hx (hb hby d10_5) (pc' := 6) rfl rfl ?_
  refine g_iconst hG X0 hx (hb hby d10_6) (pc' := 7) rfl (v := (1 : Int32)) rfl ?_
  refine g_icmpYes hG X0 hx (hb hby d10_7) (pc' := 68) (by decide) (by decide) (by decide) ?_
  refine g_aconstNull hG X0 hx (hb hby d10_68) (pc' := 69) rfl ?_
  refine g_aloadN hG X0 hx (hb hby d10_69) (pc' := 70) rfl rfl rfl ?_
  refine g_iconst hG X0 hx (hb hby d10_70) (pc' := 71) rfl (v := (0 : Int32)) rfl ?_
  refine g_iloadN hG X0 hx (hb hby d10_71) (pc' := 72) rfl rfl ?_
  refine g_iloadN hG X0 hx (hb hby d10_72) (pc' := 73) rfl rfl ?_
  refine g_callS hG X0 hx hZ (y := (⟨"java/util/DualPivotQuicksort", "sort", "(Ljava/util/DualPivotQuicksort$Sorter;[IIII)V"⟩ : MethodName)) 0 hown (wd hw 54 rfl) (wd hw 55 rfl) (wd hw 52 rfl) (wd hw 56 rfl) (by decide) (rmS50 l Z a0 hw [] a h0 n0 Zs) (by decide) (by decide) (by rw [hml]; rfl) pd_1 rfl (argsL := [.null, (.ref a), (.int 0), (.int 0), (.int 0)]) (rest := []) rfl rfl (Nat.le_of_eq rfl) (hb hby d10_73) e0 (by decide) (by decide) (pc' := 76) rfl ?_
  intro T1 rv1 L1 X1 hQ1
  obtain ⟨rfl, Nq1, eh1⟩ := hQ1
  have NF1 := Fr.app NF0 Nq1
  show G (T1.setTop (mkF m 76 _ []))
  exact e_ret0 hGe X1 hx hrt hlk (hb hby d10_76) eh1 (by decide) (by decide) (⟨rfl, NF1, rfl⟩)

def Q_rmSo0 (Z : State) (a : Addr) (h0 : Heap) (n0 : Nat) (v : Option Value) (h : Heap) (L : List Loc) : Prop := v = none ∧ Fr n0 L ∧ h = h0
set_option maxRecDepth 65536 in
set_option maxHeartbeats 40000000 in
theorem rmSo0 (l : Launch) (Z : State) (a0 : Array Value) (hw : ∀ d ∈ tables_1, d.before a0 Z = true) (ws : List Jvm.Cond) (a : Addr) (h0 : Heap) (n0 : Nat) (Zs : n0 ≤ h0.size) (V_a : AV Z h0 a .int (0 : Int32) []) :
    Con l (⟨"java/util/Arrays", "sort", "([I)V"⟩ : MethodName) jdk_65_method_2_code 1 none ws ({ frames := 3, cells := 0, slots := 0, locals := 88 } : Room) Z #[(.ref a)] h0 ({ frames := 3, cells := 0, slots := 0, locals := 88 } : Room).cells ({ frames := 3, cells := 0, slots := 0, locals := 88 } : Room).slots (Q_rmSo0 Z a  h0 n0) := by
  refine Con.of (Ls := #[.val (.ref a)]) (plainFor_of_name (by first | (simp [plainName, overriddenIn]; done) | decide +kernel)) (fun m => by first | (simp [entryFrame, mkF, argsToLocals, Value.category]; done) | rfl) ?_
  intro p e s m below meth c s₁ G hGe hG hx hby hml hown hnm hrt hlk hZ X0 e0
  have hown : s.vm.findClass "java/util/Arrays" = some m.cls := hown
  have hnm : meth.name = "sort" := hnm
  have NF0 := Fr.nil n0
  refine g_aloadN hG X0 hx (hb hby d9_0) (pc' := 1) rfl rfl rfl ?_
  refine g_iconst hG X0 hx (hb hby d9_1) (pc' := 2) rfl (v := (0 : Int32)) rfl ?_
  refine g_iconst hG X0 hx (hb hby d9_2) (pc' := 3) rfl (v := (0 : Int32)) rfl ?_
  refine g_aloadN hG X0 hx (hb hby d9_3) (pc' := 4) rfl rfl rfl ?_
  refine g_arraylength hG X0 hx hZ e0 V_a (hb hby d9_4) (pc' := 5) rfl ?_
  refine g_callS hG X0 hx hZ (y := (⟨"java/util/DualPivotQuicksort", "sort", "([IIII)V"⟩ : MethodName)) 0 hown (wd hw 50 rfl) (wd hw 51 rfl) (wd hw 52 rfl) (wd hw 53 rfl) (by decide) (rmS40 l Z a0 hw [] a h0 n0 Zs) (by decide) (by decide) (by rw [hml]; rfl) pd_2 rfl (argsL := [(.ref a), (.int 0), (.int 0), (.int 0)]) (rest := []) rfl rfl (Nat.le_of_eq rfl) (hb hby d9_5) e0 (by decide) (by decide) (pc' := 8) rfl ?_
  intro T1 rv1 L1 X1 hQ1
  obtain ⟨rfl, Nq1, eh1⟩ := hQ1
  have NF1 := Fr.app NF0 Nq1
  show G (T1.setTop (mkF m 8 _ []))
  exact e_ret0 hGe X1 hx hrt hlk (hb hby d9_8) eh1 (by decide) (by decide) (⟨rfl, NF1, rfl⟩)

def Q_rmIn1 (Z : State) (a : Addr) (h0 : Heap) (n0 : Nat) (v : Option Value) (h : Heap) (L : List Loc) : Prop := v = none ∧ Fr n0 L ∧ h = h0
set_option maxRecDepth 65536 in
set_option maxHeartbeats 40000000 in
theorem rmIn1 (l : Launch) (Z : State) (a0 : Array Value) (hw : ∀ d ∈ tables_1, d.before a0 Z = true) (ws : List Jvm.Cond) (a : Addr) (h0 : Heap) (n0 : Nat) (Zs : n0 ≤ h0.size)  :
    Con l (⟨"java/util/DualPivotQuicksort", "insertionSort", "([III)V"⟩ : MethodName) jdk_2529_method_6_code 6 none ws ({ frames := 0, cells := 0, slots := 0, locals := 0 } : Room) Z #[(.ref a), (.int 0), (.int 1)] h0 ({ frames := 0, cells := 0, slots := 0, locals := 0 } : Room).cells ({ frames := 0, cells := 0, slots := 0, locals := 0 } : Room).slots (Q_rmIn1 Z a h0 n0) := by
  refine Con.of (Ls := #[.val (.ref a), .val (.int 0), .val (.int 1), .unset, .unset, .unset]) (plainFor_of_name (by first | (simp [plainName, overriddenIn]; done) | decide +kernel)) (fun m => by first | (simp [entryFrame, mkF, argsToLocals, Value.category]; done) | rfl) ?_
  intro p e s m below meth c s₁ G hGe hG hx hby hml hown hnm hrt hlk hZ X0 e0
  have hown : s.vm.findClass "java/util/DualPivotQuicksort" = some m.cls := hown
  have hnm : meth.name = "insertionSort" := hnm
  have NF0 := Fr.nil n0
  refine g_iloadN hG X0 hx (hb hby d12_0) (pc' := 1) rfl rfl ?_
  refine g_istore hG X0 hx (hb hby d12_1) (pc' := 3) rfl (Ls' := #[.val (.ref a), .val (.int 0), .val (.int 1), .unset, .val (.int 0), .unset]) rfl ?_
  refine g_iinc hG X0 hx (hb hby d12_3) (pc' := 6) rfl rfl (v := (1 : Int32)) (by decide) (Ls' := #[.val (.ref a), .val (.int 0), .val (.int 1), .unset, .val (.int 1), .unset]) rfl ?_
  refine g_iload hG X0 hx (hb hby d12_6) (pc' := 8) rfl rfl ?_
  refine g_iloadN hG X0 hx (hb hby d12_8) (pc' := 9) rfl rfl ?_
  refine g_icmpYes hG X0 hx (hb hby d12_9) (pc' := 67) (by decide) (by decide) (by decide) ?_
  exact e_ret0 hGe X0 hx hrt hlk (hb hby d12_67) e0 (by decide) (by decide) (⟨rfl, NF0, rfl⟩)

def Q_rmS51 (Z : State) (a : Addr) (h0 : Heap) (n0 : Nat) (v : Option Value) (h : Heap) (L : List Loc) : Prop := v = none ∧ Fr n0 L ∧ h = h0
set_option maxRecDepth 65536 in
set_option maxHeartbeats 40000000 in
theorem rmS51 (l : Launch) (Z : State) (a0 : Array Value) (hw : ∀ d ∈ tables_1, d.before a0 Z = true) (ws : List Jvm.Cond) (a : Addr) (h0 : Heap) (n0 : Nat) (Zs : n0 ≤ h0.size)  :
    Con l (⟨"java/util/DualPivotQuicksort", "sort", "(Ljava/util/DualPivotQuicksort$Sorter;[IIII)V"⟩ : MethodName) jdk_2529_method_4_code 21 none ws ({ frames := 1, cells := 0, slots := 0, locals := 24 } : Room) Z #[.null, (.ref a), (.int 0), (.int 0), (.int 1)] h0 ({ frames := 1, cells := 0, slots := 0, locals := 24 } : Room).cells ({ frames := 1, cells := 0, slots := 0, locals := 24 } : Room).slots (Q_rmS51 Z a h0 n0) := by
  refine Con.of (Ls := #[.val .null, .val (.ref a), .val (.int 0), .val (.int 0), .val (.int 1), .unset, .unset, .unset, .unset, .unset, .unset, .unset, .unset, .unset, .unset, .unset, .unset, .unset, .unset, .unset, .unset]) (plainFor_of_name (by first | (simp [plainName, overriddenIn]; done) | decide +kernel)) (fun m => by first | (simp [entryFrame, mkF, argsToLocals, Value.category]; done) | rfl) ?_
  intro p e s m below meth c s₁ G hGe hG hx hby hml hown hnm hrt hlk hZ X0 e0
  have hown : s.vm.findClass "java/util/DualPivotQuicksort" = some m.cls := hown
  have hnm : meth.name = "sort" := hnm
  have NF0 := Fr.nil n0
  refine g_iload hG X0 hx (hb hby d11_0) (pc' := 2) rfl rfl ?_
  refine g_iconst hG X0 hx (hb hby d11_2) (pc' := 3) rfl (v := (1 : Int32)) rfl ?_
  refine g_isub hG X0 hx (hb hby d11_3) (pc' := 4) rfl (v := (0 : Int32)) (by decide) ?_
  refine g_istore hG X0 hx (hb hby d11_4) (pc' := 6) rfl (Ls' := #[.val .null, .val (.ref a), .val (.int 0), .val (.int 0), .val (.int 1), .val (.int 0), .unset, .unset, .unset, .unset, .unset, .unset, .unset, .unset, .unset, .unset, .unset, .unset, .unset, .unset, .unset]) rfl ?_
  refine g_iload hG X0 hx (hb hby d11_6) (pc' := 8) rfl rfl ?_
  refine g_iloadN hG X0 hx (hb hby d11_8) (pc' := 9) rfl rfl ?_
  refine g_isub hG X0 hx (hb hby d11_9) (pc' := 10) rfl (v := (1 : Int32)) (by decide) ?_
  refine g_istore hG X0 hx (hb hby d11_10) (pc' := 12) rfl (Ls' := #[.val .null, .val (.ref a), .val (.int 0), .val (.int 0), .val (.int 1), .val (.int 0), .val (.int 1), .unset, .unset, .unset, .unset, .unset, .unset, .unset, .unset, .unset, .unset, .unset, .unset, .unset, .unset]) rfl ?_
  refine g_iload hG X0 hx (hb hby d11_12) (pc' := 14) rfl rfl ?_
  refine g_bipush hG X0 hx (hb hby d11_14) (pc' := 16) rfl (v := (65 : Int32)) rfl ?_
  refine g_iloadN hG X0 hx (hb hby d11_16) (pc' := 17) rfl rfl ?_
  refine g_iadd hG X0 hx (hb hby d11_17) (pc' := 18) rfl (v := (65 : Int32)) (by decide) ?_
  refine g_icmpNo hG X0 hx (hb hby d11_18) (pc' := 21) (by decide) rfl ?_
  refine g_iloadN hG X0 hx (hb hby d11_21) (pc' := 22) rfl rfl ?_
  refine g_iconst hG X0 hx (hb hby d11_22) (pc' := 23) rfl (v := (1 : Int32)) rfl ?_
  refine g_iand hG X0 hx (hb hby d11_23) (pc' := 24) rfl (v := (0 : Int32)) (by decide) ?_
  refine g_ifYes hG X0 hx (hb hby d11_24) (pc' := 46) (by decide) (by decide) (by decide) ?_
  refine g_iload hG X0 hx (hb hby d11_46) (pc' := 48) rfl rfl ?_
  refine g_bipush hG X0 hx (hb hby d11_48) (pc' := 50) rfl (v := (44 : Int32)) rfl ?_
  refine g_icmpNo hG X0 hx (hb hby d11_50) (pc' := 53) (by decide) rfl ?_
  refine g_aloadN hG X0 hx (hb hby d11_53) (pc' := 54) rfl rfl rfl ?_
  refine g_iloadN hG X0 hx (hb hby d11_54) (pc' := 55) rfl rfl ?_
  refine g_iload hG X0 hx (hb hby d11_55) (pc' := 57) rfl rfl ?_
  refine g_callS hG X0 hx hZ (y := (⟨"java/util/DualPivotQuicksort", "insertionSort", "([III)V"⟩ : MethodName)) 0 hown (wd hw 57 rfl) (wd hw 58 rfl) (wd hw 52 rfl) (wd hw 59 rfl) (by decide) (rmIn1 l Z a0 hw [] a h0 n0 Zs) (by decide) (by decide) (by rw [hml]; rfl) pd_0 rfl (argsL := [(.ref a), (.int 0), (.int 1)]) (rest := []) rfl rfl (Nat.le_of_eq rfl) (hb hby d11_57) e0 (by decide) (by decide) (pc' := 60) rfl ?_
  intro T1 rv1 L1 X1 hQ1
  obtain ⟨rfl, Nq1, eh1⟩ := hQ1
  have NF1 := Fr.app NF0 Nq1
  show G (T1.setTop (mkF m 60 _ []))
  exact e_ret0 hGe X1 hx hrt hlk (hb hby d11_60) eh1 (by decide) (by decide) (⟨rfl, NF1, rfl⟩)

def Q_rmS41 (Z : State) (a : Addr) (h0 : Heap) (n0 : Nat) (v : Option Value) (h : Heap) (L : List Loc) : Prop := v = none ∧ Fr n0 L ∧ h = h0
set_option maxRecDepth 65536 in
set_option maxHeartbeats 40000000 in
theorem rmS41 (l : Launch) (Z : State) (a0 : Array Value) (hw : ∀ d ∈ tables_1, d.before a0 Z = true) (ws : List Jvm.Cond) (a : Addr) (h0 : Heap) (n0 : Nat) (Zs : n0 ≤ h0.size)  :
    Con l (⟨"java/util/DualPivotQuicksort", "sort", "([IIII)V"⟩ : MethodName) jdk_2529_method_3_code 7 none ws ({ frames := 2, cells := 0, slots := 0, locals := 64 } : Room) Z #[(.ref a), (.int 0), (.int 0), (.int 1)] h0 ({ frames := 2, cells := 0, slots := 0, locals := 64 } : Room).cells ({ frames := 2, cells := 0, slots := 0, locals := 64 } : Room).slots (Q_rmS41 Z a h0 n0) := by
  refine Con.of (Ls := #[.val (.ref a), .val (.int 0), .val (.int 0), .val (.int 1), .unset, .unset, .unset]) (plainFor_of_name (by first | (simp [plainName, overriddenIn]; done) | decide +kernel)) (fun m => by first | (simp [entryFrame, mkF, argsToLocals, Value.category]; done) | rfl) ?_
  intro p e s m below meth c s₁ G hGe hG hx hby hml hown hnm hrt hlk hZ X0 e0
  have hown : s.vm.findClass "java/util/DualPivotQuicksort" = some m.cls := hown
  have hnm : meth.name = "sort" := hnm
  have NF0 := Fr.nil n0
  refine g_iloadN hG X0 hx (hb hby d10_0) (pc' := 1) rfl rfl ?_
  refine g_iloadN hG X0 hx (hb hby d10_1) (pc' := 2) rfl rfl ?_
  refine g_isub hG X0 hx (hb hby d10_2) (pc' := 3) rfl (v := (1 : Int32)) (by decide) ?_
  refine g_istore hG X0 hx (hb hby d10_3) (pc' := 5) rfl (Ls' := #[.val (.ref a), .val (.int 0), .val (.int 0), .val (.int 1), .val (.int 1), .unset, .unset]) rfl ?_
  refine g_iloadN hG X0 hx (hb hby d10_5) (pc' := 6) rfl rfl ?_
  refine g_iconst hG X0 hx (hb hby d10_6) (pc' := 7) rfl (v := (1 : Int32)) rfl ?_
  refine g_icmpYes hG X0 hx (hb hby d10_7) (pc' := 68) (by decide) (by decide) (by decide) ?_
  refine g_aconstNull hG X0 hx (hb hby d10_68) (pc' := 69) rfl ?_
  refine g_aloadN hG X0 hx (hb hby d10_69) (pc' := 70) rfl rfl rfl ?_
  refine g_iconst hG X0 hx (hb hby d10_70) (pc' := 71) rfl (v := (0 : Int32)) rfl ?_
  refine g_iloadN hG X0 hx (hb hby d10_71) (pc' := 72) rfl rfl ?_
  refine g_iloadN hG X0 hx (hb hby d10_72) (pc' := 73) rfl rfl ?_
  refine g_callS hG X0 hx hZ (y := (⟨"java/util/DualPivotQuicksort", "sort", "(Ljava/util/DualPivotQuicksort$Sorter;[IIII)V"⟩ : MethodName)) 0 hown (wd hw 54 rfl) (wd hw 55 rfl) (wd hw 52 rfl) (wd hw 56 rfl) (by decide) (rmS51 l Z a0 hw [] a h0 n0 Zs) (by decide) (by decide) (by rw [hml]; rfl) pd_1 rfl (argsL := [.null, (.ref a), (.int 0), (.int 0), (.int 1)]) (rest := []) rfl rfl (Nat.le_of_eq rfl) (hb hby d10_73) e0 (by decide) (by decide) (pc' := 76) rfl ?_
  intro T1 rv1 L1 X1 hQ1
  obtain ⟨rfl, Nq1, eh1⟩ := hQ1
  have NF1 := Fr.app NF0 Nq1
  show G (T1.setTop (mkF m 76 _ []))
  exact e_ret0 hGe X1 hx hrt hlk (hb hby d10_76) eh1 (by decide) (by decide) (⟨rfl, NF1, rfl⟩)

def Q_rmSo1 (Z : State) (a : Addr) (x0 : Int32) (h0 : Heap) (n0 : Nat) (v : Option Value) (h : Heap) (L : List Loc) : Prop := v = none ∧ Fr n0 L ∧ h = h0
set_option maxRecDepth 65536 in
set_option maxHeartbeats 40000000 in
theorem rmSo1 (l : Launch) (Z : State) (a0 : Array Value) (hw : ∀ d ∈ tables_1, d.before a0 Z = true) (ws : List Jvm.Cond) (a : Addr) (x0 : Int32) (h0 : Heap) (n0 : Nat) (Zs : n0 ≤ h0.size) (V_a : AV Z h0 a .int (1 : Int32) [(.int x0)]) :
    Con l (⟨"java/util/Arrays", "sort", "([I)V"⟩ : MethodName) jdk_65_method_2_code 1 none ws ({ frames := 3, cells := 0, slots := 0, locals := 88 } : Room) Z #[(.ref a)] h0 ({ frames := 3, cells := 0, slots := 0, locals := 88 } : Room).cells ({ frames := 3, cells := 0, slots := 0, locals := 88 } : Room).slots (Q_rmSo1 Z a x0 h0 n0) := by
  refine Con.of (Ls := #[.val (.ref a)]) (plainFor_of_name (by first | (simp [plainName, overriddenIn]; done) | decide +kernel)) (fun m => by first | (simp [entryFrame, mkF, argsToLocals, Value.category]; done) | rfl) ?_
  intro p e s m below meth c s₁ G hGe hG hx hby hml hown hnm hrt hlk hZ X0 e0
  have hown : s.vm.findClass "java/util/Arrays" = some m.cls := hown
  have hnm : meth.name = "sort" := hnm
  have NF0 := Fr.nil n0
  refine g_aloadN hG X0 hx (hb hby d9_0) (pc' := 1) rfl rfl rfl ?_
  refine g_iconst hG X0 hx (hb hby d9_1) (pc' := 2) rfl (v := (0 : Int32)) rfl ?_
  refine g_iconst hG X0 hx (hb hby d9_2) (pc' := 3) rfl (v := (0 : Int32)) rfl ?_
  refine g_aloadN hG X0 hx (hb hby d9_3) (pc' := 4) rfl rfl rfl ?_
  refine g_arraylength hG X0 hx hZ e0 V_a (hb hby d9_4) (pc' := 5) rfl ?_
  refine g_callS hG X0 hx hZ (y := (⟨"java/util/DualPivotQuicksort", "sort", "([IIII)V"⟩ : MethodName)) 0 hown (wd hw 50 rfl) (wd hw 51 rfl) (wd hw 52 rfl) (wd hw 53 rfl) (by decide) (rmS41 l Z a0 hw [] a h0 n0 Zs) (by decide) (by decide) (by rw [hml]; rfl) pd_2 rfl (argsL := [(.ref a), (.int 0), (.int 0), (.int 1)]) (rest := []) rfl rfl (Nat.le_of_eq rfl) (hb hby d9_5) e0 (by decide) (by decide) (pc' := 8) rfl ?_
  intro T1 rv1 L1 X1 hQ1
  obtain ⟨rfl, Nq1, eh1⟩ := hQ1
  have NF1 := Fr.app NF0 Nq1
  show G (T1.setTop (mkF m 8 _ []))
  exact e_ret0 hGe X1 hx hrt hlk (hb hby d9_8) eh1 (by decide) (by decide) (⟨rfl, NF1, rfl⟩)

def Q_rmCo1_0 (Z : State) (a : Addr) (x0 : Int32) (h0 : Heap) (n0 : Nat) (v : Option Value) (h : Heap) (L : List Loc) : Prop := ∃ b : Addr, v = some (.ref b) ∧ Fr n0 L ∧ Keep h0 h [] ∧ h0.size ≤ b ∧ AV Z h b .int (0 : Int32) []
set_option maxRecDepth 65536 in
set_option maxHeartbeats 40000000 in
theorem rmCo1_0 (l : Launch) (Z : State) (a0 : Array Value) (hw : ∀ d ∈ tables_1, d.before a0 Z = true) (ws : List Jvm.Cond) (a : Addr) (x0 : Int32) (h0 : Heap) (n0 : Nat) (Zs : n0 ≤ h0.size) (V_a : AV Z h0 a .int (1 : Int32) [(.int x0)]) (Ex_a : Exa Z h0 a "[I") :
    Con l (⟨"java/util/Arrays", "copyOf", "([II)[I"⟩ : MethodName) jdk_65_method_123_code 3 (some (.array .int)) ws ({ frames := 1, cells := 1, slots := 0, locals := 32 } : Room) Z #[(.ref a), (.int 0)] h0 ({ frames := 1, cells := 1, slots := 0, locals := 32 } : Room).cells ({ frames := 1, cells := 1, slots := 0, locals := 32 } : Room).slots (Q_rmCo1_0 Z a x0 h0 n0) := by
  refine Con.of (Ls := #[.val (.ref a), .val (.int 0), .unset]) (plainFor_of_name (by first | (simp [plainName, overriddenIn]; done) | decide +kernel)) (fun m => by first | (simp [entryFrame, mkF, argsToLocals, Value.category]; done) | rfl) ?_
  intro p e s m below meth c s₁ G hGe hG hx hby hml hown hnm hrt hlk hZ X0 e0
  have hown : s.vm.findClass "java/util/Arrays" = some m.cls := hown
  have hnm : meth.name = "copyOf" := hnm
  have NF0 := Fr.nil n0
  have K0 := Keep.refl h0 ([] : List Addr)
  refine g_iloadN hG X0 hx (hb hby d7_0) (pc' := 1) rfl rfl ?_
  refine g_aloadN hG X0 hx (hb hby d7_1) (pc' := 2) rfl rfl rfl ?_
  refine g_arraylength hG X0 hx hZ e0 V_a (hb hby d7_2) (pc' := 3) rfl ?_
  refine g_icmpYes hG X0 hx (hb hby d7_3) (pc' := 14) (by decide) (by decide) (by decide) ?_
  refine g_iloadN hG X0 hx (hb hby d7_14) (pc' := 15) rfl rfl ?_
  refine g_newP hG X0 hx hZ (wd hw 12 rfl) e0 (hb hby d7_15) (by decide) 0 (by decide) (by decide) (by decide) (by decide) (pc' := 17) rfl ?_
  intro T1 h1 b kA1 gs1 X1 e1 E1 A1
  have ne_a_b : a ≠ b := Nat.ne_of_lt (gs1 ▸ V_a.lt)
  have ge_b : n0 ≤ b := gs1 ▸ Zs
  have sz_b : h0.size ≤ b := gs1 ▸ K0.1
  have Zs := Nat.le_trans Zs E1.1
  have V_a := V_a.ext E1
  have Ex_a := Ex_a.ext E1
  have K1 := K0.ext E1
  have V_b : AV Z h1 b .int (0 : Int32) [] := AV.new A1
  refine g_astoreN hG X1 hx (hb hby d7_17) (pc' := 18) rfl rfl (Ls' := #[.val (.ref a), .val (.int 0), .val (.ref b)]) rfl ?_
  refine g_aloadN hG X1 hx (hb hby d7_18) (pc' := 19) rfl rfl rfl ?_
  refine g_iconst hG X1 hx (hb hby d7_19) (pc' := 20) rfl (v := (0 : Int32)) rfl ?_
  refine g_aloadN hG X1 hx (hb hby d7_20) (pc' := 21) rfl rfl rfl ?_
  refine g_iconst hG X1 hx (hb hby d7_21) (pc' := 22) rfl (v := (0 : Int32)) rfl ?_
  refine g_aloadN hG X1 hx (hb hby d7_22) (pc' := 23) rfl rfl rfl ?_
  refine g_arraylength hG X1 hx hZ e1 V_a (hb hby d7_23) (pc' := 24) rfl ?_
  refine g_iloadN hG X1 hx (hb hby d7_24) (pc' := 25) rfl rfl ?_
  refine g_callS hG X1 hx hZ (y := (⟨"java/lang/Math", "min", "(II)I"⟩ : MethodName)) 4 hown (wd hw 40 rfl) (wd hw 41 rfl) (wd hw 24 rfl) (wd hw 42 rfl) (by decide) (rmMI l Z a0 hw [] (1 : Int32) (0 : Int32) (0 : Int32) h1 n0 Zs (by decide)) (by decide) (by decide) (by rw [hml]; rfl) pd_3 rfl (argsL := [(.int 1), (.int 0)]) (rest := [(.int 0), (.ref b), (.int 0), (.ref a)]) rfl rfl (Nat.le_of_eq rfl) (hb hby d7_25) e1 (by decide) (by decide) (pc' := 28) rfl ?_
  intro T2 rv2 L2 X2 hQ2
  obtain ⟨rfl, Nq2, eh2⟩ := hQ2
  have NF2 := Fr.app NF0 Nq2
  show G (T2.setTop (mkF m 28 _ [(.int 0), (.int 0), (.ref b), (.int 0), (.ref a)]))
  refine g_copy hG X2 hx hZ hown (wd hw 43 rfl) (wd hw 46 rfl) (wd hw 44 rfl) (wd hw 45 rfl) eh2 V_a V_b rfl (by decide) (by decide) (by decide) (by decide) (by decide) (vr := []) rfl NF2 ge_b (by rw [hml]; rfl) (hb hby d7_28) (by decide) 0 (Nat.le_of_eq rfl) (by decide) (pc' := 31) rfl ?_
  intro T3 h3 L3 X3 e3 NF3 Kq3 Vn3
  have V_b := Vn3
  have V_a := V_a.keep Kq3 (ninS ne_a_b nin0)
  have Ex_a := Ex_a.keep Kq3
  have Zs := Nat.le_trans Zs Kq3.1
  have K3 := K1.trans Kq3 (allS (Or.inr sz_b) all0)
  show G (T3.setTop (mkF m 31 _ []))
  refine g_aloadN hG X3 hx (hb hby d7_31) (pc' := 32) rfl rfl rfl ?_
  exact e_retA hGe X3 hx hrt rfl hlk (hb hby d7_32) e3 (by decide) (by decide) (⟨b, rfl, NF3, K3, sz_b, V_b⟩)

def Q_rmHe1_0 (Z : State) (a sa ha : Addr) (sh : Int32 → UInt64) (hd : Int32 → Int32) (h0 : Heap) (n0 : Nat) (v : Option Value) (h : Heap) (L : List Loc) : Prop := ∃ b : Addr, v = some (.ref b) ∧ Fr n0 L ∧ Keep h0 h [] ∧ h0.size ≤ b ∧ AV Z h b .int (0 : Int32) []
set_option maxRecDepth 65536 in
set_option maxHeartbeats 40000000 in
theorem rmHe1_0 (l : Launch) (Z : State) (a0 : Array Value) (hw : ∀ d ∈ tables_1, d.before a0 Z = true) (ws : List Jvm.Cond) (a sa ha : Addr) (sh : Int32 → UInt64) (hd : Int32 → Int32) (h0 : Heap) (n0 : Nat) (Zs : n0 ≤ h0.size) (NQ : NS1 Z h0 a sa ha (0 : Int32) sh hd) (DD : Dis n0 a sa ha) :
    Con l (⟨"org/termsieve/mapping/Shares", "held", "()[I"⟩ : MethodName) prog_78_method_6_code 2 (some (.array .int)) ws ({ frames := 4, cells := 1, slots := 0, locals := 104 } : Room) Z #[(.ref a)] h0 ({ frames := 4, cells := 1, slots := 0, locals := 104 } : Room).cells ({ frames := 4, cells := 1, slots := 0, locals := 104 } : Room).slots (Q_rmHe1_0 Z a sa ha sh hd h0 n0) := by
  refine Con.of (Ls := #[.val (.ref a), .unset]) (plainFor_of_name (by first | (simp [plainName, overriddenIn]; done) | decide +kernel)) (fun m => by first | (simp [entryFrame, mkF, argsToLocals, Value.category]; done) | rfl) ?_
  intro p e s m below meth c s₁ G hGe hG hx hby hml hown hnm hrt hlk hZ X0 e0
  have hown : s.vm.findClass "org/termsieve/mapping/Shares" = some m.cls := hown
  have hnm : meth.name = "held" := hnm
  have NF0 := Fr.nil n0
  obtain ⟨Ex_a, Ex_ha, F_shares_a, F_held_a, F_size_a, V_sa, V_ha⟩ := NQ
  obtain ⟨ga, gsa, gha, d1, d2, d3⟩ := DD
  have K0 := Keep.refl h0 ([] : List Addr)
  refine g_aloadN hG X0 hx (hb hby d6_0) (pc' := 1) rfl rfl rfl ?_
  refine g_getF hG X0 hx hZ hown (wd hw 13 rfl) Via.refl e0 F_held_a (hb hby d6_1) (pc' := 4) rfl ?_
  intro T1 X1 e1
  refine g_aloadN hG X1 hx (hb hby d6_4) (pc' := 5) rfl rfl rfl ?_
  refine g_getF hG X1 hx hZ hown (wd hw 20 rfl) Via.refl e1 F_size_a (hb hby d6_5) (pc' := 8) rfl ?_
  intro T2 X2 e2
  refine g_callS hG X2 hx hZ (y := (⟨"java/util/Arrays", "copyOf", "([II)[I"⟩ : MethodName)) 0 hown (wd hw 36 rfl) (wd hw 37 rfl) (wd hw 38 rfl) (wd hw 39 rfl) (by decide) (rmCo1_0 l Z a0 hw [] ha (hd 0) h0 n0 Zs V_ha Ex_ha) (by decide) (by decide) (by rw [hml]; rfl) pd_4 rfl (argsL := [(.ref ha), (.int 0)]) (rest := []) rfl rfl (Nat.le_of_eq rfl) (hb hby d6_8) e2 (by decide) (by decide) (pc' := 11) rfl ?_
  intro T3 rv3 L3 X3 hQ3
  obtain ⟨b, rfl, Nq3, Kq3, szq3, V_b⟩ := hQ3
  have NF3 := Fr.app NF0 Nq3
  have ne_a_b : a ≠ b := Nat.ne_of_lt (Nat.lt_of_lt_of_le Ex_a.lt szq3)
  have ne_ha_b : ha ≠ b := Nat.ne_of_lt (Nat.lt_of_lt_of_le Ex_ha.lt szq3)
  have ne_sa_b : sa ≠ b := Nat.ne_of_lt (Nat.lt_of_lt_of_le V_sa.lt szq3)
  have ge_b : n0 ≤ b := Nat.le_trans Zs szq3
  have sz_b : h0.size ≤ b := Nat.le_trans K0.1 szq3
  have Ex_a := Ex_a.keep Kq3
  have Ex_ha := Ex_ha.keep Kq3
  have F_shares_a := F_shares_a.keep Kq3 nin0
  have F_held_a := F_held_a.keep Kq3 nin0
  have F_size_a := F_size_a.keep Kq3 nin0
  have V_sa := V_sa.keep Kq3 nin0
  have V_ha := V_ha.keep Kq3 nin0
  have Zs := Nat.le_trans Zs Kq3.1
  have K3 := K0.trans Kq3 all0
  show G (T3.setTop (mkF m 11 _ [(.ref b)]))
  refine g_astoreN hG X3 hx (hb hby d6_11) (pc' := 12) rfl rfl (Ls' := #[.val (.ref a), .val (.ref b)]) rfl ?_
  refine g_aloadN hG X3 hx (hb hby d6_12) (pc' := 13) rfl rfl rfl ?_
  refine g_callS hG X3 hx hZ (y := (⟨"java/util/Arrays", "sort", "([I)V"⟩ : MethodName)) 0 hown (wd hw 47 rfl) (wd hw 48 rfl) (wd hw 38 rfl) (wd hw 49 rfl) (by decide) (rmSo0 l Z a0 hw [] b  T3.heap n0 Zs V_b) (by decide) (by decide) (by rw [hml]; rfl) pd_5 rfl (argsL := [(.ref b)]) (rest := []) rfl rfl (Nat.le_of_eq rfl) (hb hby d6_13) rfl (by decide) (by decide) (pc' := 16) rfl ?_
  intro T4 rv4 L4 X4 hQ4
  obtain ⟨rfl, Nq4, eh4⟩ := hQ4
  have NF4 := Fr.app NF3 Nq4
  show G (T4.setTop (mkF m 16 _ []))
  refine g_aloadN hG X4 hx (hb hby d6_16) (pc' := 17) rfl rfl rfl ?_
  exact e_retA hGe X4 hx hrt rfl hlk (hb hby d6_17) eh4 (by decide) (by decide) (⟨b, rfl, NF4, K3, sz_b, V_b⟩)

def Q_rmCo1_1 (Z : State) (a : Addr) (x0 : Int32) (h0 : Heap) (n0 : Nat) (v : Option Value) (h : Heap) (L : List Loc) : Prop := ∃ b : Addr, v = some (.ref b) ∧ Fr n0 L ∧ Keep h0 h [] ∧ h0.size ≤ b ∧ AV Z h b .int (1 : Int32) [(.int x0)]
set_option maxRecDepth 65536 in
set_option maxHeartbeats 40000000 in
theorem rmCo1_1 (l : Launch) (Z : State) (a0 : Array Value) (hw : ∀ d ∈ tables_1, d.before a0 Z = true) (ws : List Jvm.Cond) (a : Addr) (x0 : Int32) (h0 : Heap) (n0 : Nat) (Zs : n0 ≤ h0.size) (V_a : AV Z h0 a .int (1 : Int32) [(.int x0)]) (Ex_a : Exa Z h0 a "[I") :
    Con l (⟨"java/util/Arrays", "copyOf", "([II)[I"⟩ : MethodName) jdk_65_method_123_code 3 (some (.array .int)) ws ({ frames := 1, cells := 1, slots := 1, locals := 32 } : Room) Z #[(.ref a), (.int 1)] h0 ({ frames := 1, cells := 1, slots := 1, locals := 32 } : Room).cells ({ frames := 1, cells := 1, slots := 1, locals := 32 } : Room).slots (Q_rmCo1_1 Z a x0 h0 n0) := by
  refine Con.of (Ls := #[.val (.ref a), .val (.int 1), .unset]) (plainFor_of_name (by first | (simp [plainName, overriddenIn]; done) | decide +kernel)) (fun m => by first | (simp [entryFrame, mkF, argsToLocals, Value.category]; done) | rfl) ?_
  intro p e s m below meth c s₁ G hGe hG hx hby hml hown hnm hrt hlk hZ X0 e0
  have hown : s.vm.findClass "java/util/Arrays" = some m.cls := hown
  have hnm : meth.name = "copyOf" := hnm
  have NF0 := Fr.nil n0
  have K0 := Keep.refl h0 ([] : List Addr)
  refine g_iloadN hG X0 hx (hb hby d7_0) (pc' := 1) rfl rfl ?_
  refine g_aloadN hG X0 hx (hb hby d7_1) (pc' := 2) rfl rfl rfl ?_
  refine g_arraylength hG X0 hx hZ e0 V_a (hb hby d7_2) (pc' := 3) rfl ?_
  refine g_icmpNo hG X0 hx (hb hby d7_3) (pc' := 6) (by decide) rfl ?_
  refine g_aloadN hG X0 hx (hb hby d7_6) (pc' := 7) rfl rfl rfl ?_
  refine g_clone hG X0 hx hZ hown (wd hw 60 rfl) (wd hw 61 rfl) (wd hw 65 rfl) (wd hw 63 rfl) (wd hw 64 rfl) (wd hw 66 rfl) e0 V_a Ex_a (by rw [hml]; rfl) (hb hby d7_7) (by decide) 0 1 (Nat.le_of_eq rfl) (by decide) (by decide) (by decide) (by decide) (pc' := 10) rfl ?_
  intro T1 h1 b gs1 X1 e1 E1 A1 B1
  have ne_a_b : a ≠ b := Nat.ne_of_lt (gs1 ▸ V_a.lt)
  have ge_b : n0 ≤ b := gs1 ▸ Zs
  have sz_b : h0.size ≤ b := gs1 ▸ K0.1
  have Zs := Nat.le_trans Zs E1.1
  have V_a := V_a.ext E1
  have Ex_a := Ex_a.ext E1
  have K1 := K0.ext E1
  have V_b := A1
  have Ex_b := B1
  show G (T1.setTop (mkF m 10 _ [(.ref b)]))
  refine g_castY hG X1 hx hZ hown (wd hw 67 rfl) e1 (Ins.self Ex_b) (hb hby d7_10) (pc' := 13) rfl ?_
  intro T2 X2 e2
  exact e_retA hGe X2 hx hrt rfl hlk (hb hby d7_13) e2 (by decide) (by decide) (⟨b, rfl, NF0, K1, sz_b, V_b⟩)

def Q_rmHe1_1 (Z : State) (a sa ha : Addr) (sh : Int32 → UInt64) (hd : Int32 → Int32) (kk : Int32) (h0 : Heap) (n0 : Nat) (v : Option Value) (h : Heap) (L : List Loc) : Prop := ∃ b : Addr, v = some (.ref b) ∧ Fr n0 L ∧ Keep h0 h [] ∧ h0.size ≤ b ∧ AV Z h b .int (1 : Int32) [(.int kk)]
set_option maxRecDepth 65536 in
set_option maxHeartbeats 40000000 in
theorem rmHe1_1 (l : Launch) (Z : State) (a0 : Array Value) (hw : ∀ d ∈ tables_1, d.before a0 Z = true) (ws : List Jvm.Cond) (a sa ha : Addr) (sh : Int32 → UInt64) (hd : Int32 → Int32) (kk : Int32) (h0 : Heap) (n0 : Nat) (Zs : n0 ≤ h0.size) (NQ : NS1 Z h0 a sa ha (1 : Int32) sh hd) (DD : Dis n0 a sa ha) (hk : hd 0 = kk) :
    Con l (⟨"org/termsieve/mapping/Shares", "held", "()[I"⟩ : MethodName) prog_78_method_6_code 2 (some (.array .int)) ws ({ frames := 4, cells := 1, slots := 1, locals := 104 } : Room) Z #[(.ref a)] h0 ({ frames := 4, cells := 1, slots := 1, locals := 104 } : Room).cells ({ frames := 4, cells := 1, slots := 1, locals := 104 } : Room).slots (Q_rmHe1_1 Z a sa ha sh hd kk h0 n0) := by
  refine Con.of (Ls := #[.val (.ref a), .unset]) (plainFor_of_name (by first | (simp [plainName, overriddenIn]; done) | decide +kernel)) (fun m => by first | (simp [entryFrame, mkF, argsToLocals, Value.category]; done) | rfl) ?_
  intro p e s m below meth c s₁ G hGe hG hx hby hml hown hnm hrt hlk hZ X0 e0
  have hown : s.vm.findClass "org/termsieve/mapping/Shares" = some m.cls := hown
  have hnm : meth.name = "held" := hnm
  have NF0 := Fr.nil n0
  obtain ⟨Ex_a, Ex_ha, F_shares_a, F_held_a, F_size_a, V_sa, V_ha⟩ := NQ
  obtain ⟨ga, gsa, gha, d1, d2, d3⟩ := DD
  have K0 := Keep.refl h0 ([] : List Addr)
  refine g_aloadN hG X0 hx (hb hby d6_0) (pc' := 1) rfl rfl rfl ?_
  refine g_getF hG X0 hx hZ hown (wd hw 13 rfl) Via.refl e0 F_held_a (hb hby d6_1) (pc' := 4) rfl ?_
  intro T1 X1 e1
  refine g_aloadN hG X1 hx (hb hby d6_4) (pc' := 5) rfl rfl rfl ?_
  refine g_getF hG X1 hx hZ hown (wd hw 20 rfl) Via.refl e1 F_size_a (hb hby d6_5) (pc' := 8) rfl ?_
  intro T2 X2 e2
  refine g_callS hG X2 hx hZ (y := (⟨"java/util/Arrays", "copyOf", "([II)[I"⟩ : MethodName)) 0 hown (wd hw 36 rfl) (wd hw 37 rfl) (wd hw 38 rfl) (wd hw 39 rfl) (by decide) (rmCo1_1 l Z a0 hw [] ha (hd 0) h0 n0 Zs V_ha Ex_ha) (by decide) (by decide) (by rw [hml]; rfl) pd_4 rfl (argsL := [(.ref ha), (.int 1)]) (rest := []) rfl rfl (Nat.le_of_eq rfl) (hb hby d6_8) e2 (by decide) (by decide) (pc' := 11) rfl ?_
  intro T3 rv3 L3 X3 hQ3
  obtain ⟨b, rfl, Nq3, Kq3, szq3, V_b⟩ := hQ3
  have NF3 := Fr.app NF0 Nq3
  have ne_a_b : a ≠ b := Nat.ne_of_lt (Nat.lt_of_lt_of_le Ex_a.lt szq3)
  have ne_ha_b : ha ≠ b := Nat.ne_of_lt (Nat.lt_of_lt_of_le Ex_ha.lt szq3)
  have ne_sa_b : sa ≠ b := Nat.ne_of_lt (Nat.lt_of_lt_of_le V_sa.lt szq3)
  have ge_b : n0 ≤ b := Nat.le_trans Zs szq3
  have sz_b : h0.size ≤ b := Nat.le_trans K0.1 szq3
  have Ex_a := Ex_a.keep Kq3
  have Ex_ha := Ex_ha.keep Kq3
  have F_shares_a := F_shares_a.keep Kq3 nin0
  have F_held_a := F_held_a.keep Kq3 nin0
  have F_size_a := F_size_a.keep Kq3 nin0
  have V_sa := V_sa.keep Kq3 nin0
  have V_ha := V_ha.keep Kq3 nin0
  have Zs := Nat.le_trans Zs Kq3.1
  have K3 := K0.trans Kq3 all0
  show G (T3.setTop (mkF m 11 _ [(.ref b)]))
  refine g_astoreN hG X3 hx (hb hby d6_11) (pc' := 12) rfl rfl (Ls' := #[.val (.ref a), .val (.ref b)]) rfl ?_
  refine g_aloadN hG X3 hx (hb hby d6_12) (pc' := 13) rfl rfl rfl ?_
  refine g_callS hG X3 hx hZ (y := (⟨"java/util/Arrays", "sort", "([I)V"⟩ : MethodName)) 0 hown (wd hw 47 rfl) (wd hw 48 rfl) (wd hw 38 rfl) (wd hw 49 rfl) (by decide) (rmSo1 l Z a0 hw [] b (hd 0) T3.heap n0 Zs V_b) (by decide) (by decide) (by rw [hml]; rfl) pd_5 rfl (argsL := [(.ref b)]) (rest := []) rfl rfl (Nat.le_of_eq rfl) (hb hby d6_13) rfl (by decide) (by decide) (pc' := 16) rfl ?_
  intro T4 rv4 L4 X4 hQ4
  obtain ⟨rfl, Nq4, eh4⟩ := hQ4
  have NF4 := Fr.app NF3 Nq4
  show G (T4.setTop (mkF m 16 _ []))
  refine g_aloadN hG X4 hx (hb hby d6_16) (pc' := 17) rfl rfl rfl ?_
  exact e_retA hGe X4 hx hrt rfl hlk (hb hby d6_17) eh4 (by decide) (by decide) (⟨b, rfl, NF4, K3, sz_b, (by rw [← hk]; exact V_b)⟩)

def Q_rmNew1 (Z : State) (a : Addr) (h0 : Heap) (n0 : Nat) (v : Option Value) (h : Heap) (L : List Loc) : Prop := ∃ sa ha : Addr, v = none ∧ Fr n0 L ∧ Keep h0 h [a] ∧ h0.size ≤ sa ∧ h0.size ≤ ha ∧ sa ≠ ha ∧ NS1 Z h a sa ha (0 : Int32) (fun _ => 0) (fun _ => 0)
set_option maxRecDepth 65536 in
set_option maxHeartbeats 40000000 in
theorem rmNew1 (l : Launch) (Z : State) (a0 : Array Value) (hw : ∀ d ∈ tables_1, d.before a0 Z = true) (ws : List Jvm.Cond) (a : Addr) (h0 : Heap) (n0 : Nat) (Zs : n0 ≤ h0.size) (ga : n0 ≤ a) (Ex_a : Exa Z h0 a "org/termsieve/mapping/Shares") (F_shares_a : Fld Z h0 a "org/termsieve/mapping/Shares" "shares" "[D" .null) (F_held_a : Fld Z h0 a "org/termsieve/mapping/Shares" "held" "[I" .null) (F_size_a : Fld Z h0 a "org/termsieve/mapping/Shares" "size" "I" (.int (0 : Int32))) :
    Con l (⟨"org/termsieve/mapping/Shares", "<init>", "(I)V"⟩ : MethodName) prog_78_method_1_code 2 none ws ({ frames := 1, cells := 2, slots := 2, locals := 16 } : Room) Z #[(.ref a), (.int 1)] h0 ({ frames := 1, cells := 2, slots := 2, locals := 16 } : Room).cells ({ frames := 1, cells := 2, slots := 2, locals := 16 } : Room).slots (Q_rmNew1 Z a h0 n0) := by
  refine Con.of (Ls := #[.val (.ref a), .val (.int 1)]) (plainFor_of_name (by first | (simp [plainName, overriddenIn]; done) | decide +kernel)) (fun m => by first | (simp [entryFrame, mkF, argsToLocals, Value.category]; done) | rfl) ?_
  intro p e s m below meth c s₁ G hGe hG hx hby hml hown hnm hrt hlk hZ X0 e0
  have hown : s.vm.findClass "org/termsieve/mapping/Shares" = some m.cls := hown
  have hnm : meth.name = "<init>" := hnm
  have NF0 := Fr.nil n0
  have K0 := Keep.refl h0 [a]
  refine g_aloadN hG X0 hx (hb hby d1_0) (pc' := 1) rfl rfl rfl ?_
  refine g_initO hG X0 hx hZ hown (wd hw 6 rfl) (wd hw 7 rfl) (wd hw 8 rfl) e0 (by rw [hml]; rfl) (hb hby d1_1) (by decide) (by decide) (pc' := 4) rfl ?_
  intro T1 X1 e1
  show G (T1.setTop (mkF m 4 _ []))
  refine g_aloadN hG X1 hx (hb hby d1_4) (pc' := 5) rfl rfl rfl ?_
  refine g_iloadN hG X1 hx (hb hby d1_5) (pc' := 6) rfl rfl ?_
  refine g_newPE hG X1 hx hZ (wd hw 9 rfl) e1 (hb hby d1_6) (by decide) 1 (by decide) (by decide) (by decide) (by decide) (ad := "[D") (by decide) (pc' := 8) rfl ?_
  intro T2 h2 sa gs2 X2 e2 E2 A2 B2
  have ne_a_sa : a ≠ sa := Nat.ne_of_lt (gs2 ▸ Ex_a.lt)
  have ge_sa : n0 ≤ sa := gs2 ▸ Zs
  have sz_sa : h0.size ≤ sa := gs2 ▸ K0.1
  have Zs := Nat.le_trans Zs E2.1
  have Ex_a := Ex_a.ext E2
  have F_shares_a := F_shares_a.ext E2
  have F_held_a := F_held_a.ext E2
  have F_size_a := F_size_a.ext E2
  have K2 := K0.ext E2
  have V_sa : AV Z h2 sa .double (1 : Int32) [(.double 0)] := A2
  have Ex_sa := B2
  refine g_putF hG X2 hx hZ hown (wd hw 10 rfl) Via.refl e2 F_shares_a Ex_a (Or.inr ⟨(wd hw 11 rfl), rfl, hnm⟩) (wd hw 1 rfl) (v' := (.ref sa)) (ty := (.array .double)) (by decide) rfl rfl (hb hby d1_8) (pc' := 11) rfl ?_
  intro T3 h3 X3 e3 W3
  have Ex_a := Ex_a.wr W3
  have F_shares_a := F_shares_a.same W3
  have F_held_a := F_held_a.other W3 (Or.inr (slot_ne (Or.inr (wd hw 14 rfl)) (Or.inr (wd hw 11 rfl)) (by decide) (t := (.array .int)) (t' := (.array .double)) (by decide) (by decide)))
  have F_size_a := F_size_a.other W3 (Or.inr (slot_ne (Or.inl (wd hw 21 rfl)) (Or.inr (wd hw 11 rfl)) (by decide) (t := .int) (t' := (.array .double)) (by decide) (by decide)))
  have V_sa := V_sa.other W3 (Ne.symm ne_a_sa)
  have Ex_sa := Ex_sa.wr W3
  have Zs := Nat.le_trans Zs (Wr.size W3)
  have NF3 := Fr.snoc X3 NF0 ga
  have K3 := K2.wr W3 (Or.inl (List.mem_of_getElem? (i := 0) rfl))
  refine g_aloadN hG X3 hx (hb hby d1_11) (pc' := 12) rfl rfl rfl ?_
  refine g_iloadN hG X3 hx (hb hby d1_12) (pc' := 13) rfl rfl ?_
  refine g_newPE hG X3 hx hZ (wd hw 12 rfl) e3 (hb hby d1_13) (by decide) 1 (by decide) (by decide) (by decide) (by decide) (ad := "[I") (by decide) (pc' := 15) rfl ?_
  intro T4 h4 ha gs4 X4 e4 E4 A4 B4
  have ne_a_ha : a ≠ ha := Nat.ne_of_lt (gs4 ▸ Ex_a.lt)
  have ne_sa_ha : sa ≠ ha := Nat.ne_of_lt (gs4 ▸ V_sa.lt)
  have ge_ha : n0 ≤ ha := gs4 ▸ Zs
  have sz_ha : h0.size ≤ ha := gs4 ▸ K3.1
  have Zs := Nat.le_trans Zs E4.1
  have Ex_a := Ex_a.ext E4
  have F_shares_a := F_shares_a.ext E4
  have F_held_a := F_held_a.ext E4
  have F_size_a := F_size_a.ext E4
  have V_sa := V_sa.ext E4
  have Ex_sa := Ex_sa.ext E4
  have K4 := K3.ext E4
  have V_ha : AV Z h4 ha .int (1 : Int32) [(.int 0)] := A4
  have Ex_ha := B4
  refine g_putF hG X4 hx hZ hown (wd hw 13 rfl) Via.refl e4 F_held_a Ex_a (Or.inr ⟨(wd hw 14 rfl), rfl, hnm⟩) (wd hw 1 rfl) (v' := (.ref ha)) (ty := (.array .int)) (by decide) rfl rfl (hb hby d1_15) (pc' := 18) rfl ?_
  intro T5 h5 X5 e5 W5
  have Ex_a := Ex_a.wr W5
  have F_shares_a := F_shares_a.other W5 (Or.inr (slot_ne (Or.inr (wd hw 11 rfl)) (Or.inr (wd hw 14 rfl)) (by decide) (t := (.array .double)) (t' := (.array .int)) (by decide) (by decide)))
  have F_held_a := F_held_a.same W5
  have F_size_a := F_size_a.other W5 (Or.inr (slot_ne (Or.inl (wd hw 21 rfl)) (Or.inr (wd hw 14 rfl)) (by decide) (t := .int) (t' := (.array .int)) (by decide) (by decide)))
  have V_sa := V_sa.other W5 (Ne.symm ne_a_sa)
  have Ex_sa := Ex_sa.wr W5
  have V_ha := V_ha.other W5 (Ne.symm ne_a_ha)
  have Ex_ha := Ex_ha.wr W5
  have Zs := Nat.le_trans Zs (Wr.size W5)
  have NF5 := Fr.snoc X5 NF3 ga
  have K5 := K4.wr W5 (Or.inl (List.mem_of_getElem? (i := 0) rfl))
  exact e_ret0 hGe X5 hx hrt hlk (hb hby d1_18) e5 (by decide) (by decide) (⟨sa, ha, rfl, NF5, K5, sz_sa, sz_ha, ne_sa_ha, ⟨Ex_a, Ex_ha, F_shares_a, F_held_a, F_size_a, V_sa, V_ha⟩⟩)

def Q_rmSh1 (Z : State) (a sa ha : Addr) (sh : Int32 → UInt64) (hd : Int32 → Int32) (sz j : Int32) (xx : UInt64) (h0 : Heap) (n0 : Nat) (v : Option Value) (h : Heap) (L : List Loc) : Prop := v = some (.double xx) ∧ Fr n0 L ∧ h = h0
set_option maxRecDepth 65536 in
set_option maxHeartbeats 40000000 in
theorem rmSh1 (l : Launch) (Z : State) (a0 : Array Value) (hw : ∀ d ∈ tables_1, d.before a0 Z = true) (ws : List Jvm.Cond) (a sa ha : Addr) (sh : Int32 → UInt64) (hd : Int32 → Int32) (sz j : Int32) (xx : UInt64) (h0 : Heap) (n0 : Nat) (Zs : n0 ≤ h0.size) (NQ : NS1 Z h0 a sa ha sz sh hd) (DD : Dis n0 a sa ha) (ij : In1 j) (hxx : sh j = xx) :
    Con l (⟨"org/termsieve/mapping/Shares", "share", "(I)D"⟩ : MethodName) prog_78_method_5_code 2 (some .double) ws ({ frames := 0, cells := 0, slots := 0, locals := 0 } : Room) Z #[(.ref a), (.int j)] h0 ({ frames := 0, cells := 0, slots := 0, locals := 0 } : Room).cells ({ frames := 0, cells := 0, slots := 0, locals := 0 } : Room).slots (Q_rmSh1 Z a sa ha sh hd sz j xx h0 n0) := by
  refine Con.of (Ls := #[.val (.ref a), .val (.int j)]) (plainFor_of_name (by first | (simp [plainName, overriddenIn]; done) | decide +kernel)) (fun m => by first | (simp [entryFrame, mkF, argsToLocals, Value.category]; done) | rfl) ?_
  intro p e s m below meth c s₁ G hGe hG hx hby hml hown hnm hrt hlk hZ X0 e0
  have hown : s.vm.findClass "org/termsieve/mapping/Shares" = some m.cls := hown
  have hnm : meth.name = "share" := hnm
  have NF0 := Fr.nil n0
  obtain ⟨Ex_a, Ex_ha, F_shares_a, F_held_a, F_size_a, V_sa, V_ha⟩ := NQ
  obtain ⟨ga, gsa, gha, d1, d2, d3⟩ := DD
  refine g_aloadN hG X0 hx (hb hby d14_0) (pc' := 1) rfl rfl rfl ?_
  refine g_getF hG X0 hx hZ hown (wd hw 10 rfl) Via.refl e0 F_shares_a (hb hby d14_1) (pc' := 4) rfl ?_
  intro T1 X1 e1
  refine g_iloadN hG X1 hx (hb hby d14_4) (pc' := 5) rfl rfl ?_
  refine g_daload hG X1 hx hZ e1 V_sa (j := j) (v := (.double (sh j))) (in1_nn ij) (in1_atd ij rfl) (hb hby d14_5) (pc' := 6) rfl ?_
  exact e_retD hGe X1 hx hrt hlk (hb hby d14_6) e1 (by decide) (by decide) (⟨by rw [hxx], NF0, rfl⟩)

def Q_rmAt1_0 (Z : State) (a sa ha : Addr) (sh : Int32 → UInt64) (hd : Int32 → Int32) (sz kk : Int32) (vv xx : UInt64) (h0 : Heap) (n0 : Nat) (v : Option Value) (h : Heap) (L : List Loc) : Prop := v = some (.int 1) ∧ Fr n0 L ∧ h = h0
set_option maxRecDepth 65536 in
set_option maxHeartbeats 40000000 in
theorem rmAt1_0 (l : Launch) (Z : State) (a0 : Array Value) (hw : ∀ d ∈ tables_1, d.before a0 Z = true) (ws : List Jvm.Cond) (a sa ha : Addr) (sh : Int32 → UInt64) (hd : Int32 → Int32) (sz kk : Int32) (vv xx : UInt64) (h0 : Heap) (n0 : Nat) (Zs : n0 ≤ h0.size) (NQ : NS1 Z h0 a sa ha sz sh hd) (DD : Dis n0 a sa ha) (hxx : sh (0 : Int32) = xx) (hc : ((0 : Int32) = kk ∧ FP.dcmp xx vv = some .eq) ∨ (¬ (0 : Int32) = kk ∧ FP.dcmp xx 0 = some .eq)) :
    Con l (⟨"org/termsieve/mapping/SharesClearPinLaw", "at", "(Lorg/termsieve/mapping/Shares;IIID)Z"⟩ : MethodName) method_3_code 8 (some .boolean) ws ({ frames := 1, cells := 0, slots := 0, locals := 16 } : Room) Z #[(.ref a), (.int 0), (.int 1), (.int kk), (.double vv)] h0 ({ frames := 1, cells := 0, slots := 0, locals := 16 } : Room).cells ({ frames := 1, cells := 0, slots := 0, locals := 16 } : Room).slots (Q_rmAt1_0 Z a sa ha sh hd sz kk vv xx h0 n0) := by
  refine Con.of (Ls := #[.val (.ref a), .val (.int 0), .val (.int 1), .val (.int kk), .val (.double vv), .second, .unset, .unset]) (plainFor_of_name (by first | (simp [plainName, overriddenIn]; done) | decide +kernel)) (fun m => by first | (simp [entryFrame, mkF, argsToLocals, Value.category]; done) | rfl) ?_
  intro p e s m below meth c s₁ G hGe hG hx hby hml hown hnm hrt hlk hZ X0 e0
  have hown : s.vm.findClass "org/termsieve/mapping/SharesClearPinLaw" = some m.cls := hown
  have hnm : meth.name = "at" := hnm
  have NF0 := Fr.nil n0
  obtain ⟨Ex_a, Ex_ha, F_shares_a, F_held_a, F_size_a, V_sa, V_ha⟩ := NQ
  obtain ⟨ga, gsa, gha, d1, d2, d3⟩ := DD
  rcases hc with ⟨c1, c2⟩ | ⟨c1, c2⟩
  · skip
    refine g_iloadN hG X0 hx (hb hby d13_0) (pc' := 1) rfl rfl ?_
    refine g_iloadN hG X0 hx (hb hby d13_1) (pc' := 2) rfl rfl ?_
    refine g_icmpYes hG X0 hx (hb hby d13_2) (pc' := 7) (by decide) (by decide) (by decide) ?_
    refine g_iloadN hG X0 hx (hb hby d13_7) (pc' := 8) rfl rfl ?_
    refine g_iloadN hG X0 hx (hb hby d13_8) (pc' := 9) rfl rfl ?_
    refine g_icmpNo hG X0 hx (hb hby d13_9) (pc' := 12) ((teq c1).2) rfl ?_
    refine g_dload hG X0 hx (hb hby d13_12) (pc' := 14) rfl rfl ?_
    refine g_goto hG X0 hx (hb hby d13_14) (pc' := 18) (by decide) (by decide) ?_
    refine g_dstore hG X0 hx (hb hby d13_18) (pc' := 20) rfl (Ls' := #[.val (.ref a), .val (.int 0), .val (.int 1), .val (.int kk), .val (.double vv), .second, .val (.double vv), .second]) rfl ?_
    refine g_aloadN hG X0 hx (hb hby d13_20) (pc' := 21) rfl rfl rfl ?_
    refine g_iloadN hG X0 hx (hb hby d13_21) (pc' := 22) rfl rfl ?_
    refine g_callV hG X0 hx hZ (y := (⟨"org/termsieve/mapping/Shares", "share", "(I)D"⟩ : MethodName)) 0 hown (wd hw 73 rfl) (wd hw 74 rfl) (wd hw 76 rfl) (wd hw 75 rfl) (wd hw 2 rfl) (wd hw 77 rfl) (by decide) (rmSh1 l Z a0 hw [] a sa ha sh hd sz (0 : Int32) xx h0 n0 Zs ⟨Ex_a, Ex_ha, F_shares_a, F_held_a, F_size_a, V_sa, V_ha⟩ ⟨ga, gsa, gha, d1, d2, d3⟩ in1_0 hxx) (by decide) (by decide) (by rw [hml]; rfl) pd_6 rfl (argsL := [(.int 0)]) (rest := []) rfl rfl (Nat.le_of_eq rfl) (hb hby d13_22) e0 Ex_a (by decide) (by decide) (pc' := 25) rfl ?_
    intro T1 rv1 L1 X1 hQ1
    obtain ⟨rfl, Nq1, eh1⟩ := hQ1
    have NF1 := Fr.app NF0 Nq1
    show G (T1.setTop (mkF m 25 _ [(.double xx)]))
    refine g_dload hG X1 hx (hb hby d13_25) (pc' := 27) rfl rfl ?_
    obtain ⟨v27, q27⟩ : ∃ zz : Int32, cmpValue (FP.dcmp xx vv) .l = zz := ⟨_, rfl⟩
    refine g_dcmp hG X1 hx (hb hby d13_27) (pc' := 28) rfl q27 ?_
    refine g_ifNo hG X1 hx (hb hby d13_28) (pc' := 31) (by rw [← q27, c2]; rfl) rfl ?_
    refine g_iconst hG X1 hx (hb hby d13_31) (pc' := 32) rfl (v := (1 : Int32)) rfl ?_
    refine g_goto hG X1 hx (hb hby d13_32) (pc' := 36) (by decide) (by decide) ?_
    exact e_retZ hGe X1 hx hrt hlk (hb hby d13_36) (Or.inr rfl) eh1 (by decide) (by decide) (⟨rfl, NF1, rfl⟩)
  · skip
    refine g_iloadN hG X0 hx (hb hby d13_0) (pc' := 1) rfl rfl ?_
    refine g_iloadN hG X0 hx (hb hby d13_1) (pc' := 2) rfl rfl ?_
    refine g_icmpYes hG X0 hx (hb hby d13_2) (pc' := 7) (by decide) (by decide) (by decide) ?_
    refine g_iloadN hG X0 hx (hb hby d13_7) (pc' := 8) rfl rfl ?_
    refine g_iloadN hG X0 hx (hb hby d13_8) (pc' := 9) rfl rfl ?_
    refine g_icmpYes hG X0 hx (hb hby d13_9) (pc' := 17) ((feq c1).2) (by decide) (by decide) ?_
    refine g_dconst0 hG X0 hx (hb hby d13_17) (pc' := 18) rfl (v := (0 : UInt64)) rfl ?_
    refine g_dstore hG X0 hx (hb hby d13_18) (pc' := 20) rfl (Ls' := #[.val (.ref a), .val (.int 0), .val (.int 1), .val (.int kk), .val (.double vv), .second, .val (.double 0), .second]) rfl ?_
    refine g_aloadN hG X0 hx (hb hby d13_20) (pc' := 21) rfl rfl rfl ?_
    refine g_iloadN hG X0 hx (hb hby d13_21) (pc' := 22) rfl rfl ?_
    refine g_callV hG X0 hx hZ (y := (⟨"org/termsieve/mapping/Shares", "share", "(I)D"⟩ : MethodName)) 0 hown (wd hw 73 rfl) (wd hw 74 rfl) (wd hw 76 rfl) (wd hw 75 rfl) (wd hw 2 rfl) (wd hw 77 rfl) (by decide) (rmSh1 l Z a0 hw [] a sa ha sh hd sz (0 : Int32) xx h0 n0 Zs ⟨Ex_a, Ex_ha, F_shares_a, F_held_a, F_size_a, V_sa, V_ha⟩ ⟨ga, gsa, gha, d1, d2, d3⟩ in1_0 hxx) (by decide) (by decide) (by rw [hml]; rfl) pd_6 rfl (argsL := [(.int 0)]) (rest := []) rfl rfl (Nat.le_of_eq rfl) (hb hby d13_22) e0 Ex_a (by decide) (by decide) (pc' := 25) rfl ?_
    intro T2 rv2 L2 X2 hQ2
    obtain ⟨rfl, Nq2, eh2⟩ := hQ2
    have NF2 := Fr.app NF0 Nq2
    show G (T2.setTop (mkF m 25 _ [(.double xx)]))
    refine g_dload hG X2 hx (hb hby d13_25) (pc' := 27) rfl rfl ?_
    obtain ⟨v27, q27⟩ : ∃ zz : Int32, cmpValue (FP.dcmp xx (0 : UInt64)) .l = zz := ⟨_, rfl⟩
    refine g_dcmp hG X2 hx (hb hby d13_27) (pc' := 28) rfl q27 ?_
    refine g_ifNo hG X2 hx (hb hby d13_28) (pc' := 31) (by rw [← q27, c2]; rfl) rfl ?_
    refine g_iconst hG X2 hx (hb hby d13_31) (pc' := 32) rfl (v := (1 : Int32)) rfl ?_
    refine g_goto hG X2 hx (hb hby d13_32) (pc' := 36) (by decide) (by decide) ?_
    exact e_retZ hGe X2 hx hrt hlk (hb hby d13_36) (Or.inr rfl) eh2 (by decide) (by decide) (⟨rfl, NF2, rfl⟩)

def Q_rmAt1_1 (Z : State) (a : Addr) (kk : Int32) (vv : UInt64) (h0 : Heap) (n0 : Nat) (v : Option Value) (h : Heap) (L : List Loc) : Prop := v = some (.int 1) ∧ Fr n0 L ∧ h = h0
set_option maxRecDepth 65536 in
set_option maxHeartbeats 40000000 in
theorem rmAt1_1 (l : Launch) (Z : State) (a0 : Array Value) (hw : ∀ d ∈ tables_1, d.before a0 Z = true) (ws : List Jvm.Cond) (a : Addr) (kk : Int32) (vv : UInt64) (h0 : Heap) (n0 : Nat) (Zs : n0 ≤ h0.size)  :
    Con l (⟨"org/termsieve/mapping/SharesClearPinLaw", "at", "(Lorg/termsieve/mapping/Shares;IIID)Z"⟩ : MethodName) method_3_code 8 (some .boolean) ws ({ frames := 1, cells := 0, slots := 0, locals := 16 } : Room) Z #[(.ref a), (.int 1), (.int 1), (.int kk), (.double vv)] h0 ({ frames := 1, cells := 0, slots := 0, locals := 16 } : Room).cells ({ frames := 1, cells := 0, slots := 0, locals := 16 } : Room).slots (Q_rmAt1_1 Z a kk vv h0 n0) := by
  refine Con.of (Ls := #[.val (.ref a), .val (.int 1), .val (.int 1), .val (.int kk), .val (.double vv), .second, .unset, .unset]) (plainFor_of_name (by first | (simp [plainName, overriddenIn]; done) | decide +kernel)) (fun m => by first | (simp [entryFrame, mkF, argsToLocals, Value.category]; done) | rfl) ?_
  intro p e s m below meth c s₁ G hGe hG hx hby hml hown hnm hrt hlk hZ X0 e0
  have hown : s.vm.findClass "org/termsieve/mapping/SharesClearPinLaw" = some m.cls := hown
  have hnm : meth.name = "at" := hnm
  have NF0 := Fr.nil n0
  refine g_iloadN hG X0 hx (hb hby d13_0) (pc' := 1) rfl rfl ?_
  refine g_iloadN hG X0 hx (hb hby d13_1) (pc' := 2) rfl rfl ?_
  refine g_icmpNo hG X0 hx (hb hby d13_2) (pc' := 5) (by decide) rfl ?_
  refine g_iconst hG X0 hx (hb hby d13_5) (pc' := 6) rfl (v := (1 : Int32)) rfl ?_
  exact e_retZ hGe X0 hx hrt hlk (hb hby d13_6) (Or.inr rfl) e0 (by decide) (by decide) (⟨rfl, NF0, rfl⟩)

def Q_rmAt1_2 (Z : State) (a : Addr) (kk : Int32) (vv : UInt64) (h0 : Heap) (n0 : Nat) (v : Option Value) (h : Heap) (L : List Loc) : Prop := v = some (.int 1) ∧ Fr n0 L ∧ h = h0
set_option maxRecDepth 65536 in
set_option maxHeartbeats 40000000 in
theorem rmAt1_2 (l : Launch) (Z : State) (a0 : Array Value) (hw : ∀ d ∈ tables_1, d.before a0 Z = true) (ws : List Jvm.Cond) (a : Addr) (kk : Int32) (vv : UInt64) (h0 : Heap) (n0 : Nat) (Zs : n0 ≤ h0.size)  :
    Con l (⟨"org/termsieve/mapping/SharesClearPinLaw", "at", "(Lorg/termsieve/mapping/Shares;IIID)Z"⟩ : MethodName) method_3_code 8 (some .boolean) ws ({ frames := 1, cells := 0, slots := 0, locals := 16 } : Room) Z #[(.ref a), (.int 2), (.int 1), (.int kk), (.double vv)] h0 ({ frames := 1, cells := 0, slots := 0, locals := 16 } : Room).cells ({ frames := 1, cells := 0, slots := 0, locals := 16 } : Room).slots (Q_rmAt1_2 Z a kk vv h0 n0) := by
  refine Con.of (Ls := #[.val (.ref a), .val (.int 2), .val (.int 1), .val (.int kk), .val (.double vv), .second, .unset, .unset]) (plainFor_of_name (by first | (simp [plainName, overriddenIn]; done) | decide +kernel)) (fun m => by first | (simp [entryFrame, mkF, argsToLocals, Value.category]; done) | rfl) ?_
  intro p e s m below meth c s₁ G hGe hG hx hby hml hown hnm hrt hlk hZ X0 e0
  have hown : s.vm.findClass "org/termsieve/mapping/SharesClearPinLaw" = some m.cls := hown
  have hnm : meth.name = "at" := hnm
  have NF0 := Fr.nil n0
  refine g_iloadN hG X0 hx (hb hby d13_0) (pc' := 1) rfl rfl ?_
  refine g_iloadN hG X0 hx (hb hby d13_1) (pc' := 2) rfl rfl ?_
  refine g_icmpNo hG X0 hx (hb hby d13_2) (pc' := 5) (by decide) rfl ?_
  refine g_iconst hG X0 hx (hb hby d13_5) (pc' := 6) rfl (v := (1 : Int32)) rfl ?_
  exact e_retZ hGe X0 hx hrt hlk (hb hby d13_6) (Or.inr rfl) e0 (by decide) (by decide) (⟨rfl, NF0, rfl⟩)

def Q_rmAt1_3 (Z : State) (a : Addr) (kk : Int32) (vv : UInt64) (h0 : Heap) (n0 : Nat) (v : Option Value) (h : Heap) (L : List Loc) : Prop := v = some (.int 1) ∧ Fr n0 L ∧ h = h0
set_option maxRecDepth 65536 in
set_option maxHeartbeats 40000000 in
theorem rmAt1_3 (l : Launch) (Z : State) (a0 : Array Value) (hw : ∀ d ∈ tables_1, d.before a0 Z = true) (ws : List Jvm.Cond) (a : Addr) (kk : Int32) (vv : UInt64) (h0 : Heap) (n0 : Nat) (Zs : n0 ≤ h0.size)  :
    Con l (⟨"org/termsieve/mapping/SharesClearPinLaw", "at", "(Lorg/termsieve/mapping/Shares;IIID)Z"⟩ : MethodName) method_3_code 8 (some .boolean) ws ({ frames := 1, cells := 0, slots := 0, locals := 16 } : Room) Z #[(.ref a), (.int 3), (.int 1), (.int kk), (.double vv)] h0 ({ frames := 1, cells := 0, slots := 0, locals := 16 } : Room).cells ({ frames := 1, cells := 0, slots := 0, locals := 16 } : Room).slots (Q_rmAt1_3 Z a kk vv h0 n0) := by
  refine Con.of (Ls := #[.val (.ref a), .val (.int 3), .val (.int 1), .val (.int kk), .val (.double vv), .second, .unset, .unset]) (plainFor_of_name (by first | (simp [plainName, overriddenIn]; done) | decide +kernel)) (fun m => by first | (simp [entryFrame, mkF, argsToLocals, Value.category]; done) | rfl) ?_
  intro p e s m below meth c s₁ G hGe hG hx hby hml hown hnm hrt hlk hZ X0 e0
  have hown : s.vm.findClass "org/termsieve/mapping/SharesClearPinLaw" = some m.cls := hown
  have hnm : meth.name = "at" := hnm
  have NF0 := Fr.nil n0
  refine g_iloadN hG X0 hx (hb hby d13_0) (pc' := 1) rfl rfl ?_
  refine g_iloadN hG X0 hx (hb hby d13_1) (pc' := 2) rfl rfl ?_
  refine g_icmpNo hG X0 hx (hb hby d13_2) (pc' := 5) (by decide) rfl ?_
  refine g_iconst hG X0 hx (hb hby d13_5) (pc' := 6) rfl (v := (1 : Int32)) rfl ?_
  exact e_retZ hGe X0 hx hrt hlk (hb hby d13_6) (Or.inr rfl) e0 (by decide) (by decide) (⟨rfl, NF0, rfl⟩)

def Q_rmRa1_0n (Z : State) (a sa ha : Addr) (sh : Int32 → UInt64) (hd : Int32 → Int32) (kk : Int32) (vv mm : UInt64) (h0 : Heap) (n0 : Nat) (v : Option Value) (h : Heap) (L : List Loc) : Prop := v = none ∧ Fr n0 L ∧ Keep h0 h [a, sa, ha] ∧ NS1 Z h a sa ha (1 : Int32) (upd sh kk mm) (upd hd (0 : Int32) kk)
set_option maxRecDepth 65536 in
set_option maxHeartbeats 40000000 in
theorem rmRa1_0n (l : Launch) (Z : State) (a0 : Array Value) (hw : ∀ d ∈ tables_1, d.before a0 Z = true) (ws : List Jvm.Cond) (a sa ha : Addr) (sh : Int32 → UInt64) (hd : Int32 → Int32) (kk : Int32) (vv mm : UInt64) (h0 : Heap) (n0 : Nat) (Zs : n0 ≤ h0.size) (NQ : NS1 Z h0 a sa ha (0 : Int32) sh hd) (DD : Dis n0 a sa ha) (ik : In1 kk) (nv : Jvm.Free.Fl.NoNaN64 vv) (hm : Jvm.Native.java_lang_Math.nans.pick64 true 0 vv = mm) (hxx : sh kk = 0) :
    Con l (⟨"org/termsieve/mapping/Shares", "raise", "(ID)V"⟩ : MethodName) prog_78_method_2_code 4 none ws ({ frames := 1, cells := 0, slots := 0, locals := 40 } : Room) Z #[(.ref a), (.int kk), (.double vv)] h0 ({ frames := 1, cells := 0, slots := 0, locals := 40 } : Room).cells ({ frames := 1, cells := 0, slots := 0, locals := 40 } : Room).slots (Q_rmRa1_0n Z a sa ha sh hd kk vv mm h0 n0) := by
  refine Con.of (Ls := #[.val (.ref a), .val (.int kk), .val (.double vv), .second]) (plainFor_of_name (by first | (simp [plainName, overriddenIn]; done) | decide +kernel)) (fun m => by first | (simp [entryFrame, mkF, argsToLocals, Value.category]; done) | rfl) ?_
  intro p e s m below meth c s₁ G hGe hG hx hby hml hown hnm hrt hlk hZ X0 e0
  have hown : s.vm.findClass "org/termsieve/mapping/Shares" = some m.cls := hown
  have hnm : meth.name = "raise" := hnm
  have NF0 := Fr.nil n0
  obtain ⟨Ex_a, Ex_ha, F_shares_a, F_held_a, F_size_a, V_sa, V_ha⟩ := NQ
  obtain ⟨ga, gsa, gha, d1, d2, d3⟩ := DD
  have K0 := Keep.refl h0 [a, sa, ha]
  subst hm
  refine g_aloadN hG X0 hx (hb hby d3_0) (pc' := 1) rfl rfl rfl ?_
  refine g_getF hG X0 hx hZ hown (wd hw 10 rfl) Via.refl e0 F_shares_a (hb hby d3_1) (pc' := 4) rfl ?_
  intro T1 X1 e1
  refine g_iloadN hG X1 hx (hb hby d3_4) (pc' := 5) rfl rfl ?_
  refine g_daload hG X1 hx hZ e1 V_sa (j := kk) (v := (.double 0)) (in1_nn ik) (in1_atd ik hxx) (hb hby d3_5) (pc' := 6) rfl ?_
  refine g_dconst0 hG X1 hx (hb hby d3_6) (pc' := 7) rfl (v := (0 : UInt64)) rfl ?_
  obtain ⟨v7, q7⟩ : ∃ zz : Int32, cmpValue (FP.dcmp (0 : UInt64) (0 : UInt64)) .l = zz := ⟨_, rfl⟩
  refine g_dcmp hG X1 hx (hb hby d3_7) (pc' := 8) rfl q7 ?_
  refine g_ifNo hG X1 hx (hb hby d3_8) (pc' := 11) (by rw [← q7, own_zz]; rfl) rfl ?_
  refine g_aloadN hG X1 hx (hb hby d3_11) (pc' := 12) rfl rfl rfl ?_
  refine g_getF hG X1 hx hZ hown (wd hw 13 rfl) Via.refl e1 F_held_a (hb hby d3_12) (pc' := 15) rfl ?_
  intro T2 X2 e2
  refine g_aloadN hG X2 hx (hb hby d3_15) (pc' := 16) rfl rfl rfl ?_
  refine g_dup hG X2 hx (hb hby d3_16) (pc' := 17) rfl rfl ?_
  refine g_getF hG X2 hx hZ hown (wd hw 20 rfl) Via.refl e2 F_size_a (hb hby d3_17) (pc' := 20) rfl ?_
  intro T3 X3 e3
  refine g_dupX1 hG X3 hx (hb hby d3_20) (pc' := 21) rfl rfl rfl ?_
  refine g_iconst hG X3 hx (hb hby d3_21) (pc' := 22) rfl (v := (1 : Int32)) rfl ?_
  refine g_iadd hG X3 hx (hb hby d3_22) (pc' := 23) rfl (v := (1 : Int32)) (by decide) ?_
  refine g_putF hG X3 hx hZ hown (wd hw 20 rfl) Via.refl e3 F_size_a Ex_a (Or.inl (wd hw 21 rfl)) (wd hw 1 rfl) (v' := (.int 1)) (ty := .int) (by decide) rfl rfl (hb hby d3_23) (pc' := 26) rfl ?_
  intro T4 h4 X4 e4 W4
  have Ex_a := Ex_a.wr W4
  have Ex_ha := Ex_ha.wr W4
  have F_shares_a := F_shares_a.other W4 (Or.inr (slot_ne (Or.inr (wd hw 11 rfl)) (Or.inl (wd hw 21 rfl)) (by decide) (t := (.array .double)) (t' := .int) (by decide) (by decide)))
  have F_held_a := F_held_a.other W4 (Or.inr (slot_ne (Or.inr (wd hw 14 rfl)) (Or.inl (wd hw 21 rfl)) (by decide) (t := (.array .int)) (t' := .int) (by decide) (by decide)))
  have F_size_a := F_size_a.same W4
  have V_sa := V_sa.other W4 (Ne.symm d1)
  have V_ha := V_ha.other W4 (Ne.symm d2)
  have Zs := Nat.le_trans Zs (Wr.size W4)
  have NF4 := Fr.snoc X4 NF0 ga
  have K4 := K0.wr W4 (Or.inl (List.mem_of_getElem? (i := 0) rfl))
  refine g_iloadN hG X4 hx (hb hby d3_26) (pc' := 27) rfl rfl ?_
  refine g_iastore hG X4 hx hZ e4 V_ha (j := (0 : Int32)) (in1_nn in1_0) (in1_len in1_0) (hb hby d3_27) (pc' := 28) rfl ?_
  intro T5 h5 X5 e5 W5 Vn5
  rw [in1_set in1_0] at Vn5
  have V_ha : AV Z h5 ha .int (1 : Int32) (fn1 (upd hd (0 : Int32) kk)) := Vn5
  have Ex_a := Ex_a.wr W5
  have Ex_ha := Ex_ha.wr W5
  have F_shares_a := F_shares_a.other W5 (Or.inl d2)
  have F_held_a := F_held_a.other W5 (Or.inl d2)
  have F_size_a := F_size_a.other W5 (Or.inl d2)
  have V_sa := V_sa.other W5 d3
  have Zs := Nat.le_trans Zs (Wr.size W5)
  have NF5 := Fr.snoc X5 NF4 gha
  have K5 := K4.wr W5 (Or.inl (List.mem_of_getElem? (i := 2) rfl))
  refine g_aloadN hG X5 hx (hb hby d3_28) (pc' := 29) rfl rfl rfl ?_
  refine g_getF hG X5 hx hZ hown (wd hw 10 rfl) Via.refl e5 F_shares_a (hb hby d3_29) (pc' := 32) rfl ?_
  intro T6 X6 e6
  refine g_iloadN hG X6 hx (hb hby d3_32) (pc' := 33) rfl rfl ?_
  refine g_aloadN hG X6 hx (hb hby d3_33) (pc' := 34) rfl rfl rfl ?_
  refine g_getF hG X6 hx hZ hown (wd hw 10 rfl) Via.refl e6 F_shares_a (hb hby d3_34) (pc' := 37) rfl ?_
  intro T7 X7 e7
  refine g_iloadN hG X7 hx (hb hby d3_37) (pc' := 38) rfl rfl ?_
  refine g_daload hG X7 hx hZ e7 V_sa (j := kk) (v := (.double 0)) (in1_nn ik) (in1_atd ik hxx) (hb hby d3_38) (pc' := 39) rfl ?_
  refine g_dloadN hG X7 hx (hb hby d3_39) (pc' := 40) rfl rfl ?_
  refine g_natS hG X7 hx hZ (y := (⟨"java/lang/Math", "max", "(DD)D"⟩ : MethodName)) (val := (.double (Jvm.Native.java_lang_Math.nans.pick64 true (0 : UInt64) vv))) 2 hown (wd hw 22 rfl) (wd hw 23 rfl) (wd hw 24 rfl) (wd hw 25 rfl) (by decide) (fun hc => Jvm.Free.Fl.Abs.maxD_pays (0 : UInt64) vv hc (by decide) (by decide)) (by rw [hml]; rfl) pd_7 rfl (argsL := [(.double 0), (.double vv)]) (rest := [(.int kk), (.ref sa)]) rfl (Nat.le_of_eq rfl) (hb hby d3_40) e7 (by decide) (by decide) (⟨rfl, own_z.noNaN, nv⟩) (pc' := 43) rfl ?_
  intro T8 X8 e8
  show G (T8.setTop (mkF m 43 _ [(.double (Jvm.Native.java_lang_Math.nans.pick64 true (0 : UInt64) vv)), (.int kk), (.ref sa)]))
  refine g_dastore hG X8 hx hZ e8 V_sa (j := kk) (in1_nn ik) (in1_lend ik) (hb hby d3_43) (pc' := 44) rfl ?_
  intro T9 h9 X9 e9 W9 Vn9
  rw [in1_setd ik] at Vn9
  have V_sa : AV Z h9 sa .double (1 : Int32) (fd1 (upd sh kk (Jvm.Native.java_lang_Math.nans.pick64 true (0 : UInt64) vv))) := Vn9
  have Ex_a := Ex_a.wr W9
  have Ex_ha := Ex_ha.wr W9
  have F_shares_a := F_shares_a.other W9 (Or.inl d1)
  have F_held_a := F_held_a.other W9 (Or.inl d1)
  have F_size_a := F_size_a.other W9 (Or.inl d1)
  have V_ha := V_ha.other W9 (Ne.symm d3)
  have Zs := Nat.le_trans Zs (Wr.size W9)
  have NF9 := Fr.snoc X9 NF5 gsa
  have K9 := K5.wr W9 (Or.inl (List.mem_of_getElem? (i := 1) rfl))
  exact e_ret0 hGe X9 hx hrt hlk (hb hby d3_44) e9 (by decide) (by decide) (⟨rfl, NF9, K9, Ex_a, Ex_ha, F_shares_a, F_held_a, F_size_a, V_sa, V_ha⟩)

def Q_rmCl1_0 (Z : State) (a sa ha : Addr) (sh : Int32 → UInt64) (hd : Int32 → Int32) (h0 : Heap) (n0 : Nat) (v : Option Value) (h : Heap) (L : List Loc) : Prop := v = none ∧ Fr n0 L ∧ Keep h0 h [a, sa, ha] ∧ NS1 Z h a sa ha (0 : Int32) sh hd
set_option maxRecDepth 65536 in
set_option maxHeartbeats 40000000 in
theorem rmCl1_0 (l : Launch) (Z : State) (a0 : Array Value) (hw : ∀ d ∈ tables_1, d.before a0 Z = true) (ws : List Jvm.Cond) (a sa ha : Addr) (sh : Int32 → UInt64) (hd : Int32 → Int32) (h0 : Heap) (n0 : Nat) (Zs : n0 ≤ h0.size) (NQ : NS1 Z h0 a sa ha (0 : Int32) sh hd) (DD : Dis n0 a sa ha) :
    Con l (⟨"org/termsieve/mapping/Shares", "clear", "()V"⟩ : MethodName) prog_78_method_4_code 2 none ws ({ frames := 0, cells := 0, slots := 0, locals := 0 } : Room) Z #[(.ref a)] h0 ({ frames := 0, cells := 0, slots := 0, locals := 0 } : Room).cells ({ frames := 0, cells := 0, slots := 0, locals := 0 } : Room).slots (Q_rmCl1_0 Z a sa ha sh hd  h0 n0) := by
  refine Con.of (Ls := #[.val (.ref a), .unset]) (plainFor_of_name (by first | (simp [plainName, overriddenIn]; done) | decide +kernel)) (fun m => by first | (simp [entryFrame, mkF, argsToLocals, Value.category]; done) | rfl) ?_
  intro p e s m below meth c s₁ G hGe hG hx hby hml hown hnm hrt hlk hZ X0 e0
  have hown : s.vm.findClass "org/termsieve/mapping/Shares" = some m.cls := hown
  have hnm : meth.name = "clear" := hnm
  have NF0 := Fr.nil n0
  obtain ⟨Ex_a, Ex_ha, F_shares_a, F_held_a, F_size_a, V_sa, V_ha⟩ := NQ
  obtain ⟨ga, gsa, gha, d1, d2, d3⟩ := DD
  have K0 := Keep.refl h0 [a, sa, ha]
  refine g_iconst hG X0 hx (hb hby d5_0) (pc' := 1) rfl (v := (0 : Int32)) rfl ?_
  refine g_istoreN hG X0 hx (hb hby d5_1) (pc' := 2) rfl (Ls' := #[.val (.ref a), .val (.int 0)]) rfl ?_
  refine g_iloadN hG X0 hx (hb hby d5_2) (pc' := 3) rfl rfl ?_
  refine g_aloadN hG X0 hx (hb hby d5_3) (pc' := 4) rfl rfl rfl ?_
  refine g_getF hG X0 hx hZ hown (wd hw 20 rfl) Via.refl e0 F_size_a (hb hby d5_4) (pc' := 7) rfl ?_
  intro T1 X1 e1
  refine g_icmpYes hG X1 hx (hb hby d5_7) (pc' := 28) (by decide) (by decide) (by decide) ?_
  refine g_aloadN hG X1 hx (hb hby d5_28) (pc' := 29) rfl rfl rfl ?_
  refine g_iconst hG X1 hx (hb hby d5_29) (pc' := 30) rfl (v := (0 : Int32)) rfl ?_
  refine g_putF hG X1 hx hZ hown (wd hw 20 rfl) Via.refl e1 F_size_a Ex_a (Or.inl (wd hw 21 rfl)) (wd hw 1 rfl) (v' := (.int 0)) (ty := .int) (by decide) rfl rfl (hb hby d5_30) (pc' := 33) rfl ?_
  intro T2 h2 X2 e2 W2
  have Ex_a := Ex_a.wr W2
  have Ex_ha := Ex_ha.wr W2
  have F_shares_a := F_shares_a.other W2 (Or.inr (slot_ne (Or.inr (wd hw 11 rfl)) (Or.inl (wd hw 21 rfl)) (by decide) (t := (.array .double)) (t' := .int) (by decide) (by decide)))
  have F_held_a := F_held_a.other W2 (Or.inr (slot_ne (Or.inr (wd hw 14 rfl)) (Or.inl (wd hw 21 rfl)) (by decide) (t := (.array .int)) (t' := .int) (by decide) (by decide)))
  have F_size_a := F_size_a.same W2
  have V_sa := V_sa.other W2 (Ne.symm d1)
  have V_ha := V_ha.other W2 (Ne.symm d2)
  have Zs := Nat.le_trans Zs (Wr.size W2)
  have NF2 := Fr.snoc X2 NF0 ga
  have K2 := K0.wr W2 (Or.inl (List.mem_of_getElem? (i := 0) rfl))
  exact e_ret0 hGe X2 hx hrt hlk (hb hby d5_33) e2 (by decide) (by decide) (⟨rfl, NF2, K2, Ex_a, Ex_ha, F_shares_a, F_held_a, F_size_a, V_sa, V_ha⟩)

def Q_rmRa1_1o (Z : State) (a sa ha : Addr) (sh : Int32 → UInt64) (hd : Int32 → Int32) (kk : Int32) (vv mm xx : UInt64) (h0 : Heap) (n0 : Nat) (v : Option Value) (h : Heap) (L : List Loc) : Prop := v = none ∧ Fr n0 L ∧ Keep h0 h [a, sa, ha] ∧ NS1 Z h a sa ha (1 : Int32) (upd sh kk mm) hd
set_option maxRecDepth 65536 in
set_option maxHeartbeats 40000000 in
theorem rmRa1_1o (l : Launch) (Z : State) (a0 : Array Value) (hw : ∀ d ∈ tables_1, d.before a0 Z = true) (ws : List Jvm.Cond) (a sa ha : Addr) (sh : Int32 → UInt64) (hd : Int32 → Int32) (kk : Int32) (vv mm xx : UInt64) (h0 : Heap) (n0 : Nat) (Zs : n0 ≤ h0.size) (NQ : NS1 Z h0 a sa ha (1 : Int32) sh hd) (DD : Dis n0 a sa ha) (ik : In1 kk) (nv : Jvm.Free.Fl.NoNaN64 vv) (hm : Jvm.Native.java_lang_Math.nans.pick64 true xx vv = mm) (hxx : sh kk = xx) (nx : Jvm.Free.Fl.NoNaN64 xx) (gx : FP.dcmp xx 0 = some .gt) :
    Con l (⟨"org/termsieve/mapping/Shares", "raise", "(ID)V"⟩ : MethodName) prog_78_method_2_code 4 none ws ({ frames := 1, cells := 0, slots := 0, locals := 40 } : Room) Z #[(.ref a), (.int kk), (.double vv)] h0 ({ frames := 1, cells := 0, slots := 0, locals := 40 } : Room).cells ({ frames := 1, cells := 0, slots := 0, locals := 40 } : Room).slots (Q_rmRa1_1o Z a sa ha sh hd kk vv mm xx h0 n0) := by
  refine Con.of (Ls := #[.val (.ref a), .val (.int kk), .val (.double vv), .second]) (plainFor_of_name (by first | (simp [plainName, overriddenIn]; done) | decide +kernel)) (fun m => by first | (simp [entryFrame, mkF, argsToLocals, Value.category]; done) | rfl) ?_
  intro p e s m below meth c s₁ G hGe hG hx hby hml hown hnm hrt hlk hZ X0 e0
  have hown : s.vm.findClass "org/termsieve/mapping/Shares" = some m.cls := hown
  have hnm : meth.name = "raise" := hnm
  have NF0 := Fr.nil n0
  obtain ⟨Ex_a, Ex_ha, F_shares_a, F_held_a, F_size_a, V_sa, V_ha⟩ := NQ
  obtain ⟨ga, gsa, gha, d1, d2, d3⟩ := DD
  have K0 := Keep.refl h0 [a, sa, ha]
  subst hm
  refine g_aloadN hG X0 hx (hb hby d3_0) (pc' := 1) rfl rfl rfl ?_
  refine g_getF hG X0 hx hZ hown (wd hw 10 rfl) Via.refl e0 F_shares_a (hb hby d3_1) (pc' := 4) rfl ?_
  intro T1 X1 e1
  refine g_iloadN hG X1 hx (hb hby d3_4) (pc' := 5) rfl rfl ?_
  refine g_daload hG X1 hx hZ e1 V_sa (j := kk) (v := (.double xx)) (in1_nn ik) (in1_atd ik hxx) (hb hby d3_5) (pc' := 6) rfl ?_
  refine g_dconst0 hG X1 hx (hb hby d3_6) (pc' := 7) rfl (v := (0 : UInt64)) rfl ?_
  obtain ⟨v7, q7⟩ : ∃ zz : Int32, cmpValue (FP.dcmp xx (0 : UInt64)) .l = zz := ⟨_, rfl⟩
  refine g_dcmp hG X1 hx (hb hby d3_7) (pc' := 8) rfl q7 ?_
  refine g_ifYes hG X1 hx (hb hby d3_8) (pc' := 28) (by rw [← q7, gx]; rfl) (by decide) (by decide) ?_
  refine g_aloadN hG X1 hx (hb hby d3_28) (pc' := 29) rfl rfl rfl ?_
  refine g_getF hG X1 hx hZ hown (wd hw 10 rfl) Via.refl e1 F_shares_a (hb hby d3_29) (pc' := 32) rfl ?_
  intro T2 X2 e2
  refine g_iloadN hG X2 hx (hb hby d3_32) (pc' := 33) rfl rfl ?_
  refine g_aloadN hG X2 hx (hb hby d3_33) (pc' := 34) rfl rfl rfl ?_
  refine g_getF hG X2 hx hZ hown (wd hw 10 rfl) Via.refl e2 F_shares_a (hb hby d3_34) (pc' := 37) rfl ?_
  intro T3 X3 e3
  refine g_iloadN hG X3 hx (hb hby d3_37) (pc' := 38) rfl rfl ?_
  refine g_daload hG X3 hx hZ e3 V_sa (j := kk) (v := (.double xx)) (in1_nn ik) (in1_atd ik hxx) (hb hby d3_38) (pc' := 39) rfl ?_
  refine g_dloadN hG X3 hx (hb hby d3_39) (pc' := 40) rfl rfl ?_
  refine g_natS hG X3 hx hZ (y := (⟨"java/lang/Math", "max", "(DD)D"⟩ : MethodName)) (val := (.double (Jvm.Native.java_lang_Math.nans.pick64 true xx vv))) 2 hown (wd hw 22 rfl) (wd hw 23 rfl) (wd hw 24 rfl) (wd hw 25 rfl) (by decide) (fun hc => Jvm.Free.Fl.Abs.maxD_pays xx vv hc (by decide) (by decide)) (by rw [hml]; rfl) pd_7 rfl (argsL := [(.double xx), (.double vv)]) (rest := [(.int kk), (.ref sa)]) rfl (Nat.le_of_eq rfl) (hb hby d3_40) e3 (by decide) (by decide) (⟨rfl, nx, nv⟩) (pc' := 43) rfl ?_
  intro T4 X4 e4
  show G (T4.setTop (mkF m 43 _ [(.double (Jvm.Native.java_lang_Math.nans.pick64 true xx vv)), (.int kk), (.ref sa)]))
  refine g_dastore hG X4 hx hZ e4 V_sa (j := kk) (in1_nn ik) (in1_lend ik) (hb hby d3_43) (pc' := 44) rfl ?_
  intro T5 h5 X5 e5 W5 Vn5
  rw [in1_setd ik] at Vn5
  have V_sa : AV Z h5 sa .double (1 : Int32) (fd1 (upd sh kk (Jvm.Native.java_lang_Math.nans.pick64 true xx vv))) := Vn5
  have Ex_a := Ex_a.wr W5
  have Ex_ha := Ex_ha.wr W5
  have F_shares_a := F_shares_a.other W5 (Or.inl d1)
  have F_held_a := F_held_a.other W5 (Or.inl d1)
  have F_size_a := F_size_a.other W5 (Or.inl d1)
  have V_ha := V_ha.other W5 (Ne.symm d3)
  have Zs := Nat.le_trans Zs (Wr.size W5)
  have NF5 := Fr.snoc X5 NF0 gsa
  have K5 := K0.wr W5 (Or.inl (List.mem_of_getElem? (i := 1) rfl))
  exact e_ret0 hGe X5 hx hrt hlk (hb hby d3_44) e5 (by decide) (by decide) (⟨rfl, NF5, K5, Ex_a, Ex_ha, F_shares_a, F_held_a, F_size_a, V_sa, V_ha⟩)

def Q_rmCl1_1 (Z : State) (a sa ha : Addr) (sh : Int32 → UInt64) (hd : Int32 → Int32) (k0 : Int32) (h0 : Heap) (n0 : Nat) (v : Option Value) (h : Heap) (L : List Loc) : Prop := v = none ∧ Fr n0 L ∧ Keep h0 h [a, sa, ha] ∧ NS1 Z h a sa ha (0 : Int32) (upd sh k0 0) hd
set_option maxRecDepth 65536 in
set_option maxHeartbeats 40000000 in
theorem rmCl1_1 (l : Launch) (Z : State) (a0 : Array Value) (hw : ∀ d ∈ tables_1, d.before a0 Z = true) (ws : List Jvm.Cond) (a sa ha : Addr) (sh : Int32 → UInt64) (hd : Int32 → Int32) (k0 : Int32) (h0 : Heap) (n0 : Nat) (Zs : n0 ≤ h0.size) (NQ : NS1 Z h0 a sa ha (1 : Int32) sh hd) (DD : Dis n0 a sa ha) (hk0 : hd (0 : Int32) = k0) (ik0 : In1 k0) :
    Con l (⟨"org/termsieve/mapping/Shares", "clear", "()V"⟩ : MethodName) prog_78_method_4_code 2 none ws ({ frames := 0, cells := 0, slots := 0, locals := 0 } : Room) Z #[(.ref a)] h0 ({ frames := 0, cells := 0, slots := 0, locals := 0 } : Room).cells ({ frames := 0, cells := 0, slots := 0, locals := 0 } : Room).slots (Q_rmCl1_1 Z a sa ha sh hd k0 h0 n0) := by
  refine Con.of (Ls := #[.val (.ref a), .unset]) (plainFor_of_name (by first | (simp [plainName, overriddenIn]; done) | decide +kernel)) (fun m => by first | (simp [entryFrame, mkF, argsToLocals, Value.category]; done) | rfl) ?_
  intro p e s m below meth c s₁ G hGe hG hx hby hml hown hnm hrt hlk hZ X0 e0
  have hown : s.vm.findClass "org/termsieve/mapping/Shares" = some m.cls := hown
  have hnm : meth.name = "clear" := hnm
  have NF0 := Fr.nil n0
  obtain ⟨Ex_a, Ex_ha, F_shares_a, F_held_a, F_size_a, V_sa, V_ha⟩ := NQ
  obtain ⟨ga, gsa, gha, d1, d2, d3⟩ := DD
  have K0 := Keep.refl h0 [a, sa, ha]
  refine g_iconst hG X0 hx (hb hby d5_0) (pc' := 1) rfl (v := (0 : Int32)) rfl ?_
  refine g_istoreN hG X0 hx (hb hby d5_1) (pc' := 2) rfl (Ls' := #[.val (.ref a), .val (.int 0)]) rfl ?_
  refine g_iloadN hG X0 hx (hb hby d5_2) (pc' := 3) rfl rfl ?_
  refine g_aloadN hG X0 hx (hb hby d5_3) (pc' := 4) rfl rfl rfl ?_
  refine g_getF hG X0 hx hZ hown (wd hw 20 rfl) Via.refl e0 F_size_a (hb hby d5_4) (pc' := 7) rfl ?_
  intro T1 X1 e1
  refine g_icmpNo hG X1 hx (hb hby d5_7) (pc' := 10) (by decide) rfl ?_
  refine g_aloadN hG X1 hx (hb hby d5_10) (pc' := 11) rfl rfl rfl ?_
  refine g_getF hG X1 hx hZ hown (wd hw 10 rfl) Via.refl e1 F_shares_a (hb hby d5_11) (pc' := 14) rfl ?_
  intro T2 X2 e2
  refine g_aloadN hG X2 hx (hb hby d5_14) (pc' := 15) rfl rfl rfl ?_
  refine g_getF hG X2 hx hZ hown (wd hw 13 rfl) Via.refl e2 F_held_a (hb hby d5_15) (pc' := 18) rfl ?_
  intro T3 X3 e3
  refine g_iloadN hG X3 hx (hb hby d5_18) (pc' := 19) rfl rfl ?_
  refine g_iaload hG X3 hx hZ e3 V_ha (j := (0 : Int32)) (v := (.int k0)) (in1_nn in1_0) (in1_at in1_0 hk0) (hb hby d5_19) (pc' := 20) rfl ?_
  refine g_dconst0 hG X3 hx (hb hby d5_20) (pc' := 21) rfl (v := (0 : UInt64)) rfl ?_
  refine g_dastore hG X3 hx hZ e3 V_sa (j := k0) (in1_nn ik0) (in1_lend ik0) (hb hby d5_21) (pc' := 22) rfl ?_
  intro T4 h4 X4 e4 W4 Vn4
  rw [in1_setd ik0] at Vn4
  have V_sa : AV Z h4 sa .double (1 : Int32) (fd1 (upd sh k0 (0 : UInt64))) := Vn4
  have Ex_a := Ex_a.wr W4
  have Ex_ha := Ex_ha.wr W4
  have F_shares_a := F_shares_a.other W4 (Or.inl d1)
  have F_held_a := F_held_a.other W4 (Or.inl d1)
  have F_size_a := F_size_a.other W4 (Or.inl d1)
  have V_ha := V_ha.other W4 (Ne.symm d3)
  have Zs := Nat.le_trans Zs (Wr.size W4)
  have NF4 := Fr.snoc X4 NF0 gsa
  have K4 := K0.wr W4 (Or.inl (List.mem_of_getElem? (i := 1) rfl))
  refine g_iinc hG X4 hx (hb hby d5_22) (pc' := 25) rfl rfl (v := (1 : Int32)) (by decide) (Ls' := #[.val (.ref a), .val (.int 1)]) rfl ?_
  refine g_goto hG X4 hx (hb hby d5_25) (pc' := 2) (by decide) (by decide) ?_
  refine g_iloadN hG X4 hx (hb hby d5_2) (pc' := 3) rfl rfl ?_
  refine g_aloadN hG X4 hx (hb hby d5_3) (pc' := 4) rfl rfl rfl ?_
  refine g_getF hG X4 hx hZ hown (wd hw 20 rfl) Via.refl e4 F_size_a (hb hby d5_4) (pc' := 7) rfl ?_
  intro T5 X5 e5
  refine g_icmpYes hG X5 hx (hb hby d5_7) (pc' := 28) (by decide) (by decide) (by decide) ?_
  refine g_aloadN hG X5 hx (hb hby d5_28) (pc' := 29) rfl rfl rfl ?_
  refine g_iconst hG X5 hx (hb hby d5_29) (pc' := 30) rfl (v := (0 : Int32)) rfl ?_
  refine g_putF hG X5 hx hZ hown (wd hw 20 rfl) Via.refl e5 F_size_a Ex_a (Or.inl (wd hw 21 rfl)) (wd hw 1 rfl) (v' := (.int 0)) (ty := .int) (by decide) rfl rfl (hb hby d5_30) (pc' := 33) rfl ?_
  intro T6 h6 X6 e6 W6
  have Ex_a := Ex_a.wr W6
  have Ex_ha := Ex_ha.wr W6
  have F_shares_a := F_shares_a.other W6 (Or.inr (slot_ne (Or.inr (wd hw 11 rfl)) (Or.inl (wd hw 21 rfl)) (by decide) (t := (.array .double)) (t' := .int) (by decide) (by decide)))
  have F_held_a := F_held_a.other W6 (Or.inr (slot_ne (Or.inr (wd hw 14 rfl)) (Or.inl (wd hw 21 rfl)) (by decide) (t := (.array .int)) (t' := .int) (by decide) (by decide)))
  have F_size_a := F_size_a.same W6
  have V_sa := V_sa.other W6 (Ne.symm d1)
  have V_ha := V_ha.other W6 (Ne.symm d2)
  have Zs := Nat.le_trans Zs (Wr.size W6)
  have NF6 := Fr.snoc X6 NF4 ga
  have K6 := K4.wr W6 (Or.inl (List.mem_of_getElem? (i := 0) rfl))
  exact e_ret0 hGe X6 hx hrt hlk (hb hby d5_33) e6 (by decide) (by decide) (⟨rfl, NF6, K6, Ex_a, Ex_ha, F_shares_a, F_held_a, F_size_a, V_sa, V_ha⟩)

def Q_rmCo2_0 (Z : State) (a : Addr) (x0 x1 : Int32) (h0 : Heap) (n0 : Nat) (v : Option Value) (h : Heap) (L : List Loc) : Prop := ∃ b : Addr, v = some (.ref b) ∧ Fr n0 L ∧ Keep h0 h [] ∧ h0.size ≤ b ∧ AV Z h b .int (0 : Int32) []
set_option maxRecDepth 65536 in
set_option maxHeartbeats 40000000 in
theorem rmCo2_0 (l : Launch) (Z : State) (a0 : Array Value) (hw : ∀ d ∈ tables_1, d.before a0 Z = true) (ws : List Jvm.Cond) (a : Addr) (x0 x1 : Int32) (h0 : Heap) (n0 : Nat) (Zs : n0 ≤ h0.size) (V_a : AV Z h0 a .int (2 : Int32) [(.int x0), (.int x1)]) (Ex_a : Exa Z h0 a "[I") :
    Con l (⟨"java/util/Arrays", "copyOf", "([II)[I"⟩ : MethodName) jdk_65_method_123_code 3 (some (.array .int)) ws ({ frames := 1, cells := 1, slots := 0, locals := 32 } : Room) Z #[(.ref a), (.int 0)] h0 ({ frames := 1, cells := 1, slots := 0, locals := 32 } : Room).cells ({ frames := 1, cells := 1, slots := 0, locals := 32 } : Room).slots (Q_rmCo2_0 Z a x0 x1 h0 n0) := by
  refine Con.of (Ls := #[.val (.ref a), .val (.int 0), .unset]) (plainFor_of_name (by first | (simp [plainName, overriddenIn]; done) | decide +kernel)) (fun m => by first | (simp [entryFrame, mkF, argsToLocals, Value.category]; done) | rfl) ?_
  intro p e s m below meth c s₁ G hGe hG hx hby hml hown hnm hrt hlk hZ X0 e0
  have hown : s.vm.findClass "java/util/Arrays" = some m.cls := hown
  have hnm : meth.name = "copyOf" := hnm
  have NF0 := Fr.nil n0
  have K0 := Keep.refl h0 ([] : List Addr)
  refine g_iloadN hG X0 hx (hb hby d7_0) (pc' := 1) rfl rfl ?_
  refine g_aloadN hG X0 hx (hb hby d7_1) (pc' := 2) rfl rfl rfl ?_
  refine g_arraylength hG X0 hx hZ e0 V_a (hb hby d7_2) (pc' := 3) rfl ?_
  refine g_icmpYes hG X0 hx (hb hby d7_3) (pc' := 14) (by decide) (by decide) (by decide) ?_
  refine g_iloadN hG X0 hx (hb hby d7_14) (pc' := 15) rfl rfl ?_
  refine g_newP hG X0 hx hZ (wd hw 12 rfl) e0 (hb hby d7_15) (by decide) 0 (by decide) (by decide) (by decide) (by decide) (pc' := 17) rfl ?_
  intro T1 h1 b kA1 gs1 X1 e1 E1 A1
  have ne_a_b : a ≠ b := Nat.ne_of_lt (gs1 ▸ V_a.lt)
  have ge_b : n0 ≤ b := gs1 ▸ Zs
  have sz_b : h0.size ≤ b := gs1 ▸ K0.1
  have Zs := Nat.le_trans Zs E1.1
  have V_a := V_a.ext E1
  have Ex_a := Ex_a.ext E1
  have K1 := K0.ext E1
  have V_b : AV Z h1 b .int (0 : Int32) [] := AV.new A1
  refine g_astoreN hG X1 hx (hb hby d7_17) (pc' := 18) rfl rfl (Ls' := #[.val (.ref a), .val (.int 0), .val (.ref b)]) rfl ?_
  refine g_aloadN hG X1 hx (hb hby d7_18) (pc' := 19) rfl rfl rfl ?_
  refine g_iconst hG X1 hx (hb hby d7_19) (pc' := 20) rfl (v := (0 : Int32)) rfl ?_
  refine g_aloadN hG X1 hx (hb hby d7_20) (pc' := 21) rfl rfl rfl ?_
  refine g_iconst hG X1 hx (hb hby d7_21) (pc' := 22) rfl (v := (0 : Int32)) rfl ?_
  refine g_aloadN hG X1 hx (hb hby d7_22) (pc' := 23) rfl rfl rfl ?_
  refine g_arraylength hG X1 hx hZ e1 V_a (hb hby d7_23) (pc' := 24) rfl ?_
  refine g_iloadN hG X1 hx (hb hby d7_24) (pc' := 25) rfl rfl ?_
  refine g_callS hG X1 hx hZ (y := (⟨"java/lang/Math", "min", "(II)I"⟩ : MethodName)) 4 hown (wd hw 40 rfl) (wd hw 41 rfl) (wd hw 24 rfl) (wd hw 42 rfl) (by decide) (rmMI l Z a0 hw [] (2 : Int32) (0 : Int32) (0 : Int32) h1 n0 Zs (by decide)) (by decide) (by decide) (by rw [hml]; rfl) pd_3 rfl (argsL := [(.int 2), (.int 0)]) (rest := [(.int 0), (.ref b), (.int 0), (.ref a)]) rfl rfl (Nat.le_of_eq rfl) (hb hby d7_25) e1 (by decide) (by decide) (pc' := 28) rfl ?_
  intro T2 rv2 L2 X2 hQ2
  obtain ⟨rfl, Nq2, eh2⟩ := hQ2
  have NF2 := Fr.app NF0 Nq2
  show G (T2.setTop (mkF m 28 _ [(.int 0), (.int 0), (.ref b), (.int 0), (.ref a)]))
  refine g_copy hG X2 hx hZ hown (wd hw 43 rfl) (wd hw 46 rfl) (wd hw 44 rfl) (wd hw 45 rfl) eh2 V_a V_b rfl (by decide) (by decide) (by decide) (by decide) (by decide) (vr := []) rfl NF2 ge_b (by rw [hml]; rfl) (hb hby d7_28) (by decide) 0 (Nat.le_of_eq rfl) (by decide) (pc' := 31) rfl ?_
  intro T3 h3 L3 X3 e3 NF3 Kq3 Vn3
  have V_b := Vn3
  have V_a := V_a.keep Kq3 (ninS ne_a_b nin0)
  have Ex_a := Ex_a.keep Kq3
  have Zs := Nat.le_trans Zs Kq3.1
  have K3 := K1.trans Kq3 (allS (Or.inr sz_b) all0)
  show G (T3.setTop (mkF m 31 _ []))
  refine g_aloadN hG X3 hx (hb hby d7_31) (pc' := 32) rfl rfl rfl ?_
  exact e_retA hGe X3 hx hrt rfl hlk (hb hby d7_32) e3 (by decide) (by decide) (⟨b, rfl, NF3, K3, sz_b, V_b⟩)

def Q_rmHe2_0 (Z : State) (a sa ha : Addr) (sh : Int32 → UInt64) (hd : Int32 → Int32) (h0 : Heap) (n0 : Nat) (v : Option Value) (h : Heap) (L : List Loc) : Prop := ∃ b : Addr, v = some (.ref b) ∧ Fr n0 L ∧ Keep h0 h [] ∧ h0.size ≤ b ∧ AV Z h b .int (0 : Int32) []
set_option maxRecDepth 65536 in
set_option maxHeartbeats 40000000 in
theorem rmHe2_0 (l : Launch) (Z : State) (a0 : Array Value) (hw : ∀ d ∈ tables_1, d.before a0 Z = true) (ws : List Jvm.Cond) (a sa ha : Addr) (sh : Int32 → UInt64) (hd : Int32 → Int32) (h0 : Heap) (n0 : Nat) (Zs : n0 ≤ h0.size) (NQ : NS2 Z h0 a sa ha (0 : Int32) sh hd) (DD : Dis n0 a sa ha) :
    Con l (⟨"org/termsieve/mapping/Shares", "held", "()[I"⟩ : MethodName) prog_78_method_6_code 2 (some (.array .int)) ws ({ frames := 4, cells := 1, slots := 0, locals := 104 } : Room) Z #[(.ref a)] h0 ({ frames := 4, cells := 1, slots := 0, locals := 104 } : Room).cells ({ frames := 4, cells := 1, slots := 0, locals := 104 } : Room).slots (Q_rmHe2_0 Z a sa ha sh hd h0 n0) := by
  refine Con.of (Ls := #[.val (.ref a), .unset]) (plainFor_of_name (by first | (simp [plainName, overriddenIn]; done) | decide +kernel)) (fun m => by first | (simp [entryFrame, mkF, argsToLocals, Value.category]; done) | rfl) ?_
  intro p e s m below meth c s₁ G hGe hG hx hby hml hown hnm hrt hlk hZ X0 e0
  have hown : s.vm.findClass "org/termsieve/mapping/Shares" = some m.cls := hown
  have hnm : meth.name = "held" := hnm
  have NF0 := Fr.nil n0
  obtain ⟨Ex_a, Ex_ha, F_shares_a, F_held_a, F_size_a, V_sa, V_ha⟩ := NQ
  obtain ⟨ga, gsa, gha, d1, d2, d3⟩ := DD
  have K0 := Keep.refl h0 ([] : List Addr)
  refine g_aloadN hG X0 hx (hb hby d6_0) (pc' := 1) rfl rfl rfl ?_
  refine g_getF hG X0 hx hZ hown (wd hw 13 rfl) Via.refl e0 F_held_a (hb hby d6_1) (pc' := 4) rfl ?_
  intro T1 X1 e1
  refine g_aloadN hG X1 hx (hb hby d6_4) (pc' := 5) rfl rfl rfl ?_
  refine g_getF hG X1 hx hZ hown (wd hw 20 rfl) Via.refl e1 F_size_a (hb hby d6_5) (pc' := 8) rfl ?_
  intro T2 X2 e2
  refine g_callS hG X2 hx hZ (y := (⟨"java/util/Arrays", "copyOf", "([II)[I"⟩ : MethodName)) 0 hown (wd hw 36 rfl) (wd hw 37 rfl) (wd hw 38 rfl) (wd hw 39 rfl) (by decide) (rmCo2_0 l Z a0 hw [] ha (hd 0) (hd 1) h0 n0 Zs V_ha Ex_ha) (by decide) (by decide) (by rw [hml]; rfl) pd_4 rfl (argsL := [(.ref ha), (.int 0)]) (rest := []) rfl rfl (Nat.le_of_eq rfl) (hb hby d6_8) e2 (by decide) (by decide) (pc' := 11) rfl ?_
  intro T3 rv3 L3 X3 hQ3
  obtain ⟨b, rfl, Nq3, Kq3, szq3, V_b⟩ := hQ3
  have NF3 := Fr.app NF0 Nq3
  have ne_a_b : a ≠ b := Nat.ne_of_lt (Nat.lt_of_lt_of_le Ex_a.lt szq3)
  have ne_ha_b : ha ≠ b := Nat.ne_of_lt (Nat.lt_of_lt_of_le Ex_ha.lt szq3)
  have ne_sa_b : sa ≠ b := Nat.ne_of_lt (Nat.lt_of_lt_of_le V_sa.lt szq3)
  have ge_b : n0 ≤ b := Nat.le_trans Zs szq3
  have sz_b : h0.size ≤ b := Nat.le_trans K0.1 szq3
  have Ex_a := Ex_a.keep Kq3
  have Ex_ha := Ex_ha.keep Kq3
  have F_shares_a := F_shares_a.keep Kq3 nin0
  have F_held_a := F_held_a.keep Kq3 nin0
  have F_size_a := F_size_a.keep Kq3 nin0
  have V_sa := V_sa.keep Kq3 nin0
  have V_ha := V_ha.keep Kq3 nin0
  have Zs := Nat.le_trans Zs Kq3.1
  have K3 := K0.trans Kq3 all0
  show G (T3.setTop (mkF m 11 _ [(.ref b)]))
  refine g_astoreN hG X3 hx (hb hby d6_11) (pc' := 12) rfl rfl (Ls' := #[.val (.ref a), .val (.ref b)]) rfl ?_
  refine g_aloadN hG X3 hx (hb hby d6_12) (pc' := 13) rfl rfl rfl ?_
  refine g_callS hG X3 hx hZ (y := (⟨"java/util/Arrays", "sort", "([I)V"⟩ : MethodName)) 0 hown (wd hw 47 rfl) (wd hw 48 rfl) (wd hw 38 rfl) (wd hw 49 rfl) (by decide) (rmSo0 l Z a0 hw [] b  T3.heap n0 Zs V_b) (by decide) (by decide) (by rw [hml]; rfl) pd_5 rfl (argsL := [(.ref b)]) (rest := []) rfl rfl (Nat.le_of_eq rfl) (hb hby d6_13) rfl (by decide) (by decide) (pc' := 16) rfl ?_
  intro T4 rv4 L4 X4 hQ4
  obtain ⟨rfl, Nq4, eh4⟩ := hQ4
  have NF4 := Fr.app NF3 Nq4
  show G (T4.setTop (mkF m 16 _ []))
  refine g_aloadN hG X4 hx (hb hby d6_16) (pc' := 17) rfl rfl rfl ?_
  exact e_retA hGe X4 hx hrt rfl hlk (hb hby d6_17) eh4 (by decide) (by decide) (⟨b, rfl, NF4, K3, sz_b, V_b⟩)

def Q_rmCo2_1 (Z : State) (a : Addr) (x0 x1 : Int32) (h0 : Heap) (n0 : Nat) (v : Option Value) (h : Heap) (L : List Loc) : Prop := ∃ b : Addr, v = some (.ref b) ∧ Fr n0 L ∧ Keep h0 h [] ∧ h0.size ≤ b ∧ AV Z h b .int (1 : Int32) [(.int x0)]
set_option maxRecDepth 65536 in
set_option maxHeartbeats 40000000 in
theorem rmCo2_1 (l : Launch) (Z : State) (a0 : Array Value) (hw : ∀ d ∈ tables_1, d.before a0 Z = true) (ws : List Jvm.Cond) (a : Addr) (x0 x1 : Int32) (h0 : Heap) (n0 : Nat) (Zs : n0 ≤ h0.size) (V_a : AV Z h0 a .int (2 : Int32) [(.int x0), (.int x1)]) (Ex_a : Exa Z h0 a "[I") :
    Con l (⟨"java/util/Arrays", "copyOf", "([II)[I"⟩ : MethodName) jdk_65_method_123_code 3 (some (.array .int)) ws ({ frames := 1, cells := 1, slots := 1, locals := 32 } : Room) Z #[(.ref a), (.int 1)] h0 ({ frames := 1, cells := 1, slots := 1, locals := 32 } : Room).cells ({ frames := 1, cells := 1, slots := 1, locals := 32 } : Room).slots (Q_rmCo2_1 Z a x0 x1 h0 n0) := by
  refine Con.of (Ls := #[.val (.ref a), .val (.int 1), .unset]) (plainFor_of_name (by first | (simp [plainName, overriddenIn]; done) | decide +kernel)) (fun m => by first | (simp [entryFrame, mkF, argsToLocals, Value.category]; done) | rfl) ?_
  intro p e s m below meth c s₁ G hGe hG hx hby hml hown hnm hrt hlk hZ X0 e0
  have hown : s.vm.findClass "java/util/Arrays" = some m.cls := hown
  have hnm : meth.name = "copyOf" := hnm
  have NF0 := Fr.nil n0
  have K0 := Keep.refl h0 ([] : List Addr)
  refine g_iloadN hG X0 hx (hb hby d7_0) (pc' := 1) rfl rfl ?_
  refine g_aloadN hG X0 hx (hb hby d7_1) (pc' := 2) rfl rfl rfl ?_
  refine g_arraylength hG X0 hx hZ e0 V_a (hb hby d7_2) (pc' := 3) rfl ?_
  refine g_icmpYes hG X0 hx (hb hby d7_3) (pc' := 14) (by decide) (by decide) (by decide) ?_
  refine g_iloadN hG X0 hx (hb hby d7_14) (pc' := 15) rfl rfl ?_
  refine g_newP hG X0 hx hZ (wd hw 12 rfl) e0 (hb hby d7_15) (by decide) 1 (by decide) (by decide) (by decide) (by decide) (pc' := 17) rfl ?_
  intro T1 h1 b kA1 gs1 X1 e1 E1 A1
  have ne_a_b : a ≠ b := Nat.ne_of_lt (gs1 ▸ V_a.lt)
  have ge_b : n0 ≤ b := gs1 ▸ Zs
  have sz_b : h0.size ≤ b := gs1 ▸ K0.1
  have Zs := Nat.le_trans Zs E1.1
  have V_a := V_a.ext E1
  have Ex_a := Ex_a.ext E1
  have K1 := K0.ext E1
  have V_b : AV Z h1 b .int (1 : Int32) [(.int 0)] := AV.new A1
  refine g_astoreN hG X1 hx (hb hby d7_17) (pc' := 18) rfl rfl (Ls' := #[.val (.ref a), .val (.int 1), .val (.ref b)]) rfl ?_
  refine g_aloadN hG X1 hx (hb hby d7_18) (pc' := 19) rfl rfl rfl ?_
  refine g_iconst hG X1 hx (hb hby d7_19) (pc' := 20) rfl (v := (0 : Int32)) rfl ?_
  refine g_aloadN hG X1 hx (hb hby d7_20) (pc' := 21) rfl rfl rfl ?_
  refine g_iconst hG X1 hx (hb hby d7_21) (pc' := 22) rfl (v := (0 : Int32)) rfl ?_
  refine g_aloadN hG X1 hx (hb hby d7_22) (pc' := 23) rfl rfl rfl ?_
  refine g_arraylength hG X1 hx hZ e1 V_a (hb hby d7_23) (pc' := 24) rfl ?_
  refine g_iloadN hG X1 hx (hb hby d7_24) (pc' := 25) rfl rfl ?_
  refine g_callS hG X1 hx hZ (y := (⟨"java/lang/Math", "min", "(II)I"⟩ : MethodName)) 4 hown (wd hw 40 rfl) (wd hw 41 rfl) (wd hw 24 rfl) (wd hw 42 rfl) (by decide) (rmMI l Z a0 hw [] (2 : Int32) (1 : Int32) (1 : Int32) h1 n0 Zs (by decide)) (by decide) (by decide) (by rw [hml]; rfl) pd_3 rfl (argsL := [(.int 2), (.int 1)]) (rest := [(.int 0), (.ref b), (.int 0), (.ref a)]) rfl rfl (Nat.le_of_eq rfl) (hb hby d7_25) e1 (by decide) (by decide) (pc' := 28) rfl ?_
  intro T2 rv2 L2 X2 hQ2
  obtain ⟨rfl, Nq2, eh2⟩ := hQ2
  have NF2 := Fr.app NF0 Nq2
  show G (T2.setTop (mkF m 28 _ [(.int 1), (.int 0), (.ref b), (.int 0), (.ref a)]))
  refine g_copy hG X2 hx hZ hown (wd hw 43 rfl) (wd hw 46 rfl) (wd hw 44 rfl) (wd hw 45 rfl) eh2 V_a V_b rfl (by decide) (by decide) (by decide) (by decide) (by decide) (vr := [(.int x0)]) rfl NF2 ge_b (by rw [hml]; rfl) (hb hby d7_28) (by decide) 0 (Nat.le_of_eq rfl) (by decide) (pc' := 31) rfl ?_
  intro T3 h3 L3 X3 e3 NF3 Kq3 Vn3
  have V_b := Vn3
  have V_a := V_a.keep Kq3 (ninS ne_a_b nin0)
  have Ex_a := Ex_a.keep Kq3
  have Zs := Nat.le_trans Zs Kq3.1
  have K3 := K1.trans Kq3 (allS (Or.inr sz_b) all0)
  show G (T3.setTop (mkF m 31 _ []))
  refine g_aloadN hG X3 hx (hb hby d7_31) (pc' := 32) rfl rfl rfl ?_
  exact e_retA hGe X3 hx hrt rfl hlk (hb hby d7_32) e3 (by decide) (by decide) (⟨b, rfl, NF3, K3, sz_b, V_b⟩)

def Q_rmHe2_1 (Z : State) (a sa ha : Addr) (sh : Int32 → UInt64) (hd : Int32 → Int32) (kk : Int32) (h0 : Heap) (n0 : Nat) (v : Option Value) (h : Heap) (L : List Loc) : Prop := ∃ b : Addr, v = some (.ref b) ∧ Fr n0 L ∧ Keep h0 h [] ∧ h0.size ≤ b ∧ AV Z h b .int (1 : Int32) [(.int kk)]
set_option maxRecDepth 65536 in
set_option maxHeartbeats 40000000 in
theorem rmHe2_1 (l : Launch) (Z : State) (a0 : Array Value) (hw : ∀ d ∈ tables_1, d.before a0 Z = true) (ws : List Jvm.Cond) (a sa ha : Addr) (sh : Int32 → UInt64) (hd : Int32 → Int32) (kk : Int32) (h0 : Heap) (n0 : Nat) (Zs : n0 ≤ h0.size) (NQ : NS2 Z h0 a sa ha (1 : Int32) sh hd) (DD : Dis n0 a sa ha) (hk : hd 0 = kk) :
    Con l (⟨"org/termsieve/mapping/Shares", "held", "()[I"⟩ : MethodName) prog_78_method_6_code 2 (some (.array .int)) ws ({ frames := 4, cells := 1, slots := 1, locals := 104 } : Room) Z #[(.ref a)] h0 ({ frames := 4, cells := 1, slots := 1, locals := 104 } : Room).cells ({ frames := 4, cells := 1, slots := 1, locals := 104 } : Room).slots (Q_rmHe2_1 Z a sa ha sh hd kk h0 n0) := by
  refine Con.of (Ls := #[.val (.ref a), .unset]) (plainFor_of_name (by first | (simp [plainName, overriddenIn]; done) | decide +kernel)) (fun m => by first | (simp [entryFrame, mkF, argsToLocals, Value.category]; done) | rfl) ?_
  intro p e s m below meth c s₁ G hGe hG hx hby hml hown hnm hrt hlk hZ X0 e0
  have hown : s.vm.findClass "org/termsieve/mapping/Shares" = some m.cls := hown
  have hnm : meth.name = "held" := hnm
  have NF0 := Fr.nil n0
  obtain ⟨Ex_a, Ex_ha, F_shares_a, F_held_a, F_size_a, V_sa, V_ha⟩ := NQ
  obtain ⟨ga, gsa, gha, d1, d2, d3⟩ := DD
  have K0 := Keep.refl h0 ([] : List Addr)
  refine g_aloadN hG X0 hx (hb hby d6_0) (pc' := 1) rfl rfl rfl ?_
  refine g_getF hG X0 hx hZ hown (wd hw 13 rfl) Via.refl e0 F_held_a (hb hby d6_1) (pc' := 4) rfl ?_
  intro T1 X1 e1
  refine g_aloadN hG X1 hx (hb hby d6_4) (pc' := 5) rfl rfl rfl ?_
  refine g_getF hG X1 hx hZ hown (wd hw 20 rfl) Via.refl e1 F_size_a (hb hby d6_5) (pc' := 8) rfl ?_
  intro T2 X2 e2
  refine g_callS hG X2 hx hZ (y := (⟨"java/util/Arrays", "copyOf", "([II)[I"⟩ : MethodName)) 0 hown (wd hw 36 rfl) (wd hw 37 rfl) (wd hw 38 rfl) (wd hw 39 rfl) (by decide) (rmCo2_1 l Z a0 hw [] ha (hd 0) (hd 1) h0 n0 Zs V_ha Ex_ha) (by decide) (by decide) (by rw [hml]; rfl) pd_4 rfl (argsL := [(.ref ha), (.int 1)]) (rest := []) rfl rfl (Nat.le_of_eq rfl) (hb hby d6_8) e2 (by decide) (by decide) (pc' := 11) rfl ?_
  intro T3 rv3 L3 X3 hQ3
  obtain ⟨b, rfl, Nq3, Kq3, szq3, V_b⟩ := hQ3
  have NF3 := Fr.app NF0 Nq3
  have ne_a_b : a ≠ b := Nat.ne_of_lt (Nat.lt_of_lt_of_le Ex_a.lt szq3)
  have ne_ha_b : ha ≠ b := Nat.ne_of_lt (Nat.lt_of_lt_of_le Ex_ha.lt szq3)
  have ne_sa_b : sa ≠ b := Nat.ne_of_lt (Nat.lt_of_lt_of_le V_sa.lt szq3)
  have ge_b : n0 ≤ b := Nat.le_trans Zs szq3
  have sz_b : h0.size ≤ b := Nat.le_trans K0.1 szq3
  have Ex_a := Ex_a.keep Kq3
  have Ex_ha := Ex_ha.keep Kq3
  have F_shares_a := F_shares_a.keep Kq3 nin0
  have F_held_a := F_held_a.keep Kq3 nin0
  have F_size_a := F_size_a.keep Kq3 nin0
  have V_sa := V_sa.keep Kq3 nin0
  have V_ha := V_ha.keep Kq3 nin0
  have Zs := Nat.le_trans Zs Kq3.1
  have K3 := K0.trans Kq3 all0
  show G (T3.setTop (mkF m 11 _ [(.ref b)]))
  refine g_astoreN hG X3 hx (hb hby d6_11) (pc' := 12) rfl rfl (Ls' := #[.val (.ref a), .val (.ref b)]) rfl ?_
  refine g_aloadN hG X3 hx (hb hby d6_12) (pc' := 13) rfl rfl rfl ?_
  refine g_callS hG X3 hx hZ (y := (⟨"java/util/Arrays", "sort", "([I)V"⟩ : MethodName)) 0 hown (wd hw 47 rfl) (wd hw 48 rfl) (wd hw 38 rfl) (wd hw 49 rfl) (by decide) (rmSo1 l Z a0 hw [] b (hd 0) T3.heap n0 Zs V_b) (by decide) (by decide) (by rw [hml]; rfl) pd_5 rfl (argsL := [(.ref b)]) (rest := []) rfl rfl (Nat.le_of_eq rfl) (hb hby d6_13) rfl (by decide) (by decide) (pc' := 16) rfl ?_
  intro T4 rv4 L4 X4 hQ4
  obtain ⟨rfl, Nq4, eh4⟩ := hQ4
  have NF4 := Fr.app NF3 Nq4
  show G (T4.setTop (mkF m 16 _ []))
  refine g_aloadN hG X4 hx (hb hby d6_16) (pc' := 17) rfl rfl rfl ?_
  exact e_retA hGe X4 hx hrt rfl hlk (hb hby d6_17) eh4 (by decide) (by decide) (⟨b, rfl, NF4, K3, sz_b, (by rw [← hk]; exact V_b)⟩)

def Q_rmNew2 (Z : State) (a : Addr) (h0 : Heap) (n0 : Nat) (v : Option Value) (h : Heap) (L : List Loc) : Prop := ∃ sa ha : Addr, v = none ∧ Fr n0 L ∧ Keep h0 h [a] ∧ h0.size ≤ sa ∧ h0.size ≤ ha ∧ sa ≠ ha ∧ NS2 Z h a sa ha (0 : Int32) (fun _ => 0) (fun _ => 0)
set_option maxRecDepth 65536 in
set_option maxHeartbeats 40000000 in
theorem rmNew2 (l : Launch) (Z : State) (a0 : Array Value) (hw : ∀ d ∈ tables_1, d.before a0 Z = true) (ws : List Jvm.Cond) (a : Addr) (h0 : Heap) (n0 : Nat) (Zs : n0 ≤ h0.size) (ga : n0 ≤ a) (Ex_a : Exa Z h0 a "org/termsieve/mapping/Shares") (F_shares_a : Fld Z h0 a "org/termsieve/mapping/Shares" "shares" "[D" .null) (F_held_a : Fld Z h0 a "org/termsieve/mapping/Shares" "held" "[I" .null) (F_size_a : Fld Z h0 a "org/termsieve/mapping/Shares" "size" "I" (.int (0 : Int32))) :
    Con l (⟨"org/termsieve/mapping/Shares", "<init>", "(I)V"⟩ : MethodName) prog_78_method_1_code 2 none ws ({ frames := 1, cells := 2, slots := 4, locals := 16 } : Room) Z #[(.ref a), (.int 2)] h0 ({ frames := 1, cells := 2, slots := 4, locals := 16 } : Room).cells ({ frames := 1, cells := 2, slots := 4, locals := 16 } : Room).slots (Q_rmNew2 Z a h0 n0) := by
  refine Con.of (Ls := #[.val (.ref a), .val (.int 2)]) (plainFor_of_name (by first | (simp [plainName, overriddenIn]; done) | decide +kernel)) (fun m => by first | (simp [entryFrame, mkF, argsToLocals, Value.category]; done) | rfl) ?_
  intro p e s m below meth c s₁ G hGe hG hx hby hml hown hnm hrt hlk hZ X0 e0
  have hown : s.vm.findClass "org/termsieve/mapping/Shares" = some m.cls := hown
  have hnm : meth.name = "<init>" := hnm
  have NF0 := Fr.nil n0
  have K0 := Keep.refl h0 [a]
  refine g_aloadN hG X0 hx (hb hby d1_0) (pc' := 1) rfl rfl rfl ?_
  refine g_initO hG X0 hx hZ hown (wd hw 6 rfl) (wd hw 7 rfl) (wd hw 8 rfl) e0 (by rw [hml]; rfl) (hb hby d1_1) (by decide) (by decide) (pc' := 4) rfl ?_
  intro T1 X1 e1
  show G (T1.setTop (mkF m 4 _ []))
  refine g_aloadN hG X1 hx (hb hby d1_4) (pc' := 5) rfl rfl rfl ?_
  refine g_iloadN hG X1 hx (hb hby d1_5) (pc' := 6) rfl rfl ?_
  refine g_newPE hG X1 hx hZ (wd hw 9 rfl) e1 (hb hby d1_6) (by decide) 2 (by decide) (by decide) (by decide) (by decide) (ad := "[D") (by decide) (pc' := 8) rfl ?_
  intro T2 h2 sa gs2 X2 e2 E2 A2 B2
  have ne_a_sa : a ≠ sa := Nat.ne_of_lt (gs2 ▸ Ex_a.lt)
  have ge_sa : n0 ≤ sa := gs2 ▸ Zs
  have sz_sa : h0.size ≤ sa := gs2 ▸ K0.1
  have Zs := Nat.le_trans Zs E2.1
  have Ex_a := Ex_a.ext E2
  have F_shares_a := F_shares_a.ext E2
  have F_held_a := F_held_a.ext E2
  have F_size_a := F_size_a.ext E2
  have K2 := K0.ext E2
  have V_sa : AV Z h2 sa .double (2 : Int32) [(.double 0), (.double 0)] := A2
  have Ex_sa := B2
  refine g_putF hG X2 hx hZ hown (wd hw 10 rfl) Via.refl e2 F_shares_a Ex_a (Or.inr ⟨(wd hw 11 rfl), rfl, hnm⟩) (wd hw 1 rfl) (v' := (.ref sa)) (ty := (.array .double)) (by decide) rfl rfl (hb hby d1_8) (pc' := 11) rfl ?_
  intro T3 h3 X3 e3 W3
  have Ex_a := Ex_a.wr W3
  have F_shares_a := F_shares_a.same W3
  have F_held_a := F_held_a.other W3 (Or.inr (slot_ne (Or.inr (wd hw 14 rfl)) (Or.inr (wd hw 11 rfl)) (by decide) (t := (.array .int)) (t' := (.array .double)) (by decide) (by decide)))
  have F_size_a := F_size_a.other W3 (Or.inr (slot_ne (Or.inl (wd hw 21 rfl)) (Or.inr (wd hw 11 rfl)) (by decide) (t := .int) (t' := (.array .double)) (by decide) (by decide)))
  have V_sa := V_sa.other W3 (Ne.symm ne_a_sa)
  have Ex_sa := Ex_sa.wr W3
  have Zs := Nat.le_trans Zs (Wr.size W3)
  have NF3 := Fr.snoc X3 NF0 ga
  have K3 := K2.wr W3 (Or.inl (List.mem_of_getElem? (i := 0) rfl))
  refine g_aloadN hG X3 hx (hb hby d1_11) (pc' := 12) rfl rfl rfl ?_
  refine g_iloadN hG X3 hx (hb hby d1_12) (pc' := 13) rfl rfl ?_
  refine g_newPE hG X3 hx hZ (wd hw 12 rfl) e3 (hb hby d1_13) (by decide) 2 (by decide) (by decide) (by decide) (by decide) (ad := "[I") (by decide) (pc' := 15) rfl ?_
  intro T4 h4 ha gs4 X4 e4 E4 A4 B4
  have ne_a_ha : a ≠ ha := Nat.ne_of_lt (gs4 ▸ Ex_a.lt)
  have ne_sa_ha : sa ≠ ha := Nat.ne_of_lt (gs4 ▸ V_sa.lt)
  have ge_ha : n0 ≤ ha := gs4 ▸ Zs
  have sz_ha : h0.size ≤ ha := gs4 ▸ K3.1
  have Zs := Nat.le_trans Zs E4.1
  have Ex_a := Ex_a.ext E4
  have F_shares_a := F_shares_a.ext E4
  have F_held_a := F_held_a.ext E4
  have F_size_a := F_size_a.ext E4
  have V_sa := V_sa.ext E4
  have Ex_sa := Ex_sa.ext E4
  have K4 := K3.ext E4
  have V_ha : AV Z h4 ha .int (2 : Int32) [(.int 0), (.int 0)] := A4
  have Ex_ha := B4
  refine g_putF hG X4 hx hZ hown (wd hw 13 rfl) Via.refl e4 F_held_a Ex_a (Or.inr ⟨(wd hw 14 rfl), rfl, hnm⟩) (wd hw 1 rfl) (v' := (.ref ha)) (ty := (.array .int)) (by decide) rfl rfl (hb hby d1_15) (pc' := 18) rfl ?_
  intro T5 h5 X5 e5 W5
  have Ex_a := Ex_a.wr W5
  have F_shares_a := F_shares_a.other W5 (Or.inr (slot_ne (Or.inr (wd hw 11 rfl)) (Or.inr (wd hw 14 rfl)) (by decide) (t := (.array .double)) (t' := (.array .int)) (by decide) (by decide)))
  have F_held_a := F_held_a.same W5
  have F_size_a := F_size_a.other W5 (Or.inr (slot_ne (Or.inl (wd hw 21 rfl)) (Or.inr (wd hw 14 rfl)) (by decide) (t := .int) (t' := (.array .int)) (by decide) (by decide)))
  have V_sa := V_sa.other W5 (Ne.symm ne_a_sa)
  have Ex_sa := Ex_sa.wr W5
  have V_ha := V_ha.other W5 (Ne.symm ne_a_ha)
  have Ex_ha := Ex_ha.wr W5
  have Zs := Nat.le_trans Zs (Wr.size W5)
  have NF5 := Fr.snoc X5 NF3 ga
  have K5 := K4.wr W5 (Or.inl (List.mem_of_getElem? (i := 0) rfl))
  exact e_ret0 hGe X5 hx hrt hlk (hb hby d1_18) e5 (by decide) (by decide) (⟨sa, ha, rfl, NF5, K5, sz_sa, sz_ha, ne_sa_ha, ⟨Ex_a, Ex_ha, F_shares_a, F_held_a, F_size_a, V_sa, V_ha⟩⟩)

def Q_rmSh2 (Z : State) (a sa ha : Addr) (sh : Int32 → UInt64) (hd : Int32 → Int32) (sz j : Int32) (xx : UInt64) (h0 : Heap) (n0 : Nat) (v : Option Value) (h : Heap) (L : List Loc) : Prop := v = some (.double xx) ∧ Fr n0 L ∧ h = h0
set_option maxRecDepth 65536 in
set_option maxHeartbeats 40000000 in
theorem rmSh2 (l : Launch) (Z : State) (a0 : Array Value) (hw : ∀ d ∈ tables_1, d.before a0 Z = true) (ws : List Jvm.Cond) (a sa ha : Addr) (sh : Int32 → UInt64) (hd : Int32 → Int32) (sz j : Int32) (xx : UInt64) (h0 : Heap) (n0 : Nat) (Zs : n0 ≤ h0.size) (NQ : NS2 Z h0 a sa ha sz sh hd) (DD : Dis n0 a sa ha) (ij : In2 j) (hxx : sh j = xx) :
    Con l (⟨"org/termsieve/mapping/Shares", "share", "(I)D"⟩ : MethodName) prog_78_method_5_code 2 (some .double) ws ({ frames := 0, cells := 0, slots := 0, locals := 0 } : Room) Z #[(.ref a), (.int j)] h0 ({ frames := 0, cells := 0, slots := 0, locals := 0 } : Room).cells ({ frames := 0, cells := 0, slots := 0, locals := 0 } : Room).slots (Q_rmSh2 Z a sa ha sh hd sz j xx h0 n0) := by
  refine Con.of (Ls := #[.val (.ref a), .val (.int j)]) (plainFor_of_name (by first | (simp [plainName, overriddenIn]; done) | decide +kernel)) (fun m => by first | (simp [entryFrame, mkF, argsToLocals, Value.category]; done) | rfl) ?_
  intro p e s m below meth c s₁ G hGe hG hx hby hml hown hnm hrt hlk hZ X0 e0
  have hown : s.vm.findClass "org/termsieve/mapping/Shares" = some m.cls := hown
  have hnm : meth.name = "share" := hnm
  have NF0 := Fr.nil n0
  obtain ⟨Ex_a, Ex_ha, F_shares_a, F_held_a, F_size_a, V_sa, V_ha⟩ := NQ
  obtain ⟨ga, gsa, gha, d1, d2, d3⟩ := DD
  refine g_aloadN hG X0 hx (hb hby d14_0) (pc' := 1) rfl rfl rfl ?_
  refine g_getF hG X0 hx hZ hown (wd hw 10 rfl) Via.refl e0 F_shares_a (hb hby d14_1) (pc' := 4) rfl ?_
  intro T1 X1 e1
  refine g_iloadN hG X1 hx (hb hby d14_4) (pc' := 5) rfl rfl ?_
  refine g_daload hG X1 hx hZ e1 V_sa (j := j) (v := (.double (sh j))) (in2_nn ij) (in2_atd ij rfl) (hb hby d14_5) (pc' := 6) rfl ?_
  exact e_retD hGe X1 hx hrt hlk (hb hby d14_6) e1 (by decide) (by decide) (⟨by rw [hxx], NF0, rfl⟩)

def Q_rmAt2_0 (Z : State) (a sa ha : Addr) (sh : Int32 → UInt64) (hd : Int32 → Int32) (sz kk : Int32) (vv xx : UInt64) (h0 : Heap) (n0 : Nat) (v : Option Value) (h : Heap) (L : List Loc) : Prop := v = some (.int 1) ∧ Fr n0 L ∧ h = h0
set_option maxRecDepth 65536 in
set_option maxHeartbeats 40000000 in
theorem rmAt2_0 (l : Launch) (Z : State) (a0 : Array Value) (hw : ∀ d ∈ tables_1, d.before a0 Z = true) (ws : List Jvm.Cond) (a sa ha : Addr) (sh : Int32 → UInt64) (hd : Int32 → Int32) (sz kk : Int32) (vv xx : UInt64) (h0 : Heap) (n0 : Nat) (Zs : n0 ≤ h0.size) (NQ : NS2 Z h0 a sa ha sz sh hd) (DD : Dis n0 a sa ha) (hxx : sh (0 : Int32) = xx) (hc : ((0 : Int32) = kk ∧ FP.dcmp xx vv = some .eq) ∨ (¬ (0 : Int32) = kk ∧ FP.dcmp xx 0 = some .eq)) :
    Con l (⟨"org/termsieve/mapping/SharesClearPinLaw", "at", "(Lorg/termsieve/mapping/Shares;IIID)Z"⟩ : MethodName) method_3_code 8 (some .boolean) ws ({ frames := 1, cells := 0, slots := 0, locals := 16 } : Room) Z #[(.ref a), (.int 0), (.int 2), (.int kk), (.double vv)] h0 ({ frames := 1, cells := 0, slots := 0, locals := 16 } : Room).cells ({ frames := 1, cells := 0, slots := 0, locals := 16 } : Room).slots (Q_rmAt2_0 Z a sa ha sh hd sz kk vv xx h0 n0) := by
  refine Con.of (Ls := #[.val (.ref a), .val (.int 0), .val (.int 2), .val (.int kk), .val (.double vv), .second, .unset, .unset]) (plainFor_of_name (by first | (simp [plainName, overriddenIn]; done) | decide +kernel)) (fun m => by first | (simp [entryFrame, mkF, argsToLocals, Value.category]; done) | rfl) ?_
  intro p e s m below meth c s₁ G hGe hG hx hby hml hown hnm hrt hlk hZ X0 e0
  have hown : s.vm.findClass "org/termsieve/mapping/SharesClearPinLaw" = some m.cls := hown
  have hnm : meth.name = "at" := hnm
  have NF0 := Fr.nil n0
  obtain ⟨Ex_a, Ex_ha, F_shares_a, F_held_a, F_size_a, V_sa, V_ha⟩ := NQ
  obtain ⟨ga, gsa, gha, d1, d2, d3⟩ := DD
  rcases hc with ⟨c1, c2⟩ | ⟨c1, c2⟩
  · skip
    refine g_iloadN hG X0 hx (hb hby d13_0) (pc' := 1) rfl rfl ?_
    refine g_iloadN hG X0 hx (hb hby d13_1) (pc' := 2) rfl rfl ?_
    refine g_icmpYes hG X0 hx (hb hby d13_2) (pc' := 7) (by decide) (by decide) (by decide) ?_
    refine g_iloadN hG X0 hx (hb hby d13_7) (pc' := 8) rfl rfl ?_
    refine g_iloadN hG X0 hx (hb hby d13_8) (pc' := 9) rfl rfl ?_
    refine g_icmpNo hG X0 hx (hb hby d13_9) (pc' := 12) ((teq c1).2) rfl ?_
    refine g_dload hG X0 hx (hb hby d13_12) (pc' := 14) rfl rfl ?_
    refine g_goto hG X0 hx (hb hby d13_14) (pc' := 18) (by decide) (by decide) ?_
    refine g_dstore hG X0 hx (hb hby d13_18) (pc' := 20) rfl (Ls' := #[.val (.ref a), .val (.int 0), .val (.int 2), .val (.int kk), .val (.double vv), .second, .val (.double vv), .second]) rfl ?_
    refine g_aloadN hG X0 hx (hb hby d13_20) (pc' := 21) rfl rfl rfl ?_
    refine g_iloadN hG X0 hx (hb hby d13_21) (pc' := 22) rfl rfl ?_
    refine g_callV hG X0 hx hZ (y := (⟨"org/termsieve/mapping/Shares", "share", "(I)D"⟩ : MethodName)) 0 hown (wd hw 73 rfl) (wd hw 74 rfl) (wd hw 76 rfl) (wd hw 75 rfl) (wd hw 2 rfl) (wd hw 77 rfl) (by decide) (rmSh2 l Z a0 hw [] a sa ha sh hd sz (0 : Int32) xx h0 n0 Zs ⟨Ex_a, Ex_ha, F_shares_a, F_held_a, F_size_a, V_sa, V_ha⟩ ⟨ga, gsa, gha, d1, d2, d3⟩ in2_0 hxx) (by decide) (by decide) (by rw [hml]; rfl) pd_6 rfl (argsL := [(.int 0)]) (rest := []) rfl rfl (Nat.le_of_eq rfl) (hb hby d13_22) e0 Ex_a (by decide) (by decide) (pc' := 25) rfl ?_
    intro T1 rv1 L1 X1 hQ1
    obtain ⟨rfl, Nq1, eh1⟩ := hQ1
    have NF1 := Fr.app NF0 Nq1
    show G (T1.setTop (mkF m 25 _ [(.double xx)]))
    refine g_dload hG X1 hx (hb hby d13_25) (pc' := 27) rfl rfl ?_
    obtain ⟨v27, q27⟩ : ∃ zz : Int32, cmpValue (FP.dcmp xx vv) .l = zz := ⟨_, rfl⟩
    refine g_dcmp hG X1 hx (hb hby d13_27) (pc' := 28) rfl q27 ?_
    refine g_ifNo hG X1 hx (hb hby d13_28) (pc' := 31) (by rw [← q27, c2]; rfl) rfl ?_
    refine g_iconst hG X1 hx (hb hby d13_31) (pc' := 32) rfl (v := (1 : Int32)) rfl ?_
    refine g_goto hG X1 hx (hb hby d13_32) (pc' := 36) (by decide) (by decide) ?_
    exact e_retZ hGe X1 hx hrt hlk (hb hby d13_36) (Or.inr rfl) eh1 (by decide) (by decide) (⟨rfl, NF1, rfl⟩)
  · skip
    refine g_iloadN hG X0 hx (hb hby d13_0) (pc' := 1) rfl rfl ?_
    refine g_iloadN hG X0 hx (hb hby d13_1) (pc' := 2) rfl rfl ?_
    refine g_icmpYes hG X0 hx (hb hby d13_2) (pc' := 7) (by decide) (by decide) (by decide) ?_
    refine g_iloadN hG X0 hx (hb hby d13_7) (pc' := 8) rfl rfl ?_
    refine g_iloadN hG X0 hx (hb hby d13_8) (pc' := 9) rfl rfl ?_
    refine g_icmpYes hG X0 hx (hb hby d13_9) (pc' := 17) ((feq c1).2) (by decide) (by decide) ?_
    refine g_dconst0 hG X0 hx (hb hby d13_17) (pc' := 18) rfl (v := (0 : UInt64)) rfl ?_
    refine g_dstore hG X0 hx (hb hby d13_18) (pc' := 20) rfl (Ls' := #[.val (.ref a), .val (.int 0), .val (.int 2), .val (.int kk), .val (.double vv), .second, .val (.double 0), .second]) rfl ?_
    refine g_aloadN hG X0 hx (hb hby d13_20) (pc' := 21) rfl rfl rfl ?_
    refine g_iloadN hG X0 hx (hb hby d13_21) (pc' := 22) rfl rfl ?_
    refine g_callV hG X0 hx hZ (y := (⟨"org/termsieve/mapping/Shares", "share", "(I)D"⟩ : MethodName)) 0 hown (wd hw 73 rfl) (wd hw 74 rfl) (wd hw 76 rfl) (wd hw 75 rfl) (wd hw 2 rfl) (wd hw 77 rfl) (by decide) (rmSh2 l Z a0 hw [] a sa ha sh hd sz (0 : Int32) xx h0 n0 Zs ⟨Ex_a, Ex_ha, F_shares_a, F_held_a, F_size_a, V_sa, V_ha⟩ ⟨ga, gsa, gha, d1, d2, d3⟩ in2_0 hxx) (by decide) (by decide) (by rw [hml]; rfl) pd_6 rfl (argsL := [(.int 0)]) (rest := []) rfl rfl (Nat.le_of_eq rfl) (hb hby d13_22) e0 Ex_a (by decide) (by decide) (pc' := 25) rfl ?_
    intro T2 rv2 L2 X2 hQ2
    obtain ⟨rfl, Nq2, eh2⟩ := hQ2
    have NF2 := Fr.app NF0 Nq2
    show G (T2.setTop (mkF m 25 _ [(.double xx)]))
    refine g_dload hG X2 hx (hb hby d13_25) (pc' := 27) rfl rfl ?_
    obtain ⟨v27, q27⟩ : ∃ zz : Int32, cmpValue (FP.dcmp xx (0 : UInt64)) .l = zz := ⟨_, rfl⟩
    refine g_dcmp hG X2 hx (hb hby d13_27) (pc' := 28) rfl q27 ?_
    refine g_ifNo hG X2 hx (hb hby d13_28) (pc' := 31) (by rw [← q27, c2]; rfl) rfl ?_
    refine g_iconst hG X2 hx (hb hby d13_31) (pc' := 32) rfl (v := (1 : Int32)) rfl ?_
    refine g_goto hG X2 hx (hb hby d13_32) (pc' := 36) (by decide) (by decide) ?_
    exact e_retZ hGe X2 hx hrt hlk (hb hby d13_36) (Or.inr rfl) eh2 (by decide) (by decide) (⟨rfl, NF2, rfl⟩)

def Q_rmAt2_1 (Z : State) (a sa ha : Addr) (sh : Int32 → UInt64) (hd : Int32 → Int32) (sz kk : Int32) (vv xx : UInt64) (h0 : Heap) (n0 : Nat) (v : Option Value) (h : Heap) (L : List Loc) : Prop := v = some (.int 1) ∧ Fr n0 L ∧ h = h0
set_option maxRecDepth 65536 in
set_option maxHeartbeats 40000000 in
theorem rmAt2_1 (l : Launch) (Z : State) (a0 : Array Value) (hw : ∀ d ∈ tables_1, d.before a0 Z = true) (ws : List Jvm.Cond) (a sa ha : Addr) (sh : Int32 → UInt64) (hd : Int32 → Int32) (sz kk : Int32) (vv xx : UInt64) (h0 : Heap) (n0 : Nat) (Zs : n0 ≤ h0.size) (NQ : NS2 Z h0 a sa ha sz sh hd) (DD : Dis n0 a sa ha) (hxx : sh (1 : Int32) = xx) (hc : ((1 : Int32) = kk ∧ FP.dcmp xx vv = some .eq) ∨ (¬ (1 : Int32) = kk ∧ FP.dcmp xx 0 = some .eq)) :
    Con l (⟨"org/termsieve/mapping/SharesClearPinLaw", "at", "(Lorg/termsieve/mapping/Shares;IIID)Z"⟩ : MethodName) method_3_code 8 (some .boolean) ws ({ frames := 1, cells := 0, slots := 0, locals := 16 } : Room) Z #[(.ref a), (.int 1), (.int 2), (.int kk), (.double vv)] h0 ({ frames := 1, cells := 0, slots := 0, locals := 16 } : Room).cells ({ frames := 1, cells := 0, slots := 0, locals := 16 } : Room).slots (Q_rmAt2_1 Z a sa ha sh hd sz kk vv xx h0 n0) := by
  refine Con.of (Ls := #[.val (.ref a), .val (.int 1), .val (.int 2), .val (.int kk), .val (.double vv), .second, .unset, .unset]) (plainFor_of_name (by first | (simp [plainName, overriddenIn]; done) | decide +kernel)) (fun m => by first | (simp [entryFrame, mkF, argsToLocals, Value.category]; done) | rfl) ?_
  intro p e s m below meth c s₁ G hGe hG hx hby hml hown hnm hrt hlk hZ X0 e0
  have hown : s.vm.findClass "org/termsieve/mapping/SharesClearPinLaw" = some m.cls := hown
  have hnm : meth.name = "at" := hnm
  have NF0 := Fr.nil n0
  obtain ⟨Ex_a, Ex_ha, F_shares_a, F_held_a, F_size_a, V_sa, V_ha⟩ := NQ
  obtain ⟨ga, gsa, gha, d1, d2, d3⟩ := DD
  rcases hc with ⟨c1, c2⟩ | ⟨c1, c2⟩
  · skip
    refine g_iloadN hG X0 hx (hb hby d13_0) (pc' := 1) rfl rfl ?_
    refine g_iloadN hG X0 hx (hb hby d13_1) (pc' := 2) rfl rfl ?_
    refine g_icmpYes hG X0 hx (hb hby d13_2) (pc' := 7) (by decide) (by decide) (by decide) ?_
    refine g_iloadN hG X0 hx (hb hby d13_7) (pc' := 8) rfl rfl ?_
    refine g_iloadN hG X0 hx (hb hby d13_8) (pc' := 9) rfl rfl ?_
    refine g_icmpNo hG X0 hx (hb hby d13_9) (pc' := 12) ((teq c1).2) rfl ?_
    refine g_dload hG X0 hx (hb hby d13_12) (pc' := 14) rfl rfl ?_
    refine g_goto hG X0 hx (hb hby d13_14) (pc' := 18) (by decide) (by decide) ?_
    refine g_dstore hG X0 hx (hb hby d13_18) (pc' := 20) rfl (Ls' := #[.val (.ref a), .val (.int 1), .val (.int 2), .val (.int kk), .val (.double vv), .second, .val (.double vv), .second]) rfl ?_
    refine g_aloadN hG X0 hx (hb hby d13_20) (pc' := 21) rfl rfl rfl ?_
    refine g_iloadN hG X0 hx (hb hby d13_21) (pc' := 22) rfl rfl ?_
    refine g_callV hG X0 hx hZ (y := (⟨"org/termsieve/mapping/Shares", "share", "(I)D"⟩ : MethodName)) 0 hown (wd hw 73 rfl) (wd hw 74 rfl) (wd hw 76 rfl) (wd hw 75 rfl) (wd hw 2 rfl) (wd hw 77 rfl) (by decide) (rmSh2 l Z a0 hw [] a sa ha sh hd sz (1 : Int32) xx h0 n0 Zs ⟨Ex_a, Ex_ha, F_shares_a, F_held_a, F_size_a, V_sa, V_ha⟩ ⟨ga, gsa, gha, d1, d2, d3⟩ in2_1 hxx) (by decide) (by decide) (by rw [hml]; rfl) pd_6 rfl (argsL := [(.int 1)]) (rest := []) rfl rfl (Nat.le_of_eq rfl) (hb hby d13_22) e0 Ex_a (by decide) (by decide) (pc' := 25) rfl ?_
    intro T1 rv1 L1 X1 hQ1
    obtain ⟨rfl, Nq1, eh1⟩ := hQ1
    have NF1 := Fr.app NF0 Nq1
    show G (T1.setTop (mkF m 25 _ [(.double xx)]))
    refine g_dload hG X1 hx (hb hby d13_25) (pc' := 27) rfl rfl ?_
    obtain ⟨v27, q27⟩ : ∃ zz : Int32, cmpValue (FP.dcmp xx vv) .l = zz := ⟨_, rfl⟩
    refine g_dcmp hG X1 hx (hb hby d13_27) (pc' := 28) rfl q27 ?_
    refine g_ifNo hG X1 hx (hb hby d13_28) (pc' := 31) (by rw [← q27, c2]; rfl) rfl ?_
    refine g_iconst hG X1 hx (hb hby d13_31) (pc' := 32) rfl (v := (1 : Int32)) rfl ?_
    refine g_goto hG X1 hx (hb hby d13_32) (pc' := 36) (by decide) (by decide) ?_
    exact e_retZ hGe X1 hx hrt hlk (hb hby d13_36) (Or.inr rfl) eh1 (by decide) (by decide) (⟨rfl, NF1, rfl⟩)
  · skip
    refine g_iloadN hG X0 hx (hb hby d13_0) (pc' := 1) rfl rfl ?_
    refine g_iloadN hG X0 hx (hb hby d13_1) (pc' := 2) rfl rfl ?_
    refine g_icmpYes hG X0 hx (hb hby d13_2) (pc' := 7) (by decide) (by decide) (by decide) ?_
    refine g_iloadN hG X0 hx (hb hby d13_7) (pc' := 8) rfl rfl ?_
    refine g_iloadN hG X0 hx (hb hby d13_8) (pc' := 9) rfl rfl ?_
    refine g_icmpYes hG X0 hx (hb hby d13_9) (pc' := 17) ((feq c1).2) (by decide) (by decide) ?_
    refine g_dconst0 hG X0 hx (hb hby d13_17) (pc' := 18) rfl (v := (0 : UInt64)) rfl ?_
    refine g_dstore hG X0 hx (hb hby d13_18) (pc' := 20) rfl (Ls' := #[.val (.ref a), .val (.int 1), .val (.int 2), .val (.int kk), .val (.double vv), .second, .val (.double 0), .second]) rfl ?_
    refine g_aloadN hG X0 hx (hb hby d13_20) (pc' := 21) rfl rfl rfl ?_
    refine g_iloadN hG X0 hx (hb hby d13_21) (pc' := 22) rfl rfl ?_
    refine g_callV hG X0 hx hZ (y := (⟨"org/termsieve/mapping/Shares", "share", "(I)D"⟩ : MethodName)) 0 hown (wd hw 73 rfl) (wd hw 74 rfl) (wd hw 76 rfl) (wd hw 75 rfl) (wd hw 2 rfl) (wd hw 77 rfl) (by decide) (rmSh2 l Z a0 hw [] a sa ha sh hd sz (1 : Int32) xx h0 n0 Zs ⟨Ex_a, Ex_ha, F_shares_a, F_held_a, F_size_a, V_sa, V_ha⟩ ⟨ga, gsa, gha, d1, d2, d3⟩ in2_1 hxx) (by decide) (by decide) (by rw [hml]; rfl) pd_6 rfl (argsL := [(.int 1)]) (rest := []) rfl rfl (Nat.le_of_eq rfl) (hb hby d13_22) e0 Ex_a (by decide) (by decide) (pc' := 25) rfl ?_
    intro T2 rv2 L2 X2 hQ2
    obtain ⟨rfl, Nq2, eh2⟩ := hQ2
    have NF2 := Fr.app NF0 Nq2
    show G (T2.setTop (mkF m 25 _ [(.double xx)]))
    refine g_dload hG X2 hx (hb hby d13_25) (pc' := 27) rfl rfl ?_
    obtain ⟨v27, q27⟩ : ∃ zz : Int32, cmpValue (FP.dcmp xx (0 : UInt64)) .l = zz := ⟨_, rfl⟩
    refine g_dcmp hG X2 hx (hb hby d13_27) (pc' := 28) rfl q27 ?_
    refine g_ifNo hG X2 hx (hb hby d13_28) (pc' := 31) (by rw [← q27, c2]; rfl) rfl ?_
    refine g_iconst hG X2 hx (hb hby d13_31) (pc' := 32) rfl (v := (1 : Int32)) rfl ?_
    refine g_goto hG X2 hx (hb hby d13_32) (pc' := 36) (by decide) (by decide) ?_
    exact e_retZ hGe X2 hx hrt hlk (hb hby d13_36) (Or.inr rfl) eh2 (by decide) (by decide) (⟨rfl, NF2, rfl⟩)

def Q_rmAt2_2 (Z : State) (a : Addr) (kk : Int32) (vv : UInt64) (h0 : Heap) (n0 : Nat) (v : Option Value) (h : Heap) (L : List Loc) : Prop := v = some (.int 1) ∧ Fr n0 L ∧ h = h0
set_option maxRecDepth 65536 in
set_option maxHeartbeats 40000000 in
theorem rmAt2_2 (l : Launch) (Z : State) (a0 : Array Value) (hw : ∀ d ∈ tables_1, d.before a0 Z = true) (ws : List Jvm.Cond) (a : Addr) (kk : Int32) (vv : UInt64) (h0 : Heap) (n0 : Nat) (Zs : n0 ≤ h0.size)  :
    Con l (⟨"org/termsieve/mapping/SharesClearPinLaw", "at", "(Lorg/termsieve/mapping/Shares;IIID)Z"⟩ : MethodName) method_3_code 8 (some .boolean) ws ({ frames := 1, cells := 0, slots := 0, locals := 16 } : Room) Z #[(.ref a), (.int 2), (.int 2), (.int kk), (.double vv)] h0 ({ frames := 1, cells := 0, slots := 0, locals := 16 } : Room).cells ({ frames := 1, cells := 0, slots := 0, locals := 16 } : Room).slots (Q_rmAt2_2 Z a kk vv h0 n0) := by
  refine Con.of (Ls := #[.val (.ref a), .val (.int 2), .val (.int 2), .val (.int kk), .val (.double vv), .second, .unset, .unset]) (plainFor_of_name (by first | (simp [plainName, overriddenIn]; done) | decide +kernel)) (fun m => by first | (simp [entryFrame, mkF, argsToLocals, Value.category]; done) | rfl) ?_
  intro p e s m below meth c s₁ G hGe hG hx hby hml hown hnm hrt hlk hZ X0 e0
  have hown : s.vm.findClass "org/termsieve/mapping/SharesClearPinLaw" = some m.cls := hown
  have hnm : meth.name = "at" := hnm
  have NF0 := Fr.nil n0
  refine g_iloadN hG X0 hx (hb hby d13_0) (pc' := 1) rfl rfl ?_
  refine g_iloadN hG X0 hx (hb hby d13_1) (pc' := 2) rfl rfl ?_
  refine g_icmpNo hG X0 hx (hb hby d13_2) (pc' := 5) (by decide) rfl ?_
  refine g_iconst hG X0 hx (hb hby d13_5) (pc' := 6) rfl (v := (1 : Int32)) rfl ?_
  exact e_retZ hGe X0 hx hrt hlk (hb hby d13_6) (Or.inr rfl) e0 (by decide) (by decide) (⟨rfl, NF0, rfl⟩)

def Q_rmAt2_3 (Z : State) (a : Addr) (kk : Int32) (vv : UInt64) (h0 : Heap) (n0 : Nat) (v : Option Value) (h : Heap) (L : List Loc) : Prop := v = some (.int 1) ∧ Fr n0 L ∧ h = h0
set_option maxRecDepth 65536 in
set_option maxHeartbeats 40000000 in
theorem rmAt2_3 (l : Launch) (Z : State) (a0 : Array Value) (hw : ∀ d ∈ tables_1, d.before a0 Z = true) (ws : List Jvm.Cond) (a : Addr) (kk : Int32) (vv : UInt64) (h0 : Heap) (n0 : Nat) (Zs : n0 ≤ h0.size)  :
    Con l (⟨"org/termsieve/mapping/SharesClearPinLaw", "at", "(Lorg/termsieve/mapping/Shares;IIID)Z"⟩ : MethodName) method_3_code 8 (some .boolean) ws ({ frames := 1, cells := 0, slots := 0, locals := 16 } : Room) Z #[(.ref a), (.int 3), (.int 2), (.int kk), (.double vv)] h0 ({ frames := 1, cells := 0, slots := 0, locals := 16 } : Room).cells ({ frames := 1, cells := 0, slots := 0, locals := 16 } : Room).slots (Q_rmAt2_3 Z a kk vv h0 n0) := by
  refine Con.of (Ls := #[.val (.ref a), .val (.int 3), .val (.int 2), .val (.int kk), .val (.double vv), .second, .unset, .unset]) (plainFor_of_name (by first | (simp [plainName, overriddenIn]; done) | decide +kernel)) (fun m => by first | (simp [entryFrame, mkF, argsToLocals, Value.category]; done) | rfl) ?_
  intro p e s m below meth c s₁ G hGe hG hx hby hml hown hnm hrt hlk hZ X0 e0
  have hown : s.vm.findClass "org/termsieve/mapping/SharesClearPinLaw" = some m.cls := hown
  have hnm : meth.name = "at" := hnm
  have NF0 := Fr.nil n0
  refine g_iloadN hG X0 hx (hb hby d13_0) (pc' := 1) rfl rfl ?_
  refine g_iloadN hG X0 hx (hb hby d13_1) (pc' := 2) rfl rfl ?_
  refine g_icmpNo hG X0 hx (hb hby d13_2) (pc' := 5) (by decide) rfl ?_
  refine g_iconst hG X0 hx (hb hby d13_5) (pc' := 6) rfl (v := (1 : Int32)) rfl ?_
  exact e_retZ hGe X0 hx hrt hlk (hb hby d13_6) (Or.inr rfl) e0 (by decide) (by decide) (⟨rfl, NF0, rfl⟩)

def Q_rmRa2_0n (Z : State) (a sa ha : Addr) (sh : Int32 → UInt64) (hd : Int32 → Int32) (kk : Int32) (vv mm : UInt64) (h0 : Heap) (n0 : Nat) (v : Option Value) (h : Heap) (L : List Loc) : Prop := v = none ∧ Fr n0 L ∧ Keep h0 h [a, sa, ha] ∧ NS2 Z h a sa ha (1 : Int32) (upd sh kk mm) (upd hd (0 : Int32) kk)
set_option maxRecDepth 65536 in
set_option maxHeartbeats 40000000 in
theorem rmRa2_0n (l : Launch) (Z : State) (a0 : Array Value) (hw : ∀ d ∈ tables_1, d.before a0 Z = true) (ws : List Jvm.Cond) (a sa ha : Addr) (sh : Int32 → UInt64) (hd : Int32 → Int32) (kk : Int32) (vv mm : UInt64) (h0 : Heap) (n0 : Nat) (Zs : n0 ≤ h0.size) (NQ : NS2 Z h0 a sa ha (0 : Int32) sh hd) (DD : Dis n0 a sa ha) (ik : In2 kk) (nv : Jvm.Free.Fl.NoNaN64 vv) (hm : Jvm.Native.java_lang_Math.nans.pick64 true 0 vv = mm) (hxx : sh kk = 0) :
    Con l (⟨"org/termsieve/mapping/Shares", "raise", "(ID)V"⟩ : MethodName) prog_78_method_2_code 4 none ws ({ frames := 1, cells := 0, slots := 0, locals := 40 } : Room) Z #[(.ref a), (.int kk), (.double vv)] h0 ({ frames := 1, cells := 0, slots := 0, locals := 40 } : Room).cells ({ frames := 1, cells := 0, slots := 0, locals := 40 } : Room).slots (Q_rmRa2_0n Z a sa ha sh hd kk vv mm h0 n0) := by
  refine Con.of (Ls := #[.val (.ref a), .val (.int kk), .val (.double vv), .second]) (plainFor_of_name (by first | (simp [plainName, overriddenIn]; done) | decide +kernel)) (fun m => by first | (simp [entryFrame, mkF, argsToLocals, Value.category]; done) | rfl) ?_
  intro p e s m below meth c s₁ G hGe hG hx hby hml hown hnm hrt hlk hZ X0 e0
  have hown : s.vm.findClass "org/termsieve/mapping/Shares" = some m.cls := hown
  have hnm : meth.name = "raise" := hnm
  have NF0 := Fr.nil n0
  obtain ⟨Ex_a, Ex_ha, F_shares_a, F_held_a, F_size_a, V_sa, V_ha⟩ := NQ
  obtain ⟨ga, gsa, gha, d1, d2, d3⟩ := DD
  have K0 := Keep.refl h0 [a, sa, ha]
  subst hm
  refine g_aloadN hG X0 hx (hb hby d3_0) (pc' := 1) rfl rfl rfl ?_
  refine g_getF hG X0 hx hZ hown (wd hw 10 rfl) Via.refl e0 F_shares_a (hb hby d3_1) (pc' := 4) rfl ?_
  intro T1 X1 e1
  refine g_iloadN hG X1 hx (hb hby d3_4) (pc' := 5) rfl rfl ?_
  refine g_daload hG X1 hx hZ e1 V_sa (j := kk) (v := (.double 0)) (in2_nn ik) (in2_atd ik hxx) (hb hby d3_5) (pc' := 6) rfl ?_
  refine g_dconst0 hG X1 hx (hb hby d3_6) (pc' := 7) rfl (v := (0 : UInt64)) rfl ?_
  obtain ⟨v7, q7⟩ : ∃ zz : Int32, cmpValue (FP.dcmp (0 : UInt64) (0 : UInt64)) .l = zz := ⟨_, rfl⟩
  refine g_dcmp hG X1 hx (hb hby d3_7) (pc' := 8) rfl q7 ?_
  refine g_ifNo hG X1 hx (hb hby d3_8) (pc' := 11) (by rw [← q7, own_zz]; rfl) rfl ?_
  refine g_aloadN hG X1 hx (hb hby d3_11) (pc' := 12) rfl rfl rfl ?_
  refine g_getF hG X1 hx hZ hown (wd hw 13 rfl) Via.refl e1 F_held_a (hb hby d3_12) (pc' := 15) rfl ?_
  intro T2 X2 e2
  refine g_aloadN hG X2 hx (hb hby d3_15) (pc' := 16) rfl rfl rfl ?_
  refine g_dup hG X2 hx (hb hby d3_16) (pc' := 17) rfl rfl ?_
  refine g_getF hG X2 hx hZ hown (wd hw 20 rfl) Via.refl e2 F_size_a (hb hby d3_17) (pc' := 20) rfl ?_
  intro T3 X3 e3
  refine g_dupX1 hG X3 hx (hb hby d3_20) (pc' := 21) rfl rfl rfl ?_
  refine g_iconst hG X3 hx (hb hby d3_21) (pc' := 22) rfl (v := (1 : Int32)) rfl ?_
  refine g_iadd hG X3 hx (hb hby d3_22) (pc' := 23) rfl (v := (1 : Int32)) (by decide) ?_
  refine g_putF hG X3 hx hZ hown (wd hw 20 rfl) Via.refl e3 F_size_a Ex_a (Or.inl (wd hw 21 rfl)) (wd hw 1 rfl) (v' := (.int 1)) (ty := .int) (by decide) rfl rfl (hb hby d3_23) (pc' := 26) rfl ?_
  intro T4 h4 X4 e4 W4
  have Ex_a := Ex_a.wr W4
  have Ex_ha := Ex_ha.wr W4
  have F_shares_a := F_shares_a.other W4 (Or.inr (slot_ne (Or.inr (wd hw 11 rfl)) (Or.inl (wd hw 21 rfl)) (by decide) (t := (.array .double)) (t' := .int) (by decide) (by decide)))
  have F_held_a := F_held_a.other W4 (Or.inr (slot_ne (Or.inr (wd hw 14 rfl)) (Or.inl (wd hw 21 rfl)) (by decide) (t := (.array .int)) (t' := .int) (by decide) (by decide)))
  have F_size_a := F_size_a.same W4
  have V_sa := V_sa.other W4 (Ne.symm d1)
  have V_ha := V_ha.other W4 (Ne.symm d2)
  have Zs := Nat.le_trans Zs (Wr.size W4)
  have NF4 := Fr.snoc X4 NF0 ga
  have K4 := K0.wr W4 (Or.inl (List.mem_of_getElem? (i := 0) rfl))
  refine g_iloadN hG X4 hx (hb hby d3_26) (pc' := 27) rfl rfl ?_
  refine g_iastore hG X4 hx hZ e4 V_ha (j := (0 : Int32)) (in2_nn in2_0) (in2_len in2_0) (hb hby d3_27) (pc' := 28) rfl ?_
  intro T5 h5 X5 e5 W5 Vn5
  rw [in2_set in2_0] at Vn5
  have V_ha : AV Z h5 ha .int (2 : Int32) (fn2 (upd hd (0 : Int32) kk)) := Vn5
  have Ex_a := Ex_a.wr W5
  have Ex_ha := Ex_ha.wr W5
  have F_shares_a := F_shares_a.other W5 (Or.inl d2)
  have F_held_a := F_held_a.other W5 (Or.inl d2)
  have F_size_a := F_size_a.other W5 (Or.inl d2)
  have V_sa := V_sa.other W5 d3
  have Zs := Nat.le_trans Zs (Wr.size W5)
  have NF5 := Fr.snoc X5 NF4 gha
  have K5 := K4.wr W5 (Or.inl (List.mem_of_getElem? (i := 2) rfl))
  refine g_aloadN hG X5 hx (hb hby d3_28) (pc' := 29) rfl rfl rfl ?_
  refine g_getF hG X5 hx hZ hown (wd hw 10 rfl) Via.refl e5 F_shares_a (hb hby d3_29) (pc' := 32) rfl ?_
  intro T6 X6 e6
  refine g_iloadN hG X6 hx (hb hby d3_32) (pc' := 33) rfl rfl ?_
  refine g_aloadN hG X6 hx (hb hby d3_33) (pc' := 34) rfl rfl rfl ?_
  refine g_getF hG X6 hx hZ hown (wd hw 10 rfl) Via.refl e6 F_shares_a (hb hby d3_34) (pc' := 37) rfl ?_
  intro T7 X7 e7
  refine g_iloadN hG X7 hx (hb hby d3_37) (pc' := 38) rfl rfl ?_
  refine g_daload hG X7 hx hZ e7 V_sa (j := kk) (v := (.double 0)) (in2_nn ik) (in2_atd ik hxx) (hb hby d3_38) (pc' := 39) rfl ?_
  refine g_dloadN hG X7 hx (hb hby d3_39) (pc' := 40) rfl rfl ?_
  refine g_natS hG X7 hx hZ (y := (⟨"java/lang/Math", "max", "(DD)D"⟩ : MethodName)) (val := (.double (Jvm.Native.java_lang_Math.nans.pick64 true (0 : UInt64) vv))) 2 hown (wd hw 22 rfl) (wd hw 23 rfl) (wd hw 24 rfl) (wd hw 25 rfl) (by decide) (fun hc => Jvm.Free.Fl.Abs.maxD_pays (0 : UInt64) vv hc (by decide) (by decide)) (by rw [hml]; rfl) pd_7 rfl (argsL := [(.double 0), (.double vv)]) (rest := [(.int kk), (.ref sa)]) rfl (Nat.le_of_eq rfl) (hb hby d3_40) e7 (by decide) (by decide) (⟨rfl, own_z.noNaN, nv⟩) (pc' := 43) rfl ?_
  intro T8 X8 e8
  show G (T8.setTop (mkF m 43 _ [(.double (Jvm.Native.java_lang_Math.nans.pick64 true (0 : UInt64) vv)), (.int kk), (.ref sa)]))
  refine g_dastore hG X8 hx hZ e8 V_sa (j := kk) (in2_nn ik) (in2_lend ik) (hb hby d3_43) (pc' := 44) rfl ?_
  intro T9 h9 X9 e9 W9 Vn9
  rw [in2_setd ik] at Vn9
  have V_sa : AV Z h9 sa .double (2 : Int32) (fd2 (upd sh kk (Jvm.Native.java_lang_Math.nans.pick64 true (0 : UInt64) vv))) := Vn9
  have Ex_a := Ex_a.wr W9
  have Ex_ha := Ex_ha.wr W9
  have F_shares_a := F_shares_a.other W9 (Or.inl d1)
  have F_held_a := F_held_a.other W9 (Or.inl d1)
  have F_size_a := F_size_a.other W9 (Or.inl d1)
  have V_ha := V_ha.other W9 (Ne.symm d3)
  have Zs := Nat.le_trans Zs (Wr.size W9)
  have NF9 := Fr.snoc X9 NF5 gsa
  have K9 := K5.wr W9 (Or.inl (List.mem_of_getElem? (i := 1) rfl))
  exact e_ret0 hGe X9 hx hrt hlk (hb hby d3_44) e9 (by decide) (by decide) (⟨rfl, NF9, K9, Ex_a, Ex_ha, F_shares_a, F_held_a, F_size_a, V_sa, V_ha⟩)

def Q_rmCl2_0 (Z : State) (a sa ha : Addr) (sh : Int32 → UInt64) (hd : Int32 → Int32) (h0 : Heap) (n0 : Nat) (v : Option Value) (h : Heap) (L : List Loc) : Prop := v = none ∧ Fr n0 L ∧ Keep h0 h [a, sa, ha] ∧ NS2 Z h a sa ha (0 : Int32) sh hd
set_option maxRecDepth 65536 in
set_option maxHeartbeats 40000000 in
theorem rmCl2_0 (l : Launch) (Z : State) (a0 : Array Value) (hw : ∀ d ∈ tables_1, d.before a0 Z = true) (ws : List Jvm.Cond) (a sa ha : Addr) (sh : Int32 → UInt64) (hd : Int32 → Int32) (h0 : Heap) (n0 : Nat) (Zs : n0 ≤ h0.size) (NQ : NS2 Z h0 a sa ha (0 : Int32) sh hd) (DD : Dis n0 a sa ha) :
    Con l (⟨"org/termsieve/mapping/Shares", "clear", "()V"⟩ : MethodName) prog_78_method_4_code 2 none ws ({ frames := 0, cells := 0, slots := 0, locals := 0 } : Room) Z #[(.ref a)] h0 ({ frames := 0, cells := 0, slots := 0, locals := 0 } : Room).cells ({ frames := 0, cells := 0, slots := 0, locals := 0 } : Room).slots (Q_rmCl2_0 Z a sa ha sh hd  h0 n0) := by
  refine Con.of (Ls := #[.val (.ref a), .unset]) (plainFor_of_name (by first | (simp [plainName, overriddenIn]; done) | decide +kernel)) (fun m => by first | (simp [entryFrame, mkF, argsToLocals, Value.category]; done) | rfl) ?_
  intro p e s m below meth c s₁ G hGe hG hx hby hml hown hnm hrt hlk hZ X0 e0
  have hown : s.vm.findClass "org/termsieve/mapping/Shares" = some m.cls := hown
  have hnm : meth.name = "clear" := hnm
  have NF0 := Fr.nil n0
  obtain ⟨Ex_a, Ex_ha, F_shares_a, F_held_a, F_size_a, V_sa, V_ha⟩ := NQ
  obtain ⟨ga, gsa, gha, d1, d2, d3⟩ := DD
  have K0 := Keep.refl h0 [a, sa, ha]
  refine g_iconst hG X0 hx (hb hby d5_0) (pc' := 1) rfl (v := (0 : Int32)) rfl ?_
  refine g_istoreN hG X0 hx (hb hby d5_1) (pc' := 2) rfl (Ls' := #[.val (.ref a), .val (.int 0)]) rfl ?_
  refine g_iloadN hG X0 hx (hb hby d5_2) (pc' := 3) rfl rfl ?_
  refine g_aloadN hG X0 hx (hb hby d5_3) (pc' := 4) rfl rfl rfl ?_
  refine g_getF hG X0 hx hZ hown (wd hw 20 rfl) Via.refl e0 F_size_a (hb hby d5_4) (pc' := 7) rfl ?_
  intro T1 X1 e1
  refine g_icmpYes hG X1 hx (hb hby d5_7) (pc' := 28) (by decide) (by decide) (by decide) ?_
  refine g_aloadN hG X1 hx (hb hby d5_28) (pc' := 29) rfl rfl rfl ?_
  refine g_iconst hG X1 hx (hb hby d5_29) (pc' := 30) rfl (v := (0 : Int32)) rfl ?_
  refine g_putF hG X1 hx hZ hown (wd hw 20 rfl) Via.refl e1 F_size_a Ex_a (Or.inl (wd hw 21 rfl)) (wd hw 1 rfl) (v' := (.int 0)) (ty := .int) (by decide) rfl rfl (hb hby d5_30) (pc' := 33) rfl ?_
  intro T2 h2 X2 e2 W2
  have Ex_a := Ex_a.wr W2
  have Ex_ha := Ex_ha.wr W2
  have F_shares_a := F_shares_a.other W2 (Or.inr (slot_ne (Or.inr (wd hw 11 rfl)) (Or.inl (wd hw 21 rfl)) (by decide) (t := (.array .double)) (t' := .int) (by decide) (by decide)))
  have F_held_a := F_held_a.other W2 (Or.inr (slot_ne (Or.inr (wd hw 14 rfl)) (Or.inl (wd hw 21 rfl)) (by decide) (t := (.array .int)) (t' := .int) (by decide) (by decide)))
  have F_size_a := F_size_a.same W2
  have V_sa := V_sa.other W2 (Ne.symm d1)
  have V_ha := V_ha.other W2 (Ne.symm d2)
  have Zs := Nat.le_trans Zs (Wr.size W2)
  have NF2 := Fr.snoc X2 NF0 ga
  have K2 := K0.wr W2 (Or.inl (List.mem_of_getElem? (i := 0) rfl))
  exact e_ret0 hGe X2 hx hrt hlk (hb hby d5_33) e2 (by decide) (by decide) (⟨rfl, NF2, K2, Ex_a, Ex_ha, F_shares_a, F_held_a, F_size_a, V_sa, V_ha⟩)

def Q_rmRa2_1n (Z : State) (a sa ha : Addr) (sh : Int32 → UInt64) (hd : Int32 → Int32) (kk : Int32) (vv mm : UInt64) (h0 : Heap) (n0 : Nat) (v : Option Value) (h : Heap) (L : List Loc) : Prop := v = none ∧ Fr n0 L ∧ Keep h0 h [a, sa, ha] ∧ NS2 Z h a sa ha (2 : Int32) (upd sh kk mm) (upd hd (1 : Int32) kk)
set_option maxRecDepth 65536 in
set_option maxHeartbeats 40000000 in
theorem rmRa2_1n (l : Launch) (Z : State) (a0 : Array Value) (hw : ∀ d ∈ tables_1, d.before a0 Z = true) (ws : List Jvm.Cond) (a sa ha : Addr) (sh : Int32 → UInt64) (hd : Int32 → Int32) (kk : Int32) (vv mm : UInt64) (h0 : Heap) (n0 : Nat) (Zs : n0 ≤ h0.size) (NQ : NS2 Z h0 a sa ha (1 : Int32) sh hd) (DD : Dis n0 a sa ha) (ik : In2 kk) (nv : Jvm.Free.Fl.NoNaN64 vv) (hm : Jvm.Native.java_lang_Math.nans.pick64 true 0 vv = mm) (hxx : sh kk = 0) :
    Con l (⟨"org/termsieve/mapping/Shares", "raise", "(ID)V"⟩ : MethodName) prog_78_method_2_code 4 none ws ({ frames := 1, cells := 0, slots := 0, locals := 40 } : Room) Z #[(.ref a), (.int kk), (.double vv)] h0 ({ frames := 1, cells := 0, slots := 0, locals := 40 } : Room).cells ({ frames := 1, cells := 0, slots := 0, locals := 40 } : Room).slots (Q_rmRa2_1n Z a sa ha sh hd kk vv mm h0 n0) := by
  refine Con.of (Ls := #[.val (.ref a), .val (.int kk), .val (.double vv), .second]) (plainFor_of_name (by first | (simp [plainName, overriddenIn]; done) | decide +kernel)) (fun m => by first | (simp [entryFrame, mkF, argsToLocals, Value.category]; done) | rfl) ?_
  intro p e s m below meth c s₁ G hGe hG hx hby hml hown hnm hrt hlk hZ X0 e0
  have hown : s.vm.findClass "org/termsieve/mapping/Shares" = some m.cls := hown
  have hnm : meth.name = "raise" := hnm
  have NF0 := Fr.nil n0
  obtain ⟨Ex_a, Ex_ha, F_shares_a, F_held_a, F_size_a, V_sa, V_ha⟩ := NQ
  obtain ⟨ga, gsa, gha, d1, d2, d3⟩ := DD
  have K0 := Keep.refl h0 [a, sa, ha]
  subst hm
  refine g_aloadN hG X0 hx (hb hby d3_0) (pc' := 1) rfl rfl rfl ?_
  refine g_getF hG X0 hx hZ hown (wd hw 10 rfl) Via.refl e0 F_shares_a (hb hby d3_1) (pc' := 4) rfl ?_
  intro T1 X1 e1
  refine g_iloadN hG X1 hx (hb hby d3_4) (pc' := 5) rfl rfl ?_
  refine g_daload hG X1 hx hZ e1 V_sa (j := kk) (v := (.double 0)) (in2_nn ik) (in2_atd ik hxx) (hb hby d3_5) (pc' := 6) rfl ?_
  refine g_dconst0 hG X1 hx (hb hby d3_6) (pc' := 7) rfl (v := (0 : UInt64)) rfl ?_
  obtain ⟨v7, q7⟩ : ∃ zz : Int32, cmpValue (FP.dcmp (0 : UInt64) (0 : UInt64)) .l = zz := ⟨_, rfl⟩
  refine g_dcmp hG X1 hx (hb hby d3_7) (pc' := 8) rfl q7 ?_
  refine g_ifNo hG X1 hx (hb hby d3_8) (pc' := 11) (by rw [← q7, own_zz]; rfl) rfl ?_
  refine g_aloadN hG X1 hx (hb hby d3_11) (pc' := 12) rfl rfl rfl ?_
  refine g_getF hG X1 hx hZ hown (wd hw 13 rfl) Via.refl e1 F_held_a (hb hby d3_12) (pc' := 15) rfl ?_
  intro T2 X2 e2
  refine g_aloadN hG X2 hx (hb hby d3_15) (pc' := 16) rfl rfl rfl ?_
  refine g_dup hG X2 hx (hb hby d3_16) (pc' := 17) rfl rfl ?_
  refine g_getF hG X2 hx hZ hown (wd hw 20 rfl) Via.refl e2 F_size_a (hb hby d3_17) (pc' := 20) rfl ?_
  intro T3 X3 e3
  refine g_dupX1 hG X3 hx (hb hby d3_20) (pc' := 21) rfl rfl rfl ?_
  refine g_iconst hG X3 hx (hb hby d3_21) (pc' := 22) rfl (v := (1 : Int32)) rfl ?_
  refine g_iadd hG X3 hx (hb hby d3_22) (pc' := 23) rfl (v := (2 : Int32)) (by decide) ?_
  refine g_putF hG X3 hx hZ hown (wd hw 20 rfl) Via.refl e3 F_size_a Ex_a (Or.inl (wd hw 21 rfl)) (wd hw 1 rfl) (v' := (.int 2)) (ty := .int) (by decide) rfl rfl (hb hby d3_23) (pc' := 26) rfl ?_
  intro T4 h4 X4 e4 W4
  have Ex_a := Ex_a.wr W4
  have Ex_ha := Ex_ha.wr W4
  have F_shares_a := F_shares_a.other W4 (Or.inr (slot_ne (Or.inr (wd hw 11 rfl)) (Or.inl (wd hw 21 rfl)) (by decide) (t := (.array .double)) (t' := .int) (by decide) (by decide)))
  have F_held_a := F_held_a.other W4 (Or.inr (slot_ne (Or.inr (wd hw 14 rfl)) (Or.inl (wd hw 21 rfl)) (by decide) (t := (.array .int)) (t' := .int) (by decide) (by decide)))
  have F_size_a := F_size_a.same W4
  have V_sa := V_sa.other W4 (Ne.symm d1)
  have V_ha := V_ha.other W4 (Ne.symm d2)
  have Zs := Nat.le_trans Zs (Wr.size W4)
  have NF4 := Fr.snoc X4 NF0 ga
  have K4 := K0.wr W4 (Or.inl (List.mem_of_getElem? (i := 0) rfl))
  refine g_iloadN hG X4 hx (hb hby d3_26) (pc' := 27) rfl rfl ?_
  refine g_iastore hG X4 hx hZ e4 V_ha (j := (1 : Int32)) (in2_nn in2_1) (in2_len in2_1) (hb hby d3_27) (pc' := 28) rfl ?_
  intro T5 h5 X5 e5 W5 Vn5
  rw [in2_set in2_1] at Vn5
  have V_ha : AV Z h5 ha .int (2 : Int32) (fn2 (upd hd (1 : Int32) kk)) := Vn5
  have Ex_a := Ex_a.wr W5
  have Ex_ha := Ex_ha.wr W5
  have F_shares_a := F_shares_a.other W5 (Or.inl d2)
  have F_held_a := F_held_a.other W5 (Or.inl d2)
  have F_size_a := F_size_a.other W5 (Or.inl d2)
  have V_sa := V_sa.other W5 d3
  have Zs := Nat.le_trans Zs (Wr.size W5)
  have NF5 := Fr.snoc X5 NF4 gha
  have K5 := K4.wr W5 (Or.inl (List.mem_of_getElem? (i := 2) rfl))
  refine g_aloadN hG X5 hx (hb hby d3_28) (pc' := 29) rfl rfl rfl ?_
  refine g_getF hG X5 hx hZ hown (wd hw 10 rfl) Via.refl e5 F_shares_a (hb hby d3_29) (pc' := 32) rfl ?_
  intro T6 X6 e6
  refine g_iloadN hG X6 hx (hb hby d3_32) (pc' := 33) rfl rfl ?_
  refine g_aloadN hG X6 hx (hb hby d3_33) (pc' := 34) rfl rfl rfl ?_
  refine g_getF hG X6 hx hZ hown (wd hw 10 rfl) Via.refl e6 F_shares_a (hb hby d3_34) (pc' := 37) rfl ?_
  intro T7 X7 e7
  refine g_iloadN hG X7 hx (hb hby d3_37) (pc' := 38) rfl rfl ?_
  refine g_daload hG X7 hx hZ e7 V_sa (j := kk) (v := (.double 0)) (in2_nn ik) (in2_atd ik hxx) (hb hby d3_38) (pc' := 39) rfl ?_
  refine g_dloadN hG X7 hx (hb hby d3_39) (pc' := 40) rfl rfl ?_
  refine g_natS hG X7 hx hZ (y := (⟨"java/lang/Math", "max", "(DD)D"⟩ : MethodName)) (val := (.double (Jvm.Native.java_lang_Math.nans.pick64 true (0 : UInt64) vv))) 2 hown (wd hw 22 rfl) (wd hw 23 rfl) (wd hw 24 rfl) (wd hw 25 rfl) (by decide) (fun hc => Jvm.Free.Fl.Abs.maxD_pays (0 : UInt64) vv hc (by decide) (by decide)) (by rw [hml]; rfl) pd_7 rfl (argsL := [(.double 0), (.double vv)]) (rest := [(.int kk), (.ref sa)]) rfl (Nat.le_of_eq rfl) (hb hby d3_40) e7 (by decide) (by decide) (⟨rfl, own_z.noNaN, nv⟩) (pc' := 43) rfl ?_
  intro T8 X8 e8
  show G (T8.setTop (mkF m 43 _ [(.double (Jvm.Native.java_lang_Math.nans.pick64 true (0 : UInt64) vv)), (.int kk), (.ref sa)]))
  refine g_dastore hG X8 hx hZ e8 V_sa (j := kk) (in2_nn ik) (in2_lend ik) (hb hby d3_43) (pc' := 44) rfl ?_
  intro T9 h9 X9 e9 W9 Vn9
  rw [in2_setd ik] at Vn9
  have V_sa : AV Z h9 sa .double (2 : Int32) (fd2 (upd sh kk (Jvm.Native.java_lang_Math.nans.pick64 true (0 : UInt64) vv))) := Vn9
  have Ex_a := Ex_a.wr W9
  have Ex_ha := Ex_ha.wr W9
  have F_shares_a := F_shares_a.other W9 (Or.inl d1)
  have F_held_a := F_held_a.other W9 (Or.inl d1)
  have F_size_a := F_size_a.other W9 (Or.inl d1)
  have V_ha := V_ha.other W9 (Ne.symm d3)
  have Zs := Nat.le_trans Zs (Wr.size W9)
  have NF9 := Fr.snoc X9 NF5 gsa
  have K9 := K5.wr W9 (Or.inl (List.mem_of_getElem? (i := 1) rfl))
  exact e_ret0 hGe X9 hx hrt hlk (hb hby d3_44) e9 (by decide) (by decide) (⟨rfl, NF9, K9, Ex_a, Ex_ha, F_shares_a, F_held_a, F_size_a, V_sa, V_ha⟩)

def Q_rmRa2_1o (Z : State) (a sa ha : Addr) (sh : Int32 → UInt64) (hd : Int32 → Int32) (kk : Int32) (vv mm xx : UInt64) (h0 : Heap) (n0 : Nat) (v : Option Value) (h : Heap) (L : List Loc) : Prop := v = none ∧ Fr n0 L ∧ Keep h0 h [a, sa, ha] ∧ NS2 Z h a sa ha (1 : Int32) (upd sh kk mm) hd
set_option maxRecDepth 65536 in
set_option maxHeartbeats 40000000 in
theorem rmRa2_1o (l : Launch) (Z : State) (a0 : Array Value) (hw : ∀ d ∈ tables_1, d.before a0 Z = true) (ws : List Jvm.Cond) (a sa ha : Addr) (sh : Int32 → UInt64) (hd : Int32 → Int32) (kk : Int32) (vv mm xx : UInt64) (h0 : Heap) (n0 : Nat) (Zs : n0 ≤ h0.size) (NQ : NS2 Z h0 a sa ha (1 : Int32) sh hd) (DD : Dis n0 a sa ha) (ik : In2 kk) (nv : Jvm.Free.Fl.NoNaN64 vv) (hm : Jvm.Native.java_lang_Math.nans.pick64 true xx vv = mm) (hxx : sh kk = xx) (nx : Jvm.Free.Fl.NoNaN64 xx) (gx : FP.dcmp xx 0 = some .gt) :
    Con l (⟨"org/termsieve/mapping/Shares", "raise", "(ID)V"⟩ : MethodName) prog_78_method_2_code 4 none ws ({ frames := 1, cells := 0, slots := 0, locals := 40 } : Room) Z #[(.ref a), (.int kk), (.double vv)] h0 ({ frames := 1, cells := 0, slots := 0, locals := 40 } : Room).cells ({ frames := 1, cells := 0, slots := 0, locals := 40 } : Room).slots (Q_rmRa2_1o Z a sa ha sh hd kk vv mm xx h0 n0) := by
  refine Con.of (Ls := #[.val (.ref a), .val (.int kk), .val (.double vv), .second]) (plainFor_of_name (by first | (simp [plainName, overriddenIn]; done) | decide +kernel)) (fun m => by first | (simp [entryFrame, mkF, argsToLocals, Value.category]; done) | rfl) ?_
  intro p e s m below meth c s₁ G hGe hG hx hby hml hown hnm hrt hlk hZ X0 e0
  have hown : s.vm.findClass "org/termsieve/mapping/Shares" = some m.cls := hown
  have hnm : meth.name = "raise" := hnm
  have NF0 := Fr.nil n0
  obtain ⟨Ex_a, Ex_ha, F_shares_a, F_held_a, F_size_a, V_sa, V_ha⟩ := NQ
  obtain ⟨ga, gsa, gha, d1, d2, d3⟩ := DD
  have K0 := Keep.refl h0 [a, sa, ha]
  subst hm
  refine g_aloadN hG X0 hx (hb hby d3_0) (pc' := 1) rfl rfl rfl ?_
  refine g_getF hG X0 hx hZ hown (wd hw 10 rfl) Via.refl e0 F_shares_a (hb hby d3_1) (pc' := 4) rfl ?_
  intro T1 X1 e1
  refine g_iloadN hG X1 hx (hb hby d3_4) (pc' := 5) rfl rfl ?_
  refine g_daload hG X1 hx hZ e1 V_sa (j := kk) (v := (.double xx)) (in2_nn ik) (in2_atd ik hxx) (hb hby d3_5) (pc' := 6) rfl ?_
  refine g_dconst0 hG X1 hx (hb hby d3_6) (pc' := 7) rfl (v := (0 : UInt64)) rfl ?_
  obtain ⟨v7, q7⟩ : ∃ zz : Int32, cmpValue (FP.dcmp xx (0 : UInt64)) .l = zz := ⟨_, rfl⟩
  refine g_dcmp hG X1 hx (hb hby d3_7) (pc' := 8) rfl q7 ?_
  refine g_ifYes hG X1 hx (hb hby d3_8) (pc' := 28) (by rw [← q7, gx]; rfl) (by decide) (by decide) ?_
  refine g_aloadN hG X1 hx (hb hby d3_28) (pc' := 29) rfl rfl rfl ?_
  refine g_getF hG X1 hx hZ hown (wd hw 10 rfl) Via.refl e1 F_shares_a (hb hby d3_29) (pc' := 32) rfl ?_
  intro T2 X2 e2
  refine g_iloadN hG X2 hx (hb hby d3_32) (pc' := 33) rfl rfl ?_
  refine g_aloadN hG X2 hx (hb hby d3_33) (pc' := 34) rfl rfl rfl ?_
  refine g_getF hG X2 hx hZ hown (wd hw 10 rfl) Via.refl e2 F_shares_a (hb hby d3_34) (pc' := 37) rfl ?_
  intro T3 X3 e3
  refine g_iloadN hG X3 hx (hb hby d3_37) (pc' := 38) rfl rfl ?_
  refine g_daload hG X3 hx hZ e3 V_sa (j := kk) (v := (.double xx)) (in2_nn ik) (in2_atd ik hxx) (hb hby d3_38) (pc' := 39) rfl ?_
  refine g_dloadN hG X3 hx (hb hby d3_39) (pc' := 40) rfl rfl ?_
  refine g_natS hG X3 hx hZ (y := (⟨"java/lang/Math", "max", "(DD)D"⟩ : MethodName)) (val := (.double (Jvm.Native.java_lang_Math.nans.pick64 true xx vv))) 2 hown (wd hw 22 rfl) (wd hw 23 rfl) (wd hw 24 rfl) (wd hw 25 rfl) (by decide) (fun hc => Jvm.Free.Fl.Abs.maxD_pays xx vv hc (by decide) (by decide)) (by rw [hml]; rfl) pd_7 rfl (argsL := [(.double xx), (.double vv)]) (rest := [(.int kk), (.ref sa)]) rfl (Nat.le_of_eq rfl) (hb hby d3_40) e3 (by decide) (by decide) (⟨rfl, nx, nv⟩) (pc' := 43) rfl ?_
  intro T4 X4 e4
  show G (T4.setTop (mkF m 43 _ [(.double (Jvm.Native.java_lang_Math.nans.pick64 true xx vv)), (.int kk), (.ref sa)]))
  refine g_dastore hG X4 hx hZ e4 V_sa (j := kk) (in2_nn ik) (in2_lend ik) (hb hby d3_43) (pc' := 44) rfl ?_
  intro T5 h5 X5 e5 W5 Vn5
  rw [in2_setd ik] at Vn5
  have V_sa : AV Z h5 sa .double (2 : Int32) (fd2 (upd sh kk (Jvm.Native.java_lang_Math.nans.pick64 true xx vv))) := Vn5
  have Ex_a := Ex_a.wr W5
  have Ex_ha := Ex_ha.wr W5
  have F_shares_a := F_shares_a.other W5 (Or.inl d1)
  have F_held_a := F_held_a.other W5 (Or.inl d1)
  have F_size_a := F_size_a.other W5 (Or.inl d1)
  have V_ha := V_ha.other W5 (Ne.symm d3)
  have Zs := Nat.le_trans Zs (Wr.size W5)
  have NF5 := Fr.snoc X5 NF0 gsa
  have K5 := K0.wr W5 (Or.inl (List.mem_of_getElem? (i := 1) rfl))
  exact e_ret0 hGe X5 hx hrt hlk (hb hby d3_44) e5 (by decide) (by decide) (⟨rfl, NF5, K5, Ex_a, Ex_ha, F_shares_a, F_held_a, F_size_a, V_sa, V_ha⟩)

def Q_rmCl2_1 (Z : State) (a sa ha : Addr) (sh : Int32 → UInt64) (hd : Int32 → Int32) (k0 : Int32) (h0 : Heap) (n0 : Nat) (v : Option Value) (h : Heap) (L : List Loc) : Prop := v = none ∧ Fr n0 L ∧ Keep h0 h [a, sa, ha] ∧ NS2 Z h a sa ha (0 : Int32) (upd sh k0 0) hd
set_option maxRecDepth 65536 in
set_option maxHeartbeats 40000000 in
theorem rmCl2_1 (l : Launch) (Z : State) (a0 : Array Value) (hw : ∀ d ∈ tables_1, d.before a0 Z = true) (ws : List Jvm.Cond) (a sa ha : Addr) (sh : Int32 → UInt64) (hd : Int32 → Int32) (k0 : Int32) (h0 : Heap) (n0 : Nat) (Zs : n0 ≤ h0.size) (NQ : NS2 Z h0 a sa ha (1 : Int32) sh hd) (DD : Dis n0 a sa ha) (hk0 : hd (0 : Int32) = k0) (ik0 : In2 k0) :
    Con l (⟨"org/termsieve/mapping/Shares", "clear", "()V"⟩ : MethodName) prog_78_method_4_code 2 none ws ({ frames := 0, cells := 0, slots := 0, locals := 0 } : Room) Z #[(.ref a)] h0 ({ frames := 0, cells := 0, slots := 0, locals := 0 } : Room).cells ({ frames := 0, cells := 0, slots := 0, locals := 0 } : Room).slots (Q_rmCl2_1 Z a sa ha sh hd k0 h0 n0) := by
  refine Con.of (Ls := #[.val (.ref a), .unset]) (plainFor_of_name (by first | (simp [plainName, overriddenIn]; done) | decide +kernel)) (fun m => by first | (simp [entryFrame, mkF, argsToLocals, Value.category]; done) | rfl) ?_
  intro p e s m below meth c s₁ G hGe hG hx hby hml hown hnm hrt hlk hZ X0 e0
  have hown : s.vm.findClass "org/termsieve/mapping/Shares" = some m.cls := hown
  have hnm : meth.name = "clear" := hnm
  have NF0 := Fr.nil n0
  obtain ⟨Ex_a, Ex_ha, F_shares_a, F_held_a, F_size_a, V_sa, V_ha⟩ := NQ
  obtain ⟨ga, gsa, gha, d1, d2, d3⟩ := DD
  have K0 := Keep.refl h0 [a, sa, ha]
  refine g_iconst hG X0 hx (hb hby d5_0) (pc' := 1) rfl (v := (0 : Int32)) rfl ?_
  refine g_istoreN hG X0 hx (hb hby d5_1) (pc' := 2) rfl (Ls' := #[.val (.ref a), .val (.int 0)]) rfl ?_
  refine g_iloadN hG X0 hx (hb hby d5_2) (pc' := 3) rfl rfl ?_
  refine g_aloadN hG X0 hx (hb hby d5_3) (pc' := 4) rfl rfl rfl ?_
  refine g_getF hG X0 hx hZ hown (wd hw 20 rfl) Via.refl e0 F_size_a (hb hby d5_4) (pc' := 7) rfl ?_
  intro T1 X1 e1
  refine g_icmpNo hG X1 hx (hb hby d5_7) (pc' := 10) (by decide) rfl ?_
  refine g_aloadN hG X1 hx (hb hby d5_10) (pc' := 11) rfl rfl rfl ?_
  refine g_getF hG X1 hx hZ hown (wd hw 10 rfl) Via.refl e1 F_shares_a (hb hby d5_11) (pc' := 14) rfl ?_
  intro T2 X2 e2
  refine g_aloadN hG X2 hx (hb hby d5_14) (pc' := 15) rfl rfl rfl ?_
  refine g_getF hG X2 hx hZ hown (wd hw 13 rfl) Via.refl e2 F_held_a (hb hby d5_15) (pc' := 18) rfl ?_
  intro T3 X3 e3
  refine g_iloadN hG X3 hx (hb hby d5_18) (pc' := 19) rfl rfl ?_
  refine g_iaload hG X3 hx hZ e3 V_ha (j := (0 : Int32)) (v := (.int k0)) (in2_nn in2_0) (in2_at in2_0 hk0) (hb hby d5_19) (pc' := 20) rfl ?_
  refine g_dconst0 hG X3 hx (hb hby d5_20) (pc' := 21) rfl (v := (0 : UInt64)) rfl ?_
  refine g_dastore hG X3 hx hZ e3 V_sa (j := k0) (in2_nn ik0) (in2_lend ik0) (hb hby d5_21) (pc' := 22) rfl ?_
  intro T4 h4 X4 e4 W4 Vn4
  rw [in2_setd ik0] at Vn4
  have V_sa : AV Z h4 sa .double (2 : Int32) (fd2 (upd sh k0 (0 : UInt64))) := Vn4
  have Ex_a := Ex_a.wr W4
  have Ex_ha := Ex_ha.wr W4
  have F_shares_a := F_shares_a.other W4 (Or.inl d1)
  have F_held_a := F_held_a.other W4 (Or.inl d1)
  have F_size_a := F_size_a.other W4 (Or.inl d1)
  have V_ha := V_ha.other W4 (Ne.symm d3)
  have Zs := Nat.le_trans Zs (Wr.size W4)
  have NF4 := Fr.snoc X4 NF0 gsa
  have K4 := K0.wr W4 (Or.inl (List.mem_of_getElem? (i := 1) rfl))
  refine g_iinc hG X4 hx (hb hby d5_22) (pc' := 25) rfl rfl (v := (1 : Int32)) (by decide) (Ls' := #[.val (.ref a), .val (.int 1)]) rfl ?_
  refine g_goto hG X4 hx (hb hby d5_25) (pc' := 2) (by decide) (by decide) ?_
  refine g_iloadN hG X4 hx (hb hby d5_2) (pc' := 3) rfl rfl ?_
  refine g_aloadN hG X4 hx (hb hby d5_3) (pc' := 4) rfl rfl rfl ?_
  refine g_getF hG X4 hx hZ hown (wd hw 20 rfl) Via.refl e4 F_size_a (hb hby d5_4) (pc' := 7) rfl ?_
  intro T5 X5 e5
  refine g_icmpYes hG X5 hx (hb hby d5_7) (pc' := 28) (by decide) (by decide) (by decide) ?_
  refine g_aloadN hG X5 hx (hb hby d5_28) (pc' := 29) rfl rfl rfl ?_
  refine g_iconst hG X5 hx (hb hby d5_29) (pc' := 30) rfl (v := (0 : Int32)) rfl ?_
  refine g_putF hG X5 hx hZ hown (wd hw 20 rfl) Via.refl e5 F_size_a Ex_a (Or.inl (wd hw 21 rfl)) (wd hw 1 rfl) (v' := (.int 0)) (ty := .int) (by decide) rfl rfl (hb hby d5_30) (pc' := 33) rfl ?_
  intro T6 h6 X6 e6 W6
  have Ex_a := Ex_a.wr W6
  have Ex_ha := Ex_ha.wr W6
  have F_shares_a := F_shares_a.other W6 (Or.inr (slot_ne (Or.inr (wd hw 11 rfl)) (Or.inl (wd hw 21 rfl)) (by decide) (t := (.array .double)) (t' := .int) (by decide) (by decide)))
  have F_held_a := F_held_a.other W6 (Or.inr (slot_ne (Or.inr (wd hw 14 rfl)) (Or.inl (wd hw 21 rfl)) (by decide) (t := (.array .int)) (t' := .int) (by decide) (by decide)))
  have F_size_a := F_size_a.same W6
  have V_sa := V_sa.other W6 (Ne.symm d1)
  have V_ha := V_ha.other W6 (Ne.symm d2)
  have Zs := Nat.le_trans Zs (Wr.size W6)
  have NF6 := Fr.snoc X6 NF4 ga
  have K6 := K4.wr W6 (Or.inl (List.mem_of_getElem? (i := 0) rfl))
  exact e_ret0 hGe X6 hx hrt hlk (hb hby d5_33) e6 (by decide) (by decide) (⟨rfl, NF6, K6, Ex_a, Ex_ha, F_shares_a, F_held_a, F_size_a, V_sa, V_ha⟩)

def Q_rmRa2_2o (Z : State) (a sa ha : Addr) (sh : Int32 → UInt64) (hd : Int32 → Int32) (kk : Int32) (vv mm xx : UInt64) (h0 : Heap) (n0 : Nat) (v : Option Value) (h : Heap) (L : List Loc) : Prop := v = none ∧ Fr n0 L ∧ Keep h0 h [a, sa, ha] ∧ NS2 Z h a sa ha (2 : Int32) (upd sh kk mm) hd
set_option maxRecDepth 65536 in
set_option maxHeartbeats 40000000 in
theorem rmRa2_2o (l : Launch) (Z : State) (a0 : Array Value) (hw : ∀ d ∈ tables_1, d.before a0 Z = true) (ws : List Jvm.Cond) (a sa ha : Addr) (sh : Int32 → UInt64) (hd : Int32 → Int32) (kk : Int32) (vv mm xx : UInt64) (h0 : Heap) (n0 : Nat) (Zs : n0 ≤ h0.size) (NQ : NS2 Z h0 a sa ha (2 : Int32) sh hd) (DD : Dis n0 a sa ha) (ik : In2 kk) (nv : Jvm.Free.Fl.NoNaN64 vv) (hm : Jvm.Native.java_lang_Math.nans.pick64 true xx vv = mm) (hxx : sh kk = xx) (nx : Jvm.Free.Fl.NoNaN64 xx) (gx : FP.dcmp xx 0 = some .gt) :
    Con l (⟨"org/termsieve/mapping/Shares", "raise", "(ID)V"⟩ : MethodName) prog_78_method_2_code 4 none ws ({ frames := 1, cells := 0, slots := 0, locals := 40 } : Room) Z #[(.ref a), (.int kk), (.double vv)] h0 ({ frames := 1, cells := 0, slots := 0, locals := 40 } : Room).cells ({ frames := 1, cells := 0, slots := 0, locals := 40 } : Room).slots (Q_rmRa2_2o Z a sa ha sh hd kk vv mm xx h0 n0) := by
  refine Con.of (Ls := #[.val (.ref a), .val (.int kk), .val (.double vv), .second]) (plainFor_of_name (by first | (simp [plainName, overriddenIn]; done) | decide +kernel)) (fun m => by first | (simp [entryFrame, mkF, argsToLocals, Value.category]; done) | rfl) ?_
  intro p e s m below meth c s₁ G hGe hG hx hby hml hown hnm hrt hlk hZ X0 e0
  have hown : s.vm.findClass "org/termsieve/mapping/Shares" = some m.cls := hown
  have hnm : meth.name = "raise" := hnm
  have NF0 := Fr.nil n0
  obtain ⟨Ex_a, Ex_ha, F_shares_a, F_held_a, F_size_a, V_sa, V_ha⟩ := NQ
  obtain ⟨ga, gsa, gha, d1, d2, d3⟩ := DD
  have K0 := Keep.refl h0 [a, sa, ha]
  subst hm
  refine g_aloadN hG X0 hx (hb hby d3_0) (pc' := 1) rfl rfl rfl ?_
  refine g_getF hG X0 hx hZ hown (wd hw 10 rfl) Via.refl e0 F_shares_a (hb hby d3_1) (pc' := 4) rfl ?_
  intro T1 X1 e1
  refine g_iloadN hG X1 hx (hb hby d3_4) (pc' := 5) rfl rfl ?_
  refine g_daload hG X1 hx hZ e1 V_sa (j := kk) (v := (.double xx)) (in2_nn ik) (in2_atd ik hxx) (hb hby d3_5) (pc' := 6) rfl ?_
  refine g_dconst0 hG X1 hx (hb hby d3_6) (pc' := 7) rfl (v := (0 : UInt64)) rfl ?_
  obtain ⟨v7, q7⟩ : ∃ zz : Int32, cmpValue (FP.dcmp xx (0 : UInt64)) .l = zz := ⟨_, rfl⟩
  refine g_dcmp hG X1 hx (hb hby d3_7) (pc' := 8) rfl q7 ?_
  refine g_ifYes hG X1 hx (hb hby d3_8) (pc' := 28) (by rw [← q7, gx]; rfl) (by decide) (by decide) ?_
  refine g_aloadN hG X1 hx (hb hby d3_28) (pc' := 29) rfl rfl rfl ?_
  refine g_getF hG X1 hx hZ hown (wd hw 10 rfl) Via.refl e1 F_shares_a (hb hby d3_29) (pc' := 32) rfl ?_
  intro T2 X2 e2
  refine g_iloadN hG X2 hx (hb hby d3_32) (pc' := 33) rfl rfl ?_
  refine g_aloadN hG X2 hx (hb hby d3_33) (pc' := 34) rfl rfl rfl ?_
  refine g_getF hG X2 hx hZ hown (wd hw 10 rfl) Via.refl e2 F_shares_a (hb hby d3_34) (pc' := 37) rfl ?_
  intro T3 X3 e3
  refine g_iloadN hG X3 hx (hb hby d3_37) (pc' := 38) rfl rfl ?_
  refine g_daload hG X3 hx hZ e3 V_sa (j := kk) (v := (.double xx)) (in2_nn ik) (in2_atd ik hxx) (hb hby d3_38) (pc' := 39) rfl ?_
  refine g_dloadN hG X3 hx (hb hby d3_39) (pc' := 40) rfl rfl ?_
  refine g_natS hG X3 hx hZ (y := (⟨"java/lang/Math", "max", "(DD)D"⟩ : MethodName)) (val := (.double (Jvm.Native.java_lang_Math.nans.pick64 true xx vv))) 2 hown (wd hw 22 rfl) (wd hw 23 rfl) (wd hw 24 rfl) (wd hw 25 rfl) (by decide) (fun hc => Jvm.Free.Fl.Abs.maxD_pays xx vv hc (by decide) (by decide)) (by rw [hml]; rfl) pd_7 rfl (argsL := [(.double xx), (.double vv)]) (rest := [(.int kk), (.ref sa)]) rfl (Nat.le_of_eq rfl) (hb hby d3_40) e3 (by decide) (by decide) (⟨rfl, nx, nv⟩) (pc' := 43) rfl ?_
  intro T4 X4 e4
  show G (T4.setTop (mkF m 43 _ [(.double (Jvm.Native.java_lang_Math.nans.pick64 true xx vv)), (.int kk), (.ref sa)]))
  refine g_dastore hG X4 hx hZ e4 V_sa (j := kk) (in2_nn ik) (in2_lend ik) (hb hby d3_43) (pc' := 44) rfl ?_
  intro T5 h5 X5 e5 W5 Vn5
  rw [in2_setd ik] at Vn5
  have V_sa : AV Z h5 sa .double (2 : Int32) (fd2 (upd sh kk (Jvm.Native.java_lang_Math.nans.pick64 true xx vv))) := Vn5
  have Ex_a := Ex_a.wr W5
  have Ex_ha := Ex_ha.wr W5
  have F_shares_a := F_shares_a.other W5 (Or.inl d1)
  have F_held_a := F_held_a.other W5 (Or.inl d1)
  have F_size_a := F_size_a.other W5 (Or.inl d1)
  have V_ha := V_ha.other W5 (Ne.symm d3)
  have Zs := Nat.le_trans Zs (Wr.size W5)
  have NF5 := Fr.snoc X5 NF0 gsa
  have K5 := K0.wr W5 (Or.inl (List.mem_of_getElem? (i := 1) rfl))
  exact e_ret0 hGe X5 hx hrt hlk (hb hby d3_44) e5 (by decide) (by decide) (⟨rfl, NF5, K5, Ex_a, Ex_ha, F_shares_a, F_held_a, F_size_a, V_sa, V_ha⟩)

def Q_rmCl2_2 (Z : State) (a sa ha : Addr) (sh : Int32 → UInt64) (hd : Int32 → Int32) (k0 : Int32) (k1 : Int32) (h0 : Heap) (n0 : Nat) (v : Option Value) (h : Heap) (L : List Loc) : Prop := v = none ∧ Fr n0 L ∧ Keep h0 h [a, sa, ha] ∧ NS2 Z h a sa ha (0 : Int32) (upd (upd sh k0 0) k1 0) hd
set_option maxRecDepth 65536 in
set_option maxHeartbeats 40000000 in
theorem rmCl2_2 (l : Launch) (Z : State) (a0 : Array Value) (hw : ∀ d ∈ tables_1, d.before a0 Z = true) (ws : List Jvm.Cond) (a sa ha : Addr) (sh : Int32 → UInt64) (hd : Int32 → Int32) (k0 : Int32) (k1 : Int32) (h0 : Heap) (n0 : Nat) (Zs : n0 ≤ h0.size) (NQ : NS2 Z h0 a sa ha (2 : Int32) sh hd) (DD : Dis n0 a sa ha) (hk0 : hd (0 : Int32) = k0) (ik0 : In2 k0) (hk1 : hd (1 : Int32) = k1) (ik1 : In2 k1) :
    Con l (⟨"org/termsieve/mapping/Shares", "clear", "()V"⟩ : MethodName) prog_78_method_4_code 2 none ws ({ frames := 0, cells := 0, slots := 0, locals := 0 } : Room) Z #[(.ref a)] h0 ({ frames := 0, cells := 0, slots := 0, locals := 0 } : Room).cells ({ frames := 0, cells := 0, slots := 0, locals := 0 } : Room).slots (Q_rmCl2_2 Z a sa ha sh hd k0 k1 h0 n0) := by
  refine Con.of (Ls := #[.val (.ref a), .unset]) (plainFor_of_name (by first | (simp [plainName, overriddenIn]; done) | decide +kernel)) (fun m => by first | (simp [entryFrame, mkF, argsToLocals, Value.category]; done) | rfl) ?_
  intro p e s m below meth c s₁ G hGe hG hx hby hml hown hnm hrt hlk hZ X0 e0
  have hown : s.vm.findClass "org/termsieve/mapping/Shares" = some m.cls := hown
  have hnm : meth.name = "clear" := hnm
  have NF0 := Fr.nil n0
  obtain ⟨Ex_a, Ex_ha, F_shares_a, F_held_a, F_size_a, V_sa, V_ha⟩ := NQ
  obtain ⟨ga, gsa, gha, d1, d2, d3⟩ := DD
  have K0 := Keep.refl h0 [a, sa, ha]
  refine g_iconst hG X0 hx (hb hby d5_0) (pc' := 1) rfl (v := (0 : Int32)) rfl ?_
  refine g_istoreN hG X0 hx (hb hby d5_1) (pc' := 2) rfl (Ls' := #[.val (.ref a), .val (.int 0)]) rfl ?_
  refine g_iloadN hG X0 hx (hb hby d5_2) (pc' := 3) rfl rfl ?_
  refine g_aloadN hG X0 hx (hb hby d5_3) (pc' := 4) rfl rfl rfl ?_
  refine g_getF hG X0 hx hZ hown (wd hw 20 rfl) Via.refl e0 F_size_a (hb hby d5_4) (pc' := 7) rfl ?_
  intro T1 X1 e1
  refine g_icmpNo hG X1 hx (hb hby d5_7) (pc' := 10) (by decide) rfl ?_
  refine g_aloadN hG X1 hx (hb hby d5_10) (pc' := 11) rfl rfl rfl ?_
  refine g_getF hG X1 hx hZ hown (wd hw 10 rfl) Via.refl e1 F_shares_a (hb hby d5_11) (pc' := 14) rfl ?_
  intro T2 X2 e2
  refine g_aloadN hG X2 hx (hb hby d5_14) (pc' := 15) rfl rfl rfl ?_
  refine g_getF hG X2 hx hZ hown (wd hw 13 rfl) Via.refl e2 F_held_a (hb hby d5_15) (pc' := 18) rfl ?_
  intro T3 X3 e3
  refine g_iloadN hG X3 hx (hb hby d5_18) (pc' := 19) rfl rfl ?_
  refine g_iaload hG X3 hx hZ e3 V_ha (j := (0 : Int32)) (v := (.int k0)) (in2_nn in2_0) (in2_at in2_0 hk0) (hb hby d5_19) (pc' := 20) rfl ?_
  refine g_dconst0 hG X3 hx (hb hby d5_20) (pc' := 21) rfl (v := (0 : UInt64)) rfl ?_
  refine g_dastore hG X3 hx hZ e3 V_sa (j := k0) (in2_nn ik0) (in2_lend ik0) (hb hby d5_21) (pc' := 22) rfl ?_
  intro T4 h4 X4 e4 W4 Vn4
  rw [in2_setd ik0] at Vn4
  have V_sa : AV Z h4 sa .double (2 : Int32) (fd2 (upd sh k0 (0 : UInt64))) := Vn4
  have Ex_a := Ex_a.wr W4
  have Ex_ha := Ex_ha.wr W4
  have F_shares_a := F_shares_a.other W4 (Or.inl d1)
  have F_held_a := F_held_a.other W4 (Or.inl d1)
  have F_size_a := F_size_a.other W4 (Or.inl d1)
  have V_ha := V_ha.other W4 (Ne.symm d3)
  have Zs := Nat.le_trans Zs (Wr.size W4)
  have NF4 := Fr.snoc X4 NF0 gsa
  have K4 := K0.wr W4 (Or.inl (List.mem_of_getElem? (i := 1) rfl))
  refine g_iinc hG X4 hx (hb hby d5_22) (pc' := 25) rfl rfl (v := (1 : Int32)) (by decide) (Ls' := #[.val (.ref a), .val (.int 1)]) rfl ?_
  refine g_goto hG X4 hx (hb hby d5_25) (pc' := 2) (by decide) (by decide) ?_
  refine g_iloadN hG X4 hx (hb hby d5_2) (pc' := 3) rfl rfl ?_
  refine g_aloadN hG X4 hx (hb hby d5_3) (pc' := 4) rfl rfl rfl ?_
  refine g_getF hG X4 hx hZ hown (wd hw 20 rfl) Via.refl e4 F_size_a (hb hby d5_4) (pc' := 7) rfl ?_
  intro T5 X5 e5
  refine g_icmpNo hG X5 hx (hb hby d5_7) (pc' := 10) (by decide) rfl ?_
  refine g_aloadN hG X5 hx (hb hby d5_10) (pc' := 11) rfl rfl rfl ?_
  refine g_getF hG X5 hx hZ hown (wd hw 10 rfl) Via.refl e5 F_shares_a (hb hby d5_11) (pc' := 14) rfl ?_
  intro T6 X6 e6
  refine g_aloadN hG X6 hx (hb hby d5_14) (pc' := 15) rfl rfl rfl ?_
  refine g_getF hG X6 hx hZ hown (wd hw 13 rfl) Via.refl e6 F_held_a (hb hby d5_15) (pc' := 18) rfl ?_
  intro T7 X7 e7
  refine g_iloadN hG X7 hx (hb hby d5_18) (pc' := 19) rfl rfl ?_
  refine g_iaload hG X7 hx hZ e7 V_ha (j := (1 : Int32)) (v := (.int k1)) (in2_nn in2_1) (in2_at in2_1 hk1) (hb hby d5_19) (pc' := 20) rfl ?_
  refine g_dconst0 hG X7 hx (hb hby d5_20) (pc' := 21) rfl (v := (0 : UInt64)) rfl ?_
  refine g_dastore hG X7 hx hZ e7 V_sa (j := k1) (in2_nn ik1) (in2_lend ik1) (hb hby d5_21) (pc' := 22) rfl ?_
  intro T8 h8 X8 e8 W8 Vn8
  rw [in2_setd ik1] at Vn8
  have V_sa : AV Z h8 sa .double (2 : Int32) (fd2 (upd (upd sh k0 (0 : UInt64)) k1 (0 : UInt64))) := Vn8
  have Ex_a := Ex_a.wr W8
  have Ex_ha := Ex_ha.wr W8
  have F_shares_a := F_shares_a.other W8 (Or.inl d1)
  have F_held_a := F_held_a.other W8 (Or.inl d1)
  have F_size_a := F_size_a.other W8 (Or.inl d1)
  have V_ha := V_ha.other W8 (Ne.symm d3)
  have Zs := Nat.le_trans Zs (Wr.size W8)
  have NF8 := Fr.snoc X8 NF4 gsa
  have K8 := K4.wr W8 (Or.inl (List.mem_of_getElem? (i := 1) rfl))
  refine g_iinc hG X8 hx (hb hby d5_22) (pc' := 25) rfl rfl (v := (2 : Int32)) (by decide) (Ls' := #[.val (.ref a), .val (.int 2)]) rfl ?_
  refine g_goto hG X8 hx (hb hby d5_25) (pc' := 2) (by decide) (by decide) ?_
  refine g_iloadN hG X8 hx (hb hby d5_2) (pc' := 3) rfl rfl ?_
  refine g_aloadN hG X8 hx (hb hby d5_3) (pc' := 4) rfl rfl rfl ?_
  refine g_getF hG X8 hx hZ hown (wd hw 20 rfl) Via.refl e8 F_size_a (hb hby d5_4) (pc' := 7) rfl ?_
  intro T9 X9 e9
  refine g_icmpYes hG X9 hx (hb hby d5_7) (pc' := 28) (by decide) (by decide) (by decide) ?_
  refine g_aloadN hG X9 hx (hb hby d5_28) (pc' := 29) rfl rfl rfl ?_
  refine g_iconst hG X9 hx (hb hby d5_29) (pc' := 30) rfl (v := (0 : Int32)) rfl ?_
  refine g_putF hG X9 hx hZ hown (wd hw 20 rfl) Via.refl e9 F_size_a Ex_a (Or.inl (wd hw 21 rfl)) (wd hw 1 rfl) (v' := (.int 0)) (ty := .int) (by decide) rfl rfl (hb hby d5_30) (pc' := 33) rfl ?_
  intro T10 h10 X10 e10 W10
  have Ex_a := Ex_a.wr W10
  have Ex_ha := Ex_ha.wr W10
  have F_shares_a := F_shares_a.other W10 (Or.inr (slot_ne (Or.inr (wd hw 11 rfl)) (Or.inl (wd hw 21 rfl)) (by decide) (t := (.array .double)) (t' := .int) (by decide) (by decide)))
  have F_held_a := F_held_a.other W10 (Or.inr (slot_ne (Or.inr (wd hw 14 rfl)) (Or.inl (wd hw 21 rfl)) (by decide) (t := (.array .int)) (t' := .int) (by decide) (by decide)))
  have F_size_a := F_size_a.same W10
  have V_sa := V_sa.other W10 (Ne.symm d1)
  have V_ha := V_ha.other W10 (Ne.symm d2)
  have Zs := Nat.le_trans Zs (Wr.size W10)
  have NF10 := Fr.snoc X10 NF8 ga
  have K10 := K8.wr W10 (Or.inl (List.mem_of_getElem? (i := 0) rfl))
  exact e_ret0 hGe X10 hx hrt hlk (hb hby d5_33) e10 (by decide) (by decide) (⟨rfl, NF10, K10, Ex_a, Ex_ha, F_shares_a, F_held_a, F_size_a, V_sa, V_ha⟩)

def Q_rmCo3_0 (Z : State) (a : Addr) (x0 x1 x2 : Int32) (h0 : Heap) (n0 : Nat) (v : Option Value) (h : Heap) (L : List Loc) : Prop := ∃ b : Addr, v = some (.ref b) ∧ Fr n0 L ∧ Keep h0 h [] ∧ h0.size ≤ b ∧ AV Z h b .int (0 : Int32) []
set_option maxRecDepth 65536 in
set_option maxHeartbeats 40000000 in
theorem rmCo3_0 (l : Launch) (Z : State) (a0 : Array Value) (hw : ∀ d ∈ tables_1, d.before a0 Z = true) (ws : List Jvm.Cond) (a : Addr) (x0 x1 x2 : Int32) (h0 : Heap) (n0 : Nat) (Zs : n0 ≤ h0.size) (V_a : AV Z h0 a .int (3 : Int32) [(.int x0), (.int x1), (.int x2)]) (Ex_a : Exa Z h0 a "[I") :
    Con l (⟨"java/util/Arrays", "copyOf", "([II)[I"⟩ : MethodName) jdk_65_method_123_code 3 (some (.array .int)) ws ({ frames := 1, cells := 1, slots := 0, locals := 32 } : Room) Z #[(.ref a), (.int 0)] h0 ({ frames := 1, cells := 1, slots := 0, locals := 32 } : Room).cells ({ frames := 1, cells := 1, slots := 0, locals := 32 } : Room).slots (Q_rmCo3_0 Z a x0 x1 x2 h0 n0) := by
  refine Con.of (Ls := #[.val (.ref a), .val (.int 0), .unset]) (plainFor_of_name (by first | (simp [plainName, overriddenIn]; done) | decide +kernel)) (fun m => by first | (simp [entryFrame, mkF, argsToLocals, Value.category]; done) | rfl) ?_
  intro p e s m below meth c s₁ G hGe hG hx hby hml hown hnm hrt hlk hZ X0 e0
  have hown : s.vm.findClass "java/util/Arrays" = some m.cls := hown
  have hnm : meth.name = "copyOf" := hnm
  have NF0 := Fr.nil n0
  have K0 := Keep.refl h0 ([] : List Addr)
  refine g_iloadN hG X0 hx (hb hby d7_0) (pc' := 1) rfl rfl ?_
  refine g_aloadN hG X0 hx (hb hby d7_1) (pc' := 2) rfl rfl rfl ?_
  refine g_arraylength hG X0 hx hZ e0 V_a (hb hby d7_2) (pc' := 3) rfl ?_
  refine g_icmpYes hG X0 hx (hb hby d7_3) (pc' := 14) (by decide) (by decide) (by decide) ?_
  refine g_iloadN hG X0 hx (hb hby d7_14) (pc' := 15) rfl rfl ?_
  refine g_newP hG X0 hx hZ (wd hw 12 rfl) e0 (hb hby d7_15) (by decide) 0 (by decide) (by decide) (by decide) (by decide) (pc' := 17) rfl ?_
  intro T1 h1 b kA1 gs1 X1 e1 E1 A1
  have ne_a_b : a ≠ b := Nat.ne_of_lt (gs1 ▸ V_a.lt)
  have ge_b : n0 ≤ b := gs1 ▸ Zs
  have sz_b : h0.size ≤ b := gs1 ▸ K0.1
  have Zs := Nat.le_trans Zs E1.1
  have V_a := V_a.ext E1
  have Ex_a := Ex_a.ext E1
  have K1 := K0.ext E1
  have V_b : AV Z h1 b .int (0 : Int32) [] := AV.new A1
  refine g_astoreN hG X1 hx (hb hby d7_17) (pc' := 18) rfl rfl (Ls' := #[.val (.ref a), .val (.int 0), .val (.ref b)]) rfl ?_
  refine g_aloadN hG X1 hx (hb hby d7_18) (pc' := 19) rfl rfl rfl ?_
  refine g_iconst hG X1 hx (hb hby d7_19) (pc' := 20) rfl (v := (0 : Int32)) rfl ?_
  refine g_aloadN hG X1 hx (hb hby d7_20) (pc' := 21) rfl rfl rfl ?_
  refine g_iconst hG X1 hx (hb hby d7_21) (pc' := 22) rfl (v := (0 : Int32)) rfl ?_
  refine g_aloadN hG X1 hx (hb hby d7_22) (pc' := 23) rfl rfl rfl ?_
  refine g_arraylength hG X1 hx hZ e1 V_a (hb hby d7_23) (pc' := 24) rfl ?_
  refine g_iloadN hG X1 hx (hb hby d7_24) (pc' := 25) rfl rfl ?_
  refine g_callS hG X1 hx hZ (y := (⟨"java/lang/Math", "min", "(II)I"⟩ : MethodName)) 4 hown (wd hw 40 rfl) (wd hw 41 rfl) (wd hw 24 rfl) (wd hw 42 rfl) (by decide) (rmMI l Z a0 hw [] (3 : Int32) (0 : Int32) (0 : Int32) h1 n0 Zs (by decide)) (by decide) (by decide) (by rw [hml]; rfl) pd_3 rfl (argsL := [(.int 3), (.int 0)]) (rest := [(.int 0), (.ref b), (.int 0), (.ref a)]) rfl rfl (Nat.le_of_eq rfl) (hb hby d7_25) e1 (by decide) (by decide) (pc' := 28) rfl ?_
  intro T2 rv2 L2 X2 hQ2
  obtain ⟨rfl, Nq2, eh2⟩ := hQ2
  have NF2 := Fr.app NF0 Nq2
  show G (T2.setTop (mkF m 28 _ [(.int 0), (.int 0), (.ref b), (.int 0), (.ref a)]))
  refine g_copy hG X2 hx hZ hown (wd hw 43 rfl) (wd hw 46 rfl) (wd hw 44 rfl) (wd hw 45 rfl) eh2 V_a V_b rfl (by decide) (by decide) (by decide) (by decide) (by decide) (vr := []) rfl NF2 ge_b (by rw [hml]; rfl) (hb hby d7_28) (by decide) 0 (Nat.le_of_eq rfl) (by decide) (pc' := 31) rfl ?_
  intro T3 h3 L3 X3 e3 NF3 Kq3 Vn3
  have V_b := Vn3
  have V_a := V_a.keep Kq3 (ninS ne_a_b nin0)
  have Ex_a := Ex_a.keep Kq3
  have Zs := Nat.le_trans Zs Kq3.1
  have K3 := K1.trans Kq3 (allS (Or.inr sz_b) all0)
  show G (T3.setTop (mkF m 31 _ []))
  refine g_aloadN hG X3 hx (hb hby d7_31) (pc' := 32) rfl rfl rfl ?_
  exact e_retA hGe X3 hx hrt rfl hlk (hb hby d7_32) e3 (by decide) (by decide) (⟨b, rfl, NF3, K3, sz_b, V_b⟩)

def Q_rmHe3_0 (Z : State) (a sa ha : Addr) (sh : Int32 → UInt64) (hd : Int32 → Int32) (h0 : Heap) (n0 : Nat) (v : Option Value) (h : Heap) (L : List Loc) : Prop := ∃ b : Addr, v = some (.ref b) ∧ Fr n0 L ∧ Keep h0 h [] ∧ h0.size ≤ b ∧ AV Z h b .int (0 : Int32) []
set_option maxRecDepth 65536 in
set_option maxHeartbeats 40000000 in
theorem rmHe3_0 (l : Launch) (Z : State) (a0 : Array Value) (hw : ∀ d ∈ tables_1, d.before a0 Z = true) (ws : List Jvm.Cond) (a sa ha : Addr) (sh : Int32 → UInt64) (hd : Int32 → Int32) (h0 : Heap) (n0 : Nat) (Zs : n0 ≤ h0.size) (NQ : NS3 Z h0 a sa ha (0 : Int32) sh hd) (DD : Dis n0 a sa ha) :
    Con l (⟨"org/termsieve/mapping/Shares", "held", "()[I"⟩ : MethodName) prog_78_method_6_code 2 (some (.array .int)) ws ({ frames := 4, cells := 1, slots := 0, locals := 104 } : Room) Z #[(.ref a)] h0 ({ frames := 4, cells := 1, slots := 0, locals := 104 } : Room).cells ({ frames := 4, cells := 1, slots := 0, locals := 104 } : Room).slots (Q_rmHe3_0 Z a sa ha sh hd h0 n0) := by
  refine Con.of (Ls := #[.val (.ref a), .unset]) (plainFor_of_name (by first | (simp [plainName, overriddenIn]; done) | decide +kernel)) (fun m => by first | (simp [entryFrame, mkF, argsToLocals, Value.category]; done) | rfl) ?_
  intro p e s m below meth c s₁ G hGe hG hx hby hml hown hnm hrt hlk hZ X0 e0
  have hown : s.vm.findClass "org/termsieve/mapping/Shares" = some m.cls := hown
  have hnm : meth.name = "held" := hnm
  have NF0 := Fr.nil n0
  obtain ⟨Ex_a, Ex_ha, F_shares_a, F_held_a, F_size_a, V_sa, V_ha⟩ := NQ
  obtain ⟨ga, gsa, gha, d1, d2, d3⟩ := DD
  have K0 := Keep.refl h0 ([] : List Addr)
  refine g_aloadN hG X0 hx (hb hby d6_0) (pc' := 1) rfl rfl rfl ?_
  refine g_getF hG X0 hx hZ hown (wd hw 13 rfl) Via.refl e0 F_held_a (hb hby d6_1) (pc' := 4) rfl ?_
  intro T1 X1 e1
  refine g_aloadN hG X1 hx (hb hby d6_4) (pc' := 5) rfl rfl rfl ?_
  refine g_getF hG X1 hx hZ hown (wd hw 20 rfl) Via.refl e1 F_size_a (hb hby d6_5) (pc' := 8) rfl ?_
  intro T2 X2 e2
  refine g_callS hG X2 hx hZ (y := (⟨"java/util/Arrays", "copyOf", "([II)[I"⟩ : MethodName)) 0 hown (wd hw 36 rfl) (wd hw 37 rfl) (wd hw 38 rfl) (wd hw 39 rfl) (by decide) (rmCo3_0 l Z a0 hw [] ha (hd 0) (hd 1) (hd 2) h0 n0 Zs V_ha Ex_ha) (by decide) (by decide) (by rw [hml]; rfl) pd_4 rfl (argsL := [(.ref ha), (.int 0)]) (rest := []) rfl rfl (Nat.le_of_eq rfl) (hb hby d6_8) e2 (by decide) (by decide) (pc' := 11) rfl ?_
  intro T3 rv3 L3 X3 hQ3
  obtain ⟨b, rfl, Nq3, Kq3, szq3, V_b⟩ := hQ3
  have NF3 := Fr.app NF0 Nq3
  have ne_a_b : a ≠ b := Nat.ne_of_lt (Nat.lt_of_lt_of_le Ex_a.lt szq3)
  have ne_ha_b : ha ≠ b := Nat.ne_of_lt (Nat.lt_of_lt_of_le Ex_ha.lt szq3)
  have ne_sa_b : sa ≠ b := Nat.ne_of_lt (Nat.lt_of_lt_of_le V_sa.lt szq3)
  have ge_b : n0 ≤ b := Nat.le_trans Zs szq3
  have sz_b : h0.size ≤ b := Nat.le_trans K0.1 szq3
  have Ex_a := Ex_a.keep Kq3
  have Ex_ha := Ex_ha.keep Kq3
  have F_shares_a := F_shares_a.keep Kq3 nin0
  have F_held_a := F_held_a.keep Kq3 nin0
  have F_size_a := F_size_a.keep Kq3 nin0
  have V_sa := V_sa.keep Kq3 nin0
  have V_ha := V_ha.keep Kq3 nin0
  have Zs := Nat.le_trans Zs Kq3.1
  have K3 := K0.trans Kq3 all0
  show G (T3.setTop (mkF m 11 _ [(.ref b)]))
  refine g_astoreN hG X3 hx (hb hby d6_11) (pc' := 12) rfl rfl (Ls' := #[.val (.ref a), .val (.ref b)]) rfl ?_
  refine g_aloadN hG X3 hx (hb hby d6_12) (pc' := 13) rfl rfl rfl ?_
  refine g_callS hG X3 hx hZ (y := (⟨"java/util/Arrays", "sort", "([I)V"⟩ : MethodName)) 0 hown (wd hw 47 rfl) (wd hw 48 rfl) (wd hw 38 rfl) (wd hw 49 rfl) (by decide) (rmSo0 l Z a0 hw [] b  T3.heap n0 Zs V_b) (by decide) (by decide) (by rw [hml]; rfl) pd_5 rfl (argsL := [(.ref b)]) (rest := []) rfl rfl (Nat.le_of_eq rfl) (hb hby d6_13) rfl (by decide) (by decide) (pc' := 16) rfl ?_
  intro T4 rv4 L4 X4 hQ4
  obtain ⟨rfl, Nq4, eh4⟩ := hQ4
  have NF4 := Fr.app NF3 Nq4
  show G (T4.setTop (mkF m 16 _ []))
  refine g_aloadN hG X4 hx (hb hby d6_16) (pc' := 17) rfl rfl rfl ?_
  exact e_retA hGe X4 hx hrt rfl hlk (hb hby d6_17) eh4 (by decide) (by decide) (⟨b, rfl, NF4, K3, sz_b, V_b⟩)

def Q_rmCo3_1 (Z : State) (a : Addr) (x0 x1 x2 : Int32) (h0 : Heap) (n0 : Nat) (v : Option Value) (h : Heap) (L : List Loc) : Prop := ∃ b : Addr, v = some (.ref b) ∧ Fr n0 L ∧ Keep h0 h [] ∧ h0.size ≤ b ∧ AV Z h b .int (1 : Int32) [(.int x0)]
set_option maxRecDepth 65536 in
set_option maxHeartbeats 40000000 in
theorem rmCo3_1 (l : Launch) (Z : State) (a0 : Array Value) (hw : ∀ d ∈ tables_1, d.before a0 Z = true) (ws : List Jvm.Cond) (a : Addr) (x0 x1 x2 : Int32) (h0 : Heap) (n0 : Nat) (Zs : n0 ≤ h0.size) (V_a : AV Z h0 a .int (3 : Int32) [(.int x0), (.int x1), (.int x2)]) (Ex_a : Exa Z h0 a "[I") :
    Con l (⟨"java/util/Arrays", "copyOf", "([II)[I"⟩ : MethodName) jdk_65_method_123_code 3 (some (.array .int)) ws ({ frames := 1, cells := 1, slots := 1, locals := 32 } : Room) Z #[(.ref a), (.int 1)] h0 ({ frames := 1, cells := 1, slots := 1, locals := 32 } : Room).cells ({ frames := 1, cells := 1, slots := 1, locals := 32 } : Room).slots (Q_rmCo3_1 Z a x0 x1 x2 h0 n0) := by
  refine Con.of (Ls := #[.val (.ref a), .val (.int 1), .unset]) (plainFor_of_name (by first | (simp [plainName, overriddenIn]; done) | decide +kernel)) (fun m => by first | (simp [entryFrame, mkF, argsToLocals, Value.category]; done) | rfl) ?_
  intro p e s m below meth c s₁ G hGe hG hx hby hml hown hnm hrt hlk hZ X0 e0
  have hown : s.vm.findClass "java/util/Arrays" = some m.cls := hown
  have hnm : meth.name = "copyOf" := hnm
  have NF0 := Fr.nil n0
  have K0 := Keep.refl h0 ([] : List Addr)
  refine g_iloadN hG X0 hx (hb hby d7_0) (pc' := 1) rfl rfl ?_
  refine g_aloadN hG X0 hx (hb hby d7_1) (pc' := 2) rfl rfl rfl ?_
  refine g_arraylength hG X0 hx hZ e0 V_a (hb hby d7_2) (pc' := 3) rfl ?_
  refine g_icmpYes hG X0 hx (hb hby d7_3) (pc' := 14) (by decide) (by decide) (by decide) ?_
  refine g_iloadN hG X0 hx (hb hby d7_14) (pc' := 15) rfl rfl ?_
  refine g_newP hG X0 hx hZ (wd hw 12 rfl) e0 (hb hby d7_15) (by decide) 1 (by decide) (by decide) (by decide) (by decide) (pc' := 17) rfl ?_
  intro T1 h1 b kA1 gs1 X1 e1 E1 A1
  have ne_a_b : a ≠ b := Nat.ne_of_lt (gs1 ▸ V_a.lt)
  have ge_b : n0 ≤ b := gs1 ▸ Zs
  have sz_b : h0.size ≤ b := gs1 ▸ K0.1
  have Zs := Nat.le_trans Zs E1.1
  have V_a := V_a.ext E1
  have Ex_a := Ex_a.ext E1
  have K1 := K0.ext E1
  have V_b : AV Z h1 b .int (1 : Int32) [(.int 0)] := AV.new A1
  refine g_astoreN hG X1 hx (hb hby d7_17) (pc' := 18) rfl rfl (Ls' := #[.val (.ref a), .val (.int 1), .val (.ref b)]) rfl ?_
  refine g_aloadN hG X1 hx (hb hby d7_18) (pc' := 19) rfl rfl rfl ?_
  refine g_iconst hG X1 hx (hb hby d7_19) (pc' := 20) rfl (v := (0 : Int32)) rfl ?_
  refine g_aloadN hG X1 hx (hb hby d7_20) (pc' := 21) rfl rfl rfl ?_
  refine g_iconst hG X1 hx (hb hby d7_21) (pc' := 22) rfl (v := (0 : Int32)) rfl ?_
  refine g_aloadN hG X1 hx (hb hby d7_22) (pc' := 23) rfl rfl rfl ?_
  refine g_arraylength hG X1 hx hZ e1 V_a (hb hby d7_23) (pc' := 24) rfl ?_
  refine g_iloadN hG X1 hx (hb hby d7_24) (pc' := 25) rfl rfl ?_
  refine g_callS hG X1 hx hZ (y := (⟨"java/lang/Math", "min", "(II)I"⟩ : MethodName)) 4 hown (wd hw 40 rfl) (wd hw 41 rfl) (wd hw 24 rfl) (wd hw 42 rfl) (by decide) (rmMI l Z a0 hw [] (3 : Int32) (1 : Int32) (1 : Int32) h1 n0 Zs (by decide)) (by decide) (by decide) (by rw [hml]; rfl) pd_3 rfl (argsL := [(.int 3), (.int 1)]) (rest := [(.int 0), (.ref b), (.int 0), (.ref a)]) rfl rfl (Nat.le_of_eq rfl) (hb hby d7_25) e1 (by decide) (by decide) (pc' := 28) rfl ?_
  intro T2 rv2 L2 X2 hQ2
  obtain ⟨rfl, Nq2, eh2⟩ := hQ2
  have NF2 := Fr.app NF0 Nq2
  show G (T2.setTop (mkF m 28 _ [(.int 1), (.int 0), (.ref b), (.int 0), (.ref a)]))
  refine g_copy hG X2 hx hZ hown (wd hw 43 rfl) (wd hw 46 rfl) (wd hw 44 rfl) (wd hw 45 rfl) eh2 V_a V_b rfl (by decide) (by decide) (by decide) (by decide) (by decide) (vr := [(.int x0)]) rfl NF2 ge_b (by rw [hml]; rfl) (hb hby d7_28) (by decide) 0 (Nat.le_of_eq rfl) (by decide) (pc' := 31) rfl ?_
  intro T3 h3 L3 X3 e3 NF3 Kq3 Vn3
  have V_b := Vn3
  have V_a := V_a.keep Kq3 (ninS ne_a_b nin0)
  have Ex_a := Ex_a.keep Kq3
  have Zs := Nat.le_trans Zs Kq3.1
  have K3 := K1.trans Kq3 (allS (Or.inr sz_b) all0)
  show G (T3.setTop (mkF m 31 _ []))
  refine g_aloadN hG X3 hx (hb hby d7_31) (pc' := 32) rfl rfl rfl ?_
  exact e_retA hGe X3 hx hrt rfl hlk (hb hby d7_32) e3 (by decide) (by decide) (⟨b, rfl, NF3, K3, sz_b, V_b⟩)

def Q_rmHe3_1 (Z : State) (a sa ha : Addr) (sh : Int32 → UInt64) (hd : Int32 → Int32) (kk : Int32) (h0 : Heap) (n0 : Nat) (v : Option Value) (h : Heap) (L : List Loc) : Prop := ∃ b : Addr, v = some (.ref b) ∧ Fr n0 L ∧ Keep h0 h [] ∧ h0.size ≤ b ∧ AV Z h b .int (1 : Int32) [(.int kk)]
set_option maxRecDepth 65536 in
set_option maxHeartbeats 40000000 in
theorem rmHe3_1 (l : Launch) (Z : State) (a0 : Array Value) (hw : ∀ d ∈ tables_1, d.before a0 Z = true) (ws : List Jvm.Cond) (a sa ha : Addr) (sh : Int32 → UInt64) (hd : Int32 → Int32) (kk : Int32) (h0 : Heap) (n0 : Nat) (Zs : n0 ≤ h0.size) (NQ : NS3 Z h0 a sa ha (1 : Int32) sh hd) (DD : Dis n0 a sa ha) (hk : hd 0 = kk) :
    Con l (⟨"org/termsieve/mapping/Shares", "held", "()[I"⟩ : MethodName) prog_78_method_6_code 2 (some (.array .int)) ws ({ frames := 4, cells := 1, slots := 1, locals := 104 } : Room) Z #[(.ref a)] h0 ({ frames := 4, cells := 1, slots := 1, locals := 104 } : Room).cells ({ frames := 4, cells := 1, slots := 1, locals := 104 } : Room).slots (Q_rmHe3_1 Z a sa ha sh hd kk h0 n0) := by
  refine Con.of (Ls := #[.val (.ref a), .unset]) (plainFor_of_name (by first | (simp [plainName, overriddenIn]; done) | decide +kernel)) (fun m => by first | (simp [entryFrame, mkF, argsToLocals, Value.category]; done) | rfl) ?_
  intro p e s m below meth c s₁ G hGe hG hx hby hml hown hnm hrt hlk hZ X0 e0
  have hown : s.vm.findClass "org/termsieve/mapping/Shares" = some m.cls := hown
  have hnm : meth.name = "held" := hnm
  have NF0 := Fr.nil n0
  obtain ⟨Ex_a, Ex_ha, F_shares_a, F_held_a, F_size_a, V_sa, V_ha⟩ := NQ
  obtain ⟨ga, gsa, gha, d1, d2, d3⟩ := DD
  have K0 := Keep.refl h0 ([] : List Addr)
  refine g_aloadN hG X0 hx (hb hby d6_0) (pc' := 1) rfl rfl rfl ?_
  refine g_getF hG X0 hx hZ hown (wd hw 13 rfl) Via.refl e0 F_held_a (hb hby d6_1) (pc' := 4) rfl ?_
  intro T1 X1 e1
  refine g_aloadN hG X1 hx (hb hby d6_4) (pc' := 5) rfl rfl rfl ?_
  refine g_getF hG X1 hx hZ hown (wd hw 20 rfl) Via.refl e1 F_size_a (hb hby d6_5) (pc' := 8) rfl ?_
  intro T2 X2 e2
  refine g_callS hG X2 hx hZ (y := (⟨"java/util/Arrays", "copyOf", "([II)[I"⟩ : MethodName)) 0 hown (wd hw 36 rfl) (wd hw 37 rfl) (wd hw 38 rfl) (wd hw 39 rfl) (by decide) (rmCo3_1 l Z a0 hw [] ha (hd 0) (hd 1) (hd 2) h0 n0 Zs V_ha Ex_ha) (by decide) (by decide) (by rw [hml]; rfl) pd_4 rfl (argsL := [(.ref ha), (.int 1)]) (rest := []) rfl rfl (Nat.le_of_eq rfl) (hb hby d6_8) e2 (by decide) (by decide) (pc' := 11) rfl ?_
  intro T3 rv3 L3 X3 hQ3
  obtain ⟨b, rfl, Nq3, Kq3, szq3, V_b⟩ := hQ3
  have NF3 := Fr.app NF0 Nq3
  have ne_a_b : a ≠ b := Nat.ne_of_lt (Nat.lt_of_lt_of_le Ex_a.lt szq3)
  have ne_ha_b : ha ≠ b := Nat.ne_of_lt (Nat.lt_of_lt_of_le Ex_ha.lt szq3)
  have ne_sa_b : sa ≠ b := Nat.ne_of_lt (Nat.lt_of_lt_of_le V_sa.lt szq3)
  have ge_b : n0 ≤ b := Nat.le_trans Zs szq3
  have sz_b : h0.size ≤ b := Nat.le_trans K0.1 szq3
  have Ex_a := Ex_a.keep Kq3
  have Ex_ha := Ex_ha.keep Kq3
  have F_shares_a := F_shares_a.keep Kq3 nin0
  have F_held_a := F_held_a.keep Kq3 nin0
  have F_size_a := F_size_a.keep Kq3 nin0
  have V_sa := V_sa.keep Kq3 nin0
  have V_ha := V_ha.keep Kq3 nin0
  have Zs := Nat.le_trans Zs Kq3.1
  have K3 := K0.trans Kq3 all0
  show G (T3.setTop (mkF m 11 _ [(.ref b)]))
  refine g_astoreN hG X3 hx (hb hby d6_11) (pc' := 12) rfl rfl (Ls' := #[.val (.ref a), .val (.ref b)]) rfl ?_
  refine g_aloadN hG X3 hx (hb hby d6_12) (pc' := 13) rfl rfl rfl ?_
  refine g_callS hG X3 hx hZ (y := (⟨"java/util/Arrays", "sort", "([I)V"⟩ : MethodName)) 0 hown (wd hw 47 rfl) (wd hw 48 rfl) (wd hw 38 rfl) (wd hw 49 rfl) (by decide) (rmSo1 l Z a0 hw [] b (hd 0) T3.heap n0 Zs V_b) (by decide) (by decide) (by rw [hml]; rfl) pd_5 rfl (argsL := [(.ref b)]) (rest := []) rfl rfl (Nat.le_of_eq rfl) (hb hby d6_13) rfl (by decide) (by decide) (pc' := 16) rfl ?_
  intro T4 rv4 L4 X4 hQ4
  obtain ⟨rfl, Nq4, eh4⟩ := hQ4
  have NF4 := Fr.app NF3 Nq4
  show G (T4.setTop (mkF m 16 _ []))
  refine g_aloadN hG X4 hx (hb hby d6_16) (pc' := 17) rfl rfl rfl ?_
  exact e_retA hGe X4 hx hrt rfl hlk (hb hby d6_17) eh4 (by decide) (by decide) (⟨b, rfl, NF4, K3, sz_b, (by rw [← hk]; exact V_b)⟩)

def Q_rmNew3 (Z : State) (a : Addr) (h0 : Heap) (n0 : Nat) (v : Option Value) (h : Heap) (L : List Loc) : Prop := ∃ sa ha : Addr, v = none ∧ Fr n0 L ∧ Keep h0 h [a] ∧ h0.size ≤ sa ∧ h0.size ≤ ha ∧ sa ≠ ha ∧ NS3 Z h a sa ha (0 : Int32) (fun _ => 0) (fun _ => 0)
set_option maxRecDepth 65536 in
set_option maxHeartbeats 40000000 in
theorem rmNew3 (l : Launch) (Z : State) (a0 : Array Value) (hw : ∀ d ∈ tables_1, d.before a0 Z = true) (ws : List Jvm.Cond) (a : Addr) (h0 : Heap) (n0 : Nat) (Zs : n0 ≤ h0.size) (ga : n0 ≤ a) (Ex_a : Exa Z h0 a "org/termsieve/mapping/Shares") (F_shares_a : Fld Z h0 a "org/termsieve/mapping/Shares" "shares" "[D" .null) (F_held_a : Fld Z h0 a "org/termsieve/mapping/Shares" "held" "[I" .null) (F_size_a : Fld Z h0 a "org/termsieve/mapping/Shares" "size" "I" (.int (0 : Int32))) :
    Con l (⟨"org/termsieve/mapping/Shares", "<init>", "(I)V"⟩ : MethodName) prog_78_method_1_code 2 none ws ({ frames := 1, cells := 2, slots := 6, locals := 16 } : Room) Z #[(.ref a), (.int 3)] h0 ({ frames := 1, cells := 2, slots := 6, locals := 16 } : Room).cells ({ frames := 1, cells := 2, slots := 6, locals := 16 } : Room).slots (Q_rmNew3 Z a h0 n0) := by
  refine Con.of (Ls := #[.val (.ref a), .val (.int 3)]) (plainFor_of_name (by first | (simp [plainName, overriddenIn]; done) | decide +kernel)) (fun m => by first | (simp [entryFrame, mkF, argsToLocals, Value.category]; done) | rfl) ?_
  intro p e s m below meth c s₁ G hGe hG hx hby hml hown hnm hrt hlk hZ X0 e0
  have hown : s.vm.findClass "org/termsieve/mapping/Shares" = some m.cls := hown
  have hnm : meth.name = "<init>" := hnm
  have NF0 := Fr.nil n0
  have K0 := Keep.refl h0 [a]
  refine g_aloadN hG X0 hx (hb hby d1_0) (pc' := 1) rfl rfl rfl ?_
  refine g_initO hG X0 hx hZ hown (wd hw 6 rfl) (wd hw 7 rfl) (wd hw 8 rfl) e0 (by rw [hml]; rfl) (hb hby d1_1) (by decide) (by decide) (pc' := 4) rfl ?_
  intro T1 X1 e1
  show G (T1.setTop (mkF m 4 _ []))
  refine g_aloadN hG X1 hx (hb hby d1_4) (pc' := 5) rfl rfl rfl ?_
  refine g_iloadN hG X1 hx (hb hby d1_5) (pc' := 6) rfl rfl ?_
  refine g_newPE hG X1 hx hZ (wd hw 9 rfl) e1 (hb hby d1_6) (by decide) 3 (by decide) (by decide) (by decide) (by decide) (ad := "[D") (by decide) (pc' := 8) rfl ?_
  intro T2 h2 sa gs2 X2 e2 E2 A2 B2
  have ne_a_sa : a ≠ sa := Nat.ne_of_lt (gs2 ▸ Ex_a.lt)
  have ge_sa : n0 ≤ sa := gs2 ▸ Zs
  have sz_sa : h0.size ≤ sa := gs2 ▸ K0.1
  have Zs := Nat.le_trans Zs E2.1
  have Ex_a := Ex_a.ext E2
  have F_shares_a := F_shares_a.ext E2
  have F_held_a := F_held_a.ext E2
  have F_size_a := F_size_a.ext E2
  have K2 := K0.ext E2
  have V_sa : AV Z h2 sa .double (3 : Int32) [(.double 0), (.double 0), (.double 0)] := A2
  have Ex_sa := B2
  refine g_putF hG X2 hx hZ hown (wd hw 10 rfl) Via.refl e2 F_shares_a Ex_a (Or.inr ⟨(wd hw 11 rfl), rfl, hnm⟩) (wd hw 1 rfl) (v' := (.ref sa)) (ty := (.array .double)) (by decide) rfl rfl (hb hby d1_8) (pc' := 11) rfl ?_
  intro T3 h3 X3 e3 W3
  have Ex_a := Ex_a.wr W3
  have F_shares_a := F_shares_a.same W3
  have F_held_a := F_held_a.other W3 (Or.inr (slot_ne (Or.inr (wd hw 14 rfl)) (Or.inr (wd hw 11 rfl)) (by decide) (t := (.array .int)) (t' := (.array .double)) (by decide) (by decide)))
  have F_size_a := F_size_a.other W3 (Or.inr (slot_ne (Or.inl (wd hw 21 rfl)) (Or.inr (wd hw 11 rfl)) (by decide) (t := .int) (t' := (.array .double)) (by decide) (by decide)))
  have V_sa := V_sa.other W3 (Ne.symm ne_a_sa)
  have Ex_sa := Ex_sa.wr W3
  have Zs := Nat.le_trans Zs (Wr.size W3)
  have NF3 := Fr.snoc X3 NF0 ga
  have K3 := K2.wr W3 (Or.inl (List.mem_of_getElem? (i := 0) rfl))
  refine g_aloadN hG X3 hx (hb hby d1_11) (pc' := 12) rfl rfl rfl ?_
  refine g_iloadN hG X3 hx (hb hby d1_12) (pc' := 13) rfl rfl ?_
  refine g_newPE hG X3 hx hZ (wd hw 12 rfl) e3 (hb hby d1_13) (by decide) 3 (by decide) (by decide) (by decide) (by decide) (ad := "[I") (by decide) (pc' := 15) rfl ?_
  intro T4 h4 ha gs4 X4 e4 E4 A4 B4
  have ne_a_ha : a ≠ ha := Nat.ne_of_lt (gs4 ▸ Ex_a.lt)
  have ne_sa_ha : sa ≠ ha := Nat.ne_of_lt (gs4 ▸ V_sa.lt)
  have ge_ha : n0 ≤ ha := gs4 ▸ Zs
  have sz_ha : h0.size ≤ ha := gs4 ▸ K3.1
  have Zs := Nat.le_trans Zs E4.1
  have Ex_a := Ex_a.ext E4
  have F_shares_a := F_shares_a.ext E4
  have F_held_a := F_held_a.ext E4
  have F_size_a := F_size_a.ext E4
  have V_sa := V_sa.ext E4
  have Ex_sa := Ex_sa.ext E4
  have K4 := K3.ext E4
  have V_ha : AV Z h4 ha .int (3 : Int32) [(.int 0), (.int 0), (.int 0)] := A4
  have Ex_ha := B4
  refine g_putF hG X4 hx hZ hown (wd hw 13 rfl) Via.refl e4 F_held_a Ex_a (Or.inr ⟨(wd hw 14 rfl), rfl, hnm⟩) (wd hw 1 rfl) (v' := (.ref ha)) (ty := (.array .int)) (by decide) rfl rfl (hb hby d1_15) (pc' := 18) rfl ?_
  intro T5 h5 X5 e5 W5
  have Ex_a := Ex_a.wr W5
  have F_shares_a := F_shares_a.other W5 (Or.inr (slot_ne (Or.inr (wd hw 11 rfl)) (Or.inr (wd hw 14 rfl)) (by decide) (t := (.array .double)) (t' := (.array .int)) (by decide) (by decide)))
  have F_held_a := F_held_a.same W5
  have F_size_a := F_size_a.other W5 (Or.inr (slot_ne (Or.inl (wd hw 21 rfl)) (Or.inr (wd hw 14 rfl)) (by decide) (t := .int) (t' := (.array .int)) (by decide) (by decide)))
  have V_sa := V_sa.other W5 (Ne.symm ne_a_sa)
  have Ex_sa := Ex_sa.wr W5
  have V_ha := V_ha.other W5 (Ne.symm ne_a_ha)
  have Ex_ha := Ex_ha.wr W5
  have Zs := Nat.le_trans Zs (Wr.size W5)
  have NF5 := Fr.snoc X5 NF3 ga
  have K5 := K4.wr W5 (Or.inl (List.mem_of_getElem? (i := 0) rfl))
  exact e_ret0 hGe X5 hx hrt hlk (hb hby d1_18) e5 (by decide) (by decide) (⟨sa, ha, rfl, NF5, K5, sz_sa, sz_ha, ne_sa_ha, ⟨Ex_a, Ex_ha, F_shares_a, F_held_a, F_size_a, V_sa, V_ha⟩⟩)

def Q_rmSh3 (Z : State) (a sa ha : Addr) (sh : Int32 → UInt64) (hd : Int32 → Int32) (sz j : Int32) (xx : UInt64) (h0 : Heap) (n0 : Nat) (v : Option Value) (h : Heap) (L : List Loc) : Prop := v = some (.double xx) ∧ Fr n0 L ∧ h = h0
set_option maxRecDepth 65536 in
set_option maxHeartbeats 40000000 in
theorem rmSh3 (l : Launch) (Z : State) (a0 : Array Value) (hw : ∀ d ∈ tables_1, d.before a0 Z = true) (ws : List Jvm.Cond) (a sa ha : Addr) (sh : Int32 → UInt64) (hd : Int32 → Int32) (sz j : Int32) (xx : UInt64) (h0 : Heap) (n0 : Nat) (Zs : n0 ≤ h0.size) (NQ : NS3 Z h0 a sa ha sz sh hd) (DD : Dis n0 a sa ha) (ij : In3 j) (hxx : sh j = xx) :
    Con l (⟨"org/termsieve/mapping/Shares", "share", "(I)D"⟩ : MethodName) prog_78_method_5_code 2 (some .double) ws ({ frames := 0, cells := 0, slots := 0, locals := 0 } : Room) Z #[(.ref a), (.int j)] h0 ({ frames := 0, cells := 0, slots := 0, locals := 0 } : Room).cells ({ frames := 0, cells := 0, slots := 0, locals := 0 } : Room).slots (Q_rmSh3 Z a sa ha sh hd sz j xx h0 n0) := by
  refine Con.of (Ls := #[.val (.ref a), .val (.int j)]) (plainFor_of_name (by first | (simp [plainName, overriddenIn]; done) | decide +kernel)) (fun m => by first | (simp [entryFrame, mkF, argsToLocals, Value.category]; done) | rfl) ?_
  intro p e s m below meth c s₁ G hGe hG hx hby hml hown hnm hrt hlk hZ X0 e0
  have hown : s.vm.findClass "org/termsieve/mapping/Shares" = some m.cls := hown
  have hnm : meth.name = "share" := hnm
  have NF0 := Fr.nil n0
  obtain ⟨Ex_a, Ex_ha, F_shares_a, F_held_a, F_size_a, V_sa, V_ha⟩ := NQ
  obtain ⟨ga, gsa, gha, d1, d2, d3⟩ := DD
  refine g_aloadN hG X0 hx (hb hby d14_0) (pc' := 1) rfl rfl rfl ?_
  refine g_getF hG X0 hx hZ hown (wd hw 10 rfl) Via.refl e0 F_shares_a (hb hby d14_1) (pc' := 4) rfl ?_
  intro T1 X1 e1
  refine g_iloadN hG X1 hx (hb hby d14_4) (pc' := 5) rfl rfl ?_
  refine g_daload hG X1 hx hZ e1 V_sa (j := j) (v := (.double (sh j))) (in3_nn ij) (in3_atd ij rfl) (hb hby d14_5) (pc' := 6) rfl ?_
  exact e_retD hGe X1 hx hrt hlk (hb hby d14_6) e1 (by decide) (by decide) (⟨by rw [hxx], NF0, rfl⟩)

def Q_rmAt3_0 (Z : State) (a sa ha : Addr) (sh : Int32 → UInt64) (hd : Int32 → Int32) (sz kk : Int32) (vv xx : UInt64) (h0 : Heap) (n0 : Nat) (v : Option Value) (h : Heap) (L : List Loc) : Prop := v = some (.int 1) ∧ Fr n0 L ∧ h = h0
set_option maxRecDepth 65536 in
set_option maxHeartbeats 40000000 in
theorem rmAt3_0 (l : Launch) (Z : State) (a0 : Array Value) (hw : ∀ d ∈ tables_1, d.before a0 Z = true) (ws : List Jvm.Cond) (a sa ha : Addr) (sh : Int32 → UInt64) (hd : Int32 → Int32) (sz kk : Int32) (vv xx : UInt64) (h0 : Heap) (n0 : Nat) (Zs : n0 ≤ h0.size) (NQ : NS3 Z h0 a sa ha sz sh hd) (DD : Dis n0 a sa ha) (hxx : sh (0 : Int32) = xx) (hc : ((0 : Int32) = kk ∧ FP.dcmp xx vv = some .eq) ∨ (¬ (0 : Int32) = kk ∧ FP.dcmp xx 0 = some .eq)) :
    Con l (⟨"org/termsieve/mapping/SharesClearPinLaw", "at", "(Lorg/termsieve/mapping/Shares;IIID)Z"⟩ : MethodName) method_3_code 8 (some .boolean) ws ({ frames := 1, cells := 0, slots := 0, locals := 16 } : Room) Z #[(.ref a), (.int 0), (.int 3), (.int kk), (.double vv)] h0 ({ frames := 1, cells := 0, slots := 0, locals := 16 } : Room).cells ({ frames := 1, cells := 0, slots := 0, locals := 16 } : Room).slots (Q_rmAt3_0 Z a sa ha sh hd sz kk vv xx h0 n0) := by
  refine Con.of (Ls := #[.val (.ref a), .val (.int 0), .val (.int 3), .val (.int kk), .val (.double vv), .second, .unset, .unset]) (plainFor_of_name (by first | (simp [plainName, overriddenIn]; done) | decide +kernel)) (fun m => by first | (simp [entryFrame, mkF, argsToLocals, Value.category]; done) | rfl) ?_
  intro p e s m below meth c s₁ G hGe hG hx hby hml hown hnm hrt hlk hZ X0 e0
  have hown : s.vm.findClass "org/termsieve/mapping/SharesClearPinLaw" = some m.cls := hown
  have hnm : meth.name = "at" := hnm
  have NF0 := Fr.nil n0
  obtain ⟨Ex_a, Ex_ha, F_shares_a, F_held_a, F_size_a, V_sa, V_ha⟩ := NQ
  obtain ⟨ga, gsa, gha, d1, d2, d3⟩ := DD
  rcases hc with ⟨c1, c2⟩ | ⟨c1, c2⟩
  · skip
    refine g_iloadN hG X0 hx (hb hby d13_0) (pc' := 1) rfl rfl ?_
    refine g_iloadN hG X0 hx (hb hby d13_1) (pc' := 2) rfl rfl ?_
    refine g_icmpYes hG X0 hx (hb hby d13_2) (pc' := 7) (by decide) (by decide) (by decide) ?_
    refine g_iloadN hG X0 hx (hb hby d13_7) (pc' := 8) rfl rfl ?_
    refine g_iloadN hG X0 hx (hb hby d13_8) (pc' := 9) rfl rfl ?_
    refine g_icmpNo hG X0 hx (hb hby d13_9) (pc' := 12) ((teq c1).2) rfl ?_
    refine g_dload hG X0 hx (hb hby d13_12) (pc' := 14) rfl rfl ?_
    refine g_goto hG X0 hx (hb hby d13_14) (pc' := 18) (by decide) (by decide) ?_
    refine g_dstore hG X0 hx (hb hby d13_18) (pc' := 20) rfl (Ls' := #[.val (.ref a), .val (.int 0), .val (.int 3), .val (.int kk), .val (.double vv), .second, .val (.double vv), .second]) rfl ?_
    refine g_aloadN hG X0 hx (hb hby d13_20) (pc' := 21) rfl rfl rfl ?_
    refine g_iloadN hG X0 hx (hb hby d13_21) (pc' := 22) rfl rfl ?_
    refine g_callV hG X0 hx hZ (y := (⟨"org/termsieve/mapping/Shares", "share", "(I)D"⟩ : MethodName)) 0 hown (wd hw 73 rfl) (wd hw 74 rfl) (wd hw 76 rfl) (wd hw 75 rfl) (wd hw 2 rfl) (wd hw 77 rfl) (by decide) (rmSh3 l Z a0 hw [] a sa ha sh hd sz (0 : Int32) xx h0 n0 Zs ⟨Ex_a, Ex_ha, F_shares_a, F_held_a, F_size_a, V_sa, V_ha⟩ ⟨ga, gsa, gha, d1, d2, d3⟩ in3_0 hxx) (by decide) (by decide) (by rw [hml]; rfl) pd_6 rfl (argsL := [(.int 0)]) (rest := []) rfl rfl (Nat.le_of_eq rfl) (hb hby d13_22) e0 Ex_a (by decide) (by decide) (pc' := 25) rfl ?_
    intro T1 rv1 L1 X1 hQ1
    obtain ⟨rfl, Nq1, eh1⟩ := hQ1
    have NF1 := Fr.app NF0 Nq1
    show G (T1.setTop (mkF m 25 _ [(.double xx)]))
    refine g_dload hG X1 hx (hb hby d13_25) (pc' := 27) rfl rfl ?_
    obtain ⟨v27, q27⟩ : ∃ zz : Int32, cmpValue (FP.dcmp xx vv) .l = zz := ⟨_, rfl⟩
    refine g_dcmp hG X1 hx (hb hby d13_27) (pc' := 28) rfl q27 ?_
    refine g_ifNo hG X1 hx (hb hby d13_28) (pc' := 31) (by rw [← q27, c2]; rfl) rfl ?_
    refine g_iconst hG X1 hx (hb hby d13_31) (pc' := 32) rfl (v := (1 : Int32)) rfl ?_
    refine g_goto hG X1 hx (hb hby d13_32) (pc' := 36) (by decide) (by decide) ?_
    exact e_retZ hGe X1 hx hrt hlk (hb hby d13_36) (Or.inr rfl) eh1 (by decide) (by decide) (⟨rfl, NF1, rfl⟩)
  · skip
    refine g_iloadN hG X0 hx (hb hby d13_0) (pc' := 1) rfl rfl ?_
    refine g_iloadN hG X0 hx (hb hby d13_1) (pc' := 2) rfl rfl ?_
    refine g_icmpYes hG X0 hx (hb hby d13_2) (pc' := 7) (by decide) (by decide) (by decide) ?_
    refine g_iloadN hG X0 hx (hb hby d13_7) (pc' := 8) rfl rfl ?_
    refine g_iloadN hG X0 hx (hb hby d13_8) (pc' := 9) rfl rfl ?_
    refine g_icmpYes hG X0 hx (hb hby d13_9) (pc' := 17) ((feq c1).2) (by decide) (by decide) ?_
    refine g_dconst0 hG X0 hx (hb hby d13_17) (pc' := 18) rfl (v := (0 : UInt64)) rfl ?_
    refine g_dstore hG X0 hx (hb hby d13_18) (pc' := 20) rfl (Ls' := #[.val (.ref a), .val (.int 0), .val (.int 3), .val (.int kk), .val (.double vv), .second, .val (.double 0), .second]) rfl ?_
    refine g_aloadN hG X0 hx (hb hby d13_20) (pc' := 21) rfl rfl rfl ?_
    refine g_iloadN hG X0 hx (hb hby d13_21) (pc' := 22) rfl rfl ?_
    refine g_callV hG X0 hx hZ (y := (⟨"org/termsieve/mapping/Shares", "share", "(I)D"⟩ : MethodName)) 0 hown (wd hw 73 rfl) (wd hw 74 rfl) (wd hw 76 rfl) (wd hw 75 rfl) (wd hw 2 rfl) (wd hw 77 rfl) (by decide) (rmSh3 l Z a0 hw [] a sa ha sh hd sz (0 : Int32) xx h0 n0 Zs ⟨Ex_a, Ex_ha, F_shares_a, F_held_a, F_size_a, V_sa, V_ha⟩ ⟨ga, gsa, gha, d1, d2, d3⟩ in3_0 hxx) (by decide) (by decide) (by rw [hml]; rfl) pd_6 rfl (argsL := [(.int 0)]) (rest := []) rfl rfl (Nat.le_of_eq rfl) (hb hby d13_22) e0 Ex_a (by decide) (by decide) (pc' := 25) rfl ?_
    intro T2 rv2 L2 X2 hQ2
    obtain ⟨rfl, Nq2, eh2⟩ := hQ2
    have NF2 := Fr.app NF0 Nq2
    show G (T2.setTop (mkF m 25 _ [(.double xx)]))
    refine g_dload hG X2 hx (hb hby d13_25) (pc' := 27) rfl rfl ?_
    obtain ⟨v27, q27⟩ : ∃ zz : Int32, cmpValue (FP.dcmp xx (0 : UInt64)) .l = zz := ⟨_, rfl⟩
    refine g_dcmp hG X2 hx (hb hby d13_27) (pc' := 28) rfl q27 ?_
    refine g_ifNo hG X2 hx (hb hby d13_28) (pc' := 31) (by rw [← q27, c2]; rfl) rfl ?_
    refine g_iconst hG X2 hx (hb hby d13_31) (pc' := 32) rfl (v := (1 : Int32)) rfl ?_
    refine g_goto hG X2 hx (hb hby d13_32) (pc' := 36) (by decide) (by decide) ?_
    exact e_retZ hGe X2 hx hrt hlk (hb hby d13_36) (Or.inr rfl) eh2 (by decide) (by decide) (⟨rfl, NF2, rfl⟩)

def Q_rmAt3_1 (Z : State) (a sa ha : Addr) (sh : Int32 → UInt64) (hd : Int32 → Int32) (sz kk : Int32) (vv xx : UInt64) (h0 : Heap) (n0 : Nat) (v : Option Value) (h : Heap) (L : List Loc) : Prop := v = some (.int 1) ∧ Fr n0 L ∧ h = h0
set_option maxRecDepth 65536 in
set_option maxHeartbeats 40000000 in
theorem rmAt3_1 (l : Launch) (Z : State) (a0 : Array Value) (hw : ∀ d ∈ tables_1, d.before a0 Z = true) (ws : List Jvm.Cond) (a sa ha : Addr) (sh : Int32 → UInt64) (hd : Int32 → Int32) (sz kk : Int32) (vv xx : UInt64) (h0 : Heap) (n0 : Nat) (Zs : n0 ≤ h0.size) (NQ : NS3 Z h0 a sa ha sz sh hd) (DD : Dis n0 a sa ha) (hxx : sh (1 : Int32) = xx) (hc : ((1 : Int32) = kk ∧ FP.dcmp xx vv = some .eq) ∨ (¬ (1 : Int32) = kk ∧ FP.dcmp xx 0 = some .eq)) :
    Con l (⟨"org/termsieve/mapping/SharesClearPinLaw", "at", "(Lorg/termsieve/mapping/Shares;IIID)Z"⟩ : MethodName) method_3_code 8 (some .boolean) ws ({ frames := 1, cells := 0, slots := 0, locals := 16 } : Room) Z #[(.ref a), (.int 1), (.int 3), (.int kk), (.double vv)] h0 ({ frames := 1, cells := 0, slots := 0, locals := 16 } : Room).cells ({ frames := 1, cells := 0, slots := 0, locals := 16 } : Room).slots (Q_rmAt3_1 Z a sa ha sh hd sz kk vv xx h0 n0) := by
  refine Con.of (Ls := #[.val (.ref a), .val (.int 1), .val (.int 3), .val (.int kk), .val (.double vv), .second, .unset, .unset]) (plainFor_of_name (by first | (simp [plainName, overriddenIn]; done) | decide +kernel)) (fun m => by first | (simp [entryFrame, mkF, argsToLocals, Value.category]; done) | rfl) ?_
  intro p e s m below meth c s₁ G hGe hG hx hby hml hown hnm hrt hlk hZ X0 e0
  have hown : s.vm.findClass "org/termsieve/mapping/SharesClearPinLaw" = some m.cls := hown
  have hnm : meth.name = "at" := hnm
  have NF0 := Fr.nil n0
  obtain ⟨Ex_a, Ex_ha, F_shares_a, F_held_a, F_size_a, V_sa, V_ha⟩ := NQ
  obtain ⟨ga, gsa, gha, d1, d2, d3⟩ := DD
  rcases hc with ⟨c1, c2⟩ | ⟨c1, c2⟩
  · skip
    refine g_iloadN hG X0 hx (hb hby d13_0) (pc' := 1) rfl rfl ?_
    refine g_iloadN hG X0 hx (hb hby d13_1) (pc' := 2) rfl rfl ?_
    refine g_icmpYes hG X0 hx (hb hby d13_2) (pc' := 7) (by decide) (by decide) (by decide) ?_
    refine g_iloadN hG X0 hx (hb hby d13_7) (pc' := 8) rfl rfl ?_
    refine g_iloadN hG X0 hx (hb hby d13_8) (pc' := 9) rfl rfl ?_
    refine g_icmpNo hG X0 hx (hb hby d13_9) (pc' := 12) ((teq c1).2) rfl ?_
    refine g_dload hG X0 hx (hb hby d13_12) (pc' := 14) rfl rfl ?_
    refine g_goto hG X0 hx (hb hby d13_14) (pc' := 18) (by decide) (by decide) ?_
    refine g_dstore hG X0 hx (hb hby d13_18) (pc' := 20) rfl (Ls' := #[.val (.ref a), .val (.int 1), .val (.int 3), .val (.int kk), .val (.double vv), .second, .val (.double vv), .second]) rfl ?_
    refine g_aloadN hG X0 hx (hb hby d13_20) (pc' := 21) rfl rfl rfl ?_
    refine g_iloadN hG X0 hx (hb hby d13_21) (pc' := 22) rfl rfl ?_
    refine g_callV hG X0 hx hZ (y := (⟨"org/termsieve/mapping/Shares", "share", "(I)D"⟩ : MethodName)) 0 hown (wd hw 73 rfl) (wd hw 74 rfl) (wd hw 76 rfl) (wd hw 75 rfl) (wd hw 2 rfl) (wd hw 77 rfl) (by decide) (rmSh3 l Z a0 hw [] a sa ha sh hd sz (1 : Int32) xx h0 n0 Zs ⟨Ex_a, Ex_ha, F_shares_a, F_held_a, F_size_a, V_sa, V_ha⟩ ⟨ga, gsa, gha, d1, d2, d3⟩ in3_1 hxx) (by decide) (by decide) (by rw [hml]; rfl) pd_6 rfl (argsL := [(.int 1)]) (rest := []) rfl rfl (Nat.le_of_eq rfl) (hb hby d13_22) e0 Ex_a (by decide) (by decide) (pc' := 25) rfl ?_
    intro T1 rv1 L1 X1 hQ1
    obtain ⟨rfl, Nq1, eh1⟩ := hQ1
    have NF1 := Fr.app NF0 Nq1
    show G (T1.setTop (mkF m 25 _ [(.double xx)]))
    refine g_dload hG X1 hx (hb hby d13_25) (pc' := 27) rfl rfl ?_
    obtain ⟨v27, q27⟩ : ∃ zz : Int32, cmpValue (FP.dcmp xx vv) .l = zz := ⟨_, rfl⟩
    refine g_dcmp hG X1 hx (hb hby d13_27) (pc' := 28) rfl q27 ?_
    refine g_ifNo hG X1 hx (hb hby d13_28) (pc' := 31) (by rw [← q27, c2]; rfl) rfl ?_
    refine g_iconst hG X1 hx (hb hby d13_31) (pc' := 32) rfl (v := (1 : Int32)) rfl ?_
    refine g_goto hG X1 hx (hb hby d13_32) (pc' := 36) (by decide) (by decide) ?_
    exact e_retZ hGe X1 hx hrt hlk (hb hby d13_36) (Or.inr rfl) eh1 (by decide) (by decide) (⟨rfl, NF1, rfl⟩)
  · skip
    refine g_iloadN hG X0 hx (hb hby d13_0) (pc' := 1) rfl rfl ?_
    refine g_iloadN hG X0 hx (hb hby d13_1) (pc' := 2) rfl rfl ?_
    refine g_icmpYes hG X0 hx (hb hby d13_2) (pc' := 7) (by decide) (by decide) (by decide) ?_
    refine g_iloadN hG X0 hx (hb hby d13_7) (pc' := 8) rfl rfl ?_
    refine g_iloadN hG X0 hx (hb hby d13_8) (pc' := 9) rfl rfl ?_
    refine g_icmpYes hG X0 hx (hb hby d13_9) (pc' := 17) ((feq c1).2) (by decide) (by decide) ?_
    refine g_dconst0 hG X0 hx (hb hby d13_17) (pc' := 18) rfl (v := (0 : UInt64)) rfl ?_
    refine g_dstore hG X0 hx (hb hby d13_18) (pc' := 20) rfl (Ls' := #[.val (.ref a), .val (.int 1), .val (.int 3), .val (.int kk), .val (.double vv), .second, .val (.double 0), .second]) rfl ?_
    refine g_aloadN hG X0 hx (hb hby d13_20) (pc' := 21) rfl rfl rfl ?_
    refine g_iloadN hG X0 hx (hb hby d13_21) (pc' := 22) rfl rfl ?_
    refine g_callV hG X0 hx hZ (y := (⟨"org/termsieve/mapping/Shares", "share", "(I)D"⟩ : MethodName)) 0 hown (wd hw 73 rfl) (wd hw 74 rfl) (wd hw 76 rfl) (wd hw 75 rfl) (wd hw 2 rfl) (wd hw 77 rfl) (by decide) (rmSh3 l Z a0 hw [] a sa ha sh hd sz (1 : Int32) xx h0 n0 Zs ⟨Ex_a, Ex_ha, F_shares_a, F_held_a, F_size_a, V_sa, V_ha⟩ ⟨ga, gsa, gha, d1, d2, d3⟩ in3_1 hxx) (by decide) (by decide) (by rw [hml]; rfl) pd_6 rfl (argsL := [(.int 1)]) (rest := []) rfl rfl (Nat.le_of_eq rfl) (hb hby d13_22) e0 Ex_a (by decide) (by decide) (pc' := 25) rfl ?_
    intro T2 rv2 L2 X2 hQ2
    obtain ⟨rfl, Nq2, eh2⟩ := hQ2
    have NF2 := Fr.app NF0 Nq2
    show G (T2.setTop (mkF m 25 _ [(.double xx)]))
    refine g_dload hG X2 hx (hb hby d13_25) (pc' := 27) rfl rfl ?_
    obtain ⟨v27, q27⟩ : ∃ zz : Int32, cmpValue (FP.dcmp xx (0 : UInt64)) .l = zz := ⟨_, rfl⟩
    refine g_dcmp hG X2 hx (hb hby d13_27) (pc' := 28) rfl q27 ?_
    refine g_ifNo hG X2 hx (hb hby d13_28) (pc' := 31) (by rw [← q27, c2]; rfl) rfl ?_
    refine g_iconst hG X2 hx (hb hby d13_31) (pc' := 32) rfl (v := (1 : Int32)) rfl ?_
    refine g_goto hG X2 hx (hb hby d13_32) (pc' := 36) (by decide) (by decide) ?_
    exact e_retZ hGe X2 hx hrt hlk (hb hby d13_36) (Or.inr rfl) eh2 (by decide) (by decide) (⟨rfl, NF2, rfl⟩)

def Q_rmAt3_2 (Z : State) (a sa ha : Addr) (sh : Int32 → UInt64) (hd : Int32 → Int32) (sz kk : Int32) (vv xx : UInt64) (h0 : Heap) (n0 : Nat) (v : Option Value) (h : Heap) (L : List Loc) : Prop := v = some (.int 1) ∧ Fr n0 L ∧ h = h0
set_option maxRecDepth 65536 in
set_option maxHeartbeats 40000000 in
theorem rmAt3_2 (l : Launch) (Z : State) (a0 : Array Value) (hw : ∀ d ∈ tables_1, d.before a0 Z = true) (ws : List Jvm.Cond) (a sa ha : Addr) (sh : Int32 → UInt64) (hd : Int32 → Int32) (sz kk : Int32) (vv xx : UInt64) (h0 : Heap) (n0 : Nat) (Zs : n0 ≤ h0.size) (NQ : NS3 Z h0 a sa ha sz sh hd) (DD : Dis n0 a sa ha) (hxx : sh (2 : Int32) = xx) (hc : ((2 : Int32) = kk ∧ FP.dcmp xx vv = some .eq) ∨ (¬ (2 : Int32) = kk ∧ FP.dcmp xx 0 = some .eq)) :
    Con l (⟨"org/termsieve/mapping/SharesClearPinLaw", "at", "(Lorg/termsieve/mapping/Shares;IIID)Z"⟩ : MethodName) method_3_code 8 (some .boolean) ws ({ frames := 1, cells := 0, slots := 0, locals := 16 } : Room) Z #[(.ref a), (.int 2), (.int 3), (.int kk), (.double vv)] h0 ({ frames := 1, cells := 0, slots := 0, locals := 16 } : Room).cells ({ frames := 1, cells := 0, slots := 0, locals := 16 } : Room).slots (Q_rmAt3_2 Z a sa ha sh hd sz kk vv xx h0 n0) := by
  refine Con.of (Ls := #[.val (.ref a), .val (.int 2), .val (.int 3), .val (.int kk), .val (.double vv), .second, .unset, .unset]) (plainFor_of_name (by first | (simp [plainName, overriddenIn]; done) | decide +kernel)) (fun m => by first | (simp [entryFrame, mkF, argsToLocals, Value.category]; done) | rfl) ?_
  intro p e s m below meth c s₁ G hGe hG hx hby hml hown hnm hrt hlk hZ X0 e0
  have hown : s.vm.findClass "org/termsieve/mapping/SharesClearPinLaw" = some m.cls := hown
  have hnm : meth.name = "at" := hnm
  have NF0 := Fr.nil n0
  obtain ⟨Ex_a, Ex_ha, F_shares_a, F_held_a, F_size_a, V_sa, V_ha⟩ := NQ
  obtain ⟨ga, gsa, gha, d1, d2, d3⟩ := DD
  rcases hc with ⟨c1, c2⟩ | ⟨c1, c2⟩
  · skip
    refine g_iloadN hG X0 hx (hb hby d13_0) (pc' := 1) rfl rfl ?_
    refine g_iloadN hG X0 hx (hb hby d13_1) (pc' := 2) rfl rfl ?_
    refine g_icmpYes hG X0 hx (hb hby d13_2) (pc' := 7) (by decide) (by decide) (by decide) ?_
    refine g_iloadN hG X0 hx (hb hby d13_7) (pc' := 8) rfl rfl ?_
    refine g_iloadN hG X0 hx (hb hby d13_8) (pc' := 9) rfl rfl ?_
    refine g_icmpNo hG X0 hx (hb hby d13_9) (pc' := 12) ((teq c1).2) rfl ?_
    refine g_dload hG X0 hx (hb hby d13_12) (pc' := 14) rfl rfl ?_
    refine g_goto hG X0 hx (hb hby d13_14) (pc' := 18) (by decide) (by decide) ?_
    refine g_dstore hG X0 hx (hb hby d13_18) (pc' := 20) rfl (Ls' := #[.val (.ref a), .val (.int 2), .val (.int 3), .val (.int kk), .val (.double vv), .second, .val (.double vv), .second]) rfl ?_
    refine g_aloadN hG X0 hx (hb hby d13_20) (pc' := 21) rfl rfl rfl ?_
    refine g_iloadN hG X0 hx (hb hby d13_21) (pc' := 22) rfl rfl ?_
    refine g_callV hG X0 hx hZ (y := (⟨"org/termsieve/mapping/Shares", "share", "(I)D"⟩ : MethodName)) 0 hown (wd hw 73 rfl) (wd hw 74 rfl) (wd hw 76 rfl) (wd hw 75 rfl) (wd hw 2 rfl) (wd hw 77 rfl) (by decide) (rmSh3 l Z a0 hw [] a sa ha sh hd sz (2 : Int32) xx h0 n0 Zs ⟨Ex_a, Ex_ha, F_shares_a, F_held_a, F_size_a, V_sa, V_ha⟩ ⟨ga, gsa, gha, d1, d2, d3⟩ in3_2 hxx) (by decide) (by decide) (by rw [hml]; rfl) pd_6 rfl (argsL := [(.int 2)]) (rest := []) rfl rfl (Nat.le_of_eq rfl) (hb hby d13_22) e0 Ex_a (by decide) (by decide) (pc' := 25) rfl ?_
    intro T1 rv1 L1 X1 hQ1
    obtain ⟨rfl, Nq1, eh1⟩ := hQ1
    have NF1 := Fr.app NF0 Nq1
    show G (T1.setTop (mkF m 25 _ [(.double xx)]))
    refine g_dload hG X1 hx (hb hby d13_25) (pc' := 27) rfl rfl ?_
    obtain ⟨v27, q27⟩ : ∃ zz : Int32, cmpValue (FP.dcmp xx vv) .l = zz := ⟨_, rfl⟩
    refine g_dcmp hG X1 hx (hb hby d13_27) (pc' := 28) rfl q27 ?_
    refine g_ifNo hG X1 hx (hb hby d13_28) (pc' := 31) (by rw [← q27, c2]; rfl) rfl ?_
    refine g_iconst hG X1 hx (hb hby d13_31) (pc' := 32) rfl (v := (1 : Int32)) rfl ?_
    refine g_goto hG X1 hx (hb hby d13_32) (pc' := 36) (by decide) (by decide) ?_
    exact e_retZ hGe X1 hx hrt hlk (hb hby d13_36) (Or.inr rfl) eh1 (by decide) (by decide) (⟨rfl, NF1, rfl⟩)
  · skip
    refine g_iloadN hG X0 hx (hb hby d13_0) (pc' := 1) rfl rfl ?_
    refine g_iloadN hG X0 hx (hb hby d13_1) (pc' := 2) rfl rfl ?_
    refine g_icmpYes hG X0 hx (hb hby d13_2) (pc' := 7) (by decide) (by decide) (by decide) ?_
    refine g_iloadN hG X0 hx (hb hby d13_7) (pc' := 8) rfl rfl ?_
    refine g_iloadN hG X0 hx (hb hby d13_8) (pc' := 9) rfl rfl ?_
    refine g_icmpYes hG X0 hx (hb hby d13_9) (pc' := 17) ((feq c1).2) (by decide) (by decide) ?_
    refine g_dconst0 hG X0 hx (hb hby d13_17) (pc' := 18) rfl (v := (0 : UInt64)) rfl ?_
    refine g_dstore hG X0 hx (hb hby d13_18) (pc' := 20) rfl (Ls' := #[.val (.ref a), .val (.int 2), .val (.int 3), .val (.int kk), .val (.double vv), .second, .val (.double 0), .second]) rfl ?_
    refine g_aloadN hG X0 hx (hb hby d13_20) (pc' := 21) rfl rfl rfl ?_
    refine g_iloadN hG X0 hx (hb hby d13_21) (pc' := 22) rfl rfl ?_
    refine g_callV hG X0 hx hZ (y := (⟨"org/termsieve/mapping/Shares", "share", "(I)D"⟩ : MethodName)) 0 hown (wd hw 73 rfl) (wd hw 74 rfl) (wd hw 76 rfl) (wd hw 75 rfl) (wd hw 2 rfl) (wd hw 77 rfl) (by decide) (rmSh3 l Z a0 hw [] a sa ha sh hd sz (2 : Int32) xx h0 n0 Zs ⟨Ex_a, Ex_ha, F_shares_a, F_held_a, F_size_a, V_sa, V_ha⟩ ⟨ga, gsa, gha, d1, d2, d3⟩ in3_2 hxx) (by decide) (by decide) (by rw [hml]; rfl) pd_6 rfl (argsL := [(.int 2)]) (rest := []) rfl rfl (Nat.le_of_eq rfl) (hb hby d13_22) e0 Ex_a (by decide) (by decide) (pc' := 25) rfl ?_
    intro T2 rv2 L2 X2 hQ2
    obtain ⟨rfl, Nq2, eh2⟩ := hQ2
    have NF2 := Fr.app NF0 Nq2
    show G (T2.setTop (mkF m 25 _ [(.double xx)]))
    refine g_dload hG X2 hx (hb hby d13_25) (pc' := 27) rfl rfl ?_
    obtain ⟨v27, q27⟩ : ∃ zz : Int32, cmpValue (FP.dcmp xx (0 : UInt64)) .l = zz := ⟨_, rfl⟩
    refine g_dcmp hG X2 hx (hb hby d13_27) (pc' := 28) rfl q27 ?_
    refine g_ifNo hG X2 hx (hb hby d13_28) (pc' := 31) (by rw [← q27, c2]; rfl) rfl ?_
    refine g_iconst hG X2 hx (hb hby d13_31) (pc' := 32) rfl (v := (1 : Int32)) rfl ?_
    refine g_goto hG X2 hx (hb hby d13_32) (pc' := 36) (by decide) (by decide) ?_
    exact e_retZ hGe X2 hx hrt hlk (hb hby d13_36) (Or.inr rfl) eh2 (by decide) (by decide) (⟨rfl, NF2, rfl⟩)

def Q_rmAt3_3 (Z : State) (a : Addr) (kk : Int32) (vv : UInt64) (h0 : Heap) (n0 : Nat) (v : Option Value) (h : Heap) (L : List Loc) : Prop := v = some (.int 1) ∧ Fr n0 L ∧ h = h0
set_option maxRecDepth 65536 in
set_option maxHeartbeats 40000000 in
theorem rmAt3_3 (l : Launch) (Z : State) (a0 : Array Value) (hw : ∀ d ∈ tables_1, d.before a0 Z = true) (ws : List Jvm.Cond) (a : Addr) (kk : Int32) (vv : UInt64) (h0 : Heap) (n0 : Nat) (Zs : n0 ≤ h0.size)  :
    Con l (⟨"org/termsieve/mapping/SharesClearPinLaw", "at", "(Lorg/termsieve/mapping/Shares;IIID)Z"⟩ : MethodName) method_3_code 8 (some .boolean) ws ({ frames := 1, cells := 0, slots := 0, locals := 16 } : Room) Z #[(.ref a), (.int 3), (.int 3), (.int kk), (.double vv)] h0 ({ frames := 1, cells := 0, slots := 0, locals := 16 } : Room).cells ({ frames := 1, cells := 0, slots := 0, locals := 16 } : Room).slots (Q_rmAt3_3 Z a kk vv h0 n0) := by
  refine Con.of (Ls := #[.val (.ref a), .val (.int 3), .val (.int 3), .val (.int kk), .val (.double vv), .second, .unset, .unset]) (plainFor_of_name (by first | (simp [plainName, overriddenIn]; done) | decide +kernel)) (fun m => by first | (simp [entryFrame, mkF, argsToLocals, Value.category]; done) | rfl) ?_
  intro p e s m below meth c s₁ G hGe hG hx hby hml hown hnm hrt hlk hZ X0 e0
  have hown : s.vm.findClass "org/termsieve/mapping/SharesClearPinLaw" = some m.cls := hown
  have hnm : meth.name = "at" := hnm
  have NF0 := Fr.nil n0
  refine g_iloadN hG X0 hx (hb hby d13_0) (pc' := 1) rfl rfl ?_
  refine g_iloadN hG X0 hx (hb hby d13_1) (pc' := 2) rfl rfl ?_
  refine g_icmpNo hG X0 hx (hb hby d13_2) (pc' := 5) (by decide) rfl ?_
  refine g_iconst hG X0 hx (hb hby d13_5) (pc' := 6) rfl (v := (1 : Int32)) rfl ?_
  exact e_retZ hGe X0 hx hrt hlk (hb hby d13_6) (Or.inr rfl) e0 (by decide) (by decide) (⟨rfl, NF0, rfl⟩)

def Q_rmRa3_0n (Z : State) (a sa ha : Addr) (sh : Int32 → UInt64) (hd : Int32 → Int32) (kk : Int32) (vv mm : UInt64) (h0 : Heap) (n0 : Nat) (v : Option Value) (h : Heap) (L : List Loc) : Prop := v = none ∧ Fr n0 L ∧ Keep h0 h [a, sa, ha] ∧ NS3 Z h a sa ha (1 : Int32) (upd sh kk mm) (upd hd (0 : Int32) kk)
set_option maxRecDepth 65536 in
set_option maxHeartbeats 40000000 in
theorem rmRa3_0n (l : Launch) (Z : State) (a0 : Array Value) (hw : ∀ d ∈ tables_1, d.before a0 Z = true) (ws : List Jvm.Cond) (a sa ha : Addr) (sh : Int32 → UInt64) (hd : Int32 → Int32) (kk : Int32) (vv mm : UInt64) (h0 : Heap) (n0 : Nat) (Zs : n0 ≤ h0.size) (NQ : NS3 Z h0 a sa ha (0 : Int32) sh hd) (DD : Dis n0 a sa ha) (ik : In3 kk) (nv : Jvm.Free.Fl.NoNaN64 vv) (hm : Jvm.Native.java_lang_Math.nans.pick64 true 0 vv = mm) (hxx : sh kk = 0) :
    Con l (⟨"org/termsieve/mapping/Shares", "raise", "(ID)V"⟩ : MethodName) prog_78_method_2_code 4 none ws ({ frames := 1, cells := 0, slots := 0, locals := 40 } : Room) Z #[(.ref a), (.int kk), (.double vv)] h0 ({ frames := 1, cells := 0, slots := 0, locals := 40 } : Room).cells ({ frames := 1, cells := 0, slots := 0, locals := 40 } : Room).slots (Q_rmRa3_0n Z a sa ha sh hd kk vv mm h0 n0) := by
  refine Con.of (Ls := #[.val (.ref a), .val (.int kk), .val (.double vv), .second]) (plainFor_of_name (by first | (simp [plainName, overriddenIn]; done) | decide +kernel)) (fun m => by first | (simp [entryFrame, mkF, argsToLocals, Value.category]; done) | rfl) ?_
  intro p e s m below meth c s₁ G hGe hG hx hby hml hown hnm hrt hlk hZ X0 e0
  have hown : s.vm.findClass "org/termsieve/mapping/Shares" = some m.cls := hown
  have hnm : meth.name = "raise" := hnm
  have NF0 := Fr.nil n0
  obtain ⟨Ex_a, Ex_ha, F_shares_a, F_held_a, F_size_a, V_sa, V_ha⟩ := NQ
  obtain ⟨ga, gsa, gha, d1, d2, d3⟩ := DD
  have K0 := Keep.refl h0 [a, sa, ha]
  subst hm
  refine g_aloadN hG X0 hx (hb hby d3_0) (pc' := 1) rfl rfl rfl ?_
  refine g_getF hG X0 hx hZ hown (wd hw 10 rfl) Via.refl e0 F_shares_a (hb hby d3_1) (pc' := 4) rfl ?_
  intro T1 X1 e1
  refine g_iloadN hG X1 hx (hb hby d3_4) (pc' := 5) rfl rfl ?_
  refine g_daload hG X1 hx hZ e1 V_sa (j := kk) (v := (.double 0)) (in3_nn ik) (in3_atd ik hxx) (hb hby d3_5) (pc' := 6) rfl ?_
  refine g_dconst0 hG X1 hx (hb hby d3_6) (pc' := 7) rfl (v := (0 : UInt64)) rfl ?_
  obtain ⟨v7, q7⟩ : ∃ zz : Int32, cmpValue (FP.dcmp (0 : UInt64) (0 : UInt64)) .l = zz := ⟨_, rfl⟩
  refine g_dcmp hG X1 hx (hb hby d3_7) (pc' := 8) rfl q7 ?_
  refine g_ifNo hG X1 hx (hb hby d3_8) (pc' := 11) (by rw [← q7, own_zz]; rfl) rfl ?_
  refine g_aloadN hG X1 hx (hb hby d3_11) (pc' := 12) rfl rfl rfl ?_
  refine g_getF hG X1 hx hZ hown (wd hw 13 rfl) Via.refl e1 F_held_a (hb hby d3_12) (pc' := 15) rfl ?_
  intro T2 X2 e2
  refine g_aloadN hG X2 hx (hb hby d3_15) (pc' := 16) rfl rfl rfl ?_
  refine g_dup hG X2 hx (hb hby d3_16) (pc' := 17) rfl rfl ?_
  refine g_getF hG X2 hx hZ hown (wd hw 20 rfl) Via.refl e2 F_size_a (hb hby d3_17) (pc' := 20) rfl ?_
  intro T3 X3 e3
  refine g_dupX1 hG X3 hx (hb hby d3_20) (pc' := 21) rfl rfl rfl ?_
  refine g_iconst hG X3 hx (hb hby d3_21) (pc' := 22) rfl (v := (1 : Int32)) rfl ?_
  refine g_iadd hG X3 hx (hb hby d3_22) (pc' := 23) rfl (v := (1 : Int32)) (by decide) ?_
  refine g_putF hG X3 hx hZ hown (wd hw 20 rfl) Via.refl e3 F_size_a Ex_a (Or.inl (wd hw 21 rfl)) (wd hw 1 rfl) (v' := (.int 1)) (ty := .int) (by decide) rfl rfl (hb hby d3_23) (pc' := 26) rfl ?_
  intro T4 h4 X4 e4 W4
  have Ex_a := Ex_a.wr W4
  have Ex_ha := Ex_ha.wr W4
  have F_shares_a := F_shares_a.other W4 (Or.inr (slot_ne (Or.inr (wd hw 11 rfl)) (Or.inl (wd hw 21 rfl)) (by decide) (t := (.array .double)) (t' := .int) (by decide) (by decide)))
  have F_held_a := F_held_a.other W4 (Or.inr (slot_ne (Or.inr (wd hw 14 rfl)) (Or.inl (wd hw 21 rfl)) (by decide) (t := (.array .int)) (t' := .int) (by decide) (by decide)))
  have F_size_a := F_size_a.same W4
  have V_sa := V_sa.other W4 (Ne.symm d1)
  have V_ha := V_ha.other W4 (Ne.symm d2)
  have Zs := Nat.le_trans Zs (Wr.size W4)
  have NF4 := Fr.snoc X4 NF0 ga
  have K4 := K0.wr W4 (Or.inl (List.mem_of_getElem? (i := 0) rfl))
  refine g_iloadN hG X4 hx (hb hby d3_26) (pc' := 27) rfl rfl ?_
  refine g_iastore hG X4 hx hZ e4 V_ha (j := (0 : Int32)) (in3_nn in3_0) (in3_len in3_0) (hb hby d3_27) (pc' := 28) rfl ?_
  intro T5 h5 X5 e5 W5 Vn5
  rw [in3_set in3_0] at Vn5
  have V_ha : AV Z h5 ha .int (3 : Int32) (fn3 (upd hd (0 : Int32) kk)) := Vn5
  have Ex_a := Ex_a.wr W5
  have Ex_ha := Ex_ha.wr W5
  have F_shares_a := F_shares_a.other W5 (Or.inl d2)
  have F_held_a := F_held_a.other W5 (Or.inl d2)
  have F_size_a := F_size_a.other W5 (Or.inl d2)
  have V_sa := V_sa.other W5 d3
  have Zs := Nat.le_trans Zs (Wr.size W5)
  have NF5 := Fr.snoc X5 NF4 gha
  have K5 := K4.wr W5 (Or.inl (List.mem_of_getElem? (i := 2) rfl))
  refine g_aloadN hG X5 hx (hb hby d3_28) (pc' := 29) rfl rfl rfl ?_
  refine g_getF hG X5 hx hZ hown (wd hw 10 rfl) Via.refl e5 F_shares_a (hb hby d3_29) (pc' := 32) rfl ?_
  intro T6 X6 e6
  refine g_iloadN hG X6 hx (hb hby d3_32) (pc' := 33) rfl rfl ?_
  refine g_aloadN hG X6 hx (hb hby d3_33) (pc' := 34) rfl rfl rfl ?_
  refine g_getF hG X6 hx hZ hown (wd hw 10 rfl) Via.refl e6 F_shares_a (hb hby d3_34) (pc' := 37) rfl ?_
  intro T7 X7 e7
  refine g_iloadN hG X7 hx (hb hby d3_37) (pc' := 38) rfl rfl ?_
  refine g_daload hG X7 hx hZ e7 V_sa (j := kk) (v := (.double 0)) (in3_nn ik) (in3_atd ik hxx) (hb hby d3_38) (pc' := 39) rfl ?_
  refine g_dloadN hG X7 hx (hb hby d3_39) (pc' := 40) rfl rfl ?_
  refine g_natS hG X7 hx hZ (y := (⟨"java/lang/Math", "max", "(DD)D"⟩ : MethodName)) (val := (.double (Jvm.Native.java_lang_Math.nans.pick64 true (0 : UInt64) vv))) 2 hown (wd hw 22 rfl) (wd hw 23 rfl) (wd hw 24 rfl) (wd hw 25 rfl) (by decide) (fun hc => Jvm.Free.Fl.Abs.maxD_pays (0 : UInt64) vv hc (by decide) (by decide)) (by rw [hml]; rfl) pd_7 rfl (argsL := [(.double 0), (.double vv)]) (rest := [(.int kk), (.ref sa)]) rfl (Nat.le_of_eq rfl) (hb hby d3_40) e7 (by decide) (by decide) (⟨rfl, own_z.noNaN, nv⟩) (pc' := 43) rfl ?_
  intro T8 X8 e8
  show G (T8.setTop (mkF m 43 _ [(.double (Jvm.Native.java_lang_Math.nans.pick64 true (0 : UInt64) vv)), (.int kk), (.ref sa)]))
  refine g_dastore hG X8 hx hZ e8 V_sa (j := kk) (in3_nn ik) (in3_lend ik) (hb hby d3_43) (pc' := 44) rfl ?_
  intro T9 h9 X9 e9 W9 Vn9
  rw [in3_setd ik] at Vn9
  have V_sa : AV Z h9 sa .double (3 : Int32) (fd3 (upd sh kk (Jvm.Native.java_lang_Math.nans.pick64 true (0 : UInt64) vv))) := Vn9
  have Ex_a := Ex_a.wr W9
  have Ex_ha := Ex_ha.wr W9
  have F_shares_a := F_shares_a.other W9 (Or.inl d1)
  have F_held_a := F_held_a.other W9 (Or.inl d1)
  have F_size_a := F_size_a.other W9 (Or.inl d1)
  have V_ha := V_ha.other W9 (Ne.symm d3)
  have Zs := Nat.le_trans Zs (Wr.size W9)
  have NF9 := Fr.snoc X9 NF5 gsa
  have K9 := K5.wr W9 (Or.inl (List.mem_of_getElem? (i := 1) rfl))
  exact e_ret0 hGe X9 hx hrt hlk (hb hby d3_44) e9 (by decide) (by decide) (⟨rfl, NF9, K9, Ex_a, Ex_ha, F_shares_a, F_held_a, F_size_a, V_sa, V_ha⟩)

def Q_rmCl3_0 (Z : State) (a sa ha : Addr) (sh : Int32 → UInt64) (hd : Int32 → Int32) (h0 : Heap) (n0 : Nat) (v : Option Value) (h : Heap) (L : List Loc) : Prop := v = none ∧ Fr n0 L ∧ Keep h0 h [a, sa, ha] ∧ NS3 Z h a sa ha (0 : Int32) sh hd
set_option maxRecDepth 65536 in
set_option maxHeartbeats 40000000 in
theorem rmCl3_0 (l : Launch) (Z : State) (a0 : Array Value) (hw : ∀ d ∈ tables_1, d.before a0 Z = true) (ws : List Jvm.Cond) (a sa ha : Addr) (sh : Int32 → UInt64) (hd : Int32 → Int32) (h0 : Heap) (n0 : Nat) (Zs : n0 ≤ h0.size) (NQ : NS3 Z h0 a sa ha (0 : Int32) sh hd) (DD : Dis n0 a sa ha) :
    Con l (⟨"org/termsieve/mapping/Shares", "clear", "()V"⟩ : MethodName) prog_78_method_4_code 2 none ws ({ frames := 0, cells := 0, slots := 0, locals := 0 } : Room) Z #[(.ref a)] h0 ({ frames := 0, cells := 0, slots := 0, locals := 0 } : Room).cells ({ frames := 0, cells := 0, slots := 0, locals := 0 } : Room).slots (Q_rmCl3_0 Z a sa ha sh hd  h0 n0) := by
  refine Con.of (Ls := #[.val (.ref a), .unset]) (plainFor_of_name (by first | (simp [plainName, overriddenIn]; done) | decide +kernel)) (fun m => by first | (simp [entryFrame, mkF, argsToLocals, Value.category]; done) | rfl) ?_
  intro p e s m below meth c s₁ G hGe hG hx hby hml hown hnm hrt hlk hZ X0 e0
  have hown : s.vm.findClass "org/termsieve/mapping/Shares" = some m.cls := hown
  have hnm : meth.name = "clear" := hnm
  have NF0 := Fr.nil n0
  obtain ⟨Ex_a, Ex_ha, F_shares_a, F_held_a, F_size_a, V_sa, V_ha⟩ := NQ
  obtain ⟨ga, gsa, gha, d1, d2, d3⟩ := DD
  have K0 := Keep.refl h0 [a, sa, ha]
  refine g_iconst hG X0 hx (hb hby d5_0) (pc' := 1) rfl (v := (0 : Int32)) rfl ?_
  refine g_istoreN hG X0 hx (hb hby d5_1) (pc' := 2) rfl (Ls' := #[.val (.ref a), .val (.int 0)]) rfl ?_
  refine g_iloadN hG X0 hx (hb hby d5_2) (pc' := 3) rfl rfl ?_
  refine g_aloadN hG X0 hx (hb hby d5_3) (pc' := 4) rfl rfl rfl ?_
  refine g_getF hG X0 hx hZ hown (wd hw 20 rfl) Via.refl e0 F_size_a (hb hby d5_4) (pc' := 7) rfl ?_
  intro T1 X1 e1
  refine g_icmpYes hG X1 hx (hb hby d5_7) (pc' := 28) (by decide) (by decide) (by decide) ?_
  refine g_aloadN hG X1 hx (hb hby d5_28) (pc' := 29) rfl rfl rfl ?_
  refine g_iconst hG X1 hx (hb hby d5_29) (pc' := 30) rfl (v := (0 : Int32)) rfl ?_
  refine g_putF hG X1 hx hZ hown (wd hw 20 rfl) Via.refl e1 F_size_a Ex_a (Or.inl (wd hw 21 rfl)) (wd hw 1 rfl) (v' := (.int 0)) (ty := .int) (by decide) rfl rfl (hb hby d5_30) (pc' := 33) rfl ?_
  intro T2 h2 X2 e2 W2
  have Ex_a := Ex_a.wr W2
  have Ex_ha := Ex_ha.wr W2
  have F_shares_a := F_shares_a.other W2 (Or.inr (slot_ne (Or.inr (wd hw 11 rfl)) (Or.inl (wd hw 21 rfl)) (by decide) (t := (.array .double)) (t' := .int) (by decide) (by decide)))
  have F_held_a := F_held_a.other W2 (Or.inr (slot_ne (Or.inr (wd hw 14 rfl)) (Or.inl (wd hw 21 rfl)) (by decide) (t := (.array .int)) (t' := .int) (by decide) (by decide)))
  have F_size_a := F_size_a.same W2
  have V_sa := V_sa.other W2 (Ne.symm d1)
  have V_ha := V_ha.other W2 (Ne.symm d2)
  have Zs := Nat.le_trans Zs (Wr.size W2)
  have NF2 := Fr.snoc X2 NF0 ga
  have K2 := K0.wr W2 (Or.inl (List.mem_of_getElem? (i := 0) rfl))
  exact e_ret0 hGe X2 hx hrt hlk (hb hby d5_33) e2 (by decide) (by decide) (⟨rfl, NF2, K2, Ex_a, Ex_ha, F_shares_a, F_held_a, F_size_a, V_sa, V_ha⟩)

def Q_rmRa3_1n (Z : State) (a sa ha : Addr) (sh : Int32 → UInt64) (hd : Int32 → Int32) (kk : Int32) (vv mm : UInt64) (h0 : Heap) (n0 : Nat) (v : Option Value) (h : Heap) (L : List Loc) : Prop := v = none ∧ Fr n0 L ∧ Keep h0 h [a, sa, ha] ∧ NS3 Z h a sa ha (2 : Int32) (upd sh kk mm) (upd hd (1 : Int32) kk)
set_option maxRecDepth 65536 in
set_option maxHeartbeats 40000000 in
theorem rmRa3_1n (l : Launch) (Z : State) (a0 : Array Value) (hw : ∀ d ∈ tables_1, d.before a0 Z = true) (ws : List Jvm.Cond) (a sa ha : Addr) (sh : Int32 → UInt64) (hd : Int32 → Int32) (kk : Int32) (vv mm : UInt64) (h0 : Heap) (n0 : Nat) (Zs : n0 ≤ h0.size) (NQ : NS3 Z h0 a sa ha (1 : Int32) sh hd) (DD : Dis n0 a sa ha) (ik : In3 kk) (nv : Jvm.Free.Fl.NoNaN64 vv) (hm : Jvm.Native.java_lang_Math.nans.pick64 true 0 vv = mm) (hxx : sh kk = 0) :
    Con l (⟨"org/termsieve/mapping/Shares", "raise", "(ID)V"⟩ : MethodName) prog_78_method_2_code 4 none ws ({ frames := 1, cells := 0, slots := 0, locals := 40 } : Room) Z #[(.ref a), (.int kk), (.double vv)] h0 ({ frames := 1, cells := 0, slots := 0, locals := 40 } : Room).cells ({ frames := 1, cells := 0, slots := 0, locals := 40 } : Room).slots (Q_rmRa3_1n Z a sa ha sh hd kk vv mm h0 n0) := by
  refine Con.of (Ls := #[.val (.ref a), .val (.int kk), .val (.double vv), .second]) (plainFor_of_name (by first | (simp [plainName, overriddenIn]; done) | decide +kernel)) (fun m => by first | (simp [entryFrame, mkF, argsToLocals, Value.category]; done) | rfl) ?_
  intro p e s m below meth c s₁ G hGe hG hx hby hml hown hnm hrt hlk hZ X0 e0
  have hown : s.vm.findClass "org/termsieve/mapping/Shares" = some m.cls := hown
  have hnm : meth.name = "raise" := hnm
  have NF0 := Fr.nil n0
  obtain ⟨Ex_a, Ex_ha, F_shares_a, F_held_a, F_size_a, V_sa, V_ha⟩ := NQ
  obtain ⟨ga, gsa, gha, d1, d2, d3⟩ := DD
  have K0 := Keep.refl h0 [a, sa, ha]
  subst hm
  refine g_aloadN hG X0 hx (hb hby d3_0) (pc' := 1) rfl rfl rfl ?_
  refine g_getF hG X0 hx hZ hown (wd hw 10 rfl) Via.refl e0 F_shares_a (hb hby d3_1) (pc' := 4) rfl ?_
  intro T1 X1 e1
  refine g_iloadN hG X1 hx (hb hby d3_4) (pc' := 5) rfl rfl ?_
  refine g_daload hG X1 hx hZ e1 V_sa (j := kk) (v := (.double 0)) (in3_nn ik) (in3_atd ik hxx) (hb hby d3_5) (pc' := 6) rfl ?_
  refine g_dconst0 hG X1 hx (hb hby d3_6) (pc' := 7) rfl (v := (0 : UInt64)) rfl ?_
  obtain ⟨v7, q7⟩ : ∃ zz : Int32, cmpValue (FP.dcmp (0 : UInt64) (0 : UInt64)) .l = zz := ⟨_, rfl⟩
  refine g_dcmp hG X1 hx (hb hby d3_7) (pc' := 8) rfl q7 ?_
  refine g_ifNo hG X1 hx (hb hby d3_8) (pc' := 11) (by rw [← q7, own_zz]; rfl) rfl ?_
  refine g_aloadN hG X1 hx (hb hby d3_11) (pc' := 12) rfl rfl rfl ?_
  refine g_getF hG X1 hx hZ hown (wd hw 13 rfl) Via.refl e1 F_held_a (hb hby d3_12) (pc' := 15) rfl ?_
  intro T2 X2 e2
  refine g_aloadN hG X2 hx (hb hby d3_15) (pc' := 16) rfl rfl rfl ?_
  refine g_dup hG X2 hx (hb hby d3_16) (pc' := 17) rfl rfl ?_
  refine g_getF hG X2 hx hZ hown (wd hw 20 rfl) Via.refl e2 F_size_a (hb hby d3_17) (pc' := 20) rfl ?_
  intro T3 X3 e3
  refine g_dupX1 hG X3 hx (hb hby d3_20) (pc' := 21) rfl rfl rfl ?_
  refine g_iconst hG X3 hx (hb hby d3_21) (pc' := 22) rfl (v := (1 : Int32)) rfl ?_
  refine g_iadd hG X3 hx (hb hby d3_22) (pc' := 23) rfl (v := (2 : Int32)) (by decide) ?_
  refine g_putF hG X3 hx hZ hown (wd hw 20 rfl) Via.refl e3 F_size_a Ex_a (Or.inl (wd hw 21 rfl)) (wd hw 1 rfl) (v' := (.int 2)) (ty := .int) (by decide) rfl rfl (hb hby d3_23) (pc' := 26) rfl ?_
  intro T4 h4 X4 e4 W4
  have Ex_a := Ex_a.wr W4
  have Ex_ha := Ex_ha.wr W4
  have F_shares_a := F_shares_a.other W4 (Or.inr (slot_ne (Or.inr (wd hw 11 rfl)) (Or.inl (wd hw 21 rfl)) (by decide) (t := (.array .double)) (t' := .int) (by decide) (by decide)))
  have F_held_a := F_held_a.other W4 (Or.inr (slot_ne (Or.inr (wd hw 14 rfl)) (Or.inl (wd hw 21 rfl)) (by decide) (t := (.array .int)) (t' := .int) (by decide) (by decide)))
  have F_size_a := F_size_a.same W4
  have V_sa := V_sa.other W4 (Ne.symm d1)
  have V_ha := V_ha.other W4 (Ne.symm d2)
  have Zs := Nat.le_trans Zs (Wr.size W4)
  have NF4 := Fr.snoc X4 NF0 ga
  have K4 := K0.wr W4 (Or.inl (List.mem_of_getElem? (i := 0) rfl))
  refine g_iloadN hG X4 hx (hb hby d3_26) (pc' := 27) rfl rfl ?_
  refine g_iastore hG X4 hx hZ e4 V_ha (j := (1 : Int32)) (in3_nn in3_1) (in3_len in3_1) (hb hby d3_27) (pc' := 28) rfl ?_
  intro T5 h5 X5 e5 W5 Vn5
  rw [in3_set in3_1] at Vn5
  have V_ha : AV Z h5 ha .int (3 : Int32) (fn3 (upd hd (1 : Int32) kk)) := Vn5
  have Ex_a := Ex_a.wr W5
  have Ex_ha := Ex_ha.wr W5
  have F_shares_a := F_shares_a.other W5 (Or.inl d2)
  have F_held_a := F_held_a.other W5 (Or.inl d2)
  have F_size_a := F_size_a.other W5 (Or.inl d2)
  have V_sa := V_sa.other W5 d3
  have Zs := Nat.le_trans Zs (Wr.size W5)
  have NF5 := Fr.snoc X5 NF4 gha
  have K5 := K4.wr W5 (Or.inl (List.mem_of_getElem? (i := 2) rfl))
  refine g_aloadN hG X5 hx (hb hby d3_28) (pc' := 29) rfl rfl rfl ?_
  refine g_getF hG X5 hx hZ hown (wd hw 10 rfl) Via.refl e5 F_shares_a (hb hby d3_29) (pc' := 32) rfl ?_
  intro T6 X6 e6
  refine g_iloadN hG X6 hx (hb hby d3_32) (pc' := 33) rfl rfl ?_
  refine g_aloadN hG X6 hx (hb hby d3_33) (pc' := 34) rfl rfl rfl ?_
  refine g_getF hG X6 hx hZ hown (wd hw 10 rfl) Via.refl e6 F_shares_a (hb hby d3_34) (pc' := 37) rfl ?_
  intro T7 X7 e7
  refine g_iloadN hG X7 hx (hb hby d3_37) (pc' := 38) rfl rfl ?_
  refine g_daload hG X7 hx hZ e7 V_sa (j := kk) (v := (.double 0)) (in3_nn ik) (in3_atd ik hxx) (hb hby d3_38) (pc' := 39) rfl ?_
  refine g_dloadN hG X7 hx (hb hby d3_39) (pc' := 40) rfl rfl ?_
  refine g_natS hG X7 hx hZ (y := (⟨"java/lang/Math", "max", "(DD)D"⟩ : MethodName)) (val := (.double (Jvm.Native.java_lang_Math.nans.pick64 true (0 : UInt64) vv))) 2 hown (wd hw 22 rfl) (wd hw 23 rfl) (wd hw 24 rfl) (wd hw 25 rfl) (by decide) (fun hc => Jvm.Free.Fl.Abs.maxD_pays (0 : UInt64) vv hc (by decide) (by decide)) (by rw [hml]; rfl) pd_7 rfl (argsL := [(.double 0), (.double vv)]) (rest := [(.int kk), (.ref sa)]) rfl (Nat.le_of_eq rfl) (hb hby d3_40) e7 (by decide) (by decide) (⟨rfl, own_z.noNaN, nv⟩) (pc' := 43) rfl ?_
  intro T8 X8 e8
  show G (T8.setTop (mkF m 43 _ [(.double (Jvm.Native.java_lang_Math.nans.pick64 true (0 : UInt64) vv)), (.int kk), (.ref sa)]))
  refine g_dastore hG X8 hx hZ e8 V_sa (j := kk) (in3_nn ik) (in3_lend ik) (hb hby d3_43) (pc' := 44) rfl ?_
  intro T9 h9 X9 e9 W9 Vn9
  rw [in3_setd ik] at Vn9
  have V_sa : AV Z h9 sa .double (3 : Int32) (fd3 (upd sh kk (Jvm.Native.java_lang_Math.nans.pick64 true (0 : UInt64) vv))) := Vn9
  have Ex_a := Ex_a.wr W9
  have Ex_ha := Ex_ha.wr W9
  have F_shares_a := F_shares_a.other W9 (Or.inl d1)
  have F_held_a := F_held_a.other W9 (Or.inl d1)
  have F_size_a := F_size_a.other W9 (Or.inl d1)
  have V_ha := V_ha.other W9 (Ne.symm d3)
  have Zs := Nat.le_trans Zs (Wr.size W9)
  have NF9 := Fr.snoc X9 NF5 gsa
  have K9 := K5.wr W9 (Or.inl (List.mem_of_getElem? (i := 1) rfl))
  exact e_ret0 hGe X9 hx hrt hlk (hb hby d3_44) e9 (by decide) (by decide) (⟨rfl, NF9, K9, Ex_a, Ex_ha, F_shares_a, F_held_a, F_size_a, V_sa, V_ha⟩)

def Q_rmRa3_1o (Z : State) (a sa ha : Addr) (sh : Int32 → UInt64) (hd : Int32 → Int32) (kk : Int32) (vv mm xx : UInt64) (h0 : Heap) (n0 : Nat) (v : Option Value) (h : Heap) (L : List Loc) : Prop := v = none ∧ Fr n0 L ∧ Keep h0 h [a, sa, ha] ∧ NS3 Z h a sa ha (1 : Int32) (upd sh kk mm) hd
set_option maxRecDepth 65536 in
set_option maxHeartbeats 40000000 in
theorem rmRa3_1o (l : Launch) (Z : State) (a0 : Array Value) (hw : ∀ d ∈ tables_1, d.before a0 Z = true) (ws : List Jvm.Cond) (a sa ha : Addr) (sh : Int32 → UInt64) (hd : Int32 → Int32) (kk : Int32) (vv mm xx : UInt64) (h0 : Heap) (n0 : Nat) (Zs : n0 ≤ h0.size) (NQ : NS3 Z h0 a sa ha (1 : Int32) sh hd) (DD : Dis n0 a sa ha) (ik : In3 kk) (nv : Jvm.Free.Fl.NoNaN64 vv) (hm : Jvm.Native.java_lang_Math.nans.pick64 true xx vv = mm) (hxx : sh kk = xx) (nx : Jvm.Free.Fl.NoNaN64 xx) (gx : FP.dcmp xx 0 = some .gt) :
    Con l (⟨"org/termsieve/mapping/Shares", "raise", "(ID)V"⟩ : MethodName) prog_78_method_2_code 4 none ws ({ frames := 1, cells := 0, slots := 0, locals := 40 } : Room) Z #[(.ref a), (.int kk), (.double vv)] h0 ({ frames := 1, cells := 0, slots := 0, locals := 40 } : Room).cells ({ frames := 1, cells := 0, slots := 0, locals := 40 } : Room).slots (Q_rmRa3_1o Z a sa ha sh hd kk vv mm xx h0 n0) := by
  refine Con.of (Ls := #[.val (.ref a), .val (.int kk), .val (.double vv), .second]) (plainFor_of_name (by first | (simp [plainName, overriddenIn]; done) | decide +kernel)) (fun m => by first | (simp [entryFrame, mkF, argsToLocals, Value.category]; done) | rfl) ?_
  intro p e s m below meth c s₁ G hGe hG hx hby hml hown hnm hrt hlk hZ X0 e0
  have hown : s.vm.findClass "org/termsieve/mapping/Shares" = some m.cls := hown
  have hnm : meth.name = "raise" := hnm
  have NF0 := Fr.nil n0
  obtain ⟨Ex_a, Ex_ha, F_shares_a, F_held_a, F_size_a, V_sa, V_ha⟩ := NQ
  obtain ⟨ga, gsa, gha, d1, d2, d3⟩ := DD
  have K0 := Keep.refl h0 [a, sa, ha]
  subst hm
  refine g_aloadN hG X0 hx (hb hby d3_0) (pc' := 1) rfl rfl rfl ?_
  refine g_getF hG X0 hx hZ hown (wd hw 10 rfl) Via.refl e0 F_shares_a (hb hby d3_1) (pc' := 4) rfl ?_
  intro T1 X1 e1
  refine g_iloadN hG X1 hx (hb hby d3_4) (pc' := 5) rfl rfl ?_
  refine g_daload hG X1 hx hZ e1 V_sa (j := kk) (v := (.double xx)) (in3_nn ik) (in3_atd ik hxx) (hb hby d3_5) (pc' := 6) rfl ?_
  refine g_dconst0 hG X1 hx (hb hby d3_6) (pc' := 7) rfl (v := (0 : UInt64)) rfl ?_
  obtain ⟨v7, q7⟩ : ∃ zz : Int32, cmpValue (FP.dcmp xx (0 : UInt64)) .l = zz := ⟨_, rfl⟩
  refine g_dcmp hG X1 hx (hb hby d3_7) (pc' := 8) rfl q7 ?_
  refine g_ifYes hG X1 hx (hb hby d3_8) (pc' := 28) (by rw [← q7, gx]; rfl) (by decide) (by decide) ?_
  refine g_aloadN hG X1 hx (hb hby d3_28) (pc' := 29) rfl rfl rfl ?_
  refine g_getF hG X1 hx hZ hown (wd hw 10 rfl) Via.refl e1 F_shares_a (hb hby d3_29) (pc' := 32) rfl ?_
  intro T2 X2 e2
  refine g_iloadN hG X2 hx (hb hby d3_32) (pc' := 33) rfl rfl ?_
  refine g_aloadN hG X2 hx (hb hby d3_33) (pc' := 34) rfl rfl rfl ?_
  refine g_getF hG X2 hx hZ hown (wd hw 10 rfl) Via.refl e2 F_shares_a (hb hby d3_34) (pc' := 37) rfl ?_
  intro T3 X3 e3
  refine g_iloadN hG X3 hx (hb hby d3_37) (pc' := 38) rfl rfl ?_
  refine g_daload hG X3 hx hZ e3 V_sa (j := kk) (v := (.double xx)) (in3_nn ik) (in3_atd ik hxx) (hb hby d3_38) (pc' := 39) rfl ?_
  refine g_dloadN hG X3 hx (hb hby d3_39) (pc' := 40) rfl rfl ?_
  refine g_natS hG X3 hx hZ (y := (⟨"java/lang/Math", "max", "(DD)D"⟩ : MethodName)) (val := (.double (Jvm.Native.java_lang_Math.nans.pick64 true xx vv))) 2 hown (wd hw 22 rfl) (wd hw 23 rfl) (wd hw 24 rfl) (wd hw 25 rfl) (by decide) (fun hc => Jvm.Free.Fl.Abs.maxD_pays xx vv hc (by decide) (by decide)) (by rw [hml]; rfl) pd_7 rfl (argsL := [(.double xx), (.double vv)]) (rest := [(.int kk), (.ref sa)]) rfl (Nat.le_of_eq rfl) (hb hby d3_40) e3 (by decide) (by decide) (⟨rfl, nx, nv⟩) (pc' := 43) rfl ?_
  intro T4 X4 e4
  show G (T4.setTop (mkF m 43 _ [(.double (Jvm.Native.java_lang_Math.nans.pick64 true xx vv)), (.int kk), (.ref sa)]))
  refine g_dastore hG X4 hx hZ e4 V_sa (j := kk) (in3_nn ik) (in3_lend ik) (hb hby d3_43) (pc' := 44) rfl ?_
  intro T5 h5 X5 e5 W5 Vn5
  rw [in3_setd ik] at Vn5
  have V_sa : AV Z h5 sa .double (3 : Int32) (fd3 (upd sh kk (Jvm.Native.java_lang_Math.nans.pick64 true xx vv))) := Vn5
  have Ex_a := Ex_a.wr W5
  have Ex_ha := Ex_ha.wr W5
  have F_shares_a := F_shares_a.other W5 (Or.inl d1)
  have F_held_a := F_held_a.other W5 (Or.inl d1)
  have F_size_a := F_size_a.other W5 (Or.inl d1)
  have V_ha := V_ha.other W5 (Ne.symm d3)
  have Zs := Nat.le_trans Zs (Wr.size W5)
  have NF5 := Fr.snoc X5 NF0 gsa
  have K5 := K0.wr W5 (Or.inl (List.mem_of_getElem? (i := 1) rfl))
  exact e_ret0 hGe X5 hx hrt hlk (hb hby d3_44) e5 (by decide) (by decide) (⟨rfl, NF5, K5, Ex_a, Ex_ha, F_shares_a, F_held_a, F_size_a, V_sa, V_ha⟩)

def Q_rmCl3_1 (Z : State) (a sa ha : Addr) (sh : Int32 → UInt64) (hd : Int32 → Int32) (k0 : Int32) (h0 : Heap) (n0 : Nat) (v : Option Value) (h : Heap) (L : List Loc) : Prop := v = none ∧ Fr n0 L ∧ Keep h0 h [a, sa, ha] ∧ NS3 Z h a sa ha (0 : Int32) (upd sh k0 0) hd
set_option maxRecDepth 65536 in
set_option maxHeartbeats 40000000 in
theorem rmCl3_1 (l : Launch) (Z : State) (a0 : Array Value) (hw : ∀ d ∈ tables_1, d.before a0 Z = true) (ws : List Jvm.Cond) (a sa ha : Addr) (sh : Int32 → UInt64) (hd : Int32 → Int32) (k0 : Int32) (h0 : Heap) (n0 : Nat) (Zs : n0 ≤ h0.size) (NQ : NS3 Z h0 a sa ha (1 : Int32) sh hd) (DD : Dis n0 a sa ha) (hk0 : hd (0 : Int32) = k0) (ik0 : In3 k0) :
    Con l (⟨"org/termsieve/mapping/Shares", "clear", "()V"⟩ : MethodName) prog_78_method_4_code 2 none ws ({ frames := 0, cells := 0, slots := 0, locals := 0 } : Room) Z #[(.ref a)] h0 ({ frames := 0, cells := 0, slots := 0, locals := 0 } : Room).cells ({ frames := 0, cells := 0, slots := 0, locals := 0 } : Room).slots (Q_rmCl3_1 Z a sa ha sh hd k0 h0 n0) := by
  refine Con.of (Ls := #[.val (.ref a), .unset]) (plainFor_of_name (by first | (simp [plainName, overriddenIn]; done) | decide +kernel)) (fun m => by first | (simp [entryFrame, mkF, argsToLocals, Value.category]; done) | rfl) ?_
  intro p e s m below meth c s₁ G hGe hG hx hby hml hown hnm hrt hlk hZ X0 e0
  have hown : s.vm.findClass "org/termsieve/mapping/Shares" = some m.cls := hown
  have hnm : meth.name = "clear" := hnm
  have NF0 := Fr.nil n0
  obtain ⟨Ex_a, Ex_ha, F_shares_a, F_held_a, F_size_a, V_sa, V_ha⟩ := NQ
  obtain ⟨ga, gsa, gha, d1, d2, d3⟩ := DD
  have K0 := Keep.refl h0 [a, sa, ha]
  refine g_iconst hG X0 hx (hb hby d5_0) (pc' := 1) rfl (v := (0 : Int32)) rfl ?_
  refine g_istoreN hG X0 hx (hb hby d5_1) (pc' := 2) rfl (Ls' := #[.val (.ref a), .val (.int 0)]) rfl ?_
  refine g_iloadN hG X0 hx (hb hby d5_2) (pc' := 3) rfl rfl ?_
  refine g_aloadN hG X0 hx (hb hby d5_3) (pc' := 4) rfl rfl rfl ?_
  refine g_getF hG X0 hx hZ hown (wd hw 20 rfl) Via.refl e0 F_size_a (hb hby d5_4) (pc' := 7) rfl ?_
  intro T1 X1 e1
  refine g_icmpNo hG X1 hx (hb hby d5_7) (pc' := 10) (by decide) rfl ?_
  refine g_aloadN hG X1 hx (hb hby d5_10) (pc' := 11) rfl rfl rfl ?_
  refine g_getF hG X1 hx hZ hown (wd hw 10 rfl) Via.refl e1 F_shares_a (hb hby d5_11) (pc' := 14) rfl ?_
  intro T2 X2 e2
  refine g_aloadN hG X2 hx (hb hby d5_14) (pc' := 15) rfl rfl rfl ?_
  refine g_getF hG X2 hx hZ hown (wd hw 13 rfl) Via.refl e2 F_held_a (hb hby d5_15) (pc' := 18) rfl ?_
  intro T3 X3 e3
  refine g_iloadN hG X3 hx (hb hby d5_18) (pc' := 19) rfl rfl ?_
  refine g_iaload hG X3 hx hZ e3 V_ha (j := (0 : Int32)) (v := (.int k0)) (in3_nn in3_0) (in3_at in3_0 hk0) (hb hby d5_19) (pc' := 20) rfl ?_
  refine g_dconst0 hG X3 hx (hb hby d5_20) (pc' := 21) rfl (v := (0 : UInt64)) rfl ?_
  refine g_dastore hG X3 hx hZ e3 V_sa (j := k0) (in3_nn ik0) (in3_lend ik0) (hb hby d5_21) (pc' := 22) rfl ?_
  intro T4 h4 X4 e4 W4 Vn4
  rw [in3_setd ik0] at Vn4
  have V_sa : AV Z h4 sa .double (3 : Int32) (fd3 (upd sh k0 (0 : UInt64))) := Vn4
  have Ex_a := Ex_a.wr W4
  have Ex_ha := Ex_ha.wr W4
  have F_shares_a := F_shares_a.other W4 (Or.inl d1)
  have F_held_a := F_held_a.other W4 (Or.inl d1)
  have F_size_a := F_size_a.other W4 (Or.inl d1)
  have V_ha := V_ha.other W4 (Ne.symm d3)
  have Zs := Nat.le_trans Zs (Wr.size W4)
  have NF4 := Fr.snoc X4 NF0 gsa
  have K4 := K0.wr W4 (Or.inl (List.mem_of_getElem? (i := 1) rfl))
  refine g_iinc hG X4 hx (hb hby d5_22) (pc' := 25) rfl rfl (v := (1 : Int32)) (by decide) (Ls' := #[.val (.ref a), .val (.int 1)]) rfl ?_
  refine g_goto hG X4 hx (hb hby d5_25) (pc' := 2) (by decide) (by decide) ?_
  refine g_iloadN hG X4 hx (hb hby d5_2) (pc' := 3) rfl rfl ?_
  refine g_aloadN hG X4 hx (hb hby d5_3) (pc' := 4) rfl rfl rfl ?_
  refine g_getF hG X4 hx hZ hown (wd hw 20 rfl) Via.refl e4 F_size_a (hb hby d5_4) (pc' := 7) rfl ?_
  intro T5 X5 e5
  refine g_icmpYes hG X5 hx (hb hby d5_7) (pc' := 28) (by decide) (by decide) (by decide) ?_
  refine g_aloadN hG X5 hx (hb hby d5_28) (pc' := 29) rfl rfl rfl ?_
  refine g_iconst hG X5 hx (hb hby d5_29) (pc' := 30) rfl (v := (0 : Int32)) rfl ?_
  refine g_putF hG X5 hx hZ hown (wd hw 20 rfl) Via.refl e5 F_size_a Ex_a (Or.inl (wd hw 21 rfl)) (wd hw 1 rfl) (v' := (.int 0)) (ty := .int) (by decide) rfl rfl (hb hby d5_30) (pc' := 33) rfl ?_
  intro T6 h6 X6 e6 W6
  have Ex_a := Ex_a.wr W6
  have Ex_ha := Ex_ha.wr W6
  have F_shares_a := F_shares_a.other W6 (Or.inr (slot_ne (Or.inr (wd hw 11 rfl)) (Or.inl (wd hw 21 rfl)) (by decide) (t := (.array .double)) (t' := .int) (by decide) (by decide)))
  have F_held_a := F_held_a.other W6 (Or.inr (slot_ne (Or.inr (wd hw 14 rfl)) (Or.inl (wd hw 21 rfl)) (by decide) (t := (.array .int)) (t' := .int) (by decide) (by decide)))
  have F_size_a := F_size_a.same W6
  have V_sa := V_sa.other W6 (Ne.symm d1)
  have V_ha := V_ha.other W6 (Ne.symm d2)
  have Zs := Nat.le_trans Zs (Wr.size W6)
  have NF6 := Fr.snoc X6 NF4 ga
  have K6 := K4.wr W6 (Or.inl (List.mem_of_getElem? (i := 0) rfl))
  exact e_ret0 hGe X6 hx hrt hlk (hb hby d5_33) e6 (by decide) (by decide) (⟨rfl, NF6, K6, Ex_a, Ex_ha, F_shares_a, F_held_a, F_size_a, V_sa, V_ha⟩)

def Q_rmRa3_2n (Z : State) (a sa ha : Addr) (sh : Int32 → UInt64) (hd : Int32 → Int32) (kk : Int32) (vv mm : UInt64) (h0 : Heap) (n0 : Nat) (v : Option Value) (h : Heap) (L : List Loc) : Prop := v = none ∧ Fr n0 L ∧ Keep h0 h [a, sa, ha] ∧ NS3 Z h a sa ha (3 : Int32) (upd sh kk mm) (upd hd (2 : Int32) kk)
set_option maxRecDepth 65536 in
set_option maxHeartbeats 40000000 in
theorem rmRa3_2n (l : Launch) (Z : State) (a0 : Array Value) (hw : ∀ d ∈ tables_1, d.before a0 Z = true) (ws : List Jvm.Cond) (a sa ha : Addr) (sh : Int32 → UInt64) (hd : Int32 → Int32) (kk : Int32) (vv mm : UInt64) (h0 : Heap) (n0 : Nat) (Zs : n0 ≤ h0.size) (NQ : NS3 Z h0 a sa ha (2 : Int32) sh hd) (DD : Dis n0 a sa ha) (ik : In3 kk) (nv : Jvm.Free.Fl.NoNaN64 vv) (hm : Jvm.Native.java_lang_Math.nans.pick64 true 0 vv = mm) (hxx : sh kk = 0) :
    Con l (⟨"org/termsieve/mapping/Shares", "raise", "(ID)V"⟩ : MethodName) prog_78_method_2_code 4 none ws ({ frames := 1, cells := 0, slots := 0, locals := 40 } : Room) Z #[(.ref a), (.int kk), (.double vv)] h0 ({ frames := 1, cells := 0, slots := 0, locals := 40 } : Room).cells ({ frames := 1, cells := 0, slots := 0, locals := 40 } : Room).slots (Q_rmRa3_2n Z a sa ha sh hd kk vv mm h0 n0) := by
  refine Con.of (Ls := #[.val (.ref a), .val (.int kk), .val (.double vv), .second]) (plainFor_of_name (by first | (simp [plainName, overriddenIn]; done) | decide +kernel)) (fun m => by first | (simp [entryFrame, mkF, argsToLocals, Value.category]; done) | rfl) ?_
  intro p e s m below meth c s₁ G hGe hG hx hby hml hown hnm hrt hlk hZ X0 e0
  have hown : s.vm.findClass "org/termsieve/mapping/Shares" = some m.cls := hown
  have hnm : meth.name = "raise" := hnm
  have NF0 := Fr.nil n0
  obtain ⟨Ex_a, Ex_ha, F_shares_a, F_held_a, F_size_a, V_sa, V_ha⟩ := NQ
  obtain ⟨ga, gsa, gha, d1, d2, d3⟩ := DD
  have K0 := Keep.refl h0 [a, sa, ha]
  subst hm
  refine g_aloadN hG X0 hx (hb hby d3_0) (pc' := 1) rfl rfl rfl ?_
  refine g_getF hG X0 hx hZ hown (wd hw 10 rfl) Via.refl e0 F_shares_a (hb hby d3_1) (pc' := 4) rfl ?_
  intro T1 X1 e1
  refine g_iloadN hG X1 hx (hb hby d3_4) (pc' := 5) rfl rfl ?_
  refine g_daload hG X1 hx hZ e1 V_sa (j := kk) (v := (.double 0)) (in3_nn ik) (in3_atd ik hxx) (hb hby d3_5) (pc' := 6) rfl ?_
  refine g_dconst0 hG X1 hx (hb hby d3_6) (pc' := 7) rfl (v := (0 : UInt64)) rfl ?_
  obtain ⟨v7, q7⟩ : ∃ zz : Int32, cmpValue (FP.dcmp (0 : UInt64) (0 : UInt64)) .l = zz := ⟨_, rfl⟩
  refine g_dcmp hG X1 hx (hb hby d3_7) (pc' := 8) rfl q7 ?_
  refine g_ifNo hG X1 hx (hb hby d3_8) (pc' := 11) (by rw [← q7, own_zz]; rfl) rfl ?_
  refine g_aloadN hG X1 hx (hb hby d3_11) (pc' := 12) rfl rfl rfl ?_
  refine g_getF hG X1 hx hZ hown (wd hw 13 rfl) Via.refl e1 F_held_a (hb hby d3_12) (pc' := 15) rfl ?_
  intro T2 X2 e2
  refine g_aloadN hG X2 hx (hb hby d3_15) (pc' := 16) rfl rfl rfl ?_
  refine g_dup hG X2 hx (hb hby d3_16) (pc' := 17) rfl rfl ?_
  refine g_getF hG X2 hx hZ hown (wd hw 20 rfl) Via.refl e2 F_size_a (hb hby d3_17) (pc' := 20) rfl ?_
  intro T3 X3 e3
  refine g_dupX1 hG X3 hx (hb hby d3_20) (pc' := 21) rfl rfl rfl ?_
  refine g_iconst hG X3 hx (hb hby d3_21) (pc' := 22) rfl (v := (1 : Int32)) rfl ?_
  refine g_iadd hG X3 hx (hb hby d3_22) (pc' := 23) rfl (v := (3 : Int32)) (by decide) ?_
  refine g_putF hG X3 hx hZ hown (wd hw 20 rfl) Via.refl e3 F_size_a Ex_a (Or.inl (wd hw 21 rfl)) (wd hw 1 rfl) (v' := (.int 3)) (ty := .int) (by decide) rfl rfl (hb hby d3_23) (pc' := 26) rfl ?_
  intro T4 h4 X4 e4 W4
  have Ex_a := Ex_a.wr W4
  have Ex_ha := Ex_ha.wr W4
  have F_shares_a := F_shares_a.other W4 (Or.inr (slot_ne (Or.inr (wd hw 11 rfl)) (Or.inl (wd hw 21 rfl)) (by decide) (t := (.array .double)) (t' := .int) (by decide) (by decide)))
  have F_held_a := F_held_a.other W4 (Or.inr (slot_ne (Or.inr (wd hw 14 rfl)) (Or.inl (wd hw 21 rfl)) (by decide) (t := (.array .int)) (t' := .int) (by decide) (by decide)))
  have F_size_a := F_size_a.same W4
  have V_sa := V_sa.other W4 (Ne.symm d1)
  have V_ha := V_ha.other W4 (Ne.symm d2)
  have Zs := Nat.le_trans Zs (Wr.size W4)
  have NF4 := Fr.snoc X4 NF0 ga
  have K4 := K0.wr W4 (Or.inl (List.mem_of_getElem? (i := 0) rfl))
  refine g_iloadN hG X4 hx (hb hby d3_26) (pc' := 27) rfl rfl ?_
  refine g_iastore hG X4 hx hZ e4 V_ha (j := (2 : Int32)) (in3_nn in3_2) (in3_len in3_2) (hb hby d3_27) (pc' := 28) rfl ?_
  intro T5 h5 X5 e5 W5 Vn5
  rw [in3_set in3_2] at Vn5
  have V_ha : AV Z h5 ha .int (3 : Int32) (fn3 (upd hd (2 : Int32) kk)) := Vn5
  have Ex_a := Ex_a.wr W5
  have Ex_ha := Ex_ha.wr W5
  have F_shares_a := F_shares_a.other W5 (Or.inl d2)
  have F_held_a := F_held_a.other W5 (Or.inl d2)
  have F_size_a := F_size_a.other W5 (Or.inl d2)
  have V_sa := V_sa.other W5 d3
  have Zs := Nat.le_trans Zs (Wr.size W5)
  have NF5 := Fr.snoc X5 NF4 gha
  have K5 := K4.wr W5 (Or.inl (List.mem_of_getElem? (i := 2) rfl))
  refine g_aloadN hG X5 hx (hb hby d3_28) (pc' := 29) rfl rfl rfl ?_
  refine g_getF hG X5 hx hZ hown (wd hw 10 rfl) Via.refl e5 F_shares_a (hb hby d3_29) (pc' := 32) rfl ?_
  intro T6 X6 e6
  refine g_iloadN hG X6 hx (hb hby d3_32) (pc' := 33) rfl rfl ?_
  refine g_aloadN hG X6 hx (hb hby d3_33) (pc' := 34) rfl rfl rfl ?_
  refine g_getF hG X6 hx hZ hown (wd hw 10 rfl) Via.refl e6 F_shares_a (hb hby d3_34) (pc' := 37) rfl ?_
  intro T7 X7 e7
  refine g_iloadN hG X7 hx (hb hby d3_37) (pc' := 38) rfl rfl ?_
  refine g_daload hG X7 hx hZ e7 V_sa (j := kk) (v := (.double 0)) (in3_nn ik) (in3_atd ik hxx) (hb hby d3_38) (pc' := 39) rfl ?_
  refine g_dloadN hG X7 hx (hb hby d3_39) (pc' := 40) rfl rfl ?_
  refine g_natS hG X7 hx hZ (y := (⟨"java/lang/Math", "max", "(DD)D"⟩ : MethodName)) (val := (.double (Jvm.Native.java_lang_Math.nans.pick64 true (0 : UInt64) vv))) 2 hown (wd hw 22 rfl) (wd hw 23 rfl) (wd hw 24 rfl) (wd hw 25 rfl) (by decide) (fun hc => Jvm.Free.Fl.Abs.maxD_pays (0 : UInt64) vv hc (by decide) (by decide)) (by rw [hml]; rfl) pd_7 rfl (argsL := [(.double 0), (.double vv)]) (rest := [(.int kk), (.ref sa)]) rfl (Nat.le_of_eq rfl) (hb hby d3_40) e7 (by decide) (by decide) (⟨rfl, own_z.noNaN, nv⟩) (pc' := 43) rfl ?_
  intro T8 X8 e8
  show G (T8.setTop (mkF m 43 _ [(.double (Jvm.Native.java_lang_Math.nans.pick64 true (0 : UInt64) vv)), (.int kk), (.ref sa)]))
  refine g_dastore hG X8 hx hZ e8 V_sa (j := kk) (in3_nn ik) (in3_lend ik) (hb hby d3_43) (pc' := 44) rfl ?_
  intro T9 h9 X9 e9 W9 Vn9
  rw [in3_setd ik] at Vn9
  have V_sa : AV Z h9 sa .double (3 : Int32) (fd3 (upd sh kk (Jvm.Native.java_lang_Math.nans.pick64 true (0 : UInt64) vv))) := Vn9
  have Ex_a := Ex_a.wr W9
  have Ex_ha := Ex_ha.wr W9
  have F_shares_a := F_shares_a.other W9 (Or.inl d1)
  have F_held_a := F_held_a.other W9 (Or.inl d1)
  have F_size_a := F_size_a.other W9 (Or.inl d1)
  have V_ha := V_ha.other W9 (Ne.symm d3)
  have Zs := Nat.le_trans Zs (Wr.size W9)
  have NF9 := Fr.snoc X9 NF5 gsa
  have K9 := K5.wr W9 (Or.inl (List.mem_of_getElem? (i := 1) rfl))
  exact e_ret0 hGe X9 hx hrt hlk (hb hby d3_44) e9 (by decide) (by decide) (⟨rfl, NF9, K9, Ex_a, Ex_ha, F_shares_a, F_held_a, F_size_a, V_sa, V_ha⟩)

def Q_rmRa3_2o (Z : State) (a sa ha : Addr) (sh : Int32 → UInt64) (hd : Int32 → Int32) (kk : Int32) (vv mm xx : UInt64) (h0 : Heap) (n0 : Nat) (v : Option Value) (h : Heap) (L : List Loc) : Prop := v = none ∧ Fr n0 L ∧ Keep h0 h [a, sa, ha] ∧ NS3 Z h a sa ha (2 : Int32) (upd sh kk mm) hd
set_option maxRecDepth 65536 in
set_option maxHeartbeats 40000000 in
theorem rmRa3_2o (l : Launch) (Z : State) (a0 : Array Value) (hw : ∀ d ∈ tables_1, d.before a0 Z = true) (ws : List Jvm.Cond) (a sa ha : Addr) (sh : Int32 → UInt64) (hd : Int32 → Int32) (kk : Int32) (vv mm xx : UInt64) (h0 : Heap) (n0 : Nat) (Zs : n0 ≤ h0.size) (NQ : NS3 Z h0 a sa ha (2 : Int32) sh hd) (DD : Dis n0 a sa ha) (ik : In3 kk) (nv : Jvm.Free.Fl.NoNaN64 vv) (hm : Jvm.Native.java_lang_Math.nans.pick64 true xx vv = mm) (hxx : sh kk = xx) (nx : Jvm.Free.Fl.NoNaN64 xx) (gx : FP.dcmp xx 0 = some .gt) :
    Con l (⟨"org/termsieve/mapping/Shares", "raise", "(ID)V"⟩ : MethodName) prog_78_method_2_code 4 none ws ({ frames := 1, cells := 0, slots := 0, locals := 40 } : Room) Z #[(.ref a), (.int kk), (.double vv)] h0 ({ frames := 1, cells := 0, slots := 0, locals := 40 } : Room).cells ({ frames := 1, cells := 0, slots := 0, locals := 40 } : Room).slots (Q_rmRa3_2o Z a sa ha sh hd kk vv mm xx h0 n0) := by
  refine Con.of (Ls := #[.val (.ref a), .val (.int kk), .val (.double vv), .second]) (plainFor_of_name (by first | (simp [plainName, overriddenIn]; done) | decide +kernel)) (fun m => by first | (simp [entryFrame, mkF, argsToLocals, Value.category]; done) | rfl) ?_
  intro p e s m below meth c s₁ G hGe hG hx hby hml hown hnm hrt hlk hZ X0 e0
  have hown : s.vm.findClass "org/termsieve/mapping/Shares" = some m.cls := hown
  have hnm : meth.name = "raise" := hnm
  have NF0 := Fr.nil n0
  obtain ⟨Ex_a, Ex_ha, F_shares_a, F_held_a, F_size_a, V_sa, V_ha⟩ := NQ
  obtain ⟨ga, gsa, gha, d1, d2, d3⟩ := DD
  have K0 := Keep.refl h0 [a, sa, ha]
  subst hm
  refine g_aloadN hG X0 hx (hb hby d3_0) (pc' := 1) rfl rfl rfl ?_
  refine g_getF hG X0 hx hZ hown (wd hw 10 rfl) Via.refl e0 F_shares_a (hb hby d3_1) (pc' := 4) rfl ?_
  intro T1 X1 e1
  refine g_iloadN hG X1 hx (hb hby d3_4) (pc' := 5) rfl rfl ?_
  refine g_daload hG X1 hx hZ e1 V_sa (j := kk) (v := (.double xx)) (in3_nn ik) (in3_atd ik hxx) (hb hby d3_5) (pc' := 6) rfl ?_
  refine g_dconst0 hG X1 hx (hb hby d3_6) (pc' := 7) rfl (v := (0 : UInt64)) rfl ?_
  obtain ⟨v7, q7⟩ : ∃ zz : Int32, cmpValue (FP.dcmp xx (0 : UInt64)) .l = zz := ⟨_, rfl⟩
  refine g_dcmp hG X1 hx (hb hby d3_7) (pc' := 8) rfl q7 ?_
  refine g_ifYes hG X1 hx (hb hby d3_8) (pc' := 28) (by rw [← q7, gx]; rfl) (by decide) (by decide) ?_
  refine g_aloadN hG X1 hx (hb hby d3_28) (pc' := 29) rfl rfl rfl ?_
  refine g_getF hG X1 hx hZ hown (wd hw 10 rfl) Via.refl e1 F_shares_a (hb hby d3_29) (pc' := 32) rfl ?_
  intro T2 X2 e2
  refine g_iloadN hG X2 hx (hb hby d3_32) (pc' := 33) rfl rfl ?_
  refine g_aloadN hG X2 hx (hb hby d3_33) (pc' := 34) rfl rfl rfl ?_
  refine g_getF hG X2 hx hZ hown (wd hw 10 rfl) Via.refl e2 F_shares_a (hb hby d3_34) (pc' := 37) rfl ?_
  intro T3 X3 e3
  refine g_iloadN hG X3 hx (hb hby d3_37) (pc' := 38) rfl rfl ?_
  refine g_daload hG X3 hx hZ e3 V_sa (j := kk) (v := (.double xx)) (in3_nn ik) (in3_atd ik hxx) (hb hby d3_38) (pc' := 39) rfl ?_
  refine g_dloadN hG X3 hx (hb hby d3_39) (pc' := 40) rfl rfl ?_
  refine g_natS hG X3 hx hZ (y := (⟨"java/lang/Math", "max", "(DD)D"⟩ : MethodName)) (val := (.double (Jvm.Native.java_lang_Math.nans.pick64 true xx vv))) 2 hown (wd hw 22 rfl) (wd hw 23 rfl) (wd hw 24 rfl) (wd hw 25 rfl) (by decide) (fun hc => Jvm.Free.Fl.Abs.maxD_pays xx vv hc (by decide) (by decide)) (by rw [hml]; rfl) pd_7 rfl (argsL := [(.double xx), (.double vv)]) (rest := [(.int kk), (.ref sa)]) rfl (Nat.le_of_eq rfl) (hb hby d3_40) e3 (by decide) (by decide) (⟨rfl, nx, nv⟩) (pc' := 43) rfl ?_
  intro T4 X4 e4
  show G (T4.setTop (mkF m 43 _ [(.double (Jvm.Native.java_lang_Math.nans.pick64 true xx vv)), (.int kk), (.ref sa)]))
  refine g_dastore hG X4 hx hZ e4 V_sa (j := kk) (in3_nn ik) (in3_lend ik) (hb hby d3_43) (pc' := 44) rfl ?_
  intro T5 h5 X5 e5 W5 Vn5
  rw [in3_setd ik] at Vn5
  have V_sa : AV Z h5 sa .double (3 : Int32) (fd3 (upd sh kk (Jvm.Native.java_lang_Math.nans.pick64 true xx vv))) := Vn5
  have Ex_a := Ex_a.wr W5
  have Ex_ha := Ex_ha.wr W5
  have F_shares_a := F_shares_a.other W5 (Or.inl d1)
  have F_held_a := F_held_a.other W5 (Or.inl d1)
  have F_size_a := F_size_a.other W5 (Or.inl d1)
  have V_ha := V_ha.other W5 (Ne.symm d3)
  have Zs := Nat.le_trans Zs (Wr.size W5)
  have NF5 := Fr.snoc X5 NF0 gsa
  have K5 := K0.wr W5 (Or.inl (List.mem_of_getElem? (i := 1) rfl))
  exact e_ret0 hGe X5 hx hrt hlk (hb hby d3_44) e5 (by decide) (by decide) (⟨rfl, NF5, K5, Ex_a, Ex_ha, F_shares_a, F_held_a, F_size_a, V_sa, V_ha⟩)

def Q_rmCl3_2 (Z : State) (a sa ha : Addr) (sh : Int32 → UInt64) (hd : Int32 → Int32) (k0 : Int32) (k1 : Int32) (h0 : Heap) (n0 : Nat) (v : Option Value) (h : Heap) (L : List Loc) : Prop := v = none ∧ Fr n0 L ∧ Keep h0 h [a, sa, ha] ∧ NS3 Z h a sa ha (0 : Int32) (upd (upd sh k0 0) k1 0) hd
set_option maxRecDepth 65536 in
set_option maxHeartbeats 40000000 in
theorem rmCl3_2 (l : Launch) (Z : State) (a0 : Array Value) (hw : ∀ d ∈ tables_1, d.before a0 Z = true) (ws : List Jvm.Cond) (a sa ha : Addr) (sh : Int32 → UInt64) (hd : Int32 → Int32) (k0 : Int32) (k1 : Int32) (h0 : Heap) (n0 : Nat) (Zs : n0 ≤ h0.size) (NQ : NS3 Z h0 a sa ha (2 : Int32) sh hd) (DD : Dis n0 a sa ha) (hk0 : hd (0 : Int32) = k0) (ik0 : In3 k0) (hk1 : hd (1 : Int32) = k1) (ik1 : In3 k1) :
    Con l (⟨"org/termsieve/mapping/Shares", "clear", "()V"⟩ : MethodName) prog_78_method_4_code 2 none ws ({ frames := 0, cells := 0, slots := 0, locals := 0 } : Room) Z #[(.ref a)] h0 ({ frames := 0, cells := 0, slots := 0, locals := 0 } : Room).cells ({ frames := 0, cells := 0, slots := 0, locals := 0 } : Room).slots (Q_rmCl3_2 Z a sa ha sh hd k0 k1 h0 n0) := by
  refine Con.of (Ls := #[.val (.ref a), .unset]) (plainFor_of_name (by first | (simp [plainName, overriddenIn]; done) | decide +kernel)) (fun m => by first | (simp [entryFrame, mkF, argsToLocals, Value.category]; done) | rfl) ?_
  intro p e s m below meth c s₁ G hGe hG hx hby hml hown hnm hrt hlk hZ X0 e0
  have hown : s.vm.findClass "org/termsieve/mapping/Shares" = some m.cls := hown
  have hnm : meth.name = "clear" := hnm
  have NF0 := Fr.nil n0
  obtain ⟨Ex_a, Ex_ha, F_shares_a, F_held_a, F_size_a, V_sa, V_ha⟩ := NQ
  obtain ⟨ga, gsa, gha, d1, d2, d3⟩ := DD
  have K0 := Keep.refl h0 [a, sa, ha]
  refine g_iconst hG X0 hx (hb hby d5_0) (pc' := 1) rfl (v := (0 : Int32)) rfl ?_
  refine g_istoreN hG X0 hx (hb hby d5_1) (pc' := 2) rfl (Ls' := #[.val (.ref a), .val (.int 0)]) rfl ?_
  refine g_iloadN hG X0 hx (hb hby d5_2) (pc' := 3) rfl rfl ?_
  refine g_aloadN hG X0 hx (hb hby d5_3) (pc' := 4) rfl rfl rfl ?_
  refine g_getF hG X0 hx hZ hown (wd hw 20 rfl) Via.refl e0 F_size_a (hb hby d5_4) (pc' := 7) rfl ?_
  intro T1 X1 e1
  refine g_icmpNo hG X1 hx (hb hby d5_7) (pc' := 10) (by decide) rfl ?_
  refine g_aloadN hG X1 hx (hb hby d5_10) (pc' := 11) rfl rfl rfl ?_
  refine g_getF hG X1 hx hZ hown (wd hw 10 rfl) Via.refl e1 F_shares_a (hb hby d5_11) (pc' := 14) rfl ?_
  intro T2 X2 e2
  refine g_aloadN hG X2 hx (hb hby d5_14) (pc' := 15) rfl rfl rfl ?_
  refine g_getF hG X2 hx hZ hown (wd hw 13 rfl) Via.refl e2 F_held_a (hb hby d5_15) (pc' := 18) rfl ?_
  intro T3 X3 e3
  refine g_iloadN hG X3 hx (hb hby d5_18) (pc' := 19) rfl rfl ?_
  refine g_iaload hG X3 hx hZ e3 V_ha (j := (0 : Int32)) (v := (.int k0)) (in3_nn in3_0) (in3_at in3_0 hk0) (hb hby d5_19) (pc' := 20) rfl ?_
  refine g_dconst0 hG X3 hx (hb hby d5_20) (pc' := 21) rfl (v := (0 : UInt64)) rfl ?_
  refine g_dastore hG X3 hx hZ e3 V_sa (j := k0) (in3_nn ik0) (in3_lend ik0) (hb hby d5_21) (pc' := 22) rfl ?_
  intro T4 h4 X4 e4 W4 Vn4
  rw [in3_setd ik0] at Vn4
  have V_sa : AV Z h4 sa .double (3 : Int32) (fd3 (upd sh k0 (0 : UInt64))) := Vn4
  have Ex_a := Ex_a.wr W4
  have Ex_ha := Ex_ha.wr W4
  have F_shares_a := F_shares_a.other W4 (Or.inl d1)
  have F_held_a := F_held_a.other W4 (Or.inl d1)
  have F_size_a := F_size_a.other W4 (Or.inl d1)
  have V_ha := V_ha.other W4 (Ne.symm d3)
  have Zs := Nat.le_trans Zs (Wr.size W4)
  have NF4 := Fr.snoc X4 NF0 gsa
  have K4 := K0.wr W4 (Or.inl (List.mem_of_getElem? (i := 1) rfl))
  refine g_iinc hG X4 hx (hb hby d5_22) (pc' := 25) rfl rfl (v := (1 : Int32)) (by decide) (Ls' := #[.val (.ref a), .val (.int 1)]) rfl ?_
  refine g_goto hG X4 hx (hb hby d5_25) (pc' := 2) (by decide) (by decide) ?_
  refine g_iloadN hG X4 hx (hb hby d5_2) (pc' := 3) rfl rfl ?_
  refine g_aloadN hG X4 hx (hb hby d5_3) (pc' := 4) rfl rfl rfl ?_
  refine g_getF hG X4 hx hZ hown (wd hw 20 rfl) Via.refl e4 F_size_a (hb hby d5_4) (pc' := 7) rfl ?_
  intro T5 X5 e5
  refine g_icmpNo hG X5 hx (hb hby d5_7) (pc' := 10) (by decide) rfl ?_
  refine g_aloadN hG X5 hx (hb hby d5_10) (pc' := 11) rfl rfl rfl ?_
  refine g_getF hG X5 hx hZ hown (wd hw 10 rfl) Via.refl e5 F_shares_a (hb hby d5_11) (pc' := 14) rfl ?_
  intro T6 X6 e6
  refine g_aloadN hG X6 hx (hb hby d5_14) (pc' := 15) rfl rfl rfl ?_
  refine g_getF hG X6 hx hZ hown (wd hw 13 rfl) Via.refl e6 F_held_a (hb hby d5_15) (pc' := 18) rfl ?_
  intro T7 X7 e7
  refine g_iloadN hG X7 hx (hb hby d5_18) (pc' := 19) rfl rfl ?_
  refine g_iaload hG X7 hx hZ e7 V_ha (j := (1 : Int32)) (v := (.int k1)) (in3_nn in3_1) (in3_at in3_1 hk1) (hb hby d5_19) (pc' := 20) rfl ?_
  refine g_dconst0 hG X7 hx (hb hby d5_20) (pc' := 21) rfl (v := (0 : UInt64)) rfl ?_
  refine g_dastore hG X7 hx hZ e7 V_sa (j := k1) (in3_nn ik1) (in3_lend ik1) (hb hby d5_21) (pc' := 22) rfl ?_
  intro T8 h8 X8 e8 W8 Vn8
  rw [in3_setd ik1] at Vn8
  have V_sa : AV Z h8 sa .double (3 : Int32) (fd3 (upd (upd sh k0 (0 : UInt64)) k1 (0 : UInt64))) := Vn8
  have Ex_a := Ex_a.wr W8
  have Ex_ha := Ex_ha.wr W8
  have F_shares_a := F_shares_a.other W8 (Or.inl d1)
  have F_held_a := F_held_a.other W8 (Or.inl d1)
  have F_size_a := F_size_a.other W8 (Or.inl d1)
  have V_ha := V_ha.other W8 (Ne.symm d3)
  have Zs := Nat.le_trans Zs (Wr.size W8)
  have NF8 := Fr.snoc X8 NF4 gsa
  have K8 := K4.wr W8 (Or.inl (List.mem_of_getElem? (i := 1) rfl))
  refine g_iinc hG X8 hx (hb hby d5_22) (pc' := 25) rfl rfl (v := (2 : Int32)) (by decide) (Ls' := #[.val (.ref a), .val (.int 2)]) rfl ?_
  refine g_goto hG X8 hx (hb hby d5_25) (pc' := 2) (by decide) (by decide) ?_
  refine g_iloadN hG X8 hx (hb hby d5_2) (pc' := 3) rfl rfl ?_
  refine g_aloadN hG X8 hx (hb hby d5_3) (pc' := 4) rfl rfl rfl ?_
  refine g_getF hG X8 hx hZ hown (wd hw 20 rfl) Via.refl e8 F_size_a (hb hby d5_4) (pc' := 7) rfl ?_
  intro T9 X9 e9
  refine g_icmpYes hG X9 hx (hb hby d5_7) (pc' := 28) (by decide) (by decide) (by decide) ?_
  refine g_aloadN hG X9 hx (hb hby d5_28) (pc' := 29) rfl rfl rfl ?_
  refine g_iconst hG X9 hx (hb hby d5_29) (pc' := 30) rfl (v := (0 : Int32)) rfl ?_
  refine g_putF hG X9 hx hZ hown (wd hw 20 rfl) Via.refl e9 F_size_a Ex_a (Or.inl (wd hw 21 rfl)) (wd hw 1 rfl) (v' := (.int 0)) (ty := .int) (by decide) rfl rfl (hb hby d5_30) (pc' := 33) rfl ?_
  intro T10 h10 X10 e10 W10
  have Ex_a := Ex_a.wr W10
  have Ex_ha := Ex_ha.wr W10
  have F_shares_a := F_shares_a.other W10 (Or.inr (slot_ne (Or.inr (wd hw 11 rfl)) (Or.inl (wd hw 21 rfl)) (by decide) (t := (.array .double)) (t' := .int) (by decide) (by decide)))
  have F_held_a := F_held_a.other W10 (Or.inr (slot_ne (Or.inr (wd hw 14 rfl)) (Or.inl (wd hw 21 rfl)) (by decide) (t := (.array .int)) (t' := .int) (by decide) (by decide)))
  have F_size_a := F_size_a.same W10
  have V_sa := V_sa.other W10 (Ne.symm d1)
  have V_ha := V_ha.other W10 (Ne.symm d2)
  have Zs := Nat.le_trans Zs (Wr.size W10)
  have NF10 := Fr.snoc X10 NF8 ga
  have K10 := K8.wr W10 (Or.inl (List.mem_of_getElem? (i := 0) rfl))
  exact e_ret0 hGe X10 hx hrt hlk (hb hby d5_33) e10 (by decide) (by decide) (⟨rfl, NF10, K10, Ex_a, Ex_ha, F_shares_a, F_held_a, F_size_a, V_sa, V_ha⟩)

def Q_rmRa3_3o (Z : State) (a sa ha : Addr) (sh : Int32 → UInt64) (hd : Int32 → Int32) (kk : Int32) (vv mm xx : UInt64) (h0 : Heap) (n0 : Nat) (v : Option Value) (h : Heap) (L : List Loc) : Prop := v = none ∧ Fr n0 L ∧ Keep h0 h [a, sa, ha] ∧ NS3 Z h a sa ha (3 : Int32) (upd sh kk mm) hd
set_option maxRecDepth 65536 in
set_option maxHeartbeats 40000000 in
theorem rmRa3_3o (l : Launch) (Z : State) (a0 : Array Value) (hw : ∀ d ∈ tables_1, d.before a0 Z = true) (ws : List Jvm.Cond) (a sa ha : Addr) (sh : Int32 → UInt64) (hd : Int32 → Int32) (kk : Int32) (vv mm xx : UInt64) (h0 : Heap) (n0 : Nat) (Zs : n0 ≤ h0.size) (NQ : NS3 Z h0 a sa ha (3 : Int32) sh hd) (DD : Dis n0 a sa ha) (ik : In3 kk) (nv : Jvm.Free.Fl.NoNaN64 vv) (hm : Jvm.Native.java_lang_Math.nans.pick64 true xx vv = mm) (hxx : sh kk = xx) (nx : Jvm.Free.Fl.NoNaN64 xx) (gx : FP.dcmp xx 0 = some .gt) :
    Con l (⟨"org/termsieve/mapping/Shares", "raise", "(ID)V"⟩ : MethodName) prog_78_method_2_code 4 none ws ({ frames := 1, cells := 0, slots := 0, locals := 40 } : Room) Z #[(.ref a), (.int kk), (.double vv)] h0 ({ frames := 1, cells := 0, slots := 0, locals := 40 } : Room).cells ({ frames := 1, cells := 0, slots := 0, locals := 40 } : Room).slots (Q_rmRa3_3o Z a sa ha sh hd kk vv mm xx h0 n0) := by
  refine Con.of (Ls := #[.val (.ref a), .val (.int kk), .val (.double vv), .second]) (plainFor_of_name (by first | (simp [plainName, overriddenIn]; done) | decide +kernel)) (fun m => by first | (simp [entryFrame, mkF, argsToLocals, Value.category]; done) | rfl) ?_
  intro p e s m below meth c s₁ G hGe hG hx hby hml hown hnm hrt hlk hZ X0 e0
  have hown : s.vm.findClass "org/termsieve/mapping/Shares" = some m.cls := hown
  have hnm : meth.name = "raise" := hnm
  have NF0 := Fr.nil n0
  obtain ⟨Ex_a, Ex_ha, F_shares_a, F_held_a, F_size_a, V_sa, V_ha⟩ := NQ
  obtain ⟨ga, gsa, gha, d1, d2, d3⟩ := DD
  have K0 := Keep.refl h0 [a, sa, ha]
  subst hm
  refine g_aloadN hG X0 hx (hb hby d3_0) (pc' := 1) rfl rfl rfl ?_
  refine g_getF hG X0 hx hZ hown (wd hw 10 rfl) Via.refl e0 F_shares_a (hb hby d3_1) (pc' := 4) rfl ?_
  intro T1 X1 e1
  refine g_iloadN hG X1 hx (hb hby d3_4) (pc' := 5) rfl rfl ?_
  refine g_daload hG X1 hx hZ e1 V_sa (j := kk) (v := (.double xx)) (in3_nn ik) (in3_atd ik hxx) (hb hby d3_5) (pc' := 6) rfl ?_
  refine g_dconst0 hG X1 hx (hb hby d3_6) (pc' := 7) rfl (v := (0 : UInt64)) rfl ?_
  obtain ⟨v7, q7⟩ : ∃ zz : Int32, cmpValue (FP.dcmp xx (0 : UInt64)) .l = zz := ⟨_, rfl⟩
  refine g_dcmp hG X1 hx (hb hby d3_7) (pc' := 8) rfl q7 ?_
  refine g_ifYes hG X1 hx (hb hby d3_8) (pc' := 28) (by rw [← q7, gx]; rfl) (by decide) (by decide) ?_
  refine g_aloadN hG X1 hx (hb hby d3_28) (pc' := 29) rfl rfl rfl ?_
  refine g_getF hG X1 hx hZ hown (wd hw 10 rfl) Via.refl e1 F_shares_a (hb hby d3_29) (pc' := 32) rfl ?_
  intro T2 X2 e2
  refine g_iloadN hG X2 hx (hb hby d3_32) (pc' := 33) rfl rfl ?_
  refine g_aloadN hG X2 hx (hb hby d3_33) (pc' := 34) rfl rfl rfl ?_
  refine g_getF hG X2 hx hZ hown (wd hw 10 rfl) Via.refl e2 F_shares_a (hb hby d3_34) (pc' := 37) rfl ?_
  intro T3 X3 e3
  refine g_iloadN hG X3 hx (hb hby d3_37) (pc' := 38) rfl rfl ?_
  refine g_daload hG X3 hx hZ e3 V_sa (j := kk) (v := (.double xx)) (in3_nn ik) (in3_atd ik hxx) (hb hby d3_38) (pc' := 39) rfl ?_
  refine g_dloadN hG X3 hx (hb hby d3_39) (pc' := 40) rfl rfl ?_
  refine g_natS hG X3 hx hZ (y := (⟨"java/lang/Math", "max", "(DD)D"⟩ : MethodName)) (val := (.double (Jvm.Native.java_lang_Math.nans.pick64 true xx vv))) 2 hown (wd hw 22 rfl) (wd hw 23 rfl) (wd hw 24 rfl) (wd hw 25 rfl) (by decide) (fun hc => Jvm.Free.Fl.Abs.maxD_pays xx vv hc (by decide) (by decide)) (by rw [hml]; rfl) pd_7 rfl (argsL := [(.double xx), (.double vv)]) (rest := [(.int kk), (.ref sa)]) rfl (Nat.le_of_eq rfl) (hb hby d3_40) e3 (by decide) (by decide) (⟨rfl, nx, nv⟩) (pc' := 43) rfl ?_
  intro T4 X4 e4
  show G (T4.setTop (mkF m 43 _ [(.double (Jvm.Native.java_lang_Math.nans.pick64 true xx vv)), (.int kk), (.ref sa)]))
  refine g_dastore hG X4 hx hZ e4 V_sa (j := kk) (in3_nn ik) (in3_lend ik) (hb hby d3_43) (pc' := 44) rfl ?_
  intro T5 h5 X5 e5 W5 Vn5
  rw [in3_setd ik] at Vn5
  have V_sa : AV Z h5 sa .double (3 : Int32) (fd3 (upd sh kk (Jvm.Native.java_lang_Math.nans.pick64 true xx vv))) := Vn5
  have Ex_a := Ex_a.wr W5
  have Ex_ha := Ex_ha.wr W5
  have F_shares_a := F_shares_a.other W5 (Or.inl d1)
  have F_held_a := F_held_a.other W5 (Or.inl d1)
  have F_size_a := F_size_a.other W5 (Or.inl d1)
  have V_ha := V_ha.other W5 (Ne.symm d3)
  have Zs := Nat.le_trans Zs (Wr.size W5)
  have NF5 := Fr.snoc X5 NF0 gsa
  have K5 := K0.wr W5 (Or.inl (List.mem_of_getElem? (i := 1) rfl))
  exact e_ret0 hGe X5 hx hrt hlk (hb hby d3_44) e5 (by decide) (by decide) (⟨rfl, NF5, K5, Ex_a, Ex_ha, F_shares_a, F_held_a, F_size_a, V_sa, V_ha⟩)

def Q_rmCl3_3 (Z : State) (a sa ha : Addr) (sh : Int32 → UInt64) (hd : Int32 → Int32) (k0 : Int32) (k1 : Int32) (k2 : Int32) (h0 : Heap) (n0 : Nat) (v : Option Value) (h : Heap) (L : List Loc) : Prop := v = none ∧ Fr n0 L ∧ Keep h0 h [a, sa, ha] ∧ NS3 Z h a sa ha (0 : Int32) (upd (upd (upd sh k0 0) k1 0) k2 0) hd
set_option maxRecDepth 65536 in
set_option maxHeartbeats 40000000 in
theorem rmCl3_3 (l : Launch) (Z : State) (a0 : Array Value) (hw : ∀ d ∈ tables_1, d.before a0 Z = true) (ws : List Jvm.Cond) (a sa ha : Addr) (sh : Int32 → UInt64) (hd : Int32 → Int32) (k0 : Int32) (k1 : Int32) (k2 : Int32) (h0 : Heap) (n0 : Nat) (Zs : n0 ≤ h0.size) (NQ : NS3 Z h0 a sa ha (3 : Int32) sh hd) (DD : Dis n0 a sa ha) (hk0 : hd (0 : Int32) = k0) (ik0 : In3 k0) (hk1 : hd (1 : Int32) = k1) (ik1 : In3 k1) (hk2 : hd (2 : Int32) = k2) (ik2 : In3 k2) :
    Con l (⟨"org/termsieve/mapping/Shares", "clear", "()V"⟩ : MethodName) prog_78_method_4_code 2 none ws ({ frames := 0, cells := 0, slots := 0, locals := 0 } : Room) Z #[(.ref a)] h0 ({ frames := 0, cells := 0, slots := 0, locals := 0 } : Room).cells ({ frames := 0, cells := 0, slots := 0, locals := 0 } : Room).slots (Q_rmCl3_3 Z a sa ha sh hd k0 k1 k2 h0 n0) := by
  refine Con.of (Ls := #[.val (.ref a), .unset]) (plainFor_of_name (by first | (simp [plainName, overriddenIn]; done) | decide +kernel)) (fun m => by first | (simp [entryFrame, mkF, argsToLocals, Value.category]; done) | rfl) ?_
  intro p e s m below meth c s₁ G hGe hG hx hby hml hown hnm hrt hlk hZ X0 e0
  have hown : s.vm.findClass "org/termsieve/mapping/Shares" = some m.cls := hown
  have hnm : meth.name = "clear" := hnm
  have NF0 := Fr.nil n0
  obtain ⟨Ex_a, Ex_ha, F_shares_a, F_held_a, F_size_a, V_sa, V_ha⟩ := NQ
  obtain ⟨ga, gsa, gha, d1, d2, d3⟩ := DD
  have K0 := Keep.refl h0 [a, sa, ha]
  refine g_iconst hG X0 hx (hb hby d5_0) (pc' := 1) rfl (v := (0 : Int32)) rfl ?_
  refine g_istoreN hG X0 hx (hb hby d5_1) (pc' := 2) rfl (Ls' := #[.val (.ref a), .val (.int 0)]) rfl ?_
  refine g_iloadN hG X0 hx (hb hby d5_2) (pc' := 3) rfl rfl ?_
  refine g_aloadN hG X0 hx (hb hby d5_3) (pc' := 4) rfl rfl rfl ?_
  refine g_getF hG X0 hx hZ hown (wd hw 20 rfl) Via.refl e0 F_size_a (hb hby d5_4) (pc' := 7) rfl ?_
  intro T1 X1 e1
  refine g_icmpNo hG X1 hx (hb hby d5_7) (pc' := 10) (by decide) rfl ?_
  refine g_aloadN hG X1 hx (hb hby d5_10) (pc' := 11) rfl rfl rfl ?_
  refine g_getF hG X1 hx hZ hown (wd hw 10 rfl) Via.refl e1 F_shares_a (hb hby d5_11) (pc' := 14) rfl ?_
  intro T2 X2 e2
  refine g_aloadN hG X2 hx (hb hby d5_14) (pc' := 15) rfl rfl rfl ?_
  refine g_getF hG X2 hx hZ hown (wd hw 13 rfl) Via.refl e2 F_held_a (hb hby d5_15) (pc' := 18) rfl ?_
  intro T3 X3 e3
  refine g_iloadN hG X3 hx (hb hby d5_18) (pc' := 19) rfl rfl ?_
  refine g_iaload hG X3 hx hZ e3 V_ha (j := (0 : Int32)) (v := (.int k0)) (in3_nn in3_0) (in3_at in3_0 hk0) (hb hby d5_19) (pc' := 20) rfl ?_
  refine g_dconst0 hG X3 hx (hb hby d5_20) (pc' := 21) rfl (v := (0 : UInt64)) rfl ?_
  refine g_dastore hG X3 hx hZ e3 V_sa (j := k0) (in3_nn ik0) (in3_lend ik0) (hb hby d5_21) (pc' := 22) rfl ?_
  intro T4 h4 X4 e4 W4 Vn4
  rw [in3_setd ik0] at Vn4
  have V_sa : AV Z h4 sa .double (3 : Int32) (fd3 (upd sh k0 (0 : UInt64))) := Vn4
  have Ex_a := Ex_a.wr W4
  have Ex_ha := Ex_ha.wr W4
  have F_shares_a := F_shares_a.other W4 (Or.inl d1)
  have F_held_a := F_held_a.other W4 (Or.inl d1)
  have F_size_a := F_size_a.other W4 (Or.inl d1)
  have V_ha := V_ha.other W4 (Ne.symm d3)
  have Zs := Nat.le_trans Zs (Wr.size W4)
  have NF4 := Fr.snoc X4 NF0 gsa
  have K4 := K0.wr W4 (Or.inl (List.mem_of_getElem? (i := 1) rfl))
  refine g_iinc hG X4 hx (hb hby d5_22) (pc' := 25) rfl rfl (v := (1 : Int32)) (by decide) (Ls' := #[.val (.ref a), .val (.int 1)]) rfl ?_
  refine g_goto hG X4 hx (hb hby d5_25) (pc' := 2) (by decide) (by decide) ?_
  refine g_iloadN hG X4 hx (hb hby d5_2) (pc' := 3) rfl rfl ?_
  refine g_aloadN hG X4 hx (hb hby d5_3) (pc' := 4) rfl rfl rfl ?_
  refine g_getF hG X4 hx hZ hown (wd hw 20 rfl) Via.refl e4 F_size_a (hb hby d5_4) (pc' := 7) rfl ?_
  intro T5 X5 e5
  refine g_icmpNo hG X5 hx (hb hby d5_7) (pc' := 10) (by decide) rfl ?_
  refine g_aloadN hG X5 hx (hb hby d5_10) (pc' := 11) rfl rfl rfl ?_
  refine g_getF hG X5 hx hZ hown (wd hw 10 rfl) Via.refl e5 F_shares_a (hb hby d5_11) (pc' := 14) rfl ?_
  intro T6 X6 e6
  refine g_aloadN hG X6 hx (hb hby d5_14) (pc' := 15) rfl rfl rfl ?_
  refine g_getF hG X6 hx hZ hown (wd hw 13 rfl) Via.refl e6 F_held_a (hb hby d5_15) (pc' := 18) rfl ?_
  intro T7 X7 e7
  refine g_iloadN hG X7 hx (hb hby d5_18) (pc' := 19) rfl rfl ?_
  refine g_iaload hG X7 hx hZ e7 V_ha (j := (1 : Int32)) (v := (.int k1)) (in3_nn in3_1) (in3_at in3_1 hk1) (hb hby d5_19) (pc' := 20) rfl ?_
  refine g_dconst0 hG X7 hx (hb hby d5_20) (pc' := 21) rfl (v := (0 : UInt64)) rfl ?_
  refine g_dastore hG X7 hx hZ e7 V_sa (j := k1) (in3_nn ik1) (in3_lend ik1) (hb hby d5_21) (pc' := 22) rfl ?_
  intro T8 h8 X8 e8 W8 Vn8
  rw [in3_setd ik1] at Vn8
  have V_sa : AV Z h8 sa .double (3 : Int32) (fd3 (upd (upd sh k0 (0 : UInt64)) k1 (0 : UInt64))) := Vn8
  have Ex_a := Ex_a.wr W8
  have Ex_ha := Ex_ha.wr W8
  have F_shares_a := F_shares_a.other W8 (Or.inl d1)
  have F_held_a := F_held_a.other W8 (Or.inl d1)
  have F_size_a := F_size_a.other W8 (Or.inl d1)
  have V_ha := V_ha.other W8 (Ne.symm d3)
  have Zs := Nat.le_trans Zs (Wr.size W8)
  have NF8 := Fr.snoc X8 NF4 gsa
  have K8 := K4.wr W8 (Or.inl (List.mem_of_getElem? (i := 1) rfl))
  refine g_iinc hG X8 hx (hb hby d5_22) (pc' := 25) rfl rfl (v := (2 : Int32)) (by decide) (Ls' := #[.val (.ref a), .val (.int 2)]) rfl ?_
  refine g_goto hG X8 hx (hb hby d5_25) (pc' := 2) (by decide) (by decide) ?_
  refine g_iloadN hG X8 hx (hb hby d5_2) (pc' := 3) rfl rfl ?_
  refine g_aloadN hG X8 hx (hb hby d5_3) (pc' := 4) rfl rfl rfl ?_
  refine g_getF hG X8 hx hZ hown (wd hw 20 rfl) Via.refl e8 F_size_a (hb hby d5_4) (pc' := 7) rfl ?_
  intro T9 X9 e9
  refine g_icmpNo hG X9 hx (hb hby d5_7) (pc' := 10) (by decide) rfl ?_
  refine g_aloadN hG X9 hx (hb hby d5_10) (pc' := 11) rfl rfl rfl ?_
  refine g_getF hG X9 hx hZ hown (wd hw 10 rfl) Via.refl e9 F_shares_a (hb hby d5_11) (pc' := 14) rfl ?_
  intro T10 X10 e10
  refine g_aloadN hG X10 hx (hb hby d5_14) (pc' := 15) rfl rfl rfl ?_
  refine g_getF hG X10 hx hZ hown (wd hw 13 rfl) Via.refl e10 F_held_a (hb hby d5_15) (pc' := 18) rfl ?_
  intro T11 X11 e11
  refine g_iloadN hG X11 hx (hb hby d5_18) (pc' := 19) rfl rfl ?_
  refine g_iaload hG X11 hx hZ e11 V_ha (j := (2 : Int32)) (v := (.int k2)) (in3_nn in3_2) (in3_at in3_2 hk2) (hb hby d5_19) (pc' := 20) rfl ?_
  refine g_dconst0 hG X11 hx (hb hby d5_20) (pc' := 21) rfl (v := (0 : UInt64)) rfl ?_
  refine g_dastore hG X11 hx hZ e11 V_sa (j := k2) (in3_nn ik2) (in3_lend ik2) (hb hby d5_21) (pc' := 22) rfl ?_
  intro T12 h12 X12 e12 W12 Vn12
  rw [in3_setd ik2] at Vn12
  have V_sa : AV Z h12 sa .double (3 : Int32) (fd3 (upd (upd (upd sh k0 (0 : UInt64)) k1 (0 : UInt64)) k2 (0 : UInt64))) := Vn12
  have Ex_a := Ex_a.wr W12
  have Ex_ha := Ex_ha.wr W12
  have F_shares_a := F_shares_a.other W12 (Or.inl d1)
  have F_held_a := F_held_a.other W12 (Or.inl d1)
  have F_size_a := F_size_a.other W12 (Or.inl d1)
  have V_ha := V_ha.other W12 (Ne.symm d3)
  have Zs := Nat.le_trans Zs (Wr.size W12)
  have NF12 := Fr.snoc X12 NF8 gsa
  have K12 := K8.wr W12 (Or.inl (List.mem_of_getElem? (i := 1) rfl))
  refine g_iinc hG X12 hx (hb hby d5_22) (pc' := 25) rfl rfl (v := (3 : Int32)) (by decide) (Ls' := #[.val (.ref a), .val (.int 3)]) rfl ?_
  refine g_goto hG X12 hx (hb hby d5_25) (pc' := 2) (by decide) (by decide) ?_
  refine g_iloadN hG X12 hx (hb hby d5_2) (pc' := 3) rfl rfl ?_
  refine g_aloadN hG X12 hx (hb hby d5_3) (pc' := 4) rfl rfl rfl ?_
  refine g_getF hG X12 hx hZ hown (wd hw 20 rfl) Via.refl e12 F_size_a (hb hby d5_4) (pc' := 7) rfl ?_
  intro T13 X13 e13
  refine g_icmpYes hG X13 hx (hb hby d5_7) (pc' := 28) (by decide) (by decide) (by decide) ?_
  refine g_aloadN hG X13 hx (hb hby d5_28) (pc' := 29) rfl rfl rfl ?_
  refine g_iconst hG X13 hx (hb hby d5_29) (pc' := 30) rfl (v := (0 : Int32)) rfl ?_
  refine g_putF hG X13 hx hZ hown (wd hw 20 rfl) Via.refl e13 F_size_a Ex_a (Or.inl (wd hw 21 rfl)) (wd hw 1 rfl) (v' := (.int 0)) (ty := .int) (by decide) rfl rfl (hb hby d5_30) (pc' := 33) rfl ?_
  intro T14 h14 X14 e14 W14
  have Ex_a := Ex_a.wr W14
  have Ex_ha := Ex_ha.wr W14
  have F_shares_a := F_shares_a.other W14 (Or.inr (slot_ne (Or.inr (wd hw 11 rfl)) (Or.inl (wd hw 21 rfl)) (by decide) (t := (.array .double)) (t' := .int) (by decide) (by decide)))
  have F_held_a := F_held_a.other W14 (Or.inr (slot_ne (Or.inr (wd hw 14 rfl)) (Or.inl (wd hw 21 rfl)) (by decide) (t := (.array .int)) (t' := .int) (by decide) (by decide)))
  have F_size_a := F_size_a.same W14
  have V_sa := V_sa.other W14 (Ne.symm d1)
  have V_ha := V_ha.other W14 (Ne.symm d2)
  have Zs := Nat.le_trans Zs (Wr.size W14)
  have NF14 := Fr.snoc X14 NF12 ga
  have K14 := K12.wr W14 (Or.inl (List.mem_of_getElem? (i := 0) rfl))
  exact e_ret0 hGe X14 hx hrt hlk (hb hby d5_33) e14 (by decide) (by decide) (⟨rfl, NF14, K14, Ex_a, Ex_ha, F_shares_a, F_held_a, F_size_a, V_sa, V_ha⟩)

def Q_rmCo4_0 (Z : State) (a : Addr) (x0 x1 x2 x3 : Int32) (h0 : Heap) (n0 : Nat) (v : Option Value) (h : Heap) (L : List Loc) : Prop := ∃ b : Addr, v = some (.ref b) ∧ Fr n0 L ∧ Keep h0 h [] ∧ h0.size ≤ b ∧ AV Z h b .int (0 : Int32) []
set_option maxRecDepth 65536 in
set_option maxHeartbeats 40000000 in
theorem rmCo4_0 (l : Launch) (Z : State) (a0 : Array Value) (hw : ∀ d ∈ tables_1, d.before a0 Z = true) (ws : List Jvm.Cond) (a : Addr) (x0 x1 x2 x3 : Int32) (h0 : Heap) (n0 : Nat) (Zs : n0 ≤ h0.size) (V_a : AV Z h0 a .int (4 : Int32) [(.int x0), (.int x1), (.int x2), (.int x3)]) (Ex_a : Exa Z h0 a "[I") :
    Con l (⟨"java/util/Arrays", "copyOf", "([II)[I"⟩ : MethodName) jdk_65_method_123_code 3 (some (.array .int)) ws ({ frames := 1, cells := 1, slots := 0, locals := 32 } : Room) Z #[(.ref a), (.int 0)] h0 ({ frames := 1, cells := 1, slots := 0, locals := 32 } : Room).cells ({ frames := 1, cells := 1, slots := 0, locals := 32 } : Room).slots (Q_rmCo4_0 Z a x0 x1 x2 x3 h0 n0) := by
  refine Con.of (Ls := #[.val (.ref a), .val (.int 0), .unset]) (plainFor_of_name (by first | (simp [plainName, overriddenIn]; done) | decide +kernel)) (fun m => by first | (simp [entryFrame, mkF, argsToLocals, Value.category]; done) | rfl) ?_
  intro p e s m below meth c s₁ G hGe hG hx hby hml hown hnm hrt hlk hZ X0 e0
  have hown : s.vm.findClass "java/util/Arrays" = some m.cls := hown
  have hnm : meth.name = "copyOf" := hnm
  have NF0 := Fr.nil n0
  have K0 := Keep.refl h0 ([] : List Addr)
  refine g_iloadN hG X0 hx (hb hby d7_0) (pc' := 1) rfl rfl ?_
  refine g_aloadN hG X0 hx (hb hby d7_1) (pc' := 2) rfl rfl rfl ?_
  refine g_arraylength hG X0 hx hZ e0 V_a (hb hby d7_2) (pc' := 3) rfl ?_
  refine g_icmpYes hG X0 hx (hb hby d7_3) (pc' := 14) (by decide) (by decide) (by decide) ?_
  refine g_iloadN hG X0 hx (hb hby d7_14) (pc' := 15) rfl rfl ?_
  refine g_newP hG X0 hx hZ (wd hw 12 rfl) e0 (hb hby d7_15) (by decide) 0 (by decide) (by decide) (by decide) (by decide) (pc' := 17) rfl ?_
  intro T1 h1 b kA1 gs1 X1 e1 E1 A1
  have ne_a_b : a ≠ b := Nat.ne_of_lt (gs1 ▸ V_a.lt)
  have ge_b : n0 ≤ b := gs1 ▸ Zs
  have sz_b : h0.size ≤ b := gs1 ▸ K0.1
  have Zs := Nat.le_trans Zs E1.1
  have V_a := V_a.ext E1
  have Ex_a := Ex_a.ext E1
  have K1 := K0.ext E1
  have V_b : AV Z h1 b .int (0 : Int32) [] := AV.new A1
  refine g_astoreN hG X1 hx (hb hby d7_17) (pc' := 18) rfl rfl (Ls' := #[.val (.ref a), .val (.int 0), .val (.ref b)]) rfl ?_
  refine g_aloadN hG X1 hx (hb hby d7_18) (pc' := 19) rfl rfl rfl ?_
  refine g_iconst hG X1 hx (hb hby d7_19) (pc' := 20) rfl (v := (0 : Int32)) rfl ?_
  refine g_aloadN hG X1 hx (hb hby d7_20) (pc' := 21) rfl rfl rfl ?_
  refine g_iconst hG X1 hx (hb hby d7_21) (pc' := 22) rfl (v := (0 : Int32)) rfl ?_
  refine g_aloadN hG X1 hx (hb hby d7_22) (pc' := 23) rfl rfl rfl ?_
  refine g_arraylength hG X1 hx hZ e1 V_a (hb hby d7_23) (pc' := 24) rfl ?_
  refine g_iloadN hG X1 hx (hb hby d7_24) (pc' := 25) rfl rfl ?_
  refine g_callS hG X1 hx hZ (y := (⟨"java/lang/Math", "min", "(II)I"⟩ : MethodName)) 4 hown (wd hw 40 rfl) (wd hw 41 rfl) (wd hw 24 rfl) (wd hw 42 rfl) (by decide) (rmMI l Z a0 hw [] (4 : Int32) (0 : Int32) (0 : Int32) h1 n0 Zs (by decide)) (by decide) (by decide) (by rw [hml]; rfl) pd_3 rfl (argsL := [(.int 4), (.int 0)]) (rest := [(.int 0), (.ref b), (.int 0), (.ref a)]) rfl rfl (Nat.le_of_eq rfl) (hb hby d7_25) e1 (by decide) (by decide) (pc' := 28) rfl ?_
  intro T2 rv2 L2 X2 hQ2
  obtain ⟨rfl, Nq2, eh2⟩ := hQ2
  have NF2 := Fr.app NF0 Nq2
  show G (T2.setTop (mkF m 28 _ [(.int 0), (.int 0), (.ref b), (.int 0), (.ref a)]))
  refine g_copy hG X2 hx hZ hown (wd hw 43 rfl) (wd hw 46 rfl) (wd hw 44 rfl) (wd hw 45 rfl) eh2 V_a V_b rfl (by decide) (by decide) (by decide) (by decide) (by decide) (vr := []) rfl NF2 ge_b (by rw [hml]; rfl) (hb hby d7_28) (by decide) 0 (Nat.le_of_eq rfl) (by decide) (pc' := 31) rfl ?_
  intro T3 h3 L3 X3 e3 NF3 Kq3 Vn3
  have V_b := Vn3
  have V_a := V_a.keep Kq3 (ninS ne_a_b nin0)
  have Ex_a := Ex_a.keep Kq3
  have Zs := Nat.le_trans Zs Kq3.1
  have K3 := K1.trans Kq3 (allS (Or.inr sz_b) all0)
  show G (T3.setTop (mkF m 31 _ []))
  refine g_aloadN hG X3 hx (hb hby d7_31) (pc' := 32) rfl rfl rfl ?_
  exact e_retA hGe X3 hx hrt rfl hlk (hb hby d7_32) e3 (by decide) (by decide) (⟨b, rfl, NF3, K3, sz_b, V_b⟩)

def Q_rmHe4_0 (Z : State) (a sa ha : Addr) (sh : Int32 → UInt64) (hd : Int32 → Int32) (h0 : Heap) (n0 : Nat) (v : Option Value) (h : Heap) (L : List Loc) : Prop := ∃ b : Addr, v = some (.ref b) ∧ Fr n0 L ∧ Keep h0 h [] ∧ h0.size ≤ b ∧ AV Z h b .int (0 : Int32) []
set_option maxRecDepth 65536 in
set_option maxHeartbeats 40000000 in
theorem rmHe4_0 (l : Launch) (Z : State) (a0 : Array Value) (hw : ∀ d ∈ tables_1, d.before a0 Z = true) (ws : List Jvm.Cond) (a sa ha : Addr) (sh : Int32 → UInt64) (hd : Int32 → Int32) (h0 : Heap) (n0 : Nat) (Zs : n0 ≤ h0.size) (NQ : NS4 Z h0 a sa ha (0 : Int32) sh hd) (DD : Dis n0 a sa ha) :
    Con l (⟨"org/termsieve/mapping/Shares", "held", "()[I"⟩ : MethodName) prog_78_method_6_code 2 (some (.array .int)) ws ({ frames := 4, cells := 1, slots := 0, locals := 104 } : Room) Z #[(.ref a)] h0 ({ frames := 4, cells := 1, slots := 0, locals := 104 } : Room).cells ({ frames := 4, cells := 1, slots := 0, locals := 104 } : Room).slots (Q_rmHe4_0 Z a sa ha sh hd h0 n0) := by
  refine Con.of (Ls := #[.val (.ref a), .unset]) (plainFor_of_name (by first | (simp [plainName, overriddenIn]; done) | decide +kernel)) (fun m => by first | (simp [entryFrame, mkF, argsToLocals, Value.category]; done) | rfl) ?_
  intro p e s m below meth c s₁ G hGe hG hx hby hml hown hnm hrt hlk hZ X0 e0
  have hown : s.vm.findClass "org/termsieve/mapping/Shares" = some m.cls := hown
  have hnm : meth.name = "held" := hnm
  have NF0 := Fr.nil n0
  obtain ⟨Ex_a, Ex_ha, F_shares_a, F_held_a, F_size_a, V_sa, V_ha⟩ := NQ
  obtain ⟨ga, gsa, gha, d1, d2, d3⟩ := DD
  have K0 := Keep.refl h0 ([] : List Addr)
  refine g_aloadN hG X0 hx (hb hby d6_0) (pc' := 1) rfl rfl rfl ?_
  refine g_getF hG X0 hx hZ hown (wd hw 13 rfl) Via.refl e0 F_held_a (hb hby d6_1) (pc' := 4) rfl ?_
  intro T1 X1 e1
  refine g_aloadN hG X1 hx (hb hby d6_4) (pc' := 5) rfl rfl rfl ?_
  refine g_getF hG X1 hx hZ hown (wd hw 20 rfl) Via.refl e1 F_size_a (hb hby d6_5) (pc' := 8) rfl ?_
  intro T2 X2 e2
  refine g_callS hG X2 hx hZ (y := (⟨"java/util/Arrays", "copyOf", "([II)[I"⟩ : MethodName)) 0 hown (wd hw 36 rfl) (wd hw 37 rfl) (wd hw 38 rfl) (wd hw 39 rfl) (by decide) (rmCo4_0 l Z a0 hw [] ha (hd 0) (hd 1) (hd 2) (hd 3) h0 n0 Zs V_ha Ex_ha) (by decide) (by decide) (by rw [hml]; rfl) pd_4 rfl (argsL := [(.ref ha), (.int 0)]) (rest := []) rfl rfl (Nat.le_of_eq rfl) (hb hby d6_8) e2 (by decide) (by decide) (pc' := 11) rfl ?_
  intro T3 rv3 L3 X3 hQ3
  obtain ⟨b, rfl, Nq3, Kq3, szq3, V_b⟩ := hQ3
  have NF3 := Fr.app NF0 Nq3
  have ne_a_b : a ≠ b := Nat.ne_of_lt (Nat.lt_of_lt_of_le Ex_a.lt szq3)
  have ne_ha_b : ha ≠ b := Nat.ne_of_lt (Nat.lt_of_lt_of_le Ex_ha.lt szq3)
  have ne_sa_b : sa ≠ b := Nat.ne_of_lt (Nat.lt_of_lt_of_le V_sa.lt szq3)
  have ge_b : n0 ≤ b := Nat.le_trans Zs szq3
  have sz_b : h0.size ≤ b := Nat.le_trans K0.1 szq3
  have Ex_a := Ex_a.keep Kq3
  have Ex_ha := Ex_ha.keep Kq3
  have F_shares_a := F_shares_a.keep Kq3 nin0
  have F_held_a := F_held_a.keep Kq3 nin0
  have F_size_a := F_size_a.keep Kq3 nin0
  have V_sa := V_sa.keep Kq3 nin0
  have V_ha := V_ha.keep Kq3 nin0
  have Zs := Nat.le_trans Zs Kq3.1
  have K3 := K0.trans Kq3 all0
  show G (T3.setTop (mkF m 11 _ [(.ref b)]))
  refine g_astoreN hG X3 hx (hb hby d6_11) (pc' := 12) rfl rfl (Ls' := #[.val (.ref a), .val (.ref b)]) rfl ?_
  refine g_aloadN hG X3 hx (hb hby d6_12) (pc' := 13) rfl rfl rfl ?_
  refine g_callS hG X3 hx hZ (y := (⟨"java/util/Arrays", "sort", "([I)V"⟩ : MethodName)) 0 hown (wd hw 47 rfl) (wd hw 48 rfl) (wd hw 38 rfl) (wd hw 49 rfl) (by decide) (rmSo0 l Z a0 hw [] b  T3.heap n0 Zs V_b) (by decide) (by decide) (by rw [hml]; rfl) pd_5 rfl (argsL := [(.ref b)]) (rest := []) rfl rfl (Nat.le_of_eq rfl) (hb hby d6_13) rfl (by decide) (by decide) (pc' := 16) rfl ?_
  intro T4 rv4 L4 X4 hQ4
  obtain ⟨rfl, Nq4, eh4⟩ := hQ4
  have NF4 := Fr.app NF3 Nq4
  show G (T4.setTop (mkF m 16 _ []))
  refine g_aloadN hG X4 hx (hb hby d6_16) (pc' := 17) rfl rfl rfl ?_
  exact e_retA hGe X4 hx hrt rfl hlk (hb hby d6_17) eh4 (by decide) (by decide) (⟨b, rfl, NF4, K3, sz_b, V_b⟩)

def Q_rmCo4_1 (Z : State) (a : Addr) (x0 x1 x2 x3 : Int32) (h0 : Heap) (n0 : Nat) (v : Option Value) (h : Heap) (L : List Loc) : Prop := ∃ b : Addr, v = some (.ref b) ∧ Fr n0 L ∧ Keep h0 h [] ∧ h0.size ≤ b ∧ AV Z h b .int (1 : Int32) [(.int x0)]
set_option maxRecDepth 65536 in
set_option maxHeartbeats 40000000 in
theorem rmCo4_1 (l : Launch) (Z : State) (a0 : Array Value) (hw : ∀ d ∈ tables_1, d.before a0 Z = true) (ws : List Jvm.Cond) (a : Addr) (x0 x1 x2 x3 : Int32) (h0 : Heap) (n0 : Nat) (Zs : n0 ≤ h0.size) (V_a : AV Z h0 a .int (4 : Int32) [(.int x0), (.int x1), (.int x2), (.int x3)]) (Ex_a : Exa Z h0 a "[I") :
    Con l (⟨"java/util/Arrays", "copyOf", "([II)[I"⟩ : MethodName) jdk_65_method_123_code 3 (some (.array .int)) ws ({ frames := 1, cells := 1, slots := 1, locals := 32 } : Room) Z #[(.ref a), (.int 1)] h0 ({ frames := 1, cells := 1, slots := 1, locals := 32 } : Room).cells ({ frames := 1, cells := 1, slots := 1, locals := 32 } : Room).slots (Q_rmCo4_1 Z a x0 x1 x2 x3 h0 n0) := by
  refine Con.of (Ls := #[.val (.ref a), .val (.int 1), .unset]) (plainFor_of_name (by first | (simp [plainName, overriddenIn]; done) | decide +kernel)) (fun m => by first | (simp [entryFrame, mkF, argsToLocals, Value.category]; done) | rfl) ?_
  intro p e s m below meth c s₁ G hGe hG hx hby hml hown hnm hrt hlk hZ X0 e0
  have hown : s.vm.findClass "java/util/Arrays" = some m.cls := hown
  have hnm : meth.name = "copyOf" := hnm
  have NF0 := Fr.nil n0
  have K0 := Keep.refl h0 ([] : List Addr)
  refine g_iloadN hG X0 hx (hb hby d7_0) (pc' := 1) rfl rfl ?_
  refine g_aloadN hG X0 hx (hb hby d7_1) (pc' := 2) rfl rfl rfl ?_
  refine g_arraylength hG X0 hx hZ e0 V_a (hb hby d7_2) (pc' := 3) rfl ?_
  refine g_icmpYes hG X0 hx (hb hby d7_3) (pc' := 14) (by decide) (by decide) (by decide) ?_
  refine g_iloadN hG X0 hx (hb hby d7_14) (pc' := 15) rfl rfl ?_
  refine g_newP hG X0 hx hZ (wd hw 12 rfl) e0 (hb hby d7_15) (by decide) 1 (by decide) (by decide) (by decide) (by decide) (pc' := 17) rfl ?_
  intro T1 h1 b kA1 gs1 X1 e1 E1 A1
  have ne_a_b : a ≠ b := Nat.ne_of_lt (gs1 ▸ V_a.lt)
  have ge_b : n0 ≤ b := gs1 ▸ Zs
  have sz_b : h0.size ≤ b := gs1 ▸ K0.1
  have Zs := Nat.le_trans Zs E1.1
  have V_a := V_a.ext E1
  have Ex_a := Ex_a.ext E1
  have K1 := K0.ext E1
  have V_b : AV Z h1 b .int (1 : Int32) [(.int 0)] := AV.new A1
  refine g_astoreN hG X1 hx (hb hby d7_17) (pc' := 18) rfl rfl (Ls' := #[.val (.ref a), .val (.int 1), .val (.ref b)]) rfl ?_
  refine g_aloadN hG X1 hx (hb hby d7_18) (pc' := 19) rfl rfl rfl ?_
  refine g_iconst hG X1 hx (hb hby d7_19) (pc' := 20) rfl (v := (0 : Int32)) rfl ?_
  refine g_aloadN hG X1 hx (hb hby d7_20) (pc' := 21) rfl rfl rfl ?_
  refine g_iconst hG X1 hx (hb hby d7_21) (pc' := 22) rfl (v := (0 : Int32)) rfl ?_
  refine g_aloadN hG X1 hx (hb hby d7_22) (pc' := 23) rfl rfl rfl ?_
  refine g_arraylength hG X1 hx hZ e1 V_a (hb hby d7_23) (pc' := 24) rfl ?_
  refine g_iloadN hG X1 hx (hb hby d7_24) (pc' := 25) rfl rfl ?_
  refine g_callS hG X1 hx hZ (y := (⟨"java/lang/Math", "min", "(II)I"⟩ : MethodName)) 4 hown (wd hw 40 rfl) (wd hw 41 rfl) (wd hw 24 rfl) (wd hw 42 rfl) (by decide) (rmMI l Z a0 hw [] (4 : Int32) (1 : Int32) (1 : Int32) h1 n0 Zs (by decide)) (by decide) (by decide) (by rw [hml]; rfl) pd_3 rfl (argsL := [(.int 4), (.int 1)]) (rest := [(.int 0), (.ref b), (.int 0), (.ref a)]) rfl rfl (Nat.le_of_eq rfl) (hb hby d7_25) e1 (by decide) (by decide) (pc' := 28) rfl ?_
  intro T2 rv2 L2 X2 hQ2
  obtain ⟨rfl, Nq2, eh2⟩ := hQ2
  have NF2 := Fr.app NF0 Nq2
  show G (T2.setTop (mkF m 28 _ [(.int 1), (.int 0), (.ref b), (.int 0), (.ref a)]))
  refine g_copy hG X2 hx hZ hown (wd hw 43 rfl) (wd hw 46 rfl) (wd hw 44 rfl) (wd hw 45 rfl) eh2 V_a V_b rfl (by decide) (by decide) (by decide) (by decide) (by decide) (vr := [(.int x0)]) rfl NF2 ge_b (by rw [hml]; rfl) (hb hby d7_28) (by decide) 0 (Nat.le_of_eq rfl) (by decide) (pc' := 31) rfl ?_
  intro T3 h3 L3 X3 e3 NF3 Kq3 Vn3
  have V_b := Vn3
  have V_a := V_a.keep Kq3 (ninS ne_a_b nin0)
  have Ex_a := Ex_a.keep Kq3
  have Zs := Nat.le_trans Zs Kq3.1
  have K3 := K1.trans Kq3 (allS (Or.inr sz_b) all0)
  show G (T3.setTop (mkF m 31 _ []))
  refine g_aloadN hG X3 hx (hb hby d7_31) (pc' := 32) rfl rfl rfl ?_
  exact e_retA hGe X3 hx hrt rfl hlk (hb hby d7_32) e3 (by decide) (by decide) (⟨b, rfl, NF3, K3, sz_b, V_b⟩)

def Q_rmHe4_1 (Z : State) (a sa ha : Addr) (sh : Int32 → UInt64) (hd : Int32 → Int32) (kk : Int32) (h0 : Heap) (n0 : Nat) (v : Option Value) (h : Heap) (L : List Loc) : Prop := ∃ b : Addr, v = some (.ref b) ∧ Fr n0 L ∧ Keep h0 h [] ∧ h0.size ≤ b ∧ AV Z h b .int (1 : Int32) [(.int kk)]
set_option maxRecDepth 65536 in
set_option maxHeartbeats 40000000 in
theorem rmHe4_1 (l : Launch) (Z : State) (a0 : Array Value) (hw : ∀ d ∈ tables_1, d.before a0 Z = true) (ws : List Jvm.Cond) (a sa ha : Addr) (sh : Int32 → UInt64) (hd : Int32 → Int32) (kk : Int32) (h0 : Heap) (n0 : Nat) (Zs : n0 ≤ h0.size) (NQ : NS4 Z h0 a sa ha (1 : Int32) sh hd) (DD : Dis n0 a sa ha) (hk : hd 0 = kk) :
    Con l (⟨"org/termsieve/mapping/Shares", "held", "()[I"⟩ : MethodName) prog_78_method_6_code 2 (some (.array .int)) ws ({ frames := 4, cells := 1, slots := 1, locals := 104 } : Room) Z #[(.ref a)] h0 ({ frames := 4, cells := 1, slots := 1, locals := 104 } : Room).cells ({ frames := 4, cells := 1, slots := 1, locals := 104 } : Room).slots (Q_rmHe4_1 Z a sa ha sh hd kk h0 n0) := by
  refine Con.of (Ls := #[.val (.ref a), .unset]) (plainFor_of_name (by first | (simp [plainName, overriddenIn]; done) | decide +kernel)) (fun m => by first | (simp [entryFrame, mkF, argsToLocals, Value.category]; done) | rfl) ?_
  intro p e s m below meth c s₁ G hGe hG hx hby hml hown hnm hrt hlk hZ X0 e0
  have hown : s.vm.findClass "org/termsieve/mapping/Shares" = some m.cls := hown
  have hnm : meth.name = "held" := hnm
  have NF0 := Fr.nil n0
  obtain ⟨Ex_a, Ex_ha, F_shares_a, F_held_a, F_size_a, V_sa, V_ha⟩ := NQ
  obtain ⟨ga, gsa, gha, d1, d2, d3⟩ := DD
  have K0 := Keep.refl h0 ([] : List Addr)
  refine g_aloadN hG X0 hx (hb hby d6_0) (pc' := 1) rfl rfl rfl ?_
  refine g_getF hG X0 hx hZ hown (wd hw 13 rfl) Via.refl e0 F_held_a (hb hby d6_1) (pc' := 4) rfl ?_
  intro T1 X1 e1
  refine g_aloadN hG X1 hx (hb hby d6_4) (pc' := 5) rfl rfl rfl ?_
  refine g_getF hG X1 hx hZ hown (wd hw 20 rfl) Via.refl e1 F_size_a (hb hby d6_5) (pc' := 8) rfl ?_
  intro T2 X2 e2
  refine g_callS hG X2 hx hZ (y := (⟨"java/util/Arrays", "copyOf", "([II)[I"⟩ : MethodName)) 0 hown (wd hw 36 rfl) (wd hw 37 rfl) (wd hw 38 rfl) (wd hw 39 rfl) (by decide) (rmCo4_1 l Z a0 hw [] ha (hd 0) (hd 1) (hd 2) (hd 3) h0 n0 Zs V_ha Ex_ha) (by decide) (by decide) (by rw [hml]; rfl) pd_4 rfl (argsL := [(.ref ha), (.int 1)]) (rest := []) rfl rfl (Nat.le_of_eq rfl) (hb hby d6_8) e2 (by decide) (by decide) (pc' := 11) rfl ?_
  intro T3 rv3 L3 X3 hQ3
  obtain ⟨b, rfl, Nq3, Kq3, szq3, V_b⟩ := hQ3
  have NF3 := Fr.app NF0 Nq3
  have ne_a_b : a ≠ b := Nat.ne_of_lt (Nat.lt_of_lt_of_le Ex_a.lt szq3)
  have ne_ha_b : ha ≠ b := Nat.ne_of_lt (Nat.lt_of_lt_of_le Ex_ha.lt szq3)
  have ne_sa_b : sa ≠ b := Nat.ne_of_lt (Nat.lt_of_lt_of_le V_sa.lt szq3)
  have ge_b : n0 ≤ b := Nat.le_trans Zs szq3
  have sz_b : h0.size ≤ b := Nat.le_trans K0.1 szq3
  have Ex_a := Ex_a.keep Kq3
  have Ex_ha := Ex_ha.keep Kq3
  have F_shares_a := F_shares_a.keep Kq3 nin0
  have F_held_a := F_held_a.keep Kq3 nin0
  have F_size_a := F_size_a.keep Kq3 nin0
  have V_sa := V_sa.keep Kq3 nin0
  have V_ha := V_ha.keep Kq3 nin0
  have Zs := Nat.le_trans Zs Kq3.1
  have K3 := K0.trans Kq3 all0
  show G (T3.setTop (mkF m 11 _ [(.ref b)]))
  refine g_astoreN hG X3 hx (hb hby d6_11) (pc' := 12) rfl rfl (Ls' := #[.val (.ref a), .val (.ref b)]) rfl ?_
  refine g_aloadN hG X3 hx (hb hby d6_12) (pc' := 13) rfl rfl rfl ?_
  refine g_callS hG X3 hx hZ (y := (⟨"java/util/Arrays", "sort", "([I)V"⟩ : MethodName)) 0 hown (wd hw 47 rfl) (wd hw 48 rfl) (wd hw 38 rfl) (wd hw 49 rfl) (by decide) (rmSo1 l Z a0 hw [] b (hd 0) T3.heap n0 Zs V_b) (by decide) (by decide) (by rw [hml]; rfl) pd_5 rfl (argsL := [(.ref b)]) (rest := []) rfl rfl (Nat.le_of_eq rfl) (hb hby d6_13) rfl (by decide) (by decide) (pc' := 16) rfl ?_
  intro T4 rv4 L4 X4 hQ4
  obtain ⟨rfl, Nq4, eh4⟩ := hQ4
  have NF4 := Fr.app NF3 Nq4
  show G (T4.setTop (mkF m 16 _ []))
  refine g_aloadN hG X4 hx (hb hby d6_16) (pc' := 17) rfl rfl rfl ?_
  exact e_retA hGe X4 hx hrt rfl hlk (hb hby d6_17) eh4 (by decide) (by decide) (⟨b, rfl, NF4, K3, sz_b, (by rw [← hk]; exact V_b)⟩)

def Q_rmNew4 (Z : State) (a : Addr) (h0 : Heap) (n0 : Nat) (v : Option Value) (h : Heap) (L : List Loc) : Prop := ∃ sa ha : Addr, v = none ∧ Fr n0 L ∧ Keep h0 h [a] ∧ h0.size ≤ sa ∧ h0.size ≤ ha ∧ sa ≠ ha ∧ NS4 Z h a sa ha (0 : Int32) (fun _ => 0) (fun _ => 0)
set_option maxRecDepth 65536 in
set_option maxHeartbeats 40000000 in
theorem rmNew4 (l : Launch) (Z : State) (a0 : Array Value) (hw : ∀ d ∈ tables_1, d.before a0 Z = true) (ws : List Jvm.Cond) (a : Addr) (h0 : Heap) (n0 : Nat) (Zs : n0 ≤ h0.size) (ga : n0 ≤ a) (Ex_a : Exa Z h0 a "org/termsieve/mapping/Shares") (F_shares_a : Fld Z h0 a "org/termsieve/mapping/Shares" "shares" "[D" .null) (F_held_a : Fld Z h0 a "org/termsieve/mapping/Shares" "held" "[I" .null) (F_size_a : Fld Z h0 a "org/termsieve/mapping/Shares" "size" "I" (.int (0 : Int32))) :
    Con l (⟨"org/termsieve/mapping/Shares", "<init>", "(I)V"⟩ : MethodName) prog_78_method_1_code 2 none ws ({ frames := 1, cells := 2, slots := 8, locals := 16 } : Room) Z #[(.ref a), (.int 4)] h0 ({ frames := 1, cells := 2, slots := 8, locals := 16 } : Room).cells ({ frames := 1, cells := 2, slots := 8, locals := 16 } : Room).slots (Q_rmNew4 Z a h0 n0) := by
  refine Con.of (Ls := #[.val (.ref a), .val (.int 4)]) (plainFor_of_name (by first | (simp [plainName, overriddenIn]; done) | decide +kernel)) (fun m => by first | (simp [entryFrame, mkF, argsToLocals, Value.category]; done) | rfl) ?_
  intro p e s m below meth c s₁ G hGe hG hx hby hml hown hnm hrt hlk hZ X0 e0
  have hown : s.vm.findClass "org/termsieve/mapping/Shares" = some m.cls := hown
  have hnm : meth.name = "<init>" := hnm
  have NF0 := Fr.nil n0
  have K0 := Keep.refl h0 [a]
  refine g_aloadN hG X0 hx (hb hby d1_0) (pc' := 1) rfl rfl rfl ?_
  refine g_initO hG X0 hx hZ hown (wd hw 6 rfl) (wd hw 7 rfl) (wd hw 8 rfl) e0 (by rw [hml]; rfl) (hb hby d1_1) (by decide) (by decide) (pc' := 4) rfl ?_
  intro T1 X1 e1
  show G (T1.setTop (mkF m 4 _ []))
  refine g_aloadN hG X1 hx (hb hby d1_4) (pc' := 5) rfl rfl rfl ?_
  refine g_iloadN hG X1 hx (hb hby d1_5) (pc' := 6) rfl rfl ?_
  refine g_newPE hG X1 hx hZ (wd hw 9 rfl) e1 (hb hby d1_6) (by decide) 4 (by decide) (by decide) (by decide) (by decide) (ad := "[D") (by decide) (pc' := 8) rfl ?_
  intro T2 h2 sa gs2 X2 e2 E2 A2 B2
  have ne_a_sa : a ≠ sa := Nat.ne_of_lt (gs2 ▸ Ex_a.lt)
  have ge_sa : n0 ≤ sa := gs2 ▸ Zs
  have sz_sa : h0.size ≤ sa := gs2 ▸ K0.1
  have Zs := Nat.le_trans Zs E2.1
  have Ex_a := Ex_a.ext E2
  have F_shares_a := F_shares_a.ext E2
  have F_held_a := F_held_a.ext E2
  have F_size_a := F_size_a.ext E2
  have K2 := K0.ext E2
  have V_sa : AV Z h2 sa .double (4 : Int32) [(.double 0), (.double 0), (.double 0), (.double 0)] := A2
  have Ex_sa := B2
  refine g_putF hG X2 hx hZ hown (wd hw 10 rfl) Via.refl e2 F_shares_a Ex_a (Or.inr ⟨(wd hw 11 rfl), rfl, hnm⟩) (wd hw 1 rfl) (v' := (.ref sa)) (ty := (.array .double)) (by decide) rfl rfl (hb hby d1_8) (pc' := 11) rfl ?_
  intro T3 h3 X3 e3 W3
  have Ex_a := Ex_a.wr W3
  have F_shares_a := F_shares_a.same W3
  have F_held_a := F_held_a.other W3 (Or.inr (slot_ne (Or.inr (wd hw 14 rfl)) (Or.inr (wd hw 11 rfl)) (by decide) (t := (.array .int)) (t' := (.array .double)) (by decide) (by decide)))
  have F_size_a := F_size_a.other W3 (Or.inr (slot_ne (Or.inl (wd hw 21 rfl)) (Or.inr (wd hw 11 rfl)) (by decide) (t := .int) (t' := (.array .double)) (by decide) (by decide)))
  have V_sa := V_sa.other W3 (Ne.symm ne_a_sa)
  have Ex_sa := Ex_sa.wr W3
  have Zs := Nat.le_trans Zs (Wr.size W3)
  have NF3 := Fr.snoc X3 NF0 ga
  have K3 := K2.wr W3 (Or.inl (List.mem_of_getElem? (i := 0) rfl))
  refine g_aloadN hG X3 hx (hb hby d1_11) (pc' := 12) rfl rfl rfl ?_
  refine g_iloadN hG X3 hx (hb hby d1_12) (pc' := 13) rfl rfl ?_
  refine g_newPE hG X3 hx hZ (wd hw 12 rfl) e3 (hb hby d1_13) (by decide) 4 (by decide) (by decide) (by decide) (by decide) (ad := "[I") (by decide) (pc' := 15) rfl ?_
  intro T4 h4 ha gs4 X4 e4 E4 A4 B4
  have ne_a_ha : a ≠ ha := Nat.ne_of_lt (gs4 ▸ Ex_a.lt)
  have ne_sa_ha : sa ≠ ha := Nat.ne_of_lt (gs4 ▸ V_sa.lt)
  have ge_ha : n0 ≤ ha := gs4 ▸ Zs
  have sz_ha : h0.size ≤ ha := gs4 ▸ K3.1
  have Zs := Nat.le_trans Zs E4.1
  have Ex_a := Ex_a.ext E4
  have F_shares_a := F_shares_a.ext E4
  have F_held_a := F_held_a.ext E4
  have F_size_a := F_size_a.ext E4
  have V_sa := V_sa.ext E4
  have Ex_sa := Ex_sa.ext E4
  have K4 := K3.ext E4
  have V_ha : AV Z h4 ha .int (4 : Int32) [(.int 0), (.int 0), (.int 0), (.int 0)] := A4
  have Ex_ha := B4
  refine g_putF hG X4 hx hZ hown (wd hw 13 rfl) Via.refl e4 F_held_a Ex_a (Or.inr ⟨(wd hw 14 rfl), rfl, hnm⟩) (wd hw 1 rfl) (v' := (.ref ha)) (ty := (.array .int)) (by decide) rfl rfl (hb hby d1_15) (pc' := 18) rfl ?_
  intro T5 h5 X5 e5 W5
  have Ex_a := Ex_a.wr W5
  have F_shares_a := F_shares_a.other W5 (Or.inr (slot_ne (Or.inr (wd hw 11 rfl)) (Or.inr (wd hw 14 rfl)) (by decide) (t := (.array .double)) (t' := (.array .int)) (by decide) (by decide)))
  have F_held_a := F_held_a.same W5
  have F_size_a := F_size_a.other W5 (Or.inr (slot_ne (Or.inl (wd hw 21 rfl)) (Or.inr (wd hw 14 rfl)) (by decide) (t := .int) (t' := (.array .int)) (by decide) (by decide)))
  have V_sa := V_sa.other W5 (Ne.symm ne_a_sa)
  have Ex_sa := Ex_sa.wr W5
  have V_ha := V_ha.other W5 (Ne.symm ne_a_ha)
  have Ex_ha := Ex_ha.wr W5
  have Zs := Nat.le_trans Zs (Wr.size W5)
  have NF5 := Fr.snoc X5 NF3 ga
  have K5 := K4.wr W5 (Or.inl (List.mem_of_getElem? (i := 0) rfl))
  exact e_ret0 hGe X5 hx hrt hlk (hb hby d1_18) e5 (by decide) (by decide) (⟨sa, ha, rfl, NF5, K5, sz_sa, sz_ha, ne_sa_ha, ⟨Ex_a, Ex_ha, F_shares_a, F_held_a, F_size_a, V_sa, V_ha⟩⟩)

def Q_rmSh4 (Z : State) (a sa ha : Addr) (sh : Int32 → UInt64) (hd : Int32 → Int32) (sz j : Int32) (xx : UInt64) (h0 : Heap) (n0 : Nat) (v : Option Value) (h : Heap) (L : List Loc) : Prop := v = some (.double xx) ∧ Fr n0 L ∧ h = h0
set_option maxRecDepth 65536 in
set_option maxHeartbeats 40000000 in
theorem rmSh4 (l : Launch) (Z : State) (a0 : Array Value) (hw : ∀ d ∈ tables_1, d.before a0 Z = true) (ws : List Jvm.Cond) (a sa ha : Addr) (sh : Int32 → UInt64) (hd : Int32 → Int32) (sz j : Int32) (xx : UInt64) (h0 : Heap) (n0 : Nat) (Zs : n0 ≤ h0.size) (NQ : NS4 Z h0 a sa ha sz sh hd) (DD : Dis n0 a sa ha) (ij : In4 j) (hxx : sh j = xx) :
    Con l (⟨"org/termsieve/mapping/Shares", "share", "(I)D"⟩ : MethodName) prog_78_method_5_code 2 (some .double) ws ({ frames := 0, cells := 0, slots := 0, locals := 0 } : Room) Z #[(.ref a), (.int j)] h0 ({ frames := 0, cells := 0, slots := 0, locals := 0 } : Room).cells ({ frames := 0, cells := 0, slots := 0, locals := 0 } : Room).slots (Q_rmSh4 Z a sa ha sh hd sz j xx h0 n0) := by
  refine Con.of (Ls := #[.val (.ref a), .val (.int j)]) (plainFor_of_name (by first | (simp [plainName, overriddenIn]; done) | decide +kernel)) (fun m => by first | (simp [entryFrame, mkF, argsToLocals, Value.category]; done) | rfl) ?_
  intro p e s m below meth c s₁ G hGe hG hx hby hml hown hnm hrt hlk hZ X0 e0
  have hown : s.vm.findClass "org/termsieve/mapping/Shares" = some m.cls := hown
  have hnm : meth.name = "share" := hnm
  have NF0 := Fr.nil n0
  obtain ⟨Ex_a, Ex_ha, F_shares_a, F_held_a, F_size_a, V_sa, V_ha⟩ := NQ
  obtain ⟨ga, gsa, gha, d1, d2, d3⟩ := DD
  refine g_aloadN hG X0 hx (hb hby d14_0) (pc' := 1) rfl rfl rfl ?_
  refine g_getF hG X0 hx hZ hown (wd hw 10 rfl) Via.refl e0 F_shares_a (hb hby d14_1) (pc' := 4) rfl ?_
  intro T1 X1 e1
  refine g_iloadN hG X1 hx (hb hby d14_4) (pc' := 5) rfl rfl ?_
  refine g_daload hG X1 hx hZ e1 V_sa (j := j) (v := (.double (sh j))) (in4_nn ij) (in4_atd ij rfl) (hb hby d14_5) (pc' := 6) rfl ?_
  exact e_retD hGe X1 hx hrt hlk (hb hby d14_6) e1 (by decide) (by decide) (⟨by rw [hxx], NF0, rfl⟩)

def Q_rmAt4_0 (Z : State) (a sa ha : Addr) (sh : Int32 → UInt64) (hd : Int32 → Int32) (sz kk : Int32) (vv xx : UInt64) (h0 : Heap) (n0 : Nat) (v : Option Value) (h : Heap) (L : List Loc) : Prop := v = some (.int 1) ∧ Fr n0 L ∧ h = h0
set_option maxRecDepth 65536 in
set_option maxHeartbeats 40000000 in
theorem rmAt4_0 (l : Launch) (Z : State) (a0 : Array Value) (hw : ∀ d ∈ tables_1, d.before a0 Z = true) (ws : List Jvm.Cond) (a sa ha : Addr) (sh : Int32 → UInt64) (hd : Int32 → Int32) (sz kk : Int32) (vv xx : UInt64) (h0 : Heap) (n0 : Nat) (Zs : n0 ≤ h0.size) (NQ : NS4 Z h0 a sa ha sz sh hd) (DD : Dis n0 a sa ha) (hxx : sh (0 : Int32) = xx) (hc : ((0 : Int32) = kk ∧ FP.dcmp xx vv = some .eq) ∨ (¬ (0 : Int32) = kk ∧ FP.dcmp xx 0 = some .eq)) :
    Con l (⟨"org/termsieve/mapping/SharesClearPinLaw", "at", "(Lorg/termsieve/mapping/Shares;IIID)Z"⟩ : MethodName) method_3_code 8 (some .boolean) ws ({ frames := 1, cells := 0, slots := 0, locals := 16 } : Room) Z #[(.ref a), (.int 0), (.int 4), (.int kk), (.double vv)] h0 ({ frames := 1, cells := 0, slots := 0, locals := 16 } : Room).cells ({ frames := 1, cells := 0, slots := 0, locals := 16 } : Room).slots (Q_rmAt4_0 Z a sa ha sh hd sz kk vv xx h0 n0) := by
  refine Con.of (Ls := #[.val (.ref a), .val (.int 0), .val (.int 4), .val (.int kk), .val (.double vv), .second, .unset, .unset]) (plainFor_of_name (by first | (simp [plainName, overriddenIn]; done) | decide +kernel)) (fun m => by first | (simp [entryFrame, mkF, argsToLocals, Value.category]; done) | rfl) ?_
  intro p e s m below meth c s₁ G hGe hG hx hby hml hown hnm hrt hlk hZ X0 e0
  have hown : s.vm.findClass "org/termsieve/mapping/SharesClearPinLaw" = some m.cls := hown
  have hnm : meth.name = "at" := hnm
  have NF0 := Fr.nil n0
  obtain ⟨Ex_a, Ex_ha, F_shares_a, F_held_a, F_size_a, V_sa, V_ha⟩ := NQ
  obtain ⟨ga, gsa, gha, d1, d2, d3⟩ := DD
  rcases hc with ⟨c1, c2⟩ | ⟨c1, c2⟩
  · skip
    refine g_iloadN hG X0 hx (hb hby d13_0) (pc' := 1) rfl rfl ?_
    refine g_iloadN hG X0 hx (hb hby d13_1) (pc' := 2) rfl rfl ?_
    refine g_icmpYes hG X0 hx (hb hby d13_2) (pc' := 7) (by decide) (by decide) (by decide) ?_
    refine g_iloadN hG X0 hx (hb hby d13_7) (pc' := 8) rfl rfl ?_
    refine g_iloadN hG X0 hx (hb hby d13_8) (pc' := 9) rfl rfl ?_
    refine g_icmpNo hG X0 hx (hb hby d13_9) (pc' := 12) ((teq c1).2) rfl ?_
    refine g_dload hG X0 hx (hb hby d13_12) (pc' := 14) rfl rfl ?_
    refine g_goto hG X0 hx (hb hby d13_14) (pc' := 18) (by decide) (by decide) ?_
    refine g_dstore hG X0 hx (hb hby d13_18) (pc' := 20) rfl (Ls' := #[.val (.ref a), .val (.int 0), .val (.int 4), .val (.int kk), .val (.double vv), .second, .val (.double vv), .second]) rfl ?_
    refine g_aloadN hG X0 hx (hb hby d13_20) (pc' := 21) rfl rfl rfl ?_
    refine g_iloadN hG X0 hx (hb hby d13_21) (pc' := 22) rfl rfl ?_
    refine g_callV hG X0 hx hZ (y := (⟨"org/termsieve/mapping/Shares", "share", "(I)D"⟩ : MethodName)) 0 hown (wd hw 73 rfl) (wd hw 74 rfl) (wd hw 76 rfl) (wd hw 75 rfl) (wd hw 2 rfl) (wd hw 77 rfl) (by decide) (rmSh4 l Z a0 hw [] a sa ha sh hd sz (0 : Int32) xx h0 n0 Zs ⟨Ex_a, Ex_ha, F_shares_a, F_held_a, F_size_a, V_sa, V_ha⟩ ⟨ga, gsa, gha, d1, d2, d3⟩ in4_0 hxx) (by decide) (by decide) (by rw [hml]; rfl) pd_6 rfl (argsL := [(.int 0)]) (rest := []) rfl rfl (Nat.le_of_eq rfl) (hb hby d13_22) e0 Ex_a (by decide) (by decide) (pc' := 25) rfl ?_
    intro T1 rv1 L1 X1 hQ1
    obtain ⟨rfl, Nq1, eh1⟩ := hQ1
    have NF1 := Fr.app NF0 Nq1
    show G (T1.setTop (mkF m 25 _ [(.double xx)]))
    refine g_dload hG X1 hx (hb hby d13_25) (pc' := 27) rfl rfl ?_
    obtain ⟨v27, q27⟩ : ∃ zz : Int32, cmpValue (FP.dcmp xx vv) .l = zz := ⟨_, rfl⟩
    refine g_dcmp hG X1 hx (hb hby d13_27) (pc' := 28) rfl q27 ?_
    refine g_ifNo hG X1 hx (hb hby d13_28) (pc' := 31) (by rw [← q27, c2]; rfl) rfl ?_
    refine g_iconst hG X1 hx (hb hby d13_31) (pc' := 32) rfl (v := (1 : Int32)) rfl ?_
    refine g_goto hG X1 hx (hb hby d13_32) (pc' := 36) (by decide) (by decide) ?_
    exact e_retZ hGe X1 hx hrt hlk (hb hby d13_36) (Or.inr rfl) eh1 (by decide) (by decide) (⟨rfl, NF1, rfl⟩)
  · skip
    refine g_iloadN hG X0 hx (hb hby d13_0) (pc' := 1) rfl rfl ?_
    refine g_iloadN hG X0 hx (hb hby d13_1) (pc' := 2) rfl rfl ?_
    refine g_icmpYes hG X0 hx (hb hby d13_2) (pc' := 7) (by decide) (by decide) (by decide) ?_
    refine g_iloadN hG X0 hx (hb hby d13_7) (pc' := 8) rfl rfl ?_
    refine g_iloadN hG X0 hx (hb hby d13_8) (pc' := 9) rfl rfl ?_
    refine g_icmpYes hG X0 hx (hb hby d13_9) (pc' := 17) ((feq c1).2) (by decide) (by decide) ?_
    refine g_dconst0 hG X0 hx (hb hby d13_17) (pc' := 18) rfl (v := (0 : UInt64)) rfl ?_
    refine g_dstore hG X0 hx (hb hby d13_18) (pc' := 20) rfl (Ls' := #[.val (.ref a), .val (.int 0), .val (.int 4), .val (.int kk), .val (.double vv), .second, .val (.double 0), .second]) rfl ?_
    refine g_aloadN hG X0 hx (hb hby d13_20) (pc' := 21) rfl rfl rfl ?_
    refine g_iloadN hG X0 hx (hb hby d13_21) (pc' := 22) rfl rfl ?_
    refine g_callV hG X0 hx hZ (y := (⟨"org/termsieve/mapping/Shares", "share", "(I)D"⟩ : MethodName)) 0 hown (wd hw 73 rfl) (wd hw 74 rfl) (wd hw 76 rfl) (wd hw 75 rfl) (wd hw 2 rfl) (wd hw 77 rfl) (by decide) (rmSh4 l Z a0 hw [] a sa ha sh hd sz (0 : Int32) xx h0 n0 Zs ⟨Ex_a, Ex_ha, F_shares_a, F_held_a, F_size_a, V_sa, V_ha⟩ ⟨ga, gsa, gha, d1, d2, d3⟩ in4_0 hxx) (by decide) (by decide) (by rw [hml]; rfl) pd_6 rfl (argsL := [(.int 0)]) (rest := []) rfl rfl (Nat.le_of_eq rfl) (hb hby d13_22) e0 Ex_a (by decide) (by decide) (pc' := 25) rfl ?_
    intro T2 rv2 L2 X2 hQ2
    obtain ⟨rfl, Nq2, eh2⟩ := hQ2
    have NF2 := Fr.app NF0 Nq2
    show G (T2.setTop (mkF m 25 _ [(.double xx)]))
    refine g_dload hG X2 hx (hb hby d13_25) (pc' := 27) rfl rfl ?_
    obtain ⟨v27, q27⟩ : ∃ zz : Int32, cmpValue (FP.dcmp xx (0 : UInt64)) .l = zz := ⟨_, rfl⟩
    refine g_dcmp hG X2 hx (hb hby d13_27) (pc' := 28) rfl q27 ?_
    refine g_ifNo hG X2 hx (hb hby d13_28) (pc' := 31) (by rw [← q27, c2]; rfl) rfl ?_
    refine g_iconst hG X2 hx (hb hby d13_31) (pc' := 32) rfl (v := (1 : Int32)) rfl ?_
    refine g_goto hG X2 hx (hb hby d13_32) (pc' := 36) (by decide) (by decide) ?_
    exact e_retZ hGe X2 hx hrt hlk (hb hby d13_36) (Or.inr rfl) eh2 (by decide) (by decide) (⟨rfl, NF2, rfl⟩)

def Q_rmAt4_1 (Z : State) (a sa ha : Addr) (sh : Int32 → UInt64) (hd : Int32 → Int32) (sz kk : Int32) (vv xx : UInt64) (h0 : Heap) (n0 : Nat) (v : Option Value) (h : Heap) (L : List Loc) : Prop := v = some (.int 1) ∧ Fr n0 L ∧ h = h0
set_option maxRecDepth 65536 in
set_option maxHeartbeats 40000000 in
theorem rmAt4_1 (l : Launch) (Z : State) (a0 : Array Value) (hw : ∀ d ∈ tables_1, d.before a0 Z = true) (ws : List Jvm.Cond) (a sa ha : Addr) (sh : Int32 → UInt64) (hd : Int32 → Int32) (sz kk : Int32) (vv xx : UInt64) (h0 : Heap) (n0 : Nat) (Zs : n0 ≤ h0.size) (NQ : NS4 Z h0 a sa ha sz sh hd) (DD : Dis n0 a sa ha) (hxx : sh (1 : Int32) = xx) (hc : ((1 : Int32) = kk ∧ FP.dcmp xx vv = some .eq) ∨ (¬ (1 : Int32) = kk ∧ FP.dcmp xx 0 = some .eq)) :
    Con l (⟨"org/termsieve/mapping/SharesClearPinLaw", "at", "(Lorg/termsieve/mapping/Shares;IIID)Z"⟩ : MethodName) method_3_code 8 (some .boolean) ws ({ frames := 1, cells := 0, slots := 0, locals := 16 } : Room) Z #[(.ref a), (.int 1), (.int 4), (.int kk), (.double vv)] h0 ({ frames := 1, cells := 0, slots := 0, locals := 16 } : Room).cells ({ frames := 1, cells := 0, slots := 0, locals := 16 } : Room).slots (Q_rmAt4_1 Z a sa ha sh hd sz kk vv xx h0 n0) := by
  refine Con.of (Ls := #[.val (.ref a), .val (.int 1), .val (.int 4), .val (.int kk), .val (.double vv), .second, .unset, .unset]) (plainFor_of_name (by first | (simp [plainName, overriddenIn]; done) | decide +kernel)) (fun m => by first | (simp [entryFrame, mkF, argsToLocals, Value.category]; done) | rfl) ?_
  intro p e s m below meth c s₁ G hGe hG hx hby hml hown hnm hrt hlk hZ X0 e0
  have hown : s.vm.findClass "org/termsieve/mapping/SharesClearPinLaw" = some m.cls := hown
  have hnm : meth.name = "at" := hnm
  have NF0 := Fr.nil n0
  obtain ⟨Ex_a, Ex_ha, F_shares_a, F_held_a, F_size_a, V_sa, V_ha⟩ := NQ
  obtain ⟨ga, gsa, gha, d1, d2, d3⟩ := DD
  rcases hc with ⟨c1, c2⟩ | ⟨c1, c2⟩
  · skip
    refine g_iloadN hG X0 hx (hb hby d13_0) (pc' := 1) rfl rfl ?_
    refine g_iloadN hG X0 hx (hb hby d13_1) (pc' := 2) rfl rfl ?_
    refine g_icmpYes hG X0 hx (hb hby d13_2) (pc' := 7) (by decide) (by decide) (by decide) ?_
    refine g_iloadN hG X0 hx (hb hby d13_7) (pc' := 8) rfl rfl ?_
    refine g_iloadN hG X0 hx (hb hby d13_8) (pc' := 9) rfl rfl ?_
    refine g_icmpNo hG X0 hx (hb hby d13_9) (pc' := 12) ((teq c1).2) rfl ?_
    refine g_dload hG X0 hx (hb hby d13_12) (pc' := 14) rfl rfl ?_
    refine g_goto hG X0 hx (hb hby d13_14) (pc' := 18) (by decide) (by decide) ?_
    refine g_dstore hG X0 hx (hb hby d13_18) (pc' := 20) rfl (Ls' := #[.val (.ref a), .val (.int 1), .val (.int 4), .val (.int kk), .val (.double vv), .second, .val (.double vv), .second]) rfl ?_
    refine g_aloadN hG X0 hx (hb hby d13_20) (pc' := 21) rfl rfl rfl ?_
    refine g_iloadN hG X0 hx (hb hby d13_21) (pc' := 22) rfl rfl ?_
    refine g_callV hG X0 hx hZ (y := (⟨"org/termsieve/mapping/Shares", "share", "(I)D"⟩ : MethodName)) 0 hown (wd hw 73 rfl) (wd hw 74 rfl) (wd hw 76 rfl) (wd hw 75 rfl) (wd hw 2 rfl) (wd hw 77 rfl) (by decide) (rmSh4 l Z a0 hw [] a sa ha sh hd sz (1 : Int32) xx h0 n0 Zs ⟨Ex_a, Ex_ha, F_shares_a, F_held_a, F_size_a, V_sa, V_ha⟩ ⟨ga, gsa, gha, d1, d2, d3⟩ in4_1 hxx) (by decide) (by decide) (by rw [hml]; rfl) pd_6 rfl (argsL := [(.int 1)]) (rest := []) rfl rfl (Nat.le_of_eq rfl) (hb hby d13_22) e0 Ex_a (by decide) (by decide) (pc' := 25) rfl ?_
    intro T1 rv1 L1 X1 hQ1
    obtain ⟨rfl, Nq1, eh1⟩ := hQ1
    have NF1 := Fr.app NF0 Nq1
    show G (T1.setTop (mkF m 25 _ [(.double xx)]))
    refine g_dload hG X1 hx (hb hby d13_25) (pc' := 27) rfl rfl ?_
    obtain ⟨v27, q27⟩ : ∃ zz : Int32, cmpValue (FP.dcmp xx vv) .l = zz := ⟨_, rfl⟩
    refine g_dcmp hG X1 hx (hb hby d13_27) (pc' := 28) rfl q27 ?_
    refine g_ifNo hG X1 hx (hb hby d13_28) (pc' := 31) (by rw [← q27, c2]; rfl) rfl ?_
    refine g_iconst hG X1 hx (hb hby d13_31) (pc' := 32) rfl (v := (1 : Int32)) rfl ?_
    refine g_goto hG X1 hx (hb hby d13_32) (pc' := 36) (by decide) (by decide) ?_
    exact e_retZ hGe X1 hx hrt hlk (hb hby d13_36) (Or.inr rfl) eh1 (by decide) (by decide) (⟨rfl, NF1, rfl⟩)
  · skip
    refine g_iloadN hG X0 hx (hb hby d13_0) (pc' := 1) rfl rfl ?_
    refine g_iloadN hG X0 hx (hb hby d13_1) (pc' := 2) rfl rfl ?_
    refine g_icmpYes hG X0 hx (hb hby d13_2) (pc' := 7) (by decide) (by decide) (by decide) ?_
    refine g_iloadN hG X0 hx (hb hby d13_7) (pc' := 8) rfl rfl ?_
    refine g_iloadN hG X0 hx (hb hby d13_8) (pc' := 9) rfl rfl ?_
    refine g_icmpYes hG X0 hx (hb hby d13_9) (pc' := 17) ((feq c1).2) (by decide) (by decide) ?_
    refine g_dconst0 hG X0 hx (hb hby d13_17) (pc' := 18) rfl (v := (0 : UInt64)) rfl ?_
    refine g_dstore hG X0 hx (hb hby d13_18) (pc' := 20) rfl (Ls' := #[.val (.ref a), .val (.int 1), .val (.int 4), .val (.int kk), .val (.double vv), .second, .val (.double 0), .second]) rfl ?_
    refine g_aloadN hG X0 hx (hb hby d13_20) (pc' := 21) rfl rfl rfl ?_
    refine g_iloadN hG X0 hx (hb hby d13_21) (pc' := 22) rfl rfl ?_
    refine g_callV hG X0 hx hZ (y := (⟨"org/termsieve/mapping/Shares", "share", "(I)D"⟩ : MethodName)) 0 hown (wd hw 73 rfl) (wd hw 74 rfl) (wd hw 76 rfl) (wd hw 75 rfl) (wd hw 2 rfl) (wd hw 77 rfl) (by decide) (rmSh4 l Z a0 hw [] a sa ha sh hd sz (1 : Int32) xx h0 n0 Zs ⟨Ex_a, Ex_ha, F_shares_a, F_held_a, F_size_a, V_sa, V_ha⟩ ⟨ga, gsa, gha, d1, d2, d3⟩ in4_1 hxx) (by decide) (by decide) (by rw [hml]; rfl) pd_6 rfl (argsL := [(.int 1)]) (rest := []) rfl rfl (Nat.le_of_eq rfl) (hb hby d13_22) e0 Ex_a (by decide) (by decide) (pc' := 25) rfl ?_
    intro T2 rv2 L2 X2 hQ2
    obtain ⟨rfl, Nq2, eh2⟩ := hQ2
    have NF2 := Fr.app NF0 Nq2
    show G (T2.setTop (mkF m 25 _ [(.double xx)]))
    refine g_dload hG X2 hx (hb hby d13_25) (pc' := 27) rfl rfl ?_
    obtain ⟨v27, q27⟩ : ∃ zz : Int32, cmpValue (FP.dcmp xx (0 : UInt64)) .l = zz := ⟨_, rfl⟩
    refine g_dcmp hG X2 hx (hb hby d13_27) (pc' := 28) rfl q27 ?_
    refine g_ifNo hG X2 hx (hb hby d13_28) (pc' := 31) (by rw [← q27, c2]; rfl) rfl ?_
    refine g_iconst hG X2 hx (hb hby d13_31) (pc' := 32) rfl (v := (1 : Int32)) rfl ?_
    refine g_goto hG X2 hx (hb hby d13_32) (pc' := 36) (by decide) (by decide) ?_
    exact e_retZ hGe X2 hx hrt hlk (hb hby d13_36) (Or.inr rfl) eh2 (by decide) (by decide) (⟨rfl, NF2, rfl⟩)

def Q_rmAt4_2 (Z : State) (a sa ha : Addr) (sh : Int32 → UInt64) (hd : Int32 → Int32) (sz kk : Int32) (vv xx : UInt64) (h0 : Heap) (n0 : Nat) (v : Option Value) (h : Heap) (L : List Loc) : Prop := v = some (.int 1) ∧ Fr n0 L ∧ h = h0
set_option maxRecDepth 65536 in
set_option maxHeartbeats 40000000 in
theorem rmAt4_2 (l : Launch) (Z : State) (a0 : Array Value) (hw : ∀ d ∈ tables_1, d.before a0 Z = true) (ws : List Jvm.Cond) (a sa ha : Addr) (sh : Int32 → UInt64) (hd : Int32 → Int32) (sz kk : Int32) (vv xx : UInt64) (h0 : Heap) (n0 : Nat) (Zs : n0 ≤ h0.size) (NQ : NS4 Z h0 a sa ha sz sh hd) (DD : Dis n0 a sa ha) (hxx : sh (2 : Int32) = xx) (hc : ((2 : Int32) = kk ∧ FP.dcmp xx vv = some .eq) ∨ (¬ (2 : Int32) = kk ∧ FP.dcmp xx 0 = some .eq)) :
    Con l (⟨"org/termsieve/mapping/SharesClearPinLaw", "at", "(Lorg/termsieve/mapping/Shares;IIID)Z"⟩ : MethodName) method_3_code 8 (some .boolean) ws ({ frames := 1, cells := 0, slots := 0, locals := 16 } : Room) Z #[(.ref a), (.int 2), (.int 4), (.int kk), (.double vv)] h0 ({ frames := 1, cells := 0, slots := 0, locals := 16 } : Room).cells ({ frames := 1, cells := 0, slots := 0, locals := 16 } : Room).slots (Q_rmAt4_2 Z a sa ha sh hd sz kk vv xx h0 n0) := by
  refine Con.of (Ls := #[.val (.ref a), .val (.int 2), .val (.int 4), .val (.int kk), .val (.double vv), .second, .unset, .unset]) (plainFor_of_name (by first | (simp [plainName, overriddenIn]; done) | decide +kernel)) (fun m => by first | (simp [entryFrame, mkF, argsToLocals, Value.category]; done) | rfl) ?_
  intro p e s m below meth c s₁ G hGe hG hx hby hml hown hnm hrt hlk hZ X0 e0
  have hown : s.vm.findClass "org/termsieve/mapping/SharesClearPinLaw" = some m.cls := hown
  have hnm : meth.name = "at" := hnm
  have NF0 := Fr.nil n0
  obtain ⟨Ex_a, Ex_ha, F_shares_a, F_held_a, F_size_a, V_sa, V_ha⟩ := NQ
  obtain ⟨ga, gsa, gha, d1, d2, d3⟩ := DD
  rcases hc with ⟨c1, c2⟩ | ⟨c1, c2⟩
  · skip
    refine g_iloadN hG X0 hx (hb hby d13_0) (pc' := 1) rfl rfl ?_
    refine g_iloadN hG X0 hx (hb hby d13_1) (pc' := 2) rfl rfl ?_
    refine g_icmpYes hG X0 hx (hb hby d13_2) (pc' := 7) (by decide) (by decide) (by decide) ?_
    refine g_iloadN hG X0 hx (hb hby d13_7) (pc' := 8) rfl rfl ?_
    refine g_iloadN hG X0 hx (hb hby d13_8) (pc' := 9) rfl rfl ?_
    refine g_icmpNo hG X0 hx (hb hby d13_9) (pc' := 12) ((teq c1).2) rfl ?_
    refine g_dload hG X0 hx (hb hby d13_12) (pc' := 14) rfl rfl ?_
    refine g_goto hG X0 hx (hb hby d13_14) (pc' := 18) (by decide) (by decide) ?_
    refine g_dstore hG X0 hx (hb hby d13_18) (pc' := 20) rfl (Ls' := #[.val (.ref a), .val (.int 2), .val (.int 4), .val (.int kk), .val (.double vv), .second, .val (.double vv), .second]) rfl ?_
    refine g_aloadN hG X0 hx (hb hby d13_20) (pc' := 21) rfl rfl rfl ?_
    refine g_iloadN hG X0 hx (hb hby d13_21) (pc' := 22) rfl rfl ?_
    refine g_callV hG X0 hx hZ (y := (⟨"org/termsieve/mapping/Shares", "share", "(I)D"⟩ : MethodName)) 0 hown (wd hw 73 rfl) (wd hw 74 rfl) (wd hw 76 rfl) (wd hw 75 rfl) (wd hw 2 rfl) (wd hw 77 rfl) (by decide) (rmSh4 l Z a0 hw [] a sa ha sh hd sz (2 : Int32) xx h0 n0 Zs ⟨Ex_a, Ex_ha, F_shares_a, F_held_a, F_size_a, V_sa, V_ha⟩ ⟨ga, gsa, gha, d1, d2, d3⟩ in4_2 hxx) (by decide) (by decide) (by rw [hml]; rfl) pd_6 rfl (argsL := [(.int 2)]) (rest := []) rfl rfl (Nat.le_of_eq rfl) (hb hby d13_22) e0 Ex_a (by decide) (by decide) (pc' := 25) rfl ?_
    intro T1 rv1 L1 X1 hQ1
    obtain ⟨rfl, Nq1, eh1⟩ := hQ1
    have NF1 := Fr.app NF0 Nq1
    show G (T1.setTop (mkF m 25 _ [(.double xx)]))
    refine g_dload hG X1 hx (hb hby d13_25) (pc' := 27) rfl rfl ?_
    obtain ⟨v27, q27⟩ : ∃ zz : Int32, cmpValue (FP.dcmp xx vv) .l = zz := ⟨_, rfl⟩
    refine g_dcmp hG X1 hx (hb hby d13_27) (pc' := 28) rfl q27 ?_
    refine g_ifNo hG X1 hx (hb hby d13_28) (pc' := 31) (by rw [← q27, c2]; rfl) rfl ?_
    refine g_iconst hG X1 hx (hb hby d13_31) (pc' := 32) rfl (v := (1 : Int32)) rfl ?_
    refine g_goto hG X1 hx (hb hby d13_32) (pc' := 36) (by decide) (by decide) ?_
    exact e_retZ hGe X1 hx hrt hlk (hb hby d13_36) (Or.inr rfl) eh1 (by decide) (by decide) (⟨rfl, NF1, rfl⟩)
  · skip
    refine g_iloadN hG X0 hx (hb hby d13_0) (pc' := 1) rfl rfl ?_
    refine g_iloadN hG X0 hx (hb hby d13_1) (pc' := 2) rfl rfl ?_
    refine g_icmpYes hG X0 hx (hb hby d13_2) (pc' := 7) (by decide) (by decide) (by decide) ?_
    refine g_iloadN hG X0 hx (hb hby d13_7) (pc' := 8) rfl rfl ?_
    refine g_iloadN hG X0 hx (hb hby d13_8) (pc' := 9) rfl rfl ?_
    refine g_icmpYes hG X0 hx (hb hby d13_9) (pc' := 17) ((feq c1).2) (by decide) (by decide) ?_
    refine g_dconst0 hG X0 hx (hb hby d13_17) (pc' := 18) rfl (v := (0 : UInt64)) rfl ?_
    refine g_dstore hG X0 hx (hb hby d13_18) (pc' := 20) rfl (Ls' := #[.val (.ref a), .val (.int 2), .val (.int 4), .val (.int kk), .val (.double vv), .second, .val (.double 0), .second]) rfl ?_
    refine g_aloadN hG X0 hx (hb hby d13_20) (pc' := 21) rfl rfl rfl ?_
    refine g_iloadN hG X0 hx (hb hby d13_21) (pc' := 22) rfl rfl ?_
    refine g_callV hG X0 hx hZ (y := (⟨"org/termsieve/mapping/Shares", "share", "(I)D"⟩ : MethodName)) 0 hown (wd hw 73 rfl) (wd hw 74 rfl) (wd hw 76 rfl) (wd hw 75 rfl) (wd hw 2 rfl) (wd hw 77 rfl) (by decide) (rmSh4 l Z a0 hw [] a sa ha sh hd sz (2 : Int32) xx h0 n0 Zs ⟨Ex_a, Ex_ha, F_shares_a, F_held_a, F_size_a, V_sa, V_ha⟩ ⟨ga, gsa, gha, d1, d2, d3⟩ in4_2 hxx) (by decide) (by decide) (by rw [hml]; rfl) pd_6 rfl (argsL := [(.int 2)]) (rest := []) rfl rfl (Nat.le_of_eq rfl) (hb hby d13_22) e0 Ex_a (by decide) (by decide) (pc' := 25) rfl ?_
    intro T2 rv2 L2 X2 hQ2
    obtain ⟨rfl, Nq2, eh2⟩ := hQ2
    have NF2 := Fr.app NF0 Nq2
    show G (T2.setTop (mkF m 25 _ [(.double xx)]))
    refine g_dload hG X2 hx (hb hby d13_25) (pc' := 27) rfl rfl ?_
    obtain ⟨v27, q27⟩ : ∃ zz : Int32, cmpValue (FP.dcmp xx (0 : UInt64)) .l = zz := ⟨_, rfl⟩
    refine g_dcmp hG X2 hx (hb hby d13_27) (pc' := 28) rfl q27 ?_
    refine g_ifNo hG X2 hx (hb hby d13_28) (pc' := 31) (by rw [← q27, c2]; rfl) rfl ?_
    refine g_iconst hG X2 hx (hb hby d13_31) (pc' := 32) rfl (v := (1 : Int32)) rfl ?_
    refine g_goto hG X2 hx (hb hby d13_32) (pc' := 36) (by decide) (by decide) ?_
    exact e_retZ hGe X2 hx hrt hlk (hb hby d13_36) (Or.inr rfl) eh2 (by decide) (by decide) (⟨rfl, NF2, rfl⟩)

def Q_rmAt4_3 (Z : State) (a sa ha : Addr) (sh : Int32 → UInt64) (hd : Int32 → Int32) (sz kk : Int32) (vv xx : UInt64) (h0 : Heap) (n0 : Nat) (v : Option Value) (h : Heap) (L : List Loc) : Prop := v = some (.int 1) ∧ Fr n0 L ∧ h = h0
set_option maxRecDepth 65536 in
set_option maxHeartbeats 40000000 in
theorem rmAt4_3 (l : Launch) (Z : State) (a0 : Array Value) (hw : ∀ d ∈ tables_1, d.before a0 Z = true) (ws : List Jvm.Cond) (a sa ha : Addr) (sh : Int32 → UInt64) (hd : Int32 → Int32) (sz kk : Int32) (vv xx : UInt64) (h0 : Heap) (n0 : Nat) (Zs : n0 ≤ h0.size) (NQ : NS4 Z h0 a sa ha sz sh hd) (DD : Dis n0 a sa ha) (hxx : sh (3 : Int32) = xx) (hc : ((3 : Int32) = kk ∧ FP.dcmp xx vv = some .eq) ∨ (¬ (3 : Int32) = kk ∧ FP.dcmp xx 0 = some .eq)) :
    Con l (⟨"org/termsieve/mapping/SharesClearPinLaw", "at", "(Lorg/termsieve/mapping/Shares;IIID)Z"⟩ : MethodName) method_3_code 8 (some .boolean) ws ({ frames := 1, cells := 0, slots := 0, locals := 16 } : Room) Z #[(.ref a), (.int 3), (.int 4), (.int kk), (.double vv)] h0 ({ frames := 1, cells := 0, slots := 0, locals := 16 } : Room).cells ({ frames := 1, cells := 0, slots := 0, locals := 16 } : Room).slots (Q_rmAt4_3 Z a sa ha sh hd sz kk vv xx h0 n0) := by
  refine Con.of (Ls := #[.val (.ref a), .val (.int 3), .val (.int 4), .val (.int kk), .val (.double vv), .second, .unset, .unset]) (plainFor_of_name (by first | (simp [plainName, overriddenIn]; done) | decide +kernel)) (fun m => by first | (simp [entryFrame, mkF, argsToLocals, Value.category]; done) | rfl) ?_
  intro p e s m below meth c s₁ G hGe hG hx hby hml hown hnm hrt hlk hZ X0 e0
  have hown : s.vm.findClass "org/termsieve/mapping/SharesClearPinLaw" = some m.cls := hown
  have hnm : meth.name = "at" := hnm
  have NF0 := Fr.nil n0
  obtain ⟨Ex_a, Ex_ha, F_shares_a, F_held_a, F_size_a, V_sa, V_ha⟩ := NQ
  obtain ⟨ga, gsa, gha, d1, d2, d3⟩ := DD
  rcases hc with ⟨c1, c2⟩ | ⟨c1, c2⟩
  · skip
    refine g_iloadN hG X0 hx (hb hby d13_0) (pc' := 1) rfl rfl ?_
    refine g_iloadN hG X0 hx (hb hby d13_1) (pc' := 2) rfl rfl ?_
    refine g_icmpYes hG X0 hx (hb hby d13_2) (pc' := 7) (by decide) (by decide) (by decide) ?_
    refine g_iloadN hG X0 hx (hb hby d13_7) (pc' := 8) rfl rfl ?_
    refine g_iloadN hG X0 hx (hb hby d13_8) (pc' := 9) rfl rfl ?_
    refine g_icmpNo hG X0 hx (hb hby d13_9) (pc' := 12) ((teq c1).2) rfl ?_
    refine g_dload hG X0 hx (hb hby d13_12) (pc' := 14) rfl rfl ?_
    refine g_goto hG X0 hx (hb hby d13_14) (pc' := 18) (by decide) (by decide) ?_
    refine g_dstore hG X0 hx (hb hby d13_18) (pc' := 20) rfl (Ls' := #[.val (.ref a), .val (.int 3), .val (.int 4), .val (.int kk), .val (.double vv), .second, .val (.double vv), .second]) rfl ?_
    refine g_aloadN hG X0 hx (hb hby d13_20) (pc' := 21) rfl rfl rfl ?_
    refine g_iloadN hG X0 hx (hb hby d13_21) (pc' := 22) rfl rfl ?_
    refine g_callV hG X0 hx hZ (y := (⟨"org/termsieve/mapping/Shares", "share", "(I)D"⟩ : MethodName)) 0 hown (wd hw 73 rfl) (wd hw 74 rfl) (wd hw 76 rfl) (wd hw 75 rfl) (wd hw 2 rfl) (wd hw 77 rfl) (by decide) (rmSh4 l Z a0 hw [] a sa ha sh hd sz (3 : Int32) xx h0 n0 Zs ⟨Ex_a, Ex_ha, F_shares_a, F_held_a, F_size_a, V_sa, V_ha⟩ ⟨ga, gsa, gha, d1, d2, d3⟩ in4_3 hxx) (by decide) (by decide) (by rw [hml]; rfl) pd_6 rfl (argsL := [(.int 3)]) (rest := []) rfl rfl (Nat.le_of_eq rfl) (hb hby d13_22) e0 Ex_a (by decide) (by decide) (pc' := 25) rfl ?_
    intro T1 rv1 L1 X1 hQ1
    obtain ⟨rfl, Nq1, eh1⟩ := hQ1
    have NF1 := Fr.app NF0 Nq1
    show G (T1.setTop (mkF m 25 _ [(.double xx)]))
    refine g_dload hG X1 hx (hb hby d13_25) (pc' := 27) rfl rfl ?_
    obtain ⟨v27, q27⟩ : ∃ zz : Int32, cmpValue (FP.dcmp xx vv) .l = zz := ⟨_, rfl⟩
    refine g_dcmp hG X1 hx (hb hby d13_27) (pc' := 28) rfl q27 ?_
    refine g_ifNo hG X1 hx (hb hby d13_28) (pc' := 31) (by rw [← q27, c2]; rfl) rfl ?_
    refine g_iconst hG X1 hx (hb hby d13_31) (pc' := 32) rfl (v := (1 : Int32)) rfl ?_
    refine g_goto hG X1 hx (hb hby d13_32) (pc' := 36) (by decide) (by decide) ?_
    exact e_retZ hGe X1 hx hrt hlk (hb hby d13_36) (Or.inr rfl) eh1 (by decide) (by decide) (⟨rfl, NF1, rfl⟩)
  · skip
    refine g_iloadN hG X0 hx (hb hby d13_0) (pc' := 1) rfl rfl ?_
    refine g_iloadN hG X0 hx (hb hby d13_1) (pc' := 2) rfl rfl ?_
    refine g_icmpYes hG X0 hx (hb hby d13_2) (pc' := 7) (by decide) (by decide) (by decide) ?_
    refine g_iloadN hG X0 hx (hb hby d13_7) (pc' := 8) rfl rfl ?_
    refine g_iloadN hG X0 hx (hb hby d13_8) (pc' := 9) rfl rfl ?_
    refine g_icmpYes hG X0 hx (hb hby d13_9) (pc' := 17) ((feq c1).2) (by decide) (by decide) ?_
    refine g_dconst0 hG X0 hx (hb hby d13_17) (pc' := 18) rfl (v := (0 : UInt64)) rfl ?_
    refine g_dstore hG X0 hx (hb hby d13_18) (pc' := 20) rfl (Ls' := #[.val (.ref a), .val (.int 3), .val (.int 4), .val (.int kk), .val (.double vv), .second, .val (.double 0), .second]) rfl ?_
    refine g_aloadN hG X0 hx (hb hby d13_20) (pc' := 21) rfl rfl rfl ?_
    refine g_iloadN hG X0 hx (hb hby d13_21) (pc' := 22) rfl rfl ?_
    refine g_callV hG X0 hx hZ (y := (⟨"org/termsieve/mapping/Shares", "share", "(I)D"⟩ : MethodName)) 0 hown (wd hw 73 rfl) (wd hw 74 rfl) (wd hw 76 rfl) (wd hw 75 rfl) (wd hw 2 rfl) (wd hw 77 rfl) (by decide) (rmSh4 l Z a0 hw [] a sa ha sh hd sz (3 : Int32) xx h0 n0 Zs ⟨Ex_a, Ex_ha, F_shares_a, F_held_a, F_size_a, V_sa, V_ha⟩ ⟨ga, gsa, gha, d1, d2, d3⟩ in4_3 hxx) (by decide) (by decide) (by rw [hml]; rfl) pd_6 rfl (argsL := [(.int 3)]) (rest := []) rfl rfl (Nat.le_of_eq rfl) (hb hby d13_22) e0 Ex_a (by decide) (by decide) (pc' := 25) rfl ?_
    intro T2 rv2 L2 X2 hQ2
    obtain ⟨rfl, Nq2, eh2⟩ := hQ2
    have NF2 := Fr.app NF0 Nq2
    show G (T2.setTop (mkF m 25 _ [(.double xx)]))
    refine g_dload hG X2 hx (hb hby d13_25) (pc' := 27) rfl rfl ?_
    obtain ⟨v27, q27⟩ : ∃ zz : Int32, cmpValue (FP.dcmp xx (0 : UInt64)) .l = zz := ⟨_, rfl⟩
    refine g_dcmp hG X2 hx (hb hby d13_27) (pc' := 28) rfl q27 ?_
    refine g_ifNo hG X2 hx (hb hby d13_28) (pc' := 31) (by rw [← q27, c2]; rfl) rfl ?_
    refine g_iconst hG X2 hx (hb hby d13_31) (pc' := 32) rfl (v := (1 : Int32)) rfl ?_
    refine g_goto hG X2 hx (hb hby d13_32) (pc' := 36) (by decide) (by decide) ?_
    exact e_retZ hGe X2 hx hrt hlk (hb hby d13_36) (Or.inr rfl) eh2 (by decide) (by decide) (⟨rfl, NF2, rfl⟩)

def Q_rmRa4_0n (Z : State) (a sa ha : Addr) (sh : Int32 → UInt64) (hd : Int32 → Int32) (kk : Int32) (vv mm : UInt64) (h0 : Heap) (n0 : Nat) (v : Option Value) (h : Heap) (L : List Loc) : Prop := v = none ∧ Fr n0 L ∧ Keep h0 h [a, sa, ha] ∧ NS4 Z h a sa ha (1 : Int32) (upd sh kk mm) (upd hd (0 : Int32) kk)
set_option maxRecDepth 65536 in
set_option maxHeartbeats 40000000 in
theorem rmRa4_0n (l : Launch) (Z : State) (a0 : Array Value) (hw : ∀ d ∈ tables_1, d.before a0 Z = true) (ws : List Jvm.Cond) (a sa ha : Addr) (sh : Int32 → UInt64) (hd : Int32 → Int32) (kk : Int32) (vv mm : UInt64) (h0 : Heap) (n0 : Nat) (Zs : n0 ≤ h0.size) (NQ : NS4 Z h0 a sa ha (0 : Int32) sh hd) (DD : Dis n0 a sa ha) (ik : In4 kk) (nv : Jvm.Free.Fl.NoNaN64 vv) (hm : Jvm.Native.java_lang_Math.nans.pick64 true 0 vv = mm) (hxx : sh kk = 0) :
    Con l (⟨"org/termsieve/mapping/Shares", "raise", "(ID)V"⟩ : MethodName) prog_78_method_2_code 4 none ws ({ frames := 1, cells := 0, slots := 0, locals := 40 } : Room) Z #[(.ref a), (.int kk), (.double vv)] h0 ({ frames := 1, cells := 0, slots := 0, locals := 40 } : Room).cells ({ frames := 1, cells := 0, slots := 0, locals := 40 } : Room).slots (Q_rmRa4_0n Z a sa ha sh hd kk vv mm h0 n0) := by
  refine Con.of (Ls := #[.val (.ref a), .val (.int kk), .val (.double vv), .second]) (plainFor_of_name (by first | (simp [plainName, overriddenIn]; done) | decide +kernel)) (fun m => by first | (simp [entryFrame, mkF, argsToLocals, Value.category]; done) | rfl) ?_
  intro p e s m below meth c s₁ G hGe hG hx hby hml hown hnm hrt hlk hZ X0 e0
  have hown : s.vm.findClass "org/termsieve/mapping/Shares" = some m.cls := hown
  have hnm : meth.name = "raise" := hnm
  have NF0 := Fr.nil n0
  obtain ⟨Ex_a, Ex_ha, F_shares_a, F_held_a, F_size_a, V_sa, V_ha⟩ := NQ
  obtain ⟨ga, gsa, gha, d1, d2, d3⟩ := DD
  have K0 := Keep.refl h0 [a, sa, ha]
  subst hm
  refine g_aloadN hG X0 hx (hb hby d3_0) (pc' := 1) rfl rfl rfl ?_
  refine g_getF hG X0 hx hZ hown (wd hw 10 rfl) Via.refl e0 F_shares_a (hb hby d3_1) (pc' := 4) rfl ?_
  intro T1 X1 e1
  refine g_iloadN hG X1 hx (hb hby d3_4) (pc' := 5) rfl rfl ?_
  refine g_daload hG X1 hx hZ e1 V_sa (j := kk) (v := (.double 0)) (in4_nn ik) (in4_atd ik hxx) (hb hby d3_5) (pc' := 6) rfl ?_
  refine g_dconst0 hG X1 hx (hb hby d3_6) (pc' := 7) rfl (v := (0 : UInt64)) rfl ?_
  obtain ⟨v7, q7⟩ : ∃ zz : Int32, cmpValue (FP.dcmp (0 : UInt64) (0 : UInt64)) .l = zz := ⟨_, rfl⟩
  refine g_dcmp hG X1 hx (hb hby d3_7) (pc' := 8) rfl q7 ?_
  refine g_ifNo hG X1 hx (hb hby d3_8) (pc' := 11) (by rw [← q7, own_zz]; rfl) rfl ?_
  refine g_aloadN hG X1 hx (hb hby d3_11) (pc' := 12) rfl rfl rfl ?_
  refine g_getF hG X1 hx hZ hown (wd hw 13 rfl) Via.refl e1 F_held_a (hb hby d3_12) (pc' := 15) rfl ?_
  intro T2 X2 e2
  refine g_aloadN hG X2 hx (hb hby d3_15) (pc' := 16) rfl rfl rfl ?_
  refine g_dup hG X2 hx (hb hby d3_16) (pc' := 17) rfl rfl ?_
  refine g_getF hG X2 hx hZ hown (wd hw 20 rfl) Via.refl e2 F_size_a (hb hby d3_17) (pc' := 20) rfl ?_
  intro T3 X3 e3
  refine g_dupX1 hG X3 hx (hb hby d3_20) (pc' := 21) rfl rfl rfl ?_
  refine g_iconst hG X3 hx (hb hby d3_21) (pc' := 22) rfl (v := (1 : Int32)) rfl ?_
  refine g_iadd hG X3 hx (hb hby d3_22) (pc' := 23) rfl (v := (1 : Int32)) (by decide) ?_
  refine g_putF hG X3 hx hZ hown (wd hw 20 rfl) Via.refl e3 F_size_a Ex_a (Or.inl (wd hw 21 rfl)) (wd hw 1 rfl) (v' := (.int 1)) (ty := .int) (by decide) rfl rfl (hb hby d3_23) (pc' := 26) rfl ?_
  intro T4 h4 X4 e4 W4
  have Ex_a := Ex_a.wr W4
  have Ex_ha := Ex_ha.wr W4
  have F_shares_a := F_shares_a.other W4 (Or.inr (slot_ne (Or.inr (wd hw 11 rfl)) (Or.inl (wd hw 21 rfl)) (by decide) (t := (.array .double)) (t' := .int) (by decide) (by decide)))
  have F_held_a := F_held_a.other W4 (Or.inr (slot_ne (Or.inr (wd hw 14 rfl)) (Or.inl (wd hw 21 rfl)) (by decide) (t := (.array .int)) (t' := .int) (by decide) (by decide)))
  have F_size_a := F_size_a.same W4
  have V_sa := V_sa.other W4 (Ne.symm d1)
  have V_ha := V_ha.other W4 (Ne.symm d2)
  have Zs := Nat.le_trans Zs (Wr.size W4)
  have NF4 := Fr.snoc X4 NF0 ga
  have K4 := K0.wr W4 (Or.inl (List.mem_of_getElem? (i := 0) rfl))
  refine g_iloadN hG X4 hx (hb hby d3_26) (pc' := 27) rfl rfl ?_
  refine g_iastore hG X4 hx hZ e4 V_ha (j := (0 : Int32)) (in4_nn in4_0) (in4_len in4_0) (hb hby d3_27) (pc' := 28) rfl ?_
  intro T5 h5 X5 e5 W5 Vn5
  rw [in4_set in4_0] at Vn5
  have V_ha : AV Z h5 ha .int (4 : Int32) (fn4 (upd hd (0 : Int32) kk)) := Vn5
  have Ex_a := Ex_a.wr W5
  have Ex_ha := Ex_ha.wr W5
  have F_shares_a := F_shares_a.other W5 (Or.inl d2)
  have F_held_a := F_held_a.other W5 (Or.inl d2)
  have F_size_a := F_size_a.other W5 (Or.inl d2)
  have V_sa := V_sa.other W5 d3
  have Zs := Nat.le_trans Zs (Wr.size W5)
  have NF5 := Fr.snoc X5 NF4 gha
  have K5 := K4.wr W5 (Or.inl (List.mem_of_getElem? (i := 2) rfl))
  refine g_aloadN hG X5 hx (hb hby d3_28) (pc' := 29) rfl rfl rfl ?_
  refine g_getF hG X5 hx hZ hown (wd hw 10 rfl) Via.refl e5 F_shares_a (hb hby d3_29) (pc' := 32) rfl ?_
  intro T6 X6 e6
  refine g_iloadN hG X6 hx (hb hby d3_32) (pc' := 33) rfl rfl ?_
  refine g_aloadN hG X6 hx (hb hby d3_33) (pc' := 34) rfl rfl rfl ?_
  refine g_getF hG X6 hx hZ hown (wd hw 10 rfl) Via.refl e6 F_shares_a (hb hby d3_34) (pc' := 37) rfl ?_
  intro T7 X7 e7
  refine g_iloadN hG X7 hx (hb hby d3_37) (pc' := 38) rfl rfl ?_
  refine g_daload hG X7 hx hZ e7 V_sa (j := kk) (v := (.double 0)) (in4_nn ik) (in4_atd ik hxx) (hb hby d3_38) (pc' := 39) rfl ?_
  refine g_dloadN hG X7 hx (hb hby d3_39) (pc' := 40) rfl rfl ?_
  refine g_natS hG X7 hx hZ (y := (⟨"java/lang/Math", "max", "(DD)D"⟩ : MethodName)) (val := (.double (Jvm.Native.java_lang_Math.nans.pick64 true (0 : UInt64) vv))) 2 hown (wd hw 22 rfl) (wd hw 23 rfl) (wd hw 24 rfl) (wd hw 25 rfl) (by decide) (fun hc => Jvm.Free.Fl.Abs.maxD_pays (0 : UInt64) vv hc (by decide) (by decide)) (by rw [hml]; rfl) pd_7 rfl (argsL := [(.double 0), (.double vv)]) (rest := [(.int kk), (.ref sa)]) rfl (Nat.le_of_eq rfl) (hb hby d3_40) e7 (by decide) (by decide) (⟨rfl, own_z.noNaN, nv⟩) (pc' := 43) rfl ?_
  intro T8 X8 e8
  show G (T8.setTop (mkF m 43 _ [(.double (Jvm.Native.java_lang_Math.nans.pick64 true (0 : UInt64) vv)), (.int kk), (.ref sa)]))
  refine g_dastore hG X8 hx hZ e8 V_sa (j := kk) (in4_nn ik) (in4_lend ik) (hb hby d3_43) (pc' := 44) rfl ?_
  intro T9 h9 X9 e9 W9 Vn9
  rw [in4_setd ik] at Vn9
  have V_sa : AV Z h9 sa .double (4 : Int32) (fd4 (upd sh kk (Jvm.Native.java_lang_Math.nans.pick64 true (0 : UInt64) vv))) := Vn9
  have Ex_a := Ex_a.wr W9
  have Ex_ha := Ex_ha.wr W9
  have F_shares_a := F_shares_a.other W9 (Or.inl d1)
  have F_held_a := F_held_a.other W9 (Or.inl d1)
  have F_size_a := F_size_a.other W9 (Or.inl d1)
  have V_ha := V_ha.other W9 (Ne.symm d3)
  have Zs := Nat.le_trans Zs (Wr.size W9)
  have NF9 := Fr.snoc X9 NF5 gsa
  have K9 := K5.wr W9 (Or.inl (List.mem_of_getElem? (i := 1) rfl))
  exact e_ret0 hGe X9 hx hrt hlk (hb hby d3_44) e9 (by decide) (by decide) (⟨rfl, NF9, K9, Ex_a, Ex_ha, F_shares_a, F_held_a, F_size_a, V_sa, V_ha⟩)

def Q_rmCl4_0 (Z : State) (a sa ha : Addr) (sh : Int32 → UInt64) (hd : Int32 → Int32) (h0 : Heap) (n0 : Nat) (v : Option Value) (h : Heap) (L : List Loc) : Prop := v = none ∧ Fr n0 L ∧ Keep h0 h [a, sa, ha] ∧ NS4 Z h a sa ha (0 : Int32) sh hd
set_option maxRecDepth 65536 in
set_option maxHeartbeats 40000000 in
theorem rmCl4_0 (l : Launch) (Z : State) (a0 : Array Value) (hw : ∀ d ∈ tables_1, d.before a0 Z = true) (ws : List Jvm.Cond) (a sa ha : Addr) (sh : Int32 → UInt64) (hd : Int32 → Int32) (h0 : Heap) (n0 : Nat) (Zs : n0 ≤ h0.size) (NQ : NS4 Z h0 a sa ha (0 : Int32) sh hd) (DD : Dis n0 a sa ha) :
    Con l (⟨"org/termsieve/mapping/Shares", "clear", "()V"⟩ : MethodName) prog_78_method_4_code 2 none ws ({ frames := 0, cells := 0, slots := 0, locals := 0 } : Room) Z #[(.ref a)] h0 ({ frames := 0, cells := 0, slots := 0, locals := 0 } : Room).cells ({ frames := 0, cells := 0, slots := 0, locals := 0 } : Room).slots (Q_rmCl4_0 Z a sa ha sh hd  h0 n0) := by
  refine Con.of (Ls := #[.val (.ref a), .unset]) (plainFor_of_name (by first | (simp [plainName, overriddenIn]; done) | decide +kernel)) (fun m => by first | (simp [entryFrame, mkF, argsToLocals, Value.category]; done) | rfl) ?_
  intro p e s m below meth c s₁ G hGe hG hx hby hml hown hnm hrt hlk hZ X0 e0
  have hown : s.vm.findClass "org/termsieve/mapping/Shares" = some m.cls := hown
  have hnm : meth.name = "clear" := hnm
  have NF0 := Fr.nil n0
  obtain ⟨Ex_a, Ex_ha, F_shares_a, F_held_a, F_size_a, V_sa, V_ha⟩ := NQ
  obtain ⟨ga, gsa, gha, d1, d2, d3⟩ := DD
  have K0 := Keep.refl h0 [a, sa, ha]
  refine g_iconst hG X0 hx (hb hby d5_0) (pc' := 1) rfl (v := (0 : Int32)) rfl ?_
  refine g_istoreN hG X0 hx (hb hby d5_1) (pc' := 2) rfl (Ls' := #[.val (.ref a), .val (.int 0)]) rfl ?_
  refine g_iloadN hG X0 hx (hb hby d5_2) (pc' := 3) rfl rfl ?_
  refine g_aloadN hG X0 hx (hb hby d5_3) (pc' := 4) rfl rfl rfl ?_
  refine g_getF hG X0 hx hZ hown (wd hw 20 rfl) Via.refl e0 F_size_a (hb hby d5_4) (pc' := 7) rfl ?_
  intro T1 X1 e1
  refine g_icmpYes hG X1 hx (hb hby d5_7) (pc' := 28) (by decide) (by decide) (by decide) ?_
  refine g_aloadN hG X1 hx (hb hby d5_28) (pc' := 29) rfl rfl rfl ?_
  refine g_iconst hG X1 hx (hb hby d5_29) (pc' := 30) rfl (v := (0 : Int32)) rfl ?_
  refine g_putF hG X1 hx hZ hown (wd hw 20 rfl) Via.refl e1 F_size_a Ex_a (Or.inl (wd hw 21 rfl)) (wd hw 1 rfl) (v' := (.int 0)) (ty := .int) (by decide) rfl rfl (hb hby d5_30) (pc' := 33) rfl ?_
  intro T2 h2 X2 e2 W2
  have Ex_a := Ex_a.wr W2
  have Ex_ha := Ex_ha.wr W2
  have F_shares_a := F_shares_a.other W2 (Or.inr (slot_ne (Or.inr (wd hw 11 rfl)) (Or.inl (wd hw 21 rfl)) (by decide) (t := (.array .double)) (t' := .int) (by decide) (by decide)))
  have F_held_a := F_held_a.other W2 (Or.inr (slot_ne (Or.inr (wd hw 14 rfl)) (Or.inl (wd hw 21 rfl)) (by decide) (t := (.array .int)) (t' := .int) (by decide) (by decide)))
  have F_size_a := F_size_a.same W2
  have V_sa := V_sa.other W2 (Ne.symm d1)
  have V_ha := V_ha.other W2 (Ne.symm d2)
  have Zs := Nat.le_trans Zs (Wr.size W2)
  have NF2 := Fr.snoc X2 NF0 ga
  have K2 := K0.wr W2 (Or.inl (List.mem_of_getElem? (i := 0) rfl))
  exact e_ret0 hGe X2 hx hrt hlk (hb hby d5_33) e2 (by decide) (by decide) (⟨rfl, NF2, K2, Ex_a, Ex_ha, F_shares_a, F_held_a, F_size_a, V_sa, V_ha⟩)

def Q_rmRa4_1n (Z : State) (a sa ha : Addr) (sh : Int32 → UInt64) (hd : Int32 → Int32) (kk : Int32) (vv mm : UInt64) (h0 : Heap) (n0 : Nat) (v : Option Value) (h : Heap) (L : List Loc) : Prop := v = none ∧ Fr n0 L ∧ Keep h0 h [a, sa, ha] ∧ NS4 Z h a sa ha (2 : Int32) (upd sh kk mm) (upd hd (1 : Int32) kk)
set_option maxRecDepth 65536 in
set_option maxHeartbeats 40000000 in
theorem rmRa4_1n (l : Launch) (Z : State) (a0 : Array Value) (hw : ∀ d ∈ tables_1, d.before a0 Z = true) (ws : List Jvm.Cond) (a sa ha : Addr) (sh : Int32 → UInt64) (hd : Int32 → Int32) (kk : Int32) (vv mm : UInt64) (h0 : Heap) (n0 : Nat) (Zs : n0 ≤ h0.size) (NQ : NS4 Z h0 a sa ha (1 : Int32) sh hd) (DD : Dis n0 a sa ha) (ik : In4 kk) (nv : Jvm.Free.Fl.NoNaN64 vv) (hm : Jvm.Native.java_lang_Math.nans.pick64 true 0 vv = mm) (hxx : sh kk = 0) :
    Con l (⟨"org/termsieve/mapping/Shares", "raise", "(ID)V"⟩ : MethodName) prog_78_method_2_code 4 none ws ({ frames := 1, cells := 0, slots := 0, locals := 40 } : Room) Z #[(.ref a), (.int kk), (.double vv)] h0 ({ frames := 1, cells := 0, slots := 0, locals := 40 } : Room).cells ({ frames := 1, cells := 0, slots := 0, locals := 40 } : Room).slots (Q_rmRa4_1n Z a sa ha sh hd kk vv mm h0 n0) := by
  refine Con.of (Ls := #[.val (.ref a), .val (.int kk), .val (.double vv), .second]) (plainFor_of_name (by first | (simp [plainName, overriddenIn]; done) | decide +kernel)) (fun m => by first | (simp [entryFrame, mkF, argsToLocals, Value.category]; done) | rfl) ?_
  intro p e s m below meth c s₁ G hGe hG hx hby hml hown hnm hrt hlk hZ X0 e0
  have hown : s.vm.findClass "org/termsieve/mapping/Shares" = some m.cls := hown
  have hnm : meth.name = "raise" := hnm
  have NF0 := Fr.nil n0
  obtain ⟨Ex_a, Ex_ha, F_shares_a, F_held_a, F_size_a, V_sa, V_ha⟩ := NQ
  obtain ⟨ga, gsa, gha, d1, d2, d3⟩ := DD
  have K0 := Keep.refl h0 [a, sa, ha]
  subst hm
  refine g_aloadN hG X0 hx (hb hby d3_0) (pc' := 1) rfl rfl rfl ?_
  refine g_getF hG X0 hx hZ hown (wd hw 10 rfl) Via.refl e0 F_shares_a (hb hby d3_1) (pc' := 4) rfl ?_
  intro T1 X1 e1
  refine g_iloadN hG X1 hx (hb hby d3_4) (pc' := 5) rfl rfl ?_
  refine g_daload hG X1 hx hZ e1 V_sa (j := kk) (v := (.double 0)) (in4_nn ik) (in4_atd ik hxx) (hb hby d3_5) (pc' := 6) rfl ?_
  refine g_dconst0 hG X1 hx (hb hby d3_6) (pc' := 7) rfl (v := (0 : UInt64)) rfl ?_
  obtain ⟨v7, q7⟩ : ∃ zz : Int32, cmpValue (FP.dcmp (0 : UInt64) (0 : UInt64)) .l = zz := ⟨_, rfl⟩
  refine g_dcmp hG X1 hx (hb hby d3_7) (pc' := 8) rfl q7 ?_
  refine g_ifNo hG X1 hx (hb hby d3_8) (pc' := 11) (by rw [← q7, own_zz]; rfl) rfl ?_
  refine g_aloadN hG X1 hx (hb hby d3_11) (pc' := 12) rfl rfl rfl ?_
  refine g_getF hG X1 hx hZ hown (wd hw 13 rfl) Via.refl e1 F_held_a (hb hby d3_12) (pc' := 15) rfl ?_
  intro T2 X2 e2
  refine g_aloadN hG X2 hx (hb hby d3_15) (pc' := 16) rfl rfl rfl ?_
  refine g_dup hG X2 hx (hb hby d3_16) (pc' := 17) rfl rfl ?_
  refine g_getF hG X2 hx hZ hown (wd hw 20 rfl) Via.refl e2 F_size_a (hb hby d3_17) (pc' := 20) rfl ?_
  intro T3 X3 e3
  refine g_dupX1 hG X3 hx (hb hby d3_20) (pc' := 21) rfl rfl rfl ?_
  refine g_iconst hG X3 hx (hb hby d3_21) (pc' := 22) rfl (v := (1 : Int32)) rfl ?_
  refine g_iadd hG X3 hx (hb hby d3_22) (pc' := 23) rfl (v := (2 : Int32)) (by decide) ?_
  refine g_putF hG X3 hx hZ hown (wd hw 20 rfl) Via.refl e3 F_size_a Ex_a (Or.inl (wd hw 21 rfl)) (wd hw 1 rfl) (v' := (.int 2)) (ty := .int) (by decide) rfl rfl (hb hby d3_23) (pc' := 26) rfl ?_
  intro T4 h4 X4 e4 W4
  have Ex_a := Ex_a.wr W4
  have Ex_ha := Ex_ha.wr W4
  have F_shares_a := F_shares_a.other W4 (Or.inr (slot_ne (Or.inr (wd hw 11 rfl)) (Or.inl (wd hw 21 rfl)) (by decide) (t := (.array .double)) (t' := .int) (by decide) (by decide)))
  have F_held_a := F_held_a.other W4 (Or.inr (slot_ne (Or.inr (wd hw 14 rfl)) (Or.inl (wd hw 21 rfl)) (by decide) (t := (.array .int)) (t' := .int) (by decide) (by decide)))
  have F_size_a := F_size_a.same W4
  have V_sa := V_sa.other W4 (Ne.symm d1)
  have V_ha := V_ha.other W4 (Ne.symm d2)
  have Zs := Nat.le_trans Zs (Wr.size W4)
  have NF4 := Fr.snoc X4 NF0 ga
  have K4 := K0.wr W4 (Or.inl (List.mem_of_getElem? (i := 0) rfl))
  refine g_iloadN hG X4 hx (hb hby d3_26) (pc' := 27) rfl rfl ?_
  refine g_iastore hG X4 hx hZ e4 V_ha (j := (1 : Int32)) (in4_nn in4_1) (in4_len in4_1) (hb hby d3_27) (pc' := 28) rfl ?_
  intro T5 h5 X5 e5 W5 Vn5
  rw [in4_set in4_1] at Vn5
  have V_ha : AV Z h5 ha .int (4 : Int32) (fn4 (upd hd (1 : Int32) kk)) := Vn5
  have Ex_a := Ex_a.wr W5
  have Ex_ha := Ex_ha.wr W5
  have F_shares_a := F_shares_a.other W5 (Or.inl d2)
  have F_held_a := F_held_a.other W5 (Or.inl d2)
  have F_size_a := F_size_a.other W5 (Or.inl d2)
  have V_sa := V_sa.other W5 d3
  have Zs := Nat.le_trans Zs (Wr.size W5)
  have NF5 := Fr.snoc X5 NF4 gha
  have K5 := K4.wr W5 (Or.inl (List.mem_of_getElem? (i := 2) rfl))
  refine g_aloadN hG X5 hx (hb hby d3_28) (pc' := 29) rfl rfl rfl ?_
  refine g_getF hG X5 hx hZ hown (wd hw 10 rfl) Via.refl e5 F_shares_a (hb hby d3_29) (pc' := 32) rfl ?_
  intro T6 X6 e6
  refine g_iloadN hG X6 hx (hb hby d3_32) (pc' := 33) rfl rfl ?_
  refine g_aloadN hG X6 hx (hb hby d3_33) (pc' := 34) rfl rfl rfl ?_
  refine g_getF hG X6 hx hZ hown (wd hw 10 rfl) Via.refl e6 F_shares_a (hb hby d3_34) (pc' := 37) rfl ?_
  intro T7 X7 e7
  refine g_iloadN hG X7 hx (hb hby d3_37) (pc' := 38) rfl rfl ?_
  refine g_daload hG X7 hx hZ e7 V_sa (j := kk) (v := (.double 0)) (in4_nn ik) (in4_atd ik hxx) (hb hby d3_38) (pc' := 39) rfl ?_
  refine g_dloadN hG X7 hx (hb hby d3_39) (pc' := 40) rfl rfl ?_
  refine g_natS hG X7 hx hZ (y := (⟨"java/lang/Math", "max", "(DD)D"⟩ : MethodName)) (val := (.double (Jvm.Native.java_lang_Math.nans.pick64 true (0 : UInt64) vv))) 2 hown (wd hw 22 rfl) (wd hw 23 rfl) (wd hw 24 rfl) (wd hw 25 rfl) (by decide) (fun hc => Jvm.Free.Fl.Abs.maxD_pays (0 : UInt64) vv hc (by decide) (by decide)) (by rw [hml]; rfl) pd_7 rfl (argsL := [(.double 0), (.double vv)]) (rest := [(.int kk), (.ref sa)]) rfl (Nat.le_of_eq rfl) (hb hby d3_40) e7 (by decide) (by decide) (⟨rfl, own_z.noNaN, nv⟩) (pc' := 43) rfl ?_
  intro T8 X8 e8
  show G (T8.setTop (mkF m 43 _ [(.double (Jvm.Native.java_lang_Math.nans.pick64 true (0 : UInt64) vv)), (.int kk), (.ref sa)]))
  refine g_dastore hG X8 hx hZ e8 V_sa (j := kk) (in4_nn ik) (in4_lend ik) (hb hby d3_43) (pc' := 44) rfl ?_
  intro T9 h9 X9 e9 W9 Vn9
  rw [in4_setd ik] at Vn9
  have V_sa : AV Z h9 sa .double (4 : Int32) (fd4 (upd sh kk (Jvm.Native.java_lang_Math.nans.pick64 true (0 : UInt64) vv))) := Vn9
  have Ex_a := Ex_a.wr W9
  have Ex_ha := Ex_ha.wr W9
  have F_shares_a := F_shares_a.other W9 (Or.inl d1)
  have F_held_a := F_held_a.other W9 (Or.inl d1)
  have F_size_a := F_size_a.other W9 (Or.inl d1)
  have V_ha := V_ha.other W9 (Ne.symm d3)
  have Zs := Nat.le_trans Zs (Wr.size W9)
  have NF9 := Fr.snoc X9 NF5 gsa
  have K9 := K5.wr W9 (Or.inl (List.mem_of_getElem? (i := 1) rfl))
  exact e_ret0 hGe X9 hx hrt hlk (hb hby d3_44) e9 (by decide) (by decide) (⟨rfl, NF9, K9, Ex_a, Ex_ha, F_shares_a, F_held_a, F_size_a, V_sa, V_ha⟩)

def Q_rmRa4_1o (Z : State) (a sa ha : Addr) (sh : Int32 → UInt64) (hd : Int32 → Int32) (kk : Int32) (vv mm xx : UInt64) (h0 : Heap) (n0 : Nat) (v : Option Value) (h : Heap) (L : List Loc) : Prop := v = none ∧ Fr n0 L ∧ Keep h0 h [a, sa, ha] ∧ NS4 Z h a sa ha (1 : Int32) (upd sh kk mm) hd
set_option maxRecDepth 65536 in
set_option maxHeartbeats 40000000 in
theorem rmRa4_1o (l : Launch) (Z : State) (a0 : Array Value) (hw : ∀ d ∈ tables_1, d.before a0 Z = true) (ws : List Jvm.Cond) (a sa ha : Addr) (sh : Int32 → UInt64) (hd : Int32 → Int32) (kk : Int32) (vv mm xx : UInt64) (h0 : Heap) (n0 : Nat) (Zs : n0 ≤ h0.size) (NQ : NS4 Z h0 a sa ha (1 : Int32) sh hd) (DD : Dis n0 a sa ha) (ik : In4 kk) (nv : Jvm.Free.Fl.NoNaN64 vv) (hm : Jvm.Native.java_lang_Math.nans.pick64 true xx vv = mm) (hxx : sh kk = xx) (nx : Jvm.Free.Fl.NoNaN64 xx) (gx : FP.dcmp xx 0 = some .gt) :
    Con l (⟨"org/termsieve/mapping/Shares", "raise", "(ID)V"⟩ : MethodName) prog_78_method_2_code 4 none ws ({ frames := 1, cells := 0, slots := 0, locals := 40 } : Room) Z #[(.ref a), (.int kk), (.double vv)] h0 ({ frames := 1, cells := 0, slots := 0, locals := 40 } : Room).cells ({ frames := 1, cells := 0, slots := 0, locals := 40 } : Room).slots (Q_rmRa4_1o Z a sa ha sh hd kk vv mm xx h0 n0) := by
  refine Con.of (Ls := #[.val (.ref a), .val (.int kk), .val (.double vv), .second]) (plainFor_of_name (by first | (simp [plainName, overriddenIn]; done) | decide +kernel)) (fun m => by first | (simp [entryFrame, mkF, argsToLocals, Value.category]; done) | rfl) ?_
  intro p e s m below meth c s₁ G hGe hG hx hby hml hown hnm hrt hlk hZ X0 e0
  have hown : s.vm.findClass "org/termsieve/mapping/Shares" = some m.cls := hown
  have hnm : meth.name = "raise" := hnm
  have NF0 := Fr.nil n0
  obtain ⟨Ex_a, Ex_ha, F_shares_a, F_held_a, F_size_a, V_sa, V_ha⟩ := NQ
  obtain ⟨ga, gsa, gha, d1, d2, d3⟩ := DD
  have K0 := Keep.refl h0 [a, sa, ha]
  subst hm
  refine g_aloadN hG X0 hx (hb hby d3_0) (pc' := 1) rfl rfl rfl ?_
  refine g_getF hG X0 hx hZ hown (wd hw 10 rfl) Via.refl e0 F_shares_a (hb hby d3_1) (pc' := 4) rfl ?_
  intro T1 X1 e1
  refine g_iloadN hG X1 hx (hb hby d3_4) (pc' := 5) rfl rfl ?_
  refine g_daload hG X1 hx hZ e1 V_sa (j := kk) (v := (.double xx)) (in4_nn ik) (in4_atd ik hxx) (hb hby d3_5) (pc' := 6) rfl ?_
  refine g_dconst0 hG X1 hx (hb hby d3_6) (pc' := 7) rfl (v := (0 : UInt64)) rfl ?_
  obtain ⟨v7, q7⟩ : ∃ zz : Int32, cmpValue (FP.dcmp xx (0 : UInt64)) .l = zz := ⟨_, rfl⟩
  refine g_dcmp hG X1 hx (hb hby d3_7) (pc' := 8) rfl q7 ?_
  refine g_ifYes hG X1 hx (hb hby d3_8) (pc' := 28) (by rw [← q7, gx]; rfl) (by decide) (by decide) ?_
  refine g_aloadN hG X1 hx (hb hby d3_28) (pc' := 29) rfl rfl rfl ?_
  refine g_getF hG X1 hx hZ hown (wd hw 10 rfl) Via.refl e1 F_shares_a (hb hby d3_29) (pc' := 32) rfl ?_
  intro T2 X2 e2
  refine g_iloadN hG X2 hx (hb hby d3_32) (pc' := 33) rfl rfl ?_
  refine g_aloadN hG X2 hx (hb hby d3_33) (pc' := 34) rfl rfl rfl ?_
  refine g_getF hG X2 hx hZ hown (wd hw 10 rfl) Via.refl e2 F_shares_a (hb hby d3_34) (pc' := 37) rfl ?_
  intro T3 X3 e3
  refine g_iloadN hG X3 hx (hb hby d3_37) (pc' := 38) rfl rfl ?_
  refine g_daload hG X3 hx hZ e3 V_sa (j := kk) (v := (.double xx)) (in4_nn ik) (in4_atd ik hxx) (hb hby d3_38) (pc' := 39) rfl ?_
  refine g_dloadN hG X3 hx (hb hby d3_39) (pc' := 40) rfl rfl ?_
  refine g_natS hG X3 hx hZ (y := (⟨"java/lang/Math", "max", "(DD)D"⟩ : MethodName)) (val := (.double (Jvm.Native.java_lang_Math.nans.pick64 true xx vv))) 2 hown (wd hw 22 rfl) (wd hw 23 rfl) (wd hw 24 rfl) (wd hw 25 rfl) (by decide) (fun hc => Jvm.Free.Fl.Abs.maxD_pays xx vv hc (by decide) (by decide)) (by rw [hml]; rfl) pd_7 rfl (argsL := [(.double xx), (.double vv)]) (rest := [(.int kk), (.ref sa)]) rfl (Nat.le_of_eq rfl) (hb hby d3_40) e3 (by decide) (by decide) (⟨rfl, nx, nv⟩) (pc' := 43) rfl ?_
  intro T4 X4 e4
  show G (T4.setTop (mkF m 43 _ [(.double (Jvm.Native.java_lang_Math.nans.pick64 true xx vv)), (.int kk), (.ref sa)]))
  refine g_dastore hG X4 hx hZ e4 V_sa (j := kk) (in4_nn ik) (in4_lend ik) (hb hby d3_43) (pc' := 44) rfl ?_
  intro T5 h5 X5 e5 W5 Vn5
  rw [in4_setd ik] at Vn5
  have V_sa : AV Z h5 sa .double (4 : Int32) (fd4 (upd sh kk (Jvm.Native.java_lang_Math.nans.pick64 true xx vv))) := Vn5
  have Ex_a := Ex_a.wr W5
  have Ex_ha := Ex_ha.wr W5
  have F_shares_a := F_shares_a.other W5 (Or.inl d1)
  have F_held_a := F_held_a.other W5 (Or.inl d1)
  have F_size_a := F_size_a.other W5 (Or.inl d1)
  have V_ha := V_ha.other W5 (Ne.symm d3)
  have Zs := Nat.le_trans Zs (Wr.size W5)
  have NF5 := Fr.snoc X5 NF0 gsa
  have K5 := K0.wr W5 (Or.inl (List.mem_of_getElem? (i := 1) rfl))
  exact e_ret0 hGe X5 hx hrt hlk (hb hby d3_44) e5 (by decide) (by decide) (⟨rfl, NF5, K5, Ex_a, Ex_ha, F_shares_a, F_held_a, F_size_a, V_sa, V_ha⟩)

def Q_rmCl4_1 (Z : State) (a sa ha : Addr) (sh : Int32 → UInt64) (hd : Int32 → Int32) (k0 : Int32) (h0 : Heap) (n0 : Nat) (v : Option Value) (h : Heap) (L : List Loc) : Prop := v = none ∧ Fr n0 L ∧ Keep h0 h [a, sa, ha] ∧ NS4 Z h a sa ha (0 : Int32) (upd sh k0 0) hd
set_option maxRecDepth 65536 in
set_option maxHeartbeats 40000000 in
theorem rmCl4_1 (l : Launch) (Z : State) (a0 : Array Value) (hw : ∀ d ∈ tables_1, d.before a0 Z = true) (ws : List Jvm.Cond) (a sa ha : Addr) (sh : Int32 → UInt64) (hd : Int32 → Int32) (k0 : Int32) (h0 : Heap) (n0 : Nat) (Zs : n0 ≤ h0.size) (NQ : NS4 Z h0 a sa ha (1 : Int32) sh hd) (DD : Dis n0 a sa ha) (hk0 : hd (0 : Int32) = k0) (ik0 : In4 k0) :
    Con l (⟨"org/termsieve/mapping/Shares", "clear", "()V"⟩ : MethodName) prog_78_method_4_code 2 none ws ({ frames := 0, cells := 0, slots := 0, locals := 0 } : Room) Z #[(.ref a)] h0 ({ frames := 0, cells := 0, slots := 0, locals := 0 } : Room).cells ({ frames := 0, cells := 0, slots := 0, locals := 0 } : Room).slots (Q_rmCl4_1 Z a sa ha sh hd k0 h0 n0) := by
  refine Con.of (Ls := #[.val (.ref a), .unset]) (plainFor_of_name (by first | (simp [plainName, overriddenIn]; done) | decide +kernel)) (fun m => by first | (simp [entryFrame, mkF, argsToLocals, Value.category]; done) | rfl) ?_
  intro p e s m below meth c s₁ G hGe hG hx hby hml hown hnm hrt hlk hZ X0 e0
  have hown : s.vm.findClass "org/termsieve/mapping/Shares" = some m.cls := hown
  have hnm : meth.name = "clear" := hnm
  have NF0 := Fr.nil n0
  obtain ⟨Ex_a, Ex_ha, F_shares_a, F_held_a, F_size_a, V_sa, V_ha⟩ := NQ
  obtain ⟨ga, gsa, gha, d1, d2, d3⟩ := DD
  have K0 := Keep.refl h0 [a, sa, ha]
  refine g_iconst hG X0 hx (hb hby d5_0) (pc' := 1) rfl (v := (0 : Int32)) rfl ?_
  refine g_istoreN hG X0 hx (hb hby d5_1) (pc' := 2) rfl (Ls' := #[.val (.ref a), .val (.int 0)]) rfl ?_
  refine g_iloadN hG X0 hx (hb hby d5_2) (pc' := 3) rfl rfl ?_
  refine g_aloadN hG X0 hx (hb hby d5_3) (pc' := 4) rfl rfl rfl ?_
  refine g_getF hG X0 hx hZ hown (wd hw 20 rfl) Via.refl e0 F_size_a (hb hby d5_4) (pc' := 7) rfl ?_
  intro T1 X1 e1
  refine g_icmpNo hG X1 hx (hb hby d5_7) (pc' := 10) (by decide) rfl ?_
  refine g_aloadN hG X1 hx (hb hby d5_10) (pc' := 11) rfl rfl rfl ?_
  refine g_getF hG X1 hx hZ hown (wd hw 10 rfl) Via.refl e1 F_shares_a (hb hby d5_11) (pc' := 14) rfl ?_
  intro T2 X2 e2
  refine g_aloadN hG X2 hx (hb hby d5_14) (pc' := 15) rfl rfl rfl ?_
  refine g_getF hG X2 hx hZ hown (wd hw 13 rfl) Via.refl e2 F_held_a (hb hby d5_15) (pc' := 18) rfl ?_
  intro T3 X3 e3
  refine g_iloadN hG X3 hx (hb hby d5_18) (pc' := 19) rfl rfl ?_
  refine g_iaload hG X3 hx hZ e3 V_ha (j := (0 : Int32)) (v := (.int k0)) (in4_nn in4_0) (in4_at in4_0 hk0) (hb hby d5_19) (pc' := 20) rfl ?_
  refine g_dconst0 hG X3 hx (hb hby d5_20) (pc' := 21) rfl (v := (0 : UInt64)) rfl ?_
  refine g_dastore hG X3 hx hZ e3 V_sa (j := k0) (in4_nn ik0) (in4_lend ik0) (hb hby d5_21) (pc' := 22) rfl ?_
  intro T4 h4 X4 e4 W4 Vn4
  rw [in4_setd ik0] at Vn4
  have V_sa : AV Z h4 sa .double (4 : Int32) (fd4 (upd sh k0 (0 : UInt64))) := Vn4
  have Ex_a := Ex_a.wr W4
  have Ex_ha := Ex_ha.wr W4
  have F_shares_a := F_shares_a.other W4 (Or.inl d1)
  have F_held_a := F_held_a.other W4 (Or.inl d1)
  have F_size_a := F_size_a.other W4 (Or.inl d1)
  have V_ha := V_ha.other W4 (Ne.symm d3)
  have Zs := Nat.le_trans Zs (Wr.size W4)
  have NF4 := Fr.snoc X4 NF0 gsa
  have K4 := K0.wr W4 (Or.inl (List.mem_of_getElem? (i := 1) rfl))
  refine g_iinc hG X4 hx (hb hby d5_22) (pc' := 25) rfl rfl (v := (1 : Int32)) (by decide) (Ls' := #[.val (.ref a), .val (.int 1)]) rfl ?_
  refine g_goto hG X4 hx (hb hby d5_25) (pc' := 2) (by decide) (by decide) ?_
  refine g_iloadN hG X4 hx (hb hby d5_2) (pc' := 3) rfl rfl ?_
  refine g_aloadN hG X4 hx (hb hby d5_3) (pc' := 4) rfl rfl rfl ?_
  refine g_getF hG X4 hx hZ hown (wd hw 20 rfl) Via.refl e4 F_size_a (hb hby d5_4) (pc' := 7) rfl ?_
  intro T5 X5 e5
  refine g_icmpYes hG X5 hx (hb hby d5_7) (pc' := 28) (by decide) (by decide) (by decide) ?_
  refine g_aloadN hG X5 hx (hb hby d5_28) (pc' := 29) rfl rfl rfl ?_
  refine g_iconst hG X5 hx (hb hby d5_29) (pc' := 30) rfl (v := (0 : Int32)) rfl ?_
  refine g_putF hG X5 hx hZ hown (wd hw 20 rfl) Via.refl e5 F_size_a Ex_a (Or.inl (wd hw 21 rfl)) (wd hw 1 rfl) (v' := (.int 0)) (ty := .int) (by decide) rfl rfl (hb hby d5_30) (pc' := 33) rfl ?_
  intro T6 h6 X6 e6 W6
  have Ex_a := Ex_a.wr W6
  have Ex_ha := Ex_ha.wr W6
  have F_shares_a := F_shares_a.other W6 (Or.inr (slot_ne (Or.inr (wd hw 11 rfl)) (Or.inl (wd hw 21 rfl)) (by decide) (t := (.array .double)) (t' := .int) (by decide) (by decide)))
  have F_held_a := F_held_a.other W6 (Or.inr (slot_ne (Or.inr (wd hw 14 rfl)) (Or.inl (wd hw 21 rfl)) (by decide) (t := (.array .int)) (t' := .int) (by decide) (by decide)))
  have F_size_a := F_size_a.same W6
  have V_sa := V_sa.other W6 (Ne.symm d1)
  have V_ha := V_ha.other W6 (Ne.symm d2)
  have Zs := Nat.le_trans Zs (Wr.size W6)
  have NF6 := Fr.snoc X6 NF4 ga
  have K6 := K4.wr W6 (Or.inl (List.mem_of_getElem? (i := 0) rfl))
  exact e_ret0 hGe X6 hx hrt hlk (hb hby d5_33) e6 (by decide) (by decide) (⟨rfl, NF6, K6, Ex_a, Ex_ha, F_shares_a, F_held_a, F_size_a, V_sa, V_ha⟩)

def Q_rmRa4_2n (Z : State) (a sa ha : Addr) (sh : Int32 → UInt64) (hd : Int32 → Int32) (kk : Int32) (vv mm : UInt64) (h0 : Heap) (n0 : Nat) (v : Option Value) (h : Heap) (L : List Loc) : Prop := v = none ∧ Fr n0 L ∧ Keep h0 h [a, sa, ha] ∧ NS4 Z h a sa ha (3 : Int32) (upd sh kk mm) (upd hd (2 : Int32) kk)
set_option maxRecDepth 65536 in
set_option maxHeartbeats 40000000 in
theorem rmRa4_2n (l : Launch) (Z : State) (a0 : Array Value) (hw : ∀ d ∈ tables_1, d.before a0 Z = true) (ws : List Jvm.Cond) (a sa ha : Addr) (sh : Int32 → UInt64) (hd : Int32 → Int32) (kk : Int32) (vv mm : UInt64) (h0 : Heap) (n0 : Nat) (Zs : n0 ≤ h0.size) (NQ : NS4 Z h0 a sa ha (2 : Int32) sh hd) (DD : Dis n0 a sa ha) (ik : In4 kk) (nv : Jvm.Free.Fl.NoNaN64 vv) (hm : Jvm.Native.java_lang_Math.nans.pick64 true 0 vv = mm) (hxx : sh kk = 0) :
    Con l (⟨"org/termsieve/mapping/Shares", "raise", "(ID)V"⟩ : MethodName) prog_78_method_2_code 4 none ws ({ frames := 1, cells := 0, slots := 0, locals := 40 } : Room) Z #[(.ref a), (.int kk), (.double vv)] h0 ({ frames := 1, cells := 0, slots := 0, locals := 40 } : Room).cells ({ frames := 1, cells := 0, slots := 0, locals := 40 } : Room).slots (Q_rmRa4_2n Z a sa ha sh hd kk vv mm h0 n0) := by
  refine Con.of (Ls := #[.val (.ref a), .val (.int kk), .val (.double vv), .second]) (plainFor_of_name (by first | (simp [plainName, overriddenIn]; done) | decide +kernel)) (fun m => by first | (simp [entryFrame, mkF, argsToLocals, Value.category]; done) | rfl) ?_
  intro p e s m below meth c s₁ G hGe hG hx hby hml hown hnm hrt hlk hZ X0 e0
  have hown : s.vm.findClass "org/termsieve/mapping/Shares" = some m.cls := hown
  have hnm : meth.name = "raise" := hnm
  have NF0 := Fr.nil n0
  obtain ⟨Ex_a, Ex_ha, F_shares_a, F_held_a, F_size_a, V_sa, V_ha⟩ := NQ
  obtain ⟨ga, gsa, gha, d1, d2, d3⟩ := DD
  have K0 := Keep.refl h0 [a, sa, ha]
  subst hm
  refine g_aloadN hG X0 hx (hb hby d3_0) (pc' := 1) rfl rfl rfl ?_
  refine g_getF hG X0 hx hZ hown (wd hw 10 rfl) Via.refl e0 F_shares_a (hb hby d3_1) (pc' := 4) rfl ?_
  intro T1 X1 e1
  refine g_iloadN hG X1 hx (hb hby d3_4) (pc' := 5) rfl rfl ?_
  refine g_daload hG X1 hx hZ e1 V_sa (j := kk) (v := (.double 0)) (in4_nn ik) (in4_atd ik hxx) (hb hby d3_5) (pc' := 6) rfl ?_
  refine g_dconst0 hG X1 hx (hb hby d3_6) (pc' := 7) rfl (v := (0 : UInt64)) rfl ?_
  obtain ⟨v7, q7⟩ : ∃ zz : Int32, cmpValue (FP.dcmp (0 : UInt64) (0 : UInt64)) .l = zz := ⟨_, rfl⟩
  refine g_dcmp hG X1 hx (hb hby d3_7) (pc' := 8) rfl q7 ?_
  refine g_ifNo hG X1 hx (hb hby d3_8) (pc' := 11) (by rw [← q7, own_zz]; rfl) rfl ?_
  refine g_aloadN hG X1 hx (hb hby d3_11) (pc' := 12) rfl rfl rfl ?_
  refine g_getF hG X1 hx hZ hown (wd hw 13 rfl) Via.refl e1 F_held_a (hb hby d3_12) (pc' := 15) rfl ?_
  intro T2 X2 e2
  refine g_aloadN hG X2 hx (hb hby d3_15) (pc' := 16) rfl rfl rfl ?_
  refine g_dup hG X2 hx (hb hby d3_16) (pc' := 17) rfl rfl ?_
  refine g_getF hG X2 hx hZ hown (wd hw 20 rfl) Via.refl e2 F_size_a (hb hby d3_17) (pc' := 20) rfl ?_
  intro T3 X3 e3
  refine g_dupX1 hG X3 hx (hb hby d3_20) (pc' := 21) rfl rfl rfl ?_
  refine g_iconst hG X3 hx (hb hby d3_21) (pc' := 22) rfl (v := (1 : Int32)) rfl ?_
  refine g_iadd hG X3 hx (hb hby d3_22) (pc' := 23) rfl (v := (3 : Int32)) (by decide) ?_
  refine g_putF hG X3 hx hZ hown (wd hw 20 rfl) Via.refl e3 F_size_a Ex_a (Or.inl (wd hw 21 rfl)) (wd hw 1 rfl) (v' := (.int 3)) (ty := .int) (by decide) rfl rfl (hb hby d3_23) (pc' := 26) rfl ?_
  intro T4 h4 X4 e4 W4
  have Ex_a := Ex_a.wr W4
  have Ex_ha := Ex_ha.wr W4
  have F_shares_a := F_shares_a.other W4 (Or.inr (slot_ne (Or.inr (wd hw 11 rfl)) (Or.inl (wd hw 21 rfl)) (by decide) (t := (.array .double)) (t' := .int) (by decide) (by decide)))
  have F_held_a := F_held_a.other W4 (Or.inr (slot_ne (Or.inr (wd hw 14 rfl)) (Or.inl (wd hw 21 rfl)) (by decide) (t := (.array .int)) (t' := .int) (by decide) (by decide)))
  have F_size_a := F_size_a.same W4
  have V_sa := V_sa.other W4 (Ne.symm d1)
  have V_ha := V_ha.other W4 (Ne.symm d2)
  have Zs := Nat.le_trans Zs (Wr.size W4)
  have NF4 := Fr.snoc X4 NF0 ga
  have K4 := K0.wr W4 (Or.inl (List.mem_of_getElem? (i := 0) rfl))
  refine g_iloadN hG X4 hx (hb hby d3_26) (pc' := 27) rfl rfl ?_
  refine g_iastore hG X4 hx hZ e4 V_ha (j := (2 : Int32)) (in4_nn in4_2) (in4_len in4_2) (hb hby d3_27) (pc' := 28) rfl ?_
  intro T5 h5 X5 e5 W5 Vn5
  rw [in4_set in4_2] at Vn5
  have V_ha : AV Z h5 ha .int (4 : Int32) (fn4 (upd hd (2 : Int32) kk)) := Vn5
  have Ex_a := Ex_a.wr W5
  have Ex_ha := Ex_ha.wr W5
  have F_shares_a := F_shares_a.other W5 (Or.inl d2)
  have F_held_a := F_held_a.other W5 (Or.inl d2)
  have F_size_a := F_size_a.other W5 (Or.inl d2)
  have V_sa := V_sa.other W5 d3
  have Zs := Nat.le_trans Zs (Wr.size W5)
  have NF5 := Fr.snoc X5 NF4 gha
  have K5 := K4.wr W5 (Or.inl (List.mem_of_getElem? (i := 2) rfl))
  refine g_aloadN hG X5 hx (hb hby d3_28) (pc' := 29) rfl rfl rfl ?_
  refine g_getF hG X5 hx hZ hown (wd hw 10 rfl) Via.refl e5 F_shares_a (hb hby d3_29) (pc' := 32) rfl ?_
  intro T6 X6 e6
  refine g_iloadN hG X6 hx (hb hby d3_32) (pc' := 33) rfl rfl ?_
  refine g_aloadN hG X6 hx (hb hby d3_33) (pc' := 34) rfl rfl rfl ?_
  refine g_getF hG X6 hx hZ hown (wd hw 10 rfl) Via.refl e6 F_shares_a (hb hby d3_34) (pc' := 37) rfl ?_
  intro T7 X7 e7
  refine g_iloadN hG X7 hx (hb hby d3_37) (pc' := 38) rfl rfl ?_
  refine g_daload hG X7 hx hZ e7 V_sa (j := kk) (v := (.double 0)) (in4_nn ik) (in4_atd ik hxx) (hb hby d3_38) (pc' := 39) rfl ?_
  refine g_dloadN hG X7 hx (hb hby d3_39) (pc' := 40) rfl rfl ?_
  refine g_natS hG X7 hx hZ (y := (⟨"java/lang/Math", "max", "(DD)D"⟩ : MethodName)) (val := (.double (Jvm.Native.java_lang_Math.nans.pick64 true (0 : UInt64) vv))) 2 hown (wd hw 22 rfl) (wd hw 23 rfl) (wd hw 24 rfl) (wd hw 25 rfl) (by decide) (fun hc => Jvm.Free.Fl.Abs.maxD_pays (0 : UInt64) vv hc (by decide) (by decide)) (by rw [hml]; rfl) pd_7 rfl (argsL := [(.double 0), (.double vv)]) (rest := [(.int kk), (.ref sa)]) rfl (Nat.le_of_eq rfl) (hb hby d3_40) e7 (by decide) (by decide) (⟨rfl, own_z.noNaN, nv⟩) (pc' := 43) rfl ?_
  intro T8 X8 e8
  show G (T8.setTop (mkF m 43 _ [(.double (Jvm.Native.java_lang_Math.nans.pick64 true (0 : UInt64) vv)), (.int kk), (.ref sa)]))
  refine g_dastore hG X8 hx hZ e8 V_sa (j := kk) (in4_nn ik) (in4_lend ik) (hb hby d3_43) (pc' := 44) rfl ?_
  intro T9 h9 X9 e9 W9 Vn9
  rw [in4_setd ik] at Vn9
  have V_sa : AV Z h9 sa .double (4 : Int32) (fd4 (upd sh kk (Jvm.Native.java_lang_Math.nans.pick64 true (0 : UInt64) vv))) := Vn9
  have Ex_a := Ex_a.wr W9
  have Ex_ha := Ex_ha.wr W9
  have F_shares_a := F_shares_a.other W9 (Or.inl d1)
  have F_held_a := F_held_a.other W9 (Or.inl d1)
  have F_size_a := F_size_a.other W9 (Or.inl d1)
  have V_ha := V_ha.other W9 (Ne.symm d3)
  have Zs := Nat.le_trans Zs (Wr.size W9)
  have NF9 := Fr.snoc X9 NF5 gsa
  have K9 := K5.wr W9 (Or.inl (List.mem_of_getElem? (i := 1) rfl))
  exact e_ret0 hGe X9 hx hrt hlk (hb hby d3_44) e9 (by decide) (by decide) (⟨rfl, NF9, K9, Ex_a, Ex_ha, F_shares_a, F_held_a, F_size_a, V_sa, V_ha⟩)

def Q_rmRa4_2o (Z : State) (a sa ha : Addr) (sh : Int32 → UInt64) (hd : Int32 → Int32) (kk : Int32) (vv mm xx : UInt64) (h0 : Heap) (n0 : Nat) (v : Option Value) (h : Heap) (L : List Loc) : Prop := v = none ∧ Fr n0 L ∧ Keep h0 h [a, sa, ha] ∧ NS4 Z h a sa ha (2 : Int32) (upd sh kk mm) hd
set_option maxRecDepth 65536 in
set_option maxHeartbeats 40000000 in
theorem rmRa4_2o (l : Launch) (Z : State) (a0 : Array Value) (hw : ∀ d ∈ tables_1, d.before a0 Z = true) (ws : List Jvm.Cond) (a sa ha : Addr) (sh : Int32 → UInt64) (hd : Int32 → Int32) (kk : Int32) (vv mm xx : UInt64) (h0 : Heap) (n0 : Nat) (Zs : n0 ≤ h0.size) (NQ : NS4 Z h0 a sa ha (2 : Int32) sh hd) (DD : Dis n0 a sa ha) (ik : In4 kk) (nv : Jvm.Free.Fl.NoNaN64 vv) (hm : Jvm.Native.java_lang_Math.nans.pick64 true xx vv = mm) (hxx : sh kk = xx) (nx : Jvm.Free.Fl.NoNaN64 xx) (gx : FP.dcmp xx 0 = some .gt) :
    Con l (⟨"org/termsieve/mapping/Shares", "raise", "(ID)V"⟩ : MethodName) prog_78_method_2_code 4 none ws ({ frames := 1, cells := 0, slots := 0, locals := 40 } : Room) Z #[(.ref a), (.int kk), (.double vv)] h0 ({ frames := 1, cells := 0, slots := 0, locals := 40 } : Room).cells ({ frames := 1, cells := 0, slots := 0, locals := 40 } : Room).slots (Q_rmRa4_2o Z a sa ha sh hd kk vv mm xx h0 n0) := by
  refine Con.of (Ls := #[.val (.ref a), .val (.int kk), .val (.double vv), .second]) (plainFor_of_name (by first | (simp [plainName, overriddenIn]; done) | decide +kernel)) (fun m => by first | (simp [entryFrame, mkF, argsToLocals, Value.category]; done) | rfl) ?_
  intro p e s m below meth c s₁ G hGe hG hx hby hml hown hnm hrt hlk hZ X0 e0
  have hown : s.vm.findClass "org/termsieve/mapping/Shares" = some m.cls := hown
  have hnm : meth.name = "raise" := hnm
  have NF0 := Fr.nil n0
  obtain ⟨Ex_a, Ex_ha, F_shares_a, F_held_a, F_size_a, V_sa, V_ha⟩ := NQ
  obtain ⟨ga, gsa, gha, d1, d2, d3⟩ := DD
  have K0 := Keep.refl h0 [a, sa, ha]
  subst hm
  refine g_aloadN hG X0 hx (hb hby d3_0) (pc' := 1) rfl rfl rfl ?_
  refine g_getF hG X0 hx hZ hown (wd hw 10 rfl) Via.refl e0 F_shares_a (hb hby d3_1) (pc' := 4) rfl ?_
  intro T1 X1 e1
  refine g_iloadN hG X1 hx (hb hby d3_4) (pc' := 5) rfl rfl ?_
  refine g_daload hG X1 hx hZ e1 V_sa (j := kk) (v := (.double xx)) (in4_nn ik) (in4_atd ik hxx) (hb hby d3_5) (pc' := 6) rfl ?_
  refine g_dconst0 hG X1 hx (hb hby d3_6) (pc' := 7) rfl (v := (0 : UInt64)) rfl ?_
  obtain ⟨v7, q7⟩ : ∃ zz : Int32, cmpValue (FP.dcmp xx (0 : UInt64)) .l = zz := ⟨_, rfl⟩
  refine g_dcmp hG X1 hx (hb hby d3_7) (pc' := 8) rfl q7 ?_
  refine g_ifYes hG X1 hx (hb hby d3_8) (pc' := 28) (by rw [← q7, gx]; rfl) (by decide) (by decide) ?_
  refine g_aloadN hG X1 hx (hb hby d3_28) (pc' := 29) rfl rfl rfl ?_
  refine g_getF hG X1 hx hZ hown (wd hw 10 rfl) Via.refl e1 F_shares_a (hb hby d3_29) (pc' := 32) rfl ?_
  intro T2 X2 e2
  refine g_iloadN hG X2 hx (hb hby d3_32) (pc' := 33) rfl rfl ?_
  refine g_aloadN hG X2 hx (hb hby d3_33) (pc' := 34) rfl rfl rfl ?_
  refine g_getF hG X2 hx hZ hown (wd hw 10 rfl) Via.refl e2 F_shares_a (hb hby d3_34) (pc' := 37) rfl ?_
  intro T3 X3 e3
  refine g_iloadN hG X3 hx (hb hby d3_37) (pc' := 38) rfl rfl ?_
  refine g_daload hG X3 hx hZ e3 V_sa (j := kk) (v := (.double xx)) (in4_nn ik) (in4_atd ik hxx) (hb hby d3_38) (pc' := 39) rfl ?_
  refine g_dloadN hG X3 hx (hb hby d3_39) (pc' := 40) rfl rfl ?_
  refine g_natS hG X3 hx hZ (y := (⟨"java/lang/Math", "max", "(DD)D"⟩ : MethodName)) (val := (.double (Jvm.Native.java_lang_Math.nans.pick64 true xx vv))) 2 hown (wd hw 22 rfl) (wd hw 23 rfl) (wd hw 24 rfl) (wd hw 25 rfl) (by decide) (fun hc => Jvm.Free.Fl.Abs.maxD_pays xx vv hc (by decide) (by decide)) (by rw [hml]; rfl) pd_7 rfl (argsL := [(.double xx), (.double vv)]) (rest := [(.int kk), (.ref sa)]) rfl (Nat.le_of_eq rfl) (hb hby d3_40) e3 (by decide) (by decide) (⟨rfl, nx, nv⟩) (pc' := 43) rfl ?_
  intro T4 X4 e4
  show G (T4.setTop (mkF m 43 _ [(.double (Jvm.Native.java_lang_Math.nans.pick64 true xx vv)), (.int kk), (.ref sa)]))
  refine g_dastore hG X4 hx hZ e4 V_sa (j := kk) (in4_nn ik) (in4_lend ik) (hb hby d3_43) (pc' := 44) rfl ?_
  intro T5 h5 X5 e5 W5 Vn5
  rw [in4_setd ik] at Vn5
  have V_sa : AV Z h5 sa .double (4 : Int32) (fd4 (upd sh kk (Jvm.Native.java_lang_Math.nans.pick64 true xx vv))) := Vn5
  have Ex_a := Ex_a.wr W5
  have Ex_ha := Ex_ha.wr W5
  have F_shares_a := F_shares_a.other W5 (Or.inl d1)
  have F_held_a := F_held_a.other W5 (Or.inl d1)
  have F_size_a := F_size_a.other W5 (Or.inl d1)
  have V_ha := V_ha.other W5 (Ne.symm d3)
  have Zs := Nat.le_trans Zs (Wr.size W5)
  have NF5 := Fr.snoc X5 NF0 gsa
  have K5 := K0.wr W5 (Or.inl (List.mem_of_getElem? (i := 1) rfl))
  exact e_ret0 hGe X5 hx hrt hlk (hb hby d3_44) e5 (by decide) (by decide) (⟨rfl, NF5, K5, Ex_a, Ex_ha, F_shares_a, F_held_a, F_size_a, V_sa, V_ha⟩)

def Q_rmCl4_2 (Z : State) (a sa ha : Addr) (sh : Int32 → UInt64) (hd : Int32 → Int32) (k0 : Int32) (k1 : Int32) (h0 : Heap) (n0 : Nat) (v : Option Value) (h : Heap) (L : List Loc) : Prop := v = none ∧ Fr n0 L ∧ Keep h0 h [a, sa, ha] ∧ NS4 Z h a sa ha (0 : Int32) (upd (upd sh k0 0) k1 0) hd
set_option maxRecDepth 65536 in
set_option maxHeartbeats 40000000 in
theorem rmCl4_2 (l : Launch) (Z : State) (a0 : Array Value) (hw : ∀ d ∈ tables_1, d.before a0 Z = true) (ws : List Jvm.Cond) (a sa ha : Addr) (sh : Int32 → UInt64) (hd : Int32 → Int32) (k0 : Int32) (k1 : Int32) (h0 : Heap) (n0 : Nat) (Zs : n0 ≤ h0.size) (NQ : NS4 Z h0 a sa ha (2 : Int32) sh hd) (DD : Dis n0 a sa ha) (hk0 : hd (0 : Int32) = k0) (ik0 : In4 k0) (hk1 : hd (1 : Int32) = k1) (ik1 : In4 k1) :
    Con l (⟨"org/termsieve/mapping/Shares", "clear", "()V"⟩ : MethodName) prog_78_method_4_code 2 none ws ({ frames := 0, cells := 0, slots := 0, locals := 0 } : Room) Z #[(.ref a)] h0 ({ frames := 0, cells := 0, slots := 0, locals := 0 } : Room).cells ({ frames := 0, cells := 0, slots := 0, locals := 0 } : Room).slots (Q_rmCl4_2 Z a sa ha sh hd k0 k1 h0 n0) := by
  refine Con.of (Ls := #[.val (.ref a), .unset]) (plainFor_of_name (by first | (simp [plainName, overriddenIn]; done) | decide +kernel)) (fun m => by first | (simp [entryFrame, mkF, argsToLocals, Value.category]; done) | rfl) ?_
  intro p e s m below meth c s₁ G hGe hG hx hby hml hown hnm hrt hlk hZ X0 e0
  have hown : s.vm.findClass "org/termsieve/mapping/Shares" = some m.cls := hown
  have hnm : meth.name = "clear" := hnm
  have NF0 := Fr.nil n0
  obtain ⟨Ex_a, Ex_ha, F_shares_a, F_held_a, F_size_a, V_sa, V_ha⟩ := NQ
  obtain ⟨ga, gsa, gha, d1, d2, d3⟩ := DD
  have K0 := Keep.refl h0 [a, sa, ha]
  refine g_iconst hG X0 hx (hb hby d5_0) (pc' := 1) rfl (v := (0 : Int32)) rfl ?_
  refine g_istoreN hG X0 hx (hb hby d5_1) (pc' := 2) rfl (Ls' := #[.val (.ref a), .val (.int 0)]) rfl ?_
  refine g_iloadN hG X0 hx (hb hby d5_2) (pc' := 3) rfl rfl ?_
  refine g_aloadN hG X0 hx (hb hby d5_3) (pc' := 4) rfl rfl rfl ?_
  refine g_getF hG X0 hx hZ hown (wd hw 20 rfl) Via.refl e0 F_size_a (hb hby d5_4) (pc' := 7) rfl ?_
  intro T1 X1 e1
  refine g_icmpNo hG X1 hx (hb hby d5_7) (pc' := 10) (by decide) rfl ?_
  refine g_aloadN hG X1 hx (hb hby d5_10) (pc' := 11) rfl rfl rfl ?_
  refine g_getF hG X1 hx hZ hown (wd hw 10 rfl) Via.refl e1 F_shares_a (hb hby d5_11) (pc' := 14) rfl ?_
  intro T2 X2 e2
  refine g_aloadN hG X2 hx (hb hby d5_14) (pc' := 15) rfl rfl rfl ?_
  refine g_getF hG X2 hx hZ hown (wd hw 13 rfl) Via.refl e2 F_held_a (hb hby d5_15) (pc' := 18) rfl ?_
  intro T3 X3 e3
  refine g_iloadN hG X3 hx (hb hby d5_18) (pc' := 19) rfl rfl ?_
  refine g_iaload hG X3 hx hZ e3 V_ha (j := (0 : Int32)) (v := (.int k0)) (in4_nn in4_0) (in4_at in4_0 hk0) (hb hby d5_19) (pc' := 20) rfl ?_
  refine g_dconst0 hG X3 hx (hb hby d5_20) (pc' := 21) rfl (v := (0 : UInt64)) rfl ?_
  refine g_dastore hG X3 hx hZ e3 V_sa (j := k0) (in4_nn ik0) (in4_lend ik0) (hb hby d5_21) (pc' := 22) rfl ?_
  intro T4 h4 X4 e4 W4 Vn4
  rw [in4_setd ik0] at Vn4
  have V_sa : AV Z h4 sa .double (4 : Int32) (fd4 (upd sh k0 (0 : UInt64))) := Vn4
  have Ex_a := Ex_a.wr W4
  have Ex_ha := Ex_ha.wr W4
  have F_shares_a := F_shares_a.other W4 (Or.inl d1)
  have F_held_a := F_held_a.other W4 (Or.inl d1)
  have F_size_a := F_size_a.other W4 (Or.inl d1)
  have V_ha := V_ha.other W4 (Ne.symm d3)
  have Zs := Nat.le_trans Zs (Wr.size W4)
  have NF4 := Fr.snoc X4 NF0 gsa
  have K4 := K0.wr W4 (Or.inl (List.mem_of_getElem? (i := 1) rfl))
  refine g_iinc hG X4 hx (hb hby d5_22) (pc' := 25) rfl rfl (v := (1 : Int32)) (by decide) (Ls' := #[.val (.ref a), .val (.int 1)]) rfl ?_
  refine g_goto hG X4 hx (hb hby d5_25) (pc' := 2) (by decide) (by decide) ?_
  refine g_iloadN hG X4 hx (hb hby d5_2) (pc' := 3) rfl rfl ?_
  refine g_aloadN hG X4 hx (hb hby d5_3) (pc' := 4) rfl rfl rfl ?_
  refine g_getF hG X4 hx hZ hown (wd hw 20 rfl) Via.refl e4 F_size_a (hb hby d5_4) (pc' := 7) rfl ?_
  intro T5 X5 e5
  refine g_icmpNo hG X5 hx (hb hby d5_7) (pc' := 10) (by decide) rfl ?_
  refine g_aloadN hG X5 hx (hb hby d5_10) (pc' := 11) rfl rfl rfl ?_
  refine g_getF hG X5 hx hZ hown (wd hw 10 rfl) Via.refl e5 F_shares_a (hb hby d5_11) (pc' := 14) rfl ?_
  intro T6 X6 e6
  refine g_aloadN hG X6 hx (hb hby d5_14) (pc' := 15) rfl rfl rfl ?_
  refine g_getF hG X6 hx hZ hown (wd hw 13 rfl) Via.refl e6 F_held_a (hb hby d5_15) (pc' := 18) rfl ?_
  intro T7 X7 e7
  refine g_iloadN hG X7 hx (hb hby d5_18) (pc' := 19) rfl rfl ?_
  refine g_iaload hG X7 hx hZ e7 V_ha (j := (1 : Int32)) (v := (.int k1)) (in4_nn in4_1) (in4_at in4_1 hk1) (hb hby d5_19) (pc' := 20) rfl ?_
  refine g_dconst0 hG X7 hx (hb hby d5_20) (pc' := 21) rfl (v := (0 : UInt64)) rfl ?_
  refine g_dastore hG X7 hx hZ e7 V_sa (j := k1) (in4_nn ik1) (in4_lend ik1) (hb hby d5_21) (pc' := 22) rfl ?_
  intro T8 h8 X8 e8 W8 Vn8
  rw [in4_setd ik1] at Vn8
  have V_sa : AV Z h8 sa .double (4 : Int32) (fd4 (upd (upd sh k0 (0 : UInt64)) k1 (0 : UInt64))) := Vn8
  have Ex_a := Ex_a.wr W8
  have Ex_ha := Ex_ha.wr W8
  have F_shares_a := F_shares_a.other W8 (Or.inl d1)
  have F_held_a := F_held_a.other W8 (Or.inl d1)
  have F_size_a := F_size_a.other W8 (Or.inl d1)
  have V_ha := V_ha.other W8 (Ne.symm d3)
  have Zs := Nat.le_trans Zs (Wr.size W8)
  have NF8 := Fr.snoc X8 NF4 gsa
  have K8 := K4.wr W8 (Or.inl (List.mem_of_getElem? (i := 1) rfl))
  refine g_iinc hG X8 hx (hb hby d5_22) (pc' := 25) rfl rfl (v := (2 : Int32)) (by decide) (Ls' := #[.val (.ref a), .val (.int 2)]) rfl ?_
  refine g_goto hG X8 hx (hb hby d5_25) (pc' := 2) (by decide) (by decide) ?_
  refine g_iloadN hG X8 hx (hb hby d5_2) (pc' := 3) rfl rfl ?_
  refine g_aloadN hG X8 hx (hb hby d5_3) (pc' := 4) rfl rfl rfl ?_
  refine g_getF hG X8 hx hZ hown (wd hw 20 rfl) Via.refl e8 F_size_a (hb hby d5_4) (pc' := 7) rfl ?_
  intro T9 X9 e9
  refine g_icmpYes hG X9 hx (hb hby d5_7) (pc' := 28) (by decide) (by decide) (by decide) ?_
  refine g_aloadN hG X9 hx (hb hby d5_28) (pc' := 29) rfl rfl rfl ?_
  refine g_iconst hG X9 hx (hb hby d5_29) (pc' := 30) rfl (v := (0 : Int32)) rfl ?_
  refine g_putF hG X9 hx hZ hown (wd hw 20 rfl) Via.refl e9 F_size_a Ex_a (Or.inl (wd hw 21 rfl)) (wd hw 1 rfl) (v' := (.int 0)) (ty := .int) (by decide) rfl rfl (hb hby d5_30) (pc' := 33) rfl ?_
  intro T10 h10 X10 e10 W10
  have Ex_a := Ex_a.wr W10
  have Ex_ha := Ex_ha.wr W10
  have F_shares_a := F_shares_a.other W10 (Or.inr (slot_ne (Or.inr (wd hw 11 rfl)) (Or.inl (wd hw 21 rfl)) (by decide) (t := (.array .double)) (t' := .int) (by decide) (by decide)))
  have F_held_a := F_held_a.other W10 (Or.inr (slot_ne (Or.inr (wd hw 14 rfl)) (Or.inl (wd hw 21 rfl)) (by decide) (t := (.array .int)) (t' := .int) (by decide) (by decide)))
  have F_size_a := F_size_a.same W10
  have V_sa := V_sa.other W10 (Ne.symm d1)
  have V_ha := V_ha.other W10 (Ne.symm d2)
  have Zs := Nat.le_trans Zs (Wr.size W10)
  have NF10 := Fr.snoc X10 NF8 ga
  have K10 := K8.wr W10 (Or.inl (List.mem_of_getElem? (i := 0) rfl))
  exact e_ret0 hGe X10 hx hrt hlk (hb hby d5_33) e10 (by decide) (by decide) (⟨rfl, NF10, K10, Ex_a, Ex_ha, F_shares_a, F_held_a, F_size_a, V_sa, V_ha⟩)

def Q_rmRa4_3o (Z : State) (a sa ha : Addr) (sh : Int32 → UInt64) (hd : Int32 → Int32) (kk : Int32) (vv mm xx : UInt64) (h0 : Heap) (n0 : Nat) (v : Option Value) (h : Heap) (L : List Loc) : Prop := v = none ∧ Fr n0 L ∧ Keep h0 h [a, sa, ha] ∧ NS4 Z h a sa ha (3 : Int32) (upd sh kk mm) hd
set_option maxRecDepth 65536 in
set_option maxHeartbeats 40000000 in
theorem rmRa4_3o (l : Launch) (Z : State) (a0 : Array Value) (hw : ∀ d ∈ tables_1, d.before a0 Z = true) (ws : List Jvm.Cond) (a sa ha : Addr) (sh : Int32 → UInt64) (hd : Int32 → Int32) (kk : Int32) (vv mm xx : UInt64) (h0 : Heap) (n0 : Nat) (Zs : n0 ≤ h0.size) (NQ : NS4 Z h0 a sa ha (3 : Int32) sh hd) (DD : Dis n0 a sa ha) (ik : In4 kk) (nv : Jvm.Free.Fl.NoNaN64 vv) (hm : Jvm.Native.java_lang_Math.nans.pick64 true xx vv = mm) (hxx : sh kk = xx) (nx : Jvm.Free.Fl.NoNaN64 xx) (gx : FP.dcmp xx 0 = some .gt) :
    Con l (⟨"org/termsieve/mapping/Shares", "raise", "(ID)V"⟩ : MethodName) prog_78_method_2_code 4 none ws ({ frames := 1, cells := 0, slots := 0, locals := 40 } : Room) Z #[(.ref a), (.int kk), (.double vv)] h0 ({ frames := 1, cells := 0, slots := 0, locals := 40 } : Room).cells ({ frames := 1, cells := 0, slots := 0, locals := 40 } : Room).slots (Q_rmRa4_3o Z a sa ha sh hd kk vv mm xx h0 n0) := by
  refine Con.of (Ls := #[.val (.ref a), .val (.int kk), .val (.double vv), .second]) (plainFor_of_name (by first | (simp [plainName, overriddenIn]; done) | decide +kernel)) (fun m => by first | (simp [entryFrame, mkF, argsToLocals, Value.category]; done) | rfl) ?_
  intro p e s m below meth c s₁ G hGe hG hx hby hml hown hnm hrt hlk hZ X0 e0
  have hown : s.vm.findClass "org/termsieve/mapping/Shares" = some m.cls := hown
  have hnm : meth.name = "raise" := hnm
  have NF0 := Fr.nil n0
  obtain ⟨Ex_a, Ex_ha, F_shares_a, F_held_a, F_size_a, V_sa, V_ha⟩ := NQ
  obtain ⟨ga, gsa, gha, d1, d2, d3⟩ := DD
  have K0 := Keep.refl h0 [a, sa, ha]
  subst hm
  refine g_aloadN hG X0 hx (hb hby d3_0) (pc' := 1) rfl rfl rfl ?_
  refine g_getF hG X0 hx hZ hown (wd hw 10 rfl) Via.refl e0 F_shares_a (hb hby d3_1) (pc' := 4) rfl ?_
  intro T1 X1 e1
  refine g_iloadN hG X1 hx (hb hby d3_4) (pc' := 5) rfl rfl ?_
  refine g_daload hG X1 hx hZ e1 V_sa (j := kk) (v := (.double xx)) (in4_nn ik) (in4_atd ik hxx) (hb hby d3_5) (pc' := 6) rfl ?_
  refine g_dconst0 hG X1 hx (hb hby d3_6) (pc' := 7) rfl (v := (0 : UInt64)) rfl ?_
  obtain ⟨v7, q7⟩ : ∃ zz : Int32, cmpValue (FP.dcmp xx (0 : UInt64)) .l = zz := ⟨_, rfl⟩
  refine g_dcmp hG X1 hx (hb hby d3_7) (pc' := 8) rfl q7 ?_
  refine g_ifYes hG X1 hx (hb hby d3_8) (pc' := 28) (by rw [← q7, gx]; rfl) (by decide) (by decide) ?_
  refine g_aloadN hG X1 hx (hb hby d3_28) (pc' := 29) rfl rfl rfl ?_
  refine g_getF hG X1 hx hZ hown (wd hw 10 rfl) Via.refl e1 F_shares_a (hb hby d3_29) (pc' := 32) rfl ?_
  intro T2 X2 e2
  refine g_iloadN hG X2 hx (hb hby d3_32) (pc' := 33) rfl rfl ?_
  refine g_aloadN hG X2 hx (hb hby d3_33) (pc' := 34) rfl rfl rfl ?_
  refine g_getF hG X2 hx hZ hown (wd hw 10 rfl) Via.refl e2 F_shares_a (hb hby d3_34) (pc' := 37) rfl ?_
  intro T3 X3 e3
  refine g_iloadN hG X3 hx (hb hby d3_37) (pc' := 38) rfl rfl ?_
  refine g_daload hG X3 hx hZ e3 V_sa (j := kk) (v := (.double xx)) (in4_nn ik) (in4_atd ik hxx) (hb hby d3_38) (pc' := 39) rfl ?_
  refine g_dloadN hG X3 hx (hb hby d3_39) (pc' := 40) rfl rfl ?_
  refine g_natS hG X3 hx hZ (y := (⟨"java/lang/Math", "max", "(DD)D"⟩ : MethodName)) (val := (.double (Jvm.Native.java_lang_Math.nans.pick64 true xx vv))) 2 hown (wd hw 22 rfl) (wd hw 23 rfl) (wd hw 24 rfl) (wd hw 25 rfl) (by decide) (fun hc => Jvm.Free.Fl.Abs.maxD_pays xx vv hc (by decide) (by decide)) (by rw [hml]; rfl) pd_7 rfl (argsL := [(.double xx), (.double vv)]) (rest := [(.int kk), (.ref sa)]) rfl (Nat.le_of_eq rfl) (hb hby d3_40) e3 (by decide) (by decide) (⟨rfl, nx, nv⟩) (pc' := 43) rfl ?_
  intro T4 X4 e4
  show G (T4.setTop (mkF m 43 _ [(.double (Jvm.Native.java_lang_Math.nans.pick64 true xx vv)), (.int kk), (.ref sa)]))
  refine g_dastore hG X4 hx hZ e4 V_sa (j := kk) (in4_nn ik) (in4_lend ik) (hb hby d3_43) (pc' := 44) rfl ?_
  intro T5 h5 X5 e5 W5 Vn5
  rw [in4_setd ik] at Vn5
  have V_sa : AV Z h5 sa .double (4 : Int32) (fd4 (upd sh kk (Jvm.Native.java_lang_Math.nans.pick64 true xx vv))) := Vn5
  have Ex_a := Ex_a.wr W5
  have Ex_ha := Ex_ha.wr W5
  have F_shares_a := F_shares_a.other W5 (Or.inl d1)
  have F_held_a := F_held_a.other W5 (Or.inl d1)
  have F_size_a := F_size_a.other W5 (Or.inl d1)
  have V_ha := V_ha.other W5 (Ne.symm d3)
  have Zs := Nat.le_trans Zs (Wr.size W5)
  have NF5 := Fr.snoc X5 NF0 gsa
  have K5 := K0.wr W5 (Or.inl (List.mem_of_getElem? (i := 1) rfl))
  exact e_ret0 hGe X5 hx hrt hlk (hb hby d3_44) e5 (by decide) (by decide) (⟨rfl, NF5, K5, Ex_a, Ex_ha, F_shares_a, F_held_a, F_size_a, V_sa, V_ha⟩)

def Q_rmCl4_3 (Z : State) (a sa ha : Addr) (sh : Int32 → UInt64) (hd : Int32 → Int32) (k0 : Int32) (k1 : Int32) (k2 : Int32) (h0 : Heap) (n0 : Nat) (v : Option Value) (h : Heap) (L : List Loc) : Prop := v = none ∧ Fr n0 L ∧ Keep h0 h [a, sa, ha] ∧ NS4 Z h a sa ha (0 : Int32) (upd (upd (upd sh k0 0) k1 0) k2 0) hd
set_option maxRecDepth 65536 in
set_option maxHeartbeats 40000000 in
theorem rmCl4_3 (l : Launch) (Z : State) (a0 : Array Value) (hw : ∀ d ∈ tables_1, d.before a0 Z = true) (ws : List Jvm.Cond) (a sa ha : Addr) (sh : Int32 → UInt64) (hd : Int32 → Int32) (k0 : Int32) (k1 : Int32) (k2 : Int32) (h0 : Heap) (n0 : Nat) (Zs : n0 ≤ h0.size) (NQ : NS4 Z h0 a sa ha (3 : Int32) sh hd) (DD : Dis n0 a sa ha) (hk0 : hd (0 : Int32) = k0) (ik0 : In4 k0) (hk1 : hd (1 : Int32) = k1) (ik1 : In4 k1) (hk2 : hd (2 : Int32) = k2) (ik2 : In4 k2) :
    Con l (⟨"org/termsieve/mapping/Shares", "clear", "()V"⟩ : MethodName) prog_78_method_4_code 2 none ws ({ frames := 0, cells := 0, slots := 0, locals := 0 } : Room) Z #[(.ref a)] h0 ({ frames := 0, cells := 0, slots := 0, locals := 0 } : Room).cells ({ frames := 0, cells := 0, slots := 0, locals := 0 } : Room).slots (Q_rmCl4_3 Z a sa ha sh hd k0 k1 k2 h0 n0) := by
  refine Con.of (Ls := #[.val (.ref a), .unset]) (plainFor_of_name (by first | (simp [plainName, overriddenIn]; done) | decide +kernel)) (fun m => by first | (simp [entryFrame, mkF, argsToLocals, Value.category]; done) | rfl) ?_
  intro p e s m below meth c s₁ G hGe hG hx hby hml hown hnm hrt hlk hZ X0 e0
  have hown : s.vm.findClass "org/termsieve/mapping/Shares" = some m.cls := hown
  have hnm : meth.name = "clear" := hnm
  have NF0 := Fr.nil n0
  obtain ⟨Ex_a, Ex_ha, F_shares_a, F_held_a, F_size_a, V_sa, V_ha⟩ := NQ
  obtain ⟨ga, gsa, gha, d1, d2, d3⟩ := DD
  have K0 := Keep.refl h0 [a, sa, ha]
  refine g_iconst hG X0 hx (hb hby d5_0) (pc' := 1) rfl (v := (0 : Int32)) rfl ?_
  refine g_istoreN hG X0 hx (hb hby d5_1) (pc' := 2) rfl (Ls' := #[.val (.ref a), .val (.int 0)]) rfl ?_
  refine g_iloadN hG X0 hx (hb hby d5_2) (pc' := 3) rfl rfl ?_
  refine g_aloadN hG X0 hx (hb hby d5_3) (pc' := 4) rfl rfl rfl ?_
  refine g_getF hG X0 hx hZ hown (wd hw 20 rfl) Via.refl e0 F_size_a (hb hby d5_4) (pc' := 7) rfl ?_
  intro T1 X1 e1
  refine g_icmpNo hG X1 hx (hb hby d5_7) (pc' := 10) (by decide) rfl ?_
  refine g_aloadN hG X1 hx (hb hby d5_10) (pc' := 11) rfl rfl rfl ?_
  refine g_getF hG X1 hx hZ hown (wd hw 10 rfl) Via.refl e1 F_shares_a (hb hby d5_11) (pc' := 14) rfl ?_
  intro T2 X2 e2
  refine g_aloadN hG X2 hx (hb hby d5_14) (pc' := 15) rfl rfl rfl ?_
  refine g_getF hG X2 hx hZ hown (wd hw 13 rfl) Via.refl e2 F_held_a (hb hby d5_15) (pc' := 18) rfl ?_
  intro T3 X3 e3
  refine g_iloadN hG X3 hx (hb hby d5_18) (pc' := 19) rfl rfl ?_
  refine g_iaload hG X3 hx hZ e3 V_ha (j := (0 : Int32)) (v := (.int k0)) (in4_nn in4_0) (in4_at in4_0 hk0) (hb hby d5_19) (pc' := 20) rfl ?_
  refine g_dconst0 hG X3 hx (hb hby d5_20) (pc' := 21) rfl (v := (0 : UInt64)) rfl ?_
  refine g_dastore hG X3 hx hZ e3 V_sa (j := k0) (in4_nn ik0) (in4_lend ik0) (hb hby d5_21) (pc' := 22) rfl ?_
  intro T4 h4 X4 e4 W4 Vn4
  rw [in4_setd ik0] at Vn4
  have V_sa : AV Z h4 sa .double (4 : Int32) (fd4 (upd sh k0 (0 : UInt64))) := Vn4
  have Ex_a := Ex_a.wr W4
  have Ex_ha := Ex_ha.wr W4
  have F_shares_a := F_shares_a.other W4 (Or.inl d1)
  have F_held_a := F_held_a.other W4 (Or.inl d1)
  have F_size_a := F_size_a.other W4 (Or.inl d1)
  have V_ha := V_ha.other W4 (Ne.symm d3)
  have Zs := Nat.le_trans Zs (Wr.size W4)
  have NF4 := Fr.snoc X4 NF0 gsa
  have K4 := K0.wr W4 (Or.inl (List.mem_of_getElem? (i := 1) rfl))
  refine g_iinc hG X4 hx (hb hby d5_22) (pc' := 25) rfl rfl (v := (1 : Int32)) (by decide) (Ls' := #[.val (.ref a), .val (.int 1)]) rfl ?_
  refine g_goto hG X4 hx (hb hby d5_25) (pc' := 2) (by decide) (by decide) ?_
  refine g_iloadN hG X4 hx (hb hby d5_2) (pc' := 3) rfl rfl ?_
  refine g_aloadN hG X4 hx (hb hby d5_3) (pc' := 4) rfl rfl rfl ?_
  refine g_getF hG X4 hx hZ hown (wd hw 20 rfl) Via.refl e4 F_size_a (hb hby d5_4) (pc' := 7) rfl ?_
  intro T5 X5 e5
  refine g_icmpNo hG X5 hx (hb hby d5_7) (pc' := 10) (by decide) rfl ?_
  refine g_aloadN hG X5 hx (hb hby d5_10) (pc' := 11) rfl rfl rfl ?_
  refine g_getF hG X5 hx hZ hown (wd hw 10 rfl) Via.refl e5 F_shares_a (hb hby d5_11) (pc' := 14) rfl ?_
  intro T6 X6 e6
  refine g_aloadN hG X6 hx (hb hby d5_14) (pc' := 15) rfl rfl rfl ?_
  refine g_getF hG X6 hx hZ hown (wd hw 13 rfl) Via.refl e6 F_held_a (hb hby d5_15) (pc' := 18) rfl ?_
  intro T7 X7 e7
  refine g_iloadN hG X7 hx (hb hby d5_18) (pc' := 19) rfl rfl ?_
  refine g_iaload hG X7 hx hZ e7 V_ha (j := (1 : Int32)) (v := (.int k1)) (in4_nn in4_1) (in4_at in4_1 hk1) (hb hby d5_19) (pc' := 20) rfl ?_
  refine g_dconst0 hG X7 hx (hb hby d5_20) (pc' := 21) rfl (v := (0 : UInt64)) rfl ?_
  refine g_dastore hG X7 hx hZ e7 V_sa (j := k1) (in4_nn ik1) (in4_lend ik1) (hb hby d5_21) (pc' := 22) rfl ?_
  intro T8 h8 X8 e8 W8 Vn8
  rw [in4_setd ik1] at Vn8
  have V_sa : AV Z h8 sa .double (4 : Int32) (fd4 (upd (upd sh k0 (0 : UInt64)) k1 (0 : UInt64))) := Vn8
  have Ex_a := Ex_a.wr W8
  have Ex_ha := Ex_ha.wr W8
  have F_shares_a := F_shares_a.other W8 (Or.inl d1)
  have F_held_a := F_held_a.other W8 (Or.inl d1)
  have F_size_a := F_size_a.other W8 (Or.inl d1)
  have V_ha := V_ha.other W8 (Ne.symm d3)
  have Zs := Nat.le_trans Zs (Wr.size W8)
  have NF8 := Fr.snoc X8 NF4 gsa
  have K8 := K4.wr W8 (Or.inl (List.mem_of_getElem? (i := 1) rfl))
  refine g_iinc hG X8 hx (hb hby d5_22) (pc' := 25) rfl rfl (v := (2 : Int32)) (by decide) (Ls' := #[.val (.ref a), .val (.int 2)]) rfl ?_
  refine g_goto hG X8 hx (hb hby d5_25) (pc' := 2) (by decide) (by decide) ?_
  refine g_iloadN hG X8 hx (hb hby d5_2) (pc' := 3) rfl rfl ?_
  refine g_aloadN hG X8 hx (hb hby d5_3) (pc' := 4) rfl rfl rfl ?_
  refine g_getF hG X8 hx hZ hown (wd hw 20 rfl) Via.refl e8 F_size_a (hb hby d5_4) (pc' := 7) rfl ?_
  intro T9 X9 e9
  refine g_icmpNo hG X9 hx (hb hby d5_7) (pc' := 10) (by decide) rfl ?_
  refine g_aloadN hG X9 hx (hb hby d5_10) (pc' := 11) rfl rfl rfl ?_
  refine g_getF hG X9 hx hZ hown (wd hw 10 rfl) Via.refl e9 F_shares_a (hb hby d5_11) (pc' := 14) rfl ?_
  intro T10 X10 e10
  refine g_aloadN hG X10 hx (hb hby d5_14) (pc' := 15) rfl rfl rfl ?_
  refine g_getF hG X10 hx hZ hown (wd hw 13 rfl) Via.refl e10 F_held_a (hb hby d5_15) (pc' := 18) rfl ?_
  intro T11 X11 e11
  refine g_iloadN hG X11 hx (hb hby d5_18) (pc' := 19) rfl rfl ?_
  refine g_iaload hG X11 hx hZ e11 V_ha (j := (2 : Int32)) (v := (.int k2)) (in4_nn in4_2) (in4_at in4_2 hk2) (hb hby d5_19) (pc' := 20) rfl ?_
  refine g_dconst0 hG X11 hx (hb hby d5_20) (pc' := 21) rfl (v := (0 : UInt64)) rfl ?_
  refine g_dastore hG X11 hx hZ e11 V_sa (j := k2) (in4_nn ik2) (in4_lend ik2) (hb hby d5_21) (pc' := 22) rfl ?_
  intro T12 h12 X12 e12 W12 Vn12
  rw [in4_setd ik2] at Vn12
  have V_sa : AV Z h12 sa .double (4 : Int32) (fd4 (upd (upd (upd sh k0 (0 : UInt64)) k1 (0 : UInt64)) k2 (0 : UInt64))) := Vn12
  have Ex_a := Ex_a.wr W12
  have Ex_ha := Ex_ha.wr W12
  have F_shares_a := F_shares_a.other W12 (Or.inl d1)
  have F_held_a := F_held_a.other W12 (Or.inl d1)
  have F_size_a := F_size_a.other W12 (Or.inl d1)
  have V_ha := V_ha.other W12 (Ne.symm d3)
  have Zs := Nat.le_trans Zs (Wr.size W12)
  have NF12 := Fr.snoc X12 NF8 gsa
  have K12 := K8.wr W12 (Or.inl (List.mem_of_getElem? (i := 1) rfl))
  refine g_iinc hG X12 hx (hb hby d5_22) (pc' := 25) rfl rfl (v := (3 : Int32)) (by decide) (Ls' := #[.val (.ref a), .val (.int 3)]) rfl ?_
  refine g_goto hG X12 hx (hb hby d5_25) (pc' := 2) (by decide) (by decide) ?_
  refine g_iloadN hG X12 hx (hb hby d5_2) (pc' := 3) rfl rfl ?_
  refine g_aloadN hG X12 hx (hb hby d5_3) (pc' := 4) rfl rfl rfl ?_
  refine g_getF hG X12 hx hZ hown (wd hw 20 rfl) Via.refl e12 F_size_a (hb hby d5_4) (pc' := 7) rfl ?_
  intro T13 X13 e13
  refine g_icmpYes hG X13 hx (hb hby d5_7) (pc' := 28) (by decide) (by decide) (by decide) ?_
  refine g_aloadN hG X13 hx (hb hby d5_28) (pc' := 29) rfl rfl rfl ?_
  refine g_iconst hG X13 hx (hb hby d5_29) (pc' := 30) rfl (v := (0 : Int32)) rfl ?_
  refine g_putF hG X13 hx hZ hown (wd hw 20 rfl) Via.refl e13 F_size_a Ex_a (Or.inl (wd hw 21 rfl)) (wd hw 1 rfl) (v' := (.int 0)) (ty := .int) (by decide) rfl rfl (hb hby d5_30) (pc' := 33) rfl ?_
  intro T14 h14 X14 e14 W14
  have Ex_a := Ex_a.wr W14
  have Ex_ha := Ex_ha.wr W14
  have F_shares_a := F_shares_a.other W14 (Or.inr (slot_ne (Or.inr (wd hw 11 rfl)) (Or.inl (wd hw 21 rfl)) (by decide) (t := (.array .double)) (t' := .int) (by decide) (by decide)))
  have F_held_a := F_held_a.other W14 (Or.inr (slot_ne (Or.inr (wd hw 14 rfl)) (Or.inl (wd hw 21 rfl)) (by decide) (t := (.array .int)) (t' := .int) (by decide) (by decide)))
  have F_size_a := F_size_a.same W14
  have V_sa := V_sa.other W14 (Ne.symm d1)
  have V_ha := V_ha.other W14 (Ne.symm d2)
  have Zs := Nat.le_trans Zs (Wr.size W14)
  have NF14 := Fr.snoc X14 NF12 ga
  have K14 := K12.wr W14 (Or.inl (List.mem_of_getElem? (i := 0) rfl))
  exact e_ret0 hGe X14 hx hrt hlk (hb hby d5_33) e14 (by decide) (by decide) (⟨rfl, NF14, K14, Ex_a, Ex_ha, F_shares_a, F_held_a, F_size_a, V_sa, V_ha⟩)

def Q_rm0 (Z : State) (i0 i1 i2 i3 : Int32) (h0 : Heap) (n0 : Nat) (v : Option Value) (h : Heap) (L : List Loc) : Prop := v = some (.int 1) ∧ Fr n0 L
set_option maxRecDepth 65536 in
set_option maxHeartbeats 40000000 in
theorem rm0 (l : Launch) (Z : State) (a0 : Array Value) (hw : ∀ d ∈ tables_1, d.before a0 Z = true) (ws : List Jvm.Cond) (i0 i1 i2 i3 : Int32) (h0 : Heap) (n0 : Nat) (Zs : n0 ≤ h0.size)  :
    Con l x code maxLocals ret ws room_1 Z #[(.int i0), (.int i1), (.int i2), (.int i3)] h0 room_1.cells room_1.slots (Q_rm0 Z i0 i1 i2 i3 h0 n0) := by
  refine Con.of (Ls := #[.val (.int i0), .val (.int i1), .val (.int i2), .val (.int i3), .unset, .unset, .unset, .unset, .unset, .unset, .unset, .unset, .unset, .unset, .unset, .unset, .unset, .unset, .unset, .unset, .unset]) (plainFor_of_name (by first | (simp [plainName, overriddenIn]; done) | decide +kernel)) (fun m => by first | (simp [entryFrame, mkF, argsToLocals, Value.category, maxLocals]; done) | rfl) ?_
  intro p e s m below meth c s₁ G hGe hG hx hby hml hown hnm hrt hlk hZ X0 e0
  have hml : c.maxLocals = 21 := hml
  have hown : s.vm.findClass "org/termsieve/mapping/SharesClearPinLaw" = some m.cls := hown
  have hnm : meth.name = "law" := hnm
  have NF0 := Fr.nil n0
  refine g_iconst hG X0 hx (hb hby at_0) (pc' := 1) rfl (v := (1 : Int32)) rfl ?_
  refine g_iloadN hG X0 hx (hb hby at_1) (pc' := 2) rfl rfl ?_
  refine g_iconst hG X0 hx (hb hby at_2) (pc' := 3) rfl (v := (3 : Int32)) rfl ?_
  obtain ⟨v3, q3⟩ : ∃ zz : Int32, i0 &&& (3 : Int32) = zz := ⟨_, rfl⟩
  refine g_iand hG X0 hx (hb hby at_3) (pc' := 4) rfl q3 ?_
  obtain ⟨v4, q4⟩ : ∃ zz : Int32, (1 : Int32) + v3 = zz := ⟨_, rfl⟩
  refine g_iadd hG X0 hx (hb hby at_4) (pc' := 5) rfl q4 ?_
  have hn : v4 = 1 ∨ v4 = 2 ∨ v4 = 3 ∨ v4 = 4 := by
    have h := c_and i0 3 (by decide)
    rw [q3, show (3 : Int32).toInt = 3 by decide] at h
    have g := c_iadd 1 v3
    have r := rng32 v4
    rw [q4, show (1 : Int32).toInt = 1 by decide] at g
    simp only [← Int32.toInt_inj, show (1 : Int32).toInt = 1 by decide, show (2 : Int32).toInt = 2 by decide, show (3 : Int32).toInt = 3 by decide, show (4 : Int32).toInt = 4 by decide]
    omega
  rcases hn with rfl | rfl | rfl | rfl
  · skip
    refine g_istore hG X0 hx (hb hby at_5) (pc' := 7) rfl (Ls' := #[.val (.int i0), .val (.int i1), .val (.int i2), .val (.int i3), .val (.int 1), .unset, .unset, .unset, .unset, .unset, .unset, .unset, .unset, .unset, .unset, .unset, .unset, .unset, .unset, .unset, .unset]) rfl ?_
    refine g_iloadN hG X0 hx (hb hby at_7) (pc' := 8) rfl rfl ?_
    refine g_iconst hG X0 hx (hb hby at_8) (pc' := 9) rfl (v := (3 : Int32)) rfl ?_
    obtain ⟨v9, q9⟩ : ∃ zz : Int32, i1 &&& (3 : Int32) = zz := ⟨_, rfl⟩
    refine g_iand hG X0 hx (hb hby at_9) (pc' := 10) rfl q9 ?_
    refine g_istore hG X0 hx (hb hby at_10) (pc' := 12) rfl (Ls' := #[.val (.int i0), .val (.int i1), .val (.int i2), .val (.int i3), .val (.int 1), .val (.int v9), .unset, .unset, .unset, .unset, .unset, .unset, .unset, .unset, .unset, .unset, .unset, .unset, .unset, .unset, .unset]) rfl ?_
    refine g_iloadN hG X0 hx (hb hby at_12) (pc' := 13) rfl rfl ?_
    refine g_iconst hG X0 hx (hb hby at_13) (pc' := 14) rfl (v := (3 : Int32)) rfl ?_
    obtain ⟨v14, q14⟩ : ∃ zz : Int32, i2 &&& (3 : Int32) = zz := ⟨_, rfl⟩
    refine g_iand hG X0 hx (hb hby at_14) (pc' := 15) rfl q14 ?_
    refine g_iload hG X0 hx (hb hby at_15) (pc' := 17) rfl rfl ?_
    obtain ⟨v17, q17⟩ : ∃ zz : Int32, v14 % (1 : Int32) = zz := ⟨_, rfl⟩
    refine g_irem hG X0 hx (hb hby at_17) (pc' := 18) rfl (by decide) q17 ?_
    refine g_istore hG X0 hx (hb hby at_18) (pc' := 20) rfl (Ls' := #[.val (.int i0), .val (.int i1), .val (.int i2), .val (.int i3), .val (.int 1), .val (.int v9), .val (.int v17), .unset, .unset, .unset, .unset, .unset, .unset, .unset, .unset, .unset, .unset, .unset, .unset, .unset, .unset]) rfl ?_
    refine g_iloadN hG X0 hx (hb hby at_20) (pc' := 21) rfl rfl ?_
    refine g_iconst hG X0 hx (hb hby at_21) (pc' := 22) rfl (v := (2 : Int32)) rfl ?_
    obtain ⟨v22, q22⟩ : ∃ zz : Int32, (i2.toUInt32 >>> ((2 : Int32) &&& 31).toUInt32).toInt32 = zz := ⟨_, rfl⟩
    refine g_iushr hG X0 hx (hb hby at_22) (pc' := 23) rfl q22 ?_
    refine g_iconst hG X0 hx (hb hby at_23) (pc' := 24) rfl (v := (3 : Int32)) rfl ?_
    obtain ⟨v24, q24⟩ : ∃ zz : Int32, v22 &&& (3 : Int32) = zz := ⟨_, rfl⟩
    refine g_iand hG X0 hx (hb hby at_24) (pc' := 25) rfl q24 ?_
    refine g_iload hG X0 hx (hb hby at_25) (pc' := 27) rfl rfl ?_
    obtain ⟨v27, q27⟩ : ∃ zz : Int32, v24 % (1 : Int32) = zz := ⟨_, rfl⟩
    refine g_irem hG X0 hx (hb hby at_27) (pc' := 28) rfl (by decide) q27 ?_
    refine g_istore hG X0 hx (hb hby at_28) (pc' := 30) rfl (Ls' := #[.val (.int i0), .val (.int i1), .val (.int i2), .val (.int i3), .val (.int 1), .val (.int v9), .val (.int v17), .val (.int v27), .unset, .unset, .unset, .unset, .unset, .unset, .unset, .unset, .unset, .unset, .unset, .unset, .unset]) rfl ?_
    refine g_iloadN hG X0 hx (hb hby at_30) (pc' := 31) rfl rfl ?_
    refine g_iconst hG X0 hx (hb hby at_31) (pc' := 32) rfl (v := (4 : Int32)) rfl ?_
    obtain ⟨v32, q32⟩ : ∃ zz : Int32, (i2.toUInt32 >>> ((4 : Int32) &&& 31).toUInt32).toInt32 = zz := ⟨_, rfl⟩
    refine g_iushr hG X0 hx (hb hby at_32) (pc' := 33) rfl q32 ?_
    refine g_iconst hG X0 hx (hb hby at_33) (pc' := 34) rfl (v := (3 : Int32)) rfl ?_
    obtain ⟨v34, q34⟩ : ∃ zz : Int32, v32 &&& (3 : Int32) = zz := ⟨_, rfl⟩
    refine g_iand hG X0 hx (hb hby at_34) (pc' := 35) rfl q34 ?_
    refine g_iload hG X0 hx (hb hby at_35) (pc' := 37) rfl rfl ?_
    obtain ⟨v37, q37⟩ : ∃ zz : Int32, v34 % (1 : Int32) = zz := ⟨_, rfl⟩
    refine g_irem hG X0 hx (hb hby at_37) (pc' := 38) rfl (by decide) q37 ?_
    refine g_istore hG X0 hx (hb hby at_38) (pc' := 40) rfl (Ls' := #[.val (.int i0), .val (.int i1), .val (.int i2), .val (.int i3), .val (.int 1), .val (.int v9), .val (.int v17), .val (.int v27), .val (.int v37), .unset, .unset, .unset, .unset, .unset, .unset, .unset, .unset, .unset, .unset, .unset, .unset]) rfl ?_
    refine g_iconst hG X0 hx (hb hby at_40) (pc' := 41) rfl (v := (1 : Int32)) rfl ?_
    refine g_iloadN hG X0 hx (hb hby at_41) (pc' := 42) rfl rfl ?_
    refine g_bipush hG X0 hx (hb hby at_42) (pc' := 44) rfl (v := (6 : Int32)) rfl ?_
    obtain ⟨v44, q44⟩ : ∃ zz : Int32, (i2.toUInt32 >>> ((6 : Int32) &&& 31).toUInt32).toInt32 = zz := ⟨_, rfl⟩
    refine g_iushr hG X0 hx (hb hby at_44) (pc' := 45) rfl q44 ?_
    refine g_bipush hG X0 hx (hb hby at_45) (pc' := 47) rfl (v := (7 : Int32)) rfl ?_
    obtain ⟨v47, q47⟩ : ∃ zz : Int32, v44 &&& (7 : Int32) = zz := ⟨_, rfl⟩
    refine g_iand hG X0 hx (hb hby at_47) (pc' := 48) rfl q47 ?_
    obtain ⟨v48, q48⟩ : ∃ zz : Int32, (1 : Int32) + v47 = zz := ⟨_, rfl⟩
    refine g_iadd hG X0 hx (hb hby at_48) (pc' := 49) rfl q48 ?_
    obtain ⟨v49, q49⟩ : ∃ zz : UInt64, FP.i2d v48 = zz := ⟨_, rfl⟩
    refine g_i2d hG X0 hx (hb hby at_49) (pc' := 50) rfl q49 ?_
    refine g_dstore hG X0 hx (hb hby at_50) (pc' := 52) rfl (Ls' := #[.val (.int i0), .val (.int i1), .val (.int i2), .val (.int i3), .val (.int 1), .val (.int v9), .val (.int v17), .val (.int v27), .val (.int v37), .val (.double v49), .second, .unset, .unset, .unset, .unset, .unset, .unset, .unset, .unset, .unset, .unset]) rfl ?_
    refine g_iconst hG X0 hx (hb hby at_52) (pc' := 53) rfl (v := (1 : Int32)) rfl ?_
    refine g_iloadN hG X0 hx (hb hby at_53) (pc' := 54) rfl rfl ?_
    refine g_bipush hG X0 hx (hb hby at_54) (pc' := 56) rfl (v := (9 : Int32)) rfl ?_
    obtain ⟨v56, q56⟩ : ∃ zz : Int32, (i2.toUInt32 >>> ((9 : Int32) &&& 31).toUInt32).toInt32 = zz := ⟨_, rfl⟩
    refine g_iushr hG X0 hx (hb hby at_56) (pc' := 57) rfl q56 ?_
    refine g_bipush hG X0 hx (hb hby at_57) (pc' := 59) rfl (v := (7 : Int32)) rfl ?_
    obtain ⟨v59, q59⟩ : ∃ zz : Int32, v56 &&& (7 : Int32) = zz := ⟨_, rfl⟩
    refine g_iand hG X0 hx (hb hby at_59) (pc' := 60) rfl q59 ?_
    obtain ⟨v60, q60⟩ : ∃ zz : Int32, (1 : Int32) + v59 = zz := ⟨_, rfl⟩
    refine g_iadd hG X0 hx (hb hby at_60) (pc' := 61) rfl q60 ?_
    obtain ⟨v61, q61⟩ : ∃ zz : UInt64, FP.i2d v60 = zz := ⟨_, rfl⟩
    refine g_i2d hG X0 hx (hb hby at_61) (pc' := 62) rfl q61 ?_
    refine g_dstore hG X0 hx (hb hby at_62) (pc' := 64) rfl (Ls' := #[.val (.int i0), .val (.int i1), .val (.int i2), .val (.int i3), .val (.int 1), .val (.int v9), .val (.int v17), .val (.int v27), .val (.int v37), .val (.double v49), .second, .val (.double v61), .second, .unset, .unset, .unset, .unset, .unset, .unset, .unset, .unset]) rfl ?_
    refine g_iconst hG X0 hx (hb hby at_64) (pc' := 65) rfl (v := (1 : Int32)) rfl ?_
    refine g_iloadN hG X0 hx (hb hby at_65) (pc' := 66) rfl rfl ?_
    refine g_bipush hG X0 hx (hb hby at_66) (pc' := 68) rfl (v := (12 : Int32)) rfl ?_
    obtain ⟨v68, q68⟩ : ∃ zz : Int32, (i2.toUInt32 >>> ((12 : Int32) &&& 31).toUInt32).toInt32 = zz := ⟨_, rfl⟩
    refine g_iushr hG X0 hx (hb hby at_68) (pc' := 69) rfl q68 ?_
    refine g_bipush hG X0 hx (hb hby at_69) (pc' := 71) rfl (v := (7 : Int32)) rfl ?_
    obtain ⟨v71, q71⟩ : ∃ zz : Int32, v68 &&& (7 : Int32) = zz := ⟨_, rfl⟩
    refine g_iand hG X0 hx (hb hby at_71) (pc' := 72) rfl q71 ?_
    obtain ⟨v72, q72⟩ : ∃ zz : Int32, (1 : Int32) + v71 = zz := ⟨_, rfl⟩
    refine g_iadd hG X0 hx (hb hby at_72) (pc' := 73) rfl q72 ?_
    obtain ⟨v73, q73⟩ : ∃ zz : UInt64, FP.i2d v72 = zz := ⟨_, rfl⟩
    refine g_i2d hG X0 hx (hb hby at_73) (pc' := 74) rfl q73 ?_
    refine g_dstore hG X0 hx (hb hby at_74) (pc' := 76) rfl (Ls' := #[.val (.int i0), .val (.int i1), .val (.int i2), .val (.int i3), .val (.int 1), .val (.int v9), .val (.int v17), .val (.int v27), .val (.int v37), .val (.double v49), .second, .val (.double v61), .second, .val (.double v73), .second, .unset, .unset, .unset, .unset, .unset, .unset]) rfl ?_
    refine g_iloadN hG X0 hx (hb hby at_76) (pc' := 77) rfl rfl ?_
    refine g_iconst hG X0 hx (hb hby at_77) (pc' := 78) rfl (v := (3 : Int32)) rfl ?_
    obtain ⟨v78, q78⟩ : ∃ zz : Int32, i3 &&& (3 : Int32) = zz := ⟨_, rfl⟩
    refine g_iand hG X0 hx (hb hby at_78) (pc' := 79) rfl q78 ?_
    refine g_iload hG X0 hx (hb hby at_79) (pc' := 81) rfl rfl ?_
    obtain ⟨v81, q81⟩ : ∃ zz : Int32, v78 % (1 : Int32) = zz := ⟨_, rfl⟩
    refine g_irem hG X0 hx (hb hby at_81) (pc' := 82) rfl (by decide) q81 ?_
    refine g_istore hG X0 hx (hb hby at_82) (pc' := 84) rfl (Ls' := #[.val (.int i0), .val (.int i1), .val (.int i2), .val (.int i3), .val (.int 1), .val (.int v9), .val (.int v17), .val (.int v27), .val (.int v37), .val (.double v49), .second, .val (.double v61), .second, .val (.double v73), .second, .val (.int v81), .unset, .unset, .unset, .unset, .unset]) rfl ?_
    refine g_iconst hG X0 hx (hb hby at_84) (pc' := 85) rfl (v := (1 : Int32)) rfl ?_
    refine g_iloadN hG X0 hx (hb hby at_85) (pc' := 86) rfl rfl ?_
    refine g_iconst hG X0 hx (hb hby at_86) (pc' := 87) rfl (v := (2 : Int32)) rfl ?_
    obtain ⟨v87, q87⟩ : ∃ zz : Int32, (i3.toUInt32 >>> ((2 : Int32) &&& 31).toUInt32).toInt32 = zz := ⟨_, rfl⟩
    refine g_iushr hG X0 hx (hb hby at_87) (pc' := 88) rfl q87 ?_
    refine g_bipush hG X0 hx (hb hby at_88) (pc' := 90) rfl (v := (7 : Int32)) rfl ?_
    obtain ⟨v90, q90⟩ : ∃ zz : Int32, v87 &&& (7 : Int32) = zz := ⟨_, rfl⟩
    refine g_iand hG X0 hx (hb hby at_90) (pc' := 91) rfl q90 ?_
    obtain ⟨v91, q91⟩ : ∃ zz : Int32, (1 : Int32) + v90 = zz := ⟨_, rfl⟩
    refine g_iadd hG X0 hx (hb hby at_91) (pc' := 92) rfl q91 ?_
    obtain ⟨v92, q92⟩ : ∃ zz : UInt64, FP.i2d v91 = zz := ⟨_, rfl⟩
    refine g_i2d hG X0 hx (hb hby at_92) (pc' := 93) rfl q92 ?_
    refine g_dstore hG X0 hx (hb hby at_93) (pc' := 95) rfl (Ls' := #[.val (.int i0), .val (.int i1), .val (.int i2), .val (.int i3), .val (.int 1), .val (.int v9), .val (.int v17), .val (.int v27), .val (.int v37), .val (.double v49), .second, .val (.double v61), .second, .val (.double v73), .second, .val (.int v81), .val (.double v92), .second, .unset, .unset, .unset]) rfl ?_
    have ik0 : In1 v17 := by rw [← q17]; exact in1_of (by rw [← q14]; exact (c_and _ 3 (by decide)).1)
    have ik1 : In1 v27 := by rw [← q27]; exact in1_of (by rw [← q24]; exact (c_and _ 3 (by decide)).1)
    have ik2 : In1 v37 := by rw [← q37]; exact in1_of (by rw [← q34]; exact (c_and _ 3 (by decide)).1)
    have ik : In1 v81 := by rw [← q81]; exact in1_of (by rw [← q78]; exact (c_and _ 3 (by decide)).1)
    obtain ⟨D49, P49⟩ := own_val _ _ _ q47 q48
    rw [q49] at D49
    obtain ⟨D61, P61⟩ := own_val _ _ _ q59 q60
    rw [q61] at D61
    obtain ⟨D73, P73⟩ := own_val _ _ _ q71 q72
    rw [q73] at D73
    obtain ⟨D92, P92⟩ := own_val _ _ _ q90 q91
    rw [q92] at D92
    refine g_newO hG X0 hx hZ hown (wd hw 0 rfl) (wd hw 1 rfl) (wd hw 2 rfl) e0 (hb hby at_95) (by decide) (by decide) (pc' := 98) rfl ?_
    intro T1 h1 a gs1 X1 e1 E1 Aq1 Dq1
    have ge_a : n0 ≤ a := gs1 ▸ Zs
    have Zs := Nat.le_trans Zs E1.1
    have Ex_a := Aq1
    have F_shares_a : Fld Z h1 a "org/termsieve/mapping/Shares" "shares" "[D" .null := Dq1 (Or.inr (wd hw 11 rfl)) (ty := (.array .double)) (by decide)
    have F_held_a : Fld Z h1 a "org/termsieve/mapping/Shares" "held" "[I" .null := Dq1 (Or.inr (wd hw 14 rfl)) (ty := (.array .int)) (by decide)
    have F_size_a : Fld Z h1 a "org/termsieve/mapping/Shares" "size" "I" (.int 0) := Dq1 (Or.inl (wd hw 21 rfl)) (ty := .int) (by decide)
    refine g_dup hG X1 hx (hb hby at_98) (pc' := 99) rfl rfl ?_
    refine g_iload hG X1 hx (hb hby at_99) (pc' := 101) rfl rfl ?_
    have lt_a := Ex_a.lt
    refine g_callI hG X1 hx hZ (y := (⟨"org/termsieve/mapping/Shares", "<init>", "(I)V"⟩ : MethodName)) 1 rfl hown (wd hw 3 rfl) (wd hw 4 rfl) (wd hw 2 rfl) (wd hw 5 rfl) (by decide) (rmNew1 l Z a0 hw [] a h1 n0 Zs ge_a Ex_a F_shares_a F_held_a F_size_a) (by decide) (by decide) (by rw [hml]; rfl) pd_8 rfl (argsL := [(.int 1)]) (rest := [(.ref a)]) rfl rfl (Nat.le_of_eq rfl) (hb hby at_101) e1 (by decide) (by decide) (pc' := 104) rfl ?_
    intro T2 rv2 L2 X2 hQ2
    obtain ⟨sa, ha, rfl, Nq2, Kq2, sz_sa, sz_ha, d3, Ex_a, Ex_ha, F_shares_a, F_held_a, F_size_a, V_sa, V_ha⟩ := hQ2
    have NF2 := Fr.app NF0 Nq2
    have gsa : n0 ≤ sa := Nat.le_trans Zs sz_sa
    have gha : n0 ≤ ha := Nat.le_trans Zs sz_ha
    have d1 : a ≠ sa := Nat.ne_of_lt (Nat.lt_of_lt_of_le lt_a sz_sa)
    have d2 : a ≠ ha := Nat.ne_of_lt (Nat.lt_of_lt_of_le lt_a sz_ha)
    have ga := ge_a
    have Zs := Nat.le_trans Zs Kq2.1
    show G (T2.setTop (mkF m 104 _ [(.ref a)]))
    refine g_astore hG X2 hx (hb hby at_104) (pc' := 106) rfl rfl (Ls' := #[.val (.int i0), .val (.int i1), .val (.int i2), .val (.int i3), .val (.int 1), .val (.int v9), .val (.int v17), .val (.int v27), .val (.int v37), .val (.double v49), .second, .val (.double v61), .second, .val (.double v73), .second, .val (.int v81), .val (.double v92), .second, .val (.ref a), .unset, .unset]) rfl ?_
    have b9 : v9 = 0 ∨ v9 = 1 ∨ v9 = 2 ∨ v9 = 3 := own_cnt4 (by rw [← q9]; exact (c_and i1 3 (by decide)).1) (by rw [← q9]; exact (c_and i1 3 (by decide)).2)
    have JC : ∀ (Tj3 : State) (hj3 : Heap) (Lj3 : List Loc) (shz : Int32 → UInt64) (hdz : Int32 → Int32) (w5 w6 w7 w8 : Int32), Stand p l e room_1 s m #[(.int i0), (.int i1), (.int i2), (.int i3)] below meth c Tj3 Lj3 3 5 → Tj3.heap = hj3 → Fr n0 Lj3 → n0 ≤ hj3.size → Exa Z hj3 a "org/termsieve/mapping/Shares" → Exa Z hj3 ha "[I" → Fld Z hj3 a "org/termsieve/mapping/Shares" "shares" "[D" (.ref sa) → Fld Z hj3 a "org/termsieve/mapping/Shares" "held" "[I" (.ref ha) → Fld Z hj3 a "org/termsieve/mapping/Shares" "size" "I" (.int 0) → AV Z hj3 sa .double (1 : Int32) (fd1 shz) → AV Z hj3 ha .int (1 : Int32) (fn1 hdz) → (∀ j, In1 j → shz j = 0) → G (Tj3.setTop (mkF m 156 #[.val (.int i0), .val (.int i1), .val (.int i2), .val (.int i3), .val (.int 1), .val (.int w5), .val (.int w6), .val (.int w7), .val (.int w8), .val (.double v49), .second, .val (.double v61), .second, .val (.double v73), .second, .val (.int v81), .val (.double v92), .second, .val (.ref a), .unset, .unset] [])) := by
      intro Tj3 hj3 Lj3 shz hdz w5 w6 w7 w8 Xj3 ej3 NFj3 Zs  Ex_a Ex_ha F_shares_a F_held_a F_size_a V_sa V_ha hz
      refine g_aload hG Xj3 hx (hb hby at_156) (pc' := 158) rfl rfl rfl ?_
      refine g_callV hG Xj3 hx hZ (y := (⟨"org/termsieve/mapping/Shares", "held", "()[I"⟩ : MethodName)) 0 hown (wd hw 31 rfl) (wd hw 32 rfl) (wd hw 34 rfl) (wd hw 33 rfl) (wd hw 2 rfl) (wd hw 35 rfl) (by decide) (rmHe1_0 l Z a0 hw [] a sa ha shz hdz  hj3 n0 Zs ⟨Ex_a, Ex_ha, F_shares_a, F_held_a, F_size_a, V_sa, V_ha⟩ ⟨ga, gsa, gha, d1, d2, d3⟩) (by decide) (by decide) (by rw [hml]; rfl) pd_9 rfl (argsL := []) (rest := []) rfl rfl (Nat.le_of_eq rfl) (hb hby at_158) ej3 Ex_a (by decide) (by decide) (pc' := 161) rfl ?_
      intro T4 rv4 L4 X4 hQ4
      obtain ⟨b158, rfl, Nq4, Kq4, szq4, V_b158⟩ := hQ4
      have NF4 := Fr.app NFj3 Nq4
      have ne_a_b158 : a ≠ b158 := Nat.ne_of_lt (Nat.lt_of_lt_of_le Ex_a.lt szq4)
      have ne_ha_b158 : ha ≠ b158 := Nat.ne_of_lt (Nat.lt_of_lt_of_le Ex_ha.lt szq4)
      have ne_sa_b158 : sa ≠ b158 := Nat.ne_of_lt (Nat.lt_of_lt_of_le V_sa.lt szq4)
      have ge_b158 : n0 ≤ b158 := Nat.le_trans Zs szq4
      have Ex_a := Ex_a.keep Kq4
      have Ex_ha := Ex_ha.keep Kq4
      have F_shares_a := F_shares_a.keep Kq4 nin0
      have F_held_a := F_held_a.keep Kq4 nin0
      have F_size_a := F_size_a.keep Kq4 nin0
      have V_sa := V_sa.keep Kq4 nin0
      have V_ha := V_ha.keep Kq4 nin0
      have Zs := Nat.le_trans Zs Kq4.1
      show G (T4.setTop (mkF m 161 _ [(.ref b158)]))
      refine g_astore hG X4 hx (hb hby at_161) (pc' := 163) rfl rfl (Ls' := #[.val (.int i0), .val (.int i1), .val (.int i2), .val (.int i3), .val (.int 1), .val (.int w5), .val (.int w6), .val (.int w7), .val (.int w8), .val (.double v49), .second, .val (.double v61), .second, .val (.double v73), .second, .val (.int v81), .val (.double v92), .second, .val (.ref a), .val (.ref b158), .unset]) rfl ?_
      refine g_aload hG X4 hx (hb hby at_163) (pc' := 165) rfl rfl rfl ?_
      refine g_arraylength hG X4 hx hZ rfl V_b158 (hb hby at_165) (pc' := 166) rfl ?_
      refine g_ifYes hG X4 hx (hb hby at_166) (pc' := 171) (by decide) (by decide) (by decide) ?_
      refine g_aload hG X4 hx (hb hby at_171) (pc' := 173) rfl rfl rfl ?_
      refine g_iload hG X4 hx (hb hby at_173) (pc' := 175) rfl rfl ?_
      refine g_dload hG X4 hx (hb hby at_175) (pc' := 177) rfl rfl ?_
      obtain ⟨x5, hx5⟩ : ∃ z, Jvm.Native.java_lang_Math.nans.pick64 true 0 v92 = z := ⟨_, rfl⟩
      obtain ⟨cx5, Dx5, Px5⟩ := own_pk own_z D92 Rat.le_refl P92
      rw [hx5] at Dx5
      refine g_callV hG X4 hx hZ (y := (⟨"org/termsieve/mapping/Shares", "raise", "(ID)V"⟩ : MethodName)) 0 hown (wd hw 15 rfl) (wd hw 16 rfl) (wd hw 18 rfl) (wd hw 17 rfl) (wd hw 2 rfl) (wd hw 19 rfl) (by decide) (rmRa1_0n l Z a0 hw [] a sa ha shz hdz v81 v92 x5 T4.heap n0 Zs ⟨Ex_a, Ex_ha, F_shares_a, F_held_a, F_size_a, V_sa, V_ha⟩ ⟨ga, gsa, gha, d1, d2, d3⟩ ik D92.noNaN hx5 (hz v81 ik)) (by decide) (by decide) (by rw [hml]; rfl) pd_10 rfl (argsL := [(.int v81), (.double v92)]) (rest := []) rfl rfl (Nat.le_of_eq rfl) (hb hby at_177) rfl Ex_a (by decide) (by decide) (pc' := 180) rfl ?_
      intro T6 rv6 L6 X6 hQ6
      obtain ⟨rfl, Nq6, Kq6, Ex_a, Ex_ha, F_shares_a, F_held_a, F_size_a, V_sa, V_ha⟩ := hQ6
      have NF6 := Fr.app NF4 Nq6
      have V_b158 := V_b158.keep Kq6 (ninS (Ne.symm ne_a_b158) (ninS (Ne.symm ne_sa_b158) (ninS (Ne.symm ne_ha_b158) nin0)))
      have Zs := Nat.le_trans Zs Kq6.1
      show G (T6.setTop (mkF m 180 _ []))
      refine g_aload hG X6 hx (hb hby at_180) (pc' := 182) rfl rfl rfl ?_
      refine g_callV hG X6 hx hZ (y := (⟨"org/termsieve/mapping/Shares", "held", "()[I"⟩ : MethodName)) 0 hown (wd hw 31 rfl) (wd hw 32 rfl) (wd hw 34 rfl) (wd hw 33 rfl) (wd hw 2 rfl) (wd hw 35 rfl) (by decide) (rmHe1_1 l Z a0 hw [] a sa ha (upd shz v81 x5) (upd hdz (0 : Int32) v81) v81 T6.heap n0 Zs ⟨Ex_a, Ex_ha, F_shares_a, F_held_a, F_size_a, V_sa, V_ha⟩ ⟨ga, gsa, gha, d1, d2, d3⟩ upd_same) (by decide) (by decide) (by rw [hml]; rfl) pd_9 rfl (argsL := []) (rest := []) rfl rfl (Nat.le_of_eq rfl) (hb hby at_182) rfl Ex_a (by decide) (by decide) (pc' := 185) rfl ?_
      intro T7 rv7 L7 X7 hQ7
      obtain ⟨b182, rfl, Nq7, Kq7, szq7, V_b182⟩ := hQ7
      have NF7 := Fr.app NF6 Nq7
      have ne_a_b182 : a ≠ b182 := Nat.ne_of_lt (Nat.lt_of_lt_of_le Ex_a.lt szq7)
      have ne_ha_b182 : ha ≠ b182 := Nat.ne_of_lt (Nat.lt_of_lt_of_le Ex_ha.lt szq7)
      have ne_sa_b182 : sa ≠ b182 := Nat.ne_of_lt (Nat.lt_of_lt_of_le V_sa.lt szq7)
      have ne_b158_b182 : b158 ≠ b182 := Nat.ne_of_lt (Nat.lt_of_lt_of_le V_b158.lt szq7)
      have ge_b182 : n0 ≤ b182 := Nat.le_trans Zs szq7
      have Ex_a := Ex_a.keep Kq7
      have Ex_ha := Ex_ha.keep Kq7
      have F_shares_a := F_shares_a.keep Kq7 nin0
      have F_held_a := F_held_a.keep Kq7 nin0
      have F_size_a := F_size_a.keep Kq7 nin0
      have V_sa := V_sa.keep Kq7 nin0
      have V_ha := V_ha.keep Kq7 nin0
      have V_b158 := V_b158.keep Kq7 nin0
      have Zs := Nat.le_trans Zs Kq7.1
      show G (T7.setTop (mkF m 185 _ [(.ref b182)]))
      refine g_astore hG X7 hx (hb hby at_185) (pc' := 187) rfl rfl (Ls' := #[.val (.int i0), .val (.int i1), .val (.int i2), .val (.int i3), .val (.int 1), .val (.int w5), .val (.int w6), .val (.int w7), .val (.int w8), .val (.double v49), .second, .val (.double v61), .second, .val (.double v73), .second, .val (.int v81), .val (.double v92), .second, .val (.ref a), .val (.ref b158), .val (.ref b182)]) rfl ?_
      refine g_aload hG X7 hx (hb hby at_187) (pc' := 189) rfl rfl rfl ?_
      refine g_arraylength hG X7 hx hZ rfl V_b182 (hb hby at_189) (pc' := 190) rfl ?_
      refine g_iconst hG X7 hx (hb hby at_190) (pc' := 191) rfl (v := (1 : Int32)) rfl ?_
      refine g_icmpNo hG X7 hx (hb hby at_191) (pc' := 194) (by decide) rfl ?_
      refine g_aload hG X7 hx (hb hby at_194) (pc' := 196) rfl rfl rfl ?_
      refine g_iconst hG X7 hx (hb hby at_196) (pc' := 197) rfl (v := (0 : Int32)) rfl ?_
      refine g_iaload hG X7 hx hZ rfl V_b182 (j := (0 : Int32)) (v := (.int v81)) (by decide) rfl (hb hby at_197) (pc' := 198) rfl ?_
      refine g_iload hG X7 hx (hb hby at_198) (pc' := 200) rfl rfl ?_
      refine g_icmpYes hG X7 hx (hb hby at_200) (pc' := 205) ((teq rfl).1) (by decide) (by decide) ?_
      have hmv : FP.dcmp x5 v92 = some .eq := by
        rw [← hx5]
        exact OwnFl.dcmp_eq (own_max' own_z D92 (Rat.le_of_lt P92)) D92 rfl
      refine g_aload hG X7 hx (hb hby at_205) (pc' := 207) rfl rfl rfl ?_
      refine g_iconst hG X7 hx (hb hby at_207) (pc' := 208) rfl (v := (0 : Int32)) rfl ?_
      refine g_iload hG X7 hx (hb hby at_208) (pc' := 210) rfl rfl ?_
      refine g_iload hG X7 hx (hb hby at_210) (pc' := 212) rfl rfl ?_
      refine g_dload hG X7 hx (hb hby at_212) (pc' := 214) rfl rfl ?_
      have hx0 : (upd shz v81 x5) (0 : Int32) = (if (0 : Int32) = v81 then x5 else 0) := by
        by_cases q : (0 : Int32) = v81
        · rw [if_pos q, q]; exact upd_same
        · rw [if_neg q]; exact (upd_ne q).trans (hz _ in1_0)
      have hc0 : ((0 : Int32) = v81 ∧ FP.dcmp (if (0 : Int32) = v81 then x5 else 0) v92 = some .eq) ∨ (¬ (0 : Int32) = v81 ∧ FP.dcmp (if (0 : Int32) = v81 then x5 else 0) 0 = some .eq) := by
        by_cases q : (0 : Int32) = v81
        · exact Or.inl ⟨q, by rw [if_pos q]; exact hmv⟩
        · exact Or.inr ⟨q, by rw [if_neg q]; exact own_zz⟩
      refine g_callS hG X7 hx hZ (y := (⟨"org/termsieve/mapping/SharesClearPinLaw", "at", "(Lorg/termsieve/mapping/Shares;IIID)Z"⟩ : MethodName)) 0 hown (wd hw 69 rfl) (wd hw 70 rfl) (wd hw 71 rfl) (wd hw 72 rfl) (by decide) (rmAt1_0 l Z a0 hw [] a sa ha (upd shz v81 x5) (upd hdz (0 : Int32) v81) (1 : Int32) v81 v92 (if (0 : Int32) = v81 then x5 else 0) T7.heap n0 Zs ⟨Ex_a, Ex_ha, F_shares_a, F_held_a, F_size_a, V_sa, V_ha⟩ ⟨ga, gsa, gha, d1, d2, d3⟩ hx0 hc0) (by decide) (by decide) (by rw [hml]; rfl) pd_11 rfl (argsL := [(.ref a), (.int 0), (.int 1), (.int v81), (.double v92)]) (rest := []) rfl rfl (Nat.le_of_eq rfl) (hb hby at_214) rfl (by decide) (by decide) (pc' := 217) rfl ?_
      intro T8 rv8 L8 X8 hQ8
      obtain ⟨rfl, Nq8, eh8⟩ := hQ8
      have NF8 := Fr.app NF7 Nq8
      show G (T8.setTop (mkF m 217 _ [(.int 1)]))
      refine g_ifNo hG X8 hx (hb hby at_217) (pc' := 220) (by decide) rfl ?_
      refine g_aload hG X8 hx (hb hby at_220) (pc' := 222) rfl rfl rfl ?_
      refine g_iconst hG X8 hx (hb hby at_222) (pc' := 223) rfl (v := (1 : Int32)) rfl ?_
      refine g_iload hG X8 hx (hb hby at_223) (pc' := 225) rfl rfl ?_
      refine g_iload hG X8 hx (hb hby at_225) (pc' := 227) rfl rfl ?_
      refine g_dload hG X8 hx (hb hby at_227) (pc' := 229) rfl rfl ?_
      refine g_callS hG X8 hx hZ (y := (⟨"org/termsieve/mapping/SharesClearPinLaw", "at", "(Lorg/termsieve/mapping/Shares;IIID)Z"⟩ : MethodName)) 0 hown (wd hw 69 rfl) (wd hw 70 rfl) (wd hw 71 rfl) (wd hw 72 rfl) (by decide) (rmAt1_1 l Z a0 hw [] a v81 v92 T7.heap n0 Zs) (by decide) (by decide) (by rw [hml]; rfl) pd_11 rfl (argsL := [(.ref a), (.int 1), (.int 1), (.int v81), (.double v92)]) (rest := []) rfl rfl (Nat.le_of_eq rfl) (hb hby at_229) eh8 (by decide) (by decide) (pc' := 232) rfl ?_
      intro T9 rv9 L9 X9 hQ9
      obtain ⟨rfl, Nq9, eh9⟩ := hQ9
      have NF9 := Fr.app NF8 Nq9
      show G (T9.setTop (mkF m 232 _ [(.int 1)]))
      refine g_ifNo hG X9 hx (hb hby at_232) (pc' := 235) (by decide) rfl ?_
      refine g_aload hG X9 hx (hb hby at_235) (pc' := 237) rfl rfl rfl ?_
      refine g_iconst hG X9 hx (hb hby at_237) (pc' := 238) rfl (v := (2 : Int32)) rfl ?_
      refine g_iload hG X9 hx (hb hby at_238) (pc' := 240) rfl rfl ?_
      refine g_iload hG X9 hx (hb hby at_240) (pc' := 242) rfl rfl ?_
      refine g_dload hG X9 hx (hb hby at_242) (pc' := 244) rfl rfl ?_
      refine g_callS hG X9 hx hZ (y := (⟨"org/termsieve/mapping/SharesClearPinLaw", "at", "(Lorg/termsieve/mapping/Shares;IIID)Z"⟩ : MethodName)) 0 hown (wd hw 69 rfl) (wd hw 70 rfl) (wd hw 71 rfl) (wd hw 72 rfl) (by decide) (rmAt1_2 l Z a0 hw [] a v81 v92 T7.heap n0 Zs) (by decide) (by decide) (by rw [hml]; rfl) pd_11 rfl (argsL := [(.ref a), (.int 2), (.int 1), (.int v81), (.double v92)]) (rest := []) rfl rfl (Nat.le_of_eq rfl) (hb hby at_244) eh9 (by decide) (by decide) (pc' := 247) rfl ?_
      intro T10 rv10 L10 X10 hQ10
      obtain ⟨rfl, Nq10, eh10⟩ := hQ10
      have NF10 := Fr.app NF9 Nq10
      show G (T10.setTop (mkF m 247 _ [(.int 1)]))
      refine g_ifNo hG X10 hx (hb hby at_247) (pc' := 250) (by decide) rfl ?_
      refine g_aload hG X10 hx (hb hby at_250) (pc' := 252) rfl rfl rfl ?_
      refine g_iconst hG X10 hx (hb hby at_252) (pc' := 253) rfl (v := (3 : Int32)) rfl ?_
      refine g_iload hG X10 hx (hb hby at_253) (pc' := 255) rfl rfl ?_
      refine g_iload hG X10 hx (hb hby at_255) (pc' := 257) rfl rfl ?_
      refine g_dload hG X10 hx (hb hby at_257) (pc' := 259) rfl rfl ?_
      refine g_callS hG X10 hx hZ (y := (⟨"org/termsieve/mapping/SharesClearPinLaw", "at", "(Lorg/termsieve/mapping/Shares;IIID)Z"⟩ : MethodName)) 0 hown (wd hw 69 rfl) (wd hw 70 rfl) (wd hw 71 rfl) (wd hw 72 rfl) (by decide) (rmAt1_3 l Z a0 hw [] a v81 v92 T7.heap n0 Zs) (by decide) (by decide) (by rw [hml]; rfl) pd_11 rfl (argsL := [(.ref a), (.int 3), (.int 1), (.int v81), (.double v92)]) (rest := []) rfl rfl (Nat.le_of_eq rfl) (hb hby at_259) eh10 (by decide) (by decide) (pc' := 262) rfl ?_
      intro T11 rv11 L11 X11 hQ11
      obtain ⟨rfl, Nq11, eh11⟩ := hQ11
      have NF11 := Fr.app NF10 Nq11
      show G (T11.setTop (mkF m 262 _ [(.int 1)]))
      refine g_ifNo hG X11 hx (hb hby at_262) (pc' := 265) (by decide) rfl ?_
      refine g_iconst hG X11 hx (hb hby at_265) (pc' := 266) rfl (v := (1 : Int32)) rfl ?_
      refine g_goto hG X11 hx (hb hby at_266) (pc' := 270) (by decide) (by decide) ?_
      exact e_retZ hGe X11 hx hrt hlk (hb hby at_270) (Or.inr rfl) eh11 (by decide) (by decide) (⟨rfl, NF11⟩)
    rcases b9 with rfl | rfl | rfl | rfl
    · skip
      refine g_iload hG X2 hx (hb hby at_106) (pc' := 108) rfl rfl ?_
      refine g_iconst hG X2 hx (hb hby at_108) (pc' := 109) rfl (v := (1 : Int32)) rfl ?_
      refine g_icmpYes hG X2 hx (hb hby at_109) (pc' := 121) (by decide) (by decide) (by decide) ?_
      refine g_iload hG X2 hx (hb hby at_121) (pc' := 123) rfl rfl ?_
      refine g_iconst hG X2 hx (hb hby at_123) (pc' := 124) rfl (v := (2 : Int32)) rfl ?_
      refine g_icmpYes hG X2 hx (hb hby at_124) (pc' := 136) (by decide) (by decide) (by decide) ?_
      refine g_iload hG X2 hx (hb hby at_136) (pc' := 138) rfl rfl ?_
      refine g_iconst hG X2 hx (hb hby at_138) (pc' := 139) rfl (v := (3 : Int32)) rfl ?_
      refine g_icmpYes hG X2 hx (hb hby at_139) (pc' := 151) (by decide) (by decide) (by decide) ?_
      refine g_aload hG X2 hx (hb hby at_151) (pc' := 153) rfl rfl rfl ?_
      refine g_callV hG X2 hx hZ (y := (⟨"org/termsieve/mapping/Shares", "clear", "()V"⟩ : MethodName)) 0 hown (wd hw 26 rfl) (wd hw 27 rfl) (wd hw 29 rfl) (wd hw 28 rfl) (wd hw 2 rfl) (wd hw 30 rfl) (by decide) (rmCl1_0 l Z a0 hw [] a sa ha (fun _ => (0 : UInt64)) (fun _ => (0 : Int32))  T2.heap n0 Zs ⟨Ex_a, Ex_ha, F_shares_a, F_held_a, F_size_a, V_sa, V_ha⟩ ⟨ga, gsa, gha, d1, d2, d3⟩) (by decide) (by decide) (by rw [hml]; rfl) pd_12 rfl (argsL := []) (rest := []) rfl rfl (Nat.le_of_eq rfl) (hb hby at_153) rfl Ex_a (by decide) (by decide) (pc' := 156) rfl ?_
      intro T12 rv12 L12 X12 hQ12
      obtain ⟨rfl, Nq12, Kq12, Ex_a, Ex_ha, F_shares_a, F_held_a, F_size_a, V_sa, V_ha⟩ := hQ12
      have NF12 := Fr.app NF2 Nq12
      have Zs := Nat.le_trans Zs Kq12.1
      show G (T12.setTop (mkF m 156 _ []))
      exact JC _ _ _ (fun _ => (0 : UInt64)) (fun _ => (0 : Int32)) (0 : Int32) v17 v27 v37 X12 rfl NF12 Zs  Ex_a Ex_ha F_shares_a F_held_a F_size_a V_sa V_ha (fun j _ => by first | rfl | (simp only [upd]; grind))
    · skip
      refine g_iload hG X2 hx (hb hby at_106) (pc' := 108) rfl rfl ?_
      refine g_iconst hG X2 hx (hb hby at_108) (pc' := 109) rfl (v := (1 : Int32)) rfl ?_
      refine g_icmpNo hG X2 hx (hb hby at_109) (pc' := 112) (by decide) rfl ?_
      refine g_aload hG X2 hx (hb hby at_112) (pc' := 114) rfl rfl rfl ?_
      refine g_iload hG X2 hx (hb hby at_114) (pc' := 116) rfl rfl ?_
      refine g_dload hG X2 hx (hb hby at_116) (pc' := 118) rfl rfl ?_
      obtain ⟨x13, hx13⟩ : ∃ z, Jvm.Native.java_lang_Math.nans.pick64 true 0 v49 = z := ⟨_, rfl⟩
      obtain ⟨cx13, Dx13, Px13⟩ := own_pk own_z D49 Rat.le_refl P49
      rw [hx13] at Dx13
      refine g_callV hG X2 hx hZ (y := (⟨"org/termsieve/mapping/Shares", "raise", "(ID)V"⟩ : MethodName)) 0 hown (wd hw 15 rfl) (wd hw 16 rfl) (wd hw 18 rfl) (wd hw 17 rfl) (wd hw 2 rfl) (wd hw 19 rfl) (by decide) (rmRa1_0n l Z a0 hw [] a sa ha (fun _ => (0 : UInt64)) (fun _ => (0 : Int32)) v17 v49 x13 T2.heap n0 Zs ⟨Ex_a, Ex_ha, F_shares_a, F_held_a, F_size_a, V_sa, V_ha⟩ ⟨ga, gsa, gha, d1, d2, d3⟩ ik0 D49.noNaN hx13 rfl) (by decide) (by decide) (by rw [hml]; rfl) pd_10 rfl (argsL := [(.int v17), (.double v49)]) (rest := []) rfl rfl (Nat.le_of_eq rfl) (hb hby at_118) rfl Ex_a (by decide) (by decide) (pc' := 121) rfl ?_
      intro T14 rv14 L14 X14 hQ14
      obtain ⟨rfl, Nq14, Kq14, Ex_a, Ex_ha, F_shares_a, F_held_a, F_size_a, V_sa, V_ha⟩ := hQ14
      have NF14 := Fr.app NF2 Nq14
      have Zs := Nat.le_trans Zs Kq14.1
      show G (T14.setTop (mkF m 121 _ []))
      refine g_iload hG X14 hx (hb hby at_121) (pc' := 123) rfl rfl ?_
      refine g_iconst hG X14 hx (hb hby at_123) (pc' := 124) rfl (v := (2 : Int32)) rfl ?_
      refine g_icmpYes hG X14 hx (hb hby at_124) (pc' := 136) (by decide) (by decide) (by decide) ?_
      refine g_iload hG X14 hx (hb hby at_136) (pc' := 138) rfl rfl ?_
      refine g_iconst hG X14 hx (hb hby at_138) (pc' := 139) rfl (v := (3 : Int32)) rfl ?_
      refine g_icmpYes hG X14 hx (hb hby at_139) (pc' := 151) (by decide) (by decide) (by decide) ?_
      refine g_aload hG X14 hx (hb hby at_151) (pc' := 153) rfl rfl rfl ?_
      refine g_callV hG X14 hx hZ (y := (⟨"org/termsieve/mapping/Shares", "clear", "()V"⟩ : MethodName)) 0 hown (wd hw 26 rfl) (wd hw 27 rfl) (wd hw 29 rfl) (wd hw 28 rfl) (wd hw 2 rfl) (wd hw 30 rfl) (by decide) (rmCl1_1 l Z a0 hw [] a sa ha (upd (fun _ => (0 : UInt64)) v17 x13) (upd (fun _ => (0 : Int32)) (0 : Int32) v17) v17 T14.heap n0 Zs ⟨Ex_a, Ex_ha, F_shares_a, F_held_a, F_size_a, V_sa, V_ha⟩ ⟨ga, gsa, gha, d1, d2, d3⟩ rfl ik0) (by decide) (by decide) (by rw [hml]; rfl) pd_12 rfl (argsL := []) (rest := []) rfl rfl (Nat.le_of_eq rfl) (hb hby at_153) rfl Ex_a (by decide) (by decide) (pc' := 156) rfl ?_
      intro T15 rv15 L15 X15 hQ15
      obtain ⟨rfl, Nq15, Kq15, Ex_a, Ex_ha, F_shares_a, F_held_a, F_size_a, V_sa, V_ha⟩ := hQ15
      have NF15 := Fr.app NF14 Nq15
      have Zs := Nat.le_trans Zs Kq15.1
      show G (T15.setTop (mkF m 156 _ []))
      exact JC _ _ _ (upd (upd (fun _ => (0 : UInt64)) v17 x13) v17 0) (upd (fun _ => (0 : Int32)) (0 : Int32) v17) (1 : Int32) v17 v27 v37 X15 rfl NF15 Zs  Ex_a Ex_ha F_shares_a F_held_a F_size_a V_sa V_ha (fun j _ => by first | rfl | (simp only [upd]; grind))
    · skip
      refine g_iload hG X2 hx (hb hby at_106) (pc' := 108) rfl rfl ?_
      refine g_iconst hG X2 hx (hb hby at_108) (pc' := 109) rfl (v := (1 : Int32)) rfl ?_
      refine g_icmpNo hG X2 hx (hb hby at_109) (pc' := 112) (by decide) rfl ?_
      refine g_aload hG X2 hx (hb hby at_112) (pc' := 114) rfl rfl rfl ?_
      refine g_iload hG X2 hx (hb hby at_114) (pc' := 116) rfl rfl ?_
      refine g_dload hG X2 hx (hb hby at_116) (pc' := 118) rfl rfl ?_
      obtain ⟨x16, hx16⟩ : ∃ z, Jvm.Native.java_lang_Math.nans.pick64 true 0 v49 = z := ⟨_, rfl⟩
      obtain ⟨cx16, Dx16, Px16⟩ := own_pk own_z D49 Rat.le_refl P49
      rw [hx16] at Dx16
      refine g_callV hG X2 hx hZ (y := (⟨"org/termsieve/mapping/Shares", "raise", "(ID)V"⟩ : MethodName)) 0 hown (wd hw 15 rfl) (wd hw 16 rfl) (wd hw 18 rfl) (wd hw 17 rfl) (wd hw 2 rfl) (wd hw 19 rfl) (by decide) (rmRa1_0n l Z a0 hw [] a sa ha (fun _ => (0 : UInt64)) (fun _ => (0 : Int32)) v17 v49 x16 T2.heap n0 Zs ⟨Ex_a, Ex_ha, F_shares_a, F_held_a, F_size_a, V_sa, V_ha⟩ ⟨ga, gsa, gha, d1, d2, d3⟩ ik0 D49.noNaN hx16 rfl) (by decide) (by decide) (by rw [hml]; rfl) pd_10 rfl (argsL := [(.int v17), (.double v49)]) (rest := []) rfl rfl (Nat.le_of_eq rfl) (hb hby at_118) rfl Ex_a (by decide) (by decide) (pc' := 121) rfl ?_
      intro T17 rv17 L17 X17 hQ17
      obtain ⟨rfl, Nq17, Kq17, Ex_a, Ex_ha, F_shares_a, F_held_a, F_size_a, V_sa, V_ha⟩ := hQ17
      have NF17 := Fr.app NF2 Nq17
      have Zs := Nat.le_trans Zs Kq17.1
      show G (T17.setTop (mkF m 121 _ []))
      refine g_iload hG X17 hx (hb hby at_121) (pc' := 123) rfl rfl ?_
      refine g_iconst hG X17 hx (hb hby at_123) (pc' := 124) rfl (v := (2 : Int32)) rfl ?_
      refine g_icmpNo hG X17 hx (hb hby at_124) (pc' := 127) (by decide) rfl ?_
      by_cases hk_v27_v17 : v27 = v17
      · have _hh := hk_v27_v17
        clear _hh
        have hk_v27_v17 := hk_v27_v17.symm
        subst hk_v27_v17
        refine g_aload hG X17 hx (hb hby at_127) (pc' := 129) rfl rfl rfl ?_
        refine g_iload hG X17 hx (hb hby at_129) (pc' := 131) rfl rfl ?_
        refine g_dload hG X17 hx (hb hby at_131) (pc' := 133) rfl rfl ?_
        obtain ⟨x18, hx18⟩ : ∃ z, Jvm.Native.java_lang_Math.nans.pick64 true x16 v61 = z := ⟨_, rfl⟩
        obtain ⟨cx18, Dx18, Px18⟩ := own_pk Dx16 D61 (Rat.le_of_lt Px16) P61
        rw [hx18] at Dx18
        refine g_callV hG X17 hx hZ (y := (⟨"org/termsieve/mapping/Shares", "raise", "(ID)V"⟩ : MethodName)) 0 hown (wd hw 15 rfl) (wd hw 16 rfl) (wd hw 18 rfl) (wd hw 17 rfl) (wd hw 2 rfl) (wd hw 19 rfl) (by decide) (rmRa1_1o l Z a0 hw [] a sa ha (upd (fun _ => (0 : UInt64)) v17 x16) (upd (fun _ => (0 : Int32)) (0 : Int32) v17) v17 v61 x18 x16 T17.heap n0 Zs ⟨Ex_a, Ex_ha, F_shares_a, F_held_a, F_size_a, V_sa, V_ha⟩ ⟨ga, gsa, gha, d1, d2, d3⟩ ik0 D61.noNaN hx18 upd_same Dx16.noNaN (OwnFl.dcmp_gt Dx16 own_z Px16)) (by decide) (by decide) (by rw [hml]; rfl) pd_10 rfl (argsL := [(.int v17), (.double v61)]) (rest := []) rfl rfl (Nat.le_of_eq rfl) (hb hby at_133) rfl Ex_a (by decide) (by decide) (pc' := 136) rfl ?_
        intro T19 rv19 L19 X19 hQ19
        obtain ⟨rfl, Nq19, Kq19, Ex_a, Ex_ha, F_shares_a, F_held_a, F_size_a, V_sa, V_ha⟩ := hQ19
        have NF19 := Fr.app NF17 Nq19
        have Zs := Nat.le_trans Zs Kq19.1
        show G (T19.setTop (mkF m 136 _ []))
        refine g_iload hG X19 hx (hb hby at_136) (pc' := 138) rfl rfl ?_
        refine g_iconst hG X19 hx (hb hby at_138) (pc' := 139) rfl (v := (3 : Int32)) rfl ?_
        refine g_icmpYes hG X19 hx (hb hby at_139) (pc' := 151) (by decide) (by decide) (by decide) ?_
        refine g_aload hG X19 hx (hb hby at_151) (pc' := 153) rfl rfl rfl ?_
        refine g_callV hG X19 hx hZ (y := (⟨"org/termsieve/mapping/Shares", "clear", "()V"⟩ : MethodName)) 0 hown (wd hw 26 rfl) (wd hw 27 rfl) (wd hw 29 rfl) (wd hw 28 rfl) (wd hw 2 rfl) (wd hw 30 rfl) (by decide) (rmCl1_1 l Z a0 hw [] a sa ha (upd (upd (fun _ => (0 : UInt64)) v17 x16) v17 x18) (upd (fun _ => (0 : Int32)) (0 : Int32) v17) v17 T19.heap n0 Zs ⟨Ex_a, Ex_ha, F_shares_a, F_held_a, F_size_a, V_sa, V_ha⟩ ⟨ga, gsa, gha, d1, d2, d3⟩ rfl ik0) (by decide) (by decide) (by rw [hml]; rfl) pd_12 rfl (argsL := []) (rest := []) rfl rfl (Nat.le_of_eq rfl) (hb hby at_153) rfl Ex_a (by decide) (by decide) (pc' := 156) rfl ?_
        intro T20 rv20 L20 X20 hQ20
        obtain ⟨rfl, Nq20, Kq20, Ex_a, Ex_ha, F_shares_a, F_held_a, F_size_a, V_sa, V_ha⟩ := hQ20
        have NF20 := Fr.app NF19 Nq20
        have Zs := Nat.le_trans Zs Kq20.1
        show G (T20.setTop (mkF m 156 _ []))
        exact JC _ _ _ (upd (upd (upd (fun _ => (0 : UInt64)) v17 x16) v17 x18) v17 0) (upd (fun _ => (0 : Int32)) (0 : Int32) v17) (2 : Int32) v17 v17 v37 X20 rfl NF20 Zs  Ex_a Ex_ha F_shares_a F_held_a F_size_a V_sa V_ha (fun j _ => by first | rfl | (simp only [upd]; grind))
      · have _hh := hk_v27_v17
        exact absurd (Eq.trans ik1 (Eq.symm ik0)) hk_v27_v17
    · skip
      refine g_iload hG X2 hx (hb hby at_106) (pc' := 108) rfl rfl ?_
      refine g_iconst hG X2 hx (hb hby at_108) (pc' := 109) rfl (v := (1 : Int32)) rfl ?_
      refine g_icmpNo hG X2 hx (hb hby at_109) (pc' := 112) (by decide) rfl ?_
      refine g_aload hG X2 hx (hb hby at_112) (pc' := 114) rfl rfl rfl ?_
      refine g_iload hG X2 hx (hb hby at_114) (pc' := 116) rfl rfl ?_
      refine g_dload hG X2 hx (hb hby at_116) (pc' := 118) rfl rfl ?_
      obtain ⟨x21, hx21⟩ : ∃ z, Jvm.Native.java_lang_Math.nans.pick64 true 0 v49 = z := ⟨_, rfl⟩
      obtain ⟨cx21, Dx21, Px21⟩ := own_pk own_z D49 Rat.le_refl P49
      rw [hx21] at Dx21
      refine g_callV hG X2 hx hZ (y := (⟨"org/termsieve/mapping/Shares", "raise", "(ID)V"⟩ : MethodName)) 0 hown (wd hw 15 rfl) (wd hw 16 rfl) (wd hw 18 rfl) (wd hw 17 rfl) (wd hw 2 rfl) (wd hw 19 rfl) (by decide) (rmRa1_0n l Z a0 hw [] a sa ha (fun _ => (0 : UInt64)) (fun _ => (0 : Int32)) v17 v49 x21 T2.heap n0 Zs ⟨Ex_a, Ex_ha, F_shares_a, F_held_a, F_size_a, V_sa, V_ha⟩ ⟨ga, gsa, gha, d1, d2, d3⟩ ik0 D49.noNaN hx21 rfl) (by decide) (by decide) (by rw [hml]; rfl) pd_10 rfl (argsL := [(.int v17), (.double v49)]) (rest := []) rfl rfl (Nat.le_of_eq rfl) (hb hby at_118) rfl Ex_a (by decide) (by decide) (pc' := 121) rfl ?_
      intro T22 rv22 L22 X22 hQ22
      obtain ⟨rfl, Nq22, Kq22, Ex_a, Ex_ha, F_shares_a, F_held_a, F_size_a, V_sa, V_ha⟩ := hQ22
      have NF22 := Fr.app NF2 Nq22
      have Zs := Nat.le_trans Zs Kq22.1
      show G (T22.setTop (mkF m 121 _ []))
      refine g_iload hG X22 hx (hb hby at_121) (pc' := 123) rfl rfl ?_
      refine g_iconst hG X22 hx (hb hby at_123) (pc' := 124) rfl (v := (2 : Int32)) rfl ?_
      refine g_icmpNo hG X22 hx (hb hby at_124) (pc' := 127) (by decide) rfl ?_
      by_cases hk_v27_v17 : v27 = v17
      · have _hh := hk_v27_v17
        clear _hh
        have hk_v27_v17 := hk_v27_v17.symm
        subst hk_v27_v17
        refine g_aload hG X22 hx (hb hby at_127) (pc' := 129) rfl rfl rfl ?_
        refine g_iload hG X22 hx (hb hby at_129) (pc' := 131) rfl rfl ?_
        refine g_dload hG X22 hx (hb hby at_131) (pc' := 133) rfl rfl ?_
        obtain ⟨x23, hx23⟩ : ∃ z, Jvm.Native.java_lang_Math.nans.pick64 true x21 v61 = z := ⟨_, rfl⟩
        obtain ⟨cx23, Dx23, Px23⟩ := own_pk Dx21 D61 (Rat.le_of_lt Px21) P61
        rw [hx23] at Dx23
        refine g_callV hG X22 hx hZ (y := (⟨"org/termsieve/mapping/Shares", "raise", "(ID)V"⟩ : MethodName)) 0 hown (wd hw 15 rfl) (wd hw 16 rfl) (wd hw 18 rfl) (wd hw 17 rfl) (wd hw 2 rfl) (wd hw 19 rfl) (by decide) (rmRa1_1o l Z a0 hw [] a sa ha (upd (fun _ => (0 : UInt64)) v17 x21) (upd (fun _ => (0 : Int32)) (0 : Int32) v17) v17 v61 x23 x21 T22.heap n0 Zs ⟨Ex_a, Ex_ha, F_shares_a, F_held_a, F_size_a, V_sa, V_ha⟩ ⟨ga, gsa, gha, d1, d2, d3⟩ ik0 D61.noNaN hx23 upd_same Dx21.noNaN (OwnFl.dcmp_gt Dx21 own_z Px21)) (by decide) (by decide) (by rw [hml]; rfl) pd_10 rfl (argsL := [(.int v17), (.double v61)]) (rest := []) rfl rfl (Nat.le_of_eq rfl) (hb hby at_133) rfl Ex_a (by decide) (by decide) (pc' := 136) rfl ?_
        intro T24 rv24 L24 X24 hQ24
        obtain ⟨rfl, Nq24, Kq24, Ex_a, Ex_ha, F_shares_a, F_held_a, F_size_a, V_sa, V_ha⟩ := hQ24
        have NF24 := Fr.app NF22 Nq24
        have Zs := Nat.le_trans Zs Kq24.1
        show G (T24.setTop (mkF m 136 _ []))
        refine g_iload hG X24 hx (hb hby at_136) (pc' := 138) rfl rfl ?_
        refine g_iconst hG X24 hx (hb hby at_138) (pc' := 139) rfl (v := (3 : Int32)) rfl ?_
        refine g_icmpNo hG X24 hx (hb hby at_139) (pc' := 142) (by decide) rfl ?_
        by_cases hk_v37_v17 : v37 = v17
        · have _hh := hk_v37_v17
          clear _hh
          have hk_v37_v17 := hk_v37_v17.symm
          subst hk_v37_v17
          refine g_aload hG X24 hx (hb hby at_142) (pc' := 144) rfl rfl rfl ?_
          refine g_iload hG X24 hx (hb hby at_144) (pc' := 146) rfl rfl ?_
          refine g_dload hG X24 hx (hb hby at_146) (pc' := 148) rfl rfl ?_
          obtain ⟨x25, hx25⟩ : ∃ z, Jvm.Native.java_lang_Math.nans.pick64 true x23 v73 = z := ⟨_, rfl⟩
          obtain ⟨cx25, Dx25, Px25⟩ := own_pk Dx23 D73 (Rat.le_of_lt Px23) P73
          rw [hx25] at Dx25
          refine g_callV hG X24 hx hZ (y := (⟨"org/termsieve/mapping/Shares", "raise", "(ID)V"⟩ : MethodName)) 0 hown (wd hw 15 rfl) (wd hw 16 rfl) (wd hw 18 rfl) (wd hw 17 rfl) (wd hw 2 rfl) (wd hw 19 rfl) (by decide) (rmRa1_1o l Z a0 hw [] a sa ha (upd (upd (fun _ => (0 : UInt64)) v17 x21) v17 x23) (upd (fun _ => (0 : Int32)) (0 : Int32) v17) v17 v73 x25 x23 T24.heap n0 Zs ⟨Ex_a, Ex_ha, F_shares_a, F_held_a, F_size_a, V_sa, V_ha⟩ ⟨ga, gsa, gha, d1, d2, d3⟩ ik0 D73.noNaN hx25 upd_same Dx23.noNaN (OwnFl.dcmp_gt Dx23 own_z Px23)) (by decide) (by decide) (by rw [hml]; rfl) pd_10 rfl (argsL := [(.int v17), (.double v73)]) (rest := []) rfl rfl (Nat.le_of_eq rfl) (hb hby at_148) rfl Ex_a (by decide) (by decide) (pc' := 151) rfl ?_
          intro T26 rv26 L26 X26 hQ26
          obtain ⟨rfl, Nq26, Kq26, Ex_a, Ex_ha, F_shares_a, F_held_a, F_size_a, V_sa, V_ha⟩ := hQ26
          have NF26 := Fr.app NF24 Nq26
          have Zs := Nat.le_trans Zs Kq26.1
          show G (T26.setTop (mkF m 151 _ []))
          refine g_aload hG X26 hx (hb hby at_151) (pc' := 153) rfl rfl rfl ?_
          refine g_callV hG X26 hx hZ (y := (⟨"org/termsieve/mapping/Shares", "clear", "()V"⟩ : MethodName)) 0 hown (wd hw 26 rfl) (wd hw 27 rfl) (wd hw 29 rfl) (wd hw 28 rfl) (wd hw 2 rfl) (wd hw 30 rfl) (by decide) (rmCl1_1 l Z a0 hw [] a sa ha (upd (upd (upd (fun _ => (0 : UInt64)) v17 x21) v17 x23) v17 x25) (upd (fun _ => (0 : Int32)) (0 : Int32) v17) v17 T26.heap n0 Zs ⟨Ex_a, Ex_ha, F_shares_a, F_held_a, F_size_a, V_sa, V_ha⟩ ⟨ga, gsa, gha, d1, d2, d3⟩ rfl ik0) (by decide) (by decide) (by rw [hml]; rfl) pd_12 rfl (argsL := []) (rest := []) rfl rfl (Nat.le_of_eq rfl) (hb hby at_153) rfl Ex_a (by decide) (by decide) (pc' := 156) rfl ?_
          intro T27 rv27 L27 X27 hQ27
          obtain ⟨rfl, Nq27, Kq27, Ex_a, Ex_ha, F_shares_a, F_held_a, F_size_a, V_sa, V_ha⟩ := hQ27
          have NF27 := Fr.app NF26 Nq27
          have Zs := Nat.le_trans Zs Kq27.1
          show G (T27.setTop (mkF m 156 _ []))
          exact JC _ _ _ (upd (upd (upd (upd (fun _ => (0 : UInt64)) v17 x21) v17 x23) v17 x25) v17 0) (upd (fun _ => (0 : Int32)) (0 : Int32) v17) (3 : Int32) v17 v17 v17 X27 rfl NF27 Zs  Ex_a Ex_ha F_shares_a F_held_a F_size_a V_sa V_ha (fun j _ => by first | rfl | (simp only [upd]; grind))
        · have _hh := hk_v37_v17
          exact absurd (Eq.trans ik2 (Eq.symm ik0)) hk_v37_v17
      · have _hh := hk_v27_v17
        exact absurd (Eq.trans ik1 (Eq.symm ik0)) hk_v27_v17
  · skip
    refine g_istore hG X0 hx (hb hby at_5) (pc' := 7) rfl (Ls' := #[.val (.int i0), .val (.int i1), .val (.int i2), .val (.int i3), .val (.int 2), .unset, .unset, .unset, .unset, .unset, .unset, .unset, .unset, .unset, .unset, .unset, .unset, .unset, .unset, .unset, .unset]) rfl ?_
    refine g_iloadN hG X0 hx (hb hby at_7) (pc' := 8) rfl rfl ?_
    refine g_iconst hG X0 hx (hb hby at_8) (pc' := 9) rfl (v := (3 : Int32)) rfl ?_
    obtain ⟨v9, q9⟩ : ∃ zz : Int32, i1 &&& (3 : Int32) = zz := ⟨_, rfl⟩
    refine g_iand hG X0 hx (hb hby at_9) (pc' := 10) rfl q9 ?_
    refine g_istore hG X0 hx (hb hby at_10) (pc' := 12) rfl (Ls' := #[.val (.int i0), .val (.int i1), .val (.int i2), .val (.int i3), .val (.int 2), .val (.int v9), .unset, .unset, .unset, .unset, .unset, .unset, .unset, .unset, .unset, .unset, .unset, .unset, .unset, .unset, .unset]) rfl ?_
    refine g_iloadN hG X0 hx (hb hby at_12) (pc' := 13) rfl rfl ?_
    refine g_iconst hG X0 hx (hb hby at_13) (pc' := 14) rfl (v := (3 : Int32)) rfl ?_
    obtain ⟨v14, q14⟩ : ∃ zz : Int32, i2 &&& (3 : Int32) = zz := ⟨_, rfl⟩
    refine g_iand hG X0 hx (hb hby at_14) (pc' := 15) rfl q14 ?_
    refine g_iload hG X0 hx (hb hby at_15) (pc' := 17) rfl rfl ?_
    obtain ⟨v17, q17⟩ : ∃ zz : Int32, v14 % (2 : Int32) = zz := ⟨_, rfl⟩
    refine g_irem hG X0 hx (hb hby at_17) (pc' := 18) rfl (by decide) q17 ?_
    refine g_istore hG X0 hx (hb hby at_18) (pc' := 20) rfl (Ls' := #[.val (.int i0), .val (.int i1), .val (.int i2), .val (.int i3), .val (.int 2), .val (.int v9), .val (.int v17), .unset, .unset, .unset, .unset, .unset, .unset, .unset, .unset, .unset, .unset, .unset, .unset, .unset, .unset]) rfl ?_
    refine g_iloadN hG X0 hx (hb hby at_20) (pc' := 21) rfl rfl ?_
    refine g_iconst hG X0 hx (hb hby at_21) (pc' := 22) rfl (v := (2 : Int32)) rfl ?_
    obtain ⟨v22, q22⟩ : ∃ zz : Int32, (i2.toUInt32 >>> ((2 : Int32) &&& 31).toUInt32).toInt32 = zz := ⟨_, rfl⟩
    refine g_iushr hG X0 hx (hb hby at_22) (pc' := 23) rfl q22 ?_
    refine g_iconst hG X0 hx (hb hby at_23) (pc' := 24) rfl (v := (3 : Int32)) rfl ?_
    obtain ⟨v24, q24⟩ : ∃ zz : Int32, v22 &&& (3 : Int32) = zz := ⟨_, rfl⟩
    refine g_iand hG X0 hx (hb hby at_24) (pc' := 25) rfl q24 ?_
    refine g_iload hG X0 hx (hb hby at_25) (pc' := 27) rfl rfl ?_
    obtain ⟨v27, q27⟩ : ∃ zz : Int32, v24 % (2 : Int32) = zz := ⟨_, rfl⟩
    refine g_irem hG X0 hx (hb hby at_27) (pc' := 28) rfl (by decide) q27 ?_
    refine g_istore hG X0 hx (hb hby at_28) (pc' := 30) rfl (Ls' := #[.val (.int i0), .val (.int i1), .val (.int i2), .val (.int i3), .val (.int 2), .val (.int v9), .val (.int v17), .val (.int v27), .unset, .unset, .unset, .unset, .unset, .unset, .unset, .unset, .unset, .unset, .unset, .unset, .unset]) rfl ?_
    refine g_iloadN hG X0 hx (hb hby at_30) (pc' := 31) rfl rfl ?_
    refine g_iconst hG X0 hx (hb hby at_31) (pc' := 32) rfl (v := (4 : Int32)) rfl ?_
    obtain ⟨v32, q32⟩ : ∃ zz : Int32, (i2.toUInt32 >>> ((4 : Int32) &&& 31).toUInt32).toInt32 = zz := ⟨_, rfl⟩
    refine g_iushr hG X0 hx (hb hby at_32) (pc' := 33) rfl q32 ?_
    refine g_iconst hG X0 hx (hb hby at_33) (pc' := 34) rfl (v := (3 : Int32)) rfl ?_
    obtain ⟨v34, q34⟩ : ∃ zz : Int32, v32 &&& (3 : Int32) = zz := ⟨_, rfl⟩
    refine g_iand hG X0 hx (hb hby at_34) (pc' := 35) rfl q34 ?_
    refine g_iload hG X0 hx (hb hby at_35) (pc' := 37) rfl rfl ?_
    obtain ⟨v37, q37⟩ : ∃ zz : Int32, v34 % (2 : Int32) = zz := ⟨_, rfl⟩
    refine g_irem hG X0 hx (hb hby at_37) (pc' := 38) rfl (by decide) q37 ?_
    refine g_istore hG X0 hx (hb hby at_38) (pc' := 40) rfl (Ls' := #[.val (.int i0), .val (.int i1), .val (.int i2), .val (.int i3), .val (.int 2), .val (.int v9), .val (.int v17), .val (.int v27), .val (.int v37), .unset, .unset, .unset, .unset, .unset, .unset, .unset, .unset, .unset, .unset, .unset, .unset]) rfl ?_
    refine g_iconst hG X0 hx (hb hby at_40) (pc' := 41) rfl (v := (1 : Int32)) rfl ?_
    refine g_iloadN hG X0 hx (hb hby at_41) (pc' := 42) rfl rfl ?_
    refine g_bipush hG X0 hx (hb hby at_42) (pc' := 44) rfl (v := (6 : Int32)) rfl ?_
    obtain ⟨v44, q44⟩ : ∃ zz : Int32, (i2.toUInt32 >>> ((6 : Int32) &&& 31).toUInt32).toInt32 = zz := ⟨_, rfl⟩
    refine g_iushr hG X0 hx (hb hby at_44) (pc' := 45) rfl q44 ?_
    refine g_bipush hG X0 hx (hb hby at_45) (pc' := 47) rfl (v := (7 : Int32)) rfl ?_
    obtain ⟨v47, q47⟩ : ∃ zz : Int32, v44 &&& (7 : Int32) = zz := ⟨_, rfl⟩
    refine g_iand hG X0 hx (hb hby at_47) (pc' := 48) rfl q47 ?_
    obtain ⟨v48, q48⟩ : ∃ zz : Int32, (1 : Int32) + v47 = zz := ⟨_, rfl⟩
    refine g_iadd hG X0 hx (hb hby at_48) (pc' := 49) rfl q48 ?_
    obtain ⟨v49, q49⟩ : ∃ zz : UInt64, FP.i2d v48 = zz := ⟨_, rfl⟩
    refine g_i2d hG X0 hx (hb hby at_49) (pc' := 50) rfl q49 ?_
    refine g_dstore hG X0 hx (hb hby at_50) (pc' := 52) rfl (Ls' := #[.val (.int i0), .val (.int i1), .val (.int i2), .val (.int i3), .val (.int 2), .val (.int v9), .val (.int v17), .val (.int v27), .val (.int v37), .val (.double v49), .second, .unset, .unset, .unset, .unset, .unset, .unset, .unset, .unset, .unset, .unset]) rfl ?_
    refine g_iconst hG X0 hx (hb hby at_52) (pc' := 53) rfl (v := (1 : Int32)) rfl ?_
    refine g_iloadN hG X0 hx (hb hby at_53) (pc' := 54) rfl rfl ?_
    refine g_bipush hG X0 hx (hb hby at_54) (pc' := 56) rfl (v := (9 : Int32)) rfl ?_
    obtain ⟨v56, q56⟩ : ∃ zz : Int32, (i2.toUInt32 >>> ((9 : Int32) &&& 31).toUInt32).toInt32 = zz := ⟨_, rfl⟩
    refine g_iushr hG X0 hx (hb hby at_56) (pc' := 57) rfl q56 ?_
    refine g_bipush hG X0 hx (hb hby at_57) (pc' := 59) rfl (v := (7 : Int32)) rfl ?_
    obtain ⟨v59, q59⟩ : ∃ zz : Int32, v56 &&& (7 : Int32) = zz := ⟨_, rfl⟩
    refine g_iand hG X0 hx (hb hby at_59) (pc' := 60) rfl q59 ?_
    obtain ⟨v60, q60⟩ : ∃ zz : Int32, (1 : Int32) + v59 = zz := ⟨_, rfl⟩
    refine g_iadd hG X0 hx (hb hby at_60) (pc' := 61) rfl q60 ?_
    obtain ⟨v61, q61⟩ : ∃ zz : UInt64, FP.i2d v60 = zz := ⟨_, rfl⟩
    refine g_i2d hG X0 hx (hb hby at_61) (pc' := 62) rfl q61 ?_
    refine g_dstore hG X0 hx (hb hby at_62) (pc' := 64) rfl (Ls' := #[.val (.int i0), .val (.int i1), .val (.int i2), .val (.int i3), .val (.int 2), .val (.int v9), .val (.int v17), .val (.int v27), .val (.int v37), .val (.double v49), .second, .val (.double v61), .second, .unset, .unset, .unset, .unset, .unset, .unset, .unset, .unset]) rfl ?_
    refine g_iconst hG X0 hx (hb hby at_64) (pc' := 65) rfl (v := (1 : Int32)) rfl ?_
    refine g_iloadN hG X0 hx (hb hby at_65) (pc' := 66) rfl rfl ?_
    refine g_bipush hG X0 hx (hb hby at_66) (pc' := 68) rfl (v := (12 : Int32)) rfl ?_
    obtain ⟨v68, q68⟩ : ∃ zz : Int32, (i2.toUInt32 >>> ((12 : Int32) &&& 31).toUInt32).toInt32 = zz := ⟨_, rfl⟩
    refine g_iushr hG X0 hx (hb hby at_68) (pc' := 69) rfl q68 ?_
    refine g_bipush hG X0 hx (hb hby at_69) (pc' := 71) rfl (v := (7 : Int32)) rfl ?_
    obtain ⟨v71, q71⟩ : ∃ zz : Int32, v68 &&& (7 : Int32) = zz := ⟨_, rfl⟩
    refine g_iand hG X0 hx (hb hby at_71) (pc' := 72) rfl q71 ?_
    obtain ⟨v72, q72⟩ : ∃ zz : Int32, (1 : Int32) + v71 = zz := ⟨_, rfl⟩
    refine g_iadd hG X0 hx (hb hby at_72) (pc' := 73) rfl q72 ?_
    obtain ⟨v73, q73⟩ : ∃ zz : UInt64, FP.i2d v72 = zz := ⟨_, rfl⟩
    refine g_i2d hG X0 hx (hb hby at_73) (pc' := 74) rfl q73 ?_
    refine g_dstore hG X0 hx (hb hby at_74) (pc' := 76) rfl (Ls' := #[.val (.int i0), .val (.int i1), .val (.int i2), .val (.int i3), .val (.int 2), .val (.int v9), .val (.int v17), .val (.int v27), .val (.int v37), .val (.double v49), .second, .val (.double v61), .second, .val (.double v73), .second, .unset, .unset, .unset, .unset, .unset, .unset]) rfl ?_
    refine g_iloadN hG X0 hx (hb hby at_76) (pc' := 77) rfl rfl ?_
    refine g_iconst hG X0 hx (hb hby at_77) (pc' := 78) rfl (v := (3 : Int32)) rfl ?_
    obtain ⟨v78, q78⟩ : ∃ zz : Int32, i3 &&& (3 : Int32) = zz := ⟨_, rfl⟩
    refine g_iand hG X0 hx (hb hby at_78) (pc' := 79) rfl q78 ?_
    refine g_iload hG X0 hx (hb hby at_79) (pc' := 81) rfl rfl ?_
    obtain ⟨v81, q81⟩ : ∃ zz : Int32, v78 % (2 : Int32) = zz := ⟨_, rfl⟩
    refine g_irem hG X0 hx (hb hby at_81) (pc' := 82) rfl (by decide) q81 ?_
    refine g_istore hG X0 hx (hb hby at_82) (pc' := 84) rfl (Ls' := #[.val (.int i0), .val (.int i1), .val (.int i2), .val (.int i3), .val (.int 2), .val (.int v9), .val (.int v17), .val (.int v27), .val (.int v37), .val (.double v49), .second, .val (.double v61), .second, .val (.double v73), .second, .val (.int v81), .unset, .unset, .unset, .unset, .unset]) rfl ?_
    refine g_iconst hG X0 hx (hb hby at_84) (pc' := 85) rfl (v := (1 : Int32)) rfl ?_
    refine g_iloadN hG X0 hx (hb hby at_85) (pc' := 86) rfl rfl ?_
    refine g_iconst hG X0 hx (hb hby at_86) (pc' := 87) rfl (v := (2 : Int32)) rfl ?_
    obtain ⟨v87, q87⟩ : ∃ zz : Int32, (i3.toUInt32 >>> ((2 : Int32) &&& 31).toUInt32).toInt32 = zz := ⟨_, rfl⟩
    refine g_iushr hG X0 hx (hb hby at_87) (pc' := 88) rfl q87 ?_
    refine g_bipush hG X0 hx (hb hby at_88) (pc' := 90) rfl (v := (7 : Int32)) rfl ?_
    obtain ⟨v90, q90⟩ : ∃ zz : Int32, v87 &&& (7 : Int32) = zz := ⟨_, rfl⟩
    refine g_iand hG X0 hx (hb hby at_90) (pc' := 91) rfl q90 ?_
    obtain ⟨v91, q91⟩ : ∃ zz : Int32, (1 : Int32) + v90 = zz := ⟨_, rfl⟩
    refine g_iadd hG X0 hx (hb hby at_91) (pc' := 92) rfl q91 ?_
    obtain ⟨v92, q92⟩ : ∃ zz : UInt64, FP.i2d v91 = zz := ⟨_, rfl⟩
    refine g_i2d hG X0 hx (hb hby at_92) (pc' := 93) rfl q92 ?_
    refine g_dstore hG X0 hx (hb hby at_93) (pc' := 95) rfl (Ls' := #[.val (.int i0), .val (.int i1), .val (.int i2), .val (.int i3), .val (.int 2), .val (.int v9), .val (.int v17), .val (.int v27), .val (.int v37), .val (.double v49), .second, .val (.double v61), .second, .val (.double v73), .second, .val (.int v81), .val (.double v92), .second, .unset, .unset, .unset]) rfl ?_
    have ik0 : In2 v17 := by rw [← q17]; exact in2_of (by rw [← q14]; exact (c_and _ 3 (by decide)).1)
    have ik1 : In2 v27 := by rw [← q27]; exact in2_of (by rw [← q24]; exact (c_and _ 3 (by decide)).1)
    have ik2 : In2 v37 := by rw [← q37]; exact in2_of (by rw [← q34]; exact (c_and _ 3 (by decide)).1)
    have ik : In2 v81 := by rw [← q81]; exact in2_of (by rw [← q78]; exact (c_and _ 3 (by decide)).1)
    obtain ⟨D49, P49⟩ := own_val _ _ _ q47 q48
    rw [q49] at D49
    obtain ⟨D61, P61⟩ := own_val _ _ _ q59 q60
    rw [q61] at D61
    obtain ⟨D73, P73⟩ := own_val _ _ _ q71 q72
    rw [q73] at D73
    obtain ⟨D92, P92⟩ := own_val _ _ _ q90 q91
    rw [q92] at D92
    refine g_newO hG X0 hx hZ hown (wd hw 0 rfl) (wd hw 1 rfl) (wd hw 2 rfl) e0 (hb hby at_95) (by decide) (by decide) (pc' := 98) rfl ?_
    intro T28 h28 a gs28 X28 e28 E28 Aq28 Dq28
    have ge_a : n0 ≤ a := gs28 ▸ Zs
    have Zs := Nat.le_trans Zs E28.1
    have Ex_a := Aq28
    have F_shares_a : Fld Z h28 a "org/termsieve/mapping/Shares" "shares" "[D" .null := Dq28 (Or.inr (wd hw 11 rfl)) (ty := (.array .double)) (by decide)
    have F_held_a : Fld Z h28 a "org/termsieve/mapping/Shares" "held" "[I" .null := Dq28 (Or.inr (wd hw 14 rfl)) (ty := (.array .int)) (by decide)
    have F_size_a : Fld Z h28 a "org/termsieve/mapping/Shares" "size" "I" (.int 0) := Dq28 (Or.inl (wd hw 21 rfl)) (ty := .int) (by decide)
    refine g_dup hG X28 hx (hb hby at_98) (pc' := 99) rfl rfl ?_
    refine g_iload hG X28 hx (hb hby at_99) (pc' := 101) rfl rfl ?_
    have lt_a := Ex_a.lt
    refine g_callI hG X28 hx hZ (y := (⟨"org/termsieve/mapping/Shares", "<init>", "(I)V"⟩ : MethodName)) 1 rfl hown (wd hw 3 rfl) (wd hw 4 rfl) (wd hw 2 rfl) (wd hw 5 rfl) (by decide) (rmNew2 l Z a0 hw [] a h28 n0 Zs ge_a Ex_a F_shares_a F_held_a F_size_a) (by decide) (by decide) (by rw [hml]; rfl) pd_8 rfl (argsL := [(.int 2)]) (rest := [(.ref a)]) rfl rfl (Nat.le_of_eq rfl) (hb hby at_101) e28 (by decide) (by decide) (pc' := 104) rfl ?_
    intro T29 rv29 L29 X29 hQ29
    obtain ⟨sa, ha, rfl, Nq29, Kq29, sz_sa, sz_ha, d3, Ex_a, Ex_ha, F_shares_a, F_held_a, F_size_a, V_sa, V_ha⟩ := hQ29
    have NF29 := Fr.app NF0 Nq29
    have gsa : n0 ≤ sa := Nat.le_trans Zs sz_sa
    have gha : n0 ≤ ha := Nat.le_trans Zs sz_ha
    have d1 : a ≠ sa := Nat.ne_of_lt (Nat.lt_of_lt_of_le lt_a sz_sa)
    have d2 : a ≠ ha := Nat.ne_of_lt (Nat.lt_of_lt_of_le lt_a sz_ha)
    have ga := ge_a
    have Zs := Nat.le_trans Zs Kq29.1
    show G (T29.setTop (mkF m 104 _ [(.ref a)]))
    refine g_astore hG X29 hx (hb hby at_104) (pc' := 106) rfl rfl (Ls' := #[.val (.int i0), .val (.int i1), .val (.int i2), .val (.int i3), .val (.int 2), .val (.int v9), .val (.int v17), .val (.int v27), .val (.int v37), .val (.double v49), .second, .val (.double v61), .second, .val (.double v73), .second, .val (.int v81), .val (.double v92), .second, .val (.ref a), .unset, .unset]) rfl ?_
    have b9 : v9 = 0 ∨ v9 = 1 ∨ v9 = 2 ∨ v9 = 3 := own_cnt4 (by rw [← q9]; exact (c_and i1 3 (by decide)).1) (by rw [← q9]; exact (c_and i1 3 (by decide)).2)
    have JC : ∀ (Tj30 : State) (hj30 : Heap) (Lj30 : List Loc) (shz : Int32 → UInt64) (hdz : Int32 → Int32) (w5 w6 w7 w8 : Int32), Stand p l e room_1 s m #[(.int i0), (.int i1), (.int i2), (.int i3)] below meth c Tj30 Lj30 3 7 → Tj30.heap = hj30 → Fr n0 Lj30 → n0 ≤ hj30.size → Exa Z hj30 a "org/termsieve/mapping/Shares" → Exa Z hj30 ha "[I" → Fld Z hj30 a "org/termsieve/mapping/Shares" "shares" "[D" (.ref sa) → Fld Z hj30 a "org/termsieve/mapping/Shares" "held" "[I" (.ref ha) → Fld Z hj30 a "org/termsieve/mapping/Shares" "size" "I" (.int 0) → AV Z hj30 sa .double (2 : Int32) (fd2 shz) → AV Z hj30 ha .int (2 : Int32) (fn2 hdz) → (∀ j, In2 j → shz j = 0) → G (Tj30.setTop (mkF m 156 #[.val (.int i0), .val (.int i1), .val (.int i2), .val (.int i3), .val (.int 2), .val (.int w5), .val (.int w6), .val (.int w7), .val (.int w8), .val (.double v49), .second, .val (.double v61), .second, .val (.double v73), .second, .val (.int v81), .val (.double v92), .second, .val (.ref a), .unset, .unset] [])) := by
      intro Tj30 hj30 Lj30 shz hdz w5 w6 w7 w8 Xj30 ej30 NFj30 Zs  Ex_a Ex_ha F_shares_a F_held_a F_size_a V_sa V_ha hz
      refine g_aload hG Xj30 hx (hb hby at_156) (pc' := 158) rfl rfl rfl ?_
      refine g_callV hG Xj30 hx hZ (y := (⟨"org/termsieve/mapping/Shares", "held", "()[I"⟩ : MethodName)) 0 hown (wd hw 31 rfl) (wd hw 32 rfl) (wd hw 34 rfl) (wd hw 33 rfl) (wd hw 2 rfl) (wd hw 35 rfl) (by decide) (rmHe2_0 l Z a0 hw [] a sa ha shz hdz  hj30 n0 Zs ⟨Ex_a, Ex_ha, F_shares_a, F_held_a, F_size_a, V_sa, V_ha⟩ ⟨ga, gsa, gha, d1, d2, d3⟩) (by decide) (by decide) (by rw [hml]; rfl) pd_9 rfl (argsL := []) (rest := []) rfl rfl (Nat.le_of_eq rfl) (hb hby at_158) ej30 Ex_a (by decide) (by decide) (pc' := 161) rfl ?_
      intro T31 rv31 L31 X31 hQ31
      obtain ⟨b158, rfl, Nq31, Kq31, szq31, V_b158⟩ := hQ31
      have NF31 := Fr.app NFj30 Nq31
      have ne_a_b158 : a ≠ b158 := Nat.ne_of_lt (Nat.lt_of_lt_of_le Ex_a.lt szq31)
      have ne_ha_b158 : ha ≠ b158 := Nat.ne_of_lt (Nat.lt_of_lt_of_le Ex_ha.lt szq31)
      have ne_sa_b158 : sa ≠ b158 := Nat.ne_of_lt (Nat.lt_of_lt_of_le V_sa.lt szq31)
      have ge_b158 : n0 ≤ b158 := Nat.le_trans Zs szq31
      have Ex_a := Ex_a.keep Kq31
      have Ex_ha := Ex_ha.keep Kq31
      have F_shares_a := F_shares_a.keep Kq31 nin0
      have F_held_a := F_held_a.keep Kq31 nin0
      have F_size_a := F_size_a.keep Kq31 nin0
      have V_sa := V_sa.keep Kq31 nin0
      have V_ha := V_ha.keep Kq31 nin0
      have Zs := Nat.le_trans Zs Kq31.1
      show G (T31.setTop (mkF m 161 _ [(.ref b158)]))
      refine g_astore hG X31 hx (hb hby at_161) (pc' := 163) rfl rfl (Ls' := #[.val (.int i0), .val (.int i1), .val (.int i2), .val (.int i3), .val (.int 2), .val (.int w5), .val (.int w6), .val (.int w7), .val (.int w8), .val (.double v49), .second, .val (.double v61), .second, .val (.double v73), .second, .val (.int v81), .val (.double v92), .second, .val (.ref a), .val (.ref b158), .unset]) rfl ?_
      refine g_aload hG X31 hx (hb hby at_163) (pc' := 165) rfl rfl rfl ?_
      refine g_arraylength hG X31 hx hZ rfl V_b158 (hb hby at_165) (pc' := 166) rfl ?_
      refine g_ifYes hG X31 hx (hb hby at_166) (pc' := 171) (by decide) (by decide) (by decide) ?_
      refine g_aload hG X31 hx (hb hby at_171) (pc' := 173) rfl rfl rfl ?_
      refine g_iload hG X31 hx (hb hby at_173) (pc' := 175) rfl rfl ?_
      refine g_dload hG X31 hx (hb hby at_175) (pc' := 177) rfl rfl ?_
      obtain ⟨x32, hx32⟩ : ∃ z, Jvm.Native.java_lang_Math.nans.pick64 true 0 v92 = z := ⟨_, rfl⟩
      obtain ⟨cx32, Dx32, Px32⟩ := own_pk own_z D92 Rat.le_refl P92
      rw [hx32] at Dx32
      refine g_callV hG X31 hx hZ (y := (⟨"org/termsieve/mapping/Shares", "raise", "(ID)V"⟩ : MethodName)) 0 hown (wd hw 15 rfl) (wd hw 16 rfl) (wd hw 18 rfl) (wd hw 17 rfl) (wd hw 2 rfl) (wd hw 19 rfl) (by decide) (rmRa2_0n l Z a0 hw [] a sa ha shz hdz v81 v92 x32 T31.heap n0 Zs ⟨Ex_a, Ex_ha, F_shares_a, F_held_a, F_size_a, V_sa, V_ha⟩ ⟨ga, gsa, gha, d1, d2, d3⟩ ik D92.noNaN hx32 (hz v81 ik)) (by decide) (by decide) (by rw [hml]; rfl) pd_10 rfl (argsL := [(.int v81), (.double v92)]) (rest := []) rfl rfl (Nat.le_of_eq rfl) (hb hby at_177) rfl Ex_a (by decide) (by decide) (pc' := 180) rfl ?_
      intro T33 rv33 L33 X33 hQ33
      obtain ⟨rfl, Nq33, Kq33, Ex_a, Ex_ha, F_shares_a, F_held_a, F_size_a, V_sa, V_ha⟩ := hQ33
      have NF33 := Fr.app NF31 Nq33
      have V_b158 := V_b158.keep Kq33 (ninS (Ne.symm ne_a_b158) (ninS (Ne.symm ne_sa_b158) (ninS (Ne.symm ne_ha_b158) nin0)))
      have Zs := Nat.le_trans Zs Kq33.1
      show G (T33.setTop (mkF m 180 _ []))
      refine g_aload hG X33 hx (hb hby at_180) (pc' := 182) rfl rfl rfl ?_
      refine g_callV hG X33 hx hZ (y := (⟨"org/termsieve/mapping/Shares", "held", "()[I"⟩ : MethodName)) 0 hown (wd hw 31 rfl) (wd hw 32 rfl) (wd hw 34 rfl) (wd hw 33 rfl) (wd hw 2 rfl) (wd hw 35 rfl) (by decide) (rmHe2_1 l Z a0 hw [] a sa ha (upd shz v81 x32) (upd hdz (0 : Int32) v81) v81 T33.heap n0 Zs ⟨Ex_a, Ex_ha, F_shares_a, F_held_a, F_size_a, V_sa, V_ha⟩ ⟨ga, gsa, gha, d1, d2, d3⟩ upd_same) (by decide) (by decide) (by rw [hml]; rfl) pd_9 rfl (argsL := []) (rest := []) rfl rfl (Nat.le_of_eq rfl) (hb hby at_182) rfl Ex_a (by decide) (by decide) (pc' := 185) rfl ?_
      intro T34 rv34 L34 X34 hQ34
      obtain ⟨b182, rfl, Nq34, Kq34, szq34, V_b182⟩ := hQ34
      have NF34 := Fr.app NF33 Nq34
      have ne_a_b182 : a ≠ b182 := Nat.ne_of_lt (Nat.lt_of_lt_of_le Ex_a.lt szq34)
      have ne_ha_b182 : ha ≠ b182 := Nat.ne_of_lt (Nat.lt_of_lt_of_le Ex_ha.lt szq34)
      have ne_sa_b182 : sa ≠ b182 := Nat.ne_of_lt (Nat.lt_of_lt_of_le V_sa.lt szq34)
      have ne_b158_b182 : b158 ≠ b182 := Nat.ne_of_lt (Nat.lt_of_lt_of_le V_b158.lt szq34)
      have ge_b182 : n0 ≤ b182 := Nat.le_trans Zs szq34
      have Ex_a := Ex_a.keep Kq34
      have Ex_ha := Ex_ha.keep Kq34
      have F_shares_a := F_shares_a.keep Kq34 nin0
      have F_held_a := F_held_a.keep Kq34 nin0
      have F_size_a := F_size_a.keep Kq34 nin0
      have V_sa := V_sa.keep Kq34 nin0
      have V_ha := V_ha.keep Kq34 nin0
      have V_b158 := V_b158.keep Kq34 nin0
      have Zs := Nat.le_trans Zs Kq34.1
      show G (T34.setTop (mkF m 185 _ [(.ref b182)]))
      refine g_astore hG X34 hx (hb hby at_185) (pc' := 187) rfl rfl (Ls' := #[.val (.int i0), .val (.int i1), .val (.int i2), .val (.int i3), .val (.int 2), .val (.int w5), .val (.int w6), .val (.int w7), .val (.int w8), .val (.double v49), .second, .val (.double v61), .second, .val (.double v73), .second, .val (.int v81), .val (.double v92), .second, .val (.ref a), .val (.ref b158), .val (.ref b182)]) rfl ?_
      refine g_aload hG X34 hx (hb hby at_187) (pc' := 189) rfl rfl rfl ?_
      refine g_arraylength hG X34 hx hZ rfl V_b182 (hb hby at_189) (pc' := 190) rfl ?_
      refine g_iconst hG X34 hx (hb hby at_190) (pc' := 191) rfl (v := (1 : Int32)) rfl ?_
      refine g_icmpNo hG X34 hx (hb hby at_191) (pc' := 194) (by decide) rfl ?_
      refine g_aload hG X34 hx (hb hby at_194) (pc' := 196) rfl rfl rfl ?_
      refine g_iconst hG X34 hx (hb hby at_196) (pc' := 197) rfl (v := (0 : Int32)) rfl ?_
      refine g_iaload hG X34 hx hZ rfl V_b182 (j := (0 : Int32)) (v := (.int v81)) (by decide) rfl (hb hby at_197) (pc' := 198) rfl ?_
      refine g_iload hG X34 hx (hb hby at_198) (pc' := 200) rfl rfl ?_
      refine g_icmpYes hG X34 hx (hb hby at_200) (pc' := 205) ((teq rfl).1) (by decide) (by decide) ?_
      have hmv : FP.dcmp x32 v92 = some .eq := by
        rw [← hx32]
        exact OwnFl.dcmp_eq (own_max' own_z D92 (Rat.le_of_lt P92)) D92 rfl
      refine g_aload hG X34 hx (hb hby at_205) (pc' := 207) rfl rfl rfl ?_
      refine g_iconst hG X34 hx (hb hby at_207) (pc' := 208) rfl (v := (0 : Int32)) rfl ?_
      refine g_iload hG X34 hx (hb hby at_208) (pc' := 210) rfl rfl ?_
      refine g_iload hG X34 hx (hb hby at_210) (pc' := 212) rfl rfl ?_
      refine g_dload hG X34 hx (hb hby at_212) (pc' := 214) rfl rfl ?_
      have hx0 : (upd shz v81 x32) (0 : Int32) = (if (0 : Int32) = v81 then x32 else 0) := by
        by_cases q : (0 : Int32) = v81
        · rw [if_pos q, q]; exact upd_same
        · rw [if_neg q]; exact (upd_ne q).trans (hz _ in2_0)
      have hc0 : ((0 : Int32) = v81 ∧ FP.dcmp (if (0 : Int32) = v81 then x32 else 0) v92 = some .eq) ∨ (¬ (0 : Int32) = v81 ∧ FP.dcmp (if (0 : Int32) = v81 then x32 else 0) 0 = some .eq) := by
        by_cases q : (0 : Int32) = v81
        · exact Or.inl ⟨q, by rw [if_pos q]; exact hmv⟩
        · exact Or.inr ⟨q, by rw [if_neg q]; exact own_zz⟩
      refine g_callS hG X34 hx hZ (y := (⟨"org/termsieve/mapping/SharesClearPinLaw", "at", "(Lorg/termsieve/mapping/Shares;IIID)Z"⟩ : MethodName)) 0 hown (wd hw 69 rfl) (wd hw 70 rfl) (wd hw 71 rfl) (wd hw 72 rfl) (by decide) (rmAt2_0 l Z a0 hw [] a sa ha (upd shz v81 x32) (upd hdz (0 : Int32) v81) (1 : Int32) v81 v92 (if (0 : Int32) = v81 then x32 else 0) T34.heap n0 Zs ⟨Ex_a, Ex_ha, F_shares_a, F_held_a, F_size_a, V_sa, V_ha⟩ ⟨ga, gsa, gha, d1, d2, d3⟩ hx0 hc0) (by decide) (by decide) (by rw [hml]; rfl) pd_11 rfl (argsL := [(.ref a), (.int 0), (.int 2), (.int v81), (.double v92)]) (rest := []) rfl rfl (Nat.le_of_eq rfl) (hb hby at_214) rfl (by decide) (by decide) (pc' := 217) rfl ?_
      intro T35 rv35 L35 X35 hQ35
      obtain ⟨rfl, Nq35, eh35⟩ := hQ35
      have NF35 := Fr.app NF34 Nq35
      show G (T35.setTop (mkF m 217 _ [(.int 1)]))
      refine g_ifNo hG X35 hx (hb hby at_217) (pc' := 220) (by decide) rfl ?_
      refine g_aload hG X35 hx (hb hby at_220) (pc' := 222) rfl rfl rfl ?_
      refine g_iconst hG X35 hx (hb hby at_222) (pc' := 223) rfl (v := (1 : Int32)) rfl ?_
      refine g_iload hG X35 hx (hb hby at_223) (pc' := 225) rfl rfl ?_
      refine g_iload hG X35 hx (hb hby at_225) (pc' := 227) rfl rfl ?_
      refine g_dload hG X35 hx (hb hby at_227) (pc' := 229) rfl rfl ?_
      have hx1 : (upd shz v81 x32) (1 : Int32) = (if (1 : Int32) = v81 then x32 else 0) := by
        by_cases q : (1 : Int32) = v81
        · rw [if_pos q, q]; exact upd_same
        · rw [if_neg q]; exact (upd_ne q).trans (hz _ in2_1)
      have hc1 : ((1 : Int32) = v81 ∧ FP.dcmp (if (1 : Int32) = v81 then x32 else 0) v92 = some .eq) ∨ (¬ (1 : Int32) = v81 ∧ FP.dcmp (if (1 : Int32) = v81 then x32 else 0) 0 = some .eq) := by
        by_cases q : (1 : Int32) = v81
        · exact Or.inl ⟨q, by rw [if_pos q]; exact hmv⟩
        · exact Or.inr ⟨q, by rw [if_neg q]; exact own_zz⟩
      refine g_callS hG X35 hx hZ (y := (⟨"org/termsieve/mapping/SharesClearPinLaw", "at", "(Lorg/termsieve/mapping/Shares;IIID)Z"⟩ : MethodName)) 0 hown (wd hw 69 rfl) (wd hw 70 rfl) (wd hw 71 rfl) (wd hw 72 rfl) (by decide) (rmAt2_1 l Z a0 hw [] a sa ha (upd shz v81 x32) (upd hdz (0 : Int32) v81) (1 : Int32) v81 v92 (if (1 : Int32) = v81 then x32 else 0) T34.heap n0 Zs ⟨Ex_a, Ex_ha, F_shares_a, F_held_a, F_size_a, V_sa, V_ha⟩ ⟨ga, gsa, gha, d1, d2, d3⟩ hx1 hc1) (by decide) (by decide) (by rw [hml]; rfl) pd_11 rfl (argsL := [(.ref a), (.int 1), (.int 2), (.int v81), (.double v92)]) (rest := []) rfl rfl (Nat.le_of_eq rfl) (hb hby at_229) eh35 (by decide) (by decide) (pc' := 232) rfl ?_
      intro T36 rv36 L36 X36 hQ36
      obtain ⟨rfl, Nq36, eh36⟩ := hQ36
      have NF36 := Fr.app NF35 Nq36
      show G (T36.setTop (mkF m 232 _ [(.int 1)]))
      refine g_ifNo hG X36 hx (hb hby at_232) (pc' := 235) (by decide) rfl ?_
      refine g_aload hG X36 hx (hb hby at_235) (pc' := 237) rfl rfl rfl ?_
      refine g_iconst hG X36 hx (hb hby at_237) (pc' := 238) rfl (v := (2 : Int32)) rfl ?_
      refine g_iload hG X36 hx (hb hby at_238) (pc' := 240) rfl rfl ?_
      refine g_iload hG X36 hx (hb hby at_240) (pc' := 242) rfl rfl ?_
      refine g_dload hG X36 hx (hb hby at_242) (pc' := 244) rfl rfl ?_
      refine g_callS hG X36 hx hZ (y := (⟨"org/termsieve/mapping/SharesClearPinLaw", "at", "(Lorg/termsieve/mapping/Shares;IIID)Z"⟩ : MethodName)) 0 hown (wd hw 69 rfl) (wd hw 70 rfl) (wd hw 71 rfl) (wd hw 72 rfl) (by decide) (rmAt2_2 l Z a0 hw [] a v81 v92 T34.heap n0 Zs) (by decide) (by decide) (by rw [hml]; rfl) pd_11 rfl (argsL := [(.ref a), (.int 2), (.int 2), (.int v81), (.double v92)]) (rest := []) rfl rfl (Nat.le_of_eq rfl) (hb hby at_244) eh36 (by decide) (by decide) (pc' := 247) rfl ?_
      intro T37 rv37 L37 X37 hQ37
      obtain ⟨rfl, Nq37, eh37⟩ := hQ37
      have NF37 := Fr.app NF36 Nq37
      show G (T37.setTop (mkF m 247 _ [(.int 1)]))
      refine g_ifNo hG X37 hx (hb hby at_247) (pc' := 250) (by decide) rfl ?_
      refine g_aload hG X37 hx (hb hby at_250) (pc' := 252) rfl rfl rfl ?_
      refine g_iconst hG X37 hx (hb hby at_252) (pc' := 253) rfl (v := (3 : Int32)) rfl ?_
      refine g_iload hG X37 hx (hb hby at_253) (pc' := 255) rfl rfl ?_
      refine g_iload hG X37 hx (hb hby at_255) (pc' := 257) rfl rfl ?_
      refine g_dload hG X37 hx (hb hby at_257) (pc' := 259) rfl rfl ?_
      refine g_callS hG X37 hx hZ (y := (⟨"org/termsieve/mapping/SharesClearPinLaw", "at", "(Lorg/termsieve/mapping/Shares;IIID)Z"⟩ : MethodName)) 0 hown (wd hw 69 rfl) (wd hw 70 rfl) (wd hw 71 rfl) (wd hw 72 rfl) (by decide) (rmAt2_3 l Z a0 hw [] a v81 v92 T34.heap n0 Zs) (by decide) (by decide) (by rw [hml]; rfl) pd_11 rfl (argsL := [(.ref a), (.int 3), (.int 2), (.int v81), (.double v92)]) (rest := []) rfl rfl (Nat.le_of_eq rfl) (hb hby at_259) eh37 (by decide) (by decide) (pc' := 262) rfl ?_
      intro T38 rv38 L38 X38 hQ38
      obtain ⟨rfl, Nq38, eh38⟩ := hQ38
      have NF38 := Fr.app NF37 Nq38
      show G (T38.setTop (mkF m 262 _ [(.int 1)]))
      refine g_ifNo hG X38 hx (hb hby at_262) (pc' := 265) (by decide) rfl ?_
      refine g_iconst hG X38 hx (hb hby at_265) (pc' := 266) rfl (v := (1 : Int32)) rfl ?_
      refine g_goto hG X38 hx (hb hby at_266) (pc' := 270) (by decide) (by decide) ?_
      exact e_retZ hGe X38 hx hrt hlk (hb hby at_270) (Or.inr rfl) eh38 (by decide) (by decide) (⟨rfl, NF38⟩)
    rcases b9 with rfl | rfl | rfl | rfl
    · skip
      refine g_iload hG X29 hx (hb hby at_106) (pc' := 108) rfl rfl ?_
      refine g_iconst hG X29 hx (hb hby at_108) (pc' := 109) rfl (v := (1 : Int32)) rfl ?_
      refine g_icmpYes hG X29 hx (hb hby at_109) (pc' := 121) (by decide) (by decide) (by decide) ?_
      refine g_iload hG X29 hx (hb hby at_121) (pc' := 123) rfl rfl ?_
      refine g_iconst hG X29 hx (hb hby at_123) (pc' := 124) rfl (v := (2 : Int32)) rfl ?_
      refine g_icmpYes hG X29 hx (hb hby at_124) (pc' := 136) (by decide) (by decide) (by decide) ?_
      refine g_iload hG X29 hx (hb hby at_136) (pc' := 138) rfl rfl ?_
      refine g_iconst hG X29 hx (hb hby at_138) (pc' := 139) rfl (v := (3 : Int32)) rfl ?_
      refine g_icmpYes hG X29 hx (hb hby at_139) (pc' := 151) (by decide) (by decide) (by decide) ?_
      refine g_aload hG X29 hx (hb hby at_151) (pc' := 153) rfl rfl rfl ?_
      refine g_callV hG X29 hx hZ (y := (⟨"org/termsieve/mapping/Shares", "clear", "()V"⟩ : MethodName)) 0 hown (wd hw 26 rfl) (wd hw 27 rfl) (wd hw 29 rfl) (wd hw 28 rfl) (wd hw 2 rfl) (wd hw 30 rfl) (by decide) (rmCl2_0 l Z a0 hw [] a sa ha (fun _ => (0 : UInt64)) (fun _ => (0 : Int32))  T29.heap n0 Zs ⟨Ex_a, Ex_ha, F_shares_a, F_held_a, F_size_a, V_sa, V_ha⟩ ⟨ga, gsa, gha, d1, d2, d3⟩) (by decide) (by decide) (by rw [hml]; rfl) pd_12 rfl (argsL := []) (rest := []) rfl rfl (Nat.le_of_eq rfl) (hb hby at_153) rfl Ex_a (by decide) (by decide) (pc' := 156) rfl ?_
      intro T39 rv39 L39 X39 hQ39
      obtain ⟨rfl, Nq39, Kq39, Ex_a, Ex_ha, F_shares_a, F_held_a, F_size_a, V_sa, V_ha⟩ := hQ39
      have NF39 := Fr.app NF29 Nq39
      have Zs := Nat.le_trans Zs Kq39.1
      show G (T39.setTop (mkF m 156 _ []))
      exact JC _ _ _ (fun _ => (0 : UInt64)) (fun _ => (0 : Int32)) (0 : Int32) v17 v27 v37 X39 rfl NF39 Zs  Ex_a Ex_ha F_shares_a F_held_a F_size_a V_sa V_ha (fun j _ => by first | rfl | (simp only [upd]; grind))
    · skip
      refine g_iload hG X29 hx (hb hby at_106) (pc' := 108) rfl rfl ?_
      refine g_iconst hG X29 hx (hb hby at_108) (pc' := 109) rfl (v := (1 : Int32)) rfl ?_
      refine g_icmpNo hG X29 hx (hb hby at_109) (pc' := 112) (by decide) rfl ?_
      refine g_aload hG X29 hx (hb hby at_112) (pc' := 114) rfl rfl rfl ?_
      refine g_iload hG X29 hx (hb hby at_114) (pc' := 116) rfl rfl ?_
      refine g_dload hG X29 hx (hb hby at_116) (pc' := 118) rfl rfl ?_
      obtain ⟨x40, hx40⟩ : ∃ z, Jvm.Native.java_lang_Math.nans.pick64 true 0 v49 = z := ⟨_, rfl⟩
      obtain ⟨cx40, Dx40, Px40⟩ := own_pk own_z D49 Rat.le_refl P49
      rw [hx40] at Dx40
      refine g_callV hG X29 hx hZ (y := (⟨"org/termsieve/mapping/Shares", "raise", "(ID)V"⟩ : MethodName)) 0 hown (wd hw 15 rfl) (wd hw 16 rfl) (wd hw 18 rfl) (wd hw 17 rfl) (wd hw 2 rfl) (wd hw 19 rfl) (by decide) (rmRa2_0n l Z a0 hw [] a sa ha (fun _ => (0 : UInt64)) (fun _ => (0 : Int32)) v17 v49 x40 T29.heap n0 Zs ⟨Ex_a, Ex_ha, F_shares_a, F_held_a, F_size_a, V_sa, V_ha⟩ ⟨ga, gsa, gha, d1, d2, d3⟩ ik0 D49.noNaN hx40 rfl) (by decide) (by decide) (by rw [hml]; rfl) pd_10 rfl (argsL := [(.int v17), (.double v49)]) (rest := []) rfl rfl (Nat.le_of_eq rfl) (hb hby at_118) rfl Ex_a (by decide) (by decide) (pc' := 121) rfl ?_
      intro T41 rv41 L41 X41 hQ41
      obtain ⟨rfl, Nq41, Kq41, Ex_a, Ex_ha, F_shares_a, F_held_a, F_size_a, V_sa, V_ha⟩ := hQ41
      have NF41 := Fr.app NF29 Nq41
      have Zs := Nat.le_trans Zs Kq41.1
      show G (T41.setTop (mkF m 121 _ []))
      refine g_iload hG X41 hx (hb hby at_121) (pc' := 123) rfl rfl ?_
      refine g_iconst hG X41 hx (hb hby at_123) (pc' := 124) rfl (v := (2 : Int32)) rfl ?_
      refine g_icmpYes hG X41 hx (hb hby at_124) (pc' := 136) (by decide) (by decide) (by decide) ?_
      refine g_iload hG X41 hx (hb hby at_136) (pc' := 138) rfl rfl ?_
      refine g_iconst hG X41 hx (hb hby at_138) (pc' := 139) rfl (v := (3 : Int32)) rfl ?_
      refine g_icmpYes hG X41 hx (hb hby at_139) (pc' := 151) (by decide) (by decide) (by decide) ?_
      refine g_aload hG X41 hx (hb hby at_151) (pc' := 153) rfl rfl rfl ?_
      refine g_callV hG X41 hx hZ (y := (⟨"org/termsieve/mapping/Shares", "clear", "()V"⟩ : MethodName)) 0 hown (wd hw 26 rfl) (wd hw 27 rfl) (wd hw 29 rfl) (wd hw 28 rfl) (wd hw 2 rfl) (wd hw 30 rfl) (by decide) (rmCl2_1 l Z a0 hw [] a sa ha (upd (fun _ => (0 : UInt64)) v17 x40) (upd (fun _ => (0 : Int32)) (0 : Int32) v17) v17 T41.heap n0 Zs ⟨Ex_a, Ex_ha, F_shares_a, F_held_a, F_size_a, V_sa, V_ha⟩ ⟨ga, gsa, gha, d1, d2, d3⟩ rfl ik0) (by decide) (by decide) (by rw [hml]; rfl) pd_12 rfl (argsL := []) (rest := []) rfl rfl (Nat.le_of_eq rfl) (hb hby at_153) rfl Ex_a (by decide) (by decide) (pc' := 156) rfl ?_
      intro T42 rv42 L42 X42 hQ42
      obtain ⟨rfl, Nq42, Kq42, Ex_a, Ex_ha, F_shares_a, F_held_a, F_size_a, V_sa, V_ha⟩ := hQ42
      have NF42 := Fr.app NF41 Nq42
      have Zs := Nat.le_trans Zs Kq42.1
      show G (T42.setTop (mkF m 156 _ []))
      exact JC _ _ _ (upd (upd (fun _ => (0 : UInt64)) v17 x40) v17 0) (upd (fun _ => (0 : Int32)) (0 : Int32) v17) (1 : Int32) v17 v27 v37 X42 rfl NF42 Zs  Ex_a Ex_ha F_shares_a F_held_a F_size_a V_sa V_ha (fun j _ => by first | rfl | (simp only [upd]; grind))
    · skip
      refine g_iload hG X29 hx (hb hby at_106) (pc' := 108) rfl rfl ?_
      refine g_iconst hG X29 hx (hb hby at_108) (pc' := 109) rfl (v := (1 : Int32)) rfl ?_
      refine g_icmpNo hG X29 hx (hb hby at_109) (pc' := 112) (by decide) rfl ?_
      refine g_aload hG X29 hx (hb hby at_112) (pc' := 114) rfl rfl rfl ?_
      refine g_iload hG X29 hx (hb hby at_114) (pc' := 116) rfl rfl ?_
      refine g_dload hG X29 hx (hb hby at_116) (pc' := 118) rfl rfl ?_
      obtain ⟨x43, hx43⟩ : ∃ z, Jvm.Native.java_lang_Math.nans.pick64 true 0 v49 = z := ⟨_, rfl⟩
      obtain ⟨cx43, Dx43, Px43⟩ := own_pk own_z D49 Rat.le_refl P49
      rw [hx43] at Dx43
      refine g_callV hG X29 hx hZ (y := (⟨"org/termsieve/mapping/Shares", "raise", "(ID)V"⟩ : MethodName)) 0 hown (wd hw 15 rfl) (wd hw 16 rfl) (wd hw 18 rfl) (wd hw 17 rfl) (wd hw 2 rfl) (wd hw 19 rfl) (by decide) (rmRa2_0n l Z a0 hw [] a sa ha (fun _ => (0 : UInt64)) (fun _ => (0 : Int32)) v17 v49 x43 T29.heap n0 Zs ⟨Ex_a, Ex_ha, F_shares_a, F_held_a, F_size_a, V_sa, V_ha⟩ ⟨ga, gsa, gha, d1, d2, d3⟩ ik0 D49.noNaN hx43 rfl) (by decide) (by decide) (by rw [hml]; rfl) pd_10 rfl (argsL := [(.int v17), (.double v49)]) (rest := []) rfl rfl (Nat.le_of_eq rfl) (hb hby at_118) rfl Ex_a (by decide) (by decide) (pc' := 121) rfl ?_
      intro T44 rv44 L44 X44 hQ44
      obtain ⟨rfl, Nq44, Kq44, Ex_a, Ex_ha, F_shares_a, F_held_a, F_size_a, V_sa, V_ha⟩ := hQ44
      have NF44 := Fr.app NF29 Nq44
      have Zs := Nat.le_trans Zs Kq44.1
      show G (T44.setTop (mkF m 121 _ []))
      refine g_iload hG X44 hx (hb hby at_121) (pc' := 123) rfl rfl ?_
      refine g_iconst hG X44 hx (hb hby at_123) (pc' := 124) rfl (v := (2 : Int32)) rfl ?_
      refine g_icmpNo hG X44 hx (hb hby at_124) (pc' := 127) (by decide) rfl ?_
      by_cases hk_v27_v17 : v27 = v17
      · have _hh := hk_v27_v17
        clear _hh
        have hk_v27_v17 := hk_v27_v17.symm
        subst hk_v27_v17
        refine g_aload hG X44 hx (hb hby at_127) (pc' := 129) rfl rfl rfl ?_
        refine g_iload hG X44 hx (hb hby at_129) (pc' := 131) rfl rfl ?_
        refine g_dload hG X44 hx (hb hby at_131) (pc' := 133) rfl rfl ?_
        obtain ⟨x45, hx45⟩ : ∃ z, Jvm.Native.java_lang_Math.nans.pick64 true x43 v61 = z := ⟨_, rfl⟩
        obtain ⟨cx45, Dx45, Px45⟩ := own_pk Dx43 D61 (Rat.le_of_lt Px43) P61
        rw [hx45] at Dx45
        refine g_callV hG X44 hx hZ (y := (⟨"org/termsieve/mapping/Shares", "raise", "(ID)V"⟩ : MethodName)) 0 hown (wd hw 15 rfl) (wd hw 16 rfl) (wd hw 18 rfl) (wd hw 17 rfl) (wd hw 2 rfl) (wd hw 19 rfl) (by decide) (rmRa2_1o l Z a0 hw [] a sa ha (upd (fun _ => (0 : UInt64)) v17 x43) (upd (fun _ => (0 : Int32)) (0 : Int32) v17) v17 v61 x45 x43 T44.heap n0 Zs ⟨Ex_a, Ex_ha, F_shares_a, F_held_a, F_size_a, V_sa, V_ha⟩ ⟨ga, gsa, gha, d1, d2, d3⟩ ik0 D61.noNaN hx45 upd_same Dx43.noNaN (OwnFl.dcmp_gt Dx43 own_z Px43)) (by decide) (by decide) (by rw [hml]; rfl) pd_10 rfl (argsL := [(.int v17), (.double v61)]) (rest := []) rfl rfl (Nat.le_of_eq rfl) (hb hby at_133) rfl Ex_a (by decide) (by decide) (pc' := 136) rfl ?_
        intro T46 rv46 L46 X46 hQ46
        obtain ⟨rfl, Nq46, Kq46, Ex_a, Ex_ha, F_shares_a, F_held_a, F_size_a, V_sa, V_ha⟩ := hQ46
        have NF46 := Fr.app NF44 Nq46
        have Zs := Nat.le_trans Zs Kq46.1
        show G (T46.setTop (mkF m 136 _ []))
        refine g_iload hG X46 hx (hb hby at_136) (pc' := 138) rfl rfl ?_
        refine g_iconst hG X46 hx (hb hby at_138) (pc' := 139) rfl (v := (3 : Int32)) rfl ?_
        refine g_icmpYes hG X46 hx (hb hby at_139) (pc' := 151) (by decide) (by decide) (by decide) ?_
        refine g_aload hG X46 hx (hb hby at_151) (pc' := 153) rfl rfl rfl ?_
        refine g_callV hG X46 hx hZ (y := (⟨"org/termsieve/mapping/Shares", "clear", "()V"⟩ : MethodName)) 0 hown (wd hw 26 rfl) (wd hw 27 rfl) (wd hw 29 rfl) (wd hw 28 rfl) (wd hw 2 rfl) (wd hw 30 rfl) (by decide) (rmCl2_1 l Z a0 hw [] a sa ha (upd (upd (fun _ => (0 : UInt64)) v17 x43) v17 x45) (upd (fun _ => (0 : Int32)) (0 : Int32) v17) v17 T46.heap n0 Zs ⟨Ex_a, Ex_ha, F_shares_a, F_held_a, F_size_a, V_sa, V_ha⟩ ⟨ga, gsa, gha, d1, d2, d3⟩ rfl ik0) (by decide) (by decide) (by rw [hml]; rfl) pd_12 rfl (argsL := []) (rest := []) rfl rfl (Nat.le_of_eq rfl) (hb hby at_153) rfl Ex_a (by decide) (by decide) (pc' := 156) rfl ?_
        intro T47 rv47 L47 X47 hQ47
        obtain ⟨rfl, Nq47, Kq47, Ex_a, Ex_ha, F_shares_a, F_held_a, F_size_a, V_sa, V_ha⟩ := hQ47
        have NF47 := Fr.app NF46 Nq47
        have Zs := Nat.le_trans Zs Kq47.1
        show G (T47.setTop (mkF m 156 _ []))
        exact JC _ _ _ (upd (upd (upd (fun _ => (0 : UInt64)) v17 x43) v17 x45) v17 0) (upd (fun _ => (0 : Int32)) (0 : Int32) v17) (2 : Int32) v17 v17 v37 X47 rfl NF47 Zs  Ex_a Ex_ha F_shares_a F_held_a F_size_a V_sa V_ha (fun j _ => by first | rfl | (simp only [upd]; grind))
      · have _hh := hk_v27_v17
        refine g_aload hG X44 hx (hb hby at_127) (pc' := 129) rfl rfl rfl ?_
        refine g_iload hG X44 hx (hb hby at_129) (pc' := 131) rfl rfl ?_
        refine g_dload hG X44 hx (hb hby at_131) (pc' := 133) rfl rfl ?_
        obtain ⟨x48, hx48⟩ : ∃ z, Jvm.Native.java_lang_Math.nans.pick64 true 0 v61 = z := ⟨_, rfl⟩
        obtain ⟨cx48, Dx48, Px48⟩ := own_pk own_z D61 Rat.le_refl P61
        rw [hx48] at Dx48
        refine g_callV hG X44 hx hZ (y := (⟨"org/termsieve/mapping/Shares", "raise", "(ID)V"⟩ : MethodName)) 0 hown (wd hw 15 rfl) (wd hw 16 rfl) (wd hw 18 rfl) (wd hw 17 rfl) (wd hw 2 rfl) (wd hw 19 rfl) (by decide) (rmRa2_1n l Z a0 hw [] a sa ha (upd (fun _ => (0 : UInt64)) v17 x43) (upd (fun _ => (0 : Int32)) (0 : Int32) v17) v27 v61 x48 T44.heap n0 Zs ⟨Ex_a, Ex_ha, F_shares_a, F_held_a, F_size_a, V_sa, V_ha⟩ ⟨ga, gsa, gha, d1, d2, d3⟩ ik1 D61.noNaN hx48 ((upd_ne hk_v27_v17).trans (rfl))) (by decide) (by decide) (by rw [hml]; rfl) pd_10 rfl (argsL := [(.int v27), (.double v61)]) (rest := []) rfl rfl (Nat.le_of_eq rfl) (hb hby at_133) rfl Ex_a (by decide) (by decide) (pc' := 136) rfl ?_
        intro T49 rv49 L49 X49 hQ49
        obtain ⟨rfl, Nq49, Kq49, Ex_a, Ex_ha, F_shares_a, F_held_a, F_size_a, V_sa, V_ha⟩ := hQ49
        have NF49 := Fr.app NF44 Nq49
        have Zs := Nat.le_trans Zs Kq49.1
        show G (T49.setTop (mkF m 136 _ []))
        refine g_iload hG X49 hx (hb hby at_136) (pc' := 138) rfl rfl ?_
        refine g_iconst hG X49 hx (hb hby at_138) (pc' := 139) rfl (v := (3 : Int32)) rfl ?_
        refine g_icmpYes hG X49 hx (hb hby at_139) (pc' := 151) (by decide) (by decide) (by decide) ?_
        refine g_aload hG X49 hx (hb hby at_151) (pc' := 153) rfl rfl rfl ?_
        refine g_callV hG X49 hx hZ (y := (⟨"org/termsieve/mapping/Shares", "clear", "()V"⟩ : MethodName)) 0 hown (wd hw 26 rfl) (wd hw 27 rfl) (wd hw 29 rfl) (wd hw 28 rfl) (wd hw 2 rfl) (wd hw 30 rfl) (by decide) (rmCl2_2 l Z a0 hw [] a sa ha (upd (upd (fun _ => (0 : UInt64)) v17 x43) v27 x48) (upd (upd (fun _ => (0 : Int32)) (0 : Int32) v17) (1 : Int32) v27) v17 v27 T49.heap n0 Zs ⟨Ex_a, Ex_ha, F_shares_a, F_held_a, F_size_a, V_sa, V_ha⟩ ⟨ga, gsa, gha, d1, d2, d3⟩ rfl ik0 rfl ik1) (by decide) (by decide) (by rw [hml]; rfl) pd_12 rfl (argsL := []) (rest := []) rfl rfl (Nat.le_of_eq rfl) (hb hby at_153) rfl Ex_a (by decide) (by decide) (pc' := 156) rfl ?_
        intro T50 rv50 L50 X50 hQ50
        obtain ⟨rfl, Nq50, Kq50, Ex_a, Ex_ha, F_shares_a, F_held_a, F_size_a, V_sa, V_ha⟩ := hQ50
        have NF50 := Fr.app NF49 Nq50
        have Zs := Nat.le_trans Zs Kq50.1
        show G (T50.setTop (mkF m 156 _ []))
        exact JC _ _ _ (upd (upd (upd (upd (fun _ => (0 : UInt64)) v17 x43) v27 x48) v17 0) v27 0) (upd (upd (fun _ => (0 : Int32)) (0 : Int32) v17) (1 : Int32) v27) (2 : Int32) v17 v27 v37 X50 rfl NF50 Zs  Ex_a Ex_ha F_shares_a F_held_a F_size_a V_sa V_ha (fun j _ => by first | rfl | (simp only [upd]; grind))
    · skip
      refine g_iload hG X29 hx (hb hby at_106) (pc' := 108) rfl rfl ?_
      refine g_iconst hG X29 hx (hb hby at_108) (pc' := 109) rfl (v := (1 : Int32)) rfl ?_
      refine g_icmpNo hG X29 hx (hb hby at_109) (pc' := 112) (by decide) rfl ?_
      refine g_aload hG X29 hx (hb hby at_112) (pc' := 114) rfl rfl rfl ?_
      refine g_iload hG X29 hx (hb hby at_114) (pc' := 116) rfl rfl ?_
      refine g_dload hG X29 hx (hb hby at_116) (pc' := 118) rfl rfl ?_
      obtain ⟨x51, hx51⟩ : ∃ z, Jvm.Native.java_lang_Math.nans.pick64 true 0 v49 = z := ⟨_, rfl⟩
      obtain ⟨cx51, Dx51, Px51⟩ := own_pk own_z D49 Rat.le_refl P49
      rw [hx51] at Dx51
      refine g_callV hG X29 hx hZ (y := (⟨"org/termsieve/mapping/Shares", "raise", "(ID)V"⟩ : MethodName)) 0 hown (wd hw 15 rfl) (wd hw 16 rfl) (wd hw 18 rfl) (wd hw 17 rfl) (wd hw 2 rfl) (wd hw 19 rfl) (by decide) (rmRa2_0n l Z a0 hw [] a sa ha (fun _ => (0 : UInt64)) (fun _ => (0 : Int32)) v17 v49 x51 T29.heap n0 Zs ⟨Ex_a, Ex_ha, F_shares_a, F_held_a, F_size_a, V_sa, V_ha⟩ ⟨ga, gsa, gha, d1, d2, d3⟩ ik0 D49.noNaN hx51 rfl) (by decide) (by decide) (by rw [hml]; rfl) pd_10 rfl (argsL := [(.int v17), (.double v49)]) (rest := []) rfl rfl (Nat.le_of_eq rfl) (hb hby at_118) rfl Ex_a (by decide) (by decide) (pc' := 121) rfl ?_
      intro T52 rv52 L52 X52 hQ52
      obtain ⟨rfl, Nq52, Kq52, Ex_a, Ex_ha, F_shares_a, F_held_a, F_size_a, V_sa, V_ha⟩ := hQ52
      have NF52 := Fr.app NF29 Nq52
      have Zs := Nat.le_trans Zs Kq52.1
      show G (T52.setTop (mkF m 121 _ []))
      refine g_iload hG X52 hx (hb hby at_121) (pc' := 123) rfl rfl ?_
      refine g_iconst hG X52 hx (hb hby at_123) (pc' := 124) rfl (v := (2 : Int32)) rfl ?_
      refine g_icmpNo hG X52 hx (hb hby at_124) (pc' := 127) (by decide) rfl ?_
      by_cases hk_v27_v17 : v27 = v17
      · have _hh := hk_v27_v17
        clear _hh
        have hk_v27_v17 := hk_v27_v17.symm
        subst hk_v27_v17
        refine g_aload hG X52 hx (hb hby at_127) (pc' := 129) rfl rfl rfl ?_
        refine g_iload hG X52 hx (hb hby at_129) (pc' := 131) rfl rfl ?_
        refine g_dload hG X52 hx (hb hby at_131) (pc' := 133) rfl rfl ?_
        obtain ⟨x53, hx53⟩ : ∃ z, Jvm.Native.java_lang_Math.nans.pick64 true x51 v61 = z := ⟨_, rfl⟩
        obtain ⟨cx53, Dx53, Px53⟩ := own_pk Dx51 D61 (Rat.le_of_lt Px51) P61
        rw [hx53] at Dx53
        refine g_callV hG X52 hx hZ (y := (⟨"org/termsieve/mapping/Shares", "raise", "(ID)V"⟩ : MethodName)) 0 hown (wd hw 15 rfl) (wd hw 16 rfl) (wd hw 18 rfl) (wd hw 17 rfl) (wd hw 2 rfl) (wd hw 19 rfl) (by decide) (rmRa2_1o l Z a0 hw [] a sa ha (upd (fun _ => (0 : UInt64)) v17 x51) (upd (fun _ => (0 : Int32)) (0 : Int32) v17) v17 v61 x53 x51 T52.heap n0 Zs ⟨Ex_a, Ex_ha, F_shares_a, F_held_a, F_size_a, V_sa, V_ha⟩ ⟨ga, gsa, gha, d1, d2, d3⟩ ik0 D61.noNaN hx53 upd_same Dx51.noNaN (OwnFl.dcmp_gt Dx51 own_z Px51)) (by decide) (by decide) (by rw [hml]; rfl) pd_10 rfl (argsL := [(.int v17), (.double v61)]) (rest := []) rfl rfl (Nat.le_of_eq rfl) (hb hby at_133) rfl Ex_a (by decide) (by decide) (pc' := 136) rfl ?_
        intro T54 rv54 L54 X54 hQ54
        obtain ⟨rfl, Nq54, Kq54, Ex_a, Ex_ha, F_shares_a, F_held_a, F_size_a, V_sa, V_ha⟩ := hQ54
        have NF54 := Fr.app NF52 Nq54
        have Zs := Nat.le_trans Zs Kq54.1
        show G (T54.setTop (mkF m 136 _ []))
        refine g_iload hG X54 hx (hb hby at_136) (pc' := 138) rfl rfl ?_
        refine g_iconst hG X54 hx (hb hby at_138) (pc' := 139) rfl (v := (3 : Int32)) rfl ?_
        refine g_icmpNo hG X54 hx (hb hby at_139) (pc' := 142) (by decide) rfl ?_
        by_cases hk_v37_v17 : v37 = v17
        · have _hh := hk_v37_v17
          clear _hh
          have hk_v37_v17 := hk_v37_v17.symm
          subst hk_v37_v17
          refine g_aload hG X54 hx (hb hby at_142) (pc' := 144) rfl rfl rfl ?_
          refine g_iload hG X54 hx (hb hby at_144) (pc' := 146) rfl rfl ?_
          refine g_dload hG X54 hx (hb hby at_146) (pc' := 148) rfl rfl ?_
          obtain ⟨x55, hx55⟩ : ∃ z, Jvm.Native.java_lang_Math.nans.pick64 true x53 v73 = z := ⟨_, rfl⟩
          obtain ⟨cx55, Dx55, Px55⟩ := own_pk Dx53 D73 (Rat.le_of_lt Px53) P73
          rw [hx55] at Dx55
          refine g_callV hG X54 hx hZ (y := (⟨"org/termsieve/mapping/Shares", "raise", "(ID)V"⟩ : MethodName)) 0 hown (wd hw 15 rfl) (wd hw 16 rfl) (wd hw 18 rfl) (wd hw 17 rfl) (wd hw 2 rfl) (wd hw 19 rfl) (by decide) (rmRa2_1o l Z a0 hw [] a sa ha (upd (upd (fun _ => (0 : UInt64)) v17 x51) v17 x53) (upd (fun _ => (0 : Int32)) (0 : Int32) v17) v17 v73 x55 x53 T54.heap n0 Zs ⟨Ex_a, Ex_ha, F_shares_a, F_held_a, F_size_a, V_sa, V_ha⟩ ⟨ga, gsa, gha, d1, d2, d3⟩ ik0 D73.noNaN hx55 upd_same Dx53.noNaN (OwnFl.dcmp_gt Dx53 own_z Px53)) (by decide) (by decide) (by rw [hml]; rfl) pd_10 rfl (argsL := [(.int v17), (.double v73)]) (rest := []) rfl rfl (Nat.le_of_eq rfl) (hb hby at_148) rfl Ex_a (by decide) (by decide) (pc' := 151) rfl ?_
          intro T56 rv56 L56 X56 hQ56
          obtain ⟨rfl, Nq56, Kq56, Ex_a, Ex_ha, F_shares_a, F_held_a, F_size_a, V_sa, V_ha⟩ := hQ56
          have NF56 := Fr.app NF54 Nq56
          have Zs := Nat.le_trans Zs Kq56.1
          show G (T56.setTop (mkF m 151 _ []))
          refine g_aload hG X56 hx (hb hby at_151) (pc' := 153) rfl rfl rfl ?_
          refine g_callV hG X56 hx hZ (y := (⟨"org/termsieve/mapping/Shares", "clear", "()V"⟩ : MethodName)) 0 hown (wd hw 26 rfl) (wd hw 27 rfl) (wd hw 29 rfl) (wd hw 28 rfl) (wd hw 2 rfl) (wd hw 30 rfl) (by decide) (rmCl2_1 l Z a0 hw [] a sa ha (upd (upd (upd (fun _ => (0 : UInt64)) v17 x51) v17 x53) v17 x55) (upd (fun _ => (0 : Int32)) (0 : Int32) v17) v17 T56.heap n0 Zs ⟨Ex_a, Ex_ha, F_shares_a, F_held_a, F_size_a, V_sa, V_ha⟩ ⟨ga, gsa, gha, d1, d2, d3⟩ rfl ik0) (by decide) (by decide) (by rw [hml]; rfl) pd_12 rfl (argsL := []) (rest := []) rfl rfl (Nat.le_of_eq rfl) (hb hby at_153) rfl Ex_a (by decide) (by decide) (pc' := 156) rfl ?_
          intro T57 rv57 L57 X57 hQ57
          obtain ⟨rfl, Nq57, Kq57, Ex_a, Ex_ha, F_shares_a, F_held_a, F_size_a, V_sa, V_ha⟩ := hQ57
          have NF57 := Fr.app NF56 Nq57
          have Zs := Nat.le_trans Zs Kq57.1
          show G (T57.setTop (mkF m 156 _ []))
          exact JC _ _ _ (upd (upd (upd (upd (fun _ => (0 : UInt64)) v17 x51) v17 x53) v17 x55) v17 0) (upd (fun _ => (0 : Int32)) (0 : Int32) v17) (3 : Int32) v17 v17 v17 X57 rfl NF57 Zs  Ex_a Ex_ha F_shares_a F_held_a F_size_a V_sa V_ha (fun j _ => by first | rfl | (simp only [upd]; grind))
        · have _hh := hk_v37_v17
          refine g_aload hG X54 hx (hb hby at_142) (pc' := 144) rfl rfl rfl ?_
          refine g_iload hG X54 hx (hb hby at_144) (pc' := 146) rfl rfl ?_
          refine g_dload hG X54 hx (hb hby at_146) (pc' := 148) rfl rfl ?_
          obtain ⟨x58, hx58⟩ : ∃ z, Jvm.Native.java_lang_Math.nans.pick64 true 0 v73 = z := ⟨_, rfl⟩
          obtain ⟨cx58, Dx58, Px58⟩ := own_pk own_z D73 Rat.le_refl P73
          rw [hx58] at Dx58
          refine g_callV hG X54 hx hZ (y := (⟨"org/termsieve/mapping/Shares", "raise", "(ID)V"⟩ : MethodName)) 0 hown (wd hw 15 rfl) (wd hw 16 rfl) (wd hw 18 rfl) (wd hw 17 rfl) (wd hw 2 rfl) (wd hw 19 rfl) (by decide) (rmRa2_1n l Z a0 hw [] a sa ha (upd (upd (fun _ => (0 : UInt64)) v17 x51) v17 x53) (upd (fun _ => (0 : Int32)) (0 : Int32) v17) v37 v73 x58 T54.heap n0 Zs ⟨Ex_a, Ex_ha, F_shares_a, F_held_a, F_size_a, V_sa, V_ha⟩ ⟨ga, gsa, gha, d1, d2, d3⟩ ik2 D73.noNaN hx58 ((upd_ne hk_v37_v17).trans ((upd_ne hk_v37_v17).trans (rfl)))) (by decide) (by decide) (by rw [hml]; rfl) pd_10 rfl (argsL := [(.int v37), (.double v73)]) (rest := []) rfl rfl (Nat.le_of_eq rfl) (hb hby at_148) rfl Ex_a (by decide) (by decide) (pc' := 151) rfl ?_
          intro T59 rv59 L59 X59 hQ59
          obtain ⟨rfl, Nq59, Kq59, Ex_a, Ex_ha, F_shares_a, F_held_a, F_size_a, V_sa, V_ha⟩ := hQ59
          have NF59 := Fr.app NF54 Nq59
          have Zs := Nat.le_trans Zs Kq59.1
          show G (T59.setTop (mkF m 151 _ []))
          refine g_aload hG X59 hx (hb hby at_151) (pc' := 153) rfl rfl rfl ?_
          refine g_callV hG X59 hx hZ (y := (⟨"org/termsieve/mapping/Shares", "clear", "()V"⟩ : MethodName)) 0 hown (wd hw 26 rfl) (wd hw 27 rfl) (wd hw 29 rfl) (wd hw 28 rfl) (wd hw 2 rfl) (wd hw 30 rfl) (by decide) (rmCl2_2 l Z a0 hw [] a sa ha (upd (upd (upd (fun _ => (0 : UInt64)) v17 x51) v17 x53) v37 x58) (upd (upd (fun _ => (0 : Int32)) (0 : Int32) v17) (1 : Int32) v37) v17 v37 T59.heap n0 Zs ⟨Ex_a, Ex_ha, F_shares_a, F_held_a, F_size_a, V_sa, V_ha⟩ ⟨ga, gsa, gha, d1, d2, d3⟩ rfl ik0 rfl ik2) (by decide) (by decide) (by rw [hml]; rfl) pd_12 rfl (argsL := []) (rest := []) rfl rfl (Nat.le_of_eq rfl) (hb hby at_153) rfl Ex_a (by decide) (by decide) (pc' := 156) rfl ?_
          intro T60 rv60 L60 X60 hQ60
          obtain ⟨rfl, Nq60, Kq60, Ex_a, Ex_ha, F_shares_a, F_held_a, F_size_a, V_sa, V_ha⟩ := hQ60
          have NF60 := Fr.app NF59 Nq60
          have Zs := Nat.le_trans Zs Kq60.1
          show G (T60.setTop (mkF m 156 _ []))
          exact JC _ _ _ (upd (upd (upd (upd (upd (fun _ => (0 : UInt64)) v17 x51) v17 x53) v37 x58) v17 0) v37 0) (upd (upd (fun _ => (0 : Int32)) (0 : Int32) v17) (1 : Int32) v37) (3 : Int32) v17 v17 v37 X60 rfl NF60 Zs  Ex_a Ex_ha F_shares_a F_held_a F_size_a V_sa V_ha (fun j _ => by first | rfl | (simp only [upd]; grind))
      · have _hh := hk_v27_v17
        refine g_aload hG X52 hx (hb hby at_127) (pc' := 129) rfl rfl rfl ?_
        refine g_iload hG X52 hx (hb hby at_129) (pc' := 131) rfl rfl ?_
        refine g_dload hG X52 hx (hb hby at_131) (pc' := 133) rfl rfl ?_
        obtain ⟨x61, hx61⟩ : ∃ z, Jvm.Native.java_lang_Math.nans.pick64 true 0 v61 = z := ⟨_, rfl⟩
        obtain ⟨cx61, Dx61, Px61⟩ := own_pk own_z D61 Rat.le_refl P61
        rw [hx61] at Dx61
        refine g_callV hG X52 hx hZ (y := (⟨"org/termsieve/mapping/Shares", "raise", "(ID)V"⟩ : MethodName)) 0 hown (wd hw 15 rfl) (wd hw 16 rfl) (wd hw 18 rfl) (wd hw 17 rfl) (wd hw 2 rfl) (wd hw 19 rfl) (by decide) (rmRa2_1n l Z a0 hw [] a sa ha (upd (fun _ => (0 : UInt64)) v17 x51) (upd (fun _ => (0 : Int32)) (0 : Int32) v17) v27 v61 x61 T52.heap n0 Zs ⟨Ex_a, Ex_ha, F_shares_a, F_held_a, F_size_a, V_sa, V_ha⟩ ⟨ga, gsa, gha, d1, d2, d3⟩ ik1 D61.noNaN hx61 ((upd_ne hk_v27_v17).trans (rfl))) (by decide) (by decide) (by rw [hml]; rfl) pd_10 rfl (argsL := [(.int v27), (.double v61)]) (rest := []) rfl rfl (Nat.le_of_eq rfl) (hb hby at_133) rfl Ex_a (by decide) (by decide) (pc' := 136) rfl ?_
        intro T62 rv62 L62 X62 hQ62
        obtain ⟨rfl, Nq62, Kq62, Ex_a, Ex_ha, F_shares_a, F_held_a, F_size_a, V_sa, V_ha⟩ := hQ62
        have NF62 := Fr.app NF52 Nq62
        have Zs := Nat.le_trans Zs Kq62.1
        show G (T62.setTop (mkF m 136 _ []))
        refine g_iload hG X62 hx (hb hby at_136) (pc' := 138) rfl rfl ?_
        refine g_iconst hG X62 hx (hb hby at_138) (pc' := 139) rfl (v := (3 : Int32)) rfl ?_
        refine g_icmpNo hG X62 hx (hb hby at_139) (pc' := 142) (by decide) rfl ?_
        by_cases hk_v37_v17 : v37 = v17
        · have _hh := hk_v37_v17
          clear _hh
          have hk_v37_v17 := hk_v37_v17.symm
          subst hk_v37_v17
          refine g_aload hG X62 hx (hb hby at_142) (pc' := 144) rfl rfl rfl ?_
          refine g_iload hG X62 hx (hb hby at_144) (pc' := 146) rfl rfl ?_
          refine g_dload hG X62 hx (hb hby at_146) (pc' := 148) rfl rfl ?_
          obtain ⟨x63, hx63⟩ : ∃ z, Jvm.Native.java_lang_Math.nans.pick64 true x51 v73 = z := ⟨_, rfl⟩
          obtain ⟨cx63, Dx63, Px63⟩ := own_pk Dx51 D73 (Rat.le_of_lt Px51) P73
          rw [hx63] at Dx63
          refine g_callV hG X62 hx hZ (y := (⟨"org/termsieve/mapping/Shares", "raise", "(ID)V"⟩ : MethodName)) 0 hown (wd hw 15 rfl) (wd hw 16 rfl) (wd hw 18 rfl) (wd hw 17 rfl) (wd hw 2 rfl) (wd hw 19 rfl) (by decide) (rmRa2_2o l Z a0 hw [] a sa ha (upd (upd (fun _ => (0 : UInt64)) v17 x51) v27 x61) (upd (upd (fun _ => (0 : Int32)) (0 : Int32) v17) (1 : Int32) v27) v17 v73 x63 x51 T62.heap n0 Zs ⟨Ex_a, Ex_ha, F_shares_a, F_held_a, F_size_a, V_sa, V_ha⟩ ⟨ga, gsa, gha, d1, d2, d3⟩ ik0 D73.noNaN hx63 ((upd_ne (fun z => hk_v27_v17 z.symm)).trans (upd_same)) Dx51.noNaN (OwnFl.dcmp_gt Dx51 own_z Px51)) (by decide) (by decide) (by rw [hml]; rfl) pd_10 rfl (argsL := [(.int v17), (.double v73)]) (rest := []) rfl rfl (Nat.le_of_eq rfl) (hb hby at_148) rfl Ex_a (by decide) (by decide) (pc' := 151) rfl ?_
          intro T64 rv64 L64 X64 hQ64
          obtain ⟨rfl, Nq64, Kq64, Ex_a, Ex_ha, F_shares_a, F_held_a, F_size_a, V_sa, V_ha⟩ := hQ64
          have NF64 := Fr.app NF62 Nq64
          have Zs := Nat.le_trans Zs Kq64.1
          show G (T64.setTop (mkF m 151 _ []))
          refine g_aload hG X64 hx (hb hby at_151) (pc' := 153) rfl rfl rfl ?_
          refine g_callV hG X64 hx hZ (y := (⟨"org/termsieve/mapping/Shares", "clear", "()V"⟩ : MethodName)) 0 hown (wd hw 26 rfl) (wd hw 27 rfl) (wd hw 29 rfl) (wd hw 28 rfl) (wd hw 2 rfl) (wd hw 30 rfl) (by decide) (rmCl2_2 l Z a0 hw [] a sa ha (upd (upd (upd (fun _ => (0 : UInt64)) v17 x51) v27 x61) v17 x63) (upd (upd (fun _ => (0 : Int32)) (0 : Int32) v17) (1 : Int32) v27) v17 v27 T64.heap n0 Zs ⟨Ex_a, Ex_ha, F_shares_a, F_held_a, F_size_a, V_sa, V_ha⟩ ⟨ga, gsa, gha, d1, d2, d3⟩ rfl ik0 rfl ik1) (by decide) (by decide) (by rw [hml]; rfl) pd_12 rfl (argsL := []) (rest := []) rfl rfl (Nat.le_of_eq rfl) (hb hby at_153) rfl Ex_a (by decide) (by decide) (pc' := 156) rfl ?_
          intro T65 rv65 L65 X65 hQ65
          obtain ⟨rfl, Nq65, Kq65, Ex_a, Ex_ha, F_shares_a, F_held_a, F_size_a, V_sa, V_ha⟩ := hQ65
          have NF65 := Fr.app NF64 Nq65
          have Zs := Nat.le_trans Zs Kq65.1
          show G (T65.setTop (mkF m 156 _ []))
          exact JC _ _ _ (upd (upd (upd (upd (upd (fun _ => (0 : UInt64)) v17 x51) v27 x61) v17 x63) v17 0) v27 0) (upd (upd (fun _ => (0 : Int32)) (0 : Int32) v17) (1 : Int32) v27) (3 : Int32) v17 v27 v17 X65 rfl NF65 Zs  Ex_a Ex_ha F_shares_a F_held_a F_size_a V_sa V_ha (fun j _ => by first | rfl | (simp only [upd]; grind))
        · have _hh := hk_v37_v17
          by_cases hk_v37_v27 : v37 = v27
          · have _hh := hk_v37_v27
            clear _hh
            have hk_v37_v27 := hk_v37_v27.symm
            subst hk_v37_v27
            refine g_aload hG X62 hx (hb hby at_142) (pc' := 144) rfl rfl rfl ?_
            refine g_iload hG X62 hx (hb hby at_144) (pc' := 146) rfl rfl ?_
            refine g_dload hG X62 hx (hb hby at_146) (pc' := 148) rfl rfl ?_
            obtain ⟨x66, hx66⟩ : ∃ z, Jvm.Native.java_lang_Math.nans.pick64 true x61 v73 = z := ⟨_, rfl⟩
            obtain ⟨cx66, Dx66, Px66⟩ := own_pk Dx61 D73 (Rat.le_of_lt Px61) P73
            rw [hx66] at Dx66
            refine g_callV hG X62 hx hZ (y := (⟨"org/termsieve/mapping/Shares", "raise", "(ID)V"⟩ : MethodName)) 0 hown (wd hw 15 rfl) (wd hw 16 rfl) (wd hw 18 rfl) (wd hw 17 rfl) (wd hw 2 rfl) (wd hw 19 rfl) (by decide) (rmRa2_2o l Z a0 hw [] a sa ha (upd (upd (fun _ => (0 : UInt64)) v17 x51) v27 x61) (upd (upd (fun _ => (0 : Int32)) (0 : Int32) v17) (1 : Int32) v27) v27 v73 x66 x61 T62.heap n0 Zs ⟨Ex_a, Ex_ha, F_shares_a, F_held_a, F_size_a, V_sa, V_ha⟩ ⟨ga, gsa, gha, d1, d2, d3⟩ ik1 D73.noNaN hx66 upd_same Dx61.noNaN (OwnFl.dcmp_gt Dx61 own_z Px61)) (by decide) (by decide) (by rw [hml]; rfl) pd_10 rfl (argsL := [(.int v27), (.double v73)]) (rest := []) rfl rfl (Nat.le_of_eq rfl) (hb hby at_148) rfl Ex_a (by decide) (by decide) (pc' := 151) rfl ?_
            intro T67 rv67 L67 X67 hQ67
            obtain ⟨rfl, Nq67, Kq67, Ex_a, Ex_ha, F_shares_a, F_held_a, F_size_a, V_sa, V_ha⟩ := hQ67
            have NF67 := Fr.app NF62 Nq67
            have Zs := Nat.le_trans Zs Kq67.1
            show G (T67.setTop (mkF m 151 _ []))
            refine g_aload hG X67 hx (hb hby at_151) (pc' := 153) rfl rfl rfl ?_
            refine g_callV hG X67 hx hZ (y := (⟨"org/termsieve/mapping/Shares", "clear", "()V"⟩ : MethodName)) 0 hown (wd hw 26 rfl) (wd hw 27 rfl) (wd hw 29 rfl) (wd hw 28 rfl) (wd hw 2 rfl) (wd hw 30 rfl) (by decide) (rmCl2_2 l Z a0 hw [] a sa ha (upd (upd (upd (fun _ => (0 : UInt64)) v17 x51) v27 x61) v27 x66) (upd (upd (fun _ => (0 : Int32)) (0 : Int32) v17) (1 : Int32) v27) v17 v27 T67.heap n0 Zs ⟨Ex_a, Ex_ha, F_shares_a, F_held_a, F_size_a, V_sa, V_ha⟩ ⟨ga, gsa, gha, d1, d2, d3⟩ rfl ik0 rfl ik1) (by decide) (by decide) (by rw [hml]; rfl) pd_12 rfl (argsL := []) (rest := []) rfl rfl (Nat.le_of_eq rfl) (hb hby at_153) rfl Ex_a (by decide) (by decide) (pc' := 156) rfl ?_
            intro T68 rv68 L68 X68 hQ68
            obtain ⟨rfl, Nq68, Kq68, Ex_a, Ex_ha, F_shares_a, F_held_a, F_size_a, V_sa, V_ha⟩ := hQ68
            have NF68 := Fr.app NF67 Nq68
            have Zs := Nat.le_trans Zs Kq68.1
            show G (T68.setTop (mkF m 156 _ []))
            exact JC _ _ _ (upd (upd (upd (upd (upd (fun _ => (0 : UInt64)) v17 x51) v27 x61) v27 x66) v17 0) v27 0) (upd (upd (fun _ => (0 : Int32)) (0 : Int32) v17) (1 : Int32) v27) (3 : Int32) v17 v27 v27 X68 rfl NF68 Zs  Ex_a Ex_ha F_shares_a F_held_a F_size_a V_sa V_ha (fun j _ => by first | rfl | (simp only [upd]; grind))
          · have _hh := hk_v37_v27
            exfalso
            rcases ik0 with u0 | u0 <;> rcases ik1 with u1 | u1 <;> rcases ik2 with u2 | u2 <;> simp_all
  · skip
    refine g_istore hG X0 hx (hb hby at_5) (pc' := 7) rfl (Ls' := #[.val (.int i0), .val (.int i1), .val (.int i2), .val (.int i3), .val (.int 3), .unset, .unset, .unset, .unset, .unset, .unset, .unset, .unset, .unset, .unset, .unset, .unset, .unset, .unset, .unset, .unset]) rfl ?_
    refine g_iloadN hG X0 hx (hb hby at_7) (pc' := 8) rfl rfl ?_
    refine g_iconst hG X0 hx (hb hby at_8) (pc' := 9) rfl (v := (3 : Int32)) rfl ?_
    obtain ⟨v9, q9⟩ : ∃ zz : Int32, i1 &&& (3 : Int32) = zz := ⟨_, rfl⟩
    refine g_iand hG X0 hx (hb hby at_9) (pc' := 10) rfl q9 ?_
    refine g_istore hG X0 hx (hb hby at_10) (pc' := 12) rfl (Ls' := #[.val (.int i0), .val (.int i1), .val (.int i2), .val (.int i3), .val (.int 3), .val (.int v9), .unset, .unset, .unset, .unset, .unset, .unset, .unset, .unset, .unset, .unset, .unset, .unset, .unset, .unset, .unset]) rfl ?_
    refine g_iloadN hG X0 hx (hb hby at_12) (pc' := 13) rfl rfl ?_
    refine g_iconst hG X0 hx (hb hby at_13) (pc' := 14) rfl (v := (3 : Int32)) rfl ?_
    obtain ⟨v14, q14⟩ : ∃ zz : Int32, i2 &&& (3 : Int32) = zz := ⟨_, rfl⟩
    refine g_iand hG X0 hx (hb hby at_14) (pc' := 15) rfl q14 ?_
    refine g_iload hG X0 hx (hb hby at_15) (pc' := 17) rfl rfl ?_
    obtain ⟨v17, q17⟩ : ∃ zz : Int32, v14 % (3 : Int32) = zz := ⟨_, rfl⟩
    refine g_irem hG X0 hx (hb hby at_17) (pc' := 18) rfl (by decide) q17 ?_
    refine g_istore hG X0 hx (hb hby at_18) (pc' := 20) rfl (Ls' := #[.val (.int i0), .val (.int i1), .val (.int i2), .val (.int i3), .val (.int 3), .val (.int v9), .val (.int v17), .unset, .unset, .unset, .unset, .unset, .unset, .unset, .unset, .unset, .unset, .unset, .unset, .unset, .unset]) rfl ?_
    refine g_iloadN hG X0 hx (hb hby at_20) (pc' := 21) rfl rfl ?_
    refine g_iconst hG X0 hx (hb hby at_21) (pc' := 22) rfl (v := (2 : Int32)) rfl ?_
    obtain ⟨v22, q22⟩ : ∃ zz : Int32, (i2.toUInt32 >>> ((2 : Int32) &&& 31).toUInt32).toInt32 = zz := ⟨_, rfl⟩
    refine g_iushr hG X0 hx (hb hby at_22) (pc' := 23) rfl q22 ?_
    refine g_iconst hG X0 hx (hb hby at_23) (pc' := 24) rfl (v := (3 : Int32)) rfl ?_
    obtain ⟨v24, q24⟩ : ∃ zz : Int32, v22 &&& (3 : Int32) = zz := ⟨_, rfl⟩
    refine g_iand hG X0 hx (hb hby at_24) (pc' := 25) rfl q24 ?_
    refine g_iload hG X0 hx (hb hby at_25) (pc' := 27) rfl rfl ?_
    obtain ⟨v27, q27⟩ : ∃ zz : Int32, v24 % (3 : Int32) = zz := ⟨_, rfl⟩
    refine g_irem hG X0 hx (hb hby at_27) (pc' := 28) rfl (by decide) q27 ?_
    refine g_istore hG X0 hx (hb hby at_28) (pc' := 30) rfl (Ls' := #[.val (.int i0), .val (.int i1), .val (.int i2), .val (.int i3), .val (.int 3), .val (.int v9), .val (.int v17), .val (.int v27), .unset, .unset, .unset, .unset, .unset, .unset, .unset, .unset, .unset, .unset, .unset, .unset, .unset]) rfl ?_
    refine g_iloadN hG X0 hx (hb hby at_30) (pc' := 31) rfl rfl ?_
    refine g_iconst hG X0 hx (hb hby at_31) (pc' := 32) rfl (v := (4 : Int32)) rfl ?_
    obtain ⟨v32, q32⟩ : ∃ zz : Int32, (i2.toUInt32 >>> ((4 : Int32) &&& 31).toUInt32).toInt32 = zz := ⟨_, rfl⟩
    refine g_iushr hG X0 hx (hb hby at_32) (pc' := 33) rfl q32 ?_
    refine g_iconst hG X0 hx (hb hby at_33) (pc' := 34) rfl (v := (3 : Int32)) rfl ?_
    obtain ⟨v34, q34⟩ : ∃ zz : Int32, v32 &&& (3 : Int32) = zz := ⟨_, rfl⟩
    refine g_iand hG X0 hx (hb hby at_34) (pc' := 35) rfl q34 ?_
    refine g_iload hG X0 hx (hb hby at_35) (pc' := 37) rfl rfl ?_
    obtain ⟨v37, q37⟩ : ∃ zz : Int32, v34 % (3 : Int32) = zz := ⟨_, rfl⟩
    refine g_irem hG X0 hx (hb hby at_37) (pc' := 38) rfl (by decide) q37 ?_
    refine g_istore hG X0 hx (hb hby at_38) (pc' := 40) rfl (Ls' := #[.val (.int i0), .val (.int i1), .val (.int i2), .val (.int i3), .val (.int 3), .val (.int v9), .val (.int v17), .val (.int v27), .val (.int v37), .unset, .unset, .unset, .unset, .unset, .unset, .unset, .unset, .unset, .unset, .unset, .unset]) rfl ?_
    refine g_iconst hG X0 hx (hb hby at_40) (pc' := 41) rfl (v := (1 : Int32)) rfl ?_
    refine g_iloadN hG X0 hx (hb hby at_41) (pc' := 42) rfl rfl ?_
    refine g_bipush hG X0 hx (hb hby at_42) (pc' := 44) rfl (v := (6 : Int32)) rfl ?_
    obtain ⟨v44, q44⟩ : ∃ zz : Int32, (i2.toUInt32 >>> ((6 : Int32) &&& 31).toUInt32).toInt32 = zz := ⟨_, rfl⟩
    refine g_iushr hG X0 hx (hb hby at_44) (pc' := 45) rfl q44 ?_
    refine g_bipush hG X0 hx (hb hby at_45) (pc' := 47) rfl (v := (7 : Int32)) rfl ?_
    obtain ⟨v47, q47⟩ : ∃ zz : Int32, v44 &&& (7 : Int32) = zz := ⟨_, rfl⟩
    refine g_iand hG X0 hx (hb hby at_47) (pc' := 48) rfl q47 ?_
    obtain ⟨v48, q48⟩ : ∃ zz : Int32, (1 : Int32) + v47 = zz := ⟨_, rfl⟩
    refine g_iadd hG X0 hx (hb hby at_48) (pc' := 49) rfl q48 ?_
    obtain ⟨v49, q49⟩ : ∃ zz : UInt64, FP.i2d v48 = zz := ⟨_, rfl⟩
    refine g_i2d hG X0 hx (hb hby at_49) (pc' := 50) rfl q49 ?_
    refine g_dstore hG X0 hx (hb hby at_50) (pc' := 52) rfl (Ls' := #[.val (.int i0), .val (.int i1), .val (.int i2), .val (.int i3), .val (.int 3), .val (.int v9), .val (.int v17), .val (.int v27), .val (.int v37), .val (.double v49), .second, .unset, .unset, .unset, .unset, .unset, .unset, .unset, .unset, .unset, .unset]) rfl ?_
    refine g_iconst hG X0 hx (hb hby at_52) (pc' := 53) rfl (v := (1 : Int32)) rfl ?_
    refine g_iloadN hG X0 hx (hb hby at_53) (pc' := 54) rfl rfl ?_
    refine g_bipush hG X0 hx (hb hby at_54) (pc' := 56) rfl (v := (9 : Int32)) rfl ?_
    obtain ⟨v56, q56⟩ : ∃ zz : Int32, (i2.toUInt32 >>> ((9 : Int32) &&& 31).toUInt32).toInt32 = zz := ⟨_, rfl⟩
    refine g_iushr hG X0 hx (hb hby at_56) (pc' := 57) rfl q56 ?_
    refine g_bipush hG X0 hx (hb hby at_57) (pc' := 59) rfl (v := (7 : Int32)) rfl ?_
    obtain ⟨v59, q59⟩ : ∃ zz : Int32, v56 &&& (7 : Int32) = zz := ⟨_, rfl⟩
    refine g_iand hG X0 hx (hb hby at_59) (pc' := 60) rfl q59 ?_
    obtain ⟨v60, q60⟩ : ∃ zz : Int32, (1 : Int32) + v59 = zz := ⟨_, rfl⟩
    refine g_iadd hG X0 hx (hb hby at_60) (pc' := 61) rfl q60 ?_
    obtain ⟨v61, q61⟩ : ∃ zz : UInt64, FP.i2d v60 = zz := ⟨_, rfl⟩
    refine g_i2d hG X0 hx (hb hby at_61) (pc' := 62) rfl q61 ?_
    refine g_dstore hG X0 hx (hb hby at_62) (pc' := 64) rfl (Ls' := #[.val (.int i0), .val (.int i1), .val (.int i2), .val (.int i3), .val (.int 3), .val (.int v9), .val (.int v17), .val (.int v27), .val (.int v37), .val (.double v49), .second, .val (.double v61), .second, .unset, .unset, .unset, .unset, .unset, .unset, .unset, .unset]) rfl ?_
    refine g_iconst hG X0 hx (hb hby at_64) (pc' := 65) rfl (v := (1 : Int32)) rfl ?_
    refine g_iloadN hG X0 hx (hb hby at_65) (pc' := 66) rfl rfl ?_
    refine g_bipush hG X0 hx (hb hby at_66) (pc' := 68) rfl (v := (12 : Int32)) rfl ?_
    obtain ⟨v68, q68⟩ : ∃ zz : Int32, (i2.toUInt32 >>> ((12 : Int32) &&& 31).toUInt32).toInt32 = zz := ⟨_, rfl⟩
    refine g_iushr hG X0 hx (hb hby at_68) (pc' := 69) rfl q68 ?_
    refine g_bipush hG X0 hx (hb hby at_69) (pc' := 71) rfl (v := (7 : Int32)) rfl ?_
    obtain ⟨v71, q71⟩ : ∃ zz : Int32, v68 &&& (7 : Int32) = zz := ⟨_, rfl⟩
    refine g_iand hG X0 hx (hb hby at_71) (pc' := 72) rfl q71 ?_
    obtain ⟨v72, q72⟩ : ∃ zz : Int32, (1 : Int32) + v71 = zz := ⟨_, rfl⟩
    refine g_iadd hG X0 hx (hb hby at_72) (pc' := 73) rfl q72 ?_
    obtain ⟨v73, q73⟩ : ∃ zz : UInt64, FP.i2d v72 = zz := ⟨_, rfl⟩
    refine g_i2d hG X0 hx (hb hby at_73) (pc' := 74) rfl q73 ?_
    refine g_dstore hG X0 hx (hb hby at_74) (pc' := 76) rfl (Ls' := #[.val (.int i0), .val (.int i1), .val (.int i2), .val (.int i3), .val (.int 3), .val (.int v9), .val (.int v17), .val (.int v27), .val (.int v37), .val (.double v49), .second, .val (.double v61), .second, .val (.double v73), .second, .unset, .unset, .unset, .unset, .unset, .unset]) rfl ?_
    refine g_iloadN hG X0 hx (hb hby at_76) (pc' := 77) rfl rfl ?_
    refine g_iconst hG X0 hx (hb hby at_77) (pc' := 78) rfl (v := (3 : Int32)) rfl ?_
    obtain ⟨v78, q78⟩ : ∃ zz : Int32, i3 &&& (3 : Int32) = zz := ⟨_, rfl⟩
    refine g_iand hG X0 hx (hb hby at_78) (pc' := 79) rfl q78 ?_
    refine g_iload hG X0 hx (hb hby at_79) (pc' := 81) rfl rfl ?_
    obtain ⟨v81, q81⟩ : ∃ zz : Int32, v78 % (3 : Int32) = zz := ⟨_, rfl⟩
    refine g_irem hG X0 hx (hb hby at_81) (pc' := 82) rfl (by decide) q81 ?_
    refine g_istore hG X0 hx (hb hby at_82) (pc' := 84) rfl (Ls' := #[.val (.int i0), .val (.int i1), .val (.int i2), .val (.int i3), .val (.int 3), .val (.int v9), .val (.int v17), .val (.int v27), .val (.int v37), .val (.double v49), .second, .val (.double v61), .second, .val (.double v73), .second, .val (.int v81), .unset, .unset, .unset, .unset, .unset]) rfl ?_
    refine g_iconst hG X0 hx (hb hby at_84) (pc' := 85) rfl (v := (1 : Int32)) rfl ?_
    refine g_iloadN hG X0 hx (hb hby at_85) (pc' := 86) rfl rfl ?_
    refine g_iconst hG X0 hx (hb hby at_86) (pc' := 87) rfl (v := (2 : Int32)) rfl ?_
    obtain ⟨v87, q87⟩ : ∃ zz : Int32, (i3.toUInt32 >>> ((2 : Int32) &&& 31).toUInt32).toInt32 = zz := ⟨_, rfl⟩
    refine g_iushr hG X0 hx (hb hby at_87) (pc' := 88) rfl q87 ?_
    refine g_bipush hG X0 hx (hb hby at_88) (pc' := 90) rfl (v := (7 : Int32)) rfl ?_
    obtain ⟨v90, q90⟩ : ∃ zz : Int32, v87 &&& (7 : Int32) = zz := ⟨_, rfl⟩
    refine g_iand hG X0 hx (hb hby at_90) (pc' := 91) rfl q90 ?_
    obtain ⟨v91, q91⟩ : ∃ zz : Int32, (1 : Int32) + v90 = zz := ⟨_, rfl⟩
    refine g_iadd hG X0 hx (hb hby at_91) (pc' := 92) rfl q91 ?_
    obtain ⟨v92, q92⟩ : ∃ zz : UInt64, FP.i2d v91 = zz := ⟨_, rfl⟩
    refine g_i2d hG X0 hx (hb hby at_92) (pc' := 93) rfl q92 ?_
    refine g_dstore hG X0 hx (hb hby at_93) (pc' := 95) rfl (Ls' := #[.val (.int i0), .val (.int i1), .val (.int i2), .val (.int i3), .val (.int 3), .val (.int v9), .val (.int v17), .val (.int v27), .val (.int v37), .val (.double v49), .second, .val (.double v61), .second, .val (.double v73), .second, .val (.int v81), .val (.double v92), .second, .unset, .unset, .unset]) rfl ?_
    have ik0 : In3 v17 := by rw [← q17]; exact in3_of (by rw [← q14]; exact (c_and _ 3 (by decide)).1)
    have ik1 : In3 v27 := by rw [← q27]; exact in3_of (by rw [← q24]; exact (c_and _ 3 (by decide)).1)
    have ik2 : In3 v37 := by rw [← q37]; exact in3_of (by rw [← q34]; exact (c_and _ 3 (by decide)).1)
    have ik : In3 v81 := by rw [← q81]; exact in3_of (by rw [← q78]; exact (c_and _ 3 (by decide)).1)
    obtain ⟨D49, P49⟩ := own_val _ _ _ q47 q48
    rw [q49] at D49
    obtain ⟨D61, P61⟩ := own_val _ _ _ q59 q60
    rw [q61] at D61
    obtain ⟨D73, P73⟩ := own_val _ _ _ q71 q72
    rw [q73] at D73
    obtain ⟨D92, P92⟩ := own_val _ _ _ q90 q91
    rw [q92] at D92
    refine g_newO hG X0 hx hZ hown (wd hw 0 rfl) (wd hw 1 rfl) (wd hw 2 rfl) e0 (hb hby at_95) (by decide) (by decide) (pc' := 98) rfl ?_
    intro T69 h69 a gs69 X69 e69 E69 Aq69 Dq69
    have ge_a : n0 ≤ a := gs69 ▸ Zs
    have Zs := Nat.le_trans Zs E69.1
    have Ex_a := Aq69
    have F_shares_a : Fld Z h69 a "org/termsieve/mapping/Shares" "shares" "[D" .null := Dq69 (Or.inr (wd hw 11 rfl)) (ty := (.array .double)) (by decide)
    have F_held_a : Fld Z h69 a "org/termsieve/mapping/Shares" "held" "[I" .null := Dq69 (Or.inr (wd hw 14 rfl)) (ty := (.array .int)) (by decide)
    have F_size_a : Fld Z h69 a "org/termsieve/mapping/Shares" "size" "I" (.int 0) := Dq69 (Or.inl (wd hw 21 rfl)) (ty := .int) (by decide)
    refine g_dup hG X69 hx (hb hby at_98) (pc' := 99) rfl rfl ?_
    refine g_iload hG X69 hx (hb hby at_99) (pc' := 101) rfl rfl ?_
    have lt_a := Ex_a.lt
    refine g_callI hG X69 hx hZ (y := (⟨"org/termsieve/mapping/Shares", "<init>", "(I)V"⟩ : MethodName)) 1 rfl hown (wd hw 3 rfl) (wd hw 4 rfl) (wd hw 2 rfl) (wd hw 5 rfl) (by decide) (rmNew3 l Z a0 hw [] a h69 n0 Zs ge_a Ex_a F_shares_a F_held_a F_size_a) (by decide) (by decide) (by rw [hml]; rfl) pd_8 rfl (argsL := [(.int 3)]) (rest := [(.ref a)]) rfl rfl (Nat.le_of_eq rfl) (hb hby at_101) e69 (by decide) (by decide) (pc' := 104) rfl ?_
    intro T70 rv70 L70 X70 hQ70
    obtain ⟨sa, ha, rfl, Nq70, Kq70, sz_sa, sz_ha, d3, Ex_a, Ex_ha, F_shares_a, F_held_a, F_size_a, V_sa, V_ha⟩ := hQ70
    have NF70 := Fr.app NF0 Nq70
    have gsa : n0 ≤ sa := Nat.le_trans Zs sz_sa
    have gha : n0 ≤ ha := Nat.le_trans Zs sz_ha
    have d1 : a ≠ sa := Nat.ne_of_lt (Nat.lt_of_lt_of_le lt_a sz_sa)
    have d2 : a ≠ ha := Nat.ne_of_lt (Nat.lt_of_lt_of_le lt_a sz_ha)
    have ga := ge_a
    have Zs := Nat.le_trans Zs Kq70.1
    show G (T70.setTop (mkF m 104 _ [(.ref a)]))
    refine g_astore hG X70 hx (hb hby at_104) (pc' := 106) rfl rfl (Ls' := #[.val (.int i0), .val (.int i1), .val (.int i2), .val (.int i3), .val (.int 3), .val (.int v9), .val (.int v17), .val (.int v27), .val (.int v37), .val (.double v49), .second, .val (.double v61), .second, .val (.double v73), .second, .val (.int v81), .val (.double v92), .second, .val (.ref a), .unset, .unset]) rfl ?_
    have b9 : v9 = 0 ∨ v9 = 1 ∨ v9 = 2 ∨ v9 = 3 := own_cnt4 (by rw [← q9]; exact (c_and i1 3 (by decide)).1) (by rw [← q9]; exact (c_and i1 3 (by decide)).2)
    have JC : ∀ (Tj71 : State) (hj71 : Heap) (Lj71 : List Loc) (shz : Int32 → UInt64) (hdz : Int32 → Int32) (w5 w6 w7 w8 : Int32), Stand p l e room_1 s m #[(.int i0), (.int i1), (.int i2), (.int i3)] below meth c Tj71 Lj71 3 9 → Tj71.heap = hj71 → Fr n0 Lj71 → n0 ≤ hj71.size → Exa Z hj71 a "org/termsieve/mapping/Shares" → Exa Z hj71 ha "[I" → Fld Z hj71 a "org/termsieve/mapping/Shares" "shares" "[D" (.ref sa) → Fld Z hj71 a "org/termsieve/mapping/Shares" "held" "[I" (.ref ha) → Fld Z hj71 a "org/termsieve/mapping/Shares" "size" "I" (.int 0) → AV Z hj71 sa .double (3 : Int32) (fd3 shz) → AV Z hj71 ha .int (3 : Int32) (fn3 hdz) → (∀ j, In3 j → shz j = 0) → G (Tj71.setTop (mkF m 156 #[.val (.int i0), .val (.int i1), .val (.int i2), .val (.int i3), .val (.int 3), .val (.int w5), .val (.int w6), .val (.int w7), .val (.int w8), .val (.double v49), .second, .val (.double v61), .second, .val (.double v73), .second, .val (.int v81), .val (.double v92), .second, .val (.ref a), .unset, .unset] [])) := by
      intro Tj71 hj71 Lj71 shz hdz w5 w6 w7 w8 Xj71 ej71 NFj71 Zs  Ex_a Ex_ha F_shares_a F_held_a F_size_a V_sa V_ha hz
      refine g_aload hG Xj71 hx (hb hby at_156) (pc' := 158) rfl rfl rfl ?_
      refine g_callV hG Xj71 hx hZ (y := (⟨"org/termsieve/mapping/Shares", "held", "()[I"⟩ : MethodName)) 0 hown (wd hw 31 rfl) (wd hw 32 rfl) (wd hw 34 rfl) (wd hw 33 rfl) (wd hw 2 rfl) (wd hw 35 rfl) (by decide) (rmHe3_0 l Z a0 hw [] a sa ha shz hdz  hj71 n0 Zs ⟨Ex_a, Ex_ha, F_shares_a, F_held_a, F_size_a, V_sa, V_ha⟩ ⟨ga, gsa, gha, d1, d2, d3⟩) (by decide) (by decide) (by rw [hml]; rfl) pd_9 rfl (argsL := []) (rest := []) rfl rfl (Nat.le_of_eq rfl) (hb hby at_158) ej71 Ex_a (by decide) (by decide) (pc' := 161) rfl ?_
      intro T72 rv72 L72 X72 hQ72
      obtain ⟨b158, rfl, Nq72, Kq72, szq72, V_b158⟩ := hQ72
      have NF72 := Fr.app NFj71 Nq72
      have ne_a_b158 : a ≠ b158 := Nat.ne_of_lt (Nat.lt_of_lt_of_le Ex_a.lt szq72)
      have ne_ha_b158 : ha ≠ b158 := Nat.ne_of_lt (Nat.lt_of_lt_of_le Ex_ha.lt szq72)
      have ne_sa_b158 : sa ≠ b158 := Nat.ne_of_lt (Nat.lt_of_lt_of_le V_sa.lt szq72)
      have ge_b158 : n0 ≤ b158 := Nat.le_trans Zs szq72
      have Ex_a := Ex_a.keep Kq72
      have Ex_ha := Ex_ha.keep Kq72
      have F_shares_a := F_shares_a.keep Kq72 nin0
      have F_held_a := F_held_a.keep Kq72 nin0
      have F_size_a := F_size_a.keep Kq72 nin0
      have V_sa := V_sa.keep Kq72 nin0
      have V_ha := V_ha.keep Kq72 nin0
      have Zs := Nat.le_trans Zs Kq72.1
      show G (T72.setTop (mkF m 161 _ [(.ref b158)]))
      refine g_astore hG X72 hx (hb hby at_161) (pc' := 163) rfl rfl (Ls' := #[.val (.int i0), .val (.int i1), .val (.int i2), .val (.int i3), .val (.int 3), .val (.int w5), .val (.int w6), .val (.int w7), .val (.int w8), .val (.double v49), .second, .val (.double v61), .second, .val (.double v73), .second, .val (.int v81), .val (.double v92), .second, .val (.ref a), .val (.ref b158), .unset]) rfl ?_
      refine g_aload hG X72 hx (hb hby at_163) (pc' := 165) rfl rfl rfl ?_
      refine g_arraylength hG X72 hx hZ rfl V_b158 (hb hby at_165) (pc' := 166) rfl ?_
      refine g_ifYes hG X72 hx (hb hby at_166) (pc' := 171) (by decide) (by decide) (by decide) ?_
      refine g_aload hG X72 hx (hb hby at_171) (pc' := 173) rfl rfl rfl ?_
      refine g_iload hG X72 hx (hb hby at_173) (pc' := 175) rfl rfl ?_
      refine g_dload hG X72 hx (hb hby at_175) (pc' := 177) rfl rfl ?_
      obtain ⟨x73, hx73⟩ : ∃ z, Jvm.Native.java_lang_Math.nans.pick64 true 0 v92 = z := ⟨_, rfl⟩
      obtain ⟨cx73, Dx73, Px73⟩ := own_pk own_z D92 Rat.le_refl P92
      rw [hx73] at Dx73
      refine g_callV hG X72 hx hZ (y := (⟨"org/termsieve/mapping/Shares", "raise", "(ID)V"⟩ : MethodName)) 0 hown (wd hw 15 rfl) (wd hw 16 rfl) (wd hw 18 rfl) (wd hw 17 rfl) (wd hw 2 rfl) (wd hw 19 rfl) (by decide) (rmRa3_0n l Z a0 hw [] a sa ha shz hdz v81 v92 x73 T72.heap n0 Zs ⟨Ex_a, Ex_ha, F_shares_a, F_held_a, F_size_a, V_sa, V_ha⟩ ⟨ga, gsa, gha, d1, d2, d3⟩ ik D92.noNaN hx73 (hz v81 ik)) (by decide) (by decide) (by rw [hml]; rfl) pd_10 rfl (argsL := [(.int v81), (.double v92)]) (rest := []) rfl rfl (Nat.le_of_eq rfl) (hb hby at_177) rfl Ex_a (by decide) (by decide) (pc' := 180) rfl ?_
      intro T74 rv74 L74 X74 hQ74
      obtain ⟨rfl, Nq74, Kq74, Ex_a, Ex_ha, F_shares_a, F_held_a, F_size_a, V_sa, V_ha⟩ := hQ74
      have NF74 := Fr.app NF72 Nq74
      have V_b158 := V_b158.keep Kq74 (ninS (Ne.symm ne_a_b158) (ninS (Ne.symm ne_sa_b158) (ninS (Ne.symm ne_ha_b158) nin0)))
      have Zs := Nat.le_trans Zs Kq74.1
      show G (T74.setTop (mkF m 180 _ []))
      refine g_aload hG X74 hx (hb hby at_180) (pc' := 182) rfl rfl rfl ?_
      refine g_callV hG X74 hx hZ (y := (⟨"org/termsieve/mapping/Shares", "held", "()[I"⟩ : MethodName)) 0 hown (wd hw 31 rfl) (wd hw 32 rfl) (wd hw 34 rfl) (wd hw 33 rfl) (wd hw 2 rfl) (wd hw 35 rfl) (by decide) (rmHe3_1 l Z a0 hw [] a sa ha (upd shz v81 x73) (upd hdz (0 : Int32) v81) v81 T74.heap n0 Zs ⟨Ex_a, Ex_ha, F_shares_a, F_held_a, F_size_a, V_sa, V_ha⟩ ⟨ga, gsa, gha, d1, d2, d3⟩ upd_same) (by decide) (by decide) (by rw [hml]; rfl) pd_9 rfl (argsL := []) (rest := []) rfl rfl (Nat.le_of_eq rfl) (hb hby at_182) rfl Ex_a (by decide) (by decide) (pc' := 185) rfl ?_
      intro T75 rv75 L75 X75 hQ75
      obtain ⟨b182, rfl, Nq75, Kq75, szq75, V_b182⟩ := hQ75
      have NF75 := Fr.app NF74 Nq75
      have ne_a_b182 : a ≠ b182 := Nat.ne_of_lt (Nat.lt_of_lt_of_le Ex_a.lt szq75)
      have ne_ha_b182 : ha ≠ b182 := Nat.ne_of_lt (Nat.lt_of_lt_of_le Ex_ha.lt szq75)
      have ne_sa_b182 : sa ≠ b182 := Nat.ne_of_lt (Nat.lt_of_lt_of_le V_sa.lt szq75)
      have ne_b158_b182 : b158 ≠ b182 := Nat.ne_of_lt (Nat.lt_of_lt_of_le V_b158.lt szq75)
      have ge_b182 : n0 ≤ b182 := Nat.le_trans Zs szq75
      have Ex_a := Ex_a.keep Kq75
      have Ex_ha := Ex_ha.keep Kq75
      have F_shares_a := F_shares_a.keep Kq75 nin0
      have F_held_a := F_held_a.keep Kq75 nin0
      have F_size_a := F_size_a.keep Kq75 nin0
      have V_sa := V_sa.keep Kq75 nin0
      have V_ha := V_ha.keep Kq75 nin0
      have V_b158 := V_b158.keep Kq75 nin0
      have Zs := Nat.le_trans Zs Kq75.1
      show G (T75.setTop (mkF m 185 _ [(.ref b182)]))
      refine g_astore hG X75 hx (hb hby at_185) (pc' := 187) rfl rfl (Ls' := #[.val (.int i0), .val (.int i1), .val (.int i2), .val (.int i3), .val (.int 3), .val (.int w5), .val (.int w6), .val (.int w7), .val (.int w8), .val (.double v49), .second, .val (.double v61), .second, .val (.double v73), .second, .val (.int v81), .val (.double v92), .second, .val (.ref a), .val (.ref b158), .val (.ref b182)]) rfl ?_
      refine g_aload hG X75 hx (hb hby at_187) (pc' := 189) rfl rfl rfl ?_
      refine g_arraylength hG X75 hx hZ rfl V_b182 (hb hby at_189) (pc' := 190) rfl ?_
      refine g_iconst hG X75 hx (hb hby at_190) (pc' := 191) rfl (v := (1 : Int32)) rfl ?_
      refine g_icmpNo hG X75 hx (hb hby at_191) (pc' := 194) (by decide) rfl ?_
      refine g_aload hG X75 hx (hb hby at_194) (pc' := 196) rfl rfl rfl ?_
      refine g_iconst hG X75 hx (hb hby at_196) (pc' := 197) rfl (v := (0 : Int32)) rfl ?_
      refine g_iaload hG X75 hx hZ rfl V_b182 (j := (0 : Int32)) (v := (.int v81)) (by decide) rfl (hb hby at_197) (pc' := 198) rfl ?_
      refine g_iload hG X75 hx (hb hby at_198) (pc' := 200) rfl rfl ?_
      refine g_icmpYes hG X75 hx (hb hby at_200) (pc' := 205) ((teq rfl).1) (by decide) (by decide) ?_
      have hmv : FP.dcmp x73 v92 = some .eq := by
        rw [← hx73]
        exact OwnFl.dcmp_eq (own_max' own_z D92 (Rat.le_of_lt P92)) D92 rfl
      refine g_aload hG X75 hx (hb hby at_205) (pc' := 207) rfl rfl rfl ?_
      refine g_iconst hG X75 hx (hb hby at_207) (pc' := 208) rfl (v := (0 : Int32)) rfl ?_
      refine g_iload hG X75 hx (hb hby at_208) (pc' := 210) rfl rfl ?_
      refine g_iload hG X75 hx (hb hby at_210) (pc' := 212) rfl rfl ?_
      refine g_dload hG X75 hx (hb hby at_212) (pc' := 214) rfl rfl ?_
      have hx0 : (upd shz v81 x73) (0 : Int32) = (if (0 : Int32) = v81 then x73 else 0) := by
        by_cases q : (0 : Int32) = v81
        · rw [if_pos q, q]; exact upd_same
        · rw [if_neg q]; exact (upd_ne q).trans (hz _ in3_0)
      have hc0 : ((0 : Int32) = v81 ∧ FP.dcmp (if (0 : Int32) = v81 then x73 else 0) v92 = some .eq) ∨ (¬ (0 : Int32) = v81 ∧ FP.dcmp (if (0 : Int32) = v81 then x73 else 0) 0 = some .eq) := by
        by_cases q : (0 : Int32) = v81
        · exact Or.inl ⟨q, by rw [if_pos q]; exact hmv⟩
        · exact Or.inr ⟨q, by rw [if_neg q]; exact own_zz⟩
      refine g_callS hG X75 hx hZ (y := (⟨"org/termsieve/mapping/SharesClearPinLaw", "at", "(Lorg/termsieve/mapping/Shares;IIID)Z"⟩ : MethodName)) 0 hown (wd hw 69 rfl) (wd hw 70 rfl) (wd hw 71 rfl) (wd hw 72 rfl) (by decide) (rmAt3_0 l Z a0 hw [] a sa ha (upd shz v81 x73) (upd hdz (0 : Int32) v81) (1 : Int32) v81 v92 (if (0 : Int32) = v81 then x73 else 0) T75.heap n0 Zs ⟨Ex_a, Ex_ha, F_shares_a, F_held_a, F_size_a, V_sa, V_ha⟩ ⟨ga, gsa, gha, d1, d2, d3⟩ hx0 hc0) (by decide) (by decide) (by rw [hml]; rfl) pd_11 rfl (argsL := [(.ref a), (.int 0), (.int 3), (.int v81), (.double v92)]) (rest := []) rfl rfl (Nat.le_of_eq rfl) (hb hby at_214) rfl (by decide) (by decide) (pc' := 217) rfl ?_
      intro T76 rv76 L76 X76 hQ76
      obtain ⟨rfl, Nq76, eh76⟩ := hQ76
      have NF76 := Fr.app NF75 Nq76
      show G (T76.setTop (mkF m 217 _ [(.int 1)]))
      refine g_ifNo hG X76 hx (hb hby at_217) (pc' := 220) (by decide) rfl ?_
      refine g_aload hG X76 hx (hb hby at_220) (pc' := 222) rfl rfl rfl ?_
      refine g_iconst hG X76 hx (hb hby at_222) (pc' := 223) rfl (v := (1 : Int32)) rfl ?_
      refine g_iload hG X76 hx (hb hby at_223) (pc' := 225) rfl rfl ?_
      refine g_iload hG X76 hx (hb hby at_225) (pc' := 227) rfl rfl ?_
      refine g_dload hG X76 hx (hb hby at_227) (pc' := 229) rfl rfl ?_
      have hx1 : (upd shz v81 x73) (1 : Int32) = (if (1 : Int32) = v81 then x73 else 0) := by
        by_cases q : (1 : Int32) = v81
        · rw [if_pos q, q]; exact upd_same
        · rw [if_neg q]; exact (upd_ne q).trans (hz _ in3_1)
      have hc1 : ((1 : Int32) = v81 ∧ FP.dcmp (if (1 : Int32) = v81 then x73 else 0) v92 = some .eq) ∨ (¬ (1 : Int32) = v81 ∧ FP.dcmp (if (1 : Int32) = v81 then x73 else 0) 0 = some .eq) := by
        by_cases q : (1 : Int32) = v81
        · exact Or.inl ⟨q, by rw [if_pos q]; exact hmv⟩
        · exact Or.inr ⟨q, by rw [if_neg q]; exact own_zz⟩
      refine g_callS hG X76 hx hZ (y := (⟨"org/termsieve/mapping/SharesClearPinLaw", "at", "(Lorg/termsieve/mapping/Shares;IIID)Z"⟩ : MethodName)) 0 hown (wd hw 69 rfl) (wd hw 70 rfl) (wd hw 71 rfl) (wd hw 72 rfl) (by decide) (rmAt3_1 l Z a0 hw [] a sa ha (upd shz v81 x73) (upd hdz (0 : Int32) v81) (1 : Int32) v81 v92 (if (1 : Int32) = v81 then x73 else 0) T75.heap n0 Zs ⟨Ex_a, Ex_ha, F_shares_a, F_held_a, F_size_a, V_sa, V_ha⟩ ⟨ga, gsa, gha, d1, d2, d3⟩ hx1 hc1) (by decide) (by decide) (by rw [hml]; rfl) pd_11 rfl (argsL := [(.ref a), (.int 1), (.int 3), (.int v81), (.double v92)]) (rest := []) rfl rfl (Nat.le_of_eq rfl) (hb hby at_229) eh76 (by decide) (by decide) (pc' := 232) rfl ?_
      intro T77 rv77 L77 X77 hQ77
      obtain ⟨rfl, Nq77, eh77⟩ := hQ77
      have NF77 := Fr.app NF76 Nq77
      show G (T77.setTop (mkF m 232 _ [(.int 1)]))
      refine g_ifNo hG X77 hx (hb hby at_232) (pc' := 235) (by decide) rfl ?_
      refine g_aload hG X77 hx (hb hby at_235) (pc' := 237) rfl rfl rfl ?_
      refine g_iconst hG X77 hx (hb hby at_237) (pc' := 238) rfl (v := (2 : Int32)) rfl ?_
      refine g_iload hG X77 hx (hb hby at_238) (pc' := 240) rfl rfl ?_
      refine g_iload hG X77 hx (hb hby at_240) (pc' := 242) rfl rfl ?_
      refine g_dload hG X77 hx (hb hby at_242) (pc' := 244) rfl rfl ?_
      have hx2 : (upd shz v81 x73) (2 : Int32) = (if (2 : Int32) = v81 then x73 else 0) := by
        by_cases q : (2 : Int32) = v81
        · rw [if_pos q, q]; exact upd_same
        · rw [if_neg q]; exact (upd_ne q).trans (hz _ in3_2)
      have hc2 : ((2 : Int32) = v81 ∧ FP.dcmp (if (2 : Int32) = v81 then x73 else 0) v92 = some .eq) ∨ (¬ (2 : Int32) = v81 ∧ FP.dcmp (if (2 : Int32) = v81 then x73 else 0) 0 = some .eq) := by
        by_cases q : (2 : Int32) = v81
        · exact Or.inl ⟨q, by rw [if_pos q]; exact hmv⟩
        · exact Or.inr ⟨q, by rw [if_neg q]; exact own_zz⟩
      refine g_callS hG X77 hx hZ (y := (⟨"org/termsieve/mapping/SharesClearPinLaw", "at", "(Lorg/termsieve/mapping/Shares;IIID)Z"⟩ : MethodName)) 0 hown (wd hw 69 rfl) (wd hw 70 rfl) (wd hw 71 rfl) (wd hw 72 rfl) (by decide) (rmAt3_2 l Z a0 hw [] a sa ha (upd shz v81 x73) (upd hdz (0 : Int32) v81) (1 : Int32) v81 v92 (if (2 : Int32) = v81 then x73 else 0) T75.heap n0 Zs ⟨Ex_a, Ex_ha, F_shares_a, F_held_a, F_size_a, V_sa, V_ha⟩ ⟨ga, gsa, gha, d1, d2, d3⟩ hx2 hc2) (by decide) (by decide) (by rw [hml]; rfl) pd_11 rfl (argsL := [(.ref a), (.int 2), (.int 3), (.int v81), (.double v92)]) (rest := []) rfl rfl (Nat.le_of_eq rfl) (hb hby at_244) eh77 (by decide) (by decide) (pc' := 247) rfl ?_
      intro T78 rv78 L78 X78 hQ78
      obtain ⟨rfl, Nq78, eh78⟩ := hQ78
      have NF78 := Fr.app NF77 Nq78
      show G (T78.setTop (mkF m 247 _ [(.int 1)]))
      refine g_ifNo hG X78 hx (hb hby at_247) (pc' := 250) (by decide) rfl ?_
      refine g_aload hG X78 hx (hb hby at_250) (pc' := 252) rfl rfl rfl ?_
      refine g_iconst hG X78 hx (hb hby at_252) (pc' := 253) rfl (v := (3 : Int32)) rfl ?_
      refine g_iload hG X78 hx (hb hby at_253) (pc' := 255) rfl rfl ?_
      refine g_iload hG X78 hx (hb hby at_255) (pc' := 257) rfl rfl ?_
      refine g_dload hG X78 hx (hb hby at_257) (pc' := 259) rfl rfl ?_
      refine g_callS hG X78 hx hZ (y := (⟨"org/termsieve/mapping/SharesClearPinLaw", "at", "(Lorg/termsieve/mapping/Shares;IIID)Z"⟩ : MethodName)) 0 hown (wd hw 69 rfl) (wd hw 70 rfl) (wd hw 71 rfl) (wd hw 72 rfl) (by decide) (rmAt3_3 l Z a0 hw [] a v81 v92 T75.heap n0 Zs) (by decide) (by decide) (by rw [hml]; rfl) pd_11 rfl (argsL := [(.ref a), (.int 3), (.int 3), (.int v81), (.double v92)]) (rest := []) rfl rfl (Nat.le_of_eq rfl) (hb hby at_259) eh78 (by decide) (by decide) (pc' := 262) rfl ?_
      intro T79 rv79 L79 X79 hQ79
      obtain ⟨rfl, Nq79, eh79⟩ := hQ79
      have NF79 := Fr.app NF78 Nq79
      show G (T79.setTop (mkF m 262 _ [(.int 1)]))
      refine g_ifNo hG X79 hx (hb hby at_262) (pc' := 265) (by decide) rfl ?_
      refine g_iconst hG X79 hx (hb hby at_265) (pc' := 266) rfl (v := (1 : Int32)) rfl ?_
      refine g_goto hG X79 hx (hb hby at_266) (pc' := 270) (by decide) (by decide) ?_
      exact e_retZ hGe X79 hx hrt hlk (hb hby at_270) (Or.inr rfl) eh79 (by decide) (by decide) (⟨rfl, NF79⟩)
    rcases b9 with rfl | rfl | rfl | rfl
    · skip
      refine g_iload hG X70 hx (hb hby at_106) (pc' := 108) rfl rfl ?_
      refine g_iconst hG X70 hx (hb hby at_108) (pc' := 109) rfl (v := (1 : Int32)) rfl ?_
      refine g_icmpYes hG X70 hx (hb hby at_109) (pc' := 121) (by decide) (by decide) (by decide) ?_
      refine g_iload hG X70 hx (hb hby at_121) (pc' := 123) rfl rfl ?_
      refine g_iconst hG X70 hx (hb hby at_123) (pc' := 124) rfl (v := (2 : Int32)) rfl ?_
      refine g_icmpYes hG X70 hx (hb hby at_124) (pc' := 136) (by decide) (by decide) (by decide) ?_
      refine g_iload hG X70 hx (hb hby at_136) (pc' := 138) rfl rfl ?_
      refine g_iconst hG X70 hx (hb hby at_138) (pc' := 139) rfl (v := (3 : Int32)) rfl ?_
      refine g_icmpYes hG X70 hx (hb hby at_139) (pc' := 151) (by decide) (by decide) (by decide) ?_
      refine g_aload hG X70 hx (hb hby at_151) (pc' := 153) rfl rfl rfl ?_
      refine g_callV hG X70 hx hZ (y := (⟨"org/termsieve/mapping/Shares", "clear", "()V"⟩ : MethodName)) 0 hown (wd hw 26 rfl) (wd hw 27 rfl) (wd hw 29 rfl) (wd hw 28 rfl) (wd hw 2 rfl) (wd hw 30 rfl) (by decide) (rmCl3_0 l Z a0 hw [] a sa ha (fun _ => (0 : UInt64)) (fun _ => (0 : Int32))  T70.heap n0 Zs ⟨Ex_a, Ex_ha, F_shares_a, F_held_a, F_size_a, V_sa, V_ha⟩ ⟨ga, gsa, gha, d1, d2, d3⟩) (by decide) (by decide) (by rw [hml]; rfl) pd_12 rfl (argsL := []) (rest := []) rfl rfl (Nat.le_of_eq rfl) (hb hby at_153) rfl Ex_a (by decide) (by decide) (pc' := 156) rfl ?_
      intro T80 rv80 L80 X80 hQ80
      obtain ⟨rfl, Nq80, Kq80, Ex_a, Ex_ha, F_shares_a, F_held_a, F_size_a, V_sa, V_ha⟩ := hQ80
      have NF80 := Fr.app NF70 Nq80
      have Zs := Nat.le_trans Zs Kq80.1
      show G (T80.setTop (mkF m 156 _ []))
      exact JC _ _ _ (fun _ => (0 : UInt64)) (fun _ => (0 : Int32)) (0 : Int32) v17 v27 v37 X80 rfl NF80 Zs  Ex_a Ex_ha F_shares_a F_held_a F_size_a V_sa V_ha (fun j _ => by first | rfl | (simp only [upd]; grind))
    · skip
      refine g_iload hG X70 hx (hb hby at_106) (pc' := 108) rfl rfl ?_
      refine g_iconst hG X70 hx (hb hby at_108) (pc' := 109) rfl (v := (1 : Int32)) rfl ?_
      refine g_icmpNo hG X70 hx (hb hby at_109) (pc' := 112) (by decide) rfl ?_
      refine g_aload hG X70 hx (hb hby at_112) (pc' := 114) rfl rfl rfl ?_
      refine g_iload hG X70 hx (hb hby at_114) (pc' := 116) rfl rfl ?_
      refine g_dload hG X70 hx (hb hby at_116) (pc' := 118) rfl rfl ?_
      obtain ⟨x81, hx81⟩ : ∃ z, Jvm.Native.java_lang_Math.nans.pick64 true 0 v49 = z := ⟨_, rfl⟩
      obtain ⟨cx81, Dx81, Px81⟩ := own_pk own_z D49 Rat.le_refl P49
      rw [hx81] at Dx81
      refine g_callV hG X70 hx hZ (y := (⟨"org/termsieve/mapping/Shares", "raise", "(ID)V"⟩ : MethodName)) 0 hown (wd hw 15 rfl) (wd hw 16 rfl) (wd hw 18 rfl) (wd hw 17 rfl) (wd hw 2 rfl) (wd hw 19 rfl) (by decide) (rmRa3_0n l Z a0 hw [] a sa ha (fun _ => (0 : UInt64)) (fun _ => (0 : Int32)) v17 v49 x81 T70.heap n0 Zs ⟨Ex_a, Ex_ha, F_shares_a, F_held_a, F_size_a, V_sa, V_ha⟩ ⟨ga, gsa, gha, d1, d2, d3⟩ ik0 D49.noNaN hx81 rfl) (by decide) (by decide) (by rw [hml]; rfl) pd_10 rfl (argsL := [(.int v17), (.double v49)]) (rest := []) rfl rfl (Nat.le_of_eq rfl) (hb hby at_118) rfl Ex_a (by decide) (by decide) (pc' := 121) rfl ?_
      intro T82 rv82 L82 X82 hQ82
      obtain ⟨rfl, Nq82, Kq82, Ex_a, Ex_ha, F_shares_a, F_held_a, F_size_a, V_sa, V_ha⟩ := hQ82
      have NF82 := Fr.app NF70 Nq82
      have Zs := Nat.le_trans Zs Kq82.1
      show G (T82.setTop (mkF m 121 _ []))
      refine g_iload hG X82 hx (hb hby at_121) (pc' := 123) rfl rfl ?_
      refine g_iconst hG X82 hx (hb hby at_123) (pc' := 124) rfl (v := (2 : Int32)) rfl ?_
      refine g_icmpYes hG X82 hx (hb hby at_124) (pc' := 136) (by decide) (by decide) (by decide) ?_
      refine g_iload hG X82 hx (hb hby at_136) (pc' := 138) rfl rfl ?_
      refine g_iconst hG X82 hx (hb hby at_138) (pc' := 139) rfl (v := (3 : Int32)) rfl ?_
      refine g_icmpYes hG X82 hx (hb hby at_139) (pc' := 151) (by decide) (by decide) (by decide) ?_
      refine g_aload hG X82 hx (hb hby at_151) (pc' := 153) rfl rfl rfl ?_
      refine g_callV hG X82 hx hZ (y := (⟨"org/termsieve/mapping/Shares", "clear", "()V"⟩ : MethodName)) 0 hown (wd hw 26 rfl) (wd hw 27 rfl) (wd hw 29 rfl) (wd hw 28 rfl) (wd hw 2 rfl) (wd hw 30 rfl) (by decide) (rmCl3_1 l Z a0 hw [] a sa ha (upd (fun _ => (0 : UInt64)) v17 x81) (upd (fun _ => (0 : Int32)) (0 : Int32) v17) v17 T82.heap n0 Zs ⟨Ex_a, Ex_ha, F_shares_a, F_held_a, F_size_a, V_sa, V_ha⟩ ⟨ga, gsa, gha, d1, d2, d3⟩ rfl ik0) (by decide) (by decide) (by rw [hml]; rfl) pd_12 rfl (argsL := []) (rest := []) rfl rfl (Nat.le_of_eq rfl) (hb hby at_153) rfl Ex_a (by decide) (by decide) (pc' := 156) rfl ?_
      intro T83 rv83 L83 X83 hQ83
      obtain ⟨rfl, Nq83, Kq83, Ex_a, Ex_ha, F_shares_a, F_held_a, F_size_a, V_sa, V_ha⟩ := hQ83
      have NF83 := Fr.app NF82 Nq83
      have Zs := Nat.le_trans Zs Kq83.1
      show G (T83.setTop (mkF m 156 _ []))
      exact JC _ _ _ (upd (upd (fun _ => (0 : UInt64)) v17 x81) v17 0) (upd (fun _ => (0 : Int32)) (0 : Int32) v17) (1 : Int32) v17 v27 v37 X83 rfl NF83 Zs  Ex_a Ex_ha F_shares_a F_held_a F_size_a V_sa V_ha (fun j _ => by first | rfl | (simp only [upd]; grind))
    · skip
      refine g_iload hG X70 hx (hb hby at_106) (pc' := 108) rfl rfl ?_
      refine g_iconst hG X70 hx (hb hby at_108) (pc' := 109) rfl (v := (1 : Int32)) rfl ?_
      refine g_icmpNo hG X70 hx (hb hby at_109) (pc' := 112) (by decide) rfl ?_
      refine g_aload hG X70 hx (hb hby at_112) (pc' := 114) rfl rfl rfl ?_
      refine g_iload hG X70 hx (hb hby at_114) (pc' := 116) rfl rfl ?_
      refine g_dload hG X70 hx (hb hby at_116) (pc' := 118) rfl rfl ?_
      obtain ⟨x84, hx84⟩ : ∃ z, Jvm.Native.java_lang_Math.nans.pick64 true 0 v49 = z := ⟨_, rfl⟩
      obtain ⟨cx84, Dx84, Px84⟩ := own_pk own_z D49 Rat.le_refl P49
      rw [hx84] at Dx84
      refine g_callV hG X70 hx hZ (y := (⟨"org/termsieve/mapping/Shares", "raise", "(ID)V"⟩ : MethodName)) 0 hown (wd hw 15 rfl) (wd hw 16 rfl) (wd hw 18 rfl) (wd hw 17 rfl) (wd hw 2 rfl) (wd hw 19 rfl) (by decide) (rmRa3_0n l Z a0 hw [] a sa ha (fun _ => (0 : UInt64)) (fun _ => (0 : Int32)) v17 v49 x84 T70.heap n0 Zs ⟨Ex_a, Ex_ha, F_shares_a, F_held_a, F_size_a, V_sa, V_ha⟩ ⟨ga, gsa, gha, d1, d2, d3⟩ ik0 D49.noNaN hx84 rfl) (by decide) (by decide) (by rw [hml]; rfl) pd_10 rfl (argsL := [(.int v17), (.double v49)]) (rest := []) rfl rfl (Nat.le_of_eq rfl) (hb hby at_118) rfl Ex_a (by decide) (by decide) (pc' := 121) rfl ?_
      intro T85 rv85 L85 X85 hQ85
      obtain ⟨rfl, Nq85, Kq85, Ex_a, Ex_ha, F_shares_a, F_held_a, F_size_a, V_sa, V_ha⟩ := hQ85
      have NF85 := Fr.app NF70 Nq85
      have Zs := Nat.le_trans Zs Kq85.1
      show G (T85.setTop (mkF m 121 _ []))
      refine g_iload hG X85 hx (hb hby at_121) (pc' := 123) rfl rfl ?_
      refine g_iconst hG X85 hx (hb hby at_123) (pc' := 124) rfl (v := (2 : Int32)) rfl ?_
      refine g_icmpNo hG X85 hx (hb hby at_124) (pc' := 127) (by decide) rfl ?_
      by_cases hk_v27_v17 : v27 = v17
      · have _hh := hk_v27_v17
        clear _hh
        have hk_v27_v17 := hk_v27_v17.symm
        subst hk_v27_v17
        refine g_aload hG X85 hx (hb hby at_127) (pc' := 129) rfl rfl rfl ?_
        refine g_iload hG X85 hx (hb hby at_129) (pc' := 131) rfl rfl ?_
        refine g_dload hG X85 hx (hb hby at_131) (pc' := 133) rfl rfl ?_
        obtain ⟨x86, hx86⟩ : ∃ z, Jvm.Native.java_lang_Math.nans.pick64 true x84 v61 = z := ⟨_, rfl⟩
        obtain ⟨cx86, Dx86, Px86⟩ := own_pk Dx84 D61 (Rat.le_of_lt Px84) P61
        rw [hx86] at Dx86
        refine g_callV hG X85 hx hZ (y := (⟨"org/termsieve/mapping/Shares", "raise", "(ID)V"⟩ : MethodName)) 0 hown (wd hw 15 rfl) (wd hw 16 rfl) (wd hw 18 rfl) (wd hw 17 rfl) (wd hw 2 rfl) (wd hw 19 rfl) (by decide) (rmRa3_1o l Z a0 hw [] a sa ha (upd (fun _ => (0 : UInt64)) v17 x84) (upd (fun _ => (0 : Int32)) (0 : Int32) v17) v17 v61 x86 x84 T85.heap n0 Zs ⟨Ex_a, Ex_ha, F_shares_a, F_held_a, F_size_a, V_sa, V_ha⟩ ⟨ga, gsa, gha, d1, d2, d3⟩ ik0 D61.noNaN hx86 upd_same Dx84.noNaN (OwnFl.dcmp_gt Dx84 own_z Px84)) (by decide) (by decide) (by rw [hml]; rfl) pd_10 rfl (argsL := [(.int v17), (.double v61)]) (rest := []) rfl rfl (Nat.le_of_eq rfl) (hb hby at_133) rfl Ex_a (by decide) (by decide) (pc' := 136) rfl ?_
        intro T87 rv87 L87 X87 hQ87
        obtain ⟨rfl, Nq87, Kq87, Ex_a, Ex_ha, F_shares_a, F_held_a, F_size_a, V_sa, V_ha⟩ := hQ87
        have NF87 := Fr.app NF85 Nq87
        have Zs := Nat.le_trans Zs Kq87.1
        show G (T87.setTop (mkF m 136 _ []))
        refine g_iload hG X87 hx (hb hby at_136) (pc' := 138) rfl rfl ?_
        refine g_iconst hG X87 hx (hb hby at_138) (pc' := 139) rfl (v := (3 : Int32)) rfl ?_
        refine g_icmpYes hG X87 hx (hb hby at_139) (pc' := 151) (by decide) (by decide) (by decide) ?_
        refine g_aload hG X87 hx (hb hby at_151) (pc' := 153) rfl rfl rfl ?_
        refine g_callV hG X87 hx hZ (y := (⟨"org/termsieve/mapping/Shares", "clear", "()V"⟩ : MethodName)) 0 hown (wd hw 26 rfl) (wd hw 27 rfl) (wd hw 29 rfl) (wd hw 28 rfl) (wd hw 2 rfl) (wd hw 30 rfl) (by decide) (rmCl3_1 l Z a0 hw [] a sa ha (upd (upd (fun _ => (0 : UInt64)) v17 x84) v17 x86) (upd (fun _ => (0 : Int32)) (0 : Int32) v17) v17 T87.heap n0 Zs ⟨Ex_a, Ex_ha, F_shares_a, F_held_a, F_size_a, V_sa, V_ha⟩ ⟨ga, gsa, gha, d1, d2, d3⟩ rfl ik0) (by decide) (by decide) (by rw [hml]; rfl) pd_12 rfl (argsL := []) (rest := []) rfl rfl (Nat.le_of_eq rfl) (hb hby at_153) rfl Ex_a (by decide) (by decide) (pc' := 156) rfl ?_
        intro T88 rv88 L88 X88 hQ88
        obtain ⟨rfl, Nq88, Kq88, Ex_a, Ex_ha, F_shares_a, F_held_a, F_size_a, V_sa, V_ha⟩ := hQ88
        have NF88 := Fr.app NF87 Nq88
        have Zs := Nat.le_trans Zs Kq88.1
        show G (T88.setTop (mkF m 156 _ []))
        exact JC _ _ _ (upd (upd (upd (fun _ => (0 : UInt64)) v17 x84) v17 x86) v17 0) (upd (fun _ => (0 : Int32)) (0 : Int32) v17) (2 : Int32) v17 v17 v37 X88 rfl NF88 Zs  Ex_a Ex_ha F_shares_a F_held_a F_size_a V_sa V_ha (fun j _ => by first | rfl | (simp only [upd]; grind))
      · have _hh := hk_v27_v17
        refine g_aload hG X85 hx (hb hby at_127) (pc' := 129) rfl rfl rfl ?_
        refine g_iload hG X85 hx (hb hby at_129) (pc' := 131) rfl rfl ?_
        refine g_dload hG X85 hx (hb hby at_131) (pc' := 133) rfl rfl ?_
        obtain ⟨x89, hx89⟩ : ∃ z, Jvm.Native.java_lang_Math.nans.pick64 true 0 v61 = z := ⟨_, rfl⟩
        obtain ⟨cx89, Dx89, Px89⟩ := own_pk own_z D61 Rat.le_refl P61
        rw [hx89] at Dx89
        refine g_callV hG X85 hx hZ (y := (⟨"org/termsieve/mapping/Shares", "raise", "(ID)V"⟩ : MethodName)) 0 hown (wd hw 15 rfl) (wd hw 16 rfl) (wd hw 18 rfl) (wd hw 17 rfl) (wd hw 2 rfl) (wd hw 19 rfl) (by decide) (rmRa3_1n l Z a0 hw [] a sa ha (upd (fun _ => (0 : UInt64)) v17 x84) (upd (fun _ => (0 : Int32)) (0 : Int32) v17) v27 v61 x89 T85.heap n0 Zs ⟨Ex_a, Ex_ha, F_shares_a, F_held_a, F_size_a, V_sa, V_ha⟩ ⟨ga, gsa, gha, d1, d2, d3⟩ ik1 D61.noNaN hx89 ((upd_ne hk_v27_v17).trans (rfl))) (by decide) (by decide) (by rw [hml]; rfl) pd_10 rfl (argsL := [(.int v27), (.double v61)]) (rest := []) rfl rfl (Nat.le_of_eq rfl) (hb hby at_133) rfl Ex_a (by decide) (by decide) (pc' := 136) rfl ?_
        intro T90 rv90 L90 X90 hQ90
        obtain ⟨rfl, Nq90, Kq90, Ex_a, Ex_ha, F_shares_a, F_held_a, F_size_a, V_sa, V_ha⟩ := hQ90
        have NF90 := Fr.app NF85 Nq90
        have Zs := Nat.le_trans Zs Kq90.1
        show G (T90.setTop (mkF m 136 _ []))
        refine g_iload hG X90 hx (hb hby at_136) (pc' := 138) rfl rfl ?_
        refine g_iconst hG X90 hx (hb hby at_138) (pc' := 139) rfl (v := (3 : Int32)) rfl ?_
        refine g_icmpYes hG X90 hx (hb hby at_139) (pc' := 151) (by decide) (by decide) (by decide) ?_
        refine g_aload hG X90 hx (hb hby at_151) (pc' := 153) rfl rfl rfl ?_
        refine g_callV hG X90 hx hZ (y := (⟨"org/termsieve/mapping/Shares", "clear", "()V"⟩ : MethodName)) 0 hown (wd hw 26 rfl) (wd hw 27 rfl) (wd hw 29 rfl) (wd hw 28 rfl) (wd hw 2 rfl) (wd hw 30 rfl) (by decide) (rmCl3_2 l Z a0 hw [] a sa ha (upd (upd (fun _ => (0 : UInt64)) v17 x84) v27 x89) (upd (upd (fun _ => (0 : Int32)) (0 : Int32) v17) (1 : Int32) v27) v17 v27 T90.heap n0 Zs ⟨Ex_a, Ex_ha, F_shares_a, F_held_a, F_size_a, V_sa, V_ha⟩ ⟨ga, gsa, gha, d1, d2, d3⟩ rfl ik0 rfl ik1) (by decide) (by decide) (by rw [hml]; rfl) pd_12 rfl (argsL := []) (rest := []) rfl rfl (Nat.le_of_eq rfl) (hb hby at_153) rfl Ex_a (by decide) (by decide) (pc' := 156) rfl ?_
        intro T91 rv91 L91 X91 hQ91
        obtain ⟨rfl, Nq91, Kq91, Ex_a, Ex_ha, F_shares_a, F_held_a, F_size_a, V_sa, V_ha⟩ := hQ91
        have NF91 := Fr.app NF90 Nq91
        have Zs := Nat.le_trans Zs Kq91.1
        show G (T91.setTop (mkF m 156 _ []))
        exact JC _ _ _ (upd (upd (upd (upd (fun _ => (0 : UInt64)) v17 x84) v27 x89) v17 0) v27 0) (upd (upd (fun _ => (0 : Int32)) (0 : Int32) v17) (1 : Int32) v27) (2 : Int32) v17 v27 v37 X91 rfl NF91 Zs  Ex_a Ex_ha F_shares_a F_held_a F_size_a V_sa V_ha (fun j _ => by first | rfl | (simp only [upd]; grind))
    · skip
      refine g_iload hG X70 hx (hb hby at_106) (pc' := 108) rfl rfl ?_
      refine g_iconst hG X70 hx (hb hby at_108) (pc' := 109) rfl (v := (1 : Int32)) rfl ?_
      refine g_icmpNo hG X70 hx (hb hby at_109) (pc' := 112) (by decide) rfl ?_
      refine g_aload hG X70 hx (hb hby at_112) (pc' := 114) rfl rfl rfl ?_
      refine g_iload hG X70 hx (hb hby at_114) (pc' := 116) rfl rfl ?_
      refine g_dload hG X70 hx (hb hby at_116) (pc' := 118) rfl rfl ?_
      obtain ⟨x92, hx92⟩ : ∃ z, Jvm.Native.java_lang_Math.nans.pick64 true 0 v49 = z := ⟨_, rfl⟩
      obtain ⟨cx92, Dx92, Px92⟩ := own_pk own_z D49 Rat.le_refl P49
      rw [hx92] at Dx92
      refine g_callV hG X70 hx hZ (y := (⟨"org/termsieve/mapping/Shares", "raise", "(ID)V"⟩ : MethodName)) 0 hown (wd hw 15 rfl) (wd hw 16 rfl) (wd hw 18 rfl) (wd hw 17 rfl) (wd hw 2 rfl) (wd hw 19 rfl) (by decide) (rmRa3_0n l Z a0 hw [] a sa ha (fun _ => (0 : UInt64)) (fun _ => (0 : Int32)) v17 v49 x92 T70.heap n0 Zs ⟨Ex_a, Ex_ha, F_shares_a, F_held_a, F_size_a, V_sa, V_ha⟩ ⟨ga, gsa, gha, d1, d2, d3⟩ ik0 D49.noNaN hx92 rfl) (by decide) (by decide) (by rw [hml]; rfl) pd_10 rfl (argsL := [(.int v17), (.double v49)]) (rest := []) rfl rfl (Nat.le_of_eq rfl) (hb hby at_118) rfl Ex_a (by decide) (by decide) (pc' := 121) rfl ?_
      intro T93 rv93 L93 X93 hQ93
      obtain ⟨rfl, Nq93, Kq93, Ex_a, Ex_ha, F_shares_a, F_held_a, F_size_a, V_sa, V_ha⟩ := hQ93
      have NF93 := Fr.app NF70 Nq93
      have Zs := Nat.le_trans Zs Kq93.1
      show G (T93.setTop (mkF m 121 _ []))
      refine g_iload hG X93 hx (hb hby at_121) (pc' := 123) rfl rfl ?_
      refine g_iconst hG X93 hx (hb hby at_123) (pc' := 124) rfl (v := (2 : Int32)) rfl ?_
      refine g_icmpNo hG X93 hx (hb hby at_124) (pc' := 127) (by decide) rfl ?_
      by_cases hk_v27_v17 : v27 = v17
      · have _hh := hk_v27_v17
        clear _hh
        have hk_v27_v17 := hk_v27_v17.symm
        subst hk_v27_v17
        refine g_aload hG X93 hx (hb hby at_127) (pc' := 129) rfl rfl rfl ?_
        refine g_iload hG X93 hx (hb hby at_129) (pc' := 131) rfl rfl ?_
        refine g_dload hG X93 hx (hb hby at_131) (pc' := 133) rfl rfl ?_
        obtain ⟨x94, hx94⟩ : ∃ z, Jvm.Native.java_lang_Math.nans.pick64 true x92 v61 = z := ⟨_, rfl⟩
        obtain ⟨cx94, Dx94, Px94⟩ := own_pk Dx92 D61 (Rat.le_of_lt Px92) P61
        rw [hx94] at Dx94
        refine g_callV hG X93 hx hZ (y := (⟨"org/termsieve/mapping/Shares", "raise", "(ID)V"⟩ : MethodName)) 0 hown (wd hw 15 rfl) (wd hw 16 rfl) (wd hw 18 rfl) (wd hw 17 rfl) (wd hw 2 rfl) (wd hw 19 rfl) (by decide) (rmRa3_1o l Z a0 hw [] a sa ha (upd (fun _ => (0 : UInt64)) v17 x92) (upd (fun _ => (0 : Int32)) (0 : Int32) v17) v17 v61 x94 x92 T93.heap n0 Zs ⟨Ex_a, Ex_ha, F_shares_a, F_held_a, F_size_a, V_sa, V_ha⟩ ⟨ga, gsa, gha, d1, d2, d3⟩ ik0 D61.noNaN hx94 upd_same Dx92.noNaN (OwnFl.dcmp_gt Dx92 own_z Px92)) (by decide) (by decide) (by rw [hml]; rfl) pd_10 rfl (argsL := [(.int v17), (.double v61)]) (rest := []) rfl rfl (Nat.le_of_eq rfl) (hb hby at_133) rfl Ex_a (by decide) (by decide) (pc' := 136) rfl ?_
        intro T95 rv95 L95 X95 hQ95
        obtain ⟨rfl, Nq95, Kq95, Ex_a, Ex_ha, F_shares_a, F_held_a, F_size_a, V_sa, V_ha⟩ := hQ95
        have NF95 := Fr.app NF93 Nq95
        have Zs := Nat.le_trans Zs Kq95.1
        show G (T95.setTop (mkF m 136 _ []))
        refine g_iload hG X95 hx (hb hby at_136) (pc' := 138) rfl rfl ?_
        refine g_iconst hG X95 hx (hb hby at_138) (pc' := 139) rfl (v := (3 : Int32)) rfl ?_
        refine g_icmpNo hG X95 hx (hb hby at_139) (pc' := 142) (by decide) rfl ?_
        by_cases hk_v37_v17 : v37 = v17
        · have _hh := hk_v37_v17
          clear _hh
          have hk_v37_v17 := hk_v37_v17.symm
          subst hk_v37_v17
          refine g_aload hG X95 hx (hb hby at_142) (pc' := 144) rfl rfl rfl ?_
          refine g_iload hG X95 hx (hb hby at_144) (pc' := 146) rfl rfl ?_
          refine g_dload hG X95 hx (hb hby at_146) (pc' := 148) rfl rfl ?_
          obtain ⟨x96, hx96⟩ : ∃ z, Jvm.Native.java_lang_Math.nans.pick64 true x94 v73 = z := ⟨_, rfl⟩
          obtain ⟨cx96, Dx96, Px96⟩ := own_pk Dx94 D73 (Rat.le_of_lt Px94) P73
          rw [hx96] at Dx96
          refine g_callV hG X95 hx hZ (y := (⟨"org/termsieve/mapping/Shares", "raise", "(ID)V"⟩ : MethodName)) 0 hown (wd hw 15 rfl) (wd hw 16 rfl) (wd hw 18 rfl) (wd hw 17 rfl) (wd hw 2 rfl) (wd hw 19 rfl) (by decide) (rmRa3_1o l Z a0 hw [] a sa ha (upd (upd (fun _ => (0 : UInt64)) v17 x92) v17 x94) (upd (fun _ => (0 : Int32)) (0 : Int32) v17) v17 v73 x96 x94 T95.heap n0 Zs ⟨Ex_a, Ex_ha, F_shares_a, F_held_a, F_size_a, V_sa, V_ha⟩ ⟨ga, gsa, gha, d1, d2, d3⟩ ik0 D73.noNaN hx96 upd_same Dx94.noNaN (OwnFl.dcmp_gt Dx94 own_z Px94)) (by decide) (by decide) (by rw [hml]; rfl) pd_10 rfl (argsL := [(.int v17), (.double v73)]) (rest := []) rfl rfl (Nat.le_of_eq rfl) (hb hby at_148) rfl Ex_a (by decide) (by decide) (pc' := 151) rfl ?_
          intro T97 rv97 L97 X97 hQ97
          obtain ⟨rfl, Nq97, Kq97, Ex_a, Ex_ha, F_shares_a, F_held_a, F_size_a, V_sa, V_ha⟩ := hQ97
          have NF97 := Fr.app NF95 Nq97
          have Zs := Nat.le_trans Zs Kq97.1
          show G (T97.setTop (mkF m 151 _ []))
          refine g_aload hG X97 hx (hb hby at_151) (pc' := 153) rfl rfl rfl ?_
          refine g_callV hG X97 hx hZ (y := (⟨"org/termsieve/mapping/Shares", "clear", "()V"⟩ : MethodName)) 0 hown (wd hw 26 rfl) (wd hw 27 rfl) (wd hw 29 rfl) (wd hw 28 rfl) (wd hw 2 rfl) (wd hw 30 rfl) (by decide) (rmCl3_1 l Z a0 hw [] a sa ha (upd (upd (upd (fun _ => (0 : UInt64)) v17 x92) v17 x94) v17 x96) (upd (fun _ => (0 : Int32)) (0 : Int32) v17) v17 T97.heap n0 Zs ⟨Ex_a, Ex_ha, F_shares_a, F_held_a, F_size_a, V_sa, V_ha⟩ ⟨ga, gsa, gha, d1, d2, d3⟩ rfl ik0) (by decide) (by decide) (by rw [hml]; rfl) pd_12 rfl (argsL := []) (rest := []) rfl rfl (Nat.le_of_eq rfl) (hb hby at_153) rfl Ex_a (by decide) (by decide) (pc' := 156) rfl ?_
          intro T98 rv98 L98 X98 hQ98
          obtain ⟨rfl, Nq98, Kq98, Ex_a, Ex_ha, F_shares_a, F_held_a, F_size_a, V_sa, V_ha⟩ := hQ98
          have NF98 := Fr.app NF97 Nq98
          have Zs := Nat.le_trans Zs Kq98.1
          show G (T98.setTop (mkF m 156 _ []))
          exact JC _ _ _ (upd (upd (upd (upd (fun _ => (0 : UInt64)) v17 x92) v17 x94) v17 x96) v17 0) (upd (fun _ => (0 : Int32)) (0 : Int32) v17) (3 : Int32) v17 v17 v17 X98 rfl NF98 Zs  Ex_a Ex_ha F_shares_a F_held_a F_size_a V_sa V_ha (fun j _ => by first | rfl | (simp only [upd]; grind))
        · have _hh := hk_v37_v17
          refine g_aload hG X95 hx (hb hby at_142) (pc' := 144) rfl rfl rfl ?_
          refine g_iload hG X95 hx (hb hby at_144) (pc' := 146) rfl rfl ?_
          refine g_dload hG X95 hx (hb hby at_146) (pc' := 148) rfl rfl ?_
          obtain ⟨x99, hx99⟩ : ∃ z, Jvm.Native.java_lang_Math.nans.pick64 true 0 v73 = z := ⟨_, rfl⟩
          obtain ⟨cx99, Dx99, Px99⟩ := own_pk own_z D73 Rat.le_refl P73
          rw [hx99] at Dx99
          refine g_callV hG X95 hx hZ (y := (⟨"org/termsieve/mapping/Shares", "raise", "(ID)V"⟩ : MethodName)) 0 hown (wd hw 15 rfl) (wd hw 16 rfl) (wd hw 18 rfl) (wd hw 17 rfl) (wd hw 2 rfl) (wd hw 19 rfl) (by decide) (rmRa3_1n l Z a0 hw [] a sa ha (upd (upd (fun _ => (0 : UInt64)) v17 x92) v17 x94) (upd (fun _ => (0 : Int32)) (0 : Int32) v17) v37 v73 x99 T95.heap n0 Zs ⟨Ex_a, Ex_ha, F_shares_a, F_held_a, F_size_a, V_sa, V_ha⟩ ⟨ga, gsa, gha, d1, d2, d3⟩ ik2 D73.noNaN hx99 ((upd_ne hk_v37_v17).trans ((upd_ne hk_v37_v17).trans (rfl)))) (by decide) (by decide) (by rw [hml]; rfl) pd_10 rfl (argsL := [(.int v37), (.double v73)]) (rest := []) rfl rfl (Nat.le_of_eq rfl) (hb hby at_148) rfl Ex_a (by decide) (by decide) (pc' := 151) rfl ?_
          intro T100 rv100 L100 X100 hQ100
          obtain ⟨rfl, Nq100, Kq100, Ex_a, Ex_ha, F_shares_a, F_held_a, F_size_a, V_sa, V_ha⟩ := hQ100
          have NF100 := Fr.app NF95 Nq100
          have Zs := Nat.le_trans Zs Kq100.1
          show G (T100.setTop (mkF m 151 _ []))
          refine g_aload hG X100 hx (hb hby at_151) (pc' := 153) rfl rfl rfl ?_
          refine g_callV hG X100 hx hZ (y := (⟨"org/termsieve/mapping/Shares", "clear", "()V"⟩ : MethodName)) 0 hown (wd hw 26 rfl) (wd hw 27 rfl) (wd hw 29 rfl) (wd hw 28 rfl) (wd hw 2 rfl) (wd hw 30 rfl) (by decide) (rmCl3_2 l Z a0 hw [] a sa ha (upd (upd (upd (fun _ => (0 : UInt64)) v17 x92) v17 x94) v37 x99) (upd (upd (fun _ => (0 : Int32)) (0 : Int32) v17) (1 : Int32) v37) v17 v37 T100.heap n0 Zs ⟨Ex_a, Ex_ha, F_shares_a, F_held_a, F_size_a, V_sa, V_ha⟩ ⟨ga, gsa, gha, d1, d2, d3⟩ rfl ik0 rfl ik2) (by decide) (by decide) (by rw [hml]; rfl) pd_12 rfl (argsL := []) (rest := []) rfl rfl (Nat.le_of_eq rfl) (hb hby at_153) rfl Ex_a (by decide) (by decide) (pc' := 156) rfl ?_
          intro T101 rv101 L101 X101 hQ101
          obtain ⟨rfl, Nq101, Kq101, Ex_a, Ex_ha, F_shares_a, F_held_a, F_size_a, V_sa, V_ha⟩ := hQ101
          have NF101 := Fr.app NF100 Nq101
          have Zs := Nat.le_trans Zs Kq101.1
          show G (T101.setTop (mkF m 156 _ []))
          exact JC _ _ _ (upd (upd (upd (upd (upd (fun _ => (0 : UInt64)) v17 x92) v17 x94) v37 x99) v17 0) v37 0) (upd (upd (fun _ => (0 : Int32)) (0 : Int32) v17) (1 : Int32) v37) (3 : Int32) v17 v17 v37 X101 rfl NF101 Zs  Ex_a Ex_ha F_shares_a F_held_a F_size_a V_sa V_ha (fun j _ => by first | rfl | (simp only [upd]; grind))
      · have _hh := hk_v27_v17
        refine g_aload hG X93 hx (hb hby at_127) (pc' := 129) rfl rfl rfl ?_
        refine g_iload hG X93 hx (hb hby at_129) (pc' := 131) rfl rfl ?_
        refine g_dload hG X93 hx (hb hby at_131) (pc' := 133) rfl rfl ?_
        obtain ⟨x102, hx102⟩ : ∃ z, Jvm.Native.java_lang_Math.nans.pick64 true 0 v61 = z := ⟨_, rfl⟩
        obtain ⟨cx102, Dx102, Px102⟩ := own_pk own_z D61 Rat.le_refl P61
        rw [hx102] at Dx102
        refine g_callV hG X93 hx hZ (y := (⟨"org/termsieve/mapping/Shares", "raise", "(ID)V"⟩ : MethodName)) 0 hown (wd hw 15 rfl) (wd hw 16 rfl) (wd hw 18 rfl) (wd hw 17 rfl) (wd hw 2 rfl) (wd hw 19 rfl) (by decide) (rmRa3_1n l Z a0 hw [] a sa ha (upd (fun _ => (0 : UInt64)) v17 x92) (upd (fun _ => (0 : Int32)) (0 : Int32) v17) v27 v61 x102 T93.heap n0 Zs ⟨Ex_a, Ex_ha, F_shares_a, F_held_a, F_size_a, V_sa, V_ha⟩ ⟨ga, gsa, gha, d1, d2, d3⟩ ik1 D61.noNaN hx102 ((upd_ne hk_v27_v17).trans (rfl))) (by decide) (by decide) (by rw [hml]; rfl) pd_10 rfl (argsL := [(.int v27), (.double v61)]) (rest := []) rfl rfl (Nat.le_of_eq rfl) (hb hby at_133) rfl Ex_a (by decide) (by decide) (pc' := 136) rfl ?_
        intro T103 rv103 L103 X103 hQ103
        obtain ⟨rfl, Nq103, Kq103, Ex_a, Ex_ha, F_shares_a, F_held_a, F_size_a, V_sa, V_ha⟩ := hQ103
        have NF103 := Fr.app NF93 Nq103
        have Zs := Nat.le_trans Zs Kq103.1
        show G (T103.setTop (mkF m 136 _ []))
        refine g_iload hG X103 hx (hb hby at_136) (pc' := 138) rfl rfl ?_
        refine g_iconst hG X103 hx (hb hby at_138) (pc' := 139) rfl (v := (3 : Int32)) rfl ?_
        refine g_icmpNo hG X103 hx (hb hby at_139) (pc' := 142) (by decide) rfl ?_
        by_cases hk_v37_v17 : v37 = v17
        · have _hh := hk_v37_v17
          clear _hh
          have hk_v37_v17 := hk_v37_v17.symm
          subst hk_v37_v17
          refine g_aload hG X103 hx (hb hby at_142) (pc' := 144) rfl rfl rfl ?_
          refine g_iload hG X103 hx (hb hby at_144) (pc' := 146) rfl rfl ?_
          refine g_dload hG X103 hx (hb hby at_146) (pc' := 148) rfl rfl ?_
          obtain ⟨x104, hx104⟩ : ∃ z, Jvm.Native.java_lang_Math.nans.pick64 true x92 v73 = z := ⟨_, rfl⟩
          obtain ⟨cx104, Dx104, Px104⟩ := own_pk Dx92 D73 (Rat.le_of_lt Px92) P73
          rw [hx104] at Dx104
          refine g_callV hG X103 hx hZ (y := (⟨"org/termsieve/mapping/Shares", "raise", "(ID)V"⟩ : MethodName)) 0 hown (wd hw 15 rfl) (wd hw 16 rfl) (wd hw 18 rfl) (wd hw 17 rfl) (wd hw 2 rfl) (wd hw 19 rfl) (by decide) (rmRa3_2o l Z a0 hw [] a sa ha (upd (upd (fun _ => (0 : UInt64)) v17 x92) v27 x102) (upd (upd (fun _ => (0 : Int32)) (0 : Int32) v17) (1 : Int32) v27) v17 v73 x104 x92 T103.heap n0 Zs ⟨Ex_a, Ex_ha, F_shares_a, F_held_a, F_size_a, V_sa, V_ha⟩ ⟨ga, gsa, gha, d1, d2, d3⟩ ik0 D73.noNaN hx104 ((upd_ne (fun z => hk_v27_v17 z.symm)).trans (upd_same)) Dx92.noNaN (OwnFl.dcmp_gt Dx92 own_z Px92)) (by decide) (by decide) (by rw [hml]; rfl) pd_10 rfl (argsL := [(.int v17), (.double v73)]) (rest := []) rfl rfl (Nat.le_of_eq rfl) (hb hby at_148) rfl Ex_a (by decide) (by decide) (pc' := 151) rfl ?_
          intro T105 rv105 L105 X105 hQ105
          obtain ⟨rfl, Nq105, Kq105, Ex_a, Ex_ha, F_shares_a, F_held_a, F_size_a, V_sa, V_ha⟩ := hQ105
          have NF105 := Fr.app NF103 Nq105
          have Zs := Nat.le_trans Zs Kq105.1
          show G (T105.setTop (mkF m 151 _ []))
          refine g_aload hG X105 hx (hb hby at_151) (pc' := 153) rfl rfl rfl ?_
          refine g_callV hG X105 hx hZ (y := (⟨"org/termsieve/mapping/Shares", "clear", "()V"⟩ : MethodName)) 0 hown (wd hw 26 rfl) (wd hw 27 rfl) (wd hw 29 rfl) (wd hw 28 rfl) (wd hw 2 rfl) (wd hw 30 rfl) (by decide) (rmCl3_2 l Z a0 hw [] a sa ha (upd (upd (upd (fun _ => (0 : UInt64)) v17 x92) v27 x102) v17 x104) (upd (upd (fun _ => (0 : Int32)) (0 : Int32) v17) (1 : Int32) v27) v17 v27 T105.heap n0 Zs ⟨Ex_a, Ex_ha, F_shares_a, F_held_a, F_size_a, V_sa, V_ha⟩ ⟨ga, gsa, gha, d1, d2, d3⟩ rfl ik0 rfl ik1) (by decide) (by decide) (by rw [hml]; rfl) pd_12 rfl (argsL := []) (rest := []) rfl rfl (Nat.le_of_eq rfl) (hb hby at_153) rfl Ex_a (by decide) (by decide) (pc' := 156) rfl ?_
          intro T106 rv106 L106 X106 hQ106
          obtain ⟨rfl, Nq106, Kq106, Ex_a, Ex_ha, F_shares_a, F_held_a, F_size_a, V_sa, V_ha⟩ := hQ106
          have NF106 := Fr.app NF105 Nq106
          have Zs := Nat.le_trans Zs Kq106.1
          show G (T106.setTop (mkF m 156 _ []))
          exact JC _ _ _ (upd (upd (upd (upd (upd (fun _ => (0 : UInt64)) v17 x92) v27 x102) v17 x104) v17 0) v27 0) (upd (upd (fun _ => (0 : Int32)) (0 : Int32) v17) (1 : Int32) v27) (3 : Int32) v17 v27 v17 X106 rfl NF106 Zs  Ex_a Ex_ha F_shares_a F_held_a F_size_a V_sa V_ha (fun j _ => by first | rfl | (simp only [upd]; grind))
        · have _hh := hk_v37_v17
          by_cases hk_v37_v27 : v37 = v27
          · have _hh := hk_v37_v27
            clear _hh
            have hk_v37_v27 := hk_v37_v27.symm
            subst hk_v37_v27
            refine g_aload hG X103 hx (hb hby at_142) (pc' := 144) rfl rfl rfl ?_
            refine g_iload hG X103 hx (hb hby at_144) (pc' := 146) rfl rfl ?_
            refine g_dload hG X103 hx (hb hby at_146) (pc' := 148) rfl rfl ?_
            obtain ⟨x107, hx107⟩ : ∃ z, Jvm.Native.java_lang_Math.nans.pick64 true x102 v73 = z := ⟨_, rfl⟩
            obtain ⟨cx107, Dx107, Px107⟩ := own_pk Dx102 D73 (Rat.le_of_lt Px102) P73
            rw [hx107] at Dx107
            refine g_callV hG X103 hx hZ (y := (⟨"org/termsieve/mapping/Shares", "raise", "(ID)V"⟩ : MethodName)) 0 hown (wd hw 15 rfl) (wd hw 16 rfl) (wd hw 18 rfl) (wd hw 17 rfl) (wd hw 2 rfl) (wd hw 19 rfl) (by decide) (rmRa3_2o l Z a0 hw [] a sa ha (upd (upd (fun _ => (0 : UInt64)) v17 x92) v27 x102) (upd (upd (fun _ => (0 : Int32)) (0 : Int32) v17) (1 : Int32) v27) v27 v73 x107 x102 T103.heap n0 Zs ⟨Ex_a, Ex_ha, F_shares_a, F_held_a, F_size_a, V_sa, V_ha⟩ ⟨ga, gsa, gha, d1, d2, d3⟩ ik1 D73.noNaN hx107 upd_same Dx102.noNaN (OwnFl.dcmp_gt Dx102 own_z Px102)) (by decide) (by decide) (by rw [hml]; rfl) pd_10 rfl (argsL := [(.int v27), (.double v73)]) (rest := []) rfl rfl (Nat.le_of_eq rfl) (hb hby at_148) rfl Ex_a (by decide) (by decide) (pc' := 151) rfl ?_
            intro T108 rv108 L108 X108 hQ108
            obtain ⟨rfl, Nq108, Kq108, Ex_a, Ex_ha, F_shares_a, F_held_a, F_size_a, V_sa, V_ha⟩ := hQ108
            have NF108 := Fr.app NF103 Nq108
            have Zs := Nat.le_trans Zs Kq108.1
            show G (T108.setTop (mkF m 151 _ []))
            refine g_aload hG X108 hx (hb hby at_151) (pc' := 153) rfl rfl rfl ?_
            refine g_callV hG X108 hx hZ (y := (⟨"org/termsieve/mapping/Shares", "clear", "()V"⟩ : MethodName)) 0 hown (wd hw 26 rfl) (wd hw 27 rfl) (wd hw 29 rfl) (wd hw 28 rfl) (wd hw 2 rfl) (wd hw 30 rfl) (by decide) (rmCl3_2 l Z a0 hw [] a sa ha (upd (upd (upd (fun _ => (0 : UInt64)) v17 x92) v27 x102) v27 x107) (upd (upd (fun _ => (0 : Int32)) (0 : Int32) v17) (1 : Int32) v27) v17 v27 T108.heap n0 Zs ⟨Ex_a, Ex_ha, F_shares_a, F_held_a, F_size_a, V_sa, V_ha⟩ ⟨ga, gsa, gha, d1, d2, d3⟩ rfl ik0 rfl ik1) (by decide) (by decide) (by rw [hml]; rfl) pd_12 rfl (argsL := []) (rest := []) rfl rfl (Nat.le_of_eq rfl) (hb hby at_153) rfl Ex_a (by decide) (by decide) (pc' := 156) rfl ?_
            intro T109 rv109 L109 X109 hQ109
            obtain ⟨rfl, Nq109, Kq109, Ex_a, Ex_ha, F_shares_a, F_held_a, F_size_a, V_sa, V_ha⟩ := hQ109
            have NF109 := Fr.app NF108 Nq109
            have Zs := Nat.le_trans Zs Kq109.1
            show G (T109.setTop (mkF m 156 _ []))
            exact JC _ _ _ (upd (upd (upd (upd (upd (fun _ => (0 : UInt64)) v17 x92) v27 x102) v27 x107) v17 0) v27 0) (upd (upd (fun _ => (0 : Int32)) (0 : Int32) v17) (1 : Int32) v27) (3 : Int32) v17 v27 v27 X109 rfl NF109 Zs  Ex_a Ex_ha F_shares_a F_held_a F_size_a V_sa V_ha (fun j _ => by first | rfl | (simp only [upd]; grind))
          · have _hh := hk_v37_v27
            refine g_aload hG X103 hx (hb hby at_142) (pc' := 144) rfl rfl rfl ?_
            refine g_iload hG X103 hx (hb hby at_144) (pc' := 146) rfl rfl ?_
            refine g_dload hG X103 hx (hb hby at_146) (pc' := 148) rfl rfl ?_
            obtain ⟨x110, hx110⟩ : ∃ z, Jvm.Native.java_lang_Math.nans.pick64 true 0 v73 = z := ⟨_, rfl⟩
            obtain ⟨cx110, Dx110, Px110⟩ := own_pk own_z D73 Rat.le_refl P73
            rw [hx110] at Dx110
            refine g_callV hG X103 hx hZ (y := (⟨"org/termsieve/mapping/Shares", "raise", "(ID)V"⟩ : MethodName)) 0 hown (wd hw 15 rfl) (wd hw 16 rfl) (wd hw 18 rfl) (wd hw 17 rfl) (wd hw 2 rfl) (wd hw 19 rfl) (by decide) (rmRa3_2n l Z a0 hw [] a sa ha (upd (upd (fun _ => (0 : UInt64)) v17 x92) v27 x102) (upd (upd (fun _ => (0 : Int32)) (0 : Int32) v17) (1 : Int32) v27) v37 v73 x110 T103.heap n0 Zs ⟨Ex_a, Ex_ha, F_shares_a, F_held_a, F_size_a, V_sa, V_ha⟩ ⟨ga, gsa, gha, d1, d2, d3⟩ ik2 D73.noNaN hx110 ((upd_ne hk_v37_v27).trans ((upd_ne hk_v37_v17).trans (rfl)))) (by decide) (by decide) (by rw [hml]; rfl) pd_10 rfl (argsL := [(.int v37), (.double v73)]) (rest := []) rfl rfl (Nat.le_of_eq rfl) (hb hby at_148) rfl Ex_a (by decide) (by decide) (pc' := 151) rfl ?_
            intro T111 rv111 L111 X111 hQ111
            obtain ⟨rfl, Nq111, Kq111, Ex_a, Ex_ha, F_shares_a, F_held_a, F_size_a, V_sa, V_ha⟩ := hQ111
            have NF111 := Fr.app NF103 Nq111
            have Zs := Nat.le_trans Zs Kq111.1
            show G (T111.setTop (mkF m 151 _ []))
            refine g_aload hG X111 hx (hb hby at_151) (pc' := 153) rfl rfl rfl ?_
            refine g_callV hG X111 hx hZ (y := (⟨"org/termsieve/mapping/Shares", "clear", "()V"⟩ : MethodName)) 0 hown (wd hw 26 rfl) (wd hw 27 rfl) (wd hw 29 rfl) (wd hw 28 rfl) (wd hw 2 rfl) (wd hw 30 rfl) (by decide) (rmCl3_3 l Z a0 hw [] a sa ha (upd (upd (upd (fun _ => (0 : UInt64)) v17 x92) v27 x102) v37 x110) (upd (upd (upd (fun _ => (0 : Int32)) (0 : Int32) v17) (1 : Int32) v27) (2 : Int32) v37) v17 v27 v37 T111.heap n0 Zs ⟨Ex_a, Ex_ha, F_shares_a, F_held_a, F_size_a, V_sa, V_ha⟩ ⟨ga, gsa, gha, d1, d2, d3⟩ rfl ik0 rfl ik1 rfl ik2) (by decide) (by decide) (by rw [hml]; rfl) pd_12 rfl (argsL := []) (rest := []) rfl rfl (Nat.le_of_eq rfl) (hb hby at_153) rfl Ex_a (by decide) (by decide) (pc' := 156) rfl ?_
            intro T112 rv112 L112 X112 hQ112
            obtain ⟨rfl, Nq112, Kq112, Ex_a, Ex_ha, F_shares_a, F_held_a, F_size_a, V_sa, V_ha⟩ := hQ112
            have NF112 := Fr.app NF111 Nq112
            have Zs := Nat.le_trans Zs Kq112.1
            show G (T112.setTop (mkF m 156 _ []))
            exact JC _ _ _ (upd (upd (upd (upd (upd (upd (fun _ => (0 : UInt64)) v17 x92) v27 x102) v37 x110) v17 0) v27 0) v37 0) (upd (upd (upd (fun _ => (0 : Int32)) (0 : Int32) v17) (1 : Int32) v27) (2 : Int32) v37) (3 : Int32) v17 v27 v37 X112 rfl NF112 Zs  Ex_a Ex_ha F_shares_a F_held_a F_size_a V_sa V_ha (fun j _ => by first | rfl | (simp only [upd]; grind))
  · skip
    refine g_istore hG X0 hx (hb hby at_5) (pc' := 7) rfl (Ls' := #[.val (.int i0), .val (.int i1), .val (.int i2), .val (.int i3), .val (.int 4), .unset, .unset, .unset, .unset, .unset, .unset, .unset, .unset, .unset, .unset, .unset, .unset, .unset, .unset, .unset, .unset]) rfl ?_
    refine g_iloadN hG X0 hx (hb hby at_7) (pc' := 8) rfl rfl ?_
    refine g_iconst hG X0 hx (hb hby at_8) (pc' := 9) rfl (v := (3 : Int32)) rfl ?_
    obtain ⟨v9, q9⟩ : ∃ zz : Int32, i1 &&& (3 : Int32) = zz := ⟨_, rfl⟩
    refine g_iand hG X0 hx (hb hby at_9) (pc' := 10) rfl q9 ?_
    refine g_istore hG X0 hx (hb hby at_10) (pc' := 12) rfl (Ls' := #[.val (.int i0), .val (.int i1), .val (.int i2), .val (.int i3), .val (.int 4), .val (.int v9), .unset, .unset, .unset, .unset, .unset, .unset, .unset, .unset, .unset, .unset, .unset, .unset, .unset, .unset, .unset]) rfl ?_
    refine g_iloadN hG X0 hx (hb hby at_12) (pc' := 13) rfl rfl ?_
    refine g_iconst hG X0 hx (hb hby at_13) (pc' := 14) rfl (v := (3 : Int32)) rfl ?_
    obtain ⟨v14, q14⟩ : ∃ zz : Int32, i2 &&& (3 : Int32) = zz := ⟨_, rfl⟩
    refine g_iand hG X0 hx (hb hby at_14) (pc' := 15) rfl q14 ?_
    refine g_iload hG X0 hx (hb hby at_15) (pc' := 17) rfl rfl ?_
    obtain ⟨v17, q17⟩ : ∃ zz : Int32, v14 % (4 : Int32) = zz := ⟨_, rfl⟩
    refine g_irem hG X0 hx (hb hby at_17) (pc' := 18) rfl (by decide) q17 ?_
    refine g_istore hG X0 hx (hb hby at_18) (pc' := 20) rfl (Ls' := #[.val (.int i0), .val (.int i1), .val (.int i2), .val (.int i3), .val (.int 4), .val (.int v9), .val (.int v17), .unset, .unset, .unset, .unset, .unset, .unset, .unset, .unset, .unset, .unset, .unset, .unset, .unset, .unset]) rfl ?_
    refine g_iloadN hG X0 hx (hb hby at_20) (pc' := 21) rfl rfl ?_
    refine g_iconst hG X0 hx (hb hby at_21) (pc' := 22) rfl (v := (2 : Int32)) rfl ?_
    obtain ⟨v22, q22⟩ : ∃ zz : Int32, (i2.toUInt32 >>> ((2 : Int32) &&& 31).toUInt32).toInt32 = zz := ⟨_, rfl⟩
    refine g_iushr hG X0 hx (hb hby at_22) (pc' := 23) rfl q22 ?_
    refine g_iconst hG X0 hx (hb hby at_23) (pc' := 24) rfl (v := (3 : Int32)) rfl ?_
    obtain ⟨v24, q24⟩ : ∃ zz : Int32, v22 &&& (3 : Int32) = zz := ⟨_, rfl⟩
    refine g_iand hG X0 hx (hb hby at_24) (pc' := 25) rfl q24 ?_
    refine g_iload hG X0 hx (hb hby at_25) (pc' := 27) rfl rfl ?_
    obtain ⟨v27, q27⟩ : ∃ zz : Int32, v24 % (4 : Int32) = zz := ⟨_, rfl⟩
    refine g_irem hG X0 hx (hb hby at_27) (pc' := 28) rfl (by decide) q27 ?_
    refine g_istore hG X0 hx (hb hby at_28) (pc' := 30) rfl (Ls' := #[.val (.int i0), .val (.int i1), .val (.int i2), .val (.int i3), .val (.int 4), .val (.int v9), .val (.int v17), .val (.int v27), .unset, .unset, .unset, .unset, .unset, .unset, .unset, .unset, .unset, .unset, .unset, .unset, .unset]) rfl ?_
    refine g_iloadN hG X0 hx (hb hby at_30) (pc' := 31) rfl rfl ?_
    refine g_iconst hG X0 hx (hb hby at_31) (pc' := 32) rfl (v := (4 : Int32)) rfl ?_
    obtain ⟨v32, q32⟩ : ∃ zz : Int32, (i2.toUInt32 >>> ((4 : Int32) &&& 31).toUInt32).toInt32 = zz := ⟨_, rfl⟩
    refine g_iushr hG X0 hx (hb hby at_32) (pc' := 33) rfl q32 ?_
    refine g_iconst hG X0 hx (hb hby at_33) (pc' := 34) rfl (v := (3 : Int32)) rfl ?_
    obtain ⟨v34, q34⟩ : ∃ zz : Int32, v32 &&& (3 : Int32) = zz := ⟨_, rfl⟩
    refine g_iand hG X0 hx (hb hby at_34) (pc' := 35) rfl q34 ?_
    refine g_iload hG X0 hx (hb hby at_35) (pc' := 37) rfl rfl ?_
    obtain ⟨v37, q37⟩ : ∃ zz : Int32, v34 % (4 : Int32) = zz := ⟨_, rfl⟩
    refine g_irem hG X0 hx (hb hby at_37) (pc' := 38) rfl (by decide) q37 ?_
    refine g_istore hG X0 hx (hb hby at_38) (pc' := 40) rfl (Ls' := #[.val (.int i0), .val (.int i1), .val (.int i2), .val (.int i3), .val (.int 4), .val (.int v9), .val (.int v17), .val (.int v27), .val (.int v37), .unset, .unset, .unset, .unset, .unset, .unset, .unset, .unset, .unset, .unset, .unset, .unset]) rfl ?_
    refine g_iconst hG X0 hx (hb hby at_40) (pc' := 41) rfl (v := (1 : Int32)) rfl ?_
    refine g_iloadN hG X0 hx (hb hby at_41) (pc' := 42) rfl rfl ?_
    refine g_bipush hG X0 hx (hb hby at_42) (pc' := 44) rfl (v := (6 : Int32)) rfl ?_
    obtain ⟨v44, q44⟩ : ∃ zz : Int32, (i2.toUInt32 >>> ((6 : Int32) &&& 31).toUInt32).toInt32 = zz := ⟨_, rfl⟩
    refine g_iushr hG X0 hx (hb hby at_44) (pc' := 45) rfl q44 ?_
    refine g_bipush hG X0 hx (hb hby at_45) (pc' := 47) rfl (v := (7 : Int32)) rfl ?_
    obtain ⟨v47, q47⟩ : ∃ zz : Int32, v44 &&& (7 : Int32) = zz := ⟨_, rfl⟩
    refine g_iand hG X0 hx (hb hby at_47) (pc' := 48) rfl q47 ?_
    obtain ⟨v48, q48⟩ : ∃ zz : Int32, (1 : Int32) + v47 = zz := ⟨_, rfl⟩
    refine g_iadd hG X0 hx (hb hby at_48) (pc' := 49) rfl q48 ?_
    obtain ⟨v49, q49⟩ : ∃ zz : UInt64, FP.i2d v48 = zz := ⟨_, rfl⟩
    refine g_i2d hG X0 hx (hb hby at_49) (pc' := 50) rfl q49 ?_
    refine g_dstore hG X0 hx (hb hby at_50) (pc' := 52) rfl (Ls' := #[.val (.int i0), .val (.int i1), .val (.int i2), .val (.int i3), .val (.int 4), .val (.int v9), .val (.int v17), .val (.int v27), .val (.int v37), .val (.double v49), .second, .unset, .unset, .unset, .unset, .unset, .unset, .unset, .unset, .unset, .unset]) rfl ?_
    refine g_iconst hG X0 hx (hb hby at_52) (pc' := 53) rfl (v := (1 : Int32)) rfl ?_
    refine g_iloadN hG X0 hx (hb hby at_53) (pc' := 54) rfl rfl ?_
    refine g_bipush hG X0 hx (hb hby at_54) (pc' := 56) rfl (v := (9 : Int32)) rfl ?_
    obtain ⟨v56, q56⟩ : ∃ zz : Int32, (i2.toUInt32 >>> ((9 : Int32) &&& 31).toUInt32).toInt32 = zz := ⟨_, rfl⟩
    refine g_iushr hG X0 hx (hb hby at_56) (pc' := 57) rfl q56 ?_
    refine g_bipush hG X0 hx (hb hby at_57) (pc' := 59) rfl (v := (7 : Int32)) rfl ?_
    obtain ⟨v59, q59⟩ : ∃ zz : Int32, v56 &&& (7 : Int32) = zz := ⟨_, rfl⟩
    refine g_iand hG X0 hx (hb hby at_59) (pc' := 60) rfl q59 ?_
    obtain ⟨v60, q60⟩ : ∃ zz : Int32, (1 : Int32) + v59 = zz := ⟨_, rfl⟩
    refine g_iadd hG X0 hx (hb hby at_60) (pc' := 61) rfl q60 ?_
    obtain ⟨v61, q61⟩ : ∃ zz : UInt64, FP.i2d v60 = zz := ⟨_, rfl⟩
    refine g_i2d hG X0 hx (hb hby at_61) (pc' := 62) rfl q61 ?_
    refine g_dstore hG X0 hx (hb hby at_62) (pc' := 64) rfl (Ls' := #[.val (.int i0), .val (.int i1), .val (.int i2), .val (.int i3), .val (.int 4), .val (.int v9), .val (.int v17), .val (.int v27), .val (.int v37), .val (.double v49), .second, .val (.double v61), .second, .unset, .unset, .unset, .unset, .unset, .unset, .unset, .unset]) rfl ?_
    refine g_iconst hG X0 hx (hb hby at_64) (pc' := 65) rfl (v := (1 : Int32)) rfl ?_
    refine g_iloadN hG X0 hx (hb hby at_65) (pc' := 66) rfl rfl ?_
    refine g_bipush hG X0 hx (hb hby at_66) (pc' := 68) rfl (v := (12 : Int32)) rfl ?_
    obtain ⟨v68, q68⟩ : ∃ zz : Int32, (i2.toUInt32 >>> ((12 : Int32) &&& 31).toUInt32).toInt32 = zz := ⟨_, rfl⟩
    refine g_iushr hG X0 hx (hb hby at_68) (pc' := 69) rfl q68 ?_
    refine g_bipush hG X0 hx (hb hby at_69) (pc' := 71) rfl (v := (7 : Int32)) rfl ?_
    obtain ⟨v71, q71⟩ : ∃ zz : Int32, v68 &&& (7 : Int32) = zz := ⟨_, rfl⟩
    refine g_iand hG X0 hx (hb hby at_71) (pc' := 72) rfl q71 ?_
    obtain ⟨v72, q72⟩ : ∃ zz : Int32, (1 : Int32) + v71 = zz := ⟨_, rfl⟩
    refine g_iadd hG X0 hx (hb hby at_72) (pc' := 73) rfl q72 ?_
    obtain ⟨v73, q73⟩ : ∃ zz : UInt64, FP.i2d v72 = zz := ⟨_, rfl⟩
    refine g_i2d hG X0 hx (hb hby at_73) (pc' := 74) rfl q73 ?_
    refine g_dstore hG X0 hx (hb hby at_74) (pc' := 76) rfl (Ls' := #[.val (.int i0), .val (.int i1), .val (.int i2), .val (.int i3), .val (.int 4), .val (.int v9), .val (.int v17), .val (.int v27), .val (.int v37), .val (.double v49), .second, .val (.double v61), .second, .val (.double v73), .second, .unset, .unset, .unset, .unset, .unset, .unset]) rfl ?_
    refine g_iloadN hG X0 hx (hb hby at_76) (pc' := 77) rfl rfl ?_
    refine g_iconst hG X0 hx (hb hby at_77) (pc' := 78) rfl (v := (3 : Int32)) rfl ?_
    obtain ⟨v78, q78⟩ : ∃ zz : Int32, i3 &&& (3 : Int32) = zz := ⟨_, rfl⟩
    refine g_iand hG X0 hx (hb hby at_78) (pc' := 79) rfl q78 ?_
    refine g_iload hG X0 hx (hb hby at_79) (pc' := 81) rfl rfl ?_
    obtain ⟨v81, q81⟩ : ∃ zz : Int32, v78 % (4 : Int32) = zz := ⟨_, rfl⟩
    refine g_irem hG X0 hx (hb hby at_81) (pc' := 82) rfl (by decide) q81 ?_
    refine g_istore hG X0 hx (hb hby at_82) (pc' := 84) rfl (Ls' := #[.val (.int i0), .val (.int i1), .val (.int i2), .val (.int i3), .val (.int 4), .val (.int v9), .val (.int v17), .val (.int v27), .val (.int v37), .val (.double v49), .second, .val (.double v61), .second, .val (.double v73), .second, .val (.int v81), .unset, .unset, .unset, .unset, .unset]) rfl ?_
    refine g_iconst hG X0 hx (hb hby at_84) (pc' := 85) rfl (v := (1 : Int32)) rfl ?_
    refine g_iloadN hG X0 hx (hb hby at_85) (pc' := 86) rfl rfl ?_
    refine g_iconst hG X0 hx (hb hby at_86) (pc' := 87) rfl (v := (2 : Int32)) rfl ?_
    obtain ⟨v87, q87⟩ : ∃ zz : Int32, (i3.toUInt32 >>> ((2 : Int32) &&& 31).toUInt32).toInt32 = zz := ⟨_, rfl⟩
    refine g_iushr hG X0 hx (hb hby at_87) (pc' := 88) rfl q87 ?_
    refine g_bipush hG X0 hx (hb hby at_88) (pc' := 90) rfl (v := (7 : Int32)) rfl ?_
    obtain ⟨v90, q90⟩ : ∃ zz : Int32, v87 &&& (7 : Int32) = zz := ⟨_, rfl⟩
    refine g_iand hG X0 hx (hb hby at_90) (pc' := 91) rfl q90 ?_
    obtain ⟨v91, q91⟩ : ∃ zz : Int32, (1 : Int32) + v90 = zz := ⟨_, rfl⟩
    refine g_iadd hG X0 hx (hb hby at_91) (pc' := 92) rfl q91 ?_
    obtain ⟨v92, q92⟩ : ∃ zz : UInt64, FP.i2d v91 = zz := ⟨_, rfl⟩
    refine g_i2d hG X0 hx (hb hby at_92) (pc' := 93) rfl q92 ?_
    refine g_dstore hG X0 hx (hb hby at_93) (pc' := 95) rfl (Ls' := #[.val (.int i0), .val (.int i1), .val (.int i2), .val (.int i3), .val (.int 4), .val (.int v9), .val (.int v17), .val (.int v27), .val (.int v37), .val (.double v49), .second, .val (.double v61), .second, .val (.double v73), .second, .val (.int v81), .val (.double v92), .second, .unset, .unset, .unset]) rfl ?_
    have ik0 : In4 v17 := by rw [← q17]; exact in4_of (by rw [← q14]; exact (c_and _ 3 (by decide)).1)
    have ik1 : In4 v27 := by rw [← q27]; exact in4_of (by rw [← q24]; exact (c_and _ 3 (by decide)).1)
    have ik2 : In4 v37 := by rw [← q37]; exact in4_of (by rw [← q34]; exact (c_and _ 3 (by decide)).1)
    have ik : In4 v81 := by rw [← q81]; exact in4_of (by rw [← q78]; exact (c_and _ 3 (by decide)).1)
    obtain ⟨D49, P49⟩ := own_val _ _ _ q47 q48
    rw [q49] at D49
    obtain ⟨D61, P61⟩ := own_val _ _ _ q59 q60
    rw [q61] at D61
    obtain ⟨D73, P73⟩ := own_val _ _ _ q71 q72
    rw [q73] at D73
    obtain ⟨D92, P92⟩ := own_val _ _ _ q90 q91
    rw [q92] at D92
    refine g_newO hG X0 hx hZ hown (wd hw 0 rfl) (wd hw 1 rfl) (wd hw 2 rfl) e0 (hb hby at_95) (by decide) (by decide) (pc' := 98) rfl ?_
    intro T113 h113 a gs113 X113 e113 E113 Aq113 Dq113
    have ge_a : n0 ≤ a := gs113 ▸ Zs
    have Zs := Nat.le_trans Zs E113.1
    have Ex_a := Aq113
    have F_shares_a : Fld Z h113 a "org/termsieve/mapping/Shares" "shares" "[D" .null := Dq113 (Or.inr (wd hw 11 rfl)) (ty := (.array .double)) (by decide)
    have F_held_a : Fld Z h113 a "org/termsieve/mapping/Shares" "held" "[I" .null := Dq113 (Or.inr (wd hw 14 rfl)) (ty := (.array .int)) (by decide)
    have F_size_a : Fld Z h113 a "org/termsieve/mapping/Shares" "size" "I" (.int 0) := Dq113 (Or.inl (wd hw 21 rfl)) (ty := .int) (by decide)
    refine g_dup hG X113 hx (hb hby at_98) (pc' := 99) rfl rfl ?_
    refine g_iload hG X113 hx (hb hby at_99) (pc' := 101) rfl rfl ?_
    have lt_a := Ex_a.lt
    refine g_callI hG X113 hx hZ (y := (⟨"org/termsieve/mapping/Shares", "<init>", "(I)V"⟩ : MethodName)) 1 rfl hown (wd hw 3 rfl) (wd hw 4 rfl) (wd hw 2 rfl) (wd hw 5 rfl) (by decide) (rmNew4 l Z a0 hw [] a h113 n0 Zs ge_a Ex_a F_shares_a F_held_a F_size_a) (by decide) (by decide) (by rw [hml]; rfl) pd_8 rfl (argsL := [(.int 4)]) (rest := [(.ref a)]) rfl rfl (Nat.le_of_eq rfl) (hb hby at_101) e113 (by decide) (by decide) (pc' := 104) rfl ?_
    intro T114 rv114 L114 X114 hQ114
    obtain ⟨sa, ha, rfl, Nq114, Kq114, sz_sa, sz_ha, d3, Ex_a, Ex_ha, F_shares_a, F_held_a, F_size_a, V_sa, V_ha⟩ := hQ114
    have NF114 := Fr.app NF0 Nq114
    have gsa : n0 ≤ sa := Nat.le_trans Zs sz_sa
    have gha : n0 ≤ ha := Nat.le_trans Zs sz_ha
    have d1 : a ≠ sa := Nat.ne_of_lt (Nat.lt_of_lt_of_le lt_a sz_sa)
    have d2 : a ≠ ha := Nat.ne_of_lt (Nat.lt_of_lt_of_le lt_a sz_ha)
    have ga := ge_a
    have Zs := Nat.le_trans Zs Kq114.1
    show G (T114.setTop (mkF m 104 _ [(.ref a)]))
    refine g_astore hG X114 hx (hb hby at_104) (pc' := 106) rfl rfl (Ls' := #[.val (.int i0), .val (.int i1), .val (.int i2), .val (.int i3), .val (.int 4), .val (.int v9), .val (.int v17), .val (.int v27), .val (.int v37), .val (.double v49), .second, .val (.double v61), .second, .val (.double v73), .second, .val (.int v81), .val (.double v92), .second, .val (.ref a), .unset, .unset]) rfl ?_
    have b9 : v9 = 0 ∨ v9 = 1 ∨ v9 = 2 ∨ v9 = 3 := own_cnt4 (by rw [← q9]; exact (c_and i1 3 (by decide)).1) (by rw [← q9]; exact (c_and i1 3 (by decide)).2)
    have JC : ∀ (Tj115 : State) (hj115 : Heap) (Lj115 : List Loc) (shz : Int32 → UInt64) (hdz : Int32 → Int32) (w5 w6 w7 w8 : Int32), Stand p l e room_1 s m #[(.int i0), (.int i1), (.int i2), (.int i3)] below meth c Tj115 Lj115 3 11 → Tj115.heap = hj115 → Fr n0 Lj115 → n0 ≤ hj115.size → Exa Z hj115 a "org/termsieve/mapping/Shares" → Exa Z hj115 ha "[I" → Fld Z hj115 a "org/termsieve/mapping/Shares" "shares" "[D" (.ref sa) → Fld Z hj115 a "org/termsieve/mapping/Shares" "held" "[I" (.ref ha) → Fld Z hj115 a "org/termsieve/mapping/Shares" "size" "I" (.int 0) → AV Z hj115 sa .double (4 : Int32) (fd4 shz) → AV Z hj115 ha .int (4 : Int32) (fn4 hdz) → (∀ j, In4 j → shz j = 0) → G (Tj115.setTop (mkF m 156 #[.val (.int i0), .val (.int i1), .val (.int i2), .val (.int i3), .val (.int 4), .val (.int w5), .val (.int w6), .val (.int w7), .val (.int w8), .val (.double v49), .second, .val (.double v61), .second, .val (.double v73), .second, .val (.int v81), .val (.double v92), .second, .val (.ref a), .unset, .unset] [])) := by
      intro Tj115 hj115 Lj115 shz hdz w5 w6 w7 w8 Xj115 ej115 NFj115 Zs  Ex_a Ex_ha F_shares_a F_held_a F_size_a V_sa V_ha hz
      refine g_aload hG Xj115 hx (hb hby at_156) (pc' := 158) rfl rfl rfl ?_
      refine g_callV hG Xj115 hx hZ (y := (⟨"org/termsieve/mapping/Shares", "held", "()[I"⟩ : MethodName)) 0 hown (wd hw 31 rfl) (wd hw 32 rfl) (wd hw 34 rfl) (wd hw 33 rfl) (wd hw 2 rfl) (wd hw 35 rfl) (by decide) (rmHe4_0 l Z a0 hw [] a sa ha shz hdz  hj115 n0 Zs ⟨Ex_a, Ex_ha, F_shares_a, F_held_a, F_size_a, V_sa, V_ha⟩ ⟨ga, gsa, gha, d1, d2, d3⟩) (by decide) (by decide) (by rw [hml]; rfl) pd_9 rfl (argsL := []) (rest := []) rfl rfl (Nat.le_of_eq rfl) (hb hby at_158) ej115 Ex_a (by decide) (by decide) (pc' := 161) rfl ?_
      intro T116 rv116 L116 X116 hQ116
      obtain ⟨b158, rfl, Nq116, Kq116, szq116, V_b158⟩ := hQ116
      have NF116 := Fr.app NFj115 Nq116
      have ne_a_b158 : a ≠ b158 := Nat.ne_of_lt (Nat.lt_of_lt_of_le Ex_a.lt szq116)
      have ne_ha_b158 : ha ≠ b158 := Nat.ne_of_lt (Nat.lt_of_lt_of_le Ex_ha.lt szq116)
      have ne_sa_b158 : sa ≠ b158 := Nat.ne_of_lt (Nat.lt_of_lt_of_le V_sa.lt szq116)
      have ge_b158 : n0 ≤ b158 := Nat.le_trans Zs szq116
      have Ex_a := Ex_a.keep Kq116
      have Ex_ha := Ex_ha.keep Kq116
      have F_shares_a := F_shares_a.keep Kq116 nin0
      have F_held_a := F_held_a.keep Kq116 nin0
      have F_size_a := F_size_a.keep Kq116 nin0
      have V_sa := V_sa.keep Kq116 nin0
      have V_ha := V_ha.keep Kq116 nin0
      have Zs := Nat.le_trans Zs Kq116.1
      show G (T116.setTop (mkF m 161 _ [(.ref b158)]))
      refine g_astore hG X116 hx (hb hby at_161) (pc' := 163) rfl rfl (Ls' := #[.val (.int i0), .val (.int i1), .val (.int i2), .val (.int i3), .val (.int 4), .val (.int w5), .val (.int w6), .val (.int w7), .val (.int w8), .val (.double v49), .second, .val (.double v61), .second, .val (.double v73), .second, .val (.int v81), .val (.double v92), .second, .val (.ref a), .val (.ref b158), .unset]) rfl ?_
      refine g_aload hG X116 hx (hb hby at_163) (pc' := 165) rfl rfl rfl ?_
      refine g_arraylength hG X116 hx hZ rfl V_b158 (hb hby at_165) (pc' := 166) rfl ?_
      refine g_ifYes hG X116 hx (hb hby at_166) (pc' := 171) (by decide) (by decide) (by decide) ?_
      refine g_aload hG X116 hx (hb hby at_171) (pc' := 173) rfl rfl rfl ?_
      refine g_iload hG X116 hx (hb hby at_173) (pc' := 175) rfl rfl ?_
      refine g_dload hG X116 hx (hb hby at_175) (pc' := 177) rfl rfl ?_
      obtain ⟨x117, hx117⟩ : ∃ z, Jvm.Native.java_lang_Math.nans.pick64 true 0 v92 = z := ⟨_, rfl⟩
      obtain ⟨cx117, Dx117, Px117⟩ := own_pk own_z D92 Rat.le_refl P92
      rw [hx117] at Dx117
      refine g_callV hG X116 hx hZ (y := (⟨"org/termsieve/mapping/Shares", "raise", "(ID)V"⟩ : MethodName)) 0 hown (wd hw 15 rfl) (wd hw 16 rfl) (wd hw 18 rfl) (wd hw 17 rfl) (wd hw 2 rfl) (wd hw 19 rfl) (by decide) (rmRa4_0n l Z a0 hw [] a sa ha shz hdz v81 v92 x117 T116.heap n0 Zs ⟨Ex_a, Ex_ha, F_shares_a, F_held_a, F_size_a, V_sa, V_ha⟩ ⟨ga, gsa, gha, d1, d2, d3⟩ ik D92.noNaN hx117 (hz v81 ik)) (by decide) (by decide) (by rw [hml]; rfl) pd_10 rfl (argsL := [(.int v81), (.double v92)]) (rest := []) rfl rfl (Nat.le_of_eq rfl) (hb hby at_177) rfl Ex_a (by decide) (by decide) (pc' := 180) rfl ?_
      intro T118 rv118 L118 X118 hQ118
      obtain ⟨rfl, Nq118, Kq118, Ex_a, Ex_ha, F_shares_a, F_held_a, F_size_a, V_sa, V_ha⟩ := hQ118
      have NF118 := Fr.app NF116 Nq118
      have V_b158 := V_b158.keep Kq118 (ninS (Ne.symm ne_a_b158) (ninS (Ne.symm ne_sa_b158) (ninS (Ne.symm ne_ha_b158) nin0)))
      have Zs := Nat.le_trans Zs Kq118.1
      show G (T118.setTop (mkF m 180 _ []))
      refine g_aload hG X118 hx (hb hby at_180) (pc' := 182) rfl rfl rfl ?_
      refine g_callV hG X118 hx hZ (y := (⟨"org/termsieve/mapping/Shares", "held", "()[I"⟩ : MethodName)) 0 hown (wd hw 31 rfl) (wd hw 32 rfl) (wd hw 34 rfl) (wd hw 33 rfl) (wd hw 2 rfl) (wd hw 35 rfl) (by decide) (rmHe4_1 l Z a0 hw [] a sa ha (upd shz v81 x117) (upd hdz (0 : Int32) v81) v81 T118.heap n0 Zs ⟨Ex_a, Ex_ha, F_shares_a, F_held_a, F_size_a, V_sa, V_ha⟩ ⟨ga, gsa, gha, d1, d2, d3⟩ upd_same) (by decide) (by decide) (by rw [hml]; rfl) pd_9 rfl (argsL := []) (rest := []) rfl rfl (Nat.le_of_eq rfl) (hb hby at_182) rfl Ex_a (by decide) (by decide) (pc' := 185) rfl ?_
      intro T119 rv119 L119 X119 hQ119
      obtain ⟨b182, rfl, Nq119, Kq119, szq119, V_b182⟩ := hQ119
      have NF119 := Fr.app NF118 Nq119
      have ne_a_b182 : a ≠ b182 := Nat.ne_of_lt (Nat.lt_of_lt_of_le Ex_a.lt szq119)
      have ne_ha_b182 : ha ≠ b182 := Nat.ne_of_lt (Nat.lt_of_lt_of_le Ex_ha.lt szq119)
      have ne_sa_b182 : sa ≠ b182 := Nat.ne_of_lt (Nat.lt_of_lt_of_le V_sa.lt szq119)
      have ne_b158_b182 : b158 ≠ b182 := Nat.ne_of_lt (Nat.lt_of_lt_of_le V_b158.lt szq119)
      have ge_b182 : n0 ≤ b182 := Nat.le_trans Zs szq119
      have Ex_a := Ex_a.keep Kq119
      have Ex_ha := Ex_ha.keep Kq119
      have F_shares_a := F_shares_a.keep Kq119 nin0
      have F_held_a := F_held_a.keep Kq119 nin0
      have F_size_a := F_size_a.keep Kq119 nin0
      have V_sa := V_sa.keep Kq119 nin0
      have V_ha := V_ha.keep Kq119 nin0
      have V_b158 := V_b158.keep Kq119 nin0
      have Zs := Nat.le_trans Zs Kq119.1
      show G (T119.setTop (mkF m 185 _ [(.ref b182)]))
      refine g_astore hG X119 hx (hb hby at_185) (pc' := 187) rfl rfl (Ls' := #[.val (.int i0), .val (.int i1), .val (.int i2), .val (.int i3), .val (.int 4), .val (.int w5), .val (.int w6), .val (.int w7), .val (.int w8), .val (.double v49), .second, .val (.double v61), .second, .val (.double v73), .second, .val (.int v81), .val (.double v92), .second, .val (.ref a), .val (.ref b158), .val (.ref b182)]) rfl ?_
      refine g_aload hG X119 hx (hb hby at_187) (pc' := 189) rfl rfl rfl ?_
      refine g_arraylength hG X119 hx hZ rfl V_b182 (hb hby at_189) (pc' := 190) rfl ?_
      refine g_iconst hG X119 hx (hb hby at_190) (pc' := 191) rfl (v := (1 : Int32)) rfl ?_
      refine g_icmpNo hG X119 hx (hb hby at_191) (pc' := 194) (by decide) rfl ?_
      refine g_aload hG X119 hx (hb hby at_194) (pc' := 196) rfl rfl rfl ?_
      refine g_iconst hG X119 hx (hb hby at_196) (pc' := 197) rfl (v := (0 : Int32)) rfl ?_
      refine g_iaload hG X119 hx hZ rfl V_b182 (j := (0 : Int32)) (v := (.int v81)) (by decide) rfl (hb hby at_197) (pc' := 198) rfl ?_
      refine g_iload hG X119 hx (hb hby at_198) (pc' := 200) rfl rfl ?_
      refine g_icmpYes hG X119 hx (hb hby at_200) (pc' := 205) ((teq rfl).1) (by decide) (by decide) ?_
      have hmv : FP.dcmp x117 v92 = some .eq := by
        rw [← hx117]
        exact OwnFl.dcmp_eq (own_max' own_z D92 (Rat.le_of_lt P92)) D92 rfl
      refine g_aload hG X119 hx (hb hby at_205) (pc' := 207) rfl rfl rfl ?_
      refine g_iconst hG X119 hx (hb hby at_207) (pc' := 208) rfl (v := (0 : Int32)) rfl ?_
      refine g_iload hG X119 hx (hb hby at_208) (pc' := 210) rfl rfl ?_
      refine g_iload hG X119 hx (hb hby at_210) (pc' := 212) rfl rfl ?_
      refine g_dload hG X119 hx (hb hby at_212) (pc' := 214) rfl rfl ?_
      have hx0 : (upd shz v81 x117) (0 : Int32) = (if (0 : Int32) = v81 then x117 else 0) := by
        by_cases q : (0 : Int32) = v81
        · rw [if_pos q, q]; exact upd_same
        · rw [if_neg q]; exact (upd_ne q).trans (hz _ in4_0)
      have hc0 : ((0 : Int32) = v81 ∧ FP.dcmp (if (0 : Int32) = v81 then x117 else 0) v92 = some .eq) ∨ (¬ (0 : Int32) = v81 ∧ FP.dcmp (if (0 : Int32) = v81 then x117 else 0) 0 = some .eq) := by
        by_cases q : (0 : Int32) = v81
        · exact Or.inl ⟨q, by rw [if_pos q]; exact hmv⟩
        · exact Or.inr ⟨q, by rw [if_neg q]; exact own_zz⟩
      refine g_callS hG X119 hx hZ (y := (⟨"org/termsieve/mapping/SharesClearPinLaw", "at", "(Lorg/termsieve/mapping/Shares;IIID)Z"⟩ : MethodName)) 0 hown (wd hw 69 rfl) (wd hw 70 rfl) (wd hw 71 rfl) (wd hw 72 rfl) (by decide) (rmAt4_0 l Z a0 hw [] a sa ha (upd shz v81 x117) (upd hdz (0 : Int32) v81) (1 : Int32) v81 v92 (if (0 : Int32) = v81 then x117 else 0) T119.heap n0 Zs ⟨Ex_a, Ex_ha, F_shares_a, F_held_a, F_size_a, V_sa, V_ha⟩ ⟨ga, gsa, gha, d1, d2, d3⟩ hx0 hc0) (by decide) (by decide) (by rw [hml]; rfl) pd_11 rfl (argsL := [(.ref a), (.int 0), (.int 4), (.int v81), (.double v92)]) (rest := []) rfl rfl (Nat.le_of_eq rfl) (hb hby at_214) rfl (by decide) (by decide) (pc' := 217) rfl ?_
      intro T120 rv120 L120 X120 hQ120
      obtain ⟨rfl, Nq120, eh120⟩ := hQ120
      have NF120 := Fr.app NF119 Nq120
      show G (T120.setTop (mkF m 217 _ [(.int 1)]))
      refine g_ifNo hG X120 hx (hb hby at_217) (pc' := 220) (by decide) rfl ?_
      refine g_aload hG X120 hx (hb hby at_220) (pc' := 222) rfl rfl rfl ?_
      refine g_iconst hG X120 hx (hb hby at_222) (pc' := 223) rfl (v := (1 : Int32)) rfl ?_
      refine g_iload hG X120 hx (hb hby at_223) (pc' := 225) rfl rfl ?_
      refine g_iload hG X120 hx (hb hby at_225) (pc' := 227) rfl rfl ?_
      refine g_dload hG X120 hx (hb hby at_227) (pc' := 229) rfl rfl ?_
      have hx1 : (upd shz v81 x117) (1 : Int32) = (if (1 : Int32) = v81 then x117 else 0) := by
        by_cases q : (1 : Int32) = v81
        · rw [if_pos q, q]; exact upd_same
        · rw [if_neg q]; exact (upd_ne q).trans (hz _ in4_1)
      have hc1 : ((1 : Int32) = v81 ∧ FP.dcmp (if (1 : Int32) = v81 then x117 else 0) v92 = some .eq) ∨ (¬ (1 : Int32) = v81 ∧ FP.dcmp (if (1 : Int32) = v81 then x117 else 0) 0 = some .eq) := by
        by_cases q : (1 : Int32) = v81
        · exact Or.inl ⟨q, by rw [if_pos q]; exact hmv⟩
        · exact Or.inr ⟨q, by rw [if_neg q]; exact own_zz⟩
      refine g_callS hG X120 hx hZ (y := (⟨"org/termsieve/mapping/SharesClearPinLaw", "at", "(Lorg/termsieve/mapping/Shares;IIID)Z"⟩ : MethodName)) 0 hown (wd hw 69 rfl) (wd hw 70 rfl) (wd hw 71 rfl) (wd hw 72 rfl) (by decide) (rmAt4_1 l Z a0 hw [] a sa ha (upd shz v81 x117) (upd hdz (0 : Int32) v81) (1 : Int32) v81 v92 (if (1 : Int32) = v81 then x117 else 0) T119.heap n0 Zs ⟨Ex_a, Ex_ha, F_shares_a, F_held_a, F_size_a, V_sa, V_ha⟩ ⟨ga, gsa, gha, d1, d2, d3⟩ hx1 hc1) (by decide) (by decide) (by rw [hml]; rfl) pd_11 rfl (argsL := [(.ref a), (.int 1), (.int 4), (.int v81), (.double v92)]) (rest := []) rfl rfl (Nat.le_of_eq rfl) (hb hby at_229) eh120 (by decide) (by decide) (pc' := 232) rfl ?_
      intro T121 rv121 L121 X121 hQ121
      obtain ⟨rfl, Nq121, eh121⟩ := hQ121
      have NF121 := Fr.app NF120 Nq121
      show G (T121.setTop (mkF m 232 _ [(.int 1)]))
      refine g_ifNo hG X121 hx (hb hby at_232) (pc' := 235) (by decide) rfl ?_
      refine g_aload hG X121 hx (hb hby at_235) (pc' := 237) rfl rfl rfl ?_
      refine g_iconst hG X121 hx (hb hby at_237) (pc' := 238) rfl (v := (2 : Int32)) rfl ?_
      refine g_iload hG X121 hx (hb hby at_238) (pc' := 240) rfl rfl ?_
      refine g_iload hG X121 hx (hb hby at_240) (pc' := 242) rfl rfl ?_
      refine g_dload hG X121 hx (hb hby at_242) (pc' := 244) rfl rfl ?_
      have hx2 : (upd shz v81 x117) (2 : Int32) = (if (2 : Int32) = v81 then x117 else 0) := by
        by_cases q : (2 : Int32) = v81
        · rw [if_pos q, q]; exact upd_same
        · rw [if_neg q]; exact (upd_ne q).trans (hz _ in4_2)
      have hc2 : ((2 : Int32) = v81 ∧ FP.dcmp (if (2 : Int32) = v81 then x117 else 0) v92 = some .eq) ∨ (¬ (2 : Int32) = v81 ∧ FP.dcmp (if (2 : Int32) = v81 then x117 else 0) 0 = some .eq) := by
        by_cases q : (2 : Int32) = v81
        · exact Or.inl ⟨q, by rw [if_pos q]; exact hmv⟩
        · exact Or.inr ⟨q, by rw [if_neg q]; exact own_zz⟩
      refine g_callS hG X121 hx hZ (y := (⟨"org/termsieve/mapping/SharesClearPinLaw", "at", "(Lorg/termsieve/mapping/Shares;IIID)Z"⟩ : MethodName)) 0 hown (wd hw 69 rfl) (wd hw 70 rfl) (wd hw 71 rfl) (wd hw 72 rfl) (by decide) (rmAt4_2 l Z a0 hw [] a sa ha (upd shz v81 x117) (upd hdz (0 : Int32) v81) (1 : Int32) v81 v92 (if (2 : Int32) = v81 then x117 else 0) T119.heap n0 Zs ⟨Ex_a, Ex_ha, F_shares_a, F_held_a, F_size_a, V_sa, V_ha⟩ ⟨ga, gsa, gha, d1, d2, d3⟩ hx2 hc2) (by decide) (by decide) (by rw [hml]; rfl) pd_11 rfl (argsL := [(.ref a), (.int 2), (.int 4), (.int v81), (.double v92)]) (rest := []) rfl rfl (Nat.le_of_eq rfl) (hb hby at_244) eh121 (by decide) (by decide) (pc' := 247) rfl ?_
      intro T122 rv122 L122 X122 hQ122
      obtain ⟨rfl, Nq122, eh122⟩ := hQ122
      have NF122 := Fr.app NF121 Nq122
      show G (T122.setTop (mkF m 247 _ [(.int 1)]))
      refine g_ifNo hG X122 hx (hb hby at_247) (pc' := 250) (by decide) rfl ?_
      refine g_aload hG X122 hx (hb hby at_250) (pc' := 252) rfl rfl rfl ?_
      refine g_iconst hG X122 hx (hb hby at_252) (pc' := 253) rfl (v := (3 : Int32)) rfl ?_
      refine g_iload hG X122 hx (hb hby at_253) (pc' := 255) rfl rfl ?_
      refine g_iload hG X122 hx (hb hby at_255) (pc' := 257) rfl rfl ?_
      refine g_dload hG X122 hx (hb hby at_257) (pc' := 259) rfl rfl ?_
      have hx3 : (upd shz v81 x117) (3 : Int32) = (if (3 : Int32) = v81 then x117 else 0) := by
        by_cases q : (3 : Int32) = v81
        · rw [if_pos q, q]; exact upd_same
        · rw [if_neg q]; exact (upd_ne q).trans (hz _ in4_3)
      have hc3 : ((3 : Int32) = v81 ∧ FP.dcmp (if (3 : Int32) = v81 then x117 else 0) v92 = some .eq) ∨ (¬ (3 : Int32) = v81 ∧ FP.dcmp (if (3 : Int32) = v81 then x117 else 0) 0 = some .eq) := by
        by_cases q : (3 : Int32) = v81
        · exact Or.inl ⟨q, by rw [if_pos q]; exact hmv⟩
        · exact Or.inr ⟨q, by rw [if_neg q]; exact own_zz⟩
      refine g_callS hG X122 hx hZ (y := (⟨"org/termsieve/mapping/SharesClearPinLaw", "at", "(Lorg/termsieve/mapping/Shares;IIID)Z"⟩ : MethodName)) 0 hown (wd hw 69 rfl) (wd hw 70 rfl) (wd hw 71 rfl) (wd hw 72 rfl) (by decide) (rmAt4_3 l Z a0 hw [] a sa ha (upd shz v81 x117) (upd hdz (0 : Int32) v81) (1 : Int32) v81 v92 (if (3 : Int32) = v81 then x117 else 0) T119.heap n0 Zs ⟨Ex_a, Ex_ha, F_shares_a, F_held_a, F_size_a, V_sa, V_ha⟩ ⟨ga, gsa, gha, d1, d2, d3⟩ hx3 hc3) (by decide) (by decide) (by rw [hml]; rfl) pd_11 rfl (argsL := [(.ref a), (.int 3), (.int 4), (.int v81), (.double v92)]) (rest := []) rfl rfl (Nat.le_of_eq rfl) (hb hby at_259) eh122 (by decide) (by decide) (pc' := 262) rfl ?_
      intro T123 rv123 L123 X123 hQ123
      obtain ⟨rfl, Nq123, eh123⟩ := hQ123
      have NF123 := Fr.app NF122 Nq123
      show G (T123.setTop (mkF m 262 _ [(.int 1)]))
      refine g_ifNo hG X123 hx (hb hby at_262) (pc' := 265) (by decide) rfl ?_
      refine g_iconst hG X123 hx (hb hby at_265) (pc' := 266) rfl (v := (1 : Int32)) rfl ?_
      refine g_goto hG X123 hx (hb hby at_266) (pc' := 270) (by decide) (by decide) ?_
      exact e_retZ hGe X123 hx hrt hlk (hb hby at_270) (Or.inr rfl) eh123 (by decide) (by decide) (⟨rfl, NF123⟩)
    rcases b9 with rfl | rfl | rfl | rfl
    · skip
      refine g_iload hG X114 hx (hb hby at_106) (pc' := 108) rfl rfl ?_
      refine g_iconst hG X114 hx (hb hby at_108) (pc' := 109) rfl (v := (1 : Int32)) rfl ?_
      refine g_icmpYes hG X114 hx (hb hby at_109) (pc' := 121) (by decide) (by decide) (by decide) ?_
      refine g_iload hG X114 hx (hb hby at_121) (pc' := 123) rfl rfl ?_
      refine g_iconst hG X114 hx (hb hby at_123) (pc' := 124) rfl (v := (2 : Int32)) rfl ?_
      refine g_icmpYes hG X114 hx (hb hby at_124) (pc' := 136) (by decide) (by decide) (by decide) ?_
      refine g_iload hG X114 hx (hb hby at_136) (pc' := 138) rfl rfl ?_
      refine g_iconst hG X114 hx (hb hby at_138) (pc' := 139) rfl (v := (3 : Int32)) rfl ?_
      refine g_icmpYes hG X114 hx (hb hby at_139) (pc' := 151) (by decide) (by decide) (by decide) ?_
      refine g_aload hG X114 hx (hb hby at_151) (pc' := 153) rfl rfl rfl ?_
      refine g_callV hG X114 hx hZ (y := (⟨"org/termsieve/mapping/Shares", "clear", "()V"⟩ : MethodName)) 0 hown (wd hw 26 rfl) (wd hw 27 rfl) (wd hw 29 rfl) (wd hw 28 rfl) (wd hw 2 rfl) (wd hw 30 rfl) (by decide) (rmCl4_0 l Z a0 hw [] a sa ha (fun _ => (0 : UInt64)) (fun _ => (0 : Int32))  T114.heap n0 Zs ⟨Ex_a, Ex_ha, F_shares_a, F_held_a, F_size_a, V_sa, V_ha⟩ ⟨ga, gsa, gha, d1, d2, d3⟩) (by decide) (by decide) (by rw [hml]; rfl) pd_12 rfl (argsL := []) (rest := []) rfl rfl (Nat.le_of_eq rfl) (hb hby at_153) rfl Ex_a (by decide) (by decide) (pc' := 156) rfl ?_
      intro T124 rv124 L124 X124 hQ124
      obtain ⟨rfl, Nq124, Kq124, Ex_a, Ex_ha, F_shares_a, F_held_a, F_size_a, V_sa, V_ha⟩ := hQ124
      have NF124 := Fr.app NF114 Nq124
      have Zs := Nat.le_trans Zs Kq124.1
      show G (T124.setTop (mkF m 156 _ []))
      exact JC _ _ _ (fun _ => (0 : UInt64)) (fun _ => (0 : Int32)) (0 : Int32) v17 v27 v37 X124 rfl NF124 Zs  Ex_a Ex_ha F_shares_a F_held_a F_size_a V_sa V_ha (fun j _ => by first | rfl | (simp only [upd]; grind))
    · skip
      refine g_iload hG X114 hx (hb hby at_106) (pc' := 108) rfl rfl ?_
      refine g_iconst hG X114 hx (hb hby at_108) (pc' := 109) rfl (v := (1 : Int32)) rfl ?_
      refine g_icmpNo hG X114 hx (hb hby at_109) (pc' := 112) (by decide) rfl ?_
      refine g_aload hG X114 hx (hb hby at_112) (pc' := 114) rfl rfl rfl ?_
      refine g_iload hG X114 hx (hb hby at_114) (pc' := 116) rfl rfl ?_
      refine g_dload hG X114 hx (hb hby at_116) (pc' := 118) rfl rfl ?_
      obtain ⟨x125, hx125⟩ : ∃ z, Jvm.Native.java_lang_Math.nans.pick64 true 0 v49 = z := ⟨_, rfl⟩
      obtain ⟨cx125, Dx125, Px125⟩ := own_pk own_z D49 Rat.le_refl P49
      rw [hx125] at Dx125
      refine g_callV hG X114 hx hZ (y := (⟨"org/termsieve/mapping/Shares", "raise", "(ID)V"⟩ : MethodName)) 0 hown (wd hw 15 rfl) (wd hw 16 rfl) (wd hw 18 rfl) (wd hw 17 rfl) (wd hw 2 rfl) (wd hw 19 rfl) (by decide) (rmRa4_0n l Z a0 hw [] a sa ha (fun _ => (0 : UInt64)) (fun _ => (0 : Int32)) v17 v49 x125 T114.heap n0 Zs ⟨Ex_a, Ex_ha, F_shares_a, F_held_a, F_size_a, V_sa, V_ha⟩ ⟨ga, gsa, gha, d1, d2, d3⟩ ik0 D49.noNaN hx125 rfl) (by decide) (by decide) (by rw [hml]; rfl) pd_10 rfl (argsL := [(.int v17), (.double v49)]) (rest := []) rfl rfl (Nat.le_of_eq rfl) (hb hby at_118) rfl Ex_a (by decide) (by decide) (pc' := 121) rfl ?_
      intro T126 rv126 L126 X126 hQ126
      obtain ⟨rfl, Nq126, Kq126, Ex_a, Ex_ha, F_shares_a, F_held_a, F_size_a, V_sa, V_ha⟩ := hQ126
      have NF126 := Fr.app NF114 Nq126
      have Zs := Nat.le_trans Zs Kq126.1
      show G (T126.setTop (mkF m 121 _ []))
      refine g_iload hG X126 hx (hb hby at_121) (pc' := 123) rfl rfl ?_
      refine g_iconst hG X126 hx (hb hby at_123) (pc' := 124) rfl (v := (2 : Int32)) rfl ?_
      refine g_icmpYes hG X126 hx (hb hby at_124) (pc' := 136) (by decide) (by decide) (by decide) ?_
      refine g_iload hG X126 hx (hb hby at_136) (pc' := 138) rfl rfl ?_
      refine g_iconst hG X126 hx (hb hby at_138) (pc' := 139) rfl (v := (3 : Int32)) rfl ?_
      refine g_icmpYes hG X126 hx (hb hby at_139) (pc' := 151) (by decide) (by decide) (by decide) ?_
      refine g_aload hG X126 hx (hb hby at_151) (pc' := 153) rfl rfl rfl ?_
      refine g_callV hG X126 hx hZ (y := (⟨"org/termsieve/mapping/Shares", "clear", "()V"⟩ : MethodName)) 0 hown (wd hw 26 rfl) (wd hw 27 rfl) (wd hw 29 rfl) (wd hw 28 rfl) (wd hw 2 rfl) (wd hw 30 rfl) (by decide) (rmCl4_1 l Z a0 hw [] a sa ha (upd (fun _ => (0 : UInt64)) v17 x125) (upd (fun _ => (0 : Int32)) (0 : Int32) v17) v17 T126.heap n0 Zs ⟨Ex_a, Ex_ha, F_shares_a, F_held_a, F_size_a, V_sa, V_ha⟩ ⟨ga, gsa, gha, d1, d2, d3⟩ rfl ik0) (by decide) (by decide) (by rw [hml]; rfl) pd_12 rfl (argsL := []) (rest := []) rfl rfl (Nat.le_of_eq rfl) (hb hby at_153) rfl Ex_a (by decide) (by decide) (pc' := 156) rfl ?_
      intro T127 rv127 L127 X127 hQ127
      obtain ⟨rfl, Nq127, Kq127, Ex_a, Ex_ha, F_shares_a, F_held_a, F_size_a, V_sa, V_ha⟩ := hQ127
      have NF127 := Fr.app NF126 Nq127
      have Zs := Nat.le_trans Zs Kq127.1
      show G (T127.setTop (mkF m 156 _ []))
      exact JC _ _ _ (upd (upd (fun _ => (0 : UInt64)) v17 x125) v17 0) (upd (fun _ => (0 : Int32)) (0 : Int32) v17) (1 : Int32) v17 v27 v37 X127 rfl NF127 Zs  Ex_a Ex_ha F_shares_a F_held_a F_size_a V_sa V_ha (fun j _ => by first | rfl | (simp only [upd]; grind))
    · skip
      refine g_iload hG X114 hx (hb hby at_106) (pc' := 108) rfl rfl ?_
      refine g_iconst hG X114 hx (hb hby at_108) (pc' := 109) rfl (v := (1 : Int32)) rfl ?_
      refine g_icmpNo hG X114 hx (hb hby at_109) (pc' := 112) (by decide) rfl ?_
      refine g_aload hG X114 hx (hb hby at_112) (pc' := 114) rfl rfl rfl ?_
      refine g_iload hG X114 hx (hb hby at_114) (pc' := 116) rfl rfl ?_
      refine g_dload hG X114 hx (hb hby at_116) (pc' := 118) rfl rfl ?_
      obtain ⟨x128, hx128⟩ : ∃ z, Jvm.Native.java_lang_Math.nans.pick64 true 0 v49 = z := ⟨_, rfl⟩
      obtain ⟨cx128, Dx128, Px128⟩ := own_pk own_z D49 Rat.le_refl P49
      rw [hx128] at Dx128
      refine g_callV hG X114 hx hZ (y := (⟨"org/termsieve/mapping/Shares", "raise", "(ID)V"⟩ : MethodName)) 0 hown (wd hw 15 rfl) (wd hw 16 rfl) (wd hw 18 rfl) (wd hw 17 rfl) (wd hw 2 rfl) (wd hw 19 rfl) (by decide) (rmRa4_0n l Z a0 hw [] a sa ha (fun _ => (0 : UInt64)) (fun _ => (0 : Int32)) v17 v49 x128 T114.heap n0 Zs ⟨Ex_a, Ex_ha, F_shares_a, F_held_a, F_size_a, V_sa, V_ha⟩ ⟨ga, gsa, gha, d1, d2, d3⟩ ik0 D49.noNaN hx128 rfl) (by decide) (by decide) (by rw [hml]; rfl) pd_10 rfl (argsL := [(.int v17), (.double v49)]) (rest := []) rfl rfl (Nat.le_of_eq rfl) (hb hby at_118) rfl Ex_a (by decide) (by decide) (pc' := 121) rfl ?_
      intro T129 rv129 L129 X129 hQ129
      obtain ⟨rfl, Nq129, Kq129, Ex_a, Ex_ha, F_shares_a, F_held_a, F_size_a, V_sa, V_ha⟩ := hQ129
      have NF129 := Fr.app NF114 Nq129
      have Zs := Nat.le_trans Zs Kq129.1
      show G (T129.setTop (mkF m 121 _ []))
      refine g_iload hG X129 hx (hb hby at_121) (pc' := 123) rfl rfl ?_
      refine g_iconst hG X129 hx (hb hby at_123) (pc' := 124) rfl (v := (2 : Int32)) rfl ?_
      refine g_icmpNo hG X129 hx (hb hby at_124) (pc' := 127) (by decide) rfl ?_
      by_cases hk_v27_v17 : v27 = v17
      · have _hh := hk_v27_v17
        clear _hh
        have hk_v27_v17 := hk_v27_v17.symm
        subst hk_v27_v17
        refine g_aload hG X129 hx (hb hby at_127) (pc' := 129) rfl rfl rfl ?_
        refine g_iload hG X129 hx (hb hby at_129) (pc' := 131) rfl rfl ?_
        refine g_dload hG X129 hx (hb hby at_131) (pc' := 133) rfl rfl ?_
        obtain ⟨x130, hx130⟩ : ∃ z, Jvm.Native.java_lang_Math.nans.pick64 true x128 v61 = z := ⟨_, rfl⟩
        obtain ⟨cx130, Dx130, Px130⟩ := own_pk Dx128 D61 (Rat.le_of_lt Px128) P61
        rw [hx130] at Dx130
        refine g_callV hG X129 hx hZ (y := (⟨"org/termsieve/mapping/Shares", "raise", "(ID)V"⟩ : MethodName)) 0 hown (wd hw 15 rfl) (wd hw 16 rfl) (wd hw 18 rfl) (wd hw 17 rfl) (wd hw 2 rfl) (wd hw 19 rfl) (by decide) (rmRa4_1o l Z a0 hw [] a sa ha (upd (fun _ => (0 : UInt64)) v17 x128) (upd (fun _ => (0 : Int32)) (0 : Int32) v17) v17 v61 x130 x128 T129.heap n0 Zs ⟨Ex_a, Ex_ha, F_shares_a, F_held_a, F_size_a, V_sa, V_ha⟩ ⟨ga, gsa, gha, d1, d2, d3⟩ ik0 D61.noNaN hx130 upd_same Dx128.noNaN (OwnFl.dcmp_gt Dx128 own_z Px128)) (by decide) (by decide) (by rw [hml]; rfl) pd_10 rfl (argsL := [(.int v17), (.double v61)]) (rest := []) rfl rfl (Nat.le_of_eq rfl) (hb hby at_133) rfl Ex_a (by decide) (by decide) (pc' := 136) rfl ?_
        intro T131 rv131 L131 X131 hQ131
        obtain ⟨rfl, Nq131, Kq131, Ex_a, Ex_ha, F_shares_a, F_held_a, F_size_a, V_sa, V_ha⟩ := hQ131
        have NF131 := Fr.app NF129 Nq131
        have Zs := Nat.le_trans Zs Kq131.1
        show G (T131.setTop (mkF m 136 _ []))
        refine g_iload hG X131 hx (hb hby at_136) (pc' := 138) rfl rfl ?_
        refine g_iconst hG X131 hx (hb hby at_138) (pc' := 139) rfl (v := (3 : Int32)) rfl ?_
        refine g_icmpYes hG X131 hx (hb hby at_139) (pc' := 151) (by decide) (by decide) (by decide) ?_
        refine g_aload hG X131 hx (hb hby at_151) (pc' := 153) rfl rfl rfl ?_
        refine g_callV hG X131 hx hZ (y := (⟨"org/termsieve/mapping/Shares", "clear", "()V"⟩ : MethodName)) 0 hown (wd hw 26 rfl) (wd hw 27 rfl) (wd hw 29 rfl) (wd hw 28 rfl) (wd hw 2 rfl) (wd hw 30 rfl) (by decide) (rmCl4_1 l Z a0 hw [] a sa ha (upd (upd (fun _ => (0 : UInt64)) v17 x128) v17 x130) (upd (fun _ => (0 : Int32)) (0 : Int32) v17) v17 T131.heap n0 Zs ⟨Ex_a, Ex_ha, F_shares_a, F_held_a, F_size_a, V_sa, V_ha⟩ ⟨ga, gsa, gha, d1, d2, d3⟩ rfl ik0) (by decide) (by decide) (by rw [hml]; rfl) pd_12 rfl (argsL := []) (rest := []) rfl rfl (Nat.le_of_eq rfl) (hb hby at_153) rfl Ex_a (by decide) (by decide) (pc' := 156) rfl ?_
        intro T132 rv132 L132 X132 hQ132
        obtain ⟨rfl, Nq132, Kq132, Ex_a, Ex_ha, F_shares_a, F_held_a, F_size_a, V_sa, V_ha⟩ := hQ132
        have NF132 := Fr.app NF131 Nq132
        have Zs := Nat.le_trans Zs Kq132.1
        show G (T132.setTop (mkF m 156 _ []))
        exact JC _ _ _ (upd (upd (upd (fun _ => (0 : UInt64)) v17 x128) v17 x130) v17 0) (upd (fun _ => (0 : Int32)) (0 : Int32) v17) (2 : Int32) v17 v17 v37 X132 rfl NF132 Zs  Ex_a Ex_ha F_shares_a F_held_a F_size_a V_sa V_ha (fun j _ => by first | rfl | (simp only [upd]; grind))
      · have _hh := hk_v27_v17
        refine g_aload hG X129 hx (hb hby at_127) (pc' := 129) rfl rfl rfl ?_
        refine g_iload hG X129 hx (hb hby at_129) (pc' := 131) rfl rfl ?_
        refine g_dload hG X129 hx (hb hby at_131) (pc' := 133) rfl rfl ?_
        obtain ⟨x133, hx133⟩ : ∃ z, Jvm.Native.java_lang_Math.nans.pick64 true 0 v61 = z := ⟨_, rfl⟩
        obtain ⟨cx133, Dx133, Px133⟩ := own_pk own_z D61 Rat.le_refl P61
        rw [hx133] at Dx133
        refine g_callV hG X129 hx hZ (y := (⟨"org/termsieve/mapping/Shares", "raise", "(ID)V"⟩ : MethodName)) 0 hown (wd hw 15 rfl) (wd hw 16 rfl) (wd hw 18 rfl) (wd hw 17 rfl) (wd hw 2 rfl) (wd hw 19 rfl) (by decide) (rmRa4_1n l Z a0 hw [] a sa ha (upd (fun _ => (0 : UInt64)) v17 x128) (upd (fun _ => (0 : Int32)) (0 : Int32) v17) v27 v61 x133 T129.heap n0 Zs ⟨Ex_a, Ex_ha, F_shares_a, F_held_a, F_size_a, V_sa, V_ha⟩ ⟨ga, gsa, gha, d1, d2, d3⟩ ik1 D61.noNaN hx133 ((upd_ne hk_v27_v17).trans (rfl))) (by decide) (by decide) (by rw [hml]; rfl) pd_10 rfl (argsL := [(.int v27), (.double v61)]) (rest := []) rfl rfl (Nat.le_of_eq rfl) (hb hby at_133) rfl Ex_a (by decide) (by decide) (pc' := 136) rfl ?_
        intro T134 rv134 L134 X134 hQ134
        obtain ⟨rfl, Nq134, Kq134, Ex_a, Ex_ha, F_shares_a, F_held_a, F_size_a, V_sa, V_ha⟩ := hQ134
        have NF134 := Fr.app NF129 Nq134
        have Zs := Nat.le_trans Zs Kq134.1
        show G (T134.setTop (mkF m 136 _ []))
        refine g_iload hG X134 hx (hb hby at_136) (pc' := 138) rfl rfl ?_
        refine g_iconst hG X134 hx (hb hby at_138) (pc' := 139) rfl (v := (3 : Int32)) rfl ?_
        refine g_icmpYes hG X134 hx (hb hby at_139) (pc' := 151) (by decide) (by decide) (by decide) ?_
        refine g_aload hG X134 hx (hb hby at_151) (pc' := 153) rfl rfl rfl ?_
        refine g_callV hG X134 hx hZ (y := (⟨"org/termsieve/mapping/Shares", "clear", "()V"⟩ : MethodName)) 0 hown (wd hw 26 rfl) (wd hw 27 rfl) (wd hw 29 rfl) (wd hw 28 rfl) (wd hw 2 rfl) (wd hw 30 rfl) (by decide) (rmCl4_2 l Z a0 hw [] a sa ha (upd (upd (fun _ => (0 : UInt64)) v17 x128) v27 x133) (upd (upd (fun _ => (0 : Int32)) (0 : Int32) v17) (1 : Int32) v27) v17 v27 T134.heap n0 Zs ⟨Ex_a, Ex_ha, F_shares_a, F_held_a, F_size_a, V_sa, V_ha⟩ ⟨ga, gsa, gha, d1, d2, d3⟩ rfl ik0 rfl ik1) (by decide) (by decide) (by rw [hml]; rfl) pd_12 rfl (argsL := []) (rest := []) rfl rfl (Nat.le_of_eq rfl) (hb hby at_153) rfl Ex_a (by decide) (by decide) (pc' := 156) rfl ?_
        intro T135 rv135 L135 X135 hQ135
        obtain ⟨rfl, Nq135, Kq135, Ex_a, Ex_ha, F_shares_a, F_held_a, F_size_a, V_sa, V_ha⟩ := hQ135
        have NF135 := Fr.app NF134 Nq135
        have Zs := Nat.le_trans Zs Kq135.1
        show G (T135.setTop (mkF m 156 _ []))
        exact JC _ _ _ (upd (upd (upd (upd (fun _ => (0 : UInt64)) v17 x128) v27 x133) v17 0) v27 0) (upd (upd (fun _ => (0 : Int32)) (0 : Int32) v17) (1 : Int32) v27) (2 : Int32) v17 v27 v37 X135 rfl NF135 Zs  Ex_a Ex_ha F_shares_a F_held_a F_size_a V_sa V_ha (fun j _ => by first | rfl | (simp only [upd]; grind))
    · skip
      refine g_iload hG X114 hx (hb hby at_106) (pc' := 108) rfl rfl ?_
      refine g_iconst hG X114 hx (hb hby at_108) (pc' := 109) rfl (v := (1 : Int32)) rfl ?_
      refine g_icmpNo hG X114 hx (hb hby at_109) (pc' := 112) (by decide) rfl ?_
      refine g_aload hG X114 hx (hb hby at_112) (pc' := 114) rfl rfl rfl ?_
      refine g_iload hG X114 hx (hb hby at_114) (pc' := 116) rfl rfl ?_
      refine g_dload hG X114 hx (hb hby at_116) (pc' := 118) rfl rfl ?_
      obtain ⟨x136, hx136⟩ : ∃ z, Jvm.Native.java_lang_Math.nans.pick64 true 0 v49 = z := ⟨_, rfl⟩
      obtain ⟨cx136, Dx136, Px136⟩ := own_pk own_z D49 Rat.le_refl P49
      rw [hx136] at Dx136
      refine g_callV hG X114 hx hZ (y := (⟨"org/termsieve/mapping/Shares", "raise", "(ID)V"⟩ : MethodName)) 0 hown (wd hw 15 rfl) (wd hw 16 rfl) (wd hw 18 rfl) (wd hw 17 rfl) (wd hw 2 rfl) (wd hw 19 rfl) (by decide) (rmRa4_0n l Z a0 hw [] a sa ha (fun _ => (0 : UInt64)) (fun _ => (0 : Int32)) v17 v49 x136 T114.heap n0 Zs ⟨Ex_a, Ex_ha, F_shares_a, F_held_a, F_size_a, V_sa, V_ha⟩ ⟨ga, gsa, gha, d1, d2, d3⟩ ik0 D49.noNaN hx136 rfl) (by decide) (by decide) (by rw [hml]; rfl) pd_10 rfl (argsL := [(.int v17), (.double v49)]) (rest := []) rfl rfl (Nat.le_of_eq rfl) (hb hby at_118) rfl Ex_a (by decide) (by decide) (pc' := 121) rfl ?_
      intro T137 rv137 L137 X137 hQ137
      obtain ⟨rfl, Nq137, Kq137, Ex_a, Ex_ha, F_shares_a, F_held_a, F_size_a, V_sa, V_ha⟩ := hQ137
      have NF137 := Fr.app NF114 Nq137
      have Zs := Nat.le_trans Zs Kq137.1
      show G (T137.setTop (mkF m 121 _ []))
      refine g_iload hG X137 hx (hb hby at_121) (pc' := 123) rfl rfl ?_
      refine g_iconst hG X137 hx (hb hby at_123) (pc' := 124) rfl (v := (2 : Int32)) rfl ?_
      refine g_icmpNo hG X137 hx (hb hby at_124) (pc' := 127) (by decide) rfl ?_
      by_cases hk_v27_v17 : v27 = v17
      · have _hh := hk_v27_v17
        clear _hh
        have hk_v27_v17 := hk_v27_v17.symm
        subst hk_v27_v17
        refine g_aload hG X137 hx (hb hby at_127) (pc' := 129) rfl rfl rfl ?_
        refine g_iload hG X137 hx (hb hby at_129) (pc' := 131) rfl rfl ?_
        refine g_dload hG X137 hx (hb hby at_131) (pc' := 133) rfl rfl ?_
        obtain ⟨x138, hx138⟩ : ∃ z, Jvm.Native.java_lang_Math.nans.pick64 true x136 v61 = z := ⟨_, rfl⟩
        obtain ⟨cx138, Dx138, Px138⟩ := own_pk Dx136 D61 (Rat.le_of_lt Px136) P61
        rw [hx138] at Dx138
        refine g_callV hG X137 hx hZ (y := (⟨"org/termsieve/mapping/Shares", "raise", "(ID)V"⟩ : MethodName)) 0 hown (wd hw 15 rfl) (wd hw 16 rfl) (wd hw 18 rfl) (wd hw 17 rfl) (wd hw 2 rfl) (wd hw 19 rfl) (by decide) (rmRa4_1o l Z a0 hw [] a sa ha (upd (fun _ => (0 : UInt64)) v17 x136) (upd (fun _ => (0 : Int32)) (0 : Int32) v17) v17 v61 x138 x136 T137.heap n0 Zs ⟨Ex_a, Ex_ha, F_shares_a, F_held_a, F_size_a, V_sa, V_ha⟩ ⟨ga, gsa, gha, d1, d2, d3⟩ ik0 D61.noNaN hx138 upd_same Dx136.noNaN (OwnFl.dcmp_gt Dx136 own_z Px136)) (by decide) (by decide) (by rw [hml]; rfl) pd_10 rfl (argsL := [(.int v17), (.double v61)]) (rest := []) rfl rfl (Nat.le_of_eq rfl) (hb hby at_133) rfl Ex_a (by decide) (by decide) (pc' := 136) rfl ?_
        intro T139 rv139 L139 X139 hQ139
        obtain ⟨rfl, Nq139, Kq139, Ex_a, Ex_ha, F_shares_a, F_held_a, F_size_a, V_sa, V_ha⟩ := hQ139
        have NF139 := Fr.app NF137 Nq139
        have Zs := Nat.le_trans Zs Kq139.1
        show G (T139.setTop (mkF m 136 _ []))
        refine g_iload hG X139 hx (hb hby at_136) (pc' := 138) rfl rfl ?_
        refine g_iconst hG X139 hx (hb hby at_138) (pc' := 139) rfl (v := (3 : Int32)) rfl ?_
        refine g_icmpNo hG X139 hx (hb hby at_139) (pc' := 142) (by decide) rfl ?_
        by_cases hk_v37_v17 : v37 = v17
        · have _hh := hk_v37_v17
          clear _hh
          have hk_v37_v17 := hk_v37_v17.symm
          subst hk_v37_v17
          refine g_aload hG X139 hx (hb hby at_142) (pc' := 144) rfl rfl rfl ?_
          refine g_iload hG X139 hx (hb hby at_144) (pc' := 146) rfl rfl ?_
          refine g_dload hG X139 hx (hb hby at_146) (pc' := 148) rfl rfl ?_
          obtain ⟨x140, hx140⟩ : ∃ z, Jvm.Native.java_lang_Math.nans.pick64 true x138 v73 = z := ⟨_, rfl⟩
          obtain ⟨cx140, Dx140, Px140⟩ := own_pk Dx138 D73 (Rat.le_of_lt Px138) P73
          rw [hx140] at Dx140
          refine g_callV hG X139 hx hZ (y := (⟨"org/termsieve/mapping/Shares", "raise", "(ID)V"⟩ : MethodName)) 0 hown (wd hw 15 rfl) (wd hw 16 rfl) (wd hw 18 rfl) (wd hw 17 rfl) (wd hw 2 rfl) (wd hw 19 rfl) (by decide) (rmRa4_1o l Z a0 hw [] a sa ha (upd (upd (fun _ => (0 : UInt64)) v17 x136) v17 x138) (upd (fun _ => (0 : Int32)) (0 : Int32) v17) v17 v73 x140 x138 T139.heap n0 Zs ⟨Ex_a, Ex_ha, F_shares_a, F_held_a, F_size_a, V_sa, V_ha⟩ ⟨ga, gsa, gha, d1, d2, d3⟩ ik0 D73.noNaN hx140 upd_same Dx138.noNaN (OwnFl.dcmp_gt Dx138 own_z Px138)) (by decide) (by decide) (by rw [hml]; rfl) pd_10 rfl (argsL := [(.int v17), (.double v73)]) (rest := []) rfl rfl (Nat.le_of_eq rfl) (hb hby at_148) rfl Ex_a (by decide) (by decide) (pc' := 151) rfl ?_
          intro T141 rv141 L141 X141 hQ141
          obtain ⟨rfl, Nq141, Kq141, Ex_a, Ex_ha, F_shares_a, F_held_a, F_size_a, V_sa, V_ha⟩ := hQ141
          have NF141 := Fr.app NF139 Nq141
          have Zs := Nat.le_trans Zs Kq141.1
          show G (T141.setTop (mkF m 151 _ []))
          refine g_aload hG X141 hx (hb hby at_151) (pc' := 153) rfl rfl rfl ?_
          refine g_callV hG X141 hx hZ (y := (⟨"org/termsieve/mapping/Shares", "clear", "()V"⟩ : MethodName)) 0 hown (wd hw 26 rfl) (wd hw 27 rfl) (wd hw 29 rfl) (wd hw 28 rfl) (wd hw 2 rfl) (wd hw 30 rfl) (by decide) (rmCl4_1 l Z a0 hw [] a sa ha (upd (upd (upd (fun _ => (0 : UInt64)) v17 x136) v17 x138) v17 x140) (upd (fun _ => (0 : Int32)) (0 : Int32) v17) v17 T141.heap n0 Zs ⟨Ex_a, Ex_ha, F_shares_a, F_held_a, F_size_a, V_sa, V_ha⟩ ⟨ga, gsa, gha, d1, d2, d3⟩ rfl ik0) (by decide) (by decide) (by rw [hml]; rfl) pd_12 rfl (argsL := []) (rest := []) rfl rfl (Nat.le_of_eq rfl) (hb hby at_153) rfl Ex_a (by decide) (by decide) (pc' := 156) rfl ?_
          intro T142 rv142 L142 X142 hQ142
          obtain ⟨rfl, Nq142, Kq142, Ex_a, Ex_ha, F_shares_a, F_held_a, F_size_a, V_sa, V_ha⟩ := hQ142
          have NF142 := Fr.app NF141 Nq142
          have Zs := Nat.le_trans Zs Kq142.1
          show G (T142.setTop (mkF m 156 _ []))
          exact JC _ _ _ (upd (upd (upd (upd (fun _ => (0 : UInt64)) v17 x136) v17 x138) v17 x140) v17 0) (upd (fun _ => (0 : Int32)) (0 : Int32) v17) (3 : Int32) v17 v17 v17 X142 rfl NF142 Zs  Ex_a Ex_ha F_shares_a F_held_a F_size_a V_sa V_ha (fun j _ => by first | rfl | (simp only [upd]; grind))
        · have _hh := hk_v37_v17
          refine g_aload hG X139 hx (hb hby at_142) (pc' := 144) rfl rfl rfl ?_
          refine g_iload hG X139 hx (hb hby at_144) (pc' := 146) rfl rfl ?_
          refine g_dload hG X139 hx (hb hby at_146) (pc' := 148) rfl rfl ?_
          obtain ⟨x143, hx143⟩ : ∃ z, Jvm.Native.java_lang_Math.nans.pick64 true 0 v73 = z := ⟨_, rfl⟩
          obtain ⟨cx143, Dx143, Px143⟩ := own_pk own_z D73 Rat.le_refl P73
          rw [hx143] at Dx143
          refine g_callV hG X139 hx hZ (y := (⟨"org/termsieve/mapping/Shares", "raise", "(ID)V"⟩ : MethodName)) 0 hown (wd hw 15 rfl) (wd hw 16 rfl) (wd hw 18 rfl) (wd hw 17 rfl) (wd hw 2 rfl) (wd hw 19 rfl) (by decide) (rmRa4_1n l Z a0 hw [] a sa ha (upd (upd (fun _ => (0 : UInt64)) v17 x136) v17 x138) (upd (fun _ => (0 : Int32)) (0 : Int32) v17) v37 v73 x143 T139.heap n0 Zs ⟨Ex_a, Ex_ha, F_shares_a, F_held_a, F_size_a, V_sa, V_ha⟩ ⟨ga, gsa, gha, d1, d2, d3⟩ ik2 D73.noNaN hx143 ((upd_ne hk_v37_v17).trans ((upd_ne hk_v37_v17).trans (rfl)))) (by decide) (by decide) (by rw [hml]; rfl) pd_10 rfl (argsL := [(.int v37), (.double v73)]) (rest := []) rfl rfl (Nat.le_of_eq rfl) (hb hby at_148) rfl Ex_a (by decide) (by decide) (pc' := 151) rfl ?_
          intro T144 rv144 L144 X144 hQ144
          obtain ⟨rfl, Nq144, Kq144, Ex_a, Ex_ha, F_shares_a, F_held_a, F_size_a, V_sa, V_ha⟩ := hQ144
          have NF144 := Fr.app NF139 Nq144
          have Zs := Nat.le_trans Zs Kq144.1
          show G (T144.setTop (mkF m 151 _ []))
          refine g_aload hG X144 hx (hb hby at_151) (pc' := 153) rfl rfl rfl ?_
          refine g_callV hG X144 hx hZ (y := (⟨"org/termsieve/mapping/Shares", "clear", "()V"⟩ : MethodName)) 0 hown (wd hw 26 rfl) (wd hw 27 rfl) (wd hw 29 rfl) (wd hw 28 rfl) (wd hw 2 rfl) (wd hw 30 rfl) (by decide) (rmCl4_2 l Z a0 hw [] a sa ha (upd (upd (upd (fun _ => (0 : UInt64)) v17 x136) v17 x138) v37 x143) (upd (upd (fun _ => (0 : Int32)) (0 : Int32) v17) (1 : Int32) v37) v17 v37 T144.heap n0 Zs ⟨Ex_a, Ex_ha, F_shares_a, F_held_a, F_size_a, V_sa, V_ha⟩ ⟨ga, gsa, gha, d1, d2, d3⟩ rfl ik0 rfl ik2) (by decide) (by decide) (by rw [hml]; rfl) pd_12 rfl (argsL := []) (rest := []) rfl rfl (Nat.le_of_eq rfl) (hb hby at_153) rfl Ex_a (by decide) (by decide) (pc' := 156) rfl ?_
          intro T145 rv145 L145 X145 hQ145
          obtain ⟨rfl, Nq145, Kq145, Ex_a, Ex_ha, F_shares_a, F_held_a, F_size_a, V_sa, V_ha⟩ := hQ145
          have NF145 := Fr.app NF144 Nq145
          have Zs := Nat.le_trans Zs Kq145.1
          show G (T145.setTop (mkF m 156 _ []))
          exact JC _ _ _ (upd (upd (upd (upd (upd (fun _ => (0 : UInt64)) v17 x136) v17 x138) v37 x143) v17 0) v37 0) (upd (upd (fun _ => (0 : Int32)) (0 : Int32) v17) (1 : Int32) v37) (3 : Int32) v17 v17 v37 X145 rfl NF145 Zs  Ex_a Ex_ha F_shares_a F_held_a F_size_a V_sa V_ha (fun j _ => by first | rfl | (simp only [upd]; grind))
      · have _hh := hk_v27_v17
        refine g_aload hG X137 hx (hb hby at_127) (pc' := 129) rfl rfl rfl ?_
        refine g_iload hG X137 hx (hb hby at_129) (pc' := 131) rfl rfl ?_
        refine g_dload hG X137 hx (hb hby at_131) (pc' := 133) rfl rfl ?_
        obtain ⟨x146, hx146⟩ : ∃ z, Jvm.Native.java_lang_Math.nans.pick64 true 0 v61 = z := ⟨_, rfl⟩
        obtain ⟨cx146, Dx146, Px146⟩ := own_pk own_z D61 Rat.le_refl P61
        rw [hx146] at Dx146
        refine g_callV hG X137 hx hZ (y := (⟨"org/termsieve/mapping/Shares", "raise", "(ID)V"⟩ : MethodName)) 0 hown (wd hw 15 rfl) (wd hw 16 rfl) (wd hw 18 rfl) (wd hw 17 rfl) (wd hw 2 rfl) (wd hw 19 rfl) (by decide) (rmRa4_1n l Z a0 hw [] a sa ha (upd (fun _ => (0 : UInt64)) v17 x136) (upd (fun _ => (0 : Int32)) (0 : Int32) v17) v27 v61 x146 T137.heap n0 Zs ⟨Ex_a, Ex_ha, F_shares_a, F_held_a, F_size_a, V_sa, V_ha⟩ ⟨ga, gsa, gha, d1, d2, d3⟩ ik1 D61.noNaN hx146 ((upd_ne hk_v27_v17).trans (rfl))) (by decide) (by decide) (by rw [hml]; rfl) pd_10 rfl (argsL := [(.int v27), (.double v61)]) (rest := []) rfl rfl (Nat.le_of_eq rfl) (hb hby at_133) rfl Ex_a (by decide) (by decide) (pc' := 136) rfl ?_
        intro T147 rv147 L147 X147 hQ147
        obtain ⟨rfl, Nq147, Kq147, Ex_a, Ex_ha, F_shares_a, F_held_a, F_size_a, V_sa, V_ha⟩ := hQ147
        have NF147 := Fr.app NF137 Nq147
        have Zs := Nat.le_trans Zs Kq147.1
        show G (T147.setTop (mkF m 136 _ []))
        refine g_iload hG X147 hx (hb hby at_136) (pc' := 138) rfl rfl ?_
        refine g_iconst hG X147 hx (hb hby at_138) (pc' := 139) rfl (v := (3 : Int32)) rfl ?_
        refine g_icmpNo hG X147 hx (hb hby at_139) (pc' := 142) (by decide) rfl ?_
        by_cases hk_v37_v17 : v37 = v17
        · have _hh := hk_v37_v17
          clear _hh
          have hk_v37_v17 := hk_v37_v17.symm
          subst hk_v37_v17
          refine g_aload hG X147 hx (hb hby at_142) (pc' := 144) rfl rfl rfl ?_
          refine g_iload hG X147 hx (hb hby at_144) (pc' := 146) rfl rfl ?_
          refine g_dload hG X147 hx (hb hby at_146) (pc' := 148) rfl rfl ?_
          obtain ⟨x148, hx148⟩ : ∃ z, Jvm.Native.java_lang_Math.nans.pick64 true x136 v73 = z := ⟨_, rfl⟩
          obtain ⟨cx148, Dx148, Px148⟩ := own_pk Dx136 D73 (Rat.le_of_lt Px136) P73
          rw [hx148] at Dx148
          refine g_callV hG X147 hx hZ (y := (⟨"org/termsieve/mapping/Shares", "raise", "(ID)V"⟩ : MethodName)) 0 hown (wd hw 15 rfl) (wd hw 16 rfl) (wd hw 18 rfl) (wd hw 17 rfl) (wd hw 2 rfl) (wd hw 19 rfl) (by decide) (rmRa4_2o l Z a0 hw [] a sa ha (upd (upd (fun _ => (0 : UInt64)) v17 x136) v27 x146) (upd (upd (fun _ => (0 : Int32)) (0 : Int32) v17) (1 : Int32) v27) v17 v73 x148 x136 T147.heap n0 Zs ⟨Ex_a, Ex_ha, F_shares_a, F_held_a, F_size_a, V_sa, V_ha⟩ ⟨ga, gsa, gha, d1, d2, d3⟩ ik0 D73.noNaN hx148 ((upd_ne (fun z => hk_v27_v17 z.symm)).trans (upd_same)) Dx136.noNaN (OwnFl.dcmp_gt Dx136 own_z Px136)) (by decide) (by decide) (by rw [hml]; rfl) pd_10 rfl (argsL := [(.int v17), (.double v73)]) (rest := []) rfl rfl (Nat.le_of_eq rfl) (hb hby at_148) rfl Ex_a (by decide) (by decide) (pc' := 151) rfl ?_
          intro T149 rv149 L149 X149 hQ149
          obtain ⟨rfl, Nq149, Kq149, Ex_a, Ex_ha, F_shares_a, F_held_a, F_size_a, V_sa, V_ha⟩ := hQ149
          have NF149 := Fr.app NF147 Nq149
          have Zs := Nat.le_trans Zs Kq149.1
          show G (T149.setTop (mkF m 151 _ []))
          refine g_aload hG X149 hx (hb hby at_151) (pc' := 153) rfl rfl rfl ?_
          refine g_callV hG X149 hx hZ (y := (⟨"org/termsieve/mapping/Shares", "clear", "()V"⟩ : MethodName)) 0 hown (wd hw 26 rfl) (wd hw 27 rfl) (wd hw 29 rfl) (wd hw 28 rfl) (wd hw 2 rfl) (wd hw 30 rfl) (by decide) (rmCl4_2 l Z a0 hw [] a sa ha (upd (upd (upd (fun _ => (0 : UInt64)) v17 x136) v27 x146) v17 x148) (upd (upd (fun _ => (0 : Int32)) (0 : Int32) v17) (1 : Int32) v27) v17 v27 T149.heap n0 Zs ⟨Ex_a, Ex_ha, F_shares_a, F_held_a, F_size_a, V_sa, V_ha⟩ ⟨ga, gsa, gha, d1, d2, d3⟩ rfl ik0 rfl ik1) (by decide) (by decide) (by rw [hml]; rfl) pd_12 rfl (argsL := []) (rest := []) rfl rfl (Nat.le_of_eq rfl) (hb hby at_153) rfl Ex_a (by decide) (by decide) (pc' := 156) rfl ?_
          intro T150 rv150 L150 X150 hQ150
          obtain ⟨rfl, Nq150, Kq150, Ex_a, Ex_ha, F_shares_a, F_held_a, F_size_a, V_sa, V_ha⟩ := hQ150
          have NF150 := Fr.app NF149 Nq150
          have Zs := Nat.le_trans Zs Kq150.1
          show G (T150.setTop (mkF m 156 _ []))
          exact JC _ _ _ (upd (upd (upd (upd (upd (fun _ => (0 : UInt64)) v17 x136) v27 x146) v17 x148) v17 0) v27 0) (upd (upd (fun _ => (0 : Int32)) (0 : Int32) v17) (1 : Int32) v27) (3 : Int32) v17 v27 v17 X150 rfl NF150 Zs  Ex_a Ex_ha F_shares_a F_held_a F_size_a V_sa V_ha (fun j _ => by first | rfl | (simp only [upd]; grind))
        · have _hh := hk_v37_v17
          by_cases hk_v37_v27 : v37 = v27
          · have _hh := hk_v37_v27
            clear _hh
            have hk_v37_v27 := hk_v37_v27.symm
            subst hk_v37_v27
            refine g_aload hG X147 hx (hb hby at_142) (pc' := 144) rfl rfl rfl ?_
            refine g_iload hG X147 hx (hb hby at_144) (pc' := 146) rfl rfl ?_
            refine g_dload hG X147 hx (hb hby at_146) (pc' := 148) rfl rfl ?_
            obtain ⟨x151, hx151⟩ : ∃ z, Jvm.Native.java_lang_Math.nans.pick64 true x146 v73 = z := ⟨_, rfl⟩
            obtain ⟨cx151, Dx151, Px151⟩ := own_pk Dx146 D73 (Rat.le_of_lt Px146) P73
            rw [hx151] at Dx151
            refine g_callV hG X147 hx hZ (y := (⟨"org/termsieve/mapping/Shares", "raise", "(ID)V"⟩ : MethodName)) 0 hown (wd hw 15 rfl) (wd hw 16 rfl) (wd hw 18 rfl) (wd hw 17 rfl) (wd hw 2 rfl) (wd hw 19 rfl) (by decide) (rmRa4_2o l Z a0 hw [] a sa ha (upd (upd (fun _ => (0 : UInt64)) v17 x136) v27 x146) (upd (upd (fun _ => (0 : Int32)) (0 : Int32) v17) (1 : Int32) v27) v27 v73 x151 x146 T147.heap n0 Zs ⟨Ex_a, Ex_ha, F_shares_a, F_held_a, F_size_a, V_sa, V_ha⟩ ⟨ga, gsa, gha, d1, d2, d3⟩ ik1 D73.noNaN hx151 upd_same Dx146.noNaN (OwnFl.dcmp_gt Dx146 own_z Px146)) (by decide) (by decide) (by rw [hml]; rfl) pd_10 rfl (argsL := [(.int v27), (.double v73)]) (rest := []) rfl rfl (Nat.le_of_eq rfl) (hb hby at_148) rfl Ex_a (by decide) (by decide) (pc' := 151) rfl ?_
            intro T152 rv152 L152 X152 hQ152
            obtain ⟨rfl, Nq152, Kq152, Ex_a, Ex_ha, F_shares_a, F_held_a, F_size_a, V_sa, V_ha⟩ := hQ152
            have NF152 := Fr.app NF147 Nq152
            have Zs := Nat.le_trans Zs Kq152.1
            show G (T152.setTop (mkF m 151 _ []))
            refine g_aload hG X152 hx (hb hby at_151) (pc' := 153) rfl rfl rfl ?_
            refine g_callV hG X152 hx hZ (y := (⟨"org/termsieve/mapping/Shares", "clear", "()V"⟩ : MethodName)) 0 hown (wd hw 26 rfl) (wd hw 27 rfl) (wd hw 29 rfl) (wd hw 28 rfl) (wd hw 2 rfl) (wd hw 30 rfl) (by decide) (rmCl4_2 l Z a0 hw [] a sa ha (upd (upd (upd (fun _ => (0 : UInt64)) v17 x136) v27 x146) v27 x151) (upd (upd (fun _ => (0 : Int32)) (0 : Int32) v17) (1 : Int32) v27) v17 v27 T152.heap n0 Zs ⟨Ex_a, Ex_ha, F_shares_a, F_held_a, F_size_a, V_sa, V_ha⟩ ⟨ga, gsa, gha, d1, d2, d3⟩ rfl ik0 rfl ik1) (by decide) (by decide) (by rw [hml]; rfl) pd_12 rfl (argsL := []) (rest := []) rfl rfl (Nat.le_of_eq rfl) (hb hby at_153) rfl Ex_a (by decide) (by decide) (pc' := 156) rfl ?_
            intro T153 rv153 L153 X153 hQ153
            obtain ⟨rfl, Nq153, Kq153, Ex_a, Ex_ha, F_shares_a, F_held_a, F_size_a, V_sa, V_ha⟩ := hQ153
            have NF153 := Fr.app NF152 Nq153
            have Zs := Nat.le_trans Zs Kq153.1
            show G (T153.setTop (mkF m 156 _ []))
            exact JC _ _ _ (upd (upd (upd (upd (upd (fun _ => (0 : UInt64)) v17 x136) v27 x146) v27 x151) v17 0) v27 0) (upd (upd (fun _ => (0 : Int32)) (0 : Int32) v17) (1 : Int32) v27) (3 : Int32) v17 v27 v27 X153 rfl NF153 Zs  Ex_a Ex_ha F_shares_a F_held_a F_size_a V_sa V_ha (fun j _ => by first | rfl | (simp only [upd]; grind))
          · have _hh := hk_v37_v27
            refine g_aload hG X147 hx (hb hby at_142) (pc' := 144) rfl rfl rfl ?_
            refine g_iload hG X147 hx (hb hby at_144) (pc' := 146) rfl rfl ?_
            refine g_dload hG X147 hx (hb hby at_146) (pc' := 148) rfl rfl ?_
            obtain ⟨x154, hx154⟩ : ∃ z, Jvm.Native.java_lang_Math.nans.pick64 true 0 v73 = z := ⟨_, rfl⟩
            obtain ⟨cx154, Dx154, Px154⟩ := own_pk own_z D73 Rat.le_refl P73
            rw [hx154] at Dx154
            refine g_callV hG X147 hx hZ (y := (⟨"org/termsieve/mapping/Shares", "raise", "(ID)V"⟩ : MethodName)) 0 hown (wd hw 15 rfl) (wd hw 16 rfl) (wd hw 18 rfl) (wd hw 17 rfl) (wd hw 2 rfl) (wd hw 19 rfl) (by decide) (rmRa4_2n l Z a0 hw [] a sa ha (upd (upd (fun _ => (0 : UInt64)) v17 x136) v27 x146) (upd (upd (fun _ => (0 : Int32)) (0 : Int32) v17) (1 : Int32) v27) v37 v73 x154 T147.heap n0 Zs ⟨Ex_a, Ex_ha, F_shares_a, F_held_a, F_size_a, V_sa, V_ha⟩ ⟨ga, gsa, gha, d1, d2, d3⟩ ik2 D73.noNaN hx154 ((upd_ne hk_v37_v27).trans ((upd_ne hk_v37_v17).trans (rfl)))) (by decide) (by decide) (by rw [hml]; rfl) pd_10 rfl (argsL := [(.int v37), (.double v73)]) (rest := []) rfl rfl (Nat.le_of_eq rfl) (hb hby at_148) rfl Ex_a (by decide) (by decide) (pc' := 151) rfl ?_
            intro T155 rv155 L155 X155 hQ155
            obtain ⟨rfl, Nq155, Kq155, Ex_a, Ex_ha, F_shares_a, F_held_a, F_size_a, V_sa, V_ha⟩ := hQ155
            have NF155 := Fr.app NF147 Nq155
            have Zs := Nat.le_trans Zs Kq155.1
            show G (T155.setTop (mkF m 151 _ []))
            refine g_aload hG X155 hx (hb hby at_151) (pc' := 153) rfl rfl rfl ?_
            refine g_callV hG X155 hx hZ (y := (⟨"org/termsieve/mapping/Shares", "clear", "()V"⟩ : MethodName)) 0 hown (wd hw 26 rfl) (wd hw 27 rfl) (wd hw 29 rfl) (wd hw 28 rfl) (wd hw 2 rfl) (wd hw 30 rfl) (by decide) (rmCl4_3 l Z a0 hw [] a sa ha (upd (upd (upd (fun _ => (0 : UInt64)) v17 x136) v27 x146) v37 x154) (upd (upd (upd (fun _ => (0 : Int32)) (0 : Int32) v17) (1 : Int32) v27) (2 : Int32) v37) v17 v27 v37 T155.heap n0 Zs ⟨Ex_a, Ex_ha, F_shares_a, F_held_a, F_size_a, V_sa, V_ha⟩ ⟨ga, gsa, gha, d1, d2, d3⟩ rfl ik0 rfl ik1 rfl ik2) (by decide) (by decide) (by rw [hml]; rfl) pd_12 rfl (argsL := []) (rest := []) rfl rfl (Nat.le_of_eq rfl) (hb hby at_153) rfl Ex_a (by decide) (by decide) (pc' := 156) rfl ?_
            intro T156 rv156 L156 X156 hQ156
            obtain ⟨rfl, Nq156, Kq156, Ex_a, Ex_ha, F_shares_a, F_held_a, F_size_a, V_sa, V_ha⟩ := hQ156
            have NF156 := Fr.app NF155 Nq156
            have Zs := Nat.le_trans Zs Kq156.1
            show G (T156.setTop (mkF m 156 _ []))
            exact JC _ _ _ (upd (upd (upd (upd (upd (upd (fun _ => (0 : UInt64)) v17 x136) v27 x146) v37 x154) v17 0) v27 0) v37 0) (upd (upd (upd (fun _ => (0 : Int32)) (0 : Int32) v17) (1 : Int32) v27) (2 : Int32) v37) (3 : Int32) v17 v27 v37 X156 rfl NF156 Zs  Ex_a Ex_ha F_shares_a F_held_a F_size_a V_sa V_ha (fun j _ => by first | rfl | (simp only [upd]; grind))
set_option maxRecDepth 65536 in
set_option maxHeartbeats 40000000 in
theorem comes_1 {Post : Tables → Env → Array Value → State → Outcome → State → Prop} (hpost : ∀ tb e args s v u, (limb_1_1.after args s (.returned v) u = true ∧ limb_1_2.after args s (.returned v) u = true ∧ True) → FrameEnd s (.returned v) u (Jvm.fieldLocs frame_1_writes args s ++ Jvm.arrayLocs frame_1_arrays args s ++ Jvm.staticLocs frame_1_statics s) 24 128 → Post tb e args s (.returned v) u) :
    ArmFor flags0 classFile x code maxLocals ret World_1 tables_1 room_1 Calls_1 rest_1 Pre_1 Post := by
  intro l hfl _ _ p e ha hc hk s m args below hf hA hF happ hP
  obtain ⟨hcalls, hrest, hpre⟩ := hP
  obtain ⟨-, -, -, hnamed, -, -, -, hat⟩ := (Spec.applies_iff hf).mp happ
  obtain ⟨hg, hn⟩ := and_e (Cond.before_iff.mp (show (Jvm.Cond.and given_1 narrow_1).before args s = true from hpre))
  obtain ⟨hcount, ha_0⟩ := and_e hg
  obtain ⟨hb_0, ha_1⟩ := and_e ha_0
  obtain ⟨hb_1, ha_2⟩ := and_e ha_1
  obtain ⟨hb_2, ha_3⟩ := and_e ha_2
  have hb_3 := ha_3
  obtain ⟨w0, w1, w2, w3, rfl⟩ : ∃ w0 w1 w2 w3 : Value, args = #[w0, w1, w2, w3] := by
    have hs : args.size = 4 := by simpa [Cond.value, given_1] using hcount
    obtain ⟨L⟩ := args
    match L, hs with
    | [w0, w1, w2, w3], _ => exact ⟨w0, w1, w2, w3, rfl⟩
  have hw := fun d (hd : d ∈ tables_1) => atoms_spec (ws := Jvm.Cond.code x code maxLocals ret :: tables_1) hat d (List.mem_cons_of_mem _ hd)
  obtain ⟨i0, ei0⟩ := is_v hb_0
  obtain rfl : w0 = (.int i0) := Option.some.inj ei0
  obtain ⟨i1, ei1⟩ := is_v hb_1
  obtain rfl : w1 = (.int i1) := Option.some.inj ei1
  obtain ⟨i2, ei2⟩ := is_v hb_2
  obtain rfl : w2 = (.int i2) := Option.some.inj ei2
  obtain ⟨i3, ei3⟩ := is_v hb_3
  obtain rfl : w3 = (.int i3) := Option.some.inj ei3
  obtain ⟨n, o, h1, h2, h3, _, L, rfl, ⟨rfl, N⟩, hq⟩ := rm0 l s _ hw tables_1 i0 i1 i2 i3 s.heap s.heap.size (Nat.le_refl _)  p e ha hc hk s m _ below hf ((Spec.applies_iff_loose hf).mp happ).1 ⟨rfl, State.Warmed39.refl s, rfl⟩ trivial
  refine ⟨n, _, h1, h2, h3, hpost _ _ _ _ _ _ ⟨Cond.after_iff.mpr rfl, Cond.after_iff.mpr (eq_i res_at (Term.int_eval (1)) rfl), trivial⟩ ⟨hq.1, hq.2.1, (hq.2.2.sift fun y hy => Or.inr (N y hy)).mono (by decide) (by decide)⟩⟩
theorem main_1_1 : Claimed_1_1 := comes_1 fun _ _ _ _ _ _ h hF => ⟨h.1, hF⟩
theorem main_1_2 : Claimed_1_2 := comes_1 fun _ _ _ _ _ _ h hF => ⟨h.2.1, hF⟩
end Jvm.Pilot.@@N@@
namespace Jvm.Pilot.@@N@@
open Jvm Jvm.ClassFile Sem Op Lib Jvm.Free Jvm.Stand Jvm.Pilot.@@N@@.Jvm.D
/-! MADE BY PROGRAM (witnessworld.py) out of the Statement's table words and the real class files: 15 classes; the members and pool entries that the words name. The judged class is class 1, her method 1. -/
namespace start1
open Jvm.ClassFile
def u (s : String) : CpInfo := .utf8 (stringToUtf16 s)
/-- a pool by its gaps: so many unusable entries, then the entry; so many at the end -/
def gap : Nat → List CpInfo → List CpInfo
  | 0, r => r
  | n + 1, r => .unusable :: gap n r
def poolList (es : List (Nat × CpInfo)) (last : Nat) : List CpInfo := es.foldr (fun e r => gap e.1 (e.2 :: r)) (gap last [])
def pool (es : List (Nat × CpInfo)) (last : Nat) : Array CpInfo := ⟨poolList es last⟩
def fileOf (pool : Array CpInfo) (this : Nat) (attrs : Array Attribute := #[]) (ms : Array MethodInfo := #[]) (fl : Nat := 33) (sup : Nat := 0) (ifs : Array Nat := #[]) (fds : Array FieldInfo := #[]) : ClassFile where
  minorVersion := 0
  majorVersion := 65
  constantPool := pool
  accessFlags := fl
  thisClass := this
  superClass := sup
  interfaces := ifs
  fields := fds
  methods := ms
  attributes := attrs
def plain (name : String) (sup : Option ClassId) : Class where
  name := name
  kind := .ordinary
  loader := none
  accessFlags := 33
  super := sup
  interfaces := #[]
  cf := none
  fields := #[]
  methods := #[]
  instanceTypes := #[]
  staticTypes := #[]
  resolved := #[]
  callSites := []
  init := .initialized
  statics := none
  mirror := none

def pool0 : Array CpInfo := pool [(5, u "<init>"), (0, u "()V"), (1, .class_ 10), (1, u "java/lang/Object"), (85, u "clone"), (0, u "()Ljava/lang/Object;")] 26

def k0c0 : Code := { maxStack := 0, maxLocals := 1, code := object_method_1_code, exceptionTable := #[], attributes := #[] }
def k0m0 : Method := { name := "<init>", desc := "()V", sig := { parameters := [], returnType := none }, accessFlags := 1, code := some k0c0 }
def k0m1 : Method := { name := "clone", desc := "()Ljava/lang/Object;", sig := { parameters := [], returnType := some (.object "java/lang/Object") }, accessFlags := 260, code := none }
/-- java/lang/Object -/
def k0 : Class := { plain "java/lang/Object" none with
  accessFlags := 33
  interfaces := #[]
  cf := some (fileOf pool0 8 #[] #[{ accessFlags := 1, nameIndex := 5, descriptorIndex := 6, attributes := #[] }, { accessFlags := 260, nameIndex := 96, descriptorIndex := 97, attributes := #[] }] 33 0 #[] #[])
  fields := #[]
  methods := #[k0m0, k0m1]
  instanceTypes := #[]
  staticTypes := #[]
  resolved := Array.replicate 124 none
  statics := none }

def pool1 : Array CpInfo := pool [(2, .class_ 4), (1, u "java/lang/Object"), (0, u "<init>"), (0, u "()V"), (0, .class_ 8), (0, u "org/termsieve/mapping/Shares"), (0, .methodref 7 10), (0, .nameAndType 5 11), (0, u "(I)V"), (0, .methodref 7 13), (0, .nameAndType 14 15), (0, u "raise"), (0, u "(ID)V"), (0, .methodref 7 17), (0, .nameAndType 18 6), (0, u "clear"), (0, .methodref 7 20), (0, .nameAndType 21 22), (0, u "held"), (0, u "()[I"), (0, .methodref 24 25), (0, .class_ 26), (0, .nameAndType 27 28), (0, u "org/termsieve/mapping/SharesClearPinLaw"), (0, u "at"), (0, u "(Lorg/termsieve/mapping/Shares;IIID)Z"), (0, .methodref 7 30), (0, .nameAndType 31 32), (0, u "share"), (0, u "(I)D"), (2, u "law"), (0, u "(IIII)Z")] 5

def k1m0 : Method := { name := "<init>", desc := "()V", sig := { parameters := [], returnType := none }, accessFlags := 1, code := none }
def k1c1 : Code := { maxStack := 6, maxLocals := 21, code := code, exceptionTable := #[], attributes := #[] }
def k1m1 : Method := { name := "law", desc := "(IIII)Z", sig := { parameters := [.int, .int, .int, .int], returnType := some .boolean }, accessFlags := 9, code := some k1c1 }
def k1c2 : Code := { maxStack := 4, maxLocals := 8, code := method_3_code, exceptionTable := #[], attributes := #[] }
def k1m2 : Method := { name := "at", desc := "(Lorg/termsieve/mapping/Shares;IIID)Z", sig := { parameters := [(.object "org/termsieve/mapping/Shares"), .int, .int, .int, .double], returnType := some .boolean }, accessFlags := 10, code := some k1c2 }
/-- org/termsieve/mapping/SharesClearPinLaw -/
def k1 : Class := { plain "org/termsieve/mapping/SharesClearPinLaw" (some 0) with
  accessFlags := 49
  interfaces := #[]
  cf := some (fileOf pool1 24 #[] #[{ accessFlags := 1, nameIndex := 5, descriptorIndex := 6, attributes := #[] }, { accessFlags := 9, nameIndex := 35, descriptorIndex := 36, attributes := #[] }, { accessFlags := 10, nameIndex := 27, descriptorIndex := 28, attributes := #[] }] 49 2 #[] #[])
  fields := #[]
  methods := #[k1m0, k1m1, k1m2]
  instanceTypes := #[]
  staticTypes := #[]
  resolved := Array.replicate 42 none
  statics := none }

def pool2 : Array CpInfo := pool [(1, .methodref 2 3), (0, .class_ 4), (0, .nameAndType 5 6), (0, u "java/lang/Object"), (0, u "<init>"), (0, u "()V"), (0, .fieldref 8 9), (0, .class_ 10), (0, .nameAndType 11 12), (0, u "org/termsieve/mapping/Shares"), (0, u "shares"), (0, u "[D"), (0, .fieldref 8 14), (0, .nameAndType 15 16), (0, u "held"), (0, u "[I"), (0, .fieldref 8 18), (0, .nameAndType 19 20), (0, u "size"), (0, u "I"), (0, .methodref 22 23), (0, .class_ 24), (0, .nameAndType 25 26), (0, u "java/lang/Math"), (0, u "max"), (0, u "(DD)D"), (2, u "raise"), (0, u "(ID)V"), (0, .methodref 32 33), (0, .class_ 34), (0, .nameAndType 35 36), (0, u "java/util/Arrays"), (0, u "copyOf"), (0, u "([II)[I"), (0, .methodref 32 38), (0, .nameAndType 39 40), (0, u "sort"), (0, u "([I)V"), (0, u "(I)V"), (4, u "clear"), (0, u "share"), (0, u "(I)D"), (0, u "()[I")] 2

def k2c0 : Code := { maxStack := 2, maxLocals := 2, code := prog_78_method_1_code, exceptionTable := #[], attributes := #[] }
def k2m0 : Method := { name := "<init>", desc := "(I)V", sig := { parameters := [.int], returnType := none }, accessFlags := 0, code := some k2c0 }
def k2c1 : Code := { maxStack := 6, maxLocals := 4, code := prog_78_method_2_code, exceptionTable := #[], attributes := #[] }
def k2m1 : Method := { name := "raise", desc := "(ID)V", sig := { parameters := [.int, .double], returnType := none }, accessFlags := 0, code := some k2c1 }
def k2c2 : Code := { maxStack := 4, maxLocals := 2, code := prog_78_method_4_code, exceptionTable := #[], attributes := #[] }
def k2m2 : Method := { name := "clear", desc := "()V", sig := { parameters := [], returnType := none }, accessFlags := 0, code := some k2c2 }
def k2c3 : Code := { maxStack := 2, maxLocals := 2, code := prog_78_method_5_code, exceptionTable := #[], attributes := #[] }
def k2m3 : Method := { name := "share", desc := "(I)D", sig := { parameters := [.int], returnType := some .double }, accessFlags := 0, code := some k2c3 }
def k2c4 : Code := { maxStack := 2, maxLocals := 2, code := prog_78_method_6_code, exceptionTable := #[], attributes := #[] }
def k2m4 : Method := { name := "held", desc := "()[I", sig := { parameters := [], returnType := some (.array .int) }, accessFlags := 0, code := some k2c4 }
/-- org/termsieve/mapping/Shares -/
def k2 : Class := { plain "org/termsieve/mapping/Shares" (some 0) with
  accessFlags := 48
  interfaces := #[]
  cf := some (fileOf pool2 8 #[] #[{ accessFlags := 0, nameIndex := 5, descriptorIndex := 41, attributes := #[] }, { accessFlags := 0, nameIndex := 29, descriptorIndex := 30, attributes := #[] }, { accessFlags := 0, nameIndex := 46, descriptorIndex := 6, attributes := #[] }, { accessFlags := 0, nameIndex := 47, descriptorIndex := 48, attributes := #[] }, { accessFlags := 0, nameIndex := 15, descriptorIndex := 49, attributes := #[] }] 48 2 #[] #[{ accessFlags := 18, nameIndex := 11, descriptorIndex := 12, attributes := #[] }, { accessFlags := 18, nameIndex := 15, descriptorIndex := 16, attributes := #[] }, { accessFlags := 2, nameIndex := 19, descriptorIndex := 20, attributes := #[] }])
  fields := #[{ name := "shares", type := (.array .double), accessFlags := 18, slot := 0, constantValue := 0 }, { name := "held", type := (.array .int), accessFlags := 18, slot := 1, constantValue := 0 }, { name := "size", type := .int, accessFlags := 2, slot := 2, constantValue := 0 }]
  methods := #[k2m0, k2m1, k2m2, k2m3, k2m4]
  instanceTypes := #[(.array .double), (.array .int), .int]
  staticTypes := #[]
  resolved := Array.replicate 52 none
  statics := none }

def pool3 : Array CpInfo := pool [(1, .class_ 2), (0, u "java/lang/Math"), (1, .class_ 6), (1, u "java/lang/Object"), (0, u "<init>"), (0, u "()V"), (43, u "(DD)D"), (45, .class_ 100), (1, u "java/lang/Math$RandomNumberGeneratorHolder"), (71, u "negativeZeroFloatBits"), (0, u "J"), (2, u "negativeZeroDoubleBits"), (21, u "max"), (2, u "min"), (43, u "$assertionsDisabled"), (0, u "Z"), (88, u "(II)I"), (2, u "twoToTheDoubleScaleDown"), (0, u "D"), (4, u "twoToTheDoubleScaleUp"), (9, u "E"), (3, u "PI"), (2, u "TAU"), (2, u "DEGREES_TO_RADIANS"), (0, u "RADIANS_TO_DEGREES")] 94

def k3m0 : Method := { name := "<init>", desc := "()V", sig := { parameters := [], returnType := none }, accessFlags := 2, code := none }
def k3c1 : Code := { maxStack := 4, maxLocals := 4, code := jdk_29_method_68_code, exceptionTable := #[], attributes := #[] }
def k3m1 : Method := { name := "max", desc := "(DD)D", sig := { parameters := [.double, .double], returnType := some .double }, accessFlags := 9, code := some k3c1 }
def k3c2 : Code := { maxStack := 2, maxLocals := 2, code := jdk_29_method_69_code, exceptionTable := #[], attributes := #[] }
def k3m2 : Method := { name := "min", desc := "(II)I", sig := { parameters := [.int, .int], returnType := some .int }, accessFlags := 9, code := some k3c2 }
/-- java/lang/Math -/
def k3 : Class := { plain "java/lang/Math" (some 0) with
  accessFlags := 49
  interfaces := #[]
  cf := some (fileOf pool3 1 #[.nestMembers #[98]] #[{ accessFlags := 2, nameIndex := 7, descriptorIndex := 8, attributes := #[] }, { accessFlags := 9, nameIndex := 198, descriptorIndex := 52, attributes := #[] }, { accessFlags := 9, nameIndex := 201, descriptorIndex := 335, attributes := #[] }] 49 4 #[] #[{ accessFlags := 25, nameIndex := 354, descriptorIndex := 339, attributes := #[] }, { accessFlags := 25, nameIndex := 358, descriptorIndex := 339, attributes := #[] }, { accessFlags := 25, nameIndex := 361, descriptorIndex := 339, attributes := #[] }, { accessFlags := 26, nameIndex := 364, descriptorIndex := 339, attributes := #[] }, { accessFlags := 26, nameIndex := 365, descriptorIndex := 339, attributes := #[] }, { accessFlags := 26, nameIndex := 172, descriptorIndex := 173, attributes := #[] }, { accessFlags := 26, nameIndex := 176, descriptorIndex := 173, attributes := #[] }, { accessFlags := 8, nameIndex := 344, descriptorIndex := 339, attributes := #[] }, { accessFlags := 8, nameIndex := 338, descriptorIndex := 339, attributes := #[] }, { accessFlags := 4120, nameIndex := 245, descriptorIndex := 246, attributes := #[] }])
  fields := #[{ name := "E", type := .double, accessFlags := 25, slot := 0, constantValue := 0 }, { name := "PI", type := .double, accessFlags := 25, slot := 1, constantValue := 0 }, { name := "TAU", type := .double, accessFlags := 25, slot := 2, constantValue := 0 }, { name := "DEGREES_TO_RADIANS", type := .double, accessFlags := 26, slot := 3, constantValue := 0 }, { name := "RADIANS_TO_DEGREES", type := .double, accessFlags := 26, slot := 4, constantValue := 0 }, { name := "negativeZeroFloatBits", type := .long, accessFlags := 26, slot := 5, constantValue := 0 }, { name := "negativeZeroDoubleBits", type := .long, accessFlags := 26, slot := 6, constantValue := 0 }, { name := "twoToTheDoubleScaleUp", type := .double, accessFlags := 8, slot := 7, constantValue := 0 }, { name := "twoToTheDoubleScaleDown", type := .double, accessFlags := 8, slot := 8, constantValue := 0 }, { name := "$assertionsDisabled", type := .boolean, accessFlags := 4120, slot := 9, constantValue := 0 }]
  methods := #[k3m0, k3m1, k3m2]
  instanceTypes := #[]
  staticTypes := #[.double, .double, .double, .double, .double, .long, .long, .double, .double, .boolean]
  resolved := Array.replicate 460 none
  statics := none }

def pool4 : Array CpInfo := pool [(2, .class_ 4), (1, u "java/lang/Object"), (0, u "<init>"), (0, u "()V"), (0, .methodref 8 9), (0, .class_ 10), (0, .nameAndType 11 12), (0, u "java/util/DualPivotQuicksort"), (0, u "sort"), (0, u "([IIII)V"), (1, .class_ 16), (1, u "java/util/Arrays"), (57, .class_ 76), (1, u "java/util/Arrays$NaturalOrder"), (32, u "()Ljava/lang/Object;"), (3, .class_ 115), (1, u "java/util/Arrays$LegacyMergeSort"), (1, u "Z"), (10, .nameAndType 129 109), (0, u "clone"), (20, .methodref 151 152), (0, .class_ 153), (0, .nameAndType 154 155), (0, u "java/lang/System"), (0, u "arraycopy"), (0, u "(Ljava/lang/Object;ILjava/lang/Object;II)V"), (146, u "copyOf"), (1, .methodref 305 306), (0, .class_ 307), (0, .nameAndType 308 309), (0, u "java/lang/Math"), (0, u "min"), (0, u "(II)I"), (6, .methodref 317 128), (0, .class_ 318), (0, u "[I"), (56, .class_ 376), (0, u "java/util/Arrays$ArrayList"), (68, u "$assertionsDisabled"), (269, u "MIN_ARRAY_SORT_GRAN"), (0, u "I"), (2, u "INSERTIONSORT_THRESHOLD"), (6, u "([I)V"), (144, u "([II)[I"), (103, .class_ 976), (0, u "java/util/Arrays$ArrayItr")] 52

def k4m0 : Method := { name := "<init>", desc := "()V", sig := { parameters := [], returnType := none }, accessFlags := 2, code := none }
def k4c1 : Code := { maxStack := 4, maxLocals := 1, code := jdk_65_method_2_code, exceptionTable := #[], attributes := #[] }
def k4m1 : Method := { name := "sort", desc := "([I)V", sig := { parameters := [(.array .int)], returnType := none }, accessFlags := 9, code := some k4c1 }
def k4c2 : Code := { maxStack := 6, maxLocals := 3, code := jdk_65_method_123_code, exceptionTable := #[], attributes := #[] }
def k4m2 : Method := { name := "copyOf", desc := "([II)[I", sig := { parameters := [(.array .int), .int], returnType := some (.array .int) }, accessFlags := 9, code := some k4c2 }
/-- java/util/Arrays -/
def k4 : Class := { plain "java/util/Arrays" (some 0) with
  accessFlags := 49
  interfaces := #[]
  cf := some (fileOf pool4 14 #[.nestMembers #[975, 375, 113, 74]] #[{ accessFlags := 2, nameIndex := 5, descriptorIndex := 6, attributes := #[] }, { accessFlags := 9, nameIndex := 11, descriptorIndex := 726, attributes := #[] }, { accessFlags := 9, nameIndex := 302, descriptorIndex := 871, attributes := #[] }] 49 2 #[] #[{ accessFlags := 26, nameIndex := 715, descriptorIndex := 716, attributes := #[] }, { accessFlags := 26, nameIndex := 719, descriptorIndex := 716, attributes := #[] }, { accessFlags := 4120, nameIndex := 445, descriptorIndex := 117, attributes := #[] }])
  fields := #[{ name := "MIN_ARRAY_SORT_GRAN", type := .int, accessFlags := 26, slot := 0, constantValue := 0 }, { name := "INSERTIONSORT_THRESHOLD", type := .int, accessFlags := 26, slot := 1, constantValue := 0 }, { name := "$assertionsDisabled", type := .boolean, accessFlags := 4120, slot := 2, constantValue := 0 }]
  methods := #[k4m0, k4m1, k4m2]
  instanceTypes := #[]
  staticTypes := #[.int, .int, .boolean]
  resolved := Array.replicate 1029 none
  statics := none }

def pool5 : Array CpInfo := pool [(2, .class_ 4), (1, u "java/lang/Object"), (0, u "<init>"), (0, u "()V"), (1, .class_ 10), (1, u "java/lang/System"), (0, u "allowSecurityManager"), (0, u "I"), (16, u "cons"), (0, u "Ljava/io/Console;"), (77, .class_ 110), (1, u "java/lang/System$CallersHolder"), (43, u "initialErrStream"), (0, u "Ljava/io/PrintStream;"), (19, u "security"), (0, u "Ljava/lang/SecurityManager;"), (31, .class_ 209), (0, u "java/lang/System$1"), (7, u "props"), (0, u "Ljava/util/Properties;"), (2, u "lineSeparator"), (0, u "Ljava/lang/String;"), (96, .class_ 321), (1, u "java/lang/System$LoggerFinder"), (5, .class_ 328), (0, u "java/lang/System$Logger"), (67, u "err"), (2, u "out"), (91, u "notSupportedJnuEncoding"), (15, u "in"), (17, u "initialIn"), (0, u "Ljava/io/InputStream;"), (35, u "bootLayer"), (0, u "Ljava/lang/ModuleLayer;"), (99, .class_ 664), (0, u "java/lang/System$2"), (9, u "NEVER"), (2, u "MAYBE"), (49, u "arraycopy"), (0, u "(Ljava/lang/Object;ILjava/lang/Object;II)V"), (72, .class_ 802), (0, u "java/lang/System$Logger$Level")] 31

def k5m0 : Method := { name := "<init>", desc := "()V", sig := { parameters := [], returnType := none }, accessFlags := 2, code := none }
def k5m1 : Method := { name := "arraycopy", desc := "(Ljava/lang/Object;ILjava/lang/Object;II)V", sig := { parameters := [(.object "java/lang/Object"), .int, (.object "java/lang/Object"), .int, .int], returnType := none }, accessFlags := 265, code := none }
/-- java/lang/System -/
def k5 : Class := { plain "java/lang/System" (some 0) with
  accessFlags := 49
  interfaces := #[]
  cf := some (fileOf pool5 8 #[.nestMembers #[319, 327, 801, 108, 663, 208]] #[{ accessFlags := 2, nameIndex := 5, descriptorIndex := 6, attributes := #[] }, { accessFlags := 265, nameIndex := 727, descriptorIndex := 728, attributes := #[] }] 49 2 #[] #[{ accessFlags := 25, nameIndex := 507, descriptorIndex := 526, attributes := #[] }, { accessFlags := 25, nameIndex := 399, descriptorIndex := 155, attributes := #[] }, { accessFlags := 25, nameIndex := 396, descriptorIndex := 155, attributes := #[] }, { accessFlags := 10, nameIndex := 525, descriptorIndex := 526, attributes := #[] }, { accessFlags := 26, nameIndex := 674, descriptorIndex := 12, attributes := #[] }, { accessFlags := 26, nameIndex := 677, descriptorIndex := 12, attributes := #[] }, { accessFlags := 10, nameIndex := 11, descriptorIndex := 12, attributes := #[] }, { accessFlags := 74, nameIndex := 175, descriptorIndex := 176, attributes := #[] }, { accessFlags := 10, nameIndex := 491, descriptorIndex := 222, attributes := #[] }, { accessFlags := 74, nameIndex := 29, descriptorIndex := 30, attributes := #[] }, { accessFlags := 74, nameIndex := 154, descriptorIndex := 155, attributes := #[] }, { accessFlags := 10, nameIndex := 217, descriptorIndex := 218, attributes := #[] }, { accessFlags := 10, nameIndex := 221, descriptorIndex := 222, attributes := #[] }, { accessFlags := 8, nameIndex := 562, descriptorIndex := 563, attributes := #[] }])
  fields := #[{ name := "in", type := (.object "java/io/InputStream"), accessFlags := 25, slot := 0, constantValue := 0 }, { name := "out", type := (.object "java/io/PrintStream"), accessFlags := 25, slot := 1, constantValue := 0 }, { name := "err", type := (.object "java/io/PrintStream"), accessFlags := 25, slot := 2, constantValue := 0 }, { name := "initialIn", type := (.object "java/io/InputStream"), accessFlags := 10, slot := 3, constantValue := 0 }, { name := "NEVER", type := .int, accessFlags := 26, slot := 4, constantValue := 0 }, { name := "MAYBE", type := .int, accessFlags := 26, slot := 5, constantValue := 0 }, { name := "allowSecurityManager", type := .int, accessFlags := 10, slot := 6, constantValue := 0 }, { name := "security", type := (.object "java/lang/SecurityManager"), accessFlags := 74, slot := 7, constantValue := 0 }, { name := "notSupportedJnuEncoding", type := (.object "java/lang/String"), accessFlags := 10, slot := 8, constantValue := 0 }, { name := "cons", type := (.object "java/io/Console"), accessFlags := 74, slot := 9, constantValue := 0 }, { name := "initialErrStream", type := (.object "java/io/PrintStream"), accessFlags := 74, slot := 10, constantValue := 0 }, { name := "props", type := (.object "java/util/Properties"), accessFlags := 10, slot := 11, constantValue := 0 }, { name := "lineSeparator", type := (.object "java/lang/String"), accessFlags := 10, slot := 12, constantValue := 0 }, { name := "bootLayer", type := (.object "java/lang/ModuleLayer"), accessFlags := 8, slot := 13, constantValue := 0 }]
  methods := #[k5m0, k5m1]
  instanceTypes := #[]
  staticTypes := #[(.object "java/io/InputStream"), (.object "java/io/PrintStream"), (.object "java/io/PrintStream"), (.object "java/io/InputStream"), .int, .int, .int, (.object "java/lang/SecurityManager"), (.object "java/lang/String"), (.object "java/io/Console"), (.object "java/io/PrintStream"), (.object "java/util/Properties"), (.object "java/lang/String"), (.object "java/lang/ModuleLayer")]
  resolved := Array.replicate 834 none
  statics := none }

def pool6 : Array CpInfo := pool [(1, .class_ 2), (0, u "java/util/DualPivotQuicksort"), (5, .class_ 10), (1, u "java/lang/Object"), (0, u "<init>"), (0, u "()V"), (4, .class_ 18), (0, u "java/util/DualPivotQuicksort$Sorter"), (7, .methodref 1 27), (0, .nameAndType 28 29), (0, u "sort"), (0, u "(Ljava/util/DualPivotQuicksort$Sorter;[IIII)V"), (3, u "([IIII)V"), (0, .methodref 1 35), (0, .nameAndType 36 37), (0, u "insertionSort"), (0, u "([III)V"), (30, u "I"), (4, .class_ 74), (0, u "java/util/DualPivotQuicksort$RunMerger"), (10, .class_ 86), (0, u "java/util/DualPivotQuicksort$Merger"), (127, u "MAX_MIXED_INSERTION_SORT_SIZE"), (2, u "MAX_INSERTION_SORT_SIZE"), (1, u "MIN_PARALLEL_SORT_SIZE"), (1, u "MIN_TRY_MERGE_SIZE"), (0, u "MIN_FIRST_RUN_SIZE"), (1, u "MIN_FIRST_RUNS_FACTOR"), (1, u "MAX_RUN_CAPACITY"), (1, u "MIN_RUN_COUNT"), (1, u "MIN_PARALLEL_MERGE_PARTS_SIZE"), (0, u "MIN_BYTE_COUNTING_SORT_SIZE"), (1, u "MIN_SHORT_OR_CHAR_COUNTING_SORT_SIZE"), (1, u "DELTA"), (1, u "MAX_RECURSION_DEPTH"), (1, u "NUM_BYTE_VALUES"), (1, u "MAX_BYTE_INDEX"), (0, u "NUM_CHAR_VALUES"), (0, u "NUM_SHORT_VALUES"), (0, u "MAX_SHORT_INDEX")] 86

def k6m0 : Method := { name := "<init>", desc := "()V", sig := { parameters := [], returnType := none }, accessFlags := 2, code := none }
def k6c1 : Code := { maxStack := 9, maxLocals := 7, code := jdk_2529_method_3_code, exceptionTable := #[], attributes := #[] }
def k6m1 : Method := { name := "sort", desc := "([IIII)V", sig := { parameters := [(.array .int), .int, .int, .int], returnType := none }, accessFlags := 8, code := some k6c1 }
def k6c2 : Code := { maxStack := 6, maxLocals := 21, code := jdk_2529_method_4_code, exceptionTable := #[], attributes := #[] }
def k6m2 : Method := { name := "sort", desc := "(Ljava/util/DualPivotQuicksort$Sorter;[IIII)V", sig := { parameters := [(.object "java/util/DualPivotQuicksort$Sorter"), (.array .int), .int, .int, .int], returnType := none }, accessFlags := 8, code := some k6c2 }
def k6c3 : Code := { maxStack := 4, maxLocals := 6, code := jdk_2529_method_6_code, exceptionTable := #[], attributes := #[] }
def k6m3 : Method := { name := "insertionSort", desc := "([III)V", sig := { parameters := [(.array .int), .int, .int], returnType := none }, accessFlags := 10, code := some k6c3 }
/-- java/util/DualPivotQuicksort -/
def k6 : Class := { plain "java/util/DualPivotQuicksort" (some 0) with
  accessFlags := 48
  interfaces := #[]
  cf := some (fileOf pool6 1 #[.nestMembers #[73, 85, 17]] #[{ accessFlags := 2, nameIndex := 11, descriptorIndex := 12, attributes := #[] }, { accessFlags := 8, nameIndex := 28, descriptorIndex := 33, attributes := #[] }, { accessFlags := 8, nameIndex := 28, descriptorIndex := 29, attributes := #[] }, { accessFlags := 10, nameIndex := 36, descriptorIndex := 37, attributes := #[] }] 48 8 #[] #[{ accessFlags := 26, nameIndex := 214, descriptorIndex := 68, attributes := #[] }, { accessFlags := 26, nameIndex := 217, descriptorIndex := 68, attributes := #[] }, { accessFlags := 26, nameIndex := 219, descriptorIndex := 68, attributes := #[] }, { accessFlags := 26, nameIndex := 221, descriptorIndex := 68, attributes := #[] }, { accessFlags := 26, nameIndex := 222, descriptorIndex := 68, attributes := #[] }, { accessFlags := 26, nameIndex := 224, descriptorIndex := 68, attributes := #[] }, { accessFlags := 26, nameIndex := 226, descriptorIndex := 68, attributes := #[] }, { accessFlags := 26, nameIndex := 228, descriptorIndex := 68, attributes := #[] }, { accessFlags := 26, nameIndex := 230, descriptorIndex := 68, attributes := #[] }, { accessFlags := 26, nameIndex := 231, descriptorIndex := 68, attributes := #[] }, { accessFlags := 26, nameIndex := 233, descriptorIndex := 68, attributes := #[] }, { accessFlags := 26, nameIndex := 235, descriptorIndex := 68, attributes := #[] }, { accessFlags := 26, nameIndex := 237, descriptorIndex := 68, attributes := #[] }, { accessFlags := 26, nameIndex := 239, descriptorIndex := 68, attributes := #[] }, { accessFlags := 26, nameIndex := 241, descriptorIndex := 68, attributes := #[] }, { accessFlags := 26, nameIndex := 242, descriptorIndex := 68, attributes := #[] }, { accessFlags := 26, nameIndex := 243, descriptorIndex := 68, attributes := #[] }, { accessFlags := 26, nameIndex := 244, descriptorIndex := 68, attributes := #[] }])
  fields := #[{ name := "MAX_MIXED_INSERTION_SORT_SIZE", type := .int, accessFlags := 26, slot := 0, constantValue := 0 }, { name := "MAX_INSERTION_SORT_SIZE", type := .int, accessFlags := 26, slot := 1, constantValue := 0 }, { name := "MIN_PARALLEL_SORT_SIZE", type := .int, accessFlags := 26, slot := 2, constantValue := 0 }, { name := "MIN_TRY_MERGE_SIZE", type := .int, accessFlags := 26, slot := 3, constantValue := 0 }, { name := "MIN_FIRST_RUN_SIZE", type := .int, accessFlags := 26, slot := 4, constantValue := 0 }, { name := "MIN_FIRST_RUNS_FACTOR", type := .int, accessFlags := 26, slot := 5, constantValue := 0 }, { name := "MAX_RUN_CAPACITY", type := .int, accessFlags := 26, slot := 6, constantValue := 0 }, { name := "MIN_RUN_COUNT", type := .int, accessFlags := 26, slot := 7, constantValue := 0 }, { name := "MIN_PARALLEL_MERGE_PARTS_SIZE", type := .int, accessFlags := 26, slot := 8, constantValue := 0 }, { name := "MIN_BYTE_COUNTING_SORT_SIZE", type := .int, accessFlags := 26, slot := 9, constantValue := 0 }, { name := "MIN_SHORT_OR_CHAR_COUNTING_SORT_SIZE", type := .int, accessFlags := 26, slot := 10, constantValue := 0 }, { name := "DELTA", type := .int, accessFlags := 26, slot := 11, constantValue := 0 }, { name := "MAX_RECURSION_DEPTH", type := .int, accessFlags := 26, slot := 12, constantValue := 0 }, { name := "NUM_BYTE_VALUES", type := .int, accessFlags := 26, slot := 13, constantValue := 0 }, { name := "MAX_BYTE_INDEX", type := .int, accessFlags := 26, slot := 14, constantValue := 0 }, { name := "NUM_CHAR_VALUES", type := .int, accessFlags := 26, slot := 15, constantValue := 0 }, { name := "NUM_SHORT_VALUES", type := .int, accessFlags := 26, slot := 16, constantValue := 0 }, { name := "MAX_SHORT_INDEX", type := .int, accessFlags := 26, slot := 17, constantValue := 0 }]
  methods := #[k6m0, k6m1, k6m2, k6m3]
  instanceTypes := #[]
  staticTypes := #[.int, .int, .int, .int, .int, .int, .int, .int, .int, .int, .int, .int, .int, .int, .int, .int, .int, .int]
  resolved := Array.replicate 331 none
  statics := none }

def pool7 : Array CpInfo := pool [(1, .class_ 2), (0, u "java/lang/Cloneable"), (0, .class_ 4), (0, u "java/lang/Object")] 2

/-- java/lang/Cloneable -/
def k7 : Class := { plain "java/lang/Cloneable" (some 0) with
  accessFlags := 1537
  interfaces := #[]
  cf := some (fileOf pool7 1 #[] #[] 1537 3 #[] #[])
  fields := #[]
  methods := #[]
  instanceTypes := #[]
  staticTypes := #[]
  resolved := Array.replicate 7 none
  statics := none }

def pool8 : Array CpInfo := pool [(1, u "java/io/Serializable"), (0, .class_ 1), (0, u "java/lang/Object"), (0, .class_ 3)] 3

/-- java/io/Serializable -/
def k8 : Class := { plain "java/io/Serializable" (some 0) with
  accessFlags := 1537
  interfaces := #[]
  cf := some (fileOf pool8 2 #[] #[] 1537 4 #[] #[])
  fields := #[]
  methods := #[]
  instanceTypes := #[]
  staticTypes := #[]
  resolved := Array.replicate 8 none
  statics := none }

/-- the primitive byte -/
def k9 : Class := { plain "byte" none with kind := .primitive 'B', accessFlags := 0x411 }
/-- [B -/
def k10 : Class := { plain "[B" (some 0) with kind := .array 9 .byte, interfaces := #[7, 8], accessFlags := 1041 }

/-- the primitive double -/
def k11 : Class := { plain "double" none with kind := .primitive 'D', accessFlags := 0x411 }
/-- [D -/
def k12 : Class := { plain "[D" (some 0) with kind := .array 11 .double, interfaces := #[7, 8], accessFlags := 1041 }

/-- the primitive int -/
def k13 : Class := { plain "int" none with kind := .primitive 'I', accessFlags := 0x411 }
/-- [I -/
def k14 : Class := { plain "[I" (some 0) with kind := .array 13 .int, interfaces := #[7, 8], accessFlags := 1041 }

def heap : Heap := #[]
def classes : Array Class := #[k0, k1, k2, k3, k4, k5, k6, k7, k8, k9, k10, k11, k12, k13, k14]
def interned : List (Array UInt16 × Addr) := []
def slotsUsed : Nat := 0
def theMethod : MethodId := ⟨1, 1⟩
def args0 : Array Value := #[.int 2, .int 9, .int 3, .int 7]
def aboutOver (below : List Frame) : State where
  vm := { classes := classes, interned := interned.toArray }
  heap := heap
  slotsUsed := slotsUsed
  threads := #[{ frames := .invoking theMethod args0 :: below }]
def below0 : List Frame := [.native { method := ⟨0, 0⟩, args := #[] }]
def about1 : State := aboutOver below0
def p0 : Program := .bare "" "" ""
def e0 : Env := launch0.env 0 0 0
theorem w_frames : about1.frames = Frame.invoking theMethod args0 :: below0 := rfl
set_option maxRecDepth 65536 in
theorem w_args : argsFit about1.vm theMethod args0 = true := by decide +kernel
set_option maxRecDepth 65536 in
theorem w_heap : heapFits about1 = true := by decide +kernel
set_option maxRecDepth 65536 in
theorem w_runnable : about1.curStatus? = some .runnable := by decide +kernel
set_option maxRecDepth 65536 in
theorem w_alone : about1.alone = true := by decide +kernel
set_option maxRecDepth 65536 in
theorem w_named : about1.methodNamed? x = some theMethod := by decide +kernel
set_option maxRecDepth 65536 in
theorem w_hears : about1.hears theMethod below0 = true := by decide +kernel
set_option maxRecDepth 65536 in
theorem w_ripe : about1.ripe theMethod args0 below0 = true := by decide +kernel
theorem w_running : about1.status = .running := rfl
set_option maxRecDepth 65536 in
theorem w_room : about1.hasRoom e0.platform room_1 = true :=
  launch0.hasRoom_least _ room_1 (by decide +kernel) (by decide +kernel) (by decide +kernel) (by decide +kernel) (by decide +kernel) (by decide +kernel)
theorem allAtoms_all (ts : List Jvm.Cond) (a : Array Jvm.Value) (st : Jvm.State) : (allAtoms ts).before a st = ts.all (fun c => c.before a st) := by
  induction ts with
  | nil => rfl
  | cons c t ih =>
    show (Jvm.Cond.and c (allAtoms t)).before a st = _
    rw [Jvm.Cond.before_and, ih, List.all_cons]
def words1 : List Jvm.Cond := Jvm.Cond.code x code maxLocals ret :: tables_1
/-- a 'code' word, met by the world's own term for the bytes: nothing is compared byte by byte -/
theorem code_word {y : MethodName} {bytes : ByteArray} {mx : Nat} {rt : Option FieldType} {a : Array Value} {s : State} {m : MethodId} {meth : Method} {c : Code} (h1 : s.methodNamed? y = some m) (h2 : s.vm.method? m = some meth) (h3 : meth.code = some c) (h4 : c.code = bytes)
    (h5 : (c.maxLocals == mx && c.exceptionTable.isEmpty && decide (c.maxStack ≤ mostOperands) && decide (meth.sig.returnType = rt) && !meth.locks && decide (parseMethodDescriptor y.desc = some meth.sig)) = true) : (Jvm.Cond.code y bytes mx rt).before a s = true := by
  simp only [Bool.and_eq_true, beq_iff_eq, Bool.not_eq_true', decide_eq_true_eq] at h5
  obtain ⟨⟨⟨⟨⟨g1, g2⟩, g3⟩, g4⟩, g5⟩, g6⟩ := h5
  simp [Cond.before, Cond.holds, Cond.value, h1, h2, h3, h4, g1, g2, g3, g4, g5, g6]
def isCode : Jvm.Cond → Bool
  | .code _ _ _ _ => true
  | _ => false
theorem all_split {L : List Jvm.Cond} {P : Jvm.Cond → Bool} (h1 : L.all (fun c => isCode c || P c) = true) (h2 : ∀ c ∈ L.filter isCode, P c = true) : L.all P = true := by
  refine List.all_eq_true.mpr fun c hc => ?_
  have h := List.all_eq_true.mp h1 c hc
  rcases Bool.eq_false_or_eq_true (isCode c) with hi | hi
  · exact h2 c (List.mem_filter.mpr ⟨hc, hi⟩)
  · simpa [hi] using h
set_option maxRecDepth 65536 in
theorem w_c0 : (Jvm.Cond.code x code maxLocals ret).before args0 about1 = true := code_word (m := ⟨1, 1⟩) (meth := k1m1) (c := k1c1) (by decide +kernel) rfl rfl rfl (by decide +kernel)
set_option maxRecDepth 65536 in
theorem w_c1 : (Jvm.Cond.code ({ cls := "org/termsieve/mapping/Shares", name := "<init>", desc := "(I)V" } : Jvm.MethodName) prog_78_method_1_code (2 : Nat) (Option.none : Option Jvm.ClassFile.FieldType)).before args0 about1 = true := code_word (m := ⟨2, 0⟩) (meth := k2m0) (c := k2c0) (by decide +kernel) rfl rfl rfl (by decide +kernel)
set_option maxRecDepth 65536 in
theorem w_c2 : (Jvm.Cond.code ({ cls := "java/lang/Object", name := "<init>", desc := "()V" } : Jvm.MethodName) object_method_1_code (1 : Nat) (Option.none : Option Jvm.ClassFile.FieldType)).before args0 about1 = true := code_word (m := ⟨0, 0⟩) (meth := k0m0) (c := k0c0) (by decide +kernel) rfl rfl rfl (by decide +kernel)
set_option maxRecDepth 65536 in
theorem w_c3 : (Jvm.Cond.code ({ cls := "org/termsieve/mapping/Shares", name := "raise", desc := "(ID)V" } : Jvm.MethodName) prog_78_method_2_code (4 : Nat) (Option.none : Option Jvm.ClassFile.FieldType)).before args0 about1 = true := code_word (m := ⟨2, 1⟩) (meth := k2m1) (c := k2c1) (by decide +kernel) rfl rfl rfl (by decide +kernel)
set_option maxRecDepth 65536 in
theorem w_c4 : (Jvm.Cond.code ({ cls := "java/lang/Math", name := "max", desc := "(DD)D" } : Jvm.MethodName) jdk_29_method_68_code (4 : Nat) (Option.some Jvm.ClassFile.FieldType.double)).before args0 about1 = true := code_word (m := ⟨3, 1⟩) (meth := k3m1) (c := k3c1) (by decide +kernel) rfl rfl rfl (by decide +kernel)
set_option maxRecDepth 65536 in
theorem w_c5 : (Jvm.Cond.code ({ cls := "org/termsieve/mapping/Shares", name := "clear", desc := "()V" } : Jvm.MethodName) prog_78_method_4_code (2 : Nat) (Option.none : Option Jvm.ClassFile.FieldType)).before args0 about1 = true := code_word (m := ⟨2, 2⟩) (meth := k2m2) (c := k2c2) (by decide +kernel) rfl rfl rfl (by decide +kernel)
set_option maxRecDepth 65536 in
theorem w_c6 : (Jvm.Cond.code ({ cls := "org/termsieve/mapping/Shares", name := "held", desc := "()[I" } : Jvm.MethodName) prog_78_method_6_code (2 : Nat) (Option.some (Jvm.ClassFile.FieldType.array Jvm.ClassFile.FieldType.int))).before args0 about1 = true := code_word (m := ⟨2, 4⟩) (meth := k2m4) (c := k2c4) (by decide +kernel) rfl rfl rfl (by decide +kernel)
set_option maxRecDepth 65536 in
theorem w_c7 : (Jvm.Cond.code ({ cls := "java/util/Arrays", name := "copyOf", desc := "([II)[I" } : Jvm.MethodName) jdk_65_method_123_code (3 : Nat) (Option.some (Jvm.ClassFile.FieldType.array Jvm.ClassFile.FieldType.int))).before args0 about1 = true := code_word (m := ⟨4, 2⟩) (meth := k4m2) (c := k4c2) (by decide +kernel) rfl rfl rfl (by decide +kernel)
set_option maxRecDepth 65536 in
theorem w_c8 : (Jvm.Cond.code ({ cls := "java/lang/Math", name := "min", desc := "(II)I" } : Jvm.MethodName) jdk_29_method_69_code (2 : Nat) (Option.some Jvm.ClassFile.FieldType.int)).before args0 about1 = true := code_word (m := ⟨3, 2⟩) (meth := k3m2) (c := k3c2) (by decide +kernel) rfl rfl rfl (by decide +kernel)
set_option maxRecDepth 65536 in
theorem w_c9 : (Jvm.Cond.code ({ cls := "java/util/Arrays", name := "sort", desc := "([I)V" } : Jvm.MethodName) jdk_65_method_2_code (1 : Nat) (Option.none : Option Jvm.ClassFile.FieldType)).before args0 about1 = true := code_word (m := ⟨4, 1⟩) (meth := k4m1) (c := k4c1) (by decide +kernel) rfl rfl rfl (by decide +kernel)
set_option maxRecDepth 65536 in
theorem w_c10 : (Jvm.Cond.code ({ cls := "java/util/DualPivotQuicksort", name := "sort", desc := "([IIII)V" } : Jvm.MethodName) jdk_2529_method_3_code (7 : Nat) (Option.none : Option Jvm.ClassFile.FieldType)).before args0 about1 = true := code_word (m := ⟨6, 1⟩) (meth := k6m1) (c := k6c1) (by decide +kernel) rfl rfl rfl (by decide +kernel)
set_option maxRecDepth 65536 in
theorem w_c11 : (Jvm.Cond.code ({ cls := "java/util/DualPivotQuicksort", name := "sort", desc := "(Ljava/util/DualPivotQuicksort$Sorter;[IIII)V" } : Jvm.MethodName) jdk_2529_method_4_code (21 : Nat) (Option.none : Option Jvm.ClassFile.FieldType)).before args0 about1 = true := code_word (m := ⟨6, 2⟩) (meth := k6m2) (c := k6c2) (by decide +kernel) rfl rfl rfl (by decide +kernel)
set_option maxRecDepth 65536 in
theorem w_c12 : (Jvm.Cond.code ({ cls := "java/util/DualPivotQuicksort", name := "insertionSort", desc := "([III)V" } : Jvm.MethodName) jdk_2529_method_6_code (6 : Nat) (Option.none : Option Jvm.ClassFile.FieldType)).before args0 about1 = true := code_word (m := ⟨6, 3⟩) (meth := k6m3) (c := k6c3) (by decide +kernel) rfl rfl rfl (by decide +kernel)
set_option maxRecDepth 65536 in
theorem w_c13 : (Jvm.Cond.code ({ cls := "org/termsieve/mapping/SharesClearPinLaw", name := "at", desc := "(Lorg/termsieve/mapping/Shares;IIID)Z" } : Jvm.MethodName) method_3_code (8 : Nat) (Option.some Jvm.ClassFile.FieldType.boolean)).before args0 about1 = true := code_word (m := ⟨1, 2⟩) (meth := k1m2) (c := k1c2) (by decide +kernel) rfl rfl rfl (by decide +kernel)
set_option maxRecDepth 65536 in
theorem w_c14 : (Jvm.Cond.code ({ cls := "org/termsieve/mapping/Shares", name := "share", desc := "(I)D" } : Jvm.MethodName) prog_78_method_5_code (2 : Nat) (Option.some Jvm.ClassFile.FieldType.double)).before args0 about1 = true := code_word (m := ⟨2, 3⟩) (meth := k2m3) (c := k2c3) (by decide +kernel) rfl rfl rfl (by decide +kernel)
def codes1 : List Jvm.Cond := [Jvm.Cond.code x code maxLocals ret, Jvm.Cond.code ({ cls := "org/termsieve/mapping/Shares", name := "<init>", desc := "(I)V" } : Jvm.MethodName) prog_78_method_1_code (2 : Nat) (Option.none : Option Jvm.ClassFile.FieldType), Jvm.Cond.code ({ cls := "java/lang/Object", name := "<init>", desc := "()V" } : Jvm.MethodName) object_method_1_code (1 : Nat) (Option.none : Option Jvm.ClassFile.FieldType), Jvm.Cond.code ({ cls := "org/termsieve/mapping/Shares", name := "raise", desc := "(ID)V" } : Jvm.MethodName) prog_78_method_2_code (4 : Nat) (Option.none : Option Jvm.ClassFile.FieldType), Jvm.Cond.code ({ cls := "java/lang/Math", name := "max", desc := "(DD)D" } : Jvm.MethodName) jdk_29_method_68_code (4 : Nat) (Option.some Jvm.ClassFile.FieldType.double), Jvm.Cond.code ({ cls := "org/termsieve/mapping/Shares", name := "clear", desc := "()V" } : Jvm.MethodName) prog_78_method_4_code (2 : Nat) (Option.none : Option Jvm.ClassFile.FieldType), Jvm.Cond.code ({ cls := "org/termsieve/mapping/Shares", name := "held", desc := "()[I" } : Jvm.MethodName) prog_78_method_6_code (2 : Nat) (Option.some (Jvm.ClassFile.FieldType.array Jvm.ClassFile.FieldType.int)), Jvm.Cond.code ({ cls := "java/util/Arrays", name := "copyOf", desc := "([II)[I" } : Jvm.MethodName) jdk_65_method_123_code (3 : Nat) (Option.some (Jvm.ClassFile.FieldType.array Jvm.ClassFile.FieldType.int)), Jvm.Cond.code ({ cls := "java/lang/Math", name := "min", desc := "(II)I" } : Jvm.MethodName) jdk_29_method_69_code (2 : Nat) (Option.some Jvm.ClassFile.FieldType.int), Jvm.Cond.code ({ cls := "java/util/Arrays", name := "sort", desc := "([I)V" } : Jvm.MethodName) jdk_65_method_2_code (1 : Nat) (Option.none : Option Jvm.ClassFile.FieldType), Jvm.Cond.code ({ cls := "java/util/DualPivotQuicksort", name := "sort", desc := "([IIII)V" } : Jvm.MethodName) jdk_2529_method_3_code (7 : Nat) (Option.none : Option Jvm.ClassFile.FieldType), Jvm.Cond.code ({ cls := "java/util/DualPivotQuicksort", name := "sort", desc := "(Ljava/util/DualPivotQuicksort$Sorter;[IIII)V" } : Jvm.MethodName) jdk_2529_method_4_code (21 : Nat) (Option.none : Option Jvm.ClassFile.FieldType), Jvm.Cond.code ({ cls := "java/util/DualPivotQuicksort", name := "insertionSort", desc := "([III)V" } : Jvm.MethodName) jdk_2529_method_6_code (6 : Nat) (Option.none : Option Jvm.ClassFile.FieldType), Jvm.Cond.code ({ cls := "org/termsieve/mapping/SharesClearPinLaw", name := "at", desc := "(Lorg/termsieve/mapping/Shares;IIID)Z" } : Jvm.MethodName) method_3_code (8 : Nat) (Option.some Jvm.ClassFile.FieldType.boolean), Jvm.Cond.code ({ cls := "org/termsieve/mapping/Shares", name := "share", desc := "(I)D" } : Jvm.MethodName) prog_78_method_5_code (2 : Nat) (Option.some Jvm.ClassFile.FieldType.double)]
set_option maxRecDepth 65536 in
theorem codes_eq : words1.filter isCode = codes1 := rfl
theorem w_codes : ∀ c ∈ words1.filter isCode, c.before args0 about1 = true := by
  rw [codes_eq]
  intro c hc
  simp only [codes1, List.mem_cons, List.not_mem_nil, or_false] at hc
  rcases hc with rfl | rfl | rfl | rfl | rfl | rfl | rfl | rfl | rfl | rfl | rfl | rfl | rfl | rfl | rfl
  · exact w_c0
  · exact w_c1
  · exact w_c2
  · exact w_c3
  · exact w_c4
  · exact w_c5
  · exact w_c6
  · exact w_c7
  · exact w_c8
  · exact w_c9
  · exact w_c10
  · exact w_c11
  · exact w_c12
  · exact w_c13
  · exact w_c14
set_option maxRecDepth 65536 in
theorem w_t1 : (words1.take 24).all (fun c => isCode c || c.before args0 about1) = true := by decide +kernel
set_option maxRecDepth 65536 in
theorem w_t2 : ((words1.drop 24).take 24).all (fun c => isCode c || c.before args0 about1) = true := by decide +kernel
set_option maxRecDepth 65536 in
theorem w_t3 : (((words1.drop 24).drop 24).take 24).all (fun c => isCode c || c.before args0 about1) = true := by decide +kernel
set_option maxRecDepth 65536 in
theorem w_t4 : (((words1.drop 24).drop 24).drop 24).all (fun c => isCode c || c.before args0 about1) = true := by decide +kernel
theorem w_tables : (allAtoms (Jvm.Cond.code x code maxLocals ret :: tables_1)).before args0 about1 = true := by
  rw [allAtoms_all]
  show words1.all (fun c => c.before args0 about1) = true
  refine all_split ?_ w_codes
  rw [← List.take_append_drop 24 words1, List.all_append, w_t1, ← List.take_append_drop 24 (words1.drop 24), List.all_append, w_t2, ← List.take_append_drop 24 ((words1.drop 24).drop 24), List.all_append, w_t3, w_t4]
  rfl
set_option maxRecDepth 65536 in
theorem w_case : (Jvm.Cond.and given_1 narrow_1).before args0 about1 = true := by decide +kernel
theorem w_applies : (headSpec (Jvm.Cond.code x code maxLocals ret :: tables_1) room_1).applies x e0.platform about1 = true :=
  (Spec.applies_iff w_frames).mpr ⟨w_running, w_runnable, w_alone, w_named, w_hears, w_ripe, w_room, w_tables⟩
theorem atStart : AtStart classFile x code maxLocals ret World_1 tables_1 room_1 Calls_1 rest_1 Pre_1 launch0 p0 e0 about1 theMethod args0 below0 :=
  ⟨lists_1, trivial, launch0.admits_env _ _ _, launch0.least_env, fairChoices_fair.cas, fairChoices_fair.clock, w_frames, w_args, w_heap, w_applies, trivial, trivial, w_case⟩
end start1
theorem witness_1 : WitnessClaimed_1 := ⟨start1.p0, start1.e0, start1.about1, start1.theMethod, start1.args0, start1.below0, start1.atStart⟩
end Jvm.Pilot.@@N@@
