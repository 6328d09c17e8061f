import JvmDerived
import JvmDerived.Pilot.@@N@@Statement
import JvmDerived.Pilot.@@N@@Code
set_option linter.unusedVariables false
set_option linter.unusedSimpArgs false
namespace Jvm.OwnKit
open Sem ClassFile Op Lib Jvm.Stand Jvm.Free Jvm.LawKit Jvm.RoadKit
/-- from S the run ends as wanted: it returns v, leaves a heap and has written the places L -/
def Goes (p : Program) (e : Env) (below : List Frame) (s : State) (K N : Nat) (Q : Option Value → Heap → List Loc → Prop) (S : State) : Prop :=
  ∃ s₂ o, Steps p.tables e below S s₂ ∧ s₂.status = .running ∧ Ended s₂ below o ∧ ∃ v L, o = .returned v ∧ Q v s₂.heap L ∧ FrameEnd s o s₂ L K N
def Cl (p : Program) (e : Env) (below : List Frame) (G : State → Prop) : Prop := ∀ S S', (∀ t, Steps p.tables e below S' t → Steps p.tables e below S t) → G S' → G S
theorem Goes.cl (p : Program) (e : Env) (below : List Frame) (s : State) (K N : Nat) (Q : Option Value → Heap → List Loc → Prop) : Cl p e below (Goes p e below s K N Q) := fun S S' h k => by
  obtain ⟨s₂, o, h1, r⟩ := k
  exact ⟨s₂, o, h _ h1, r⟩
/-- a body's contract -/
abbrev Con (l : Launch) (y : MethodName) (bytes : ByteArray) (maxL : Nat) (ret : Option FieldType) (ws : List Jvm.Cond) (rm : Room) (Z : State) (as : Array Value) (h0 : Heap) (K N : Nat) (Q : Option Value → Heap → List Loc → Prop) : Prop :=
  MetFree l y (head1 (Jvm.Cond.code y bytes maxL ret :: ws) rm) (fun a U => a = as ∧ Z.Warmed39 U.vm ∧ U.heap = h0) (fun _ _ _ _ _ => True) (fun _ U o U' => ∃ v L, o = .returned v ∧ Q v U'.heap L ∧ FrameEnd U o U' L K N)
theorem Con.of {l : Launch} {y : MethodName} {bytes : ByteArray} {maxL : Nat} {ret : Option FieldType} {ws : List Jvm.Cond} {rm : Room} {Z : State} {as : Array Value} {h0 : Heap} {K N : Nat} {Q : Option Value → Heap → List Loc → Prop} {Ls : Array Slot}
    (pl : plainFor y = true) (hef : ∀ m, entryFrame m as maxL = mkF m 0 Ls [])
    (H : ∀ (p : Program) (e : Env) (s : State) (m : MethodId) (below : List Frame) (meth : Method) (c : Code) (s₁ : State) (G : State → Prop), G = Goes p e below s K N Q → Cl p e below G → p.tables.exec = Jvm.exec → c.code = bytes → c.maxLocals = maxL → s.vm.findClass y.cls = some m.cls → meth.name = y.name → meth.sig.returnType = ret → meth.locks = false → Z.Warmed39 s.vm → Stand p l e rm s m as below meth c s₁ [] 0 0 → s₁.heap = h0 → G (s₁.setTop (mkF m 0 Ls []))) :
    Con l y bytes maxL ret ws rm Z as h0 K N Q := by
  refine MetFree.of_bodySF pl hisR ?_
  intro p e s m args below meth c s₁ Bd hml0 hP hK
  obtain ⟨rfl, hZ, hh⟩ := hP
  have X0 : Stand p l e rm s m args below meth c s₁ [] 0 0 := Stand.of_body Bd
  have e0 : s₁.heap = h0 := by rw [← hh, Bd.state]; rfl
  have g := H p e s m below meth c s₁ _ rfl (Goes.cl p e below s K N Q) Bd.exec Bd.bytes hml0 (findClass_of_methodNamed Bd.named) (name_of_methodNamed Bd.named Bd.method).1 Bd.returns Bd.notSynchronized hZ X0 e0
  rw [← hef m] at g
  exact g
theorem Wr.size {h h' : Heap} {a : Addr} {sl : Nat} {v : Value} (W : Wr h h' a sl v) : h.size ≤ h'.size := by
  obtain ⟨c, -, -, -, rfl⟩ := W
  simp
section New
variable {p : Program} {l : Launch} {e : Env} {R : Room} {s : State} {m : MethodId} {args : Array Value} {below : List Frame} {meth : Method} {c : Code} {T : State} {locs : List Loc} {cells slots : Nat} {Z : State} {a0 : Array Value} {h : Heap} {G : State → Prop} {pc pc' : Nat} {Ls Ls' : Array Slot} {rest : List Value} {K N : Nat} {Q : Option Value → Heap → List Loc → Prop}
/-! the ends -/
theorem e_ret (hGe : G = Goes p e below s K N Q) (X : Stand p l e R s m args below meth c T locs cells slots) (hx : p.tables.exec = Jvm.exec) {w : Value} {t : FieldType} {i : Instr} (hret : meth.sig.returnType = some t) (hlk : meth.locks = false) (hd : decode c.code pc = .ok (i, 1)) (hn : narrow t w = w)
    (hi : (i = .ireturn ∧ (t = .int ∨ t = .boolean ∨ t = .byte ∨ t = .char ∨ t = .short) ∧ ∃ z, w = .int z) ∨ (i = .lreturn ∧ t = .long ∧ ∃ z, w = .long z) ∨ (i = .dreturn ∧ t = .double ∧ ∃ z, w = .double z) ∨ (i = .freturn ∧ t = .float ∧ ∃ z, w = .float z) ∨ (i = .areturn ∧ t.isReference = true ∧ w.isRef = true))
    (eT : T.heap = h) (hk : cells ≤ K) (hs : slots ≤ N) (hQ : Q (some w) h locs) : G (T.setTop (mkF m pc Ls (w :: rest))) := by
  subst hGe
  obtain ⟨fs, hr, hrun, hended, hW, hsame⟩ := X.leave (v := some w) (fun h => by rw [hret] at h; cases h) hlk
  refine ⟨_, _, retOut X hx hret hn hi hd hr, hrun, hended, _, _, rfl, ?_, ⟨_, rfl⟩, hW, hsame.mono hk hs⟩
  show Q _ T.heap _
  rw [eT]; exact hQ
theorem e_retI (hGe : G = Goes p e below s K N Q) (X : Stand p l e R s m args below meth c T locs cells slots) (hx : p.tables.exec = Jvm.exec) {z : Int32} (hret : meth.sig.returnType = some .int) (hlk : meth.locks = false) (hd : decode c.code pc = .ok (.ireturn, 1)) (eT : T.heap = h) (hk : cells ≤ K) (hs : slots ≤ N) (hQ : Q (some (.int z)) h locs) : G (T.setTop (mkF m pc Ls (.int z :: rest))) :=
  e_ret hGe X hx hret hlk hd rfl (Or.inl ⟨rfl, Or.inl rfl, z, rfl⟩) eT hk hs hQ
theorem e_retJ (hGe : G = Goes p e below s K N Q) (X : Stand p l e R s m args below meth c T locs cells slots) (hx : p.tables.exec = Jvm.exec) {z : Int64} (hret : meth.sig.returnType = some .long) (hlk : meth.locks = false) (hd : decode c.code pc = .ok (.lreturn, 1)) (eT : T.heap = h) (hk : cells ≤ K) (hs : slots ≤ N) (hQ : Q (some (.long z)) h locs) : G (T.setTop (mkF m pc Ls (.long z :: rest))) :=
  e_ret hGe X hx hret hlk hd rfl (Or.inr (Or.inl ⟨rfl, rfl, z, rfl⟩)) eT hk hs hQ
theorem e_retD (hGe : G = Goes p e below s K N Q) (X : Stand p l e R s m args below meth c T locs cells slots) (hx : p.tables.exec = Jvm.exec) {z : UInt64} (hret : meth.sig.returnType = some .double) (hlk : meth.locks = false) (hd : decode c.code pc = .ok (.dreturn, 1)) (eT : T.heap = h) (hk : cells ≤ K) (hs : slots ≤ N) (hQ : Q (some (.double z)) h locs) : G (T.setTop (mkF m pc Ls (.double z :: rest))) :=
  e_ret hGe X hx hret hlk hd rfl (Or.inr (Or.inr (Or.inl ⟨rfl, rfl, z, rfl⟩))) eT hk hs hQ
theorem e_retA (hGe : G = Goes p e below s K N Q) (X : Stand p l e R s m args below meth c T locs cells slots) (hx : p.tables.exec = Jvm.exec) {a : Addr} {t : FieldType} (hret : meth.sig.returnType = some t) (ht : t.isReference = true) (hlk : meth.locks = false) (hd : decode c.code pc = .ok (.areturn, 1)) (eT : T.heap = h) (hk : cells ≤ K) (hs : slots ≤ N) (hQ : Q (some (.ref a)) h locs) : G (T.setTop (mkF m pc Ls (.ref a :: rest))) :=
  e_ret hGe X hx hret hlk hd (by cases t <;> first | rfl | (cases ht)) (Or.inr (Or.inr (Or.inr (Or.inr ⟨rfl, ht, rfl⟩)))) eT hk hs hQ
theorem e_retZ (hGe : G = Goes p e below s K N Q) (X : Stand p l e R s m args below meth c T locs cells slots) (hx : p.tables.exec = Jvm.exec) {z : Int32} (hret : meth.sig.returnType = some .boolean) (hlk : meth.locks = false) (hd : decode c.code pc = .ok (.ireturn, 1)) (hz : z = 0 ∨ z = 1) (eT : T.heap = h) (hk : cells ≤ K) (hs : slots ≤ N) (hQ : Q (some (.int z)) h locs) : G (T.setTop (mkF m pc Ls (.int z :: rest))) :=
  e_ret hGe X hx hret hlk hd (by rcases hz with rfl | rfl <;> rfl) (Or.inl ⟨rfl, Or.inr (Or.inl rfl), z, rfl⟩) eT hk hs hQ
theorem e_ret0 (hGe : G = Goes p e below s K N Q) (X : Stand p l e R s m args below meth c T locs cells slots) (hx : p.tables.exec = Jvm.exec) (hret : meth.sig.returnType = none) (hlk : meth.locks = false) (hd : decode c.code pc = .ok (.return_, 1)) (eT : T.heap = h) (hk : cells ≤ K) (hs : slots ≤ N) (hQ : Q none h locs) : G (T.setTop (mkF m pc Ls [])) := by
  subst hGe
  obtain ⟨fs, hr, hrun, hended, hW, hsame⟩ := X.leave (v := none) (fun _ => rfl) hlk
  refine ⟨_, _, X.returnOut hx hret hd hr, hrun, hended, _, _, rfl, ?_, ⟨_, rfl⟩, hW, hsame.mono hk hs⟩
  show Q _ T.heap _
  rw [eT]; exact hQ
/-! the plain steps -/
theorem g_iload (hG : Cl p e below G) (X : Stand p l e R s m args below meth c T locs cells slots) (hx : p.tables.exec = Jvm.exec) {i : Nat} {v : Int32} (hd : decode c.code pc = .ok (.iload i, 2)) (hp : pc' = pc + 2) (hl : Ls[i]? = some (.val (.int v))) (k : G (T.setTop (mkF m pc' Ls (.int v :: rest)))) : G (T.setTop (mkF m pc Ls (rest))) := by
  subst hp
  refine hG _ _ (fun t ht => ?_) k
  exact XS.iload X.here hx rfl hd hl ht
theorem g_iloadN (hG : Cl p e below G) (X : Stand p l e R s m args below meth c T locs cells slots) (hx : p.tables.exec = Jvm.exec) {i : Fin 4} {v : Int32} (hd : decode c.code pc = .ok (.iload_n i, 1)) (hp : pc' = pc + 1) (hl : Ls[i.val]? = some (.val (.int v))) (k : G (T.setTop (mkF m pc' Ls (.int v :: rest)))) : G (T.setTop (mkF m pc Ls (rest))) := by
  subst hp
  refine hG _ _ (fun t ht => ?_) k
  exact XS.iloadN X.here hx rfl hd hl ht
theorem g_istore (hG : Cl p e below G) (X : Stand p l e R s m args below meth c T locs cells slots) (hx : p.tables.exec = Jvm.exec) {i : Nat} {v : Int32} (hd : decode c.code pc = .ok (.istore i, 2)) (hp : pc' = pc + 2) (hl : storeLocals Ls i (.int v) = some Ls') (k : G (T.setTop (mkF m pc' Ls' (rest)))) : G (T.setTop (mkF m pc Ls (.int v :: rest))) := by
  subst hp
  refine hG _ _ (fun t ht => ?_) k
  exact XS.istore X.here hx rfl hd rfl hl ht
theorem g_istoreN (hG : Cl p e below G) (X : Stand p l e R s m args below meth c T locs cells slots) (hx : p.tables.exec = Jvm.exec) {i : Fin 4} {v : Int32} (hd : decode c.code pc = .ok (.istore_n i, 1)) (hp : pc' = pc + 1) (hl : storeLocals Ls i.val (.int v) = some Ls') (k : G (T.setTop (mkF m pc' Ls' (rest)))) : G (T.setTop (mkF m pc Ls (.int v :: rest))) := by
  subst hp
  refine hG _ _ (fun t ht => ?_) k
  exact XS.istoreN X.here hx rfl hd rfl hl ht
theorem g_lload (hG : Cl p e below G) (X : Stand p l e R s m args below meth c T locs cells slots) (hx : p.tables.exec = Jvm.exec) {i : Nat} {v : Int64} (hd : decode c.code pc = .ok (.lload i, 2)) (hp : pc' = pc + 2) (hl : Ls[i]? = some (.val (.long v))) (k : G (T.setTop (mkF m pc' Ls (.long v :: rest)))) : G (T.setTop (mkF m pc Ls (rest))) := by
  subst hp
  refine hG _ _ (fun t ht => ?_) k
  exact XS.lload X.here hx rfl hd hl ht
theorem g_lloadN (hG : Cl p e below G) (X : Stand p l e R s m args below meth c T locs cells slots) (hx : p.tables.exec = Jvm.exec) {i : Fin 4} {v : Int64} (hd : decode c.code pc = .ok (.lload_n i, 1)) (hp : pc' = pc + 1) (hl : Ls[i.val]? = some (.val (.long v))) (k : G (T.setTop (mkF m pc' Ls (.long v :: rest)))) : G (T.setTop (mkF m pc Ls (rest))) := by
  subst hp
  refine hG _ _ (fun t ht => ?_) k
  exact XS.lloadN X.here hx rfl hd hl ht
theorem g_lstore (hG : Cl p e below G) (X : Stand p l e R s m args below meth c T locs cells slots) (hx : p.tables.exec = Jvm.exec) {i : Nat} {v : Int64} (hd : decode c.code pc = .ok (.lstore i, 2)) (hp : pc' = pc + 2) (hl : storeLocals Ls i (.long v) = some Ls') (k : G (T.setTop (mkF m pc' Ls' (rest)))) : G (T.setTop (mkF m pc Ls (.long v :: rest))) := by
  subst hp
  refine hG _ _ (fun t ht => ?_) k
  exact XS.lstore X.here hx rfl hd rfl hl ht
theorem g_lstoreN (hG : Cl p e below G) (X : Stand p l e R s m args below meth c T locs cells slots) (hx : p.tables.exec = Jvm.exec) {i : Fin 4} {v : Int64} (hd : decode c.code pc = .ok (.lstore_n i, 1)) (hp : pc' = pc + 1) (hl : storeLocals Ls i.val (.long v) = some Ls') (k : G (T.setTop (mkF m pc' Ls' (rest)))) : G (T.setTop (mkF m pc Ls (.long v :: rest))) := by
  subst hp
  refine hG _ _ (fun t ht => ?_) k
  exact XS.lstoreN X.here hx rfl hd rfl hl ht
theorem g_dload (hG : Cl p e below G) (X : Stand p l e R s m args below meth c T locs cells slots) (hx : p.tables.exec = Jvm.exec) {i : Nat} {v : UInt64} (hd : decode c.code pc = .ok (.dload i, 2)) (hp : pc' = pc + 2) (hl : Ls[i]? = some (.val (.double v))) (k : G (T.setTop (mkF m pc' Ls (.double v :: rest)))) : G (T.setTop (mkF m pc Ls (rest))) := by
  subst hp
  refine hG _ _ (fun t ht => ?_) k
  exact XS.dload X.here hx rfl hd hl ht
theorem g_dloadN (hG : Cl p e below G) (X : Stand p l e R s m args below meth c T locs cells slots) (hx : p.tables.exec = Jvm.exec) {i : Fin 4} {v : UInt64} (hd : decode c.code pc = .ok (.dload_n i, 1)) (hp : pc' = pc + 1) (hl : Ls[i.val]? = some (.val (.double v))) (k : G (T.setTop (mkF m pc' Ls (.double v :: rest)))) : G (T.setTop (mkF m pc Ls (rest))) := by
  subst hp
  refine hG _ _ (fun t ht => ?_) k
  exact XS.dloadN X.here hx rfl hd hl ht
theorem g_dstore (hG : Cl p e below G) (X : Stand p l e R s m args below meth c T locs cells slots) (hx : p.tables.exec = Jvm.exec) {i : Nat} {v : UInt64} (hd : decode c.code pc = .ok (.dstore i, 2)) (hp : pc' = pc + 2) (hl : storeLocals Ls i (.double v) = some Ls') (k : G (T.setTop (mkF m pc' Ls' (rest)))) : G (T.setTop (mkF m pc Ls (.double v :: rest))) := by
  subst hp
  refine hG _ _ (fun t ht => ?_) k
  exact XS.dstore X.here hx rfl hd rfl hl ht
theorem g_dstoreN (hG : Cl p e below G) (X : Stand p l e R s m args below meth c T locs cells slots) (hx : p.tables.exec = Jvm.exec) {i : Fin 4} {v : UInt64} (hd : decode c.code pc = .ok (.dstore_n i, 1)) (hp : pc' = pc + 1) (hl : storeLocals Ls i.val (.double v) = some Ls') (k : G (T.setTop (mkF m pc' Ls' (rest)))) : G (T.setTop (mkF m pc Ls (.double v :: rest))) := by
  subst hp
  refine hG _ _ (fun t ht => ?_) k
  exact XS.dstoreN X.here hx rfl hd rfl hl ht
theorem g_aload (hG : Cl p e below G) (X : Stand p l e R s m args below meth c T locs cells slots) (hx : p.tables.exec = Jvm.exec) {i : Nat} {v : Value} (hd : decode c.code pc = .ok (.aload i, 2)) (hp : pc' = pc + 2) (hl : Ls[i]? = some (.val v)) (hv' : v.isRef = true) (k : G (T.setTop (mkF m pc' Ls (v :: rest)))) : G (T.setTop (mkF m pc Ls (rest))) := by
  subst hp
  refine hG _ _ (fun t ht => ?_) k
  exact XS.aload X.here hx rfl hd hl hv' ht
theorem g_aloadN (hG : Cl p e below G) (X : Stand p l e R s m args below meth c T locs cells slots) (hx : p.tables.exec = Jvm.exec) {i : Fin 4} {v : Value} (hd : decode c.code pc = .ok (.aload_n i, 1)) (hp : pc' = pc + 1) (hl : Ls[i.val]? = some (.val v)) (hv' : v.isRef = true) (k : G (T.setTop (mkF m pc' Ls (v :: rest)))) : G (T.setTop (mkF m pc Ls (rest))) := by
  subst hp
  refine hG _ _ (fun t ht => ?_) k
  exact XS.aloadN X.here hx rfl hd hl hv' ht
theorem g_astore (hG : Cl p e below G) (X : Stand p l e R s m args below meth c T locs cells slots) (hx : p.tables.exec = Jvm.exec) {i : Nat} {v : Value} (hd : decode c.code pc = .ok (.astore i, 2)) (hp : pc' = pc + 2) (hv' : v.isRef = true) (hl : storeLocals Ls i v = some Ls') (k : G (T.setTop (mkF m pc' Ls' (rest)))) : G (T.setTop (mkF m pc Ls (v :: rest))) := by
  subst hp
  refine hG _ _ (fun t ht => ?_) k
  exact XS.astore X.here hx rfl hd rfl hv' hl ht
theorem g_astoreN (hG : Cl p e below G) (X : Stand p l e R s m args below meth c T locs cells slots) (hx : p.tables.exec = Jvm.exec) {i : Fin 4} {v : Value} (hd : decode c.code pc = .ok (.astore_n i, 1)) (hp : pc' = pc + 1) (hv' : v.isRef = true) (hl : storeLocals Ls i.val v = some Ls') (k : G (T.setTop (mkF m pc' Ls' (rest)))) : G (T.setTop (mkF m pc Ls (v :: rest))) := by
  subst hp
  refine hG _ _ (fun t ht => ?_) k
  exact XS.astoreN X.here hx rfl hd rfl hv' hl ht
theorem g_iconst (hG : Cl p e below G) (X : Stand p l e R s m args below meth c T locs cells slots) (hx : p.tables.exec = Jvm.exec) {i : Int} {v : Int32} (hd : decode c.code pc = .ok (.iconst i, 1)) (hp : pc' = pc + 1) (hv : Int32.ofInt i = v) (k : G (T.setTop (mkF m pc' Ls (.int v :: rest)))) : G (T.setTop (mkF m pc Ls (rest))) := by
  subst hp
  subst hv
  refine hG _ _ (fun t ht => ?_) k
  exact XS.iconst X.here hx rfl hd ht
theorem g_bipush (hG : Cl p e below G) (X : Stand p l e R s m args below meth c T locs cells slots) (hx : p.tables.exec = Jvm.exec) {i : Int} {v : Int32} (hd : decode c.code pc = .ok (.bipush i, 2)) (hp : pc' = pc + 2) (hv : (Int8.ofInt i).toInt32 = v) (k : G (T.setTop (mkF m pc' Ls (.int v :: rest)))) : G (T.setTop (mkF m pc Ls (rest))) := by
  subst hp
  subst hv
  refine hG _ _ (fun t ht => ?_) k
  exact XS.bipush X.here hx rfl hd ht
theorem g_sipush (hG : Cl p e below G) (X : Stand p l e R s m args below meth c T locs cells slots) (hx : p.tables.exec = Jvm.exec) {i : Int} {v : Int32} (hd : decode c.code pc = .ok (.sipush i, 3)) (hp : pc' = pc + 3) (hv : (Int16.ofInt i).toInt32 = v) (k : G (T.setTop (mkF m pc' Ls (.int v :: rest)))) : G (T.setTop (mkF m pc Ls (rest))) := by
  subst hp
  subst hv
  refine hG _ _ (fun t ht => ?_) k
  exact XS.sipush X.here hx rfl hd ht
theorem g_lconst (hG : Cl p e below G) (X : Stand p l e R s m args below meth c T locs cells slots) (hx : p.tables.exec = Jvm.exec) {i : Fin 2} {v : Int64} (hd : decode c.code pc = .ok (.lconst i, 1)) (hp : pc' = pc + 1) (hv : Int64.ofNat i.val = v) (k : G (T.setTop (mkF m pc' Ls (.long v :: rest)))) : G (T.setTop (mkF m pc Ls (rest))) := by
  subst hp
  subst hv
  refine hG _ _ (fun t ht => ?_) k
  exact XS.lconst X.here hx rfl hd ht
theorem g_dconst0 (hG : Cl p e below G) (X : Stand p l e R s m args below meth c T locs cells slots) (hx : p.tables.exec = Jvm.exec) {v : UInt64} (hd : decode c.code pc = .ok (.dconst 0, 1)) (hp : pc' = pc + 1) (hv : FP.dconst0 = v) (k : G (T.setTop (mkF m pc' Ls (.double v :: rest)))) : G (T.setTop (mkF m pc Ls (rest))) := by
  subst hp
  subst hv
  refine hG _ _ (fun t ht => ?_) k
  exact XS.dconst0 X.here hx rfl hd rfl ht
theorem g_dconst1 (hG : Cl p e below G) (X : Stand p l e R s m args below meth c T locs cells slots) (hx : p.tables.exec = Jvm.exec) {v : UInt64} (hd : decode c.code pc = .ok (.dconst 1, 1)) (hp : pc' = pc + 1) (hv : FP.dconst1 = v) (k : G (T.setTop (mkF m pc' Ls (.double v :: rest)))) : G (T.setTop (mkF m pc Ls (rest))) := by
  subst hp
  subst hv
  refine hG _ _ (fun t ht => ?_) k
  exact XS.dconst1 X.here hx rfl hd rfl ht
theorem g_aconstNull (hG : Cl p e below G) (X : Stand p l e R s m args below meth c T locs cells slots) (hx : p.tables.exec = Jvm.exec)  (hd : decode c.code pc = .ok (.aconst_null, 1)) (hp : pc' = pc + 1) (k : G (T.setTop (mkF m pc' Ls (.null :: rest)))) : G (T.setTop (mkF m pc Ls (rest))) := by
  subst hp
  refine hG _ _ (fun t ht => ?_) k
  exact XS.aconstNull X.here hx rfl hd ht
theorem g_iadd (hG : Cl p e below G) (X : Stand p l e R s m args below meth c T locs cells slots) (hx : p.tables.exec = Jvm.exec) {x y v : Int32} (hd : decode c.code pc = .ok (.iadd, 1)) (hp : pc' = pc + 1) (hv : x + y = v) (k : G (T.setTop (mkF m pc' Ls (.int v :: rest)))) : G (T.setTop (mkF m pc Ls (.int y :: .int x :: rest))) := by
  subst hp
  subst hv
  refine hG _ _ (fun t ht => ?_) k
  exact XS.iadd X.here hx rfl hd rfl ht
theorem g_ladd (hG : Cl p e below G) (X : Stand p l e R s m args below meth c T locs cells slots) (hx : p.tables.exec = Jvm.exec) {x y v : Int64} (hd : decode c.code pc = .ok (.ladd, 1)) (hp : pc' = pc + 1) (hv : x + y = v) (k : G (T.setTop (mkF m pc' Ls (.long v :: rest)))) : G (T.setTop (mkF m pc Ls (.long y :: .long x :: rest))) := by
  subst hp
  subst hv
  refine hG _ _ (fun t ht => ?_) k
  exact XS.ladd X.here hx rfl hd rfl ht
theorem g_isub (hG : Cl p e below G) (X : Stand p l e R s m args below meth c T locs cells slots) (hx : p.tables.exec = Jvm.exec) {x y v : Int32} (hd : decode c.code pc = .ok (.isub, 1)) (hp : pc' = pc + 1) (hv : x - y = v) (k : G (T.setTop (mkF m pc' Ls (.int v :: rest)))) : G (T.setTop (mkF m pc Ls (.int y :: .int x :: rest))) := by
  subst hp
  subst hv
  refine hG _ _ (fun t ht => ?_) k
  exact XS.isub X.here hx rfl hd rfl ht
theorem g_lsub (hG : Cl p e below G) (X : Stand p l e R s m args below meth c T locs cells slots) (hx : p.tables.exec = Jvm.exec) {x y v : Int64} (hd : decode c.code pc = .ok (.lsub, 1)) (hp : pc' = pc + 1) (hv : x - y = v) (k : G (T.setTop (mkF m pc' Ls (.long v :: rest)))) : G (T.setTop (mkF m pc Ls (.long y :: .long x :: rest))) := by
  subst hp
  subst hv
  refine hG _ _ (fun t ht => ?_) k
  exact XS.lsub X.here hx rfl hd rfl ht
theorem g_imul (hG : Cl p e below G) (X : Stand p l e R s m args below meth c T locs cells slots) (hx : p.tables.exec = Jvm.exec) {x y v : Int32} (hd : decode c.code pc = .ok (.imul, 1)) (hp : pc' = pc + 1) (hv : x * y = v) (k : G (T.setTop (mkF m pc' Ls (.int v :: rest)))) : G (T.setTop (mkF m pc Ls (.int y :: .int x :: rest))) := by
  subst hp
  subst hv
  refine hG _ _ (fun t ht => ?_) k
  exact XS.imul X.here hx rfl hd rfl ht
theorem g_lmul (hG : Cl p e below G) (X : Stand p l e R s m args below meth c T locs cells slots) (hx : p.tables.exec = Jvm.exec) {x y v : Int64} (hd : decode c.code pc = .ok (.lmul, 1)) (hp : pc' = pc + 1) (hv : x * y = v) (k : G (T.setTop (mkF m pc' Ls (.long v :: rest)))) : G (T.setTop (mkF m pc Ls (.long y :: .long x :: rest))) := by
  subst hp
  subst hv
  refine hG _ _ (fun t ht => ?_) k
  exact XS.lmul X.here hx rfl hd rfl ht
theorem g_iand (hG : Cl p e below G) (X : Stand p l e R s m args below meth c T locs cells slots) (hx : p.tables.exec = Jvm.exec) {x y v : Int32} (hd : decode c.code pc = .ok (.iand, 1)) (hp : pc' = pc + 1) (hv : x &&& y = v) (k : G (T.setTop (mkF m pc' Ls (.int v :: rest)))) : G (T.setTop (mkF m pc Ls (.int y :: .int x :: rest))) := by
  subst hp
  subst hv
  refine hG _ _ (fun t ht => ?_) k
  exact XS.iand X.here hx rfl hd rfl ht
theorem g_land (hG : Cl p e below G) (X : Stand p l e R s m args below meth c T locs cells slots) (hx : p.tables.exec = Jvm.exec) {x y v : Int64} (hd : decode c.code pc = .ok (.land, 1)) (hp : pc' = pc + 1) (hv : x &&& y = v) (k : G (T.setTop (mkF m pc' Ls (.long v :: rest)))) : G (T.setTop (mkF m pc Ls (.long y :: .long x :: rest))) := by
  subst hp
  subst hv
  refine hG _ _ (fun t ht => ?_) k
  exact XS.land X.here hx rfl hd rfl ht
theorem g_ior (hG : Cl p e below G) (X : Stand p l e R s m args below meth c T locs cells slots) (hx : p.tables.exec = Jvm.exec) {x y v : Int32} (hd : decode c.code pc = .ok (.ior, 1)) (hp : pc' = pc + 1) (hv : x ||| y = v) (k : G (T.setTop (mkF m pc' Ls (.int v :: rest)))) : G (T.setTop (mkF m pc Ls (.int y :: .int x :: rest))) := by
  subst hp
  subst hv
  refine hG _ _ (fun t ht => ?_) k
  exact XS.ior X.here hx rfl hd rfl ht
theorem g_lor (hG : Cl p e below G) (X : Stand p l e R s m args below meth c T locs cells slots) (hx : p.tables.exec = Jvm.exec) {x y v : Int64} (hd : decode c.code pc = .ok (.lor, 1)) (hp : pc' = pc + 1) (hv : x ||| y = v) (k : G (T.setTop (mkF m pc' Ls (.long v :: rest)))) : G (T.setTop (mkF m pc Ls (.long y :: .long x :: rest))) := by
  subst hp
  subst hv
  refine hG _ _ (fun t ht => ?_) k
  exact XS.lor X.here hx rfl hd rfl ht
theorem g_ixor (hG : Cl p e below G) (X : Stand p l e R s m args below meth c T locs cells slots) (hx : p.tables.exec = Jvm.exec) {x y v : Int32} (hd : decode c.code pc = .ok (.ixor, 1)) (hp : pc' = pc + 1) (hv : x ^^^ y = v) (k : G (T.setTop (mkF m pc' Ls (.int v :: rest)))) : G (T.setTop (mkF m pc Ls (.int y :: .int x :: rest))) := by
  subst hp
  subst hv
  refine hG _ _ (fun t ht => ?_) k
  exact XS.ixor X.here hx rfl hd rfl ht
theorem g_lxor (hG : Cl p e below G) (X : Stand p l e R s m args below meth c T locs cells slots) (hx : p.tables.exec = Jvm.exec) {x y v : Int64} (hd : decode c.code pc = .ok (.lxor, 1)) (hp : pc' = pc + 1) (hv : x ^^^ y = v) (k : G (T.setTop (mkF m pc' Ls (.long v :: rest)))) : G (T.setTop (mkF m pc Ls (.long y :: .long x :: rest))) := by
  subst hp
  subst hv
  refine hG _ _ (fun t ht => ?_) k
  exact XS.lxor X.here hx rfl hd rfl ht
theorem g_ineg (hG : Cl p e below G) (X : Stand p l e R s m args below meth c T locs cells slots) (hx : p.tables.exec = Jvm.exec) {x v : Int32} (hd : decode c.code pc = .ok (.ineg, 1)) (hp : pc' = pc + 1) (hv : -x = v) (k : G (T.setTop (mkF m pc' Ls (.int v :: rest)))) : G (T.setTop (mkF m pc Ls (.int x :: rest))) := by
  subst hp
  subst hv
  refine hG _ _ (fun t ht => ?_) k
  exact XS.ineg X.here hx rfl hd rfl ht
theorem g_lneg (hG : Cl p e below G) (X : Stand p l e R s m args below meth c T locs cells slots) (hx : p.tables.exec = Jvm.exec) {x v : Int64} (hd : decode c.code pc = .ok (.lneg, 1)) (hp : pc' = pc + 1) (hv : -x = v) (k : G (T.setTop (mkF m pc' Ls (.long v :: rest)))) : G (T.setTop (mkF m pc Ls (.long x :: rest))) := by
  subst hp
  subst hv
  refine hG _ _ (fun t ht => ?_) k
  exact XS.lneg X.here hx rfl hd rfl ht
theorem g_i2l (hG : Cl p e below G) (X : Stand p l e R s m args below meth c T locs cells slots) (hx : p.tables.exec = Jvm.exec) {x : Int32} {v : Int64} (hd : decode c.code pc = .ok (.i2l, 1)) (hp : pc' = pc + 1) (hv : x.toInt64 = v) (k : G (T.setTop (mkF m pc' Ls (.long v :: rest)))) : G (T.setTop (mkF m pc Ls (.int x :: rest))) := by
  subst hp
  subst hv
  refine hG _ _ (fun t ht => ?_) k
  exact XS.i2l X.here hx rfl hd rfl ht
theorem g_l2i (hG : Cl p e below G) (X : Stand p l e R s m args below meth c T locs cells slots) (hx : p.tables.exec = Jvm.exec) {x : Int64} {v : Int32} (hd : decode c.code pc = .ok (.l2i, 1)) (hp : pc' = pc + 1) (hv : x.toInt32 = v) (k : G (T.setTop (mkF m pc' Ls (.int v :: rest)))) : G (T.setTop (mkF m pc Ls (.long x :: rest))) := by
  subst hp
  subst hv
  refine hG _ _ (fun t ht => ?_) k
  exact XS.l2i X.here hx rfl hd rfl ht
theorem g_i2c (hG : Cl p e below G) (X : Stand p l e R s m args below meth c T locs cells slots) (hx : p.tables.exec = Jvm.exec) {x v : Int32} (hd : decode c.code pc = .ok (.i2c, 1)) (hp : pc' = pc + 1) (hv : x.toUInt32.toUInt16.toUInt32.toInt32 = v) (k : G (T.setTop (mkF m pc' Ls (.int v :: rest)))) : G (T.setTop (mkF m pc Ls (.int x :: rest))) := by
  subst hp
  subst hv
  refine hG _ _ (fun t ht => ?_) k
  exact XS.i2c X.here hx rfl hd rfl ht
theorem g_i2b (hG : Cl p e below G) (X : Stand p l e R s m args below meth c T locs cells slots) (hx : p.tables.exec = Jvm.exec) {x v : Int32} (hd : decode c.code pc = .ok (.i2b, 1)) (hp : pc' = pc + 1) (hv : x.toInt8.toInt32 = v) (k : G (T.setTop (mkF m pc' Ls (.int v :: rest)))) : G (T.setTop (mkF m pc Ls (.int x :: rest))) := by
  subst hp
  subst hv
  refine hG _ _ (fun t ht => ?_) k
  exact XS.i2b X.here hx rfl hd rfl ht
theorem g_ishl (hG : Cl p e below G) (X : Stand p l e R s m args below meth c T locs cells slots) (hx : p.tables.exec = Jvm.exec) {x y v : Int32} (hd : decode c.code pc = .ok (.ishl, 1)) (hp : pc' = pc + 1) (hv : x <<< (y &&& 31) = v) (k : G (T.setTop (mkF m pc' Ls (.int v :: rest)))) : G (T.setTop (mkF m pc Ls (.int y :: .int x :: rest))) := by
  subst hp
  subst hv
  refine hG _ _ (fun t ht => ?_) k
  exact XS.ishl X.here hx rfl hd rfl ht
theorem g_ishr (hG : Cl p e below G) (X : Stand p l e R s m args below meth c T locs cells slots) (hx : p.tables.exec = Jvm.exec) {x y v : Int32} (hd : decode c.code pc = .ok (.ishr, 1)) (hp : pc' = pc + 1) (hv : x >>> (y &&& 31) = v) (k : G (T.setTop (mkF m pc' Ls (.int v :: rest)))) : G (T.setTop (mkF m pc Ls (.int y :: .int x :: rest))) := by
  subst hp
  subst hv
  refine hG _ _ (fun t ht => ?_) k
  exact XS.ishr X.here hx rfl hd rfl ht
theorem g_iushr (hG : Cl p e below G) (X : Stand p l e R s m args below meth c T locs cells slots) (hx : p.tables.exec = Jvm.exec) {x y v : Int32} (hd : decode c.code pc = .ok (.iushr, 1)) (hp : pc' = pc + 1) (hv : (x.toUInt32 >>> (y &&& 31).toUInt32).toInt32 = v) (k : G (T.setTop (mkF m pc' Ls (.int v :: rest)))) : G (T.setTop (mkF m pc Ls (.int y :: .int x :: rest))) := by
  subst hp
  subst hv
  refine hG _ _ (fun t ht => ?_) k
  exact XS.iushr X.here hx rfl hd rfl ht
theorem g_lshl (hG : Cl p e below G) (X : Stand p l e R s m args below meth c T locs cells slots) (hx : p.tables.exec = Jvm.exec) {x : Int64} {y : Int32} {v : Int64} (hd : decode c.code pc = .ok (.lshl, 1)) (hp : pc' = pc + 1) (hv : x <<< (y &&& 0x3f).toInt64 = v) (k : G (T.setTop (mkF m pc' Ls (.long v :: rest)))) : G (T.setTop (mkF m pc Ls (.int y :: .long x :: rest))) := by
  subst hp
  subst hv
  refine hG _ _ (fun t ht => ?_) k
  exact XS.lshl X.here hx rfl hd rfl ht
theorem g_lshr (hG : Cl p e below G) (X : Stand p l e R s m args below meth c T locs cells slots) (hx : p.tables.exec = Jvm.exec) {x : Int64} {y : Int32} {v : Int64} (hd : decode c.code pc = .ok (.lshr, 1)) (hp : pc' = pc + 1) (hv : x >>> (y &&& 0x3f).toInt64 = v) (k : G (T.setTop (mkF m pc' Ls (.long v :: rest)))) : G (T.setTop (mkF m pc Ls (.int y :: .long x :: rest))) := by
  subst hp
  subst hv
  refine hG _ _ (fun t ht => ?_) k
  exact XS.lshr X.here hx rfl hd rfl ht
theorem g_lcmp (hG : Cl p e below G) (X : Stand p l e R s m args below meth c T locs cells slots) (hx : p.tables.exec = Jvm.exec) {x y : Int64} {v : Int32} (hd : decode c.code pc = .ok (.lcmp, 1)) (hp : pc' = pc + 1) (hv : lcmpW x y = v) (k : G (T.setTop (mkF m pc' Ls (.int v :: rest)))) : G (T.setTop (mkF m pc Ls (.long y :: .long x :: rest))) := by
  subst hp
  subst hv
  refine hG _ _ (fun t ht => ?_) k
  exact XS.lcmp X.here hx rfl hd rfl ht
theorem g_irem (hG : Cl p e below G) (X : Stand p l e R s m args below meth c T locs cells slots) (hx : p.tables.exec = Jvm.exec) {x y v : Int32} (hd : decode c.code pc = .ok (.irem, 1)) (hp : pc' = pc + 1) (hy : y ≠ 0) (hv : x % y = v) (k : G (T.setTop (mkF m pc' Ls (.int v :: rest)))) : G (T.setTop (mkF m pc Ls (.int y :: .int x :: rest))) := by
  subst hp
  subst hv
  refine hG _ _ (fun t ht => ?_) k
  exact iremM X hx rfl hd rfl hy ht
theorem g_lrem (hG : Cl p e below G) (X : Stand p l e R s m args below meth c T locs cells slots) (hx : p.tables.exec = Jvm.exec) {x y v : Int64} (hd : decode c.code pc = .ok (.lrem, 1)) (hp : pc' = pc + 1) (hy : y ≠ 0) (hv : x % y = v) (k : G (T.setTop (mkF m pc' Ls (.long v :: rest)))) : G (T.setTop (mkF m pc Ls (.long y :: .long x :: rest))) := by
  subst hp hv
  rw [← lrem_mod] at k
  refine hG _ _ (fun t ht => ?_) k
  exact XS.lrem X.here hx rfl hd rfl hy ht
theorem g_idiv (hG : Cl p e below G) (X : Stand p l e R s m args below meth c T locs cells slots) (hx : p.tables.exec = Jvm.exec) {x y v : Int32} (hd : decode c.code pc = .ok (.idiv, 1)) (hp : pc' = pc + 1) (hy : y ≠ 0) (hv : x / y = v) (k : G (T.setTop (mkF m pc' Ls (.int v :: rest)))) : G (T.setTop (mkF m pc Ls (.int y :: .int x :: rest))) := by
  subst hp
  subst hv
  refine hG _ _ (fun t ht => ?_) k
  exact XS.idiv X.here hx rfl hd rfl hy ht
theorem g_dup (hG : Cl p e below G) (X : Stand p l e R s m args below meth c T locs cells slots) (hx : p.tables.exec = Jvm.exec) {x : Value} (hd : decode c.code pc = .ok (.dup, 1)) (hp : pc' = pc + 1) (hc : x.category = 1) (k : G (T.setTop (mkF m pc' Ls (x :: x :: rest)))) : G (T.setTop (mkF m pc Ls (x :: rest))) := by
  subst hp
  refine hG _ _ (fun t ht => ?_) k
  exact XS.dup X.here hx rfl hd rfl hc ht
theorem g_pop (hG : Cl p e below G) (X : Stand p l e R s m args below meth c T locs cells slots) (hx : p.tables.exec = Jvm.exec) {x : Value} (hd : decode c.code pc = .ok (.pop, 1)) (hp : pc' = pc + 1) (hc : x.category = 1) (k : G (T.setTop (mkF m pc' Ls (rest)))) : G (T.setTop (mkF m pc Ls (x :: rest))) := by
  subst hp
  refine hG _ _ (fun t ht => ?_) k
  exact XS.pop X.here hx rfl hd rfl hc ht
theorem g_dupX1 (hG : Cl p e below G) (X : Stand p l e R s m args below meth c T locs cells slots) (hx : p.tables.exec = Jvm.exec) {x y : Value} (hd : decode c.code pc = .ok (.dup_x1, 1)) (hp : pc' = pc + 1) (hc : x.category = 1) (hc' : y.category = 1) (k : G (T.setTop (mkF m pc' Ls (x :: y :: x :: rest)))) : G (T.setTop (mkF m pc Ls (x :: y :: rest))) := by
  subst hp
  refine hG _ _ (fun t ht => ?_) k
  exact XS.dupX1 X.here hx rfl hd rfl hc hc' ht
theorem g_dup2 (hG : Cl p e below G) (X : Stand p l e R s m args below meth c T locs cells slots) (hx : p.tables.exec = Jvm.exec) {x y : Value} (hd : decode c.code pc = .ok (.dup2, 1)) (hp : pc' = pc + 1) (hc : x.category = 1) (hc' : y.category = 1) (k : G (T.setTop (mkF m pc' Ls (x :: y :: x :: y :: rest)))) : G (T.setTop (mkF m pc Ls (x :: y :: rest))) := by
  subst hp
  refine hG _ _ (fun t ht => ?_) k
  exact Jvm.Free.XT.dup2 X.here hx rfl hd rfl hc hc' ht
theorem g_iinc (hG : Cl p e below G) (X : Stand p l e R s m args below meth c T locs cells slots) (hx : p.tables.exec = Jvm.exec) {i : Nat} {cst : Int} {x v : Int32} (hd : decode c.code pc = .ok (.iinc i cst, 3)) (hp : pc' = pc + 3) (hl : Ls[i]? = some (.val (.int x))) (hv : x + Int32.ofInt cst = v) (hl' : storeLocals Ls i (.int v) = some Ls') (k : G (T.setTop (mkF m pc' Ls' (rest)))) : G (T.setTop (mkF m pc Ls (rest))) := by
  subst hp
  subst hv
  refine hG _ _ (fun t ht => ?_) k
  exact XS.iinc X.here hx rfl hd hl hl' ht
theorem g_i2d (hG : Cl p e below G) (X : Stand p l e R s m args below meth c T locs cells slots) (hx : p.tables.exec = Jvm.exec) {x : Int32} {v : UInt64} (hd : decode c.code pc = .ok (.i2d, 1)) (hp : pc' = pc + 1) (hv : FP.i2d x = v) (k : G (T.setTop (mkF m pc' Ls (.double v :: rest)))) : G (T.setTop (mkF m pc Ls (.int x :: rest))) := by
  subst hp
  subst hv
  refine hG _ _ (fun t ht => ?_) k
  exact XS.i2dS X.here hx rfl hd rfl rfl ht
theorem g_l2d (hG : Cl p e below G) (X : Stand p l e R s m args below meth c T locs cells slots) (hx : p.tables.exec = Jvm.exec) {x : Int64} {v : UInt64} (hd : decode c.code pc = .ok (.l2d, 1)) (hp : pc' = pc + 1) (hv : FP.l2d x = v) (k : G (T.setTop (mkF m pc' Ls (.double v :: rest)))) : G (T.setTop (mkF m pc Ls (.long x :: rest))) := by
  subst hp
  subst hv
  refine hG _ _ (fun t ht => ?_) k
  exact XS.l2dS X.here hx rfl hd rfl rfl ht
theorem g_d2i (hG : Cl p e below G) (X : Stand p l e R s m args below meth c T locs cells slots) (hx : p.tables.exec = Jvm.exec) {x : UInt64} {v : Int32} (hd : decode c.code pc = .ok (.d2i, 1)) (hp : pc' = pc + 1) (hv : FP.d2i x = v) (k : G (T.setTop (mkF m pc' Ls (.int v :: rest)))) : G (T.setTop (mkF m pc Ls (.double x :: rest))) := by
  subst hp
  subst hv
  refine hG _ _ (fun t ht => ?_) k
  exact XS.d2iS X.here hx rfl hd rfl rfl ht
theorem g_d2l (hG : Cl p e below G) (X : Stand p l e R s m args below meth c T locs cells slots) (hx : p.tables.exec = Jvm.exec) {x : UInt64} {v : Int64} (hd : decode c.code pc = .ok (.d2l, 1)) (hp : pc' = pc + 1) (hv : FP.d2l x = v) (k : G (T.setTop (mkF m pc' Ls (.long v :: rest)))) : G (T.setTop (mkF m pc Ls (.double x :: rest))) := by
  subst hp
  subst hv
  refine hG _ _ (fun t ht => ?_) k
  exact XS.d2lS X.here hx rfl hd rfl rfl ht
theorem g_dneg (hG : Cl p e below G) (X : Stand p l e R s m args below meth c T locs cells slots) (hx : p.tables.exec = Jvm.exec) {x v : UInt64} (hd : decode c.code pc = .ok (.dneg, 1)) (hp : pc' = pc + 1) (hv : FP.dneg x = v) (k : G (T.setTop (mkF m pc' Ls (.double v :: rest)))) : G (T.setTop (mkF m pc Ls (.double x :: rest))) := by
  subst hp
  subst hv
  refine hG _ _ (fun t ht => ?_) k
  exact XS.dnegS X.here hx rfl hd rfl rfl ht
theorem g_dcmp (hG : Cl p e below G) (X : Stand p l e R s m args below meth c T locs cells slots) (hx : p.tables.exec = Jvm.exec) {x y : UInt64} {o : CmpOp} {v : Int32} (hd : decode c.code pc = .ok (.dcmp o, 1)) (hp : pc' = pc + 1) (hv : cmpValue (FP.dcmp x y) o = v) (k : G (T.setTop (mkF m pc' Ls (.int v :: rest)))) : G (T.setTop (mkF m pc Ls (.double y :: .double x :: rest))) := by
  subst hp
  subst hv
  refine hG _ _ (fun t ht => ?_) k
  exact XS.dcmpS X.here hx rfl hd rfl rfl ht
theorem g_dadd (hG : Cl p e below G) (X : Stand p l e R s m args below meth c T locs cells slots) (hx : p.tables.exec = Jvm.exec) {x y v : UInt64} (hd : decode c.code pc = .ok (.dadd, 1)) (hp : pc' = pc + 1) (hn : Jvm.Free.Fl.NoNaN64 (FP.dadd x y)) (hv : FP.dadd x y = v) (k : G (T.setTop (mkF m pc' Ls (.double v :: rest)))) : G (T.setTop (mkF m pc Ls (.double y :: .double x :: rest))) := by
  subst hp
  subst hv
  refine hG _ _ (fun t ht => ?_) k
  exact XS.daddS X.here hx rfl hd rfl hn rfl ht
theorem g_dsub (hG : Cl p e below G) (X : Stand p l e R s m args below meth c T locs cells slots) (hx : p.tables.exec = Jvm.exec) {x y v : UInt64} (hd : decode c.code pc = .ok (.dsub, 1)) (hp : pc' = pc + 1) (hn : Jvm.Free.Fl.NoNaN64 (FP.dsub x y)) (hv : FP.dsub x y = v) (k : G (T.setTop (mkF m pc' Ls (.double v :: rest)))) : G (T.setTop (mkF m pc Ls (.double y :: .double x :: rest))) := by
  subst hp
  subst hv
  refine hG _ _ (fun t ht => ?_) k
  exact XS.dsubS X.here hx rfl hd rfl hn rfl ht
theorem g_dmul (hG : Cl p e below G) (X : Stand p l e R s m args below meth c T locs cells slots) (hx : p.tables.exec = Jvm.exec) {x y v : UInt64} (hd : decode c.code pc = .ok (.dmul, 1)) (hp : pc' = pc + 1) (hn : Jvm.Free.Fl.NoNaN64 (FP.dmul x y)) (hv : FP.dmul x y = v) (k : G (T.setTop (mkF m pc' Ls (.double v :: rest)))) : G (T.setTop (mkF m pc Ls (.double y :: .double x :: rest))) := by
  subst hp
  subst hv
  refine hG _ _ (fun t ht => ?_) k
  exact XS.dmulS X.here hx rfl hd rfl hn rfl ht
theorem g_ddiv (hG : Cl p e below G) (X : Stand p l e R s m args below meth c T locs cells slots) (hx : p.tables.exec = Jvm.exec) {x y v : UInt64} (hd : decode c.code pc = .ok (.ddiv, 1)) (hp : pc' = pc + 1) (hn : Jvm.Free.Fl.NoNaN64 (FP.ddiv x y)) (hv : FP.ddiv x y = v) (k : G (T.setTop (mkF m pc' Ls (.double v :: rest)))) : G (T.setTop (mkF m pc Ls (.double y :: .double x :: rest))) := by
  subst hp
  subst hv
  refine hG _ _ (fun t ht => ?_) k
  exact XS.ddivS X.here hx rfl hd rfl hn rfl ht
theorem g_goto (hG : Cl p e below G) (X : Stand p l e R s m args below meth c T locs cells slots) (hx : p.tables.exec = Jvm.exec) {o : Int} (hd : decode c.code pc = .ok (.goto o, 3)) (ho : 0 ≤ (pc : Int) + o) (hp : ((pc : Int) + o).toNat = pc') (k : G (T.setTop (mkF m pc' Ls rest))) : G (T.setTop (mkF m pc Ls rest)) := by
  refine hG _ _ (fun t ht => ?_) k
  exact XS.goto X.here hx rfl (pc0 := pc) rfl hd ho hp ht
theorem g_ifYes (hG : Cl p e below G) (X : Stand p l e R s m args below meth c T locs cells slots) (hx : p.tables.exec = Jvm.exec) {cd : ClassFile.Cond} {x : Int32} {o : Int} (hd : decode c.code pc = .ok (.ifCond cd o, 3)) (hc : ifCond.holds cd x = true) (ho : 0 ≤ (pc : Int) + o) (hp : ((pc : Int) + o).toNat = pc') (k : G (T.setTop (mkF m pc' Ls rest))) : G (T.setTop (mkF m pc Ls (.int x :: rest))) := by
  refine hG _ _ (fun t ht => ?_) k
  exact XS.ifYes X.here hx rfl (pc0 := pc) rfl hd rfl hc ho hp ht
theorem g_ifNo (hG : Cl p e below G) (X : Stand p l e R s m args below meth c T locs cells slots) (hx : p.tables.exec = Jvm.exec) {cd : ClassFile.Cond} {x : Int32} {o : Int} (hd : decode c.code pc = .ok (.ifCond cd o, 3)) (hc : ifCond.holds cd x = false) (hp : pc' = pc + 3) (k : G (T.setTop (mkF m pc' Ls rest))) : G (T.setTop (mkF m pc Ls (.int x :: rest))) := by
  subst hp
  refine hG _ _ (fun t ht => ?_) k
  exact XS.ifNo X.here hx rfl hd rfl hc ht
theorem g_icmpYes (hG : Cl p e below G) (X : Stand p l e R s m args below meth c T locs cells slots) (hx : p.tables.exec = Jvm.exec) {cd : ClassFile.Cond} {x y : Int32} {o : Int} (hd : decode c.code pc = .ok (.if_icmp cd o, 3)) (hc : if_icmp.holds cd x y = true) (ho : 0 ≤ (pc : Int) + o) (hp : ((pc : Int) + o).toNat = pc') (k : G (T.setTop (mkF m pc' Ls rest))) : G (T.setTop (mkF m pc Ls (.int y :: .int x :: rest))) := by
  refine hG _ _ (fun t ht => ?_) k
  exact XS.icmpYes X.here hx rfl (pc0 := pc) rfl hd rfl hc ho hp ht
theorem g_icmpNo (hG : Cl p e below G) (X : Stand p l e R s m args below meth c T locs cells slots) (hx : p.tables.exec = Jvm.exec) {cd : ClassFile.Cond} {x y : Int32} {o : Int} (hd : decode c.code pc = .ok (.if_icmp cd o, 3)) (hc : if_icmp.holds cd x y = false) (hp : pc' = pc + 3) (k : G (T.setTop (mkF m pc' Ls rest))) : G (T.setTop (mkF m pc Ls (.int y :: .int x :: rest))) := by
  subst hp
  refine hG _ _ (fun t ht => ?_) k
  exact XS.icmpNo X.here hx rfl hd rfl hc ht
theorem g_ifnullYes (hG : Cl p e below G) (X : Stand p l e R s m args below meth c T locs cells slots) (hx : p.tables.exec = Jvm.exec) {o : Int} (hd : decode c.code pc = .ok (.ifnull o, 3)) (ho : 0 ≤ (pc : Int) + o) (hp : ((pc : Int) + o).toNat = pc') (k : G (T.setTop (mkF m pc' Ls rest))) : G (T.setTop (mkF m pc Ls (.null :: rest))) := by
  refine hG _ _ (fun t ht => ?_) k
  exact XS.ifnullYes X.here hx rfl (pc0 := pc) rfl hd rfl ho hp ht
theorem g_ifnullNo (hG : Cl p e below G) (X : Stand p l e R s m args below meth c T locs cells slots) (hx : p.tables.exec = Jvm.exec) {o : Int} {b : Addr} (hd : decode c.code pc = .ok (.ifnull o, 3)) (hp : pc' = pc + 3) (k : G (T.setTop (mkF m pc' Ls rest))) : G (T.setTop (mkF m pc Ls (.ref b :: rest))) := by
  subst hp
  refine hG _ _ (fun t ht => ?_) k
  exact XS.ifnullNo X.here hx rfl hd rfl ht
theorem g_ifnonnullYes (hG : Cl p e below G) (X : Stand p l e R s m args below meth c T locs cells slots) (hx : p.tables.exec = Jvm.exec) {o : Int} {b : Addr} (hd : decode c.code pc = .ok (.ifnonnull o, 3)) (ho : 0 ≤ (pc : Int) + o) (hp : ((pc : Int) + o).toNat = pc') (k : G (T.setTop (mkF m pc' Ls rest))) : G (T.setTop (mkF m pc Ls (.ref b :: rest))) := by
  refine hG _ _ (fun t ht => ?_) k
  exact XS.ifnonnullYes X.here hx rfl (pc0 := pc) rfl hd rfl ho hp ht
theorem g_ifnonnullNo (hG : Cl p e below G) (X : Stand p l e R s m args below meth c T locs cells slots) (hx : p.tables.exec = Jvm.exec) {o : Int} (hd : decode c.code pc = .ok (.ifnonnull o, 3)) (hp : pc' = pc + 3) (k : G (T.setTop (mkF m pc' Ls rest))) : G (T.setTop (mkF m pc Ls (.null :: rest))) := by
  subst hp
  refine hG _ _ (fun t ht => ?_) k
  exact XS.ifnonnullNo X.here hx rfl hd rfl ht
theorem g_acmp (hG : Cl p e below G) (X : Stand p l e R s m args below meth c T locs cells slots) (hx : p.tables.exec = Jvm.exec) {cd : ACond} {x y : Value} (h1 : x.isRef = true) (h2 : y.isRef = true) {o : Int} {same : Bool} (hd : decode c.code pc = .ok (.if_acmp cd o, 3)) (hq : decide (x = y) = same) (ho : 0 ≤ (pc : Int) + o) (hp : pc' = if acV cd same = true then ((pc : Int) + o).toNat else pc + 3) (k : G (T.setTop (mkF m pc' Ls rest))) : G (T.setTop (mkF m pc Ls (y :: x :: rest))) := by
  refine hG _ _ (fun t ht => ?_) k
  exact Jvm.RoadKit.acmp (g := mkF m pc Ls (y :: x :: rest)) X hx rfl h1 h2 (pc0 := pc) rfl hd rfl hq ho hp ht
/-! constants -/
theorem g_ldcInt (hG : Cl p e below G) (X : Stand p l e R s m args below meth c T locs cells slots) (hx : p.tables.exec = Jvm.exec) (hZ : Z.Warmed39 s.vm) {own : String} {index : Nat} {v : Int32} (hown : s.vm.findClass own = some m.cls) (w : (Jvm.Cond.constant own index v).before a0 Z = true) (hd : decode c.code pc = .ok (.ldc index, 2)) (hp : pc' = pc + 2) (k : G (T.setTop (mkF m pc' Ls (.int v :: rest)))) : G (T.setTop (mkF m pc Ls rest)) := by
  subst hp
  refine hG _ _ (fun t ht => ?_) k
  exact X.ldcInt hx hown (mvT hZ w) (g := mkF m pc Ls rest) rfl hd t ht
theorem g_ldcLong (hG : Cl p e below G) (X : Stand p l e R s m args below meth c T locs cells slots) (hx : p.tables.exec = Jvm.exec) (hZ : Z.Warmed39 s.vm) {own : String} {index : Nat} {v : Int64} (hown : s.vm.findClass own = some m.cls) (w : (Jvm.Cond.constantLong own index v).before a0 Z = true) (hd : decode c.code pc = .ok (.ldc2_w index, 3)) (hp : pc' = pc + 3) (k : G (T.setTop (mkF m pc' Ls (.long v :: rest)))) : G (T.setTop (mkF m pc Ls rest)) := by
  subst hp
  refine hG _ _ (fun t ht => ?_) k
  exact X.ldc2Long hx hown (mvT hZ w) (g := mkF m pc Ls rest) rfl hd t ht
theorem g_ldcDouble (hG : Cl p e below G) (X : Stand p l e R s m args below meth c T locs cells slots) (hx : p.tables.exec = Jvm.exec) (hZ : Z.Warmed39 s.vm) {own : String} {index : Nat} {v : UInt64} (hown : s.vm.findClass own = some m.cls) (w : (Jvm.Cond.constantDouble own index v).before a0 Z = true) (hd : decode c.code pc = .ok (.ldc2_w index, 3)) (hp : pc' = pc + 3) (k : G (T.setTop (mkF m pc' Ls (.double v :: rest)))) : G (T.setTop (mkF m pc Ls rest)) := by
  subst hp
  refine hG _ _ (fun t ht => ?_) k
  exact X.ldc2DoubleC hx hown (mvT hZ w) (g := mkF m pc Ls rest) rfl hd t ht
/-! fields -/
theorem g_getF (hG : Cl p e below G) (X : Stand p l e R s m args below meth c T locs cells slots) (hx : p.tables.exec = Jvm.exec) (hZ : Z.Warmed39 s.vm) {own R0 O n d : String} {index : Nat} (hown : s.vm.findClass own = some m.cls) (w : (Jvm.Cond.fieldLink own index R0 n d).before a0 Z = true) (via : Via Z R0 O n d) (eT : T.heap = h) {a : Addr} {v : Value} (F : Fld Z h a O n d v) (hd : decode c.code pc = .ok (.getfield index, 3)) (hp : pc' = pc + 3)
    (k : ∀ T', Stand p l e R s m args below meth c T' locs cells slots → T'.heap = h → G (T'.setTop (mkF m pc' Ls (v :: rest)))) : G (T.setTop (mkF m pc Ls (.ref a :: rest))) := by
  subst hp
  obtain ⟨T', X', e', st⟩ := getF X hx hZ hown (host := "") (Or.inl w) via eT F (g := mkF m pc Ls (.ref a :: rest)) rfl rfl hd
  exact hG _ _ st (k T' X' e')
theorem g_putF (hG : Cl p e below G) (X : Stand p l e R s m args below meth c T locs cells slots) (hx : p.tables.exec = Jvm.exec) (hZ : Z.Warmed39 s.vm) {own R0 O n d C : String} {index kk : Nat} {ty : FieldType} (hown : s.vm.findClass own = some m.cls) (w : (Jvm.Cond.fieldLink own index R0 n d).before a0 Z = true) (via : Via Z R0 O n d) (eT : T.heap = h) {a : Addr} {v v' old : Value} (F : Fld Z h a O n d old) (E : Exa Z h a C)
    (L : (Jvm.Cond.lays C O n d).before a0 Z = true ∨ ((Jvm.Cond.laysFinal C O n d).before a0 Z = true ∧ own = O ∧ meth.name = "<init>")) (wi : (Jvm.Cond.instantiable C kk).before a0 Z = true) (hty : parseFieldDescriptor d = some ty) (hn : narrow ty v = v') (hf : fits ty v' = true) (hd : decode c.code pc = .ok (.putfield index, 3)) (hp : pc' = pc + 3)
    (k : ∀ T' h', Stand p l e R s m args below meth c T' (locs ++ [⟨a, Jvm.RoadKit.slotOf Z O n d⟩]) cells slots → T'.heap = h' → Wr h h' a (Jvm.RoadKit.slotOf Z O n d) v' → G (T'.setTop (mkF m pc' Ls rest))) : G (T.setTop (mkF m pc Ls (v :: .ref a :: rest))) := by
  subst hp
  obtain ⟨T', h', X', e', W, st⟩ := putFN X hx hZ hown w via eT F E L wi hty hn hf (g := mkF m pc Ls (v :: .ref a :: rest)) rfl rfl hd
  exact hG _ _ st (k T' h' X' e' W)
theorem g_newO (hG : Cl p e below G) (X : Stand p l e R s m args below meth c T locs cells slots) (hx : p.tables.exec = Jvm.exec) (hZ : Z.Warmed39 s.vm) {own C : String} {index n : Nat} (hown : s.vm.findClass own = some m.cls) (w : (Jvm.Cond.classLink own index C).before a0 Z = true) (wi : (Jvm.Cond.instantiable C n).before a0 Z = true) (wz : (Jvm.Cond.initialized C).before a0 Z = true) (eT : T.heap = h) (hd : decode c.code pc = .ok (.new index, 3)) (hc : cells + 1 ≤ R.cells) (hl : slots + n ≤ R.slots) (hp : pc' = pc + 3)
    (k : ∀ T' h' b, b = h.size → Stand p l e R s m args below meth c T' locs (cells + 1) (slots + n) → T'.heap = h' → Ext h h' → Exa Z h' b C → (∀ {O nm d : String} {ty : FieldType}, Laid Z a0 C O nm d → parseFieldDescriptor d = some ty → Fld Z h' b O nm d (defaultValue ty)) → G (T'.setTop (mkF m pc' Ls (.ref b :: rest)))) : G (T.setTop (mkF m pc Ls rest)) := by
  subst hp
  obtain ⟨T', h', X', e', E, A, D, -, st⟩ := newO X hx hZ hown w wi wz eT (g := mkF m pc Ls rest) rfl hd hc hl
  exact hG _ _ st (k T' h' _ rfl X' e' E A D)
theorem g_initO (hG : Cl p e below G) (X : Stand p l e R s m args below meth c T locs cells slots) (hx : p.tables.exec = Jvm.exec) (hZ : Z.Warmed39 s.vm) {own : String} {index : Nat} (hown : s.vm.findClass own = some m.cls) (w1 : (Jvm.Cond.methodLink own index Lib.objectInit).before a0 Z = true) (w2 : (Jvm.Cond.instanceMethod Lib.objectInit).before a0 Z = true) (w3 : (Jvm.Cond.code Lib.objectInit ⟨#[0xb1]⟩ 1 none).before a0 Z = true) (eT : T.heap = h) {a : Addr}
    (hsz : Ls.size = c.maxLocals) (hd : decode c.code pc = .ok (.invokespecial index, 3)) (hfr : 1 ≤ R.frames) (hlo : (rest.map fun v => v.category).sum + 12 ≤ R.locals) (hp : pc' = pc + 3)
    (k : ∀ T', Stand p l e R s m args below meth c T' locs cells slots → T'.heap = h → G (T'.setTop (mkF m pc' Ls rest))) : G (T.setTop (mkF m pc Ls (.ref a :: rest))) := by
  subst hp
  obtain ⟨T', X', e', st⟩ := initO X hx hZ hown w1 w2 w3 eT (g := mkF m pc Ls (.ref a :: rest)) rfl hsz rfl hd hfr (W := (rest.map fun v => v.category).sum) (by show 2 * 0 + _ ≤ _; omega) hlo
  exact hG _ _ st (k T' X' e')
/-! arrays -/
theorem g_newP (hG : Cl p e below G) (X : Stand p l e R s m args below meth c T locs cells slots) (hx : p.tables.exec = Jvm.exec) (hZ : Z.Warmed39 s.vm) {aty : ArrayType} (w : (Jvm.Cond.arrayClass (newarray.typeOf aty)).before a0 Z = true) (eT : T.heap = h) {n : Int32} (hd : decode c.code pc = .ok (.newarray aty, 2)) (hn : ¬ n < 0) (cap : Nat) (hcap : n.toNatClampNeg ≤ cap) (hb : cap * 8 ≤ 536870912) (hc : cells + 1 ≤ R.cells) (hl : slots + cap ≤ R.slots) (hp : pc' = pc + 2)
    (k : ∀ T' h' b kA, b = h.size → Stand p l e R s m args below meth c T' locs (cells + 1) (slots + cap) → T'.heap = h' → Ext h h' → Arv Z h' b kA (newarray.typeOf aty) n [] (defaultValue (newarray.typeOf aty)) → G (T'.setTop (mkF m pc' Ls (.ref b :: rest)))) : G (T.setTop (mkF m pc Ls (.int n :: rest))) := by
  subst hp
  obtain ⟨T', h', kA, X', e', E, A, st⟩ := newP X hx hZ w eT (g := mkF m pc Ls (.int n :: rest)) rfl hd rfl hn hcap hb hc hl
  exact hG _ _ st (k T' h' _ kA rfl X' e' E (Arv.new A hn))

/-! arrays, with all that they hold -/
def AV (Z : State) (h : Heap) (a : Addr) (ty : FieldType) (n : Int32) (vs : List Value) : Prop := ∃ k, Arv Z h a k ty n vs (defaultValue ty) ∧ vs.length = n.toNatClampNeg
theorem AV.lt {a : Addr} {ty : FieldType} {n : Int32} {vs : List Value} (A : AV Z h a ty n vs) : a < h.size := by obtain ⟨k, A, -⟩ := A; exact A.lt
theorem AV.ext {h' : Heap} {a : Addr} {ty : FieldType} {n : Int32} {vs : List Value} (A : AV Z h a ty n vs) (E : Ext h h') : AV Z h' a ty n vs := by obtain ⟨k, A, q⟩ := A; exact ⟨k, A.ext E, q⟩
theorem AV.other {h' : Heap} {a b : Addr} {sl : Nat} {v : Value} {ty : FieldType} {n : Int32} {vs : List Value} (A : AV Z h a ty n vs) (W : Wr h h' b sl v) (q : a ≠ b) : AV Z h' a ty n vs := by obtain ⟨k, A, r⟩ := A; exact ⟨k, A.other W q, r⟩
theorem AV.keep {h' : Heap} {a : Addr} {ws : List Addr} {ty : FieldType} {n : Int32} {vs : List Value} (A : AV Z h a ty n vs) (K : Keep h h' ws) (q : a ∉ ws) : AV Z h' a ty n vs := by obtain ⟨k, A, r⟩ := A; exact ⟨k, A.keep K q, r⟩
theorem AV.new {a : Addr} {k : ClassId} {ty : FieldType} {n : Int32} (A : Arv Z h a k ty n [] (defaultValue ty)) : AV Z h a ty n (List.replicate n.toNatClampNeg (defaultValue ty)) := ⟨k, A.pad (fun i => by have q := pad_rep [] (defaultValue ty) n.toNatClampNeg i; simpa using q), by simp⟩
theorem AV.at {a : Addr} {ty : FieldType} {n : Int32} {vs : List Value} (A : AV Z h a ty n vs) {j : Int32} {v : Value} (hj : ¬ j < 0) (hv : vs[j.toNatClampNeg]? = some v) :
    ∃ c, Arr Z h a c ty ∧ ¬ (j < 0 ∨ c.slots.size ≤ j.toNatClampNeg) ∧ c.slots[j.toNatClampNeg]? = some v := by
  obtain ⟨k, ⟨c, A, q1, S, q3, H, Gf⟩, q⟩ := A
  have hl : j.toNatClampNeg < vs.length := (List.getElem?_eq_some_iff.mp hv).1
  have hin : ¬ (j < 0 ∨ c.slots.size ≤ j.toNatClampNeg) := fun z => z.elim hj (fun y => by omega)
  refine ⟨c, A, hin, Has.at H hin ?_⟩
  simp [List.getD, hv]
theorem AV.set {h' : Heap} {a : Addr} {ty : FieldType} {n : Int32} {vs : List Value} (A : AV Z h a ty n vs) {j : Int32} {v : Value} (W : Wr h h' a j.toNatClampNeg v) (hv : fits ty v = true) (hl : j.toNatClampNeg < vs.length) : AV Z h' a ty n (vs.set j.toNatClampNeg v) := by
  obtain ⟨k, ⟨c, A, q1, S, q3, H, Gf⟩, q⟩ := A
  exact ⟨k, Arv.set A q1 S q3 H Gf hv W _ rfl hl, by simpa using q⟩
theorem AV.inb {a : Addr} {ty : FieldType} {n : Int32} {vs : List Value} (A : AV Z h a ty n vs) {j : Int32} (hj : ¬ j < 0) (hl : j.toNatClampNeg < vs.length) : ∃ c, Arr Z h a c ty ∧ ¬ (j < 0 ∨ c.slots.size ≤ j.toNatClampNeg) := by
  obtain ⟨k, ⟨c, A, q1, S, q3, H, Gf⟩, q⟩ := A
  exact ⟨c, A, fun z => z.elim hj (fun y => by omega)⟩
theorem g_iaload (hG : Cl p e below G) (X : Stand p l e R s m args below meth c T locs cells slots) (hx : p.tables.exec = Jvm.exec) (hZ : Z.Warmed39 s.vm) (eT : T.heap = h) {a : Addr} {n : Int32} {vs : List Value} (A : AV Z h a .int n vs) {j : Int32} {v : Value} (hj : ¬ j < 0) (hv : vs[j.toNatClampNeg]? = some v) (hd : decode c.code pc = .ok (.iaload, 1)) (hp : pc' = pc + 1) (k : G (T.setTop (mkF m pc' Ls (v :: rest)))) : G (T.setTop (mkF m pc Ls (.int j :: .ref a :: rest))) := by
  subst hp
  obtain ⟨cl, Ar, hin, hat⟩ := A.at hj hv
  refine hG _ _ (fun t ht => ?_) k
  exact X.iaload hx (by rw [eT]; exact Ar.1) (State.isArrayOf_alike hZ.alike Ar.2.1) Ar.2.2 hin hat (g := mkF m pc Ls (.int j :: .ref a :: rest)) rfl rfl hd t ht
theorem g_daload (hG : Cl p e below G) (X : Stand p l e R s m args below meth c T locs cells slots) (hx : p.tables.exec = Jvm.exec) (hZ : Z.Warmed39 s.vm) (eT : T.heap = h) {a : Addr} {n : Int32} {vs : List Value} (A : AV Z h a .double n vs) {j : Int32} {v : Value} (hj : ¬ j < 0) (hv : vs[j.toNatClampNeg]? = some v) (hd : decode c.code pc = .ok (.daload, 1)) (hp : pc' = pc + 1) (k : G (T.setTop (mkF m pc' Ls (v :: rest)))) : G (T.setTop (mkF m pc Ls (.int j :: .ref a :: rest))) := by
  subst hp
  obtain ⟨cl, Ar, hin, hat⟩ := A.at hj hv
  refine hG _ _ (fun t ht => ?_) k
  exact X.daload hx (by rw [eT]; exact Ar.1) (State.isArrayOf_alike hZ.alike Ar.2.1) Ar.2.2 hin hat (g := mkF m pc Ls (.int j :: .ref a :: rest)) rfl rfl hd t ht
theorem g_laload (hG : Cl p e below G) (X : Stand p l e R s m args below meth c T locs cells slots) (hx : p.tables.exec = Jvm.exec) (hZ : Z.Warmed39 s.vm) (eT : T.heap = h) {a : Addr} {n : Int32} {vs : List Value} (A : AV Z h a .long n vs) {j : Int32} {v : Value} (hj : ¬ j < 0) (hv : vs[j.toNatClampNeg]? = some v) (hd : decode c.code pc = .ok (.laload, 1)) (hp : pc' = pc + 1) (k : G (T.setTop (mkF m pc' Ls (v :: rest)))) : G (T.setTop (mkF m pc Ls (.int j :: .ref a :: rest))) := by
  subst hp
  obtain ⟨cl, Ar, hin, hat⟩ := A.at hj hv
  refine hG _ _ (fun t ht => ?_) k
  exact X.laload hx (by rw [eT]; exact Ar.1) (State.isArrayOf_alike hZ.alike Ar.2.1) Ar.2.2 hin hat (g := mkF m pc Ls (.int j :: .ref a :: rest)) rfl rfl hd t ht
theorem g_zaload (hG : Cl p e below G) (X : Stand p l e R s m args below meth c T locs cells slots) (hx : p.tables.exec = Jvm.exec) (hZ : Z.Warmed39 s.vm) (eT : T.heap = h) {a : Addr} {n : Int32} {vs : List Value} (A : AV Z h a .boolean n vs) {j : Int32} {v : Value} (hj : ¬ j < 0) (hv : vs[j.toNatClampNeg]? = some v) (hd : decode c.code pc = .ok (.baload, 1)) (hp : pc' = pc + 1) (k : G (T.setTop (mkF m pc' Ls (v :: rest)))) : G (T.setTop (mkF m pc Ls (.int j :: .ref a :: rest))) := by
  subst hp
  obtain ⟨cl, Ar, hin, hat⟩ := A.at hj hv
  refine hG _ _ (fun t ht => ?_) k
  exact X.baloadBooleans hx (by rw [eT]; exact Ar.1) (State.isArrayOf_alike hZ.alike Ar.2.1) Ar.2.2 hin hat (g := mkF m pc Ls (.int j :: .ref a :: rest)) rfl rfl hd t ht
theorem g_iastore (hG : Cl p e below G) (X : Stand p l e R s m args below meth c T locs cells slots) (hx : p.tables.exec = Jvm.exec) (hZ : Z.Warmed39 s.vm) (eT : T.heap = h) {a : Addr} {n : Int32} {vs : List Value} (A : AV Z h a .int n vs) {j : Int32} {x : Int32} (hj : ¬ j < 0) (hl : j.toNatClampNeg < vs.length) (hd : decode c.code pc = .ok (.iastore, 1)) (hp : pc' = pc + 1)
    (k : ∀ T' h', Stand p l e R s m args below meth c T' (locs ++ [⟨a, j.toNatClampNeg⟩]) cells slots → T'.heap = h' → Wr h h' a j.toNatClampNeg (.int x) → AV Z h' a .int n (vs.set j.toNatClampNeg (.int x)) → G (T'.setTop (mkF m pc' Ls rest))) : G (T.setTop (mkF m pc Ls (.int x :: .int j :: .ref a :: rest))) := by
  subst hp
  obtain ⟨cl, Ar, hin⟩ := A.inb hj hl
  obtain ⟨T', h', X', e', W, st⟩ := stI X hx hZ eT Ar hin (g := mkF m pc Ls (.int x :: .int j :: .ref a :: rest)) rfl rfl hd
  exact hG _ _ st (k T' h' X' e' W (A.set W rfl hl))
theorem g_dastore (hG : Cl p e below G) (X : Stand p l e R s m args below meth c T locs cells slots) (hx : p.tables.exec = Jvm.exec) (hZ : Z.Warmed39 s.vm) (eT : T.heap = h) {a : Addr} {n : Int32} {vs : List Value} (A : AV Z h a .double n vs) {j : Int32} {x : UInt64} (hj : ¬ j < 0) (hl : j.toNatClampNeg < vs.length) (hd : decode c.code pc = .ok (.dastore, 1)) (hp : pc' = pc + 1)
    (k : ∀ T' h', Stand p l e R s m args below meth c T' (locs ++ [⟨a, j.toNatClampNeg⟩]) cells slots → T'.heap = h' → Wr h h' a j.toNatClampNeg (.double x) → AV Z h' a .double n (vs.set j.toNatClampNeg (.double x)) → G (T'.setTop (mkF m pc' Ls rest))) : G (T.setTop (mkF m pc Ls (.double x :: .int j :: .ref a :: rest))) := by
  subst hp
  obtain ⟨cl, Ar, hin⟩ := A.inb hj hl
  obtain ⟨T', h', X', e', W, st⟩ := stD X hx hZ eT Ar hin (g := mkF m pc Ls (.double x :: .int j :: .ref a :: rest)) rfl rfl hd
  exact hG _ _ st (k T' h' X' e' W (A.set W rfl hl))
theorem g_lastore (hG : Cl p e below G) (X : Stand p l e R s m args below meth c T locs cells slots) (hx : p.tables.exec = Jvm.exec) (hZ : Z.Warmed39 s.vm) (eT : T.heap = h) {a : Addr} {n : Int32} {vs : List Value} (A : AV Z h a .long n vs) {j : Int32} {x : Int64} (hj : ¬ j < 0) (hl : j.toNatClampNeg < vs.length) (hd : decode c.code pc = .ok (.lastore, 1)) (hp : pc' = pc + 1)
    (k : ∀ T' h', Stand p l e R s m args below meth c T' (locs ++ [⟨a, j.toNatClampNeg⟩]) cells slots → T'.heap = h' → Wr h h' a j.toNatClampNeg (.long x) → AV Z h' a .long n (vs.set j.toNatClampNeg (.long x)) → G (T'.setTop (mkF m pc' Ls rest))) : G (T.setTop (mkF m pc Ls (.long x :: .int j :: .ref a :: rest))) := by
  subst hp
  obtain ⟨cl, Ar, hin⟩ := A.inb hj hl
  obtain ⟨T', h', X', e', W, st⟩ := stJ X hx hZ eT Ar hin (g := mkF m pc Ls (.long x :: .int j :: .ref a :: rest)) rfl rfl hd
  exact hG _ _ st (k T' h' X' e' W (A.set W rfl hl))
theorem g_zastore (hG : Cl p e below G) (X : Stand p l e R s m args below meth c T locs cells slots) (hx : p.tables.exec = Jvm.exec) (hZ : Z.Warmed39 s.vm) (eT : T.heap = h) {a : Addr} {n : Int32} {vs : List Value} (A : AV Z h a .boolean n vs) {j : Int32} {x : Int32} (hj : ¬ j < 0) (hl : j.toNatClampNeg < vs.length) (hd : decode c.code pc = .ok (.bastore, 1)) (hp : pc' = pc + 1)
    (k : ∀ T' h', Stand p l e R s m args below meth c T' (locs ++ [⟨a, j.toNatClampNeg⟩]) cells slots → T'.heap = h' → Wr h h' a j.toNatClampNeg (.int (nar .boolean x)) → AV Z h' a .boolean n (vs.set j.toNatClampNeg (.int (nar .boolean x))) → G (T'.setTop (mkF m pc' Ls rest))) : G (T.setTop (mkF m pc Ls (.int x :: .int j :: .ref a :: rest))) := by
  subst hp
  obtain ⟨cl, Ar, hin⟩ := A.inb hj hl
  obtain ⟨T', h', X', e', W, st⟩ := stZ X hx hZ eT Ar hin (g := mkF m pc Ls (.int x :: .int j :: .ref a :: rest)) rfl rfl hd
  exact hG _ _ st (k T' h' X' e' W (A.set W (fits_nar_bool _) hl))
theorem g_bbastore (hG : Cl p e below G) (X : Stand p l e R s m args below meth c T locs cells slots) (hx : p.tables.exec = Jvm.exec) (hZ : Z.Warmed39 s.vm) (eT : T.heap = h) {a : Addr} {n : Int32} {vs : List Value} (A : AV Z h a .byte n vs) {j : Int32} {x : Int32} (hj : ¬ j < 0) (hl : j.toNatClampNeg < vs.length) (hd : decode c.code pc = .ok (.bastore, 1)) (hp : pc' = pc + 1)
    (k : ∀ T' h', Stand p l e R s m args below meth c T' (locs ++ [⟨a, j.toNatClampNeg⟩]) cells slots → T'.heap = h' → Wr h h' a j.toNatClampNeg (.int x.toInt8.toInt32) → AV Z h' a .byte n (vs.set j.toNatClampNeg (.int x.toInt8.toInt32)) → G (T'.setTop (mkF m pc' Ls rest))) : G (T.setTop (mkF m pc Ls (.int x :: .int j :: .ref a :: rest))) := by
  subst hp
  obtain ⟨cl, Ar, hin⟩ := A.inb hj hl
  obtain ⟨T', h', X', e', W, st⟩ := stB X hx hZ eT Ar hin (g := mkF m pc Ls (.int x :: .int j :: .ref a :: rest)) rfl rfl hd
  exact hG _ _ st (k T' h' X' e' W (A.set W (fits_nar_byte _) hl))
theorem g_arraylength (hG : Cl p e below G) (X : Stand p l e R s m args below meth c T locs cells slots) (hx : p.tables.exec = Jvm.exec) (hZ : Z.Warmed39 s.vm) (eT : T.heap = h) {a : Addr} {ty : FieldType} {n : Int32} {vs : List Value} (A : AV Z h a ty n vs) (hd : decode c.code pc = .ok (.arraylength, 1)) (hp : pc' = pc + 1) (k : G (T.setTop (mkF m pc' Ls (.int n :: rest)))) : G (T.setTop (mkF m pc Ls (.ref a :: rest))) := by
  subst hp
  obtain ⟨kA, ⟨cl, Ar, q1, S, q3, H, Gf⟩, q⟩ := A
  rw [← len_of S q3] at k
  refine hG _ _ (fun t ht => ?_) k
  exact X.arraylength hx (by rw [eT]; exact Ar.1) (State.isArrayOf_alike hZ.alike Ar.2.1) (g := mkF m pc Ls (.ref a :: rest)) rfl rfl hd t ht
/-! calls by a contract -/
theorem g_callS (hG : Cl p e below G) (X : Stand p l e R s m args below meth c T locs cells slots) (hx : p.tables.exec = Jvm.exec) (hZ : Z.Warmed39 s.vm) {own : String} {index : Nat} {y : MethodName} {bytes : ByteArray} {maxL : Nat} {ret : Option FieldType} {rm : Room} {as : Array Value} {Qc : Option Value → Heap → List Loc → Prop} {argsL stack : List Value} {ps : List FieldType} {rt : Option FieldType} (W : Nat)
    (hown : s.vm.findClass own = some m.cls) (w1 : (Jvm.Cond.methodLink own index y).before a0 Z = true) (w2 : (Jvm.Cond.static y).before a0 Z = true) (w3 : (Jvm.Cond.initialized y.cls).before a0 Z = true) (w4 : (Jvm.Cond.code y bytes maxL ret).before a0 Z = true) (hy : y.cls ≠ "java/lang/invoke/MethodHandle" ∧ y.cls ≠ "java/lang/invoke/VarHandle")
    (hM : Con l y bytes maxL ret [] rm Z as h rm.cells rm.slots Qc) (hfr : rm.frames + 1 ≤ R.frames) (hlo : W + (maxL + 11) + rm.locals ≤ R.locals) (hsz : Ls.size = c.maxLocals) (hpd : parseMethodDescriptor y.desc = some ⟨ps, rt⟩) (hln : argsL.length = ps.length) (hst : stack = argsL.reverse ++ rest) (has : argsL.toArray = as) (hW : (rest.map fun v => v.category).sum ≤ W)
    (hd : decode c.code pc = .ok (.invokestatic index, 3)) (eT : T.heap = h) (hc : cells + rm.cells ≤ R.cells) (hs : slots + rm.slots ≤ R.slots) (hp : pc' = pc + 3)
    (k : ∀ T' v L', Stand p l e R s m args below meth c T' (locs ++ L') (cells + rm.cells) (slots + rm.slots) → Qc v T'.heap L' → G (T'.setTop (mkF m pc' Ls (v.toList ++ rest)))) : G (T.setTop (mkF m pc Ls stack)) := by
  subst hp hst has
  obtain ⟨v, _, ⟨T1, L1, k1, n1⟩, -, X1, ⟨Lc, hQ, l1, y1, z1⟩, st⟩ := Jvm.LawKit.callS X hx (y := y) hown (mvT hZ w1) (mvT hZ w2) (mvT hZ w3) (mvT hZ w4) hy (backOf (W := W) hM hZ w4 w3 hfr hlo) (g := mkF m pc Ls (argsL.reverse ++ rest)) rfl hsz (argsL := argsL) (rest := rest) (lenOf hpd hln) rfl (by show 2 * 0 + _ ≤ _; omega) hd (fun _ _ => ⟨rfl, eT, hc, hs⟩)
  dsimp only [Pt.U, Pt.locs, Pt.cells, Pt.slots] at X1 l1 y1 z1 st hQ
  subst l1 y1 z1
  exact hG _ _ st (k T1 v Lc X1 hQ)
theorem g_callI (hG : Cl p e below G) (X : Stand p l e R s m args below meth c T locs cells slots) (hx : p.tables.exec = Jvm.exec) (hZ : Z.Warmed39 s.vm) {own : String} {index : Nat} {y : MethodName} {bytes : ByteArray} {maxL : Nat} {rm : Room} {as : Array Value} {Qc : Option Value → Heap → List Loc → Prop} {a : Addr} {argsL stack : List Value} {ps : List FieldType} {rt : Option FieldType} (W : Nat)
    (hy1 : y.name = "<init>") (hown : s.vm.findClass own = some m.cls) (w1 : (Jvm.Cond.methodLink own index y).before a0 Z = true) (w2 : (Jvm.Cond.instanceMethod y).before a0 Z = true) (w3 : (Jvm.Cond.initialized y.cls).before a0 Z = true) (w4 : (Jvm.Cond.code y bytes maxL none).before a0 Z = true) (hy : y.cls ≠ "java/lang/invoke/MethodHandle" ∧ y.cls ≠ "java/lang/invoke/VarHandle")
    (hM : Con l y bytes maxL none [] rm Z as h rm.cells rm.slots Qc) (hfr : rm.frames + 1 ≤ R.frames) (hlo : W + (maxL + 11) + rm.locals ≤ R.locals) (hsz : Ls.size = c.maxLocals) (hpd : parseMethodDescriptor y.desc = some ⟨ps, rt⟩) (hln : argsL.length = ps.length) (hst : stack = argsL.reverse ++ .ref a :: rest) (has : (.ref a :: argsL).toArray = as) (hW : (rest.map fun v => v.category).sum ≤ W)
    (hd : decode c.code pc = .ok (.invokespecial index, 3)) (eT : T.heap = h) (hc : cells + rm.cells ≤ R.cells) (hs : slots + rm.slots ≤ R.slots) (hp : pc' = pc + 3)
    (k : ∀ T' v L', Stand p l e R s m args below meth c T' (locs ++ L') (cells + rm.cells) (slots + rm.slots) → Qc v T'.heap L' → G (T'.setTop (mkF m pc' Ls (v.toList ++ rest)))) : G (T.setTop (mkF m pc Ls stack)) := by
  subst hp hst has
  obtain ⟨v, _, ⟨T1, L1, k1, n1⟩, -, X1, ⟨Lc, hQ, l1, y1, z1⟩, st⟩ := X.specialBack hx (y := y) hy1 hown (mvT hZ w1) (mvT hZ w2) (mvT hZ w4) hy (backOf (W := W) hM hZ w4 w3 hfr hlo) (g := mkF m pc Ls (argsL.reverse ++ .ref a :: rest)) rfl hsz (Steps.refl _) (a := a) (argsL := argsL) (rest := rest) (lenOf hpd hln) rfl (by show 2 * 0 + _ ≤ _; omega) hd (fun _ _ => ⟨rfl, eT, hc, hs⟩)
  dsimp only [Pt.U, Pt.locs, Pt.cells, Pt.slots] at X1 l1 y1 z1 st hQ
  subst l1 y1 z1
  exact hG _ _ (fun t ht => st.trans ht) (k T1 v Lc X1 hQ)
theorem g_callV (hG : Cl p e below G) (X : Stand p l e R s m args below meth c T locs cells slots) (hx : p.tables.exec = Jvm.exec) (hZ : Z.Warmed39 s.vm) {own C : String} {index : Nat} {y : MethodName} {bytes : ByteArray} {maxL : Nat} {ret : Option FieldType} {rm : Room} {as : Array Value} {Qc : Option Value → Heap → List Loc → Prop} {a : Addr} {argsL stack : List Value} {ps : List FieldType} {rt : Option FieldType} (W : Nat)
    (hown : s.vm.findClass own = some m.cls) (w1 : (Jvm.Cond.methodLink own index y).before a0 Z = true) (w2 : (Jvm.Cond.declares y).before a0 Z = true) (ws : (Jvm.Cond.selects C y y).before a0 Z = true) (wi : (Jvm.Cond.instanceMethod y).before a0 Z = true) (w3 : (Jvm.Cond.initialized y.cls).before a0 Z = true) (w4 : (Jvm.Cond.code y bytes maxL ret).before a0 Z = true) (hy : y.cls ≠ "java/lang/invoke/MethodHandle" ∧ y.cls ≠ "java/lang/invoke/VarHandle")
    (hM : Con l y bytes maxL ret [] rm Z as h rm.cells rm.slots Qc) (hfr : rm.frames + 1 ≤ R.frames) (hlo : W + (maxL + 11) + rm.locals ≤ R.locals) (hsz : Ls.size = c.maxLocals) (hpd : parseMethodDescriptor y.desc = some ⟨ps, rt⟩) (hln : argsL.length = ps.length) (hst : stack = argsL.reverse ++ .ref a :: rest) (has : (.ref a :: argsL).toArray = as) (hW : (rest.map fun v => v.category).sum ≤ W)
    (hd : decode c.code pc = .ok (.invokevirtual index, 3)) (eT : T.heap = h) (E : Exa Z h a C) (hc : cells + rm.cells ≤ R.cells) (hs : slots + rm.slots ≤ R.slots) (hp : pc' = pc + 3)
    (k : ∀ T' v L', Stand p l e R s m args below meth c T' (locs ++ L') (cells + rm.cells) (slots + rm.slots) → Qc v T'.heap L' → G (T'.setTop (mkF m pc' Ls (v.toList ++ rest)))) : G (T.setTop (mkF m pc Ls stack)) := by
  subst hp hst has
  obtain ⟨cq, kq, qa, qb, qc⟩ := isOf hZ eT E
  obtain ⟨v, _, ⟨T1, L1, k1, n1⟩, -, X1, ⟨Lc, hQ, l1, y1, z1⟩, st⟩ := X.virtualBack hx (y := y) (z := y) hown (mvT hZ w1) (mvT hZ w2) (notFace_of_selects (args := #[]) (mvT hZ ws)) (mvT hZ ws) (mvT hZ wi) hy (backOf (W := W) hM hZ w4 w3 hfr hlo) qa qc (g := mkF m pc Ls (argsL.reverse ++ .ref a :: rest)) rfl hsz (Steps.refl _) (argsL := argsL) (rest := rest) (lenOf hpd hln) rfl (by show 2 * 0 + _ ≤ _; omega) hd (fun _ _ => ⟨rfl, eT, hc, hs⟩)
  dsimp only [Pt.U, Pt.locs, Pt.cells, Pt.slots] at X1 l1 y1 z1 st hQ
  subst l1 y1 z1
  exact hG _ _ (fun t ht => st.trans ht) (k T1 v Lc X1 hQ)
theorem g_callP (hG : Cl p e below G) (X : Stand p l e R s m args below meth c T locs cells slots) (hx : p.tables.exec = Jvm.exec) (hZ : Z.Warmed39 s.vm) {own C : String} {index : Nat} {y : MethodName} {bytes : ByteArray} {maxL : Nat} {ret : Option FieldType} {rm : Room} {as : Array Value} {Qc : Option Value → Heap → List Loc → Prop} {a : Addr} {argsL stack : List Value} {ps : List FieldType} {rt : Option FieldType} (W : Nat)
    (hown : s.vm.findClass own = some m.cls) (w1 : (Jvm.Cond.methodLink own index y).before a0 Z = true) (wi : (Jvm.Cond.instanceMethod y).before a0 Z = true) {kk : Nat} (wk : (Jvm.Cond.instantiable y.cls kk).before a0 Z = true) (wp : (Jvm.Cond.privateMethod y).before a0 Z = true) (w3 : (Jvm.Cond.initialized y.cls).before a0 Z = true) (w4 : (Jvm.Cond.code y bytes maxL ret).before a0 Z = true) (hy : y.cls ≠ "java/lang/invoke/MethodHandle" ∧ y.cls ≠ "java/lang/invoke/VarHandle")
    (hM : Con l y bytes maxL ret [] rm Z as h rm.cells rm.slots Qc) (hfr : rm.frames + 1 ≤ R.frames) (hlo : W + (maxL + 11) + rm.locals ≤ R.locals) (hsz : Ls.size = c.maxLocals) (hpd : parseMethodDescriptor y.desc = some ⟨ps, rt⟩) (hln : argsL.length = ps.length) (hst : stack = argsL.reverse ++ .ref a :: rest) (has : (.ref a :: argsL).toArray = as) (hW : (rest.map fun v => v.category).sum ≤ W)
    (hd : decode c.code pc = .ok (.invokevirtual index, 3)) (eT : T.heap = h) (E : Exa Z h a C) (hc : cells + rm.cells ≤ R.cells) (hs : slots + rm.slots ≤ R.slots) (hp : pc' = pc + 3)
    (k : ∀ T' v L', Stand p l e R s m args below meth c T' (locs ++ L') (cells + rm.cells) (slots + rm.slots) → Qc v T'.heap L' → G (T'.setTop (mkF m pc' Ls (v.toList ++ rest)))) : G (T.setTop (mkF m pc Ls stack)) := by
  subst hp hst has
  obtain ⟨cq, q1, q2⟩ := E.cell
  have hpv : s.PrivateAt y := Jvm.Cond.privateMethod_at (mvP hZ wp (args := #[]))
  obtain ⟨ck, kk', j1, j2, -, j4, -⟩ := Jvm.Cond.instantiable_spec (mvT (args := args) hZ wk)
  have ws : (Jvm.Cond.selects y.cls y y).before args s = true := selects_self_of_private j1 j2 (by simp at j4; exact j4.1) hpv (mvT hZ wi) hy
  obtain ⟨v, _, ⟨T1, L1, k1, n1⟩, -, X1, ⟨Lc, hQ, l1, y1, z1⟩, st⟩ := X.privateBack hx (y := y) hown (mvT hZ w1) (mvT hZ wi) ws hpv (mvT hZ w4) hy (backOf (W := W) hM hZ w4 w3 hfr hlo) (g := mkF m pc Ls (argsL.reverse ++ .ref a :: rest)) rfl hsz (Steps.refl _) (a := a) (by rw [eT]; exact q1) q2 (argsL := argsL) (rest := rest) (lenOf hpd hln) rfl (by show 2 * 0 + _ ≤ _; omega) hd (fun _ _ => ⟨rfl, eT, hc, hs⟩)
  dsimp only [Pt.U, Pt.locs, Pt.cells, Pt.slots] at X1 l1 y1 z1 st hQ
  subst l1 y1 z1
  exact hG _ _ (fun t ht => st.trans ht) (k T1 v Lc X1 hQ)
theorem g_natS (hG : Cl p e below G) (X : Stand p l e R s m args below meth c T locs cells slots) (hx : p.tables.exec = Jvm.exec) (hZ : Z.Warmed39 s.vm) {own : String} {index : Nat} {y : MethodName} {by0 : ByteArray} {ml : Nat} {rt : Option FieldType} {F : Array Value → Prop} {val : Value} {argsL stack : List Value} {ps : List FieldType} {rt' : Option FieldType} (W : Nat)
    (hown : s.vm.findClass own = some m.cls) (w1 : (Jvm.Cond.methodLink own index y).before a0 Z = true) (w2 : (Jvm.Cond.static y).before a0 Z = true) (w3 : (Jvm.Cond.initialized y.cls).before a0 Z = true) (w4 : (Jvm.Cond.code y by0 ml rt).before a0 Z = true) (hy : y.cls ≠ "java/lang/invoke/MethodHandle" ∧ y.cls ≠ "java/lang/invoke/VarHandle")
    (hK : (Jvm.Cond.code y by0 ml rt).before args s = true → Back l R p e below s args y 3 W (fun A a' => A.cells ≤ R.cells ∧ A.slots ≤ R.slots ∧ F a') (fun A _ v B => v = some val ∧ B = A)) (hsz : Ls.size = c.maxLocals) (hpd : parseMethodDescriptor y.desc = some ⟨ps, rt'⟩) (hln : argsL.length = ps.length) (hst : stack = argsL.reverse ++ rest) (hW : (rest.map fun v => v.category).sum ≤ W)
    (hd : decode c.code pc = .ok (.invokestatic index, 3)) (eT : T.heap = h) (hc : cells ≤ R.cells) (hs : slots ≤ R.slots) (hF : F argsL.toArray) (hp : pc' = pc + 3)
    (k : ∀ T', Stand p l e R s m args below meth c T' locs cells slots → T'.heap = h → G (T'.setTop (mkF m pc' Ls (val :: rest)))) : G (T.setTop (mkF m pc Ls stack)) := by
  subst hp hst
  obtain ⟨T', X', e', st⟩ := natS X hx hZ hown w1 w2 w3 w4 hy eT hK (g := mkF m pc Ls (argsL.reverse ++ rest)) rfl hsz (argsL := argsL) (rest := rest) (lenOf hpd hln) rfl (by show 2 * 0 + _ ≤ _; omega) hd hc hs hF rfl
  exact hG _ _ st (k T' X' e')
theorem g_getS (hG : Cl p e below G) (X : Stand p l e R s m args below meth c T locs cells slots) (hx : p.tables.exec = Jvm.exec) (hZ : Z.Warmed39 s.vm) {own R0 O n d : String} {index : Nat} (hown : s.vm.findClass own = some m.cls) (w : (Jvm.Cond.fieldLink own index R0 n d).before a0 Z = true) (via : Via Z R0 O n d) (eT : T.heap = h) {v : Value} (F : Sta Z h O n d v) (hd : decode c.code pc = .ok (.getstatic index, 3)) (hp : pc' = pc + 3)
    (k : ∀ T', Stand p l e R s m args below meth c T' locs cells slots → T'.heap = h → G (T'.setTop (mkF m pc' Ls (v :: rest)))) : G (T.setTop (mkF m pc Ls rest)) := by
  subst hp
  obtain ⟨T', X', e', st⟩ := getS2 (host := "") X hx hZ hown (Or.inl w) via eT F (g := mkF m pc Ls rest) rfl hd
  exact hG _ _ st (k T' X' e')
theorem g_castY (hG : Cl p e below G) (X : Stand p l e R s m args below meth c T locs cells slots) (hx : p.tables.exec = Jvm.exec) (hZ : Z.Warmed39 s.vm) {own K0 : String} {index : Nat} (hown : s.vm.findClass own = some m.cls) (w : (Jvm.Cond.classLink own index K0).before a0 Z = true) (eT : T.heap = h) {a : Addr} (F : Ins Z h a K0 true) (hd : decode c.code pc = .ok (.checkcast index, 3)) (hp : pc' = pc + 3)
    (k : ∀ T', Stand p l e R s m args below meth c T' locs cells slots → T'.heap = h → G (T'.setTop (mkF m pc' Ls (.ref a :: rest)))) : G (T.setTop (mkF m pc Ls (.ref a :: rest))) := by
  subst hp
  obtain ⟨T', X', e', st⟩ := castY X hx hZ hown w eT F (g := mkF m pc Ls (.ref a :: rest)) rfl rfl hd
  exact hG _ _ st (k T' X' e')
theorem g_newPE (hG : Cl p e below G) (X : Stand p l e R s m args below meth c T locs cells slots) (hx : p.tables.exec = Jvm.exec) (hZ : Z.Warmed39 s.vm) {aty : ArrayType} (w : (Jvm.Cond.arrayClass (newarray.typeOf aty)).before a0 Z = true) (eT : T.heap = h) {n : Int32} (hd : decode c.code pc = .ok (.newarray aty, 2)) (hn : ¬ n < 0) (cap : Nat) (hcap : n.toNatClampNeg ≤ cap) (hb : cap * 8 ≤ 536870912) (hc : cells + 1 ≤ R.cells) (hl : slots + cap ≤ R.slots) {ad : String} (had : "[" ++ (newarray.typeOf aty).toString = ad) (hp : pc' = pc + 2)
    (k : ∀ T' h' b, b = h.size → Stand p l e R s m args below meth c T' locs (cells + 1) (slots + cap) → T'.heap = h' → Ext h h' → AV Z h' b (newarray.typeOf aty) n (List.replicate n.toNatClampNeg (defaultValue (newarray.typeOf aty))) → Exa Z h' b ad → G (T'.setTop (mkF m pc' Ls (.ref b :: rest)))) : G (T.setTop (mkF m pc Ls (.int n :: rest))) := by
  subst hp
  obtain ⟨T', h', kA, X', e', E, A, Ex, st⟩ := newPE X hx hZ w eT (g := mkF m pc Ls (.int n :: rest)) rfl hd rfl hn hcap hb hc hl had
  exact hG _ _ st (k T' h' _ rfl X' e' E (AV.new (Arv.new A hn)) Ex)
theorem g_clone (hG : Cl p e below G) (X : Stand p l e R s m args below meth c T locs cells slots) (hx : p.tables.exec = Jvm.exec) (hZ : Z.Warmed39 s.vm) {own ad : String} {index : Nat} (hown : s.vm.findClass own = some m.cls)
    (w1 : (Jvm.Cond.methodLink own index ⟨ad, "clone", "()Ljava/lang/Object;"⟩).before a0 Z = true) (w2 : (Jvm.Cond.sameMethod ad "java/lang/Object" "clone" "()Ljava/lang/Object;").before a0 Z = true) (w3 : (Jvm.Cond.native ⟨"java/lang/Object", "clone", "()Ljava/lang/Object;"⟩).before a0 Z = true)
    (w4 : (Jvm.Cond.instanceMethod ⟨"java/lang/Object", "clone", "()Ljava/lang/Object;"⟩).before a0 Z = true) (w5 : (Jvm.Cond.selects ad ⟨ad, "clone", "()Ljava/lang/Object;"⟩ ⟨"java/lang/Object", "clone", "()Ljava/lang/Object;"⟩).before a0 Z = true) (w6 : (Jvm.Cond.castable ad "java/lang/Cloneable").before a0 Z = true)
    (eT : T.heap = h) {a : Addr} {ty : FieldType} {n : Int32} {vs : List Value} (A : AV Z h a ty n vs) (E : Exa Z h a ad) (hsz : Ls.size = c.maxLocals) (hd : decode c.code pc = .ok (.invokevirtual index, 3)) (hfr : 1 ≤ R.frames) (W cap : Nat) (hW : (rest.map fun v => v.category).sum ≤ W) (hlo : W + 14 ≤ R.locals) (hcap : n.toNatClampNeg ≤ cap) (hc : cells + 1 ≤ R.cells) (hsl : slots + cap ≤ R.slots) (hp : pc' = pc + 3)
    (k : ∀ T' h' b, b = h.size → Stand p l e R s m args below meth c T' locs (cells + 1) (slots + cap) → T'.heap = h' → Ext h h' → AV Z h' b ty n vs → Exa Z h' b ad → G (T'.setTop (mkF m pc' Ls (.ref b :: rest)))) : G (T.setTop (mkF m pc Ls (.ref a :: rest))) := by
  subst hp
  obtain ⟨kA, A, q⟩ := A
  obtain ⟨T', h', X', e', E', A', Ex, st⟩ := cloneH X hx hZ hown w1 w2 w3 w4 w5 w6 eT A.arh E (g := mkF m pc Ls (.ref a :: rest)) rfl hsz rfl hd hfr (W := W) (by show 2 * 0 + _ ≤ _; omega) hlo hcap hc hsl
  exact hG _ _ st (k T' h' _ rfl X' e' E' ⟨kA, A', q⟩ Ex)
theorem g_callVU (hG : Cl p e below G) (X : Stand p l e R s m args below meth c T locs cells slots) (hx : p.tables.exec = Jvm.exec) (hZ : Z.Warmed39 s.vm) {own C owner : String} {index : Nat} {x y : MethodName} {bytes : ByteArray} {maxL : Nat} {ret : Option FieldType} {rm : Room} {as : Array Value} {Qc : Option Value → Heap → List Loc → Prop} {a : Addr} {argsL stack : List Value} {ps : List FieldType} {rt : Option FieldType} (W : Nat)
    (hown : s.vm.findClass own = some m.cls) (w1 : (Jvm.Cond.methodLink own index x).before a0 Z = true) (wm : (Jvm.Cond.sameMethod x.cls owner x.name x.desc).before a0 Z = true) (w2 : (Jvm.Cond.declares ⟨owner, x.name, x.desc⟩).before a0 Z = true) (ho : owner ≠ "java/lang/invoke/MethodHandle" ∧ owner ≠ "java/lang/invoke/VarHandle") (ws : (Jvm.Cond.selects C x y).before a0 Z = true) (wi : (Jvm.Cond.instanceMethod y).before a0 Z = true) (w3 : (Jvm.Cond.initialized y.cls).before a0 Z = true) (w4 : (Jvm.Cond.code y bytes maxL ret).before a0 Z = true)
    (hM : Con l y bytes maxL ret [] rm Z as h rm.cells rm.slots Qc) (hfr : rm.frames + 1 ≤ R.frames) (hlo : W + (maxL + 11) + rm.locals ≤ R.locals) (hsz : Ls.size = c.maxLocals) (hpd : parseMethodDescriptor x.desc = some ⟨ps, rt⟩) (hln : argsL.length = ps.length) (hst : stack = argsL.reverse ++ .ref a :: rest) (has : (.ref a :: argsL).toArray = as) (hW : (rest.map fun v => v.category).sum ≤ W)
    (hd : decode c.code pc = .ok (.invokevirtual index, 3)) (eT : T.heap = h) (E : Exa Z h a C) (hc : cells + rm.cells ≤ R.cells) (hs : slots + rm.slots ≤ R.slots) (hp : pc' = pc + 3)
    (k : ∀ T' v L', Stand p l e R s m args below meth c T' (locs ++ L') (cells + rm.cells) (slots + rm.slots) → Qc v T'.heap L' → G (T'.setTop (mkF m pc' Ls (v.toList ++ rest)))) : G (T.setTop (mkF m pc Ls stack)) := by
  subst hp hst has
  obtain ⟨cq, kq, qa, qb, qc⟩ := isOf hZ eT E
  obtain ⟨v, _, ⟨T1, L1, k1, n1⟩, -, X1, ⟨Lc, hQ, l1, y1, z1⟩, st⟩ := X.virtualBackUp hx (x := x) (y := y) hown (mvT hZ w1) (mvT hZ wm) (mvT hZ w2) ho (mvT hZ ws) (mvT hZ wi) (backOf (W := W) hM hZ w4 w3 hfr hlo) qa qc (g := mkF m pc Ls (argsL.reverse ++ .ref a :: rest)) rfl hsz (Steps.refl _) (argsL := argsL) (rest := rest) (lenOf hpd hln) rfl (by show 2 * 0 + _ ≤ _; omega) hd (fun _ _ => ⟨rfl, eT, hc, hs⟩)
  dsimp only [Pt.U, Pt.locs, Pt.cells, Pt.slots] at X1 l1 y1 z1 st hQ
  subst l1 y1 z1
  exact hG _ _ (fun t ht => st.trans ht) (k T1 v Lc X1 hQ)
theorem g_lookup (hG : Cl p e below G) (X : Stand p l e R s m args below meth c T locs cells slots) (hx : p.tables.exec = Jvm.exec) {kk : Int32} {dflt : Int} {pairs : Array (Int × Int)} {len : Nat} (hd : decode c.code pc = .ok (.lookupswitch dflt pairs, len)) (hs : (pairs.toList.zip (pairs.toList.drop 1)).all (fun (a, next) => a.1 < next.1) = true) {a off : Int} (hf : pairs.find? (·.1 == kk.toInt) = some (a, off)) (ho : 0 ≤ (pc : Int) + off) (hp : ((pc : Int) + off).toNat = pc') (k : G (T.setTop (mkF m pc' Ls rest))) : G (T.setTop (mkF m pc Ls (.int kk :: rest))) := by
  subst hp
  refine hG _ _ (fun t ht => ?_) k
  exact X.lookupswitchHit hx (g := mkF m pc Ls (.int kk :: rest)) rfl rfl hd hs hf ho t ht
theorem g_copy (hG : Cl p e below G) (X : Stand p l e R s m args below meth c T locs cells slots) (hx : p.tables.exec = Jvm.exec) (hZ : Z.Warmed39 s.vm) {own : String} {index : Nat} (hown : s.vm.findClass own = some m.cls)
    (w1 : (Jvm.Cond.methodLink own index Jvm.Stand.acN).before a0 Z = true) (w2 : (Jvm.Cond.native Jvm.Stand.acN).before a0 Z = true) (w3 : (Jvm.Cond.static Jvm.Stand.acN).before a0 Z = true) (w4 : (Jvm.Cond.initialized "java/lang/System").before a0 Z = true) (eT : T.heap = h)
    {a b : Addr} {ty : FieldType} {n z sp dp nn : Int32} {vs vd vr : List Value} (A : AV Z h a ty n vs) (B : AV Z h b ty z vd) (hr : refKind ty = false) (h1 : ¬ sp < 0) (h2 : ¬ dp < 0) (h3 : ¬ nn < 0) (h4 : sp.toNatClampNeg + nn.toNatClampNeg ≤ n.toNatClampNeg) (h5 : dp.toNatClampNeg + nn.toNatClampNeg ≤ z.toNatClampNeg)
    (hvr : vd.take dp.toNatClampNeg ++ ((List.range nn.toNatClampNeg).map fun i => vs.getD (sp.toNatClampNeg + i) (defaultValue ty)) ++ vd.drop (dp.toNatClampNeg + nn.toNatClampNeg) = vr) {n0 : Nat} (N0 : Fr n0 locs) (ge : n0 ≤ b) (hsz : Ls.size = c.maxLocals) (hd : decode c.code pc = .ok (.invokestatic index, 3)) (hfr : 1 ≤ R.frames) (W : Nat) (hW : (rest.map fun v => v.category).sum ≤ W) (hlo : W + (nativeFrameWords "java/lang/System" "arraycopy" 5 + 11) ≤ R.locals) (hp : pc' = pc + 3)
    (k : ∀ T' h' L, Stand p l e R s m args below meth c T' L cells slots → T'.heap = h' → Fr n0 L → Keep h h' [b] → AV Z h' b ty z vr → G (T'.setTop (mkF m pc' Ls rest))) : G (T.setTop (mkF m pc Ls (.int nn :: .int dp :: .ref b :: .int sp :: .ref a :: rest))) := by
  subst hp hvr
  obtain ⟨kA, A, qa⟩ := A
  obtain ⟨kB, B, qb⟩ := B
  obtain ⟨T', h', L', X', e', N', K', V', st⟩ := cpA X hx hZ hown w1 w2 w3 w4 eT A B (Or.inl ⟨rfl, hr⟩) h1 h2 h3 h4 h5 rfl (by omega) N0 ge (g := mkF m pc Ls (.int nn :: .int dp :: .ref b :: .int sp :: .ref a :: rest)) rfl hsz rfl hd hfr (W := W) (by show 2 * 0 + _ ≤ _; omega) hlo
  exact hG _ _ st (k T' h' L' X' e' N' K' ⟨kB, V', by simp only [List.length_append, List.length_take, List.length_map, List.length_range, List.length_drop]; omega⟩)
theorem Sta.keep0 {h' : Heap} {C n d : String} {v : Value} (F : Sta Z h C n d v) (K : Keep h h' []) : Sta Z h' C n d v := by
  obtain ⟨cf, i, k, f, st, cell, h1, h2, h3, h4, h5, r⟩ := F
  exact ⟨cf, i, k, f, st, cell, h1, h2, h3, h4, K.2.1 _ _ h5 (fun q => nomatch q), r⟩
end New
end Jvm.OwnKit
namespace Jvm.OwnFl
open Jvm.FP.Core
theorem two_ne : (2 : Rat) ≠ 0 := by decide
theorem p2pos (q : Int) : (0 : Rat) < (2 : Rat) ^ q := Rat.zpow_pos (by decide)
theorem p2add (a b : Int) : (2 : Rat) ^ (a + b) = (2 : Rat) ^ a * (2 : Rat) ^ b := Rat.zpow_add two_ne a b
theorem p2nat (n : Nat) : (2 : Rat) ^ (n : Int) = ((2 ^ n : Nat) : Rat) := by rw [Rat.zpow_natCast, Rat.natCast_pow]; rfl
theorem p2le {a b : Int} (h : a ≤ b) : (2 : Rat) ^ a ≤ (2 : Rat) ^ b := by
  obtain ⟨n, hn⟩ : ∃ n : Nat, b = a + n := ⟨(b - a).toNat, by omega⟩
  subst hn
  rw [p2add, p2nat]
  have h1 : (1 : Rat) ≤ ((2 ^ n : Nat) : Rat) := by
    have q : ((1 : Nat) : Rat) ≤ ((2 ^ n : Nat) : Rat) := Rat.natCast_le_natCast.mpr (Nat.two_pow_pos n)
    exact q
  have q := Rat.mul_le_mul_of_nonneg_left h1 (Rat.le_of_lt (p2pos a))
  rwa [Rat.mul_one] at q
theorem p2lt {a b : Int} (h : (2 : Rat) ^ a < (2 : Rat) ^ b) : a < b := by
  by_cases q : a < b
  · exact q
  · exact absurd (p2le (Int.not_lt.mp q)) (Rat.not_le.mpr h)
/-- the value of a datum (nought for what is no number) -/
def rvd : Datum → Rat
  | .fin s c q => ((signed s c : Int) : Rat) * (2 : Rat) ^ q
  | _ => 0
/-- v is a finite double, of the value x -/
def DV (v : UInt64) (x : Rat) : Prop := ∃ s c q, val64 v = .fin s c q ∧ rvd (.fin s c q) = x
theorem DV.fin {v : UInt64} {x : Rat} (h : DV v x) : Jvm.Free.Fl.Fin64 v := by
  obtain ⟨s, c, q, h, -⟩ := h
  exact Jvm.Free.Fl.fin64_core.mpr ⟨s, c, q, h⟩
theorem DV.noNaN {v : UInt64} {x : Rat} (h : DV v x) : Jvm.Free.Fl.NoNaN64 v := h.fin.noNaN
theorem DV.uniq {v : UInt64} {x y : Rat} (h : DV v x) (g : DV v y) : x = y := by
  obtain ⟨s, c, q, h1, h2⟩ := h
  obtain ⟨t, d, r, g1, g2⟩ := g
  cases h1.symm.trans g1
  exact h2.symm.trans g2
theorem units_val (s : Bool) (c : Nat) {q e : Int} (h : e ≤ q) : ((signed s (inUnits c q e) : Int) : Rat) * (2 : Rat) ^ e = ((signed s c : Int) : Rat) * (2 : Rat) ^ q := by
  obtain ⟨n, rfl⟩ : ∃ n : Nat, q = e + n := ⟨(q - e).toNat, by omega⟩
  unfold inUnits
  rw [signed_mul, Rat.intCast_mul, Rat.mul_assoc, show (e + (n : Int) - e).toNat = n by omega, p2add, p2nat, Rat.mul_comm ((2 : Rat) ^ e)]
  rfl
theorem dcmp_of {a b : UInt64} {x y : Rat} (ha : DV a x) (hb : DV b y) : dcmp a b = some (if x < y then .lt else if x = y then .eq else .gt) := by
  obtain ⟨s, c, q, h1, rfl⟩ := ha
  obtain ⟨t, d, r, h2, rfl⟩ := hb
  show order (val64 a) (val64 b) = _
  rw [h1, h2]
  show some (compare (signed s (inUnits c q (min q r))) (signed t (inUnits d r (min q r)))) = some (if ((signed s c : Int) : Rat) * (2 : Rat) ^ q < ((signed t d : Int) : Rat) * (2 : Rat) ^ r then .lt else if ((signed s c : Int) : Rat) * (2 : Rat) ^ q = ((signed t d : Int) : Rat) * (2 : Rat) ^ r then .eq else .gt)
  rw [compare_ite, ← units_val s c (Int.min_le_left q r), ← units_val t d (Int.min_le_right q r)]
  generalize signed s (inUnits c q (min q r)) = i
  generalize signed t (inUnits d r (min q r)) = j
  have hu := p2pos (min q r)
  generalize (2 : Rat) ^ (min q r) = u at hu
  have k1 : ∀ i j : Int, ((i : Rat) * u < (j : Rat) * u) ↔ i < j := fun i j => (Rat.mul_lt_mul_right hu).trans Rat.intCast_lt_intCast
  have k2 : ((i : Rat) * u = (j : Rat) * u) ↔ i = j := by
    constructor
    · intro h
      rcases Int.lt_trichotomy i j with g | g | g
      · have := (k1 i j).mpr g; rw [h] at this; exact absurd this Rat.lt_irrefl
      · exact g
      · have := (k1 j i).mpr g; rw [h] at this; exact absurd this Rat.lt_irrefl
    · intro h; rw [h]
  simp only [k1, k2]
theorem dcmp_lt {a b : UInt64} {x y : Rat} (ha : DV a x) (hb : DV b y) (h : x < y) : Jvm.FP.dcmp a b = some .lt := by
  show dcmp a b = _
  rw [dcmp_of ha hb, if_pos h]
theorem dcmp_eq {a b : UInt64} {x y : Rat} (ha : DV a x) (hb : DV b y) (h : x = y) : Jvm.FP.dcmp a b = some .eq := by
  show dcmp a b = _
  rw [dcmp_of ha hb, if_neg (by rw [h]; exact Rat.lt_irrefl), if_pos h]
theorem dcmp_gt {a b : UInt64} {x y : Rat} (ha : DV a x) (hb : DV b y) (h : y < x) : Jvm.FP.dcmp a b = some .gt := by
  show dcmp a b = _
  rw [dcmp_of ha hb, if_neg (by rw [Rat.not_lt]; exact Rat.le_of_lt h), if_neg (Rat.ne_of_gt h)]
theorem dcmp_le {a b : UInt64} {x y : Rat} (ha : DV a x) (hb : DV b y) (h : x ≤ y) : Jvm.FP.dcmp a b = some .lt ∨ Jvm.FP.dcmp a b = some .eq := by
  by_cases q : x = y
  · exact Or.inr (dcmp_eq ha hb q)
  · exact Or.inl (dcmp_lt ha hb (Rat.lt_of_le_of_ne h q))
theorem dcmp_ge {a b : UInt64} {x y : Rat} (ha : DV a x) (hb : DV b y) (h : y ≤ x) : Jvm.FP.dcmp a b = some .gt ∨ Jvm.FP.dcmp a b = some .eq := by
  by_cases q : x = y
  · exact Or.inr (dcmp_eq ha hb q)
  · exact Or.inl (dcmp_gt ha hb (Rat.lt_of_le_of_ne h (fun z => q z.symm)))
/-- the rounding of a positive ratio, in full -/
theorem rr_spec (s : Bool) {A B : Nat} (e : Int) (hA : 0 < A) (hB : 0 < B) {x : Rat} (hx : x * (B : Rat) = (A : Rat) * (2 : Rat) ^ e) (hlt : x < (2 : Rat) ^ (1023 : Int)) :
    ∃ c q, roundRatio b64 s A B e = .fin s c q ∧ ∃ (m : Nat) (r : Int), (c : Rat) * (2 : Rat) ^ q = (m : Rat) * (2 : Rat) ^ r ∧ -1074 ≤ r ∧ m ≤ 2 ^ 53 ∧ 2 * x ≤ (2 * (m : Rat) + 1) * (2 : Rat) ^ r ∧ 2 * (m : Rat) * (2 : Rat) ^ r ≤ 2 * x + (2 : Rat) ^ r ∧
      x < 9007199254740992 * (2 : Rat) ^ r ∧ (r = -1074 ∨ 4503599627370496 * (2 : Rat) ^ r ≤ x) := by
  have g1 := quantum_ge b64 A B e
  have g2 := nearest_units_le (f := b64) hA hB e
  have g3 := quantum_not_below (f := b64) hA hB e
  have g4 := quantum_below (f := b64) hA hB e
  unfold roundRatio
  rw [if_neg (by omega : ¬ A = 0)]
  generalize quantum b64 A B e = r at *
  unfold roundAt
  have hD := unitsDen_pos hB e r
  obtain ⟨n1, n2, -⟩ := nearest_spec (unitsNum A e r) (unitsDen B e r) hD
  have key : x * (unitsDen B e r : Rat) = (unitsNum A e r : Rat) * (2 : Rat) ^ r := by
    unfold unitsDen unitsNum
    rw [Rat.natCast_mul, Rat.natCast_mul, ← Rat.mul_assoc, hx, ← p2nat, ← p2nat, Rat.mul_assoc, Rat.mul_assoc, ← p2add, ← p2add, show e + ((r - e).toNat : Int) = ((e - r).toNat : Int) + r by omega]
  have b1 : unitsNum A e r < 2 ^ 53 * unitsDen B e r := (units_below A B e r 53).mpr g4
  have b2 : r = -1074 ∨ 2 ^ 52 * unitsDen B e r ≤ unitsNum A e r := by
    rcases g3 with g3 | g3
    · exact Or.inl g3
    · exact Or.inr (Nat.le_of_not_lt fun q => g3 ((units_below A B e r 52).mp q))
  have hr0 : -1074 ≤ r := g1
  have hm53 : nearest (unitsNum A e r) (unitsDen B e r) ≤ 2 ^ 53 := g2
  clear g1 g2 g3 g4
  generalize nearest (unitsNum A e r) (unitsDen B e r) = m at *
  generalize unitsNum A e r = N at *
  generalize unitsDen B e r = D at *
  have hu := p2pos r
  have hDp : (0 : Rat) < (D : Rat) := Rat.natCast_pos.mpr hD
  have n1' : 2 * (N : Rat) ≤ (2 * (m : Rat) + 1) * (D : Rat) := by
    have q := Rat.natCast_le_natCast.mpr n1
    simpa [Rat.natCast_mul, Rat.natCast_add] using q
  have n2' : 2 * (m : Rat) * (D : Rat) ≤ 2 * (N : Rat) + (D : Rat) := by
    have q := Rat.natCast_le_natCast.mpr n2
    simpa [Rat.natCast_mul, Rat.natCast_add] using q
  have b1' : (N : Rat) < 9007199254740992 * (D : Rat) := by
    have q := Rat.natCast_lt_natCast.mpr b1
    simpa [Rat.natCast_mul] using q
  have b2' : r = -1074 ∨ 4503599627370496 * (D : Rat) ≤ (N : Rat) := by
    rcases b2 with q | q
    · exact Or.inl q
    · right
      have q := Rat.natCast_le_natCast.mpr q
      simpa [Rat.natCast_mul] using q
  have f1 : 2 * x ≤ (2 * (m : Rat) + 1) * (2 : Rat) ^ r := by
    refine Rat.le_of_mul_le_mul_right (c := (D : Rat)) ?_ hDp
    have q := Rat.mul_le_mul_of_nonneg_right n1' (Rat.le_of_lt hu)
    generalize (2 : Rat) ^ r = u at *
    grind
  have f2 : 2 * (m : Rat) * (2 : Rat) ^ r ≤ 2 * x + (2 : Rat) ^ r := by
    refine Rat.le_of_mul_le_mul_right (c := (D : Rat)) ?_ hDp
    have q := Rat.mul_le_mul_of_nonneg_right n2' (Rat.le_of_lt hu)
    generalize (2 : Rat) ^ r = u at *
    grind
  have f3 : x < 9007199254740992 * (2 : Rat) ^ r := by
    refine Rat.lt_of_mul_lt_mul_right (c := (D : Rat)) ?_ (Rat.le_of_lt hDp)
    have q := Rat.mul_lt_mul_of_pos_right b1' hu
    generalize (2 : Rat) ^ r = u at *
    grind
  have f4 : r = -1074 ∨ 4503599627370496 * (2 : Rat) ^ r ≤ x := by
    rcases b2' with q | q
    · exact Or.inl q
    · right
      refine Rat.le_of_mul_le_mul_right (c := (D : Rat)) ?_ hDp
      have q := Rat.mul_le_mul_of_nonneg_right q (Rat.le_of_lt hu)
      generalize (2 : Rat) ^ r = u at *
      grind
  have hr : r ≤ 970 := by
    rcases f4 with q | q
    · omega
    · have q1 : (2 : Rat) ^ ((52 : Int) + r) < (2 : Rat) ^ (1023 : Int) := by
        rw [p2add, show (2 : Rat) ^ (52 : Int) = 4503599627370496 by decide +kernel]
        exact Std.lt_of_le_of_lt q hlt
      have := p2lt q1
      omega
  have hqm : b64.qmax = 971 := by decide
  by_cases hm : m < 2 ^ 53
  · refine ⟨m, r, ?_, m, r, rfl, hr0, hm53, f1, f2, f3, f4⟩
    show (if m < 2 ^ 53 then bound b64 s m r else _) = _
    rw [if_pos hm]
    unfold bound
    rw [if_pos (by omega)]
  · have hm : m = 2 ^ 53 := by omega
    refine ⟨2 ^ 52, r + 1, ?_, m, r, ?_, hr0, hm53, f1, f2, f3, f4⟩
    · show (if m < 2 ^ 53 then bound b64 s m r else bound b64 s b64.tails (r + 1)) = _
      rw [if_neg (by omega)]
      unfold bound
      rw [if_pos (by omega)]
      rfl
    · subst hm
      rw [p2add, Rat.zpow_one]
      generalize (2 : Rat) ^ r = u
      have e1 : ((2 ^ 52 : Nat) : Rat) = 4503599627370496 := by decide +kernel
      have e2 : ((2 ^ 53 : Nat) : Rat) = 9007199254740992 := by decide +kernel
      rw [e1, e2]
      grind
/-- the rounding of a rational number to a double's precision -/
def RR (x : Rat) : Rat := rvd (roundRatio b64 (decide (x < 0)) x.num.natAbs x.den 0)
theorem rat_num (x : Rat) : x * (x.den : Rat) = (x.num : Rat) := by
  have h : x = (x.num : Rat) / ((x.den : Int) : Rat) := by rw [← Rat.divInt_eq_div, Rat.num_divInt_den]
  have hd : (((x.den : Int)) : Rat) ≠ 0 := by
    intro q
    have := Rat.intCast_eq_zero_iff.mp q
    have := x.den_nz
    omega
  have q := Rat.div_mul_cancel (a := (x.num : Rat)) hd
  rw [← h] at q
  exact q
theorem signed_rat (s : Bool) (c : Nat) : ((signed s c : Int) : Rat) = if s then -(c : Rat) else (c : Rat) := by cases s <;> simp [signed, Rat.intCast_natCast]
/-- rounding goes by the value -/
theorem rr_congr {s : Bool} {A B : Nat} {e : Int} {x : Rat} (hB : 0 < B) (hx : x * (B : Rat) = ((signed s A : Int) : Rat) * (2 : Rat) ^ e) (hA : A ≠ 0) : roundRatio b64 s A B e = roundRatio b64 (decide (x < 0)) x.num.natAbs x.den 0 := by
  have hu := p2pos e
  have hBp : (0 : Rat) < (B : Rat) := Rat.natCast_pos.mpr hB
  have hAp : (0 : Rat) < (A : Rat) := Rat.natCast_pos.mpr (by omega)
  have hAu := Rat.mul_pos hAp hu
  have hs : decide (x < 0) = s := by
    rw [signed_rat] at hx
    cases s
    · simp only [Bool.false_eq_true, if_false] at hx
      rw [decide_eq_false_iff_not]
      intro q
      have := (Rat.mul_neg_iff_of_pos_right hBp).mpr q
      rw [hx] at this
      grind
    · simp only [if_true] at hx
      rw [decide_eq_true_iff]
      refine (Rat.mul_neg_iff_of_pos_right hBp).mp ?_
      rw [hx]
      grind
  rw [hs]
  refine roundRatio_congr hB x.den_pos ?_
  -- magnitudes
  have h1 := rat_num x
  have h2 : (x.num : Rat) * (B : Rat) = ((signed s A : Int) : Rat) * (2 : Rat) ^ e * (x.den : Rat) := by rw [← h1, ← hx]; grind
  have h3 : (x.num : Rat) * (B : Rat) * (2 : Rat) ^ (((0 - e).toNat : Nat) : Int) = ((signed s A : Int) : Rat) * (x.den : Rat) * (2 : Rat) ^ (((e - 0).toNat : Nat) : Int) := by
    rw [h2, Rat.mul_assoc, Rat.mul_assoc, Rat.mul_comm ((2 : Rat) ^ e), Rat.mul_assoc, ← p2add, ← Rat.mul_assoc]
    rw [show (((0 - e).toNat : Nat) : Int) + e = (((e - 0).toNat : Nat) : Int) by omega]
  rw [p2nat, p2nat] at h3
  have h4 : x.num * (B : Int) * ((2 ^ (0 - e).toNat : Nat) : Int) = signed s A * (x.den : Int) * ((2 ^ (e - 0).toNat : Nat) : Int) := by
    refine Rat.intCast_inj.mp ?_
    rw [Rat.intCast_mul, Rat.intCast_mul, Rat.intCast_mul, Rat.intCast_mul]
    exact h3
  have h5 := congrArg Int.natAbs h4
  simp only [Int.natAbs_mul, Int.natAbs_natCast, natAbs_signed] at h5
  exact h5.symm
theorem rvd_rr {s : Bool} {A B : Nat} {e : Int} {x : Rat} (hB : 0 < B) (hx : x * (B : Rat) = ((signed s A : Int) : Rat) * (2 : Rat) ^ e) : rvd (roundRatio b64 s A B e) = RR x := by
  by_cases hA : A = 0
  · subst hA
    have hx0 : x = 0 := by
      rw [signed_zero] at hx
      have hBp : (B : Rat) ≠ 0 := fun q => by have := Rat.natCast_eq_zero_iff.mp q; omega
      rcases Rat.mul_eq_zero.mp (hx.trans (by rw [show ((0 : Int) : Rat) = 0 from rfl, Rat.zero_mul])) with q | q
      · exact q
      · exact absurd q hBp
    subst hx0
    unfold RR roundRatio
    rw [if_pos rfl, if_pos (by decide)]
    show ((signed s 0 : Int) : Rat) * _ = ((signed _ 0 : Int) : Rat) * _
    rw [signed_zero, signed_zero]
  · rw [rr_congr hB hx hA]; rfl
theorem RR_neg (x : Rat) : RR (-x) = - RR x := by
  have h := rat_num x
  have h1 : rvd (roundRatio b64 (!decide (x < 0)) x.num.natAbs x.den 0) = RR (-x) := by
    refine rvd_rr x.den_pos ?_
    rw [Rat.zpow_zero, Rat.mul_one, Rat.neg_mul, h]
    have : (signed (!decide (x < 0)) x.num.natAbs : Int) = - x.num := by
      by_cases q : x < 0
      · have : x.num < 0 := by
          rw [← Int.not_le, Rat.num_nonneg, Rat.not_le]; exact q
        simp [signed, q]; omega
      · have : 0 ≤ x.num := by rw [Rat.num_nonneg]; exact Rat.not_lt.mp q
        simp [signed, q]; omega
    rw [this]; rfl
  rw [← h1, ← negate_roundRatio]
  unfold RR
  generalize roundRatio b64 (decide (x < 0)) x.num.natAbs x.den 0 = d
  cases d with
  | nan => simp [negate, rvd]
  | inf s => simp [negate, rvd]
  | fin s c q =>
    show ((signed (!s) c : Int) : Rat) * _ = -(((signed s c : Int) : Rat) * _)
    rw [← Rat.neg_mul]
    congr 1
    cases s <;> simp [signed]
/-- what is known of a rounding y of x -/
def Rsp (x y : Rat) : Prop := ∃ (m r : Int), y = (m : Rat) * (2 : Rat) ^ r ∧ -1074 ≤ r ∧ m.natAbs ≤ 2 ^ 53 ∧ 2 * x ≤ (2 * (m : Rat) + 1) * (2 : Rat) ^ r ∧ (2 * (m : Rat) - 1) * (2 : Rat) ^ r ≤ 2 * x ∧
    x < 9007199254740992 * (2 : Rat) ^ r ∧ -(9007199254740992 * (2 : Rat) ^ r) < x ∧ (r = -1074 ∨ 4503599627370496 * (2 : Rat) ^ r ≤ x ∨ x ≤ -(4503599627370496 * (2 : Rat) ^ r))
theorem Rsp.neg {x y : Rat} (h : Rsp x y) : Rsp (-x) (-y) := by
  obtain ⟨m, r, h1, h2, h3, h4, h5, h6, h7, h8⟩ := h
  have hu := p2pos r
  refine ⟨-m, r, ?_, h2, by omega, ?_, ?_, ?_, ?_, ?_⟩ <;> (try rw [Rat.intCast_neg]) <;> generalize (2 : Rat) ^ r = u at * <;> grind
theorem big_lt : (1267650600228229401496703205376 : Rat) < (2 : Rat) ^ (1023 : Int) := by
  have h : (2 : Rat) ^ (100 : Int) < (2 : Rat) ^ (1023 : Int) := by
    refine Rat.lt_of_le_of_ne (p2le (by decide)) fun q => ?_
    have h2 : (2 : Rat) ^ (1023 : Int) = (2 : Rat) ^ (100 : Int) * (2 : Rat) ^ (923 : Int) := by rw [← p2add]; rfl
    have h3 : (2 : Rat) ^ (1 : Int) ≤ (2 : Rat) ^ (923 : Int) := p2le (by decide)
    have h4 := p2pos 100
    rw [Rat.zpow_one] at h3
    have h5 := Rat.mul_le_mul_of_nonneg_left h3 (Rat.le_of_lt h4)
    grind
  have e : (2 : Rat) ^ (100 : Int) = 1267650600228229401496703205376 := by decide +kernel
  rw [← e]; exact h
theorem RR_pos {x : Rat} (h0 : 0 < x) (h : x ≤ 1267650600228229401496703205376) : Rsp x (RR x) ∧ ∃ c q, roundRatio b64 (decide (x < 0)) x.num.natAbs x.den 0 = .fin false c q := by
  have hn : 0 < x.num := by
    have : 0 ≤ x.num := by rw [Rat.num_nonneg]; exact Rat.le_of_lt h0
    have : x.num ≠ 0 := fun q => by rw [Rat.num_eq_zero] at q; rw [q] at h0; exact absurd h0 Rat.lt_irrefl
    omega
  have hd : decide (x < 0) = false := by rw [decide_eq_false_iff_not, Rat.not_lt]; exact Rat.le_of_lt h0
  have e1 : ((x.num.natAbs : Nat) : Rat) = (x.num : Rat) := by
    have : ((x.num.natAbs : Nat) : Int) = x.num := by omega
    rw [← Rat.intCast_natCast, this]
  obtain ⟨c, q, hr, m, r, f0, f1, f2, f3, f4, f5, f6⟩ := rr_spec false (A := x.num.natAbs) (B := x.den) 0 (by omega) x.den_pos (x := x) (by rw [Rat.zpow_zero, Rat.mul_one, e1]; exact rat_num x) (Std.lt_of_le_of_lt h big_lt)
  refine ⟨⟨m, r, ?_, f1, by omega, ?_, ?_, ?_, ?_, ?_⟩, c, q, by rw [hd]; exact hr⟩
  · unfold RR
    rw [hd, hr]
    show ((signed false c : Int) : Rat) * _ = _
    rw [← Rat.intCast_natCast] at f0
    exact f0
  all_goals
    have hu := p2pos r
    have e2 : ((m : Int) : Rat) = (m : Rat) := rfl
    rw [e2] at *
    generalize (2 : Rat) ^ r = u at *
    grind
theorem RR_zero : RR 0 = 0 := by
  unfold RR roundRatio
  rw [if_pos (by decide)]
  show ((signed _ 0 : Int) : Rat) * _ = 0
  rw [signed_zero]
  exact Rat.zero_mul _
theorem Rsp.zero : Rsp 0 0 := by
  have hu := p2pos (-1074)
  refine ⟨0, -1074, ?_, by decide, by decide, ?_, ?_, ?_, ?_, Or.inl rfl⟩ <;> generalize (2 : Rat) ^ (-1074 : Int) = u at * <;> (try rw [show ((0 : Int) : Rat) = 0 from rfl]) <;> grind
theorem RR_spec {x : Rat} (h1 : -1267650600228229401496703205376 ≤ x) (h2 : x ≤ 1267650600228229401496703205376) : Rsp x (RR x) := by
  by_cases q : 0 < x
  · exact (RR_pos q h2).1
  · by_cases q2 : x = 0
    · subst q2; rw [RR_zero]; exact Rsp.zero
    · have q3 : 0 < -x := by grind
      have g := (RR_pos q3 (by grind)).1.neg
      rw [RR_neg, Rat.neg_neg, Rat.neg_neg] at g
      exact g
theorem DV.of_rr {v : UInt64} {s : Bool} {A B : Nat} {e : Int} {x : Rat} (hv : val64 v = roundRatio b64 s A B e) (hB : 0 < B) (hx : x * (B : Rat) = ((signed s A : Int) : Rat) * (2 : Rat) ^ e) (h1 : -1267650600228229401496703205376 ≤ x) (h2 : x ≤ 1267650600228229401496703205376) : DV v (RR x) := by
  have hr := rvd_rr hB hx
  by_cases hA : A = 0
  · subst hA
    refine ⟨s, 0, b64.qmin, by rw [hv]; unfold roundRatio; rw [if_pos rfl], ?_⟩
    rw [← hr]; unfold roundRatio; rw [if_pos rfl]
  · obtain ⟨c, q, h, -⟩ := rr_spec s (A := A) (B := B) e (by omega) hB (x := if s then -x else x) (by rw [signed_rat] at hx; cases s <;> simp at hx ⊢ <;> grind) (Std.lt_of_le_of_lt (by cases s <;> simp <;> grind) big_lt)
    exact ⟨s, c, q, by rw [hv, h], by rw [← hr, h]⟩
theorem dadd_DV {a b : UInt64} {x y : Rat} (ha : DV a x) (hb : DV b y) (h1 : -1267650600228229401496703205376 ≤ x + y) (h2 : x + y ≤ 1267650600228229401496703205376) : DV (Jvm.FP.dadd a b) (RR (x + y)) := by
  obtain ⟨s, c, q, e1, rfl⟩ := ha
  obtain ⟨t, d, r, e2, rfl⟩ := hb
  refine DV.of_rr (s := sumSign s t (sumUnits s c q t d r (min q r))) (A := (sumUnits s c q t d r (min q r)).natAbs) (B := 1) (e := min q r) ?_ (by decide) ?_ h1 h2
  · show val64 (dadd a b) = _
    rw [val64_dadd, e1, e2]; rfl
  · rw [signed_sumSign, show ((1 : Nat) : Rat) = 1 from rfl, Rat.mul_one]
    unfold sumUnits
    rw [Rat.intCast_add, Rat.add_mul, units_val s c (Int.min_le_left q r), units_val t d (Int.min_le_right q r)]; rfl
theorem signed_not (t : Bool) (d : Nat) : (signed (!t) d : Int) = - signed t d := by cases t <;> simp [signed]
theorem dsub_DV {a b : UInt64} {x y : Rat} (ha : DV a x) (hb : DV b y) (h1 : -1267650600228229401496703205376 ≤ x - y) (h2 : x - y ≤ 1267650600228229401496703205376) : DV (Jvm.FP.dsub a b) (RR (x - y)) := by
  obtain ⟨s, c, q, e1, rfl⟩ := ha
  obtain ⟨t, d, r, e2, rfl⟩ := hb
  refine DV.of_rr (s := sumSign s (!t) (sumUnits s c q (!t) d r (min q r))) (A := (sumUnits s c q (!t) d r (min q r)).natAbs) (B := 1) (e := min q r) ?_ (by decide) ?_ h1 h2
  · show val64 (dsub a b) = _
    rw [val64_dsub, e1, e2]; rfl
  · rw [signed_sumSign, show ((1 : Nat) : Rat) = 1 from rfl, Rat.mul_one]
    unfold sumUnits
    rw [Rat.intCast_add, Rat.add_mul, units_val s c (Int.min_le_left q r), units_val (!t) d (Int.min_le_right q r), signed_not, Rat.intCast_neg, Rat.neg_mul, Rat.sub_eq_add_neg]; rfl
theorem dmul_DV {a b : UInt64} {x y : Rat} (ha : DV a x) (hb : DV b y) (h1 : -1267650600228229401496703205376 ≤ x * y) (h2 : x * y ≤ 1267650600228229401496703205376) : DV (Jvm.FP.dmul a b) (RR (x * y)) := by
  obtain ⟨s, c, q, e1, rfl⟩ := ha
  obtain ⟨t, d, r, e2, rfl⟩ := hb
  refine DV.of_rr (s := s != t) (A := c * d) (B := 1) (e := q + r) ?_ (by decide) ?_ h1 h2
  · show val64 (dmul a b) = _
    rw [val64_dmul, e1, e2]; rfl
  · rw [signed_xor, show ((1 : Nat) : Rat) = 1 from rfl, Rat.mul_one, Rat.intCast_mul, p2add]
    show (_ * _) * (_ * _) = _
    generalize (2 : Rat) ^ q = u
    generalize (2 : Rat) ^ r = w
    grind
theorem ddiv_DV {a b : UInt64} {x y : Rat} (ha : DV a x) (hb : DV b y) (hy : y ≠ 0) (h1 : -1267650600228229401496703205376 ≤ x / y) (h2 : x / y ≤ 1267650600228229401496703205376) : DV (Jvm.FP.ddiv a b) (RR (x / y)) := by
  obtain ⟨s, c, q, e1, rfl⟩ := ha
  obtain ⟨t, d, r, e2, rfl⟩ := hb
  have hd : d ≠ 0 := by
    rintro rfl
    apply hy
    show ((signed t 0 : Int) : Rat) * _ = 0
    rw [signed_zero]; exact Rat.zero_mul _
  refine DV.of_rr (s := s != t) (A := c) (B := d) (e := q - r) ?_ (by omega) ?_ h1 h2
  · show val64 (ddiv a b) = _
    rw [val64_ddiv, e1, e2]
    show (if d = 0 then _ else _) = _
    rw [if_neg hd]
  · have hq : (2 : Rat) ^ q = (2 : Rat) ^ (q - r) * (2 : Rat) ^ r := by rw [← p2add, show q - r + r = q by omega]
    have hS : ((signed s c : Int) : Rat) * (d : Rat) = ((signed (s != t) c : Int) : Rat) * ((signed t d : Int) : Rat) := by
      rw [signed_rat, signed_rat, signed_rat]
      cases s <;> cases t <;> simp <;> grind
    have hm := Rat.div_mul_cancel (a := rvd (.fin s c q)) hy
    have hyn := hy
    have hv1 : rvd (.fin s c q) = ((signed s c : Int) : Rat) * ((2 : Rat) ^ (q - r) * (2 : Rat) ^ r) := by rw [← hq]; rfl
    have hv2 : rvd (.fin t d r) = ((signed t d : Int) : Rat) * (2 : Rat) ^ r := rfl
    generalize rvd (.fin s c q) / rvd (.fin t d r) = z at *
    rw [hv1, hv2] at hm
    rw [hv2] at hyn
    have hst : ((signed t d : Int) : Rat) ≠ 0 := fun g => hyn (by rw [g]; exact Rat.zero_mul _)
    have hr := p2pos r
    generalize (2 : Rat) ^ (q - r) = u at *
    generalize (2 : Rat) ^ r = w at *
    generalize ((signed s c : Int) : Rat) = X at *
    generalize ((signed (s != t) c : Int) : Rat) = S at *
    generalize ((signed t d : Int) : Rat) = Y at *
    generalize (d : Rat) = D at *
    -- hm : z * (Y * w) = X * (u * w); hS : X * D = S * Y; goal : z * D = S * u
    have hw : w ≠ 0 := Rat.ne_of_gt hr
    have k1 : z * Y = X * u := by
      have : (z * Y - X * u) * w = 0 := by grind
      rcases Rat.mul_eq_zero.mp this with g | g
      · grind
      · exact absurd g hw
    have k2 : (z * D - S * u) * Y = 0 := by grind
    rcases Rat.mul_eq_zero.mp k2 with g | g
    · grind
    · exact absurd g hst
theorem i2d_RR (n : Int32) : DV (Jvm.FP.i2d n) (RR (n.toInt : Rat)) := by
  have h := n.le_toInt
  have h' := n.toInt_lt
  refine DV.of_rr (s := decide (n.toInt < 0)) (A := n.toInt.natAbs) (B := 1) (e := 0) ?_ (by decide) ?_ ?_ ?_
  · show val64 (i2d n) = _
    rw [val64_i2d]; rfl
  · rw [Rat.zpow_zero, Rat.mul_one, show ((1 : Nat) : Rat) = 1 from rfl, Rat.mul_one]
    congr 1
    by_cases q : n.toInt < 0 <;> simp [signed, q] <;> omega
  · have := Rat.intCast_le_intCast.mpr h; grind
  · have := Rat.intCast_le_intCast.mpr (Int.le_of_lt h'); grind
theorem l2d_RR (n : Int64) : DV (Jvm.FP.l2d n) (RR (n.toInt : Rat)) := by
  have h := n.le_toInt
  have h' := n.toInt_lt
  refine DV.of_rr (s := decide (n.toInt < 0)) (A := n.toInt.natAbs) (B := 1) (e := 0) ?_ (by decide) ?_ ?_ ?_
  · show val64 (l2d n) = _
    rw [val64_l2d]; rfl
  · rw [Rat.zpow_zero, Rat.mul_one, show ((1 : Nat) : Rat) = 1 from rfl, Rat.mul_one]
    congr 1
    by_cases q : n.toInt < 0 <;> simp [signed, q] <;> omega
  · have := Rat.intCast_le_intCast.mpr h; grind
  · have := Rat.intCast_le_intCast.mpr (Int.le_of_lt h'); grind
/-- a rational number that a double can hold (no overflow asked) -/
def Rp (z : Rat) : Prop := ∃ m k : Int, z = (m : Rat) * (2 : Rat) ^ k ∧ m.natAbs ≤ 2 ^ 53 ∧ -1074 ≤ k
theorem abs_le {m : Int} (h : m.natAbs ≤ 2 ^ 53) : -(9007199254740992 : Rat) ≤ (m : Rat) ∧ (m : Rat) ≤ 9007199254740992 := by
  have h1 : (-9007199254740992 : Int) ≤ m ∧ m ≤ 9007199254740992 := by omega
  exact ⟨by have := Rat.intCast_le_intCast.mpr h1.1; simpa using this, by have := Rat.intCast_le_intCast.mpr h1.2; simpa using this⟩
/-- a number that can be held is a multiple of the quantum, or no greater than the quantum's least -/
theorem rp_mul {z : Rat} {r : Int} (h : Rp z) : (∃ j : Int, z = (j : Rat) * (2 : Rat) ^ r) ∨ (-1074 < r ∧ z ≤ 4503599627370496 * (2 : Rat) ^ r ∧ -(4503599627370496 * (2 : Rat) ^ r) ≤ z) := by
  obtain ⟨m, k, hz, hm, hk⟩ := h
  by_cases hkr : r ≤ k
  · left
    obtain ⟨i, rfl⟩ : ∃ i : Nat, k = r + i := ⟨(k - r).toNat, by omega⟩
    refine ⟨m * ((2 ^ i : Nat) : Int), ?_⟩
    rw [hz, p2add, p2nat, Rat.intCast_mul, Rat.intCast_natCast]
    generalize (2 : Rat) ^ r = u
    generalize ((2 ^ i : Nat) : Rat) = w
    grind
  · right
    have h1 : (2 : Rat) ^ (k + 1) ≤ (2 : Rat) ^ r := p2le (by omega)
    rw [p2add, Rat.zpow_one] at h1
    obtain ⟨a1, a2⟩ := abs_le hm
    have hu := p2pos k
    have b1 := Rat.mul_le_mul_of_nonneg_right a1 (Rat.le_of_lt hu)
    have b2 := Rat.mul_le_mul_of_nonneg_right a2 (Rat.le_of_lt hu)
    rw [hz]
    refine ⟨by omega, ?_, ?_⟩ <;> generalize (2 : Rat) ^ r = w at * <;> generalize (2 : Rat) ^ k = u at * <;> grind
theorem icast_le {u : Rat} (hu : 0 < u) {i j : Int} (h : (i : Rat) * u ≤ (j : Rat) * u) : i ≤ j := Rat.intCast_le_intCast.mp (Rat.le_of_mul_le_mul_right h hu)
theorem icast_lt {u : Rat} (hu : 0 < u) {i j : Int} (h : (i : Rat) * u < (j : Rat) * u) : i < j := Rat.intCast_lt_intCast.mp (Rat.lt_of_mul_lt_mul_right h (Rat.le_of_lt hu))
/-- the nearest: whatever can be held is no nearer -/
theorem Rsp.near {x y z : Rat} (h : Rsp x y) (hz : Rp z) (t : Rat) (t1 : x - z ≤ t) (t2 : z - x ≤ t) : x - y ≤ t ∧ y - x ≤ t := by
  obtain ⟨n, r, rfl, h2, h3, h4, h5, h6, h7, h8⟩ := h
  have hu := p2pos r
  -- multiples of the quantum
  have main : ∀ (j : Int) (t : Rat), x - (j : Rat) * (2 : Rat) ^ r ≤ t → (j : Rat) * (2 : Rat) ^ r - x ≤ t → x - (n : Rat) * (2 : Rat) ^ r ≤ t ∧ (n : Rat) * (2 : Rat) ^ r - x ≤ t := by
    intro j t t1 t2
    rcases Int.lt_trichotomy j n with g | g | g
    · have g1 : (j : Rat) + 1 ≤ (n : Rat) := by have := Rat.intCast_le_intCast.mpr (show j + 1 ≤ n by omega); simpa using this
      have g2 := Rat.mul_le_mul_of_nonneg_right g1 (Rat.le_of_lt hu)
      generalize (2 : Rat) ^ r = u at *
      constructor <;> grind
    · subst g; exact ⟨t1, t2⟩
    · have g1 : (n : Rat) + 1 ≤ (j : Rat) := by have := Rat.intCast_le_intCast.mpr (show n + 1 ≤ j by omega); simpa using this
      have g2 := Rat.mul_le_mul_of_nonneg_right g1 (Rat.le_of_lt hu)
      generalize (2 : Rat) ^ r = u at *
      constructor <;> grind
  rcases rp_mul (r := r) hz with ⟨j, rfl⟩ | ⟨g0, g1, g2⟩
  · exact main j t t1 t2
  · rcases h8 with q | q | q
    · omega
    · refine main 4503599627370496 t ?_ ?_ <;> rw [show ((4503599627370496 : Int) : Rat) = 4503599627370496 from rfl] <;> generalize (2 : Rat) ^ r = u at * <;> grind
    · refine main (-4503599627370496) t ?_ ?_ <;> rw [show ((-4503599627370496 : Int) : Rat) = -4503599627370496 from rfl] <;> generalize (2 : Rat) ^ r = u at * <;> grind
theorem Rsp.exact {x y : Rat} (h : Rsp x y) (hx : Rp x) : y = x := by
  have := h.near hx 0 (by grind) (by grind)
  grind
theorem RR_exact {x : Rat} (hx : Rp x) (h1 : -1267650600228229401496703205376 ≤ x) (h2 : x ≤ 1267650600228229401496703205376) : RR x = x := (RR_spec h1 h2).exact hx
theorem Rsp.rp {x y : Rat} (h : Rsp x y) : Rp y := by
  obtain ⟨n, r, rfl, h2, h3, -⟩ := h
  exact ⟨n, r, rfl, h3, h2⟩
theorem Rsp.le {x y z : Rat} (h : Rsp x y) (hz : Rp z) (q : x ≤ z) : y ≤ z := by
  have := h.near hz (z - x) (by grind) (by grind)
  grind
theorem Rsp.ge {x y z : Rat} (h : Rsp x y) (hz : Rp z) (q : z ≤ x) : z ≤ y := by
  have := h.near hz (x - z) (by grind) (by grind)
  grind
theorem RR_mono {x y : Rat} (h : x ≤ y) (x1 : -1267650600228229401496703205376 ≤ x) (y2 : y ≤ 1267650600228229401496703205376) : RR x ≤ RR y := by
  by_cases q : x = y
  · rw [q]; exact Rat.le_refl
  · have hx := RR_spec x1 (by grind)
    have hy := RR_spec (by grind) y2
    by_cases g : RR x ≤ RR y
    · exact g
    · have g := Rat.not_le.mp g
      -- RR y < RR x
      have a := fun t => hx.near hy.rp t
      have b := fun t => hy.near hx.rp t
      generalize RR x = X at *
      generalize RR y = Y at *
      by_cases c1 : x ≤ Y
      · have := a (Y - x) (by grind) (by grind)
        grind
      · by_cases c2 : X ≤ y
        · have := b (y - X) (by grind) (by grind)
          grind
        · have k1 := a (x - Y) (by grind) (by grind)
          have k2 := b (X - y) (by grind) (by grind)
          grind
/-- the relative error, of what is not tiny -/
theorem Rsp.err {x y : Rat} (h : Rsp x y) (hx : 1 ≤ x * 1267650600228229401496703205376) : 9007199254740992 * (y - x) ≤ x ∧ 9007199254740992 * (x - y) ≤ x := by
  obtain ⟨n, r, rfl, h2, h3, h4, h5, h6, h7, h8⟩ := h
  have hu := p2pos r
  have k : 4503599627370496 * (2 : Rat) ^ r ≤ x := by
    rcases h8 with q | q | q
    · subst q
      have e1 : (2 : Rat) ^ (-1022 : Int) = 4503599627370496 * (2 : Rat) ^ (-1074 : Int) := by
        rw [show (-1022 : Int) = 52 + -1074 from rfl, p2add, show (2 : Rat) ^ (52 : Int) = 4503599627370496 by decide +kernel]
      have e2 : (2 : Rat) ^ (-1022 : Int) ≤ (2 : Rat) ^ (-100 : Int) := p2le (by decide)
      have e3 : (2 : Rat) ^ (-100 : Int) * (2 : Rat) ^ (100 : Int) = 1 := by rw [← p2add]; rfl
      have e4 : (2 : Rat) ^ (100 : Int) = 1267650600228229401496703205376 := by decide +kernel
      rw [e4] at e3
      rw [← e1]
      generalize (2 : Rat) ^ (-1022 : Int) = v at *
      generalize (2 : Rat) ^ (-100 : Int) = w at *
      grind
    · exact q
    · generalize (2 : Rat) ^ r = u at *
      grind
  generalize (2 : Rat) ^ r = u at *
  constructor <;> grind
/-- the error, of whatever size: relative, or below 2^-53 -/
theorem err_any {x : Rat} (h1 : -1267650600228229401496703205376 ≤ x) (h2 : x ≤ 1267650600228229401496703205376) (t : Rat) (t1 : x ≤ t) (t2 : -x ≤ t) : 9007199254740992 * (RR x - x) ≤ t + 1 ∧ 9007199254740992 * (x - RR x) ≤ t + 1 := by
  have h := RR_spec h1 h2
  generalize RR x = y at *
  obtain ⟨n, r, rfl, g2, g3, g4, g5, g6, g7, g8⟩ := h
  have hu := p2pos r
  have k : 4503599627370496 * (2 : Rat) ^ r ≤ t + 1 := by
    rcases g8 with q | q | q
    · subst q
      have e1 : (2 : Rat) ^ (-1022 : Int) = 4503599627370496 * (2 : Rat) ^ (-1074 : Int) := by
        rw [show (-1022 : Int) = 52 + -1074 from rfl, p2add, show (2 : Rat) ^ (52 : Int) = 4503599627370496 by decide +kernel]
      have e2 : (2 : Rat) ^ (-1022 : Int) ≤ (2 : Rat) ^ (0 : Int) := p2le (by decide)
      rw [Rat.zpow_zero] at e2
      rw [← e1]
      generalize (2 : Rat) ^ (-1022 : Int) = v at *
      grind
    · generalize (2 : Rat) ^ r = u at *
      grind
    · generalize (2 : Rat) ^ r = u at *
      grind
  generalize (2 : Rat) ^ r = u at *
  constructor <;> grind
theorem rp_int {n : Int} (h : n.natAbs ≤ 2 ^ 53) : Rp (n : Rat) := ⟨n, 0, by rw [Rat.zpow_zero, Rat.mul_one], h, by decide⟩
theorem rp_scale {z : Rat} (k : Int) {m : Int} (h : z = (m : Rat) * (2 : Rat) ^ k) (hm : m.natAbs ≤ 2 ^ 53) (hk : -1074 ≤ k) : Rp z := ⟨m, k, h, hm, hk⟩
theorem RR_int {n : Int} (h : n.natAbs ≤ 2 ^ 53) : RR (n : Rat) = (n : Rat) := by
  refine RR_exact (rp_int h) ?_ ?_
  · have := Rat.intCast_le_intCast.mpr (show (-9007199254740992 : Int) ≤ n by omega); grind
  · have := Rat.intCast_le_intCast.mpr (show n ≤ (9007199254740992 : Int) by omega); grind
theorem i2d_DV (n : Int32) : DV (Jvm.FP.i2d n) (n.toInt : Rat) := by
  have h := n.le_toInt
  have h' := n.toInt_lt
  have q := i2d_RR n
  rw [RR_int (by omega)] at q
  exact q
theorem l2d_DV {n : Int64} (h : n.toInt.natAbs ≤ 2 ^ 53) : DV (Jvm.FP.l2d n) (n.toInt : Rat) := by
  have q := l2d_RR n
  rw [RR_int h] at q
  exact q
/-- a written double, by its fields -/
theorem lit_DV {v : UInt64} {s : Bool} {c : Nat} {q : Int} {x : Rat} (h : val64 v = .fin s c q) (hx : ((signed s c : Int) : Rat) * (2 : Rat) ^ q = x) : DV v x := ⟨s, c, q, h, hx⟩
theorem dneg_DV {v : UInt64} {x : Rat} (h : DV v x) : DV (Jvm.FP.dneg v) (-x) := by
  obtain ⟨s, c, q, h1, rfl⟩ := h
  refine ⟨!s, c, q, by rw [Jvm.FP.val64_dneg, h1]; rfl, ?_⟩
  show ((signed (!s) c : Int) : Rat) * _ = -(((signed s c : Int) : Rat) * _)
  rw [signed_not, Rat.intCast_neg, Rat.neg_mul]
theorem DV.whole {v : UInt64} {n : Int} (h : DV v (n : Rat)) : DInt n v := by
  obtain ⟨s, c, q, h1, h2⟩ := h
  unfold DInt
  rw [h1]
  show signed s (c * 2 ^ q.toNat) = n * ((2 ^ (-q).toNat : Nat) : Int)
  refine Rat.intCast_inj.mp ?_
  have h3 : ((signed s c : Int) : Rat) * (2 : Rat) ^ q = (n : Rat) := h2
  rw [signed_mul, Rat.intCast_mul, Rat.intCast_mul, ← h3, Rat.mul_assoc, show (((2 ^ (-q).toNat : Nat) : Int) : Rat) = ((2 ^ (-q).toNat : Nat) : Rat) from rfl, show (((2 ^ q.toNat : Nat) : Int) : Rat) = ((2 ^ q.toNat : Nat) : Rat) from rfl, ← p2nat, ← p2nat, ← p2add, show q + ((-q).toNat : Int) = (q.toNat : Int) by omega]
theorem d2l_DV {v : UInt64} {n : Int64} (h : DV v (n.toInt : Rat)) : Jvm.FP.d2l v = n := d2l_int h.whole
theorem DV.cast {v : UInt64} {x y : Rat} (h : DV v x) (e : x = y) : DV v y := e ▸ h
end Jvm.OwnFl
namespace Jvm.Pilot.@@N@@
open Jvm Jvm.ClassFile Sem Op Lib Jvm.Free Jvm.Stand Jvm.LawKit Jvm.RoadKit Jvm.OwnKit Bundle Jvm.Pilot.@@N@@.Jvm.D
theorem wd {a0 : Array Value} {Z : State} {d : Jvm.Cond} (hw : ∀ d ∈ tables_1, d.before a0 Z = true) (i : Nat) (h : tables_1[i]? = some d) : d.before a0 Z = true := hw d (List.mem_of_getElem? h)
theorem d1_0 : decode prog_39_method_1_code 0 = .ok (.aload_n 0, 1) := by decide +kernel
theorem d1_1 : decode prog_39_method_1_code 1 = .ok (.invokespecial 1, 3) := by decide +kernel
theorem d1_4 : decode prog_39_method_1_code 4 = .ok (.aload_n 0, 1) := by decide +kernel
theorem d1_5 : decode prog_39_method_1_code 5 = .ok (.iload_n 1, 1) := by decide +kernel
theorem d1_6 : decode prog_39_method_1_code 6 = .ok (.newarray .int, 2) := by decide +kernel
theorem d1_8 : decode prog_39_method_1_code 8 = .ok (.putfield 7, 3) := by decide +kernel
theorem d1_11 : decode prog_39_method_1_code 11 = .ok (.aload_n 0, 1) := by decide +kernel
theorem d1_12 : decode prog_39_method_1_code 12 = .ok (.iload_n 1, 1) := by decide +kernel
theorem d1_13 : decode prog_39_method_1_code 13 = .ok (.newarray .int, 2) := by decide +kernel
theorem d1_15 : decode prog_39_method_1_code 15 = .ok (.putfield 13, 3) := by decide +kernel
theorem d1_18 : decode prog_39_method_1_code 18 = .ok (.aload_n 0, 1) := by decide +kernel
theorem d1_19 : decode prog_39_method_1_code 19 = .ok (.iload_n 1, 1) := by decide +kernel
theorem d1_20 : decode prog_39_method_1_code 20 = .ok (.newarray .double, 2) := by decide +kernel
theorem d1_22 : decode prog_39_method_1_code 22 = .ok (.putfield 16, 3) := by decide +kernel
theorem d1_25 : decode prog_39_method_1_code 25 = .ok (.aload_n 0, 1) := by decide +kernel
theorem d1_26 : decode prog_39_method_1_code 26 = .ok (.getfield 13, 3) := by decide +kernel
theorem d1_29 : decode prog_39_method_1_code 29 = .ok (.iconst (-1), 1) := by decide +kernel
theorem d1_30 : decode prog_39_method_1_code 30 = .ok (.invokestatic 20, 3) := by decide +kernel
theorem d1_33 : decode prog_39_method_1_code 33 = .ok (.return_, 1) := by decide +kernel
theorem d3_0 : decode jdk_65_method_103_code 0 = .ok (.iconst 0, 1) := by decide +kernel
theorem d3_1 : decode jdk_65_method_103_code 1 = .ok (.istore_n 2, 1) := by decide +kernel
theorem d3_2 : decode jdk_65_method_103_code 2 = .ok (.aload_n 0, 1) := by decide +kernel
theorem d3_3 : decode jdk_65_method_103_code 3 = .ok (.arraylength, 1) := by decide +kernel
theorem d3_4 : decode jdk_65_method_103_code 4 = .ok (.istore_n 3, 1) := by decide +kernel
theorem d3_5 : decode jdk_65_method_103_code 5 = .ok (.iload_n 2, 1) := by decide +kernel
theorem d3_6 : decode jdk_65_method_103_code 6 = .ok (.iload_n 3, 1) := by decide +kernel
theorem d3_7 : decode jdk_65_method_103_code 7 = .ok (.if_icmp .ge 13, 3) := by decide +kernel
theorem d3_10 : decode jdk_65_method_103_code 10 = .ok (.aload_n 0, 1) := by decide +kernel
theorem d3_11 : decode jdk_65_method_103_code 11 = .ok (.iload_n 2, 1) := by decide +kernel
theorem d3_12 : decode jdk_65_method_103_code 12 = .ok (.iload_n 1, 1) := by decide +kernel
theorem d3_13 : decode jdk_65_method_103_code 13 = .ok (.iastore, 1) := by decide +kernel
theorem d3_14 : decode jdk_65_method_103_code 14 = .ok (.iinc 2 1, 3) := by decide +kernel
theorem d3_17 : decode jdk_65_method_103_code 17 = .ok (.goto (-12), 3) := by decide +kernel
theorem d3_20 : decode jdk_65_method_103_code 20 = .ok (.return_, 1) := by decide +kernel
theorem d4_0 : decode prog_39_method_3_code 0 = .ok (.aload_n 0, 1) := by decide +kernel
theorem d4_1 : decode prog_39_method_3_code 1 = .ok (.getfield 13, 3) := by decide +kernel
theorem d4_4 : decode prog_39_method_3_code 4 = .ok (.iload_n 1, 1) := by decide +kernel
theorem d4_5 : decode prog_39_method_3_code 5 = .ok (.iaload, 1) := by decide +kernel
theorem d4_6 : decode prog_39_method_3_code 6 = .ok (.istore 4, 2) := by decide +kernel
theorem d4_8 : decode prog_39_method_3_code 8 = .ok (.iload 4, 2) := by decide +kernel
theorem d4_10 : decode prog_39_method_3_code 10 = .ok (.ifCond .ge 35, 3) := by decide +kernel
theorem d4_13 : decode prog_39_method_3_code 13 = .ok (.aload_n 0, 1) := by decide +kernel
theorem d4_14 : decode prog_39_method_3_code 14 = .ok (.dup, 1) := by decide +kernel
theorem d4_15 : decode prog_39_method_3_code 15 = .ok (.getfield 26, 3) := by decide +kernel
theorem d4_18 : decode prog_39_method_3_code 18 = .ok (.dup_x1, 1) := by decide +kernel
theorem d4_19 : decode prog_39_method_3_code 19 = .ok (.iconst 1, 1) := by decide +kernel
theorem d4_20 : decode prog_39_method_3_code 20 = .ok (.iadd, 1) := by decide +kernel
theorem d4_21 : decode prog_39_method_3_code 21 = .ok (.putfield 26, 3) := by decide +kernel
theorem d4_24 : decode prog_39_method_3_code 24 = .ok (.istore 4, 2) := by decide +kernel
theorem d4_26 : decode prog_39_method_3_code 26 = .ok (.aload_n 0, 1) := by decide +kernel
theorem d4_27 : decode prog_39_method_3_code 27 = .ok (.getfield 7, 3) := by decide +kernel
theorem d4_30 : decode prog_39_method_3_code 30 = .ok (.iload 4, 2) := by decide +kernel
theorem d4_32 : decode prog_39_method_3_code 32 = .ok (.iload_n 1, 1) := by decide +kernel
theorem d4_33 : decode prog_39_method_3_code 33 = .ok (.iastore, 1) := by decide +kernel
theorem d4_34 : decode prog_39_method_3_code 34 = .ok (.aload_n 0, 1) := by decide +kernel
theorem d4_35 : decode prog_39_method_3_code 35 = .ok (.getfield 13, 3) := by decide +kernel
theorem d4_38 : decode prog_39_method_3_code 38 = .ok (.iload_n 1, 1) := by decide +kernel
theorem d4_39 : decode prog_39_method_3_code 39 = .ok (.iload 4, 2) := by decide +kernel
theorem d4_41 : decode prog_39_method_3_code 41 = .ok (.iastore, 1) := by decide +kernel
theorem d4_42 : decode prog_39_method_3_code 42 = .ok (.goto 15, 3) := by decide +kernel
theorem d4_45 : decode prog_39_method_3_code 45 = .ok (.dload_n 2, 1) := by decide +kernel
theorem d4_46 : decode prog_39_method_3_code 46 = .ok (.aload_n 0, 1) := by decide +kernel
theorem d4_47 : decode prog_39_method_3_code 47 = .ok (.getfield 16, 3) := by decide +kernel
theorem d4_50 : decode prog_39_method_3_code 50 = .ok (.iload_n 1, 1) := by decide +kernel
theorem d4_51 : decode prog_39_method_3_code 51 = .ok (.daload, 1) := by decide +kernel
theorem d4_52 : decode prog_39_method_3_code 52 = .ok (.dcmp .g, 1) := by decide +kernel
theorem d4_53 : decode prog_39_method_3_code 53 = .ok (.ifCond .lt 4, 3) := by decide +kernel
theorem d4_56 : decode prog_39_method_3_code 56 = .ok (.return_, 1) := by decide +kernel
theorem d4_57 : decode prog_39_method_3_code 57 = .ok (.aload_n 0, 1) := by decide +kernel
theorem d4_58 : decode prog_39_method_3_code 58 = .ok (.getfield 16, 3) := by decide +kernel
theorem d4_61 : decode prog_39_method_3_code 61 = .ok (.iload_n 1, 1) := by decide +kernel
theorem d4_62 : decode prog_39_method_3_code 62 = .ok (.dload_n 2, 1) := by decide +kernel
theorem d4_63 : decode prog_39_method_3_code 63 = .ok (.dastore, 1) := by decide +kernel
theorem d4_64 : decode prog_39_method_3_code 64 = .ok (.aload_n 0, 1) := by decide +kernel
theorem d4_65 : decode prog_39_method_3_code 65 = .ok (.iload 4, 2) := by decide +kernel
theorem d4_67 : decode prog_39_method_3_code 67 = .ok (.invokevirtual 30, 3) := by decide +kernel
theorem d4_70 : decode prog_39_method_3_code 70 = .ok (.return_, 1) := by decide +kernel
theorem d5_0 : decode prog_39_method_6_code 0 = .ok (.aload_n 0, 1) := by decide +kernel
theorem d5_1 : decode prog_39_method_6_code 1 = .ok (.getfield 7, 3) := by decide +kernel
theorem d5_4 : decode prog_39_method_6_code 4 = .ok (.iload_n 1, 1) := by decide +kernel
theorem d5_5 : decode prog_39_method_6_code 5 = .ok (.iaload, 1) := by decide +kernel
theorem d5_6 : decode prog_39_method_6_code 6 = .ok (.istore_n 2, 1) := by decide +kernel
theorem d5_7 : decode prog_39_method_6_code 7 = .ok (.iload_n 1, 1) := by decide +kernel
theorem d5_8 : decode prog_39_method_6_code 8 = .ok (.ifCond .le 42, 3) := by decide +kernel
theorem d5_11 : decode prog_39_method_6_code 11 = .ok (.iload_n 1, 1) := by decide +kernel
theorem d5_12 : decode prog_39_method_6_code 12 = .ok (.iconst 1, 1) := by decide +kernel
theorem d5_13 : decode prog_39_method_6_code 13 = .ok (.isub, 1) := by decide +kernel
theorem d5_14 : decode prog_39_method_6_code 14 = .ok (.iconst 2, 1) := by decide +kernel
theorem d5_15 : decode prog_39_method_6_code 15 = .ok (.idiv, 1) := by decide +kernel
theorem d5_16 : decode prog_39_method_6_code 16 = .ok (.istore_n 3, 1) := by decide +kernel
theorem d5_17 : decode prog_39_method_6_code 17 = .ok (.aload_n 0, 1) := by decide +kernel
theorem d5_18 : decode prog_39_method_6_code 18 = .ok (.iload_n 2, 1) := by decide +kernel
theorem d5_19 : decode prog_39_method_6_code 19 = .ok (.aload_n 0, 1) := by decide +kernel
theorem d5_20 : decode prog_39_method_6_code 20 = .ok (.getfield 7, 3) := by decide +kernel
theorem d5_23 : decode prog_39_method_6_code 23 = .ok (.iload_n 3, 1) := by decide +kernel
theorem d5_24 : decode prog_39_method_6_code 24 = .ok (.iaload, 1) := by decide +kernel
theorem d5_25 : decode prog_39_method_6_code 25 = .ok (.invokevirtual 37, 3) := by decide +kernel
theorem d5_28 : decode prog_39_method_6_code 28 = .ok (.ifCond .ne 6, 3) := by decide +kernel
theorem d5_31 : decode prog_39_method_6_code 31 = .ok (.goto 19, 3) := by decide +kernel
theorem d5_34 : decode prog_39_method_6_code 34 = .ok (.aload_n 0, 1) := by decide +kernel
theorem d5_35 : decode prog_39_method_6_code 35 = .ok (.aload_n 0, 1) := by decide +kernel
theorem d5_36 : decode prog_39_method_6_code 36 = .ok (.getfield 7, 3) := by decide +kernel
theorem d5_39 : decode prog_39_method_6_code 39 = .ok (.iload_n 3, 1) := by decide +kernel
theorem d5_40 : decode prog_39_method_6_code 40 = .ok (.iaload, 1) := by decide +kernel
theorem d5_41 : decode prog_39_method_6_code 41 = .ok (.iload_n 1, 1) := by decide +kernel
theorem d5_42 : decode prog_39_method_6_code 42 = .ok (.invokevirtual 41, 3) := by decide +kernel
theorem d5_45 : decode prog_39_method_6_code 45 = .ok (.iload_n 3, 1) := by decide +kernel
theorem d5_46 : decode prog_39_method_6_code 46 = .ok (.istore_n 1, 1) := by decide +kernel
theorem d5_47 : decode prog_39_method_6_code 47 = .ok (.goto (-40), 3) := by decide +kernel
theorem d5_50 : decode prog_39_method_6_code 50 = .ok (.aload_n 0, 1) := by decide +kernel
theorem d5_51 : decode prog_39_method_6_code 51 = .ok (.iload_n 2, 1) := by decide +kernel
theorem d5_52 : decode prog_39_method_6_code 52 = .ok (.iload_n 1, 1) := by decide +kernel
theorem d5_53 : decode prog_39_method_6_code 53 = .ok (.invokevirtual 41, 3) := by decide +kernel
theorem d5_56 : decode prog_39_method_6_code 56 = .ok (.return_, 1) := by decide +kernel
theorem d6_0 : decode prog_39_method_8_code 0 = .ok (.aload_n 0, 1) := by decide +kernel
theorem d6_1 : decode prog_39_method_8_code 1 = .ok (.getfield 7, 3) := by decide +kernel
theorem d6_4 : decode prog_39_method_8_code 4 = .ok (.iload_n 2, 1) := by decide +kernel
theorem d6_5 : decode prog_39_method_8_code 5 = .ok (.iload_n 1, 1) := by decide +kernel
theorem d6_6 : decode prog_39_method_8_code 6 = .ok (.iastore, 1) := by decide +kernel
theorem d6_7 : decode prog_39_method_8_code 7 = .ok (.aload_n 0, 1) := by decide +kernel
theorem d6_8 : decode prog_39_method_8_code 8 = .ok (.getfield 13, 3) := by decide +kernel
theorem d6_11 : decode prog_39_method_8_code 11 = .ok (.iload_n 1, 1) := by decide +kernel
theorem d6_12 : decode prog_39_method_8_code 12 = .ok (.iload_n 2, 1) := by decide +kernel
theorem d6_13 : decode prog_39_method_8_code 13 = .ok (.iastore, 1) := by decide +kernel
theorem d6_14 : decode prog_39_method_8_code 14 = .ok (.return_, 1) := by decide +kernel
theorem d7_0 : decode prog_39_method_5_code 0 = .ok (.aload_n 0, 1) := by decide +kernel
theorem d7_1 : decode prog_39_method_5_code 1 = .ok (.getfield 16, 3) := by decide +kernel
theorem d7_4 : decode prog_39_method_5_code 4 = .ok (.iload_n 1, 1) := by decide +kernel
theorem d7_5 : decode prog_39_method_5_code 5 = .ok (.daload, 1) := by decide +kernel
theorem d7_6 : decode prog_39_method_5_code 6 = .ok (.aload_n 0, 1) := by decide +kernel
theorem d7_7 : decode prog_39_method_5_code 7 = .ok (.getfield 16, 3) := by decide +kernel
theorem d7_10 : decode prog_39_method_5_code 10 = .ok (.iload_n 2, 1) := by decide +kernel
theorem d7_11 : decode prog_39_method_5_code 11 = .ok (.daload, 1) := by decide +kernel
theorem d7_12 : decode prog_39_method_5_code 12 = .ok (.dcmp .g, 1) := by decide +kernel
theorem d7_13 : decode prog_39_method_5_code 13 = .ok (.ifCond .lt 24, 3) := by decide +kernel
theorem d7_16 : decode prog_39_method_5_code 16 = .ok (.aload_n 0, 1) := by decide +kernel
theorem d7_17 : decode prog_39_method_5_code 17 = .ok (.getfield 16, 3) := by decide +kernel
theorem d7_20 : decode prog_39_method_5_code 20 = .ok (.iload_n 1, 1) := by decide +kernel
theorem d7_21 : decode prog_39_method_5_code 21 = .ok (.daload, 1) := by decide +kernel
theorem d7_22 : decode prog_39_method_5_code 22 = .ok (.aload_n 0, 1) := by decide +kernel
theorem d7_23 : decode prog_39_method_5_code 23 = .ok (.getfield 16, 3) := by decide +kernel
theorem d7_26 : decode prog_39_method_5_code 26 = .ok (.iload_n 2, 1) := by decide +kernel
theorem d7_27 : decode prog_39_method_5_code 27 = .ok (.daload, 1) := by decide +kernel
theorem d7_28 : decode prog_39_method_5_code 28 = .ok (.dcmp .l, 1) := by decide +kernel
theorem d7_29 : decode prog_39_method_5_code 29 = .ok (.ifCond .ne 12, 3) := by decide +kernel
theorem d7_32 : decode prog_39_method_5_code 32 = .ok (.iload_n 1, 1) := by decide +kernel
theorem d7_33 : decode prog_39_method_5_code 33 = .ok (.iload_n 2, 1) := by decide +kernel
theorem d7_34 : decode prog_39_method_5_code 34 = .ok (.if_icmp .ge 7, 3) := by decide +kernel
theorem d7_37 : decode prog_39_method_5_code 37 = .ok (.iconst 1, 1) := by decide +kernel
theorem d7_38 : decode prog_39_method_5_code 38 = .ok (.goto 4, 3) := by decide +kernel
theorem d7_41 : decode prog_39_method_5_code 41 = .ok (.iconst 0, 1) := by decide +kernel
theorem d7_42 : decode prog_39_method_5_code 42 = .ok (.ireturn, 1) := by decide +kernel
theorem d8_0 : decode method_3_code 0 = .ok (.aload_n 0, 1) := by decide +kernel
theorem d8_1 : decode method_3_code 1 = .ok (.iload_n 2, 1) := by decide +kernel
theorem d8_2 : decode method_3_code 2 = .ok (.baload, 1) := by decide +kernel
theorem d8_3 : decode method_3_code 3 = .ok (.ifCond .eq 10, 3) := by decide +kernel
theorem d8_6 : decode method_3_code 6 = .ok (.iload_n 3, 1) := by decide +kernel
theorem d8_7 : decode method_3_code 7 = .ok (.aload_n 1, 1) := by decide +kernel
theorem d8_8 : decode method_3_code 8 = .ok (.iload_n 2, 1) := by decide +kernel
theorem d8_9 : decode method_3_code 9 = .ok (.iaload, 1) := by decide +kernel
theorem d8_10 : decode method_3_code 10 = .ok (.if_icmp .ge 11, 3) := by decide +kernel
theorem d8_13 : decode method_3_code 13 = .ok (.aload_n 0, 1) := by decide +kernel
theorem d8_14 : decode method_3_code 14 = .ok (.iload_n 2, 1) := by decide +kernel
theorem d8_15 : decode method_3_code 15 = .ok (.iconst 1, 1) := by decide +kernel
theorem d8_16 : decode method_3_code 16 = .ok (.bastore, 1) := by decide +kernel
theorem d8_17 : decode method_3_code 17 = .ok (.aload_n 1, 1) := by decide +kernel
theorem d8_18 : decode method_3_code 18 = .ok (.iload_n 2, 1) := by decide +kernel
theorem d8_19 : decode method_3_code 19 = .ok (.iload_n 3, 1) := by decide +kernel
theorem d8_20 : decode method_3_code 20 = .ok (.iastore, 1) := by decide +kernel
theorem d8_21 : decode method_3_code 21 = .ok (.return_, 1) := by decide +kernel
theorem d9_0 : decode method_6_code 0 = .ok (.aload_n 0, 1) := by decide +kernel
theorem d9_1 : decode method_6_code 1 = .ok (.iload_n 3, 1) := by decide +kernel
theorem d9_2 : decode method_6_code 2 = .ok (.baload, 1) := by decide +kernel
theorem d9_3 : decode method_6_code 3 = .ok (.ifCond .ne 5, 3) := by decide +kernel
theorem d9_6 : decode method_6_code 6 = .ok (.iconst 0, 1) := by decide +kernel
theorem d9_7 : decode method_6_code 7 = .ok (.ireturn, 1) := by decide +kernel
theorem d9_8 : decode method_6_code 8 = .ok (.aload_n 2, 1) := by decide +kernel
theorem d9_9 : decode method_6_code 9 = .ok (.aload_n 0, 1) := by decide +kernel
theorem d9_10 : decode method_6_code 10 = .ok (.aload_n 1, 1) := by decide +kernel
theorem d9_11 : decode method_6_code 11 = .ok (.iload_n 3, 1) := by decide +kernel
theorem d9_12 : decode method_6_code 12 = .ok (.invokestatic 38, 3) := by decide +kernel
theorem d9_15 : decode method_6_code 15 = .ok (.iload_n 3, 1) := by decide +kernel
theorem d9_16 : decode method_6_code 16 = .ok (.iastore, 1) := by decide +kernel
theorem d9_17 : decode method_6_code 17 = .ok (.iconst 1, 1) := by decide +kernel
theorem d9_18 : decode method_6_code 18 = .ok (.ireturn, 1) := by decide +kernel
theorem d10_0 : decode method_5_code 0 = .ok (.iconst 0, 1) := by decide +kernel
theorem d10_1 : decode method_5_code 1 = .ok (.istore_n 3, 1) := by decide +kernel
theorem d10_2 : decode method_5_code 2 = .ok (.aload_n 0, 1) := by decide +kernel
theorem d10_3 : decode method_5_code 3 = .ok (.iconst 0, 1) := by decide +kernel
theorem d10_4 : decode method_5_code 4 = .ok (.baload, 1) := by decide +kernel
theorem d10_5 : decode method_5_code 5 = .ok (.ifCond .eq 15, 3) := by decide +kernel
theorem d10_8 : decode method_5_code 8 = .ok (.aload_n 1, 1) := by decide +kernel
theorem d10_9 : decode method_5_code 9 = .ok (.iconst 0, 1) := by decide +kernel
theorem d10_10 : decode method_5_code 10 = .ok (.iload_n 2, 1) := by decide +kernel
theorem d10_11 : decode method_5_code 11 = .ok (.invokestatic 34, 3) := by decide +kernel
theorem d10_14 : decode method_5_code 14 = .ok (.ifCond .eq 6, 3) := by decide +kernel
theorem d10_17 : decode method_5_code 17 = .ok (.iinc 3 1, 3) := by decide +kernel
theorem d10_20 : decode method_5_code 20 = .ok (.aload_n 0, 1) := by decide +kernel
theorem d10_21 : decode method_5_code 21 = .ok (.iconst 1, 1) := by decide +kernel
theorem d10_22 : decode method_5_code 22 = .ok (.baload, 1) := by decide +kernel
theorem d10_23 : decode method_5_code 23 = .ok (.ifCond .eq 15, 3) := by decide +kernel
theorem d10_26 : decode method_5_code 26 = .ok (.aload_n 1, 1) := by decide +kernel
theorem d10_27 : decode method_5_code 27 = .ok (.iconst 1, 1) := by decide +kernel
theorem d10_28 : decode method_5_code 28 = .ok (.iload_n 2, 1) := by decide +kernel
theorem d10_29 : decode method_5_code 29 = .ok (.invokestatic 34, 3) := by decide +kernel
theorem d10_32 : decode method_5_code 32 = .ok (.ifCond .eq 6, 3) := by decide +kernel
theorem d10_35 : decode method_5_code 35 = .ok (.iinc 3 1, 3) := by decide +kernel
theorem d10_38 : decode method_5_code 38 = .ok (.aload_n 0, 1) := by decide +kernel
theorem d10_39 : decode method_5_code 39 = .ok (.iconst 2, 1) := by decide +kernel
theorem d10_40 : decode method_5_code 40 = .ok (.baload, 1) := by decide +kernel
theorem d10_41 : decode method_5_code 41 = .ok (.ifCond .eq 15, 3) := by decide +kernel
theorem d10_44 : decode method_5_code 44 = .ok (.aload_n 1, 1) := by decide +kernel
theorem d10_45 : decode method_5_code 45 = .ok (.iconst 2, 1) := by decide +kernel
theorem d10_46 : decode method_5_code 46 = .ok (.iload_n 2, 1) := by decide +kernel
theorem d10_47 : decode method_5_code 47 = .ok (.invokestatic 34, 3) := by decide +kernel
theorem d10_50 : decode method_5_code 50 = .ok (.ifCond .eq 6, 3) := by decide +kernel
theorem d10_53 : decode method_5_code 53 = .ok (.iinc 3 1, 3) := by decide +kernel
theorem d10_56 : decode method_5_code 56 = .ok (.aload_n 0, 1) := by decide +kernel
theorem d10_57 : decode method_5_code 57 = .ok (.iconst 3, 1) := by decide +kernel
theorem d10_58 : decode method_5_code 58 = .ok (.baload, 1) := by decide +kernel
theorem d10_59 : decode method_5_code 59 = .ok (.ifCond .eq 15, 3) := by decide +kernel
theorem d10_62 : decode method_5_code 62 = .ok (.aload_n 1, 1) := by decide +kernel
theorem d10_63 : decode method_5_code 63 = .ok (.iconst 3, 1) := by decide +kernel
theorem d10_64 : decode method_5_code 64 = .ok (.iload_n 2, 1) := by decide +kernel
theorem d10_65 : decode method_5_code 65 = .ok (.invokestatic 34, 3) := by decide +kernel
theorem d10_68 : decode method_5_code 68 = .ok (.ifCond .eq 6, 3) := by decide +kernel
theorem d10_71 : decode method_5_code 71 = .ok (.iinc 3 1, 3) := by decide +kernel
theorem d10_74 : decode method_5_code 74 = .ok (.iload_n 3, 1) := by decide +kernel
theorem d10_75 : decode method_5_code 75 = .ok (.ireturn, 1) := by decide +kernel
theorem d11_0 : decode method_4_code 0 = .ok (.aload_n 0, 1) := by decide +kernel
theorem d11_1 : decode method_4_code 1 = .ok (.iload_n 1, 1) := by decide +kernel
theorem d11_2 : decode method_4_code 2 = .ok (.iaload, 1) := by decide +kernel
theorem d11_3 : decode method_4_code 3 = .ok (.aload_n 0, 1) := by decide +kernel
theorem d11_4 : decode method_4_code 4 = .ok (.iload_n 2, 1) := by decide +kernel
theorem d11_5 : decode method_4_code 5 = .ok (.iaload, 1) := by decide +kernel
theorem d11_6 : decode method_4_code 6 = .ok (.if_icmp .lt 17, 3) := by decide +kernel
theorem d11_9 : decode method_4_code 9 = .ok (.aload_n 0, 1) := by decide +kernel
theorem d11_10 : decode method_4_code 10 = .ok (.iload_n 1, 1) := by decide +kernel
theorem d11_11 : decode method_4_code 11 = .ok (.iaload, 1) := by decide +kernel
theorem d11_12 : decode method_4_code 12 = .ok (.aload_n 0, 1) := by decide +kernel
theorem d11_13 : decode method_4_code 13 = .ok (.iload_n 2, 1) := by decide +kernel
theorem d11_14 : decode method_4_code 14 = .ok (.iaload, 1) := by decide +kernel
theorem d11_15 : decode method_4_code 15 = .ok (.if_icmp .ne 12, 3) := by decide +kernel
theorem d11_18 : decode method_4_code 18 = .ok (.iload_n 1, 1) := by decide +kernel
theorem d11_19 : decode method_4_code 19 = .ok (.iload_n 2, 1) := by decide +kernel
theorem d11_20 : decode method_4_code 20 = .ok (.if_icmp .ge 7, 3) := by decide +kernel
theorem d11_23 : decode method_4_code 23 = .ok (.iconst 1, 1) := by decide +kernel
theorem d11_24 : decode method_4_code 24 = .ok (.goto 4, 3) := by decide +kernel
theorem d11_27 : decode method_4_code 27 = .ok (.iconst 0, 1) := by decide +kernel
theorem d11_28 : decode method_4_code 28 = .ok (.ireturn, 1) := by decide +kernel
theorem d12_0 : decode prog_39_method_4_code 0 = .ok (.aload_n 0, 1) := by decide +kernel
theorem d12_1 : decode prog_39_method_4_code 1 = .ok (.getfield 7, 3) := by decide +kernel
theorem d12_4 : decode prog_39_method_4_code 4 = .ok (.iconst 0, 1) := by decide +kernel
theorem d12_5 : decode prog_39_method_4_code 5 = .ok (.iaload, 1) := by decide +kernel
theorem d12_6 : decode prog_39_method_4_code 6 = .ok (.istore_n 1, 1) := by decide +kernel
theorem d12_7 : decode prog_39_method_4_code 7 = .ok (.aload_n 0, 1) := by decide +kernel
theorem d12_8 : decode prog_39_method_4_code 8 = .ok (.getfield 13, 3) := by decide +kernel
theorem d12_11 : decode prog_39_method_4_code 11 = .ok (.iload_n 1, 1) := by decide +kernel
theorem d12_12 : decode prog_39_method_4_code 12 = .ok (.iconst (-1), 1) := by decide +kernel
theorem d12_13 : decode prog_39_method_4_code 13 = .ok (.iastore, 1) := by decide +kernel
theorem d12_14 : decode prog_39_method_4_code 14 = .ok (.aload_n 0, 1) := by decide +kernel
theorem d12_15 : decode prog_39_method_4_code 15 = .ok (.dup, 1) := by decide +kernel
theorem d12_16 : decode prog_39_method_4_code 16 = .ok (.getfield 26, 3) := by decide +kernel
theorem d12_19 : decode prog_39_method_4_code 19 = .ok (.iconst 1, 1) := by decide +kernel
theorem d12_20 : decode prog_39_method_4_code 20 = .ok (.isub, 1) := by decide +kernel
theorem d12_21 : decode prog_39_method_4_code 21 = .ok (.putfield 26, 3) := by decide +kernel
theorem d12_24 : decode prog_39_method_4_code 24 = .ok (.aload_n 0, 1) := by decide +kernel
theorem d12_25 : decode prog_39_method_4_code 25 = .ok (.getfield 26, 3) := by decide +kernel
theorem d12_28 : decode prog_39_method_4_code 28 = .ok (.ifCond .le 35, 3) := by decide +kernel
theorem d12_31 : decode prog_39_method_4_code 31 = .ok (.aload_n 0, 1) := by decide +kernel
theorem d12_32 : decode prog_39_method_4_code 32 = .ok (.getfield 7, 3) := by decide +kernel
theorem d12_35 : decode prog_39_method_4_code 35 = .ok (.iconst 0, 1) := by decide +kernel
theorem d12_36 : decode prog_39_method_4_code 36 = .ok (.aload_n 0, 1) := by decide +kernel
theorem d12_37 : decode prog_39_method_4_code 37 = .ok (.getfield 7, 3) := by decide +kernel
theorem d12_40 : decode prog_39_method_4_code 40 = .ok (.aload_n 0, 1) := by decide +kernel
theorem d12_41 : decode prog_39_method_4_code 41 = .ok (.getfield 26, 3) := by decide +kernel
theorem d12_44 : decode prog_39_method_4_code 44 = .ok (.iaload, 1) := by decide +kernel
theorem d12_45 : decode prog_39_method_4_code 45 = .ok (.iastore, 1) := by decide +kernel
theorem d12_46 : decode prog_39_method_4_code 46 = .ok (.aload_n 0, 1) := by decide +kernel
theorem d12_47 : decode prog_39_method_4_code 47 = .ok (.getfield 13, 3) := by decide +kernel
theorem d12_50 : decode prog_39_method_4_code 50 = .ok (.aload_n 0, 1) := by decide +kernel
theorem d12_51 : decode prog_39_method_4_code 51 = .ok (.getfield 7, 3) := by decide +kernel
theorem d12_54 : decode prog_39_method_4_code 54 = .ok (.iconst 0, 1) := by decide +kernel
theorem d12_55 : decode prog_39_method_4_code 55 = .ok (.iaload, 1) := by decide +kernel
theorem d12_56 : decode prog_39_method_4_code 56 = .ok (.iconst 0, 1) := by decide +kernel
theorem d12_57 : decode prog_39_method_4_code 57 = .ok (.iastore, 1) := by decide +kernel
theorem d12_58 : decode prog_39_method_4_code 58 = .ok (.aload_n 0, 1) := by decide +kernel
theorem d12_59 : decode prog_39_method_4_code 59 = .ok (.iconst 0, 1) := by decide +kernel
theorem d12_60 : decode prog_39_method_4_code 60 = .ok (.invokevirtual 34, 3) := by decide +kernel
theorem d12_63 : decode prog_39_method_4_code 63 = .ok (.iload_n 1, 1) := by decide +kernel
theorem d12_64 : decode prog_39_method_4_code 64 = .ok (.ireturn, 1) := by decide +kernel
theorem d13_0 : decode prog_39_method_7_code 0 = .ok (.aload_n 0, 1) := by decide +kernel
theorem d13_1 : decode prog_39_method_7_code 1 = .ok (.getfield 7, 3) := by decide +kernel
theorem d13_4 : decode prog_39_method_7_code 4 = .ok (.iload_n 1, 1) := by decide +kernel
theorem d13_5 : decode prog_39_method_7_code 5 = .ok (.iaload, 1) := by decide +kernel
theorem d13_6 : decode prog_39_method_7_code 6 = .ok (.istore_n 2, 1) := by decide +kernel
theorem d13_7 : decode prog_39_method_7_code 7 = .ok (.iconst 2, 1) := by decide +kernel
theorem d13_8 : decode prog_39_method_7_code 8 = .ok (.iload_n 1, 1) := by decide +kernel
theorem d13_9 : decode prog_39_method_7_code 9 = .ok (.imul, 1) := by decide +kernel
theorem d13_10 : decode prog_39_method_7_code 10 = .ok (.iconst 1, 1) := by decide +kernel
theorem d13_11 : decode prog_39_method_7_code 11 = .ok (.iadd, 1) := by decide +kernel
theorem d13_12 : decode prog_39_method_7_code 12 = .ok (.istore_n 3, 1) := by decide +kernel
theorem d13_13 : decode prog_39_method_7_code 13 = .ok (.iload_n 3, 1) := by decide +kernel
theorem d13_14 : decode prog_39_method_7_code 14 = .ok (.aload_n 0, 1) := by decide +kernel
theorem d13_15 : decode prog_39_method_7_code 15 = .ok (.getfield 26, 3) := by decide +kernel
theorem d13_18 : decode prog_39_method_7_code 18 = .ok (.if_icmp .lt 6, 3) := by decide +kernel
theorem d13_21 : decode prog_39_method_7_code 21 = .ok (.goto 70, 3) := by decide +kernel
theorem d13_24 : decode prog_39_method_7_code 24 = .ok (.iload_n 3, 1) := by decide +kernel
theorem d13_25 : decode prog_39_method_7_code 25 = .ok (.iconst 1, 1) := by decide +kernel
theorem d13_26 : decode prog_39_method_7_code 26 = .ok (.iadd, 1) := by decide +kernel
theorem d13_27 : decode prog_39_method_7_code 27 = .ok (.aload_n 0, 1) := by decide +kernel
theorem d13_28 : decode prog_39_method_7_code 28 = .ok (.getfield 26, 3) := by decide +kernel
theorem d13_31 : decode prog_39_method_7_code 31 = .ok (.if_icmp .ge 27, 3) := by decide +kernel
theorem d13_34 : decode prog_39_method_7_code 34 = .ok (.aload_n 0, 1) := by decide +kernel
theorem d13_35 : decode prog_39_method_7_code 35 = .ok (.aload_n 0, 1) := by decide +kernel
theorem d13_36 : decode prog_39_method_7_code 36 = .ok (.getfield 7, 3) := by decide +kernel
theorem d13_39 : decode prog_39_method_7_code 39 = .ok (.iload_n 3, 1) := by decide +kernel
theorem d13_40 : decode prog_39_method_7_code 40 = .ok (.iconst 1, 1) := by decide +kernel
theorem d13_41 : decode prog_39_method_7_code 41 = .ok (.iadd, 1) := by decide +kernel
theorem d13_42 : decode prog_39_method_7_code 42 = .ok (.iaload, 1) := by decide +kernel
theorem d13_43 : decode prog_39_method_7_code 43 = .ok (.aload_n 0, 1) := by decide +kernel
theorem d13_44 : decode prog_39_method_7_code 44 = .ok (.getfield 7, 3) := by decide +kernel
theorem d13_47 : decode prog_39_method_7_code 47 = .ok (.iload_n 3, 1) := by decide +kernel
theorem d13_48 : decode prog_39_method_7_code 48 = .ok (.iaload, 1) := by decide +kernel
theorem d13_49 : decode prog_39_method_7_code 49 = .ok (.invokevirtual 37, 3) := by decide +kernel
theorem d13_52 : decode prog_39_method_7_code 52 = .ok (.ifCond .eq 6, 3) := by decide +kernel
theorem d13_55 : decode prog_39_method_7_code 55 = .ok (.iinc 3 1, 3) := by decide +kernel
theorem d13_58 : decode prog_39_method_7_code 58 = .ok (.aload_n 0, 1) := by decide +kernel
theorem d13_59 : decode prog_39_method_7_code 59 = .ok (.aload_n 0, 1) := by decide +kernel
theorem d13_60 : decode prog_39_method_7_code 60 = .ok (.getfield 7, 3) := by decide +kernel
theorem d13_63 : decode prog_39_method_7_code 63 = .ok (.iload_n 3, 1) := by decide +kernel
theorem d13_64 : decode prog_39_method_7_code 64 = .ok (.iaload, 1) := by decide +kernel
theorem d13_65 : decode prog_39_method_7_code 65 = .ok (.iload_n 2, 1) := by decide +kernel
theorem d13_66 : decode prog_39_method_7_code 66 = .ok (.invokevirtual 37, 3) := by decide +kernel
theorem d13_69 : decode prog_39_method_7_code 69 = .ok (.ifCond .ne 6, 3) := by decide +kernel
theorem d13_72 : decode prog_39_method_7_code 72 = .ok (.goto 19, 3) := by decide +kernel
theorem d13_75 : decode prog_39_method_7_code 75 = .ok (.aload_n 0, 1) := by decide +kernel
theorem d13_76 : decode prog_39_method_7_code 76 = .ok (.aload_n 0, 1) := by decide +kernel
theorem d13_77 : decode prog_39_method_7_code 77 = .ok (.getfield 7, 3) := by decide +kernel
theorem d13_80 : decode prog_39_method_7_code 80 = .ok (.iload_n 3, 1) := by decide +kernel
theorem d13_81 : decode prog_39_method_7_code 81 = .ok (.iaload, 1) := by decide +kernel
theorem d13_82 : decode prog_39_method_7_code 82 = .ok (.iload_n 1, 1) := by decide +kernel
theorem d13_83 : decode prog_39_method_7_code 83 = .ok (.invokevirtual 41, 3) := by decide +kernel
theorem d13_86 : decode prog_39_method_7_code 86 = .ok (.iload_n 3, 1) := by decide +kernel
theorem d13_87 : decode prog_39_method_7_code 87 = .ok (.istore_n 1, 1) := by decide +kernel
theorem d13_88 : decode prog_39_method_7_code 88 = .ok (.goto (-81), 3) := by decide +kernel
theorem d13_91 : decode prog_39_method_7_code 91 = .ok (.aload_n 0, 1) := by decide +kernel
theorem d13_92 : decode prog_39_method_7_code 92 = .ok (.iload_n 2, 1) := by decide +kernel
theorem d13_93 : decode prog_39_method_7_code 93 = .ok (.iload_n 1, 1) := by decide +kernel
theorem d13_94 : decode prog_39_method_7_code 94 = .ok (.invokevirtual 41, 3) := by decide +kernel
theorem d13_97 : decode prog_39_method_7_code 97 = .ok (.return_, 1) := by decide +kernel
theorem d14_0 : decode prog_39_method_2_code 0 = .ok (.aload_n 0, 1) := by decide +kernel
theorem d14_1 : decode prog_39_method_2_code 1 = .ok (.getfield 26, 3) := by decide +kernel
theorem d14_4 : decode prog_39_method_2_code 4 = .ok (.ifCond .ne 7, 3) := by decide +kernel
theorem d14_7 : decode prog_39_method_2_code 7 = .ok (.iconst 1, 1) := by decide +kernel
theorem d14_8 : decode prog_39_method_2_code 8 = .ok (.goto 4, 3) := by decide +kernel
theorem d14_11 : decode prog_39_method_2_code 11 = .ok (.iconst 0, 1) := by decide +kernel
theorem d14_12 : decode prog_39_method_2_code 12 = .ok (.ireturn, 1) := by decide +kernel
theorem pd_0 : parseMethodDescriptor "([II)V" = some ⟨[(.array .int), .int], none⟩ := by decide +kernel
theorem pd_1 : parseMethodDescriptor "(II)V" = some ⟨[.int, .int], none⟩ := by decide +kernel
theorem pd_2 : parseMethodDescriptor "(II)Z" = some ⟨[.int, .int], some .boolean⟩ := by decide +kernel
theorem pd_3 : parseMethodDescriptor "(I)V" = some ⟨[.int], none⟩ := by decide +kernel
theorem pd_4 : parseMethodDescriptor "([III)Z" = some ⟨[(.array .int), .int, .int], some .boolean⟩ := by decide +kernel
theorem pd_5 : parseMethodDescriptor "([Z[II)I" = some ⟨[(.array .boolean), (.array .int), .int], some .int⟩ := by decide +kernel
theorem pd_6 : parseMethodDescriptor "(ID)V" = some ⟨[.int, .double], none⟩ := by decide +kernel
theorem pd_7 : parseMethodDescriptor "([Z[III)V" = some ⟨[(.array .boolean), (.array .int), .int, .int], none⟩ := by decide +kernel
theorem pd_8 : parseMethodDescriptor "([Z[I[II)I" = some ⟨[(.array .boolean), (.array .int), (.array .int), .int], some .int⟩ := by decide +kernel
theorem pd_9 : parseMethodDescriptor "()Z" = some ⟨[], some .boolean⟩ := by decide +kernel
theorem pd_10 : parseMethodDescriptor "()I" = some ⟨[], some .int⟩ := by decide +kernel
section OwnHeap
def upd {α : Type} (p : Int32 → α) (j : Int32) (v : α) : Int32 → α := fun i => if i = j then v else p i
def fn4 (p : Int32 → Int32) : List Value := [.int (p 0), .int (p 1), .int (p 2), .int (p 3)]
def fd4 (p : Int32 → UInt64) : List Value := [.double (p 0), .double (p 1), .double (p 2), .double (p 3)]
abbrev In4 (j : Int32) : Prop := j = 0 ∨ j = 1 ∨ j = 2 ∨ j = 3
theorem in4_0 : In4 0 := Or.inl rfl
theorem in4_1 : In4 1 := Or.inr (Or.inl rfl)
theorem in4_2 : In4 2 := Or.inr (Or.inr (Or.inl rfl))
theorem in4_3 : In4 3 := Or.inr (Or.inr (Or.inr rfl))
theorem in4_nn {j : Int32} (h : In4 j) : ¬ j < 0 := by rcases h with rfl | rfl | rfl | rfl <;> decide
theorem in4_at {p : Int32 → Int32} {j v : Int32} (h : In4 j) (q : p j = v) : (fn4 p)[j.toNatClampNeg]? = some (.int v) := by subst q; rcases h with rfl | rfl | rfl | rfl <;> rfl
theorem in4_atd {p : Int32 → UInt64} {j : Int32} {v : UInt64} (h : In4 j) (q : p j = v) : (fd4 p)[j.toNatClampNeg]? = some (.double v) := by subst q; rcases h with rfl | rfl | rfl | rfl <;> rfl
theorem in4_len {p : Int32 → Int32} {j : Int32} (h : In4 j) : j.toNatClampNeg < (fn4 p).length := by rcases h with rfl | rfl | rfl | rfl <;> (show _ < 4) <;> decide
theorem in4_lend {p : Int32 → UInt64} {j : Int32} (h : In4 j) : j.toNatClampNeg < (fd4 p).length := by rcases h with rfl | rfl | rfl | rfl <;> (show _ < 4) <;> decide
theorem in4_set {p : Int32 → Int32} {j v : Int32} (h : In4 j) : (fn4 p).set j.toNatClampNeg (.int v) = fn4 (upd p j v) := by rcases h with rfl | rfl | rfl | rfl <;> rfl
theorem in4_setd {p : Int32 → UInt64} {j : Int32} {v : UInt64} (h : In4 j) : (fd4 p).set j.toNatClampNeg (.double v) = fd4 (upd p j v) := by rcases h with rfl | rfl | rfl | rfl <;> rfl
abbrev HP := (Int32 → Int32) × (Int32 → Int32)
def pl (q : HP) (x k : Int32) : HP := (upd q.1 k x, upd q.2 x k)
def rs0 (bt : Int32 → Int32 → Bool) (q : HP) : HP := pl q (q.1 0) 0
def rs1 (bt : Int32 → Int32 → Bool) (q : HP) : HP := if bt (q.1 1) (q.1 0) = true then pl (pl q (q.1 0) 1) (q.1 1) 0 else pl q (q.1 1) 1
def rs2 (bt : Int32 → Int32 → Bool) (q : HP) : HP := if bt (q.1 2) (q.1 0) = true then pl (pl q (q.1 0) 2) (q.1 2) 0 else pl q (q.1 2) 2
def rs3 (bt : Int32 → Int32 → Bool) (q : HP) : HP := if bt (q.1 3) (q.1 1) = true then (if bt (q.1 3) (q.1 0) = true then pl (pl (pl q (q.1 1) 3) (q.1 0) 1) (q.1 3) 0 else pl (pl q (q.1 1) 3) (q.1 3) 1) else pl q (q.1 3) 3
def sk1 (bt : Int32 → Int32 → Bool) (q : HP) : HP := pl q (q.1 0) 0
def sk2 (bt : Int32 → Int32 → Bool) (q : HP) : HP := if bt (q.1 1) (q.1 0) = true then pl (pl q (q.1 1) 0) (q.1 0) 1 else pl q (q.1 0) 0
def sk3 (bt : Int32 → Int32 → Bool) (q : HP) : HP := if bt (q.1 2) (q.1 1) = true then (if bt (q.1 2) (q.1 0) = true then pl (pl q (q.1 2) 0) (q.1 0) 2 else pl q (q.1 0) 0) else (if bt (q.1 1) (q.1 0) = true then pl (pl q (q.1 1) 0) (q.1 0) 1 else pl q (q.1 0) 0)
def po1 (bt : Int32 → Int32 → Bool) (q : HP) : HP := (q.1, upd q.2 (q.1 0) (-1))
def ps2 (q : HP) : HP := (upd q.1 0 (q.1 1), upd (upd q.2 (q.1 0) (-1)) (q.1 1) 0)
def ps3 (q : HP) : HP := (upd q.1 0 (q.1 2), upd (upd q.2 (q.1 0) (-1)) (q.1 2) 0)
def ps4 (q : HP) : HP := (upd q.1 0 (q.1 3), upd (upd q.2 (q.1 0) (-1)) (q.1 3) 0)
def po2 (bt : Int32 → Int32 → Bool) (q : HP) : HP := sk1 bt (ps2 q)
def po3 (bt : Int32 → Int32 → Bool) (q : HP) : HP := sk2 bt (ps3 q)
def po4 (bt : Int32 → Int32 → Bool) (q : HP) : HP := sk3 bt (ps4 q)
def on (k : Int32) (q : HP) (x : Int32) : HP := (upd q.1 k x, upd q.2 x k)
def BfR (K : Int32 → UInt64) (x y r : Int32) : Prop := (FP.dcmp (K x) (K y) = some .lt ∧ r = 1) ∨ (FP.dcmp (K x) (K y) = some .eq ∧ x < y ∧ r = 1) ∨ (FP.dcmp (K x) (K y) = some .eq ∧ ¬ x < y ∧ r = 0) ∨ (FP.dcmp (K x) (K y) = some .gt ∧ r = 0)
def Bf (K : Int32 → UInt64) (bt : Int32 → Int32 → Bool) (x y : Int32) : Prop := (bt x y = true → BfR K x y 1) ∧ (¬ bt x y = true → BfR K x y 0)
def I4 (s : Nat) (q : HP) : Prop := ∀ j : Nat, j < s → In4 (q.1 (Int32.ofNat j))
def HB (s : Nat) (K : Int32 → UInt64) (bt : Int32 → Int32 → Bool) (q : HP) : Prop := ∀ i j : Nat, i < s → j < s → Bf K bt (q.1 (Int32.ofNat i)) (q.1 (Int32.ofNat j))
theorem own_HB0 {K : Int32 → UInt64} {bt : Int32 → Int32 → Bool} {q : HP} : HB 0 K bt q := fun i j hi => absurd hi (Nat.not_lt_zero _)
abbrev NH (Z : State) (h : Heap) (a hp pp ky : Addr) (sz : Int32) (q : HP) (K : Int32 → UInt64) : Prop := Exa Z h a "com/example/tributary/tributary/plan/NodeHeap" ∧ Fld Z h a "com/example/tributary/tributary/plan/NodeHeap" "heap" "[I" (.ref hp) ∧ Fld Z h a "com/example/tributary/tributary/plan/NodeHeap" "position" "[I" (.ref pp) ∧ Fld Z h a "com/example/tributary/tributary/plan/NodeHeap" "key" "[D" (.ref ky) ∧ Fld Z h a "com/example/tributary/tributary/plan/NodeHeap" "size" "I" (.int sz) ∧ AV Z h hp .int (4 : Int32) (fn4 q.1) ∧ AV Z h pp .int (4 : Int32) (fn4 q.2) ∧ AV Z h ky .double (4 : Int32) (fd4 K)
abbrev Dis (n0 : Nat) (a hp pp ky : Addr) : Prop := n0 ≤ a ∧ n0 ≤ hp ∧ n0 ≤ pp ∧ n0 ≤ ky ∧ a ≠ hp ∧ a ≠ pp ∧ a ≠ ky ∧ hp ≠ pp ∧ hp ≠ ky ∧ pp ≠ ky
end OwnHeap

section OwnOrder
open Jvm.OwnFl
def btB (b01 b02 b03 b12 b13 b23 : Bool) (x y : Int32) : Bool :=
  if x = 0 then (if y = 1 then b01 else if y = 2 then b02 else if y = 3 then b03 else false)
  else if x = 1 then (if y = 0 then !b01 else if y = 2 then b12 else if y = 3 then b13 else false)
  else if x = 2 then (if y = 0 then !b02 else if y = 1 then !b12 else if y = 3 then b23 else false)
  else if x = 3 then (if y = 0 then !b03 else if y = 1 then !b13 else if y = 2 then !b23 else false) else false
def trB (b01 b02 b03 b12 b13 b23 : Bool) : Bool := (!(b01 && b12) || b02) && (!(!b01 && !b12) || !b02) && (!(b01 && b13) || b03) && (!(!b01 && !b13) || !b03) && (!(b02 && b23) || b03) && (!(!b02 && !b23) || !b03) && (!(b12 && b23) || b13) && (!(!b12 && !b23) || !b13)
theorem own_tr (k0 k1 k2 k3 : Int) : trB (decide (k0 ≤ k1)) (decide (k0 ≤ k2)) (decide (k0 ≤ k3)) (decide (k1 ≤ k2)) (decide (k1 ≤ k3)) (decide (k2 ≤ k3)) = true := by
  by_cases a : k0 ≤ k1 <;> by_cases b : k0 ≤ k2 <;> by_cases c : k0 ≤ k3 <;> by_cases d : k1 ≤ k2 <;> by_cases e : k1 ≤ k3 <;> by_cases f : k2 ≤ k3 <;> simp only [a, b, c, d, e, f, decide_true, decide_false] <;> first | rfl | (exfalso; omega)
theorem bf_lt {kf : Int32 → UInt64} {x y : Int32} {i j : Int} (hx : DV (kf x) (i : Rat)) (hy : DV (kf y) (j : Rat)) (h : x < y) : (decide (i ≤ j) = true → BfR kf x y 1) ∧ (¬ decide (i ≤ j) = true → BfR kf x y 0) := by
  constructor
  · intro g
    have g := of_decide_eq_true g
    by_cases e : i = j
    · exact Or.inr (Or.inl ⟨dcmp_eq hx hy (by rw [e]), h, rfl⟩)
    · exact Or.inl ⟨dcmp_lt hx hy (Rat.intCast_lt_intCast.mpr (by omega)), rfl⟩
  · intro g
    have g : ¬ i ≤ j := fun q => g (decide_eq_true q)
    exact Or.inr (Or.inr (Or.inr ⟨dcmp_gt hx hy (Rat.intCast_lt_intCast.mpr (by omega)), rfl⟩))
theorem bf_gt {kf : Int32 → UInt64} {x y : Int32} {i j : Int} (hx : DV (kf x) (i : Rat)) (hy : DV (kf y) (j : Rat)) (h : ¬ x < y) : ((!decide (j ≤ i)) = true → BfR kf x y 1) ∧ (¬ (!decide (j ≤ i)) = true → BfR kf x y 0) := by
  by_cases g : j ≤ i
  · rw [decide_eq_true g]
    refine ⟨fun q => (by cases q), fun _ => ?_⟩
    by_cases e : i = j
    · exact Or.inr (Or.inr (Or.inl ⟨dcmp_eq hx hy (by rw [e]), h, rfl⟩))
    · exact Or.inr (Or.inr (Or.inr ⟨dcmp_gt hx hy (Rat.intCast_lt_intCast.mpr (by omega)), rfl⟩))
  · rw [decide_eq_false g]
    exact ⟨fun _ => Or.inl ⟨dcmp_lt hx hy (Rat.intCast_lt_intCast.mpr (by omega)), rfl⟩, fun q => absurd rfl q⟩
theorem bf_eq {kf : Int32 → UInt64} {x : Int32} {i : Int} (hx : DV (kf x) (i : Rat)) (h : ¬ x < x) : (false = true → BfR kf x x 1) ∧ (¬ false = true → BfR kf x x 0) := ⟨fun q => (by cases q), fun _ => Or.inr (Or.inr (Or.inl ⟨dcmp_eq hx hx rfl, h, rfl⟩))⟩
theorem own_bf {kf : Int32 → UInt64} {k0 k1 k2 k3 : Int} (D0 : DV (kf 0) (k0 : Rat)) (D1 : DV (kf 1) (k1 : Rat)) (D2 : DV (kf 2) (k2 : Rat)) (D3 : DV (kf 3) (k3 : Rat)) (x y : Int32) (hx : In4 x) (hy : In4 y) : Bf kf (btB (decide (k0 ≤ k1)) (decide (k0 ≤ k2)) (decide (k0 ≤ k3)) (decide (k1 ≤ k2)) (decide (k1 ≤ k3)) (decide (k2 ≤ k3))) x y := by
  rcases hx with rfl | rfl | rfl | rfl <;> rcases hy with rfl | rfl | rfl | rfl
  · exact bf_eq D0 (by decide)
  · exact bf_lt D0 D1 (by decide)
  · exact bf_lt D0 D2 (by decide)
  · exact bf_lt D0 D3 (by decide)
  · exact bf_gt D1 D0 (by decide)
  · exact bf_eq D1 (by decide)
  · exact bf_lt D1 D2 (by decide)
  · exact bf_lt D1 D3 (by decide)
  · exact bf_gt D2 D0 (by decide)
  · exact bf_gt D2 D1 (by decide)
  · exact bf_eq D2 (by decide)
  · exact bf_lt D2 D3 (by decide)
  · exact bf_gt D3 D0 (by decide)
  · exact bf_gt D3 D1 (by decide)
  · exact bf_gt D3 D2 (by decide)
  · exact bf_eq D3 (by decide)
theorem Bf.congr {K kf : Int32 → UInt64} {bt : Int32 → Int32 → Bool} {x y : Int32} (h : Bf kf bt x y) (hx : K x = kf x) (hy : K y = kf y) : Bf K bt x y := by
  unfold Bf BfR at *
  rw [hx, hy]
  exact h
def ofb (s : Nat) (q : HP) (ns : List Int32) : Bool := (List.range s).all fun j => ns.contains (q.1 (Int32.ofNat j))
theorem ofb_spec {s : Nat} {q : HP} {ns : List Int32} (h : ofb s q ns = true) (j : Nat) (hj : j < s) : q.1 (Int32.ofNat j) ∈ ns := by
  have := List.all_eq_true.mp h j (List.mem_range.mpr hj)
  simpa using this
theorem own_up {K kf : Int32 → UInt64} {ns : List Int32} (h : ∀ x ∈ ns, K x = kf x) (n : Int32) : ∀ x ∈ n :: ns, (upd K n (kf n)) x = kf x := by
  intro x hx
  unfold upd
  by_cases e : x = n
  · rw [if_pos e, e]
  · rw [if_neg e]
    exact h x ((List.mem_cons.mp hx).resolve_left e)
theorem own_I4 {s : Nat} {q : HP} {ns : List Int32} (h : ofb s q ns = true) (hn : ∀ x ∈ ns, In4 x) : I4 s q := fun j hj => hn _ (ofb_spec h j hj)
theorem own_HB {s : Nat} {q : HP} {ns : List Int32} {K kf : Int32 → UInt64} {bt : Int32 → Int32 → Bool} (h : ofb s q ns = true) (hn : ∀ x ∈ ns, In4 x) (hk : ∀ x ∈ ns, K x = kf x) (hb : ∀ x y, In4 x → In4 y → Bf kf bt x y) : HB s K bt q := fun i j hi hj =>
  (hb _ _ (hn _ (ofb_spec h i hi)) (hn _ (ofb_spec h j hj))).congr (hk _ (ofb_spec h i hi)) (hk _ (ofb_spec h j hj))
abbrev zq : HP := (fun _ => 0, fun _ => -1)
abbrev zk : Int32 → UInt64 := fun _ => 0
end OwnOrder

section OwnLaw
open Jvm.OwnFl
theorem upd_eq {α : Type} {f : Int32 → α} {j : Int32} {t : α} : upd f j t j = t := if_pos rfl
theorem upd_ne {α : Type} {f : Int32 → α} {j i : Int32} {t : α} (h : i ≠ j) : upd f j t i = f i := if_neg h
theorem pl_h {q : HP} {x k : Int32} : (pl q x k).1 k = x := if_pos rfl
theorem pl_h' {q : HP} {x k j : Int32} (h : j ≠ k) : (pl q x k).1 j = q.1 j := if_neg h
theorem pl_p {q : HP} {x k : Int32} : (pl q x k).2 x = k := if_pos rfl
theorem pl_p' {q : HP} {x k y : Int32} (h : y ≠ x) : (pl q x k).2 y = q.2 y := if_neg h
def bv (v : Int32 → Int) (x y : Int32) : Bool := decide (v x < v y)
theorem bvt {v : Int32 → Int} {x y : Int32} (h : v x < v y) : bv v x y = true := by unfold bv; exact decide_eq_true h
theorem bvf {v : Int32 → Int} {x y : Int32} (h : ¬ v x < v y) : ¬ bv v x y = true := fun g => by unfold bv at g; exact h (of_decide_eq_true g)
theorem own_ci {a b : Int32} (h : a = b) (i : In4 b) : In4 a := by rw [h]; exact i
theorem own_cj {z : Int32 → Bool} {a b : Int32} (h : a = b) (i : z b = true) : z a = true := by rw [h]; exact i
def Nd (n : Nat) (q : HP) (z : Int32 → Bool) : Prop := ∀ j : Nat, j < n → In4 (q.1 (Int32.ofNat j)) ∧ z (q.1 (Int32.ofNat j)) = true
theorem nd1 {q : HP} {z : Int32 → Bool} {t0 : Int32} (h0 : q.1 0 = t0) (i0 : In4 t0) (z0 : z t0 = true) : Nd 1 q z := fun j hj => match j, hj with
  | 0, _ => ⟨own_ci h0 i0, own_cj h0 z0⟩
theorem nd2 {q : HP} {z : Int32 → Bool} {t0 t1 : Int32} (h0 : q.1 0 = t0) (h1 : q.1 1 = t1) (i0 : In4 t0) (i1 : In4 t1) (z0 : z t0 = true) (z1 : z t1 = true) : Nd 2 q z := fun j hj => match j, hj with
  | 0, _ => ⟨own_ci h0 i0, own_cj h0 z0⟩
  | 1, _ => ⟨own_ci h1 i1, own_cj h1 z1⟩
theorem nd3 {q : HP} {z : Int32 → Bool} {t0 t1 t2 : Int32} (h0 : q.1 0 = t0) (h1 : q.1 1 = t1) (h2 : q.1 2 = t2) (i0 : In4 t0) (i1 : In4 t1) (i2 : In4 t2) (z0 : z t0 = true) (z1 : z t1 = true) (z2 : z t2 = true) : Nd 3 q z := fun j hj => match j, hj with
  | 0, _ => ⟨own_ci h0 i0, own_cj h0 z0⟩
  | 1, _ => ⟨own_ci h1 i1, own_cj h1 z1⟩
  | 2, _ => ⟨own_ci h2 i2, own_cj h2 z2⟩
theorem nd4 {q : HP} {z : Int32 → Bool} {t0 t1 t2 t3 : Int32} (h0 : q.1 0 = t0) (h1 : q.1 1 = t1) (h2 : q.1 2 = t2) (h3 : q.1 3 = t3) (i0 : In4 t0) (i1 : In4 t1) (i2 : In4 t2) (i3 : In4 t3) (z0 : z t0 = true) (z1 : z t1 = true) (z2 : z t2 = true) (z3 : z t3 = true) : Nd 4 q z := fun j hj => match j, hj with
  | 0, _ => ⟨own_ci h0 i0, own_cj h0 z0⟩
  | 1, _ => ⟨own_ci h1 i1, own_cj h1 z1⟩
  | 2, _ => ⟨own_ci h2 i2, own_cj h2 z2⟩
  | 3, _ => ⟨own_ci h3 i3, own_cj h3 z3⟩
theorem own_I4n {n : Nat} {q : HP} {z : Int32 → Bool} (h : Nd n q z) : I4 n q := fun j hj => (h j hj).1
theorem rs0_spec {bt : Int32 → Int32 → Bool} {q : HP} {w0 : Int32} (e0 : q.1 0 = w0) : rs0 bt q = pl q w0 0 := by subst e0; rfl
theorem rs1_spec {bt : Int32 → Int32 → Bool} {q : HP} {w0 w1 : Int32} (e0 : q.1 0 = w0) (e1 : q.1 1 = w1) : (bt w1 w0 = true → rs1 bt q = pl (pl q w0 1) w1 0) ∧ (¬ bt w1 w0 = true → rs1 bt q = pl q w1 1) := by
  subst e0 e1
  unfold rs1
  exact ⟨fun h => by rw [if_pos h], fun h => by rw [if_neg h]⟩
theorem rs2_spec {bt : Int32 → Int32 → Bool} {q : HP} {w0 w1 : Int32} (e0 : q.1 0 = w0) (e1 : q.1 2 = w1) : (bt w1 w0 = true → rs2 bt q = pl (pl q w0 2) w1 0) ∧ (¬ bt w1 w0 = true → rs2 bt q = pl q w1 2) := by
  subst e0 e1
  unfold rs2
  exact ⟨fun h => by rw [if_pos h], fun h => by rw [if_neg h]⟩
theorem rs3_spec {bt : Int32 → Int32 → Bool} {q : HP} {w0 w1 w3 : Int32} (e0 : q.1 0 = w0) (e1 : q.1 1 = w1) (e3 : q.1 3 = w3) : (bt w3 w1 = true → bt w3 w0 = true → rs3 bt q = pl (pl (pl q w1 3) w0 1) w3 0) ∧ (bt w3 w1 = true → ¬ bt w3 w0 = true → rs3 bt q = pl (pl q w1 3) w3 1) ∧ (¬ bt w3 w1 = true → rs3 bt q = pl q w3 3) := by
  subst e0 e1 e3
  unfold rs3
  exact ⟨fun h g => by rw [if_pos h, if_pos g], fun h g => by rw [if_pos h, if_neg g], fun h => by rw [if_neg h]⟩
theorem sk1_spec {bt : Int32 → Int32 → Bool} {q : HP} {w0 : Int32} (e0 : q.1 0 = w0) : sk1 bt q = pl q w0 0 := by subst e0; rfl
theorem sk2_spec {bt : Int32 → Int32 → Bool} {q : HP} {w0 w1 : Int32} (e0 : q.1 0 = w0) (e1 : q.1 1 = w1) : (bt w1 w0 = true → sk2 bt q = pl (pl q w1 0) w0 1) ∧ (¬ bt w1 w0 = true → sk2 bt q = pl q w0 0) := by
  subst e0 e1
  unfold sk2
  exact ⟨fun h => by rw [if_pos h], fun h => by rw [if_neg h]⟩
theorem sk3_spec {bt : Int32 → Int32 → Bool} {q : HP} {w0 w1 w2 : Int32} (e0 : q.1 0 = w0) (e1 : q.1 1 = w1) (e2 : q.1 2 = w2) : (bt w2 w1 = true → bt w2 w0 = true → sk3 bt q = pl (pl q w2 0) w0 2) ∧ (bt w2 w1 = true → ¬ bt w2 w0 = true → sk3 bt q = pl q w0 0) ∧ (¬ bt w2 w1 = true → bt w1 w0 = true → sk3 bt q = pl (pl q w1 0) w0 1) ∧ (¬ bt w2 w1 = true → ¬ bt w1 w0 = true → sk3 bt q = pl q w0 0) := by
  subst e0 e1 e2
  unfold sk3
  exact ⟨fun h g => by rw [if_pos h, if_pos g], fun h g => by rw [if_pos h, if_neg g], fun h g => by rw [if_neg h, if_pos g], fun h g => by rw [if_neg h, if_neg g]⟩
theorem ps2_eq {q : HP} {u1 u2 : Int32} (h1 : q.1 0 = u1) (h2 : q.1 1 = u2) : ps2 q = pl (q.1, upd q.2 u1 (-1)) u2 0 := by subst h1 h2; rfl
theorem ps3_eq {q : HP} {u1 u3 : Int32} (h1 : q.1 0 = u1) (h3 : q.1 2 = u3) : ps3 q = pl (q.1, upd q.2 u1 (-1)) u3 0 := by subst h1 h3; rfl
theorem ps4_eq {q : HP} {u1 u4 : Int32} (h1 : q.1 0 = u1) (h4 : q.1 3 = u4) : ps4 q = pl (q.1, upd q.2 u1 (-1)) u4 0 := by subst h1 h4; rfl
def b2i (b : Bool) : Int32 := if b = true then 1 else 0
def bz (z : Int32 → Bool) (i : Int32) : Int32 := b2i (z i)
theorem bzz {z : Int32 → Bool} {x : Int32} (h : z x = false) : bz z x = 0 := by unfold bz; rw [h]; rfl
theorem bzo {z : Int32 → Bool} {x : Int32} (h : z x = true) : ¬ bz z x = 0 := by unfold bz; rw [h]; decide
theorem bz0 {z : Int32 → Bool} {x : Int32} (h : bz z x = 0) : z x = false := eq_false_of_ne_true fun g => bzo g h
theorem bz1 {z : Int32 → Bool} {x : Int32} (h : ¬ bz z x = 0) : z x = true := by
  by_cases g : z x = true
  · exact g
  · exact absurd (bzz (eq_false_of_ne_true g)) h
def cnt (z : Int32 → Bool) : Int32 := (((0 + b2i (z 0)) + b2i (z 1)) + b2i (z 2)) + b2i (z 3)
def isMb (z : Int32 → Bool) (bt : Int32 → Int32 → Bool) (f y : Int32) : Bool := !z y || decide (y = f) || bt f y
def isMn (z : Int32 → Bool) (bt : Int32 → Int32 → Bool) (f : Int32) : Bool := z f && isMb z bt f 0 && isMb z bt f 1 && isMb z bt f 2 && isMb z bt f 3
theorem isMn_of {z : Int32 → Bool} {bt : Int32 → Int32 → Bool} {f : Int32} (hz : z f = true) (h : ∀ y, In4 y → z y = true → y ≠ f → bt f y = true) : isMn z bt f = true := by
  have g : ∀ y, In4 y → isMb z bt f y = true := by
    intro y iy
    unfold isMb
    by_cases a : z y = true
    · by_cases b : y = f
      · rw [decide_eq_true b, Bool.or_true, Bool.true_or]
      · rw [h y iy a b, Bool.or_true]
    · rw [eq_false_of_ne_true a]; rfl
  unfold isMn
  rw [hz, g 0 in4_0, g 1 in4_1, g 2 in4_2, g 3 in4_3]
  all_goals rfl
def PS0 (z : Int32 → Bool) (q : HP) : Prop := (∀ y, In4 y → z y = false) ∧ (∀ y, In4 y → z y = false → q.2 y = -1)
def PS1 (v : Int32 → Int) (z : Int32 → Bool) (q : HP) (u1 : Int32) : Prop :=
  In4 u1 ∧ True ∧ q.1 0 = u1 ∧ q.2 u1 = 0 ∧ z u1 = true ∧ (∀ y, In4 y → z y = true → y = u1) ∧ (∀ y, In4 y → z y = false → q.2 y = -1) ∧ True
def PS2 (v : Int32 → Int) (z : Int32 → Bool) (q : HP) (u1 u2 : Int32) : Prop :=
  (In4 u1 ∧ In4 u2) ∧ u1 ≠ u2 ∧ (q.1 0 = u1 ∧ q.1 1 = u2) ∧ (q.2 u1 = 0 ∧ q.2 u2 = 1) ∧ (z u1 = true ∧ z u2 = true) ∧ (∀ y, In4 y → z y = true → y = u1 ∨ y = u2) ∧ (∀ y, In4 y → z y = false → q.2 y = -1) ∧ v u1 ≤ v u2
def PS3 (v : Int32 → Int) (z : Int32 → Bool) (q : HP) (u1 u2 u3 : Int32) : Prop :=
  (In4 u1 ∧ In4 u2 ∧ In4 u3) ∧ (u1 ≠ u2 ∧ u1 ≠ u3 ∧ u2 ≠ u3) ∧ (q.1 0 = u1 ∧ q.1 1 = u2 ∧ q.1 2 = u3) ∧ (q.2 u1 = 0 ∧ q.2 u2 = 1 ∧ q.2 u3 = 2) ∧ (z u1 = true ∧ z u2 = true ∧ z u3 = true) ∧ (∀ y, In4 y → z y = true → y = u1 ∨ y = u2 ∨ y = u3) ∧ (∀ y, In4 y → z y = false → q.2 y = -1) ∧ (v u1 ≤ v u2 ∧ v u1 ≤ v u3)
def PS4 (v : Int32 → Int) (z : Int32 → Bool) (q : HP) (u1 u2 u3 u4 : Int32) : Prop :=
  (In4 u1 ∧ In4 u2 ∧ In4 u3 ∧ In4 u4) ∧ (u1 ≠ u2 ∧ u1 ≠ u3 ∧ u1 ≠ u4 ∧ u2 ≠ u3 ∧ u2 ≠ u4 ∧ u3 ≠ u4) ∧ (q.1 0 = u1 ∧ q.1 1 = u2 ∧ q.1 2 = u3 ∧ q.1 3 = u4) ∧ (q.2 u1 = 0 ∧ q.2 u2 = 1 ∧ q.2 u3 = 2 ∧ q.2 u4 = 3) ∧ (z u1 = true ∧ z u2 = true ∧ z u3 = true ∧ z u4 = true) ∧ (∀ y, In4 y → z y = true → y = u1 ∨ y = u2 ∨ y = u3 ∨ y = u4) ∧ (∀ y, In4 y → z y = false → q.2 y = -1) ∧ (v u1 ≤ v u2 ∧ v u1 ≤ v u3 ∧ v u2 ≤ v u4)
theorem own_new0 {v v' : Int32 → Int} {z : Int32 → Bool} {q : HP} {x : Int32} (ps : PS0 z q) (ix : In4 x) (hz : z x = false) (hv : ∀ y, y ≠ x → v' y = v y) : Nd 1 (on 0 q x) (upd z x true) ∧ ∃ w1 : Int32, PS1 v' (upd z x true) (rs0 (bv v') (on 0 q x)) w1 := by
  obtain ⟨zo, ng⟩ := ps
  have yx : upd z x true x = true := upd_eq
  have eon : on 0 q x = pl q x 0 := rfl
  rw [eon]
  have g0 : (pl q x 0).1 0 = x := pl_h
  refine ⟨nd1 g0 ix yx, ?_⟩
  have zo' : ∀ y, In4 y → upd z x true y = true → y = x := by
    intro y iy hy
    by_cases e : y = x
    · exact e
    · rw [upd_ne e] at hy
      exact absurd hy (by rw [zo y iy]; decide)
  have ng' : ∀ y, In4 y → upd z x true y = false → q.2 y = -1 ∧ y ≠ x := by
    intro y iy hy
    have kx : y ≠ x := fun e => by rw [e, yx] at hy; cases hy
    rw [upd_ne kx] at hy
    exact ⟨ng y iy hy, kx⟩
  have S := rs0_spec (bt := bv v') g0
  refine ⟨x, ?_⟩
  rw [S]
  refine ⟨ix, trivial, pl_h, pl_p, yx, fun y iy hy => ?_, fun y iy hy => ?_, ?_⟩
  · exact zo' y iy hy
  · obtain ⟨kq, kx⟩ := ng' y iy hy
    exact (Eq.trans (pl_p' kx) (Eq.trans (pl_p' kx) kq))
  · exact trivial
theorem own_new1 {v v' : Int32 → Int} {z : Int32 → Bool} {q : HP} {u1 x : Int32} (ps : PS1 v z q u1) (ix : In4 x) (hz : z x = false) (hv : ∀ y, y ≠ x → v' y = v y) : Nd 2 (on 1 q x) (upd z x true) ∧ ∃ w1 w2 : Int32, PS2 v' (upd z x true) (rs1 (bv v') (on 1 q x)) w1 w2 := by
  obtain ⟨i1, -, h1, p1, z1, zo, ng, -⟩ := ps
  have e1 : u1 ≠ x := fun e => by rw [e, hz] at z1; cases z1
  have y1 : upd z x true u1 = true := (upd_ne e1).trans z1
  have f1 : v' u1 = v u1 := hv u1 e1
  have yx : upd z x true x = true := upd_eq
  have eon : on 1 q x = pl q x 1 := rfl
  rw [eon]
  have g0 : (pl q x 1).1 0 = u1 := (Eq.trans (pl_h' (by decide)) h1)
  have g1 : (pl q x 1).1 1 = x := pl_h
  refine ⟨nd2 g0 g1 i1 ix y1 yx, ?_⟩
  have zo' : ∀ y, In4 y → upd z x true y = true → y = u1 ∨ y = x := by
    intro y iy hy
    by_cases e : y = x
    · exact Or.inr e
    · rw [upd_ne e] at hy
      exact Or.inl (zo y iy hy)
  have ng' : ∀ y, In4 y → upd z x true y = false → q.2 y = -1 ∧ y ≠ u1 ∧ y ≠ x := by
    intro y iy hy
    have ku1 : y ≠ u1 := fun e => by rw [e, y1] at hy; cases hy
    have kx : y ≠ x := fun e => by rw [e, yx] at hy; cases hy
    rw [upd_ne kx] at hy
    exact ⟨ng y iy hy, ku1, kx⟩
  have S := rs1_spec (bt := bv v') g0 g1
  by_cases c1 : v' x < v' u1
  · refine ⟨x, u1, ?_⟩
    rw [S.1 (bvt c1)]
    refine ⟨⟨ix, i1⟩, (Ne.symm e1), ⟨pl_h, (Eq.trans (pl_h' (by decide)) pl_h)⟩, ⟨pl_p, (Eq.trans (pl_p' e1) pl_p)⟩, ⟨yx, y1⟩, fun y iy hy => ?_, fun y iy hy => ?_, ?_⟩
    · rcases zo' y iy hy with r | r
      · exact Or.inr r
      · exact Or.inl r
    · obtain ⟨kq, ku1, kx⟩ := ng' y iy hy
      exact (Eq.trans (pl_p' kx) (Eq.trans (pl_p' ku1) (Eq.trans (pl_p' kx) kq)))
    · exact by omega
  · refine ⟨u1, x, ?_⟩
    rw [S.2 (bvf c1)]
    refine ⟨⟨i1, ix⟩, e1, ⟨(Eq.trans (pl_h' (by decide)) (Eq.trans (pl_h' (by decide)) h1)), pl_h⟩, ⟨(Eq.trans (pl_p' e1) (Eq.trans (pl_p' e1) p1)), pl_p⟩, ⟨y1, yx⟩, fun y iy hy => ?_, fun y iy hy => ?_, ?_⟩
    · rcases zo' y iy hy with r | r
      · exact Or.inl r
      · exact Or.inr r
    · obtain ⟨kq, ku1, kx⟩ := ng' y iy hy
      exact (Eq.trans (pl_p' kx) (Eq.trans (pl_p' kx) kq))
    · exact by omega
theorem own_new2 {v v' : Int32 → Int} {z : Int32 → Bool} {q : HP} {u1 u2 x : Int32} (ps : PS2 v z q u1 u2) (ix : In4 x) (hz : z x = false) (hv : ∀ y, y ≠ x → v' y = v y) : Nd 3 (on 2 q x) (upd z x true) ∧ ∃ w1 w2 w3 : Int32, PS3 v' (upd z x true) (rs2 (bv v') (on 2 q x)) w1 w2 w3 := by
  obtain ⟨⟨i1, i2⟩, n12, ⟨h1, h2⟩, ⟨p1, p2⟩, ⟨z1, z2⟩, zo, ng, o12⟩ := ps
  have e1 : u1 ≠ x := fun e => by rw [e, hz] at z1; cases z1
  have y1 : upd z x true u1 = true := (upd_ne e1).trans z1
  have f1 : v' u1 = v u1 := hv u1 e1
  have e2 : u2 ≠ x := fun e => by rw [e, hz] at z2; cases z2
  have y2 : upd z x true u2 = true := (upd_ne e2).trans z2
  have f2 : v' u2 = v u2 := hv u2 e2
  have yx : upd z x true x = true := upd_eq
  have eon : on 2 q x = pl q x 2 := rfl
  rw [eon]
  have g0 : (pl q x 2).1 0 = u1 := (Eq.trans (pl_h' (by decide)) h1)
  have g1 : (pl q x 2).1 1 = u2 := (Eq.trans (pl_h' (by decide)) h2)
  have g2 : (pl q x 2).1 2 = x := pl_h
  refine ⟨nd3 g0 g1 g2 i1 i2 ix y1 y2 yx, ?_⟩
  have zo' : ∀ y, In4 y → upd z x true y = true → y = u1 ∨ y = u2 ∨ y = x := by
    intro y iy hy
    by_cases e : y = x
    · exact Or.inr (Or.inr e)
    · rw [upd_ne e] at hy
      rcases zo y iy hy with r | r
      · exact Or.inl r
      · exact Or.inr (Or.inl r)
  have ng' : ∀ y, In4 y → upd z x true y = false → q.2 y = -1 ∧ y ≠ u1 ∧ y ≠ u2 ∧ y ≠ x := by
    intro y iy hy
    have ku1 : y ≠ u1 := fun e => by rw [e, y1] at hy; cases hy
    have ku2 : y ≠ u2 := fun e => by rw [e, y2] at hy; cases hy
    have kx : y ≠ x := fun e => by rw [e, yx] at hy; cases hy
    rw [upd_ne kx] at hy
    exact ⟨ng y iy hy, ku1, ku2, kx⟩
  have S := rs2_spec (bt := bv v') g0 g2
  by_cases c1 : v' x < v' u1
  · refine ⟨x, u2, u1, ?_⟩
    rw [S.1 (bvt c1)]
    refine ⟨⟨ix, i2, i1⟩, ⟨(Ne.symm e2), (Ne.symm e1), (Ne.symm n12)⟩, ⟨pl_h, (Eq.trans (pl_h' (by decide)) (Eq.trans (pl_h' (by decide)) (Eq.trans (pl_h' (by decide)) h2))), (Eq.trans (pl_h' (by decide)) pl_h)⟩, ⟨pl_p, (Eq.trans (pl_p' e2) (Eq.trans (pl_p' (Ne.symm n12)) (Eq.trans (pl_p' e2) p2))), (Eq.trans (pl_p' e1) pl_p)⟩, ⟨yx, y2, y1⟩, fun y iy hy => ?_, fun y iy hy => ?_, ?_⟩
    · rcases zo' y iy hy with r | r | r
      · exact Or.inr (Or.inr r)
      · exact Or.inr (Or.inl r)
      · exact Or.inl r
    · obtain ⟨kq, ku1, ku2, kx⟩ := ng' y iy hy
      exact (Eq.trans (pl_p' kx) (Eq.trans (pl_p' ku1) (Eq.trans (pl_p' kx) kq)))
    · exact ⟨by omega, by omega⟩
  · refine ⟨u1, u2, x, ?_⟩
    rw [S.2 (bvf c1)]
    refine ⟨⟨i1, i2, ix⟩, ⟨n12, e1, e2⟩, ⟨(Eq.trans (pl_h' (by decide)) (Eq.trans (pl_h' (by decide)) h1)), (Eq.trans (pl_h' (by decide)) (Eq.trans (pl_h' (by decide)) h2)), pl_h⟩, ⟨(Eq.trans (pl_p' e1) (Eq.trans (pl_p' e1) p1)), (Eq.trans (pl_p' e2) (Eq.trans (pl_p' e2) p2)), pl_p⟩, ⟨y1, y2, yx⟩, fun y iy hy => ?_, fun y iy hy => ?_, ?_⟩
    · rcases zo' y iy hy with r | r | r
      · exact Or.inl r
      · exact Or.inr (Or.inl r)
      · exact Or.inr (Or.inr r)
    · obtain ⟨kq, ku1, ku2, kx⟩ := ng' y iy hy
      exact (Eq.trans (pl_p' kx) (Eq.trans (pl_p' kx) kq))
    · exact ⟨by omega, by omega⟩
theorem own_new3 {v v' : Int32 → Int} {z : Int32 → Bool} {q : HP} {u1 u2 u3 x : Int32} (ps : PS3 v z q u1 u2 u3) (ix : In4 x) (hz : z x = false) (hv : ∀ y, y ≠ x → v' y = v y) : Nd 4 (on 3 q x) (upd z x true) ∧ ∃ w1 w2 w3 w4 : Int32, PS4 v' (upd z x true) (rs3 (bv v') (on 3 q x)) w1 w2 w3 w4 := by
  obtain ⟨⟨i1, i2, i3⟩, ⟨n12, n13, n23⟩, ⟨h1, h2, h3⟩, ⟨p1, p2, p3⟩, ⟨z1, z2, z3⟩, zo, ng, ⟨o12, o13⟩⟩ := ps
  have e1 : u1 ≠ x := fun e => by rw [e, hz] at z1; cases z1
  have y1 : upd z x true u1 = true := (upd_ne e1).trans z1
  have f1 : v' u1 = v u1 := hv u1 e1
  have e2 : u2 ≠ x := fun e => by rw [e, hz] at z2; cases z2
  have y2 : upd z x true u2 = true := (upd_ne e2).trans z2
  have f2 : v' u2 = v u2 := hv u2 e2
  have e3 : u3 ≠ x := fun e => by rw [e, hz] at z3; cases z3
  have y3 : upd z x true u3 = true := (upd_ne e3).trans z3
  have f3 : v' u3 = v u3 := hv u3 e3
  have yx : upd z x true x = true := upd_eq
  have eon : on 3 q x = pl q x 3 := rfl
  rw [eon]
  have g0 : (pl q x 3).1 0 = u1 := (Eq.trans (pl_h' (by decide)) h1)
  have g1 : (pl q x 3).1 1 = u2 := (Eq.trans (pl_h' (by decide)) h2)
  have g2 : (pl q x 3).1 2 = u3 := (Eq.trans (pl_h' (by decide)) h3)
  have g3 : (pl q x 3).1 3 = x := pl_h
  refine ⟨nd4 g0 g1 g2 g3 i1 i2 i3 ix y1 y2 y3 yx, ?_⟩
  have zo' : ∀ y, In4 y → upd z x true y = true → y = u1 ∨ y = u2 ∨ y = u3 ∨ y = x := by
    intro y iy hy
    by_cases e : y = x
    · exact Or.inr (Or.inr (Or.inr e))
    · rw [upd_ne e] at hy
      rcases zo y iy hy with r | r | r
      · exact Or.inl r
      · exact Or.inr (Or.inl r)
      · exact Or.inr (Or.inr (Or.inl r))
  have ng' : ∀ y, In4 y → upd z x true y = false → q.2 y = -1 ∧ y ≠ u1 ∧ y ≠ u2 ∧ y ≠ u3 ∧ y ≠ x := by
    intro y iy hy
    have ku1 : y ≠ u1 := fun e => by rw [e, y1] at hy; cases hy
    have ku2 : y ≠ u2 := fun e => by rw [e, y2] at hy; cases hy
    have ku3 : y ≠ u3 := fun e => by rw [e, y3] at hy; cases hy
    have kx : y ≠ x := fun e => by rw [e, yx] at hy; cases hy
    rw [upd_ne kx] at hy
    exact ⟨ng y iy hy, ku1, ku2, ku3, kx⟩
  have S := rs3_spec (bt := bv v') g0 g1 g3
  by_cases c1 : v' x < v' u2
  · by_cases c2 : v' x < v' u1
    · refine ⟨x, u1, u3, u2, ?_⟩
      rw [S.1 (bvt c1) (bvt c2)]
      refine ⟨⟨ix, i1, i3, i2⟩, ⟨(Ne.symm e1), (Ne.symm e3), (Ne.symm e2), n13, n12, (Ne.symm n23)⟩, ⟨pl_h, (Eq.trans (pl_h' (by decide)) pl_h), (Eq.trans (pl_h' (by decide)) (Eq.trans (pl_h' (by decide)) (Eq.trans (pl_h' (by decide)) (Eq.trans (pl_h' (by decide)) h3)))), (Eq.trans (pl_h' (by decide)) (Eq.trans (pl_h' (by decide)) pl_h))⟩, ⟨pl_p, (Eq.trans (pl_p' e1) pl_p), (Eq.trans (pl_p' e3) (Eq.trans (pl_p' (Ne.symm n13)) (Eq.trans (pl_p' (Ne.symm n23)) (Eq.trans (pl_p' e3) p3)))), (Eq.trans (pl_p' e2) (Eq.trans (pl_p' (Ne.symm n12)) pl_p))⟩, ⟨yx, y1, y3, y2⟩, fun y iy hy => ?_, fun y iy hy => ?_, ?_⟩
      · rcases zo' y iy hy with r | r | r | r
        · exact Or.inr (Or.inl r)
        · exact Or.inr (Or.inr (Or.inr r))
        · exact Or.inr (Or.inr (Or.inl r))
        · exact Or.inl r
      · obtain ⟨kq, ku1, ku2, ku3, kx⟩ := ng' y iy hy
        exact (Eq.trans (pl_p' kx) (Eq.trans (pl_p' ku1) (Eq.trans (pl_p' ku2) (Eq.trans (pl_p' kx) kq))))
      · exact ⟨by omega, by omega, by omega⟩
    · refine ⟨u1, x, u3, u2, ?_⟩
      rw [S.2.1 (bvt c1) (bvf c2)]
      refine ⟨⟨i1, ix, i3, i2⟩, ⟨e1, n13, n12, (Ne.symm e3), (Ne.symm e2), (Ne.symm n23)⟩, ⟨(Eq.trans (pl_h' (by decide)) (Eq.trans (pl_h' (by decide)) (Eq.trans (pl_h' (by decide)) h1))), pl_h, (Eq.trans (pl_h' (by decide)) (Eq.trans (pl_h' (by decide)) (Eq.trans (pl_h' (by decide)) h3))), (Eq.trans (pl_h' (by decide)) pl_h)⟩, ⟨(Eq.trans (pl_p' e1) (Eq.trans (pl_p' n12) (Eq.trans (pl_p' e1) p1))), pl_p, (Eq.trans (pl_p' e3) (Eq.trans (pl_p' (Ne.symm n23)) (Eq.trans (pl_p' e3) p3))), (Eq.trans (pl_p' e2) pl_p)⟩, ⟨y1, yx, y3, y2⟩, fun y iy hy => ?_, fun y iy hy => ?_, ?_⟩
      · rcases zo' y iy hy with r | r | r | r
        · exact Or.inl r
        · exact Or.inr (Or.inr (Or.inr r))
        · exact Or.inr (Or.inr (Or.inl r))
        · exact Or.inr (Or.inl r)
      · obtain ⟨kq, ku1, ku2, ku3, kx⟩ := ng' y iy hy
        exact (Eq.trans (pl_p' kx) (Eq.trans (pl_p' ku2) (Eq.trans (pl_p' kx) kq)))
      · exact ⟨by omega, by omega, by omega⟩
  · refine ⟨u1, u2, u3, x, ?_⟩
    rw [S.2.2 (bvf c1)]
    refine ⟨⟨i1, i2, i3, ix⟩, ⟨n12, n13, e1, n23, e2, e3⟩, ⟨(Eq.trans (pl_h' (by decide)) (Eq.trans (pl_h' (by decide)) h1)), (Eq.trans (pl_h' (by decide)) (Eq.trans (pl_h' (by decide)) h2)), (Eq.trans (pl_h' (by decide)) (Eq.trans (pl_h' (by decide)) h3)), pl_h⟩, ⟨(Eq.trans (pl_p' e1) (Eq.trans (pl_p' e1) p1)), (Eq.trans (pl_p' e2) (Eq.trans (pl_p' e2) p2)), (Eq.trans (pl_p' e3) (Eq.trans (pl_p' e3) p3)), pl_p⟩, ⟨y1, y2, y3, yx⟩, fun y iy hy => ?_, fun y iy hy => ?_, ?_⟩
    · rcases zo' y iy hy with r | r | r | r
      · exact Or.inl r
      · exact Or.inr (Or.inl r)
      · exact Or.inr (Or.inr (Or.inl r))
      · exact Or.inr (Or.inr (Or.inr r))
    · obtain ⟨kq, ku1, ku2, ku3, kx⟩ := ng' y iy hy
      exact (Eq.trans (pl_p' kx) (Eq.trans (pl_p' kx) kq))
    · exact ⟨by omega, by omega, by omega⟩
theorem own_lo1_0 {v v' : Int32 → Int} {z : Int32 → Bool} {q : HP} {x : Int32} (ps : PS1 v z q x) (hv : ∀ y, y ≠ x → v' y = v y) (hl : v' x < v x) : q.2 x = 0 ∧ Nd 1 q (upd z x true) ∧ ∃ w1 : Int32, PS1 v' (upd z x true) (rs0 (bv v') q) w1 := by
  obtain ⟨ix, -, hx, px, zx, zo, ng, -⟩ := ps
  have yx : upd z x true x = true := upd_eq
  refine ⟨px, nd1 hx ix yx, ?_⟩
  have zo' : ∀ y, In4 y → upd z x true y = true → y = x := by
    intro y iy hy
    by_cases e : y = x
    · exact e
    · rw [upd_ne e] at hy
      exact zo y iy hy
  have ng' : ∀ y, In4 y → upd z x true y = false → q.2 y = -1 ∧ y ≠ x := by
    intro y iy hy
    have kx : y ≠ x := fun e => by rw [e, yx] at hy; cases hy
    rw [upd_ne kx] at hy
    exact ⟨ng y iy hy, kx⟩
  have S := rs0_spec (bt := bv v') hx
  refine ⟨x, ?_⟩
  rw [S]
  refine ⟨ix, trivial, pl_h, pl_p, yx, fun y iy hy => ?_, fun y iy hy => ?_, ?_⟩
  · exact zo' y iy hy
  · obtain ⟨kq, kx⟩ := ng' y iy hy
    exact (Eq.trans (pl_p' kx) kq)
  · exact trivial
theorem own_lo2_0 {v v' : Int32 → Int} {z : Int32 → Bool} {q : HP} {x u2 : Int32} (ps : PS2 v z q x u2) (hv : ∀ y, y ≠ x → v' y = v y) (hl : v' x < v x) : q.2 x = 0 ∧ Nd 1 q (upd z x true) ∧ ∃ w1 w2 : Int32, PS2 v' (upd z x true) (rs0 (bv v') q) w1 w2 := by
  obtain ⟨⟨ix, i2⟩, nx2, ⟨hx, h2⟩, ⟨px, p2⟩, ⟨zx, z2⟩, zo, ng, ox2⟩ := ps
  have y2 : upd z x true u2 = true := (upd_ne (Ne.symm nx2)).trans z2
  have f2 : v' u2 = v u2 := hv u2 (Ne.symm nx2)
  have yx : upd z x true x = true := upd_eq
  refine ⟨px, nd1 hx ix yx, ?_⟩
  have zo' : ∀ y, In4 y → upd z x true y = true → y = x ∨ y = u2 := by
    intro y iy hy
    by_cases e : y = x
    · exact Or.inl e
    · rw [upd_ne e] at hy
      exact zo y iy hy
  have ng' : ∀ y, In4 y → upd z x true y = false → q.2 y = -1 ∧ y ≠ x ∧ y ≠ u2 := by
    intro y iy hy
    have kx : y ≠ x := fun e => by rw [e, yx] at hy; cases hy
    have ku2 : y ≠ u2 := fun e => by rw [e, y2] at hy; cases hy
    rw [upd_ne kx] at hy
    exact ⟨ng y iy hy, kx, ku2⟩
  have S := rs0_spec (bt := bv v') hx
  refine ⟨x, u2, ?_⟩
  rw [S]
  refine ⟨⟨ix, i2⟩, nx2, ⟨pl_h, (Eq.trans (pl_h' (by decide)) h2)⟩, ⟨pl_p, (Eq.trans (pl_p' (Ne.symm nx2)) p2)⟩, ⟨yx, y2⟩, fun y iy hy => ?_, fun y iy hy => ?_, ?_⟩
  · rcases zo' y iy hy with r | r
    · exact Or.inl r
    · exact Or.inr r
  · obtain ⟨kq, kx, ku2⟩ := ng' y iy hy
    exact (Eq.trans (pl_p' kx) kq)
  · exact by omega
theorem own_lo2_1 {v v' : Int32 → Int} {z : Int32 → Bool} {q : HP} {u1 x : Int32} (ps : PS2 v z q u1 x) (hv : ∀ y, y ≠ x → v' y = v y) (hl : v' x < v x) : q.2 x = 1 ∧ Nd 2 q (upd z x true) ∧ ∃ w1 w2 : Int32, PS2 v' (upd z x true) (rs1 (bv v') q) w1 w2 := by
  obtain ⟨⟨i1, ix⟩, n1x, ⟨h1, hx⟩, ⟨p1, px⟩, ⟨z1, zx⟩, zo, ng, o1x⟩ := ps
  have y1 : upd z x true u1 = true := (upd_ne n1x).trans z1
  have f1 : v' u1 = v u1 := hv u1 n1x
  have yx : upd z x true x = true := upd_eq
  refine ⟨px, nd2 h1 hx i1 ix y1 yx, ?_⟩
  have zo' : ∀ y, In4 y → upd z x true y = true → y = u1 ∨ y = x := by
    intro y iy hy
    by_cases e : y = x
    · exact Or.inr e
    · rw [upd_ne e] at hy
      exact zo y iy hy
  have ng' : ∀ y, In4 y → upd z x true y = false → q.2 y = -1 ∧ y ≠ u1 ∧ y ≠ x := by
    intro y iy hy
    have ku1 : y ≠ u1 := fun e => by rw [e, y1] at hy; cases hy
    have kx : y ≠ x := fun e => by rw [e, yx] at hy; cases hy
    rw [upd_ne kx] at hy
    exact ⟨ng y iy hy, ku1, kx⟩
  have S := rs1_spec (bt := bv v') h1 hx
  by_cases c1 : v' x < v' u1
  · refine ⟨x, u1, ?_⟩
    rw [S.1 (bvt c1)]
    refine ⟨⟨ix, i1⟩, (Ne.symm n1x), ⟨pl_h, (Eq.trans (pl_h' (by decide)) pl_h)⟩, ⟨pl_p, (Eq.trans (pl_p' n1x) pl_p)⟩, ⟨yx, y1⟩, fun y iy hy => ?_, fun y iy hy => ?_, ?_⟩
    · rcases zo' y iy hy with r | r
      · exact Or.inr r
      · exact Or.inl r
    · obtain ⟨kq, ku1, kx⟩ := ng' y iy hy
      exact (Eq.trans (pl_p' kx) (Eq.trans (pl_p' ku1) kq))
    · exact by omega
  · refine ⟨u1, x, ?_⟩
    rw [S.2 (bvf c1)]
    refine ⟨⟨i1, ix⟩, n1x, ⟨(Eq.trans (pl_h' (by decide)) h1), pl_h⟩, ⟨(Eq.trans (pl_p' n1x) p1), pl_p⟩, ⟨y1, yx⟩, fun y iy hy => ?_, fun y iy hy => ?_, ?_⟩
    · rcases zo' y iy hy with r | r
      · exact Or.inl r
      · exact Or.inr r
    · obtain ⟨kq, ku1, kx⟩ := ng' y iy hy
      exact (Eq.trans (pl_p' kx) kq)
    · exact by omega
theorem own_lo3_0 {v v' : Int32 → Int} {z : Int32 → Bool} {q : HP} {x u2 u3 : Int32} (ps : PS3 v z q x u2 u3) (hv : ∀ y, y ≠ x → v' y = v y) (hl : v' x < v x) : q.2 x = 0 ∧ Nd 1 q (upd z x true) ∧ ∃ w1 w2 w3 : Int32, PS3 v' (upd z x true) (rs0 (bv v') q) w1 w2 w3 := by
  obtain ⟨⟨ix, i2, i3⟩, ⟨nx2, nx3, n23⟩, ⟨hx, h2, h3⟩, ⟨px, p2, p3⟩, ⟨zx, z2, z3⟩, zo, ng, ⟨ox2, ox3⟩⟩ := ps
  have y2 : upd z x true u2 = true := (upd_ne (Ne.symm nx2)).trans z2
  have f2 : v' u2 = v u2 := hv u2 (Ne.symm nx2)
  have y3 : upd z x true u3 = true := (upd_ne (Ne.symm nx3)).trans z3
  have f3 : v' u3 = v u3 := hv u3 (Ne.symm nx3)
  have yx : upd z x true x = true := upd_eq
  refine ⟨px, nd1 hx ix yx, ?_⟩
  have zo' : ∀ y, In4 y → upd z x true y = true → y = x ∨ y = u2 ∨ y = u3 := by
    intro y iy hy
    by_cases e : y = x
    · exact Or.inl e
    · rw [upd_ne e] at hy
      exact zo y iy hy
  have ng' : ∀ y, In4 y → upd z x true y = false → q.2 y = -1 ∧ y ≠ x ∧ y ≠ u2 ∧ y ≠ u3 := by
    intro y iy hy
    have kx : y ≠ x := fun e => by rw [e, yx] at hy; cases hy
    have ku2 : y ≠ u2 := fun e => by rw [e, y2] at hy; cases hy
    have ku3 : y ≠ u3 := fun e => by rw [e, y3] at hy; cases hy
    rw [upd_ne kx] at hy
    exact ⟨ng y iy hy, kx, ku2, ku3⟩
  have S := rs0_spec (bt := bv v') hx
  refine ⟨x, u2, u3, ?_⟩
  rw [S]
  refine ⟨⟨ix, i2, i3⟩, ⟨nx2, nx3, n23⟩, ⟨pl_h, (Eq.trans (pl_h' (by decide)) h2), (Eq.trans (pl_h' (by decide)) h3)⟩, ⟨pl_p, (Eq.trans (pl_p' (Ne.symm nx2)) p2), (Eq.trans (pl_p' (Ne.symm nx3)) p3)⟩, ⟨yx, y2, y3⟩, fun y iy hy => ?_, fun y iy hy => ?_, ?_⟩
  · rcases zo' y iy hy with r | r | r
    · exact Or.inl r
    · exact Or.inr (Or.inl r)
    · exact Or.inr (Or.inr r)
  · obtain ⟨kq, kx, ku2, ku3⟩ := ng' y iy hy
    exact (Eq.trans (pl_p' kx) kq)
  · exact ⟨by omega, by omega⟩
theorem own_lo3_1 {v v' : Int32 → Int} {z : Int32 → Bool} {q : HP} {u1 x u3 : Int32} (ps : PS3 v z q u1 x u3) (hv : ∀ y, y ≠ x → v' y = v y) (hl : v' x < v x) : q.2 x = 1 ∧ Nd 2 q (upd z x true) ∧ ∃ w1 w2 w3 : Int32, PS3 v' (upd z x true) (rs1 (bv v') q) w1 w2 w3 := by
  obtain ⟨⟨i1, ix, i3⟩, ⟨n1x, n13, nx3⟩, ⟨h1, hx, h3⟩, ⟨p1, px, p3⟩, ⟨z1, zx, z3⟩, zo, ng, ⟨o1x, o13⟩⟩ := ps
  have y1 : upd z x true u1 = true := (upd_ne n1x).trans z1
  have f1 : v' u1 = v u1 := hv u1 n1x
  have y3 : upd z x true u3 = true := (upd_ne (Ne.symm nx3)).trans z3
  have f3 : v' u3 = v u3 := hv u3 (Ne.symm nx3)
  have yx : upd z x true x = true := upd_eq
  refine ⟨px, nd2 h1 hx i1 ix y1 yx, ?_⟩
  have zo' : ∀ y, In4 y → upd z x true y = true → y = u1 ∨ y = x ∨ y = u3 := by
    intro y iy hy
    by_cases e : y = x
    · exact Or.inr (Or.inl e)
    · rw [upd_ne e] at hy
      exact zo y iy hy
  have ng' : ∀ y, In4 y → upd z x true y = false → q.2 y = -1 ∧ y ≠ u1 ∧ y ≠ x ∧ y ≠ u3 := by
    intro y iy hy
    have ku1 : y ≠ u1 := fun e => by rw [e, y1] at hy; cases hy
    have kx : y ≠ x := fun e => by rw [e, yx] at hy; cases hy
    have ku3 : y ≠ u3 := fun e => by rw [e, y3] at hy; cases hy
    rw [upd_ne kx] at hy
    exact ⟨ng y iy hy, ku1, kx, ku3⟩
  have S := rs1_spec (bt := bv v') h1 hx
  by_cases c1 : v' x < v' u1
  · refine ⟨x, u1, u3, ?_⟩
    rw [S.1 (bvt c1)]
    refine ⟨⟨ix, i1, i3⟩, ⟨(Ne.symm n1x), nx3, n13⟩, ⟨pl_h, (Eq.trans (pl_h' (by decide)) pl_h), (Eq.trans (pl_h' (by decide)) (Eq.trans (pl_h' (by decide)) h3))⟩, ⟨pl_p, (Eq.trans (pl_p' n1x) pl_p), (Eq.trans (pl_p' (Ne.symm nx3)) (Eq.trans (pl_p' (Ne.symm n13)) p3))⟩, ⟨yx, y1, y3⟩, fun y iy hy => ?_, fun y iy hy => ?_, ?_⟩
    · rcases zo' y iy hy with r | r | r
      · exact Or.inr (Or.inl r)
      · exact Or.inl r
      · exact Or.inr (Or.inr r)
    · obtain ⟨kq, ku1, kx, ku3⟩ := ng' y iy hy
      exact (Eq.trans (pl_p' kx) (Eq.trans (pl_p' ku1) kq))
    · exact ⟨by omega, by omega⟩
  · refine ⟨u1, x, u3, ?_⟩
    rw [S.2 (bvf c1)]
    refine ⟨⟨i1, ix, i3⟩, ⟨n1x, n13, nx3⟩, ⟨(Eq.trans (pl_h' (by decide)) h1), pl_h, (Eq.trans (pl_h' (by decide)) h3)⟩, ⟨(Eq.trans (pl_p' n1x) p1), pl_p, (Eq.trans (pl_p' (Ne.symm nx3)) p3)⟩, ⟨y1, yx, y3⟩, fun y iy hy => ?_, fun y iy hy => ?_, ?_⟩
    · rcases zo' y iy hy with r | r | r
      · exact Or.inl r
      · exact Or.inr (Or.inl r)
      · exact Or.inr (Or.inr r)
    · obtain ⟨kq, ku1, kx, ku3⟩ := ng' y iy hy
      exact (Eq.trans (pl_p' kx) kq)
    · exact ⟨by omega, by omega⟩
theorem own_lo3_2 {v v' : Int32 → Int} {z : Int32 → Bool} {q : HP} {u1 u2 x : Int32} (ps : PS3 v z q u1 u2 x) (hv : ∀ y, y ≠ x → v' y = v y) (hl : v' x < v x) : q.2 x = 2 ∧ Nd 3 q (upd z x true) ∧ ∃ w1 w2 w3 : Int32, PS3 v' (upd z x true) (rs2 (bv v') q) w1 w2 w3 := by
  obtain ⟨⟨i1, i2, ix⟩, ⟨n12, n1x, n2x⟩, ⟨h1, h2, hx⟩, ⟨p1, p2, px⟩, ⟨z1, z2, zx⟩, zo, ng, ⟨o12, o1x⟩⟩ := ps
  have y1 : upd z x true u1 = true := (upd_ne n1x).trans z1
  have f1 : v' u1 = v u1 := hv u1 n1x
  have y2 : upd z x true u2 = true := (upd_ne n2x).trans z2
  have f2 : v' u2 = v u2 := hv u2 n2x
  have yx : upd z x true x = true := upd_eq
  refine ⟨px, nd3 h1 h2 hx i1 i2 ix y1 y2 yx, ?_⟩
  have zo' : ∀ y, In4 y → upd z x true y = true → y = u1 ∨ y = u2 ∨ y = x := by
    intro y iy hy
    by_cases e : y = x
    · exact Or.inr (Or.inr e)
    · rw [upd_ne e] at hy
      exact zo y iy hy
  have ng' : ∀ y, In4 y → upd z x true y = false → q.2 y = -1 ∧ y ≠ u1 ∧ y ≠ u2 ∧ y ≠ x := by
    intro y iy hy
    have ku1 : y ≠ u1 := fun e => by rw [e, y1] at hy; cases hy
    have ku2 : y ≠ u2 := fun e => by rw [e, y2] at hy; cases hy
    have kx : y ≠ x := fun e => by rw [e, yx] at hy; cases hy
    rw [upd_ne kx] at hy
    exact ⟨ng y iy hy, ku1, ku2, kx⟩
  have S := rs2_spec (bt := bv v') h1 hx
  by_cases c1 : v' x < v' u1
  · refine ⟨x, u2, u1, ?_⟩
    rw [S.1 (bvt c1)]
    refine ⟨⟨ix, i2, i1⟩, ⟨(Ne.symm n2x), (Ne.symm n1x), (Ne.symm n12)⟩, ⟨pl_h, (Eq.trans (pl_h' (by decide)) (Eq.trans (pl_h' (by decide)) h2)), (Eq.trans (pl_h' (by decide)) pl_h)⟩, ⟨pl_p, (Eq.trans (pl_p' n2x) (Eq.trans (pl_p' (Ne.symm n12)) p2)), (Eq.trans (pl_p' n1x) pl_p)⟩, ⟨yx, y2, y1⟩, fun y iy hy => ?_, fun y iy hy => ?_, ?_⟩
    · rcases zo' y iy hy with r | r | r
      · exact Or.inr (Or.inr r)
      · exact Or.inr (Or.inl r)
      · exact Or.inl r
    · obtain ⟨kq, ku1, ku2, kx⟩ := ng' y iy hy
      exact (Eq.trans (pl_p' kx) (Eq.trans (pl_p' ku1) kq))
    · exact ⟨by omega, by omega⟩
  · refine ⟨u1, u2, x, ?_⟩
    rw [S.2 (bvf c1)]
    refine ⟨⟨i1, i2, ix⟩, ⟨n12, n1x, n2x⟩, ⟨(Eq.trans (pl_h' (by decide)) h1), (Eq.trans (pl_h' (by decide)) h2), pl_h⟩, ⟨(Eq.trans (pl_p' n1x) p1), (Eq.trans (pl_p' n2x) p2), pl_p⟩, ⟨y1, y2, yx⟩, fun y iy hy => ?_, fun y iy hy => ?_, ?_⟩
    · rcases zo' y iy hy with r | r | r
      · exact Or.inl r
      · exact Or.inr (Or.inl r)
      · exact Or.inr (Or.inr r)
    · obtain ⟨kq, ku1, ku2, kx⟩ := ng' y iy hy
      exact (Eq.trans (pl_p' kx) kq)
    · exact ⟨by omega, by omega⟩
theorem own_lo4_0 {v v' : Int32 → Int} {z : Int32 → Bool} {q : HP} {x u2 u3 u4 : Int32} (ps : PS4 v z q x u2 u3 u4) (hv : ∀ y, y ≠ x → v' y = v y) (hl : v' x < v x) : q.2 x = 0 ∧ Nd 1 q (upd z x true) ∧ ∃ w1 w2 w3 w4 : Int32, PS4 v' (upd z x true) (rs0 (bv v') q) w1 w2 w3 w4 := by
  obtain ⟨⟨ix, i2, i3, i4⟩, ⟨nx2, nx3, nx4, n23, n24, n34⟩, ⟨hx, h2, h3, h4⟩, ⟨px, p2, p3, p4⟩, ⟨zx, z2, z3, z4⟩, zo, ng, ⟨ox2, ox3, o24⟩⟩ := ps
  have y2 : upd z x true u2 = true := (upd_ne (Ne.symm nx2)).trans z2
  have f2 : v' u2 = v u2 := hv u2 (Ne.symm nx2)
  have y3 : upd z x true u3 = true := (upd_ne (Ne.symm nx3)).trans z3
  have f3 : v' u3 = v u3 := hv u3 (Ne.symm nx3)
  have y4 : upd z x true u4 = true := (upd_ne (Ne.symm nx4)).trans z4
  have f4 : v' u4 = v u4 := hv u4 (Ne.symm nx4)
  have yx : upd z x true x = true := upd_eq
  refine ⟨px, nd1 hx ix yx, ?_⟩
  have zo' : ∀ y, In4 y → upd z x true y = true → y = x ∨ y = u2 ∨ y = u3 ∨ y = u4 := by
    intro y iy hy
    by_cases e : y = x
    · exact Or.inl e
    · rw [upd_ne e] at hy
      exact zo y iy hy
  have ng' : ∀ y, In4 y → upd z x true y = false → q.2 y = -1 ∧ y ≠ x ∧ y ≠ u2 ∧ y ≠ u3 ∧ y ≠ u4 := by
    intro y iy hy
    have kx : y ≠ x := fun e => by rw [e, yx] at hy; cases hy
    have ku2 : y ≠ u2 := fun e => by rw [e, y2] at hy; cases hy
    have ku3 : y ≠ u3 := fun e => by rw [e, y3] at hy; cases hy
    have ku4 : y ≠ u4 := fun e => by rw [e, y4] at hy; cases hy
    rw [upd_ne kx] at hy
    exact ⟨ng y iy hy, kx, ku2, ku3, ku4⟩
  have S := rs0_spec (bt := bv v') hx
  refine ⟨x, u2, u3, u4, ?_⟩
  rw [S]
  refine ⟨⟨ix, i2, i3, i4⟩, ⟨nx2, nx3, nx4, n23, n24, n34⟩, ⟨pl_h, (Eq.trans (pl_h' (by decide)) h2), (Eq.trans (pl_h' (by decide)) h3), (Eq.trans (pl_h' (by decide)) h4)⟩, ⟨pl_p, (Eq.trans (pl_p' (Ne.symm nx2)) p2), (Eq.trans (pl_p' (Ne.symm nx3)) p3), (Eq.trans (pl_p' (Ne.symm nx4)) p4)⟩, ⟨yx, y2, y3, y4⟩, fun y iy hy => ?_, fun y iy hy => ?_, ?_⟩
  · rcases zo' y iy hy with r | r | r | r
    · exact Or.inl r
    · exact Or.inr (Or.inl r)
    · exact Or.inr (Or.inr (Or.inl r))
    · exact Or.inr (Or.inr (Or.inr r))
  · obtain ⟨kq, kx, ku2, ku3, ku4⟩ := ng' y iy hy
    exact (Eq.trans (pl_p' kx) kq)
  · exact ⟨by omega, by omega, by omega⟩
theorem own_lo4_1 {v v' : Int32 → Int} {z : Int32 → Bool} {q : HP} {u1 x u3 u4 : Int32} (ps : PS4 v z q u1 x u3 u4) (hv : ∀ y, y ≠ x → v' y = v y) (hl : v' x < v x) : q.2 x = 1 ∧ Nd 2 q (upd z x true) ∧ ∃ w1 w2 w3 w4 : Int32, PS4 v' (upd z x true) (rs1 (bv v') q) w1 w2 w3 w4 := by
  obtain ⟨⟨i1, ix, i3, i4⟩, ⟨n1x, n13, n14, nx3, nx4, n34⟩, ⟨h1, hx, h3, h4⟩, ⟨p1, px, p3, p4⟩, ⟨z1, zx, z3, z4⟩, zo, ng, ⟨o1x, o13, ox4⟩⟩ := ps
  have y1 : upd z x true u1 = true := (upd_ne n1x).trans z1
  have f1 : v' u1 = v u1 := hv u1 n1x
  have y3 : upd z x true u3 = true := (upd_ne (Ne.symm nx3)).trans z3
  have f3 : v' u3 = v u3 := hv u3 (Ne.symm nx3)
  have y4 : upd z x true u4 = true := (upd_ne (Ne.symm nx4)).trans z4
  have f4 : v' u4 = v u4 := hv u4 (Ne.symm nx4)
  have yx : upd z x true x = true := upd_eq
  refine ⟨px, nd2 h1 hx i1 ix y1 yx, ?_⟩
  have zo' : ∀ y, In4 y → upd z x true y = true → y = u1 ∨ y = x ∨ y = u3 ∨ y = u4 := by
    intro y iy hy
    by_cases e : y = x
    · exact Or.inr (Or.inl e)
    · rw [upd_ne e] at hy
      exact zo y iy hy
  have ng' : ∀ y, In4 y → upd z x true y = false → q.2 y = -1 ∧ y ≠ u1 ∧ y ≠ x ∧ y ≠ u3 ∧ y ≠ u4 := by
    intro y iy hy
    have ku1 : y ≠ u1 := fun e => by rw [e, y1] at hy; cases hy
    have kx : y ≠ x := fun e => by rw [e, yx] at hy; cases hy
    have ku3 : y ≠ u3 := fun e => by rw [e, y3] at hy; cases hy
    have ku4 : y ≠ u4 := fun e => by rw [e, y4] at hy; cases hy
    rw [upd_ne kx] at hy
    exact ⟨ng y iy hy, ku1, kx, ku3, ku4⟩
  have S := rs1_spec (bt := bv v') h1 hx
  by_cases c1 : v' x < v' u1
  · refine ⟨x, u1, u3, u4, ?_⟩
    rw [S.1 (bvt c1)]
    refine ⟨⟨ix, i1, i3, i4⟩, ⟨(Ne.symm n1x), nx3, nx4, n13, n14, n34⟩, ⟨pl_h, (Eq.trans (pl_h' (by decide)) pl_h), (Eq.trans (pl_h' (by decide)) (Eq.trans (pl_h' (by decide)) h3)), (Eq.trans (pl_h' (by decide)) (Eq.trans (pl_h' (by decide)) h4))⟩, ⟨pl_p, (Eq.trans (pl_p' n1x) pl_p), (Eq.trans (pl_p' (Ne.symm nx3)) (Eq.trans (pl_p' (Ne.symm n13)) p3)), (Eq.trans (pl_p' (Ne.symm nx4)) (Eq.trans (pl_p' (Ne.symm n14)) p4))⟩, ⟨yx, y1, y3, y4⟩, fun y iy hy => ?_, fun y iy hy => ?_, ?_⟩
    · rcases zo' y iy hy with r | r | r | r
      · exact Or.inr (Or.inl r)
      · exact Or.inl r
      · exact Or.inr (Or.inr (Or.inl r))
      · exact Or.inr (Or.inr (Or.inr r))
    · obtain ⟨kq, ku1, kx, ku3, ku4⟩ := ng' y iy hy
      exact (Eq.trans (pl_p' kx) (Eq.trans (pl_p' ku1) kq))
    · exact ⟨by omega, by omega, by omega⟩
  · refine ⟨u1, x, u3, u4, ?_⟩
    rw [S.2 (bvf c1)]
    refine ⟨⟨i1, ix, i3, i4⟩, ⟨n1x, n13, n14, nx3, nx4, n34⟩, ⟨(Eq.trans (pl_h' (by decide)) h1), pl_h, (Eq.trans (pl_h' (by decide)) h3), (Eq.trans (pl_h' (by decide)) h4)⟩, ⟨(Eq.trans (pl_p' n1x) p1), pl_p, (Eq.trans (pl_p' (Ne.symm nx3)) p3), (Eq.trans (pl_p' (Ne.symm nx4)) p4)⟩, ⟨y1, yx, y3, y4⟩, fun y iy hy => ?_, fun y iy hy => ?_, ?_⟩
    · rcases zo' y iy hy with r | r | r | r
      · exact Or.inl r
      · exact Or.inr (Or.inl r)
      · exact Or.inr (Or.inr (Or.inl r))
      · exact Or.inr (Or.inr (Or.inr r))
    · obtain ⟨kq, ku1, kx, ku3, ku4⟩ := ng' y iy hy
      exact (Eq.trans (pl_p' kx) kq)
    · exact ⟨by omega, by omega, by omega⟩
theorem own_lo4_2 {v v' : Int32 → Int} {z : Int32 → Bool} {q : HP} {u1 u2 x u4 : Int32} (ps : PS4 v z q u1 u2 x u4) (hv : ∀ y, y ≠ x → v' y = v y) (hl : v' x < v x) : q.2 x = 2 ∧ Nd 3 q (upd z x true) ∧ ∃ w1 w2 w3 w4 : Int32, PS4 v' (upd z x true) (rs2 (bv v') q) w1 w2 w3 w4 := by
  obtain ⟨⟨i1, i2, ix, i4⟩, ⟨n12, n1x, n14, n2x, n24, nx4⟩, ⟨h1, h2, hx, h4⟩, ⟨p1, p2, px, p4⟩, ⟨z1, z2, zx, z4⟩, zo, ng, ⟨o12, o1x, o24⟩⟩ := ps
  have y1 : upd z x true u1 = true := (upd_ne n1x).trans z1
  have f1 : v' u1 = v u1 := hv u1 n1x
  have y2 : upd z x true u2 = true := (upd_ne n2x).trans z2
  have f2 : v' u2 = v u2 := hv u2 n2x
  have y4 : upd z x true u4 = true := (upd_ne (Ne.symm nx4)).trans z4
  have f4 : v' u4 = v u4 := hv u4 (Ne.symm nx4)
  have yx : upd z x true x = true := upd_eq
  refine ⟨px, nd3 h1 h2 hx i1 i2 ix y1 y2 yx, ?_⟩
  have zo' : ∀ y, In4 y → upd z x true y = true → y = u1 ∨ y = u2 ∨ y = x ∨ y = u4 := by
    intro y iy hy
    by_cases e : y = x
    · exact Or.inr (Or.inr (Or.inl e))
    · rw [upd_ne e] at hy
      exact zo y iy hy
  have ng' : ∀ y, In4 y → upd z x true y = false → q.2 y = -1 ∧ y ≠ u1 ∧ y ≠ u2 ∧ y ≠ x ∧ y ≠ u4 := by
    intro y iy hy
    have ku1 : y ≠ u1 := fun e => by rw [e, y1] at hy; cases hy
    have ku2 : y ≠ u2 := fun e => by rw [e, y2] at hy; cases hy
    have kx : y ≠ x := fun e => by rw [e, yx] at hy; cases hy
    have ku4 : y ≠ u4 := fun e => by rw [e, y4] at hy; cases hy
    rw [upd_ne kx] at hy
    exact ⟨ng y iy hy, ku1, ku2, kx, ku4⟩
  have S := rs2_spec (bt := bv v') h1 hx
  by_cases c1 : v' x < v' u1
  · refine ⟨x, u2, u1, u4, ?_⟩
    rw [S.1 (bvt c1)]
    refine ⟨⟨ix, i2, i1, i4⟩, ⟨(Ne.symm n2x), (Ne.symm n1x), nx4, (Ne.symm n12), n24, n14⟩, ⟨pl_h, (Eq.trans (pl_h' (by decide)) (Eq.trans (pl_h' (by decide)) h2)), (Eq.trans (pl_h' (by decide)) pl_h), (Eq.trans (pl_h' (by decide)) (Eq.trans (pl_h' (by decide)) h4))⟩, ⟨pl_p, (Eq.trans (pl_p' n2x) (Eq.trans (pl_p' (Ne.symm n12)) p2)), (Eq.trans (pl_p' n1x) pl_p), (Eq.trans (pl_p' (Ne.symm nx4)) (Eq.trans (pl_p' (Ne.symm n14)) p4))⟩, ⟨yx, y2, y1, y4⟩, fun y iy hy => ?_, fun y iy hy => ?_, ?_⟩
    · rcases zo' y iy hy with r | r | r | r
      · exact Or.inr (Or.inr (Or.inl r))
      · exact Or.inr (Or.inl r)
      · exact Or.inl r
      · exact Or.inr (Or.inr (Or.inr r))
    · obtain ⟨kq, ku1, ku2, kx, ku4⟩ := ng' y iy hy
      exact (Eq.trans (pl_p' kx) (Eq.trans (pl_p' ku1) kq))
    · exact ⟨by omega, by omega, by omega⟩
  · refine ⟨u1, u2, x, u4, ?_⟩
    rw [S.2 (bvf c1)]
    refine ⟨⟨i1, i2, ix, i4⟩, ⟨n12, n1x, n14, n2x, n24, nx4⟩, ⟨(Eq.trans (pl_h' (by decide)) h1), (Eq.trans (pl_h' (by decide)) h2), pl_h, (Eq.trans (pl_h' (by decide)) h4)⟩, ⟨(Eq.trans (pl_p' n1x) p1), (Eq.trans (pl_p' n2x) p2), pl_p, (Eq.trans (pl_p' (Ne.symm nx4)) p4)⟩, ⟨y1, y2, yx, y4⟩, fun y iy hy => ?_, fun y iy hy => ?_, ?_⟩
    · rcases zo' y iy hy with r | r | r | r
      · exact Or.inl r
      · exact Or.inr (Or.inl r)
      · exact Or.inr (Or.inr (Or.inl r))
      · exact Or.inr (Or.inr (Or.inr r))
    · obtain ⟨kq, ku1, ku2, kx, ku4⟩ := ng' y iy hy
      exact (Eq.trans (pl_p' kx) kq)
    · exact ⟨by omega, by omega, by omega⟩
theorem own_lo4_3 {v v' : Int32 → Int} {z : Int32 → Bool} {q : HP} {u1 u2 u3 x : Int32} (ps : PS4 v z q u1 u2 u3 x) (hv : ∀ y, y ≠ x → v' y = v y) (hl : v' x < v x) : q.2 x = 3 ∧ Nd 4 q (upd z x true) ∧ ∃ w1 w2 w3 w4 : Int32, PS4 v' (upd z x true) (rs3 (bv v') q) w1 w2 w3 w4 := by
  obtain ⟨⟨i1, i2, i3, ix⟩, ⟨n12, n13, n1x, n23, n2x, n3x⟩, ⟨h1, h2, h3, hx⟩, ⟨p1, p2, p3, px⟩, ⟨z1, z2, z3, zx⟩, zo, ng, ⟨o12, o13, o2x⟩⟩ := ps
  have y1 : upd z x true u1 = true := (upd_ne n1x).trans z1
  have f1 : v' u1 = v u1 := hv u1 n1x
  have y2 : upd z x true u2 = true := (upd_ne n2x).trans z2
  have f2 : v' u2 = v u2 := hv u2 n2x
  have y3 : upd z x true u3 = true := (upd_ne n3x).trans z3
  have f3 : v' u3 = v u3 := hv u3 n3x
  have yx : upd z x true x = true := upd_eq
  refine ⟨px, nd4 h1 h2 h3 hx i1 i2 i3 ix y1 y2 y3 yx, ?_⟩
  have zo' : ∀ y, In4 y → upd z x true y = true → y = u1 ∨ y = u2 ∨ y = u3 ∨ y = x := by
    intro y iy hy
    by_cases e : y = x
    · exact Or.inr (Or.inr (Or.inr e))
    · rw [upd_ne e] at hy
      exact zo y iy hy
  have ng' : ∀ y, In4 y → upd z x true y = false → q.2 y = -1 ∧ y ≠ u1 ∧ y ≠ u2 ∧ y ≠ u3 ∧ y ≠ x := by
    intro y iy hy
    have ku1 : y ≠ u1 := fun e => by rw [e, y1] at hy; cases hy
    have ku2 : y ≠ u2 := fun e => by rw [e, y2] at hy; cases hy
    have ku3 : y ≠ u3 := fun e => by rw [e, y3] at hy; cases hy
    have kx : y ≠ x := fun e => by rw [e, yx] at hy; cases hy
    rw [upd_ne kx] at hy
    exact ⟨ng y iy hy, ku1, ku2, ku3, kx⟩
  have S := rs3_spec (bt := bv v') h1 h2 hx
  by_cases c1 : v' x < v' u2
  · by_cases c2 : v' x < v' u1
    · refine ⟨x, u1, u3, u2, ?_⟩
      rw [S.1 (bvt c1) (bvt c2)]
      refine ⟨⟨ix, i1, i3, i2⟩, ⟨(Ne.symm n1x), (Ne.symm n3x), (Ne.symm n2x), n13, n12, (Ne.symm n23)⟩, ⟨pl_h, (Eq.trans (pl_h' (by decide)) pl_h), (Eq.trans (pl_h' (by decide)) (Eq.trans (pl_h' (by decide)) (Eq.trans (pl_h' (by decide)) h3))), (Eq.trans (pl_h' (by decide)) (Eq.trans (pl_h' (by decide)) pl_h))⟩, ⟨pl_p, (Eq.trans (pl_p' n1x) pl_p), (Eq.trans (pl_p' n3x) (Eq.trans (pl_p' (Ne.symm n13)) (Eq.trans (pl_p' (Ne.symm n23)) p3))), (Eq.trans (pl_p' n2x) (Eq.trans (pl_p' (Ne.symm n12)) pl_p))⟩, ⟨yx, y1, y3, y2⟩, fun y iy hy => ?_, fun y iy hy => ?_, ?_⟩
      · rcases zo' y iy hy with r | r | r | r
        · exact Or.inr (Or.inl r)
        · exact Or.inr (Or.inr (Or.inr r))
        · exact Or.inr (Or.inr (Or.inl r))
        · exact Or.inl r
      · obtain ⟨kq, ku1, ku2, ku3, kx⟩ := ng' y iy hy
        exact (Eq.trans (pl_p' kx) (Eq.trans (pl_p' ku1) (Eq.trans (pl_p' ku2) kq)))
      · exact ⟨by omega, by omega, by omega⟩
    · refine ⟨u1, x, u3, u2, ?_⟩
      rw [S.2.1 (bvt c1) (bvf c2)]
      refine ⟨⟨i1, ix, i3, i2⟩, ⟨n1x, n13, n12, (Ne.symm n3x), (Ne.symm n2x), (Ne.symm n23)⟩, ⟨(Eq.trans (pl_h' (by decide)) (Eq.trans (pl_h' (by decide)) h1)), pl_h, (Eq.trans (pl_h' (by decide)) (Eq.trans (pl_h' (by decide)) h3)), (Eq.trans (pl_h' (by decide)) pl_h)⟩, ⟨(Eq.trans (pl_p' n1x) (Eq.trans (pl_p' n12) p1)), pl_p, (Eq.trans (pl_p' n3x) (Eq.trans (pl_p' (Ne.symm n23)) p3)), (Eq.trans (pl_p' n2x) pl_p)⟩, ⟨y1, yx, y3, y2⟩, fun y iy hy => ?_, fun y iy hy => ?_, ?_⟩
      · rcases zo' y iy hy with r | r | r | r
        · exact Or.inl r
        · exact Or.inr (Or.inr (Or.inr r))
        · exact Or.inr (Or.inr (Or.inl r))
        · exact Or.inr (Or.inl r)
      · obtain ⟨kq, ku1, ku2, ku3, kx⟩ := ng' y iy hy
        exact (Eq.trans (pl_p' kx) (Eq.trans (pl_p' ku2) kq))
      · exact ⟨by omega, by omega, by omega⟩
  · refine ⟨u1, u2, u3, x, ?_⟩
    rw [S.2.2 (bvf c1)]
    refine ⟨⟨i1, i2, i3, ix⟩, ⟨n12, n13, n1x, n23, n2x, n3x⟩, ⟨(Eq.trans (pl_h' (by decide)) h1), (Eq.trans (pl_h' (by decide)) h2), (Eq.trans (pl_h' (by decide)) h3), pl_h⟩, ⟨(Eq.trans (pl_p' n1x) p1), (Eq.trans (pl_p' n2x) p2), (Eq.trans (pl_p' n3x) p3), pl_p⟩, ⟨y1, y2, y3, yx⟩, fun y iy hy => ?_, fun y iy hy => ?_, ?_⟩
    · rcases zo' y iy hy with r | r | r | r
      · exact Or.inl r
      · exact Or.inr (Or.inl r)
      · exact Or.inr (Or.inr (Or.inl r))
      · exact Or.inr (Or.inr (Or.inr r))
    · obtain ⟨kq, ku1, ku2, ku3, kx⟩ := ng' y iy hy
      exact (Eq.trans (pl_p' kx) kq)
    · exact ⟨by omega, by omega, by omega⟩
theorem own_lo1 {v v' : Int32 → Int} {z : Int32 → Bool} {q : HP} {u1 x : Int32} (ps : PS1 v z q u1) (ix : In4 x) (hz : z x = true) (hv : ∀ y, y ≠ x → v' y = v y) (hl : v' x < v x) : (q.2 x = 0 ∧ Nd 1 q (upd z x true) ∧ ∃ w1 : Int32, PS1 v' (upd z x true) (rs0 (bv v') q) w1) := by
  have zo := ps.2.2.2.2.2.1 x ix hz
  rw [← zo] at ps
  exact own_lo1_0 ps hv hl
theorem own_lo2 {v v' : Int32 → Int} {z : Int32 → Bool} {q : HP} {u1 u2 x : Int32} (ps : PS2 v z q u1 u2) (ix : In4 x) (hz : z x = true) (hv : ∀ y, y ≠ x → v' y = v y) (hl : v' x < v x) : (q.2 x = 0 ∧ Nd 1 q (upd z x true) ∧ ∃ w1 w2 : Int32, PS2 v' (upd z x true) (rs0 (bv v') q) w1 w2) ∨ (q.2 x = 1 ∧ Nd 2 q (upd z x true) ∧ ∃ w1 w2 : Int32, PS2 v' (upd z x true) (rs1 (bv v') q) w1 w2) := by
  have zo := ps.2.2.2.2.2.1 x ix hz
  rcases zo with r | r
  · rw [← r] at ps
    exact Or.inl (own_lo2_0 ps hv hl)
  · rw [← r] at ps
    exact Or.inr (own_lo2_1 ps hv hl)
theorem own_lo3 {v v' : Int32 → Int} {z : Int32 → Bool} {q : HP} {u1 u2 u3 x : Int32} (ps : PS3 v z q u1 u2 u3) (ix : In4 x) (hz : z x = true) (hv : ∀ y, y ≠ x → v' y = v y) (hl : v' x < v x) : (q.2 x = 0 ∧ Nd 1 q (upd z x true) ∧ ∃ w1 w2 w3 : Int32, PS3 v' (upd z x true) (rs0 (bv v') q) w1 w2 w3) ∨ (q.2 x = 1 ∧ Nd 2 q (upd z x true) ∧ ∃ w1 w2 w3 : Int32, PS3 v' (upd z x true) (rs1 (bv v') q) w1 w2 w3) ∨ (q.2 x = 2 ∧ Nd 3 q (upd z x true) ∧ ∃ w1 w2 w3 : Int32, PS3 v' (upd z x true) (rs2 (bv v') q) w1 w2 w3) := by
  have zo := ps.2.2.2.2.2.1 x ix hz
  rcases zo with r | r | r
  · rw [← r] at ps
    exact Or.inl (own_lo3_0 ps hv hl)
  · rw [← r] at ps
    exact Or.inr (Or.inl (own_lo3_1 ps hv hl))
  · rw [← r] at ps
    exact Or.inr (Or.inr (own_lo3_2 ps hv hl))
theorem own_lo4 {v v' : Int32 → Int} {z : Int32 → Bool} {q : HP} {u1 u2 u3 u4 x : Int32} (ps : PS4 v z q u1 u2 u3 u4) (ix : In4 x) (hz : z x = true) (hv : ∀ y, y ≠ x → v' y = v y) (hl : v' x < v x) : (q.2 x = 0 ∧ Nd 1 q (upd z x true) ∧ ∃ w1 w2 w3 w4 : Int32, PS4 v' (upd z x true) (rs0 (bv v') q) w1 w2 w3 w4) ∨ (q.2 x = 1 ∧ Nd 2 q (upd z x true) ∧ ∃ w1 w2 w3 w4 : Int32, PS4 v' (upd z x true) (rs1 (bv v') q) w1 w2 w3 w4) ∨ (q.2 x = 2 ∧ Nd 3 q (upd z x true) ∧ ∃ w1 w2 w3 w4 : Int32, PS4 v' (upd z x true) (rs2 (bv v') q) w1 w2 w3 w4) ∨ (q.2 x = 3 ∧ Nd 4 q (upd z x true) ∧ ∃ w1 w2 w3 w4 : Int32, PS4 v' (upd z x true) (rs3 (bv v') q) w1 w2 w3 w4) := by
  have zo := ps.2.2.2.2.2.1 x ix hz
  rcases zo with r | r | r | r
  · rw [← r] at ps
    exact Or.inl (own_lo4_0 ps hv hl)
  · rw [← r] at ps
    exact Or.inr (Or.inl (own_lo4_1 ps hv hl))
  · rw [← r] at ps
    exact Or.inr (Or.inr (Or.inl (own_lo4_2 ps hv hl)))
  · rw [← r] at ps
    exact Or.inr (Or.inr (Or.inr (own_lo4_3 ps hv hl)))
theorem own_po2 {v : Int32 → Int} {z : Int32 → Bool} {q : HP} {u1 u2 : Int32} (ps : PS2 v z q u1 u2) : ∃ w1 : Int32, PS1 v (upd z u1 false) (po2 (bv v) q) w1 := by
  obtain ⟨⟨i1, i2⟩, n12, ⟨h1, h2⟩, ⟨p1, p2⟩, ⟨z1, z2⟩, zo, ng, o12⟩ := ps
  have y1 : upd z u1 false u1 = false := upd_eq
  have y2 : upd z u1 false u2 = true := (upd_ne (Ne.symm n12)).trans z2
  have zo' : ∀ y, In4 y → upd z u1 false y = true → y = u2 := by
    intro y iy hy
    by_cases e : y = u1
    · rw [e, y1] at hy; cases hy
    · rw [upd_ne e] at hy
      rcases zo y iy hy with r | r
      · exact absurd r e
      · exact r
  have ng' : ∀ y, In4 y → upd z u1 false y = false → upd q.2 u1 (-1) y = -1 ∧ y ≠ u2 := by
    intro y iy hy
    have ku2 : y ≠ u2 := fun e => by rw [e, y2] at hy; cases hy
    by_cases e : y = u1
    · exact ⟨by rw [e]; exact upd_eq, ku2⟩
    · rw [upd_ne e] at hy
      exact ⟨(upd_ne e).trans (ng y iy hy), ku2⟩
  unfold po2
  rw [ps2_eq h1 h2]
  have g0 : (pl (q.1, upd q.2 u1 (-1)) u2 0).1 0 = u2 := pl_h
  have S := sk1_spec (bt := bv v) g0
  refine ⟨u2, ?_⟩
  rw [S]
  refine ⟨i2, trivial, pl_h, pl_p, y2, fun y iy hy => ?_, fun y iy hy => ?_, ?_⟩
  · exact zo' y iy hy
  · obtain ⟨kq, ku2⟩ := ng' y iy hy
    exact (Eq.trans (pl_p' ku2) (Eq.trans (pl_p' ku2) kq))
  · exact trivial
theorem own_po3 {v : Int32 → Int} {z : Int32 → Bool} {q : HP} {u1 u2 u3 : Int32} (ps : PS3 v z q u1 u2 u3) : ∃ w1 w2 : Int32, PS2 v (upd z u1 false) (po3 (bv v) q) w1 w2 := by
  obtain ⟨⟨i1, i2, i3⟩, ⟨n12, n13, n23⟩, ⟨h1, h2, h3⟩, ⟨p1, p2, p3⟩, ⟨z1, z2, z3⟩, zo, ng, ⟨o12, o13⟩⟩ := ps
  have y1 : upd z u1 false u1 = false := upd_eq
  have y2 : upd z u1 false u2 = true := (upd_ne (Ne.symm n12)).trans z2
  have y3 : upd z u1 false u3 = true := (upd_ne (Ne.symm n13)).trans z3
  have zo' : ∀ y, In4 y → upd z u1 false y = true → y = u2 ∨ y = u3 := by
    intro y iy hy
    by_cases e : y = u1
    · rw [e, y1] at hy; cases hy
    · rw [upd_ne e] at hy
      rcases zo y iy hy with r | r | r
      · exact absurd r e
      · exact Or.inl r
      · exact Or.inr r
  have ng' : ∀ y, In4 y → upd z u1 false y = false → upd q.2 u1 (-1) y = -1 ∧ y ≠ u2 ∧ y ≠ u3 := by
    intro y iy hy
    have ku2 : y ≠ u2 := fun e => by rw [e, y2] at hy; cases hy
    have ku3 : y ≠ u3 := fun e => by rw [e, y3] at hy; cases hy
    by_cases e : y = u1
    · exact ⟨by rw [e]; exact upd_eq, ku2, ku3⟩
    · rw [upd_ne e] at hy
      exact ⟨(upd_ne e).trans (ng y iy hy), ku2, ku3⟩
  unfold po3
  rw [ps3_eq h1 h3]
  have g0 : (pl (q.1, upd q.2 u1 (-1)) u3 0).1 0 = u3 := pl_h
  have g1 : (pl (q.1, upd q.2 u1 (-1)) u3 0).1 1 = u2 := (Eq.trans (pl_h' (by decide)) h2)
  have S := sk2_spec (bt := bv v) g0 g1
  by_cases c1 : v u2 < v u3
  · refine ⟨u2, u3, ?_⟩
    rw [S.1 (bvt c1)]
    refine ⟨⟨i2, i3⟩, n23, ⟨(Eq.trans (pl_h' (by decide)) pl_h), pl_h⟩, ⟨(Eq.trans (pl_p' n23) pl_p), pl_p⟩, ⟨y2, y3⟩, fun y iy hy => ?_, fun y iy hy => ?_, ?_⟩
    · rcases zo' y iy hy with r | r
      · exact Or.inl r
      · exact Or.inr r
    · obtain ⟨kq, ku2, ku3⟩ := ng' y iy hy
      exact (Eq.trans (pl_p' ku3) (Eq.trans (pl_p' ku2) (Eq.trans (pl_p' ku3) kq)))
    · exact by omega
  · refine ⟨u3, u2, ?_⟩
    rw [S.2 (bvf c1)]
    refine ⟨⟨i3, i2⟩, (Ne.symm n23), ⟨pl_h, (Eq.trans (pl_h' (by decide)) (Eq.trans (pl_h' (by decide)) h2))⟩, ⟨pl_p, (Eq.trans (pl_p' n23) (Eq.trans (pl_p' n23) ((upd_ne (Ne.symm n12)).trans p2)))⟩, ⟨y3, y2⟩, fun y iy hy => ?_, fun y iy hy => ?_, ?_⟩
    · rcases zo' y iy hy with r | r
      · exact Or.inr r
      · exact Or.inl r
    · obtain ⟨kq, ku2, ku3⟩ := ng' y iy hy
      exact (Eq.trans (pl_p' ku3) (Eq.trans (pl_p' ku3) kq))
    · exact by omega
theorem own_po4 {v : Int32 → Int} {z : Int32 → Bool} {q : HP} {u1 u2 u3 u4 : Int32} (ps : PS4 v z q u1 u2 u3 u4) : ∃ w1 w2 w3 : Int32, PS3 v (upd z u1 false) (po4 (bv v) q) w1 w2 w3 := by
  obtain ⟨⟨i1, i2, i3, i4⟩, ⟨n12, n13, n14, n23, n24, n34⟩, ⟨h1, h2, h3, h4⟩, ⟨p1, p2, p3, p4⟩, ⟨z1, z2, z3, z4⟩, zo, ng, ⟨o12, o13, o24⟩⟩ := ps
  have y1 : upd z u1 false u1 = false := upd_eq
  have y2 : upd z u1 false u2 = true := (upd_ne (Ne.symm n12)).trans z2
  have y3 : upd z u1 false u3 = true := (upd_ne (Ne.symm n13)).trans z3
  have y4 : upd z u1 false u4 = true := (upd_ne (Ne.symm n14)).trans z4
  have zo' : ∀ y, In4 y → upd z u1 false y = true → y = u2 ∨ y = u3 ∨ y = u4 := by
    intro y iy hy
    by_cases e : y = u1
    · rw [e, y1] at hy; cases hy
    · rw [upd_ne e] at hy
      rcases zo y iy hy with r | r | r | r
      · exact absurd r e
      · exact Or.inl r
      · exact Or.inr (Or.inl r)
      · exact Or.inr (Or.inr r)
  have ng' : ∀ y, In4 y → upd z u1 false y = false → upd q.2 u1 (-1) y = -1 ∧ y ≠ u2 ∧ y ≠ u3 ∧ y ≠ u4 := by
    intro y iy hy
    have ku2 : y ≠ u2 := fun e => by rw [e, y2] at hy; cases hy
    have ku3 : y ≠ u3 := fun e => by rw [e, y3] at hy; cases hy
    have ku4 : y ≠ u4 := fun e => by rw [e, y4] at hy; cases hy
    by_cases e : y = u1
    · exact ⟨by rw [e]; exact upd_eq, ku2, ku3, ku4⟩
    · rw [upd_ne e] at hy
      exact ⟨(upd_ne e).trans (ng y iy hy), ku2, ku3, ku4⟩
  unfold po4
  rw [ps4_eq h1 h4]
  have g0 : (pl (q.1, upd q.2 u1 (-1)) u4 0).1 0 = u4 := pl_h
  have g1 : (pl (q.1, upd q.2 u1 (-1)) u4 0).1 1 = u2 := (Eq.trans (pl_h' (by decide)) h2)
  have g2 : (pl (q.1, upd q.2 u1 (-1)) u4 0).1 2 = u3 := (Eq.trans (pl_h' (by decide)) h3)
  have S := sk3_spec (bt := bv v) g0 g1 g2
  by_cases c1 : v u3 < v u2
  · by_cases c2 : v u3 < v u4
    · refine ⟨u3, u2, u4, ?_⟩
      rw [S.1 (bvt c1) (bvt c2)]
      refine ⟨⟨i3, i2, i4⟩, ⟨(Ne.symm n23), n34, n24⟩, ⟨(Eq.trans (pl_h' (by decide)) pl_h), (Eq.trans (pl_h' (by decide)) (Eq.trans (pl_h' (by decide)) (Eq.trans (pl_h' (by decide)) h2))), pl_h⟩, ⟨(Eq.trans (pl_p' n34) pl_p), (Eq.trans (pl_p' n24) (Eq.trans (pl_p' n23) (Eq.trans (pl_p' n24) ((upd_ne (Ne.symm n12)).trans p2)))), pl_p⟩, ⟨y3, y2, y4⟩, fun y iy hy => ?_, fun y iy hy => ?_, ?_⟩
      · rcases zo' y iy hy with r | r | r
        · exact Or.inr (Or.inl r)
        · exact Or.inl r
        · exact Or.inr (Or.inr r)
      · obtain ⟨kq, ku2, ku3, ku4⟩ := ng' y iy hy
        exact (Eq.trans (pl_p' ku4) (Eq.trans (pl_p' ku3) (Eq.trans (pl_p' ku4) kq)))
      · exact ⟨by omega, by omega⟩
    · refine ⟨u4, u2, u3, ?_⟩
      rw [S.2.1 (bvt c1) (bvf c2)]
      refine ⟨⟨i4, i2, i3⟩, ⟨(Ne.symm n24), (Ne.symm n34), n23⟩, ⟨pl_h, (Eq.trans (pl_h' (by decide)) (Eq.trans (pl_h' (by decide)) h2)), (Eq.trans (pl_h' (by decide)) (Eq.trans (pl_h' (by decide)) h3))⟩, ⟨pl_p, (Eq.trans (pl_p' n24) (Eq.trans (pl_p' n24) ((upd_ne (Ne.symm n12)).trans p2))), (Eq.trans (pl_p' n34) (Eq.trans (pl_p' n34) ((upd_ne (Ne.symm n13)).trans p3)))⟩, ⟨y4, y2, y3⟩, fun y iy hy => ?_, fun y iy hy => ?_, ?_⟩
      · rcases zo' y iy hy with r | r | r
        · exact Or.inr (Or.inl r)
        · exact Or.inr (Or.inr r)
        · exact Or.inl r
      · obtain ⟨kq, ku2, ku3, ku4⟩ := ng' y iy hy
        exact (Eq.trans (pl_p' ku4) (Eq.trans (pl_p' ku4) kq))
      · exact ⟨by omega, by omega⟩
  · by_cases c2 : v u2 < v u4
    · refine ⟨u2, u4, u3, ?_⟩
      rw [S.2.2.1 (bvf c1) (bvt c2)]
      refine ⟨⟨i2, i4, i3⟩, ⟨n24, n23, (Ne.symm n34)⟩, ⟨(Eq.trans (pl_h' (by decide)) pl_h), pl_h, (Eq.trans (pl_h' (by decide)) (Eq.trans (pl_h' (by decide)) (Eq.trans (pl_h' (by decide)) h3)))⟩, ⟨(Eq.trans (pl_p' n24) pl_p), pl_p, (Eq.trans (pl_p' n34) (Eq.trans (pl_p' (Ne.symm n23)) (Eq.trans (pl_p' n34) ((upd_ne (Ne.symm n13)).trans p3))))⟩, ⟨y2, y4, y3⟩, fun y iy hy => ?_, fun y iy hy => ?_, ?_⟩
      · rcases zo' y iy hy with r | r | r
        · exact Or.inl r
        · exact Or.inr (Or.inr r)
        · exact Or.inr (Or.inl r)
      · obtain ⟨kq, ku2, ku3, ku4⟩ := ng' y iy hy
        exact (Eq.trans (pl_p' ku4) (Eq.trans (pl_p' ku2) (Eq.trans (pl_p' ku4) kq)))
      · exact ⟨by omega, by omega⟩
    · refine ⟨u4, u2, u3, ?_⟩
      rw [S.2.2.2 (bvf c1) (bvf c2)]
      refine ⟨⟨i4, i2, i3⟩, ⟨(Ne.symm n24), (Ne.symm n34), n23⟩, ⟨pl_h, (Eq.trans (pl_h' (by decide)) (Eq.trans (pl_h' (by decide)) h2)), (Eq.trans (pl_h' (by decide)) (Eq.trans (pl_h' (by decide)) h3))⟩, ⟨pl_p, (Eq.trans (pl_p' n24) (Eq.trans (pl_p' n24) ((upd_ne (Ne.symm n12)).trans p2))), (Eq.trans (pl_p' n34) (Eq.trans (pl_p' n34) ((upd_ne (Ne.symm n13)).trans p3)))⟩, ⟨y4, y2, y3⟩, fun y iy hy => ?_, fun y iy hy => ?_, ?_⟩
      · rcases zo' y iy hy with r | r | r
        · exact Or.inr (Or.inl r)
        · exact Or.inr (Or.inr r)
        · exact Or.inl r
      · obtain ⟨kq, ku2, ku3, ku4⟩ := ng' y iy hy
        exact (Eq.trans (pl_p' ku4) (Eq.trans (pl_p' ku4) kq))
      · exact ⟨by omega, by omega⟩
theorem own_nd1 {v : Int32 → Int} {z : Int32 → Bool} {q : HP} {u1 : Int32} (ps : PS1 v z q u1) : Nd 1 q z := by
  obtain ⟨i1, -, h1, p1, z1, zo, ng, -⟩ := ps
  exact nd1 h1 i1 z1
theorem own_hd1 {v : Int32 → Int} {z : Int32 → Bool} {q : HP} {u1 : Int32} (ps : PS1 v z q u1) : q.1 0 = u1 ∧ In4 u1 := by
  obtain ⟨i1, -, h1, p1, z1, zo, ng, -⟩ := ps
  exact ⟨h1, i1⟩
theorem own_cz1 {v : Int32 → Int} {z : Int32 → Bool} {q : HP} {u1 : Int32} (ps : PS1 v z q u1) {zc : Int32 → Bool} (h : ∀ y, In4 y → zc y = z y) : PS1 v zc q u1 := by
  obtain ⟨i1, -, h1, p1, z1, zo, ng, -⟩ := ps
  exact ⟨i1, trivial, h1, p1, (h _ i1).trans z1, fun y iy hy => zo y iy ((h y iy).symm.trans hy), fun y iy hy => ng y iy ((h y iy).symm.trans hy), trivial⟩
theorem own_mn1 {v : Int32 → Int} {z : Int32 → Bool} {q : HP} {u1 : Int32} (ps : PS1 v z q u1) (hi : ∀ x y, In4 x → In4 y → x ≠ y → v x ≠ v y) {bt : Int32 → Int32 → Bool} (hbt : ∀ x y, In4 x → In4 y → bt x y = bv v x y) : isMn z bt u1 = true := by
  obtain ⟨i1, -, h1, p1, z1, zo, ng, -⟩ := ps
  refine isMn_of z1 (fun y iy hy ne => ?_)
  rw [hbt _ _ i1 iy]
  refine bvt ?_
  exact absurd (zo y iy hy) ne
theorem own_ct1 {v : Int32 → Int} {z : Int32 → Bool} {q : HP} {u1 : Int32} (ps : PS1 v z q u1) : cnt z = 1 := by
  obtain ⟨i1, -, h1, p1, z1, zo, ng, -⟩ := ps
  have f : ∀ y, In4 y → z y = decide (y = u1) := by
    intro y iy
    by_cases g : y = u1
    · rw [decide_eq_true g]
      rw [g]; exact z1
    · rw [decide_eq_false g]
      exact eq_false_of_ne_true fun e => g (zo y iy e)
  unfold cnt
  rw [f 0 in4_0, f 1 in4_1, f 2 in4_2, f 3 in4_3]
  clear f zo ng h1 p1 z1
  rcases i1 with rfl | rfl | rfl | rfl <;> first | decide
theorem own_nd2 {v : Int32 → Int} {z : Int32 → Bool} {q : HP} {u1 u2 : Int32} (ps : PS2 v z q u1 u2) : Nd 2 q z := by
  obtain ⟨⟨i1, i2⟩, n12, ⟨h1, h2⟩, ⟨p1, p2⟩, ⟨z1, z2⟩, zo, ng, o12⟩ := ps
  exact nd2 h1 h2 i1 i2 z1 z2
theorem own_hd2 {v : Int32 → Int} {z : Int32 → Bool} {q : HP} {u1 u2 : Int32} (ps : PS2 v z q u1 u2) : q.1 0 = u1 ∧ In4 u1 := by
  obtain ⟨⟨i1, i2⟩, n12, ⟨h1, h2⟩, ⟨p1, p2⟩, ⟨z1, z2⟩, zo, ng, o12⟩ := ps
  exact ⟨h1, i1⟩
theorem own_cz2 {v : Int32 → Int} {z : Int32 → Bool} {q : HP} {u1 u2 : Int32} (ps : PS2 v z q u1 u2) {zc : Int32 → Bool} (h : ∀ y, In4 y → zc y = z y) : PS2 v zc q u1 u2 := by
  obtain ⟨⟨i1, i2⟩, n12, ⟨h1, h2⟩, ⟨p1, p2⟩, ⟨z1, z2⟩, zo, ng, o12⟩ := ps
  exact ⟨⟨i1, i2⟩, n12, ⟨h1, h2⟩, ⟨p1, p2⟩, ⟨(h _ i1).trans z1, (h _ i2).trans z2⟩, fun y iy hy => zo y iy ((h y iy).symm.trans hy), fun y iy hy => ng y iy ((h y iy).symm.trans hy), o12⟩
theorem own_mn2 {v : Int32 → Int} {z : Int32 → Bool} {q : HP} {u1 u2 : Int32} (ps : PS2 v z q u1 u2) (hi : ∀ x y, In4 x → In4 y → x ≠ y → v x ≠ v y) {bt : Int32 → Int32 → Bool} (hbt : ∀ x y, In4 x → In4 y → bt x y = bv v x y) : isMn z bt u1 = true := by
  obtain ⟨⟨i1, i2⟩, n12, ⟨h1, h2⟩, ⟨p1, p2⟩, ⟨z1, z2⟩, zo, ng, o12⟩ := ps
  refine isMn_of z1 (fun y iy hy ne => ?_)
  rw [hbt _ _ i1 iy]
  refine bvt ?_
  rcases zo y iy hy with r | r
  · exact absurd r ne
  · have t := hi _ _ i1 i2 n12
    rw [r]
    omega
theorem own_ct2 {v : Int32 → Int} {z : Int32 → Bool} {q : HP} {u1 u2 : Int32} (ps : PS2 v z q u1 u2) : cnt z = 2 := by
  obtain ⟨⟨i1, i2⟩, n12, ⟨h1, h2⟩, ⟨p1, p2⟩, ⟨z1, z2⟩, zo, ng, o12⟩ := ps
  have f : ∀ y, In4 y → z y = decide (y = u1 ∨ y = u2) := by
    intro y iy
    by_cases g : y = u1 ∨ y = u2
    · rw [decide_eq_true g]
      rcases g with r | r
      · rw [r]; exact z1
      · rw [r]; exact z2
    · rw [decide_eq_false g]
      exact eq_false_of_ne_true fun e => g (zo y iy e)
  unfold cnt
  rw [f 0 in4_0, f 1 in4_1, f 2 in4_2, f 3 in4_3]
  clear f zo ng h1 p1 z1 h2 p2 z2 o12
  rcases i1 with rfl | rfl | rfl | rfl <;> rcases i2 with rfl | rfl | rfl | rfl <;> first | decide | exact absurd rfl n12
theorem own_nd3 {v : Int32 → Int} {z : Int32 → Bool} {q : HP} {u1 u2 u3 : Int32} (ps : PS3 v z q u1 u2 u3) : Nd 3 q z := by
  obtain ⟨⟨i1, i2, i3⟩, ⟨n12, n13, n23⟩, ⟨h1, h2, h3⟩, ⟨p1, p2, p3⟩, ⟨z1, z2, z3⟩, zo, ng, ⟨o12, o13⟩⟩ := ps
  exact nd3 h1 h2 h3 i1 i2 i3 z1 z2 z3
theorem own_hd3 {v : Int32 → Int} {z : Int32 → Bool} {q : HP} {u1 u2 u3 : Int32} (ps : PS3 v z q u1 u2 u3) : q.1 0 = u1 ∧ In4 u1 := by
  obtain ⟨⟨i1, i2, i3⟩, ⟨n12, n13, n23⟩, ⟨h1, h2, h3⟩, ⟨p1, p2, p3⟩, ⟨z1, z2, z3⟩, zo, ng, ⟨o12, o13⟩⟩ := ps
  exact ⟨h1, i1⟩
theorem own_cz3 {v : Int32 → Int} {z : Int32 → Bool} {q : HP} {u1 u2 u3 : Int32} (ps : PS3 v z q u1 u2 u3) {zc : Int32 → Bool} (h : ∀ y, In4 y → zc y = z y) : PS3 v zc q u1 u2 u3 := by
  obtain ⟨⟨i1, i2, i3⟩, ⟨n12, n13, n23⟩, ⟨h1, h2, h3⟩, ⟨p1, p2, p3⟩, ⟨z1, z2, z3⟩, zo, ng, ⟨o12, o13⟩⟩ := ps
  exact ⟨⟨i1, i2, i3⟩, ⟨n12, n13, n23⟩, ⟨h1, h2, h3⟩, ⟨p1, p2, p3⟩, ⟨(h _ i1).trans z1, (h _ i2).trans z2, (h _ i3).trans z3⟩, fun y iy hy => zo y iy ((h y iy).symm.trans hy), fun y iy hy => ng y iy ((h y iy).symm.trans hy), ⟨o12, o13⟩⟩
theorem own_mn3 {v : Int32 → Int} {z : Int32 → Bool} {q : HP} {u1 u2 u3 : Int32} (ps : PS3 v z q u1 u2 u3) (hi : ∀ x y, In4 x → In4 y → x ≠ y → v x ≠ v y) {bt : Int32 → Int32 → Bool} (hbt : ∀ x y, In4 x → In4 y → bt x y = bv v x y) : isMn z bt u1 = true := by
  obtain ⟨⟨i1, i2, i3⟩, ⟨n12, n13, n23⟩, ⟨h1, h2, h3⟩, ⟨p1, p2, p3⟩, ⟨z1, z2, z3⟩, zo, ng, ⟨o12, o13⟩⟩ := ps
  refine isMn_of z1 (fun y iy hy ne => ?_)
  rw [hbt _ _ i1 iy]
  refine bvt ?_
  rcases zo y iy hy with r | r | r
  · exact absurd r ne
  · have t := hi _ _ i1 i2 n12
    rw [r]
    omega
  · have t := hi _ _ i1 i3 n13
    rw [r]
    omega
theorem own_ct3 {v : Int32 → Int} {z : Int32 → Bool} {q : HP} {u1 u2 u3 : Int32} (ps : PS3 v z q u1 u2 u3) : cnt z = 3 := by
  obtain ⟨⟨i1, i2, i3⟩, ⟨n12, n13, n23⟩, ⟨h1, h2, h3⟩, ⟨p1, p2, p3⟩, ⟨z1, z2, z3⟩, zo, ng, ⟨o12, o13⟩⟩ := ps
  have f : ∀ y, In4 y → z y = decide (y = u1 ∨ y = u2 ∨ y = u3) := by
    intro y iy
    by_cases g : y = u1 ∨ y = u2 ∨ y = u3
    · rw [decide_eq_true g]
      rcases g with r | r | r
      · rw [r]; exact z1
      · rw [r]; exact z2
      · rw [r]; exact z3
    · rw [decide_eq_false g]
      exact eq_false_of_ne_true fun e => g (zo y iy e)
  unfold cnt
  rw [f 0 in4_0, f 1 in4_1, f 2 in4_2, f 3 in4_3]
  clear f zo ng h1 p1 z1 h2 p2 z2 h3 p3 z3 o12 o13
  rcases i1 with rfl | rfl | rfl | rfl <;> rcases i2 with rfl | rfl | rfl | rfl <;> rcases i3 with rfl | rfl | rfl | rfl <;> first | decide | exact absurd rfl n12 | exact absurd rfl n13 | exact absurd rfl n23
theorem own_nd4 {v : Int32 → Int} {z : Int32 → Bool} {q : HP} {u1 u2 u3 u4 : Int32} (ps : PS4 v z q u1 u2 u3 u4) : Nd 4 q z := by
  obtain ⟨⟨i1, i2, i3, i4⟩, ⟨n12, n13, n14, n23, n24, n34⟩, ⟨h1, h2, h3, h4⟩, ⟨p1, p2, p3, p4⟩, ⟨z1, z2, z3, z4⟩, zo, ng, ⟨o12, o13, o24⟩⟩ := ps
  exact nd4 h1 h2 h3 h4 i1 i2 i3 i4 z1 z2 z3 z4
theorem own_hd4 {v : Int32 → Int} {z : Int32 → Bool} {q : HP} {u1 u2 u3 u4 : Int32} (ps : PS4 v z q u1 u2 u3 u4) : q.1 0 = u1 ∧ In4 u1 := by
  obtain ⟨⟨i1, i2, i3, i4⟩, ⟨n12, n13, n14, n23, n24, n34⟩, ⟨h1, h2, h3, h4⟩, ⟨p1, p2, p3, p4⟩, ⟨z1, z2, z3, z4⟩, zo, ng, ⟨o12, o13, o24⟩⟩ := ps
  exact ⟨h1, i1⟩
theorem own_cz4 {v : Int32 → Int} {z : Int32 → Bool} {q : HP} {u1 u2 u3 u4 : Int32} (ps : PS4 v z q u1 u2 u3 u4) {zc : Int32 → Bool} (h : ∀ y, In4 y → zc y = z y) : PS4 v zc q u1 u2 u3 u4 := by
  obtain ⟨⟨i1, i2, i3, i4⟩, ⟨n12, n13, n14, n23, n24, n34⟩, ⟨h1, h2, h3, h4⟩, ⟨p1, p2, p3, p4⟩, ⟨z1, z2, z3, z4⟩, zo, ng, ⟨o12, o13, o24⟩⟩ := ps
  exact ⟨⟨i1, i2, i3, i4⟩, ⟨n12, n13, n14, n23, n24, n34⟩, ⟨h1, h2, h3, h4⟩, ⟨p1, p2, p3, p4⟩, ⟨(h _ i1).trans z1, (h _ i2).trans z2, (h _ i3).trans z3, (h _ i4).trans z4⟩, fun y iy hy => zo y iy ((h y iy).symm.trans hy), fun y iy hy => ng y iy ((h y iy).symm.trans hy), ⟨o12, o13, o24⟩⟩
theorem own_mn4 {v : Int32 → Int} {z : Int32 → Bool} {q : HP} {u1 u2 u3 u4 : Int32} (ps : PS4 v z q u1 u2 u3 u4) (hi : ∀ x y, In4 x → In4 y → x ≠ y → v x ≠ v y) {bt : Int32 → Int32 → Bool} (hbt : ∀ x y, In4 x → In4 y → bt x y = bv v x y) : isMn z bt u1 = true := by
  obtain ⟨⟨i1, i2, i3, i4⟩, ⟨n12, n13, n14, n23, n24, n34⟩, ⟨h1, h2, h3, h4⟩, ⟨p1, p2, p3, p4⟩, ⟨z1, z2, z3, z4⟩, zo, ng, ⟨o12, o13, o24⟩⟩ := ps
  refine isMn_of z1 (fun y iy hy ne => ?_)
  rw [hbt _ _ i1 iy]
  refine bvt ?_
  rcases zo y iy hy with r | r | r | r
  · exact absurd r ne
  · have t := hi _ _ i1 i2 n12
    rw [r]
    omega
  · have t := hi _ _ i1 i3 n13
    rw [r]
    omega
  · have t := hi _ _ i1 i4 n14
    rw [r]
    omega
theorem own_ct4 {v : Int32 → Int} {z : Int32 → Bool} {q : HP} {u1 u2 u3 u4 : Int32} (ps : PS4 v z q u1 u2 u3 u4) : cnt z = 4 := by
  obtain ⟨⟨i1, i2, i3, i4⟩, ⟨n12, n13, n14, n23, n24, n34⟩, ⟨h1, h2, h3, h4⟩, ⟨p1, p2, p3, p4⟩, ⟨z1, z2, z3, z4⟩, zo, ng, ⟨o12, o13, o24⟩⟩ := ps
  have f : ∀ y, In4 y → z y = decide (y = u1 ∨ y = u2 ∨ y = u3 ∨ y = u4) := by
    intro y iy
    by_cases g : y = u1 ∨ y = u2 ∨ y = u3 ∨ y = u4
    · rw [decide_eq_true g]
      rcases g with r | r | r | r
      · rw [r]; exact z1
      · rw [r]; exact z2
      · rw [r]; exact z3
      · rw [r]; exact z4
    · rw [decide_eq_false g]
      exact eq_false_of_ne_true fun e => g (zo y iy e)
  unfold cnt
  rw [f 0 in4_0, f 1 in4_1, f 2 in4_2, f 3 in4_3]
  clear f zo ng h1 p1 z1 h2 p2 z2 h3 p3 z3 h4 p4 z4 o12 o13 o24
  rcases i1 with rfl | rfl | rfl | rfl <;> rcases i2 with rfl | rfl | rfl | rfl <;> rcases i3 with rfl | rfl | rfl | rfl <;> rcases i4 with rfl | rfl | rfl | rfl <;> first | decide | exact absurd rfl n12 | exact absurd rfl n13 | exact absurd rfl n14 | exact absurd rfl n23 | exact absurd rfl n24 | exact absurd rfl n34
theorem own_ct0 {z : Int32 → Bool} {q : HP} (ps : PS0 z q) : cnt z = 0 := by
  unfold cnt
  rw [ps.1 0 in4_0, ps.1 1 in4_1, ps.1 2 in4_2, ps.1 3 in4_3]
  decide
def vl (B : Int32 → Int32) (y : Int32) : Int := 4 * (B y).toInt + y.toInt
theorem in4_b {x : Int32} (h : In4 x) : 0 ≤ x.toInt ∧ x.toInt ≤ 3 := by rcases h with rfl | rfl | rfl | rfl <;> decide
theorem vl_inj {B : Int32 → Int32} (x y : Int32) (ix : In4 x) (iy : In4 y) (h : x ≠ y) : vl B x ≠ vl B y := by
  have b1 := in4_b ix
  have b2 := in4_b iy
  intro e
  unfold vl at e
  exact h (Int32.toInt_inj.mp (by omega))
theorem vl_ne {B : Int32 → Int32} {x k : Int32} (y : Int32) (h : y ≠ x) : vl (upd B x k) y = vl B y := by unfold vl; rw [upd_ne h]
theorem vl_lt {B : Int32 → Int32} {x k : Int32} (h : k < B x) : vl (upd B x k) x < vl B x := by
  have := Int32.lt_iff_toInt_lt.mp h
  unfold vl
  rw [upd_eq]
  omega
def bi (B : Int32 → Int32) (x y : Int32) : Bool := decide (B x < B y ∨ (B x = B y ∧ x < y))
theorem bi_bv {B : Int32 → Int32} (x y : Int32) (ix : In4 x) (iy : In4 y) : bi B x y = bv (vl B) x y := by
  have b1 := in4_b ix
  have b2 := in4_b iy
  unfold bi bv vl
  by_cases h : B x < B y ∨ (B x = B y ∧ x < y)
  · rw [decide_eq_true h]
    symm
    apply decide_eq_true
    rcases h with h | ⟨h, g⟩
    · have := Int32.lt_iff_toInt_lt.mp h
      omega
    · have := Int32.lt_iff_toInt_lt.mp g
      rw [h]
      omega
  · rw [decide_eq_false h]
    symm
    apply decide_eq_false
    intro g
    apply h
    by_cases e : B x < B y
    · exact Or.inl e
    · have e1 : ¬ (B x).toInt < (B y).toInt := fun t => e (Int32.lt_iff_toInt_lt.mpr t)
      have e2 : (B x).toInt = (B y).toInt := by omega
      exact Or.inr ⟨Int32.toInt_inj.mp e2, Int32.lt_iff_toInt_lt.mpr (by omega)⟩
theorem own_Bf {K : Int32 → UInt64} {B : Int32 → Int32} {x y : Int32} (ix : In4 x) (iy : In4 y) (hx : DV (K x) ((B x).toInt : Rat)) (hy : DV (K y) ((B y).toInt : Rat)) : Bf K (bv (vl B)) x y := by
  have b1 := in4_b ix
  have b2 := in4_b iy
  rcases Int.lt_trichotomy (B x).toInt (B y).toInt with h | h | h
  · have t : vl B x < vl B y := by unfold vl; omega
    exact ⟨fun _ => Or.inl ⟨dcmp_lt hx hy (Rat.intCast_lt_intCast.mpr h), rfl⟩, fun g => absurd (bvt t) g⟩
  · by_cases g : x < y
    · have t : vl B x < vl B y := by
        have := Int32.lt_iff_toInt_lt.mp g
        unfold vl
        omega
      exact ⟨fun _ => Or.inr (Or.inl ⟨dcmp_eq hx hy (by rw [h]), g, rfl⟩), fun e => absurd (bvt t) e⟩
    · have t : ¬ vl B x < vl B y := by
        have g1 : ¬ x.toInt < y.toInt := fun t => g (Int32.lt_iff_toInt_lt.mpr t)
        unfold vl
        omega
      exact ⟨fun e => absurd e (bvf t), fun _ => Or.inr (Or.inr (Or.inl ⟨dcmp_eq hx hy (by rw [h]), g, rfl⟩))⟩
  · have t : ¬ vl B x < vl B y := by unfold vl; omega
    exact ⟨fun e => absurd e (bvf t), fun _ => Or.inr (Or.inr (Or.inr ⟨dcmp_gt hx hy (Rat.intCast_lt_intCast.mpr h), rfl⟩))⟩
def KD (K : Int32 → UInt64) (z : Int32 → Bool) (B : Int32 → Int32) : Prop := ∀ y, In4 y → z y = true → DV (K y) ((B y).toInt : Rat)
theorem own_HBv {n : Nat} {q : HP} {K : Int32 → UInt64} {z : Int32 → Bool} {B : Int32 → Int32} (nd : Nd n q z) (kd : KD K z B) : HB n K (bv (vl B)) q := fun i j hi hj => own_Bf (nd i hi).1 (nd j hj).1 (kd _ (nd i hi).1 (nd i hi).2) (kd _ (nd j hj).1 (nd j hj).2)
theorem kd_upd {K : Int32 → UInt64} {z : Int32 → Bool} {B : Int32 → Int32} {x kx : Int32} {kk : UInt64} (kd : KD K z B) (hk : DV kk (kx.toInt : Rat)) : KD (upd K x kk) (upd z x true) (upd B x kx) := by
  intro y iy hy
  by_cases e : y = x
  · rw [e, upd_eq, upd_eq]
    exact hk
  · rw [upd_ne e] at hy
    rw [upd_ne e, upd_ne e]
    exact kd y iy hy
theorem kd_del {K : Int32 → UInt64} {z : Int32 → Bool} {B : Int32 → Int32} {x : Int32} (kd : KD K z B) : KD K (upd z x false) B := by
  intro y iy hy
  by_cases e : y = x
  · rw [e, upd_eq] at hy
    cases hy
  · rw [upd_ne e] at hy
    exact kd y iy hy
theorem kd_cz {K : Int32 → UInt64} {z zc : Int32 → Bool} {B : Int32 → Int32} (kd : KD K z B) (h : ∀ y, In4 y → zc y = z y) : KD K zc B := fun y iy hy => kd y iy ((h y iy).symm.trans hy)
def St (mm : Nat) (sz : Int32) (z : Int32 → Bool) (B : Int32 → Int32) (q : HP) (K : Int32 → UInt64) : Prop := KD K z B ∧ ((sz = 0 ∧ PS0 z q) ∨ (sz = 1 ∧ 1 ≤ mm ∧ ∃ u1, PS1 (vl B) z q u1) ∨ (sz = 2 ∧ 2 ≤ mm ∧ ∃ u1 u2, PS2 (vl B) z q u1 u2) ∨ (sz = 3 ∧ 3 ≤ mm ∧ ∃ u1 u2 u3, PS3 (vl B) z q u1 u2 u3) ∨ (sz = 4 ∧ 4 ≤ mm ∧ ∃ u1 u2 u3 u4, PS4 (vl B) z q u1 u2 u3 u4))
theorem own_St0 : St 0 0 (fun _ => false) (fun _ => 0) zq zk := ⟨fun _ _ h => absurd (show false = true from h) Bool.false_ne_true, Or.inl ⟨rfl, fun _ _ => rfl, fun _ _ _ => rfl⟩⟩
def ntZ (z : Int32 → Bool) (B : Int32 → Int32) (x k : Int32) : Int32 → Bool := if z x = false ∨ k < B x then upd z x true else z
def ntB (z : Int32 → Bool) (B : Int32 → Int32) (x k : Int32) : Int32 → Int32 := if z x = false ∨ k < B x then upd B x k else B
theorem own_ntZ1 {z : Int32 → Bool} {B : Int32 → Int32} {x k : Int32} (h : z x = false ∨ k < B x) : ntZ z B x k = upd z x true := if_pos h
theorem own_ntB1 {z : Int32 → Bool} {B : Int32 → Int32} {x k : Int32} (h : z x = false ∨ k < B x) : ntB z B x k = upd B x k := if_pos h
theorem own_ntZ0 {z : Int32 → Bool} {B : Int32 → Int32} {x k : Int32} (h : z x = true) (g : ¬ k < B x) : ntZ z B x k = z := if_neg fun e => e.elim (fun a => by rw [h] at a; cases a) g
theorem own_ntB0 {z : Int32 → Bool} {B : Int32 → Int32} {x k : Int32} (h : z x = true) (g : ¬ k < B x) : ntB z B x k = B := if_neg fun e => e.elim (fun a => by rw [h] at a; cases a) g
theorem own_nt3 (z : Int32 → Bool) (B : Int32 → Int32) (x k : Int32) : z x = false ∨ (z x = true ∧ k < B x) ∨ (z x = true ∧ ¬ k < B x) := by
  by_cases h : z x = true
  · by_cases g : k < B x
    · exact Or.inr (Or.inl ⟨h, g⟩)
    · exact Or.inr (Or.inr ⟨h, g⟩)
  · exact Or.inl (eq_false_of_ne_true h)
theorem nt_bz {z : Int32 → Bool} {x : Int32} : bz (upd z x true) = upd (bz z) x 1 := by
  funext i
  by_cases h : i = x
  · rw [h, upd_eq]
    show b2i (upd z x true x) = 1
    rw [upd_eq]
    rfl
  · rw [upd_ne h]
    show b2i (upd z x true i) = bz z i
    rw [upd_ne h]
    rfl
theorem own_tf (b : Bool) : b = false ∨ b = true := by cases b <;> decide
def rk (z : Int32 → Bool) (bt : Int32 → Int32 → Bool) (i : Int32) : Int32 := (((0 + b2i (z 0 && bt 0 i)) + b2i (z 1 && bt 1 i)) + b2i (z 2 && bt 2 i)) + b2i (z 3 && bt 3 i)
theorem own_ta {r : Int32} {s t : Bool} (h : s = false) : r = r + b2i (s && t) := by rw [h]; exact (Int32.add_zero r).symm
theorem own_tb {r : Int32} {s t : Bool} (h : s = true) (g : t = true) : r + 1 = r + b2i (s && t) := by rw [h, g]; rfl
theorem own_tc {r : Int32} {s t : Bool} (g : ¬ t = true) : r = r + b2i (s && t) := by rw [eq_false_of_ne_true g, Bool.and_false]; exact (Int32.add_zero r).symm
theorem own_r4 : ∀ s t u : Bool, In4 (((0 + b2i s) + b2i t) + b2i u) := by decide +kernel
theorem own_rk {z : Int32 → Bool} {B : Int32 → Int32} {i : Int32} (h : In4 i) : In4 (rk z (bi B) i) := by
  have e : bi B i i = false := by
    unfold bi
    apply decide_eq_false
    rintro (g | ⟨-, g⟩)
    · exact absurd (Int32.lt_iff_toInt_lt.mp g) (Int.lt_irrefl _)
    · exact absurd (Int32.lt_iff_toInt_lt.mp g) (Int.lt_irrefl _)
  have n0 : ∀ r : Int32, r + b2i false = r := fun r => Int32.add_zero r
  unfold rk
  rcases h with rfl | rfl | rfl | rfl
  · rw [e, Bool.and_false, n0]; exact own_r4 _ _ _
  · rw [e, Bool.and_false, n0]; exact own_r4 _ _ _
  · rw [e, Bool.and_false, n0]; exact own_r4 _ _ _
  · rw [e, Bool.and_false, n0]; exact own_r4 _ _ _
def ptE (z : Int32 → Bool) (bt : Int32 → Int32 → Bool) (E : Int32 → Int32) (i : Int32) : Int32 → Int32 := if z i = true then upd E (rk z bt i) i else E
theorem own_pt1 {z : Int32 → Bool} {bt : Int32 → Int32 → Bool} {E : Int32 → Int32} {i : Int32} (h : z i = true) : ptE z bt E i = upd E (rk z bt i) i := if_pos h
theorem own_pt0 {z : Int32 → Bool} {bt : Int32 → Int32 → Bool} {E : Int32 → Int32} {i : Int32} (h : z i = false) : ptE z bt E i = E := if_neg fun e => by rw [h] at e; cases e
def ex4 (z : Int32 → Bool) (bt : Int32 → Int32 → Bool) : Int32 → Int32 := ptE z bt (ptE z bt (ptE z bt (ptE z bt (fun _ => -1) 0) 1) 2) 3
theorem rk_congr {z zc : Int32 → Bool} {bt bc : Int32 → Int32 → Bool} {i : Int32} (hz : ∀ y, In4 y → zc y = z y) (hbt : ∀ x y, In4 x → In4 y → bc x y = bt x y) (ii : In4 i) : rk z bt i = rk zc bc i := by
  unfold rk
  rw [hz 0 in4_0, hz 1 in4_1, hz 2 in4_2, hz 3 in4_3, hbt 0 i in4_0 ii, hbt 1 i in4_1 ii, hbt 2 i in4_2 ii, hbt 3 i in4_3 ii]
theorem pt_congr {z zc : Int32 → Bool} {bt bc : Int32 → Int32 → Bool} {E : Int32 → Int32} {i : Int32} (hz : ∀ y, In4 y → zc y = z y) (hbt : ∀ x y, In4 x → In4 y → bc x y = bt x y) (ii : In4 i) : ptE z bt E i = ptE zc bc E i := by
  unfold ptE
  rw [hz i ii, rk_congr hz hbt ii]
theorem ex_congr {z zc : Int32 → Bool} {bt bc : Int32 → Int32 → Bool} (hz : ∀ y, In4 y → zc y = z y) (hbt : ∀ x y, In4 x → In4 y → bc x y = bt x y) : ex4 z bt = ex4 zc bc := by
  unfold ex4
  rw [pt_congr hz hbt in4_0, pt_congr hz hbt in4_1, pt_congr hz hbt in4_2, pt_congr hz hbt in4_3]
def zB (z0 z1 z2 z3 : Bool) (x : Int32) : Bool := if x = 0 then z0 else if x = 1 then z1 else if x = 2 then z2 else z3
theorem own_zB (z : Int32 → Bool) (y : Int32) (iy : In4 y) : zB (z 0) (z 1) (z 2) (z 3) y = z y := by rcases iy with rfl | rfl | rfl | rfl <;> rfl
theorem d_irr {i : Int} : false = decide (i < i) := (decide_eq_false (by omega)).symm
theorem d_le {i j : Int} (h : i ≠ j) : decide (i ≤ j) = decide (i < j) := by
  by_cases g : i < j
  · rw [decide_eq_true g, decide_eq_true (by omega)]
  · rw [decide_eq_false g, decide_eq_false (by omega)]
theorem d_gt {i j : Int} : (!decide (j ≤ i)) = decide (i < j) := by
  by_cases g : i < j
  · rw [decide_eq_true g, decide_eq_false (by omega)]; rfl
  · rw [decide_eq_false g, decide_eq_true (by omega)]; rfl
abbrev bc (v : Int32 → Int) : Int32 → Int32 → Bool := btB (decide (v 0 ≤ v 1)) (decide (v 0 ≤ v 2)) (decide (v 0 ≤ v 3)) (decide (v 1 ≤ v 2)) (decide (v 1 ≤ v 3)) (decide (v 2 ≤ v 3))
theorem own_bc {v : Int32 → Int} (hi : ∀ x y, In4 x → In4 y → x ≠ y → v x ≠ v y) (x y : Int32) (ix : In4 x) (iy : In4 y) : bc v x y = bv v x y := by
  rcases ix with rfl | rfl | rfl | rfl <;> rcases iy with rfl | rfl | rfl | rfl
  · exact @d_irr (v 0)
  · exact d_le (hi 0 1 in4_0 in4_1 (by decide))
  · exact d_le (hi 0 2 in4_0 in4_2 (by decide))
  · exact d_le (hi 0 3 in4_0 in4_3 (by decide))
  · exact @d_gt (v 1) (v 0)
  · exact @d_irr (v 1)
  · exact d_le (hi 1 2 in4_1 in4_2 (by decide))
  · exact d_le (hi 1 3 in4_1 in4_3 (by decide))
  · exact @d_gt (v 2) (v 0)
  · exact @d_gt (v 2) (v 1)
  · exact @d_irr (v 2)
  · exact d_le (hi 2 3 in4_2 in4_3 (by decide))
  · exact @d_gt (v 3) (v 0)
  · exact @d_gt (v 3) (v 1)
  · exact @d_gt (v 3) (v 2)
  · exact @d_irr (v 3)
def ckf (E : Int32 → Int32) (bt : Int32 → Int32 → Bool) (nx : (Int32 → Bool) → Bool) (k : Int32) (z : Int32 → Bool) (f : Int32) : Bool := !isMn z bt f || (decide (E k = f) && nx (upd z f false))
def ckS (E : Int32 → Int32) (bt : Int32 → Int32 → Bool) (nx : (Int32 → Bool) → Bool) (k : Int32) (z : Int32 → Bool) : Bool := ckf E bt nx k z 0 && ckf E bt nx k z 1 && ckf E bt nx k z 2 && ckf E bt nx k z 3
def ck4 (E : Int32 → Int32) (bt : Int32 → Int32 → Bool) : (Int32 → Bool) → Bool := ckS E bt (ckS E bt (ckS E bt (ckS E bt (fun _ => true) 3) 2) 1) 0
theorem own_stp {E : Int32 → Int32} {bt : Int32 → Int32 → Bool} {nx : (Int32 → Bool) → Bool} {k : Int32} {z : Int32 → Bool} {f : Int32} (h : ckS E bt nx k z = true) (jf : In4 f) (hm : isMn z bt f = true) : E k = f ∧ nx (upd z f false) = true := by
  have g : ckf E bt nx k z f = true := by
    unfold ckS at h
    simp only [Bool.and_eq_true] at h
    obtain ⟨⟨⟨g0, g1⟩, g2⟩, g3⟩ := h
    rcases jf with rfl | rfl | rfl | rfl
    · exact g0
    · exact g1
    · exact g2
    · exact g3
  unfold ckf at g
  rw [hm, Bool.not_true, Bool.false_or, Bool.and_eq_true] at g
  exact ⟨of_decide_eq_true g.1, g.2⟩
set_option maxRecDepth 65536 in
theorem own_ck : ∀ (z0 z1 z2 z3 b01 b02 b03 b12 b13 b23 : Bool), trB b01 b02 b03 b12 b13 b23 = true → ck4 (ex4 (zB z0 z1 z2 z3) (btB b01 b02 b03 b12 b13 b23)) (btB b01 b02 b03 b12 b13 b23) (zB z0 z1 z2 z3) = true := by decide +kernel
theorem own_ckv (z : Int32 → Bool) (B : Int32 → Int32) : ck4 (ex4 z (bi B)) (bc (vl B)) (zB (z 0) (z 1) (z 2) (z 3)) = true := by
  have h := ex_congr (z := z) (zc := zB (z 0) (z 1) (z 2) (z 3)) (bt := bi B) (bc := bc (vl B)) (own_zB z) (fun x y ix iy => (own_bc (v := vl B) vl_inj x y ix iy).trans (bi_bv (B := B) x y ix iy).symm)
  rw [h]
  exact own_ck _ _ _ _ _ _ _ _ _ _ (own_tr _ _ _ _)
def LbR (B : Int32 → Int32) (x y r : Int32) : Prop := (B x < B y ∧ r = 1) ∨ (¬ B x < B y ∧ B x = B y ∧ x < y ∧ r = 1) ∨ (¬ B x < B y ∧ B x = B y ∧ ¬ x < y ∧ r = 0) ∨ (¬ B x < B y ∧ ¬ B x = B y ∧ r = 0)
theorem lb1 {B : Int32 → Int32} {x y : Int32} (h : bi B x y = true) : LbR B x y 1 := by
  unfold bi at h
  have h := of_decide_eq_true h
  by_cases c : B x < B y
  · exact Or.inl ⟨c, rfl⟩
  · obtain ⟨e, g⟩ := h.resolve_left c
    exact Or.inr (Or.inl ⟨c, e, g, rfl⟩)
theorem lb0 {B : Int32 → Int32} {x y : Int32} (h : ¬ bi B x y = true) : LbR B x y 0 := by
  have h : ¬ (B x < B y ∨ (B x = B y ∧ x < y)) := fun g => h (by unfold bi; exact decide_eq_true g)
  have c : ¬ B x < B y := fun c => h (Or.inl c)
  by_cases e : B x = B y
  · exact Or.inr (Or.inr (Or.inl ⟨c, e, fun g => h (Or.inr ⟨e, g⟩), rfl⟩))
  · exact Or.inr (Or.inr (Or.inr ⟨c, e, rfl⟩))
theorem own_and3 (x : Int32) : In4 (x &&& 3) := by
  have h := c_and x 3 (by decide)
  rw [show (3 : Int32).toInt = 3 by decide] at h
  have e0 : (0 : Int32).toInt = 0 := by decide
  have e1 : (1 : Int32).toInt = 1 := by decide
  have e2 : (2 : Int32).toInt = 2 := by decide
  have e3 : (3 : Int32).toInt = 3 := by decide
  unfold In4
  rw [← Int32.toInt_inj, ← Int32.toInt_inj, ← Int32.toInt_inj, ← Int32.toInt_inj]
  omega
theorem own_mono {l : Launch} {y : MethodName} {bytes : ByteArray} {maxL : Nat} {ret : Option FieldType} {ws : List Jvm.Cond} {rm : Room} {Z : State} {as : Array Value} {h0 : Heap} {K N : Nat} {Q Q' : Option Value → Heap → List Loc → Prop} (H : Con l y bytes maxL ret ws rm Z as h0 K N Q) (g : ∀ v h L, Q v h L → Q' v h L) : Con l y bytes maxL ret ws rm Z as h0 K N Q' :=
  MetFree.mono H (fun _ _ t => t) (fun _ _ _ _ _ t => t) (fun _ _ _ _ _ t => by
    obtain ⟨v, L, e, q, f⟩ := t
    exact ⟨v, L, e, g _ _ _ q, f⟩)
end OwnLaw
def Q_rmFill (Z : State) (b : Addr) (h0 : Heap) (n0 : Nat) (v : Option Value) (h : Heap) (L : List Loc) : Prop := v = none ∧ Fr n0 L ∧ Keep h0 h [b] ∧ AV Z h b .int (4 : Int32) (fn4 fun _ => -1)
set_option maxRecDepth 65536 in
set_option maxHeartbeats 40000000 in
theorem rmFill (l : Launch) (Z : State) (a0 : Array Value) (hw : ∀ d ∈ tables_1, d.before a0 Z = true) (ws : List Jvm.Cond) (b : Addr) (h0 : Heap) (n0 : Nat) (Zs : n0 ≤ h0.size) (gb : n0 ≤ b) (V_b : AV Z h0 b .int (4 : Int32) [(.int (0 : Int32)), (.int (0 : Int32)), (.int (0 : Int32)), (.int (0 : Int32))]) :
    Con l (⟨"java/util/Arrays", "fill", "([II)V"⟩ : MethodName) jdk_65_method_103_code 4 none ws ({ frames := 0, cells := 0, slots := 0, locals := 0 } : Room) Z #[(.ref b), (.int (-1))] h0 ({ frames := 0, cells := 0, slots := 0, locals := 0 } : Room).cells ({ frames := 0, cells := 0, slots := 0, locals := 0 } : Room).slots (Q_rmFill Z b h0 n0) := by
  refine Con.of (Ls := #[.val (.ref b), .val (.int (-1)), .unset, .unset]) (plainFor_of_name (by first | (simp [plainName, overriddenIn]; done) | decide +kernel)) (fun m => by first | (simp [entryFrame, mkF, argsToLocals, Value.category]; done) | rfl) ?_
  intro p e s m below meth c s₁ G hGe hG hx hby hml hown hnm hrt hlk hZ X0 e0
  have hown : s.vm.findClass "java/util/Arrays" = some m.cls := hown
  have hnm : meth.name = "fill" := hnm
  have NF0 := Fr.nil n0
  have K0 := Keep.refl h0 [b]
  refine g_iconst hG X0 hx (hb hby d3_0) (pc' := 1) rfl (v := (0 : Int32)) rfl ?_
  show G (s₁.setTop (mkF m 1 #[.val (.ref b), .val (.int (-1)), .unset, .unset] [(.int 0)]))
  refine g_istoreN hG X0 hx (hb hby d3_1) (pc' := 2) rfl (Ls' := #[.val (.ref b), .val (.int (-1)), .val (.int 0), .unset]) rfl ?_
  show G (s₁.setTop (mkF m 2 #[.val (.ref b), .val (.int (-1)), .val (.int 0), .unset] []))
  refine g_aloadN hG X0 hx (hb hby d3_2) (pc' := 3) rfl rfl rfl ?_
  show G (s₁.setTop (mkF m 3 #[.val (.ref b), .val (.int (-1)), .val (.int 0), .unset] [(.ref b)]))
  refine g_arraylength hG X0 hx hZ e0 V_b (hb hby d3_3) (pc' := 4) rfl ?_
  show G (s₁.setTop (mkF m 4 #[.val (.ref b), .val (.int (-1)), .val (.int 0), .unset] [(.int 4)]))
  refine g_istoreN hG X0 hx (hb hby d3_4) (pc' := 5) rfl (Ls' := #[.val (.ref b), .val (.int (-1)), .val (.int 0), .val (.int 4)]) rfl ?_
  show G (s₁.setTop (mkF m 5 #[.val (.ref b), .val (.int (-1)), .val (.int 0), .val (.int 4)] []))
  refine g_iloadN hG X0 hx (hb hby d3_5) (pc' := 6) rfl rfl ?_
  show G (s₁.setTop (mkF m 6 #[.val (.ref b), .val (.int (-1)), .val (.int 0), .val (.int 4)] [(.int 0)]))
  refine g_iloadN hG X0 hx (hb hby d3_6) (pc' := 7) rfl rfl ?_
  show G (s₁.setTop (mkF m 7 #[.val (.ref b), .val (.int (-1)), .val (.int 0), .val (.int 4)] [(.int 4), (.int 0)]))
  refine g_icmpNo hG X0 hx (hb hby d3_7) (pc' := 10) (by decide) rfl ?_
  show G (s₁.setTop (mkF m 10 #[.val (.ref b), .val (.int (-1)), .val (.int 0), .val (.int 4)] []))
  refine g_aloadN hG X0 hx (hb hby d3_10) (pc' := 11) rfl rfl rfl ?_
  show G (s₁.setTop (mkF m 11 #[.val (.ref b), .val (.int (-1)), .val (.int 0), .val (.int 4)] [(.ref b)]))
  refine g_iloadN hG X0 hx (hb hby d3_11) (pc' := 12) rfl rfl ?_
  show G (s₁.setTop (mkF m 12 #[.val (.ref b), .val (.int (-1)), .val (.int 0), .val (.int 4)] [(.int 0), (.ref b)]))
  refine g_iloadN hG X0 hx (hb hby d3_12) (pc' := 13) rfl rfl ?_
  show G (s₁.setTop (mkF m 13 #[.val (.ref b), .val (.int (-1)), .val (.int 0), .val (.int 4)] [(.int (-1)), (.int 0), (.ref b)]))
  refine g_iastore hG X0 hx hZ e0 V_b (j := (0 : Int32)) (by decide) (show Int32.toNatClampNeg (0 : Int32) < 4 by decide) (hb hby d3_13) (pc' := 14) rfl ?_
  intro T1 h1 X1 e1 W1 Vn1
  have V_b : AV Z h1 b .int (4 : Int32) [(.int (-1)), (.int 0), (.int 0), (.int 0)] := Vn1
  have Zs := Nat.le_trans Zs (Wr.size W1)
  have NF1 := Fr.snoc X1 NF0 gb
  have K1 := K0.wr W1 (Or.inl (List.mem_of_getElem? (i := 0) rfl))
  show G (T1.setTop (mkF m 14 #[.val (.ref b), .val (.int (-1)), .val (.int 0), .val (.int 4)] []))
  refine g_iinc hG X1 hx (hb hby d3_14) (pc' := 17) rfl rfl (v := (1 : Int32)) (by decide) (Ls' := #[.val (.ref b), .val (.int (-1)), .val (.int 1), .val (.int 4)]) rfl ?_
  show G (T1.setTop (mkF m 17 #[.val (.ref b), .val (.int (-1)), .val (.int 1), .val (.int 4)] []))
  refine g_goto hG X1 hx (hb hby d3_17) (pc' := 5) (by decide) (by decide) ?_
  show G (T1.setTop (mkF m 5 #[.val (.ref b), .val (.int (-1)), .val (.int 1), .val (.int 4)] []))
  refine g_iloadN hG X1 hx (hb hby d3_5) (pc' := 6) rfl rfl ?_
  show G (T1.setTop (mkF m 6 #[.val (.ref b), .val (.int (-1)), .val (.int 1), .val (.int 4)] [(.int 1)]))
  refine g_iloadN hG X1 hx (hb hby d3_6) (pc' := 7) rfl rfl ?_
  show G (T1.setTop (mkF m 7 #[.val (.ref b), .val (.int (-1)), .val (.int 1), .val (.int 4)] [(.int 4), (.int 1)]))
  refine g_icmpNo hG X1 hx (hb hby d3_7) (pc' := 10) (by decide) rfl ?_
  show G (T1.setTop (mkF m 10 #[.val (.ref b), .val (.int (-1)), .val (.int 1), .val (.int 4)] []))
  refine g_aloadN hG X1 hx (hb hby d3_10) (pc' := 11) rfl rfl rfl ?_
  show G (T1.setTop (mkF m 11 #[.val (.ref b), .val (.int (-1)), .val (.int 1), .val (.int 4)] [(.ref b)]))
  refine g_iloadN hG X1 hx (hb hby d3_11) (pc' := 12) rfl rfl ?_
  show G (T1.setTop (mkF m 12 #[.val (.ref b), .val (.int (-1)), .val (.int 1), .val (.int 4)] [(.int 1), (.ref b)]))
  refine g_iloadN hG X1 hx (hb hby d3_12) (pc' := 13) rfl rfl ?_
  show G (T1.setTop (mkF m 13 #[.val (.ref b), .val (.int (-1)), .val (.int 1), .val (.int 4)] [(.int (-1)), (.int 1), (.ref b)]))
  refine g_iastore hG X1 hx hZ e1 V_b (j := (1 : Int32)) (by decide) (show Int32.toNatClampNeg (1 : Int32) < 4 by decide) (hb hby d3_13) (pc' := 14) rfl ?_
  intro T2 h2 X2 e2 W2 Vn2
  have V_b : AV Z h2 b .int (4 : Int32) [(.int (-1)), (.int (-1)), (.int 0), (.int 0)] := Vn2
  have Zs := Nat.le_trans Zs (Wr.size W2)
  have NF2 := Fr.snoc X2 NF1 gb
  have K2 := K1.wr W2 (Or.inl (List.mem_of_getElem? (i := 0) rfl))
  show G (T2.setTop (mkF m 14 #[.val (.ref b), .val (.int (-1)), .val (.int 1), .val (.int 4)] []))
  refine g_iinc hG X2 hx (hb hby d3_14) (pc' := 17) rfl rfl (v := (2 : Int32)) (by decide) (Ls' := #[.val (.ref b), .val (.int (-1)), .val (.int 2), .val (.int 4)]) rfl ?_
  show G (T2.setTop (mkF m 17 #[.val (.ref b), .val (.int (-1)), .val (.int 2), .val (.int 4)] []))
  refine g_goto hG X2 hx (hb hby d3_17) (pc' := 5) (by decide) (by decide) ?_
  show G (T2.setTop (mkF m 5 #[.val (.ref b), .val (.int (-1)), .val (.int 2), .val (.int 4)] []))
  refine g_iloadN hG X2 hx (hb hby d3_5) (pc' := 6) rfl rfl ?_
  show G (T2.setTop (mkF m 6 #[.val (.ref b), .val (.int (-1)), .val (.int 2), .val (.int 4)] [(.int 2)]))
  refine g_iloadN hG X2 hx (hb hby d3_6) (pc' := 7) rfl rfl ?_
  show G (T2.setTop (mkF m 7 #[.val (.ref b), .val (.int (-1)), .val (.int 2), .val (.int 4)] [(.int 4), (.int 2)]))
  refine g_icmpNo hG X2 hx (hb hby d3_7) (pc' := 10) (by decide) rfl ?_
  show G (T2.setTop (mkF m 10 #[.val (.ref b), .val (.int (-1)), .val (.int 2), .val (.int 4)] []))
  refine g_aloadN hG X2 hx (hb hby d3_10) (pc' := 11) rfl rfl rfl ?_
  show G (T2.setTop (mkF m 11 #[.val (.ref b), .val (.int (-1)), .val (.int 2), .val (.int 4)] [(.ref b)]))
  refine g_iloadN hG X2 hx (hb hby d3_11) (pc' := 12) rfl rfl ?_
  show G (T2.setTop (mkF m 12 #[.val (.ref b), .val (.int (-1)), .val (.int 2), .val (.int 4)] [(.int 2), (.ref b)]))
  refine g_iloadN hG X2 hx (hb hby d3_12) (pc' := 13) rfl rfl ?_
  show G (T2.setTop (mkF m 13 #[.val (.ref b), .val (.int (-1)), .val (.int 2), .val (.int 4)] [(.int (-1)), (.int 2), (.ref b)]))
  refine g_iastore hG X2 hx hZ e2 V_b (j := (2 : Int32)) (by decide) (show Int32.toNatClampNeg (2 : Int32) < 4 by decide) (hb hby d3_13) (pc' := 14) rfl ?_
  intro T3 h3 X3 e3 W3 Vn3
  have V_b : AV Z h3 b .int (4 : Int32) [(.int (-1)), (.int (-1)), (.int (-1)), (.int 0)] := Vn3
  have Zs := Nat.le_trans Zs (Wr.size W3)
  have NF3 := Fr.snoc X3 NF2 gb
  have K3 := K2.wr W3 (Or.inl (List.mem_of_getElem? (i := 0) rfl))
  show G (T3.setTop (mkF m 14 #[.val (.ref b), .val (.int (-1)), .val (.int 2), .val (.int 4)] []))
  refine g_iinc hG X3 hx (hb hby d3_14) (pc' := 17) rfl rfl (v := (3 : Int32)) (by decide) (Ls' := #[.val (.ref b), .val (.int (-1)), .val (.int 3), .val (.int 4)]) rfl ?_
  show G (T3.setTop (mkF m 17 #[.val (.ref b), .val (.int (-1)), .val (.int 3), .val (.int 4)] []))
  refine g_goto hG X3 hx (hb hby d3_17) (pc' := 5) (by decide) (by decide) ?_
  show G (T3.setTop (mkF m 5 #[.val (.ref b), .val (.int (-1)), .val (.int 3), .val (.int 4)] []))
  refine g_iloadN hG X3 hx (hb hby d3_5) (pc' := 6) rfl rfl ?_
  show G (T3.setTop (mkF m 6 #[.val (.ref b), .val (.int (-1)), .val (.int 3), .val (.int 4)] [(.int 3)]))
  refine g_iloadN hG X3 hx (hb hby d3_6) (pc' := 7) rfl rfl ?_
  show G (T3.setTop (mkF m 7 #[.val (.ref b), .val (.int (-1)), .val (.int 3), .val (.int 4)] [(.int 4), (.int 3)]))
  refine g_icmpNo hG X3 hx (hb hby d3_7) (pc' := 10) (by decide) rfl ?_
  show G (T3.setTop (mkF m 10 #[.val (.ref b), .val (.int (-1)), .val (.int 3), .val (.int 4)] []))
  refine g_aloadN hG X3 hx (hb hby d3_10) (pc' := 11) rfl rfl rfl ?_
  show G (T3.setTop (mkF m 11 #[.val (.ref b), .val (.int (-1)), .val (.int 3), .val (.int 4)] [(.ref b)]))
  refine g_iloadN hG X3 hx (hb hby d3_11) (pc' := 12) rfl rfl ?_
  show G (T3.setTop (mkF m 12 #[.val (.ref b), .val (.int (-1)), .val (.int 3), .val (.int 4)] [(.int 3), (.ref b)]))
  refine g_iloadN hG X3 hx (hb hby d3_12) (pc' := 13) rfl rfl ?_
  show G (T3.setTop (mkF m 13 #[.val (.ref b), .val (.int (-1)), .val (.int 3), .val (.int 4)] [(.int (-1)), (.int 3), (.ref b)]))
  refine g_iastore hG X3 hx hZ e3 V_b (j := (3 : Int32)) (by decide) (show Int32.toNatClampNeg (3 : Int32) < 4 by decide) (hb hby d3_13) (pc' := 14) rfl ?_
  intro T4 h4 X4 e4 W4 Vn4
  have V_b : AV Z h4 b .int (4 : Int32) [(.int (-1)), (.int (-1)), (.int (-1)), (.int (-1))] := Vn4
  have Zs := Nat.le_trans Zs (Wr.size W4)
  have NF4 := Fr.snoc X4 NF3 gb
  have K4 := K3.wr W4 (Or.inl (List.mem_of_getElem? (i := 0) rfl))
  show G (T4.setTop (mkF m 14 #[.val (.ref b), .val (.int (-1)), .val (.int 3), .val (.int 4)] []))
  refine g_iinc hG X4 hx (hb hby d3_14) (pc' := 17) rfl rfl (v := (4 : Int32)) (by decide) (Ls' := #[.val (.ref b), .val (.int (-1)), .val (.int 4), .val (.int 4)]) rfl ?_
  show G (T4.setTop (mkF m 17 #[.val (.ref b), .val (.int (-1)), .val (.int 4), .val (.int 4)] []))
  refine g_goto hG X4 hx (hb hby d3_17) (pc' := 5) (by decide) (by decide) ?_
  show G (T4.setTop (mkF m 5 #[.val (.ref b), .val (.int (-1)), .val (.int 4), .val (.int 4)] []))
  refine g_iloadN hG X4 hx (hb hby d3_5) (pc' := 6) rfl rfl ?_
  show G (T4.setTop (mkF m 6 #[.val (.ref b), .val (.int (-1)), .val (.int 4), .val (.int 4)] [(.int 4)]))
  refine g_iloadN hG X4 hx (hb hby d3_6) (pc' := 7) rfl rfl ?_
  show G (T4.setTop (mkF m 7 #[.val (.ref b), .val (.int (-1)), .val (.int 4), .val (.int 4)] [(.int 4), (.int 4)]))
  refine g_icmpYes hG X4 hx (hb hby d3_7) (pc' := 20) (by decide) (by decide) (by decide) ?_
  show G (T4.setTop (mkF m 20 #[.val (.ref b), .val (.int (-1)), .val (.int 4), .val (.int 4)] []))
  exact e_ret0 hGe X4 hx hrt hlk (hb hby d3_20) e4 (by decide) (by decide) (⟨rfl, NF4, K4, V_b⟩)

def Q_rmNew (Z : State) (a : Addr) (h0 : Heap) (n0 : Nat) (v : Option Value) (h : Heap) (L : List Loc) : Prop := ∃ hp pp ky : Addr, v = none ∧ Fr n0 L ∧ Keep h0 h [a] ∧ h0.size ≤ hp ∧ h0.size ≤ pp ∧ h0.size ≤ ky ∧ hp ≠ pp ∧ hp ≠ ky ∧ pp ≠ ky ∧ NH Z h a hp pp ky 0 (fun _ => 0, fun _ => -1) (fun _ => 0)
set_option maxRecDepth 65536 in
set_option maxHeartbeats 40000000 in
theorem rmNew (l : Launch) (Z : State) (a0 : Array Value) (hw : ∀ d ∈ tables_1, d.before a0 Z = true) (ws : List Jvm.Cond) (a : Addr) (h0 : Heap) (n0 : Nat) (Zs : n0 ≤ h0.size) (ga : n0 ≤ a) (Ex_a : Exa Z h0 a "com/example/tributary/tributary/plan/NodeHeap") (F_heap_a : Fld Z h0 a "com/example/tributary/tributary/plan/NodeHeap" "heap" "[I" .null) (F_position_a : Fld Z h0 a "com/example/tributary/tributary/plan/NodeHeap" "position" "[I" .null) (F_key_a : Fld Z h0 a "com/example/tributary/tributary/plan/NodeHeap" "key" "[D" .null) (F_size_a : Fld Z h0 a "com/example/tributary/tributary/plan/NodeHeap" "size" "I" (.int (0 : Int32))) :
    Con l (⟨"com/example/tributary/tributary/plan/NodeHeap", "<init>", "(I)V"⟩ : MethodName) prog_39_method_1_code 2 none ws ({ frames := 1, cells := 3, slots := 12, locals := 40 } : Room) Z #[(.ref a), (.int 4)] h0 ({ frames := 1, cells := 3, slots := 12, locals := 40 } : Room).cells ({ frames := 1, cells := 3, slots := 12, locals := 40 } : Room).slots (Q_rmNew Z a h0 n0) := by
  refine Con.of (Ls := #[.val (.ref a), .val (.int 4)]) (plainFor_of_name (by first | (simp [plainName, overriddenIn]; done) | decide +kernel)) (fun m => by first | (simp [entryFrame, mkF, argsToLocals, Value.category]; done) | rfl) ?_
  intro p e s m below meth c s₁ G hGe hG hx hby hml hown hnm hrt hlk hZ X0 e0
  have hown : s.vm.findClass "com/example/tributary/tributary/plan/NodeHeap" = some m.cls := hown
  have hnm : meth.name = "<init>" := hnm
  have NF0 := Fr.nil n0
  have K0 := Keep.refl h0 [a]
  refine g_aloadN hG X0 hx (hb hby d1_0) (pc' := 1) rfl rfl rfl ?_
  show G (s₁.setTop (mkF m 1 #[.val (.ref a), .val (.int 4)] [(.ref a)]))
  refine g_initO hG X0 hx hZ hown (wd hw 8 rfl) (wd hw 9 rfl) (wd hw 10 rfl) e0 (by rw [hml]; rfl) (hb hby d1_1) (by decide) (by decide) (pc' := 4) rfl ?_
  intro T1 X1 e1
  show G (T1.setTop (mkF m 4 #[.val (.ref a), .val (.int 4)] []))
  refine g_aloadN hG X1 hx (hb hby d1_4) (pc' := 5) rfl rfl rfl ?_
  show G (T1.setTop (mkF m 5 #[.val (.ref a), .val (.int 4)] [(.ref a)]))
  refine g_iloadN hG X1 hx (hb hby d1_5) (pc' := 6) rfl rfl ?_
  show G (T1.setTop (mkF m 6 #[.val (.ref a), .val (.int 4)] [(.int 4), (.ref a)]))
  refine g_newP hG X1 hx hZ (wd hw 1 rfl) e1 (hb hby d1_6) (by decide) 4 (by decide) (by decide) (by decide) (by decide) (pc' := 8) rfl ?_
  intro T2 h2 hp kA2 gs2 X2 e2 E2 A2
  have ne_a_hp : a ≠ hp := Nat.ne_of_lt (gs2 ▸ Ex_a.lt)
  have ge_hp : n0 ≤ hp := gs2 ▸ Zs
  have sz_hp : h0.size ≤ hp := gs2 ▸ K0.1
  have Zs := Nat.le_trans Zs E2.1
  have Ex_a := Ex_a.ext E2
  have F_heap_a := F_heap_a.ext E2
  have F_position_a := F_position_a.ext E2
  have F_key_a := F_key_a.ext E2
  have F_size_a := F_size_a.ext E2
  have K2 := K0.ext E2
  have V_hp : AV Z h2 hp .int (4 : Int32) [(.int 0), (.int 0), (.int 0), (.int 0)] := AV.new A2
  show G (T2.setTop (mkF m 8 #[.val (.ref a), .val (.int 4)] [(.ref hp), (.ref a)]))
  refine g_putF hG X2 hx hZ hown (wd hw 11 rfl) Via.refl e2 F_heap_a Ex_a (Or.inr ⟨(wd hw 12 rfl), rfl, hnm⟩) (wd hw 3 rfl) (v' := (.ref hp)) (ty := (.array .int)) (by decide) rfl rfl (hb hby d1_8) (pc' := 11) rfl ?_
  intro T3 h3 X3 e3 W3
  have Ex_a := Ex_a.wr W3
  have F_heap_a := F_heap_a.same W3
  have F_position_a := F_position_a.other W3 (Or.inr (slot_ne (Or.inr (wd hw 14 rfl)) (Or.inr (wd hw 12 rfl)) (by decide) (t := (.array .int)) (t' := (.array .int)) (by decide) (by decide)))
  have F_key_a := F_key_a.other W3 (Or.inr (slot_ne (Or.inr (wd hw 17 rfl)) (Or.inr (wd hw 12 rfl)) (by decide) (t := (.array .double)) (t' := (.array .int)) (by decide) (by decide)))
  have F_size_a := F_size_a.other W3 (Or.inr (slot_ne (Or.inl (wd hw 28 rfl)) (Or.inr (wd hw 12 rfl)) (by decide) (t := .int) (t' := (.array .int)) (by decide) (by decide)))
  have V_hp := V_hp.other W3 (Ne.symm ne_a_hp)
  have Zs := Nat.le_trans Zs (Wr.size W3)
  have NF3 := Fr.snoc X3 NF0 ga
  have K3 := K2.wr W3 (Or.inl (List.mem_of_getElem? (i := 0) rfl))
  show G (T3.setTop (mkF m 11 #[.val (.ref a), .val (.int 4)] []))
  refine g_aloadN hG X3 hx (hb hby d1_11) (pc' := 12) rfl rfl rfl ?_
  show G (T3.setTop (mkF m 12 #[.val (.ref a), .val (.int 4)] [(.ref a)]))
  refine g_iloadN hG X3 hx (hb hby d1_12) (pc' := 13) rfl rfl ?_
  show G (T3.setTop (mkF m 13 #[.val (.ref a), .val (.int 4)] [(.int 4), (.ref a)]))
  refine g_newP hG X3 hx hZ (wd hw 1 rfl) e3 (hb hby d1_13) (by decide) 4 (by decide) (by decide) (by decide) (by decide) (pc' := 15) rfl ?_
  intro T4 h4 pp kA4 gs4 X4 e4 E4 A4
  have ne_a_pp : a ≠ pp := Nat.ne_of_lt (gs4 ▸ Ex_a.lt)
  have ne_hp_pp : hp ≠ pp := Nat.ne_of_lt (gs4 ▸ V_hp.lt)
  have ge_pp : n0 ≤ pp := gs4 ▸ Zs
  have sz_pp : h0.size ≤ pp := gs4 ▸ K3.1
  have Zs := Nat.le_trans Zs E4.1
  have Ex_a := Ex_a.ext E4
  have F_heap_a := F_heap_a.ext E4
  have F_position_a := F_position_a.ext E4
  have F_key_a := F_key_a.ext E4
  have F_size_a := F_size_a.ext E4
  have V_hp := V_hp.ext E4
  have K4 := K3.ext E4
  have V_pp : AV Z h4 pp .int (4 : Int32) [(.int 0), (.int 0), (.int 0), (.int 0)] := AV.new A4
  show G (T4.setTop (mkF m 15 #[.val (.ref a), .val (.int 4)] [(.ref pp), (.ref a)]))
  refine g_putF hG X4 hx hZ hown (wd hw 13 rfl) Via.refl e4 F_position_a Ex_a (Or.inr ⟨(wd hw 14 rfl), rfl, hnm⟩) (wd hw 3 rfl) (v' := (.ref pp)) (ty := (.array .int)) (by decide) rfl rfl (hb hby d1_15) (pc' := 18) rfl ?_
  intro T5 h5 X5 e5 W5
  have Ex_a := Ex_a.wr W5
  have F_heap_a := F_heap_a.other W5 (Or.inr (slot_ne (Or.inr (wd hw 12 rfl)) (Or.inr (wd hw 14 rfl)) (by decide) (t := (.array .int)) (t' := (.array .int)) (by decide) (by decide)))
  have F_position_a := F_position_a.same W5
  have F_key_a := F_key_a.other W5 (Or.inr (slot_ne (Or.inr (wd hw 17 rfl)) (Or.inr (wd hw 14 rfl)) (by decide) (t := (.array .double)) (t' := (.array .int)) (by decide) (by decide)))
  have F_size_a := F_size_a.other W5 (Or.inr (slot_ne (Or.inl (wd hw 28 rfl)) (Or.inr (wd hw 14 rfl)) (by decide) (t := .int) (t' := (.array .int)) (by decide) (by decide)))
  have V_hp := V_hp.other W5 (Ne.symm ne_a_hp)
  have V_pp := V_pp.other W5 (Ne.symm ne_a_pp)
  have Zs := Nat.le_trans Zs (Wr.size W5)
  have NF5 := Fr.snoc X5 NF3 ga
  have K5 := K4.wr W5 (Or.inl (List.mem_of_getElem? (i := 0) rfl))
  show G (T5.setTop (mkF m 18 #[.val (.ref a), .val (.int 4)] []))
  refine g_aloadN hG X5 hx (hb hby d1_18) (pc' := 19) rfl rfl rfl ?_
  show G (T5.setTop (mkF m 19 #[.val (.ref a), .val (.int 4)] [(.ref a)]))
  refine g_iloadN hG X5 hx (hb hby d1_19) (pc' := 20) rfl rfl ?_
  show G (T5.setTop (mkF m 20 #[.val (.ref a), .val (.int 4)] [(.int 4), (.ref a)]))
  refine g_newP hG X5 hx hZ (wd hw 15 rfl) e5 (hb hby d1_20) (by decide) 4 (by decide) (by decide) (by decide) (by decide) (pc' := 22) rfl ?_
  intro T6 h6 ky kA6 gs6 X6 e6 E6 A6
  have ne_a_ky : a ≠ ky := Nat.ne_of_lt (gs6 ▸ Ex_a.lt)
  have ne_hp_ky : hp ≠ ky := Nat.ne_of_lt (gs6 ▸ V_hp.lt)
  have ne_pp_ky : pp ≠ ky := Nat.ne_of_lt (gs6 ▸ V_pp.lt)
  have ge_ky : n0 ≤ ky := gs6 ▸ Zs
  have sz_ky : h0.size ≤ ky := gs6 ▸ K5.1
  have Zs := Nat.le_trans Zs E6.1
  have Ex_a := Ex_a.ext E6
  have F_heap_a := F_heap_a.ext E6
  have F_position_a := F_position_a.ext E6
  have F_key_a := F_key_a.ext E6
  have F_size_a := F_size_a.ext E6
  have V_hp := V_hp.ext E6
  have V_pp := V_pp.ext E6
  have K6 := K5.ext E6
  have V_ky : AV Z h6 ky .double (4 : Int32) [(.double 0), (.double 0), (.double 0), (.double 0)] := AV.new A6
  show G (T6.setTop (mkF m 22 #[.val (.ref a), .val (.int 4)] [(.ref ky), (.ref a)]))
  refine g_putF hG X6 hx hZ hown (wd hw 16 rfl) Via.refl e6 F_key_a Ex_a (Or.inr ⟨(wd hw 17 rfl), rfl, hnm⟩) (wd hw 3 rfl) (v' := (.ref ky)) (ty := (.array .double)) (by decide) rfl rfl (hb hby d1_22) (pc' := 25) rfl ?_
  intro T7 h7 X7 e7 W7
  have Ex_a := Ex_a.wr W7
  have F_heap_a := F_heap_a.other W7 (Or.inr (slot_ne (Or.inr (wd hw 12 rfl)) (Or.inr (wd hw 17 rfl)) (by decide) (t := (.array .int)) (t' := (.array .double)) (by decide) (by decide)))
  have F_position_a := F_position_a.other W7 (Or.inr (slot_ne (Or.inr (wd hw 14 rfl)) (Or.inr (wd hw 17 rfl)) (by decide) (t := (.array .int)) (t' := (.array .double)) (by decide) (by decide)))
  have F_key_a := F_key_a.same W7
  have F_size_a := F_size_a.other W7 (Or.inr (slot_ne (Or.inl (wd hw 28 rfl)) (Or.inr (wd hw 17 rfl)) (by decide) (t := .int) (t' := (.array .double)) (by decide) (by decide)))
  have V_hp := V_hp.other W7 (Ne.symm ne_a_hp)
  have V_pp := V_pp.other W7 (Ne.symm ne_a_pp)
  have V_ky := V_ky.other W7 (Ne.symm ne_a_ky)
  have Zs := Nat.le_trans Zs (Wr.size W7)
  have NF7 := Fr.snoc X7 NF5 ga
  have K7 := K6.wr W7 (Or.inl (List.mem_of_getElem? (i := 0) rfl))
  show G (T7.setTop (mkF m 25 #[.val (.ref a), .val (.int 4)] []))
  refine g_aloadN hG X7 hx (hb hby d1_25) (pc' := 26) rfl rfl rfl ?_
  show G (T7.setTop (mkF m 26 #[.val (.ref a), .val (.int 4)] [(.ref a)]))
  refine g_getF hG X7 hx hZ hown (wd hw 13 rfl) Via.refl e7 F_position_a (hb hby d1_26) (pc' := 29) rfl ?_
  intro T8 X8 e8
  show G (T8.setTop (mkF m 29 #[.val (.ref a), .val (.int 4)] [(.ref pp)]))
  refine g_iconst hG X8 hx (hb hby d1_29) (pc' := 30) rfl (v := (-1 : Int32)) rfl ?_
  show G (T8.setTop (mkF m 30 #[.val (.ref a), .val (.int 4)] [(.int (-1)), (.ref pp)]))
  refine g_callS hG X8 hx hZ (y := (⟨"java/util/Arrays", "fill", "([II)V"⟩ : MethodName)) 0 hown (wd hw 18 rfl) (wd hw 19 rfl) (wd hw 20 rfl) (wd hw 21 rfl) (by decide) (rmFill l Z a0 hw [] pp h7 n0 Zs ge_pp V_pp) (by decide) (by decide) (by rw [hml]; rfl) pd_0 rfl (argsL := [(.ref pp), (.int (-1))]) (rest := []) rfl rfl (Nat.le_of_eq rfl) (hb hby d1_30) e8 (by decide) (by decide) (pc' := 33) rfl ?_
  intro T9 rv9 L9 X9 hQ9
  obtain ⟨rfl, Nq9, Kq9, V_pp⟩ := hQ9
  have NF9 := Fr.app NF7 Nq9
  have Ex_a := Ex_a.keep Kq9
  have F_heap_a := F_heap_a.keep Kq9 (ninS ne_a_pp nin0)
  have F_position_a := F_position_a.keep Kq9 (ninS ne_a_pp nin0)
  have F_key_a := F_key_a.keep Kq9 (ninS ne_a_pp nin0)
  have F_size_a := F_size_a.keep Kq9 (ninS ne_a_pp nin0)
  have V_hp := V_hp.keep Kq9 (ninS ne_hp_pp nin0)
  have V_ky := V_ky.keep Kq9 (ninS (Ne.symm ne_pp_ky) nin0)
  have Zs := Nat.le_trans Zs Kq9.1
  have K9 := K7.trans Kq9 (allS (Or.inr sz_pp) all0)
  show G (T9.setTop (mkF m 33 #[.val (.ref a), .val (.int 4)] []))
  exact e_ret0 hGe X9 hx hrt hlk (hb hby d1_33) rfl (by decide) (by decide) (⟨hp, pp, ky, rfl, NF9, K9, sz_hp, sz_pp, sz_ky, ne_hp_pp, ne_hp_ky, ne_pp_ky, ⟨Ex_a, F_heap_a, F_position_a, F_key_a, F_size_a, V_hp, V_pp, V_ky⟩⟩)

def Q_rmEm0 (Z : State) (a hp pp ky : Addr) (q : HP) (K : Int32 → UInt64) (h0 : Heap) (n0 : Nat) (v : Option Value) (h : Heap) (L : List Loc) : Prop := v = some (.int 1) ∧ Fr n0 L ∧ h = h0
set_option maxRecDepth 65536 in
set_option maxHeartbeats 40000000 in
theorem rmEm0 (l : Launch) (Z : State) (a0 : Array Value) (hw : ∀ d ∈ tables_1, d.before a0 Z = true) (ws : List Jvm.Cond) (a hp pp ky : Addr) (q : HP) (K : Int32 → UInt64) (h0 : Heap) (n0 : Nat) (Zs : n0 ≤ h0.size) (NQ : NH Z h0 a hp pp ky (0 : Int32) q K) (DD : Dis n0 a hp pp ky) :
    Con l (⟨"com/example/tributary/tributary/plan/NodeHeap", "isEmpty", "()Z"⟩ : MethodName) prog_39_method_2_code 1 (some .boolean) ws ({ frames := 0, cells := 0, slots := 0, locals := 0 } : Room) Z #[(.ref a)] h0 ({ frames := 0, cells := 0, slots := 0, locals := 0 } : Room).cells ({ frames := 0, cells := 0, slots := 0, locals := 0 } : Room).slots (Q_rmEm0 Z a hp pp ky q K h0 n0) := by
  refine Con.of (Ls := #[.val (.ref a)]) (plainFor_of_name (by first | (simp [plainName, overriddenIn]; done) | decide +kernel)) (fun m => by first | (simp [entryFrame, mkF, argsToLocals, Value.category]; done) | rfl) ?_
  intro p e s m below meth c s₁ G hGe hG hx hby hml hown hnm hrt hlk hZ X0 e0
  have hown : s.vm.findClass "com/example/tributary/tributary/plan/NodeHeap" = some m.cls := hown
  have hnm : meth.name = "isEmpty" := hnm
  have NF0 := Fr.nil n0
  obtain ⟨Ex_a, F_heap_a, F_position_a, F_key_a, F_size_a, V_hp, V_pp, V_ky⟩ := NQ
  obtain ⟨ga, ghp, gpp, gky, d1, d2, d3, d4, d5, d6⟩ := DD
  refine g_aloadN hG X0 hx (hb hby d14_0) (pc' := 1) rfl rfl rfl ?_
  show G (s₁.setTop (mkF m 1 #[.val (.ref a)] [(.ref a)]))
  refine g_getF hG X0 hx hZ hown (wd hw 27 rfl) Via.refl e0 F_size_a (hb hby d14_1) (pc' := 4) rfl ?_
  intro T1 X1 e1
  show G (T1.setTop (mkF m 4 #[.val (.ref a)] [(.int 0)]))
  refine g_ifNo hG X1 hx (hb hby d14_4) (pc' := 7) (by decide) rfl ?_
  show G (T1.setTop (mkF m 7 #[.val (.ref a)] []))
  refine g_iconst hG X1 hx (hb hby d14_7) (pc' := 8) rfl (v := (1 : Int32)) rfl ?_
  show G (T1.setTop (mkF m 8 #[.val (.ref a)] [(.int 1)]))
  refine g_goto hG X1 hx (hb hby d14_8) (pc' := 12) (by decide) (by decide) ?_
  show G (T1.setTop (mkF m 12 #[.val (.ref a)] [(.int 1)]))
  exact e_retZ hGe X1 hx hrt hlk (hb hby d14_12) (Or.inr rfl) e1 (by decide) (by decide) (⟨rfl, NF0, rfl⟩)

def Q_rmEm1 (Z : State) (a hp pp ky : Addr) (q : HP) (K : Int32 → UInt64) (h0 : Heap) (n0 : Nat) (v : Option Value) (h : Heap) (L : List Loc) : Prop := v = some (.int 0) ∧ Fr n0 L ∧ h = h0
set_option maxRecDepth 65536 in
set_option maxHeartbeats 40000000 in
theorem rmEm1 (l : Launch) (Z : State) (a0 : Array Value) (hw : ∀ d ∈ tables_1, d.before a0 Z = true) (ws : List Jvm.Cond) (a hp pp ky : Addr) (q : HP) (K : Int32 → UInt64) (h0 : Heap) (n0 : Nat) (Zs : n0 ≤ h0.size) (NQ : NH Z h0 a hp pp ky (1 : Int32) q K) (DD : Dis n0 a hp pp ky) :
    Con l (⟨"com/example/tributary/tributary/plan/NodeHeap", "isEmpty", "()Z"⟩ : MethodName) prog_39_method_2_code 1 (some .boolean) ws ({ frames := 0, cells := 0, slots := 0, locals := 0 } : Room) Z #[(.ref a)] h0 ({ frames := 0, cells := 0, slots := 0, locals := 0 } : Room).cells ({ frames := 0, cells := 0, slots := 0, locals := 0 } : Room).slots (Q_rmEm1 Z a hp pp ky q K h0 n0) := by
  refine Con.of (Ls := #[.val (.ref a)]) (plainFor_of_name (by first | (simp [plainName, overriddenIn]; done) | decide +kernel)) (fun m => by first | (simp [entryFrame, mkF, argsToLocals, Value.category]; done) | rfl) ?_
  intro p e s m below meth c s₁ G hGe hG hx hby hml hown hnm hrt hlk hZ X0 e0
  have hown : s.vm.findClass "com/example/tributary/tributary/plan/NodeHeap" = some m.cls := hown
  have hnm : meth.name = "isEmpty" := hnm
  have NF0 := Fr.nil n0
  obtain ⟨Ex_a, F_heap_a, F_position_a, F_key_a, F_size_a, V_hp, V_pp, V_ky⟩ := NQ
  obtain ⟨ga, ghp, gpp, gky, d1, d2, d3, d4, d5, d6⟩ := DD
  refine g_aloadN hG X0 hx (hb hby d14_0) (pc' := 1) rfl rfl rfl ?_
  show G (s₁.setTop (mkF m 1 #[.val (.ref a)] [(.ref a)]))
  refine g_getF hG X0 hx hZ hown (wd hw 27 rfl) Via.refl e0 F_size_a (hb hby d14_1) (pc' := 4) rfl ?_
  intro T1 X1 e1
  show G (T1.setTop (mkF m 4 #[.val (.ref a)] [(.int 1)]))
  refine g_ifYes hG X1 hx (hb hby d14_4) (pc' := 11) (by decide) (by decide) (by decide) ?_
  show G (T1.setTop (mkF m 11 #[.val (.ref a)] []))
  refine g_iconst hG X1 hx (hb hby d14_11) (pc' := 12) rfl (v := (0 : Int32)) rfl ?_
  show G (T1.setTop (mkF m 12 #[.val (.ref a)] [(.int 0)]))
  exact e_retZ hGe X1 hx hrt hlk (hb hby d14_12) (Or.inl rfl) e1 (by decide) (by decide) (⟨rfl, NF0, rfl⟩)

def Q_rmEm2 (Z : State) (a hp pp ky : Addr) (q : HP) (K : Int32 → UInt64) (h0 : Heap) (n0 : Nat) (v : Option Value) (h : Heap) (L : List Loc) : Prop := v = some (.int 0) ∧ Fr n0 L ∧ h = h0
set_option maxRecDepth 65536 in
set_option maxHeartbeats 40000000 in
theorem rmEm2 (l : Launch) (Z : State) (a0 : Array Value) (hw : ∀ d ∈ tables_1, d.before a0 Z = true) (ws : List Jvm.Cond) (a hp pp ky : Addr) (q : HP) (K : Int32 → UInt64) (h0 : Heap) (n0 : Nat) (Zs : n0 ≤ h0.size) (NQ : NH Z h0 a hp pp ky (2 : Int32) q K) (DD : Dis n0 a hp pp ky) :
    Con l (⟨"com/example/tributary/tributary/plan/NodeHeap", "isEmpty", "()Z"⟩ : MethodName) prog_39_method_2_code 1 (some .boolean) ws ({ frames := 0, cells := 0, slots := 0, locals := 0 } : Room) Z #[(.ref a)] h0 ({ frames := 0, cells := 0, slots := 0, locals := 0 } : Room).cells ({ frames := 0, cells := 0, slots := 0, locals := 0 } : Room).slots (Q_rmEm2 Z a hp pp ky q K h0 n0) := by
  refine Con.of (Ls := #[.val (.ref a)]) (plainFor_of_name (by first | (simp [plainName, overriddenIn]; done) | decide +kernel)) (fun m => by first | (simp [entryFrame, mkF, argsToLocals, Value.category]; done) | rfl) ?_
  intro p e s m below meth c s₁ G hGe hG hx hby hml hown hnm hrt hlk hZ X0 e0
  have hown : s.vm.findClass "com/example/tributary/tributary/plan/NodeHeap" = some m.cls := hown
  have hnm : meth.name = "isEmpty" := hnm
  have NF0 := Fr.nil n0
  obtain ⟨Ex_a, F_heap_a, F_position_a, F_key_a, F_size_a, V_hp, V_pp, V_ky⟩ := NQ
  obtain ⟨ga, ghp, gpp, gky, d1, d2, d3, d4, d5, d6⟩ := DD
  refine g_aloadN hG X0 hx (hb hby d14_0) (pc' := 1) rfl rfl rfl ?_
  show G (s₁.setTop (mkF m 1 #[.val (.ref a)] [(.ref a)]))
  refine g_getF hG X0 hx hZ hown (wd hw 27 rfl) Via.refl e0 F_size_a (hb hby d14_1) (pc' := 4) rfl ?_
  intro T1 X1 e1
  show G (T1.setTop (mkF m 4 #[.val (.ref a)] [(.int 2)]))
  refine g_ifYes hG X1 hx (hb hby d14_4) (pc' := 11) (by decide) (by decide) (by decide) ?_
  show G (T1.setTop (mkF m 11 #[.val (.ref a)] []))
  refine g_iconst hG X1 hx (hb hby d14_11) (pc' := 12) rfl (v := (0 : Int32)) rfl ?_
  show G (T1.setTop (mkF m 12 #[.val (.ref a)] [(.int 0)]))
  exact e_retZ hGe X1 hx hrt hlk (hb hby d14_12) (Or.inl rfl) e1 (by decide) (by decide) (⟨rfl, NF0, rfl⟩)

def Q_rmEm3 (Z : State) (a hp pp ky : Addr) (q : HP) (K : Int32 → UInt64) (h0 : Heap) (n0 : Nat) (v : Option Value) (h : Heap) (L : List Loc) : Prop := v = some (.int 0) ∧ Fr n0 L ∧ h = h0
set_option maxRecDepth 65536 in
set_option maxHeartbeats 40000000 in
theorem rmEm3 (l : Launch) (Z : State) (a0 : Array Value) (hw : ∀ d ∈ tables_1, d.before a0 Z = true) (ws : List Jvm.Cond) (a hp pp ky : Addr) (q : HP) (K : Int32 → UInt64) (h0 : Heap) (n0 : Nat) (Zs : n0 ≤ h0.size) (NQ : NH Z h0 a hp pp ky (3 : Int32) q K) (DD : Dis n0 a hp pp ky) :
    Con l (⟨"com/example/tributary/tributary/plan/NodeHeap", "isEmpty", "()Z"⟩ : MethodName) prog_39_method_2_code 1 (some .boolean) ws ({ frames := 0, cells := 0, slots := 0, locals := 0 } : Room) Z #[(.ref a)] h0 ({ frames := 0, cells := 0, slots := 0, locals := 0 } : Room).cells ({ frames := 0, cells := 0, slots := 0, locals := 0 } : Room).slots (Q_rmEm3 Z a hp pp ky q K h0 n0) := by
  refine Con.of (Ls := #[.val (.ref a)]) (plainFor_of_name (by first | (simp [plainName, overriddenIn]; done) | decide +kernel)) (fun m => by first | (simp [entryFrame, mkF, argsToLocals, Value.category]; done) | rfl) ?_
  intro p e s m below meth c s₁ G hGe hG hx hby hml hown hnm hrt hlk hZ X0 e0
  have hown : s.vm.findClass "com/example/tributary/tributary/plan/NodeHeap" = some m.cls := hown
  have hnm : meth.name = "isEmpty" := hnm
  have NF0 := Fr.nil n0
  obtain ⟨Ex_a, F_heap_a, F_position_a, F_key_a, F_size_a, V_hp, V_pp, V_ky⟩ := NQ
  obtain ⟨ga, ghp, gpp, gky, d1, d2, d3, d4, d5, d6⟩ := DD
  refine g_aloadN hG X0 hx (hb hby d14_0) (pc' := 1) rfl rfl rfl ?_
  show G (s₁.setTop (mkF m 1 #[.val (.ref a)] [(.ref a)]))
  refine g_getF hG X0 hx hZ hown (wd hw 27 rfl) Via.refl e0 F_size_a (hb hby d14_1) (pc' := 4) rfl ?_
  intro T1 X1 e1
  show G (T1.setTop (mkF m 4 #[.val (.ref a)] [(.int 3)]))
  refine g_ifYes hG X1 hx (hb hby d14_4) (pc' := 11) (by decide) (by decide) (by decide) ?_
  show G (T1.setTop (mkF m 11 #[.val (.ref a)] []))
  refine g_iconst hG X1 hx (hb hby d14_11) (pc' := 12) rfl (v := (0 : Int32)) rfl ?_
  show G (T1.setTop (mkF m 12 #[.val (.ref a)] [(.int 0)]))
  exact e_retZ hGe X1 hx hrt hlk (hb hby d14_12) (Or.inl rfl) e1 (by decide) (by decide) (⟨rfl, NF0, rfl⟩)

def Q_rmEm4 (Z : State) (a hp pp ky : Addr) (q : HP) (K : Int32 → UInt64) (h0 : Heap) (n0 : Nat) (v : Option Value) (h : Heap) (L : List Loc) : Prop := v = some (.int 0) ∧ Fr n0 L ∧ h = h0
set_option maxRecDepth 65536 in
set_option maxHeartbeats 40000000 in
theorem rmEm4 (l : Launch) (Z : State) (a0 : Array Value) (hw : ∀ d ∈ tables_1, d.before a0 Z = true) (ws : List Jvm.Cond) (a hp pp ky : Addr) (q : HP) (K : Int32 → UInt64) (h0 : Heap) (n0 : Nat) (Zs : n0 ≤ h0.size) (NQ : NH Z h0 a hp pp ky (4 : Int32) q K) (DD : Dis n0 a hp pp ky) :
    Con l (⟨"com/example/tributary/tributary/plan/NodeHeap", "isEmpty", "()Z"⟩ : MethodName) prog_39_method_2_code 1 (some .boolean) ws ({ frames := 0, cells := 0, slots := 0, locals := 0 } : Room) Z #[(.ref a)] h0 ({ frames := 0, cells := 0, slots := 0, locals := 0 } : Room).cells ({ frames := 0, cells := 0, slots := 0, locals := 0 } : Room).slots (Q_rmEm4 Z a hp pp ky q K h0 n0) := by
  refine Con.of (Ls := #[.val (.ref a)]) (plainFor_of_name (by first | (simp [plainName, overriddenIn]; done) | decide +kernel)) (fun m => by first | (simp [entryFrame, mkF, argsToLocals, Value.category]; done) | rfl) ?_
  intro p e s m below meth c s₁ G hGe hG hx hby hml hown hnm hrt hlk hZ X0 e0
  have hown : s.vm.findClass "com/example/tributary/tributary/plan/NodeHeap" = some m.cls := hown
  have hnm : meth.name = "isEmpty" := hnm
  have NF0 := Fr.nil n0
  obtain ⟨Ex_a, F_heap_a, F_position_a, F_key_a, F_size_a, V_hp, V_pp, V_ky⟩ := NQ
  obtain ⟨ga, ghp, gpp, gky, d1, d2, d3, d4, d5, d6⟩ := DD
  refine g_aloadN hG X0 hx (hb hby d14_0) (pc' := 1) rfl rfl rfl ?_
  show G (s₁.setTop (mkF m 1 #[.val (.ref a)] [(.ref a)]))
  refine g_getF hG X0 hx hZ hown (wd hw 27 rfl) Via.refl e0 F_size_a (hb hby d14_1) (pc' := 4) rfl ?_
  intro T1 X1 e1
  show G (T1.setTop (mkF m 4 #[.val (.ref a)] [(.int 4)]))
  refine g_ifYes hG X1 hx (hb hby d14_4) (pc' := 11) (by decide) (by decide) (by decide) ?_
  show G (T1.setTop (mkF m 11 #[.val (.ref a)] []))
  refine g_iconst hG X1 hx (hb hby d14_11) (pc' := 12) rfl (v := (0 : Int32)) rfl ?_
  show G (T1.setTop (mkF m 12 #[.val (.ref a)] [(.int 0)]))
  exact e_retZ hGe X1 hx hrt hlk (hb hby d14_12) (Or.inl rfl) e1 (by decide) (by decide) (⟨rfl, NF0, rfl⟩)

def Q_rmPl (Z : State) (a hp pp ky : Addr) (sz : Int32) (q : HP) (K : Int32 → UInt64) (x k : Int32) (h0 : Heap) (n0 : Nat) (v : Option Value) (h : Heap) (L : List Loc) : Prop := v = none ∧ Fr n0 L ∧ Keep h0 h [a, hp, pp, ky] ∧ NH Z h a hp pp ky sz (pl q x k) K
set_option maxRecDepth 65536 in
set_option maxHeartbeats 40000000 in
theorem rmPl (l : Launch) (Z : State) (a0 : Array Value) (hw : ∀ d ∈ tables_1, d.before a0 Z = true) (ws : List Jvm.Cond) (a hp pp ky : Addr) (sz : Int32) (q : HP) (K : Int32 → UInt64) (x k : Int32) (h0 : Heap) (n0 : Nat) (Zs : n0 ≤ h0.size) (NQ : NH Z h0 a hp pp ky sz q K) (DD : Dis n0 a hp pp ky) (ix : In4 x) (ik : In4 k) :
    Con l (⟨"com/example/tributary/tributary/plan/NodeHeap", "place", "(II)V"⟩ : MethodName) prog_39_method_8_code 3 none ws ({ frames := 0, cells := 0, slots := 0, locals := 0 } : Room) Z #[(.ref a), (.int x), (.int k)] h0 ({ frames := 0, cells := 0, slots := 0, locals := 0 } : Room).cells ({ frames := 0, cells := 0, slots := 0, locals := 0 } : Room).slots (Q_rmPl Z a hp pp ky sz q K x k h0 n0) := by
  refine Con.of (Ls := #[.val (.ref a), .val (.int x), .val (.int k)]) (plainFor_of_name (by first | (simp [plainName, overriddenIn]; done) | decide +kernel)) (fun m => by first | (simp [entryFrame, mkF, argsToLocals, Value.category]; done) | rfl) ?_
  intro p e s m below meth c s₁ G hGe hG hx hby hml hown hnm hrt hlk hZ X0 e0
  have hown : s.vm.findClass "com/example/tributary/tributary/plan/NodeHeap" = some m.cls := hown
  have hnm : meth.name = "place" := hnm
  have NF0 := Fr.nil n0
  obtain ⟨Ex_a, F_heap_a, F_position_a, F_key_a, F_size_a, V_hp, V_pp, V_ky⟩ := NQ
  obtain ⟨ga, ghp, gpp, gky, d1, d2, d3, d4, d5, d6⟩ := DD
  have K0 := Keep.refl h0 [a, hp, pp, ky]
  refine g_aloadN hG X0 hx (hb hby d6_0) (pc' := 1) rfl rfl rfl ?_
  show G (s₁.setTop (mkF m 1 #[.val (.ref a), .val (.int x), .val (.int k)] [(.ref a)]))
  refine g_getF hG X0 hx hZ hown (wd hw 11 rfl) Via.refl e0 F_heap_a (hb hby d6_1) (pc' := 4) rfl ?_
  intro T1 X1 e1
  show G (T1.setTop (mkF m 4 #[.val (.ref a), .val (.int x), .val (.int k)] [(.ref hp)]))
  refine g_iloadN hG X1 hx (hb hby d6_4) (pc' := 5) rfl rfl ?_
  show G (T1.setTop (mkF m 5 #[.val (.ref a), .val (.int x), .val (.int k)] [(.int k), (.ref hp)]))
  refine g_iloadN hG X1 hx (hb hby d6_5) (pc' := 6) rfl rfl ?_
  show G (T1.setTop (mkF m 6 #[.val (.ref a), .val (.int x), .val (.int k)] [(.int x), (.int k), (.ref hp)]))
  refine g_iastore hG X1 hx hZ e1 V_hp (j := k) (in4_nn ik) (in4_len ik) (hb hby d6_6) (pc' := 7) rfl ?_
  intro T2 h2 X2 e2 W2 Vn2
  rw [in4_set ik] at Vn2
  have V_hp : AV Z h2 hp .int (4 : Int32) (fn4 (upd q.1 k x)) := Vn2
  have Ex_a := Ex_a.wr W2
  have F_heap_a := F_heap_a.other W2 (Or.inl d1)
  have F_position_a := F_position_a.other W2 (Or.inl d1)
  have F_key_a := F_key_a.other W2 (Or.inl d1)
  have F_size_a := F_size_a.other W2 (Or.inl d1)
  have V_pp := V_pp.other W2 (Ne.symm d4)
  have V_ky := V_ky.other W2 (Ne.symm d5)
  have Zs := Nat.le_trans Zs (Wr.size W2)
  have NF2 := Fr.snoc X2 NF0 ghp
  have K2 := K0.wr W2 (Or.inl (List.mem_of_getElem? (i := 1) rfl))
  show G (T2.setTop (mkF m 7 #[.val (.ref a), .val (.int x), .val (.int k)] []))
  refine g_aloadN hG X2 hx (hb hby d6_7) (pc' := 8) rfl rfl rfl ?_
  show G (T2.setTop (mkF m 8 #[.val (.ref a), .val (.int x), .val (.int k)] [(.ref a)]))
  refine g_getF hG X2 hx hZ hown (wd hw 13 rfl) Via.refl e2 F_position_a (hb hby d6_8) (pc' := 11) rfl ?_
  intro T3 X3 e3
  show G (T3.setTop (mkF m 11 #[.val (.ref a), .val (.int x), .val (.int k)] [(.ref pp)]))
  refine g_iloadN hG X3 hx (hb hby d6_11) (pc' := 12) rfl rfl ?_
  show G (T3.setTop (mkF m 12 #[.val (.ref a), .val (.int x), .val (.int k)] [(.int x), (.ref pp)]))
  refine g_iloadN hG X3 hx (hb hby d6_12) (pc' := 13) rfl rfl ?_
  show G (T3.setTop (mkF m 13 #[.val (.ref a), .val (.int x), .val (.int k)] [(.int k), (.int x), (.ref pp)]))
  refine g_iastore hG X3 hx hZ e3 V_pp (j := x) (in4_nn ix) (in4_len ix) (hb hby d6_13) (pc' := 14) rfl ?_
  intro T4 h4 X4 e4 W4 Vn4
  rw [in4_set ix] at Vn4
  have V_pp : AV Z h4 pp .int (4 : Int32) (fn4 (upd q.2 x k)) := Vn4
  have Ex_a := Ex_a.wr W4
  have F_heap_a := F_heap_a.other W4 (Or.inl d2)
  have F_position_a := F_position_a.other W4 (Or.inl d2)
  have F_key_a := F_key_a.other W4 (Or.inl d2)
  have F_size_a := F_size_a.other W4 (Or.inl d2)
  have V_hp := V_hp.other W4 d4
  have V_ky := V_ky.other W4 (Ne.symm d6)
  have Zs := Nat.le_trans Zs (Wr.size W4)
  have NF4 := Fr.snoc X4 NF2 gpp
  have K4 := K2.wr W4 (Or.inl (List.mem_of_getElem? (i := 2) rfl))
  show G (T4.setTop (mkF m 14 #[.val (.ref a), .val (.int x), .val (.int k)] []))
  exact e_ret0 hGe X4 hx hrt hlk (hb hby d6_14) e4 (by decide) (by decide) (⟨rfl, NF4, K4, Ex_a, F_heap_a, F_position_a, F_key_a, F_size_a, V_hp, V_pp, V_ky⟩)

def Q_rmBe (Z : State) (a hp pp ky : Addr) (sz : Int32) (q : HP) (K : Int32 → UInt64) (x y r : Int32) (h0 : Heap) (n0 : Nat) (v : Option Value) (h : Heap) (L : List Loc) : Prop := v = some (.int r) ∧ Fr n0 L ∧ h = h0
set_option maxRecDepth 65536 in
set_option maxHeartbeats 40000000 in
theorem rmBe (l : Launch) (Z : State) (a0 : Array Value) (hw : ∀ d ∈ tables_1, d.before a0 Z = true) (ws : List Jvm.Cond) (a hp pp ky : Addr) (sz : Int32) (q : HP) (K : Int32 → UInt64) (x y r : Int32) (h0 : Heap) (n0 : Nat) (Zs : n0 ≤ h0.size) (NQ : NH Z h0 a hp pp ky sz q K) (DD : Dis n0 a hp pp ky) (ix : In4 x) (iy : In4 y) (hb : BfR K x y r) :
    Con l (⟨"com/example/tributary/tributary/plan/NodeHeap", "before", "(II)Z"⟩ : MethodName) prog_39_method_5_code 3 (some .boolean) ws ({ frames := 0, cells := 0, slots := 0, locals := 0 } : Room) Z #[(.ref a), (.int x), (.int y)] h0 ({ frames := 0, cells := 0, slots := 0, locals := 0 } : Room).cells ({ frames := 0, cells := 0, slots := 0, locals := 0 } : Room).slots (Q_rmBe Z a hp pp ky sz q K x y r h0 n0) := by
  refine Con.of (Ls := #[.val (.ref a), .val (.int x), .val (.int y)]) (plainFor_of_name (by first | (simp [plainName, overriddenIn]; done) | decide +kernel)) (fun m => by first | (simp [entryFrame, mkF, argsToLocals, Value.category]; done) | rfl) ?_
  intro p e s m below meth c s₁ G hGe hG hx hby hml hown hnm hrt hlk hZ X0 e0
  have hown : s.vm.findClass "com/example/tributary/tributary/plan/NodeHeap" = some m.cls := hown
  have hnm : meth.name = "before" := hnm
  have NF0 := Fr.nil n0
  obtain ⟨Ex_a, F_heap_a, F_position_a, F_key_a, F_size_a, V_hp, V_pp, V_ky⟩ := NQ
  obtain ⟨ga, ghp, gpp, gky, d1, d2, d3, d4, d5, d6⟩ := DD
  rcases hb with ⟨c1, hr⟩ | ⟨c1, c2, hr⟩ | ⟨c1, c2, hr⟩ | ⟨c1, hr⟩
  · skip
    refine g_aloadN hG X0 hx (hb hby d7_0) (pc' := 1) rfl rfl rfl ?_
    show G (s₁.setTop (mkF m 1 #[.val (.ref a), .val (.int x), .val (.int y)] [(.ref a)]))
    refine g_getF hG X0 hx hZ hown (wd hw 16 rfl) Via.refl e0 F_key_a (hb hby d7_1) (pc' := 4) rfl ?_
    intro T1 X1 e1
    show G (T1.setTop (mkF m 4 #[.val (.ref a), .val (.int x), .val (.int y)] [(.ref ky)]))
    refine g_iloadN hG X1 hx (hb hby d7_4) (pc' := 5) rfl rfl ?_
    show G (T1.setTop (mkF m 5 #[.val (.ref a), .val (.int x), .val (.int y)] [(.int x), (.ref ky)]))
    refine g_daload hG X1 hx hZ e1 V_ky (j := x) (v := (.double (K x))) (in4_nn ix) (in4_atd ix rfl) (hb hby d7_5) (pc' := 6) rfl ?_
    show G (T1.setTop (mkF m 6 #[.val (.ref a), .val (.int x), .val (.int y)] [(.double (K x))]))
    refine g_aloadN hG X1 hx (hb hby d7_6) (pc' := 7) rfl rfl rfl ?_
    show G (T1.setTop (mkF m 7 #[.val (.ref a), .val (.int x), .val (.int y)] [(.ref a), (.double (K x))]))
    refine g_getF hG X1 hx hZ hown (wd hw 16 rfl) Via.refl e1 F_key_a (hb hby d7_7) (pc' := 10) rfl ?_
    intro T2 X2 e2
    show G (T2.setTop (mkF m 10 #[.val (.ref a), .val (.int x), .val (.int y)] [(.ref ky), (.double (K x))]))
    refine g_iloadN hG X2 hx (hb hby d7_10) (pc' := 11) rfl rfl ?_
    show G (T2.setTop (mkF m 11 #[.val (.ref a), .val (.int x), .val (.int y)] [(.int y), (.ref ky), (.double (K x))]))
    refine g_daload hG X2 hx hZ e2 V_ky (j := y) (v := (.double (K y))) (in4_nn iy) (in4_atd iy rfl) (hb hby d7_11) (pc' := 12) rfl ?_
    show G (T2.setTop (mkF m 12 #[.val (.ref a), .val (.int x), .val (.int y)] [(.double (K y)), (.double (K x))]))
    obtain ⟨v12, q12⟩ : ∃ zz : Int32, cmpValue (FP.dcmp (K x) (K y)) .g = zz := ⟨_, rfl⟩
    refine g_dcmp hG X2 hx (hb hby d7_12) (pc' := 13) rfl q12 ?_
    show G (T2.setTop (mkF m 13 #[.val (.ref a), .val (.int x), .val (.int y)] [(.int v12)]))
    refine g_ifYes hG X2 hx (hb hby d7_13) (pc' := 37) (by rw [← q12, c1]; rfl) (by decide) (by decide) ?_
    show G (T2.setTop (mkF m 37 #[.val (.ref a), .val (.int x), .val (.int y)] []))
    refine g_iconst hG X2 hx (hb hby d7_37) (pc' := 38) rfl (v := (1 : Int32)) rfl ?_
    show G (T2.setTop (mkF m 38 #[.val (.ref a), .val (.int x), .val (.int y)] [(.int 1)]))
    refine g_goto hG X2 hx (hb hby d7_38) (pc' := 42) (by decide) (by decide) ?_
    show G (T2.setTop (mkF m 42 #[.val (.ref a), .val (.int x), .val (.int y)] [(.int 1)]))
    exact e_retZ hGe X2 hx hrt hlk (hb hby d7_42) (Or.inr rfl) e2 (by decide) (by decide) (⟨by rw [hr], NF0, rfl⟩)
  · skip
    refine g_aloadN hG X0 hx (hb hby d7_0) (pc' := 1) rfl rfl rfl ?_
    show G (s₁.setTop (mkF m 1 #[.val (.ref a), .val (.int x), .val (.int y)] [(.ref a)]))
    refine g_getF hG X0 hx hZ hown (wd hw 16 rfl) Via.refl e0 F_key_a (hb hby d7_1) (pc' := 4) rfl ?_
    intro T3 X3 e3
    show G (T3.setTop (mkF m 4 #[.val (.ref a), .val (.int x), .val (.int y)] [(.ref ky)]))
    refine g_iloadN hG X3 hx (hb hby d7_4) (pc' := 5) rfl rfl ?_
    show G (T3.setTop (mkF m 5 #[.val (.ref a), .val (.int x), .val (.int y)] [(.int x), (.ref ky)]))
    refine g_daload hG X3 hx hZ e3 V_ky (j := x) (v := (.double (K x))) (in4_nn ix) (in4_atd ix rfl) (hb hby d7_5) (pc' := 6) rfl ?_
    show G (T3.setTop (mkF m 6 #[.val (.ref a), .val (.int x), .val (.int y)] [(.double (K x))]))
    refine g_aloadN hG X3 hx (hb hby d7_6) (pc' := 7) rfl rfl rfl ?_
    show G (T3.setTop (mkF m 7 #[.val (.ref a), .val (.int x), .val (.int y)] [(.ref a), (.double (K x))]))
    refine g_getF hG X3 hx hZ hown (wd hw 16 rfl) Via.refl e3 F_key_a (hb hby d7_7) (pc' := 10) rfl ?_
    intro T4 X4 e4
    show G (T4.setTop (mkF m 10 #[.val (.ref a), .val (.int x), .val (.int y)] [(.ref ky), (.double (K x))]))
    refine g_iloadN hG X4 hx (hb hby d7_10) (pc' := 11) rfl rfl ?_
    show G (T4.setTop (mkF m 11 #[.val (.ref a), .val (.int x), .val (.int y)] [(.int y), (.ref ky), (.double (K x))]))
    refine g_daload hG X4 hx hZ e4 V_ky (j := y) (v := (.double (K y))) (in4_nn iy) (in4_atd iy rfl) (hb hby d7_11) (pc' := 12) rfl ?_
    show G (T4.setTop (mkF m 12 #[.val (.ref a), .val (.int x), .val (.int y)] [(.double (K y)), (.double (K x))]))
    obtain ⟨v12, q12⟩ : ∃ zz : Int32, cmpValue (FP.dcmp (K x) (K y)) .g = zz := ⟨_, rfl⟩
    refine g_dcmp hG X4 hx (hb hby d7_12) (pc' := 13) rfl q12 ?_
    show G (T4.setTop (mkF m 13 #[.val (.ref a), .val (.int x), .val (.int y)] [(.int v12)]))
    refine g_ifNo hG X4 hx (hb hby d7_13) (pc' := 16) (by rw [← q12, c1]; rfl) rfl ?_
    show G (T4.setTop (mkF m 16 #[.val (.ref a), .val (.int x), .val (.int y)] []))
    refine g_aloadN hG X4 hx (hb hby d7_16) (pc' := 17) rfl rfl rfl ?_
    show G (T4.setTop (mkF m 17 #[.val (.ref a), .val (.int x), .val (.int y)] [(.ref a)]))
    refine g_getF hG X4 hx hZ hown (wd hw 16 rfl) Via.refl e4 F_key_a (hb hby d7_17) (pc' := 20) rfl ?_
    intro T5 X5 e5
    show G (T5.setTop (mkF m 20 #[.val (.ref a), .val (.int x), .val (.int y)] [(.ref ky)]))
    refine g_iloadN hG X5 hx (hb hby d7_20) (pc' := 21) rfl rfl ?_
    show G (T5.setTop (mkF m 21 #[.val (.ref a), .val (.int x), .val (.int y)] [(.int x), (.ref ky)]))
    refine g_daload hG X5 hx hZ e5 V_ky (j := x) (v := (.double (K x))) (in4_nn ix) (in4_atd ix rfl) (hb hby d7_21) (pc' := 22) rfl ?_
    show G (T5.setTop (mkF m 22 #[.val (.ref a), .val (.int x), .val (.int y)] [(.double (K x))]))
    refine g_aloadN hG X5 hx (hb hby d7_22) (pc' := 23) rfl rfl rfl ?_
    show G (T5.setTop (mkF m 23 #[.val (.ref a), .val (.int x), .val (.int y)] [(.ref a), (.double (K x))]))
    refine g_getF hG X5 hx hZ hown (wd hw 16 rfl) Via.refl e5 F_key_a (hb hby d7_23) (pc' := 26) rfl ?_
    intro T6 X6 e6
    show G (T6.setTop (mkF m 26 #[.val (.ref a), .val (.int x), .val (.int y)] [(.ref ky), (.double (K x))]))
    refine g_iloadN hG X6 hx (hb hby d7_26) (pc' := 27) rfl rfl ?_
    show G (T6.setTop (mkF m 27 #[.val (.ref a), .val (.int x), .val (.int y)] [(.int y), (.ref ky), (.double (K x))]))
    refine g_daload hG X6 hx hZ e6 V_ky (j := y) (v := (.double (K y))) (in4_nn iy) (in4_atd iy rfl) (hb hby d7_27) (pc' := 28) rfl ?_
    show G (T6.setTop (mkF m 28 #[.val (.ref a), .val (.int x), .val (.int y)] [(.double (K y)), (.double (K x))]))
    obtain ⟨v28, q28⟩ : ∃ zz : Int32, cmpValue (FP.dcmp (K x) (K y)) .l = zz := ⟨_, rfl⟩
    refine g_dcmp hG X6 hx (hb hby d7_28) (pc' := 29) rfl q28 ?_
    show G (T6.setTop (mkF m 29 #[.val (.ref a), .val (.int x), .val (.int y)] [(.int v28)]))
    refine g_ifNo hG X6 hx (hb hby d7_29) (pc' := 32) (by rw [← q28, c1]; rfl) rfl ?_
    show G (T6.setTop (mkF m 32 #[.val (.ref a), .val (.int x), .val (.int y)] []))
    refine g_iloadN hG X6 hx (hb hby d7_32) (pc' := 33) rfl rfl ?_
    show G (T6.setTop (mkF m 33 #[.val (.ref a), .val (.int x), .val (.int y)] [(.int x)]))
    refine g_iloadN hG X6 hx (hb hby d7_33) (pc' := 34) rfl rfl ?_
    show G (T6.setTop (mkF m 34 #[.val (.ref a), .val (.int x), .val (.int y)] [(.int y), (.int x)]))
    refine g_icmpNo hG X6 hx (hb hby d7_34) (pc' := 37) ((tlt c2).2.1) rfl ?_
    show G (T6.setTop (mkF m 37 #[.val (.ref a), .val (.int x), .val (.int y)] []))
    refine g_iconst hG X6 hx (hb hby d7_37) (pc' := 38) rfl (v := (1 : Int32)) rfl ?_
    show G (T6.setTop (mkF m 38 #[.val (.ref a), .val (.int x), .val (.int y)] [(.int 1)]))
    refine g_goto hG X6 hx (hb hby d7_38) (pc' := 42) (by decide) (by decide) ?_
    show G (T6.setTop (mkF m 42 #[.val (.ref a), .val (.int x), .val (.int y)] [(.int 1)]))
    exact e_retZ hGe X6 hx hrt hlk (hb hby d7_42) (Or.inr rfl) e6 (by decide) (by decide) (⟨by rw [hr], NF0, rfl⟩)
  · skip
    refine g_aloadN hG X0 hx (hb hby d7_0) (pc' := 1) rfl rfl rfl ?_
    show G (s₁.setTop (mkF m 1 #[.val (.ref a), .val (.int x), .val (.int y)] [(.ref a)]))
    refine g_getF hG X0 hx hZ hown (wd hw 16 rfl) Via.refl e0 F_key_a (hb hby d7_1) (pc' := 4) rfl ?_
    intro T7 X7 e7
    show G (T7.setTop (mkF m 4 #[.val (.ref a), .val (.int x), .val (.int y)] [(.ref ky)]))
    refine g_iloadN hG X7 hx (hb hby d7_4) (pc' := 5) rfl rfl ?_
    show G (T7.setTop (mkF m 5 #[.val (.ref a), .val (.int x), .val (.int y)] [(.int x), (.ref ky)]))
    refine g_daload hG X7 hx hZ e7 V_ky (j := x) (v := (.double (K x))) (in4_nn ix) (in4_atd ix rfl) (hb hby d7_5) (pc' := 6) rfl ?_
    show G (T7.setTop (mkF m 6 #[.val (.ref a), .val (.int x), .val (.int y)] [(.double (K x))]))
    refine g_aloadN hG X7 hx (hb hby d7_6) (pc' := 7) rfl rfl rfl ?_
    show G (T7.setTop (mkF m 7 #[.val (.ref a), .val (.int x), .val (.int y)] [(.ref a), (.double (K x))]))
    refine g_getF hG X7 hx hZ hown (wd hw 16 rfl) Via.refl e7 F_key_a (hb hby d7_7) (pc' := 10) rfl ?_
    intro T8 X8 e8
    show G (T8.setTop (mkF m 10 #[.val (.ref a), .val (.int x), .val (.int y)] [(.ref ky), (.double (K x))]))
    refine g_iloadN hG X8 hx (hb hby d7_10) (pc' := 11) rfl rfl ?_
    show G (T8.setTop (mkF m 11 #[.val (.ref a), .val (.int x), .val (.int y)] [(.int y), (.ref ky), (.double (K x))]))
    refine g_daload hG X8 hx hZ e8 V_ky (j := y) (v := (.double (K y))) (in4_nn iy) (in4_atd iy rfl) (hb hby d7_11) (pc' := 12) rfl ?_
    show G (T8.setTop (mkF m 12 #[.val (.ref a), .val (.int x), .val (.int y)] [(.double (K y)), (.double (K x))]))
    obtain ⟨v12, q12⟩ : ∃ zz : Int32, cmpValue (FP.dcmp (K x) (K y)) .g = zz := ⟨_, rfl⟩
    refine g_dcmp hG X8 hx (hb hby d7_12) (pc' := 13) rfl q12 ?_
    show G (T8.setTop (mkF m 13 #[.val (.ref a), .val (.int x), .val (.int y)] [(.int v12)]))
    refine g_ifNo hG X8 hx (hb hby d7_13) (pc' := 16) (by rw [← q12, c1]; rfl) rfl ?_
    show G (T8.setTop (mkF m 16 #[.val (.ref a), .val (.int x), .val (.int y)] []))
    refine g_aloadN hG X8 hx (hb hby d7_16) (pc' := 17) rfl rfl rfl ?_
    show G (T8.setTop (mkF m 17 #[.val (.ref a), .val (.int x), .val (.int y)] [(.ref a)]))
    refine g_getF hG X8 hx hZ hown (wd hw 16 rfl) Via.refl e8 F_key_a (hb hby d7_17) (pc' := 20) rfl ?_
    intro T9 X9 e9
    show G (T9.setTop (mkF m 20 #[.val (.ref a), .val (.int x), .val (.int y)] [(.ref ky)]))
    refine g_iloadN hG X9 hx (hb hby d7_20) (pc' := 21) rfl rfl ?_
    show G (T9.setTop (mkF m 21 #[.val (.ref a), .val (.int x), .val (.int y)] [(.int x), (.ref ky)]))
    refine g_daload hG X9 hx hZ e9 V_ky (j := x) (v := (.double (K x))) (in4_nn ix) (in4_atd ix rfl) (hb hby d7_21) (pc' := 22) rfl ?_
    show G (T9.setTop (mkF m 22 #[.val (.ref a), .val (.int x), .val (.int y)] [(.double (K x))]))
    refine g_aloadN hG X9 hx (hb hby d7_22) (pc' := 23) rfl rfl rfl ?_
    show G (T9.setTop (mkF m 23 #[.val (.ref a), .val (.int x), .val (.int y)] [(.ref a), (.double (K x))]))
    refine g_getF hG X9 hx hZ hown (wd hw 16 rfl) Via.refl e9 F_key_a (hb hby d7_23) (pc' := 26) rfl ?_
    intro T10 X10 e10
    show G (T10.setTop (mkF m 26 #[.val (.ref a), .val (.int x), .val (.int y)] [(.ref ky), (.double (K x))]))
    refine g_iloadN hG X10 hx (hb hby d7_26) (pc' := 27) rfl rfl ?_
    show G (T10.setTop (mkF m 27 #[.val (.ref a), .val (.int x), .val (.int y)] [(.int y), (.ref ky), (.double (K x))]))
    refine g_daload hG X10 hx hZ e10 V_ky (j := y) (v := (.double (K y))) (in4_nn iy) (in4_atd iy rfl) (hb hby d7_27) (pc' := 28) rfl ?_
    show G (T10.setTop (mkF m 28 #[.val (.ref a), .val (.int x), .val (.int y)] [(.double (K y)), (.double (K x))]))
    obtain ⟨v28, q28⟩ : ∃ zz : Int32, cmpValue (FP.dcmp (K x) (K y)) .l = zz := ⟨_, rfl⟩
    refine g_dcmp hG X10 hx (hb hby d7_28) (pc' := 29) rfl q28 ?_
    show G (T10.setTop (mkF m 29 #[.val (.ref a), .val (.int x), .val (.int y)] [(.int v28)]))
    refine g_ifNo hG X10 hx (hb hby d7_29) (pc' := 32) (by rw [← q28, c1]; rfl) rfl ?_
    show G (T10.setTop (mkF m 32 #[.val (.ref a), .val (.int x), .val (.int y)] []))
    refine g_iloadN hG X10 hx (hb hby d7_32) (pc' := 33) rfl rfl ?_
    show G (T10.setTop (mkF m 33 #[.val (.ref a), .val (.int x), .val (.int y)] [(.int x)]))
    refine g_iloadN hG X10 hx (hb hby d7_33) (pc' := 34) rfl rfl ?_
    show G (T10.setTop (mkF m 34 #[.val (.ref a), .val (.int x), .val (.int y)] [(.int y), (.int x)]))
    refine g_icmpYes hG X10 hx (hb hby d7_34) (pc' := 41) ((flt c2).2.1) (by decide) (by decide) ?_
    show G (T10.setTop (mkF m 41 #[.val (.ref a), .val (.int x), .val (.int y)] []))
    refine g_iconst hG X10 hx (hb hby d7_41) (pc' := 42) rfl (v := (0 : Int32)) rfl ?_
    show G (T10.setTop (mkF m 42 #[.val (.ref a), .val (.int x), .val (.int y)] [(.int 0)]))
    exact e_retZ hGe X10 hx hrt hlk (hb hby d7_42) (Or.inl rfl) e10 (by decide) (by decide) (⟨by rw [hr], NF0, rfl⟩)
  · skip
    refine g_aloadN hG X0 hx (hb hby d7_0) (pc' := 1) rfl rfl rfl ?_
    show G (s₁.setTop (mkF m 1 #[.val (.ref a), .val (.int x), .val (.int y)] [(.ref a)]))
    refine g_getF hG X0 hx hZ hown (wd hw 16 rfl) Via.refl e0 F_key_a (hb hby d7_1) (pc' := 4) rfl ?_
    intro T11 X11 e11
    show G (T11.setTop (mkF m 4 #[.val (.ref a), .val (.int x), .val (.int y)] [(.ref ky)]))
    refine g_iloadN hG X11 hx (hb hby d7_4) (pc' := 5) rfl rfl ?_
    show G (T11.setTop (mkF m 5 #[.val (.ref a), .val (.int x), .val (.int y)] [(.int x), (.ref ky)]))
    refine g_daload hG X11 hx hZ e11 V_ky (j := x) (v := (.double (K x))) (in4_nn ix) (in4_atd ix rfl) (hb hby d7_5) (pc' := 6) rfl ?_
    show G (T11.setTop (mkF m 6 #[.val (.ref a), .val (.int x), .val (.int y)] [(.double (K x))]))
    refine g_aloadN hG X11 hx (hb hby d7_6) (pc' := 7) rfl rfl rfl ?_
    show G (T11.setTop (mkF m 7 #[.val (.ref a), .val (.int x), .val (.int y)] [(.ref a), (.double (K x))]))
    refine g_getF hG X11 hx hZ hown (wd hw 16 rfl) Via.refl e11 F_key_a (hb hby d7_7) (pc' := 10) rfl ?_
    intro T12 X12 e12
    show G (T12.setTop (mkF m 10 #[.val (.ref a), .val (.int x), .val (.int y)] [(.ref ky), (.double (K x))]))
    refine g_iloadN hG X12 hx (hb hby d7_10) (pc' := 11) rfl rfl ?_
    show G (T12.setTop (mkF m 11 #[.val (.ref a), .val (.int x), .val (.int y)] [(.int y), (.ref ky), (.double (K x))]))
    refine g_daload hG X12 hx hZ e12 V_ky (j := y) (v := (.double (K y))) (in4_nn iy) (in4_atd iy rfl) (hb hby d7_11) (pc' := 12) rfl ?_
    show G (T12.setTop (mkF m 12 #[.val (.ref a), .val (.int x), .val (.int y)] [(.double (K y)), (.double (K x))]))
    obtain ⟨v12, q12⟩ : ∃ zz : Int32, cmpValue (FP.dcmp (K x) (K y)) .g = zz := ⟨_, rfl⟩
    refine g_dcmp hG X12 hx (hb hby d7_12) (pc' := 13) rfl q12 ?_
    show G (T12.setTop (mkF m 13 #[.val (.ref a), .val (.int x), .val (.int y)] [(.int v12)]))
    refine g_ifNo hG X12 hx (hb hby d7_13) (pc' := 16) (by rw [← q12, c1]; rfl) rfl ?_
    show G (T12.setTop (mkF m 16 #[.val (.ref a), .val (.int x), .val (.int y)] []))
    refine g_aloadN hG X12 hx (hb hby d7_16) (pc' := 17) rfl rfl rfl ?_
    show G (T12.setTop (mkF m 17 #[.val (.ref a), .val (.int x), .val (.int y)] [(.ref a)]))
    refine g_getF hG X12 hx hZ hown (wd hw 16 rfl) Via.refl e12 F_key_a (hb hby d7_17) (pc' := 20) rfl ?_
    intro T13 X13 e13
    show G (T13.setTop (mkF m 20 #[.val (.ref a), .val (.int x), .val (.int y)] [(.ref ky)]))
    refine g_iloadN hG X13 hx (hb hby d7_20) (pc' := 21) rfl rfl ?_
    show G (T13.setTop (mkF m 21 #[.val (.ref a), .val (.int x), .val (.int y)] [(.int x), (.ref ky)]))
    refine g_daload hG X13 hx hZ e13 V_ky (j := x) (v := (.double (K x))) (in4_nn ix) (in4_atd ix rfl) (hb hby d7_21) (pc' := 22) rfl ?_
    show G (T13.setTop (mkF m 22 #[.val (.ref a), .val (.int x), .val (.int y)] [(.double (K x))]))
    refine g_aloadN hG X13 hx (hb hby d7_22) (pc' := 23) rfl rfl rfl ?_
    show G (T13.setTop (mkF m 23 #[.val (.ref a), .val (.int x), .val (.int y)] [(.ref a), (.double (K x))]))
    refine g_getF hG X13 hx hZ hown (wd hw 16 rfl) Via.refl e13 F_key_a (hb hby d7_23) (pc' := 26) rfl ?_
    intro T14 X14 e14
    show G (T14.setTop (mkF m 26 #[.val (.ref a), .val (.int x), .val (.int y)] [(.ref ky), (.double (K x))]))
    refine g_iloadN hG X14 hx (hb hby d7_26) (pc' := 27) rfl rfl ?_
    show G (T14.setTop (mkF m 27 #[.val (.ref a), .val (.int x), .val (.int y)] [(.int y), (.ref ky), (.double (K x))]))
    refine g_daload hG X14 hx hZ e14 V_ky (j := y) (v := (.double (K y))) (in4_nn iy) (in4_atd iy rfl) (hb hby d7_27) (pc' := 28) rfl ?_
    show G (T14.setTop (mkF m 28 #[.val (.ref a), .val (.int x), .val (.int y)] [(.double (K y)), (.double (K x))]))
    obtain ⟨v28, q28⟩ : ∃ zz : Int32, cmpValue (FP.dcmp (K x) (K y)) .l = zz := ⟨_, rfl⟩
    refine g_dcmp hG X14 hx (hb hby d7_28) (pc' := 29) rfl q28 ?_
    show G (T14.setTop (mkF m 29 #[.val (.ref a), .val (.int x), .val (.int y)] [(.int v28)]))
    refine g_ifYes hG X14 hx (hb hby d7_29) (pc' := 41) (by rw [← q28, c1]; rfl) (by decide) (by decide) ?_
    show G (T14.setTop (mkF m 41 #[.val (.ref a), .val (.int x), .val (.int y)] []))
    refine g_iconst hG X14 hx (hb hby d7_41) (pc' := 42) rfl (v := (0 : Int32)) rfl ?_
    show G (T14.setTop (mkF m 42 #[.val (.ref a), .val (.int x), .val (.int y)] [(.int 0)]))
    exact e_retZ hGe X14 hx hrt hlk (hb hby d7_42) (Or.inl rfl) e14 (by decide) (by decide) (⟨by rw [hr], NF0, rfl⟩)

def Q_rmRs0 (Z : State) (a hp pp ky : Addr) (sz : Int32) (q : HP) (K : Int32 → UInt64) (bt : Int32 → Int32 → Bool) (h0 : Heap) (n0 : Nat) (v : Option Value) (h : Heap) (L : List Loc) : Prop := v = none ∧ Fr n0 L ∧ Keep h0 h [a, hp, pp, ky] ∧ NH Z h a hp pp ky sz (rs0 bt q) K
set_option maxRecDepth 65536 in
set_option maxHeartbeats 40000000 in
theorem rmRs0 (l : Launch) (Z : State) (a0 : Array Value) (hw : ∀ d ∈ tables_1, d.before a0 Z = true) (ws : List Jvm.Cond) (a hp pp ky : Addr) (sz : Int32) (q : HP) (K : Int32 → UInt64) (bt : Int32 → Int32 → Bool) (h0 : Heap) (n0 : Nat) (Zs : n0 ≤ h0.size) (NQ : NH Z h0 a hp pp ky sz q K) (DD : Dis n0 a hp pp ky) (ii : I4 1 q) (hbb : HB 0 K bt q) :
    Con l (⟨"com/example/tributary/tributary/plan/NodeHeap", "rise", "(I)V"⟩ : MethodName) prog_39_method_6_code 4 none ws ({ frames := 1, cells := 0, slots := 0, locals := 24 } : Room) Z #[(.ref a), (.int 0)] h0 ({ frames := 1, cells := 0, slots := 0, locals := 24 } : Room).cells ({ frames := 1, cells := 0, slots := 0, locals := 24 } : Room).slots (Q_rmRs0 Z a hp pp ky sz q K bt h0 n0) := by
  refine Con.of (Ls := #[.val (.ref a), .val (.int 0), .unset, .unset]) (plainFor_of_name (by first | (simp [plainName, overriddenIn]; done) | decide +kernel)) (fun m => by first | (simp [entryFrame, mkF, argsToLocals, Value.category]; done) | rfl) ?_
  intro p e s m below meth c s₁ G hGe hG hx hby hml hown hnm hrt hlk hZ X0 e0
  have hown : s.vm.findClass "com/example/tributary/tributary/plan/NodeHeap" = some m.cls := hown
  have hnm : meth.name = "rise" := hnm
  have NF0 := Fr.nil n0
  obtain ⟨Ex_a, F_heap_a, F_position_a, F_key_a, F_size_a, V_hp, V_pp, V_ky⟩ := NQ
  obtain ⟨ga, ghp, gpp, gky, d1, d2, d3, d4, d5, d6⟩ := DD
  have K0 := Keep.refl h0 [a, hp, pp, ky]
  refine g_aloadN hG X0 hx (hb hby d5_0) (pc' := 1) rfl rfl rfl ?_
  show G (s₁.setTop (mkF m 1 #[.val (.ref a), .val (.int 0), .unset, .unset] [(.ref a)]))
  refine g_getF hG X0 hx hZ hown (wd hw 11 rfl) Via.refl e0 F_heap_a (hb hby d5_1) (pc' := 4) rfl ?_
  intro T1 X1 e1
  show G (T1.setTop (mkF m 4 #[.val (.ref a), .val (.int 0), .unset, .unset] [(.ref hp)]))
  refine g_iloadN hG X1 hx (hb hby d5_4) (pc' := 5) rfl rfl ?_
  show G (T1.setTop (mkF m 5 #[.val (.ref a), .val (.int 0), .unset, .unset] [(.int 0), (.ref hp)]))
  refine g_iaload hG X1 hx hZ e1 V_hp (j := (0 : Int32)) (v := (.int (q.1 (0 : Int32)))) (in4_nn in4_0) (in4_at in4_0 rfl) (hb hby d5_5) (pc' := 6) rfl ?_
  show G (T1.setTop (mkF m 6 #[.val (.ref a), .val (.int 0), .unset, .unset] [(.int (q.1 (0 : Int32)))]))
  refine g_istoreN hG X1 hx (hb hby d5_6) (pc' := 7) rfl (Ls' := #[.val (.ref a), .val (.int 0), .val (.int (q.1 (0 : Int32))), .unset]) rfl ?_
  show G (T1.setTop (mkF m 7 #[.val (.ref a), .val (.int 0), .val (.int (q.1 (0 : Int32))), .unset] []))
  refine g_iloadN hG X1 hx (hb hby d5_7) (pc' := 8) rfl rfl ?_
  show G (T1.setTop (mkF m 8 #[.val (.ref a), .val (.int 0), .val (.int (q.1 (0 : Int32))), .unset] [(.int 0)]))
  refine g_ifYes hG X1 hx (hb hby d5_8) (pc' := 50) (by decide) (by decide) (by decide) ?_
  show G (T1.setTop (mkF m 50 #[.val (.ref a), .val (.int 0), .val (.int (q.1 (0 : Int32))), .unset] []))
  refine g_aloadN hG X1 hx (hb hby d5_50) (pc' := 51) rfl rfl rfl ?_
  show G (T1.setTop (mkF m 51 #[.val (.ref a), .val (.int 0), .val (.int (q.1 (0 : Int32))), .unset] [(.ref a)]))
  refine g_iloadN hG X1 hx (hb hby d5_51) (pc' := 52) rfl rfl ?_
  show G (T1.setTop (mkF m 52 #[.val (.ref a), .val (.int 0), .val (.int (q.1 (0 : Int32))), .unset] [(.int (q.1 (0 : Int32))), (.ref a)]))
  refine g_iloadN hG X1 hx (hb hby d5_52) (pc' := 53) rfl rfl ?_
  show G (T1.setTop (mkF m 53 #[.val (.ref a), .val (.int 0), .val (.int (q.1 (0 : Int32))), .unset] [(.int 0), (.int (q.1 (0 : Int32))), (.ref a)]))
  refine g_callP hG X1 hx hZ (y := (⟨"com/example/tributary/tributary/plan/NodeHeap", "place", "(II)V"⟩ : MethodName)) 0 hown (wd hw 33 rfl) (wd hw 34 rfl) (wd hw 3 rfl) (wd hw 35 rfl) (wd hw 4 rfl) (wd hw 36 rfl) (by decide) (rmPl l Z a0 hw [] a hp pp ky sz q K (q.1 (0 : Int32)) (0 : Int32) h0 n0 Zs ⟨Ex_a, F_heap_a, F_position_a, F_key_a, F_size_a, V_hp, V_pp, V_ky⟩ ⟨ga, ghp, gpp, gky, d1, d2, d3, d4, d5, d6⟩ (show In4 (q.1 (0 : Int32)) from ii 0 (by decide)) in4_0) (by decide) (by decide) (by rw [hml]; rfl) pd_1 rfl (argsL := [(.int (q.1 (0 : Int32))), (.int 0)]) (rest := []) rfl rfl (Nat.le_of_eq rfl) (hb hby d5_53) e1 Ex_a (by decide) (by decide) (pc' := 56) rfl ?_
  intro T2 rv2 L2 X2 hQ2
  obtain ⟨rfl, Nq2, Kq2, Ex_a, F_heap_a, F_position_a, F_key_a, F_size_a, V_hp, V_pp, V_ky⟩ := hQ2
  have NF2 := Fr.app NF0 Nq2
  have Zs := Nat.le_trans Zs Kq2.1
  have K2 := K0.trans Kq2 (allS (Or.inl (List.mem_of_getElem? (i := 0) rfl)) (allS (Or.inl (List.mem_of_getElem? (i := 1) rfl)) (allS (Or.inl (List.mem_of_getElem? (i := 2) rfl)) (allS (Or.inl (List.mem_of_getElem? (i := 3) rfl)) all0))))
  show G (T2.setTop (mkF m 56 #[.val (.ref a), .val (.int 0), .val (.int (q.1 (0 : Int32))), .unset] []))
  exact e_ret0 hGe X2 hx hrt hlk (hb hby d5_56) rfl (by decide) (by decide) (⟨rfl, NF2, K2, Ex_a, F_heap_a, F_position_a, F_key_a, F_size_a, V_hp, V_pp, V_ky⟩)

def Q_rmRs1 (Z : State) (a hp pp ky : Addr) (sz : Int32) (q : HP) (K : Int32 → UInt64) (bt : Int32 → Int32 → Bool) (h0 : Heap) (n0 : Nat) (v : Option Value) (h : Heap) (L : List Loc) : Prop := v = none ∧ Fr n0 L ∧ Keep h0 h [a, hp, pp, ky] ∧ NH Z h a hp pp ky sz (rs1 bt q) K
set_option maxRecDepth 65536 in
set_option maxHeartbeats 40000000 in
theorem rmRs1 (l : Launch) (Z : State) (a0 : Array Value) (hw : ∀ d ∈ tables_1, d.before a0 Z = true) (ws : List Jvm.Cond) (a hp pp ky : Addr) (sz : Int32) (q : HP) (K : Int32 → UInt64) (bt : Int32 → Int32 → Bool) (h0 : Heap) (n0 : Nat) (Zs : n0 ≤ h0.size) (NQ : NH Z h0 a hp pp ky sz q K) (DD : Dis n0 a hp pp ky) (ii : I4 2 q) (hbb : HB 2 K bt q) :
    Con l (⟨"com/example/tributary/tributary/plan/NodeHeap", "rise", "(I)V"⟩ : MethodName) prog_39_method_6_code 4 none ws ({ frames := 1, cells := 0, slots := 0, locals := 24 } : Room) Z #[(.ref a), (.int 1)] h0 ({ frames := 1, cells := 0, slots := 0, locals := 24 } : Room).cells ({ frames := 1, cells := 0, slots := 0, locals := 24 } : Room).slots (Q_rmRs1 Z a hp pp ky sz q K bt h0 n0) := by
  refine Con.of (Ls := #[.val (.ref a), .val (.int 1), .unset, .unset]) (plainFor_of_name (by first | (simp [plainName, overriddenIn]; done) | decide +kernel)) (fun m => by first | (simp [entryFrame, mkF, argsToLocals, Value.category]; done) | rfl) ?_
  intro p e s m below meth c s₁ G hGe hG hx hby hml hown hnm hrt hlk hZ X0 e0
  have hown : s.vm.findClass "com/example/tributary/tributary/plan/NodeHeap" = some m.cls := hown
  have hnm : meth.name = "rise" := hnm
  have NF0 := Fr.nil n0
  obtain ⟨Ex_a, F_heap_a, F_position_a, F_key_a, F_size_a, V_hp, V_pp, V_ky⟩ := NQ
  obtain ⟨ga, ghp, gpp, gky, d1, d2, d3, d4, d5, d6⟩ := DD
  have K0 := Keep.refl h0 [a, hp, pp, ky]
  refine g_aloadN hG X0 hx (hb hby d5_0) (pc' := 1) rfl rfl rfl ?_
  show G (s₁.setTop (mkF m 1 #[.val (.ref a), .val (.int 1), .unset, .unset] [(.ref a)]))
  refine g_getF hG X0 hx hZ hown (wd hw 11 rfl) Via.refl e0 F_heap_a (hb hby d5_1) (pc' := 4) rfl ?_
  intro T1 X1 e1
  show G (T1.setTop (mkF m 4 #[.val (.ref a), .val (.int 1), .unset, .unset] [(.ref hp)]))
  refine g_iloadN hG X1 hx (hb hby d5_4) (pc' := 5) rfl rfl ?_
  show G (T1.setTop (mkF m 5 #[.val (.ref a), .val (.int 1), .unset, .unset] [(.int 1), (.ref hp)]))
  refine g_iaload hG X1 hx hZ e1 V_hp (j := (1 : Int32)) (v := (.int (q.1 (1 : Int32)))) (in4_nn in4_1) (in4_at in4_1 rfl) (hb hby d5_5) (pc' := 6) rfl ?_
  show G (T1.setTop (mkF m 6 #[.val (.ref a), .val (.int 1), .unset, .unset] [(.int (q.1 (1 : Int32)))]))
  refine g_istoreN hG X1 hx (hb hby d5_6) (pc' := 7) rfl (Ls' := #[.val (.ref a), .val (.int 1), .val (.int (q.1 (1 : Int32))), .unset]) rfl ?_
  show G (T1.setTop (mkF m 7 #[.val (.ref a), .val (.int 1), .val (.int (q.1 (1 : Int32))), .unset] []))
  refine g_iloadN hG X1 hx (hb hby d5_7) (pc' := 8) rfl rfl ?_
  show G (T1.setTop (mkF m 8 #[.val (.ref a), .val (.int 1), .val (.int (q.1 (1 : Int32))), .unset] [(.int 1)]))
  refine g_ifNo hG X1 hx (hb hby d5_8) (pc' := 11) (by decide) rfl ?_
  show G (T1.setTop (mkF m 11 #[.val (.ref a), .val (.int 1), .val (.int (q.1 (1 : Int32))), .unset] []))
  refine g_iloadN hG X1 hx (hb hby d5_11) (pc' := 12) rfl rfl ?_
  show G (T1.setTop (mkF m 12 #[.val (.ref a), .val (.int 1), .val (.int (q.1 (1 : Int32))), .unset] [(.int 1)]))
  refine g_iconst hG X1 hx (hb hby d5_12) (pc' := 13) rfl (v := (1 : Int32)) rfl ?_
  show G (T1.setTop (mkF m 13 #[.val (.ref a), .val (.int 1), .val (.int (q.1 (1 : Int32))), .unset] [(.int 1), (.int 1)]))
  refine g_isub hG X1 hx (hb hby d5_13) (pc' := 14) rfl (v := (0 : Int32)) (by decide) ?_
  show G (T1.setTop (mkF m 14 #[.val (.ref a), .val (.int 1), .val (.int (q.1 (1 : Int32))), .unset] [(.int 0)]))
  refine g_iconst hG X1 hx (hb hby d5_14) (pc' := 15) rfl (v := (2 : Int32)) rfl ?_
  show G (T1.setTop (mkF m 15 #[.val (.ref a), .val (.int 1), .val (.int (q.1 (1 : Int32))), .unset] [(.int 2), (.int 0)]))
  refine g_idiv hG X1 hx (hb hby d5_15) (pc' := 16) rfl (by decide) (v := (0 : Int32)) (by decide) ?_
  show G (T1.setTop (mkF m 16 #[.val (.ref a), .val (.int 1), .val (.int (q.1 (1 : Int32))), .unset] [(.int 0)]))
  refine g_istoreN hG X1 hx (hb hby d5_16) (pc' := 17) rfl (Ls' := #[.val (.ref a), .val (.int 1), .val (.int (q.1 (1 : Int32))), .val (.int 0)]) rfl ?_
  show G (T1.setTop (mkF m 17 #[.val (.ref a), .val (.int 1), .val (.int (q.1 (1 : Int32))), .val (.int 0)] []))
  refine g_aloadN hG X1 hx (hb hby d5_17) (pc' := 18) rfl rfl rfl ?_
  show G (T1.setTop (mkF m 18 #[.val (.ref a), .val (.int 1), .val (.int (q.1 (1 : Int32))), .val (.int 0)] [(.ref a)]))
  refine g_iloadN hG X1 hx (hb hby d5_18) (pc' := 19) rfl rfl ?_
  show G (T1.setTop (mkF m 19 #[.val (.ref a), .val (.int 1), .val (.int (q.1 (1 : Int32))), .val (.int 0)] [(.int (q.1 (1 : Int32))), (.ref a)]))
  refine g_aloadN hG X1 hx (hb hby d5_19) (pc' := 20) rfl rfl rfl ?_
  show G (T1.setTop (mkF m 20 #[.val (.ref a), .val (.int 1), .val (.int (q.1 (1 : Int32))), .val (.int 0)] [(.ref a), (.int (q.1 (1 : Int32))), (.ref a)]))
  refine g_getF hG X1 hx hZ hown (wd hw 11 rfl) Via.refl e1 F_heap_a (hb hby d5_20) (pc' := 23) rfl ?_
  intro T2 X2 e2
  show G (T2.setTop (mkF m 23 #[.val (.ref a), .val (.int 1), .val (.int (q.1 (1 : Int32))), .val (.int 0)] [(.ref hp), (.int (q.1 (1 : Int32))), (.ref a)]))
  refine g_iloadN hG X2 hx (hb hby d5_23) (pc' := 24) rfl rfl ?_
  show G (T2.setTop (mkF m 24 #[.val (.ref a), .val (.int 1), .val (.int (q.1 (1 : Int32))), .val (.int 0)] [(.int 0), (.ref hp), (.int (q.1 (1 : Int32))), (.ref a)]))
  refine g_iaload hG X2 hx hZ e2 V_hp (j := (0 : Int32)) (v := (.int (q.1 (0 : Int32)))) (in4_nn in4_0) (in4_at in4_0 rfl) (hb hby d5_24) (pc' := 25) rfl ?_
  show G (T2.setTop (mkF m 25 #[.val (.ref a), .val (.int 1), .val (.int (q.1 (1 : Int32))), .val (.int 0)] [(.int (q.1 (0 : Int32))), (.int (q.1 (1 : Int32))), (.ref a)]))
  by_cases g25_3 : bt (q.1 (1 : Int32)) (q.1 (0 : Int32)) = true
  · have _hh := g25_3
    refine g_callP hG X2 hx hZ (y := (⟨"com/example/tributary/tributary/plan/NodeHeap", "before", "(II)Z"⟩ : MethodName)) 0 hown (wd hw 37 rfl) (wd hw 38 rfl) (wd hw 3 rfl) (wd hw 39 rfl) (wd hw 4 rfl) (wd hw 40 rfl) (by decide) (rmBe l Z a0 hw [] a hp pp ky sz q K (q.1 (1 : Int32)) (q.1 (0 : Int32)) (1 : Int32) h0 n0 Zs ⟨Ex_a, F_heap_a, F_position_a, F_key_a, F_size_a, V_hp, V_pp, V_ky⟩ ⟨ga, ghp, gpp, gky, d1, d2, d3, d4, d5, d6⟩ (show In4 (q.1 (1 : Int32)) from ii 1 (by decide)) (show In4 (q.1 (0 : Int32)) from ii 0 (by decide)) ((hbb 1 0 (by decide) (by decide)).1 g25_3)) (by decide) (by decide) (by rw [hml]; rfl) pd_2 rfl (argsL := [(.int (q.1 (1 : Int32))), (.int (q.1 (0 : Int32)))]) (rest := []) rfl rfl (Nat.le_of_eq rfl) (hb hby d5_25) e2 Ex_a (by decide) (by decide) (pc' := 28) rfl ?_
    intro T4 rv4 L4 X4 hQ4
    obtain ⟨rfl, Nq4, eh4⟩ := hQ4
    have NF4 := Fr.app NF0 Nq4
    show G (T4.setTop (mkF m 28 #[.val (.ref a), .val (.int 1), .val (.int (q.1 (1 : Int32))), .val (.int 0)] [(.int 1)]))
    refine g_ifYes hG X4 hx (hb hby d5_28) (pc' := 34) (by decide) (by decide) (by decide) ?_
    show G (T4.setTop (mkF m 34 #[.val (.ref a), .val (.int 1), .val (.int (q.1 (1 : Int32))), .val (.int 0)] []))
    refine g_aloadN hG X4 hx (hb hby d5_34) (pc' := 35) rfl rfl rfl ?_
    show G (T4.setTop (mkF m 35 #[.val (.ref a), .val (.int 1), .val (.int (q.1 (1 : Int32))), .val (.int 0)] [(.ref a)]))
    refine g_aloadN hG X4 hx (hb hby d5_35) (pc' := 36) rfl rfl rfl ?_
    show G (T4.setTop (mkF m 36 #[.val (.ref a), .val (.int 1), .val (.int (q.1 (1 : Int32))), .val (.int 0)] [(.ref a), (.ref a)]))
    refine g_getF hG X4 hx hZ hown (wd hw 11 rfl) Via.refl eh4 F_heap_a (hb hby d5_36) (pc' := 39) rfl ?_
    intro T5 X5 e5
    show G (T5.setTop (mkF m 39 #[.val (.ref a), .val (.int 1), .val (.int (q.1 (1 : Int32))), .val (.int 0)] [(.ref hp), (.ref a)]))
    refine g_iloadN hG X5 hx (hb hby d5_39) (pc' := 40) rfl rfl ?_
    show G (T5.setTop (mkF m 40 #[.val (.ref a), .val (.int 1), .val (.int (q.1 (1 : Int32))), .val (.int 0)] [(.int 0), (.ref hp), (.ref a)]))
    refine g_iaload hG X5 hx hZ e5 V_hp (j := (0 : Int32)) (v := (.int (q.1 (0 : Int32)))) (in4_nn in4_0) (in4_at in4_0 rfl) (hb hby d5_40) (pc' := 41) rfl ?_
    show G (T5.setTop (mkF m 41 #[.val (.ref a), .val (.int 1), .val (.int (q.1 (1 : Int32))), .val (.int 0)] [(.int (q.1 (0 : Int32))), (.ref a)]))
    refine g_iloadN hG X5 hx (hb hby d5_41) (pc' := 42) rfl rfl ?_
    show G (T5.setTop (mkF m 42 #[.val (.ref a), .val (.int 1), .val (.int (q.1 (1 : Int32))), .val (.int 0)] [(.int 1), (.int (q.1 (0 : Int32))), (.ref a)]))
    refine g_callP hG X5 hx hZ (y := (⟨"com/example/tributary/tributary/plan/NodeHeap", "place", "(II)V"⟩ : MethodName)) 0 hown (wd hw 33 rfl) (wd hw 34 rfl) (wd hw 3 rfl) (wd hw 35 rfl) (wd hw 4 rfl) (wd hw 36 rfl) (by decide) (rmPl l Z a0 hw [] a hp pp ky sz q K (q.1 (0 : Int32)) (1 : Int32) h0 n0 Zs ⟨Ex_a, F_heap_a, F_position_a, F_key_a, F_size_a, V_hp, V_pp, V_ky⟩ ⟨ga, ghp, gpp, gky, d1, d2, d3, d4, d5, d6⟩ (show In4 (q.1 (0 : Int32)) from ii 0 (by decide)) in4_1) (by decide) (by decide) (by rw [hml]; rfl) pd_1 rfl (argsL := [(.int (q.1 (0 : Int32))), (.int 1)]) (rest := []) rfl rfl (Nat.le_of_eq rfl) (hb hby d5_42) e5 Ex_a (by decide) (by decide) (pc' := 45) rfl ?_
    intro T6 rv6 L6 X6 hQ6
    obtain ⟨rfl, Nq6, Kq6, Ex_a, F_heap_a, F_position_a, F_key_a, F_size_a, V_hp, V_pp, V_ky⟩ := hQ6
    have NF6 := Fr.app NF4 Nq6
    have Zs := Nat.le_trans Zs Kq6.1
    have K6 := K0.trans Kq6 (allS (Or.inl (List.mem_of_getElem? (i := 0) rfl)) (allS (Or.inl (List.mem_of_getElem? (i := 1) rfl)) (allS (Or.inl (List.mem_of_getElem? (i := 2) rfl)) (allS (Or.inl (List.mem_of_getElem? (i := 3) rfl)) all0))))
    show G (T6.setTop (mkF m 45 #[.val (.ref a), .val (.int 1), .val (.int (q.1 (1 : Int32))), .val (.int 0)] []))
    refine g_iloadN hG X6 hx (hb hby d5_45) (pc' := 46) rfl rfl ?_
    show G (T6.setTop (mkF m 46 #[.val (.ref a), .val (.int 1), .val (.int (q.1 (1 : Int32))), .val (.int 0)] [(.int 0)]))
    refine g_istoreN hG X6 hx (hb hby d5_46) (pc' := 47) rfl (Ls' := #[.val (.ref a), .val (.int 0), .val (.int (q.1 (1 : Int32))), .val (.int 0)]) rfl ?_
    show G (T6.setTop (mkF m 47 #[.val (.ref a), .val (.int 0), .val (.int (q.1 (1 : Int32))), .val (.int 0)] []))
    refine g_goto hG X6 hx (hb hby d5_47) (pc' := 7) (by decide) (by decide) ?_
    show G (T6.setTop (mkF m 7 #[.val (.ref a), .val (.int 0), .val (.int (q.1 (1 : Int32))), .val (.int 0)] []))
    refine g_iloadN hG X6 hx (hb hby d5_7) (pc' := 8) rfl rfl ?_
    show G (T6.setTop (mkF m 8 #[.val (.ref a), .val (.int 0), .val (.int (q.1 (1 : Int32))), .val (.int 0)] [(.int 0)]))
    refine g_ifYes hG X6 hx (hb hby d5_8) (pc' := 50) (by decide) (by decide) (by decide) ?_
    show G (T6.setTop (mkF m 50 #[.val (.ref a), .val (.int 0), .val (.int (q.1 (1 : Int32))), .val (.int 0)] []))
    refine g_aloadN hG X6 hx (hb hby d5_50) (pc' := 51) rfl rfl rfl ?_
    show G (T6.setTop (mkF m 51 #[.val (.ref a), .val (.int 0), .val (.int (q.1 (1 : Int32))), .val (.int 0)] [(.ref a)]))
    refine g_iloadN hG X6 hx (hb hby d5_51) (pc' := 52) rfl rfl ?_
    show G (T6.setTop (mkF m 52 #[.val (.ref a), .val (.int 0), .val (.int (q.1 (1 : Int32))), .val (.int 0)] [(.int (q.1 (1 : Int32))), (.ref a)]))
    refine g_iloadN hG X6 hx (hb hby d5_52) (pc' := 53) rfl rfl ?_
    show G (T6.setTop (mkF m 53 #[.val (.ref a), .val (.int 0), .val (.int (q.1 (1 : Int32))), .val (.int 0)] [(.int 0), (.int (q.1 (1 : Int32))), (.ref a)]))
    refine g_callP hG X6 hx hZ (y := (⟨"com/example/tributary/tributary/plan/NodeHeap", "place", "(II)V"⟩ : MethodName)) 0 hown (wd hw 33 rfl) (wd hw 34 rfl) (wd hw 3 rfl) (wd hw 35 rfl) (wd hw 4 rfl) (wd hw 36 rfl) (by decide) (rmPl l Z a0 hw [] a hp pp ky sz (pl q (q.1 (0 : Int32)) (1 : Int32)) K (q.1 (1 : Int32)) (0 : Int32) T6.heap n0 Zs ⟨Ex_a, F_heap_a, F_position_a, F_key_a, F_size_a, V_hp, V_pp, V_ky⟩ ⟨ga, ghp, gpp, gky, d1, d2, d3, d4, d5, d6⟩ (show In4 (q.1 (1 : Int32)) from ii 1 (by decide)) in4_0) (by decide) (by decide) (by rw [hml]; rfl) pd_1 rfl (argsL := [(.int (q.1 (1 : Int32))), (.int 0)]) (rest := []) rfl rfl (Nat.le_of_eq rfl) (hb hby d5_53) rfl Ex_a (by decide) (by decide) (pc' := 56) rfl ?_
    intro T7 rv7 L7 X7 hQ7
    obtain ⟨rfl, Nq7, Kq7, Ex_a, F_heap_a, F_position_a, F_key_a, F_size_a, V_hp, V_pp, V_ky⟩ := hQ7
    have NF7 := Fr.app NF6 Nq7
    have Zs := Nat.le_trans Zs Kq7.1
    have K7 := K6.trans Kq7 (allS (Or.inl (List.mem_of_getElem? (i := 0) rfl)) (allS (Or.inl (List.mem_of_getElem? (i := 1) rfl)) (allS (Or.inl (List.mem_of_getElem? (i := 2) rfl)) (allS (Or.inl (List.mem_of_getElem? (i := 3) rfl)) all0))))
    show G (T7.setTop (mkF m 56 #[.val (.ref a), .val (.int 0), .val (.int (q.1 (1 : Int32))), .val (.int 0)] []))
    exact e_ret0 hGe X7 hx hrt hlk (hb hby d5_56) rfl (by decide) (by decide) (⟨rfl, NF7, K7, (by
          have e : rs1 bt q = (pl (pl q (q.1 (0 : Int32)) (1 : Int32)) (q.1 (1 : Int32)) (0 : Int32)) := by
            unfold rs1
            exact if_pos g25_3
          rw [e]
          exact ⟨Ex_a, F_heap_a, F_position_a, F_key_a, F_size_a, V_hp, V_pp, V_ky⟩)⟩)
  · have _hh := g25_3
    refine g_callP hG X2 hx hZ (y := (⟨"com/example/tributary/tributary/plan/NodeHeap", "before", "(II)Z"⟩ : MethodName)) 0 hown (wd hw 37 rfl) (wd hw 38 rfl) (wd hw 3 rfl) (wd hw 39 rfl) (wd hw 4 rfl) (wd hw 40 rfl) (by decide) (rmBe l Z a0 hw [] a hp pp ky sz q K (q.1 (1 : Int32)) (q.1 (0 : Int32)) (0 : Int32) h0 n0 Zs ⟨Ex_a, F_heap_a, F_position_a, F_key_a, F_size_a, V_hp, V_pp, V_ky⟩ ⟨ga, ghp, gpp, gky, d1, d2, d3, d4, d5, d6⟩ (show In4 (q.1 (1 : Int32)) from ii 1 (by decide)) (show In4 (q.1 (0 : Int32)) from ii 0 (by decide)) ((hbb 1 0 (by decide) (by decide)).2 g25_3)) (by decide) (by decide) (by rw [hml]; rfl) pd_2 rfl (argsL := [(.int (q.1 (1 : Int32))), (.int (q.1 (0 : Int32)))]) (rest := []) rfl rfl (Nat.le_of_eq rfl) (hb hby d5_25) e2 Ex_a (by decide) (by decide) (pc' := 28) rfl ?_
    intro T8 rv8 L8 X8 hQ8
    obtain ⟨rfl, Nq8, eh8⟩ := hQ8
    have NF8 := Fr.app NF0 Nq8
    show G (T8.setTop (mkF m 28 #[.val (.ref a), .val (.int 1), .val (.int (q.1 (1 : Int32))), .val (.int 0)] [(.int 0)]))
    refine g_ifNo hG X8 hx (hb hby d5_28) (pc' := 31) (by decide) rfl ?_
    show G (T8.setTop (mkF m 31 #[.val (.ref a), .val (.int 1), .val (.int (q.1 (1 : Int32))), .val (.int 0)] []))
    refine g_goto hG X8 hx (hb hby d5_31) (pc' := 50) (by decide) (by decide) ?_
    show G (T8.setTop (mkF m 50 #[.val (.ref a), .val (.int 1), .val (.int (q.1 (1 : Int32))), .val (.int 0)] []))
    refine g_aloadN hG X8 hx (hb hby d5_50) (pc' := 51) rfl rfl rfl ?_
    show G (T8.setTop (mkF m 51 #[.val (.ref a), .val (.int 1), .val (.int (q.1 (1 : Int32))), .val (.int 0)] [(.ref a)]))
    refine g_iloadN hG X8 hx (hb hby d5_51) (pc' := 52) rfl rfl ?_
    show G (T8.setTop (mkF m 52 #[.val (.ref a), .val (.int 1), .val (.int (q.1 (1 : Int32))), .val (.int 0)] [(.int (q.1 (1 : Int32))), (.ref a)]))
    refine g_iloadN hG X8 hx (hb hby d5_52) (pc' := 53) rfl rfl ?_
    show G (T8.setTop (mkF m 53 #[.val (.ref a), .val (.int 1), .val (.int (q.1 (1 : Int32))), .val (.int 0)] [(.int 1), (.int (q.1 (1 : Int32))), (.ref a)]))
    refine g_callP hG X8 hx hZ (y := (⟨"com/example/tributary/tributary/plan/NodeHeap", "place", "(II)V"⟩ : MethodName)) 0 hown (wd hw 33 rfl) (wd hw 34 rfl) (wd hw 3 rfl) (wd hw 35 rfl) (wd hw 4 rfl) (wd hw 36 rfl) (by decide) (rmPl l Z a0 hw [] a hp pp ky sz q K (q.1 (1 : Int32)) (1 : Int32) h0 n0 Zs ⟨Ex_a, F_heap_a, F_position_a, F_key_a, F_size_a, V_hp, V_pp, V_ky⟩ ⟨ga, ghp, gpp, gky, d1, d2, d3, d4, d5, d6⟩ (show In4 (q.1 (1 : Int32)) from ii 1 (by decide)) in4_1) (by decide) (by decide) (by rw [hml]; rfl) pd_1 rfl (argsL := [(.int (q.1 (1 : Int32))), (.int 1)]) (rest := []) rfl rfl (Nat.le_of_eq rfl) (hb hby d5_53) eh8 Ex_a (by decide) (by decide) (pc' := 56) rfl ?_
    intro T9 rv9 L9 X9 hQ9
    obtain ⟨rfl, Nq9, Kq9, Ex_a, F_heap_a, F_position_a, F_key_a, F_size_a, V_hp, V_pp, V_ky⟩ := hQ9
    have NF9 := Fr.app NF8 Nq9
    have Zs := Nat.le_trans Zs Kq9.1
    have K9 := K0.trans Kq9 (allS (Or.inl (List.mem_of_getElem? (i := 0) rfl)) (allS (Or.inl (List.mem_of_getElem? (i := 1) rfl)) (allS (Or.inl (List.mem_of_getElem? (i := 2) rfl)) (allS (Or.inl (List.mem_of_getElem? (i := 3) rfl)) all0))))
    show G (T9.setTop (mkF m 56 #[.val (.ref a), .val (.int 1), .val (.int (q.1 (1 : Int32))), .val (.int 0)] []))
    exact e_ret0 hGe X9 hx hrt hlk (hb hby d5_56) rfl (by decide) (by decide) (⟨rfl, NF9, K9, (by
          have e : rs1 bt q = (pl q (q.1 (1 : Int32)) (1 : Int32)) := by
            unfold rs1
            exact if_neg g25_3
          rw [e]
          exact ⟨Ex_a, F_heap_a, F_position_a, F_key_a, F_size_a, V_hp, V_pp, V_ky⟩)⟩)

def Q_rmRs2 (Z : State) (a hp pp ky : Addr) (sz : Int32) (q : HP) (K : Int32 → UInt64) (bt : Int32 → Int32 → Bool) (h0 : Heap) (n0 : Nat) (v : Option Value) (h : Heap) (L : List Loc) : Prop := v = none ∧ Fr n0 L ∧ Keep h0 h [a, hp, pp, ky] ∧ NH Z h a hp pp ky sz (rs2 bt q) K
set_option maxRecDepth 65536 in
set_option maxHeartbeats 40000000 in
theorem rmRs2 (l : Launch) (Z : State) (a0 : Array Value) (hw : ∀ d ∈ tables_1, d.before a0 Z = true) (ws : List Jvm.Cond) (a hp pp ky : Addr) (sz : Int32) (q : HP) (K : Int32 → UInt64) (bt : Int32 → Int32 → Bool) (h0 : Heap) (n0 : Nat) (Zs : n0 ≤ h0.size) (NQ : NH Z h0 a hp pp ky sz q K) (DD : Dis n0 a hp pp ky) (ii : I4 3 q) (hbb : HB 3 K bt q) :
    Con l (⟨"com/example/tributary/tributary/plan/NodeHeap", "rise", "(I)V"⟩ : MethodName) prog_39_method_6_code 4 none ws ({ frames := 1, cells := 0, slots := 0, locals := 24 } : Room) Z #[(.ref a), (.int 2)] h0 ({ frames := 1, cells := 0, slots := 0, locals := 24 } : Room).cells ({ frames := 1, cells := 0, slots := 0, locals := 24 } : Room).slots (Q_rmRs2 Z a hp pp ky sz q K bt h0 n0) := by
  refine Con.of (Ls := #[.val (.ref a), .val (.int 2), .unset, .unset]) (plainFor_of_name (by first | (simp [plainName, overriddenIn]; done) | decide +kernel)) (fun m => by first | (simp [entryFrame, mkF, argsToLocals, Value.category]; done) | rfl) ?_
  intro p e s m below meth c s₁ G hGe hG hx hby hml hown hnm hrt hlk hZ X0 e0
  have hown : s.vm.findClass "com/example/tributary/tributary/plan/NodeHeap" = some m.cls := hown
  have hnm : meth.name = "rise" := hnm
  have NF0 := Fr.nil n0
  obtain ⟨Ex_a, F_heap_a, F_position_a, F_key_a, F_size_a, V_hp, V_pp, V_ky⟩ := NQ
  obtain ⟨ga, ghp, gpp, gky, d1, d2, d3, d4, d5, d6⟩ := DD
  have K0 := Keep.refl h0 [a, hp, pp, ky]
  refine g_aloadN hG X0 hx (hb hby d5_0) (pc' := 1) rfl rfl rfl ?_
  show G (s₁.setTop (mkF m 1 #[.val (.ref a), .val (.int 2), .unset, .unset] [(.ref a)]))
  refine g_getF hG X0 hx hZ hown (wd hw 11 rfl) Via.refl e0 F_heap_a (hb hby d5_1) (pc' := 4) rfl ?_
  intro T1 X1 e1
  show G (T1.setTop (mkF m 4 #[.val (.ref a), .val (.int 2), .unset, .unset] [(.ref hp)]))
  refine g_iloadN hG X1 hx (hb hby d5_4) (pc' := 5) rfl rfl ?_
  show G (T1.setTop (mkF m 5 #[.val (.ref a), .val (.int 2), .unset, .unset] [(.int 2), (.ref hp)]))
  refine g_iaload hG X1 hx hZ e1 V_hp (j := (2 : Int32)) (v := (.int (q.1 (2 : Int32)))) (in4_nn in4_2) (in4_at in4_2 rfl) (hb hby d5_5) (pc' := 6) rfl ?_
  show G (T1.setTop (mkF m 6 #[.val (.ref a), .val (.int 2), .unset, .unset] [(.int (q.1 (2 : Int32)))]))
  refine g_istoreN hG X1 hx (hb hby d5_6) (pc' := 7) rfl (Ls' := #[.val (.ref a), .val (.int 2), .val (.int (q.1 (2 : Int32))), .unset]) rfl ?_
  show G (T1.setTop (mkF m 7 #[.val (.ref a), .val (.int 2), .val (.int (q.1 (2 : Int32))), .unset] []))
  refine g_iloadN hG X1 hx (hb hby d5_7) (pc' := 8) rfl rfl ?_
  show G (T1.setTop (mkF m 8 #[.val (.ref a), .val (.int 2), .val (.int (q.1 (2 : Int32))), .unset] [(.int 2)]))
  refine g_ifNo hG X1 hx (hb hby d5_8) (pc' := 11) (by decide) rfl ?_
  show G (T1.setTop (mkF m 11 #[.val (.ref a), .val (.int 2), .val (.int (q.1 (2 : Int32))), .unset] []))
  refine g_iloadN hG X1 hx (hb hby d5_11) (pc' := 12) rfl rfl ?_
  show G (T1.setTop (mkF m 12 #[.val (.ref a), .val (.int 2), .val (.int (q.1 (2 : Int32))), .unset] [(.int 2)]))
  refine g_iconst hG X1 hx (hb hby d5_12) (pc' := 13) rfl (v := (1 : Int32)) rfl ?_
  show G (T1.setTop (mkF m 13 #[.val (.ref a), .val (.int 2), .val (.int (q.1 (2 : Int32))), .unset] [(.int 1), (.int 2)]))
  refine g_isub hG X1 hx (hb hby d5_13) (pc' := 14) rfl (v := (1 : Int32)) (by decide) ?_
  show G (T1.setTop (mkF m 14 #[.val (.ref a), .val (.int 2), .val (.int (q.1 (2 : Int32))), .unset] [(.int 1)]))
  refine g_iconst hG X1 hx (hb hby d5_14) (pc' := 15) rfl (v := (2 : Int32)) rfl ?_
  show G (T1.setTop (mkF m 15 #[.val (.ref a), .val (.int 2), .val (.int (q.1 (2 : Int32))), .unset] [(.int 2), (.int 1)]))
  refine g_idiv hG X1 hx (hb hby d5_15) (pc' := 16) rfl (by decide) (v := (0 : Int32)) (by decide) ?_
  show G (T1.setTop (mkF m 16 #[.val (.ref a), .val (.int 2), .val (.int (q.1 (2 : Int32))), .unset] [(.int 0)]))
  refine g_istoreN hG X1 hx (hb hby d5_16) (pc' := 17) rfl (Ls' := #[.val (.ref a), .val (.int 2), .val (.int (q.1 (2 : Int32))), .val (.int 0)]) rfl ?_
  show G (T1.setTop (mkF m 17 #[.val (.ref a), .val (.int 2), .val (.int (q.1 (2 : Int32))), .val (.int 0)] []))
  refine g_aloadN hG X1 hx (hb hby d5_17) (pc' := 18) rfl rfl rfl ?_
  show G (T1.setTop (mkF m 18 #[.val (.ref a), .val (.int 2), .val (.int (q.1 (2 : Int32))), .val (.int 0)] [(.ref a)]))
  refine g_iloadN hG X1 hx (hb hby d5_18) (pc' := 19) rfl rfl ?_
  show G (T1.setTop (mkF m 19 #[.val (.ref a), .val (.int 2), .val (.int (q.1 (2 : Int32))), .val (.int 0)] [(.int (q.1 (2 : Int32))), (.ref a)]))
  refine g_aloadN hG X1 hx (hb hby d5_19) (pc' := 20) rfl rfl rfl ?_
  show G (T1.setTop (mkF m 20 #[.val (.ref a), .val (.int 2), .val (.int (q.1 (2 : Int32))), .val (.int 0)] [(.ref a), (.int (q.1 (2 : Int32))), (.ref a)]))
  refine g_getF hG X1 hx hZ hown (wd hw 11 rfl) Via.refl e1 F_heap_a (hb hby d5_20) (pc' := 23) rfl ?_
  intro T2 X2 e2
  show G (T2.setTop (mkF m 23 #[.val (.ref a), .val (.int 2), .val (.int (q.1 (2 : Int32))), .val (.int 0)] [(.ref hp), (.int (q.1 (2 : Int32))), (.ref a)]))
  refine g_iloadN hG X2 hx (hb hby d5_23) (pc' := 24) rfl rfl ?_
  show G (T2.setTop (mkF m 24 #[.val (.ref a), .val (.int 2), .val (.int (q.1 (2 : Int32))), .val (.int 0)] [(.int 0), (.ref hp), (.int (q.1 (2 : Int32))), (.ref a)]))
  refine g_iaload hG X2 hx hZ e2 V_hp (j := (0 : Int32)) (v := (.int (q.1 (0 : Int32)))) (in4_nn in4_0) (in4_at in4_0 rfl) (hb hby d5_24) (pc' := 25) rfl ?_
  show G (T2.setTop (mkF m 25 #[.val (.ref a), .val (.int 2), .val (.int (q.1 (2 : Int32))), .val (.int 0)] [(.int (q.1 (0 : Int32))), (.int (q.1 (2 : Int32))), (.ref a)]))
  by_cases g25_3 : bt (q.1 (2 : Int32)) (q.1 (0 : Int32)) = true
  · have _hh := g25_3
    refine g_callP hG X2 hx hZ (y := (⟨"com/example/tributary/tributary/plan/NodeHeap", "before", "(II)Z"⟩ : MethodName)) 0 hown (wd hw 37 rfl) (wd hw 38 rfl) (wd hw 3 rfl) (wd hw 39 rfl) (wd hw 4 rfl) (wd hw 40 rfl) (by decide) (rmBe l Z a0 hw [] a hp pp ky sz q K (q.1 (2 : Int32)) (q.1 (0 : Int32)) (1 : Int32) h0 n0 Zs ⟨Ex_a, F_heap_a, F_position_a, F_key_a, F_size_a, V_hp, V_pp, V_ky⟩ ⟨ga, ghp, gpp, gky, d1, d2, d3, d4, d5, d6⟩ (show In4 (q.1 (2 : Int32)) from ii 2 (by decide)) (show In4 (q.1 (0 : Int32)) from ii 0 (by decide)) ((hbb 2 0 (by decide) (by decide)).1 g25_3)) (by decide) (by decide) (by rw [hml]; rfl) pd_2 rfl (argsL := [(.int (q.1 (2 : Int32))), (.int (q.1 (0 : Int32)))]) (rest := []) rfl rfl (Nat.le_of_eq rfl) (hb hby d5_25) e2 Ex_a (by decide) (by decide) (pc' := 28) rfl ?_
    intro T4 rv4 L4 X4 hQ4
    obtain ⟨rfl, Nq4, eh4⟩ := hQ4
    have NF4 := Fr.app NF0 Nq4
    show G (T4.setTop (mkF m 28 #[.val (.ref a), .val (.int 2), .val (.int (q.1 (2 : Int32))), .val (.int 0)] [(.int 1)]))
    refine g_ifYes hG X4 hx (hb hby d5_28) (pc' := 34) (by decide) (by decide) (by decide) ?_
    show G (T4.setTop (mkF m 34 #[.val (.ref a), .val (.int 2), .val (.int (q.1 (2 : Int32))), .val (.int 0)] []))
    refine g_aloadN hG X4 hx (hb hby d5_34) (pc' := 35) rfl rfl rfl ?_
    show G (T4.setTop (mkF m 35 #[.val (.ref a), .val (.int 2), .val (.int (q.1 (2 : Int32))), .val (.int 0)] [(.ref a)]))
    refine g_aloadN hG X4 hx (hb hby d5_35) (pc' := 36) rfl rfl rfl ?_
    show G (T4.setTop (mkF m 36 #[.val (.ref a), .val (.int 2), .val (.int (q.1 (2 : Int32))), .val (.int 0)] [(.ref a), (.ref a)]))
    refine g_getF hG X4 hx hZ hown (wd hw 11 rfl) Via.refl eh4 F_heap_a (hb hby d5_36) (pc' := 39) rfl ?_
    intro T5 X5 e5
    show G (T5.setTop (mkF m 39 #[.val (.ref a), .val (.int 2), .val (.int (q.1 (2 : Int32))), .val (.int 0)] [(.ref hp), (.ref a)]))
    refine g_iloadN hG X5 hx (hb hby d5_39) (pc' := 40) rfl rfl ?_
    show G (T5.setTop (mkF m 40 #[.val (.ref a), .val (.int 2), .val (.int (q.1 (2 : Int32))), .val (.int 0)] [(.int 0), (.ref hp), (.ref a)]))
    refine g_iaload hG X5 hx hZ e5 V_hp (j := (0 : Int32)) (v := (.int (q.1 (0 : Int32)))) (in4_nn in4_0) (in4_at in4_0 rfl) (hb hby d5_40) (pc' := 41) rfl ?_
    show G (T5.setTop (mkF m 41 #[.val (.ref a), .val (.int 2), .val (.int (q.1 (2 : Int32))), .val (.int 0)] [(.int (q.1 (0 : Int32))), (.ref a)]))
    refine g_iloadN hG X5 hx (hb hby d5_41) (pc' := 42) rfl rfl ?_
    show G (T5.setTop (mkF m 42 #[.val (.ref a), .val (.int 2), .val (.int (q.1 (2 : Int32))), .val (.int 0)] [(.int 2), (.int (q.1 (0 : Int32))), (.ref a)]))
    refine g_callP hG X5 hx hZ (y := (⟨"com/example/tributary/tributary/plan/NodeHeap", "place", "(II)V"⟩ : MethodName)) 0 hown (wd hw 33 rfl) (wd hw 34 rfl) (wd hw 3 rfl) (wd hw 35 rfl) (wd hw 4 rfl) (wd hw 36 rfl) (by decide) (rmPl l Z a0 hw [] a hp pp ky sz q K (q.1 (0 : Int32)) (2 : Int32) h0 n0 Zs ⟨Ex_a, F_heap_a, F_position_a, F_key_a, F_size_a, V_hp, V_pp, V_ky⟩ ⟨ga, ghp, gpp, gky, d1, d2, d3, d4, d5, d6⟩ (show In4 (q.1 (0 : Int32)) from ii 0 (by decide)) in4_2) (by decide) (by decide) (by rw [hml]; rfl) pd_1 rfl (argsL := [(.int (q.1 (0 : Int32))), (.int 2)]) (rest := []) rfl rfl (Nat.le_of_eq rfl) (hb hby d5_42) e5 Ex_a (by decide) (by decide) (pc' := 45) rfl ?_
    intro T6 rv6 L6 X6 hQ6
    obtain ⟨rfl, Nq6, Kq6, Ex_a, F_heap_a, F_position_a, F_key_a, F_size_a, V_hp, V_pp, V_ky⟩ := hQ6
    have NF6 := Fr.app NF4 Nq6
    have Zs := Nat.le_trans Zs Kq6.1
    have K6 := K0.trans Kq6 (allS (Or.inl (List.mem_of_getElem? (i := 0) rfl)) (allS (Or.inl (List.mem_of_getElem? (i := 1) rfl)) (allS (Or.inl (List.mem_of_getElem? (i := 2) rfl)) (allS (Or.inl (List.mem_of_getElem? (i := 3) rfl)) all0))))
    show G (T6.setTop (mkF m 45 #[.val (.ref a), .val (.int 2), .val (.int (q.1 (2 : Int32))), .val (.int 0)] []))
    refine g_iloadN hG X6 hx (hb hby d5_45) (pc' := 46) rfl rfl ?_
    show G (T6.setTop (mkF m 46 #[.val (.ref a), .val (.int 2), .val (.int (q.1 (2 : Int32))), .val (.int 0)] [(.int 0)]))
    refine g_istoreN hG X6 hx (hb hby d5_46) (pc' := 47) rfl (Ls' := #[.val (.ref a), .val (.int 0), .val (.int (q.1 (2 : Int32))), .val (.int 0)]) rfl ?_
    show G (T6.setTop (mkF m 47 #[.val (.ref a), .val (.int 0), .val (.int (q.1 (2 : Int32))), .val (.int 0)] []))
    refine g_goto hG X6 hx (hb hby d5_47) (pc' := 7) (by decide) (by decide) ?_
    show G (T6.setTop (mkF m 7 #[.val (.ref a), .val (.int 0), .val (.int (q.1 (2 : Int32))), .val (.int 0)] []))
    refine g_iloadN hG X6 hx (hb hby d5_7) (pc' := 8) rfl rfl ?_
    show G (T6.setTop (mkF m 8 #[.val (.ref a), .val (.int 0), .val (.int (q.1 (2 : Int32))), .val (.int 0)] [(.int 0)]))
    refine g_ifYes hG X6 hx (hb hby d5_8) (pc' := 50) (by decide) (by decide) (by decide) ?_
    show G (T6.setTop (mkF m 50 #[.val (.ref a), .val (.int 0), .val (.int (q.1 (2 : Int32))), .val (.int 0)] []))
    refine g_aloadN hG X6 hx (hb hby d5_50) (pc' := 51) rfl rfl rfl ?_
    show G (T6.setTop (mkF m 51 #[.val (.ref a), .val (.int 0), .val (.int (q.1 (2 : Int32))), .val (.int 0)] [(.ref a)]))
    refine g_iloadN hG X6 hx (hb hby d5_51) (pc' := 52) rfl rfl ?_
    show G (T6.setTop (mkF m 52 #[.val (.ref a), .val (.int 0), .val (.int (q.1 (2 : Int32))), .val (.int 0)] [(.int (q.1 (2 : Int32))), (.ref a)]))
    refine g_iloadN hG X6 hx (hb hby d5_52) (pc' := 53) rfl rfl ?_
    show G (T6.setTop (mkF m 53 #[.val (.ref a), .val (.int 0), .val (.int (q.1 (2 : Int32))), .val (.int 0)] [(.int 0), (.int (q.1 (2 : Int32))), (.ref a)]))
    refine g_callP hG X6 hx hZ (y := (⟨"com/example/tributary/tributary/plan/NodeHeap", "place", "(II)V"⟩ : MethodName)) 0 hown (wd hw 33 rfl) (wd hw 34 rfl) (wd hw 3 rfl) (wd hw 35 rfl) (wd hw 4 rfl) (wd hw 36 rfl) (by decide) (rmPl l Z a0 hw [] a hp pp ky sz (pl q (q.1 (0 : Int32)) (2 : Int32)) K (q.1 (2 : Int32)) (0 : Int32) T6.heap n0 Zs ⟨Ex_a, F_heap_a, F_position_a, F_key_a, F_size_a, V_hp, V_pp, V_ky⟩ ⟨ga, ghp, gpp, gky, d1, d2, d3, d4, d5, d6⟩ (show In4 (q.1 (2 : Int32)) from ii 2 (by decide)) in4_0) (by decide) (by decide) (by rw [hml]; rfl) pd_1 rfl (argsL := [(.int (q.1 (2 : Int32))), (.int 0)]) (rest := []) rfl rfl (Nat.le_of_eq rfl) (hb hby d5_53) rfl Ex_a (by decide) (by decide) (pc' := 56) rfl ?_
    intro T7 rv7 L7 X7 hQ7
    obtain ⟨rfl, Nq7, Kq7, Ex_a, F_heap_a, F_position_a, F_key_a, F_size_a, V_hp, V_pp, V_ky⟩ := hQ7
    have NF7 := Fr.app NF6 Nq7
    have Zs := Nat.le_trans Zs Kq7.1
    have K7 := K6.trans Kq7 (allS (Or.inl (List.mem_of_getElem? (i := 0) rfl)) (allS (Or.inl (List.mem_of_getElem? (i := 1) rfl)) (allS (Or.inl (List.mem_of_getElem? (i := 2) rfl)) (allS (Or.inl (List.mem_of_getElem? (i := 3) rfl)) all0))))
    show G (T7.setTop (mkF m 56 #[.val (.ref a), .val (.int 0), .val (.int (q.1 (2 : Int32))), .val (.int 0)] []))
    exact e_ret0 hGe X7 hx hrt hlk (hb hby d5_56) rfl (by decide) (by decide) (⟨rfl, NF7, K7, (by
          have e : rs2 bt q = (pl (pl q (q.1 (0 : Int32)) (2 : Int32)) (q.1 (2 : Int32)) (0 : Int32)) := by
            unfold rs2
            exact if_pos g25_3
          rw [e]
          exact ⟨Ex_a, F_heap_a, F_position_a, F_key_a, F_size_a, V_hp, V_pp, V_ky⟩)⟩)
  · have _hh := g25_3
    refine g_callP hG X2 hx hZ (y := (⟨"com/example/tributary/tributary/plan/NodeHeap", "before", "(II)Z"⟩ : MethodName)) 0 hown (wd hw 37 rfl) (wd hw 38 rfl) (wd hw 3 rfl) (wd hw 39 rfl) (wd hw 4 rfl) (wd hw 40 rfl) (by decide) (rmBe l Z a0 hw [] a hp pp ky sz q K (q.1 (2 : Int32)) (q.1 (0 : Int32)) (0 : Int32) h0 n0 Zs ⟨Ex_a, F_heap_a, F_position_a, F_key_a, F_size_a, V_hp, V_pp, V_ky⟩ ⟨ga, ghp, gpp, gky, d1, d2, d3, d4, d5, d6⟩ (show In4 (q.1 (2 : Int32)) from ii 2 (by decide)) (show In4 (q.1 (0 : Int32)) from ii 0 (by decide)) ((hbb 2 0 (by decide) (by decide)).2 g25_3)) (by decide) (by decide) (by rw [hml]; rfl) pd_2 rfl (argsL := [(.int (q.1 (2 : Int32))), (.int (q.1 (0 : Int32)))]) (rest := []) rfl rfl (Nat.le_of_eq rfl) (hb hby d5_25) e2 Ex_a (by decide) (by decide) (pc' := 28) rfl ?_
    intro T8 rv8 L8 X8 hQ8
    obtain ⟨rfl, Nq8, eh8⟩ := hQ8
    have NF8 := Fr.app NF0 Nq8
    show G (T8.setTop (mkF m 28 #[.val (.ref a), .val (.int 2), .val (.int (q.1 (2 : Int32))), .val (.int 0)] [(.int 0)]))
    refine g_ifNo hG X8 hx (hb hby d5_28) (pc' := 31) (by decide) rfl ?_
    show G (T8.setTop (mkF m 31 #[.val (.ref a), .val (.int 2), .val (.int (q.1 (2 : Int32))), .val (.int 0)] []))
    refine g_goto hG X8 hx (hb hby d5_31) (pc' := 50) (by decide) (by decide) ?_
    show G (T8.setTop (mkF m 50 #[.val (.ref a), .val (.int 2), .val (.int (q.1 (2 : Int32))), .val (.int 0)] []))
    refine g_aloadN hG X8 hx (hb hby d5_50) (pc' := 51) rfl rfl rfl ?_
    show G (T8.setTop (mkF m 51 #[.val (.ref a), .val (.int 2), .val (.int (q.1 (2 : Int32))), .val (.int 0)] [(.ref a)]))
    refine g_iloadN hG X8 hx (hb hby d5_51) (pc' := 52) rfl rfl ?_
    show G (T8.setTop (mkF m 52 #[.val (.ref a), .val (.int 2), .val (.int (q.1 (2 : Int32))), .val (.int 0)] [(.int (q.1 (2 : Int32))), (.ref a)]))
    refine g_iloadN hG X8 hx (hb hby d5_52) (pc' := 53) rfl rfl ?_
    show G (T8.setTop (mkF m 53 #[.val (.ref a), .val (.int 2), .val (.int (q.1 (2 : Int32))), .val (.int 0)] [(.int 2), (.int (q.1 (2 : Int32))), (.ref a)]))
    refine g_callP hG X8 hx hZ (y := (⟨"com/example/tributary/tributary/plan/NodeHeap", "place", "(II)V"⟩ : MethodName)) 0 hown (wd hw 33 rfl) (wd hw 34 rfl) (wd hw 3 rfl) (wd hw 35 rfl) (wd hw 4 rfl) (wd hw 36 rfl) (by decide) (rmPl l Z a0 hw [] a hp pp ky sz q K (q.1 (2 : Int32)) (2 : Int32) h0 n0 Zs ⟨Ex_a, F_heap_a, F_position_a, F_key_a, F_size_a, V_hp, V_pp, V_ky⟩ ⟨ga, ghp, gpp, gky, d1, d2, d3, d4, d5, d6⟩ (show In4 (q.1 (2 : Int32)) from ii 2 (by decide)) in4_2) (by decide) (by decide) (by rw [hml]; rfl) pd_1 rfl (argsL := [(.int (q.1 (2 : Int32))), (.int 2)]) (rest := []) rfl rfl (Nat.le_of_eq rfl) (hb hby d5_53) eh8 Ex_a (by decide) (by decide) (pc' := 56) rfl ?_
    intro T9 rv9 L9 X9 hQ9
    obtain ⟨rfl, Nq9, Kq9, Ex_a, F_heap_a, F_position_a, F_key_a, F_size_a, V_hp, V_pp, V_ky⟩ := hQ9
    have NF9 := Fr.app NF8 Nq9
    have Zs := Nat.le_trans Zs Kq9.1
    have K9 := K0.trans Kq9 (allS (Or.inl (List.mem_of_getElem? (i := 0) rfl)) (allS (Or.inl (List.mem_of_getElem? (i := 1) rfl)) (allS (Or.inl (List.mem_of_getElem? (i := 2) rfl)) (allS (Or.inl (List.mem_of_getElem? (i := 3) rfl)) all0))))
    show G (T9.setTop (mkF m 56 #[.val (.ref a), .val (.int 2), .val (.int (q.1 (2 : Int32))), .val (.int 0)] []))
    exact e_ret0 hGe X9 hx hrt hlk (hb hby d5_56) rfl (by decide) (by decide) (⟨rfl, NF9, K9, (by
          have e : rs2 bt q = (pl q (q.1 (2 : Int32)) (2 : Int32)) := by
            unfold rs2
            exact if_neg g25_3
          rw [e]
          exact ⟨Ex_a, F_heap_a, F_position_a, F_key_a, F_size_a, V_hp, V_pp, V_ky⟩)⟩)

def Q_rmRs3 (Z : State) (a hp pp ky : Addr) (sz : Int32) (q : HP) (K : Int32 → UInt64) (bt : Int32 → Int32 → Bool) (h0 : Heap) (n0 : Nat) (v : Option Value) (h : Heap) (L : List Loc) : Prop := v = none ∧ Fr n0 L ∧ Keep h0 h [a, hp, pp, ky] ∧ NH Z h a hp pp ky sz (rs3 bt q) K
set_option maxRecDepth 65536 in
set_option maxHeartbeats 40000000 in
theorem rmRs3 (l : Launch) (Z : State) (a0 : Array Value) (hw : ∀ d ∈ tables_1, d.before a0 Z = true) (ws : List Jvm.Cond) (a hp pp ky : Addr) (sz : Int32) (q : HP) (K : Int32 → UInt64) (bt : Int32 → Int32 → Bool) (h0 : Heap) (n0 : Nat) (Zs : n0 ≤ h0.size) (NQ : NH Z h0 a hp pp ky sz q K) (DD : Dis n0 a hp pp ky) (ii : I4 4 q) (hbb : HB 4 K bt q) :
    Con l (⟨"com/example/tributary/tributary/plan/NodeHeap", "rise", "(I)V"⟩ : MethodName) prog_39_method_6_code 4 none ws ({ frames := 1, cells := 0, slots := 0, locals := 24 } : Room) Z #[(.ref a), (.int 3)] h0 ({ frames := 1, cells := 0, slots := 0, locals := 24 } : Room).cells ({ frames := 1, cells := 0, slots := 0, locals := 24 } : Room).slots (Q_rmRs3 Z a hp pp ky sz q K bt h0 n0) := by
  refine Con.of (Ls := #[.val (.ref a), .val (.int 3), .unset, .unset]) (plainFor_of_name (by first | (simp [plainName, overriddenIn]; done) | decide +kernel)) (fun m => by first | (simp [entryFrame, mkF, argsToLocals, Value.category]; done) | rfl) ?_
  intro p e s m below meth c s₁ G hGe hG hx hby hml hown hnm hrt hlk hZ X0 e0
  have hown : s.vm.findClass "com/example/tributary/tributary/plan/NodeHeap" = some m.cls := hown
  have hnm : meth.name = "rise" := hnm
  have NF0 := Fr.nil n0
  obtain ⟨Ex_a, F_heap_a, F_position_a, F_key_a, F_size_a, V_hp, V_pp, V_ky⟩ := NQ
  obtain ⟨ga, ghp, gpp, gky, d1, d2, d3, d4, d5, d6⟩ := DD
  have K0 := Keep.refl h0 [a, hp, pp, ky]
  refine g_aloadN hG X0 hx (hb hby d5_0) (pc' := 1) rfl rfl rfl ?_
  show G (s₁.setTop (mkF m 1 #[.val (.ref a), .val (.int 3), .unset, .unset] [(.ref a)]))
  refine g_getF hG X0 hx hZ hown (wd hw 11 rfl) Via.refl e0 F_heap_a (hb hby d5_1) (pc' := 4) rfl ?_
  intro T1 X1 e1
  show G (T1.setTop (mkF m 4 #[.val (.ref a), .val (.int 3), .unset, .unset] [(.ref hp)]))
  refine g_iloadN hG X1 hx (hb hby d5_4) (pc' := 5) rfl rfl ?_
  show G (T1.setTop (mkF m 5 #[.val (.ref a), .val (.int 3), .unset, .unset] [(.int 3), (.ref hp)]))
  refine g_iaload hG X1 hx hZ e1 V_hp (j := (3 : Int32)) (v := (.int (q.1 (3 : Int32)))) (in4_nn in4_3) (in4_at in4_3 rfl) (hb hby d5_5) (pc' := 6) rfl ?_
  show G (T1.setTop (mkF m 6 #[.val (.ref a), .val (.int 3), .unset, .unset] [(.int (q.1 (3 : Int32)))]))
  refine g_istoreN hG X1 hx (hb hby d5_6) (pc' := 7) rfl (Ls' := #[.val (.ref a), .val (.int 3), .val (.int (q.1 (3 : Int32))), .unset]) rfl ?_
  show G (T1.setTop (mkF m 7 #[.val (.ref a), .val (.int 3), .val (.int (q.1 (3 : Int32))), .unset] []))
  refine g_iloadN hG X1 hx (hb hby d5_7) (pc' := 8) rfl rfl ?_
  show G (T1.setTop (mkF m 8 #[.val (.ref a), .val (.int 3), .val (.int (q.1 (3 : Int32))), .unset] [(.int 3)]))
  refine g_ifNo hG X1 hx (hb hby d5_8) (pc' := 11) (by decide) rfl ?_
  show G (T1.setTop (mkF m 11 #[.val (.ref a), .val (.int 3), .val (.int (q.1 (3 : Int32))), .unset] []))
  refine g_iloadN hG X1 hx (hb hby d5_11) (pc' := 12) rfl rfl ?_
  show G (T1.setTop (mkF m 12 #[.val (.ref a), .val (.int 3), .val (.int (q.1 (3 : Int32))), .unset] [(.int 3)]))
  refine g_iconst hG X1 hx (hb hby d5_12) (pc' := 13) rfl (v := (1 : Int32)) rfl ?_
  show G (T1.setTop (mkF m 13 #[.val (.ref a), .val (.int 3), .val (.int (q.1 (3 : Int32))), .unset] [(.int 1), (.int 3)]))
  refine g_isub hG X1 hx (hb hby d5_13) (pc' := 14) rfl (v := (2 : Int32)) (by decide) ?_
  show G (T1.setTop (mkF m 14 #[.val (.ref a), .val (.int 3), .val (.int (q.1 (3 : Int32))), .unset] [(.int 2)]))
  refine g_iconst hG X1 hx (hb hby d5_14) (pc' := 15) rfl (v := (2 : Int32)) rfl ?_
  show G (T1.setTop (mkF m 15 #[.val (.ref a), .val (.int 3), .val (.int (q.1 (3 : Int32))), .unset] [(.int 2), (.int 2)]))
  refine g_idiv hG X1 hx (hb hby d5_15) (pc' := 16) rfl (by decide) (v := (1 : Int32)) (by decide) ?_
  show G (T1.setTop (mkF m 16 #[.val (.ref a), .val (.int 3), .val (.int (q.1 (3 : Int32))), .unset] [(.int 1)]))
  refine g_istoreN hG X1 hx (hb hby d5_16) (pc' := 17) rfl (Ls' := #[.val (.ref a), .val (.int 3), .val (.int (q.1 (3 : Int32))), .val (.int 1)]) rfl ?_
  show G (T1.setTop (mkF m 17 #[.val (.ref a), .val (.int 3), .val (.int (q.1 (3 : Int32))), .val (.int 1)] []))
  refine g_aloadN hG X1 hx (hb hby d5_17) (pc' := 18) rfl rfl rfl ?_
  show G (T1.setTop (mkF m 18 #[.val (.ref a), .val (.int 3), .val (.int (q.1 (3 : Int32))), .val (.int 1)] [(.ref a)]))
  refine g_iloadN hG X1 hx (hb hby d5_18) (pc' := 19) rfl rfl ?_
  show G (T1.setTop (mkF m 19 #[.val (.ref a), .val (.int 3), .val (.int (q.1 (3 : Int32))), .val (.int 1)] [(.int (q.1 (3 : Int32))), (.ref a)]))
  refine g_aloadN hG X1 hx (hb hby d5_19) (pc' := 20) rfl rfl rfl ?_
  show G (T1.setTop (mkF m 20 #[.val (.ref a), .val (.int 3), .val (.int (q.1 (3 : Int32))), .val (.int 1)] [(.ref a), (.int (q.1 (3 : Int32))), (.ref a)]))
  refine g_getF hG X1 hx hZ hown (wd hw 11 rfl) Via.refl e1 F_heap_a (hb hby d5_20) (pc' := 23) rfl ?_
  intro T2 X2 e2
  show G (T2.setTop (mkF m 23 #[.val (.ref a), .val (.int 3), .val (.int (q.1 (3 : Int32))), .val (.int 1)] [(.ref hp), (.int (q.1 (3 : Int32))), (.ref a)]))
  refine g_iloadN hG X2 hx (hb hby d5_23) (pc' := 24) rfl rfl ?_
  show G (T2.setTop (mkF m 24 #[.val (.ref a), .val (.int 3), .val (.int (q.1 (3 : Int32))), .val (.int 1)] [(.int 1), (.ref hp), (.int (q.1 (3 : Int32))), (.ref a)]))
  refine g_iaload hG X2 hx hZ e2 V_hp (j := (1 : Int32)) (v := (.int (q.1 (1 : Int32)))) (in4_nn in4_1) (in4_at in4_1 rfl) (hb hby d5_24) (pc' := 25) rfl ?_
  show G (T2.setTop (mkF m 25 #[.val (.ref a), .val (.int 3), .val (.int (q.1 (3 : Int32))), .val (.int 1)] [(.int (q.1 (1 : Int32))), (.int (q.1 (3 : Int32))), (.ref a)]))
  by_cases g25_3 : bt (q.1 (3 : Int32)) (q.1 (1 : Int32)) = true
  · have _hh := g25_3
    refine g_callP hG X2 hx hZ (y := (⟨"com/example/tributary/tributary/plan/NodeHeap", "before", "(II)Z"⟩ : MethodName)) 0 hown (wd hw 37 rfl) (wd hw 38 rfl) (wd hw 3 rfl) (wd hw 39 rfl) (wd hw 4 rfl) (wd hw 40 rfl) (by decide) (rmBe l Z a0 hw [] a hp pp ky sz q K (q.1 (3 : Int32)) (q.1 (1 : Int32)) (1 : Int32) h0 n0 Zs ⟨Ex_a, F_heap_a, F_position_a, F_key_a, F_size_a, V_hp, V_pp, V_ky⟩ ⟨ga, ghp, gpp, gky, d1, d2, d3, d4, d5, d6⟩ (show In4 (q.1 (3 : Int32)) from ii 3 (by decide)) (show In4 (q.1 (1 : Int32)) from ii 1 (by decide)) ((hbb 3 1 (by decide) (by decide)).1 g25_3)) (by decide) (by decide) (by rw [hml]; rfl) pd_2 rfl (argsL := [(.int (q.1 (3 : Int32))), (.int (q.1 (1 : Int32)))]) (rest := []) rfl rfl (Nat.le_of_eq rfl) (hb hby d5_25) e2 Ex_a (by decide) (by decide) (pc' := 28) rfl ?_
    intro T4 rv4 L4 X4 hQ4
    obtain ⟨rfl, Nq4, eh4⟩ := hQ4
    have NF4 := Fr.app NF0 Nq4
    show G (T4.setTop (mkF m 28 #[.val (.ref a), .val (.int 3), .val (.int (q.1 (3 : Int32))), .val (.int 1)] [(.int 1)]))
    refine g_ifYes hG X4 hx (hb hby d5_28) (pc' := 34) (by decide) (by decide) (by decide) ?_
    show G (T4.setTop (mkF m 34 #[.val (.ref a), .val (.int 3), .val (.int (q.1 (3 : Int32))), .val (.int 1)] []))
    refine g_aloadN hG X4 hx (hb hby d5_34) (pc' := 35) rfl rfl rfl ?_
    show G (T4.setTop (mkF m 35 #[.val (.ref a), .val (.int 3), .val (.int (q.1 (3 : Int32))), .val (.int 1)] [(.ref a)]))
    refine g_aloadN hG X4 hx (hb hby d5_35) (pc' := 36) rfl rfl rfl ?_
    show G (T4.setTop (mkF m 36 #[.val (.ref a), .val (.int 3), .val (.int (q.1 (3 : Int32))), .val (.int 1)] [(.ref a), (.ref a)]))
    refine g_getF hG X4 hx hZ hown (wd hw 11 rfl) Via.refl eh4 F_heap_a (hb hby d5_36) (pc' := 39) rfl ?_
    intro T5 X5 e5
    show G (T5.setTop (mkF m 39 #[.val (.ref a), .val (.int 3), .val (.int (q.1 (3 : Int32))), .val (.int 1)] [(.ref hp), (.ref a)]))
    refine g_iloadN hG X5 hx (hb hby d5_39) (pc' := 40) rfl rfl ?_
    show G (T5.setTop (mkF m 40 #[.val (.ref a), .val (.int 3), .val (.int (q.1 (3 : Int32))), .val (.int 1)] [(.int 1), (.ref hp), (.ref a)]))
    refine g_iaload hG X5 hx hZ e5 V_hp (j := (1 : Int32)) (v := (.int (q.1 (1 : Int32)))) (in4_nn in4_1) (in4_at in4_1 rfl) (hb hby d5_40) (pc' := 41) rfl ?_
    show G (T5.setTop (mkF m 41 #[.val (.ref a), .val (.int 3), .val (.int (q.1 (3 : Int32))), .val (.int 1)] [(.int (q.1 (1 : Int32))), (.ref a)]))
    refine g_iloadN hG X5 hx (hb hby d5_41) (pc' := 42) rfl rfl ?_
    show G (T5.setTop (mkF m 42 #[.val (.ref a), .val (.int 3), .val (.int (q.1 (3 : Int32))), .val (.int 1)] [(.int 3), (.int (q.1 (1 : Int32))), (.ref a)]))
    refine g_callP hG X5 hx hZ (y := (⟨"com/example/tributary/tributary/plan/NodeHeap", "place", "(II)V"⟩ : MethodName)) 0 hown (wd hw 33 rfl) (wd hw 34 rfl) (wd hw 3 rfl) (wd hw 35 rfl) (wd hw 4 rfl) (wd hw 36 rfl) (by decide) (rmPl l Z a0 hw [] a hp pp ky sz q K (q.1 (1 : Int32)) (3 : Int32) h0 n0 Zs ⟨Ex_a, F_heap_a, F_position_a, F_key_a, F_size_a, V_hp, V_pp, V_ky⟩ ⟨ga, ghp, gpp, gky, d1, d2, d3, d4, d5, d6⟩ (show In4 (q.1 (1 : Int32)) from ii 1 (by decide)) in4_3) (by decide) (by decide) (by rw [hml]; rfl) pd_1 rfl (argsL := [(.int (q.1 (1 : Int32))), (.int 3)]) (rest := []) rfl rfl (Nat.le_of_eq rfl) (hb hby d5_42) e5 Ex_a (by decide) (by decide) (pc' := 45) rfl ?_
    intro T6 rv6 L6 X6 hQ6
    obtain ⟨rfl, Nq6, Kq6, Ex_a, F_heap_a, F_position_a, F_key_a, F_size_a, V_hp, V_pp, V_ky⟩ := hQ6
    have NF6 := Fr.app NF4 Nq6
    have Zs := Nat.le_trans Zs Kq6.1
    have K6 := K0.trans Kq6 (allS (Or.inl (List.mem_of_getElem? (i := 0) rfl)) (allS (Or.inl (List.mem_of_getElem? (i := 1) rfl)) (allS (Or.inl (List.mem_of_getElem? (i := 2) rfl)) (allS (Or.inl (List.mem_of_getElem? (i := 3) rfl)) all0))))
    show G (T6.setTop (mkF m 45 #[.val (.ref a), .val (.int 3), .val (.int (q.1 (3 : Int32))), .val (.int 1)] []))
    refine g_iloadN hG X6 hx (hb hby d5_45) (pc' := 46) rfl rfl ?_
    show G (T6.setTop (mkF m 46 #[.val (.ref a), .val (.int 3), .val (.int (q.1 (3 : Int32))), .val (.int 1)] [(.int 1)]))
    refine g_istoreN hG X6 hx (hb hby d5_46) (pc' := 47) rfl (Ls' := #[.val (.ref a), .val (.int 1), .val (.int (q.1 (3 : Int32))), .val (.int 1)]) rfl ?_
    show G (T6.setTop (mkF m 47 #[.val (.ref a), .val (.int 1), .val (.int (q.1 (3 : Int32))), .val (.int 1)] []))
    refine g_goto hG X6 hx (hb hby d5_47) (pc' := 7) (by decide) (by decide) ?_
    show G (T6.setTop (mkF m 7 #[.val (.ref a), .val (.int 1), .val (.int (q.1 (3 : Int32))), .val (.int 1)] []))
    refine g_iloadN hG X6 hx (hb hby d5_7) (pc' := 8) rfl rfl ?_
    show G (T6.setTop (mkF m 8 #[.val (.ref a), .val (.int 1), .val (.int (q.1 (3 : Int32))), .val (.int 1)] [(.int 1)]))
    refine g_ifNo hG X6 hx (hb hby d5_8) (pc' := 11) (by decide) rfl ?_
    show G (T6.setTop (mkF m 11 #[.val (.ref a), .val (.int 1), .val (.int (q.1 (3 : Int32))), .val (.int 1)] []))
    refine g_iloadN hG X6 hx (hb hby d5_11) (pc' := 12) rfl rfl ?_
    show G (T6.setTop (mkF m 12 #[.val (.ref a), .val (.int 1), .val (.int (q.1 (3 : Int32))), .val (.int 1)] [(.int 1)]))
    refine g_iconst hG X6 hx (hb hby d5_12) (pc' := 13) rfl (v := (1 : Int32)) rfl ?_
    show G (T6.setTop (mkF m 13 #[.val (.ref a), .val (.int 1), .val (.int (q.1 (3 : Int32))), .val (.int 1)] [(.int 1), (.int 1)]))
    refine g_isub hG X6 hx (hb hby d5_13) (pc' := 14) rfl (v := (0 : Int32)) (by decide) ?_
    show G (T6.setTop (mkF m 14 #[.val (.ref a), .val (.int 1), .val (.int (q.1 (3 : Int32))), .val (.int 1)] [(.int 0)]))
    refine g_iconst hG X6 hx (hb hby d5_14) (pc' := 15) rfl (v := (2 : Int32)) rfl ?_
    show G (T6.setTop (mkF m 15 #[.val (.ref a), .val (.int 1), .val (.int (q.1 (3 : Int32))), .val (.int 1)] [(.int 2), (.int 0)]))
    refine g_idiv hG X6 hx (hb hby d5_15) (pc' := 16) rfl (by decide) (v := (0 : Int32)) (by decide) ?_
    show G (T6.setTop (mkF m 16 #[.val (.ref a), .val (.int 1), .val (.int (q.1 (3 : Int32))), .val (.int 1)] [(.int 0)]))
    refine g_istoreN hG X6 hx (hb hby d5_16) (pc' := 17) rfl (Ls' := #[.val (.ref a), .val (.int 1), .val (.int (q.1 (3 : Int32))), .val (.int 0)]) rfl ?_
    show G (T6.setTop (mkF m 17 #[.val (.ref a), .val (.int 1), .val (.int (q.1 (3 : Int32))), .val (.int 0)] []))
    refine g_aloadN hG X6 hx (hb hby d5_17) (pc' := 18) rfl rfl rfl ?_
    show G (T6.setTop (mkF m 18 #[.val (.ref a), .val (.int 1), .val (.int (q.1 (3 : Int32))), .val (.int 0)] [(.ref a)]))
    refine g_iloadN hG X6 hx (hb hby d5_18) (pc' := 19) rfl rfl ?_
    show G (T6.setTop (mkF m 19 #[.val (.ref a), .val (.int 1), .val (.int (q.1 (3 : Int32))), .val (.int 0)] [(.int (q.1 (3 : Int32))), (.ref a)]))
    refine g_aloadN hG X6 hx (hb hby d5_19) (pc' := 20) rfl rfl rfl ?_
    show G (T6.setTop (mkF m 20 #[.val (.ref a), .val (.int 1), .val (.int (q.1 (3 : Int32))), .val (.int 0)] [(.ref a), (.int (q.1 (3 : Int32))), (.ref a)]))
    refine g_getF hG X6 hx hZ hown (wd hw 11 rfl) Via.refl rfl F_heap_a (hb hby d5_20) (pc' := 23) rfl ?_
    intro T7 X7 e7
    show G (T7.setTop (mkF m 23 #[.val (.ref a), .val (.int 1), .val (.int (q.1 (3 : Int32))), .val (.int 0)] [(.ref hp), (.int (q.1 (3 : Int32))), (.ref a)]))
    refine g_iloadN hG X7 hx (hb hby d5_23) (pc' := 24) rfl rfl ?_
    show G (T7.setTop (mkF m 24 #[.val (.ref a), .val (.int 1), .val (.int (q.1 (3 : Int32))), .val (.int 0)] [(.int 0), (.ref hp), (.int (q.1 (3 : Int32))), (.ref a)]))
    refine g_iaload hG X7 hx hZ e7 V_hp (j := (0 : Int32)) (v := (.int (q.1 (0 : Int32)))) (in4_nn in4_0) (in4_at in4_0 rfl) (hb hby d5_24) (pc' := 25) rfl ?_
    show G (T7.setTop (mkF m 25 #[.val (.ref a), .val (.int 1), .val (.int (q.1 (3 : Int32))), .val (.int 0)] [(.int (q.1 (0 : Int32))), (.int (q.1 (3 : Int32))), (.ref a)]))
    by_cases g25_8 : bt (q.1 (3 : Int32)) (q.1 (0 : Int32)) = true
    · have _hh := g25_8
      refine g_callP hG X7 hx hZ (y := (⟨"com/example/tributary/tributary/plan/NodeHeap", "before", "(II)Z"⟩ : MethodName)) 0 hown (wd hw 37 rfl) (wd hw 38 rfl) (wd hw 3 rfl) (wd hw 39 rfl) (wd hw 4 rfl) (wd hw 40 rfl) (by decide) (rmBe l Z a0 hw [] a hp pp ky sz (pl q (q.1 (1 : Int32)) (3 : Int32)) K (q.1 (3 : Int32)) (q.1 (0 : Int32)) (1 : Int32) T6.heap n0 Zs ⟨Ex_a, F_heap_a, F_position_a, F_key_a, F_size_a, V_hp, V_pp, V_ky⟩ ⟨ga, ghp, gpp, gky, d1, d2, d3, d4, d5, d6⟩ (show In4 (q.1 (3 : Int32)) from ii 3 (by decide)) (show In4 (q.1 (0 : Int32)) from ii 0 (by decide)) ((hbb 3 0 (by decide) (by decide)).1 g25_8)) (by decide) (by decide) (by rw [hml]; rfl) pd_2 rfl (argsL := [(.int (q.1 (3 : Int32))), (.int (q.1 (0 : Int32)))]) (rest := []) rfl rfl (Nat.le_of_eq rfl) (hb hby d5_25) e7 Ex_a (by decide) (by decide) (pc' := 28) rfl ?_
      intro T9 rv9 L9 X9 hQ9
      obtain ⟨rfl, Nq9, eh9⟩ := hQ9
      have NF9 := Fr.app NF6 Nq9
      show G (T9.setTop (mkF m 28 #[.val (.ref a), .val (.int 1), .val (.int (q.1 (3 : Int32))), .val (.int 0)] [(.int 1)]))
      refine g_ifYes hG X9 hx (hb hby d5_28) (pc' := 34) (by decide) (by decide) (by decide) ?_
      show G (T9.setTop (mkF m 34 #[.val (.ref a), .val (.int 1), .val (.int (q.1 (3 : Int32))), .val (.int 0)] []))
      refine g_aloadN hG X9 hx (hb hby d5_34) (pc' := 35) rfl rfl rfl ?_
      show G (T9.setTop (mkF m 35 #[.val (.ref a), .val (.int 1), .val (.int (q.1 (3 : Int32))), .val (.int 0)] [(.ref a)]))
      refine g_aloadN hG X9 hx (hb hby d5_35) (pc' := 36) rfl rfl rfl ?_
      show G (T9.setTop (mkF m 36 #[.val (.ref a), .val (.int 1), .val (.int (q.1 (3 : Int32))), .val (.int 0)] [(.ref a), (.ref a)]))
      refine g_getF hG X9 hx hZ hown (wd hw 11 rfl) Via.refl eh9 F_heap_a (hb hby d5_36) (pc' := 39) rfl ?_
      intro T10 X10 e10
      show G (T10.setTop (mkF m 39 #[.val (.ref a), .val (.int 1), .val (.int (q.1 (3 : Int32))), .val (.int 0)] [(.ref hp), (.ref a)]))
      refine g_iloadN hG X10 hx (hb hby d5_39) (pc' := 40) rfl rfl ?_
      show G (T10.setTop (mkF m 40 #[.val (.ref a), .val (.int 1), .val (.int (q.1 (3 : Int32))), .val (.int 0)] [(.int 0), (.ref hp), (.ref a)]))
      refine g_iaload hG X10 hx hZ e10 V_hp (j := (0 : Int32)) (v := (.int (q.1 (0 : Int32)))) (in4_nn in4_0) (in4_at in4_0 rfl) (hb hby d5_40) (pc' := 41) rfl ?_
      show G (T10.setTop (mkF m 41 #[.val (.ref a), .val (.int 1), .val (.int (q.1 (3 : Int32))), .val (.int 0)] [(.int (q.1 (0 : Int32))), (.ref a)]))
      refine g_iloadN hG X10 hx (hb hby d5_41) (pc' := 42) rfl rfl ?_
      show G (T10.setTop (mkF m 42 #[.val (.ref a), .val (.int 1), .val (.int (q.1 (3 : Int32))), .val (.int 0)] [(.int 1), (.int (q.1 (0 : Int32))), (.ref a)]))
      refine g_callP hG X10 hx hZ (y := (⟨"com/example/tributary/tributary/plan/NodeHeap", "place", "(II)V"⟩ : MethodName)) 0 hown (wd hw 33 rfl) (wd hw 34 rfl) (wd hw 3 rfl) (wd hw 35 rfl) (wd hw 4 rfl) (wd hw 36 rfl) (by decide) (rmPl l Z a0 hw [] a hp pp ky sz (pl q (q.1 (1 : Int32)) (3 : Int32)) K (q.1 (0 : Int32)) (1 : Int32) T6.heap n0 Zs ⟨Ex_a, F_heap_a, F_position_a, F_key_a, F_size_a, V_hp, V_pp, V_ky⟩ ⟨ga, ghp, gpp, gky, d1, d2, d3, d4, d5, d6⟩ (show In4 (q.1 (0 : Int32)) from ii 0 (by decide)) in4_1) (by decide) (by decide) (by rw [hml]; rfl) pd_1 rfl (argsL := [(.int (q.1 (0 : Int32))), (.int 1)]) (rest := []) rfl rfl (Nat.le_of_eq rfl) (hb hby d5_42) e10 Ex_a (by decide) (by decide) (pc' := 45) rfl ?_
      intro T11 rv11 L11 X11 hQ11
      obtain ⟨rfl, Nq11, Kq11, Ex_a, F_heap_a, F_position_a, F_key_a, F_size_a, V_hp, V_pp, V_ky⟩ := hQ11
      have NF11 := Fr.app NF9 Nq11
      have Zs := Nat.le_trans Zs Kq11.1
      have K11 := K6.trans Kq11 (allS (Or.inl (List.mem_of_getElem? (i := 0) rfl)) (allS (Or.inl (List.mem_of_getElem? (i := 1) rfl)) (allS (Or.inl (List.mem_of_getElem? (i := 2) rfl)) (allS (Or.inl (List.mem_of_getElem? (i := 3) rfl)) all0))))
      show G (T11.setTop (mkF m 45 #[.val (.ref a), .val (.int 1), .val (.int (q.1 (3 : Int32))), .val (.int 0)] []))
      refine g_iloadN hG X11 hx (hb hby d5_45) (pc' := 46) rfl rfl ?_
      show G (T11.setTop (mkF m 46 #[.val (.ref a), .val (.int 1), .val (.int (q.1 (3 : Int32))), .val (.int 0)] [(.int 0)]))
      refine g_istoreN hG X11 hx (hb hby d5_46) (pc' := 47) rfl (Ls' := #[.val (.ref a), .val (.int 0), .val (.int (q.1 (3 : Int32))), .val (.int 0)]) rfl ?_
      show G (T11.setTop (mkF m 47 #[.val (.ref a), .val (.int 0), .val (.int (q.1 (3 : Int32))), .val (.int 0)] []))
      refine g_goto hG X11 hx (hb hby d5_47) (pc' := 7) (by decide) (by decide) ?_
      show G (T11.setTop (mkF m 7 #[.val (.ref a), .val (.int 0), .val (.int (q.1 (3 : Int32))), .val (.int 0)] []))
      refine g_iloadN hG X11 hx (hb hby d5_7) (pc' := 8) rfl rfl ?_
      show G (T11.setTop (mkF m 8 #[.val (.ref a), .val (.int 0), .val (.int (q.1 (3 : Int32))), .val (.int 0)] [(.int 0)]))
      refine g_ifYes hG X11 hx (hb hby d5_8) (pc' := 50) (by decide) (by decide) (by decide) ?_
      show G (T11.setTop (mkF m 50 #[.val (.ref a), .val (.int 0), .val (.int (q.1 (3 : Int32))), .val (.int 0)] []))
      refine g_aloadN hG X11 hx (hb hby d5_50) (pc' := 51) rfl rfl rfl ?_
      show G (T11.setTop (mkF m 51 #[.val (.ref a), .val (.int 0), .val (.int (q.1 (3 : Int32))), .val (.int 0)] [(.ref a)]))
      refine g_iloadN hG X11 hx (hb hby d5_51) (pc' := 52) rfl rfl ?_
      show G (T11.setTop (mkF m 52 #[.val (.ref a), .val (.int 0), .val (.int (q.1 (3 : Int32))), .val (.int 0)] [(.int (q.1 (3 : Int32))), (.ref a)]))
      refine g_iloadN hG X11 hx (hb hby d5_52) (pc' := 53) rfl rfl ?_
      show G (T11.setTop (mkF m 53 #[.val (.ref a), .val (.int 0), .val (.int (q.1 (3 : Int32))), .val (.int 0)] [(.int 0), (.int (q.1 (3 : Int32))), (.ref a)]))
      refine g_callP hG X11 hx hZ (y := (⟨"com/example/tributary/tributary/plan/NodeHeap", "place", "(II)V"⟩ : MethodName)) 0 hown (wd hw 33 rfl) (wd hw 34 rfl) (wd hw 3 rfl) (wd hw 35 rfl) (wd hw 4 rfl) (wd hw 36 rfl) (by decide) (rmPl l Z a0 hw [] a hp pp ky sz (pl (pl q (q.1 (1 : Int32)) (3 : Int32)) (q.1 (0 : Int32)) (1 : Int32)) K (q.1 (3 : Int32)) (0 : Int32) T11.heap n0 Zs ⟨Ex_a, F_heap_a, F_position_a, F_key_a, F_size_a, V_hp, V_pp, V_ky⟩ ⟨ga, ghp, gpp, gky, d1, d2, d3, d4, d5, d6⟩ (show In4 (q.1 (3 : Int32)) from ii 3 (by decide)) in4_0) (by decide) (by decide) (by rw [hml]; rfl) pd_1 rfl (argsL := [(.int (q.1 (3 : Int32))), (.int 0)]) (rest := []) rfl rfl (Nat.le_of_eq rfl) (hb hby d5_53) rfl Ex_a (by decide) (by decide) (pc' := 56) rfl ?_
      intro T12 rv12 L12 X12 hQ12
      obtain ⟨rfl, Nq12, Kq12, Ex_a, F_heap_a, F_position_a, F_key_a, F_size_a, V_hp, V_pp, V_ky⟩ := hQ12
      have NF12 := Fr.app NF11 Nq12
      have Zs := Nat.le_trans Zs Kq12.1
      have K12 := K11.trans Kq12 (allS (Or.inl (List.mem_of_getElem? (i := 0) rfl)) (allS (Or.inl (List.mem_of_getElem? (i := 1) rfl)) (allS (Or.inl (List.mem_of_getElem? (i := 2) rfl)) (allS (Or.inl (List.mem_of_getElem? (i := 3) rfl)) all0))))
      show G (T12.setTop (mkF m 56 #[.val (.ref a), .val (.int 0), .val (.int (q.1 (3 : Int32))), .val (.int 0)] []))
      exact e_ret0 hGe X12 hx hrt hlk (hb hby d5_56) rfl (by decide) (by decide) (⟨rfl, NF12, K12, (by
              have e : rs3 bt q = (pl (pl (pl q (q.1 (1 : Int32)) (3 : Int32)) (q.1 (0 : Int32)) (1 : Int32)) (q.1 (3 : Int32)) (0 : Int32)) := by
                unfold rs3
                rw [if_pos g25_3, if_pos g25_8]
              rw [e]
              exact ⟨Ex_a, F_heap_a, F_position_a, F_key_a, F_size_a, V_hp, V_pp, V_ky⟩)⟩)
    · have _hh := g25_8
      refine g_callP hG X7 hx hZ (y := (⟨"com/example/tributary/tributary/plan/NodeHeap", "before", "(II)Z"⟩ : MethodName)) 0 hown (wd hw 37 rfl) (wd hw 38 rfl) (wd hw 3 rfl) (wd hw 39 rfl) (wd hw 4 rfl) (wd hw 40 rfl) (by decide) (rmBe l Z a0 hw [] a hp pp ky sz (pl q (q.1 (1 : Int32)) (3 : Int32)) K (q.1 (3 : Int32)) (q.1 (0 : Int32)) (0 : Int32) T6.heap n0 Zs ⟨Ex_a, F_heap_a, F_position_a, F_key_a, F_size_a, V_hp, V_pp, V_ky⟩ ⟨ga, ghp, gpp, gky, d1, d2, d3, d4, d5, d6⟩ (show In4 (q.1 (3 : Int32)) from ii 3 (by decide)) (show In4 (q.1 (0 : Int32)) from ii 0 (by decide)) ((hbb 3 0 (by decide) (by decide)).2 g25_8)) (by decide) (by decide) (by rw [hml]; rfl) pd_2 rfl (argsL := [(.int (q.1 (3 : Int32))), (.int (q.1 (0 : Int32)))]) (rest := []) rfl rfl (Nat.le_of_eq rfl) (hb hby d5_25) e7 Ex_a (by decide) (by decide) (pc' := 28) rfl ?_
      intro T13 rv13 L13 X13 hQ13
      obtain ⟨rfl, Nq13, eh13⟩ := hQ13
      have NF13 := Fr.app NF6 Nq13
      show G (T13.setTop (mkF m 28 #[.val (.ref a), .val (.int 1), .val (.int (q.1 (3 : Int32))), .val (.int 0)] [(.int 0)]))
      refine g_ifNo hG X13 hx (hb hby d5_28) (pc' := 31) (by decide) rfl ?_
      show G (T13.setTop (mkF m 31 #[.val (.ref a), .val (.int 1), .val (.int (q.1 (3 : Int32))), .val (.int 0)] []))
      refine g_goto hG X13 hx (hb hby d5_31) (pc' := 50) (by decide) (by decide) ?_
      show G (T13.setTop (mkF m 50 #[.val (.ref a), .val (.int 1), .val (.int (q.1 (3 : Int32))), .val (.int 0)] []))
      refine g_aloadN hG X13 hx (hb hby d5_50) (pc' := 51) rfl rfl rfl ?_
      show G (T13.setTop (mkF m 51 #[.val (.ref a), .val (.int 1), .val (.int (q.1 (3 : Int32))), .val (.int 0)] [(.ref a)]))
      refine g_iloadN hG X13 hx (hb hby d5_51) (pc' := 52) rfl rfl ?_
      show G (T13.setTop (mkF m 52 #[.val (.ref a), .val (.int 1), .val (.int (q.1 (3 : Int32))), .val (.int 0)] [(.int (q.1 (3 : Int32))), (.ref a)]))
      refine g_iloadN hG X13 hx (hb hby d5_52) (pc' := 53) rfl rfl ?_
      show G (T13.setTop (mkF m 53 #[.val (.ref a), .val (.int 1), .val (.int (q.1 (3 : Int32))), .val (.int 0)] [(.int 1), (.int (q.1 (3 : Int32))), (.ref a)]))
      refine g_callP hG X13 hx hZ (y := (⟨"com/example/tributary/tributary/plan/NodeHeap", "place", "(II)V"⟩ : MethodName)) 0 hown (wd hw 33 rfl) (wd hw 34 rfl) (wd hw 3 rfl) (wd hw 35 rfl) (wd hw 4 rfl) (wd hw 36 rfl) (by decide) (rmPl l Z a0 hw [] a hp pp ky sz (pl q (q.1 (1 : Int32)) (3 : Int32)) K (q.1 (3 : Int32)) (1 : Int32) T6.heap n0 Zs ⟨Ex_a, F_heap_a, F_position_a, F_key_a, F_size_a, V_hp, V_pp, V_ky⟩ ⟨ga, ghp, gpp, gky, d1, d2, d3, d4, d5, d6⟩ (show In4 (q.1 (3 : Int32)) from ii 3 (by decide)) in4_1) (by decide) (by decide) (by rw [hml]; rfl) pd_1 rfl (argsL := [(.int (q.1 (3 : Int32))), (.int 1)]) (rest := []) rfl rfl (Nat.le_of_eq rfl) (hb hby d5_53) eh13 Ex_a (by decide) (by decide) (pc' := 56) rfl ?_
      intro T14 rv14 L14 X14 hQ14
      obtain ⟨rfl, Nq14, Kq14, Ex_a, F_heap_a, F_position_a, F_key_a, F_size_a, V_hp, V_pp, V_ky⟩ := hQ14
      have NF14 := Fr.app NF13 Nq14
      have Zs := Nat.le_trans Zs Kq14.1
      have K14 := K6.trans Kq14 (allS (Or.inl (List.mem_of_getElem? (i := 0) rfl)) (allS (Or.inl (List.mem_of_getElem? (i := 1) rfl)) (allS (Or.inl (List.mem_of_getElem? (i := 2) rfl)) (allS (Or.inl (List.mem_of_getElem? (i := 3) rfl)) all0))))
      show G (T14.setTop (mkF m 56 #[.val (.ref a), .val (.int 1), .val (.int (q.1 (3 : Int32))), .val (.int 0)] []))
      exact e_ret0 hGe X14 hx hrt hlk (hb hby d5_56) rfl (by decide) (by decide) (⟨rfl, NF14, K14, (by
              have e : rs3 bt q = (pl (pl q (q.1 (1 : Int32)) (3 : Int32)) (q.1 (3 : Int32)) (1 : Int32)) := by
                unfold rs3
                rw [if_pos g25_3, if_neg g25_8]
              rw [e]
              exact ⟨Ex_a, F_heap_a, F_position_a, F_key_a, F_size_a, V_hp, V_pp, V_ky⟩)⟩)
  · have _hh := g25_3
    refine g_callP hG X2 hx hZ (y := (⟨"com/example/tributary/tributary/plan/NodeHeap", "before", "(II)Z"⟩ : MethodName)) 0 hown (wd hw 37 rfl) (wd hw 38 rfl) (wd hw 3 rfl) (wd hw 39 rfl) (wd hw 4 rfl) (wd hw 40 rfl) (by decide) (rmBe l Z a0 hw [] a hp pp ky sz q K (q.1 (3 : Int32)) (q.1 (1 : Int32)) (0 : Int32) h0 n0 Zs ⟨Ex_a, F_heap_a, F_position_a, F_key_a, F_size_a, V_hp, V_pp, V_ky⟩ ⟨ga, ghp, gpp, gky, d1, d2, d3, d4, d5, d6⟩ (show In4 (q.1 (3 : Int32)) from ii 3 (by decide)) (show In4 (q.1 (1 : Int32)) from ii 1 (by decide)) ((hbb 3 1 (by decide) (by decide)).2 g25_3)) (by decide) (by decide) (by rw [hml]; rfl) pd_2 rfl (argsL := [(.int (q.1 (3 : Int32))), (.int (q.1 (1 : Int32)))]) (rest := []) rfl rfl (Nat.le_of_eq rfl) (hb hby d5_25) e2 Ex_a (by decide) (by decide) (pc' := 28) rfl ?_
    intro T15 rv15 L15 X15 hQ15
    obtain ⟨rfl, Nq15, eh15⟩ := hQ15
    have NF15 := Fr.app NF0 Nq15
    show G (T15.setTop (mkF m 28 #[.val (.ref a), .val (.int 3), .val (.int (q.1 (3 : Int32))), .val (.int 1)] [(.int 0)]))
    refine g_ifNo hG X15 hx (hb hby d5_28) (pc' := 31) (by decide) rfl ?_
    show G (T15.setTop (mkF m 31 #[.val (.ref a), .val (.int 3), .val (.int (q.1 (3 : Int32))), .val (.int 1)] []))
    refine g_goto hG X15 hx (hb hby d5_31) (pc' := 50) (by decide) (by decide) ?_
    show G (T15.setTop (mkF m 50 #[.val (.ref a), .val (.int 3), .val (.int (q.1 (3 : Int32))), .val (.int 1)] []))
    refine g_aloadN hG X15 hx (hb hby d5_50) (pc' := 51) rfl rfl rfl ?_
    show G (T15.setTop (mkF m 51 #[.val (.ref a), .val (.int 3), .val (.int (q.1 (3 : Int32))), .val (.int 1)] [(.ref a)]))
    refine g_iloadN hG X15 hx (hb hby d5_51) (pc' := 52) rfl rfl ?_
    show G (T15.setTop (mkF m 52 #[.val (.ref a), .val (.int 3), .val (.int (q.1 (3 : Int32))), .val (.int 1)] [(.int (q.1 (3 : Int32))), (.ref a)]))
    refine g_iloadN hG X15 hx (hb hby d5_52) (pc' := 53) rfl rfl ?_
    show G (T15.setTop (mkF m 53 #[.val (.ref a), .val (.int 3), .val (.int (q.1 (3 : Int32))), .val (.int 1)] [(.int 3), (.int (q.1 (3 : Int32))), (.ref a)]))
    refine g_callP hG X15 hx hZ (y := (⟨"com/example/tributary/tributary/plan/NodeHeap", "place", "(II)V"⟩ : MethodName)) 0 hown (wd hw 33 rfl) (wd hw 34 rfl) (wd hw 3 rfl) (wd hw 35 rfl) (wd hw 4 rfl) (wd hw 36 rfl) (by decide) (rmPl l Z a0 hw [] a hp pp ky sz q K (q.1 (3 : Int32)) (3 : Int32) h0 n0 Zs ⟨Ex_a, F_heap_a, F_position_a, F_key_a, F_size_a, V_hp, V_pp, V_ky⟩ ⟨ga, ghp, gpp, gky, d1, d2, d3, d4, d5, d6⟩ (show In4 (q.1 (3 : Int32)) from ii 3 (by decide)) in4_3) (by decide) (by decide) (by rw [hml]; rfl) pd_1 rfl (argsL := [(.int (q.1 (3 : Int32))), (.int 3)]) (rest := []) rfl rfl (Nat.le_of_eq rfl) (hb hby d5_53) eh15 Ex_a (by decide) (by decide) (pc' := 56) rfl ?_
    intro T16 rv16 L16 X16 hQ16
    obtain ⟨rfl, Nq16, Kq16, Ex_a, F_heap_a, F_position_a, F_key_a, F_size_a, V_hp, V_pp, V_ky⟩ := hQ16
    have NF16 := Fr.app NF15 Nq16
    have Zs := Nat.le_trans Zs Kq16.1
    have K16 := K0.trans Kq16 (allS (Or.inl (List.mem_of_getElem? (i := 0) rfl)) (allS (Or.inl (List.mem_of_getElem? (i := 1) rfl)) (allS (Or.inl (List.mem_of_getElem? (i := 2) rfl)) (allS (Or.inl (List.mem_of_getElem? (i := 3) rfl)) all0))))
    show G (T16.setTop (mkF m 56 #[.val (.ref a), .val (.int 3), .val (.int (q.1 (3 : Int32))), .val (.int 1)] []))
    exact e_ret0 hGe X16 hx hrt hlk (hb hby d5_56) rfl (by decide) (by decide) (⟨rfl, NF16, K16, (by
          have e : rs3 bt q = (pl q (q.1 (3 : Int32)) (3 : Int32)) := by
            unfold rs3
            exact if_neg g25_3
          rw [e]
          exact ⟨Ex_a, F_heap_a, F_position_a, F_key_a, F_size_a, V_hp, V_pp, V_ky⟩)⟩)

def Q_rmSk1 (Z : State) (a hp pp ky : Addr) (q : HP) (K : Int32 → UInt64) (bt : Int32 → Int32 → Bool) (h0 : Heap) (n0 : Nat) (v : Option Value) (h : Heap) (L : List Loc) : Prop := v = none ∧ Fr n0 L ∧ Keep h0 h [a, hp, pp, ky] ∧ NH Z h a hp pp ky (1 : Int32) (sk1 bt q) K
set_option maxRecDepth 65536 in
set_option maxHeartbeats 40000000 in
theorem rmSk1 (l : Launch) (Z : State) (a0 : Array Value) (hw : ∀ d ∈ tables_1, d.before a0 Z = true) (ws : List Jvm.Cond) (a hp pp ky : Addr) (q : HP) (K : Int32 → UInt64) (bt : Int32 → Int32 → Bool) (h0 : Heap) (n0 : Nat) (Zs : n0 ≤ h0.size) (NQ : NH Z h0 a hp pp ky (1 : Int32) q K) (DD : Dis n0 a hp pp ky) (ii : I4 1 q) (hbb : HB 0 K bt q) :
    Con l (⟨"com/example/tributary/tributary/plan/NodeHeap", "sink", "(I)V"⟩ : MethodName) prog_39_method_7_code 4 none ws ({ frames := 1, cells := 0, slots := 0, locals := 24 } : Room) Z #[(.ref a), (.int 0)] h0 ({ frames := 1, cells := 0, slots := 0, locals := 24 } : Room).cells ({ frames := 1, cells := 0, slots := 0, locals := 24 } : Room).slots (Q_rmSk1 Z a hp pp ky q K bt h0 n0) := by
  refine Con.of (Ls := #[.val (.ref a), .val (.int 0), .unset, .unset]) (plainFor_of_name (by first | (simp [plainName, overriddenIn]; done) | decide +kernel)) (fun m => by first | (simp [entryFrame, mkF, argsToLocals, Value.category]; done) | rfl) ?_
  intro p e s m below meth c s₁ G hGe hG hx hby hml hown hnm hrt hlk hZ X0 e0
  have hown : s.vm.findClass "com/example/tributary/tributary/plan/NodeHeap" = some m.cls := hown
  have hnm : meth.name = "sink" := hnm
  have NF0 := Fr.nil n0
  obtain ⟨Ex_a, F_heap_a, F_position_a, F_key_a, F_size_a, V_hp, V_pp, V_ky⟩ := NQ
  obtain ⟨ga, ghp, gpp, gky, d1, d2, d3, d4, d5, d6⟩ := DD
  have K0 := Keep.refl h0 [a, hp, pp, ky]
  refine g_aloadN hG X0 hx (hb hby d13_0) (pc' := 1) rfl rfl rfl ?_
  show G (s₁.setTop (mkF m 1 #[.val (.ref a), .val (.int 0), .unset, .unset] [(.ref a)]))
  refine g_getF hG X0 hx hZ hown (wd hw 11 rfl) Via.refl e0 F_heap_a (hb hby d13_1) (pc' := 4) rfl ?_
  intro T1 X1 e1
  show G (T1.setTop (mkF m 4 #[.val (.ref a), .val (.int 0), .unset, .unset] [(.ref hp)]))
  refine g_iloadN hG X1 hx (hb hby d13_4) (pc' := 5) rfl rfl ?_
  show G (T1.setTop (mkF m 5 #[.val (.ref a), .val (.int 0), .unset, .unset] [(.int 0), (.ref hp)]))
  refine g_iaload hG X1 hx hZ e1 V_hp (j := (0 : Int32)) (v := (.int (q.1 (0 : Int32)))) (in4_nn in4_0) (in4_at in4_0 rfl) (hb hby d13_5) (pc' := 6) rfl ?_
  show G (T1.setTop (mkF m 6 #[.val (.ref a), .val (.int 0), .unset, .unset] [(.int (q.1 (0 : Int32)))]))
  refine g_istoreN hG X1 hx (hb hby d13_6) (pc' := 7) rfl (Ls' := #[.val (.ref a), .val (.int 0), .val (.int (q.1 (0 : Int32))), .unset]) rfl ?_
  show G (T1.setTop (mkF m 7 #[.val (.ref a), .val (.int 0), .val (.int (q.1 (0 : Int32))), .unset] []))
  refine g_iconst hG X1 hx (hb hby d13_7) (pc' := 8) rfl (v := (2 : Int32)) rfl ?_
  show G (T1.setTop (mkF m 8 #[.val (.ref a), .val (.int 0), .val (.int (q.1 (0 : Int32))), .unset] [(.int 2)]))
  refine g_iloadN hG X1 hx (hb hby d13_8) (pc' := 9) rfl rfl ?_
  show G (T1.setTop (mkF m 9 #[.val (.ref a), .val (.int 0), .val (.int (q.1 (0 : Int32))), .unset] [(.int 0), (.int 2)]))
  refine g_imul hG X1 hx (hb hby d13_9) (pc' := 10) rfl (v := (0 : Int32)) (by decide) ?_
  show G (T1.setTop (mkF m 10 #[.val (.ref a), .val (.int 0), .val (.int (q.1 (0 : Int32))), .unset] [(.int 0)]))
  refine g_iconst hG X1 hx (hb hby d13_10) (pc' := 11) rfl (v := (1 : Int32)) rfl ?_
  show G (T1.setTop (mkF m 11 #[.val (.ref a), .val (.int 0), .val (.int (q.1 (0 : Int32))), .unset] [(.int 1), (.int 0)]))
  refine g_iadd hG X1 hx (hb hby d13_11) (pc' := 12) rfl (v := (1 : Int32)) (by decide) ?_
  show G (T1.setTop (mkF m 12 #[.val (.ref a), .val (.int 0), .val (.int (q.1 (0 : Int32))), .unset] [(.int 1)]))
  refine g_istoreN hG X1 hx (hb hby d13_12) (pc' := 13) rfl (Ls' := #[.val (.ref a), .val (.int 0), .val (.int (q.1 (0 : Int32))), .val (.int 1)]) rfl ?_
  show G (T1.setTop (mkF m 13 #[.val (.ref a), .val (.int 0), .val (.int (q.1 (0 : Int32))), .val (.int 1)] []))
  refine g_iloadN hG X1 hx (hb hby d13_13) (pc' := 14) rfl rfl ?_
  show G (T1.setTop (mkF m 14 #[.val (.ref a), .val (.int 0), .val (.int (q.1 (0 : Int32))), .val (.int 1)] [(.int 1)]))
  refine g_aloadN hG X1 hx (hb hby d13_14) (pc' := 15) rfl rfl rfl ?_
  show G (T1.setTop (mkF m 15 #[.val (.ref a), .val (.int 0), .val (.int (q.1 (0 : Int32))), .val (.int 1)] [(.ref a), (.int 1)]))
  refine g_getF hG X1 hx hZ hown (wd hw 27 rfl) Via.refl e1 F_size_a (hb hby d13_15) (pc' := 18) rfl ?_
  intro T2 X2 e2
  show G (T2.setTop (mkF m 18 #[.val (.ref a), .val (.int 0), .val (.int (q.1 (0 : Int32))), .val (.int 1)] [(.int 1), (.int 1)]))
  refine g_icmpNo hG X2 hx (hb hby d13_18) (pc' := 21) (by decide) rfl ?_
  show G (T2.setTop (mkF m 21 #[.val (.ref a), .val (.int 0), .val (.int (q.1 (0 : Int32))), .val (.int 1)] []))
  refine g_goto hG X2 hx (hb hby d13_21) (pc' := 91) (by decide) (by decide) ?_
  show G (T2.setTop (mkF m 91 #[.val (.ref a), .val (.int 0), .val (.int (q.1 (0 : Int32))), .val (.int 1)] []))
  refine g_aloadN hG X2 hx (hb hby d13_91) (pc' := 92) rfl rfl rfl ?_
  show G (T2.setTop (mkF m 92 #[.val (.ref a), .val (.int 0), .val (.int (q.1 (0 : Int32))), .val (.int 1)] [(.ref a)]))
  refine g_iloadN hG X2 hx (hb hby d13_92) (pc' := 93) rfl rfl ?_
  show G (T2.setTop (mkF m 93 #[.val (.ref a), .val (.int 0), .val (.int (q.1 (0 : Int32))), .val (.int 1)] [(.int (q.1 (0 : Int32))), (.ref a)]))
  refine g_iloadN hG X2 hx (hb hby d13_93) (pc' := 94) rfl rfl ?_
  show G (T2.setTop (mkF m 94 #[.val (.ref a), .val (.int 0), .val (.int (q.1 (0 : Int32))), .val (.int 1)] [(.int 0), (.int (q.1 (0 : Int32))), (.ref a)]))
  refine g_callP hG X2 hx hZ (y := (⟨"com/example/tributary/tributary/plan/NodeHeap", "place", "(II)V"⟩ : MethodName)) 0 hown (wd hw 33 rfl) (wd hw 34 rfl) (wd hw 3 rfl) (wd hw 35 rfl) (wd hw 4 rfl) (wd hw 36 rfl) (by decide) (rmPl l Z a0 hw [] a hp pp ky (1 : Int32) q K (q.1 (0 : Int32)) (0 : Int32) h0 n0 Zs ⟨Ex_a, F_heap_a, F_position_a, F_key_a, F_size_a, V_hp, V_pp, V_ky⟩ ⟨ga, ghp, gpp, gky, d1, d2, d3, d4, d5, d6⟩ (show In4 (q.1 (0 : Int32)) from ii 0 (by decide)) in4_0) (by decide) (by decide) (by rw [hml]; rfl) pd_1 rfl (argsL := [(.int (q.1 (0 : Int32))), (.int 0)]) (rest := []) rfl rfl (Nat.le_of_eq rfl) (hb hby d13_94) e2 Ex_a (by decide) (by decide) (pc' := 97) rfl ?_
  intro T3 rv3 L3 X3 hQ3
  obtain ⟨rfl, Nq3, Kq3, Ex_a, F_heap_a, F_position_a, F_key_a, F_size_a, V_hp, V_pp, V_ky⟩ := hQ3
  have NF3 := Fr.app NF0 Nq3
  have Zs := Nat.le_trans Zs Kq3.1
  have K3 := K0.trans Kq3 (allS (Or.inl (List.mem_of_getElem? (i := 0) rfl)) (allS (Or.inl (List.mem_of_getElem? (i := 1) rfl)) (allS (Or.inl (List.mem_of_getElem? (i := 2) rfl)) (allS (Or.inl (List.mem_of_getElem? (i := 3) rfl)) all0))))
  show G (T3.setTop (mkF m 97 #[.val (.ref a), .val (.int 0), .val (.int (q.1 (0 : Int32))), .val (.int 1)] []))
  exact e_ret0 hGe X3 hx hrt hlk (hb hby d13_97) rfl (by decide) (by decide) (⟨rfl, NF3, K3, Ex_a, F_heap_a, F_position_a, F_key_a, F_size_a, V_hp, V_pp, V_ky⟩)

def Q_rmSk2 (Z : State) (a hp pp ky : Addr) (q : HP) (K : Int32 → UInt64) (bt : Int32 → Int32 → Bool) (h0 : Heap) (n0 : Nat) (v : Option Value) (h : Heap) (L : List Loc) : Prop := v = none ∧ Fr n0 L ∧ Keep h0 h [a, hp, pp, ky] ∧ NH Z h a hp pp ky (2 : Int32) (sk2 bt q) K
set_option maxRecDepth 65536 in
set_option maxHeartbeats 40000000 in
theorem rmSk2 (l : Launch) (Z : State) (a0 : Array Value) (hw : ∀ d ∈ tables_1, d.before a0 Z = true) (ws : List Jvm.Cond) (a hp pp ky : Addr) (q : HP) (K : Int32 → UInt64) (bt : Int32 → Int32 → Bool) (h0 : Heap) (n0 : Nat) (Zs : n0 ≤ h0.size) (NQ : NH Z h0 a hp pp ky (2 : Int32) q K) (DD : Dis n0 a hp pp ky) (ii : I4 2 q) (hbb : HB 2 K bt q) :
    Con l (⟨"com/example/tributary/tributary/plan/NodeHeap", "sink", "(I)V"⟩ : MethodName) prog_39_method_7_code 4 none ws ({ frames := 1, cells := 0, slots := 0, locals := 24 } : Room) Z #[(.ref a), (.int 0)] h0 ({ frames := 1, cells := 0, slots := 0, locals := 24 } : Room).cells ({ frames := 1, cells := 0, slots := 0, locals := 24 } : Room).slots (Q_rmSk2 Z a hp pp ky q K bt h0 n0) := by
  refine Con.of (Ls := #[.val (.ref a), .val (.int 0), .unset, .unset]) (plainFor_of_name (by first | (simp [plainName, overriddenIn]; done) | decide +kernel)) (fun m => by first | (simp [entryFrame, mkF, argsToLocals, Value.category]; done) | rfl) ?_
  intro p e s m below meth c s₁ G hGe hG hx hby hml hown hnm hrt hlk hZ X0 e0
  have hown : s.vm.findClass "com/example/tributary/tributary/plan/NodeHeap" = some m.cls := hown
  have hnm : meth.name = "sink" := hnm
  have NF0 := Fr.nil n0
  obtain ⟨Ex_a, F_heap_a, F_position_a, F_key_a, F_size_a, V_hp, V_pp, V_ky⟩ := NQ
  obtain ⟨ga, ghp, gpp, gky, d1, d2, d3, d4, d5, d6⟩ := DD
  have K0 := Keep.refl h0 [a, hp, pp, ky]
  refine g_aloadN hG X0 hx (hb hby d13_0) (pc' := 1) rfl rfl rfl ?_
  show G (s₁.setTop (mkF m 1 #[.val (.ref a), .val (.int 0), .unset, .unset] [(.ref a)]))
  refine g_getF hG X0 hx hZ hown (wd hw 11 rfl) Via.refl e0 F_heap_a (hb hby d13_1) (pc' := 4) rfl ?_
  intro T1 X1 e1
  show G (T1.setTop (mkF m 4 #[.val (.ref a), .val (.int 0), .unset, .unset] [(.ref hp)]))
  refine g_iloadN hG X1 hx (hb hby d13_4) (pc' := 5) rfl rfl ?_
  show G (T1.setTop (mkF m 5 #[.val (.ref a), .val (.int 0), .unset, .unset] [(.int 0), (.ref hp)]))
  refine g_iaload hG X1 hx hZ e1 V_hp (j := (0 : Int32)) (v := (.int (q.1 (0 : Int32)))) (in4_nn in4_0) (in4_at in4_0 rfl) (hb hby d13_5) (pc' := 6) rfl ?_
  show G (T1.setTop (mkF m 6 #[.val (.ref a), .val (.int 0), .unset, .unset] [(.int (q.1 (0 : Int32)))]))
  refine g_istoreN hG X1 hx (hb hby d13_6) (pc' := 7) rfl (Ls' := #[.val (.ref a), .val (.int 0), .val (.int (q.1 (0 : Int32))), .unset]) rfl ?_
  show G (T1.setTop (mkF m 7 #[.val (.ref a), .val (.int 0), .val (.int (q.1 (0 : Int32))), .unset] []))
  refine g_iconst hG X1 hx (hb hby d13_7) (pc' := 8) rfl (v := (2 : Int32)) rfl ?_
  show G (T1.setTop (mkF m 8 #[.val (.ref a), .val (.int 0), .val (.int (q.1 (0 : Int32))), .unset] [(.int 2)]))
  refine g_iloadN hG X1 hx (hb hby d13_8) (pc' := 9) rfl rfl ?_
  show G (T1.setTop (mkF m 9 #[.val (.ref a), .val (.int 0), .val (.int (q.1 (0 : Int32))), .unset] [(.int 0), (.int 2)]))
  refine g_imul hG X1 hx (hb hby d13_9) (pc' := 10) rfl (v := (0 : Int32)) (by decide) ?_
  show G (T1.setTop (mkF m 10 #[.val (.ref a), .val (.int 0), .val (.int (q.1 (0 : Int32))), .unset] [(.int 0)]))
  refine g_iconst hG X1 hx (hb hby d13_10) (pc' := 11) rfl (v := (1 : Int32)) rfl ?_
  show G (T1.setTop (mkF m 11 #[.val (.ref a), .val (.int 0), .val (.int (q.1 (0 : Int32))), .unset] [(.int 1), (.int 0)]))
  refine g_iadd hG X1 hx (hb hby d13_11) (pc' := 12) rfl (v := (1 : Int32)) (by decide) ?_
  show G (T1.setTop (mkF m 12 #[.val (.ref a), .val (.int 0), .val (.int (q.1 (0 : Int32))), .unset] [(.int 1)]))
  refine g_istoreN hG X1 hx (hb hby d13_12) (pc' := 13) rfl (Ls' := #[.val (.ref a), .val (.int 0), .val (.int (q.1 (0 : Int32))), .val (.int 1)]) rfl ?_
  show G (T1.setTop (mkF m 13 #[.val (.ref a), .val (.int 0), .val (.int (q.1 (0 : Int32))), .val (.int 1)] []))
  refine g_iloadN hG X1 hx (hb hby d13_13) (pc' := 14) rfl rfl ?_
  show G (T1.setTop (mkF m 14 #[.val (.ref a), .val (.int 0), .val (.int (q.1 (0 : Int32))), .val (.int 1)] [(.int 1)]))
  refine g_aloadN hG X1 hx (hb hby d13_14) (pc' := 15) rfl rfl rfl ?_
  show G (T1.setTop (mkF m 15 #[.val (.ref a), .val (.int 0), .val (.int (q.1 (0 : Int32))), .val (.int 1)] [(.ref a), (.int 1)]))
  refine g_getF hG X1 hx hZ hown (wd hw 27 rfl) Via.refl e1 F_size_a (hb hby d13_15) (pc' := 18) rfl ?_
  intro T2 X2 e2
  show G (T2.setTop (mkF m 18 #[.val (.ref a), .val (.int 0), .val (.int (q.1 (0 : Int32))), .val (.int 1)] [(.int 2), (.int 1)]))
  refine g_icmpYes hG X2 hx (hb hby d13_18) (pc' := 24) (by decide) (by decide) (by decide) ?_
  show G (T2.setTop (mkF m 24 #[.val (.ref a), .val (.int 0), .val (.int (q.1 (0 : Int32))), .val (.int 1)] []))
  refine g_iloadN hG X2 hx (hb hby d13_24) (pc' := 25) rfl rfl ?_
  show G (T2.setTop (mkF m 25 #[.val (.ref a), .val (.int 0), .val (.int (q.1 (0 : Int32))), .val (.int 1)] [(.int 1)]))
  refine g_iconst hG X2 hx (hb hby d13_25) (pc' := 26) rfl (v := (1 : Int32)) rfl ?_
  show G (T2.setTop (mkF m 26 #[.val (.ref a), .val (.int 0), .val (.int (q.1 (0 : Int32))), .val (.int 1)] [(.int 1), (.int 1)]))
  refine g_iadd hG X2 hx (hb hby d13_26) (pc' := 27) rfl (v := (2 : Int32)) (by decide) ?_
  show G (T2.setTop (mkF m 27 #[.val (.ref a), .val (.int 0), .val (.int (q.1 (0 : Int32))), .val (.int 1)] [(.int 2)]))
  refine g_aloadN hG X2 hx (hb hby d13_27) (pc' := 28) rfl rfl rfl ?_
  show G (T2.setTop (mkF m 28 #[.val (.ref a), .val (.int 0), .val (.int (q.1 (0 : Int32))), .val (.int 1)] [(.ref a), (.int 2)]))
  refine g_getF hG X2 hx hZ hown (wd hw 27 rfl) Via.refl e2 F_size_a (hb hby d13_28) (pc' := 31) rfl ?_
  intro T3 X3 e3
  show G (T3.setTop (mkF m 31 #[.val (.ref a), .val (.int 0), .val (.int (q.1 (0 : Int32))), .val (.int 1)] [(.int 2), (.int 2)]))
  refine g_icmpYes hG X3 hx (hb hby d13_31) (pc' := 58) (by decide) (by decide) (by decide) ?_
  show G (T3.setTop (mkF m 58 #[.val (.ref a), .val (.int 0), .val (.int (q.1 (0 : Int32))), .val (.int 1)] []))
  refine g_aloadN hG X3 hx (hb hby d13_58) (pc' := 59) rfl rfl rfl ?_
  show G (T3.setTop (mkF m 59 #[.val (.ref a), .val (.int 0), .val (.int (q.1 (0 : Int32))), .val (.int 1)] [(.ref a)]))
  refine g_aloadN hG X3 hx (hb hby d13_59) (pc' := 60) rfl rfl rfl ?_
  show G (T3.setTop (mkF m 60 #[.val (.ref a), .val (.int 0), .val (.int (q.1 (0 : Int32))), .val (.int 1)] [(.ref a), (.ref a)]))
  refine g_getF hG X3 hx hZ hown (wd hw 11 rfl) Via.refl e3 F_heap_a (hb hby d13_60) (pc' := 63) rfl ?_
  intro T4 X4 e4
  show G (T4.setTop (mkF m 63 #[.val (.ref a), .val (.int 0), .val (.int (q.1 (0 : Int32))), .val (.int 1)] [(.ref hp), (.ref a)]))
  refine g_iloadN hG X4 hx (hb hby d13_63) (pc' := 64) rfl rfl ?_
  show G (T4.setTop (mkF m 64 #[.val (.ref a), .val (.int 0), .val (.int (q.1 (0 : Int32))), .val (.int 1)] [(.int 1), (.ref hp), (.ref a)]))
  refine g_iaload hG X4 hx hZ e4 V_hp (j := (1 : Int32)) (v := (.int (q.1 (1 : Int32)))) (in4_nn in4_1) (in4_at in4_1 rfl) (hb hby d13_64) (pc' := 65) rfl ?_
  show G (T4.setTop (mkF m 65 #[.val (.ref a), .val (.int 0), .val (.int (q.1 (0 : Int32))), .val (.int 1)] [(.int (q.1 (1 : Int32))), (.ref a)]))
  refine g_iloadN hG X4 hx (hb hby d13_65) (pc' := 66) rfl rfl ?_
  show G (T4.setTop (mkF m 66 #[.val (.ref a), .val (.int 0), .val (.int (q.1 (0 : Int32))), .val (.int 1)] [(.int (q.1 (0 : Int32))), (.int (q.1 (1 : Int32))), (.ref a)]))
  by_cases g66_5 : bt (q.1 (1 : Int32)) (q.1 (0 : Int32)) = true
  · have _hh := g66_5
    refine g_callP hG X4 hx hZ (y := (⟨"com/example/tributary/tributary/plan/NodeHeap", "before", "(II)Z"⟩ : MethodName)) 0 hown (wd hw 37 rfl) (wd hw 38 rfl) (wd hw 3 rfl) (wd hw 39 rfl) (wd hw 4 rfl) (wd hw 40 rfl) (by decide) (rmBe l Z a0 hw [] a hp pp ky (2 : Int32) q K (q.1 (1 : Int32)) (q.1 (0 : Int32)) (1 : Int32) h0 n0 Zs ⟨Ex_a, F_heap_a, F_position_a, F_key_a, F_size_a, V_hp, V_pp, V_ky⟩ ⟨ga, ghp, gpp, gky, d1, d2, d3, d4, d5, d6⟩ (show In4 (q.1 (1 : Int32)) from ii 1 (by decide)) (show In4 (q.1 (0 : Int32)) from ii 0 (by decide)) ((hbb 1 0 (by decide) (by decide)).1 g66_5)) (by decide) (by decide) (by rw [hml]; rfl) pd_2 rfl (argsL := [(.int (q.1 (1 : Int32))), (.int (q.1 (0 : Int32)))]) (rest := []) rfl rfl (Nat.le_of_eq rfl) (hb hby d13_66) e4 Ex_a (by decide) (by decide) (pc' := 69) rfl ?_
    intro T6 rv6 L6 X6 hQ6
    obtain ⟨rfl, Nq6, eh6⟩ := hQ6
    have NF6 := Fr.app NF0 Nq6
    show G (T6.setTop (mkF m 69 #[.val (.ref a), .val (.int 0), .val (.int (q.1 (0 : Int32))), .val (.int 1)] [(.int 1)]))
    refine g_ifYes hG X6 hx (hb hby d13_69) (pc' := 75) (by decide) (by decide) (by decide) ?_
    show G (T6.setTop (mkF m 75 #[.val (.ref a), .val (.int 0), .val (.int (q.1 (0 : Int32))), .val (.int 1)] []))
    refine g_aloadN hG X6 hx (hb hby d13_75) (pc' := 76) rfl rfl rfl ?_
    show G (T6.setTop (mkF m 76 #[.val (.ref a), .val (.int 0), .val (.int (q.1 (0 : Int32))), .val (.int 1)] [(.ref a)]))
    refine g_aloadN hG X6 hx (hb hby d13_76) (pc' := 77) rfl rfl rfl ?_
    show G (T6.setTop (mkF m 77 #[.val (.ref a), .val (.int 0), .val (.int (q.1 (0 : Int32))), .val (.int 1)] [(.ref a), (.ref a)]))
    refine g_getF hG X6 hx hZ hown (wd hw 11 rfl) Via.refl eh6 F_heap_a (hb hby d13_77) (pc' := 80) rfl ?_
    intro T7 X7 e7
    show G (T7.setTop (mkF m 80 #[.val (.ref a), .val (.int 0), .val (.int (q.1 (0 : Int32))), .val (.int 1)] [(.ref hp), (.ref a)]))
    refine g_iloadN hG X7 hx (hb hby d13_80) (pc' := 81) rfl rfl ?_
    show G (T7.setTop (mkF m 81 #[.val (.ref a), .val (.int 0), .val (.int (q.1 (0 : Int32))), .val (.int 1)] [(.int 1), (.ref hp), (.ref a)]))
    refine g_iaload hG X7 hx hZ e7 V_hp (j := (1 : Int32)) (v := (.int (q.1 (1 : Int32)))) (in4_nn in4_1) (in4_at in4_1 rfl) (hb hby d13_81) (pc' := 82) rfl ?_
    show G (T7.setTop (mkF m 82 #[.val (.ref a), .val (.int 0), .val (.int (q.1 (0 : Int32))), .val (.int 1)] [(.int (q.1 (1 : Int32))), (.ref a)]))
    refine g_iloadN hG X7 hx (hb hby d13_82) (pc' := 83) rfl rfl ?_
    show G (T7.setTop (mkF m 83 #[.val (.ref a), .val (.int 0), .val (.int (q.1 (0 : Int32))), .val (.int 1)] [(.int 0), (.int (q.1 (1 : Int32))), (.ref a)]))
    refine g_callP hG X7 hx hZ (y := (⟨"com/example/tributary/tributary/plan/NodeHeap", "place", "(II)V"⟩ : MethodName)) 0 hown (wd hw 33 rfl) (wd hw 34 rfl) (wd hw 3 rfl) (wd hw 35 rfl) (wd hw 4 rfl) (wd hw 36 rfl) (by decide) (rmPl l Z a0 hw [] a hp pp ky (2 : Int32) q K (q.1 (1 : Int32)) (0 : Int32) h0 n0 Zs ⟨Ex_a, F_heap_a, F_position_a, F_key_a, F_size_a, V_hp, V_pp, V_ky⟩ ⟨ga, ghp, gpp, gky, d1, d2, d3, d4, d5, d6⟩ (show In4 (q.1 (1 : Int32)) from ii 1 (by decide)) in4_0) (by decide) (by decide) (by rw [hml]; rfl) pd_1 rfl (argsL := [(.int (q.1 (1 : Int32))), (.int 0)]) (rest := []) rfl rfl (Nat.le_of_eq rfl) (hb hby d13_83) e7 Ex_a (by decide) (by decide) (pc' := 86) rfl ?_
    intro T8 rv8 L8 X8 hQ8
    obtain ⟨rfl, Nq8, Kq8, Ex_a, F_heap_a, F_position_a, F_key_a, F_size_a, V_hp, V_pp, V_ky⟩ := hQ8
    have NF8 := Fr.app NF6 Nq8
    have Zs := Nat.le_trans Zs Kq8.1
    have K8 := K0.trans Kq8 (allS (Or.inl (List.mem_of_getElem? (i := 0) rfl)) (allS (Or.inl (List.mem_of_getElem? (i := 1) rfl)) (allS (Or.inl (List.mem_of_getElem? (i := 2) rfl)) (allS (Or.inl (List.mem_of_getElem? (i := 3) rfl)) all0))))
    show G (T8.setTop (mkF m 86 #[.val (.ref a), .val (.int 0), .val (.int (q.1 (0 : Int32))), .val (.int 1)] []))
    refine g_iloadN hG X8 hx (hb hby d13_86) (pc' := 87) rfl rfl ?_
    show G (T8.setTop (mkF m 87 #[.val (.ref a), .val (.int 0), .val (.int (q.1 (0 : Int32))), .val (.int 1)] [(.int 1)]))
    refine g_istoreN hG X8 hx (hb hby d13_87) (pc' := 88) rfl (Ls' := #[.val (.ref a), .val (.int 1), .val (.int (q.1 (0 : Int32))), .val (.int 1)]) rfl ?_
    show G (T8.setTop (mkF m 88 #[.val (.ref a), .val (.int 1), .val (.int (q.1 (0 : Int32))), .val (.int 1)] []))
    refine g_goto hG X8 hx (hb hby d13_88) (pc' := 7) (by decide) (by decide) ?_
    show G (T8.setTop (mkF m 7 #[.val (.ref a), .val (.int 1), .val (.int (q.1 (0 : Int32))), .val (.int 1)] []))
    refine g_iconst hG X8 hx (hb hby d13_7) (pc' := 8) rfl (v := (2 : Int32)) rfl ?_
    show G (T8.setTop (mkF m 8 #[.val (.ref a), .val (.int 1), .val (.int (q.1 (0 : Int32))), .val (.int 1)] [(.int 2)]))
    refine g_iloadN hG X8 hx (hb hby d13_8) (pc' := 9) rfl rfl ?_
    show G (T8.setTop (mkF m 9 #[.val (.ref a), .val (.int 1), .val (.int (q.1 (0 : Int32))), .val (.int 1)] [(.int 1), (.int 2)]))
    refine g_imul hG X8 hx (hb hby d13_9) (pc' := 10) rfl (v := (2 : Int32)) (by decide) ?_
    show G (T8.setTop (mkF m 10 #[.val (.ref a), .val (.int 1), .val (.int (q.1 (0 : Int32))), .val (.int 1)] [(.int 2)]))
    refine g_iconst hG X8 hx (hb hby d13_10) (pc' := 11) rfl (v := (1 : Int32)) rfl ?_
    show G (T8.setTop (mkF m 11 #[.val (.ref a), .val (.int 1), .val (.int (q.1 (0 : Int32))), .val (.int 1)] [(.int 1), (.int 2)]))
    refine g_iadd hG X8 hx (hb hby d13_11) (pc' := 12) rfl (v := (3 : Int32)) (by decide) ?_
    show G (T8.setTop (mkF m 12 #[.val (.ref a), .val (.int 1), .val (.int (q.1 (0 : Int32))), .val (.int 1)] [(.int 3)]))
    refine g_istoreN hG X8 hx (hb hby d13_12) (pc' := 13) rfl (Ls' := #[.val (.ref a), .val (.int 1), .val (.int (q.1 (0 : Int32))), .val (.int 3)]) rfl ?_
    show G (T8.setTop (mkF m 13 #[.val (.ref a), .val (.int 1), .val (.int (q.1 (0 : Int32))), .val (.int 3)] []))
    refine g_iloadN hG X8 hx (hb hby d13_13) (pc' := 14) rfl rfl ?_
    show G (T8.setTop (mkF m 14 #[.val (.ref a), .val (.int 1), .val (.int (q.1 (0 : Int32))), .val (.int 3)] [(.int 3)]))
    refine g_aloadN hG X8 hx (hb hby d13_14) (pc' := 15) rfl rfl rfl ?_
    show G (T8.setTop (mkF m 15 #[.val (.ref a), .val (.int 1), .val (.int (q.1 (0 : Int32))), .val (.int 3)] [(.ref a), (.int 3)]))
    refine g_getF hG X8 hx hZ hown (wd hw 27 rfl) Via.refl rfl F_size_a (hb hby d13_15) (pc' := 18) rfl ?_
    intro T9 X9 e9
    show G (T9.setTop (mkF m 18 #[.val (.ref a), .val (.int 1), .val (.int (q.1 (0 : Int32))), .val (.int 3)] [(.int 2), (.int 3)]))
    refine g_icmpNo hG X9 hx (hb hby d13_18) (pc' := 21) (by decide) rfl ?_
    show G (T9.setTop (mkF m 21 #[.val (.ref a), .val (.int 1), .val (.int (q.1 (0 : Int32))), .val (.int 3)] []))
    refine g_goto hG X9 hx (hb hby d13_21) (pc' := 91) (by decide) (by decide) ?_
    show G (T9.setTop (mkF m 91 #[.val (.ref a), .val (.int 1), .val (.int (q.1 (0 : Int32))), .val (.int 3)] []))
    refine g_aloadN hG X9 hx (hb hby d13_91) (pc' := 92) rfl rfl rfl ?_
    show G (T9.setTop (mkF m 92 #[.val (.ref a), .val (.int 1), .val (.int (q.1 (0 : Int32))), .val (.int 3)] [(.ref a)]))
    refine g_iloadN hG X9 hx (hb hby d13_92) (pc' := 93) rfl rfl ?_
    show G (T9.setTop (mkF m 93 #[.val (.ref a), .val (.int 1), .val (.int (q.1 (0 : Int32))), .val (.int 3)] [(.int (q.1 (0 : Int32))), (.ref a)]))
    refine g_iloadN hG X9 hx (hb hby d13_93) (pc' := 94) rfl rfl ?_
    show G (T9.setTop (mkF m 94 #[.val (.ref a), .val (.int 1), .val (.int (q.1 (0 : Int32))), .val (.int 3)] [(.int 1), (.int (q.1 (0 : Int32))), (.ref a)]))
    refine g_callP hG X9 hx hZ (y := (⟨"com/example/tributary/tributary/plan/NodeHeap", "place", "(II)V"⟩ : MethodName)) 0 hown (wd hw 33 rfl) (wd hw 34 rfl) (wd hw 3 rfl) (wd hw 35 rfl) (wd hw 4 rfl) (wd hw 36 rfl) (by decide) (rmPl l Z a0 hw [] a hp pp ky (2 : Int32) (pl q (q.1 (1 : Int32)) (0 : Int32)) K (q.1 (0 : Int32)) (1 : Int32) T8.heap n0 Zs ⟨Ex_a, F_heap_a, F_position_a, F_key_a, F_size_a, V_hp, V_pp, V_ky⟩ ⟨ga, ghp, gpp, gky, d1, d2, d3, d4, d5, d6⟩ (show In4 (q.1 (0 : Int32)) from ii 0 (by decide)) in4_1) (by decide) (by decide) (by rw [hml]; rfl) pd_1 rfl (argsL := [(.int (q.1 (0 : Int32))), (.int 1)]) (rest := []) rfl rfl (Nat.le_of_eq rfl) (hb hby d13_94) e9 Ex_a (by decide) (by decide) (pc' := 97) rfl ?_
    intro T10 rv10 L10 X10 hQ10
    obtain ⟨rfl, Nq10, Kq10, Ex_a, F_heap_a, F_position_a, F_key_a, F_size_a, V_hp, V_pp, V_ky⟩ := hQ10
    have NF10 := Fr.app NF8 Nq10
    have Zs := Nat.le_trans Zs Kq10.1
    have K10 := K8.trans Kq10 (allS (Or.inl (List.mem_of_getElem? (i := 0) rfl)) (allS (Or.inl (List.mem_of_getElem? (i := 1) rfl)) (allS (Or.inl (List.mem_of_getElem? (i := 2) rfl)) (allS (Or.inl (List.mem_of_getElem? (i := 3) rfl)) all0))))
    show G (T10.setTop (mkF m 97 #[.val (.ref a), .val (.int 1), .val (.int (q.1 (0 : Int32))), .val (.int 3)] []))
    exact e_ret0 hGe X10 hx hrt hlk (hb hby d13_97) rfl (by decide) (by decide) (⟨rfl, NF10, K10, (by
          have e : sk2 bt q = (pl (pl q (q.1 (1 : Int32)) (0 : Int32)) (q.1 (0 : Int32)) (1 : Int32)) := by
            unfold sk2
            exact if_pos g66_5
          rw [e]
          exact ⟨Ex_a, F_heap_a, F_position_a, F_key_a, F_size_a, V_hp, V_pp, V_ky⟩)⟩)
  · have _hh := g66_5
    refine g_callP hG X4 hx hZ (y := (⟨"com/example/tributary/tributary/plan/NodeHeap", "before", "(II)Z"⟩ : MethodName)) 0 hown (wd hw 37 rfl) (wd hw 38 rfl) (wd hw 3 rfl) (wd hw 39 rfl) (wd hw 4 rfl) (wd hw 40 rfl) (by decide) (rmBe l Z a0 hw [] a hp pp ky (2 : Int32) q K (q.1 (1 : Int32)) (q.1 (0 : Int32)) (0 : Int32) h0 n0 Zs ⟨Ex_a, F_heap_a, F_position_a, F_key_a, F_size_a, V_hp, V_pp, V_ky⟩ ⟨ga, ghp, gpp, gky, d1, d2, d3, d4, d5, d6⟩ (show In4 (q.1 (1 : Int32)) from ii 1 (by decide)) (show In4 (q.1 (0 : Int32)) from ii 0 (by decide)) ((hbb 1 0 (by decide) (by decide)).2 g66_5)) (by decide) (by decide) (by rw [hml]; rfl) pd_2 rfl (argsL := [(.int (q.1 (1 : Int32))), (.int (q.1 (0 : Int32)))]) (rest := []) rfl rfl (Nat.le_of_eq rfl) (hb hby d13_66) e4 Ex_a (by decide) (by decide) (pc' := 69) rfl ?_
    intro T11 rv11 L11 X11 hQ11
    obtain ⟨rfl, Nq11, eh11⟩ := hQ11
    have NF11 := Fr.app NF0 Nq11
    show G (T11.setTop (mkF m 69 #[.val (.ref a), .val (.int 0), .val (.int (q.1 (0 : Int32))), .val (.int 1)] [(.int 0)]))
    refine g_ifNo hG X11 hx (hb hby d13_69) (pc' := 72) (by decide) rfl ?_
    show G (T11.setTop (mkF m 72 #[.val (.ref a), .val (.int 0), .val (.int (q.1 (0 : Int32))), .val (.int 1)] []))
    refine g_goto hG X11 hx (hb hby d13_72) (pc' := 91) (by decide) (by decide) ?_
    show G (T11.setTop (mkF m 91 #[.val (.ref a), .val (.int 0), .val (.int (q.1 (0 : Int32))), .val (.int 1)] []))
    refine g_aloadN hG X11 hx (hb hby d13_91) (pc' := 92) rfl rfl rfl ?_
    show G (T11.setTop (mkF m 92 #[.val (.ref a), .val (.int 0), .val (.int (q.1 (0 : Int32))), .val (.int 1)] [(.ref a)]))
    refine g_iloadN hG X11 hx (hb hby d13_92) (pc' := 93) rfl rfl ?_
    show G (T11.setTop (mkF m 93 #[.val (.ref a), .val (.int 0), .val (.int (q.1 (0 : Int32))), .val (.int 1)] [(.int (q.1 (0 : Int32))), (.ref a)]))
    refine g_iloadN hG X11 hx (hb hby d13_93) (pc' := 94) rfl rfl ?_
    show G (T11.setTop (mkF m 94 #[.val (.ref a), .val (.int 0), .val (.int (q.1 (0 : Int32))), .val (.int 1)] [(.int 0), (.int (q.1 (0 : Int32))), (.ref a)]))
    refine g_callP hG X11 hx hZ (y := (⟨"com/example/tributary/tributary/plan/NodeHeap", "place", "(II)V"⟩ : MethodName)) 0 hown (wd hw 33 rfl) (wd hw 34 rfl) (wd hw 3 rfl) (wd hw 35 rfl) (wd hw 4 rfl) (wd hw 36 rfl) (by decide) (rmPl l Z a0 hw [] a hp pp ky (2 : Int32) q K (q.1 (0 : Int32)) (0 : Int32) h0 n0 Zs ⟨Ex_a, F_heap_a, F_position_a, F_key_a, F_size_a, V_hp, V_pp, V_ky⟩ ⟨ga, ghp, gpp, gky, d1, d2, d3, d4, d5, d6⟩ (show In4 (q.1 (0 : Int32)) from ii 0 (by decide)) in4_0) (by decide) (by decide) (by rw [hml]; rfl) pd_1 rfl (argsL := [(.int (q.1 (0 : Int32))), (.int 0)]) (rest := []) rfl rfl (Nat.le_of_eq rfl) (hb hby d13_94) eh11 Ex_a (by decide) (by decide) (pc' := 97) rfl ?_
    intro T12 rv12 L12 X12 hQ12
    obtain ⟨rfl, Nq12, Kq12, Ex_a, F_heap_a, F_position_a, F_key_a, F_size_a, V_hp, V_pp, V_ky⟩ := hQ12
    have NF12 := Fr.app NF11 Nq12
    have Zs := Nat.le_trans Zs Kq12.1
    have K12 := K0.trans Kq12 (allS (Or.inl (List.mem_of_getElem? (i := 0) rfl)) (allS (Or.inl (List.mem_of_getElem? (i := 1) rfl)) (allS (Or.inl (List.mem_of_getElem? (i := 2) rfl)) (allS (Or.inl (List.mem_of_getElem? (i := 3) rfl)) all0))))
    show G (T12.setTop (mkF m 97 #[.val (.ref a), .val (.int 0), .val (.int (q.1 (0 : Int32))), .val (.int 1)] []))
    exact e_ret0 hGe X12 hx hrt hlk (hb hby d13_97) rfl (by decide) (by decide) (⟨rfl, NF12, K12, (by
          have e : sk2 bt q = (pl q (q.1 (0 : Int32)) (0 : Int32)) := by
            unfold sk2
            exact if_neg g66_5
          rw [e]
          exact ⟨Ex_a, F_heap_a, F_position_a, F_key_a, F_size_a, V_hp, V_pp, V_ky⟩)⟩)

def Q_rmSk3 (Z : State) (a hp pp ky : Addr) (q : HP) (K : Int32 → UInt64) (bt : Int32 → Int32 → Bool) (h0 : Heap) (n0 : Nat) (v : Option Value) (h : Heap) (L : List Loc) : Prop := v = none ∧ Fr n0 L ∧ Keep h0 h [a, hp, pp, ky] ∧ NH Z h a hp pp ky (3 : Int32) (sk3 bt q) K
set_option maxRecDepth 65536 in
set_option maxHeartbeats 40000000 in
theorem rmSk3 (l : Launch) (Z : State) (a0 : Array Value) (hw : ∀ d ∈ tables_1, d.before a0 Z = true) (ws : List Jvm.Cond) (a hp pp ky : Addr) (q : HP) (K : Int32 → UInt64) (bt : Int32 → Int32 → Bool) (h0 : Heap) (n0 : Nat) (Zs : n0 ≤ h0.size) (NQ : NH Z h0 a hp pp ky (3 : Int32) q K) (DD : Dis n0 a hp pp ky) (ii : I4 3 q) (hbb : HB 3 K bt q) :
    Con l (⟨"com/example/tributary/tributary/plan/NodeHeap", "sink", "(I)V"⟩ : MethodName) prog_39_method_7_code 4 none ws ({ frames := 1, cells := 0, slots := 0, locals := 24 } : Room) Z #[(.ref a), (.int 0)] h0 ({ frames := 1, cells := 0, slots := 0, locals := 24 } : Room).cells ({ frames := 1, cells := 0, slots := 0, locals := 24 } : Room).slots (Q_rmSk3 Z a hp pp ky q K bt h0 n0) := by
  refine Con.of (Ls := #[.val (.ref a), .val (.int 0), .unset, .unset]) (plainFor_of_name (by first | (simp [plainName, overriddenIn]; done) | decide +kernel)) (fun m => by first | (simp [entryFrame, mkF, argsToLocals, Value.category]; done) | rfl) ?_
  intro p e s m below meth c s₁ G hGe hG hx hby hml hown hnm hrt hlk hZ X0 e0
  have hown : s.vm.findClass "com/example/tributary/tributary/plan/NodeHeap" = some m.cls := hown
  have hnm : meth.name = "sink" := hnm
  have NF0 := Fr.nil n0
  obtain ⟨Ex_a, F_heap_a, F_position_a, F_key_a, F_size_a, V_hp, V_pp, V_ky⟩ := NQ
  obtain ⟨ga, ghp, gpp, gky, d1, d2, d3, d4, d5, d6⟩ := DD
  have K0 := Keep.refl h0 [a, hp, pp, ky]
  refine g_aloadN hG X0 hx (hb hby d13_0) (pc' := 1) rfl rfl rfl ?_
  show G (s₁.setTop (mkF m 1 #[.val (.ref a), .val (.int 0), .unset, .unset] [(.ref a)]))
  refine g_getF hG X0 hx hZ hown (wd hw 11 rfl) Via.refl e0 F_heap_a (hb hby d13_1) (pc' := 4) rfl ?_
  intro T1 X1 e1
  show G (T1.setTop (mkF m 4 #[.val (.ref a), .val (.int 0), .unset, .unset] [(.ref hp)]))
  refine g_iloadN hG X1 hx (hb hby d13_4) (pc' := 5) rfl rfl ?_
  show G (T1.setTop (mkF m 5 #[.val (.ref a), .val (.int 0), .unset, .unset] [(.int 0), (.ref hp)]))
  refine g_iaload hG X1 hx hZ e1 V_hp (j := (0 : Int32)) (v := (.int (q.1 (0 : Int32)))) (in4_nn in4_0) (in4_at in4_0 rfl) (hb hby d13_5) (pc' := 6) rfl ?_
  show G (T1.setTop (mkF m 6 #[.val (.ref a), .val (.int 0), .unset, .unset] [(.int (q.1 (0 : Int32)))]))
  refine g_istoreN hG X1 hx (hb hby d13_6) (pc' := 7) rfl (Ls' := #[.val (.ref a), .val (.int 0), .val (.int (q.1 (0 : Int32))), .unset]) rfl ?_
  show G (T1.setTop (mkF m 7 #[.val (.ref a), .val (.int 0), .val (.int (q.1 (0 : Int32))), .unset] []))
  refine g_iconst hG X1 hx (hb hby d13_7) (pc' := 8) rfl (v := (2 : Int32)) rfl ?_
  show G (T1.setTop (mkF m 8 #[.val (.ref a), .val (.int 0), .val (.int (q.1 (0 : Int32))), .unset] [(.int 2)]))
  refine g_iloadN hG X1 hx (hb hby d13_8) (pc' := 9) rfl rfl ?_
  show G (T1.setTop (mkF m 9 #[.val (.ref a), .val (.int 0), .val (.int (q.1 (0 : Int32))), .unset] [(.int 0), (.int 2)]))
  refine g_imul hG X1 hx (hb hby d13_9) (pc' := 10) rfl (v := (0 : Int32)) (by decide) ?_
  show G (T1.setTop (mkF m 10 #[.val (.ref a), .val (.int 0), .val (.int (q.1 (0 : Int32))), .unset] [(.int 0)]))
  refine g_iconst hG X1 hx (hb hby d13_10) (pc' := 11) rfl (v := (1 : Int32)) rfl ?_
  show G (T1.setTop (mkF m 11 #[.val (.ref a), .val (.int 0), .val (.int (q.1 (0 : Int32))), .unset] [(.int 1), (.int 0)]))
  refine g_iadd hG X1 hx (hb hby d13_11) (pc' := 12) rfl (v := (1 : Int32)) (by decide) ?_
  show G (T1.setTop (mkF m 12 #[.val (.ref a), .val (.int 0), .val (.int (q.1 (0 : Int32))), .unset] [(.int 1)]))
  refine g_istoreN hG X1 hx (hb hby d13_12) (pc' := 13) rfl (Ls' := #[.val (.ref a), .val (.int 0), .val (.int (q.1 (0 : Int32))), .val (.int 1)]) rfl ?_
  show G (T1.setTop (mkF m 13 #[.val (.ref a), .val (.int 0), .val (.int (q.1 (0 : Int32))), .val (.int 1)] []))
  refine g_iloadN hG X1 hx (hb hby d13_13) (pc' := 14) rfl rfl ?_
  show G (T1.setTop (mkF m 14 #[.val (.ref a), .val (.int 0), .val (.int (q.1 (0 : Int32))), .val (.int 1)] [(.int 1)]))
  refine g_aloadN hG X1 hx (hb hby d13_14) (pc' := 15) rfl rfl rfl ?_
  show G (T1.setTop (mkF m 15 #[.val (.ref a), .val (.int 0), .val (.int (q.1 (0 : Int32))), .val (.int 1)] [(.ref a), (.int 1)]))
  refine g_getF hG X1 hx hZ hown (wd hw 27 rfl) Via.refl e1 F_size_a (hb hby d13_15) (pc' := 18) rfl ?_
  intro T2 X2 e2
  show G (T2.setTop (mkF m 18 #[.val (.ref a), .val (.int 0), .val (.int (q.1 (0 : Int32))), .val (.int 1)] [(.int 3), (.int 1)]))
  refine g_icmpYes hG X2 hx (hb hby d13_18) (pc' := 24) (by decide) (by decide) (by decide) ?_
  show G (T2.setTop (mkF m 24 #[.val (.ref a), .val (.int 0), .val (.int (q.1 (0 : Int32))), .val (.int 1)] []))
  refine g_iloadN hG X2 hx (hb hby d13_24) (pc' := 25) rfl rfl ?_
  show G (T2.setTop (mkF m 25 #[.val (.ref a), .val (.int 0), .val (.int (q.1 (0 : Int32))), .val (.int 1)] [(.int 1)]))
  refine g_iconst hG X2 hx (hb hby d13_25) (pc' := 26) rfl (v := (1 : Int32)) rfl ?_
  show G (T2.setTop (mkF m 26 #[.val (.ref a), .val (.int 0), .val (.int (q.1 (0 : Int32))), .val (.int 1)] [(.int 1), (.int 1)]))
  refine g_iadd hG X2 hx (hb hby d13_26) (pc' := 27) rfl (v := (2 : Int32)) (by decide) ?_
  show G (T2.setTop (mkF m 27 #[.val (.ref a), .val (.int 0), .val (.int (q.1 (0 : Int32))), .val (.int 1)] [(.int 2)]))
  refine g_aloadN hG X2 hx (hb hby d13_27) (pc' := 28) rfl rfl rfl ?_
  show G (T2.setTop (mkF m 28 #[.val (.ref a), .val (.int 0), .val (.int (q.1 (0 : Int32))), .val (.int 1)] [(.ref a), (.int 2)]))
  refine g_getF hG X2 hx hZ hown (wd hw 27 rfl) Via.refl e2 F_size_a (hb hby d13_28) (pc' := 31) rfl ?_
  intro T3 X3 e3
  show G (T3.setTop (mkF m 31 #[.val (.ref a), .val (.int 0), .val (.int (q.1 (0 : Int32))), .val (.int 1)] [(.int 3), (.int 2)]))
  refine g_icmpNo hG X3 hx (hb hby d13_31) (pc' := 34) (by decide) rfl ?_
  show G (T3.setTop (mkF m 34 #[.val (.ref a), .val (.int 0), .val (.int (q.1 (0 : Int32))), .val (.int 1)] []))
  refine g_aloadN hG X3 hx (hb hby d13_34) (pc' := 35) rfl rfl rfl ?_
  show G (T3.setTop (mkF m 35 #[.val (.ref a), .val (.int 0), .val (.int (q.1 (0 : Int32))), .val (.int 1)] [(.ref a)]))
  refine g_aloadN hG X3 hx (hb hby d13_35) (pc' := 36) rfl rfl rfl ?_
  show G (T3.setTop (mkF m 36 #[.val (.ref a), .val (.int 0), .val (.int (q.1 (0 : Int32))), .val (.int 1)] [(.ref a), (.ref a)]))
  refine g_getF hG X3 hx hZ hown (wd hw 11 rfl) Via.refl e3 F_heap_a (hb hby d13_36) (pc' := 39) rfl ?_
  intro T4 X4 e4
  show G (T4.setTop (mkF m 39 #[.val (.ref a), .val (.int 0), .val (.int (q.1 (0 : Int32))), .val (.int 1)] [(.ref hp), (.ref a)]))
  refine g_iloadN hG X4 hx (hb hby d13_39) (pc' := 40) rfl rfl ?_
  show G (T4.setTop (mkF m 40 #[.val (.ref a), .val (.int 0), .val (.int (q.1 (0 : Int32))), .val (.int 1)] [(.int 1), (.ref hp), (.ref a)]))
  refine g_iconst hG X4 hx (hb hby d13_40) (pc' := 41) rfl (v := (1 : Int32)) rfl ?_
  show G (T4.setTop (mkF m 41 #[.val (.ref a), .val (.int 0), .val (.int (q.1 (0 : Int32))), .val (.int 1)] [(.int 1), (.int 1), (.ref hp), (.ref a)]))
  refine g_iadd hG X4 hx (hb hby d13_41) (pc' := 42) rfl (v := (2 : Int32)) (by decide) ?_
  show G (T4.setTop (mkF m 42 #[.val (.ref a), .val (.int 0), .val (.int (q.1 (0 : Int32))), .val (.int 1)] [(.int 2), (.ref hp), (.ref a)]))
  refine g_iaload hG X4 hx hZ e4 V_hp (j := (2 : Int32)) (v := (.int (q.1 (2 : Int32)))) (in4_nn in4_2) (in4_at in4_2 rfl) (hb hby d13_42) (pc' := 43) rfl ?_
  show G (T4.setTop (mkF m 43 #[.val (.ref a), .val (.int 0), .val (.int (q.1 (0 : Int32))), .val (.int 1)] [(.int (q.1 (2 : Int32))), (.ref a)]))
  refine g_aloadN hG X4 hx (hb hby d13_43) (pc' := 44) rfl rfl rfl ?_
  show G (T4.setTop (mkF m 44 #[.val (.ref a), .val (.int 0), .val (.int (q.1 (0 : Int32))), .val (.int 1)] [(.ref a), (.int (q.1 (2 : Int32))), (.ref a)]))
  refine g_getF hG X4 hx hZ hown (wd hw 11 rfl) Via.refl e4 F_heap_a (hb hby d13_44) (pc' := 47) rfl ?_
  intro T5 X5 e5
  show G (T5.setTop (mkF m 47 #[.val (.ref a), .val (.int 0), .val (.int (q.1 (0 : Int32))), .val (.int 1)] [(.ref hp), (.int (q.1 (2 : Int32))), (.ref a)]))
  refine g_iloadN hG X5 hx (hb hby d13_47) (pc' := 48) rfl rfl ?_
  show G (T5.setTop (mkF m 48 #[.val (.ref a), .val (.int 0), .val (.int (q.1 (0 : Int32))), .val (.int 1)] [(.int 1), (.ref hp), (.int (q.1 (2 : Int32))), (.ref a)]))
  refine g_iaload hG X5 hx hZ e5 V_hp (j := (1 : Int32)) (v := (.int (q.1 (1 : Int32)))) (in4_nn in4_1) (in4_at in4_1 rfl) (hb hby d13_48) (pc' := 49) rfl ?_
  show G (T5.setTop (mkF m 49 #[.val (.ref a), .val (.int 0), .val (.int (q.1 (0 : Int32))), .val (.int 1)] [(.int (q.1 (1 : Int32))), (.int (q.1 (2 : Int32))), (.ref a)]))
  by_cases g49_6 : bt (q.1 (2 : Int32)) (q.1 (1 : Int32)) = true
  · have _hh := g49_6
    refine g_callP hG X5 hx hZ (y := (⟨"com/example/tributary/tributary/plan/NodeHeap", "before", "(II)Z"⟩ : MethodName)) 0 hown (wd hw 37 rfl) (wd hw 38 rfl) (wd hw 3 rfl) (wd hw 39 rfl) (wd hw 4 rfl) (wd hw 40 rfl) (by decide) (rmBe l Z a0 hw [] a hp pp ky (3 : Int32) q K (q.1 (2 : Int32)) (q.1 (1 : Int32)) (1 : Int32) h0 n0 Zs ⟨Ex_a, F_heap_a, F_position_a, F_key_a, F_size_a, V_hp, V_pp, V_ky⟩ ⟨ga, ghp, gpp, gky, d1, d2, d3, d4, d5, d6⟩ (show In4 (q.1 (2 : Int32)) from ii 2 (by decide)) (show In4 (q.1 (1 : Int32)) from ii 1 (by decide)) ((hbb 2 1 (by decide) (by decide)).1 g49_6)) (by decide) (by decide) (by rw [hml]; rfl) pd_2 rfl (argsL := [(.int (q.1 (2 : Int32))), (.int (q.1 (1 : Int32)))]) (rest := []) rfl rfl (Nat.le_of_eq rfl) (hb hby d13_49) e5 Ex_a (by decide) (by decide) (pc' := 52) rfl ?_
    intro T7 rv7 L7 X7 hQ7
    obtain ⟨rfl, Nq7, eh7⟩ := hQ7
    have NF7 := Fr.app NF0 Nq7
    show G (T7.setTop (mkF m 52 #[.val (.ref a), .val (.int 0), .val (.int (q.1 (0 : Int32))), .val (.int 1)] [(.int 1)]))
    refine g_ifNo hG X7 hx (hb hby d13_52) (pc' := 55) (by decide) rfl ?_
    show G (T7.setTop (mkF m 55 #[.val (.ref a), .val (.int 0), .val (.int (q.1 (0 : Int32))), .val (.int 1)] []))
    refine g_iinc hG X7 hx (hb hby d13_55) (pc' := 58) rfl rfl (v := (2 : Int32)) (by decide) (Ls' := #[.val (.ref a), .val (.int 0), .val (.int (q.1 (0 : Int32))), .val (.int 2)]) rfl ?_
    show G (T7.setTop (mkF m 58 #[.val (.ref a), .val (.int 0), .val (.int (q.1 (0 : Int32))), .val (.int 2)] []))
    refine g_aloadN hG X7 hx (hb hby d13_58) (pc' := 59) rfl rfl rfl ?_
    show G (T7.setTop (mkF m 59 #[.val (.ref a), .val (.int 0), .val (.int (q.1 (0 : Int32))), .val (.int 2)] [(.ref a)]))
    refine g_aloadN hG X7 hx (hb hby d13_59) (pc' := 60) rfl rfl rfl ?_
    show G (T7.setTop (mkF m 60 #[.val (.ref a), .val (.int 0), .val (.int (q.1 (0 : Int32))), .val (.int 2)] [(.ref a), (.ref a)]))
    refine g_getF hG X7 hx hZ hown (wd hw 11 rfl) Via.refl eh7 F_heap_a (hb hby d13_60) (pc' := 63) rfl ?_
    intro T8 X8 e8
    show G (T8.setTop (mkF m 63 #[.val (.ref a), .val (.int 0), .val (.int (q.1 (0 : Int32))), .val (.int 2)] [(.ref hp), (.ref a)]))
    refine g_iloadN hG X8 hx (hb hby d13_63) (pc' := 64) rfl rfl ?_
    show G (T8.setTop (mkF m 64 #[.val (.ref a), .val (.int 0), .val (.int (q.1 (0 : Int32))), .val (.int 2)] [(.int 2), (.ref hp), (.ref a)]))
    refine g_iaload hG X8 hx hZ e8 V_hp (j := (2 : Int32)) (v := (.int (q.1 (2 : Int32)))) (in4_nn in4_2) (in4_at in4_2 rfl) (hb hby d13_64) (pc' := 65) rfl ?_
    show G (T8.setTop (mkF m 65 #[.val (.ref a), .val (.int 0), .val (.int (q.1 (0 : Int32))), .val (.int 2)] [(.int (q.1 (2 : Int32))), (.ref a)]))
    refine g_iloadN hG X8 hx (hb hby d13_65) (pc' := 66) rfl rfl ?_
    show G (T8.setTop (mkF m 66 #[.val (.ref a), .val (.int 0), .val (.int (q.1 (0 : Int32))), .val (.int 2)] [(.int (q.1 (0 : Int32))), (.int (q.1 (2 : Int32))), (.ref a)]))
    by_cases g66_9 : bt (q.1 (2 : Int32)) (q.1 (0 : Int32)) = true
    · have _hh := g66_9
      refine g_callP hG X8 hx hZ (y := (⟨"com/example/tributary/tributary/plan/NodeHeap", "before", "(II)Z"⟩ : MethodName)) 0 hown (wd hw 37 rfl) (wd hw 38 rfl) (wd hw 3 rfl) (wd hw 39 rfl) (wd hw 4 rfl) (wd hw 40 rfl) (by decide) (rmBe l Z a0 hw [] a hp pp ky (3 : Int32) q K (q.1 (2 : Int32)) (q.1 (0 : Int32)) (1 : Int32) h0 n0 Zs ⟨Ex_a, F_heap_a, F_position_a, F_key_a, F_size_a, V_hp, V_pp, V_ky⟩ ⟨ga, ghp, gpp, gky, d1, d2, d3, d4, d5, d6⟩ (show In4 (q.1 (2 : Int32)) from ii 2 (by decide)) (show In4 (q.1 (0 : Int32)) from ii 0 (by decide)) ((hbb 2 0 (by decide) (by decide)).1 g66_9)) (by decide) (by decide) (by rw [hml]; rfl) pd_2 rfl (argsL := [(.int (q.1 (2 : Int32))), (.int (q.1 (0 : Int32)))]) (rest := []) rfl rfl (Nat.le_of_eq rfl) (hb hby d13_66) e8 Ex_a (by decide) (by decide) (pc' := 69) rfl ?_
      intro T10 rv10 L10 X10 hQ10
      obtain ⟨rfl, Nq10, eh10⟩ := hQ10
      have NF10 := Fr.app NF7 Nq10
      show G (T10.setTop (mkF m 69 #[.val (.ref a), .val (.int 0), .val (.int (q.1 (0 : Int32))), .val (.int 2)] [(.int 1)]))
      refine g_ifYes hG X10 hx (hb hby d13_69) (pc' := 75) (by decide) (by decide) (by decide) ?_
      show G (T10.setTop (mkF m 75 #[.val (.ref a), .val (.int 0), .val (.int (q.1 (0 : Int32))), .val (.int 2)] []))
      refine g_aloadN hG X10 hx (hb hby d13_75) (pc' := 76) rfl rfl rfl ?_
      show G (T10.setTop (mkF m 76 #[.val (.ref a), .val (.int 0), .val (.int (q.1 (0 : Int32))), .val (.int 2)] [(.ref a)]))
      refine g_aloadN hG X10 hx (hb hby d13_76) (pc' := 77) rfl rfl rfl ?_
      show G (T10.setTop (mkF m 77 #[.val (.ref a), .val (.int 0), .val (.int (q.1 (0 : Int32))), .val (.int 2)] [(.ref a), (.ref a)]))
      refine g_getF hG X10 hx hZ hown (wd hw 11 rfl) Via.refl eh10 F_heap_a (hb hby d13_77) (pc' := 80) rfl ?_
      intro T11 X11 e11
      show G (T11.setTop (mkF m 80 #[.val (.ref a), .val (.int 0), .val (.int (q.1 (0 : Int32))), .val (.int 2)] [(.ref hp), (.ref a)]))
      refine g_iloadN hG X11 hx (hb hby d13_80) (pc' := 81) rfl rfl ?_
      show G (T11.setTop (mkF m 81 #[.val (.ref a), .val (.int 0), .val (.int (q.1 (0 : Int32))), .val (.int 2)] [(.int 2), (.ref hp), (.ref a)]))
      refine g_iaload hG X11 hx hZ e11 V_hp (j := (2 : Int32)) (v := (.int (q.1 (2 : Int32)))) (in4_nn in4_2) (in4_at in4_2 rfl) (hb hby d13_81) (pc' := 82) rfl ?_
      show G (T11.setTop (mkF m 82 #[.val (.ref a), .val (.int 0), .val (.int (q.1 (0 : Int32))), .val (.int 2)] [(.int (q.1 (2 : Int32))), (.ref a)]))
      refine g_iloadN hG X11 hx (hb hby d13_82) (pc' := 83) rfl rfl ?_
      show G (T11.setTop (mkF m 83 #[.val (.ref a), .val (.int 0), .val (.int (q.1 (0 : Int32))), .val (.int 2)] [(.int 0), (.int (q.1 (2 : Int32))), (.ref a)]))
      refine g_callP hG X11 hx hZ (y := (⟨"com/example/tributary/tributary/plan/NodeHeap", "place", "(II)V"⟩ : MethodName)) 0 hown (wd hw 33 rfl) (wd hw 34 rfl) (wd hw 3 rfl) (wd hw 35 rfl) (wd hw 4 rfl) (wd hw 36 rfl) (by decide) (rmPl l Z a0 hw [] a hp pp ky (3 : Int32) q K (q.1 (2 : Int32)) (0 : Int32) h0 n0 Zs ⟨Ex_a, F_heap_a, F_position_a, F_key_a, F_size_a, V_hp, V_pp, V_ky⟩ ⟨ga, ghp, gpp, gky, d1, d2, d3, d4, d5, d6⟩ (show In4 (q.1 (2 : Int32)) from ii 2 (by decide)) in4_0) (by decide) (by decide) (by rw [hml]; rfl) pd_1 rfl (argsL := [(.int (q.1 (2 : Int32))), (.int 0)]) (rest := []) rfl rfl (Nat.le_of_eq rfl) (hb hby d13_83) e11 Ex_a (by decide) (by decide) (pc' := 86) rfl ?_
      intro T12 rv12 L12 X12 hQ12
      obtain ⟨rfl, Nq12, Kq12, Ex_a, F_heap_a, F_position_a, F_key_a, F_size_a, V_hp, V_pp, V_ky⟩ := hQ12
      have NF12 := Fr.app NF10 Nq12
      have Zs := Nat.le_trans Zs Kq12.1
      have K12 := K0.trans Kq12 (allS (Or.inl (List.mem_of_getElem? (i := 0) rfl)) (allS (Or.inl (List.mem_of_getElem? (i := 1) rfl)) (allS (Or.inl (List.mem_of_getElem? (i := 2) rfl)) (allS (Or.inl (List.mem_of_getElem? (i := 3) rfl)) all0))))
      show G (T12.setTop (mkF m 86 #[.val (.ref a), .val (.int 0), .val (.int (q.1 (0 : Int32))), .val (.int 2)] []))
      refine g_iloadN hG X12 hx (hb hby d13_86) (pc' := 87) rfl rfl ?_
      show G (T12.setTop (mkF m 87 #[.val (.ref a), .val (.int 0), .val (.int (q.1 (0 : Int32))), .val (.int 2)] [(.int 2)]))
      refine g_istoreN hG X12 hx (hb hby d13_87) (pc' := 88) rfl (Ls' := #[.val (.ref a), .val (.int 2), .val (.int (q.1 (0 : Int32))), .val (.int 2)]) rfl ?_
      show G (T12.setTop (mkF m 88 #[.val (.ref a), .val (.int 2), .val (.int (q.1 (0 : Int32))), .val (.int 2)] []))
      refine g_goto hG X12 hx (hb hby d13_88) (pc' := 7) (by decide) (by decide) ?_
      show G (T12.setTop (mkF m 7 #[.val (.ref a), .val (.int 2), .val (.int (q.1 (0 : Int32))), .val (.int 2)] []))
      refine g_iconst hG X12 hx (hb hby d13_7) (pc' := 8) rfl (v := (2 : Int32)) rfl ?_
      show G (T12.setTop (mkF m 8 #[.val (.ref a), .val (.int 2), .val (.int (q.1 (0 : Int32))), .val (.int 2)] [(.int 2)]))
      refine g_iloadN hG X12 hx (hb hby d13_8) (pc' := 9) rfl rfl ?_
      show G (T12.setTop (mkF m 9 #[.val (.ref a), .val (.int 2), .val (.int (q.1 (0 : Int32))), .val (.int 2)] [(.int 2), (.int 2)]))
      refine g_imul hG X12 hx (hb hby d13_9) (pc' := 10) rfl (v := (4 : Int32)) (by decide) ?_
      show G (T12.setTop (mkF m 10 #[.val (.ref a), .val (.int 2), .val (.int (q.1 (0 : Int32))), .val (.int 2)] [(.int 4)]))
      refine g_iconst hG X12 hx (hb hby d13_10) (pc' := 11) rfl (v := (1 : Int32)) rfl ?_
      show G (T12.setTop (mkF m 11 #[.val (.ref a), .val (.int 2), .val (.int (q.1 (0 : Int32))), .val (.int 2)] [(.int 1), (.int 4)]))
      refine g_iadd hG X12 hx (hb hby d13_11) (pc' := 12) rfl (v := (5 : Int32)) (by decide) ?_
      show G (T12.setTop (mkF m 12 #[.val (.ref a), .val (.int 2), .val (.int (q.1 (0 : Int32))), .val (.int 2)] [(.int 5)]))
      refine g_istoreN hG X12 hx (hb hby d13_12) (pc' := 13) rfl (Ls' := #[.val (.ref a), .val (.int 2), .val (.int (q.1 (0 : Int32))), .val (.int 5)]) rfl ?_
      show G (T12.setTop (mkF m 13 #[.val (.ref a), .val (.int 2), .val (.int (q.1 (0 : Int32))), .val (.int 5)] []))
      refine g_iloadN hG X12 hx (hb hby d13_13) (pc' := 14) rfl rfl ?_
      show G (T12.setTop (mkF m 14 #[.val (.ref a), .val (.int 2), .val (.int (q.1 (0 : Int32))), .val (.int 5)] [(.int 5)]))
      refine g_aloadN hG X12 hx (hb hby d13_14) (pc' := 15) rfl rfl rfl ?_
      show G (T12.setTop (mkF m 15 #[.val (.ref a), .val (.int 2), .val (.int (q.1 (0 : Int32))), .val (.int 5)] [(.ref a), (.int 5)]))
      refine g_getF hG X12 hx hZ hown (wd hw 27 rfl) Via.refl rfl F_size_a (hb hby d13_15) (pc' := 18) rfl ?_
      intro T13 X13 e13
      show G (T13.setTop (mkF m 18 #[.val (.ref a), .val (.int 2), .val (.int (q.1 (0 : Int32))), .val (.int 5)] [(.int 3), (.int 5)]))
      refine g_icmpNo hG X13 hx (hb hby d13_18) (pc' := 21) (by decide) rfl ?_
      show G (T13.setTop (mkF m 21 #[.val (.ref a), .val (.int 2), .val (.int (q.1 (0 : Int32))), .val (.int 5)] []))
      refine g_goto hG X13 hx (hb hby d13_21) (pc' := 91) (by decide) (by decide) ?_
      show G (T13.setTop (mkF m 91 #[.val (.ref a), .val (.int 2), .val (.int (q.1 (0 : Int32))), .val (.int 5)] []))
      refine g_aloadN hG X13 hx (hb hby d13_91) (pc' := 92) rfl rfl rfl ?_
      show G (T13.setTop (mkF m 92 #[.val (.ref a), .val (.int 2), .val (.int (q.1 (0 : Int32))), .val (.int 5)] [(.ref a)]))
      refine g_iloadN hG X13 hx (hb hby d13_92) (pc' := 93) rfl rfl ?_
      show G (T13.setTop (mkF m 93 #[.val (.ref a), .val (.int 2), .val (.int (q.1 (0 : Int32))), .val (.int 5)] [(.int (q.1 (0 : Int32))), (.ref a)]))
      refine g_iloadN hG X13 hx (hb hby d13_93) (pc' := 94) rfl rfl ?_
      show G (T13.setTop (mkF m 94 #[.val (.ref a), .val (.int 2), .val (.int (q.1 (0 : Int32))), .val (.int 5)] [(.int 2), (.int (q.1 (0 : Int32))), (.ref a)]))
      refine g_callP hG X13 hx hZ (y := (⟨"com/example/tributary/tributary/plan/NodeHeap", "place", "(II)V"⟩ : MethodName)) 0 hown (wd hw 33 rfl) (wd hw 34 rfl) (wd hw 3 rfl) (wd hw 35 rfl) (wd hw 4 rfl) (wd hw 36 rfl) (by decide) (rmPl l Z a0 hw [] a hp pp ky (3 : Int32) (pl q (q.1 (2 : Int32)) (0 : Int32)) K (q.1 (0 : Int32)) (2 : Int32) T12.heap n0 Zs ⟨Ex_a, F_heap_a, F_position_a, F_key_a, F_size_a, V_hp, V_pp, V_ky⟩ ⟨ga, ghp, gpp, gky, d1, d2, d3, d4, d5, d6⟩ (show In4 (q.1 (0 : Int32)) from ii 0 (by decide)) in4_2) (by decide) (by decide) (by rw [hml]; rfl) pd_1 rfl (argsL := [(.int (q.1 (0 : Int32))), (.int 2)]) (rest := []) rfl rfl (Nat.le_of_eq rfl) (hb hby d13_94) e13 Ex_a (by decide) (by decide) (pc' := 97) rfl ?_
      intro T14 rv14 L14 X14 hQ14
      obtain ⟨rfl, Nq14, Kq14, Ex_a, F_heap_a, F_position_a, F_key_a, F_size_a, V_hp, V_pp, V_ky⟩ := hQ14
      have NF14 := Fr.app NF12 Nq14
      have Zs := Nat.le_trans Zs Kq14.1
      have K14 := K12.trans Kq14 (allS (Or.inl (List.mem_of_getElem? (i := 0) rfl)) (allS (Or.inl (List.mem_of_getElem? (i := 1) rfl)) (allS (Or.inl (List.mem_of_getElem? (i := 2) rfl)) (allS (Or.inl (List.mem_of_getElem? (i := 3) rfl)) all0))))
      show G (T14.setTop (mkF m 97 #[.val (.ref a), .val (.int 2), .val (.int (q.1 (0 : Int32))), .val (.int 5)] []))
      exact e_ret0 hGe X14 hx hrt hlk (hb hby d13_97) rfl (by decide) (by decide) (⟨rfl, NF14, K14, (by
              have e : sk3 bt q = (pl (pl q (q.1 (2 : Int32)) (0 : Int32)) (q.1 (0 : Int32)) (2 : Int32)) := by
                unfold sk3
                rw [if_pos g49_6, if_pos g66_9]
              rw [e]
              exact ⟨Ex_a, F_heap_a, F_position_a, F_key_a, F_size_a, V_hp, V_pp, V_ky⟩)⟩)
    · have _hh := g66_9
      refine g_callP hG X8 hx hZ (y := (⟨"com/example/tributary/tributary/plan/NodeHeap", "before", "(II)Z"⟩ : MethodName)) 0 hown (wd hw 37 rfl) (wd hw 38 rfl) (wd hw 3 rfl) (wd hw 39 rfl) (wd hw 4 rfl) (wd hw 40 rfl) (by decide) (rmBe l Z a0 hw [] a hp pp ky (3 : Int32) q K (q.1 (2 : Int32)) (q.1 (0 : Int32)) (0 : Int32) h0 n0 Zs ⟨Ex_a, F_heap_a, F_position_a, F_key_a, F_size_a, V_hp, V_pp, V_ky⟩ ⟨ga, ghp, gpp, gky, d1, d2, d3, d4, d5, d6⟩ (show In4 (q.1 (2 : Int32)) from ii 2 (by decide)) (show In4 (q.1 (0 : Int32)) from ii 0 (by decide)) ((hbb 2 0 (by decide) (by decide)).2 g66_9)) (by decide) (by decide) (by rw [hml]; rfl) pd_2 rfl (argsL := [(.int (q.1 (2 : Int32))), (.int (q.1 (0 : Int32)))]) (rest := []) rfl rfl (Nat.le_of_eq rfl) (hb hby d13_66) e8 Ex_a (by decide) (by decide) (pc' := 69) rfl ?_
      intro T15 rv15 L15 X15 hQ15
      obtain ⟨rfl, Nq15, eh15⟩ := hQ15
      have NF15 := Fr.app NF7 Nq15
      show G (T15.setTop (mkF m 69 #[.val (.ref a), .val (.int 0), .val (.int (q.1 (0 : Int32))), .val (.int 2)] [(.int 0)]))
      refine g_ifNo hG X15 hx (hb hby d13_69) (pc' := 72) (by decide) rfl ?_
      show G (T15.setTop (mkF m 72 #[.val (.ref a), .val (.int 0), .val (.int (q.1 (0 : Int32))), .val (.int 2)] []))
      refine g_goto hG X15 hx (hb hby d13_72) (pc' := 91) (by decide) (by decide) ?_
      show G (T15.setTop (mkF m 91 #[.val (.ref a), .val (.int 0), .val (.int (q.1 (0 : Int32))), .val (.int 2)] []))
      refine g_aloadN hG X15 hx (hb hby d13_91) (pc' := 92) rfl rfl rfl ?_
      show G (T15.setTop (mkF m 92 #[.val (.ref a), .val (.int 0), .val (.int (q.1 (0 : Int32))), .val (.int 2)] [(.ref a)]))
      refine g_iloadN hG X15 hx (hb hby d13_92) (pc' := 93) rfl rfl ?_
      show G (T15.setTop (mkF m 93 #[.val (.ref a), .val (.int 0), .val (.int (q.1 (0 : Int32))), .val (.int 2)] [(.int (q.1 (0 : Int32))), (.ref a)]))
      refine g_iloadN hG X15 hx (hb hby d13_93) (pc' := 94) rfl rfl ?_
      show G (T15.setTop (mkF m 94 #[.val (.ref a), .val (.int 0), .val (.int (q.1 (0 : Int32))), .val (.int 2)] [(.int 0), (.int (q.1 (0 : Int32))), (.ref a)]))
      refine g_callP hG X15 hx hZ (y := (⟨"com/example/tributary/tributary/plan/NodeHeap", "place", "(II)V"⟩ : MethodName)) 0 hown (wd hw 33 rfl) (wd hw 34 rfl) (wd hw 3 rfl) (wd hw 35 rfl) (wd hw 4 rfl) (wd hw 36 rfl) (by decide) (rmPl l Z a0 hw [] a hp pp ky (3 : Int32) q K (q.1 (0 : Int32)) (0 : Int32) h0 n0 Zs ⟨Ex_a, F_heap_a, F_position_a, F_key_a, F_size_a, V_hp, V_pp, V_ky⟩ ⟨ga, ghp, gpp, gky, d1, d2, d3, d4, d5, d6⟩ (show In4 (q.1 (0 : Int32)) from ii 0 (by decide)) in4_0) (by decide) (by decide) (by rw [hml]; rfl) pd_1 rfl (argsL := [(.int (q.1 (0 : Int32))), (.int 0)]) (rest := []) rfl rfl (Nat.le_of_eq rfl) (hb hby d13_94) eh15 Ex_a (by decide) (by decide) (pc' := 97) rfl ?_
      intro T16 rv16 L16 X16 hQ16
      obtain ⟨rfl, Nq16, Kq16, Ex_a, F_heap_a, F_position_a, F_key_a, F_size_a, V_hp, V_pp, V_ky⟩ := hQ16
      have NF16 := Fr.app NF15 Nq16
      have Zs := Nat.le_trans Zs Kq16.1
      have K16 := K0.trans Kq16 (allS (Or.inl (List.mem_of_getElem? (i := 0) rfl)) (allS (Or.inl (List.mem_of_getElem? (i := 1) rfl)) (allS (Or.inl (List.mem_of_getElem? (i := 2) rfl)) (allS (Or.inl (List.mem_of_getElem? (i := 3) rfl)) all0))))
      show G (T16.setTop (mkF m 97 #[.val (.ref a), .val (.int 0), .val (.int (q.1 (0 : Int32))), .val (.int 2)] []))
      exact e_ret0 hGe X16 hx hrt hlk (hb hby d13_97) rfl (by decide) (by decide) (⟨rfl, NF16, K16, (by
              have e : sk3 bt q = (pl q (q.1 (0 : Int32)) (0 : Int32)) := by
                unfold sk3
                rw [if_pos g49_6, if_neg g66_9]
              rw [e]
              exact ⟨Ex_a, F_heap_a, F_position_a, F_key_a, F_size_a, V_hp, V_pp, V_ky⟩)⟩)
  · have _hh := g49_6
    refine g_callP hG X5 hx hZ (y := (⟨"com/example/tributary/tributary/plan/NodeHeap", "before", "(II)Z"⟩ : MethodName)) 0 hown (wd hw 37 rfl) (wd hw 38 rfl) (wd hw 3 rfl) (wd hw 39 rfl) (wd hw 4 rfl) (wd hw 40 rfl) (by decide) (rmBe l Z a0 hw [] a hp pp ky (3 : Int32) q K (q.1 (2 : Int32)) (q.1 (1 : Int32)) (0 : Int32) h0 n0 Zs ⟨Ex_a, F_heap_a, F_position_a, F_key_a, F_size_a, V_hp, V_pp, V_ky⟩ ⟨ga, ghp, gpp, gky, d1, d2, d3, d4, d5, d6⟩ (show In4 (q.1 (2 : Int32)) from ii 2 (by decide)) (show In4 (q.1 (1 : Int32)) from ii 1 (by decide)) ((hbb 2 1 (by decide) (by decide)).2 g49_6)) (by decide) (by decide) (by rw [hml]; rfl) pd_2 rfl (argsL := [(.int (q.1 (2 : Int32))), (.int (q.1 (1 : Int32)))]) (rest := []) rfl rfl (Nat.le_of_eq rfl) (hb hby d13_49) e5 Ex_a (by decide) (by decide) (pc' := 52) rfl ?_
    intro T17 rv17 L17 X17 hQ17
    obtain ⟨rfl, Nq17, eh17⟩ := hQ17
    have NF17 := Fr.app NF0 Nq17
    show G (T17.setTop (mkF m 52 #[.val (.ref a), .val (.int 0), .val (.int (q.1 (0 : Int32))), .val (.int 1)] [(.int 0)]))
    refine g_ifYes hG X17 hx (hb hby d13_52) (pc' := 58) (by decide) (by decide) (by decide) ?_
    show G (T17.setTop (mkF m 58 #[.val (.ref a), .val (.int 0), .val (.int (q.1 (0 : Int32))), .val (.int 1)] []))
    refine g_aloadN hG X17 hx (hb hby d13_58) (pc' := 59) rfl rfl rfl ?_
    show G (T17.setTop (mkF m 59 #[.val (.ref a), .val (.int 0), .val (.int (q.1 (0 : Int32))), .val (.int 1)] [(.ref a)]))
    refine g_aloadN hG X17 hx (hb hby d13_59) (pc' := 60) rfl rfl rfl ?_
    show G (T17.setTop (mkF m 60 #[.val (.ref a), .val (.int 0), .val (.int (q.1 (0 : Int32))), .val (.int 1)] [(.ref a), (.ref a)]))
    refine g_getF hG X17 hx hZ hown (wd hw 11 rfl) Via.refl eh17 F_heap_a (hb hby d13_60) (pc' := 63) rfl ?_
    intro T18 X18 e18
    show G (T18.setTop (mkF m 63 #[.val (.ref a), .val (.int 0), .val (.int (q.1 (0 : Int32))), .val (.int 1)] [(.ref hp), (.ref a)]))
    refine g_iloadN hG X18 hx (hb hby d13_63) (pc' := 64) rfl rfl ?_
    show G (T18.setTop (mkF m 64 #[.val (.ref a), .val (.int 0), .val (.int (q.1 (0 : Int32))), .val (.int 1)] [(.int 1), (.ref hp), (.ref a)]))
    refine g_iaload hG X18 hx hZ e18 V_hp (j := (1 : Int32)) (v := (.int (q.1 (1 : Int32)))) (in4_nn in4_1) (in4_at in4_1 rfl) (hb hby d13_64) (pc' := 65) rfl ?_
    show G (T18.setTop (mkF m 65 #[.val (.ref a), .val (.int 0), .val (.int (q.1 (0 : Int32))), .val (.int 1)] [(.int (q.1 (1 : Int32))), (.ref a)]))
    refine g_iloadN hG X18 hx (hb hby d13_65) (pc' := 66) rfl rfl ?_
    show G (T18.setTop (mkF m 66 #[.val (.ref a), .val (.int 0), .val (.int (q.1 (0 : Int32))), .val (.int 1)] [(.int (q.1 (0 : Int32))), (.int (q.1 (1 : Int32))), (.ref a)]))
    by_cases g66_19 : bt (q.1 (1 : Int32)) (q.1 (0 : Int32)) = true
    · have _hh := g66_19
      refine g_callP hG X18 hx hZ (y := (⟨"com/example/tributary/tributary/plan/NodeHeap", "before", "(II)Z"⟩ : MethodName)) 0 hown (wd hw 37 rfl) (wd hw 38 rfl) (wd hw 3 rfl) (wd hw 39 rfl) (wd hw 4 rfl) (wd hw 40 rfl) (by decide) (rmBe l Z a0 hw [] a hp pp ky (3 : Int32) q K (q.1 (1 : Int32)) (q.1 (0 : Int32)) (1 : Int32) h0 n0 Zs ⟨Ex_a, F_heap_a, F_position_a, F_key_a, F_size_a, V_hp, V_pp, V_ky⟩ ⟨ga, ghp, gpp, gky, d1, d2, d3, d4, d5, d6⟩ (show In4 (q.1 (1 : Int32)) from ii 1 (by decide)) (show In4 (q.1 (0 : Int32)) from ii 0 (by decide)) ((hbb 1 0 (by decide) (by decide)).1 g66_19)) (by decide) (by decide) (by rw [hml]; rfl) pd_2 rfl (argsL := [(.int (q.1 (1 : Int32))), (.int (q.1 (0 : Int32)))]) (rest := []) rfl rfl (Nat.le_of_eq rfl) (hb hby d13_66) e18 Ex_a (by decide) (by decide) (pc' := 69) rfl ?_
      intro T20 rv20 L20 X20 hQ20
      obtain ⟨rfl, Nq20, eh20⟩ := hQ20
      have NF20 := Fr.app NF17 Nq20
      show G (T20.setTop (mkF m 69 #[.val (.ref a), .val (.int 0), .val (.int (q.1 (0 : Int32))), .val (.int 1)] [(.int 1)]))
      refine g_ifYes hG X20 hx (hb hby d13_69) (pc' := 75) (by decide) (by decide) (by decide) ?_
      show G (T20.setTop (mkF m 75 #[.val (.ref a), .val (.int 0), .val (.int (q.1 (0 : Int32))), .val (.int 1)] []))
      refine g_aloadN hG X20 hx (hb hby d13_75) (pc' := 76) rfl rfl rfl ?_
      show G (T20.setTop (mkF m 76 #[.val (.ref a), .val (.int 0), .val (.int (q.1 (0 : Int32))), .val (.int 1)] [(.ref a)]))
      refine g_aloadN hG X20 hx (hb hby d13_76) (pc' := 77) rfl rfl rfl ?_
      show G (T20.setTop (mkF m 77 #[.val (.ref a), .val (.int 0), .val (.int (q.1 (0 : Int32))), .val (.int 1)] [(.ref a), (.ref a)]))
      refine g_getF hG X20 hx hZ hown (wd hw 11 rfl) Via.refl eh20 F_heap_a (hb hby d13_77) (pc' := 80) rfl ?_
      intro T21 X21 e21
      show G (T21.setTop (mkF m 80 #[.val (.ref a), .val (.int 0), .val (.int (q.1 (0 : Int32))), .val (.int 1)] [(.ref hp), (.ref a)]))
      refine g_iloadN hG X21 hx (hb hby d13_80) (pc' := 81) rfl rfl ?_
      show G (T21.setTop (mkF m 81 #[.val (.ref a), .val (.int 0), .val (.int (q.1 (0 : Int32))), .val (.int 1)] [(.int 1), (.ref hp), (.ref a)]))
      refine g_iaload hG X21 hx hZ e21 V_hp (j := (1 : Int32)) (v := (.int (q.1 (1 : Int32)))) (in4_nn in4_1) (in4_at in4_1 rfl) (hb hby d13_81) (pc' := 82) rfl ?_
      show G (T21.setTop (mkF m 82 #[.val (.ref a), .val (.int 0), .val (.int (q.1 (0 : Int32))), .val (.int 1)] [(.int (q.1 (1 : Int32))), (.ref a)]))
      refine g_iloadN hG X21 hx (hb hby d13_82) (pc' := 83) rfl rfl ?_
      show G (T21.setTop (mkF m 83 #[.val (.ref a), .val (.int 0), .val (.int (q.1 (0 : Int32))), .val (.int 1)] [(.int 0), (.int (q.1 (1 : Int32))), (.ref a)]))
      refine g_callP hG X21 hx hZ (y := (⟨"com/example/tributary/tributary/plan/NodeHeap", "place", "(II)V"⟩ : MethodName)) 0 hown (wd hw 33 rfl) (wd hw 34 rfl) (wd hw 3 rfl) (wd hw 35 rfl) (wd hw 4 rfl) (wd hw 36 rfl) (by decide) (rmPl l Z a0 hw [] a hp pp ky (3 : Int32) q K (q.1 (1 : Int32)) (0 : Int32) h0 n0 Zs ⟨Ex_a, F_heap_a, F_position_a, F_key_a, F_size_a, V_hp, V_pp, V_ky⟩ ⟨ga, ghp, gpp, gky, d1, d2, d3, d4, d5, d6⟩ (show In4 (q.1 (1 : Int32)) from ii 1 (by decide)) in4_0) (by decide) (by decide) (by rw [hml]; rfl) pd_1 rfl (argsL := [(.int (q.1 (1 : Int32))), (.int 0)]) (rest := []) rfl rfl (Nat.le_of_eq rfl) (hb hby d13_83) e21 Ex_a (by decide) (by decide) (pc' := 86) rfl ?_
      intro T22 rv22 L22 X22 hQ22
      obtain ⟨rfl, Nq22, Kq22, Ex_a, F_heap_a, F_position_a, F_key_a, F_size_a, V_hp, V_pp, V_ky⟩ := hQ22
      have NF22 := Fr.app NF20 Nq22
      have Zs := Nat.le_trans Zs Kq22.1
      have K22 := K0.trans Kq22 (allS (Or.inl (List.mem_of_getElem? (i := 0) rfl)) (allS (Or.inl (List.mem_of_getElem? (i := 1) rfl)) (allS (Or.inl (List.mem_of_getElem? (i := 2) rfl)) (allS (Or.inl (List.mem_of_getElem? (i := 3) rfl)) all0))))
      show G (T22.setTop (mkF m 86 #[.val (.ref a), .val (.int 0), .val (.int (q.1 (0 : Int32))), .val (.int 1)] []))
      refine g_iloadN hG X22 hx (hb hby d13_86) (pc' := 87) rfl rfl ?_
      show G (T22.setTop (mkF m 87 #[.val (.ref a), .val (.int 0), .val (.int (q.1 (0 : Int32))), .val (.int 1)] [(.int 1)]))
      refine g_istoreN hG X22 hx (hb hby d13_87) (pc' := 88) rfl (Ls' := #[.val (.ref a), .val (.int 1), .val (.int (q.1 (0 : Int32))), .val (.int 1)]) rfl ?_
      show G (T22.setTop (mkF m 88 #[.val (.ref a), .val (.int 1), .val (.int (q.1 (0 : Int32))), .val (.int 1)] []))
      refine g_goto hG X22 hx (hb hby d13_88) (pc' := 7) (by decide) (by decide) ?_
      show G (T22.setTop (mkF m 7 #[.val (.ref a), .val (.int 1), .val (.int (q.1 (0 : Int32))), .val (.int 1)] []))
      refine g_iconst hG X22 hx (hb hby d13_7) (pc' := 8) rfl (v := (2 : Int32)) rfl ?_
      show G (T22.setTop (mkF m 8 #[.val (.ref a), .val (.int 1), .val (.int (q.1 (0 : Int32))), .val (.int 1)] [(.int 2)]))
      refine g_iloadN hG X22 hx (hb hby d13_8) (pc' := 9) rfl rfl ?_
      show G (T22.setTop (mkF m 9 #[.val (.ref a), .val (.int 1), .val (.int (q.1 (0 : Int32))), .val (.int 1)] [(.int 1), (.int 2)]))
      refine g_imul hG X22 hx (hb hby d13_9) (pc' := 10) rfl (v := (2 : Int32)) (by decide) ?_
      show G (T22.setTop (mkF m 10 #[.val (.ref a), .val (.int 1), .val (.int (q.1 (0 : Int32))), .val (.int 1)] [(.int 2)]))
      refine g_iconst hG X22 hx (hb hby d13_10) (pc' := 11) rfl (v := (1 : Int32)) rfl ?_
      show G (T22.setTop (mkF m 11 #[.val (.ref a), .val (.int 1), .val (.int (q.1 (0 : Int32))), .val (.int 1)] [(.int 1), (.int 2)]))
      refine g_iadd hG X22 hx (hb hby d13_11) (pc' := 12) rfl (v := (3 : Int32)) (by decide) ?_
      show G (T22.setTop (mkF m 12 #[.val (.ref a), .val (.int 1), .val (.int (q.1 (0 : Int32))), .val (.int 1)] [(.int 3)]))
      refine g_istoreN hG X22 hx (hb hby d13_12) (pc' := 13) rfl (Ls' := #[.val (.ref a), .val (.int 1), .val (.int (q.1 (0 : Int32))), .val (.int 3)]) rfl ?_
      show G (T22.setTop (mkF m 13 #[.val (.ref a), .val (.int 1), .val (.int (q.1 (0 : Int32))), .val (.int 3)] []))
      refine g_iloadN hG X22 hx (hb hby d13_13) (pc' := 14) rfl rfl ?_
      show G (T22.setTop (mkF m 14 #[.val (.ref a), .val (.int 1), .val (.int (q.1 (0 : Int32))), .val (.int 3)] [(.int 3)]))
      refine g_aloadN hG X22 hx (hb hby d13_14) (pc' := 15) rfl rfl rfl ?_
      show G (T22.setTop (mkF m 15 #[.val (.ref a), .val (.int 1), .val (.int (q.1 (0 : Int32))), .val (.int 3)] [(.ref a), (.int 3)]))
      refine g_getF hG X22 hx hZ hown (wd hw 27 rfl) Via.refl rfl F_size_a (hb hby d13_15) (pc' := 18) rfl ?_
      intro T23 X23 e23
      show G (T23.setTop (mkF m 18 #[.val (.ref a), .val (.int 1), .val (.int (q.1 (0 : Int32))), .val (.int 3)] [(.int 3), (.int 3)]))
      refine g_icmpNo hG X23 hx (hb hby d13_18) (pc' := 21) (by decide) rfl ?_
      show G (T23.setTop (mkF m 21 #[.val (.ref a), .val (.int 1), .val (.int (q.1 (0 : Int32))), .val (.int 3)] []))
      refine g_goto hG X23 hx (hb hby d13_21) (pc' := 91) (by decide) (by decide) ?_
      show G (T23.setTop (mkF m 91 #[.val (.ref a), .val (.int 1), .val (.int (q.1 (0 : Int32))), .val (.int 3)] []))
      refine g_aloadN hG X23 hx (hb hby d13_91) (pc' := 92) rfl rfl rfl ?_
      show G (T23.setTop (mkF m 92 #[.val (.ref a), .val (.int 1), .val (.int (q.1 (0 : Int32))), .val (.int 3)] [(.ref a)]))
      refine g_iloadN hG X23 hx (hb hby d13_92) (pc' := 93) rfl rfl ?_
      show G (T23.setTop (mkF m 93 #[.val (.ref a), .val (.int 1), .val (.int (q.1 (0 : Int32))), .val (.int 3)] [(.int (q.1 (0 : Int32))), (.ref a)]))
      refine g_iloadN hG X23 hx (hb hby d13_93) (pc' := 94) rfl rfl ?_
      show G (T23.setTop (mkF m 94 #[.val (.ref a), .val (.int 1), .val (.int (q.1 (0 : Int32))), .val (.int 3)] [(.int 1), (.int (q.1 (0 : Int32))), (.ref a)]))
      refine g_callP hG X23 hx hZ (y := (⟨"com/example/tributary/tributary/plan/NodeHeap", "place", "(II)V"⟩ : MethodName)) 0 hown (wd hw 33 rfl) (wd hw 34 rfl) (wd hw 3 rfl) (wd hw 35 rfl) (wd hw 4 rfl) (wd hw 36 rfl) (by decide) (rmPl l Z a0 hw [] a hp pp ky (3 : Int32) (pl q (q.1 (1 : Int32)) (0 : Int32)) K (q.1 (0 : Int32)) (1 : Int32) T22.heap n0 Zs ⟨Ex_a, F_heap_a, F_position_a, F_key_a, F_size_a, V_hp, V_pp, V_ky⟩ ⟨ga, ghp, gpp, gky, d1, d2, d3, d4, d5, d6⟩ (show In4 (q.1 (0 : Int32)) from ii 0 (by decide)) in4_1) (by decide) (by decide) (by rw [hml]; rfl) pd_1 rfl (argsL := [(.int (q.1 (0 : Int32))), (.int 1)]) (rest := []) rfl rfl (Nat.le_of_eq rfl) (hb hby d13_94) e23 Ex_a (by decide) (by decide) (pc' := 97) rfl ?_
      intro T24 rv24 L24 X24 hQ24
      obtain ⟨rfl, Nq24, Kq24, Ex_a, F_heap_a, F_position_a, F_key_a, F_size_a, V_hp, V_pp, V_ky⟩ := hQ24
      have NF24 := Fr.app NF22 Nq24
      have Zs := Nat.le_trans Zs Kq24.1
      have K24 := K22.trans Kq24 (allS (Or.inl (List.mem_of_getElem? (i := 0) rfl)) (allS (Or.inl (List.mem_of_getElem? (i := 1) rfl)) (allS (Or.inl (List.mem_of_getElem? (i := 2) rfl)) (allS (Or.inl (List.mem_of_getElem? (i := 3) rfl)) all0))))
      show G (T24.setTop (mkF m 97 #[.val (.ref a), .val (.int 1), .val (.int (q.1 (0 : Int32))), .val (.int 3)] []))
      exact e_ret0 hGe X24 hx hrt hlk (hb hby d13_97) rfl (by decide) (by decide) (⟨rfl, NF24, K24, (by
              have e : sk3 bt q = (pl (pl q (q.1 (1 : Int32)) (0 : Int32)) (q.1 (0 : Int32)) (1 : Int32)) := by
                unfold sk3
                rw [if_neg g49_6, if_pos g66_19]
              rw [e]
              exact ⟨Ex_a, F_heap_a, F_position_a, F_key_a, F_size_a, V_hp, V_pp, V_ky⟩)⟩)
    · have _hh := g66_19
      refine g_callP hG X18 hx hZ (y := (⟨"com/example/tributary/tributary/plan/NodeHeap", "before", "(II)Z"⟩ : MethodName)) 0 hown (wd hw 37 rfl) (wd hw 38 rfl) (wd hw 3 rfl) (wd hw 39 rfl) (wd hw 4 rfl) (wd hw 40 rfl) (by decide) (rmBe l Z a0 hw [] a hp pp ky (3 : Int32) q K (q.1 (1 : Int32)) (q.1 (0 : Int32)) (0 : Int32) h0 n0 Zs ⟨Ex_a, F_heap_a, F_position_a, F_key_a, F_size_a, V_hp, V_pp, V_ky⟩ ⟨ga, ghp, gpp, gky, d1, d2, d3, d4, d5, d6⟩ (show In4 (q.1 (1 : Int32)) from ii 1 (by decide)) (show In4 (q.1 (0 : Int32)) from ii 0 (by decide)) ((hbb 1 0 (by decide) (by decide)).2 g66_19)) (by decide) (by decide) (by rw [hml]; rfl) pd_2 rfl (argsL := [(.int (q.1 (1 : Int32))), (.int (q.1 (0 : Int32)))]) (rest := []) rfl rfl (Nat.le_of_eq rfl) (hb hby d13_66) e18 Ex_a (by decide) (by decide) (pc' := 69) rfl ?_
      intro T25 rv25 L25 X25 hQ25
      obtain ⟨rfl, Nq25, eh25⟩ := hQ25
      have NF25 := Fr.app NF17 Nq25
      show G (T25.setTop (mkF m 69 #[.val (.ref a), .val (.int 0), .val (.int (q.1 (0 : Int32))), .val (.int 1)] [(.int 0)]))
      refine g_ifNo hG X25 hx (hb hby d13_69) (pc' := 72) (by decide) rfl ?_
      show G (T25.setTop (mkF m 72 #[.val (.ref a), .val (.int 0), .val (.int (q.1 (0 : Int32))), .val (.int 1)] []))
      refine g_goto hG X25 hx (hb hby d13_72) (pc' := 91) (by decide) (by decide) ?_
      show G (T25.setTop (mkF m 91 #[.val (.ref a), .val (.int 0), .val (.int (q.1 (0 : Int32))), .val (.int 1)] []))
      refine g_aloadN hG X25 hx (hb hby d13_91) (pc' := 92) rfl rfl rfl ?_
      show G (T25.setTop (mkF m 92 #[.val (.ref a), .val (.int 0), .val (.int (q.1 (0 : Int32))), .val (.int 1)] [(.ref a)]))
      refine g_iloadN hG X25 hx (hb hby d13_92) (pc' := 93) rfl rfl ?_
      show G (T25.setTop (mkF m 93 #[.val (.ref a), .val (.int 0), .val (.int (q.1 (0 : Int32))), .val (.int 1)] [(.int (q.1 (0 : Int32))), (.ref a)]))
      refine g_iloadN hG X25 hx (hb hby d13_93) (pc' := 94) rfl rfl ?_
      show G (T25.setTop (mkF m 94 #[.val (.ref a), .val (.int 0), .val (.int (q.1 (0 : Int32))), .val (.int 1)] [(.int 0), (.int (q.1 (0 : Int32))), (.ref a)]))
      refine g_callP hG X25 hx hZ (y := (⟨"com/example/tributary/tributary/plan/NodeHeap", "place", "(II)V"⟩ : MethodName)) 0 hown (wd hw 33 rfl) (wd hw 34 rfl) (wd hw 3 rfl) (wd hw 35 rfl) (wd hw 4 rfl) (wd hw 36 rfl) (by decide) (rmPl l Z a0 hw [] a hp pp ky (3 : Int32) q K (q.1 (0 : Int32)) (0 : Int32) h0 n0 Zs ⟨Ex_a, F_heap_a, F_position_a, F_key_a, F_size_a, V_hp, V_pp, V_ky⟩ ⟨ga, ghp, gpp, gky, d1, d2, d3, d4, d5, d6⟩ (show In4 (q.1 (0 : Int32)) from ii 0 (by decide)) in4_0) (by decide) (by decide) (by rw [hml]; rfl) pd_1 rfl (argsL := [(.int (q.1 (0 : Int32))), (.int 0)]) (rest := []) rfl rfl (Nat.le_of_eq rfl) (hb hby d13_94) eh25 Ex_a (by decide) (by decide) (pc' := 97) rfl ?_
      intro T26 rv26 L26 X26 hQ26
      obtain ⟨rfl, Nq26, Kq26, Ex_a, F_heap_a, F_position_a, F_key_a, F_size_a, V_hp, V_pp, V_ky⟩ := hQ26
      have NF26 := Fr.app NF25 Nq26
      have Zs := Nat.le_trans Zs Kq26.1
      have K26 := K0.trans Kq26 (allS (Or.inl (List.mem_of_getElem? (i := 0) rfl)) (allS (Or.inl (List.mem_of_getElem? (i := 1) rfl)) (allS (Or.inl (List.mem_of_getElem? (i := 2) rfl)) (allS (Or.inl (List.mem_of_getElem? (i := 3) rfl)) all0))))
      show G (T26.setTop (mkF m 97 #[.val (.ref a), .val (.int 0), .val (.int (q.1 (0 : Int32))), .val (.int 1)] []))
      exact e_ret0 hGe X26 hx hrt hlk (hb hby d13_97) rfl (by decide) (by decide) (⟨rfl, NF26, K26, (by
              have e : sk3 bt q = (pl q (q.1 (0 : Int32)) (0 : Int32)) := by
                unfold sk3
                rw [if_neg g49_6, if_neg g66_19]
              rw [e]
              exact ⟨Ex_a, F_heap_a, F_position_a, F_key_a, F_size_a, V_hp, V_pp, V_ky⟩)⟩)

def Q_rmOf0 (Z : State) (a hp pp ky : Addr) (q : HP) (K : Int32 → UInt64) (bt : Int32 → Int32 → Bool) (x : Int32) (kk : UInt64) (h0 : Heap) (n0 : Nat) (v : Option Value) (h : Heap) (L : List Loc) : Prop := v = none ∧ Fr n0 L ∧ Keep h0 h [a, hp, pp, ky] ∧ NH Z h a hp pp ky (1 : Int32) (rs0 bt (on (0 : Int32) q x)) (upd K x kk)
set_option maxRecDepth 65536 in
set_option maxHeartbeats 40000000 in
theorem rmOf0 (l : Launch) (Z : State) (a0 : Array Value) (hw : ∀ d ∈ tables_1, d.before a0 Z = true) (ws : List Jvm.Cond) (a hp pp ky : Addr) (q : HP) (K : Int32 → UInt64) (bt : Int32 → Int32 → Bool) (x : Int32) (kk : UInt64) (h0 : Heap) (n0 : Nat) (Zs : n0 ≤ h0.size) (NQ : NH Z h0 a hp pp ky (0 : Int32) q K) (DD : Dis n0 a hp pp ky) (ix : In4 x) (hP : q.2 x = -1) (ii : I4 1 (on (0 : Int32) q x)) (hbb : HB 0 (upd K x kk) bt (on (0 : Int32) q x)) :
    Con l (⟨"com/example/tributary/tributary/plan/NodeHeap", "offer", "(ID)V"⟩ : MethodName) prog_39_method_3_code 5 none ws ({ frames := 2, cells := 0, slots := 0, locals := 56 } : Room) Z #[(.ref a), (.int x), (.double kk)] h0 ({ frames := 2, cells := 0, slots := 0, locals := 56 } : Room).cells ({ frames := 2, cells := 0, slots := 0, locals := 56 } : Room).slots (Q_rmOf0 Z a hp pp ky q K bt x kk h0 n0) := by
  refine Con.of (Ls := #[.val (.ref a), .val (.int x), .val (.double kk), .second, .unset]) (plainFor_of_name (by first | (simp [plainName, overriddenIn]; done) | decide +kernel)) (fun m => by first | (simp [entryFrame, mkF, argsToLocals, Value.category]; done) | rfl) ?_
  intro p e s m below meth c s₁ G hGe hG hx hby hml hown hnm hrt hlk hZ X0 e0
  have hown : s.vm.findClass "com/example/tributary/tributary/plan/NodeHeap" = some m.cls := hown
  have hnm : meth.name = "offer" := hnm
  have NF0 := Fr.nil n0
  obtain ⟨Ex_a, F_heap_a, F_position_a, F_key_a, F_size_a, V_hp, V_pp, V_ky⟩ := NQ
  obtain ⟨ga, ghp, gpp, gky, d1, d2, d3, d4, d5, d6⟩ := DD
  have K0 := Keep.refl h0 [a, hp, pp, ky]
  refine g_aloadN hG X0 hx (hb hby d4_0) (pc' := 1) rfl rfl rfl ?_
  show G (s₁.setTop (mkF m 1 #[.val (.ref a), .val (.int x), .val (.double kk), .second, .unset] [(.ref a)]))
  refine g_getF hG X0 hx hZ hown (wd hw 13 rfl) Via.refl e0 F_position_a (hb hby d4_1) (pc' := 4) rfl ?_
  intro T1 X1 e1
  show G (T1.setTop (mkF m 4 #[.val (.ref a), .val (.int x), .val (.double kk), .second, .unset] [(.ref pp)]))
  refine g_iloadN hG X1 hx (hb hby d4_4) (pc' := 5) rfl rfl ?_
  show G (T1.setTop (mkF m 5 #[.val (.ref a), .val (.int x), .val (.double kk), .second, .unset] [(.int x), (.ref pp)]))
  refine g_iaload hG X1 hx hZ e1 V_pp (j := x) (v := (.int (-1))) (in4_nn ix) (in4_at ix hP) (hb hby d4_5) (pc' := 6) rfl ?_
  show G (T1.setTop (mkF m 6 #[.val (.ref a), .val (.int x), .val (.double kk), .second, .unset] [(.int (-1))]))
  refine g_istore hG X1 hx (hb hby d4_6) (pc' := 8) rfl (Ls' := #[.val (.ref a), .val (.int x), .val (.double kk), .second, .val (.int (-1))]) rfl ?_
  show G (T1.setTop (mkF m 8 #[.val (.ref a), .val (.int x), .val (.double kk), .second, .val (.int (-1))] []))
  refine g_iload hG X1 hx (hb hby d4_8) (pc' := 10) rfl rfl ?_
  show G (T1.setTop (mkF m 10 #[.val (.ref a), .val (.int x), .val (.double kk), .second, .val (.int (-1))] [(.int (-1))]))
  refine g_ifNo hG X1 hx (hb hby d4_10) (pc' := 13) (by decide) rfl ?_
  show G (T1.setTop (mkF m 13 #[.val (.ref a), .val (.int x), .val (.double kk), .second, .val (.int (-1))] []))
  refine g_aloadN hG X1 hx (hb hby d4_13) (pc' := 14) rfl rfl rfl ?_
  show G (T1.setTop (mkF m 14 #[.val (.ref a), .val (.int x), .val (.double kk), .second, .val (.int (-1))] [(.ref a)]))
  refine g_dup hG X1 hx (hb hby d4_14) (pc' := 15) rfl rfl ?_
  show G (T1.setTop (mkF m 15 #[.val (.ref a), .val (.int x), .val (.double kk), .second, .val (.int (-1))] [(.ref a), (.ref a)]))
  refine g_getF hG X1 hx hZ hown (wd hw 27 rfl) Via.refl e1 F_size_a (hb hby d4_15) (pc' := 18) rfl ?_
  intro T2 X2 e2
  show G (T2.setTop (mkF m 18 #[.val (.ref a), .val (.int x), .val (.double kk), .second, .val (.int (-1))] [(.int 0), (.ref a)]))
  refine g_dupX1 hG X2 hx (hb hby d4_18) (pc' := 19) rfl rfl rfl ?_
  show G (T2.setTop (mkF m 19 #[.val (.ref a), .val (.int x), .val (.double kk), .second, .val (.int (-1))] [(.int 0), (.ref a), (.int 0)]))
  refine g_iconst hG X2 hx (hb hby d4_19) (pc' := 20) rfl (v := (1 : Int32)) rfl ?_
  show G (T2.setTop (mkF m 20 #[.val (.ref a), .val (.int x), .val (.double kk), .second, .val (.int (-1))] [(.int 1), (.int 0), (.ref a), (.int 0)]))
  refine g_iadd hG X2 hx (hb hby d4_20) (pc' := 21) rfl (v := (1 : Int32)) (by decide) ?_
  show G (T2.setTop (mkF m 21 #[.val (.ref a), .val (.int x), .val (.double kk), .second, .val (.int (-1))] [(.int 1), (.ref a), (.int 0)]))
  refine g_putF hG X2 hx hZ hown (wd hw 27 rfl) Via.refl e2 F_size_a Ex_a (Or.inl (wd hw 28 rfl)) (wd hw 3 rfl) (v' := (.int 1)) (ty := .int) (by decide) rfl rfl (hb hby d4_21) (pc' := 24) rfl ?_
  intro T3 h3 X3 e3 W3
  have Ex_a := Ex_a.wr W3
  have F_heap_a := F_heap_a.other W3 (Or.inr (slot_ne (Or.inr (wd hw 12 rfl)) (Or.inl (wd hw 28 rfl)) (by decide) (t := (.array .int)) (t' := .int) (by decide) (by decide)))
  have F_position_a := F_position_a.other W3 (Or.inr (slot_ne (Or.inr (wd hw 14 rfl)) (Or.inl (wd hw 28 rfl)) (by decide) (t := (.array .int)) (t' := .int) (by decide) (by decide)))
  have F_key_a := F_key_a.other W3 (Or.inr (slot_ne (Or.inr (wd hw 17 rfl)) (Or.inl (wd hw 28 rfl)) (by decide) (t := (.array .double)) (t' := .int) (by decide) (by decide)))
  have F_size_a := F_size_a.same W3
  have V_hp := V_hp.other W3 (Ne.symm d1)
  have V_pp := V_pp.other W3 (Ne.symm d2)
  have V_ky := V_ky.other W3 (Ne.symm d3)
  have Zs := Nat.le_trans Zs (Wr.size W3)
  have NF3 := Fr.snoc X3 NF0 ga
  have K3 := K0.wr W3 (Or.inl (List.mem_of_getElem? (i := 0) rfl))
  show G (T3.setTop (mkF m 24 #[.val (.ref a), .val (.int x), .val (.double kk), .second, .val (.int (-1))] [(.int 0)]))
  refine g_istore hG X3 hx (hb hby d4_24) (pc' := 26) rfl (Ls' := #[.val (.ref a), .val (.int x), .val (.double kk), .second, .val (.int 0)]) rfl ?_
  show G (T3.setTop (mkF m 26 #[.val (.ref a), .val (.int x), .val (.double kk), .second, .val (.int 0)] []))
  refine g_aloadN hG X3 hx (hb hby d4_26) (pc' := 27) rfl rfl rfl ?_
  show G (T3.setTop (mkF m 27 #[.val (.ref a), .val (.int x), .val (.double kk), .second, .val (.int 0)] [(.ref a)]))
  refine g_getF hG X3 hx hZ hown (wd hw 11 rfl) Via.refl e3 F_heap_a (hb hby d4_27) (pc' := 30) rfl ?_
  intro T4 X4 e4
  show G (T4.setTop (mkF m 30 #[.val (.ref a), .val (.int x), .val (.double kk), .second, .val (.int 0)] [(.ref hp)]))
  refine g_iload hG X4 hx (hb hby d4_30) (pc' := 32) rfl rfl ?_
  show G (T4.setTop (mkF m 32 #[.val (.ref a), .val (.int x), .val (.double kk), .second, .val (.int 0)] [(.int 0), (.ref hp)]))
  refine g_iloadN hG X4 hx (hb hby d4_32) (pc' := 33) rfl rfl ?_
  show G (T4.setTop (mkF m 33 #[.val (.ref a), .val (.int x), .val (.double kk), .second, .val (.int 0)] [(.int x), (.int 0), (.ref hp)]))
  refine g_iastore hG X4 hx hZ e4 V_hp (j := (0 : Int32)) (in4_nn in4_0) (in4_len in4_0) (hb hby d4_33) (pc' := 34) rfl ?_
  intro T5 h5 X5 e5 W5 Vn5
  rw [in4_set in4_0] at Vn5
  have V_hp : AV Z h5 hp .int (4 : Int32) (fn4 (upd q.1 (0 : Int32) x)) := Vn5
  have Ex_a := Ex_a.wr W5
  have F_heap_a := F_heap_a.other W5 (Or.inl d1)
  have F_position_a := F_position_a.other W5 (Or.inl d1)
  have F_key_a := F_key_a.other W5 (Or.inl d1)
  have F_size_a := F_size_a.other W5 (Or.inl d1)
  have V_pp := V_pp.other W5 (Ne.symm d4)
  have V_ky := V_ky.other W5 (Ne.symm d5)
  have Zs := Nat.le_trans Zs (Wr.size W5)
  have NF5 := Fr.snoc X5 NF3 ghp
  have K5 := K3.wr W5 (Or.inl (List.mem_of_getElem? (i := 1) rfl))
  show G (T5.setTop (mkF m 34 #[.val (.ref a), .val (.int x), .val (.double kk), .second, .val (.int 0)] []))
  refine g_aloadN hG X5 hx (hb hby d4_34) (pc' := 35) rfl rfl rfl ?_
  show G (T5.setTop (mkF m 35 #[.val (.ref a), .val (.int x), .val (.double kk), .second, .val (.int 0)] [(.ref a)]))
  refine g_getF hG X5 hx hZ hown (wd hw 13 rfl) Via.refl e5 F_position_a (hb hby d4_35) (pc' := 38) rfl ?_
  intro T6 X6 e6
  show G (T6.setTop (mkF m 38 #[.val (.ref a), .val (.int x), .val (.double kk), .second, .val (.int 0)] [(.ref pp)]))
  refine g_iloadN hG X6 hx (hb hby d4_38) (pc' := 39) rfl rfl ?_
  show G (T6.setTop (mkF m 39 #[.val (.ref a), .val (.int x), .val (.double kk), .second, .val (.int 0)] [(.int x), (.ref pp)]))
  refine g_iload hG X6 hx (hb hby d4_39) (pc' := 41) rfl rfl ?_
  show G (T6.setTop (mkF m 41 #[.val (.ref a), .val (.int x), .val (.double kk), .second, .val (.int 0)] [(.int 0), (.int x), (.ref pp)]))
  refine g_iastore hG X6 hx hZ e6 V_pp (j := x) (in4_nn ix) (in4_len ix) (hb hby d4_41) (pc' := 42) rfl ?_
  intro T7 h7 X7 e7 W7 Vn7
  rw [in4_set ix] at Vn7
  have V_pp : AV Z h7 pp .int (4 : Int32) (fn4 (upd q.2 x (0 : Int32))) := Vn7
  have Ex_a := Ex_a.wr W7
  have F_heap_a := F_heap_a.other W7 (Or.inl d2)
  have F_position_a := F_position_a.other W7 (Or.inl d2)
  have F_key_a := F_key_a.other W7 (Or.inl d2)
  have F_size_a := F_size_a.other W7 (Or.inl d2)
  have V_hp := V_hp.other W7 d4
  have V_ky := V_ky.other W7 (Ne.symm d6)
  have Zs := Nat.le_trans Zs (Wr.size W7)
  have NF7 := Fr.snoc X7 NF5 gpp
  have K7 := K5.wr W7 (Or.inl (List.mem_of_getElem? (i := 2) rfl))
  show G (T7.setTop (mkF m 42 #[.val (.ref a), .val (.int x), .val (.double kk), .second, .val (.int 0)] []))
  refine g_goto hG X7 hx (hb hby d4_42) (pc' := 57) (by decide) (by decide) ?_
  show G (T7.setTop (mkF m 57 #[.val (.ref a), .val (.int x), .val (.double kk), .second, .val (.int 0)] []))
  refine g_aloadN hG X7 hx (hb hby d4_57) (pc' := 58) rfl rfl rfl ?_
  show G (T7.setTop (mkF m 58 #[.val (.ref a), .val (.int x), .val (.double kk), .second, .val (.int 0)] [(.ref a)]))
  refine g_getF hG X7 hx hZ hown (wd hw 16 rfl) Via.refl e7 F_key_a (hb hby d4_58) (pc' := 61) rfl ?_
  intro T8 X8 e8
  show G (T8.setTop (mkF m 61 #[.val (.ref a), .val (.int x), .val (.double kk), .second, .val (.int 0)] [(.ref ky)]))
  refine g_iloadN hG X8 hx (hb hby d4_61) (pc' := 62) rfl rfl ?_
  show G (T8.setTop (mkF m 62 #[.val (.ref a), .val (.int x), .val (.double kk), .second, .val (.int 0)] [(.int x), (.ref ky)]))
  refine g_dloadN hG X8 hx (hb hby d4_62) (pc' := 63) rfl rfl ?_
  show G (T8.setTop (mkF m 63 #[.val (.ref a), .val (.int x), .val (.double kk), .second, .val (.int 0)] [(.double kk), (.int x), (.ref ky)]))
  refine g_dastore hG X8 hx hZ e8 V_ky (j := x) (in4_nn ix) (in4_lend ix) (hb hby d4_63) (pc' := 64) rfl ?_
  intro T9 h9 X9 e9 W9 Vn9
  rw [in4_setd ix] at Vn9
  have V_ky : AV Z h9 ky .double (4 : Int32) (fd4 (upd K x kk)) := Vn9
  have Ex_a := Ex_a.wr W9
  have F_heap_a := F_heap_a.other W9 (Or.inl d3)
  have F_position_a := F_position_a.other W9 (Or.inl d3)
  have F_key_a := F_key_a.other W9 (Or.inl d3)
  have F_size_a := F_size_a.other W9 (Or.inl d3)
  have V_hp := V_hp.other W9 d5
  have V_pp := V_pp.other W9 d6
  have Zs := Nat.le_trans Zs (Wr.size W9)
  have NF9 := Fr.snoc X9 NF7 gky
  have K9 := K7.wr W9 (Or.inl (List.mem_of_getElem? (i := 3) rfl))
  show G (T9.setTop (mkF m 64 #[.val (.ref a), .val (.int x), .val (.double kk), .second, .val (.int 0)] []))
  refine g_aloadN hG X9 hx (hb hby d4_64) (pc' := 65) rfl rfl rfl ?_
  show G (T9.setTop (mkF m 65 #[.val (.ref a), .val (.int x), .val (.double kk), .second, .val (.int 0)] [(.ref a)]))
  refine g_iload hG X9 hx (hb hby d4_65) (pc' := 67) rfl rfl ?_
  show G (T9.setTop (mkF m 67 #[.val (.ref a), .val (.int x), .val (.double kk), .second, .val (.int 0)] [(.int 0), (.ref a)]))
  refine g_callP hG X9 hx hZ (y := (⟨"com/example/tributary/tributary/plan/NodeHeap", "rise", "(I)V"⟩ : MethodName)) 0 hown (wd hw 29 rfl) (wd hw 30 rfl) (wd hw 3 rfl) (wd hw 31 rfl) (wd hw 4 rfl) (wd hw 32 rfl) (by decide) (rmRs0 l Z a0 hw [] a hp pp ky (1 : Int32) (on (0 : Int32) q x) (upd K x kk) bt h9 n0 Zs ⟨Ex_a, F_heap_a, F_position_a, F_key_a, F_size_a, V_hp, V_pp, V_ky⟩ ⟨ga, ghp, gpp, gky, d1, d2, d3, d4, d5, d6⟩ ii hbb) (by decide) (by decide) (by rw [hml]; rfl) pd_3 rfl (argsL := [(.int 0)]) (rest := []) rfl rfl (Nat.le_of_eq rfl) (hb hby d4_67) e9 Ex_a (by decide) (by decide) (pc' := 70) rfl ?_
  intro T10 rv10 L10 X10 hQ10
  obtain ⟨rfl, Nq10, Kq10, Ex_a, F_heap_a, F_position_a, F_key_a, F_size_a, V_hp, V_pp, V_ky⟩ := hQ10
  have NF10 := Fr.app NF9 Nq10
  have Zs := Nat.le_trans Zs Kq10.1
  have K10 := K9.trans Kq10 (allS (Or.inl (List.mem_of_getElem? (i := 0) rfl)) (allS (Or.inl (List.mem_of_getElem? (i := 1) rfl)) (allS (Or.inl (List.mem_of_getElem? (i := 2) rfl)) (allS (Or.inl (List.mem_of_getElem? (i := 3) rfl)) all0))))
  show G (T10.setTop (mkF m 70 #[.val (.ref a), .val (.int x), .val (.double kk), .second, .val (.int 0)] []))
  exact e_ret0 hGe X10 hx hrt hlk (hb hby d4_70) rfl (by decide) (by decide) (⟨rfl, NF10, K10, Ex_a, F_heap_a, F_position_a, F_key_a, F_size_a, V_hp, V_pp, V_ky⟩)

def Q_rmOf1 (Z : State) (a hp pp ky : Addr) (q : HP) (K : Int32 → UInt64) (bt : Int32 → Int32 → Bool) (x : Int32) (kk : UInt64) (h0 : Heap) (n0 : Nat) (v : Option Value) (h : Heap) (L : List Loc) : Prop := v = none ∧ Fr n0 L ∧ Keep h0 h [a, hp, pp, ky] ∧ NH Z h a hp pp ky (2 : Int32) (rs1 bt (on (1 : Int32) q x)) (upd K x kk)
set_option maxRecDepth 65536 in
set_option maxHeartbeats 40000000 in
theorem rmOf1 (l : Launch) (Z : State) (a0 : Array Value) (hw : ∀ d ∈ tables_1, d.before a0 Z = true) (ws : List Jvm.Cond) (a hp pp ky : Addr) (q : HP) (K : Int32 → UInt64) (bt : Int32 → Int32 → Bool) (x : Int32) (kk : UInt64) (h0 : Heap) (n0 : Nat) (Zs : n0 ≤ h0.size) (NQ : NH Z h0 a hp pp ky (1 : Int32) q K) (DD : Dis n0 a hp pp ky) (ix : In4 x) (hP : q.2 x = -1) (ii : I4 2 (on (1 : Int32) q x)) (hbb : HB 2 (upd K x kk) bt (on (1 : Int32) q x)) :
    Con l (⟨"com/example/tributary/tributary/plan/NodeHeap", "offer", "(ID)V"⟩ : MethodName) prog_39_method_3_code 5 none ws ({ frames := 2, cells := 0, slots := 0, locals := 56 } : Room) Z #[(.ref a), (.int x), (.double kk)] h0 ({ frames := 2, cells := 0, slots := 0, locals := 56 } : Room).cells ({ frames := 2, cells := 0, slots := 0, locals := 56 } : Room).slots (Q_rmOf1 Z a hp pp ky q K bt x kk h0 n0) := by
  refine Con.of (Ls := #[.val (.ref a), .val (.int x), .val (.double kk), .second, .unset]) (plainFor_of_name (by first | (simp [plainName, overriddenIn]; done) | decide +kernel)) (fun m => by first | (simp [entryFrame, mkF, argsToLocals, Value.category]; done) | rfl) ?_
  intro p e s m below meth c s₁ G hGe hG hx hby hml hown hnm hrt hlk hZ X0 e0
  have hown : s.vm.findClass "com/example/tributary/tributary/plan/NodeHeap" = some m.cls := hown
  have hnm : meth.name = "offer" := hnm
  have NF0 := Fr.nil n0
  obtain ⟨Ex_a, F_heap_a, F_position_a, F_key_a, F_size_a, V_hp, V_pp, V_ky⟩ := NQ
  obtain ⟨ga, ghp, gpp, gky, d1, d2, d3, d4, d5, d6⟩ := DD
  have K0 := Keep.refl h0 [a, hp, pp, ky]
  refine g_aloadN hG X0 hx (hb hby d4_0) (pc' := 1) rfl rfl rfl ?_
  show G (s₁.setTop (mkF m 1 #[.val (.ref a), .val (.int x), .val (.double kk), .second, .unset] [(.ref a)]))
  refine g_getF hG X0 hx hZ hown (wd hw 13 rfl) Via.refl e0 F_position_a (hb hby d4_1) (pc' := 4) rfl ?_
  intro T1 X1 e1
  show G (T1.setTop (mkF m 4 #[.val (.ref a), .val (.int x), .val (.double kk), .second, .unset] [(.ref pp)]))
  refine g_iloadN hG X1 hx (hb hby d4_4) (pc' := 5) rfl rfl ?_
  show G (T1.setTop (mkF m 5 #[.val (.ref a), .val (.int x), .val (.double kk), .second, .unset] [(.int x), (.ref pp)]))
  refine g_iaload hG X1 hx hZ e1 V_pp (j := x) (v := (.int (-1))) (in4_nn ix) (in4_at ix hP) (hb hby d4_5) (pc' := 6) rfl ?_
  show G (T1.setTop (mkF m 6 #[.val (.ref a), .val (.int x), .val (.double kk), .second, .unset] [(.int (-1))]))
  refine g_istore hG X1 hx (hb hby d4_6) (pc' := 8) rfl (Ls' := #[.val (.ref a), .val (.int x), .val (.double kk), .second, .val (.int (-1))]) rfl ?_
  show G (T1.setTop (mkF m 8 #[.val (.ref a), .val (.int x), .val (.double kk), .second, .val (.int (-1))] []))
  refine g_iload hG X1 hx (hb hby d4_8) (pc' := 10) rfl rfl ?_
  show G (T1.setTop (mkF m 10 #[.val (.ref a), .val (.int x), .val (.double kk), .second, .val (.int (-1))] [(.int (-1))]))
  refine g_ifNo hG X1 hx (hb hby d4_10) (pc' := 13) (by decide) rfl ?_
  show G (T1.setTop (mkF m 13 #[.val (.ref a), .val (.int x), .val (.double kk), .second, .val (.int (-1))] []))
  refine g_aloadN hG X1 hx (hb hby d4_13) (pc' := 14) rfl rfl rfl ?_
  show G (T1.setTop (mkF m 14 #[.val (.ref a), .val (.int x), .val (.double kk), .second, .val (.int (-1))] [(.ref a)]))
  refine g_dup hG X1 hx (hb hby d4_14) (pc' := 15) rfl rfl ?_
  show G (T1.setTop (mkF m 15 #[.val (.ref a), .val (.int x), .val (.double kk), .second, .val (.int (-1))] [(.ref a), (.ref a)]))
  refine g_getF hG X1 hx hZ hown (wd hw 27 rfl) Via.refl e1 F_size_a (hb hby d4_15) (pc' := 18) rfl ?_
  intro T2 X2 e2
  show G (T2.setTop (mkF m 18 #[.val (.ref a), .val (.int x), .val (.double kk), .second, .val (.int (-1))] [(.int 1), (.ref a)]))
  refine g_dupX1 hG X2 hx (hb hby d4_18) (pc' := 19) rfl rfl rfl ?_
  show G (T2.setTop (mkF m 19 #[.val (.ref a), .val (.int x), .val (.double kk), .second, .val (.int (-1))] [(.int 1), (.ref a), (.int 1)]))
  refine g_iconst hG X2 hx (hb hby d4_19) (pc' := 20) rfl (v := (1 : Int32)) rfl ?_
  show G (T2.setTop (mkF m 20 #[.val (.ref a), .val (.int x), .val (.double kk), .second, .val (.int (-1))] [(.int 1), (.int 1), (.ref a), (.int 1)]))
  refine g_iadd hG X2 hx (hb hby d4_20) (pc' := 21) rfl (v := (2 : Int32)) (by decide) ?_
  show G (T2.setTop (mkF m 21 #[.val (.ref a), .val (.int x), .val (.double kk), .second, .val (.int (-1))] [(.int 2), (.ref a), (.int 1)]))
  refine g_putF hG X2 hx hZ hown (wd hw 27 rfl) Via.refl e2 F_size_a Ex_a (Or.inl (wd hw 28 rfl)) (wd hw 3 rfl) (v' := (.int 2)) (ty := .int) (by decide) rfl rfl (hb hby d4_21) (pc' := 24) rfl ?_
  intro T3 h3 X3 e3 W3
  have Ex_a := Ex_a.wr W3
  have F_heap_a := F_heap_a.other W3 (Or.inr (slot_ne (Or.inr (wd hw 12 rfl)) (Or.inl (wd hw 28 rfl)) (by decide) (t := (.array .int)) (t' := .int) (by decide) (by decide)))
  have F_position_a := F_position_a.other W3 (Or.inr (slot_ne (Or.inr (wd hw 14 rfl)) (Or.inl (wd hw 28 rfl)) (by decide) (t := (.array .int)) (t' := .int) (by decide) (by decide)))
  have F_key_a := F_key_a.other W3 (Or.inr (slot_ne (Or.inr (wd hw 17 rfl)) (Or.inl (wd hw 28 rfl)) (by decide) (t := (.array .double)) (t' := .int) (by decide) (by decide)))
  have F_size_a := F_size_a.same W3
  have V_hp := V_hp.other W3 (Ne.symm d1)
  have V_pp := V_pp.other W3 (Ne.symm d2)
  have V_ky := V_ky.other W3 (Ne.symm d3)
  have Zs := Nat.le_trans Zs (Wr.size W3)
  have NF3 := Fr.snoc X3 NF0 ga
  have K3 := K0.wr W3 (Or.inl (List.mem_of_getElem? (i := 0) rfl))
  show G (T3.setTop (mkF m 24 #[.val (.ref a), .val (.int x), .val (.double kk), .second, .val (.int (-1))] [(.int 1)]))
  refine g_istore hG X3 hx (hb hby d4_24) (pc' := 26) rfl (Ls' := #[.val (.ref a), .val (.int x), .val (.double kk), .second, .val (.int 1)]) rfl ?_
  show G (T3.setTop (mkF m 26 #[.val (.ref a), .val (.int x), .val (.double kk), .second, .val (.int 1)] []))
  refine g_aloadN hG X3 hx (hb hby d4_26) (pc' := 27) rfl rfl rfl ?_
  show G (T3.setTop (mkF m 27 #[.val (.ref a), .val (.int x), .val (.double kk), .second, .val (.int 1)] [(.ref a)]))
  refine g_getF hG X3 hx hZ hown (wd hw 11 rfl) Via.refl e3 F_heap_a (hb hby d4_27) (pc' := 30) rfl ?_
  intro T4 X4 e4
  show G (T4.setTop (mkF m 30 #[.val (.ref a), .val (.int x), .val (.double kk), .second, .val (.int 1)] [(.ref hp)]))
  refine g_iload hG X4 hx (hb hby d4_30) (pc' := 32) rfl rfl ?_
  show G (T4.setTop (mkF m 32 #[.val (.ref a), .val (.int x), .val (.double kk), .second, .val (.int 1)] [(.int 1), (.ref hp)]))
  refine g_iloadN hG X4 hx (hb hby d4_32) (pc' := 33) rfl rfl ?_
  show G (T4.setTop (mkF m 33 #[.val (.ref a), .val (.int x), .val (.double kk), .second, .val (.int 1)] [(.int x), (.int 1), (.ref hp)]))
  refine g_iastore hG X4 hx hZ e4 V_hp (j := (1 : Int32)) (in4_nn in4_1) (in4_len in4_1) (hb hby d4_33) (pc' := 34) rfl ?_
  intro T5 h5 X5 e5 W5 Vn5
  rw [in4_set in4_1] at Vn5
  have V_hp : AV Z h5 hp .int (4 : Int32) (fn4 (upd q.1 (1 : Int32) x)) := Vn5
  have Ex_a := Ex_a.wr W5
  have F_heap_a := F_heap_a.other W5 (Or.inl d1)
  have F_position_a := F_position_a.other W5 (Or.inl d1)
  have F_key_a := F_key_a.other W5 (Or.inl d1)
  have F_size_a := F_size_a.other W5 (Or.inl d1)
  have V_pp := V_pp.other W5 (Ne.symm d4)
  have V_ky := V_ky.other W5 (Ne.symm d5)
  have Zs := Nat.le_trans Zs (Wr.size W5)
  have NF5 := Fr.snoc X5 NF3 ghp
  have K5 := K3.wr W5 (Or.inl (List.mem_of_getElem? (i := 1) rfl))
  show G (T5.setTop (mkF m 34 #[.val (.ref a), .val (.int x), .val (.double kk), .second, .val (.int 1)] []))
  refine g_aloadN hG X5 hx (hb hby d4_34) (pc' := 35) rfl rfl rfl ?_
  show G (T5.setTop (mkF m 35 #[.val (.ref a), .val (.int x), .val (.double kk), .second, .val (.int 1)] [(.ref a)]))
  refine g_getF hG X5 hx hZ hown (wd hw 13 rfl) Via.refl e5 F_position_a (hb hby d4_35) (pc' := 38) rfl ?_
  intro T6 X6 e6
  show G (T6.setTop (mkF m 38 #[.val (.ref a), .val (.int x), .val (.double kk), .second, .val (.int 1)] [(.ref pp)]))
  refine g_iloadN hG X6 hx (hb hby d4_38) (pc' := 39) rfl rfl ?_
  show G (T6.setTop (mkF m 39 #[.val (.ref a), .val (.int x), .val (.double kk), .second, .val (.int 1)] [(.int x), (.ref pp)]))
  refine g_iload hG X6 hx (hb hby d4_39) (pc' := 41) rfl rfl ?_
  show G (T6.setTop (mkF m 41 #[.val (.ref a), .val (.int x), .val (.double kk), .second, .val (.int 1)] [(.int 1), (.int x), (.ref pp)]))
  refine g_iastore hG X6 hx hZ e6 V_pp (j := x) (in4_nn ix) (in4_len ix) (hb hby d4_41) (pc' := 42) rfl ?_
  intro T7 h7 X7 e7 W7 Vn7
  rw [in4_set ix] at Vn7
  have V_pp : AV Z h7 pp .int (4 : Int32) (fn4 (upd q.2 x (1 : Int32))) := Vn7
  have Ex_a := Ex_a.wr W7
  have F_heap_a := F_heap_a.other W7 (Or.inl d2)
  have F_position_a := F_position_a.other W7 (Or.inl d2)
  have F_key_a := F_key_a.other W7 (Or.inl d2)
  have F_size_a := F_size_a.other W7 (Or.inl d2)
  have V_hp := V_hp.other W7 d4
  have V_ky := V_ky.other W7 (Ne.symm d6)
  have Zs := Nat.le_trans Zs (Wr.size W7)
  have NF7 := Fr.snoc X7 NF5 gpp
  have K7 := K5.wr W7 (Or.inl (List.mem_of_getElem? (i := 2) rfl))
  show G (T7.setTop (mkF m 42 #[.val (.ref a), .val (.int x), .val (.double kk), .second, .val (.int 1)] []))
  refine g_goto hG X7 hx (hb hby d4_42) (pc' := 57) (by decide) (by decide) ?_
  show G (T7.setTop (mkF m 57 #[.val (.ref a), .val (.int x), .val (.double kk), .second, .val (.int 1)] []))
  refine g_aloadN hG X7 hx (hb hby d4_57) (pc' := 58) rfl rfl rfl ?_
  show G (T7.setTop (mkF m 58 #[.val (.ref a), .val (.int x), .val (.double kk), .second, .val (.int 1)] [(.ref a)]))
  refine g_getF hG X7 hx hZ hown (wd hw 16 rfl) Via.refl e7 F_key_a (hb hby d4_58) (pc' := 61) rfl ?_
  intro T8 X8 e8
  show G (T8.setTop (mkF m 61 #[.val (.ref a), .val (.int x), .val (.double kk), .second, .val (.int 1)] [(.ref ky)]))
  refine g_iloadN hG X8 hx (hb hby d4_61) (pc' := 62) rfl rfl ?_
  show G (T8.setTop (mkF m 62 #[.val (.ref a), .val (.int x), .val (.double kk), .second, .val (.int 1)] [(.int x), (.ref ky)]))
  refine g_dloadN hG X8 hx (hb hby d4_62) (pc' := 63) rfl rfl ?_
  show G (T8.setTop (mkF m 63 #[.val (.ref a), .val (.int x), .val (.double kk), .second, .val (.int 1)] [(.double kk), (.int x), (.ref ky)]))
  refine g_dastore hG X8 hx hZ e8 V_ky (j := x) (in4_nn ix) (in4_lend ix) (hb hby d4_63) (pc' := 64) rfl ?_
  intro T9 h9 X9 e9 W9 Vn9
  rw [in4_setd ix] at Vn9
  have V_ky : AV Z h9 ky .double (4 : Int32) (fd4 (upd K x kk)) := Vn9
  have Ex_a := Ex_a.wr W9
  have F_heap_a := F_heap_a.other W9 (Or.inl d3)
  have F_position_a := F_position_a.other W9 (Or.inl d3)
  have F_key_a := F_key_a.other W9 (Or.inl d3)
  have F_size_a := F_size_a.other W9 (Or.inl d3)
  have V_hp := V_hp.other W9 d5
  have V_pp := V_pp.other W9 d6
  have Zs := Nat.le_trans Zs (Wr.size W9)
  have NF9 := Fr.snoc X9 NF7 gky
  have K9 := K7.wr W9 (Or.inl (List.mem_of_getElem? (i := 3) rfl))
  show G (T9.setTop (mkF m 64 #[.val (.ref a), .val (.int x), .val (.double kk), .second, .val (.int 1)] []))
  refine g_aloadN hG X9 hx (hb hby d4_64) (pc' := 65) rfl rfl rfl ?_
  show G (T9.setTop (mkF m 65 #[.val (.ref a), .val (.int x), .val (.double kk), .second, .val (.int 1)] [(.ref a)]))
  refine g_iload hG X9 hx (hb hby d4_65) (pc' := 67) rfl rfl ?_
  show G (T9.setTop (mkF m 67 #[.val (.ref a), .val (.int x), .val (.double kk), .second, .val (.int 1)] [(.int 1), (.ref a)]))
  refine g_callP hG X9 hx hZ (y := (⟨"com/example/tributary/tributary/plan/NodeHeap", "rise", "(I)V"⟩ : MethodName)) 0 hown (wd hw 29 rfl) (wd hw 30 rfl) (wd hw 3 rfl) (wd hw 31 rfl) (wd hw 4 rfl) (wd hw 32 rfl) (by decide) (rmRs1 l Z a0 hw [] a hp pp ky (2 : Int32) (on (1 : Int32) q x) (upd K x kk) bt h9 n0 Zs ⟨Ex_a, F_heap_a, F_position_a, F_key_a, F_size_a, V_hp, V_pp, V_ky⟩ ⟨ga, ghp, gpp, gky, d1, d2, d3, d4, d5, d6⟩ ii hbb) (by decide) (by decide) (by rw [hml]; rfl) pd_3 rfl (argsL := [(.int 1)]) (rest := []) rfl rfl (Nat.le_of_eq rfl) (hb hby d4_67) e9 Ex_a (by decide) (by decide) (pc' := 70) rfl ?_
  intro T10 rv10 L10 X10 hQ10
  obtain ⟨rfl, Nq10, Kq10, Ex_a, F_heap_a, F_position_a, F_key_a, F_size_a, V_hp, V_pp, V_ky⟩ := hQ10
  have NF10 := Fr.app NF9 Nq10
  have Zs := Nat.le_trans Zs Kq10.1
  have K10 := K9.trans Kq10 (allS (Or.inl (List.mem_of_getElem? (i := 0) rfl)) (allS (Or.inl (List.mem_of_getElem? (i := 1) rfl)) (allS (Or.inl (List.mem_of_getElem? (i := 2) rfl)) (allS (Or.inl (List.mem_of_getElem? (i := 3) rfl)) all0))))
  show G (T10.setTop (mkF m 70 #[.val (.ref a), .val (.int x), .val (.double kk), .second, .val (.int 1)] []))
  exact e_ret0 hGe X10 hx hrt hlk (hb hby d4_70) rfl (by decide) (by decide) (⟨rfl, NF10, K10, Ex_a, F_heap_a, F_position_a, F_key_a, F_size_a, V_hp, V_pp, V_ky⟩)

def Q_rmOf2 (Z : State) (a hp pp ky : Addr) (q : HP) (K : Int32 → UInt64) (bt : Int32 → Int32 → Bool) (x : Int32) (kk : UInt64) (h0 : Heap) (n0 : Nat) (v : Option Value) (h : Heap) (L : List Loc) : Prop := v = none ∧ Fr n0 L ∧ Keep h0 h [a, hp, pp, ky] ∧ NH Z h a hp pp ky (3 : Int32) (rs2 bt (on (2 : Int32) q x)) (upd K x kk)
set_option maxRecDepth 65536 in
set_option maxHeartbeats 40000000 in
theorem rmOf2 (l : Launch) (Z : State) (a0 : Array Value) (hw : ∀ d ∈ tables_1, d.before a0 Z = true) (ws : List Jvm.Cond) (a hp pp ky : Addr) (q : HP) (K : Int32 → UInt64) (bt : Int32 → Int32 → Bool) (x : Int32) (kk : UInt64) (h0 : Heap) (n0 : Nat) (Zs : n0 ≤ h0.size) (NQ : NH Z h0 a hp pp ky (2 : Int32) q K) (DD : Dis n0 a hp pp ky) (ix : In4 x) (hP : q.2 x = -1) (ii : I4 3 (on (2 : Int32) q x)) (hbb : HB 3 (upd K x kk) bt (on (2 : Int32) q x)) :
    Con l (⟨"com/example/tributary/tributary/plan/NodeHeap", "offer", "(ID)V"⟩ : MethodName) prog_39_method_3_code 5 none ws ({ frames := 2, cells := 0, slots := 0, locals := 56 } : Room) Z #[(.ref a), (.int x), (.double kk)] h0 ({ frames := 2, cells := 0, slots := 0, locals := 56 } : Room).cells ({ frames := 2, cells := 0, slots := 0, locals := 56 } : Room).slots (Q_rmOf2 Z a hp pp ky q K bt x kk h0 n0) := by
  refine Con.of (Ls := #[.val (.ref a), .val (.int x), .val (.double kk), .second, .unset]) (plainFor_of_name (by first | (simp [plainName, overriddenIn]; done) | decide +kernel)) (fun m => by first | (simp [entryFrame, mkF, argsToLocals, Value.category]; done) | rfl) ?_
  intro p e s m below meth c s₁ G hGe hG hx hby hml hown hnm hrt hlk hZ X0 e0
  have hown : s.vm.findClass "com/example/tributary/tributary/plan/NodeHeap" = some m.cls := hown
  have hnm : meth.name = "offer" := hnm
  have NF0 := Fr.nil n0
  obtain ⟨Ex_a, F_heap_a, F_position_a, F_key_a, F_size_a, V_hp, V_pp, V_ky⟩ := NQ
  obtain ⟨ga, ghp, gpp, gky, d1, d2, d3, d4, d5, d6⟩ := DD
  have K0 := Keep.refl h0 [a, hp, pp, ky]
  refine g_aloadN hG X0 hx (hb hby d4_0) (pc' := 1) rfl rfl rfl ?_
  show G (s₁.setTop (mkF m 1 #[.val (.ref a), .val (.int x), .val (.double kk), .second, .unset] [(.ref a)]))
  refine g_getF hG X0 hx hZ hown (wd hw 13 rfl) Via.refl e0 F_position_a (hb hby d4_1) (pc' := 4) rfl ?_
  intro T1 X1 e1
  show G (T1.setTop (mkF m 4 #[.val (.ref a), .val (.int x), .val (.double kk), .second, .unset] [(.ref pp)]))
  refine g_iloadN hG X1 hx (hb hby d4_4) (pc' := 5) rfl rfl ?_
  show G (T1.setTop (mkF m 5 #[.val (.ref a), .val (.int x), .val (.double kk), .second, .unset] [(.int x), (.ref pp)]))
  refine g_iaload hG X1 hx hZ e1 V_pp (j := x) (v := (.int (-1))) (in4_nn ix) (in4_at ix hP) (hb hby d4_5) (pc' := 6) rfl ?_
  show G (T1.setTop (mkF m 6 #[.val (.ref a), .val (.int x), .val (.double kk), .second, .unset] [(.int (-1))]))
  refine g_istore hG X1 hx (hb hby d4_6) (pc' := 8) rfl (Ls' := #[.val (.ref a), .val (.int x), .val (.double kk), .second, .val (.int (-1))]) rfl ?_
  show G (T1.setTop (mkF m 8 #[.val (.ref a), .val (.int x), .val (.double kk), .second, .val (.int (-1))] []))
  refine g_iload hG X1 hx (hb hby d4_8) (pc' := 10) rfl rfl ?_
  show G (T1.setTop (mkF m 10 #[.val (.ref a), .val (.int x), .val (.double kk), .second, .val (.int (-1))] [(.int (-1))]))
  refine g_ifNo hG X1 hx (hb hby d4_10) (pc' := 13) (by decide) rfl ?_
  show G (T1.setTop (mkF m 13 #[.val (.ref a), .val (.int x), .val (.double kk), .second, .val (.int (-1))] []))
  refine g_aloadN hG X1 hx (hb hby d4_13) (pc' := 14) rfl rfl rfl ?_
  show G (T1.setTop (mkF m 14 #[.val (.ref a), .val (.int x), .val (.double kk), .second, .val (.int (-1))] [(.ref a)]))
  refine g_dup hG X1 hx (hb hby d4_14) (pc' := 15) rfl rfl ?_
  show G (T1.setTop (mkF m 15 #[.val (.ref a), .val (.int x), .val (.double kk), .second, .val (.int (-1))] [(.ref a), (.ref a)]))
  refine g_getF hG X1 hx hZ hown (wd hw 27 rfl) Via.refl e1 F_size_a (hb hby d4_15) (pc' := 18) rfl ?_
  intro T2 X2 e2
  show G (T2.setTop (mkF m 18 #[.val (.ref a), .val (.int x), .val (.double kk), .second, .val (.int (-1))] [(.int 2), (.ref a)]))
  refine g_dupX1 hG X2 hx (hb hby d4_18) (pc' := 19) rfl rfl rfl ?_
  show G (T2.setTop (mkF m 19 #[.val (.ref a), .val (.int x), .val (.double kk), .second, .val (.int (-1))] [(.int 2), (.ref a), (.int 2)]))
  refine g_iconst hG X2 hx (hb hby d4_19) (pc' := 20) rfl (v := (1 : Int32)) rfl ?_
  show G (T2.setTop (mkF m 20 #[.val (.ref a), .val (.int x), .val (.double kk), .second, .val (.int (-1))] [(.int 1), (.int 2), (.ref a), (.int 2)]))
  refine g_iadd hG X2 hx (hb hby d4_20) (pc' := 21) rfl (v := (3 : Int32)) (by decide) ?_
  show G (T2.setTop (mkF m 21 #[.val (.ref a), .val (.int x), .val (.double kk), .second, .val (.int (-1))] [(.int 3), (.ref a), (.int 2)]))
  refine g_putF hG X2 hx hZ hown (wd hw 27 rfl) Via.refl e2 F_size_a Ex_a (Or.inl (wd hw 28 rfl)) (wd hw 3 rfl) (v' := (.int 3)) (ty := .int) (by decide) rfl rfl (hb hby d4_21) (pc' := 24) rfl ?_
  intro T3 h3 X3 e3 W3
  have Ex_a := Ex_a.wr W3
  have F_heap_a := F_heap_a.other W3 (Or.inr (slot_ne (Or.inr (wd hw 12 rfl)) (Or.inl (wd hw 28 rfl)) (by decide) (t := (.array .int)) (t' := .int) (by decide) (by decide)))
  have F_position_a := F_position_a.other W3 (Or.inr (slot_ne (Or.inr (wd hw 14 rfl)) (Or.inl (wd hw 28 rfl)) (by decide) (t := (.array .int)) (t' := .int) (by decide) (by decide)))
  have F_key_a := F_key_a.other W3 (Or.inr (slot_ne (Or.inr (wd hw 17 rfl)) (Or.inl (wd hw 28 rfl)) (by decide) (t := (.array .double)) (t' := .int) (by decide) (by decide)))
  have F_size_a := F_size_a.same W3
  have V_hp := V_hp.other W3 (Ne.symm d1)
  have V_pp := V_pp.other W3 (Ne.symm d2)
  have V_ky := V_ky.other W3 (Ne.symm d3)
  have Zs := Nat.le_trans Zs (Wr.size W3)
  have NF3 := Fr.snoc X3 NF0 ga
  have K3 := K0.wr W3 (Or.inl (List.mem_of_getElem? (i := 0) rfl))
  show G (T3.setTop (mkF m 24 #[.val (.ref a), .val (.int x), .val (.double kk), .second, .val (.int (-1))] [(.int 2)]))
  refine g_istore hG X3 hx (hb hby d4_24) (pc' := 26) rfl (Ls' := #[.val (.ref a), .val (.int x), .val (.double kk), .second, .val (.int 2)]) rfl ?_
  show G (T3.setTop (mkF m 26 #[.val (.ref a), .val (.int x), .val (.double kk), .second, .val (.int 2)] []))
  refine g_aloadN hG X3 hx (hb hby d4_26) (pc' := 27) rfl rfl rfl ?_
  show G (T3.setTop (mkF m 27 #[.val (.ref a), .val (.int x), .val (.double kk), .second, .val (.int 2)] [(.ref a)]))
  refine g_getF hG X3 hx hZ hown (wd hw 11 rfl) Via.refl e3 F_heap_a (hb hby d4_27) (pc' := 30) rfl ?_
  intro T4 X4 e4
  show G (T4.setTop (mkF m 30 #[.val (.ref a), .val (.int x), .val (.double kk), .second, .val (.int 2)] [(.ref hp)]))
  refine g_iload hG X4 hx (hb hby d4_30) (pc' := 32) rfl rfl ?_
  show G (T4.setTop (mkF m 32 #[.val (.ref a), .val (.int x), .val (.double kk), .second, .val (.int 2)] [(.int 2), (.ref hp)]))
  refine g_iloadN hG X4 hx (hb hby d4_32) (pc' := 33) rfl rfl ?_
  show G (T4.setTop (mkF m 33 #[.val (.ref a), .val (.int x), .val (.double kk), .second, .val (.int 2)] [(.int x), (.int 2), (.ref hp)]))
  refine g_iastore hG X4 hx hZ e4 V_hp (j := (2 : Int32)) (in4_nn in4_2) (in4_len in4_2) (hb hby d4_33) (pc' := 34) rfl ?_
  intro T5 h5 X5 e5 W5 Vn5
  rw [in4_set in4_2] at Vn5
  have V_hp : AV Z h5 hp .int (4 : Int32) (fn4 (upd q.1 (2 : Int32) x)) := Vn5
  have Ex_a := Ex_a.wr W5
  have F_heap_a := F_heap_a.other W5 (Or.inl d1)
  have F_position_a := F_position_a.other W5 (Or.inl d1)
  have F_key_a := F_key_a.other W5 (Or.inl d1)
  have F_size_a := F_size_a.other W5 (Or.inl d1)
  have V_pp := V_pp.other W5 (Ne.symm d4)
  have V_ky := V_ky.other W5 (Ne.symm d5)
  have Zs := Nat.le_trans Zs (Wr.size W5)
  have NF5 := Fr.snoc X5 NF3 ghp
  have K5 := K3.wr W5 (Or.inl (List.mem_of_getElem? (i := 1) rfl))
  show G (T5.setTop (mkF m 34 #[.val (.ref a), .val (.int x), .val (.double kk), .second, .val (.int 2)] []))
  refine g_aloadN hG X5 hx (hb hby d4_34) (pc' := 35) rfl rfl rfl ?_
  show G (T5.setTop (mkF m 35 #[.val (.ref a), .val (.int x), .val (.double kk), .second, .val (.int 2)] [(.ref a)]))
  refine g_getF hG X5 hx hZ hown (wd hw 13 rfl) Via.refl e5 F_position_a (hb hby d4_35) (pc' := 38) rfl ?_
  intro T6 X6 e6
  show G (T6.setTop (mkF m 38 #[.val (.ref a), .val (.int x), .val (.double kk), .second, .val (.int 2)] [(.ref pp)]))
  refine g_iloadN hG X6 hx (hb hby d4_38) (pc' := 39) rfl rfl ?_
  show G (T6.setTop (mkF m 39 #[.val (.ref a), .val (.int x), .val (.double kk), .second, .val (.int 2)] [(.int x), (.ref pp)]))
  refine g_iload hG X6 hx (hb hby d4_39) (pc' := 41) rfl rfl ?_
  show G (T6.setTop (mkF m 41 #[.val (.ref a), .val (.int x), .val (.double kk), .second, .val (.int 2)] [(.int 2), (.int x), (.ref pp)]))
  refine g_iastore hG X6 hx hZ e6 V_pp (j := x) (in4_nn ix) (in4_len ix) (hb hby d4_41) (pc' := 42) rfl ?_
  intro T7 h7 X7 e7 W7 Vn7
  rw [in4_set ix] at Vn7
  have V_pp : AV Z h7 pp .int (4 : Int32) (fn4 (upd q.2 x (2 : Int32))) := Vn7
  have Ex_a := Ex_a.wr W7
  have F_heap_a := F_heap_a.other W7 (Or.inl d2)
  have F_position_a := F_position_a.other W7 (Or.inl d2)
  have F_key_a := F_key_a.other W7 (Or.inl d2)
  have F_size_a := F_size_a.other W7 (Or.inl d2)
  have V_hp := V_hp.other W7 d4
  have V_ky := V_ky.other W7 (Ne.symm d6)
  have Zs := Nat.le_trans Zs (Wr.size W7)
  have NF7 := Fr.snoc X7 NF5 gpp
  have K7 := K5.wr W7 (Or.inl (List.mem_of_getElem? (i := 2) rfl))
  show G (T7.setTop (mkF m 42 #[.val (.ref a), .val (.int x), .val (.double kk), .second, .val (.int 2)] []))
  refine g_goto hG X7 hx (hb hby d4_42) (pc' := 57) (by decide) (by decide) ?_
  show G (T7.setTop (mkF m 57 #[.val (.ref a), .val (.int x), .val (.double kk), .second, .val (.int 2)] []))
  refine g_aloadN hG X7 hx (hb hby d4_57) (pc' := 58) rfl rfl rfl ?_
  show G (T7.setTop (mkF m 58 #[.val (.ref a), .val (.int x), .val (.double kk), .second, .val (.int 2)] [(.ref a)]))
  refine g_getF hG X7 hx hZ hown (wd hw 16 rfl) Via.refl e7 F_key_a (hb hby d4_58) (pc' := 61) rfl ?_
  intro T8 X8 e8
  show G (T8.setTop (mkF m 61 #[.val (.ref a), .val (.int x), .val (.double kk), .second, .val (.int 2)] [(.ref ky)]))
  refine g_iloadN hG X8 hx (hb hby d4_61) (pc' := 62) rfl rfl ?_
  show G (T8.setTop (mkF m 62 #[.val (.ref a), .val (.int x), .val (.double kk), .second, .val (.int 2)] [(.int x), (.ref ky)]))
  refine g_dloadN hG X8 hx (hb hby d4_62) (pc' := 63) rfl rfl ?_
  show G (T8.setTop (mkF m 63 #[.val (.ref a), .val (.int x), .val (.double kk), .second, .val (.int 2)] [(.double kk), (.int x), (.ref ky)]))
  refine g_dastore hG X8 hx hZ e8 V_ky (j := x) (in4_nn ix) (in4_lend ix) (hb hby d4_63) (pc' := 64) rfl ?_
  intro T9 h9 X9 e9 W9 Vn9
  rw [in4_setd ix] at Vn9
  have V_ky : AV Z h9 ky .double (4 : Int32) (fd4 (upd K x kk)) := Vn9
  have Ex_a := Ex_a.wr W9
  have F_heap_a := F_heap_a.other W9 (Or.inl d3)
  have F_position_a := F_position_a.other W9 (Or.inl d3)
  have F_key_a := F_key_a.other W9 (Or.inl d3)
  have F_size_a := F_size_a.other W9 (Or.inl d3)
  have V_hp := V_hp.other W9 d5
  have V_pp := V_pp.other W9 d6
  have Zs := Nat.le_trans Zs (Wr.size W9)
  have NF9 := Fr.snoc X9 NF7 gky
  have K9 := K7.wr W9 (Or.inl (List.mem_of_getElem? (i := 3) rfl))
  show G (T9.setTop (mkF m 64 #[.val (.ref a), .val (.int x), .val (.double kk), .second, .val (.int 2)] []))
  refine g_aloadN hG X9 hx (hb hby d4_64) (pc' := 65) rfl rfl rfl ?_
  show G (T9.setTop (mkF m 65 #[.val (.ref a), .val (.int x), .val (.double kk), .second, .val (.int 2)] [(.ref a)]))
  refine g_iload hG X9 hx (hb hby d4_65) (pc' := 67) rfl rfl ?_
  show G (T9.setTop (mkF m 67 #[.val (.ref a), .val (.int x), .val (.double kk), .second, .val (.int 2)] [(.int 2), (.ref a)]))
  refine g_callP hG X9 hx hZ (y := (⟨"com/example/tributary/tributary/plan/NodeHeap", "rise", "(I)V"⟩ : MethodName)) 0 hown (wd hw 29 rfl) (wd hw 30 rfl) (wd hw 3 rfl) (wd hw 31 rfl) (wd hw 4 rfl) (wd hw 32 rfl) (by decide) (rmRs2 l Z a0 hw [] a hp pp ky (3 : Int32) (on (2 : Int32) q x) (upd K x kk) bt h9 n0 Zs ⟨Ex_a, F_heap_a, F_position_a, F_key_a, F_size_a, V_hp, V_pp, V_ky⟩ ⟨ga, ghp, gpp, gky, d1, d2, d3, d4, d5, d6⟩ ii hbb) (by decide) (by decide) (by rw [hml]; rfl) pd_3 rfl (argsL := [(.int 2)]) (rest := []) rfl rfl (Nat.le_of_eq rfl) (hb hby d4_67) e9 Ex_a (by decide) (by decide) (pc' := 70) rfl ?_
  intro T10 rv10 L10 X10 hQ10
  obtain ⟨rfl, Nq10, Kq10, Ex_a, F_heap_a, F_position_a, F_key_a, F_size_a, V_hp, V_pp, V_ky⟩ := hQ10
  have NF10 := Fr.app NF9 Nq10
  have Zs := Nat.le_trans Zs Kq10.1
  have K10 := K9.trans Kq10 (allS (Or.inl (List.mem_of_getElem? (i := 0) rfl)) (allS (Or.inl (List.mem_of_getElem? (i := 1) rfl)) (allS (Or.inl (List.mem_of_getElem? (i := 2) rfl)) (allS (Or.inl (List.mem_of_getElem? (i := 3) rfl)) all0))))
  show G (T10.setTop (mkF m 70 #[.val (.ref a), .val (.int x), .val (.double kk), .second, .val (.int 2)] []))
  exact e_ret0 hGe X10 hx hrt hlk (hb hby d4_70) rfl (by decide) (by decide) (⟨rfl, NF10, K10, Ex_a, F_heap_a, F_position_a, F_key_a, F_size_a, V_hp, V_pp, V_ky⟩)

def Q_rmOf3 (Z : State) (a hp pp ky : Addr) (q : HP) (K : Int32 → UInt64) (bt : Int32 → Int32 → Bool) (x : Int32) (kk : UInt64) (h0 : Heap) (n0 : Nat) (v : Option Value) (h : Heap) (L : List Loc) : Prop := v = none ∧ Fr n0 L ∧ Keep h0 h [a, hp, pp, ky] ∧ NH Z h a hp pp ky (4 : Int32) (rs3 bt (on (3 : Int32) q x)) (upd K x kk)
set_option maxRecDepth 65536 in
set_option maxHeartbeats 40000000 in
theorem rmOf3 (l : Launch) (Z : State) (a0 : Array Value) (hw : ∀ d ∈ tables_1, d.before a0 Z = true) (ws : List Jvm.Cond) (a hp pp ky : Addr) (q : HP) (K : Int32 → UInt64) (bt : Int32 → Int32 → Bool) (x : Int32) (kk : UInt64) (h0 : Heap) (n0 : Nat) (Zs : n0 ≤ h0.size) (NQ : NH Z h0 a hp pp ky (3 : Int32) q K) (DD : Dis n0 a hp pp ky) (ix : In4 x) (hP : q.2 x = -1) (ii : I4 4 (on (3 : Int32) q x)) (hbb : HB 4 (upd K x kk) bt (on (3 : Int32) q x)) :
    Con l (⟨"com/example/tributary/tributary/plan/NodeHeap", "offer", "(ID)V"⟩ : MethodName) prog_39_method_3_code 5 none ws ({ frames := 2, cells := 0, slots := 0, locals := 56 } : Room) Z #[(.ref a), (.int x), (.double kk)] h0 ({ frames := 2, cells := 0, slots := 0, locals := 56 } : Room).cells ({ frames := 2, cells := 0, slots := 0, locals := 56 } : Room).slots (Q_rmOf3 Z a hp pp ky q K bt x kk h0 n0) := by
  refine Con.of (Ls := #[.val (.ref a), .val (.int x), .val (.double kk), .second, .unset]) (plainFor_of_name (by first | (simp [plainName, overriddenIn]; done) | decide +kernel)) (fun m => by first | (simp [entryFrame, mkF, argsToLocals, Value.category]; done) | rfl) ?_
  intro p e s m below meth c s₁ G hGe hG hx hby hml hown hnm hrt hlk hZ X0 e0
  have hown : s.vm.findClass "com/example/tributary/tributary/plan/NodeHeap" = some m.cls := hown
  have hnm : meth.name = "offer" := hnm
  have NF0 := Fr.nil n0
  obtain ⟨Ex_a, F_heap_a, F_position_a, F_key_a, F_size_a, V_hp, V_pp, V_ky⟩ := NQ
  obtain ⟨ga, ghp, gpp, gky, d1, d2, d3, d4, d5, d6⟩ := DD
  have K0 := Keep.refl h0 [a, hp, pp, ky]
  refine g_aloadN hG X0 hx (hb hby d4_0) (pc' := 1) rfl rfl rfl ?_
  show G (s₁.setTop (mkF m 1 #[.val (.ref a), .val (.int x), .val (.double kk), .second, .unset] [(.ref a)]))
  refine g_getF hG X0 hx hZ hown (wd hw 13 rfl) Via.refl e0 F_position_a (hb hby d4_1) (pc' := 4) rfl ?_
  intro T1 X1 e1
  show G (T1.setTop (mkF m 4 #[.val (.ref a), .val (.int x), .val (.double kk), .second, .unset] [(.ref pp)]))
  refine g_iloadN hG X1 hx (hb hby d4_4) (pc' := 5) rfl rfl ?_
  show G (T1.setTop (mkF m 5 #[.val (.ref a), .val (.int x), .val (.double kk), .second, .unset] [(.int x), (.ref pp)]))
  refine g_iaload hG X1 hx hZ e1 V_pp (j := x) (v := (.int (-1))) (in4_nn ix) (in4_at ix hP) (hb hby d4_5) (pc' := 6) rfl ?_
  show G (T1.setTop (mkF m 6 #[.val (.ref a), .val (.int x), .val (.double kk), .second, .unset] [(.int (-1))]))
  refine g_istore hG X1 hx (hb hby d4_6) (pc' := 8) rfl (Ls' := #[.val (.ref a), .val (.int x), .val (.double kk), .second, .val (.int (-1))]) rfl ?_
  show G (T1.setTop (mkF m 8 #[.val (.ref a), .val (.int x), .val (.double kk), .second, .val (.int (-1))] []))
  refine g_iload hG X1 hx (hb hby d4_8) (pc' := 10) rfl rfl ?_
  show G (T1.setTop (mkF m 10 #[.val (.ref a), .val (.int x), .val (.double kk), .second, .val (.int (-1))] [(.int (-1))]))
  refine g_ifNo hG X1 hx (hb hby d4_10) (pc' := 13) (by decide) rfl ?_
  show G (T1.setTop (mkF m 13 #[.val (.ref a), .val (.int x), .val (.double kk), .second, .val (.int (-1))] []))
  refine g_aloadN hG X1 hx (hb hby d4_13) (pc' := 14) rfl rfl rfl ?_
  show G (T1.setTop (mkF m 14 #[.val (.ref a), .val (.int x), .val (.double kk), .second, .val (.int (-1))] [(.ref a)]))
  refine g_dup hG X1 hx (hb hby d4_14) (pc' := 15) rfl rfl ?_
  show G (T1.setTop (mkF m 15 #[.val (.ref a), .val (.int x), .val (.double kk), .second, .val (.int (-1))] [(.ref a), (.ref a)]))
  refine g_getF hG X1 hx hZ hown (wd hw 27 rfl) Via.refl e1 F_size_a (hb hby d4_15) (pc' := 18) rfl ?_
  intro T2 X2 e2
  show G (T2.setTop (mkF m 18 #[.val (.ref a), .val (.int x), .val (.double kk), .second, .val (.int (-1))] [(.int 3), (.ref a)]))
  refine g_dupX1 hG X2 hx (hb hby d4_18) (pc' := 19) rfl rfl rfl ?_
  show G (T2.setTop (mkF m 19 #[.val (.ref a), .val (.int x), .val (.double kk), .second, .val (.int (-1))] [(.int 3), (.ref a), (.int 3)]))
  refine g_iconst hG X2 hx (hb hby d4_19) (pc' := 20) rfl (v := (1 : Int32)) rfl ?_
  show G (T2.setTop (mkF m 20 #[.val (.ref a), .val (.int x), .val (.double kk), .second, .val (.int (-1))] [(.int 1), (.int 3), (.ref a), (.int 3)]))
  refine g_iadd hG X2 hx (hb hby d4_20) (pc' := 21) rfl (v := (4 : Int32)) (by decide) ?_
  show G (T2.setTop (mkF m 21 #[.val (.ref a), .val (.int x), .val (.double kk), .second, .val (.int (-1))] [(.int 4), (.ref a), (.int 3)]))
  refine g_putF hG X2 hx hZ hown (wd hw 27 rfl) Via.refl e2 F_size_a Ex_a (Or.inl (wd hw 28 rfl)) (wd hw 3 rfl) (v' := (.int 4)) (ty := .int) (by decide) rfl rfl (hb hby d4_21) (pc' := 24) rfl ?_
  intro T3 h3 X3 e3 W3
  have Ex_a := Ex_a.wr W3
  have F_heap_a := F_heap_a.other W3 (Or.inr (slot_ne (Or.inr (wd hw 12 rfl)) (Or.inl (wd hw 28 rfl)) (by decide) (t := (.array .int)) (t' := .int) (by decide) (by decide)))
  have F_position_a := F_position_a.other W3 (Or.inr (slot_ne (Or.inr (wd hw 14 rfl)) (Or.inl (wd hw 28 rfl)) (by decide) (t := (.array .int)) (t' := .int) (by decide) (by decide)))
  have F_key_a := F_key_a.other W3 (Or.inr (slot_ne (Or.inr (wd hw 17 rfl)) (Or.inl (wd hw 28 rfl)) (by decide) (t := (.array .double)) (t' := .int) (by decide) (by decide)))
  have F_size_a := F_size_a.same W3
  have V_hp := V_hp.other W3 (Ne.symm d1)
  have V_pp := V_pp.other W3 (Ne.symm d2)
  have V_ky := V_ky.other W3 (Ne.symm d3)
  have Zs := Nat.le_trans Zs (Wr.size W3)
  have NF3 := Fr.snoc X3 NF0 ga
  have K3 := K0.wr W3 (Or.inl (List.mem_of_getElem? (i := 0) rfl))
  show G (T3.setTop (mkF m 24 #[.val (.ref a), .val (.int x), .val (.double kk), .second, .val (.int (-1))] [(.int 3)]))
  refine g_istore hG X3 hx (hb hby d4_24) (pc' := 26) rfl (Ls' := #[.val (.ref a), .val (.int x), .val (.double kk), .second, .val (.int 3)]) rfl ?_
  show G (T3.setTop (mkF m 26 #[.val (.ref a), .val (.int x), .val (.double kk), .second, .val (.int 3)] []))
  refine g_aloadN hG X3 hx (hb hby d4_26) (pc' := 27) rfl rfl rfl ?_
  show G (T3.setTop (mkF m 27 #[.val (.ref a), .val (.int x), .val (.double kk), .second, .val (.int 3)] [(.ref a)]))
  refine g_getF hG X3 hx hZ hown (wd hw 11 rfl) Via.refl e3 F_heap_a (hb hby d4_27) (pc' := 30) rfl ?_
  intro T4 X4 e4
  show G (T4.setTop (mkF m 30 #[.val (.ref a), .val (.int x), .val (.double kk), .second, .val (.int 3)] [(.ref hp)]))
  refine g_iload hG X4 hx (hb hby d4_30) (pc' := 32) rfl rfl ?_
  show G (T4.setTop (mkF m 32 #[.val (.ref a), .val (.int x), .val (.double kk), .second, .val (.int 3)] [(.int 3), (.ref hp)]))
  refine g_iloadN hG X4 hx (hb hby d4_32) (pc' := 33) rfl rfl ?_
  show G (T4.setTop (mkF m 33 #[.val (.ref a), .val (.int x), .val (.double kk), .second, .val (.int 3)] [(.int x), (.int 3), (.ref hp)]))
  refine g_iastore hG X4 hx hZ e4 V_hp (j := (3 : Int32)) (in4_nn in4_3) (in4_len in4_3) (hb hby d4_33) (pc' := 34) rfl ?_
  intro T5 h5 X5 e5 W5 Vn5
  rw [in4_set in4_3] at Vn5
  have V_hp : AV Z h5 hp .int (4 : Int32) (fn4 (upd q.1 (3 : Int32) x)) := Vn5
  have Ex_a := Ex_a.wr W5
  have F_heap_a := F_heap_a.other W5 (Or.inl d1)
  have F_position_a := F_position_a.other W5 (Or.inl d1)
  have F_key_a := F_key_a.other W5 (Or.inl d1)
  have F_size_a := F_size_a.other W5 (Or.inl d1)
  have V_pp := V_pp.other W5 (Ne.symm d4)
  have V_ky := V_ky.other W5 (Ne.symm d5)
  have Zs := Nat.le_trans Zs (Wr.size W5)
  have NF5 := Fr.snoc X5 NF3 ghp
  have K5 := K3.wr W5 (Or.inl (List.mem_of_getElem? (i := 1) rfl))
  show G (T5.setTop (mkF m 34 #[.val (.ref a), .val (.int x), .val (.double kk), .second, .val (.int 3)] []))
  refine g_aloadN hG X5 hx (hb hby d4_34) (pc' := 35) rfl rfl rfl ?_
  show G (T5.setTop (mkF m 35 #[.val (.ref a), .val (.int x), .val (.double kk), .second, .val (.int 3)] [(.ref a)]))
  refine g_getF hG X5 hx hZ hown (wd hw 13 rfl) Via.refl e5 F_position_a (hb hby d4_35) (pc' := 38) rfl ?_
  intro T6 X6 e6
  show G (T6.setTop (mkF m 38 #[.val (.ref a), .val (.int x), .val (.double kk), .second, .val (.int 3)] [(.ref pp)]))
  refine g_iloadN hG X6 hx (hb hby d4_38) (pc' := 39) rfl rfl ?_
  show G (T6.setTop (mkF m 39 #[.val (.ref a), .val (.int x), .val (.double kk), .second, .val (.int 3)] [(.int x), (.ref pp)]))
  refine g_iload hG X6 hx (hb hby d4_39) (pc' := 41) rfl rfl ?_
  show G (T6.setTop (mkF m 41 #[.val (.ref a), .val (.int x), .val (.double kk), .second, .val (.int 3)] [(.int 3), (.int x), (.ref pp)]))
  refine g_iastore hG X6 hx hZ e6 V_pp (j := x) (in4_nn ix) (in4_len ix) (hb hby d4_41) (pc' := 42) rfl ?_
  intro T7 h7 X7 e7 W7 Vn7
  rw [in4_set ix] at Vn7
  have V_pp : AV Z h7 pp .int (4 : Int32) (fn4 (upd q.2 x (3 : Int32))) := Vn7
  have Ex_a := Ex_a.wr W7
  have F_heap_a := F_heap_a.other W7 (Or.inl d2)
  have F_position_a := F_position_a.other W7 (Or.inl d2)
  have F_key_a := F_key_a.other W7 (Or.inl d2)
  have F_size_a := F_size_a.other W7 (Or.inl d2)
  have V_hp := V_hp.other W7 d4
  have V_ky := V_ky.other W7 (Ne.symm d6)
  have Zs := Nat.le_trans Zs (Wr.size W7)
  have NF7 := Fr.snoc X7 NF5 gpp
  have K7 := K5.wr W7 (Or.inl (List.mem_of_getElem? (i := 2) rfl))
  show G (T7.setTop (mkF m 42 #[.val (.ref a), .val (.int x), .val (.double kk), .second, .val (.int 3)] []))
  refine g_goto hG X7 hx (hb hby d4_42) (pc' := 57) (by decide) (by decide) ?_
  show G (T7.setTop (mkF m 57 #[.val (.ref a), .val (.int x), .val (.double kk), .second, .val (.int 3)] []))
  refine g_aloadN hG X7 hx (hb hby d4_57) (pc' := 58) rfl rfl rfl ?_
  show G (T7.setTop (mkF m 58 #[.val (.ref a), .val (.int x), .val (.double kk), .second, .val (.int 3)] [(.ref a)]))
  refine g_getF hG X7 hx hZ hown (wd hw 16 rfl) Via.refl e7 F_key_a (hb hby d4_58) (pc' := 61) rfl ?_
  intro T8 X8 e8
  show G (T8.setTop (mkF m 61 #[.val (.ref a), .val (.int x), .val (.double kk), .second, .val (.int 3)] [(.ref ky)]))
  refine g_iloadN hG X8 hx (hb hby d4_61) (pc' := 62) rfl rfl ?_
  show G (T8.setTop (mkF m 62 #[.val (.ref a), .val (.int x), .val (.double kk), .second, .val (.int 3)] [(.int x), (.ref ky)]))
  refine g_dloadN hG X8 hx (hb hby d4_62) (pc' := 63) rfl rfl ?_
  show G (T8.setTop (mkF m 63 #[.val (.ref a), .val (.int x), .val (.double kk), .second, .val (.int 3)] [(.double kk), (.int x), (.ref ky)]))
  refine g_dastore hG X8 hx hZ e8 V_ky (j := x) (in4_nn ix) (in4_lend ix) (hb hby d4_63) (pc' := 64) rfl ?_
  intro T9 h9 X9 e9 W9 Vn9
  rw [in4_setd ix] at Vn9
  have V_ky : AV Z h9 ky .double (4 : Int32) (fd4 (upd K x kk)) := Vn9
  have Ex_a := Ex_a.wr W9
  have F_heap_a := F_heap_a.other W9 (Or.inl d3)
  have F_position_a := F_position_a.other W9 (Or.inl d3)
  have F_key_a := F_key_a.other W9 (Or.inl d3)
  have F_size_a := F_size_a.other W9 (Or.inl d3)
  have V_hp := V_hp.other W9 d5
  have V_pp := V_pp.other W9 d6
  have Zs := Nat.le_trans Zs (Wr.size W9)
  have NF9 := Fr.snoc X9 NF7 gky
  have K9 := K7.wr W9 (Or.inl (List.mem_of_getElem? (i := 3) rfl))
  show G (T9.setTop (mkF m 64 #[.val (.ref a), .val (.int x), .val (.double kk), .second, .val (.int 3)] []))
  refine g_aloadN hG X9 hx (hb hby d4_64) (pc' := 65) rfl rfl rfl ?_
  show G (T9.setTop (mkF m 65 #[.val (.ref a), .val (.int x), .val (.double kk), .second, .val (.int 3)] [(.ref a)]))
  refine g_iload hG X9 hx (hb hby d4_65) (pc' := 67) rfl rfl ?_
  show G (T9.setTop (mkF m 67 #[.val (.ref a), .val (.int x), .val (.double kk), .second, .val (.int 3)] [(.int 3), (.ref a)]))
  refine g_callP hG X9 hx hZ (y := (⟨"com/example/tributary/tributary/plan/NodeHeap", "rise", "(I)V"⟩ : MethodName)) 0 hown (wd hw 29 rfl) (wd hw 30 rfl) (wd hw 3 rfl) (wd hw 31 rfl) (wd hw 4 rfl) (wd hw 32 rfl) (by decide) (rmRs3 l Z a0 hw [] a hp pp ky (4 : Int32) (on (3 : Int32) q x) (upd K x kk) bt h9 n0 Zs ⟨Ex_a, F_heap_a, F_position_a, F_key_a, F_size_a, V_hp, V_pp, V_ky⟩ ⟨ga, ghp, gpp, gky, d1, d2, d3, d4, d5, d6⟩ ii hbb) (by decide) (by decide) (by rw [hml]; rfl) pd_3 rfl (argsL := [(.int 3)]) (rest := []) rfl rfl (Nat.le_of_eq rfl) (hb hby d4_67) e9 Ex_a (by decide) (by decide) (pc' := 70) rfl ?_
  intro T10 rv10 L10 X10 hQ10
  obtain ⟨rfl, Nq10, Kq10, Ex_a, F_heap_a, F_position_a, F_key_a, F_size_a, V_hp, V_pp, V_ky⟩ := hQ10
  have NF10 := Fr.app NF9 Nq10
  have Zs := Nat.le_trans Zs Kq10.1
  have K10 := K9.trans Kq10 (allS (Or.inl (List.mem_of_getElem? (i := 0) rfl)) (allS (Or.inl (List.mem_of_getElem? (i := 1) rfl)) (allS (Or.inl (List.mem_of_getElem? (i := 2) rfl)) (allS (Or.inl (List.mem_of_getElem? (i := 3) rfl)) all0))))
  show G (T10.setTop (mkF m 70 #[.val (.ref a), .val (.int x), .val (.double kk), .second, .val (.int 3)] []))
  exact e_ret0 hGe X10 hx hrt hlk (hb hby d4_70) rfl (by decide) (by decide) (⟨rfl, NF10, K10, Ex_a, F_heap_a, F_position_a, F_key_a, F_size_a, V_hp, V_pp, V_ky⟩)

def Q_rmPo1 (Z : State) (a hp pp ky : Addr) (q : HP) (K : Int32 → UInt64) (bt : Int32 → Int32 → Bool) (f : Int32) (h0 : Heap) (n0 : Nat) (v : Option Value) (h : Heap) (L : List Loc) : Prop := v = some (.int f) ∧ Fr n0 L ∧ Keep h0 h [a, hp, pp, ky] ∧ NH Z h a hp pp ky (0 : Int32) (po1 bt q) K
set_option maxRecDepth 65536 in
set_option maxHeartbeats 40000000 in
theorem rmPo1 (l : Launch) (Z : State) (a0 : Array Value) (hw : ∀ d ∈ tables_1, d.before a0 Z = true) (ws : List Jvm.Cond) (a hp pp ky : Addr) (q : HP) (K : Int32 → UInt64) (bt : Int32 → Int32 → Bool) (f : Int32) (h0 : Heap) (n0 : Nat) (Zs : n0 ≤ h0.size) (hf : q.1 0 = f) (NQ : NH Z h0 a hp pp ky (1 : Int32) q K) (DD : Dis n0 a hp pp ky) (ii : I4 1 q) (hbb : HB 0 K bt q) :
    Con l (⟨"com/example/tributary/tributary/plan/NodeHeap", "poll", "()I"⟩ : MethodName) prog_39_method_4_code 2 (some .int) ws ({ frames := 2, cells := 0, slots := 0, locals := 48 } : Room) Z #[(.ref a)] h0 ({ frames := 2, cells := 0, slots := 0, locals := 48 } : Room).cells ({ frames := 2, cells := 0, slots := 0, locals := 48 } : Room).slots (Q_rmPo1 Z a hp pp ky q K bt f h0 n0) := by
  refine Con.of (Ls := #[.val (.ref a), .unset]) (plainFor_of_name (by first | (simp [plainName, overriddenIn]; done) | decide +kernel)) (fun m => by first | (simp [entryFrame, mkF, argsToLocals, Value.category]; done) | rfl) ?_
  intro p e s m below meth c s₁ G hGe hG hx hby hml hown hnm hrt hlk hZ X0 e0
  have hown : s.vm.findClass "com/example/tributary/tributary/plan/NodeHeap" = some m.cls := hown
  have hnm : meth.name = "poll" := hnm
  have NF0 := Fr.nil n0
  obtain ⟨Ex_a, F_heap_a, F_position_a, F_key_a, F_size_a, V_hp, V_pp, V_ky⟩ := NQ
  obtain ⟨ga, ghp, gpp, gky, d1, d2, d3, d4, d5, d6⟩ := DD
  have K0 := Keep.refl h0 [a, hp, pp, ky]
  refine g_aloadN hG X0 hx (hb hby d12_0) (pc' := 1) rfl rfl rfl ?_
  show G (s₁.setTop (mkF m 1 #[.val (.ref a), .unset] [(.ref a)]))
  refine g_getF hG X0 hx hZ hown (wd hw 11 rfl) Via.refl e0 F_heap_a (hb hby d12_1) (pc' := 4) rfl ?_
  intro T1 X1 e1
  show G (T1.setTop (mkF m 4 #[.val (.ref a), .unset] [(.ref hp)]))
  refine g_iconst hG X1 hx (hb hby d12_4) (pc' := 5) rfl (v := (0 : Int32)) rfl ?_
  show G (T1.setTop (mkF m 5 #[.val (.ref a), .unset] [(.int 0), (.ref hp)]))
  refine g_iaload hG X1 hx hZ e1 V_hp (j := (0 : Int32)) (v := (.int (q.1 (0 : Int32)))) (in4_nn in4_0) (in4_at in4_0 rfl) (hb hby d12_5) (pc' := 6) rfl ?_
  show G (T1.setTop (mkF m 6 #[.val (.ref a), .unset] [(.int (q.1 (0 : Int32)))]))
  refine g_istoreN hG X1 hx (hb hby d12_6) (pc' := 7) rfl (Ls' := #[.val (.ref a), .val (.int (q.1 (0 : Int32)))]) rfl ?_
  show G (T1.setTop (mkF m 7 #[.val (.ref a), .val (.int (q.1 (0 : Int32)))] []))
  refine g_aloadN hG X1 hx (hb hby d12_7) (pc' := 8) rfl rfl rfl ?_
  show G (T1.setTop (mkF m 8 #[.val (.ref a), .val (.int (q.1 (0 : Int32)))] [(.ref a)]))
  refine g_getF hG X1 hx hZ hown (wd hw 13 rfl) Via.refl e1 F_position_a (hb hby d12_8) (pc' := 11) rfl ?_
  intro T2 X2 e2
  show G (T2.setTop (mkF m 11 #[.val (.ref a), .val (.int (q.1 (0 : Int32)))] [(.ref pp)]))
  refine g_iloadN hG X2 hx (hb hby d12_11) (pc' := 12) rfl rfl ?_
  show G (T2.setTop (mkF m 12 #[.val (.ref a), .val (.int (q.1 (0 : Int32)))] [(.int (q.1 (0 : Int32))), (.ref pp)]))
  refine g_iconst hG X2 hx (hb hby d12_12) (pc' := 13) rfl (v := (-1 : Int32)) rfl ?_
  show G (T2.setTop (mkF m 13 #[.val (.ref a), .val (.int (q.1 (0 : Int32)))] [(.int (-1)), (.int (q.1 (0 : Int32))), (.ref pp)]))
  refine g_iastore hG X2 hx hZ e2 V_pp (j := (q.1 (0 : Int32))) (in4_nn (show In4 (q.1 (0 : Int32)) from ii 0 (by decide))) (in4_len (show In4 (q.1 (0 : Int32)) from ii 0 (by decide))) (hb hby d12_13) (pc' := 14) rfl ?_
  intro T3 h3 X3 e3 W3 Vn3
  rw [in4_set (show In4 (q.1 (0 : Int32)) from ii 0 (by decide))] at Vn3
  have V_pp : AV Z h3 pp .int (4 : Int32) (fn4 (upd q.2 (q.1 (0 : Int32)) (-1 : Int32))) := Vn3
  have Ex_a := Ex_a.wr W3
  have F_heap_a := F_heap_a.other W3 (Or.inl d2)
  have F_position_a := F_position_a.other W3 (Or.inl d2)
  have F_key_a := F_key_a.other W3 (Or.inl d2)
  have F_size_a := F_size_a.other W3 (Or.inl d2)
  have V_hp := V_hp.other W3 d4
  have V_ky := V_ky.other W3 (Ne.symm d6)
  have Zs := Nat.le_trans Zs (Wr.size W3)
  have NF3 := Fr.snoc X3 NF0 gpp
  have K3 := K0.wr W3 (Or.inl (List.mem_of_getElem? (i := 2) rfl))
  show G (T3.setTop (mkF m 14 #[.val (.ref a), .val (.int (q.1 (0 : Int32)))] []))
  refine g_aloadN hG X3 hx (hb hby d12_14) (pc' := 15) rfl rfl rfl ?_
  show G (T3.setTop (mkF m 15 #[.val (.ref a), .val (.int (q.1 (0 : Int32)))] [(.ref a)]))
  refine g_dup hG X3 hx (hb hby d12_15) (pc' := 16) rfl rfl ?_
  show G (T3.setTop (mkF m 16 #[.val (.ref a), .val (.int (q.1 (0 : Int32)))] [(.ref a), (.ref a)]))
  refine g_getF hG X3 hx hZ hown (wd hw 27 rfl) Via.refl e3 F_size_a (hb hby d12_16) (pc' := 19) rfl ?_
  intro T4 X4 e4
  show G (T4.setTop (mkF m 19 #[.val (.ref a), .val (.int (q.1 (0 : Int32)))] [(.int 1), (.ref a)]))
  refine g_iconst hG X4 hx (hb hby d12_19) (pc' := 20) rfl (v := (1 : Int32)) rfl ?_
  show G (T4.setTop (mkF m 20 #[.val (.ref a), .val (.int (q.1 (0 : Int32)))] [(.int 1), (.int 1), (.ref a)]))
  refine g_isub hG X4 hx (hb hby d12_20) (pc' := 21) rfl (v := (0 : Int32)) (by decide) ?_
  show G (T4.setTop (mkF m 21 #[.val (.ref a), .val (.int (q.1 (0 : Int32)))] [(.int 0), (.ref a)]))
  refine g_putF hG X4 hx hZ hown (wd hw 27 rfl) Via.refl e4 F_size_a Ex_a (Or.inl (wd hw 28 rfl)) (wd hw 3 rfl) (v' := (.int 0)) (ty := .int) (by decide) rfl rfl (hb hby d12_21) (pc' := 24) rfl ?_
  intro T5 h5 X5 e5 W5
  have Ex_a := Ex_a.wr W5
  have F_heap_a := F_heap_a.other W5 (Or.inr (slot_ne (Or.inr (wd hw 12 rfl)) (Or.inl (wd hw 28 rfl)) (by decide) (t := (.array .int)) (t' := .int) (by decide) (by decide)))
  have F_position_a := F_position_a.other W5 (Or.inr (slot_ne (Or.inr (wd hw 14 rfl)) (Or.inl (wd hw 28 rfl)) (by decide) (t := (.array .int)) (t' := .int) (by decide) (by decide)))
  have F_key_a := F_key_a.other W5 (Or.inr (slot_ne (Or.inr (wd hw 17 rfl)) (Or.inl (wd hw 28 rfl)) (by decide) (t := (.array .double)) (t' := .int) (by decide) (by decide)))
  have F_size_a := F_size_a.same W5
  have V_hp := V_hp.other W5 (Ne.symm d1)
  have V_pp := V_pp.other W5 (Ne.symm d2)
  have V_ky := V_ky.other W5 (Ne.symm d3)
  have Zs := Nat.le_trans Zs (Wr.size W5)
  have NF5 := Fr.snoc X5 NF3 ga
  have K5 := K3.wr W5 (Or.inl (List.mem_of_getElem? (i := 0) rfl))
  show G (T5.setTop (mkF m 24 #[.val (.ref a), .val (.int (q.1 (0 : Int32)))] []))
  refine g_aloadN hG X5 hx (hb hby d12_24) (pc' := 25) rfl rfl rfl ?_
  show G (T5.setTop (mkF m 25 #[.val (.ref a), .val (.int (q.1 (0 : Int32)))] [(.ref a)]))
  refine g_getF hG X5 hx hZ hown (wd hw 27 rfl) Via.refl e5 F_size_a (hb hby d12_25) (pc' := 28) rfl ?_
  intro T6 X6 e6
  show G (T6.setTop (mkF m 28 #[.val (.ref a), .val (.int (q.1 (0 : Int32)))] [(.int 0)]))
  refine g_ifYes hG X6 hx (hb hby d12_28) (pc' := 63) (by decide) (by decide) (by decide) ?_
  show G (T6.setTop (mkF m 63 #[.val (.ref a), .val (.int (q.1 (0 : Int32)))] []))
  refine g_iloadN hG X6 hx (hb hby d12_63) (pc' := 64) rfl rfl ?_
  show G (T6.setTop (mkF m 64 #[.val (.ref a), .val (.int (q.1 (0 : Int32)))] [(.int (q.1 (0 : Int32)))]))
  exact e_retI hGe X6 hx hrt hlk (hb hby d12_64) e6 (by decide) (by decide) (⟨by rw [hf], NF5, K5, Ex_a, F_heap_a, F_position_a, F_key_a, F_size_a, V_hp, V_pp, V_ky⟩)

def Q_rmPo2 (Z : State) (a hp pp ky : Addr) (q : HP) (K : Int32 → UInt64) (bt : Int32 → Int32 → Bool) (f : Int32) (h0 : Heap) (n0 : Nat) (v : Option Value) (h : Heap) (L : List Loc) : Prop := v = some (.int f) ∧ Fr n0 L ∧ Keep h0 h [a, hp, pp, ky] ∧ NH Z h a hp pp ky (1 : Int32) (po2 bt q) K
set_option maxRecDepth 65536 in
set_option maxHeartbeats 40000000 in
theorem rmPo2 (l : Launch) (Z : State) (a0 : Array Value) (hw : ∀ d ∈ tables_1, d.before a0 Z = true) (ws : List Jvm.Cond) (a hp pp ky : Addr) (q : HP) (K : Int32 → UInt64) (bt : Int32 → Int32 → Bool) (f : Int32) (h0 : Heap) (n0 : Nat) (Zs : n0 ≤ h0.size) (hf : q.1 0 = f) (NQ : NH Z h0 a hp pp ky (2 : Int32) q K) (DD : Dis n0 a hp pp ky) (ii : I4 2 q) (hbb : HB 0 K bt q) :
    Con l (⟨"com/example/tributary/tributary/plan/NodeHeap", "poll", "()I"⟩ : MethodName) prog_39_method_4_code 2 (some .int) ws ({ frames := 2, cells := 0, slots := 0, locals := 48 } : Room) Z #[(.ref a)] h0 ({ frames := 2, cells := 0, slots := 0, locals := 48 } : Room).cells ({ frames := 2, cells := 0, slots := 0, locals := 48 } : Room).slots (Q_rmPo2 Z a hp pp ky q K bt f h0 n0) := by
  refine Con.of (Ls := #[.val (.ref a), .unset]) (plainFor_of_name (by first | (simp [plainName, overriddenIn]; done) | decide +kernel)) (fun m => by first | (simp [entryFrame, mkF, argsToLocals, Value.category]; done) | rfl) ?_
  intro p e s m below meth c s₁ G hGe hG hx hby hml hown hnm hrt hlk hZ X0 e0
  have hown : s.vm.findClass "com/example/tributary/tributary/plan/NodeHeap" = some m.cls := hown
  have hnm : meth.name = "poll" := hnm
  have NF0 := Fr.nil n0
  obtain ⟨Ex_a, F_heap_a, F_position_a, F_key_a, F_size_a, V_hp, V_pp, V_ky⟩ := NQ
  obtain ⟨ga, ghp, gpp, gky, d1, d2, d3, d4, d5, d6⟩ := DD
  have K0 := Keep.refl h0 [a, hp, pp, ky]
  refine g_aloadN hG X0 hx (hb hby d12_0) (pc' := 1) rfl rfl rfl ?_
  show G (s₁.setTop (mkF m 1 #[.val (.ref a), .unset] [(.ref a)]))
  refine g_getF hG X0 hx hZ hown (wd hw 11 rfl) Via.refl e0 F_heap_a (hb hby d12_1) (pc' := 4) rfl ?_
  intro T1 X1 e1
  show G (T1.setTop (mkF m 4 #[.val (.ref a), .unset] [(.ref hp)]))
  refine g_iconst hG X1 hx (hb hby d12_4) (pc' := 5) rfl (v := (0 : Int32)) rfl ?_
  show G (T1.setTop (mkF m 5 #[.val (.ref a), .unset] [(.int 0), (.ref hp)]))
  refine g_iaload hG X1 hx hZ e1 V_hp (j := (0 : Int32)) (v := (.int (q.1 (0 : Int32)))) (in4_nn in4_0) (in4_at in4_0 rfl) (hb hby d12_5) (pc' := 6) rfl ?_
  show G (T1.setTop (mkF m 6 #[.val (.ref a), .unset] [(.int (q.1 (0 : Int32)))]))
  refine g_istoreN hG X1 hx (hb hby d12_6) (pc' := 7) rfl (Ls' := #[.val (.ref a), .val (.int (q.1 (0 : Int32)))]) rfl ?_
  show G (T1.setTop (mkF m 7 #[.val (.ref a), .val (.int (q.1 (0 : Int32)))] []))
  refine g_aloadN hG X1 hx (hb hby d12_7) (pc' := 8) rfl rfl rfl ?_
  show G (T1.setTop (mkF m 8 #[.val (.ref a), .val (.int (q.1 (0 : Int32)))] [(.ref a)]))
  refine g_getF hG X1 hx hZ hown (wd hw 13 rfl) Via.refl e1 F_position_a (hb hby d12_8) (pc' := 11) rfl ?_
  intro T2 X2 e2
  show G (T2.setTop (mkF m 11 #[.val (.ref a), .val (.int (q.1 (0 : Int32)))] [(.ref pp)]))
  refine g_iloadN hG X2 hx (hb hby d12_11) (pc' := 12) rfl rfl ?_
  show G (T2.setTop (mkF m 12 #[.val (.ref a), .val (.int (q.1 (0 : Int32)))] [(.int (q.1 (0 : Int32))), (.ref pp)]))
  refine g_iconst hG X2 hx (hb hby d12_12) (pc' := 13) rfl (v := (-1 : Int32)) rfl ?_
  show G (T2.setTop (mkF m 13 #[.val (.ref a), .val (.int (q.1 (0 : Int32)))] [(.int (-1)), (.int (q.1 (0 : Int32))), (.ref pp)]))
  refine g_iastore hG X2 hx hZ e2 V_pp (j := (q.1 (0 : Int32))) (in4_nn (show In4 (q.1 (0 : Int32)) from ii 0 (by decide))) (in4_len (show In4 (q.1 (0 : Int32)) from ii 0 (by decide))) (hb hby d12_13) (pc' := 14) rfl ?_
  intro T3 h3 X3 e3 W3 Vn3
  rw [in4_set (show In4 (q.1 (0 : Int32)) from ii 0 (by decide))] at Vn3
  have V_pp : AV Z h3 pp .int (4 : Int32) (fn4 (upd q.2 (q.1 (0 : Int32)) (-1 : Int32))) := Vn3
  have Ex_a := Ex_a.wr W3
  have F_heap_a := F_heap_a.other W3 (Or.inl d2)
  have F_position_a := F_position_a.other W3 (Or.inl d2)
  have F_key_a := F_key_a.other W3 (Or.inl d2)
  have F_size_a := F_size_a.other W3 (Or.inl d2)
  have V_hp := V_hp.other W3 d4
  have V_ky := V_ky.other W3 (Ne.symm d6)
  have Zs := Nat.le_trans Zs (Wr.size W3)
  have NF3 := Fr.snoc X3 NF0 gpp
  have K3 := K0.wr W3 (Or.inl (List.mem_of_getElem? (i := 2) rfl))
  show G (T3.setTop (mkF m 14 #[.val (.ref a), .val (.int (q.1 (0 : Int32)))] []))
  refine g_aloadN hG X3 hx (hb hby d12_14) (pc' := 15) rfl rfl rfl ?_
  show G (T3.setTop (mkF m 15 #[.val (.ref a), .val (.int (q.1 (0 : Int32)))] [(.ref a)]))
  refine g_dup hG X3 hx (hb hby d12_15) (pc' := 16) rfl rfl ?_
  show G (T3.setTop (mkF m 16 #[.val (.ref a), .val (.int (q.1 (0 : Int32)))] [(.ref a), (.ref a)]))
  refine g_getF hG X3 hx hZ hown (wd hw 27 rfl) Via.refl e3 F_size_a (hb hby d12_16) (pc' := 19) rfl ?_
  intro T4 X4 e4
  show G (T4.setTop (mkF m 19 #[.val (.ref a), .val (.int (q.1 (0 : Int32)))] [(.int 2), (.ref a)]))
  refine g_iconst hG X4 hx (hb hby d12_19) (pc' := 20) rfl (v := (1 : Int32)) rfl ?_
  show G (T4.setTop (mkF m 20 #[.val (.ref a), .val (.int (q.1 (0 : Int32)))] [(.int 1), (.int 2), (.ref a)]))
  refine g_isub hG X4 hx (hb hby d12_20) (pc' := 21) rfl (v := (1 : Int32)) (by decide) ?_
  show G (T4.setTop (mkF m 21 #[.val (.ref a), .val (.int (q.1 (0 : Int32)))] [(.int 1), (.ref a)]))
  refine g_putF hG X4 hx hZ hown (wd hw 27 rfl) Via.refl e4 F_size_a Ex_a (Or.inl (wd hw 28 rfl)) (wd hw 3 rfl) (v' := (.int 1)) (ty := .int) (by decide) rfl rfl (hb hby d12_21) (pc' := 24) rfl ?_
  intro T5 h5 X5 e5 W5
  have Ex_a := Ex_a.wr W5
  have F_heap_a := F_heap_a.other W5 (Or.inr (slot_ne (Or.inr (wd hw 12 rfl)) (Or.inl (wd hw 28 rfl)) (by decide) (t := (.array .int)) (t' := .int) (by decide) (by decide)))
  have F_position_a := F_position_a.other W5 (Or.inr (slot_ne (Or.inr (wd hw 14 rfl)) (Or.inl (wd hw 28 rfl)) (by decide) (t := (.array .int)) (t' := .int) (by decide) (by decide)))
  have F_key_a := F_key_a.other W5 (Or.inr (slot_ne (Or.inr (wd hw 17 rfl)) (Or.inl (wd hw 28 rfl)) (by decide) (t := (.array .double)) (t' := .int) (by decide) (by decide)))
  have F_size_a := F_size_a.same W5
  have V_hp := V_hp.other W5 (Ne.symm d1)
  have V_pp := V_pp.other W5 (Ne.symm d2)
  have V_ky := V_ky.other W5 (Ne.symm d3)
  have Zs := Nat.le_trans Zs (Wr.size W5)
  have NF5 := Fr.snoc X5 NF3 ga
  have K5 := K3.wr W5 (Or.inl (List.mem_of_getElem? (i := 0) rfl))
  show G (T5.setTop (mkF m 24 #[.val (.ref a), .val (.int (q.1 (0 : Int32)))] []))
  refine g_aloadN hG X5 hx (hb hby d12_24) (pc' := 25) rfl rfl rfl ?_
  show G (T5.setTop (mkF m 25 #[.val (.ref a), .val (.int (q.1 (0 : Int32)))] [(.ref a)]))
  refine g_getF hG X5 hx hZ hown (wd hw 27 rfl) Via.refl e5 F_size_a (hb hby d12_25) (pc' := 28) rfl ?_
  intro T6 X6 e6
  show G (T6.setTop (mkF m 28 #[.val (.ref a), .val (.int (q.1 (0 : Int32)))] [(.int 1)]))
  refine g_ifNo hG X6 hx (hb hby d12_28) (pc' := 31) (by decide) rfl ?_
  show G (T6.setTop (mkF m 31 #[.val (.ref a), .val (.int (q.1 (0 : Int32)))] []))
  refine g_aloadN hG X6 hx (hb hby d12_31) (pc' := 32) rfl rfl rfl ?_
  show G (T6.setTop (mkF m 32 #[.val (.ref a), .val (.int (q.1 (0 : Int32)))] [(.ref a)]))
  refine g_getF hG X6 hx hZ hown (wd hw 11 rfl) Via.refl e6 F_heap_a (hb hby d12_32) (pc' := 35) rfl ?_
  intro T7 X7 e7
  show G (T7.setTop (mkF m 35 #[.val (.ref a), .val (.int (q.1 (0 : Int32)))] [(.ref hp)]))
  refine g_iconst hG X7 hx (hb hby d12_35) (pc' := 36) rfl (v := (0 : Int32)) rfl ?_
  show G (T7.setTop (mkF m 36 #[.val (.ref a), .val (.int (q.1 (0 : Int32)))] [(.int 0), (.ref hp)]))
  refine g_aloadN hG X7 hx (hb hby d12_36) (pc' := 37) rfl rfl rfl ?_
  show G (T7.setTop (mkF m 37 #[.val (.ref a), .val (.int (q.1 (0 : Int32)))] [(.ref a), (.int 0), (.ref hp)]))
  refine g_getF hG X7 hx hZ hown (wd hw 11 rfl) Via.refl e7 F_heap_a (hb hby d12_37) (pc' := 40) rfl ?_
  intro T8 X8 e8
  show G (T8.setTop (mkF m 40 #[.val (.ref a), .val (.int (q.1 (0 : Int32)))] [(.ref hp), (.int 0), (.ref hp)]))
  refine g_aloadN hG X8 hx (hb hby d12_40) (pc' := 41) rfl rfl rfl ?_
  show G (T8.setTop (mkF m 41 #[.val (.ref a), .val (.int (q.1 (0 : Int32)))] [(.ref a), (.ref hp), (.int 0), (.ref hp)]))
  refine g_getF hG X8 hx hZ hown (wd hw 27 rfl) Via.refl e8 F_size_a (hb hby d12_41) (pc' := 44) rfl ?_
  intro T9 X9 e9
  show G (T9.setTop (mkF m 44 #[.val (.ref a), .val (.int (q.1 (0 : Int32)))] [(.int 1), (.ref hp), (.int 0), (.ref hp)]))
  refine g_iaload hG X9 hx hZ e9 V_hp (j := (1 : Int32)) (v := (.int (q.1 (1 : Int32)))) (in4_nn in4_1) (in4_at in4_1 rfl) (hb hby d12_44) (pc' := 45) rfl ?_
  show G (T9.setTop (mkF m 45 #[.val (.ref a), .val (.int (q.1 (0 : Int32)))] [(.int (q.1 (1 : Int32))), (.int 0), (.ref hp)]))
  refine g_iastore hG X9 hx hZ e9 V_hp (j := (0 : Int32)) (in4_nn in4_0) (in4_len in4_0) (hb hby d12_45) (pc' := 46) rfl ?_
  intro T10 h10 X10 e10 W10 Vn10
  rw [in4_set in4_0] at Vn10
  have V_hp : AV Z h10 hp .int (4 : Int32) (fn4 (upd q.1 (0 : Int32) (q.1 (1 : Int32)))) := Vn10
  have Ex_a := Ex_a.wr W10
  have F_heap_a := F_heap_a.other W10 (Or.inl d1)
  have F_position_a := F_position_a.other W10 (Or.inl d1)
  have F_key_a := F_key_a.other W10 (Or.inl d1)
  have F_size_a := F_size_a.other W10 (Or.inl d1)
  have V_pp := V_pp.other W10 (Ne.symm d4)
  have V_ky := V_ky.other W10 (Ne.symm d5)
  have Zs := Nat.le_trans Zs (Wr.size W10)
  have NF10 := Fr.snoc X10 NF5 ghp
  have K10 := K5.wr W10 (Or.inl (List.mem_of_getElem? (i := 1) rfl))
  show G (T10.setTop (mkF m 46 #[.val (.ref a), .val (.int (q.1 (0 : Int32)))] []))
  refine g_aloadN hG X10 hx (hb hby d12_46) (pc' := 47) rfl rfl rfl ?_
  show G (T10.setTop (mkF m 47 #[.val (.ref a), .val (.int (q.1 (0 : Int32)))] [(.ref a)]))
  refine g_getF hG X10 hx hZ hown (wd hw 13 rfl) Via.refl e10 F_position_a (hb hby d12_47) (pc' := 50) rfl ?_
  intro T11 X11 e11
  show G (T11.setTop (mkF m 50 #[.val (.ref a), .val (.int (q.1 (0 : Int32)))] [(.ref pp)]))
  refine g_aloadN hG X11 hx (hb hby d12_50) (pc' := 51) rfl rfl rfl ?_
  show G (T11.setTop (mkF m 51 #[.val (.ref a), .val (.int (q.1 (0 : Int32)))] [(.ref a), (.ref pp)]))
  refine g_getF hG X11 hx hZ hown (wd hw 11 rfl) Via.refl e11 F_heap_a (hb hby d12_51) (pc' := 54) rfl ?_
  intro T12 X12 e12
  show G (T12.setTop (mkF m 54 #[.val (.ref a), .val (.int (q.1 (0 : Int32)))] [(.ref hp), (.ref pp)]))
  refine g_iconst hG X12 hx (hb hby d12_54) (pc' := 55) rfl (v := (0 : Int32)) rfl ?_
  show G (T12.setTop (mkF m 55 #[.val (.ref a), .val (.int (q.1 (0 : Int32)))] [(.int 0), (.ref hp), (.ref pp)]))
  refine g_iaload hG X12 hx hZ e12 V_hp (j := (0 : Int32)) (v := (.int (q.1 (1 : Int32)))) (in4_nn in4_0) (in4_at in4_0 rfl) (hb hby d12_55) (pc' := 56) rfl ?_
  show G (T12.setTop (mkF m 56 #[.val (.ref a), .val (.int (q.1 (0 : Int32)))] [(.int (q.1 (1 : Int32))), (.ref pp)]))
  refine g_iconst hG X12 hx (hb hby d12_56) (pc' := 57) rfl (v := (0 : Int32)) rfl ?_
  show G (T12.setTop (mkF m 57 #[.val (.ref a), .val (.int (q.1 (0 : Int32)))] [(.int 0), (.int (q.1 (1 : Int32))), (.ref pp)]))
  refine g_iastore hG X12 hx hZ e12 V_pp (j := (q.1 (1 : Int32))) (in4_nn (show In4 (q.1 (1 : Int32)) from ii 1 (by decide))) (in4_len (show In4 (q.1 (1 : Int32)) from ii 1 (by decide))) (hb hby d12_57) (pc' := 58) rfl ?_
  intro T13 h13 X13 e13 W13 Vn13
  rw [in4_set (show In4 (q.1 (1 : Int32)) from ii 1 (by decide))] at Vn13
  have V_pp : AV Z h13 pp .int (4 : Int32) (fn4 (upd (upd q.2 (q.1 (0 : Int32)) (-1 : Int32)) (q.1 (1 : Int32)) (0 : Int32))) := Vn13
  have Ex_a := Ex_a.wr W13
  have F_heap_a := F_heap_a.other W13 (Or.inl d2)
  have F_position_a := F_position_a.other W13 (Or.inl d2)
  have F_key_a := F_key_a.other W13 (Or.inl d2)
  have F_size_a := F_size_a.other W13 (Or.inl d2)
  have V_hp := V_hp.other W13 d4
  have V_ky := V_ky.other W13 (Ne.symm d6)
  have Zs := Nat.le_trans Zs (Wr.size W13)
  have NF13 := Fr.snoc X13 NF10 gpp
  have K13 := K10.wr W13 (Or.inl (List.mem_of_getElem? (i := 2) rfl))
  show G (T13.setTop (mkF m 58 #[.val (.ref a), .val (.int (q.1 (0 : Int32)))] []))
  refine g_aloadN hG X13 hx (hb hby d12_58) (pc' := 59) rfl rfl rfl ?_
  show G (T13.setTop (mkF m 59 #[.val (.ref a), .val (.int (q.1 (0 : Int32)))] [(.ref a)]))
  refine g_iconst hG X13 hx (hb hby d12_59) (pc' := 60) rfl (v := (0 : Int32)) rfl ?_
  show G (T13.setTop (mkF m 60 #[.val (.ref a), .val (.int (q.1 (0 : Int32)))] [(.int 0), (.ref a)]))
  have ii2 : I4 1 (ps2 q) := fun j hj => match j, hj with
        | 0, _ => ii 1 (by decide)
  have hb2 : HB 0 K bt (ps2 q) := own_HB0
  refine g_callP hG X13 hx hZ (y := (⟨"com/example/tributary/tributary/plan/NodeHeap", "sink", "(I)V"⟩ : MethodName)) 0 hown (wd hw 59 rfl) (wd hw 60 rfl) (wd hw 3 rfl) (wd hw 61 rfl) (wd hw 4 rfl) (wd hw 62 rfl) (by decide) (rmSk1 l Z a0 hw [] a hp pp ky (ps2 q) K bt h13 n0 Zs ⟨Ex_a, F_heap_a, F_position_a, F_key_a, F_size_a, V_hp, V_pp, V_ky⟩ ⟨ga, ghp, gpp, gky, d1, d2, d3, d4, d5, d6⟩ ii2 hb2) (by decide) (by decide) (by rw [hml]; rfl) pd_3 rfl (argsL := [(.int 0)]) (rest := []) rfl rfl (Nat.le_of_eq rfl) (hb hby d12_60) e13 Ex_a (by decide) (by decide) (pc' := 63) rfl ?_
  intro T14 rv14 L14 X14 hQ14
  obtain ⟨rfl, Nq14, Kq14, Ex_a, F_heap_a, F_position_a, F_key_a, F_size_a, V_hp, V_pp, V_ky⟩ := hQ14
  have NF14 := Fr.app NF13 Nq14
  have Zs := Nat.le_trans Zs Kq14.1
  have K14 := K13.trans Kq14 (allS (Or.inl (List.mem_of_getElem? (i := 0) rfl)) (allS (Or.inl (List.mem_of_getElem? (i := 1) rfl)) (allS (Or.inl (List.mem_of_getElem? (i := 2) rfl)) (allS (Or.inl (List.mem_of_getElem? (i := 3) rfl)) all0))))
  show G (T14.setTop (mkF m 63 #[.val (.ref a), .val (.int (q.1 (0 : Int32)))] []))
  refine g_iloadN hG X14 hx (hb hby d12_63) (pc' := 64) rfl rfl ?_
  show G (T14.setTop (mkF m 64 #[.val (.ref a), .val (.int (q.1 (0 : Int32)))] [(.int (q.1 (0 : Int32)))]))
  exact e_retI hGe X14 hx hrt hlk (hb hby d12_64) rfl (by decide) (by decide) (⟨by rw [hf], NF14, K14, Ex_a, F_heap_a, F_position_a, F_key_a, F_size_a, V_hp, V_pp, V_ky⟩)

def Q_rmPo3 (Z : State) (a hp pp ky : Addr) (q : HP) (K : Int32 → UInt64) (bt : Int32 → Int32 → Bool) (f : Int32) (h0 : Heap) (n0 : Nat) (v : Option Value) (h : Heap) (L : List Loc) : Prop := v = some (.int f) ∧ Fr n0 L ∧ Keep h0 h [a, hp, pp, ky] ∧ NH Z h a hp pp ky (2 : Int32) (po3 bt q) K
set_option maxRecDepth 65536 in
set_option maxHeartbeats 40000000 in
theorem rmPo3 (l : Launch) (Z : State) (a0 : Array Value) (hw : ∀ d ∈ tables_1, d.before a0 Z = true) (ws : List Jvm.Cond) (a hp pp ky : Addr) (q : HP) (K : Int32 → UInt64) (bt : Int32 → Int32 → Bool) (f : Int32) (h0 : Heap) (n0 : Nat) (Zs : n0 ≤ h0.size) (hf : q.1 0 = f) (NQ : NH Z h0 a hp pp ky (3 : Int32) q K) (DD : Dis n0 a hp pp ky) (ii : I4 3 q) (hbb : HB 3 K bt q) :
    Con l (⟨"com/example/tributary/tributary/plan/NodeHeap", "poll", "()I"⟩ : MethodName) prog_39_method_4_code 2 (some .int) ws ({ frames := 2, cells := 0, slots := 0, locals := 48 } : Room) Z #[(.ref a)] h0 ({ frames := 2, cells := 0, slots := 0, locals := 48 } : Room).cells ({ frames := 2, cells := 0, slots := 0, locals := 48 } : Room).slots (Q_rmPo3 Z a hp pp ky q K bt f h0 n0) := by
  refine Con.of (Ls := #[.val (.ref a), .unset]) (plainFor_of_name (by first | (simp [plainName, overriddenIn]; done) | decide +kernel)) (fun m => by first | (simp [entryFrame, mkF, argsToLocals, Value.category]; done) | rfl) ?_
  intro p e s m below meth c s₁ G hGe hG hx hby hml hown hnm hrt hlk hZ X0 e0
  have hown : s.vm.findClass "com/example/tributary/tributary/plan/NodeHeap" = some m.cls := hown
  have hnm : meth.name = "poll" := hnm
  have NF0 := Fr.nil n0
  obtain ⟨Ex_a, F_heap_a, F_position_a, F_key_a, F_size_a, V_hp, V_pp, V_ky⟩ := NQ
  obtain ⟨ga, ghp, gpp, gky, d1, d2, d3, d4, d5, d6⟩ := DD
  have K0 := Keep.refl h0 [a, hp, pp, ky]
  refine g_aloadN hG X0 hx (hb hby d12_0) (pc' := 1) rfl rfl rfl ?_
  show G (s₁.setTop (mkF m 1 #[.val (.ref a), .unset] [(.ref a)]))
  refine g_getF hG X0 hx hZ hown (wd hw 11 rfl) Via.refl e0 F_heap_a (hb hby d12_1) (pc' := 4) rfl ?_
  intro T1 X1 e1
  show G (T1.setTop (mkF m 4 #[.val (.ref a), .unset] [(.ref hp)]))
  refine g_iconst hG X1 hx (hb hby d12_4) (pc' := 5) rfl (v := (0 : Int32)) rfl ?_
  show G (T1.setTop (mkF m 5 #[.val (.ref a), .unset] [(.int 0), (.ref hp)]))
  refine g_iaload hG X1 hx hZ e1 V_hp (j := (0 : Int32)) (v := (.int (q.1 (0 : Int32)))) (in4_nn in4_0) (in4_at in4_0 rfl) (hb hby d12_5) (pc' := 6) rfl ?_
  show G (T1.setTop (mkF m 6 #[.val (.ref a), .unset] [(.int (q.1 (0 : Int32)))]))
  refine g_istoreN hG X1 hx (hb hby d12_6) (pc' := 7) rfl (Ls' := #[.val (.ref a), .val (.int (q.1 (0 : Int32)))]) rfl ?_
  show G (T1.setTop (mkF m 7 #[.val (.ref a), .val (.int (q.1 (0 : Int32)))] []))
  refine g_aloadN hG X1 hx (hb hby d12_7) (pc' := 8) rfl rfl rfl ?_
  show G (T1.setTop (mkF m 8 #[.val (.ref a), .val (.int (q.1 (0 : Int32)))] [(.ref a)]))
  refine g_getF hG X1 hx hZ hown (wd hw 13 rfl) Via.refl e1 F_position_a (hb hby d12_8) (pc' := 11) rfl ?_
  intro T2 X2 e2
  show G (T2.setTop (mkF m 11 #[.val (.ref a), .val (.int (q.1 (0 : Int32)))] [(.ref pp)]))
  refine g_iloadN hG X2 hx (hb hby d12_11) (pc' := 12) rfl rfl ?_
  show G (T2.setTop (mkF m 12 #[.val (.ref a), .val (.int (q.1 (0 : Int32)))] [(.int (q.1 (0 : Int32))), (.ref pp)]))
  refine g_iconst hG X2 hx (hb hby d12_12) (pc' := 13) rfl (v := (-1 : Int32)) rfl ?_
  show G (T2.setTop (mkF m 13 #[.val (.ref a), .val (.int (q.1 (0 : Int32)))] [(.int (-1)), (.int (q.1 (0 : Int32))), (.ref pp)]))
  refine g_iastore hG X2 hx hZ e2 V_pp (j := (q.1 (0 : Int32))) (in4_nn (show In4 (q.1 (0 : Int32)) from ii 0 (by decide))) (in4_len (show In4 (q.1 (0 : Int32)) from ii 0 (by decide))) (hb hby d12_13) (pc' := 14) rfl ?_
  intro T3 h3 X3 e3 W3 Vn3
  rw [in4_set (show In4 (q.1 (0 : Int32)) from ii 0 (by decide))] at Vn3
  have V_pp : AV Z h3 pp .int (4 : Int32) (fn4 (upd q.2 (q.1 (0 : Int32)) (-1 : Int32))) := Vn3
  have Ex_a := Ex_a.wr W3
  have F_heap_a := F_heap_a.other W3 (Or.inl d2)
  have F_position_a := F_position_a.other W3 (Or.inl d2)
  have F_key_a := F_key_a.other W3 (Or.inl d2)
  have F_size_a := F_size_a.other W3 (Or.inl d2)
  have V_hp := V_hp.other W3 d4
  have V_ky := V_ky.other W3 (Ne.symm d6)
  have Zs := Nat.le_trans Zs (Wr.size W3)
  have NF3 := Fr.snoc X3 NF0 gpp
  have K3 := K0.wr W3 (Or.inl (List.mem_of_getElem? (i := 2) rfl))
  show G (T3.setTop (mkF m 14 #[.val (.ref a), .val (.int (q.1 (0 : Int32)))] []))
  refine g_aloadN hG X3 hx (hb hby d12_14) (pc' := 15) rfl rfl rfl ?_
  show G (T3.setTop (mkF m 15 #[.val (.ref a), .val (.int (q.1 (0 : Int32)))] [(.ref a)]))
  refine g_dup hG X3 hx (hb hby d12_15) (pc' := 16) rfl rfl ?_
  show G (T3.setTop (mkF m 16 #[.val (.ref a), .val (.int (q.1 (0 : Int32)))] [(.ref a), (.ref a)]))
  refine g_getF hG X3 hx hZ hown (wd hw 27 rfl) Via.refl e3 F_size_a (hb hby d12_16) (pc' := 19) rfl ?_
  intro T4 X4 e4
  show G (T4.setTop (mkF m 19 #[.val (.ref a), .val (.int (q.1 (0 : Int32)))] [(.int 3), (.ref a)]))
  refine g_iconst hG X4 hx (hb hby d12_19) (pc' := 20) rfl (v := (1 : Int32)) rfl ?_
  show G (T4.setTop (mkF m 20 #[.val (.ref a), .val (.int (q.1 (0 : Int32)))] [(.int 1), (.int 3), (.ref a)]))
  refine g_isub hG X4 hx (hb hby d12_20) (pc' := 21) rfl (v := (2 : Int32)) (by decide) ?_
  show G (T4.setTop (mkF m 21 #[.val (.ref a), .val (.int (q.1 (0 : Int32)))] [(.int 2), (.ref a)]))
  refine g_putF hG X4 hx hZ hown (wd hw 27 rfl) Via.refl e4 F_size_a Ex_a (Or.inl (wd hw 28 rfl)) (wd hw 3 rfl) (v' := (.int 2)) (ty := .int) (by decide) rfl rfl (hb hby d12_21) (pc' := 24) rfl ?_
  intro T5 h5 X5 e5 W5
  have Ex_a := Ex_a.wr W5
  have F_heap_a := F_heap_a.other W5 (Or.inr (slot_ne (Or.inr (wd hw 12 rfl)) (Or.inl (wd hw 28 rfl)) (by decide) (t := (.array .int)) (t' := .int) (by decide) (by decide)))
  have F_position_a := F_position_a.other W5 (Or.inr (slot_ne (Or.inr (wd hw 14 rfl)) (Or.inl (wd hw 28 rfl)) (by decide) (t := (.array .int)) (t' := .int) (by decide) (by decide)))
  have F_key_a := F_key_a.other W5 (Or.inr (slot_ne (Or.inr (wd hw 17 rfl)) (Or.inl (wd hw 28 rfl)) (by decide) (t := (.array .double)) (t' := .int) (by decide) (by decide)))
  have F_size_a := F_size_a.same W5
  have V_hp := V_hp.other W5 (Ne.symm d1)
  have V_pp := V_pp.other W5 (Ne.symm d2)
  have V_ky := V_ky.other W5 (Ne.symm d3)
  have Zs := Nat.le_trans Zs (Wr.size W5)
  have NF5 := Fr.snoc X5 NF3 ga
  have K5 := K3.wr W5 (Or.inl (List.mem_of_getElem? (i := 0) rfl))
  show G (T5.setTop (mkF m 24 #[.val (.ref a), .val (.int (q.1 (0 : Int32)))] []))
  refine g_aloadN hG X5 hx (hb hby d12_24) (pc' := 25) rfl rfl rfl ?_
  show G (T5.setTop (mkF m 25 #[.val (.ref a), .val (.int (q.1 (0 : Int32)))] [(.ref a)]))
  refine g_getF hG X5 hx hZ hown (wd hw 27 rfl) Via.refl e5 F_size_a (hb hby d12_25) (pc' := 28) rfl ?_
  intro T6 X6 e6
  show G (T6.setTop (mkF m 28 #[.val (.ref a), .val (.int (q.1 (0 : Int32)))] [(.int 2)]))
  refine g_ifNo hG X6 hx (hb hby d12_28) (pc' := 31) (by decide) rfl ?_
  show G (T6.setTop (mkF m 31 #[.val (.ref a), .val (.int (q.1 (0 : Int32)))] []))
  refine g_aloadN hG X6 hx (hb hby d12_31) (pc' := 32) rfl rfl rfl ?_
  show G (T6.setTop (mkF m 32 #[.val (.ref a), .val (.int (q.1 (0 : Int32)))] [(.ref a)]))
  refine g_getF hG X6 hx hZ hown (wd hw 11 rfl) Via.refl e6 F_heap_a (hb hby d12_32) (pc' := 35) rfl ?_
  intro T7 X7 e7
  show G (T7.setTop (mkF m 35 #[.val (.ref a), .val (.int (q.1 (0 : Int32)))] [(.ref hp)]))
  refine g_iconst hG X7 hx (hb hby d12_35) (pc' := 36) rfl (v := (0 : Int32)) rfl ?_
  show G (T7.setTop (mkF m 36 #[.val (.ref a), .val (.int (q.1 (0 : Int32)))] [(.int 0), (.ref hp)]))
  refine g_aloadN hG X7 hx (hb hby d12_36) (pc' := 37) rfl rfl rfl ?_
  show G (T7.setTop (mkF m 37 #[.val (.ref a), .val (.int (q.1 (0 : Int32)))] [(.ref a), (.int 0), (.ref hp)]))
  refine g_getF hG X7 hx hZ hown (wd hw 11 rfl) Via.refl e7 F_heap_a (hb hby d12_37) (pc' := 40) rfl ?_
  intro T8 X8 e8
  show G (T8.setTop (mkF m 40 #[.val (.ref a), .val (.int (q.1 (0 : Int32)))] [(.ref hp), (.int 0), (.ref hp)]))
  refine g_aloadN hG X8 hx (hb hby d12_40) (pc' := 41) rfl rfl rfl ?_
  show G (T8.setTop (mkF m 41 #[.val (.ref a), .val (.int (q.1 (0 : Int32)))] [(.ref a), (.ref hp), (.int 0), (.ref hp)]))
  refine g_getF hG X8 hx hZ hown (wd hw 27 rfl) Via.refl e8 F_size_a (hb hby d12_41) (pc' := 44) rfl ?_
  intro T9 X9 e9
  show G (T9.setTop (mkF m 44 #[.val (.ref a), .val (.int (q.1 (0 : Int32)))] [(.int 2), (.ref hp), (.int 0), (.ref hp)]))
  refine g_iaload hG X9 hx hZ e9 V_hp (j := (2 : Int32)) (v := (.int (q.1 (2 : Int32)))) (in4_nn in4_2) (in4_at in4_2 rfl) (hb hby d12_44) (pc' := 45) rfl ?_
  show G (T9.setTop (mkF m 45 #[.val (.ref a), .val (.int (q.1 (0 : Int32)))] [(.int (q.1 (2 : Int32))), (.int 0), (.ref hp)]))
  refine g_iastore hG X9 hx hZ e9 V_hp (j := (0 : Int32)) (in4_nn in4_0) (in4_len in4_0) (hb hby d12_45) (pc' := 46) rfl ?_
  intro T10 h10 X10 e10 W10 Vn10
  rw [in4_set in4_0] at Vn10
  have V_hp : AV Z h10 hp .int (4 : Int32) (fn4 (upd q.1 (0 : Int32) (q.1 (2 : Int32)))) := Vn10
  have Ex_a := Ex_a.wr W10
  have F_heap_a := F_heap_a.other W10 (Or.inl d1)
  have F_position_a := F_position_a.other W10 (Or.inl d1)
  have F_key_a := F_key_a.other W10 (Or.inl d1)
  have F_size_a := F_size_a.other W10 (Or.inl d1)
  have V_pp := V_pp.other W10 (Ne.symm d4)
  have V_ky := V_ky.other W10 (Ne.symm d5)
  have Zs := Nat.le_trans Zs (Wr.size W10)
  have NF10 := Fr.snoc X10 NF5 ghp
  have K10 := K5.wr W10 (Or.inl (List.mem_of_getElem? (i := 1) rfl))
  show G (T10.setTop (mkF m 46 #[.val (.ref a), .val (.int (q.1 (0 : Int32)))] []))
  refine g_aloadN hG X10 hx (hb hby d12_46) (pc' := 47) rfl rfl rfl ?_
  show G (T10.setTop (mkF m 47 #[.val (.ref a), .val (.int (q.1 (0 : Int32)))] [(.ref a)]))
  refine g_getF hG X10 hx hZ hown (wd hw 13 rfl) Via.refl e10 F_position_a (hb hby d12_47) (pc' := 50) rfl ?_
  intro T11 X11 e11
  show G (T11.setTop (mkF m 50 #[.val (.ref a), .val (.int (q.1 (0 : Int32)))] [(.ref pp)]))
  refine g_aloadN hG X11 hx (hb hby d12_50) (pc' := 51) rfl rfl rfl ?_
  show G (T11.setTop (mkF m 51 #[.val (.ref a), .val (.int (q.1 (0 : Int32)))] [(.ref a), (.ref pp)]))
  refine g_getF hG X11 hx hZ hown (wd hw 11 rfl) Via.refl e11 F_heap_a (hb hby d12_51) (pc' := 54) rfl ?_
  intro T12 X12 e12
  show G (T12.setTop (mkF m 54 #[.val (.ref a), .val (.int (q.1 (0 : Int32)))] [(.ref hp), (.ref pp)]))
  refine g_iconst hG X12 hx (hb hby d12_54) (pc' := 55) rfl (v := (0 : Int32)) rfl ?_
  show G (T12.setTop (mkF m 55 #[.val (.ref a), .val (.int (q.1 (0 : Int32)))] [(.int 0), (.ref hp), (.ref pp)]))
  refine g_iaload hG X12 hx hZ e12 V_hp (j := (0 : Int32)) (v := (.int (q.1 (2 : Int32)))) (in4_nn in4_0) (in4_at in4_0 rfl) (hb hby d12_55) (pc' := 56) rfl ?_
  show G (T12.setTop (mkF m 56 #[.val (.ref a), .val (.int (q.1 (0 : Int32)))] [(.int (q.1 (2 : Int32))), (.ref pp)]))
  refine g_iconst hG X12 hx (hb hby d12_56) (pc' := 57) rfl (v := (0 : Int32)) rfl ?_
  show G (T12.setTop (mkF m 57 #[.val (.ref a), .val (.int (q.1 (0 : Int32)))] [(.int 0), (.int (q.1 (2 : Int32))), (.ref pp)]))
  refine g_iastore hG X12 hx hZ e12 V_pp (j := (q.1 (2 : Int32))) (in4_nn (show In4 (q.1 (2 : Int32)) from ii 2 (by decide))) (in4_len (show In4 (q.1 (2 : Int32)) from ii 2 (by decide))) (hb hby d12_57) (pc' := 58) rfl ?_
  intro T13 h13 X13 e13 W13 Vn13
  rw [in4_set (show In4 (q.1 (2 : Int32)) from ii 2 (by decide))] at Vn13
  have V_pp : AV Z h13 pp .int (4 : Int32) (fn4 (upd (upd q.2 (q.1 (0 : Int32)) (-1 : Int32)) (q.1 (2 : Int32)) (0 : Int32))) := Vn13
  have Ex_a := Ex_a.wr W13
  have F_heap_a := F_heap_a.other W13 (Or.inl d2)
  have F_position_a := F_position_a.other W13 (Or.inl d2)
  have F_key_a := F_key_a.other W13 (Or.inl d2)
  have F_size_a := F_size_a.other W13 (Or.inl d2)
  have V_hp := V_hp.other W13 d4
  have V_ky := V_ky.other W13 (Ne.symm d6)
  have Zs := Nat.le_trans Zs (Wr.size W13)
  have NF13 := Fr.snoc X13 NF10 gpp
  have K13 := K10.wr W13 (Or.inl (List.mem_of_getElem? (i := 2) rfl))
  show G (T13.setTop (mkF m 58 #[.val (.ref a), .val (.int (q.1 (0 : Int32)))] []))
  refine g_aloadN hG X13 hx (hb hby d12_58) (pc' := 59) rfl rfl rfl ?_
  show G (T13.setTop (mkF m 59 #[.val (.ref a), .val (.int (q.1 (0 : Int32)))] [(.ref a)]))
  refine g_iconst hG X13 hx (hb hby d12_59) (pc' := 60) rfl (v := (0 : Int32)) rfl ?_
  show G (T13.setTop (mkF m 60 #[.val (.ref a), .val (.int (q.1 (0 : Int32)))] [(.int 0), (.ref a)]))
  have ii2 : I4 2 (ps3 q) := fun j hj => match j, hj with
        | 0, _ => ii 2 (by decide)
        | 1, _ => ii 1 (by decide)
  have hb2 : HB 2 K bt (ps3 q) := fun i j hi hj => match i, j, hi, hj with
        | 0, 0, _, _ => hbb 2 2 (by decide) (by decide)
        | 0, 1, _, _ => hbb 2 1 (by decide) (by decide)
        | 1, 0, _, _ => hbb 1 2 (by decide) (by decide)
        | 1, 1, _, _ => hbb 1 1 (by decide) (by decide)
  refine g_callP hG X13 hx hZ (y := (⟨"com/example/tributary/tributary/plan/NodeHeap", "sink", "(I)V"⟩ : MethodName)) 0 hown (wd hw 59 rfl) (wd hw 60 rfl) (wd hw 3 rfl) (wd hw 61 rfl) (wd hw 4 rfl) (wd hw 62 rfl) (by decide) (rmSk2 l Z a0 hw [] a hp pp ky (ps3 q) K bt h13 n0 Zs ⟨Ex_a, F_heap_a, F_position_a, F_key_a, F_size_a, V_hp, V_pp, V_ky⟩ ⟨ga, ghp, gpp, gky, d1, d2, d3, d4, d5, d6⟩ ii2 hb2) (by decide) (by decide) (by rw [hml]; rfl) pd_3 rfl (argsL := [(.int 0)]) (rest := []) rfl rfl (Nat.le_of_eq rfl) (hb hby d12_60) e13 Ex_a (by decide) (by decide) (pc' := 63) rfl ?_
  intro T14 rv14 L14 X14 hQ14
  obtain ⟨rfl, Nq14, Kq14, Ex_a, F_heap_a, F_position_a, F_key_a, F_size_a, V_hp, V_pp, V_ky⟩ := hQ14
  have NF14 := Fr.app NF13 Nq14
  have Zs := Nat.le_trans Zs Kq14.1
  have K14 := K13.trans Kq14 (allS (Or.inl (List.mem_of_getElem? (i := 0) rfl)) (allS (Or.inl (List.mem_of_getElem? (i := 1) rfl)) (allS (Or.inl (List.mem_of_getElem? (i := 2) rfl)) (allS (Or.inl (List.mem_of_getElem? (i := 3) rfl)) all0))))
  show G (T14.setTop (mkF m 63 #[.val (.ref a), .val (.int (q.1 (0 : Int32)))] []))
  refine g_iloadN hG X14 hx (hb hby d12_63) (pc' := 64) rfl rfl ?_
  show G (T14.setTop (mkF m 64 #[.val (.ref a), .val (.int (q.1 (0 : Int32)))] [(.int (q.1 (0 : Int32)))]))
  exact e_retI hGe X14 hx hrt hlk (hb hby d12_64) rfl (by decide) (by decide) (⟨by rw [hf], NF14, K14, Ex_a, F_heap_a, F_position_a, F_key_a, F_size_a, V_hp, V_pp, V_ky⟩)

def Q_rmPo4 (Z : State) (a hp pp ky : Addr) (q : HP) (K : Int32 → UInt64) (bt : Int32 → Int32 → Bool) (f : Int32) (h0 : Heap) (n0 : Nat) (v : Option Value) (h : Heap) (L : List Loc) : Prop := v = some (.int f) ∧ Fr n0 L ∧ Keep h0 h [a, hp, pp, ky] ∧ NH Z h a hp pp ky (3 : Int32) (po4 bt q) K
set_option maxRecDepth 65536 in
set_option maxHeartbeats 40000000 in
theorem rmPo4 (l : Launch) (Z : State) (a0 : Array Value) (hw : ∀ d ∈ tables_1, d.before a0 Z = true) (ws : List Jvm.Cond) (a hp pp ky : Addr) (q : HP) (K : Int32 → UInt64) (bt : Int32 → Int32 → Bool) (f : Int32) (h0 : Heap) (n0 : Nat) (Zs : n0 ≤ h0.size) (hf : q.1 0 = f) (NQ : NH Z h0 a hp pp ky (4 : Int32) q K) (DD : Dis n0 a hp pp ky) (ii : I4 4 q) (hbb : HB 4 K bt q) :
    Con l (⟨"com/example/tributary/tributary/plan/NodeHeap", "poll", "()I"⟩ : MethodName) prog_39_method_4_code 2 (some .int) ws ({ frames := 2, cells := 0, slots := 0, locals := 48 } : Room) Z #[(.ref a)] h0 ({ frames := 2, cells := 0, slots := 0, locals := 48 } : Room).cells ({ frames := 2, cells := 0, slots := 0, locals := 48 } : Room).slots (Q_rmPo4 Z a hp pp ky q K bt f h0 n0) := by
  refine Con.of (Ls := #[.val (.ref a), .unset]) (plainFor_of_name (by first | (simp [plainName, overriddenIn]; done) | decide +kernel)) (fun m => by first | (simp [entryFrame, mkF, argsToLocals, Value.category]; done) | rfl) ?_
  intro p e s m below meth c s₁ G hGe hG hx hby hml hown hnm hrt hlk hZ X0 e0
  have hown : s.vm.findClass "com/example/tributary/tributary/plan/NodeHeap" = some m.cls := hown
  have hnm : meth.name = "poll" := hnm
  have NF0 := Fr.nil n0
  obtain ⟨Ex_a, F_heap_a, F_position_a, F_key_a, F_size_a, V_hp, V_pp, V_ky⟩ := NQ
  obtain ⟨ga, ghp, gpp, gky, d1, d2, d3, d4, d5, d6⟩ := DD
  have K0 := Keep.refl h0 [a, hp, pp, ky]
  refine g_aloadN hG X0 hx (hb hby d12_0) (pc' := 1) rfl rfl rfl ?_
  show G (s₁.setTop (mkF m 1 #[.val (.ref a), .unset] [(.ref a)]))
  refine g_getF hG X0 hx hZ hown (wd hw 11 rfl) Via.refl e0 F_heap_a (hb hby d12_1) (pc' := 4) rfl ?_
  intro T1 X1 e1
  show G (T1.setTop (mkF m 4 #[.val (.ref a), .unset] [(.ref hp)]))
  refine g_iconst hG X1 hx (hb hby d12_4) (pc' := 5) rfl (v := (0 : Int32)) rfl ?_
  show G (T1.setTop (mkF m 5 #[.val (.ref a), .unset] [(.int 0), (.ref hp)]))
  refine g_iaload hG X1 hx hZ e1 V_hp (j := (0 : Int32)) (v := (.int (q.1 (0 : Int32)))) (in4_nn in4_0) (in4_at in4_0 rfl) (hb hby d12_5) (pc' := 6) rfl ?_
  show G (T1.setTop (mkF m 6 #[.val (.ref a), .unset] [(.int (q.1 (0 : Int32)))]))
  refine g_istoreN hG X1 hx (hb hby d12_6) (pc' := 7) rfl (Ls' := #[.val (.ref a), .val (.int (q.1 (0 : Int32)))]) rfl ?_
  show G (T1.setTop (mkF m 7 #[.val (.ref a), .val (.int (q.1 (0 : Int32)))] []))
  refine g_aloadN hG X1 hx (hb hby d12_7) (pc' := 8) rfl rfl rfl ?_
  show G (T1.setTop (mkF m 8 #[.val (.ref a), .val (.int (q.1 (0 : Int32)))] [(.ref a)]))
  refine g_getF hG X1 hx hZ hown (wd hw 13 rfl) Via.refl e1 F_position_a (hb hby d12_8) (pc' := 11) rfl ?_
  intro T2 X2 e2
  show G (T2.setTop (mkF m 11 #[.val (.ref a), .val (.int (q.1 (0 : Int32)))] [(.ref pp)]))
  refine g_iloadN hG X2 hx (hb hby d12_11) (pc' := 12) rfl rfl ?_
  show G (T2.setTop (mkF m 12 #[.val (.ref a), .val (.int (q.1 (0 : Int32)))] [(.int (q.1 (0 : Int32))), (.ref pp)]))
  refine g_iconst hG X2 hx (hb hby d12_12) (pc' := 13) rfl (v := (-1 : Int32)) rfl ?_
  show G (T2.setTop (mkF m 13 #[.val (.ref a), .val (.int (q.1 (0 : Int32)))] [(.int (-1)), (.int (q.1 (0 : Int32))), (.ref pp)]))
  refine g_iastore hG X2 hx hZ e2 V_pp (j := (q.1 (0 : Int32))) (in4_nn (show In4 (q.1 (0 : Int32)) from ii 0 (by decide))) (in4_len (show In4 (q.1 (0 : Int32)) from ii 0 (by decide))) (hb hby d12_13) (pc' := 14) rfl ?_
  intro T3 h3 X3 e3 W3 Vn3
  rw [in4_set (show In4 (q.1 (0 : Int32)) from ii 0 (by decide))] at Vn3
  have V_pp : AV Z h3 pp .int (4 : Int32) (fn4 (upd q.2 (q.1 (0 : Int32)) (-1 : Int32))) := Vn3
  have Ex_a := Ex_a.wr W3
  have F_heap_a := F_heap_a.other W3 (Or.inl d2)
  have F_position_a := F_position_a.other W3 (Or.inl d2)
  have F_key_a := F_key_a.other W3 (Or.inl d2)
  have F_size_a := F_size_a.other W3 (Or.inl d2)
  have V_hp := V_hp.other W3 d4
  have V_ky := V_ky.other W3 (Ne.symm d6)
  have Zs := Nat.le_trans Zs (Wr.size W3)
  have NF3 := Fr.snoc X3 NF0 gpp
  have K3 := K0.wr W3 (Or.inl (List.mem_of_getElem? (i := 2) rfl))
  show G (T3.setTop (mkF m 14 #[.val (.ref a), .val (.int (q.1 (0 : Int32)))] []))
  refine g_aloadN hG X3 hx (hb hby d12_14) (pc' := 15) rfl rfl rfl ?_
  show G (T3.setTop (mkF m 15 #[.val (.ref a), .val (.int (q.1 (0 : Int32)))] [(.ref a)]))
  refine g_dup hG X3 hx (hb hby d12_15) (pc' := 16) rfl rfl ?_
  show G (T3.setTop (mkF m 16 #[.val (.ref a), .val (.int (q.1 (0 : Int32)))] [(.ref a), (.ref a)]))
  refine g_getF hG X3 hx hZ hown (wd hw 27 rfl) Via.refl e3 F_size_a (hb hby d12_16) (pc' := 19) rfl ?_
  intro T4 X4 e4
  show G (T4.setTop (mkF m 19 #[.val (.ref a), .val (.int (q.1 (0 : Int32)))] [(.int 4), (.ref a)]))
  refine g_iconst hG X4 hx (hb hby d12_19) (pc' := 20) rfl (v := (1 : Int32)) rfl ?_
  show G (T4.setTop (mkF m 20 #[.val (.ref a), .val (.int (q.1 (0 : Int32)))] [(.int 1), (.int 4), (.ref a)]))
  refine g_isub hG X4 hx (hb hby d12_20) (pc' := 21) rfl (v := (3 : Int32)) (by decide) ?_
  show G (T4.setTop (mkF m 21 #[.val (.ref a), .val (.int (q.1 (0 : Int32)))] [(.int 3), (.ref a)]))
  refine g_putF hG X4 hx hZ hown (wd hw 27 rfl) Via.refl e4 F_size_a Ex_a (Or.inl (wd hw 28 rfl)) (wd hw 3 rfl) (v' := (.int 3)) (ty := .int) (by decide) rfl rfl (hb hby d12_21) (pc' := 24) rfl ?_
  intro T5 h5 X5 e5 W5
  have Ex_a := Ex_a.wr W5
  have F_heap_a := F_heap_a.other W5 (Or.inr (slot_ne (Or.inr (wd hw 12 rfl)) (Or.inl (wd hw 28 rfl)) (by decide) (t := (.array .int)) (t' := .int) (by decide) (by decide)))
  have F_position_a := F_position_a.other W5 (Or.inr (slot_ne (Or.inr (wd hw 14 rfl)) (Or.inl (wd hw 28 rfl)) (by decide) (t := (.array .int)) (t' := .int) (by decide) (by decide)))
  have F_key_a := F_key_a.other W5 (Or.inr (slot_ne (Or.inr (wd hw 17 rfl)) (Or.inl (wd hw 28 rfl)) (by decide) (t := (.array .double)) (t' := .int) (by decide) (by decide)))
  have F_size_a := F_size_a.same W5
  have V_hp := V_hp.other W5 (Ne.symm d1)
  have V_pp := V_pp.other W5 (Ne.symm d2)
  have V_ky := V_ky.other W5 (Ne.symm d3)
  have Zs := Nat.le_trans Zs (Wr.size W5)
  have NF5 := Fr.snoc X5 NF3 ga
  have K5 := K3.wr W5 (Or.inl (List.mem_of_getElem? (i := 0) rfl))
  show G (T5.setTop (mkF m 24 #[.val (.ref a), .val (.int (q.1 (0 : Int32)))] []))
  refine g_aloadN hG X5 hx (hb hby d12_24) (pc' := 25) rfl rfl rfl ?_
  show G (T5.setTop (mkF m 25 #[.val (.ref a), .val (.int (q.1 (0 : Int32)))] [(.ref a)]))
  refine g_getF hG X5 hx hZ hown (wd hw 27 rfl) Via.refl e5 F_size_a (hb hby d12_25) (pc' := 28) rfl ?_
  intro T6 X6 e6
  show G (T6.setTop (mkF m 28 #[.val (.ref a), .val (.int (q.1 (0 : Int32)))] [(.int 3)]))
  refine g_ifNo hG X6 hx (hb hby d12_28) (pc' := 31) (by decide) rfl ?_
  show G (T6.setTop (mkF m 31 #[.val (.ref a), .val (.int (q.1 (0 : Int32)))] []))
  refine g_aloadN hG X6 hx (hb hby d12_31) (pc' := 32) rfl rfl rfl ?_
  show G (T6.setTop (mkF m 32 #[.val (.ref a), .val (.int (q.1 (0 : Int32)))] [(.ref a)]))
  refine g_getF hG X6 hx hZ hown (wd hw 11 rfl) Via.refl e6 F_heap_a (hb hby d12_32) (pc' := 35) rfl ?_
  intro T7 X7 e7
  show G (T7.setTop (mkF m 35 #[.val (.ref a), .val (.int (q.1 (0 : Int32)))] [(.ref hp)]))
  refine g_iconst hG X7 hx (hb hby d12_35) (pc' := 36) rfl (v := (0 : Int32)) rfl ?_
  show G (T7.setTop (mkF m 36 #[.val (.ref a), .val (.int (q.1 (0 : Int32)))] [(.int 0), (.ref hp)]))
  refine g_aloadN hG X7 hx (hb hby d12_36) (pc' := 37) rfl rfl rfl ?_
  show G (T7.setTop (mkF m 37 #[.val (.ref a), .val (.int (q.1 (0 : Int32)))] [(.ref a), (.int 0), (.ref hp)]))
  refine g_getF hG X7 hx hZ hown (wd hw 11 rfl) Via.refl e7 F_heap_a (hb hby d12_37) (pc' := 40) rfl ?_
  intro T8 X8 e8
  show G (T8.setTop (mkF m 40 #[.val (.ref a), .val (.int (q.1 (0 : Int32)))] [(.ref hp), (.int 0), (.ref hp)]))
  refine g_aloadN hG X8 hx (hb hby d12_40) (pc' := 41) rfl rfl rfl ?_
  show G (T8.setTop (mkF m 41 #[.val (.ref a), .val (.int (q.1 (0 : Int32)))] [(.ref a), (.ref hp), (.int 0), (.ref hp)]))
  refine g_getF hG X8 hx hZ hown (wd hw 27 rfl) Via.refl e8 F_size_a (hb hby d12_41) (pc' := 44) rfl ?_
  intro T9 X9 e9
  show G (T9.setTop (mkF m 44 #[.val (.ref a), .val (.int (q.1 (0 : Int32)))] [(.int 3), (.ref hp), (.int 0), (.ref hp)]))
  refine g_iaload hG X9 hx hZ e9 V_hp (j := (3 : Int32)) (v := (.int (q.1 (3 : Int32)))) (in4_nn in4_3) (in4_at in4_3 rfl) (hb hby d12_44) (pc' := 45) rfl ?_
  show G (T9.setTop (mkF m 45 #[.val (.ref a), .val (.int (q.1 (0 : Int32)))] [(.int (q.1 (3 : Int32))), (.int 0), (.ref hp)]))
  refine g_iastore hG X9 hx hZ e9 V_hp (j := (0 : Int32)) (in4_nn in4_0) (in4_len in4_0) (hb hby d12_45) (pc' := 46) rfl ?_
  intro T10 h10 X10 e10 W10 Vn10
  rw [in4_set in4_0] at Vn10
  have V_hp : AV Z h10 hp .int (4 : Int32) (fn4 (upd q.1 (0 : Int32) (q.1 (3 : Int32)))) := Vn10
  have Ex_a := Ex_a.wr W10
  have F_heap_a := F_heap_a.other W10 (Or.inl d1)
  have F_position_a := F_position_a.other W10 (Or.inl d1)
  have F_key_a := F_key_a.other W10 (Or.inl d1)
  have F_size_a := F_size_a.other W10 (Or.inl d1)
  have V_pp := V_pp.other W10 (Ne.symm d4)
  have V_ky := V_ky.other W10 (Ne.symm d5)
  have Zs := Nat.le_trans Zs (Wr.size W10)
  have NF10 := Fr.snoc X10 NF5 ghp
  have K10 := K5.wr W10 (Or.inl (List.mem_of_getElem? (i := 1) rfl))
  show G (T10.setTop (mkF m 46 #[.val (.ref a), .val (.int (q.1 (0 : Int32)))] []))
  refine g_aloadN hG X10 hx (hb hby d12_46) (pc' := 47) rfl rfl rfl ?_
  show G (T10.setTop (mkF m 47 #[.val (.ref a), .val (.int (q.1 (0 : Int32)))] [(.ref a)]))
  refine g_getF hG X10 hx hZ hown (wd hw 13 rfl) Via.refl e10 F_position_a (hb hby d12_47) (pc' := 50) rfl ?_
  intro T11 X11 e11
  show G (T11.setTop (mkF m 50 #[.val (.ref a), .val (.int (q.1 (0 : Int32)))] [(.ref pp)]))
  refine g_aloadN hG X11 hx (hb hby d12_50) (pc' := 51) rfl rfl rfl ?_
  show G (T11.setTop (mkF m 51 #[.val (.ref a), .val (.int (q.1 (0 : Int32)))] [(.ref a), (.ref pp)]))
  refine g_getF hG X11 hx hZ hown (wd hw 11 rfl) Via.refl e11 F_heap_a (hb hby d12_51) (pc' := 54) rfl ?_
  intro T12 X12 e12
  show G (T12.setTop (mkF m 54 #[.val (.ref a), .val (.int (q.1 (0 : Int32)))] [(.ref hp), (.ref pp)]))
  refine g_iconst hG X12 hx (hb hby d12_54) (pc' := 55) rfl (v := (0 : Int32)) rfl ?_
  show G (T12.setTop (mkF m 55 #[.val (.ref a), .val (.int (q.1 (0 : Int32)))] [(.int 0), (.ref hp), (.ref pp)]))
  refine g_iaload hG X12 hx hZ e12 V_hp (j := (0 : Int32)) (v := (.int (q.1 (3 : Int32)))) (in4_nn in4_0) (in4_at in4_0 rfl) (hb hby d12_55) (pc' := 56) rfl ?_
  show G (T12.setTop (mkF m 56 #[.val (.ref a), .val (.int (q.1 (0 : Int32)))] [(.int (q.1 (3 : Int32))), (.ref pp)]))
  refine g_iconst hG X12 hx (hb hby d12_56) (pc' := 57) rfl (v := (0 : Int32)) rfl ?_
  show G (T12.setTop (mkF m 57 #[.val (.ref a), .val (.int (q.1 (0 : Int32)))] [(.int 0), (.int (q.1 (3 : Int32))), (.ref pp)]))
  refine g_iastore hG X12 hx hZ e12 V_pp (j := (q.1 (3 : Int32))) (in4_nn (show In4 (q.1 (3 : Int32)) from ii 3 (by decide))) (in4_len (show In4 (q.1 (3 : Int32)) from ii 3 (by decide))) (hb hby d12_57) (pc' := 58) rfl ?_
  intro T13 h13 X13 e13 W13 Vn13
  rw [in4_set (show In4 (q.1 (3 : Int32)) from ii 3 (by decide))] at Vn13
  have V_pp : AV Z h13 pp .int (4 : Int32) (fn4 (upd (upd q.2 (q.1 (0 : Int32)) (-1 : Int32)) (q.1 (3 : Int32)) (0 : Int32))) := Vn13
  have Ex_a := Ex_a.wr W13
  have F_heap_a := F_heap_a.other W13 (Or.inl d2)
  have F_position_a := F_position_a.other W13 (Or.inl d2)
  have F_key_a := F_key_a.other W13 (Or.inl d2)
  have F_size_a := F_size_a.other W13 (Or.inl d2)
  have V_hp := V_hp.other W13 d4
  have V_ky := V_ky.other W13 (Ne.symm d6)
  have Zs := Nat.le_trans Zs (Wr.size W13)
  have NF13 := Fr.snoc X13 NF10 gpp
  have K13 := K10.wr W13 (Or.inl (List.mem_of_getElem? (i := 2) rfl))
  show G (T13.setTop (mkF m 58 #[.val (.ref a), .val (.int (q.1 (0 : Int32)))] []))
  refine g_aloadN hG X13 hx (hb hby d12_58) (pc' := 59) rfl rfl rfl ?_
  show G (T13.setTop (mkF m 59 #[.val (.ref a), .val (.int (q.1 (0 : Int32)))] [(.ref a)]))
  refine g_iconst hG X13 hx (hb hby d12_59) (pc' := 60) rfl (v := (0 : Int32)) rfl ?_
  show G (T13.setTop (mkF m 60 #[.val (.ref a), .val (.int (q.1 (0 : Int32)))] [(.int 0), (.ref a)]))
  have ii2 : I4 3 (ps4 q) := fun j hj => match j, hj with
        | 0, _ => ii 3 (by decide)
        | 1, _ => ii 1 (by decide)
        | 2, _ => ii 2 (by decide)
  have hb2 : HB 3 K bt (ps4 q) := fun i j hi hj => match i, j, hi, hj with
        | 0, 0, _, _ => hbb 3 3 (by decide) (by decide)
        | 0, 1, _, _ => hbb 3 1 (by decide) (by decide)
        | 0, 2, _, _ => hbb 3 2 (by decide) (by decide)
        | 1, 0, _, _ => hbb 1 3 (by decide) (by decide)
        | 1, 1, _, _ => hbb 1 1 (by decide) (by decide)
        | 1, 2, _, _ => hbb 1 2 (by decide) (by decide)
        | 2, 0, _, _ => hbb 2 3 (by decide) (by decide)
        | 2, 1, _, _ => hbb 2 1 (by decide) (by decide)
        | 2, 2, _, _ => hbb 2 2 (by decide) (by decide)
  refine g_callP hG X13 hx hZ (y := (⟨"com/example/tributary/tributary/plan/NodeHeap", "sink", "(I)V"⟩ : MethodName)) 0 hown (wd hw 59 rfl) (wd hw 60 rfl) (wd hw 3 rfl) (wd hw 61 rfl) (wd hw 4 rfl) (wd hw 62 rfl) (by decide) (rmSk3 l Z a0 hw [] a hp pp ky (ps4 q) K bt h13 n0 Zs ⟨Ex_a, F_heap_a, F_position_a, F_key_a, F_size_a, V_hp, V_pp, V_ky⟩ ⟨ga, ghp, gpp, gky, d1, d2, d3, d4, d5, d6⟩ ii2 hb2) (by decide) (by decide) (by rw [hml]; rfl) pd_3 rfl (argsL := [(.int 0)]) (rest := []) rfl rfl (Nat.le_of_eq rfl) (hb hby d12_60) e13 Ex_a (by decide) (by decide) (pc' := 63) rfl ?_
  intro T14 rv14 L14 X14 hQ14
  obtain ⟨rfl, Nq14, Kq14, Ex_a, F_heap_a, F_position_a, F_key_a, F_size_a, V_hp, V_pp, V_ky⟩ := hQ14
  have NF14 := Fr.app NF13 Nq14
  have Zs := Nat.le_trans Zs Kq14.1
  have K14 := K13.trans Kq14 (allS (Or.inl (List.mem_of_getElem? (i := 0) rfl)) (allS (Or.inl (List.mem_of_getElem? (i := 1) rfl)) (allS (Or.inl (List.mem_of_getElem? (i := 2) rfl)) (allS (Or.inl (List.mem_of_getElem? (i := 3) rfl)) all0))))
  show G (T14.setTop (mkF m 63 #[.val (.ref a), .val (.int (q.1 (0 : Int32)))] []))
  refine g_iloadN hG X14 hx (hb hby d12_63) (pc' := 64) rfl rfl ?_
  show G (T14.setTop (mkF m 64 #[.val (.ref a), .val (.int (q.1 (0 : Int32)))] [(.int (q.1 (0 : Int32)))]))
  exact e_retI hGe X14 hx hrt hlk (hb hby d12_64) rfl (by decide) (by decide) (⟨by rw [hf], NF14, K14, Ex_a, F_heap_a, F_position_a, F_key_a, F_size_a, V_hp, V_pp, V_ky⟩)

def Q_rmOl0 (Z : State) (a hp pp ky : Addr) (sz : Int32) (q : HP) (K : Int32 → UInt64) (bt : Int32 → Int32 → Bool) (x : Int32) (kk : UInt64) (h0 : Heap) (n0 : Nat) (v : Option Value) (h : Heap) (L : List Loc) : Prop := v = none ∧ Fr n0 L ∧ Keep h0 h [a, hp, pp, ky] ∧ NH Z h a hp pp ky sz (rs0 bt q) (upd K x kk)
set_option maxRecDepth 65536 in
set_option maxHeartbeats 40000000 in
theorem rmOl0 (l : Launch) (Z : State) (a0 : Array Value) (hw : ∀ d ∈ tables_1, d.before a0 Z = true) (ws : List Jvm.Cond) (a hp pp ky : Addr) (sz : Int32) (q : HP) (K : Int32 → UInt64) (bt : Int32 → Int32 → Bool) (x : Int32) (kk : UInt64) (h0 : Heap) (n0 : Nat) (Zs : n0 ≤ h0.size) (NQ : NH Z h0 a hp pp ky sz q K) (DD : Dis n0 a hp pp ky) (ix : In4 x) (hP : q.2 x = 0) (hlt : FP.dcmp kk (K x) = some .lt) (ii : I4 1 q) (hbb : HB 0 (upd K x kk) bt q) :
    Con l (⟨"com/example/tributary/tributary/plan/NodeHeap", "offer", "(ID)V"⟩ : MethodName) prog_39_method_3_code 5 none ws ({ frames := 2, cells := 0, slots := 0, locals := 56 } : Room) Z #[(.ref a), (.int x), (.double kk)] h0 ({ frames := 2, cells := 0, slots := 0, locals := 56 } : Room).cells ({ frames := 2, cells := 0, slots := 0, locals := 56 } : Room).slots (Q_rmOl0 Z a hp pp ky sz q K bt x kk h0 n0) := by
  refine Con.of (Ls := #[.val (.ref a), .val (.int x), .val (.double kk), .second, .unset]) (plainFor_of_name (by first | (simp [plainName, overriddenIn]; done) | decide +kernel)) (fun m => by first | (simp [entryFrame, mkF, argsToLocals, Value.category]; done) | rfl) ?_
  intro p e s m below meth c s₁ G hGe hG hx hby hml hown hnm hrt hlk hZ X0 e0
  have hown : s.vm.findClass "com/example/tributary/tributary/plan/NodeHeap" = some m.cls := hown
  have hnm : meth.name = "offer" := hnm
  have NF0 := Fr.nil n0
  obtain ⟨Ex_a, F_heap_a, F_position_a, F_key_a, F_size_a, V_hp, V_pp, V_ky⟩ := NQ
  obtain ⟨ga, ghp, gpp, gky, d1, d2, d3, d4, d5, d6⟩ := DD
  have K0 := Keep.refl h0 [a, hp, pp, ky]
  refine g_aloadN hG X0 hx (hb hby d4_0) (pc' := 1) rfl rfl rfl ?_
  show G (s₁.setTop (mkF m 1 #[.val (.ref a), .val (.int x), .val (.double kk), .second, .unset] [(.ref a)]))
  refine g_getF hG X0 hx hZ hown (wd hw 13 rfl) Via.refl e0 F_position_a (hb hby d4_1) (pc' := 4) rfl ?_
  intro T1 X1 e1
  show G (T1.setTop (mkF m 4 #[.val (.ref a), .val (.int x), .val (.double kk), .second, .unset] [(.ref pp)]))
  refine g_iloadN hG X1 hx (hb hby d4_4) (pc' := 5) rfl rfl ?_
  show G (T1.setTop (mkF m 5 #[.val (.ref a), .val (.int x), .val (.double kk), .second, .unset] [(.int x), (.ref pp)]))
  refine g_iaload hG X1 hx hZ e1 V_pp (j := x) (v := (.int 0)) (in4_nn ix) (in4_at ix hP) (hb hby d4_5) (pc' := 6) rfl ?_
  show G (T1.setTop (mkF m 6 #[.val (.ref a), .val (.int x), .val (.double kk), .second, .unset] [(.int 0)]))
  refine g_istore hG X1 hx (hb hby d4_6) (pc' := 8) rfl (Ls' := #[.val (.ref a), .val (.int x), .val (.double kk), .second, .val (.int 0)]) rfl ?_
  show G (T1.setTop (mkF m 8 #[.val (.ref a), .val (.int x), .val (.double kk), .second, .val (.int 0)] []))
  refine g_iload hG X1 hx (hb hby d4_8) (pc' := 10) rfl rfl ?_
  show G (T1.setTop (mkF m 10 #[.val (.ref a), .val (.int x), .val (.double kk), .second, .val (.int 0)] [(.int 0)]))
  refine g_ifYes hG X1 hx (hb hby d4_10) (pc' := 45) (by decide) (by decide) (by decide) ?_
  show G (T1.setTop (mkF m 45 #[.val (.ref a), .val (.int x), .val (.double kk), .second, .val (.int 0)] []))
  refine g_dloadN hG X1 hx (hb hby d4_45) (pc' := 46) rfl rfl ?_
  show G (T1.setTop (mkF m 46 #[.val (.ref a), .val (.int x), .val (.double kk), .second, .val (.int 0)] [(.double kk)]))
  refine g_aloadN hG X1 hx (hb hby d4_46) (pc' := 47) rfl rfl rfl ?_
  show G (T1.setTop (mkF m 47 #[.val (.ref a), .val (.int x), .val (.double kk), .second, .val (.int 0)] [(.ref a), (.double kk)]))
  refine g_getF hG X1 hx hZ hown (wd hw 16 rfl) Via.refl e1 F_key_a (hb hby d4_47) (pc' := 50) rfl ?_
  intro T2 X2 e2
  show G (T2.setTop (mkF m 50 #[.val (.ref a), .val (.int x), .val (.double kk), .second, .val (.int 0)] [(.ref ky), (.double kk)]))
  refine g_iloadN hG X2 hx (hb hby d4_50) (pc' := 51) rfl rfl ?_
  show G (T2.setTop (mkF m 51 #[.val (.ref a), .val (.int x), .val (.double kk), .second, .val (.int 0)] [(.int x), (.ref ky), (.double kk)]))
  refine g_daload hG X2 hx hZ e2 V_ky (j := x) (v := (.double (K x))) (in4_nn ix) (in4_atd ix rfl) (hb hby d4_51) (pc' := 52) rfl ?_
  show G (T2.setTop (mkF m 52 #[.val (.ref a), .val (.int x), .val (.double kk), .second, .val (.int 0)] [(.double (K x)), (.double kk)]))
  obtain ⟨v52, q52⟩ : ∃ zz : Int32, cmpValue (FP.dcmp kk (K x)) .g = zz := ⟨_, rfl⟩
  refine g_dcmp hG X2 hx (hb hby d4_52) (pc' := 53) rfl q52 ?_
  show G (T2.setTop (mkF m 53 #[.val (.ref a), .val (.int x), .val (.double kk), .second, .val (.int 0)] [(.int v52)]))
  refine g_ifYes hG X2 hx (hb hby d4_53) (pc' := 57) (by rw [← q52, hlt]; rfl) (by decide) (by decide) ?_
  show G (T2.setTop (mkF m 57 #[.val (.ref a), .val (.int x), .val (.double kk), .second, .val (.int 0)] []))
  refine g_aloadN hG X2 hx (hb hby d4_57) (pc' := 58) rfl rfl rfl ?_
  show G (T2.setTop (mkF m 58 #[.val (.ref a), .val (.int x), .val (.double kk), .second, .val (.int 0)] [(.ref a)]))
  refine g_getF hG X2 hx hZ hown (wd hw 16 rfl) Via.refl e2 F_key_a (hb hby d4_58) (pc' := 61) rfl ?_
  intro T3 X3 e3
  show G (T3.setTop (mkF m 61 #[.val (.ref a), .val (.int x), .val (.double kk), .second, .val (.int 0)] [(.ref ky)]))
  refine g_iloadN hG X3 hx (hb hby d4_61) (pc' := 62) rfl rfl ?_
  show G (T3.setTop (mkF m 62 #[.val (.ref a), .val (.int x), .val (.double kk), .second, .val (.int 0)] [(.int x), (.ref ky)]))
  refine g_dloadN hG X3 hx (hb hby d4_62) (pc' := 63) rfl rfl ?_
  show G (T3.setTop (mkF m 63 #[.val (.ref a), .val (.int x), .val (.double kk), .second, .val (.int 0)] [(.double kk), (.int x), (.ref ky)]))
  refine g_dastore hG X3 hx hZ e3 V_ky (j := x) (in4_nn ix) (in4_lend ix) (hb hby d4_63) (pc' := 64) rfl ?_
  intro T4 h4 X4 e4 W4 Vn4
  rw [in4_setd ix] at Vn4
  have V_ky : AV Z h4 ky .double (4 : Int32) (fd4 (upd K x kk)) := Vn4
  have Ex_a := Ex_a.wr W4
  have F_heap_a := F_heap_a.other W4 (Or.inl d3)
  have F_position_a := F_position_a.other W4 (Or.inl d3)
  have F_key_a := F_key_a.other W4 (Or.inl d3)
  have F_size_a := F_size_a.other W4 (Or.inl d3)
  have V_hp := V_hp.other W4 d5
  have V_pp := V_pp.other W4 d6
  have Zs := Nat.le_trans Zs (Wr.size W4)
  have NF4 := Fr.snoc X4 NF0 gky
  have K4 := K0.wr W4 (Or.inl (List.mem_of_getElem? (i := 3) rfl))
  show G (T4.setTop (mkF m 64 #[.val (.ref a), .val (.int x), .val (.double kk), .second, .val (.int 0)] []))
  refine g_aloadN hG X4 hx (hb hby d4_64) (pc' := 65) rfl rfl rfl ?_
  show G (T4.setTop (mkF m 65 #[.val (.ref a), .val (.int x), .val (.double kk), .second, .val (.int 0)] [(.ref a)]))
  refine g_iload hG X4 hx (hb hby d4_65) (pc' := 67) rfl rfl ?_
  show G (T4.setTop (mkF m 67 #[.val (.ref a), .val (.int x), .val (.double kk), .second, .val (.int 0)] [(.int 0), (.ref a)]))
  refine g_callP hG X4 hx hZ (y := (⟨"com/example/tributary/tributary/plan/NodeHeap", "rise", "(I)V"⟩ : MethodName)) 0 hown (wd hw 29 rfl) (wd hw 30 rfl) (wd hw 3 rfl) (wd hw 31 rfl) (wd hw 4 rfl) (wd hw 32 rfl) (by decide) (rmRs0 l Z a0 hw [] a hp pp ky sz q (upd K x kk) bt h4 n0 Zs ⟨Ex_a, F_heap_a, F_position_a, F_key_a, F_size_a, V_hp, V_pp, V_ky⟩ ⟨ga, ghp, gpp, gky, d1, d2, d3, d4, d5, d6⟩ ii hbb) (by decide) (by decide) (by rw [hml]; rfl) pd_3 rfl (argsL := [(.int 0)]) (rest := []) rfl rfl (Nat.le_of_eq rfl) (hb hby d4_67) e4 Ex_a (by decide) (by decide) (pc' := 70) rfl ?_
  intro T5 rv5 L5 X5 hQ5
  obtain ⟨rfl, Nq5, Kq5, Ex_a, F_heap_a, F_position_a, F_key_a, F_size_a, V_hp, V_pp, V_ky⟩ := hQ5
  have NF5 := Fr.app NF4 Nq5
  have Zs := Nat.le_trans Zs Kq5.1
  have K5 := K4.trans Kq5 (allS (Or.inl (List.mem_of_getElem? (i := 0) rfl)) (allS (Or.inl (List.mem_of_getElem? (i := 1) rfl)) (allS (Or.inl (List.mem_of_getElem? (i := 2) rfl)) (allS (Or.inl (List.mem_of_getElem? (i := 3) rfl)) all0))))
  show G (T5.setTop (mkF m 70 #[.val (.ref a), .val (.int x), .val (.double kk), .second, .val (.int 0)] []))
  exact e_ret0 hGe X5 hx hrt hlk (hb hby d4_70) rfl (by decide) (by decide) (⟨rfl, NF5, K5, Ex_a, F_heap_a, F_position_a, F_key_a, F_size_a, V_hp, V_pp, V_ky⟩)

def Q_rmOl1 (Z : State) (a hp pp ky : Addr) (sz : Int32) (q : HP) (K : Int32 → UInt64) (bt : Int32 → Int32 → Bool) (x : Int32) (kk : UInt64) (h0 : Heap) (n0 : Nat) (v : Option Value) (h : Heap) (L : List Loc) : Prop := v = none ∧ Fr n0 L ∧ Keep h0 h [a, hp, pp, ky] ∧ NH Z h a hp pp ky sz (rs1 bt q) (upd K x kk)
set_option maxRecDepth 65536 in
set_option maxHeartbeats 40000000 in
theorem rmOl1 (l : Launch) (Z : State) (a0 : Array Value) (hw : ∀ d ∈ tables_1, d.before a0 Z = true) (ws : List Jvm.Cond) (a hp pp ky : Addr) (sz : Int32) (q : HP) (K : Int32 → UInt64) (bt : Int32 → Int32 → Bool) (x : Int32) (kk : UInt64) (h0 : Heap) (n0 : Nat) (Zs : n0 ≤ h0.size) (NQ : NH Z h0 a hp pp ky sz q K) (DD : Dis n0 a hp pp ky) (ix : In4 x) (hP : q.2 x = 1) (hlt : FP.dcmp kk (K x) = some .lt) (ii : I4 2 q) (hbb : HB 2 (upd K x kk) bt q) :
    Con l (⟨"com/example/tributary/tributary/plan/NodeHeap", "offer", "(ID)V"⟩ : MethodName) prog_39_method_3_code 5 none ws ({ frames := 2, cells := 0, slots := 0, locals := 56 } : Room) Z #[(.ref a), (.int x), (.double kk)] h0 ({ frames := 2, cells := 0, slots := 0, locals := 56 } : Room).cells ({ frames := 2, cells := 0, slots := 0, locals := 56 } : Room).slots (Q_rmOl1 Z a hp pp ky sz q K bt x kk h0 n0) := by
  refine Con.of (Ls := #[.val (.ref a), .val (.int x), .val (.double kk), .second, .unset]) (plainFor_of_name (by first | (simp [plainName, overriddenIn]; done) | decide +kernel)) (fun m => by first | (simp [entryFrame, mkF, argsToLocals, Value.category]; done) | rfl) ?_
  intro p e s m below meth c s₁ G hGe hG hx hby hml hown hnm hrt hlk hZ X0 e0
  have hown : s.vm.findClass "com/example/tributary/tributary/plan/NodeHeap" = some m.cls := hown
  have hnm : meth.name = "offer" := hnm
  have NF0 := Fr.nil n0
  obtain ⟨Ex_a, F_heap_a, F_position_a, F_key_a, F_size_a, V_hp, V_pp, V_ky⟩ := NQ
  obtain ⟨ga, ghp, gpp, gky, d1, d2, d3, d4, d5, d6⟩ := DD
  have K0 := Keep.refl h0 [a, hp, pp, ky]
  refine g_aloadN hG X0 hx (hb hby d4_0) (pc' := 1) rfl rfl rfl ?_
  show G (s₁.setTop (mkF m 1 #[.val (.ref a), .val (.int x), .val (.double kk), .second, .unset] [(.ref a)]))
  refine g_getF hG X0 hx hZ hown (wd hw 13 rfl) Via.refl e0 F_position_a (hb hby d4_1) (pc' := 4) rfl ?_
  intro T1 X1 e1
  show G (T1.setTop (mkF m 4 #[.val (.ref a), .val (.int x), .val (.double kk), .second, .unset] [(.ref pp)]))
  refine g_iloadN hG X1 hx (hb hby d4_4) (pc' := 5) rfl rfl ?_
  show G (T1.setTop (mkF m 5 #[.val (.ref a), .val (.int x), .val (.double kk), .second, .unset] [(.int x), (.ref pp)]))
  refine g_iaload hG X1 hx hZ e1 V_pp (j := x) (v := (.int 1)) (in4_nn ix) (in4_at ix hP) (hb hby d4_5) (pc' := 6) rfl ?_
  show G (T1.setTop (mkF m 6 #[.val (.ref a), .val (.int x), .val (.double kk), .second, .unset] [(.int 1)]))
  refine g_istore hG X1 hx (hb hby d4_6) (pc' := 8) rfl (Ls' := #[.val (.ref a), .val (.int x), .val (.double kk), .second, .val (.int 1)]) rfl ?_
  show G (T1.setTop (mkF m 8 #[.val (.ref a), .val (.int x), .val (.double kk), .second, .val (.int 1)] []))
  refine g_iload hG X1 hx (hb hby d4_8) (pc' := 10) rfl rfl ?_
  show G (T1.setTop (mkF m 10 #[.val (.ref a), .val (.int x), .val (.double kk), .second, .val (.int 1)] [(.int 1)]))
  refine g_ifYes hG X1 hx (hb hby d4_10) (pc' := 45) (by decide) (by decide) (by decide) ?_
  show G (T1.setTop (mkF m 45 #[.val (.ref a), .val (.int x), .val (.double kk), .second, .val (.int 1)] []))
  refine g_dloadN hG X1 hx (hb hby d4_45) (pc' := 46) rfl rfl ?_
  show G (T1.setTop (mkF m 46 #[.val (.ref a), .val (.int x), .val (.double kk), .second, .val (.int 1)] [(.double kk)]))
  refine g_aloadN hG X1 hx (hb hby d4_46) (pc' := 47) rfl rfl rfl ?_
  show G (T1.setTop (mkF m 47 #[.val (.ref a), .val (.int x), .val (.double kk), .second, .val (.int 1)] [(.ref a), (.double kk)]))
  refine g_getF hG X1 hx hZ hown (wd hw 16 rfl) Via.refl e1 F_key_a (hb hby d4_47) (pc' := 50) rfl ?_
  intro T2 X2 e2
  show G (T2.setTop (mkF m 50 #[.val (.ref a), .val (.int x), .val (.double kk), .second, .val (.int 1)] [(.ref ky), (.double kk)]))
  refine g_iloadN hG X2 hx (hb hby d4_50) (pc' := 51) rfl rfl ?_
  show G (T2.setTop (mkF m 51 #[.val (.ref a), .val (.int x), .val (.double kk), .second, .val (.int 1)] [(.int x), (.ref ky), (.double kk)]))
  refine g_daload hG X2 hx hZ e2 V_ky (j := x) (v := (.double (K x))) (in4_nn ix) (in4_atd ix rfl) (hb hby d4_51) (pc' := 52) rfl ?_
  show G (T2.setTop (mkF m 52 #[.val (.ref a), .val (.int x), .val (.double kk), .second, .val (.int 1)] [(.double (K x)), (.double kk)]))
  obtain ⟨v52, q52⟩ : ∃ zz : Int32, cmpValue (FP.dcmp kk (K x)) .g = zz := ⟨_, rfl⟩
  refine g_dcmp hG X2 hx (hb hby d4_52) (pc' := 53) rfl q52 ?_
  show G (T2.setTop (mkF m 53 #[.val (.ref a), .val (.int x), .val (.double kk), .second, .val (.int 1)] [(.int v52)]))
  refine g_ifYes hG X2 hx (hb hby d4_53) (pc' := 57) (by rw [← q52, hlt]; rfl) (by decide) (by decide) ?_
  show G (T2.setTop (mkF m 57 #[.val (.ref a), .val (.int x), .val (.double kk), .second, .val (.int 1)] []))
  refine g_aloadN hG X2 hx (hb hby d4_57) (pc' := 58) rfl rfl rfl ?_
  show G (T2.setTop (mkF m 58 #[.val (.ref a), .val (.int x), .val (.double kk), .second, .val (.int 1)] [(.ref a)]))
  refine g_getF hG X2 hx hZ hown (wd hw 16 rfl) Via.refl e2 F_key_a (hb hby d4_58) (pc' := 61) rfl ?_
  intro T3 X3 e3
  show G (T3.setTop (mkF m 61 #[.val (.ref a), .val (.int x), .val (.double kk), .second, .val (.int 1)] [(.ref ky)]))
  refine g_iloadN hG X3 hx (hb hby d4_61) (pc' := 62) rfl rfl ?_
  show G (T3.setTop (mkF m 62 #[.val (.ref a), .val (.int x), .val (.double kk), .second, .val (.int 1)] [(.int x), (.ref ky)]))
  refine g_dloadN hG X3 hx (hb hby d4_62) (pc' := 63) rfl rfl ?_
  show G (T3.setTop (mkF m 63 #[.val (.ref a), .val (.int x), .val (.double kk), .second, .val (.int 1)] [(.double kk), (.int x), (.ref ky)]))
  refine g_dastore hG X3 hx hZ e3 V_ky (j := x) (in4_nn ix) (in4_lend ix) (hb hby d4_63) (pc' := 64) rfl ?_
  intro T4 h4 X4 e4 W4 Vn4
  rw [in4_setd ix] at Vn4
  have V_ky : AV Z h4 ky .double (4 : Int32) (fd4 (upd K x kk)) := Vn4
  have Ex_a := Ex_a.wr W4
  have F_heap_a := F_heap_a.other W4 (Or.inl d3)
  have F_position_a := F_position_a.other W4 (Or.inl d3)
  have F_key_a := F_key_a.other W4 (Or.inl d3)
  have F_size_a := F_size_a.other W4 (Or.inl d3)
  have V_hp := V_hp.other W4 d5
  have V_pp := V_pp.other W4 d6
  have Zs := Nat.le_trans Zs (Wr.size W4)
  have NF4 := Fr.snoc X4 NF0 gky
  have K4 := K0.wr W4 (Or.inl (List.mem_of_getElem? (i := 3) rfl))
  show G (T4.setTop (mkF m 64 #[.val (.ref a), .val (.int x), .val (.double kk), .second, .val (.int 1)] []))
  refine g_aloadN hG X4 hx (hb hby d4_64) (pc' := 65) rfl rfl rfl ?_
  show G (T4.setTop (mkF m 65 #[.val (.ref a), .val (.int x), .val (.double kk), .second, .val (.int 1)] [(.ref a)]))
  refine g_iload hG X4 hx (hb hby d4_65) (pc' := 67) rfl rfl ?_
  show G (T4.setTop (mkF m 67 #[.val (.ref a), .val (.int x), .val (.double kk), .second, .val (.int 1)] [(.int 1), (.ref a)]))
  refine g_callP hG X4 hx hZ (y := (⟨"com/example/tributary/tributary/plan/NodeHeap", "rise", "(I)V"⟩ : MethodName)) 0 hown (wd hw 29 rfl) (wd hw 30 rfl) (wd hw 3 rfl) (wd hw 31 rfl) (wd hw 4 rfl) (wd hw 32 rfl) (by decide) (rmRs1 l Z a0 hw [] a hp pp ky sz q (upd K x kk) bt h4 n0 Zs ⟨Ex_a, F_heap_a, F_position_a, F_key_a, F_size_a, V_hp, V_pp, V_ky⟩ ⟨ga, ghp, gpp, gky, d1, d2, d3, d4, d5, d6⟩ ii hbb) (by decide) (by decide) (by rw [hml]; rfl) pd_3 rfl (argsL := [(.int 1)]) (rest := []) rfl rfl (Nat.le_of_eq rfl) (hb hby d4_67) e4 Ex_a (by decide) (by decide) (pc' := 70) rfl ?_
  intro T5 rv5 L5 X5 hQ5
  obtain ⟨rfl, Nq5, Kq5, Ex_a, F_heap_a, F_position_a, F_key_a, F_size_a, V_hp, V_pp, V_ky⟩ := hQ5
  have NF5 := Fr.app NF4 Nq5
  have Zs := Nat.le_trans Zs Kq5.1
  have K5 := K4.trans Kq5 (allS (Or.inl (List.mem_of_getElem? (i := 0) rfl)) (allS (Or.inl (List.mem_of_getElem? (i := 1) rfl)) (allS (Or.inl (List.mem_of_getElem? (i := 2) rfl)) (allS (Or.inl (List.mem_of_getElem? (i := 3) rfl)) all0))))
  show G (T5.setTop (mkF m 70 #[.val (.ref a), .val (.int x), .val (.double kk), .second, .val (.int 1)] []))
  exact e_ret0 hGe X5 hx hrt hlk (hb hby d4_70) rfl (by decide) (by decide) (⟨rfl, NF5, K5, Ex_a, F_heap_a, F_position_a, F_key_a, F_size_a, V_hp, V_pp, V_ky⟩)

def Q_rmOl2 (Z : State) (a hp pp ky : Addr) (sz : Int32) (q : HP) (K : Int32 → UInt64) (bt : Int32 → Int32 → Bool) (x : Int32) (kk : UInt64) (h0 : Heap) (n0 : Nat) (v : Option Value) (h : Heap) (L : List Loc) : Prop := v = none ∧ Fr n0 L ∧ Keep h0 h [a, hp, pp, ky] ∧ NH Z h a hp pp ky sz (rs2 bt q) (upd K x kk)
set_option maxRecDepth 65536 in
set_option maxHeartbeats 40000000 in
theorem rmOl2 (l : Launch) (Z : State) (a0 : Array Value) (hw : ∀ d ∈ tables_1, d.before a0 Z = true) (ws : List Jvm.Cond) (a hp pp ky : Addr) (sz : Int32) (q : HP) (K : Int32 → UInt64) (bt : Int32 → Int32 → Bool) (x : Int32) (kk : UInt64) (h0 : Heap) (n0 : Nat) (Zs : n0 ≤ h0.size) (NQ : NH Z h0 a hp pp ky sz q K) (DD : Dis n0 a hp pp ky) (ix : In4 x) (hP : q.2 x = 2) (hlt : FP.dcmp kk (K x) = some .lt) (ii : I4 3 q) (hbb : HB 3 (upd K x kk) bt q) :
    Con l (⟨"com/example/tributary/tributary/plan/NodeHeap", "offer", "(ID)V"⟩ : MethodName) prog_39_method_3_code 5 none ws ({ frames := 2, cells := 0, slots := 0, locals := 56 } : Room) Z #[(.ref a), (.int x), (.double kk)] h0 ({ frames := 2, cells := 0, slots := 0, locals := 56 } : Room).cells ({ frames := 2, cells := 0, slots := 0, locals := 56 } : Room).slots (Q_rmOl2 Z a hp pp ky sz q K bt x kk h0 n0) := by
  refine Con.of (Ls := #[.val (.ref a), .val (.int x), .val (.double kk), .second, .unset]) (plainFor_of_name (by first | (simp [plainName, overriddenIn]; done) | decide +kernel)) (fun m => by first | (simp [entryFrame, mkF, argsToLocals, Value.category]; done) | rfl) ?_
  intro p e s m below meth c s₁ G hGe hG hx hby hml hown hnm hrt hlk hZ X0 e0
  have hown : s.vm.findClass "com/example/tributary/tributary/plan/NodeHeap" = some m.cls := hown
  have hnm : meth.name = "offer" := hnm
  have NF0 := Fr.nil n0
  obtain ⟨Ex_a, F_heap_a, F_position_a, F_key_a, F_size_a, V_hp, V_pp, V_ky⟩ := NQ
  obtain ⟨ga, ghp, gpp, gky, d1, d2, d3, d4, d5, d6⟩ := DD
  have K0 := Keep.refl h0 [a, hp, pp, ky]
  refine g_aloadN hG X0 hx (hb hby d4_0) (pc' := 1) rfl rfl rfl ?_
  show G (s₁.setTop (mkF m 1 #[.val (.ref a), .val (.int x), .val (.double kk), .second, .unset] [(.ref a)]))
  refine g_getF hG X0 hx hZ hown (wd hw 13 rfl) Via.refl e0 F_position_a (hb hby d4_1) (pc' := 4) rfl ?_
  intro T1 X1 e1
  show G (T1.setTop (mkF m 4 #[.val (.ref a), .val (.int x), .val (.double kk), .second, .unset] [(.ref pp)]))
  refine g_iloadN hG X1 hx (hb hby d4_4) (pc' := 5) rfl rfl ?_
  show G (T1.setTop (mkF m 5 #[.val (.ref a), .val (.int x), .val (.double kk), .second, .unset] [(.int x), (.ref pp)]))
  refine g_iaload hG X1 hx hZ e1 V_pp (j := x) (v := (.int 2)) (in4_nn ix) (in4_at ix hP) (hb hby d4_5) (pc' := 6) rfl ?_
  show G (T1.setTop (mkF m 6 #[.val (.ref a), .val (.int x), .val (.double kk), .second, .unset] [(.int 2)]))
  refine g_istore hG X1 hx (hb hby d4_6) (pc' := 8) rfl (Ls' := #[.val (.ref a), .val (.int x), .val (.double kk), .second, .val (.int 2)]) rfl ?_
  show G (T1.setTop (mkF m 8 #[.val (.ref a), .val (.int x), .val (.double kk), .second, .val (.int 2)] []))
  refine g_iload hG X1 hx (hb hby d4_8) (pc' := 10) rfl rfl ?_
  show G (T1.setTop (mkF m 10 #[.val (.ref a), .val (.int x), .val (.double kk), .second, .val (.int 2)] [(.int 2)]))
  refine g_ifYes hG X1 hx (hb hby d4_10) (pc' := 45) (by decide) (by decide) (by decide) ?_
  show G (T1.setTop (mkF m 45 #[.val (.ref a), .val (.int x), .val (.double kk), .second, .val (.int 2)] []))
  refine g_dloadN hG X1 hx (hb hby d4_45) (pc' := 46) rfl rfl ?_
  show G (T1.setTop (mkF m 46 #[.val (.ref a), .val (.int x), .val (.double kk), .second, .val (.int 2)] [(.double kk)]))
  refine g_aloadN hG X1 hx (hb hby d4_46) (pc' := 47) rfl rfl rfl ?_
  show G (T1.setTop (mkF m 47 #[.val (.ref a), .val (.int x), .val (.double kk), .second, .val (.int 2)] [(.ref a), (.double kk)]))
  refine g_getF hG X1 hx hZ hown (wd hw 16 rfl) Via.refl e1 F_key_a (hb hby d4_47) (pc' := 50) rfl ?_
  intro T2 X2 e2
  show G (T2.setTop (mkF m 50 #[.val (.ref a), .val (.int x), .val (.double kk), .second, .val (.int 2)] [(.ref ky), (.double kk)]))
  refine g_iloadN hG X2 hx (hb hby d4_50) (pc' := 51) rfl rfl ?_
  show G (T2.setTop (mkF m 51 #[.val (.ref a), .val (.int x), .val (.double kk), .second, .val (.int 2)] [(.int x), (.ref ky), (.double kk)]))
  refine g_daload hG X2 hx hZ e2 V_ky (j := x) (v := (.double (K x))) (in4_nn ix) (in4_atd ix rfl) (hb hby d4_51) (pc' := 52) rfl ?_
  show G (T2.setTop (mkF m 52 #[.val (.ref a), .val (.int x), .val (.double kk), .second, .val (.int 2)] [(.double (K x)), (.double kk)]))
  obtain ⟨v52, q52⟩ : ∃ zz : Int32, cmpValue (FP.dcmp kk (K x)) .g = zz := ⟨_, rfl⟩
  refine g_dcmp hG X2 hx (hb hby d4_52) (pc' := 53) rfl q52 ?_
  show G (T2.setTop (mkF m 53 #[.val (.ref a), .val (.int x), .val (.double kk), .second, .val (.int 2)] [(.int v52)]))
  refine g_ifYes hG X2 hx (hb hby d4_53) (pc' := 57) (by rw [← q52, hlt]; rfl) (by decide) (by decide) ?_
  show G (T2.setTop (mkF m 57 #[.val (.ref a), .val (.int x), .val (.double kk), .second, .val (.int 2)] []))
  refine g_aloadN hG X2 hx (hb hby d4_57) (pc' := 58) rfl rfl rfl ?_
  show G (T2.setTop (mkF m 58 #[.val (.ref a), .val (.int x), .val (.double kk), .second, .val (.int 2)] [(.ref a)]))
  refine g_getF hG X2 hx hZ hown (wd hw 16 rfl) Via.refl e2 F_key_a (hb hby d4_58) (pc' := 61) rfl ?_
  intro T3 X3 e3
  show G (T3.setTop (mkF m 61 #[.val (.ref a), .val (.int x), .val (.double kk), .second, .val (.int 2)] [(.ref ky)]))
  refine g_iloadN hG X3 hx (hb hby d4_61) (pc' := 62) rfl rfl ?_
  show G (T3.setTop (mkF m 62 #[.val (.ref a), .val (.int x), .val (.double kk), .second, .val (.int 2)] [(.int x), (.ref ky)]))
  refine g_dloadN hG X3 hx (hb hby d4_62) (pc' := 63) rfl rfl ?_
  show G (T3.setTop (mkF m 63 #[.val (.ref a), .val (.int x), .val (.double kk), .second, .val (.int 2)] [(.double kk), (.int x), (.ref ky)]))
  refine g_dastore hG X3 hx hZ e3 V_ky (j := x) (in4_nn ix) (in4_lend ix) (hb hby d4_63) (pc' := 64) rfl ?_
  intro T4 h4 X4 e4 W4 Vn4
  rw [in4_setd ix] at Vn4
  have V_ky : AV Z h4 ky .double (4 : Int32) (fd4 (upd K x kk)) := Vn4
  have Ex_a := Ex_a.wr W4
  have F_heap_a := F_heap_a.other W4 (Or.inl d3)
  have F_position_a := F_position_a.other W4 (Or.inl d3)
  have F_key_a := F_key_a.other W4 (Or.inl d3)
  have F_size_a := F_size_a.other W4 (Or.inl d3)
  have V_hp := V_hp.other W4 d5
  have V_pp := V_pp.other W4 d6
  have Zs := Nat.le_trans Zs (Wr.size W4)
  have NF4 := Fr.snoc X4 NF0 gky
  have K4 := K0.wr W4 (Or.inl (List.mem_of_getElem? (i := 3) rfl))
  show G (T4.setTop (mkF m 64 #[.val (.ref a), .val (.int x), .val (.double kk), .second, .val (.int 2)] []))
  refine g_aloadN hG X4 hx (hb hby d4_64) (pc' := 65) rfl rfl rfl ?_
  show G (T4.setTop (mkF m 65 #[.val (.ref a), .val (.int x), .val (.double kk), .second, .val (.int 2)] [(.ref a)]))
  refine g_iload hG X4 hx (hb hby d4_65) (pc' := 67) rfl rfl ?_
  show G (T4.setTop (mkF m 67 #[.val (.ref a), .val (.int x), .val (.double kk), .second, .val (.int 2)] [(.int 2), (.ref a)]))
  refine g_callP hG X4 hx hZ (y := (⟨"com/example/tributary/tributary/plan/NodeHeap", "rise", "(I)V"⟩ : MethodName)) 0 hown (wd hw 29 rfl) (wd hw 30 rfl) (wd hw 3 rfl) (wd hw 31 rfl) (wd hw 4 rfl) (wd hw 32 rfl) (by decide) (rmRs2 l Z a0 hw [] a hp pp ky sz q (upd K x kk) bt h4 n0 Zs ⟨Ex_a, F_heap_a, F_position_a, F_key_a, F_size_a, V_hp, V_pp, V_ky⟩ ⟨ga, ghp, gpp, gky, d1, d2, d3, d4, d5, d6⟩ ii hbb) (by decide) (by decide) (by rw [hml]; rfl) pd_3 rfl (argsL := [(.int 2)]) (rest := []) rfl rfl (Nat.le_of_eq rfl) (hb hby d4_67) e4 Ex_a (by decide) (by decide) (pc' := 70) rfl ?_
  intro T5 rv5 L5 X5 hQ5
  obtain ⟨rfl, Nq5, Kq5, Ex_a, F_heap_a, F_position_a, F_key_a, F_size_a, V_hp, V_pp, V_ky⟩ := hQ5
  have NF5 := Fr.app NF4 Nq5
  have Zs := Nat.le_trans Zs Kq5.1
  have K5 := K4.trans Kq5 (allS (Or.inl (List.mem_of_getElem? (i := 0) rfl)) (allS (Or.inl (List.mem_of_getElem? (i := 1) rfl)) (allS (Or.inl (List.mem_of_getElem? (i := 2) rfl)) (allS (Or.inl (List.mem_of_getElem? (i := 3) rfl)) all0))))
  show G (T5.setTop (mkF m 70 #[.val (.ref a), .val (.int x), .val (.double kk), .second, .val (.int 2)] []))
  exact e_ret0 hGe X5 hx hrt hlk (hb hby d4_70) rfl (by decide) (by decide) (⟨rfl, NF5, K5, Ex_a, F_heap_a, F_position_a, F_key_a, F_size_a, V_hp, V_pp, V_ky⟩)

def Q_rmOl3 (Z : State) (a hp pp ky : Addr) (sz : Int32) (q : HP) (K : Int32 → UInt64) (bt : Int32 → Int32 → Bool) (x : Int32) (kk : UInt64) (h0 : Heap) (n0 : Nat) (v : Option Value) (h : Heap) (L : List Loc) : Prop := v = none ∧ Fr n0 L ∧ Keep h0 h [a, hp, pp, ky] ∧ NH Z h a hp pp ky sz (rs3 bt q) (upd K x kk)
set_option maxRecDepth 65536 in
set_option maxHeartbeats 40000000 in
theorem rmOl3 (l : Launch) (Z : State) (a0 : Array Value) (hw : ∀ d ∈ tables_1, d.before a0 Z = true) (ws : List Jvm.Cond) (a hp pp ky : Addr) (sz : Int32) (q : HP) (K : Int32 → UInt64) (bt : Int32 → Int32 → Bool) (x : Int32) (kk : UInt64) (h0 : Heap) (n0 : Nat) (Zs : n0 ≤ h0.size) (NQ : NH Z h0 a hp pp ky sz q K) (DD : Dis n0 a hp pp ky) (ix : In4 x) (hP : q.2 x = 3) (hlt : FP.dcmp kk (K x) = some .lt) (ii : I4 4 q) (hbb : HB 4 (upd K x kk) bt q) :
    Con l (⟨"com/example/tributary/tributary/plan/NodeHeap", "offer", "(ID)V"⟩ : MethodName) prog_39_method_3_code 5 none ws ({ frames := 2, cells := 0, slots := 0, locals := 56 } : Room) Z #[(.ref a), (.int x), (.double kk)] h0 ({ frames := 2, cells := 0, slots := 0, locals := 56 } : Room).cells ({ frames := 2, cells := 0, slots := 0, locals := 56 } : Room).slots (Q_rmOl3 Z a hp pp ky sz q K bt x kk h0 n0) := by
  refine Con.of (Ls := #[.val (.ref a), .val (.int x), .val (.double kk), .second, .unset]) (plainFor_of_name (by first | (simp [plainName, overriddenIn]; done) | decide +kernel)) (fun m => by first | (simp [entryFrame, mkF, argsToLocals, Value.category]; done) | rfl) ?_
  intro p e s m below meth c s₁ G hGe hG hx hby hml hown hnm hrt hlk hZ X0 e0
  have hown : s.vm.findClass "com/example/tributary/tributary/plan/NodeHeap" = some m.cls := hown
  have hnm : meth.name = "offer" := hnm
  have NF0 := Fr.nil n0
  obtain ⟨Ex_a, F_heap_a, F_position_a, F_key_a, F_size_a, V_hp, V_pp, V_ky⟩ := NQ
  obtain ⟨ga, ghp, gpp, gky, d1, d2, d3, d4, d5, d6⟩ := DD
  have K0 := Keep.refl h0 [a, hp, pp, ky]
  refine g_aloadN hG X0 hx (hb hby d4_0) (pc' := 1) rfl rfl rfl ?_
  show G (s₁.setTop (mkF m 1 #[.val (.ref a), .val (.int x), .val (.double kk), .second, .unset] [(.ref a)]))
  refine g_getF hG X0 hx hZ hown (wd hw 13 rfl) Via.refl e0 F_position_a (hb hby d4_1) (pc' := 4) rfl ?_
  intro T1 X1 e1
  show G (T1.setTop (mkF m 4 #[.val (.ref a), .val (.int x), .val (.double kk), .second, .unset] [(.ref pp)]))
  refine g_iloadN hG X1 hx (hb hby d4_4) (pc' := 5) rfl rfl ?_
  show G (T1.setTop (mkF m 5 #[.val (.ref a), .val (.int x), .val (.double kk), .second, .unset] [(.int x), (.ref pp)]))
  refine g_iaload hG X1 hx hZ e1 V_pp (j := x) (v := (.int 3)) (in4_nn ix) (in4_at ix hP) (hb hby d4_5) (pc' := 6) rfl ?_
  show G (T1.setTop (mkF m 6 #[.val (.ref a), .val (.int x), .val (.double kk), .second, .unset] [(.int 3)]))
  refine g_istore hG X1 hx (hb hby d4_6) (pc' := 8) rfl (Ls' := #[.val (.ref a), .val (.int x), .val (.double kk), .second, .val (.int 3)]) rfl ?_
  show G (T1.setTop (mkF m 8 #[.val (.ref a), .val (.int x), .val (.double kk), .second, .val (.int 3)] []))
  refine g_iload hG X1 hx (hb hby d4_8) (pc' := 10) rfl rfl ?_
  show G (T1.setTop (mkF m 10 #[.val (.ref a), .val (.int x), .val (.double kk), .second, .val (.int 3)] [(.int 3)]))
  refine g_ifYes hG X1 hx (hb hby d4_10) (pc' := 45) (by decide) (by decide) (by decide) ?_
  show G (T1.setTop (mkF m 45 #[.val (.ref a), .val (.int x), .val (.double kk), .second, .val (.int 3)] []))
  refine g_dloadN hG X1 hx (hb hby d4_45) (pc' := 46) rfl rfl ?_
  show G (T1.setTop (mkF m 46 #[.val (.ref a), .val (.int x), .val (.double kk), .second, .val (.int 3)] [(.double kk)]))
  refine g_aloadN hG X1 hx (hb hby d4_46) (pc' := 47) rfl rfl rfl ?_
  show G (T1.setTop (mkF m 47 #[.val (.ref a), .val (.int x), .val (.double kk), .second, .val (.int 3)] [(.ref a), (.double kk)]))
  refine g_getF hG X1 hx hZ hown (wd hw 16 rfl) Via.refl e1 F_key_a (hb hby d4_47) (pc' := 50) rfl ?_
  intro T2 X2 e2
  show G (T2.setTop (mkF m 50 #[.val (.ref a), .val (.int x), .val (.double kk), .second, .val (.int 3)] [(.ref ky), (.double kk)]))
  refine g_iloadN hG X2 hx (hb hby d4_50) (pc' := 51) rfl rfl ?_
  show G (T2.setTop (mkF m 51 #[.val (.ref a), .val (.int x), .val (.double kk), .second, .val (.int 3)] [(.int x), (.ref ky), (.double kk)]))
  refine g_daload hG X2 hx hZ e2 V_ky (j := x) (v := (.double (K x))) (in4_nn ix) (in4_atd ix rfl) (hb hby d4_51) (pc' := 52) rfl ?_
  show G (T2.setTop (mkF m 52 #[.val (.ref a), .val (.int x), .val (.double kk), .second, .val (.int 3)] [(.double (K x)), (.double kk)]))
  obtain ⟨v52, q52⟩ : ∃ zz : Int32, cmpValue (FP.dcmp kk (K x)) .g = zz := ⟨_, rfl⟩
  refine g_dcmp hG X2 hx (hb hby d4_52) (pc' := 53) rfl q52 ?_
  show G (T2.setTop (mkF m 53 #[.val (.ref a), .val (.int x), .val (.double kk), .second, .val (.int 3)] [(.int v52)]))
  refine g_ifYes hG X2 hx (hb hby d4_53) (pc' := 57) (by rw [← q52, hlt]; rfl) (by decide) (by decide) ?_
  show G (T2.setTop (mkF m 57 #[.val (.ref a), .val (.int x), .val (.double kk), .second, .val (.int 3)] []))
  refine g_aloadN hG X2 hx (hb hby d4_57) (pc' := 58) rfl rfl rfl ?_
  show G (T2.setTop (mkF m 58 #[.val (.ref a), .val (.int x), .val (.double kk), .second, .val (.int 3)] [(.ref a)]))
  refine g_getF hG X2 hx hZ hown (wd hw 16 rfl) Via.refl e2 F_key_a (hb hby d4_58) (pc' := 61) rfl ?_
  intro T3 X3 e3
  show G (T3.setTop (mkF m 61 #[.val (.ref a), .val (.int x), .val (.double kk), .second, .val (.int 3)] [(.ref ky)]))
  refine g_iloadN hG X3 hx (hb hby d4_61) (pc' := 62) rfl rfl ?_
  show G (T3.setTop (mkF m 62 #[.val (.ref a), .val (.int x), .val (.double kk), .second, .val (.int 3)] [(.int x), (.ref ky)]))
  refine g_dloadN hG X3 hx (hb hby d4_62) (pc' := 63) rfl rfl ?_
  show G (T3.setTop (mkF m 63 #[.val (.ref a), .val (.int x), .val (.double kk), .second, .val (.int 3)] [(.double kk), (.int x), (.ref ky)]))
  refine g_dastore hG X3 hx hZ e3 V_ky (j := x) (in4_nn ix) (in4_lend ix) (hb hby d4_63) (pc' := 64) rfl ?_
  intro T4 h4 X4 e4 W4 Vn4
  rw [in4_setd ix] at Vn4
  have V_ky : AV Z h4 ky .double (4 : Int32) (fd4 (upd K x kk)) := Vn4
  have Ex_a := Ex_a.wr W4
  have F_heap_a := F_heap_a.other W4 (Or.inl d3)
  have F_position_a := F_position_a.other W4 (Or.inl d3)
  have F_key_a := F_key_a.other W4 (Or.inl d3)
  have F_size_a := F_size_a.other W4 (Or.inl d3)
  have V_hp := V_hp.other W4 d5
  have V_pp := V_pp.other W4 d6
  have Zs := Nat.le_trans Zs (Wr.size W4)
  have NF4 := Fr.snoc X4 NF0 gky
  have K4 := K0.wr W4 (Or.inl (List.mem_of_getElem? (i := 3) rfl))
  show G (T4.setTop (mkF m 64 #[.val (.ref a), .val (.int x), .val (.double kk), .second, .val (.int 3)] []))
  refine g_aloadN hG X4 hx (hb hby d4_64) (pc' := 65) rfl rfl rfl ?_
  show G (T4.setTop (mkF m 65 #[.val (.ref a), .val (.int x), .val (.double kk), .second, .val (.int 3)] [(.ref a)]))
  refine g_iload hG X4 hx (hb hby d4_65) (pc' := 67) rfl rfl ?_
  show G (T4.setTop (mkF m 67 #[.val (.ref a), .val (.int x), .val (.double kk), .second, .val (.int 3)] [(.int 3), (.ref a)]))
  refine g_callP hG X4 hx hZ (y := (⟨"com/example/tributary/tributary/plan/NodeHeap", "rise", "(I)V"⟩ : MethodName)) 0 hown (wd hw 29 rfl) (wd hw 30 rfl) (wd hw 3 rfl) (wd hw 31 rfl) (wd hw 4 rfl) (wd hw 32 rfl) (by decide) (rmRs3 l Z a0 hw [] a hp pp ky sz q (upd K x kk) bt h4 n0 Zs ⟨Ex_a, F_heap_a, F_position_a, F_key_a, F_size_a, V_hp, V_pp, V_ky⟩ ⟨ga, ghp, gpp, gky, d1, d2, d3, d4, d5, d6⟩ ii hbb) (by decide) (by decide) (by rw [hml]; rfl) pd_3 rfl (argsL := [(.int 3)]) (rest := []) rfl rfl (Nat.le_of_eq rfl) (hb hby d4_67) e4 Ex_a (by decide) (by decide) (pc' := 70) rfl ?_
  intro T5 rv5 L5 X5 hQ5
  obtain ⟨rfl, Nq5, Kq5, Ex_a, F_heap_a, F_position_a, F_key_a, F_size_a, V_hp, V_pp, V_ky⟩ := hQ5
  have NF5 := Fr.app NF4 Nq5
  have Zs := Nat.le_trans Zs Kq5.1
  have K5 := K4.trans Kq5 (allS (Or.inl (List.mem_of_getElem? (i := 0) rfl)) (allS (Or.inl (List.mem_of_getElem? (i := 1) rfl)) (allS (Or.inl (List.mem_of_getElem? (i := 2) rfl)) (allS (Or.inl (List.mem_of_getElem? (i := 3) rfl)) all0))))
  show G (T5.setTop (mkF m 70 #[.val (.ref a), .val (.int x), .val (.double kk), .second, .val (.int 3)] []))
  exact e_ret0 hGe X5 hx hrt hlk (hb hby d4_70) rfl (by decide) (by decide) (⟨rfl, NF5, K5, Ex_a, F_heap_a, F_position_a, F_key_a, F_size_a, V_hp, V_pp, V_ky⟩)

def Q_rmOk (Z : State) (a hp pp ky : Addr) (sz : Int32) (q : HP) (K : Int32 → UInt64) (x : Int32) (kk : UInt64) (h0 : Heap) (n0 : Nat) (v : Option Value) (h : Heap) (L : List Loc) : Prop := v = none ∧ Fr n0 L ∧ h = h0
set_option maxRecDepth 65536 in
set_option maxHeartbeats 40000000 in
theorem rmOk (l : Launch) (Z : State) (a0 : Array Value) (hw : ∀ d ∈ tables_1, d.before a0 Z = true) (ws : List Jvm.Cond) (a hp pp ky : Addr) (sz : Int32) (q : HP) (K : Int32 → UInt64) (x : Int32) (kk : UInt64) (h0 : Heap) (n0 : Nat) (Zs : n0 ≤ h0.size) (NQ : NH Z h0 a hp pp ky sz q K) (DD : Dis n0 a hp pp ky) (ix : In4 x) (hP : ¬ q.2 x < 0) (hc : FP.dcmp kk (K x) = some .eq ∨ FP.dcmp kk (K x) = some .gt) :
    Con l (⟨"com/example/tributary/tributary/plan/NodeHeap", "offer", "(ID)V"⟩ : MethodName) prog_39_method_3_code 5 none ws ({ frames := 2, cells := 0, slots := 0, locals := 56 } : Room) Z #[(.ref a), (.int x), (.double kk)] h0 ({ frames := 2, cells := 0, slots := 0, locals := 56 } : Room).cells ({ frames := 2, cells := 0, slots := 0, locals := 56 } : Room).slots (Q_rmOk Z a hp pp ky sz q K x kk h0 n0) := by
  refine Con.of (Ls := #[.val (.ref a), .val (.int x), .val (.double kk), .second, .unset]) (plainFor_of_name (by first | (simp [plainName, overriddenIn]; done) | decide +kernel)) (fun m => by first | (simp [entryFrame, mkF, argsToLocals, Value.category]; done) | rfl) ?_
  intro p e s m below meth c s₁ G hGe hG hx hby hml hown hnm hrt hlk hZ X0 e0
  have hown : s.vm.findClass "com/example/tributary/tributary/plan/NodeHeap" = some m.cls := hown
  have hnm : meth.name = "offer" := hnm
  have NF0 := Fr.nil n0
  obtain ⟨Ex_a, F_heap_a, F_position_a, F_key_a, F_size_a, V_hp, V_pp, V_ky⟩ := NQ
  obtain ⟨ga, ghp, gpp, gky, d1, d2, d3, d4, d5, d6⟩ := DD
  refine g_aloadN hG X0 hx (hb hby d4_0) (pc' := 1) rfl rfl rfl ?_
  show G (s₁.setTop (mkF m 1 #[.val (.ref a), .val (.int x), .val (.double kk), .second, .unset] [(.ref a)]))
  refine g_getF hG X0 hx hZ hown (wd hw 13 rfl) Via.refl e0 F_position_a (hb hby d4_1) (pc' := 4) rfl ?_
  intro T1 X1 e1
  show G (T1.setTop (mkF m 4 #[.val (.ref a), .val (.int x), .val (.double kk), .second, .unset] [(.ref pp)]))
  refine g_iloadN hG X1 hx (hb hby d4_4) (pc' := 5) rfl rfl ?_
  show G (T1.setTop (mkF m 5 #[.val (.ref a), .val (.int x), .val (.double kk), .second, .unset] [(.int x), (.ref pp)]))
  refine g_iaload hG X1 hx hZ e1 V_pp (j := x) (v := (.int (q.2 x))) (in4_nn ix) (in4_at ix rfl) (hb hby d4_5) (pc' := 6) rfl ?_
  show G (T1.setTop (mkF m 6 #[.val (.ref a), .val (.int x), .val (.double kk), .second, .unset] [(.int (q.2 x))]))
  refine g_istore hG X1 hx (hb hby d4_6) (pc' := 8) rfl (Ls' := #[.val (.ref a), .val (.int x), .val (.double kk), .second, .val (.int (q.2 x))]) rfl ?_
  show G (T1.setTop (mkF m 8 #[.val (.ref a), .val (.int x), .val (.double kk), .second, .val (.int (q.2 x))] []))
  refine g_iload hG X1 hx (hb hby d4_8) (pc' := 10) rfl rfl ?_
  show G (T1.setTop (mkF m 10 #[.val (.ref a), .val (.int x), .val (.double kk), .second, .val (.int (q.2 x))] [(.int (q.2 x))]))
  refine g_ifYes hG X1 hx (hb hby d4_10) (pc' := 45) ((if0 _ _).trans (flt hP).2.1) (by decide) (by decide) ?_
  show G (T1.setTop (mkF m 45 #[.val (.ref a), .val (.int x), .val (.double kk), .second, .val (.int (q.2 x))] []))
  refine g_dloadN hG X1 hx (hb hby d4_45) (pc' := 46) rfl rfl ?_
  show G (T1.setTop (mkF m 46 #[.val (.ref a), .val (.int x), .val (.double kk), .second, .val (.int (q.2 x))] [(.double kk)]))
  refine g_aloadN hG X1 hx (hb hby d4_46) (pc' := 47) rfl rfl rfl ?_
  show G (T1.setTop (mkF m 47 #[.val (.ref a), .val (.int x), .val (.double kk), .second, .val (.int (q.2 x))] [(.ref a), (.double kk)]))
  refine g_getF hG X1 hx hZ hown (wd hw 16 rfl) Via.refl e1 F_key_a (hb hby d4_47) (pc' := 50) rfl ?_
  intro T2 X2 e2
  show G (T2.setTop (mkF m 50 #[.val (.ref a), .val (.int x), .val (.double kk), .second, .val (.int (q.2 x))] [(.ref ky), (.double kk)]))
  refine g_iloadN hG X2 hx (hb hby d4_50) (pc' := 51) rfl rfl ?_
  show G (T2.setTop (mkF m 51 #[.val (.ref a), .val (.int x), .val (.double kk), .second, .val (.int (q.2 x))] [(.int x), (.ref ky), (.double kk)]))
  refine g_daload hG X2 hx hZ e2 V_ky (j := x) (v := (.double (K x))) (in4_nn ix) (in4_atd ix rfl) (hb hby d4_51) (pc' := 52) rfl ?_
  show G (T2.setTop (mkF m 52 #[.val (.ref a), .val (.int x), .val (.double kk), .second, .val (.int (q.2 x))] [(.double (K x)), (.double kk)]))
  obtain ⟨v52, q52⟩ : ∃ zz : Int32, cmpValue (FP.dcmp kk (K x)) .g = zz := ⟨_, rfl⟩
  refine g_dcmp hG X2 hx (hb hby d4_52) (pc' := 53) rfl q52 ?_
  show G (T2.setTop (mkF m 53 #[.val (.ref a), .val (.int x), .val (.double kk), .second, .val (.int (q.2 x))] [(.int v52)]))
  refine g_ifNo hG X2 hx (hb hby d4_53) (pc' := 56) (by rcases hc with g | g <;> (rw [← q52, g]; rfl)) rfl ?_
  show G (T2.setTop (mkF m 56 #[.val (.ref a), .val (.int x), .val (.double kk), .second, .val (.int (q.2 x))] []))
  exact e_ret0 hGe X2 hx hrt hlk (hb hby d4_56) e2 (by decide) (by decide) (⟨rfl, NF0, rfl⟩)

def Q_rmOA (Z : State) (a hp pp ky : Addr) (z : Int32 → Bool) (B : Int32 → Int32) (mm : Nat) (x kx : Int32) (h0 : Heap) (n0 : Nat) (v : Option Value) (h : Heap) (L : List Loc) : Prop := ∃ (sz' : Int32) (q' : HP) (K' : Int32 → UInt64), v = none ∧ Fr n0 L ∧ Keep h0 h [a, hp, pp, ky] ∧ (NH Z h a hp pp ky sz' q' K') ∧ St (mm + 1) sz' (ntZ z B x kx) (ntB z B x kx) q' K'
set_option maxRecDepth 65536 in
set_option maxHeartbeats 40000000 in
theorem rmOA (l : Launch) (Z : State) (a0 : Array Value) (hw : ∀ d ∈ tables_1, d.before a0 Z = true) (ws : List Jvm.Cond) (a hp pp ky : Addr) (sz : Int32) (q : HP) (K : Int32 → UInt64) (z : Int32 → Bool) (B : Int32 → Int32) (mm : Nat) (x kx : Int32) (kk : UInt64) (h0 : Heap) (n0 : Nat) (Zs : n0 ≤ h0.size) (NQ : NH Z h0 a hp pp ky sz q K) (DD : Dis n0 a hp pp ky) (ix : In4 x) (hk : OwnFl.DV kk (kx.toInt : Rat)) (SS : St mm sz z B q K) (hm : mm ≤ 3) :
    Con l (⟨"com/example/tributary/tributary/plan/NodeHeap", "offer", "(ID)V"⟩ : MethodName) prog_39_method_3_code 5 none ws ({ frames := 2, cells := 0, slots := 0, locals := 56 } : Room) Z #[(.ref a), (.int x), (.double kk)] h0 ({ frames := 2, cells := 0, slots := 0, locals := 56 } : Room).cells ({ frames := 2, cells := 0, slots := 0, locals := 56 } : Room).slots (Q_rmOA Z a hp pp ky z B mm x kx h0 n0) := by
  obtain ⟨kd, ss⟩ := SS
  have hv : ∀ y, y ≠ x → vl (upd B x kx) y = vl B y := fun y hy => vl_ne y hy
  have kd' : KD (upd K x kk) (upd z x true) (upd B x kx) := kd_upd kd hk
  by_cases hz : z x = true
  · by_cases hl : kx < B x
    · have eZ : ntZ z B x kx = upd z x true := own_ntZ1 (Or.inr hl)
      have eB : ntB z B x kx = upd B x kx := own_ntB1 (Or.inr hl)
      have hlt : vl (upd B x kx) x < vl B x := vl_lt hl
      have hd : FP.dcmp kk (K x) = some .lt := OwnFl.dcmp_lt hk (kd x ix hz) (Rat.intCast_lt_intCast.mpr (Int32.lt_iff_toInt_lt.mp hl))
      rcases ss with ⟨rfl, ps⟩ | ⟨rfl, hm1, u1, ps⟩ | ⟨rfl, hm2, u1, u2, ps⟩ | ⟨rfl, hm3, u1, u2, u3, ps⟩ | ⟨rfl, hm4, u1, u2, u3, u4, ps⟩
      · exact absurd hz (by rw [ps.1 x ix]; decide)
      · rcases own_lo1 ps ix hz hv hlt with ⟨hP, nd, ps'⟩
        refine own_mono (rmOl0 l Z a0 hw ws a hp pp ky 1 q K (bv (vl (upd B x kx))) x kk h0 n0 Zs NQ DD ix hP hd (own_I4n nd) own_HB0) ?_
        intro v h L hq
        obtain ⟨e1, e2, e3, e4⟩ := hq
        refine ⟨_, _, _, e1, e2, e3, e4, ?_⟩
        rw [eZ, eB]
        exact ⟨kd', Or.inr (Or.inl ⟨rfl, by omega, ps'⟩)⟩
      · rcases own_lo2 ps ix hz hv hlt with ⟨hP, nd, ps'⟩ | ⟨hP, nd, ps'⟩
        · refine own_mono (rmOl0 l Z a0 hw ws a hp pp ky 2 q K (bv (vl (upd B x kx))) x kk h0 n0 Zs NQ DD ix hP hd (own_I4n nd) own_HB0) ?_
          intro v h L hq
          obtain ⟨e1, e2, e3, e4⟩ := hq
          refine ⟨_, _, _, e1, e2, e3, e4, ?_⟩
          rw [eZ, eB]
          exact ⟨kd', Or.inr (Or.inr (Or.inl ⟨rfl, by omega, ps'⟩))⟩
        · refine own_mono (rmOl1 l Z a0 hw ws a hp pp ky 2 q K (bv (vl (upd B x kx))) x kk h0 n0 Zs NQ DD ix hP hd (own_I4n nd) (own_HBv nd kd')) ?_
          intro v h L hq
          obtain ⟨e1, e2, e3, e4⟩ := hq
          refine ⟨_, _, _, e1, e2, e3, e4, ?_⟩
          rw [eZ, eB]
          exact ⟨kd', Or.inr (Or.inr (Or.inl ⟨rfl, by omega, ps'⟩))⟩
      · rcases own_lo3 ps ix hz hv hlt with ⟨hP, nd, ps'⟩ | ⟨hP, nd, ps'⟩ | ⟨hP, nd, ps'⟩
        · refine own_mono (rmOl0 l Z a0 hw ws a hp pp ky 3 q K (bv (vl (upd B x kx))) x kk h0 n0 Zs NQ DD ix hP hd (own_I4n nd) own_HB0) ?_
          intro v h L hq
          obtain ⟨e1, e2, e3, e4⟩ := hq
          refine ⟨_, _, _, e1, e2, e3, e4, ?_⟩
          rw [eZ, eB]
          exact ⟨kd', Or.inr (Or.inr (Or.inr (Or.inl ⟨rfl, by omega, ps'⟩)))⟩
        · refine own_mono (rmOl1 l Z a0 hw ws a hp pp ky 3 q K (bv (vl (upd B x kx))) x kk h0 n0 Zs NQ DD ix hP hd (own_I4n nd) (own_HBv nd kd')) ?_
          intro v h L hq
          obtain ⟨e1, e2, e3, e4⟩ := hq
          refine ⟨_, _, _, e1, e2, e3, e4, ?_⟩
          rw [eZ, eB]
          exact ⟨kd', Or.inr (Or.inr (Or.inr (Or.inl ⟨rfl, by omega, ps'⟩)))⟩
        · refine own_mono (rmOl2 l Z a0 hw ws a hp pp ky 3 q K (bv (vl (upd B x kx))) x kk h0 n0 Zs NQ DD ix hP hd (own_I4n nd) (own_HBv nd kd')) ?_
          intro v h L hq
          obtain ⟨e1, e2, e3, e4⟩ := hq
          refine ⟨_, _, _, e1, e2, e3, e4, ?_⟩
          rw [eZ, eB]
          exact ⟨kd', Or.inr (Or.inr (Or.inr (Or.inl ⟨rfl, by omega, ps'⟩)))⟩
      · rcases own_lo4 ps ix hz hv hlt with ⟨hP, nd, ps'⟩ | ⟨hP, nd, ps'⟩ | ⟨hP, nd, ps'⟩ | ⟨hP, nd, ps'⟩
        · refine own_mono (rmOl0 l Z a0 hw ws a hp pp ky 4 q K (bv (vl (upd B x kx))) x kk h0 n0 Zs NQ DD ix hP hd (own_I4n nd) own_HB0) ?_
          intro v h L hq
          obtain ⟨e1, e2, e3, e4⟩ := hq
          refine ⟨_, _, _, e1, e2, e3, e4, ?_⟩
          rw [eZ, eB]
          exact ⟨kd', Or.inr (Or.inr (Or.inr (Or.inr ⟨rfl, by omega, ps'⟩)))⟩
        · refine own_mono (rmOl1 l Z a0 hw ws a hp pp ky 4 q K (bv (vl (upd B x kx))) x kk h0 n0 Zs NQ DD ix hP hd (own_I4n nd) (own_HBv nd kd')) ?_
          intro v h L hq
          obtain ⟨e1, e2, e3, e4⟩ := hq
          refine ⟨_, _, _, e1, e2, e3, e4, ?_⟩
          rw [eZ, eB]
          exact ⟨kd', Or.inr (Or.inr (Or.inr (Or.inr ⟨rfl, by omega, ps'⟩)))⟩
        · refine own_mono (rmOl2 l Z a0 hw ws a hp pp ky 4 q K (bv (vl (upd B x kx))) x kk h0 n0 Zs NQ DD ix hP hd (own_I4n nd) (own_HBv nd kd')) ?_
          intro v h L hq
          obtain ⟨e1, e2, e3, e4⟩ := hq
          refine ⟨_, _, _, e1, e2, e3, e4, ?_⟩
          rw [eZ, eB]
          exact ⟨kd', Or.inr (Or.inr (Or.inr (Or.inr ⟨rfl, by omega, ps'⟩)))⟩
        · refine own_mono (rmOl3 l Z a0 hw ws a hp pp ky 4 q K (bv (vl (upd B x kx))) x kk h0 n0 Zs NQ DD ix hP hd (own_I4n nd) (own_HBv nd kd')) ?_
          intro v h L hq
          obtain ⟨e1, e2, e3, e4⟩ := hq
          refine ⟨_, _, _, e1, e2, e3, e4, ?_⟩
          rw [eZ, eB]
          exact ⟨kd', Or.inr (Or.inr (Or.inr (Or.inr ⟨rfl, by omega, ps'⟩)))⟩
    · have hc : FP.dcmp kk (K x) = some .eq ∨ FP.dcmp kk (K x) = some .gt := by
        have t : ¬ kx.toInt < (B x).toInt := fun t => hl (Int32.lt_iff_toInt_lt.mpr t)
        by_cases e : kx.toInt = (B x).toInt
        · exact Or.inl (OwnFl.dcmp_eq hk (kd x ix hz) (by rw [e]))
        · exact Or.inr (OwnFl.dcmp_gt hk (kd x ix hz) (Rat.intCast_lt_intCast.mpr (by omega)))
      have hP : ¬ q.2 x < 0 := by
        rcases ss with ⟨-, ps⟩ | ⟨-, hm1, u1, ps⟩ | ⟨-, hm2, u1, u2, ps⟩ | ⟨-, hm3, u1, u2, u3, ps⟩ | ⟨-, hm4, u1, u2, u3, u4, ps⟩
        · exact absurd hz (by rw [ps.1 x ix]; decide)
        · obtain ⟨i1, -, h1, p1, z1, zo, ng, -⟩ := ps
          rw [zo x ix hz, p1]
          decide
        · obtain ⟨⟨i1, i2⟩, n12, ⟨h1, h2⟩, ⟨p1, p2⟩, ⟨z1, z2⟩, zo, ng, o12⟩ := ps
          rcases zo x ix hz with r | r
          · rw [r, p1]; decide
          · rw [r, p2]; decide
        · obtain ⟨⟨i1, i2, i3⟩, ⟨n12, n13, n23⟩, ⟨h1, h2, h3⟩, ⟨p1, p2, p3⟩, ⟨z1, z2, z3⟩, zo, ng, ⟨o12, o13⟩⟩ := ps
          rcases zo x ix hz with r | r | r
          · rw [r, p1]; decide
          · rw [r, p2]; decide
          · rw [r, p3]; decide
        · obtain ⟨⟨i1, i2, i3, i4⟩, ⟨n12, n13, n14, n23, n24, n34⟩, ⟨h1, h2, h3, h4⟩, ⟨p1, p2, p3, p4⟩, ⟨z1, z2, z3, z4⟩, zo, ng, ⟨o12, o13, o24⟩⟩ := ps
          rcases zo x ix hz with r | r | r | r
          · rw [r, p1]; decide
          · rw [r, p2]; decide
          · rw [r, p3]; decide
          · rw [r, p4]; decide
      refine own_mono (rmOk l Z a0 hw ws a hp pp ky sz q K x kk h0 n0 Zs NQ DD ix hP hc) ?_
      intro v h L hq
      obtain ⟨e1, e2, e3⟩ := hq
      rw [e3]
      refine ⟨sz, q, K, e1, e2, Keep.refl h0 [a, hp, pp, ky], NQ, ?_⟩
      rw [own_ntZ0 hz hl, own_ntB0 hz hl]
      refine ⟨kd, ?_⟩
      rcases ss with ⟨e, ps⟩ | ⟨e, hm1, u1, ps⟩ | ⟨e, hm2, u1, u2, ps⟩ | ⟨e, hm3, u1, u2, u3, ps⟩ | ⟨e, hm4, u1, u2, u3, u4, ps⟩
      · exact Or.inl ⟨e, ps⟩
      · exact Or.inr (Or.inl ⟨e, by omega, u1, ps⟩)
      · exact Or.inr (Or.inr (Or.inl ⟨e, by omega, u1, u2, ps⟩))
      · exact Or.inr (Or.inr (Or.inr (Or.inl ⟨e, by omega, u1, u2, u3, ps⟩)))
      · exact Or.inr (Or.inr (Or.inr (Or.inr ⟨e, by omega, u1, u2, u3, u4, ps⟩)))
  · have hzf : z x = false := eq_false_of_ne_true hz
    have eZ : ntZ z B x kx = upd z x true := own_ntZ1 (Or.inl hzf)
    have eB : ntB z B x kx = upd B x kx := own_ntB1 (Or.inl hzf)
    rcases ss with ⟨rfl, ps⟩ | ⟨rfl, hm1, u1, ps⟩ | ⟨rfl, hm2, u1, u2, ps⟩ | ⟨rfl, hm3, u1, u2, u3, ps⟩ | ⟨rfl, hm4, u1, u2, u3, u4, ps⟩
    · have hP : q.2 x = -1 := ps.2 x ix hzf
      obtain ⟨nd, ps'⟩ := own_new0 ps ix hzf hv
      refine own_mono (rmOf0 l Z a0 hw ws a hp pp ky q K (bv (vl (upd B x kx))) x kk h0 n0 Zs NQ DD ix hP (own_I4n nd) own_HB0) ?_
      intro v h L hq
      obtain ⟨e1, e2, e3, e4⟩ := hq
      refine ⟨_, _, _, e1, e2, e3, e4, ?_⟩
      rw [eZ, eB]
      exact ⟨kd', Or.inr (Or.inl ⟨rfl, by omega, ps'⟩)⟩
    · have hP : q.2 x = -1 := ps.2.2.2.2.2.2.1 x ix hzf
      obtain ⟨nd, ps'⟩ := own_new1 ps ix hzf hv
      refine own_mono (rmOf1 l Z a0 hw ws a hp pp ky q K (bv (vl (upd B x kx))) x kk h0 n0 Zs NQ DD ix hP (own_I4n nd) (own_HBv nd kd')) ?_
      intro v h L hq
      obtain ⟨e1, e2, e3, e4⟩ := hq
      refine ⟨_, _, _, e1, e2, e3, e4, ?_⟩
      rw [eZ, eB]
      exact ⟨kd', Or.inr (Or.inr (Or.inl ⟨rfl, by omega, ps'⟩))⟩
    · have hP : q.2 x = -1 := ps.2.2.2.2.2.2.1 x ix hzf
      obtain ⟨nd, ps'⟩ := own_new2 ps ix hzf hv
      refine own_mono (rmOf2 l Z a0 hw ws a hp pp ky q K (bv (vl (upd B x kx))) x kk h0 n0 Zs NQ DD ix hP (own_I4n nd) (own_HBv nd kd')) ?_
      intro v h L hq
      obtain ⟨e1, e2, e3, e4⟩ := hq
      refine ⟨_, _, _, e1, e2, e3, e4, ?_⟩
      rw [eZ, eB]
      exact ⟨kd', Or.inr (Or.inr (Or.inr (Or.inl ⟨rfl, by omega, ps'⟩)))⟩
    · have hP : q.2 x = -1 := ps.2.2.2.2.2.2.1 x ix hzf
      obtain ⟨nd, ps'⟩ := own_new3 ps ix hzf hv
      refine own_mono (rmOf3 l Z a0 hw ws a hp pp ky q K (bv (vl (upd B x kx))) x kk h0 n0 Zs NQ DD ix hP (own_I4n nd) (own_HBv nd kd')) ?_
      intro v h L hq
      obtain ⟨e1, e2, e3, e4⟩ := hq
      refine ⟨_, _, _, e1, e2, e3, e4, ?_⟩
      rw [eZ, eB]
      exact ⟨kd', Or.inr (Or.inr (Or.inr (Or.inr ⟨rfl, by omega, ps'⟩)))⟩
    · exact absurd hm4 (by omega)

def Q_rmLb (Z : State) (bb : Addr) (B : Int32 → Int32) (x y r : Int32) (h0 : Heap) (n0 : Nat) (v : Option Value) (h : Heap) (L : List Loc) : Prop := v = some (.int r) ∧ Fr n0 L ∧ h = h0
set_option maxRecDepth 65536 in
set_option maxHeartbeats 40000000 in
theorem rmLb (l : Launch) (Z : State) (a0 : Array Value) (hw : ∀ d ∈ tables_1, d.before a0 Z = true) (ws : List Jvm.Cond) (bb : Addr) (B : Int32 → Int32) (x y r : Int32) (h0 : Heap) (n0 : Nat) (Zs : n0 ≤ h0.size) (V_bb : AV Z h0 bb .int (4 : Int32) (fn4 B)) (ix : In4 x) (iy : In4 y) (hLb : LbR B x y r) :
    Con l (⟨"com/example/tributary/tributary/plan/NodeHeapOfferPinLaw", "before", "([III)Z"⟩ : MethodName) method_4_code 3 (some .boolean) ws ({ frames := 0, cells := 0, slots := 0, locals := 0 } : Room) Z #[(.ref bb), (.int x), (.int y)] h0 ({ frames := 0, cells := 0, slots := 0, locals := 0 } : Room).cells ({ frames := 0, cells := 0, slots := 0, locals := 0 } : Room).slots (Q_rmLb Z bb B x y r h0 n0) := by
  refine Con.of (Ls := #[.val (.ref bb), .val (.int x), .val (.int y)]) (plainFor_of_name (by first | (simp [plainName, overriddenIn]; done) | decide +kernel)) (fun m => by first | (simp [entryFrame, mkF, argsToLocals, Value.category]; done) | rfl) ?_
  intro p e s m below meth c s₁ G hGe hG hx hby hml hown hnm hrt hlk hZ X0 e0
  have hown : s.vm.findClass "com/example/tributary/tributary/plan/NodeHeapOfferPinLaw" = some m.cls := hown
  have hnm : meth.name = "before" := hnm
  have NF0 := Fr.nil n0
  rcases hLb with ⟨c1, hr⟩ | ⟨c1, c2, c3, hr⟩ | ⟨c1, c2, c3, hr⟩ | ⟨c1, c2, hr⟩
  · skip
    refine g_aloadN hG X0 hx (hb hby d11_0) (pc' := 1) rfl rfl rfl ?_
    show G (s₁.setTop (mkF m 1 #[.val (.ref bb), .val (.int x), .val (.int y)] [(.ref bb)]))
    refine g_iloadN hG X0 hx (hb hby d11_1) (pc' := 2) rfl rfl ?_
    show G (s₁.setTop (mkF m 2 #[.val (.ref bb), .val (.int x), .val (.int y)] [(.int x), (.ref bb)]))
    refine g_iaload hG X0 hx hZ e0 V_bb (j := x) (v := (.int (B x))) (in4_nn ix) (in4_at ix rfl) (hb hby d11_2) (pc' := 3) rfl ?_
    show G (s₁.setTop (mkF m 3 #[.val (.ref bb), .val (.int x), .val (.int y)] [(.int (B x))]))
    refine g_aloadN hG X0 hx (hb hby d11_3) (pc' := 4) rfl rfl rfl ?_
    show G (s₁.setTop (mkF m 4 #[.val (.ref bb), .val (.int x), .val (.int y)] [(.ref bb), (.int (B x))]))
    refine g_iloadN hG X0 hx (hb hby d11_4) (pc' := 5) rfl rfl ?_
    show G (s₁.setTop (mkF m 5 #[.val (.ref bb), .val (.int x), .val (.int y)] [(.int y), (.ref bb), (.int (B x))]))
    refine g_iaload hG X0 hx hZ e0 V_bb (j := y) (v := (.int (B y))) (in4_nn iy) (in4_at iy rfl) (hb hby d11_5) (pc' := 6) rfl ?_
    show G (s₁.setTop (mkF m 6 #[.val (.ref bb), .val (.int x), .val (.int y)] [(.int (B y)), (.int (B x))]))
    refine g_icmpYes hG X0 hx (hb hby d11_6) (pc' := 23) ((tlt c1).1) (by decide) (by decide) ?_
    show G (s₁.setTop (mkF m 23 #[.val (.ref bb), .val (.int x), .val (.int y)] []))
    refine g_iconst hG X0 hx (hb hby d11_23) (pc' := 24) rfl (v := (1 : Int32)) rfl ?_
    show G (s₁.setTop (mkF m 24 #[.val (.ref bb), .val (.int x), .val (.int y)] [(.int 1)]))
    refine g_goto hG X0 hx (hb hby d11_24) (pc' := 28) (by decide) (by decide) ?_
    show G (s₁.setTop (mkF m 28 #[.val (.ref bb), .val (.int x), .val (.int y)] [(.int 1)]))
    exact e_retZ hGe X0 hx hrt hlk (hb hby d11_28) (Or.inr rfl) e0 (by decide) (by decide) (⟨by rw [hr], NF0, rfl⟩)
  · skip
    refine g_aloadN hG X0 hx (hb hby d11_0) (pc' := 1) rfl rfl rfl ?_
    show G (s₁.setTop (mkF m 1 #[.val (.ref bb), .val (.int x), .val (.int y)] [(.ref bb)]))
    refine g_iloadN hG X0 hx (hb hby d11_1) (pc' := 2) rfl rfl ?_
    show G (s₁.setTop (mkF m 2 #[.val (.ref bb), .val (.int x), .val (.int y)] [(.int x), (.ref bb)]))
    refine g_iaload hG X0 hx hZ e0 V_bb (j := x) (v := (.int (B x))) (in4_nn ix) (in4_at ix rfl) (hb hby d11_2) (pc' := 3) rfl ?_
    show G (s₁.setTop (mkF m 3 #[.val (.ref bb), .val (.int x), .val (.int y)] [(.int (B x))]))
    refine g_aloadN hG X0 hx (hb hby d11_3) (pc' := 4) rfl rfl rfl ?_
    show G (s₁.setTop (mkF m 4 #[.val (.ref bb), .val (.int x), .val (.int y)] [(.ref bb), (.int (B x))]))
    refine g_iloadN hG X0 hx (hb hby d11_4) (pc' := 5) rfl rfl ?_
    show G (s₁.setTop (mkF m 5 #[.val (.ref bb), .val (.int x), .val (.int y)] [(.int y), (.ref bb), (.int (B x))]))
    refine g_iaload hG X0 hx hZ e0 V_bb (j := y) (v := (.int (B y))) (in4_nn iy) (in4_at iy rfl) (hb hby d11_5) (pc' := 6) rfl ?_
    show G (s₁.setTop (mkF m 6 #[.val (.ref bb), .val (.int x), .val (.int y)] [(.int (B y)), (.int (B x))]))
    refine g_icmpNo hG X0 hx (hb hby d11_6) (pc' := 9) ((flt c1).1) rfl ?_
    show G (s₁.setTop (mkF m 9 #[.val (.ref bb), .val (.int x), .val (.int y)] []))
    refine g_aloadN hG X0 hx (hb hby d11_9) (pc' := 10) rfl rfl rfl ?_
    show G (s₁.setTop (mkF m 10 #[.val (.ref bb), .val (.int x), .val (.int y)] [(.ref bb)]))
    refine g_iloadN hG X0 hx (hb hby d11_10) (pc' := 11) rfl rfl ?_
    show G (s₁.setTop (mkF m 11 #[.val (.ref bb), .val (.int x), .val (.int y)] [(.int x), (.ref bb)]))
    refine g_iaload hG X0 hx hZ e0 V_bb (j := x) (v := (.int (B x))) (in4_nn ix) (in4_at ix rfl) (hb hby d11_11) (pc' := 12) rfl ?_
    show G (s₁.setTop (mkF m 12 #[.val (.ref bb), .val (.int x), .val (.int y)] [(.int (B x))]))
    refine g_aloadN hG X0 hx (hb hby d11_12) (pc' := 13) rfl rfl rfl ?_
    show G (s₁.setTop (mkF m 13 #[.val (.ref bb), .val (.int x), .val (.int y)] [(.ref bb), (.int (B x))]))
    refine g_iloadN hG X0 hx (hb hby d11_13) (pc' := 14) rfl rfl ?_
    show G (s₁.setTop (mkF m 14 #[.val (.ref bb), .val (.int x), .val (.int y)] [(.int y), (.ref bb), (.int (B x))]))
    refine g_iaload hG X0 hx hZ e0 V_bb (j := y) (v := (.int (B y))) (in4_nn iy) (in4_at iy rfl) (hb hby d11_14) (pc' := 15) rfl ?_
    show G (s₁.setTop (mkF m 15 #[.val (.ref bb), .val (.int x), .val (.int y)] [(.int (B y)), (.int (B x))]))
    refine g_icmpNo hG X0 hx (hb hby d11_15) (pc' := 18) ((teq c2).2) rfl ?_
    show G (s₁.setTop (mkF m 18 #[.val (.ref bb), .val (.int x), .val (.int y)] []))
    refine g_iloadN hG X0 hx (hb hby d11_18) (pc' := 19) rfl rfl ?_
    show G (s₁.setTop (mkF m 19 #[.val (.ref bb), .val (.int x), .val (.int y)] [(.int x)]))
    refine g_iloadN hG X0 hx (hb hby d11_19) (pc' := 20) rfl rfl ?_
    show G (s₁.setTop (mkF m 20 #[.val (.ref bb), .val (.int x), .val (.int y)] [(.int y), (.int x)]))
    refine g_icmpNo hG X0 hx (hb hby d11_20) (pc' := 23) ((tlt c3).2.1) rfl ?_
    show G (s₁.setTop (mkF m 23 #[.val (.ref bb), .val (.int x), .val (.int y)] []))
    refine g_iconst hG X0 hx (hb hby d11_23) (pc' := 24) rfl (v := (1 : Int32)) rfl ?_
    show G (s₁.setTop (mkF m 24 #[.val (.ref bb), .val (.int x), .val (.int y)] [(.int 1)]))
    refine g_goto hG X0 hx (hb hby d11_24) (pc' := 28) (by decide) (by decide) ?_
    show G (s₁.setTop (mkF m 28 #[.val (.ref bb), .val (.int x), .val (.int y)] [(.int 1)]))
    exact e_retZ hGe X0 hx hrt hlk (hb hby d11_28) (Or.inr rfl) e0 (by decide) (by decide) (⟨by rw [hr], NF0, rfl⟩)
  · skip
    refine g_aloadN hG X0 hx (hb hby d11_0) (pc' := 1) rfl rfl rfl ?_
    show G (s₁.setTop (mkF m 1 #[.val (.ref bb), .val (.int x), .val (.int y)] [(.ref bb)]))
    refine g_iloadN hG X0 hx (hb hby d11_1) (pc' := 2) rfl rfl ?_
    show G (s₁.setTop (mkF m 2 #[.val (.ref bb), .val (.int x), .val (.int y)] [(.int x), (.ref bb)]))
    refine g_iaload hG X0 hx hZ e0 V_bb (j := x) (v := (.int (B x))) (in4_nn ix) (in4_at ix rfl) (hb hby d11_2) (pc' := 3) rfl ?_
    show G (s₁.setTop (mkF m 3 #[.val (.ref bb), .val (.int x), .val (.int y)] [(.int (B x))]))
    refine g_aloadN hG X0 hx (hb hby d11_3) (pc' := 4) rfl rfl rfl ?_
    show G (s₁.setTop (mkF m 4 #[.val (.ref bb), .val (.int x), .val (.int y)] [(.ref bb), (.int (B x))]))
    refine g_iloadN hG X0 hx (hb hby d11_4) (pc' := 5) rfl rfl ?_
    show G (s₁.setTop (mkF m 5 #[.val (.ref bb), .val (.int x), .val (.int y)] [(.int y), (.ref bb), (.int (B x))]))
    refine g_iaload hG X0 hx hZ e0 V_bb (j := y) (v := (.int (B y))) (in4_nn iy) (in4_at iy rfl) (hb hby d11_5) (pc' := 6) rfl ?_
    show G (s₁.setTop (mkF m 6 #[.val (.ref bb), .val (.int x), .val (.int y)] [(.int (B y)), (.int (B x))]))
    refine g_icmpNo hG X0 hx (hb hby d11_6) (pc' := 9) ((flt c1).1) rfl ?_
    show G (s₁.setTop (mkF m 9 #[.val (.ref bb), .val (.int x), .val (.int y)] []))
    refine g_aloadN hG X0 hx (hb hby d11_9) (pc' := 10) rfl rfl rfl ?_
    show G (s₁.setTop (mkF m 10 #[.val (.ref bb), .val (.int x), .val (.int y)] [(.ref bb)]))
    refine g_iloadN hG X0 hx (hb hby d11_10) (pc' := 11) rfl rfl ?_
    show G (s₁.setTop (mkF m 11 #[.val (.ref bb), .val (.int x), .val (.int y)] [(.int x), (.ref bb)]))
    refine g_iaload hG X0 hx hZ e0 V_bb (j := x) (v := (.int (B x))) (in4_nn ix) (in4_at ix rfl) (hb hby d11_11) (pc' := 12) rfl ?_
    show G (s₁.setTop (mkF m 12 #[.val (.ref bb), .val (.int x), .val (.int y)] [(.int (B x))]))
    refine g_aloadN hG X0 hx (hb hby d11_12) (pc' := 13) rfl rfl rfl ?_
    show G (s₁.setTop (mkF m 13 #[.val (.ref bb), .val (.int x), .val (.int y)] [(.ref bb), (.int (B x))]))
    refine g_iloadN hG X0 hx (hb hby d11_13) (pc' := 14) rfl rfl ?_
    show G (s₁.setTop (mkF m 14 #[.val (.ref bb), .val (.int x), .val (.int y)] [(.int y), (.ref bb), (.int (B x))]))
    refine g_iaload hG X0 hx hZ e0 V_bb (j := y) (v := (.int (B y))) (in4_nn iy) (in4_at iy rfl) (hb hby d11_14) (pc' := 15) rfl ?_
    show G (s₁.setTop (mkF m 15 #[.val (.ref bb), .val (.int x), .val (.int y)] [(.int (B y)), (.int (B x))]))
    refine g_icmpNo hG X0 hx (hb hby d11_15) (pc' := 18) ((teq c2).2) rfl ?_
    show G (s₁.setTop (mkF m 18 #[.val (.ref bb), .val (.int x), .val (.int y)] []))
    refine g_iloadN hG X0 hx (hb hby d11_18) (pc' := 19) rfl rfl ?_
    show G (s₁.setTop (mkF m 19 #[.val (.ref bb), .val (.int x), .val (.int y)] [(.int x)]))
    refine g_iloadN hG X0 hx (hb hby d11_19) (pc' := 20) rfl rfl ?_
    show G (s₁.setTop (mkF m 20 #[.val (.ref bb), .val (.int x), .val (.int y)] [(.int y), (.int x)]))
    refine g_icmpYes hG X0 hx (hb hby d11_20) (pc' := 27) ((flt c3).2.1) (by decide) (by decide) ?_
    show G (s₁.setTop (mkF m 27 #[.val (.ref bb), .val (.int x), .val (.int y)] []))
    refine g_iconst hG X0 hx (hb hby d11_27) (pc' := 28) rfl (v := (0 : Int32)) rfl ?_
    show G (s₁.setTop (mkF m 28 #[.val (.ref bb), .val (.int x), .val (.int y)] [(.int 0)]))
    exact e_retZ hGe X0 hx hrt hlk (hb hby d11_28) (Or.inl rfl) e0 (by decide) (by decide) (⟨by rw [hr], NF0, rfl⟩)
  · skip
    refine g_aloadN hG X0 hx (hb hby d11_0) (pc' := 1) rfl rfl rfl ?_
    show G (s₁.setTop (mkF m 1 #[.val (.ref bb), .val (.int x), .val (.int y)] [(.ref bb)]))
    refine g_iloadN hG X0 hx (hb hby d11_1) (pc' := 2) rfl rfl ?_
    show G (s₁.setTop (mkF m 2 #[.val (.ref bb), .val (.int x), .val (.int y)] [(.int x), (.ref bb)]))
    refine g_iaload hG X0 hx hZ e0 V_bb (j := x) (v := (.int (B x))) (in4_nn ix) (in4_at ix rfl) (hb hby d11_2) (pc' := 3) rfl ?_
    show G (s₁.setTop (mkF m 3 #[.val (.ref bb), .val (.int x), .val (.int y)] [(.int (B x))]))
    refine g_aloadN hG X0 hx (hb hby d11_3) (pc' := 4) rfl rfl rfl ?_
    show G (s₁.setTop (mkF m 4 #[.val (.ref bb), .val (.int x), .val (.int y)] [(.ref bb), (.int (B x))]))
    refine g_iloadN hG X0 hx (hb hby d11_4) (pc' := 5) rfl rfl ?_
    show G (s₁.setTop (mkF m 5 #[.val (.ref bb), .val (.int x), .val (.int y)] [(.int y), (.ref bb), (.int (B x))]))
    refine g_iaload hG X0 hx hZ e0 V_bb (j := y) (v := (.int (B y))) (in4_nn iy) (in4_at iy rfl) (hb hby d11_5) (pc' := 6) rfl ?_
    show G (s₁.setTop (mkF m 6 #[.val (.ref bb), .val (.int x), .val (.int y)] [(.int (B y)), (.int (B x))]))
    refine g_icmpNo hG X0 hx (hb hby d11_6) (pc' := 9) ((flt c1).1) rfl ?_
    show G (s₁.setTop (mkF m 9 #[.val (.ref bb), .val (.int x), .val (.int y)] []))
    refine g_aloadN hG X0 hx (hb hby d11_9) (pc' := 10) rfl rfl rfl ?_
    show G (s₁.setTop (mkF m 10 #[.val (.ref bb), .val (.int x), .val (.int y)] [(.ref bb)]))
    refine g_iloadN hG X0 hx (hb hby d11_10) (pc' := 11) rfl rfl ?_
    show G (s₁.setTop (mkF m 11 #[.val (.ref bb), .val (.int x), .val (.int y)] [(.int x), (.ref bb)]))
    refine g_iaload hG X0 hx hZ e0 V_bb (j := x) (v := (.int (B x))) (in4_nn ix) (in4_at ix rfl) (hb hby d11_11) (pc' := 12) rfl ?_
    show G (s₁.setTop (mkF m 12 #[.val (.ref bb), .val (.int x), .val (.int y)] [(.int (B x))]))
    refine g_aloadN hG X0 hx (hb hby d11_12) (pc' := 13) rfl rfl rfl ?_
    show G (s₁.setTop (mkF m 13 #[.val (.ref bb), .val (.int x), .val (.int y)] [(.ref bb), (.int (B x))]))
    refine g_iloadN hG X0 hx (hb hby d11_13) (pc' := 14) rfl rfl ?_
    show G (s₁.setTop (mkF m 14 #[.val (.ref bb), .val (.int x), .val (.int y)] [(.int y), (.ref bb), (.int (B x))]))
    refine g_iaload hG X0 hx hZ e0 V_bb (j := y) (v := (.int (B y))) (in4_nn iy) (in4_at iy rfl) (hb hby d11_14) (pc' := 15) rfl ?_
    show G (s₁.setTop (mkF m 15 #[.val (.ref bb), .val (.int x), .val (.int y)] [(.int (B y)), (.int (B x))]))
    refine g_icmpYes hG X0 hx (hb hby d11_15) (pc' := 27) ((feq c2).2) (by decide) (by decide) ?_
    show G (s₁.setTop (mkF m 27 #[.val (.ref bb), .val (.int x), .val (.int y)] []))
    refine g_iconst hG X0 hx (hb hby d11_27) (pc' := 28) rfl (v := (0 : Int32)) rfl ?_
    show G (s₁.setTop (mkF m 28 #[.val (.ref bb), .val (.int x), .val (.int y)] [(.int 0)]))
    exact e_retZ hGe X0 hx hrt hlk (hb hby d11_28) (Or.inl rfl) e0 (by decide) (by decide) (⟨by rw [hr], NF0, rfl⟩)

def Q_rmRk (Z : State) (zz bb : Addr) (z : Int32 → Bool) (B : Int32 → Int32) (i : Int32) (h0 : Heap) (n0 : Nat) (v : Option Value) (h : Heap) (L : List Loc) : Prop := v = some (.int (rk z (bi B) i)) ∧ Fr n0 L ∧ h = h0
set_option maxRecDepth 65536 in
set_option maxHeartbeats 40000000 in
theorem rmRk (l : Launch) (Z : State) (a0 : Array Value) (hw : ∀ d ∈ tables_1, d.before a0 Z = true) (ws : List Jvm.Cond) (zz bb : Addr) (z : Int32 → Bool) (B : Int32 → Int32) (i : Int32) (h0 : Heap) (n0 : Nat) (Zs : n0 ≤ h0.size) (V_zz : AV Z h0 zz .boolean (4 : Int32) (fn4 (bz z))) (V_bb : AV Z h0 bb .int (4 : Int32) (fn4 B)) (ii : In4 i) :
    Con l (⟨"com/example/tributary/tributary/plan/NodeHeapOfferPinLaw", "rank", "([Z[II)I"⟩ : MethodName) method_5_code 4 (some .int) ws ({ frames := 1, cells := 0, slots := 0, locals := 24 } : Room) Z #[(.ref zz), (.ref bb), (.int i)] h0 ({ frames := 1, cells := 0, slots := 0, locals := 24 } : Room).cells ({ frames := 1, cells := 0, slots := 0, locals := 24 } : Room).slots (Q_rmRk Z zz bb z B i h0 n0) := by
  refine Con.of (Ls := #[.val (.ref zz), .val (.ref bb), .val (.int i), .unset]) (plainFor_of_name (by first | (simp [plainName, overriddenIn]; done) | decide +kernel)) (fun m => by first | (simp [entryFrame, mkF, argsToLocals, Value.category]; done) | rfl) ?_
  intro p e s m below meth c s₁ G hGe hG hx hby hml hown hnm hrt hlk hZ X0 e0
  have hown : s.vm.findClass "com/example/tributary/tributary/plan/NodeHeapOfferPinLaw" = some m.cls := hown
  have hnm : meth.name = "rank" := hnm
  have NF0 := Fr.nil n0
  refine g_iconst hG X0 hx (hb hby d10_0) (pc' := 1) rfl (v := (0 : Int32)) rfl ?_
  show G (s₁.setTop (mkF m 1 #[.val (.ref zz), .val (.ref bb), .val (.int i), .unset] [(.int 0)]))
  refine g_istoreN hG X0 hx (hb hby d10_1) (pc' := 2) rfl (Ls' := #[.val (.ref zz), .val (.ref bb), .val (.int i), .val (.int 0)]) rfl ?_
  show G (s₁.setTop (mkF m 2 #[.val (.ref zz), .val (.ref bb), .val (.int i), .val (.int 0)] []))
  have c20 : ∀ (Tj1 : State) (hj1 : Heap) (Lj1 : List Loc) (r1 : Int32), Stand p l e ({ frames := 1, cells := 0, slots := 0, locals := 24 } : Room) s m #[(.ref zz), (.ref bb), (.int i)] below meth c Tj1 Lj1 0 0 → Tj1.heap = hj1 → Fr n0 Lj1 → n0 ≤ hj1.size → AV Z hj1 zz .boolean (4 : Int32) (fn4 (bz z)) → AV Z hj1 bb .int (4 : Int32) (fn4 B) → r1 = 0 + b2i (z 0 && bi B 0 i) → hj1 = h0 → G (Tj1.setTop (mkF m 20 #[.val (.ref zz), .val (.ref bb), .val (.int i), .val (.int r1)] [])) := by
    intro Tj1 hj1 Lj1 r1 Xj1 ej1 NFj1 Zs  V_zz V_bb hr1 he1
    have c38 : ∀ (Tj2 : State) (hj2 : Heap) (Lj2 : List Loc) (r2 : Int32), Stand p l e ({ frames := 1, cells := 0, slots := 0, locals := 24 } : Room) s m #[(.ref zz), (.ref bb), (.int i)] below meth c Tj2 Lj2 0 0 → Tj2.heap = hj2 → Fr n0 Lj2 → n0 ≤ hj2.size → AV Z hj2 zz .boolean (4 : Int32) (fn4 (bz z)) → AV Z hj2 bb .int (4 : Int32) (fn4 B) → r2 = r1 + b2i (z 1 && bi B 1 i) → hj2 = h0 → G (Tj2.setTop (mkF m 38 #[.val (.ref zz), .val (.ref bb), .val (.int i), .val (.int r2)] [])) := by
      intro Tj2 hj2 Lj2 r2 Xj2 ej2 NFj2 Zs  V_zz V_bb hr2 he2
      have c56 : ∀ (Tj3 : State) (hj3 : Heap) (Lj3 : List Loc) (r3 : Int32), Stand p l e ({ frames := 1, cells := 0, slots := 0, locals := 24 } : Room) s m #[(.ref zz), (.ref bb), (.int i)] below meth c Tj3 Lj3 0 0 → Tj3.heap = hj3 → Fr n0 Lj3 → n0 ≤ hj3.size → AV Z hj3 zz .boolean (4 : Int32) (fn4 (bz z)) → AV Z hj3 bb .int (4 : Int32) (fn4 B) → r3 = r2 + b2i (z 2 && bi B 2 i) → hj3 = h0 → G (Tj3.setTop (mkF m 56 #[.val (.ref zz), .val (.ref bb), .val (.int i), .val (.int r3)] [])) := by
        intro Tj3 hj3 Lj3 r3 Xj3 ej3 NFj3 Zs  V_zz V_bb hr3 he3
        have c74 : ∀ (Tj4 : State) (hj4 : Heap) (Lj4 : List Loc) (r4 : Int32), Stand p l e ({ frames := 1, cells := 0, slots := 0, locals := 24 } : Room) s m #[(.ref zz), (.ref bb), (.int i)] below meth c Tj4 Lj4 0 0 → Tj4.heap = hj4 → Fr n0 Lj4 → n0 ≤ hj4.size → AV Z hj4 zz .boolean (4 : Int32) (fn4 (bz z)) → AV Z hj4 bb .int (4 : Int32) (fn4 B) → r4 = r3 + b2i (z 3 && bi B 3 i) → hj4 = h0 → G (Tj4.setTop (mkF m 74 #[.val (.ref zz), .val (.ref bb), .val (.int i), .val (.int r4)] [])) := by
          intro Tj4 hj4 Lj4 r4 Xj4 ej4 NFj4 Zs  V_zz V_bb hr4 he4
          refine g_iloadN hG Xj4 hx (hb hby d10_74) (pc' := 75) rfl rfl ?_
          show G (Tj4.setTop (mkF m 75 #[.val (.ref zz), .val (.ref bb), .val (.int i), .val (.int r4)] [(.int r4)]))
          exact e_retI hGe Xj4 hx hrt hlk (hb hby d10_75) ej4 (by decide) (by decide) (⟨by rw [hr4, hr3, hr2, hr1]; rfl, NFj4, he4⟩)
        refine g_aloadN hG Xj3 hx (hb hby d10_56) (pc' := 57) rfl rfl rfl ?_
        show G (Tj3.setTop (mkF m 57 #[.val (.ref zz), .val (.ref bb), .val (.int i), .val (.int r3)] [(.ref zz)]))
        refine g_iconst hG Xj3 hx (hb hby d10_57) (pc' := 58) rfl (v := (3 : Int32)) rfl ?_
        show G (Tj3.setTop (mkF m 58 #[.val (.ref zz), .val (.ref bb), .val (.int i), .val (.int r3)] [(.int 3), (.ref zz)]))
        refine g_zaload hG Xj3 hx hZ ej3 V_zz (j := (3 : Int32)) (v := (.int ((bz z) (3 : Int32)))) (in4_nn in4_3) (in4_at in4_3 rfl) (hb hby d10_58) (pc' := 59) rfl ?_
        show G (Tj3.setTop (mkF m 59 #[.val (.ref zz), .val (.ref bb), .val (.int i), .val (.int r3)] [(.int ((bz z) (3 : Int32)))]))
        by_cases hc59 : ((bz z) (3 : Int32)) = (0 : Int32)
        · refine g_ifYes hG Xj3 hx (hb hby d10_59) (pc' := 74) ((if0 _ _).trans (teq hc59).1) (by decide) (by decide) ?_
          exact c74 _ _ _ r3 Xj3 ej3 NFj3 Zs  V_zz V_bb (own_ta (bz0 hc59)) he3
        · refine g_ifNo hG Xj3 hx (hb hby d10_59) (pc' := 62) ((if0 _ _).trans (feq hc59).1) rfl ?_
          by_cases hb3 : bi B 3 i = true
          · have _hh := hb3
            refine g_aloadN hG Xj3 hx (hb hby d10_62) (pc' := 63) rfl rfl rfl ?_
            show G (Tj3.setTop (mkF m 63 #[.val (.ref zz), .val (.ref bb), .val (.int i), .val (.int r3)] [(.ref bb)]))
            refine g_iconst hG Xj3 hx (hb hby d10_63) (pc' := 64) rfl (v := (3 : Int32)) rfl ?_
            show G (Tj3.setTop (mkF m 64 #[.val (.ref zz), .val (.ref bb), .val (.int i), .val (.int r3)] [(.int 3), (.ref bb)]))
            refine g_iloadN hG Xj3 hx (hb hby d10_64) (pc' := 65) rfl rfl ?_
            show G (Tj3.setTop (mkF m 65 #[.val (.ref zz), .val (.ref bb), .val (.int i), .val (.int r3)] [(.int i), (.int 3), (.ref bb)]))
            refine g_callS hG Xj3 hx hZ (y := (⟨"com/example/tributary/tributary/plan/NodeHeapOfferPinLaw", "before", "([III)Z"⟩ : MethodName)) 0 hown (wd hw 51 rfl) (wd hw 52 rfl) (wd hw 43 rfl) (wd hw 53 rfl) (by decide) (rmLb l Z a0 hw [] bb B (3 : Int32) i (1 : Int32) hj3 n0 Zs V_bb in4_3 ii (lb1 hb3)) (by decide) (by decide) (by rw [hml]; rfl) pd_4 rfl (argsL := [(.ref bb), (.int 3), (.int i)]) (rest := []) rfl rfl (Nat.le_of_eq rfl) (hb hby d10_65) ej3 (by decide) (by decide) (pc' := 68) rfl ?_
            intro T5 rv5 L5 X5 hQ5
            obtain ⟨rfl, Nq5, eh5⟩ := hQ5
            have NF5 := Fr.app NFj3 Nq5
            show G (T5.setTop (mkF m 68 #[.val (.ref zz), .val (.ref bb), .val (.int i), .val (.int r3)] [(.int 1)]))
            refine g_ifNo hG X5 hx (hb hby d10_68) (pc' := 71) (by decide) rfl ?_
            show G (T5.setTop (mkF m 71 #[.val (.ref zz), .val (.ref bb), .val (.int i), .val (.int r3)] []))
            obtain ⟨v71, q71⟩ : ∃ zz : Int32, r3 + (1 : Int32) = zz := ⟨_, rfl⟩
            refine g_iinc hG X5 hx (hb hby d10_71) (pc' := 74) rfl rfl q71 (Ls' := #[.val (.ref zz), .val (.ref bb), .val (.int i), .val (.int v71)]) rfl ?_
            show G (T5.setTop (mkF m 74 #[.val (.ref zz), .val (.ref bb), .val (.int i), .val (.int v71)] []))
            exact c74 _ _ _ v71 X5 eh5 NF5 Zs  V_zz V_bb (q71.symm.trans (own_tb (bz1 hc59) hb3)) he3
          · have _hh := hb3
            refine g_aloadN hG Xj3 hx (hb hby d10_62) (pc' := 63) rfl rfl rfl ?_
            show G (Tj3.setTop (mkF m 63 #[.val (.ref zz), .val (.ref bb), .val (.int i), .val (.int r3)] [(.ref bb)]))
            refine g_iconst hG Xj3 hx (hb hby d10_63) (pc' := 64) rfl (v := (3 : Int32)) rfl ?_
            show G (Tj3.setTop (mkF m 64 #[.val (.ref zz), .val (.ref bb), .val (.int i), .val (.int r3)] [(.int 3), (.ref bb)]))
            refine g_iloadN hG Xj3 hx (hb hby d10_64) (pc' := 65) rfl rfl ?_
            show G (Tj3.setTop (mkF m 65 #[.val (.ref zz), .val (.ref bb), .val (.int i), .val (.int r3)] [(.int i), (.int 3), (.ref bb)]))
            refine g_callS hG Xj3 hx hZ (y := (⟨"com/example/tributary/tributary/plan/NodeHeapOfferPinLaw", "before", "([III)Z"⟩ : MethodName)) 0 hown (wd hw 51 rfl) (wd hw 52 rfl) (wd hw 43 rfl) (wd hw 53 rfl) (by decide) (rmLb l Z a0 hw [] bb B (3 : Int32) i (0 : Int32) hj3 n0 Zs V_bb in4_3 ii (lb0 hb3)) (by decide) (by decide) (by rw [hml]; rfl) pd_4 rfl (argsL := [(.ref bb), (.int 3), (.int i)]) (rest := []) rfl rfl (Nat.le_of_eq rfl) (hb hby d10_65) ej3 (by decide) (by decide) (pc' := 68) rfl ?_
            intro T6 rv6 L6 X6 hQ6
            obtain ⟨rfl, Nq6, eh6⟩ := hQ6
            have NF6 := Fr.app NFj3 Nq6
            show G (T6.setTop (mkF m 68 #[.val (.ref zz), .val (.ref bb), .val (.int i), .val (.int r3)] [(.int 0)]))
            refine g_ifYes hG X6 hx (hb hby d10_68) (pc' := 74) (by decide) (by decide) (by decide) ?_
            show G (T6.setTop (mkF m 74 #[.val (.ref zz), .val (.ref bb), .val (.int i), .val (.int r3)] []))
            exact c74 _ _ _ r3 X6 eh6 NF6 Zs  V_zz V_bb (own_tc hb3) he3
      refine g_aloadN hG Xj2 hx (hb hby d10_38) (pc' := 39) rfl rfl rfl ?_
      show G (Tj2.setTop (mkF m 39 #[.val (.ref zz), .val (.ref bb), .val (.int i), .val (.int r2)] [(.ref zz)]))
      refine g_iconst hG Xj2 hx (hb hby d10_39) (pc' := 40) rfl (v := (2 : Int32)) rfl ?_
      show G (Tj2.setTop (mkF m 40 #[.val (.ref zz), .val (.ref bb), .val (.int i), .val (.int r2)] [(.int 2), (.ref zz)]))
      refine g_zaload hG Xj2 hx hZ ej2 V_zz (j := (2 : Int32)) (v := (.int ((bz z) (2 : Int32)))) (in4_nn in4_2) (in4_at in4_2 rfl) (hb hby d10_40) (pc' := 41) rfl ?_
      show G (Tj2.setTop (mkF m 41 #[.val (.ref zz), .val (.ref bb), .val (.int i), .val (.int r2)] [(.int ((bz z) (2 : Int32)))]))
      by_cases hc41 : ((bz z) (2 : Int32)) = (0 : Int32)
      · refine g_ifYes hG Xj2 hx (hb hby d10_41) (pc' := 56) ((if0 _ _).trans (teq hc41).1) (by decide) (by decide) ?_
        exact c56 _ _ _ r2 Xj2 ej2 NFj2 Zs  V_zz V_bb (own_ta (bz0 hc41)) he2
      · refine g_ifNo hG Xj2 hx (hb hby d10_41) (pc' := 44) ((if0 _ _).trans (feq hc41).1) rfl ?_
        by_cases hb2 : bi B 2 i = true
        · have _hh := hb2
          refine g_aloadN hG Xj2 hx (hb hby d10_44) (pc' := 45) rfl rfl rfl ?_
          show G (Tj2.setTop (mkF m 45 #[.val (.ref zz), .val (.ref bb), .val (.int i), .val (.int r2)] [(.ref bb)]))
          refine g_iconst hG Xj2 hx (hb hby d10_45) (pc' := 46) rfl (v := (2 : Int32)) rfl ?_
          show G (Tj2.setTop (mkF m 46 #[.val (.ref zz), .val (.ref bb), .val (.int i), .val (.int r2)] [(.int 2), (.ref bb)]))
          refine g_iloadN hG Xj2 hx (hb hby d10_46) (pc' := 47) rfl rfl ?_
          show G (Tj2.setTop (mkF m 47 #[.val (.ref zz), .val (.ref bb), .val (.int i), .val (.int r2)] [(.int i), (.int 2), (.ref bb)]))
          refine g_callS hG Xj2 hx hZ (y := (⟨"com/example/tributary/tributary/plan/NodeHeapOfferPinLaw", "before", "([III)Z"⟩ : MethodName)) 0 hown (wd hw 51 rfl) (wd hw 52 rfl) (wd hw 43 rfl) (wd hw 53 rfl) (by decide) (rmLb l Z a0 hw [] bb B (2 : Int32) i (1 : Int32) hj2 n0 Zs V_bb in4_2 ii (lb1 hb2)) (by decide) (by decide) (by rw [hml]; rfl) pd_4 rfl (argsL := [(.ref bb), (.int 2), (.int i)]) (rest := []) rfl rfl (Nat.le_of_eq rfl) (hb hby d10_47) ej2 (by decide) (by decide) (pc' := 50) rfl ?_
          intro T7 rv7 L7 X7 hQ7
          obtain ⟨rfl, Nq7, eh7⟩ := hQ7
          have NF7 := Fr.app NFj2 Nq7
          show G (T7.setTop (mkF m 50 #[.val (.ref zz), .val (.ref bb), .val (.int i), .val (.int r2)] [(.int 1)]))
          refine g_ifNo hG X7 hx (hb hby d10_50) (pc' := 53) (by decide) rfl ?_
          show G (T7.setTop (mkF m 53 #[.val (.ref zz), .val (.ref bb), .val (.int i), .val (.int r2)] []))
          obtain ⟨v53, q53⟩ : ∃ zz : Int32, r2 + (1 : Int32) = zz := ⟨_, rfl⟩
          refine g_iinc hG X7 hx (hb hby d10_53) (pc' := 56) rfl rfl q53 (Ls' := #[.val (.ref zz), .val (.ref bb), .val (.int i), .val (.int v53)]) rfl ?_
          show G (T7.setTop (mkF m 56 #[.val (.ref zz), .val (.ref bb), .val (.int i), .val (.int v53)] []))
          exact c56 _ _ _ v53 X7 eh7 NF7 Zs  V_zz V_bb (q53.symm.trans (own_tb (bz1 hc41) hb2)) he2
        · have _hh := hb2
          refine g_aloadN hG Xj2 hx (hb hby d10_44) (pc' := 45) rfl rfl rfl ?_
          show G (Tj2.setTop (mkF m 45 #[.val (.ref zz), .val (.ref bb), .val (.int i), .val (.int r2)] [(.ref bb)]))
          refine g_iconst hG Xj2 hx (hb hby d10_45) (pc' := 46) rfl (v := (2 : Int32)) rfl ?_
          show G (Tj2.setTop (mkF m 46 #[.val (.ref zz), .val (.ref bb), .val (.int i), .val (.int r2)] [(.int 2), (.ref bb)]))
          refine g_iloadN hG Xj2 hx (hb hby d10_46) (pc' := 47) rfl rfl ?_
          show G (Tj2.setTop (mkF m 47 #[.val (.ref zz), .val (.ref bb), .val (.int i), .val (.int r2)] [(.int i), (.int 2), (.ref bb)]))
          refine g_callS hG Xj2 hx hZ (y := (⟨"com/example/tributary/tributary/plan/NodeHeapOfferPinLaw", "before", "([III)Z"⟩ : MethodName)) 0 hown (wd hw 51 rfl) (wd hw 52 rfl) (wd hw 43 rfl) (wd hw 53 rfl) (by decide) (rmLb l Z a0 hw [] bb B (2 : Int32) i (0 : Int32) hj2 n0 Zs V_bb in4_2 ii (lb0 hb2)) (by decide) (by decide) (by rw [hml]; rfl) pd_4 rfl (argsL := [(.ref bb), (.int 2), (.int i)]) (rest := []) rfl rfl (Nat.le_of_eq rfl) (hb hby d10_47) ej2 (by decide) (by decide) (pc' := 50) rfl ?_
          intro T8 rv8 L8 X8 hQ8
          obtain ⟨rfl, Nq8, eh8⟩ := hQ8
          have NF8 := Fr.app NFj2 Nq8
          show G (T8.setTop (mkF m 50 #[.val (.ref zz), .val (.ref bb), .val (.int i), .val (.int r2)] [(.int 0)]))
          refine g_ifYes hG X8 hx (hb hby d10_50) (pc' := 56) (by decide) (by decide) (by decide) ?_
          show G (T8.setTop (mkF m 56 #[.val (.ref zz), .val (.ref bb), .val (.int i), .val (.int r2)] []))
          exact c56 _ _ _ r2 X8 eh8 NF8 Zs  V_zz V_bb (own_tc hb2) he2
    refine g_aloadN hG Xj1 hx (hb hby d10_20) (pc' := 21) rfl rfl rfl ?_
    show G (Tj1.setTop (mkF m 21 #[.val (.ref zz), .val (.ref bb), .val (.int i), .val (.int r1)] [(.ref zz)]))
    refine g_iconst hG Xj1 hx (hb hby d10_21) (pc' := 22) rfl (v := (1 : Int32)) rfl ?_
    show G (Tj1.setTop (mkF m 22 #[.val (.ref zz), .val (.ref bb), .val (.int i), .val (.int r1)] [(.int 1), (.ref zz)]))
    refine g_zaload hG Xj1 hx hZ ej1 V_zz (j := (1 : Int32)) (v := (.int ((bz z) (1 : Int32)))) (in4_nn in4_1) (in4_at in4_1 rfl) (hb hby d10_22) (pc' := 23) rfl ?_
    show G (Tj1.setTop (mkF m 23 #[.val (.ref zz), .val (.ref bb), .val (.int i), .val (.int r1)] [(.int ((bz z) (1 : Int32)))]))
    by_cases hc23 : ((bz z) (1 : Int32)) = (0 : Int32)
    · refine g_ifYes hG Xj1 hx (hb hby d10_23) (pc' := 38) ((if0 _ _).trans (teq hc23).1) (by decide) (by decide) ?_
      exact c38 _ _ _ r1 Xj1 ej1 NFj1 Zs  V_zz V_bb (own_ta (bz0 hc23)) he1
    · refine g_ifNo hG Xj1 hx (hb hby d10_23) (pc' := 26) ((if0 _ _).trans (feq hc23).1) rfl ?_
      by_cases hb1 : bi B 1 i = true
      · have _hh := hb1
        refine g_aloadN hG Xj1 hx (hb hby d10_26) (pc' := 27) rfl rfl rfl ?_
        show G (Tj1.setTop (mkF m 27 #[.val (.ref zz), .val (.ref bb), .val (.int i), .val (.int r1)] [(.ref bb)]))
        refine g_iconst hG Xj1 hx (hb hby d10_27) (pc' := 28) rfl (v := (1 : Int32)) rfl ?_
        show G (Tj1.setTop (mkF m 28 #[.val (.ref zz), .val (.ref bb), .val (.int i), .val (.int r1)] [(.int 1), (.ref bb)]))
        refine g_iloadN hG Xj1 hx (hb hby d10_28) (pc' := 29) rfl rfl ?_
        show G (Tj1.setTop (mkF m 29 #[.val (.ref zz), .val (.ref bb), .val (.int i), .val (.int r1)] [(.int i), (.int 1), (.ref bb)]))
        refine g_callS hG Xj1 hx hZ (y := (⟨"com/example/tributary/tributary/plan/NodeHeapOfferPinLaw", "before", "([III)Z"⟩ : MethodName)) 0 hown (wd hw 51 rfl) (wd hw 52 rfl) (wd hw 43 rfl) (wd hw 53 rfl) (by decide) (rmLb l Z a0 hw [] bb B (1 : Int32) i (1 : Int32) hj1 n0 Zs V_bb in4_1 ii (lb1 hb1)) (by decide) (by decide) (by rw [hml]; rfl) pd_4 rfl (argsL := [(.ref bb), (.int 1), (.int i)]) (rest := []) rfl rfl (Nat.le_of_eq rfl) (hb hby d10_29) ej1 (by decide) (by decide) (pc' := 32) rfl ?_
        intro T9 rv9 L9 X9 hQ9
        obtain ⟨rfl, Nq9, eh9⟩ := hQ9
        have NF9 := Fr.app NFj1 Nq9
        show G (T9.setTop (mkF m 32 #[.val (.ref zz), .val (.ref bb), .val (.int i), .val (.int r1)] [(.int 1)]))
        refine g_ifNo hG X9 hx (hb hby d10_32) (pc' := 35) (by decide) rfl ?_
        show G (T9.setTop (mkF m 35 #[.val (.ref zz), .val (.ref bb), .val (.int i), .val (.int r1)] []))
        obtain ⟨v35, q35⟩ : ∃ zz : Int32, r1 + (1 : Int32) = zz := ⟨_, rfl⟩
        refine g_iinc hG X9 hx (hb hby d10_35) (pc' := 38) rfl rfl q35 (Ls' := #[.val (.ref zz), .val (.ref bb), .val (.int i), .val (.int v35)]) rfl ?_
        show G (T9.setTop (mkF m 38 #[.val (.ref zz), .val (.ref bb), .val (.int i), .val (.int v35)] []))
        exact c38 _ _ _ v35 X9 eh9 NF9 Zs  V_zz V_bb (q35.symm.trans (own_tb (bz1 hc23) hb1)) he1
      · have _hh := hb1
        refine g_aloadN hG Xj1 hx (hb hby d10_26) (pc' := 27) rfl rfl rfl ?_
        show G (Tj1.setTop (mkF m 27 #[.val (.ref zz), .val (.ref bb), .val (.int i), .val (.int r1)] [(.ref bb)]))
        refine g_iconst hG Xj1 hx (hb hby d10_27) (pc' := 28) rfl (v := (1 : Int32)) rfl ?_
        show G (Tj1.setTop (mkF m 28 #[.val (.ref zz), .val (.ref bb), .val (.int i), .val (.int r1)] [(.int 1), (.ref bb)]))
        refine g_iloadN hG Xj1 hx (hb hby d10_28) (pc' := 29) rfl rfl ?_
        show G (Tj1.setTop (mkF m 29 #[.val (.ref zz), .val (.ref bb), .val (.int i), .val (.int r1)] [(.int i), (.int 1), (.ref bb)]))
        refine g_callS hG Xj1 hx hZ (y := (⟨"com/example/tributary/tributary/plan/NodeHeapOfferPinLaw", "before", "([III)Z"⟩ : MethodName)) 0 hown (wd hw 51 rfl) (wd hw 52 rfl) (wd hw 43 rfl) (wd hw 53 rfl) (by decide) (rmLb l Z a0 hw [] bb B (1 : Int32) i (0 : Int32) hj1 n0 Zs V_bb in4_1 ii (lb0 hb1)) (by decide) (by decide) (by rw [hml]; rfl) pd_4 rfl (argsL := [(.ref bb), (.int 1), (.int i)]) (rest := []) rfl rfl (Nat.le_of_eq rfl) (hb hby d10_29) ej1 (by decide) (by decide) (pc' := 32) rfl ?_
        intro T10 rv10 L10 X10 hQ10
        obtain ⟨rfl, Nq10, eh10⟩ := hQ10
        have NF10 := Fr.app NFj1 Nq10
        show G (T10.setTop (mkF m 32 #[.val (.ref zz), .val (.ref bb), .val (.int i), .val (.int r1)] [(.int 0)]))
        refine g_ifYes hG X10 hx (hb hby d10_32) (pc' := 38) (by decide) (by decide) (by decide) ?_
        show G (T10.setTop (mkF m 38 #[.val (.ref zz), .val (.ref bb), .val (.int i), .val (.int r1)] []))
        exact c38 _ _ _ r1 X10 eh10 NF10 Zs  V_zz V_bb (own_tc hb1) he1
  refine g_aloadN hG X0 hx (hb hby d10_2) (pc' := 3) rfl rfl rfl ?_
  show G (s₁.setTop (mkF m 3 #[.val (.ref zz), .val (.ref bb), .val (.int i), .val (.int 0)] [(.ref zz)]))
  refine g_iconst hG X0 hx (hb hby d10_3) (pc' := 4) rfl (v := (0 : Int32)) rfl ?_
  show G (s₁.setTop (mkF m 4 #[.val (.ref zz), .val (.ref bb), .val (.int i), .val (.int 0)] [(.int 0), (.ref zz)]))
  refine g_zaload hG X0 hx hZ e0 V_zz (j := (0 : Int32)) (v := (.int ((bz z) (0 : Int32)))) (in4_nn in4_0) (in4_at in4_0 rfl) (hb hby d10_4) (pc' := 5) rfl ?_
  show G (s₁.setTop (mkF m 5 #[.val (.ref zz), .val (.ref bb), .val (.int i), .val (.int 0)] [(.int ((bz z) (0 : Int32)))]))
  by_cases hc5 : ((bz z) (0 : Int32)) = (0 : Int32)
  · refine g_ifYes hG X0 hx (hb hby d10_5) (pc' := 20) ((if0 _ _).trans (teq hc5).1) (by decide) (by decide) ?_
    exact c20 _ _ _ (0 : Int32) X0 e0 NF0 Zs  V_zz V_bb (own_ta (bz0 hc5)) rfl
  · refine g_ifNo hG X0 hx (hb hby d10_5) (pc' := 8) ((if0 _ _).trans (feq hc5).1) rfl ?_
    by_cases hb0 : bi B 0 i = true
    · have _hh := hb0
      refine g_aloadN hG X0 hx (hb hby d10_8) (pc' := 9) rfl rfl rfl ?_
      show G (s₁.setTop (mkF m 9 #[.val (.ref zz), .val (.ref bb), .val (.int i), .val (.int 0)] [(.ref bb)]))
      refine g_iconst hG X0 hx (hb hby d10_9) (pc' := 10) rfl (v := (0 : Int32)) rfl ?_
      show G (s₁.setTop (mkF m 10 #[.val (.ref zz), .val (.ref bb), .val (.int i), .val (.int 0)] [(.int 0), (.ref bb)]))
      refine g_iloadN hG X0 hx (hb hby d10_10) (pc' := 11) rfl rfl ?_
      show G (s₁.setTop (mkF m 11 #[.val (.ref zz), .val (.ref bb), .val (.int i), .val (.int 0)] [(.int i), (.int 0), (.ref bb)]))
      refine g_callS hG X0 hx hZ (y := (⟨"com/example/tributary/tributary/plan/NodeHeapOfferPinLaw", "before", "([III)Z"⟩ : MethodName)) 0 hown (wd hw 51 rfl) (wd hw 52 rfl) (wd hw 43 rfl) (wd hw 53 rfl) (by decide) (rmLb l Z a0 hw [] bb B (0 : Int32) i (1 : Int32) h0 n0 Zs V_bb in4_0 ii (lb1 hb0)) (by decide) (by decide) (by rw [hml]; rfl) pd_4 rfl (argsL := [(.ref bb), (.int 0), (.int i)]) (rest := []) rfl rfl (Nat.le_of_eq rfl) (hb hby d10_11) e0 (by decide) (by decide) (pc' := 14) rfl ?_
      intro T11 rv11 L11 X11 hQ11
      obtain ⟨rfl, Nq11, eh11⟩ := hQ11
      have NF11 := Fr.app NF0 Nq11
      show G (T11.setTop (mkF m 14 #[.val (.ref zz), .val (.ref bb), .val (.int i), .val (.int 0)] [(.int 1)]))
      refine g_ifNo hG X11 hx (hb hby d10_14) (pc' := 17) (by decide) rfl ?_
      show G (T11.setTop (mkF m 17 #[.val (.ref zz), .val (.ref bb), .val (.int i), .val (.int 0)] []))
      refine g_iinc hG X11 hx (hb hby d10_17) (pc' := 20) rfl rfl (v := (1 : Int32)) (by decide) (Ls' := #[.val (.ref zz), .val (.ref bb), .val (.int i), .val (.int 1)]) rfl ?_
      show G (T11.setTop (mkF m 20 #[.val (.ref zz), .val (.ref bb), .val (.int i), .val (.int 1)] []))
      exact c20 _ _ _ (1 : Int32) X11 eh11 NF11 Zs  V_zz V_bb ((show (1 : Int32) = 0 + 1 by decide).trans (own_tb (bz1 hc5) hb0)) rfl
    · have _hh := hb0
      refine g_aloadN hG X0 hx (hb hby d10_8) (pc' := 9) rfl rfl rfl ?_
      show G (s₁.setTop (mkF m 9 #[.val (.ref zz), .val (.ref bb), .val (.int i), .val (.int 0)] [(.ref bb)]))
      refine g_iconst hG X0 hx (hb hby d10_9) (pc' := 10) rfl (v := (0 : Int32)) rfl ?_
      show G (s₁.setTop (mkF m 10 #[.val (.ref zz), .val (.ref bb), .val (.int i), .val (.int 0)] [(.int 0), (.ref bb)]))
      refine g_iloadN hG X0 hx (hb hby d10_10) (pc' := 11) rfl rfl ?_
      show G (s₁.setTop (mkF m 11 #[.val (.ref zz), .val (.ref bb), .val (.int i), .val (.int 0)] [(.int i), (.int 0), (.ref bb)]))
      refine g_callS hG X0 hx hZ (y := (⟨"com/example/tributary/tributary/plan/NodeHeapOfferPinLaw", "before", "([III)Z"⟩ : MethodName)) 0 hown (wd hw 51 rfl) (wd hw 52 rfl) (wd hw 43 rfl) (wd hw 53 rfl) (by decide) (rmLb l Z a0 hw [] bb B (0 : Int32) i (0 : Int32) h0 n0 Zs V_bb in4_0 ii (lb0 hb0)) (by decide) (by decide) (by rw [hml]; rfl) pd_4 rfl (argsL := [(.ref bb), (.int 0), (.int i)]) (rest := []) rfl rfl (Nat.le_of_eq rfl) (hb hby d10_11) e0 (by decide) (by decide) (pc' := 14) rfl ?_
      intro T12 rv12 L12 X12 hQ12
      obtain ⟨rfl, Nq12, eh12⟩ := hQ12
      have NF12 := Fr.app NF0 Nq12
      show G (T12.setTop (mkF m 14 #[.val (.ref zz), .val (.ref bb), .val (.int i), .val (.int 0)] [(.int 0)]))
      refine g_ifYes hG X12 hx (hb hby d10_14) (pc' := 20) (by decide) (by decide) (by decide) ?_
      show G (T12.setTop (mkF m 20 #[.val (.ref zz), .val (.ref bb), .val (.int i), .val (.int 0)] []))
      exact c20 _ _ _ (0 : Int32) X12 eh12 NF12 Zs  V_zz V_bb (own_tc hb0) rfl

def Q_rmNt (Z : State) (zz bb : Addr) (z : Int32 → Bool) (B : Int32 → Int32) (x k : Int32) (h0 : Heap) (n0 : Nat) (v : Option Value) (h : Heap) (L : List Loc) : Prop := v = none ∧ Fr n0 L ∧ Keep h0 h [zz, bb] ∧ AV Z h zz .boolean (4 : Int32) (fn4 (bz (ntZ z B x k))) ∧ AV Z h bb .int (4 : Int32) (fn4 (ntB z B x k))
set_option maxRecDepth 65536 in
set_option maxHeartbeats 40000000 in
theorem rmNt (l : Launch) (Z : State) (a0 : Array Value) (hw : ∀ d ∈ tables_1, d.before a0 Z = true) (ws : List Jvm.Cond) (zz bb : Addr) (z : Int32 → Bool) (B : Int32 → Int32) (x k : Int32) (h0 : Heap) (n0 : Nat) (Zs : n0 ≤ h0.size) (gzz : n0 ≤ zz) (gbb : n0 ≤ bb) (dzb : zz ≠ bb) (V_zz : AV Z h0 zz .boolean (4 : Int32) (fn4 (bz z))) (V_bb : AV Z h0 bb .int (4 : Int32) (fn4 B)) (ix : In4 x) :
    Con l (⟨"com/example/tributary/tributary/plan/NodeHeapOfferPinLaw", "note", "([Z[III)V"⟩ : MethodName) method_3_code 4 none ws ({ frames := 0, cells := 0, slots := 0, locals := 0 } : Room) Z #[(.ref zz), (.ref bb), (.int x), (.int k)] h0 ({ frames := 0, cells := 0, slots := 0, locals := 0 } : Room).cells ({ frames := 0, cells := 0, slots := 0, locals := 0 } : Room).slots (Q_rmNt Z zz bb z B x k h0 n0) := by
  refine Con.of (Ls := #[.val (.ref zz), .val (.ref bb), .val (.int x), .val (.int k)]) (plainFor_of_name (by first | (simp [plainName, overriddenIn]; done) | decide +kernel)) (fun m => by first | (simp [entryFrame, mkF, argsToLocals, Value.category]; done) | rfl) ?_
  intro p e s m below meth c s₁ G hGe hG hx hby hml hown hnm hrt hlk hZ X0 e0
  have hown : s.vm.findClass "com/example/tributary/tributary/plan/NodeHeapOfferPinLaw" = some m.cls := hown
  have hnm : meth.name = "note" := hnm
  have NF0 := Fr.nil n0
  have K0 := Keep.refl h0 [zz, bb]
  rcases own_nt3 z B x k with c1 | ⟨c1, c2⟩ | ⟨c1, c2⟩
  · skip
    refine g_aloadN hG X0 hx (hb hby d8_0) (pc' := 1) rfl rfl rfl ?_
    show G (s₁.setTop (mkF m 1 #[.val (.ref zz), .val (.ref bb), .val (.int x), .val (.int k)] [(.ref zz)]))
    refine g_iloadN hG X0 hx (hb hby d8_1) (pc' := 2) rfl rfl ?_
    show G (s₁.setTop (mkF m 2 #[.val (.ref zz), .val (.ref bb), .val (.int x), .val (.int k)] [(.int x), (.ref zz)]))
    refine g_zaload hG X0 hx hZ e0 V_zz (j := x) (v := (.int ((bz z) x))) (in4_nn ix) (in4_at ix rfl) (hb hby d8_2) (pc' := 3) rfl ?_
    show G (s₁.setTop (mkF m 3 #[.val (.ref zz), .val (.ref bb), .val (.int x), .val (.int k)] [(.int ((bz z) x))]))
    refine g_ifYes hG X0 hx (hb hby d8_3) (pc' := 13) ((if0 _ _).trans (teq (bzz c1)).1) (by decide) (by decide) ?_
    show G (s₁.setTop (mkF m 13 #[.val (.ref zz), .val (.ref bb), .val (.int x), .val (.int k)] []))
    refine g_aloadN hG X0 hx (hb hby d8_13) (pc' := 14) rfl rfl rfl ?_
    show G (s₁.setTop (mkF m 14 #[.val (.ref zz), .val (.ref bb), .val (.int x), .val (.int k)] [(.ref zz)]))
    refine g_iloadN hG X0 hx (hb hby d8_14) (pc' := 15) rfl rfl ?_
    show G (s₁.setTop (mkF m 15 #[.val (.ref zz), .val (.ref bb), .val (.int x), .val (.int k)] [(.int x), (.ref zz)]))
    refine g_iconst hG X0 hx (hb hby d8_15) (pc' := 16) rfl (v := (1 : Int32)) rfl ?_
    show G (s₁.setTop (mkF m 16 #[.val (.ref zz), .val (.ref bb), .val (.int x), .val (.int k)] [(.int 1), (.int x), (.ref zz)]))
    refine g_zastore hG X0 hx hZ e0 V_zz (j := x) (in4_nn ix) (in4_len ix) (hb hby d8_16) (pc' := 17) rfl ?_
    intro T1 h1 X1 e1 W1 Vn1
    rw [in4_set ix] at Vn1
    have V_zz : AV Z h1 zz .boolean (4 : Int32) (fn4 (upd (bz z) x (1 : Int32))) := Vn1
    have V_bb := V_bb.other W1 (Ne.symm dzb)
    have Zs := Nat.le_trans Zs (Wr.size W1)
    have NF1 := Fr.snoc X1 NF0 gzz
    have K1 := K0.wr W1 (Or.inl (List.mem_of_getElem? (i := 0) rfl))
    show G (T1.setTop (mkF m 17 #[.val (.ref zz), .val (.ref bb), .val (.int x), .val (.int k)] []))
    refine g_aloadN hG X1 hx (hb hby d8_17) (pc' := 18) rfl rfl rfl ?_
    show G (T1.setTop (mkF m 18 #[.val (.ref zz), .val (.ref bb), .val (.int x), .val (.int k)] [(.ref bb)]))
    refine g_iloadN hG X1 hx (hb hby d8_18) (pc' := 19) rfl rfl ?_
    show G (T1.setTop (mkF m 19 #[.val (.ref zz), .val (.ref bb), .val (.int x), .val (.int k)] [(.int x), (.ref bb)]))
    refine g_iloadN hG X1 hx (hb hby d8_19) (pc' := 20) rfl rfl ?_
    show G (T1.setTop (mkF m 20 #[.val (.ref zz), .val (.ref bb), .val (.int x), .val (.int k)] [(.int k), (.int x), (.ref bb)]))
    refine g_iastore hG X1 hx hZ e1 V_bb (j := x) (in4_nn ix) (in4_len ix) (hb hby d8_20) (pc' := 21) rfl ?_
    intro T2 h2 X2 e2 W2 Vn2
    rw [in4_set ix] at Vn2
    have V_bb : AV Z h2 bb .int (4 : Int32) (fn4 (upd B x k)) := Vn2
    have V_zz := V_zz.other W2 dzb
    have Zs := Nat.le_trans Zs (Wr.size W2)
    have NF2 := Fr.snoc X2 NF1 gbb
    have K2 := K1.wr W2 (Or.inl (List.mem_of_getElem? (i := 1) rfl))
    show G (T2.setTop (mkF m 21 #[.val (.ref zz), .val (.ref bb), .val (.int x), .val (.int k)] []))
    exact e_ret0 hGe X2 hx hrt hlk (hb hby d8_21) e2 (by decide) (by decide) (⟨rfl, NF2, K2, by rw [own_ntZ1 (Or.inl c1), nt_bz]; exact V_zz, by rw [own_ntB1 (Or.inl c1)]; exact V_bb⟩)
  · skip
    refine g_aloadN hG X0 hx (hb hby d8_0) (pc' := 1) rfl rfl rfl ?_
    show G (s₁.setTop (mkF m 1 #[.val (.ref zz), .val (.ref bb), .val (.int x), .val (.int k)] [(.ref zz)]))
    refine g_iloadN hG X0 hx (hb hby d8_1) (pc' := 2) rfl rfl ?_
    show G (s₁.setTop (mkF m 2 #[.val (.ref zz), .val (.ref bb), .val (.int x), .val (.int k)] [(.int x), (.ref zz)]))
    refine g_zaload hG X0 hx hZ e0 V_zz (j := x) (v := (.int ((bz z) x))) (in4_nn ix) (in4_at ix rfl) (hb hby d8_2) (pc' := 3) rfl ?_
    show G (s₁.setTop (mkF m 3 #[.val (.ref zz), .val (.ref bb), .val (.int x), .val (.int k)] [(.int ((bz z) x))]))
    refine g_ifNo hG X0 hx (hb hby d8_3) (pc' := 6) ((if0 _ _).trans (feq (bzo c1)).1) rfl ?_
    show G (s₁.setTop (mkF m 6 #[.val (.ref zz), .val (.ref bb), .val (.int x), .val (.int k)] []))
    refine g_iloadN hG X0 hx (hb hby d8_6) (pc' := 7) rfl rfl ?_
    show G (s₁.setTop (mkF m 7 #[.val (.ref zz), .val (.ref bb), .val (.int x), .val (.int k)] [(.int k)]))
    refine g_aloadN hG X0 hx (hb hby d8_7) (pc' := 8) rfl rfl rfl ?_
    show G (s₁.setTop (mkF m 8 #[.val (.ref zz), .val (.ref bb), .val (.int x), .val (.int k)] [(.ref bb), (.int k)]))
    refine g_iloadN hG X0 hx (hb hby d8_8) (pc' := 9) rfl rfl ?_
    show G (s₁.setTop (mkF m 9 #[.val (.ref zz), .val (.ref bb), .val (.int x), .val (.int k)] [(.int x), (.ref bb), (.int k)]))
    refine g_iaload hG X0 hx hZ e0 V_bb (j := x) (v := (.int (B x))) (in4_nn ix) (in4_at ix rfl) (hb hby d8_9) (pc' := 10) rfl ?_
    show G (s₁.setTop (mkF m 10 #[.val (.ref zz), .val (.ref bb), .val (.int x), .val (.int k)] [(.int (B x)), (.int k)]))
    refine g_icmpNo hG X0 hx (hb hby d8_10) (pc' := 13) ((tlt c2).2.1) rfl ?_
    show G (s₁.setTop (mkF m 13 #[.val (.ref zz), .val (.ref bb), .val (.int x), .val (.int k)] []))
    refine g_aloadN hG X0 hx (hb hby d8_13) (pc' := 14) rfl rfl rfl ?_
    show G (s₁.setTop (mkF m 14 #[.val (.ref zz), .val (.ref bb), .val (.int x), .val (.int k)] [(.ref zz)]))
    refine g_iloadN hG X0 hx (hb hby d8_14) (pc' := 15) rfl rfl ?_
    show G (s₁.setTop (mkF m 15 #[.val (.ref zz), .val (.ref bb), .val (.int x), .val (.int k)] [(.int x), (.ref zz)]))
    refine g_iconst hG X0 hx (hb hby d8_15) (pc' := 16) rfl (v := (1 : Int32)) rfl ?_
    show G (s₁.setTop (mkF m 16 #[.val (.ref zz), .val (.ref bb), .val (.int x), .val (.int k)] [(.int 1), (.int x), (.ref zz)]))
    refine g_zastore hG X0 hx hZ e0 V_zz (j := x) (in4_nn ix) (in4_len ix) (hb hby d8_16) (pc' := 17) rfl ?_
    intro T3 h3 X3 e3 W3 Vn3
    rw [in4_set ix] at Vn3
    have V_zz : AV Z h3 zz .boolean (4 : Int32) (fn4 (upd (bz z) x (1 : Int32))) := Vn3
    have V_bb := V_bb.other W3 (Ne.symm dzb)
    have Zs := Nat.le_trans Zs (Wr.size W3)
    have NF3 := Fr.snoc X3 NF0 gzz
    have K3 := K0.wr W3 (Or.inl (List.mem_of_getElem? (i := 0) rfl))
    show G (T3.setTop (mkF m 17 #[.val (.ref zz), .val (.ref bb), .val (.int x), .val (.int k)] []))
    refine g_aloadN hG X3 hx (hb hby d8_17) (pc' := 18) rfl rfl rfl ?_
    show G (T3.setTop (mkF m 18 #[.val (.ref zz), .val (.ref bb), .val (.int x), .val (.int k)] [(.ref bb)]))
    refine g_iloadN hG X3 hx (hb hby d8_18) (pc' := 19) rfl rfl ?_
    show G (T3.setTop (mkF m 19 #[.val (.ref zz), .val (.ref bb), .val (.int x), .val (.int k)] [(.int x), (.ref bb)]))
    refine g_iloadN hG X3 hx (hb hby d8_19) (pc' := 20) rfl rfl ?_
    show G (T3.setTop (mkF m 20 #[.val (.ref zz), .val (.ref bb), .val (.int x), .val (.int k)] [(.int k), (.int x), (.ref bb)]))
    refine g_iastore hG X3 hx hZ e3 V_bb (j := x) (in4_nn ix) (in4_len ix) (hb hby d8_20) (pc' := 21) rfl ?_
    intro T4 h4 X4 e4 W4 Vn4
    rw [in4_set ix] at Vn4
    have V_bb : AV Z h4 bb .int (4 : Int32) (fn4 (upd B x k)) := Vn4
    have V_zz := V_zz.other W4 dzb
    have Zs := Nat.le_trans Zs (Wr.size W4)
    have NF4 := Fr.snoc X4 NF3 gbb
    have K4 := K3.wr W4 (Or.inl (List.mem_of_getElem? (i := 1) rfl))
    show G (T4.setTop (mkF m 21 #[.val (.ref zz), .val (.ref bb), .val (.int x), .val (.int k)] []))
    exact e_ret0 hGe X4 hx hrt hlk (hb hby d8_21) e4 (by decide) (by decide) (⟨rfl, NF4, K4, by rw [own_ntZ1 (Or.inr c2), nt_bz]; exact V_zz, by rw [own_ntB1 (Or.inr c2)]; exact V_bb⟩)
  · skip
    refine g_aloadN hG X0 hx (hb hby d8_0) (pc' := 1) rfl rfl rfl ?_
    show G (s₁.setTop (mkF m 1 #[.val (.ref zz), .val (.ref bb), .val (.int x), .val (.int k)] [(.ref zz)]))
    refine g_iloadN hG X0 hx (hb hby d8_1) (pc' := 2) rfl rfl ?_
    show G (s₁.setTop (mkF m 2 #[.val (.ref zz), .val (.ref bb), .val (.int x), .val (.int k)] [(.int x), (.ref zz)]))
    refine g_zaload hG X0 hx hZ e0 V_zz (j := x) (v := (.int ((bz z) x))) (in4_nn ix) (in4_at ix rfl) (hb hby d8_2) (pc' := 3) rfl ?_
    show G (s₁.setTop (mkF m 3 #[.val (.ref zz), .val (.ref bb), .val (.int x), .val (.int k)] [(.int ((bz z) x))]))
    refine g_ifNo hG X0 hx (hb hby d8_3) (pc' := 6) ((if0 _ _).trans (feq (bzo c1)).1) rfl ?_
    show G (s₁.setTop (mkF m 6 #[.val (.ref zz), .val (.ref bb), .val (.int x), .val (.int k)] []))
    refine g_iloadN hG X0 hx (hb hby d8_6) (pc' := 7) rfl rfl ?_
    show G (s₁.setTop (mkF m 7 #[.val (.ref zz), .val (.ref bb), .val (.int x), .val (.int k)] [(.int k)]))
    refine g_aloadN hG X0 hx (hb hby d8_7) (pc' := 8) rfl rfl rfl ?_
    show G (s₁.setTop (mkF m 8 #[.val (.ref zz), .val (.ref bb), .val (.int x), .val (.int k)] [(.ref bb), (.int k)]))
    refine g_iloadN hG X0 hx (hb hby d8_8) (pc' := 9) rfl rfl ?_
    show G (s₁.setTop (mkF m 9 #[.val (.ref zz), .val (.ref bb), .val (.int x), .val (.int k)] [(.int x), (.ref bb), (.int k)]))
    refine g_iaload hG X0 hx hZ e0 V_bb (j := x) (v := (.int (B x))) (in4_nn ix) (in4_at ix rfl) (hb hby d8_9) (pc' := 10) rfl ?_
    show G (s₁.setTop (mkF m 10 #[.val (.ref zz), .val (.ref bb), .val (.int x), .val (.int k)] [(.int (B x)), (.int k)]))
    refine g_icmpYes hG X0 hx (hb hby d8_10) (pc' := 21) ((flt c2).2.1) (by decide) (by decide) ?_
    show G (s₁.setTop (mkF m 21 #[.val (.ref zz), .val (.ref bb), .val (.int x), .val (.int k)] []))
    exact e_ret0 hGe X0 hx hrt hlk (hb hby d8_21) e0 (by decide) (by decide) (⟨rfl, NF0, K0, by rw [own_ntZ0 c1 c2]; exact V_zz, by rw [own_ntB0 c1 c2]; exact V_bb⟩)

def Q_rmPt (Z : State) (zz bb xx : Addr) (z : Int32 → Bool) (B E : Int32 → Int32) (i : Int32) (h0 : Heap) (n0 : Nat) (v : Option Value) (h : Heap) (L : List Loc) : Prop := v = some (.int (b2i (z i))) ∧ Fr n0 L ∧ Keep h0 h [xx] ∧ AV Z h xx .int (4 : Int32) (fn4 (ptE z (bi B) E i))
set_option maxRecDepth 65536 in
set_option maxHeartbeats 40000000 in
theorem rmPt (l : Launch) (Z : State) (a0 : Array Value) (hw : ∀ d ∈ tables_1, d.before a0 Z = true) (ws : List Jvm.Cond) (zz bb xx : Addr) (z : Int32 → Bool) (B E : Int32 → Int32) (i : Int32) (h0 : Heap) (n0 : Nat) (Zs : n0 ≤ h0.size) (gxx : n0 ≤ xx) (dzx : zz ≠ xx) (dbx : bb ≠ xx) (V_zz : AV Z h0 zz .boolean (4 : Int32) (fn4 (bz z))) (V_bb : AV Z h0 bb .int (4 : Int32) (fn4 B)) (V_xx : AV Z h0 xx .int (4 : Int32) (fn4 E)) (ii : In4 i) :
    Con l (⟨"com/example/tributary/tributary/plan/NodeHeapOfferPinLaw", "put", "([Z[I[II)I"⟩ : MethodName) method_6_code 4 (some .int) ws ({ frames := 2, cells := 0, slots := 0, locals := 48 } : Room) Z #[(.ref zz), (.ref bb), (.ref xx), (.int i)] h0 ({ frames := 2, cells := 0, slots := 0, locals := 48 } : Room).cells ({ frames := 2, cells := 0, slots := 0, locals := 48 } : Room).slots (Q_rmPt Z zz bb xx z B E i h0 n0) := by
  refine Con.of (Ls := #[.val (.ref zz), .val (.ref bb), .val (.ref xx), .val (.int i)]) (plainFor_of_name (by first | (simp [plainName, overriddenIn]; done) | decide +kernel)) (fun m => by first | (simp [entryFrame, mkF, argsToLocals, Value.category]; done) | rfl) ?_
  intro p e s m below meth c s₁ G hGe hG hx hby hml hown hnm hrt hlk hZ X0 e0
  have hown : s.vm.findClass "com/example/tributary/tributary/plan/NodeHeapOfferPinLaw" = some m.cls := hown
  have hnm : meth.name = "put" := hnm
  have NF0 := Fr.nil n0
  have K0 := Keep.refl h0 [xx]
  rcases own_tf (z i) with c1 | c1
  · skip
    refine g_aloadN hG X0 hx (hb hby d9_0) (pc' := 1) rfl rfl rfl ?_
    show G (s₁.setTop (mkF m 1 #[.val (.ref zz), .val (.ref bb), .val (.ref xx), .val (.int i)] [(.ref zz)]))
    refine g_iloadN hG X0 hx (hb hby d9_1) (pc' := 2) rfl rfl ?_
    show G (s₁.setTop (mkF m 2 #[.val (.ref zz), .val (.ref bb), .val (.ref xx), .val (.int i)] [(.int i), (.ref zz)]))
    refine g_zaload hG X0 hx hZ e0 V_zz (j := i) (v := (.int ((bz z) i))) (in4_nn ii) (in4_at ii rfl) (hb hby d9_2) (pc' := 3) rfl ?_
    show G (s₁.setTop (mkF m 3 #[.val (.ref zz), .val (.ref bb), .val (.ref xx), .val (.int i)] [(.int ((bz z) i))]))
    refine g_ifNo hG X0 hx (hb hby d9_3) (pc' := 6) ((if0 _ _).trans (teq (bzz c1)).2) rfl ?_
    show G (s₁.setTop (mkF m 6 #[.val (.ref zz), .val (.ref bb), .val (.ref xx), .val (.int i)] []))
    refine g_iconst hG X0 hx (hb hby d9_6) (pc' := 7) rfl (v := (0 : Int32)) rfl ?_
    show G (s₁.setTop (mkF m 7 #[.val (.ref zz), .val (.ref bb), .val (.ref xx), .val (.int i)] [(.int 0)]))
    exact e_retI hGe X0 hx hrt hlk (hb hby d9_7) e0 (by decide) (by decide) (⟨by rw [c1]; rfl, NF0, K0, by rw [own_pt0 c1]; exact V_xx⟩)
  · skip
    refine g_aloadN hG X0 hx (hb hby d9_0) (pc' := 1) rfl rfl rfl ?_
    show G (s₁.setTop (mkF m 1 #[.val (.ref zz), .val (.ref bb), .val (.ref xx), .val (.int i)] [(.ref zz)]))
    refine g_iloadN hG X0 hx (hb hby d9_1) (pc' := 2) rfl rfl ?_
    show G (s₁.setTop (mkF m 2 #[.val (.ref zz), .val (.ref bb), .val (.ref xx), .val (.int i)] [(.int i), (.ref zz)]))
    refine g_zaload hG X0 hx hZ e0 V_zz (j := i) (v := (.int ((bz z) i))) (in4_nn ii) (in4_at ii rfl) (hb hby d9_2) (pc' := 3) rfl ?_
    show G (s₁.setTop (mkF m 3 #[.val (.ref zz), .val (.ref bb), .val (.ref xx), .val (.int i)] [(.int ((bz z) i))]))
    refine g_ifYes hG X0 hx (hb hby d9_3) (pc' := 8) ((if0 _ _).trans (feq (bzo c1)).2) (by decide) (by decide) ?_
    show G (s₁.setTop (mkF m 8 #[.val (.ref zz), .val (.ref bb), .val (.ref xx), .val (.int i)] []))
    refine g_aloadN hG X0 hx (hb hby d9_8) (pc' := 9) rfl rfl rfl ?_
    show G (s₁.setTop (mkF m 9 #[.val (.ref zz), .val (.ref bb), .val (.ref xx), .val (.int i)] [(.ref xx)]))
    refine g_aloadN hG X0 hx (hb hby d9_9) (pc' := 10) rfl rfl rfl ?_
    show G (s₁.setTop (mkF m 10 #[.val (.ref zz), .val (.ref bb), .val (.ref xx), .val (.int i)] [(.ref zz), (.ref xx)]))
    refine g_aloadN hG X0 hx (hb hby d9_10) (pc' := 11) rfl rfl rfl ?_
    show G (s₁.setTop (mkF m 11 #[.val (.ref zz), .val (.ref bb), .val (.ref xx), .val (.int i)] [(.ref bb), (.ref zz), (.ref xx)]))
    refine g_iloadN hG X0 hx (hb hby d9_11) (pc' := 12) rfl rfl ?_
    show G (s₁.setTop (mkF m 12 #[.val (.ref zz), .val (.ref bb), .val (.ref xx), .val (.int i)] [(.int i), (.ref bb), (.ref zz), (.ref xx)]))
    refine g_callS hG X0 hx hZ (y := (⟨"com/example/tributary/tributary/plan/NodeHeapOfferPinLaw", "rank", "([Z[II)I"⟩ : MethodName)) 1 hown (wd hw 48 rfl) (wd hw 49 rfl) (wd hw 43 rfl) (wd hw 50 rfl) (by decide) (rmRk l Z a0 hw [] zz bb z B i h0 n0 Zs V_zz V_bb ii) (by decide) (by decide) (by rw [hml]; rfl) pd_5 rfl (argsL := [(.ref zz), (.ref bb), (.int i)]) (rest := [(.ref xx)]) rfl rfl (Nat.le_of_eq rfl) (hb hby d9_12) e0 (by decide) (by decide) (pc' := 15) rfl ?_
    intro T1 rv1 L1 X1 hQ1
    obtain ⟨rfl, Nq1, eh1⟩ := hQ1
    have NF1 := Fr.app NF0 Nq1
    show G (T1.setTop (mkF m 15 #[.val (.ref zz), .val (.ref bb), .val (.ref xx), .val (.int i)] [(.int (rk z (bi B) i)), (.ref xx)]))
    refine g_iloadN hG X1 hx (hb hby d9_15) (pc' := 16) rfl rfl ?_
    show G (T1.setTop (mkF m 16 #[.val (.ref zz), .val (.ref bb), .val (.ref xx), .val (.int i)] [(.int i), (.int (rk z (bi B) i)), (.ref xx)]))
    refine g_iastore hG X1 hx hZ eh1 V_xx (j := (rk z (bi B) i)) (in4_nn (own_rk ii)) (in4_len (own_rk ii)) (hb hby d9_16) (pc' := 17) rfl ?_
    intro T2 h2 X2 e2 W2 Vn2
    rw [in4_set (own_rk ii)] at Vn2
    have V_xx : AV Z h2 xx .int (4 : Int32) (fn4 (upd E (rk z (bi B) i) i)) := Vn2
    have V_zz := V_zz.other W2 dzx
    have V_bb := V_bb.other W2 dbx
    have Zs := Nat.le_trans Zs (Wr.size W2)
    have NF2 := Fr.snoc X2 NF1 gxx
    have K2 := K0.wr W2 (Or.inl (List.mem_of_getElem? (i := 0) rfl))
    show G (T2.setTop (mkF m 17 #[.val (.ref zz), .val (.ref bb), .val (.ref xx), .val (.int i)] []))
    refine g_iconst hG X2 hx (hb hby d9_17) (pc' := 18) rfl (v := (1 : Int32)) rfl ?_
    show G (T2.setTop (mkF m 18 #[.val (.ref zz), .val (.ref bb), .val (.ref xx), .val (.int i)] [(.int 1)]))
    exact e_retI hGe X2 hx hrt hlk (hb hby d9_18) e2 (by decide) (by decide) (⟨by rw [c1]; rfl, NF2, K2, by rw [own_pt1 c1]; exact V_xx⟩)

def Q_rm0 (Z : State) (i0 i1 i2 i3 : Int32) (h0 : Heap) (n0 : Nat) (v : Option Value) (h : Heap) (L : List Loc) : Prop := v = some (.int 1) ∧ Fr n0 L
set_option maxRecDepth 65536 in
set_option maxHeartbeats 40000000 in
theorem rm0 (l : Launch) (Z : State) (a0 : Array Value) (hw : ∀ d ∈ tables_1, d.before a0 Z = true) (ws : List Jvm.Cond) (i0 i1 i2 i3 : Int32) (h0 : Heap) (n0 : Nat) (Zs : n0 ≤ h0.size)  :
    Con l x code maxLocals ret ws room_1 Z #[(.int i0), (.int i1), (.int i2), (.int i3)] h0 room_1.cells room_1.slots (Q_rm0 Z i0 i1 i2 i3 h0 n0) := by
  refine Con.of (Ls := #[.val (.int i0), .val (.int i1), .val (.int i2), .val (.int i3), .unset, .unset, .unset, .unset, .unset, .unset, .unset, .unset, .unset, .unset, .unset, .unset, .unset, .unset]) (plainFor_of_name (by first | (simp [plainName, overriddenIn]; done) | decide +kernel)) (fun m => by first | (simp [entryFrame, mkF, argsToLocals, Value.category, maxLocals]; done) | rfl) ?_
  intro p e s m below meth c s₁ G hGe hG hx hby hml hown hnm hrt hlk hZ X0 e0
  have hml : c.maxLocals = 18 := hml
  have hown : s.vm.findClass "com/example/tributary/tributary/plan/NodeHeapOfferPinLaw" = some m.cls := hown
  have hnm : meth.name = "law" := hnm
  have NF0 := Fr.nil n0
  refine g_iloadN hG X0 hx (hb hby at_0) (pc' := 1) rfl rfl ?_
  show G (s₁.setTop (mkF m 1 #[.val (.int i0), .val (.int i1), .val (.int i2), .val (.int i3), .unset, .unset, .unset, .unset, .unset, .unset, .unset, .unset, .unset, .unset, .unset, .unset, .unset, .unset] [(.int i0)]))
  refine g_iconst hG X0 hx (hb hby at_1) (pc' := 2) rfl (v := (3 : Int32)) rfl ?_
  show G (s₁.setTop (mkF m 2 #[.val (.int i0), .val (.int i1), .val (.int i2), .val (.int i3), .unset, .unset, .unset, .unset, .unset, .unset, .unset, .unset, .unset, .unset, .unset, .unset, .unset, .unset] [(.int 3), (.int i0)]))
  obtain ⟨v2, q2⟩ : ∃ zz : Int32, i0 &&& (3 : Int32) = zz := ⟨_, rfl⟩
  refine g_iand hG X0 hx (hb hby at_2) (pc' := 3) rfl q2 ?_
  show G (s₁.setTop (mkF m 3 #[.val (.int i0), .val (.int i1), .val (.int i2), .val (.int i3), .unset, .unset, .unset, .unset, .unset, .unset, .unset, .unset, .unset, .unset, .unset, .unset, .unset, .unset] [(.int v2)]))
  refine g_istore hG X0 hx (hb hby at_3) (pc' := 5) rfl (Ls' := #[.val (.int i0), .val (.int i1), .val (.int i2), .val (.int i3), .val (.int v2), .unset, .unset, .unset, .unset, .unset, .unset, .unset, .unset, .unset, .unset, .unset, .unset, .unset]) rfl ?_
  show G (s₁.setTop (mkF m 5 #[.val (.int i0), .val (.int i1), .val (.int i2), .val (.int i3), .val (.int v2), .unset, .unset, .unset, .unset, .unset, .unset, .unset, .unset, .unset, .unset, .unset, .unset, .unset] []))
  refine g_iloadN hG X0 hx (hb hby at_5) (pc' := 6) rfl rfl ?_
  show G (s₁.setTop (mkF m 6 #[.val (.int i0), .val (.int i1), .val (.int i2), .val (.int i3), .val (.int v2), .unset, .unset, .unset, .unset, .unset, .unset, .unset, .unset, .unset, .unset, .unset, .unset, .unset] [(.int i0)]))
  refine g_iconst hG X0 hx (hb hby at_6) (pc' := 7) rfl (v := (2 : Int32)) rfl ?_
  show G (s₁.setTop (mkF m 7 #[.val (.int i0), .val (.int i1), .val (.int i2), .val (.int i3), .val (.int v2), .unset, .unset, .unset, .unset, .unset, .unset, .unset, .unset, .unset, .unset, .unset, .unset, .unset] [(.int 2), (.int i0)]))
  obtain ⟨v7, q7⟩ : ∃ zz : Int32, i0 >>> ((2 : Int32) &&& 31) = zz := ⟨_, rfl⟩
  refine g_ishr hG X0 hx (hb hby at_7) (pc' := 8) rfl q7 ?_
  show G (s₁.setTop (mkF m 8 #[.val (.int i0), .val (.int i1), .val (.int i2), .val (.int i3), .val (.int v2), .unset, .unset, .unset, .unset, .unset, .unset, .unset, .unset, .unset, .unset, .unset, .unset, .unset] [(.int v7)]))
  refine g_bipush hG X0 hx (hb hby at_8) (pc' := 10) rfl (v := (7 : Int32)) rfl ?_
  show G (s₁.setTop (mkF m 10 #[.val (.int i0), .val (.int i1), .val (.int i2), .val (.int i3), .val (.int v2), .unset, .unset, .unset, .unset, .unset, .unset, .unset, .unset, .unset, .unset, .unset, .unset, .unset] [(.int 7), (.int v7)]))
  obtain ⟨v10, q10⟩ : ∃ zz : Int32, v7 &&& (7 : Int32) = zz := ⟨_, rfl⟩
  refine g_iand hG X0 hx (hb hby at_10) (pc' := 11) rfl q10 ?_
  show G (s₁.setTop (mkF m 11 #[.val (.int i0), .val (.int i1), .val (.int i2), .val (.int i3), .val (.int v2), .unset, .unset, .unset, .unset, .unset, .unset, .unset, .unset, .unset, .unset, .unset, .unset, .unset] [(.int v10)]))
  refine g_iconst hG X0 hx (hb hby at_11) (pc' := 12) rfl (v := (4 : Int32)) rfl ?_
  show G (s₁.setTop (mkF m 12 #[.val (.int i0), .val (.int i1), .val (.int i2), .val (.int i3), .val (.int v2), .unset, .unset, .unset, .unset, .unset, .unset, .unset, .unset, .unset, .unset, .unset, .unset, .unset] [(.int 4), (.int v10)]))
  obtain ⟨v12, q12⟩ : ∃ zz : Int32, v10 - (4 : Int32) = zz := ⟨_, rfl⟩
  refine g_isub hG X0 hx (hb hby at_12) (pc' := 13) rfl q12 ?_
  show G (s₁.setTop (mkF m 13 #[.val (.int i0), .val (.int i1), .val (.int i2), .val (.int i3), .val (.int v2), .unset, .unset, .unset, .unset, .unset, .unset, .unset, .unset, .unset, .unset, .unset, .unset, .unset] [(.int v12)]))
  refine g_istore hG X0 hx (hb hby at_13) (pc' := 15) rfl (Ls' := #[.val (.int i0), .val (.int i1), .val (.int i2), .val (.int i3), .val (.int v2), .val (.int v12), .unset, .unset, .unset, .unset, .unset, .unset, .unset, .unset, .unset, .unset, .unset, .unset]) rfl ?_
  show G (s₁.setTop (mkF m 15 #[.val (.int i0), .val (.int i1), .val (.int i2), .val (.int i3), .val (.int v2), .val (.int v12), .unset, .unset, .unset, .unset, .unset, .unset, .unset, .unset, .unset, .unset, .unset, .unset] []))
  refine g_iloadN hG X0 hx (hb hby at_15) (pc' := 16) rfl rfl ?_
  show G (s₁.setTop (mkF m 16 #[.val (.int i0), .val (.int i1), .val (.int i2), .val (.int i3), .val (.int v2), .val (.int v12), .unset, .unset, .unset, .unset, .unset, .unset, .unset, .unset, .unset, .unset, .unset, .unset] [(.int i1)]))
  refine g_iconst hG X0 hx (hb hby at_16) (pc' := 17) rfl (v := (3 : Int32)) rfl ?_
  show G (s₁.setTop (mkF m 17 #[.val (.int i0), .val (.int i1), .val (.int i2), .val (.int i3), .val (.int v2), .val (.int v12), .unset, .unset, .unset, .unset, .unset, .unset, .unset, .unset, .unset, .unset, .unset, .unset] [(.int 3), (.int i1)]))
  obtain ⟨v17, q17⟩ : ∃ zz : Int32, i1 &&& (3 : Int32) = zz := ⟨_, rfl⟩
  refine g_iand hG X0 hx (hb hby at_17) (pc' := 18) rfl q17 ?_
  show G (s₁.setTop (mkF m 18 #[.val (.int i0), .val (.int i1), .val (.int i2), .val (.int i3), .val (.int v2), .val (.int v12), .unset, .unset, .unset, .unset, .unset, .unset, .unset, .unset, .unset, .unset, .unset, .unset] [(.int v17)]))
  refine g_istore hG X0 hx (hb hby at_18) (pc' := 20) rfl (Ls' := #[.val (.int i0), .val (.int i1), .val (.int i2), .val (.int i3), .val (.int v2), .val (.int v12), .val (.int v17), .unset, .unset, .unset, .unset, .unset, .unset, .unset, .unset, .unset, .unset, .unset]) rfl ?_
  show G (s₁.setTop (mkF m 20 #[.val (.int i0), .val (.int i1), .val (.int i2), .val (.int i3), .val (.int v2), .val (.int v12), .val (.int v17), .unset, .unset, .unset, .unset, .unset, .unset, .unset, .unset, .unset, .unset, .unset] []))
  refine g_iloadN hG X0 hx (hb hby at_20) (pc' := 21) rfl rfl ?_
  show G (s₁.setTop (mkF m 21 #[.val (.int i0), .val (.int i1), .val (.int i2), .val (.int i3), .val (.int v2), .val (.int v12), .val (.int v17), .unset, .unset, .unset, .unset, .unset, .unset, .unset, .unset, .unset, .unset, .unset] [(.int i1)]))
  refine g_iconst hG X0 hx (hb hby at_21) (pc' := 22) rfl (v := (2 : Int32)) rfl ?_
  show G (s₁.setTop (mkF m 22 #[.val (.int i0), .val (.int i1), .val (.int i2), .val (.int i3), .val (.int v2), .val (.int v12), .val (.int v17), .unset, .unset, .unset, .unset, .unset, .unset, .unset, .unset, .unset, .unset, .unset] [(.int 2), (.int i1)]))
  obtain ⟨v22, q22⟩ : ∃ zz : Int32, i1 >>> ((2 : Int32) &&& 31) = zz := ⟨_, rfl⟩
  refine g_ishr hG X0 hx (hb hby at_22) (pc' := 23) rfl q22 ?_
  show G (s₁.setTop (mkF m 23 #[.val (.int i0), .val (.int i1), .val (.int i2), .val (.int i3), .val (.int v2), .val (.int v12), .val (.int v17), .unset, .unset, .unset, .unset, .unset, .unset, .unset, .unset, .unset, .unset, .unset] [(.int v22)]))
  refine g_bipush hG X0 hx (hb hby at_23) (pc' := 25) rfl (v := (7 : Int32)) rfl ?_
  show G (s₁.setTop (mkF m 25 #[.val (.int i0), .val (.int i1), .val (.int i2), .val (.int i3), .val (.int v2), .val (.int v12), .val (.int v17), .unset, .unset, .unset, .unset, .unset, .unset, .unset, .unset, .unset, .unset, .unset] [(.int 7), (.int v22)]))
  obtain ⟨v25, q25⟩ : ∃ zz : Int32, v22 &&& (7 : Int32) = zz := ⟨_, rfl⟩
  refine g_iand hG X0 hx (hb hby at_25) (pc' := 26) rfl q25 ?_
  show G (s₁.setTop (mkF m 26 #[.val (.int i0), .val (.int i1), .val (.int i2), .val (.int i3), .val (.int v2), .val (.int v12), .val (.int v17), .unset, .unset, .unset, .unset, .unset, .unset, .unset, .unset, .unset, .unset, .unset] [(.int v25)]))
  refine g_iconst hG X0 hx (hb hby at_26) (pc' := 27) rfl (v := (4 : Int32)) rfl ?_
  show G (s₁.setTop (mkF m 27 #[.val (.int i0), .val (.int i1), .val (.int i2), .val (.int i3), .val (.int v2), .val (.int v12), .val (.int v17), .unset, .unset, .unset, .unset, .unset, .unset, .unset, .unset, .unset, .unset, .unset] [(.int 4), (.int v25)]))
  obtain ⟨v27, q27⟩ : ∃ zz : Int32, v25 - (4 : Int32) = zz := ⟨_, rfl⟩
  refine g_isub hG X0 hx (hb hby at_27) (pc' := 28) rfl q27 ?_
  show G (s₁.setTop (mkF m 28 #[.val (.int i0), .val (.int i1), .val (.int i2), .val (.int i3), .val (.int v2), .val (.int v12), .val (.int v17), .unset, .unset, .unset, .unset, .unset, .unset, .unset, .unset, .unset, .unset, .unset] [(.int v27)]))
  refine g_istore hG X0 hx (hb hby at_28) (pc' := 30) rfl (Ls' := #[.val (.int i0), .val (.int i1), .val (.int i2), .val (.int i3), .val (.int v2), .val (.int v12), .val (.int v17), .val (.int v27), .unset, .unset, .unset, .unset, .unset, .unset, .unset, .unset, .unset, .unset]) rfl ?_
  show G (s₁.setTop (mkF m 30 #[.val (.int i0), .val (.int i1), .val (.int i2), .val (.int i3), .val (.int v2), .val (.int v12), .val (.int v17), .val (.int v27), .unset, .unset, .unset, .unset, .unset, .unset, .unset, .unset, .unset, .unset] []))
  refine g_iloadN hG X0 hx (hb hby at_30) (pc' := 31) rfl rfl ?_
  show G (s₁.setTop (mkF m 31 #[.val (.int i0), .val (.int i1), .val (.int i2), .val (.int i3), .val (.int v2), .val (.int v12), .val (.int v17), .val (.int v27), .unset, .unset, .unset, .unset, .unset, .unset, .unset, .unset, .unset, .unset] [(.int i2)]))
  refine g_iconst hG X0 hx (hb hby at_31) (pc' := 32) rfl (v := (3 : Int32)) rfl ?_
  show G (s₁.setTop (mkF m 32 #[.val (.int i0), .val (.int i1), .val (.int i2), .val (.int i3), .val (.int v2), .val (.int v12), .val (.int v17), .val (.int v27), .unset, .unset, .unset, .unset, .unset, .unset, .unset, .unset, .unset, .unset] [(.int 3), (.int i2)]))
  obtain ⟨v32, q32⟩ : ∃ zz : Int32, i2 &&& (3 : Int32) = zz := ⟨_, rfl⟩
  refine g_iand hG X0 hx (hb hby at_32) (pc' := 33) rfl q32 ?_
  show G (s₁.setTop (mkF m 33 #[.val (.int i0), .val (.int i1), .val (.int i2), .val (.int i3), .val (.int v2), .val (.int v12), .val (.int v17), .val (.int v27), .unset, .unset, .unset, .unset, .unset, .unset, .unset, .unset, .unset, .unset] [(.int v32)]))
  refine g_istore hG X0 hx (hb hby at_33) (pc' := 35) rfl (Ls' := #[.val (.int i0), .val (.int i1), .val (.int i2), .val (.int i3), .val (.int v2), .val (.int v12), .val (.int v17), .val (.int v27), .val (.int v32), .unset, .unset, .unset, .unset, .unset, .unset, .unset, .unset, .unset]) rfl ?_
  show G (s₁.setTop (mkF m 35 #[.val (.int i0), .val (.int i1), .val (.int i2), .val (.int i3), .val (.int v2), .val (.int v12), .val (.int v17), .val (.int v27), .val (.int v32), .unset, .unset, .unset, .unset, .unset, .unset, .unset, .unset, .unset] []))
  refine g_iloadN hG X0 hx (hb hby at_35) (pc' := 36) rfl rfl ?_
  show G (s₁.setTop (mkF m 36 #[.val (.int i0), .val (.int i1), .val (.int i2), .val (.int i3), .val (.int v2), .val (.int v12), .val (.int v17), .val (.int v27), .val (.int v32), .unset, .unset, .unset, .unset, .unset, .unset, .unset, .unset, .unset] [(.int i2)]))
  refine g_iconst hG X0 hx (hb hby at_36) (pc' := 37) rfl (v := (2 : Int32)) rfl ?_
  show G (s₁.setTop (mkF m 37 #[.val (.int i0), .val (.int i1), .val (.int i2), .val (.int i3), .val (.int v2), .val (.int v12), .val (.int v17), .val (.int v27), .val (.int v32), .unset, .unset, .unset, .unset, .unset, .unset, .unset, .unset, .unset] [(.int 2), (.int i2)]))
  obtain ⟨v37, q37⟩ : ∃ zz : Int32, i2 >>> ((2 : Int32) &&& 31) = zz := ⟨_, rfl⟩
  refine g_ishr hG X0 hx (hb hby at_37) (pc' := 38) rfl q37 ?_
  show G (s₁.setTop (mkF m 38 #[.val (.int i0), .val (.int i1), .val (.int i2), .val (.int i3), .val (.int v2), .val (.int v12), .val (.int v17), .val (.int v27), .val (.int v32), .unset, .unset, .unset, .unset, .unset, .unset, .unset, .unset, .unset] [(.int v37)]))
  refine g_bipush hG X0 hx (hb hby at_38) (pc' := 40) rfl (v := (7 : Int32)) rfl ?_
  show G (s₁.setTop (mkF m 40 #[.val (.int i0), .val (.int i1), .val (.int i2), .val (.int i3), .val (.int v2), .val (.int v12), .val (.int v17), .val (.int v27), .val (.int v32), .unset, .unset, .unset, .unset, .unset, .unset, .unset, .unset, .unset] [(.int 7), (.int v37)]))
  obtain ⟨v40, q40⟩ : ∃ zz : Int32, v37 &&& (7 : Int32) = zz := ⟨_, rfl⟩
  refine g_iand hG X0 hx (hb hby at_40) (pc' := 41) rfl q40 ?_
  show G (s₁.setTop (mkF m 41 #[.val (.int i0), .val (.int i1), .val (.int i2), .val (.int i3), .val (.int v2), .val (.int v12), .val (.int v17), .val (.int v27), .val (.int v32), .unset, .unset, .unset, .unset, .unset, .unset, .unset, .unset, .unset] [(.int v40)]))
  refine g_iconst hG X0 hx (hb hby at_41) (pc' := 42) rfl (v := (4 : Int32)) rfl ?_
  show G (s₁.setTop (mkF m 42 #[.val (.int i0), .val (.int i1), .val (.int i2), .val (.int i3), .val (.int v2), .val (.int v12), .val (.int v17), .val (.int v27), .val (.int v32), .unset, .unset, .unset, .unset, .unset, .unset, .unset, .unset, .unset] [(.int 4), (.int v40)]))
  obtain ⟨v42, q42⟩ : ∃ zz : Int32, v40 - (4 : Int32) = zz := ⟨_, rfl⟩
  refine g_isub hG X0 hx (hb hby at_42) (pc' := 43) rfl q42 ?_
  show G (s₁.setTop (mkF m 43 #[.val (.int i0), .val (.int i1), .val (.int i2), .val (.int i3), .val (.int v2), .val (.int v12), .val (.int v17), .val (.int v27), .val (.int v32), .unset, .unset, .unset, .unset, .unset, .unset, .unset, .unset, .unset] [(.int v42)]))
  refine g_istore hG X0 hx (hb hby at_43) (pc' := 45) rfl (Ls' := #[.val (.int i0), .val (.int i1), .val (.int i2), .val (.int i3), .val (.int v2), .val (.int v12), .val (.int v17), .val (.int v27), .val (.int v32), .val (.int v42), .unset, .unset, .unset, .unset, .unset, .unset, .unset, .unset]) rfl ?_
  show G (s₁.setTop (mkF m 45 #[.val (.int i0), .val (.int i1), .val (.int i2), .val (.int i3), .val (.int v2), .val (.int v12), .val (.int v17), .val (.int v27), .val (.int v32), .val (.int v42), .unset, .unset, .unset, .unset, .unset, .unset, .unset, .unset] []))
  refine g_iloadN hG X0 hx (hb hby at_45) (pc' := 46) rfl rfl ?_
  show G (s₁.setTop (mkF m 46 #[.val (.int i0), .val (.int i1), .val (.int i2), .val (.int i3), .val (.int v2), .val (.int v12), .val (.int v17), .val (.int v27), .val (.int v32), .val (.int v42), .unset, .unset, .unset, .unset, .unset, .unset, .unset, .unset] [(.int i3)]))
  refine g_iconst hG X0 hx (hb hby at_46) (pc' := 47) rfl (v := (3 : Int32)) rfl ?_
  show G (s₁.setTop (mkF m 47 #[.val (.int i0), .val (.int i1), .val (.int i2), .val (.int i3), .val (.int v2), .val (.int v12), .val (.int v17), .val (.int v27), .val (.int v32), .val (.int v42), .unset, .unset, .unset, .unset, .unset, .unset, .unset, .unset] [(.int 3), (.int i3)]))
  obtain ⟨v47, q47⟩ : ∃ zz : Int32, i3 &&& (3 : Int32) = zz := ⟨_, rfl⟩
  refine g_iand hG X0 hx (hb hby at_47) (pc' := 48) rfl q47 ?_
  show G (s₁.setTop (mkF m 48 #[.val (.int i0), .val (.int i1), .val (.int i2), .val (.int i3), .val (.int v2), .val (.int v12), .val (.int v17), .val (.int v27), .val (.int v32), .val (.int v42), .unset, .unset, .unset, .unset, .unset, .unset, .unset, .unset] [(.int v47)]))
  refine g_istore hG X0 hx (hb hby at_48) (pc' := 50) rfl (Ls' := #[.val (.int i0), .val (.int i1), .val (.int i2), .val (.int i3), .val (.int v2), .val (.int v12), .val (.int v17), .val (.int v27), .val (.int v32), .val (.int v42), .val (.int v47), .unset, .unset, .unset, .unset, .unset, .unset, .unset]) rfl ?_
  show G (s₁.setTop (mkF m 50 #[.val (.int i0), .val (.int i1), .val (.int i2), .val (.int i3), .val (.int v2), .val (.int v12), .val (.int v17), .val (.int v27), .val (.int v32), .val (.int v42), .val (.int v47), .unset, .unset, .unset, .unset, .unset, .unset, .unset] []))
  refine g_iloadN hG X0 hx (hb hby at_50) (pc' := 51) rfl rfl ?_
  show G (s₁.setTop (mkF m 51 #[.val (.int i0), .val (.int i1), .val (.int i2), .val (.int i3), .val (.int v2), .val (.int v12), .val (.int v17), .val (.int v27), .val (.int v32), .val (.int v42), .val (.int v47), .unset, .unset, .unset, .unset, .unset, .unset, .unset] [(.int i3)]))
  refine g_iconst hG X0 hx (hb hby at_51) (pc' := 52) rfl (v := (2 : Int32)) rfl ?_
  show G (s₁.setTop (mkF m 52 #[.val (.int i0), .val (.int i1), .val (.int i2), .val (.int i3), .val (.int v2), .val (.int v12), .val (.int v17), .val (.int v27), .val (.int v32), .val (.int v42), .val (.int v47), .unset, .unset, .unset, .unset, .unset, .unset, .unset] [(.int 2), (.int i3)]))
  obtain ⟨v52, q52⟩ : ∃ zz : Int32, i3 >>> ((2 : Int32) &&& 31) = zz := ⟨_, rfl⟩
  refine g_ishr hG X0 hx (hb hby at_52) (pc' := 53) rfl q52 ?_
  show G (s₁.setTop (mkF m 53 #[.val (.int i0), .val (.int i1), .val (.int i2), .val (.int i3), .val (.int v2), .val (.int v12), .val (.int v17), .val (.int v27), .val (.int v32), .val (.int v42), .val (.int v47), .unset, .unset, .unset, .unset, .unset, .unset, .unset] [(.int v52)]))
  refine g_bipush hG X0 hx (hb hby at_53) (pc' := 55) rfl (v := (7 : Int32)) rfl ?_
  show G (s₁.setTop (mkF m 55 #[.val (.int i0), .val (.int i1), .val (.int i2), .val (.int i3), .val (.int v2), .val (.int v12), .val (.int v17), .val (.int v27), .val (.int v32), .val (.int v42), .val (.int v47), .unset, .unset, .unset, .unset, .unset, .unset, .unset] [(.int 7), (.int v52)]))
  obtain ⟨v55, q55⟩ : ∃ zz : Int32, v52 &&& (7 : Int32) = zz := ⟨_, rfl⟩
  refine g_iand hG X0 hx (hb hby at_55) (pc' := 56) rfl q55 ?_
  show G (s₁.setTop (mkF m 56 #[.val (.int i0), .val (.int i1), .val (.int i2), .val (.int i3), .val (.int v2), .val (.int v12), .val (.int v17), .val (.int v27), .val (.int v32), .val (.int v42), .val (.int v47), .unset, .unset, .unset, .unset, .unset, .unset, .unset] [(.int v55)]))
  refine g_iconst hG X0 hx (hb hby at_56) (pc' := 57) rfl (v := (4 : Int32)) rfl ?_
  show G (s₁.setTop (mkF m 57 #[.val (.int i0), .val (.int i1), .val (.int i2), .val (.int i3), .val (.int v2), .val (.int v12), .val (.int v17), .val (.int v27), .val (.int v32), .val (.int v42), .val (.int v47), .unset, .unset, .unset, .unset, .unset, .unset, .unset] [(.int 4), (.int v55)]))
  obtain ⟨v57, q57⟩ : ∃ zz : Int32, v55 - (4 : Int32) = zz := ⟨_, rfl⟩
  refine g_isub hG X0 hx (hb hby at_57) (pc' := 58) rfl q57 ?_
  show G (s₁.setTop (mkF m 58 #[.val (.int i0), .val (.int i1), .val (.int i2), .val (.int i3), .val (.int v2), .val (.int v12), .val (.int v17), .val (.int v27), .val (.int v32), .val (.int v42), .val (.int v47), .unset, .unset, .unset, .unset, .unset, .unset, .unset] [(.int v57)]))
  refine g_istore hG X0 hx (hb hby at_58) (pc' := 60) rfl (Ls' := #[.val (.int i0), .val (.int i1), .val (.int i2), .val (.int i3), .val (.int v2), .val (.int v12), .val (.int v17), .val (.int v27), .val (.int v32), .val (.int v42), .val (.int v47), .val (.int v57), .unset, .unset, .unset, .unset, .unset, .unset]) rfl ?_
  show G (s₁.setTop (mkF m 60 #[.val (.int i0), .val (.int i1), .val (.int i2), .val (.int i3), .val (.int v2), .val (.int v12), .val (.int v17), .val (.int v27), .val (.int v32), .val (.int v42), .val (.int v47), .val (.int v57), .unset, .unset, .unset, .unset, .unset, .unset] []))
  refine g_iconst hG X0 hx (hb hby at_60) (pc' := 61) rfl (v := (4 : Int32)) rfl ?_
  show G (s₁.setTop (mkF m 61 #[.val (.int i0), .val (.int i1), .val (.int i2), .val (.int i3), .val (.int v2), .val (.int v12), .val (.int v17), .val (.int v27), .val (.int v32), .val (.int v42), .val (.int v47), .val (.int v57), .unset, .unset, .unset, .unset, .unset, .unset] [(.int 4)]))
  refine g_newP hG X0 hx hZ (wd hw 0 rfl) e0 (hb hby at_61) (by decide) 4 (by decide) (by decide) (by decide) (by decide) (pc' := 63) rfl ?_
  intro T1 h1 zz kA1 gs1 X1 e1 E1 A1
  have ge_zz : n0 ≤ zz := gs1 ▸ Zs
  have Zs := Nat.le_trans Zs E1.1
  have V_zz : AV Z h1 zz .boolean (4 : Int32) [(.int 0), (.int 0), (.int 0), (.int 0)] := AV.new A1
  show G (T1.setTop (mkF m 63 #[.val (.int i0), .val (.int i1), .val (.int i2), .val (.int i3), .val (.int v2), .val (.int v12), .val (.int v17), .val (.int v27), .val (.int v32), .val (.int v42), .val (.int v47), .val (.int v57), .unset, .unset, .unset, .unset, .unset, .unset] [(.ref zz)]))
  refine g_astore hG X1 hx (hb hby at_63) (pc' := 65) rfl rfl (Ls' := #[.val (.int i0), .val (.int i1), .val (.int i2), .val (.int i3), .val (.int v2), .val (.int v12), .val (.int v17), .val (.int v27), .val (.int v32), .val (.int v42), .val (.int v47), .val (.int v57), .val (.ref zz), .unset, .unset, .unset, .unset, .unset]) rfl ?_
  show G (T1.setTop (mkF m 65 #[.val (.int i0), .val (.int i1), .val (.int i2), .val (.int i3), .val (.int v2), .val (.int v12), .val (.int v17), .val (.int v27), .val (.int v32), .val (.int v42), .val (.int v47), .val (.int v57), .val (.ref zz), .unset, .unset, .unset, .unset, .unset] []))
  refine g_iconst hG X1 hx (hb hby at_65) (pc' := 66) rfl (v := (4 : Int32)) rfl ?_
  show G (T1.setTop (mkF m 66 #[.val (.int i0), .val (.int i1), .val (.int i2), .val (.int i3), .val (.int v2), .val (.int v12), .val (.int v17), .val (.int v27), .val (.int v32), .val (.int v42), .val (.int v47), .val (.int v57), .val (.ref zz), .unset, .unset, .unset, .unset, .unset] [(.int 4)]))
  refine g_newP hG X1 hx hZ (wd hw 1 rfl) e1 (hb hby at_66) (by decide) 4 (by decide) (by decide) (by decide) (by decide) (pc' := 68) rfl ?_
  intro T2 h2 bb kA2 gs2 X2 e2 E2 A2
  have ne_zz_bb : zz ≠ bb := Nat.ne_of_lt (gs2 ▸ V_zz.lt)
  have ge_bb : n0 ≤ bb := gs2 ▸ Zs
  have Zs := Nat.le_trans Zs E2.1
  have V_zz := V_zz.ext E2
  have V_bb : AV Z h2 bb .int (4 : Int32) [(.int 0), (.int 0), (.int 0), (.int 0)] := AV.new A2
  show G (T2.setTop (mkF m 68 #[.val (.int i0), .val (.int i1), .val (.int i2), .val (.int i3), .val (.int v2), .val (.int v12), .val (.int v17), .val (.int v27), .val (.int v32), .val (.int v42), .val (.int v47), .val (.int v57), .val (.ref zz), .unset, .unset, .unset, .unset, .unset] [(.ref bb)]))
  refine g_astore hG X2 hx (hb hby at_68) (pc' := 70) rfl rfl (Ls' := #[.val (.int i0), .val (.int i1), .val (.int i2), .val (.int i3), .val (.int v2), .val (.int v12), .val (.int v17), .val (.int v27), .val (.int v32), .val (.int v42), .val (.int v47), .val (.int v57), .val (.ref zz), .val (.ref bb), .unset, .unset, .unset, .unset]) rfl ?_
  show G (T2.setTop (mkF m 70 #[.val (.int i0), .val (.int i1), .val (.int i2), .val (.int i3), .val (.int v2), .val (.int v12), .val (.int v17), .val (.int v27), .val (.int v32), .val (.int v42), .val (.int v47), .val (.int v57), .val (.ref zz), .val (.ref bb), .unset, .unset, .unset, .unset] []))
  refine g_iconst hG X2 hx (hb hby at_70) (pc' := 71) rfl (v := (4 : Int32)) rfl ?_
  show G (T2.setTop (mkF m 71 #[.val (.int i0), .val (.int i1), .val (.int i2), .val (.int i3), .val (.int v2), .val (.int v12), .val (.int v17), .val (.int v27), .val (.int v32), .val (.int v42), .val (.int v47), .val (.int v57), .val (.ref zz), .val (.ref bb), .unset, .unset, .unset, .unset] [(.int 4)]))
  refine g_newP hG X2 hx hZ (wd hw 1 rfl) e2 (hb hby at_71) (by decide) 4 (by decide) (by decide) (by decide) (by decide) (pc' := 73) rfl ?_
  intro T3 h3 xx kA3 gs3 X3 e3 E3 A3
  have ne_zz_xx : zz ≠ xx := Nat.ne_of_lt (gs3 ▸ V_zz.lt)
  have ne_bb_xx : bb ≠ xx := Nat.ne_of_lt (gs3 ▸ V_bb.lt)
  have ge_xx : n0 ≤ xx := gs3 ▸ Zs
  have Zs := Nat.le_trans Zs E3.1
  have V_zz := V_zz.ext E3
  have V_bb := V_bb.ext E3
  have V_xx : AV Z h3 xx .int (4 : Int32) [(.int 0), (.int 0), (.int 0), (.int 0)] := AV.new A3
  show G (T3.setTop (mkF m 73 #[.val (.int i0), .val (.int i1), .val (.int i2), .val (.int i3), .val (.int v2), .val (.int v12), .val (.int v17), .val (.int v27), .val (.int v32), .val (.int v42), .val (.int v47), .val (.int v57), .val (.ref zz), .val (.ref bb), .unset, .unset, .unset, .unset] [(.ref xx)]))
  refine g_dup hG X3 hx (hb hby at_73) (pc' := 74) rfl rfl ?_
  show G (T3.setTop (mkF m 74 #[.val (.int i0), .val (.int i1), .val (.int i2), .val (.int i3), .val (.int v2), .val (.int v12), .val (.int v17), .val (.int v27), .val (.int v32), .val (.int v42), .val (.int v47), .val (.int v57), .val (.ref zz), .val (.ref bb), .unset, .unset, .unset, .unset] [(.ref xx), (.ref xx)]))
  refine g_iconst hG X3 hx (hb hby at_74) (pc' := 75) rfl (v := (0 : Int32)) rfl ?_
  show G (T3.setTop (mkF m 75 #[.val (.int i0), .val (.int i1), .val (.int i2), .val (.int i3), .val (.int v2), .val (.int v12), .val (.int v17), .val (.int v27), .val (.int v32), .val (.int v42), .val (.int v47), .val (.int v57), .val (.ref zz), .val (.ref bb), .unset, .unset, .unset, .unset] [(.int 0), (.ref xx), (.ref xx)]))
  refine g_iconst hG X3 hx (hb hby at_75) (pc' := 76) rfl (v := (-1 : Int32)) rfl ?_
  show G (T3.setTop (mkF m 76 #[.val (.int i0), .val (.int i1), .val (.int i2), .val (.int i3), .val (.int v2), .val (.int v12), .val (.int v17), .val (.int v27), .val (.int v32), .val (.int v42), .val (.int v47), .val (.int v57), .val (.ref zz), .val (.ref bb), .unset, .unset, .unset, .unset] [(.int (-1)), (.int 0), (.ref xx), (.ref xx)]))
  refine g_iastore hG X3 hx hZ e3 V_xx (j := (0 : Int32)) (by decide) (show Int32.toNatClampNeg (0 : Int32) < 4 by decide) (hb hby at_76) (pc' := 77) rfl ?_
  intro T4 h4 X4 e4 W4 Vn4
  have V_xx : AV Z h4 xx .int (4 : Int32) [(.int (-1)), (.int 0), (.int 0), (.int 0)] := Vn4
  have V_zz := V_zz.other W4 ne_zz_xx
  have V_bb := V_bb.other W4 ne_bb_xx
  have Zs := Nat.le_trans Zs (Wr.size W4)
  have NF4 := Fr.snoc X4 NF0 ge_xx
  show G (T4.setTop (mkF m 77 #[.val (.int i0), .val (.int i1), .val (.int i2), .val (.int i3), .val (.int v2), .val (.int v12), .val (.int v17), .val (.int v27), .val (.int v32), .val (.int v42), .val (.int v47), .val (.int v57), .val (.ref zz), .val (.ref bb), .unset, .unset, .unset, .unset] [(.ref xx)]))
  refine g_dup hG X4 hx (hb hby at_77) (pc' := 78) rfl rfl ?_
  show G (T4.setTop (mkF m 78 #[.val (.int i0), .val (.int i1), .val (.int i2), .val (.int i3), .val (.int v2), .val (.int v12), .val (.int v17), .val (.int v27), .val (.int v32), .val (.int v42), .val (.int v47), .val (.int v57), .val (.ref zz), .val (.ref bb), .unset, .unset, .unset, .unset] [(.ref xx), (.ref xx)]))
  refine g_iconst hG X4 hx (hb hby at_78) (pc' := 79) rfl (v := (1 : Int32)) rfl ?_
  show G (T4.setTop (mkF m 79 #[.val (.int i0), .val (.int i1), .val (.int i2), .val (.int i3), .val (.int v2), .val (.int v12), .val (.int v17), .val (.int v27), .val (.int v32), .val (.int v42), .val (.int v47), .val (.int v57), .val (.ref zz), .val (.ref bb), .unset, .unset, .unset, .unset] [(.int 1), (.ref xx), (.ref xx)]))
  refine g_iconst hG X4 hx (hb hby at_79) (pc' := 80) rfl (v := (-1 : Int32)) rfl ?_
  show G (T4.setTop (mkF m 80 #[.val (.int i0), .val (.int i1), .val (.int i2), .val (.int i3), .val (.int v2), .val (.int v12), .val (.int v17), .val (.int v27), .val (.int v32), .val (.int v42), .val (.int v47), .val (.int v57), .val (.ref zz), .val (.ref bb), .unset, .unset, .unset, .unset] [(.int (-1)), (.int 1), (.ref xx), (.ref xx)]))
  refine g_iastore hG X4 hx hZ e4 V_xx (j := (1 : Int32)) (by decide) (show Int32.toNatClampNeg (1 : Int32) < 4 by decide) (hb hby at_80) (pc' := 81) rfl ?_
  intro T5 h5 X5 e5 W5 Vn5
  have V_xx : AV Z h5 xx .int (4 : Int32) [(.int (-1)), (.int (-1)), (.int 0), (.int 0)] := Vn5
  have V_zz := V_zz.other W5 ne_zz_xx
  have V_bb := V_bb.other W5 ne_bb_xx
  have Zs := Nat.le_trans Zs (Wr.size W5)
  have NF5 := Fr.snoc X5 NF4 ge_xx
  show G (T5.setTop (mkF m 81 #[.val (.int i0), .val (.int i1), .val (.int i2), .val (.int i3), .val (.int v2), .val (.int v12), .val (.int v17), .val (.int v27), .val (.int v32), .val (.int v42), .val (.int v47), .val (.int v57), .val (.ref zz), .val (.ref bb), .unset, .unset, .unset, .unset] [(.ref xx)]))
  refine g_dup hG X5 hx (hb hby at_81) (pc' := 82) rfl rfl ?_
  show G (T5.setTop (mkF m 82 #[.val (.int i0), .val (.int i1), .val (.int i2), .val (.int i3), .val (.int v2), .val (.int v12), .val (.int v17), .val (.int v27), .val (.int v32), .val (.int v42), .val (.int v47), .val (.int v57), .val (.ref zz), .val (.ref bb), .unset, .unset, .unset, .unset] [(.ref xx), (.ref xx)]))
  refine g_iconst hG X5 hx (hb hby at_82) (pc' := 83) rfl (v := (2 : Int32)) rfl ?_
  show G (T5.setTop (mkF m 83 #[.val (.int i0), .val (.int i1), .val (.int i2), .val (.int i3), .val (.int v2), .val (.int v12), .val (.int v17), .val (.int v27), .val (.int v32), .val (.int v42), .val (.int v47), .val (.int v57), .val (.ref zz), .val (.ref bb), .unset, .unset, .unset, .unset] [(.int 2), (.ref xx), (.ref xx)]))
  refine g_iconst hG X5 hx (hb hby at_83) (pc' := 84) rfl (v := (-1 : Int32)) rfl ?_
  show G (T5.setTop (mkF m 84 #[.val (.int i0), .val (.int i1), .val (.int i2), .val (.int i3), .val (.int v2), .val (.int v12), .val (.int v17), .val (.int v27), .val (.int v32), .val (.int v42), .val (.int v47), .val (.int v57), .val (.ref zz), .val (.ref bb), .unset, .unset, .unset, .unset] [(.int (-1)), (.int 2), (.ref xx), (.ref xx)]))
  refine g_iastore hG X5 hx hZ e5 V_xx (j := (2 : Int32)) (by decide) (show Int32.toNatClampNeg (2 : Int32) < 4 by decide) (hb hby at_84) (pc' := 85) rfl ?_
  intro T6 h6 X6 e6 W6 Vn6
  have V_xx : AV Z h6 xx .int (4 : Int32) [(.int (-1)), (.int (-1)), (.int (-1)), (.int 0)] := Vn6
  have V_zz := V_zz.other W6 ne_zz_xx
  have V_bb := V_bb.other W6 ne_bb_xx
  have Zs := Nat.le_trans Zs (Wr.size W6)
  have NF6 := Fr.snoc X6 NF5 ge_xx
  show G (T6.setTop (mkF m 85 #[.val (.int i0), .val (.int i1), .val (.int i2), .val (.int i3), .val (.int v2), .val (.int v12), .val (.int v17), .val (.int v27), .val (.int v32), .val (.int v42), .val (.int v47), .val (.int v57), .val (.ref zz), .val (.ref bb), .unset, .unset, .unset, .unset] [(.ref xx)]))
  refine g_dup hG X6 hx (hb hby at_85) (pc' := 86) rfl rfl ?_
  show G (T6.setTop (mkF m 86 #[.val (.int i0), .val (.int i1), .val (.int i2), .val (.int i3), .val (.int v2), .val (.int v12), .val (.int v17), .val (.int v27), .val (.int v32), .val (.int v42), .val (.int v47), .val (.int v57), .val (.ref zz), .val (.ref bb), .unset, .unset, .unset, .unset] [(.ref xx), (.ref xx)]))
  refine g_iconst hG X6 hx (hb hby at_86) (pc' := 87) rfl (v := (3 : Int32)) rfl ?_
  show G (T6.setTop (mkF m 87 #[.val (.int i0), .val (.int i1), .val (.int i2), .val (.int i3), .val (.int v2), .val (.int v12), .val (.int v17), .val (.int v27), .val (.int v32), .val (.int v42), .val (.int v47), .val (.int v57), .val (.ref zz), .val (.ref bb), .unset, .unset, .unset, .unset] [(.int 3), (.ref xx), (.ref xx)]))
  refine g_iconst hG X6 hx (hb hby at_87) (pc' := 88) rfl (v := (-1 : Int32)) rfl ?_
  show G (T6.setTop (mkF m 88 #[.val (.int i0), .val (.int i1), .val (.int i2), .val (.int i3), .val (.int v2), .val (.int v12), .val (.int v17), .val (.int v27), .val (.int v32), .val (.int v42), .val (.int v47), .val (.int v57), .val (.ref zz), .val (.ref bb), .unset, .unset, .unset, .unset] [(.int (-1)), (.int 3), (.ref xx), (.ref xx)]))
  refine g_iastore hG X6 hx hZ e6 V_xx (j := (3 : Int32)) (by decide) (show Int32.toNatClampNeg (3 : Int32) < 4 by decide) (hb hby at_88) (pc' := 89) rfl ?_
  intro T7 h7 X7 e7 W7 Vn7
  have V_xx : AV Z h7 xx .int (4 : Int32) [(.int (-1)), (.int (-1)), (.int (-1)), (.int (-1))] := Vn7
  have V_zz := V_zz.other W7 ne_zz_xx
  have V_bb := V_bb.other W7 ne_bb_xx
  have Zs := Nat.le_trans Zs (Wr.size W7)
  have NF7 := Fr.snoc X7 NF6 ge_xx
  show G (T7.setTop (mkF m 89 #[.val (.int i0), .val (.int i1), .val (.int i2), .val (.int i3), .val (.int v2), .val (.int v12), .val (.int v17), .val (.int v27), .val (.int v32), .val (.int v42), .val (.int v47), .val (.int v57), .val (.ref zz), .val (.ref bb), .unset, .unset, .unset, .unset] [(.ref xx)]))
  refine g_astore hG X7 hx (hb hby at_89) (pc' := 91) rfl rfl (Ls' := #[.val (.int i0), .val (.int i1), .val (.int i2), .val (.int i3), .val (.int v2), .val (.int v12), .val (.int v17), .val (.int v27), .val (.int v32), .val (.int v42), .val (.int v47), .val (.int v57), .val (.ref zz), .val (.ref bb), .val (.ref xx), .unset, .unset, .unset]) rfl ?_
  show G (T7.setTop (mkF m 91 #[.val (.int i0), .val (.int i1), .val (.int i2), .val (.int i3), .val (.int v2), .val (.int v12), .val (.int v17), .val (.int v27), .val (.int v32), .val (.int v42), .val (.int v47), .val (.int v57), .val (.ref zz), .val (.ref bb), .val (.ref xx), .unset, .unset, .unset] []))
  have V_zz : AV Z h7 zz .boolean (4 : Int32) (fn4 (bz (fun _ => false))) := V_zz
  have V_bb : AV Z h7 bb .int (4 : Int32) (fn4 (fun _ => 0)) := V_bb
  have V_xx : AV Z h7 xx .int (4 : Int32) (fn4 (fun _ => -1)) := V_xx
  have ix0 : In4 v2 := by rw [← q2]; exact own_and3 _
  have ix1 : In4 v17 := by rw [← q17]; exact own_and3 _
  have ix2 : In4 v32 := by rw [← q32]; exact own_and3 _
  have ix3 : In4 v47 := by rw [← q47]; exact own_and3 _
  obtain ⟨z1, hz1⟩ : ∃ t, ntZ (fun _ => false) (fun _ => 0) v2 v12 = t := ⟨_, rfl⟩
  obtain ⟨B1, hB1⟩ : ∃ t, ntB (fun _ => false) (fun _ => 0) v2 v12 = t := ⟨_, rfl⟩
  obtain ⟨z2, hz2⟩ : ∃ t, ntZ z1 B1 v17 v27 = t := ⟨_, rfl⟩
  obtain ⟨B2, hB2⟩ : ∃ t, ntB z1 B1 v17 v27 = t := ⟨_, rfl⟩
  obtain ⟨z3, hz3⟩ : ∃ t, ntZ z2 B2 v32 v42 = t := ⟨_, rfl⟩
  obtain ⟨B3, hB3⟩ : ∃ t, ntB z2 B2 v32 v42 = t := ⟨_, rfl⟩
  obtain ⟨z4, hz4⟩ : ∃ t, ntZ z3 B3 v47 v57 = t := ⟨_, rfl⟩
  obtain ⟨B4, hB4⟩ : ∃ t, ntB z3 B3 v47 v57 = t := ⟨_, rfl⟩
  refine g_newO hG X7 hx hZ hown (wd hw 2 rfl) (wd hw 3 rfl) (wd hw 4 rfl) e7 (hb hby at_91) (by decide) (by decide) (pc' := 94) rfl ?_
  intro T8 h8 a gs8 X8 e8 E8 Aq8 Dq8
  have ne_zz_a : zz ≠ a := Nat.ne_of_lt (gs8 ▸ V_zz.lt)
  have ne_bb_a : bb ≠ a := Nat.ne_of_lt (gs8 ▸ V_bb.lt)
  have ne_xx_a : xx ≠ a := Nat.ne_of_lt (gs8 ▸ V_xx.lt)
  have ge_a : n0 ≤ a := gs8 ▸ Zs
  have Zs := Nat.le_trans Zs E8.1
  have V_zz := V_zz.ext E8
  have V_bb := V_bb.ext E8
  have V_xx := V_xx.ext E8
  have Ex_a := Aq8
  have F_heap_a : Fld Z h8 a "com/example/tributary/tributary/plan/NodeHeap" "heap" "[I" .null := Dq8 (Or.inr (wd hw 12 rfl)) (ty := (.array .int)) (by decide)
  have F_position_a : Fld Z h8 a "com/example/tributary/tributary/plan/NodeHeap" "position" "[I" .null := Dq8 (Or.inr (wd hw 14 rfl)) (ty := (.array .int)) (by decide)
  have F_key_a : Fld Z h8 a "com/example/tributary/tributary/plan/NodeHeap" "key" "[D" .null := Dq8 (Or.inr (wd hw 17 rfl)) (ty := (.array .double)) (by decide)
  have F_size_a : Fld Z h8 a "com/example/tributary/tributary/plan/NodeHeap" "size" "I" (.int 0) := Dq8 (Or.inl (wd hw 28 rfl)) (ty := .int) (by decide)
  show G (T8.setTop (mkF m 94 #[.val (.int i0), .val (.int i1), .val (.int i2), .val (.int i3), .val (.int v2), .val (.int v12), .val (.int v17), .val (.int v27), .val (.int v32), .val (.int v42), .val (.int v47), .val (.int v57), .val (.ref zz), .val (.ref bb), .val (.ref xx), .unset, .unset, .unset] [(.ref a)]))
  refine g_dup hG X8 hx (hb hby at_94) (pc' := 95) rfl rfl ?_
  show G (T8.setTop (mkF m 95 #[.val (.int i0), .val (.int i1), .val (.int i2), .val (.int i3), .val (.int v2), .val (.int v12), .val (.int v17), .val (.int v27), .val (.int v32), .val (.int v42), .val (.int v47), .val (.int v57), .val (.ref zz), .val (.ref bb), .val (.ref xx), .unset, .unset, .unset] [(.ref a), (.ref a)]))
  refine g_iconst hG X8 hx (hb hby at_95) (pc' := 96) rfl (v := (4 : Int32)) rfl ?_
  show G (T8.setTop (mkF m 96 #[.val (.int i0), .val (.int i1), .val (.int i2), .val (.int i3), .val (.int v2), .val (.int v12), .val (.int v17), .val (.int v27), .val (.int v32), .val (.int v42), .val (.int v47), .val (.int v57), .val (.ref zz), .val (.ref bb), .val (.ref xx), .unset, .unset, .unset] [(.int 4), (.ref a), (.ref a)]))
  have lt_a := Ex_a.lt
  have lt_zz := V_zz.lt
  have lt_bb := V_bb.lt
  have lt_xx := V_xx.lt
  refine g_callI hG X8 hx hZ (y := (⟨"com/example/tributary/tributary/plan/NodeHeap", "<init>", "(I)V"⟩ : MethodName)) 1 rfl hown (wd hw 5 rfl) (wd hw 6 rfl) (wd hw 4 rfl) (wd hw 7 rfl) (by decide) (rmNew l Z a0 hw [] a h8 n0 Zs ge_a Ex_a F_heap_a F_position_a F_key_a F_size_a) (by decide) (by decide) (by rw [hml]; rfl) pd_3 rfl (argsL := [(.int 4)]) (rest := [(.ref a)]) rfl rfl (Nat.le_of_eq rfl) (hb hby at_96) e8 (by decide) (by decide) (pc' := 99) rfl ?_
  intro T9 rv9 L9 X9 hQ9
  obtain ⟨hp, pp, ky, rfl, Nq9, Kq9, sz_hp, sz_pp, sz_ky, d4, d5, d6, Ex_a, F_heap_a, F_position_a, F_key_a, F_size_a, V_hp, V_pp, V_ky⟩ := hQ9
  have NF9 := Fr.app NF7 Nq9
  have ghp : n0 ≤ hp := Nat.le_trans Zs sz_hp
  have d1 : a ≠ hp := Nat.ne_of_lt (Nat.lt_of_lt_of_le lt_a sz_hp)
  have dzhp : zz ≠ hp := Nat.ne_of_lt (Nat.lt_of_lt_of_le lt_zz sz_hp)
  have dbhp : bb ≠ hp := Nat.ne_of_lt (Nat.lt_of_lt_of_le lt_bb sz_hp)
  have dxhp : xx ≠ hp := Nat.ne_of_lt (Nat.lt_of_lt_of_le lt_xx sz_hp)
  have gpp : n0 ≤ pp := Nat.le_trans Zs sz_pp
  have d2 : a ≠ pp := Nat.ne_of_lt (Nat.lt_of_lt_of_le lt_a sz_pp)
  have dzpp : zz ≠ pp := Nat.ne_of_lt (Nat.lt_of_lt_of_le lt_zz sz_pp)
  have dbpp : bb ≠ pp := Nat.ne_of_lt (Nat.lt_of_lt_of_le lt_bb sz_pp)
  have dxpp : xx ≠ pp := Nat.ne_of_lt (Nat.lt_of_lt_of_le lt_xx sz_pp)
  have gky : n0 ≤ ky := Nat.le_trans Zs sz_ky
  have d3 : a ≠ ky := Nat.ne_of_lt (Nat.lt_of_lt_of_le lt_a sz_ky)
  have dzky : zz ≠ ky := Nat.ne_of_lt (Nat.lt_of_lt_of_le lt_zz sz_ky)
  have dbky : bb ≠ ky := Nat.ne_of_lt (Nat.lt_of_lt_of_le lt_bb sz_ky)
  have dxky : xx ≠ ky := Nat.ne_of_lt (Nat.lt_of_lt_of_le lt_xx sz_ky)
  have ga := ge_a
  have V_zz := V_zz.keep Kq9 (ninS ne_zz_a nin0)
  have V_bb := V_bb.keep Kq9 (ninS ne_bb_a nin0)
  have V_xx := V_xx.keep Kq9 (ninS ne_xx_a nin0)
  have Zs := Nat.le_trans Zs Kq9.1
  have SS := own_St0
  show G (T9.setTop (mkF m 99 #[.val (.int i0), .val (.int i1), .val (.int i2), .val (.int i3), .val (.int v2), .val (.int v12), .val (.int v17), .val (.int v27), .val (.int v32), .val (.int v42), .val (.int v47), .val (.int v57), .val (.ref zz), .val (.ref bb), .val (.ref xx), .unset, .unset, .unset] [(.ref a)]))
  refine g_astore hG X9 hx (hb hby at_99) (pc' := 101) rfl rfl (Ls' := #[.val (.int i0), .val (.int i1), .val (.int i2), .val (.int i3), .val (.int v2), .val (.int v12), .val (.int v17), .val (.int v27), .val (.int v32), .val (.int v42), .val (.int v47), .val (.int v57), .val (.ref zz), .val (.ref bb), .val (.ref xx), .val (.ref a), .unset, .unset]) rfl ?_
  show G (T9.setTop (mkF m 101 #[.val (.int i0), .val (.int i1), .val (.int i2), .val (.int i3), .val (.int v2), .val (.int v12), .val (.int v17), .val (.int v27), .val (.int v32), .val (.int v42), .val (.int v47), .val (.int v57), .val (.ref zz), .val (.ref bb), .val (.ref xx), .val (.ref a), .unset, .unset] []))
  refine g_aload hG X9 hx (hb hby at_101) (pc' := 103) rfl rfl rfl ?_
  show G (T9.setTop (mkF m 103 #[.val (.int i0), .val (.int i1), .val (.int i2), .val (.int i3), .val (.int v2), .val (.int v12), .val (.int v17), .val (.int v27), .val (.int v32), .val (.int v42), .val (.int v47), .val (.int v57), .val (.ref zz), .val (.ref bb), .val (.ref xx), .val (.ref a), .unset, .unset] [(.ref a)]))
  refine g_iload hG X9 hx (hb hby at_103) (pc' := 105) rfl rfl ?_
  show G (T9.setTop (mkF m 105 #[.val (.int i0), .val (.int i1), .val (.int i2), .val (.int i3), .val (.int v2), .val (.int v12), .val (.int v17), .val (.int v27), .val (.int v32), .val (.int v42), .val (.int v47), .val (.int v57), .val (.ref zz), .val (.ref bb), .val (.ref xx), .val (.ref a), .unset, .unset] [(.int v2), (.ref a)]))
  refine g_iload hG X9 hx (hb hby at_105) (pc' := 107) rfl rfl ?_
  show G (T9.setTop (mkF m 107 #[.val (.int i0), .val (.int i1), .val (.int i2), .val (.int i3), .val (.int v2), .val (.int v12), .val (.int v17), .val (.int v27), .val (.int v32), .val (.int v42), .val (.int v47), .val (.int v57), .val (.ref zz), .val (.ref bb), .val (.ref xx), .val (.ref a), .unset, .unset] [(.int v12), (.int v2), (.ref a)]))
  obtain ⟨v107, q107⟩ : ∃ zz : UInt64, FP.i2d v12 = zz := ⟨_, rfl⟩
  refine g_i2d hG X9 hx (hb hby at_107) (pc' := 108) rfl q107 ?_
  show G (T9.setTop (mkF m 108 #[.val (.int i0), .val (.int i1), .val (.int i2), .val (.int i3), .val (.int v2), .val (.int v12), .val (.int v17), .val (.int v27), .val (.int v32), .val (.int v42), .val (.int v47), .val (.int v57), .val (.ref zz), .val (.ref bb), .val (.ref xx), .val (.ref a), .unset, .unset] [(.double v107), (.int v2), (.ref a)]))
  have hk0 : OwnFl.DV v107 (v12.toInt : Rat) := by rw [← q107]; exact OwnFl.i2d_DV v12
  refine g_callV hG X9 hx hZ (y := (⟨"com/example/tributary/tributary/plan/NodeHeap", "offer", "(ID)V"⟩ : MethodName)) 0 hown (wd hw 22 rfl) (wd hw 23 rfl) (wd hw 25 rfl) (wd hw 24 rfl) (wd hw 4 rfl) (wd hw 26 rfl) (by decide) (rmOA l Z a0 hw [] a hp pp ky (0 : Int32) zq zk (fun _ => false) (fun _ => 0) 0 v2 v12 v107 T9.heap n0 Zs ⟨Ex_a, F_heap_a, F_position_a, F_key_a, F_size_a, V_hp, V_pp, V_ky⟩ ⟨ga, ghp, gpp, gky, d1, d2, d3, d4, d5, d6⟩ ix0 hk0 SS (by decide)) (by decide) (by decide) (by rw [hml]; rfl) pd_6 rfl (argsL := [(.int v2), (.double v107)]) (rest := []) rfl rfl (Nat.le_of_eq rfl) (hb hby at_108) rfl Ex_a (by decide) (by decide) (pc' := 111) rfl ?_
  intro T10 rv10 L10 X10 hQ10
  obtain ⟨sz1, q1h, K1h, rfl, Nq10, Kq10, ⟨Ex_a, F_heap_a, F_position_a, F_key_a, F_size_a, V_hp, V_pp, V_ky⟩, SS⟩ := hQ10
  have NF10 := Fr.app NF9 Nq10
  have V_zz := V_zz.keep Kq10 (ninS ne_zz_a (ninS dzhp (ninS dzpp (ninS dzky nin0))))
  have V_bb := V_bb.keep Kq10 (ninS ne_bb_a (ninS dbhp (ninS dbpp (ninS dbky nin0))))
  have V_xx := V_xx.keep Kq10 (ninS ne_xx_a (ninS dxhp (ninS dxpp (ninS dxky nin0))))
  have Zs := Nat.le_trans Zs Kq10.1
  rw [hz1, hB1] at SS
  show G (T10.setTop (mkF m 111 #[.val (.int i0), .val (.int i1), .val (.int i2), .val (.int i3), .val (.int v2), .val (.int v12), .val (.int v17), .val (.int v27), .val (.int v32), .val (.int v42), .val (.int v47), .val (.int v57), .val (.ref zz), .val (.ref bb), .val (.ref xx), .val (.ref a), .unset, .unset] []))
  refine g_aload hG X10 hx (hb hby at_111) (pc' := 113) rfl rfl rfl ?_
  show G (T10.setTop (mkF m 113 #[.val (.int i0), .val (.int i1), .val (.int i2), .val (.int i3), .val (.int v2), .val (.int v12), .val (.int v17), .val (.int v27), .val (.int v32), .val (.int v42), .val (.int v47), .val (.int v57), .val (.ref zz), .val (.ref bb), .val (.ref xx), .val (.ref a), .unset, .unset] [(.ref a)]))
  refine g_iload hG X10 hx (hb hby at_113) (pc' := 115) rfl rfl ?_
  show G (T10.setTop (mkF m 115 #[.val (.int i0), .val (.int i1), .val (.int i2), .val (.int i3), .val (.int v2), .val (.int v12), .val (.int v17), .val (.int v27), .val (.int v32), .val (.int v42), .val (.int v47), .val (.int v57), .val (.ref zz), .val (.ref bb), .val (.ref xx), .val (.ref a), .unset, .unset] [(.int v17), (.ref a)]))
  refine g_iload hG X10 hx (hb hby at_115) (pc' := 117) rfl rfl ?_
  show G (T10.setTop (mkF m 117 #[.val (.int i0), .val (.int i1), .val (.int i2), .val (.int i3), .val (.int v2), .val (.int v12), .val (.int v17), .val (.int v27), .val (.int v32), .val (.int v42), .val (.int v47), .val (.int v57), .val (.ref zz), .val (.ref bb), .val (.ref xx), .val (.ref a), .unset, .unset] [(.int v27), (.int v17), (.ref a)]))
  obtain ⟨v117, q117⟩ : ∃ zz : UInt64, FP.i2d v27 = zz := ⟨_, rfl⟩
  refine g_i2d hG X10 hx (hb hby at_117) (pc' := 118) rfl q117 ?_
  show G (T10.setTop (mkF m 118 #[.val (.int i0), .val (.int i1), .val (.int i2), .val (.int i3), .val (.int v2), .val (.int v12), .val (.int v17), .val (.int v27), .val (.int v32), .val (.int v42), .val (.int v47), .val (.int v57), .val (.ref zz), .val (.ref bb), .val (.ref xx), .val (.ref a), .unset, .unset] [(.double v117), (.int v17), (.ref a)]))
  have hk1 : OwnFl.DV v117 (v27.toInt : Rat) := by rw [← q117]; exact OwnFl.i2d_DV v27
  refine g_callV hG X10 hx hZ (y := (⟨"com/example/tributary/tributary/plan/NodeHeap", "offer", "(ID)V"⟩ : MethodName)) 0 hown (wd hw 22 rfl) (wd hw 23 rfl) (wd hw 25 rfl) (wd hw 24 rfl) (wd hw 4 rfl) (wd hw 26 rfl) (by decide) (rmOA l Z a0 hw [] a hp pp ky sz1 q1h K1h z1 B1 1 v17 v27 v117 T10.heap n0 Zs ⟨Ex_a, F_heap_a, F_position_a, F_key_a, F_size_a, V_hp, V_pp, V_ky⟩ ⟨ga, ghp, gpp, gky, d1, d2, d3, d4, d5, d6⟩ ix1 hk1 SS (by decide)) (by decide) (by decide) (by rw [hml]; rfl) pd_6 rfl (argsL := [(.int v17), (.double v117)]) (rest := []) rfl rfl (Nat.le_of_eq rfl) (hb hby at_118) rfl Ex_a (by decide) (by decide) (pc' := 121) rfl ?_
  intro T11 rv11 L11 X11 hQ11
  obtain ⟨sz2, q2h, K2h, rfl, Nq11, Kq11, ⟨Ex_a, F_heap_a, F_position_a, F_key_a, F_size_a, V_hp, V_pp, V_ky⟩, SS⟩ := hQ11
  have NF11 := Fr.app NF10 Nq11
  have V_zz := V_zz.keep Kq11 (ninS ne_zz_a (ninS dzhp (ninS dzpp (ninS dzky nin0))))
  have V_bb := V_bb.keep Kq11 (ninS ne_bb_a (ninS dbhp (ninS dbpp (ninS dbky nin0))))
  have V_xx := V_xx.keep Kq11 (ninS ne_xx_a (ninS dxhp (ninS dxpp (ninS dxky nin0))))
  have Zs := Nat.le_trans Zs Kq11.1
  rw [hz2, hB2] at SS
  show G (T11.setTop (mkF m 121 #[.val (.int i0), .val (.int i1), .val (.int i2), .val (.int i3), .val (.int v2), .val (.int v12), .val (.int v17), .val (.int v27), .val (.int v32), .val (.int v42), .val (.int v47), .val (.int v57), .val (.ref zz), .val (.ref bb), .val (.ref xx), .val (.ref a), .unset, .unset] []))
  refine g_aload hG X11 hx (hb hby at_121) (pc' := 123) rfl rfl rfl ?_
  show G (T11.setTop (mkF m 123 #[.val (.int i0), .val (.int i1), .val (.int i2), .val (.int i3), .val (.int v2), .val (.int v12), .val (.int v17), .val (.int v27), .val (.int v32), .val (.int v42), .val (.int v47), .val (.int v57), .val (.ref zz), .val (.ref bb), .val (.ref xx), .val (.ref a), .unset, .unset] [(.ref a)]))
  refine g_iload hG X11 hx (hb hby at_123) (pc' := 125) rfl rfl ?_
  show G (T11.setTop (mkF m 125 #[.val (.int i0), .val (.int i1), .val (.int i2), .val (.int i3), .val (.int v2), .val (.int v12), .val (.int v17), .val (.int v27), .val (.int v32), .val (.int v42), .val (.int v47), .val (.int v57), .val (.ref zz), .val (.ref bb), .val (.ref xx), .val (.ref a), .unset, .unset] [(.int v32), (.ref a)]))
  refine g_iload hG X11 hx (hb hby at_125) (pc' := 127) rfl rfl ?_
  show G (T11.setTop (mkF m 127 #[.val (.int i0), .val (.int i1), .val (.int i2), .val (.int i3), .val (.int v2), .val (.int v12), .val (.int v17), .val (.int v27), .val (.int v32), .val (.int v42), .val (.int v47), .val (.int v57), .val (.ref zz), .val (.ref bb), .val (.ref xx), .val (.ref a), .unset, .unset] [(.int v42), (.int v32), (.ref a)]))
  obtain ⟨v127, q127⟩ : ∃ zz : UInt64, FP.i2d v42 = zz := ⟨_, rfl⟩
  refine g_i2d hG X11 hx (hb hby at_127) (pc' := 128) rfl q127 ?_
  show G (T11.setTop (mkF m 128 #[.val (.int i0), .val (.int i1), .val (.int i2), .val (.int i3), .val (.int v2), .val (.int v12), .val (.int v17), .val (.int v27), .val (.int v32), .val (.int v42), .val (.int v47), .val (.int v57), .val (.ref zz), .val (.ref bb), .val (.ref xx), .val (.ref a), .unset, .unset] [(.double v127), (.int v32), (.ref a)]))
  have hk2 : OwnFl.DV v127 (v42.toInt : Rat) := by rw [← q127]; exact OwnFl.i2d_DV v42
  refine g_callV hG X11 hx hZ (y := (⟨"com/example/tributary/tributary/plan/NodeHeap", "offer", "(ID)V"⟩ : MethodName)) 0 hown (wd hw 22 rfl) (wd hw 23 rfl) (wd hw 25 rfl) (wd hw 24 rfl) (wd hw 4 rfl) (wd hw 26 rfl) (by decide) (rmOA l Z a0 hw [] a hp pp ky sz2 q2h K2h z2 B2 2 v32 v42 v127 T11.heap n0 Zs ⟨Ex_a, F_heap_a, F_position_a, F_key_a, F_size_a, V_hp, V_pp, V_ky⟩ ⟨ga, ghp, gpp, gky, d1, d2, d3, d4, d5, d6⟩ ix2 hk2 SS (by decide)) (by decide) (by decide) (by rw [hml]; rfl) pd_6 rfl (argsL := [(.int v32), (.double v127)]) (rest := []) rfl rfl (Nat.le_of_eq rfl) (hb hby at_128) rfl Ex_a (by decide) (by decide) (pc' := 131) rfl ?_
  intro T12 rv12 L12 X12 hQ12
  obtain ⟨sz3, q3h, K3h, rfl, Nq12, Kq12, ⟨Ex_a, F_heap_a, F_position_a, F_key_a, F_size_a, V_hp, V_pp, V_ky⟩, SS⟩ := hQ12
  have NF12 := Fr.app NF11 Nq12
  have V_zz := V_zz.keep Kq12 (ninS ne_zz_a (ninS dzhp (ninS dzpp (ninS dzky nin0))))
  have V_bb := V_bb.keep Kq12 (ninS ne_bb_a (ninS dbhp (ninS dbpp (ninS dbky nin0))))
  have V_xx := V_xx.keep Kq12 (ninS ne_xx_a (ninS dxhp (ninS dxpp (ninS dxky nin0))))
  have Zs := Nat.le_trans Zs Kq12.1
  rw [hz3, hB3] at SS
  show G (T12.setTop (mkF m 131 #[.val (.int i0), .val (.int i1), .val (.int i2), .val (.int i3), .val (.int v2), .val (.int v12), .val (.int v17), .val (.int v27), .val (.int v32), .val (.int v42), .val (.int v47), .val (.int v57), .val (.ref zz), .val (.ref bb), .val (.ref xx), .val (.ref a), .unset, .unset] []))
  refine g_aload hG X12 hx (hb hby at_131) (pc' := 133) rfl rfl rfl ?_
  show G (T12.setTop (mkF m 133 #[.val (.int i0), .val (.int i1), .val (.int i2), .val (.int i3), .val (.int v2), .val (.int v12), .val (.int v17), .val (.int v27), .val (.int v32), .val (.int v42), .val (.int v47), .val (.int v57), .val (.ref zz), .val (.ref bb), .val (.ref xx), .val (.ref a), .unset, .unset] [(.ref a)]))
  refine g_iload hG X12 hx (hb hby at_133) (pc' := 135) rfl rfl ?_
  show G (T12.setTop (mkF m 135 #[.val (.int i0), .val (.int i1), .val (.int i2), .val (.int i3), .val (.int v2), .val (.int v12), .val (.int v17), .val (.int v27), .val (.int v32), .val (.int v42), .val (.int v47), .val (.int v57), .val (.ref zz), .val (.ref bb), .val (.ref xx), .val (.ref a), .unset, .unset] [(.int v47), (.ref a)]))
  refine g_iload hG X12 hx (hb hby at_135) (pc' := 137) rfl rfl ?_
  show G (T12.setTop (mkF m 137 #[.val (.int i0), .val (.int i1), .val (.int i2), .val (.int i3), .val (.int v2), .val (.int v12), .val (.int v17), .val (.int v27), .val (.int v32), .val (.int v42), .val (.int v47), .val (.int v57), .val (.ref zz), .val (.ref bb), .val (.ref xx), .val (.ref a), .unset, .unset] [(.int v57), (.int v47), (.ref a)]))
  obtain ⟨v137, q137⟩ : ∃ zz : UInt64, FP.i2d v57 = zz := ⟨_, rfl⟩
  refine g_i2d hG X12 hx (hb hby at_137) (pc' := 138) rfl q137 ?_
  show G (T12.setTop (mkF m 138 #[.val (.int i0), .val (.int i1), .val (.int i2), .val (.int i3), .val (.int v2), .val (.int v12), .val (.int v17), .val (.int v27), .val (.int v32), .val (.int v42), .val (.int v47), .val (.int v57), .val (.ref zz), .val (.ref bb), .val (.ref xx), .val (.ref a), .unset, .unset] [(.double v137), (.int v47), (.ref a)]))
  have hk3 : OwnFl.DV v137 (v57.toInt : Rat) := by rw [← q137]; exact OwnFl.i2d_DV v57
  refine g_callV hG X12 hx hZ (y := (⟨"com/example/tributary/tributary/plan/NodeHeap", "offer", "(ID)V"⟩ : MethodName)) 0 hown (wd hw 22 rfl) (wd hw 23 rfl) (wd hw 25 rfl) (wd hw 24 rfl) (wd hw 4 rfl) (wd hw 26 rfl) (by decide) (rmOA l Z a0 hw [] a hp pp ky sz3 q3h K3h z3 B3 3 v47 v57 v137 T12.heap n0 Zs ⟨Ex_a, F_heap_a, F_position_a, F_key_a, F_size_a, V_hp, V_pp, V_ky⟩ ⟨ga, ghp, gpp, gky, d1, d2, d3, d4, d5, d6⟩ ix3 hk3 SS (by decide)) (by decide) (by decide) (by rw [hml]; rfl) pd_6 rfl (argsL := [(.int v47), (.double v137)]) (rest := []) rfl rfl (Nat.le_of_eq rfl) (hb hby at_138) rfl Ex_a (by decide) (by decide) (pc' := 141) rfl ?_
  intro T13 rv13 L13 X13 hQ13
  obtain ⟨sz4, q4h, K4h, rfl, Nq13, Kq13, ⟨Ex_a, F_heap_a, F_position_a, F_key_a, F_size_a, V_hp, V_pp, V_ky⟩, SS⟩ := hQ13
  have NF13 := Fr.app NF12 Nq13
  have V_zz := V_zz.keep Kq13 (ninS ne_zz_a (ninS dzhp (ninS dzpp (ninS dzky nin0))))
  have V_bb := V_bb.keep Kq13 (ninS ne_bb_a (ninS dbhp (ninS dbpp (ninS dbky nin0))))
  have V_xx := V_xx.keep Kq13 (ninS ne_xx_a (ninS dxhp (ninS dxpp (ninS dxky nin0))))
  have Zs := Nat.le_trans Zs Kq13.1
  rw [hz4, hB4] at SS
  show G (T13.setTop (mkF m 141 #[.val (.int i0), .val (.int i1), .val (.int i2), .val (.int i3), .val (.int v2), .val (.int v12), .val (.int v17), .val (.int v27), .val (.int v32), .val (.int v42), .val (.int v47), .val (.int v57), .val (.ref zz), .val (.ref bb), .val (.ref xx), .val (.ref a), .unset, .unset] []))
  refine g_aload hG X13 hx (hb hby at_141) (pc' := 143) rfl rfl rfl ?_
  show G (T13.setTop (mkF m 143 #[.val (.int i0), .val (.int i1), .val (.int i2), .val (.int i3), .val (.int v2), .val (.int v12), .val (.int v17), .val (.int v27), .val (.int v32), .val (.int v42), .val (.int v47), .val (.int v57), .val (.ref zz), .val (.ref bb), .val (.ref xx), .val (.ref a), .unset, .unset] [(.ref zz)]))
  refine g_aload hG X13 hx (hb hby at_143) (pc' := 145) rfl rfl rfl ?_
  show G (T13.setTop (mkF m 145 #[.val (.int i0), .val (.int i1), .val (.int i2), .val (.int i3), .val (.int v2), .val (.int v12), .val (.int v17), .val (.int v27), .val (.int v32), .val (.int v42), .val (.int v47), .val (.int v57), .val (.ref zz), .val (.ref bb), .val (.ref xx), .val (.ref a), .unset, .unset] [(.ref bb), (.ref zz)]))
  refine g_iload hG X13 hx (hb hby at_145) (pc' := 147) rfl rfl ?_
  show G (T13.setTop (mkF m 147 #[.val (.int i0), .val (.int i1), .val (.int i2), .val (.int i3), .val (.int v2), .val (.int v12), .val (.int v17), .val (.int v27), .val (.int v32), .val (.int v42), .val (.int v47), .val (.int v57), .val (.ref zz), .val (.ref bb), .val (.ref xx), .val (.ref a), .unset, .unset] [(.int v2), (.ref bb), (.ref zz)]))
  refine g_iload hG X13 hx (hb hby at_147) (pc' := 149) rfl rfl ?_
  show G (T13.setTop (mkF m 149 #[.val (.int i0), .val (.int i1), .val (.int i2), .val (.int i3), .val (.int v2), .val (.int v12), .val (.int v17), .val (.int v27), .val (.int v32), .val (.int v42), .val (.int v47), .val (.int v57), .val (.ref zz), .val (.ref bb), .val (.ref xx), .val (.ref a), .unset, .unset] [(.int v12), (.int v2), (.ref bb), (.ref zz)]))
  refine g_callS hG X13 hx hZ (y := (⟨"com/example/tributary/tributary/plan/NodeHeapOfferPinLaw", "note", "([Z[III)V"⟩ : MethodName)) 0 hown (wd hw 41 rfl) (wd hw 42 rfl) (wd hw 43 rfl) (wd hw 44 rfl) (by decide) (rmNt l Z a0 hw [] zz bb (fun _ => false) (fun _ => 0) v2 v12 T13.heap n0 Zs ge_zz ge_bb ne_zz_bb V_zz V_bb ix0) (by decide) (by decide) (by rw [hml]; rfl) pd_7 rfl (argsL := [(.ref zz), (.ref bb), (.int v2), (.int v12)]) (rest := []) rfl rfl (Nat.le_of_eq rfl) (hb hby at_149) rfl (by decide) (by decide) (pc' := 152) rfl ?_
  intro T14 rv14 L14 X14 hQ14
  obtain ⟨rfl, Nq14, Kq14, V_zz, V_bb⟩ := hQ14
  have NF14 := Fr.app NF13 Nq14
  rw [hz1] at V_zz
  rw [hB1] at V_bb
  have V_xx := V_xx.keep Kq14 (ninS (Ne.symm ne_zz_xx) (ninS (Ne.symm ne_bb_xx) nin0))
  have Ex_a := Ex_a.keep Kq14
  have F_heap_a := F_heap_a.keep Kq14 (ninS (Ne.symm ne_zz_a) (ninS (Ne.symm ne_bb_a) nin0))
  have F_position_a := F_position_a.keep Kq14 (ninS (Ne.symm ne_zz_a) (ninS (Ne.symm ne_bb_a) nin0))
  have F_key_a := F_key_a.keep Kq14 (ninS (Ne.symm ne_zz_a) (ninS (Ne.symm ne_bb_a) nin0))
  have F_size_a := F_size_a.keep Kq14 (ninS (Ne.symm ne_zz_a) (ninS (Ne.symm ne_bb_a) nin0))
  have V_hp := V_hp.keep Kq14 (ninS (Ne.symm dzhp) (ninS (Ne.symm dbhp) nin0))
  have V_pp := V_pp.keep Kq14 (ninS (Ne.symm dzpp) (ninS (Ne.symm dbpp) nin0))
  have V_ky := V_ky.keep Kq14 (ninS (Ne.symm dzky) (ninS (Ne.symm dbky) nin0))
  have Zs := Nat.le_trans Zs Kq14.1
  show G (T14.setTop (mkF m 152 #[.val (.int i0), .val (.int i1), .val (.int i2), .val (.int i3), .val (.int v2), .val (.int v12), .val (.int v17), .val (.int v27), .val (.int v32), .val (.int v42), .val (.int v47), .val (.int v57), .val (.ref zz), .val (.ref bb), .val (.ref xx), .val (.ref a), .unset, .unset] []))
  refine g_aload hG X14 hx (hb hby at_152) (pc' := 154) rfl rfl rfl ?_
  show G (T14.setTop (mkF m 154 #[.val (.int i0), .val (.int i1), .val (.int i2), .val (.int i3), .val (.int v2), .val (.int v12), .val (.int v17), .val (.int v27), .val (.int v32), .val (.int v42), .val (.int v47), .val (.int v57), .val (.ref zz), .val (.ref bb), .val (.ref xx), .val (.ref a), .unset, .unset] [(.ref zz)]))
  refine g_aload hG X14 hx (hb hby at_154) (pc' := 156) rfl rfl rfl ?_
  show G (T14.setTop (mkF m 156 #[.val (.int i0), .val (.int i1), .val (.int i2), .val (.int i3), .val (.int v2), .val (.int v12), .val (.int v17), .val (.int v27), .val (.int v32), .val (.int v42), .val (.int v47), .val (.int v57), .val (.ref zz), .val (.ref bb), .val (.ref xx), .val (.ref a), .unset, .unset] [(.ref bb), (.ref zz)]))
  refine g_iload hG X14 hx (hb hby at_156) (pc' := 158) rfl rfl ?_
  show G (T14.setTop (mkF m 158 #[.val (.int i0), .val (.int i1), .val (.int i2), .val (.int i3), .val (.int v2), .val (.int v12), .val (.int v17), .val (.int v27), .val (.int v32), .val (.int v42), .val (.int v47), .val (.int v57), .val (.ref zz), .val (.ref bb), .val (.ref xx), .val (.ref a), .unset, .unset] [(.int v17), (.ref bb), (.ref zz)]))
  refine g_iload hG X14 hx (hb hby at_158) (pc' := 160) rfl rfl ?_
  show G (T14.setTop (mkF m 160 #[.val (.int i0), .val (.int i1), .val (.int i2), .val (.int i3), .val (.int v2), .val (.int v12), .val (.int v17), .val (.int v27), .val (.int v32), .val (.int v42), .val (.int v47), .val (.int v57), .val (.ref zz), .val (.ref bb), .val (.ref xx), .val (.ref a), .unset, .unset] [(.int v27), (.int v17), (.ref bb), (.ref zz)]))
  refine g_callS hG X14 hx hZ (y := (⟨"com/example/tributary/tributary/plan/NodeHeapOfferPinLaw", "note", "([Z[III)V"⟩ : MethodName)) 0 hown (wd hw 41 rfl) (wd hw 42 rfl) (wd hw 43 rfl) (wd hw 44 rfl) (by decide) (rmNt l Z a0 hw [] zz bb z1 B1 v17 v27 T14.heap n0 Zs ge_zz ge_bb ne_zz_bb V_zz V_bb ix1) (by decide) (by decide) (by rw [hml]; rfl) pd_7 rfl (argsL := [(.ref zz), (.ref bb), (.int v17), (.int v27)]) (rest := []) rfl rfl (Nat.le_of_eq rfl) (hb hby at_160) rfl (by decide) (by decide) (pc' := 163) rfl ?_
  intro T15 rv15 L15 X15 hQ15
  obtain ⟨rfl, Nq15, Kq15, V_zz, V_bb⟩ := hQ15
  have NF15 := Fr.app NF14 Nq15
  rw [hz2] at V_zz
  rw [hB2] at V_bb
  have V_xx := V_xx.keep Kq15 (ninS (Ne.symm ne_zz_xx) (ninS (Ne.symm ne_bb_xx) nin0))
  have Ex_a := Ex_a.keep Kq15
  have F_heap_a := F_heap_a.keep Kq15 (ninS (Ne.symm ne_zz_a) (ninS (Ne.symm ne_bb_a) nin0))
  have F_position_a := F_position_a.keep Kq15 (ninS (Ne.symm ne_zz_a) (ninS (Ne.symm ne_bb_a) nin0))
  have F_key_a := F_key_a.keep Kq15 (ninS (Ne.symm ne_zz_a) (ninS (Ne.symm ne_bb_a) nin0))
  have F_size_a := F_size_a.keep Kq15 (ninS (Ne.symm ne_zz_a) (ninS (Ne.symm ne_bb_a) nin0))
  have V_hp := V_hp.keep Kq15 (ninS (Ne.symm dzhp) (ninS (Ne.symm dbhp) nin0))
  have V_pp := V_pp.keep Kq15 (ninS (Ne.symm dzpp) (ninS (Ne.symm dbpp) nin0))
  have V_ky := V_ky.keep Kq15 (ninS (Ne.symm dzky) (ninS (Ne.symm dbky) nin0))
  have Zs := Nat.le_trans Zs Kq15.1
  show G (T15.setTop (mkF m 163 #[.val (.int i0), .val (.int i1), .val (.int i2), .val (.int i3), .val (.int v2), .val (.int v12), .val (.int v17), .val (.int v27), .val (.int v32), .val (.int v42), .val (.int v47), .val (.int v57), .val (.ref zz), .val (.ref bb), .val (.ref xx), .val (.ref a), .unset, .unset] []))
  refine g_aload hG X15 hx (hb hby at_163) (pc' := 165) rfl rfl rfl ?_
  show G (T15.setTop (mkF m 165 #[.val (.int i0), .val (.int i1), .val (.int i2), .val (.int i3), .val (.int v2), .val (.int v12), .val (.int v17), .val (.int v27), .val (.int v32), .val (.int v42), .val (.int v47), .val (.int v57), .val (.ref zz), .val (.ref bb), .val (.ref xx), .val (.ref a), .unset, .unset] [(.ref zz)]))
  refine g_aload hG X15 hx (hb hby at_165) (pc' := 167) rfl rfl rfl ?_
  show G (T15.setTop (mkF m 167 #[.val (.int i0), .val (.int i1), .val (.int i2), .val (.int i3), .val (.int v2), .val (.int v12), .val (.int v17), .val (.int v27), .val (.int v32), .val (.int v42), .val (.int v47), .val (.int v57), .val (.ref zz), .val (.ref bb), .val (.ref xx), .val (.ref a), .unset, .unset] [(.ref bb), (.ref zz)]))
  refine g_iload hG X15 hx (hb hby at_167) (pc' := 169) rfl rfl ?_
  show G (T15.setTop (mkF m 169 #[.val (.int i0), .val (.int i1), .val (.int i2), .val (.int i3), .val (.int v2), .val (.int v12), .val (.int v17), .val (.int v27), .val (.int v32), .val (.int v42), .val (.int v47), .val (.int v57), .val (.ref zz), .val (.ref bb), .val (.ref xx), .val (.ref a), .unset, .unset] [(.int v32), (.ref bb), (.ref zz)]))
  refine g_iload hG X15 hx (hb hby at_169) (pc' := 171) rfl rfl ?_
  show G (T15.setTop (mkF m 171 #[.val (.int i0), .val (.int i1), .val (.int i2), .val (.int i3), .val (.int v2), .val (.int v12), .val (.int v17), .val (.int v27), .val (.int v32), .val (.int v42), .val (.int v47), .val (.int v57), .val (.ref zz), .val (.ref bb), .val (.ref xx), .val (.ref a), .unset, .unset] [(.int v42), (.int v32), (.ref bb), (.ref zz)]))
  refine g_callS hG X15 hx hZ (y := (⟨"com/example/tributary/tributary/plan/NodeHeapOfferPinLaw", "note", "([Z[III)V"⟩ : MethodName)) 0 hown (wd hw 41 rfl) (wd hw 42 rfl) (wd hw 43 rfl) (wd hw 44 rfl) (by decide) (rmNt l Z a0 hw [] zz bb z2 B2 v32 v42 T15.heap n0 Zs ge_zz ge_bb ne_zz_bb V_zz V_bb ix2) (by decide) (by decide) (by rw [hml]; rfl) pd_7 rfl (argsL := [(.ref zz), (.ref bb), (.int v32), (.int v42)]) (rest := []) rfl rfl (Nat.le_of_eq rfl) (hb hby at_171) rfl (by decide) (by decide) (pc' := 174) rfl ?_
  intro T16 rv16 L16 X16 hQ16
  obtain ⟨rfl, Nq16, Kq16, V_zz, V_bb⟩ := hQ16
  have NF16 := Fr.app NF15 Nq16
  rw [hz3] at V_zz
  rw [hB3] at V_bb
  have V_xx := V_xx.keep Kq16 (ninS (Ne.symm ne_zz_xx) (ninS (Ne.symm ne_bb_xx) nin0))
  have Ex_a := Ex_a.keep Kq16
  have F_heap_a := F_heap_a.keep Kq16 (ninS (Ne.symm ne_zz_a) (ninS (Ne.symm ne_bb_a) nin0))
  have F_position_a := F_position_a.keep Kq16 (ninS (Ne.symm ne_zz_a) (ninS (Ne.symm ne_bb_a) nin0))
  have F_key_a := F_key_a.keep Kq16 (ninS (Ne.symm ne_zz_a) (ninS (Ne.symm ne_bb_a) nin0))
  have F_size_a := F_size_a.keep Kq16 (ninS (Ne.symm ne_zz_a) (ninS (Ne.symm ne_bb_a) nin0))
  have V_hp := V_hp.keep Kq16 (ninS (Ne.symm dzhp) (ninS (Ne.symm dbhp) nin0))
  have V_pp := V_pp.keep Kq16 (ninS (Ne.symm dzpp) (ninS (Ne.symm dbpp) nin0))
  have V_ky := V_ky.keep Kq16 (ninS (Ne.symm dzky) (ninS (Ne.symm dbky) nin0))
  have Zs := Nat.le_trans Zs Kq16.1
  show G (T16.setTop (mkF m 174 #[.val (.int i0), .val (.int i1), .val (.int i2), .val (.int i3), .val (.int v2), .val (.int v12), .val (.int v17), .val (.int v27), .val (.int v32), .val (.int v42), .val (.int v47), .val (.int v57), .val (.ref zz), .val (.ref bb), .val (.ref xx), .val (.ref a), .unset, .unset] []))
  refine g_aload hG X16 hx (hb hby at_174) (pc' := 176) rfl rfl rfl ?_
  show G (T16.setTop (mkF m 176 #[.val (.int i0), .val (.int i1), .val (.int i2), .val (.int i3), .val (.int v2), .val (.int v12), .val (.int v17), .val (.int v27), .val (.int v32), .val (.int v42), .val (.int v47), .val (.int v57), .val (.ref zz), .val (.ref bb), .val (.ref xx), .val (.ref a), .unset, .unset] [(.ref zz)]))
  refine g_aload hG X16 hx (hb hby at_176) (pc' := 178) rfl rfl rfl ?_
  show G (T16.setTop (mkF m 178 #[.val (.int i0), .val (.int i1), .val (.int i2), .val (.int i3), .val (.int v2), .val (.int v12), .val (.int v17), .val (.int v27), .val (.int v32), .val (.int v42), .val (.int v47), .val (.int v57), .val (.ref zz), .val (.ref bb), .val (.ref xx), .val (.ref a), .unset, .unset] [(.ref bb), (.ref zz)]))
  refine g_iload hG X16 hx (hb hby at_178) (pc' := 180) rfl rfl ?_
  show G (T16.setTop (mkF m 180 #[.val (.int i0), .val (.int i1), .val (.int i2), .val (.int i3), .val (.int v2), .val (.int v12), .val (.int v17), .val (.int v27), .val (.int v32), .val (.int v42), .val (.int v47), .val (.int v57), .val (.ref zz), .val (.ref bb), .val (.ref xx), .val (.ref a), .unset, .unset] [(.int v47), (.ref bb), (.ref zz)]))
  refine g_iload hG X16 hx (hb hby at_180) (pc' := 182) rfl rfl ?_
  show G (T16.setTop (mkF m 182 #[.val (.int i0), .val (.int i1), .val (.int i2), .val (.int i3), .val (.int v2), .val (.int v12), .val (.int v17), .val (.int v27), .val (.int v32), .val (.int v42), .val (.int v47), .val (.int v57), .val (.ref zz), .val (.ref bb), .val (.ref xx), .val (.ref a), .unset, .unset] [(.int v57), (.int v47), (.ref bb), (.ref zz)]))
  refine g_callS hG X16 hx hZ (y := (⟨"com/example/tributary/tributary/plan/NodeHeapOfferPinLaw", "note", "([Z[III)V"⟩ : MethodName)) 0 hown (wd hw 41 rfl) (wd hw 42 rfl) (wd hw 43 rfl) (wd hw 44 rfl) (by decide) (rmNt l Z a0 hw [] zz bb z3 B3 v47 v57 T16.heap n0 Zs ge_zz ge_bb ne_zz_bb V_zz V_bb ix3) (by decide) (by decide) (by rw [hml]; rfl) pd_7 rfl (argsL := [(.ref zz), (.ref bb), (.int v47), (.int v57)]) (rest := []) rfl rfl (Nat.le_of_eq rfl) (hb hby at_182) rfl (by decide) (by decide) (pc' := 185) rfl ?_
  intro T17 rv17 L17 X17 hQ17
  obtain ⟨rfl, Nq17, Kq17, V_zz, V_bb⟩ := hQ17
  have NF17 := Fr.app NF16 Nq17
  rw [hz4] at V_zz
  rw [hB4] at V_bb
  have V_xx := V_xx.keep Kq17 (ninS (Ne.symm ne_zz_xx) (ninS (Ne.symm ne_bb_xx) nin0))
  have Ex_a := Ex_a.keep Kq17
  have F_heap_a := F_heap_a.keep Kq17 (ninS (Ne.symm ne_zz_a) (ninS (Ne.symm ne_bb_a) nin0))
  have F_position_a := F_position_a.keep Kq17 (ninS (Ne.symm ne_zz_a) (ninS (Ne.symm ne_bb_a) nin0))
  have F_key_a := F_key_a.keep Kq17 (ninS (Ne.symm ne_zz_a) (ninS (Ne.symm ne_bb_a) nin0))
  have F_size_a := F_size_a.keep Kq17 (ninS (Ne.symm ne_zz_a) (ninS (Ne.symm ne_bb_a) nin0))
  have V_hp := V_hp.keep Kq17 (ninS (Ne.symm dzhp) (ninS (Ne.symm dbhp) nin0))
  have V_pp := V_pp.keep Kq17 (ninS (Ne.symm dzpp) (ninS (Ne.symm dbpp) nin0))
  have V_ky := V_ky.keep Kq17 (ninS (Ne.symm dzky) (ninS (Ne.symm dbky) nin0))
  have Zs := Nat.le_trans Zs Kq17.1
  show G (T17.setTop (mkF m 185 #[.val (.int i0), .val (.int i1), .val (.int i2), .val (.int i3), .val (.int v2), .val (.int v12), .val (.int v17), .val (.int v27), .val (.int v32), .val (.int v42), .val (.int v47), .val (.int v57), .val (.ref zz), .val (.ref bb), .val (.ref xx), .val (.ref a), .unset, .unset] []))
  refine g_iconst hG X17 hx (hb hby at_185) (pc' := 186) rfl (v := (0 : Int32)) rfl ?_
  show G (T17.setTop (mkF m 186 #[.val (.int i0), .val (.int i1), .val (.int i2), .val (.int i3), .val (.int v2), .val (.int v12), .val (.int v17), .val (.int v27), .val (.int v32), .val (.int v42), .val (.int v47), .val (.int v57), .val (.ref zz), .val (.ref bb), .val (.ref xx), .val (.ref a), .unset, .unset] [(.int 0)]))
  refine g_istore hG X17 hx (hb hby at_186) (pc' := 188) rfl (Ls' := #[.val (.int i0), .val (.int i1), .val (.int i2), .val (.int i3), .val (.int v2), .val (.int v12), .val (.int v17), .val (.int v27), .val (.int v32), .val (.int v42), .val (.int v47), .val (.int v57), .val (.ref zz), .val (.ref bb), .val (.ref xx), .val (.ref a), .val (.int 0), .unset]) rfl ?_
  show G (T17.setTop (mkF m 188 #[.val (.int i0), .val (.int i1), .val (.int i2), .val (.int i3), .val (.int v2), .val (.int v12), .val (.int v17), .val (.int v27), .val (.int v32), .val (.int v42), .val (.int v47), .val (.int v57), .val (.ref zz), .val (.ref bb), .val (.ref xx), .val (.ref a), .val (.int 0), .unset] []))
  refine g_iload hG X17 hx (hb hby at_188) (pc' := 190) rfl rfl ?_
  show G (T17.setTop (mkF m 190 #[.val (.int i0), .val (.int i1), .val (.int i2), .val (.int i3), .val (.int v2), .val (.int v12), .val (.int v17), .val (.int v27), .val (.int v32), .val (.int v42), .val (.int v47), .val (.int v57), .val (.ref zz), .val (.ref bb), .val (.ref xx), .val (.ref a), .val (.int 0), .unset] [(.int 0)]))
  refine g_aload hG X17 hx (hb hby at_190) (pc' := 192) rfl rfl rfl ?_
  show G (T17.setTop (mkF m 192 #[.val (.int i0), .val (.int i1), .val (.int i2), .val (.int i3), .val (.int v2), .val (.int v12), .val (.int v17), .val (.int v27), .val (.int v32), .val (.int v42), .val (.int v47), .val (.int v57), .val (.ref zz), .val (.ref bb), .val (.ref xx), .val (.ref a), .val (.int 0), .unset] [(.ref zz), (.int 0)]))
  refine g_aload hG X17 hx (hb hby at_192) (pc' := 194) rfl rfl rfl ?_
  show G (T17.setTop (mkF m 194 #[.val (.int i0), .val (.int i1), .val (.int i2), .val (.int i3), .val (.int v2), .val (.int v12), .val (.int v17), .val (.int v27), .val (.int v32), .val (.int v42), .val (.int v47), .val (.int v57), .val (.ref zz), .val (.ref bb), .val (.ref xx), .val (.ref a), .val (.int 0), .unset] [(.ref bb), (.ref zz), (.int 0)]))
  refine g_aload hG X17 hx (hb hby at_194) (pc' := 196) rfl rfl rfl ?_
  show G (T17.setTop (mkF m 196 #[.val (.int i0), .val (.int i1), .val (.int i2), .val (.int i3), .val (.int v2), .val (.int v12), .val (.int v17), .val (.int v27), .val (.int v32), .val (.int v42), .val (.int v47), .val (.int v57), .val (.ref zz), .val (.ref bb), .val (.ref xx), .val (.ref a), .val (.int 0), .unset] [(.ref xx), (.ref bb), (.ref zz), (.int 0)]))
  refine g_iconst hG X17 hx (hb hby at_196) (pc' := 197) rfl (v := (0 : Int32)) rfl ?_
  show G (T17.setTop (mkF m 197 #[.val (.int i0), .val (.int i1), .val (.int i2), .val (.int i3), .val (.int v2), .val (.int v12), .val (.int v17), .val (.int v27), .val (.int v32), .val (.int v42), .val (.int v47), .val (.int v57), .val (.ref zz), .val (.ref bb), .val (.ref xx), .val (.ref a), .val (.int 0), .unset] [(.int 0), (.ref xx), (.ref bb), (.ref zz), (.int 0)]))
  obtain ⟨E1, hE1⟩ : ∃ t, ptE z4 (bi B4) (fun _ => -1) 0 = t := ⟨_, rfl⟩
  refine g_callS hG X17 hx hZ (y := (⟨"com/example/tributary/tributary/plan/NodeHeapOfferPinLaw", "put", "([Z[I[II)I"⟩ : MethodName)) 1 hown (wd hw 45 rfl) (wd hw 46 rfl) (wd hw 43 rfl) (wd hw 47 rfl) (by decide) (rmPt l Z a0 hw [] zz bb xx z4 B4 (fun _ => -1) (0 : Int32) T17.heap n0 Zs ge_xx ne_zz_xx ne_bb_xx V_zz V_bb V_xx in4_0) (by decide) (by decide) (by rw [hml]; rfl) pd_8 rfl (argsL := [(.ref zz), (.ref bb), (.ref xx), (.int 0)]) (rest := [(.int 0)]) rfl rfl (Nat.le_of_eq rfl) (hb hby at_197) rfl (by decide) (by decide) (pc' := 200) rfl ?_
  intro T18 rv18 L18 X18 hQ18
  obtain ⟨rfl, Nq18, Kq18, V_xx⟩ := hQ18
  have NF18 := Fr.app NF17 Nq18
  rw [hE1] at V_xx
  have V_zz := V_zz.keep Kq18 (ninS ne_zz_xx nin0)
  have V_bb := V_bb.keep Kq18 (ninS ne_bb_xx nin0)
  have Ex_a := Ex_a.keep Kq18
  have F_heap_a := F_heap_a.keep Kq18 (ninS (Ne.symm ne_xx_a) nin0)
  have F_position_a := F_position_a.keep Kq18 (ninS (Ne.symm ne_xx_a) nin0)
  have F_key_a := F_key_a.keep Kq18 (ninS (Ne.symm ne_xx_a) nin0)
  have F_size_a := F_size_a.keep Kq18 (ninS (Ne.symm ne_xx_a) nin0)
  have V_hp := V_hp.keep Kq18 (ninS (Ne.symm dxhp) nin0)
  have V_pp := V_pp.keep Kq18 (ninS (Ne.symm dxpp) nin0)
  have V_ky := V_ky.keep Kq18 (ninS (Ne.symm dxky) nin0)
  have Zs := Nat.le_trans Zs Kq18.1
  show G (T18.setTop (mkF m 200 #[.val (.int i0), .val (.int i1), .val (.int i2), .val (.int i3), .val (.int v2), .val (.int v12), .val (.int v17), .val (.int v27), .val (.int v32), .val (.int v42), .val (.int v47), .val (.int v57), .val (.ref zz), .val (.ref bb), .val (.ref xx), .val (.ref a), .val (.int 0), .unset] [(.int (b2i (z4 (0 : Int32)))), (.int 0)]))
  obtain ⟨v200, q200⟩ : ∃ zz : Int32, (0 : Int32) + (b2i (z4 (0 : Int32))) = zz := ⟨_, rfl⟩
  refine g_iadd hG X18 hx (hb hby at_200) (pc' := 201) rfl q200 ?_
  show G (T18.setTop (mkF m 201 #[.val (.int i0), .val (.int i1), .val (.int i2), .val (.int i3), .val (.int v2), .val (.int v12), .val (.int v17), .val (.int v27), .val (.int v32), .val (.int v42), .val (.int v47), .val (.int v57), .val (.ref zz), .val (.ref bb), .val (.ref xx), .val (.ref a), .val (.int 0), .unset] [(.int v200)]))
  refine g_istore hG X18 hx (hb hby at_201) (pc' := 203) rfl (Ls' := #[.val (.int i0), .val (.int i1), .val (.int i2), .val (.int i3), .val (.int v2), .val (.int v12), .val (.int v17), .val (.int v27), .val (.int v32), .val (.int v42), .val (.int v47), .val (.int v57), .val (.ref zz), .val (.ref bb), .val (.ref xx), .val (.ref a), .val (.int v200), .unset]) rfl ?_
  show G (T18.setTop (mkF m 203 #[.val (.int i0), .val (.int i1), .val (.int i2), .val (.int i3), .val (.int v2), .val (.int v12), .val (.int v17), .val (.int v27), .val (.int v32), .val (.int v42), .val (.int v47), .val (.int v57), .val (.ref zz), .val (.ref bb), .val (.ref xx), .val (.ref a), .val (.int v200), .unset] []))
  refine g_iload hG X18 hx (hb hby at_203) (pc' := 205) rfl rfl ?_
  show G (T18.setTop (mkF m 205 #[.val (.int i0), .val (.int i1), .val (.int i2), .val (.int i3), .val (.int v2), .val (.int v12), .val (.int v17), .val (.int v27), .val (.int v32), .val (.int v42), .val (.int v47), .val (.int v57), .val (.ref zz), .val (.ref bb), .val (.ref xx), .val (.ref a), .val (.int v200), .unset] [(.int v200)]))
  refine g_aload hG X18 hx (hb hby at_205) (pc' := 207) rfl rfl rfl ?_
  show G (T18.setTop (mkF m 207 #[.val (.int i0), .val (.int i1), .val (.int i2), .val (.int i3), .val (.int v2), .val (.int v12), .val (.int v17), .val (.int v27), .val (.int v32), .val (.int v42), .val (.int v47), .val (.int v57), .val (.ref zz), .val (.ref bb), .val (.ref xx), .val (.ref a), .val (.int v200), .unset] [(.ref zz), (.int v200)]))
  refine g_aload hG X18 hx (hb hby at_207) (pc' := 209) rfl rfl rfl ?_
  show G (T18.setTop (mkF m 209 #[.val (.int i0), .val (.int i1), .val (.int i2), .val (.int i3), .val (.int v2), .val (.int v12), .val (.int v17), .val (.int v27), .val (.int v32), .val (.int v42), .val (.int v47), .val (.int v57), .val (.ref zz), .val (.ref bb), .val (.ref xx), .val (.ref a), .val (.int v200), .unset] [(.ref bb), (.ref zz), (.int v200)]))
  refine g_aload hG X18 hx (hb hby at_209) (pc' := 211) rfl rfl rfl ?_
  show G (T18.setTop (mkF m 211 #[.val (.int i0), .val (.int i1), .val (.int i2), .val (.int i3), .val (.int v2), .val (.int v12), .val (.int v17), .val (.int v27), .val (.int v32), .val (.int v42), .val (.int v47), .val (.int v57), .val (.ref zz), .val (.ref bb), .val (.ref xx), .val (.ref a), .val (.int v200), .unset] [(.ref xx), (.ref bb), (.ref zz), (.int v200)]))
  refine g_iconst hG X18 hx (hb hby at_211) (pc' := 212) rfl (v := (1 : Int32)) rfl ?_
  show G (T18.setTop (mkF m 212 #[.val (.int i0), .val (.int i1), .val (.int i2), .val (.int i3), .val (.int v2), .val (.int v12), .val (.int v17), .val (.int v27), .val (.int v32), .val (.int v42), .val (.int v47), .val (.int v57), .val (.ref zz), .val (.ref bb), .val (.ref xx), .val (.ref a), .val (.int v200), .unset] [(.int 1), (.ref xx), (.ref bb), (.ref zz), (.int v200)]))
  obtain ⟨E2, hE2⟩ : ∃ t, ptE z4 (bi B4) E1 1 = t := ⟨_, rfl⟩
  refine g_callS hG X18 hx hZ (y := (⟨"com/example/tributary/tributary/plan/NodeHeapOfferPinLaw", "put", "([Z[I[II)I"⟩ : MethodName)) 1 hown (wd hw 45 rfl) (wd hw 46 rfl) (wd hw 43 rfl) (wd hw 47 rfl) (by decide) (rmPt l Z a0 hw [] zz bb xx z4 B4 E1 (1 : Int32) T18.heap n0 Zs ge_xx ne_zz_xx ne_bb_xx V_zz V_bb V_xx in4_1) (by decide) (by decide) (by rw [hml]; rfl) pd_8 rfl (argsL := [(.ref zz), (.ref bb), (.ref xx), (.int 1)]) (rest := [(.int v200)]) rfl rfl (Nat.le_of_eq rfl) (hb hby at_212) rfl (by decide) (by decide) (pc' := 215) rfl ?_
  intro T19 rv19 L19 X19 hQ19
  obtain ⟨rfl, Nq19, Kq19, V_xx⟩ := hQ19
  have NF19 := Fr.app NF18 Nq19
  rw [hE2] at V_xx
  have V_zz := V_zz.keep Kq19 (ninS ne_zz_xx nin0)
  have V_bb := V_bb.keep Kq19 (ninS ne_bb_xx nin0)
  have Ex_a := Ex_a.keep Kq19
  have F_heap_a := F_heap_a.keep Kq19 (ninS (Ne.symm ne_xx_a) nin0)
  have F_position_a := F_position_a.keep Kq19 (ninS (Ne.symm ne_xx_a) nin0)
  have F_key_a := F_key_a.keep Kq19 (ninS (Ne.symm ne_xx_a) nin0)
  have F_size_a := F_size_a.keep Kq19 (ninS (Ne.symm ne_xx_a) nin0)
  have V_hp := V_hp.keep Kq19 (ninS (Ne.symm dxhp) nin0)
  have V_pp := V_pp.keep Kq19 (ninS (Ne.symm dxpp) nin0)
  have V_ky := V_ky.keep Kq19 (ninS (Ne.symm dxky) nin0)
  have Zs := Nat.le_trans Zs Kq19.1
  show G (T19.setTop (mkF m 215 #[.val (.int i0), .val (.int i1), .val (.int i2), .val (.int i3), .val (.int v2), .val (.int v12), .val (.int v17), .val (.int v27), .val (.int v32), .val (.int v42), .val (.int v47), .val (.int v57), .val (.ref zz), .val (.ref bb), .val (.ref xx), .val (.ref a), .val (.int v200), .unset] [(.int (b2i (z4 (1 : Int32)))), (.int v200)]))
  obtain ⟨v215, q215⟩ : ∃ zz : Int32, v200 + (b2i (z4 (1 : Int32))) = zz := ⟨_, rfl⟩
  refine g_iadd hG X19 hx (hb hby at_215) (pc' := 216) rfl q215 ?_
  show G (T19.setTop (mkF m 216 #[.val (.int i0), .val (.int i1), .val (.int i2), .val (.int i3), .val (.int v2), .val (.int v12), .val (.int v17), .val (.int v27), .val (.int v32), .val (.int v42), .val (.int v47), .val (.int v57), .val (.ref zz), .val (.ref bb), .val (.ref xx), .val (.ref a), .val (.int v200), .unset] [(.int v215)]))
  refine g_istore hG X19 hx (hb hby at_216) (pc' := 218) rfl (Ls' := #[.val (.int i0), .val (.int i1), .val (.int i2), .val (.int i3), .val (.int v2), .val (.int v12), .val (.int v17), .val (.int v27), .val (.int v32), .val (.int v42), .val (.int v47), .val (.int v57), .val (.ref zz), .val (.ref bb), .val (.ref xx), .val (.ref a), .val (.int v215), .unset]) rfl ?_
  show G (T19.setTop (mkF m 218 #[.val (.int i0), .val (.int i1), .val (.int i2), .val (.int i3), .val (.int v2), .val (.int v12), .val (.int v17), .val (.int v27), .val (.int v32), .val (.int v42), .val (.int v47), .val (.int v57), .val (.ref zz), .val (.ref bb), .val (.ref xx), .val (.ref a), .val (.int v215), .unset] []))
  refine g_iload hG X19 hx (hb hby at_218) (pc' := 220) rfl rfl ?_
  show G (T19.setTop (mkF m 220 #[.val (.int i0), .val (.int i1), .val (.int i2), .val (.int i3), .val (.int v2), .val (.int v12), .val (.int v17), .val (.int v27), .val (.int v32), .val (.int v42), .val (.int v47), .val (.int v57), .val (.ref zz), .val (.ref bb), .val (.ref xx), .val (.ref a), .val (.int v215), .unset] [(.int v215)]))
  refine g_aload hG X19 hx (hb hby at_220) (pc' := 222) rfl rfl rfl ?_
  show G (T19.setTop (mkF m 222 #[.val (.int i0), .val (.int i1), .val (.int i2), .val (.int i3), .val (.int v2), .val (.int v12), .val (.int v17), .val (.int v27), .val (.int v32), .val (.int v42), .val (.int v47), .val (.int v57), .val (.ref zz), .val (.ref bb), .val (.ref xx), .val (.ref a), .val (.int v215), .unset] [(.ref zz), (.int v215)]))
  refine g_aload hG X19 hx (hb hby at_222) (pc' := 224) rfl rfl rfl ?_
  show G (T19.setTop (mkF m 224 #[.val (.int i0), .val (.int i1), .val (.int i2), .val (.int i3), .val (.int v2), .val (.int v12), .val (.int v17), .val (.int v27), .val (.int v32), .val (.int v42), .val (.int v47), .val (.int v57), .val (.ref zz), .val (.ref bb), .val (.ref xx), .val (.ref a), .val (.int v215), .unset] [(.ref bb), (.ref zz), (.int v215)]))
  refine g_aload hG X19 hx (hb hby at_224) (pc' := 226) rfl rfl rfl ?_
  show G (T19.setTop (mkF m 226 #[.val (.int i0), .val (.int i1), .val (.int i2), .val (.int i3), .val (.int v2), .val (.int v12), .val (.int v17), .val (.int v27), .val (.int v32), .val (.int v42), .val (.int v47), .val (.int v57), .val (.ref zz), .val (.ref bb), .val (.ref xx), .val (.ref a), .val (.int v215), .unset] [(.ref xx), (.ref bb), (.ref zz), (.int v215)]))
  refine g_iconst hG X19 hx (hb hby at_226) (pc' := 227) rfl (v := (2 : Int32)) rfl ?_
  show G (T19.setTop (mkF m 227 #[.val (.int i0), .val (.int i1), .val (.int i2), .val (.int i3), .val (.int v2), .val (.int v12), .val (.int v17), .val (.int v27), .val (.int v32), .val (.int v42), .val (.int v47), .val (.int v57), .val (.ref zz), .val (.ref bb), .val (.ref xx), .val (.ref a), .val (.int v215), .unset] [(.int 2), (.ref xx), (.ref bb), (.ref zz), (.int v215)]))
  obtain ⟨E3, hE3⟩ : ∃ t, ptE z4 (bi B4) E2 2 = t := ⟨_, rfl⟩
  refine g_callS hG X19 hx hZ (y := (⟨"com/example/tributary/tributary/plan/NodeHeapOfferPinLaw", "put", "([Z[I[II)I"⟩ : MethodName)) 1 hown (wd hw 45 rfl) (wd hw 46 rfl) (wd hw 43 rfl) (wd hw 47 rfl) (by decide) (rmPt l Z a0 hw [] zz bb xx z4 B4 E2 (2 : Int32) T19.heap n0 Zs ge_xx ne_zz_xx ne_bb_xx V_zz V_bb V_xx in4_2) (by decide) (by decide) (by rw [hml]; rfl) pd_8 rfl (argsL := [(.ref zz), (.ref bb), (.ref xx), (.int 2)]) (rest := [(.int v215)]) rfl rfl (Nat.le_of_eq rfl) (hb hby at_227) rfl (by decide) (by decide) (pc' := 230) rfl ?_
  intro T20 rv20 L20 X20 hQ20
  obtain ⟨rfl, Nq20, Kq20, V_xx⟩ := hQ20
  have NF20 := Fr.app NF19 Nq20
  rw [hE3] at V_xx
  have V_zz := V_zz.keep Kq20 (ninS ne_zz_xx nin0)
  have V_bb := V_bb.keep Kq20 (ninS ne_bb_xx nin0)
  have Ex_a := Ex_a.keep Kq20
  have F_heap_a := F_heap_a.keep Kq20 (ninS (Ne.symm ne_xx_a) nin0)
  have F_position_a := F_position_a.keep Kq20 (ninS (Ne.symm ne_xx_a) nin0)
  have F_key_a := F_key_a.keep Kq20 (ninS (Ne.symm ne_xx_a) nin0)
  have F_size_a := F_size_a.keep Kq20 (ninS (Ne.symm ne_xx_a) nin0)
  have V_hp := V_hp.keep Kq20 (ninS (Ne.symm dxhp) nin0)
  have V_pp := V_pp.keep Kq20 (ninS (Ne.symm dxpp) nin0)
  have V_ky := V_ky.keep Kq20 (ninS (Ne.symm dxky) nin0)
  have Zs := Nat.le_trans Zs Kq20.1
  show G (T20.setTop (mkF m 230 #[.val (.int i0), .val (.int i1), .val (.int i2), .val (.int i3), .val (.int v2), .val (.int v12), .val (.int v17), .val (.int v27), .val (.int v32), .val (.int v42), .val (.int v47), .val (.int v57), .val (.ref zz), .val (.ref bb), .val (.ref xx), .val (.ref a), .val (.int v215), .unset] [(.int (b2i (z4 (2 : Int32)))), (.int v215)]))
  obtain ⟨v230, q230⟩ : ∃ zz : Int32, v215 + (b2i (z4 (2 : Int32))) = zz := ⟨_, rfl⟩
  refine g_iadd hG X20 hx (hb hby at_230) (pc' := 231) rfl q230 ?_
  show G (T20.setTop (mkF m 231 #[.val (.int i0), .val (.int i1), .val (.int i2), .val (.int i3), .val (.int v2), .val (.int v12), .val (.int v17), .val (.int v27), .val (.int v32), .val (.int v42), .val (.int v47), .val (.int v57), .val (.ref zz), .val (.ref bb), .val (.ref xx), .val (.ref a), .val (.int v215), .unset] [(.int v230)]))
  refine g_istore hG X20 hx (hb hby at_231) (pc' := 233) rfl (Ls' := #[.val (.int i0), .val (.int i1), .val (.int i2), .val (.int i3), .val (.int v2), .val (.int v12), .val (.int v17), .val (.int v27), .val (.int v32), .val (.int v42), .val (.int v47), .val (.int v57), .val (.ref zz), .val (.ref bb), .val (.ref xx), .val (.ref a), .val (.int v230), .unset]) rfl ?_
  show G (T20.setTop (mkF m 233 #[.val (.int i0), .val (.int i1), .val (.int i2), .val (.int i3), .val (.int v2), .val (.int v12), .val (.int v17), .val (.int v27), .val (.int v32), .val (.int v42), .val (.int v47), .val (.int v57), .val (.ref zz), .val (.ref bb), .val (.ref xx), .val (.ref a), .val (.int v230), .unset] []))
  refine g_iload hG X20 hx (hb hby at_233) (pc' := 235) rfl rfl ?_
  show G (T20.setTop (mkF m 235 #[.val (.int i0), .val (.int i1), .val (.int i2), .val (.int i3), .val (.int v2), .val (.int v12), .val (.int v17), .val (.int v27), .val (.int v32), .val (.int v42), .val (.int v47), .val (.int v57), .val (.ref zz), .val (.ref bb), .val (.ref xx), .val (.ref a), .val (.int v230), .unset] [(.int v230)]))
  refine g_aload hG X20 hx (hb hby at_235) (pc' := 237) rfl rfl rfl ?_
  show G (T20.setTop (mkF m 237 #[.val (.int i0), .val (.int i1), .val (.int i2), .val (.int i3), .val (.int v2), .val (.int v12), .val (.int v17), .val (.int v27), .val (.int v32), .val (.int v42), .val (.int v47), .val (.int v57), .val (.ref zz), .val (.ref bb), .val (.ref xx), .val (.ref a), .val (.int v230), .unset] [(.ref zz), (.int v230)]))
  refine g_aload hG X20 hx (hb hby at_237) (pc' := 239) rfl rfl rfl ?_
  show G (T20.setTop (mkF m 239 #[.val (.int i0), .val (.int i1), .val (.int i2), .val (.int i3), .val (.int v2), .val (.int v12), .val (.int v17), .val (.int v27), .val (.int v32), .val (.int v42), .val (.int v47), .val (.int v57), .val (.ref zz), .val (.ref bb), .val (.ref xx), .val (.ref a), .val (.int v230), .unset] [(.ref bb), (.ref zz), (.int v230)]))
  refine g_aload hG X20 hx (hb hby at_239) (pc' := 241) rfl rfl rfl ?_
  show G (T20.setTop (mkF m 241 #[.val (.int i0), .val (.int i1), .val (.int i2), .val (.int i3), .val (.int v2), .val (.int v12), .val (.int v17), .val (.int v27), .val (.int v32), .val (.int v42), .val (.int v47), .val (.int v57), .val (.ref zz), .val (.ref bb), .val (.ref xx), .val (.ref a), .val (.int v230), .unset] [(.ref xx), (.ref bb), (.ref zz), (.int v230)]))
  refine g_iconst hG X20 hx (hb hby at_241) (pc' := 242) rfl (v := (3 : Int32)) rfl ?_
  show G (T20.setTop (mkF m 242 #[.val (.int i0), .val (.int i1), .val (.int i2), .val (.int i3), .val (.int v2), .val (.int v12), .val (.int v17), .val (.int v27), .val (.int v32), .val (.int v42), .val (.int v47), .val (.int v57), .val (.ref zz), .val (.ref bb), .val (.ref xx), .val (.ref a), .val (.int v230), .unset] [(.int 3), (.ref xx), (.ref bb), (.ref zz), (.int v230)]))
  obtain ⟨E4, hE4⟩ : ∃ t, ptE z4 (bi B4) E3 3 = t := ⟨_, rfl⟩
  refine g_callS hG X20 hx hZ (y := (⟨"com/example/tributary/tributary/plan/NodeHeapOfferPinLaw", "put", "([Z[I[II)I"⟩ : MethodName)) 1 hown (wd hw 45 rfl) (wd hw 46 rfl) (wd hw 43 rfl) (wd hw 47 rfl) (by decide) (rmPt l Z a0 hw [] zz bb xx z4 B4 E3 (3 : Int32) T20.heap n0 Zs ge_xx ne_zz_xx ne_bb_xx V_zz V_bb V_xx in4_3) (by decide) (by decide) (by rw [hml]; rfl) pd_8 rfl (argsL := [(.ref zz), (.ref bb), (.ref xx), (.int 3)]) (rest := [(.int v230)]) rfl rfl (Nat.le_of_eq rfl) (hb hby at_242) rfl (by decide) (by decide) (pc' := 245) rfl ?_
  intro T21 rv21 L21 X21 hQ21
  obtain ⟨rfl, Nq21, Kq21, V_xx⟩ := hQ21
  have NF21 := Fr.app NF20 Nq21
  rw [hE4] at V_xx
  have V_zz := V_zz.keep Kq21 (ninS ne_zz_xx nin0)
  have V_bb := V_bb.keep Kq21 (ninS ne_bb_xx nin0)
  have Ex_a := Ex_a.keep Kq21
  have F_heap_a := F_heap_a.keep Kq21 (ninS (Ne.symm ne_xx_a) nin0)
  have F_position_a := F_position_a.keep Kq21 (ninS (Ne.symm ne_xx_a) nin0)
  have F_key_a := F_key_a.keep Kq21 (ninS (Ne.symm ne_xx_a) nin0)
  have F_size_a := F_size_a.keep Kq21 (ninS (Ne.symm ne_xx_a) nin0)
  have V_hp := V_hp.keep Kq21 (ninS (Ne.symm dxhp) nin0)
  have V_pp := V_pp.keep Kq21 (ninS (Ne.symm dxpp) nin0)
  have V_ky := V_ky.keep Kq21 (ninS (Ne.symm dxky) nin0)
  have Zs := Nat.le_trans Zs Kq21.1
  show G (T21.setTop (mkF m 245 #[.val (.int i0), .val (.int i1), .val (.int i2), .val (.int i3), .val (.int v2), .val (.int v12), .val (.int v17), .val (.int v27), .val (.int v32), .val (.int v42), .val (.int v47), .val (.int v57), .val (.ref zz), .val (.ref bb), .val (.ref xx), .val (.ref a), .val (.int v230), .unset] [(.int (b2i (z4 (3 : Int32)))), (.int v230)]))
  obtain ⟨v245, q245⟩ : ∃ zz : Int32, v230 + (b2i (z4 (3 : Int32))) = zz := ⟨_, rfl⟩
  refine g_iadd hG X21 hx (hb hby at_245) (pc' := 246) rfl q245 ?_
  show G (T21.setTop (mkF m 246 #[.val (.int i0), .val (.int i1), .val (.int i2), .val (.int i3), .val (.int v2), .val (.int v12), .val (.int v17), .val (.int v27), .val (.int v32), .val (.int v42), .val (.int v47), .val (.int v57), .val (.ref zz), .val (.ref bb), .val (.ref xx), .val (.ref a), .val (.int v230), .unset] [(.int v245)]))
  refine g_istore hG X21 hx (hb hby at_246) (pc' := 248) rfl (Ls' := #[.val (.int i0), .val (.int i1), .val (.int i2), .val (.int i3), .val (.int v2), .val (.int v12), .val (.int v17), .val (.int v27), .val (.int v32), .val (.int v42), .val (.int v47), .val (.int v57), .val (.ref zz), .val (.ref bb), .val (.ref xx), .val (.ref a), .val (.int v245), .unset]) rfl ?_
  show G (T21.setTop (mkF m 248 #[.val (.int i0), .val (.int i1), .val (.int i2), .val (.int i3), .val (.int v2), .val (.int v12), .val (.int v17), .val (.int v27), .val (.int v32), .val (.int v42), .val (.int v47), .val (.int v57), .val (.ref zz), .val (.ref bb), .val (.ref xx), .val (.ref a), .val (.int v245), .unset] []))
  refine g_iconst hG X21 hx (hb hby at_248) (pc' := 249) rfl (v := (1 : Int32)) rfl ?_
  show G (T21.setTop (mkF m 249 #[.val (.int i0), .val (.int i1), .val (.int i2), .val (.int i3), .val (.int v2), .val (.int v12), .val (.int v17), .val (.int v27), .val (.int v32), .val (.int v42), .val (.int v47), .val (.int v57), .val (.ref zz), .val (.ref bb), .val (.ref xx), .val (.ref a), .val (.int v245), .unset] [(.int 1)]))
  refine g_istore hG X21 hx (hb hby at_249) (pc' := 251) rfl (Ls' := #[.val (.int i0), .val (.int i1), .val (.int i2), .val (.int i3), .val (.int v2), .val (.int v12), .val (.int v17), .val (.int v27), .val (.int v32), .val (.int v42), .val (.int v47), .val (.int v57), .val (.ref zz), .val (.ref bb), .val (.ref xx), .val (.ref a), .val (.int v245), .val (.int 1)]) rfl ?_
  show G (T21.setTop (mkF m 251 #[.val (.int i0), .val (.int i1), .val (.int i2), .val (.int i3), .val (.int v2), .val (.int v12), .val (.int v17), .val (.int v27), .val (.int v32), .val (.int v42), .val (.int v47), .val (.int v57), .val (.ref zz), .val (.ref bb), .val (.ref xx), .val (.ref a), .val (.int v245), .val (.int 1)] []))
  have hct : cnt z4 = v245 := by rw [← q245, ← q230, ← q215, ← q200]; rfl
  obtain ⟨kd, ss⟩ := SS
  obtain ⟨zc, hzc⟩ : ∃ t, zB (z4 0) (z4 1) (z4 2) (z4 3) = t := ⟨_, rfl⟩
  have CZ : ∀ y, In4 y → zc y = z4 y := by rw [← hzc]; exact own_zB z4
  have CK := own_ckv z4 B4
  rw [hzc, show ex4 z4 (bi B4) = E4 by rw [← hE4, ← hE3, ← hE2, ← hE1]; rfl] at CK
  unfold ck4 at CK
  have kd := kd_cz kd CZ
  obtain ⟨bcc, hbc⟩ : ∃ t, bc (vl B4) = t := ⟨_, rfl⟩
  have HI : ∀ x y, In4 x → In4 y → x ≠ y → vl B4 x ≠ vl B4 y := vl_inj
  have HBC : ∀ x y, In4 x → In4 y → bcc x y = bv (vl B4) x y := by rw [← hbc]; exact own_bc HI
  rw [hbc] at CK
  have hcs : (sz4 = 0 ∧ v245 = 0) ∨ (sz4 = 1 ∧ v245 = 1 ∧ ∃ u1, PS1 (vl B4) zc q4h u1) ∨ (sz4 = 2 ∧ v245 = 2 ∧ ∃ u1 u2, PS2 (vl B4) zc q4h u1 u2) ∨ (sz4 = 3 ∧ v245 = 3 ∧ ∃ u1 u2 u3, PS3 (vl B4) zc q4h u1 u2 u3) ∨ (sz4 = 4 ∧ v245 = 4 ∧ ∃ u1 u2 u3 u4, PS4 (vl B4) zc q4h u1 u2 u3 u4) := by
    rcases ss with ⟨e, ps⟩ | ⟨e, -, u1, ps⟩ | ⟨e, -, u1, u2, ps⟩ | ⟨e, -, u1, u2, u3, ps⟩ | ⟨e, -, u1, u2, u3, u4, ps⟩
    · exact Or.inl ⟨e, hct.symm.trans (own_ct0 ps)⟩
    · exact Or.inr (Or.inl ⟨e, hct.symm.trans (own_ct1 ps), u1, own_cz1 ps CZ⟩)
    · exact Or.inr (Or.inr (Or.inl ⟨e, hct.symm.trans (own_ct2 ps), u1, u2, own_cz2 ps CZ⟩))
    · exact Or.inr (Or.inr (Or.inr (Or.inl ⟨e, hct.symm.trans (own_ct3 ps), u1, u2, u3, own_cz3 ps CZ⟩)))
    · exact Or.inr (Or.inr (Or.inr (Or.inr ⟨e, hct.symm.trans (own_ct4 ps), u1, u2, u3, u4, own_cz4 ps CZ⟩)))
  rcases hcs with ⟨rfl, rfl⟩ | ⟨rfl, rfl, u1, ps⟩ | ⟨rfl, rfl, u1, u2, ps⟩ | ⟨rfl, rfl, u1, u2, u3, ps⟩ | ⟨rfl, rfl, u1, u2, u3, u4, ps⟩
  · skip
    refine g_iload hG X21 hx (hb hby at_251) (pc' := 253) rfl rfl ?_
    show G (T21.setTop (mkF m 253 #[.val (.int i0), .val (.int i1), .val (.int i2), .val (.int i3), .val (.int v2), .val (.int v12), .val (.int v17), .val (.int v27), .val (.int v32), .val (.int v42), .val (.int v47), .val (.int v57), .val (.ref zz), .val (.ref bb), .val (.ref xx), .val (.ref a), .val (.int 0), .val (.int 1)] [(.int 0)]))
    refine g_ifYes hG X21 hx (hb hby at_253) (pc' := 280) (by decide) (by decide) (by decide) ?_
    show G (T21.setTop (mkF m 280 #[.val (.int i0), .val (.int i1), .val (.int i2), .val (.int i3), .val (.int v2), .val (.int v12), .val (.int v17), .val (.int v27), .val (.int v32), .val (.int v42), .val (.int v47), .val (.int v57), .val (.ref zz), .val (.ref bb), .val (.ref xx), .val (.ref a), .val (.int 0), .val (.int 1)] []))
    refine g_iload hG X21 hx (hb hby at_280) (pc' := 282) rfl rfl ?_
    show G (T21.setTop (mkF m 282 #[.val (.int i0), .val (.int i1), .val (.int i2), .val (.int i3), .val (.int v2), .val (.int v12), .val (.int v17), .val (.int v27), .val (.int v32), .val (.int v42), .val (.int v47), .val (.int v57), .val (.ref zz), .val (.ref bb), .val (.ref xx), .val (.ref a), .val (.int 0), .val (.int 1)] [(.int 0)]))
    refine g_iconst hG X21 hx (hb hby at_282) (pc' := 283) rfl (v := (1 : Int32)) rfl ?_
    show G (T21.setTop (mkF m 283 #[.val (.int i0), .val (.int i1), .val (.int i2), .val (.int i3), .val (.int v2), .val (.int v12), .val (.int v17), .val (.int v27), .val (.int v32), .val (.int v42), .val (.int v47), .val (.int v57), .val (.ref zz), .val (.ref bb), .val (.ref xx), .val (.ref a), .val (.int 0), .val (.int 1)] [(.int 1), (.int 0)]))
    refine g_icmpYes hG X21 hx (hb hby at_283) (pc' := 310) (by decide) (by decide) (by decide) ?_
    show G (T21.setTop (mkF m 310 #[.val (.int i0), .val (.int i1), .val (.int i2), .val (.int i3), .val (.int v2), .val (.int v12), .val (.int v17), .val (.int v27), .val (.int v32), .val (.int v42), .val (.int v47), .val (.int v57), .val (.ref zz), .val (.ref bb), .val (.ref xx), .val (.ref a), .val (.int 0), .val (.int 1)] []))
    refine g_iload hG X21 hx (hb hby at_310) (pc' := 312) rfl rfl ?_
    show G (T21.setTop (mkF m 312 #[.val (.int i0), .val (.int i1), .val (.int i2), .val (.int i3), .val (.int v2), .val (.int v12), .val (.int v17), .val (.int v27), .val (.int v32), .val (.int v42), .val (.int v47), .val (.int v57), .val (.ref zz), .val (.ref bb), .val (.ref xx), .val (.ref a), .val (.int 0), .val (.int 1)] [(.int 0)]))
    refine g_iconst hG X21 hx (hb hby at_312) (pc' := 313) rfl (v := (2 : Int32)) rfl ?_
    show G (T21.setTop (mkF m 313 #[.val (.int i0), .val (.int i1), .val (.int i2), .val (.int i3), .val (.int v2), .val (.int v12), .val (.int v17), .val (.int v27), .val (.int v32), .val (.int v42), .val (.int v47), .val (.int v57), .val (.ref zz), .val (.ref bb), .val (.ref xx), .val (.ref a), .val (.int 0), .val (.int 1)] [(.int 2), (.int 0)]))
    refine g_icmpYes hG X21 hx (hb hby at_313) (pc' := 340) (by decide) (by decide) (by decide) ?_
    show G (T21.setTop (mkF m 340 #[.val (.int i0), .val (.int i1), .val (.int i2), .val (.int i3), .val (.int v2), .val (.int v12), .val (.int v17), .val (.int v27), .val (.int v32), .val (.int v42), .val (.int v47), .val (.int v57), .val (.ref zz), .val (.ref bb), .val (.ref xx), .val (.ref a), .val (.int 0), .val (.int 1)] []))
    refine g_iload hG X21 hx (hb hby at_340) (pc' := 342) rfl rfl ?_
    show G (T21.setTop (mkF m 342 #[.val (.int i0), .val (.int i1), .val (.int i2), .val (.int i3), .val (.int v2), .val (.int v12), .val (.int v17), .val (.int v27), .val (.int v32), .val (.int v42), .val (.int v47), .val (.int v57), .val (.ref zz), .val (.ref bb), .val (.ref xx), .val (.ref a), .val (.int 0), .val (.int 1)] [(.int 0)]))
    refine g_iconst hG X21 hx (hb hby at_342) (pc' := 343) rfl (v := (3 : Int32)) rfl ?_
    show G (T21.setTop (mkF m 343 #[.val (.int i0), .val (.int i1), .val (.int i2), .val (.int i3), .val (.int v2), .val (.int v12), .val (.int v17), .val (.int v27), .val (.int v32), .val (.int v42), .val (.int v47), .val (.int v57), .val (.ref zz), .val (.ref bb), .val (.ref xx), .val (.ref a), .val (.int 0), .val (.int 1)] [(.int 3), (.int 0)]))
    refine g_icmpYes hG X21 hx (hb hby at_343) (pc' := 370) (by decide) (by decide) (by decide) ?_
    show G (T21.setTop (mkF m 370 #[.val (.int i0), .val (.int i1), .val (.int i2), .val (.int i3), .val (.int v2), .val (.int v12), .val (.int v17), .val (.int v27), .val (.int v32), .val (.int v42), .val (.int v47), .val (.int v57), .val (.ref zz), .val (.ref bb), .val (.ref xx), .val (.ref a), .val (.int 0), .val (.int 1)] []))
    refine g_iload hG X21 hx (hb hby at_370) (pc' := 372) rfl rfl ?_
    show G (T21.setTop (mkF m 372 #[.val (.int i0), .val (.int i1), .val (.int i2), .val (.int i3), .val (.int v2), .val (.int v12), .val (.int v17), .val (.int v27), .val (.int v32), .val (.int v42), .val (.int v47), .val (.int v57), .val (.ref zz), .val (.ref bb), .val (.ref xx), .val (.ref a), .val (.int 0), .val (.int 1)] [(.int 1)]))
    refine g_ifNo hG X21 hx (hb hby at_372) (pc' := 375) (by decide) rfl ?_
    show G (T21.setTop (mkF m 375 #[.val (.int i0), .val (.int i1), .val (.int i2), .val (.int i3), .val (.int v2), .val (.int v12), .val (.int v17), .val (.int v27), .val (.int v32), .val (.int v42), .val (.int v47), .val (.int v57), .val (.ref zz), .val (.ref bb), .val (.ref xx), .val (.ref a), .val (.int 0), .val (.int 1)] []))
    refine g_aload hG X21 hx (hb hby at_375) (pc' := 377) rfl rfl rfl ?_
    show G (T21.setTop (mkF m 377 #[.val (.int i0), .val (.int i1), .val (.int i2), .val (.int i3), .val (.int v2), .val (.int v12), .val (.int v17), .val (.int v27), .val (.int v32), .val (.int v42), .val (.int v47), .val (.int v57), .val (.ref zz), .val (.ref bb), .val (.ref xx), .val (.ref a), .val (.int 0), .val (.int 1)] [(.ref a)]))
    refine g_callV hG X21 hx hZ (y := (⟨"com/example/tributary/tributary/plan/NodeHeap", "isEmpty", "()Z"⟩ : MethodName)) 0 hown (wd hw 63 rfl) (wd hw 64 rfl) (wd hw 66 rfl) (wd hw 65 rfl) (wd hw 4 rfl) (wd hw 67 rfl) (by decide) (rmEm0 l Z a0 hw [] a hp pp ky q4h K4h T21.heap n0 Zs ⟨Ex_a, F_heap_a, F_position_a, F_key_a, F_size_a, V_hp, V_pp, V_ky⟩ ⟨ga, ghp, gpp, gky, d1, d2, d3, d4, d5, d6⟩) (by decide) (by decide) (by rw [hml]; rfl) pd_9 rfl (argsL := []) (rest := []) rfl rfl (Nat.le_of_eq rfl) (hb hby at_377) rfl Ex_a (by decide) (by decide) (pc' := 380) rfl ?_
    intro T22 rv22 L22 X22 hQ22
    obtain ⟨rfl, Nq22, eh22⟩ := hQ22
    have NF22 := Fr.app NF21 Nq22
    show G (T22.setTop (mkF m 380 #[.val (.int i0), .val (.int i1), .val (.int i2), .val (.int i3), .val (.int v2), .val (.int v12), .val (.int v17), .val (.int v27), .val (.int v32), .val (.int v42), .val (.int v47), .val (.int v57), .val (.ref zz), .val (.ref bb), .val (.ref xx), .val (.ref a), .val (.int 0), .val (.int 1)] [(.int 1)]))
    refine g_ifNo hG X22 hx (hb hby at_380) (pc' := 383) (by decide) rfl ?_
    show G (T22.setTop (mkF m 383 #[.val (.int i0), .val (.int i1), .val (.int i2), .val (.int i3), .val (.int v2), .val (.int v12), .val (.int v17), .val (.int v27), .val (.int v32), .val (.int v42), .val (.int v47), .val (.int v57), .val (.ref zz), .val (.ref bb), .val (.ref xx), .val (.ref a), .val (.int 0), .val (.int 1)] []))
    refine g_iconst hG X22 hx (hb hby at_383) (pc' := 384) rfl (v := (1 : Int32)) rfl ?_
    show G (T22.setTop (mkF m 384 #[.val (.int i0), .val (.int i1), .val (.int i2), .val (.int i3), .val (.int v2), .val (.int v12), .val (.int v17), .val (.int v27), .val (.int v32), .val (.int v42), .val (.int v47), .val (.int v57), .val (.ref zz), .val (.ref bb), .val (.ref xx), .val (.ref a), .val (.int 0), .val (.int 1)] [(.int 1)]))
    refine g_goto hG X22 hx (hb hby at_384) (pc' := 388) (by decide) (by decide) ?_
    show G (T22.setTop (mkF m 388 #[.val (.int i0), .val (.int i1), .val (.int i2), .val (.int i3), .val (.int v2), .val (.int v12), .val (.int v17), .val (.int v27), .val (.int v32), .val (.int v42), .val (.int v47), .val (.int v57), .val (.ref zz), .val (.ref bb), .val (.ref xx), .val (.ref a), .val (.int 0), .val (.int 1)] [(.int 1)]))
    exact e_retZ hGe X22 hx hrt hlk (hb hby at_388) (Or.inr rfl) eh22 (by decide) (by decide) (⟨rfl, NF22⟩)
  · skip
    have ps0 := ps
    refine g_iload hG X21 hx (hb hby at_251) (pc' := 253) rfl rfl ?_
    show G (T21.setTop (mkF m 253 #[.val (.int i0), .val (.int i1), .val (.int i2), .val (.int i3), .val (.int v2), .val (.int v12), .val (.int v17), .val (.int v27), .val (.int v32), .val (.int v42), .val (.int v47), .val (.int v57), .val (.ref zz), .val (.ref bb), .val (.ref xx), .val (.ref a), .val (.int 1), .val (.int 1)] [(.int 1)]))
    refine g_ifNo hG X21 hx (hb hby at_253) (pc' := 256) (by decide) rfl ?_
    show G (T21.setTop (mkF m 256 #[.val (.int i0), .val (.int i1), .val (.int i2), .val (.int i3), .val (.int v2), .val (.int v12), .val (.int v17), .val (.int v27), .val (.int v32), .val (.int v42), .val (.int v47), .val (.int v57), .val (.ref zz), .val (.ref bb), .val (.ref xx), .val (.ref a), .val (.int 1), .val (.int 1)] []))
    refine g_iload hG X21 hx (hb hby at_256) (pc' := 258) rfl rfl ?_
    show G (T21.setTop (mkF m 258 #[.val (.int i0), .val (.int i1), .val (.int i2), .val (.int i3), .val (.int v2), .val (.int v12), .val (.int v17), .val (.int v27), .val (.int v32), .val (.int v42), .val (.int v47), .val (.int v57), .val (.ref zz), .val (.ref bb), .val (.ref xx), .val (.ref a), .val (.int 1), .val (.int 1)] [(.int 1)]))
    refine g_ifNo hG X21 hx (hb hby at_258) (pc' := 261) (by decide) rfl ?_
    show G (T21.setTop (mkF m 261 #[.val (.int i0), .val (.int i1), .val (.int i2), .val (.int i3), .val (.int v2), .val (.int v12), .val (.int v17), .val (.int v27), .val (.int v32), .val (.int v42), .val (.int v47), .val (.int v57), .val (.ref zz), .val (.ref bb), .val (.ref xx), .val (.ref a), .val (.int 1), .val (.int 1)] []))
    refine g_aload hG X21 hx (hb hby at_261) (pc' := 263) rfl rfl rfl ?_
    show G (T21.setTop (mkF m 263 #[.val (.int i0), .val (.int i1), .val (.int i2), .val (.int i3), .val (.int v2), .val (.int v12), .val (.int v17), .val (.int v27), .val (.int v32), .val (.int v42), .val (.int v47), .val (.int v57), .val (.ref zz), .val (.ref bb), .val (.ref xx), .val (.ref a), .val (.int 1), .val (.int 1)] [(.ref a)]))
    have nd := own_nd1 ps0
    obtain ⟨hf0, jf0⟩ := own_hd1 ps0
    obtain ⟨eE0, CK⟩ := own_stp CK jf0 (own_mn1 ps0 HI HBC)
    refine g_callV hG X21 hx hZ (y := (⟨"com/example/tributary/tributary/plan/NodeHeap", "poll", "()I"⟩ : MethodName)) 0 hown (wd hw 54 rfl) (wd hw 55 rfl) (wd hw 57 rfl) (wd hw 56 rfl) (wd hw 4 rfl) (wd hw 58 rfl) (by decide) (rmPo1 l Z a0 hw [] a hp pp ky q4h K4h (bv (vl B4)) u1 T21.heap n0 Zs hf0 ⟨Ex_a, F_heap_a, F_position_a, F_key_a, F_size_a, V_hp, V_pp, V_ky⟩ ⟨ga, ghp, gpp, gky, d1, d2, d3, d4, d5, d6⟩ (own_I4n nd) own_HB0) (by decide) (by decide) (by rw [hml]; rfl) pd_10 rfl (argsL := []) (rest := []) rfl rfl (Nat.le_of_eq rfl) (hb hby at_263) rfl Ex_a (by decide) (by decide) (pc' := 266) rfl ?_
    intro T23 rv23 L23 X23 hQ23
    obtain ⟨rfl, Nq23, Kq23, Ex_a, F_heap_a, F_position_a, F_key_a, F_size_a, V_hp, V_pp, V_ky⟩ := hQ23
    have NF23 := Fr.app NF21 Nq23
    have V_zz := V_zz.keep Kq23 (ninS ne_zz_a (ninS dzhp (ninS dzpp (ninS dzky nin0))))
    have V_bb := V_bb.keep Kq23 (ninS ne_bb_a (ninS dbhp (ninS dbpp (ninS dbky nin0))))
    have V_xx := V_xx.keep Kq23 (ninS ne_xx_a (ninS dxhp (ninS dxpp (ninS dxky nin0))))
    have Zs := Nat.le_trans Zs Kq23.1
    show G (T23.setTop (mkF m 266 #[.val (.int i0), .val (.int i1), .val (.int i2), .val (.int i3), .val (.int v2), .val (.int v12), .val (.int v17), .val (.int v27), .val (.int v32), .val (.int v42), .val (.int v47), .val (.int v57), .val (.ref zz), .val (.ref bb), .val (.ref xx), .val (.ref a), .val (.int 1), .val (.int 1)] [(.int u1)]))
    refine g_aload hG X23 hx (hb hby at_266) (pc' := 268) rfl rfl rfl ?_
    show G (T23.setTop (mkF m 268 #[.val (.int i0), .val (.int i1), .val (.int i2), .val (.int i3), .val (.int v2), .val (.int v12), .val (.int v17), .val (.int v27), .val (.int v32), .val (.int v42), .val (.int v47), .val (.int v57), .val (.ref zz), .val (.ref bb), .val (.ref xx), .val (.ref a), .val (.int 1), .val (.int 1)] [(.ref xx), (.int u1)]))
    refine g_iconst hG X23 hx (hb hby at_268) (pc' := 269) rfl (v := (0 : Int32)) rfl ?_
    show G (T23.setTop (mkF m 269 #[.val (.int i0), .val (.int i1), .val (.int i2), .val (.int i3), .val (.int v2), .val (.int v12), .val (.int v17), .val (.int v27), .val (.int v32), .val (.int v42), .val (.int v47), .val (.int v57), .val (.ref zz), .val (.ref bb), .val (.ref xx), .val (.ref a), .val (.int 1), .val (.int 1)] [(.int 0), (.ref xx), (.int u1)]))
    refine g_iaload hG X23 hx hZ rfl V_xx (j := (0 : Int32)) (v := (.int (E4 (0 : Int32)))) (in4_nn in4_0) (in4_at in4_0 rfl) (hb hby at_269) (pc' := 270) rfl ?_
    show G (T23.setTop (mkF m 270 #[.val (.int i0), .val (.int i1), .val (.int i2), .val (.int i3), .val (.int v2), .val (.int v12), .val (.int v17), .val (.int v27), .val (.int v32), .val (.int v42), .val (.int v47), .val (.int v57), .val (.ref zz), .val (.ref bb), .val (.ref xx), .val (.ref a), .val (.int 1), .val (.int 1)] [(.int (E4 (0 : Int32))), (.int u1)]))
    refine g_icmpNo hG X23 hx (hb hby at_270) (pc' := 273) ((teq (Eq.symm eE0)).2) rfl ?_
    show G (T23.setTop (mkF m 273 #[.val (.int i0), .val (.int i1), .val (.int i2), .val (.int i3), .val (.int v2), .val (.int v12), .val (.int v17), .val (.int v27), .val (.int v32), .val (.int v42), .val (.int v47), .val (.int v57), .val (.ref zz), .val (.ref bb), .val (.ref xx), .val (.ref a), .val (.int 1), .val (.int 1)] []))
    refine g_iconst hG X23 hx (hb hby at_273) (pc' := 274) rfl (v := (1 : Int32)) rfl ?_
    show G (T23.setTop (mkF m 274 #[.val (.int i0), .val (.int i1), .val (.int i2), .val (.int i3), .val (.int v2), .val (.int v12), .val (.int v17), .val (.int v27), .val (.int v32), .val (.int v42), .val (.int v47), .val (.int v57), .val (.ref zz), .val (.ref bb), .val (.ref xx), .val (.ref a), .val (.int 1), .val (.int 1)] [(.int 1)]))
    refine g_goto hG X23 hx (hb hby at_274) (pc' := 278) (by decide) (by decide) ?_
    show G (T23.setTop (mkF m 278 #[.val (.int i0), .val (.int i1), .val (.int i2), .val (.int i3), .val (.int v2), .val (.int v12), .val (.int v17), .val (.int v27), .val (.int v32), .val (.int v42), .val (.int v47), .val (.int v57), .val (.ref zz), .val (.ref bb), .val (.ref xx), .val (.ref a), .val (.int 1), .val (.int 1)] [(.int 1)]))
    refine g_istore hG X23 hx (hb hby at_278) (pc' := 280) rfl (Ls' := #[.val (.int i0), .val (.int i1), .val (.int i2), .val (.int i3), .val (.int v2), .val (.int v12), .val (.int v17), .val (.int v27), .val (.int v32), .val (.int v42), .val (.int v47), .val (.int v57), .val (.ref zz), .val (.ref bb), .val (.ref xx), .val (.ref a), .val (.int 1), .val (.int 1)]) rfl ?_
    show G (T23.setTop (mkF m 280 #[.val (.int i0), .val (.int i1), .val (.int i2), .val (.int i3), .val (.int v2), .val (.int v12), .val (.int v17), .val (.int v27), .val (.int v32), .val (.int v42), .val (.int v47), .val (.int v57), .val (.ref zz), .val (.ref bb), .val (.ref xx), .val (.ref a), .val (.int 1), .val (.int 1)] []))
    refine g_iload hG X23 hx (hb hby at_280) (pc' := 282) rfl rfl ?_
    show G (T23.setTop (mkF m 282 #[.val (.int i0), .val (.int i1), .val (.int i2), .val (.int i3), .val (.int v2), .val (.int v12), .val (.int v17), .val (.int v27), .val (.int v32), .val (.int v42), .val (.int v47), .val (.int v57), .val (.ref zz), .val (.ref bb), .val (.ref xx), .val (.ref a), .val (.int 1), .val (.int 1)] [(.int 1)]))
    refine g_iconst hG X23 hx (hb hby at_282) (pc' := 283) rfl (v := (1 : Int32)) rfl ?_
    show G (T23.setTop (mkF m 283 #[.val (.int i0), .val (.int i1), .val (.int i2), .val (.int i3), .val (.int v2), .val (.int v12), .val (.int v17), .val (.int v27), .val (.int v32), .val (.int v42), .val (.int v47), .val (.int v57), .val (.ref zz), .val (.ref bb), .val (.ref xx), .val (.ref a), .val (.int 1), .val (.int 1)] [(.int 1), (.int 1)]))
    refine g_icmpYes hG X23 hx (hb hby at_283) (pc' := 310) (by decide) (by decide) (by decide) ?_
    show G (T23.setTop (mkF m 310 #[.val (.int i0), .val (.int i1), .val (.int i2), .val (.int i3), .val (.int v2), .val (.int v12), .val (.int v17), .val (.int v27), .val (.int v32), .val (.int v42), .val (.int v47), .val (.int v57), .val (.ref zz), .val (.ref bb), .val (.ref xx), .val (.ref a), .val (.int 1), .val (.int 1)] []))
    refine g_iload hG X23 hx (hb hby at_310) (pc' := 312) rfl rfl ?_
    show G (T23.setTop (mkF m 312 #[.val (.int i0), .val (.int i1), .val (.int i2), .val (.int i3), .val (.int v2), .val (.int v12), .val (.int v17), .val (.int v27), .val (.int v32), .val (.int v42), .val (.int v47), .val (.int v57), .val (.ref zz), .val (.ref bb), .val (.ref xx), .val (.ref a), .val (.int 1), .val (.int 1)] [(.int 1)]))
    refine g_iconst hG X23 hx (hb hby at_312) (pc' := 313) rfl (v := (2 : Int32)) rfl ?_
    show G (T23.setTop (mkF m 313 #[.val (.int i0), .val (.int i1), .val (.int i2), .val (.int i3), .val (.int v2), .val (.int v12), .val (.int v17), .val (.int v27), .val (.int v32), .val (.int v42), .val (.int v47), .val (.int v57), .val (.ref zz), .val (.ref bb), .val (.ref xx), .val (.ref a), .val (.int 1), .val (.int 1)] [(.int 2), (.int 1)]))
    refine g_icmpYes hG X23 hx (hb hby at_313) (pc' := 340) (by decide) (by decide) (by decide) ?_
    show G (T23.setTop (mkF m 340 #[.val (.int i0), .val (.int i1), .val (.int i2), .val (.int i3), .val (.int v2), .val (.int v12), .val (.int v17), .val (.int v27), .val (.int v32), .val (.int v42), .val (.int v47), .val (.int v57), .val (.ref zz), .val (.ref bb), .val (.ref xx), .val (.ref a), .val (.int 1), .val (.int 1)] []))
    refine g_iload hG X23 hx (hb hby at_340) (pc' := 342) rfl rfl ?_
    show G (T23.setTop (mkF m 342 #[.val (.int i0), .val (.int i1), .val (.int i2), .val (.int i3), .val (.int v2), .val (.int v12), .val (.int v17), .val (.int v27), .val (.int v32), .val (.int v42), .val (.int v47), .val (.int v57), .val (.ref zz), .val (.ref bb), .val (.ref xx), .val (.ref a), .val (.int 1), .val (.int 1)] [(.int 1)]))
    refine g_iconst hG X23 hx (hb hby at_342) (pc' := 343) rfl (v := (3 : Int32)) rfl ?_
    show G (T23.setTop (mkF m 343 #[.val (.int i0), .val (.int i1), .val (.int i2), .val (.int i3), .val (.int v2), .val (.int v12), .val (.int v17), .val (.int v27), .val (.int v32), .val (.int v42), .val (.int v47), .val (.int v57), .val (.ref zz), .val (.ref bb), .val (.ref xx), .val (.ref a), .val (.int 1), .val (.int 1)] [(.int 3), (.int 1)]))
    refine g_icmpYes hG X23 hx (hb hby at_343) (pc' := 370) (by decide) (by decide) (by decide) ?_
    show G (T23.setTop (mkF m 370 #[.val (.int i0), .val (.int i1), .val (.int i2), .val (.int i3), .val (.int v2), .val (.int v12), .val (.int v17), .val (.int v27), .val (.int v32), .val (.int v42), .val (.int v47), .val (.int v57), .val (.ref zz), .val (.ref bb), .val (.ref xx), .val (.ref a), .val (.int 1), .val (.int 1)] []))
    refine g_iload hG X23 hx (hb hby at_370) (pc' := 372) rfl rfl ?_
    show G (T23.setTop (mkF m 372 #[.val (.int i0), .val (.int i1), .val (.int i2), .val (.int i3), .val (.int v2), .val (.int v12), .val (.int v17), .val (.int v27), .val (.int v32), .val (.int v42), .val (.int v47), .val (.int v57), .val (.ref zz), .val (.ref bb), .val (.ref xx), .val (.ref a), .val (.int 1), .val (.int 1)] [(.int 1)]))
    refine g_ifNo hG X23 hx (hb hby at_372) (pc' := 375) (by decide) rfl ?_
    show G (T23.setTop (mkF m 375 #[.val (.int i0), .val (.int i1), .val (.int i2), .val (.int i3), .val (.int v2), .val (.int v12), .val (.int v17), .val (.int v27), .val (.int v32), .val (.int v42), .val (.int v47), .val (.int v57), .val (.ref zz), .val (.ref bb), .val (.ref xx), .val (.ref a), .val (.int 1), .val (.int 1)] []))
    refine g_aload hG X23 hx (hb hby at_375) (pc' := 377) rfl rfl rfl ?_
    show G (T23.setTop (mkF m 377 #[.val (.int i0), .val (.int i1), .val (.int i2), .val (.int i3), .val (.int v2), .val (.int v12), .val (.int v17), .val (.int v27), .val (.int v32), .val (.int v42), .val (.int v47), .val (.int v57), .val (.ref zz), .val (.ref bb), .val (.ref xx), .val (.ref a), .val (.int 1), .val (.int 1)] [(.ref a)]))
    refine g_callV hG X23 hx hZ (y := (⟨"com/example/tributary/tributary/plan/NodeHeap", "isEmpty", "()Z"⟩ : MethodName)) 0 hown (wd hw 63 rfl) (wd hw 64 rfl) (wd hw 66 rfl) (wd hw 65 rfl) (wd hw 4 rfl) (wd hw 67 rfl) (by decide) (rmEm0 l Z a0 hw [] a hp pp ky (po1 (bv (vl B4)) q4h) K4h T23.heap n0 Zs ⟨Ex_a, F_heap_a, F_position_a, F_key_a, F_size_a, V_hp, V_pp, V_ky⟩ ⟨ga, ghp, gpp, gky, d1, d2, d3, d4, d5, d6⟩) (by decide) (by decide) (by rw [hml]; rfl) pd_9 rfl (argsL := []) (rest := []) rfl rfl (Nat.le_of_eq rfl) (hb hby at_377) rfl Ex_a (by decide) (by decide) (pc' := 380) rfl ?_
    intro T24 rv24 L24 X24 hQ24
    obtain ⟨rfl, Nq24, eh24⟩ := hQ24
    have NF24 := Fr.app NF23 Nq24
    show G (T24.setTop (mkF m 380 #[.val (.int i0), .val (.int i1), .val (.int i2), .val (.int i3), .val (.int v2), .val (.int v12), .val (.int v17), .val (.int v27), .val (.int v32), .val (.int v42), .val (.int v47), .val (.int v57), .val (.ref zz), .val (.ref bb), .val (.ref xx), .val (.ref a), .val (.int 1), .val (.int 1)] [(.int 1)]))
    refine g_ifNo hG X24 hx (hb hby at_380) (pc' := 383) (by decide) rfl ?_
    show G (T24.setTop (mkF m 383 #[.val (.int i0), .val (.int i1), .val (.int i2), .val (.int i3), .val (.int v2), .val (.int v12), .val (.int v17), .val (.int v27), .val (.int v32), .val (.int v42), .val (.int v47), .val (.int v57), .val (.ref zz), .val (.ref bb), .val (.ref xx), .val (.ref a), .val (.int 1), .val (.int 1)] []))
    refine g_iconst hG X24 hx (hb hby at_383) (pc' := 384) rfl (v := (1 : Int32)) rfl ?_
    show G (T24.setTop (mkF m 384 #[.val (.int i0), .val (.int i1), .val (.int i2), .val (.int i3), .val (.int v2), .val (.int v12), .val (.int v17), .val (.int v27), .val (.int v32), .val (.int v42), .val (.int v47), .val (.int v57), .val (.ref zz), .val (.ref bb), .val (.ref xx), .val (.ref a), .val (.int 1), .val (.int 1)] [(.int 1)]))
    refine g_goto hG X24 hx (hb hby at_384) (pc' := 388) (by decide) (by decide) ?_
    show G (T24.setTop (mkF m 388 #[.val (.int i0), .val (.int i1), .val (.int i2), .val (.int i3), .val (.int v2), .val (.int v12), .val (.int v17), .val (.int v27), .val (.int v32), .val (.int v42), .val (.int v47), .val (.int v57), .val (.ref zz), .val (.ref bb), .val (.ref xx), .val (.ref a), .val (.int 1), .val (.int 1)] [(.int 1)]))
    exact e_retZ hGe X24 hx hrt hlk (hb hby at_388) (Or.inr rfl) eh24 (by decide) (by decide) (⟨rfl, NF24⟩)
  · skip
    have ps0 := ps
    refine g_iload hG X21 hx (hb hby at_251) (pc' := 253) rfl rfl ?_
    show G (T21.setTop (mkF m 253 #[.val (.int i0), .val (.int i1), .val (.int i2), .val (.int i3), .val (.int v2), .val (.int v12), .val (.int v17), .val (.int v27), .val (.int v32), .val (.int v42), .val (.int v47), .val (.int v57), .val (.ref zz), .val (.ref bb), .val (.ref xx), .val (.ref a), .val (.int 2), .val (.int 1)] [(.int 2)]))
    refine g_ifNo hG X21 hx (hb hby at_253) (pc' := 256) (by decide) rfl ?_
    show G (T21.setTop (mkF m 256 #[.val (.int i0), .val (.int i1), .val (.int i2), .val (.int i3), .val (.int v2), .val (.int v12), .val (.int v17), .val (.int v27), .val (.int v32), .val (.int v42), .val (.int v47), .val (.int v57), .val (.ref zz), .val (.ref bb), .val (.ref xx), .val (.ref a), .val (.int 2), .val (.int 1)] []))
    refine g_iload hG X21 hx (hb hby at_256) (pc' := 258) rfl rfl ?_
    show G (T21.setTop (mkF m 258 #[.val (.int i0), .val (.int i1), .val (.int i2), .val (.int i3), .val (.int v2), .val (.int v12), .val (.int v17), .val (.int v27), .val (.int v32), .val (.int v42), .val (.int v47), .val (.int v57), .val (.ref zz), .val (.ref bb), .val (.ref xx), .val (.ref a), .val (.int 2), .val (.int 1)] [(.int 1)]))
    refine g_ifNo hG X21 hx (hb hby at_258) (pc' := 261) (by decide) rfl ?_
    show G (T21.setTop (mkF m 261 #[.val (.int i0), .val (.int i1), .val (.int i2), .val (.int i3), .val (.int v2), .val (.int v12), .val (.int v17), .val (.int v27), .val (.int v32), .val (.int v42), .val (.int v47), .val (.int v57), .val (.ref zz), .val (.ref bb), .val (.ref xx), .val (.ref a), .val (.int 2), .val (.int 1)] []))
    refine g_aload hG X21 hx (hb hby at_261) (pc' := 263) rfl rfl rfl ?_
    show G (T21.setTop (mkF m 263 #[.val (.int i0), .val (.int i1), .val (.int i2), .val (.int i3), .val (.int v2), .val (.int v12), .val (.int v17), .val (.int v27), .val (.int v32), .val (.int v42), .val (.int v47), .val (.int v57), .val (.ref zz), .val (.ref bb), .val (.ref xx), .val (.ref a), .val (.int 2), .val (.int 1)] [(.ref a)]))
    have nd := own_nd2 ps0
    obtain ⟨hf0, jf0⟩ := own_hd2 ps0
    obtain ⟨eE0, CK⟩ := own_stp CK jf0 (own_mn2 ps0 HI HBC)
    refine g_callV hG X21 hx hZ (y := (⟨"com/example/tributary/tributary/plan/NodeHeap", "poll", "()I"⟩ : MethodName)) 0 hown (wd hw 54 rfl) (wd hw 55 rfl) (wd hw 57 rfl) (wd hw 56 rfl) (wd hw 4 rfl) (wd hw 58 rfl) (by decide) (rmPo2 l Z a0 hw [] a hp pp ky q4h K4h (bv (vl B4)) u1 T21.heap n0 Zs hf0 ⟨Ex_a, F_heap_a, F_position_a, F_key_a, F_size_a, V_hp, V_pp, V_ky⟩ ⟨ga, ghp, gpp, gky, d1, d2, d3, d4, d5, d6⟩ (own_I4n nd) own_HB0) (by decide) (by decide) (by rw [hml]; rfl) pd_10 rfl (argsL := []) (rest := []) rfl rfl (Nat.le_of_eq rfl) (hb hby at_263) rfl Ex_a (by decide) (by decide) (pc' := 266) rfl ?_
    intro T25 rv25 L25 X25 hQ25
    obtain ⟨rfl, Nq25, Kq25, Ex_a, F_heap_a, F_position_a, F_key_a, F_size_a, V_hp, V_pp, V_ky⟩ := hQ25
    have NF25 := Fr.app NF21 Nq25
    have V_zz := V_zz.keep Kq25 (ninS ne_zz_a (ninS dzhp (ninS dzpp (ninS dzky nin0))))
    have V_bb := V_bb.keep Kq25 (ninS ne_bb_a (ninS dbhp (ninS dbpp (ninS dbky nin0))))
    have V_xx := V_xx.keep Kq25 (ninS ne_xx_a (ninS dxhp (ninS dxpp (ninS dxky nin0))))
    have Zs := Nat.le_trans Zs Kq25.1
    obtain ⟨u1_1, ps0⟩ := own_po2 ps0
    have kd := kd_del (x := u1) kd
    show G (T25.setTop (mkF m 266 #[.val (.int i0), .val (.int i1), .val (.int i2), .val (.int i3), .val (.int v2), .val (.int v12), .val (.int v17), .val (.int v27), .val (.int v32), .val (.int v42), .val (.int v47), .val (.int v57), .val (.ref zz), .val (.ref bb), .val (.ref xx), .val (.ref a), .val (.int 2), .val (.int 1)] [(.int u1)]))
    refine g_aload hG X25 hx (hb hby at_266) (pc' := 268) rfl rfl rfl ?_
    show G (T25.setTop (mkF m 268 #[.val (.int i0), .val (.int i1), .val (.int i2), .val (.int i3), .val (.int v2), .val (.int v12), .val (.int v17), .val (.int v27), .val (.int v32), .val (.int v42), .val (.int v47), .val (.int v57), .val (.ref zz), .val (.ref bb), .val (.ref xx), .val (.ref a), .val (.int 2), .val (.int 1)] [(.ref xx), (.int u1)]))
    refine g_iconst hG X25 hx (hb hby at_268) (pc' := 269) rfl (v := (0 : Int32)) rfl ?_
    show G (T25.setTop (mkF m 269 #[.val (.int i0), .val (.int i1), .val (.int i2), .val (.int i3), .val (.int v2), .val (.int v12), .val (.int v17), .val (.int v27), .val (.int v32), .val (.int v42), .val (.int v47), .val (.int v57), .val (.ref zz), .val (.ref bb), .val (.ref xx), .val (.ref a), .val (.int 2), .val (.int 1)] [(.int 0), (.ref xx), (.int u1)]))
    refine g_iaload hG X25 hx hZ rfl V_xx (j := (0 : Int32)) (v := (.int (E4 (0 : Int32)))) (in4_nn in4_0) (in4_at in4_0 rfl) (hb hby at_269) (pc' := 270) rfl ?_
    show G (T25.setTop (mkF m 270 #[.val (.int i0), .val (.int i1), .val (.int i2), .val (.int i3), .val (.int v2), .val (.int v12), .val (.int v17), .val (.int v27), .val (.int v32), .val (.int v42), .val (.int v47), .val (.int v57), .val (.ref zz), .val (.ref bb), .val (.ref xx), .val (.ref a), .val (.int 2), .val (.int 1)] [(.int (E4 (0 : Int32))), (.int u1)]))
    refine g_icmpNo hG X25 hx (hb hby at_270) (pc' := 273) ((teq (Eq.symm eE0)).2) rfl ?_
    show G (T25.setTop (mkF m 273 #[.val (.int i0), .val (.int i1), .val (.int i2), .val (.int i3), .val (.int v2), .val (.int v12), .val (.int v17), .val (.int v27), .val (.int v32), .val (.int v42), .val (.int v47), .val (.int v57), .val (.ref zz), .val (.ref bb), .val (.ref xx), .val (.ref a), .val (.int 2), .val (.int 1)] []))
    refine g_iconst hG X25 hx (hb hby at_273) (pc' := 274) rfl (v := (1 : Int32)) rfl ?_
    show G (T25.setTop (mkF m 274 #[.val (.int i0), .val (.int i1), .val (.int i2), .val (.int i3), .val (.int v2), .val (.int v12), .val (.int v17), .val (.int v27), .val (.int v32), .val (.int v42), .val (.int v47), .val (.int v57), .val (.ref zz), .val (.ref bb), .val (.ref xx), .val (.ref a), .val (.int 2), .val (.int 1)] [(.int 1)]))
    refine g_goto hG X25 hx (hb hby at_274) (pc' := 278) (by decide) (by decide) ?_
    show G (T25.setTop (mkF m 278 #[.val (.int i0), .val (.int i1), .val (.int i2), .val (.int i3), .val (.int v2), .val (.int v12), .val (.int v17), .val (.int v27), .val (.int v32), .val (.int v42), .val (.int v47), .val (.int v57), .val (.ref zz), .val (.ref bb), .val (.ref xx), .val (.ref a), .val (.int 2), .val (.int 1)] [(.int 1)]))
    refine g_istore hG X25 hx (hb hby at_278) (pc' := 280) rfl (Ls' := #[.val (.int i0), .val (.int i1), .val (.int i2), .val (.int i3), .val (.int v2), .val (.int v12), .val (.int v17), .val (.int v27), .val (.int v32), .val (.int v42), .val (.int v47), .val (.int v57), .val (.ref zz), .val (.ref bb), .val (.ref xx), .val (.ref a), .val (.int 2), .val (.int 1)]) rfl ?_
    show G (T25.setTop (mkF m 280 #[.val (.int i0), .val (.int i1), .val (.int i2), .val (.int i3), .val (.int v2), .val (.int v12), .val (.int v17), .val (.int v27), .val (.int v32), .val (.int v42), .val (.int v47), .val (.int v57), .val (.ref zz), .val (.ref bb), .val (.ref xx), .val (.ref a), .val (.int 2), .val (.int 1)] []))
    refine g_iload hG X25 hx (hb hby at_280) (pc' := 282) rfl rfl ?_
    show G (T25.setTop (mkF m 282 #[.val (.int i0), .val (.int i1), .val (.int i2), .val (.int i3), .val (.int v2), .val (.int v12), .val (.int v17), .val (.int v27), .val (.int v32), .val (.int v42), .val (.int v47), .val (.int v57), .val (.ref zz), .val (.ref bb), .val (.ref xx), .val (.ref a), .val (.int 2), .val (.int 1)] [(.int 2)]))
    refine g_iconst hG X25 hx (hb hby at_282) (pc' := 283) rfl (v := (1 : Int32)) rfl ?_
    show G (T25.setTop (mkF m 283 #[.val (.int i0), .val (.int i1), .val (.int i2), .val (.int i3), .val (.int v2), .val (.int v12), .val (.int v17), .val (.int v27), .val (.int v32), .val (.int v42), .val (.int v47), .val (.int v57), .val (.ref zz), .val (.ref bb), .val (.ref xx), .val (.ref a), .val (.int 2), .val (.int 1)] [(.int 1), (.int 2)]))
    refine g_icmpNo hG X25 hx (hb hby at_283) (pc' := 286) (by decide) rfl ?_
    show G (T25.setTop (mkF m 286 #[.val (.int i0), .val (.int i1), .val (.int i2), .val (.int i3), .val (.int v2), .val (.int v12), .val (.int v17), .val (.int v27), .val (.int v32), .val (.int v42), .val (.int v47), .val (.int v57), .val (.ref zz), .val (.ref bb), .val (.ref xx), .val (.ref a), .val (.int 2), .val (.int 1)] []))
    refine g_iload hG X25 hx (hb hby at_286) (pc' := 288) rfl rfl ?_
    show G (T25.setTop (mkF m 288 #[.val (.int i0), .val (.int i1), .val (.int i2), .val (.int i3), .val (.int v2), .val (.int v12), .val (.int v17), .val (.int v27), .val (.int v32), .val (.int v42), .val (.int v47), .val (.int v57), .val (.ref zz), .val (.ref bb), .val (.ref xx), .val (.ref a), .val (.int 2), .val (.int 1)] [(.int 1)]))
    refine g_ifNo hG X25 hx (hb hby at_288) (pc' := 291) (by decide) rfl ?_
    show G (T25.setTop (mkF m 291 #[.val (.int i0), .val (.int i1), .val (.int i2), .val (.int i3), .val (.int v2), .val (.int v12), .val (.int v17), .val (.int v27), .val (.int v32), .val (.int v42), .val (.int v47), .val (.int v57), .val (.ref zz), .val (.ref bb), .val (.ref xx), .val (.ref a), .val (.int 2), .val (.int 1)] []))
    refine g_aload hG X25 hx (hb hby at_291) (pc' := 293) rfl rfl rfl ?_
    show G (T25.setTop (mkF m 293 #[.val (.int i0), .val (.int i1), .val (.int i2), .val (.int i3), .val (.int v2), .val (.int v12), .val (.int v17), .val (.int v27), .val (.int v32), .val (.int v42), .val (.int v47), .val (.int v57), .val (.ref zz), .val (.ref bb), .val (.ref xx), .val (.ref a), .val (.int 2), .val (.int 1)] [(.ref a)]))
    have nd := own_nd1 ps0
    obtain ⟨hf1, jf1⟩ := own_hd1 ps0
    obtain ⟨eE1, CK⟩ := own_stp CK jf1 (own_mn1 ps0 HI HBC)
    refine g_callV hG X25 hx hZ (y := (⟨"com/example/tributary/tributary/plan/NodeHeap", "poll", "()I"⟩ : MethodName)) 0 hown (wd hw 54 rfl) (wd hw 55 rfl) (wd hw 57 rfl) (wd hw 56 rfl) (wd hw 4 rfl) (wd hw 58 rfl) (by decide) (rmPo1 l Z a0 hw [] a hp pp ky (po2 (bv (vl B4)) q4h) K4h (bv (vl B4)) u1_1 T25.heap n0 Zs hf1 ⟨Ex_a, F_heap_a, F_position_a, F_key_a, F_size_a, V_hp, V_pp, V_ky⟩ ⟨ga, ghp, gpp, gky, d1, d2, d3, d4, d5, d6⟩ (own_I4n nd) own_HB0) (by decide) (by decide) (by rw [hml]; rfl) pd_10 rfl (argsL := []) (rest := []) rfl rfl (Nat.le_of_eq rfl) (hb hby at_293) rfl Ex_a (by decide) (by decide) (pc' := 296) rfl ?_
    intro T26 rv26 L26 X26 hQ26
    obtain ⟨rfl, Nq26, Kq26, Ex_a, F_heap_a, F_position_a, F_key_a, F_size_a, V_hp, V_pp, V_ky⟩ := hQ26
    have NF26 := Fr.app NF25 Nq26
    have V_zz := V_zz.keep Kq26 (ninS ne_zz_a (ninS dzhp (ninS dzpp (ninS dzky nin0))))
    have V_bb := V_bb.keep Kq26 (ninS ne_bb_a (ninS dbhp (ninS dbpp (ninS dbky nin0))))
    have V_xx := V_xx.keep Kq26 (ninS ne_xx_a (ninS dxhp (ninS dxpp (ninS dxky nin0))))
    have Zs := Nat.le_trans Zs Kq26.1
    show G (T26.setTop (mkF m 296 #[.val (.int i0), .val (.int i1), .val (.int i2), .val (.int i3), .val (.int v2), .val (.int v12), .val (.int v17), .val (.int v27), .val (.int v32), .val (.int v42), .val (.int v47), .val (.int v57), .val (.ref zz), .val (.ref bb), .val (.ref xx), .val (.ref a), .val (.int 2), .val (.int 1)] [(.int u1_1)]))
    refine g_aload hG X26 hx (hb hby at_296) (pc' := 298) rfl rfl rfl ?_
    show G (T26.setTop (mkF m 298 #[.val (.int i0), .val (.int i1), .val (.int i2), .val (.int i3), .val (.int v2), .val (.int v12), .val (.int v17), .val (.int v27), .val (.int v32), .val (.int v42), .val (.int v47), .val (.int v57), .val (.ref zz), .val (.ref bb), .val (.ref xx), .val (.ref a), .val (.int 2), .val (.int 1)] [(.ref xx), (.int u1_1)]))
    refine g_iconst hG X26 hx (hb hby at_298) (pc' := 299) rfl (v := (1 : Int32)) rfl ?_
    show G (T26.setTop (mkF m 299 #[.val (.int i0), .val (.int i1), .val (.int i2), .val (.int i3), .val (.int v2), .val (.int v12), .val (.int v17), .val (.int v27), .val (.int v32), .val (.int v42), .val (.int v47), .val (.int v57), .val (.ref zz), .val (.ref bb), .val (.ref xx), .val (.ref a), .val (.int 2), .val (.int 1)] [(.int 1), (.ref xx), (.int u1_1)]))
    refine g_iaload hG X26 hx hZ rfl V_xx (j := (1 : Int32)) (v := (.int (E4 (1 : Int32)))) (in4_nn in4_1) (in4_at in4_1 rfl) (hb hby at_299) (pc' := 300) rfl ?_
    show G (T26.setTop (mkF m 300 #[.val (.int i0), .val (.int i1), .val (.int i2), .val (.int i3), .val (.int v2), .val (.int v12), .val (.int v17), .val (.int v27), .val (.int v32), .val (.int v42), .val (.int v47), .val (.int v57), .val (.ref zz), .val (.ref bb), .val (.ref xx), .val (.ref a), .val (.int 2), .val (.int 1)] [(.int (E4 (1 : Int32))), (.int u1_1)]))
    refine g_icmpNo hG X26 hx (hb hby at_300) (pc' := 303) ((teq (Eq.symm eE1)).2) rfl ?_
    show G (T26.setTop (mkF m 303 #[.val (.int i0), .val (.int i1), .val (.int i2), .val (.int i3), .val (.int v2), .val (.int v12), .val (.int v17), .val (.int v27), .val (.int v32), .val (.int v42), .val (.int v47), .val (.int v57), .val (.ref zz), .val (.ref bb), .val (.ref xx), .val (.ref a), .val (.int 2), .val (.int 1)] []))
    refine g_iconst hG X26 hx (hb hby at_303) (pc' := 304) rfl (v := (1 : Int32)) rfl ?_
    show G (T26.setTop (mkF m 304 #[.val (.int i0), .val (.int i1), .val (.int i2), .val (.int i3), .val (.int v2), .val (.int v12), .val (.int v17), .val (.int v27), .val (.int v32), .val (.int v42), .val (.int v47), .val (.int v57), .val (.ref zz), .val (.ref bb), .val (.ref xx), .val (.ref a), .val (.int 2), .val (.int 1)] [(.int 1)]))
    refine g_goto hG X26 hx (hb hby at_304) (pc' := 308) (by decide) (by decide) ?_
    show G (T26.setTop (mkF m 308 #[.val (.int i0), .val (.int i1), .val (.int i2), .val (.int i3), .val (.int v2), .val (.int v12), .val (.int v17), .val (.int v27), .val (.int v32), .val (.int v42), .val (.int v47), .val (.int v57), .val (.ref zz), .val (.ref bb), .val (.ref xx), .val (.ref a), .val (.int 2), .val (.int 1)] [(.int 1)]))
    refine g_istore hG X26 hx (hb hby at_308) (pc' := 310) rfl (Ls' := #[.val (.int i0), .val (.int i1), .val (.int i2), .val (.int i3), .val (.int v2), .val (.int v12), .val (.int v17), .val (.int v27), .val (.int v32), .val (.int v42), .val (.int v47), .val (.int v57), .val (.ref zz), .val (.ref bb), .val (.ref xx), .val (.ref a), .val (.int 2), .val (.int 1)]) rfl ?_
    show G (T26.setTop (mkF m 310 #[.val (.int i0), .val (.int i1), .val (.int i2), .val (.int i3), .val (.int v2), .val (.int v12), .val (.int v17), .val (.int v27), .val (.int v32), .val (.int v42), .val (.int v47), .val (.int v57), .val (.ref zz), .val (.ref bb), .val (.ref xx), .val (.ref a), .val (.int 2), .val (.int 1)] []))
    refine g_iload hG X26 hx (hb hby at_310) (pc' := 312) rfl rfl ?_
    show G (T26.setTop (mkF m 312 #[.val (.int i0), .val (.int i1), .val (.int i2), .val (.int i3), .val (.int v2), .val (.int v12), .val (.int v17), .val (.int v27), .val (.int v32), .val (.int v42), .val (.int v47), .val (.int v57), .val (.ref zz), .val (.ref bb), .val (.ref xx), .val (.ref a), .val (.int 2), .val (.int 1)] [(.int 2)]))
    refine g_iconst hG X26 hx (hb hby at_312) (pc' := 313) rfl (v := (2 : Int32)) rfl ?_
    show G (T26.setTop (mkF m 313 #[.val (.int i0), .val (.int i1), .val (.int i2), .val (.int i3), .val (.int v2), .val (.int v12), .val (.int v17), .val (.int v27), .val (.int v32), .val (.int v42), .val (.int v47), .val (.int v57), .val (.ref zz), .val (.ref bb), .val (.ref xx), .val (.ref a), .val (.int 2), .val (.int 1)] [(.int 2), (.int 2)]))
    refine g_icmpYes hG X26 hx (hb hby at_313) (pc' := 340) (by decide) (by decide) (by decide) ?_
    show G (T26.setTop (mkF m 340 #[.val (.int i0), .val (.int i1), .val (.int i2), .val (.int i3), .val (.int v2), .val (.int v12), .val (.int v17), .val (.int v27), .val (.int v32), .val (.int v42), .val (.int v47), .val (.int v57), .val (.ref zz), .val (.ref bb), .val (.ref xx), .val (.ref a), .val (.int 2), .val (.int 1)] []))
    refine g_iload hG X26 hx (hb hby at_340) (pc' := 342) rfl rfl ?_
    show G (T26.setTop (mkF m 342 #[.val (.int i0), .val (.int i1), .val (.int i2), .val (.int i3), .val (.int v2), .val (.int v12), .val (.int v17), .val (.int v27), .val (.int v32), .val (.int v42), .val (.int v47), .val (.int v57), .val (.ref zz), .val (.ref bb), .val (.ref xx), .val (.ref a), .val (.int 2), .val (.int 1)] [(.int 2)]))
    refine g_iconst hG X26 hx (hb hby at_342) (pc' := 343) rfl (v := (3 : Int32)) rfl ?_
    show G (T26.setTop (mkF m 343 #[.val (.int i0), .val (.int i1), .val (.int i2), .val (.int i3), .val (.int v2), .val (.int v12), .val (.int v17), .val (.int v27), .val (.int v32), .val (.int v42), .val (.int v47), .val (.int v57), .val (.ref zz), .val (.ref bb), .val (.ref xx), .val (.ref a), .val (.int 2), .val (.int 1)] [(.int 3), (.int 2)]))
    refine g_icmpYes hG X26 hx (hb hby at_343) (pc' := 370) (by decide) (by decide) (by decide) ?_
    show G (T26.setTop (mkF m 370 #[.val (.int i0), .val (.int i1), .val (.int i2), .val (.int i3), .val (.int v2), .val (.int v12), .val (.int v17), .val (.int v27), .val (.int v32), .val (.int v42), .val (.int v47), .val (.int v57), .val (.ref zz), .val (.ref bb), .val (.ref xx), .val (.ref a), .val (.int 2), .val (.int 1)] []))
    refine g_iload hG X26 hx (hb hby at_370) (pc' := 372) rfl rfl ?_
    show G (T26.setTop (mkF m 372 #[.val (.int i0), .val (.int i1), .val (.int i2), .val (.int i3), .val (.int v2), .val (.int v12), .val (.int v17), .val (.int v27), .val (.int v32), .val (.int v42), .val (.int v47), .val (.int v57), .val (.ref zz), .val (.ref bb), .val (.ref xx), .val (.ref a), .val (.int 2), .val (.int 1)] [(.int 1)]))
    refine g_ifNo hG X26 hx (hb hby at_372) (pc' := 375) (by decide) rfl ?_
    show G (T26.setTop (mkF m 375 #[.val (.int i0), .val (.int i1), .val (.int i2), .val (.int i3), .val (.int v2), .val (.int v12), .val (.int v17), .val (.int v27), .val (.int v32), .val (.int v42), .val (.int v47), .val (.int v57), .val (.ref zz), .val (.ref bb), .val (.ref xx), .val (.ref a), .val (.int 2), .val (.int 1)] []))
    refine g_aload hG X26 hx (hb hby at_375) (pc' := 377) rfl rfl rfl ?_
    show G (T26.setTop (mkF m 377 #[.val (.int i0), .val (.int i1), .val (.int i2), .val (.int i3), .val (.int v2), .val (.int v12), .val (.int v17), .val (.int v27), .val (.int v32), .val (.int v42), .val (.int v47), .val (.int v57), .val (.ref zz), .val (.ref bb), .val (.ref xx), .val (.ref a), .val (.int 2), .val (.int 1)] [(.ref a)]))
    refine g_callV hG X26 hx hZ (y := (⟨"com/example/tributary/tributary/plan/NodeHeap", "isEmpty", "()Z"⟩ : MethodName)) 0 hown (wd hw 63 rfl) (wd hw 64 rfl) (wd hw 66 rfl) (wd hw 65 rfl) (wd hw 4 rfl) (wd hw 67 rfl) (by decide) (rmEm0 l Z a0 hw [] a hp pp ky (po1 (bv (vl B4)) (po2 (bv (vl B4)) q4h)) K4h T26.heap n0 Zs ⟨Ex_a, F_heap_a, F_position_a, F_key_a, F_size_a, V_hp, V_pp, V_ky⟩ ⟨ga, ghp, gpp, gky, d1, d2, d3, d4, d5, d6⟩) (by decide) (by decide) (by rw [hml]; rfl) pd_9 rfl (argsL := []) (rest := []) rfl rfl (Nat.le_of_eq rfl) (hb hby at_377) rfl Ex_a (by decide) (by decide) (pc' := 380) rfl ?_
    intro T27 rv27 L27 X27 hQ27
    obtain ⟨rfl, Nq27, eh27⟩ := hQ27
    have NF27 := Fr.app NF26 Nq27
    show G (T27.setTop (mkF m 380 #[.val (.int i0), .val (.int i1), .val (.int i2), .val (.int i3), .val (.int v2), .val (.int v12), .val (.int v17), .val (.int v27), .val (.int v32), .val (.int v42), .val (.int v47), .val (.int v57), .val (.ref zz), .val (.ref bb), .val (.ref xx), .val (.ref a), .val (.int 2), .val (.int 1)] [(.int 1)]))
    refine g_ifNo hG X27 hx (hb hby at_380) (pc' := 383) (by decide) rfl ?_
    show G (T27.setTop (mkF m 383 #[.val (.int i0), .val (.int i1), .val (.int i2), .val (.int i3), .val (.int v2), .val (.int v12), .val (.int v17), .val (.int v27), .val (.int v32), .val (.int v42), .val (.int v47), .val (.int v57), .val (.ref zz), .val (.ref bb), .val (.ref xx), .val (.ref a), .val (.int 2), .val (.int 1)] []))
    refine g_iconst hG X27 hx (hb hby at_383) (pc' := 384) rfl (v := (1 : Int32)) rfl ?_
    show G (T27.setTop (mkF m 384 #[.val (.int i0), .val (.int i1), .val (.int i2), .val (.int i3), .val (.int v2), .val (.int v12), .val (.int v17), .val (.int v27), .val (.int v32), .val (.int v42), .val (.int v47), .val (.int v57), .val (.ref zz), .val (.ref bb), .val (.ref xx), .val (.ref a), .val (.int 2), .val (.int 1)] [(.int 1)]))
    refine g_goto hG X27 hx (hb hby at_384) (pc' := 388) (by decide) (by decide) ?_
    show G (T27.setTop (mkF m 388 #[.val (.int i0), .val (.int i1), .val (.int i2), .val (.int i3), .val (.int v2), .val (.int v12), .val (.int v17), .val (.int v27), .val (.int v32), .val (.int v42), .val (.int v47), .val (.int v57), .val (.ref zz), .val (.ref bb), .val (.ref xx), .val (.ref a), .val (.int 2), .val (.int 1)] [(.int 1)]))
    exact e_retZ hGe X27 hx hrt hlk (hb hby at_388) (Or.inr rfl) eh27 (by decide) (by decide) (⟨rfl, NF27⟩)
  · skip
    have ps0 := ps
    refine g_iload hG X21 hx (hb hby at_251) (pc' := 253) rfl rfl ?_
    show G (T21.setTop (mkF m 253 #[.val (.int i0), .val (.int i1), .val (.int i2), .val (.int i3), .val (.int v2), .val (.int v12), .val (.int v17), .val (.int v27), .val (.int v32), .val (.int v42), .val (.int v47), .val (.int v57), .val (.ref zz), .val (.ref bb), .val (.ref xx), .val (.ref a), .val (.int 3), .val (.int 1)] [(.int 3)]))
    refine g_ifNo hG X21 hx (hb hby at_253) (pc' := 256) (by decide) rfl ?_
    show G (T21.setTop (mkF m 256 #[.val (.int i0), .val (.int i1), .val (.int i2), .val (.int i3), .val (.int v2), .val (.int v12), .val (.int v17), .val (.int v27), .val (.int v32), .val (.int v42), .val (.int v47), .val (.int v57), .val (.ref zz), .val (.ref bb), .val (.ref xx), .val (.ref a), .val (.int 3), .val (.int 1)] []))
    refine g_iload hG X21 hx (hb hby at_256) (pc' := 258) rfl rfl ?_
    show G (T21.setTop (mkF m 258 #[.val (.int i0), .val (.int i1), .val (.int i2), .val (.int i3), .val (.int v2), .val (.int v12), .val (.int v17), .val (.int v27), .val (.int v32), .val (.int v42), .val (.int v47), .val (.int v57), .val (.ref zz), .val (.ref bb), .val (.ref xx), .val (.ref a), .val (.int 3), .val (.int 1)] [(.int 1)]))
    refine g_ifNo hG X21 hx (hb hby at_258) (pc' := 261) (by decide) rfl ?_
    show G (T21.setTop (mkF m 261 #[.val (.int i0), .val (.int i1), .val (.int i2), .val (.int i3), .val (.int v2), .val (.int v12), .val (.int v17), .val (.int v27), .val (.int v32), .val (.int v42), .val (.int v47), .val (.int v57), .val (.ref zz), .val (.ref bb), .val (.ref xx), .val (.ref a), .val (.int 3), .val (.int 1)] []))
    refine g_aload hG X21 hx (hb hby at_261) (pc' := 263) rfl rfl rfl ?_
    show G (T21.setTop (mkF m 263 #[.val (.int i0), .val (.int i1), .val (.int i2), .val (.int i3), .val (.int v2), .val (.int v12), .val (.int v17), .val (.int v27), .val (.int v32), .val (.int v42), .val (.int v47), .val (.int v57), .val (.ref zz), .val (.ref bb), .val (.ref xx), .val (.ref a), .val (.int 3), .val (.int 1)] [(.ref a)]))
    have nd := own_nd3 ps0
    obtain ⟨hf0, jf0⟩ := own_hd3 ps0
    obtain ⟨eE0, CK⟩ := own_stp CK jf0 (own_mn3 ps0 HI HBC)
    refine g_callV hG X21 hx hZ (y := (⟨"com/example/tributary/tributary/plan/NodeHeap", "poll", "()I"⟩ : MethodName)) 0 hown (wd hw 54 rfl) (wd hw 55 rfl) (wd hw 57 rfl) (wd hw 56 rfl) (wd hw 4 rfl) (wd hw 58 rfl) (by decide) (rmPo3 l Z a0 hw [] a hp pp ky q4h K4h (bv (vl B4)) u1 T21.heap n0 Zs hf0 ⟨Ex_a, F_heap_a, F_position_a, F_key_a, F_size_a, V_hp, V_pp, V_ky⟩ ⟨ga, ghp, gpp, gky, d1, d2, d3, d4, d5, d6⟩ (own_I4n nd) (own_HBv nd kd)) (by decide) (by decide) (by rw [hml]; rfl) pd_10 rfl (argsL := []) (rest := []) rfl rfl (Nat.le_of_eq rfl) (hb hby at_263) rfl Ex_a (by decide) (by decide) (pc' := 266) rfl ?_
    intro T28 rv28 L28 X28 hQ28
    obtain ⟨rfl, Nq28, Kq28, Ex_a, F_heap_a, F_position_a, F_key_a, F_size_a, V_hp, V_pp, V_ky⟩ := hQ28
    have NF28 := Fr.app NF21 Nq28
    have V_zz := V_zz.keep Kq28 (ninS ne_zz_a (ninS dzhp (ninS dzpp (ninS dzky nin0))))
    have V_bb := V_bb.keep Kq28 (ninS ne_bb_a (ninS dbhp (ninS dbpp (ninS dbky nin0))))
    have V_xx := V_xx.keep Kq28 (ninS ne_xx_a (ninS dxhp (ninS dxpp (ninS dxky nin0))))
    have Zs := Nat.le_trans Zs Kq28.1
    obtain ⟨u1_1, u2_1, ps0⟩ := own_po3 ps0
    have kd := kd_del (x := u1) kd
    show G (T28.setTop (mkF m 266 #[.val (.int i0), .val (.int i1), .val (.int i2), .val (.int i3), .val (.int v2), .val (.int v12), .val (.int v17), .val (.int v27), .val (.int v32), .val (.int v42), .val (.int v47), .val (.int v57), .val (.ref zz), .val (.ref bb), .val (.ref xx), .val (.ref a), .val (.int 3), .val (.int 1)] [(.int u1)]))
    refine g_aload hG X28 hx (hb hby at_266) (pc' := 268) rfl rfl rfl ?_
    show G (T28.setTop (mkF m 268 #[.val (.int i0), .val (.int i1), .val (.int i2), .val (.int i3), .val (.int v2), .val (.int v12), .val (.int v17), .val (.int v27), .val (.int v32), .val (.int v42), .val (.int v47), .val (.int v57), .val (.ref zz), .val (.ref bb), .val (.ref xx), .val (.ref a), .val (.int 3), .val (.int 1)] [(.ref xx), (.int u1)]))
    refine g_iconst hG X28 hx (hb hby at_268) (pc' := 269) rfl (v := (0 : Int32)) rfl ?_
    show G (T28.setTop (mkF m 269 #[.val (.int i0), .val (.int i1), .val (.int i2), .val (.int i3), .val (.int v2), .val (.int v12), .val (.int v17), .val (.int v27), .val (.int v32), .val (.int v42), .val (.int v47), .val (.int v57), .val (.ref zz), .val (.ref bb), .val (.ref xx), .val (.ref a), .val (.int 3), .val (.int 1)] [(.int 0), (.ref xx), (.int u1)]))
    refine g_iaload hG X28 hx hZ rfl V_xx (j := (0 : Int32)) (v := (.int (E4 (0 : Int32)))) (in4_nn in4_0) (in4_at in4_0 rfl) (hb hby at_269) (pc' := 270) rfl ?_
    show G (T28.setTop (mkF m 270 #[.val (.int i0), .val (.int i1), .val (.int i2), .val (.int i3), .val (.int v2), .val (.int v12), .val (.int v17), .val (.int v27), .val (.int v32), .val (.int v42), .val (.int v47), .val (.int v57), .val (.ref zz), .val (.ref bb), .val (.ref xx), .val (.ref a), .val (.int 3), .val (.int 1)] [(.int (E4 (0 : Int32))), (.int u1)]))
    refine g_icmpNo hG X28 hx (hb hby at_270) (pc' := 273) ((teq (Eq.symm eE0)).2) rfl ?_
    show G (T28.setTop (mkF m 273 #[.val (.int i0), .val (.int i1), .val (.int i2), .val (.int i3), .val (.int v2), .val (.int v12), .val (.int v17), .val (.int v27), .val (.int v32), .val (.int v42), .val (.int v47), .val (.int v57), .val (.ref zz), .val (.ref bb), .val (.ref xx), .val (.ref a), .val (.int 3), .val (.int 1)] []))
    refine g_iconst hG X28 hx (hb hby at_273) (pc' := 274) rfl (v := (1 : Int32)) rfl ?_
    show G (T28.setTop (mkF m 274 #[.val (.int i0), .val (.int i1), .val (.int i2), .val (.int i3), .val (.int v2), .val (.int v12), .val (.int v17), .val (.int v27), .val (.int v32), .val (.int v42), .val (.int v47), .val (.int v57), .val (.ref zz), .val (.ref bb), .val (.ref xx), .val (.ref a), .val (.int 3), .val (.int 1)] [(.int 1)]))
    refine g_goto hG X28 hx (hb hby at_274) (pc' := 278) (by decide) (by decide) ?_
    show G (T28.setTop (mkF m 278 #[.val (.int i0), .val (.int i1), .val (.int i2), .val (.int i3), .val (.int v2), .val (.int v12), .val (.int v17), .val (.int v27), .val (.int v32), .val (.int v42), .val (.int v47), .val (.int v57), .val (.ref zz), .val (.ref bb), .val (.ref xx), .val (.ref a), .val (.int 3), .val (.int 1)] [(.int 1)]))
    refine g_istore hG X28 hx (hb hby at_278) (pc' := 280) rfl (Ls' := #[.val (.int i0), .val (.int i1), .val (.int i2), .val (.int i3), .val (.int v2), .val (.int v12), .val (.int v17), .val (.int v27), .val (.int v32), .val (.int v42), .val (.int v47), .val (.int v57), .val (.ref zz), .val (.ref bb), .val (.ref xx), .val (.ref a), .val (.int 3), .val (.int 1)]) rfl ?_
    show G (T28.setTop (mkF m 280 #[.val (.int i0), .val (.int i1), .val (.int i2), .val (.int i3), .val (.int v2), .val (.int v12), .val (.int v17), .val (.int v27), .val (.int v32), .val (.int v42), .val (.int v47), .val (.int v57), .val (.ref zz), .val (.ref bb), .val (.ref xx), .val (.ref a), .val (.int 3), .val (.int 1)] []))
    refine g_iload hG X28 hx (hb hby at_280) (pc' := 282) rfl rfl ?_
    show G (T28.setTop (mkF m 282 #[.val (.int i0), .val (.int i1), .val (.int i2), .val (.int i3), .val (.int v2), .val (.int v12), .val (.int v17), .val (.int v27), .val (.int v32), .val (.int v42), .val (.int v47), .val (.int v57), .val (.ref zz), .val (.ref bb), .val (.ref xx), .val (.ref a), .val (.int 3), .val (.int 1)] [(.int 3)]))
    refine g_iconst hG X28 hx (hb hby at_282) (pc' := 283) rfl (v := (1 : Int32)) rfl ?_
    show G (T28.setTop (mkF m 283 #[.val (.int i0), .val (.int i1), .val (.int i2), .val (.int i3), .val (.int v2), .val (.int v12), .val (.int v17), .val (.int v27), .val (.int v32), .val (.int v42), .val (.int v47), .val (.int v57), .val (.ref zz), .val (.ref bb), .val (.ref xx), .val (.ref a), .val (.int 3), .val (.int 1)] [(.int 1), (.int 3)]))
    refine g_icmpNo hG X28 hx (hb hby at_283) (pc' := 286) (by decide) rfl ?_
    show G (T28.setTop (mkF m 286 #[.val (.int i0), .val (.int i1), .val (.int i2), .val (.int i3), .val (.int v2), .val (.int v12), .val (.int v17), .val (.int v27), .val (.int v32), .val (.int v42), .val (.int v47), .val (.int v57), .val (.ref zz), .val (.ref bb), .val (.ref xx), .val (.ref a), .val (.int 3), .val (.int 1)] []))
    refine g_iload hG X28 hx (hb hby at_286) (pc' := 288) rfl rfl ?_
    show G (T28.setTop (mkF m 288 #[.val (.int i0), .val (.int i1), .val (.int i2), .val (.int i3), .val (.int v2), .val (.int v12), .val (.int v17), .val (.int v27), .val (.int v32), .val (.int v42), .val (.int v47), .val (.int v57), .val (.ref zz), .val (.ref bb), .val (.ref xx), .val (.ref a), .val (.int 3), .val (.int 1)] [(.int 1)]))
    refine g_ifNo hG X28 hx (hb hby at_288) (pc' := 291) (by decide) rfl ?_
    show G (T28.setTop (mkF m 291 #[.val (.int i0), .val (.int i1), .val (.int i2), .val (.int i3), .val (.int v2), .val (.int v12), .val (.int v17), .val (.int v27), .val (.int v32), .val (.int v42), .val (.int v47), .val (.int v57), .val (.ref zz), .val (.ref bb), .val (.ref xx), .val (.ref a), .val (.int 3), .val (.int 1)] []))
    refine g_aload hG X28 hx (hb hby at_291) (pc' := 293) rfl rfl rfl ?_
    show G (T28.setTop (mkF m 293 #[.val (.int i0), .val (.int i1), .val (.int i2), .val (.int i3), .val (.int v2), .val (.int v12), .val (.int v17), .val (.int v27), .val (.int v32), .val (.int v42), .val (.int v47), .val (.int v57), .val (.ref zz), .val (.ref bb), .val (.ref xx), .val (.ref a), .val (.int 3), .val (.int 1)] [(.ref a)]))
    have nd := own_nd2 ps0
    obtain ⟨hf1, jf1⟩ := own_hd2 ps0
    obtain ⟨eE1, CK⟩ := own_stp CK jf1 (own_mn2 ps0 HI HBC)
    refine g_callV hG X28 hx hZ (y := (⟨"com/example/tributary/tributary/plan/NodeHeap", "poll", "()I"⟩ : MethodName)) 0 hown (wd hw 54 rfl) (wd hw 55 rfl) (wd hw 57 rfl) (wd hw 56 rfl) (wd hw 4 rfl) (wd hw 58 rfl) (by decide) (rmPo2 l Z a0 hw [] a hp pp ky (po3 (bv (vl B4)) q4h) K4h (bv (vl B4)) u1_1 T28.heap n0 Zs hf1 ⟨Ex_a, F_heap_a, F_position_a, F_key_a, F_size_a, V_hp, V_pp, V_ky⟩ ⟨ga, ghp, gpp, gky, d1, d2, d3, d4, d5, d6⟩ (own_I4n nd) own_HB0) (by decide) (by decide) (by rw [hml]; rfl) pd_10 rfl (argsL := []) (rest := []) rfl rfl (Nat.le_of_eq rfl) (hb hby at_293) rfl Ex_a (by decide) (by decide) (pc' := 296) rfl ?_
    intro T29 rv29 L29 X29 hQ29
    obtain ⟨rfl, Nq29, Kq29, Ex_a, F_heap_a, F_position_a, F_key_a, F_size_a, V_hp, V_pp, V_ky⟩ := hQ29
    have NF29 := Fr.app NF28 Nq29
    have V_zz := V_zz.keep Kq29 (ninS ne_zz_a (ninS dzhp (ninS dzpp (ninS dzky nin0))))
    have V_bb := V_bb.keep Kq29 (ninS ne_bb_a (ninS dbhp (ninS dbpp (ninS dbky nin0))))
    have V_xx := V_xx.keep Kq29 (ninS ne_xx_a (ninS dxhp (ninS dxpp (ninS dxky nin0))))
    have Zs := Nat.le_trans Zs Kq29.1
    obtain ⟨u1_2, ps0⟩ := own_po2 ps0
    have kd := kd_del (x := u1_1) kd
    show G (T29.setTop (mkF m 296 #[.val (.int i0), .val (.int i1), .val (.int i2), .val (.int i3), .val (.int v2), .val (.int v12), .val (.int v17), .val (.int v27), .val (.int v32), .val (.int v42), .val (.int v47), .val (.int v57), .val (.ref zz), .val (.ref bb), .val (.ref xx), .val (.ref a), .val (.int 3), .val (.int 1)] [(.int u1_1)]))
    refine g_aload hG X29 hx (hb hby at_296) (pc' := 298) rfl rfl rfl ?_
    show G (T29.setTop (mkF m 298 #[.val (.int i0), .val (.int i1), .val (.int i2), .val (.int i3), .val (.int v2), .val (.int v12), .val (.int v17), .val (.int v27), .val (.int v32), .val (.int v42), .val (.int v47), .val (.int v57), .val (.ref zz), .val (.ref bb), .val (.ref xx), .val (.ref a), .val (.int 3), .val (.int 1)] [(.ref xx), (.int u1_1)]))
    refine g_iconst hG X29 hx (hb hby at_298) (pc' := 299) rfl (v := (1 : Int32)) rfl ?_
    show G (T29.setTop (mkF m 299 #[.val (.int i0), .val (.int i1), .val (.int i2), .val (.int i3), .val (.int v2), .val (.int v12), .val (.int v17), .val (.int v27), .val (.int v32), .val (.int v42), .val (.int v47), .val (.int v57), .val (.ref zz), .val (.ref bb), .val (.ref xx), .val (.ref a), .val (.int 3), .val (.int 1)] [(.int 1), (.ref xx), (.int u1_1)]))
    refine g_iaload hG X29 hx hZ rfl V_xx (j := (1 : Int32)) (v := (.int (E4 (1 : Int32)))) (in4_nn in4_1) (in4_at in4_1 rfl) (hb hby at_299) (pc' := 300) rfl ?_
    show G (T29.setTop (mkF m 300 #[.val (.int i0), .val (.int i1), .val (.int i2), .val (.int i3), .val (.int v2), .val (.int v12), .val (.int v17), .val (.int v27), .val (.int v32), .val (.int v42), .val (.int v47), .val (.int v57), .val (.ref zz), .val (.ref bb), .val (.ref xx), .val (.ref a), .val (.int 3), .val (.int 1)] [(.int (E4 (1 : Int32))), (.int u1_1)]))
    refine g_icmpNo hG X29 hx (hb hby at_300) (pc' := 303) ((teq (Eq.symm eE1)).2) rfl ?_
    show G (T29.setTop (mkF m 303 #[.val (.int i0), .val (.int i1), .val (.int i2), .val (.int i3), .val (.int v2), .val (.int v12), .val (.int v17), .val (.int v27), .val (.int v32), .val (.int v42), .val (.int v47), .val (.int v57), .val (.ref zz), .val (.ref bb), .val (.ref xx), .val (.ref a), .val (.int 3), .val (.int 1)] []))
    refine g_iconst hG X29 hx (hb hby at_303) (pc' := 304) rfl (v := (1 : Int32)) rfl ?_
    show G (T29.setTop (mkF m 304 #[.val (.int i0), .val (.int i1), .val (.int i2), .val (.int i3), .val (.int v2), .val (.int v12), .val (.int v17), .val (.int v27), .val (.int v32), .val (.int v42), .val (.int v47), .val (.int v57), .val (.ref zz), .val (.ref bb), .val (.ref xx), .val (.ref a), .val (.int 3), .val (.int 1)] [(.int 1)]))
    refine g_goto hG X29 hx (hb hby at_304) (pc' := 308) (by decide) (by decide) ?_
    show G (T29.setTop (mkF m 308 #[.val (.int i0), .val (.int i1), .val (.int i2), .val (.int i3), .val (.int v2), .val (.int v12), .val (.int v17), .val (.int v27), .val (.int v32), .val (.int v42), .val (.int v47), .val (.int v57), .val (.ref zz), .val (.ref bb), .val (.ref xx), .val (.ref a), .val (.int 3), .val (.int 1)] [(.int 1)]))
    refine g_istore hG X29 hx (hb hby at_308) (pc' := 310) rfl (Ls' := #[.val (.int i0), .val (.int i1), .val (.int i2), .val (.int i3), .val (.int v2), .val (.int v12), .val (.int v17), .val (.int v27), .val (.int v32), .val (.int v42), .val (.int v47), .val (.int v57), .val (.ref zz), .val (.ref bb), .val (.ref xx), .val (.ref a), .val (.int 3), .val (.int 1)]) rfl ?_
    show G (T29.setTop (mkF m 310 #[.val (.int i0), .val (.int i1), .val (.int i2), .val (.int i3), .val (.int v2), .val (.int v12), .val (.int v17), .val (.int v27), .val (.int v32), .val (.int v42), .val (.int v47), .val (.int v57), .val (.ref zz), .val (.ref bb), .val (.ref xx), .val (.ref a), .val (.int 3), .val (.int 1)] []))
    refine g_iload hG X29 hx (hb hby at_310) (pc' := 312) rfl rfl ?_
    show G (T29.setTop (mkF m 312 #[.val (.int i0), .val (.int i1), .val (.int i2), .val (.int i3), .val (.int v2), .val (.int v12), .val (.int v17), .val (.int v27), .val (.int v32), .val (.int v42), .val (.int v47), .val (.int v57), .val (.ref zz), .val (.ref bb), .val (.ref xx), .val (.ref a), .val (.int 3), .val (.int 1)] [(.int 3)]))
    refine g_iconst hG X29 hx (hb hby at_312) (pc' := 313) rfl (v := (2 : Int32)) rfl ?_
    show G (T29.setTop (mkF m 313 #[.val (.int i0), .val (.int i1), .val (.int i2), .val (.int i3), .val (.int v2), .val (.int v12), .val (.int v17), .val (.int v27), .val (.int v32), .val (.int v42), .val (.int v47), .val (.int v57), .val (.ref zz), .val (.ref bb), .val (.ref xx), .val (.ref a), .val (.int 3), .val (.int 1)] [(.int 2), (.int 3)]))
    refine g_icmpNo hG X29 hx (hb hby at_313) (pc' := 316) (by decide) rfl ?_
    show G (T29.setTop (mkF m 316 #[.val (.int i0), .val (.int i1), .val (.int i2), .val (.int i3), .val (.int v2), .val (.int v12), .val (.int v17), .val (.int v27), .val (.int v32), .val (.int v42), .val (.int v47), .val (.int v57), .val (.ref zz), .val (.ref bb), .val (.ref xx), .val (.ref a), .val (.int 3), .val (.int 1)] []))
    refine g_iload hG X29 hx (hb hby at_316) (pc' := 318) rfl rfl ?_
    show G (T29.setTop (mkF m 318 #[.val (.int i0), .val (.int i1), .val (.int i2), .val (.int i3), .val (.int v2), .val (.int v12), .val (.int v17), .val (.int v27), .val (.int v32), .val (.int v42), .val (.int v47), .val (.int v57), .val (.ref zz), .val (.ref bb), .val (.ref xx), .val (.ref a), .val (.int 3), .val (.int 1)] [(.int 1)]))
    refine g_ifNo hG X29 hx (hb hby at_318) (pc' := 321) (by decide) rfl ?_
    show G (T29.setTop (mkF m 321 #[.val (.int i0), .val (.int i1), .val (.int i2), .val (.int i3), .val (.int v2), .val (.int v12), .val (.int v17), .val (.int v27), .val (.int v32), .val (.int v42), .val (.int v47), .val (.int v57), .val (.ref zz), .val (.ref bb), .val (.ref xx), .val (.ref a), .val (.int 3), .val (.int 1)] []))
    refine g_aload hG X29 hx (hb hby at_321) (pc' := 323) rfl rfl rfl ?_
    show G (T29.setTop (mkF m 323 #[.val (.int i0), .val (.int i1), .val (.int i2), .val (.int i3), .val (.int v2), .val (.int v12), .val (.int v17), .val (.int v27), .val (.int v32), .val (.int v42), .val (.int v47), .val (.int v57), .val (.ref zz), .val (.ref bb), .val (.ref xx), .val (.ref a), .val (.int 3), .val (.int 1)] [(.ref a)]))
    have nd := own_nd1 ps0
    obtain ⟨hf2, jf2⟩ := own_hd1 ps0
    obtain ⟨eE2, CK⟩ := own_stp CK jf2 (own_mn1 ps0 HI HBC)
    refine g_callV hG X29 hx hZ (y := (⟨"com/example/tributary/tributary/plan/NodeHeap", "poll", "()I"⟩ : MethodName)) 0 hown (wd hw 54 rfl) (wd hw 55 rfl) (wd hw 57 rfl) (wd hw 56 rfl) (wd hw 4 rfl) (wd hw 58 rfl) (by decide) (rmPo1 l Z a0 hw [] a hp pp ky (po2 (bv (vl B4)) (po3 (bv (vl B4)) q4h)) K4h (bv (vl B4)) u1_2 T29.heap n0 Zs hf2 ⟨Ex_a, F_heap_a, F_position_a, F_key_a, F_size_a, V_hp, V_pp, V_ky⟩ ⟨ga, ghp, gpp, gky, d1, d2, d3, d4, d5, d6⟩ (own_I4n nd) own_HB0) (by decide) (by decide) (by rw [hml]; rfl) pd_10 rfl (argsL := []) (rest := []) rfl rfl (Nat.le_of_eq rfl) (hb hby at_323) rfl Ex_a (by decide) (by decide) (pc' := 326) rfl ?_
    intro T30 rv30 L30 X30 hQ30
    obtain ⟨rfl, Nq30, Kq30, Ex_a, F_heap_a, F_position_a, F_key_a, F_size_a, V_hp, V_pp, V_ky⟩ := hQ30
    have NF30 := Fr.app NF29 Nq30
    have V_zz := V_zz.keep Kq30 (ninS ne_zz_a (ninS dzhp (ninS dzpp (ninS dzky nin0))))
    have V_bb := V_bb.keep Kq30 (ninS ne_bb_a (ninS dbhp (ninS dbpp (ninS dbky nin0))))
    have V_xx := V_xx.keep Kq30 (ninS ne_xx_a (ninS dxhp (ninS dxpp (ninS dxky nin0))))
    have Zs := Nat.le_trans Zs Kq30.1
    show G (T30.setTop (mkF m 326 #[.val (.int i0), .val (.int i1), .val (.int i2), .val (.int i3), .val (.int v2), .val (.int v12), .val (.int v17), .val (.int v27), .val (.int v32), .val (.int v42), .val (.int v47), .val (.int v57), .val (.ref zz), .val (.ref bb), .val (.ref xx), .val (.ref a), .val (.int 3), .val (.int 1)] [(.int u1_2)]))
    refine g_aload hG X30 hx (hb hby at_326) (pc' := 328) rfl rfl rfl ?_
    show G (T30.setTop (mkF m 328 #[.val (.int i0), .val (.int i1), .val (.int i2), .val (.int i3), .val (.int v2), .val (.int v12), .val (.int v17), .val (.int v27), .val (.int v32), .val (.int v42), .val (.int v47), .val (.int v57), .val (.ref zz), .val (.ref bb), .val (.ref xx), .val (.ref a), .val (.int 3), .val (.int 1)] [(.ref xx), (.int u1_2)]))
    refine g_iconst hG X30 hx (hb hby at_328) (pc' := 329) rfl (v := (2 : Int32)) rfl ?_
    show G (T30.setTop (mkF m 329 #[.val (.int i0), .val (.int i1), .val (.int i2), .val (.int i3), .val (.int v2), .val (.int v12), .val (.int v17), .val (.int v27), .val (.int v32), .val (.int v42), .val (.int v47), .val (.int v57), .val (.ref zz), .val (.ref bb), .val (.ref xx), .val (.ref a), .val (.int 3), .val (.int 1)] [(.int 2), (.ref xx), (.int u1_2)]))
    refine g_iaload hG X30 hx hZ rfl V_xx (j := (2 : Int32)) (v := (.int (E4 (2 : Int32)))) (in4_nn in4_2) (in4_at in4_2 rfl) (hb hby at_329) (pc' := 330) rfl ?_
    show G (T30.setTop (mkF m 330 #[.val (.int i0), .val (.int i1), .val (.int i2), .val (.int i3), .val (.int v2), .val (.int v12), .val (.int v17), .val (.int v27), .val (.int v32), .val (.int v42), .val (.int v47), .val (.int v57), .val (.ref zz), .val (.ref bb), .val (.ref xx), .val (.ref a), .val (.int 3), .val (.int 1)] [(.int (E4 (2 : Int32))), (.int u1_2)]))
    refine g_icmpNo hG X30 hx (hb hby at_330) (pc' := 333) ((teq (Eq.symm eE2)).2) rfl ?_
    show G (T30.setTop (mkF m 333 #[.val (.int i0), .val (.int i1), .val (.int i2), .val (.int i3), .val (.int v2), .val (.int v12), .val (.int v17), .val (.int v27), .val (.int v32), .val (.int v42), .val (.int v47), .val (.int v57), .val (.ref zz), .val (.ref bb), .val (.ref xx), .val (.ref a), .val (.int 3), .val (.int 1)] []))
    refine g_iconst hG X30 hx (hb hby at_333) (pc' := 334) rfl (v := (1 : Int32)) rfl ?_
    show G (T30.setTop (mkF m 334 #[.val (.int i0), .val (.int i1), .val (.int i2), .val (.int i3), .val (.int v2), .val (.int v12), .val (.int v17), .val (.int v27), .val (.int v32), .val (.int v42), .val (.int v47), .val (.int v57), .val (.ref zz), .val (.ref bb), .val (.ref xx), .val (.ref a), .val (.int 3), .val (.int 1)] [(.int 1)]))
    refine g_goto hG X30 hx (hb hby at_334) (pc' := 338) (by decide) (by decide) ?_
    show G (T30.setTop (mkF m 338 #[.val (.int i0), .val (.int i1), .val (.int i2), .val (.int i3), .val (.int v2), .val (.int v12), .val (.int v17), .val (.int v27), .val (.int v32), .val (.int v42), .val (.int v47), .val (.int v57), .val (.ref zz), .val (.ref bb), .val (.ref xx), .val (.ref a), .val (.int 3), .val (.int 1)] [(.int 1)]))
    refine g_istore hG X30 hx (hb hby at_338) (pc' := 340) rfl (Ls' := #[.val (.int i0), .val (.int i1), .val (.int i2), .val (.int i3), .val (.int v2), .val (.int v12), .val (.int v17), .val (.int v27), .val (.int v32), .val (.int v42), .val (.int v47), .val (.int v57), .val (.ref zz), .val (.ref bb), .val (.ref xx), .val (.ref a), .val (.int 3), .val (.int 1)]) rfl ?_
    show G (T30.setTop (mkF m 340 #[.val (.int i0), .val (.int i1), .val (.int i2), .val (.int i3), .val (.int v2), .val (.int v12), .val (.int v17), .val (.int v27), .val (.int v32), .val (.int v42), .val (.int v47), .val (.int v57), .val (.ref zz), .val (.ref bb), .val (.ref xx), .val (.ref a), .val (.int 3), .val (.int 1)] []))
    refine g_iload hG X30 hx (hb hby at_340) (pc' := 342) rfl rfl ?_
    show G (T30.setTop (mkF m 342 #[.val (.int i0), .val (.int i1), .val (.int i2), .val (.int i3), .val (.int v2), .val (.int v12), .val (.int v17), .val (.int v27), .val (.int v32), .val (.int v42), .val (.int v47), .val (.int v57), .val (.ref zz), .val (.ref bb), .val (.ref xx), .val (.ref a), .val (.int 3), .val (.int 1)] [(.int 3)]))
    refine g_iconst hG X30 hx (hb hby at_342) (pc' := 343) rfl (v := (3 : Int32)) rfl ?_
    show G (T30.setTop (mkF m 343 #[.val (.int i0), .val (.int i1), .val (.int i2), .val (.int i3), .val (.int v2), .val (.int v12), .val (.int v17), .val (.int v27), .val (.int v32), .val (.int v42), .val (.int v47), .val (.int v57), .val (.ref zz), .val (.ref bb), .val (.ref xx), .val (.ref a), .val (.int 3), .val (.int 1)] [(.int 3), (.int 3)]))
    refine g_icmpYes hG X30 hx (hb hby at_343) (pc' := 370) (by decide) (by decide) (by decide) ?_
    show G (T30.setTop (mkF m 370 #[.val (.int i0), .val (.int i1), .val (.int i2), .val (.int i3), .val (.int v2), .val (.int v12), .val (.int v17), .val (.int v27), .val (.int v32), .val (.int v42), .val (.int v47), .val (.int v57), .val (.ref zz), .val (.ref bb), .val (.ref xx), .val (.ref a), .val (.int 3), .val (.int 1)] []))
    refine g_iload hG X30 hx (hb hby at_370) (pc' := 372) rfl rfl ?_
    show G (T30.setTop (mkF m 372 #[.val (.int i0), .val (.int i1), .val (.int i2), .val (.int i3), .val (.int v2), .val (.int v12), .val (.int v17), .val (.int v27), .val (.int v32), .val (.int v42), .val (.int v47), .val (.int v57), .val (.ref zz), .val (.ref bb), .val (.ref xx), .val (.ref a), .val (.int 3), .val (.int 1)] [(.int 1)]))
    refine g_ifNo hG X30 hx (hb hby at_372) (pc' := 375) (by decide) rfl ?_
    show G (T30.setTop (mkF m 375 #[.val (.int i0), .val (.int i1), .val (.int i2), .val (.int i3), .val (.int v2), .val (.int v12), .val (.int v17), .val (.int v27), .val (.int v32), .val (.int v42), .val (.int v47), .val (.int v57), .val (.ref zz), .val (.ref bb), .val (.ref xx), .val (.ref a), .val (.int 3), .val (.int 1)] []))
    refine g_aload hG X30 hx (hb hby at_375) (pc' := 377) rfl rfl rfl ?_
    show G (T30.setTop (mkF m 377 #[.val (.int i0), .val (.int i1), .val (.int i2), .val (.int i3), .val (.int v2), .val (.int v12), .val (.int v17), .val (.int v27), .val (.int v32), .val (.int v42), .val (.int v47), .val (.int v57), .val (.ref zz), .val (.ref bb), .val (.ref xx), .val (.ref a), .val (.int 3), .val (.int 1)] [(.ref a)]))
    refine g_callV hG X30 hx hZ (y := (⟨"com/example/tributary/tributary/plan/NodeHeap", "isEmpty", "()Z"⟩ : MethodName)) 0 hown (wd hw 63 rfl) (wd hw 64 rfl) (wd hw 66 rfl) (wd hw 65 rfl) (wd hw 4 rfl) (wd hw 67 rfl) (by decide) (rmEm0 l Z a0 hw [] a hp pp ky (po1 (bv (vl B4)) (po2 (bv (vl B4)) (po3 (bv (vl B4)) q4h))) K4h T30.heap n0 Zs ⟨Ex_a, F_heap_a, F_position_a, F_key_a, F_size_a, V_hp, V_pp, V_ky⟩ ⟨ga, ghp, gpp, gky, d1, d2, d3, d4, d5, d6⟩) (by decide) (by decide) (by rw [hml]; rfl) pd_9 rfl (argsL := []) (rest := []) rfl rfl (Nat.le_of_eq rfl) (hb hby at_377) rfl Ex_a (by decide) (by decide) (pc' := 380) rfl ?_
    intro T31 rv31 L31 X31 hQ31
    obtain ⟨rfl, Nq31, eh31⟩ := hQ31
    have NF31 := Fr.app NF30 Nq31
    show G (T31.setTop (mkF m 380 #[.val (.int i0), .val (.int i1), .val (.int i2), .val (.int i3), .val (.int v2), .val (.int v12), .val (.int v17), .val (.int v27), .val (.int v32), .val (.int v42), .val (.int v47), .val (.int v57), .val (.ref zz), .val (.ref bb), .val (.ref xx), .val (.ref a), .val (.int 3), .val (.int 1)] [(.int 1)]))
    refine g_ifNo hG X31 hx (hb hby at_380) (pc' := 383) (by decide) rfl ?_
    show G (T31.setTop (mkF m 383 #[.val (.int i0), .val (.int i1), .val (.int i2), .val (.int i3), .val (.int v2), .val (.int v12), .val (.int v17), .val (.int v27), .val (.int v32), .val (.int v42), .val (.int v47), .val (.int v57), .val (.ref zz), .val (.ref bb), .val (.ref xx), .val (.ref a), .val (.int 3), .val (.int 1)] []))
    refine g_iconst hG X31 hx (hb hby at_383) (pc' := 384) rfl (v := (1 : Int32)) rfl ?_
    show G (T31.setTop (mkF m 384 #[.val (.int i0), .val (.int i1), .val (.int i2), .val (.int i3), .val (.int v2), .val (.int v12), .val (.int v17), .val (.int v27), .val (.int v32), .val (.int v42), .val (.int v47), .val (.int v57), .val (.ref zz), .val (.ref bb), .val (.ref xx), .val (.ref a), .val (.int 3), .val (.int 1)] [(.int 1)]))
    refine g_goto hG X31 hx (hb hby at_384) (pc' := 388) (by decide) (by decide) ?_
    show G (T31.setTop (mkF m 388 #[.val (.int i0), .val (.int i1), .val (.int i2), .val (.int i3), .val (.int v2), .val (.int v12), .val (.int v17), .val (.int v27), .val (.int v32), .val (.int v42), .val (.int v47), .val (.int v57), .val (.ref zz), .val (.ref bb), .val (.ref xx), .val (.ref a), .val (.int 3), .val (.int 1)] [(.int 1)]))
    exact e_retZ hGe X31 hx hrt hlk (hb hby at_388) (Or.inr rfl) eh31 (by decide) (by decide) (⟨rfl, NF31⟩)
  · skip
    have ps0 := ps
    refine g_iload hG X21 hx (hb hby at_251) (pc' := 253) rfl rfl ?_
    show G (T21.setTop (mkF m 253 #[.val (.int i0), .val (.int i1), .val (.int i2), .val (.int i3), .val (.int v2), .val (.int v12), .val (.int v17), .val (.int v27), .val (.int v32), .val (.int v42), .val (.int v47), .val (.int v57), .val (.ref zz), .val (.ref bb), .val (.ref xx), .val (.ref a), .val (.int 4), .val (.int 1)] [(.int 4)]))
    refine g_ifNo hG X21 hx (hb hby at_253) (pc' := 256) (by decide) rfl ?_
    show G (T21.setTop (mkF m 256 #[.val (.int i0), .val (.int i1), .val (.int i2), .val (.int i3), .val (.int v2), .val (.int v12), .val (.int v17), .val (.int v27), .val (.int v32), .val (.int v42), .val (.int v47), .val (.int v57), .val (.ref zz), .val (.ref bb), .val (.ref xx), .val (.ref a), .val (.int 4), .val (.int 1)] []))
    refine g_iload hG X21 hx (hb hby at_256) (pc' := 258) rfl rfl ?_
    show G (T21.setTop (mkF m 258 #[.val (.int i0), .val (.int i1), .val (.int i2), .val (.int i3), .val (.int v2), .val (.int v12), .val (.int v17), .val (.int v27), .val (.int v32), .val (.int v42), .val (.int v47), .val (.int v57), .val (.ref zz), .val (.ref bb), .val (.ref xx), .val (.ref a), .val (.int 4), .val (.int 1)] [(.int 1)]))
    refine g_ifNo hG X21 hx (hb hby at_258) (pc' := 261) (by decide) rfl ?_
    show G (T21.setTop (mkF m 261 #[.val (.int i0), .val (.int i1), .val (.int i2), .val (.int i3), .val (.int v2), .val (.int v12), .val (.int v17), .val (.int v27), .val (.int v32), .val (.int v42), .val (.int v47), .val (.int v57), .val (.ref zz), .val (.ref bb), .val (.ref xx), .val (.ref a), .val (.int 4), .val (.int 1)] []))
    refine g_aload hG X21 hx (hb hby at_261) (pc' := 263) rfl rfl rfl ?_
    show G (T21.setTop (mkF m 263 #[.val (.int i0), .val (.int i1), .val (.int i2), .val (.int i3), .val (.int v2), .val (.int v12), .val (.int v17), .val (.int v27), .val (.int v32), .val (.int v42), .val (.int v47), .val (.int v57), .val (.ref zz), .val (.ref bb), .val (.ref xx), .val (.ref a), .val (.int 4), .val (.int 1)] [(.ref a)]))
    have nd := own_nd4 ps0
    obtain ⟨hf0, jf0⟩ := own_hd4 ps0
    obtain ⟨eE0, CK⟩ := own_stp CK jf0 (own_mn4 ps0 HI HBC)
    refine g_callV hG X21 hx hZ (y := (⟨"com/example/tributary/tributary/plan/NodeHeap", "poll", "()I"⟩ : MethodName)) 0 hown (wd hw 54 rfl) (wd hw 55 rfl) (wd hw 57 rfl) (wd hw 56 rfl) (wd hw 4 rfl) (wd hw 58 rfl) (by decide) (rmPo4 l Z a0 hw [] a hp pp ky q4h K4h (bv (vl B4)) u1 T21.heap n0 Zs hf0 ⟨Ex_a, F_heap_a, F_position_a, F_key_a, F_size_a, V_hp, V_pp, V_ky⟩ ⟨ga, ghp, gpp, gky, d1, d2, d3, d4, d5, d6⟩ (own_I4n nd) (own_HBv nd kd)) (by decide) (by decide) (by rw [hml]; rfl) pd_10 rfl (argsL := []) (rest := []) rfl rfl (Nat.le_of_eq rfl) (hb hby at_263) rfl Ex_a (by decide) (by decide) (pc' := 266) rfl ?_
    intro T32 rv32 L32 X32 hQ32
    obtain ⟨rfl, Nq32, Kq32, Ex_a, F_heap_a, F_position_a, F_key_a, F_size_a, V_hp, V_pp, V_ky⟩ := hQ32
    have NF32 := Fr.app NF21 Nq32
    have V_zz := V_zz.keep Kq32 (ninS ne_zz_a (ninS dzhp (ninS dzpp (ninS dzky nin0))))
    have V_bb := V_bb.keep Kq32 (ninS ne_bb_a (ninS dbhp (ninS dbpp (ninS dbky nin0))))
    have V_xx := V_xx.keep Kq32 (ninS ne_xx_a (ninS dxhp (ninS dxpp (ninS dxky nin0))))
    have Zs := Nat.le_trans Zs Kq32.1
    obtain ⟨u1_1, u2_1, u3_1, ps0⟩ := own_po4 ps0
    have kd := kd_del (x := u1) kd
    show G (T32.setTop (mkF m 266 #[.val (.int i0), .val (.int i1), .val (.int i2), .val (.int i3), .val (.int v2), .val (.int v12), .val (.int v17), .val (.int v27), .val (.int v32), .val (.int v42), .val (.int v47), .val (.int v57), .val (.ref zz), .val (.ref bb), .val (.ref xx), .val (.ref a), .val (.int 4), .val (.int 1)] [(.int u1)]))
    refine g_aload hG X32 hx (hb hby at_266) (pc' := 268) rfl rfl rfl ?_
    show G (T32.setTop (mkF m 268 #[.val (.int i0), .val (.int i1), .val (.int i2), .val (.int i3), .val (.int v2), .val (.int v12), .val (.int v17), .val (.int v27), .val (.int v32), .val (.int v42), .val (.int v47), .val (.int v57), .val (.ref zz), .val (.ref bb), .val (.ref xx), .val (.ref a), .val (.int 4), .val (.int 1)] [(.ref xx), (.int u1)]))
    refine g_iconst hG X32 hx (hb hby at_268) (pc' := 269) rfl (v := (0 : Int32)) rfl ?_
    show G (T32.setTop (mkF m 269 #[.val (.int i0), .val (.int i1), .val (.int i2), .val (.int i3), .val (.int v2), .val (.int v12), .val (.int v17), .val (.int v27), .val (.int v32), .val (.int v42), .val (.int v47), .val (.int v57), .val (.ref zz), .val (.ref bb), .val (.ref xx), .val (.ref a), .val (.int 4), .val (.int 1)] [(.int 0), (.ref xx), (.int u1)]))
    refine g_iaload hG X32 hx hZ rfl V_xx (j := (0 : Int32)) (v := (.int (E4 (0 : Int32)))) (in4_nn in4_0) (in4_at in4_0 rfl) (hb hby at_269) (pc' := 270) rfl ?_
    show G (T32.setTop (mkF m 270 #[.val (.int i0), .val (.int i1), .val (.int i2), .val (.int i3), .val (.int v2), .val (.int v12), .val (.int v17), .val (.int v27), .val (.int v32), .val (.int v42), .val (.int v47), .val (.int v57), .val (.ref zz), .val (.ref bb), .val (.ref xx), .val (.ref a), .val (.int 4), .val (.int 1)] [(.int (E4 (0 : Int32))), (.int u1)]))
    refine g_icmpNo hG X32 hx (hb hby at_270) (pc' := 273) ((teq (Eq.symm eE0)).2) rfl ?_
    show G (T32.setTop (mkF m 273 #[.val (.int i0), .val (.int i1), .val (.int i2), .val (.int i3), .val (.int v2), .val (.int v12), .val (.int v17), .val (.int v27), .val (.int v32), .val (.int v42), .val (.int v47), .val (.int v57), .val (.ref zz), .val (.ref bb), .val (.ref xx), .val (.ref a), .val (.int 4), .val (.int 1)] []))
    refine g_iconst hG X32 hx (hb hby at_273) (pc' := 274) rfl (v := (1 : Int32)) rfl ?_
    show G (T32.setTop (mkF m 274 #[.val (.int i0), .val (.int i1), .val (.int i2), .val (.int i3), .val (.int v2), .val (.int v12), .val (.int v17), .val (.int v27), .val (.int v32), .val (.int v42), .val (.int v47), .val (.int v57), .val (.ref zz), .val (.ref bb), .val (.ref xx), .val (.ref a), .val (.int 4), .val (.int 1)] [(.int 1)]))
    refine g_goto hG X32 hx (hb hby at_274) (pc' := 278) (by decide) (by decide) ?_
    show G (T32.setTop (mkF m 278 #[.val (.int i0), .val (.int i1), .val (.int i2), .val (.int i3), .val (.int v2), .val (.int v12), .val (.int v17), .val (.int v27), .val (.int v32), .val (.int v42), .val (.int v47), .val (.int v57), .val (.ref zz), .val (.ref bb), .val (.ref xx), .val (.ref a), .val (.int 4), .val (.int 1)] [(.int 1)]))
    refine g_istore hG X32 hx (hb hby at_278) (pc' := 280) rfl (Ls' := #[.val (.int i0), .val (.int i1), .val (.int i2), .val (.int i3), .val (.int v2), .val (.int v12), .val (.int v17), .val (.int v27), .val (.int v32), .val (.int v42), .val (.int v47), .val (.int v57), .val (.ref zz), .val (.ref bb), .val (.ref xx), .val (.ref a), .val (.int 4), .val (.int 1)]) rfl ?_
    show G (T32.setTop (mkF m 280 #[.val (.int i0), .val (.int i1), .val (.int i2), .val (.int i3), .val (.int v2), .val (.int v12), .val (.int v17), .val (.int v27), .val (.int v32), .val (.int v42), .val (.int v47), .val (.int v57), .val (.ref zz), .val (.ref bb), .val (.ref xx), .val (.ref a), .val (.int 4), .val (.int 1)] []))
    refine g_iload hG X32 hx (hb hby at_280) (pc' := 282) rfl rfl ?_
    show G (T32.setTop (mkF m 282 #[.val (.int i0), .val (.int i1), .val (.int i2), .val (.int i3), .val (.int v2), .val (.int v12), .val (.int v17), .val (.int v27), .val (.int v32), .val (.int v42), .val (.int v47), .val (.int v57), .val (.ref zz), .val (.ref bb), .val (.ref xx), .val (.ref a), .val (.int 4), .val (.int 1)] [(.int 4)]))
    refine g_iconst hG X32 hx (hb hby at_282) (pc' := 283) rfl (v := (1 : Int32)) rfl ?_
    show G (T32.setTop (mkF m 283 #[.val (.int i0), .val (.int i1), .val (.int i2), .val (.int i3), .val (.int v2), .val (.int v12), .val (.int v17), .val (.int v27), .val (.int v32), .val (.int v42), .val (.int v47), .val (.int v57), .val (.ref zz), .val (.ref bb), .val (.ref xx), .val (.ref a), .val (.int 4), .val (.int 1)] [(.int 1), (.int 4)]))
    refine g_icmpNo hG X32 hx (hb hby at_283) (pc' := 286) (by decide) rfl ?_
    show G (T32.setTop (mkF m 286 #[.val (.int i0), .val (.int i1), .val (.int i2), .val (.int i3), .val (.int v2), .val (.int v12), .val (.int v17), .val (.int v27), .val (.int v32), .val (.int v42), .val (.int v47), .val (.int v57), .val (.ref zz), .val (.ref bb), .val (.ref xx), .val (.ref a), .val (.int 4), .val (.int 1)] []))
    refine g_iload hG X32 hx (hb hby at_286) (pc' := 288) rfl rfl ?_
    show G (T32.setTop (mkF m 288 #[.val (.int i0), .val (.int i1), .val (.int i2), .val (.int i3), .val (.int v2), .val (.int v12), .val (.int v17), .val (.int v27), .val (.int v32), .val (.int v42), .val (.int v47), .val (.int v57), .val (.ref zz), .val (.ref bb), .val (.ref xx), .val (.ref a), .val (.int 4), .val (.int 1)] [(.int 1)]))
    refine g_ifNo hG X32 hx (hb hby at_288) (pc' := 291) (by decide) rfl ?_
    show G (T32.setTop (mkF m 291 #[.val (.int i0), .val (.int i1), .val (.int i2), .val (.int i3), .val (.int v2), .val (.int v12), .val (.int v17), .val (.int v27), .val (.int v32), .val (.int v42), .val (.int v47), .val (.int v57), .val (.ref zz), .val (.ref bb), .val (.ref xx), .val (.ref a), .val (.int 4), .val (.int 1)] []))
    refine g_aload hG X32 hx (hb hby at_291) (pc' := 293) rfl rfl rfl ?_
    show G (T32.setTop (mkF m 293 #[.val (.int i0), .val (.int i1), .val (.int i2), .val (.int i3), .val (.int v2), .val (.int v12), .val (.int v17), .val (.int v27), .val (.int v32), .val (.int v42), .val (.int v47), .val (.int v57), .val (.ref zz), .val (.ref bb), .val (.ref xx), .val (.ref a), .val (.int 4), .val (.int 1)] [(.ref a)]))
    have nd := own_nd3 ps0
    obtain ⟨hf1, jf1⟩ := own_hd3 ps0
    obtain ⟨eE1, CK⟩ := own_stp CK jf1 (own_mn3 ps0 HI HBC)
    refine g_callV hG X32 hx hZ (y := (⟨"com/example/tributary/tributary/plan/NodeHeap", "poll", "()I"⟩ : MethodName)) 0 hown (wd hw 54 rfl) (wd hw 55 rfl) (wd hw 57 rfl) (wd hw 56 rfl) (wd hw 4 rfl) (wd hw 58 rfl) (by decide) (rmPo3 l Z a0 hw [] a hp pp ky (po4 (bv (vl B4)) q4h) K4h (bv (vl B4)) u1_1 T32.heap n0 Zs hf1 ⟨Ex_a, F_heap_a, F_position_a, F_key_a, F_size_a, V_hp, V_pp, V_ky⟩ ⟨ga, ghp, gpp, gky, d1, d2, d3, d4, d5, d6⟩ (own_I4n nd) (own_HBv nd kd)) (by decide) (by decide) (by rw [hml]; rfl) pd_10 rfl (argsL := []) (rest := []) rfl rfl (Nat.le_of_eq rfl) (hb hby at_293) rfl Ex_a (by decide) (by decide) (pc' := 296) rfl ?_
    intro T33 rv33 L33 X33 hQ33
    obtain ⟨rfl, Nq33, Kq33, Ex_a, F_heap_a, F_position_a, F_key_a, F_size_a, V_hp, V_pp, V_ky⟩ := hQ33
    have NF33 := Fr.app NF32 Nq33
    have V_zz := V_zz.keep Kq33 (ninS ne_zz_a (ninS dzhp (ninS dzpp (ninS dzky nin0))))
    have V_bb := V_bb.keep Kq33 (ninS ne_bb_a (ninS dbhp (ninS dbpp (ninS dbky nin0))))
    have V_xx := V_xx.keep Kq33 (ninS ne_xx_a (ninS dxhp (ninS dxpp (ninS dxky nin0))))
    have Zs := Nat.le_trans Zs Kq33.1
    obtain ⟨u1_2, u2_2, ps0⟩ := own_po3 ps0
    have kd := kd_del (x := u1_1) kd
    show G (T33.setTop (mkF m 296 #[.val (.int i0), .val (.int i1), .val (.int i2), .val (.int i3), .val (.int v2), .val (.int v12), .val (.int v17), .val (.int v27), .val (.int v32), .val (.int v42), .val (.int v47), .val (.int v57), .val (.ref zz), .val (.ref bb), .val (.ref xx), .val (.ref a), .val (.int 4), .val (.int 1)] [(.int u1_1)]))
    refine g_aload hG X33 hx (hb hby at_296) (pc' := 298) rfl rfl rfl ?_
    show G (T33.setTop (mkF m 298 #[.val (.int i0), .val (.int i1), .val (.int i2), .val (.int i3), .val (.int v2), .val (.int v12), .val (.int v17), .val (.int v27), .val (.int v32), .val (.int v42), .val (.int v47), .val (.int v57), .val (.ref zz), .val (.ref bb), .val (.ref xx), .val (.ref a), .val (.int 4), .val (.int 1)] [(.ref xx), (.int u1_1)]))
    refine g_iconst hG X33 hx (hb hby at_298) (pc' := 299) rfl (v := (1 : Int32)) rfl ?_
    show G (T33.setTop (mkF m 299 #[.val (.int i0), .val (.int i1), .val (.int i2), .val (.int i3), .val (.int v2), .val (.int v12), .val (.int v17), .val (.int v27), .val (.int v32), .val (.int v42), .val (.int v47), .val (.int v57), .val (.ref zz), .val (.ref bb), .val (.ref xx), .val (.ref a), .val (.int 4), .val (.int 1)] [(.int 1), (.ref xx), (.int u1_1)]))
    refine g_iaload hG X33 hx hZ rfl V_xx (j := (1 : Int32)) (v := (.int (E4 (1 : Int32)))) (in4_nn in4_1) (in4_at in4_1 rfl) (hb hby at_299) (pc' := 300) rfl ?_
    show G (T33.setTop (mkF m 300 #[.val (.int i0), .val (.int i1), .val (.int i2), .val (.int i3), .val (.int v2), .val (.int v12), .val (.int v17), .val (.int v27), .val (.int v32), .val (.int v42), .val (.int v47), .val (.int v57), .val (.ref zz), .val (.ref bb), .val (.ref xx), .val (.ref a), .val (.int 4), .val (.int 1)] [(.int (E4 (1 : Int32))), (.int u1_1)]))
    refine g_icmpNo hG X33 hx (hb hby at_300) (pc' := 303) ((teq (Eq.symm eE1)).2) rfl ?_
    show G (T33.setTop (mkF m 303 #[.val (.int i0), .val (.int i1), .val (.int i2), .val (.int i3), .val (.int v2), .val (.int v12), .val (.int v17), .val (.int v27), .val (.int v32), .val (.int v42), .val (.int v47), .val (.int v57), .val (.ref zz), .val (.ref bb), .val (.ref xx), .val (.ref a), .val (.int 4), .val (.int 1)] []))
    refine g_iconst hG X33 hx (hb hby at_303) (pc' := 304) rfl (v := (1 : Int32)) rfl ?_
    show G (T33.setTop (mkF m 304 #[.val (.int i0), .val (.int i1), .val (.int i2), .val (.int i3), .val (.int v2), .val (.int v12), .val (.int v17), .val (.int v27), .val (.int v32), .val (.int v42), .val (.int v47), .val (.int v57), .val (.ref zz), .val (.ref bb), .val (.ref xx), .val (.ref a), .val (.int 4), .val (.int 1)] [(.int 1)]))
    refine g_goto hG X33 hx (hb hby at_304) (pc' := 308) (by decide) (by decide) ?_
    show G (T33.setTop (mkF m 308 #[.val (.int i0), .val (.int i1), .val (.int i2), .val (.int i3), .val (.int v2), .val (.int v12), .val (.int v17), .val (.int v27), .val (.int v32), .val (.int v42), .val (.int v47), .val (.int v57), .val (.ref zz), .val (.ref bb), .val (.ref xx), .val (.ref a), .val (.int 4), .val (.int 1)] [(.int 1)]))
    refine g_istore hG X33 hx (hb hby at_308) (pc' := 310) rfl (Ls' := #[.val (.int i0), .val (.int i1), .val (.int i2), .val (.int i3), .val (.int v2), .val (.int v12), .val (.int v17), .val (.int v27), .val (.int v32), .val (.int v42), .val (.int v47), .val (.int v57), .val (.ref zz), .val (.ref bb), .val (.ref xx), .val (.ref a), .val (.int 4), .val (.int 1)]) rfl ?_
    show G (T33.setTop (mkF m 310 #[.val (.int i0), .val (.int i1), .val (.int i2), .val (.int i3), .val (.int v2), .val (.int v12), .val (.int v17), .val (.int v27), .val (.int v32), .val (.int v42), .val (.int v47), .val (.int v57), .val (.ref zz), .val (.ref bb), .val (.ref xx), .val (.ref a), .val (.int 4), .val (.int 1)] []))
    refine g_iload hG X33 hx (hb hby at_310) (pc' := 312) rfl rfl ?_
    show G (T33.setTop (mkF m 312 #[.val (.int i0), .val (.int i1), .val (.int i2), .val (.int i3), .val (.int v2), .val (.int v12), .val (.int v17), .val (.int v27), .val (.int v32), .val (.int v42), .val (.int v47), .val (.int v57), .val (.ref zz), .val (.ref bb), .val (.ref xx), .val (.ref a), .val (.int 4), .val (.int 1)] [(.int 4)]))
    refine g_iconst hG X33 hx (hb hby at_312) (pc' := 313) rfl (v := (2 : Int32)) rfl ?_
    show G (T33.setTop (mkF m 313 #[.val (.int i0), .val (.int i1), .val (.int i2), .val (.int i3), .val (.int v2), .val (.int v12), .val (.int v17), .val (.int v27), .val (.int v32), .val (.int v42), .val (.int v47), .val (.int v57), .val (.ref zz), .val (.ref bb), .val (.ref xx), .val (.ref a), .val (.int 4), .val (.int 1)] [(.int 2), (.int 4)]))
    refine g_icmpNo hG X33 hx (hb hby at_313) (pc' := 316) (by decide) rfl ?_
    show G (T33.setTop (mkF m 316 #[.val (.int i0), .val (.int i1), .val (.int i2), .val (.int i3), .val (.int v2), .val (.int v12), .val (.int v17), .val (.int v27), .val (.int v32), .val (.int v42), .val (.int v47), .val (.int v57), .val (.ref zz), .val (.ref bb), .val (.ref xx), .val (.ref a), .val (.int 4), .val (.int 1)] []))
    refine g_iload hG X33 hx (hb hby at_316) (pc' := 318) rfl rfl ?_
    show G (T33.setTop (mkF m 318 #[.val (.int i0), .val (.int i1), .val (.int i2), .val (.int i3), .val (.int v2), .val (.int v12), .val (.int v17), .val (.int v27), .val (.int v32), .val (.int v42), .val (.int v47), .val (.int v57), .val (.ref zz), .val (.ref bb), .val (.ref xx), .val (.ref a), .val (.int 4), .val (.int 1)] [(.int 1)]))
    refine g_ifNo hG X33 hx (hb hby at_318) (pc' := 321) (by decide) rfl ?_
    show G (T33.setTop (mkF m 321 #[.val (.int i0), .val (.int i1), .val (.int i2), .val (.int i3), .val (.int v2), .val (.int v12), .val (.int v17), .val (.int v27), .val (.int v32), .val (.int v42), .val (.int v47), .val (.int v57), .val (.ref zz), .val (.ref bb), .val (.ref xx), .val (.ref a), .val (.int 4), .val (.int 1)] []))
    refine g_aload hG X33 hx (hb hby at_321) (pc' := 323) rfl rfl rfl ?_
    show G (T33.setTop (mkF m 323 #[.val (.int i0), .val (.int i1), .val (.int i2), .val (.int i3), .val (.int v2), .val (.int v12), .val (.int v17), .val (.int v27), .val (.int v32), .val (.int v42), .val (.int v47), .val (.int v57), .val (.ref zz), .val (.ref bb), .val (.ref xx), .val (.ref a), .val (.int 4), .val (.int 1)] [(.ref a)]))
    have nd := own_nd2 ps0
    obtain ⟨hf2, jf2⟩ := own_hd2 ps0
    obtain ⟨eE2, CK⟩ := own_stp CK jf2 (own_mn2 ps0 HI HBC)
    refine g_callV hG X33 hx hZ (y := (⟨"com/example/tributary/tributary/plan/NodeHeap", "poll", "()I"⟩ : MethodName)) 0 hown (wd hw 54 rfl) (wd hw 55 rfl) (wd hw 57 rfl) (wd hw 56 rfl) (wd hw 4 rfl) (wd hw 58 rfl) (by decide) (rmPo2 l Z a0 hw [] a hp pp ky (po3 (bv (vl B4)) (po4 (bv (vl B4)) q4h)) K4h (bv (vl B4)) u1_2 T33.heap n0 Zs hf2 ⟨Ex_a, F_heap_a, F_position_a, F_key_a, F_size_a, V_hp, V_pp, V_ky⟩ ⟨ga, ghp, gpp, gky, d1, d2, d3, d4, d5, d6⟩ (own_I4n nd) own_HB0) (by decide) (by decide) (by rw [hml]; rfl) pd_10 rfl (argsL := []) (rest := []) rfl rfl (Nat.le_of_eq rfl) (hb hby at_323) rfl Ex_a (by decide) (by decide) (pc' := 326) rfl ?_
    intro T34 rv34 L34 X34 hQ34
    obtain ⟨rfl, Nq34, Kq34, Ex_a, F_heap_a, F_position_a, F_key_a, F_size_a, V_hp, V_pp, V_ky⟩ := hQ34
    have NF34 := Fr.app NF33 Nq34
    have V_zz := V_zz.keep Kq34 (ninS ne_zz_a (ninS dzhp (ninS dzpp (ninS dzky nin0))))
    have V_bb := V_bb.keep Kq34 (ninS ne_bb_a (ninS dbhp (ninS dbpp (ninS dbky nin0))))
    have V_xx := V_xx.keep Kq34 (ninS ne_xx_a (ninS dxhp (ninS dxpp (ninS dxky nin0))))
    have Zs := Nat.le_trans Zs Kq34.1
    obtain ⟨u1_3, ps0⟩ := own_po2 ps0
    have kd := kd_del (x := u1_2) kd
    show G (T34.setTop (mkF m 326 #[.val (.int i0), .val (.int i1), .val (.int i2), .val (.int i3), .val (.int v2), .val (.int v12), .val (.int v17), .val (.int v27), .val (.int v32), .val (.int v42), .val (.int v47), .val (.int v57), .val (.ref zz), .val (.ref bb), .val (.ref xx), .val (.ref a), .val (.int 4), .val (.int 1)] [(.int u1_2)]))
    refine g_aload hG X34 hx (hb hby at_326) (pc' := 328) rfl rfl rfl ?_
    show G (T34.setTop (mkF m 328 #[.val (.int i0), .val (.int i1), .val (.int i2), .val (.int i3), .val (.int v2), .val (.int v12), .val (.int v17), .val (.int v27), .val (.int v32), .val (.int v42), .val (.int v47), .val (.int v57), .val (.ref zz), .val (.ref bb), .val (.ref xx), .val (.ref a), .val (.int 4), .val (.int 1)] [(.ref xx), (.int u1_2)]))
    refine g_iconst hG X34 hx (hb hby at_328) (pc' := 329) rfl (v := (2 : Int32)) rfl ?_
    show G (T34.setTop (mkF m 329 #[.val (.int i0), .val (.int i1), .val (.int i2), .val (.int i3), .val (.int v2), .val (.int v12), .val (.int v17), .val (.int v27), .val (.int v32), .val (.int v42), .val (.int v47), .val (.int v57), .val (.ref zz), .val (.ref bb), .val (.ref xx), .val (.ref a), .val (.int 4), .val (.int 1)] [(.int 2), (.ref xx), (.int u1_2)]))
    refine g_iaload hG X34 hx hZ rfl V_xx (j := (2 : Int32)) (v := (.int (E4 (2 : Int32)))) (in4_nn in4_2) (in4_at in4_2 rfl) (hb hby at_329) (pc' := 330) rfl ?_
    show G (T34.setTop (mkF m 330 #[.val (.int i0), .val (.int i1), .val (.int i2), .val (.int i3), .val (.int v2), .val (.int v12), .val (.int v17), .val (.int v27), .val (.int v32), .val (.int v42), .val (.int v47), .val (.int v57), .val (.ref zz), .val (.ref bb), .val (.ref xx), .val (.ref a), .val (.int 4), .val (.int 1)] [(.int (E4 (2 : Int32))), (.int u1_2)]))
    refine g_icmpNo hG X34 hx (hb hby at_330) (pc' := 333) ((teq (Eq.symm eE2)).2) rfl ?_
    show G (T34.setTop (mkF m 333 #[.val (.int i0), .val (.int i1), .val (.int i2), .val (.int i3), .val (.int v2), .val (.int v12), .val (.int v17), .val (.int v27), .val (.int v32), .val (.int v42), .val (.int v47), .val (.int v57), .val (.ref zz), .val (.ref bb), .val (.ref xx), .val (.ref a), .val (.int 4), .val (.int 1)] []))
    refine g_iconst hG X34 hx (hb hby at_333) (pc' := 334) rfl (v := (1 : Int32)) rfl ?_
    show G (T34.setTop (mkF m 334 #[.val (.int i0), .val (.int i1), .val (.int i2), .val (.int i3), .val (.int v2), .val (.int v12), .val (.int v17), .val (.int v27), .val (.int v32), .val (.int v42), .val (.int v47), .val (.int v57), .val (.ref zz), .val (.ref bb), .val (.ref xx), .val (.ref a), .val (.int 4), .val (.int 1)] [(.int 1)]))
    refine g_goto hG X34 hx (hb hby at_334) (pc' := 338) (by decide) (by decide) ?_
    show G (T34.setTop (mkF m 338 #[.val (.int i0), .val (.int i1), .val (.int i2), .val (.int i3), .val (.int v2), .val (.int v12), .val (.int v17), .val (.int v27), .val (.int v32), .val (.int v42), .val (.int v47), .val (.int v57), .val (.ref zz), .val (.ref bb), .val (.ref xx), .val (.ref a), .val (.int 4), .val (.int 1)] [(.int 1)]))
    refine g_istore hG X34 hx (hb hby at_338) (pc' := 340) rfl (Ls' := #[.val (.int i0), .val (.int i1), .val (.int i2), .val (.int i3), .val (.int v2), .val (.int v12), .val (.int v17), .val (.int v27), .val (.int v32), .val (.int v42), .val (.int v47), .val (.int v57), .val (.ref zz), .val (.ref bb), .val (.ref xx), .val (.ref a), .val (.int 4), .val (.int 1)]) rfl ?_
    show G (T34.setTop (mkF m 340 #[.val (.int i0), .val (.int i1), .val (.int i2), .val (.int i3), .val (.int v2), .val (.int v12), .val (.int v17), .val (.int v27), .val (.int v32), .val (.int v42), .val (.int v47), .val (.int v57), .val (.ref zz), .val (.ref bb), .val (.ref xx), .val (.ref a), .val (.int 4), .val (.int 1)] []))
    refine g_iload hG X34 hx (hb hby at_340) (pc' := 342) rfl rfl ?_
    show G (T34.setTop (mkF m 342 #[.val (.int i0), .val (.int i1), .val (.int i2), .val (.int i3), .val (.int v2), .val (.int v12), .val (.int v17), .val (.int v27), .val (.int v32), .val (.int v42), .val (.int v47), .val (.int v57), .val (.ref zz), .val (.ref bb), .val (.ref xx), .val (.ref a), .val (.int 4), .val (.int 1)] [(.int 4)]))
    refine g_iconst hG X34 hx (hb hby at_342) (pc' := 343) rfl (v := (3 : Int32)) rfl ?_
    show G (T34.setTop (mkF m 343 #[.val (.int i0), .val (.int i1), .val (.int i2), .val (.int i3), .val (.int v2), .val (.int v12), .val (.int v17), .val (.int v27), .val (.int v32), .val (.int v42), .val (.int v47), .val (.int v57), .val (.ref zz), .val (.ref bb), .val (.ref xx), .val (.ref a), .val (.int 4), .val (.int 1)] [(.int 3), (.int 4)]))
    refine g_icmpNo hG X34 hx (hb hby at_343) (pc' := 346) (by decide) rfl ?_
    show G (T34.setTop (mkF m 346 #[.val (.int i0), .val (.int i1), .val (.int i2), .val (.int i3), .val (.int v2), .val (.int v12), .val (.int v17), .val (.int v27), .val (.int v32), .val (.int v42), .val (.int v47), .val (.int v57), .val (.ref zz), .val (.ref bb), .val (.ref xx), .val (.ref a), .val (.int 4), .val (.int 1)] []))
    refine g_iload hG X34 hx (hb hby at_346) (pc' := 348) rfl rfl ?_
    show G (T34.setTop (mkF m 348 #[.val (.int i0), .val (.int i1), .val (.int i2), .val (.int i3), .val (.int v2), .val (.int v12), .val (.int v17), .val (.int v27), .val (.int v32), .val (.int v42), .val (.int v47), .val (.int v57), .val (.ref zz), .val (.ref bb), .val (.ref xx), .val (.ref a), .val (.int 4), .val (.int 1)] [(.int 1)]))
    refine g_ifNo hG X34 hx (hb hby at_348) (pc' := 351) (by decide) rfl ?_
    show G (T34.setTop (mkF m 351 #[.val (.int i0), .val (.int i1), .val (.int i2), .val (.int i3), .val (.int v2), .val (.int v12), .val (.int v17), .val (.int v27), .val (.int v32), .val (.int v42), .val (.int v47), .val (.int v57), .val (.ref zz), .val (.ref bb), .val (.ref xx), .val (.ref a), .val (.int 4), .val (.int 1)] []))
    refine g_aload hG X34 hx (hb hby at_351) (pc' := 353) rfl rfl rfl ?_
    show G (T34.setTop (mkF m 353 #[.val (.int i0), .val (.int i1), .val (.int i2), .val (.int i3), .val (.int v2), .val (.int v12), .val (.int v17), .val (.int v27), .val (.int v32), .val (.int v42), .val (.int v47), .val (.int v57), .val (.ref zz), .val (.ref bb), .val (.ref xx), .val (.ref a), .val (.int 4), .val (.int 1)] [(.ref a)]))
    have nd := own_nd1 ps0
    obtain ⟨hf3, jf3⟩ := own_hd1 ps0
    obtain ⟨eE3, CK⟩ := own_stp CK jf3 (own_mn1 ps0 HI HBC)
    refine g_callV hG X34 hx hZ (y := (⟨"com/example/tributary/tributary/plan/NodeHeap", "poll", "()I"⟩ : MethodName)) 0 hown (wd hw 54 rfl) (wd hw 55 rfl) (wd hw 57 rfl) (wd hw 56 rfl) (wd hw 4 rfl) (wd hw 58 rfl) (by decide) (rmPo1 l Z a0 hw [] a hp pp ky (po2 (bv (vl B4)) (po3 (bv (vl B4)) (po4 (bv (vl B4)) q4h))) K4h (bv (vl B4)) u1_3 T34.heap n0 Zs hf3 ⟨Ex_a, F_heap_a, F_position_a, F_key_a, F_size_a, V_hp, V_pp, V_ky⟩ ⟨ga, ghp, gpp, gky, d1, d2, d3, d4, d5, d6⟩ (own_I4n nd) own_HB0) (by decide) (by decide) (by rw [hml]; rfl) pd_10 rfl (argsL := []) (rest := []) rfl rfl (Nat.le_of_eq rfl) (hb hby at_353) rfl Ex_a (by decide) (by decide) (pc' := 356) rfl ?_
    intro T35 rv35 L35 X35 hQ35
    obtain ⟨rfl, Nq35, Kq35, Ex_a, F_heap_a, F_position_a, F_key_a, F_size_a, V_hp, V_pp, V_ky⟩ := hQ35
    have NF35 := Fr.app NF34 Nq35
    have V_zz := V_zz.keep Kq35 (ninS ne_zz_a (ninS dzhp (ninS dzpp (ninS dzky nin0))))
    have V_bb := V_bb.keep Kq35 (ninS ne_bb_a (ninS dbhp (ninS dbpp (ninS dbky nin0))))
    have V_xx := V_xx.keep Kq35 (ninS ne_xx_a (ninS dxhp (ninS dxpp (ninS dxky nin0))))
    have Zs := Nat.le_trans Zs Kq35.1
    show G (T35.setTop (mkF m 356 #[.val (.int i0), .val (.int i1), .val (.int i2), .val (.int i3), .val (.int v2), .val (.int v12), .val (.int v17), .val (.int v27), .val (.int v32), .val (.int v42), .val (.int v47), .val (.int v57), .val (.ref zz), .val (.ref bb), .val (.ref xx), .val (.ref a), .val (.int 4), .val (.int 1)] [(.int u1_3)]))
    refine g_aload hG X35 hx (hb hby at_356) (pc' := 358) rfl rfl rfl ?_
    show G (T35.setTop (mkF m 358 #[.val (.int i0), .val (.int i1), .val (.int i2), .val (.int i3), .val (.int v2), .val (.int v12), .val (.int v17), .val (.int v27), .val (.int v32), .val (.int v42), .val (.int v47), .val (.int v57), .val (.ref zz), .val (.ref bb), .val (.ref xx), .val (.ref a), .val (.int 4), .val (.int 1)] [(.ref xx), (.int u1_3)]))
    refine g_iconst hG X35 hx (hb hby at_358) (pc' := 359) rfl (v := (3 : Int32)) rfl ?_
    show G (T35.setTop (mkF m 359 #[.val (.int i0), .val (.int i1), .val (.int i2), .val (.int i3), .val (.int v2), .val (.int v12), .val (.int v17), .val (.int v27), .val (.int v32), .val (.int v42), .val (.int v47), .val (.int v57), .val (.ref zz), .val (.ref bb), .val (.ref xx), .val (.ref a), .val (.int 4), .val (.int 1)] [(.int 3), (.ref xx), (.int u1_3)]))
    refine g_iaload hG X35 hx hZ rfl V_xx (j := (3 : Int32)) (v := (.int (E4 (3 : Int32)))) (in4_nn in4_3) (in4_at in4_3 rfl) (hb hby at_359) (pc' := 360) rfl ?_
    show G (T35.setTop (mkF m 360 #[.val (.int i0), .val (.int i1), .val (.int i2), .val (.int i3), .val (.int v2), .val (.int v12), .val (.int v17), .val (.int v27), .val (.int v32), .val (.int v42), .val (.int v47), .val (.int v57), .val (.ref zz), .val (.ref bb), .val (.ref xx), .val (.ref a), .val (.int 4), .val (.int 1)] [(.int (E4 (3 : Int32))), (.int u1_3)]))
    refine g_icmpNo hG X35 hx (hb hby at_360) (pc' := 363) ((teq (Eq.symm eE3)).2) rfl ?_
    show G (T35.setTop (mkF m 363 #[.val (.int i0), .val (.int i1), .val (.int i2), .val (.int i3), .val (.int v2), .val (.int v12), .val (.int v17), .val (.int v27), .val (.int v32), .val (.int v42), .val (.int v47), .val (.int v57), .val (.ref zz), .val (.ref bb), .val (.ref xx), .val (.ref a), .val (.int 4), .val (.int 1)] []))
    refine g_iconst hG X35 hx (hb hby at_363) (pc' := 364) rfl (v := (1 : Int32)) rfl ?_
    show G (T35.setTop (mkF m 364 #[.val (.int i0), .val (.int i1), .val (.int i2), .val (.int i3), .val (.int v2), .val (.int v12), .val (.int v17), .val (.int v27), .val (.int v32), .val (.int v42), .val (.int v47), .val (.int v57), .val (.ref zz), .val (.ref bb), .val (.ref xx), .val (.ref a), .val (.int 4), .val (.int 1)] [(.int 1)]))
    refine g_goto hG X35 hx (hb hby at_364) (pc' := 368) (by decide) (by decide) ?_
    show G (T35.setTop (mkF m 368 #[.val (.int i0), .val (.int i1), .val (.int i2), .val (.int i3), .val (.int v2), .val (.int v12), .val (.int v17), .val (.int v27), .val (.int v32), .val (.int v42), .val (.int v47), .val (.int v57), .val (.ref zz), .val (.ref bb), .val (.ref xx), .val (.ref a), .val (.int 4), .val (.int 1)] [(.int 1)]))
    refine g_istore hG X35 hx (hb hby at_368) (pc' := 370) rfl (Ls' := #[.val (.int i0), .val (.int i1), .val (.int i2), .val (.int i3), .val (.int v2), .val (.int v12), .val (.int v17), .val (.int v27), .val (.int v32), .val (.int v42), .val (.int v47), .val (.int v57), .val (.ref zz), .val (.ref bb), .val (.ref xx), .val (.ref a), .val (.int 4), .val (.int 1)]) rfl ?_
    show G (T35.setTop (mkF m 370 #[.val (.int i0), .val (.int i1), .val (.int i2), .val (.int i3), .val (.int v2), .val (.int v12), .val (.int v17), .val (.int v27), .val (.int v32), .val (.int v42), .val (.int v47), .val (.int v57), .val (.ref zz), .val (.ref bb), .val (.ref xx), .val (.ref a), .val (.int 4), .val (.int 1)] []))
    refine g_iload hG X35 hx (hb hby at_370) (pc' := 372) rfl rfl ?_
    show G (T35.setTop (mkF m 372 #[.val (.int i0), .val (.int i1), .val (.int i2), .val (.int i3), .val (.int v2), .val (.int v12), .val (.int v17), .val (.int v27), .val (.int v32), .val (.int v42), .val (.int v47), .val (.int v57), .val (.ref zz), .val (.ref bb), .val (.ref xx), .val (.ref a), .val (.int 4), .val (.int 1)] [(.int 1)]))
    refine g_ifNo hG X35 hx (hb hby at_372) (pc' := 375) (by decide) rfl ?_
    show G (T35.setTop (mkF m 375 #[.val (.int i0), .val (.int i1), .val (.int i2), .val (.int i3), .val (.int v2), .val (.int v12), .val (.int v17), .val (.int v27), .val (.int v32), .val (.int v42), .val (.int v47), .val (.int v57), .val (.ref zz), .val (.ref bb), .val (.ref xx), .val (.ref a), .val (.int 4), .val (.int 1)] []))
    refine g_aload hG X35 hx (hb hby at_375) (pc' := 377) rfl rfl rfl ?_
    show G (T35.setTop (mkF m 377 #[.val (.int i0), .val (.int i1), .val (.int i2), .val (.int i3), .val (.int v2), .val (.int v12), .val (.int v17), .val (.int v27), .val (.int v32), .val (.int v42), .val (.int v47), .val (.int v57), .val (.ref zz), .val (.ref bb), .val (.ref xx), .val (.ref a), .val (.int 4), .val (.int 1)] [(.ref a)]))
    refine g_callV hG X35 hx hZ (y := (⟨"com/example/tributary/tributary/plan/NodeHeap", "isEmpty", "()Z"⟩ : MethodName)) 0 hown (wd hw 63 rfl) (wd hw 64 rfl) (wd hw 66 rfl) (wd hw 65 rfl) (wd hw 4 rfl) (wd hw 67 rfl) (by decide) (rmEm0 l Z a0 hw [] a hp pp ky (po1 (bv (vl B4)) (po2 (bv (vl B4)) (po3 (bv (vl B4)) (po4 (bv (vl B4)) q4h)))) K4h T35.heap n0 Zs ⟨Ex_a, F_heap_a, F_position_a, F_key_a, F_size_a, V_hp, V_pp, V_ky⟩ ⟨ga, ghp, gpp, gky, d1, d2, d3, d4, d5, d6⟩) (by decide) (by decide) (by rw [hml]; rfl) pd_9 rfl (argsL := []) (rest := []) rfl rfl (Nat.le_of_eq rfl) (hb hby at_377) rfl Ex_a (by decide) (by decide) (pc' := 380) rfl ?_
    intro T36 rv36 L36 X36 hQ36
    obtain ⟨rfl, Nq36, eh36⟩ := hQ36
    have NF36 := Fr.app NF35 Nq36
    show G (T36.setTop (mkF m 380 #[.val (.int i0), .val (.int i1), .val (.int i2), .val (.int i3), .val (.int v2), .val (.int v12), .val (.int v17), .val (.int v27), .val (.int v32), .val (.int v42), .val (.int v47), .val (.int v57), .val (.ref zz), .val (.ref bb), .val (.ref xx), .val (.ref a), .val (.int 4), .val (.int 1)] [(.int 1)]))
    refine g_ifNo hG X36 hx (hb hby at_380) (pc' := 383) (by decide) rfl ?_
    show G (T36.setTop (mkF m 383 #[.val (.int i0), .val (.int i1), .val (.int i2), .val (.int i3), .val (.int v2), .val (.int v12), .val (.int v17), .val (.int v27), .val (.int v32), .val (.int v42), .val (.int v47), .val (.int v57), .val (.ref zz), .val (.ref bb), .val (.ref xx), .val (.ref a), .val (.int 4), .val (.int 1)] []))
    refine g_iconst hG X36 hx (hb hby at_383) (pc' := 384) rfl (v := (1 : Int32)) rfl ?_
    show G (T36.setTop (mkF m 384 #[.val (.int i0), .val (.int i1), .val (.int i2), .val (.int i3), .val (.int v2), .val (.int v12), .val (.int v17), .val (.int v27), .val (.int v32), .val (.int v42), .val (.int v47), .val (.int v57), .val (.ref zz), .val (.ref bb), .val (.ref xx), .val (.ref a), .val (.int 4), .val (.int 1)] [(.int 1)]))
    refine g_goto hG X36 hx (hb hby at_384) (pc' := 388) (by decide) (by decide) ?_
    show G (T36.setTop (mkF m 388 #[.val (.int i0), .val (.int i1), .val (.int i2), .val (.int i3), .val (.int v2), .val (.int v12), .val (.int v17), .val (.int v27), .val (.int v32), .val (.int v42), .val (.int v47), .val (.int v57), .val (.ref zz), .val (.ref bb), .val (.ref xx), .val (.ref a), .val (.int 4), .val (.int 1)] [(.int 1)]))
    exact e_retZ hGe X36 hx hrt hlk (hb hby at_388) (Or.inr rfl) eh36 (by decide) (by decide) (⟨rfl, NF36⟩)
set_option maxRecDepth 65536 in
set_option maxHeartbeats 40000000 in
theorem comes_1 {Post : Tables → Env → Array Value → State → Outcome → State → Prop} (hpost : ∀ tb e args s v u, (limb_1_1.after args s (.returned v) u = true ∧ limb_1_2.after args s (.returned v) u = true ∧ True) → FrameEnd s (.returned v) u (Jvm.fieldLocs frame_1_writes args s ++ Jvm.arrayLocs frame_1_arrays args s ++ Jvm.staticLocs frame_1_statics s) 24 128 → Post tb e args s (.returned v) u) :
    ArmFor flags0 classFile x code maxLocals ret World_1 tables_1 room_1 Calls_1 rest_1 Pre_1 Post := by
  intro l hfl _ _ p e ha hc hk s m args below hf hA hF happ hP
  obtain ⟨hcalls, hrest, hpre⟩ := hP
  obtain ⟨-, -, -, hnamed, -, -, -, hat⟩ := (Spec.applies_iff hf).mp happ
  obtain ⟨hg, hn⟩ := and_e (Cond.before_iff.mp (show (Jvm.Cond.and given_1 narrow_1).before args s = true from hpre))
  obtain ⟨hcount, ha_0⟩ := and_e hg
  obtain ⟨hb_0, ha_1⟩ := and_e ha_0
  obtain ⟨hb_1, ha_2⟩ := and_e ha_1
  obtain ⟨hb_2, ha_3⟩ := and_e ha_2
  have hb_3 := ha_3
  obtain ⟨w0, w1, w2, w3, rfl⟩ : ∃ w0 w1 w2 w3 : Value, args = #[w0, w1, w2, w3] := by
    have hs : args.size = 4 := by simpa [Cond.value, given_1] using hcount
    obtain ⟨L⟩ := args
    match L, hs with
    | [w0, w1, w2, w3], _ => exact ⟨w0, w1, w2, w3, rfl⟩
  have hw := fun d (hd : d ∈ tables_1) => atoms_spec (ws := Jvm.Cond.code x code maxLocals ret :: tables_1) hat d (List.mem_cons_of_mem _ hd)
  obtain ⟨i0, ei0⟩ := is_v hb_0
  obtain rfl : w0 = (.int i0) := Option.some.inj ei0
  obtain ⟨i1, ei1⟩ := is_v hb_1
  obtain rfl : w1 = (.int i1) := Option.some.inj ei1
  obtain ⟨i2, ei2⟩ := is_v hb_2
  obtain rfl : w2 = (.int i2) := Option.some.inj ei2
  obtain ⟨i3, ei3⟩ := is_v hb_3
  obtain rfl : w3 = (.int i3) := Option.some.inj ei3
  obtain ⟨n, o, h1, h2, h3, _, L, rfl, ⟨rfl, N⟩, hq⟩ := rm0 l s _ hw tables_1 i0 i1 i2 i3 s.heap s.heap.size (Nat.le_refl _)  p e ha hc hk s m _ below hf ((Spec.applies_iff_loose hf).mp happ).1 ⟨rfl, State.Warmed39.refl s, rfl⟩ trivial
  refine ⟨n, _, h1, h2, h3, hpost _ _ _ _ _ _ ⟨Cond.after_iff.mpr rfl, Cond.after_iff.mpr (eq_i res_at (Term.int_eval (1)) rfl), trivial⟩ ⟨hq.1, hq.2.1, (hq.2.2.sift fun y hy => Or.inr (N y hy)).mono (by decide) (by decide)⟩⟩
theorem main_1_1 : Claimed_1_1 := comes_1 fun _ _ _ _ _ _ h hF => ⟨h.1, hF⟩
theorem main_1_2 : Claimed_1_2 := comes_1 fun _ _ _ _ _ _ h hF => ⟨h.2.1, hF⟩
end Jvm.Pilot.@@N@@
namespace Jvm.Pilot.@@N@@
open Jvm Jvm.ClassFile Sem Op Lib Jvm.Free Jvm.Stand Jvm.Pilot.@@N@@.Jvm.D
/-! MADE BY PROGRAM (witnessworld.py) out of the Statement's table words and the real class files: 14 classes; the members and pool entries that the words name. The judged class is class 1, her method 1. -/
namespace start1
open Jvm.ClassFile
def u (s : String) : CpInfo := .utf8 (stringToUtf16 s)
/-- a pool by its gaps: so many unusable entries, then the entry; so many at the end -/
def gap : Nat → List CpInfo → List CpInfo
  | 0, r => r
  | n + 1, r => .unusable :: gap n r
def poolList (es : List (Nat × CpInfo)) (last : Nat) : List CpInfo := es.foldr (fun e r => gap e.1 (e.2 :: r)) (gap last [])
def pool (es : List (Nat × CpInfo)) (last : Nat) : Array CpInfo := ⟨poolList es last⟩
def fileOf (pool : Array CpInfo) (this : Nat) (attrs : Array Attribute := #[]) (ms : Array MethodInfo := #[]) (fl : Nat := 33) (sup : Nat := 0) (ifs : Array Nat := #[]) (fds : Array FieldInfo := #[]) : ClassFile where
  minorVersion := 0
  majorVersion := 65
  constantPool := pool
  accessFlags := fl
  thisClass := this
  superClass := sup
  interfaces := ifs
  fields := fds
  methods := ms
  attributes := attrs
def plain (name : String) (sup : Option ClassId) : Class where
  name := name
  kind := .ordinary
  loader := none
  accessFlags := 33
  super := sup
  interfaces := #[]
  cf := none
  fields := #[]
  methods := #[]
  instanceTypes := #[]
  staticTypes := #[]
  resolved := #[]
  callSites := []
  init := .initialized
  statics := none
  mirror := none

def pool0 : Array CpInfo := pool [(5, u "<init>"), (0, u "()V"), (1, .class_ 10), (1, u "java/lang/Object")] 113

def k0c0 : Code := { maxStack := 0, maxLocals := 1, code := object_method_1_code, exceptionTable := #[], attributes := #[] }
def k0m0 : Method := { name := "<init>", desc := "()V", sig := { parameters := [], returnType := none }, accessFlags := 1, code := some k0c0 }
/-- java/lang/Object -/
def k0 : Class := { plain "java/lang/Object" none with
  accessFlags := 33
  interfaces := #[]
  cf := some (fileOf pool0 8 #[] #[{ accessFlags := 1, nameIndex := 5, descriptorIndex := 6, attributes := #[] }] 33 0 #[] #[])
  fields := #[]
  methods := #[k0m0]
  instanceTypes := #[]
  staticTypes := #[]
  resolved := Array.replicate 124 none
  statics := none }

def pool1 : Array CpInfo := pool [(2, .class_ 4), (1, u "java/lang/Object"), (0, u "<init>"), (0, u "()V"), (0, .class_ 8), (0, u "com/example/tributary/tributary/plan/NodeHeap"), (0, .methodref 7 10), (0, .nameAndType 5 11), (0, u "(I)V"), (0, .methodref 7 13), (0, .nameAndType 14 15), (0, u "offer"), (0, u "(ID)V"), (0, .methodref 17 18), (0, .class_ 19), (0, .nameAndType 20 21), (0, u "com/example/tributary/tributary/plan/NodeHeapOfferPinLaw"), (0, u "note"), (0, u "([Z[III)V"), (0, .methodref 17 23), (0, .nameAndType 24 25), (0, u "put"), (0, u "([Z[I[II)I"), (0, .methodref 7 27), (0, .nameAndType 28 29), (0, u "poll"), (0, u "()I"), (0, .methodref 7 31), (0, .nameAndType 32 33), (0, u "isEmpty"), (0, u "()Z"), (0, .methodref 17 35), (0, .nameAndType 36 37), (0, u "before"), (0, u "([III)Z"), (0, .methodref 17 39), (0, .nameAndType 40 41), (0, u "rank"), (0, u "([Z[II)I"), (2, u "law"), (0, u "(IIII)Z")] 7

def k1m0 : Method := { name := "<init>", desc := "()V", sig := { parameters := [], returnType := none }, accessFlags := 1, code := none }
def k1c1 : Code := { maxStack := 5, maxLocals := 18, code := code, exceptionTable := #[], attributes := #[] }
def k1m1 : Method := { name := "law", desc := "(IIII)Z", sig := { parameters := [.int, .int, .int, .int], returnType := some .boolean }, accessFlags := 9, code := some k1c1 }
def k1c2 : Code := { maxStack := 3, maxLocals := 4, code := method_3_code, exceptionTable := #[], attributes := #[] }
def k1m2 : Method := { name := "note", desc := "([Z[III)V", sig := { parameters := [(.array .boolean), (.array .int), .int, .int], returnType := none }, accessFlags := 10, code := some k1c2 }
def k1c3 : Code := { maxStack := 3, maxLocals := 3, code := method_4_code, exceptionTable := #[], attributes := #[] }
def k1m3 : Method := { name := "before", desc := "([III)Z", sig := { parameters := [(.array .int), .int, .int], returnType := some .boolean }, accessFlags := 10, code := some k1c3 }
def k1c4 : Code := { maxStack := 3, maxLocals := 4, code := method_5_code, exceptionTable := #[], attributes := #[] }
def k1m4 : Method := { name := "rank", desc := "([Z[II)I", sig := { parameters := [(.array .boolean), (.array .int), .int], returnType := some .int }, accessFlags := 10, code := some k1c4 }
def k1c5 : Code := { maxStack := 4, maxLocals := 4, code := method_6_code, exceptionTable := #[], attributes := #[] }
def k1m5 : Method := { name := "put", desc := "([Z[I[II)I", sig := { parameters := [(.array .boolean), (.array .int), (.array .int), .int], returnType := some .int }, accessFlags := 10, code := some k1c5 }
/-- com/example/tributary/tributary/plan/NodeHeapOfferPinLaw -/
def k1 : Class := { plain "com/example/tributary/tributary/plan/NodeHeapOfferPinLaw" (some 0) with
  accessFlags := 49
  interfaces := #[]
  cf := some (fileOf pool1 17 #[] #[{ accessFlags := 1, nameIndex := 5, descriptorIndex := 6, attributes := #[] }, { accessFlags := 9, nameIndex := 44, descriptorIndex := 45, attributes := #[] }, { accessFlags := 10, nameIndex := 20, descriptorIndex := 21, attributes := #[] }, { accessFlags := 10, nameIndex := 36, descriptorIndex := 37, attributes := #[] }, { accessFlags := 10, nameIndex := 40, descriptorIndex := 41, attributes := #[] }, { accessFlags := 10, nameIndex := 24, descriptorIndex := 25, attributes := #[] }] 49 2 #[] #[])
  fields := #[]
  methods := #[k1m0, k1m1, k1m2, k1m3, k1m4, k1m5]
  instanceTypes := #[]
  staticTypes := #[]
  resolved := Array.replicate 53 none
  statics := none }

def pool2 : Array CpInfo := pool [(1, .methodref 2 3), (0, .class_ 4), (0, .nameAndType 5 6), (0, u "java/lang/Object"), (0, u "<init>"), (0, u "()V"), (0, .fieldref 8 9), (0, .class_ 10), (0, .nameAndType 11 12), (0, u "com/example/tributary/tributary/plan/NodeHeap"), (0, u "heap"), (0, u "[I"), (0, .fieldref 8 14), (0, .nameAndType 15 12), (0, u "position"), (0, .fieldref 8 17), (0, .nameAndType 18 19), (0, u "key"), (0, u "[D"), (0, .methodref 21 22), (0, .class_ 23), (0, .nameAndType 24 25), (0, u "java/util/Arrays"), (0, u "fill"), (0, u "([II)V"), (0, .fieldref 8 27), (0, .nameAndType 28 29), (0, u "size"), (0, u "I"), (0, .methodref 8 31), (0, .nameAndType 32 33), (0, u "rise"), (0, u "(I)V"), (0, .methodref 8 35), (0, .nameAndType 36 33), (0, u "sink"), (0, .methodref 8 38), (0, .nameAndType 39 40), (0, u "before"), (0, u "(II)Z"), (0, .methodref 8 42), (0, .nameAndType 43 44), (0, u "place"), (0, u "(II)V"), (2, u "isEmpty"), (0, u "()Z"), (1, u "offer"), (0, u "(ID)V"), (0, u "poll"), (0, u "()I")] 2

def k2c0 : Code := { maxStack := 2, maxLocals := 2, code := prog_39_method_1_code, exceptionTable := #[], attributes := #[] }
def k2m0 : Method := { name := "<init>", desc := "(I)V", sig := { parameters := [.int], returnType := none }, accessFlags := 0, code := some k2c0 }
def k2c1 : Code := { maxStack := 1, maxLocals := 1, code := prog_39_method_2_code, exceptionTable := #[], attributes := #[] }
def k2m1 : Method := { name := "isEmpty", desc := "()Z", sig := { parameters := [], returnType := some .boolean }, accessFlags := 0, code := some k2c1 }
def k2c2 : Code := { maxStack := 4, maxLocals := 5, code := prog_39_method_3_code, exceptionTable := #[], attributes := #[] }
def k2m2 : Method := { name := "offer", desc := "(ID)V", sig := { parameters := [.int, .double], returnType := none }, accessFlags := 0, code := some k2c2 }
def k2c3 : Code := { maxStack := 4, maxLocals := 2, code := prog_39_method_4_code, exceptionTable := #[], attributes := #[] }
def k2m3 : Method := { name := "poll", desc := "()I", sig := { parameters := [], returnType := some .int }, accessFlags := 0, code := some k2c3 }
def k2c4 : Code := { maxStack := 4, maxLocals := 3, code := prog_39_method_5_code, exceptionTable := #[], attributes := #[] }
def k2m4 : Method := { name := "before", desc := "(II)Z", sig := { parameters := [.int, .int], returnType := some .boolean }, accessFlags := 2, code := some k2c4 }
def k2c5 : Code := { maxStack := 4, maxLocals := 4, code := prog_39_method_6_code, exceptionTable := #[], attributes := #[] }
def k2m5 : Method := { name := "rise", desc := "(I)V", sig := { parameters := [.int], returnType := none }, accessFlags := 2, code := some k2c5 }
def k2c6 : Code := { maxStack := 4, maxLocals := 4, code := prog_39_method_7_code, exceptionTable := #[], attributes := #[] }
def k2m6 : Method := { name := "sink", desc := "(I)V", sig := { parameters := [.int], returnType := none }, accessFlags := 2, code := some k2c6 }
def k2c7 : Code := { maxStack := 3, maxLocals := 3, code := prog_39_method_8_code, exceptionTable := #[], attributes := #[] }
def k2m7 : Method := { name := "place", desc := "(II)V", sig := { parameters := [.int, .int], returnType := none }, accessFlags := 2, code := some k2c7 }
/-- com/example/tributary/tributary/plan/NodeHeap -/
def k2 : Class := { plain "com/example/tributary/tributary/plan/NodeHeap" (some 0) with
  accessFlags := 48
  interfaces := #[]
  cf := some (fileOf pool2 8 #[] #[{ accessFlags := 0, nameIndex := 5, descriptorIndex := 33, attributes := #[] }, { accessFlags := 0, nameIndex := 47, descriptorIndex := 48, attributes := #[] }, { accessFlags := 0, nameIndex := 50, descriptorIndex := 51, attributes := #[] }, { accessFlags := 0, nameIndex := 52, descriptorIndex := 53, attributes := #[] }, { accessFlags := 2, nameIndex := 39, descriptorIndex := 40, attributes := #[] }, { accessFlags := 2, nameIndex := 32, descriptorIndex := 33, attributes := #[] }, { accessFlags := 2, nameIndex := 36, descriptorIndex := 33, attributes := #[] }, { accessFlags := 2, nameIndex := 43, descriptorIndex := 44, attributes := #[] }] 48 2 #[] #[{ accessFlags := 18, nameIndex := 11, descriptorIndex := 12, attributes := #[] }, { accessFlags := 18, nameIndex := 15, descriptorIndex := 12, attributes := #[] }, { accessFlags := 18, nameIndex := 18, descriptorIndex := 19, attributes := #[] }, { accessFlags := 2, nameIndex := 28, descriptorIndex := 29, attributes := #[] }])
  fields := #[{ name := "heap", type := (.array .int), accessFlags := 18, slot := 0, constantValue := 0 }, { name := "position", type := (.array .int), accessFlags := 18, slot := 1, constantValue := 0 }, { name := "key", type := (.array .double), accessFlags := 18, slot := 2, constantValue := 0 }, { name := "size", type := .int, accessFlags := 2, slot := 3, constantValue := 0 }]
  methods := #[k2m0, k2m1, k2m2, k2m3, k2m4, k2m5, k2m6, k2m7]
  instanceTypes := #[(.array .int), (.array .int), (.array .double), .int]
  staticTypes := #[]
  resolved := Array.replicate 56 none
  statics := none }

def pool3 : Array CpInfo := pool [(2, .class_ 4), (1, u "java/lang/Object"), (0, u "<init>"), (0, u "()V"), (7, .class_ 16), (1, u "java/util/Arrays"), (57, .class_ 76), (1, u "java/util/Arrays$NaturalOrder"), (36, .class_ 115), (1, u "java/util/Arrays$LegacyMergeSort"), (1, u "Z"), (257, .class_ 376), (0, u "java/util/Arrays$ArrayList"), (68, u "$assertionsDisabled"), (269, u "MIN_ARRAY_SORT_GRAN"), (0, u "I"), (2, u "INSERTIONSORT_THRESHOLD"), (120, u "fill"), (4, u "([II)V"), (129, .class_ 976), (0, u "java/util/Arrays$ArrayItr")] 52

def k3m0 : Method := { name := "<init>", desc := "()V", sig := { parameters := [], returnType := none }, accessFlags := 2, code := none }
def k3c1 : Code := { maxStack := 3, maxLocals := 4, code := jdk_65_method_103_code, exceptionTable := #[], attributes := #[] }
def k3m1 : Method := { name := "fill", desc := "([II)V", sig := { parameters := [(.array .int), .int], returnType := none }, accessFlags := 9, code := some k3c1 }
/-- java/util/Arrays -/
def k3 : Class := { plain "java/util/Arrays" (some 0) with
  accessFlags := 49
  interfaces := #[]
  cf := some (fileOf pool3 14 #[.nestMembers #[975, 375, 113, 74]] #[{ accessFlags := 2, nameIndex := 5, descriptorIndex := 6, attributes := #[] }, { accessFlags := 9, nameIndex := 840, descriptorIndex := 845, attributes := #[] }] 49 2 #[] #[{ accessFlags := 26, nameIndex := 715, descriptorIndex := 716, attributes := #[] }, { accessFlags := 26, nameIndex := 719, descriptorIndex := 716, attributes := #[] }, { accessFlags := 4120, nameIndex := 445, descriptorIndex := 117, attributes := #[] }])
  fields := #[{ name := "MIN_ARRAY_SORT_GRAN", type := .int, accessFlags := 26, slot := 0, constantValue := 0 }, { name := "INSERTIONSORT_THRESHOLD", type := .int, accessFlags := 26, slot := 1, constantValue := 0 }, { name := "$assertionsDisabled", type := .boolean, accessFlags := 4120, slot := 2, constantValue := 0 }]
  methods := #[k3m0, k3m1]
  instanceTypes := #[]
  staticTypes := #[.int, .int, .boolean]
  resolved := Array.replicate 1029 none
  statics := none }

def pool4 : Array CpInfo := pool [(1, u "java/lang/Cloneable"), (0, .class_ 1), (0, u "java/lang/Object"), (0, .class_ 3)] 3

/-- java/lang/Cloneable -/
def k4 : Class := { plain "java/lang/Cloneable" (some 0) with
  accessFlags := 1537
  interfaces := #[]
  cf := some (fileOf pool4 2 #[] #[] 1537 4 #[] #[])
  fields := #[]
  methods := #[]
  instanceTypes := #[]
  staticTypes := #[]
  resolved := Array.replicate 8 none
  statics := none }

def pool5 : Array CpInfo := pool [(1, u "java/io/Serializable"), (0, .class_ 1), (0, u "java/lang/Object"), (0, .class_ 3)] 3

/-- java/io/Serializable -/
def k5 : Class := { plain "java/io/Serializable" (some 0) with
  accessFlags := 1537
  interfaces := #[]
  cf := some (fileOf pool5 2 #[] #[] 1537 4 #[] #[])
  fields := #[]
  methods := #[]
  instanceTypes := #[]
  staticTypes := #[]
  resolved := Array.replicate 8 none
  statics := none }

/-- the primitive boolean -/
def k6 : Class := { plain "boolean" none with kind := .primitive 'Z', accessFlags := 0x411 }
/-- [Z -/
def k7 : Class := { plain "[Z" (some 0) with kind := .array 6 .boolean, interfaces := #[4, 5], accessFlags := 1041 }

/-- the primitive byte -/
def k8 : Class := { plain "byte" none with kind := .primitive 'B', accessFlags := 0x411 }
/-- [B -/
def k9 : Class := { plain "[B" (some 0) with kind := .array 8 .byte, interfaces := #[4, 5], accessFlags := 1041 }

/-- the primitive double -/
def k10 : Class := { plain "double" none with kind := .primitive 'D', accessFlags := 0x411 }
/-- [D -/
def k11 : Class := { plain "[D" (some 0) with kind := .array 10 .double, interfaces := #[4, 5], accessFlags := 1041 }

/-- the primitive int -/
def k12 : Class := { plain "int" none with kind := .primitive 'I', accessFlags := 0x411 }
/-- [I -/
def k13 : Class := { plain "[I" (some 0) with kind := .array 12 .int, interfaces := #[4, 5], accessFlags := 1041 }

def heap : Heap := #[]
def classes : Array Class := #[k0, k1, k2, k3, k4, k5, k6, k7, k8, k9, k10, k11, k12, k13]
def interned : List (Array UInt16 × Addr) := []
def slotsUsed : Nat := 0
def theMethod : MethodId := ⟨1, 1⟩
def args0 : Array Value := #[.int 2, .int 9, .int 3, .int 7]
def aboutOver (below : List Frame) : State where
  vm := { classes := classes, interned := interned.toArray }
  heap := heap
  slotsUsed := slotsUsed
  threads := #[{ frames := .invoking theMethod args0 :: below }]
def below0 : List Frame := [.native { method := ⟨0, 0⟩, args := #[] }]
def about1 : State := aboutOver below0
def p0 : Program := .bare "" "" ""
def e0 : Env := launch0.env 0 0 0
theorem w_frames : about1.frames = Frame.invoking theMethod args0 :: below0 := rfl
set_option maxRecDepth 65536 in
theorem w_args : argsFit about1.vm theMethod args0 = true := by decide +kernel
set_option maxRecDepth 65536 in
theorem w_heap : heapFits about1 = true := by decide +kernel
set_option maxRecDepth 65536 in
theorem w_runnable : about1.curStatus? = some .runnable := by decide +kernel
set_option maxRecDepth 65536 in
theorem w_alone : about1.alone = true := by decide +kernel
set_option maxRecDepth 65536 in
theorem w_named : about1.methodNamed? x = some theMethod := by decide +kernel
set_option maxRecDepth 65536 in
theorem w_hears : about1.hears theMethod below0 = true := by decide +kernel
set_option maxRecDepth 65536 in
theorem w_ripe : about1.ripe theMethod args0 below0 = true := by decide +kernel
theorem w_running : about1.status = .running := rfl
set_option maxRecDepth 65536 in
theorem w_room : about1.hasRoom e0.platform room_1 = true :=
  launch0.hasRoom_least _ room_1 (by decide +kernel) (by decide +kernel) (by decide +kernel) (by decide +kernel) (by decide +kernel) (by decide +kernel)
theorem allAtoms_all (ts : List Jvm.Cond) (a : Array Jvm.Value) (st : Jvm.State) : (allAtoms ts).before a st = ts.all (fun c => c.before a st) := by
  induction ts with
  | nil => rfl
  | cons c t ih =>
    show (Jvm.Cond.and c (allAtoms t)).before a st = _
    rw [Jvm.Cond.before_and, ih, List.all_cons]
def words1 : List Jvm.Cond := Jvm.Cond.code x code maxLocals ret :: tables_1
/-- a 'code' word, met by the world's own term for the bytes: nothing is compared byte by byte -/
theorem code_word {y : MethodName} {bytes : ByteArray} {mx : Nat} {rt : Option FieldType} {a : Array Value} {s : State} {m : MethodId} {meth : Method} {c : Code} (h1 : s.methodNamed? y = some m) (h2 : s.vm.method? m = some meth) (h3 : meth.code = some c) (h4 : c.code = bytes)
    (h5 : (c.maxLocals == mx && c.exceptionTable.isEmpty && decide (c.maxStack ≤ mostOperands) && decide (meth.sig.returnType = rt) && !meth.locks && decide (parseMethodDescriptor y.desc = some meth.sig)) = true) : (Jvm.Cond.code y bytes mx rt).before a s = true := by
  simp only [Bool.and_eq_true, beq_iff_eq, Bool.not_eq_true', decide_eq_true_eq] at h5
  obtain ⟨⟨⟨⟨⟨g1, g2⟩, g3⟩, g4⟩, g5⟩, g6⟩ := h5
  simp [Cond.before, Cond.holds, Cond.value, h1, h2, h3, h4, g1, g2, g3, g4, g5, g6]
def isCode : Jvm.Cond → Bool
  | .code _ _ _ _ => true
  | _ => false
theorem all_split {L : List Jvm.Cond} {P : Jvm.Cond → Bool} (h1 : L.all (fun c => isCode c || P c) = true) (h2 : ∀ c ∈ L.filter isCode, P c = true) : L.all P = true := by
  refine List.all_eq_true.mpr fun c hc => ?_
  have h := List.all_eq_true.mp h1 c hc
  rcases Bool.eq_false_or_eq_true (isCode c) with hi | hi
  · exact h2 c (List.mem_filter.mpr ⟨hc, hi⟩)
  · simpa [hi] using h
set_option maxRecDepth 65536 in
theorem w_c0 : (Jvm.Cond.code x code maxLocals ret).before args0 about1 = true := code_word (m := ⟨1, 1⟩) (meth := k1m1) (c := k1c1) (by decide +kernel) rfl rfl rfl (by decide +kernel)
set_option maxRecDepth 65536 in
theorem w_c1 : (Jvm.Cond.code ({ cls := "com/example/tributary/tributary/plan/NodeHeap", name := "<init>", desc := "(I)V" } : Jvm.MethodName) prog_39_method_1_code (2 : Nat) (Option.none : Option Jvm.ClassFile.FieldType)).before args0 about1 = true := code_word (m := ⟨2, 0⟩) (meth := k2m0) (c := k2c0) (by decide +kernel) rfl rfl rfl (by decide +kernel)
set_option maxRecDepth 65536 in
theorem w_c2 : (Jvm.Cond.code ({ cls := "java/lang/Object", name := "<init>", desc := "()V" } : Jvm.MethodName) object_method_1_code (1 : Nat) (Option.none : Option Jvm.ClassFile.FieldType)).before args0 about1 = true := code_word (m := ⟨0, 0⟩) (meth := k0m0) (c := k0c0) (by decide +kernel) rfl rfl rfl (by decide +kernel)
set_option maxRecDepth 65536 in
theorem w_c3 : (Jvm.Cond.code ({ cls := "java/util/Arrays", name := "fill", desc := "([II)V" } : Jvm.MethodName) jdk_65_method_103_code (4 : Nat) (Option.none : Option Jvm.ClassFile.FieldType)).before args0 about1 = true := code_word (m := ⟨3, 1⟩) (meth := k3m1) (c := k3c1) (by decide +kernel) rfl rfl rfl (by decide +kernel)
set_option maxRecDepth 65536 in
theorem w_c4 : (Jvm.Cond.code ({ cls := "com/example/tributary/tributary/plan/NodeHeap", name := "offer", desc := "(ID)V" } : Jvm.MethodName) prog_39_method_3_code (5 : Nat) (Option.none : Option Jvm.ClassFile.FieldType)).before args0 about1 = true := code_word (m := ⟨2, 2⟩) (meth := k2m2) (c := k2c2) (by decide +kernel) rfl rfl rfl (by decide +kernel)
set_option maxRecDepth 65536 in
theorem w_c5 : (Jvm.Cond.code ({ cls := "com/example/tributary/tributary/plan/NodeHeap", name := "rise", desc := "(I)V" } : Jvm.MethodName) prog_39_method_6_code (4 : Nat) (Option.none : Option Jvm.ClassFile.FieldType)).before args0 about1 = true := code_word (m := ⟨2, 5⟩) (meth := k2m5) (c := k2c5) (by decide +kernel) rfl rfl rfl (by decide +kernel)
set_option maxRecDepth 65536 in
theorem w_c6 : (Jvm.Cond.code ({ cls := "com/example/tributary/tributary/plan/NodeHeap", name := "place", desc := "(II)V" } : Jvm.MethodName) prog_39_method_8_code (3 : Nat) (Option.none : Option Jvm.ClassFile.FieldType)).before args0 about1 = true := code_word (m := ⟨2, 7⟩) (meth := k2m7) (c := k2c7) (by decide +kernel) rfl rfl rfl (by decide +kernel)
set_option maxRecDepth 65536 in
theorem w_c7 : (Jvm.Cond.code ({ cls := "com/example/tributary/tributary/plan/NodeHeap", name := "before", desc := "(II)Z" } : Jvm.MethodName) prog_39_method_5_code (3 : Nat) (Option.some Jvm.ClassFile.FieldType.boolean)).before args0 about1 = true := code_word (m := ⟨2, 4⟩) (meth := k2m4) (c := k2c4) (by decide +kernel) rfl rfl rfl (by decide +kernel)
set_option maxRecDepth 65536 in
theorem w_c8 : (Jvm.Cond.code ({ cls := "com/example/tributary/tributary/plan/NodeHeapOfferPinLaw", name := "note", desc := "([Z[III)V" } : Jvm.MethodName) method_3_code (4 : Nat) (Option.none : Option Jvm.ClassFile.FieldType)).before args0 about1 = true := code_word (m := ⟨1, 2⟩) (meth := k1m2) (c := k1c2) (by decide +kernel) rfl rfl rfl (by decide +kernel)
set_option maxRecDepth 65536 in
theorem w_c9 : (Jvm.Cond.code ({ cls := "com/example/tributary/tributary/plan/NodeHeapOfferPinLaw", name := "put", desc := "([Z[I[II)I" } : Jvm.MethodName) method_6_code (4 : Nat) (Option.some Jvm.ClassFile.FieldType.int)).before args0 about1 = true := code_word (m := ⟨1, 5⟩) (meth := k1m5) (c := k1c5) (by decide +kernel) rfl rfl rfl (by decide +kernel)
set_option maxRecDepth 65536 in
theorem w_c10 : (Jvm.Cond.code ({ cls := "com/example/tributary/tributary/plan/NodeHeapOfferPinLaw", name := "rank", desc := "([Z[II)I" } : Jvm.MethodName) method_5_code (4 : Nat) (Option.some Jvm.ClassFile.FieldType.int)).before args0 about1 = true := code_word (m := ⟨1, 4⟩) (meth := k1m4) (c := k1c4) (by decide +kernel) rfl rfl rfl (by decide +kernel)
set_option maxRecDepth 65536 in
theorem w_c11 : (Jvm.Cond.code ({ cls := "com/example/tributary/tributary/plan/NodeHeapOfferPinLaw", name := "before", desc := "([III)Z" } : Jvm.MethodName) method_4_code (3 : Nat) (Option.some Jvm.ClassFile.FieldType.boolean)).before args0 about1 = true := code_word (m := ⟨1, 3⟩) (meth := k1m3) (c := k1c3) (by decide +kernel) rfl rfl rfl (by decide +kernel)
set_option maxRecDepth 65536 in
theorem w_c12 : (Jvm.Cond.code ({ cls := "com/example/tributary/tributary/plan/NodeHeap", name := "poll", desc := "()I" } : Jvm.MethodName) prog_39_method_4_code (2 : Nat) (Option.some Jvm.ClassFile.FieldType.int)).before args0 about1 = true := code_word (m := ⟨2, 3⟩) (meth := k2m3) (c := k2c3) (by decide +kernel) rfl rfl rfl (by decide +kernel)
set_option maxRecDepth 65536 in
theorem w_c13 : (Jvm.Cond.code ({ cls := "com/example/tributary/tributary/plan/NodeHeap", name := "sink", desc := "(I)V" } : Jvm.MethodName) prog_39_method_7_code (4 : Nat) (Option.none : Option Jvm.ClassFile.FieldType)).before args0 about1 = true := code_word (m := ⟨2, 6⟩) (meth := k2m6) (c := k2c6) (by decide +kernel) rfl rfl rfl (by decide +kernel)
set_option maxRecDepth 65536 in
theorem w_c14 : (Jvm.Cond.code ({ cls := "com/example/tributary/tributary/plan/NodeHeap", name := "isEmpty", desc := "()Z" } : Jvm.MethodName) prog_39_method_2_code (1 : Nat) (Option.some Jvm.ClassFile.FieldType.boolean)).before args0 about1 = true := code_word (m := ⟨2, 1⟩) (meth := k2m1) (c := k2c1) (by decide +kernel) rfl rfl rfl (by decide +kernel)
def codes1 : List Jvm.Cond := [Jvm.Cond.code x code maxLocals ret, Jvm.Cond.code ({ cls := "com/example/tributary/tributary/plan/NodeHeap", name := "<init>", desc := "(I)V" } : Jvm.MethodName) prog_39_method_1_code (2 : Nat) (Option.none : Option Jvm.ClassFile.FieldType), Jvm.Cond.code ({ cls := "java/lang/Object", name := "<init>", desc := "()V" } : Jvm.MethodName) object_method_1_code (1 : Nat) (Option.none : Option Jvm.ClassFile.FieldType), Jvm.Cond.code ({ cls := "java/util/Arrays", name := "fill", desc := "([II)V" } : Jvm.MethodName) jdk_65_method_103_code (4 : Nat) (Option.none : Option Jvm.ClassFile.FieldType), Jvm.Cond.code ({ cls := "com/example/tributary/tributary/plan/NodeHeap", name := "offer", desc := "(ID)V" } : Jvm.MethodName) prog_39_method_3_code (5 : Nat) (Option.none : Option Jvm.ClassFile.FieldType), Jvm.Cond.code ({ cls := "com/example/tributary/tributary/plan/NodeHeap", name := "rise", desc := "(I)V" } : Jvm.MethodName) prog_39_method_6_code (4 : Nat) (Option.none : Option Jvm.ClassFile.FieldType), Jvm.Cond.code ({ cls := "com/example/tributary/tributary/plan/NodeHeap", name := "place", desc := "(II)V" } : Jvm.MethodName) prog_39_method_8_code (3 : Nat) (Option.none : Option Jvm.ClassFile.FieldType), Jvm.Cond.code ({ cls := "com/example/tributary/tributary/plan/NodeHeap", name := "before", desc := "(II)Z" } : Jvm.MethodName) prog_39_method_5_code (3 : Nat) (Option.some Jvm.ClassFile.FieldType.boolean), Jvm.Cond.code ({ cls := "com/example/tributary/tributary/plan/NodeHeapOfferPinLaw", name := "note", desc := "([Z[III)V" } : Jvm.MethodName) method_3_code (4 : Nat) (Option.none : Option Jvm.ClassFile.FieldType), Jvm.Cond.code ({ cls := "com/example/tributary/tributary/plan/NodeHeapOfferPinLaw", name := "put", desc := "([Z[I[II)I" } : Jvm.MethodName) method_6_code (4 : Nat) (Option.some Jvm.ClassFile.FieldType.int), Jvm.Cond.code ({ cls := "com/example/tributary/tributary/plan/NodeHeapOfferPinLaw", name := "rank", desc := "([Z[II)I" } : Jvm.MethodName) method_5_code (4 : Nat) (Option.some Jvm.ClassFile.FieldType.int), Jvm.Cond.code ({ cls := "com/example/tributary/tributary/plan/NodeHeapOfferPinLaw", name := "before", desc := "([III)Z" } : Jvm.MethodName) method_4_code (3 : Nat) (Option.some Jvm.ClassFile.FieldType.boolean), Jvm.Cond.code ({ cls := "com/example/tributary/tributary/plan/NodeHeap", name := "poll", desc := "()I" } : Jvm.MethodName) prog_39_method_4_code (2 : Nat) (Option.some Jvm.ClassFile.FieldType.int), Jvm.Cond.code ({ cls := "com/example/tributary/tributary/plan/NodeHeap", name := "sink", desc := "(I)V" } : Jvm.MethodName) prog_39_method_7_code (4 : Nat) (Option.none : Option Jvm.ClassFile.FieldType), Jvm.Cond.code ({ cls := "com/example/tributary/tributary/plan/NodeHeap", name := "isEmpty", desc := "()Z" } : Jvm.MethodName) prog_39_method_2_code (1 : Nat) (Option.some Jvm.ClassFile.FieldType.boolean)]
set_option maxRecDepth 65536 in
theorem codes_eq : words1.filter isCode = codes1 := rfl
theorem w_codes : ∀ c ∈ words1.filter isCode, c.before args0 about1 = true := by
  rw [codes_eq]
  intro c hc
  simp only [codes1, List.mem_cons, List.not_mem_nil, or_false] at hc
  rcases hc with rfl | rfl | rfl | rfl | rfl | rfl | rfl | rfl | rfl | rfl | rfl | rfl | rfl | rfl | rfl
  · exact w_c0
  · exact w_c1
  · exact w_c2
  · exact w_c3
  · exact w_c4
  · exact w_c5
  · exact w_c6
  · exact w_c7
  · exact w_c8
  · exact w_c9
  · exact w_c10
  · exact w_c11
  · exact w_c12
  · exact w_c13
  · exact w_c14
set_option maxRecDepth 65536 in
theorem w_t1 : (words1.take 24).all (fun c => isCode c || c.before args0 about1) = true := by decide +kernel
set_option maxRecDepth 65536 in
theorem w_t2 : ((words1.drop 24).take 24).all (fun c => isCode c || c.before args0 about1) = true := by decide +kernel
set_option maxRecDepth 65536 in
theorem w_t3 : ((words1.drop 24).drop 24).all (fun c => isCode c || c.before args0 about1) = true := by decide +kernel
theorem w_tables : (allAtoms (Jvm.Cond.code x code maxLocals ret :: tables_1)).before args0 about1 = true := by
  rw [allAtoms_all]
  show words1.all (fun c => c.before args0 about1) = true
  refine all_split ?_ w_codes
  rw [← List.take_append_drop 24 words1, List.all_append, w_t1, ← List.take_append_drop 24 (words1.drop 24), List.all_append, w_t2, w_t3]
  rfl
set_option maxRecDepth 65536 in
theorem w_case : (Jvm.Cond.and given_1 narrow_1).before args0 about1 = true := by decide +kernel
theorem w_applies : (headSpec (Jvm.Cond.code x code maxLocals ret :: tables_1) room_1).applies x e0.platform about1 = true :=
  (Spec.applies_iff w_frames).mpr ⟨w_running, w_runnable, w_alone, w_named, w_hears, w_ripe, w_room, w_tables⟩
theorem atStart : AtStart classFile x code maxLocals ret World_1 tables_1 room_1 Calls_1 rest_1 Pre_1 launch0 p0 e0 about1 theMethod args0 below0 :=
  ⟨lists_1, trivial, launch0.admits_env _ _ _, launch0.least_env, fairChoices_fair.cas, fairChoices_fair.clock, w_frames, w_args, w_heap, w_applies, trivial, trivial, w_case⟩
end start1
theorem witness_1 : WitnessClaimed_1 := ⟨start1.p0, start1.e0, start1.about1, start1.theMethod, start1.args0, start1.below0, start1.atStart⟩
end Jvm.Pilot.@@N@@
