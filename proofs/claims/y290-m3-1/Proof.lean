import JvmDerived
import JvmDerived.Pilot.@@N@@Statement
import JvmDerived.Pilot.@@N@@Code
set_option linter.unusedVariables false
set_option linter.unusedSimpArgs false
namespace Jvm.OwnKit
open Sem ClassFile Op Lib Jvm.Stand Jvm.Free Jvm.LawKit Jvm.RoadKit
/-- from S the run ends as wanted: it returns v, leaves a heap and has written the places L -/
def Goes (p : Program) (e : Env) (below : List Frame) (s : State) (K N : Nat) (Q : Option Value → Heap → List Loc → Prop) (S : State) : Prop :=
  ∃ s₂ o, Steps p.tables e below S s₂ ∧ s₂.status = .running ∧ Ended s₂ below o ∧ ∃ v L, o = .returned v ∧ Q v s₂.heap L ∧ FrameEnd s o s₂ L K N
def Cl (p : Program) (e : Env) (below : List Frame) (G : State → Prop) : Prop := ∀ S S', (∀ t, Steps p.tables e below S' t → Steps p.tables e below S t) → G S' → G S
theorem Goes.cl (p : Program) (e : Env) (below : List Frame) (s : State) (K N : Nat) (Q : Option Value → Heap → List Loc → Prop) : Cl p e below (Goes p e below s K N Q) := fun S S' h k => by
  obtain ⟨s₂, o, h1, r⟩ := k
  exact ⟨s₂, o, h _ h1, r⟩
/-- a body's contract -/
abbrev Con (l : Launch) (y : MethodName) (bytes : ByteArray) (maxL : Nat) (ret : Option FieldType) (ws : List Jvm.Cond) (rm : Room) (Z : State) (as : Array Value) (h0 : Heap) (K N : Nat) (Q : Option Value → Heap → List Loc → Prop) : Prop :=
  MetFree l y (head1 (Jvm.Cond.code y bytes maxL ret :: ws) rm) (fun a U => a = as ∧ Z.Warmed39 U.vm ∧ U.heap = h0) (fun _ _ _ _ _ => True) (fun _ U o U' => ∃ v L, o = .returned v ∧ Q v U'.heap L ∧ FrameEnd U o U' L K N)
theorem Con.of {l : Launch} {y : MethodName} {bytes : ByteArray} {maxL : Nat} {ret : Option FieldType} {ws : List Jvm.Cond} {rm : Room} {Z : State} {as : Array Value} {h0 : Heap} {K N : Nat} {Q : Option Value → Heap → List Loc → Prop} {Ls : Array Slot}
    (pl : plainFor y = true) (hef : ∀ m, entryFrame m as maxL = mkF m 0 Ls [])
    (H : ∀ (p : Program) (e : Env) (s : State) (m : MethodId) (below : List Frame) (meth : Method) (c : Code) (s₁ : State) (G : State → Prop), G = Goes p e below s K N Q → Cl p e below G → p.tables.exec = Jvm.exec → c.code = bytes → c.maxLocals = maxL → s.vm.findClass y.cls = some m.cls → meth.name = y.name → meth.sig.returnType = ret → meth.locks = false → Z.Warmed39 s.vm → Stand p l e rm s m as below meth c s₁ [] 0 0 → s₁.heap = h0 → G (s₁.setTop (mkF m 0 Ls []))) :
    Con l y bytes maxL ret ws rm Z as h0 K N Q := by
  refine MetFree.of_bodySF pl hisR ?_
  intro p e s m args below meth c s₁ Bd hml0 hP hK
  obtain ⟨rfl, hZ, hh⟩ := hP
  have X0 : Stand p l e rm s m args below meth c s₁ [] 0 0 := Stand.of_body Bd
  have e0 : s₁.heap = h0 := by rw [← hh, Bd.state]; rfl
  have g := H p e s m below meth c s₁ _ rfl (Goes.cl p e below s K N Q) Bd.exec Bd.bytes hml0 (findClass_of_methodNamed Bd.named) (name_of_methodNamed Bd.named Bd.method).1 Bd.returns Bd.notSynchronized hZ X0 e0
  rw [← hef m] at g
  exact g
theorem Wr.size {h h' : Heap} {a : Addr} {sl : Nat} {v : Value} (W : Wr h h' a sl v) : h.size ≤ h'.size := by
  obtain ⟨c, -, -, -, rfl⟩ := W
  simp
section New
variable {p : Program} {l : Launch} {e : Env} {R : Room} {s : State} {m : MethodId} {args : Array Value} {below : List Frame} {meth : Method} {c : Code} {T : State} {locs : List Loc} {cells slots : Nat} {Z : State} {a0 : Array Value} {h : Heap} {G : State → Prop} {pc pc' : Nat} {Ls Ls' : Array Slot} {rest : List Value} {K N : Nat} {Q : Option Value → Heap → List Loc → Prop}
/-! the ends -/
theorem e_ret (hGe : G = Goes p e below s K N Q) (X : Stand p l e R s m args below meth c T locs cells slots) (hx : p.tables.exec = Jvm.exec) {w : Value} {t : FieldType} {i : Instr} (hret : meth.sig.returnType = some t) (hlk : meth.locks = false) (hd : decode c.code pc = .ok (i, 1)) (hn : narrow t w = w)
    (hi : (i = .ireturn ∧ (t = .int ∨ t = .boolean ∨ t = .byte ∨ t = .char ∨ t = .short) ∧ ∃ z, w = .int z) ∨ (i = .lreturn ∧ t = .long ∧ ∃ z, w = .long z) ∨ (i = .dreturn ∧ t = .double ∧ ∃ z, w = .double z) ∨ (i = .freturn ∧ t = .float ∧ ∃ z, w = .float z) ∨ (i = .areturn ∧ t.isReference = true ∧ w.isRef = true))
    (eT : T.heap = h) (hk : cells ≤ K) (hs : slots ≤ N) (hQ : Q (some w) h locs) : G (T.setTop (mkF m pc Ls (w :: rest))) := by
  subst hGe
  obtain ⟨fs, hr, hrun, hended, hW, hsame⟩ := X.leave (v := some w) (fun h => by rw [hret] at h; cases h) hlk
  refine ⟨_, _, retOut X hx hret hn hi hd hr, hrun, hended, _, _, rfl, ?_, ⟨_, rfl⟩, hW, hsame.mono hk hs⟩
  show Q _ T.heap _
  rw [eT]; exact hQ
theorem e_retI (hGe : G = Goes p e below s K N Q) (X : Stand p l e R s m args below meth c T locs cells slots) (hx : p.tables.exec = Jvm.exec) {z : Int32} (hret : meth.sig.returnType = some .int) (hlk : meth.locks = false) (hd : decode c.code pc = .ok (.ireturn, 1)) (eT : T.heap = h) (hk : cells ≤ K) (hs : slots ≤ N) (hQ : Q (some (.int z)) h locs) : G (T.setTop (mkF m pc Ls (.int z :: rest))) :=
  e_ret hGe X hx hret hlk hd rfl (Or.inl ⟨rfl, Or.inl rfl, z, rfl⟩) eT hk hs hQ
theorem e_retJ (hGe : G = Goes p e below s K N Q) (X : Stand p l e R s m args below meth c T locs cells slots) (hx : p.tables.exec = Jvm.exec) {z : Int64} (hret : meth.sig.returnType = some .long) (hlk : meth.locks = false) (hd : decode c.code pc = .ok (.lreturn, 1)) (eT : T.heap = h) (hk : cells ≤ K) (hs : slots ≤ N) (hQ : Q (some (.long z)) h locs) : G (T.setTop (mkF m pc Ls (.long z :: rest))) :=
  e_ret hGe X hx hret hlk hd rfl (Or.inr (Or.inl ⟨rfl, rfl, z, rfl⟩)) eT hk hs hQ
theorem e_retD (hGe : G = Goes p e below s K N Q) (X : Stand p l e R s m args below meth c T locs cells slots) (hx : p.tables.exec = Jvm.exec) {z : UInt64} (hret : meth.sig.returnType = some .double) (hlk : meth.locks = false) (hd : decode c.code pc = .ok (.dreturn, 1)) (eT : T.heap = h) (hk : cells ≤ K) (hs : slots ≤ N) (hQ : Q (some (.double z)) h locs) : G (T.setTop (mkF m pc Ls (.double z :: rest))) :=
  e_ret hGe X hx hret hlk hd rfl (Or.inr (Or.inr (Or.inl ⟨rfl, rfl, z, rfl⟩))) eT hk hs hQ
theorem e_retA (hGe : G = Goes p e below s K N Q) (X : Stand p l e R s m args below meth c T locs cells slots) (hx : p.tables.exec = Jvm.exec) {a : Addr} {t : FieldType} (hret : meth.sig.returnType = some t) (ht : t.isReference = true) (hlk : meth.locks = false) (hd : decode c.code pc = .ok (.areturn, 1)) (eT : T.heap = h) (hk : cells ≤ K) (hs : slots ≤ N) (hQ : Q (some (.ref a)) h locs) : G (T.setTop (mkF m pc Ls (.ref a :: rest))) :=
  e_ret hGe X hx hret hlk hd (by cases t <;> first | rfl | (cases ht)) (Or.inr (Or.inr (Or.inr (Or.inr ⟨rfl, ht, rfl⟩)))) eT hk hs hQ
theorem e_retZ (hGe : G = Goes p e below s K N Q) (X : Stand p l e R s m args below meth c T locs cells slots) (hx : p.tables.exec = Jvm.exec) {z : Int32} (hret : meth.sig.returnType = some .boolean) (hlk : meth.locks = false) (hd : decode c.code pc = .ok (.ireturn, 1)) (hz : z = 0 ∨ z = 1) (eT : T.heap = h) (hk : cells ≤ K) (hs : slots ≤ N) (hQ : Q (some (.int z)) h locs) : G (T.setTop (mkF m pc Ls (.int z :: rest))) :=
  e_ret hGe X hx hret hlk hd (by rcases hz with rfl | rfl <;> rfl) (Or.inl ⟨rfl, Or.inr (Or.inl rfl), z, rfl⟩) eT hk hs hQ
theorem e_ret0 (hGe : G = Goes p e below s K N Q) (X : Stand p l e R s m args below meth c T locs cells slots) (hx : p.tables.exec = Jvm.exec) (hret : meth.sig.returnType = none) (hlk : meth.locks = false) (hd : decode c.code pc = .ok (.return_, 1)) (eT : T.heap = h) (hk : cells ≤ K) (hs : slots ≤ N) (hQ : Q none h locs) : G (T.setTop (mkF m pc Ls [])) := by
  subst hGe
  obtain ⟨fs, hr, hrun, hended, hW, hsame⟩ := X.leave (v := none) (fun _ => rfl) hlk
  refine ⟨_, _, X.returnOut hx hret hd hr, hrun, hended, _, _, rfl, ?_, ⟨_, rfl⟩, hW, hsame.mono hk hs⟩
  show Q _ T.heap _
  rw [eT]; exact hQ
/-! the plain steps -/
theorem g_iload (hG : Cl p e below G) (X : Stand p l e R s m args below meth c T locs cells slots) (hx : p.tables.exec = Jvm.exec) {i : Nat} {v : Int32} (hd : decode c.code pc = .ok (.iload i, 2)) (hp : pc' = pc + 2) (hl : Ls[i]? = some (.val (.int v))) (k : G (T.setTop (mkF m pc' Ls (.int v :: rest)))) : G (T.setTop (mkF m pc Ls (rest))) := by
  subst hp
  refine hG _ _ (fun t ht => ?_) k
  exact XS.iload X.here hx rfl hd hl ht
theorem g_iloadN (hG : Cl p e below G) (X : Stand p l e R s m args below meth c T locs cells slots) (hx : p.tables.exec = Jvm.exec) {i : Fin 4} {v : Int32} (hd : decode c.code pc = .ok (.iload_n i, 1)) (hp : pc' = pc + 1) (hl : Ls[i.val]? = some (.val (.int v))) (k : G (T.setTop (mkF m pc' Ls (.int v :: rest)))) : G (T.setTop (mkF m pc Ls (rest))) := by
  subst hp
  refine hG _ _ (fun t ht => ?_) k
  exact XS.iloadN X.here hx rfl hd hl ht
theorem g_istore (hG : Cl p e below G) (X : Stand p l e R s m args below meth c T locs cells slots) (hx : p.tables.exec = Jvm.exec) {i : Nat} {v : Int32} (hd : decode c.code pc = .ok (.istore i, 2)) (hp : pc' = pc + 2) (hl : storeLocals Ls i (.int v) = some Ls') (k : G (T.setTop (mkF m pc' Ls' (rest)))) : G (T.setTop (mkF m pc Ls (.int v :: rest))) := by
  subst hp
  refine hG _ _ (fun t ht => ?_) k
  exact XS.istore X.here hx rfl hd rfl hl ht
theorem g_istoreN (hG : Cl p e below G) (X : Stand p l e R s m args below meth c T locs cells slots) (hx : p.tables.exec = Jvm.exec) {i : Fin 4} {v : Int32} (hd : decode c.code pc = .ok (.istore_n i, 1)) (hp : pc' = pc + 1) (hl : storeLocals Ls i.val (.int v) = some Ls') (k : G (T.setTop (mkF m pc' Ls' (rest)))) : G (T.setTop (mkF m pc Ls (.int v :: rest))) := by
  subst hp
  refine hG _ _ (fun t ht => ?_) k
  exact XS.istoreN X.here hx rfl hd rfl hl ht
theorem g_lload (hG : Cl p e below G) (X : Stand p l e R s m args below meth c T locs cells slots) (hx : p.tables.exec = Jvm.exec) {i : Nat} {v : Int64} (hd : decode c.code pc = .ok (.lload i, 2)) (hp : pc' = pc + 2) (hl : Ls[i]? = some (.val (.long v))) (k : G (T.setTop (mkF m pc' Ls (.long v :: rest)))) : G (T.setTop (mkF m pc Ls (rest))) := by
  subst hp
  refine hG _ _ (fun t ht => ?_) k
  exact XS.lload X.here hx rfl hd hl ht
theorem g_lloadN (hG : Cl p e below G) (X : Stand p l e R s m args below meth c T locs cells slots) (hx : p.tables.exec = Jvm.exec) {i : Fin 4} {v : Int64} (hd : decode c.code pc = .ok (.lload_n i, 1)) (hp : pc' = pc + 1) (hl : Ls[i.val]? = some (.val (.long v))) (k : G (T.setTop (mkF m pc' Ls (.long v :: rest)))) : G (T.setTop (mkF m pc Ls (rest))) := by
  subst hp
  refine hG _ _ (fun t ht => ?_) k
  exact XS.lloadN X.here hx rfl hd hl ht
theorem g_lstore (hG : Cl p e below G) (X : Stand p l e R s m args below meth c T locs cells slots) (hx : p.tables.exec = Jvm.exec) {i : Nat} {v : Int64} (hd : decode c.code pc = .ok (.lstore i, 2)) (hp : pc' = pc + 2) (hl : storeLocals Ls i (.long v) = some Ls') (k : G (T.setTop (mkF m pc' Ls' (rest)))) : G (T.setTop (mkF m pc Ls (.long v :: rest))) := by
  subst hp
  refine hG _ _ (fun t ht => ?_) k
  exact XS.lstore X.here hx rfl hd rfl hl ht
theorem g_lstoreN (hG : Cl p e below G) (X : Stand p l e R s m args below meth c T locs cells slots) (hx : p.tables.exec = Jvm.exec) {i : Fin 4} {v : Int64} (hd : decode c.code pc = .ok (.lstore_n i, 1)) (hp : pc' = pc + 1) (hl : storeLocals Ls i.val (.long v) = some Ls') (k : G (T.setTop (mkF m pc' Ls' (rest)))) : G (T.setTop (mkF m pc Ls (.long v :: rest))) := by
  subst hp
  refine hG _ _ (fun t ht => ?_) k
  exact XS.lstoreN X.here hx rfl hd rfl hl ht
theorem g_dload (hG : Cl p e below G) (X : Stand p l e R s m args below meth c T locs cells slots) (hx : p.tables.exec = Jvm.exec) {i : Nat} {v : UInt64} (hd : decode c.code pc = .ok (.dload i, 2)) (hp : pc' = pc + 2) (hl : Ls[i]? = some (.val (.double v))) (k : G (T.setTop (mkF m pc' Ls (.double v :: rest)))) : G (T.setTop (mkF m pc Ls (rest))) := by
  subst hp
  refine hG _ _ (fun t ht => ?_) k
  exact XS.dload X.here hx rfl hd hl ht
theorem g_dloadN (hG : Cl p e below G) (X : Stand p l e R s m args below meth c T locs cells slots) (hx : p.tables.exec = Jvm.exec) {i : Fin 4} {v : UInt64} (hd : decode c.code pc = .ok (.dload_n i, 1)) (hp : pc' = pc + 1) (hl : Ls[i.val]? = some (.val (.double v))) (k : G (T.setTop (mkF m pc' Ls (.double v :: rest)))) : G (T.setTop (mkF m pc Ls (rest))) := by
  subst hp
  refine hG _ _ (fun t ht => ?_) k
  exact XS.dloadN X.here hx rfl hd hl ht
theorem g_dstore (hG : Cl p e below G) (X : Stand p l e R s m args below meth c T locs cells slots) (hx : p.tables.exec = Jvm.exec) {i : Nat} {v : UInt64} (hd : decode c.code pc = .ok (.dstore i, 2)) (hp : pc' = pc + 2) (hl : storeLocals Ls i (.double v) = some Ls') (k : G (T.setTop (mkF m pc' Ls' (rest)))) : G (T.setTop (mkF m pc Ls (.double v :: rest))) := by
  subst hp
  refine hG _ _ (fun t ht => ?_) k
  exact XS.dstore X.here hx rfl hd rfl hl ht
theorem g_dstoreN (hG : Cl p e below G) (X : Stand p l e R s m args below meth c T locs cells slots) (hx : p.tables.exec = Jvm.exec) {i : Fin 4} {v : UInt64} (hd : decode c.code pc = .ok (.dstore_n i, 1)) (hp : pc' = pc + 1) (hl : storeLocals Ls i.val (.double v) = some Ls') (k : G (T.setTop (mkF m pc' Ls' (rest)))) : G (T.setTop (mkF m pc Ls (.double v :: rest))) := by
  subst hp
  refine hG _ _ (fun t ht => ?_) k
  exact XS.dstoreN X.here hx rfl hd rfl hl ht
theorem g_aload (hG : Cl p e below G) (X : Stand p l e R s m args below meth c T locs cells slots) (hx : p.tables.exec = Jvm.exec) {i : Nat} {v : Value} (hd : decode c.code pc = .ok (.aload i, 2)) (hp : pc' = pc + 2) (hl : Ls[i]? = some (.val v)) (hv' : v.isRef = true) (k : G (T.setTop (mkF m pc' Ls (v :: rest)))) : G (T.setTop (mkF m pc Ls (rest))) := by
  subst hp
  refine hG _ _ (fun t ht => ?_) k
  exact XS.aload X.here hx rfl hd hl hv' ht
theorem g_aloadN (hG : Cl p e below G) (X : Stand p l e R s m args below meth c T locs cells slots) (hx : p.tables.exec = Jvm.exec) {i : Fin 4} {v : Value} (hd : decode c.code pc = .ok (.aload_n i, 1)) (hp : pc' = pc + 1) (hl : Ls[i.val]? = some (.val v)) (hv' : v.isRef = true) (k : G (T.setTop (mkF m pc' Ls (v :: rest)))) : G (T.setTop (mkF m pc Ls (rest))) := by
  subst hp
  refine hG _ _ (fun t ht => ?_) k
  exact XS.aloadN X.here hx rfl hd hl hv' ht
theorem g_astore (hG : Cl p e below G) (X : Stand p l e R s m args below meth c T locs cells slots) (hx : p.tables.exec = Jvm.exec) {i : Nat} {v : Value} (hd : decode c.code pc = .ok (.astore i, 2)) (hp : pc' = pc + 2) (hv' : v.isRef = true) (hl : storeLocals Ls i v = some Ls') (k : G (T.setTop (mkF m pc' Ls' (rest)))) : G (T.setTop (mkF m pc Ls (v :: rest))) := by
  subst hp
  refine hG _ _ (fun t ht => ?_) k
  exact XS.astore X.here hx rfl hd rfl hv' hl ht
theorem g_astoreN (hG : Cl p e below G) (X : Stand p l e R s m args below meth c T locs cells slots) (hx : p.tables.exec = Jvm.exec) {i : Fin 4} {v : Value} (hd : decode c.code pc = .ok (.astore_n i, 1)) (hp : pc' = pc + 1) (hv' : v.isRef = true) (hl : storeLocals Ls i.val v = some Ls') (k : G (T.setTop (mkF m pc' Ls' (rest)))) : G (T.setTop (mkF m pc Ls (v :: rest))) := by
  subst hp
  refine hG _ _ (fun t ht => ?_) k
  exact XS.astoreN X.here hx rfl hd rfl hv' hl ht
theorem g_iconst (hG : Cl p e below G) (X : Stand p l e R s m args below meth c T locs cells slots) (hx : p.tables.exec = Jvm.exec) {i : Int} {v : Int32} (hd : decode c.code pc = .ok (.iconst i, 1)) (hp : pc' = pc + 1) (hv : Int32.ofInt i = v) (k : G (T.setTop (mkF m pc' Ls (.int v :: rest)))) : G (T.setTop (mkF m pc Ls (rest))) := by
  subst hp
  subst hv
  refine hG _ _ (fun t ht => ?_) k
  exact XS.iconst X.here hx rfl hd ht
theorem g_bipush (hG : Cl p e below G) (X : Stand p l e R s m args below meth c T locs cells slots) (hx : p.tables.exec = Jvm.exec) {i : Int} {v : Int32} (hd : decode c.code pc = .ok (.bipush i, 2)) (hp : pc' = pc + 2) (hv : (Int8.ofInt i).toInt32 = v) (k : G (T.setTop (mkF m pc' Ls (.int v :: rest)))) : G (T.setTop (mkF m pc Ls (rest))) := by
  subst hp
  subst hv
  refine hG _ _ (fun t ht => ?_) k
  exact XS.bipush X.here hx rfl hd ht
theorem g_sipush (hG : Cl p e below G) (X : Stand p l e R s m args below meth c T locs cells slots) (hx : p.tables.exec = Jvm.exec) {i : Int} {v : Int32} (hd : decode c.code pc = .ok (.sipush i, 3)) (hp : pc' = pc + 3) (hv : (Int16.ofInt i).toInt32 = v) (k : G (T.setTop (mkF m pc' Ls (.int v :: rest)))) : G (T.setTop (mkF m pc Ls (rest))) := by
  subst hp
  subst hv
  refine hG _ _ (fun t ht => ?_) k
  exact XS.sipush X.here hx rfl hd ht
theorem g_lconst (hG : Cl p e below G) (X : Stand p l e R s m args below meth c T locs cells slots) (hx : p.tables.exec = Jvm.exec) {i : Fin 2} {v : Int64} (hd : decode c.code pc = .ok (.lconst i, 1)) (hp : pc' = pc + 1) (hv : Int64.ofNat i.val = v) (k : G (T.setTop (mkF m pc' Ls (.long v :: rest)))) : G (T.setTop (mkF m pc Ls (rest))) := by
  subst hp
  subst hv
  refine hG _ _ (fun t ht => ?_) k
  exact XS.lconst X.here hx rfl hd ht
theorem g_dconst0 (hG : Cl p e below G) (X : Stand p l e R s m args below meth c T locs cells slots) (hx : p.tables.exec = Jvm.exec) {v : UInt64} (hd : decode c.code pc = .ok (.dconst 0, 1)) (hp : pc' = pc + 1) (hv : FP.dconst0 = v) (k : G (T.setTop (mkF m pc' Ls (.double v :: rest)))) : G (T.setTop (mkF m pc Ls (rest))) := by
  subst hp
  subst hv
  refine hG _ _ (fun t ht => ?_) k
  exact XS.dconst0 X.here hx rfl hd rfl ht
theorem g_dconst1 (hG : Cl p e below G) (X : Stand p l e R s m args below meth c T locs cells slots) (hx : p.tables.exec = Jvm.exec) {v : UInt64} (hd : decode c.code pc = .ok (.dconst 1, 1)) (hp : pc' = pc + 1) (hv : FP.dconst1 = v) (k : G (T.setTop (mkF m pc' Ls (.double v :: rest)))) : G (T.setTop (mkF m pc Ls (rest))) := by
  subst hp
  subst hv
  refine hG _ _ (fun t ht => ?_) k
  exact XS.dconst1 X.here hx rfl hd rfl ht
theorem g_aconstNull (hG : Cl p e below G) (X : Stand p l e R s m args below meth c T locs cells slots) (hx : p.tables.exec = Jvm.exec)  (hd : decode c.code pc = .ok (.aconst_null, 1)) (hp : pc' = pc + 1) (k : G (T.setTop (mkF m pc' Ls (.null :: rest)))) : G (T.setTop (mkF m pc Ls (rest))) := by
  subst hp
  refine hG _ _ (fun t ht => ?_) k
  exact XS.aconstNull X.here hx rfl hd ht
theorem g_iadd (hG : Cl p e below G) (X : Stand p l e R s m args below meth c T locs cells slots) (hx : p.tables.exec = Jvm.exec) {x y v : Int32} (hd : decode c.code pc = .ok (.iadd, 1)) (hp : pc' = pc + 1) (hv : x + y = v) (k : G (T.setTop (mkF m pc' Ls (.int v :: rest)))) : G (T.setTop (mkF m pc Ls (.int y :: .int x :: rest))) := by
  subst hp
  subst hv
  refine hG _ _ (fun t ht => ?_) k
  exact XS.iadd X.here hx rfl hd rfl ht
theorem g_ladd (hG : Cl p e below G) (X : Stand p l e R s m args below meth c T locs cells slots) (hx : p.tables.exec = Jvm.exec) {x y v : Int64} (hd : decode c.code pc = .ok (.ladd, 1)) (hp : pc' = pc + 1) (hv : x + y = v) (k : G (T.setTop (mkF m pc' Ls (.long v :: rest)))) : G (T.setTop (mkF m pc Ls (.long y :: .long x :: rest))) := by
  subst hp
  subst hv
  refine hG _ _ (fun t ht => ?_) k
  exact XS.ladd X.here hx rfl hd rfl ht
theorem g_isub (hG : Cl p e below G) (X : Stand p l e R s m args below meth c T locs cells slots) (hx : p.tables.exec = Jvm.exec) {x y v : Int32} (hd : decode c.code pc = .ok (.isub, 1)) (hp : pc' = pc + 1) (hv : x - y = v) (k : G (T.setTop (mkF m pc' Ls (.int v :: rest)))) : G (T.setTop (mkF m pc Ls (.int y :: .int x :: rest))) := by
  subst hp
  subst hv
  refine hG _ _ (fun t ht => ?_) k
  exact XS.isub X.here hx rfl hd rfl ht
theorem g_lsub (hG : Cl p e below G) (X : Stand p l e R s m args below meth c T locs cells slots) (hx : p.tables.exec = Jvm.exec) {x y v : Int64} (hd : decode c.code pc = .ok (.lsub, 1)) (hp : pc' = pc + 1) (hv : x - y = v) (k : G (T.setTop (mkF m pc' Ls (.long v :: rest)))) : G (T.setTop (mkF m pc Ls (.long y :: .long x :: rest))) := by
  subst hp
  subst hv
  refine hG _ _ (fun t ht => ?_) k
  exact XS.lsub X.here hx rfl hd rfl ht
theorem g_imul (hG : Cl p e below G) (X : Stand p l e R s m args below meth c T locs cells slots) (hx : p.tables.exec = Jvm.exec) {x y v : Int32} (hd : decode c.code pc = .ok (.imul, 1)) (hp : pc' = pc + 1) (hv : x * y = v) (k : G (T.setTop (mkF m pc' Ls (.int v :: rest)))) : G (T.setTop (mkF m pc Ls (.int y :: .int x :: rest))) := by
  subst hp
  subst hv
  refine hG _ _ (fun t ht => ?_) k
  exact XS.imul X.here hx rfl hd rfl ht
theorem g_lmul (hG : Cl p e below G) (X : Stand p l e R s m args below meth c T locs cells slots) (hx : p.tables.exec = Jvm.exec) {x y v : Int64} (hd : decode c.code pc = .ok (.lmul, 1)) (hp : pc' = pc + 1) (hv : x * y = v) (k : G (T.setTop (mkF m pc' Ls (.long v :: rest)))) : G (T.setTop (mkF m pc Ls (.long y :: .long x :: rest))) := by
  subst hp
  subst hv
  refine hG _ _ (fun t ht => ?_) k
  exact XS.lmul X.here hx rfl hd rfl ht
theorem g_iand (hG : Cl p e below G) (X : Stand p l e R s m args below meth c T locs cells slots) (hx : p.tables.exec = Jvm.exec) {x y v : Int32} (hd : decode c.code pc = .ok (.iand, 1)) (hp : pc' = pc + 1) (hv : x &&& y = v) (k : G (T.setTop (mkF m pc' Ls (.int v :: rest)))) : G (T.setTop (mkF m pc Ls (.int y :: .int x :: rest))) := by
  subst hp
  subst hv
  refine hG _ _ (fun t ht => ?_) k
  exact XS.iand X.here hx rfl hd rfl ht
theorem g_land (hG : Cl p e below G) (X : Stand p l e R s m args below meth c T locs cells slots) (hx : p.tables.exec = Jvm.exec) {x y v : Int64} (hd : decode c.code pc = .ok (.land, 1)) (hp : pc' = pc + 1) (hv : x &&& y = v) (k : G (T.setTop (mkF m pc' Ls (.long v :: rest)))) : G (T.setTop (mkF m pc Ls (.long y :: .long x :: rest))) := by
  subst hp
  subst hv
  refine hG _ _ (fun t ht => ?_) k
  exact XS.land X.here hx rfl hd rfl ht
theorem g_ior (hG : Cl p e below G) (X : Stand p l e R s m args below meth c T locs cells slots) (hx : p.tables.exec = Jvm.exec) {x y v : Int32} (hd : decode c.code pc = .ok (.ior, 1)) (hp : pc' = pc + 1) (hv : x ||| y = v) (k : G (T.setTop (mkF m pc' Ls (.int v :: rest)))) : G (T.setTop (mkF m pc Ls (.int y :: .int x :: rest))) := by
  subst hp
  subst hv
  refine hG _ _ (fun t ht => ?_) k
  exact XS.ior X.here hx rfl hd rfl ht
theorem g_lor (hG : Cl p e below G) (X : Stand p l e R s m args below meth c T locs cells slots) (hx : p.tables.exec = Jvm.exec) {x y v : Int64} (hd : decode c.code pc = .ok (.lor, 1)) (hp : pc' = pc + 1) (hv : x ||| y = v) (k : G (T.setTop (mkF m pc' Ls (.long v :: rest)))) : G (T.setTop (mkF m pc Ls (.long y :: .long x :: rest))) := by
  subst hp
  subst hv
  refine hG _ _ (fun t ht => ?_) k
  exact XS.lor X.here hx rfl hd rfl ht
theorem g_ixor (hG : Cl p e below G) (X : Stand p l e R s m args below meth c T locs cells slots) (hx : p.tables.exec = Jvm.exec) {x y v : Int32} (hd : decode c.code pc = .ok (.ixor, 1)) (hp : pc' = pc + 1) (hv : x ^^^ y = v) (k : G (T.setTop (mkF m pc' Ls (.int v :: rest)))) : G (T.setTop (mkF m pc Ls (.int y :: .int x :: rest))) := by
  subst hp
  subst hv
  refine hG _ _ (fun t ht => ?_) k
  exact XS.ixor X.here hx rfl hd rfl ht
theorem g_lxor (hG : Cl p e below G) (X : Stand p l e R s m args below meth c T locs cells slots) (hx : p.tables.exec = Jvm.exec) {x y v : Int64} (hd : decode c.code pc = .ok (.lxor, 1)) (hp : pc' = pc + 1) (hv : x ^^^ y = v) (k : G (T.setTop (mkF m pc' Ls (.long v :: rest)))) : G (T.setTop (mkF m pc Ls (.long y :: .long x :: rest))) := by
  subst hp
  subst hv
  refine hG _ _ (fun t ht => ?_) k
  exact XS.lxor X.here hx rfl hd rfl ht
theorem g_ineg (hG : Cl p e below G) (X : Stand p l e R s m args below meth c T locs cells slots) (hx : p.tables.exec = Jvm.exec) {x v : Int32} (hd : decode c.code pc = .ok (.ineg, 1)) (hp : pc' = pc + 1) (hv : -x = v) (k : G (T.setTop (mkF m pc' Ls (.int v :: rest)))) : G (T.setTop (mkF m pc Ls (.int x :: rest))) := by
  subst hp
  subst hv
  refine hG _ _ (fun t ht => ?_) k
  exact XS.ineg X.here hx rfl hd rfl ht
theorem g_lneg (hG : Cl p e below G) (X : Stand p l e R s m args below meth c T locs cells slots) (hx : p.tables.exec = Jvm.exec) {x v : Int64} (hd : decode c.code pc = .ok (.lneg, 1)) (hp : pc' = pc + 1) (hv : -x = v) (k : G (T.setTop (mkF m pc' Ls (.long v :: rest)))) : G (T.setTop (mkF m pc Ls (.long x :: rest))) := by
  subst hp
  subst hv
  refine hG _ _ (fun t ht => ?_) k
  exact XS.lneg X.here hx rfl hd rfl ht
theorem g_i2l (hG : Cl p e below G) (X : Stand p l e R s m args below meth c T locs cells slots) (hx : p.tables.exec = Jvm.exec) {x : Int32} {v : Int64} (hd : decode c.code pc = .ok (.i2l, 1)) (hp : pc' = pc + 1) (hv : x.toInt64 = v) (k : G (T.setTop (mkF m pc' Ls (.long v :: rest)))) : G (T.setTop (mkF m pc Ls (.int x :: rest))) := by
  subst hp
  subst hv
  refine hG _ _ (fun t ht => ?_) k
  exact XS.i2l X.here hx rfl hd rfl ht
theorem g_l2i (hG : Cl p e below G) (X : Stand p l e R s m args below meth c T locs cells slots) (hx : p.tables.exec = Jvm.exec) {x : Int64} {v : Int32} (hd : decode c.code pc = .ok (.l2i, 1)) (hp : pc' = pc + 1) (hv : x.toInt32 = v) (k : G (T.setTop (mkF m pc' Ls (.int v :: rest)))) : G (T.setTop (mkF m pc Ls (.long x :: rest))) := by
  subst hp
  subst hv
  refine hG _ _ (fun t ht => ?_) k
  exact XS.l2i X.here hx rfl hd rfl ht
theorem g_i2c (hG : Cl p e below G) (X : Stand p l e R s m args below meth c T locs cells slots) (hx : p.tables.exec = Jvm.exec) {x v : Int32} (hd : decode c.code pc = .ok (.i2c, 1)) (hp : pc' = pc + 1) (hv : x.toUInt32.toUInt16.toUInt32.toInt32 = v) (k : G (T.setTop (mkF m pc' Ls (.int v :: rest)))) : G (T.setTop (mkF m pc Ls (.int x :: rest))) := by
  subst hp
  subst hv
  refine hG _ _ (fun t ht => ?_) k
  exact XS.i2c X.here hx rfl hd rfl ht
theorem g_i2b (hG : Cl p e below G) (X : Stand p l e R s m args below meth c T locs cells slots) (hx : p.tables.exec = Jvm.exec) {x v : Int32} (hd : decode c.code pc = .ok (.i2b, 1)) (hp : pc' = pc + 1) (hv : x.toInt8.toInt32 = v) (k : G (T.setTop (mkF m pc' Ls (.int v :: rest)))) : G (T.setTop (mkF m pc Ls (.int x :: rest))) := by
  subst hp
  subst hv
  refine hG _ _ (fun t ht => ?_) k
  exact XS.i2b X.here hx rfl hd rfl ht
theorem g_ishl (hG : Cl p e below G) (X : Stand p l e R s m args below meth c T locs cells slots) (hx : p.tables.exec = Jvm.exec) {x y v : Int32} (hd : decode c.code pc = .ok (.ishl, 1)) (hp : pc' = pc + 1) (hv : x <<< (y &&& 31) = v) (k : G (T.setTop (mkF m pc' Ls (.int v :: rest)))) : G (T.setTop (mkF m pc Ls (.int y :: .int x :: rest))) := by
  subst hp
  subst hv
  refine hG _ _ (fun t ht => ?_) k
  exact XS.ishl X.here hx rfl hd rfl ht
theorem g_ishr (hG : Cl p e below G) (X : Stand p l e R s m args below meth c T locs cells slots) (hx : p.tables.exec = Jvm.exec) {x y v : Int32} (hd : decode c.code pc = .ok (.ishr, 1)) (hp : pc' = pc + 1) (hv : x >>> (y &&& 31) = v) (k : G (T.setTop (mkF m pc' Ls (.int v :: rest)))) : G (T.setTop (mkF m pc Ls (.int y :: .int x :: rest))) := by
  subst hp
  subst hv
  refine hG _ _ (fun t ht => ?_) k
  exact XS.ishr X.here hx rfl hd rfl ht
theorem g_iushr (hG : Cl p e below G) (X : Stand p l e R s m args below meth c T locs cells slots) (hx : p.tables.exec = Jvm.exec) {x y v : Int32} (hd : decode c.code pc = .ok (.iushr, 1)) (hp : pc' = pc + 1) (hv : (x.toUInt32 >>> (y &&& 31).toUInt32).toInt32 = v) (k : G (T.setTop (mkF m pc' Ls (.int v :: rest)))) : G (T.setTop (mkF m pc Ls (.int y :: .int x :: rest))) := by
  subst hp
  subst hv
  refine hG _ _ (fun t ht => ?_) k
  exact XS.iushr X.here hx rfl hd rfl ht
theorem g_lshl (hG : Cl p e below G) (X : Stand p l e R s m args below meth c T locs cells slots) (hx : p.tables.exec = Jvm.exec) {x : Int64} {y : Int32} {v : Int64} (hd : decode c.code pc = .ok (.lshl, 1)) (hp : pc' = pc + 1) (hv : x <<< (y &&& 0x3f).toInt64 = v) (k : G (T.setTop (mkF m pc' Ls (.long v :: rest)))) : G (T.setTop (mkF m pc Ls (.int y :: .long x :: rest))) := by
  subst hp
  subst hv
  refine hG _ _ (fun t ht => ?_) k
  exact XS.lshl X.here hx rfl hd rfl ht
theorem g_lshr (hG : Cl p e below G) (X : Stand p l e R s m args below meth c T locs cells slots) (hx : p.tables.exec = Jvm.exec) {x : Int64} {y : Int32} {v : Int64} (hd : decode c.code pc = .ok (.lshr, 1)) (hp : pc' = pc + 1) (hv : x >>> (y &&& 0x3f).toInt64 = v) (k : G (T.setTop (mkF m pc' Ls (.long v :: rest)))) : G (T.setTop (mkF m pc Ls (.int y :: .long x :: rest))) := by
  subst hp
  subst hv
  refine hG _ _ (fun t ht => ?_) k
  exact XS.lshr X.here hx rfl hd rfl ht
theorem g_lcmp (hG : Cl p e below G) (X : Stand p l e R s m args below meth c T locs cells slots) (hx : p.tables.exec = Jvm.exec) {x y : Int64} {v : Int32} (hd : decode c.code pc = .ok (.lcmp, 1)) (hp : pc' = pc + 1) (hv : lcmpW x y = v) (k : G (T.setTop (mkF m pc' Ls (.int v :: rest)))) : G (T.setTop (mkF m pc Ls (.long y :: .long x :: rest))) := by
  subst hp
  subst hv
  refine hG _ _ (fun t ht => ?_) k
  exact XS.lcmp X.here hx rfl hd rfl ht
theorem g_irem (hG : Cl p e below G) (X : Stand p l e R s m args below meth c T locs cells slots) (hx : p.tables.exec = Jvm.exec) {x y v : Int32} (hd : decode c.code pc = .ok (.irem, 1)) (hp : pc' = pc + 1) (hy : y ≠ 0) (hv : x % y = v) (k : G (T.setTop (mkF m pc' Ls (.int v :: rest)))) : G (T.setTop (mkF m pc Ls (.int y :: .int x :: rest))) := by
  subst hp
  subst hv
  refine hG _ _ (fun t ht => ?_) k
  exact iremM X hx rfl hd rfl hy ht
theorem g_lrem (hG : Cl p e below G) (X : Stand p l e R s m args below meth c T locs cells slots) (hx : p.tables.exec = Jvm.exec) {x y v : Int64} (hd : decode c.code pc = .ok (.lrem, 1)) (hp : pc' = pc + 1) (hy : y ≠ 0) (hv : x % y = v) (k : G (T.setTop (mkF m pc' Ls (.long v :: rest)))) : G (T.setTop (mkF m pc Ls (.long y :: .long x :: rest))) := by
  subst hp hv
  rw [← lrem_mod] at k
  refine hG _ _ (fun t ht => ?_) k
  exact XS.lrem X.here hx rfl hd rfl hy ht
theorem g_idiv (hG : Cl p e below G) (X : Stand p l e R s m args below meth c T locs cells slots) (hx : p.tables.exec = Jvm.exec) {x y v : Int32} (hd : decode c.code pc = .ok (.idiv, 1)) (hp : pc' = pc + 1) (hy : y ≠ 0) (hv : x / y = v) (k : G (T.setTop (mkF m pc' Ls (.int v :: rest)))) : G (T.setTop (mkF m pc Ls (.int y :: .int x :: rest))) := by
  subst hp
  subst hv
  refine hG _ _ (fun t ht => ?_) k
  exact XS.idiv X.here hx rfl hd rfl hy ht
theorem g_dup (hG : Cl p e below G) (X : Stand p l e R s m args below meth c T locs cells slots) (hx : p.tables.exec = Jvm.exec) {x : Value} (hd : decode c.code pc = .ok (.dup, 1)) (hp : pc' = pc + 1) (hc : x.category = 1) (k : G (T.setTop (mkF m pc' Ls (x :: x :: rest)))) : G (T.setTop (mkF m pc Ls (x :: rest))) := by
  subst hp
  refine hG _ _ (fun t ht => ?_) k
  exact XS.dup X.here hx rfl hd rfl hc ht
theorem g_pop (hG : Cl p e below G) (X : Stand p l e R s m args below meth c T locs cells slots) (hx : p.tables.exec = Jvm.exec) {x : Value} (hd : decode c.code pc = .ok (.pop, 1)) (hp : pc' = pc + 1) (hc : x.category = 1) (k : G (T.setTop (mkF m pc' Ls (rest)))) : G (T.setTop (mkF m pc Ls (x :: rest))) := by
  subst hp
  refine hG _ _ (fun t ht => ?_) k
  exact XS.pop X.here hx rfl hd rfl hc ht
theorem g_dupX1 (hG : Cl p e below G) (X : Stand p l e R s m args below meth c T locs cells slots) (hx : p.tables.exec = Jvm.exec) {x y : Value} (hd : decode c.code pc = .ok (.dup_x1, 1)) (hp : pc' = pc + 1) (hc : x.category = 1) (hc' : y.category = 1) (k : G (T.setTop (mkF m pc' Ls (x :: y :: x :: rest)))) : G (T.setTop (mkF m pc Ls (x :: y :: rest))) := by
  subst hp
  refine hG _ _ (fun t ht => ?_) k
  exact XS.dupX1 X.here hx rfl hd rfl hc hc' ht
theorem g_dup2 (hG : Cl p e below G) (X : Stand p l e R s m args below meth c T locs cells slots) (hx : p.tables.exec = Jvm.exec) {x y : Value} (hd : decode c.code pc = .ok (.dup2, 1)) (hp : pc' = pc + 1) (hc : x.category = 1) (hc' : y.category = 1) (k : G (T.setTop (mkF m pc' Ls (x :: y :: x :: y :: rest)))) : G (T.setTop (mkF m pc Ls (x :: y :: rest))) := by
  subst hp
  refine hG _ _ (fun t ht => ?_) k
  exact Jvm.Free.XT.dup2 X.here hx rfl hd rfl hc hc' ht
theorem g_iinc (hG : Cl p e below G) (X : Stand p l e R s m args below meth c T locs cells slots) (hx : p.tables.exec = Jvm.exec) {i : Nat} {cst : Int} {x v : Int32} (hd : decode c.code pc = .ok (.iinc i cst, 3)) (hp : pc' = pc + 3) (hl : Ls[i]? = some (.val (.int x))) (hv : x + Int32.ofInt cst = v) (hl' : storeLocals Ls i (.int v) = some Ls') (k : G (T.setTop (mkF m pc' Ls' (rest)))) : G (T.setTop (mkF m pc Ls (rest))) := by
  subst hp
  subst hv
  refine hG _ _ (fun t ht => ?_) k
  exact XS.iinc X.here hx rfl hd hl hl' ht
theorem g_i2d (hG : Cl p e below G) (X : Stand p l e R s m args below meth c T locs cells slots) (hx : p.tables.exec = Jvm.exec) {x : Int32} {v : UInt64} (hd : decode c.code pc = .ok (.i2d, 1)) (hp : pc' = pc + 1) (hv : FP.i2d x = v) (k : G (T.setTop (mkF m pc' Ls (.double v :: rest)))) : G (T.setTop (mkF m pc Ls (.int x :: rest))) := by
  subst hp
  subst hv
  refine hG _ _ (fun t ht => ?_) k
  exact XS.i2dS X.here hx rfl hd rfl rfl ht
theorem g_l2d (hG : Cl p e below G) (X : Stand p l e R s m args below meth c T locs cells slots) (hx : p.tables.exec = Jvm.exec) {x : Int64} {v : UInt64} (hd : decode c.code pc = .ok (.l2d, 1)) (hp : pc' = pc + 1) (hv : FP.l2d x = v) (k : G (T.setTop (mkF m pc' Ls (.double v :: rest)))) : G (T.setTop (mkF m pc Ls (.long x :: rest))) := by
  subst hp
  subst hv
  refine hG _ _ (fun t ht => ?_) k
  exact XS.l2dS X.here hx rfl hd rfl rfl ht
theorem g_d2i (hG : Cl p e below G) (X : Stand p l e R s m args below meth c T locs cells slots) (hx : p.tables.exec = Jvm.exec) {x : UInt64} {v : Int32} (hd : decode c.code pc = .ok (.d2i, 1)) (hp : pc' = pc + 1) (hv : FP.d2i x = v) (k : G (T.setTop (mkF m pc' Ls (.int v :: rest)))) : G (T.setTop (mkF m pc Ls (.double x :: rest))) := by
  subst hp
  subst hv
  refine hG _ _ (fun t ht => ?_) k
  exact XS.d2iS X.here hx rfl hd rfl rfl ht
theorem g_d2l (hG : Cl p e below G) (X : Stand p l e R s m args below meth c T locs cells slots) (hx : p.tables.exec = Jvm.exec) {x : UInt64} {v : Int64} (hd : decode c.code pc = .ok (.d2l, 1)) (hp : pc' = pc + 1) (hv : FP.d2l x = v) (k : G (T.setTop (mkF m pc' Ls (.long v :: rest)))) : G (T.setTop (mkF m pc Ls (.double x :: rest))) := by
  subst hp
  subst hv
  refine hG _ _ (fun t ht => ?_) k
  exact XS.d2lS X.here hx rfl hd rfl rfl ht
theorem g_dneg (hG : Cl p e below G) (X : Stand p l e R s m args below meth c T locs cells slots) (hx : p.tables.exec = Jvm.exec) {x v : UInt64} (hd : decode c.code pc = .ok (.dneg, 1)) (hp : pc' = pc + 1) (hv : FP.dneg x = v) (k : G (T.setTop (mkF m pc' Ls (.double v :: rest)))) : G (T.setTop (mkF m pc Ls (.double x :: rest))) := by
  subst hp
  subst hv
  refine hG _ _ (fun t ht => ?_) k
  exact XS.dnegS X.here hx rfl hd rfl rfl ht
theorem g_dcmp (hG : Cl p e below G) (X : Stand p l e R s m args below meth c T locs cells slots) (hx : p.tables.exec = Jvm.exec) {x y : UInt64} {o : CmpOp} {v : Int32} (hd : decode c.code pc = .ok (.dcmp o, 1)) (hp : pc' = pc + 1) (hv : cmpValue (FP.dcmp x y) o = v) (k : G (T.setTop (mkF m pc' Ls (.int v :: rest)))) : G (T.setTop (mkF m pc Ls (.double y :: .double x :: rest))) := by
  subst hp
  subst hv
  refine hG _ _ (fun t ht => ?_) k
  exact XS.dcmpS X.here hx rfl hd rfl rfl ht
theorem g_dadd (hG : Cl p e below G) (X : Stand p l e R s m args below meth c T locs cells slots) (hx : p.tables.exec = Jvm.exec) {x y v : UInt64} (hd : decode c.code pc = .ok (.dadd, 1)) (hp : pc' = pc + 1) (hn : Jvm.Free.Fl.NoNaN64 (FP.dadd x y)) (hv : FP.dadd x y = v) (k : G (T.setTop (mkF m pc' Ls (.double v :: rest)))) : G (T.setTop (mkF m pc Ls (.double y :: .double x :: rest))) := by
  subst hp
  subst hv
  refine hG _ _ (fun t ht => ?_) k
  exact XS.daddS X.here hx rfl hd rfl hn rfl ht
theorem g_dsub (hG : Cl p e below G) (X : Stand p l e R s m args below meth c T locs cells slots) (hx : p.tables.exec = Jvm.exec) {x y v : UInt64} (hd : decode c.code pc = .ok (.dsub, 1)) (hp : pc' = pc + 1) (hn : Jvm.Free.Fl.NoNaN64 (FP.dsub x y)) (hv : FP.dsub x y = v) (k : G (T.setTop (mkF m pc' Ls (.double v :: rest)))) : G (T.setTop (mkF m pc Ls (.double y :: .double x :: rest))) := by
  subst hp
  subst hv
  refine hG _ _ (fun t ht => ?_) k
  exact XS.dsubS X.here hx rfl hd rfl hn rfl ht
theorem g_dmul (hG : Cl p e below G) (X : Stand p l e R s m args below meth c T locs cells slots) (hx : p.tables.exec = Jvm.exec) {x y v : UInt64} (hd : decode c.code pc = .ok (.dmul, 1)) (hp : pc' = pc + 1) (hn : Jvm.Free.Fl.NoNaN64 (FP.dmul x y)) (hv : FP.dmul x y = v) (k : G (T.setTop (mkF m pc' Ls (.double v :: rest)))) : G (T.setTop (mkF m pc Ls (.double y :: .double x :: rest))) := by
  subst hp
  subst hv
  refine hG _ _ (fun t ht => ?_) k
  exact XS.dmulS X.here hx rfl hd rfl hn rfl ht
theorem g_ddiv (hG : Cl p e below G) (X : Stand p l e R s m args below meth c T locs cells slots) (hx : p.tables.exec = Jvm.exec) {x y v : UInt64} (hd : decode c.code pc = .ok (.ddiv, 1)) (hp : pc' = pc + 1) (hn : Jvm.Free.Fl.NoNaN64 (FP.ddiv x y)) (hv : FP.ddiv x y = v) (k : G (T.setTop (mkF m pc' Ls (.double v :: rest)))) : G (T.setTop (mkF m pc Ls (.double y :: .double x :: rest))) := by
  subst hp
  subst hv
  refine hG _ _ (fun t ht => ?_) k
  exact XS.ddivS X.here hx rfl hd rfl hn rfl ht
theorem g_goto (hG : Cl p e below G) (X : Stand p l e R s m args below meth c T locs cells slots) (hx : p.tables.exec = Jvm.exec) {o : Int} (hd : decode c.code pc = .ok (.goto o, 3)) (ho : 0 ≤ (pc : Int) + o) (hp : ((pc : Int) + o).toNat = pc') (k : G (T.setTop (mkF m pc' Ls rest))) : G (T.setTop (mkF m pc Ls rest)) := by
  refine hG _ _ (fun t ht => ?_) k
  exact XS.goto X.here hx rfl (pc0 := pc) rfl hd ho hp ht
theorem g_ifYes (hG : Cl p e below G) (X : Stand p l e R s m args below meth c T locs cells slots) (hx : p.tables.exec = Jvm.exec) {cd : ClassFile.Cond} {x : Int32} {o : Int} (hd : decode c.code pc = .ok (.ifCond cd o, 3)) (hc : ifCond.holds cd x = true) (ho : 0 ≤ (pc : Int) + o) (hp : ((pc : Int) + o).toNat = pc') (k : G (T.setTop (mkF m pc' Ls rest))) : G (T.setTop (mkF m pc Ls (.int x :: rest))) := by
  refine hG _ _ (fun t ht => ?_) k
  exact XS.ifYes X.here hx rfl (pc0 := pc) rfl hd rfl hc ho hp ht
theorem g_ifNo (hG : Cl p e below G) (X : Stand p l e R s m args below meth c T locs cells slots) (hx : p.tables.exec = Jvm.exec) {cd : ClassFile.Cond} {x : Int32} {o : Int} (hd : decode c.code pc = .ok (.ifCond cd o, 3)) (hc : ifCond.holds cd x = false) (hp : pc' = pc + 3) (k : G (T.setTop (mkF m pc' Ls rest))) : G (T.setTop (mkF m pc Ls (.int x :: rest))) := by
  subst hp
  refine hG _ _ (fun t ht => ?_) k
  exact XS.ifNo X.here hx rfl hd rfl hc ht
theorem g_icmpYes (hG : Cl p e below G) (X : Stand p l e R s m args below meth c T locs cells slots) (hx : p.tables.exec = Jvm.exec) {cd : ClassFile.Cond} {x y : Int32} {o : Int} (hd : decode c.code pc = .ok (.if_icmp cd o, 3)) (hc : if_icmp.holds cd x y = true) (ho : 0 ≤ (pc : Int) + o) (hp : ((pc : Int) + o).toNat = pc') (k : G (T.setTop (mkF m pc' Ls rest))) : G (T.setTop (mkF m pc Ls (.int y :: .int x :: rest))) := by
  refine hG _ _ (fun t ht => ?_) k
  exact XS.icmpYes X.here hx rfl (pc0 := pc) rfl hd rfl hc ho hp ht
theorem g_icmpNo (hG : Cl p e below G) (X : Stand p l e R s m args below meth c T locs cells slots) (hx : p.tables.exec = Jvm.exec) {cd : ClassFile.Cond} {x y : Int32} {o : Int} (hd : decode c.code pc = .ok (.if_icmp cd o, 3)) (hc : if_icmp.holds cd x y = false) (hp : pc' = pc + 3) (k : G (T.setTop (mkF m pc' Ls rest))) : G (T.setTop (mkF m pc Ls (.int y :: .int x :: rest))) := by
  subst hp
  refine hG _ _ (fun t ht => ?_) k
  exact XS.icmpNo X.here hx rfl hd rfl hc ht
theorem g_ifnullYes (hG : Cl p e below G) (X : Stand p l e R s m args below meth c T locs cells slots) (hx : p.tables.exec = Jvm.exec) {o : Int} (hd : decode c.code pc = .ok (.ifnull o, 3)) (ho : 0 ≤ (pc : Int) + o) (hp : ((pc : Int) + o).toNat = pc') (k : G (T.setTop (mkF m pc' Ls rest))) : G (T.setTop (mkF m pc Ls (.null :: rest))) := by
  refine hG _ _ (fun t ht => ?_) k
  exact XS.ifnullYes X.here hx rfl (pc0 := pc) rfl hd rfl ho hp ht
theorem g_ifnullNo (hG : Cl p e below G) (X : Stand p l e R s m args below meth c T locs cells slots) (hx : p.tables.exec = Jvm.exec) {o : Int} {b : Addr} (hd : decode c.code pc = .ok (.ifnull o, 3)) (hp : pc' = pc + 3) (k : G (T.setTop (mkF m pc' Ls rest))) : G (T.setTop (mkF m pc Ls (.ref b :: rest))) := by
  subst hp
  refine hG _ _ (fun t ht => ?_) k
  exact XS.ifnullNo X.here hx rfl hd rfl ht
theorem g_ifnonnullYes (hG : Cl p e below G) (X : Stand p l e R s m args below meth c T locs cells slots) (hx : p.tables.exec = Jvm.exec) {o : Int} {b : Addr} (hd : decode c.code pc = .ok (.ifnonnull o, 3)) (ho : 0 ≤ (pc : Int) + o) (hp : ((pc : Int) + o).toNat = pc') (k : G (T.setTop (mkF m pc' Ls rest))) : G (T.setTop (mkF m pc Ls (.ref b :: rest))) := by
  refine hG _ _ (fun t ht => ?_) k
  exact XS.ifnonnullYes X.here hx rfl (pc0 := pc) rfl hd rfl ho hp ht
theorem g_ifnonnullNo (hG : Cl p e below G) (X : Stand p l e R s m args below meth c T locs cells slots) (hx : p.tables.exec = Jvm.exec) {o : Int} (hd : decode c.code pc = .ok (.ifnonnull o, 3)) (hp : pc' = pc + 3) (k : G (T.setTop (mkF m pc' Ls rest))) : G (T.setTop (mkF m pc Ls (.null :: rest))) := by
  subst hp
  refine hG _ _ (fun t ht => ?_) k
  exact XS.ifnonnullNo X.here hx rfl hd rfl ht
theorem g_acmp (hG : Cl p e below G) (X : Stand p l e R s m args below meth c T locs cells slots) (hx : p.tables.exec = Jvm.exec) {cd : ACond} {x y : Value} (h1 : x.isRef = true) (h2 : y.isRef = true) {o : Int} {same : Bool} (hd : decode c.code pc = .ok (.if_acmp cd o, 3)) (hq : decide (x = y) = same) (ho : 0 ≤ (pc : Int) + o) (hp : pc' = if acV cd same = true then ((pc : Int) + o).toNat else pc + 3) (k : G (T.setTop (mkF m pc' Ls rest))) : G (T.setTop (mkF m pc Ls (y :: x :: rest))) := by
  refine hG _ _ (fun t ht => ?_) k
  exact Jvm.RoadKit.acmp (g := mkF m pc Ls (y :: x :: rest)) X hx rfl h1 h2 (pc0 := pc) rfl hd rfl hq ho hp ht
/-! constants -/
theorem g_ldcInt (hG : Cl p e below G) (X : Stand p l e R s m args below meth c T locs cells slots) (hx : p.tables.exec = Jvm.exec) (hZ : Z.Warmed39 s.vm) {own : String} {index : Nat} {v : Int32} (hown : s.vm.findClass own = some m.cls) (w : (Jvm.Cond.constant own index v).before a0 Z = true) (hd : decode c.code pc = .ok (.ldc index, 2)) (hp : pc' = pc + 2) (k : G (T.setTop (mkF m pc' Ls (.int v :: rest)))) : G (T.setTop (mkF m pc Ls rest)) := by
  subst hp
  refine hG _ _ (fun t ht => ?_) k
  exact X.ldcInt hx hown (mvT hZ w) (g := mkF m pc Ls rest) rfl hd t ht
theorem g_ldcLong (hG : Cl p e below G) (X : Stand p l e R s m args below meth c T locs cells slots) (hx : p.tables.exec = Jvm.exec) (hZ : Z.Warmed39 s.vm) {own : String} {index : Nat} {v : Int64} (hown : s.vm.findClass own = some m.cls) (w : (Jvm.Cond.constantLong own index v).before a0 Z = true) (hd : decode c.code pc = .ok (.ldc2_w index, 3)) (hp : pc' = pc + 3) (k : G (T.setTop (mkF m pc' Ls (.long v :: rest)))) : G (T.setTop (mkF m pc Ls rest)) := by
  subst hp
  refine hG _ _ (fun t ht => ?_) k
  exact X.ldc2Long hx hown (mvT hZ w) (g := mkF m pc Ls rest) rfl hd t ht
theorem g_ldcDouble (hG : Cl p e below G) (X : Stand p l e R s m args below meth c T locs cells slots) (hx : p.tables.exec = Jvm.exec) (hZ : Z.Warmed39 s.vm) {own : String} {index : Nat} {v : UInt64} (hown : s.vm.findClass own = some m.cls) (w : (Jvm.Cond.constantDouble own index v).before a0 Z = true) (hd : decode c.code pc = .ok (.ldc2_w index, 3)) (hp : pc' = pc + 3) (k : G (T.setTop (mkF m pc' Ls (.double v :: rest)))) : G (T.setTop (mkF m pc Ls rest)) := by
  subst hp
  refine hG _ _ (fun t ht => ?_) k
  exact X.ldc2DoubleC hx hown (mvT hZ w) (g := mkF m pc Ls rest) rfl hd t ht
/-! fields -/
theorem g_getF (hG : Cl p e below G) (X : Stand p l e R s m args below meth c T locs cells slots) (hx : p.tables.exec = Jvm.exec) (hZ : Z.Warmed39 s.vm) {own R0 O n d : String} {index : Nat} (hown : s.vm.findClass own = some m.cls) (w : (Jvm.Cond.fieldLink own index R0 n d).before a0 Z = true) (via : Via Z R0 O n d) (eT : T.heap = h) {a : Addr} {v : Value} (F : Fld Z h a O n d v) (hd : decode c.code pc = .ok (.getfield index, 3)) (hp : pc' = pc + 3)
    (k : ∀ T', Stand p l e R s m args below meth c T' locs cells slots → T'.heap = h → G (T'.setTop (mkF m pc' Ls (v :: rest)))) : G (T.setTop (mkF m pc Ls (.ref a :: rest))) := by
  subst hp
  obtain ⟨T', X', e', st⟩ := getF X hx hZ hown (host := "") (Or.inl w) via eT F (g := mkF m pc Ls (.ref a :: rest)) rfl rfl hd
  exact hG _ _ st (k T' X' e')
theorem g_putF (hG : Cl p e below G) (X : Stand p l e R s m args below meth c T locs cells slots) (hx : p.tables.exec = Jvm.exec) (hZ : Z.Warmed39 s.vm) {own R0 O n d C : String} {index kk : Nat} {ty : FieldType} (hown : s.vm.findClass own = some m.cls) (w : (Jvm.Cond.fieldLink own index R0 n d).before a0 Z = true) (via : Via Z R0 O n d) (eT : T.heap = h) {a : Addr} {v v' old : Value} (F : Fld Z h a O n d old) (E : Exa Z h a C)
    (L : (Jvm.Cond.lays C O n d).before a0 Z = true ∨ ((Jvm.Cond.laysFinal C O n d).before a0 Z = true ∧ own = O ∧ meth.name = "<init>")) (wi : (Jvm.Cond.instantiable C kk).before a0 Z = true) (hty : parseFieldDescriptor d = some ty) (hn : narrow ty v = v') (hf : fits ty v' = true) (hd : decode c.code pc = .ok (.putfield index, 3)) (hp : pc' = pc + 3)
    (k : ∀ T' h', Stand p l e R s m args below meth c T' (locs ++ [⟨a, Jvm.RoadKit.slotOf Z O n d⟩]) cells slots → T'.heap = h' → Wr h h' a (Jvm.RoadKit.slotOf Z O n d) v' → G (T'.setTop (mkF m pc' Ls rest))) : G (T.setTop (mkF m pc Ls (v :: .ref a :: rest))) := by
  subst hp
  obtain ⟨T', h', X', e', W, st⟩ := putFN X hx hZ hown w via eT F E L wi hty hn hf (g := mkF m pc Ls (v :: .ref a :: rest)) rfl rfl hd
  exact hG _ _ st (k T' h' X' e' W)
theorem g_newO (hG : Cl p e below G) (X : Stand p l e R s m args below meth c T locs cells slots) (hx : p.tables.exec = Jvm.exec) (hZ : Z.Warmed39 s.vm) {own C : String} {index n : Nat} (hown : s.vm.findClass own = some m.cls) (w : (Jvm.Cond.classLink own index C).before a0 Z = true) (wi : (Jvm.Cond.instantiable C n).before a0 Z = true) (wz : (Jvm.Cond.initialized C).before a0 Z = true) (eT : T.heap = h) (hd : decode c.code pc = .ok (.new index, 3)) (hc : cells + 1 ≤ R.cells) (hl : slots + n ≤ R.slots) (hp : pc' = pc + 3)
    (k : ∀ T' h' b, b = h.size → Stand p l e R s m args below meth c T' locs (cells + 1) (slots + n) → T'.heap = h' → Ext h h' → Exa Z h' b C → (∀ {O nm d : String} {ty : FieldType}, Laid Z a0 C O nm d → parseFieldDescriptor d = some ty → Fld Z h' b O nm d (defaultValue ty)) → G (T'.setTop (mkF m pc' Ls (.ref b :: rest)))) : G (T.setTop (mkF m pc Ls rest)) := by
  subst hp
  obtain ⟨T', h', X', e', E, A, D, -, st⟩ := newO X hx hZ hown w wi wz eT (g := mkF m pc Ls rest) rfl hd hc hl
  exact hG _ _ st (k T' h' _ rfl X' e' E A D)
theorem g_initO (hG : Cl p e below G) (X : Stand p l e R s m args below meth c T locs cells slots) (hx : p.tables.exec = Jvm.exec) (hZ : Z.Warmed39 s.vm) {own : String} {index : Nat} (hown : s.vm.findClass own = some m.cls) (w1 : (Jvm.Cond.methodLink own index Lib.objectInit).before a0 Z = true) (w2 : (Jvm.Cond.instanceMethod Lib.objectInit).before a0 Z = true) (w3 : (Jvm.Cond.code Lib.objectInit ⟨#[0xb1]⟩ 1 none).before a0 Z = true) (eT : T.heap = h) {a : Addr}
    (hsz : Ls.size = c.maxLocals) (hd : decode c.code pc = .ok (.invokespecial index, 3)) (hfr : 1 ≤ R.frames) (hlo : (rest.map fun v => v.category).sum + 12 ≤ R.locals) (hp : pc' = pc + 3)
    (k : ∀ T', Stand p l e R s m args below meth c T' locs cells slots → T'.heap = h → G (T'.setTop (mkF m pc' Ls rest))) : G (T.setTop (mkF m pc Ls (.ref a :: rest))) := by
  subst hp
  obtain ⟨T', X', e', st⟩ := initO X hx hZ hown w1 w2 w3 eT (g := mkF m pc Ls (.ref a :: rest)) rfl hsz rfl hd hfr (W := (rest.map fun v => v.category).sum) (by show 2 * 0 + _ ≤ _; omega) hlo
  exact hG _ _ st (k T' X' e')
/-! arrays -/
theorem g_newP (hG : Cl p e below G) (X : Stand p l e R s m args below meth c T locs cells slots) (hx : p.tables.exec = Jvm.exec) (hZ : Z.Warmed39 s.vm) {aty : ArrayType} (w : (Jvm.Cond.arrayClass (newarray.typeOf aty)).before a0 Z = true) (eT : T.heap = h) {n : Int32} (hd : decode c.code pc = .ok (.newarray aty, 2)) (hn : ¬ n < 0) (cap : Nat) (hcap : n.toNatClampNeg ≤ cap) (hb : cap * 8 ≤ 536870912) (hc : cells + 1 ≤ R.cells) (hl : slots + cap ≤ R.slots) (hp : pc' = pc + 2)
    (k : ∀ T' h' b kA, b = h.size → Stand p l e R s m args below meth c T' locs (cells + 1) (slots + cap) → T'.heap = h' → Ext h h' → Arv Z h' b kA (newarray.typeOf aty) n [] (defaultValue (newarray.typeOf aty)) → G (T'.setTop (mkF m pc' Ls (.ref b :: rest)))) : G (T.setTop (mkF m pc Ls (.int n :: rest))) := by
  subst hp
  obtain ⟨T', h', kA, X', e', E, A, st⟩ := newP X hx hZ w eT (g := mkF m pc Ls (.int n :: rest)) rfl hd rfl hn hcap hb hc hl
  exact hG _ _ st (k T' h' _ kA rfl X' e' E (Arv.new A hn))

/-! arrays, with all that they hold -/
def AV (Z : State) (h : Heap) (a : Addr) (ty : FieldType) (n : Int32) (vs : List Value) : Prop := ∃ k, Arv Z h a k ty n vs (defaultValue ty) ∧ vs.length = n.toNatClampNeg
theorem AV.lt {a : Addr} {ty : FieldType} {n : Int32} {vs : List Value} (A : AV Z h a ty n vs) : a < h.size := by obtain ⟨k, A, -⟩ := A; exact A.lt
theorem AV.ext {h' : Heap} {a : Addr} {ty : FieldType} {n : Int32} {vs : List Value} (A : AV Z h a ty n vs) (E : Ext h h') : AV Z h' a ty n vs := by obtain ⟨k, A, q⟩ := A; exact ⟨k, A.ext E, q⟩
theorem AV.other {h' : Heap} {a b : Addr} {sl : Nat} {v : Value} {ty : FieldType} {n : Int32} {vs : List Value} (A : AV Z h a ty n vs) (W : Wr h h' b sl v) (q : a ≠ b) : AV Z h' a ty n vs := by obtain ⟨k, A, r⟩ := A; exact ⟨k, A.other W q, r⟩
theorem AV.keep {h' : Heap} {a : Addr} {ws : List Addr} {ty : FieldType} {n : Int32} {vs : List Value} (A : AV Z h a ty n vs) (K : Keep h h' ws) (q : a ∉ ws) : AV Z h' a ty n vs := by obtain ⟨k, A, r⟩ := A; exact ⟨k, A.keep K q, r⟩
theorem AV.new {a : Addr} {k : ClassId} {ty : FieldType} {n : Int32} (A : Arv Z h a k ty n [] (defaultValue ty)) : AV Z h a ty n (List.replicate n.toNatClampNeg (defaultValue ty)) := ⟨k, A.pad (fun i => by have q := pad_rep [] (defaultValue ty) n.toNatClampNeg i; simpa using q), by simp⟩
theorem AV.at {a : Addr} {ty : FieldType} {n : Int32} {vs : List Value} (A : AV Z h a ty n vs) {j : Int32} {v : Value} (hj : ¬ j < 0) (hv : vs[j.toNatClampNeg]? = some v) :
    ∃ c, Arr Z h a c ty ∧ ¬ (j < 0 ∨ c.slots.size ≤ j.toNatClampNeg) ∧ c.slots[j.toNatClampNeg]? = some v := by
  obtain ⟨k, ⟨c, A, q1, S, q3, H, Gf⟩, q⟩ := A
  have hl : j.toNatClampNeg < vs.length := (List.getElem?_eq_some_iff.mp hv).1
  have hin : ¬ (j < 0 ∨ c.slots.size ≤ j.toNatClampNeg) := fun z => z.elim hj (fun y => by omega)
  refine ⟨c, A, hin, Has.at H hin ?_⟩
  simp [List.getD, hv]
theorem AV.set {h' : Heap} {a : Addr} {ty : FieldType} {n : Int32} {vs : List Value} (A : AV Z h a ty n vs) {j : Int32} {v : Value} (W : Wr h h' a j.toNatClampNeg v) (hv : fits ty v = true) (hl : j.toNatClampNeg < vs.length) : AV Z h' a ty n (vs.set j.toNatClampNeg v) := by
  obtain ⟨k, ⟨c, A, q1, S, q3, H, Gf⟩, q⟩ := A
  exact ⟨k, Arv.set A q1 S q3 H Gf hv W _ rfl hl, by simpa using q⟩
theorem AV.inb {a : Addr} {ty : FieldType} {n : Int32} {vs : List Value} (A : AV Z h a ty n vs) {j : Int32} (hj : ¬ j < 0) (hl : j.toNatClampNeg < vs.length) : ∃ c, Arr Z h a c ty ∧ ¬ (j < 0 ∨ c.slots.size ≤ j.toNatClampNeg) := by
  obtain ⟨k, ⟨c, A, q1, S, q3, H, Gf⟩, q⟩ := A
  exact ⟨c, A, fun z => z.elim hj (fun y => by omega)⟩
theorem g_iaload (hG : Cl p e below G) (X : Stand p l e R s m args below meth c T locs cells slots) (hx : p.tables.exec = Jvm.exec) (hZ : Z.Warmed39 s.vm) (eT : T.heap = h) {a : Addr} {n : Int32} {vs : List Value} (A : AV Z h a .int n vs) {j : Int32} {v : Value} (hj : ¬ j < 0) (hv : vs[j.toNatClampNeg]? = some v) (hd : decode c.code pc = .ok (.iaload, 1)) (hp : pc' = pc + 1) (k : G (T.setTop (mkF m pc' Ls (v :: rest)))) : G (T.setTop (mkF m pc Ls (.int j :: .ref a :: rest))) := by
  subst hp
  obtain ⟨cl, Ar, hin, hat⟩ := A.at hj hv
  refine hG _ _ (fun t ht => ?_) k
  exact X.iaload hx (by rw [eT]; exact Ar.1) (State.isArrayOf_alike hZ.alike Ar.2.1) Ar.2.2 hin hat (g := mkF m pc Ls (.int j :: .ref a :: rest)) rfl rfl hd t ht
theorem g_daload (hG : Cl p e below G) (X : Stand p l e R s m args below meth c T locs cells slots) (hx : p.tables.exec = Jvm.exec) (hZ : Z.Warmed39 s.vm) (eT : T.heap = h) {a : Addr} {n : Int32} {vs : List Value} (A : AV Z h a .double n vs) {j : Int32} {v : Value} (hj : ¬ j < 0) (hv : vs[j.toNatClampNeg]? = some v) (hd : decode c.code pc = .ok (.daload, 1)) (hp : pc' = pc + 1) (k : G (T.setTop (mkF m pc' Ls (v :: rest)))) : G (T.setTop (mkF m pc Ls (.int j :: .ref a :: rest))) := by
  subst hp
  obtain ⟨cl, Ar, hin, hat⟩ := A.at hj hv
  refine hG _ _ (fun t ht => ?_) k
  exact X.daload hx (by rw [eT]; exact Ar.1) (State.isArrayOf_alike hZ.alike Ar.2.1) Ar.2.2 hin hat (g := mkF m pc Ls (.int j :: .ref a :: rest)) rfl rfl hd t ht
theorem g_laload (hG : Cl p e below G) (X : Stand p l e R s m args below meth c T locs cells slots) (hx : p.tables.exec = Jvm.exec) (hZ : Z.Warmed39 s.vm) (eT : T.heap = h) {a : Addr} {n : Int32} {vs : List Value} (A : AV Z h a .long n vs) {j : Int32} {v : Value} (hj : ¬ j < 0) (hv : vs[j.toNatClampNeg]? = some v) (hd : decode c.code pc = .ok (.laload, 1)) (hp : pc' = pc + 1) (k : G (T.setTop (mkF m pc' Ls (v :: rest)))) : G (T.setTop (mkF m pc Ls (.int j :: .ref a :: rest))) := by
  subst hp
  obtain ⟨cl, Ar, hin, hat⟩ := A.at hj hv
  refine hG _ _ (fun t ht => ?_) k
  exact X.laload hx (by rw [eT]; exact Ar.1) (State.isArrayOf_alike hZ.alike Ar.2.1) Ar.2.2 hin hat (g := mkF m pc Ls (.int j :: .ref a :: rest)) rfl rfl hd t ht
theorem g_zaload (hG : Cl p e below G) (X : Stand p l e R s m args below meth c T locs cells slots) (hx : p.tables.exec = Jvm.exec) (hZ : Z.Warmed39 s.vm) (eT : T.heap = h) {a : Addr} {n : Int32} {vs : List Value} (A : AV Z h a .boolean n vs) {j : Int32} {v : Value} (hj : ¬ j < 0) (hv : vs[j.toNatClampNeg]? = some v) (hd : decode c.code pc = .ok (.baload, 1)) (hp : pc' = pc + 1) (k : G (T.setTop (mkF m pc' Ls (v :: rest)))) : G (T.setTop (mkF m pc Ls (.int j :: .ref a :: rest))) := by
  subst hp
  obtain ⟨cl, Ar, hin, hat⟩ := A.at hj hv
  refine hG _ _ (fun t ht => ?_) k
  exact X.baloadBooleans hx (by rw [eT]; exact Ar.1) (State.isArrayOf_alike hZ.alike Ar.2.1) Ar.2.2 hin hat (g := mkF m pc Ls (.int j :: .ref a :: rest)) rfl rfl hd t ht
theorem g_iastore (hG : Cl p e below G) (X : Stand p l e R s m args below meth c T locs cells slots) (hx : p.tables.exec = Jvm.exec) (hZ : Z.Warmed39 s.vm) (eT : T.heap = h) {a : Addr} {n : Int32} {vs : List Value} (A : AV Z h a .int n vs) {j : Int32} {x : Int32} (hj : ¬ j < 0) (hl : j.toNatClampNeg < vs.length) (hd : decode c.code pc = .ok (.iastore, 1)) (hp : pc' = pc + 1)
    (k : ∀ T' h', Stand p l e R s m args below meth c T' (locs ++ [⟨a, j.toNatClampNeg⟩]) cells slots → T'.heap = h' → Wr h h' a j.toNatClampNeg (.int x) → AV Z h' a .int n (vs.set j.toNatClampNeg (.int x)) → G (T'.setTop (mkF m pc' Ls rest))) : G (T.setTop (mkF m pc Ls (.int x :: .int j :: .ref a :: rest))) := by
  subst hp
  obtain ⟨cl, Ar, hin⟩ := A.inb hj hl
  obtain ⟨T', h', X', e', W, st⟩ := stI X hx hZ eT Ar hin (g := mkF m pc Ls (.int x :: .int j :: .ref a :: rest)) rfl rfl hd
  exact hG _ _ st (k T' h' X' e' W (A.set W rfl hl))
theorem g_dastore (hG : Cl p e below G) (X : Stand p l e R s m args below meth c T locs cells slots) (hx : p.tables.exec = Jvm.exec) (hZ : Z.Warmed39 s.vm) (eT : T.heap = h) {a : Addr} {n : Int32} {vs : List Value} (A : AV Z h a .double n vs) {j : Int32} {x : UInt64} (hj : ¬ j < 0) (hl : j.toNatClampNeg < vs.length) (hd : decode c.code pc = .ok (.dastore, 1)) (hp : pc' = pc + 1)
    (k : ∀ T' h', Stand p l e R s m args below meth c T' (locs ++ [⟨a, j.toNatClampNeg⟩]) cells slots → T'.heap = h' → Wr h h' a j.toNatClampNeg (.double x) → AV Z h' a .double n (vs.set j.toNatClampNeg (.double x)) → G (T'.setTop (mkF m pc' Ls rest))) : G (T.setTop (mkF m pc Ls (.double x :: .int j :: .ref a :: rest))) := by
  subst hp
  obtain ⟨cl, Ar, hin⟩ := A.inb hj hl
  obtain ⟨T', h', X', e', W, st⟩ := stD X hx hZ eT Ar hin (g := mkF m pc Ls (.double x :: .int j :: .ref a :: rest)) rfl rfl hd
  exact hG _ _ st (k T' h' X' e' W (A.set W rfl hl))
theorem g_lastore (hG : Cl p e below G) (X : Stand p l e R s m args below meth c T locs cells slots) (hx : p.tables.exec = Jvm.exec) (hZ : Z.Warmed39 s.vm) (eT : T.heap = h) {a : Addr} {n : Int32} {vs : List Value} (A : AV Z h a .long n vs) {j : Int32} {x : Int64} (hj : ¬ j < 0) (hl : j.toNatClampNeg < vs.length) (hd : decode c.code pc = .ok (.lastore, 1)) (hp : pc' = pc + 1)
    (k : ∀ T' h', Stand p l e R s m args below meth c T' (locs ++ [⟨a, j.toNatClampNeg⟩]) cells slots → T'.heap = h' → Wr h h' a j.toNatClampNeg (.long x) → AV Z h' a .long n (vs.set j.toNatClampNeg (.long x)) → G (T'.setTop (mkF m pc' Ls rest))) : G (T.setTop (mkF m pc Ls (.long x :: .int j :: .ref a :: rest))) := by
  subst hp
  obtain ⟨cl, Ar, hin⟩ := A.inb hj hl
  obtain ⟨T', h', X', e', W, st⟩ := stJ X hx hZ eT Ar hin (g := mkF m pc Ls (.long x :: .int j :: .ref a :: rest)) rfl rfl hd
  exact hG _ _ st (k T' h' X' e' W (A.set W rfl hl))
theorem g_zastore (hG : Cl p e below G) (X : Stand p l e R s m args below meth c T locs cells slots) (hx : p.tables.exec = Jvm.exec) (hZ : Z.Warmed39 s.vm) (eT : T.heap = h) {a : Addr} {n : Int32} {vs : List Value} (A : AV Z h a .boolean n vs) {j : Int32} {x : Int32} (hj : ¬ j < 0) (hl : j.toNatClampNeg < vs.length) (hd : decode c.code pc = .ok (.bastore, 1)) (hp : pc' = pc + 1)
    (k : ∀ T' h', Stand p l e R s m args below meth c T' (locs ++ [⟨a, j.toNatClampNeg⟩]) cells slots → T'.heap = h' → Wr h h' a j.toNatClampNeg (.int (nar .boolean x)) → AV Z h' a .boolean n (vs.set j.toNatClampNeg (.int (nar .boolean x))) → G (T'.setTop (mkF m pc' Ls rest))) : G (T.setTop (mkF m pc Ls (.int x :: .int j :: .ref a :: rest))) := by
  subst hp
  obtain ⟨cl, Ar, hin⟩ := A.inb hj hl
  obtain ⟨T', h', X', e', W, st⟩ := stZ X hx hZ eT Ar hin (g := mkF m pc Ls (.int x :: .int j :: .ref a :: rest)) rfl rfl hd
  exact hG _ _ st (k T' h' X' e' W (A.set W (fits_nar_bool _) hl))
theorem g_bbastore (hG : Cl p e below G) (X : Stand p l e R s m args below meth c T locs cells slots) (hx : p.tables.exec = Jvm.exec) (hZ : Z.Warmed39 s.vm) (eT : T.heap = h) {a : Addr} {n : Int32} {vs : List Value} (A : AV Z h a .byte n vs) {j : Int32} {x : Int32} (hj : ¬ j < 0) (hl : j.toNatClampNeg < vs.length) (hd : decode c.code pc = .ok (.bastore, 1)) (hp : pc' = pc + 1)
    (k : ∀ T' h', Stand p l e R s m args below meth c T' (locs ++ [⟨a, j.toNatClampNeg⟩]) cells slots → T'.heap = h' → Wr h h' a j.toNatClampNeg (.int x.toInt8.toInt32) → AV Z h' a .byte n (vs.set j.toNatClampNeg (.int x.toInt8.toInt32)) → G (T'.setTop (mkF m pc' Ls rest))) : G (T.setTop (mkF m pc Ls (.int x :: .int j :: .ref a :: rest))) := by
  subst hp
  obtain ⟨cl, Ar, hin⟩ := A.inb hj hl
  obtain ⟨T', h', X', e', W, st⟩ := stB X hx hZ eT Ar hin (g := mkF m pc Ls (.int x :: .int j :: .ref a :: rest)) rfl rfl hd
  exact hG _ _ st (k T' h' X' e' W (A.set W (fits_nar_byte _) hl))
theorem g_arraylength (hG : Cl p e below G) (X : Stand p l e R s m args below meth c T locs cells slots) (hx : p.tables.exec = Jvm.exec) (hZ : Z.Warmed39 s.vm) (eT : T.heap = h) {a : Addr} {ty : FieldType} {n : Int32} {vs : List Value} (A : AV Z h a ty n vs) (hd : decode c.code pc = .ok (.arraylength, 1)) (hp : pc' = pc + 1) (k : G (T.setTop (mkF m pc' Ls (.int n :: rest)))) : G (T.setTop (mkF m pc Ls (.ref a :: rest))) := by
  subst hp
  obtain ⟨kA, ⟨cl, Ar, q1, S, q3, H, Gf⟩, q⟩ := A
  rw [← len_of S q3] at k
  refine hG _ _ (fun t ht => ?_) k
  exact X.arraylength hx (by rw [eT]; exact Ar.1) (State.isArrayOf_alike hZ.alike Ar.2.1) (g := mkF m pc Ls (.ref a :: rest)) rfl rfl hd t ht
/-! calls by a contract -/
theorem g_callS (hG : Cl p e below G) (X : Stand p l e R s m args below meth c T locs cells slots) (hx : p.tables.exec = Jvm.exec) (hZ : Z.Warmed39 s.vm) {own : String} {index : Nat} {y : MethodName} {bytes : ByteArray} {maxL : Nat} {ret : Option FieldType} {rm : Room} {as : Array Value} {Qc : Option Value → Heap → List Loc → Prop} {argsL stack : List Value} {ps : List FieldType} {rt : Option FieldType} (W : Nat)
    (hown : s.vm.findClass own = some m.cls) (w1 : (Jvm.Cond.methodLink own index y).before a0 Z = true) (w2 : (Jvm.Cond.static y).before a0 Z = true) (w3 : (Jvm.Cond.initialized y.cls).before a0 Z = true) (w4 : (Jvm.Cond.code y bytes maxL ret).before a0 Z = true) (hy : y.cls ≠ "java/lang/invoke/MethodHandle" ∧ y.cls ≠ "java/lang/invoke/VarHandle")
    (hM : Con l y bytes maxL ret [] rm Z as h rm.cells rm.slots Qc) (hfr : rm.frames + 1 ≤ R.frames) (hlo : W + (maxL + 11) + rm.locals ≤ R.locals) (hsz : Ls.size = c.maxLocals) (hpd : parseMethodDescriptor y.desc = some ⟨ps, rt⟩) (hln : argsL.length = ps.length) (hst : stack = argsL.reverse ++ rest) (has : argsL.toArray = as) (hW : (rest.map fun v => v.category).sum ≤ W)
    (hd : decode c.code pc = .ok (.invokestatic index, 3)) (eT : T.heap = h) (hc : cells + rm.cells ≤ R.cells) (hs : slots + rm.slots ≤ R.slots) (hp : pc' = pc + 3)
    (k : ∀ T' v L', Stand p l e R s m args below meth c T' (locs ++ L') (cells + rm.cells) (slots + rm.slots) → Qc v T'.heap L' → G (T'.setTop (mkF m pc' Ls (v.toList ++ rest)))) : G (T.setTop (mkF m pc Ls stack)) := by
  subst hp hst has
  obtain ⟨v, _, ⟨T1, L1, k1, n1⟩, -, X1, ⟨Lc, hQ, l1, y1, z1⟩, st⟩ := Jvm.LawKit.callS X hx (y := y) hown (mvT hZ w1) (mvT hZ w2) (mvT hZ w3) (mvT hZ w4) hy (backOf (W := W) hM hZ w4 w3 hfr hlo) (g := mkF m pc Ls (argsL.reverse ++ rest)) rfl hsz (argsL := argsL) (rest := rest) (lenOf hpd hln) rfl (by show 2 * 0 + _ ≤ _; omega) hd (fun _ _ => ⟨rfl, eT, hc, hs⟩)
  dsimp only [Pt.U, Pt.locs, Pt.cells, Pt.slots] at X1 l1 y1 z1 st hQ
  subst l1 y1 z1
  exact hG _ _ st (k T1 v Lc X1 hQ)
theorem g_callI (hG : Cl p e below G) (X : Stand p l e R s m args below meth c T locs cells slots) (hx : p.tables.exec = Jvm.exec) (hZ : Z.Warmed39 s.vm) {own : String} {index : Nat} {y : MethodName} {bytes : ByteArray} {maxL : Nat} {rm : Room} {as : Array Value} {Qc : Option Value → Heap → List Loc → Prop} {a : Addr} {argsL stack : List Value} {ps : List FieldType} {rt : Option FieldType} (W : Nat)
    (hy1 : y.name = "<init>") (hown : s.vm.findClass own = some m.cls) (w1 : (Jvm.Cond.methodLink own index y).before a0 Z = true) (w2 : (Jvm.Cond.instanceMethod y).before a0 Z = true) (w3 : (Jvm.Cond.initialized y.cls).before a0 Z = true) (w4 : (Jvm.Cond.code y bytes maxL none).before a0 Z = true) (hy : y.cls ≠ "java/lang/invoke/MethodHandle" ∧ y.cls ≠ "java/lang/invoke/VarHandle")
    (hM : Con l y bytes maxL none [] rm Z as h rm.cells rm.slots Qc) (hfr : rm.frames + 1 ≤ R.frames) (hlo : W + (maxL + 11) + rm.locals ≤ R.locals) (hsz : Ls.size = c.maxLocals) (hpd : parseMethodDescriptor y.desc = some ⟨ps, rt⟩) (hln : argsL.length = ps.length) (hst : stack = argsL.reverse ++ .ref a :: rest) (has : (.ref a :: argsL).toArray = as) (hW : (rest.map fun v => v.category).sum ≤ W)
    (hd : decode c.code pc = .ok (.invokespecial index, 3)) (eT : T.heap = h) (hc : cells + rm.cells ≤ R.cells) (hs : slots + rm.slots ≤ R.slots) (hp : pc' = pc + 3)
    (k : ∀ T' v L', Stand p l e R s m args below meth c T' (locs ++ L') (cells + rm.cells) (slots + rm.slots) → Qc v T'.heap L' → G (T'.setTop (mkF m pc' Ls (v.toList ++ rest)))) : G (T.setTop (mkF m pc Ls stack)) := by
  subst hp hst has
  obtain ⟨v, _, ⟨T1, L1, k1, n1⟩, -, X1, ⟨Lc, hQ, l1, y1, z1⟩, st⟩ := X.specialBack hx (y := y) hy1 hown (mvT hZ w1) (mvT hZ w2) (mvT hZ w4) hy (backOf (W := W) hM hZ w4 w3 hfr hlo) (g := mkF m pc Ls (argsL.reverse ++ .ref a :: rest)) rfl hsz (Steps.refl _) (a := a) (argsL := argsL) (rest := rest) (lenOf hpd hln) rfl (by show 2 * 0 + _ ≤ _; omega) hd (fun _ _ => ⟨rfl, eT, hc, hs⟩)
  dsimp only [Pt.U, Pt.locs, Pt.cells, Pt.slots] at X1 l1 y1 z1 st hQ
  subst l1 y1 z1
  exact hG _ _ (fun t ht => st.trans ht) (k T1 v Lc X1 hQ)
theorem g_callV (hG : Cl p e below G) (X : Stand p l e R s m args below meth c T locs cells slots) (hx : p.tables.exec = Jvm.exec) (hZ : Z.Warmed39 s.vm) {own C : String} {index : Nat} {y : MethodName} {bytes : ByteArray} {maxL : Nat} {ret : Option FieldType} {rm : Room} {as : Array Value} {Qc : Option Value → Heap → List Loc → Prop} {a : Addr} {argsL stack : List Value} {ps : List FieldType} {rt : Option FieldType} (W : Nat)
    (hown : s.vm.findClass own = some m.cls) (w1 : (Jvm.Cond.methodLink own index y).before a0 Z = true) (w2 : (Jvm.Cond.declares y).before a0 Z = true) (ws : (Jvm.Cond.selects C y y).before a0 Z = true) (wi : (Jvm.Cond.instanceMethod y).before a0 Z = true) (w3 : (Jvm.Cond.initialized y.cls).before a0 Z = true) (w4 : (Jvm.Cond.code y bytes maxL ret).before a0 Z = true) (hy : y.cls ≠ "java/lang/invoke/MethodHandle" ∧ y.cls ≠ "java/lang/invoke/VarHandle")
    (hM : Con l y bytes maxL ret [] rm Z as h rm.cells rm.slots Qc) (hfr : rm.frames + 1 ≤ R.frames) (hlo : W + (maxL + 11) + rm.locals ≤ R.locals) (hsz : Ls.size = c.maxLocals) (hpd : parseMethodDescriptor y.desc = some ⟨ps, rt⟩) (hln : argsL.length = ps.length) (hst : stack = argsL.reverse ++ .ref a :: rest) (has : (.ref a :: argsL).toArray = as) (hW : (rest.map fun v => v.category).sum ≤ W)
    (hd : decode c.code pc = .ok (.invokevirtual index, 3)) (eT : T.heap = h) (E : Exa Z h a C) (hc : cells + rm.cells ≤ R.cells) (hs : slots + rm.slots ≤ R.slots) (hp : pc' = pc + 3)
    (k : ∀ T' v L', Stand p l e R s m args below meth c T' (locs ++ L') (cells + rm.cells) (slots + rm.slots) → Qc v T'.heap L' → G (T'.setTop (mkF m pc' Ls (v.toList ++ rest)))) : G (T.setTop (mkF m pc Ls stack)) := by
  subst hp hst has
  obtain ⟨cq, kq, qa, qb, qc⟩ := isOf hZ eT E
  obtain ⟨v, _, ⟨T1, L1, k1, n1⟩, -, X1, ⟨Lc, hQ, l1, y1, z1⟩, st⟩ := X.virtualBack hx (y := y) (z := y) hown (mvT hZ w1) (mvT hZ w2) (notFace_of_selects (args := #[]) (mvT hZ ws)) (mvT hZ ws) (mvT hZ wi) hy (backOf (W := W) hM hZ w4 w3 hfr hlo) qa qc (g := mkF m pc Ls (argsL.reverse ++ .ref a :: rest)) rfl hsz (Steps.refl _) (argsL := argsL) (rest := rest) (lenOf hpd hln) rfl (by show 2 * 0 + _ ≤ _; omega) hd (fun _ _ => ⟨rfl, eT, hc, hs⟩)
  dsimp only [Pt.U, Pt.locs, Pt.cells, Pt.slots] at X1 l1 y1 z1 st hQ
  subst l1 y1 z1
  exact hG _ _ (fun t ht => st.trans ht) (k T1 v Lc X1 hQ)
theorem g_callP (hG : Cl p e below G) (X : Stand p l e R s m args below meth c T locs cells slots) (hx : p.tables.exec = Jvm.exec) (hZ : Z.Warmed39 s.vm) {own C : String} {index : Nat} {y : MethodName} {bytes : ByteArray} {maxL : Nat} {ret : Option FieldType} {rm : Room} {as : Array Value} {Qc : Option Value → Heap → List Loc → Prop} {a : Addr} {argsL stack : List Value} {ps : List FieldType} {rt : Option FieldType} (W : Nat)
    (hown : s.vm.findClass own = some m.cls) (w1 : (Jvm.Cond.methodLink own index y).before a0 Z = true) (wi : (Jvm.Cond.instanceMethod y).before a0 Z = true) {kk : Nat} (wk : (Jvm.Cond.instantiable y.cls kk).before a0 Z = true) (wp : (Jvm.Cond.privateMethod y).before a0 Z = true) (w3 : (Jvm.Cond.initialized y.cls).before a0 Z = true) (w4 : (Jvm.Cond.code y bytes maxL ret).before a0 Z = true) (hy : y.cls ≠ "java/lang/invoke/MethodHandle" ∧ y.cls ≠ "java/lang/invoke/VarHandle")
    (hM : Con l y bytes maxL ret [] rm Z as h rm.cells rm.slots Qc) (hfr : rm.frames + 1 ≤ R.frames) (hlo : W + (maxL + 11) + rm.locals ≤ R.locals) (hsz : Ls.size = c.maxLocals) (hpd : parseMethodDescriptor y.desc = some ⟨ps, rt⟩) (hln : argsL.length = ps.length) (hst : stack = argsL.reverse ++ .ref a :: rest) (has : (.ref a :: argsL).toArray = as) (hW : (rest.map fun v => v.category).sum ≤ W)
    (hd : decode c.code pc = .ok (.invokevirtual index, 3)) (eT : T.heap = h) (E : Exa Z h a C) (hc : cells + rm.cells ≤ R.cells) (hs : slots + rm.slots ≤ R.slots) (hp : pc' = pc + 3)
    (k : ∀ T' v L', Stand p l e R s m args below meth c T' (locs ++ L') (cells + rm.cells) (slots + rm.slots) → Qc v T'.heap L' → G (T'.setTop (mkF m pc' Ls (v.toList ++ rest)))) : G (T.setTop (mkF m pc Ls stack)) := by
  subst hp hst has
  obtain ⟨cq, q1, q2⟩ := E.cell
  have hpv : s.PrivateAt y := Jvm.Cond.privateMethod_at (mvP hZ wp (args := #[]))
  obtain ⟨ck, kk', j1, j2, -, j4, -⟩ := Jvm.Cond.instantiable_spec (mvT (args := args) hZ wk)
  have ws : (Jvm.Cond.selects y.cls y y).before args s = true := selects_self_of_private j1 j2 (by simp at j4; exact j4.1) hpv (mvT hZ wi) hy
  obtain ⟨v, _, ⟨T1, L1, k1, n1⟩, -, X1, ⟨Lc, hQ, l1, y1, z1⟩, st⟩ := X.privateBack hx (y := y) hown (mvT hZ w1) (mvT hZ wi) ws hpv (mvT hZ w4) hy (backOf (W := W) hM hZ w4 w3 hfr hlo) (g := mkF m pc Ls (argsL.reverse ++ .ref a :: rest)) rfl hsz (Steps.refl _) (a := a) (by rw [eT]; exact q1) q2 (argsL := argsL) (rest := rest) (lenOf hpd hln) rfl (by show 2 * 0 + _ ≤ _; omega) hd (fun _ _ => ⟨rfl, eT, hc, hs⟩)
  dsimp only [Pt.U, Pt.locs, Pt.cells, Pt.slots] at X1 l1 y1 z1 st hQ
  subst l1 y1 z1
  exact hG _ _ (fun t ht => st.trans ht) (k T1 v Lc X1 hQ)
theorem g_natS (hG : Cl p e below G) (X : Stand p l e R s m args below meth c T locs cells slots) (hx : p.tables.exec = Jvm.exec) (hZ : Z.Warmed39 s.vm) {own : String} {index : Nat} {y : MethodName} {by0 : ByteArray} {ml : Nat} {rt : Option FieldType} {F : Array Value → Prop} {val : Value} {argsL stack : List Value} {ps : List FieldType} {rt' : Option FieldType} (W : Nat)
    (hown : s.vm.findClass own = some m.cls) (w1 : (Jvm.Cond.methodLink own index y).before a0 Z = true) (w2 : (Jvm.Cond.static y).before a0 Z = true) (w3 : (Jvm.Cond.initialized y.cls).before a0 Z = true) (w4 : (Jvm.Cond.code y by0 ml rt).before a0 Z = true) (hy : y.cls ≠ "java/lang/invoke/MethodHandle" ∧ y.cls ≠ "java/lang/invoke/VarHandle")
    (hK : (Jvm.Cond.code y by0 ml rt).before args s = true → Back l R p e below s args y 3 W (fun A a' => A.cells ≤ R.cells ∧ A.slots ≤ R.slots ∧ F a') (fun A _ v B => v = some val ∧ B = A)) (hsz : Ls.size = c.maxLocals) (hpd : parseMethodDescriptor y.desc = some ⟨ps, rt'⟩) (hln : argsL.length = ps.length) (hst : stack = argsL.reverse ++ rest) (hW : (rest.map fun v => v.category).sum ≤ W)
    (hd : decode c.code pc = .ok (.invokestatic index, 3)) (eT : T.heap = h) (hc : cells ≤ R.cells) (hs : slots ≤ R.slots) (hF : F argsL.toArray) (hp : pc' = pc + 3)
    (k : ∀ T', Stand p l e R s m args below meth c T' locs cells slots → T'.heap = h → G (T'.setTop (mkF m pc' Ls (val :: rest)))) : G (T.setTop (mkF m pc Ls stack)) := by
  subst hp hst
  obtain ⟨T', X', e', st⟩ := natS X hx hZ hown w1 w2 w3 w4 hy eT hK (g := mkF m pc Ls (argsL.reverse ++ rest)) rfl hsz (argsL := argsL) (rest := rest) (lenOf hpd hln) rfl (by show 2 * 0 + _ ≤ _; omega) hd hc hs hF rfl
  exact hG _ _ st (k T' X' e')
theorem g_getS (hG : Cl p e below G) (X : Stand p l e R s m args below meth c T locs cells slots) (hx : p.tables.exec = Jvm.exec) (hZ : Z.Warmed39 s.vm) {own R0 O n d : String} {index : Nat} (hown : s.vm.findClass own = some m.cls) (w : (Jvm.Cond.fieldLink own index R0 n d).before a0 Z = true) (via : Via Z R0 O n d) (eT : T.heap = h) {v : Value} (F : Sta Z h O n d v) (hd : decode c.code pc = .ok (.getstatic index, 3)) (hp : pc' = pc + 3)
    (k : ∀ T', Stand p l e R s m args below meth c T' locs cells slots → T'.heap = h → G (T'.setTop (mkF m pc' Ls (v :: rest)))) : G (T.setTop (mkF m pc Ls rest)) := by
  subst hp
  obtain ⟨T', X', e', st⟩ := getS2 (host := "") X hx hZ hown (Or.inl w) via eT F (g := mkF m pc Ls rest) rfl hd
  exact hG _ _ st (k T' X' e')
theorem g_castY (hG : Cl p e below G) (X : Stand p l e R s m args below meth c T locs cells slots) (hx : p.tables.exec = Jvm.exec) (hZ : Z.Warmed39 s.vm) {own K0 : String} {index : Nat} (hown : s.vm.findClass own = some m.cls) (w : (Jvm.Cond.classLink own index K0).before a0 Z = true) (eT : T.heap = h) {a : Addr} (F : Ins Z h a K0 true) (hd : decode c.code pc = .ok (.checkcast index, 3)) (hp : pc' = pc + 3)
    (k : ∀ T', Stand p l e R s m args below meth c T' locs cells slots → T'.heap = h → G (T'.setTop (mkF m pc' Ls (.ref a :: rest)))) : G (T.setTop (mkF m pc Ls (.ref a :: rest))) := by
  subst hp
  obtain ⟨T', X', e', st⟩ := castY X hx hZ hown w eT F (g := mkF m pc Ls (.ref a :: rest)) rfl rfl hd
  exact hG _ _ st (k T' X' e')
theorem g_newPE (hG : Cl p e below G) (X : Stand p l e R s m args below meth c T locs cells slots) (hx : p.tables.exec = Jvm.exec) (hZ : Z.Warmed39 s.vm) {aty : ArrayType} (w : (Jvm.Cond.arrayClass (newarray.typeOf aty)).before a0 Z = true) (eT : T.heap = h) {n : Int32} (hd : decode c.code pc = .ok (.newarray aty, 2)) (hn : ¬ n < 0) (cap : Nat) (hcap : n.toNatClampNeg ≤ cap) (hb : cap * 8 ≤ 536870912) (hc : cells + 1 ≤ R.cells) (hl : slots + cap ≤ R.slots) {ad : String} (had : "[" ++ (newarray.typeOf aty).toString = ad) (hp : pc' = pc + 2)
    (k : ∀ T' h' b, b = h.size → Stand p l e R s m args below meth c T' locs (cells + 1) (slots + cap) → T'.heap = h' → Ext h h' → AV Z h' b (newarray.typeOf aty) n (List.replicate n.toNatClampNeg (defaultValue (newarray.typeOf aty))) → Exa Z h' b ad → G (T'.setTop (mkF m pc' Ls (.ref b :: rest)))) : G (T.setTop (mkF m pc Ls (.int n :: rest))) := by
  subst hp
  obtain ⟨T', h', kA, X', e', E, A, Ex, st⟩ := newPE X hx hZ w eT (g := mkF m pc Ls (.int n :: rest)) rfl hd rfl hn hcap hb hc hl had
  exact hG _ _ st (k T' h' _ rfl X' e' E (AV.new (Arv.new A hn)) Ex)
theorem g_clone (hG : Cl p e below G) (X : Stand p l e R s m args below meth c T locs cells slots) (hx : p.tables.exec = Jvm.exec) (hZ : Z.Warmed39 s.vm) {own ad : String} {index : Nat} (hown : s.vm.findClass own = some m.cls)
    (w1 : (Jvm.Cond.methodLink own index ⟨ad, "clone", "()Ljava/lang/Object;"⟩).before a0 Z = true) (w2 : (Jvm.Cond.sameMethod ad "java/lang/Object" "clone" "()Ljava/lang/Object;").before a0 Z = true) (w3 : (Jvm.Cond.native ⟨"java/lang/Object", "clone", "()Ljava/lang/Object;"⟩).before a0 Z = true)
    (w4 : (Jvm.Cond.instanceMethod ⟨"java/lang/Object", "clone", "()Ljava/lang/Object;"⟩).before a0 Z = true) (w5 : (Jvm.Cond.selects ad ⟨ad, "clone", "()Ljava/lang/Object;"⟩ ⟨"java/lang/Object", "clone", "()Ljava/lang/Object;"⟩).before a0 Z = true) (w6 : (Jvm.Cond.castable ad "java/lang/Cloneable").before a0 Z = true)
    (eT : T.heap = h) {a : Addr} {ty : FieldType} {n : Int32} {vs : List Value} (A : AV Z h a ty n vs) (E : Exa Z h a ad) (hsz : Ls.size = c.maxLocals) (hd : decode c.code pc = .ok (.invokevirtual index, 3)) (hfr : 1 ≤ R.frames) (W cap : Nat) (hW : (rest.map fun v => v.category).sum ≤ W) (hlo : W + 14 ≤ R.locals) (hcap : n.toNatClampNeg ≤ cap) (hc : cells + 1 ≤ R.cells) (hsl : slots + cap ≤ R.slots) (hp : pc' = pc + 3)
    (k : ∀ T' h' b, b = h.size → Stand p l e R s m args below meth c T' locs (cells + 1) (slots + cap) → T'.heap = h' → Ext h h' → AV Z h' b ty n vs → Exa Z h' b ad → G (T'.setTop (mkF m pc' Ls (.ref b :: rest)))) : G (T.setTop (mkF m pc Ls (.ref a :: rest))) := by
  subst hp
  obtain ⟨kA, A, q⟩ := A
  obtain ⟨T', h', X', e', E', A', Ex, st⟩ := cloneH X hx hZ hown w1 w2 w3 w4 w5 w6 eT A.arh E (g := mkF m pc Ls (.ref a :: rest)) rfl hsz rfl hd hfr (W := W) (by show 2 * 0 + _ ≤ _; omega) hlo hcap hc hsl
  exact hG _ _ st (k T' h' _ rfl X' e' E' ⟨kA, A', q⟩ Ex)
theorem g_callVU (hG : Cl p e below G) (X : Stand p l e R s m args below meth c T locs cells slots) (hx : p.tables.exec = Jvm.exec) (hZ : Z.Warmed39 s.vm) {own C owner : String} {index : Nat} {x y : MethodName} {bytes : ByteArray} {maxL : Nat} {ret : Option FieldType} {rm : Room} {as : Array Value} {Qc : Option Value → Heap → List Loc → Prop} {a : Addr} {argsL stack : List Value} {ps : List FieldType} {rt : Option FieldType} (W : Nat)
    (hown : s.vm.findClass own = some m.cls) (w1 : (Jvm.Cond.methodLink own index x).before a0 Z = true) (wm : (Jvm.Cond.sameMethod x.cls owner x.name x.desc).before a0 Z = true) (w2 : (Jvm.Cond.declares ⟨owner, x.name, x.desc⟩).before a0 Z = true) (ho : owner ≠ "java/lang/invoke/MethodHandle" ∧ owner ≠ "java/lang/invoke/VarHandle") (ws : (Jvm.Cond.selects C x y).before a0 Z = true) (wi : (Jvm.Cond.instanceMethod y).before a0 Z = true) (w3 : (Jvm.Cond.initialized y.cls).before a0 Z = true) (w4 : (Jvm.Cond.code y bytes maxL ret).before a0 Z = true)
    (hM : Con l y bytes maxL ret [] rm Z as h rm.cells rm.slots Qc) (hfr : rm.frames + 1 ≤ R.frames) (hlo : W + (maxL + 11) + rm.locals ≤ R.locals) (hsz : Ls.size = c.maxLocals) (hpd : parseMethodDescriptor x.desc = some ⟨ps, rt⟩) (hln : argsL.length = ps.length) (hst : stack = argsL.reverse ++ .ref a :: rest) (has : (.ref a :: argsL).toArray = as) (hW : (rest.map fun v => v.category).sum ≤ W)
    (hd : decode c.code pc = .ok (.invokevirtual index, 3)) (eT : T.heap = h) (E : Exa Z h a C) (hc : cells + rm.cells ≤ R.cells) (hs : slots + rm.slots ≤ R.slots) (hp : pc' = pc + 3)
    (k : ∀ T' v L', Stand p l e R s m args below meth c T' (locs ++ L') (cells + rm.cells) (slots + rm.slots) → Qc v T'.heap L' → G (T'.setTop (mkF m pc' Ls (v.toList ++ rest)))) : G (T.setTop (mkF m pc Ls stack)) := by
  subst hp hst has
  obtain ⟨cq, kq, qa, qb, qc⟩ := isOf hZ eT E
  obtain ⟨v, _, ⟨T1, L1, k1, n1⟩, -, X1, ⟨Lc, hQ, l1, y1, z1⟩, st⟩ := X.virtualBackUp hx (x := x) (y := y) hown (mvT hZ w1) (mvT hZ wm) (mvT hZ w2) ho (mvT hZ ws) (mvT hZ wi) (backOf (W := W) hM hZ w4 w3 hfr hlo) qa qc (g := mkF m pc Ls (argsL.reverse ++ .ref a :: rest)) rfl hsz (Steps.refl _) (argsL := argsL) (rest := rest) (lenOf hpd hln) rfl (by show 2 * 0 + _ ≤ _; omega) hd (fun _ _ => ⟨rfl, eT, hc, hs⟩)
  dsimp only [Pt.U, Pt.locs, Pt.cells, Pt.slots] at X1 l1 y1 z1 st hQ
  subst l1 y1 z1
  exact hG _ _ (fun t ht => st.trans ht) (k T1 v Lc X1 hQ)
theorem g_lookup (hG : Cl p e below G) (X : Stand p l e R s m args below meth c T locs cells slots) (hx : p.tables.exec = Jvm.exec) {kk : Int32} {dflt : Int} {pairs : Array (Int × Int)} {len : Nat} (hd : decode c.code pc = .ok (.lookupswitch dflt pairs, len)) (hs : (pairs.toList.zip (pairs.toList.drop 1)).all (fun (a, next) => a.1 < next.1) = true) {a off : Int} (hf : pairs.find? (·.1 == kk.toInt) = some (a, off)) (ho : 0 ≤ (pc : Int) + off) (hp : ((pc : Int) + off).toNat = pc') (k : G (T.setTop (mkF m pc' Ls rest))) : G (T.setTop (mkF m pc Ls (.int kk :: rest))) := by
  subst hp
  refine hG _ _ (fun t ht => ?_) k
  exact X.lookupswitchHit hx (g := mkF m pc Ls (.int kk :: rest)) rfl rfl hd hs hf ho t ht
theorem g_copy (hG : Cl p e below G) (X : Stand p l e R s m args below meth c T locs cells slots) (hx : p.tables.exec = Jvm.exec) (hZ : Z.Warmed39 s.vm) {own : String} {index : Nat} (hown : s.vm.findClass own = some m.cls)
    (w1 : (Jvm.Cond.methodLink own index Jvm.Stand.acN).before a0 Z = true) (w2 : (Jvm.Cond.native Jvm.Stand.acN).before a0 Z = true) (w3 : (Jvm.Cond.static Jvm.Stand.acN).before a0 Z = true) (w4 : (Jvm.Cond.initialized "java/lang/System").before a0 Z = true) (eT : T.heap = h)
    {a b : Addr} {ty : FieldType} {n z sp dp nn : Int32} {vs vd vr : List Value} (A : AV Z h a ty n vs) (B : AV Z h b ty z vd) (hr : refKind ty = false) (h1 : ¬ sp < 0) (h2 : ¬ dp < 0) (h3 : ¬ nn < 0) (h4 : sp.toNatClampNeg + nn.toNatClampNeg ≤ n.toNatClampNeg) (h5 : dp.toNatClampNeg + nn.toNatClampNeg ≤ z.toNatClampNeg)
    (hvr : vd.take dp.toNatClampNeg ++ ((List.range nn.toNatClampNeg).map fun i => vs.getD (sp.toNatClampNeg + i) (defaultValue ty)) ++ vd.drop (dp.toNatClampNeg + nn.toNatClampNeg) = vr) {n0 : Nat} (N0 : Fr n0 locs) (ge : n0 ≤ b) (hsz : Ls.size = c.maxLocals) (hd : decode c.code pc = .ok (.invokestatic index, 3)) (hfr : 1 ≤ R.frames) (W : Nat) (hW : (rest.map fun v => v.category).sum ≤ W) (hlo : W + (nativeFrameWords "java/lang/System" "arraycopy" 5 + 11) ≤ R.locals) (hp : pc' = pc + 3)
    (k : ∀ T' h' L, Stand p l e R s m args below meth c T' L cells slots → T'.heap = h' → Fr n0 L → Keep h h' [b] → AV Z h' b ty z vr → G (T'.setTop (mkF m pc' Ls rest))) : G (T.setTop (mkF m pc Ls (.int nn :: .int dp :: .ref b :: .int sp :: .ref a :: rest))) := by
  subst hp hvr
  obtain ⟨kA, A, qa⟩ := A
  obtain ⟨kB, B, qb⟩ := B
  obtain ⟨T', h', L', X', e', N', K', V', st⟩ := cpA X hx hZ hown w1 w2 w3 w4 eT A B (Or.inl ⟨rfl, hr⟩) h1 h2 h3 h4 h5 rfl (by omega) N0 ge (g := mkF m pc Ls (.int nn :: .int dp :: .ref b :: .int sp :: .ref a :: rest)) rfl hsz rfl hd hfr (W := W) (by show 2 * 0 + _ ≤ _; omega) hlo
  exact hG _ _ st (k T' h' L' X' e' N' K' ⟨kB, V', by simp only [List.length_append, List.length_take, List.length_map, List.length_range, List.length_drop]; omega⟩)
theorem Sta.keep0 {h' : Heap} {C n d : String} {v : Value} (F : Sta Z h C n d v) (K : Keep h h' []) : Sta Z h' C n d v := by
  obtain ⟨cf, i, k, f, st, cell, h1, h2, h3, h4, h5, r⟩ := F
  exact ⟨cf, i, k, f, st, cell, h1, h2, h3, h4, K.2.1 _ _ h5 (fun q => nomatch q), r⟩
end New
end Jvm.OwnKit
namespace Jvm.OwnFl
open Jvm.FP.Core
theorem two_ne : (2 : Rat) ≠ 0 := by decide
theorem p2pos (q : Int) : (0 : Rat) < (2 : Rat) ^ q := Rat.zpow_pos (by decide)
theorem p2add (a b : Int) : (2 : Rat) ^ (a + b) = (2 : Rat) ^ a * (2 : Rat) ^ b := Rat.zpow_add two_ne a b
theorem p2nat (n : Nat) : (2 : Rat) ^ (n : Int) = ((2 ^ n : Nat) : Rat) := by rw [Rat.zpow_natCast, Rat.natCast_pow]; rfl
theorem p2le {a b : Int} (h : a ≤ b) : (2 : Rat) ^ a ≤ (2 : Rat) ^ b := by
  obtain ⟨n, hn⟩ : ∃ n : Nat, b = a + n := ⟨(b - a).toNat, by omega⟩
  subst hn
  rw [p2add, p2nat]
  have h1 : (1 : Rat) ≤ ((2 ^ n : Nat) : Rat) := by
    have q : ((1 : Nat) : Rat) ≤ ((2 ^ n : Nat) : Rat) := Rat.natCast_le_natCast.mpr (Nat.two_pow_pos n)
    exact q
  have q := Rat.mul_le_mul_of_nonneg_left h1 (Rat.le_of_lt (p2pos a))
  rwa [Rat.mul_one] at q
theorem p2lt {a b : Int} (h : (2 : Rat) ^ a < (2 : Rat) ^ b) : a < b := by
  by_cases q : a < b
  · exact q
  · exact absurd (p2le (Int.not_lt.mp q)) (Rat.not_le.mpr h)
/-- the value of a datum (nought for what is no number) -/
def rvd : Datum → Rat
  | .fin s c q => ((signed s c : Int) : Rat) * (2 : Rat) ^ q
  | _ => 0
/-- v is a finite double, of the value x -/
def DV (v : UInt64) (x : Rat) : Prop := ∃ s c q, val64 v = .fin s c q ∧ rvd (.fin s c q) = x
theorem DV.fin {v : UInt64} {x : Rat} (h : DV v x) : Jvm.Free.Fl.Fin64 v := by
  obtain ⟨s, c, q, h, -⟩ := h
  exact Jvm.Free.Fl.fin64_core.mpr ⟨s, c, q, h⟩
theorem DV.noNaN {v : UInt64} {x : Rat} (h : DV v x) : Jvm.Free.Fl.NoNaN64 v := h.fin.noNaN
theorem DV.uniq {v : UInt64} {x y : Rat} (h : DV v x) (g : DV v y) : x = y := by
  obtain ⟨s, c, q, h1, h2⟩ := h
  obtain ⟨t, d, r, g1, g2⟩ := g
  cases h1.symm.trans g1
  exact h2.symm.trans g2
theorem units_val (s : Bool) (c : Nat) {q e : Int} (h : e ≤ q) : ((signed s (inUnits c q e) : Int) : Rat) * (2 : Rat) ^ e = ((signed s c : Int) : Rat) * (2 : Rat) ^ q := by
  obtain ⟨n, rfl⟩ : ∃ n : Nat, q = e + n := ⟨(q - e).toNat, by omega⟩
  unfold inUnits
  rw [signed_mul, Rat.intCast_mul, Rat.mul_assoc, show (e + (n : Int) - e).toNat = n by omega, p2add, p2nat, Rat.mul_comm ((2 : Rat) ^ e)]
  rfl
theorem dcmp_of {a b : UInt64} {x y : Rat} (ha : DV a x) (hb : DV b y) : dcmp a b = some (if x < y then .lt else if x = y then .eq else .gt) := by
  obtain ⟨s, c, q, h1, rfl⟩ := ha
  obtain ⟨t, d, r, h2, rfl⟩ := hb
  show order (val64 a) (val64 b) = _
  rw [h1, h2]
  show some (compare (signed s (inUnits c q (min q r))) (signed t (inUnits d r (min q r)))) = some (if ((signed s c : Int) : Rat) * (2 : Rat) ^ q < ((signed t d : Int) : Rat) * (2 : Rat) ^ r then .lt else if ((signed s c : Int) : Rat) * (2 : Rat) ^ q = ((signed t d : Int) : Rat) * (2 : Rat) ^ r then .eq else .gt)
  rw [compare_ite, ← units_val s c (Int.min_le_left q r), ← units_val t d (Int.min_le_right q r)]
  generalize signed s (inUnits c q (min q r)) = i
  generalize signed t (inUnits d r (min q r)) = j
  have hu := p2pos (min q r)
  generalize (2 : Rat) ^ (min q r) = u at hu
  have k1 : ∀ i j : Int, ((i : Rat) * u < (j : Rat) * u) ↔ i < j := fun i j => (Rat.mul_lt_mul_right hu).trans Rat.intCast_lt_intCast
  have k2 : ((i : Rat) * u = (j : Rat) * u) ↔ i = j := by
    constructor
    · intro h
      rcases Int.lt_trichotomy i j with g | g | g
      · have := (k1 i j).mpr g; rw [h] at this; exact absurd this Rat.lt_irrefl
      · exact g
      · have := (k1 j i).mpr g; rw [h] at this; exact absurd this Rat.lt_irrefl
    · intro h; rw [h]
  simp only [k1, k2]
theorem dcmp_lt {a b : UInt64} {x y : Rat} (ha : DV a x) (hb : DV b y) (h : x < y) : Jvm.FP.dcmp a b = some .lt := by
  show dcmp a b = _
  rw [dcmp_of ha hb, if_pos h]
theorem dcmp_eq {a b : UInt64} {x y : Rat} (ha : DV a x) (hb : DV b y) (h : x = y) : Jvm.FP.dcmp a b = some .eq := by
  show dcmp a b = _
  rw [dcmp_of ha hb, if_neg (by rw [h]; exact Rat.lt_irrefl), if_pos h]
theorem dcmp_gt {a b : UInt64} {x y : Rat} (ha : DV a x) (hb : DV b y) (h : y < x) : Jvm.FP.dcmp a b = some .gt := by
  show dcmp a b = _
  rw [dcmp_of ha hb, if_neg (by rw [Rat.not_lt]; exact Rat.le_of_lt h), if_neg (Rat.ne_of_gt h)]
theorem dcmp_le {a b : UInt64} {x y : Rat} (ha : DV a x) (hb : DV b y) (h : x ≤ y) : Jvm.FP.dcmp a b = some .lt ∨ Jvm.FP.dcmp a b = some .eq := by
  by_cases q : x = y
  · exact Or.inr (dcmp_eq ha hb q)
  · exact Or.inl (dcmp_lt ha hb (Rat.lt_of_le_of_ne h q))
theorem dcmp_ge {a b : UInt64} {x y : Rat} (ha : DV a x) (hb : DV b y) (h : y ≤ x) : Jvm.FP.dcmp a b = some .gt ∨ Jvm.FP.dcmp a b = some .eq := by
  by_cases q : x = y
  · exact Or.inr (dcmp_eq ha hb q)
  · exact Or.inl (dcmp_gt ha hb (Rat.lt_of_le_of_ne h (fun z => q z.symm)))
/-- the rounding of a positive ratio, in full -/
theorem rr_spec (s : Bool) {A B : Nat} (e : Int) (hA : 0 < A) (hB : 0 < B) {x : Rat} (hx : x * (B : Rat) = (A : Rat) * (2 : Rat) ^ e) (hlt : x < (2 : Rat) ^ (1023 : Int)) :
    ∃ c q, roundRatio b64 s A B e = .fin s c q ∧ ∃ (m : Nat) (r : Int), (c : Rat) * (2 : Rat) ^ q = (m : Rat) * (2 : Rat) ^ r ∧ -1074 ≤ r ∧ m ≤ 2 ^ 53 ∧ 2 * x ≤ (2 * (m : Rat) + 1) * (2 : Rat) ^ r ∧ 2 * (m : Rat) * (2 : Rat) ^ r ≤ 2 * x + (2 : Rat) ^ r ∧
      x < 9007199254740992 * (2 : Rat) ^ r ∧ (r = -1074 ∨ 4503599627370496 * (2 : Rat) ^ r ≤ x) := by
  have g1 := quantum_ge b64 A B e
  have g2 := nearest_units_le (f := b64) hA hB e
  have g3 := quantum_not_below (f := b64) hA hB e
  have g4 := quantum_below (f := b64) hA hB e
  unfold roundRatio
  rw [if_neg (by omega : ¬ A = 0)]
  generalize quantum b64 A B e = r at *
  unfold roundAt
  have hD := unitsDen_pos hB e r
  obtain ⟨n1, n2, -⟩ := nearest_spec (unitsNum A e r) (unitsDen B e r) hD
  have key : x * (unitsDen B e r : Rat) = (unitsNum A e r : Rat) * (2 : Rat) ^ r := by
    unfold unitsDen unitsNum
    rw [Rat.natCast_mul, Rat.natCast_mul, ← Rat.mul_assoc, hx, ← p2nat, ← p2nat, Rat.mul_assoc, Rat.mul_assoc, ← p2add, ← p2add, show e + ((r - e).toNat : Int) = ((e - r).toNat : Int) + r by omega]
  have b1 : unitsNum A e r < 2 ^ 53 * unitsDen B e r := (units_below A B e r 53).mpr g4
  have b2 : r = -1074 ∨ 2 ^ 52 * unitsDen B e r ≤ unitsNum A e r := by
    rcases g3 with g3 | g3
    · exact Or.inl g3
    · exact Or.inr (Nat.le_of_not_lt fun q => g3 ((units_below A B e r 52).mp q))
  have hr0 : -1074 ≤ r := g1
  have hm53 : nearest (unitsNum A e r) (unitsDen B e r) ≤ 2 ^ 53 := g2
  clear g1 g2 g3 g4
  generalize nearest (unitsNum A e r) (unitsDen B e r) = m at *
  generalize unitsNum A e r = N at *
  generalize unitsDen B e r = D at *
  have hu := p2pos r
  have hDp : (0 : Rat) < (D : Rat) := Rat.natCast_pos.mpr hD
  have n1' : 2 * (N : Rat) ≤ (2 * (m : Rat) + 1) * (D : Rat) := by
    have q := Rat.natCast_le_natCast.mpr n1
    simpa [Rat.natCast_mul, Rat.natCast_add] using q
  have n2' : 2 * (m : Rat) * (D : Rat) ≤ 2 * (N : Rat) + (D : Rat) := by
    have q := Rat.natCast_le_natCast.mpr n2
    simpa [Rat.natCast_mul, Rat.natCast_add] using q
  have b1' : (N : Rat) < 9007199254740992 * (D : Rat) := by
    have q := Rat.natCast_lt_natCast.mpr b1
    simpa [Rat.natCast_mul] using q
  have b2' : r = -1074 ∨ 4503599627370496 * (D : Rat) ≤ (N : Rat) := by
    rcases b2 with q | q
    · exact Or.inl q
    · right
      have q := Rat.natCast_le_natCast.mpr q
      simpa [Rat.natCast_mul] using q
  have f1 : 2 * x ≤ (2 * (m : Rat) + 1) * (2 : Rat) ^ r := by
    refine Rat.le_of_mul_le_mul_right (c := (D : Rat)) ?_ hDp
    have q := Rat.mul_le_mul_of_nonneg_right n1' (Rat.le_of_lt hu)
    generalize (2 : Rat) ^ r = u at *
    grind
  have f2 : 2 * (m : Rat) * (2 : Rat) ^ r ≤ 2 * x + (2 : Rat) ^ r := by
    refine Rat.le_of_mul_le_mul_right (c := (D : Rat)) ?_ hDp
    have q := Rat.mul_le_mul_of_nonneg_right n2' (Rat.le_of_lt hu)
    generalize (2 : Rat) ^ r = u at *
    grind
  have f3 : x < 9007199254740992 * (2 : Rat) ^ r := by
    refine Rat.lt_of_mul_lt_mul_right (c := (D : Rat)) ?_ (Rat.le_of_lt hDp)
    have q := Rat.mul_lt_mul_of_pos_right b1' hu
    generalize (2 : Rat) ^ r = u at *
    grind
  have f4 : r = -1074 ∨ 4503599627370496 * (2 : Rat) ^ r ≤ x := by
    rcases b2' with q | q
    · exact Or.inl q
    · right
      refine Rat.le_of_mul_le_mul_right (c := (D : Rat)) ?_ hDp
      have q := Rat.mul_le_mul_of_nonneg_right q (Rat.le_of_lt hu)
      generalize (2 : Rat) ^ r = u at *
      grind
  have hr : r ≤ 970 := by
    rcases f4 with q | q
    · omega
    · have q1 : (2 : Rat) ^ ((52 : Int) + r) < (2 : Rat) ^ (1023 : Int) := by
        rw [p2add, show (2 : Rat) ^ (52 : Int) = 4503599627370496 by decide +kernel]
        exact Std.lt_of_le_of_lt q hlt
      have := p2lt q1
      omega
  have hqm : b64.qmax = 971 := by decide
  by_cases hm : m < 2 ^ 53
  · refine ⟨m, r, ?_, m, r, rfl, hr0, hm53, f1, f2, f3, f4⟩
    show (if m < 2 ^ 53 then bound b64 s m r else _) = _
    rw [if_pos hm]
    unfold bound
    rw [if_pos (by omega)]
  · have hm : m = 2 ^ 53 := by omega
    refine ⟨2 ^ 52, r + 1, ?_, m, r, ?_, hr0, hm53, f1, f2, f3, f4⟩
    · show (if m < 2 ^ 53 then bound b64 s m r else bound b64 s b64.tails (r + 1)) = _
      rw [if_neg (by omega)]
      unfold bound
      rw [if_pos (by omega)]
      rfl
    · subst hm
      rw [p2add, Rat.zpow_one]
      generalize (2 : Rat) ^ r = u
      have e1 : ((2 ^ 52 : Nat) : Rat) = 4503599627370496 := by decide +kernel
      have e2 : ((2 ^ 53 : Nat) : Rat) = 9007199254740992 := by decide +kernel
      rw [e1, e2]
      grind
/-- the rounding of a rational number to a double's precision -/
def RR (x : Rat) : Rat := rvd (roundRatio b64 (decide (x < 0)) x.num.natAbs x.den 0)
theorem rat_num (x : Rat) : x * (x.den : Rat) = (x.num : Rat) := by
  have h : x = (x.num : Rat) / ((x.den : Int) : Rat) := by rw [← Rat.divInt_eq_div, Rat.num_divInt_den]
  have hd : (((x.den : Int)) : Rat) ≠ 0 := by
    intro q
    have := Rat.intCast_eq_zero_iff.mp q
    have := x.den_nz
    omega
  have q := Rat.div_mul_cancel (a := (x.num : Rat)) hd
  rw [← h] at q
  exact q
theorem signed_rat (s : Bool) (c : Nat) : ((signed s c : Int) : Rat) = if s then -(c : Rat) else (c : Rat) := by cases s <;> simp [signed, Rat.intCast_natCast]
/-- rounding goes by the value -/
theorem rr_congr {s : Bool} {A B : Nat} {e : Int} {x : Rat} (hB : 0 < B) (hx : x * (B : Rat) = ((signed s A : Int) : Rat) * (2 : Rat) ^ e) (hA : A ≠ 0) : roundRatio b64 s A B e = roundRatio b64 (decide (x < 0)) x.num.natAbs x.den 0 := by
  have hu := p2pos e
  have hBp : (0 : Rat) < (B : Rat) := Rat.natCast_pos.mpr hB
  have hAp : (0 : Rat) < (A : Rat) := Rat.natCast_pos.mpr (by omega)
  have hAu := Rat.mul_pos hAp hu
  have hs : decide (x < 0) = s := by
    rw [signed_rat] at hx
    cases s
    · simp only [Bool.false_eq_true, if_false] at hx
      rw [decide_eq_false_iff_not]
      intro q
      have := (Rat.mul_neg_iff_of_pos_right hBp).mpr q
      rw [hx] at this
      grind
    · simp only [if_true] at hx
      rw [decide_eq_true_iff]
      refine (Rat.mul_neg_iff_of_pos_right hBp).mp ?_
      rw [hx]
      grind
  rw [hs]
  refine roundRatio_congr hB x.den_pos ?_
  -- magnitudes
  have h1 := rat_num x
  have h2 : (x.num : Rat) * (B : Rat) = ((signed s A : Int) : Rat) * (2 : Rat) ^ e * (x.den : Rat) := by rw [← h1, ← hx]; grind
  have h3 : (x.num : Rat) * (B : Rat) * (2 : Rat) ^ (((0 - e).toNat : Nat) : Int) = ((signed s A : Int) : Rat) * (x.den : Rat) * (2 : Rat) ^ (((e - 0).toNat : Nat) : Int) := by
    rw [h2, Rat.mul_assoc, Rat.mul_assoc, Rat.mul_comm ((2 : Rat) ^ e), Rat.mul_assoc, ← p2add, ← Rat.mul_assoc]
    rw [show (((0 - e).toNat : Nat) : Int) + e = (((e - 0).toNat : Nat) : Int) by omega]
  rw [p2nat, p2nat] at h3
  have h4 : x.num * (B : Int) * ((2 ^ (0 - e).toNat : Nat) : Int) = signed s A * (x.den : Int) * ((2 ^ (e - 0).toNat : Nat) : Int) := by
    refine Rat.intCast_inj.mp ?_
    rw [Rat.intCast_mul, Rat.intCast_mul, Rat.intCast_mul, Rat.intCast_mul]
    exact h3
  have h5 := congrArg Int.natAbs h4
  simp only [Int.natAbs_mul, Int.natAbs_natCast, natAbs_signed] at h5
  exact h5.symm
theorem rvd_rr {s : Bool} {A B : Nat} {e : Int} {x : Rat} (hB : 0 < B) (hx : x * (B : Rat) = ((signed s A : Int) : Rat) * (2 : Rat) ^ e) : rvd (roundRatio b64 s A B e) = RR x := by
  by_cases hA : A = 0
  · subst hA
    have hx0 : x = 0 := by
      rw [signed_zero] at hx
      have hBp : (B : Rat) ≠ 0 := fun q => by have := Rat.natCast_eq_zero_iff.mp q; omega
      rcases Rat.mul_eq_zero.mp (hx.trans (by rw [show ((0 : Int) : Rat) = 0 from rfl, Rat.zero_mul])) with q | q
      · exact q
      · exact absurd q hBp
    subst hx0
    unfold RR roundRatio
    rw [if_pos rfl, if_pos (by decide)]
    show ((signed s 0 : Int) : Rat) * _ = ((signed _ 0 : Int) : Rat) * _
    rw [signed_zero, signed_zero]
  · rw [rr_congr hB hx hA]; rfl
theorem RR_neg (x : Rat) : RR (-x) = - RR x := by
  have h := rat_num x
  have h1 : rvd (roundRatio b64 (!decide (x < 0)) x.num.natAbs x.den 0) = RR (-x) := by
    refine rvd_rr x.den_pos ?_
    rw [Rat.zpow_zero, Rat.mul_one, Rat.neg_mul, h]
    have : (signed (!decide (x < 0)) x.num.natAbs : Int) = - x.num := by
      by_cases q : x < 0
      · have : x.num < 0 := by
          rw [← Int.not_le, Rat.num_nonneg, Rat.not_le]; exact q
        simp [signed, q]; omega
      · have : 0 ≤ x.num := by rw [Rat.num_nonneg]; exact Rat.not_lt.mp q
        simp [signed, q]; omega
    rw [this]; rfl
  rw [← h1, ← negate_roundRatio]
  unfold RR
  generalize roundRatio b64 (decide (x < 0)) x.num.natAbs x.den 0 = d
  cases d with
  | nan => simp [negate, rvd]
  | inf s => simp [negate, rvd]
  | fin s c q =>
    show ((signed (!s) c : Int) : Rat) * _ = -(((signed s c : Int) : Rat) * _)
    rw [← Rat.neg_mul]
    congr 1
    cases s <;> simp [signed]
/-- what is known of a rounding y of x -/
def Rsp (x y : Rat) : Prop := ∃ (m r : Int), y = (m : Rat) * (2 : Rat) ^ r ∧ -1074 ≤ r ∧ m.natAbs ≤ 2 ^ 53 ∧ 2 * x ≤ (2 * (m : Rat) + 1) * (2 : Rat) ^ r ∧ (2 * (m : Rat) - 1) * (2 : Rat) ^ r ≤ 2 * x ∧
    x < 9007199254740992 * (2 : Rat) ^ r ∧ -(9007199254740992 * (2 : Rat) ^ r) < x ∧ (r = -1074 ∨ 4503599627370496 * (2 : Rat) ^ r ≤ x ∨ x ≤ -(4503599627370496 * (2 : Rat) ^ r))
theorem Rsp.neg {x y : Rat} (h : Rsp x y) : Rsp (-x) (-y) := by
  obtain ⟨m, r, h1, h2, h3, h4, h5, h6, h7, h8⟩ := h
  have hu := p2pos r
  refine ⟨-m, r, ?_, h2, by omega, ?_, ?_, ?_, ?_, ?_⟩ <;> (try rw [Rat.intCast_neg]) <;> generalize (2 : Rat) ^ r = u at * <;> grind
theorem big_lt : (1267650600228229401496703205376 : Rat) < (2 : Rat) ^ (1023 : Int) := by
  have h : (2 : Rat) ^ (100 : Int) < (2 : Rat) ^ (1023 : Int) := by
    refine Rat.lt_of_le_of_ne (p2le (by decide)) fun q => ?_
    have h2 : (2 : Rat) ^ (1023 : Int) = (2 : Rat) ^ (100 : Int) * (2 : Rat) ^ (923 : Int) := by rw [← p2add]; rfl
    have h3 : (2 : Rat) ^ (1 : Int) ≤ (2 : Rat) ^ (923 : Int) := p2le (by decide)
    have h4 := p2pos 100
    rw [Rat.zpow_one] at h3
    have h5 := Rat.mul_le_mul_of_nonneg_left h3 (Rat.le_of_lt h4)
    grind
  have e : (2 : Rat) ^ (100 : Int) = 1267650600228229401496703205376 := by decide +kernel
  rw [← e]; exact h
theorem RR_pos {x : Rat} (h0 : 0 < x) (h : x ≤ 1267650600228229401496703205376) : Rsp x (RR x) ∧ ∃ c q, roundRatio b64 (decide (x < 0)) x.num.natAbs x.den 0 = .fin false c q := by
  have hn : 0 < x.num := by
    have : 0 ≤ x.num := by rw [Rat.num_nonneg]; exact Rat.le_of_lt h0
    have : x.num ≠ 0 := fun q => by rw [Rat.num_eq_zero] at q; rw [q] at h0; exact absurd h0 Rat.lt_irrefl
    omega
  have hd : decide (x < 0) = false := by rw [decide_eq_false_iff_not, Rat.not_lt]; exact Rat.le_of_lt h0
  have e1 : ((x.num.natAbs : Nat) : Rat) = (x.num : Rat) := by
    have : ((x.num.natAbs : Nat) : Int) = x.num := by omega
    rw [← Rat.intCast_natCast, this]
  obtain ⟨c, q, hr, m, r, f0, f1, f2, f3, f4, f5, f6⟩ := rr_spec false (A := x.num.natAbs) (B := x.den) 0 (by omega) x.den_pos (x := x) (by rw [Rat.zpow_zero, Rat.mul_one, e1]; exact rat_num x) (Std.lt_of_le_of_lt h big_lt)
  refine ⟨⟨m, r, ?_, f1, by omega, ?_, ?_, ?_, ?_, ?_⟩, c, q, by rw [hd]; exact hr⟩
  · unfold RR
    rw [hd, hr]
    show ((signed false c : Int) : Rat) * _ = _
    rw [← Rat.intCast_natCast] at f0
    exact f0
  all_goals
    have hu := p2pos r
    have e2 : ((m : Int) : Rat) = (m : Rat) := rfl
    rw [e2] at *
    generalize (2 : Rat) ^ r = u at *
    grind
theorem RR_zero : RR 0 = 0 := by
  unfold RR roundRatio
  rw [if_pos (by decide)]
  show ((signed _ 0 : Int) : Rat) * _ = 0
  rw [signed_zero]
  exact Rat.zero_mul _
theorem Rsp.zero : Rsp 0 0 := by
  have hu := p2pos (-1074)
  refine ⟨0, -1074, ?_, by decide, by decide, ?_, ?_, ?_, ?_, Or.inl rfl⟩ <;> generalize (2 : Rat) ^ (-1074 : Int) = u at * <;> (try rw [show ((0 : Int) : Rat) = 0 from rfl]) <;> grind
theorem RR_spec {x : Rat} (h1 : -1267650600228229401496703205376 ≤ x) (h2 : x ≤ 1267650600228229401496703205376) : Rsp x (RR x) := by
  by_cases q : 0 < x
  · exact (RR_pos q h2).1
  · by_cases q2 : x = 0
    · subst q2; rw [RR_zero]; exact Rsp.zero
    · have q3 : 0 < -x := by grind
      have g := (RR_pos q3 (by grind)).1.neg
      rw [RR_neg, Rat.neg_neg, Rat.neg_neg] at g
      exact g
theorem DV.of_rr {v : UInt64} {s : Bool} {A B : Nat} {e : Int} {x : Rat} (hv : val64 v = roundRatio b64 s A B e) (hB : 0 < B) (hx : x * (B : Rat) = ((signed s A : Int) : Rat) * (2 : Rat) ^ e) (h1 : -1267650600228229401496703205376 ≤ x) (h2 : x ≤ 1267650600228229401496703205376) : DV v (RR x) := by
  have hr := rvd_rr hB hx
  by_cases hA : A = 0
  · subst hA
    refine ⟨s, 0, b64.qmin, by rw [hv]; unfold roundRatio; rw [if_pos rfl], ?_⟩
    rw [← hr]; unfold roundRatio; rw [if_pos rfl]
  · obtain ⟨c, q, h, -⟩ := rr_spec s (A := A) (B := B) e (by omega) hB (x := if s then -x else x) (by rw [signed_rat] at hx; cases s <;> simp at hx ⊢ <;> grind) (Std.lt_of_le_of_lt (by cases s <;> simp <;> grind) big_lt)
    exact ⟨s, c, q, by rw [hv, h], by rw [← hr, h]⟩
theorem dadd_DV {a b : UInt64} {x y : Rat} (ha : DV a x) (hb : DV b y) (h1 : -1267650600228229401496703205376 ≤ x + y) (h2 : x + y ≤ 1267650600228229401496703205376) : DV (Jvm.FP.dadd a b) (RR (x + y)) := by
  obtain ⟨s, c, q, e1, rfl⟩ := ha
  obtain ⟨t, d, r, e2, rfl⟩ := hb
  refine DV.of_rr (s := sumSign s t (sumUnits s c q t d r (min q r))) (A := (sumUnits s c q t d r (min q r)).natAbs) (B := 1) (e := min q r) ?_ (by decide) ?_ h1 h2
  · show val64 (dadd a b) = _
    rw [val64_dadd, e1, e2]; rfl
  · rw [signed_sumSign, show ((1 : Nat) : Rat) = 1 from rfl, Rat.mul_one]
    unfold sumUnits
    rw [Rat.intCast_add, Rat.add_mul, units_val s c (Int.min_le_left q r), units_val t d (Int.min_le_right q r)]; rfl
theorem signed_not (t : Bool) (d : Nat) : (signed (!t) d : Int) = - signed t d := by cases t <;> simp [signed]
theorem dsub_DV {a b : UInt64} {x y : Rat} (ha : DV a x) (hb : DV b y) (h1 : -1267650600228229401496703205376 ≤ x - y) (h2 : x - y ≤ 1267650600228229401496703205376) : DV (Jvm.FP.dsub a b) (RR (x - y)) := by
  obtain ⟨s, c, q, e1, rfl⟩ := ha
  obtain ⟨t, d, r, e2, rfl⟩ := hb
  refine DV.of_rr (s := sumSign s (!t) (sumUnits s c q (!t) d r (min q r))) (A := (sumUnits s c q (!t) d r (min q r)).natAbs) (B := 1) (e := min q r) ?_ (by decide) ?_ h1 h2
  · show val64 (dsub a b) = _
    rw [val64_dsub, e1, e2]; rfl
  · rw [signed_sumSign, show ((1 : Nat) : Rat) = 1 from rfl, Rat.mul_one]
    unfold sumUnits
    rw [Rat.intCast_add, Rat.add_mul, units_val s c (Int.min_le_left q r), units_val (!t) d (Int.min_le_right q r), signed_not, Rat.intCast_neg, Rat.neg_mul, Rat.sub_eq_add_neg]; rfl
theorem dmul_DV {a b : UInt64} {x y : Rat} (ha : DV a x) (hb : DV b y) (h1 : -1267650600228229401496703205376 ≤ x * y) (h2 : x * y ≤ 1267650600228229401496703205376) : DV (Jvm.FP.dmul a b) (RR (x * y)) := by
  obtain ⟨s, c, q, e1, rfl⟩ := ha
  obtain ⟨t, d, r, e2, rfl⟩ := hb
  refine DV.of_rr (s := s != t) (A := c * d) (B := 1) (e := q + r) ?_ (by decide) ?_ h1 h2
  · show val64 (dmul a b) = _
    rw [val64_dmul, e1, e2]; rfl
  · rw [signed_xor, show ((1 : Nat) : Rat) = 1 from rfl, Rat.mul_one, Rat.intCast_mul, p2add]
    show (_ * _) * (_ * _) = _
    generalize (2 : Rat) ^ q = u
    generalize (2 : Rat) ^ r = w
    grind
theorem ddiv_DV {a b : UInt64} {x y : Rat} (ha : DV a x) (hb : DV b y) (hy : y ≠ 0) (h1 : -1267650600228229401496703205376 ≤ x / y) (h2 : x / y ≤ 1267650600228229401496703205376) : DV (Jvm.FP.ddiv a b) (RR (x / y)) := by
  obtain ⟨s, c, q, e1, rfl⟩ := ha
  obtain ⟨t, d, r, e2, rfl⟩ := hb
  have hd : d ≠ 0 := by
    rintro rfl
    apply hy
    show ((signed t 0 : Int) : Rat) * _ = 0
    rw [signed_zero]; exact Rat.zero_mul _
  refine DV.of_rr (s := s != t) (A := c) (B := d) (e := q - r) ?_ (by omega) ?_ h1 h2
  · show val64 (ddiv a b) = _
    rw [val64_ddiv, e1, e2]
    show (if d = 0 then _ else _) = _
    rw [if_neg hd]
  · have hq : (2 : Rat) ^ q = (2 : Rat) ^ (q - r) * (2 : Rat) ^ r := by rw [← p2add, show q - r + r = q by omega]
    have hS : ((signed s c : Int) : Rat) * (d : Rat) = ((signed (s != t) c : Int) : Rat) * ((signed t d : Int) : Rat) := by
      rw [signed_rat, signed_rat, signed_rat]
      cases s <;> cases t <;> simp <;> grind
    have hm := Rat.div_mul_cancel (a := rvd (.fin s c q)) hy
    have hyn := hy
    have hv1 : rvd (.fin s c q) = ((signed s c : Int) : Rat) * ((2 : Rat) ^ (q - r) * (2 : Rat) ^ r) := by rw [← hq]; rfl
    have hv2 : rvd (.fin t d r) = ((signed t d : Int) : Rat) * (2 : Rat) ^ r := rfl
    generalize rvd (.fin s c q) / rvd (.fin t d r) = z at *
    rw [hv1, hv2] at hm
    rw [hv2] at hyn
    have hst : ((signed t d : Int) : Rat) ≠ 0 := fun g => hyn (by rw [g]; exact Rat.zero_mul _)
    have hr := p2pos r
    generalize (2 : Rat) ^ (q - r) = u at *
    generalize (2 : Rat) ^ r = w at *
    generalize ((signed s c : Int) : Rat) = X at *
    generalize ((signed (s != t) c : Int) : Rat) = S at *
    generalize ((signed t d : Int) : Rat) = Y at *
    generalize (d : Rat) = D at *
    -- hm : z * (Y * w) = X * (u * w); hS : X * D = S * Y; goal : z * D = S * u
    have hw : w ≠ 0 := Rat.ne_of_gt hr
    have k1 : z * Y = X * u := by
      have : (z * Y - X * u) * w = 0 := by grind
      rcases Rat.mul_eq_zero.mp this with g | g
      · grind
      · exact absurd g hw
    have k2 : (z * D - S * u) * Y = 0 := by grind
    rcases Rat.mul_eq_zero.mp k2 with g | g
    · grind
    · exact absurd g hst
theorem i2d_RR (n : Int32) : DV (Jvm.FP.i2d n) (RR (n.toInt : Rat)) := by
  have h := n.le_toInt
  have h' := n.toInt_lt
  refine DV.of_rr (s := decide (n.toInt < 0)) (A := n.toInt.natAbs) (B := 1) (e := 0) ?_ (by decide) ?_ ?_ ?_
  · show val64 (i2d n) = _
    rw [val64_i2d]; rfl
  · rw [Rat.zpow_zero, Rat.mul_one, show ((1 : Nat) : Rat) = 1 from rfl, Rat.mul_one]
    congr 1
    by_cases q : n.toInt < 0 <;> simp [signed, q] <;> omega
  · have := Rat.intCast_le_intCast.mpr h; grind
  · have := Rat.intCast_le_intCast.mpr (Int.le_of_lt h'); grind
theorem l2d_RR (n : Int64) : DV (Jvm.FP.l2d n) (RR (n.toInt : Rat)) := by
  have h := n.le_toInt
  have h' := n.toInt_lt
  refine DV.of_rr (s := decide (n.toInt < 0)) (A := n.toInt.natAbs) (B := 1) (e := 0) ?_ (by decide) ?_ ?_ ?_
  · show val64 (l2d n) = _
    rw [val64_l2d]; rfl
  · rw [Rat.zpow_zero, Rat.mul_one, show ((1 : Nat) : Rat) = 1 from rfl, Rat.mul_one]
    congr 1
    by_cases q : n.toInt < 0 <;> simp [signed, q] <;> omega
  · have := Rat.intCast_le_intCast.mpr h; grind
  · have := Rat.intCast_le_intCast.mpr (Int.le_of_lt h'); grind
/-- a rational number that a double can hold (no overflow asked) -/
def Rp (z : Rat) : Prop := ∃ m k : Int, z = (m : Rat) * (2 : Rat) ^ k ∧ m.natAbs ≤ 2 ^ 53 ∧ -1074 ≤ k
theorem abs_le {m : Int} (h : m.natAbs ≤ 2 ^ 53) : -(9007199254740992 : Rat) ≤ (m : Rat) ∧ (m : Rat) ≤ 9007199254740992 := by
  have h1 : (-9007199254740992 : Int) ≤ m ∧ m ≤ 9007199254740992 := by omega
  exact ⟨by have := Rat.intCast_le_intCast.mpr h1.1; simpa using this, by have := Rat.intCast_le_intCast.mpr h1.2; simpa using this⟩
/-- a number that can be held is a multiple of the quantum, or no greater than the quantum's least -/
theorem rp_mul {z : Rat} {r : Int} (h : Rp z) : (∃ j : Int, z = (j : Rat) * (2 : Rat) ^ r) ∨ (-1074 < r ∧ z ≤ 4503599627370496 * (2 : Rat) ^ r ∧ -(4503599627370496 * (2 : Rat) ^ r) ≤ z) := by
  obtain ⟨m, k, hz, hm, hk⟩ := h
  by_cases hkr : r ≤ k
  · left
    obtain ⟨i, rfl⟩ : ∃ i : Nat, k = r + i := ⟨(k - r).toNat, by omega⟩
    refine ⟨m * ((2 ^ i : Nat) : Int), ?_⟩
    rw [hz, p2add, p2nat, Rat.intCast_mul, Rat.intCast_natCast]
    generalize (2 : Rat) ^ r = u
    generalize ((2 ^ i : Nat) : Rat) = w
    grind
  · right
    have h1 : (2 : Rat) ^ (k + 1) ≤ (2 : Rat) ^ r := p2le (by omega)
    rw [p2add, Rat.zpow_one] at h1
    obtain ⟨a1, a2⟩ := abs_le hm
    have hu := p2pos k
    have b1 := Rat.mul_le_mul_of_nonneg_right a1 (Rat.le_of_lt hu)
    have b2 := Rat.mul_le_mul_of_nonneg_right a2 (Rat.le_of_lt hu)
    rw [hz]
    refine ⟨by omega, ?_, ?_⟩ <;> generalize (2 : Rat) ^ r = w at * <;> generalize (2 : Rat) ^ k = u at * <;> grind
theorem icast_le {u : Rat} (hu : 0 < u) {i j : Int} (h : (i : Rat) * u ≤ (j : Rat) * u) : i ≤ j := Rat.intCast_le_intCast.mp (Rat.le_of_mul_le_mul_right h hu)
theorem icast_lt {u : Rat} (hu : 0 < u) {i j : Int} (h : (i : Rat) * u < (j : Rat) * u) : i < j := Rat.intCast_lt_intCast.mp (Rat.lt_of_mul_lt_mul_right h (Rat.le_of_lt hu))
/-- the nearest: whatever can be held is no nearer -/
theorem Rsp.near {x y z : Rat} (h : Rsp x y) (hz : Rp z) (t : Rat) (t1 : x - z ≤ t) (t2 : z - x ≤ t) : x - y ≤ t ∧ y - x ≤ t := by
  obtain ⟨n, r, rfl, h2, h3, h4, h5, h6, h7, h8⟩ := h
  have hu := p2pos r
  -- multiples of the quantum
  have main : ∀ (j : Int) (t : Rat), x - (j : Rat) * (2 : Rat) ^ r ≤ t → (j : Rat) * (2 : Rat) ^ r - x ≤ t → x - (n : Rat) * (2 : Rat) ^ r ≤ t ∧ (n : Rat) * (2 : Rat) ^ r - x ≤ t := by
    intro j t t1 t2
    rcases Int.lt_trichotomy j n with g | g | g
    · have g1 : (j : Rat) + 1 ≤ (n : Rat) := by have := Rat.intCast_le_intCast.mpr (show j + 1 ≤ n by omega); simpa using this
      have g2 := Rat.mul_le_mul_of_nonneg_right g1 (Rat.le_of_lt hu)
      generalize (2 : Rat) ^ r = u at *
      constructor <;> grind
    · subst g; exact ⟨t1, t2⟩
    · have g1 : (n : Rat) + 1 ≤ (j : Rat) := by have := Rat.intCast_le_intCast.mpr (show n + 1 ≤ j by omega); simpa using this
      have g2 := Rat.mul_le_mul_of_nonneg_right g1 (Rat.le_of_lt hu)
      generalize (2 : Rat) ^ r = u at *
      constructor <;> grind
  rcases rp_mul (r := r) hz with ⟨j, rfl⟩ | ⟨g0, g1, g2⟩
  · exact main j t t1 t2
  · rcases h8 with q | q | q
    · omega
    · refine main 4503599627370496 t ?_ ?_ <;> rw [show ((4503599627370496 : Int) : Rat) = 4503599627370496 from rfl] <;> generalize (2 : Rat) ^ r = u at * <;> grind
    · refine main (-4503599627370496) t ?_ ?_ <;> rw [show ((-4503599627370496 : Int) : Rat) = -4503599627370496 from rfl] <;> generalize (2 : Rat) ^ r = u at * <;> grind
theorem Rsp.exact {x y : Rat} (h : Rsp x y) (hx : Rp x) : y = x := by
  have := h.near hx 0 (by grind) (by grind)
  grind
theorem RR_exact {x : Rat} (hx : Rp x) (h1 : -1267650600228229401496703205376 ≤ x) (h2 : x ≤ 1267650600228229401496703205376) : RR x = x := (RR_spec h1 h2).exact hx
theorem Rsp.rp {x y : Rat} (h : Rsp x y) : Rp y := by
  obtain ⟨n, r, rfl, h2, h3, -⟩ := h
  exact ⟨n, r, rfl, h3, h2⟩
theorem Rsp.le {x y z : Rat} (h : Rsp x y) (hz : Rp z) (q : x ≤ z) : y ≤ z := by
  have := h.near hz (z - x) (by grind) (by grind)
  grind
theorem Rsp.ge {x y z : Rat} (h : Rsp x y) (hz : Rp z) (q : z ≤ x) : z ≤ y := by
  have := h.near hz (x - z) (by grind) (by grind)
  grind
theorem RR_mono {x y : Rat} (h : x ≤ y) (x1 : -1267650600228229401496703205376 ≤ x) (y2 : y ≤ 1267650600228229401496703205376) : RR x ≤ RR y := by
  by_cases q : x = y
  · rw [q]; exact Rat.le_refl
  · have hx := RR_spec x1 (by grind)
    have hy := RR_spec (by grind) y2
    by_cases g : RR x ≤ RR y
    · exact g
    · have g := Rat.not_le.mp g
      -- RR y < RR x
      have a := fun t => hx.near hy.rp t
      have b := fun t => hy.near hx.rp t
      generalize RR x = X at *
      generalize RR y = Y at *
      by_cases c1 : x ≤ Y
      · have := a (Y - x) (by grind) (by grind)
        grind
      · by_cases c2 : X ≤ y
        · have := b (y - X) (by grind) (by grind)
          grind
        · have k1 := a (x - Y) (by grind) (by grind)
          have k2 := b (X - y) (by grind) (by grind)
          grind
/-- the relative error, of what is not tiny -/
theorem Rsp.err {x y : Rat} (h : Rsp x y) (hx : 1 ≤ x * 1267650600228229401496703205376) : 9007199254740992 * (y - x) ≤ x ∧ 9007199254740992 * (x - y) ≤ x := by
  obtain ⟨n, r, rfl, h2, h3, h4, h5, h6, h7, h8⟩ := h
  have hu := p2pos r
  have k : 4503599627370496 * (2 : Rat) ^ r ≤ x := by
    rcases h8 with q | q | q
    · subst q
      have e1 : (2 : Rat) ^ (-1022 : Int) = 4503599627370496 * (2 : Rat) ^ (-1074 : Int) := by
        rw [show (-1022 : Int) = 52 + -1074 from rfl, p2add, show (2 : Rat) ^ (52 : Int) = 4503599627370496 by decide +kernel]
      have e2 : (2 : Rat) ^ (-1022 : Int) ≤ (2 : Rat) ^ (-100 : Int) := p2le (by decide)
      have e3 : (2 : Rat) ^ (-100 : Int) * (2 : Rat) ^ (100 : Int) = 1 := by rw [← p2add]; rfl
      have e4 : (2 : Rat) ^ (100 : Int) = 1267650600228229401496703205376 := by decide +kernel
      rw [e4] at e3
      rw [← e1]
      generalize (2 : Rat) ^ (-1022 : Int) = v at *
      generalize (2 : Rat) ^ (-100 : Int) = w at *
      grind
    · exact q
    · generalize (2 : Rat) ^ r = u at *
      grind
  generalize (2 : Rat) ^ r = u at *
  constructor <;> grind
/-- the error, of whatever size: relative, or below 2^-53 -/
theorem err_any {x : Rat} (h1 : -1267650600228229401496703205376 ≤ x) (h2 : x ≤ 1267650600228229401496703205376) (t : Rat) (t1 : x ≤ t) (t2 : -x ≤ t) : 9007199254740992 * (RR x - x) ≤ t + 1 ∧ 9007199254740992 * (x - RR x) ≤ t + 1 := by
  have h := RR_spec h1 h2
  generalize RR x = y at *
  obtain ⟨n, r, rfl, g2, g3, g4, g5, g6, g7, g8⟩ := h
  have hu := p2pos r
  have k : 4503599627370496 * (2 : Rat) ^ r ≤ t + 1 := by
    rcases g8 with q | q | q
    · subst q
      have e1 : (2 : Rat) ^ (-1022 : Int) = 4503599627370496 * (2 : Rat) ^ (-1074 : Int) := by
        rw [show (-1022 : Int) = 52 + -1074 from rfl, p2add, show (2 : Rat) ^ (52 : Int) = 4503599627370496 by decide +kernel]
      have e2 : (2 : Rat) ^ (-1022 : Int) ≤ (2 : Rat) ^ (0 : Int) := p2le (by decide)
      rw [Rat.zpow_zero] at e2
      rw [← e1]
      generalize (2 : Rat) ^ (-1022 : Int) = v at *
      grind
    · generalize (2 : Rat) ^ r = u at *
      grind
    · generalize (2 : Rat) ^ r = u at *
      grind
  generalize (2 : Rat) ^ r = u at *
  constructor <;> grind
theorem rp_int {n : Int} (h : n.natAbs ≤ 2 ^ 53) : Rp (n : Rat) := ⟨n, 0, by rw [Rat.zpow_zero, Rat.mul_one], h, by decide⟩
theorem rp_scale {z : Rat} (k : Int) {m : Int} (h : z = (m : Rat) * (2 : Rat) ^ k) (hm : m.natAbs ≤ 2 ^ 53) (hk : -1074 ≤ k) : Rp z := ⟨m, k, h, hm, hk⟩
theorem RR_int {n : Int} (h : n.natAbs ≤ 2 ^ 53) : RR (n : Rat) = (n : Rat) := by
  refine RR_exact (rp_int h) ?_ ?_
  · have := Rat.intCast_le_intCast.mpr (show (-9007199254740992 : Int) ≤ n by omega); grind
  · have := Rat.intCast_le_intCast.mpr (show n ≤ (9007199254740992 : Int) by omega); grind
theorem i2d_DV (n : Int32) : DV (Jvm.FP.i2d n) (n.toInt : Rat) := by
  have h := n.le_toInt
  have h' := n.toInt_lt
  have q := i2d_RR n
  rw [RR_int (by omega)] at q
  exact q
theorem l2d_DV {n : Int64} (h : n.toInt.natAbs ≤ 2 ^ 53) : DV (Jvm.FP.l2d n) (n.toInt : Rat) := by
  have q := l2d_RR n
  rw [RR_int h] at q
  exact q
/-- a written double, by its fields -/
theorem lit_DV {v : UInt64} {s : Bool} {c : Nat} {q : Int} {x : Rat} (h : val64 v = .fin s c q) (hx : ((signed s c : Int) : Rat) * (2 : Rat) ^ q = x) : DV v x := ⟨s, c, q, h, hx⟩
theorem dneg_DV {v : UInt64} {x : Rat} (h : DV v x) : DV (Jvm.FP.dneg v) (-x) := by
  obtain ⟨s, c, q, h1, rfl⟩ := h
  refine ⟨!s, c, q, by rw [Jvm.FP.val64_dneg, h1]; rfl, ?_⟩
  show ((signed (!s) c : Int) : Rat) * _ = -(((signed s c : Int) : Rat) * _)
  rw [signed_not, Rat.intCast_neg, Rat.neg_mul]
theorem DV.whole {v : UInt64} {n : Int} (h : DV v (n : Rat)) : DInt n v := by
  obtain ⟨s, c, q, h1, h2⟩ := h
  unfold DInt
  rw [h1]
  show signed s (c * 2 ^ q.toNat) = n * ((2 ^ (-q).toNat : Nat) : Int)
  refine Rat.intCast_inj.mp ?_
  have h3 : ((signed s c : Int) : Rat) * (2 : Rat) ^ q = (n : Rat) := h2
  rw [signed_mul, Rat.intCast_mul, Rat.intCast_mul, ← h3, Rat.mul_assoc, show (((2 ^ (-q).toNat : Nat) : Int) : Rat) = ((2 ^ (-q).toNat : Nat) : Rat) from rfl, show (((2 ^ q.toNat : Nat) : Int) : Rat) = ((2 ^ q.toNat : Nat) : Rat) from rfl, ← p2nat, ← p2nat, ← p2add, show q + ((-q).toNat : Int) = (q.toNat : Int) by omega]
theorem d2l_DV {v : UInt64} {n : Int64} (h : DV v (n.toInt : Rat)) : Jvm.FP.d2l v = n := d2l_int h.whole
theorem DV.cast {v : UInt64} {x y : Rat} (h : DV v x) (e : x = y) : DV v y := e ▸ h
end Jvm.OwnFl
namespace Jvm.Pilot.@@N@@
open Jvm Jvm.ClassFile Sem Op Lib Jvm.Free Jvm.Stand Jvm.LawKit Jvm.RoadKit Jvm.OwnKit Bundle Jvm.Pilot.@@N@@.Jvm.D
theorem wd {a0 : Array Value} {Z : State} {d : Jvm.Cond} (hw : ∀ d ∈ tables_1, d.before a0 Z = true) (i : Nat) (h : tables_1[i]? = some d) : d.before a0 Z = true := hw d (List.mem_of_getElem? h)
theorem d1_0 : decode method_2_code 0 = .ok (.iload_n 0, 1) := by decide +kernel
theorem d1_1 : decode method_2_code 1 = .ok (.iload_n 1, 1) := by decide +kernel
theorem d1_2 : decode method_2_code 2 = .ok (.iadd, 1) := by decide +kernel
theorem d1_3 : decode method_2_code 3 = .ok (.iconst 3, 1) := by decide +kernel
theorem d1_4 : decode method_2_code 4 = .ok (.iand, 1) := by decide +kernel
theorem d1_5 : decode method_2_code 5 = .ok (.istore_n 3, 1) := by decide +kernel
theorem d1_6 : decode method_2_code 6 = .ok (.iload_n 2, 1) := by decide +kernel
theorem d1_7 : decode method_2_code 7 = .ok (.ifCond .eq 7, 3) := by decide +kernel
theorem d1_10 : decode method_2_code 10 = .ok (.iconst 3, 1) := by decide +kernel
theorem d1_11 : decode method_2_code 11 = .ok (.iload_n 3, 1) := by decide +kernel
theorem d1_12 : decode method_2_code 12 = .ok (.isub, 1) := by decide +kernel
theorem d1_13 : decode method_2_code 13 = .ok (.ireturn, 1) := by decide +kernel
theorem d1_14 : decode method_2_code 14 = .ok (.iload_n 3, 1) := by decide +kernel
theorem d1_15 : decode method_2_code 15 = .ok (.ireturn, 1) := by decide +kernel
theorem d2_0 : decode prog_39_method_1_code 0 = .ok (.aload_n 0, 1) := by decide +kernel
theorem d2_1 : decode prog_39_method_1_code 1 = .ok (.invokespecial 1, 3) := by decide +kernel
theorem d2_4 : decode prog_39_method_1_code 4 = .ok (.aload_n 0, 1) := by decide +kernel
theorem d2_5 : decode prog_39_method_1_code 5 = .ok (.iload_n 1, 1) := by decide +kernel
theorem d2_6 : decode prog_39_method_1_code 6 = .ok (.newarray .int, 2) := by decide +kernel
theorem d2_8 : decode prog_39_method_1_code 8 = .ok (.putfield 7, 3) := by decide +kernel
theorem d2_11 : decode prog_39_method_1_code 11 = .ok (.aload_n 0, 1) := by decide +kernel
theorem d2_12 : decode prog_39_method_1_code 12 = .ok (.iload_n 1, 1) := by decide +kernel
theorem d2_13 : decode prog_39_method_1_code 13 = .ok (.newarray .int, 2) := by decide +kernel
theorem d2_15 : decode prog_39_method_1_code 15 = .ok (.putfield 13, 3) := by decide +kernel
theorem d2_18 : decode prog_39_method_1_code 18 = .ok (.aload_n 0, 1) := by decide +kernel
theorem d2_19 : decode prog_39_method_1_code 19 = .ok (.iload_n 1, 1) := by decide +kernel
theorem d2_20 : decode prog_39_method_1_code 20 = .ok (.newarray .double, 2) := by decide +kernel
theorem d2_22 : decode prog_39_method_1_code 22 = .ok (.putfield 16, 3) := by decide +kernel
theorem d2_25 : decode prog_39_method_1_code 25 = .ok (.aload_n 0, 1) := by decide +kernel
theorem d2_26 : decode prog_39_method_1_code 26 = .ok (.getfield 13, 3) := by decide +kernel
theorem d2_29 : decode prog_39_method_1_code 29 = .ok (.iconst (-1), 1) := by decide +kernel
theorem d2_30 : decode prog_39_method_1_code 30 = .ok (.invokestatic 20, 3) := by decide +kernel
theorem d2_33 : decode prog_39_method_1_code 33 = .ok (.return_, 1) := by decide +kernel
theorem d4_0 : decode jdk_65_method_103_code 0 = .ok (.iconst 0, 1) := by decide +kernel
theorem d4_1 : decode jdk_65_method_103_code 1 = .ok (.istore_n 2, 1) := by decide +kernel
theorem d4_2 : decode jdk_65_method_103_code 2 = .ok (.aload_n 0, 1) := by decide +kernel
theorem d4_3 : decode jdk_65_method_103_code 3 = .ok (.arraylength, 1) := by decide +kernel
theorem d4_4 : decode jdk_65_method_103_code 4 = .ok (.istore_n 3, 1) := by decide +kernel
theorem d4_5 : decode jdk_65_method_103_code 5 = .ok (.iload_n 2, 1) := by decide +kernel
theorem d4_6 : decode jdk_65_method_103_code 6 = .ok (.iload_n 3, 1) := by decide +kernel
theorem d4_7 : decode jdk_65_method_103_code 7 = .ok (.if_icmp .ge 13, 3) := by decide +kernel
theorem d4_10 : decode jdk_65_method_103_code 10 = .ok (.aload_n 0, 1) := by decide +kernel
theorem d4_11 : decode jdk_65_method_103_code 11 = .ok (.iload_n 2, 1) := by decide +kernel
theorem d4_12 : decode jdk_65_method_103_code 12 = .ok (.iload_n 1, 1) := by decide +kernel
theorem d4_13 : decode jdk_65_method_103_code 13 = .ok (.iastore, 1) := by decide +kernel
theorem d4_14 : decode jdk_65_method_103_code 14 = .ok (.iinc 2 1, 3) := by decide +kernel
theorem d4_17 : decode jdk_65_method_103_code 17 = .ok (.goto (-12), 3) := by decide +kernel
theorem d4_20 : decode jdk_65_method_103_code 20 = .ok (.return_, 1) := by decide +kernel
theorem d5_0 : decode prog_39_method_3_code 0 = .ok (.aload_n 0, 1) := by decide +kernel
theorem d5_1 : decode prog_39_method_3_code 1 = .ok (.getfield 13, 3) := by decide +kernel
theorem d5_4 : decode prog_39_method_3_code 4 = .ok (.iload_n 1, 1) := by decide +kernel
theorem d5_5 : decode prog_39_method_3_code 5 = .ok (.iaload, 1) := by decide +kernel
theorem d5_6 : decode prog_39_method_3_code 6 = .ok (.istore 4, 2) := by decide +kernel
theorem d5_8 : decode prog_39_method_3_code 8 = .ok (.iload 4, 2) := by decide +kernel
theorem d5_10 : decode prog_39_method_3_code 10 = .ok (.ifCond .ge 35, 3) := by decide +kernel
theorem d5_13 : decode prog_39_method_3_code 13 = .ok (.aload_n 0, 1) := by decide +kernel
theorem d5_14 : decode prog_39_method_3_code 14 = .ok (.dup, 1) := by decide +kernel
theorem d5_15 : decode prog_39_method_3_code 15 = .ok (.getfield 26, 3) := by decide +kernel
theorem d5_18 : decode prog_39_method_3_code 18 = .ok (.dup_x1, 1) := by decide +kernel
theorem d5_19 : decode prog_39_method_3_code 19 = .ok (.iconst 1, 1) := by decide +kernel
theorem d5_20 : decode prog_39_method_3_code 20 = .ok (.iadd, 1) := by decide +kernel
theorem d5_21 : decode prog_39_method_3_code 21 = .ok (.putfield 26, 3) := by decide +kernel
theorem d5_24 : decode prog_39_method_3_code 24 = .ok (.istore 4, 2) := by decide +kernel
theorem d5_26 : decode prog_39_method_3_code 26 = .ok (.aload_n 0, 1) := by decide +kernel
theorem d5_27 : decode prog_39_method_3_code 27 = .ok (.getfield 7, 3) := by decide +kernel
theorem d5_30 : decode prog_39_method_3_code 30 = .ok (.iload 4, 2) := by decide +kernel
theorem d5_32 : decode prog_39_method_3_code 32 = .ok (.iload_n 1, 1) := by decide +kernel
theorem d5_33 : decode prog_39_method_3_code 33 = .ok (.iastore, 1) := by decide +kernel
theorem d5_34 : decode prog_39_method_3_code 34 = .ok (.aload_n 0, 1) := by decide +kernel
theorem d5_35 : decode prog_39_method_3_code 35 = .ok (.getfield 13, 3) := by decide +kernel
theorem d5_38 : decode prog_39_method_3_code 38 = .ok (.iload_n 1, 1) := by decide +kernel
theorem d5_39 : decode prog_39_method_3_code 39 = .ok (.iload 4, 2) := by decide +kernel
theorem d5_41 : decode prog_39_method_3_code 41 = .ok (.iastore, 1) := by decide +kernel
theorem d5_42 : decode prog_39_method_3_code 42 = .ok (.goto 15, 3) := by decide +kernel
theorem d5_57 : decode prog_39_method_3_code 57 = .ok (.aload_n 0, 1) := by decide +kernel
theorem d5_58 : decode prog_39_method_3_code 58 = .ok (.getfield 16, 3) := by decide +kernel
theorem d5_61 : decode prog_39_method_3_code 61 = .ok (.iload_n 1, 1) := by decide +kernel
theorem d5_62 : decode prog_39_method_3_code 62 = .ok (.dload_n 2, 1) := by decide +kernel
theorem d5_63 : decode prog_39_method_3_code 63 = .ok (.dastore, 1) := by decide +kernel
theorem d5_64 : decode prog_39_method_3_code 64 = .ok (.aload_n 0, 1) := by decide +kernel
theorem d5_65 : decode prog_39_method_3_code 65 = .ok (.iload 4, 2) := by decide +kernel
theorem d5_67 : decode prog_39_method_3_code 67 = .ok (.invokevirtual 30, 3) := by decide +kernel
theorem d5_70 : decode prog_39_method_3_code 70 = .ok (.return_, 1) := by decide +kernel
theorem d6_0 : decode prog_39_method_6_code 0 = .ok (.aload_n 0, 1) := by decide +kernel
theorem d6_1 : decode prog_39_method_6_code 1 = .ok (.getfield 7, 3) := by decide +kernel
theorem d6_4 : decode prog_39_method_6_code 4 = .ok (.iload_n 1, 1) := by decide +kernel
theorem d6_5 : decode prog_39_method_6_code 5 = .ok (.iaload, 1) := by decide +kernel
theorem d6_6 : decode prog_39_method_6_code 6 = .ok (.istore_n 2, 1) := by decide +kernel
theorem d6_7 : decode prog_39_method_6_code 7 = .ok (.iload_n 1, 1) := by decide +kernel
theorem d6_8 : decode prog_39_method_6_code 8 = .ok (.ifCond .le 42, 3) := by decide +kernel
theorem d6_11 : decode prog_39_method_6_code 11 = .ok (.iload_n 1, 1) := by decide +kernel
theorem d6_12 : decode prog_39_method_6_code 12 = .ok (.iconst 1, 1) := by decide +kernel
theorem d6_13 : decode prog_39_method_6_code 13 = .ok (.isub, 1) := by decide +kernel
theorem d6_14 : decode prog_39_method_6_code 14 = .ok (.iconst 2, 1) := by decide +kernel
theorem d6_15 : decode prog_39_method_6_code 15 = .ok (.idiv, 1) := by decide +kernel
theorem d6_16 : decode prog_39_method_6_code 16 = .ok (.istore_n 3, 1) := by decide +kernel
theorem d6_17 : decode prog_39_method_6_code 17 = .ok (.aload_n 0, 1) := by decide +kernel
theorem d6_18 : decode prog_39_method_6_code 18 = .ok (.iload_n 2, 1) := by decide +kernel
theorem d6_19 : decode prog_39_method_6_code 19 = .ok (.aload_n 0, 1) := by decide +kernel
theorem d6_20 : decode prog_39_method_6_code 20 = .ok (.getfield 7, 3) := by decide +kernel
theorem d6_23 : decode prog_39_method_6_code 23 = .ok (.iload_n 3, 1) := by decide +kernel
theorem d6_24 : decode prog_39_method_6_code 24 = .ok (.iaload, 1) := by decide +kernel
theorem d6_25 : decode prog_39_method_6_code 25 = .ok (.invokevirtual 37, 3) := by decide +kernel
theorem d6_28 : decode prog_39_method_6_code 28 = .ok (.ifCond .ne 6, 3) := by decide +kernel
theorem d6_31 : decode prog_39_method_6_code 31 = .ok (.goto 19, 3) := by decide +kernel
theorem d6_34 : decode prog_39_method_6_code 34 = .ok (.aload_n 0, 1) := by decide +kernel
theorem d6_35 : decode prog_39_method_6_code 35 = .ok (.aload_n 0, 1) := by decide +kernel
theorem d6_36 : decode prog_39_method_6_code 36 = .ok (.getfield 7, 3) := by decide +kernel
theorem d6_39 : decode prog_39_method_6_code 39 = .ok (.iload_n 3, 1) := by decide +kernel
theorem d6_40 : decode prog_39_method_6_code 40 = .ok (.iaload, 1) := by decide +kernel
theorem d6_41 : decode prog_39_method_6_code 41 = .ok (.iload_n 1, 1) := by decide +kernel
theorem d6_42 : decode prog_39_method_6_code 42 = .ok (.invokevirtual 41, 3) := by decide +kernel
theorem d6_45 : decode prog_39_method_6_code 45 = .ok (.iload_n 3, 1) := by decide +kernel
theorem d6_46 : decode prog_39_method_6_code 46 = .ok (.istore_n 1, 1) := by decide +kernel
theorem d6_47 : decode prog_39_method_6_code 47 = .ok (.goto (-40), 3) := by decide +kernel
theorem d6_50 : decode prog_39_method_6_code 50 = .ok (.aload_n 0, 1) := by decide +kernel
theorem d6_51 : decode prog_39_method_6_code 51 = .ok (.iload_n 2, 1) := by decide +kernel
theorem d6_52 : decode prog_39_method_6_code 52 = .ok (.iload_n 1, 1) := by decide +kernel
theorem d6_53 : decode prog_39_method_6_code 53 = .ok (.invokevirtual 41, 3) := by decide +kernel
theorem d6_56 : decode prog_39_method_6_code 56 = .ok (.return_, 1) := by decide +kernel
theorem d7_0 : decode prog_39_method_8_code 0 = .ok (.aload_n 0, 1) := by decide +kernel
theorem d7_1 : decode prog_39_method_8_code 1 = .ok (.getfield 7, 3) := by decide +kernel
theorem d7_4 : decode prog_39_method_8_code 4 = .ok (.iload_n 2, 1) := by decide +kernel
theorem d7_5 : decode prog_39_method_8_code 5 = .ok (.iload_n 1, 1) := by decide +kernel
theorem d7_6 : decode prog_39_method_8_code 6 = .ok (.iastore, 1) := by decide +kernel
theorem d7_7 : decode prog_39_method_8_code 7 = .ok (.aload_n 0, 1) := by decide +kernel
theorem d7_8 : decode prog_39_method_8_code 8 = .ok (.getfield 13, 3) := by decide +kernel
theorem d7_11 : decode prog_39_method_8_code 11 = .ok (.iload_n 1, 1) := by decide +kernel
theorem d7_12 : decode prog_39_method_8_code 12 = .ok (.iload_n 2, 1) := by decide +kernel
theorem d7_13 : decode prog_39_method_8_code 13 = .ok (.iastore, 1) := by decide +kernel
theorem d7_14 : decode prog_39_method_8_code 14 = .ok (.return_, 1) := by decide +kernel
theorem d8_0 : decode prog_39_method_5_code 0 = .ok (.aload_n 0, 1) := by decide +kernel
theorem d8_1 : decode prog_39_method_5_code 1 = .ok (.getfield 16, 3) := by decide +kernel
theorem d8_4 : decode prog_39_method_5_code 4 = .ok (.iload_n 1, 1) := by decide +kernel
theorem d8_5 : decode prog_39_method_5_code 5 = .ok (.daload, 1) := by decide +kernel
theorem d8_6 : decode prog_39_method_5_code 6 = .ok (.aload_n 0, 1) := by decide +kernel
theorem d8_7 : decode prog_39_method_5_code 7 = .ok (.getfield 16, 3) := by decide +kernel
theorem d8_10 : decode prog_39_method_5_code 10 = .ok (.iload_n 2, 1) := by decide +kernel
theorem d8_11 : decode prog_39_method_5_code 11 = .ok (.daload, 1) := by decide +kernel
theorem d8_12 : decode prog_39_method_5_code 12 = .ok (.dcmp .g, 1) := by decide +kernel
theorem d8_13 : decode prog_39_method_5_code 13 = .ok (.ifCond .lt 24, 3) := by decide +kernel
theorem d8_16 : decode prog_39_method_5_code 16 = .ok (.aload_n 0, 1) := by decide +kernel
theorem d8_17 : decode prog_39_method_5_code 17 = .ok (.getfield 16, 3) := by decide +kernel
theorem d8_20 : decode prog_39_method_5_code 20 = .ok (.iload_n 1, 1) := by decide +kernel
theorem d8_21 : decode prog_39_method_5_code 21 = .ok (.daload, 1) := by decide +kernel
theorem d8_22 : decode prog_39_method_5_code 22 = .ok (.aload_n 0, 1) := by decide +kernel
theorem d8_23 : decode prog_39_method_5_code 23 = .ok (.getfield 16, 3) := by decide +kernel
theorem d8_26 : decode prog_39_method_5_code 26 = .ok (.iload_n 2, 1) := by decide +kernel
theorem d8_27 : decode prog_39_method_5_code 27 = .ok (.daload, 1) := by decide +kernel
theorem d8_28 : decode prog_39_method_5_code 28 = .ok (.dcmp .l, 1) := by decide +kernel
theorem d8_29 : decode prog_39_method_5_code 29 = .ok (.ifCond .ne 12, 3) := by decide +kernel
theorem d8_32 : decode prog_39_method_5_code 32 = .ok (.iload_n 1, 1) := by decide +kernel
theorem d8_33 : decode prog_39_method_5_code 33 = .ok (.iload_n 2, 1) := by decide +kernel
theorem d8_34 : decode prog_39_method_5_code 34 = .ok (.if_icmp .ge 7, 3) := by decide +kernel
theorem d8_37 : decode prog_39_method_5_code 37 = .ok (.iconst 1, 1) := by decide +kernel
theorem d8_38 : decode prog_39_method_5_code 38 = .ok (.goto 4, 3) := by decide +kernel
theorem d8_41 : decode prog_39_method_5_code 41 = .ok (.iconst 0, 1) := by decide +kernel
theorem d8_42 : decode prog_39_method_5_code 42 = .ok (.ireturn, 1) := by decide +kernel
theorem d9_0 : decode prog_39_method_4_code 0 = .ok (.aload_n 0, 1) := by decide +kernel
theorem d9_1 : decode prog_39_method_4_code 1 = .ok (.getfield 7, 3) := by decide +kernel
theorem d9_4 : decode prog_39_method_4_code 4 = .ok (.iconst 0, 1) := by decide +kernel
theorem d9_5 : decode prog_39_method_4_code 5 = .ok (.iaload, 1) := by decide +kernel
theorem d9_6 : decode prog_39_method_4_code 6 = .ok (.istore_n 1, 1) := by decide +kernel
theorem d9_7 : decode prog_39_method_4_code 7 = .ok (.aload_n 0, 1) := by decide +kernel
theorem d9_8 : decode prog_39_method_4_code 8 = .ok (.getfield 13, 3) := by decide +kernel
theorem d9_11 : decode prog_39_method_4_code 11 = .ok (.iload_n 1, 1) := by decide +kernel
theorem d9_12 : decode prog_39_method_4_code 12 = .ok (.iconst (-1), 1) := by decide +kernel
theorem d9_13 : decode prog_39_method_4_code 13 = .ok (.iastore, 1) := by decide +kernel
theorem d9_14 : decode prog_39_method_4_code 14 = .ok (.aload_n 0, 1) := by decide +kernel
theorem d9_15 : decode prog_39_method_4_code 15 = .ok (.dup, 1) := by decide +kernel
theorem d9_16 : decode prog_39_method_4_code 16 = .ok (.getfield 26, 3) := by decide +kernel
theorem d9_19 : decode prog_39_method_4_code 19 = .ok (.iconst 1, 1) := by decide +kernel
theorem d9_20 : decode prog_39_method_4_code 20 = .ok (.isub, 1) := by decide +kernel
theorem d9_21 : decode prog_39_method_4_code 21 = .ok (.putfield 26, 3) := by decide +kernel
theorem d9_24 : decode prog_39_method_4_code 24 = .ok (.aload_n 0, 1) := by decide +kernel
theorem d9_25 : decode prog_39_method_4_code 25 = .ok (.getfield 26, 3) := by decide +kernel
theorem d9_28 : decode prog_39_method_4_code 28 = .ok (.ifCond .le 35, 3) := by decide +kernel
theorem d9_31 : decode prog_39_method_4_code 31 = .ok (.aload_n 0, 1) := by decide +kernel
theorem d9_32 : decode prog_39_method_4_code 32 = .ok (.getfield 7, 3) := by decide +kernel
theorem d9_35 : decode prog_39_method_4_code 35 = .ok (.iconst 0, 1) := by decide +kernel
theorem d9_36 : decode prog_39_method_4_code 36 = .ok (.aload_n 0, 1) := by decide +kernel
theorem d9_37 : decode prog_39_method_4_code 37 = .ok (.getfield 7, 3) := by decide +kernel
theorem d9_40 : decode prog_39_method_4_code 40 = .ok (.aload_n 0, 1) := by decide +kernel
theorem d9_41 : decode prog_39_method_4_code 41 = .ok (.getfield 26, 3) := by decide +kernel
theorem d9_44 : decode prog_39_method_4_code 44 = .ok (.iaload, 1) := by decide +kernel
theorem d9_45 : decode prog_39_method_4_code 45 = .ok (.iastore, 1) := by decide +kernel
theorem d9_46 : decode prog_39_method_4_code 46 = .ok (.aload_n 0, 1) := by decide +kernel
theorem d9_47 : decode prog_39_method_4_code 47 = .ok (.getfield 13, 3) := by decide +kernel
theorem d9_50 : decode prog_39_method_4_code 50 = .ok (.aload_n 0, 1) := by decide +kernel
theorem d9_51 : decode prog_39_method_4_code 51 = .ok (.getfield 7, 3) := by decide +kernel
theorem d9_54 : decode prog_39_method_4_code 54 = .ok (.iconst 0, 1) := by decide +kernel
theorem d9_55 : decode prog_39_method_4_code 55 = .ok (.iaload, 1) := by decide +kernel
theorem d9_56 : decode prog_39_method_4_code 56 = .ok (.iconst 0, 1) := by decide +kernel
theorem d9_57 : decode prog_39_method_4_code 57 = .ok (.iastore, 1) := by decide +kernel
theorem d9_58 : decode prog_39_method_4_code 58 = .ok (.aload_n 0, 1) := by decide +kernel
theorem d9_59 : decode prog_39_method_4_code 59 = .ok (.iconst 0, 1) := by decide +kernel
theorem d9_60 : decode prog_39_method_4_code 60 = .ok (.invokevirtual 34, 3) := by decide +kernel
theorem d9_63 : decode prog_39_method_4_code 63 = .ok (.iload_n 1, 1) := by decide +kernel
theorem d9_64 : decode prog_39_method_4_code 64 = .ok (.ireturn, 1) := by decide +kernel
theorem d10_0 : decode prog_39_method_7_code 0 = .ok (.aload_n 0, 1) := by decide +kernel
theorem d10_1 : decode prog_39_method_7_code 1 = .ok (.getfield 7, 3) := by decide +kernel
theorem d10_4 : decode prog_39_method_7_code 4 = .ok (.iload_n 1, 1) := by decide +kernel
theorem d10_5 : decode prog_39_method_7_code 5 = .ok (.iaload, 1) := by decide +kernel
theorem d10_6 : decode prog_39_method_7_code 6 = .ok (.istore_n 2, 1) := by decide +kernel
theorem d10_7 : decode prog_39_method_7_code 7 = .ok (.iconst 2, 1) := by decide +kernel
theorem d10_8 : decode prog_39_method_7_code 8 = .ok (.iload_n 1, 1) := by decide +kernel
theorem d10_9 : decode prog_39_method_7_code 9 = .ok (.imul, 1) := by decide +kernel
theorem d10_10 : decode prog_39_method_7_code 10 = .ok (.iconst 1, 1) := by decide +kernel
theorem d10_11 : decode prog_39_method_7_code 11 = .ok (.iadd, 1) := by decide +kernel
theorem d10_12 : decode prog_39_method_7_code 12 = .ok (.istore_n 3, 1) := by decide +kernel
theorem d10_13 : decode prog_39_method_7_code 13 = .ok (.iload_n 3, 1) := by decide +kernel
theorem d10_14 : decode prog_39_method_7_code 14 = .ok (.aload_n 0, 1) := by decide +kernel
theorem d10_15 : decode prog_39_method_7_code 15 = .ok (.getfield 26, 3) := by decide +kernel
theorem d10_18 : decode prog_39_method_7_code 18 = .ok (.if_icmp .lt 6, 3) := by decide +kernel
theorem d10_21 : decode prog_39_method_7_code 21 = .ok (.goto 70, 3) := by decide +kernel
theorem d10_24 : decode prog_39_method_7_code 24 = .ok (.iload_n 3, 1) := by decide +kernel
theorem d10_25 : decode prog_39_method_7_code 25 = .ok (.iconst 1, 1) := by decide +kernel
theorem d10_26 : decode prog_39_method_7_code 26 = .ok (.iadd, 1) := by decide +kernel
theorem d10_27 : decode prog_39_method_7_code 27 = .ok (.aload_n 0, 1) := by decide +kernel
theorem d10_28 : decode prog_39_method_7_code 28 = .ok (.getfield 26, 3) := by decide +kernel
theorem d10_31 : decode prog_39_method_7_code 31 = .ok (.if_icmp .ge 27, 3) := by decide +kernel
theorem d10_34 : decode prog_39_method_7_code 34 = .ok (.aload_n 0, 1) := by decide +kernel
theorem d10_35 : decode prog_39_method_7_code 35 = .ok (.aload_n 0, 1) := by decide +kernel
theorem d10_36 : decode prog_39_method_7_code 36 = .ok (.getfield 7, 3) := by decide +kernel
theorem d10_39 : decode prog_39_method_7_code 39 = .ok (.iload_n 3, 1) := by decide +kernel
theorem d10_40 : decode prog_39_method_7_code 40 = .ok (.iconst 1, 1) := by decide +kernel
theorem d10_41 : decode prog_39_method_7_code 41 = .ok (.iadd, 1) := by decide +kernel
theorem d10_42 : decode prog_39_method_7_code 42 = .ok (.iaload, 1) := by decide +kernel
theorem d10_43 : decode prog_39_method_7_code 43 = .ok (.aload_n 0, 1) := by decide +kernel
theorem d10_44 : decode prog_39_method_7_code 44 = .ok (.getfield 7, 3) := by decide +kernel
theorem d10_47 : decode prog_39_method_7_code 47 = .ok (.iload_n 3, 1) := by decide +kernel
theorem d10_48 : decode prog_39_method_7_code 48 = .ok (.iaload, 1) := by decide +kernel
theorem d10_49 : decode prog_39_method_7_code 49 = .ok (.invokevirtual 37, 3) := by decide +kernel
theorem d10_52 : decode prog_39_method_7_code 52 = .ok (.ifCond .eq 6, 3) := by decide +kernel
theorem d10_55 : decode prog_39_method_7_code 55 = .ok (.iinc 3 1, 3) := by decide +kernel
theorem d10_58 : decode prog_39_method_7_code 58 = .ok (.aload_n 0, 1) := by decide +kernel
theorem d10_59 : decode prog_39_method_7_code 59 = .ok (.aload_n 0, 1) := by decide +kernel
theorem d10_60 : decode prog_39_method_7_code 60 = .ok (.getfield 7, 3) := by decide +kernel
theorem d10_63 : decode prog_39_method_7_code 63 = .ok (.iload_n 3, 1) := by decide +kernel
theorem d10_64 : decode prog_39_method_7_code 64 = .ok (.iaload, 1) := by decide +kernel
theorem d10_65 : decode prog_39_method_7_code 65 = .ok (.iload_n 2, 1) := by decide +kernel
theorem d10_66 : decode prog_39_method_7_code 66 = .ok (.invokevirtual 37, 3) := by decide +kernel
theorem d10_69 : decode prog_39_method_7_code 69 = .ok (.ifCond .ne 6, 3) := by decide +kernel
theorem d10_72 : decode prog_39_method_7_code 72 = .ok (.goto 19, 3) := by decide +kernel
theorem d10_75 : decode prog_39_method_7_code 75 = .ok (.aload_n 0, 1) := by decide +kernel
theorem d10_76 : decode prog_39_method_7_code 76 = .ok (.aload_n 0, 1) := by decide +kernel
theorem d10_77 : decode prog_39_method_7_code 77 = .ok (.getfield 7, 3) := by decide +kernel
theorem d10_80 : decode prog_39_method_7_code 80 = .ok (.iload_n 3, 1) := by decide +kernel
theorem d10_81 : decode prog_39_method_7_code 81 = .ok (.iaload, 1) := by decide +kernel
theorem d10_82 : decode prog_39_method_7_code 82 = .ok (.iload_n 1, 1) := by decide +kernel
theorem d10_83 : decode prog_39_method_7_code 83 = .ok (.invokevirtual 41, 3) := by decide +kernel
theorem d10_86 : decode prog_39_method_7_code 86 = .ok (.iload_n 3, 1) := by decide +kernel
theorem d10_87 : decode prog_39_method_7_code 87 = .ok (.istore_n 1, 1) := by decide +kernel
theorem d10_88 : decode prog_39_method_7_code 88 = .ok (.goto (-81), 3) := by decide +kernel
theorem d10_91 : decode prog_39_method_7_code 91 = .ok (.aload_n 0, 1) := by decide +kernel
theorem d10_92 : decode prog_39_method_7_code 92 = .ok (.iload_n 2, 1) := by decide +kernel
theorem d10_93 : decode prog_39_method_7_code 93 = .ok (.iload_n 1, 1) := by decide +kernel
theorem d10_94 : decode prog_39_method_7_code 94 = .ok (.invokevirtual 41, 3) := by decide +kernel
theorem d10_97 : decode prog_39_method_7_code 97 = .ok (.return_, 1) := by decide +kernel
theorem d11_0 : decode prog_39_method_2_code 0 = .ok (.aload_n 0, 1) := by decide +kernel
theorem d11_1 : decode prog_39_method_2_code 1 = .ok (.getfield 26, 3) := by decide +kernel
theorem d11_4 : decode prog_39_method_2_code 4 = .ok (.ifCond .ne 7, 3) := by decide +kernel
theorem d11_7 : decode prog_39_method_2_code 7 = .ok (.iconst 1, 1) := by decide +kernel
theorem d11_8 : decode prog_39_method_2_code 8 = .ok (.goto 4, 3) := by decide +kernel
theorem d11_11 : decode prog_39_method_2_code 11 = .ok (.iconst 0, 1) := by decide +kernel
theorem d11_12 : decode prog_39_method_2_code 12 = .ok (.ireturn, 1) := by decide +kernel
theorem d12_0 : decode method_4_code 0 = .ok (.iload_n 0, 1) := by decide +kernel
theorem d12_1 : decode method_4_code 1 = .ok (.ifCond .lt 12, 3) := by decide +kernel
theorem d12_4 : decode method_4_code 4 = .ok (.iload_n 0, 1) := by decide +kernel
theorem d12_5 : decode method_4_code 5 = .ok (.iconst 3, 1) := by decide +kernel
theorem d12_6 : decode method_4_code 6 = .ok (.if_icmp .gt 7, 3) := by decide +kernel
theorem d12_9 : decode method_4_code 9 = .ok (.iconst 1, 1) := by decide +kernel
theorem d12_10 : decode method_4_code 10 = .ok (.goto 4, 3) := by decide +kernel
theorem d12_14 : decode method_4_code 14 = .ok (.ireturn, 1) := by decide +kernel
theorem d13_0 : decode method_3_code 0 = .ok (.aload_n 2, 1) := by decide +kernel
theorem d13_1 : decode method_3_code 1 = .ok (.iload_n 0, 1) := by decide +kernel
theorem d13_2 : decode method_3_code 2 = .ok (.daload, 1) := by decide +kernel
theorem d13_3 : decode method_3_code 3 = .ok (.aload_n 2, 1) := by decide +kernel
theorem d13_4 : decode method_3_code 4 = .ok (.iload_n 1, 1) := by decide +kernel
theorem d13_5 : decode method_3_code 5 = .ok (.daload, 1) := by decide +kernel
theorem d13_6 : decode method_3_code 6 = .ok (.dcmp .g, 1) := by decide +kernel
theorem d13_7 : decode method_3_code 7 = .ok (.ifCond .lt 18, 3) := by decide +kernel
theorem d13_10 : decode method_3_code 10 = .ok (.aload_n 2, 1) := by decide +kernel
theorem d13_11 : decode method_3_code 11 = .ok (.iload_n 0, 1) := by decide +kernel
theorem d13_12 : decode method_3_code 12 = .ok (.daload, 1) := by decide +kernel
theorem d13_13 : decode method_3_code 13 = .ok (.aload_n 2, 1) := by decide +kernel
theorem d13_14 : decode method_3_code 14 = .ok (.iload_n 1, 1) := by decide +kernel
theorem d13_15 : decode method_3_code 15 = .ok (.daload, 1) := by decide +kernel
theorem d13_16 : decode method_3_code 16 = .ok (.dcmp .l, 1) := by decide +kernel
theorem d13_17 : decode method_3_code 17 = .ok (.ifCond .ne 12, 3) := by decide +kernel
theorem d13_20 : decode method_3_code 20 = .ok (.iload_n 0, 1) := by decide +kernel
theorem d13_21 : decode method_3_code 21 = .ok (.iload_n 1, 1) := by decide +kernel
theorem d13_22 : decode method_3_code 22 = .ok (.if_icmp .ge 7, 3) := by decide +kernel
theorem d13_25 : decode method_3_code 25 = .ok (.iconst 1, 1) := by decide +kernel
theorem d13_26 : decode method_3_code 26 = .ok (.goto 4, 3) := by decide +kernel
theorem d13_29 : decode method_3_code 29 = .ok (.iconst 0, 1) := by decide +kernel
theorem d13_30 : decode method_3_code 30 = .ok (.ireturn, 1) := by decide +kernel
theorem pd_0 : parseMethodDescriptor "([II)V" = some ⟨[(.array .int), .int], none⟩ := by decide +kernel
theorem pd_1 : parseMethodDescriptor "(II)V" = some ⟨[.int, .int], none⟩ := by decide +kernel
theorem pd_2 : parseMethodDescriptor "(II)Z" = some ⟨[.int, .int], some .boolean⟩ := by decide +kernel
theorem pd_3 : parseMethodDescriptor "(I)V" = some ⟨[.int], none⟩ := by decide +kernel
theorem pd_4 : parseMethodDescriptor "(IIZ)I" = some ⟨[.int, .int, .boolean], some .int⟩ := by decide +kernel
theorem pd_5 : parseMethodDescriptor "(ID)V" = some ⟨[.int, .double], none⟩ := by decide +kernel
theorem pd_6 : parseMethodDescriptor "()I" = some ⟨[], some .int⟩ := by decide +kernel
theorem pd_7 : parseMethodDescriptor "()Z" = some ⟨[], some .boolean⟩ := by decide +kernel
theorem pd_8 : parseMethodDescriptor "(I)Z" = some ⟨[.int], some .boolean⟩ := by decide +kernel
theorem pd_9 : parseMethodDescriptor "(II[D)Z" = some ⟨[.int, .int, (.array .double)], some .boolean⟩ := by decide +kernel
section OwnHeap
def upd {α : Type} (p : Int32 → α) (j : Int32) (v : α) : Int32 → α := fun i => if i = j then v else p i
def fn4 (p : Int32 → Int32) : List Value := [.int (p 0), .int (p 1), .int (p 2), .int (p 3)]
def fd4 (p : Int32 → UInt64) : List Value := [.double (p 0), .double (p 1), .double (p 2), .double (p 3)]
abbrev In4 (j : Int32) : Prop := j = 0 ∨ j = 1 ∨ j = 2 ∨ j = 3
theorem in4_0 : In4 0 := Or.inl rfl
theorem in4_1 : In4 1 := Or.inr (Or.inl rfl)
theorem in4_2 : In4 2 := Or.inr (Or.inr (Or.inl rfl))
theorem in4_3 : In4 3 := Or.inr (Or.inr (Or.inr rfl))
theorem in4_nn {j : Int32} (h : In4 j) : ¬ j < 0 := by rcases h with rfl | rfl | rfl | rfl <;> decide
theorem in4_at {p : Int32 → Int32} {j v : Int32} (h : In4 j) (q : p j = v) : (fn4 p)[j.toNatClampNeg]? = some (.int v) := by subst q; rcases h with rfl | rfl | rfl | rfl <;> rfl
theorem in4_atd {p : Int32 → UInt64} {j : Int32} {v : UInt64} (h : In4 j) (q : p j = v) : (fd4 p)[j.toNatClampNeg]? = some (.double v) := by subst q; rcases h with rfl | rfl | rfl | rfl <;> rfl
theorem in4_len {p : Int32 → Int32} {j : Int32} (h : In4 j) : j.toNatClampNeg < (fn4 p).length := by rcases h with rfl | rfl | rfl | rfl <;> (show _ < 4) <;> decide
theorem in4_lend {p : Int32 → UInt64} {j : Int32} (h : In4 j) : j.toNatClampNeg < (fd4 p).length := by rcases h with rfl | rfl | rfl | rfl <;> (show _ < 4) <;> decide
theorem in4_set {p : Int32 → Int32} {j v : Int32} (h : In4 j) : (fn4 p).set j.toNatClampNeg (.int v) = fn4 (upd p j v) := by rcases h with rfl | rfl | rfl | rfl <;> rfl
theorem in4_setd {p : Int32 → UInt64} {j : Int32} {v : UInt64} (h : In4 j) : (fd4 p).set j.toNatClampNeg (.double v) = fd4 (upd p j v) := by rcases h with rfl | rfl | rfl | rfl <;> rfl
abbrev HP := (Int32 → Int32) × (Int32 → Int32)
def pl (q : HP) (x k : Int32) : HP := (upd q.1 k x, upd q.2 x k)
def rs0 (bt : Int32 → Int32 → Bool) (q : HP) : HP := pl q (q.1 0) 0
def rs1 (bt : Int32 → Int32 → Bool) (q : HP) : HP := if bt (q.1 1) (q.1 0) = true then pl (pl q (q.1 0) 1) (q.1 1) 0 else pl q (q.1 1) 1
def rs2 (bt : Int32 → Int32 → Bool) (q : HP) : HP := if bt (q.1 2) (q.1 0) = true then pl (pl q (q.1 0) 2) (q.1 2) 0 else pl q (q.1 2) 2
def rs3 (bt : Int32 → Int32 → Bool) (q : HP) : HP := if bt (q.1 3) (q.1 1) = true then (if bt (q.1 3) (q.1 0) = true then pl (pl (pl q (q.1 1) 3) (q.1 0) 1) (q.1 3) 0 else pl (pl q (q.1 1) 3) (q.1 3) 1) else pl q (q.1 3) 3
def sk1 (bt : Int32 → Int32 → Bool) (q : HP) : HP := pl q (q.1 0) 0
def sk2 (bt : Int32 → Int32 → Bool) (q : HP) : HP := if bt (q.1 1) (q.1 0) = true then pl (pl q (q.1 1) 0) (q.1 0) 1 else pl q (q.1 0) 0
def sk3 (bt : Int32 → Int32 → Bool) (q : HP) : HP := if bt (q.1 2) (q.1 1) = true then (if bt (q.1 2) (q.1 0) = true then pl (pl q (q.1 2) 0) (q.1 0) 2 else pl q (q.1 0) 0) else (if bt (q.1 1) (q.1 0) = true then pl (pl q (q.1 1) 0) (q.1 0) 1 else pl q (q.1 0) 0)
def po1 (bt : Int32 → Int32 → Bool) (q : HP) : HP := (q.1, upd q.2 (q.1 0) (-1))
def ps2 (q : HP) : HP := (upd q.1 0 (q.1 1), upd (upd q.2 (q.1 0) (-1)) (q.1 1) 0)
def ps3 (q : HP) : HP := (upd q.1 0 (q.1 2), upd (upd q.2 (q.1 0) (-1)) (q.1 2) 0)
def ps4 (q : HP) : HP := (upd q.1 0 (q.1 3), upd (upd q.2 (q.1 0) (-1)) (q.1 3) 0)
def po2 (bt : Int32 → Int32 → Bool) (q : HP) : HP := sk1 bt (ps2 q)
def po3 (bt : Int32 → Int32 → Bool) (q : HP) : HP := sk2 bt (ps3 q)
def po4 (bt : Int32 → Int32 → Bool) (q : HP) : HP := sk3 bt (ps4 q)
def on (k : Int32) (q : HP) (x : Int32) : HP := (upd q.1 k x, upd q.2 x k)
def BfR (K : Int32 → UInt64) (x y r : Int32) : Prop := (FP.dcmp (K x) (K y) = some .lt ∧ r = 1) ∨ (FP.dcmp (K x) (K y) = some .eq ∧ x < y ∧ r = 1) ∨ (FP.dcmp (K x) (K y) = some .eq ∧ ¬ x < y ∧ r = 0) ∨ (FP.dcmp (K x) (K y) = some .gt ∧ r = 0)
def Bf (K : Int32 → UInt64) (bt : Int32 → Int32 → Bool) (x y : Int32) : Prop := (bt x y = true → BfR K x y 1) ∧ (¬ bt x y = true → BfR K x y 0)
def I4 (s : Nat) (q : HP) : Prop := ∀ j : Nat, j < s → In4 (q.1 (Int32.ofNat j))
def HB (s : Nat) (K : Int32 → UInt64) (bt : Int32 → Int32 → Bool) (q : HP) : Prop := ∀ i j : Nat, i < s → j < s → Bf K bt (q.1 (Int32.ofNat i)) (q.1 (Int32.ofNat j))
theorem own_HB0 {K : Int32 → UInt64} {bt : Int32 → Int32 → Bool} {q : HP} : HB 0 K bt q := fun i j hi => absurd hi (Nat.not_lt_zero _)
abbrev NH (Z : State) (h : Heap) (a hp pp ky : Addr) (sz : Int32) (q : HP) (K : Int32 → UInt64) : Prop := Exa Z h a "com/example/tributary/tributary/plan/NodeHeap" ∧ Fld Z h a "com/example/tributary/tributary/plan/NodeHeap" "heap" "[I" (.ref hp) ∧ Fld Z h a "com/example/tributary/tributary/plan/NodeHeap" "position" "[I" (.ref pp) ∧ Fld Z h a "com/example/tributary/tributary/plan/NodeHeap" "key" "[D" (.ref ky) ∧ Fld Z h a "com/example/tributary/tributary/plan/NodeHeap" "size" "I" (.int sz) ∧ AV Z h hp .int (4 : Int32) (fn4 q.1) ∧ AV Z h pp .int (4 : Int32) (fn4 q.2) ∧ AV Z h ky .double (4 : Int32) (fd4 K)
abbrev Dis (n0 : Nat) (a hp pp ky : Addr) : Prop := n0 ≤ a ∧ n0 ≤ hp ∧ n0 ≤ pp ∧ n0 ≤ ky ∧ a ≠ hp ∧ a ≠ pp ∧ a ≠ ky ∧ hp ≠ pp ∧ hp ≠ ky ∧ pp ≠ ky
end OwnHeap

section OwnOrder
open Jvm.OwnFl
def btB (b01 b02 b03 b12 b13 b23 : Bool) (x y : Int32) : Bool :=
  if x = 0 then (if y = 1 then b01 else if y = 2 then b02 else if y = 3 then b03 else false)
  else if x = 1 then (if y = 0 then !b01 else if y = 2 then b12 else if y = 3 then b13 else false)
  else if x = 2 then (if y = 0 then !b02 else if y = 1 then !b12 else if y = 3 then b23 else false)
  else if x = 3 then (if y = 0 then !b03 else if y = 1 then !b13 else if y = 2 then !b23 else false) else false
def trB (b01 b02 b03 b12 b13 b23 : Bool) : Bool := (!(b01 && b12) || b02) && (!(!b01 && !b12) || !b02) && (!(b01 && b13) || b03) && (!(!b01 && !b13) || !b03) && (!(b02 && b23) || b03) && (!(!b02 && !b23) || !b03) && (!(b12 && b23) || b13) && (!(!b12 && !b23) || !b13)
theorem own_tr (k0 k1 k2 k3 : Int) : trB (decide (k0 ≤ k1)) (decide (k0 ≤ k2)) (decide (k0 ≤ k3)) (decide (k1 ≤ k2)) (decide (k1 ≤ k3)) (decide (k2 ≤ k3)) = true := by
  by_cases a : k0 ≤ k1 <;> by_cases b : k0 ≤ k2 <;> by_cases c : k0 ≤ k3 <;> by_cases d : k1 ≤ k2 <;> by_cases e : k1 ≤ k3 <;> by_cases f : k2 ≤ k3 <;> simp only [a, b, c, d, e, f, decide_true, decide_false] <;> first | rfl | (exfalso; omega)
theorem bf_lt {kf : Int32 → UInt64} {x y : Int32} {i j : Int} (hx : DV (kf x) (i : Rat)) (hy : DV (kf y) (j : Rat)) (h : x < y) : (decide (i ≤ j) = true → BfR kf x y 1) ∧ (¬ decide (i ≤ j) = true → BfR kf x y 0) := by
  constructor
  · intro g
    have g := of_decide_eq_true g
    by_cases e : i = j
    · exact Or.inr (Or.inl ⟨dcmp_eq hx hy (by rw [e]), h, rfl⟩)
    · exact Or.inl ⟨dcmp_lt hx hy (Rat.intCast_lt_intCast.mpr (by omega)), rfl⟩
  · intro g
    have g : ¬ i ≤ j := fun q => g (decide_eq_true q)
    exact Or.inr (Or.inr (Or.inr ⟨dcmp_gt hx hy (Rat.intCast_lt_intCast.mpr (by omega)), rfl⟩))
theorem bf_gt {kf : Int32 → UInt64} {x y : Int32} {i j : Int} (hx : DV (kf x) (i : Rat)) (hy : DV (kf y) (j : Rat)) (h : ¬ x < y) : ((!decide (j ≤ i)) = true → BfR kf x y 1) ∧ (¬ (!decide (j ≤ i)) = true → BfR kf x y 0) := by
  by_cases g : j ≤ i
  · rw [decide_eq_true g]
    refine ⟨fun q => (by cases q), fun _ => ?_⟩
    by_cases e : i = j
    · exact Or.inr (Or.inr (Or.inl ⟨dcmp_eq hx hy (by rw [e]), h, rfl⟩))
    · exact Or.inr (Or.inr (Or.inr ⟨dcmp_gt hx hy (Rat.intCast_lt_intCast.mpr (by omega)), rfl⟩))
  · rw [decide_eq_false g]
    exact ⟨fun _ => Or.inl ⟨dcmp_lt hx hy (Rat.intCast_lt_intCast.mpr (by omega)), rfl⟩, fun q => absurd rfl q⟩
theorem bf_eq {kf : Int32 → UInt64} {x : Int32} {i : Int} (hx : DV (kf x) (i : Rat)) (h : ¬ x < x) : (false = true → BfR kf x x 1) ∧ (¬ false = true → BfR kf x x 0) := ⟨fun q => (by cases q), fun _ => Or.inr (Or.inr (Or.inl ⟨dcmp_eq hx hx rfl, h, rfl⟩))⟩
theorem own_bf {kf : Int32 → UInt64} {k0 k1 k2 k3 : Int} (D0 : DV (kf 0) (k0 : Rat)) (D1 : DV (kf 1) (k1 : Rat)) (D2 : DV (kf 2) (k2 : Rat)) (D3 : DV (kf 3) (k3 : Rat)) (x y : Int32) (hx : In4 x) (hy : In4 y) : Bf kf (btB (decide (k0 ≤ k1)) (decide (k0 ≤ k2)) (decide (k0 ≤ k3)) (decide (k1 ≤ k2)) (decide (k1 ≤ k3)) (decide (k2 ≤ k3))) x y := by
  rcases hx with rfl | rfl | rfl | rfl <;> rcases hy with rfl | rfl | rfl | rfl
  · exact bf_eq D0 (by decide)
  · exact bf_lt D0 D1 (by decide)
  · exact bf_lt D0 D2 (by decide)
  · exact bf_lt D0 D3 (by decide)
  · exact bf_gt D1 D0 (by decide)
  · exact bf_eq D1 (by decide)
  · exact bf_lt D1 D2 (by decide)
  · exact bf_lt D1 D3 (by decide)
  · exact bf_gt D2 D0 (by decide)
  · exact bf_gt D2 D1 (by decide)
  · exact bf_eq D2 (by decide)
  · exact bf_lt D2 D3 (by decide)
  · exact bf_gt D3 D0 (by decide)
  · exact bf_gt D3 D1 (by decide)
  · exact bf_gt D3 D2 (by decide)
  · exact bf_eq D3 (by decide)
theorem Bf.congr {K kf : Int32 → UInt64} {bt : Int32 → Int32 → Bool} {x y : Int32} (h : Bf kf bt x y) (hx : K x = kf x) (hy : K y = kf y) : Bf K bt x y := by
  unfold Bf BfR at *
  rw [hx, hy]
  exact h
def ofb (s : Nat) (q : HP) (ns : List Int32) : Bool := (List.range s).all fun j => ns.contains (q.1 (Int32.ofNat j))
theorem ofb_spec {s : Nat} {q : HP} {ns : List Int32} (h : ofb s q ns = true) (j : Nat) (hj : j < s) : q.1 (Int32.ofNat j) ∈ ns := by
  have := List.all_eq_true.mp h j (List.mem_range.mpr hj)
  simpa using this
theorem own_up {K kf : Int32 → UInt64} {ns : List Int32} (h : ∀ x ∈ ns, K x = kf x) (n : Int32) : ∀ x ∈ n :: ns, (upd K n (kf n)) x = kf x := by
  intro x hx
  unfold upd
  by_cases e : x = n
  · rw [if_pos e, e]
  · rw [if_neg e]
    exact h x ((List.mem_cons.mp hx).resolve_left e)
theorem own_I4 {s : Nat} {q : HP} {ns : List Int32} (h : ofb s q ns = true) (hn : ∀ x ∈ ns, In4 x) : I4 s q := fun j hj => hn _ (ofb_spec h j hj)
theorem own_HB {s : Nat} {q : HP} {ns : List Int32} {K kf : Int32 → UInt64} {bt : Int32 → Int32 → Bool} (h : ofb s q ns = true) (hn : ∀ x ∈ ns, In4 x) (hk : ∀ x ∈ ns, K x = kf x) (hb : ∀ x y, In4 x → In4 y → Bf kf bt x y) : HB s K bt q := fun i j hi hj =>
  (hb _ _ (hn _ (ofb_spec h i hi)) (hn _ (ofb_spec h j hj))).congr (hk _ (ofb_spec h i hi)) (hk _ (ofb_spec h j hj))
abbrev zq : HP := (fun _ => 0, fun _ => -1)
abbrev zk : Int32 → UInt64 := fun _ => 0
end OwnOrder

section OwnLaw
def nd (r fl k : Int32) : Int32 := if fl = 0 then (k + r) &&& 3 else 3 - ((k + r) &&& 3)
def c1 (bt : Int32 → Int32 → Bool) (m0 : Int32) : HP := rs0 bt (on 0 zq m0)
def c2 (bt : Int32 → Int32 → Bool) (m0 m1 : Int32) : HP := rs1 bt (on 1 (c1 bt m0) m1)
def c3 (bt : Int32 → Int32 → Bool) (m0 m1 m2 : Int32) : HP := rs2 bt (on 2 (c2 bt m0 m1) m2)
def c4 (bt : Int32 → Int32 → Bool) (m0 m1 m2 m3 : Int32) : HP := rs3 bt (on 3 (c3 bt m0 m1 m2) m3)
def fin3 (bt : Int32 → Int32 → Bool) (f0 f1 f2 f3 : Int32) : Bool := decide (((((1 : Int32) <<< (f0 &&& 31)) ||| ((1 : Int32) <<< (f1 &&& 31))) ||| ((1 : Int32) <<< (f2 &&& 31))) ||| ((1 : Int32) <<< (f3 &&& 31)) = 15) && bt f0 f1 && bt f1 f2 && bt f2 f3
def pure3 (bt : Int32 → Int32 → Bool) (m0 m1 m2 m3 : Int32) : Bool :=
  [m0, m1, m2, m3].all (fun x => decide (In4 x)) && decide ((c1 bt m0).2 m1 = -1) && decide ((c2 bt m0 m1).2 m2 = -1) && decide ((c3 bt m0 m1 m2).2 m3 = -1) &&
  ofb 1 (on 0 zq m0) [m0] && ofb 2 (on 1 (c1 bt m0) m1) [m1, m0] && ofb 3 (on 2 (c2 bt m0 m1) m2) [m2, m1, m0] && ofb 4 (on 3 (c3 bt m0 m1 m2) m3) [m3, m2, m1, m0] &&
  ofb 4 (c4 bt m0 m1 m2 m3) [m3, m2, m1, m0] && ofb 3 (po4 bt (c4 bt m0 m1 m2 m3)) [m3, m2, m1, m0] && ofb 2 (po3 bt (po4 bt (c4 bt m0 m1 m2 m3))) [m3, m2, m1, m0] && ofb 1 (po2 bt (po3 bt (po4 bt (c4 bt m0 m1 m2 m3)))) [m3, m2, m1, m0] &&
  fin3 bt ((c4 bt m0 m1 m2 m3).1 0) ((po4 bt (c4 bt m0 m1 m2 m3)).1 0) ((po3 bt (po4 bt (c4 bt m0 m1 m2 m3))).1 0) ((po2 bt (po3 bt (po4 bt (c4 bt m0 m1 m2 m3)))).1 0)
set_option maxRecDepth 65536 in
theorem own_pure : ∀ (r : Fin 4) (f b01 b02 b03 b12 b13 b23 : Bool), trB b01 b02 b03 b12 b13 b23 = true → pure3 (btB b01 b02 b03 b12 b13 b23) (nd (Int32.ofNat r.val) (if f then 1 else 0) 0) (nd (Int32.ofNat r.val) (if f then 1 else 0) 1) (nd (Int32.ofNat r.val) (if f then 1 else 0) 2) (nd (Int32.ofNat r.val) (if f then 1 else 0) 3) = true := by decide +kernel
theorem in4_le3 {x : Int32} (h : In4 x) : ¬ (3 : Int32) < x := by rcases h with rfl | rfl | rfl | rfl <;> decide
end OwnLaw
def Q_rmFill (Z : State) (b : Addr) (h0 : Heap) (n0 : Nat) (v : Option Value) (h : Heap) (L : List Loc) : Prop := v = none ∧ Fr n0 L ∧ Keep h0 h [b] ∧ AV Z h b .int (4 : Int32) (fn4 fun _ => -1)
set_option maxRecDepth 65536 in
set_option maxHeartbeats 40000000 in
theorem rmFill (l : Launch) (Z : State) (a0 : Array Value) (hw : ∀ d ∈ tables_1, d.before a0 Z = true) (ws : List Jvm.Cond) (b : Addr) (h0 : Heap) (n0 : Nat) (Zs : n0 ≤ h0.size) (gb : n0 ≤ b) (V_b : AV Z h0 b .int (4 : Int32) [(.int (0 : Int32)), (.int (0 : Int32)), (.int (0 : Int32)), (.int (0 : Int32))]) :
    Con l (⟨"java/util/Arrays", "fill", "([II)V"⟩ : MethodName) jdk_65_method_103_code 4 none ws ({ frames := 0, cells := 0, slots := 0, locals := 0 } : Room) Z #[(.ref b), (.int (-1))] h0 ({ frames := 0, cells := 0, slots := 0, locals := 0 } : Room).cells ({ frames := 0, cells := 0, slots := 0, locals := 0 } : Room).slots (Q_rmFill Z b h0 n0) := by
  refine Con.of (Ls := #[.val (.ref b), .val (.int (-1)), .unset, .unset]) (plainFor_of_name (by first | (simp [plainName, overriddenIn]; done) | decide +kernel)) (fun m => by first | (simp [entryFrame, mkF, argsToLocals, Value.category]; done) | rfl) ?_
  intro p e s m below meth c s₁ G hGe hG hx hby hml hown hnm hrt hlk hZ X0 e0
  have hown : s.vm.findClass "java/util/Arrays" = some m.cls := hown
  have hnm : meth.name = "fill" := hnm
  have NF0 := Fr.nil n0
  have K0 := Keep.refl h0 [b]
  refine g_iconst hG X0 hx (hb hby d4_0) (pc' := 1) rfl (v := (0 : Int32)) rfl ?_
  show G (s₁.setTop (mkF m 1 #[.val (.ref b), .val (.int (-1)), .unset, .unset] [(.int 0)]))
  refine g_istoreN hG X0 hx (hb hby d4_1) (pc' := 2) rfl (Ls' := #[.val (.ref b), .val (.int (-1)), .val (.int 0), .unset]) rfl ?_
  show G (s₁.setTop (mkF m 2 #[.val (.ref b), .val (.int (-1)), .val (.int 0), .unset] []))
  refine g_aloadN hG X0 hx (hb hby d4_2) (pc' := 3) rfl rfl rfl ?_
  show G (s₁.setTop (mkF m 3 #[.val (.ref b), .val (.int (-1)), .val (.int 0), .unset] [(.ref b)]))
  refine g_arraylength hG X0 hx hZ e0 V_b (hb hby d4_3) (pc' := 4) rfl ?_
  show G (s₁.setTop (mkF m 4 #[.val (.ref b), .val (.int (-1)), .val (.int 0), .unset] [(.int 4)]))
  refine g_istoreN hG X0 hx (hb hby d4_4) (pc' := 5) rfl (Ls' := #[.val (.ref b), .val (.int (-1)), .val (.int 0), .val (.int 4)]) rfl ?_
  show G (s₁.setTop (mkF m 5 #[.val (.ref b), .val (.int (-1)), .val (.int 0), .val (.int 4)] []))
  refine g_iloadN hG X0 hx (hb hby d4_5) (pc' := 6) rfl rfl ?_
  show G (s₁.setTop (mkF m 6 #[.val (.ref b), .val (.int (-1)), .val (.int 0), .val (.int 4)] [(.int 0)]))
  refine g_iloadN hG X0 hx (hb hby d4_6) (pc' := 7) rfl rfl ?_
  show G (s₁.setTop (mkF m 7 #[.val (.ref b), .val (.int (-1)), .val (.int 0), .val (.int 4)] [(.int 4), (.int 0)]))
  refine g_icmpNo hG X0 hx (hb hby d4_7) (pc' := 10) (by decide) rfl ?_
  show G (s₁.setTop (mkF m 10 #[.val (.ref b), .val (.int (-1)), .val (.int 0), .val (.int 4)] []))
  refine g_aloadN hG X0 hx (hb hby d4_10) (pc' := 11) rfl rfl rfl ?_
  show G (s₁.setTop (mkF m 11 #[.val (.ref b), .val (.int (-1)), .val (.int 0), .val (.int 4)] [(.ref b)]))
  refine g_iloadN hG X0 hx (hb hby d4_11) (pc' := 12) rfl rfl ?_
  show G (s₁.setTop (mkF m 12 #[.val (.ref b), .val (.int (-1)), .val (.int 0), .val (.int 4)] [(.int 0), (.ref b)]))
  refine g_iloadN hG X0 hx (hb hby d4_12) (pc' := 13) rfl rfl ?_
  show G (s₁.setTop (mkF m 13 #[.val (.ref b), .val (.int (-1)), .val (.int 0), .val (.int 4)] [(.int (-1)), (.int 0), (.ref b)]))
  refine g_iastore hG X0 hx hZ e0 V_b (j := (0 : Int32)) (by decide) (show Int32.toNatClampNeg (0 : Int32) < 4 by decide) (hb hby d4_13) (pc' := 14) rfl ?_
  intro T1 h1 X1 e1 W1 Vn1
  have V_b : AV Z h1 b .int (4 : Int32) [(.int (-1)), (.int 0), (.int 0), (.int 0)] := Vn1
  have Zs := Nat.le_trans Zs (Wr.size W1)
  have NF1 := Fr.snoc X1 NF0 gb
  have K1 := K0.wr W1 (Or.inl (List.mem_of_getElem? (i := 0) rfl))
  show G (T1.setTop (mkF m 14 #[.val (.ref b), .val (.int (-1)), .val (.int 0), .val (.int 4)] []))
  refine g_iinc hG X1 hx (hb hby d4_14) (pc' := 17) rfl rfl (v := (1 : Int32)) (by decide) (Ls' := #[.val (.ref b), .val (.int (-1)), .val (.int 1), .val (.int 4)]) rfl ?_
  show G (T1.setTop (mkF m 17 #[.val (.ref b), .val (.int (-1)), .val (.int 1), .val (.int 4)] []))
  refine g_goto hG X1 hx (hb hby d4_17) (pc' := 5) (by decide) (by decide) ?_
  show G (T1.setTop (mkF m 5 #[.val (.ref b), .val (.int (-1)), .val (.int 1), .val (.int 4)] []))
  refine g_iloadN hG X1 hx (hb hby d4_5) (pc' := 6) rfl rfl ?_
  show G (T1.setTop (mkF m 6 #[.val (.ref b), .val (.int (-1)), .val (.int 1), .val (.int 4)] [(.int 1)]))
  refine g_iloadN hG X1 hx (hb hby d4_6) (pc' := 7) rfl rfl ?_
  show G (T1.setTop (mkF m 7 #[.val (.ref b), .val (.int (-1)), .val (.int 1), .val (.int 4)] [(.int 4), (.int 1)]))
  refine g_icmpNo hG X1 hx (hb hby d4_7) (pc' := 10) (by decide) rfl ?_
  show G (T1.setTop (mkF m 10 #[.val (.ref b), .val (.int (-1)), .val (.int 1), .val (.int 4)] []))
  refine g_aloadN hG X1 hx (hb hby d4_10) (pc' := 11) rfl rfl rfl ?_
  show G (T1.setTop (mkF m 11 #[.val (.ref b), .val (.int (-1)), .val (.int 1), .val (.int 4)] [(.ref b)]))
  refine g_iloadN hG X1 hx (hb hby d4_11) (pc' := 12) rfl rfl ?_
  show G (T1.setTop (mkF m 12 #[.val (.ref b), .val (.int (-1)), .val (.int 1), .val (.int 4)] [(.int 1), (.ref b)]))
  refine g_iloadN hG X1 hx (hb hby d4_12) (pc' := 13) rfl rfl ?_
  show G (T1.setTop (mkF m 13 #[.val (.ref b), .val (.int (-1)), .val (.int 1), .val (.int 4)] [(.int (-1)), (.int 1), (.ref b)]))
  refine g_iastore hG X1 hx hZ e1 V_b (j := (1 : Int32)) (by decide) (show Int32.toNatClampNeg (1 : Int32) < 4 by decide) (hb hby d4_13) (pc' := 14) rfl ?_
  intro T2 h2 X2 e2 W2 Vn2
  have V_b : AV Z h2 b .int (4 : Int32) [(.int (-1)), (.int (-1)), (.int 0), (.int 0)] := Vn2
  have Zs := Nat.le_trans Zs (Wr.size W2)
  have NF2 := Fr.snoc X2 NF1 gb
  have K2 := K1.wr W2 (Or.inl (List.mem_of_getElem? (i := 0) rfl))
  show G (T2.setTop (mkF m 14 #[.val (.ref b), .val (.int (-1)), .val (.int 1), .val (.int 4)] []))
  refine g_iinc hG X2 hx (hb hby d4_14) (pc' := 17) rfl rfl (v := (2 : Int32)) (by decide) (Ls' := #[.val (.ref b), .val (.int (-1)), .val (.int 2), .val (.int 4)]) rfl ?_
  show G (T2.setTop (mkF m 17 #[.val (.ref b), .val (.int (-1)), .val (.int 2), .val (.int 4)] []))
  refine g_goto hG X2 hx (hb hby d4_17) (pc' := 5) (by decide) (by decide) ?_
  show G (T2.setTop (mkF m 5 #[.val (.ref b), .val (.int (-1)), .val (.int 2), .val (.int 4)] []))
  refine g_iloadN hG X2 hx (hb hby d4_5) (pc' := 6) rfl rfl ?_
  show G (T2.setTop (mkF m 6 #[.val (.ref b), .val (.int (-1)), .val (.int 2), .val (.int 4)] [(.int 2)]))
  refine g_iloadN hG X2 hx (hb hby d4_6) (pc' := 7) rfl rfl ?_
  show G (T2.setTop (mkF m 7 #[.val (.ref b), .val (.int (-1)), .val (.int 2), .val (.int 4)] [(.int 4), (.int 2)]))
  refine g_icmpNo hG X2 hx (hb hby d4_7) (pc' := 10) (by decide) rfl ?_
  show G (T2.setTop (mkF m 10 #[.val (.ref b), .val (.int (-1)), .val (.int 2), .val (.int 4)] []))
  refine g_aloadN hG X2 hx (hb hby d4_10) (pc' := 11) rfl rfl rfl ?_
  show G (T2.setTop (mkF m 11 #[.val (.ref b), .val (.int (-1)), .val (.int 2), .val (.int 4)] [(.ref b)]))
  refine g_iloadN hG X2 hx (hb hby d4_11) (pc' := 12) rfl rfl ?_
  show G (T2.setTop (mkF m 12 #[.val (.ref b), .val (.int (-1)), .val (.int 2), .val (.int 4)] [(.int 2), (.ref b)]))
  refine g_iloadN hG X2 hx (hb hby d4_12) (pc' := 13) rfl rfl ?_
  show G (T2.setTop (mkF m 13 #[.val (.ref b), .val (.int (-1)), .val (.int 2), .val (.int 4)] [(.int (-1)), (.int 2), (.ref b)]))
  refine g_iastore hG X2 hx hZ e2 V_b (j := (2 : Int32)) (by decide) (show Int32.toNatClampNeg (2 : Int32) < 4 by decide) (hb hby d4_13) (pc' := 14) rfl ?_
  intro T3 h3 X3 e3 W3 Vn3
  have V_b : AV Z h3 b .int (4 : Int32) [(.int (-1)), (.int (-1)), (.int (-1)), (.int 0)] := Vn3
  have Zs := Nat.le_trans Zs (Wr.size W3)
  have NF3 := Fr.snoc X3 NF2 gb
  have K3 := K2.wr W3 (Or.inl (List.mem_of_getElem? (i := 0) rfl))
  show G (T3.setTop (mkF m 14 #[.val (.ref b), .val (.int (-1)), .val (.int 2), .val (.int 4)] []))
  refine g_iinc hG X3 hx (hb hby d4_14) (pc' := 17) rfl rfl (v := (3 : Int32)) (by decide) (Ls' := #[.val (.ref b), .val (.int (-1)), .val (.int 3), .val (.int 4)]) rfl ?_
  show G (T3.setTop (mkF m 17 #[.val (.ref b), .val (.int (-1)), .val (.int 3), .val (.int 4)] []))
  refine g_goto hG X3 hx (hb hby d4_17) (pc' := 5) (by decide) (by decide) ?_
  show G (T3.setTop (mkF m 5 #[.val (.ref b), .val (.int (-1)), .val (.int 3), .val (.int 4)] []))
  refine g_iloadN hG X3 hx (hb hby d4_5) (pc' := 6) rfl rfl ?_
  show G (T3.setTop (mkF m 6 #[.val (.ref b), .val (.int (-1)), .val (.int 3), .val (.int 4)] [(.int 3)]))
  refine g_iloadN hG X3 hx (hb hby d4_6) (pc' := 7) rfl rfl ?_
  show G (T3.setTop (mkF m 7 #[.val (.ref b), .val (.int (-1)), .val (.int 3), .val (.int 4)] [(.int 4), (.int 3)]))
  refine g_icmpNo hG X3 hx (hb hby d4_7) (pc' := 10) (by decide) rfl ?_
  show G (T3.setTop (mkF m 10 #[.val (.ref b), .val (.int (-1)), .val (.int 3), .val (.int 4)] []))
  refine g_aloadN hG X3 hx (hb hby d4_10) (pc' := 11) rfl rfl rfl ?_
  show G (T3.setTop (mkF m 11 #[.val (.ref b), .val (.int (-1)), .val (.int 3), .val (.int 4)] [(.ref b)]))
  refine g_iloadN hG X3 hx (hb hby d4_11) (pc' := 12) rfl rfl ?_
  show G (T3.setTop (mkF m 12 #[.val (.ref b), .val (.int (-1)), .val (.int 3), .val (.int 4)] [(.int 3), (.ref b)]))
  refine g_iloadN hG X3 hx (hb hby d4_12) (pc' := 13) rfl rfl ?_
  show G (T3.setTop (mkF m 13 #[.val (.ref b), .val (.int (-1)), .val (.int 3), .val (.int 4)] [(.int (-1)), (.int 3), (.ref b)]))
  refine g_iastore hG X3 hx hZ e3 V_b (j := (3 : Int32)) (by decide) (show Int32.toNatClampNeg (3 : Int32) < 4 by decide) (hb hby d4_13) (pc' := 14) rfl ?_
  intro T4 h4 X4 e4 W4 Vn4
  have V_b : AV Z h4 b .int (4 : Int32) [(.int (-1)), (.int (-1)), (.int (-1)), (.int (-1))] := Vn4
  have Zs := Nat.le_trans Zs (Wr.size W4)
  have NF4 := Fr.snoc X4 NF3 gb
  have K4 := K3.wr W4 (Or.inl (List.mem_of_getElem? (i := 0) rfl))
  show G (T4.setTop (mkF m 14 #[.val (.ref b), .val (.int (-1)), .val (.int 3), .val (.int 4)] []))
  refine g_iinc hG X4 hx (hb hby d4_14) (pc' := 17) rfl rfl (v := (4 : Int32)) (by decide) (Ls' := #[.val (.ref b), .val (.int (-1)), .val (.int 4), .val (.int 4)]) rfl ?_
  show G (T4.setTop (mkF m 17 #[.val (.ref b), .val (.int (-1)), .val (.int 4), .val (.int 4)] []))
  refine g_goto hG X4 hx (hb hby d4_17) (pc' := 5) (by decide) (by decide) ?_
  show G (T4.setTop (mkF m 5 #[.val (.ref b), .val (.int (-1)), .val (.int 4), .val (.int 4)] []))
  refine g_iloadN hG X4 hx (hb hby d4_5) (pc' := 6) rfl rfl ?_
  show G (T4.setTop (mkF m 6 #[.val (.ref b), .val (.int (-1)), .val (.int 4), .val (.int 4)] [(.int 4)]))
  refine g_iloadN hG X4 hx (hb hby d4_6) (pc' := 7) rfl rfl ?_
  show G (T4.setTop (mkF m 7 #[.val (.ref b), .val (.int (-1)), .val (.int 4), .val (.int 4)] [(.int 4), (.int 4)]))
  refine g_icmpYes hG X4 hx (hb hby d4_7) (pc' := 20) (by decide) (by decide) (by decide) ?_
  show G (T4.setTop (mkF m 20 #[.val (.ref b), .val (.int (-1)), .val (.int 4), .val (.int 4)] []))
  exact e_ret0 hGe X4 hx hrt hlk (hb hby d4_20) e4 (by decide) (by decide) (⟨rfl, NF4, K4, V_b⟩)

def Q_rmNew (Z : State) (a : Addr) (h0 : Heap) (n0 : Nat) (v : Option Value) (h : Heap) (L : List Loc) : Prop := ∃ hp pp ky : Addr, v = none ∧ Fr n0 L ∧ Keep h0 h [a] ∧ h0.size ≤ hp ∧ h0.size ≤ pp ∧ h0.size ≤ ky ∧ hp ≠ pp ∧ hp ≠ ky ∧ pp ≠ ky ∧ NH Z h a hp pp ky 0 (fun _ => 0, fun _ => -1) (fun _ => 0)
set_option maxRecDepth 65536 in
set_option maxHeartbeats 40000000 in
theorem rmNew (l : Launch) (Z : State) (a0 : Array Value) (hw : ∀ d ∈ tables_1, d.before a0 Z = true) (ws : List Jvm.Cond) (a : Addr) (h0 : Heap) (n0 : Nat) (Zs : n0 ≤ h0.size) (ga : n0 ≤ a) (Ex_a : Exa Z h0 a "com/example/tributary/tributary/plan/NodeHeap") (F_heap_a : Fld Z h0 a "com/example/tributary/tributary/plan/NodeHeap" "heap" "[I" .null) (F_position_a : Fld Z h0 a "com/example/tributary/tributary/plan/NodeHeap" "position" "[I" .null) (F_key_a : Fld Z h0 a "com/example/tributary/tributary/plan/NodeHeap" "key" "[D" .null) (F_size_a : Fld Z h0 a "com/example/tributary/tributary/plan/NodeHeap" "size" "I" (.int (0 : Int32))) :
    Con l (⟨"com/example/tributary/tributary/plan/NodeHeap", "<init>", "(I)V"⟩ : MethodName) prog_39_method_1_code 2 none ws ({ frames := 1, cells := 3, slots := 12, locals := 40 } : Room) Z #[(.ref a), (.int 4)] h0 ({ frames := 1, cells := 3, slots := 12, locals := 40 } : Room).cells ({ frames := 1, cells := 3, slots := 12, locals := 40 } : Room).slots (Q_rmNew Z a h0 n0) := by
  refine Con.of (Ls := #[.val (.ref a), .val (.int 4)]) (plainFor_of_name (by first | (simp [plainName, overriddenIn]; done) | decide +kernel)) (fun m => by first | (simp [entryFrame, mkF, argsToLocals, Value.category]; done) | rfl) ?_
  intro p e s m below meth c s₁ G hGe hG hx hby hml hown hnm hrt hlk hZ X0 e0
  have hown : s.vm.findClass "com/example/tributary/tributary/plan/NodeHeap" = some m.cls := hown
  have hnm : meth.name = "<init>" := hnm
  have NF0 := Fr.nil n0
  have K0 := Keep.refl h0 [a]
  refine g_aloadN hG X0 hx (hb hby d2_0) (pc' := 1) rfl rfl rfl ?_
  show G (s₁.setTop (mkF m 1 #[.val (.ref a), .val (.int 4)] [(.ref a)]))
  refine g_initO hG X0 hx hZ hown (wd hw 11 rfl) (wd hw 12 rfl) (wd hw 13 rfl) e0 (by rw [hml]; rfl) (hb hby d2_1) (by decide) (by decide) (pc' := 4) rfl ?_
  intro T1 X1 e1
  show G (T1.setTop (mkF m 4 #[.val (.ref a), .val (.int 4)] []))
  refine g_aloadN hG X1 hx (hb hby d2_4) (pc' := 5) rfl rfl rfl ?_
  show G (T1.setTop (mkF m 5 #[.val (.ref a), .val (.int 4)] [(.ref a)]))
  refine g_iloadN hG X1 hx (hb hby d2_5) (pc' := 6) rfl rfl ?_
  show G (T1.setTop (mkF m 6 #[.val (.ref a), .val (.int 4)] [(.int 4), (.ref a)]))
  refine g_newP hG X1 hx hZ (wd hw 14 rfl) e1 (hb hby d2_6) (by decide) 4 (by decide) (by decide) (by decide) (by decide) (pc' := 8) rfl ?_
  intro T2 h2 hp kA2 gs2 X2 e2 E2 A2
  have ne_a_hp : a ≠ hp := Nat.ne_of_lt (gs2 ▸ Ex_a.lt)
  have ge_hp : n0 ≤ hp := gs2 ▸ Zs
  have sz_hp : h0.size ≤ hp := gs2 ▸ K0.1
  have Zs := Nat.le_trans Zs E2.1
  have Ex_a := Ex_a.ext E2
  have F_heap_a := F_heap_a.ext E2
  have F_position_a := F_position_a.ext E2
  have F_key_a := F_key_a.ext E2
  have F_size_a := F_size_a.ext E2
  have K2 := K0.ext E2
  have V_hp : AV Z h2 hp .int (4 : Int32) [(.int 0), (.int 0), (.int 0), (.int 0)] := AV.new A2
  show G (T2.setTop (mkF m 8 #[.val (.ref a), .val (.int 4)] [(.ref hp), (.ref a)]))
  refine g_putF hG X2 hx hZ hown (wd hw 15 rfl) Via.refl e2 F_heap_a Ex_a (Or.inr ⟨(wd hw 16 rfl), rfl, hnm⟩) (wd hw 6 rfl) (v' := (.ref hp)) (ty := (.array .int)) (by decide) rfl rfl (hb hby d2_8) (pc' := 11) rfl ?_
  intro T3 h3 X3 e3 W3
  have Ex_a := Ex_a.wr W3
  have F_heap_a := F_heap_a.same W3
  have F_position_a := F_position_a.other W3 (Or.inr (slot_ne (Or.inr (wd hw 18 rfl)) (Or.inr (wd hw 16 rfl)) (by decide) (t := (.array .int)) (t' := (.array .int)) (by decide) (by decide)))
  have F_key_a := F_key_a.other W3 (Or.inr (slot_ne (Or.inr (wd hw 20 rfl)) (Or.inr (wd hw 16 rfl)) (by decide) (t := (.array .double)) (t' := (.array .int)) (by decide) (by decide)))
  have F_size_a := F_size_a.other W3 (Or.inr (slot_ne (Or.inl (wd hw 31 rfl)) (Or.inr (wd hw 16 rfl)) (by decide) (t := .int) (t' := (.array .int)) (by decide) (by decide)))
  have V_hp := V_hp.other W3 (Ne.symm ne_a_hp)
  have Zs := Nat.le_trans Zs (Wr.size W3)
  have NF3 := Fr.snoc X3 NF0 ga
  have K3 := K2.wr W3 (Or.inl (List.mem_of_getElem? (i := 0) rfl))
  show G (T3.setTop (mkF m 11 #[.val (.ref a), .val (.int 4)] []))
  refine g_aloadN hG X3 hx (hb hby d2_11) (pc' := 12) rfl rfl rfl ?_
  show G (T3.setTop (mkF m 12 #[.val (.ref a), .val (.int 4)] [(.ref a)]))
  refine g_iloadN hG X3 hx (hb hby d2_12) (pc' := 13) rfl rfl ?_
  show G (T3.setTop (mkF m 13 #[.val (.ref a), .val (.int 4)] [(.int 4), (.ref a)]))
  refine g_newP hG X3 hx hZ (wd hw 14 rfl) e3 (hb hby d2_13) (by decide) 4 (by decide) (by decide) (by decide) (by decide) (pc' := 15) rfl ?_
  intro T4 h4 pp kA4 gs4 X4 e4 E4 A4
  have ne_a_pp : a ≠ pp := Nat.ne_of_lt (gs4 ▸ Ex_a.lt)
  have ne_hp_pp : hp ≠ pp := Nat.ne_of_lt (gs4 ▸ V_hp.lt)
  have ge_pp : n0 ≤ pp := gs4 ▸ Zs
  have sz_pp : h0.size ≤ pp := gs4 ▸ K3.1
  have Zs := Nat.le_trans Zs E4.1
  have Ex_a := Ex_a.ext E4
  have F_heap_a := F_heap_a.ext E4
  have F_position_a := F_position_a.ext E4
  have F_key_a := F_key_a.ext E4
  have F_size_a := F_size_a.ext E4
  have V_hp := V_hp.ext E4
  have K4 := K3.ext E4
  have V_pp : AV Z h4 pp .int (4 : Int32) [(.int 0), (.int 0), (.int 0), (.int 0)] := AV.new A4
  show G (T4.setTop (mkF m 15 #[.val (.ref a), .val (.int 4)] [(.ref pp), (.ref a)]))
  refine g_putF hG X4 hx hZ hown (wd hw 17 rfl) Via.refl e4 F_position_a Ex_a (Or.inr ⟨(wd hw 18 rfl), rfl, hnm⟩) (wd hw 6 rfl) (v' := (.ref pp)) (ty := (.array .int)) (by decide) rfl rfl (hb hby d2_15) (pc' := 18) rfl ?_
  intro T5 h5 X5 e5 W5
  have Ex_a := Ex_a.wr W5
  have F_heap_a := F_heap_a.other W5 (Or.inr (slot_ne (Or.inr (wd hw 16 rfl)) (Or.inr (wd hw 18 rfl)) (by decide) (t := (.array .int)) (t' := (.array .int)) (by decide) (by decide)))
  have F_position_a := F_position_a.same W5
  have F_key_a := F_key_a.other W5 (Or.inr (slot_ne (Or.inr (wd hw 20 rfl)) (Or.inr (wd hw 18 rfl)) (by decide) (t := (.array .double)) (t' := (.array .int)) (by decide) (by decide)))
  have F_size_a := F_size_a.other W5 (Or.inr (slot_ne (Or.inl (wd hw 31 rfl)) (Or.inr (wd hw 18 rfl)) (by decide) (t := .int) (t' := (.array .int)) (by decide) (by decide)))
  have V_hp := V_hp.other W5 (Ne.symm ne_a_hp)
  have V_pp := V_pp.other W5 (Ne.symm ne_a_pp)
  have Zs := Nat.le_trans Zs (Wr.size W5)
  have NF5 := Fr.snoc X5 NF3 ga
  have K5 := K4.wr W5 (Or.inl (List.mem_of_getElem? (i := 0) rfl))
  show G (T5.setTop (mkF m 18 #[.val (.ref a), .val (.int 4)] []))
  refine g_aloadN hG X5 hx (hb hby d2_18) (pc' := 19) rfl rfl rfl ?_
  show G (T5.setTop (mkF m 19 #[.val (.ref a), .val (.int 4)] [(.ref a)]))
  refine g_iloadN hG X5 hx (hb hby d2_19) (pc' := 20) rfl rfl ?_
  show G (T5.setTop (mkF m 20 #[.val (.ref a), .val (.int 4)] [(.int 4), (.ref a)]))
  refine g_newP hG X5 hx hZ (wd hw 0 rfl) e5 (hb hby d2_20) (by decide) 4 (by decide) (by decide) (by decide) (by decide) (pc' := 22) rfl ?_
  intro T6 h6 ky kA6 gs6 X6 e6 E6 A6
  have ne_a_ky : a ≠ ky := Nat.ne_of_lt (gs6 ▸ Ex_a.lt)
  have ne_hp_ky : hp ≠ ky := Nat.ne_of_lt (gs6 ▸ V_hp.lt)
  have ne_pp_ky : pp ≠ ky := Nat.ne_of_lt (gs6 ▸ V_pp.lt)
  have ge_ky : n0 ≤ ky := gs6 ▸ Zs
  have sz_ky : h0.size ≤ ky := gs6 ▸ K5.1
  have Zs := Nat.le_trans Zs E6.1
  have Ex_a := Ex_a.ext E6
  have F_heap_a := F_heap_a.ext E6
  have F_position_a := F_position_a.ext E6
  have F_key_a := F_key_a.ext E6
  have F_size_a := F_size_a.ext E6
  have V_hp := V_hp.ext E6
  have V_pp := V_pp.ext E6
  have K6 := K5.ext E6
  have V_ky : AV Z h6 ky .double (4 : Int32) [(.double 0), (.double 0), (.double 0), (.double 0)] := AV.new A6
  show G (T6.setTop (mkF m 22 #[.val (.ref a), .val (.int 4)] [(.ref ky), (.ref a)]))
  refine g_putF hG X6 hx hZ hown (wd hw 19 rfl) Via.refl e6 F_key_a Ex_a (Or.inr ⟨(wd hw 20 rfl), rfl, hnm⟩) (wd hw 6 rfl) (v' := (.ref ky)) (ty := (.array .double)) (by decide) rfl rfl (hb hby d2_22) (pc' := 25) rfl ?_
  intro T7 h7 X7 e7 W7
  have Ex_a := Ex_a.wr W7
  have F_heap_a := F_heap_a.other W7 (Or.inr (slot_ne (Or.inr (wd hw 16 rfl)) (Or.inr (wd hw 20 rfl)) (by decide) (t := (.array .int)) (t' := (.array .double)) (by decide) (by decide)))
  have F_position_a := F_position_a.other W7 (Or.inr (slot_ne (Or.inr (wd hw 18 rfl)) (Or.inr (wd hw 20 rfl)) (by decide) (t := (.array .int)) (t' := (.array .double)) (by decide) (by decide)))
  have F_key_a := F_key_a.same W7
  have F_size_a := F_size_a.other W7 (Or.inr (slot_ne (Or.inl (wd hw 31 rfl)) (Or.inr (wd hw 20 rfl)) (by decide) (t := .int) (t' := (.array .double)) (by decide) (by decide)))
  have V_hp := V_hp.other W7 (Ne.symm ne_a_hp)
  have V_pp := V_pp.other W7 (Ne.symm ne_a_pp)
  have V_ky := V_ky.other W7 (Ne.symm ne_a_ky)
  have Zs := Nat.le_trans Zs (Wr.size W7)
  have NF7 := Fr.snoc X7 NF5 ga
  have K7 := K6.wr W7 (Or.inl (List.mem_of_getElem? (i := 0) rfl))
  show G (T7.setTop (mkF m 25 #[.val (.ref a), .val (.int 4)] []))
  refine g_aloadN hG X7 hx (hb hby d2_25) (pc' := 26) rfl rfl rfl ?_
  show G (T7.setTop (mkF m 26 #[.val (.ref a), .val (.int 4)] [(.ref a)]))
  refine g_getF hG X7 hx hZ hown (wd hw 17 rfl) Via.refl e7 F_position_a (hb hby d2_26) (pc' := 29) rfl ?_
  intro T8 X8 e8
  show G (T8.setTop (mkF m 29 #[.val (.ref a), .val (.int 4)] [(.ref pp)]))
  refine g_iconst hG X8 hx (hb hby d2_29) (pc' := 30) rfl (v := (-1 : Int32)) rfl ?_
  show G (T8.setTop (mkF m 30 #[.val (.ref a), .val (.int 4)] [(.int (-1)), (.ref pp)]))
  refine g_callS hG X8 hx hZ (y := (⟨"java/util/Arrays", "fill", "([II)V"⟩ : MethodName)) 0 hown (wd hw 21 rfl) (wd hw 22 rfl) (wd hw 23 rfl) (wd hw 24 rfl) (by decide) (rmFill l Z a0 hw [] pp h7 n0 Zs ge_pp V_pp) (by decide) (by decide) (by rw [hml]; rfl) pd_0 rfl (argsL := [(.ref pp), (.int (-1))]) (rest := []) rfl rfl (Nat.le_of_eq rfl) (hb hby d2_30) e8 (by decide) (by decide) (pc' := 33) rfl ?_
  intro T9 rv9 L9 X9 hQ9
  obtain ⟨rfl, Nq9, Kq9, V_pp⟩ := hQ9
  have NF9 := Fr.app NF7 Nq9
  have Ex_a := Ex_a.keep Kq9
  have F_heap_a := F_heap_a.keep Kq9 (ninS ne_a_pp nin0)
  have F_position_a := F_position_a.keep Kq9 (ninS ne_a_pp nin0)
  have F_key_a := F_key_a.keep Kq9 (ninS ne_a_pp nin0)
  have F_size_a := F_size_a.keep Kq9 (ninS ne_a_pp nin0)
  have V_hp := V_hp.keep Kq9 (ninS ne_hp_pp nin0)
  have V_ky := V_ky.keep Kq9 (ninS (Ne.symm ne_pp_ky) nin0)
  have Zs := Nat.le_trans Zs Kq9.1
  have K9 := K7.trans Kq9 (allS (Or.inr sz_pp) all0)
  show G (T9.setTop (mkF m 33 #[.val (.ref a), .val (.int 4)] []))
  exact e_ret0 hGe X9 hx hrt hlk (hb hby d2_33) rfl (by decide) (by decide) (⟨hp, pp, ky, rfl, NF9, K9, sz_hp, sz_pp, sz_ky, ne_hp_pp, ne_hp_ky, ne_pp_ky, ⟨Ex_a, F_heap_a, F_position_a, F_key_a, F_size_a, V_hp, V_pp, V_ky⟩⟩)

def Q_rmEm0 (Z : State) (a hp pp ky : Addr) (q : HP) (K : Int32 → UInt64) (h0 : Heap) (n0 : Nat) (v : Option Value) (h : Heap) (L : List Loc) : Prop := v = some (.int 1) ∧ Fr n0 L ∧ h = h0
set_option maxRecDepth 65536 in
set_option maxHeartbeats 40000000 in
theorem rmEm0 (l : Launch) (Z : State) (a0 : Array Value) (hw : ∀ d ∈ tables_1, d.before a0 Z = true) (ws : List Jvm.Cond) (a hp pp ky : Addr) (q : HP) (K : Int32 → UInt64) (h0 : Heap) (n0 : Nat) (Zs : n0 ≤ h0.size) (NQ : NH Z h0 a hp pp ky (0 : Int32) q K) (DD : Dis n0 a hp pp ky) :
    Con l (⟨"com/example/tributary/tributary/plan/NodeHeap", "isEmpty", "()Z"⟩ : MethodName) prog_39_method_2_code 1 (some .boolean) ws ({ frames := 0, cells := 0, slots := 0, locals := 0 } : Room) Z #[(.ref a)] h0 ({ frames := 0, cells := 0, slots := 0, locals := 0 } : Room).cells ({ frames := 0, cells := 0, slots := 0, locals := 0 } : Room).slots (Q_rmEm0 Z a hp pp ky q K h0 n0) := by
  refine Con.of (Ls := #[.val (.ref a)]) (plainFor_of_name (by first | (simp [plainName, overriddenIn]; done) | decide +kernel)) (fun m => by first | (simp [entryFrame, mkF, argsToLocals, Value.category]; done) | rfl) ?_
  intro p e s m below meth c s₁ G hGe hG hx hby hml hown hnm hrt hlk hZ X0 e0
  have hown : s.vm.findClass "com/example/tributary/tributary/plan/NodeHeap" = some m.cls := hown
  have hnm : meth.name = "isEmpty" := hnm
  have NF0 := Fr.nil n0
  obtain ⟨Ex_a, F_heap_a, F_position_a, F_key_a, F_size_a, V_hp, V_pp, V_ky⟩ := NQ
  obtain ⟨ga, ghp, gpp, gky, d1, d2, d3, d4, d5, d6⟩ := DD
  refine g_aloadN hG X0 hx (hb hby d11_0) (pc' := 1) rfl rfl rfl ?_
  show G (s₁.setTop (mkF m 1 #[.val (.ref a)] [(.ref a)]))
  refine g_getF hG X0 hx hZ hown (wd hw 30 rfl) Via.refl e0 F_size_a (hb hby d11_1) (pc' := 4) rfl ?_
  intro T1 X1 e1
  show G (T1.setTop (mkF m 4 #[.val (.ref a)] [(.int 0)]))
  refine g_ifNo hG X1 hx (hb hby d11_4) (pc' := 7) (by decide) rfl ?_
  show G (T1.setTop (mkF m 7 #[.val (.ref a)] []))
  refine g_iconst hG X1 hx (hb hby d11_7) (pc' := 8) rfl (v := (1 : Int32)) rfl ?_
  show G (T1.setTop (mkF m 8 #[.val (.ref a)] [(.int 1)]))
  refine g_goto hG X1 hx (hb hby d11_8) (pc' := 12) (by decide) (by decide) ?_
  show G (T1.setTop (mkF m 12 #[.val (.ref a)] [(.int 1)]))
  exact e_retZ hGe X1 hx hrt hlk (hb hby d11_12) (Or.inr rfl) e1 (by decide) (by decide) (⟨rfl, NF0, rfl⟩)

def Q_rmEm1 (Z : State) (a hp pp ky : Addr) (q : HP) (K : Int32 → UInt64) (h0 : Heap) (n0 : Nat) (v : Option Value) (h : Heap) (L : List Loc) : Prop := v = some (.int 0) ∧ Fr n0 L ∧ h = h0
set_option maxRecDepth 65536 in
set_option maxHeartbeats 40000000 in
theorem rmEm1 (l : Launch) (Z : State) (a0 : Array Value) (hw : ∀ d ∈ tables_1, d.before a0 Z = true) (ws : List Jvm.Cond) (a hp pp ky : Addr) (q : HP) (K : Int32 → UInt64) (h0 : Heap) (n0 : Nat) (Zs : n0 ≤ h0.size) (NQ : NH Z h0 a hp pp ky (1 : Int32) q K) (DD : Dis n0 a hp pp ky) :
    Con l (⟨"com/example/tributary/tributary/plan/NodeHeap", "isEmpty", "()Z"⟩ : MethodName) prog_39_method_2_code 1 (some .boolean) ws ({ frames := 0, cells := 0, slots := 0, locals := 0 } : Room) Z #[(.ref a)] h0 ({ frames := 0, cells := 0, slots := 0, locals := 0 } : Room).cells ({ frames := 0, cells := 0, slots := 0, locals := 0 } : Room).slots (Q_rmEm1 Z a hp pp ky q K h0 n0) := by
  refine Con.of (Ls := #[.val (.ref a)]) (plainFor_of_name (by first | (simp [plainName, overriddenIn]; done) | decide +kernel)) (fun m => by first | (simp [entryFrame, mkF, argsToLocals, Value.category]; done) | rfl) ?_
  intro p e s m below meth c s₁ G hGe hG hx hby hml hown hnm hrt hlk hZ X0 e0
  have hown : s.vm.findClass "com/example/tributary/tributary/plan/NodeHeap" = some m.cls := hown
  have hnm : meth.name = "isEmpty" := hnm
  have NF0 := Fr.nil n0
  obtain ⟨Ex_a, F_heap_a, F_position_a, F_key_a, F_size_a, V_hp, V_pp, V_ky⟩ := NQ
  obtain ⟨ga, ghp, gpp, gky, d1, d2, d3, d4, d5, d6⟩ := DD
  refine g_aloadN hG X0 hx (hb hby d11_0) (pc' := 1) rfl rfl rfl ?_
  show G (s₁.setTop (mkF m 1 #[.val (.ref a)] [(.ref a)]))
  refine g_getF hG X0 hx hZ hown (wd hw 30 rfl) Via.refl e0 F_size_a (hb hby d11_1) (pc' := 4) rfl ?_
  intro T1 X1 e1
  show G (T1.setTop (mkF m 4 #[.val (.ref a)] [(.int 1)]))
  refine g_ifYes hG X1 hx (hb hby d11_4) (pc' := 11) (by decide) (by decide) (by decide) ?_
  show G (T1.setTop (mkF m 11 #[.val (.ref a)] []))
  refine g_iconst hG X1 hx (hb hby d11_11) (pc' := 12) rfl (v := (0 : Int32)) rfl ?_
  show G (T1.setTop (mkF m 12 #[.val (.ref a)] [(.int 0)]))
  exact e_retZ hGe X1 hx hrt hlk (hb hby d11_12) (Or.inl rfl) e1 (by decide) (by decide) (⟨rfl, NF0, rfl⟩)

def Q_rmEm2 (Z : State) (a hp pp ky : Addr) (q : HP) (K : Int32 → UInt64) (h0 : Heap) (n0 : Nat) (v : Option Value) (h : Heap) (L : List Loc) : Prop := v = some (.int 0) ∧ Fr n0 L ∧ h = h0
set_option maxRecDepth 65536 in
set_option maxHeartbeats 40000000 in
theorem rmEm2 (l : Launch) (Z : State) (a0 : Array Value) (hw : ∀ d ∈ tables_1, d.before a0 Z = true) (ws : List Jvm.Cond) (a hp pp ky : Addr) (q : HP) (K : Int32 → UInt64) (h0 : Heap) (n0 : Nat) (Zs : n0 ≤ h0.size) (NQ : NH Z h0 a hp pp ky (2 : Int32) q K) (DD : Dis n0 a hp pp ky) :
    Con l (⟨"com/example/tributary/tributary/plan/NodeHeap", "isEmpty", "()Z"⟩ : MethodName) prog_39_method_2_code 1 (some .boolean) ws ({ frames := 0, cells := 0, slots := 0, locals := 0 } : Room) Z #[(.ref a)] h0 ({ frames := 0, cells := 0, slots := 0, locals := 0 } : Room).cells ({ frames := 0, cells := 0, slots := 0, locals := 0 } : Room).slots (Q_rmEm2 Z a hp pp ky q K h0 n0) := by
  refine Con.of (Ls := #[.val (.ref a)]) (plainFor_of_name (by first | (simp [plainName, overriddenIn]; done) | decide +kernel)) (fun m => by first | (simp [entryFrame, mkF, argsToLocals, Value.category]; done) | rfl) ?_
  intro p e s m below meth c s₁ G hGe hG hx hby hml hown hnm hrt hlk hZ X0 e0
  have hown : s.vm.findClass "com/example/tributary/tributary/plan/NodeHeap" = some m.cls := hown
  have hnm : meth.name = "isEmpty" := hnm
  have NF0 := Fr.nil n0
  obtain ⟨Ex_a, F_heap_a, F_position_a, F_key_a, F_size_a, V_hp, V_pp, V_ky⟩ := NQ
  obtain ⟨ga, ghp, gpp, gky, d1, d2, d3, d4, d5, d6⟩ := DD
  refine g_aloadN hG X0 hx (hb hby d11_0) (pc' := 1) rfl rfl rfl ?_
  show G (s₁.setTop (mkF m 1 #[.val (.ref a)] [(.ref a)]))
  refine g_getF hG X0 hx hZ hown (wd hw 30 rfl) Via.refl e0 F_size_a (hb hby d11_1) (pc' := 4) rfl ?_
  intro T1 X1 e1
  show G (T1.setTop (mkF m 4 #[.val (.ref a)] [(.int 2)]))
  refine g_ifYes hG X1 hx (hb hby d11_4) (pc' := 11) (by decide) (by decide) (by decide) ?_
  show G (T1.setTop (mkF m 11 #[.val (.ref a)] []))
  refine g_iconst hG X1 hx (hb hby d11_11) (pc' := 12) rfl (v := (0 : Int32)) rfl ?_
  show G (T1.setTop (mkF m 12 #[.val (.ref a)] [(.int 0)]))
  exact e_retZ hGe X1 hx hrt hlk (hb hby d11_12) (Or.inl rfl) e1 (by decide) (by decide) (⟨rfl, NF0, rfl⟩)

def Q_rmEm3 (Z : State) (a hp pp ky : Addr) (q : HP) (K : Int32 → UInt64) (h0 : Heap) (n0 : Nat) (v : Option Value) (h : Heap) (L : List Loc) : Prop := v = some (.int 0) ∧ Fr n0 L ∧ h = h0
set_option maxRecDepth 65536 in
set_option maxHeartbeats 40000000 in
theorem rmEm3 (l : Launch) (Z : State) (a0 : Array Value) (hw : ∀ d ∈ tables_1, d.before a0 Z = true) (ws : List Jvm.Cond) (a hp pp ky : Addr) (q : HP) (K : Int32 → UInt64) (h0 : Heap) (n0 : Nat) (Zs : n0 ≤ h0.size) (NQ : NH Z h0 a hp pp ky (3 : Int32) q K) (DD : Dis n0 a hp pp ky) :
    Con l (⟨"com/example/tributary/tributary/plan/NodeHeap", "isEmpty", "()Z"⟩ : MethodName) prog_39_method_2_code 1 (some .boolean) ws ({ frames := 0, cells := 0, slots := 0, locals := 0 } : Room) Z #[(.ref a)] h0 ({ frames := 0, cells := 0, slots := 0, locals := 0 } : Room).cells ({ frames := 0, cells := 0, slots := 0, locals := 0 } : Room).slots (Q_rmEm3 Z a hp pp ky q K h0 n0) := by
  refine Con.of (Ls := #[.val (.ref a)]) (plainFor_of_name (by first | (simp [plainName, overriddenIn]; done) | decide +kernel)) (fun m => by first | (simp [entryFrame, mkF, argsToLocals, Value.category]; done) | rfl) ?_
  intro p e s m below meth c s₁ G hGe hG hx hby hml hown hnm hrt hlk hZ X0 e0
  have hown : s.vm.findClass "com/example/tributary/tributary/plan/NodeHeap" = some m.cls := hown
  have hnm : meth.name = "isEmpty" := hnm
  have NF0 := Fr.nil n0
  obtain ⟨Ex_a, F_heap_a, F_position_a, F_key_a, F_size_a, V_hp, V_pp, V_ky⟩ := NQ
  obtain ⟨ga, ghp, gpp, gky, d1, d2, d3, d4, d5, d6⟩ := DD
  refine g_aloadN hG X0 hx (hb hby d11_0) (pc' := 1) rfl rfl rfl ?_
  show G (s₁.setTop (mkF m 1 #[.val (.ref a)] [(.ref a)]))
  refine g_getF hG X0 hx hZ hown (wd hw 30 rfl) Via.refl e0 F_size_a (hb hby d11_1) (pc' := 4) rfl ?_
  intro T1 X1 e1
  show G (T1.setTop (mkF m 4 #[.val (.ref a)] [(.int 3)]))
  refine g_ifYes hG X1 hx (hb hby d11_4) (pc' := 11) (by decide) (by decide) (by decide) ?_
  show G (T1.setTop (mkF m 11 #[.val (.ref a)] []))
  refine g_iconst hG X1 hx (hb hby d11_11) (pc' := 12) rfl (v := (0 : Int32)) rfl ?_
  show G (T1.setTop (mkF m 12 #[.val (.ref a)] [(.int 0)]))
  exact e_retZ hGe X1 hx hrt hlk (hb hby d11_12) (Or.inl rfl) e1 (by decide) (by decide) (⟨rfl, NF0, rfl⟩)

def Q_rmEm4 (Z : State) (a hp pp ky : Addr) (q : HP) (K : Int32 → UInt64) (h0 : Heap) (n0 : Nat) (v : Option Value) (h : Heap) (L : List Loc) : Prop := v = some (.int 0) ∧ Fr n0 L ∧ h = h0
set_option maxRecDepth 65536 in
set_option maxHeartbeats 40000000 in
theorem rmEm4 (l : Launch) (Z : State) (a0 : Array Value) (hw : ∀ d ∈ tables_1, d.before a0 Z = true) (ws : List Jvm.Cond) (a hp pp ky : Addr) (q : HP) (K : Int32 → UInt64) (h0 : Heap) (n0 : Nat) (Zs : n0 ≤ h0.size) (NQ : NH Z h0 a hp pp ky (4 : Int32) q K) (DD : Dis n0 a hp pp ky) :
    Con l (⟨"com/example/tributary/tributary/plan/NodeHeap", "isEmpty", "()Z"⟩ : MethodName) prog_39_method_2_code 1 (some .boolean) ws ({ frames := 0, cells := 0, slots := 0, locals := 0 } : Room) Z #[(.ref a)] h0 ({ frames := 0, cells := 0, slots := 0, locals := 0 } : Room).cells ({ frames := 0, cells := 0, slots := 0, locals := 0 } : Room).slots (Q_rmEm4 Z a hp pp ky q K h0 n0) := by
  refine Con.of (Ls := #[.val (.ref a)]) (plainFor_of_name (by first | (simp [plainName, overriddenIn]; done) | decide +kernel)) (fun m => by first | (simp [entryFrame, mkF, argsToLocals, Value.category]; done) | rfl) ?_
  intro p e s m below meth c s₁ G hGe hG hx hby hml hown hnm hrt hlk hZ X0 e0
  have hown : s.vm.findClass "com/example/tributary/tributary/plan/NodeHeap" = some m.cls := hown
  have hnm : meth.name = "isEmpty" := hnm
  have NF0 := Fr.nil n0
  obtain ⟨Ex_a, F_heap_a, F_position_a, F_key_a, F_size_a, V_hp, V_pp, V_ky⟩ := NQ
  obtain ⟨ga, ghp, gpp, gky, d1, d2, d3, d4, d5, d6⟩ := DD
  refine g_aloadN hG X0 hx (hb hby d11_0) (pc' := 1) rfl rfl rfl ?_
  show G (s₁.setTop (mkF m 1 #[.val (.ref a)] [(.ref a)]))
  refine g_getF hG X0 hx hZ hown (wd hw 30 rfl) Via.refl e0 F_size_a (hb hby d11_1) (pc' := 4) rfl ?_
  intro T1 X1 e1
  show G (T1.setTop (mkF m 4 #[.val (.ref a)] [(.int 4)]))
  refine g_ifYes hG X1 hx (hb hby d11_4) (pc' := 11) (by decide) (by decide) (by decide) ?_
  show G (T1.setTop (mkF m 11 #[.val (.ref a)] []))
  refine g_iconst hG X1 hx (hb hby d11_11) (pc' := 12) rfl (v := (0 : Int32)) rfl ?_
  show G (T1.setTop (mkF m 12 #[.val (.ref a)] [(.int 0)]))
  exact e_retZ hGe X1 hx hrt hlk (hb hby d11_12) (Or.inl rfl) e1 (by decide) (by decide) (⟨rfl, NF0, rfl⟩)

def Q_rmPl (Z : State) (a hp pp ky : Addr) (sz : Int32) (q : HP) (K : Int32 → UInt64) (x k : Int32) (h0 : Heap) (n0 : Nat) (v : Option Value) (h : Heap) (L : List Loc) : Prop := v = none ∧ Fr n0 L ∧ Keep h0 h [a, hp, pp, ky] ∧ NH Z h a hp pp ky sz (pl q x k) K
set_option maxRecDepth 65536 in
set_option maxHeartbeats 40000000 in
theorem rmPl (l : Launch) (Z : State) (a0 : Array Value) (hw : ∀ d ∈ tables_1, d.before a0 Z = true) (ws : List Jvm.Cond) (a hp pp ky : Addr) (sz : Int32) (q : HP) (K : Int32 → UInt64) (x k : Int32) (h0 : Heap) (n0 : Nat) (Zs : n0 ≤ h0.size) (NQ : NH Z h0 a hp pp ky sz q K) (DD : Dis n0 a hp pp ky) (ix : In4 x) (ik : In4 k) :
    Con l (⟨"com/example/tributary/tributary/plan/NodeHeap", "place", "(II)V"⟩ : MethodName) prog_39_method_8_code 3 none ws ({ frames := 0, cells := 0, slots := 0, locals := 0 } : Room) Z #[(.ref a), (.int x), (.int k)] h0 ({ frames := 0, cells := 0, slots := 0, locals := 0 } : Room).cells ({ frames := 0, cells := 0, slots := 0, locals := 0 } : Room).slots (Q_rmPl Z a hp pp ky sz q K x k h0 n0) := by
  refine Con.of (Ls := #[.val (.ref a), .val (.int x), .val (.int k)]) (plainFor_of_name (by first | (simp [plainName, overriddenIn]; done) | decide +kernel)) (fun m => by first | (simp [entryFrame, mkF, argsToLocals, Value.category]; done) | rfl) ?_
  intro p e s m below meth c s₁ G hGe hG hx hby hml hown hnm hrt hlk hZ X0 e0
  have hown : s.vm.findClass "com/example/tributary/tributary/plan/NodeHeap" = some m.cls := hown
  have hnm : meth.name = "place" := hnm
  have NF0 := Fr.nil n0
  obtain ⟨Ex_a, F_heap_a, F_position_a, F_key_a, F_size_a, V_hp, V_pp, V_ky⟩ := NQ
  obtain ⟨ga, ghp, gpp, gky, d1, d2, d3, d4, d5, d6⟩ := DD
  have K0 := Keep.refl h0 [a, hp, pp, ky]
  refine g_aloadN hG X0 hx (hb hby d7_0) (pc' := 1) rfl rfl rfl ?_
  show G (s₁.setTop (mkF m 1 #[.val (.ref a), .val (.int x), .val (.int k)] [(.ref a)]))
  refine g_getF hG X0 hx hZ hown (wd hw 15 rfl) Via.refl e0 F_heap_a (hb hby d7_1) (pc' := 4) rfl ?_
  intro T1 X1 e1
  show G (T1.setTop (mkF m 4 #[.val (.ref a), .val (.int x), .val (.int k)] [(.ref hp)]))
  refine g_iloadN hG X1 hx (hb hby d7_4) (pc' := 5) rfl rfl ?_
  show G (T1.setTop (mkF m 5 #[.val (.ref a), .val (.int x), .val (.int k)] [(.int k), (.ref hp)]))
  refine g_iloadN hG X1 hx (hb hby d7_5) (pc' := 6) rfl rfl ?_
  show G (T1.setTop (mkF m 6 #[.val (.ref a), .val (.int x), .val (.int k)] [(.int x), (.int k), (.ref hp)]))
  refine g_iastore hG X1 hx hZ e1 V_hp (j := k) (in4_nn ik) (in4_len ik) (hb hby d7_6) (pc' := 7) rfl ?_
  intro T2 h2 X2 e2 W2 Vn2
  rw [in4_set ik] at Vn2
  have V_hp : AV Z h2 hp .int (4 : Int32) (fn4 (upd q.1 k x)) := Vn2
  have Ex_a := Ex_a.wr W2
  have F_heap_a := F_heap_a.other W2 (Or.inl d1)
  have F_position_a := F_position_a.other W2 (Or.inl d1)
  have F_key_a := F_key_a.other W2 (Or.inl d1)
  have F_size_a := F_size_a.other W2 (Or.inl d1)
  have V_pp := V_pp.other W2 (Ne.symm d4)
  have V_ky := V_ky.other W2 (Ne.symm d5)
  have Zs := Nat.le_trans Zs (Wr.size W2)
  have NF2 := Fr.snoc X2 NF0 ghp
  have K2 := K0.wr W2 (Or.inl (List.mem_of_getElem? (i := 1) rfl))
  show G (T2.setTop (mkF m 7 #[.val (.ref a), .val (.int x), .val (.int k)] []))
  refine g_aloadN hG X2 hx (hb hby d7_7) (pc' := 8) rfl rfl rfl ?_
  show G (T2.setTop (mkF m 8 #[.val (.ref a), .val (.int x), .val (.int k)] [(.ref a)]))
  refine g_getF hG X2 hx hZ hown (wd hw 17 rfl) Via.refl e2 F_position_a (hb hby d7_8) (pc' := 11) rfl ?_
  intro T3 X3 e3
  show G (T3.setTop (mkF m 11 #[.val (.ref a), .val (.int x), .val (.int k)] [(.ref pp)]))
  refine g_iloadN hG X3 hx (hb hby d7_11) (pc' := 12) rfl rfl ?_
  show G (T3.setTop (mkF m 12 #[.val (.ref a), .val (.int x), .val (.int k)] [(.int x), (.ref pp)]))
  refine g_iloadN hG X3 hx (hb hby d7_12) (pc' := 13) rfl rfl ?_
  show G (T3.setTop (mkF m 13 #[.val (.ref a), .val (.int x), .val (.int k)] [(.int k), (.int x), (.ref pp)]))
  refine g_iastore hG X3 hx hZ e3 V_pp (j := x) (in4_nn ix) (in4_len ix) (hb hby d7_13) (pc' := 14) rfl ?_
  intro T4 h4 X4 e4 W4 Vn4
  rw [in4_set ix] at Vn4
  have V_pp : AV Z h4 pp .int (4 : Int32) (fn4 (upd q.2 x k)) := Vn4
  have Ex_a := Ex_a.wr W4
  have F_heap_a := F_heap_a.other W4 (Or.inl d2)
  have F_position_a := F_position_a.other W4 (Or.inl d2)
  have F_key_a := F_key_a.other W4 (Or.inl d2)
  have F_size_a := F_size_a.other W4 (Or.inl d2)
  have V_hp := V_hp.other W4 d4
  have V_ky := V_ky.other W4 (Ne.symm d6)
  have Zs := Nat.le_trans Zs (Wr.size W4)
  have NF4 := Fr.snoc X4 NF2 gpp
  have K4 := K2.wr W4 (Or.inl (List.mem_of_getElem? (i := 2) rfl))
  show G (T4.setTop (mkF m 14 #[.val (.ref a), .val (.int x), .val (.int k)] []))
  exact e_ret0 hGe X4 hx hrt hlk (hb hby d7_14) e4 (by decide) (by decide) (⟨rfl, NF4, K4, Ex_a, F_heap_a, F_position_a, F_key_a, F_size_a, V_hp, V_pp, V_ky⟩)

def Q_rmBe (Z : State) (a hp pp ky : Addr) (sz : Int32) (q : HP) (K : Int32 → UInt64) (x y r : Int32) (h0 : Heap) (n0 : Nat) (v : Option Value) (h : Heap) (L : List Loc) : Prop := v = some (.int r) ∧ Fr n0 L ∧ h = h0
set_option maxRecDepth 65536 in
set_option maxHeartbeats 40000000 in
theorem rmBe (l : Launch) (Z : State) (a0 : Array Value) (hw : ∀ d ∈ tables_1, d.before a0 Z = true) (ws : List Jvm.Cond) (a hp pp ky : Addr) (sz : Int32) (q : HP) (K : Int32 → UInt64) (x y r : Int32) (h0 : Heap) (n0 : Nat) (Zs : n0 ≤ h0.size) (NQ : NH Z h0 a hp pp ky sz q K) (DD : Dis n0 a hp pp ky) (ix : In4 x) (iy : In4 y) (hb : BfR K x y r) :
    Con l (⟨"com/example/tributary/tributary/plan/NodeHeap", "before", "(II)Z"⟩ : MethodName) prog_39_method_5_code 3 (some .boolean) ws ({ frames := 0, cells := 0, slots := 0, locals := 0 } : Room) Z #[(.ref a), (.int x), (.int y)] h0 ({ frames := 0, cells := 0, slots := 0, locals := 0 } : Room).cells ({ frames := 0, cells := 0, slots := 0, locals := 0 } : Room).slots (Q_rmBe Z a hp pp ky sz q K x y r h0 n0) := by
  refine Con.of (Ls := #[.val (.ref a), .val (.int x), .val (.int y)]) (plainFor_of_name (by first | (simp [plainName, overriddenIn]; done) | decide +kernel)) (fun m => by first | (simp [entryFrame, mkF, argsToLocals, Value.category]; done) | rfl) ?_
  intro p e s m below meth c s₁ G hGe hG hx hby hml hown hnm hrt hlk hZ X0 e0
  have hown : s.vm.findClass "com/example/tributary/tributary/plan/NodeHeap" = some m.cls := hown
  have hnm : meth.name = "before" := hnm
  have NF0 := Fr.nil n0
  obtain ⟨Ex_a, F_heap_a, F_position_a, F_key_a, F_size_a, V_hp, V_pp, V_ky⟩ := NQ
  obtain ⟨ga, ghp, gpp, gky, d1, d2, d3, d4, d5, d6⟩ := DD
  rcases hb with ⟨c1, hr⟩ | ⟨c1, c2, hr⟩ | ⟨c1, c2, hr⟩ | ⟨c1, hr⟩
  · skip
    refine g_aloadN hG X0 hx (hb hby d8_0) (pc' := 1) rfl rfl rfl ?_
    show G (s₁.setTop (mkF m 1 #[.val (.ref a), .val (.int x), .val (.int y)] [(.ref a)]))
    refine g_getF hG X0 hx hZ hown (wd hw 19 rfl) Via.refl e0 F_key_a (hb hby d8_1) (pc' := 4) rfl ?_
    intro T1 X1 e1
    show G (T1.setTop (mkF m 4 #[.val (.ref a), .val (.int x), .val (.int y)] [(.ref ky)]))
    refine g_iloadN hG X1 hx (hb hby d8_4) (pc' := 5) rfl rfl ?_
    show G (T1.setTop (mkF m 5 #[.val (.ref a), .val (.int x), .val (.int y)] [(.int x), (.ref ky)]))
    refine g_daload hG X1 hx hZ e1 V_ky (j := x) (v := (.double (K x))) (in4_nn ix) (in4_atd ix rfl) (hb hby d8_5) (pc' := 6) rfl ?_
    show G (T1.setTop (mkF m 6 #[.val (.ref a), .val (.int x), .val (.int y)] [(.double (K x))]))
    refine g_aloadN hG X1 hx (hb hby d8_6) (pc' := 7) rfl rfl rfl ?_
    show G (T1.setTop (mkF m 7 #[.val (.ref a), .val (.int x), .val (.int y)] [(.ref a), (.double (K x))]))
    refine g_getF hG X1 hx hZ hown (wd hw 19 rfl) Via.refl e1 F_key_a (hb hby d8_7) (pc' := 10) rfl ?_
    intro T2 X2 e2
    show G (T2.setTop (mkF m 10 #[.val (.ref a), .val (.int x), .val (.int y)] [(.ref ky), (.double (K x))]))
    refine g_iloadN hG X2 hx (hb hby d8_10) (pc' := 11) rfl rfl ?_
    show G (T2.setTop (mkF m 11 #[.val (.ref a), .val (.int x), .val (.int y)] [(.int y), (.ref ky), (.double (K x))]))
    refine g_daload hG X2 hx hZ e2 V_ky (j := y) (v := (.double (K y))) (in4_nn iy) (in4_atd iy rfl) (hb hby d8_11) (pc' := 12) rfl ?_
    show G (T2.setTop (mkF m 12 #[.val (.ref a), .val (.int x), .val (.int y)] [(.double (K y)), (.double (K x))]))
    obtain ⟨v12, q12⟩ : ∃ zz : Int32, cmpValue (FP.dcmp (K x) (K y)) .g = zz := ⟨_, rfl⟩
    refine g_dcmp hG X2 hx (hb hby d8_12) (pc' := 13) rfl q12 ?_
    show G (T2.setTop (mkF m 13 #[.val (.ref a), .val (.int x), .val (.int y)] [(.int v12)]))
    refine g_ifYes hG X2 hx (hb hby d8_13) (pc' := 37) (by rw [← q12, c1]; rfl) (by decide) (by decide) ?_
    show G (T2.setTop (mkF m 37 #[.val (.ref a), .val (.int x), .val (.int y)] []))
    refine g_iconst hG X2 hx (hb hby d8_37) (pc' := 38) rfl (v := (1 : Int32)) rfl ?_
    show G (T2.setTop (mkF m 38 #[.val (.ref a), .val (.int x), .val (.int y)] [(.int 1)]))
    refine g_goto hG X2 hx (hb hby d8_38) (pc' := 42) (by decide) (by decide) ?_
    show G (T2.setTop (mkF m 42 #[.val (.ref a), .val (.int x), .val (.int y)] [(.int 1)]))
    exact e_retZ hGe X2 hx hrt hlk (hb hby d8_42) (Or.inr rfl) e2 (by decide) (by decide) (⟨by rw [hr], NF0, rfl⟩)
  · skip
    refine g_aloadN hG X0 hx (hb hby d8_0) (pc' := 1) rfl rfl rfl ?_
    show G (s₁.setTop (mkF m 1 #[.val (.ref a), .val (.int x), .val (.int y)] [(.ref a)]))
    refine g_getF hG X0 hx hZ hown (wd hw 19 rfl) Via.refl e0 F_key_a (hb hby d8_1) (pc' := 4) rfl ?_
    intro T3 X3 e3
    show G (T3.setTop (mkF m 4 #[.val (.ref a), .val (.int x), .val (.int y)] [(.ref ky)]))
    refine g_iloadN hG X3 hx (hb hby d8_4) (pc' := 5) rfl rfl ?_
    show G (T3.setTop (mkF m 5 #[.val (.ref a), .val (.int x), .val (.int y)] [(.int x), (.ref ky)]))
    refine g_daload hG X3 hx hZ e3 V_ky (j := x) (v := (.double (K x))) (in4_nn ix) (in4_atd ix rfl) (hb hby d8_5) (pc' := 6) rfl ?_
    show G (T3.setTop (mkF m 6 #[.val (.ref a), .val (.int x), .val (.int y)] [(.double (K x))]))
    refine g_aloadN hG X3 hx (hb hby d8_6) (pc' := 7) rfl rfl rfl ?_
    show G (T3.setTop (mkF m 7 #[.val (.ref a), .val (.int x), .val (.int y)] [(.ref a), (.double (K x))]))
    refine g_getF hG X3 hx hZ hown (wd hw 19 rfl) Via.refl e3 F_key_a (hb hby d8_7) (pc' := 10) rfl ?_
    intro T4 X4 e4
    show G (T4.setTop (mkF m 10 #[.val (.ref a), .val (.int x), .val (.int y)] [(.ref ky), (.double (K x))]))
    refine g_iloadN hG X4 hx (hb hby d8_10) (pc' := 11) rfl rfl ?_
    show G (T4.setTop (mkF m 11 #[.val (.ref a), .val (.int x), .val (.int y)] [(.int y), (.ref ky), (.double (K x))]))
    refine g_daload hG X4 hx hZ e4 V_ky (j := y) (v := (.double (K y))) (in4_nn iy) (in4_atd iy rfl) (hb hby d8_11) (pc' := 12) rfl ?_
    show G (T4.setTop (mkF m 12 #[.val (.ref a), .val (.int x), .val (.int y)] [(.double (K y)), (.double (K x))]))
    obtain ⟨v12, q12⟩ : ∃ zz : Int32, cmpValue (FP.dcmp (K x) (K y)) .g = zz := ⟨_, rfl⟩
    refine g_dcmp hG X4 hx (hb hby d8_12) (pc' := 13) rfl q12 ?_
    show G (T4.setTop (mkF m 13 #[.val (.ref a), .val (.int x), .val (.int y)] [(.int v12)]))
    refine g_ifNo hG X4 hx (hb hby d8_13) (pc' := 16) (by rw [← q12, c1]; rfl) rfl ?_
    show G (T4.setTop (mkF m 16 #[.val (.ref a), .val (.int x), .val (.int y)] []))
    refine g_aloadN hG X4 hx (hb hby d8_16) (pc' := 17) rfl rfl rfl ?_
    show G (T4.setTop (mkF m 17 #[.val (.ref a), .val (.int x), .val (.int y)] [(.ref a)]))
    refine g_getF hG X4 hx hZ hown (wd hw 19 rfl) Via.refl e4 F_key_a (hb hby d8_17) (pc' := 20) rfl ?_
    intro T5 X5 e5
    show G (T5.setTop (mkF m 20 #[.val (.ref a), .val (.int x), .val (.int y)] [(.ref ky)]))
    refine g_iloadN hG X5 hx (hb hby d8_20) (pc' := 21) rfl rfl ?_
    show G (T5.setTop (mkF m 21 #[.val (.ref a), .val (.int x), .val (.int y)] [(.int x), (.ref ky)]))
    refine g_daload hG X5 hx hZ e5 V_ky (j := x) (v := (.double (K x))) (in4_nn ix) (in4_atd ix rfl) (hb hby d8_21) (pc' := 22) rfl ?_
    show G (T5.setTop (mkF m 22 #[.val (.ref a), .val (.int x), .val (.int y)] [(.double (K x))]))
    refine g_aloadN hG X5 hx (hb hby d8_22) (pc' := 23) rfl rfl rfl ?_
    show G (T5.setTop (mkF m 23 #[.val (.ref a), .val (.int x), .val (.int y)] [(.ref a), (.double (K x))]))
    refine g_getF hG X5 hx hZ hown (wd hw 19 rfl) Via.refl e5 F_key_a (hb hby d8_23) (pc' := 26) rfl ?_
    intro T6 X6 e6
    show G (T6.setTop (mkF m 26 #[.val (.ref a), .val (.int x), .val (.int y)] [(.ref ky), (.double (K x))]))
    refine g_iloadN hG X6 hx (hb hby d8_26) (pc' := 27) rfl rfl ?_
    show G (T6.setTop (mkF m 27 #[.val (.ref a), .val (.int x), .val (.int y)] [(.int y), (.ref ky), (.double (K x))]))
    refine g_daload hG X6 hx hZ e6 V_ky (j := y) (v := (.double (K y))) (in4_nn iy) (in4_atd iy rfl) (hb hby d8_27) (pc' := 28) rfl ?_
    show G (T6.setTop (mkF m 28 #[.val (.ref a), .val (.int x), .val (.int y)] [(.double (K y)), (.double (K x))]))
    obtain ⟨v28, q28⟩ : ∃ zz : Int32, cmpValue (FP.dcmp (K x) (K y)) .l = zz := ⟨_, rfl⟩
    refine g_dcmp hG X6 hx (hb hby d8_28) (pc' := 29) rfl q28 ?_
    show G (T6.setTop (mkF m 29 #[.val (.ref a), .val (.int x), .val (.int y)] [(.int v28)]))
    refine g_ifNo hG X6 hx (hb hby d8_29) (pc' := 32) (by rw [← q28, c1]; rfl) rfl ?_
    show G (T6.setTop (mkF m 32 #[.val (.ref a), .val (.int x), .val (.int y)] []))
    refine g_iloadN hG X6 hx (hb hby d8_32) (pc' := 33) rfl rfl ?_
    show G (T6.setTop (mkF m 33 #[.val (.ref a), .val (.int x), .val (.int y)] [(.int x)]))
    refine g_iloadN hG X6 hx (hb hby d8_33) (pc' := 34) rfl rfl ?_
    show G (T6.setTop (mkF m 34 #[.val (.ref a), .val (.int x), .val (.int y)] [(.int y), (.int x)]))
    refine g_icmpNo hG X6 hx (hb hby d8_34) (pc' := 37) ((tlt c2).2.1) rfl ?_
    show G (T6.setTop (mkF m 37 #[.val (.ref a), .val (.int x), .val (.int y)] []))
    refine g_iconst hG X6 hx (hb hby d8_37) (pc' := 38) rfl (v := (1 : Int32)) rfl ?_
    show G (T6.setTop (mkF m 38 #[.val (.ref a), .val (.int x), .val (.int y)] [(.int 1)]))
    refine g_goto hG X6 hx (hb hby d8_38) (pc' := 42) (by decide) (by decide) ?_
    show G (T6.setTop (mkF m 42 #[.val (.ref a), .val (.int x), .val (.int y)] [(.int 1)]))
    exact e_retZ hGe X6 hx hrt hlk (hb hby d8_42) (Or.inr rfl) e6 (by decide) (by decide) (⟨by rw [hr], NF0, rfl⟩)
  · skip
    refine g_aloadN hG X0 hx (hb hby d8_0) (pc' := 1) rfl rfl rfl ?_
    show G (s₁.setTop (mkF m 1 #[.val (.ref a), .val (.int x), .val (.int y)] [(.ref a)]))
    refine g_getF hG X0 hx hZ hown (wd hw 19 rfl) Via.refl e0 F_key_a (hb hby d8_1) (pc' := 4) rfl ?_
    intro T7 X7 e7
    show G (T7.setTop (mkF m 4 #[.val (.ref a), .val (.int x), .val (.int y)] [(.ref ky)]))
    refine g_iloadN hG X7 hx (hb hby d8_4) (pc' := 5) rfl rfl ?_
    show G (T7.setTop (mkF m 5 #[.val (.ref a), .val (.int x), .val (.int y)] [(.int x), (.ref ky)]))
    refine g_daload hG X7 hx hZ e7 V_ky (j := x) (v := (.double (K x))) (in4_nn ix) (in4_atd ix rfl) (hb hby d8_5) (pc' := 6) rfl ?_
    show G (T7.setTop (mkF m 6 #[.val (.ref a), .val (.int x), .val (.int y)] [(.double (K x))]))
    refine g_aloadN hG X7 hx (hb hby d8_6) (pc' := 7) rfl rfl rfl ?_
    show G (T7.setTop (mkF m 7 #[.val (.ref a), .val (.int x), .val (.int y)] [(.ref a), (.double (K x))]))
    refine g_getF hG X7 hx hZ hown (wd hw 19 rfl) Via.refl e7 F_key_a (hb hby d8_7) (pc' := 10) rfl ?_
    intro T8 X8 e8
    show G (T8.setTop (mkF m 10 #[.val (.ref a), .val (.int x), .val (.int y)] [(.ref ky), (.double (K x))]))
    refine g_iloadN hG X8 hx (hb hby d8_10) (pc' := 11) rfl rfl ?_
    show G (T8.setTop (mkF m 11 #[.val (.ref a), .val (.int x), .val (.int y)] [(.int y), (.ref ky), (.double (K x))]))
    refine g_daload hG X8 hx hZ e8 V_ky (j := y) (v := (.double (K y))) (in4_nn iy) (in4_atd iy rfl) (hb hby d8_11) (pc' := 12) rfl ?_
    show G (T8.setTop (mkF m 12 #[.val (.ref a), .val (.int x), .val (.int y)] [(.double (K y)), (.double (K x))]))
    obtain ⟨v12, q12⟩ : ∃ zz : Int32, cmpValue (FP.dcmp (K x) (K y)) .g = zz := ⟨_, rfl⟩
    refine g_dcmp hG X8 hx (hb hby d8_12) (pc' := 13) rfl q12 ?_
    show G (T8.setTop (mkF m 13 #[.val (.ref a), .val (.int x), .val (.int y)] [(.int v12)]))
    refine g_ifNo hG X8 hx (hb hby d8_13) (pc' := 16) (by rw [← q12, c1]; rfl) rfl ?_
    show G (T8.setTop (mkF m 16 #[.val (.ref a), .val (.int x), .val (.int y)] []))
    refine g_aloadN hG X8 hx (hb hby d8_16) (pc' := 17) rfl rfl rfl ?_
    show G (T8.setTop (mkF m 17 #[.val (.ref a), .val (.int x), .val (.int y)] [(.ref a)]))
    refine g_getF hG X8 hx hZ hown (wd hw 19 rfl) Via.refl e8 F_key_a (hb hby d8_17) (pc' := 20) rfl ?_
    intro T9 X9 e9
    show G (T9.setTop (mkF m 20 #[.val (.ref a), .val (.int x), .val (.int y)] [(.ref ky)]))
    refine g_iloadN hG X9 hx (hb hby d8_20) (pc' := 21) rfl rfl ?_
    show G (T9.setTop (mkF m 21 #[.val (.ref a), .val (.int x), .val (.int y)] [(.int x), (.ref ky)]))
    refine g_daload hG X9 hx hZ e9 V_ky (j := x) (v := (.double (K x))) (in4_nn ix) (in4_atd ix rfl) (hb hby d8_21) (pc' := 22) rfl ?_
    show G (T9.setTop (mkF m 22 #[.val (.ref a), .val (.int x), .val (.int y)] [(.double (K x))]))
    refine g_aloadN hG X9 hx (hb hby d8_22) (pc' := 23) rfl rfl rfl ?_
    show G (T9.setTop (mkF m 23 #[.val (.ref a), .val (.int x), .val (.int y)] [(.ref a), (.double (K x))]))
    refine g_getF hG X9 hx hZ hown (wd hw 19 rfl) Via.refl e9 F_key_a (hb hby d8_23) (pc' := 26) rfl ?_
    intro T10 X10 e10
    show G (T10.setTop (mkF m 26 #[.val (.ref a), .val (.int x), .val (.int y)] [(.ref ky), (.double (K x))]))
    refine g_iloadN hG X10 hx (hb hby d8_26) (pc' := 27) rfl rfl ?_
    show G (T10.setTop (mkF m 27 #[.val (.ref a), .val (.int x), .val (.int y)] [(.int y), (.ref ky), (.double (K x))]))
    refine g_daload hG X10 hx hZ e10 V_ky (j := y) (v := (.double (K y))) (in4_nn iy) (in4_atd iy rfl) (hb hby d8_27) (pc' := 28) rfl ?_
    show G (T10.setTop (mkF m 28 #[.val (.ref a), .val (.int x), .val (.int y)] [(.double (K y)), (.double (K x))]))
    obtain ⟨v28, q28⟩ : ∃ zz : Int32, cmpValue (FP.dcmp (K x) (K y)) .l = zz := ⟨_, rfl⟩
    refine g_dcmp hG X10 hx (hb hby d8_28) (pc' := 29) rfl q28 ?_
    show G (T10.setTop (mkF m 29 #[.val (.ref a), .val (.int x), .val (.int y)] [(.int v28)]))
    refine g_ifNo hG X10 hx (hb hby d8_29) (pc' := 32) (by rw [← q28, c1]; rfl) rfl ?_
    show G (T10.setTop (mkF m 32 #[.val (.ref a), .val (.int x), .val (.int y)] []))
    refine g_iloadN hG X10 hx (hb hby d8_32) (pc' := 33) rfl rfl ?_
    show G (T10.setTop (mkF m 33 #[.val (.ref a), .val (.int x), .val (.int y)] [(.int x)]))
    refine g_iloadN hG X10 hx (hb hby d8_33) (pc' := 34) rfl rfl ?_
    show G (T10.setTop (mkF m 34 #[.val (.ref a), .val (.int x), .val (.int y)] [(.int y), (.int x)]))
    refine g_icmpYes hG X10 hx (hb hby d8_34) (pc' := 41) ((flt c2).2.1) (by decide) (by decide) ?_
    show G (T10.setTop (mkF m 41 #[.val (.ref a), .val (.int x), .val (.int y)] []))
    refine g_iconst hG X10 hx (hb hby d8_41) (pc' := 42) rfl (v := (0 : Int32)) rfl ?_
    show G (T10.setTop (mkF m 42 #[.val (.ref a), .val (.int x), .val (.int y)] [(.int 0)]))
    exact e_retZ hGe X10 hx hrt hlk (hb hby d8_42) (Or.inl rfl) e10 (by decide) (by decide) (⟨by rw [hr], NF0, rfl⟩)
  · skip
    refine g_aloadN hG X0 hx (hb hby d8_0) (pc' := 1) rfl rfl rfl ?_
    show G (s₁.setTop (mkF m 1 #[.val (.ref a), .val (.int x), .val (.int y)] [(.ref a)]))
    refine g_getF hG X0 hx hZ hown (wd hw 19 rfl) Via.refl e0 F_key_a (hb hby d8_1) (pc' := 4) rfl ?_
    intro T11 X11 e11
    show G (T11.setTop (mkF m 4 #[.val (.ref a), .val (.int x), .val (.int y)] [(.ref ky)]))
    refine g_iloadN hG X11 hx (hb hby d8_4) (pc' := 5) rfl rfl ?_
    show G (T11.setTop (mkF m 5 #[.val (.ref a), .val (.int x), .val (.int y)] [(.int x), (.ref ky)]))
    refine g_daload hG X11 hx hZ e11 V_ky (j := x) (v := (.double (K x))) (in4_nn ix) (in4_atd ix rfl) (hb hby d8_5) (pc' := 6) rfl ?_
    show G (T11.setTop (mkF m 6 #[.val (.ref a), .val (.int x), .val (.int y)] [(.double (K x))]))
    refine g_aloadN hG X11 hx (hb hby d8_6) (pc' := 7) rfl rfl rfl ?_
    show G (T11.setTop (mkF m 7 #[.val (.ref a), .val (.int x), .val (.int y)] [(.ref a), (.double (K x))]))
    refine g_getF hG X11 hx hZ hown (wd hw 19 rfl) Via.refl e11 F_key_a (hb hby d8_7) (pc' := 10) rfl ?_
    intro T12 X12 e12
    show G (T12.setTop (mkF m 10 #[.val (.ref a), .val (.int x), .val (.int y)] [(.ref ky), (.double (K x))]))
    refine g_iloadN hG X12 hx (hb hby d8_10) (pc' := 11) rfl rfl ?_
    show G (T12.setTop (mkF m 11 #[.val (.ref a), .val (.int x), .val (.int y)] [(.int y), (.ref ky), (.double (K x))]))
    refine g_daload hG X12 hx hZ e12 V_ky (j := y) (v := (.double (K y))) (in4_nn iy) (in4_atd iy rfl) (hb hby d8_11) (pc' := 12) rfl ?_
    show G (T12.setTop (mkF m 12 #[.val (.ref a), .val (.int x), .val (.int y)] [(.double (K y)), (.double (K x))]))
    obtain ⟨v12, q12⟩ : ∃ zz : Int32, cmpValue (FP.dcmp (K x) (K y)) .g = zz := ⟨_, rfl⟩
    refine g_dcmp hG X12 hx (hb hby d8_12) (pc' := 13) rfl q12 ?_
    show G (T12.setTop (mkF m 13 #[.val (.ref a), .val (.int x), .val (.int y)] [(.int v12)]))
    refine g_ifNo hG X12 hx (hb hby d8_13) (pc' := 16) (by rw [← q12, c1]; rfl) rfl ?_
    show G (T12.setTop (mkF m 16 #[.val (.ref a), .val (.int x), .val (.int y)] []))
    refine g_aloadN hG X12 hx (hb hby d8_16) (pc' := 17) rfl rfl rfl ?_
    show G (T12.setTop (mkF m 17 #[.val (.ref a), .val (.int x), .val (.int y)] [(.ref a)]))
    refine g_getF hG X12 hx hZ hown (wd hw 19 rfl) Via.refl e12 F_key_a (hb hby d8_17) (pc' := 20) rfl ?_
    intro T13 X13 e13
    show G (T13.setTop (mkF m 20 #[.val (.ref a), .val (.int x), .val (.int y)] [(.ref ky)]))
    refine g_iloadN hG X13 hx (hb hby d8_20) (pc' := 21) rfl rfl ?_
    show G (T13.setTop (mkF m 21 #[.val (.ref a), .val (.int x), .val (.int y)] [(.int x), (.ref ky)]))
    refine g_daload hG X13 hx hZ e13 V_ky (j := x) (v := (.double (K x))) (in4_nn ix) (in4_atd ix rfl) (hb hby d8_21) (pc' := 22) rfl ?_
    show G (T13.setTop (mkF m 22 #[.val (.ref a), .val (.int x), .val (.int y)] [(.double (K x))]))
    refine g_aloadN hG X13 hx (hb hby d8_22) (pc' := 23) rfl rfl rfl ?_
    show G (T13.setTop (mkF m 23 #[.val (.ref a), .val (.int x), .val (.int y)] [(.ref a), (.double (K x))]))
    refine g_getF hG X13 hx hZ hown (wd hw 19 rfl) Via.refl e13 F_key_a (hb hby d8_23) (pc' := 26) rfl ?_
    intro T14 X14 e14
    show G (T14.setTop (mkF m 26 #[.val (.ref a), .val (.int x), .val (.int y)] [(.ref ky), (.double (K x))]))
    refine g_iloadN hG X14 hx (hb hby d8_26) (pc' := 27) rfl rfl ?_
    show G (T14.setTop (mkF m 27 #[.val (.ref a), .val (.int x), .val (.int y)] [(.int y), (.ref ky), (.double (K x))]))
    refine g_daload hG X14 hx hZ e14 V_ky (j := y) (v := (.double (K y))) (in4_nn iy) (in4_atd iy rfl) (hb hby d8_27) (pc' := 28) rfl ?_
    show G (T14.setTop (mkF m 28 #[.val (.ref a), .val (.int x), .val (.int y)] [(.double (K y)), (.double (K x))]))
    obtain ⟨v28, q28⟩ : ∃ zz : Int32, cmpValue (FP.dcmp (K x) (K y)) .l = zz := ⟨_, rfl⟩
    refine g_dcmp hG X14 hx (hb hby d8_28) (pc' := 29) rfl q28 ?_
    show G (T14.setTop (mkF m 29 #[.val (.ref a), .val (.int x), .val (.int y)] [(.int v28)]))
    refine g_ifYes hG X14 hx (hb hby d8_29) (pc' := 41) (by rw [← q28, c1]; rfl) (by decide) (by decide) ?_
    show G (T14.setTop (mkF m 41 #[.val (.ref a), .val (.int x), .val (.int y)] []))
    refine g_iconst hG X14 hx (hb hby d8_41) (pc' := 42) rfl (v := (0 : Int32)) rfl ?_
    show G (T14.setTop (mkF m 42 #[.val (.ref a), .val (.int x), .val (.int y)] [(.int 0)]))
    exact e_retZ hGe X14 hx hrt hlk (hb hby d8_42) (Or.inl rfl) e14 (by decide) (by decide) (⟨by rw [hr], NF0, rfl⟩)

def Q_rmRs0 (Z : State) (a hp pp ky : Addr) (sz : Int32) (q : HP) (K : Int32 → UInt64) (bt : Int32 → Int32 → Bool) (h0 : Heap) (n0 : Nat) (v : Option Value) (h : Heap) (L : List Loc) : Prop := v = none ∧ Fr n0 L ∧ Keep h0 h [a, hp, pp, ky] ∧ NH Z h a hp pp ky sz (rs0 bt q) K
set_option maxRecDepth 65536 in
set_option maxHeartbeats 40000000 in
theorem rmRs0 (l : Launch) (Z : State) (a0 : Array Value) (hw : ∀ d ∈ tables_1, d.before a0 Z = true) (ws : List Jvm.Cond) (a hp pp ky : Addr) (sz : Int32) (q : HP) (K : Int32 → UInt64) (bt : Int32 → Int32 → Bool) (h0 : Heap) (n0 : Nat) (Zs : n0 ≤ h0.size) (NQ : NH Z h0 a hp pp ky sz q K) (DD : Dis n0 a hp pp ky) (ii : I4 1 q) (hbb : HB 0 K bt q) :
    Con l (⟨"com/example/tributary/tributary/plan/NodeHeap", "rise", "(I)V"⟩ : MethodName) prog_39_method_6_code 4 none ws ({ frames := 1, cells := 0, slots := 0, locals := 24 } : Room) Z #[(.ref a), (.int 0)] h0 ({ frames := 1, cells := 0, slots := 0, locals := 24 } : Room).cells ({ frames := 1, cells := 0, slots := 0, locals := 24 } : Room).slots (Q_rmRs0 Z a hp pp ky sz q K bt h0 n0) := by
  refine Con.of (Ls := #[.val (.ref a), .val (.int 0), .unset, .unset]) (plainFor_of_name (by first | (simp [plainName, overriddenIn]; done) | decide +kernel)) (fun m => by first | (simp [entryFrame, mkF, argsToLocals, Value.category]; done) | rfl) ?_
  intro p e s m below meth c s₁ G hGe hG hx hby hml hown hnm hrt hlk hZ X0 e0
  have hown : s.vm.findClass "com/example/tributary/tributary/plan/NodeHeap" = some m.cls := hown
  have hnm : meth.name = "rise" := hnm
  have NF0 := Fr.nil n0
  obtain ⟨Ex_a, F_heap_a, F_position_a, F_key_a, F_size_a, V_hp, V_pp, V_ky⟩ := NQ
  obtain ⟨ga, ghp, gpp, gky, d1, d2, d3, d4, d5, d6⟩ := DD
  have K0 := Keep.refl h0 [a, hp, pp, ky]
  refine g_aloadN hG X0 hx (hb hby d6_0) (pc' := 1) rfl rfl rfl ?_
  show G (s₁.setTop (mkF m 1 #[.val (.ref a), .val (.int 0), .unset, .unset] [(.ref a)]))
  refine g_getF hG X0 hx hZ hown (wd hw 15 rfl) Via.refl e0 F_heap_a (hb hby d6_1) (pc' := 4) rfl ?_
  intro T1 X1 e1
  show G (T1.setTop (mkF m 4 #[.val (.ref a), .val (.int 0), .unset, .unset] [(.ref hp)]))
  refine g_iloadN hG X1 hx (hb hby d6_4) (pc' := 5) rfl rfl ?_
  show G (T1.setTop (mkF m 5 #[.val (.ref a), .val (.int 0), .unset, .unset] [(.int 0), (.ref hp)]))
  refine g_iaload hG X1 hx hZ e1 V_hp (j := (0 : Int32)) (v := (.int (q.1 (0 : Int32)))) (in4_nn in4_0) (in4_at in4_0 rfl) (hb hby d6_5) (pc' := 6) rfl ?_
  show G (T1.setTop (mkF m 6 #[.val (.ref a), .val (.int 0), .unset, .unset] [(.int (q.1 (0 : Int32)))]))
  refine g_istoreN hG X1 hx (hb hby d6_6) (pc' := 7) rfl (Ls' := #[.val (.ref a), .val (.int 0), .val (.int (q.1 (0 : Int32))), .unset]) rfl ?_
  show G (T1.setTop (mkF m 7 #[.val (.ref a), .val (.int 0), .val (.int (q.1 (0 : Int32))), .unset] []))
  refine g_iloadN hG X1 hx (hb hby d6_7) (pc' := 8) rfl rfl ?_
  show G (T1.setTop (mkF m 8 #[.val (.ref a), .val (.int 0), .val (.int (q.1 (0 : Int32))), .unset] [(.int 0)]))
  refine g_ifYes hG X1 hx (hb hby d6_8) (pc' := 50) (by decide) (by decide) (by decide) ?_
  show G (T1.setTop (mkF m 50 #[.val (.ref a), .val (.int 0), .val (.int (q.1 (0 : Int32))), .unset] []))
  refine g_aloadN hG X1 hx (hb hby d6_50) (pc' := 51) rfl rfl rfl ?_
  show G (T1.setTop (mkF m 51 #[.val (.ref a), .val (.int 0), .val (.int (q.1 (0 : Int32))), .unset] [(.ref a)]))
  refine g_iloadN hG X1 hx (hb hby d6_51) (pc' := 52) rfl rfl ?_
  show G (T1.setTop (mkF m 52 #[.val (.ref a), .val (.int 0), .val (.int (q.1 (0 : Int32))), .unset] [(.int (q.1 (0 : Int32))), (.ref a)]))
  refine g_iloadN hG X1 hx (hb hby d6_52) (pc' := 53) rfl rfl ?_
  show G (T1.setTop (mkF m 53 #[.val (.ref a), .val (.int 0), .val (.int (q.1 (0 : Int32))), .unset] [(.int 0), (.int (q.1 (0 : Int32))), (.ref a)]))
  refine g_callP hG X1 hx hZ (y := (⟨"com/example/tributary/tributary/plan/NodeHeap", "place", "(II)V"⟩ : MethodName)) 0 hown (wd hw 36 rfl) (wd hw 37 rfl) (wd hw 6 rfl) (wd hw 38 rfl) (wd hw 7 rfl) (wd hw 39 rfl) (by decide) (rmPl l Z a0 hw [] a hp pp ky sz q K (q.1 (0 : Int32)) (0 : Int32) h0 n0 Zs ⟨Ex_a, F_heap_a, F_position_a, F_key_a, F_size_a, V_hp, V_pp, V_ky⟩ ⟨ga, ghp, gpp, gky, d1, d2, d3, d4, d5, d6⟩ (show In4 (q.1 (0 : Int32)) from ii 0 (by decide)) in4_0) (by decide) (by decide) (by rw [hml]; rfl) pd_1 rfl (argsL := [(.int (q.1 (0 : Int32))), (.int 0)]) (rest := []) rfl rfl (Nat.le_of_eq rfl) (hb hby d6_53) e1 Ex_a (by decide) (by decide) (pc' := 56) rfl ?_
  intro T2 rv2 L2 X2 hQ2
  obtain ⟨rfl, Nq2, Kq2, Ex_a, F_heap_a, F_position_a, F_key_a, F_size_a, V_hp, V_pp, V_ky⟩ := hQ2
  have NF2 := Fr.app NF0 Nq2
  have Zs := Nat.le_trans Zs Kq2.1
  have K2 := K0.trans Kq2 (allS (Or.inl (List.mem_of_getElem? (i := 0) rfl)) (allS (Or.inl (List.mem_of_getElem? (i := 1) rfl)) (allS (Or.inl (List.mem_of_getElem? (i := 2) rfl)) (allS (Or.inl (List.mem_of_getElem? (i := 3) rfl)) all0))))
  show G (T2.setTop (mkF m 56 #[.val (.ref a), .val (.int 0), .val (.int (q.1 (0 : Int32))), .unset] []))
  exact e_ret0 hGe X2 hx hrt hlk (hb hby d6_56) rfl (by decide) (by decide) (⟨rfl, NF2, K2, Ex_a, F_heap_a, F_position_a, F_key_a, F_size_a, V_hp, V_pp, V_ky⟩)

def Q_rmRs1 (Z : State) (a hp pp ky : Addr) (sz : Int32) (q : HP) (K : Int32 → UInt64) (bt : Int32 → Int32 → Bool) (h0 : Heap) (n0 : Nat) (v : Option Value) (h : Heap) (L : List Loc) : Prop := v = none ∧ Fr n0 L ∧ Keep h0 h [a, hp, pp, ky] ∧ NH Z h a hp pp ky sz (rs1 bt q) K
set_option maxRecDepth 65536 in
set_option maxHeartbeats 40000000 in
theorem rmRs1 (l : Launch) (Z : State) (a0 : Array Value) (hw : ∀ d ∈ tables_1, d.before a0 Z = true) (ws : List Jvm.Cond) (a hp pp ky : Addr) (sz : Int32) (q : HP) (K : Int32 → UInt64) (bt : Int32 → Int32 → Bool) (h0 : Heap) (n0 : Nat) (Zs : n0 ≤ h0.size) (NQ : NH Z h0 a hp pp ky sz q K) (DD : Dis n0 a hp pp ky) (ii : I4 2 q) (hbb : HB 2 K bt q) :
    Con l (⟨"com/example/tributary/tributary/plan/NodeHeap", "rise", "(I)V"⟩ : MethodName) prog_39_method_6_code 4 none ws ({ frames := 1, cells := 0, slots := 0, locals := 24 } : Room) Z #[(.ref a), (.int 1)] h0 ({ frames := 1, cells := 0, slots := 0, locals := 24 } : Room).cells ({ frames := 1, cells := 0, slots := 0, locals := 24 } : Room).slots (Q_rmRs1 Z a hp pp ky sz q K bt h0 n0) := by
  refine Con.of (Ls := #[.val (.ref a), .val (.int 1), .unset, .unset]) (plainFor_of_name (by first | (simp [plainName, overriddenIn]; done) | decide +kernel)) (fun m => by first | (simp [entryFrame, mkF, argsToLocals, Value.category]; done) | rfl) ?_
  intro p e s m below meth c s₁ G hGe hG hx hby hml hown hnm hrt hlk hZ X0 e0
  have hown : s.vm.findClass "com/example/tributary/tributary/plan/NodeHeap" = some m.cls := hown
  have hnm : meth.name = "rise" := hnm
  have NF0 := Fr.nil n0
  obtain ⟨Ex_a, F_heap_a, F_position_a, F_key_a, F_size_a, V_hp, V_pp, V_ky⟩ := NQ
  obtain ⟨ga, ghp, gpp, gky, d1, d2, d3, d4, d5, d6⟩ := DD
  have K0 := Keep.refl h0 [a, hp, pp, ky]
  refine g_aloadN hG X0 hx (hb hby d6_0) (pc' := 1) rfl rfl rfl ?_
  show G (s₁.setTop (mkF m 1 #[.val (.ref a), .val (.int 1), .unset, .unset] [(.ref a)]))
  refine g_getF hG X0 hx hZ hown (wd hw 15 rfl) Via.refl e0 F_heap_a (hb hby d6_1) (pc' := 4) rfl ?_
  intro T1 X1 e1
  show G (T1.setTop (mkF m 4 #[.val (.ref a), .val (.int 1), .unset, .unset] [(.ref hp)]))
  refine g_iloadN hG X1 hx (hb hby d6_4) (pc' := 5) rfl rfl ?_
  show G (T1.setTop (mkF m 5 #[.val (.ref a), .val (.int 1), .unset, .unset] [(.int 1), (.ref hp)]))
  refine g_iaload hG X1 hx hZ e1 V_hp (j := (1 : Int32)) (v := (.int (q.1 (1 : Int32)))) (in4_nn in4_1) (in4_at in4_1 rfl) (hb hby d6_5) (pc' := 6) rfl ?_
  show G (T1.setTop (mkF m 6 #[.val (.ref a), .val (.int 1), .unset, .unset] [(.int (q.1 (1 : Int32)))]))
  refine g_istoreN hG X1 hx (hb hby d6_6) (pc' := 7) rfl (Ls' := #[.val (.ref a), .val (.int 1), .val (.int (q.1 (1 : Int32))), .unset]) rfl ?_
  show G (T1.setTop (mkF m 7 #[.val (.ref a), .val (.int 1), .val (.int (q.1 (1 : Int32))), .unset] []))
  refine g_iloadN hG X1 hx (hb hby d6_7) (pc' := 8) rfl rfl ?_
  show G (T1.setTop (mkF m 8 #[.val (.ref a), .val (.int 1), .val (.int (q.1 (1 : Int32))), .unset] [(.int 1)]))
  refine g_ifNo hG X1 hx (hb hby d6_8) (pc' := 11) (by decide) rfl ?_
  show G (T1.setTop (mkF m 11 #[.val (.ref a), .val (.int 1), .val (.int (q.1 (1 : Int32))), .unset] []))
  refine g_iloadN hG X1 hx (hb hby d6_11) (pc' := 12) rfl rfl ?_
  show G (T1.setTop (mkF m 12 #[.val (.ref a), .val (.int 1), .val (.int (q.1 (1 : Int32))), .unset] [(.int 1)]))
  refine g_iconst hG X1 hx (hb hby d6_12) (pc' := 13) rfl (v := (1 : Int32)) rfl ?_
  show G (T1.setTop (mkF m 13 #[.val (.ref a), .val (.int 1), .val (.int (q.1 (1 : Int32))), .unset] [(.int 1), (.int 1)]))
  refine g_isub hG X1 hx (hb hby d6_13) (pc' := 14) rfl (v := (0 : Int32)) (by decide) ?_
  show G (T1.setTop (mkF m 14 #[.val (.ref a), .val (.int 1), .val (.int (q.1 (1 : Int32))), .unset] [(.int 0)]))
  refine g_iconst hG X1 hx (hb hby d6_14) (pc' := 15) rfl (v := (2 : Int32)) rfl ?_
  show G (T1.setTop (mkF m 15 #[.val (.ref a), .val (.int 1), .val (.int (q.1 (1 : Int32))), .unset] [(.int 2), (.int 0)]))
  refine g_idiv hG X1 hx (hb hby d6_15) (pc' := 16) rfl (by decide) (v := (0 : Int32)) (by decide) ?_
  show G (T1.setTop (mkF m 16 #[.val (.ref a), .val (.int 1), .val (.int (q.1 (1 : Int32))), .unset] [(.int 0)]))
  refine g_istoreN hG X1 hx (hb hby d6_16) (pc' := 17) rfl (Ls' := #[.val (.ref a), .val (.int 1), .val (.int (q.1 (1 : Int32))), .val (.int 0)]) rfl ?_
  show G (T1.setTop (mkF m 17 #[.val (.ref a), .val (.int 1), .val (.int (q.1 (1 : Int32))), .val (.int 0)] []))
  refine g_aloadN hG X1 hx (hb hby d6_17) (pc' := 18) rfl rfl rfl ?_
  show G (T1.setTop (mkF m 18 #[.val (.ref a), .val (.int 1), .val (.int (q.1 (1 : Int32))), .val (.int 0)] [(.ref a)]))
  refine g_iloadN hG X1 hx (hb hby d6_18) (pc' := 19) rfl rfl ?_
  show G (T1.setTop (mkF m 19 #[.val (.ref a), .val (.int 1), .val (.int (q.1 (1 : Int32))), .val (.int 0)] [(.int (q.1 (1 : Int32))), (.ref a)]))
  refine g_aloadN hG X1 hx (hb hby d6_19) (pc' := 20) rfl rfl rfl ?_
  show G (T1.setTop (mkF m 20 #[.val (.ref a), .val (.int 1), .val (.int (q.1 (1 : Int32))), .val (.int 0)] [(.ref a), (.int (q.1 (1 : Int32))), (.ref a)]))
  refine g_getF hG X1 hx hZ hown (wd hw 15 rfl) Via.refl e1 F_heap_a (hb hby d6_20) (pc' := 23) rfl ?_
  intro T2 X2 e2
  show G (T2.setTop (mkF m 23 #[.val (.ref a), .val (.int 1), .val (.int (q.1 (1 : Int32))), .val (.int 0)] [(.ref hp), (.int (q.1 (1 : Int32))), (.ref a)]))
  refine g_iloadN hG X2 hx (hb hby d6_23) (pc' := 24) rfl rfl ?_
  show G (T2.setTop (mkF m 24 #[.val (.ref a), .val (.int 1), .val (.int (q.1 (1 : Int32))), .val (.int 0)] [(.int 0), (.ref hp), (.int (q.1 (1 : Int32))), (.ref a)]))
  refine g_iaload hG X2 hx hZ e2 V_hp (j := (0 : Int32)) (v := (.int (q.1 (0 : Int32)))) (in4_nn in4_0) (in4_at in4_0 rfl) (hb hby d6_24) (pc' := 25) rfl ?_
  show G (T2.setTop (mkF m 25 #[.val (.ref a), .val (.int 1), .val (.int (q.1 (1 : Int32))), .val (.int 0)] [(.int (q.1 (0 : Int32))), (.int (q.1 (1 : Int32))), (.ref a)]))
  by_cases g25_3 : bt (q.1 (1 : Int32)) (q.1 (0 : Int32)) = true
  · have _hh := g25_3
    refine g_callP hG X2 hx hZ (y := (⟨"com/example/tributary/tributary/plan/NodeHeap", "before", "(II)Z"⟩ : MethodName)) 0 hown (wd hw 40 rfl) (wd hw 41 rfl) (wd hw 6 rfl) (wd hw 42 rfl) (wd hw 7 rfl) (wd hw 43 rfl) (by decide) (rmBe l Z a0 hw [] a hp pp ky sz q K (q.1 (1 : Int32)) (q.1 (0 : Int32)) (1 : Int32) h0 n0 Zs ⟨Ex_a, F_heap_a, F_position_a, F_key_a, F_size_a, V_hp, V_pp, V_ky⟩ ⟨ga, ghp, gpp, gky, d1, d2, d3, d4, d5, d6⟩ (show In4 (q.1 (1 : Int32)) from ii 1 (by decide)) (show In4 (q.1 (0 : Int32)) from ii 0 (by decide)) ((hbb 1 0 (by decide) (by decide)).1 g25_3)) (by decide) (by decide) (by rw [hml]; rfl) pd_2 rfl (argsL := [(.int (q.1 (1 : Int32))), (.int (q.1 (0 : Int32)))]) (rest := []) rfl rfl (Nat.le_of_eq rfl) (hb hby d6_25) e2 Ex_a (by decide) (by decide) (pc' := 28) rfl ?_
    intro T4 rv4 L4 X4 hQ4
    obtain ⟨rfl, Nq4, eh4⟩ := hQ4
    have NF4 := Fr.app NF0 Nq4
    show G (T4.setTop (mkF m 28 #[.val (.ref a), .val (.int 1), .val (.int (q.1 (1 : Int32))), .val (.int 0)] [(.int 1)]))
    refine g_ifYes hG X4 hx (hb hby d6_28) (pc' := 34) (by decide) (by decide) (by decide) ?_
    show G (T4.setTop (mkF m 34 #[.val (.ref a), .val (.int 1), .val (.int (q.1 (1 : Int32))), .val (.int 0)] []))
    refine g_aloadN hG X4 hx (hb hby d6_34) (pc' := 35) rfl rfl rfl ?_
    show G (T4.setTop (mkF m 35 #[.val (.ref a), .val (.int 1), .val (.int (q.1 (1 : Int32))), .val (.int 0)] [(.ref a)]))
    refine g_aloadN hG X4 hx (hb hby d6_35) (pc' := 36) rfl rfl rfl ?_
    show G (T4.setTop (mkF m 36 #[.val (.ref a), .val (.int 1), .val (.int (q.1 (1 : Int32))), .val (.int 0)] [(.ref a), (.ref a)]))
    refine g_getF hG X4 hx hZ hown (wd hw 15 rfl) Via.refl eh4 F_heap_a (hb hby d6_36) (pc' := 39) rfl ?_
    intro T5 X5 e5
    show G (T5.setTop (mkF m 39 #[.val (.ref a), .val (.int 1), .val (.int (q.1 (1 : Int32))), .val (.int 0)] [(.ref hp), (.ref a)]))
    refine g_iloadN hG X5 hx (hb hby d6_39) (pc' := 40) rfl rfl ?_
    show G (T5.setTop (mkF m 40 #[.val (.ref a), .val (.int 1), .val (.int (q.1 (1 : Int32))), .val (.int 0)] [(.int 0), (.ref hp), (.ref a)]))
    refine g_iaload hG X5 hx hZ e5 V_hp (j := (0 : Int32)) (v := (.int (q.1 (0 : Int32)))) (in4_nn in4_0) (in4_at in4_0 rfl) (hb hby d6_40) (pc' := 41) rfl ?_
    show G (T5.setTop (mkF m 41 #[.val (.ref a), .val (.int 1), .val (.int (q.1 (1 : Int32))), .val (.int 0)] [(.int (q.1 (0 : Int32))), (.ref a)]))
    refine g_iloadN hG X5 hx (hb hby d6_41) (pc' := 42) rfl rfl ?_
    show G (T5.setTop (mkF m 42 #[.val (.ref a), .val (.int 1), .val (.int (q.1 (1 : Int32))), .val (.int 0)] [(.int 1), (.int (q.1 (0 : Int32))), (.ref a)]))
    refine g_callP hG X5 hx hZ (y := (⟨"com/example/tributary/tributary/plan/NodeHeap", "place", "(II)V"⟩ : MethodName)) 0 hown (wd hw 36 rfl) (wd hw 37 rfl) (wd hw 6 rfl) (wd hw 38 rfl) (wd hw 7 rfl) (wd hw 39 rfl) (by decide) (rmPl l Z a0 hw [] a hp pp ky sz q K (q.1 (0 : Int32)) (1 : Int32) h0 n0 Zs ⟨Ex_a, F_heap_a, F_position_a, F_key_a, F_size_a, V_hp, V_pp, V_ky⟩ ⟨ga, ghp, gpp, gky, d1, d2, d3, d4, d5, d6⟩ (show In4 (q.1 (0 : Int32)) from ii 0 (by decide)) in4_1) (by decide) (by decide) (by rw [hml]; rfl) pd_1 rfl (argsL := [(.int (q.1 (0 : Int32))), (.int 1)]) (rest := []) rfl rfl (Nat.le_of_eq rfl) (hb hby d6_42) e5 Ex_a (by decide) (by decide) (pc' := 45) rfl ?_
    intro T6 rv6 L6 X6 hQ6
    obtain ⟨rfl, Nq6, Kq6, Ex_a, F_heap_a, F_position_a, F_key_a, F_size_a, V_hp, V_pp, V_ky⟩ := hQ6
    have NF6 := Fr.app NF4 Nq6
    have Zs := Nat.le_trans Zs Kq6.1
    have K6 := K0.trans Kq6 (allS (Or.inl (List.mem_of_getElem? (i := 0) rfl)) (allS (Or.inl (List.mem_of_getElem? (i := 1) rfl)) (allS (Or.inl (List.mem_of_getElem? (i := 2) rfl)) (allS (Or.inl (List.mem_of_getElem? (i := 3) rfl)) all0))))
    show G (T6.setTop (mkF m 45 #[.val (.ref a), .val (.int 1), .val (.int (q.1 (1 : Int32))), .val (.int 0)] []))
    refine g_iloadN hG X6 hx (hb hby d6_45) (pc' := 46) rfl rfl ?_
    show G (T6.setTop (mkF m 46 #[.val (.ref a), .val (.int 1), .val (.int (q.1 (1 : Int32))), .val (.int 0)] [(.int 0)]))
    refine g_istoreN hG X6 hx (hb hby d6_46) (pc' := 47) rfl (Ls' := #[.val (.ref a), .val (.int 0), .val (.int (q.1 (1 : Int32))), .val (.int 0)]) rfl ?_
    show G (T6.setTop (mkF m 47 #[.val (.ref a), .val (.int 0), .val (.int (q.1 (1 : Int32))), .val (.int 0)] []))
    refine g_goto hG X6 hx (hb hby d6_47) (pc' := 7) (by decide) (by decide) ?_
    show G (T6.setTop (mkF m 7 #[.val (.ref a), .val (.int 0), .val (.int (q.1 (1 : Int32))), .val (.int 0)] []))
    refine g_iloadN hG X6 hx (hb hby d6_7) (pc' := 8) rfl rfl ?_
    show G (T6.setTop (mkF m 8 #[.val (.ref a), .val (.int 0), .val (.int (q.1 (1 : Int32))), .val (.int 0)] [(.int 0)]))
    refine g_ifYes hG X6 hx (hb hby d6_8) (pc' := 50) (by decide) (by decide) (by decide) ?_
    show G (T6.setTop (mkF m 50 #[.val (.ref a), .val (.int 0), .val (.int (q.1 (1 : Int32))), .val (.int 0)] []))
    refine g_aloadN hG X6 hx (hb hby d6_50) (pc' := 51) rfl rfl rfl ?_
    show G (T6.setTop (mkF m 51 #[.val (.ref a), .val (.int 0), .val (.int (q.1 (1 : Int32))), .val (.int 0)] [(.ref a)]))
    refine g_iloadN hG X6 hx (hb hby d6_51) (pc' := 52) rfl rfl ?_
    show G (T6.setTop (mkF m 52 #[.val (.ref a), .val (.int 0), .val (.int (q.1 (1 : Int32))), .val (.int 0)] [(.int (q.1 (1 : Int32))), (.ref a)]))
    refine g_iloadN hG X6 hx (hb hby d6_52) (pc' := 53) rfl rfl ?_
    show G (T6.setTop (mkF m 53 #[.val (.ref a), .val (.int 0), .val (.int (q.1 (1 : Int32))), .val (.int 0)] [(.int 0), (.int (q.1 (1 : Int32))), (.ref a)]))
    refine g_callP hG X6 hx hZ (y := (⟨"com/example/tributary/tributary/plan/NodeHeap", "place", "(II)V"⟩ : MethodName)) 0 hown (wd hw 36 rfl) (wd hw 37 rfl) (wd hw 6 rfl) (wd hw 38 rfl) (wd hw 7 rfl) (wd hw 39 rfl) (by decide) (rmPl l Z a0 hw [] a hp pp ky sz (pl q (q.1 (0 : Int32)) (1 : Int32)) K (q.1 (1 : Int32)) (0 : Int32) T6.heap n0 Zs ⟨Ex_a, F_heap_a, F_position_a, F_key_a, F_size_a, V_hp, V_pp, V_ky⟩ ⟨ga, ghp, gpp, gky, d1, d2, d3, d4, d5, d6⟩ (show In4 (q.1 (1 : Int32)) from ii 1 (by decide)) in4_0) (by decide) (by decide) (by rw [hml]; rfl) pd_1 rfl (argsL := [(.int (q.1 (1 : Int32))), (.int 0)]) (rest := []) rfl rfl (Nat.le_of_eq rfl) (hb hby d6_53) rfl Ex_a (by decide) (by decide) (pc' := 56) rfl ?_
    intro T7 rv7 L7 X7 hQ7
    obtain ⟨rfl, Nq7, Kq7, Ex_a, F_heap_a, F_position_a, F_key_a, F_size_a, V_hp, V_pp, V_ky⟩ := hQ7
    have NF7 := Fr.app NF6 Nq7
    have Zs := Nat.le_trans Zs Kq7.1
    have K7 := K6.trans Kq7 (allS (Or.inl (List.mem_of_getElem? (i := 0) rfl)) (allS (Or.inl (List.mem_of_getElem? (i := 1) rfl)) (allS (Or.inl (List.mem_of_getElem? (i := 2) rfl)) (allS (Or.inl (List.mem_of_getElem? (i := 3) rfl)) all0))))
    show G (T7.setTop (mkF m 56 #[.val (.ref a), .val (.int 0), .val (.int (q.1 (1 : Int32))), .val (.int 0)] []))
    exact e_ret0 hGe X7 hx hrt hlk (hb hby d6_56) rfl (by decide) (by decide) (⟨rfl, NF7, K7, (by
          have e : rs1 bt q = (pl (pl q (q.1 (0 : Int32)) (1 : Int32)) (q.1 (1 : Int32)) (0 : Int32)) := by
            unfold rs1
            exact if_pos g25_3
          rw [e]
          exact ⟨Ex_a, F_heap_a, F_position_a, F_key_a, F_size_a, V_hp, V_pp, V_ky⟩)⟩)
  · have _hh := g25_3
    refine g_callP hG X2 hx hZ (y := (⟨"com/example/tributary/tributary/plan/NodeHeap", "before", "(II)Z"⟩ : MethodName)) 0 hown (wd hw 40 rfl) (wd hw 41 rfl) (wd hw 6 rfl) (wd hw 42 rfl) (wd hw 7 rfl) (wd hw 43 rfl) (by decide) (rmBe l Z a0 hw [] a hp pp ky sz q K (q.1 (1 : Int32)) (q.1 (0 : Int32)) (0 : Int32) h0 n0 Zs ⟨Ex_a, F_heap_a, F_position_a, F_key_a, F_size_a, V_hp, V_pp, V_ky⟩ ⟨ga, ghp, gpp, gky, d1, d2, d3, d4, d5, d6⟩ (show In4 (q.1 (1 : Int32)) from ii 1 (by decide)) (show In4 (q.1 (0 : Int32)) from ii 0 (by decide)) ((hbb 1 0 (by decide) (by decide)).2 g25_3)) (by decide) (by decide) (by rw [hml]; rfl) pd_2 rfl (argsL := [(.int (q.1 (1 : Int32))), (.int (q.1 (0 : Int32)))]) (rest := []) rfl rfl (Nat.le_of_eq rfl) (hb hby d6_25) e2 Ex_a (by decide) (by decide) (pc' := 28) rfl ?_
    intro T8 rv8 L8 X8 hQ8
    obtain ⟨rfl, Nq8, eh8⟩ := hQ8
    have NF8 := Fr.app NF0 Nq8
    show G (T8.setTop (mkF m 28 #[.val (.ref a), .val (.int 1), .val (.int (q.1 (1 : Int32))), .val (.int 0)] [(.int 0)]))
    refine g_ifNo hG X8 hx (hb hby d6_28) (pc' := 31) (by decide) rfl ?_
    show G (T8.setTop (mkF m 31 #[.val (.ref a), .val (.int 1), .val (.int (q.1 (1 : Int32))), .val (.int 0)] []))
    refine g_goto hG X8 hx (hb hby d6_31) (pc' := 50) (by decide) (by decide) ?_
    show G (T8.setTop (mkF m 50 #[.val (.ref a), .val (.int 1), .val (.int (q.1 (1 : Int32))), .val (.int 0)] []))
    refine g_aloadN hG X8 hx (hb hby d6_50) (pc' := 51) rfl rfl rfl ?_
    show G (T8.setTop (mkF m 51 #[.val (.ref a), .val (.int 1), .val (.int (q.1 (1 : Int32))), .val (.int 0)] [(.ref a)]))
    refine g_iloadN hG X8 hx (hb hby d6_51) (pc' := 52) rfl rfl ?_
    show G (T8.setTop (mkF m 52 #[.val (.ref a), .val (.int 1), .val (.int (q.1 (1 : Int32))), .val (.int 0)] [(.int (q.1 (1 : Int32))), (.ref a)]))
    refine g_iloadN hG X8 hx (hb hby d6_52) (pc' := 53) rfl rfl ?_
    show G (T8.setTop (mkF m 53 #[.val (.ref a), .val (.int 1), .val (.int (q.1 (1 : Int32))), .val (.int 0)] [(.int 1), (.int (q.1 (1 : Int32))), (.ref a)]))
    refine g_callP hG X8 hx hZ (y := (⟨"com/example/tributary/tributary/plan/NodeHeap", "place", "(II)V"⟩ : MethodName)) 0 hown (wd hw 36 rfl) (wd hw 37 rfl) (wd hw 6 rfl) (wd hw 38 rfl) (wd hw 7 rfl) (wd hw 39 rfl) (by decide) (rmPl l Z a0 hw [] a hp pp ky sz q K (q.1 (1 : Int32)) (1 : Int32) h0 n0 Zs ⟨Ex_a, F_heap_a, F_position_a, F_key_a, F_size_a, V_hp, V_pp, V_ky⟩ ⟨ga, ghp, gpp, gky, d1, d2, d3, d4, d5, d6⟩ (show In4 (q.1 (1 : Int32)) from ii 1 (by decide)) in4_1) (by decide) (by decide) (by rw [hml]; rfl) pd_1 rfl (argsL := [(.int (q.1 (1 : Int32))), (.int 1)]) (rest := []) rfl rfl (Nat.le_of_eq rfl) (hb hby d6_53) eh8 Ex_a (by decide) (by decide) (pc' := 56) rfl ?_
    intro T9 rv9 L9 X9 hQ9
    obtain ⟨rfl, Nq9, Kq9, Ex_a, F_heap_a, F_position_a, F_key_a, F_size_a, V_hp, V_pp, V_ky⟩ := hQ9
    have NF9 := Fr.app NF8 Nq9
    have Zs := Nat.le_trans Zs Kq9.1
    have K9 := K0.trans Kq9 (allS (Or.inl (List.mem_of_getElem? (i := 0) rfl)) (allS (Or.inl (List.mem_of_getElem? (i := 1) rfl)) (allS (Or.inl (List.mem_of_getElem? (i := 2) rfl)) (allS (Or.inl (List.mem_of_getElem? (i := 3) rfl)) all0))))
    show G (T9.setTop (mkF m 56 #[.val (.ref a), .val (.int 1), .val (.int (q.1 (1 : Int32))), .val (.int 0)] []))
    exact e_ret0 hGe X9 hx hrt hlk (hb hby d6_56) rfl (by decide) (by decide) (⟨rfl, NF9, K9, (by
          have e : rs1 bt q = (pl q (q.1 (1 : Int32)) (1 : Int32)) := by
            unfold rs1
            exact if_neg g25_3
          rw [e]
          exact ⟨Ex_a, F_heap_a, F_position_a, F_key_a, F_size_a, V_hp, V_pp, V_ky⟩)⟩)

def Q_rmRs2 (Z : State) (a hp pp ky : Addr) (sz : Int32) (q : HP) (K : Int32 → UInt64) (bt : Int32 → Int32 → Bool) (h0 : Heap) (n0 : Nat) (v : Option Value) (h : Heap) (L : List Loc) : Prop := v = none ∧ Fr n0 L ∧ Keep h0 h [a, hp, pp, ky] ∧ NH Z h a hp pp ky sz (rs2 bt q) K
set_option maxRecDepth 65536 in
set_option maxHeartbeats 40000000 in
theorem rmRs2 (l : Launch) (Z : State) (a0 : Array Value) (hw : ∀ d ∈ tables_1, d.before a0 Z = true) (ws : List Jvm.Cond) (a hp pp ky : Addr) (sz : Int32) (q : HP) (K : Int32 → UInt64) (bt : Int32 → Int32 → Bool) (h0 : Heap) (n0 : Nat) (Zs : n0 ≤ h0.size) (NQ : NH Z h0 a hp pp ky sz q K) (DD : Dis n0 a hp pp ky) (ii : I4 3 q) (hbb : HB 3 K bt q) :
    Con l (⟨"com/example/tributary/tributary/plan/NodeHeap", "rise", "(I)V"⟩ : MethodName) prog_39_method_6_code 4 none ws ({ frames := 1, cells := 0, slots := 0, locals := 24 } : Room) Z #[(.ref a), (.int 2)] h0 ({ frames := 1, cells := 0, slots := 0, locals := 24 } : Room).cells ({ frames := 1, cells := 0, slots := 0, locals := 24 } : Room).slots (Q_rmRs2 Z a hp pp ky sz q K bt h0 n0) := by
  refine Con.of (Ls := #[.val (.ref a), .val (.int 2), .unset, .unset]) (plainFor_of_name (by first | (simp [plainName, overriddenIn]; done) | decide +kernel)) (fun m => by first | (simp [entryFrame, mkF, argsToLocals, Value.category]; done) | rfl) ?_
  intro p e s m below meth c s₁ G hGe hG hx hby hml hown hnm hrt hlk hZ X0 e0
  have hown : s.vm.findClass "com/example/tributary/tributary/plan/NodeHeap" = some m.cls := hown
  have hnm : meth.name = "rise" := hnm
  have NF0 := Fr.nil n0
  obtain ⟨Ex_a, F_heap_a, F_position_a, F_key_a, F_size_a, V_hp, V_pp, V_ky⟩ := NQ
  obtain ⟨ga, ghp, gpp, gky, d1, d2, d3, d4, d5, d6⟩ := DD
  have K0 := Keep.refl h0 [a, hp, pp, ky]
  refine g_aloadN hG X0 hx (hb hby d6_0) (pc' := 1) rfl rfl rfl ?_
  show G (s₁.setTop (mkF m 1 #[.val (.ref a), .val (.int 2), .unset, .unset] [(.ref a)]))
  refine g_getF hG X0 hx hZ hown (wd hw 15 rfl) Via.refl e0 F_heap_a (hb hby d6_1) (pc' := 4) rfl ?_
  intro T1 X1 e1
  show G (T1.setTop (mkF m 4 #[.val (.ref a), .val (.int 2), .unset, .unset] [(.ref hp)]))
  refine g_iloadN hG X1 hx (hb hby d6_4) (pc' := 5) rfl rfl ?_
  show G (T1.setTop (mkF m 5 #[.val (.ref a), .val (.int 2), .unset, .unset] [(.int 2), (.ref hp)]))
  refine g_iaload hG X1 hx hZ e1 V_hp (j := (2 : Int32)) (v := (.int (q.1 (2 : Int32)))) (in4_nn in4_2) (in4_at in4_2 rfl) (hb hby d6_5) (pc' := 6) rfl ?_
  show G (T1.setTop (mkF m 6 #[.val (.ref a), .val (.int 2), .unset, .unset] [(.int (q.1 (2 : Int32)))]))
  refine g_istoreN hG X1 hx (hb hby d6_6) (pc' := 7) rfl (Ls' := #[.val (.ref a), .val (.int 2), .val (.int (q.1 (2 : Int32))), .unset]) rfl ?_
  show G (T1.setTop (mkF m 7 #[.val (.ref a), .val (.int 2), .val (.int (q.1 (2 : Int32))), .unset] []))
  refine g_iloadN hG X1 hx (hb hby d6_7) (pc' := 8) rfl rfl ?_
  show G (T1.setTop (mkF m 8 #[.val (.ref a), .val (.int 2), .val (.int (q.1 (2 : Int32))), .unset] [(.int 2)]))
  refine g_ifNo hG X1 hx (hb hby d6_8) (pc' := 11) (by decide) rfl ?_
  show G (T1.setTop (mkF m 11 #[.val (.ref a), .val (.int 2), .val (.int (q.1 (2 : Int32))), .unset] []))
  refine g_iloadN hG X1 hx (hb hby d6_11) (pc' := 12) rfl rfl ?_
  show G (T1.setTop (mkF m 12 #[.val (.ref a), .val (.int 2), .val (.int (q.1 (2 : Int32))), .unset] [(.int 2)]))
  refine g_iconst hG X1 hx (hb hby d6_12) (pc' := 13) rfl (v := (1 : Int32)) rfl ?_
  show G (T1.setTop (mkF m 13 #[.val (.ref a), .val (.int 2), .val (.int (q.1 (2 : Int32))), .unset] [(.int 1), (.int 2)]))
  refine g_isub hG X1 hx (hb hby d6_13) (pc' := 14) rfl (v := (1 : Int32)) (by decide) ?_
  show G (T1.setTop (mkF m 14 #[.val (.ref a), .val (.int 2), .val (.int (q.1 (2 : Int32))), .unset] [(.int 1)]))
  refine g_iconst hG X1 hx (hb hby d6_14) (pc' := 15) rfl (v := (2 : Int32)) rfl ?_
  show G (T1.setTop (mkF m 15 #[.val (.ref a), .val (.int 2), .val (.int (q.1 (2 : Int32))), .unset] [(.int 2), (.int 1)]))
  refine g_idiv hG X1 hx (hb hby d6_15) (pc' := 16) rfl (by decide) (v := (0 : Int32)) (by decide) ?_
  show G (T1.setTop (mkF m 16 #[.val (.ref a), .val (.int 2), .val (.int (q.1 (2 : Int32))), .unset] [(.int 0)]))
  refine g_istoreN hG X1 hx (hb hby d6_16) (pc' := 17) rfl (Ls' := #[.val (.ref a), .val (.int 2), .val (.int (q.1 (2 : Int32))), .val (.int 0)]) rfl ?_
  show G (T1.setTop (mkF m 17 #[.val (.ref a), .val (.int 2), .val (.int (q.1 (2 : Int32))), .val (.int 0)] []))
  refine g_aloadN hG X1 hx (hb hby d6_17) (pc' := 18) rfl rfl rfl ?_
  show G (T1.setTop (mkF m 18 #[.val (.ref a), .val (.int 2), .val (.int (q.1 (2 : Int32))), .val (.int 0)] [(.ref a)]))
  refine g_iloadN hG X1 hx (hb hby d6_18) (pc' := 19) rfl rfl ?_
  show G (T1.setTop (mkF m 19 #[.val (.ref a), .val (.int 2), .val (.int (q.1 (2 : Int32))), .val (.int 0)] [(.int (q.1 (2 : Int32))), (.ref a)]))
  refine g_aloadN hG X1 hx (hb hby d6_19) (pc' := 20) rfl rfl rfl ?_
  show G (T1.setTop (mkF m 20 #[.val (.ref a), .val (.int 2), .val (.int (q.1 (2 : Int32))), .val (.int 0)] [(.ref a), (.int (q.1 (2 : Int32))), (.ref a)]))
  refine g_getF hG X1 hx hZ hown (wd hw 15 rfl) Via.refl e1 F_heap_a (hb hby d6_20) (pc' := 23) rfl ?_
  intro T2 X2 e2
  show G (T2.setTop (mkF m 23 #[.val (.ref a), .val (.int 2), .val (.int (q.1 (2 : Int32))), .val (.int 0)] [(.ref hp), (.int (q.1 (2 : Int32))), (.ref a)]))
  refine g_iloadN hG X2 hx (hb hby d6_23) (pc' := 24) rfl rfl ?_
  show G (T2.setTop (mkF m 24 #[.val (.ref a), .val (.int 2), .val (.int (q.1 (2 : Int32))), .val (.int 0)] [(.int 0), (.ref hp), (.int (q.1 (2 : Int32))), (.ref a)]))
  refine g_iaload hG X2 hx hZ e2 V_hp (j := (0 : Int32)) (v := (.int (q.1 (0 : Int32)))) (in4_nn in4_0) (in4_at in4_0 rfl) (hb hby d6_24) (pc' := 25) rfl ?_
  show G (T2.setTop (mkF m 25 #[.val (.ref a), .val (.int 2), .val (.int (q.1 (2 : Int32))), .val (.int 0)] [(.int (q.1 (0 : Int32))), (.int (q.1 (2 : Int32))), (.ref a)]))
  by_cases g25_3 : bt (q.1 (2 : Int32)) (q.1 (0 : Int32)) = true
  · have _hh := g25_3
    refine g_callP hG X2 hx hZ (y := (⟨"com/example/tributary/tributary/plan/NodeHeap", "before", "(II)Z"⟩ : MethodName)) 0 hown (wd hw 40 rfl) (wd hw 41 rfl) (wd hw 6 rfl) (wd hw 42 rfl) (wd hw 7 rfl) (wd hw 43 rfl) (by decide) (rmBe l Z a0 hw [] a hp pp ky sz q K (q.1 (2 : Int32)) (q.1 (0 : Int32)) (1 : Int32) h0 n0 Zs ⟨Ex_a, F_heap_a, F_position_a, F_key_a, F_size_a, V_hp, V_pp, V_ky⟩ ⟨ga, ghp, gpp, gky, d1, d2, d3, d4, d5, d6⟩ (show In4 (q.1 (2 : Int32)) from ii 2 (by decide)) (show In4 (q.1 (0 : Int32)) from ii 0 (by decide)) ((hbb 2 0 (by decide) (by decide)).1 g25_3)) (by decide) (by decide) (by rw [hml]; rfl) pd_2 rfl (argsL := [(.int (q.1 (2 : Int32))), (.int (q.1 (0 : Int32)))]) (rest := []) rfl rfl (Nat.le_of_eq rfl) (hb hby d6_25) e2 Ex_a (by decide) (by decide) (pc' := 28) rfl ?_
    intro T4 rv4 L4 X4 hQ4
    obtain ⟨rfl, Nq4, eh4⟩ := hQ4
    have NF4 := Fr.app NF0 Nq4
    show G (T4.setTop (mkF m 28 #[.val (.ref a), .val (.int 2), .val (.int (q.1 (2 : Int32))), .val (.int 0)] [(.int 1)]))
    refine g_ifYes hG X4 hx (hb hby d6_28) (pc' := 34) (by decide) (by decide) (by decide) ?_
    show G (T4.setTop (mkF m 34 #[.val (.ref a), .val (.int 2), .val (.int (q.1 (2 : Int32))), .val (.int 0)] []))
    refine g_aloadN hG X4 hx (hb hby d6_34) (pc' := 35) rfl rfl rfl ?_
    show G (T4.setTop (mkF m 35 #[.val (.ref a), .val (.int 2), .val (.int (q.1 (2 : Int32))), .val (.int 0)] [(.ref a)]))
    refine g_aloadN hG X4 hx (hb hby d6_35) (pc' := 36) rfl rfl rfl ?_
    show G (T4.setTop (mkF m 36 #[.val (.ref a), .val (.int 2), .val (.int (q.1 (2 : Int32))), .val (.int 0)] [(.ref a), (.ref a)]))
    refine g_getF hG X4 hx hZ hown (wd hw 15 rfl) Via.refl eh4 F_heap_a (hb hby d6_36) (pc' := 39) rfl ?_
    intro T5 X5 e5
    show G (T5.setTop (mkF m 39 #[.val (.ref a), .val (.int 2), .val (.int (q.1 (2 : Int32))), .val (.int 0)] [(.ref hp), (.ref a)]))
    refine g_iloadN hG X5 hx (hb hby d6_39) (pc' := 40) rfl rfl ?_
    show G (T5.setTop (mkF m 40 #[.val (.ref a), .val (.int 2), .val (.int (q.1 (2 : Int32))), .val (.int 0)] [(.int 0), (.ref hp), (.ref a)]))
    refine g_iaload hG X5 hx hZ e5 V_hp (j := (0 : Int32)) (v := (.int (q.1 (0 : Int32)))) (in4_nn in4_0) (in4_at in4_0 rfl) (hb hby d6_40) (pc' := 41) rfl ?_
    show G (T5.setTop (mkF m 41 #[.val (.ref a), .val (.int 2), .val (.int (q.1 (2 : Int32))), .val (.int 0)] [(.int (q.1 (0 : Int32))), (.ref a)]))
    refine g_iloadN hG X5 hx (hb hby d6_41) (pc' := 42) rfl rfl ?_
    show G (T5.setTop (mkF m 42 #[.val (.ref a), .val (.int 2), .val (.int (q.1 (2 : Int32))), .val (.int 0)] [(.int 2), (.int (q.1 (0 : Int32))), (.ref a)]))
    refine g_callP hG X5 hx hZ (y := (⟨"com/example/tributary/tributary/plan/NodeHeap", "place", "(II)V"⟩ : MethodName)) 0 hown (wd hw 36 rfl) (wd hw 37 rfl) (wd hw 6 rfl) (wd hw 38 rfl) (wd hw 7 rfl) (wd hw 39 rfl) (by decide) (rmPl l Z a0 hw [] a hp pp ky sz q K (q.1 (0 : Int32)) (2 : Int32) h0 n0 Zs ⟨Ex_a, F_heap_a, F_position_a, F_key_a, F_size_a, V_hp, V_pp, V_ky⟩ ⟨ga, ghp, gpp, gky, d1, d2, d3, d4, d5, d6⟩ (show In4 (q.1 (0 : Int32)) from ii 0 (by decide)) in4_2) (by decide) (by decide) (by rw [hml]; rfl) pd_1 rfl (argsL := [(.int (q.1 (0 : Int32))), (.int 2)]) (rest := []) rfl rfl (Nat.le_of_eq rfl) (hb hby d6_42) e5 Ex_a (by decide) (by decide) (pc' := 45) rfl ?_
    intro T6 rv6 L6 X6 hQ6
    obtain ⟨rfl, Nq6, Kq6, Ex_a, F_heap_a, F_position_a, F_key_a, F_size_a, V_hp, V_pp, V_ky⟩ := hQ6
    have NF6 := Fr.app NF4 Nq6
    have Zs := Nat.le_trans Zs Kq6.1
    have K6 := K0.trans Kq6 (allS (Or.inl (List.mem_of_getElem? (i := 0) rfl)) (allS (Or.inl (List.mem_of_getElem? (i := 1) rfl)) (allS (Or.inl (List.mem_of_getElem? (i := 2) rfl)) (allS (Or.inl (List.mem_of_getElem? (i := 3) rfl)) all0))))
    show G (T6.setTop (mkF m 45 #[.val (.ref a), .val (.int 2), .val (.int (q.1 (2 : Int32))), .val (.int 0)] []))
    refine g_iloadN hG X6 hx (hb hby d6_45) (pc' := 46) rfl rfl ?_
    show G (T6.setTop (mkF m 46 #[.val (.ref a), .val (.int 2), .val (.int (q.1 (2 : Int32))), .val (.int 0)] [(.int 0)]))
    refine g_istoreN hG X6 hx (hb hby d6_46) (pc' := 47) rfl (Ls' := #[.val (.ref a), .val (.int 0), .val (.int (q.1 (2 : Int32))), .val (.int 0)]) rfl ?_
    show G (T6.setTop (mkF m 47 #[.val (.ref a), .val (.int 0), .val (.int (q.1 (2 : Int32))), .val (.int 0)] []))
    refine g_goto hG X6 hx (hb hby d6_47) (pc' := 7) (by decide) (by decide) ?_
    show G (T6.setTop (mkF m 7 #[.val (.ref a), .val (.int 0), .val (.int (q.1 (2 : Int32))), .val (.int 0)] []))
    refine g_iloadN hG X6 hx (hb hby d6_7) (pc' := 8) rfl rfl ?_
    show G (T6.setTop (mkF m 8 #[.val (.ref a), .val (.int 0), .val (.int (q.1 (2 : Int32))), .val (.int 0)] [(.int 0)]))
    refine g_ifYes hG X6 hx (hb hby d6_8) (pc' := 50) (by decide) (by decide) (by decide) ?_
    show G (T6.setTop (mkF m 50 #[.val (.ref a), .val (.int 0), .val (.int (q.1 (2 : Int32))), .val (.int 0)] []))
    refine g_aloadN hG X6 hx (hb hby d6_50) (pc' := 51) rfl rfl rfl ?_
    show G (T6.setTop (mkF m 51 #[.val (.ref a), .val (.int 0), .val (.int (q.1 (2 : Int32))), .val (.int 0)] [(.ref a)]))
    refine g_iloadN hG X6 hx (hb hby d6_51) (pc' := 52) rfl rfl ?_
    show G (T6.setTop (mkF m 52 #[.val (.ref a), .val (.int 0), .val (.int (q.1 (2 : Int32))), .val (.int 0)] [(.int (q.1 (2 : Int32))), (.ref a)]))
    refine g_iloadN hG X6 hx (hb hby d6_52) (pc' := 53) rfl rfl ?_
    show G (T6.setTop (mkF m 53 #[.val (.ref a), .val (.int 0), .val (.int (q.1 (2 : Int32))), .val (.int 0)] [(.int 0), (.int (q.1 (2 : Int32))), (.ref a)]))
    refine g_callP hG X6 hx hZ (y := (⟨"com/example/tributary/tributary/plan/NodeHeap", "place", "(II)V"⟩ : MethodName)) 0 hown (wd hw 36 rfl) (wd hw 37 rfl) (wd hw 6 rfl) (wd hw 38 rfl) (wd hw 7 rfl) (wd hw 39 rfl) (by decide) (rmPl l Z a0 hw [] a hp pp ky sz (pl q (q.1 (0 : Int32)) (2 : Int32)) K (q.1 (2 : Int32)) (0 : Int32) T6.heap n0 Zs ⟨Ex_a, F_heap_a, F_position_a, F_key_a, F_size_a, V_hp, V_pp, V_ky⟩ ⟨ga, ghp, gpp, gky, d1, d2, d3, d4, d5, d6⟩ (show In4 (q.1 (2 : Int32)) from ii 2 (by decide)) in4_0) (by decide) (by decide) (by rw [hml]; rfl) pd_1 rfl (argsL := [(.int (q.1 (2 : Int32))), (.int 0)]) (rest := []) rfl rfl (Nat.le_of_eq rfl) (hb hby d6_53) rfl Ex_a (by decide) (by decide) (pc' := 56) rfl ?_
    intro T7 rv7 L7 X7 hQ7
    obtain ⟨rfl, Nq7, Kq7, Ex_a, F_heap_a, F_position_a, F_key_a, F_size_a, V_hp, V_pp, V_ky⟩ := hQ7
    have NF7 := Fr.app NF6 Nq7
    have Zs := Nat.le_trans Zs Kq7.1
    have K7 := K6.trans Kq7 (allS (Or.inl (List.mem_of_getElem? (i := 0) rfl)) (allS (Or.inl (List.mem_of_getElem? (i := 1) rfl)) (allS (Or.inl (List.mem_of_getElem? (i := 2) rfl)) (allS (Or.inl (List.mem_of_getElem? (i := 3) rfl)) all0))))
    show G (T7.setTop (mkF m 56 #[.val (.ref a), .val (.int 0), .val (.int (q.1 (2 : Int32))), .val (.int 0)] []))
    exact e_ret0 hGe X7 hx hrt hlk (hb hby d6_56) rfl (by decide) (by decide) (⟨rfl, NF7, K7, (by
          have e : rs2 bt q = (pl (pl q (q.1 (0 : Int32)) (2 : Int32)) (q.1 (2 : Int32)) (0 : Int32)) := by
            unfold rs2
            exact if_pos g25_3
          rw [e]
          exact ⟨Ex_a, F_heap_a, F_position_a, F_key_a, F_size_a, V_hp, V_pp, V_ky⟩)⟩)
  · have _hh := g25_3
    refine g_callP hG X2 hx hZ (y := (⟨"com/example/tributary/tributary/plan/NodeHeap", "before", "(II)Z"⟩ : MethodName)) 0 hown (wd hw 40 rfl) (wd hw 41 rfl) (wd hw 6 rfl) (wd hw 42 rfl) (wd hw 7 rfl) (wd hw 43 rfl) (by decide) (rmBe l Z a0 hw [] a hp pp ky sz q K (q.1 (2 : Int32)) (q.1 (0 : Int32)) (0 : Int32) h0 n0 Zs ⟨Ex_a, F_heap_a, F_position_a, F_key_a, F_size_a, V_hp, V_pp, V_ky⟩ ⟨ga, ghp, gpp, gky, d1, d2, d3, d4, d5, d6⟩ (show In4 (q.1 (2 : Int32)) from ii 2 (by decide)) (show In4 (q.1 (0 : Int32)) from ii 0 (by decide)) ((hbb 2 0 (by decide) (by decide)).2 g25_3)) (by decide) (by decide) (by rw [hml]; rfl) pd_2 rfl (argsL := [(.int (q.1 (2 : Int32))), (.int (q.1 (0 : Int32)))]) (rest := []) rfl rfl (Nat.le_of_eq rfl) (hb hby d6_25) e2 Ex_a (by decide) (by decide) (pc' := 28) rfl ?_
    intro T8 rv8 L8 X8 hQ8
    obtain ⟨rfl, Nq8, eh8⟩ := hQ8
    have NF8 := Fr.app NF0 Nq8
    show G (T8.setTop (mkF m 28 #[.val (.ref a), .val (.int 2), .val (.int (q.1 (2 : Int32))), .val (.int 0)] [(.int 0)]))
    refine g_ifNo hG X8 hx (hb hby d6_28) (pc' := 31) (by decide) rfl ?_
    show G (T8.setTop (mkF m 31 #[.val (.ref a), .val (.int 2), .val (.int (q.1 (2 : Int32))), .val (.int 0)] []))
    refine g_goto hG X8 hx (hb hby d6_31) (pc' := 50) (by decide) (by decide) ?_
    show G (T8.setTop (mkF m 50 #[.val (.ref a), .val (.int 2), .val (.int (q.1 (2 : Int32))), .val (.int 0)] []))
    refine g_aloadN hG X8 hx (hb hby d6_50) (pc' := 51) rfl rfl rfl ?_
    show G (T8.setTop (mkF m 51 #[.val (.ref a), .val (.int 2), .val (.int (q.1 (2 : Int32))), .val (.int 0)] [(.ref a)]))
    refine g_iloadN hG X8 hx (hb hby d6_51) (pc' := 52) rfl rfl ?_
    show G (T8.setTop (mkF m 52 #[.val (.ref a), .val (.int 2), .val (.int (q.1 (2 : Int32))), .val (.int 0)] [(.int (q.1 (2 : Int32))), (.ref a)]))
    refine g_iloadN hG X8 hx (hb hby d6_52) (pc' := 53) rfl rfl ?_
    show G (T8.setTop (mkF m 53 #[.val (.ref a), .val (.int 2), .val (.int (q.1 (2 : Int32))), .val (.int 0)] [(.int 2), (.int (q.1 (2 : Int32))), (.ref a)]))
    refine g_callP hG X8 hx hZ (y := (⟨"com/example/tributary/tributary/plan/NodeHeap", "place", "(II)V"⟩ : MethodName)) 0 hown (wd hw 36 rfl) (wd hw 37 rfl) (wd hw 6 rfl) (wd hw 38 rfl) (wd hw 7 rfl) (wd hw 39 rfl) (by decide) (rmPl l Z a0 hw [] a hp pp ky sz q K (q.1 (2 : Int32)) (2 : Int32) h0 n0 Zs ⟨Ex_a, F_heap_a, F_position_a, F_key_a, F_size_a, V_hp, V_pp, V_ky⟩ ⟨ga, ghp, gpp, gky, d1, d2, d3, d4, d5, d6⟩ (show In4 (q.1 (2 : Int32)) from ii 2 (by decide)) in4_2) (by decide) (by decide) (by rw [hml]; rfl) pd_1 rfl (argsL := [(.int (q.1 (2 : Int32))), (.int 2)]) (rest := []) rfl rfl (Nat.le_of_eq rfl) (hb hby d6_53) eh8 Ex_a (by decide) (by decide) (pc' := 56) rfl ?_
    intro T9 rv9 L9 X9 hQ9
    obtain ⟨rfl, Nq9, Kq9, Ex_a, F_heap_a, F_position_a, F_key_a, F_size_a, V_hp, V_pp, V_ky⟩ := hQ9
    have NF9 := Fr.app NF8 Nq9
    have Zs := Nat.le_trans Zs Kq9.1
    have K9 := K0.trans Kq9 (allS (Or.inl (List.mem_of_getElem? (i := 0) rfl)) (allS (Or.inl (List.mem_of_getElem? (i := 1) rfl)) (allS (Or.inl (List.mem_of_getElem? (i := 2) rfl)) (allS (Or.inl (List.mem_of_getElem? (i := 3) rfl)) all0))))
    show G (T9.setTop (mkF m 56 #[.val (.ref a), .val (.int 2), .val (.int (q.1 (2 : Int32))), .val (.int 0)] []))
    exact e_ret0 hGe X9 hx hrt hlk (hb hby d6_56) rfl (by decide) (by decide) (⟨rfl, NF9, K9, (by
          have e : rs2 bt q = (pl q (q.1 (2 : Int32)) (2 : Int32)) := by
            unfold rs2
            exact if_neg g25_3
          rw [e]
          exact ⟨Ex_a, F_heap_a, F_position_a, F_key_a, F_size_a, V_hp, V_pp, V_ky⟩)⟩)

def Q_rmRs3 (Z : State) (a hp pp ky : Addr) (sz : Int32) (q : HP) (K : Int32 → UInt64) (bt : Int32 → Int32 → Bool) (h0 : Heap) (n0 : Nat) (v : Option Value) (h : Heap) (L : List Loc) : Prop := v = none ∧ Fr n0 L ∧ Keep h0 h [a, hp, pp, ky] ∧ NH Z h a hp pp ky sz (rs3 bt q) K
set_option maxRecDepth 65536 in
set_option maxHeartbeats 40000000 in
theorem rmRs3 (l : Launch) (Z : State) (a0 : Array Value) (hw : ∀ d ∈ tables_1, d.before a0 Z = true) (ws : List Jvm.Cond) (a hp pp ky : Addr) (sz : Int32) (q : HP) (K : Int32 → UInt64) (bt : Int32 → Int32 → Bool) (h0 : Heap) (n0 : Nat) (Zs : n0 ≤ h0.size) (NQ : NH Z h0 a hp pp ky sz q K) (DD : Dis n0 a hp pp ky) (ii : I4 4 q) (hbb : HB 4 K bt q) :
    Con l (⟨"com/example/tributary/tributary/plan/NodeHeap", "rise", "(I)V"⟩ : MethodName) prog_39_method_6_code 4 none ws ({ frames := 1, cells := 0, slots := 0, locals := 24 } : Room) Z #[(.ref a), (.int 3)] h0 ({ frames := 1, cells := 0, slots := 0, locals := 24 } : Room).cells ({ frames := 1, cells := 0, slots := 0, locals := 24 } : Room).slots (Q_rmRs3 Z a hp pp ky sz q K bt h0 n0) := by
  refine Con.of (Ls := #[.val (.ref a), .val (.int 3), .unset, .unset]) (plainFor_of_name (by first | (simp [plainName, overriddenIn]; done) | decide +kernel)) (fun m => by first | (simp [entryFrame, mkF, argsToLocals, Value.category]; done) | rfl) ?_
  intro p e s m below meth c s₁ G hGe hG hx hby hml hown hnm hrt hlk hZ X0 e0
  have hown : s.vm.findClass "com/example/tributary/tributary/plan/NodeHeap" = some m.cls := hown
  have hnm : meth.name = "rise" := hnm
  have NF0 := Fr.nil n0
  obtain ⟨Ex_a, F_heap_a, F_position_a, F_key_a, F_size_a, V_hp, V_pp, V_ky⟩ := NQ
  obtain ⟨ga, ghp, gpp, gky, d1, d2, d3, d4, d5, d6⟩ := DD
  have K0 := Keep.refl h0 [a, hp, pp, ky]
  refine g_aloadN hG X0 hx (hb hby d6_0) (pc' := 1) rfl rfl rfl ?_
  show G (s₁.setTop (mkF m 1 #[.val (.ref a), .val (.int 3), .unset, .unset] [(.ref a)]))
  refine g_getF hG X0 hx hZ hown (wd hw 15 rfl) Via.refl e0 F_heap_a (hb hby d6_1) (pc' := 4) rfl ?_
  intro T1 X1 e1
  show G (T1.setTop (mkF m 4 #[.val (.ref a), .val (.int 3), .unset, .unset] [(.ref hp)]))
  refine g_iloadN hG X1 hx (hb hby d6_4) (pc' := 5) rfl rfl ?_
  show G (T1.setTop (mkF m 5 #[.val (.ref a), .val (.int 3), .unset, .unset] [(.int 3), (.ref hp)]))
  refine g_iaload hG X1 hx hZ e1 V_hp (j := (3 : Int32)) (v := (.int (q.1 (3 : Int32)))) (in4_nn in4_3) (in4_at in4_3 rfl) (hb hby d6_5) (pc' := 6) rfl ?_
  show G (T1.setTop (mkF m 6 #[.val (.ref a), .val (.int 3), .unset, .unset] [(.int (q.1 (3 : Int32)))]))
  refine g_istoreN hG X1 hx (hb hby d6_6) (pc' := 7) rfl (Ls' := #[.val (.ref a), .val (.int 3), .val (.int (q.1 (3 : Int32))), .unset]) rfl ?_
  show G (T1.setTop (mkF m 7 #[.val (.ref a), .val (.int 3), .val (.int (q.1 (3 : Int32))), .unset] []))
  refine g_iloadN hG X1 hx (hb hby d6_7) (pc' := 8) rfl rfl ?_
  show G (T1.setTop (mkF m 8 #[.val (.ref a), .val (.int 3), .val (.int (q.1 (3 : Int32))), .unset] [(.int 3)]))
  refine g_ifNo hG X1 hx (hb hby d6_8) (pc' := 11) (by decide) rfl ?_
  show G (T1.setTop (mkF m 11 #[.val (.ref a), .val (.int 3), .val (.int (q.1 (3 : Int32))), .unset] []))
  refine g_iloadN hG X1 hx (hb hby d6_11) (pc' := 12) rfl rfl ?_
  show G (T1.setTop (mkF m 12 #[.val (.ref a), .val (.int 3), .val (.int (q.1 (3 : Int32))), .unset] [(.int 3)]))
  refine g_iconst hG X1 hx (hb hby d6_12) (pc' := 13) rfl (v := (1 : Int32)) rfl ?_
  show G (T1.setTop (mkF m 13 #[.val (.ref a), .val (.int 3), .val (.int (q.1 (3 : Int32))), .unset] [(.int 1), (.int 3)]))
  refine g_isub hG X1 hx (hb hby d6_13) (pc' := 14) rfl (v := (2 : Int32)) (by decide) ?_
  show G (T1.setTop (mkF m 14 #[.val (.ref a), .val (.int 3), .val (.int (q.1 (3 : Int32))), .unset] [(.int 2)]))
  refine g_iconst hG X1 hx (hb hby d6_14) (pc' := 15) rfl (v := (2 : Int32)) rfl ?_
  show G (T1.setTop (mkF m 15 #[.val (.ref a), .val (.int 3), .val (.int (q.1 (3 : Int32))), .unset] [(.int 2), (.int 2)]))
  refine g_idiv hG X1 hx (hb hby d6_15) (pc' := 16) rfl (by decide) (v := (1 : Int32)) (by decide) ?_
  show G (T1.setTop (mkF m 16 #[.val (.ref a), .val (.int 3), .val (.int (q.1 (3 : Int32))), .unset] [(.int 1)]))
  refine g_istoreN hG X1 hx (hb hby d6_16) (pc' := 17) rfl (Ls' := #[.val (.ref a), .val (.int 3), .val (.int (q.1 (3 : Int32))), .val (.int 1)]) rfl ?_
  show G (T1.setTop (mkF m 17 #[.val (.ref a), .val (.int 3), .val (.int (q.1 (3 : Int32))), .val (.int 1)] []))
  refine g_aloadN hG X1 hx (hb hby d6_17) (pc' := 18) rfl rfl rfl ?_
  show G (T1.setTop (mkF m 18 #[.val (.ref a), .val (.int 3), .val (.int (q.1 (3 : Int32))), .val (.int 1)] [(.ref a)]))
  refine g_iloadN hG X1 hx (hb hby d6_18) (pc' := 19) rfl rfl ?_
  show G (T1.setTop (mkF m 19 #[.val (.ref a), .val (.int 3), .val (.int (q.1 (3 : Int32))), .val (.int 1)] [(.int (q.1 (3 : Int32))), (.ref a)]))
  refine g_aloadN hG X1 hx (hb hby d6_19) (pc' := 20) rfl rfl rfl ?_
  show G (T1.setTop (mkF m 20 #[.val (.ref a), .val (.int 3), .val (.int (q.1 (3 : Int32))), .val (.int 1)] [(.ref a), (.int (q.1 (3 : Int32))), (.ref a)]))
  refine g_getF hG X1 hx hZ hown (wd hw 15 rfl) Via.refl e1 F_heap_a (hb hby d6_20) (pc' := 23) rfl ?_
  intro T2 X2 e2
  show G (T2.setTop (mkF m 23 #[.val (.ref a), .val (.int 3), .val (.int (q.1 (3 : Int32))), .val (.int 1)] [(.ref hp), (.int (q.1 (3 : Int32))), (.ref a)]))
  refine g_iloadN hG X2 hx (hb hby d6_23) (pc' := 24) rfl rfl ?_
  show G (T2.setTop (mkF m 24 #[.val (.ref a), .val (.int 3), .val (.int (q.1 (3 : Int32))), .val (.int 1)] [(.int 1), (.ref hp), (.int (q.1 (3 : Int32))), (.ref a)]))
  refine g_iaload hG X2 hx hZ e2 V_hp (j := (1 : Int32)) (v := (.int (q.1 (1 : Int32)))) (in4_nn in4_1) (in4_at in4_1 rfl) (hb hby d6_24) (pc' := 25) rfl ?_
  show G (T2.setTop (mkF m 25 #[.val (.ref a), .val (.int 3), .val (.int (q.1 (3 : Int32))), .val (.int 1)] [(.int (q.1 (1 : Int32))), (.int (q.1 (3 : Int32))), (.ref a)]))
  by_cases g25_3 : bt (q.1 (3 : Int32)) (q.1 (1 : Int32)) = true
  · have _hh := g25_3
    refine g_callP hG X2 hx hZ (y := (⟨"com/example/tributary/tributary/plan/NodeHeap", "before", "(II)Z"⟩ : MethodName)) 0 hown (wd hw 40 rfl) (wd hw 41 rfl) (wd hw 6 rfl) (wd hw 42 rfl) (wd hw 7 rfl) (wd hw 43 rfl) (by decide) (rmBe l Z a0 hw [] a hp pp ky sz q K (q.1 (3 : Int32)) (q.1 (1 : Int32)) (1 : Int32) h0 n0 Zs ⟨Ex_a, F_heap_a, F_position_a, F_key_a, F_size_a, V_hp, V_pp, V_ky⟩ ⟨ga, ghp, gpp, gky, d1, d2, d3, d4, d5, d6⟩ (show In4 (q.1 (3 : Int32)) from ii 3 (by decide)) (show In4 (q.1 (1 : Int32)) from ii 1 (by decide)) ((hbb 3 1 (by decide) (by decide)).1 g25_3)) (by decide) (by decide) (by rw [hml]; rfl) pd_2 rfl (argsL := [(.int (q.1 (3 : Int32))), (.int (q.1 (1 : Int32)))]) (rest := []) rfl rfl (Nat.le_of_eq rfl) (hb hby d6_25) e2 Ex_a (by decide) (by decide) (pc' := 28) rfl ?_
    intro T4 rv4 L4 X4 hQ4
    obtain ⟨rfl, Nq4, eh4⟩ := hQ4
    have NF4 := Fr.app NF0 Nq4
    show G (T4.setTop (mkF m 28 #[.val (.ref a), .val (.int 3), .val (.int (q.1 (3 : Int32))), .val (.int 1)] [(.int 1)]))
    refine g_ifYes hG X4 hx (hb hby d6_28) (pc' := 34) (by decide) (by decide) (by decide) ?_
    show G (T4.setTop (mkF m 34 #[.val (.ref a), .val (.int 3), .val (.int (q.1 (3 : Int32))), .val (.int 1)] []))
    refine g_aloadN hG X4 hx (hb hby d6_34) (pc' := 35) rfl rfl rfl ?_
    show G (T4.setTop (mkF m 35 #[.val (.ref a), .val (.int 3), .val (.int (q.1 (3 : Int32))), .val (.int 1)] [(.ref a)]))
    refine g_aloadN hG X4 hx (hb hby d6_35) (pc' := 36) rfl rfl rfl ?_
    show G (T4.setTop (mkF m 36 #[.val (.ref a), .val (.int 3), .val (.int (q.1 (3 : Int32))), .val (.int 1)] [(.ref a), (.ref a)]))
    refine g_getF hG X4 hx hZ hown (wd hw 15 rfl) Via.refl eh4 F_heap_a (hb hby d6_36) (pc' := 39) rfl ?_
    intro T5 X5 e5
    show G (T5.setTop (mkF m 39 #[.val (.ref a), .val (.int 3), .val (.int (q.1 (3 : Int32))), .val (.int 1)] [(.ref hp), (.ref a)]))
    refine g_iloadN hG X5 hx (hb hby d6_39) (pc' := 40) rfl rfl ?_
    show G (T5.setTop (mkF m 40 #[.val (.ref a), .val (.int 3), .val (.int (q.1 (3 : Int32))), .val (.int 1)] [(.int 1), (.ref hp), (.ref a)]))
    refine g_iaload hG X5 hx hZ e5 V_hp (j := (1 : Int32)) (v := (.int (q.1 (1 : Int32)))) (in4_nn in4_1) (in4_at in4_1 rfl) (hb hby d6_40) (pc' := 41) rfl ?_
    show G (T5.setTop (mkF m 41 #[.val (.ref a), .val (.int 3), .val (.int (q.1 (3 : Int32))), .val (.int 1)] [(.int (q.1 (1 : Int32))), (.ref a)]))
    refine g_iloadN hG X5 hx (hb hby d6_41) (pc' := 42) rfl rfl ?_
    show G (T5.setTop (mkF m 42 #[.val (.ref a), .val (.int 3), .val (.int (q.1 (3 : Int32))), .val (.int 1)] [(.int 3), (.int (q.1 (1 : Int32))), (.ref a)]))
    refine g_callP hG X5 hx hZ (y := (⟨"com/example/tributary/tributary/plan/NodeHeap", "place", "(II)V"⟩ : MethodName)) 0 hown (wd hw 36 rfl) (wd hw 37 rfl) (wd hw 6 rfl) (wd hw 38 rfl) (wd hw 7 rfl) (wd hw 39 rfl) (by decide) (rmPl l Z a0 hw [] a hp pp ky sz q K (q.1 (1 : Int32)) (3 : Int32) h0 n0 Zs ⟨Ex_a, F_heap_a, F_position_a, F_key_a, F_size_a, V_hp, V_pp, V_ky⟩ ⟨ga, ghp, gpp, gky, d1, d2, d3, d4, d5, d6⟩ (show In4 (q.1 (1 : Int32)) from ii 1 (by decide)) in4_3) (by decide) (by decide) (by rw [hml]; rfl) pd_1 rfl (argsL := [(.int (q.1 (1 : Int32))), (.int 3)]) (rest := []) rfl rfl (Nat.le_of_eq rfl) (hb hby d6_42) e5 Ex_a (by decide) (by decide) (pc' := 45) rfl ?_
    intro T6 rv6 L6 X6 hQ6
    obtain ⟨rfl, Nq6, Kq6, Ex_a, F_heap_a, F_position_a, F_key_a, F_size_a, V_hp, V_pp, V_ky⟩ := hQ6
    have NF6 := Fr.app NF4 Nq6
    have Zs := Nat.le_trans Zs Kq6.1
    have K6 := K0.trans Kq6 (allS (Or.inl (List.mem_of_getElem? (i := 0) rfl)) (allS (Or.inl (List.mem_of_getElem? (i := 1) rfl)) (allS (Or.inl (List.mem_of_getElem? (i := 2) rfl)) (allS (Or.inl (List.mem_of_getElem? (i := 3) rfl)) all0))))
    show G (T6.setTop (mkF m 45 #[.val (.ref a), .val (.int 3), .val (.int (q.1 (3 : Int32))), .val (.int 1)] []))
    refine g_iloadN hG X6 hx (hb hby d6_45) (pc' := 46) rfl rfl ?_
    show G (T6.setTop (mkF m 46 #[.val (.ref a), .val (.int 3), .val (.int (q.1 (3 : Int32))), .val (.int 1)] [(.int 1)]))
    refine g_istoreN hG X6 hx (hb hby d6_46) (pc' := 47) rfl (Ls' := #[.val (.ref a), .val (.int 1), .val (.int (q.1 (3 : Int32))), .val (.int 1)]) rfl ?_
    show G (T6.setTop (mkF m 47 #[.val (.ref a), .val (.int 1), .val (.int (q.1 (3 : Int32))), .val (.int 1)] []))
    refine g_goto hG X6 hx (hb hby d6_47) (pc' := 7) (by decide) (by decide) ?_
    show G (T6.setTop (mkF m 7 #[.val (.ref a), .val (.int 1), .val (.int (q.1 (3 : Int32))), .val (.int 1)] []))
    refine g_iloadN hG X6 hx (hb hby d6_7) (pc' := 8) rfl rfl ?_
    show G (T6.setTop (mkF m 8 #[.val (.ref a), .val (.int 1), .val (.int (q.1 (3 : Int32))), .val (.int 1)] [(.int 1)]))
    refine g_ifNo hG X6 hx (hb hby d6_8) (pc' := 11) (by decide) rfl ?_
    show G (T6.setTop (mkF m 11 #[.val (.ref a), .val (.int 1), .val (.int (q.1 (3 : Int32))), .val (.int 1)] []))
    refine g_iloadN hG X6 hx (hb hby d6_11) (pc' := 12) rfl rfl ?_
    show G (T6.setTop (mkF m 12 #[.val (.ref a), .val (.int 1), .val (.int (q.1 (3 : Int32))), .val (.int 1)] [(.int 1)]))
    refine g_iconst hG X6 hx (hb hby d6_12) (pc' := 13) rfl (v := (1 : Int32)) rfl ?_
    show G (T6.setTop (mkF m 13 #[.val (.ref a), .val (.int 1), .val (.int (q.1 (3 : Int32))), .val (.int 1)] [(.int 1), (.int 1)]))
    refine g_isub hG X6 hx (hb hby d6_13) (pc' := 14) rfl (v := (0 : Int32)) (by decide) ?_
    show G (T6.setTop (mkF m 14 #[.val (.ref a), .val (.int 1), .val (.int (q.1 (3 : Int32))), .val (.int 1)] [(.int 0)]))
    refine g_iconst hG X6 hx (hb hby d6_14) (pc' := 15) rfl (v := (2 : Int32)) rfl ?_
    show G (T6.setTop (mkF m 15 #[.val (.ref a), .val (.int 1), .val (.int (q.1 (3 : Int32))), .val (.int 1)] [(.int 2), (.int 0)]))
    refine g_idiv hG X6 hx (hb hby d6_15) (pc' := 16) rfl (by decide) (v := (0 : Int32)) (by decide) ?_
    show G (T6.setTop (mkF m 16 #[.val (.ref a), .val (.int 1), .val (.int (q.1 (3 : Int32))), .val (.int 1)] [(.int 0)]))
    refine g_istoreN hG X6 hx (hb hby d6_16) (pc' := 17) rfl (Ls' := #[.val (.ref a), .val (.int 1), .val (.int (q.1 (3 : Int32))), .val (.int 0)]) rfl ?_
    show G (T6.setTop (mkF m 17 #[.val (.ref a), .val (.int 1), .val (.int (q.1 (3 : Int32))), .val (.int 0)] []))
    refine g_aloadN hG X6 hx (hb hby d6_17) (pc' := 18) rfl rfl rfl ?_
    show G (T6.setTop (mkF m 18 #[.val (.ref a), .val (.int 1), .val (.int (q.1 (3 : Int32))), .val (.int 0)] [(.ref a)]))
    refine g_iloadN hG X6 hx (hb hby d6_18) (pc' := 19) rfl rfl ?_
    show G (T6.setTop (mkF m 19 #[.val (.ref a), .val (.int 1), .val (.int (q.1 (3 : Int32))), .val (.int 0)] [(.int (q.1 (3 : Int32))), (.ref a)]))
    refine g_aloadN hG X6 hx (hb hby d6_19) (pc' := 20) rfl rfl rfl ?_
    show G (T6.setTop (mkF m 20 #[.val (.ref a), .val (.int 1), .val (.int (q.1 (3 : Int32))), .val (.int 0)] [(.ref a), (.int (q.1 (3 : Int32))), (.ref a)]))
    refine g_getF hG X6 hx hZ hown (wd hw 15 rfl) Via.refl rfl F_heap_a (hb hby d6_20) (pc' := 23) rfl ?_
    intro T7 X7 e7
    show G (T7.setTop (mkF m 23 #[.val (.ref a), .val (.int 1), .val (.int (q.1 (3 : Int32))), .val (.int 0)] [(.ref hp), (.int (q.1 (3 : Int32))), (.ref a)]))
    refine g_iloadN hG X7 hx (hb hby d6_23) (pc' := 24) rfl rfl ?_
    show G (T7.setTop (mkF m 24 #[.val (.ref a), .val (.int 1), .val (.int (q.1 (3 : Int32))), .val (.int 0)] [(.int 0), (.ref hp), (.int (q.1 (3 : Int32))), (.ref a)]))
    refine g_iaload hG X7 hx hZ e7 V_hp (j := (0 : Int32)) (v := (.int (q.1 (0 : Int32)))) (in4_nn in4_0) (in4_at in4_0 rfl) (hb hby d6_24) (pc' := 25) rfl ?_
    show G (T7.setTop (mkF m 25 #[.val (.ref a), .val (.int 1), .val (.int (q.1 (3 : Int32))), .val (.int 0)] [(.int (q.1 (0 : Int32))), (.int (q.1 (3 : Int32))), (.ref a)]))
    by_cases g25_8 : bt (q.1 (3 : Int32)) (q.1 (0 : Int32)) = true
    · have _hh := g25_8
      refine g_callP hG X7 hx hZ (y := (⟨"com/example/tributary/tributary/plan/NodeHeap", "before", "(II)Z"⟩ : MethodName)) 0 hown (wd hw 40 rfl) (wd hw 41 rfl) (wd hw 6 rfl) (wd hw 42 rfl) (wd hw 7 rfl) (wd hw 43 rfl) (by decide) (rmBe l Z a0 hw [] a hp pp ky sz (pl q (q.1 (1 : Int32)) (3 : Int32)) K (q.1 (3 : Int32)) (q.1 (0 : Int32)) (1 : Int32) T6.heap n0 Zs ⟨Ex_a, F_heap_a, F_position_a, F_key_a, F_size_a, V_hp, V_pp, V_ky⟩ ⟨ga, ghp, gpp, gky, d1, d2, d3, d4, d5, d6⟩ (show In4 (q.1 (3 : Int32)) from ii 3 (by decide)) (show In4 (q.1 (0 : Int32)) from ii 0 (by decide)) ((hbb 3 0 (by decide) (by decide)).1 g25_8)) (by decide) (by decide) (by rw [hml]; rfl) pd_2 rfl (argsL := [(.int (q.1 (3 : Int32))), (.int (q.1 (0 : Int32)))]) (rest := []) rfl rfl (Nat.le_of_eq rfl) (hb hby d6_25) e7 Ex_a (by decide) (by decide) (pc' := 28) rfl ?_
      intro T9 rv9 L9 X9 hQ9
      obtain ⟨rfl, Nq9, eh9⟩ := hQ9
      have NF9 := Fr.app NF6 Nq9
      show G (T9.setTop (mkF m 28 #[.val (.ref a), .val (.int 1), .val (.int (q.1 (3 : Int32))), .val (.int 0)] [(.int 1)]))
      refine g_ifYes hG X9 hx (hb hby d6_28) (pc' := 34) (by decide) (by decide) (by decide) ?_
      show G (T9.setTop (mkF m 34 #[.val (.ref a), .val (.int 1), .val (.int (q.1 (3 : Int32))), .val (.int 0)] []))
      refine g_aloadN hG X9 hx (hb hby d6_34) (pc' := 35) rfl rfl rfl ?_
      show G (T9.setTop (mkF m 35 #[.val (.ref a), .val (.int 1), .val (.int (q.1 (3 : Int32))), .val (.int 0)] [(.ref a)]))
      refine g_aloadN hG X9 hx (hb hby d6_35) (pc' := 36) rfl rfl rfl ?_
      show G (T9.setTop (mkF m 36 #[.val (.ref a), .val (.int 1), .val (.int (q.1 (3 : Int32))), .val (.int 0)] [(.ref a), (.ref a)]))
      refine g_getF hG X9 hx hZ hown (wd hw 15 rfl) Via.refl eh9 F_heap_a (hb hby d6_36) (pc' := 39) rfl ?_
      intro T10 X10 e10
      show G (T10.setTop (mkF m 39 #[.val (.ref a), .val (.int 1), .val (.int (q.1 (3 : Int32))), .val (.int 0)] [(.ref hp), (.ref a)]))
      refine g_iloadN hG X10 hx (hb hby d6_39) (pc' := 40) rfl rfl ?_
      show G (T10.setTop (mkF m 40 #[.val (.ref a), .val (.int 1), .val (.int (q.1 (3 : Int32))), .val (.int 0)] [(.int 0), (.ref hp), (.ref a)]))
      refine g_iaload hG X10 hx hZ e10 V_hp (j := (0 : Int32)) (v := (.int (q.1 (0 : Int32)))) (in4_nn in4_0) (in4_at in4_0 rfl) (hb hby d6_40) (pc' := 41) rfl ?_
      show G (T10.setTop (mkF m 41 #[.val (.ref a), .val (.int 1), .val (.int (q.1 (3 : Int32))), .val (.int 0)] [(.int (q.1 (0 : Int32))), (.ref a)]))
      refine g_iloadN hG X10 hx (hb hby d6_41) (pc' := 42) rfl rfl ?_
      show G (T10.setTop (mkF m 42 #[.val (.ref a), .val (.int 1), .val (.int (q.1 (3 : Int32))), .val (.int 0)] [(.int 1), (.int (q.1 (0 : Int32))), (.ref a)]))
      refine g_callP hG X10 hx hZ (y := (⟨"com/example/tributary/tributary/plan/NodeHeap", "place", "(II)V"⟩ : MethodName)) 0 hown (wd hw 36 rfl) (wd hw 37 rfl) (wd hw 6 rfl) (wd hw 38 rfl) (wd hw 7 rfl) (wd hw 39 rfl) (by decide) (rmPl l Z a0 hw [] a hp pp ky sz (pl q (q.1 (1 : Int32)) (3 : Int32)) K (q.1 (0 : Int32)) (1 : Int32) T6.heap n0 Zs ⟨Ex_a, F_heap_a, F_position_a, F_key_a, F_size_a, V_hp, V_pp, V_ky⟩ ⟨ga, ghp, gpp, gky, d1, d2, d3, d4, d5, d6⟩ (show In4 (q.1 (0 : Int32)) from ii 0 (by decide)) in4_1) (by decide) (by decide) (by rw [hml]; rfl) pd_1 rfl (argsL := [(.int (q.1 (0 : Int32))), (.int 1)]) (rest := []) rfl rfl (Nat.le_of_eq rfl) (hb hby d6_42) e10 Ex_a (by decide) (by decide) (pc' := 45) rfl ?_
      intro T11 rv11 L11 X11 hQ11
      obtain ⟨rfl, Nq11, Kq11, Ex_a, F_heap_a, F_position_a, F_key_a, F_size_a, V_hp, V_pp, V_ky⟩ := hQ11
      have NF11 := Fr.app NF9 Nq11
      have Zs := Nat.le_trans Zs Kq11.1
      have K11 := K6.trans Kq11 (allS (Or.inl (List.mem_of_getElem? (i := 0) rfl)) (allS (Or.inl (List.mem_of_getElem? (i := 1) rfl)) (allS (Or.inl (List.mem_of_getElem? (i := 2) rfl)) (allS (Or.inl (List.mem_of_getElem? (i := 3) rfl)) all0))))
      show G (T11.setTop (mkF m 45 #[.val (.ref a), .val (.int 1), .val (.int (q.1 (3 : Int32))), .val (.int 0)] []))
      refine g_iloadN hG X11 hx (hb hby d6_45) (pc' := 46) rfl rfl ?_
      show G (T11.setTop (mkF m 46 #[.val (.ref a), .val (.int 1), .val (.int (q.1 (3 : Int32))), .val (.int 0)] [(.int 0)]))
      refine g_istoreN hG X11 hx (hb hby d6_46) (pc' := 47) rfl (Ls' := #[.val (.ref a), .val (.int 0), .val (.int (q.1 (3 : Int32))), .val (.int 0)]) rfl ?_
      show G (T11.setTop (mkF m 47 #[.val (.ref a), .val (.int 0), .val (.int (q.1 (3 : Int32))), .val (.int 0)] []))
      refine g_goto hG X11 hx (hb hby d6_47) (pc' := 7) (by decide) (by decide) ?_
      show G (T11.setTop (mkF m 7 #[.val (.ref a), .val (.int 0), .val (.int (q.1 (3 : Int32))), .val (.int 0)] []))
      refine g_iloadN hG X11 hx (hb hby d6_7) (pc' := 8) rfl rfl ?_
      show G (T11.setTop (mkF m 8 #[.val (.ref a), .val (.int 0), .val (.int (q.1 (3 : Int32))), .val (.int 0)] [(.int 0)]))
      refine g_ifYes hG X11 hx (hb hby d6_8) (pc' := 50) (by decide) (by decide) (by decide) ?_
      show G (T11.setTop (mkF m 50 #[.val (.ref a), .val (.int 0), .val (.int (q.1 (3 : Int32))), .val (.int 0)] []))
      refine g_aloadN hG X11 hx (hb hby d6_50) (pc' := 51) rfl rfl rfl ?_
      show G (T11.setTop (mkF m 51 #[.val (.ref a), .val (.int 0), .val (.int (q.1 (3 : Int32))), .val (.int 0)] [(.ref a)]))
      refine g_iloadN hG X11 hx (hb hby d6_51) (pc' := 52) rfl rfl ?_
      show G (T11.setTop (mkF m 52 #[.val (.ref a), .val (.int 0), .val (.int (q.1 (3 : Int32))), .val (.int 0)] [(.int (q.1 (3 : Int32))), (.ref a)]))
      refine g_iloadN hG X11 hx (hb hby d6_52) (pc' := 53) rfl rfl ?_
      show G (T11.setTop (mkF m 53 #[.val (.ref a), .val (.int 0), .val (.int (q.1 (3 : Int32))), .val (.int 0)] [(.int 0), (.int (q.1 (3 : Int32))), (.ref a)]))
      refine g_callP hG X11 hx hZ (y := (⟨"com/example/tributary/tributary/plan/NodeHeap", "place", "(II)V"⟩ : MethodName)) 0 hown (wd hw 36 rfl) (wd hw 37 rfl) (wd hw 6 rfl) (wd hw 38 rfl) (wd hw 7 rfl) (wd hw 39 rfl) (by decide) (rmPl l Z a0 hw [] a hp pp ky sz (pl (pl q (q.1 (1 : Int32)) (3 : Int32)) (q.1 (0 : Int32)) (1 : Int32)) K (q.1 (3 : Int32)) (0 : Int32) T11.heap n0 Zs ⟨Ex_a, F_heap_a, F_position_a, F_key_a, F_size_a, V_hp, V_pp, V_ky⟩ ⟨ga, ghp, gpp, gky, d1, d2, d3, d4, d5, d6⟩ (show In4 (q.1 (3 : Int32)) from ii 3 (by decide)) in4_0) (by decide) (by decide) (by rw [hml]; rfl) pd_1 rfl (argsL := [(.int (q.1 (3 : Int32))), (.int 0)]) (rest := []) rfl rfl (Nat.le_of_eq rfl) (hb hby d6_53) rfl Ex_a (by decide) (by decide) (pc' := 56) rfl ?_
      intro T12 rv12 L12 X12 hQ12
      obtain ⟨rfl, Nq12, Kq12, Ex_a, F_heap_a, F_position_a, F_key_a, F_size_a, V_hp, V_pp, V_ky⟩ := hQ12
      have NF12 := Fr.app NF11 Nq12
      have Zs := Nat.le_trans Zs Kq12.1
      have K12 := K11.trans Kq12 (allS (Or.inl (List.mem_of_getElem? (i := 0) rfl)) (allS (Or.inl (List.mem_of_getElem? (i := 1) rfl)) (allS (Or.inl (List.mem_of_getElem? (i := 2) rfl)) (allS (Or.inl (List.mem_of_getElem? (i := 3) rfl)) all0))))
      show G (T12.setTop (mkF m 56 #[.val (.ref a), .val (.int 0), .val (.int (q.1 (3 : Int32))), .val (.int 0)] []))
      exact e_ret0 hGe X12 hx hrt hlk (hb hby d6_56) rfl (by decide) (by decide) (⟨rfl, NF12, K12, (by
              have e : rs3 bt q = (pl (pl (pl q (q.1 (1 : Int32)) (3 : Int32)) (q.1 (0 : Int32)) (1 : Int32)) (q.1 (3 : Int32)) (0 : Int32)) := by
                unfold rs3
                rw [if_pos g25_3, if_pos g25_8]
              rw [e]
              exact ⟨Ex_a, F_heap_a, F_position_a, F_key_a, F_size_a, V_hp, V_pp, V_ky⟩)⟩)
    · have _hh := g25_8
      refine g_callP hG X7 hx hZ (y := (⟨"com/example/tributary/tributary/plan/NodeHeap", "before", "(II)Z"⟩ : MethodName)) 0 hown (wd hw 40 rfl) (wd hw 41 rfl) (wd hw 6 rfl) (wd hw 42 rfl) (wd hw 7 rfl) (wd hw 43 rfl) (by decide) (rmBe l Z a0 hw [] a hp pp ky sz (pl q (q.1 (1 : Int32)) (3 : Int32)) K (q.1 (3 : Int32)) (q.1 (0 : Int32)) (0 : Int32) T6.heap n0 Zs ⟨Ex_a, F_heap_a, F_position_a, F_key_a, F_size_a, V_hp, V_pp, V_ky⟩ ⟨ga, ghp, gpp, gky, d1, d2, d3, d4, d5, d6⟩ (show In4 (q.1 (3 : Int32)) from ii 3 (by decide)) (show In4 (q.1 (0 : Int32)) from ii 0 (by decide)) ((hbb 3 0 (by decide) (by decide)).2 g25_8)) (by decide) (by decide) (by rw [hml]; rfl) pd_2 rfl (argsL := [(.int (q.1 (3 : Int32))), (.int (q.1 (0 : Int32)))]) (rest := []) rfl rfl (Nat.le_of_eq rfl) (hb hby d6_25) e7 Ex_a (by decide) (by decide) (pc' := 28) rfl ?_
      intro T13 rv13 L13 X13 hQ13
      obtain ⟨rfl, Nq13, eh13⟩ := hQ13
      have NF13 := Fr.app NF6 Nq13
      show G (T13.setTop (mkF m 28 #[.val (.ref a), .val (.int 1), .val (.int (q.1 (3 : Int32))), .val (.int 0)] [(.int 0)]))
      refine g_ifNo hG X13 hx (hb hby d6_28) (pc' := 31) (by decide) rfl ?_
      show G (T13.setTop (mkF m 31 #[.val (.ref a), .val (.int 1), .val (.int (q.1 (3 : Int32))), .val (.int 0)] []))
      refine g_goto hG X13 hx (hb hby d6_31) (pc' := 50) (by decide) (by decide) ?_
      show G (T13.setTop (mkF m 50 #[.val (.ref a), .val (.int 1), .val (.int (q.1 (3 : Int32))), .val (.int 0)] []))
      refine g_aloadN hG X13 hx (hb hby d6_50) (pc' := 51) rfl rfl rfl ?_
      show G (T13.setTop (mkF m 51 #[.val (.ref a), .val (.int 1), .val (.int (q.1 (3 : Int32))), .val (.int 0)] [(.ref a)]))
      refine g_iloadN hG X13 hx (hb hby d6_51) (pc' := 52) rfl rfl ?_
      show G (T13.setTop (mkF m 52 #[.val (.ref a), .val (.int 1), .val (.int (q.1 (3 : Int32))), .val (.int 0)] [(.int (q.1 (3 : Int32))), (.ref a)]))
      refine g_iloadN hG X13 hx (hb hby d6_52) (pc' := 53) rfl rfl ?_
      show G (T13.setTop (mkF m 53 #[.val (.ref a), .val (.int 1), .val (.int (q.1 (3 : Int32))), .val (.int 0)] [(.int 1), (.int (q.1 (3 : Int32))), (.ref a)]))
      refine g_callP hG X13 hx hZ (y := (⟨"com/example/tributary/tributary/plan/NodeHeap", "place", "(II)V"⟩ : MethodName)) 0 hown (wd hw 36 rfl) (wd hw 37 rfl) (wd hw 6 rfl) (wd hw 38 rfl) (wd hw 7 rfl) (wd hw 39 rfl) (by decide) (rmPl l Z a0 hw [] a hp pp ky sz (pl q (q.1 (1 : Int32)) (3 : Int32)) K (q.1 (3 : Int32)) (1 : Int32) T6.heap n0 Zs ⟨Ex_a, F_heap_a, F_position_a, F_key_a, F_size_a, V_hp, V_pp, V_ky⟩ ⟨ga, ghp, gpp, gky, d1, d2, d3, d4, d5, d6⟩ (show In4 (q.1 (3 : Int32)) from ii 3 (by decide)) in4_1) (by decide) (by decide) (by rw [hml]; rfl) pd_1 rfl (argsL := [(.int (q.1 (3 : Int32))), (.int 1)]) (rest := []) rfl rfl (Nat.le_of_eq rfl) (hb hby d6_53) eh13 Ex_a (by decide) (by decide) (pc' := 56) rfl ?_
      intro T14 rv14 L14 X14 hQ14
      obtain ⟨rfl, Nq14, Kq14, Ex_a, F_heap_a, F_position_a, F_key_a, F_size_a, V_hp, V_pp, V_ky⟩ := hQ14
      have NF14 := Fr.app NF13 Nq14
      have Zs := Nat.le_trans Zs Kq14.1
      have K14 := K6.trans Kq14 (allS (Or.inl (List.mem_of_getElem? (i := 0) rfl)) (allS (Or.inl (List.mem_of_getElem? (i := 1) rfl)) (allS (Or.inl (List.mem_of_getElem? (i := 2) rfl)) (allS (Or.inl (List.mem_of_getElem? (i := 3) rfl)) all0))))
      show G (T14.setTop (mkF m 56 #[.val (.ref a), .val (.int 1), .val (.int (q.1 (3 : Int32))), .val (.int 0)] []))
      exact e_ret0 hGe X14 hx hrt hlk (hb hby d6_56) rfl (by decide) (by decide) (⟨rfl, NF14, K14, (by
              have e : rs3 bt q = (pl (pl q (q.1 (1 : Int32)) (3 : Int32)) (q.1 (3 : Int32)) (1 : Int32)) := by
                unfold rs3
                rw [if_pos g25_3, if_neg g25_8]
              rw [e]
              exact ⟨Ex_a, F_heap_a, F_position_a, F_key_a, F_size_a, V_hp, V_pp, V_ky⟩)⟩)
  · have _hh := g25_3
    refine g_callP hG X2 hx hZ (y := (⟨"com/example/tributary/tributary/plan/NodeHeap", "before", "(II)Z"⟩ : MethodName)) 0 hown (wd hw 40 rfl) (wd hw 41 rfl) (wd hw 6 rfl) (wd hw 42 rfl) (wd hw 7 rfl) (wd hw 43 rfl) (by decide) (rmBe l Z a0 hw [] a hp pp ky sz q K (q.1 (3 : Int32)) (q.1 (1 : Int32)) (0 : Int32) h0 n0 Zs ⟨Ex_a, F_heap_a, F_position_a, F_key_a, F_size_a, V_hp, V_pp, V_ky⟩ ⟨ga, ghp, gpp, gky, d1, d2, d3, d4, d5, d6⟩ (show In4 (q.1 (3 : Int32)) from ii 3 (by decide)) (show In4 (q.1 (1 : Int32)) from ii 1 (by decide)) ((hbb 3 1 (by decide) (by decide)).2 g25_3)) (by decide) (by decide) (by rw [hml]; rfl) pd_2 rfl (argsL := [(.int (q.1 (3 : Int32))), (.int (q.1 (1 : Int32)))]) (rest := []) rfl rfl (Nat.le_of_eq rfl) (hb hby d6_25) e2 Ex_a (by decide) (by decide) (pc' := 28) rfl ?_
    intro T15 rv15 L15 X15 hQ15
    obtain ⟨rfl, Nq15, eh15⟩ := hQ15
    have NF15 := Fr.app NF0 Nq15
    show G (T15.setTop (mkF m 28 #[.val (.ref a), .val (.int 3), .val (.int (q.1 (3 : Int32))), .val (.int 1)] [(.int 0)]))
    refine g_ifNo hG X15 hx (hb hby d6_28) (pc' := 31) (by decide) rfl ?_
    show G (T15.setTop (mkF m 31 #[.val (.ref a), .val (.int 3), .val (.int (q.1 (3 : Int32))), .val (.int 1)] []))
    refine g_goto hG X15 hx (hb hby d6_31) (pc' := 50) (by decide) (by decide) ?_
    show G (T15.setTop (mkF m 50 #[.val (.ref a), .val (.int 3), .val (.int (q.1 (3 : Int32))), .val (.int 1)] []))
    refine g_aloadN hG X15 hx (hb hby d6_50) (pc' := 51) rfl rfl rfl ?_
    show G (T15.setTop (mkF m 51 #[.val (.ref a), .val (.int 3), .val (.int (q.1 (3 : Int32))), .val (.int 1)] [(.ref a)]))
    refine g_iloadN hG X15 hx (hb hby d6_51) (pc' := 52) rfl rfl ?_
    show G (T15.setTop (mkF m 52 #[.val (.ref a), .val (.int 3), .val (.int (q.1 (3 : Int32))), .val (.int 1)] [(.int (q.1 (3 : Int32))), (.ref a)]))
    refine g_iloadN hG X15 hx (hb hby d6_52) (pc' := 53) rfl rfl ?_
    show G (T15.setTop (mkF m 53 #[.val (.ref a), .val (.int 3), .val (.int (q.1 (3 : Int32))), .val (.int 1)] [(.int 3), (.int (q.1 (3 : Int32))), (.ref a)]))
    refine g_callP hG X15 hx hZ (y := (⟨"com/example/tributary/tributary/plan/NodeHeap", "place", "(II)V"⟩ : MethodName)) 0 hown (wd hw 36 rfl) (wd hw 37 rfl) (wd hw 6 rfl) (wd hw 38 rfl) (wd hw 7 rfl) (wd hw 39 rfl) (by decide) (rmPl l Z a0 hw [] a hp pp ky sz q K (q.1 (3 : Int32)) (3 : Int32) h0 n0 Zs ⟨Ex_a, F_heap_a, F_position_a, F_key_a, F_size_a, V_hp, V_pp, V_ky⟩ ⟨ga, ghp, gpp, gky, d1, d2, d3, d4, d5, d6⟩ (show In4 (q.1 (3 : Int32)) from ii 3 (by decide)) in4_3) (by decide) (by decide) (by rw [hml]; rfl) pd_1 rfl (argsL := [(.int (q.1 (3 : Int32))), (.int 3)]) (rest := []) rfl rfl (Nat.le_of_eq rfl) (hb hby d6_53) eh15 Ex_a (by decide) (by decide) (pc' := 56) rfl ?_
    intro T16 rv16 L16 X16 hQ16
    obtain ⟨rfl, Nq16, Kq16, Ex_a, F_heap_a, F_position_a, F_key_a, F_size_a, V_hp, V_pp, V_ky⟩ := hQ16
    have NF16 := Fr.app NF15 Nq16
    have Zs := Nat.le_trans Zs Kq16.1
    have K16 := K0.trans Kq16 (allS (Or.inl (List.mem_of_getElem? (i := 0) rfl)) (allS (Or.inl (List.mem_of_getElem? (i := 1) rfl)) (allS (Or.inl (List.mem_of_getElem? (i := 2) rfl)) (allS (Or.inl (List.mem_of_getElem? (i := 3) rfl)) all0))))
    show G (T16.setTop (mkF m 56 #[.val (.ref a), .val (.int 3), .val (.int (q.1 (3 : Int32))), .val (.int 1)] []))
    exact e_ret0 hGe X16 hx hrt hlk (hb hby d6_56) rfl (by decide) (by decide) (⟨rfl, NF16, K16, (by
          have e : rs3 bt q = (pl q (q.1 (3 : Int32)) (3 : Int32)) := by
            unfold rs3
            exact if_neg g25_3
          rw [e]
          exact ⟨Ex_a, F_heap_a, F_position_a, F_key_a, F_size_a, V_hp, V_pp, V_ky⟩)⟩)

def Q_rmSk1 (Z : State) (a hp pp ky : Addr) (q : HP) (K : Int32 → UInt64) (bt : Int32 → Int32 → Bool) (h0 : Heap) (n0 : Nat) (v : Option Value) (h : Heap) (L : List Loc) : Prop := v = none ∧ Fr n0 L ∧ Keep h0 h [a, hp, pp, ky] ∧ NH Z h a hp pp ky (1 : Int32) (sk1 bt q) K
set_option maxRecDepth 65536 in
set_option maxHeartbeats 40000000 in
theorem rmSk1 (l : Launch) (Z : State) (a0 : Array Value) (hw : ∀ d ∈ tables_1, d.before a0 Z = true) (ws : List Jvm.Cond) (a hp pp ky : Addr) (q : HP) (K : Int32 → UInt64) (bt : Int32 → Int32 → Bool) (h0 : Heap) (n0 : Nat) (Zs : n0 ≤ h0.size) (NQ : NH Z h0 a hp pp ky (1 : Int32) q K) (DD : Dis n0 a hp pp ky) (ii : I4 1 q) (hbb : HB 0 K bt q) :
    Con l (⟨"com/example/tributary/tributary/plan/NodeHeap", "sink", "(I)V"⟩ : MethodName) prog_39_method_7_code 4 none ws ({ frames := 1, cells := 0, slots := 0, locals := 24 } : Room) Z #[(.ref a), (.int 0)] h0 ({ frames := 1, cells := 0, slots := 0, locals := 24 } : Room).cells ({ frames := 1, cells := 0, slots := 0, locals := 24 } : Room).slots (Q_rmSk1 Z a hp pp ky q K bt h0 n0) := by
  refine Con.of (Ls := #[.val (.ref a), .val (.int 0), .unset, .unset]) (plainFor_of_name (by first | (simp [plainName, overriddenIn]; done) | decide +kernel)) (fun m => by first | (simp [entryFrame, mkF, argsToLocals, Value.category]; done) | rfl) ?_
  intro p e s m below meth c s₁ G hGe hG hx hby hml hown hnm hrt hlk hZ X0 e0
  have hown : s.vm.findClass "com/example/tributary/tributary/plan/NodeHeap" = some m.cls := hown
  have hnm : meth.name = "sink" := hnm
  have NF0 := Fr.nil n0
  obtain ⟨Ex_a, F_heap_a, F_position_a, F_key_a, F_size_a, V_hp, V_pp, V_ky⟩ := NQ
  obtain ⟨ga, ghp, gpp, gky, d1, d2, d3, d4, d5, d6⟩ := DD
  have K0 := Keep.refl h0 [a, hp, pp, ky]
  refine g_aloadN hG X0 hx (hb hby d10_0) (pc' := 1) rfl rfl rfl ?_
  show G (s₁.setTop (mkF m 1 #[.val (.ref a), .val (.int 0), .unset, .unset] [(.ref a)]))
  refine g_getF hG X0 hx hZ hown (wd hw 15 rfl) Via.refl e0 F_heap_a (hb hby d10_1) (pc' := 4) rfl ?_
  intro T1 X1 e1
  show G (T1.setTop (mkF m 4 #[.val (.ref a), .val (.int 0), .unset, .unset] [(.ref hp)]))
  refine g_iloadN hG X1 hx (hb hby d10_4) (pc' := 5) rfl rfl ?_
  show G (T1.setTop (mkF m 5 #[.val (.ref a), .val (.int 0), .unset, .unset] [(.int 0), (.ref hp)]))
  refine g_iaload hG X1 hx hZ e1 V_hp (j := (0 : Int32)) (v := (.int (q.1 (0 : Int32)))) (in4_nn in4_0) (in4_at in4_0 rfl) (hb hby d10_5) (pc' := 6) rfl ?_
  show G (T1.setTop (mkF m 6 #[.val (.ref a), .val (.int 0), .unset, .unset] [(.int (q.1 (0 : Int32)))]))
  refine g_istoreN hG X1 hx (hb hby d10_6) (pc' := 7) rfl (Ls' := #[.val (.ref a), .val (.int 0), .val (.int (q.1 (0 : Int32))), .unset]) rfl ?_
  show G (T1.setTop (mkF m 7 #[.val (.ref a), .val (.int 0), .val (.int (q.1 (0 : Int32))), .unset] []))
  refine g_iconst hG X1 hx (hb hby d10_7) (pc' := 8) rfl (v := (2 : Int32)) rfl ?_
  show G (T1.setTop (mkF m 8 #[.val (.ref a), .val (.int 0), .val (.int (q.1 (0 : Int32))), .unset] [(.int 2)]))
  refine g_iloadN hG X1 hx (hb hby d10_8) (pc' := 9) rfl rfl ?_
  show G (T1.setTop (mkF m 9 #[.val (.ref a), .val (.int 0), .val (.int (q.1 (0 : Int32))), .unset] [(.int 0), (.int 2)]))
  refine g_imul hG X1 hx (hb hby d10_9) (pc' := 10) rfl (v := (0 : Int32)) (by decide) ?_
  show G (T1.setTop (mkF m 10 #[.val (.ref a), .val (.int 0), .val (.int (q.1 (0 : Int32))), .unset] [(.int 0)]))
  refine g_iconst hG X1 hx (hb hby d10_10) (pc' := 11) rfl (v := (1 : Int32)) rfl ?_
  show G (T1.setTop (mkF m 11 #[.val (.ref a), .val (.int 0), .val (.int (q.1 (0 : Int32))), .unset] [(.int 1), (.int 0)]))
  refine g_iadd hG X1 hx (hb hby d10_11) (pc' := 12) rfl (v := (1 : Int32)) (by decide) ?_
  show G (T1.setTop (mkF m 12 #[.val (.ref a), .val (.int 0), .val (.int (q.1 (0 : Int32))), .unset] [(.int 1)]))
  refine g_istoreN hG X1 hx (hb hby d10_12) (pc' := 13) rfl (Ls' := #[.val (.ref a), .val (.int 0), .val (.int (q.1 (0 : Int32))), .val (.int 1)]) rfl ?_
  show G (T1.setTop (mkF m 13 #[.val (.ref a), .val (.int 0), .val (.int (q.1 (0 : Int32))), .val (.int 1)] []))
  refine g_iloadN hG X1 hx (hb hby d10_13) (pc' := 14) rfl rfl ?_
  show G (T1.setTop (mkF m 14 #[.val (.ref a), .val (.int 0), .val (.int (q.1 (0 : Int32))), .val (.int 1)] [(.int 1)]))
  refine g_aloadN hG X1 hx (hb hby d10_14) (pc' := 15) rfl rfl rfl ?_
  show G (T1.setTop (mkF m 15 #[.val (.ref a), .val (.int 0), .val (.int (q.1 (0 : Int32))), .val (.int 1)] [(.ref a), (.int 1)]))
  refine g_getF hG X1 hx hZ hown (wd hw 30 rfl) Via.refl e1 F_size_a (hb hby d10_15) (pc' := 18) rfl ?_
  intro T2 X2 e2
  show G (T2.setTop (mkF m 18 #[.val (.ref a), .val (.int 0), .val (.int (q.1 (0 : Int32))), .val (.int 1)] [(.int 1), (.int 1)]))
  refine g_icmpNo hG X2 hx (hb hby d10_18) (pc' := 21) (by decide) rfl ?_
  show G (T2.setTop (mkF m 21 #[.val (.ref a), .val (.int 0), .val (.int (q.1 (0 : Int32))), .val (.int 1)] []))
  refine g_goto hG X2 hx (hb hby d10_21) (pc' := 91) (by decide) (by decide) ?_
  show G (T2.setTop (mkF m 91 #[.val (.ref a), .val (.int 0), .val (.int (q.1 (0 : Int32))), .val (.int 1)] []))
  refine g_aloadN hG X2 hx (hb hby d10_91) (pc' := 92) rfl rfl rfl ?_
  show G (T2.setTop (mkF m 92 #[.val (.ref a), .val (.int 0), .val (.int (q.1 (0 : Int32))), .val (.int 1)] [(.ref a)]))
  refine g_iloadN hG X2 hx (hb hby d10_92) (pc' := 93) rfl rfl ?_
  show G (T2.setTop (mkF m 93 #[.val (.ref a), .val (.int 0), .val (.int (q.1 (0 : Int32))), .val (.int 1)] [(.int (q.1 (0 : Int32))), (.ref a)]))
  refine g_iloadN hG X2 hx (hb hby d10_93) (pc' := 94) rfl rfl ?_
  show G (T2.setTop (mkF m 94 #[.val (.ref a), .val (.int 0), .val (.int (q.1 (0 : Int32))), .val (.int 1)] [(.int 0), (.int (q.1 (0 : Int32))), (.ref a)]))
  refine g_callP hG X2 hx hZ (y := (⟨"com/example/tributary/tributary/plan/NodeHeap", "place", "(II)V"⟩ : MethodName)) 0 hown (wd hw 36 rfl) (wd hw 37 rfl) (wd hw 6 rfl) (wd hw 38 rfl) (wd hw 7 rfl) (wd hw 39 rfl) (by decide) (rmPl l Z a0 hw [] a hp pp ky (1 : Int32) q K (q.1 (0 : Int32)) (0 : Int32) h0 n0 Zs ⟨Ex_a, F_heap_a, F_position_a, F_key_a, F_size_a, V_hp, V_pp, V_ky⟩ ⟨ga, ghp, gpp, gky, d1, d2, d3, d4, d5, d6⟩ (show In4 (q.1 (0 : Int32)) from ii 0 (by decide)) in4_0) (by decide) (by decide) (by rw [hml]; rfl) pd_1 rfl (argsL := [(.int (q.1 (0 : Int32))), (.int 0)]) (rest := []) rfl rfl (Nat.le_of_eq rfl) (hb hby d10_94) e2 Ex_a (by decide) (by decide) (pc' := 97) rfl ?_
  intro T3 rv3 L3 X3 hQ3
  obtain ⟨rfl, Nq3, Kq3, Ex_a, F_heap_a, F_position_a, F_key_a, F_size_a, V_hp, V_pp, V_ky⟩ := hQ3
  have NF3 := Fr.app NF0 Nq3
  have Zs := Nat.le_trans Zs Kq3.1
  have K3 := K0.trans Kq3 (allS (Or.inl (List.mem_of_getElem? (i := 0) rfl)) (allS (Or.inl (List.mem_of_getElem? (i := 1) rfl)) (allS (Or.inl (List.mem_of_getElem? (i := 2) rfl)) (allS (Or.inl (List.mem_of_getElem? (i := 3) rfl)) all0))))
  show G (T3.setTop (mkF m 97 #[.val (.ref a), .val (.int 0), .val (.int (q.1 (0 : Int32))), .val (.int 1)] []))
  exact e_ret0 hGe X3 hx hrt hlk (hb hby d10_97) rfl (by decide) (by decide) (⟨rfl, NF3, K3, Ex_a, F_heap_a, F_position_a, F_key_a, F_size_a, V_hp, V_pp, V_ky⟩)

def Q_rmSk2 (Z : State) (a hp pp ky : Addr) (q : HP) (K : Int32 → UInt64) (bt : Int32 → Int32 → Bool) (h0 : Heap) (n0 : Nat) (v : Option Value) (h : Heap) (L : List Loc) : Prop := v = none ∧ Fr n0 L ∧ Keep h0 h [a, hp, pp, ky] ∧ NH Z h a hp pp ky (2 : Int32) (sk2 bt q) K
set_option maxRecDepth 65536 in
set_option maxHeartbeats 40000000 in
theorem rmSk2 (l : Launch) (Z : State) (a0 : Array Value) (hw : ∀ d ∈ tables_1, d.before a0 Z = true) (ws : List Jvm.Cond) (a hp pp ky : Addr) (q : HP) (K : Int32 → UInt64) (bt : Int32 → Int32 → Bool) (h0 : Heap) (n0 : Nat) (Zs : n0 ≤ h0.size) (NQ : NH Z h0 a hp pp ky (2 : Int32) q K) (DD : Dis n0 a hp pp ky) (ii : I4 2 q) (hbb : HB 2 K bt q) :
    Con l (⟨"com/example/tributary/tributary/plan/NodeHeap", "sink", "(I)V"⟩ : MethodName) prog_39_method_7_code 4 none ws ({ frames := 1, cells := 0, slots := 0, locals := 24 } : Room) Z #[(.ref a), (.int 0)] h0 ({ frames := 1, cells := 0, slots := 0, locals := 24 } : Room).cells ({ frames := 1, cells := 0, slots := 0, locals := 24 } : Room).slots (Q_rmSk2 Z a hp pp ky q K bt h0 n0) := by
  refine Con.of (Ls := #[.val (.ref a), .val (.int 0), .unset, .unset]) (plainFor_of_name (by first | (simp [plainName, overriddenIn]; done) | decide +kernel)) (fun m => by first | (simp [entryFrame, mkF, argsToLocals, Value.category]; done) | rfl) ?_
  intro p e s m below meth c s₁ G hGe hG hx hby hml hown hnm hrt hlk hZ X0 e0
  have hown : s.vm.findClass "com/example/tributary/tributary/plan/NodeHeap" = some m.cls := hown
  have hnm : meth.name = "sink" := hnm
  have NF0 := Fr.nil n0
  obtain ⟨Ex_a, F_heap_a, F_position_a, F_key_a, F_size_a, V_hp, V_pp, V_ky⟩ := NQ
  obtain ⟨ga, ghp, gpp, gky, d1, d2, d3, d4, d5, d6⟩ := DD
  have K0 := Keep.refl h0 [a, hp, pp, ky]
  refine g_aloadN hG X0 hx (hb hby d10_0) (pc' := 1) rfl rfl rfl ?_
  show G (s₁.setTop (mkF m 1 #[.val (.ref a), .val (.int 0), .unset, .unset] [(.ref a)]))
  refine g_getF hG X0 hx hZ hown (wd hw 15 rfl) Via.refl e0 F_heap_a (hb hby d10_1) (pc' := 4) rfl ?_
  intro T1 X1 e1
  show G (T1.setTop (mkF m 4 #[.val (.ref a), .val (.int 0), .unset, .unset] [(.ref hp)]))
  refine g_iloadN hG X1 hx (hb hby d10_4) (pc' := 5) rfl rfl ?_
  show G (T1.setTop (mkF m 5 #[.val (.ref a), .val (.int 0), .unset, .unset] [(.int 0), (.ref hp)]))
  refine g_iaload hG X1 hx hZ e1 V_hp (j := (0 : Int32)) (v := (.int (q.1 (0 : Int32)))) (in4_nn in4_0) (in4_at in4_0 rfl) (hb hby d10_5) (pc' := 6) rfl ?_
  show G (T1.setTop (mkF m 6 #[.val (.ref a), .val (.int 0), .unset, .unset] [(.int (q.1 (0 : Int32)))]))
  refine g_istoreN hG X1 hx (hb hby d10_6) (pc' := 7) rfl (Ls' := #[.val (.ref a), .val (.int 0), .val (.int (q.1 (0 : Int32))), .unset]) rfl ?_
  show G (T1.setTop (mkF m 7 #[.val (.ref a), .val (.int 0), .val (.int (q.1 (0 : Int32))), .unset] []))
  refine g_iconst hG X1 hx (hb hby d10_7) (pc' := 8) rfl (v := (2 : Int32)) rfl ?_
  show G (T1.setTop (mkF m 8 #[.val (.ref a), .val (.int 0), .val (.int (q.1 (0 : Int32))), .unset] [(.int 2)]))
  refine g_iloadN hG X1 hx (hb hby d10_8) (pc' := 9) rfl rfl ?_
  show G (T1.setTop (mkF m 9 #[.val (.ref a), .val (.int 0), .val (.int (q.1 (0 : Int32))), .unset] [(.int 0), (.int 2)]))
  refine g_imul hG X1 hx (hb hby d10_9) (pc' := 10) rfl (v := (0 : Int32)) (by decide) ?_
  show G (T1.setTop (mkF m 10 #[.val (.ref a), .val (.int 0), .val (.int (q.1 (0 : Int32))), .unset] [(.int 0)]))
  refine g_iconst hG X1 hx (hb hby d10_10) (pc' := 11) rfl (v := (1 : Int32)) rfl ?_
  show G (T1.setTop (mkF m 11 #[.val (.ref a), .val (.int 0), .val (.int (q.1 (0 : Int32))), .unset] [(.int 1), (.int 0)]))
  refine g_iadd hG X1 hx (hb hby d10_11) (pc' := 12) rfl (v := (1 : Int32)) (by decide) ?_
  show G (T1.setTop (mkF m 12 #[.val (.ref a), .val (.int 0), .val (.int (q.1 (0 : Int32))), .unset] [(.int 1)]))
  refine g_istoreN hG X1 hx (hb hby d10_12) (pc' := 13) rfl (Ls' := #[.val (.ref a), .val (.int 0), .val (.int (q.1 (0 : Int32))), .val (.int 1)]) rfl ?_
  show G (T1.setTop (mkF m 13 #[.val (.ref a), .val (.int 0), .val (.int (q.1 (0 : Int32))), .val (.int 1)] []))
  refine g_iloadN hG X1 hx (hb hby d10_13) (pc' := 14) rfl rfl ?_
  show G (T1.setTop (mkF m 14 #[.val (.ref a), .val (.int 0), .val (.int (q.1 (0 : Int32))), .val (.int 1)] [(.int 1)]))
  refine g_aloadN hG X1 hx (hb hby d10_14) (pc' := 15) rfl rfl rfl ?_
  show G (T1.setTop (mkF m 15 #[.val (.ref a), .val (.int 0), .val (.int (q.1 (0 : Int32))), .val (.int 1)] [(.ref a), (.int 1)]))
  refine g_getF hG X1 hx hZ hown (wd hw 30 rfl) Via.refl e1 F_size_a (hb hby d10_15) (pc' := 18) rfl ?_
  intro T2 X2 e2
  show G (T2.setTop (mkF m 18 #[.val (.ref a), .val (.int 0), .val (.int (q.1 (0 : Int32))), .val (.int 1)] [(.int 2), (.int 1)]))
  refine g_icmpYes hG X2 hx (hb hby d10_18) (pc' := 24) (by decide) (by decide) (by decide) ?_
  show G (T2.setTop (mkF m 24 #[.val (.ref a), .val (.int 0), .val (.int (q.1 (0 : Int32))), .val (.int 1)] []))
  refine g_iloadN hG X2 hx (hb hby d10_24) (pc' := 25) rfl rfl ?_
  show G (T2.setTop (mkF m 25 #[.val (.ref a), .val (.int 0), .val (.int (q.1 (0 : Int32))), .val (.int 1)] [(.int 1)]))
  refine g_iconst hG X2 hx (hb hby d10_25) (pc' := 26) rfl (v := (1 : Int32)) rfl ?_
  show G (T2.setTop (mkF m 26 #[.val (.ref a), .val (.int 0), .val (.int (q.1 (0 : Int32))), .val (.int 1)] [(.int 1), (.int 1)]))
  refine g_iadd hG X2 hx (hb hby d10_26) (pc' := 27) rfl (v := (2 : Int32)) (by decide) ?_
  show G (T2.setTop (mkF m 27 #[.val (.ref a), .val (.int 0), .val (.int (q.1 (0 : Int32))), .val (.int 1)] [(.int 2)]))
  refine g_aloadN hG X2 hx (hb hby d10_27) (pc' := 28) rfl rfl rfl ?_
  show G (T2.setTop (mkF m 28 #[.val (.ref a), .val (.int 0), .val (.int (q.1 (0 : Int32))), .val (.int 1)] [(.ref a), (.int 2)]))
  refine g_getF hG X2 hx hZ hown (wd hw 30 rfl) Via.refl e2 F_size_a (hb hby d10_28) (pc' := 31) rfl ?_
  intro T3 X3 e3
  show G (T3.setTop (mkF m 31 #[.val (.ref a), .val (.int 0), .val (.int (q.1 (0 : Int32))), .val (.int 1)] [(.int 2), (.int 2)]))
  refine g_icmpYes hG X3 hx (hb hby d10_31) (pc' := 58) (by decide) (by decide) (by decide) ?_
  show G (T3.setTop (mkF m 58 #[.val (.ref a), .val (.int 0), .val (.int (q.1 (0 : Int32))), .val (.int 1)] []))
  refine g_aloadN hG X3 hx (hb hby d10_58) (pc' := 59) rfl rfl rfl ?_
  show G (T3.setTop (mkF m 59 #[.val (.ref a), .val (.int 0), .val (.int (q.1 (0 : Int32))), .val (.int 1)] [(.ref a)]))
  refine g_aloadN hG X3 hx (hb hby d10_59) (pc' := 60) rfl rfl rfl ?_
  show G (T3.setTop (mkF m 60 #[.val (.ref a), .val (.int 0), .val (.int (q.1 (0 : Int32))), .val (.int 1)] [(.ref a), (.ref a)]))
  refine g_getF hG X3 hx hZ hown (wd hw 15 rfl) Via.refl e3 F_heap_a (hb hby d10_60) (pc' := 63) rfl ?_
  intro T4 X4 e4
  show G (T4.setTop (mkF m 63 #[.val (.ref a), .val (.int 0), .val (.int (q.1 (0 : Int32))), .val (.int 1)] [(.ref hp), (.ref a)]))
  refine g_iloadN hG X4 hx (hb hby d10_63) (pc' := 64) rfl rfl ?_
  show G (T4.setTop (mkF m 64 #[.val (.ref a), .val (.int 0), .val (.int (q.1 (0 : Int32))), .val (.int 1)] [(.int 1), (.ref hp), (.ref a)]))
  refine g_iaload hG X4 hx hZ e4 V_hp (j := (1 : Int32)) (v := (.int (q.1 (1 : Int32)))) (in4_nn in4_1) (in4_at in4_1 rfl) (hb hby d10_64) (pc' := 65) rfl ?_
  show G (T4.setTop (mkF m 65 #[.val (.ref a), .val (.int 0), .val (.int (q.1 (0 : Int32))), .val (.int 1)] [(.int (q.1 (1 : Int32))), (.ref a)]))
  refine g_iloadN hG X4 hx (hb hby d10_65) (pc' := 66) rfl rfl ?_
  show G (T4.setTop (mkF m 66 #[.val (.ref a), .val (.int 0), .val (.int (q.1 (0 : Int32))), .val (.int 1)] [(.int (q.1 (0 : Int32))), (.int (q.1 (1 : Int32))), (.ref a)]))
  by_cases g66_5 : bt (q.1 (1 : Int32)) (q.1 (0 : Int32)) = true
  · have _hh := g66_5
    refine g_callP hG X4 hx hZ (y := (⟨"com/example/tributary/tributary/plan/NodeHeap", "before", "(II)Z"⟩ : MethodName)) 0 hown (wd hw 40 rfl) (wd hw 41 rfl) (wd hw 6 rfl) (wd hw 42 rfl) (wd hw 7 rfl) (wd hw 43 rfl) (by decide) (rmBe l Z a0 hw [] a hp pp ky (2 : Int32) q K (q.1 (1 : Int32)) (q.1 (0 : Int32)) (1 : Int32) h0 n0 Zs ⟨Ex_a, F_heap_a, F_position_a, F_key_a, F_size_a, V_hp, V_pp, V_ky⟩ ⟨ga, ghp, gpp, gky, d1, d2, d3, d4, d5, d6⟩ (show In4 (q.1 (1 : Int32)) from ii 1 (by decide)) (show In4 (q.1 (0 : Int32)) from ii 0 (by decide)) ((hbb 1 0 (by decide) (by decide)).1 g66_5)) (by decide) (by decide) (by rw [hml]; rfl) pd_2 rfl (argsL := [(.int (q.1 (1 : Int32))), (.int (q.1 (0 : Int32)))]) (rest := []) rfl rfl (Nat.le_of_eq rfl) (hb hby d10_66) e4 Ex_a (by decide) (by decide) (pc' := 69) rfl ?_
    intro T6 rv6 L6 X6 hQ6
    obtain ⟨rfl, Nq6, eh6⟩ := hQ6
    have NF6 := Fr.app NF0 Nq6
    show G (T6.setTop (mkF m 69 #[.val (.ref a), .val (.int 0), .val (.int (q.1 (0 : Int32))), .val (.int 1)] [(.int 1)]))
    refine g_ifYes hG X6 hx (hb hby d10_69) (pc' := 75) (by decide) (by decide) (by decide) ?_
    show G (T6.setTop (mkF m 75 #[.val (.ref a), .val (.int 0), .val (.int (q.1 (0 : Int32))), .val (.int 1)] []))
    refine g_aloadN hG X6 hx (hb hby d10_75) (pc' := 76) rfl rfl rfl ?_
    show G (T6.setTop (mkF m 76 #[.val (.ref a), .val (.int 0), .val (.int (q.1 (0 : Int32))), .val (.int 1)] [(.ref a)]))
    refine g_aloadN hG X6 hx (hb hby d10_76) (pc' := 77) rfl rfl rfl ?_
    show G (T6.setTop (mkF m 77 #[.val (.ref a), .val (.int 0), .val (.int (q.1 (0 : Int32))), .val (.int 1)] [(.ref a), (.ref a)]))
    refine g_getF hG X6 hx hZ hown (wd hw 15 rfl) Via.refl eh6 F_heap_a (hb hby d10_77) (pc' := 80) rfl ?_
    intro T7 X7 e7
    show G (T7.setTop (mkF m 80 #[.val (.ref a), .val (.int 0), .val (.int (q.1 (0 : Int32))), .val (.int 1)] [(.ref hp), (.ref a)]))
    refine g_iloadN hG X7 hx (hb hby d10_80) (pc' := 81) rfl rfl ?_
    show G (T7.setTop (mkF m 81 #[.val (.ref a), .val (.int 0), .val (.int (q.1 (0 : Int32))), .val (.int 1)] [(.int 1), (.ref hp), (.ref a)]))
    refine g_iaload hG X7 hx hZ e7 V_hp (j := (1 : Int32)) (v := (.int (q.1 (1 : Int32)))) (in4_nn in4_1) (in4_at in4_1 rfl) (hb hby d10_81) (pc' := 82) rfl ?_
    show G (T7.setTop (mkF m 82 #[.val (.ref a), .val (.int 0), .val (.int (q.1 (0 : Int32))), .val (.int 1)] [(.int (q.1 (1 : Int32))), (.ref a)]))
    refine g_iloadN hG X7 hx (hb hby d10_82) (pc' := 83) rfl rfl ?_
    show G (T7.setTop (mkF m 83 #[.val (.ref a), .val (.int 0), .val (.int (q.1 (0 : Int32))), .val (.int 1)] [(.int 0), (.int (q.1 (1 : Int32))), (.ref a)]))
    refine g_callP hG X7 hx hZ (y := (⟨"com/example/tributary/tributary/plan/NodeHeap", "place", "(II)V"⟩ : MethodName)) 0 hown (wd hw 36 rfl) (wd hw 37 rfl) (wd hw 6 rfl) (wd hw 38 rfl) (wd hw 7 rfl) (wd hw 39 rfl) (by decide) (rmPl l Z a0 hw [] a hp pp ky (2 : Int32) q K (q.1 (1 : Int32)) (0 : Int32) h0 n0 Zs ⟨Ex_a, F_heap_a, F_position_a, F_key_a, F_size_a, V_hp, V_pp, V_ky⟩ ⟨ga, ghp, gpp, gky, d1, d2, d3, d4, d5, d6⟩ (show In4 (q.1 (1 : Int32)) from ii 1 (by decide)) in4_0) (by decide) (by decide) (by rw [hml]; rfl) pd_1 rfl (argsL := [(.int (q.1 (1 : Int32))), (.int 0)]) (rest := []) rfl rfl (Nat.le_of_eq rfl) (hb hby d10_83) e7 Ex_a (by decide) (by decide) (pc' := 86) rfl ?_
    intro T8 rv8 L8 X8 hQ8
    obtain ⟨rfl, Nq8, Kq8, Ex_a, F_heap_a, F_position_a, F_key_a, F_size_a, V_hp, V_pp, V_ky⟩ := hQ8
    have NF8 := Fr.app NF6 Nq8
    have Zs := Nat.le_trans Zs Kq8.1
    have K8 := K0.trans Kq8 (allS (Or.inl (List.mem_of_getElem? (i := 0) rfl)) (allS (Or.inl (List.mem_of_getElem? (i := 1) rfl)) (allS (Or.inl (List.mem_of_getElem? (i := 2) rfl)) (allS (Or.inl (List.mem_of_getElem? (i := 3) rfl)) all0))))
    show G (T8.setTop (mkF m 86 #[.val (.ref a), .val (.int 0), .val (.int (q.1 (0 : Int32))), .val (.int 1)] []))
    refine g_iloadN hG X8 hx (hb hby d10_86) (pc' := 87) rfl rfl ?_
    show G (T8.setTop (mkF m 87 #[.val (.ref a), .val (.int 0), .val (.int (q.1 (0 : Int32))), .val (.int 1)] [(.int 1)]))
    refine g_istoreN hG X8 hx (hb hby d10_87) (pc' := 88) rfl (Ls' := #[.val (.ref a), .val (.int 1), .val (.int (q.1 (0 : Int32))), .val (.int 1)]) rfl ?_
    show G (T8.setTop (mkF m 88 #[.val (.ref a), .val (.int 1), .val (.int (q.1 (0 : Int32))), .val (.int 1)] []))
    refine g_goto hG X8 hx (hb hby d10_88) (pc' := 7) (by decide) (by decide) ?_
    show G (T8.setTop (mkF m 7 #[.val (.ref a), .val (.int 1), .val (.int (q.1 (0 : Int32))), .val (.int 1)] []))
    refine g_iconst hG X8 hx (hb hby d10_7) (pc' := 8) rfl (v := (2 : Int32)) rfl ?_
    show G (T8.setTop (mkF m 8 #[.val (.ref a), .val (.int 1), .val (.int (q.1 (0 : Int32))), .val (.int 1)] [(.int 2)]))
    refine g_iloadN hG X8 hx (hb hby d10_8) (pc' := 9) rfl rfl ?_
    show G (T8.setTop (mkF m 9 #[.val (.ref a), .val (.int 1), .val (.int (q.1 (0 : Int32))), .val (.int 1)] [(.int 1), (.int 2)]))
    refine g_imul hG X8 hx (hb hby d10_9) (pc' := 10) rfl (v := (2 : Int32)) (by decide) ?_
    show G (T8.setTop (mkF m 10 #[.val (.ref a), .val (.int 1), .val (.int (q.1 (0 : Int32))), .val (.int 1)] [(.int 2)]))
    refine g_iconst hG X8 hx (hb hby d10_10) (pc' := 11) rfl (v := (1 : Int32)) rfl ?_
    show G (T8.setTop (mkF m 11 #[.val (.ref a), .val (.int 1), .val (.int (q.1 (0 : Int32))), .val (.int 1)] [(.int 1), (.int 2)]))
    refine g_iadd hG X8 hx (hb hby d10_11) (pc' := 12) rfl (v := (3 : Int32)) (by decide) ?_
    show G (T8.setTop (mkF m 12 #[.val (.ref a), .val (.int 1), .val (.int (q.1 (0 : Int32))), .val (.int 1)] [(.int 3)]))
    refine g_istoreN hG X8 hx (hb hby d10_12) (pc' := 13) rfl (Ls' := #[.val (.ref a), .val (.int 1), .val (.int (q.1 (0 : Int32))), .val (.int 3)]) rfl ?_
    show G (T8.setTop (mkF m 13 #[.val (.ref a), .val (.int 1), .val (.int (q.1 (0 : Int32))), .val (.int 3)] []))
    refine g_iloadN hG X8 hx (hb hby d10_13) (pc' := 14) rfl rfl ?_
    show G (T8.setTop (mkF m 14 #[.val (.ref a), .val (.int 1), .val (.int (q.1 (0 : Int32))), .val (.int 3)] [(.int 3)]))
    refine g_aloadN hG X8 hx (hb hby d10_14) (pc' := 15) rfl rfl rfl ?_
    show G (T8.setTop (mkF m 15 #[.val (.ref a), .val (.int 1), .val (.int (q.1 (0 : Int32))), .val (.int 3)] [(.ref a), (.int 3)]))
    refine g_getF hG X8 hx hZ hown (wd hw 30 rfl) Via.refl rfl F_size_a (hb hby d10_15) (pc' := 18) rfl ?_
    intro T9 X9 e9
    show G (T9.setTop (mkF m 18 #[.val (.ref a), .val (.int 1), .val (.int (q.1 (0 : Int32))), .val (.int 3)] [(.int 2), (.int 3)]))
    refine g_icmpNo hG X9 hx (hb hby d10_18) (pc' := 21) (by decide) rfl ?_
    show G (T9.setTop (mkF m 21 #[.val (.ref a), .val (.int 1), .val (.int (q.1 (0 : Int32))), .val (.int 3)] []))
    refine g_goto hG X9 hx (hb hby d10_21) (pc' := 91) (by decide) (by decide) ?_
    show G (T9.setTop (mkF m 91 #[.val (.ref a), .val (.int 1), .val (.int (q.1 (0 : Int32))), .val (.int 3)] []))
    refine g_aloadN hG X9 hx (hb hby d10_91) (pc' := 92) rfl rfl rfl ?_
    show G (T9.setTop (mkF m 92 #[.val (.ref a), .val (.int 1), .val (.int (q.1 (0 : Int32))), .val (.int 3)] [(.ref a)]))
    refine g_iloadN hG X9 hx (hb hby d10_92) (pc' := 93) rfl rfl ?_
    show G (T9.setTop (mkF m 93 #[.val (.ref a), .val (.int 1), .val (.int (q.1 (0 : Int32))), .val (.int 3)] [(.int (q.1 (0 : Int32))), (.ref a)]))
    refine g_iloadN hG X9 hx (hb hby d10_93) (pc' := 94) rfl rfl ?_
    show G (T9.setTop (mkF m 94 #[.val (.ref a), .val (.int 1), .val (.int (q.1 (0 : Int32))), .val (.int 3)] [(.int 1), (.int (q.1 (0 : Int32))), (.ref a)]))
    refine g_callP hG X9 hx hZ (y := (⟨"com/example/tributary/tributary/plan/NodeHeap", "place", "(II)V"⟩ : MethodName)) 0 hown (wd hw 36 rfl) (wd hw 37 rfl) (wd hw 6 rfl) (wd hw 38 rfl) (wd hw 7 rfl) (wd hw 39 rfl) (by decide) (rmPl l Z a0 hw [] a hp pp ky (2 : Int32) (pl q (q.1 (1 : Int32)) (0 : Int32)) K (q.1 (0 : Int32)) (1 : Int32) T8.heap n0 Zs ⟨Ex_a, F_heap_a, F_position_a, F_key_a, F_size_a, V_hp, V_pp, V_ky⟩ ⟨ga, ghp, gpp, gky, d1, d2, d3, d4, d5, d6⟩ (show In4 (q.1 (0 : Int32)) from ii 0 (by decide)) in4_1) (by decide) (by decide) (by rw [hml]; rfl) pd_1 rfl (argsL := [(.int (q.1 (0 : Int32))), (.int 1)]) (rest := []) rfl rfl (Nat.le_of_eq rfl) (hb hby d10_94) e9 Ex_a (by decide) (by decide) (pc' := 97) rfl ?_
    intro T10 rv10 L10 X10 hQ10
    obtain ⟨rfl, Nq10, Kq10, Ex_a, F_heap_a, F_position_a, F_key_a, F_size_a, V_hp, V_pp, V_ky⟩ := hQ10
    have NF10 := Fr.app NF8 Nq10
    have Zs := Nat.le_trans Zs Kq10.1
    have K10 := K8.trans Kq10 (allS (Or.inl (List.mem_of_getElem? (i := 0) rfl)) (allS (Or.inl (List.mem_of_getElem? (i := 1) rfl)) (allS (Or.inl (List.mem_of_getElem? (i := 2) rfl)) (allS (Or.inl (List.mem_of_getElem? (i := 3) rfl)) all0))))
    show G (T10.setTop (mkF m 97 #[.val (.ref a), .val (.int 1), .val (.int (q.1 (0 : Int32))), .val (.int 3)] []))
    exact e_ret0 hGe X10 hx hrt hlk (hb hby d10_97) rfl (by decide) (by decide) (⟨rfl, NF10, K10, (by
          have e : sk2 bt q = (pl (pl q (q.1 (1 : Int32)) (0 : Int32)) (q.1 (0 : Int32)) (1 : Int32)) := by
            unfold sk2
            exact if_pos g66_5
          rw [e]
          exact ⟨Ex_a, F_heap_a, F_position_a, F_key_a, F_size_a, V_hp, V_pp, V_ky⟩)⟩)
  · have _hh := g66_5
    refine g_callP hG X4 hx hZ (y := (⟨"com/example/tributary/tributary/plan/NodeHeap", "before", "(II)Z"⟩ : MethodName)) 0 hown (wd hw 40 rfl) (wd hw 41 rfl) (wd hw 6 rfl) (wd hw 42 rfl) (wd hw 7 rfl) (wd hw 43 rfl) (by decide) (rmBe l Z a0 hw [] a hp pp ky (2 : Int32) q K (q.1 (1 : Int32)) (q.1 (0 : Int32)) (0 : Int32) h0 n0 Zs ⟨Ex_a, F_heap_a, F_position_a, F_key_a, F_size_a, V_hp, V_pp, V_ky⟩ ⟨ga, ghp, gpp, gky, d1, d2, d3, d4, d5, d6⟩ (show In4 (q.1 (1 : Int32)) from ii 1 (by decide)) (show In4 (q.1 (0 : Int32)) from ii 0 (by decide)) ((hbb 1 0 (by decide) (by decide)).2 g66_5)) (by decide) (by decide) (by rw [hml]; rfl) pd_2 rfl (argsL := [(.int (q.1 (1 : Int32))), (.int (q.1 (0 : Int32)))]) (rest := []) rfl rfl (Nat.le_of_eq rfl) (hb hby d10_66) e4 Ex_a (by decide) (by decide) (pc' := 69) rfl ?_
    intro T11 rv11 L11 X11 hQ11
    obtain ⟨rfl, Nq11, eh11⟩ := hQ11
    have NF11 := Fr.app NF0 Nq11
    show G (T11.setTop (mkF m 69 #[.val (.ref a), .val (.int 0), .val (.int (q.1 (0 : Int32))), .val (.int 1)] [(.int 0)]))
    refine g_ifNo hG X11 hx (hb hby d10_69) (pc' := 72) (by decide) rfl ?_
    show G (T11.setTop (mkF m 72 #[.val (.ref a), .val (.int 0), .val (.int (q.1 (0 : Int32))), .val (.int 1)] []))
    refine g_goto hG X11 hx (hb hby d10_72) (pc' := 91) (by decide) (by decide) ?_
    show G (T11.setTop (mkF m 91 #[.val (.ref a), .val (.int 0), .val (.int (q.1 (0 : Int32))), .val (.int 1)] []))
    refine g_aloadN hG X11 hx (hb hby d10_91) (pc' := 92) rfl rfl rfl ?_
    show G (T11.setTop (mkF m 92 #[.val (.ref a), .val (.int 0), .val (.int (q.1 (0 : Int32))), .val (.int 1)] [(.ref a)]))
    refine g_iloadN hG X11 hx (hb hby d10_92) (pc' := 93) rfl rfl ?_
    show G (T11.setTop (mkF m 93 #[.val (.ref a), .val (.int 0), .val (.int (q.1 (0 : Int32))), .val (.int 1)] [(.int (q.1 (0 : Int32))), (.ref a)]))
    refine g_iloadN hG X11 hx (hb hby d10_93) (pc' := 94) rfl rfl ?_
    show G (T11.setTop (mkF m 94 #[.val (.ref a), .val (.int 0), .val (.int (q.1 (0 : Int32))), .val (.int 1)] [(.int 0), (.int (q.1 (0 : Int32))), (.ref a)]))
    refine g_callP hG X11 hx hZ (y := (⟨"com/example/tributary/tributary/plan/NodeHeap", "place", "(II)V"⟩ : MethodName)) 0 hown (wd hw 36 rfl) (wd hw 37 rfl) (wd hw 6 rfl) (wd hw 38 rfl) (wd hw 7 rfl) (wd hw 39 rfl) (by decide) (rmPl l Z a0 hw [] a hp pp ky (2 : Int32) q K (q.1 (0 : Int32)) (0 : Int32) h0 n0 Zs ⟨Ex_a, F_heap_a, F_position_a, F_key_a, F_size_a, V_hp, V_pp, V_ky⟩ ⟨ga, ghp, gpp, gky, d1, d2, d3, d4, d5, d6⟩ (show In4 (q.1 (0 : Int32)) from ii 0 (by decide)) in4_0) (by decide) (by decide) (by rw [hml]; rfl) pd_1 rfl (argsL := [(.int (q.1 (0 : Int32))), (.int 0)]) (rest := []) rfl rfl (Nat.le_of_eq rfl) (hb hby d10_94) eh11 Ex_a (by decide) (by decide) (pc' := 97) rfl ?_
    intro T12 rv12 L12 X12 hQ12
    obtain ⟨rfl, Nq12, Kq12, Ex_a, F_heap_a, F_position_a, F_key_a, F_size_a, V_hp, V_pp, V_ky⟩ := hQ12
    have NF12 := Fr.app NF11 Nq12
    have Zs := Nat.le_trans Zs Kq12.1
    have K12 := K0.trans Kq12 (allS (Or.inl (List.mem_of_getElem? (i := 0) rfl)) (allS (Or.inl (List.mem_of_getElem? (i := 1) rfl)) (allS (Or.inl (List.mem_of_getElem? (i := 2) rfl)) (allS (Or.inl (List.mem_of_getElem? (i := 3) rfl)) all0))))
    show G (T12.setTop (mkF m 97 #[.val (.ref a), .val (.int 0), .val (.int (q.1 (0 : Int32))), .val (.int 1)] []))
    exact e_ret0 hGe X12 hx hrt hlk (hb hby d10_97) rfl (by decide) (by decide) (⟨rfl, NF12, K12, (by
          have e : sk2 bt q = (pl q (q.1 (0 : Int32)) (0 : Int32)) := by
            unfold sk2
            exact if_neg g66_5
          rw [e]
          exact ⟨Ex_a, F_heap_a, F_position_a, F_key_a, F_size_a, V_hp, V_pp, V_ky⟩)⟩)

def Q_rmSk3 (Z : State) (a hp pp ky : Addr) (q : HP) (K : Int32 → UInt64) (bt : Int32 → Int32 → Bool) (h0 : Heap) (n0 : Nat) (v : Option Value) (h : Heap) (L : List Loc) : Prop := v = none ∧ Fr n0 L ∧ Keep h0 h [a, hp, pp, ky] ∧ NH Z h a hp pp ky (3 : Int32) (sk3 bt q) K
set_option maxRecDepth 65536 in
set_option maxHeartbeats 40000000 in
theorem rmSk3 (l : Launch) (Z : State) (a0 : Array Value) (hw : ∀ d ∈ tables_1, d.before a0 Z = true) (ws : List Jvm.Cond) (a hp pp ky : Addr) (q : HP) (K : Int32 → UInt64) (bt : Int32 → Int32 → Bool) (h0 : Heap) (n0 : Nat) (Zs : n0 ≤ h0.size) (NQ : NH Z h0 a hp pp ky (3 : Int32) q K) (DD : Dis n0 a hp pp ky) (ii : I4 3 q) (hbb : HB 3 K bt q) :
    Con l (⟨"com/example/tributary/tributary/plan/NodeHeap", "sink", "(I)V"⟩ : MethodName) prog_39_method_7_code 4 none ws ({ frames := 1, cells := 0, slots := 0, locals := 24 } : Room) Z #[(.ref a), (.int 0)] h0 ({ frames := 1, cells := 0, slots := 0, locals := 24 } : Room).cells ({ frames := 1, cells := 0, slots := 0, locals := 24 } : Room).slots (Q_rmSk3 Z a hp pp ky q K bt h0 n0) := by
  refine Con.of (Ls := #[.val (.ref a), .val (.int 0), .unset, .unset]) (plainFor_of_name (by first | (simp [plainName, overriddenIn]; done) | decide +kernel)) (fun m => by first | (simp [entryFrame, mkF, argsToLocals, Value.category]; done) | rfl) ?_
  intro p e s m below meth c s₁ G hGe hG hx hby hml hown hnm hrt hlk hZ X0 e0
  have hown : s.vm.findClass "com/example/tributary/tributary/plan/NodeHeap" = some m.cls := hown
  have hnm : meth.name = "sink" := hnm
  have NF0 := Fr.nil n0
  obtain ⟨Ex_a, F_heap_a, F_position_a, F_key_a, F_size_a, V_hp, V_pp, V_ky⟩ := NQ
  obtain ⟨ga, ghp, gpp, gky, d1, d2, d3, d4, d5, d6⟩ := DD
  have K0 := Keep.refl h0 [a, hp, pp, ky]
  refine g_aloadN hG X0 hx (hb hby d10_0) (pc' := 1) rfl rfl rfl ?_
  show G (s₁.setTop (mkF m 1 #[.val (.ref a), .val (.int 0), .unset, .unset] [(.ref a)]))
  refine g_getF hG X0 hx hZ hown (wd hw 15 rfl) Via.refl e0 F_heap_a (hb hby d10_1) (pc' := 4) rfl ?_
  intro T1 X1 e1
  show G (T1.setTop (mkF m 4 #[.val (.ref a), .val (.int 0), .unset, .unset] [(.ref hp)]))
  refine g_iloadN hG X1 hx (hb hby d10_4) (pc' := 5) rfl rfl ?_
  show G (T1.setTop (mkF m 5 #[.val (.ref a), .val (.int 0), .unset, .unset] [(.int 0), (.ref hp)]))
  refine g_iaload hG X1 hx hZ e1 V_hp (j := (0 : Int32)) (v := (.int (q.1 (0 : Int32)))) (in4_nn in4_0) (in4_at in4_0 rfl) (hb hby d10_5) (pc' := 6) rfl ?_
  show G (T1.setTop (mkF m 6 #[.val (.ref a), .val (.int 0), .unset, .unset] [(.int (q.1 (0 : Int32)))]))
  refine g_istoreN hG X1 hx (hb hby d10_6) (pc' := 7) rfl (Ls' := #[.val (.ref a), .val (.int 0), .val (.int (q.1 (0 : Int32))), .unset]) rfl ?_
  show G (T1.setTop (mkF m 7 #[.val (.ref a), .val (.int 0), .val (.int (q.1 (0 : Int32))), .unset] []))
  refine g_iconst hG X1 hx (hb hby d10_7) (pc' := 8) rfl (v := (2 : Int32)) rfl ?_
  show G (T1.setTop (mkF m 8 #[.val (.ref a), .val (.int 0), .val (.int (q.1 (0 : Int32))), .unset] [(.int 2)]))
  refine g_iloadN hG X1 hx (hb hby d10_8) (pc' := 9) rfl rfl ?_
  show G (T1.setTop (mkF m 9 #[.val (.ref a), .val (.int 0), .val (.int (q.1 (0 : Int32))), .unset] [(.int 0), (.int 2)]))
  refine g_imul hG X1 hx (hb hby d10_9) (pc' := 10) rfl (v := (0 : Int32)) (by decide) ?_
  show G (T1.setTop (mkF m 10 #[.val (.ref a), .val (.int 0), .val (.int (q.1 (0 : Int32))), .unset] [(.int 0)]))
  refine g_iconst hG X1 hx (hb hby d10_10) (pc' := 11) rfl (v := (1 : Int32)) rfl ?_
  show G (T1.setTop (mkF m 11 #[.val (.ref a), .val (.int 0), .val (.int (q.1 (0 : Int32))), .unset] [(.int 1), (.int 0)]))
  refine g_iadd hG X1 hx (hb hby d10_11) (pc' := 12) rfl (v := (1 : Int32)) (by decide) ?_
  show G (T1.setTop (mkF m 12 #[.val (.ref a), .val (.int 0), .val (.int (q.1 (0 : Int32))), .unset] [(.int 1)]))
  refine g_istoreN hG X1 hx (hb hby d10_12) (pc' := 13) rfl (Ls' := #[.val (.ref a), .val (.int 0), .val (.int (q.1 (0 : Int32))), .val (.int 1)]) rfl ?_
  show G (T1.setTop (mkF m 13 #[.val (.ref a), .val (.int 0), .val (.int (q.1 (0 : Int32))), .val (.int 1)] []))
  refine g_iloadN hG X1 hx (hb hby d10_13) (pc' := 14) rfl rfl ?_
  show G (T1.setTop (mkF m 14 #[.val (.ref a), .val (.int 0), .val (.int (q.1 (0 : Int32))), .val (.int 1)] [(.int 1)]))
  refine g_aloadN hG X1 hx (hb hby d10_14) (pc' := 15) rfl rfl rfl ?_
  show G (T1.setTop (mkF m 15 #[.val (.ref a), .val (.int 0), .val (.int (q.1 (0 : Int32))), .val (.int 1)] [(.ref a), (.int 1)]))
  refine g_getF hG X1 hx hZ hown (wd hw 30 rfl) Via.refl e1 F_size_a (hb hby d10_15) (pc' := 18) rfl ?_
  intro T2 X2 e2
  show G (T2.setTop (mkF m 18 #[.val (.ref a), .val (.int 0), .val (.int (q.1 (0 : Int32))), .val (.int 1)] [(.int 3), (.int 1)]))
  refine g_icmpYes hG X2 hx (hb hby d10_18) (pc' := 24) (by decide) (by decide) (by decide) ?_
  show G (T2.setTop (mkF m 24 #[.val (.ref a), .val (.int 0), .val (.int (q.1 (0 : Int32))), .val (.int 1)] []))
  refine g_iloadN hG X2 hx (hb hby d10_24) (pc' := 25) rfl rfl ?_
  show G (T2.setTop (mkF m 25 #[.val (.ref a), .val (.int 0), .val (.int (q.1 (0 : Int32))), .val (.int 1)] [(.int 1)]))
  refine g_iconst hG X2 hx (hb hby d10_25) (pc' := 26) rfl (v := (1 : Int32)) rfl ?_
  show G (T2.setTop (mkF m 26 #[.val (.ref a), .val (.int 0), .val (.int (q.1 (0 : Int32))), .val (.int 1)] [(.int 1), (.int 1)]))
  refine g_iadd hG X2 hx (hb hby d10_26) (pc' := 27) rfl (v := (2 : Int32)) (by decide) ?_
  show G (T2.setTop (mkF m 27 #[.val (.ref a), .val (.int 0), .val (.int (q.1 (0 : Int32))), .val (.int 1)] [(.int 2)]))
  refine g_aloadN hG X2 hx (hb hby d10_27) (pc' := 28) rfl rfl rfl ?_
  show G (T2.setTop (mkF m 28 #[.val (.ref a), .val (.int 0), .val (.int (q.1 (0 : Int32))), .val (.int 1)] [(.ref a), (.int 2)]))
  refine g_getF hG X2 hx hZ hown (wd hw 30 rfl) Via.refl e2 F_size_a (hb hby d10_28) (pc' := 31) rfl ?_
  intro T3 X3 e3
  show G (T3.setTop (mkF m 31 #[.val (.ref a), .val (.int 0), .val (.int (q.1 (0 : Int32))), .val (.int 1)] [(.int 3), (.int 2)]))
  refine g_icmpNo hG X3 hx (hb hby d10_31) (pc' := 34) (by decide) rfl ?_
  show G (T3.setTop (mkF m 34 #[.val (.ref a), .val (.int 0), .val (.int (q.1 (0 : Int32))), .val (.int 1)] []))
  refine g_aloadN hG X3 hx (hb hby d10_34) (pc' := 35) rfl rfl rfl ?_
  show G (T3.setTop (mkF m 35 #[.val (.ref a), .val (.int 0), .val (.int (q.1 (0 : Int32))), .val (.int 1)] [(.ref a)]))
  refine g_aloadN hG X3 hx (hb hby d10_35) (pc' := 36) rfl rfl rfl ?_
  show G (T3.setTop (mkF m 36 #[.val (.ref a), .val (.int 0), .val (.int (q.1 (0 : Int32))), .val (.int 1)] [(.ref a), (.ref a)]))
  refine g_getF hG X3 hx hZ hown (wd hw 15 rfl) Via.refl e3 F_heap_a (hb hby d10_36) (pc' := 39) rfl ?_
  intro T4 X4 e4
  show G (T4.setTop (mkF m 39 #[.val (.ref a), .val (.int 0), .val (.int (q.1 (0 : Int32))), .val (.int 1)] [(.ref hp), (.ref a)]))
  refine g_iloadN hG X4 hx (hb hby d10_39) (pc' := 40) rfl rfl ?_
  show G (T4.setTop (mkF m 40 #[.val (.ref a), .val (.int 0), .val (.int (q.1 (0 : Int32))), .val (.int 1)] [(.int 1), (.ref hp), (.ref a)]))
  refine g_iconst hG X4 hx (hb hby d10_40) (pc' := 41) rfl (v := (1 : Int32)) rfl ?_
  show G (T4.setTop (mkF m 41 #[.val (.ref a), .val (.int 0), .val (.int (q.1 (0 : Int32))), .val (.int 1)] [(.int 1), (.int 1), (.ref hp), (.ref a)]))
  refine g_iadd hG X4 hx (hb hby d10_41) (pc' := 42) rfl (v := (2 : Int32)) (by decide) ?_
  show G (T4.setTop (mkF m 42 #[.val (.ref a), .val (.int 0), .val (.int (q.1 (0 : Int32))), .val (.int 1)] [(.int 2), (.ref hp), (.ref a)]))
  refine g_iaload hG X4 hx hZ e4 V_hp (j := (2 : Int32)) (v := (.int (q.1 (2 : Int32)))) (in4_nn in4_2) (in4_at in4_2 rfl) (hb hby d10_42) (pc' := 43) rfl ?_
  show G (T4.setTop (mkF m 43 #[.val (.ref a), .val (.int 0), .val (.int (q.1 (0 : Int32))), .val (.int 1)] [(.int (q.1 (2 : Int32))), (.ref a)]))
  refine g_aloadN hG X4 hx (hb hby d10_43) (pc' := 44) rfl rfl rfl ?_
  show G (T4.setTop (mkF m 44 #[.val (.ref a), .val (.int 0), .val (.int (q.1 (0 : Int32))), .val (.int 1)] [(.ref a), (.int (q.1 (2 : Int32))), (.ref a)]))
  refine g_getF hG X4 hx hZ hown (wd hw 15 rfl) Via.refl e4 F_heap_a (hb hby d10_44) (pc' := 47) rfl ?_
  intro T5 X5 e5
  show G (T5.setTop (mkF m 47 #[.val (.ref a), .val (.int 0), .val (.int (q.1 (0 : Int32))), .val (.int 1)] [(.ref hp), (.int (q.1 (2 : Int32))), (.ref a)]))
  refine g_iloadN hG X5 hx (hb hby d10_47) (pc' := 48) rfl rfl ?_
  show G (T5.setTop (mkF m 48 #[.val (.ref a), .val (.int 0), .val (.int (q.1 (0 : Int32))), .val (.int 1)] [(.int 1), (.ref hp), (.int (q.1 (2 : Int32))), (.ref a)]))
  refine g_iaload hG X5 hx hZ e5 V_hp (j := (1 : Int32)) (v := (.int (q.1 (1 : Int32)))) (in4_nn in4_1) (in4_at in4_1 rfl) (hb hby d10_48) (pc' := 49) rfl ?_
  show G (T5.setTop (mkF m 49 #[.val (.ref a), .val (.int 0), .val (.int (q.1 (0 : Int32))), .val (.int 1)] [(.int (q.1 (1 : Int32))), (.int (q.1 (2 : Int32))), (.ref a)]))
  by_cases g49_6 : bt (q.1 (2 : Int32)) (q.1 (1 : Int32)) = true
  · have _hh := g49_6
    refine g_callP hG X5 hx hZ (y := (⟨"com/example/tributary/tributary/plan/NodeHeap", "before", "(II)Z"⟩ : MethodName)) 0 hown (wd hw 40 rfl) (wd hw 41 rfl) (wd hw 6 rfl) (wd hw 42 rfl) (wd hw 7 rfl) (wd hw 43 rfl) (by decide) (rmBe l Z a0 hw [] a hp pp ky (3 : Int32) q K (q.1 (2 : Int32)) (q.1 (1 : Int32)) (1 : Int32) h0 n0 Zs ⟨Ex_a, F_heap_a, F_position_a, F_key_a, F_size_a, V_hp, V_pp, V_ky⟩ ⟨ga, ghp, gpp, gky, d1, d2, d3, d4, d5, d6⟩ (show In4 (q.1 (2 : Int32)) from ii 2 (by decide)) (show In4 (q.1 (1 : Int32)) from ii 1 (by decide)) ((hbb 2 1 (by decide) (by decide)).1 g49_6)) (by decide) (by decide) (by rw [hml]; rfl) pd_2 rfl (argsL := [(.int (q.1 (2 : Int32))), (.int (q.1 (1 : Int32)))]) (rest := []) rfl rfl (Nat.le_of_eq rfl) (hb hby d10_49) e5 Ex_a (by decide) (by decide) (pc' := 52) rfl ?_
    intro T7 rv7 L7 X7 hQ7
    obtain ⟨rfl, Nq7, eh7⟩ := hQ7
    have NF7 := Fr.app NF0 Nq7
    show G (T7.setTop (mkF m 52 #[.val (.ref a), .val (.int 0), .val (.int (q.1 (0 : Int32))), .val (.int 1)] [(.int 1)]))
    refine g_ifNo hG X7 hx (hb hby d10_52) (pc' := 55) (by decide) rfl ?_
    show G (T7.setTop (mkF m 55 #[.val (.ref a), .val (.int 0), .val (.int (q.1 (0 : Int32))), .val (.int 1)] []))
    refine g_iinc hG X7 hx (hb hby d10_55) (pc' := 58) rfl rfl (v := (2 : Int32)) (by decide) (Ls' := #[.val (.ref a), .val (.int 0), .val (.int (q.1 (0 : Int32))), .val (.int 2)]) rfl ?_
    show G (T7.setTop (mkF m 58 #[.val (.ref a), .val (.int 0), .val (.int (q.1 (0 : Int32))), .val (.int 2)] []))
    refine g_aloadN hG X7 hx (hb hby d10_58) (pc' := 59) rfl rfl rfl ?_
    show G (T7.setTop (mkF m 59 #[.val (.ref a), .val (.int 0), .val (.int (q.1 (0 : Int32))), .val (.int 2)] [(.ref a)]))
    refine g_aloadN hG X7 hx (hb hby d10_59) (pc' := 60) rfl rfl rfl ?_
    show G (T7.setTop (mkF m 60 #[.val (.ref a), .val (.int 0), .val (.int (q.1 (0 : Int32))), .val (.int 2)] [(.ref a), (.ref a)]))
    refine g_getF hG X7 hx hZ hown (wd hw 15 rfl) Via.refl eh7 F_heap_a (hb hby d10_60) (pc' := 63) rfl ?_
    intro T8 X8 e8
    show G (T8.setTop (mkF m 63 #[.val (.ref a), .val (.int 0), .val (.int (q.1 (0 : Int32))), .val (.int 2)] [(.ref hp), (.ref a)]))
    refine g_iloadN hG X8 hx (hb hby d10_63) (pc' := 64) rfl rfl ?_
    show G (T8.setTop (mkF m 64 #[.val (.ref a), .val (.int 0), .val (.int (q.1 (0 : Int32))), .val (.int 2)] [(.int 2), (.ref hp), (.ref a)]))
    refine g_iaload hG X8 hx hZ e8 V_hp (j := (2 : Int32)) (v := (.int (q.1 (2 : Int32)))) (in4_nn in4_2) (in4_at in4_2 rfl) (hb hby d10_64) (pc' := 65) rfl ?_
    show G (T8.setTop (mkF m 65 #[.val (.ref a), .val (.int 0), .val (.int (q.1 (0 : Int32))), .val (.int 2)] [(.int (q.1 (2 : Int32))), (.ref a)]))
    refine g_iloadN hG X8 hx (hb hby d10_65) (pc' := 66) rfl rfl ?_
    show G (T8.setTop (mkF m 66 #[.val (.ref a), .val (.int 0), .val (.int (q.1 (0 : Int32))), .val (.int 2)] [(.int (q.1 (0 : Int32))), (.int (q.1 (2 : Int32))), (.ref a)]))
    by_cases g66_9 : bt (q.1 (2 : Int32)) (q.1 (0 : Int32)) = true
    · have _hh := g66_9
      refine g_callP hG X8 hx hZ (y := (⟨"com/example/tributary/tributary/plan/NodeHeap", "before", "(II)Z"⟩ : MethodName)) 0 hown (wd hw 40 rfl) (wd hw 41 rfl) (wd hw 6 rfl) (wd hw 42 rfl) (wd hw 7 rfl) (wd hw 43 rfl) (by decide) (rmBe l Z a0 hw [] a hp pp ky (3 : Int32) q K (q.1 (2 : Int32)) (q.1 (0 : Int32)) (1 : Int32) h0 n0 Zs ⟨Ex_a, F_heap_a, F_position_a, F_key_a, F_size_a, V_hp, V_pp, V_ky⟩ ⟨ga, ghp, gpp, gky, d1, d2, d3, d4, d5, d6⟩ (show In4 (q.1 (2 : Int32)) from ii 2 (by decide)) (show In4 (q.1 (0 : Int32)) from ii 0 (by decide)) ((hbb 2 0 (by decide) (by decide)).1 g66_9)) (by decide) (by decide) (by rw [hml]; rfl) pd_2 rfl (argsL := [(.int (q.1 (2 : Int32))), (.int (q.1 (0 : Int32)))]) (rest := []) rfl rfl (Nat.le_of_eq rfl) (hb hby d10_66) e8 Ex_a (by decide) (by decide) (pc' := 69) rfl ?_
      intro T10 rv10 L10 X10 hQ10
      obtain ⟨rfl, Nq10, eh10⟩ := hQ10
      have NF10 := Fr.app NF7 Nq10
      show G (T10.setTop (mkF m 69 #[.val (.ref a), .val (.int 0), .val (.int (q.1 (0 : Int32))), .val (.int 2)] [(.int 1)]))
      refine g_ifYes hG X10 hx (hb hby d10_69) (pc' := 75) (by decide) (by decide) (by decide) ?_
      show G (T10.setTop (mkF m 75 #[.val (.ref a), .val (.int 0), .val (.int (q.1 (0 : Int32))), .val (.int 2)] []))
      refine g_aloadN hG X10 hx (hb hby d10_75) (pc' := 76) rfl rfl rfl ?_
      show G (T10.setTop (mkF m 76 #[.val (.ref a), .val (.int 0), .val (.int (q.1 (0 : Int32))), .val (.int 2)] [(.ref a)]))
      refine g_aloadN hG X10 hx (hb hby d10_76) (pc' := 77) rfl rfl rfl ?_
      show G (T10.setTop (mkF m 77 #[.val (.ref a), .val (.int 0), .val (.int (q.1 (0 : Int32))), .val (.int 2)] [(.ref a), (.ref a)]))
      refine g_getF hG X10 hx hZ hown (wd hw 15 rfl) Via.refl eh10 F_heap_a (hb hby d10_77) (pc' := 80) rfl ?_
      intro T11 X11 e11
      show G (T11.setTop (mkF m 80 #[.val (.ref a), .val (.int 0), .val (.int (q.1 (0 : Int32))), .val (.int 2)] [(.ref hp), (.ref a)]))
      refine g_iloadN hG X11 hx (hb hby d10_80) (pc' := 81) rfl rfl ?_
      show G (T11.setTop (mkF m 81 #[.val (.ref a), .val (.int 0), .val (.int (q.1 (0 : Int32))), .val (.int 2)] [(.int 2), (.ref hp), (.ref a)]))
      refine g_iaload hG X11 hx hZ e11 V_hp (j := (2 : Int32)) (v := (.int (q.1 (2 : Int32)))) (in4_nn in4_2) (in4_at in4_2 rfl) (hb hby d10_81) (pc' := 82) rfl ?_
      show G (T11.setTop (mkF m 82 #[.val (.ref a), .val (.int 0), .val (.int (q.1 (0 : Int32))), .val (.int 2)] [(.int (q.1 (2 : Int32))), (.ref a)]))
      refine g_iloadN hG X11 hx (hb hby d10_82) (pc' := 83) rfl rfl ?_
      show G (T11.setTop (mkF m 83 #[.val (.ref a), .val (.int 0), .val (.int (q.1 (0 : Int32))), .val (.int 2)] [(.int 0), (.int (q.1 (2 : Int32))), (.ref a)]))
      refine g_callP hG X11 hx hZ (y := (⟨"com/example/tributary/tributary/plan/NodeHeap", "place", "(II)V"⟩ : MethodName)) 0 hown (wd hw 36 rfl) (wd hw 37 rfl) (wd hw 6 rfl) (wd hw 38 rfl) (wd hw 7 rfl) (wd hw 39 rfl) (by decide) (rmPl l Z a0 hw [] a hp pp ky (3 : Int32) q K (q.1 (2 : Int32)) (0 : Int32) h0 n0 Zs ⟨Ex_a, F_heap_a, F_position_a, F_key_a, F_size_a, V_hp, V_pp, V_ky⟩ ⟨ga, ghp, gpp, gky, d1, d2, d3, d4, d5, d6⟩ (show In4 (q.1 (2 : Int32)) from ii 2 (by decide)) in4_0) (by decide) (by decide) (by rw [hml]; rfl) pd_1 rfl (argsL := [(.int (q.1 (2 : Int32))), (.int 0)]) (rest := []) rfl rfl (Nat.le_of_eq rfl) (hb hby d10_83) e11 Ex_a (by decide) (by decide) (pc' := 86) rfl ?_
      intro T12 rv12 L12 X12 hQ12
      obtain ⟨rfl, Nq12, Kq12, Ex_a, F_heap_a, F_position_a, F_key_a, F_size_a, V_hp, V_pp, V_ky⟩ := hQ12
      have NF12 := Fr.app NF10 Nq12
      have Zs := Nat.le_trans Zs Kq12.1
      have K12 := K0.trans Kq12 (allS (Or.inl (List.mem_of_getElem? (i := 0) rfl)) (allS (Or.inl (List.mem_of_getElem? (i := 1) rfl)) (allS (Or.inl (List.mem_of_getElem? (i := 2) rfl)) (allS (Or.inl (List.mem_of_getElem? (i := 3) rfl)) all0))))
      show G (T12.setTop (mkF m 86 #[.val (.ref a), .val (.int 0), .val (.int (q.1 (0 : Int32))), .val (.int 2)] []))
      refine g_iloadN hG X12 hx (hb hby d10_86) (pc' := 87) rfl rfl ?_
      show G (T12.setTop (mkF m 87 #[.val (.ref a), .val (.int 0), .val (.int (q.1 (0 : Int32))), .val (.int 2)] [(.int 2)]))
      refine g_istoreN hG X12 hx (hb hby d10_87) (pc' := 88) rfl (Ls' := #[.val (.ref a), .val (.int 2), .val (.int (q.1 (0 : Int32))), .val (.int 2)]) rfl ?_
      show G (T12.setTop (mkF m 88 #[.val (.ref a), .val (.int 2), .val (.int (q.1 (0 : Int32))), .val (.int 2)] []))
      refine g_goto hG X12 hx (hb hby d10_88) (pc' := 7) (by decide) (by decide) ?_
      show G (T12.setTop (mkF m 7 #[.val (.ref a), .val (.int 2), .val (.int (q.1 (0 : Int32))), .val (.int 2)] []))
      refine g_iconst hG X12 hx (hb hby d10_7) (pc' := 8) rfl (v := (2 : Int32)) rfl ?_
      show G (T12.setTop (mkF m 8 #[.val (.ref a), .val (.int 2), .val (.int (q.1 (0 : Int32))), .val (.int 2)] [(.int 2)]))
      refine g_iloadN hG X12 hx (hb hby d10_8) (pc' := 9) rfl rfl ?_
      show G (T12.setTop (mkF m 9 #[.val (.ref a), .val (.int 2), .val (.int (q.1 (0 : Int32))), .val (.int 2)] [(.int 2), (.int 2)]))
      refine g_imul hG X12 hx (hb hby d10_9) (pc' := 10) rfl (v := (4 : Int32)) (by decide) ?_
      show G (T12.setTop (mkF m 10 #[.val (.ref a), .val (.int 2), .val (.int (q.1 (0 : Int32))), .val (.int 2)] [(.int 4)]))
      refine g_iconst hG X12 hx (hb hby d10_10) (pc' := 11) rfl (v := (1 : Int32)) rfl ?_
      show G (T12.setTop (mkF m 11 #[.val (.ref a), .val (.int 2), .val (.int (q.1 (0 : Int32))), .val (.int 2)] [(.int 1), (.int 4)]))
      refine g_iadd hG X12 hx (hb hby d10_11) (pc' := 12) rfl (v := (5 : Int32)) (by decide) ?_
      show G (T12.setTop (mkF m 12 #[.val (.ref a), .val (.int 2), .val (.int (q.1 (0 : Int32))), .val (.int 2)] [(.int 5)]))
      refine g_istoreN hG X12 hx (hb hby d10_12) (pc' := 13) rfl (Ls' := #[.val (.ref a), .val (.int 2), .val (.int (q.1 (0 : Int32))), .val (.int 5)]) rfl ?_
      show G (T12.setTop (mkF m 13 #[.val (.ref a), .val (.int 2), .val (.int (q.1 (0 : Int32))), .val (.int 5)] []))
      refine g_iloadN hG X12 hx (hb hby d10_13) (pc' := 14) rfl rfl ?_
      show G (T12.setTop (mkF m 14 #[.val (.ref a), .val (.int 2), .val (.int (q.1 (0 : Int32))), .val (.int 5)] [(.int 5)]))
      refine g_aloadN hG X12 hx (hb hby d10_14) (pc' := 15) rfl rfl rfl ?_
      show G (T12.setTop (mkF m 15 #[.val (.ref a), .val (.int 2), .val (.int (q.1 (0 : Int32))), .val (.int 5)] [(.ref a), (.int 5)]))
      refine g_getF hG X12 hx hZ hown (wd hw 30 rfl) Via.refl rfl F_size_a (hb hby d10_15) (pc' := 18) rfl ?_
      intro T13 X13 e13
      show G (T13.setTop (mkF m 18 #[.val (.ref a), .val (.int 2), .val (.int (q.1 (0 : Int32))), .val (.int 5)] [(.int 3), (.int 5)]))
      refine g_icmpNo hG X13 hx (hb hby d10_18) (pc' := 21) (by decide) rfl ?_
      show G (T13.setTop (mkF m 21 #[.val (.ref a), .val (.int 2), .val (.int (q.1 (0 : Int32))), .val (.int 5)] []))
      refine g_goto hG X13 hx (hb hby d10_21) (pc' := 91) (by decide) (by decide) ?_
      show G (T13.setTop (mkF m 91 #[.val (.ref a), .val (.int 2), .val (.int (q.1 (0 : Int32))), .val (.int 5)] []))
      refine g_aloadN hG X13 hx (hb hby d10_91) (pc' := 92) rfl rfl rfl ?_
      show G (T13.setTop (mkF m 92 #[.val (.ref a), .val (.int 2), .val (.int (q.1 (0 : Int32))), .val (.int 5)] [(.ref a)]))
      refine g_iloadN hG X13 hx (hb hby d10_92) (pc' := 93) rfl rfl ?_
      show G (T13.setTop (mkF m 93 #[.val (.ref a), .val (.int 2), .val (.int (q.1 (0 : Int32))), .val (.int 5)] [(.int (q.1 (0 : Int32))), (.ref a)]))
      refine g_iloadN hG X13 hx (hb hby d10_93) (pc' := 94) rfl rfl ?_
      show G (T13.setTop (mkF m 94 #[.val (.ref a), .val (.int 2), .val (.int (q.1 (0 : Int32))), .val (.int 5)] [(.int 2), (.int (q.1 (0 : Int32))), (.ref a)]))
      refine g_callP hG X13 hx hZ (y := (⟨"com/example/tributary/tributary/plan/NodeHeap", "place", "(II)V"⟩ : MethodName)) 0 hown (wd hw 36 rfl) (wd hw 37 rfl) (wd hw 6 rfl) (wd hw 38 rfl) (wd hw 7 rfl) (wd hw 39 rfl) (by decide) (rmPl l Z a0 hw [] a hp pp ky (3 : Int32) (pl q (q.1 (2 : Int32)) (0 : Int32)) K (q.1 (0 : Int32)) (2 : Int32) T12.heap n0 Zs ⟨Ex_a, F_heap_a, F_position_a, F_key_a, F_size_a, V_hp, V_pp, V_ky⟩ ⟨ga, ghp, gpp, gky, d1, d2, d3, d4, d5, d6⟩ (show In4 (q.1 (0 : Int32)) from ii 0 (by decide)) in4_2) (by decide) (by decide) (by rw [hml]; rfl) pd_1 rfl (argsL := [(.int (q.1 (0 : Int32))), (.int 2)]) (rest := []) rfl rfl (Nat.le_of_eq rfl) (hb hby d10_94) e13 Ex_a (by decide) (by decide) (pc' := 97) rfl ?_
      intro T14 rv14 L14 X14 hQ14
      obtain ⟨rfl, Nq14, Kq14, Ex_a, F_heap_a, F_position_a, F_key_a, F_size_a, V_hp, V_pp, V_ky⟩ := hQ14
      have NF14 := Fr.app NF12 Nq14
      have Zs := Nat.le_trans Zs Kq14.1
      have K14 := K12.trans Kq14 (allS (Or.inl (List.mem_of_getElem? (i := 0) rfl)) (allS (Or.inl (List.mem_of_getElem? (i := 1) rfl)) (allS (Or.inl (List.mem_of_getElem? (i := 2) rfl)) (allS (Or.inl (List.mem_of_getElem? (i := 3) rfl)) all0))))
      show G (T14.setTop (mkF m 97 #[.val (.ref a), .val (.int 2), .val (.int (q.1 (0 : Int32))), .val (.int 5)] []))
      exact e_ret0 hGe X14 hx hrt hlk (hb hby d10_97) rfl (by decide) (by decide) (⟨rfl, NF14, K14, (by
              have e : sk3 bt q = (pl (pl q (q.1 (2 : Int32)) (0 : Int32)) (q.1 (0 : Int32)) (2 : Int32)) := by
                unfold sk3
                rw [if_pos g49_6, if_pos g66_9]
              rw [e]
              exact ⟨Ex_a, F_heap_a, F_position_a, F_key_a, F_size_a, V_hp, V_pp, V_ky⟩)⟩)
    · have _hh := g66_9
      refine g_callP hG X8 hx hZ (y := (⟨"com/example/tributary/tributary/plan/NodeHeap", "before", "(II)Z"⟩ : MethodName)) 0 hown (wd hw 40 rfl) (wd hw 41 rfl) (wd hw 6 rfl) (wd hw 42 rfl) (wd hw 7 rfl) (wd hw 43 rfl) (by decide) (rmBe l Z a0 hw [] a hp pp ky (3 : Int32) q K (q.1 (2 : Int32)) (q.1 (0 : Int32)) (0 : Int32) h0 n0 Zs ⟨Ex_a, F_heap_a, F_position_a, F_key_a, F_size_a, V_hp, V_pp, V_ky⟩ ⟨ga, ghp, gpp, gky, d1, d2, d3, d4, d5, d6⟩ (show In4 (q.1 (2 : Int32)) from ii 2 (by decide)) (show In4 (q.1 (0 : Int32)) from ii 0 (by decide)) ((hbb 2 0 (by decide) (by decide)).2 g66_9)) (by decide) (by decide) (by rw [hml]; rfl) pd_2 rfl (argsL := [(.int (q.1 (2 : Int32))), (.int (q.1 (0 : Int32)))]) (rest := []) rfl rfl (Nat.le_of_eq rfl) (hb hby d10_66) e8 Ex_a (by decide) (by decide) (pc' := 69) rfl ?_
      intro T15 rv15 L15 X15 hQ15
      obtain ⟨rfl, Nq15, eh15⟩ := hQ15
      have NF15 := Fr.app NF7 Nq15
      show G (T15.setTop (mkF m 69 #[.val (.ref a), .val (.int 0), .val (.int (q.1 (0 : Int32))), .val (.int 2)] [(.int 0)]))
      refine g_ifNo hG X15 hx (hb hby d10_69) (pc' := 72) (by decide) rfl ?_
      show G (T15.setTop (mkF m 72 #[.val (.ref a), .val (.int 0), .val (.int (q.1 (0 : Int32))), .val (.int 2)] []))
      refine g_goto hG X15 hx (hb hby d10_72) (pc' := 91) (by decide) (by decide) ?_
      show G (T15.setTop (mkF m 91 #[.val (.ref a), .val (.int 0), .val (.int (q.1 (0 : Int32))), .val (.int 2)] []))
      refine g_aloadN hG X15 hx (hb hby d10_91) (pc' := 92) rfl rfl rfl ?_
      show G (T15.setTop (mkF m 92 #[.val (.ref a), .val (.int 0), .val (.int (q.1 (0 : Int32))), .val (.int 2)] [(.ref a)]))
      refine g_iloadN hG X15 hx (hb hby d10_92) (pc' := 93) rfl rfl ?_
      show G (T15.setTop (mkF m 93 #[.val (.ref a), .val (.int 0), .val (.int (q.1 (0 : Int32))), .val (.int 2)] [(.int (q.1 (0 : Int32))), (.ref a)]))
      refine g_iloadN hG X15 hx (hb hby d10_93) (pc' := 94) rfl rfl ?_
      show G (T15.setTop (mkF m 94 #[.val (.ref a), .val (.int 0), .val (.int (q.1 (0 : Int32))), .val (.int 2)] [(.int 0), (.int (q.1 (0 : Int32))), (.ref a)]))
      refine g_callP hG X15 hx hZ (y := (⟨"com/example/tributary/tributary/plan/NodeHeap", "place", "(II)V"⟩ : MethodName)) 0 hown (wd hw 36 rfl) (wd hw 37 rfl) (wd hw 6 rfl) (wd hw 38 rfl) (wd hw 7 rfl) (wd hw 39 rfl) (by decide) (rmPl l Z a0 hw [] a hp pp ky (3 : Int32) q K (q.1 (0 : Int32)) (0 : Int32) h0 n0 Zs ⟨Ex_a, F_heap_a, F_position_a, F_key_a, F_size_a, V_hp, V_pp, V_ky⟩ ⟨ga, ghp, gpp, gky, d1, d2, d3, d4, d5, d6⟩ (show In4 (q.1 (0 : Int32)) from ii 0 (by decide)) in4_0) (by decide) (by decide) (by rw [hml]; rfl) pd_1 rfl (argsL := [(.int (q.1 (0 : Int32))), (.int 0)]) (rest := []) rfl rfl (Nat.le_of_eq rfl) (hb hby d10_94) eh15 Ex_a (by decide) (by decide) (pc' := 97) rfl ?_
      intro T16 rv16 L16 X16 hQ16
      obtain ⟨rfl, Nq16, Kq16, Ex_a, F_heap_a, F_position_a, F_key_a, F_size_a, V_hp, V_pp, V_ky⟩ := hQ16
      have NF16 := Fr.app NF15 Nq16
      have Zs := Nat.le_trans Zs Kq16.1
      have K16 := K0.trans Kq16 (allS (Or.inl (List.mem_of_getElem? (i := 0) rfl)) (allS (Or.inl (List.mem_of_getElem? (i := 1) rfl)) (allS (Or.inl (List.mem_of_getElem? (i := 2) rfl)) (allS (Or.inl (List.mem_of_getElem? (i := 3) rfl)) all0))))
      show G (T16.setTop (mkF m 97 #[.val (.ref a), .val (.int 0), .val (.int (q.1 (0 : Int32))), .val (.int 2)] []))
      exact e_ret0 hGe X16 hx hrt hlk (hb hby d10_97) rfl (by decide) (by decide) (⟨rfl, NF16, K16, (by
              have e : sk3 bt q = (pl q (q.1 (0 : Int32)) (0 : Int32)) := by
                unfold sk3
                rw [if_pos g49_6, if_neg g66_9]
              rw [e]
              exact ⟨Ex_a, F_heap_a, F_position_a, F_key_a, F_size_a, V_hp, V_pp, V_ky⟩)⟩)
  · have _hh := g49_6
    refine g_callP hG X5 hx hZ (y := (⟨"com/example/tributary/tributary/plan/NodeHeap", "before", "(II)Z"⟩ : MethodName)) 0 hown (wd hw 40 rfl) (wd hw 41 rfl) (wd hw 6 rfl) (wd hw 42 rfl) (wd hw 7 rfl) (wd hw 43 rfl) (by decide) (rmBe l Z a0 hw [] a hp pp ky (3 : Int32) q K (q.1 (2 : Int32)) (q.1 (1 : Int32)) (0 : Int32) h0 n0 Zs ⟨Ex_a, F_heap_a, F_position_a, F_key_a, F_size_a, V_hp, V_pp, V_ky⟩ ⟨ga, ghp, gpp, gky, d1, d2, d3, d4, d5, d6⟩ (show In4 (q.1 (2 : Int32)) from ii 2 (by decide)) (show In4 (q.1 (1 : Int32)) from ii 1 (by decide)) ((hbb 2 1 (by decide) (by decide)).2 g49_6)) (by decide) (by decide) (by rw [hml]; rfl) pd_2 rfl (argsL := [(.int (q.1 (2 : Int32))), (.int (q.1 (1 : Int32)))]) (rest := []) rfl rfl (Nat.le_of_eq rfl) (hb hby d10_49) e5 Ex_a (by decide) (by decide) (pc' := 52) rfl ?_
    intro T17 rv17 L17 X17 hQ17
    obtain ⟨rfl, Nq17, eh17⟩ := hQ17
    have NF17 := Fr.app NF0 Nq17
    show G (T17.setTop (mkF m 52 #[.val (.ref a), .val (.int 0), .val (.int (q.1 (0 : Int32))), .val (.int 1)] [(.int 0)]))
    refine g_ifYes hG X17 hx (hb hby d10_52) (pc' := 58) (by decide) (by decide) (by decide) ?_
    show G (T17.setTop (mkF m 58 #[.val (.ref a), .val (.int 0), .val (.int (q.1 (0 : Int32))), .val (.int 1)] []))
    refine g_aloadN hG X17 hx (hb hby d10_58) (pc' := 59) rfl rfl rfl ?_
    show G (T17.setTop (mkF m 59 #[.val (.ref a), .val (.int 0), .val (.int (q.1 (0 : Int32))), .val (.int 1)] [(.ref a)]))
    refine g_aloadN hG X17 hx (hb hby d10_59) (pc' := 60) rfl rfl rfl ?_
    show G (T17.setTop (mkF m 60 #[.val (.ref a), .val (.int 0), .val (.int (q.1 (0 : Int32))), .val (.int 1)] [(.ref a), (.ref a)]))
    refine g_getF hG X17 hx hZ hown (wd hw 15 rfl) Via.refl eh17 F_heap_a (hb hby d10_60) (pc' := 63) rfl ?_
    intro T18 X18 e18
    show G (T18.setTop (mkF m 63 #[.val (.ref a), .val (.int 0), .val (.int (q.1 (0 : Int32))), .val (.int 1)] [(.ref hp), (.ref a)]))
    refine g_iloadN hG X18 hx (hb hby d10_63) (pc' := 64) rfl rfl ?_
    show G (T18.setTop (mkF m 64 #[.val (.ref a), .val (.int 0), .val (.int (q.1 (0 : Int32))), .val (.int 1)] [(.int 1), (.ref hp), (.ref a)]))
    refine g_iaload hG X18 hx hZ e18 V_hp (j := (1 : Int32)) (v := (.int (q.1 (1 : Int32)))) (in4_nn in4_1) (in4_at in4_1 rfl) (hb hby d10_64) (pc' := 65) rfl ?_
    show G (T18.setTop (mkF m 65 #[.val (.ref a), .val (.int 0), .val (.int (q.1 (0 : Int32))), .val (.int 1)] [(.int (q.1 (1 : Int32))), (.ref a)]))
    refine g_iloadN hG X18 hx (hb hby d10_65) (pc' := 66) rfl rfl ?_
    show G (T18.setTop (mkF m 66 #[.val (.ref a), .val (.int 0), .val (.int (q.1 (0 : Int32))), .val (.int 1)] [(.int (q.1 (0 : Int32))), (.int (q.1 (1 : Int32))), (.ref a)]))
    by_cases g66_19 : bt (q.1 (1 : Int32)) (q.1 (0 : Int32)) = true
    · have _hh := g66_19
      refine g_callP hG X18 hx hZ (y := (⟨"com/example/tributary/tributary/plan/NodeHeap", "before", "(II)Z"⟩ : MethodName)) 0 hown (wd hw 40 rfl) (wd hw 41 rfl) (wd hw 6 rfl) (wd hw 42 rfl) (wd hw 7 rfl) (wd hw 43 rfl) (by decide) (rmBe l Z a0 hw [] a hp pp ky (3 : Int32) q K (q.1 (1 : Int32)) (q.1 (0 : Int32)) (1 : Int32) h0 n0 Zs ⟨Ex_a, F_heap_a, F_position_a, F_key_a, F_size_a, V_hp, V_pp, V_ky⟩ ⟨ga, ghp, gpp, gky, d1, d2, d3, d4, d5, d6⟩ (show In4 (q.1 (1 : Int32)) from ii 1 (by decide)) (show In4 (q.1 (0 : Int32)) from ii 0 (by decide)) ((hbb 1 0 (by decide) (by decide)).1 g66_19)) (by decide) (by decide) (by rw [hml]; rfl) pd_2 rfl (argsL := [(.int (q.1 (1 : Int32))), (.int (q.1 (0 : Int32)))]) (rest := []) rfl rfl (Nat.le_of_eq rfl) (hb hby d10_66) e18 Ex_a (by decide) (by decide) (pc' := 69) rfl ?_
      intro T20 rv20 L20 X20 hQ20
      obtain ⟨rfl, Nq20, eh20⟩ := hQ20
      have NF20 := Fr.app NF17 Nq20
      show G (T20.setTop (mkF m 69 #[.val (.ref a), .val (.int 0), .val (.int (q.1 (0 : Int32))), .val (.int 1)] [(.int 1)]))
      refine g_ifYes hG X20 hx (hb hby d10_69) (pc' := 75) (by decide) (by decide) (by decide) ?_
      show G (T20.setTop (mkF m 75 #[.val (.ref a), .val (.int 0), .val (.int (q.1 (0 : Int32))), .val (.int 1)] []))
      refine g_aloadN hG X20 hx (hb hby d10_75) (pc' := 76) rfl rfl rfl ?_
      show G (T20.setTop (mkF m 76 #[.val (.ref a), .val (.int 0), .val (.int (q.1 (0 : Int32))), .val (.int 1)] [(.ref a)]))
      refine g_aloadN hG X20 hx (hb hby d10_76) (pc' := 77) rfl rfl rfl ?_
      show G (T20.setTop (mkF m 77 #[.val (.ref a), .val (.int 0), .val (.int (q.1 (0 : Int32))), .val (.int 1)] [(.ref a), (.ref a)]))
      refine g_getF hG X20 hx hZ hown (wd hw 15 rfl) Via.refl eh20 F_heap_a (hb hby d10_77) (pc' := 80) rfl ?_
      intro T21 X21 e21
      show G (T21.setTop (mkF m 80 #[.val (.ref a), .val (.int 0), .val (.int (q.1 (0 : Int32))), .val (.int 1)] [(.ref hp), (.ref a)]))
      refine g_iloadN hG X21 hx (hb hby d10_80) (pc' := 81) rfl rfl ?_
      show G (T21.setTop (mkF m 81 #[.val (.ref a), .val (.int 0), .val (.int (q.1 (0 : Int32))), .val (.int 1)] [(.int 1), (.ref hp), (.ref a)]))
      refine g_iaload hG X21 hx hZ e21 V_hp (j := (1 : Int32)) (v := (.int (q.1 (1 : Int32)))) (in4_nn in4_1) (in4_at in4_1 rfl) (hb hby d10_81) (pc' := 82) rfl ?_
      show G (T21.setTop (mkF m 82 #[.val (.ref a), .val (.int 0), .val (.int (q.1 (0 : Int32))), .val (.int 1)] [(.int (q.1 (1 : Int32))), (.ref a)]))
      refine g_iloadN hG X21 hx (hb hby d10_82) (pc' := 83) rfl rfl ?_
      show G (T21.setTop (mkF m 83 #[.val (.ref a), .val (.int 0), .val (.int (q.1 (0 : Int32))), .val (.int 1)] [(.int 0), (.int (q.1 (1 : Int32))), (.ref a)]))
      refine g_callP hG X21 hx hZ (y := (⟨"com/example/tributary/tributary/plan/NodeHeap", "place", "(II)V"⟩ : MethodName)) 0 hown (wd hw 36 rfl) (wd hw 37 rfl) (wd hw 6 rfl) (wd hw 38 rfl) (wd hw 7 rfl) (wd hw 39 rfl) (by decide) (rmPl l Z a0 hw [] a hp pp ky (3 : Int32) q K (q.1 (1 : Int32)) (0 : Int32) h0 n0 Zs ⟨Ex_a, F_heap_a, F_position_a, F_key_a, F_size_a, V_hp, V_pp, V_ky⟩ ⟨ga, ghp, gpp, gky, d1, d2, d3, d4, d5, d6⟩ (show In4 (q.1 (1 : Int32)) from ii 1 (by decide)) in4_0) (by decide) (by decide) (by rw [hml]; rfl) pd_1 rfl (argsL := [(.int (q.1 (1 : Int32))), (.int 0)]) (rest := []) rfl rfl (Nat.le_of_eq rfl) (hb hby d10_83) e21 Ex_a (by decide) (by decide) (pc' := 86) rfl ?_
      intro T22 rv22 L22 X22 hQ22
      obtain ⟨rfl, Nq22, Kq22, Ex_a, F_heap_a, F_position_a, F_key_a, F_size_a, V_hp, V_pp, V_ky⟩ := hQ22
      have NF22 := Fr.app NF20 Nq22
      have Zs := Nat.le_trans Zs Kq22.1
      have K22 := K0.trans Kq22 (allS (Or.inl (List.mem_of_getElem? (i := 0) rfl)) (allS (Or.inl (List.mem_of_getElem? (i := 1) rfl)) (allS (Or.inl (List.mem_of_getElem? (i := 2) rfl)) (allS (Or.inl (List.mem_of_getElem? (i := 3) rfl)) all0))))
      show G (T22.setTop (mkF m 86 #[.val (.ref a), .val (.int 0), .val (.int (q.1 (0 : Int32))), .val (.int 1)] []))
      refine g_iloadN hG X22 hx (hb hby d10_86) (pc' := 87) rfl rfl ?_
      show G (T22.setTop (mkF m 87 #[.val (.ref a), .val (.int 0), .val (.int (q.1 (0 : Int32))), .val (.int 1)] [(.int 1)]))
      refine g_istoreN hG X22 hx (hb hby d10_87) (pc' := 88) rfl (Ls' := #[.val (.ref a), .val (.int 1), .val (.int (q.1 (0 : Int32))), .val (.int 1)]) rfl ?_
      show G (T22.setTop (mkF m 88 #[.val (.ref a), .val (.int 1), .val (.int (q.1 (0 : Int32))), .val (.int 1)] []))
      refine g_goto hG X22 hx (hb hby d10_88) (pc' := 7) (by decide) (by decide) ?_
      show G (T22.setTop (mkF m 7 #[.val (.ref a), .val (.int 1), .val (.int (q.1 (0 : Int32))), .val (.int 1)] []))
      refine g_iconst hG X22 hx (hb hby d10_7) (pc' := 8) rfl (v := (2 : Int32)) rfl ?_
      show G (T22.setTop (mkF m 8 #[.val (.ref a), .val (.int 1), .val (.int (q.1 (0 : Int32))), .val (.int 1)] [(.int 2)]))
      refine g_iloadN hG X22 hx (hb hby d10_8) (pc' := 9) rfl rfl ?_
      show G (T22.setTop (mkF m 9 #[.val (.ref a), .val (.int 1), .val (.int (q.1 (0 : Int32))), .val (.int 1)] [(.int 1), (.int 2)]))
      refine g_imul hG X22 hx (hb hby d10_9) (pc' := 10) rfl (v := (2 : Int32)) (by decide) ?_
      show G (T22.setTop (mkF m 10 #[.val (.ref a), .val (.int 1), .val (.int (q.1 (0 : Int32))), .val (.int 1)] [(.int 2)]))
      refine g_iconst hG X22 hx (hb hby d10_10) (pc' := 11) rfl (v := (1 : Int32)) rfl ?_
      show G (T22.setTop (mkF m 11 #[.val (.ref a), .val (.int 1), .val (.int (q.1 (0 : Int32))), .val (.int 1)] [(.int 1), (.int 2)]))
      refine g_iadd hG X22 hx (hb hby d10_11) (pc' := 12) rfl (v := (3 : Int32)) (by decide) ?_
      show G (T22.setTop (mkF m 12 #[.val (.ref a), .val (.int 1), .val (.int (q.1 (0 : Int32))), .val (.int 1)] [(.int 3)]))
      refine g_istoreN hG X22 hx (hb hby d10_12) (pc' := 13) rfl (Ls' := #[.val (.ref a), .val (.int 1), .val (.int (q.1 (0 : Int32))), .val (.int 3)]) rfl ?_
      show G (T22.setTop (mkF m 13 #[.val (.ref a), .val (.int 1), .val (.int (q.1 (0 : Int32))), .val (.int 3)] []))
      refine g_iloadN hG X22 hx (hb hby d10_13) (pc' := 14) rfl rfl ?_
      show G (T22.setTop (mkF m 14 #[.val (.ref a), .val (.int 1), .val (.int (q.1 (0 : Int32))), .val (.int 3)] [(.int 3)]))
      refine g_aloadN hG X22 hx (hb hby d10_14) (pc' := 15) rfl rfl rfl ?_
      show G (T22.setTop (mkF m 15 #[.val (.ref a), .val (.int 1), .val (.int (q.1 (0 : Int32))), .val (.int 3)] [(.ref a), (.int 3)]))
      refine g_getF hG X22 hx hZ hown (wd hw 30 rfl) Via.refl rfl F_size_a (hb hby d10_15) (pc' := 18) rfl ?_
      intro T23 X23 e23
      show G (T23.setTop (mkF m 18 #[.val (.ref a), .val (.int 1), .val (.int (q.1 (0 : Int32))), .val (.int 3)] [(.int 3), (.int 3)]))
      refine g_icmpNo hG X23 hx (hb hby d10_18) (pc' := 21) (by decide) rfl ?_
      show G (T23.setTop (mkF m 21 #[.val (.ref a), .val (.int 1), .val (.int (q.1 (0 : Int32))), .val (.int 3)] []))
      refine g_goto hG X23 hx (hb hby d10_21) (pc' := 91) (by decide) (by decide) ?_
      show G (T23.setTop (mkF m 91 #[.val (.ref a), .val (.int 1), .val (.int (q.1 (0 : Int32))), .val (.int 3)] []))
      refine g_aloadN hG X23 hx (hb hby d10_91) (pc' := 92) rfl rfl rfl ?_
      show G (T23.setTop (mkF m 92 #[.val (.ref a), .val (.int 1), .val (.int (q.1 (0 : Int32))), .val (.int 3)] [(.ref a)]))
      refine g_iloadN hG X23 hx (hb hby d10_92) (pc' := 93) rfl rfl ?_
      show G (T23.setTop (mkF m 93 #[.val (.ref a), .val (.int 1), .val (.int (q.1 (0 : Int32))), .val (.int 3)] [(.int (q.1 (0 : Int32))), (.ref a)]))
      refine g_iloadN hG X23 hx (hb hby d10_93) (pc' := 94) rfl rfl ?_
      show G (T23.setTop (mkF m 94 #[.val (.ref a), .val (.int 1), .val (.int (q.1 (0 : Int32))), .val (.int 3)] [(.int 1), (.int (q.1 (0 : Int32))), (.ref a)]))
      refine g_callP hG X23 hx hZ (y := (⟨"com/example/tributary/tributary/plan/NodeHeap", "place", "(II)V"⟩ : MethodName)) 0 hown (wd hw 36 rfl) (wd hw 37 rfl) (wd hw 6 rfl) (wd hw 38 rfl) (wd hw 7 rfl) (wd hw 39 rfl) (by decide) (rmPl l Z a0 hw [] a hp pp ky (3 : Int32) (pl q (q.1 (1 : Int32)) (0 : Int32)) K (q.1 (0 : Int32)) (1 : Int32) T22.heap n0 Zs ⟨Ex_a, F_heap_a, F_position_a, F_key_a, F_size_a, V_hp, V_pp, V_ky⟩ ⟨ga, ghp, gpp, gky, d1, d2, d3, d4, d5, d6⟩ (show In4 (q.1 (0 : Int32)) from ii 0 (by decide)) in4_1) (by decide) (by decide) (by rw [hml]; rfl) pd_1 rfl (argsL := [(.int (q.1 (0 : Int32))), (.int 1)]) (rest := []) rfl rfl (Nat.le_of_eq rfl) (hb hby d10_94) e23 Ex_a (by decide) (by decide) (pc' := 97) rfl ?_
      intro T24 rv24 L24 X24 hQ24
      obtain ⟨rfl, Nq24, Kq24, Ex_a, F_heap_a, F_position_a, F_key_a, F_size_a, V_hp, V_pp, V_ky⟩ := hQ24
      have NF24 := Fr.app NF22 Nq24
      have Zs := Nat.le_trans Zs Kq24.1
      have K24 := K22.trans Kq24 (allS (Or.inl (List.mem_of_getElem? (i := 0) rfl)) (allS (Or.inl (List.mem_of_getElem? (i := 1) rfl)) (allS (Or.inl (List.mem_of_getElem? (i := 2) rfl)) (allS (Or.inl (List.mem_of_getElem? (i := 3) rfl)) all0))))
      show G (T24.setTop (mkF m 97 #[.val (.ref a), .val (.int 1), .val (.int (q.1 (0 : Int32))), .val (.int 3)] []))
      exact e_ret0 hGe X24 hx hrt hlk (hb hby d10_97) rfl (by decide) (by decide) (⟨rfl, NF24, K24, (by
              have e : sk3 bt q = (pl (pl q (q.1 (1 : Int32)) (0 : Int32)) (q.1 (0 : Int32)) (1 : Int32)) := by
                unfold sk3
                rw [if_neg g49_6, if_pos g66_19]
              rw [e]
              exact ⟨Ex_a, F_heap_a, F_position_a, F_key_a, F_size_a, V_hp, V_pp, V_ky⟩)⟩)
    · have _hh := g66_19
      refine g_callP hG X18 hx hZ (y := (⟨"com/example/tributary/tributary/plan/NodeHeap", "before", "(II)Z"⟩ : MethodName)) 0 hown (wd hw 40 rfl) (wd hw 41 rfl) (wd hw 6 rfl) (wd hw 42 rfl) (wd hw 7 rfl) (wd hw 43 rfl) (by decide) (rmBe l Z a0 hw [] a hp pp ky (3 : Int32) q K (q.1 (1 : Int32)) (q.1 (0 : Int32)) (0 : Int32) h0 n0 Zs ⟨Ex_a, F_heap_a, F_position_a, F_key_a, F_size_a, V_hp, V_pp, V_ky⟩ ⟨ga, ghp, gpp, gky, d1, d2, d3, d4, d5, d6⟩ (show In4 (q.1 (1 : Int32)) from ii 1 (by decide)) (show In4 (q.1 (0 : Int32)) from ii 0 (by decide)) ((hbb 1 0 (by decide) (by decide)).2 g66_19)) (by decide) (by decide) (by rw [hml]; rfl) pd_2 rfl (argsL := [(.int (q.1 (1 : Int32))), (.int (q.1 (0 : Int32)))]) (rest := []) rfl rfl (Nat.le_of_eq rfl) (hb hby d10_66) e18 Ex_a (by decide) (by decide) (pc' := 69) rfl ?_
      intro T25 rv25 L25 X25 hQ25
      obtain ⟨rfl, Nq25, eh25⟩ := hQ25
      have NF25 := Fr.app NF17 Nq25
      show G (T25.setTop (mkF m 69 #[.val (.ref a), .val (.int 0), .val (.int (q.1 (0 : Int32))), .val (.int 1)] [(.int 0)]))
      refine g_ifNo hG X25 hx (hb hby d10_69) (pc' := 72) (by decide) rfl ?_
      show G (T25.setTop (mkF m 72 #[.val (.ref a), .val (.int 0), .val (.int (q.1 (0 : Int32))), .val (.int 1)] []))
      refine g_goto hG X25 hx (hb hby d10_72) (pc' := 91) (by decide) (by decide) ?_
      show G (T25.setTop (mkF m 91 #[.val (.ref a), .val (.int 0), .val (.int (q.1 (0 : Int32))), .val (.int 1)] []))
      refine g_aloadN hG X25 hx (hb hby d10_91) (pc' := 92) rfl rfl rfl ?_
      show G (T25.setTop (mkF m 92 #[.val (.ref a), .val (.int 0), .val (.int (q.1 (0 : Int32))), .val (.int 1)] [(.ref a)]))
      refine g_iloadN hG X25 hx (hb hby d10_92) (pc' := 93) rfl rfl ?_
      show G (T25.setTop (mkF m 93 #[.val (.ref a), .val (.int 0), .val (.int (q.1 (0 : Int32))), .val (.int 1)] [(.int (q.1 (0 : Int32))), (.ref a)]))
      refine g_iloadN hG X25 hx (hb hby d10_93) (pc' := 94) rfl rfl ?_
      show G (T25.setTop (mkF m 94 #[.val (.ref a), .val (.int 0), .val (.int (q.1 (0 : Int32))), .val (.int 1)] [(.int 0), (.int (q.1 (0 : Int32))), (.ref a)]))
      refine g_callP hG X25 hx hZ (y := (⟨"com/example/tributary/tributary/plan/NodeHeap", "place", "(II)V"⟩ : MethodName)) 0 hown (wd hw 36 rfl) (wd hw 37 rfl) (wd hw 6 rfl) (wd hw 38 rfl) (wd hw 7 rfl) (wd hw 39 rfl) (by decide) (rmPl l Z a0 hw [] a hp pp ky (3 : Int32) q K (q.1 (0 : Int32)) (0 : Int32) h0 n0 Zs ⟨Ex_a, F_heap_a, F_position_a, F_key_a, F_size_a, V_hp, V_pp, V_ky⟩ ⟨ga, ghp, gpp, gky, d1, d2, d3, d4, d5, d6⟩ (show In4 (q.1 (0 : Int32)) from ii 0 (by decide)) in4_0) (by decide) (by decide) (by rw [hml]; rfl) pd_1 rfl (argsL := [(.int (q.1 (0 : Int32))), (.int 0)]) (rest := []) rfl rfl (Nat.le_of_eq rfl) (hb hby d10_94) eh25 Ex_a (by decide) (by decide) (pc' := 97) rfl ?_
      intro T26 rv26 L26 X26 hQ26
      obtain ⟨rfl, Nq26, Kq26, Ex_a, F_heap_a, F_position_a, F_key_a, F_size_a, V_hp, V_pp, V_ky⟩ := hQ26
      have NF26 := Fr.app NF25 Nq26
      have Zs := Nat.le_trans Zs Kq26.1
      have K26 := K0.trans Kq26 (allS (Or.inl (List.mem_of_getElem? (i := 0) rfl)) (allS (Or.inl (List.mem_of_getElem? (i := 1) rfl)) (allS (Or.inl (List.mem_of_getElem? (i := 2) rfl)) (allS (Or.inl (List.mem_of_getElem? (i := 3) rfl)) all0))))
      show G (T26.setTop (mkF m 97 #[.val (.ref a), .val (.int 0), .val (.int (q.1 (0 : Int32))), .val (.int 1)] []))
      exact e_ret0 hGe X26 hx hrt hlk (hb hby d10_97) rfl (by decide) (by decide) (⟨rfl, NF26, K26, (by
              have e : sk3 bt q = (pl q (q.1 (0 : Int32)) (0 : Int32)) := by
                unfold sk3
                rw [if_neg g49_6, if_neg g66_19]
              rw [e]
              exact ⟨Ex_a, F_heap_a, F_position_a, F_key_a, F_size_a, V_hp, V_pp, V_ky⟩)⟩)

def Q_rmOf0 (Z : State) (a hp pp ky : Addr) (q : HP) (K : Int32 → UInt64) (bt : Int32 → Int32 → Bool) (x : Int32) (kk : UInt64) (h0 : Heap) (n0 : Nat) (v : Option Value) (h : Heap) (L : List Loc) : Prop := v = none ∧ Fr n0 L ∧ Keep h0 h [a, hp, pp, ky] ∧ NH Z h a hp pp ky (1 : Int32) (rs0 bt (on (0 : Int32) q x)) (upd K x kk)
set_option maxRecDepth 65536 in
set_option maxHeartbeats 40000000 in
theorem rmOf0 (l : Launch) (Z : State) (a0 : Array Value) (hw : ∀ d ∈ tables_1, d.before a0 Z = true) (ws : List Jvm.Cond) (a hp pp ky : Addr) (q : HP) (K : Int32 → UInt64) (bt : Int32 → Int32 → Bool) (x : Int32) (kk : UInt64) (h0 : Heap) (n0 : Nat) (Zs : n0 ≤ h0.size) (NQ : NH Z h0 a hp pp ky (0 : Int32) q K) (DD : Dis n0 a hp pp ky) (ix : In4 x) (hP : q.2 x = -1) (ii : I4 1 (on (0 : Int32) q x)) (hbb : HB 0 (upd K x kk) bt (on (0 : Int32) q x)) :
    Con l (⟨"com/example/tributary/tributary/plan/NodeHeap", "offer", "(ID)V"⟩ : MethodName) prog_39_method_3_code 5 none ws ({ frames := 2, cells := 0, slots := 0, locals := 56 } : Room) Z #[(.ref a), (.int x), (.double kk)] h0 ({ frames := 2, cells := 0, slots := 0, locals := 56 } : Room).cells ({ frames := 2, cells := 0, slots := 0, locals := 56 } : Room).slots (Q_rmOf0 Z a hp pp ky q K bt x kk h0 n0) := by
  refine Con.of (Ls := #[.val (.ref a), .val (.int x), .val (.double kk), .second, .unset]) (plainFor_of_name (by first | (simp [plainName, overriddenIn]; done) | decide +kernel)) (fun m => by first | (simp [entryFrame, mkF, argsToLocals, Value.category]; done) | rfl) ?_
  intro p e s m below meth c s₁ G hGe hG hx hby hml hown hnm hrt hlk hZ X0 e0
  have hown : s.vm.findClass "com/example/tributary/tributary/plan/NodeHeap" = some m.cls := hown
  have hnm : meth.name = "offer" := hnm
  have NF0 := Fr.nil n0
  obtain ⟨Ex_a, F_heap_a, F_position_a, F_key_a, F_size_a, V_hp, V_pp, V_ky⟩ := NQ
  obtain ⟨ga, ghp, gpp, gky, d1, d2, d3, d4, d5, d6⟩ := DD
  have K0 := Keep.refl h0 [a, hp, pp, ky]
  refine g_aloadN hG X0 hx (hb hby d5_0) (pc' := 1) rfl rfl rfl ?_
  show G (s₁.setTop (mkF m 1 #[.val (.ref a), .val (.int x), .val (.double kk), .second, .unset] [(.ref a)]))
  refine g_getF hG X0 hx hZ hown (wd hw 17 rfl) Via.refl e0 F_position_a (hb hby d5_1) (pc' := 4) rfl ?_
  intro T1 X1 e1
  show G (T1.setTop (mkF m 4 #[.val (.ref a), .val (.int x), .val (.double kk), .second, .unset] [(.ref pp)]))
  refine g_iloadN hG X1 hx (hb hby d5_4) (pc' := 5) rfl rfl ?_
  show G (T1.setTop (mkF m 5 #[.val (.ref a), .val (.int x), .val (.double kk), .second, .unset] [(.int x), (.ref pp)]))
  refine g_iaload hG X1 hx hZ e1 V_pp (j := x) (v := (.int (-1))) (in4_nn ix) (in4_at ix hP) (hb hby d5_5) (pc' := 6) rfl ?_
  show G (T1.setTop (mkF m 6 #[.val (.ref a), .val (.int x), .val (.double kk), .second, .unset] [(.int (-1))]))
  refine g_istore hG X1 hx (hb hby d5_6) (pc' := 8) rfl (Ls' := #[.val (.ref a), .val (.int x), .val (.double kk), .second, .val (.int (-1))]) rfl ?_
  show G (T1.setTop (mkF m 8 #[.val (.ref a), .val (.int x), .val (.double kk), .second, .val (.int (-1))] []))
  refine g_iload hG X1 hx (hb hby d5_8) (pc' := 10) rfl rfl ?_
  show G (T1.setTop (mkF m 10 #[.val (.ref a), .val (.int x), .val (.double kk), .second, .val (.int (-1))] [(.int (-1))]))
  refine g_ifNo hG X1 hx (hb hby d5_10) (pc' := 13) (by decide) rfl ?_
  show G (T1.setTop (mkF m 13 #[.val (.ref a), .val (.int x), .val (.double kk), .second, .val (.int (-1))] []))
  refine g_aloadN hG X1 hx (hb hby d5_13) (pc' := 14) rfl rfl rfl ?_
  show G (T1.setTop (mkF m 14 #[.val (.ref a), .val (.int x), .val (.double kk), .second, .val (.int (-1))] [(.ref a)]))
  refine g_dup hG X1 hx (hb hby d5_14) (pc' := 15) rfl rfl ?_
  show G (T1.setTop (mkF m 15 #[.val (.ref a), .val (.int x), .val (.double kk), .second, .val (.int (-1))] [(.ref a), (.ref a)]))
  refine g_getF hG X1 hx hZ hown (wd hw 30 rfl) Via.refl e1 F_size_a (hb hby d5_15) (pc' := 18) rfl ?_
  intro T2 X2 e2
  show G (T2.setTop (mkF m 18 #[.val (.ref a), .val (.int x), .val (.double kk), .second, .val (.int (-1))] [(.int 0), (.ref a)]))
  refine g_dupX1 hG X2 hx (hb hby d5_18) (pc' := 19) rfl rfl rfl ?_
  show G (T2.setTop (mkF m 19 #[.val (.ref a), .val (.int x), .val (.double kk), .second, .val (.int (-1))] [(.int 0), (.ref a), (.int 0)]))
  refine g_iconst hG X2 hx (hb hby d5_19) (pc' := 20) rfl (v := (1 : Int32)) rfl ?_
  show G (T2.setTop (mkF m 20 #[.val (.ref a), .val (.int x), .val (.double kk), .second, .val (.int (-1))] [(.int 1), (.int 0), (.ref a), (.int 0)]))
  refine g_iadd hG X2 hx (hb hby d5_20) (pc' := 21) rfl (v := (1 : Int32)) (by decide) ?_
  show G (T2.setTop (mkF m 21 #[.val (.ref a), .val (.int x), .val (.double kk), .second, .val (.int (-1))] [(.int 1), (.ref a), (.int 0)]))
  refine g_putF hG X2 hx hZ hown (wd hw 30 rfl) Via.refl e2 F_size_a Ex_a (Or.inl (wd hw 31 rfl)) (wd hw 6 rfl) (v' := (.int 1)) (ty := .int) (by decide) rfl rfl (hb hby d5_21) (pc' := 24) rfl ?_
  intro T3 h3 X3 e3 W3
  have Ex_a := Ex_a.wr W3
  have F_heap_a := F_heap_a.other W3 (Or.inr (slot_ne (Or.inr (wd hw 16 rfl)) (Or.inl (wd hw 31 rfl)) (by decide) (t := (.array .int)) (t' := .int) (by decide) (by decide)))
  have F_position_a := F_position_a.other W3 (Or.inr (slot_ne (Or.inr (wd hw 18 rfl)) (Or.inl (wd hw 31 rfl)) (by decide) (t := (.array .int)) (t' := .int) (by decide) (by decide)))
  have F_key_a := F_key_a.other W3 (Or.inr (slot_ne (Or.inr (wd hw 20 rfl)) (Or.inl (wd hw 31 rfl)) (by decide) (t := (.array .double)) (t' := .int) (by decide) (by decide)))
  have F_size_a := F_size_a.same W3
  have V_hp := V_hp.other W3 (Ne.symm d1)
  have V_pp := V_pp.other W3 (Ne.symm d2)
  have V_ky := V_ky.other W3 (Ne.symm d3)
  have Zs := Nat.le_trans Zs (Wr.size W3)
  have NF3 := Fr.snoc X3 NF0 ga
  have K3 := K0.wr W3 (Or.inl (List.mem_of_getElem? (i := 0) rfl))
  show G (T3.setTop (mkF m 24 #[.val (.ref a), .val (.int x), .val (.double kk), .second, .val (.int (-1))] [(.int 0)]))
  refine g_istore hG X3 hx (hb hby d5_24) (pc' := 26) rfl (Ls' := #[.val (.ref a), .val (.int x), .val (.double kk), .second, .val (.int 0)]) rfl ?_
  show G (T3.setTop (mkF m 26 #[.val (.ref a), .val (.int x), .val (.double kk), .second, .val (.int 0)] []))
  refine g_aloadN hG X3 hx (hb hby d5_26) (pc' := 27) rfl rfl rfl ?_
  show G (T3.setTop (mkF m 27 #[.val (.ref a), .val (.int x), .val (.double kk), .second, .val (.int 0)] [(.ref a)]))
  refine g_getF hG X3 hx hZ hown (wd hw 15 rfl) Via.refl e3 F_heap_a (hb hby d5_27) (pc' := 30) rfl ?_
  intro T4 X4 e4
  show G (T4.setTop (mkF m 30 #[.val (.ref a), .val (.int x), .val (.double kk), .second, .val (.int 0)] [(.ref hp)]))
  refine g_iload hG X4 hx (hb hby d5_30) (pc' := 32) rfl rfl ?_
  show G (T4.setTop (mkF m 32 #[.val (.ref a), .val (.int x), .val (.double kk), .second, .val (.int 0)] [(.int 0), (.ref hp)]))
  refine g_iloadN hG X4 hx (hb hby d5_32) (pc' := 33) rfl rfl ?_
  show G (T4.setTop (mkF m 33 #[.val (.ref a), .val (.int x), .val (.double kk), .second, .val (.int 0)] [(.int x), (.int 0), (.ref hp)]))
  refine g_iastore hG X4 hx hZ e4 V_hp (j := (0 : Int32)) (in4_nn in4_0) (in4_len in4_0) (hb hby d5_33) (pc' := 34) rfl ?_
  intro T5 h5 X5 e5 W5 Vn5
  rw [in4_set in4_0] at Vn5
  have V_hp : AV Z h5 hp .int (4 : Int32) (fn4 (upd q.1 (0 : Int32) x)) := Vn5
  have Ex_a := Ex_a.wr W5
  have F_heap_a := F_heap_a.other W5 (Or.inl d1)
  have F_position_a := F_position_a.other W5 (Or.inl d1)
  have F_key_a := F_key_a.other W5 (Or.inl d1)
  have F_size_a := F_size_a.other W5 (Or.inl d1)
  have V_pp := V_pp.other W5 (Ne.symm d4)
  have V_ky := V_ky.other W5 (Ne.symm d5)
  have Zs := Nat.le_trans Zs (Wr.size W5)
  have NF5 := Fr.snoc X5 NF3 ghp
  have K5 := K3.wr W5 (Or.inl (List.mem_of_getElem? (i := 1) rfl))
  show G (T5.setTop (mkF m 34 #[.val (.ref a), .val (.int x), .val (.double kk), .second, .val (.int 0)] []))
  refine g_aloadN hG X5 hx (hb hby d5_34) (pc' := 35) rfl rfl rfl ?_
  show G (T5.setTop (mkF m 35 #[.val (.ref a), .val (.int x), .val (.double kk), .second, .val (.int 0)] [(.ref a)]))
  refine g_getF hG X5 hx hZ hown (wd hw 17 rfl) Via.refl e5 F_position_a (hb hby d5_35) (pc' := 38) rfl ?_
  intro T6 X6 e6
  show G (T6.setTop (mkF m 38 #[.val (.ref a), .val (.int x), .val (.double kk), .second, .val (.int 0)] [(.ref pp)]))
  refine g_iloadN hG X6 hx (hb hby d5_38) (pc' := 39) rfl rfl ?_
  show G (T6.setTop (mkF m 39 #[.val (.ref a), .val (.int x), .val (.double kk), .second, .val (.int 0)] [(.int x), (.ref pp)]))
  refine g_iload hG X6 hx (hb hby d5_39) (pc' := 41) rfl rfl ?_
  show G (T6.setTop (mkF m 41 #[.val (.ref a), .val (.int x), .val (.double kk), .second, .val (.int 0)] [(.int 0), (.int x), (.ref pp)]))
  refine g_iastore hG X6 hx hZ e6 V_pp (j := x) (in4_nn ix) (in4_len ix) (hb hby d5_41) (pc' := 42) rfl ?_
  intro T7 h7 X7 e7 W7 Vn7
  rw [in4_set ix] at Vn7
  have V_pp : AV Z h7 pp .int (4 : Int32) (fn4 (upd q.2 x (0 : Int32))) := Vn7
  have Ex_a := Ex_a.wr W7
  have F_heap_a := F_heap_a.other W7 (Or.inl d2)
  have F_position_a := F_position_a.other W7 (Or.inl d2)
  have F_key_a := F_key_a.other W7 (Or.inl d2)
  have F_size_a := F_size_a.other W7 (Or.inl d2)
  have V_hp := V_hp.other W7 d4
  have V_ky := V_ky.other W7 (Ne.symm d6)
  have Zs := Nat.le_trans Zs (Wr.size W7)
  have NF7 := Fr.snoc X7 NF5 gpp
  have K7 := K5.wr W7 (Or.inl (List.mem_of_getElem? (i := 2) rfl))
  show G (T7.setTop (mkF m 42 #[.val (.ref a), .val (.int x), .val (.double kk), .second, .val (.int 0)] []))
  refine g_goto hG X7 hx (hb hby d5_42) (pc' := 57) (by decide) (by decide) ?_
  show G (T7.setTop (mkF m 57 #[.val (.ref a), .val (.int x), .val (.double kk), .second, .val (.int 0)] []))
  refine g_aloadN hG X7 hx (hb hby d5_57) (pc' := 58) rfl rfl rfl ?_
  show G (T7.setTop (mkF m 58 #[.val (.ref a), .val (.int x), .val (.double kk), .second, .val (.int 0)] [(.ref a)]))
  refine g_getF hG X7 hx hZ hown (wd hw 19 rfl) Via.refl e7 F_key_a (hb hby d5_58) (pc' := 61) rfl ?_
  intro T8 X8 e8
  show G (T8.setTop (mkF m 61 #[.val (.ref a), .val (.int x), .val (.double kk), .second, .val (.int 0)] [(.ref ky)]))
  refine g_iloadN hG X8 hx (hb hby d5_61) (pc' := 62) rfl rfl ?_
  show G (T8.setTop (mkF m 62 #[.val (.ref a), .val (.int x), .val (.double kk), .second, .val (.int 0)] [(.int x), (.ref ky)]))
  refine g_dloadN hG X8 hx (hb hby d5_62) (pc' := 63) rfl rfl ?_
  show G (T8.setTop (mkF m 63 #[.val (.ref a), .val (.int x), .val (.double kk), .second, .val (.int 0)] [(.double kk), (.int x), (.ref ky)]))
  refine g_dastore hG X8 hx hZ e8 V_ky (j := x) (in4_nn ix) (in4_lend ix) (hb hby d5_63) (pc' := 64) rfl ?_
  intro T9 h9 X9 e9 W9 Vn9
  rw [in4_setd ix] at Vn9
  have V_ky : AV Z h9 ky .double (4 : Int32) (fd4 (upd K x kk)) := Vn9
  have Ex_a := Ex_a.wr W9
  have F_heap_a := F_heap_a.other W9 (Or.inl d3)
  have F_position_a := F_position_a.other W9 (Or.inl d3)
  have F_key_a := F_key_a.other W9 (Or.inl d3)
  have F_size_a := F_size_a.other W9 (Or.inl d3)
  have V_hp := V_hp.other W9 d5
  have V_pp := V_pp.other W9 d6
  have Zs := Nat.le_trans Zs (Wr.size W9)
  have NF9 := Fr.snoc X9 NF7 gky
  have K9 := K7.wr W9 (Or.inl (List.mem_of_getElem? (i := 3) rfl))
  show G (T9.setTop (mkF m 64 #[.val (.ref a), .val (.int x), .val (.double kk), .second, .val (.int 0)] []))
  refine g_aloadN hG X9 hx (hb hby d5_64) (pc' := 65) rfl rfl rfl ?_
  show G (T9.setTop (mkF m 65 #[.val (.ref a), .val (.int x), .val (.double kk), .second, .val (.int 0)] [(.ref a)]))
  refine g_iload hG X9 hx (hb hby d5_65) (pc' := 67) rfl rfl ?_
  show G (T9.setTop (mkF m 67 #[.val (.ref a), .val (.int x), .val (.double kk), .second, .val (.int 0)] [(.int 0), (.ref a)]))
  refine g_callP hG X9 hx hZ (y := (⟨"com/example/tributary/tributary/plan/NodeHeap", "rise", "(I)V"⟩ : MethodName)) 0 hown (wd hw 32 rfl) (wd hw 33 rfl) (wd hw 6 rfl) (wd hw 34 rfl) (wd hw 7 rfl) (wd hw 35 rfl) (by decide) (rmRs0 l Z a0 hw [] a hp pp ky (1 : Int32) (on (0 : Int32) q x) (upd K x kk) bt h9 n0 Zs ⟨Ex_a, F_heap_a, F_position_a, F_key_a, F_size_a, V_hp, V_pp, V_ky⟩ ⟨ga, ghp, gpp, gky, d1, d2, d3, d4, d5, d6⟩ ii hbb) (by decide) (by decide) (by rw [hml]; rfl) pd_3 rfl (argsL := [(.int 0)]) (rest := []) rfl rfl (Nat.le_of_eq rfl) (hb hby d5_67) e9 Ex_a (by decide) (by decide) (pc' := 70) rfl ?_
  intro T10 rv10 L10 X10 hQ10
  obtain ⟨rfl, Nq10, Kq10, Ex_a, F_heap_a, F_position_a, F_key_a, F_size_a, V_hp, V_pp, V_ky⟩ := hQ10
  have NF10 := Fr.app NF9 Nq10
  have Zs := Nat.le_trans Zs Kq10.1
  have K10 := K9.trans Kq10 (allS (Or.inl (List.mem_of_getElem? (i := 0) rfl)) (allS (Or.inl (List.mem_of_getElem? (i := 1) rfl)) (allS (Or.inl (List.mem_of_getElem? (i := 2) rfl)) (allS (Or.inl (List.mem_of_getElem? (i := 3) rfl)) all0))))
  show G (T10.setTop (mkF m 70 #[.val (.ref a), .val (.int x), .val (.double kk), .second, .val (.int 0)] []))
  exact e_ret0 hGe X10 hx hrt hlk (hb hby d5_70) rfl (by decide) (by decide) (⟨rfl, NF10, K10, Ex_a, F_heap_a, F_position_a, F_key_a, F_size_a, V_hp, V_pp, V_ky⟩)

def Q_rmOf1 (Z : State) (a hp pp ky : Addr) (q : HP) (K : Int32 → UInt64) (bt : Int32 → Int32 → Bool) (x : Int32) (kk : UInt64) (h0 : Heap) (n0 : Nat) (v : Option Value) (h : Heap) (L : List Loc) : Prop := v = none ∧ Fr n0 L ∧ Keep h0 h [a, hp, pp, ky] ∧ NH Z h a hp pp ky (2 : Int32) (rs1 bt (on (1 : Int32) q x)) (upd K x kk)
set_option maxRecDepth 65536 in
set_option maxHeartbeats 40000000 in
theorem rmOf1 (l : Launch) (Z : State) (a0 : Array Value) (hw : ∀ d ∈ tables_1, d.before a0 Z = true) (ws : List Jvm.Cond) (a hp pp ky : Addr) (q : HP) (K : Int32 → UInt64) (bt : Int32 → Int32 → Bool) (x : Int32) (kk : UInt64) (h0 : Heap) (n0 : Nat) (Zs : n0 ≤ h0.size) (NQ : NH Z h0 a hp pp ky (1 : Int32) q K) (DD : Dis n0 a hp pp ky) (ix : In4 x) (hP : q.2 x = -1) (ii : I4 2 (on (1 : Int32) q x)) (hbb : HB 2 (upd K x kk) bt (on (1 : Int32) q x)) :
    Con l (⟨"com/example/tributary/tributary/plan/NodeHeap", "offer", "(ID)V"⟩ : MethodName) prog_39_method_3_code 5 none ws ({ frames := 2, cells := 0, slots := 0, locals := 56 } : Room) Z #[(.ref a), (.int x), (.double kk)] h0 ({ frames := 2, cells := 0, slots := 0, locals := 56 } : Room).cells ({ frames := 2, cells := 0, slots := 0, locals := 56 } : Room).slots (Q_rmOf1 Z a hp pp ky q K bt x kk h0 n0) := by
  refine Con.of (Ls := #[.val (.ref a), .val (.int x), .val (.double kk), .second, .unset]) (plainFor_of_name (by first | (simp [plainName, overriddenIn]; done) | decide +kernel)) (fun m => by first | (simp [entryFrame, mkF, argsToLocals, Value.category]; done) | rfl) ?_
  intro p e s m below meth c s₁ G hGe hG hx hby hml hown hnm hrt hlk hZ X0 e0
  have hown : s.vm.findClass "com/example/tributary/tributary/plan/NodeHeap" = some m.cls := hown
  have hnm : meth.name = "offer" := hnm
  have NF0 := Fr.nil n0
  obtain ⟨Ex_a, F_heap_a, F_position_a, F_key_a, F_size_a, V_hp, V_pp, V_ky⟩ := NQ
  obtain ⟨ga, ghp, gpp, gky, d1, d2, d3, d4, d5, d6⟩ := DD
  have K0 := Keep.refl h0 [a, hp, pp, ky]
  refine g_aloadN hG X0 hx (hb hby d5_0) (pc' := 1) rfl rfl rfl ?_
  show G (s₁.setTop (mkF m 1 #[.val (.ref a), .val (.int x), .val (.double kk), .second, .unset] [(.ref a)]))
  refine g_getF hG X0 hx hZ hown (wd hw 17 rfl) Via.refl e0 F_position_a (hb hby d5_1) (pc' := 4) rfl ?_
  intro T1 X1 e1
  show G (T1.setTop (mkF m 4 #[.val (.ref a), .val (.int x), .val (.double kk), .second, .unset] [(.ref pp)]))
  refine g_iloadN hG X1 hx (hb hby d5_4) (pc' := 5) rfl rfl ?_
  show G (T1.setTop (mkF m 5 #[.val (.ref a), .val (.int x), .val (.double kk), .second, .unset] [(.int x), (.ref pp)]))
  refine g_iaload hG X1 hx hZ e1 V_pp (j := x) (v := (.int (-1))) (in4_nn ix) (in4_at ix hP) (hb hby d5_5) (pc' := 6) rfl ?_
  show G (T1.setTop (mkF m 6 #[.val (.ref a), .val (.int x), .val (.double kk), .second, .unset] [(.int (-1))]))
  refine g_istore hG X1 hx (hb hby d5_6) (pc' := 8) rfl (Ls' := #[.val (.ref a), .val (.int x), .val (.double kk), .second, .val (.int (-1))]) rfl ?_
  show G (T1.setTop (mkF m 8 #[.val (.ref a), .val (.int x), .val (.double kk), .second, .val (.int (-1))] []))
  refine g_iload hG X1 hx (hb hby d5_8) (pc' := 10) rfl rfl ?_
  show G (T1.setTop (mkF m 10 #[.val (.ref a), .val (.int x), .val (.double kk), .second, .val (.int (-1))] [(.int (-1))]))
  refine g_ifNo hG X1 hx (hb hby d5_10) (pc' := 13) (by decide) rfl ?_
  show G (T1.setTop (mkF m 13 #[.val (.ref a), .val (.int x), .val (.double kk), .second, .val (.int (-1))] []))
  refine g_aloadN hG X1 hx (hb hby d5_13) (pc' := 14) rfl rfl rfl ?_
  show G (T1.setTop (mkF m 14 #[.val (.ref a), .val (.int x), .val (.double kk), .second, .val (.int (-1))] [(.ref a)]))
  refine g_dup hG X1 hx (hb hby d5_14) (pc' := 15) rfl rfl ?_
  show G (T1.setTop (mkF m 15 #[.val (.ref a), .val (.int x), .val (.double kk), .second, .val (.int (-1))] [(.ref a), (.ref a)]))
  refine g_getF hG X1 hx hZ hown (wd hw 30 rfl) Via.refl e1 F_size_a (hb hby d5_15) (pc' := 18) rfl ?_
  intro T2 X2 e2
  show G (T2.setTop (mkF m 18 #[.val (.ref a), .val (.int x), .val (.double kk), .second, .val (.int (-1))] [(.int 1), (.ref a)]))
  refine g_dupX1 hG X2 hx (hb hby d5_18) (pc' := 19) rfl rfl rfl ?_
  show G (T2.setTop (mkF m 19 #[.val (.ref a), .val (.int x), .val (.double kk), .second, .val (.int (-1))] [(.int 1), (.ref a), (.int 1)]))
  refine g_iconst hG X2 hx (hb hby d5_19) (pc' := 20) rfl (v := (1 : Int32)) rfl ?_
  show G (T2.setTop (mkF m 20 #[.val (.ref a), .val (.int x), .val (.double kk), .second, .val (.int (-1))] [(.int 1), (.int 1), (.ref a), (.int 1)]))
  refine g_iadd hG X2 hx (hb hby d5_20) (pc' := 21) rfl (v := (2 : Int32)) (by decide) ?_
  show G (T2.setTop (mkF m 21 #[.val (.ref a), .val (.int x), .val (.double kk), .second, .val (.int (-1))] [(.int 2), (.ref a), (.int 1)]))
  refine g_putF hG X2 hx hZ hown (wd hw 30 rfl) Via.refl e2 F_size_a Ex_a (Or.inl (wd hw 31 rfl)) (wd hw 6 rfl) (v' := (.int 2)) (ty := .int) (by decide) rfl rfl (hb hby d5_21) (pc' := 24) rfl ?_
  intro T3 h3 X3 e3 W3
  have Ex_a := Ex_a.wr W3
  have F_heap_a := F_heap_a.other W3 (Or.inr (slot_ne (Or.inr (wd hw 16 rfl)) (Or.inl (wd hw 31 rfl)) (by decide) (t := (.array .int)) (t' := .int) (by decide) (by decide)))
  have F_position_a := F_position_a.other W3 (Or.inr (slot_ne (Or.inr (wd hw 18 rfl)) (Or.inl (wd hw 31 rfl)) (by decide) (t := (.array .int)) (t' := .int) (by decide) (by decide)))
  have F_key_a := F_key_a.other W3 (Or.inr (slot_ne (Or.inr (wd hw 20 rfl)) (Or.inl (wd hw 31 rfl)) (by decide) (t := (.array .double)) (t' := .int) (by decide) (by decide)))
  have F_size_a := F_size_a.same W3
  have V_hp := V_hp.other W3 (Ne.symm d1)
  have V_pp := V_pp.other W3 (Ne.symm d2)
  have V_ky := V_ky.other W3 (Ne.symm d3)
  have Zs := Nat.le_trans Zs (Wr.size W3)
  have NF3 := Fr.snoc X3 NF0 ga
  have K3 := K0.wr W3 (Or.inl (List.mem_of_getElem? (i := 0) rfl))
  show G (T3.setTop (mkF m 24 #[.val (.ref a), .val (.int x), .val (.double kk), .second, .val (.int (-1))] [(.int 1)]))
  refine g_istore hG X3 hx (hb hby d5_24) (pc' := 26) rfl (Ls' := #[.val (.ref a), .val (.int x), .val (.double kk), .second, .val (.int 1)]) rfl ?_
  show G (T3.setTop (mkF m 26 #[.val (.ref a), .val (.int x), .val (.double kk), .second, .val (.int 1)] []))
  refine g_aloadN hG X3 hx (hb hby d5_26) (pc' := 27) rfl rfl rfl ?_
  show G (T3.setTop (mkF m 27 #[.val (.ref a), .val (.int x), .val (.double kk), .second, .val (.int 1)] [(.ref a)]))
  refine g_getF hG X3 hx hZ hown (wd hw 15 rfl) Via.refl e3 F_heap_a (hb hby d5_27) (pc' := 30) rfl ?_
  intro T4 X4 e4
  show G (T4.setTop (mkF m 30 #[.val (.ref a), .val (.int x), .val (.double kk), .second, .val (.int 1)] [(.ref hp)]))
  refine g_iload hG X4 hx (hb hby d5_30) (pc' := 32) rfl rfl ?_
  show G (T4.setTop (mkF m 32 #[.val (.ref a), .val (.int x), .val (.double kk), .second, .val (.int 1)] [(.int 1), (.ref hp)]))
  refine g_iloadN hG X4 hx (hb hby d5_32) (pc' := 33) rfl rfl ?_
  show G (T4.setTop (mkF m 33 #[.val (.ref a), .val (.int x), .val (.double kk), .second, .val (.int 1)] [(.int x), (.int 1), (.ref hp)]))
  refine g_iastore hG X4 hx hZ e4 V_hp (j := (1 : Int32)) (in4_nn in4_1) (in4_len in4_1) (hb hby d5_33) (pc' := 34) rfl ?_
  intro T5 h5 X5 e5 W5 Vn5
  rw [in4_set in4_1] at Vn5
  have V_hp : AV Z h5 hp .int (4 : Int32) (fn4 (upd q.1 (1 : Int32) x)) := Vn5
  have Ex_a := Ex_a.wr W5
  have F_heap_a := F_heap_a.other W5 (Or.inl d1)
  have F_position_a := F_position_a.other W5 (Or.inl d1)
  have F_key_a := F_key_a.other W5 (Or.inl d1)
  have F_size_a := F_size_a.other W5 (Or.inl d1)
  have V_pp := V_pp.other W5 (Ne.symm d4)
  have V_ky := V_ky.other W5 (Ne.symm d5)
  have Zs := Nat.le_trans Zs (Wr.size W5)
  have NF5 := Fr.snoc X5 NF3 ghp
  have K5 := K3.wr W5 (Or.inl (List.mem_of_getElem? (i := 1) rfl))
  show G (T5.setTop (mkF m 34 #[.val (.ref a), .val (.int x), .val (.double kk), .second, .val (.int 1)] []))
  refine g_aloadN hG X5 hx (hb hby d5_34) (pc' := 35) rfl rfl rfl ?_
  show G (T5.setTop (mkF m 35 #[.val (.ref a), .val (.int x), .val (.double kk), .second, .val (.int 1)] [(.ref a)]))
  refine g_getF hG X5 hx hZ hown (wd hw 17 rfl) Via.refl e5 F_position_a (hb hby d5_35) (pc' := 38) rfl ?_
  intro T6 X6 e6
  show G (T6.setTop (mkF m 38 #[.val (.ref a), .val (.int x), .val (.double kk), .second, .val (.int 1)] [(.ref pp)]))
  refine g_iloadN hG X6 hx (hb hby d5_38) (pc' := 39) rfl rfl ?_
  show G (T6.setTop (mkF m 39 #[.val (.ref a), .val (.int x), .val (.double kk), .second, .val (.int 1)] [(.int x), (.ref pp)]))
  refine g_iload hG X6 hx (hb hby d5_39) (pc' := 41) rfl rfl ?_
  show G (T6.setTop (mkF m 41 #[.val (.ref a), .val (.int x), .val (.double kk), .second, .val (.int 1)] [(.int 1), (.int x), (.ref pp)]))
  refine g_iastore hG X6 hx hZ e6 V_pp (j := x) (in4_nn ix) (in4_len ix) (hb hby d5_41) (pc' := 42) rfl ?_
  intro T7 h7 X7 e7 W7 Vn7
  rw [in4_set ix] at Vn7
  have V_pp : AV Z h7 pp .int (4 : Int32) (fn4 (upd q.2 x (1 : Int32))) := Vn7
  have Ex_a := Ex_a.wr W7
  have F_heap_a := F_heap_a.other W7 (Or.inl d2)
  have F_position_a := F_position_a.other W7 (Or.inl d2)
  have F_key_a := F_key_a.other W7 (Or.inl d2)
  have F_size_a := F_size_a.other W7 (Or.inl d2)
  have V_hp := V_hp.other W7 d4
  have V_ky := V_ky.other W7 (Ne.symm d6)
  have Zs := Nat.le_trans Zs (Wr.size W7)
  have NF7 := Fr.snoc X7 NF5 gpp
  have K7 := K5.wr W7 (Or.inl (List.mem_of_getElem? (i := 2) rfl))
  show G (T7.setTop (mkF m 42 #[.val (.ref a), .val (.int x), .val (.double kk), .second, .val (.int 1)] []))
  refine g_goto hG X7 hx (hb hby d5_42) (pc' := 57) (by decide) (by decide) ?_
  show G (T7.setTop (mkF m 57 #[.val (.ref a), .val (.int x), .val (.double kk), .second, .val (.int 1)] []))
  refine g_aloadN hG X7 hx (hb hby d5_57) (pc' := 58) rfl rfl rfl ?_
  show G (T7.setTop (mkF m 58 #[.val (.ref a), .val (.int x), .val (.double kk), .second, .val (.int 1)] [(.ref a)]))
  refine g_getF hG X7 hx hZ hown (wd hw 19 rfl) Via.refl e7 F_key_a (hb hby d5_58) (pc' := 61) rfl ?_
  intro T8 X8 e8
  show G (T8.setTop (mkF m 61 #[.val (.ref a), .val (.int x), .val (.double kk), .second, .val (.int 1)] [(.ref ky)]))
  refine g_iloadN hG X8 hx (hb hby d5_61) (pc' := 62) rfl rfl ?_
  show G (T8.setTop (mkF m 62 #[.val (.ref a), .val (.int x), .val (.double kk), .second, .val (.int 1)] [(.int x), (.ref ky)]))
  refine g_dloadN hG X8 hx (hb hby d5_62) (pc' := 63) rfl rfl ?_
  show G (T8.setTop (mkF m 63 #[.val (.ref a), .val (.int x), .val (.double kk), .second, .val (.int 1)] [(.double kk), (.int x), (.ref ky)]))
  refine g_dastore hG X8 hx hZ e8 V_ky (j := x) (in4_nn ix) (in4_lend ix) (hb hby d5_63) (pc' := 64) rfl ?_
  intro T9 h9 X9 e9 W9 Vn9
  rw [in4_setd ix] at Vn9
  have V_ky : AV Z h9 ky .double (4 : Int32) (fd4 (upd K x kk)) := Vn9
  have Ex_a := Ex_a.wr W9
  have F_heap_a := F_heap_a.other W9 (Or.inl d3)
  have F_position_a := F_position_a.other W9 (Or.inl d3)
  have F_key_a := F_key_a.other W9 (Or.inl d3)
  have F_size_a := F_size_a.other W9 (Or.inl d3)
  have V_hp := V_hp.other W9 d5
  have V_pp := V_pp.other W9 d6
  have Zs := Nat.le_trans Zs (Wr.size W9)
  have NF9 := Fr.snoc X9 NF7 gky
  have K9 := K7.wr W9 (Or.inl (List.mem_of_getElem? (i := 3) rfl))
  show G (T9.setTop (mkF m 64 #[.val (.ref a), .val (.int x), .val (.double kk), .second, .val (.int 1)] []))
  refine g_aloadN hG X9 hx (hb hby d5_64) (pc' := 65) rfl rfl rfl ?_
  show G (T9.setTop (mkF m 65 #[.val (.ref a), .val (.int x), .val (.double kk), .second, .val (.int 1)] [(.ref a)]))
  refine g_iload hG X9 hx (hb hby d5_65) (pc' := 67) rfl rfl ?_
  show G (T9.setTop (mkF m 67 #[.val (.ref a), .val (.int x), .val (.double kk), .second, .val (.int 1)] [(.int 1), (.ref a)]))
  refine g_callP hG X9 hx hZ (y := (⟨"com/example/tributary/tributary/plan/NodeHeap", "rise", "(I)V"⟩ : MethodName)) 0 hown (wd hw 32 rfl) (wd hw 33 rfl) (wd hw 6 rfl) (wd hw 34 rfl) (wd hw 7 rfl) (wd hw 35 rfl) (by decide) (rmRs1 l Z a0 hw [] a hp pp ky (2 : Int32) (on (1 : Int32) q x) (upd K x kk) bt h9 n0 Zs ⟨Ex_a, F_heap_a, F_position_a, F_key_a, F_size_a, V_hp, V_pp, V_ky⟩ ⟨ga, ghp, gpp, gky, d1, d2, d3, d4, d5, d6⟩ ii hbb) (by decide) (by decide) (by rw [hml]; rfl) pd_3 rfl (argsL := [(.int 1)]) (rest := []) rfl rfl (Nat.le_of_eq rfl) (hb hby d5_67) e9 Ex_a (by decide) (by decide) (pc' := 70) rfl ?_
  intro T10 rv10 L10 X10 hQ10
  obtain ⟨rfl, Nq10, Kq10, Ex_a, F_heap_a, F_position_a, F_key_a, F_size_a, V_hp, V_pp, V_ky⟩ := hQ10
  have NF10 := Fr.app NF9 Nq10
  have Zs := Nat.le_trans Zs Kq10.1
  have K10 := K9.trans Kq10 (allS (Or.inl (List.mem_of_getElem? (i := 0) rfl)) (allS (Or.inl (List.mem_of_getElem? (i := 1) rfl)) (allS (Or.inl (List.mem_of_getElem? (i := 2) rfl)) (allS (Or.inl (List.mem_of_getElem? (i := 3) rfl)) all0))))
  show G (T10.setTop (mkF m 70 #[.val (.ref a), .val (.int x), .val (.double kk), .second, .val (.int 1)] []))
  exact e_ret0 hGe X10 hx hrt hlk (hb hby d5_70) rfl (by decide) (by decide) (⟨rfl, NF10, K10, Ex_a, F_heap_a, F_position_a, F_key_a, F_size_a, V_hp, V_pp, V_ky⟩)

def Q_rmOf2 (Z : State) (a hp pp ky : Addr) (q : HP) (K : Int32 → UInt64) (bt : Int32 → Int32 → Bool) (x : Int32) (kk : UInt64) (h0 : Heap) (n0 : Nat) (v : Option Value) (h : Heap) (L : List Loc) : Prop := v = none ∧ Fr n0 L ∧ Keep h0 h [a, hp, pp, ky] ∧ NH Z h a hp pp ky (3 : Int32) (rs2 bt (on (2 : Int32) q x)) (upd K x kk)
set_option maxRecDepth 65536 in
set_option maxHeartbeats 40000000 in
theorem rmOf2 (l : Launch) (Z : State) (a0 : Array Value) (hw : ∀ d ∈ tables_1, d.before a0 Z = true) (ws : List Jvm.Cond) (a hp pp ky : Addr) (q : HP) (K : Int32 → UInt64) (bt : Int32 → Int32 → Bool) (x : Int32) (kk : UInt64) (h0 : Heap) (n0 : Nat) (Zs : n0 ≤ h0.size) (NQ : NH Z h0 a hp pp ky (2 : Int32) q K) (DD : Dis n0 a hp pp ky) (ix : In4 x) (hP : q.2 x = -1) (ii : I4 3 (on (2 : Int32) q x)) (hbb : HB 3 (upd K x kk) bt (on (2 : Int32) q x)) :
    Con l (⟨"com/example/tributary/tributary/plan/NodeHeap", "offer", "(ID)V"⟩ : MethodName) prog_39_method_3_code 5 none ws ({ frames := 2, cells := 0, slots := 0, locals := 56 } : Room) Z #[(.ref a), (.int x), (.double kk)] h0 ({ frames := 2, cells := 0, slots := 0, locals := 56 } : Room).cells ({ frames := 2, cells := 0, slots := 0, locals := 56 } : Room).slots (Q_rmOf2 Z a hp pp ky q K bt x kk h0 n0) := by
  refine Con.of (Ls := #[.val (.ref a), .val (.int x), .val (.double kk), .second, .unset]) (plainFor_of_name (by first | (simp [plainName, overriddenIn]; done) | decide +kernel)) (fun m => by first | (simp [entryFrame, mkF, argsToLocals, Value.category]; done) | rfl) ?_
  intro p e s m below meth c s₁ G hGe hG hx hby hml hown hnm hrt hlk hZ X0 e0
  have hown : s.vm.findClass "com/example/tributary/tributary/plan/NodeHeap" = some m.cls := hown
  have hnm : meth.name = "offer" := hnm
  have NF0 := Fr.nil n0
  obtain ⟨Ex_a, F_heap_a, F_position_a, F_key_a, F_size_a, V_hp, V_pp, V_ky⟩ := NQ
  obtain ⟨ga, ghp, gpp, gky, d1, d2, d3, d4, d5, d6⟩ := DD
  have K0 := Keep.refl h0 [a, hp, pp, ky]
  refine g_aloadN hG X0 hx (hb hby d5_0) (pc' := 1) rfl rfl rfl ?_
  show G (s₁.setTop (mkF m 1 #[.val (.ref a), .val (.int x), .val (.double kk), .second, .unset] [(.ref a)]))
  refine g_getF hG X0 hx hZ hown (wd hw 17 rfl) Via.refl e0 F_position_a (hb hby d5_1) (pc' := 4) rfl ?_
  intro T1 X1 e1
  show G (T1.setTop (mkF m 4 #[.val (.ref a), .val (.int x), .val (.double kk), .second, .unset] [(.ref pp)]))
  refine g_iloadN hG X1 hx (hb hby d5_4) (pc' := 5) rfl rfl ?_
  show G (T1.setTop (mkF m 5 #[.val (.ref a), .val (.int x), .val (.double kk), .second, .unset] [(.int x), (.ref pp)]))
  refine g_iaload hG X1 hx hZ e1 V_pp (j := x) (v := (.int (-1))) (in4_nn ix) (in4_at ix hP) (hb hby d5_5) (pc' := 6) rfl ?_
  show G (T1.setTop (mkF m 6 #[.val (.ref a), .val (.int x), .val (.double kk), .second, .unset] [(.int (-1))]))
  refine g_istore hG X1 hx (hb hby d5_6) (pc' := 8) rfl (Ls' := #[.val (.ref a), .val (.int x), .val (.double kk), .second, .val (.int (-1))]) rfl ?_
  show G (T1.setTop (mkF m 8 #[.val (.ref a), .val (.int x), .val (.double kk), .second, .val (.int (-1))] []))
  refine g_iload hG X1 hx (hb hby d5_8) (pc' := 10) rfl rfl ?_
  show G (T1.setTop (mkF m 10 #[.val (.ref a), .val (.int x), .val (.double kk), .second, .val (.int (-1))] [(.int (-1))]))
  refine g_ifNo hG X1 hx (hb hby d5_10) (pc' := 13) (by decide) rfl ?_
  show G (T1.setTop (mkF m 13 #[.val (.ref a), .val (.int x), .val (.double kk), .second, .val (.int (-1))] []))
  refine g_aloadN hG X1 hx (hb hby d5_13) (pc' := 14) rfl rfl rfl ?_
  show G (T1.setTop (mkF m 14 #[.val (.ref a), .val (.int x), .val (.double kk), .second, .val (.int (-1))] [(.ref a)]))
  refine g_dup hG X1 hx (hb hby d5_14) (pc' := 15) rfl rfl ?_
  show G (T1.setTop (mkF m 15 #[.val (.ref a), .val (.int x), .val (.double kk), .second, .val (.int (-1))] [(.ref a), (.ref a)]))
  refine g_getF hG X1 hx hZ hown (wd hw 30 rfl) Via.refl e1 F_size_a (hb hby d5_15) (pc' := 18) rfl ?_
  intro T2 X2 e2
  show G (T2.setTop (mkF m 18 #[.val (.ref a), .val (.int x), .val (.double kk), .second, .val (.int (-1))] [(.int 2), (.ref a)]))
  refine g_dupX1 hG X2 hx (hb hby d5_18) (pc' := 19) rfl rfl rfl ?_
  show G (T2.setTop (mkF m 19 #[.val (.ref a), .val (.int x), .val (.double kk), .second, .val (.int (-1))] [(.int 2), (.ref a), (.int 2)]))
  refine g_iconst hG X2 hx (hb hby d5_19) (pc' := 20) rfl (v := (1 : Int32)) rfl ?_
  show G (T2.setTop (mkF m 20 #[.val (.ref a), .val (.int x), .val (.double kk), .second, .val (.int (-1))] [(.int 1), (.int 2), (.ref a), (.int 2)]))
  refine g_iadd hG X2 hx (hb hby d5_20) (pc' := 21) rfl (v := (3 : Int32)) (by decide) ?_
  show G (T2.setTop (mkF m 21 #[.val (.ref a), .val (.int x), .val (.double kk), .second, .val (.int (-1))] [(.int 3), (.ref a), (.int 2)]))
  refine g_putF hG X2 hx hZ hown (wd hw 30 rfl) Via.refl e2 F_size_a Ex_a (Or.inl (wd hw 31 rfl)) (wd hw 6 rfl) (v' := (.int 3)) (ty := .int) (by decide) rfl rfl (hb hby d5_21) (pc' := 24) rfl ?_
  intro T3 h3 X3 e3 W3
  have Ex_a := Ex_a.wr W3
  have F_heap_a := F_heap_a.other W3 (Or.inr (slot_ne (Or.inr (wd hw 16 rfl)) (Or.inl (wd hw 31 rfl)) (by decide) (t := (.array .int)) (t' := .int) (by decide) (by decide)))
  have F_position_a := F_position_a.other W3 (Or.inr (slot_ne (Or.inr (wd hw 18 rfl)) (Or.inl (wd hw 31 rfl)) (by decide) (t := (.array .int)) (t' := .int) (by decide) (by decide)))
  have F_key_a := F_key_a.other W3 (Or.inr (slot_ne (Or.inr (wd hw 20 rfl)) (Or.inl (wd hw 31 rfl)) (by decide) (t := (.array .double)) (t' := .int) (by decide) (by decide)))
  have F_size_a := F_size_a.same W3
  have V_hp := V_hp.other W3 (Ne.symm d1)
  have V_pp := V_pp.other W3 (Ne.symm d2)
  have V_ky := V_ky.other W3 (Ne.symm d3)
  have Zs := Nat.le_trans Zs (Wr.size W3)
  have NF3 := Fr.snoc X3 NF0 ga
  have K3 := K0.wr W3 (Or.inl (List.mem_of_getElem? (i := 0) rfl))
  show G (T3.setTop (mkF m 24 #[.val (.ref a), .val (.int x), .val (.double kk), .second, .val (.int (-1))] [(.int 2)]))
  refine g_istore hG X3 hx (hb hby d5_24) (pc' := 26) rfl (Ls' := #[.val (.ref a), .val (.int x), .val (.double kk), .second, .val (.int 2)]) rfl ?_
  show G (T3.setTop (mkF m 26 #[.val (.ref a), .val (.int x), .val (.double kk), .second, .val (.int 2)] []))
  refine g_aloadN hG X3 hx (hb hby d5_26) (pc' := 27) rfl rfl rfl ?_
  show G (T3.setTop (mkF m 27 #[.val (.ref a), .val (.int x), .val (.double kk), .second, .val (.int 2)] [(.ref a)]))
  refine g_getF hG X3 hx hZ hown (wd hw 15 rfl) Via.refl e3 F_heap_a (hb hby d5_27) (pc' := 30) rfl ?_
  intro T4 X4 e4
  show G (T4.setTop (mkF m 30 #[.val (.ref a), .val (.int x), .val (.double kk), .second, .val (.int 2)] [(.ref hp)]))
  refine g_iload hG X4 hx (hb hby d5_30) (pc' := 32) rfl rfl ?_
  show G (T4.setTop (mkF m 32 #[.val (.ref a), .val (.int x), .val (.double kk), .second, .val (.int 2)] [(.int 2), (.ref hp)]))
  refine g_iloadN hG X4 hx (hb hby d5_32) (pc' := 33) rfl rfl ?_
  show G (T4.setTop (mkF m 33 #[.val (.ref a), .val (.int x), .val (.double kk), .second, .val (.int 2)] [(.int x), (.int 2), (.ref hp)]))
  refine g_iastore hG X4 hx hZ e4 V_hp (j := (2 : Int32)) (in4_nn in4_2) (in4_len in4_2) (hb hby d5_33) (pc' := 34) rfl ?_
  intro T5 h5 X5 e5 W5 Vn5
  rw [in4_set in4_2] at Vn5
  have V_hp : AV Z h5 hp .int (4 : Int32) (fn4 (upd q.1 (2 : Int32) x)) := Vn5
  have Ex_a := Ex_a.wr W5
  have F_heap_a := F_heap_a.other W5 (Or.inl d1)
  have F_position_a := F_position_a.other W5 (Or.inl d1)
  have F_key_a := F_key_a.other W5 (Or.inl d1)
  have F_size_a := F_size_a.other W5 (Or.inl d1)
  have V_pp := V_pp.other W5 (Ne.symm d4)
  have V_ky := V_ky.other W5 (Ne.symm d5)
  have Zs := Nat.le_trans Zs (Wr.size W5)
  have NF5 := Fr.snoc X5 NF3 ghp
  have K5 := K3.wr W5 (Or.inl (List.mem_of_getElem? (i := 1) rfl))
  show G (T5.setTop (mkF m 34 #[.val (.ref a), .val (.int x), .val (.double kk), .second, .val (.int 2)] []))
  refine g_aloadN hG X5 hx (hb hby d5_34) (pc' := 35) rfl rfl rfl ?_
  show G (T5.setTop (mkF m 35 #[.val (.ref a), .val (.int x), .val (.double kk), .second, .val (.int 2)] [(.ref a)]))
  refine g_getF hG X5 hx hZ hown (wd hw 17 rfl) Via.refl e5 F_position_a (hb hby d5_35) (pc' := 38) rfl ?_
  intro T6 X6 e6
  show G (T6.setTop (mkF m 38 #[.val (.ref a), .val (.int x), .val (.double kk), .second, .val (.int 2)] [(.ref pp)]))
  refine g_iloadN hG X6 hx (hb hby d5_38) (pc' := 39) rfl rfl ?_
  show G (T6.setTop (mkF m 39 #[.val (.ref a), .val (.int x), .val (.double kk), .second, .val (.int 2)] [(.int x), (.ref pp)]))
  refine g_iload hG X6 hx (hb hby d5_39) (pc' := 41) rfl rfl ?_
  show G (T6.setTop (mkF m 41 #[.val (.ref a), .val (.int x), .val (.double kk), .second, .val (.int 2)] [(.int 2), (.int x), (.ref pp)]))
  refine g_iastore hG X6 hx hZ e6 V_pp (j := x) (in4_nn ix) (in4_len ix) (hb hby d5_41) (pc' := 42) rfl ?_
  intro T7 h7 X7 e7 W7 Vn7
  rw [in4_set ix] at Vn7
  have V_pp : AV Z h7 pp .int (4 : Int32) (fn4 (upd q.2 x (2 : Int32))) := Vn7
  have Ex_a := Ex_a.wr W7
  have F_heap_a := F_heap_a.other W7 (Or.inl d2)
  have F_position_a := F_position_a.other W7 (Or.inl d2)
  have F_key_a := F_key_a.other W7 (Or.inl d2)
  have F_size_a := F_size_a.other W7 (Or.inl d2)
  have V_hp := V_hp.other W7 d4
  have V_ky := V_ky.other W7 (Ne.symm d6)
  have Zs := Nat.le_trans Zs (Wr.size W7)
  have NF7 := Fr.snoc X7 NF5 gpp
  have K7 := K5.wr W7 (Or.inl (List.mem_of_getElem? (i := 2) rfl))
  show G (T7.setTop (mkF m 42 #[.val (.ref a), .val (.int x), .val (.double kk), .second, .val (.int 2)] []))
  refine g_goto hG X7 hx (hb hby d5_42) (pc' := 57) (by decide) (by decide) ?_
  show G (T7.setTop (mkF m 57 #[.val (.ref a), .val (.int x), .val (.double kk), .second, .val (.int 2)] []))
  refine g_aloadN hG X7 hx (hb hby d5_57) (pc' := 58) rfl rfl rfl ?_
  show G (T7.setTop (mkF m 58 #[.val (.ref a), .val (.int x), .val (.double kk), .second, .val (.int 2)] [(.ref a)]))
  refine g_getF hG X7 hx hZ hown (wd hw 19 rfl) Via.refl e7 F_key_a (hb hby d5_58) (pc' := 61) rfl ?_
  intro T8 X8 e8
  show G (T8.setTop (mkF m 61 #[.val (.ref a), .val (.int x), .val (.double kk), .second, .val (.int 2)] [(.ref ky)]))
  refine g_iloadN hG X8 hx (hb hby d5_61) (pc' := 62) rfl rfl ?_
  show G (T8.setTop (mkF m 62 #[.val (.ref a), .val (.int x), .val (.double kk), .second, .val (.int 2)] [(.int x), (.ref ky)]))
  refine g_dloadN hG X8 hx (hb hby d5_62) (pc' := 63) rfl rfl ?_
  show G (T8.setTop (mkF m 63 #[.val (.ref a), .val (.int x), .val (.double kk), .second, .val (.int 2)] [(.double kk), (.int x), (.ref ky)]))
  refine g_dastore hG X8 hx hZ e8 V_ky (j := x) (in4_nn ix) (in4_lend ix) (hb hby d5_63) (pc' := 64) rfl ?_
  intro T9 h9 X9 e9 W9 Vn9
  rw [in4_setd ix] at Vn9
  have V_ky : AV Z h9 ky .double (4 : Int32) (fd4 (upd K x kk)) := Vn9
  have Ex_a := Ex_a.wr W9
  have F_heap_a := F_heap_a.other W9 (Or.inl d3)
  have F_position_a := F_position_a.other W9 (Or.inl d3)
  have F_key_a := F_key_a.other W9 (Or.inl d3)
  have F_size_a := F_size_a.other W9 (Or.inl d3)
  have V_hp := V_hp.other W9 d5
  have V_pp := V_pp.other W9 d6
  have Zs := Nat.le_trans Zs (Wr.size W9)
  have NF9 := Fr.snoc X9 NF7 gky
  have K9 := K7.wr W9 (Or.inl (List.mem_of_getElem? (i := 3) rfl))
  show G (T9.setTop (mkF m 64 #[.val (.ref a), .val (.int x), .val (.double kk), .second, .val (.int 2)] []))
  refine g_aloadN hG X9 hx (hb hby d5_64) (pc' := 65) rfl rfl rfl ?_
  show G (T9.setTop (mkF m 65 #[.val (.ref a), .val (.int x), .val (.double kk), .second, .val (.int 2)] [(.ref a)]))
  refine g_iload hG X9 hx (hb hby d5_65) (pc' := 67) rfl rfl ?_
  show G (T9.setTop (mkF m 67 #[.val (.ref a), .val (.int x), .val (.double kk), .second, .val (.int 2)] [(.int 2), (.ref a)]))
  refine g_callP hG X9 hx hZ (y := (⟨"com/example/tributary/tributary/plan/NodeHeap", "rise", "(I)V"⟩ : MethodName)) 0 hown (wd hw 32 rfl) (wd hw 33 rfl) (wd hw 6 rfl) (wd hw 34 rfl) (wd hw 7 rfl) (wd hw 35 rfl) (by decide) (rmRs2 l Z a0 hw [] a hp pp ky (3 : Int32) (on (2 : Int32) q x) (upd K x kk) bt h9 n0 Zs ⟨Ex_a, F_heap_a, F_position_a, F_key_a, F_size_a, V_hp, V_pp, V_ky⟩ ⟨ga, ghp, gpp, gky, d1, d2, d3, d4, d5, d6⟩ ii hbb) (by decide) (by decide) (by rw [hml]; rfl) pd_3 rfl (argsL := [(.int 2)]) (rest := []) rfl rfl (Nat.le_of_eq rfl) (hb hby d5_67) e9 Ex_a (by decide) (by decide) (pc' := 70) rfl ?_
  intro T10 rv10 L10 X10 hQ10
  obtain ⟨rfl, Nq10, Kq10, Ex_a, F_heap_a, F_position_a, F_key_a, F_size_a, V_hp, V_pp, V_ky⟩ := hQ10
  have NF10 := Fr.app NF9 Nq10
  have Zs := Nat.le_trans Zs Kq10.1
  have K10 := K9.trans Kq10 (allS (Or.inl (List.mem_of_getElem? (i := 0) rfl)) (allS (Or.inl (List.mem_of_getElem? (i := 1) rfl)) (allS (Or.inl (List.mem_of_getElem? (i := 2) rfl)) (allS (Or.inl (List.mem_of_getElem? (i := 3) rfl)) all0))))
  show G (T10.setTop (mkF m 70 #[.val (.ref a), .val (.int x), .val (.double kk), .second, .val (.int 2)] []))
  exact e_ret0 hGe X10 hx hrt hlk (hb hby d5_70) rfl (by decide) (by decide) (⟨rfl, NF10, K10, Ex_a, F_heap_a, F_position_a, F_key_a, F_size_a, V_hp, V_pp, V_ky⟩)

def Q_rmOf3 (Z : State) (a hp pp ky : Addr) (q : HP) (K : Int32 → UInt64) (bt : Int32 → Int32 → Bool) (x : Int32) (kk : UInt64) (h0 : Heap) (n0 : Nat) (v : Option Value) (h : Heap) (L : List Loc) : Prop := v = none ∧ Fr n0 L ∧ Keep h0 h [a, hp, pp, ky] ∧ NH Z h a hp pp ky (4 : Int32) (rs3 bt (on (3 : Int32) q x)) (upd K x kk)
set_option maxRecDepth 65536 in
set_option maxHeartbeats 40000000 in
theorem rmOf3 (l : Launch) (Z : State) (a0 : Array Value) (hw : ∀ d ∈ tables_1, d.before a0 Z = true) (ws : List Jvm.Cond) (a hp pp ky : Addr) (q : HP) (K : Int32 → UInt64) (bt : Int32 → Int32 → Bool) (x : Int32) (kk : UInt64) (h0 : Heap) (n0 : Nat) (Zs : n0 ≤ h0.size) (NQ : NH Z h0 a hp pp ky (3 : Int32) q K) (DD : Dis n0 a hp pp ky) (ix : In4 x) (hP : q.2 x = -1) (ii : I4 4 (on (3 : Int32) q x)) (hbb : HB 4 (upd K x kk) bt (on (3 : Int32) q x)) :
    Con l (⟨"com/example/tributary/tributary/plan/NodeHeap", "offer", "(ID)V"⟩ : MethodName) prog_39_method_3_code 5 none ws ({ frames := 2, cells := 0, slots := 0, locals := 56 } : Room) Z #[(.ref a), (.int x), (.double kk)] h0 ({ frames := 2, cells := 0, slots := 0, locals := 56 } : Room).cells ({ frames := 2, cells := 0, slots := 0, locals := 56 } : Room).slots (Q_rmOf3 Z a hp pp ky q K bt x kk h0 n0) := by
  refine Con.of (Ls := #[.val (.ref a), .val (.int x), .val (.double kk), .second, .unset]) (plainFor_of_name (by first | (simp [plainName, overriddenIn]; done) | decide +kernel)) (fun m => by first | (simp [entryFrame, mkF, argsToLocals, Value.category]; done) | rfl) ?_
  intro p e s m below meth c s₁ G hGe hG hx hby hml hown hnm hrt hlk hZ X0 e0
  have hown : s.vm.findClass "com/example/tributary/tributary/plan/NodeHeap" = some m.cls := hown
  have hnm : meth.name = "offer" := hnm
  have NF0 := Fr.nil n0
  obtain ⟨Ex_a, F_heap_a, F_position_a, F_key_a, F_size_a, V_hp, V_pp, V_ky⟩ := NQ
  obtain ⟨ga, ghp, gpp, gky, d1, d2, d3, d4, d5, d6⟩ := DD
  have K0 := Keep.refl h0 [a, hp, pp, ky]
  refine g_aloadN hG X0 hx (hb hby d5_0) (pc' := 1) rfl rfl rfl ?_
  show G (s₁.setTop (mkF m 1 #[.val (.ref a), .val (.int x), .val (.double kk), .second, .unset] [(.ref a)]))
  refine g_getF hG X0 hx hZ hown (wd hw 17 rfl) Via.refl e0 F_position_a (hb hby d5_1) (pc' := 4) rfl ?_
  intro T1 X1 e1
  show G (T1.setTop (mkF m 4 #[.val (.ref a), .val (.int x), .val (.double kk), .second, .unset] [(.ref pp)]))
  refine g_iloadN hG X1 hx (hb hby d5_4) (pc' := 5) rfl rfl ?_
  show G (T1.setTop (mkF m 5 #[.val (.ref a), .val (.int x), .val (.double kk), .second, .unset] [(.int x), (.ref pp)]))
  refine g_iaload hG X1 hx hZ e1 V_pp (j := x) (v := (.int (-1))) (in4_nn ix) (in4_at ix hP) (hb hby d5_5) (pc' := 6) rfl ?_
  show G (T1.setTop (mkF m 6 #[.val (.ref a), .val (.int x), .val (.double kk), .second, .unset] [(.int (-1))]))
  refine g_istore hG X1 hx (hb hby d5_6) (pc' := 8) rfl (Ls' := #[.val (.ref a), .val (.int x), .val (.double kk), .second, .val (.int (-1))]) rfl ?_
  show G (T1.setTop (mkF m 8 #[.val (.ref a), .val (.int x), .val (.double kk), .second, .val (.int (-1))] []))
  refine g_iload hG X1 hx (hb hby d5_8) (pc' := 10) rfl rfl ?_
  show G (T1.setTop (mkF m 10 #[.val (.ref a), .val (.int x), .val (.double kk), .second, .val (.int (-1))] [(.int (-1))]))
  refine g_ifNo hG X1 hx (hb hby d5_10) (pc' := 13) (by decide) rfl ?_
  show G (T1.setTop (mkF m 13 #[.val (.ref a), .val (.int x), .val (.double kk), .second, .val (.int (-1))] []))
  refine g_aloadN hG X1 hx (hb hby d5_13) (pc' := 14) rfl rfl rfl ?_
  show G (T1.setTop (mkF m 14 #[.val (.ref a), .val (.int x), .val (.double kk), .second, .val (.int (-1))] [(.ref a)]))
  refine g_dup hG X1 hx (hb hby d5_14) (pc' := 15) rfl rfl ?_
  show G (T1.setTop (mkF m 15 #[.val (.ref a), .val (.int x), .val (.double kk), .second, .val (.int (-1))] [(.ref a), (.ref a)]))
  refine g_getF hG X1 hx hZ hown (wd hw 30 rfl) Via.refl e1 F_size_a (hb hby d5_15) (pc' := 18) rfl ?_
  intro T2 X2 e2
  show G (T2.setTop (mkF m 18 #[.val (.ref a), .val (.int x), .val (.double kk), .second, .val (.int (-1))] [(.int 3), (.ref a)]))
  refine g_dupX1 hG X2 hx (hb hby d5_18) (pc' := 19) rfl rfl rfl ?_
  show G (T2.setTop (mkF m 19 #[.val (.ref a), .val (.int x), .val (.double kk), .second, .val (.int (-1))] [(.int 3), (.ref a), (.int 3)]))
  refine g_iconst hG X2 hx (hb hby d5_19) (pc' := 20) rfl (v := (1 : Int32)) rfl ?_
  show G (T2.setTop (mkF m 20 #[.val (.ref a), .val (.int x), .val (.double kk), .second, .val (.int (-1))] [(.int 1), (.int 3), (.ref a), (.int 3)]))
  refine g_iadd hG X2 hx (hb hby d5_20) (pc' := 21) rfl (v := (4 : Int32)) (by decide) ?_
  show G (T2.setTop (mkF m 21 #[.val (.ref a), .val (.int x), .val (.double kk), .second, .val (.int (-1))] [(.int 4), (.ref a), (.int 3)]))
  refine g_putF hG X2 hx hZ hown (wd hw 30 rfl) Via.refl e2 F_size_a Ex_a (Or.inl (wd hw 31 rfl)) (wd hw 6 rfl) (v' := (.int 4)) (ty := .int) (by decide) rfl rfl (hb hby d5_21) (pc' := 24) rfl ?_
  intro T3 h3 X3 e3 W3
  have Ex_a := Ex_a.wr W3
  have F_heap_a := F_heap_a.other W3 (Or.inr (slot_ne (Or.inr (wd hw 16 rfl)) (Or.inl (wd hw 31 rfl)) (by decide) (t := (.array .int)) (t' := .int) (by decide) (by decide)))
  have F_position_a := F_position_a.other W3 (Or.inr (slot_ne (Or.inr (wd hw 18 rfl)) (Or.inl (wd hw 31 rfl)) (by decide) (t := (.array .int)) (t' := .int) (by decide) (by decide)))
  have F_key_a := F_key_a.other W3 (Or.inr (slot_ne (Or.inr (wd hw 20 rfl)) (Or.inl (wd hw 31 rfl)) (by decide) (t := (.array .double)) (t' := .int) (by decide) (by decide)))
  have F_size_a := F_size_a.same W3
  have V_hp := V_hp.other W3 (Ne.symm d1)
  have V_pp := V_pp.other W3 (Ne.symm d2)
  have V_ky := V_ky.other W3 (Ne.symm d3)
  have Zs := Nat.le_trans Zs (Wr.size W3)
  have NF3 := Fr.snoc X3 NF0 ga
  have K3 := K0.wr W3 (Or.inl (List.mem_of_getElem? (i := 0) rfl))
  show G (T3.setTop (mkF m 24 #[.val (.ref a), .val (.int x), .val (.double kk), .second, .val (.int (-1))] [(.int 3)]))
  refine g_istore hG X3 hx (hb hby d5_24) (pc' := 26) rfl (Ls' := #[.val (.ref a), .val (.int x), .val (.double kk), .second, .val (.int 3)]) rfl ?_
  show G (T3.setTop (mkF m 26 #[.val (.ref a), .val (.int x), .val (.double kk), .second, .val (.int 3)] []))
  refine g_aloadN hG X3 hx (hb hby d5_26) (pc' := 27) rfl rfl rfl ?_
  show G (T3.setTop (mkF m 27 #[.val (.ref a), .val (.int x), .val (.double kk), .second, .val (.int 3)] [(.ref a)]))
  refine g_getF hG X3 hx hZ hown (wd hw 15 rfl) Via.refl e3 F_heap_a (hb hby d5_27) (pc' := 30) rfl ?_
  intro T4 X4 e4
  show G (T4.setTop (mkF m 30 #[.val (.ref a), .val (.int x), .val (.double kk), .second, .val (.int 3)] [(.ref hp)]))
  refine g_iload hG X4 hx (hb hby d5_30) (pc' := 32) rfl rfl ?_
  show G (T4.setTop (mkF m 32 #[.val (.ref a), .val (.int x), .val (.double kk), .second, .val (.int 3)] [(.int 3), (.ref hp)]))
  refine g_iloadN hG X4 hx (hb hby d5_32) (pc' := 33) rfl rfl ?_
  show G (T4.setTop (mkF m 33 #[.val (.ref a), .val (.int x), .val (.double kk), .second, .val (.int 3)] [(.int x), (.int 3), (.ref hp)]))
  refine g_iastore hG X4 hx hZ e4 V_hp (j := (3 : Int32)) (in4_nn in4_3) (in4_len in4_3) (hb hby d5_33) (pc' := 34) rfl ?_
  intro T5 h5 X5 e5 W5 Vn5
  rw [in4_set in4_3] at Vn5
  have V_hp : AV Z h5 hp .int (4 : Int32) (fn4 (upd q.1 (3 : Int32) x)) := Vn5
  have Ex_a := Ex_a.wr W5
  have F_heap_a := F_heap_a.other W5 (Or.inl d1)
  have F_position_a := F_position_a.other W5 (Or.inl d1)
  have F_key_a := F_key_a.other W5 (Or.inl d1)
  have F_size_a := F_size_a.other W5 (Or.inl d1)
  have V_pp := V_pp.other W5 (Ne.symm d4)
  have V_ky := V_ky.other W5 (Ne.symm d5)
  have Zs := Nat.le_trans Zs (Wr.size W5)
  have NF5 := Fr.snoc X5 NF3 ghp
  have K5 := K3.wr W5 (Or.inl (List.mem_of_getElem? (i := 1) rfl))
  show G (T5.setTop (mkF m 34 #[.val (.ref a), .val (.int x), .val (.double kk), .second, .val (.int 3)] []))
  refine g_aloadN hG X5 hx (hb hby d5_34) (pc' := 35) rfl rfl rfl ?_
  show G (T5.setTop (mkF m 35 #[.val (.ref a), .val (.int x), .val (.double kk), .second, .val (.int 3)] [(.ref a)]))
  refine g_getF hG X5 hx hZ hown (wd hw 17 rfl) Via.refl e5 F_position_a (hb hby d5_35) (pc' := 38) rfl ?_
  intro T6 X6 e6
  show G (T6.setTop (mkF m 38 #[.val (.ref a), .val (.int x), .val (.double kk), .second, .val (.int 3)] [(.ref pp)]))
  refine g_iloadN hG X6 hx (hb hby d5_38) (pc' := 39) rfl rfl ?_
  show G (T6.setTop (mkF m 39 #[.val (.ref a), .val (.int x), .val (.double kk), .second, .val (.int 3)] [(.int x), (.ref pp)]))
  refine g_iload hG X6 hx (hb hby d5_39) (pc' := 41) rfl rfl ?_
  show G (T6.setTop (mkF m 41 #[.val (.ref a), .val (.int x), .val (.double kk), .second, .val (.int 3)] [(.int 3), (.int x), (.ref pp)]))
  refine g_iastore hG X6 hx hZ e6 V_pp (j := x) (in4_nn ix) (in4_len ix) (hb hby d5_41) (pc' := 42) rfl ?_
  intro T7 h7 X7 e7 W7 Vn7
  rw [in4_set ix] at Vn7
  have V_pp : AV Z h7 pp .int (4 : Int32) (fn4 (upd q.2 x (3 : Int32))) := Vn7
  have Ex_a := Ex_a.wr W7
  have F_heap_a := F_heap_a.other W7 (Or.inl d2)
  have F_position_a := F_position_a.other W7 (Or.inl d2)
  have F_key_a := F_key_a.other W7 (Or.inl d2)
  have F_size_a := F_size_a.other W7 (Or.inl d2)
  have V_hp := V_hp.other W7 d4
  have V_ky := V_ky.other W7 (Ne.symm d6)
  have Zs := Nat.le_trans Zs (Wr.size W7)
  have NF7 := Fr.snoc X7 NF5 gpp
  have K7 := K5.wr W7 (Or.inl (List.mem_of_getElem? (i := 2) rfl))
  show G (T7.setTop (mkF m 42 #[.val (.ref a), .val (.int x), .val (.double kk), .second, .val (.int 3)] []))
  refine g_goto hG X7 hx (hb hby d5_42) (pc' := 57) (by decide) (by decide) ?_
  show G (T7.setTop (mkF m 57 #[.val (.ref a), .val (.int x), .val (.double kk), .second, .val (.int 3)] []))
  refine g_aloadN hG X7 hx (hb hby d5_57) (pc' := 58) rfl rfl rfl ?_
  show G (T7.setTop (mkF m 58 #[.val (.ref a), .val (.int x), .val (.double kk), .second, .val (.int 3)] [(.ref a)]))
  refine g_getF hG X7 hx hZ hown (wd hw 19 rfl) Via.refl e7 F_key_a (hb hby d5_58) (pc' := 61) rfl ?_
  intro T8 X8 e8
  show G (T8.setTop (mkF m 61 #[.val (.ref a), .val (.int x), .val (.double kk), .second, .val (.int 3)] [(.ref ky)]))
  refine g_iloadN hG X8 hx (hb hby d5_61) (pc' := 62) rfl rfl ?_
  show G (T8.setTop (mkF m 62 #[.val (.ref a), .val (.int x), .val (.double kk), .second, .val (.int 3)] [(.int x), (.ref ky)]))
  refine g_dloadN hG X8 hx (hb hby d5_62) (pc' := 63) rfl rfl ?_
  show G (T8.setTop (mkF m 63 #[.val (.ref a), .val (.int x), .val (.double kk), .second, .val (.int 3)] [(.double kk), (.int x), (.ref ky)]))
  refine g_dastore hG X8 hx hZ e8 V_ky (j := x) (in4_nn ix) (in4_lend ix) (hb hby d5_63) (pc' := 64) rfl ?_
  intro T9 h9 X9 e9 W9 Vn9
  rw [in4_setd ix] at Vn9
  have V_ky : AV Z h9 ky .double (4 : Int32) (fd4 (upd K x kk)) := Vn9
  have Ex_a := Ex_a.wr W9
  have F_heap_a := F_heap_a.other W9 (Or.inl d3)
  have F_position_a := F_position_a.other W9 (Or.inl d3)
  have F_key_a := F_key_a.other W9 (Or.inl d3)
  have F_size_a := F_size_a.other W9 (Or.inl d3)
  have V_hp := V_hp.other W9 d5
  have V_pp := V_pp.other W9 d6
  have Zs := Nat.le_trans Zs (Wr.size W9)
  have NF9 := Fr.snoc X9 NF7 gky
  have K9 := K7.wr W9 (Or.inl (List.mem_of_getElem? (i := 3) rfl))
  show G (T9.setTop (mkF m 64 #[.val (.ref a), .val (.int x), .val (.double kk), .second, .val (.int 3)] []))
  refine g_aloadN hG X9 hx (hb hby d5_64) (pc' := 65) rfl rfl rfl ?_
  show G (T9.setTop (mkF m 65 #[.val (.ref a), .val (.int x), .val (.double kk), .second, .val (.int 3)] [(.ref a)]))
  refine g_iload hG X9 hx (hb hby d5_65) (pc' := 67) rfl rfl ?_
  show G (T9.setTop (mkF m 67 #[.val (.ref a), .val (.int x), .val (.double kk), .second, .val (.int 3)] [(.int 3), (.ref a)]))
  refine g_callP hG X9 hx hZ (y := (⟨"com/example/tributary/tributary/plan/NodeHeap", "rise", "(I)V"⟩ : MethodName)) 0 hown (wd hw 32 rfl) (wd hw 33 rfl) (wd hw 6 rfl) (wd hw 34 rfl) (wd hw 7 rfl) (wd hw 35 rfl) (by decide) (rmRs3 l Z a0 hw [] a hp pp ky (4 : Int32) (on (3 : Int32) q x) (upd K x kk) bt h9 n0 Zs ⟨Ex_a, F_heap_a, F_position_a, F_key_a, F_size_a, V_hp, V_pp, V_ky⟩ ⟨ga, ghp, gpp, gky, d1, d2, d3, d4, d5, d6⟩ ii hbb) (by decide) (by decide) (by rw [hml]; rfl) pd_3 rfl (argsL := [(.int 3)]) (rest := []) rfl rfl (Nat.le_of_eq rfl) (hb hby d5_67) e9 Ex_a (by decide) (by decide) (pc' := 70) rfl ?_
  intro T10 rv10 L10 X10 hQ10
  obtain ⟨rfl, Nq10, Kq10, Ex_a, F_heap_a, F_position_a, F_key_a, F_size_a, V_hp, V_pp, V_ky⟩ := hQ10
  have NF10 := Fr.app NF9 Nq10
  have Zs := Nat.le_trans Zs Kq10.1
  have K10 := K9.trans Kq10 (allS (Or.inl (List.mem_of_getElem? (i := 0) rfl)) (allS (Or.inl (List.mem_of_getElem? (i := 1) rfl)) (allS (Or.inl (List.mem_of_getElem? (i := 2) rfl)) (allS (Or.inl (List.mem_of_getElem? (i := 3) rfl)) all0))))
  show G (T10.setTop (mkF m 70 #[.val (.ref a), .val (.int x), .val (.double kk), .second, .val (.int 3)] []))
  exact e_ret0 hGe X10 hx hrt hlk (hb hby d5_70) rfl (by decide) (by decide) (⟨rfl, NF10, K10, Ex_a, F_heap_a, F_position_a, F_key_a, F_size_a, V_hp, V_pp, V_ky⟩)

def Q_rmPo1 (Z : State) (a hp pp ky : Addr) (q : HP) (K : Int32 → UInt64) (bt : Int32 → Int32 → Bool) (f : Int32) (h0 : Heap) (n0 : Nat) (v : Option Value) (h : Heap) (L : List Loc) : Prop := v = some (.int f) ∧ Fr n0 L ∧ Keep h0 h [a, hp, pp, ky] ∧ NH Z h a hp pp ky (0 : Int32) (po1 bt q) K
set_option maxRecDepth 65536 in
set_option maxHeartbeats 40000000 in
theorem rmPo1 (l : Launch) (Z : State) (a0 : Array Value) (hw : ∀ d ∈ tables_1, d.before a0 Z = true) (ws : List Jvm.Cond) (a hp pp ky : Addr) (q : HP) (K : Int32 → UInt64) (bt : Int32 → Int32 → Bool) (f : Int32) (h0 : Heap) (n0 : Nat) (Zs : n0 ≤ h0.size) (hf : q.1 0 = f) (NQ : NH Z h0 a hp pp ky (1 : Int32) q K) (DD : Dis n0 a hp pp ky) (ii : I4 1 q) (hbb : HB 0 K bt q) :
    Con l (⟨"com/example/tributary/tributary/plan/NodeHeap", "poll", "()I"⟩ : MethodName) prog_39_method_4_code 2 (some .int) ws ({ frames := 2, cells := 0, slots := 0, locals := 48 } : Room) Z #[(.ref a)] h0 ({ frames := 2, cells := 0, slots := 0, locals := 48 } : Room).cells ({ frames := 2, cells := 0, slots := 0, locals := 48 } : Room).slots (Q_rmPo1 Z a hp pp ky q K bt f h0 n0) := by
  refine Con.of (Ls := #[.val (.ref a), .unset]) (plainFor_of_name (by first | (simp [plainName, overriddenIn]; done) | decide +kernel)) (fun m => by first | (simp [entryFrame, mkF, argsToLocals, Value.category]; done) | rfl) ?_
  intro p e s m below meth c s₁ G hGe hG hx hby hml hown hnm hrt hlk hZ X0 e0
  have hown : s.vm.findClass "com/example/tributary/tributary/plan/NodeHeap" = some m.cls := hown
  have hnm : meth.name = "poll" := hnm
  have NF0 := Fr.nil n0
  obtain ⟨Ex_a, F_heap_a, F_position_a, F_key_a, F_size_a, V_hp, V_pp, V_ky⟩ := NQ
  obtain ⟨ga, ghp, gpp, gky, d1, d2, d3, d4, d5, d6⟩ := DD
  have K0 := Keep.refl h0 [a, hp, pp, ky]
  refine g_aloadN hG X0 hx (hb hby d9_0) (pc' := 1) rfl rfl rfl ?_
  show G (s₁.setTop (mkF m 1 #[.val (.ref a), .unset] [(.ref a)]))
  refine g_getF hG X0 hx hZ hown (wd hw 15 rfl) Via.refl e0 F_heap_a (hb hby d9_1) (pc' := 4) rfl ?_
  intro T1 X1 e1
  show G (T1.setTop (mkF m 4 #[.val (.ref a), .unset] [(.ref hp)]))
  refine g_iconst hG X1 hx (hb hby d9_4) (pc' := 5) rfl (v := (0 : Int32)) rfl ?_
  show G (T1.setTop (mkF m 5 #[.val (.ref a), .unset] [(.int 0), (.ref hp)]))
  refine g_iaload hG X1 hx hZ e1 V_hp (j := (0 : Int32)) (v := (.int (q.1 (0 : Int32)))) (in4_nn in4_0) (in4_at in4_0 rfl) (hb hby d9_5) (pc' := 6) rfl ?_
  show G (T1.setTop (mkF m 6 #[.val (.ref a), .unset] [(.int (q.1 (0 : Int32)))]))
  refine g_istoreN hG X1 hx (hb hby d9_6) (pc' := 7) rfl (Ls' := #[.val (.ref a), .val (.int (q.1 (0 : Int32)))]) rfl ?_
  show G (T1.setTop (mkF m 7 #[.val (.ref a), .val (.int (q.1 (0 : Int32)))] []))
  refine g_aloadN hG X1 hx (hb hby d9_7) (pc' := 8) rfl rfl rfl ?_
  show G (T1.setTop (mkF m 8 #[.val (.ref a), .val (.int (q.1 (0 : Int32)))] [(.ref a)]))
  refine g_getF hG X1 hx hZ hown (wd hw 17 rfl) Via.refl e1 F_position_a (hb hby d9_8) (pc' := 11) rfl ?_
  intro T2 X2 e2
  show G (T2.setTop (mkF m 11 #[.val (.ref a), .val (.int (q.1 (0 : Int32)))] [(.ref pp)]))
  refine g_iloadN hG X2 hx (hb hby d9_11) (pc' := 12) rfl rfl ?_
  show G (T2.setTop (mkF m 12 #[.val (.ref a), .val (.int (q.1 (0 : Int32)))] [(.int (q.1 (0 : Int32))), (.ref pp)]))
  refine g_iconst hG X2 hx (hb hby d9_12) (pc' := 13) rfl (v := (-1 : Int32)) rfl ?_
  show G (T2.setTop (mkF m 13 #[.val (.ref a), .val (.int (q.1 (0 : Int32)))] [(.int (-1)), (.int (q.1 (0 : Int32))), (.ref pp)]))
  refine g_iastore hG X2 hx hZ e2 V_pp (j := (q.1 (0 : Int32))) (in4_nn (show In4 (q.1 (0 : Int32)) from ii 0 (by decide))) (in4_len (show In4 (q.1 (0 : Int32)) from ii 0 (by decide))) (hb hby d9_13) (pc' := 14) rfl ?_
  intro T3 h3 X3 e3 W3 Vn3
  rw [in4_set (show In4 (q.1 (0 : Int32)) from ii 0 (by decide))] at Vn3
  have V_pp : AV Z h3 pp .int (4 : Int32) (fn4 (upd q.2 (q.1 (0 : Int32)) (-1 : Int32))) := Vn3
  have Ex_a := Ex_a.wr W3
  have F_heap_a := F_heap_a.other W3 (Or.inl d2)
  have F_position_a := F_position_a.other W3 (Or.inl d2)
  have F_key_a := F_key_a.other W3 (Or.inl d2)
  have F_size_a := F_size_a.other W3 (Or.inl d2)
  have V_hp := V_hp.other W3 d4
  have V_ky := V_ky.other W3 (Ne.symm d6)
  have Zs := Nat.le_trans Zs (Wr.size W3)
  have NF3 := Fr.snoc X3 NF0 gpp
  have K3 := K0.wr W3 (Or.inl (List.mem_of_getElem? (i := 2) rfl))
  show G (T3.setTop (mkF m 14 #[.val (.ref a), .val (.int (q.1 (0 : Int32)))] []))
  refine g_aloadN hG X3 hx (hb hby d9_14) (pc' := 15) rfl rfl rfl ?_
  show G (T3.setTop (mkF m 15 #[.val (.ref a), .val (.int (q.1 (0 : Int32)))] [(.ref a)]))
  refine g_dup hG X3 hx (hb hby d9_15) (pc' := 16) rfl rfl ?_
  show G (T3.setTop (mkF m 16 #[.val (.ref a), .val (.int (q.1 (0 : Int32)))] [(.ref a), (.ref a)]))
  refine g_getF hG X3 hx hZ hown (wd hw 30 rfl) Via.refl e3 F_size_a (hb hby d9_16) (pc' := 19) rfl ?_
  intro T4 X4 e4
  show G (T4.setTop (mkF m 19 #[.val (.ref a), .val (.int (q.1 (0 : Int32)))] [(.int 1), (.ref a)]))
  refine g_iconst hG X4 hx (hb hby d9_19) (pc' := 20) rfl (v := (1 : Int32)) rfl ?_
  show G (T4.setTop (mkF m 20 #[.val (.ref a), .val (.int (q.1 (0 : Int32)))] [(.int 1), (.int 1), (.ref a)]))
  refine g_isub hG X4 hx (hb hby d9_20) (pc' := 21) rfl (v := (0 : Int32)) (by decide) ?_
  show G (T4.setTop (mkF m 21 #[.val (.ref a), .val (.int (q.1 (0 : Int32)))] [(.int 0), (.ref a)]))
  refine g_putF hG X4 hx hZ hown (wd hw 30 rfl) Via.refl e4 F_size_a Ex_a (Or.inl (wd hw 31 rfl)) (wd hw 6 rfl) (v' := (.int 0)) (ty := .int) (by decide) rfl rfl (hb hby d9_21) (pc' := 24) rfl ?_
  intro T5 h5 X5 e5 W5
  have Ex_a := Ex_a.wr W5
  have F_heap_a := F_heap_a.other W5 (Or.inr (slot_ne (Or.inr (wd hw 16 rfl)) (Or.inl (wd hw 31 rfl)) (by decide) (t := (.array .int)) (t' := .int) (by decide) (by decide)))
  have F_position_a := F_position_a.other W5 (Or.inr (slot_ne (Or.inr (wd hw 18 rfl)) (Or.inl (wd hw 31 rfl)) (by decide) (t := (.array .int)) (t' := .int) (by decide) (by decide)))
  have F_key_a := F_key_a.other W5 (Or.inr (slot_ne (Or.inr (wd hw 20 rfl)) (Or.inl (wd hw 31 rfl)) (by decide) (t := (.array .double)) (t' := .int) (by decide) (by decide)))
  have F_size_a := F_size_a.same W5
  have V_hp := V_hp.other W5 (Ne.symm d1)
  have V_pp := V_pp.other W5 (Ne.symm d2)
  have V_ky := V_ky.other W5 (Ne.symm d3)
  have Zs := Nat.le_trans Zs (Wr.size W5)
  have NF5 := Fr.snoc X5 NF3 ga
  have K5 := K3.wr W5 (Or.inl (List.mem_of_getElem? (i := 0) rfl))
  show G (T5.setTop (mkF m 24 #[.val (.ref a), .val (.int (q.1 (0 : Int32)))] []))
  refine g_aloadN hG X5 hx (hb hby d9_24) (pc' := 25) rfl rfl rfl ?_
  show G (T5.setTop (mkF m 25 #[.val (.ref a), .val (.int (q.1 (0 : Int32)))] [(.ref a)]))
  refine g_getF hG X5 hx hZ hown (wd hw 30 rfl) Via.refl e5 F_size_a (hb hby d9_25) (pc' := 28) rfl ?_
  intro T6 X6 e6
  show G (T6.setTop (mkF m 28 #[.val (.ref a), .val (.int (q.1 (0 : Int32)))] [(.int 0)]))
  refine g_ifYes hG X6 hx (hb hby d9_28) (pc' := 63) (by decide) (by decide) (by decide) ?_
  show G (T6.setTop (mkF m 63 #[.val (.ref a), .val (.int (q.1 (0 : Int32)))] []))
  refine g_iloadN hG X6 hx (hb hby d9_63) (pc' := 64) rfl rfl ?_
  show G (T6.setTop (mkF m 64 #[.val (.ref a), .val (.int (q.1 (0 : Int32)))] [(.int (q.1 (0 : Int32)))]))
  exact e_retI hGe X6 hx hrt hlk (hb hby d9_64) e6 (by decide) (by decide) (⟨by rw [hf], NF5, K5, Ex_a, F_heap_a, F_position_a, F_key_a, F_size_a, V_hp, V_pp, V_ky⟩)

def Q_rmPo2 (Z : State) (a hp pp ky : Addr) (q : HP) (K : Int32 → UInt64) (bt : Int32 → Int32 → Bool) (f : Int32) (h0 : Heap) (n0 : Nat) (v : Option Value) (h : Heap) (L : List Loc) : Prop := v = some (.int f) ∧ Fr n0 L ∧ Keep h0 h [a, hp, pp, ky] ∧ NH Z h a hp pp ky (1 : Int32) (po2 bt q) K
set_option maxRecDepth 65536 in
set_option maxHeartbeats 40000000 in
theorem rmPo2 (l : Launch) (Z : State) (a0 : Array Value) (hw : ∀ d ∈ tables_1, d.before a0 Z = true) (ws : List Jvm.Cond) (a hp pp ky : Addr) (q : HP) (K : Int32 → UInt64) (bt : Int32 → Int32 → Bool) (f : Int32) (h0 : Heap) (n0 : Nat) (Zs : n0 ≤ h0.size) (hf : q.1 0 = f) (NQ : NH Z h0 a hp pp ky (2 : Int32) q K) (DD : Dis n0 a hp pp ky) (ii : I4 2 q) (hbb : HB 0 K bt q) :
    Con l (⟨"com/example/tributary/tributary/plan/NodeHeap", "poll", "()I"⟩ : MethodName) prog_39_method_4_code 2 (some .int) ws ({ frames := 2, cells := 0, slots := 0, locals := 48 } : Room) Z #[(.ref a)] h0 ({ frames := 2, cells := 0, slots := 0, locals := 48 } : Room).cells ({ frames := 2, cells := 0, slots := 0, locals := 48 } : Room).slots (Q_rmPo2 Z a hp pp ky q K bt f h0 n0) := by
  refine Con.of (Ls := #[.val (.ref a), .unset]) (plainFor_of_name (by first | (simp [plainName, overriddenIn]; done) | decide +kernel)) (fun m => by first | (simp [entryFrame, mkF, argsToLocals, Value.category]; done) | rfl) ?_
  intro p e s m below meth c s₁ G hGe hG hx hby hml hown hnm hrt hlk hZ X0 e0
  have hown : s.vm.findClass "com/example/tributary/tributary/plan/NodeHeap" = some m.cls := hown
  have hnm : meth.name = "poll" := hnm
  have NF0 := Fr.nil n0
  obtain ⟨Ex_a, F_heap_a, F_position_a, F_key_a, F_size_a, V_hp, V_pp, V_ky⟩ := NQ
  obtain ⟨ga, ghp, gpp, gky, d1, d2, d3, d4, d5, d6⟩ := DD
  have K0 := Keep.refl h0 [a, hp, pp, ky]
  refine g_aloadN hG X0 hx (hb hby d9_0) (pc' := 1) rfl rfl rfl ?_
  show G (s₁.setTop (mkF m 1 #[.val (.ref a), .unset] [(.ref a)]))
  refine g_getF hG X0 hx hZ hown (wd hw 15 rfl) Via.refl e0 F_heap_a (hb hby d9_1) (pc' := 4) rfl ?_
  intro T1 X1 e1
  show G (T1.setTop (mkF m 4 #[.val (.ref a), .unset] [(.ref hp)]))
  refine g_iconst hG X1 hx (hb hby d9_4) (pc' := 5) rfl (v := (0 : Int32)) rfl ?_
  show G (T1.setTop (mkF m 5 #[.val (.ref a), .unset] [(.int 0), (.ref hp)]))
  refine g_iaload hG X1 hx hZ e1 V_hp (j := (0 : Int32)) (v := (.int (q.1 (0 : Int32)))) (in4_nn in4_0) (in4_at in4_0 rfl) (hb hby d9_5) (pc' := 6) rfl ?_
  show G (T1.setTop (mkF m 6 #[.val (.ref a), .unset] [(.int (q.1 (0 : Int32)))]))
  refine g_istoreN hG X1 hx (hb hby d9_6) (pc' := 7) rfl (Ls' := #[.val (.ref a), .val (.int (q.1 (0 : Int32)))]) rfl ?_
  show G (T1.setTop (mkF m 7 #[.val (.ref a), .val (.int (q.1 (0 : Int32)))] []))
  refine g_aloadN hG X1 hx (hb hby d9_7) (pc' := 8) rfl rfl rfl ?_
  show G (T1.setTop (mkF m 8 #[.val (.ref a), .val (.int (q.1 (0 : Int32)))] [(.ref a)]))
  refine g_getF hG X1 hx hZ hown (wd hw 17 rfl) Via.refl e1 F_position_a (hb hby d9_8) (pc' := 11) rfl ?_
  intro T2 X2 e2
  show G (T2.setTop (mkF m 11 #[.val (.ref a), .val (.int (q.1 (0 : Int32)))] [(.ref pp)]))
  refine g_iloadN hG X2 hx (hb hby d9_11) (pc' := 12) rfl rfl ?_
  show G (T2.setTop (mkF m 12 #[.val (.ref a), .val (.int (q.1 (0 : Int32)))] [(.int (q.1 (0 : Int32))), (.ref pp)]))
  refine g_iconst hG X2 hx (hb hby d9_12) (pc' := 13) rfl (v := (-1 : Int32)) rfl ?_
  show G (T2.setTop (mkF m 13 #[.val (.ref a), .val (.int (q.1 (0 : Int32)))] [(.int (-1)), (.int (q.1 (0 : Int32))), (.ref pp)]))
  refine g_iastore hG X2 hx hZ e2 V_pp (j := (q.1 (0 : Int32))) (in4_nn (show In4 (q.1 (0 : Int32)) from ii 0 (by decide))) (in4_len (show In4 (q.1 (0 : Int32)) from ii 0 (by decide))) (hb hby d9_13) (pc' := 14) rfl ?_
  intro T3 h3 X3 e3 W3 Vn3
  rw [in4_set (show In4 (q.1 (0 : Int32)) from ii 0 (by decide))] at Vn3
  have V_pp : AV Z h3 pp .int (4 : Int32) (fn4 (upd q.2 (q.1 (0 : Int32)) (-1 : Int32))) := Vn3
  have Ex_a := Ex_a.wr W3
  have F_heap_a := F_heap_a.other W3 (Or.inl d2)
  have F_position_a := F_position_a.other W3 (Or.inl d2)
  have F_key_a := F_key_a.other W3 (Or.inl d2)
  have F_size_a := F_size_a.other W3 (Or.inl d2)
  have V_hp := V_hp.other W3 d4
  have V_ky := V_ky.other W3 (Ne.symm d6)
  have Zs := Nat.le_trans Zs (Wr.size W3)
  have NF3 := Fr.snoc X3 NF0 gpp
  have K3 := K0.wr W3 (Or.inl (List.mem_of_getElem? (i := 2) rfl))
  show G (T3.setTop (mkF m 14 #[.val (.ref a), .val (.int (q.1 (0 : Int32)))] []))
  refine g_aloadN hG X3 hx (hb hby d9_14) (pc' := 15) rfl rfl rfl ?_
  show G (T3.setTop (mkF m 15 #[.val (.ref a), .val (.int (q.1 (0 : Int32)))] [(.ref a)]))
  refine g_dup hG X3 hx (hb hby d9_15) (pc' := 16) rfl rfl ?_
  show G (T3.setTop (mkF m 16 #[.val (.ref a), .val (.int (q.1 (0 : Int32)))] [(.ref a), (.ref a)]))
  refine g_getF hG X3 hx hZ hown (wd hw 30 rfl) Via.refl e3 F_size_a (hb hby d9_16) (pc' := 19) rfl ?_
  intro T4 X4 e4
  show G (T4.setTop (mkF m 19 #[.val (.ref a), .val (.int (q.1 (0 : Int32)))] [(.int 2), (.ref a)]))
  refine g_iconst hG X4 hx (hb hby d9_19) (pc' := 20) rfl (v := (1 : Int32)) rfl ?_
  show G (T4.setTop (mkF m 20 #[.val (.ref a), .val (.int (q.1 (0 : Int32)))] [(.int 1), (.int 2), (.ref a)]))
  refine g_isub hG X4 hx (hb hby d9_20) (pc' := 21) rfl (v := (1 : Int32)) (by decide) ?_
  show G (T4.setTop (mkF m 21 #[.val (.ref a), .val (.int (q.1 (0 : Int32)))] [(.int 1), (.ref a)]))
  refine g_putF hG X4 hx hZ hown (wd hw 30 rfl) Via.refl e4 F_size_a Ex_a (Or.inl (wd hw 31 rfl)) (wd hw 6 rfl) (v' := (.int 1)) (ty := .int) (by decide) rfl rfl (hb hby d9_21) (pc' := 24) rfl ?_
  intro T5 h5 X5 e5 W5
  have Ex_a := Ex_a.wr W5
  have F_heap_a := F_heap_a.other W5 (Or.inr (slot_ne (Or.inr (wd hw 16 rfl)) (Or.inl (wd hw 31 rfl)) (by decide) (t := (.array .int)) (t' := .int) (by decide) (by decide)))
  have F_position_a := F_position_a.other W5 (Or.inr (slot_ne (Or.inr (wd hw 18 rfl)) (Or.inl (wd hw 31 rfl)) (by decide) (t := (.array .int)) (t' := .int) (by decide) (by decide)))
  have F_key_a := F_key_a.other W5 (Or.inr (slot_ne (Or.inr (wd hw 20 rfl)) (Or.inl (wd hw 31 rfl)) (by decide) (t := (.array .double)) (t' := .int) (by decide) (by decide)))
  have F_size_a := F_size_a.same W5
  have V_hp := V_hp.other W5 (Ne.symm d1)
  have V_pp := V_pp.other W5 (Ne.symm d2)
  have V_ky := V_ky.other W5 (Ne.symm d3)
  have Zs := Nat.le_trans Zs (Wr.size W5)
  have NF5 := Fr.snoc X5 NF3 ga
  have K5 := K3.wr W5 (Or.inl (List.mem_of_getElem? (i := 0) rfl))
  show G (T5.setTop (mkF m 24 #[.val (.ref a), .val (.int (q.1 (0 : Int32)))] []))
  refine g_aloadN hG X5 hx (hb hby d9_24) (pc' := 25) rfl rfl rfl ?_
  show G (T5.setTop (mkF m 25 #[.val (.ref a), .val (.int (q.1 (0 : Int32)))] [(.ref a)]))
  refine g_getF hG X5 hx hZ hown (wd hw 30 rfl) Via.refl e5 F_size_a (hb hby d9_25) (pc' := 28) rfl ?_
  intro T6 X6 e6
  show G (T6.setTop (mkF m 28 #[.val (.ref a), .val (.int (q.1 (0 : Int32)))] [(.int 1)]))
  refine g_ifNo hG X6 hx (hb hby d9_28) (pc' := 31) (by decide) rfl ?_
  show G (T6.setTop (mkF m 31 #[.val (.ref a), .val (.int (q.1 (0 : Int32)))] []))
  refine g_aloadN hG X6 hx (hb hby d9_31) (pc' := 32) rfl rfl rfl ?_
  show G (T6.setTop (mkF m 32 #[.val (.ref a), .val (.int (q.1 (0 : Int32)))] [(.ref a)]))
  refine g_getF hG X6 hx hZ hown (wd hw 15 rfl) Via.refl e6 F_heap_a (hb hby d9_32) (pc' := 35) rfl ?_
  intro T7 X7 e7
  show G (T7.setTop (mkF m 35 #[.val (.ref a), .val (.int (q.1 (0 : Int32)))] [(.ref hp)]))
  refine g_iconst hG X7 hx (hb hby d9_35) (pc' := 36) rfl (v := (0 : Int32)) rfl ?_
  show G (T7.setTop (mkF m 36 #[.val (.ref a), .val (.int (q.1 (0 : Int32)))] [(.int 0), (.ref hp)]))
  refine g_aloadN hG X7 hx (hb hby d9_36) (pc' := 37) rfl rfl rfl ?_
  show G (T7.setTop (mkF m 37 #[.val (.ref a), .val (.int (q.1 (0 : Int32)))] [(.ref a), (.int 0), (.ref hp)]))
  refine g_getF hG X7 hx hZ hown (wd hw 15 rfl) Via.refl e7 F_heap_a (hb hby d9_37) (pc' := 40) rfl ?_
  intro T8 X8 e8
  show G (T8.setTop (mkF m 40 #[.val (.ref a), .val (.int (q.1 (0 : Int32)))] [(.ref hp), (.int 0), (.ref hp)]))
  refine g_aloadN hG X8 hx (hb hby d9_40) (pc' := 41) rfl rfl rfl ?_
  show G (T8.setTop (mkF m 41 #[.val (.ref a), .val (.int (q.1 (0 : Int32)))] [(.ref a), (.ref hp), (.int 0), (.ref hp)]))
  refine g_getF hG X8 hx hZ hown (wd hw 30 rfl) Via.refl e8 F_size_a (hb hby d9_41) (pc' := 44) rfl ?_
  intro T9 X9 e9
  show G (T9.setTop (mkF m 44 #[.val (.ref a), .val (.int (q.1 (0 : Int32)))] [(.int 1), (.ref hp), (.int 0), (.ref hp)]))
  refine g_iaload hG X9 hx hZ e9 V_hp (j := (1 : Int32)) (v := (.int (q.1 (1 : Int32)))) (in4_nn in4_1) (in4_at in4_1 rfl) (hb hby d9_44) (pc' := 45) rfl ?_
  show G (T9.setTop (mkF m 45 #[.val (.ref a), .val (.int (q.1 (0 : Int32)))] [(.int (q.1 (1 : Int32))), (.int 0), (.ref hp)]))
  refine g_iastore hG X9 hx hZ e9 V_hp (j := (0 : Int32)) (in4_nn in4_0) (in4_len in4_0) (hb hby d9_45) (pc' := 46) rfl ?_
  intro T10 h10 X10 e10 W10 Vn10
  rw [in4_set in4_0] at Vn10
  have V_hp : AV Z h10 hp .int (4 : Int32) (fn4 (upd q.1 (0 : Int32) (q.1 (1 : Int32)))) := Vn10
  have Ex_a := Ex_a.wr W10
  have F_heap_a := F_heap_a.other W10 (Or.inl d1)
  have F_position_a := F_position_a.other W10 (Or.inl d1)
  have F_key_a := F_key_a.other W10 (Or.inl d1)
  have F_size_a := F_size_a.other W10 (Or.inl d1)
  have V_pp := V_pp.other W10 (Ne.symm d4)
  have V_ky := V_ky.other W10 (Ne.symm d5)
  have Zs := Nat.le_trans Zs (Wr.size W10)
  have NF10 := Fr.snoc X10 NF5 ghp
  have K10 := K5.wr W10 (Or.inl (List.mem_of_getElem? (i := 1) rfl))
  show G (T10.setTop (mkF m 46 #[.val (.ref a), .val (.int (q.1 (0 : Int32)))] []))
  refine g_aloadN hG X10 hx (hb hby d9_46) (pc' := 47) rfl rfl rfl ?_
  show G (T10.setTop (mkF m 47 #[.val (.ref a), .val (.int (q.1 (0 : Int32)))] [(.ref a)]))
  refine g_getF hG X10 hx hZ hown (wd hw 17 rfl) Via.refl e10 F_position_a (hb hby d9_47) (pc' := 50) rfl ?_
  intro T11 X11 e11
  show G (T11.setTop (mkF m 50 #[.val (.ref a), .val (.int (q.1 (0 : Int32)))] [(.ref pp)]))
  refine g_aloadN hG X11 hx (hb hby d9_50) (pc' := 51) rfl rfl rfl ?_
  show G (T11.setTop (mkF m 51 #[.val (.ref a), .val (.int (q.1 (0 : Int32)))] [(.ref a), (.ref pp)]))
  refine g_getF hG X11 hx hZ hown (wd hw 15 rfl) Via.refl e11 F_heap_a (hb hby d9_51) (pc' := 54) rfl ?_
  intro T12 X12 e12
  show G (T12.setTop (mkF m 54 #[.val (.ref a), .val (.int (q.1 (0 : Int32)))] [(.ref hp), (.ref pp)]))
  refine g_iconst hG X12 hx (hb hby d9_54) (pc' := 55) rfl (v := (0 : Int32)) rfl ?_
  show G (T12.setTop (mkF m 55 #[.val (.ref a), .val (.int (q.1 (0 : Int32)))] [(.int 0), (.ref hp), (.ref pp)]))
  refine g_iaload hG X12 hx hZ e12 V_hp (j := (0 : Int32)) (v := (.int (q.1 (1 : Int32)))) (in4_nn in4_0) (in4_at in4_0 rfl) (hb hby d9_55) (pc' := 56) rfl ?_
  show G (T12.setTop (mkF m 56 #[.val (.ref a), .val (.int (q.1 (0 : Int32)))] [(.int (q.1 (1 : Int32))), (.ref pp)]))
  refine g_iconst hG X12 hx (hb hby d9_56) (pc' := 57) rfl (v := (0 : Int32)) rfl ?_
  show G (T12.setTop (mkF m 57 #[.val (.ref a), .val (.int (q.1 (0 : Int32)))] [(.int 0), (.int (q.1 (1 : Int32))), (.ref pp)]))
  refine g_iastore hG X12 hx hZ e12 V_pp (j := (q.1 (1 : Int32))) (in4_nn (show In4 (q.1 (1 : Int32)) from ii 1 (by decide))) (in4_len (show In4 (q.1 (1 : Int32)) from ii 1 (by decide))) (hb hby d9_57) (pc' := 58) rfl ?_
  intro T13 h13 X13 e13 W13 Vn13
  rw [in4_set (show In4 (q.1 (1 : Int32)) from ii 1 (by decide))] at Vn13
  have V_pp : AV Z h13 pp .int (4 : Int32) (fn4 (upd (upd q.2 (q.1 (0 : Int32)) (-1 : Int32)) (q.1 (1 : Int32)) (0 : Int32))) := Vn13
  have Ex_a := Ex_a.wr W13
  have F_heap_a := F_heap_a.other W13 (Or.inl d2)
  have F_position_a := F_position_a.other W13 (Or.inl d2)
  have F_key_a := F_key_a.other W13 (Or.inl d2)
  have F_size_a := F_size_a.other W13 (Or.inl d2)
  have V_hp := V_hp.other W13 d4
  have V_ky := V_ky.other W13 (Ne.symm d6)
  have Zs := Nat.le_trans Zs (Wr.size W13)
  have NF13 := Fr.snoc X13 NF10 gpp
  have K13 := K10.wr W13 (Or.inl (List.mem_of_getElem? (i := 2) rfl))
  show G (T13.setTop (mkF m 58 #[.val (.ref a), .val (.int (q.1 (0 : Int32)))] []))
  refine g_aloadN hG X13 hx (hb hby d9_58) (pc' := 59) rfl rfl rfl ?_
  show G (T13.setTop (mkF m 59 #[.val (.ref a), .val (.int (q.1 (0 : Int32)))] [(.ref a)]))
  refine g_iconst hG X13 hx (hb hby d9_59) (pc' := 60) rfl (v := (0 : Int32)) rfl ?_
  show G (T13.setTop (mkF m 60 #[.val (.ref a), .val (.int (q.1 (0 : Int32)))] [(.int 0), (.ref a)]))
  have ii2 : I4 1 (ps2 q) := fun j hj => match j, hj with
        | 0, _ => ii 1 (by decide)
  have hb2 : HB 0 K bt (ps2 q) := own_HB0
  refine g_callP hG X13 hx hZ (y := (⟨"com/example/tributary/tributary/plan/NodeHeap", "sink", "(I)V"⟩ : MethodName)) 0 hown (wd hw 49 rfl) (wd hw 50 rfl) (wd hw 6 rfl) (wd hw 51 rfl) (wd hw 7 rfl) (wd hw 52 rfl) (by decide) (rmSk1 l Z a0 hw [] a hp pp ky (ps2 q) K bt h13 n0 Zs ⟨Ex_a, F_heap_a, F_position_a, F_key_a, F_size_a, V_hp, V_pp, V_ky⟩ ⟨ga, ghp, gpp, gky, d1, d2, d3, d4, d5, d6⟩ ii2 hb2) (by decide) (by decide) (by rw [hml]; rfl) pd_3 rfl (argsL := [(.int 0)]) (rest := []) rfl rfl (Nat.le_of_eq rfl) (hb hby d9_60) e13 Ex_a (by decide) (by decide) (pc' := 63) rfl ?_
  intro T14 rv14 L14 X14 hQ14
  obtain ⟨rfl, Nq14, Kq14, Ex_a, F_heap_a, F_position_a, F_key_a, F_size_a, V_hp, V_pp, V_ky⟩ := hQ14
  have NF14 := Fr.app NF13 Nq14
  have Zs := Nat.le_trans Zs Kq14.1
  have K14 := K13.trans Kq14 (allS (Or.inl (List.mem_of_getElem? (i := 0) rfl)) (allS (Or.inl (List.mem_of_getElem? (i := 1) rfl)) (allS (Or.inl (List.mem_of_getElem? (i := 2) rfl)) (allS (Or.inl (List.mem_of_getElem? (i := 3) rfl)) all0))))
  show G (T14.setTop (mkF m 63 #[.val (.ref a), .val (.int (q.1 (0 : Int32)))] []))
  refine g_iloadN hG X14 hx (hb hby d9_63) (pc' := 64) rfl rfl ?_
  show G (T14.setTop (mkF m 64 #[.val (.ref a), .val (.int (q.1 (0 : Int32)))] [(.int (q.1 (0 : Int32)))]))
  exact e_retI hGe X14 hx hrt hlk (hb hby d9_64) rfl (by decide) (by decide) (⟨by rw [hf], NF14, K14, Ex_a, F_heap_a, F_position_a, F_key_a, F_size_a, V_hp, V_pp, V_ky⟩)

def Q_rmPo3 (Z : State) (a hp pp ky : Addr) (q : HP) (K : Int32 → UInt64) (bt : Int32 → Int32 → Bool) (f : Int32) (h0 : Heap) (n0 : Nat) (v : Option Value) (h : Heap) (L : List Loc) : Prop := v = some (.int f) ∧ Fr n0 L ∧ Keep h0 h [a, hp, pp, ky] ∧ NH Z h a hp pp ky (2 : Int32) (po3 bt q) K
set_option maxRecDepth 65536 in
set_option maxHeartbeats 40000000 in
theorem rmPo3 (l : Launch) (Z : State) (a0 : Array Value) (hw : ∀ d ∈ tables_1, d.before a0 Z = true) (ws : List Jvm.Cond) (a hp pp ky : Addr) (q : HP) (K : Int32 → UInt64) (bt : Int32 → Int32 → Bool) (f : Int32) (h0 : Heap) (n0 : Nat) (Zs : n0 ≤ h0.size) (hf : q.1 0 = f) (NQ : NH Z h0 a hp pp ky (3 : Int32) q K) (DD : Dis n0 a hp pp ky) (ii : I4 3 q) (hbb : HB 3 K bt q) :
    Con l (⟨"com/example/tributary/tributary/plan/NodeHeap", "poll", "()I"⟩ : MethodName) prog_39_method_4_code 2 (some .int) ws ({ frames := 2, cells := 0, slots := 0, locals := 48 } : Room) Z #[(.ref a)] h0 ({ frames := 2, cells := 0, slots := 0, locals := 48 } : Room).cells ({ frames := 2, cells := 0, slots := 0, locals := 48 } : Room).slots (Q_rmPo3 Z a hp pp ky q K bt f h0 n0) := by
  refine Con.of (Ls := #[.val (.ref a), .unset]) (plainFor_of_name (by first | (simp [plainName, overriddenIn]; done) | decide +kernel)) (fun m => by first | (simp [entryFrame, mkF, argsToLocals, Value.category]; done) | rfl) ?_
  intro p e s m below meth c s₁ G hGe hG hx hby hml hown hnm hrt hlk hZ X0 e0
  have hown : s.vm.findClass "com/example/tributary/tributary/plan/NodeHeap" = some m.cls := hown
  have hnm : meth.name = "poll" := hnm
  have NF0 := Fr.nil n0
  obtain ⟨Ex_a, F_heap_a, F_position_a, F_key_a, F_size_a, V_hp, V_pp, V_ky⟩ := NQ
  obtain ⟨ga, ghp, gpp, gky, d1, d2, d3, d4, d5, d6⟩ := DD
  have K0 := Keep.refl h0 [a, hp, pp, ky]
  refine g_aloadN hG X0 hx (hb hby d9_0) (pc' := 1) rfl rfl rfl ?_
  show G (s₁.setTop (mkF m 1 #[.val (.ref a), .unset] [(.ref a)]))
  refine g_getF hG X0 hx hZ hown (wd hw 15 rfl) Via.refl e0 F_heap_a (hb hby d9_1) (pc' := 4) rfl ?_
  intro T1 X1 e1
  show G (T1.setTop (mkF m 4 #[.val (.ref a), .unset] [(.ref hp)]))
  refine g_iconst hG X1 hx (hb hby d9_4) (pc' := 5) rfl (v := (0 : Int32)) rfl ?_
  show G (T1.setTop (mkF m 5 #[.val (.ref a), .unset] [(.int 0), (.ref hp)]))
  refine g_iaload hG X1 hx hZ e1 V_hp (j := (0 : Int32)) (v := (.int (q.1 (0 : Int32)))) (in4_nn in4_0) (in4_at in4_0 rfl) (hb hby d9_5) (pc' := 6) rfl ?_
  show G (T1.setTop (mkF m 6 #[.val (.ref a), .unset] [(.int (q.1 (0 : Int32)))]))
  refine g_istoreN hG X1 hx (hb hby d9_6) (pc' := 7) rfl (Ls' := #[.val (.ref a), .val (.int (q.1 (0 : Int32)))]) rfl ?_
  show G (T1.setTop (mkF m 7 #[.val (.ref a), .val (.int (q.1 (0 : Int32)))] []))
  refine g_aloadN hG X1 hx (hb hby d9_7) (pc' := 8) rfl rfl rfl ?_
  show G (T1.setTop (mkF m 8 #[.val (.ref a), .val (.int (q.1 (0 : Int32)))] [(.ref a)]))
  refine g_getF hG X1 hx hZ hown (wd hw 17 rfl) Via.refl e1 F_position_a (hb hby d9_8) (pc' := 11) rfl ?_
  intro T2 X2 e2
  show G (T2.setTop (mkF m 11 #[.val (.ref a), .val (.int (q.1 (0 : Int32)))] [(.ref pp)]))
  refine g_iloadN hG X2 hx (hb hby d9_11) (pc' := 12) rfl rfl ?_
  show G (T2.setTop (mkF m 12 #[.val (.ref a), .val (.int (q.1 (0 : Int32)))] [(.int (q.1 (0 : Int32))), (.ref pp)]))
  refine g_iconst hG X2 hx (hb hby d9_12) (pc' := 13) rfl (v := (-1 : Int32)) rfl ?_
  show G (T2.setTop (mkF m 13 #[.val (.ref a), .val (.int (q.1 (0 : Int32)))] [(.int (-1)), (.int (q.1 (0 : Int32))), (.ref pp)]))
  refine g_iastore hG X2 hx hZ e2 V_pp (j := (q.1 (0 : Int32))) (in4_nn (show In4 (q.1 (0 : Int32)) from ii 0 (by decide))) (in4_len (show In4 (q.1 (0 : Int32)) from ii 0 (by decide))) (hb hby d9_13) (pc' := 14) rfl ?_
  intro T3 h3 X3 e3 W3 Vn3
  rw [in4_set (show In4 (q.1 (0 : Int32)) from ii 0 (by decide))] at Vn3
  have V_pp : AV Z h3 pp .int (4 : Int32) (fn4 (upd q.2 (q.1 (0 : Int32)) (-1 : Int32))) := Vn3
  have Ex_a := Ex_a.wr W3
  have F_heap_a := F_heap_a.other W3 (Or.inl d2)
  have F_position_a := F_position_a.other W3 (Or.inl d2)
  have F_key_a := F_key_a.other W3 (Or.inl d2)
  have F_size_a := F_size_a.other W3 (Or.inl d2)
  have V_hp := V_hp.other W3 d4
  have V_ky := V_ky.other W3 (Ne.symm d6)
  have Zs := Nat.le_trans Zs (Wr.size W3)
  have NF3 := Fr.snoc X3 NF0 gpp
  have K3 := K0.wr W3 (Or.inl (List.mem_of_getElem? (i := 2) rfl))
  show G (T3.setTop (mkF m 14 #[.val (.ref a), .val (.int (q.1 (0 : Int32)))] []))
  refine g_aloadN hG X3 hx (hb hby d9_14) (pc' := 15) rfl rfl rfl ?_
  show G (T3.setTop (mkF m 15 #[.val (.ref a), .val (.int (q.1 (0 : Int32)))] [(.ref a)]))
  refine g_dup hG X3 hx (hb hby d9_15) (pc' := 16) rfl rfl ?_
  show G (T3.setTop (mkF m 16 #[.val (.ref a), .val (.int (q.1 (0 : Int32)))] [(.ref a), (.ref a)]))
  refine g_getF hG X3 hx hZ hown (wd hw 30 rfl) Via.refl e3 F_size_a (hb hby d9_16) (pc' := 19) rfl ?_
  intro T4 X4 e4
  show G (T4.setTop (mkF m 19 #[.val (.ref a), .val (.int (q.1 (0 : Int32)))] [(.int 3), (.ref a)]))
  refine g_iconst hG X4 hx (hb hby d9_19) (pc' := 20) rfl (v := (1 : Int32)) rfl ?_
  show G (T4.setTop (mkF m 20 #[.val (.ref a), .val (.int (q.1 (0 : Int32)))] [(.int 1), (.int 3), (.ref a)]))
  refine g_isub hG X4 hx (hb hby d9_20) (pc' := 21) rfl (v := (2 : Int32)) (by decide) ?_
  show G (T4.setTop (mkF m 21 #[.val (.ref a), .val (.int (q.1 (0 : Int32)))] [(.int 2), (.ref a)]))
  refine g_putF hG X4 hx hZ hown (wd hw 30 rfl) Via.refl e4 F_size_a Ex_a (Or.inl (wd hw 31 rfl)) (wd hw 6 rfl) (v' := (.int 2)) (ty := .int) (by decide) rfl rfl (hb hby d9_21) (pc' := 24) rfl ?_
  intro T5 h5 X5 e5 W5
  have Ex_a := Ex_a.wr W5
  have F_heap_a := F_heap_a.other W5 (Or.inr (slot_ne (Or.inr (wd hw 16 rfl)) (Or.inl (wd hw 31 rfl)) (by decide) (t := (.array .int)) (t' := .int) (by decide) (by decide)))
  have F_position_a := F_position_a.other W5 (Or.inr (slot_ne (Or.inr (wd hw 18 rfl)) (Or.inl (wd hw 31 rfl)) (by decide) (t := (.array .int)) (t' := .int) (by decide) (by decide)))
  have F_key_a := F_key_a.other W5 (Or.inr (slot_ne (Or.inr (wd hw 20 rfl)) (Or.inl (wd hw 31 rfl)) (by decide) (t := (.array .double)) (t' := .int) (by decide) (by decide)))
  have F_size_a := F_size_a.same W5
  have V_hp := V_hp.other W5 (Ne.symm d1)
  have V_pp := V_pp.other W5 (Ne.symm d2)
  have V_ky := V_ky.other W5 (Ne.symm d3)
  have Zs := Nat.le_trans Zs (Wr.size W5)
  have NF5 := Fr.snoc X5 NF3 ga
  have K5 := K3.wr W5 (Or.inl (List.mem_of_getElem? (i := 0) rfl))
  show G (T5.setTop (mkF m 24 #[.val (.ref a), .val (.int (q.1 (0 : Int32)))] []))
  refine g_aloadN hG X5 hx (hb hby d9_24) (pc' := 25) rfl rfl rfl ?_
  show G (T5.setTop (mkF m 25 #[.val (.ref a), .val (.int (q.1 (0 : Int32)))] [(.ref a)]))
  refine g_getF hG X5 hx hZ hown (wd hw 30 rfl) Via.refl e5 F_size_a (hb hby d9_25) (pc' := 28) rfl ?_
  intro T6 X6 e6
  show G (T6.setTop (mkF m 28 #[.val (.ref a), .val (.int (q.1 (0 : Int32)))] [(.int 2)]))
  refine g_ifNo hG X6 hx (hb hby d9_28) (pc' := 31) (by decide) rfl ?_
  show G (T6.setTop (mkF m 31 #[.val (.ref a), .val (.int (q.1 (0 : Int32)))] []))
  refine g_aloadN hG X6 hx (hb hby d9_31) (pc' := 32) rfl rfl rfl ?_
  show G (T6.setTop (mkF m 32 #[.val (.ref a), .val (.int (q.1 (0 : Int32)))] [(.ref a)]))
  refine g_getF hG X6 hx hZ hown (wd hw 15 rfl) Via.refl e6 F_heap_a (hb hby d9_32) (pc' := 35) rfl ?_
  intro T7 X7 e7
  show G (T7.setTop (mkF m 35 #[.val (.ref a), .val (.int (q.1 (0 : Int32)))] [(.ref hp)]))
  refine g_iconst hG X7 hx (hb hby d9_35) (pc' := 36) rfl (v := (0 : Int32)) rfl ?_
  show G (T7.setTop (mkF m 36 #[.val (.ref a), .val (.int (q.1 (0 : Int32)))] [(.int 0), (.ref hp)]))
  refine g_aloadN hG X7 hx (hb hby d9_36) (pc' := 37) rfl rfl rfl ?_
  show G (T7.setTop (mkF m 37 #[.val (.ref a), .val (.int (q.1 (0 : Int32)))] [(.ref a), (.int 0), (.ref hp)]))
  refine g_getF hG X7 hx hZ hown (wd hw 15 rfl) Via.refl e7 F_heap_a (hb hby d9_37) (pc' := 40) rfl ?_
  intro T8 X8 e8
  show G (T8.setTop (mkF m 40 #[.val (.ref a), .val (.int (q.1 (0 : Int32)))] [(.ref hp), (.int 0), (.ref hp)]))
  refine g_aloadN hG X8 hx (hb hby d9_40) (pc' := 41) rfl rfl rfl ?_
  show G (T8.setTop (mkF m 41 #[.val (.ref a), .val (.int (q.1 (0 : Int32)))] [(.ref a), (.ref hp), (.int 0), (.ref hp)]))
  refine g_getF hG X8 hx hZ hown (wd hw 30 rfl) Via.refl e8 F_size_a (hb hby d9_41) (pc' := 44) rfl ?_
  intro T9 X9 e9
  show G (T9.setTop (mkF m 44 #[.val (.ref a), .val (.int (q.1 (0 : Int32)))] [(.int 2), (.ref hp), (.int 0), (.ref hp)]))
  refine g_iaload hG X9 hx hZ e9 V_hp (j := (2 : Int32)) (v := (.int (q.1 (2 : Int32)))) (in4_nn in4_2) (in4_at in4_2 rfl) (hb hby d9_44) (pc' := 45) rfl ?_
  show G (T9.setTop (mkF m 45 #[.val (.ref a), .val (.int (q.1 (0 : Int32)))] [(.int (q.1 (2 : Int32))), (.int 0), (.ref hp)]))
  refine g_iastore hG X9 hx hZ e9 V_hp (j := (0 : Int32)) (in4_nn in4_0) (in4_len in4_0) (hb hby d9_45) (pc' := 46) rfl ?_
  intro T10 h10 X10 e10 W10 Vn10
  rw [in4_set in4_0] at Vn10
  have V_hp : AV Z h10 hp .int (4 : Int32) (fn4 (upd q.1 (0 : Int32) (q.1 (2 : Int32)))) := Vn10
  have Ex_a := Ex_a.wr W10
  have F_heap_a := F_heap_a.other W10 (Or.inl d1)
  have F_position_a := F_position_a.other W10 (Or.inl d1)
  have F_key_a := F_key_a.other W10 (Or.inl d1)
  have F_size_a := F_size_a.other W10 (Or.inl d1)
  have V_pp := V_pp.other W10 (Ne.symm d4)
  have V_ky := V_ky.other W10 (Ne.symm d5)
  have Zs := Nat.le_trans Zs (Wr.size W10)
  have NF10 := Fr.snoc X10 NF5 ghp
  have K10 := K5.wr W10 (Or.inl (List.mem_of_getElem? (i := 1) rfl))
  show G (T10.setTop (mkF m 46 #[.val (.ref a), .val (.int (q.1 (0 : Int32)))] []))
  refine g_aloadN hG X10 hx (hb hby d9_46) (pc' := 47) rfl rfl rfl ?_
  show G (T10.setTop (mkF m 47 #[.val (.ref a), .val (.int (q.1 (0 : Int32)))] [(.ref a)]))
  refine g_getF hG X10 hx hZ hown (wd hw 17 rfl) Via.refl e10 F_position_a (hb hby d9_47) (pc' := 50) rfl ?_
  intro T11 X11 e11
  show G (T11.setTop (mkF m 50 #[.val (.ref a), .val (.int (q.1 (0 : Int32)))] [(.ref pp)]))
  refine g_aloadN hG X11 hx (hb hby d9_50) (pc' := 51) rfl rfl rfl ?_
  show G (T11.setTop (mkF m 51 #[.val (.ref a), .val (.int (q.1 (0 : Int32)))] [(.ref a), (.ref pp)]))
  refine g_getF hG X11 hx hZ hown (wd hw 15 rfl) Via.refl e11 F_heap_a (hb hby d9_51) (pc' := 54) rfl ?_
  intro T12 X12 e12
  show G (T12.setTop (mkF m 54 #[.val (.ref a), .val (.int (q.1 (0 : Int32)))] [(.ref hp), (.ref pp)]))
  refine g_iconst hG X12 hx (hb hby d9_54) (pc' := 55) rfl (v := (0 : Int32)) rfl ?_
  show G (T12.setTop (mkF m 55 #[.val (.ref a), .val (.int (q.1 (0 : Int32)))] [(.int 0), (.ref hp), (.ref pp)]))
  refine g_iaload hG X12 hx hZ e12 V_hp (j := (0 : Int32)) (v := (.int (q.1 (2 : Int32)))) (in4_nn in4_0) (in4_at in4_0 rfl) (hb hby d9_55) (pc' := 56) rfl ?_
  show G (T12.setTop (mkF m 56 #[.val (.ref a), .val (.int (q.1 (0 : Int32)))] [(.int (q.1 (2 : Int32))), (.ref pp)]))
  refine g_iconst hG X12 hx (hb hby d9_56) (pc' := 57) rfl (v := (0 : Int32)) rfl ?_
  show G (T12.setTop (mkF m 57 #[.val (.ref a), .val (.int (q.1 (0 : Int32)))] [(.int 0), (.int (q.1 (2 : Int32))), (.ref pp)]))
  refine g_iastore hG X12 hx hZ e12 V_pp (j := (q.1 (2 : Int32))) (in4_nn (show In4 (q.1 (2 : Int32)) from ii 2 (by decide))) (in4_len (show In4 (q.1 (2 : Int32)) from ii 2 (by decide))) (hb hby d9_57) (pc' := 58) rfl ?_
  intro T13 h13 X13 e13 W13 Vn13
  rw [in4_set (show In4 (q.1 (2 : Int32)) from ii 2 (by decide))] at Vn13
  have V_pp : AV Z h13 pp .int (4 : Int32) (fn4 (upd (upd q.2 (q.1 (0 : Int32)) (-1 : Int32)) (q.1 (2 : Int32)) (0 : Int32))) := Vn13
  have Ex_a := Ex_a.wr W13
  have F_heap_a := F_heap_a.other W13 (Or.inl d2)
  have F_position_a := F_position_a.other W13 (Or.inl d2)
  have F_key_a := F_key_a.other W13 (Or.inl d2)
  have F_size_a := F_size_a.other W13 (Or.inl d2)
  have V_hp := V_hp.other W13 d4
  have V_ky := V_ky.other W13 (Ne.symm d6)
  have Zs := Nat.le_trans Zs (Wr.size W13)
  have NF13 := Fr.snoc X13 NF10 gpp
  have K13 := K10.wr W13 (Or.inl (List.mem_of_getElem? (i := 2) rfl))
  show G (T13.setTop (mkF m 58 #[.val (.ref a), .val (.int (q.1 (0 : Int32)))] []))
  refine g_aloadN hG X13 hx (hb hby d9_58) (pc' := 59) rfl rfl rfl ?_
  show G (T13.setTop (mkF m 59 #[.val (.ref a), .val (.int (q.1 (0 : Int32)))] [(.ref a)]))
  refine g_iconst hG X13 hx (hb hby d9_59) (pc' := 60) rfl (v := (0 : Int32)) rfl ?_
  show G (T13.setTop (mkF m 60 #[.val (.ref a), .val (.int (q.1 (0 : Int32)))] [(.int 0), (.ref a)]))
  have ii2 : I4 2 (ps3 q) := fun j hj => match j, hj with
        | 0, _ => ii 2 (by decide)
        | 1, _ => ii 1 (by decide)
  have hb2 : HB 2 K bt (ps3 q) := fun i j hi hj => match i, j, hi, hj with
        | 0, 0, _, _ => hbb 2 2 (by decide) (by decide)
        | 0, 1, _, _ => hbb 2 1 (by decide) (by decide)
        | 1, 0, _, _ => hbb 1 2 (by decide) (by decide)
        | 1, 1, _, _ => hbb 1 1 (by decide) (by decide)
  refine g_callP hG X13 hx hZ (y := (⟨"com/example/tributary/tributary/plan/NodeHeap", "sink", "(I)V"⟩ : MethodName)) 0 hown (wd hw 49 rfl) (wd hw 50 rfl) (wd hw 6 rfl) (wd hw 51 rfl) (wd hw 7 rfl) (wd hw 52 rfl) (by decide) (rmSk2 l Z a0 hw [] a hp pp ky (ps3 q) K bt h13 n0 Zs ⟨Ex_a, F_heap_a, F_position_a, F_key_a, F_size_a, V_hp, V_pp, V_ky⟩ ⟨ga, ghp, gpp, gky, d1, d2, d3, d4, d5, d6⟩ ii2 hb2) (by decide) (by decide) (by rw [hml]; rfl) pd_3 rfl (argsL := [(.int 0)]) (rest := []) rfl rfl (Nat.le_of_eq rfl) (hb hby d9_60) e13 Ex_a (by decide) (by decide) (pc' := 63) rfl ?_
  intro T14 rv14 L14 X14 hQ14
  obtain ⟨rfl, Nq14, Kq14, Ex_a, F_heap_a, F_position_a, F_key_a, F_size_a, V_hp, V_pp, V_ky⟩ := hQ14
  have NF14 := Fr.app NF13 Nq14
  have Zs := Nat.le_trans Zs Kq14.1
  have K14 := K13.trans Kq14 (allS (Or.inl (List.mem_of_getElem? (i := 0) rfl)) (allS (Or.inl (List.mem_of_getElem? (i := 1) rfl)) (allS (Or.inl (List.mem_of_getElem? (i := 2) rfl)) (allS (Or.inl (List.mem_of_getElem? (i := 3) rfl)) all0))))
  show G (T14.setTop (mkF m 63 #[.val (.ref a), .val (.int (q.1 (0 : Int32)))] []))
  refine g_iloadN hG X14 hx (hb hby d9_63) (pc' := 64) rfl rfl ?_
  show G (T14.setTop (mkF m 64 #[.val (.ref a), .val (.int (q.1 (0 : Int32)))] [(.int (q.1 (0 : Int32)))]))
  exact e_retI hGe X14 hx hrt hlk (hb hby d9_64) rfl (by decide) (by decide) (⟨by rw [hf], NF14, K14, Ex_a, F_heap_a, F_position_a, F_key_a, F_size_a, V_hp, V_pp, V_ky⟩)

def Q_rmPo4 (Z : State) (a hp pp ky : Addr) (q : HP) (K : Int32 → UInt64) (bt : Int32 → Int32 → Bool) (f : Int32) (h0 : Heap) (n0 : Nat) (v : Option Value) (h : Heap) (L : List Loc) : Prop := v = some (.int f) ∧ Fr n0 L ∧ Keep h0 h [a, hp, pp, ky] ∧ NH Z h a hp pp ky (3 : Int32) (po4 bt q) K
set_option maxRecDepth 65536 in
set_option maxHeartbeats 40000000 in
theorem rmPo4 (l : Launch) (Z : State) (a0 : Array Value) (hw : ∀ d ∈ tables_1, d.before a0 Z = true) (ws : List Jvm.Cond) (a hp pp ky : Addr) (q : HP) (K : Int32 → UInt64) (bt : Int32 → Int32 → Bool) (f : Int32) (h0 : Heap) (n0 : Nat) (Zs : n0 ≤ h0.size) (hf : q.1 0 = f) (NQ : NH Z h0 a hp pp ky (4 : Int32) q K) (DD : Dis n0 a hp pp ky) (ii : I4 4 q) (hbb : HB 4 K bt q) :
    Con l (⟨"com/example/tributary/tributary/plan/NodeHeap", "poll", "()I"⟩ : MethodName) prog_39_method_4_code 2 (some .int) ws ({ frames := 2, cells := 0, slots := 0, locals := 48 } : Room) Z #[(.ref a)] h0 ({ frames := 2, cells := 0, slots := 0, locals := 48 } : Room).cells ({ frames := 2, cells := 0, slots := 0, locals := 48 } : Room).slots (Q_rmPo4 Z a hp pp ky q K bt f h0 n0) := by
  refine Con.of (Ls := #[.val (.ref a), .unset]) (plainFor_of_name (by first | (simp [plainName, overriddenIn]; done) | decide +kernel)) (fun m => by first | (simp [entryFrame, mkF, argsToLocals, Value.category]; done) | rfl) ?_
  intro p e s m below meth c s₁ G hGe hG hx hby hml hown hnm hrt hlk hZ X0 e0
  have hown : s.vm.findClass "com/example/tributary/tributary/plan/NodeHeap" = some m.cls := hown
  have hnm : meth.name = "poll" := hnm
  have NF0 := Fr.nil n0
  obtain ⟨Ex_a, F_heap_a, F_position_a, F_key_a, F_size_a, V_hp, V_pp, V_ky⟩ := NQ
  obtain ⟨ga, ghp, gpp, gky, d1, d2, d3, d4, d5, d6⟩ := DD
  have K0 := Keep.refl h0 [a, hp, pp, ky]
  refine g_aloadN hG X0 hx (hb hby d9_0) (pc' := 1) rfl rfl rfl ?_
  show G (s₁.setTop (mkF m 1 #[.val (.ref a), .unset] [(.ref a)]))
  refine g_getF hG X0 hx hZ hown (wd hw 15 rfl) Via.refl e0 F_heap_a (hb hby d9_1) (pc' := 4) rfl ?_
  intro T1 X1 e1
  show G (T1.setTop (mkF m 4 #[.val (.ref a), .unset] [(.ref hp)]))
  refine g_iconst hG X1 hx (hb hby d9_4) (pc' := 5) rfl (v := (0 : Int32)) rfl ?_
  show G (T1.setTop (mkF m 5 #[.val (.ref a), .unset] [(.int 0), (.ref hp)]))
  refine g_iaload hG X1 hx hZ e1 V_hp (j := (0 : Int32)) (v := (.int (q.1 (0 : Int32)))) (in4_nn in4_0) (in4_at in4_0 rfl) (hb hby d9_5) (pc' := 6) rfl ?_
  show G (T1.setTop (mkF m 6 #[.val (.ref a), .unset] [(.int (q.1 (0 : Int32)))]))
  refine g_istoreN hG X1 hx (hb hby d9_6) (pc' := 7) rfl (Ls' := #[.val (.ref a), .val (.int (q.1 (0 : Int32)))]) rfl ?_
  show G (T1.setTop (mkF m 7 #[.val (.ref a), .val (.int (q.1 (0 : Int32)))] []))
  refine g_aloadN hG X1 hx (hb hby d9_7) (pc' := 8) rfl rfl rfl ?_
  show G (T1.setTop (mkF m 8 #[.val (.ref a), .val (.int (q.1 (0 : Int32)))] [(.ref a)]))
  refine g_getF hG X1 hx hZ hown (wd hw 17 rfl) Via.refl e1 F_position_a (hb hby d9_8) (pc' := 11) rfl ?_
  intro T2 X2 e2
  show G (T2.setTop (mkF m 11 #[.val (.ref a), .val (.int (q.1 (0 : Int32)))] [(.ref pp)]))
  refine g_iloadN hG X2 hx (hb hby d9_11) (pc' := 12) rfl rfl ?_
  show G (T2.setTop (mkF m 12 #[.val (.ref a), .val (.int (q.1 (0 : Int32)))] [(.int (q.1 (0 : Int32))), (.ref pp)]))
  refine g_iconst hG X2 hx (hb hby d9_12) (pc' := 13) rfl (v := (-1 : Int32)) rfl ?_
  show G (T2.setTop (mkF m 13 #[.val (.ref a), .val (.int (q.1 (0 : Int32)))] [(.int (-1)), (.int (q.1 (0 : Int32))), (.ref pp)]))
  refine g_iastore hG X2 hx hZ e2 V_pp (j := (q.1 (0 : Int32))) (in4_nn (show In4 (q.1 (0 : Int32)) from ii 0 (by decide))) (in4_len (show In4 (q.1 (0 : Int32)) from ii 0 (by decide))) (hb hby d9_13) (pc' := 14) rfl ?_
  intro T3 h3 X3 e3 W3 Vn3
  rw [in4_set (show In4 (q.1 (0 : Int32)) from ii 0 (by decide))] at Vn3
  have V_pp : AV Z h3 pp .int (4 : Int32) (fn4 (upd q.2 (q.1 (0 : Int32)) (-1 : Int32))) := Vn3
  have Ex_a := Ex_a.wr W3
  have F_heap_a := F_heap_a.other W3 (Or.inl d2)
  have F_position_a := F_position_a.other W3 (Or.inl d2)
  have F_key_a := F_key_a.other W3 (Or.inl d2)
  have F_size_a := F_size_a.other W3 (Or.inl d2)
  have V_hp := V_hp.other W3 d4
  have V_ky := V_ky.other W3 (Ne.symm d6)
  have Zs := Nat.le_trans Zs (Wr.size W3)
  have NF3 := Fr.snoc X3 NF0 gpp
  have K3 := K0.wr W3 (Or.inl (List.mem_of_getElem? (i := 2) rfl))
  show G (T3.setTop (mkF m 14 #[.val (.ref a), .val (.int (q.1 (0 : Int32)))] []))
  refine g_aloadN hG X3 hx (hb hby d9_14) (pc' := 15) rfl rfl rfl ?_
  show G (T3.setTop (mkF m 15 #[.val (.ref a), .val (.int (q.1 (0 : Int32)))] [(.ref a)]))
  refine g_dup hG X3 hx (hb hby d9_15) (pc' := 16) rfl rfl ?_
  show G (T3.setTop (mkF m 16 #[.val (.ref a), .val (.int (q.1 (0 : Int32)))] [(.ref a), (.ref a)]))
  refine g_getF hG X3 hx hZ hown (wd hw 30 rfl) Via.refl e3 F_size_a (hb hby d9_16) (pc' := 19) rfl ?_
  intro T4 X4 e4
  show G (T4.setTop (mkF m 19 #[.val (.ref a), .val (.int (q.1 (0 : Int32)))] [(.int 4), (.ref a)]))
  refine g_iconst hG X4 hx (hb hby d9_19) (pc' := 20) rfl (v := (1 : Int32)) rfl ?_
  show G (T4.setTop (mkF m 20 #[.val (.ref a), .val (.int (q.1 (0 : Int32)))] [(.int 1), (.int 4), (.ref a)]))
  refine g_isub hG X4 hx (hb hby d9_20) (pc' := 21) rfl (v := (3 : Int32)) (by decide) ?_
  show G (T4.setTop (mkF m 21 #[.val (.ref a), .val (.int (q.1 (0 : Int32)))] [(.int 3), (.ref a)]))
  refine g_putF hG X4 hx hZ hown (wd hw 30 rfl) Via.refl e4 F_size_a Ex_a (Or.inl (wd hw 31 rfl)) (wd hw 6 rfl) (v' := (.int 3)) (ty := .int) (by decide) rfl rfl (hb hby d9_21) (pc' := 24) rfl ?_
  intro T5 h5 X5 e5 W5
  have Ex_a := Ex_a.wr W5
  have F_heap_a := F_heap_a.other W5 (Or.inr (slot_ne (Or.inr (wd hw 16 rfl)) (Or.inl (wd hw 31 rfl)) (by decide) (t := (.array .int)) (t' := .int) (by decide) (by decide)))
  have F_position_a := F_position_a.other W5 (Or.inr (slot_ne (Or.inr (wd hw 18 rfl)) (Or.inl (wd hw 31 rfl)) (by decide) (t := (.array .int)) (t' := .int) (by decide) (by decide)))
  have F_key_a := F_key_a.other W5 (Or.inr (slot_ne (Or.inr (wd hw 20 rfl)) (Or.inl (wd hw 31 rfl)) (by decide) (t := (.array .double)) (t' := .int) (by decide) (by decide)))
  have F_size_a := F_size_a.same W5
  have V_hp := V_hp.other W5 (Ne.symm d1)
  have V_pp := V_pp.other W5 (Ne.symm d2)
  have V_ky := V_ky.other W5 (Ne.symm d3)
  have Zs := Nat.le_trans Zs (Wr.size W5)
  have NF5 := Fr.snoc X5 NF3 ga
  have K5 := K3.wr W5 (Or.inl (List.mem_of_getElem? (i := 0) rfl))
  show G (T5.setTop (mkF m 24 #[.val (.ref a), .val (.int (q.1 (0 : Int32)))] []))
  refine g_aloadN hG X5 hx (hb hby d9_24) (pc' := 25) rfl rfl rfl ?_
  show G (T5.setTop (mkF m 25 #[.val (.ref a), .val (.int (q.1 (0 : Int32)))] [(.ref a)]))
  refine g_getF hG X5 hx hZ hown (wd hw 30 rfl) Via.refl e5 F_size_a (hb hby d9_25) (pc' := 28) rfl ?_
  intro T6 X6 e6
  show G (T6.setTop (mkF m 28 #[.val (.ref a), .val (.int (q.1 (0 : Int32)))] [(.int 3)]))
  refine g_ifNo hG X6 hx (hb hby d9_28) (pc' := 31) (by decide) rfl ?_
  show G (T6.setTop (mkF m 31 #[.val (.ref a), .val (.int (q.1 (0 : Int32)))] []))
  refine g_aloadN hG X6 hx (hb hby d9_31) (pc' := 32) rfl rfl rfl ?_
  show G (T6.setTop (mkF m 32 #[.val (.ref a), .val (.int (q.1 (0 : Int32)))] [(.ref a)]))
  refine g_getF hG X6 hx hZ hown (wd hw 15 rfl) Via.refl e6 F_heap_a (hb hby d9_32) (pc' := 35) rfl ?_
  intro T7 X7 e7
  show G (T7.setTop (mkF m 35 #[.val (.ref a), .val (.int (q.1 (0 : Int32)))] [(.ref hp)]))
  refine g_iconst hG X7 hx (hb hby d9_35) (pc' := 36) rfl (v := (0 : Int32)) rfl ?_
  show G (T7.setTop (mkF m 36 #[.val (.ref a), .val (.int (q.1 (0 : Int32)))] [(.int 0), (.ref hp)]))
  refine g_aloadN hG X7 hx (hb hby d9_36) (pc' := 37) rfl rfl rfl ?_
  show G (T7.setTop (mkF m 37 #[.val (.ref a), .val (.int (q.1 (0 : Int32)))] [(.ref a), (.int 0), (.ref hp)]))
  refine g_getF hG X7 hx hZ hown (wd hw 15 rfl) Via.refl e7 F_heap_a (hb hby d9_37) (pc' := 40) rfl ?_
  intro T8 X8 e8
  show G (T8.setTop (mkF m 40 #[.val (.ref a), .val (.int (q.1 (0 : Int32)))] [(.ref hp), (.int 0), (.ref hp)]))
  refine g_aloadN hG X8 hx (hb hby d9_40) (pc' := 41) rfl rfl rfl ?_
  show G (T8.setTop (mkF m 41 #[.val (.ref a), .val (.int (q.1 (0 : Int32)))] [(.ref a), (.ref hp), (.int 0), (.ref hp)]))
  refine g_getF hG X8 hx hZ hown (wd hw 30 rfl) Via.refl e8 F_size_a (hb hby d9_41) (pc' := 44) rfl ?_
  intro T9 X9 e9
  show G (T9.setTop (mkF m 44 #[.val (.ref a), .val (.int (q.1 (0 : Int32)))] [(.int 3), (.ref hp), (.int 0), (.ref hp)]))
  refine g_iaload hG X9 hx hZ e9 V_hp (j := (3 : Int32)) (v := (.int (q.1 (3 : Int32)))) (in4_nn in4_3) (in4_at in4_3 rfl) (hb hby d9_44) (pc' := 45) rfl ?_
  show G (T9.setTop (mkF m 45 #[.val (.ref a), .val (.int (q.1 (0 : Int32)))] [(.int (q.1 (3 : Int32))), (.int 0), (.ref hp)]))
  refine g_iastore hG X9 hx hZ e9 V_hp (j := (0 : Int32)) (in4_nn in4_0) (in4_len in4_0) (hb hby d9_45) (pc' := 46) rfl ?_
  intro T10 h10 X10 e10 W10 Vn10
  rw [in4_set in4_0] at Vn10
  have V_hp : AV Z h10 hp .int (4 : Int32) (fn4 (upd q.1 (0 : Int32) (q.1 (3 : Int32)))) := Vn10
  have Ex_a := Ex_a.wr W10
  have F_heap_a := F_heap_a.other W10 (Or.inl d1)
  have F_position_a := F_position_a.other W10 (Or.inl d1)
  have F_key_a := F_key_a.other W10 (Or.inl d1)
  have F_size_a := F_size_a.other W10 (Or.inl d1)
  have V_pp := V_pp.other W10 (Ne.symm d4)
  have V_ky := V_ky.other W10 (Ne.symm d5)
  have Zs := Nat.le_trans Zs (Wr.size W10)
  have NF10 := Fr.snoc X10 NF5 ghp
  have K10 := K5.wr W10 (Or.inl (List.mem_of_getElem? (i := 1) rfl))
  show G (T10.setTop (mkF m 46 #[.val (.ref a), .val (.int (q.1 (0 : Int32)))] []))
  refine g_aloadN hG X10 hx (hb hby d9_46) (pc' := 47) rfl rfl rfl ?_
  show G (T10.setTop (mkF m 47 #[.val (.ref a), .val (.int (q.1 (0 : Int32)))] [(.ref a)]))
  refine g_getF hG X10 hx hZ hown (wd hw 17 rfl) Via.refl e10 F_position_a (hb hby d9_47) (pc' := 50) rfl ?_
  intro T11 X11 e11
  show G (T11.setTop (mkF m 50 #[.val (.ref a), .val (.int (q.1 (0 : Int32)))] [(.ref pp)]))
  refine g_aloadN hG X11 hx (hb hby d9_50) (pc' := 51) rfl rfl rfl ?_
  show G (T11.setTop (mkF m 51 #[.val (.ref a), .val (.int (q.1 (0 : Int32)))] [(.ref a), (.ref pp)]))
  refine g_getF hG X11 hx hZ hown (wd hw 15 rfl) Via.refl e11 F_heap_a (hb hby d9_51) (pc' := 54) rfl ?_
  intro T12 X12 e12
  show G (T12.setTop (mkF m 54 #[.val (.ref a), .val (.int (q.1 (0 : Int32)))] [(.ref hp), (.ref pp)]))
  refine g_iconst hG X12 hx (hb hby d9_54) (pc' := 55) rfl (v := (0 : Int32)) rfl ?_
  show G (T12.setTop (mkF m 55 #[.val (.ref a), .val (.int (q.1 (0 : Int32)))] [(.int 0), (.ref hp), (.ref pp)]))
  refine g_iaload hG X12 hx hZ e12 V_hp (j := (0 : Int32)) (v := (.int (q.1 (3 : Int32)))) (in4_nn in4_0) (in4_at in4_0 rfl) (hb hby d9_55) (pc' := 56) rfl ?_
  show G (T12.setTop (mkF m 56 #[.val (.ref a), .val (.int (q.1 (0 : Int32)))] [(.int (q.1 (3 : Int32))), (.ref pp)]))
  refine g_iconst hG X12 hx (hb hby d9_56) (pc' := 57) rfl (v := (0 : Int32)) rfl ?_
  show G (T12.setTop (mkF m 57 #[.val (.ref a), .val (.int (q.1 (0 : Int32)))] [(.int 0), (.int (q.1 (3 : Int32))), (.ref pp)]))
  refine g_iastore hG X12 hx hZ e12 V_pp (j := (q.1 (3 : Int32))) (in4_nn (show In4 (q.1 (3 : Int32)) from ii 3 (by decide))) (in4_len (show In4 (q.1 (3 : Int32)) from ii 3 (by decide))) (hb hby d9_57) (pc' := 58) rfl ?_
  intro T13 h13 X13 e13 W13 Vn13
  rw [in4_set (show In4 (q.1 (3 : Int32)) from ii 3 (by decide))] at Vn13
  have V_pp : AV Z h13 pp .int (4 : Int32) (fn4 (upd (upd q.2 (q.1 (0 : Int32)) (-1 : Int32)) (q.1 (3 : Int32)) (0 : Int32))) := Vn13
  have Ex_a := Ex_a.wr W13
  have F_heap_a := F_heap_a.other W13 (Or.inl d2)
  have F_position_a := F_position_a.other W13 (Or.inl d2)
  have F_key_a := F_key_a.other W13 (Or.inl d2)
  have F_size_a := F_size_a.other W13 (Or.inl d2)
  have V_hp := V_hp.other W13 d4
  have V_ky := V_ky.other W13 (Ne.symm d6)
  have Zs := Nat.le_trans Zs (Wr.size W13)
  have NF13 := Fr.snoc X13 NF10 gpp
  have K13 := K10.wr W13 (Or.inl (List.mem_of_getElem? (i := 2) rfl))
  show G (T13.setTop (mkF m 58 #[.val (.ref a), .val (.int (q.1 (0 : Int32)))] []))
  refine g_aloadN hG X13 hx (hb hby d9_58) (pc' := 59) rfl rfl rfl ?_
  show G (T13.setTop (mkF m 59 #[.val (.ref a), .val (.int (q.1 (0 : Int32)))] [(.ref a)]))
  refine g_iconst hG X13 hx (hb hby d9_59) (pc' := 60) rfl (v := (0 : Int32)) rfl ?_
  show G (T13.setTop (mkF m 60 #[.val (.ref a), .val (.int (q.1 (0 : Int32)))] [(.int 0), (.ref a)]))
  have ii2 : I4 3 (ps4 q) := fun j hj => match j, hj with
        | 0, _ => ii 3 (by decide)
        | 1, _ => ii 1 (by decide)
        | 2, _ => ii 2 (by decide)
  have hb2 : HB 3 K bt (ps4 q) := fun i j hi hj => match i, j, hi, hj with
        | 0, 0, _, _ => hbb 3 3 (by decide) (by decide)
        | 0, 1, _, _ => hbb 3 1 (by decide) (by decide)
        | 0, 2, _, _ => hbb 3 2 (by decide) (by decide)
        | 1, 0, _, _ => hbb 1 3 (by decide) (by decide)
        | 1, 1, _, _ => hbb 1 1 (by decide) (by decide)
        | 1, 2, _, _ => hbb 1 2 (by decide) (by decide)
        | 2, 0, _, _ => hbb 2 3 (by decide) (by decide)
        | 2, 1, _, _ => hbb 2 1 (by decide) (by decide)
        | 2, 2, _, _ => hbb 2 2 (by decide) (by decide)
  refine g_callP hG X13 hx hZ (y := (⟨"com/example/tributary/tributary/plan/NodeHeap", "sink", "(I)V"⟩ : MethodName)) 0 hown (wd hw 49 rfl) (wd hw 50 rfl) (wd hw 6 rfl) (wd hw 51 rfl) (wd hw 7 rfl) (wd hw 52 rfl) (by decide) (rmSk3 l Z a0 hw [] a hp pp ky (ps4 q) K bt h13 n0 Zs ⟨Ex_a, F_heap_a, F_position_a, F_key_a, F_size_a, V_hp, V_pp, V_ky⟩ ⟨ga, ghp, gpp, gky, d1, d2, d3, d4, d5, d6⟩ ii2 hb2) (by decide) (by decide) (by rw [hml]; rfl) pd_3 rfl (argsL := [(.int 0)]) (rest := []) rfl rfl (Nat.le_of_eq rfl) (hb hby d9_60) e13 Ex_a (by decide) (by decide) (pc' := 63) rfl ?_
  intro T14 rv14 L14 X14 hQ14
  obtain ⟨rfl, Nq14, Kq14, Ex_a, F_heap_a, F_position_a, F_key_a, F_size_a, V_hp, V_pp, V_ky⟩ := hQ14
  have NF14 := Fr.app NF13 Nq14
  have Zs := Nat.le_trans Zs Kq14.1
  have K14 := K13.trans Kq14 (allS (Or.inl (List.mem_of_getElem? (i := 0) rfl)) (allS (Or.inl (List.mem_of_getElem? (i := 1) rfl)) (allS (Or.inl (List.mem_of_getElem? (i := 2) rfl)) (allS (Or.inl (List.mem_of_getElem? (i := 3) rfl)) all0))))
  show G (T14.setTop (mkF m 63 #[.val (.ref a), .val (.int (q.1 (0 : Int32)))] []))
  refine g_iloadN hG X14 hx (hb hby d9_63) (pc' := 64) rfl rfl ?_
  show G (T14.setTop (mkF m 64 #[.val (.ref a), .val (.int (q.1 (0 : Int32)))] [(.int (q.1 (0 : Int32)))]))
  exact e_retI hGe X14 hx hrt hlk (hb hby d9_64) rfl (by decide) (by decide) (⟨by rw [hf], NF14, K14, Ex_a, F_heap_a, F_position_a, F_key_a, F_size_a, V_hp, V_pp, V_ky⟩)

def Q_rmId (Z : State) (r fl k z : Int32) (h0 : Heap) (n0 : Nat) (v : Option Value) (h : Heap) (L : List Loc) : Prop := v = some (.int z) ∧ Fr n0 L ∧ h = h0
set_option maxRecDepth 65536 in
set_option maxHeartbeats 40000000 in
theorem rmId (l : Launch) (Z : State) (a0 : Array Value) (hw : ∀ d ∈ tables_1, d.before a0 Z = true) (ws : List Jvm.Cond) (r fl k z : Int32) (h0 : Heap) (n0 : Nat) (Zs : n0 ≤ h0.size) (hz : nd r fl k = z) :
    Con l (⟨"com/example/tributary/tributary/plan/NodeHeapPollPinLaw", "id", "(IIZ)I"⟩ : MethodName) method_2_code 4 (some .int) ws ({ frames := 0, cells := 0, slots := 0, locals := 0 } : Room) Z #[(.int k), (.int r), (.int fl)] h0 ({ frames := 0, cells := 0, slots := 0, locals := 0 } : Room).cells ({ frames := 0, cells := 0, slots := 0, locals := 0 } : Room).slots (Q_rmId Z r fl k z h0 n0) := by
  refine Con.of (Ls := #[.val (.int k), .val (.int r), .val (.int fl), .unset]) (plainFor_of_name (by first | (simp [plainName, overriddenIn]; done) | decide +kernel)) (fun m => by first | (simp [entryFrame, mkF, argsToLocals, Value.category]; done) | rfl) ?_
  intro p e s m below meth c s₁ G hGe hG hx hby hml hown hnm hrt hlk hZ X0 e0
  have hown : s.vm.findClass "com/example/tributary/tributary/plan/NodeHeapPollPinLaw" = some m.cls := hown
  have hnm : meth.name = "id" := hnm
  have NF0 := Fr.nil n0
  refine g_iloadN hG X0 hx (hb hby d1_0) (pc' := 1) rfl rfl ?_
  show G (s₁.setTop (mkF m 1 #[.val (.int k), .val (.int r), .val (.int fl), .unset] [(.int k)]))
  refine g_iloadN hG X0 hx (hb hby d1_1) (pc' := 2) rfl rfl ?_
  show G (s₁.setTop (mkF m 2 #[.val (.int k), .val (.int r), .val (.int fl), .unset] [(.int r), (.int k)]))
  obtain ⟨v2, q2⟩ : ∃ zz : Int32, k + r = zz := ⟨_, rfl⟩
  refine g_iadd hG X0 hx (hb hby d1_2) (pc' := 3) rfl q2 ?_
  show G (s₁.setTop (mkF m 3 #[.val (.int k), .val (.int r), .val (.int fl), .unset] [(.int v2)]))
  refine g_iconst hG X0 hx (hb hby d1_3) (pc' := 4) rfl (v := (3 : Int32)) rfl ?_
  show G (s₁.setTop (mkF m 4 #[.val (.int k), .val (.int r), .val (.int fl), .unset] [(.int 3), (.int v2)]))
  obtain ⟨v4, q4⟩ : ∃ zz : Int32, v2 &&& (3 : Int32) = zz := ⟨_, rfl⟩
  refine g_iand hG X0 hx (hb hby d1_4) (pc' := 5) rfl q4 ?_
  show G (s₁.setTop (mkF m 5 #[.val (.int k), .val (.int r), .val (.int fl), .unset] [(.int v4)]))
  refine g_istoreN hG X0 hx (hb hby d1_5) (pc' := 6) rfl (Ls' := #[.val (.int k), .val (.int r), .val (.int fl), .val (.int v4)]) rfl ?_
  show G (s₁.setTop (mkF m 6 #[.val (.int k), .val (.int r), .val (.int fl), .val (.int v4)] []))
  refine g_iloadN hG X0 hx (hb hby d1_6) (pc' := 7) rfl rfl ?_
  show G (s₁.setTop (mkF m 7 #[.val (.int k), .val (.int r), .val (.int fl), .val (.int v4)] [(.int fl)]))
  by_cases hc7 : fl = (0 : Int32)
  · refine g_ifYes hG X0 hx (hb hby d1_7) (pc' := 14) ((if0 _ _).trans (teq hc7).1) (by decide) (by decide) ?_
    refine g_iloadN hG X0 hx (hb hby d1_14) (pc' := 15) rfl rfl ?_
    show G (s₁.setTop (mkF m 15 #[.val (.int k), .val (.int r), .val (.int fl), .val (.int v4)] [(.int v4)]))
    exact e_retI hGe X0 hx hrt hlk (hb hby d1_15) e0 (by decide) (by decide) (⟨by rw [← hz]; unfold nd; rw [if_pos hc7, q2, q4], NF0, rfl⟩)
  · refine g_ifNo hG X0 hx (hb hby d1_7) (pc' := 10) ((if0 _ _).trans (feq hc7).1) rfl ?_
    refine g_iconst hG X0 hx (hb hby d1_10) (pc' := 11) rfl (v := (3 : Int32)) rfl ?_
    show G (s₁.setTop (mkF m 11 #[.val (.int k), .val (.int r), .val (.int fl), .val (.int v4)] [(.int 3)]))
    refine g_iloadN hG X0 hx (hb hby d1_11) (pc' := 12) rfl rfl ?_
    show G (s₁.setTop (mkF m 12 #[.val (.int k), .val (.int r), .val (.int fl), .val (.int v4)] [(.int v4), (.int 3)]))
    obtain ⟨v12, q12⟩ : ∃ zz : Int32, (3 : Int32) - v4 = zz := ⟨_, rfl⟩
    refine g_isub hG X0 hx (hb hby d1_12) (pc' := 13) rfl q12 ?_
    show G (s₁.setTop (mkF m 13 #[.val (.int k), .val (.int r), .val (.int fl), .val (.int v4)] [(.int v12)]))
    exact e_retI hGe X0 hx hrt hlk (hb hby d1_13) e0 (by decide) (by decide) (⟨by rw [← hz]; unfold nd; rw [if_neg hc7, q2, q4, q12], NF0, rfl⟩)

def Q_rmIR (Z : State) (x : Int32) (h0 : Heap) (n0 : Nat) (v : Option Value) (h : Heap) (L : List Loc) : Prop := v = some (.int 1) ∧ Fr n0 L ∧ h = h0
set_option maxRecDepth 65536 in
set_option maxHeartbeats 40000000 in
theorem rmIR (l : Launch) (Z : State) (a0 : Array Value) (hw : ∀ d ∈ tables_1, d.before a0 Z = true) (ws : List Jvm.Cond) (x : Int32) (h0 : Heap) (n0 : Nat) (Zs : n0 ≤ h0.size) (ix : In4 x) :
    Con l (⟨"com/example/tributary/tributary/plan/NodeHeapPollPinLaw", "inRange", "(I)Z"⟩ : MethodName) method_4_code 1 (some .boolean) ws ({ frames := 0, cells := 0, slots := 0, locals := 0 } : Room) Z #[(.int x)] h0 ({ frames := 0, cells := 0, slots := 0, locals := 0 } : Room).cells ({ frames := 0, cells := 0, slots := 0, locals := 0 } : Room).slots (Q_rmIR Z x h0 n0) := by
  refine Con.of (Ls := #[.val (.int x)]) (plainFor_of_name (by first | (simp [plainName, overriddenIn]; done) | decide +kernel)) (fun m => by first | (simp [entryFrame, mkF, argsToLocals, Value.category]; done) | rfl) ?_
  intro p e s m below meth c s₁ G hGe hG hx hby hml hown hnm hrt hlk hZ X0 e0
  have hown : s.vm.findClass "com/example/tributary/tributary/plan/NodeHeapPollPinLaw" = some m.cls := hown
  have hnm : meth.name = "inRange" := hnm
  have NF0 := Fr.nil n0
  refine g_iloadN hG X0 hx (hb hby d12_0) (pc' := 1) rfl rfl ?_
  show G (s₁.setTop (mkF m 1 #[.val (.int x)] [(.int x)]))
  refine g_ifNo hG X0 hx (hb hby d12_1) (pc' := 4) ((if0 _ _).trans (flt (in4_nn ix)).1) rfl ?_
  show G (s₁.setTop (mkF m 4 #[.val (.int x)] []))
  refine g_iloadN hG X0 hx (hb hby d12_4) (pc' := 5) rfl rfl ?_
  show G (s₁.setTop (mkF m 5 #[.val (.int x)] [(.int x)]))
  refine g_iconst hG X0 hx (hb hby d12_5) (pc' := 6) rfl (v := (3 : Int32)) rfl ?_
  show G (s₁.setTop (mkF m 6 #[.val (.int x)] [(.int 3), (.int x)]))
  refine g_icmpNo hG X0 hx (hb hby d12_6) (pc' := 9) ((flt (in4_le3 ix)).2.2.1) rfl ?_
  show G (s₁.setTop (mkF m 9 #[.val (.int x)] []))
  refine g_iconst hG X0 hx (hb hby d12_9) (pc' := 10) rfl (v := (1 : Int32)) rfl ?_
  show G (s₁.setTop (mkF m 10 #[.val (.int x)] [(.int 1)]))
  refine g_goto hG X0 hx (hb hby d12_10) (pc' := 14) (by decide) (by decide) ?_
  show G (s₁.setTop (mkF m 14 #[.val (.int x)] [(.int 1)]))
  exact e_retZ hGe X0 hx hrt hlk (hb hby d12_14) (Or.inr rfl) e0 (by decide) (by decide) (⟨rfl, NF0, rfl⟩)

def Q_rmLB (Z : State) (ka : Addr) (kf : Int32 → UInt64) (x y r : Int32) (h0 : Heap) (n0 : Nat) (v : Option Value) (h : Heap) (L : List Loc) : Prop := v = some (.int r) ∧ Fr n0 L ∧ h = h0
set_option maxRecDepth 65536 in
set_option maxHeartbeats 40000000 in
theorem rmLB (l : Launch) (Z : State) (a0 : Array Value) (hw : ∀ d ∈ tables_1, d.before a0 Z = true) (ws : List Jvm.Cond) (ka : Addr) (kf : Int32 → UInt64) (x y r : Int32) (h0 : Heap) (n0 : Nat) (Zs : n0 ≤ h0.size) (V_ka : AV Z h0 ka .double (4 : Int32) (fd4 kf)) (ix : In4 x) (iy : In4 y) (hb : BfR kf x y r) :
    Con l (⟨"com/example/tributary/tributary/plan/NodeHeapPollPinLaw", "before", "(II[D)Z"⟩ : MethodName) method_3_code 3 (some .boolean) ws ({ frames := 0, cells := 0, slots := 0, locals := 0 } : Room) Z #[(.int x), (.int y), (.ref ka)] h0 ({ frames := 0, cells := 0, slots := 0, locals := 0 } : Room).cells ({ frames := 0, cells := 0, slots := 0, locals := 0 } : Room).slots (Q_rmLB Z ka kf x y r h0 n0) := by
  refine Con.of (Ls := #[.val (.int x), .val (.int y), .val (.ref ka)]) (plainFor_of_name (by first | (simp [plainName, overriddenIn]; done) | decide +kernel)) (fun m => by first | (simp [entryFrame, mkF, argsToLocals, Value.category]; done) | rfl) ?_
  intro p e s m below meth c s₁ G hGe hG hx hby hml hown hnm hrt hlk hZ X0 e0
  have hown : s.vm.findClass "com/example/tributary/tributary/plan/NodeHeapPollPinLaw" = some m.cls := hown
  have hnm : meth.name = "before" := hnm
  have NF0 := Fr.nil n0
  rcases hb with ⟨c1, hr⟩ | ⟨c1, c2, hr⟩ | ⟨c1, c2, hr⟩ | ⟨c1, hr⟩
  · skip
    refine g_aloadN hG X0 hx (hb hby d13_0) (pc' := 1) rfl rfl rfl ?_
    show G (s₁.setTop (mkF m 1 #[.val (.int x), .val (.int y), .val (.ref ka)] [(.ref ka)]))
    refine g_iloadN hG X0 hx (hb hby d13_1) (pc' := 2) rfl rfl ?_
    show G (s₁.setTop (mkF m 2 #[.val (.int x), .val (.int y), .val (.ref ka)] [(.int x), (.ref ka)]))
    refine g_daload hG X0 hx hZ e0 V_ka (j := x) (v := (.double (kf x))) (in4_nn ix) (in4_atd ix rfl) (hb hby d13_2) (pc' := 3) rfl ?_
    show G (s₁.setTop (mkF m 3 #[.val (.int x), .val (.int y), .val (.ref ka)] [(.double (kf x))]))
    refine g_aloadN hG X0 hx (hb hby d13_3) (pc' := 4) rfl rfl rfl ?_
    show G (s₁.setTop (mkF m 4 #[.val (.int x), .val (.int y), .val (.ref ka)] [(.ref ka), (.double (kf x))]))
    refine g_iloadN hG X0 hx (hb hby d13_4) (pc' := 5) rfl rfl ?_
    show G (s₁.setTop (mkF m 5 #[.val (.int x), .val (.int y), .val (.ref ka)] [(.int y), (.ref ka), (.double (kf x))]))
    refine g_daload hG X0 hx hZ e0 V_ka (j := y) (v := (.double (kf y))) (in4_nn iy) (in4_atd iy rfl) (hb hby d13_5) (pc' := 6) rfl ?_
    show G (s₁.setTop (mkF m 6 #[.val (.int x), .val (.int y), .val (.ref ka)] [(.double (kf y)), (.double (kf x))]))
    obtain ⟨v6, q6⟩ : ∃ zz : Int32, cmpValue (FP.dcmp (kf x) (kf y)) .g = zz := ⟨_, rfl⟩
    refine g_dcmp hG X0 hx (hb hby d13_6) (pc' := 7) rfl q6 ?_
    show G (s₁.setTop (mkF m 7 #[.val (.int x), .val (.int y), .val (.ref ka)] [(.int v6)]))
    refine g_ifYes hG X0 hx (hb hby d13_7) (pc' := 25) (by rw [← q6, c1]; rfl) (by decide) (by decide) ?_
    show G (s₁.setTop (mkF m 25 #[.val (.int x), .val (.int y), .val (.ref ka)] []))
    refine g_iconst hG X0 hx (hb hby d13_25) (pc' := 26) rfl (v := (1 : Int32)) rfl ?_
    show G (s₁.setTop (mkF m 26 #[.val (.int x), .val (.int y), .val (.ref ka)] [(.int 1)]))
    refine g_goto hG X0 hx (hb hby d13_26) (pc' := 30) (by decide) (by decide) ?_
    show G (s₁.setTop (mkF m 30 #[.val (.int x), .val (.int y), .val (.ref ka)] [(.int 1)]))
    exact e_retZ hGe X0 hx hrt hlk (hb hby d13_30) (Or.inr rfl) e0 (by decide) (by decide) (⟨by rw [hr], NF0, rfl⟩)
  · skip
    refine g_aloadN hG X0 hx (hb hby d13_0) (pc' := 1) rfl rfl rfl ?_
    show G (s₁.setTop (mkF m 1 #[.val (.int x), .val (.int y), .val (.ref ka)] [(.ref ka)]))
    refine g_iloadN hG X0 hx (hb hby d13_1) (pc' := 2) rfl rfl ?_
    show G (s₁.setTop (mkF m 2 #[.val (.int x), .val (.int y), .val (.ref ka)] [(.int x), (.ref ka)]))
    refine g_daload hG X0 hx hZ e0 V_ka (j := x) (v := (.double (kf x))) (in4_nn ix) (in4_atd ix rfl) (hb hby d13_2) (pc' := 3) rfl ?_
    show G (s₁.setTop (mkF m 3 #[.val (.int x), .val (.int y), .val (.ref ka)] [(.double (kf x))]))
    refine g_aloadN hG X0 hx (hb hby d13_3) (pc' := 4) rfl rfl rfl ?_
    show G (s₁.setTop (mkF m 4 #[.val (.int x), .val (.int y), .val (.ref ka)] [(.ref ka), (.double (kf x))]))
    refine g_iloadN hG X0 hx (hb hby d13_4) (pc' := 5) rfl rfl ?_
    show G (s₁.setTop (mkF m 5 #[.val (.int x), .val (.int y), .val (.ref ka)] [(.int y), (.ref ka), (.double (kf x))]))
    refine g_daload hG X0 hx hZ e0 V_ka (j := y) (v := (.double (kf y))) (in4_nn iy) (in4_atd iy rfl) (hb hby d13_5) (pc' := 6) rfl ?_
    show G (s₁.setTop (mkF m 6 #[.val (.int x), .val (.int y), .val (.ref ka)] [(.double (kf y)), (.double (kf x))]))
    obtain ⟨v6, q6⟩ : ∃ zz : Int32, cmpValue (FP.dcmp (kf x) (kf y)) .g = zz := ⟨_, rfl⟩
    refine g_dcmp hG X0 hx (hb hby d13_6) (pc' := 7) rfl q6 ?_
    show G (s₁.setTop (mkF m 7 #[.val (.int x), .val (.int y), .val (.ref ka)] [(.int v6)]))
    refine g_ifNo hG X0 hx (hb hby d13_7) (pc' := 10) (by rw [← q6, c1]; rfl) rfl ?_
    show G (s₁.setTop (mkF m 10 #[.val (.int x), .val (.int y), .val (.ref ka)] []))
    refine g_aloadN hG X0 hx (hb hby d13_10) (pc' := 11) rfl rfl rfl ?_
    show G (s₁.setTop (mkF m 11 #[.val (.int x), .val (.int y), .val (.ref ka)] [(.ref ka)]))
    refine g_iloadN hG X0 hx (hb hby d13_11) (pc' := 12) rfl rfl ?_
    show G (s₁.setTop (mkF m 12 #[.val (.int x), .val (.int y), .val (.ref ka)] [(.int x), (.ref ka)]))
    refine g_daload hG X0 hx hZ e0 V_ka (j := x) (v := (.double (kf x))) (in4_nn ix) (in4_atd ix rfl) (hb hby d13_12) (pc' := 13) rfl ?_
    show G (s₁.setTop (mkF m 13 #[.val (.int x), .val (.int y), .val (.ref ka)] [(.double (kf x))]))
    refine g_aloadN hG X0 hx (hb hby d13_13) (pc' := 14) rfl rfl rfl ?_
    show G (s₁.setTop (mkF m 14 #[.val (.int x), .val (.int y), .val (.ref ka)] [(.ref ka), (.double (kf x))]))
    refine g_iloadN hG X0 hx (hb hby d13_14) (pc' := 15) rfl rfl ?_
    show G (s₁.setTop (mkF m 15 #[.val (.int x), .val (.int y), .val (.ref ka)] [(.int y), (.ref ka), (.double (kf x))]))
    refine g_daload hG X0 hx hZ e0 V_ka (j := y) (v := (.double (kf y))) (in4_nn iy) (in4_atd iy rfl) (hb hby d13_15) (pc' := 16) rfl ?_
    show G (s₁.setTop (mkF m 16 #[.val (.int x), .val (.int y), .val (.ref ka)] [(.double (kf y)), (.double (kf x))]))
    obtain ⟨v16, q16⟩ : ∃ zz : Int32, cmpValue (FP.dcmp (kf x) (kf y)) .l = zz := ⟨_, rfl⟩
    refine g_dcmp hG X0 hx (hb hby d13_16) (pc' := 17) rfl q16 ?_
    show G (s₁.setTop (mkF m 17 #[.val (.int x), .val (.int y), .val (.ref ka)] [(.int v16)]))
    refine g_ifNo hG X0 hx (hb hby d13_17) (pc' := 20) (by rw [← q16, c1]; rfl) rfl ?_
    show G (s₁.setTop (mkF m 20 #[.val (.int x), .val (.int y), .val (.ref ka)] []))
    refine g_iloadN hG X0 hx (hb hby d13_20) (pc' := 21) rfl rfl ?_
    show G (s₁.setTop (mkF m 21 #[.val (.int x), .val (.int y), .val (.ref ka)] [(.int x)]))
    refine g_iloadN hG X0 hx (hb hby d13_21) (pc' := 22) rfl rfl ?_
    show G (s₁.setTop (mkF m 22 #[.val (.int x), .val (.int y), .val (.ref ka)] [(.int y), (.int x)]))
    refine g_icmpNo hG X0 hx (hb hby d13_22) (pc' := 25) ((tlt c2).2.1) rfl ?_
    show G (s₁.setTop (mkF m 25 #[.val (.int x), .val (.int y), .val (.ref ka)] []))
    refine g_iconst hG X0 hx (hb hby d13_25) (pc' := 26) rfl (v := (1 : Int32)) rfl ?_
    show G (s₁.setTop (mkF m 26 #[.val (.int x), .val (.int y), .val (.ref ka)] [(.int 1)]))
    refine g_goto hG X0 hx (hb hby d13_26) (pc' := 30) (by decide) (by decide) ?_
    show G (s₁.setTop (mkF m 30 #[.val (.int x), .val (.int y), .val (.ref ka)] [(.int 1)]))
    exact e_retZ hGe X0 hx hrt hlk (hb hby d13_30) (Or.inr rfl) e0 (by decide) (by decide) (⟨by rw [hr], NF0, rfl⟩)
  · skip
    refine g_aloadN hG X0 hx (hb hby d13_0) (pc' := 1) rfl rfl rfl ?_
    show G (s₁.setTop (mkF m 1 #[.val (.int x), .val (.int y), .val (.ref ka)] [(.ref ka)]))
    refine g_iloadN hG X0 hx (hb hby d13_1) (pc' := 2) rfl rfl ?_
    show G (s₁.setTop (mkF m 2 #[.val (.int x), .val (.int y), .val (.ref ka)] [(.int x), (.ref ka)]))
    refine g_daload hG X0 hx hZ e0 V_ka (j := x) (v := (.double (kf x))) (in4_nn ix) (in4_atd ix rfl) (hb hby d13_2) (pc' := 3) rfl ?_
    show G (s₁.setTop (mkF m 3 #[.val (.int x), .val (.int y), .val (.ref ka)] [(.double (kf x))]))
    refine g_aloadN hG X0 hx (hb hby d13_3) (pc' := 4) rfl rfl rfl ?_
    show G (s₁.setTop (mkF m 4 #[.val (.int x), .val (.int y), .val (.ref ka)] [(.ref ka), (.double (kf x))]))
    refine g_iloadN hG X0 hx (hb hby d13_4) (pc' := 5) rfl rfl ?_
    show G (s₁.setTop (mkF m 5 #[.val (.int x), .val (.int y), .val (.ref ka)] [(.int y), (.ref ka), (.double (kf x))]))
    refine g_daload hG X0 hx hZ e0 V_ka (j := y) (v := (.double (kf y))) (in4_nn iy) (in4_atd iy rfl) (hb hby d13_5) (pc' := 6) rfl ?_
    show G (s₁.setTop (mkF m 6 #[.val (.int x), .val (.int y), .val (.ref ka)] [(.double (kf y)), (.double (kf x))]))
    obtain ⟨v6, q6⟩ : ∃ zz : Int32, cmpValue (FP.dcmp (kf x) (kf y)) .g = zz := ⟨_, rfl⟩
    refine g_dcmp hG X0 hx (hb hby d13_6) (pc' := 7) rfl q6 ?_
    show G (s₁.setTop (mkF m 7 #[.val (.int x), .val (.int y), .val (.ref ka)] [(.int v6)]))
    refine g_ifNo hG X0 hx (hb hby d13_7) (pc' := 10) (by rw [← q6, c1]; rfl) rfl ?_
    show G (s₁.setTop (mkF m 10 #[.val (.int x), .val (.int y), .val (.ref ka)] []))
    refine g_aloadN hG X0 hx (hb hby d13_10) (pc' := 11) rfl rfl rfl ?_
    show G (s₁.setTop (mkF m 11 #[.val (.int x), .val (.int y), .val (.ref ka)] [(.ref ka)]))
    refine g_iloadN hG X0 hx (hb hby d13_11) (pc' := 12) rfl rfl ?_
    show G (s₁.setTop (mkF m 12 #[.val (.int x), .val (.int y), .val (.ref ka)] [(.int x), (.ref ka)]))
    refine g_daload hG X0 hx hZ e0 V_ka (j := x) (v := (.double (kf x))) (in4_nn ix) (in4_atd ix rfl) (hb hby d13_12) (pc' := 13) rfl ?_
    show G (s₁.setTop (mkF m 13 #[.val (.int x), .val (.int y), .val (.ref ka)] [(.double (kf x))]))
    refine g_aloadN hG X0 hx (hb hby d13_13) (pc' := 14) rfl rfl rfl ?_
    show G (s₁.setTop (mkF m 14 #[.val (.int x), .val (.int y), .val (.ref ka)] [(.ref ka), (.double (kf x))]))
    refine g_iloadN hG X0 hx (hb hby d13_14) (pc' := 15) rfl rfl ?_
    show G (s₁.setTop (mkF m 15 #[.val (.int x), .val (.int y), .val (.ref ka)] [(.int y), (.ref ka), (.double (kf x))]))
    refine g_daload hG X0 hx hZ e0 V_ka (j := y) (v := (.double (kf y))) (in4_nn iy) (in4_atd iy rfl) (hb hby d13_15) (pc' := 16) rfl ?_
    show G (s₁.setTop (mkF m 16 #[.val (.int x), .val (.int y), .val (.ref ka)] [(.double (kf y)), (.double (kf x))]))
    obtain ⟨v16, q16⟩ : ∃ zz : Int32, cmpValue (FP.dcmp (kf x) (kf y)) .l = zz := ⟨_, rfl⟩
    refine g_dcmp hG X0 hx (hb hby d13_16) (pc' := 17) rfl q16 ?_
    show G (s₁.setTop (mkF m 17 #[.val (.int x), .val (.int y), .val (.ref ka)] [(.int v16)]))
    refine g_ifNo hG X0 hx (hb hby d13_17) (pc' := 20) (by rw [← q16, c1]; rfl) rfl ?_
    show G (s₁.setTop (mkF m 20 #[.val (.int x), .val (.int y), .val (.ref ka)] []))
    refine g_iloadN hG X0 hx (hb hby d13_20) (pc' := 21) rfl rfl ?_
    show G (s₁.setTop (mkF m 21 #[.val (.int x), .val (.int y), .val (.ref ka)] [(.int x)]))
    refine g_iloadN hG X0 hx (hb hby d13_21) (pc' := 22) rfl rfl ?_
    show G (s₁.setTop (mkF m 22 #[.val (.int x), .val (.int y), .val (.ref ka)] [(.int y), (.int x)]))
    refine g_icmpYes hG X0 hx (hb hby d13_22) (pc' := 29) ((flt c2).2.1) (by decide) (by decide) ?_
    show G (s₁.setTop (mkF m 29 #[.val (.int x), .val (.int y), .val (.ref ka)] []))
    refine g_iconst hG X0 hx (hb hby d13_29) (pc' := 30) rfl (v := (0 : Int32)) rfl ?_
    show G (s₁.setTop (mkF m 30 #[.val (.int x), .val (.int y), .val (.ref ka)] [(.int 0)]))
    exact e_retZ hGe X0 hx hrt hlk (hb hby d13_30) (Or.inl rfl) e0 (by decide) (by decide) (⟨by rw [hr], NF0, rfl⟩)
  · skip
    refine g_aloadN hG X0 hx (hb hby d13_0) (pc' := 1) rfl rfl rfl ?_
    show G (s₁.setTop (mkF m 1 #[.val (.int x), .val (.int y), .val (.ref ka)] [(.ref ka)]))
    refine g_iloadN hG X0 hx (hb hby d13_1) (pc' := 2) rfl rfl ?_
    show G (s₁.setTop (mkF m 2 #[.val (.int x), .val (.int y), .val (.ref ka)] [(.int x), (.ref ka)]))
    refine g_daload hG X0 hx hZ e0 V_ka (j := x) (v := (.double (kf x))) (in4_nn ix) (in4_atd ix rfl) (hb hby d13_2) (pc' := 3) rfl ?_
    show G (s₁.setTop (mkF m 3 #[.val (.int x), .val (.int y), .val (.ref ka)] [(.double (kf x))]))
    refine g_aloadN hG X0 hx (hb hby d13_3) (pc' := 4) rfl rfl rfl ?_
    show G (s₁.setTop (mkF m 4 #[.val (.int x), .val (.int y), .val (.ref ka)] [(.ref ka), (.double (kf x))]))
    refine g_iloadN hG X0 hx (hb hby d13_4) (pc' := 5) rfl rfl ?_
    show G (s₁.setTop (mkF m 5 #[.val (.int x), .val (.int y), .val (.ref ka)] [(.int y), (.ref ka), (.double (kf x))]))
    refine g_daload hG X0 hx hZ e0 V_ka (j := y) (v := (.double (kf y))) (in4_nn iy) (in4_atd iy rfl) (hb hby d13_5) (pc' := 6) rfl ?_
    show G (s₁.setTop (mkF m 6 #[.val (.int x), .val (.int y), .val (.ref ka)] [(.double (kf y)), (.double (kf x))]))
    obtain ⟨v6, q6⟩ : ∃ zz : Int32, cmpValue (FP.dcmp (kf x) (kf y)) .g = zz := ⟨_, rfl⟩
    refine g_dcmp hG X0 hx (hb hby d13_6) (pc' := 7) rfl q6 ?_
    show G (s₁.setTop (mkF m 7 #[.val (.int x), .val (.int y), .val (.ref ka)] [(.int v6)]))
    refine g_ifNo hG X0 hx (hb hby d13_7) (pc' := 10) (by rw [← q6, c1]; rfl) rfl ?_
    show G (s₁.setTop (mkF m 10 #[.val (.int x), .val (.int y), .val (.ref ka)] []))
    refine g_aloadN hG X0 hx (hb hby d13_10) (pc' := 11) rfl rfl rfl ?_
    show G (s₁.setTop (mkF m 11 #[.val (.int x), .val (.int y), .val (.ref ka)] [(.ref ka)]))
    refine g_iloadN hG X0 hx (hb hby d13_11) (pc' := 12) rfl rfl ?_
    show G (s₁.setTop (mkF m 12 #[.val (.int x), .val (.int y), .val (.ref ka)] [(.int x), (.ref ka)]))
    refine g_daload hG X0 hx hZ e0 V_ka (j := x) (v := (.double (kf x))) (in4_nn ix) (in4_atd ix rfl) (hb hby d13_12) (pc' := 13) rfl ?_
    show G (s₁.setTop (mkF m 13 #[.val (.int x), .val (.int y), .val (.ref ka)] [(.double (kf x))]))
    refine g_aloadN hG X0 hx (hb hby d13_13) (pc' := 14) rfl rfl rfl ?_
    show G (s₁.setTop (mkF m 14 #[.val (.int x), .val (.int y), .val (.ref ka)] [(.ref ka), (.double (kf x))]))
    refine g_iloadN hG X0 hx (hb hby d13_14) (pc' := 15) rfl rfl ?_
    show G (s₁.setTop (mkF m 15 #[.val (.int x), .val (.int y), .val (.ref ka)] [(.int y), (.ref ka), (.double (kf x))]))
    refine g_daload hG X0 hx hZ e0 V_ka (j := y) (v := (.double (kf y))) (in4_nn iy) (in4_atd iy rfl) (hb hby d13_15) (pc' := 16) rfl ?_
    show G (s₁.setTop (mkF m 16 #[.val (.int x), .val (.int y), .val (.ref ka)] [(.double (kf y)), (.double (kf x))]))
    obtain ⟨v16, q16⟩ : ∃ zz : Int32, cmpValue (FP.dcmp (kf x) (kf y)) .l = zz := ⟨_, rfl⟩
    refine g_dcmp hG X0 hx (hb hby d13_16) (pc' := 17) rfl q16 ?_
    show G (s₁.setTop (mkF m 17 #[.val (.int x), .val (.int y), .val (.ref ka)] [(.int v16)]))
    refine g_ifYes hG X0 hx (hb hby d13_17) (pc' := 29) (by rw [← q16, c1]; rfl) (by decide) (by decide) ?_
    show G (s₁.setTop (mkF m 29 #[.val (.int x), .val (.int y), .val (.ref ka)] []))
    refine g_iconst hG X0 hx (hb hby d13_29) (pc' := 30) rfl (v := (0 : Int32)) rfl ?_
    show G (s₁.setTop (mkF m 30 #[.val (.int x), .val (.int y), .val (.ref ka)] [(.int 0)]))
    exact e_retZ hGe X0 hx hrt hlk (hb hby d13_30) (Or.inl rfl) e0 (by decide) (by decide) (⟨by rw [hr], NF0, rfl⟩)

def Q_rm0 (Z : State) (i0 i1 i2 i3 i4 : Int32) (h0 : Heap) (n0 : Nat) (v : Option Value) (h : Heap) (L : List Loc) : Prop := v = some (.int 1) ∧ Fr n0 L
set_option maxRecDepth 65536 in
set_option maxHeartbeats 40000000 in
theorem rm0 (l : Launch) (Z : State) (a0 : Array Value) (hw : ∀ d ∈ tables_1, d.before a0 Z = true) (ws : List Jvm.Cond) (i0 i1 i2 i3 i4 : Int32) (h0 : Heap) (n0 : Nat) (Zs : n0 ≤ h0.size)  :
    Con l x code maxLocals ret ws room_1 Z #[(.int i0), (.int i1), (.int i2), (.int i3), (.int i4)] h0 room_1.cells room_1.slots (Q_rm0 Z i0 i1 i2 i3 i4 h0 n0) := by
  refine Con.of (Ls := #[.val (.int i0), .val (.int i1), .val (.int i2), .val (.int i3), .val (.int i4), .unset, .unset, .unset, .unset, .unset, .unset, .unset, .unset, .unset, .unset, .unset, .unset, .unset, .unset]) (plainFor_of_name (by first | (simp [plainName, overriddenIn]; done) | decide +kernel)) (fun m => by first | (simp [entryFrame, mkF, argsToLocals, Value.category, maxLocals]; done) | rfl) ?_
  intro p e s m below meth c s₁ G hGe hG hx hby hml hown hnm hrt hlk hZ X0 e0
  have hml : c.maxLocals = 19 := hml
  have hown : s.vm.findClass "com/example/tributary/tributary/plan/NodeHeapPollPinLaw" = some m.cls := hown
  have hnm : meth.name = "law" := hnm
  have NF0 := Fr.nil n0
  refine g_iconst hG X0 hx (hb hby at_0) (pc' := 1) rfl (v := (4 : Int32)) rfl ?_
  show G (s₁.setTop (mkF m 1 #[.val (.int i0), .val (.int i1), .val (.int i2), .val (.int i3), .val (.int i4), .unset, .unset, .unset, .unset, .unset, .unset, .unset, .unset, .unset, .unset, .unset, .unset, .unset, .unset] [(.int 4)]))
  refine g_newP hG X0 hx hZ (wd hw 0 rfl) e0 (hb hby at_1) (by decide) 4 (by decide) (by decide) (by decide) (by decide) (pc' := 3) rfl ?_
  intro T1 h1 ka kA1 gs1 X1 e1 E1 A1
  have ge_ka : n0 ≤ ka := gs1 ▸ Zs
  have Zs := Nat.le_trans Zs E1.1
  have V_ka : AV Z h1 ka .double (4 : Int32) [(.double 0), (.double 0), (.double 0), (.double 0)] := AV.new A1
  show G (T1.setTop (mkF m 3 #[.val (.int i0), .val (.int i1), .val (.int i2), .val (.int i3), .val (.int i4), .unset, .unset, .unset, .unset, .unset, .unset, .unset, .unset, .unset, .unset, .unset, .unset, .unset, .unset] [(.ref ka)]))
  refine g_astore hG X1 hx (hb hby at_3) (pc' := 5) rfl rfl (Ls' := #[.val (.int i0), .val (.int i1), .val (.int i2), .val (.int i3), .val (.int i4), .val (.ref ka), .unset, .unset, .unset, .unset, .unset, .unset, .unset, .unset, .unset, .unset, .unset, .unset, .unset]) rfl ?_
  show G (T1.setTop (mkF m 5 #[.val (.int i0), .val (.int i1), .val (.int i2), .val (.int i3), .val (.int i4), .val (.ref ka), .unset, .unset, .unset, .unset, .unset, .unset, .unset, .unset, .unset, .unset, .unset, .unset, .unset] []))
  refine g_aload hG X1 hx (hb hby at_5) (pc' := 7) rfl rfl rfl ?_
  show G (T1.setTop (mkF m 7 #[.val (.int i0), .val (.int i1), .val (.int i2), .val (.int i3), .val (.int i4), .val (.ref ka), .unset, .unset, .unset, .unset, .unset, .unset, .unset, .unset, .unset, .unset, .unset, .unset, .unset] [(.ref ka)]))
  refine g_iconst hG X1 hx (hb hby at_7) (pc' := 8) rfl (v := (0 : Int32)) rfl ?_
  show G (T1.setTop (mkF m 8 #[.val (.int i0), .val (.int i1), .val (.int i2), .val (.int i3), .val (.int i4), .val (.ref ka), .unset, .unset, .unset, .unset, .unset, .unset, .unset, .unset, .unset, .unset, .unset, .unset, .unset] [(.int 0), (.ref ka)]))
  refine g_iloadN hG X1 hx (hb hby at_8) (pc' := 9) rfl rfl ?_
  show G (T1.setTop (mkF m 9 #[.val (.int i0), .val (.int i1), .val (.int i2), .val (.int i3), .val (.int i4), .val (.ref ka), .unset, .unset, .unset, .unset, .unset, .unset, .unset, .unset, .unset, .unset, .unset, .unset, .unset] [(.int i0), (.int 0), (.ref ka)]))
  obtain ⟨v9, q9⟩ : ∃ zz : UInt64, FP.i2d i0 = zz := ⟨_, rfl⟩
  refine g_i2d hG X1 hx (hb hby at_9) (pc' := 10) rfl q9 ?_
  show G (T1.setTop (mkF m 10 #[.val (.int i0), .val (.int i1), .val (.int i2), .val (.int i3), .val (.int i4), .val (.ref ka), .unset, .unset, .unset, .unset, .unset, .unset, .unset, .unset, .unset, .unset, .unset, .unset, .unset] [(.double v9), (.int 0), (.ref ka)]))
  refine g_dastore hG X1 hx hZ e1 V_ka (j := (0 : Int32)) (by decide) (show Int32.toNatClampNeg (0 : Int32) < 4 by decide) (hb hby at_10) (pc' := 11) rfl ?_
  intro T2 h2 X2 e2 W2 Vn2
  have V_ka : AV Z h2 ka .double (4 : Int32) [(.double v9), (.double 0), (.double 0), (.double 0)] := Vn2
  have Zs := Nat.le_trans Zs (Wr.size W2)
  have NF2 := Fr.snoc X2 NF0 ge_ka
  show G (T2.setTop (mkF m 11 #[.val (.int i0), .val (.int i1), .val (.int i2), .val (.int i3), .val (.int i4), .val (.ref ka), .unset, .unset, .unset, .unset, .unset, .unset, .unset, .unset, .unset, .unset, .unset, .unset, .unset] []))
  refine g_aload hG X2 hx (hb hby at_11) (pc' := 13) rfl rfl rfl ?_
  show G (T2.setTop (mkF m 13 #[.val (.int i0), .val (.int i1), .val (.int i2), .val (.int i3), .val (.int i4), .val (.ref ka), .unset, .unset, .unset, .unset, .unset, .unset, .unset, .unset, .unset, .unset, .unset, .unset, .unset] [(.ref ka)]))
  refine g_iconst hG X2 hx (hb hby at_13) (pc' := 14) rfl (v := (1 : Int32)) rfl ?_
  show G (T2.setTop (mkF m 14 #[.val (.int i0), .val (.int i1), .val (.int i2), .val (.int i3), .val (.int i4), .val (.ref ka), .unset, .unset, .unset, .unset, .unset, .unset, .unset, .unset, .unset, .unset, .unset, .unset, .unset] [(.int 1), (.ref ka)]))
  refine g_iloadN hG X2 hx (hb hby at_14) (pc' := 15) rfl rfl ?_
  show G (T2.setTop (mkF m 15 #[.val (.int i0), .val (.int i1), .val (.int i2), .val (.int i3), .val (.int i4), .val (.ref ka), .unset, .unset, .unset, .unset, .unset, .unset, .unset, .unset, .unset, .unset, .unset, .unset, .unset] [(.int i1), (.int 1), (.ref ka)]))
  obtain ⟨v15, q15⟩ : ∃ zz : UInt64, FP.i2d i1 = zz := ⟨_, rfl⟩
  refine g_i2d hG X2 hx (hb hby at_15) (pc' := 16) rfl q15 ?_
  show G (T2.setTop (mkF m 16 #[.val (.int i0), .val (.int i1), .val (.int i2), .val (.int i3), .val (.int i4), .val (.ref ka), .unset, .unset, .unset, .unset, .unset, .unset, .unset, .unset, .unset, .unset, .unset, .unset, .unset] [(.double v15), (.int 1), (.ref ka)]))
  refine g_dastore hG X2 hx hZ e2 V_ka (j := (1 : Int32)) (by decide) (show Int32.toNatClampNeg (1 : Int32) < 4 by decide) (hb hby at_16) (pc' := 17) rfl ?_
  intro T3 h3 X3 e3 W3 Vn3
  have V_ka : AV Z h3 ka .double (4 : Int32) [(.double v9), (.double v15), (.double 0), (.double 0)] := Vn3
  have Zs := Nat.le_trans Zs (Wr.size W3)
  have NF3 := Fr.snoc X3 NF2 ge_ka
  show G (T3.setTop (mkF m 17 #[.val (.int i0), .val (.int i1), .val (.int i2), .val (.int i3), .val (.int i4), .val (.ref ka), .unset, .unset, .unset, .unset, .unset, .unset, .unset, .unset, .unset, .unset, .unset, .unset, .unset] []))
  refine g_aload hG X3 hx (hb hby at_17) (pc' := 19) rfl rfl rfl ?_
  show G (T3.setTop (mkF m 19 #[.val (.int i0), .val (.int i1), .val (.int i2), .val (.int i3), .val (.int i4), .val (.ref ka), .unset, .unset, .unset, .unset, .unset, .unset, .unset, .unset, .unset, .unset, .unset, .unset, .unset] [(.ref ka)]))
  refine g_iconst hG X3 hx (hb hby at_19) (pc' := 20) rfl (v := (2 : Int32)) rfl ?_
  show G (T3.setTop (mkF m 20 #[.val (.int i0), .val (.int i1), .val (.int i2), .val (.int i3), .val (.int i4), .val (.ref ka), .unset, .unset, .unset, .unset, .unset, .unset, .unset, .unset, .unset, .unset, .unset, .unset, .unset] [(.int 2), (.ref ka)]))
  refine g_iloadN hG X3 hx (hb hby at_20) (pc' := 21) rfl rfl ?_
  show G (T3.setTop (mkF m 21 #[.val (.int i0), .val (.int i1), .val (.int i2), .val (.int i3), .val (.int i4), .val (.ref ka), .unset, .unset, .unset, .unset, .unset, .unset, .unset, .unset, .unset, .unset, .unset, .unset, .unset] [(.int i2), (.int 2), (.ref ka)]))
  obtain ⟨v21, q21⟩ : ∃ zz : UInt64, FP.i2d i2 = zz := ⟨_, rfl⟩
  refine g_i2d hG X3 hx (hb hby at_21) (pc' := 22) rfl q21 ?_
  show G (T3.setTop (mkF m 22 #[.val (.int i0), .val (.int i1), .val (.int i2), .val (.int i3), .val (.int i4), .val (.ref ka), .unset, .unset, .unset, .unset, .unset, .unset, .unset, .unset, .unset, .unset, .unset, .unset, .unset] [(.double v21), (.int 2), (.ref ka)]))
  refine g_dastore hG X3 hx hZ e3 V_ka (j := (2 : Int32)) (by decide) (show Int32.toNatClampNeg (2 : Int32) < 4 by decide) (hb hby at_22) (pc' := 23) rfl ?_
  intro T4 h4 X4 e4 W4 Vn4
  have V_ka : AV Z h4 ka .double (4 : Int32) [(.double v9), (.double v15), (.double v21), (.double 0)] := Vn4
  have Zs := Nat.le_trans Zs (Wr.size W4)
  have NF4 := Fr.snoc X4 NF3 ge_ka
  show G (T4.setTop (mkF m 23 #[.val (.int i0), .val (.int i1), .val (.int i2), .val (.int i3), .val (.int i4), .val (.ref ka), .unset, .unset, .unset, .unset, .unset, .unset, .unset, .unset, .unset, .unset, .unset, .unset, .unset] []))
  refine g_aload hG X4 hx (hb hby at_23) (pc' := 25) rfl rfl rfl ?_
  show G (T4.setTop (mkF m 25 #[.val (.int i0), .val (.int i1), .val (.int i2), .val (.int i3), .val (.int i4), .val (.ref ka), .unset, .unset, .unset, .unset, .unset, .unset, .unset, .unset, .unset, .unset, .unset, .unset, .unset] [(.ref ka)]))
  refine g_iconst hG X4 hx (hb hby at_25) (pc' := 26) rfl (v := (3 : Int32)) rfl ?_
  show G (T4.setTop (mkF m 26 #[.val (.int i0), .val (.int i1), .val (.int i2), .val (.int i3), .val (.int i4), .val (.ref ka), .unset, .unset, .unset, .unset, .unset, .unset, .unset, .unset, .unset, .unset, .unset, .unset, .unset] [(.int 3), (.ref ka)]))
  refine g_iloadN hG X4 hx (hb hby at_26) (pc' := 27) rfl rfl ?_
  show G (T4.setTop (mkF m 27 #[.val (.int i0), .val (.int i1), .val (.int i2), .val (.int i3), .val (.int i4), .val (.ref ka), .unset, .unset, .unset, .unset, .unset, .unset, .unset, .unset, .unset, .unset, .unset, .unset, .unset] [(.int i3), (.int 3), (.ref ka)]))
  obtain ⟨v27, q27⟩ : ∃ zz : UInt64, FP.i2d i3 = zz := ⟨_, rfl⟩
  refine g_i2d hG X4 hx (hb hby at_27) (pc' := 28) rfl q27 ?_
  show G (T4.setTop (mkF m 28 #[.val (.int i0), .val (.int i1), .val (.int i2), .val (.int i3), .val (.int i4), .val (.ref ka), .unset, .unset, .unset, .unset, .unset, .unset, .unset, .unset, .unset, .unset, .unset, .unset, .unset] [(.double v27), (.int 3), (.ref ka)]))
  refine g_dastore hG X4 hx hZ e4 V_ka (j := (3 : Int32)) (by decide) (show Int32.toNatClampNeg (3 : Int32) < 4 by decide) (hb hby at_28) (pc' := 29) rfl ?_
  intro T5 h5 X5 e5 W5 Vn5
  have V_ka : AV Z h5 ka .double (4 : Int32) [(.double v9), (.double v15), (.double v21), (.double v27)] := Vn5
  have Zs := Nat.le_trans Zs (Wr.size W5)
  have NF5 := Fr.snoc X5 NF4 ge_ka
  show G (T5.setTop (mkF m 29 #[.val (.int i0), .val (.int i1), .val (.int i2), .val (.int i3), .val (.int i4), .val (.ref ka), .unset, .unset, .unset, .unset, .unset, .unset, .unset, .unset, .unset, .unset, .unset, .unset, .unset] []))
  obtain ⟨kf, hk0, hk1, hk2, hk3⟩ : ∃ kf : Int32 → UInt64, kf 0 = v9 ∧ kf 1 = v15 ∧ kf 2 = v21 ∧ kf 3 = v27 := ⟨fun i => if i = 0 then v9 else if i = 1 then v15 else if i = 2 then v21 else v27, rfl, rfl, rfl, rfl⟩
  have V_ka : AV Z h5 ka .double (4 : Int32) (fd4 kf) := by unfold fd4; rw [hk0, hk1, hk2, hk3]; exact V_ka
  have D0 : OwnFl.DV (kf 0) (i0.toInt : Rat) := by rw [hk0, ← q9]; exact OwnFl.i2d_DV i0
  have D1 : OwnFl.DV (kf 1) (i1.toInt : Rat) := by rw [hk1, ← q15]; exact OwnFl.i2d_DV i1
  have D2 : OwnFl.DV (kf 2) (i2.toInt : Rat) := by rw [hk2, ← q21]; exact OwnFl.i2d_DV i2
  have D3 : OwnFl.DV (kf 3) (i3.toInt : Rat) := by rw [hk3, ← q27]; exact OwnFl.i2d_DV i3
  obtain ⟨bt, hbt⟩ : ∃ z, (btB (decide (i0.toInt ≤ i1.toInt)) (decide (i0.toInt ≤ i2.toInt)) (decide (i0.toInt ≤ i3.toInt)) (decide (i1.toInt ≤ i2.toInt)) (decide (i1.toInt ≤ i3.toInt)) (decide (i2.toInt ≤ i3.toInt))) = z := ⟨_, rfl⟩
  have BF := own_bf D0 D1 D2 D3
  rw [hbt] at BF
  refine g_iload hG X5 hx (hb hby at_29) (pc' := 31) rfl rfl ?_
  show G (T5.setTop (mkF m 31 #[.val (.int i0), .val (.int i1), .val (.int i2), .val (.int i3), .val (.int i4), .val (.ref ka), .unset, .unset, .unset, .unset, .unset, .unset, .unset, .unset, .unset, .unset, .unset, .unset, .unset] [(.int i4)]))
  refine g_iconst hG X5 hx (hb hby at_31) (pc' := 32) rfl (v := (3 : Int32)) rfl ?_
  show G (T5.setTop (mkF m 32 #[.val (.int i0), .val (.int i1), .val (.int i2), .val (.int i3), .val (.int i4), .val (.ref ka), .unset, .unset, .unset, .unset, .unset, .unset, .unset, .unset, .unset, .unset, .unset, .unset, .unset] [(.int 3), (.int i4)]))
  obtain ⟨v32, q32⟩ : ∃ zz : Int32, i4 &&& (3 : Int32) = zz := ⟨_, rfl⟩
  refine g_iand hG X5 hx (hb hby at_32) (pc' := 33) rfl q32 ?_
  show G (T5.setTop (mkF m 33 #[.val (.int i0), .val (.int i1), .val (.int i2), .val (.int i3), .val (.int i4), .val (.ref ka), .unset, .unset, .unset, .unset, .unset, .unset, .unset, .unset, .unset, .unset, .unset, .unset, .unset] [(.int v32)]))
  refine g_istore hG X5 hx (hb hby at_33) (pc' := 35) rfl (Ls' := #[.val (.int i0), .val (.int i1), .val (.int i2), .val (.int i3), .val (.int i4), .val (.ref ka), .val (.int v32), .unset, .unset, .unset, .unset, .unset, .unset, .unset, .unset, .unset, .unset, .unset, .unset]) rfl ?_
  show G (T5.setTop (mkF m 35 #[.val (.int i0), .val (.int i1), .val (.int i2), .val (.int i3), .val (.int i4), .val (.ref ka), .val (.int v32), .unset, .unset, .unset, .unset, .unset, .unset, .unset, .unset, .unset, .unset, .unset, .unset] []))
  refine g_iload hG X5 hx (hb hby at_35) (pc' := 37) rfl rfl ?_
  show G (T5.setTop (mkF m 37 #[.val (.int i0), .val (.int i1), .val (.int i2), .val (.int i3), .val (.int i4), .val (.ref ka), .val (.int v32), .unset, .unset, .unset, .unset, .unset, .unset, .unset, .unset, .unset, .unset, .unset, .unset] [(.int i4)]))
  refine g_iconst hG X5 hx (hb hby at_37) (pc' := 38) rfl (v := (4 : Int32)) rfl ?_
  show G (T5.setTop (mkF m 38 #[.val (.int i0), .val (.int i1), .val (.int i2), .val (.int i3), .val (.int i4), .val (.ref ka), .val (.int v32), .unset, .unset, .unset, .unset, .unset, .unset, .unset, .unset, .unset, .unset, .unset, .unset] [(.int 4), (.int i4)]))
  obtain ⟨v38, q38⟩ : ∃ zz : Int32, i4 &&& (4 : Int32) = zz := ⟨_, rfl⟩
  refine g_iand hG X5 hx (hb hby at_38) (pc' := 39) rfl q38 ?_
  show G (T5.setTop (mkF m 39 #[.val (.int i0), .val (.int i1), .val (.int i2), .val (.int i3), .val (.int i4), .val (.ref ka), .val (.int v32), .unset, .unset, .unset, .unset, .unset, .unset, .unset, .unset, .unset, .unset, .unset, .unset] [(.int v38)]))
  have h32 : In4 v32 := by
    have h := c_and i4 3 (by decide)
    rw [q32, show (3 : Int32).toInt = 3 by decide] at h
    have e0 : (0 : Int32).toInt = 0 := by decide
    have e1 : (1 : Int32).toInt = 1 := by decide
    have e2 : (2 : Int32).toInt = 2 := by decide
    have e3 : (3 : Int32).toInt = 3 := by decide
    unfold In4
    rw [← Int32.toInt_inj, ← Int32.toInt_inj, ← Int32.toInt_inj, ← Int32.toInt_inj]
    omega
  have c47 : ∀ (fl : Int32), (fl = 0 ∨ fl = 1) → G (T5.setTop (mkF m 47 #[.val (.int i0), .val (.int i1), .val (.int i2), .val (.int i3), .val (.int i4), .val (.ref ka), .val (.int v32), .unset, .unset, .unset, .unset, .unset, .unset, .unset, .unset, .unset, .unset, .unset, .unset] [(.int fl)])) := by
    intro fl hfl
    refine g_istore hG X5 hx (hb hby at_47) (pc' := 49) rfl (Ls' := #[.val (.int i0), .val (.int i1), .val (.int i2), .val (.int i3), .val (.int i4), .val (.ref ka), .val (.int v32), .val (.int fl), .unset, .unset, .unset, .unset, .unset, .unset, .unset, .unset, .unset, .unset, .unset]) rfl ?_
    show G (T5.setTop (mkF m 49 #[.val (.int i0), .val (.int i1), .val (.int i2), .val (.int i3), .val (.int i4), .val (.ref ka), .val (.int v32), .val (.int fl), .unset, .unset, .unset, .unset, .unset, .unset, .unset, .unset, .unset, .unset, .unset] []))
    refine g_iconst hG X5 hx (hb hby at_49) (pc' := 50) rfl (v := (0 : Int32)) rfl ?_
    show G (T5.setTop (mkF m 50 #[.val (.int i0), .val (.int i1), .val (.int i2), .val (.int i3), .val (.int i4), .val (.ref ka), .val (.int v32), .val (.int fl), .unset, .unset, .unset, .unset, .unset, .unset, .unset, .unset, .unset, .unset, .unset] [(.int 0)]))
    refine g_iload hG X5 hx (hb hby at_50) (pc' := 52) rfl rfl ?_
    show G (T5.setTop (mkF m 52 #[.val (.int i0), .val (.int i1), .val (.int i2), .val (.int i3), .val (.int i4), .val (.ref ka), .val (.int v32), .val (.int fl), .unset, .unset, .unset, .unset, .unset, .unset, .unset, .unset, .unset, .unset, .unset] [(.int v32), (.int 0)]))
    refine g_iload hG X5 hx (hb hby at_52) (pc' := 54) rfl rfl ?_
    show G (T5.setTop (mkF m 54 #[.val (.int i0), .val (.int i1), .val (.int i2), .val (.int i3), .val (.int i4), .val (.ref ka), .val (.int v32), .val (.int fl), .unset, .unset, .unset, .unset, .unset, .unset, .unset, .unset, .unset, .unset, .unset] [(.int fl), (.int v32), (.int 0)]))
    obtain ⟨m0, hm0⟩ : ∃ z, nd v32 fl 0 = z := ⟨_, rfl⟩
    refine g_callS hG X5 hx hZ (y := (⟨"com/example/tributary/tributary/plan/NodeHeapPollPinLaw", "id", "(IIZ)I"⟩ : MethodName)) 0 hown (wd hw 1 rfl) (wd hw 2 rfl) (wd hw 3 rfl) (wd hw 4 rfl) (by decide) (rmId l Z a0 hw [] v32 fl (0 : Int32) m0 h5 n0 Zs hm0) (by decide) (by decide) (by rw [hml]; rfl) pd_4 rfl (argsL := [(.int 0), (.int v32), (.int fl)]) (rest := []) rfl rfl (Nat.le_of_eq rfl) (hb hby at_54) e5 (by decide) (by decide) (pc' := 57) rfl ?_
    intro T6 rv6 L6 X6 hQ6
    obtain ⟨rfl, Nq6, eh6⟩ := hQ6
    have NF6 := Fr.app NF5 Nq6
    show G (T6.setTop (mkF m 57 #[.val (.int i0), .val (.int i1), .val (.int i2), .val (.int i3), .val (.int i4), .val (.ref ka), .val (.int v32), .val (.int fl), .unset, .unset, .unset, .unset, .unset, .unset, .unset, .unset, .unset, .unset, .unset] [(.int m0)]))
    refine g_istore hG X6 hx (hb hby at_57) (pc' := 59) rfl (Ls' := #[.val (.int i0), .val (.int i1), .val (.int i2), .val (.int i3), .val (.int i4), .val (.ref ka), .val (.int v32), .val (.int fl), .val (.int m0), .unset, .unset, .unset, .unset, .unset, .unset, .unset, .unset, .unset, .unset]) rfl ?_
    show G (T6.setTop (mkF m 59 #[.val (.int i0), .val (.int i1), .val (.int i2), .val (.int i3), .val (.int i4), .val (.ref ka), .val (.int v32), .val (.int fl), .val (.int m0), .unset, .unset, .unset, .unset, .unset, .unset, .unset, .unset, .unset, .unset] []))
    refine g_iconst hG X6 hx (hb hby at_59) (pc' := 60) rfl (v := (1 : Int32)) rfl ?_
    show G (T6.setTop (mkF m 60 #[.val (.int i0), .val (.int i1), .val (.int i2), .val (.int i3), .val (.int i4), .val (.ref ka), .val (.int v32), .val (.int fl), .val (.int m0), .unset, .unset, .unset, .unset, .unset, .unset, .unset, .unset, .unset, .unset] [(.int 1)]))
    refine g_iload hG X6 hx (hb hby at_60) (pc' := 62) rfl rfl ?_
    show G (T6.setTop (mkF m 62 #[.val (.int i0), .val (.int i1), .val (.int i2), .val (.int i3), .val (.int i4), .val (.ref ka), .val (.int v32), .val (.int fl), .val (.int m0), .unset, .unset, .unset, .unset, .unset, .unset, .unset, .unset, .unset, .unset] [(.int v32), (.int 1)]))
    refine g_iload hG X6 hx (hb hby at_62) (pc' := 64) rfl rfl ?_
    show G (T6.setTop (mkF m 64 #[.val (.int i0), .val (.int i1), .val (.int i2), .val (.int i3), .val (.int i4), .val (.ref ka), .val (.int v32), .val (.int fl), .val (.int m0), .unset, .unset, .unset, .unset, .unset, .unset, .unset, .unset, .unset, .unset] [(.int fl), (.int v32), (.int 1)]))
    obtain ⟨m1, hm1⟩ : ∃ z, nd v32 fl 1 = z := ⟨_, rfl⟩
    refine g_callS hG X6 hx hZ (y := (⟨"com/example/tributary/tributary/plan/NodeHeapPollPinLaw", "id", "(IIZ)I"⟩ : MethodName)) 0 hown (wd hw 1 rfl) (wd hw 2 rfl) (wd hw 3 rfl) (wd hw 4 rfl) (by decide) (rmId l Z a0 hw [] v32 fl (1 : Int32) m1 h5 n0 Zs hm1) (by decide) (by decide) (by rw [hml]; rfl) pd_4 rfl (argsL := [(.int 1), (.int v32), (.int fl)]) (rest := []) rfl rfl (Nat.le_of_eq rfl) (hb hby at_64) eh6 (by decide) (by decide) (pc' := 67) rfl ?_
    intro T7 rv7 L7 X7 hQ7
    obtain ⟨rfl, Nq7, eh7⟩ := hQ7
    have NF7 := Fr.app NF6 Nq7
    show G (T7.setTop (mkF m 67 #[.val (.int i0), .val (.int i1), .val (.int i2), .val (.int i3), .val (.int i4), .val (.ref ka), .val (.int v32), .val (.int fl), .val (.int m0), .unset, .unset, .unset, .unset, .unset, .unset, .unset, .unset, .unset, .unset] [(.int m1)]))
    refine g_istore hG X7 hx (hb hby at_67) (pc' := 69) rfl (Ls' := #[.val (.int i0), .val (.int i1), .val (.int i2), .val (.int i3), .val (.int i4), .val (.ref ka), .val (.int v32), .val (.int fl), .val (.int m0), .val (.int m1), .unset, .unset, .unset, .unset, .unset, .unset, .unset, .unset, .unset]) rfl ?_
    show G (T7.setTop (mkF m 69 #[.val (.int i0), .val (.int i1), .val (.int i2), .val (.int i3), .val (.int i4), .val (.ref ka), .val (.int v32), .val (.int fl), .val (.int m0), .val (.int m1), .unset, .unset, .unset, .unset, .unset, .unset, .unset, .unset, .unset] []))
    refine g_iconst hG X7 hx (hb hby at_69) (pc' := 70) rfl (v := (2 : Int32)) rfl ?_
    show G (T7.setTop (mkF m 70 #[.val (.int i0), .val (.int i1), .val (.int i2), .val (.int i3), .val (.int i4), .val (.ref ka), .val (.int v32), .val (.int fl), .val (.int m0), .val (.int m1), .unset, .unset, .unset, .unset, .unset, .unset, .unset, .unset, .unset] [(.int 2)]))
    refine g_iload hG X7 hx (hb hby at_70) (pc' := 72) rfl rfl ?_
    show G (T7.setTop (mkF m 72 #[.val (.int i0), .val (.int i1), .val (.int i2), .val (.int i3), .val (.int i4), .val (.ref ka), .val (.int v32), .val (.int fl), .val (.int m0), .val (.int m1), .unset, .unset, .unset, .unset, .unset, .unset, .unset, .unset, .unset] [(.int v32), (.int 2)]))
    refine g_iload hG X7 hx (hb hby at_72) (pc' := 74) rfl rfl ?_
    show G (T7.setTop (mkF m 74 #[.val (.int i0), .val (.int i1), .val (.int i2), .val (.int i3), .val (.int i4), .val (.ref ka), .val (.int v32), .val (.int fl), .val (.int m0), .val (.int m1), .unset, .unset, .unset, .unset, .unset, .unset, .unset, .unset, .unset] [(.int fl), (.int v32), (.int 2)]))
    obtain ⟨m2, hm2⟩ : ∃ z, nd v32 fl 2 = z := ⟨_, rfl⟩
    refine g_callS hG X7 hx hZ (y := (⟨"com/example/tributary/tributary/plan/NodeHeapPollPinLaw", "id", "(IIZ)I"⟩ : MethodName)) 0 hown (wd hw 1 rfl) (wd hw 2 rfl) (wd hw 3 rfl) (wd hw 4 rfl) (by decide) (rmId l Z a0 hw [] v32 fl (2 : Int32) m2 h5 n0 Zs hm2) (by decide) (by decide) (by rw [hml]; rfl) pd_4 rfl (argsL := [(.int 2), (.int v32), (.int fl)]) (rest := []) rfl rfl (Nat.le_of_eq rfl) (hb hby at_74) eh7 (by decide) (by decide) (pc' := 77) rfl ?_
    intro T8 rv8 L8 X8 hQ8
    obtain ⟨rfl, Nq8, eh8⟩ := hQ8
    have NF8 := Fr.app NF7 Nq8
    show G (T8.setTop (mkF m 77 #[.val (.int i0), .val (.int i1), .val (.int i2), .val (.int i3), .val (.int i4), .val (.ref ka), .val (.int v32), .val (.int fl), .val (.int m0), .val (.int m1), .unset, .unset, .unset, .unset, .unset, .unset, .unset, .unset, .unset] [(.int m2)]))
    refine g_istore hG X8 hx (hb hby at_77) (pc' := 79) rfl (Ls' := #[.val (.int i0), .val (.int i1), .val (.int i2), .val (.int i3), .val (.int i4), .val (.ref ka), .val (.int v32), .val (.int fl), .val (.int m0), .val (.int m1), .val (.int m2), .unset, .unset, .unset, .unset, .unset, .unset, .unset, .unset]) rfl ?_
    show G (T8.setTop (mkF m 79 #[.val (.int i0), .val (.int i1), .val (.int i2), .val (.int i3), .val (.int i4), .val (.ref ka), .val (.int v32), .val (.int fl), .val (.int m0), .val (.int m1), .val (.int m2), .unset, .unset, .unset, .unset, .unset, .unset, .unset, .unset] []))
    refine g_iconst hG X8 hx (hb hby at_79) (pc' := 80) rfl (v := (3 : Int32)) rfl ?_
    show G (T8.setTop (mkF m 80 #[.val (.int i0), .val (.int i1), .val (.int i2), .val (.int i3), .val (.int i4), .val (.ref ka), .val (.int v32), .val (.int fl), .val (.int m0), .val (.int m1), .val (.int m2), .unset, .unset, .unset, .unset, .unset, .unset, .unset, .unset] [(.int 3)]))
    refine g_iload hG X8 hx (hb hby at_80) (pc' := 82) rfl rfl ?_
    show G (T8.setTop (mkF m 82 #[.val (.int i0), .val (.int i1), .val (.int i2), .val (.int i3), .val (.int i4), .val (.ref ka), .val (.int v32), .val (.int fl), .val (.int m0), .val (.int m1), .val (.int m2), .unset, .unset, .unset, .unset, .unset, .unset, .unset, .unset] [(.int v32), (.int 3)]))
    refine g_iload hG X8 hx (hb hby at_82) (pc' := 84) rfl rfl ?_
    show G (T8.setTop (mkF m 84 #[.val (.int i0), .val (.int i1), .val (.int i2), .val (.int i3), .val (.int i4), .val (.ref ka), .val (.int v32), .val (.int fl), .val (.int m0), .val (.int m1), .val (.int m2), .unset, .unset, .unset, .unset, .unset, .unset, .unset, .unset] [(.int fl), (.int v32), (.int 3)]))
    obtain ⟨m3, hm3⟩ : ∃ z, nd v32 fl 3 = z := ⟨_, rfl⟩
    refine g_callS hG X8 hx hZ (y := (⟨"com/example/tributary/tributary/plan/NodeHeapPollPinLaw", "id", "(IIZ)I"⟩ : MethodName)) 0 hown (wd hw 1 rfl) (wd hw 2 rfl) (wd hw 3 rfl) (wd hw 4 rfl) (by decide) (rmId l Z a0 hw [] v32 fl (3 : Int32) m3 h5 n0 Zs hm3) (by decide) (by decide) (by rw [hml]; rfl) pd_4 rfl (argsL := [(.int 3), (.int v32), (.int fl)]) (rest := []) rfl rfl (Nat.le_of_eq rfl) (hb hby at_84) eh8 (by decide) (by decide) (pc' := 87) rfl ?_
    intro T9 rv9 L9 X9 hQ9
    obtain ⟨rfl, Nq9, eh9⟩ := hQ9
    have NF9 := Fr.app NF8 Nq9
    show G (T9.setTop (mkF m 87 #[.val (.int i0), .val (.int i1), .val (.int i2), .val (.int i3), .val (.int i4), .val (.ref ka), .val (.int v32), .val (.int fl), .val (.int m0), .val (.int m1), .val (.int m2), .unset, .unset, .unset, .unset, .unset, .unset, .unset, .unset] [(.int m3)]))
    refine g_istore hG X9 hx (hb hby at_87) (pc' := 89) rfl (Ls' := #[.val (.int i0), .val (.int i1), .val (.int i2), .val (.int i3), .val (.int i4), .val (.ref ka), .val (.int v32), .val (.int fl), .val (.int m0), .val (.int m1), .val (.int m2), .val (.int m3), .unset, .unset, .unset, .unset, .unset, .unset, .unset]) rfl ?_
    show G (T9.setTop (mkF m 89 #[.val (.int i0), .val (.int i1), .val (.int i2), .val (.int i3), .val (.int i4), .val (.ref ka), .val (.int v32), .val (.int fl), .val (.int m0), .val (.int m1), .val (.int m2), .val (.int m3), .unset, .unset, .unset, .unset, .unset, .unset, .unset] []))
    have PF : pure3 bt m0 m1 m2 m3 = true := by
      have TR := own_tr i0.toInt i1.toInt i2.toInt i3.toInt
      rw [← hm0, ← hm1, ← hm2, ← hm3, ← hbt]
      rcases h32 with h | h | h | h <;> rcases hfl with g | g <;> rw [h, g]
      · exact own_pure 0 false _ _ _ _ _ _ TR
      · exact own_pure 0 true _ _ _ _ _ _ TR
      · exact own_pure 1 false _ _ _ _ _ _ TR
      · exact own_pure 1 true _ _ _ _ _ _ TR
      · exact own_pure 2 false _ _ _ _ _ _ TR
      · exact own_pure 2 true _ _ _ _ _ _ TR
      · exact own_pure 3 false _ _ _ _ _ _ TR
      · exact own_pure 3 true _ _ _ _ _ _ TR
    unfold pure3 at PF
    simp only [Bool.and_eq_true] at PF
    obtain ⟨⟨⟨⟨⟨⟨⟨⟨⟨⟨⟨⟨PI, hp1⟩, hp2⟩, hp3⟩, ob0⟩, ob1⟩, ob2⟩, ob3⟩, oc4⟩, oc3⟩, oc2⟩, oc1⟩, PFin⟩ := PF
    have hp1 := of_decide_eq_true hp1
    have hp2 := of_decide_eq_true hp2
    have hp3 := of_decide_eq_true hp3
    have J4 : ∀ x ∈ [m3, m2, m1, m0], In4 x := fun x hx => of_decide_eq_true (List.all_eq_true.mp PI x (by simp only [List.mem_cons, List.not_mem_nil, or_false] at hx ⊢; rcases hx with h | h | h | h <;> simp [h]))
    have im0 : In4 m0 := J4 m0 (by simp)
    have im1 : In4 m1 := J4 m1 (by simp)
    have im2 : In4 m2 := J4 m2 (by simp)
    have im3 : In4 m3 := J4 m3 (by simp)
    have J1 : ∀ x ∈ [m0], In4 x := fun x hx => J4 x (by simp at hx ⊢; simp [hx])
    have J2 : ∀ x ∈ [m1, m0], In4 x := fun x hx => J4 x (List.mem_cons_of_mem _ (List.mem_cons_of_mem _ hx))
    have J3 : ∀ x ∈ [m2, m1, m0], In4 x := fun x hx => J4 x (List.mem_cons_of_mem _ hx)
    have U0 : ∀ x ∈ ([] : List Int32), zk x = kf x := fun x hx => nomatch hx
    have U1 := own_up U0 m0
    have U2 := own_up U1 m1
    have U3 := own_up U2 m2
    have U4 := own_up U3 m3
    refine g_newO hG X9 hx hZ hown (wd hw 5 rfl) (wd hw 6 rfl) (wd hw 7 rfl) eh9 (hb hby at_89) (by decide) (by decide) (pc' := 92) rfl ?_
    intro T10 h10 a gs10 X10 e10 E10 Aq10 Dq10
    have ne_ka_a : ka ≠ a := Nat.ne_of_lt (gs10 ▸ V_ka.lt)
    have ge_a : n0 ≤ a := gs10 ▸ Zs
    have Zs := Nat.le_trans Zs E10.1
    have V_ka := V_ka.ext E10
    have Ex_a := Aq10
    have F_heap_a : Fld Z h10 a "com/example/tributary/tributary/plan/NodeHeap" "heap" "[I" .null := Dq10 (Or.inr (wd hw 16 rfl)) (ty := (.array .int)) (by decide)
    have F_position_a : Fld Z h10 a "com/example/tributary/tributary/plan/NodeHeap" "position" "[I" .null := Dq10 (Or.inr (wd hw 18 rfl)) (ty := (.array .int)) (by decide)
    have F_key_a : Fld Z h10 a "com/example/tributary/tributary/plan/NodeHeap" "key" "[D" .null := Dq10 (Or.inr (wd hw 20 rfl)) (ty := (.array .double)) (by decide)
    have F_size_a : Fld Z h10 a "com/example/tributary/tributary/plan/NodeHeap" "size" "I" (.int 0) := Dq10 (Or.inl (wd hw 31 rfl)) (ty := .int) (by decide)
    show G (T10.setTop (mkF m 92 #[.val (.int i0), .val (.int i1), .val (.int i2), .val (.int i3), .val (.int i4), .val (.ref ka), .val (.int v32), .val (.int fl), .val (.int m0), .val (.int m1), .val (.int m2), .val (.int m3), .unset, .unset, .unset, .unset, .unset, .unset, .unset] [(.ref a)]))
    refine g_dup hG X10 hx (hb hby at_92) (pc' := 93) rfl rfl ?_
    show G (T10.setTop (mkF m 93 #[.val (.int i0), .val (.int i1), .val (.int i2), .val (.int i3), .val (.int i4), .val (.ref ka), .val (.int v32), .val (.int fl), .val (.int m0), .val (.int m1), .val (.int m2), .val (.int m3), .unset, .unset, .unset, .unset, .unset, .unset, .unset] [(.ref a), (.ref a)]))
    refine g_iconst hG X10 hx (hb hby at_93) (pc' := 94) rfl (v := (4 : Int32)) rfl ?_
    show G (T10.setTop (mkF m 94 #[.val (.int i0), .val (.int i1), .val (.int i2), .val (.int i3), .val (.int i4), .val (.ref ka), .val (.int v32), .val (.int fl), .val (.int m0), .val (.int m1), .val (.int m2), .val (.int m3), .unset, .unset, .unset, .unset, .unset, .unset, .unset] [(.int 4), (.ref a), (.ref a)]))
    have lt_a := Ex_a.lt
    have lt_ka := V_ka.lt
    refine g_callI hG X10 hx hZ (y := (⟨"com/example/tributary/tributary/plan/NodeHeap", "<init>", "(I)V"⟩ : MethodName)) 1 rfl hown (wd hw 8 rfl) (wd hw 9 rfl) (wd hw 7 rfl) (wd hw 10 rfl) (by decide) (rmNew l Z a0 hw [] a h10 n0 Zs ge_a Ex_a F_heap_a F_position_a F_key_a F_size_a) (by decide) (by decide) (by rw [hml]; rfl) pd_3 rfl (argsL := [(.int 4)]) (rest := [(.ref a)]) rfl rfl (Nat.le_of_eq rfl) (hb hby at_94) e10 (by decide) (by decide) (pc' := 97) rfl ?_
    intro T11 rv11 L11 X11 hQ11
    obtain ⟨hp, pp, ky, rfl, Nq11, Kq11, sz_hp, sz_pp, sz_ky, d4, d5, d6, Ex_a, F_heap_a, F_position_a, F_key_a, F_size_a, V_hp, V_pp, V_ky⟩ := hQ11
    have NF11 := Fr.app NF9 Nq11
    have ghp : n0 ≤ hp := Nat.le_trans Zs sz_hp
    have d1 : a ≠ hp := Nat.ne_of_lt (Nat.lt_of_lt_of_le lt_a sz_hp)
    have khp : ka ≠ hp := Nat.ne_of_lt (Nat.lt_of_lt_of_le lt_ka sz_hp)
    have gpp : n0 ≤ pp := Nat.le_trans Zs sz_pp
    have d2 : a ≠ pp := Nat.ne_of_lt (Nat.lt_of_lt_of_le lt_a sz_pp)
    have kpp : ka ≠ pp := Nat.ne_of_lt (Nat.lt_of_lt_of_le lt_ka sz_pp)
    have gky : n0 ≤ ky := Nat.le_trans Zs sz_ky
    have d3 : a ≠ ky := Nat.ne_of_lt (Nat.lt_of_lt_of_le lt_a sz_ky)
    have kky : ka ≠ ky := Nat.ne_of_lt (Nat.lt_of_lt_of_le lt_ka sz_ky)
    have ga := ge_a
    have V_ka := V_ka.keep Kq11 (ninS ne_ka_a nin0)
    have Zs := Nat.le_trans Zs Kq11.1
    show G (T11.setTop (mkF m 97 #[.val (.int i0), .val (.int i1), .val (.int i2), .val (.int i3), .val (.int i4), .val (.ref ka), .val (.int v32), .val (.int fl), .val (.int m0), .val (.int m1), .val (.int m2), .val (.int m3), .unset, .unset, .unset, .unset, .unset, .unset, .unset] [(.ref a)]))
    refine g_astore hG X11 hx (hb hby at_97) (pc' := 99) rfl rfl (Ls' := #[.val (.int i0), .val (.int i1), .val (.int i2), .val (.int i3), .val (.int i4), .val (.ref ka), .val (.int v32), .val (.int fl), .val (.int m0), .val (.int m1), .val (.int m2), .val (.int m3), .val (.ref a), .unset, .unset, .unset, .unset, .unset, .unset]) rfl ?_
    show G (T11.setTop (mkF m 99 #[.val (.int i0), .val (.int i1), .val (.int i2), .val (.int i3), .val (.int i4), .val (.ref ka), .val (.int v32), .val (.int fl), .val (.int m0), .val (.int m1), .val (.int m2), .val (.int m3), .val (.ref a), .unset, .unset, .unset, .unset, .unset, .unset] []))
    refine g_aload hG X11 hx (hb hby at_99) (pc' := 101) rfl rfl rfl ?_
    show G (T11.setTop (mkF m 101 #[.val (.int i0), .val (.int i1), .val (.int i2), .val (.int i3), .val (.int i4), .val (.ref ka), .val (.int v32), .val (.int fl), .val (.int m0), .val (.int m1), .val (.int m2), .val (.int m3), .val (.ref a), .unset, .unset, .unset, .unset, .unset, .unset] [(.ref a)]))
    refine g_iload hG X11 hx (hb hby at_101) (pc' := 103) rfl rfl ?_
    show G (T11.setTop (mkF m 103 #[.val (.int i0), .val (.int i1), .val (.int i2), .val (.int i3), .val (.int i4), .val (.ref ka), .val (.int v32), .val (.int fl), .val (.int m0), .val (.int m1), .val (.int m2), .val (.int m3), .val (.ref a), .unset, .unset, .unset, .unset, .unset, .unset] [(.int m0), (.ref a)]))
    refine g_aload hG X11 hx (hb hby at_103) (pc' := 105) rfl rfl rfl ?_
    show G (T11.setTop (mkF m 105 #[.val (.int i0), .val (.int i1), .val (.int i2), .val (.int i3), .val (.int i4), .val (.ref ka), .val (.int v32), .val (.int fl), .val (.int m0), .val (.int m1), .val (.int m2), .val (.int m3), .val (.ref a), .unset, .unset, .unset, .unset, .unset, .unset] [(.ref ka), (.int m0), (.ref a)]))
    refine g_iload hG X11 hx (hb hby at_105) (pc' := 107) rfl rfl ?_
    show G (T11.setTop (mkF m 107 #[.val (.int i0), .val (.int i1), .val (.int i2), .val (.int i3), .val (.int i4), .val (.ref ka), .val (.int v32), .val (.int fl), .val (.int m0), .val (.int m1), .val (.int m2), .val (.int m3), .val (.ref a), .unset, .unset, .unset, .unset, .unset, .unset] [(.int m0), (.ref ka), (.int m0), (.ref a)]))
    refine g_daload hG X11 hx hZ rfl V_ka (j := m0) (v := (.double (kf m0))) (in4_nn im0) (in4_atd im0 rfl) (hb hby at_107) (pc' := 108) rfl ?_
    show G (T11.setTop (mkF m 108 #[.val (.int i0), .val (.int i1), .val (.int i2), .val (.int i3), .val (.int i4), .val (.ref ka), .val (.int v32), .val (.int fl), .val (.int m0), .val (.int m1), .val (.int m2), .val (.int m3), .val (.ref a), .unset, .unset, .unset, .unset, .unset, .unset] [(.double (kf m0)), (.int m0), (.ref a)]))
    refine g_callV hG X11 hx hZ (y := (⟨"com/example/tributary/tributary/plan/NodeHeap", "offer", "(ID)V"⟩ : MethodName)) 0 hown (wd hw 25 rfl) (wd hw 26 rfl) (wd hw 28 rfl) (wd hw 27 rfl) (wd hw 7 rfl) (wd hw 29 rfl) (by decide) (rmOf0 l Z a0 hw [] a hp pp ky zq zk bt m0 (kf m0) T11.heap n0 Zs ⟨Ex_a, F_heap_a, F_position_a, F_key_a, F_size_a, V_hp, V_pp, V_ky⟩ ⟨ga, ghp, gpp, gky, d1, d2, d3, d4, d5, d6⟩ im0 rfl (own_I4 ob0 J1) own_HB0) (by decide) (by decide) (by rw [hml]; rfl) pd_5 rfl (argsL := [(.int m0), (.double (kf m0))]) (rest := []) rfl rfl (Nat.le_of_eq rfl) (hb hby at_108) rfl Ex_a (by decide) (by decide) (pc' := 111) rfl ?_
    intro T12 rv12 L12 X12 hQ12
    obtain ⟨rfl, Nq12, Kq12, Ex_a, F_heap_a, F_position_a, F_key_a, F_size_a, V_hp, V_pp, V_ky⟩ := hQ12
    have NF12 := Fr.app NF11 Nq12
    have V_ka := V_ka.keep Kq12 (ninS ne_ka_a (ninS khp (ninS kpp (ninS kky nin0))))
    have Zs := Nat.le_trans Zs Kq12.1
    show G (T12.setTop (mkF m 111 #[.val (.int i0), .val (.int i1), .val (.int i2), .val (.int i3), .val (.int i4), .val (.ref ka), .val (.int v32), .val (.int fl), .val (.int m0), .val (.int m1), .val (.int m2), .val (.int m3), .val (.ref a), .unset, .unset, .unset, .unset, .unset, .unset] []))
    refine g_aload hG X12 hx (hb hby at_111) (pc' := 113) rfl rfl rfl ?_
    show G (T12.setTop (mkF m 113 #[.val (.int i0), .val (.int i1), .val (.int i2), .val (.int i3), .val (.int i4), .val (.ref ka), .val (.int v32), .val (.int fl), .val (.int m0), .val (.int m1), .val (.int m2), .val (.int m3), .val (.ref a), .unset, .unset, .unset, .unset, .unset, .unset] [(.ref a)]))
    refine g_iload hG X12 hx (hb hby at_113) (pc' := 115) rfl rfl ?_
    show G (T12.setTop (mkF m 115 #[.val (.int i0), .val (.int i1), .val (.int i2), .val (.int i3), .val (.int i4), .val (.ref ka), .val (.int v32), .val (.int fl), .val (.int m0), .val (.int m1), .val (.int m2), .val (.int m3), .val (.ref a), .unset, .unset, .unset, .unset, .unset, .unset] [(.int m1), (.ref a)]))
    refine g_aload hG X12 hx (hb hby at_115) (pc' := 117) rfl rfl rfl ?_
    show G (T12.setTop (mkF m 117 #[.val (.int i0), .val (.int i1), .val (.int i2), .val (.int i3), .val (.int i4), .val (.ref ka), .val (.int v32), .val (.int fl), .val (.int m0), .val (.int m1), .val (.int m2), .val (.int m3), .val (.ref a), .unset, .unset, .unset, .unset, .unset, .unset] [(.ref ka), (.int m1), (.ref a)]))
    refine g_iload hG X12 hx (hb hby at_117) (pc' := 119) rfl rfl ?_
    show G (T12.setTop (mkF m 119 #[.val (.int i0), .val (.int i1), .val (.int i2), .val (.int i3), .val (.int i4), .val (.ref ka), .val (.int v32), .val (.int fl), .val (.int m0), .val (.int m1), .val (.int m2), .val (.int m3), .val (.ref a), .unset, .unset, .unset, .unset, .unset, .unset] [(.int m1), (.ref ka), (.int m1), (.ref a)]))
    refine g_daload hG X12 hx hZ rfl V_ka (j := m1) (v := (.double (kf m1))) (in4_nn im1) (in4_atd im1 rfl) (hb hby at_119) (pc' := 120) rfl ?_
    show G (T12.setTop (mkF m 120 #[.val (.int i0), .val (.int i1), .val (.int i2), .val (.int i3), .val (.int i4), .val (.ref ka), .val (.int v32), .val (.int fl), .val (.int m0), .val (.int m1), .val (.int m2), .val (.int m3), .val (.ref a), .unset, .unset, .unset, .unset, .unset, .unset] [(.double (kf m1)), (.int m1), (.ref a)]))
    refine g_callV hG X12 hx hZ (y := (⟨"com/example/tributary/tributary/plan/NodeHeap", "offer", "(ID)V"⟩ : MethodName)) 0 hown (wd hw 25 rfl) (wd hw 26 rfl) (wd hw 28 rfl) (wd hw 27 rfl) (wd hw 7 rfl) (wd hw 29 rfl) (by decide) (rmOf1 l Z a0 hw [] a hp pp ky (c1 bt m0) (upd zk m0 (kf m0)) bt m1 (kf m1) T12.heap n0 Zs ⟨Ex_a, F_heap_a, F_position_a, F_key_a, F_size_a, V_hp, V_pp, V_ky⟩ ⟨ga, ghp, gpp, gky, d1, d2, d3, d4, d5, d6⟩ im1 hp1 (own_I4 ob1 J2) (own_HB ob1 J2 U2 BF)) (by decide) (by decide) (by rw [hml]; rfl) pd_5 rfl (argsL := [(.int m1), (.double (kf m1))]) (rest := []) rfl rfl (Nat.le_of_eq rfl) (hb hby at_120) rfl Ex_a (by decide) (by decide) (pc' := 123) rfl ?_
    intro T13 rv13 L13 X13 hQ13
    obtain ⟨rfl, Nq13, Kq13, Ex_a, F_heap_a, F_position_a, F_key_a, F_size_a, V_hp, V_pp, V_ky⟩ := hQ13
    have NF13 := Fr.app NF12 Nq13
    have V_ka := V_ka.keep Kq13 (ninS ne_ka_a (ninS khp (ninS kpp (ninS kky nin0))))
    have Zs := Nat.le_trans Zs Kq13.1
    show G (T13.setTop (mkF m 123 #[.val (.int i0), .val (.int i1), .val (.int i2), .val (.int i3), .val (.int i4), .val (.ref ka), .val (.int v32), .val (.int fl), .val (.int m0), .val (.int m1), .val (.int m2), .val (.int m3), .val (.ref a), .unset, .unset, .unset, .unset, .unset, .unset] []))
    refine g_aload hG X13 hx (hb hby at_123) (pc' := 125) rfl rfl rfl ?_
    show G (T13.setTop (mkF m 125 #[.val (.int i0), .val (.int i1), .val (.int i2), .val (.int i3), .val (.int i4), .val (.ref ka), .val (.int v32), .val (.int fl), .val (.int m0), .val (.int m1), .val (.int m2), .val (.int m3), .val (.ref a), .unset, .unset, .unset, .unset, .unset, .unset] [(.ref a)]))
    refine g_iload hG X13 hx (hb hby at_125) (pc' := 127) rfl rfl ?_
    show G (T13.setTop (mkF m 127 #[.val (.int i0), .val (.int i1), .val (.int i2), .val (.int i3), .val (.int i4), .val (.ref ka), .val (.int v32), .val (.int fl), .val (.int m0), .val (.int m1), .val (.int m2), .val (.int m3), .val (.ref a), .unset, .unset, .unset, .unset, .unset, .unset] [(.int m2), (.ref a)]))
    refine g_aload hG X13 hx (hb hby at_127) (pc' := 129) rfl rfl rfl ?_
    show G (T13.setTop (mkF m 129 #[.val (.int i0), .val (.int i1), .val (.int i2), .val (.int i3), .val (.int i4), .val (.ref ka), .val (.int v32), .val (.int fl), .val (.int m0), .val (.int m1), .val (.int m2), .val (.int m3), .val (.ref a), .unset, .unset, .unset, .unset, .unset, .unset] [(.ref ka), (.int m2), (.ref a)]))
    refine g_iload hG X13 hx (hb hby at_129) (pc' := 131) rfl rfl ?_
    show G (T13.setTop (mkF m 131 #[.val (.int i0), .val (.int i1), .val (.int i2), .val (.int i3), .val (.int i4), .val (.ref ka), .val (.int v32), .val (.int fl), .val (.int m0), .val (.int m1), .val (.int m2), .val (.int m3), .val (.ref a), .unset, .unset, .unset, .unset, .unset, .unset] [(.int m2), (.ref ka), (.int m2), (.ref a)]))
    refine g_daload hG X13 hx hZ rfl V_ka (j := m2) (v := (.double (kf m2))) (in4_nn im2) (in4_atd im2 rfl) (hb hby at_131) (pc' := 132) rfl ?_
    show G (T13.setTop (mkF m 132 #[.val (.int i0), .val (.int i1), .val (.int i2), .val (.int i3), .val (.int i4), .val (.ref ka), .val (.int v32), .val (.int fl), .val (.int m0), .val (.int m1), .val (.int m2), .val (.int m3), .val (.ref a), .unset, .unset, .unset, .unset, .unset, .unset] [(.double (kf m2)), (.int m2), (.ref a)]))
    refine g_callV hG X13 hx hZ (y := (⟨"com/example/tributary/tributary/plan/NodeHeap", "offer", "(ID)V"⟩ : MethodName)) 0 hown (wd hw 25 rfl) (wd hw 26 rfl) (wd hw 28 rfl) (wd hw 27 rfl) (wd hw 7 rfl) (wd hw 29 rfl) (by decide) (rmOf2 l Z a0 hw [] a hp pp ky (c2 bt m0 m1) (upd (upd zk m0 (kf m0)) m1 (kf m1)) bt m2 (kf m2) T13.heap n0 Zs ⟨Ex_a, F_heap_a, F_position_a, F_key_a, F_size_a, V_hp, V_pp, V_ky⟩ ⟨ga, ghp, gpp, gky, d1, d2, d3, d4, d5, d6⟩ im2 hp2 (own_I4 ob2 J3) (own_HB ob2 J3 U3 BF)) (by decide) (by decide) (by rw [hml]; rfl) pd_5 rfl (argsL := [(.int m2), (.double (kf m2))]) (rest := []) rfl rfl (Nat.le_of_eq rfl) (hb hby at_132) rfl Ex_a (by decide) (by decide) (pc' := 135) rfl ?_
    intro T14 rv14 L14 X14 hQ14
    obtain ⟨rfl, Nq14, Kq14, Ex_a, F_heap_a, F_position_a, F_key_a, F_size_a, V_hp, V_pp, V_ky⟩ := hQ14
    have NF14 := Fr.app NF13 Nq14
    have V_ka := V_ka.keep Kq14 (ninS ne_ka_a (ninS khp (ninS kpp (ninS kky nin0))))
    have Zs := Nat.le_trans Zs Kq14.1
    show G (T14.setTop (mkF m 135 #[.val (.int i0), .val (.int i1), .val (.int i2), .val (.int i3), .val (.int i4), .val (.ref ka), .val (.int v32), .val (.int fl), .val (.int m0), .val (.int m1), .val (.int m2), .val (.int m3), .val (.ref a), .unset, .unset, .unset, .unset, .unset, .unset] []))
    refine g_aload hG X14 hx (hb hby at_135) (pc' := 137) rfl rfl rfl ?_
    show G (T14.setTop (mkF m 137 #[.val (.int i0), .val (.int i1), .val (.int i2), .val (.int i3), .val (.int i4), .val (.ref ka), .val (.int v32), .val (.int fl), .val (.int m0), .val (.int m1), .val (.int m2), .val (.int m3), .val (.ref a), .unset, .unset, .unset, .unset, .unset, .unset] [(.ref a)]))
    refine g_iload hG X14 hx (hb hby at_137) (pc' := 139) rfl rfl ?_
    show G (T14.setTop (mkF m 139 #[.val (.int i0), .val (.int i1), .val (.int i2), .val (.int i3), .val (.int i4), .val (.ref ka), .val (.int v32), .val (.int fl), .val (.int m0), .val (.int m1), .val (.int m2), .val (.int m3), .val (.ref a), .unset, .unset, .unset, .unset, .unset, .unset] [(.int m3), (.ref a)]))
    refine g_aload hG X14 hx (hb hby at_139) (pc' := 141) rfl rfl rfl ?_
    show G (T14.setTop (mkF m 141 #[.val (.int i0), .val (.int i1), .val (.int i2), .val (.int i3), .val (.int i4), .val (.ref ka), .val (.int v32), .val (.int fl), .val (.int m0), .val (.int m1), .val (.int m2), .val (.int m3), .val (.ref a), .unset, .unset, .unset, .unset, .unset, .unset] [(.ref ka), (.int m3), (.ref a)]))
    refine g_iload hG X14 hx (hb hby at_141) (pc' := 143) rfl rfl ?_
    show G (T14.setTop (mkF m 143 #[.val (.int i0), .val (.int i1), .val (.int i2), .val (.int i3), .val (.int i4), .val (.ref ka), .val (.int v32), .val (.int fl), .val (.int m0), .val (.int m1), .val (.int m2), .val (.int m3), .val (.ref a), .unset, .unset, .unset, .unset, .unset, .unset] [(.int m3), (.ref ka), (.int m3), (.ref a)]))
    refine g_daload hG X14 hx hZ rfl V_ka (j := m3) (v := (.double (kf m3))) (in4_nn im3) (in4_atd im3 rfl) (hb hby at_143) (pc' := 144) rfl ?_
    show G (T14.setTop (mkF m 144 #[.val (.int i0), .val (.int i1), .val (.int i2), .val (.int i3), .val (.int i4), .val (.ref ka), .val (.int v32), .val (.int fl), .val (.int m0), .val (.int m1), .val (.int m2), .val (.int m3), .val (.ref a), .unset, .unset, .unset, .unset, .unset, .unset] [(.double (kf m3)), (.int m3), (.ref a)]))
    refine g_callV hG X14 hx hZ (y := (⟨"com/example/tributary/tributary/plan/NodeHeap", "offer", "(ID)V"⟩ : MethodName)) 0 hown (wd hw 25 rfl) (wd hw 26 rfl) (wd hw 28 rfl) (wd hw 27 rfl) (wd hw 7 rfl) (wd hw 29 rfl) (by decide) (rmOf3 l Z a0 hw [] a hp pp ky (c3 bt m0 m1 m2) (upd (upd (upd zk m0 (kf m0)) m1 (kf m1)) m2 (kf m2)) bt m3 (kf m3) T14.heap n0 Zs ⟨Ex_a, F_heap_a, F_position_a, F_key_a, F_size_a, V_hp, V_pp, V_ky⟩ ⟨ga, ghp, gpp, gky, d1, d2, d3, d4, d5, d6⟩ im3 hp3 (own_I4 ob3 J4) (own_HB ob3 J4 U4 BF)) (by decide) (by decide) (by rw [hml]; rfl) pd_5 rfl (argsL := [(.int m3), (.double (kf m3))]) (rest := []) rfl rfl (Nat.le_of_eq rfl) (hb hby at_144) rfl Ex_a (by decide) (by decide) (pc' := 147) rfl ?_
    intro T15 rv15 L15 X15 hQ15
    obtain ⟨rfl, Nq15, Kq15, Ex_a, F_heap_a, F_position_a, F_key_a, F_size_a, V_hp, V_pp, V_ky⟩ := hQ15
    have NF15 := Fr.app NF14 Nq15
    have V_ka := V_ka.keep Kq15 (ninS ne_ka_a (ninS khp (ninS kpp (ninS kky nin0))))
    have Zs := Nat.le_trans Zs Kq15.1
    show G (T15.setTop (mkF m 147 #[.val (.int i0), .val (.int i1), .val (.int i2), .val (.int i3), .val (.int i4), .val (.ref ka), .val (.int v32), .val (.int fl), .val (.int m0), .val (.int m1), .val (.int m2), .val (.int m3), .val (.ref a), .unset, .unset, .unset, .unset, .unset, .unset] []))
    refine g_aload hG X15 hx (hb hby at_147) (pc' := 149) rfl rfl rfl ?_
    show G (T15.setTop (mkF m 149 #[.val (.int i0), .val (.int i1), .val (.int i2), .val (.int i3), .val (.int i4), .val (.ref ka), .val (.int v32), .val (.int fl), .val (.int m0), .val (.int m1), .val (.int m2), .val (.int m3), .val (.ref a), .unset, .unset, .unset, .unset, .unset, .unset] [(.ref a)]))
    obtain ⟨f0, hf0⟩ : ∃ z, (c4 bt m0 m1 m2 m3).1 0 = z := ⟨_, rfl⟩
    have jf0 : In4 f0 := by rw [← hf0]; exact own_I4 oc4 J4 0 (by decide)
    refine g_callV hG X15 hx hZ (y := (⟨"com/example/tributary/tributary/plan/NodeHeap", "poll", "()I"⟩ : MethodName)) 0 hown (wd hw 44 rfl) (wd hw 45 rfl) (wd hw 47 rfl) (wd hw 46 rfl) (wd hw 7 rfl) (wd hw 48 rfl) (by decide) (rmPo4 l Z a0 hw [] a hp pp ky (c4 bt m0 m1 m2 m3) (upd (upd (upd (upd zk m0 (kf m0)) m1 (kf m1)) m2 (kf m2)) m3 (kf m3)) bt f0 T15.heap n0 Zs hf0 ⟨Ex_a, F_heap_a, F_position_a, F_key_a, F_size_a, V_hp, V_pp, V_ky⟩ ⟨ga, ghp, gpp, gky, d1, d2, d3, d4, d5, d6⟩ (own_I4 oc4 J4) (own_HB oc4 J4 U4 BF)) (by decide) (by decide) (by rw [hml]; rfl) pd_6 rfl (argsL := []) (rest := []) rfl rfl (Nat.le_of_eq rfl) (hb hby at_149) rfl Ex_a (by decide) (by decide) (pc' := 152) rfl ?_
    intro T16 rv16 L16 X16 hQ16
    obtain ⟨rfl, Nq16, Kq16, Ex_a, F_heap_a, F_position_a, F_key_a, F_size_a, V_hp, V_pp, V_ky⟩ := hQ16
    have NF16 := Fr.app NF15 Nq16
    have V_ka := V_ka.keep Kq16 (ninS ne_ka_a (ninS khp (ninS kpp (ninS kky nin0))))
    have Zs := Nat.le_trans Zs Kq16.1
    show G (T16.setTop (mkF m 152 #[.val (.int i0), .val (.int i1), .val (.int i2), .val (.int i3), .val (.int i4), .val (.ref ka), .val (.int v32), .val (.int fl), .val (.int m0), .val (.int m1), .val (.int m2), .val (.int m3), .val (.ref a), .unset, .unset, .unset, .unset, .unset, .unset] [(.int f0)]))
    refine g_istore hG X16 hx (hb hby at_152) (pc' := 154) rfl (Ls' := #[.val (.int i0), .val (.int i1), .val (.int i2), .val (.int i3), .val (.int i4), .val (.ref ka), .val (.int v32), .val (.int fl), .val (.int m0), .val (.int m1), .val (.int m2), .val (.int m3), .val (.ref a), .val (.int f0), .unset, .unset, .unset, .unset, .unset]) rfl ?_
    show G (T16.setTop (mkF m 154 #[.val (.int i0), .val (.int i1), .val (.int i2), .val (.int i3), .val (.int i4), .val (.ref ka), .val (.int v32), .val (.int fl), .val (.int m0), .val (.int m1), .val (.int m2), .val (.int m3), .val (.ref a), .val (.int f0), .unset, .unset, .unset, .unset, .unset] []))
    refine g_aload hG X16 hx (hb hby at_154) (pc' := 156) rfl rfl rfl ?_
    show G (T16.setTop (mkF m 156 #[.val (.int i0), .val (.int i1), .val (.int i2), .val (.int i3), .val (.int i4), .val (.ref ka), .val (.int v32), .val (.int fl), .val (.int m0), .val (.int m1), .val (.int m2), .val (.int m3), .val (.ref a), .val (.int f0), .unset, .unset, .unset, .unset, .unset] [(.ref a)]))
    obtain ⟨f1, hf1⟩ : ∃ z, (po4 bt (c4 bt m0 m1 m2 m3)).1 0 = z := ⟨_, rfl⟩
    have jf1 : In4 f1 := by rw [← hf1]; exact own_I4 oc3 J4 0 (by decide)
    refine g_callV hG X16 hx hZ (y := (⟨"com/example/tributary/tributary/plan/NodeHeap", "poll", "()I"⟩ : MethodName)) 0 hown (wd hw 44 rfl) (wd hw 45 rfl) (wd hw 47 rfl) (wd hw 46 rfl) (wd hw 7 rfl) (wd hw 48 rfl) (by decide) (rmPo3 l Z a0 hw [] a hp pp ky (po4 bt (c4 bt m0 m1 m2 m3)) (upd (upd (upd (upd zk m0 (kf m0)) m1 (kf m1)) m2 (kf m2)) m3 (kf m3)) bt f1 T16.heap n0 Zs hf1 ⟨Ex_a, F_heap_a, F_position_a, F_key_a, F_size_a, V_hp, V_pp, V_ky⟩ ⟨ga, ghp, gpp, gky, d1, d2, d3, d4, d5, d6⟩ (own_I4 oc3 J4) (own_HB oc3 J4 U4 BF)) (by decide) (by decide) (by rw [hml]; rfl) pd_6 rfl (argsL := []) (rest := []) rfl rfl (Nat.le_of_eq rfl) (hb hby at_156) rfl Ex_a (by decide) (by decide) (pc' := 159) rfl ?_
    intro T17 rv17 L17 X17 hQ17
    obtain ⟨rfl, Nq17, Kq17, Ex_a, F_heap_a, F_position_a, F_key_a, F_size_a, V_hp, V_pp, V_ky⟩ := hQ17
    have NF17 := Fr.app NF16 Nq17
    have V_ka := V_ka.keep Kq17 (ninS ne_ka_a (ninS khp (ninS kpp (ninS kky nin0))))
    have Zs := Nat.le_trans Zs Kq17.1
    show G (T17.setTop (mkF m 159 #[.val (.int i0), .val (.int i1), .val (.int i2), .val (.int i3), .val (.int i4), .val (.ref ka), .val (.int v32), .val (.int fl), .val (.int m0), .val (.int m1), .val (.int m2), .val (.int m3), .val (.ref a), .val (.int f0), .unset, .unset, .unset, .unset, .unset] [(.int f1)]))
    refine g_istore hG X17 hx (hb hby at_159) (pc' := 161) rfl (Ls' := #[.val (.int i0), .val (.int i1), .val (.int i2), .val (.int i3), .val (.int i4), .val (.ref ka), .val (.int v32), .val (.int fl), .val (.int m0), .val (.int m1), .val (.int m2), .val (.int m3), .val (.ref a), .val (.int f0), .val (.int f1), .unset, .unset, .unset, .unset]) rfl ?_
    show G (T17.setTop (mkF m 161 #[.val (.int i0), .val (.int i1), .val (.int i2), .val (.int i3), .val (.int i4), .val (.ref ka), .val (.int v32), .val (.int fl), .val (.int m0), .val (.int m1), .val (.int m2), .val (.int m3), .val (.ref a), .val (.int f0), .val (.int f1), .unset, .unset, .unset, .unset] []))
    refine g_aload hG X17 hx (hb hby at_161) (pc' := 163) rfl rfl rfl ?_
    show G (T17.setTop (mkF m 163 #[.val (.int i0), .val (.int i1), .val (.int i2), .val (.int i3), .val (.int i4), .val (.ref ka), .val (.int v32), .val (.int fl), .val (.int m0), .val (.int m1), .val (.int m2), .val (.int m3), .val (.ref a), .val (.int f0), .val (.int f1), .unset, .unset, .unset, .unset] [(.ref a)]))
    obtain ⟨f2, hf2⟩ : ∃ z, (po3 bt (po4 bt (c4 bt m0 m1 m2 m3))).1 0 = z := ⟨_, rfl⟩
    have jf2 : In4 f2 := by rw [← hf2]; exact own_I4 oc2 J4 0 (by decide)
    refine g_callV hG X17 hx hZ (y := (⟨"com/example/tributary/tributary/plan/NodeHeap", "poll", "()I"⟩ : MethodName)) 0 hown (wd hw 44 rfl) (wd hw 45 rfl) (wd hw 47 rfl) (wd hw 46 rfl) (wd hw 7 rfl) (wd hw 48 rfl) (by decide) (rmPo2 l Z a0 hw [] a hp pp ky (po3 bt (po4 bt (c4 bt m0 m1 m2 m3))) (upd (upd (upd (upd zk m0 (kf m0)) m1 (kf m1)) m2 (kf m2)) m3 (kf m3)) bt f2 T17.heap n0 Zs hf2 ⟨Ex_a, F_heap_a, F_position_a, F_key_a, F_size_a, V_hp, V_pp, V_ky⟩ ⟨ga, ghp, gpp, gky, d1, d2, d3, d4, d5, d6⟩ (own_I4 oc2 J4) own_HB0) (by decide) (by decide) (by rw [hml]; rfl) pd_6 rfl (argsL := []) (rest := []) rfl rfl (Nat.le_of_eq rfl) (hb hby at_163) rfl Ex_a (by decide) (by decide) (pc' := 166) rfl ?_
    intro T18 rv18 L18 X18 hQ18
    obtain ⟨rfl, Nq18, Kq18, Ex_a, F_heap_a, F_position_a, F_key_a, F_size_a, V_hp, V_pp, V_ky⟩ := hQ18
    have NF18 := Fr.app NF17 Nq18
    have V_ka := V_ka.keep Kq18 (ninS ne_ka_a (ninS khp (ninS kpp (ninS kky nin0))))
    have Zs := Nat.le_trans Zs Kq18.1
    show G (T18.setTop (mkF m 166 #[.val (.int i0), .val (.int i1), .val (.int i2), .val (.int i3), .val (.int i4), .val (.ref ka), .val (.int v32), .val (.int fl), .val (.int m0), .val (.int m1), .val (.int m2), .val (.int m3), .val (.ref a), .val (.int f0), .val (.int f1), .unset, .unset, .unset, .unset] [(.int f2)]))
    refine g_istore hG X18 hx (hb hby at_166) (pc' := 168) rfl (Ls' := #[.val (.int i0), .val (.int i1), .val (.int i2), .val (.int i3), .val (.int i4), .val (.ref ka), .val (.int v32), .val (.int fl), .val (.int m0), .val (.int m1), .val (.int m2), .val (.int m3), .val (.ref a), .val (.int f0), .val (.int f1), .val (.int f2), .unset, .unset, .unset]) rfl ?_
    show G (T18.setTop (mkF m 168 #[.val (.int i0), .val (.int i1), .val (.int i2), .val (.int i3), .val (.int i4), .val (.ref ka), .val (.int v32), .val (.int fl), .val (.int m0), .val (.int m1), .val (.int m2), .val (.int m3), .val (.ref a), .val (.int f0), .val (.int f1), .val (.int f2), .unset, .unset, .unset] []))
    refine g_aload hG X18 hx (hb hby at_168) (pc' := 170) rfl rfl rfl ?_
    show G (T18.setTop (mkF m 170 #[.val (.int i0), .val (.int i1), .val (.int i2), .val (.int i3), .val (.int i4), .val (.ref ka), .val (.int v32), .val (.int fl), .val (.int m0), .val (.int m1), .val (.int m2), .val (.int m3), .val (.ref a), .val (.int f0), .val (.int f1), .val (.int f2), .unset, .unset, .unset] [(.ref a)]))
    obtain ⟨f3, hf3⟩ : ∃ z, (po2 bt (po3 bt (po4 bt (c4 bt m0 m1 m2 m3)))).1 0 = z := ⟨_, rfl⟩
    have jf3 : In4 f3 := by rw [← hf3]; exact own_I4 oc1 J4 0 (by decide)
    refine g_callV hG X18 hx hZ (y := (⟨"com/example/tributary/tributary/plan/NodeHeap", "poll", "()I"⟩ : MethodName)) 0 hown (wd hw 44 rfl) (wd hw 45 rfl) (wd hw 47 rfl) (wd hw 46 rfl) (wd hw 7 rfl) (wd hw 48 rfl) (by decide) (rmPo1 l Z a0 hw [] a hp pp ky (po2 bt (po3 bt (po4 bt (c4 bt m0 m1 m2 m3)))) (upd (upd (upd (upd zk m0 (kf m0)) m1 (kf m1)) m2 (kf m2)) m3 (kf m3)) bt f3 T18.heap n0 Zs hf3 ⟨Ex_a, F_heap_a, F_position_a, F_key_a, F_size_a, V_hp, V_pp, V_ky⟩ ⟨ga, ghp, gpp, gky, d1, d2, d3, d4, d5, d6⟩ (own_I4 oc1 J4) own_HB0) (by decide) (by decide) (by rw [hml]; rfl) pd_6 rfl (argsL := []) (rest := []) rfl rfl (Nat.le_of_eq rfl) (hb hby at_170) rfl Ex_a (by decide) (by decide) (pc' := 173) rfl ?_
    intro T19 rv19 L19 X19 hQ19
    obtain ⟨rfl, Nq19, Kq19, Ex_a, F_heap_a, F_position_a, F_key_a, F_size_a, V_hp, V_pp, V_ky⟩ := hQ19
    have NF19 := Fr.app NF18 Nq19
    have V_ka := V_ka.keep Kq19 (ninS ne_ka_a (ninS khp (ninS kpp (ninS kky nin0))))
    have Zs := Nat.le_trans Zs Kq19.1
    show G (T19.setTop (mkF m 173 #[.val (.int i0), .val (.int i1), .val (.int i2), .val (.int i3), .val (.int i4), .val (.ref ka), .val (.int v32), .val (.int fl), .val (.int m0), .val (.int m1), .val (.int m2), .val (.int m3), .val (.ref a), .val (.int f0), .val (.int f1), .val (.int f2), .unset, .unset, .unset] [(.int f3)]))
    refine g_istore hG X19 hx (hb hby at_173) (pc' := 175) rfl (Ls' := #[.val (.int i0), .val (.int i1), .val (.int i2), .val (.int i3), .val (.int i4), .val (.ref ka), .val (.int v32), .val (.int fl), .val (.int m0), .val (.int m1), .val (.int m2), .val (.int m3), .val (.ref a), .val (.int f0), .val (.int f1), .val (.int f2), .val (.int f3), .unset, .unset]) rfl ?_
    show G (T19.setTop (mkF m 175 #[.val (.int i0), .val (.int i1), .val (.int i2), .val (.int i3), .val (.int i4), .val (.ref ka), .val (.int v32), .val (.int fl), .val (.int m0), .val (.int m1), .val (.int m2), .val (.int m3), .val (.ref a), .val (.int f0), .val (.int f1), .val (.int f2), .val (.int f3), .unset, .unset] []))
    refine g_aload hG X19 hx (hb hby at_175) (pc' := 177) rfl rfl rfl ?_
    show G (T19.setTop (mkF m 177 #[.val (.int i0), .val (.int i1), .val (.int i2), .val (.int i3), .val (.int i4), .val (.ref ka), .val (.int v32), .val (.int fl), .val (.int m0), .val (.int m1), .val (.int m2), .val (.int m3), .val (.ref a), .val (.int f0), .val (.int f1), .val (.int f2), .val (.int f3), .unset, .unset] [(.ref a)]))
    refine g_callV hG X19 hx hZ (y := (⟨"com/example/tributary/tributary/plan/NodeHeap", "isEmpty", "()Z"⟩ : MethodName)) 0 hown (wd hw 53 rfl) (wd hw 54 rfl) (wd hw 56 rfl) (wd hw 55 rfl) (wd hw 7 rfl) (wd hw 57 rfl) (by decide) (rmEm0 l Z a0 hw [] a hp pp ky (po1 bt (po2 bt (po3 bt (po4 bt (c4 bt m0 m1 m2 m3))))) (upd (upd (upd (upd zk m0 (kf m0)) m1 (kf m1)) m2 (kf m2)) m3 (kf m3)) T19.heap n0 Zs ⟨Ex_a, F_heap_a, F_position_a, F_key_a, F_size_a, V_hp, V_pp, V_ky⟩ ⟨ga, ghp, gpp, gky, d1, d2, d3, d4, d5, d6⟩) (by decide) (by decide) (by rw [hml]; rfl) pd_7 rfl (argsL := []) (rest := []) rfl rfl (Nat.le_of_eq rfl) (hb hby at_177) rfl Ex_a (by decide) (by decide) (pc' := 180) rfl ?_
    intro T20 rv20 L20 X20 hQ20
    obtain ⟨rfl, Nq20, eh20⟩ := hQ20
    have NF20 := Fr.app NF19 Nq20
    show G (T20.setTop (mkF m 180 #[.val (.int i0), .val (.int i1), .val (.int i2), .val (.int i3), .val (.int i4), .val (.ref ka), .val (.int v32), .val (.int fl), .val (.int m0), .val (.int m1), .val (.int m2), .val (.int m3), .val (.ref a), .val (.int f0), .val (.int f1), .val (.int f2), .val (.int f3), .unset, .unset] [(.int 1)]))
    refine g_istore hG X20 hx (hb hby at_180) (pc' := 182) rfl (Ls' := #[.val (.int i0), .val (.int i1), .val (.int i2), .val (.int i3), .val (.int i4), .val (.ref ka), .val (.int v32), .val (.int fl), .val (.int m0), .val (.int m1), .val (.int m2), .val (.int m3), .val (.ref a), .val (.int f0), .val (.int f1), .val (.int f2), .val (.int f3), .val (.int 1), .unset]) rfl ?_
    show G (T20.setTop (mkF m 182 #[.val (.int i0), .val (.int i1), .val (.int i2), .val (.int i3), .val (.int i4), .val (.ref ka), .val (.int v32), .val (.int fl), .val (.int m0), .val (.int m1), .val (.int m2), .val (.int m3), .val (.ref a), .val (.int f0), .val (.int f1), .val (.int f2), .val (.int f3), .val (.int 1), .unset] []))
    rw [hf0, hf1, hf2, hf3] at PFin
    unfold fin3 at PFin
    simp only [Bool.and_eq_true] at PFin
    obtain ⟨⟨⟨P15, b01⟩, b12⟩, b23⟩ := PFin
    have P15 := of_decide_eq_true P15
    refine g_iload hG X20 hx (hb hby at_182) (pc' := 184) rfl rfl ?_
    show G (T20.setTop (mkF m 184 #[.val (.int i0), .val (.int i1), .val (.int i2), .val (.int i3), .val (.int i4), .val (.ref ka), .val (.int v32), .val (.int fl), .val (.int m0), .val (.int m1), .val (.int m2), .val (.int m3), .val (.ref a), .val (.int f0), .val (.int f1), .val (.int f2), .val (.int f3), .val (.int 1), .unset] [(.int f0)]))
    refine g_callS hG X20 hx hZ (y := (⟨"com/example/tributary/tributary/plan/NodeHeapPollPinLaw", "inRange", "(I)Z"⟩ : MethodName)) 0 hown (wd hw 58 rfl) (wd hw 59 rfl) (wd hw 3 rfl) (wd hw 60 rfl) (by decide) (rmIR l Z a0 hw [] f0 T19.heap n0 Zs jf0) (by decide) (by decide) (by rw [hml]; rfl) pd_8 rfl (argsL := [(.int f0)]) (rest := []) rfl rfl (Nat.le_of_eq rfl) (hb hby at_184) eh20 (by decide) (by decide) (pc' := 187) rfl ?_
    intro T21 rv21 L21 X21 hQ21
    obtain ⟨rfl, Nq21, eh21⟩ := hQ21
    have NF21 := Fr.app NF20 Nq21
    show G (T21.setTop (mkF m 187 #[.val (.int i0), .val (.int i1), .val (.int i2), .val (.int i3), .val (.int i4), .val (.ref ka), .val (.int v32), .val (.int fl), .val (.int m0), .val (.int m1), .val (.int m2), .val (.int m3), .val (.ref a), .val (.int f0), .val (.int f1), .val (.int f2), .val (.int f3), .val (.int 1), .unset] [(.int 1)]))
    refine g_ifNo hG X21 hx (hb hby at_187) (pc' := 190) (by decide) rfl ?_
    show G (T21.setTop (mkF m 190 #[.val (.int i0), .val (.int i1), .val (.int i2), .val (.int i3), .val (.int i4), .val (.ref ka), .val (.int v32), .val (.int fl), .val (.int m0), .val (.int m1), .val (.int m2), .val (.int m3), .val (.ref a), .val (.int f0), .val (.int f1), .val (.int f2), .val (.int f3), .val (.int 1), .unset] []))
    refine g_iload hG X21 hx (hb hby at_190) (pc' := 192) rfl rfl ?_
    show G (T21.setTop (mkF m 192 #[.val (.int i0), .val (.int i1), .val (.int i2), .val (.int i3), .val (.int i4), .val (.ref ka), .val (.int v32), .val (.int fl), .val (.int m0), .val (.int m1), .val (.int m2), .val (.int m3), .val (.ref a), .val (.int f0), .val (.int f1), .val (.int f2), .val (.int f3), .val (.int 1), .unset] [(.int f1)]))
    refine g_callS hG X21 hx hZ (y := (⟨"com/example/tributary/tributary/plan/NodeHeapPollPinLaw", "inRange", "(I)Z"⟩ : MethodName)) 0 hown (wd hw 58 rfl) (wd hw 59 rfl) (wd hw 3 rfl) (wd hw 60 rfl) (by decide) (rmIR l Z a0 hw [] f1 T19.heap n0 Zs jf1) (by decide) (by decide) (by rw [hml]; rfl) pd_8 rfl (argsL := [(.int f1)]) (rest := []) rfl rfl (Nat.le_of_eq rfl) (hb hby at_192) eh21 (by decide) (by decide) (pc' := 195) rfl ?_
    intro T22 rv22 L22 X22 hQ22
    obtain ⟨rfl, Nq22, eh22⟩ := hQ22
    have NF22 := Fr.app NF21 Nq22
    show G (T22.setTop (mkF m 195 #[.val (.int i0), .val (.int i1), .val (.int i2), .val (.int i3), .val (.int i4), .val (.ref ka), .val (.int v32), .val (.int fl), .val (.int m0), .val (.int m1), .val (.int m2), .val (.int m3), .val (.ref a), .val (.int f0), .val (.int f1), .val (.int f2), .val (.int f3), .val (.int 1), .unset] [(.int 1)]))
    refine g_ifNo hG X22 hx (hb hby at_195) (pc' := 198) (by decide) rfl ?_
    show G (T22.setTop (mkF m 198 #[.val (.int i0), .val (.int i1), .val (.int i2), .val (.int i3), .val (.int i4), .val (.ref ka), .val (.int v32), .val (.int fl), .val (.int m0), .val (.int m1), .val (.int m2), .val (.int m3), .val (.ref a), .val (.int f0), .val (.int f1), .val (.int f2), .val (.int f3), .val (.int 1), .unset] []))
    refine g_iload hG X22 hx (hb hby at_198) (pc' := 200) rfl rfl ?_
    show G (T22.setTop (mkF m 200 #[.val (.int i0), .val (.int i1), .val (.int i2), .val (.int i3), .val (.int i4), .val (.ref ka), .val (.int v32), .val (.int fl), .val (.int m0), .val (.int m1), .val (.int m2), .val (.int m3), .val (.ref a), .val (.int f0), .val (.int f1), .val (.int f2), .val (.int f3), .val (.int 1), .unset] [(.int f2)]))
    refine g_callS hG X22 hx hZ (y := (⟨"com/example/tributary/tributary/plan/NodeHeapPollPinLaw", "inRange", "(I)Z"⟩ : MethodName)) 0 hown (wd hw 58 rfl) (wd hw 59 rfl) (wd hw 3 rfl) (wd hw 60 rfl) (by decide) (rmIR l Z a0 hw [] f2 T19.heap n0 Zs jf2) (by decide) (by decide) (by rw [hml]; rfl) pd_8 rfl (argsL := [(.int f2)]) (rest := []) rfl rfl (Nat.le_of_eq rfl) (hb hby at_200) eh22 (by decide) (by decide) (pc' := 203) rfl ?_
    intro T23 rv23 L23 X23 hQ23
    obtain ⟨rfl, Nq23, eh23⟩ := hQ23
    have NF23 := Fr.app NF22 Nq23
    show G (T23.setTop (mkF m 203 #[.val (.int i0), .val (.int i1), .val (.int i2), .val (.int i3), .val (.int i4), .val (.ref ka), .val (.int v32), .val (.int fl), .val (.int m0), .val (.int m1), .val (.int m2), .val (.int m3), .val (.ref a), .val (.int f0), .val (.int f1), .val (.int f2), .val (.int f3), .val (.int 1), .unset] [(.int 1)]))
    refine g_ifNo hG X23 hx (hb hby at_203) (pc' := 206) (by decide) rfl ?_
    show G (T23.setTop (mkF m 206 #[.val (.int i0), .val (.int i1), .val (.int i2), .val (.int i3), .val (.int i4), .val (.ref ka), .val (.int v32), .val (.int fl), .val (.int m0), .val (.int m1), .val (.int m2), .val (.int m3), .val (.ref a), .val (.int f0), .val (.int f1), .val (.int f2), .val (.int f3), .val (.int 1), .unset] []))
    refine g_iload hG X23 hx (hb hby at_206) (pc' := 208) rfl rfl ?_
    show G (T23.setTop (mkF m 208 #[.val (.int i0), .val (.int i1), .val (.int i2), .val (.int i3), .val (.int i4), .val (.ref ka), .val (.int v32), .val (.int fl), .val (.int m0), .val (.int m1), .val (.int m2), .val (.int m3), .val (.ref a), .val (.int f0), .val (.int f1), .val (.int f2), .val (.int f3), .val (.int 1), .unset] [(.int f3)]))
    refine g_callS hG X23 hx hZ (y := (⟨"com/example/tributary/tributary/plan/NodeHeapPollPinLaw", "inRange", "(I)Z"⟩ : MethodName)) 0 hown (wd hw 58 rfl) (wd hw 59 rfl) (wd hw 3 rfl) (wd hw 60 rfl) (by decide) (rmIR l Z a0 hw [] f3 T19.heap n0 Zs jf3) (by decide) (by decide) (by rw [hml]; rfl) pd_8 rfl (argsL := [(.int f3)]) (rest := []) rfl rfl (Nat.le_of_eq rfl) (hb hby at_208) eh23 (by decide) (by decide) (pc' := 211) rfl ?_
    intro T24 rv24 L24 X24 hQ24
    obtain ⟨rfl, Nq24, eh24⟩ := hQ24
    have NF24 := Fr.app NF23 Nq24
    show G (T24.setTop (mkF m 211 #[.val (.int i0), .val (.int i1), .val (.int i2), .val (.int i3), .val (.int i4), .val (.ref ka), .val (.int v32), .val (.int fl), .val (.int m0), .val (.int m1), .val (.int m2), .val (.int m3), .val (.ref a), .val (.int f0), .val (.int f1), .val (.int f2), .val (.int f3), .val (.int 1), .unset] [(.int 1)]))
    refine g_ifYes hG X24 hx (hb hby at_211) (pc' := 216) (by decide) (by decide) (by decide) ?_
    show G (T24.setTop (mkF m 216 #[.val (.int i0), .val (.int i1), .val (.int i2), .val (.int i3), .val (.int i4), .val (.ref ka), .val (.int v32), .val (.int fl), .val (.int m0), .val (.int m1), .val (.int m2), .val (.int m3), .val (.ref a), .val (.int f0), .val (.int f1), .val (.int f2), .val (.int f3), .val (.int 1), .unset] []))
    refine g_iconst hG X24 hx (hb hby at_216) (pc' := 217) rfl (v := (1 : Int32)) rfl ?_
    show G (T24.setTop (mkF m 217 #[.val (.int i0), .val (.int i1), .val (.int i2), .val (.int i3), .val (.int i4), .val (.ref ka), .val (.int v32), .val (.int fl), .val (.int m0), .val (.int m1), .val (.int m2), .val (.int m3), .val (.ref a), .val (.int f0), .val (.int f1), .val (.int f2), .val (.int f3), .val (.int 1), .unset] [(.int 1)]))
    refine g_iload hG X24 hx (hb hby at_217) (pc' := 219) rfl rfl ?_
    show G (T24.setTop (mkF m 219 #[.val (.int i0), .val (.int i1), .val (.int i2), .val (.int i3), .val (.int i4), .val (.ref ka), .val (.int v32), .val (.int fl), .val (.int m0), .val (.int m1), .val (.int m2), .val (.int m3), .val (.ref a), .val (.int f0), .val (.int f1), .val (.int f2), .val (.int f3), .val (.int 1), .unset] [(.int f0), (.int 1)]))
    obtain ⟨v219, q219⟩ : ∃ zz : Int32, (1 : Int32) <<< (f0 &&& 31) = zz := ⟨_, rfl⟩
    refine g_ishl hG X24 hx (hb hby at_219) (pc' := 220) rfl q219 ?_
    show G (T24.setTop (mkF m 220 #[.val (.int i0), .val (.int i1), .val (.int i2), .val (.int i3), .val (.int i4), .val (.ref ka), .val (.int v32), .val (.int fl), .val (.int m0), .val (.int m1), .val (.int m2), .val (.int m3), .val (.ref a), .val (.int f0), .val (.int f1), .val (.int f2), .val (.int f3), .val (.int 1), .unset] [(.int v219)]))
    refine g_iconst hG X24 hx (hb hby at_220) (pc' := 221) rfl (v := (1 : Int32)) rfl ?_
    show G (T24.setTop (mkF m 221 #[.val (.int i0), .val (.int i1), .val (.int i2), .val (.int i3), .val (.int i4), .val (.ref ka), .val (.int v32), .val (.int fl), .val (.int m0), .val (.int m1), .val (.int m2), .val (.int m3), .val (.ref a), .val (.int f0), .val (.int f1), .val (.int f2), .val (.int f3), .val (.int 1), .unset] [(.int 1), (.int v219)]))
    refine g_iload hG X24 hx (hb hby at_221) (pc' := 223) rfl rfl ?_
    show G (T24.setTop (mkF m 223 #[.val (.int i0), .val (.int i1), .val (.int i2), .val (.int i3), .val (.int i4), .val (.ref ka), .val (.int v32), .val (.int fl), .val (.int m0), .val (.int m1), .val (.int m2), .val (.int m3), .val (.ref a), .val (.int f0), .val (.int f1), .val (.int f2), .val (.int f3), .val (.int 1), .unset] [(.int f1), (.int 1), (.int v219)]))
    obtain ⟨v223, q223⟩ : ∃ zz : Int32, (1 : Int32) <<< (f1 &&& 31) = zz := ⟨_, rfl⟩
    refine g_ishl hG X24 hx (hb hby at_223) (pc' := 224) rfl q223 ?_
    show G (T24.setTop (mkF m 224 #[.val (.int i0), .val (.int i1), .val (.int i2), .val (.int i3), .val (.int i4), .val (.ref ka), .val (.int v32), .val (.int fl), .val (.int m0), .val (.int m1), .val (.int m2), .val (.int m3), .val (.ref a), .val (.int f0), .val (.int f1), .val (.int f2), .val (.int f3), .val (.int 1), .unset] [(.int v223), (.int v219)]))
    obtain ⟨v224, q224⟩ : ∃ zz : Int32, v219 ||| v223 = zz := ⟨_, rfl⟩
    refine g_ior hG X24 hx (hb hby at_224) (pc' := 225) rfl q224 ?_
    show G (T24.setTop (mkF m 225 #[.val (.int i0), .val (.int i1), .val (.int i2), .val (.int i3), .val (.int i4), .val (.ref ka), .val (.int v32), .val (.int fl), .val (.int m0), .val (.int m1), .val (.int m2), .val (.int m3), .val (.ref a), .val (.int f0), .val (.int f1), .val (.int f2), .val (.int f3), .val (.int 1), .unset] [(.int v224)]))
    refine g_iconst hG X24 hx (hb hby at_225) (pc' := 226) rfl (v := (1 : Int32)) rfl ?_
    show G (T24.setTop (mkF m 226 #[.val (.int i0), .val (.int i1), .val (.int i2), .val (.int i3), .val (.int i4), .val (.ref ka), .val (.int v32), .val (.int fl), .val (.int m0), .val (.int m1), .val (.int m2), .val (.int m3), .val (.ref a), .val (.int f0), .val (.int f1), .val (.int f2), .val (.int f3), .val (.int 1), .unset] [(.int 1), (.int v224)]))
    refine g_iload hG X24 hx (hb hby at_226) (pc' := 228) rfl rfl ?_
    show G (T24.setTop (mkF m 228 #[.val (.int i0), .val (.int i1), .val (.int i2), .val (.int i3), .val (.int i4), .val (.ref ka), .val (.int v32), .val (.int fl), .val (.int m0), .val (.int m1), .val (.int m2), .val (.int m3), .val (.ref a), .val (.int f0), .val (.int f1), .val (.int f2), .val (.int f3), .val (.int 1), .unset] [(.int f2), (.int 1), (.int v224)]))
    obtain ⟨v228, q228⟩ : ∃ zz : Int32, (1 : Int32) <<< (f2 &&& 31) = zz := ⟨_, rfl⟩
    refine g_ishl hG X24 hx (hb hby at_228) (pc' := 229) rfl q228 ?_
    show G (T24.setTop (mkF m 229 #[.val (.int i0), .val (.int i1), .val (.int i2), .val (.int i3), .val (.int i4), .val (.ref ka), .val (.int v32), .val (.int fl), .val (.int m0), .val (.int m1), .val (.int m2), .val (.int m3), .val (.ref a), .val (.int f0), .val (.int f1), .val (.int f2), .val (.int f3), .val (.int 1), .unset] [(.int v228), (.int v224)]))
    obtain ⟨v229, q229⟩ : ∃ zz : Int32, v224 ||| v228 = zz := ⟨_, rfl⟩
    refine g_ior hG X24 hx (hb hby at_229) (pc' := 230) rfl q229 ?_
    show G (T24.setTop (mkF m 230 #[.val (.int i0), .val (.int i1), .val (.int i2), .val (.int i3), .val (.int i4), .val (.ref ka), .val (.int v32), .val (.int fl), .val (.int m0), .val (.int m1), .val (.int m2), .val (.int m3), .val (.ref a), .val (.int f0), .val (.int f1), .val (.int f2), .val (.int f3), .val (.int 1), .unset] [(.int v229)]))
    refine g_iconst hG X24 hx (hb hby at_230) (pc' := 231) rfl (v := (1 : Int32)) rfl ?_
    show G (T24.setTop (mkF m 231 #[.val (.int i0), .val (.int i1), .val (.int i2), .val (.int i3), .val (.int i4), .val (.ref ka), .val (.int v32), .val (.int fl), .val (.int m0), .val (.int m1), .val (.int m2), .val (.int m3), .val (.ref a), .val (.int f0), .val (.int f1), .val (.int f2), .val (.int f3), .val (.int 1), .unset] [(.int 1), (.int v229)]))
    refine g_iload hG X24 hx (hb hby at_231) (pc' := 233) rfl rfl ?_
    show G (T24.setTop (mkF m 233 #[.val (.int i0), .val (.int i1), .val (.int i2), .val (.int i3), .val (.int i4), .val (.ref ka), .val (.int v32), .val (.int fl), .val (.int m0), .val (.int m1), .val (.int m2), .val (.int m3), .val (.ref a), .val (.int f0), .val (.int f1), .val (.int f2), .val (.int f3), .val (.int 1), .unset] [(.int f3), (.int 1), (.int v229)]))
    obtain ⟨v233, q233⟩ : ∃ zz : Int32, (1 : Int32) <<< (f3 &&& 31) = zz := ⟨_, rfl⟩
    refine g_ishl hG X24 hx (hb hby at_233) (pc' := 234) rfl q233 ?_
    show G (T24.setTop (mkF m 234 #[.val (.int i0), .val (.int i1), .val (.int i2), .val (.int i3), .val (.int i4), .val (.ref ka), .val (.int v32), .val (.int fl), .val (.int m0), .val (.int m1), .val (.int m2), .val (.int m3), .val (.ref a), .val (.int f0), .val (.int f1), .val (.int f2), .val (.int f3), .val (.int 1), .unset] [(.int v233), (.int v229)]))
    obtain ⟨v234, q234⟩ : ∃ zz : Int32, v229 ||| v233 = zz := ⟨_, rfl⟩
    refine g_ior hG X24 hx (hb hby at_234) (pc' := 235) rfl q234 ?_
    show G (T24.setTop (mkF m 235 #[.val (.int i0), .val (.int i1), .val (.int i2), .val (.int i3), .val (.int i4), .val (.ref ka), .val (.int v32), .val (.int fl), .val (.int m0), .val (.int m1), .val (.int m2), .val (.int m3), .val (.ref a), .val (.int f0), .val (.int f1), .val (.int f2), .val (.int f3), .val (.int 1), .unset] [(.int v234)]))
    refine g_istore hG X24 hx (hb hby at_235) (pc' := 237) rfl (Ls' := #[.val (.int i0), .val (.int i1), .val (.int i2), .val (.int i3), .val (.int i4), .val (.ref ka), .val (.int v32), .val (.int fl), .val (.int m0), .val (.int m1), .val (.int m2), .val (.int m3), .val (.ref a), .val (.int f0), .val (.int f1), .val (.int f2), .val (.int f3), .val (.int 1), .val (.int v234)]) rfl ?_
    show G (T24.setTop (mkF m 237 #[.val (.int i0), .val (.int i1), .val (.int i2), .val (.int i3), .val (.int i4), .val (.ref ka), .val (.int v32), .val (.int fl), .val (.int m0), .val (.int m1), .val (.int m2), .val (.int m3), .val (.ref a), .val (.int f0), .val (.int f1), .val (.int f2), .val (.int f3), .val (.int 1), .val (.int v234)] []))
    refine g_iload hG X24 hx (hb hby at_237) (pc' := 239) rfl rfl ?_
    show G (T24.setTop (mkF m 239 #[.val (.int i0), .val (.int i1), .val (.int i2), .val (.int i3), .val (.int i4), .val (.ref ka), .val (.int v32), .val (.int fl), .val (.int m0), .val (.int m1), .val (.int m2), .val (.int m3), .val (.ref a), .val (.int f0), .val (.int f1), .val (.int f2), .val (.int f3), .val (.int 1), .val (.int v234)] [(.int v234)]))
    refine g_bipush hG X24 hx (hb hby at_239) (pc' := 241) rfl (v := (15 : Int32)) rfl ?_
    show G (T24.setTop (mkF m 241 #[.val (.int i0), .val (.int i1), .val (.int i2), .val (.int i3), .val (.int i4), .val (.ref ka), .val (.int v32), .val (.int fl), .val (.int m0), .val (.int m1), .val (.int m2), .val (.int m3), .val (.ref a), .val (.int f0), .val (.int f1), .val (.int f2), .val (.int f3), .val (.int 1), .val (.int v234)] [(.int 15), (.int v234)]))
    refine g_icmpYes hG X24 hx (hb hby at_241) (pc' := 246) ((teq (show v234 = 15 by rw [← q234, ← q229, ← q224, ← q219, ← q223, ← q228, ← q233]; exact P15)).1) (by decide) (by decide) ?_
    show G (T24.setTop (mkF m 246 #[.val (.int i0), .val (.int i1), .val (.int i2), .val (.int i3), .val (.int i4), .val (.ref ka), .val (.int v32), .val (.int fl), .val (.int m0), .val (.int m1), .val (.int m2), .val (.int m3), .val (.ref a), .val (.int f0), .val (.int f1), .val (.int f2), .val (.int f3), .val (.int 1), .val (.int v234)] []))
    refine g_iload hG X24 hx (hb hby at_246) (pc' := 248) rfl rfl ?_
    show G (T24.setTop (mkF m 248 #[.val (.int i0), .val (.int i1), .val (.int i2), .val (.int i3), .val (.int i4), .val (.ref ka), .val (.int v32), .val (.int fl), .val (.int m0), .val (.int m1), .val (.int m2), .val (.int m3), .val (.ref a), .val (.int f0), .val (.int f1), .val (.int f2), .val (.int f3), .val (.int 1), .val (.int v234)] [(.int f0)]))
    refine g_iload hG X24 hx (hb hby at_248) (pc' := 250) rfl rfl ?_
    show G (T24.setTop (mkF m 250 #[.val (.int i0), .val (.int i1), .val (.int i2), .val (.int i3), .val (.int i4), .val (.ref ka), .val (.int v32), .val (.int fl), .val (.int m0), .val (.int m1), .val (.int m2), .val (.int m3), .val (.ref a), .val (.int f0), .val (.int f1), .val (.int f2), .val (.int f3), .val (.int 1), .val (.int v234)] [(.int f1), (.int f0)]))
    refine g_aload hG X24 hx (hb hby at_250) (pc' := 252) rfl rfl rfl ?_
    show G (T24.setTop (mkF m 252 #[.val (.int i0), .val (.int i1), .val (.int i2), .val (.int i3), .val (.int i4), .val (.ref ka), .val (.int v32), .val (.int fl), .val (.int m0), .val (.int m1), .val (.int m2), .val (.int m3), .val (.ref a), .val (.int f0), .val (.int f1), .val (.int f2), .val (.int f3), .val (.int 1), .val (.int v234)] [(.ref ka), (.int f1), (.int f0)]))
    refine g_callS hG X24 hx hZ (y := (⟨"com/example/tributary/tributary/plan/NodeHeapPollPinLaw", "before", "(II[D)Z"⟩ : MethodName)) 0 hown (wd hw 61 rfl) (wd hw 62 rfl) (wd hw 3 rfl) (wd hw 63 rfl) (by decide) (rmLB l Z a0 hw [] ka kf f0 f1 (1 : Int32) T19.heap n0 Zs V_ka jf0 jf1 ((BF f0 f1 jf0 jf1).1 b01)) (by decide) (by decide) (by rw [hml]; rfl) pd_9 rfl (argsL := [(.int f0), (.int f1), (.ref ka)]) (rest := []) rfl rfl (Nat.le_of_eq rfl) (hb hby at_252) eh24 (by decide) (by decide) (pc' := 255) rfl ?_
    intro T25 rv25 L25 X25 hQ25
    obtain ⟨rfl, Nq25, eh25⟩ := hQ25
    have NF25 := Fr.app NF24 Nq25
    show G (T25.setTop (mkF m 255 #[.val (.int i0), .val (.int i1), .val (.int i2), .val (.int i3), .val (.int i4), .val (.ref ka), .val (.int v32), .val (.int fl), .val (.int m0), .val (.int m1), .val (.int m2), .val (.int m3), .val (.ref a), .val (.int f0), .val (.int f1), .val (.int f2), .val (.int f3), .val (.int 1), .val (.int v234)] [(.int 1)]))
    refine g_ifNo hG X25 hx (hb hby at_255) (pc' := 258) (by decide) rfl ?_
    show G (T25.setTop (mkF m 258 #[.val (.int i0), .val (.int i1), .val (.int i2), .val (.int i3), .val (.int i4), .val (.ref ka), .val (.int v32), .val (.int fl), .val (.int m0), .val (.int m1), .val (.int m2), .val (.int m3), .val (.ref a), .val (.int f0), .val (.int f1), .val (.int f2), .val (.int f3), .val (.int 1), .val (.int v234)] []))
    refine g_iload hG X25 hx (hb hby at_258) (pc' := 260) rfl rfl ?_
    show G (T25.setTop (mkF m 260 #[.val (.int i0), .val (.int i1), .val (.int i2), .val (.int i3), .val (.int i4), .val (.ref ka), .val (.int v32), .val (.int fl), .val (.int m0), .val (.int m1), .val (.int m2), .val (.int m3), .val (.ref a), .val (.int f0), .val (.int f1), .val (.int f2), .val (.int f3), .val (.int 1), .val (.int v234)] [(.int f1)]))
    refine g_iload hG X25 hx (hb hby at_260) (pc' := 262) rfl rfl ?_
    show G (T25.setTop (mkF m 262 #[.val (.int i0), .val (.int i1), .val (.int i2), .val (.int i3), .val (.int i4), .val (.ref ka), .val (.int v32), .val (.int fl), .val (.int m0), .val (.int m1), .val (.int m2), .val (.int m3), .val (.ref a), .val (.int f0), .val (.int f1), .val (.int f2), .val (.int f3), .val (.int 1), .val (.int v234)] [(.int f2), (.int f1)]))
    refine g_aload hG X25 hx (hb hby at_262) (pc' := 264) rfl rfl rfl ?_
    show G (T25.setTop (mkF m 264 #[.val (.int i0), .val (.int i1), .val (.int i2), .val (.int i3), .val (.int i4), .val (.ref ka), .val (.int v32), .val (.int fl), .val (.int m0), .val (.int m1), .val (.int m2), .val (.int m3), .val (.ref a), .val (.int f0), .val (.int f1), .val (.int f2), .val (.int f3), .val (.int 1), .val (.int v234)] [(.ref ka), (.int f2), (.int f1)]))
    refine g_callS hG X25 hx hZ (y := (⟨"com/example/tributary/tributary/plan/NodeHeapPollPinLaw", "before", "(II[D)Z"⟩ : MethodName)) 0 hown (wd hw 61 rfl) (wd hw 62 rfl) (wd hw 3 rfl) (wd hw 63 rfl) (by decide) (rmLB l Z a0 hw [] ka kf f1 f2 (1 : Int32) T19.heap n0 Zs V_ka jf1 jf2 ((BF f1 f2 jf1 jf2).1 b12)) (by decide) (by decide) (by rw [hml]; rfl) pd_9 rfl (argsL := [(.int f1), (.int f2), (.ref ka)]) (rest := []) rfl rfl (Nat.le_of_eq rfl) (hb hby at_264) eh25 (by decide) (by decide) (pc' := 267) rfl ?_
    intro T26 rv26 L26 X26 hQ26
    obtain ⟨rfl, Nq26, eh26⟩ := hQ26
    have NF26 := Fr.app NF25 Nq26
    show G (T26.setTop (mkF m 267 #[.val (.int i0), .val (.int i1), .val (.int i2), .val (.int i3), .val (.int i4), .val (.ref ka), .val (.int v32), .val (.int fl), .val (.int m0), .val (.int m1), .val (.int m2), .val (.int m3), .val (.ref a), .val (.int f0), .val (.int f1), .val (.int f2), .val (.int f3), .val (.int 1), .val (.int v234)] [(.int 1)]))
    refine g_ifNo hG X26 hx (hb hby at_267) (pc' := 270) (by decide) rfl ?_
    show G (T26.setTop (mkF m 270 #[.val (.int i0), .val (.int i1), .val (.int i2), .val (.int i3), .val (.int i4), .val (.ref ka), .val (.int v32), .val (.int fl), .val (.int m0), .val (.int m1), .val (.int m2), .val (.int m3), .val (.ref a), .val (.int f0), .val (.int f1), .val (.int f2), .val (.int f3), .val (.int 1), .val (.int v234)] []))
    refine g_iload hG X26 hx (hb hby at_270) (pc' := 272) rfl rfl ?_
    show G (T26.setTop (mkF m 272 #[.val (.int i0), .val (.int i1), .val (.int i2), .val (.int i3), .val (.int i4), .val (.ref ka), .val (.int v32), .val (.int fl), .val (.int m0), .val (.int m1), .val (.int m2), .val (.int m3), .val (.ref a), .val (.int f0), .val (.int f1), .val (.int f2), .val (.int f3), .val (.int 1), .val (.int v234)] [(.int f2)]))
    refine g_iload hG X26 hx (hb hby at_272) (pc' := 274) rfl rfl ?_
    show G (T26.setTop (mkF m 274 #[.val (.int i0), .val (.int i1), .val (.int i2), .val (.int i3), .val (.int i4), .val (.ref ka), .val (.int v32), .val (.int fl), .val (.int m0), .val (.int m1), .val (.int m2), .val (.int m3), .val (.ref a), .val (.int f0), .val (.int f1), .val (.int f2), .val (.int f3), .val (.int 1), .val (.int v234)] [(.int f3), (.int f2)]))
    refine g_aload hG X26 hx (hb hby at_274) (pc' := 276) rfl rfl rfl ?_
    show G (T26.setTop (mkF m 276 #[.val (.int i0), .val (.int i1), .val (.int i2), .val (.int i3), .val (.int i4), .val (.ref ka), .val (.int v32), .val (.int fl), .val (.int m0), .val (.int m1), .val (.int m2), .val (.int m3), .val (.ref a), .val (.int f0), .val (.int f1), .val (.int f2), .val (.int f3), .val (.int 1), .val (.int v234)] [(.ref ka), (.int f3), (.int f2)]))
    refine g_callS hG X26 hx hZ (y := (⟨"com/example/tributary/tributary/plan/NodeHeapPollPinLaw", "before", "(II[D)Z"⟩ : MethodName)) 0 hown (wd hw 61 rfl) (wd hw 62 rfl) (wd hw 3 rfl) (wd hw 63 rfl) (by decide) (rmLB l Z a0 hw [] ka kf f2 f3 (1 : Int32) T19.heap n0 Zs V_ka jf2 jf3 ((BF f2 f3 jf2 jf3).1 b23)) (by decide) (by decide) (by rw [hml]; rfl) pd_9 rfl (argsL := [(.int f2), (.int f3), (.ref ka)]) (rest := []) rfl rfl (Nat.le_of_eq rfl) (hb hby at_276) eh26 (by decide) (by decide) (pc' := 279) rfl ?_
    intro T27 rv27 L27 X27 hQ27
    obtain ⟨rfl, Nq27, eh27⟩ := hQ27
    have NF27 := Fr.app NF26 Nq27
    show G (T27.setTop (mkF m 279 #[.val (.int i0), .val (.int i1), .val (.int i2), .val (.int i3), .val (.int i4), .val (.ref ka), .val (.int v32), .val (.int fl), .val (.int m0), .val (.int m1), .val (.int m2), .val (.int m3), .val (.ref a), .val (.int f0), .val (.int f1), .val (.int f2), .val (.int f3), .val (.int 1), .val (.int v234)] [(.int 1)]))
    refine g_ifNo hG X27 hx (hb hby at_279) (pc' := 282) (by decide) rfl ?_
    show G (T27.setTop (mkF m 282 #[.val (.int i0), .val (.int i1), .val (.int i2), .val (.int i3), .val (.int i4), .val (.ref ka), .val (.int v32), .val (.int fl), .val (.int m0), .val (.int m1), .val (.int m2), .val (.int m3), .val (.ref a), .val (.int f0), .val (.int f1), .val (.int f2), .val (.int f3), .val (.int 1), .val (.int v234)] []))
    refine g_iload hG X27 hx (hb hby at_282) (pc' := 284) rfl rfl ?_
    show G (T27.setTop (mkF m 284 #[.val (.int i0), .val (.int i1), .val (.int i2), .val (.int i3), .val (.int i4), .val (.ref ka), .val (.int v32), .val (.int fl), .val (.int m0), .val (.int m1), .val (.int m2), .val (.int m3), .val (.ref a), .val (.int f0), .val (.int f1), .val (.int f2), .val (.int f3), .val (.int 1), .val (.int v234)] [(.int 1)]))
    refine g_ifNo hG X27 hx (hb hby at_284) (pc' := 287) (by decide) rfl ?_
    show G (T27.setTop (mkF m 287 #[.val (.int i0), .val (.int i1), .val (.int i2), .val (.int i3), .val (.int i4), .val (.ref ka), .val (.int v32), .val (.int fl), .val (.int m0), .val (.int m1), .val (.int m2), .val (.int m3), .val (.ref a), .val (.int f0), .val (.int f1), .val (.int f2), .val (.int f3), .val (.int 1), .val (.int v234)] []))
    refine g_iconst hG X27 hx (hb hby at_287) (pc' := 288) rfl (v := (1 : Int32)) rfl ?_
    show G (T27.setTop (mkF m 288 #[.val (.int i0), .val (.int i1), .val (.int i2), .val (.int i3), .val (.int i4), .val (.ref ka), .val (.int v32), .val (.int fl), .val (.int m0), .val (.int m1), .val (.int m2), .val (.int m3), .val (.ref a), .val (.int f0), .val (.int f1), .val (.int f2), .val (.int f3), .val (.int 1), .val (.int v234)] [(.int 1)]))
    refine g_goto hG X27 hx (hb hby at_288) (pc' := 292) (by decide) (by decide) ?_
    show G (T27.setTop (mkF m 292 #[.val (.int i0), .val (.int i1), .val (.int i2), .val (.int i3), .val (.int i4), .val (.ref ka), .val (.int v32), .val (.int fl), .val (.int m0), .val (.int m1), .val (.int m2), .val (.int m3), .val (.ref a), .val (.int f0), .val (.int f1), .val (.int f2), .val (.int f3), .val (.int 1), .val (.int v234)] [(.int 1)]))
    exact e_retZ hGe X27 hx hrt hlk (hb hby at_292) (Or.inr rfl) eh27 (by decide) (by decide) (⟨rfl, NF27⟩)
  by_cases hc39 : v38 = (0 : Int32)
  · refine g_ifYes hG X5 hx (hb hby at_39) (pc' := 46) ((if0 _ _).trans (teq hc39).1) (by decide) (by decide) ?_
    refine g_iconst hG X5 hx (hb hby at_46) (pc' := 47) rfl (v := (0 : Int32)) rfl ?_
    show G (T5.setTop (mkF m 47 #[.val (.int i0), .val (.int i1), .val (.int i2), .val (.int i3), .val (.int i4), .val (.ref ka), .val (.int v32), .unset, .unset, .unset, .unset, .unset, .unset, .unset, .unset, .unset, .unset, .unset, .unset] [(.int 0)]))
    exact c47 (0 : Int32) (Or.inl rfl)
  · refine g_ifNo hG X5 hx (hb hby at_39) (pc' := 42) ((if0 _ _).trans (feq hc39).1) rfl ?_
    refine g_iconst hG X5 hx (hb hby at_42) (pc' := 43) rfl (v := (1 : Int32)) rfl ?_
    show G (T5.setTop (mkF m 43 #[.val (.int i0), .val (.int i1), .val (.int i2), .val (.int i3), .val (.int i4), .val (.ref ka), .val (.int v32), .unset, .unset, .unset, .unset, .unset, .unset, .unset, .unset, .unset, .unset, .unset, .unset] [(.int 1)]))
    refine g_goto hG X5 hx (hb hby at_43) (pc' := 47) (by decide) (by decide) ?_
    show G (T5.setTop (mkF m 47 #[.val (.int i0), .val (.int i1), .val (.int i2), .val (.int i3), .val (.int i4), .val (.ref ka), .val (.int v32), .unset, .unset, .unset, .unset, .unset, .unset, .unset, .unset, .unset, .unset, .unset, .unset] [(.int 1)]))
    exact c47 (1 : Int32) (Or.inr rfl)
set_option maxRecDepth 65536 in
set_option maxHeartbeats 40000000 in
theorem comes_1 {Post : Tables → Env → Array Value → State → Outcome → State → Prop} (hpost : ∀ tb e args s v u, (limb_1_1.after args s (.returned v) u = true ∧ limb_1_2.after args s (.returned v) u = true ∧ True) → FrameEnd s (.returned v) u (Jvm.fieldLocs frame_1_writes args s ++ Jvm.arrayLocs frame_1_arrays args s ++ Jvm.staticLocs frame_1_statics s) 24 128 → Post tb e args s (.returned v) u) :
    ArmFor flags0 classFile x code maxLocals ret World_1 tables_1 room_1 Calls_1 rest_1 Pre_1 Post := by
  intro l hfl _ _ p e ha hc hk s m args below hf hA hF happ hP
  obtain ⟨hcalls, hrest, hpre⟩ := hP
  obtain ⟨-, -, -, hnamed, -, -, -, hat⟩ := (Spec.applies_iff hf).mp happ
  obtain ⟨hg, hn⟩ := and_e (Cond.before_iff.mp (show (Jvm.Cond.and given_1 narrow_1).before args s = true from hpre))
  obtain ⟨hcount, ha_0⟩ := and_e hg
  obtain ⟨hb_0, ha_1⟩ := and_e ha_0
  obtain ⟨hb_1, ha_2⟩ := and_e ha_1
  obtain ⟨hb_2, ha_3⟩ := and_e ha_2
  obtain ⟨hb_3, ha_4⟩ := and_e ha_3
  have hb_4 := ha_4
  obtain ⟨w0, w1, w2, w3, w4, rfl⟩ : ∃ w0 w1 w2 w3 w4 : Value, args = #[w0, w1, w2, w3, w4] := by
    have hs : args.size = 5 := by simpa [Cond.value, given_1] using hcount
    obtain ⟨L⟩ := args
    match L, hs with
    | [w0, w1, w2, w3, w4], _ => exact ⟨w0, w1, w2, w3, w4, rfl⟩
  have hw := fun d (hd : d ∈ tables_1) => atoms_spec (ws := Jvm.Cond.code x code maxLocals ret :: tables_1) hat d (List.mem_cons_of_mem _ hd)
  obtain ⟨i0, ei0⟩ := is_v hb_0
  obtain rfl : w0 = (.int i0) := Option.some.inj ei0
  obtain ⟨i1, ei1⟩ := is_v hb_1
  obtain rfl : w1 = (.int i1) := Option.some.inj ei1
  obtain ⟨i2, ei2⟩ := is_v hb_2
  obtain rfl : w2 = (.int i2) := Option.some.inj ei2
  obtain ⟨i3, ei3⟩ := is_v hb_3
  obtain rfl : w3 = (.int i3) := Option.some.inj ei3
  obtain ⟨i4, ei4⟩ := is_v hb_4
  obtain rfl : w4 = (.int i4) := Option.some.inj ei4
  obtain ⟨n, o, h1, h2, h3, _, L, rfl, ⟨rfl, N⟩, hq⟩ := rm0 l s _ hw tables_1 i0 i1 i2 i3 i4 s.heap s.heap.size (Nat.le_refl _)  p e ha hc hk s m _ below hf ((Spec.applies_iff_loose hf).mp happ).1 ⟨rfl, State.Warmed39.refl s, rfl⟩ trivial
  refine ⟨n, _, h1, h2, h3, hpost _ _ _ _ _ _ ⟨Cond.after_iff.mpr rfl, Cond.after_iff.mpr (eq_i res_at (Term.int_eval (1)) rfl), trivial⟩ ⟨hq.1, hq.2.1, (hq.2.2.sift fun y hy => Or.inr (N y hy)).mono (by decide) (by decide)⟩⟩
theorem main_1_1 : Claimed_1_1 := comes_1 fun _ _ _ _ _ _ h hF => ⟨h.1, hF⟩
theorem main_1_2 : Claimed_1_2 := comes_1 fun _ _ _ _ _ _ h hF => ⟨h.2.1, hF⟩
end Jvm.Pilot.@@N@@
namespace Jvm.Pilot.@@N@@
open Jvm Jvm.ClassFile Sem Op Lib Jvm.Free Jvm.Stand Jvm.Pilot.@@N@@.Jvm.D
/-! MADE BY PROGRAM (witnessworld.py) out of the Statement's table words and the real class files: 12 classes; the members and pool entries that the words name. The judged class is class 1, her method 4. -/
namespace start1
open Jvm.ClassFile
def u (s : String) : CpInfo := .utf8 (stringToUtf16 s)
/-- a pool by its gaps: so many unusable entries, then the entry; so many at the end -/
def gap : Nat → List CpInfo → List CpInfo
  | 0, r => r
  | n + 1, r => .unusable :: gap n r
def poolList (es : List (Nat × CpInfo)) (last : Nat) : List CpInfo := es.foldr (fun e r => gap e.1 (e.2 :: r)) (gap last [])
def pool (es : List (Nat × CpInfo)) (last : Nat) : Array CpInfo := ⟨poolList es last⟩
def fileOf (pool : Array CpInfo) (this : Nat) (attrs : Array Attribute := #[]) (ms : Array MethodInfo := #[]) (fl : Nat := 33) (sup : Nat := 0) (ifs : Array Nat := #[]) (fds : Array FieldInfo := #[]) : ClassFile where
  minorVersion := 0
  majorVersion := 65
  constantPool := pool
  accessFlags := fl
  thisClass := this
  superClass := sup
  interfaces := ifs
  fields := fds
  methods := ms
  attributes := attrs
def plain (name : String) (sup : Option ClassId) : Class where
  name := name
  kind := .ordinary
  loader := none
  accessFlags := 33
  super := sup
  interfaces := #[]
  cf := none
  fields := #[]
  methods := #[]
  instanceTypes := #[]
  staticTypes := #[]
  resolved := #[]
  callSites := []
  init := .initialized
  statics := none
  mirror := none

def pool0 : Array CpInfo := pool [(5, u "<init>"), (0, u "()V"), (1, .class_ 10), (1, u "java/lang/Object")] 113

def k0c0 : Code := { maxStack := 0, maxLocals := 1, code := object_method_1_code, exceptionTable := #[], attributes := #[] }
def k0m0 : Method := { name := "<init>", desc := "()V", sig := { parameters := [], returnType := none }, accessFlags := 1, code := some k0c0 }
/-- java/lang/Object -/
def k0 : Class := { plain "java/lang/Object" none with
  accessFlags := 33
  interfaces := #[]
  cf := some (fileOf pool0 8 #[] #[{ accessFlags := 1, nameIndex := 5, descriptorIndex := 6, attributes := #[] }] 33 0 #[] #[])
  fields := #[]
  methods := #[k0m0]
  instanceTypes := #[]
  staticTypes := #[]
  resolved := Array.replicate 124 none
  statics := none }

def pool1 : Array CpInfo := pool [(2, .class_ 4), (1, u "java/lang/Object"), (0, u "<init>"), (0, u "()V"), (0, .methodref 8 9), (0, .class_ 10), (0, .nameAndType 11 12), (0, u "com/example/tributary/tributary/plan/NodeHeapPollPinLaw"), (0, u "id"), (0, u "(IIZ)I"), (0, .class_ 14), (0, u "com/example/tributary/tributary/plan/NodeHeap"), (0, .methodref 13 16), (0, .nameAndType 5 17), (0, u "(I)V"), (0, .methodref 13 19), (0, .nameAndType 20 21), (0, u "offer"), (0, u "(ID)V"), (0, .methodref 13 23), (0, .nameAndType 24 25), (0, u "poll"), (0, u "()I"), (0, .methodref 13 27), (0, .nameAndType 28 29), (0, u "isEmpty"), (0, u "()Z"), (0, .methodref 8 31), (0, .nameAndType 32 33), (0, u "inRange"), (0, u "(I)Z"), (0, .methodref 8 35), (0, .nameAndType 36 37), (0, u "before"), (0, u "(II[D)Z"), (3, u "law"), (0, u "(IIIII)Z")] 4

def k1m0 : Method := { name := "<init>", desc := "()V", sig := { parameters := [], returnType := none }, accessFlags := 1, code := none }
def k1c1 : Code := { maxStack := 2, maxLocals := 4, code := method_2_code, exceptionTable := #[], attributes := #[] }
def k1m1 : Method := { name := "id", desc := "(IIZ)I", sig := { parameters := [.int, .int, .boolean], returnType := some .int }, accessFlags := 10, code := some k1c1 }
def k1c2 : Code := { maxStack := 4, maxLocals := 3, code := method_3_code, exceptionTable := #[], attributes := #[] }
def k1m2 : Method := { name := "before", desc := "(II[D)Z", sig := { parameters := [.int, .int, (.array .double)], returnType := some .boolean }, accessFlags := 10, code := some k1c2 }
def k1c3 : Code := { maxStack := 2, maxLocals := 1, code := method_4_code, exceptionTable := #[], attributes := #[] }
def k1m3 : Method := { name := "inRange", desc := "(I)Z", sig := { parameters := [.int], returnType := some .boolean }, accessFlags := 10, code := some k1c3 }
def k1c4 : Code := { maxStack := 4, maxLocals := 19, code := code, exceptionTable := #[], attributes := #[] }
def k1m4 : Method := { name := "law", desc := "(IIIII)Z", sig := { parameters := [.int, .int, .int, .int, .int], returnType := some .boolean }, accessFlags := 9, code := some k1c4 }
/-- com/example/tributary/tributary/plan/NodeHeapPollPinLaw -/
def k1 : Class := { plain "com/example/tributary/tributary/plan/NodeHeapPollPinLaw" (some 0) with
  accessFlags := 49
  interfaces := #[]
  cf := some (fileOf pool1 8 #[] #[{ accessFlags := 1, nameIndex := 5, descriptorIndex := 6, attributes := #[] }, { accessFlags := 10, nameIndex := 11, descriptorIndex := 12, attributes := #[] }, { accessFlags := 10, nameIndex := 36, descriptorIndex := 37, attributes := #[] }, { accessFlags := 10, nameIndex := 32, descriptorIndex := 33, attributes := #[] }, { accessFlags := 9, nameIndex := 41, descriptorIndex := 42, attributes := #[] }] 49 2 #[] #[])
  fields := #[]
  methods := #[k1m0, k1m1, k1m2, k1m3, k1m4]
  instanceTypes := #[]
  staticTypes := #[]
  resolved := Array.replicate 47 none
  statics := none }

def pool2 : Array CpInfo := pool [(1, .methodref 2 3), (0, .class_ 4), (0, .nameAndType 5 6), (0, u "java/lang/Object"), (0, u "<init>"), (0, u "()V"), (0, .fieldref 8 9), (0, .class_ 10), (0, .nameAndType 11 12), (0, u "com/example/tributary/tributary/plan/NodeHeap"), (0, u "heap"), (0, u "[I"), (0, .fieldref 8 14), (0, .nameAndType 15 12), (0, u "position"), (0, .fieldref 8 17), (0, .nameAndType 18 19), (0, u "key"), (0, u "[D"), (0, .methodref 21 22), (0, .class_ 23), (0, .nameAndType 24 25), (0, u "java/util/Arrays"), (0, u "fill"), (0, u "([II)V"), (0, .fieldref 8 27), (0, .nameAndType 28 29), (0, u "size"), (0, u "I"), (0, .methodref 8 31), (0, .nameAndType 32 33), (0, u "rise"), (0, u "(I)V"), (0, .methodref 8 35), (0, .nameAndType 36 33), (0, u "sink"), (0, .methodref 8 38), (0, .nameAndType 39 40), (0, u "before"), (0, u "(II)Z"), (0, .methodref 8 42), (0, .nameAndType 43 44), (0, u "place"), (0, u "(II)V"), (2, u "isEmpty"), (0, u "()Z"), (1, u "offer"), (0, u "(ID)V"), (0, u "poll"), (0, u "()I")] 2

def k2c0 : Code := { maxStack := 2, maxLocals := 2, code := prog_39_method_1_code, exceptionTable := #[], attributes := #[] }
def k2m0 : Method := { name := "<init>", desc := "(I)V", sig := { parameters := [.int], returnType := none }, accessFlags := 0, code := some k2c0 }
def k2c1 : Code := { maxStack := 1, maxLocals := 1, code := prog_39_method_2_code, exceptionTable := #[], attributes := #[] }
def k2m1 : Method := { name := "isEmpty", desc := "()Z", sig := { parameters := [], returnType := some .boolean }, accessFlags := 0, code := some k2c1 }
def k2c2 : Code := { maxStack := 4, maxLocals := 5, code := prog_39_method_3_code, exceptionTable := #[], attributes := #[] }
def k2m2 : Method := { name := "offer", desc := "(ID)V", sig := { parameters := [.int, .double], returnType := none }, accessFlags := 0, code := some k2c2 }
def k2c3 : Code := { maxStack := 4, maxLocals := 2, code := prog_39_method_4_code, exceptionTable := #[], attributes := #[] }
def k2m3 : Method := { name := "poll", desc := "()I", sig := { parameters := [], returnType := some .int }, accessFlags := 0, code := some k2c3 }
def k2c4 : Code := { maxStack := 4, maxLocals := 3, code := prog_39_method_5_code, exceptionTable := #[], attributes := #[] }
def k2m4 : Method := { name := "before", desc := "(II)Z", sig := { parameters := [.int, .int], returnType := some .boolean }, accessFlags := 2, code := some k2c4 }
def k2c5 : Code := { maxStack := 4, maxLocals := 4, code := prog_39_method_6_code, exceptionTable := #[], attributes := #[] }
def k2m5 : Method := { name := "rise", desc := "(I)V", sig := { parameters := [.int], returnType := none }, accessFlags := 2, code := some k2c5 }
def k2c6 : Code := { maxStack := 4, maxLocals := 4, code := prog_39_method_7_code, exceptionTable := #[], attributes := #[] }
def k2m6 : Method := { name := "sink", desc := "(I)V", sig := { parameters := [.int], returnType := none }, accessFlags := 2, code := some k2c6 }
def k2c7 : Code := { maxStack := 3, maxLocals := 3, code := prog_39_method_8_code, exceptionTable := #[], attributes := #[] }
def k2m7 : Method := { name := "place", desc := "(II)V", sig := { parameters := [.int, .int], returnType := none }, accessFlags := 2, code := some k2c7 }
/-- com/example/tributary/tributary/plan/NodeHeap -/
def k2 : Class := { plain "com/example/tributary/tributary/plan/NodeHeap" (some 0) with
  accessFlags := 48
  interfaces := #[]
  cf := some (fileOf pool2 8 #[] #[{ accessFlags := 0, nameIndex := 5, descriptorIndex := 33, attributes := #[] }, { accessFlags := 0, nameIndex := 47, descriptorIndex := 48, attributes := #[] }, { accessFlags := 0, nameIndex := 50, descriptorIndex := 51, attributes := #[] }, { accessFlags := 0, nameIndex := 52, descriptorIndex := 53, attributes := #[] }, { accessFlags := 2, nameIndex := 39, descriptorIndex := 40, attributes := #[] }, { accessFlags := 2, nameIndex := 32, descriptorIndex := 33, attributes := #[] }, { accessFlags := 2, nameIndex := 36, descriptorIndex := 33, attributes := #[] }, { accessFlags := 2, nameIndex := 43, descriptorIndex := 44, attributes := #[] }] 48 2 #[] #[{ accessFlags := 18, nameIndex := 11, descriptorIndex := 12, attributes := #[] }, { accessFlags := 18, nameIndex := 15, descriptorIndex := 12, attributes := #[] }, { accessFlags := 18, nameIndex := 18, descriptorIndex := 19, attributes := #[] }, { accessFlags := 2, nameIndex := 28, descriptorIndex := 29, attributes := #[] }])
  fields := #[{ name := "heap", type := (.array .int), accessFlags := 18, slot := 0, constantValue := 0 }, { name := "position", type := (.array .int), accessFlags := 18, slot := 1, constantValue := 0 }, { name := "key", type := (.array .double), accessFlags := 18, slot := 2, constantValue := 0 }, { name := "size", type := .int, accessFlags := 2, slot := 3, constantValue := 0 }]
  methods := #[k2m0, k2m1, k2m2, k2m3, k2m4, k2m5, k2m6, k2m7]
  instanceTypes := #[(.array .int), (.array .int), (.array .double), .int]
  staticTypes := #[]
  resolved := Array.replicate 56 none
  statics := none }

def pool3 : Array CpInfo := pool [(2, .class_ 4), (1, u "java/lang/Object"), (0, u "<init>"), (0, u "()V"), (7, .class_ 16), (1, u "java/util/Arrays"), (57, .class_ 76), (1, u "java/util/Arrays$NaturalOrder"), (36, .class_ 115), (1, u "java/util/Arrays$LegacyMergeSort"), (1, u "Z"), (257, .class_ 376), (0, u "java/util/Arrays$ArrayList"), (68, u "$assertionsDisabled"), (269, u "MIN_ARRAY_SORT_GRAN"), (0, u "I"), (2, u "INSERTIONSORT_THRESHOLD"), (120, u "fill"), (4, u "([II)V"), (129, .class_ 976), (0, u "java/util/Arrays$ArrayItr")] 52

def k3m0 : Method := { name := "<init>", desc := "()V", sig := { parameters := [], returnType := none }, accessFlags := 2, code := none }
def k3c1 : Code := { maxStack := 3, maxLocals := 4, code := jdk_65_method_103_code, exceptionTable := #[], attributes := #[] }
def k3m1 : Method := { name := "fill", desc := "([II)V", sig := { parameters := [(.array .int), .int], returnType := none }, accessFlags := 9, code := some k3c1 }
/-- java/util/Arrays -/
def k3 : Class := { plain "java/util/Arrays" (some 0) with
  accessFlags := 49
  interfaces := #[]
  cf := some (fileOf pool3 14 #[.nestMembers #[975, 375, 113, 74]] #[{ accessFlags := 2, nameIndex := 5, descriptorIndex := 6, attributes := #[] }, { accessFlags := 9, nameIndex := 840, descriptorIndex := 845, attributes := #[] }] 49 2 #[] #[{ accessFlags := 26, nameIndex := 715, descriptorIndex := 716, attributes := #[] }, { accessFlags := 26, nameIndex := 719, descriptorIndex := 716, attributes := #[] }, { accessFlags := 4120, nameIndex := 445, descriptorIndex := 117, attributes := #[] }])
  fields := #[{ name := "MIN_ARRAY_SORT_GRAN", type := .int, accessFlags := 26, slot := 0, constantValue := 0 }, { name := "INSERTIONSORT_THRESHOLD", type := .int, accessFlags := 26, slot := 1, constantValue := 0 }, { name := "$assertionsDisabled", type := .boolean, accessFlags := 4120, slot := 2, constantValue := 0 }]
  methods := #[k3m0, k3m1]
  instanceTypes := #[]
  staticTypes := #[.int, .int, .boolean]
  resolved := Array.replicate 1029 none
  statics := none }

def pool4 : Array CpInfo := pool [(1, u "java/lang/Cloneable"), (0, .class_ 1), (0, u "java/lang/Object"), (0, .class_ 3)] 3

/-- java/lang/Cloneable -/
def k4 : Class := { plain "java/lang/Cloneable" (some 0) with
  accessFlags := 1537
  interfaces := #[]
  cf := some (fileOf pool4 2 #[] #[] 1537 4 #[] #[])
  fields := #[]
  methods := #[]
  instanceTypes := #[]
  staticTypes := #[]
  resolved := Array.replicate 8 none
  statics := none }

def pool5 : Array CpInfo := pool [(1, u "java/io/Serializable"), (0, .class_ 1), (0, u "java/lang/Object"), (0, .class_ 3)] 3

/-- java/io/Serializable -/
def k5 : Class := { plain "java/io/Serializable" (some 0) with
  accessFlags := 1537
  interfaces := #[]
  cf := some (fileOf pool5 2 #[] #[] 1537 4 #[] #[])
  fields := #[]
  methods := #[]
  instanceTypes := #[]
  staticTypes := #[]
  resolved := Array.replicate 8 none
  statics := none }

/-- the primitive byte -/
def k6 : Class := { plain "byte" none with kind := .primitive 'B', accessFlags := 0x411 }
/-- [B -/
def k7 : Class := { plain "[B" (some 0) with kind := .array 6 .byte, interfaces := #[4, 5], accessFlags := 1041 }

/-- the primitive double -/
def k8 : Class := { plain "double" none with kind := .primitive 'D', accessFlags := 0x411 }
/-- [D -/
def k9 : Class := { plain "[D" (some 0) with kind := .array 8 .double, interfaces := #[4, 5], accessFlags := 1041 }

/-- the primitive int -/
def k10 : Class := { plain "int" none with kind := .primitive 'I', accessFlags := 0x411 }
/-- [I -/
def k11 : Class := { plain "[I" (some 0) with kind := .array 10 .int, interfaces := #[4, 5], accessFlags := 1041 }

def heap : Heap := #[]
def classes : Array Class := #[k0, k1, k2, k3, k4, k5, k6, k7, k8, k9, k10, k11]
def interned : List (Array UInt16 × Addr) := []
def slotsUsed : Nat := 0
def theMethod : MethodId := ⟨1, 4⟩
def args0 : Array Value := #[.int 2, .int 9, .int 3, .int 7, .int 1]
def aboutOver (below : List Frame) : State where
  vm := { classes := classes, interned := interned.toArray }
  heap := heap
  slotsUsed := slotsUsed
  threads := #[{ frames := .invoking theMethod args0 :: below }]
def below0 : List Frame := [.native { method := ⟨0, 0⟩, args := #[] }]
def about1 : State := aboutOver below0
def p0 : Program := .bare "" "" ""
def e0 : Env := launch0.env 0 0 0
theorem w_frames : about1.frames = Frame.invoking theMethod args0 :: below0 := rfl
set_option maxRecDepth 65536 in
theorem w_args : argsFit about1.vm theMethod args0 = true := by decide +kernel
set_option maxRecDepth 65536 in
theorem w_heap : heapFits about1 = true := by decide +kernel
set_option maxRecDepth 65536 in
theorem w_runnable : about1.curStatus? = some .runnable := by decide +kernel
set_option maxRecDepth 65536 in
theorem w_alone : about1.alone = true := by decide +kernel
set_option maxRecDepth 65536 in
theorem w_named : about1.methodNamed? x = some theMethod := by decide +kernel
set_option maxRecDepth 65536 in
theorem w_hears : about1.hears theMethod below0 = true := by decide +kernel
set_option maxRecDepth 65536 in
theorem w_ripe : about1.ripe theMethod args0 below0 = true := by decide +kernel
theorem w_running : about1.status = .running := rfl
set_option maxRecDepth 65536 in
theorem w_room : about1.hasRoom e0.platform room_1 = true :=
  launch0.hasRoom_least _ room_1 (by decide +kernel) (by decide +kernel) (by decide +kernel) (by decide +kernel) (by decide +kernel) (by decide +kernel)
theorem allAtoms_all (ts : List Jvm.Cond) (a : Array Jvm.Value) (st : Jvm.State) : (allAtoms ts).before a st = ts.all (fun c => c.before a st) := by
  induction ts with
  | nil => rfl
  | cons c t ih =>
    show (Jvm.Cond.and c (allAtoms t)).before a st = _
    rw [Jvm.Cond.before_and, ih, List.all_cons]
def words1 : List Jvm.Cond := Jvm.Cond.code x code maxLocals ret :: tables_1
/-- a 'code' word, met by the world's own term for the bytes: nothing is compared byte by byte -/
theorem code_word {y : MethodName} {bytes : ByteArray} {mx : Nat} {rt : Option FieldType} {a : Array Value} {s : State} {m : MethodId} {meth : Method} {c : Code} (h1 : s.methodNamed? y = some m) (h2 : s.vm.method? m = some meth) (h3 : meth.code = some c) (h4 : c.code = bytes)
    (h5 : (c.maxLocals == mx && c.exceptionTable.isEmpty && decide (c.maxStack ≤ mostOperands) && decide (meth.sig.returnType = rt) && !meth.locks && decide (parseMethodDescriptor y.desc = some meth.sig)) = true) : (Jvm.Cond.code y bytes mx rt).before a s = true := by
  simp only [Bool.and_eq_true, beq_iff_eq, Bool.not_eq_true', decide_eq_true_eq] at h5
  obtain ⟨⟨⟨⟨⟨g1, g2⟩, g3⟩, g4⟩, g5⟩, g6⟩ := h5
  simp [Cond.before, Cond.holds, Cond.value, h1, h2, h3, h4, g1, g2, g3, g4, g5, g6]
def isCode : Jvm.Cond → Bool
  | .code _ _ _ _ => true
  | _ => false
theorem all_split {L : List Jvm.Cond} {P : Jvm.Cond → Bool} (h1 : L.all (fun c => isCode c || P c) = true) (h2 : ∀ c ∈ L.filter isCode, P c = true) : L.all P = true := by
  refine List.all_eq_true.mpr fun c hc => ?_
  have h := List.all_eq_true.mp h1 c hc
  rcases Bool.eq_false_or_eq_true (isCode c) with hi | hi
  · exact h2 c (List.mem_filter.mpr ⟨hc, hi⟩)
  · simpa [hi] using h
set_option maxRecDepth 65536 in
theorem w_c0 : (Jvm.Cond.code x code maxLocals ret).before args0 about1 = true := code_word (m := ⟨1, 4⟩) (meth := k1m4) (c := k1c4) (by decide +kernel) rfl rfl rfl (by decide +kernel)
set_option maxRecDepth 65536 in
theorem w_c1 : (Jvm.Cond.code ({ cls := "com/example/tributary/tributary/plan/NodeHeapPollPinLaw", name := "id", desc := "(IIZ)I" } : Jvm.MethodName) method_2_code (4 : Nat) (Option.some Jvm.ClassFile.FieldType.int)).before args0 about1 = true := code_word (m := ⟨1, 1⟩) (meth := k1m1) (c := k1c1) (by decide +kernel) rfl rfl rfl (by decide +kernel)
set_option maxRecDepth 65536 in
theorem w_c2 : (Jvm.Cond.code ({ cls := "com/example/tributary/tributary/plan/NodeHeap", name := "<init>", desc := "(I)V" } : Jvm.MethodName) prog_39_method_1_code (2 : Nat) (Option.none : Option Jvm.ClassFile.FieldType)).before args0 about1 = true := code_word (m := ⟨2, 0⟩) (meth := k2m0) (c := k2c0) (by decide +kernel) rfl rfl rfl (by decide +kernel)
set_option maxRecDepth 65536 in
theorem w_c3 : (Jvm.Cond.code ({ cls := "java/lang/Object", name := "<init>", desc := "()V" } : Jvm.MethodName) object_method_1_code (1 : Nat) (Option.none : Option Jvm.ClassFile.FieldType)).before args0 about1 = true := code_word (m := ⟨0, 0⟩) (meth := k0m0) (c := k0c0) (by decide +kernel) rfl rfl rfl (by decide +kernel)
set_option maxRecDepth 65536 in
theorem w_c4 : (Jvm.Cond.code ({ cls := "java/util/Arrays", name := "fill", desc := "([II)V" } : Jvm.MethodName) jdk_65_method_103_code (4 : Nat) (Option.none : Option Jvm.ClassFile.FieldType)).before args0 about1 = true := code_word (m := ⟨3, 1⟩) (meth := k3m1) (c := k3c1) (by decide +kernel) rfl rfl rfl (by decide +kernel)
set_option maxRecDepth 65536 in
theorem w_c5 : (Jvm.Cond.code ({ cls := "com/example/tributary/tributary/plan/NodeHeap", name := "offer", desc := "(ID)V" } : Jvm.MethodName) prog_39_method_3_code (5 : Nat) (Option.none : Option Jvm.ClassFile.FieldType)).before args0 about1 = true := code_word (m := ⟨2, 2⟩) (meth := k2m2) (c := k2c2) (by decide +kernel) rfl rfl rfl (by decide +kernel)
set_option maxRecDepth 65536 in
theorem w_c6 : (Jvm.Cond.code ({ cls := "com/example/tributary/tributary/plan/NodeHeap", name := "rise", desc := "(I)V" } : Jvm.MethodName) prog_39_method_6_code (4 : Nat) (Option.none : Option Jvm.ClassFile.FieldType)).before args0 about1 = true := code_word (m := ⟨2, 5⟩) (meth := k2m5) (c := k2c5) (by decide +kernel) rfl rfl rfl (by decide +kernel)
set_option maxRecDepth 65536 in
theorem w_c7 : (Jvm.Cond.code ({ cls := "com/example/tributary/tributary/plan/NodeHeap", name := "place", desc := "(II)V" } : Jvm.MethodName) prog_39_method_8_code (3 : Nat) (Option.none : Option Jvm.ClassFile.FieldType)).before args0 about1 = true := code_word (m := ⟨2, 7⟩) (meth := k2m7) (c := k2c7) (by decide +kernel) rfl rfl rfl (by decide +kernel)
set_option maxRecDepth 65536 in
theorem w_c8 : (Jvm.Cond.code ({ cls := "com/example/tributary/tributary/plan/NodeHeap", name := "before", desc := "(II)Z" } : Jvm.MethodName) prog_39_method_5_code (3 : Nat) (Option.some Jvm.ClassFile.FieldType.boolean)).before args0 about1 = true := code_word (m := ⟨2, 4⟩) (meth := k2m4) (c := k2c4) (by decide +kernel) rfl rfl rfl (by decide +kernel)
set_option maxRecDepth 65536 in
theorem w_c9 : (Jvm.Cond.code ({ cls := "com/example/tributary/tributary/plan/NodeHeap", name := "poll", desc := "()I" } : Jvm.MethodName) prog_39_method_4_code (2 : Nat) (Option.some Jvm.ClassFile.FieldType.int)).before args0 about1 = true := code_word (m := ⟨2, 3⟩) (meth := k2m3) (c := k2c3) (by decide +kernel) rfl rfl rfl (by decide +kernel)
set_option maxRecDepth 65536 in
theorem w_c10 : (Jvm.Cond.code ({ cls := "com/example/tributary/tributary/plan/NodeHeap", name := "sink", desc := "(I)V" } : Jvm.MethodName) prog_39_method_7_code (4 : Nat) (Option.none : Option Jvm.ClassFile.FieldType)).before args0 about1 = true := code_word (m := ⟨2, 6⟩) (meth := k2m6) (c := k2c6) (by decide +kernel) rfl rfl rfl (by decide +kernel)
set_option maxRecDepth 65536 in
theorem w_c11 : (Jvm.Cond.code ({ cls := "com/example/tributary/tributary/plan/NodeHeap", name := "isEmpty", desc := "()Z" } : Jvm.MethodName) prog_39_method_2_code (1 : Nat) (Option.some Jvm.ClassFile.FieldType.boolean)).before args0 about1 = true := code_word (m := ⟨2, 1⟩) (meth := k2m1) (c := k2c1) (by decide +kernel) rfl rfl rfl (by decide +kernel)
set_option maxRecDepth 65536 in
theorem w_c12 : (Jvm.Cond.code ({ cls := "com/example/tributary/tributary/plan/NodeHeapPollPinLaw", name := "inRange", desc := "(I)Z" } : Jvm.MethodName) method_4_code (1 : Nat) (Option.some Jvm.ClassFile.FieldType.boolean)).before args0 about1 = true := code_word (m := ⟨1, 3⟩) (meth := k1m3) (c := k1c3) (by decide +kernel) rfl rfl rfl (by decide +kernel)
set_option maxRecDepth 65536 in
theorem w_c13 : (Jvm.Cond.code ({ cls := "com/example/tributary/tributary/plan/NodeHeapPollPinLaw", name := "before", desc := "(II[D)Z" } : Jvm.MethodName) method_3_code (3 : Nat) (Option.some Jvm.ClassFile.FieldType.boolean)).before args0 about1 = true := code_word (m := ⟨1, 2⟩) (meth := k1m2) (c := k1c2) (by decide +kernel) rfl rfl rfl (by decide +kernel)
def codes1 : List Jvm.Cond := [Jvm.Cond.code x code maxLocals ret, Jvm.Cond.code ({ cls := "com/example/tributary/tributary/plan/NodeHeapPollPinLaw", name := "id", desc := "(IIZ)I" } : Jvm.MethodName) method_2_code (4 : Nat) (Option.some Jvm.ClassFile.FieldType.int), Jvm.Cond.code ({ cls := "com/example/tributary/tributary/plan/NodeHeap", name := "<init>", desc := "(I)V" } : Jvm.MethodName) prog_39_method_1_code (2 : Nat) (Option.none : Option Jvm.ClassFile.FieldType), Jvm.Cond.code ({ cls := "java/lang/Object", name := "<init>", desc := "()V" } : Jvm.MethodName) object_method_1_code (1 : Nat) (Option.none : Option Jvm.ClassFile.FieldType), Jvm.Cond.code ({ cls := "java/util/Arrays", name := "fill", desc := "([II)V" } : Jvm.MethodName) jdk_65_method_103_code (4 : Nat) (Option.none : Option Jvm.ClassFile.FieldType), Jvm.Cond.code ({ cls := "com/example/tributary/tributary/plan/NodeHeap", name := "offer", desc := "(ID)V" } : Jvm.MethodName) prog_39_method_3_code (5 : Nat) (Option.none : Option Jvm.ClassFile.FieldType), Jvm.Cond.code ({ cls := "com/example/tributary/tributary/plan/NodeHeap", name := "rise", desc := "(I)V" } : Jvm.MethodName) prog_39_method_6_code (4 : Nat) (Option.none : Option Jvm.ClassFile.FieldType), Jvm.Cond.code ({ cls := "com/example/tributary/tributary/plan/NodeHeap", name := "place", desc := "(II)V" } : Jvm.MethodName) prog_39_method_8_code (3 : Nat) (Option.none : Option Jvm.ClassFile.FieldType), Jvm.Cond.code ({ cls := "com/example/tributary/tributary/plan/NodeHeap", name := "before", desc := "(II)Z" } : Jvm.MethodName) prog_39_method_5_code (3 : Nat) (Option.some Jvm.ClassFile.FieldType.boolean), Jvm.Cond.code ({ cls := "com/example/tributary/tributary/plan/NodeHeap", name := "poll", desc := "()I" } : Jvm.MethodName) prog_39_method_4_code (2 : Nat) (Option.some Jvm.ClassFile.FieldType.int), Jvm.Cond.code ({ cls := "com/example/tributary/tributary/plan/NodeHeap", name := "sink", desc := "(I)V" } : Jvm.MethodName) prog_39_method_7_code (4 : Nat) (Option.none : Option Jvm.ClassFile.FieldType), Jvm.Cond.code ({ cls := "com/example/tributary/tributary/plan/NodeHeap", name := "isEmpty", desc := "()Z" } : Jvm.MethodName) prog_39_method_2_code (1 : Nat) (Option.some Jvm.ClassFile.FieldType.boolean), Jvm.Cond.code ({ cls := "com/example/tributary/tributary/plan/NodeHeapPollPinLaw", name := "inRange", desc := "(I)Z" } : Jvm.MethodName) method_4_code (1 : Nat) (Option.some Jvm.ClassFile.FieldType.boolean), Jvm.Cond.code ({ cls := "com/example/tributary/tributary/plan/NodeHeapPollPinLaw", name := "before", desc := "(II[D)Z" } : Jvm.MethodName) method_3_code (3 : Nat) (Option.some Jvm.ClassFile.FieldType.boolean)]
set_option maxRecDepth 65536 in
theorem codes_eq : words1.filter isCode = codes1 := rfl
theorem w_codes : ∀ c ∈ words1.filter isCode, c.before args0 about1 = true := by
  rw [codes_eq]
  intro c hc
  simp only [codes1, List.mem_cons, List.not_mem_nil, or_false] at hc
  rcases hc with rfl | rfl | rfl | rfl | rfl | rfl | rfl | rfl | rfl | rfl | rfl | rfl | rfl | rfl
  · exact w_c0
  · exact w_c1
  · exact w_c2
  · exact w_c3
  · exact w_c4
  · exact w_c5
  · exact w_c6
  · exact w_c7
  · exact w_c8
  · exact w_c9
  · exact w_c10
  · exact w_c11
  · exact w_c12
  · exact w_c13
set_option maxRecDepth 65536 in
theorem w_t1 : (words1.take 24).all (fun c => isCode c || c.before args0 about1) = true := by decide +kernel
set_option maxRecDepth 65536 in
theorem w_t2 : ((words1.drop 24).take 24).all (fun c => isCode c || c.before args0 about1) = true := by decide +kernel
set_option maxRecDepth 65536 in
theorem w_t3 : ((words1.drop 24).drop 24).all (fun c => isCode c || c.before args0 about1) = true := by decide +kernel
theorem w_tables : (allAtoms (Jvm.Cond.code x code maxLocals ret :: tables_1)).before args0 about1 = true := by
  rw [allAtoms_all]
  show words1.all (fun c => c.before args0 about1) = true
  refine all_split ?_ w_codes
  rw [← List.take_append_drop 24 words1, List.all_append, w_t1, ← List.take_append_drop 24 (words1.drop 24), List.all_append, w_t2, w_t3]
  rfl
set_option maxRecDepth 65536 in
theorem w_case : (Jvm.Cond.and given_1 narrow_1).before args0 about1 = true := by decide +kernel
theorem w_applies : (headSpec (Jvm.Cond.code x code maxLocals ret :: tables_1) room_1).applies x e0.platform about1 = true :=
  (Spec.applies_iff w_frames).mpr ⟨w_running, w_runnable, w_alone, w_named, w_hears, w_ripe, w_room, w_tables⟩
theorem atStart : AtStart classFile x code maxLocals ret World_1 tables_1 room_1 Calls_1 rest_1 Pre_1 launch0 p0 e0 about1 theMethod args0 below0 :=
  ⟨lists_1, trivial, launch0.admits_env _ _ _, launch0.least_env, fairChoices_fair.cas, fairChoices_fair.clock, w_frames, w_args, w_heap, w_applies, trivial, trivial, w_case⟩
end start1
theorem witness_1 : WitnessClaimed_1 := ⟨start1.p0, start1.e0, start1.about1, start1.theMethod, start1.args0, start1.below0, start1.atStart⟩
end Jvm.Pilot.@@N@@
