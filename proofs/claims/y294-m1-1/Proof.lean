import JvmDerived
import JvmDerived.Pilot.@@N@@Statement
import JvmDerived.Pilot.@@N@@Code
set_option linter.unusedVariables false
set_option linter.unusedSimpArgs false
namespace Jvm.OwnKit
open Sem ClassFile Op Lib Jvm.Stand Jvm.Free Jvm.LawKit Jvm.RoadKit
/-- from S the run ends as wanted: it returns v, leaves a heap and has written the places L -/
def Goes (p : Program) (e : Env) (below : List Frame) (s : State) (K N : Nat) (Q : Option Value → Heap → List Loc → Prop) (S : State) : Prop :=
  ∃ s₂ o, Steps p.tables e below S s₂ ∧ s₂.status = .running ∧ Ended s₂ below o ∧ ∃ v L, o = .returned v ∧ Q v s₂.heap L ∧ FrameEnd s o s₂ L K N
def Cl (p : Program) (e : Env) (below : List Frame) (G : State → Prop) : Prop := ∀ S S', (∀ t, Steps p.tables e below S' t → Steps p.tables e below S t) → G S' → G S
theorem Goes.cl (p : Program) (e : Env) (below : List Frame) (s : State) (K N : Nat) (Q : Option Value → Heap → List Loc → Prop) : Cl p e below (Goes p e below s K N Q) := fun S S' h k => by
  obtain ⟨s₂, o, h1, r⟩ := k
  exact ⟨s₂, o, h _ h1, r⟩
/-- a body's contract -/
abbrev Con (l : Launch) (y : MethodName) (bytes : ByteArray) (maxL : Nat) (ret : Option FieldType) (ws : List Jvm.Cond) (rm : Room) (Z : State) (as : Array Value) (h0 : Heap) (K N : Nat) (Q : Option Value → Heap → List Loc → Prop) : Prop :=
  MetFree l y (head1 (Jvm.Cond.code y bytes maxL ret :: ws) rm) (fun a U => a = as ∧ Z.Warmed39 U.vm ∧ U.heap = h0) (fun _ _ _ _ _ => True) (fun _ U o U' => ∃ v L, o = .returned v ∧ Q v U'.heap L ∧ FrameEnd U o U' L K N)
theorem Con.of {l : Launch} {y : MethodName} {bytes : ByteArray} {maxL : Nat} {ret : Option FieldType} {ws : List Jvm.Cond} {rm : Room} {Z : State} {as : Array Value} {h0 : Heap} {K N : Nat} {Q : Option Value → Heap → List Loc → Prop} {Ls : Array Slot}
    (pl : plainFor y = true) (hef : ∀ m, entryFrame m as maxL = mkF m 0 Ls [])
    (H : ∀ (p : Program) (e : Env) (s : State) (m : MethodId) (below : List Frame) (meth : Method) (c : Code) (s₁ : State) (G : State → Prop), G = Goes p e below s K N Q → Cl p e below G → p.tables.exec = Jvm.exec → c.code = bytes → c.maxLocals = maxL → s.vm.findClass y.cls = some m.cls → meth.name = y.name → meth.sig.returnType = ret → meth.locks = false → Z.Warmed39 s.vm → Stand p l e rm s m as below meth c s₁ [] 0 0 → s₁.heap = h0 → G (s₁.setTop (mkF m 0 Ls []))) :
    Con l y bytes maxL ret ws rm Z as h0 K N Q := by
  refine MetFree.of_bodySF pl hisR ?_
  intro p e s m args below meth c s₁ Bd hml0 hP hK
  obtain ⟨rfl, hZ, hh⟩ := hP
  have X0 : Stand p l e rm s m args below meth c s₁ [] 0 0 := Stand.of_body Bd
  have e0 : s₁.heap = h0 := by rw [← hh, Bd.state]; rfl
  have g := H p e s m below meth c s₁ _ rfl (Goes.cl p e below s K N Q) Bd.exec Bd.bytes hml0 (findClass_of_methodNamed Bd.named) (name_of_methodNamed Bd.named Bd.method).1 Bd.returns Bd.notSynchronized hZ X0 e0
  rw [← hef m] at g
  exact g
theorem Wr.size {h h' : Heap} {a : Addr} {sl : Nat} {v : Value} (W : Wr h h' a sl v) : h.size ≤ h'.size := by
  obtain ⟨c, -, -, -, rfl⟩ := W
  simp
section New
variable {p : Program} {l : Launch} {e : Env} {R : Room} {s : State} {m : MethodId} {args : Array Value} {below : List Frame} {meth : Method} {c : Code} {T : State} {locs : List Loc} {cells slots : Nat} {Z : State} {a0 : Array Value} {h : Heap} {G : State → Prop} {pc pc' : Nat} {Ls Ls' : Array Slot} {rest : List Value} {K N : Nat} {Q : Option Value → Heap → List Loc → Prop}
/-! the ends -/
theorem e_ret (hGe : G = Goes p e below s K N Q) (X : Stand p l e R s m args below meth c T locs cells slots) (hx : p.tables.exec = Jvm.exec) {w : Value} {t : FieldType} {i : Instr} (hret : meth.sig.returnType = some t) (hlk : meth.locks = false) (hd : decode c.code pc = .ok (i, 1)) (hn : narrow t w = w)
    (hi : (i = .ireturn ∧ (t = .int ∨ t = .boolean ∨ t = .byte ∨ t = .char ∨ t = .short) ∧ ∃ z, w = .int z) ∨ (i = .lreturn ∧ t = .long ∧ ∃ z, w = .long z) ∨ (i = .dreturn ∧ t = .double ∧ ∃ z, w = .double z) ∨ (i = .freturn ∧ t = .float ∧ ∃ z, w = .float z) ∨ (i = .areturn ∧ t.isReference = true ∧ w.isRef = true))
    (eT : T.heap = h) (hk : cells ≤ K) (hs : slots ≤ N) (hQ : Q (some w) h locs) : G (T.setTop (mkF m pc Ls (w :: rest))) := by
  subst hGe
  obtain ⟨fs, hr, hrun, hended, hW, hsame⟩ := X.leave (v := some w) (fun h => by rw [hret] at h; cases h) hlk
  refine ⟨_, _, retOut X hx hret hn hi hd hr, hrun, hended, _, _, rfl, ?_, ⟨_, rfl⟩, hW, hsame.mono hk hs⟩
  show Q _ T.heap _
  rw [eT]; exact hQ
theorem e_retI (hGe : G = Goes p e below s K N Q) (X : Stand p l e R s m args below meth c T locs cells slots) (hx : p.tables.exec = Jvm.exec) {z : Int32} (hret : meth.sig.returnType = some .int) (hlk : meth.locks = false) (hd : decode c.code pc = .ok (.ireturn, 1)) (eT : T.heap = h) (hk : cells ≤ K) (hs : slots ≤ N) (hQ : Q (some (.int z)) h locs) : G (T.setTop (mkF m pc Ls (.int z :: rest))) :=
  e_ret hGe X hx hret hlk hd rfl (Or.inl ⟨rfl, Or.inl rfl, z, rfl⟩) eT hk hs hQ
theorem e_retJ (hGe : G = Goes p e below s K N Q) (X : Stand p l e R s m args below meth c T locs cells slots) (hx : p.tables.exec = Jvm.exec) {z : Int64} (hret : meth.sig.returnType = some .long) (hlk : meth.locks = false) (hd : decode c.code pc = .ok (.lreturn, 1)) (eT : T.heap = h) (hk : cells ≤ K) (hs : slots ≤ N) (hQ : Q (some (.long z)) h locs) : G (T.setTop (mkF m pc Ls (.long z :: rest))) :=
  e_ret hGe X hx hret hlk hd rfl (Or.inr (Or.inl ⟨rfl, rfl, z, rfl⟩)) eT hk hs hQ
theorem e_retD (hGe : G = Goes p e below s K N Q) (X : Stand p l e R s m args below meth c T locs cells slots) (hx : p.tables.exec = Jvm.exec) {z : UInt64} (hret : meth.sig.returnType = some .double) (hlk : meth.locks = false) (hd : decode c.code pc = .ok (.dreturn, 1)) (eT : T.heap = h) (hk : cells ≤ K) (hs : slots ≤ N) (hQ : Q (some (.double z)) h locs) : G (T.setTop (mkF m pc Ls (.double z :: rest))) :=
  e_ret hGe X hx hret hlk hd rfl (Or.inr (Or.inr (Or.inl ⟨rfl, rfl, z, rfl⟩))) eT hk hs hQ
theorem e_retA (hGe : G = Goes p e below s K N Q) (X : Stand p l e R s m args below meth c T locs cells slots) (hx : p.tables.exec = Jvm.exec) {a : Addr} {t : FieldType} (hret : meth.sig.returnType = some t) (ht : t.isReference = true) (hlk : meth.locks = false) (hd : decode c.code pc = .ok (.areturn, 1)) (eT : T.heap = h) (hk : cells ≤ K) (hs : slots ≤ N) (hQ : Q (some (.ref a)) h locs) : G (T.setTop (mkF m pc Ls (.ref a :: rest))) :=
  e_ret hGe X hx hret hlk hd (by cases t <;> first | rfl | (cases ht)) (Or.inr (Or.inr (Or.inr (Or.inr ⟨rfl, ht, rfl⟩)))) eT hk hs hQ
theorem e_retZ (hGe : G = Goes p e below s K N Q) (X : Stand p l e R s m args below meth c T locs cells slots) (hx : p.tables.exec = Jvm.exec) {z : Int32} (hret : meth.sig.returnType = some .boolean) (hlk : meth.locks = false) (hd : decode c.code pc = .ok (.ireturn, 1)) (hz : z = 0 ∨ z = 1) (eT : T.heap = h) (hk : cells ≤ K) (hs : slots ≤ N) (hQ : Q (some (.int z)) h locs) : G (T.setTop (mkF m pc Ls (.int z :: rest))) :=
  e_ret hGe X hx hret hlk hd (by rcases hz with rfl | rfl <;> rfl) (Or.inl ⟨rfl, Or.inr (Or.inl rfl), z, rfl⟩) eT hk hs hQ
theorem e_ret0 (hGe : G = Goes p e below s K N Q) (X : Stand p l e R s m args below meth c T locs cells slots) (hx : p.tables.exec = Jvm.exec) (hret : meth.sig.returnType = none) (hlk : meth.locks = false) (hd : decode c.code pc = .ok (.return_, 1)) (eT : T.heap = h) (hk : cells ≤ K) (hs : slots ≤ N) (hQ : Q none h locs) : G (T.setTop (mkF m pc Ls [])) := by
  subst hGe
  obtain ⟨fs, hr, hrun, hended, hW, hsame⟩ := X.leave (v := none) (fun _ => rfl) hlk
  refine ⟨_, _, X.returnOut hx hret hd hr, hrun, hended, _, _, rfl, ?_, ⟨_, rfl⟩, hW, hsame.mono hk hs⟩
  show Q _ T.heap _
  rw [eT]; exact hQ
/-! the plain steps -/
theorem g_iload (hG : Cl p e below G) (X : Stand p l e R s m args below meth c T locs cells slots) (hx : p.tables.exec = Jvm.exec) {i : Nat} {v : Int32} (hd : decode c.code pc = .ok (.iload i, 2)) (hp : pc' = pc + 2) (hl : Ls[i]? = some (.val (.int v))) (k : G (T.setTop (mkF m pc' Ls (.int v :: rest)))) : G (T.setTop (mkF m pc Ls (rest))) := by
  subst hp
  refine hG _ _ (fun t ht => ?_) k
  exact XS.iload X.here hx rfl hd hl ht
theorem g_iloadN (hG : Cl p e below G) (X : Stand p l e R s m args below meth c T locs cells slots) (hx : p.tables.exec = Jvm.exec) {i : Fin 4} {v : Int32} (hd : decode c.code pc = .ok (.iload_n i, 1)) (hp : pc' = pc + 1) (hl : Ls[i.val]? = some (.val (.int v))) (k : G (T.setTop (mkF m pc' Ls (.int v :: rest)))) : G (T.setTop (mkF m pc Ls (rest))) := by
  subst hp
  refine hG _ _ (fun t ht => ?_) k
  exact XS.iloadN X.here hx rfl hd hl ht
theorem g_istore (hG : Cl p e below G) (X : Stand p l e R s m args below meth c T locs cells slots) (hx : p.tables.exec = Jvm.exec) {i : Nat} {v : Int32} (hd : decode c.code pc = .ok (.istore i, 2)) (hp : pc' = pc + 2) (hl : storeLocals Ls i (.int v) = some Ls') (k : G (T.setTop (mkF m pc' Ls' (rest)))) : G (T.setTop (mkF m pc Ls (.int v :: rest))) := by
  subst hp
  refine hG _ _ (fun t ht => ?_) k
  exact XS.istore X.here hx rfl hd rfl hl ht
theorem g_istoreN (hG : Cl p e below G) (X : Stand p l e R s m args below meth c T locs cells slots) (hx : p.tables.exec = Jvm.exec) {i : Fin 4} {v : Int32} (hd : decode c.code pc = .ok (.istore_n i, 1)) (hp : pc' = pc + 1) (hl : storeLocals Ls i.val (.int v) = some Ls') (k : G (T.setTop (mkF m pc' Ls' (rest)))) : G (T.setTop (mkF m pc Ls (.int v :: rest))) := by
  subst hp
  refine hG _ _ (fun t ht => ?_) k
  exact XS.istoreN X.here hx rfl hd rfl hl ht
theorem g_lload (hG : Cl p e below G) (X : Stand p l e R s m args below meth c T locs cells slots) (hx : p.tables.exec = Jvm.exec) {i : Nat} {v : Int64} (hd : decode c.code pc = .ok (.lload i, 2)) (hp : pc' = pc + 2) (hl : Ls[i]? = some (.val (.long v))) (k : G (T.setTop (mkF m pc' Ls (.long v :: rest)))) : G (T.setTop (mkF m pc Ls (rest))) := by
  subst hp
  refine hG _ _ (fun t ht => ?_) k
  exact XS.lload X.here hx rfl hd hl ht
theorem g_lloadN (hG : Cl p e below G) (X : Stand p l e R s m args below meth c T locs cells slots) (hx : p.tables.exec = Jvm.exec) {i : Fin 4} {v : Int64} (hd : decode c.code pc = .ok (.lload_n i, 1)) (hp : pc' = pc + 1) (hl : Ls[i.val]? = some (.val (.long v))) (k : G (T.setTop (mkF m pc' Ls (.long v :: rest)))) : G (T.setTop (mkF m pc Ls (rest))) := by
  subst hp
  refine hG _ _ (fun t ht => ?_) k
  exact XS.lloadN X.here hx rfl hd hl ht
theorem g_lstore (hG : Cl p e below G) (X : Stand p l e R s m args below meth c T locs cells slots) (hx : p.tables.exec = Jvm.exec) {i : Nat} {v : Int64} (hd : decode c.code pc = .ok (.lstore i, 2)) (hp : pc' = pc + 2) (hl : storeLocals Ls i (.long v) = some Ls') (k : G (T.setTop (mkF m pc' Ls' (rest)))) : G (T.setTop (mkF m pc Ls (.long v :: rest))) := by
  subst hp
  refine hG _ _ (fun t ht => ?_) k
  exact XS.lstore X.here hx rfl hd rfl hl ht
theorem g_lstoreN (hG : Cl p e below G) (X : Stand p l e R s m args below meth c T locs cells slots) (hx : p.tables.exec = Jvm.exec) {i : Fin 4} {v : Int64} (hd : decode c.code pc = .ok (.lstore_n i, 1)) (hp : pc' = pc + 1) (hl : storeLocals Ls i.val (.long v) = some Ls') (k : G (T.setTop (mkF m pc' Ls' (rest)))) : G (T.setTop (mkF m pc Ls (.long v :: rest))) := by
  subst hp
  refine hG _ _ (fun t ht => ?_) k
  exact XS.lstoreN X.here hx rfl hd rfl hl ht
theorem g_dload (hG : Cl p e below G) (X : Stand p l e R s m args below meth c T locs cells slots) (hx : p.tables.exec = Jvm.exec) {i : Nat} {v : UInt64} (hd : decode c.code pc = .ok (.dload i, 2)) (hp : pc' = pc + 2) (hl : Ls[i]? = some (.val (.double v))) (k : G (T.setTop (mkF m pc' Ls (.double v :: rest)))) : G (T.setTop (mkF m pc Ls (rest))) := by
  subst hp
  refine hG _ _ (fun t ht => ?_) k
  exact XS.dload X.here hx rfl hd hl ht
theorem g_dloadN (hG : Cl p e below G) (X : Stand p l e R s m args below meth c T locs cells slots) (hx : p.tables.exec = Jvm.exec) {i : Fin 4} {v : UInt64} (hd : decode c.code pc = .ok (.dload_n i, 1)) (hp : pc' = pc + 1) (hl : Ls[i.val]? = some (.val (.double v))) (k : G (T.setTop (mkF m pc' Ls (.double v :: rest)))) : G (T.setTop (mkF m pc Ls (rest))) := by
  subst hp
  refine hG _ _ (fun t ht => ?_) k
  exact XS.dloadN X.here hx rfl hd hl ht
theorem g_dstore (hG : Cl p e below G) (X : Stand p l e R s m args below meth c T locs cells slots) (hx : p.tables.exec = Jvm.exec) {i : Nat} {v : UInt64} (hd : decode c.code pc = .ok (.dstore i, 2)) (hp : pc' = pc + 2) (hl : storeLocals Ls i (.double v) = some Ls') (k : G (T.setTop (mkF m pc' Ls' (rest)))) : G (T.setTop (mkF m pc Ls (.double v :: rest))) := by
  subst hp
  refine hG _ _ (fun t ht => ?_) k
  exact XS.dstore X.here hx rfl hd rfl hl ht
theorem g_dstoreN (hG : Cl p e below G) (X : Stand p l e R s m args below meth c T locs cells slots) (hx : p.tables.exec = Jvm.exec) {i : Fin 4} {v : UInt64} (hd : decode c.code pc = .ok (.dstore_n i, 1)) (hp : pc' = pc + 1) (hl : storeLocals Ls i.val (.double v) = some Ls') (k : G (T.setTop (mkF m pc' Ls' (rest)))) : G (T.setTop (mkF m pc Ls (.double v :: rest))) := by
  subst hp
  refine hG _ _ (fun t ht => ?_) k
  exact XS.dstoreN X.here hx rfl hd rfl hl ht
theorem g_aload (hG : Cl p e below G) (X : Stand p l e R s m args below meth c T locs cells slots) (hx : p.tables.exec = Jvm.exec) {i : Nat} {v : Value} (hd : decode c.code pc = .ok (.aload i, 2)) (hp : pc' = pc + 2) (hl : Ls[i]? = some (.val v)) (hv' : v.isRef = true) (k : G (T.setTop (mkF m pc' Ls (v :: rest)))) : G (T.setTop (mkF m pc Ls (rest))) := by
  subst hp
  refine hG _ _ (fun t ht => ?_) k
  exact XS.aload X.here hx rfl hd hl hv' ht
theorem g_aloadN (hG : Cl p e below G) (X : Stand p l e R s m args below meth c T locs cells slots) (hx : p.tables.exec = Jvm.exec) {i : Fin 4} {v : Value} (hd : decode c.code pc = .ok (.aload_n i, 1)) (hp : pc' = pc + 1) (hl : Ls[i.val]? = some (.val v)) (hv' : v.isRef = true) (k : G (T.setTop (mkF m pc' Ls (v :: rest)))) : G (T.setTop (mkF m pc Ls (rest))) := by
  subst hp
  refine hG _ _ (fun t ht => ?_) k
  exact XS.aloadN X.here hx rfl hd hl hv' ht
theorem g_astore (hG : Cl p e below G) (X : Stand p l e R s m args below meth c T locs cells slots) (hx : p.tables.exec = Jvm.exec) {i : Nat} {v : Value} (hd : decode c.code pc = .ok (.astore i, 2)) (hp : pc' = pc + 2) (hv' : v.isRef = true) (hl : storeLocals Ls i v = some Ls') (k : G (T.setTop (mkF m pc' Ls' (rest)))) : G (T.setTop (mkF m pc Ls (v :: rest))) := by
  subst hp
  refine hG _ _ (fun t ht => ?_) k
  exact XS.astore X.here hx rfl hd rfl hv' hl ht
theorem g_astoreN (hG : Cl p e below G) (X : Stand p l e R s m args below meth c T locs cells slots) (hx : p.tables.exec = Jvm.exec) {i : Fin 4} {v : Value} (hd : decode c.code pc = .ok (.astore_n i, 1)) (hp : pc' = pc + 1) (hv' : v.isRef = true) (hl : storeLocals Ls i.val v = some Ls') (k : G (T.setTop (mkF m pc' Ls' (rest)))) : G (T.setTop (mkF m pc Ls (v :: rest))) := by
  subst hp
  refine hG _ _ (fun t ht => ?_) k
  exact XS.astoreN X.here hx rfl hd rfl hv' hl ht
theorem g_iconst (hG : Cl p e below G) (X : Stand p l e R s m args below meth c T locs cells slots) (hx : p.tables.exec = Jvm.exec) {i : Int} {v : Int32} (hd : decode c.code pc = .ok (.iconst i, 1)) (hp : pc' = pc + 1) (hv : Int32.ofInt i = v) (k : G (T.setTop (mkF m pc' Ls (.int v :: rest)))) : G (T.setTop (mkF m pc Ls (rest))) := by
  subst hp
  subst hv
  refine hG _ _ (fun t ht => ?_) k
  exact XS.iconst X.here hx rfl hd ht
theorem g_bipush (hG : Cl p e below G) (X : Stand p l e R s m args below meth c T locs cells slots) (hx : p.tables.exec = Jvm.exec) {i : Int} {v : Int32} (hd : decode c.code pc = .ok (.bipush i, 2)) (hp : pc' = pc + 2) (hv : (Int8.ofInt i).toInt32 = v) (k : G (T.setTop (mkF m pc' Ls (.int v :: rest)))) : G (T.setTop (mkF m pc Ls (rest))) := by
  subst hp
  subst hv
  refine hG _ _ (fun t ht => ?_) k
  exact XS.bipush X.here hx rfl hd ht
theorem g_sipush (hG : Cl p e below G) (X : Stand p l e R s m args below meth c T locs cells slots) (hx : p.tables.exec = Jvm.exec) {i : Int} {v : Int32} (hd : decode c.code pc = .ok (.sipush i, 3)) (hp : pc' = pc + 3) (hv : (Int16.ofInt i).toInt32 = v) (k : G (T.setTop (mkF m pc' Ls (.int v :: rest)))) : G (T.setTop (mkF m pc Ls (rest))) := by
  subst hp
  subst hv
  refine hG _ _ (fun t ht => ?_) k
  exact XS.sipush X.here hx rfl hd ht
theorem g_lconst (hG : Cl p e below G) (X : Stand p l e R s m args below meth c T locs cells slots) (hx : p.tables.exec = Jvm.exec) {i : Fin 2} {v : Int64} (hd : decode c.code pc = .ok (.lconst i, 1)) (hp : pc' = pc + 1) (hv : Int64.ofNat i.val = v) (k : G (T.setTop (mkF m pc' Ls (.long v :: rest)))) : G (T.setTop (mkF m pc Ls (rest))) := by
  subst hp
  subst hv
  refine hG _ _ (fun t ht => ?_) k
  exact XS.lconst X.here hx rfl hd ht
theorem g_dconst0 (hG : Cl p e below G) (X : Stand p l e R s m args below meth c T locs cells slots) (hx : p.tables.exec = Jvm.exec) {v : UInt64} (hd : decode c.code pc = .ok (.dconst 0, 1)) (hp : pc' = pc + 1) (hv : FP.dconst0 = v) (k : G (T.setTop (mkF m pc' Ls (.double v :: rest)))) : G (T.setTop (mkF m pc Ls (rest))) := by
  subst hp
  subst hv
  refine hG _ _ (fun t ht => ?_) k
  exact XS.dconst0 X.here hx rfl hd rfl ht
theorem g_dconst1 (hG : Cl p e below G) (X : Stand p l e R s m args below meth c T locs cells slots) (hx : p.tables.exec = Jvm.exec) {v : UInt64} (hd : decode c.code pc = .ok (.dconst 1, 1)) (hp : pc' = pc + 1) (hv : FP.dconst1 = v) (k : G (T.setTop (mkF m pc' Ls (.double v :: rest)))) : G (T.setTop (mkF m pc Ls (rest))) := by
  subst hp
  subst hv
  refine hG _ _ (fun t ht => ?_) k
  exact XS.dconst1 X.here hx rfl hd rfl ht
theorem g_aconstNull (hG : Cl p e below G) (X : Stand p l e R s m args below meth c T locs cells slots) (hx : p.tables.exec = Jvm.exec)  (hd : decode c.code pc = .ok (.aconst_null, 1)) (hp : pc' = pc + 1) (k : G (T.setTop (mkF m pc' Ls (.null :: rest)))) : G (T.setTop (mkF m pc Ls (rest))) := by
  subst hp
  refine hG _ _ (fun t ht => ?_) k
  exact XS.aconstNull X.here hx rfl hd ht
theorem g_iadd (hG : Cl p e below G) (X : Stand p l e R s m args below meth c T locs cells slots) (hx : p.tables.exec = Jvm.exec) {x y v : Int32} (hd : decode c.code pc = .ok (.iadd, 1)) (hp : pc' = pc + 1) (hv : x + y = v) (k : G (T.setTop (mkF m pc' Ls (.int v :: rest)))) : G (T.setTop (mkF m pc Ls (.int y :: .int x :: rest))) := by
  subst hp
  subst hv
  refine hG _ _ (fun t ht => ?_) k
  exact XS.iadd X.here hx rfl hd rfl ht
theorem g_ladd (hG : Cl p e below G) (X : Stand p l e R s m args below meth c T locs cells slots) (hx : p.tables.exec = Jvm.exec) {x y v : Int64} (hd : decode c.code pc = .ok (.ladd, 1)) (hp : pc' = pc + 1) (hv : x + y = v) (k : G (T.setTop (mkF m pc' Ls (.long v :: rest)))) : G (T.setTop (mkF m pc Ls (.long y :: .long x :: rest))) := by
  subst hp
  subst hv
  refine hG _ _ (fun t ht => ?_) k
  exact XS.ladd X.here hx rfl hd rfl ht
theorem g_isub (hG : Cl p e below G) (X : Stand p l e R s m args below meth c T locs cells slots) (hx : p.tables.exec = Jvm.exec) {x y v : Int32} (hd : decode c.code pc = .ok (.isub, 1)) (hp : pc' = pc + 1) (hv : x - y = v) (k : G (T.setTop (mkF m pc' Ls (.int v :: rest)))) : G (T.setTop (mkF m pc Ls (.int y :: .int x :: rest))) := by
  subst hp
  subst hv
  refine hG _ _ (fun t ht => ?_) k
  exact XS.isub X.here hx rfl hd rfl ht
theorem g_lsub (hG : Cl p e below G) (X : Stand p l e R s m args below meth c T locs cells slots) (hx : p.tables.exec = Jvm.exec) {x y v : Int64} (hd : decode c.code pc = .ok (.lsub, 1)) (hp : pc' = pc + 1) (hv : x - y = v) (k : G (T.setTop (mkF m pc' Ls (.long v :: rest)))) : G (T.setTop (mkF m pc Ls (.long y :: .long x :: rest))) := by
  subst hp
  subst hv
  refine hG _ _ (fun t ht => ?_) k
  exact XS.lsub X.here hx rfl hd rfl ht
theorem g_imul (hG : Cl p e below G) (X : Stand p l e R s m args below meth c T locs cells slots) (hx : p.tables.exec = Jvm.exec) {x y v : Int32} (hd : decode c.code pc = .ok (.imul, 1)) (hp : pc' = pc + 1) (hv : x * y = v) (k : G (T.setTop (mkF m pc' Ls (.int v :: rest)))) : G (T.setTop (mkF m pc Ls (.int y :: .int x :: rest))) := by
  subst hp
  subst hv
  refine hG _ _ (fun t ht => ?_) k
  exact XS.imul X.here hx rfl hd rfl ht
theorem g_lmul (hG : Cl p e below G) (X : Stand p l e R s m args below meth c T locs cells slots) (hx : p.tables.exec = Jvm.exec) {x y v : Int64} (hd : decode c.code pc = .ok (.lmul, 1)) (hp : pc' = pc + 1) (hv : x * y = v) (k : G (T.setTop (mkF m pc' Ls (.long v :: rest)))) : G (T.setTop (mkF m pc Ls (.long y :: .long x :: rest))) := by
  subst hp
  subst hv
  refine hG _ _ (fun t ht => ?_) k
  exact XS.lmul X.here hx rfl hd rfl ht
theorem g_iand (hG : Cl p e below G) (X : Stand p l e R s m args below meth c T locs cells slots) (hx : p.tables.exec = Jvm.exec) {x y v : Int32} (hd : decode c.code pc = .ok (.iand, 1)) (hp : pc' = pc + 1) (hv : x &&& y = v) (k : G (T.setTop (mkF m pc' Ls (.int v :: rest)))) : G (T.setTop (mkF m pc Ls (.int y :: .int x :: rest))) := by
  subst hp
  subst hv
  refine hG _ _ (fun t ht => ?_) k
  exact XS.iand X.here hx rfl hd rfl ht
theorem g_land (hG : Cl p e below G) (X : Stand p l e R s m args below meth c T locs cells slots) (hx : p.tables.exec = Jvm.exec) {x y v : Int64} (hd : decode c.code pc = .ok (.land, 1)) (hp : pc' = pc + 1) (hv : x &&& y = v) (k : G (T.setTop (mkF m pc' Ls (.long v :: rest)))) : G (T.setTop (mkF m pc Ls (.long y :: .long x :: rest))) := by
  subst hp
  subst hv
  refine hG _ _ (fun t ht => ?_) k
  exact XS.land X.here hx rfl hd rfl ht
theorem g_ior (hG : Cl p e below G) (X : Stand p l e R s m args below meth c T locs cells slots) (hx : p.tables.exec = Jvm.exec) {x y v : Int32} (hd : decode c.code pc = .ok (.ior, 1)) (hp : pc' = pc + 1) (hv : x ||| y = v) (k : G (T.setTop (mkF m pc' Ls (.int v :: rest)))) : G (T.setTop (mkF m pc Ls (.int y :: .int x :: rest))) := by
  subst hp
  subst hv
  refine hG _ _ (fun t ht => ?_) k
  exact XS.ior X.here hx rfl hd rfl ht
theorem g_lor (hG : Cl p e below G) (X : Stand p l e R s m args below meth c T locs cells slots) (hx : p.tables.exec = Jvm.exec) {x y v : Int64} (hd : decode c.code pc = .ok (.lor, 1)) (hp : pc' = pc + 1) (hv : x ||| y = v) (k : G (T.setTop (mkF m pc' Ls (.long v :: rest)))) : G (T.setTop (mkF m pc Ls (.long y :: .long x :: rest))) := by
  subst hp
  subst hv
  refine hG _ _ (fun t ht => ?_) k
  exact XS.lor X.here hx rfl hd rfl ht
theorem g_ixor (hG : Cl p e below G) (X : Stand p l e R s m args below meth c T locs cells slots) (hx : p.tables.exec = Jvm.exec) {x y v : Int32} (hd : decode c.code pc = .ok (.ixor, 1)) (hp : pc' = pc + 1) (hv : x ^^^ y = v) (k : G (T.setTop (mkF m pc' Ls (.int v :: rest)))) : G (T.setTop (mkF m pc Ls (.int y :: .int x :: rest))) := by
  subst hp
  subst hv
  refine hG _ _ (fun t ht => ?_) k
  exact XS.ixor X.here hx rfl hd rfl ht
theorem g_lxor (hG : Cl p e below G) (X : Stand p l e R s m args below meth c T locs cells slots) (hx : p.tables.exec = Jvm.exec) {x y v : Int64} (hd : decode c.code pc = .ok (.lxor, 1)) (hp : pc' = pc + 1) (hv : x ^^^ y = v) (k : G (T.setTop (mkF m pc' Ls (.long v :: rest)))) : G (T.setTop (mkF m pc Ls (.long y :: .long x :: rest))) := by
  subst hp
  subst hv
  refine hG _ _ (fun t ht => ?_) k
  exact XS.lxor X.here hx rfl hd rfl ht
theorem g_ineg (hG : Cl p e below G) (X : Stand p l e R s m args below meth c T locs cells slots) (hx : p.tables.exec = Jvm.exec) {x v : Int32} (hd : decode c.code pc = .ok (.ineg, 1)) (hp : pc' = pc + 1) (hv : -x = v) (k : G (T.setTop (mkF m pc' Ls (.int v :: rest)))) : G (T.setTop (mkF m pc Ls (.int x :: rest))) := by
  subst hp
  subst hv
  refine hG _ _ (fun t ht => ?_) k
  exact XS.ineg X.here hx rfl hd rfl ht
theorem g_lneg (hG : Cl p e below G) (X : Stand p l e R s m args below meth c T locs cells slots) (hx : p.tables.exec = Jvm.exec) {x v : Int64} (hd : decode c.code pc = .ok (.lneg, 1)) (hp : pc' = pc + 1) (hv : -x = v) (k : G (T.setTop (mkF m pc' Ls (.long v :: rest)))) : G (T.setTop (mkF m pc Ls (.long x :: rest))) := by
  subst hp
  subst hv
  refine hG _ _ (fun t ht => ?_) k
  exact XS.lneg X.here hx rfl hd rfl ht
theorem g_i2l (hG : Cl p e below G) (X : Stand p l e R s m args below meth c T locs cells slots) (hx : p.tables.exec = Jvm.exec) {x : Int32} {v : Int64} (hd : decode c.code pc = .ok (.i2l, 1)) (hp : pc' = pc + 1) (hv : x.toInt64 = v) (k : G (T.setTop (mkF m pc' Ls (.long v :: rest)))) : G (T.setTop (mkF m pc Ls (.int x :: rest))) := by
  subst hp
  subst hv
  refine hG _ _ (fun t ht => ?_) k
  exact XS.i2l X.here hx rfl hd rfl ht
theorem g_l2i (hG : Cl p e below G) (X : Stand p l e R s m args below meth c T locs cells slots) (hx : p.tables.exec = Jvm.exec) {x : Int64} {v : Int32} (hd : decode c.code pc = .ok (.l2i, 1)) (hp : pc' = pc + 1) (hv : x.toInt32 = v) (k : G (T.setTop (mkF m pc' Ls (.int v :: rest)))) : G (T.setTop (mkF m pc Ls (.long x :: rest))) := by
  subst hp
  subst hv
  refine hG _ _ (fun t ht => ?_) k
  exact XS.l2i X.here hx rfl hd rfl ht
theorem g_i2c (hG : Cl p e below G) (X : Stand p l e R s m args below meth c T locs cells slots) (hx : p.tables.exec = Jvm.exec) {x v : Int32} (hd : decode c.code pc = .ok (.i2c, 1)) (hp : pc' = pc + 1) (hv : x.toUInt32.toUInt16.toUInt32.toInt32 = v) (k : G (T.setTop (mkF m pc' Ls (.int v :: rest)))) : G (T.setTop (mkF m pc Ls (.int x :: rest))) := by
  subst hp
  subst hv
  refine hG _ _ (fun t ht => ?_) k
  exact XS.i2c X.here hx rfl hd rfl ht
theorem g_i2b (hG : Cl p e below G) (X : Stand p l e R s m args below meth c T locs cells slots) (hx : p.tables.exec = Jvm.exec) {x v : Int32} (hd : decode c.code pc = .ok (.i2b, 1)) (hp : pc' = pc + 1) (hv : x.toInt8.toInt32 = v) (k : G (T.setTop (mkF m pc' Ls (.int v :: rest)))) : G (T.setTop (mkF m pc Ls (.int x :: rest))) := by
  subst hp
  subst hv
  refine hG _ _ (fun t ht => ?_) k
  exact XS.i2b X.here hx rfl hd rfl ht
theorem g_ishl (hG : Cl p e below G) (X : Stand p l e R s m args below meth c T locs cells slots) (hx : p.tables.exec = Jvm.exec) {x y v : Int32} (hd : decode c.code pc = .ok (.ishl, 1)) (hp : pc' = pc + 1) (hv : x <<< (y &&& 31) = v) (k : G (T.setTop (mkF m pc' Ls (.int v :: rest)))) : G (T.setTop (mkF m pc Ls (.int y :: .int x :: rest))) := by
  subst hp
  subst hv
  refine hG _ _ (fun t ht => ?_) k
  exact XS.ishl X.here hx rfl hd rfl ht
theorem g_ishr (hG : Cl p e below G) (X : Stand p l e R s m args below meth c T locs cells slots) (hx : p.tables.exec = Jvm.exec) {x y v : Int32} (hd : decode c.code pc = .ok (.ishr, 1)) (hp : pc' = pc + 1) (hv : x >>> (y &&& 31) = v) (k : G (T.setTop (mkF m pc' Ls (.int v :: rest)))) : G (T.setTop (mkF m pc Ls (.int y :: .int x :: rest))) := by
  subst hp
  subst hv
  refine hG _ _ (fun t ht => ?_) k
  exact XS.ishr X.here hx rfl hd rfl ht
theorem g_iushr (hG : Cl p e below G) (X : Stand p l e R s m args below meth c T locs cells slots) (hx : p.tables.exec = Jvm.exec) {x y v : Int32} (hd : decode c.code pc = .ok (.iushr, 1)) (hp : pc' = pc + 1) (hv : (x.toUInt32 >>> (y &&& 31).toUInt32).toInt32 = v) (k : G (T.setTop (mkF m pc' Ls (.int v :: rest)))) : G (T.setTop (mkF m pc Ls (.int y :: .int x :: rest))) := by
  subst hp
  subst hv
  refine hG _ _ (fun t ht => ?_) k
  exact XS.iushr X.here hx rfl hd rfl ht
theorem g_lshl (hG : Cl p e below G) (X : Stand p l e R s m args below meth c T locs cells slots) (hx : p.tables.exec = Jvm.exec) {x : Int64} {y : Int32} {v : Int64} (hd : decode c.code pc = .ok (.lshl, 1)) (hp : pc' = pc + 1) (hv : x <<< (y &&& 0x3f).toInt64 = v) (k : G (T.setTop (mkF m pc' Ls (.long v :: rest)))) : G (T.setTop (mkF m pc Ls (.int y :: .long x :: rest))) := by
  subst hp
  subst hv
  refine hG _ _ (fun t ht => ?_) k
  exact XS.lshl X.here hx rfl hd rfl ht
theorem g_lshr (hG : Cl p e below G) (X : Stand p l e R s m args below meth c T locs cells slots) (hx : p.tables.exec = Jvm.exec) {x : Int64} {y : Int32} {v : Int64} (hd : decode c.code pc = .ok (.lshr, 1)) (hp : pc' = pc + 1) (hv : x >>> (y &&& 0x3f).toInt64 = v) (k : G (T.setTop (mkF m pc' Ls (.long v :: rest)))) : G (T.setTop (mkF m pc Ls (.int y :: .long x :: rest))) := by
  subst hp
  subst hv
  refine hG _ _ (fun t ht => ?_) k
  exact XS.lshr X.here hx rfl hd rfl ht
theorem g_lcmp (hG : Cl p e below G) (X : Stand p l e R s m args below meth c T locs cells slots) (hx : p.tables.exec = Jvm.exec) {x y : Int64} {v : Int32} (hd : decode c.code pc = .ok (.lcmp, 1)) (hp : pc' = pc + 1) (hv : lcmpW x y = v) (k : G (T.setTop (mkF m pc' Ls (.int v :: rest)))) : G (T.setTop (mkF m pc Ls (.long y :: .long x :: rest))) := by
  subst hp
  subst hv
  refine hG _ _ (fun t ht => ?_) k
  exact XS.lcmp X.here hx rfl hd rfl ht
theorem g_irem (hG : Cl p e below G) (X : Stand p l e R s m args below meth c T locs cells slots) (hx : p.tables.exec = Jvm.exec) {x y v : Int32} (hd : decode c.code pc = .ok (.irem, 1)) (hp : pc' = pc + 1) (hy : y ≠ 0) (hv : x % y = v) (k : G (T.setTop (mkF m pc' Ls (.int v :: rest)))) : G (T.setTop (mkF m pc Ls (.int y :: .int x :: rest))) := by
  subst hp
  subst hv
  refine hG _ _ (fun t ht => ?_) k
  exact iremM X hx rfl hd rfl hy ht
theorem g_lrem (hG : Cl p e below G) (X : Stand p l e R s m args below meth c T locs cells slots) (hx : p.tables.exec = Jvm.exec) {x y v : Int64} (hd : decode c.code pc = .ok (.lrem, 1)) (hp : pc' = pc + 1) (hy : y ≠ 0) (hv : x % y = v) (k : G (T.setTop (mkF m pc' Ls (.long v :: rest)))) : G (T.setTop (mkF m pc Ls (.long y :: .long x :: rest))) := by
  subst hp hv
  rw [← lrem_mod] at k
  refine hG _ _ (fun t ht => ?_) k
  exact XS.lrem X.here hx rfl hd rfl hy ht
theorem g_idiv (hG : Cl p e below G) (X : Stand p l e R s m args below meth c T locs cells slots) (hx : p.tables.exec = Jvm.exec) {x y v : Int32} (hd : decode c.code pc = .ok (.idiv, 1)) (hp : pc' = pc + 1) (hy : y ≠ 0) (hv : x / y = v) (k : G (T.setTop (mkF m pc' Ls (.int v :: rest)))) : G (T.setTop (mkF m pc Ls (.int y :: .int x :: rest))) := by
  subst hp
  subst hv
  refine hG _ _ (fun t ht => ?_) k
  exact XS.idiv X.here hx rfl hd rfl hy ht
theorem g_dup (hG : Cl p e below G) (X : Stand p l e R s m args below meth c T locs cells slots) (hx : p.tables.exec = Jvm.exec) {x : Value} (hd : decode c.code pc = .ok (.dup, 1)) (hp : pc' = pc + 1) (hc : x.category = 1) (k : G (T.setTop (mkF m pc' Ls (x :: x :: rest)))) : G (T.setTop (mkF m pc Ls (x :: rest))) := by
  subst hp
  refine hG _ _ (fun t ht => ?_) k
  exact XS.dup X.here hx rfl hd rfl hc ht
theorem g_pop (hG : Cl p e below G) (X : Stand p l e R s m args below meth c T locs cells slots) (hx : p.tables.exec = Jvm.exec) {x : Value} (hd : decode c.code pc = .ok (.pop, 1)) (hp : pc' = pc + 1) (hc : x.category = 1) (k : G (T.setTop (mkF m pc' Ls (rest)))) : G (T.setTop (mkF m pc Ls (x :: rest))) := by
  subst hp
  refine hG _ _ (fun t ht => ?_) k
  exact XS.pop X.here hx rfl hd rfl hc ht
theorem g_dupX1 (hG : Cl p e below G) (X : Stand p l e R s m args below meth c T locs cells slots) (hx : p.tables.exec = Jvm.exec) {x y : Value} (hd : decode c.code pc = .ok (.dup_x1, 1)) (hp : pc' = pc + 1) (hc : x.category = 1) (hc' : y.category = 1) (k : G (T.setTop (mkF m pc' Ls (x :: y :: x :: rest)))) : G (T.setTop (mkF m pc Ls (x :: y :: rest))) := by
  subst hp
  refine hG _ _ (fun t ht => ?_) k
  exact XS.dupX1 X.here hx rfl hd rfl hc hc' ht
theorem g_dup2 (hG : Cl p e below G) (X : Stand p l e R s m args below meth c T locs cells slots) (hx : p.tables.exec = Jvm.exec) {x y : Value} (hd : decode c.code pc = .ok (.dup2, 1)) (hp : pc' = pc + 1) (hc : x.category = 1) (hc' : y.category = 1) (k : G (T.setTop (mkF m pc' Ls (x :: y :: x :: y :: rest)))) : G (T.setTop (mkF m pc Ls (x :: y :: rest))) := by
  subst hp
  refine hG _ _ (fun t ht => ?_) k
  exact Jvm.Free.XT.dup2 X.here hx rfl hd rfl hc hc' ht
theorem g_iinc (hG : Cl p e below G) (X : Stand p l e R s m args below meth c T locs cells slots) (hx : p.tables.exec = Jvm.exec) {i : Nat} {cst : Int} {x v : Int32} (hd : decode c.code pc = .ok (.iinc i cst, 3)) (hp : pc' = pc + 3) (hl : Ls[i]? = some (.val (.int x))) (hv : x + Int32.ofInt cst = v) (hl' : storeLocals Ls i (.int v) = some Ls') (k : G (T.setTop (mkF m pc' Ls' (rest)))) : G (T.setTop (mkF m pc Ls (rest))) := by
  subst hp
  subst hv
  refine hG _ _ (fun t ht => ?_) k
  exact XS.iinc X.here hx rfl hd hl hl' ht
theorem g_i2d (hG : Cl p e below G) (X : Stand p l e R s m args below meth c T locs cells slots) (hx : p.tables.exec = Jvm.exec) {x : Int32} {v : UInt64} (hd : decode c.code pc = .ok (.i2d, 1)) (hp : pc' = pc + 1) (hv : FP.i2d x = v) (k : G (T.setTop (mkF m pc' Ls (.double v :: rest)))) : G (T.setTop (mkF m pc Ls (.int x :: rest))) := by
  subst hp
  subst hv
  refine hG _ _ (fun t ht => ?_) k
  exact XS.i2dS X.here hx rfl hd rfl rfl ht
theorem g_l2d (hG : Cl p e below G) (X : Stand p l e R s m args below meth c T locs cells slots) (hx : p.tables.exec = Jvm.exec) {x : Int64} {v : UInt64} (hd : decode c.code pc = .ok (.l2d, 1)) (hp : pc' = pc + 1) (hv : FP.l2d x = v) (k : G (T.setTop (mkF m pc' Ls (.double v :: rest)))) : G (T.setTop (mkF m pc Ls (.long x :: rest))) := by
  subst hp
  subst hv
  refine hG _ _ (fun t ht => ?_) k
  exact XS.l2dS X.here hx rfl hd rfl rfl ht
theorem g_d2i (hG : Cl p e below G) (X : Stand p l e R s m args below meth c T locs cells slots) (hx : p.tables.exec = Jvm.exec) {x : UInt64} {v : Int32} (hd : decode c.code pc = .ok (.d2i, 1)) (hp : pc' = pc + 1) (hv : FP.d2i x = v) (k : G (T.setTop (mkF m pc' Ls (.int v :: rest)))) : G (T.setTop (mkF m pc Ls (.double x :: rest))) := by
  subst hp
  subst hv
  refine hG _ _ (fun t ht => ?_) k
  exact XS.d2iS X.here hx rfl hd rfl rfl ht
theorem g_d2l (hG : Cl p e below G) (X : Stand p l e R s m args below meth c T locs cells slots) (hx : p.tables.exec = Jvm.exec) {x : UInt64} {v : Int64} (hd : decode c.code pc = .ok (.d2l, 1)) (hp : pc' = pc + 1) (hv : FP.d2l x = v) (k : G (T.setTop (mkF m pc' Ls (.long v :: rest)))) : G (T.setTop (mkF m pc Ls (.double x :: rest))) := by
  subst hp
  subst hv
  refine hG _ _ (fun t ht => ?_) k
  exact XS.d2lS X.here hx rfl hd rfl rfl ht
theorem g_dneg (hG : Cl p e below G) (X : Stand p l e R s m args below meth c T locs cells slots) (hx : p.tables.exec = Jvm.exec) {x v : UInt64} (hd : decode c.code pc = .ok (.dneg, 1)) (hp : pc' = pc + 1) (hv : FP.dneg x = v) (k : G (T.setTop (mkF m pc' Ls (.double v :: rest)))) : G (T.setTop (mkF m pc Ls (.double x :: rest))) := by
  subst hp
  subst hv
  refine hG _ _ (fun t ht => ?_) k
  exact XS.dnegS X.here hx rfl hd rfl rfl ht
theorem g_dcmp (hG : Cl p e below G) (X : Stand p l e R s m args below meth c T locs cells slots) (hx : p.tables.exec = Jvm.exec) {x y : UInt64} {o : CmpOp} {v : Int32} (hd : decode c.code pc = .ok (.dcmp o, 1)) (hp : pc' = pc + 1) (hv : cmpValue (FP.dcmp x y) o = v) (k : G (T.setTop (mkF m pc' Ls (.int v :: rest)))) : G (T.setTop (mkF m pc Ls (.double y :: .double x :: rest))) := by
  subst hp
  subst hv
  refine hG _ _ (fun t ht => ?_) k
  exact XS.dcmpS X.here hx rfl hd rfl rfl ht
theorem g_dadd (hG : Cl p e below G) (X : Stand p l e R s m args below meth c T locs cells slots) (hx : p.tables.exec = Jvm.exec) {x y v : UInt64} (hd : decode c.code pc = .ok (.dadd, 1)) (hp : pc' = pc + 1) (hn : Jvm.Free.Fl.NoNaN64 (FP.dadd x y)) (hv : FP.dadd x y = v) (k : G (T.setTop (mkF m pc' Ls (.double v :: rest)))) : G (T.setTop (mkF m pc Ls (.double y :: .double x :: rest))) := by
  subst hp
  subst hv
  refine hG _ _ (fun t ht => ?_) k
  exact XS.daddS X.here hx rfl hd rfl hn rfl ht
theorem g_dsub (hG : Cl p e below G) (X : Stand p l e R s m args below meth c T locs cells slots) (hx : p.tables.exec = Jvm.exec) {x y v : UInt64} (hd : decode c.code pc = .ok (.dsub, 1)) (hp : pc' = pc + 1) (hn : Jvm.Free.Fl.NoNaN64 (FP.dsub x y)) (hv : FP.dsub x y = v) (k : G (T.setTop (mkF m pc' Ls (.double v :: rest)))) : G (T.setTop (mkF m pc Ls (.double y :: .double x :: rest))) := by
  subst hp
  subst hv
  refine hG _ _ (fun t ht => ?_) k
  exact XS.dsubS X.here hx rfl hd rfl hn rfl ht
theorem g_dmul (hG : Cl p e below G) (X : Stand p l e R s m args below meth c T locs cells slots) (hx : p.tables.exec = Jvm.exec) {x y v : UInt64} (hd : decode c.code pc = .ok (.dmul, 1)) (hp : pc' = pc + 1) (hn : Jvm.Free.Fl.NoNaN64 (FP.dmul x y)) (hv : FP.dmul x y = v) (k : G (T.setTop (mkF m pc' Ls (.double v :: rest)))) : G (T.setTop (mkF m pc Ls (.double y :: .double x :: rest))) := by
  subst hp
  subst hv
  refine hG _ _ (fun t ht => ?_) k
  exact XS.dmulS X.here hx rfl hd rfl hn rfl ht
theorem g_ddiv (hG : Cl p e below G) (X : Stand p l e R s m args below meth c T locs cells slots) (hx : p.tables.exec = Jvm.exec) {x y v : UInt64} (hd : decode c.code pc = .ok (.ddiv, 1)) (hp : pc' = pc + 1) (hn : Jvm.Free.Fl.NoNaN64 (FP.ddiv x y)) (hv : FP.ddiv x y = v) (k : G (T.setTop (mkF m pc' Ls (.double v :: rest)))) : G (T.setTop (mkF m pc Ls (.double y :: .double x :: rest))) := by
  subst hp
  subst hv
  refine hG _ _ (fun t ht => ?_) k
  exact XS.ddivS X.here hx rfl hd rfl hn rfl ht
theorem g_goto (hG : Cl p e below G) (X : Stand p l e R s m args below meth c T locs cells slots) (hx : p.tables.exec = Jvm.exec) {o : Int} (hd : decode c.code pc = .ok (.goto o, 3)) (ho : 0 ≤ (pc : Int) + o) (hp : ((pc : Int) + o).toNat = pc') (k : G (T.setTop (mkF m pc' Ls rest))) : G (T.setTop (mkF m pc Ls rest)) := by
  refine hG _ _ (fun t ht => ?_) k
  exact XS.goto X.here hx rfl (pc0 := pc) rfl hd ho hp ht
theorem g_ifYes (hG : Cl p e below G) (X : Stand p l e R s m args below meth c T locs cells slots) (hx : p.tables.exec = Jvm.exec) {cd : ClassFile.Cond} {x : Int32} {o : Int} (hd : decode c.code pc = .ok (.ifCond cd o, 3)) (hc : ifCond.holds cd x = true) (ho : 0 ≤ (pc : Int) + o) (hp : ((pc : Int) + o).toNat = pc') (k : G (T.setTop (mkF m pc' Ls rest))) : G (T.setTop (mkF m pc Ls (.int x :: rest))) := by
  refine hG _ _ (fun t ht => ?_) k
  exact XS.ifYes X.here hx rfl (pc0 := pc) rfl hd rfl hc ho hp ht
theorem g_ifNo (hG : Cl p e below G) (X : Stand p l e R s m args below meth c T locs cells slots) (hx : p.tables.exec = Jvm.exec) {cd : ClassFile.Cond} {x : Int32} {o : Int} (hd : decode c.code pc = .ok (.ifCond cd o, 3)) (hc : ifCond.holds cd x = false) (hp : pc' = pc + 3) (k : G (T.setTop (mkF m pc' Ls rest))) : G (T.setTop (mkF m pc Ls (.int x :: rest))) := by
  subst hp
  refine hG _ _ (fun t ht => ?_) k
  exact XS.ifNo X.here hx rfl hd rfl hc ht
theorem g_icmpYes (hG : Cl p e below G) (X : Stand p l e R s m args below meth c T locs cells slots) (hx : p.tables.exec = Jvm.exec) {cd : ClassFile.Cond} {x y : Int32} {o : Int} (hd : decode c.code pc = .ok (.if_icmp cd o, 3)) (hc : if_icmp.holds cd x y = true) (ho : 0 ≤ (pc : Int) + o) (hp : ((pc : Int) + o).toNat = pc') (k : G (T.setTop (mkF m pc' Ls rest))) : G (T.setTop (mkF m pc Ls (.int y :: .int x :: rest))) := by
  refine hG _ _ (fun t ht => ?_) k
  exact XS.icmpYes X.here hx rfl (pc0 := pc) rfl hd rfl hc ho hp ht
theorem g_icmpNo (hG : Cl p e below G) (X : Stand p l e R s m args below meth c T locs cells slots) (hx : p.tables.exec = Jvm.exec) {cd : ClassFile.Cond} {x y : Int32} {o : Int} (hd : decode c.code pc = .ok (.if_icmp cd o, 3)) (hc : if_icmp.holds cd x y = false) (hp : pc' = pc + 3) (k : G (T.setTop (mkF m pc' Ls rest))) : G (T.setTop (mkF m pc Ls (.int y :: .int x :: rest))) := by
  subst hp
  refine hG _ _ (fun t ht => ?_) k
  exact XS.icmpNo X.here hx rfl hd rfl hc ht
theorem g_ifnullYes (hG : Cl p e below G) (X : Stand p l e R s m args below meth c T locs cells slots) (hx : p.tables.exec = Jvm.exec) {o : Int} (hd : decode c.code pc = .ok (.ifnull o, 3)) (ho : 0 ≤ (pc : Int) + o) (hp : ((pc : Int) + o).toNat = pc') (k : G (T.setTop (mkF m pc' Ls rest))) : G (T.setTop (mkF m pc Ls (.null :: rest))) := by
  refine hG _ _ (fun t ht => ?_) k
  exact XS.ifnullYes X.here hx rfl (pc0 := pc) rfl hd rfl ho hp ht
theorem g_ifnullNo (hG : Cl p e below G) (X : Stand p l e R s m args below meth c T locs cells slots) (hx : p.tables.exec = Jvm.exec) {o : Int} {b : Addr} (hd : decode c.code pc = .ok (.ifnull o, 3)) (hp : pc' = pc + 3) (k : G (T.setTop (mkF m pc' Ls rest))) : G (T.setTop (mkF m pc Ls (.ref b :: rest))) := by
  subst hp
  refine hG _ _ (fun t ht => ?_) k
  exact XS.ifnullNo X.here hx rfl hd rfl ht
theorem g_ifnonnullYes (hG : Cl p e below G) (X : Stand p l e R s m args below meth c T locs cells slots) (hx : p.tables.exec = Jvm.exec) {o : Int} {b : Addr} (hd : decode c.code pc = .ok (.ifnonnull o, 3)) (ho : 0 ≤ (pc : Int) + o) (hp : ((pc : Int) + o).toNat = pc') (k : G (T.setTop (mkF m pc' Ls rest))) : G (T.setTop (mkF m pc Ls (.ref b :: rest))) := by
  refine hG _ _ (fun t ht => ?_) k
  exact XS.ifnonnullYes X.here hx rfl (pc0 := pc) rfl hd rfl ho hp ht
theorem g_ifnonnullNo (hG : Cl p e below G) (X : Stand p l e R s m args below meth c T locs cells slots) (hx : p.tables.exec = Jvm.exec) {o : Int} (hd : decode c.code pc = .ok (.ifnonnull o, 3)) (hp : pc' = pc + 3) (k : G (T.setTop (mkF m pc' Ls rest))) : G (T.setTop (mkF m pc Ls (.null :: rest))) := by
  subst hp
  refine hG _ _ (fun t ht => ?_) k
  exact XS.ifnonnullNo X.here hx rfl hd rfl ht
theorem g_acmp (hG : Cl p e below G) (X : Stand p l e R s m args below meth c T locs cells slots) (hx : p.tables.exec = Jvm.exec) {cd : ACond} {x y : Value} (h1 : x.isRef = true) (h2 : y.isRef = true) {o : Int} {same : Bool} (hd : decode c.code pc = .ok (.if_acmp cd o, 3)) (hq : decide (x = y) = same) (ho : 0 ≤ (pc : Int) + o) (hp : pc' = if acV cd same = true then ((pc : Int) + o).toNat else pc + 3) (k : G (T.setTop (mkF m pc' Ls rest))) : G (T.setTop (mkF m pc Ls (y :: x :: rest))) := by
  refine hG _ _ (fun t ht => ?_) k
  exact Jvm.RoadKit.acmp (g := mkF m pc Ls (y :: x :: rest)) X hx rfl h1 h2 (pc0 := pc) rfl hd rfl hq ho hp ht
/-! constants -/
theorem g_ldcInt (hG : Cl p e below G) (X : Stand p l e R s m args below meth c T locs cells slots) (hx : p.tables.exec = Jvm.exec) (hZ : Z.Warmed39 s.vm) {own : String} {index : Nat} {v : Int32} (hown : s.vm.findClass own = some m.cls) (w : (Jvm.Cond.constant own index v).before a0 Z = true) (hd : decode c.code pc = .ok (.ldc index, 2)) (hp : pc' = pc + 2) (k : G (T.setTop (mkF m pc' Ls (.int v :: rest)))) : G (T.setTop (mkF m pc Ls rest)) := by
  subst hp
  refine hG _ _ (fun t ht => ?_) k
  exact X.ldcInt hx hown (mvT hZ w) (g := mkF m pc Ls rest) rfl hd t ht
theorem g_ldcLong (hG : Cl p e below G) (X : Stand p l e R s m args below meth c T locs cells slots) (hx : p.tables.exec = Jvm.exec) (hZ : Z.Warmed39 s.vm) {own : String} {index : Nat} {v : Int64} (hown : s.vm.findClass own = some m.cls) (w : (Jvm.Cond.constantLong own index v).before a0 Z = true) (hd : decode c.code pc = .ok (.ldc2_w index, 3)) (hp : pc' = pc + 3) (k : G (T.setTop (mkF m pc' Ls (.long v :: rest)))) : G (T.setTop (mkF m pc Ls rest)) := by
  subst hp
  refine hG _ _ (fun t ht => ?_) k
  exact X.ldc2Long hx hown (mvT hZ w) (g := mkF m pc Ls rest) rfl hd t ht
theorem g_ldcDouble (hG : Cl p e below G) (X : Stand p l e R s m args below meth c T locs cells slots) (hx : p.tables.exec = Jvm.exec) (hZ : Z.Warmed39 s.vm) {own : String} {index : Nat} {v : UInt64} (hown : s.vm.findClass own = some m.cls) (w : (Jvm.Cond.constantDouble own index v).before a0 Z = true) (hd : decode c.code pc = .ok (.ldc2_w index, 3)) (hp : pc' = pc + 3) (k : G (T.setTop (mkF m pc' Ls (.double v :: rest)))) : G (T.setTop (mkF m pc Ls rest)) := by
  subst hp
  refine hG _ _ (fun t ht => ?_) k
  exact X.ldc2DoubleC hx hown (mvT hZ w) (g := mkF m pc Ls rest) rfl hd t ht
/-! fields -/
theorem g_getF (hG : Cl p e below G) (X : Stand p l e R s m args below meth c T locs cells slots) (hx : p.tables.exec = Jvm.exec) (hZ : Z.Warmed39 s.vm) {own R0 O n d : String} {index : Nat} (hown : s.vm.findClass own = some m.cls) (w : (Jvm.Cond.fieldLink own index R0 n d).before a0 Z = true) (via : Via Z R0 O n d) (eT : T.heap = h) {a : Addr} {v : Value} (F : Fld Z h a O n d v) (hd : decode c.code pc = .ok (.getfield index, 3)) (hp : pc' = pc + 3)
    (k : ∀ T', Stand p l e R s m args below meth c T' locs cells slots → T'.heap = h → G (T'.setTop (mkF m pc' Ls (v :: rest)))) : G (T.setTop (mkF m pc Ls (.ref a :: rest))) := by
  subst hp
  obtain ⟨T', X', e', st⟩ := getF X hx hZ hown (host := "") (Or.inl w) via eT F (g := mkF m pc Ls (.ref a :: rest)) rfl rfl hd
  exact hG _ _ st (k T' X' e')
theorem g_putF (hG : Cl p e below G) (X : Stand p l e R s m args below meth c T locs cells slots) (hx : p.tables.exec = Jvm.exec) (hZ : Z.Warmed39 s.vm) {own R0 O n d C : String} {index kk : Nat} {ty : FieldType} (hown : s.vm.findClass own = some m.cls) (w : (Jvm.Cond.fieldLink own index R0 n d).before a0 Z = true) (via : Via Z R0 O n d) (eT : T.heap = h) {a : Addr} {v v' old : Value} (F : Fld Z h a O n d old) (E : Exa Z h a C)
    (L : (Jvm.Cond.lays C O n d).before a0 Z = true ∨ ((Jvm.Cond.laysFinal C O n d).before a0 Z = true ∧ own = O ∧ meth.name = "<init>")) (wi : (Jvm.Cond.instantiable C kk).before a0 Z = true) (hty : parseFieldDescriptor d = some ty) (hn : narrow ty v = v') (hf : fits ty v' = true) (hd : decode c.code pc = .ok (.putfield index, 3)) (hp : pc' = pc + 3)
    (k : ∀ T' h', Stand p l e R s m args below meth c T' (locs ++ [⟨a, Jvm.RoadKit.slotOf Z O n d⟩]) cells slots → T'.heap = h' → Wr h h' a (Jvm.RoadKit.slotOf Z O n d) v' → G (T'.setTop (mkF m pc' Ls rest))) : G (T.setTop (mkF m pc Ls (v :: .ref a :: rest))) := by
  subst hp
  obtain ⟨T', h', X', e', W, st⟩ := putFN X hx hZ hown w via eT F E L wi hty hn hf (g := mkF m pc Ls (v :: .ref a :: rest)) rfl rfl hd
  exact hG _ _ st (k T' h' X' e' W)
theorem g_newO (hG : Cl p e below G) (X : Stand p l e R s m args below meth c T locs cells slots) (hx : p.tables.exec = Jvm.exec) (hZ : Z.Warmed39 s.vm) {own C : String} {index n : Nat} (hown : s.vm.findClass own = some m.cls) (w : (Jvm.Cond.classLink own index C).before a0 Z = true) (wi : (Jvm.Cond.instantiable C n).before a0 Z = true) (wz : (Jvm.Cond.initialized C).before a0 Z = true) (eT : T.heap = h) (hd : decode c.code pc = .ok (.new index, 3)) (hc : cells + 1 ≤ R.cells) (hl : slots + n ≤ R.slots) (hp : pc' = pc + 3)
    (k : ∀ T' h' b, b = h.size → Stand p l e R s m args below meth c T' locs (cells + 1) (slots + n) → T'.heap = h' → Ext h h' → Exa Z h' b C → (∀ {O nm d : String} {ty : FieldType}, Laid Z a0 C O nm d → parseFieldDescriptor d = some ty → Fld Z h' b O nm d (defaultValue ty)) → G (T'.setTop (mkF m pc' Ls (.ref b :: rest)))) : G (T.setTop (mkF m pc Ls rest)) := by
  subst hp
  obtain ⟨T', h', X', e', E, A, D, -, st⟩ := newO X hx hZ hown w wi wz eT (g := mkF m pc Ls rest) rfl hd hc hl
  exact hG _ _ st (k T' h' _ rfl X' e' E A D)
theorem g_initO (hG : Cl p e below G) (X : Stand p l e R s m args below meth c T locs cells slots) (hx : p.tables.exec = Jvm.exec) (hZ : Z.Warmed39 s.vm) {own : String} {index : Nat} (hown : s.vm.findClass own = some m.cls) (w1 : (Jvm.Cond.methodLink own index Lib.objectInit).before a0 Z = true) (w2 : (Jvm.Cond.instanceMethod Lib.objectInit).before a0 Z = true) (w3 : (Jvm.Cond.code Lib.objectInit ⟨#[0xb1]⟩ 1 none).before a0 Z = true) (eT : T.heap = h) {a : Addr}
    (hsz : Ls.size = c.maxLocals) (hd : decode c.code pc = .ok (.invokespecial index, 3)) (hfr : 1 ≤ R.frames) (hlo : (rest.map fun v => v.category).sum + 12 ≤ R.locals) (hp : pc' = pc + 3)
    (k : ∀ T', Stand p l e R s m args below meth c T' locs cells slots → T'.heap = h → G (T'.setTop (mkF m pc' Ls rest))) : G (T.setTop (mkF m pc Ls (.ref a :: rest))) := by
  subst hp
  obtain ⟨T', X', e', st⟩ := initO X hx hZ hown w1 w2 w3 eT (g := mkF m pc Ls (.ref a :: rest)) rfl hsz rfl hd hfr (W := (rest.map fun v => v.category).sum) (by show 2 * 0 + _ ≤ _; omega) hlo
  exact hG _ _ st (k T' X' e')
/-! arrays -/
theorem g_newP (hG : Cl p e below G) (X : Stand p l e R s m args below meth c T locs cells slots) (hx : p.tables.exec = Jvm.exec) (hZ : Z.Warmed39 s.vm) {aty : ArrayType} (w : (Jvm.Cond.arrayClass (newarray.typeOf aty)).before a0 Z = true) (eT : T.heap = h) {n : Int32} (hd : decode c.code pc = .ok (.newarray aty, 2)) (hn : ¬ n < 0) (cap : Nat) (hcap : n.toNatClampNeg ≤ cap) (hb : cap * 8 ≤ 536870912) (hc : cells + 1 ≤ R.cells) (hl : slots + cap ≤ R.slots) (hp : pc' = pc + 2)
    (k : ∀ T' h' b kA, b = h.size → Stand p l e R s m args below meth c T' locs (cells + 1) (slots + cap) → T'.heap = h' → Ext h h' → Arv Z h' b kA (newarray.typeOf aty) n [] (defaultValue (newarray.typeOf aty)) → G (T'.setTop (mkF m pc' Ls (.ref b :: rest)))) : G (T.setTop (mkF m pc Ls (.int n :: rest))) := by
  subst hp
  obtain ⟨T', h', kA, X', e', E, A, st⟩ := newP X hx hZ w eT (g := mkF m pc Ls (.int n :: rest)) rfl hd rfl hn hcap hb hc hl
  exact hG _ _ st (k T' h' _ kA rfl X' e' E (Arv.new A hn))

/-! arrays, with all that they hold -/
def AV (Z : State) (h : Heap) (a : Addr) (ty : FieldType) (n : Int32) (vs : List Value) : Prop := ∃ k, Arv Z h a k ty n vs (defaultValue ty) ∧ vs.length = n.toNatClampNeg
theorem AV.lt {a : Addr} {ty : FieldType} {n : Int32} {vs : List Value} (A : AV Z h a ty n vs) : a < h.size := by obtain ⟨k, A, -⟩ := A; exact A.lt
theorem AV.ext {h' : Heap} {a : Addr} {ty : FieldType} {n : Int32} {vs : List Value} (A : AV Z h a ty n vs) (E : Ext h h') : AV Z h' a ty n vs := by obtain ⟨k, A, q⟩ := A; exact ⟨k, A.ext E, q⟩
theorem AV.other {h' : Heap} {a b : Addr} {sl : Nat} {v : Value} {ty : FieldType} {n : Int32} {vs : List Value} (A : AV Z h a ty n vs) (W : Wr h h' b sl v) (q : a ≠ b) : AV Z h' a ty n vs := by obtain ⟨k, A, r⟩ := A; exact ⟨k, A.other W q, r⟩
theorem AV.keep {h' : Heap} {a : Addr} {ws : List Addr} {ty : FieldType} {n : Int32} {vs : List Value} (A : AV Z h a ty n vs) (K : Keep h h' ws) (q : a ∉ ws) : AV Z h' a ty n vs := by obtain ⟨k, A, r⟩ := A; exact ⟨k, A.keep K q, r⟩
theorem AV.new {a : Addr} {k : ClassId} {ty : FieldType} {n : Int32} (A : Arv Z h a k ty n [] (defaultValue ty)) : AV Z h a ty n (List.replicate n.toNatClampNeg (defaultValue ty)) := ⟨k, A.pad (fun i => by have q := pad_rep [] (defaultValue ty) n.toNatClampNeg i; simpa using q), by simp⟩
theorem AV.at {a : Addr} {ty : FieldType} {n : Int32} {vs : List Value} (A : AV Z h a ty n vs) {j : Int32} {v : Value} (hj : ¬ j < 0) (hv : vs[j.toNatClampNeg]? = some v) :
    ∃ c, Arr Z h a c ty ∧ ¬ (j < 0 ∨ c.slots.size ≤ j.toNatClampNeg) ∧ c.slots[j.toNatClampNeg]? = some v := by
  obtain ⟨k, ⟨c, A, q1, S, q3, H, Gf⟩, q⟩ := A
  have hl : j.toNatClampNeg < vs.length := (List.getElem?_eq_some_iff.mp hv).1
  have hin : ¬ (j < 0 ∨ c.slots.size ≤ j.toNatClampNeg) := fun z => z.elim hj (fun y => by omega)
  refine ⟨c, A, hin, Has.at H hin ?_⟩
  simp [List.getD, hv]
theorem AV.set {h' : Heap} {a : Addr} {ty : FieldType} {n : Int32} {vs : List Value} (A : AV Z h a ty n vs) {j : Int32} {v : Value} (W : Wr h h' a j.toNatClampNeg v) (hv : fits ty v = true) (hl : j.toNatClampNeg < vs.length) : AV Z h' a ty n (vs.set j.toNatClampNeg v) := by
  obtain ⟨k, ⟨c, A, q1, S, q3, H, Gf⟩, q⟩ := A
  exact ⟨k, Arv.set A q1 S q3 H Gf hv W _ rfl hl, by simpa using q⟩
theorem AV.inb {a : Addr} {ty : FieldType} {n : Int32} {vs : List Value} (A : AV Z h a ty n vs) {j : Int32} (hj : ¬ j < 0) (hl : j.toNatClampNeg < vs.length) : ∃ c, Arr Z h a c ty ∧ ¬ (j < 0 ∨ c.slots.size ≤ j.toNatClampNeg) := by
  obtain ⟨k, ⟨c, A, q1, S, q3, H, Gf⟩, q⟩ := A
  exact ⟨c, A, fun z => z.elim hj (fun y => by omega)⟩
theorem g_iaload (hG : Cl p e below G) (X : Stand p l e R s m args below meth c T locs cells slots) (hx : p.tables.exec = Jvm.exec) (hZ : Z.Warmed39 s.vm) (eT : T.heap = h) {a : Addr} {n : Int32} {vs : List Value} (A : AV Z h a .int n vs) {j : Int32} {v : Value} (hj : ¬ j < 0) (hv : vs[j.toNatClampNeg]? = some v) (hd : decode c.code pc = .ok (.iaload, 1)) (hp : pc' = pc + 1) (k : G (T.setTop (mkF m pc' Ls (v :: rest)))) : G (T.setTop (mkF m pc Ls (.int j :: .ref a :: rest))) := by
  subst hp
  obtain ⟨cl, Ar, hin, hat⟩ := A.at hj hv
  refine hG _ _ (fun t ht => ?_) k
  exact X.iaload hx (by rw [eT]; exact Ar.1) (State.isArrayOf_alike hZ.alike Ar.2.1) Ar.2.2 hin hat (g := mkF m pc Ls (.int j :: .ref a :: rest)) rfl rfl hd t ht
theorem g_daload (hG : Cl p e below G) (X : Stand p l e R s m args below meth c T locs cells slots) (hx : p.tables.exec = Jvm.exec) (hZ : Z.Warmed39 s.vm) (eT : T.heap = h) {a : Addr} {n : Int32} {vs : List Value} (A : AV Z h a .double n vs) {j : Int32} {v : Value} (hj : ¬ j < 0) (hv : vs[j.toNatClampNeg]? = some v) (hd : decode c.code pc = .ok (.daload, 1)) (hp : pc' = pc + 1) (k : G (T.setTop (mkF m pc' Ls (v :: rest)))) : G (T.setTop (mkF m pc Ls (.int j :: .ref a :: rest))) := by
  subst hp
  obtain ⟨cl, Ar, hin, hat⟩ := A.at hj hv
  refine hG _ _ (fun t ht => ?_) k
  exact X.daload hx (by rw [eT]; exact Ar.1) (State.isArrayOf_alike hZ.alike Ar.2.1) Ar.2.2 hin hat (g := mkF m pc Ls (.int j :: .ref a :: rest)) rfl rfl hd t ht
theorem g_laload (hG : Cl p e below G) (X : Stand p l e R s m args below meth c T locs cells slots) (hx : p.tables.exec = Jvm.exec) (hZ : Z.Warmed39 s.vm) (eT : T.heap = h) {a : Addr} {n : Int32} {vs : List Value} (A : AV Z h a .long n vs) {j : Int32} {v : Value} (hj : ¬ j < 0) (hv : vs[j.toNatClampNeg]? = some v) (hd : decode c.code pc = .ok (.laload, 1)) (hp : pc' = pc + 1) (k : G (T.setTop (mkF m pc' Ls (v :: rest)))) : G (T.setTop (mkF m pc Ls (.int j :: .ref a :: rest))) := by
  subst hp
  obtain ⟨cl, Ar, hin, hat⟩ := A.at hj hv
  refine hG _ _ (fun t ht => ?_) k
  exact X.laload hx (by rw [eT]; exact Ar.1) (State.isArrayOf_alike hZ.alike Ar.2.1) Ar.2.2 hin hat (g := mkF m pc Ls (.int j :: .ref a :: rest)) rfl rfl hd t ht
theorem g_zaload (hG : Cl p e below G) (X : Stand p l e R s m args below meth c T locs cells slots) (hx : p.tables.exec = Jvm.exec) (hZ : Z.Warmed39 s.vm) (eT : T.heap = h) {a : Addr} {n : Int32} {vs : List Value} (A : AV Z h a .boolean n vs) {j : Int32} {v : Value} (hj : ¬ j < 0) (hv : vs[j.toNatClampNeg]? = some v) (hd : decode c.code pc = .ok (.baload, 1)) (hp : pc' = pc + 1) (k : G (T.setTop (mkF m pc' Ls (v :: rest)))) : G (T.setTop (mkF m pc Ls (.int j :: .ref a :: rest))) := by
  subst hp
  obtain ⟨cl, Ar, hin, hat⟩ := A.at hj hv
  refine hG _ _ (fun t ht => ?_) k
  exact X.baloadBooleans hx (by rw [eT]; exact Ar.1) (State.isArrayOf_alike hZ.alike Ar.2.1) Ar.2.2 hin hat (g := mkF m pc Ls (.int j :: .ref a :: rest)) rfl rfl hd t ht
theorem g_iastore (hG : Cl p e below G) (X : Stand p l e R s m args below meth c T locs cells slots) (hx : p.tables.exec = Jvm.exec) (hZ : Z.Warmed39 s.vm) (eT : T.heap = h) {a : Addr} {n : Int32} {vs : List Value} (A : AV Z h a .int n vs) {j : Int32} {x : Int32} (hj : ¬ j < 0) (hl : j.toNatClampNeg < vs.length) (hd : decode c.code pc = .ok (.iastore, 1)) (hp : pc' = pc + 1)
    (k : ∀ T' h', Stand p l e R s m args below meth c T' (locs ++ [⟨a, j.toNatClampNeg⟩]) cells slots → T'.heap = h' → Wr h h' a j.toNatClampNeg (.int x) → AV Z h' a .int n (vs.set j.toNatClampNeg (.int x)) → G (T'.setTop (mkF m pc' Ls rest))) : G (T.setTop (mkF m pc Ls (.int x :: .int j :: .ref a :: rest))) := by
  subst hp
  obtain ⟨cl, Ar, hin⟩ := A.inb hj hl
  obtain ⟨T', h', X', e', W, st⟩ := stI X hx hZ eT Ar hin (g := mkF m pc Ls (.int x :: .int j :: .ref a :: rest)) rfl rfl hd
  exact hG _ _ st (k T' h' X' e' W (A.set W rfl hl))
theorem g_dastore (hG : Cl p e below G) (X : Stand p l e R s m args below meth c T locs cells slots) (hx : p.tables.exec = Jvm.exec) (hZ : Z.Warmed39 s.vm) (eT : T.heap = h) {a : Addr} {n : Int32} {vs : List Value} (A : AV Z h a .double n vs) {j : Int32} {x : UInt64} (hj : ¬ j < 0) (hl : j.toNatClampNeg < vs.length) (hd : decode c.code pc = .ok (.dastore, 1)) (hp : pc' = pc + 1)
    (k : ∀ T' h', Stand p l e R s m args below meth c T' (locs ++ [⟨a, j.toNatClampNeg⟩]) cells slots → T'.heap = h' → Wr h h' a j.toNatClampNeg (.double x) → AV Z h' a .double n (vs.set j.toNatClampNeg (.double x)) → G (T'.setTop (mkF m pc' Ls rest))) : G (T.setTop (mkF m pc Ls (.double x :: .int j :: .ref a :: rest))) := by
  subst hp
  obtain ⟨cl, Ar, hin⟩ := A.inb hj hl
  obtain ⟨T', h', X', e', W, st⟩ := stD X hx hZ eT Ar hin (g := mkF m pc Ls (.double x :: .int j :: .ref a :: rest)) rfl rfl hd
  exact hG _ _ st (k T' h' X' e' W (A.set W rfl hl))
theorem g_lastore (hG : Cl p e below G) (X : Stand p l e R s m args below meth c T locs cells slots) (hx : p.tables.exec = Jvm.exec) (hZ : Z.Warmed39 s.vm) (eT : T.heap = h) {a : Addr} {n : Int32} {vs : List Value} (A : AV Z h a .long n vs) {j : Int32} {x : Int64} (hj : ¬ j < 0) (hl : j.toNatClampNeg < vs.length) (hd : decode c.code pc = .ok (.lastore, 1)) (hp : pc' = pc + 1)
    (k : ∀ T' h', Stand p l e R s m args below meth c T' (locs ++ [⟨a, j.toNatClampNeg⟩]) cells slots → T'.heap = h' → Wr h h' a j.toNatClampNeg (.long x) → AV Z h' a .long n (vs.set j.toNatClampNeg (.long x)) → G (T'.setTop (mkF m pc' Ls rest))) : G (T.setTop (mkF m pc Ls (.long x :: .int j :: .ref a :: rest))) := by
  subst hp
  obtain ⟨cl, Ar, hin⟩ := A.inb hj hl
  obtain ⟨T', h', X', e', W, st⟩ := stJ X hx hZ eT Ar hin (g := mkF m pc Ls (.long x :: .int j :: .ref a :: rest)) rfl rfl hd
  exact hG _ _ st (k T' h' X' e' W (A.set W rfl hl))
theorem g_zastore (hG : Cl p e below G) (X : Stand p l e R s m args below meth c T locs cells slots) (hx : p.tables.exec = Jvm.exec) (hZ : Z.Warmed39 s.vm) (eT : T.heap = h) {a : Addr} {n : Int32} {vs : List Value} (A : AV Z h a .boolean n vs) {j : Int32} {x : Int32} (hj : ¬ j < 0) (hl : j.toNatClampNeg < vs.length) (hd : decode c.code pc = .ok (.bastore, 1)) (hp : pc' = pc + 1)
    (k : ∀ T' h', Stand p l e R s m args below meth c T' (locs ++ [⟨a, j.toNatClampNeg⟩]) cells slots → T'.heap = h' → Wr h h' a j.toNatClampNeg (.int (nar .boolean x)) → AV Z h' a .boolean n (vs.set j.toNatClampNeg (.int (nar .boolean x))) → G (T'.setTop (mkF m pc' Ls rest))) : G (T.setTop (mkF m pc Ls (.int x :: .int j :: .ref a :: rest))) := by
  subst hp
  obtain ⟨cl, Ar, hin⟩ := A.inb hj hl
  obtain ⟨T', h', X', e', W, st⟩ := stZ X hx hZ eT Ar hin (g := mkF m pc Ls (.int x :: .int j :: .ref a :: rest)) rfl rfl hd
  exact hG _ _ st (k T' h' X' e' W (A.set W (fits_nar_bool _) hl))
theorem g_bbastore (hG : Cl p e below G) (X : Stand p l e R s m args below meth c T locs cells slots) (hx : p.tables.exec = Jvm.exec) (hZ : Z.Warmed39 s.vm) (eT : T.heap = h) {a : Addr} {n : Int32} {vs : List Value} (A : AV Z h a .byte n vs) {j : Int32} {x : Int32} (hj : ¬ j < 0) (hl : j.toNatClampNeg < vs.length) (hd : decode c.code pc = .ok (.bastore, 1)) (hp : pc' = pc + 1)
    (k : ∀ T' h', Stand p l e R s m args below meth c T' (locs ++ [⟨a, j.toNatClampNeg⟩]) cells slots → T'.heap = h' → Wr h h' a j.toNatClampNeg (.int x.toInt8.toInt32) → AV Z h' a .byte n (vs.set j.toNatClampNeg (.int x.toInt8.toInt32)) → G (T'.setTop (mkF m pc' Ls rest))) : G (T.setTop (mkF m pc Ls (.int x :: .int j :: .ref a :: rest))) := by
  subst hp
  obtain ⟨cl, Ar, hin⟩ := A.inb hj hl
  obtain ⟨T', h', X', e', W, st⟩ := stB X hx hZ eT Ar hin (g := mkF m pc Ls (.int x :: .int j :: .ref a :: rest)) rfl rfl hd
  exact hG _ _ st (k T' h' X' e' W (A.set W (fits_nar_byte _) hl))
theorem g_arraylength (hG : Cl p e below G) (X : Stand p l e R s m args below meth c T locs cells slots) (hx : p.tables.exec = Jvm.exec) (hZ : Z.Warmed39 s.vm) (eT : T.heap = h) {a : Addr} {ty : FieldType} {n : Int32} {vs : List Value} (A : AV Z h a ty n vs) (hd : decode c.code pc = .ok (.arraylength, 1)) (hp : pc' = pc + 1) (k : G (T.setTop (mkF m pc' Ls (.int n :: rest)))) : G (T.setTop (mkF m pc Ls (.ref a :: rest))) := by
  subst hp
  obtain ⟨kA, ⟨cl, Ar, q1, S, q3, H, Gf⟩, q⟩ := A
  rw [← len_of S q3] at k
  refine hG _ _ (fun t ht => ?_) k
  exact X.arraylength hx (by rw [eT]; exact Ar.1) (State.isArrayOf_alike hZ.alike Ar.2.1) (g := mkF m pc Ls (.ref a :: rest)) rfl rfl hd t ht
/-! calls by a contract -/
theorem g_callS (hG : Cl p e below G) (X : Stand p l e R s m args below meth c T locs cells slots) (hx : p.tables.exec = Jvm.exec) (hZ : Z.Warmed39 s.vm) {own : String} {index : Nat} {y : MethodName} {bytes : ByteArray} {maxL : Nat} {ret : Option FieldType} {rm : Room} {as : Array Value} {Qc : Option Value → Heap → List Loc → Prop} {argsL stack : List Value} {ps : List FieldType} {rt : Option FieldType} (W : Nat)
    (hown : s.vm.findClass own = some m.cls) (w1 : (Jvm.Cond.methodLink own index y).before a0 Z = true) (w2 : (Jvm.Cond.static y).before a0 Z = true) (w3 : (Jvm.Cond.initialized y.cls).before a0 Z = true) (w4 : (Jvm.Cond.code y bytes maxL ret).before a0 Z = true) (hy : y.cls ≠ "java/lang/invoke/MethodHandle" ∧ y.cls ≠ "java/lang/invoke/VarHandle")
    (hM : Con l y bytes maxL ret [] rm Z as h rm.cells rm.slots Qc) (hfr : rm.frames + 1 ≤ R.frames) (hlo : W + (maxL + 11) + rm.locals ≤ R.locals) (hsz : Ls.size = c.maxLocals) (hpd : parseMethodDescriptor y.desc = some ⟨ps, rt⟩) (hln : argsL.length = ps.length) (hst : stack = argsL.reverse ++ rest) (has : argsL.toArray = as) (hW : (rest.map fun v => v.category).sum ≤ W)
    (hd : decode c.code pc = .ok (.invokestatic index, 3)) (eT : T.heap = h) (hc : cells + rm.cells ≤ R.cells) (hs : slots + rm.slots ≤ R.slots) (hp : pc' = pc + 3)
    (k : ∀ T' v L', Stand p l e R s m args below meth c T' (locs ++ L') (cells + rm.cells) (slots + rm.slots) → Qc v T'.heap L' → G (T'.setTop (mkF m pc' Ls (v.toList ++ rest)))) : G (T.setTop (mkF m pc Ls stack)) := by
  subst hp hst has
  obtain ⟨v, _, ⟨T1, L1, k1, n1⟩, -, X1, ⟨Lc, hQ, l1, y1, z1⟩, st⟩ := Jvm.LawKit.callS X hx (y := y) hown (mvT hZ w1) (mvT hZ w2) (mvT hZ w3) (mvT hZ w4) hy (backOf (W := W) hM hZ w4 w3 hfr hlo) (g := mkF m pc Ls (argsL.reverse ++ rest)) rfl hsz (argsL := argsL) (rest := rest) (lenOf hpd hln) rfl (by show 2 * 0 + _ ≤ _; omega) hd (fun _ _ => ⟨rfl, eT, hc, hs⟩)
  dsimp only [Pt.U, Pt.locs, Pt.cells, Pt.slots] at X1 l1 y1 z1 st hQ
  subst l1 y1 z1
  exact hG _ _ st (k T1 v Lc X1 hQ)
theorem g_callI (hG : Cl p e below G) (X : Stand p l e R s m args below meth c T locs cells slots) (hx : p.tables.exec = Jvm.exec) (hZ : Z.Warmed39 s.vm) {own : String} {index : Nat} {y : MethodName} {bytes : ByteArray} {maxL : Nat} {rm : Room} {as : Array Value} {Qc : Option Value → Heap → List Loc → Prop} {a : Addr} {argsL stack : List Value} {ps : List FieldType} {rt : Option FieldType} (W : Nat)
    (hy1 : y.name = "<init>") (hown : s.vm.findClass own = some m.cls) (w1 : (Jvm.Cond.methodLink own index y).before a0 Z = true) (w2 : (Jvm.Cond.instanceMethod y).before a0 Z = true) (w3 : (Jvm.Cond.initialized y.cls).before a0 Z = true) (w4 : (Jvm.Cond.code y bytes maxL none).before a0 Z = true) (hy : y.cls ≠ "java/lang/invoke/MethodHandle" ∧ y.cls ≠ "java/lang/invoke/VarHandle")
    (hM : Con l y bytes maxL none [] rm Z as h rm.cells rm.slots Qc) (hfr : rm.frames + 1 ≤ R.frames) (hlo : W + (maxL + 11) + rm.locals ≤ R.locals) (hsz : Ls.size = c.maxLocals) (hpd : parseMethodDescriptor y.desc = some ⟨ps, rt⟩) (hln : argsL.length = ps.length) (hst : stack = argsL.reverse ++ .ref a :: rest) (has : (.ref a :: argsL).toArray = as) (hW : (rest.map fun v => v.category).sum ≤ W)
    (hd : decode c.code pc = .ok (.invokespecial index, 3)) (eT : T.heap = h) (hc : cells + rm.cells ≤ R.cells) (hs : slots + rm.slots ≤ R.slots) (hp : pc' = pc + 3)
    (k : ∀ T' v L', Stand p l e R s m args below meth c T' (locs ++ L') (cells + rm.cells) (slots + rm.slots) → Qc v T'.heap L' → G (T'.setTop (mkF m pc' Ls (v.toList ++ rest)))) : G (T.setTop (mkF m pc Ls stack)) := by
  subst hp hst has
  obtain ⟨v, _, ⟨T1, L1, k1, n1⟩, -, X1, ⟨Lc, hQ, l1, y1, z1⟩, st⟩ := X.specialBack hx (y := y) hy1 hown (mvT hZ w1) (mvT hZ w2) (mvT hZ w4) hy (backOf (W := W) hM hZ w4 w3 hfr hlo) (g := mkF m pc Ls (argsL.reverse ++ .ref a :: rest)) rfl hsz (Steps.refl _) (a := a) (argsL := argsL) (rest := rest) (lenOf hpd hln) rfl (by show 2 * 0 + _ ≤ _; omega) hd (fun _ _ => ⟨rfl, eT, hc, hs⟩)
  dsimp only [Pt.U, Pt.locs, Pt.cells, Pt.slots] at X1 l1 y1 z1 st hQ
  subst l1 y1 z1
  exact hG _ _ (fun t ht => st.trans ht) (k T1 v Lc X1 hQ)
theorem g_callV (hG : Cl p e below G) (X : Stand p l e R s m args below meth c T locs cells slots) (hx : p.tables.exec = Jvm.exec) (hZ : Z.Warmed39 s.vm) {own C : String} {index : Nat} {y : MethodName} {bytes : ByteArray} {maxL : Nat} {ret : Option FieldType} {rm : Room} {as : Array Value} {Qc : Option Value → Heap → List Loc → Prop} {a : Addr} {argsL stack : List Value} {ps : List FieldType} {rt : Option FieldType} (W : Nat)
    (hown : s.vm.findClass own = some m.cls) (w1 : (Jvm.Cond.methodLink own index y).before a0 Z = true) (w2 : (Jvm.Cond.declares y).before a0 Z = true) (ws : (Jvm.Cond.selects C y y).before a0 Z = true) (wi : (Jvm.Cond.instanceMethod y).before a0 Z = true) (w3 : (Jvm.Cond.initialized y.cls).before a0 Z = true) (w4 : (Jvm.Cond.code y bytes maxL ret).before a0 Z = true) (hy : y.cls ≠ "java/lang/invoke/MethodHandle" ∧ y.cls ≠ "java/lang/invoke/VarHandle")
    (hM : Con l y bytes maxL ret [] rm Z as h rm.cells rm.slots Qc) (hfr : rm.frames + 1 ≤ R.frames) (hlo : W + (maxL + 11) + rm.locals ≤ R.locals) (hsz : Ls.size = c.maxLocals) (hpd : parseMethodDescriptor y.desc = some ⟨ps, rt⟩) (hln : argsL.length = ps.length) (hst : stack = argsL.reverse ++ .ref a :: rest) (has : (.ref a :: argsL).toArray = as) (hW : (rest.map fun v => v.category).sum ≤ W)
    (hd : decode c.code pc = .ok (.invokevirtual index, 3)) (eT : T.heap = h) (E : Exa Z h a C) (hc : cells + rm.cells ≤ R.cells) (hs : slots + rm.slots ≤ R.slots) (hp : pc' = pc + 3)
    (k : ∀ T' v L', Stand p l e R s m args below meth c T' (locs ++ L') (cells + rm.cells) (slots + rm.slots) → Qc v T'.heap L' → G (T'.setTop (mkF m pc' Ls (v.toList ++ rest)))) : G (T.setTop (mkF m pc Ls stack)) := by
  subst hp hst has
  obtain ⟨cq, kq, qa, qb, qc⟩ := isOf hZ eT E
  obtain ⟨v, _, ⟨T1, L1, k1, n1⟩, -, X1, ⟨Lc, hQ, l1, y1, z1⟩, st⟩ := X.virtualBack hx (y := y) (z := y) hown (mvT hZ w1) (mvT hZ w2) (notFace_of_selects (args := #[]) (mvT hZ ws)) (mvT hZ ws) (mvT hZ wi) hy (backOf (W := W) hM hZ w4 w3 hfr hlo) qa qc (g := mkF m pc Ls (argsL.reverse ++ .ref a :: rest)) rfl hsz (Steps.refl _) (argsL := argsL) (rest := rest) (lenOf hpd hln) rfl (by show 2 * 0 + _ ≤ _; omega) hd (fun _ _ => ⟨rfl, eT, hc, hs⟩)
  dsimp only [Pt.U, Pt.locs, Pt.cells, Pt.slots] at X1 l1 y1 z1 st hQ
  subst l1 y1 z1
  exact hG _ _ (fun t ht => st.trans ht) (k T1 v Lc X1 hQ)
theorem g_callP (hG : Cl p e below G) (X : Stand p l e R s m args below meth c T locs cells slots) (hx : p.tables.exec = Jvm.exec) (hZ : Z.Warmed39 s.vm) {own C : String} {index : Nat} {y : MethodName} {bytes : ByteArray} {maxL : Nat} {ret : Option FieldType} {rm : Room} {as : Array Value} {Qc : Option Value → Heap → List Loc → Prop} {a : Addr} {argsL stack : List Value} {ps : List FieldType} {rt : Option FieldType} (W : Nat)
    (hown : s.vm.findClass own = some m.cls) (w1 : (Jvm.Cond.methodLink own index y).before a0 Z = true) (wi : (Jvm.Cond.instanceMethod y).before a0 Z = true) {kk : Nat} (wk : (Jvm.Cond.instantiable y.cls kk).before a0 Z = true) (wp : (Jvm.Cond.privateMethod y).before a0 Z = true) (w3 : (Jvm.Cond.initialized y.cls).before a0 Z = true) (w4 : (Jvm.Cond.code y bytes maxL ret).before a0 Z = true) (hy : y.cls ≠ "java/lang/invoke/MethodHandle" ∧ y.cls ≠ "java/lang/invoke/VarHandle")
    (hM : Con l y bytes maxL ret [] rm Z as h rm.cells rm.slots Qc) (hfr : rm.frames + 1 ≤ R.frames) (hlo : W + (maxL + 11) + rm.locals ≤ R.locals) (hsz : Ls.size = c.maxLocals) (hpd : parseMethodDescriptor y.desc = some ⟨ps, rt⟩) (hln : argsL.length = ps.length) (hst : stack = argsL.reverse ++ .ref a :: rest) (has : (.ref a :: argsL).toArray = as) (hW : (rest.map fun v => v.category).sum ≤ W)
    (hd : decode c.code pc = .ok (.invokevirtual index, 3)) (eT : T.heap = h) (E : Exa Z h a C) (hc : cells + rm.cells ≤ R.cells) (hs : slots + rm.slots ≤ R.slots) (hp : pc' = pc + 3)
    (k : ∀ T' v L', Stand p l e R s m args below meth c T' (locs ++ L') (cells + rm.cells) (slots + rm.slots) → Qc v T'.heap L' → G (T'.setTop (mkF m pc' Ls (v.toList ++ rest)))) : G (T.setTop (mkF m pc Ls stack)) := by
  subst hp hst has
  obtain ⟨cq, q1, q2⟩ := E.cell
  have hpv : s.PrivateAt y := Jvm.Cond.privateMethod_at (mvP hZ wp (args := #[]))
  obtain ⟨ck, kk', j1, j2, -, j4, -⟩ := Jvm.Cond.instantiable_spec (mvT (args := args) hZ wk)
  have ws : (Jvm.Cond.selects y.cls y y).before args s = true := selects_self_of_private j1 j2 (by simp at j4; exact j4.1) hpv (mvT hZ wi) hy
  obtain ⟨v, _, ⟨T1, L1, k1, n1⟩, -, X1, ⟨Lc, hQ, l1, y1, z1⟩, st⟩ := X.privateBack hx (y := y) hown (mvT hZ w1) (mvT hZ wi) ws hpv (mvT hZ w4) hy (backOf (W := W) hM hZ w4 w3 hfr hlo) (g := mkF m pc Ls (argsL.reverse ++ .ref a :: rest)) rfl hsz (Steps.refl _) (a := a) (by rw [eT]; exact q1) q2 (argsL := argsL) (rest := rest) (lenOf hpd hln) rfl (by show 2 * 0 + _ ≤ _; omega) hd (fun _ _ => ⟨rfl, eT, hc, hs⟩)
  dsimp only [Pt.U, Pt.locs, Pt.cells, Pt.slots] at X1 l1 y1 z1 st hQ
  subst l1 y1 z1
  exact hG _ _ (fun t ht => st.trans ht) (k T1 v Lc X1 hQ)
theorem g_natS (hG : Cl p e below G) (X : Stand p l e R s m args below meth c T locs cells slots) (hx : p.tables.exec = Jvm.exec) (hZ : Z.Warmed39 s.vm) {own : String} {index : Nat} {y : MethodName} {by0 : ByteArray} {ml : Nat} {rt : Option FieldType} {F : Array Value → Prop} {val : Value} {argsL stack : List Value} {ps : List FieldType} {rt' : Option FieldType} (W : Nat)
    (hown : s.vm.findClass own = some m.cls) (w1 : (Jvm.Cond.methodLink own index y).before a0 Z = true) (w2 : (Jvm.Cond.static y).before a0 Z = true) (w3 : (Jvm.Cond.initialized y.cls).before a0 Z = true) (w4 : (Jvm.Cond.code y by0 ml rt).before a0 Z = true) (hy : y.cls ≠ "java/lang/invoke/MethodHandle" ∧ y.cls ≠ "java/lang/invoke/VarHandle")
    (hK : (Jvm.Cond.code y by0 ml rt).before args s = true → Back l R p e below s args y 3 W (fun A a' => A.cells ≤ R.cells ∧ A.slots ≤ R.slots ∧ F a') (fun A _ v B => v = some val ∧ B = A)) (hsz : Ls.size = c.maxLocals) (hpd : parseMethodDescriptor y.desc = some ⟨ps, rt'⟩) (hln : argsL.length = ps.length) (hst : stack = argsL.reverse ++ rest) (hW : (rest.map fun v => v.category).sum ≤ W)
    (hd : decode c.code pc = .ok (.invokestatic index, 3)) (eT : T.heap = h) (hc : cells ≤ R.cells) (hs : slots ≤ R.slots) (hF : F argsL.toArray) (hp : pc' = pc + 3)
    (k : ∀ T', Stand p l e R s m args below meth c T' locs cells slots → T'.heap = h → G (T'.setTop (mkF m pc' Ls (val :: rest)))) : G (T.setTop (mkF m pc Ls stack)) := by
  subst hp hst
  obtain ⟨T', X', e', st⟩ := natS X hx hZ hown w1 w2 w3 w4 hy eT hK (g := mkF m pc Ls (argsL.reverse ++ rest)) rfl hsz (argsL := argsL) (rest := rest) (lenOf hpd hln) rfl (by show 2 * 0 + _ ≤ _; omega) hd hc hs hF rfl
  exact hG _ _ st (k T' X' e')
theorem g_getS (hG : Cl p e below G) (X : Stand p l e R s m args below meth c T locs cells slots) (hx : p.tables.exec = Jvm.exec) (hZ : Z.Warmed39 s.vm) {own R0 O n d : String} {index : Nat} (hown : s.vm.findClass own = some m.cls) (w : (Jvm.Cond.fieldLink own index R0 n d).before a0 Z = true) (via : Via Z R0 O n d) (eT : T.heap = h) {v : Value} (F : Sta Z h O n d v) (hd : decode c.code pc = .ok (.getstatic index, 3)) (hp : pc' = pc + 3)
    (k : ∀ T', Stand p l e R s m args below meth c T' locs cells slots → T'.heap = h → G (T'.setTop (mkF m pc' Ls (v :: rest)))) : G (T.setTop (mkF m pc Ls rest)) := by
  subst hp
  obtain ⟨T', X', e', st⟩ := getS2 (host := "") X hx hZ hown (Or.inl w) via eT F (g := mkF m pc Ls rest) rfl hd
  exact hG _ _ st (k T' X' e')
theorem g_castY (hG : Cl p e below G) (X : Stand p l e R s m args below meth c T locs cells slots) (hx : p.tables.exec = Jvm.exec) (hZ : Z.Warmed39 s.vm) {own K0 : String} {index : Nat} (hown : s.vm.findClass own = some m.cls) (w : (Jvm.Cond.classLink own index K0).before a0 Z = true) (eT : T.heap = h) {a : Addr} (F : Ins Z h a K0 true) (hd : decode c.code pc = .ok (.checkcast index, 3)) (hp : pc' = pc + 3)
    (k : ∀ T', Stand p l e R s m args below meth c T' locs cells slots → T'.heap = h → G (T'.setTop (mkF m pc' Ls (.ref a :: rest)))) : G (T.setTop (mkF m pc Ls (.ref a :: rest))) := by
  subst hp
  obtain ⟨T', X', e', st⟩ := castY X hx hZ hown w eT F (g := mkF m pc Ls (.ref a :: rest)) rfl rfl hd
  exact hG _ _ st (k T' X' e')
theorem g_newPE (hG : Cl p e below G) (X : Stand p l e R s m args below meth c T locs cells slots) (hx : p.tables.exec = Jvm.exec) (hZ : Z.Warmed39 s.vm) {aty : ArrayType} (w : (Jvm.Cond.arrayClass (newarray.typeOf aty)).before a0 Z = true) (eT : T.heap = h) {n : Int32} (hd : decode c.code pc = .ok (.newarray aty, 2)) (hn : ¬ n < 0) (cap : Nat) (hcap : n.toNatClampNeg ≤ cap) (hb : cap * 8 ≤ 536870912) (hc : cells + 1 ≤ R.cells) (hl : slots + cap ≤ R.slots) {ad : String} (had : "[" ++ (newarray.typeOf aty).toString = ad) (hp : pc' = pc + 2)
    (k : ∀ T' h' b, b = h.size → Stand p l e R s m args below meth c T' locs (cells + 1) (slots + cap) → T'.heap = h' → Ext h h' → AV Z h' b (newarray.typeOf aty) n (List.replicate n.toNatClampNeg (defaultValue (newarray.typeOf aty))) → Exa Z h' b ad → G (T'.setTop (mkF m pc' Ls (.ref b :: rest)))) : G (T.setTop (mkF m pc Ls (.int n :: rest))) := by
  subst hp
  obtain ⟨T', h', kA, X', e', E, A, Ex, st⟩ := newPE X hx hZ w eT (g := mkF m pc Ls (.int n :: rest)) rfl hd rfl hn hcap hb hc hl had
  exact hG _ _ st (k T' h' _ rfl X' e' E (AV.new (Arv.new A hn)) Ex)
theorem g_clone (hG : Cl p e below G) (X : Stand p l e R s m args below meth c T locs cells slots) (hx : p.tables.exec = Jvm.exec) (hZ : Z.Warmed39 s.vm) {own ad : String} {index : Nat} (hown : s.vm.findClass own = some m.cls)
    (w1 : (Jvm.Cond.methodLink own index ⟨ad, "clone", "()Ljava/lang/Object;"⟩).before a0 Z = true) (w2 : (Jvm.Cond.sameMethod ad "java/lang/Object" "clone" "()Ljava/lang/Object;").before a0 Z = true) (w3 : (Jvm.Cond.native ⟨"java/lang/Object", "clone", "()Ljava/lang/Object;"⟩).before a0 Z = true)
    (w4 : (Jvm.Cond.instanceMethod ⟨"java/lang/Object", "clone", "()Ljava/lang/Object;"⟩).before a0 Z = true) (w5 : (Jvm.Cond.selects ad ⟨ad, "clone", "()Ljava/lang/Object;"⟩ ⟨"java/lang/Object", "clone", "()Ljava/lang/Object;"⟩).before a0 Z = true) (w6 : (Jvm.Cond.castable ad "java/lang/Cloneable").before a0 Z = true)
    (eT : T.heap = h) {a : Addr} {ty : FieldType} {n : Int32} {vs : List Value} (A : AV Z h a ty n vs) (E : Exa Z h a ad) (hsz : Ls.size = c.maxLocals) (hd : decode c.code pc = .ok (.invokevirtual index, 3)) (hfr : 1 ≤ R.frames) (W cap : Nat) (hW : (rest.map fun v => v.category).sum ≤ W) (hlo : W + 14 ≤ R.locals) (hcap : n.toNatClampNeg ≤ cap) (hc : cells + 1 ≤ R.cells) (hsl : slots + cap ≤ R.slots) (hp : pc' = pc + 3)
    (k : ∀ T' h' b, b = h.size → Stand p l e R s m args below meth c T' locs (cells + 1) (slots + cap) → T'.heap = h' → Ext h h' → AV Z h' b ty n vs → Exa Z h' b ad → G (T'.setTop (mkF m pc' Ls (.ref b :: rest)))) : G (T.setTop (mkF m pc Ls (.ref a :: rest))) := by
  subst hp
  obtain ⟨kA, A, q⟩ := A
  obtain ⟨T', h', X', e', E', A', Ex, st⟩ := cloneH X hx hZ hown w1 w2 w3 w4 w5 w6 eT A.arh E (g := mkF m pc Ls (.ref a :: rest)) rfl hsz rfl hd hfr (W := W) (by show 2 * 0 + _ ≤ _; omega) hlo hcap hc hsl
  exact hG _ _ st (k T' h' _ rfl X' e' E' ⟨kA, A', q⟩ Ex)
theorem g_callVU (hG : Cl p e below G) (X : Stand p l e R s m args below meth c T locs cells slots) (hx : p.tables.exec = Jvm.exec) (hZ : Z.Warmed39 s.vm) {own C owner : String} {index : Nat} {x y : MethodName} {bytes : ByteArray} {maxL : Nat} {ret : Option FieldType} {rm : Room} {as : Array Value} {Qc : Option Value → Heap → List Loc → Prop} {a : Addr} {argsL stack : List Value} {ps : List FieldType} {rt : Option FieldType} (W : Nat)
    (hown : s.vm.findClass own = some m.cls) (w1 : (Jvm.Cond.methodLink own index x).before a0 Z = true) (wm : (Jvm.Cond.sameMethod x.cls owner x.name x.desc).before a0 Z = true) (w2 : (Jvm.Cond.declares ⟨owner, x.name, x.desc⟩).before a0 Z = true) (ho : owner ≠ "java/lang/invoke/MethodHandle" ∧ owner ≠ "java/lang/invoke/VarHandle") (ws : (Jvm.Cond.selects C x y).before a0 Z = true) (wi : (Jvm.Cond.instanceMethod y).before a0 Z = true) (w3 : (Jvm.Cond.initialized y.cls).before a0 Z = true) (w4 : (Jvm.Cond.code y bytes maxL ret).before a0 Z = true)
    (hM : Con l y bytes maxL ret [] rm Z as h rm.cells rm.slots Qc) (hfr : rm.frames + 1 ≤ R.frames) (hlo : W + (maxL + 11) + rm.locals ≤ R.locals) (hsz : Ls.size = c.maxLocals) (hpd : parseMethodDescriptor x.desc = some ⟨ps, rt⟩) (hln : argsL.length = ps.length) (hst : stack = argsL.reverse ++ .ref a :: rest) (has : (.ref a :: argsL).toArray = as) (hW : (rest.map fun v => v.category).sum ≤ W)
    (hd : decode c.code pc = .ok (.invokevirtual index, 3)) (eT : T.heap = h) (E : Exa Z h a C) (hc : cells + rm.cells ≤ R.cells) (hs : slots + rm.slots ≤ R.slots) (hp : pc' = pc + 3)
    (k : ∀ T' v L', Stand p l e R s m args below meth c T' (locs ++ L') (cells + rm.cells) (slots + rm.slots) → Qc v T'.heap L' → G (T'.setTop (mkF m pc' Ls (v.toList ++ rest)))) : G (T.setTop (mkF m pc Ls stack)) := by
  subst hp hst has
  obtain ⟨cq, kq, qa, qb, qc⟩ := isOf hZ eT E
  obtain ⟨v, _, ⟨T1, L1, k1, n1⟩, -, X1, ⟨Lc, hQ, l1, y1, z1⟩, st⟩ := X.virtualBackUp hx (x := x) (y := y) hown (mvT hZ w1) (mvT hZ wm) (mvT hZ w2) ho (mvT hZ ws) (mvT hZ wi) (backOf (W := W) hM hZ w4 w3 hfr hlo) qa qc (g := mkF m pc Ls (argsL.reverse ++ .ref a :: rest)) rfl hsz (Steps.refl _) (argsL := argsL) (rest := rest) (lenOf hpd hln) rfl (by show 2 * 0 + _ ≤ _; omega) hd (fun _ _ => ⟨rfl, eT, hc, hs⟩)
  dsimp only [Pt.U, Pt.locs, Pt.cells, Pt.slots] at X1 l1 y1 z1 st hQ
  subst l1 y1 z1
  exact hG _ _ (fun t ht => st.trans ht) (k T1 v Lc X1 hQ)
theorem g_lookup (hG : Cl p e below G) (X : Stand p l e R s m args below meth c T locs cells slots) (hx : p.tables.exec = Jvm.exec) {kk : Int32} {dflt : Int} {pairs : Array (Int × Int)} {len : Nat} (hd : decode c.code pc = .ok (.lookupswitch dflt pairs, len)) (hs : (pairs.toList.zip (pairs.toList.drop 1)).all (fun (a, next) => a.1 < next.1) = true) {a off : Int} (hf : pairs.find? (·.1 == kk.toInt) = some (a, off)) (ho : 0 ≤ (pc : Int) + off) (hp : ((pc : Int) + off).toNat = pc') (k : G (T.setTop (mkF m pc' Ls rest))) : G (T.setTop (mkF m pc Ls (.int kk :: rest))) := by
  subst hp
  refine hG _ _ (fun t ht => ?_) k
  exact X.lookupswitchHit hx (g := mkF m pc Ls (.int kk :: rest)) rfl rfl hd hs hf ho t ht
theorem g_copy (hG : Cl p e below G) (X : Stand p l e R s m args below meth c T locs cells slots) (hx : p.tables.exec = Jvm.exec) (hZ : Z.Warmed39 s.vm) {own : String} {index : Nat} (hown : s.vm.findClass own = some m.cls)
    (w1 : (Jvm.Cond.methodLink own index Jvm.Stand.acN).before a0 Z = true) (w2 : (Jvm.Cond.native Jvm.Stand.acN).before a0 Z = true) (w3 : (Jvm.Cond.static Jvm.Stand.acN).before a0 Z = true) (w4 : (Jvm.Cond.initialized "java/lang/System").before a0 Z = true) (eT : T.heap = h)
    {a b : Addr} {ty : FieldType} {n z sp dp nn : Int32} {vs vd vr : List Value} (A : AV Z h a ty n vs) (B : AV Z h b ty z vd) (hr : refKind ty = false) (h1 : ¬ sp < 0) (h2 : ¬ dp < 0) (h3 : ¬ nn < 0) (h4 : sp.toNatClampNeg + nn.toNatClampNeg ≤ n.toNatClampNeg) (h5 : dp.toNatClampNeg + nn.toNatClampNeg ≤ z.toNatClampNeg)
    (hvr : vd.take dp.toNatClampNeg ++ ((List.range nn.toNatClampNeg).map fun i => vs.getD (sp.toNatClampNeg + i) (defaultValue ty)) ++ vd.drop (dp.toNatClampNeg + nn.toNatClampNeg) = vr) {n0 : Nat} (N0 : Fr n0 locs) (ge : n0 ≤ b) (hsz : Ls.size = c.maxLocals) (hd : decode c.code pc = .ok (.invokestatic index, 3)) (hfr : 1 ≤ R.frames) (W : Nat) (hW : (rest.map fun v => v.category).sum ≤ W) (hlo : W + (nativeFrameWords "java/lang/System" "arraycopy" 5 + 11) ≤ R.locals) (hp : pc' = pc + 3)
    (k : ∀ T' h' L, Stand p l e R s m args below meth c T' L cells slots → T'.heap = h' → Fr n0 L → Keep h h' [b] → AV Z h' b ty z vr → G (T'.setTop (mkF m pc' Ls rest))) : G (T.setTop (mkF m pc Ls (.int nn :: .int dp :: .ref b :: .int sp :: .ref a :: rest))) := by
  subst hp hvr
  obtain ⟨kA, A, qa⟩ := A
  obtain ⟨kB, B, qb⟩ := B
  obtain ⟨T', h', L', X', e', N', K', V', st⟩ := cpA X hx hZ hown w1 w2 w3 w4 eT A B (Or.inl ⟨rfl, hr⟩) h1 h2 h3 h4 h5 rfl (by omega) N0 ge (g := mkF m pc Ls (.int nn :: .int dp :: .ref b :: .int sp :: .ref a :: rest)) rfl hsz rfl hd hfr (W := W) (by show 2 * 0 + _ ≤ _; omega) hlo
  exact hG _ _ st (k T' h' L' X' e' N' K' ⟨kB, V', by simp only [List.length_append, List.length_take, List.length_map, List.length_range, List.length_drop]; omega⟩)
theorem Sta.keep0 {h' : Heap} {C n d : String} {v : Value} (F : Sta Z h C n d v) (K : Keep h h' []) : Sta Z h' C n d v := by
  obtain ⟨cf, i, k, f, st, cell, h1, h2, h3, h4, h5, r⟩ := F
  exact ⟨cf, i, k, f, st, cell, h1, h2, h3, h4, K.2.1 _ _ h5 (fun q => nomatch q), r⟩
end New
end Jvm.OwnKit
namespace Jvm.OwnFl
open Jvm.FP.Core
theorem two_ne : (2 : Rat) ≠ 0 := by decide
theorem p2pos (q : Int) : (0 : Rat) < (2 : Rat) ^ q := Rat.zpow_pos (by decide)
theorem p2add (a b : Int) : (2 : Rat) ^ (a + b) = (2 : Rat) ^ a * (2 : Rat) ^ b := Rat.zpow_add two_ne a b
theorem p2nat (n : Nat) : (2 : Rat) ^ (n : Int) = ((2 ^ n : Nat) : Rat) := by rw [Rat.zpow_natCast, Rat.natCast_pow]; rfl
theorem p2le {a b : Int} (h : a ≤ b) : (2 : Rat) ^ a ≤ (2 : Rat) ^ b := by
  obtain ⟨n, hn⟩ : ∃ n : Nat, b = a + n := ⟨(b - a).toNat, by omega⟩
  subst hn
  rw [p2add, p2nat]
  have h1 : (1 : Rat) ≤ ((2 ^ n : Nat) : Rat) := by
    have q : ((1 : Nat) : Rat) ≤ ((2 ^ n : Nat) : Rat) := Rat.natCast_le_natCast.mpr (Nat.two_pow_pos n)
    exact q
  have q := Rat.mul_le_mul_of_nonneg_left h1 (Rat.le_of_lt (p2pos a))
  rwa [Rat.mul_one] at q
theorem p2lt {a b : Int} (h : (2 : Rat) ^ a < (2 : Rat) ^ b) : a < b := by
  by_cases q : a < b
  · exact q
  · exact absurd (p2le (Int.not_lt.mp q)) (Rat.not_le.mpr h)
/-- the value of a datum (nought for what is no number) -/
def rvd : Datum → Rat
  | .fin s c q => ((signed s c : Int) : Rat) * (2 : Rat) ^ q
  | _ => 0
/-- v is a finite double, of the value x -/
def DV (v : UInt64) (x : Rat) : Prop := ∃ s c q, val64 v = .fin s c q ∧ rvd (.fin s c q) = x
theorem DV.fin {v : UInt64} {x : Rat} (h : DV v x) : Jvm.Free.Fl.Fin64 v := by
  obtain ⟨s, c, q, h, -⟩ := h
  exact Jvm.Free.Fl.fin64_core.mpr ⟨s, c, q, h⟩
theorem DV.noNaN {v : UInt64} {x : Rat} (h : DV v x) : Jvm.Free.Fl.NoNaN64 v := h.fin.noNaN
theorem DV.uniq {v : UInt64} {x y : Rat} (h : DV v x) (g : DV v y) : x = y := by
  obtain ⟨s, c, q, h1, h2⟩ := h
  obtain ⟨t, d, r, g1, g2⟩ := g
  cases h1.symm.trans g1
  exact h2.symm.trans g2
theorem units_val (s : Bool) (c : Nat) {q e : Int} (h : e ≤ q) : ((signed s (inUnits c q e) : Int) : Rat) * (2 : Rat) ^ e = ((signed s c : Int) : Rat) * (2 : Rat) ^ q := by
  obtain ⟨n, rfl⟩ : ∃ n : Nat, q = e + n := ⟨(q - e).toNat, by omega⟩
  unfold inUnits
  rw [signed_mul, Rat.intCast_mul, Rat.mul_assoc, show (e + (n : Int) - e).toNat = n by omega, p2add, p2nat, Rat.mul_comm ((2 : Rat) ^ e)]
  rfl
theorem dcmp_of {a b : UInt64} {x y : Rat} (ha : DV a x) (hb : DV b y) : dcmp a b = some (if x < y then .lt else if x = y then .eq else .gt) := by
  obtain ⟨s, c, q, h1, rfl⟩ := ha
  obtain ⟨t, d, r, h2, rfl⟩ := hb
  show order (val64 a) (val64 b) = _
  rw [h1, h2]
  show some (compare (signed s (inUnits c q (min q r))) (signed t (inUnits d r (min q r)))) = some (if ((signed s c : Int) : Rat) * (2 : Rat) ^ q < ((signed t d : Int) : Rat) * (2 : Rat) ^ r then .lt else if ((signed s c : Int) : Rat) * (2 : Rat) ^ q = ((signed t d : Int) : Rat) * (2 : Rat) ^ r then .eq else .gt)
  rw [compare_ite, ← units_val s c (Int.min_le_left q r), ← units_val t d (Int.min_le_right q r)]
  generalize signed s (inUnits c q (min q r)) = i
  generalize signed t (inUnits d r (min q r)) = j
  have hu := p2pos (min q r)
  generalize (2 : Rat) ^ (min q r) = u at hu
  have k1 : ∀ i j : Int, ((i : Rat) * u < (j : Rat) * u) ↔ i < j := fun i j => (Rat.mul_lt_mul_right hu).trans Rat.intCast_lt_intCast
  have k2 : ((i : Rat) * u = (j : Rat) * u) ↔ i = j := by
    constructor
    · intro h
      rcases Int.lt_trichotomy i j with g | g | g
      · have := (k1 i j).mpr g; rw [h] at this; exact absurd this Rat.lt_irrefl
      · exact g
      · have := (k1 j i).mpr g; rw [h] at this; exact absurd this Rat.lt_irrefl
    · intro h; rw [h]
  simp only [k1, k2]
theorem dcmp_lt {a b : UInt64} {x y : Rat} (ha : DV a x) (hb : DV b y) (h : x < y) : Jvm.FP.dcmp a b = some .lt := by
  show dcmp a b = _
  rw [dcmp_of ha hb, if_pos h]
theorem dcmp_eq {a b : UInt64} {x y : Rat} (ha : DV a x) (hb : DV b y) (h : x = y) : Jvm.FP.dcmp a b = some .eq := by
  show dcmp a b = _
  rw [dcmp_of ha hb, if_neg (by rw [h]; exact Rat.lt_irrefl), if_pos h]
theorem dcmp_gt {a b : UInt64} {x y : Rat} (ha : DV a x) (hb : DV b y) (h : y < x) : Jvm.FP.dcmp a b = some .gt := by
  show dcmp a b = _
  rw [dcmp_of ha hb, if_neg (by rw [Rat.not_lt]; exact Rat.le_of_lt h), if_neg (Rat.ne_of_gt h)]
theorem dcmp_le {a b : UInt64} {x y : Rat} (ha : DV a x) (hb : DV b y) (h : x ≤ y) : Jvm.FP.dcmp a b = some .lt ∨ Jvm.FP.dcmp a b = some .eq := by
  by_cases q : x = y
  · exact Or.inr (dcmp_eq ha hb q)
  · exact Or.inl (dcmp_lt ha hb (Rat.lt_of_le_of_ne h q))
theorem dcmp_ge {a b : UInt64} {x y : Rat} (ha : DV a x) (hb : DV b y) (h : y ≤ x) : Jvm.FP.dcmp a b = some .gt ∨ Jvm.FP.dcmp a b = some .eq := by
  by_cases q : x = y
  · exact Or.inr (dcmp_eq ha hb q)
  · exact Or.inl (dcmp_gt ha hb (Rat.lt_of_le_of_ne h (fun z => q z.symm)))
/-- the rounding of a positive ratio, in full -/
theorem rr_spec (s : Bool) {A B : Nat} (e : Int) (hA : 0 < A) (hB : 0 < B) {x : Rat} (hx : x * (B : Rat) = (A : Rat) * (2 : Rat) ^ e) (hlt : x < (2 : Rat) ^ (1023 : Int)) :
    ∃ c q, roundRatio b64 s A B e = .fin s c q ∧ ∃ (m : Nat) (r : Int), (c : Rat) * (2 : Rat) ^ q = (m : Rat) * (2 : Rat) ^ r ∧ -1074 ≤ r ∧ m ≤ 2 ^ 53 ∧ 2 * x ≤ (2 * (m : Rat) + 1) * (2 : Rat) ^ r ∧ 2 * (m : Rat) * (2 : Rat) ^ r ≤ 2 * x + (2 : Rat) ^ r ∧
      x < 9007199254740992 * (2 : Rat) ^ r ∧ (r = -1074 ∨ 4503599627370496 * (2 : Rat) ^ r ≤ x) := by
  have g1 := quantum_ge b64 A B e
  have g2 := nearest_units_le (f := b64) hA hB e
  have g3 := quantum_not_below (f := b64) hA hB e
  have g4 := quantum_below (f := b64) hA hB e
  unfold roundRatio
  rw [if_neg (by omega : ¬ A = 0)]
  generalize quantum b64 A B e = r at *
  unfold roundAt
  have hD := unitsDen_pos hB e r
  obtain ⟨n1, n2, -⟩ := nearest_spec (unitsNum A e r) (unitsDen B e r) hD
  have key : x * (unitsDen B e r : Rat) = (unitsNum A e r : Rat) * (2 : Rat) ^ r := by
    unfold unitsDen unitsNum
    rw [Rat.natCast_mul, Rat.natCast_mul, ← Rat.mul_assoc, hx, ← p2nat, ← p2nat, Rat.mul_assoc, Rat.mul_assoc, ← p2add, ← p2add, show e + ((r - e).toNat : Int) = ((e - r).toNat : Int) + r by omega]
  have b1 : unitsNum A e r < 2 ^ 53 * unitsDen B e r := (units_below A B e r 53).mpr g4
  have b2 : r = -1074 ∨ 2 ^ 52 * unitsDen B e r ≤ unitsNum A e r := by
    rcases g3 with g3 | g3
    · exact Or.inl g3
    · exact Or.inr (Nat.le_of_not_lt fun q => g3 ((units_below A B e r 52).mp q))
  have hr0 : -1074 ≤ r := g1
  have hm53 : nearest (unitsNum A e r) (unitsDen B e r) ≤ 2 ^ 53 := g2
  clear g1 g2 g3 g4
  generalize nearest (unitsNum A e r) (unitsDen B e r) = m at *
  generalize unitsNum A e r = N at *
  generalize unitsDen B e r = D at *
  have hu := p2pos r
  have hDp : (0 : Rat) < (D : Rat) := Rat.natCast_pos.mpr hD
  have n1' : 2 * (N : Rat) ≤ (2 * (m : Rat) + 1) * (D : Rat) := by
    have q := Rat.natCast_le_natCast.mpr n1
    simpa [Rat.natCast_mul, Rat.natCast_add] using q
  have n2' : 2 * (m : Rat) * (D : Rat) ≤ 2 * (N : Rat) + (D : Rat) := by
    have q := Rat.natCast_le_natCast.mpr n2
    simpa [Rat.natCast_mul, Rat.natCast_add] using q
  have b1' : (N : Rat) < 9007199254740992 * (D : Rat) := by
    have q := Rat.natCast_lt_natCast.mpr b1
    simpa [Rat.natCast_mul] using q
  have b2' : r = -1074 ∨ 4503599627370496 * (D : Rat) ≤ (N : Rat) := by
    rcases b2 with q | q
    · exact Or.inl q
    · right
      have q := Rat.natCast_le_natCast.mpr q
      simpa [Rat.natCast_mul] using q
  have f1 : 2 * x ≤ (2 * (m : Rat) + 1) * (2 : Rat) ^ r := by
    refine Rat.le_of_mul_le_mul_right (c := (D : Rat)) ?_ hDp
    have q := Rat.mul_le_mul_of_nonneg_right n1' (Rat.le_of_lt hu)
    generalize (2 : Rat) ^ r = u at *
    grind
  have f2 : 2 * (m : Rat) * (2 : Rat) ^ r ≤ 2 * x + (2 : Rat) ^ r := by
    refine Rat.le_of_mul_le_mul_right (c := (D : Rat)) ?_ hDp
    have q := Rat.mul_le_mul_of_nonneg_right n2' (Rat.le_of_lt hu)
    generalize (2 : Rat) ^ r = u at *
    grind
  have f3 : x < 9007199254740992 * (2 : Rat) ^ r := by
    refine Rat.lt_of_mul_lt_mul_right (c := (D : Rat)) ?_ (Rat.le_of_lt hDp)
    have q := Rat.mul_lt_mul_of_pos_right b1' hu
    generalize (2 : Rat) ^ r = u at *
    grind
  have f4 : r = -1074 ∨ 4503599627370496 * (2 : Rat) ^ r ≤ x := by
    rcases b2' with q | q
    · exact Or.inl q
    · right
      refine Rat.le_of_mul_le_mul_right (c := (D : Rat)) ?_ hDp
      have q := Rat.mul_le_mul_of_nonneg_right q (Rat.le_of_lt hu)
      generalize (2 : Rat) ^ r = u at *
      grind
  have hr : r ≤ 970 := by
    rcases f4 with q | q
    · omega
    · have q1 : (2 : Rat) ^ ((52 : Int) + r) < (2 : Rat) ^ (1023 : Int) := by
        rw [p2add, show (2 : Rat) ^ (52 : Int) = 4503599627370496 by decide +kernel]
        exact Std.lt_of_le_of_lt q hlt
      have := p2lt q1
      omega
  have hqm : b64.qmax = 971 := by decide
  by_cases hm : m < 2 ^ 53
  · refine ⟨m, r, ?_, m, r, rfl, hr0, hm53, f1, f2, f3, f4⟩
    show (if m < 2 ^ 53 then bound b64 s m r else _) = _
    rw [if_pos hm]
    unfold bound
    rw [if_pos (by omega)]
  · have hm : m = 2 ^ 53 := by omega
    refine ⟨2 ^ 52, r + 1, ?_, m, r, ?_, hr0, hm53, f1, f2, f3, f4⟩
    · show (if m < 2 ^ 53 then bound b64 s m r else bound b64 s b64.tails (r + 1)) = _
      rw [if_neg (by omega)]
      unfold bound
      rw [if_pos (by omega)]
      rfl
    · subst hm
      rw [p2add, Rat.zpow_one]
      generalize (2 : Rat) ^ r = u
      have e1 : ((2 ^ 52 : Nat) : Rat) = 4503599627370496 := by decide +kernel
      have e2 : ((2 ^ 53 : Nat) : Rat) = 9007199254740992 := by decide +kernel
      rw [e1, e2]
      grind
/-- the rounding of a rational number to a double's precision -/
def RR (x : Rat) : Rat := rvd (roundRatio b64 (decide (x < 0)) x.num.natAbs x.den 0)
theorem rat_num (x : Rat) : x * (x.den : Rat) = (x.num : Rat) := by
  have h : x = (x.num : Rat) / ((x.den : Int) : Rat) := by rw [← Rat.divInt_eq_div, Rat.num_divInt_den]
  have hd : (((x.den : Int)) : Rat) ≠ 0 := by
    intro q
    have := Rat.intCast_eq_zero_iff.mp q
    have := x.den_nz
    omega
  have q := Rat.div_mul_cancel (a := (x.num : Rat)) hd
  rw [← h] at q
  exact q
theorem signed_rat (s : Bool) (c : Nat) : ((signed s c : Int) : Rat) = if s then -(c : Rat) else (c : Rat) := by cases s <;> simp [signed, Rat.intCast_natCast]
/-- rounding goes by the value -/
theorem rr_congr {s : Bool} {A B : Nat} {e : Int} {x : Rat} (hB : 0 < B) (hx : x * (B : Rat) = ((signed s A : Int) : Rat) * (2 : Rat) ^ e) (hA : A ≠ 0) : roundRatio b64 s A B e = roundRatio b64 (decide (x < 0)) x.num.natAbs x.den 0 := by
  have hu := p2pos e
  have hBp : (0 : Rat) < (B : Rat) := Rat.natCast_pos.mpr hB
  have hAp : (0 : Rat) < (A : Rat) := Rat.natCast_pos.mpr (by omega)
  have hAu := Rat.mul_pos hAp hu
  have hs : decide (x < 0) = s := by
    rw [signed_rat] at hx
    cases s
    · simp only [Bool.false_eq_true, if_false] at hx
      rw [decide_eq_false_iff_not]
      intro q
      have := (Rat.mul_neg_iff_of_pos_right hBp).mpr q
      rw [hx] at this
      grind
    · simp only [if_true] at hx
      rw [decide_eq_true_iff]
      refine (Rat.mul_neg_iff_of_pos_right hBp).mp ?_
      rw [hx]
      grind
  rw [hs]
  refine roundRatio_congr hB x.den_pos ?_
  -- magnitudes
  have h1 := rat_num x
  have h2 : (x.num : Rat) * (B : Rat) = ((signed s A : Int) : Rat) * (2 : Rat) ^ e * (x.den : Rat) := by rw [← h1, ← hx]; grind
  have h3 : (x.num : Rat) * (B : Rat) * (2 : Rat) ^ (((0 - e).toNat : Nat) : Int) = ((signed s A : Int) : Rat) * (x.den : Rat) * (2 : Rat) ^ (((e - 0).toNat : Nat) : Int) := by
    rw [h2, Rat.mul_assoc, Rat.mul_assoc, Rat.mul_comm ((2 : Rat) ^ e), Rat.mul_assoc, ← p2add, ← Rat.mul_assoc]
    rw [show (((0 - e).toNat : Nat) : Int) + e = (((e - 0).toNat : Nat) : Int) by omega]
  rw [p2nat, p2nat] at h3
  have h4 : x.num * (B : Int) * ((2 ^ (0 - e).toNat : Nat) : Int) = signed s A * (x.den : Int) * ((2 ^ (e - 0).toNat : Nat) : Int) := by
    refine Rat.intCast_inj.mp ?_
    rw [Rat.intCast_mul, Rat.intCast_mul, Rat.intCast_mul, Rat.intCast_mul]
    exact h3
  have h5 := congrArg Int.natAbs h4
  simp only [Int.natAbs_mul, Int.natAbs_natCast, natAbs_signed] at h5
  exact h5.symm
theorem rvd_rr {s : Bool} {A B : Nat} {e : Int} {x : Rat} (hB : 0 < B) (hx : x * (B : Rat) = ((signed s A : Int) : Rat) * (2 : Rat) ^ e) : rvd (roundRatio b64 s A B e) = RR x := by
  by_cases hA : A = 0
  · subst hA
    have hx0 : x = 0 := by
      rw [signed_zero] at hx
      have hBp : (B : Rat) ≠ 0 := fun q => by have := Rat.natCast_eq_zero_iff.mp q; omega
      rcases Rat.mul_eq_zero.mp (hx.trans (by rw [show ((0 : Int) : Rat) = 0 from rfl, Rat.zero_mul])) with q | q
      · exact q
      · exact absurd q hBp
    subst hx0
    unfold RR roundRatio
    rw [if_pos rfl, if_pos (by decide)]
    show ((signed s 0 : Int) : Rat) * _ = ((signed _ 0 : Int) : Rat) * _
    rw [signed_zero, signed_zero]
  · rw [rr_congr hB hx hA]; rfl
theorem RR_neg (x : Rat) : RR (-x) = - RR x := by
  have h := rat_num x
  have h1 : rvd (roundRatio b64 (!decide (x < 0)) x.num.natAbs x.den 0) = RR (-x) := by
    refine rvd_rr x.den_pos ?_
    rw [Rat.zpow_zero, Rat.mul_one, Rat.neg_mul, h]
    have : (signed (!decide (x < 0)) x.num.natAbs : Int) = - x.num := by
      by_cases q : x < 0
      · have : x.num < 0 := by
          rw [← Int.not_le, Rat.num_nonneg, Rat.not_le]; exact q
        simp [signed, q]; omega
      · have : 0 ≤ x.num := by rw [Rat.num_nonneg]; exact Rat.not_lt.mp q
        simp [signed, q]; omega
    rw [this]; rfl
  rw [← h1, ← negate_roundRatio]
  unfold RR
  generalize roundRatio b64 (decide (x < 0)) x.num.natAbs x.den 0 = d
  cases d with
  | nan => simp [negate, rvd]
  | inf s => simp [negate, rvd]
  | fin s c q =>
    show ((signed (!s) c : Int) : Rat) * _ = -(((signed s c : Int) : Rat) * _)
    rw [← Rat.neg_mul]
    congr 1
    cases s <;> simp [signed]
/-- what is known of a rounding y of x -/
def Rsp (x y : Rat) : Prop := ∃ (m r : Int), y = (m : Rat) * (2 : Rat) ^ r ∧ -1074 ≤ r ∧ m.natAbs ≤ 2 ^ 53 ∧ 2 * x ≤ (2 * (m : Rat) + 1) * (2 : Rat) ^ r ∧ (2 * (m : Rat) - 1) * (2 : Rat) ^ r ≤ 2 * x ∧
    x < 9007199254740992 * (2 : Rat) ^ r ∧ -(9007199254740992 * (2 : Rat) ^ r) < x ∧ (r = -1074 ∨ 4503599627370496 * (2 : Rat) ^ r ≤ x ∨ x ≤ -(4503599627370496 * (2 : Rat) ^ r))
theorem Rsp.neg {x y : Rat} (h : Rsp x y) : Rsp (-x) (-y) := by
  obtain ⟨m, r, h1, h2, h3, h4, h5, h6, h7, h8⟩ := h
  have hu := p2pos r
  refine ⟨-m, r, ?_, h2, by omega, ?_, ?_, ?_, ?_, ?_⟩ <;> (try rw [Rat.intCast_neg]) <;> generalize (2 : Rat) ^ r = u at * <;> grind
theorem big_lt : (1267650600228229401496703205376 : Rat) < (2 : Rat) ^ (1023 : Int) := by
  have h : (2 : Rat) ^ (100 : Int) < (2 : Rat) ^ (1023 : Int) := by
    refine Rat.lt_of_le_of_ne (p2le (by decide)) fun q => ?_
    have h2 : (2 : Rat) ^ (1023 : Int) = (2 : Rat) ^ (100 : Int) * (2 : Rat) ^ (923 : Int) := by rw [← p2add]; rfl
    have h3 : (2 : Rat) ^ (1 : Int) ≤ (2 : Rat) ^ (923 : Int) := p2le (by decide)
    have h4 := p2pos 100
    rw [Rat.zpow_one] at h3
    have h5 := Rat.mul_le_mul_of_nonneg_left h3 (Rat.le_of_lt h4)
    grind
  have e : (2 : Rat) ^ (100 : Int) = 1267650600228229401496703205376 := by decide +kernel
  rw [← e]; exact h
theorem RR_pos {x : Rat} (h0 : 0 < x) (h : x ≤ 1267650600228229401496703205376) : Rsp x (RR x) ∧ ∃ c q, roundRatio b64 (decide (x < 0)) x.num.natAbs x.den 0 = .fin false c q := by
  have hn : 0 < x.num := by
    have : 0 ≤ x.num := by rw [Rat.num_nonneg]; exact Rat.le_of_lt h0
    have : x.num ≠ 0 := fun q => by rw [Rat.num_eq_zero] at q; rw [q] at h0; exact absurd h0 Rat.lt_irrefl
    omega
  have hd : decide (x < 0) = false := by rw [decide_eq_false_iff_not, Rat.not_lt]; exact Rat.le_of_lt h0
  have e1 : ((x.num.natAbs : Nat) : Rat) = (x.num : Rat) := by
    have : ((x.num.natAbs : Nat) : Int) = x.num := by omega
    rw [← Rat.intCast_natCast, this]
  obtain ⟨c, q, hr, m, r, f0, f1, f2, f3, f4, f5, f6⟩ := rr_spec false (A := x.num.natAbs) (B := x.den) 0 (by omega) x.den_pos (x := x) (by rw [Rat.zpow_zero, Rat.mul_one, e1]; exact rat_num x) (Std.lt_of_le_of_lt h big_lt)
  refine ⟨⟨m, r, ?_, f1, by omega, ?_, ?_, ?_, ?_, ?_⟩, c, q, by rw [hd]; exact hr⟩
  · unfold RR
    rw [hd, hr]
    show ((signed false c : Int) : Rat) * _ = _
    rw [← Rat.intCast_natCast] at f0
    exact f0
  all_goals
    have hu := p2pos r
    have e2 : ((m : Int) : Rat) = (m : Rat) := rfl
    rw [e2] at *
    generalize (2 : Rat) ^ r = u at *
    grind
theorem RR_zero : RR 0 = 0 := by
  unfold RR roundRatio
  rw [if_pos (by decide)]
  show ((signed _ 0 : Int) : Rat) * _ = 0
  rw [signed_zero]
  exact Rat.zero_mul _
theorem Rsp.zero : Rsp 0 0 := by
  have hu := p2pos (-1074)
  refine ⟨0, -1074, ?_, by decide, by decide, ?_, ?_, ?_, ?_, Or.inl rfl⟩ <;> generalize (2 : Rat) ^ (-1074 : Int) = u at * <;> (try rw [show ((0 : Int) : Rat) = 0 from rfl]) <;> grind
theorem RR_spec {x : Rat} (h1 : -1267650600228229401496703205376 ≤ x) (h2 : x ≤ 1267650600228229401496703205376) : Rsp x (RR x) := by
  by_cases q : 0 < x
  · exact (RR_pos q h2).1
  · by_cases q2 : x = 0
    · subst q2; rw [RR_zero]; exact Rsp.zero
    · have q3 : 0 < -x := by grind
      have g := (RR_pos q3 (by grind)).1.neg
      rw [RR_neg, Rat.neg_neg, Rat.neg_neg] at g
      exact g
theorem DV.of_rr {v : UInt64} {s : Bool} {A B : Nat} {e : Int} {x : Rat} (hv : val64 v = roundRatio b64 s A B e) (hB : 0 < B) (hx : x * (B : Rat) = ((signed s A : Int) : Rat) * (2 : Rat) ^ e) (h1 : -1267650600228229401496703205376 ≤ x) (h2 : x ≤ 1267650600228229401496703205376) : DV v (RR x) := by
  have hr := rvd_rr hB hx
  by_cases hA : A = 0
  · subst hA
    refine ⟨s, 0, b64.qmin, by rw [hv]; unfold roundRatio; rw [if_pos rfl], ?_⟩
    rw [← hr]; unfold roundRatio; rw [if_pos rfl]
  · obtain ⟨c, q, h, -⟩ := rr_spec s (A := A) (B := B) e (by omega) hB (x := if s then -x else x) (by rw [signed_rat] at hx; cases s <;> simp at hx ⊢ <;> grind) (Std.lt_of_le_of_lt (by cases s <;> simp <;> grind) big_lt)
    exact ⟨s, c, q, by rw [hv, h], by rw [← hr, h]⟩
theorem dadd_DV {a b : UInt64} {x y : Rat} (ha : DV a x) (hb : DV b y) (h1 : -1267650600228229401496703205376 ≤ x + y) (h2 : x + y ≤ 1267650600228229401496703205376) : DV (Jvm.FP.dadd a b) (RR (x + y)) := by
  obtain ⟨s, c, q, e1, rfl⟩ := ha
  obtain ⟨t, d, r, e2, rfl⟩ := hb
  refine DV.of_rr (s := sumSign s t (sumUnits s c q t d r (min q r))) (A := (sumUnits s c q t d r (min q r)).natAbs) (B := 1) (e := min q r) ?_ (by decide) ?_ h1 h2
  · show val64 (dadd a b) = _
    rw [val64_dadd, e1, e2]; rfl
  · rw [signed_sumSign, show ((1 : Nat) : Rat) = 1 from rfl, Rat.mul_one]
    unfold sumUnits
    rw [Rat.intCast_add, Rat.add_mul, units_val s c (Int.min_le_left q r), units_val t d (Int.min_le_right q r)]; rfl
theorem signed_not (t : Bool) (d : Nat) : (signed (!t) d : Int) = - signed t d := by cases t <;> simp [signed]
theorem dsub_DV {a b : UInt64} {x y : Rat} (ha : DV a x) (hb : DV b y) (h1 : -1267650600228229401496703205376 ≤ x - y) (h2 : x - y ≤ 1267650600228229401496703205376) : DV (Jvm.FP.dsub a b) (RR (x - y)) := by
  obtain ⟨s, c, q, e1, rfl⟩ := ha
  obtain ⟨t, d, r, e2, rfl⟩ := hb
  refine DV.of_rr (s := sumSign s (!t) (sumUnits s c q (!t) d r (min q r))) (A := (sumUnits s c q (!t) d r (min q r)).natAbs) (B := 1) (e := min q r) ?_ (by decide) ?_ h1 h2
  · show val64 (dsub a b) = _
    rw [val64_dsub, e1, e2]; rfl
  · rw [signed_sumSign, show ((1 : Nat) : Rat) = 1 from rfl, Rat.mul_one]
    unfold sumUnits
    rw [Rat.intCast_add, Rat.add_mul, units_val s c (Int.min_le_left q r), units_val (!t) d (Int.min_le_right q r), signed_not, Rat.intCast_neg, Rat.neg_mul, Rat.sub_eq_add_neg]; rfl
theorem dmul_DV {a b : UInt64} {x y : Rat} (ha : DV a x) (hb : DV b y) (h1 : -1267650600228229401496703205376 ≤ x * y) (h2 : x * y ≤ 1267650600228229401496703205376) : DV (Jvm.FP.dmul a b) (RR (x * y)) := by
  obtain ⟨s, c, q, e1, rfl⟩ := ha
  obtain ⟨t, d, r, e2, rfl⟩ := hb
  refine DV.of_rr (s := s != t) (A := c * d) (B := 1) (e := q + r) ?_ (by decide) ?_ h1 h2
  · show val64 (dmul a b) = _
    rw [val64_dmul, e1, e2]; rfl
  · rw [signed_xor, show ((1 : Nat) : Rat) = 1 from rfl, Rat.mul_one, Rat.intCast_mul, p2add]
    show (_ * _) * (_ * _) = _
    generalize (2 : Rat) ^ q = u
    generalize (2 : Rat) ^ r = w
    grind
theorem ddiv_DV {a b : UInt64} {x y : Rat} (ha : DV a x) (hb : DV b y) (hy : y ≠ 0) (h1 : -1267650600228229401496703205376 ≤ x / y) (h2 : x / y ≤ 1267650600228229401496703205376) : DV (Jvm.FP.ddiv a b) (RR (x / y)) := by
  obtain ⟨s, c, q, e1, rfl⟩ := ha
  obtain ⟨t, d, r, e2, rfl⟩ := hb
  have hd : d ≠ 0 := by
    rintro rfl
    apply hy
    show ((signed t 0 : Int) : Rat) * _ = 0
    rw [signed_zero]; exact Rat.zero_mul _
  refine DV.of_rr (s := s != t) (A := c) (B := d) (e := q - r) ?_ (by omega) ?_ h1 h2
  · show val64 (ddiv a b) = _
    rw [val64_ddiv, e1, e2]
    show (if d = 0 then _ else _) = _
    rw [if_neg hd]
  · have hq : (2 : Rat) ^ q = (2 : Rat) ^ (q - r) * (2 : Rat) ^ r := by rw [← p2add, show q - r + r = q by omega]
    have hS : ((signed s c : Int) : Rat) * (d : Rat) = ((signed (s != t) c : Int) : Rat) * ((signed t d : Int) : Rat) := by
      rw [signed_rat, signed_rat, signed_rat]
      cases s <;> cases t <;> simp <;> grind
    have hm := Rat.div_mul_cancel (a := rvd (.fin s c q)) hy
    have hyn := hy
    have hv1 : rvd (.fin s c q) = ((signed s c : Int) : Rat) * ((2 : Rat) ^ (q - r) * (2 : Rat) ^ r) := by rw [← hq]; rfl
    have hv2 : rvd (.fin t d r) = ((signed t d : Int) : Rat) * (2 : Rat) ^ r := rfl
    generalize rvd (.fin s c q) / rvd (.fin t d r) = z at *
    rw [hv1, hv2] at hm
    rw [hv2] at hyn
    have hst : ((signed t d : Int) : Rat) ≠ 0 := fun g => hyn (by rw [g]; exact Rat.zero_mul _)
    have hr := p2pos r
    generalize (2 : Rat) ^ (q - r) = u at *
    generalize (2 : Rat) ^ r = w at *
    generalize ((signed s c : Int) : Rat) = X at *
    generalize ((signed (s != t) c : Int) : Rat) = S at *
    generalize ((signed t d : Int) : Rat) = Y at *
    generalize (d : Rat) = D at *
    -- hm : z * (Y * w) = X * (u * w); hS : X * D = S * Y; goal : z * D = S * u
    have hw : w ≠ 0 := Rat.ne_of_gt hr
    have k1 : z * Y = X * u := by
      have : (z * Y - X * u) * w = 0 := by grind
      rcases Rat.mul_eq_zero.mp this with g | g
      · grind
      · exact absurd g hw
    have k2 : (z * D - S * u) * Y = 0 := by grind
    rcases Rat.mul_eq_zero.mp k2 with g | g
    · grind
    · exact absurd g hst
theorem i2d_RR (n : Int32) : DV (Jvm.FP.i2d n) (RR (n.toInt : Rat)) := by
  have h := n.le_toInt
  have h' := n.toInt_lt
  refine DV.of_rr (s := decide (n.toInt < 0)) (A := n.toInt.natAbs) (B := 1) (e := 0) ?_ (by decide) ?_ ?_ ?_
  · show val64 (i2d n) = _
    rw [val64_i2d]; rfl
  · rw [Rat.zpow_zero, Rat.mul_one, show ((1 : Nat) : Rat) = 1 from rfl, Rat.mul_one]
    congr 1
    by_cases q : n.toInt < 0 <;> simp [signed, q] <;> omega
  · have := Rat.intCast_le_intCast.mpr h; grind
  · have := Rat.intCast_le_intCast.mpr (Int.le_of_lt h'); grind
theorem l2d_RR (n : Int64) : DV (Jvm.FP.l2d n) (RR (n.toInt : Rat)) := by
  have h := n.le_toInt
  have h' := n.toInt_lt
  refine DV.of_rr (s := decide (n.toInt < 0)) (A := n.toInt.natAbs) (B := 1) (e := 0) ?_ (by decide) ?_ ?_ ?_
  · show val64 (l2d n) = _
    rw [val64_l2d]; rfl
  · rw [Rat.zpow_zero, Rat.mul_one, show ((1 : Nat) : Rat) = 1 from rfl, Rat.mul_one]
    congr 1
    by_cases q : n.toInt < 0 <;> simp [signed, q] <;> omega
  · have := Rat.intCast_le_intCast.mpr h; grind
  · have := Rat.intCast_le_intCast.mpr (Int.le_of_lt h'); grind
/-- a rational number that a double can hold (no overflow asked) -/
def Rp (z : Rat) : Prop := ∃ m k : Int, z = (m : Rat) * (2 : Rat) ^ k ∧ m.natAbs ≤ 2 ^ 53 ∧ -1074 ≤ k
theorem abs_le {m : Int} (h : m.natAbs ≤ 2 ^ 53) : -(9007199254740992 : Rat) ≤ (m : Rat) ∧ (m : Rat) ≤ 9007199254740992 := by
  have h1 : (-9007199254740992 : Int) ≤ m ∧ m ≤ 9007199254740992 := by omega
  exact ⟨by have := Rat.intCast_le_intCast.mpr h1.1; simpa using this, by have := Rat.intCast_le_intCast.mpr h1.2; simpa using this⟩
/-- a number that can be held is a multiple of the quantum, or no greater than the quantum's least -/
theorem rp_mul {z : Rat} {r : Int} (h : Rp z) : (∃ j : Int, z = (j : Rat) * (2 : Rat) ^ r) ∨ (-1074 < r ∧ z ≤ 4503599627370496 * (2 : Rat) ^ r ∧ -(4503599627370496 * (2 : Rat) ^ r) ≤ z) := by
  obtain ⟨m, k, hz, hm, hk⟩ := h
  by_cases hkr : r ≤ k
  · left
    obtain ⟨i, rfl⟩ : ∃ i : Nat, k = r + i := ⟨(k - r).toNat, by omega⟩
    refine ⟨m * ((2 ^ i : Nat) : Int), ?_⟩
    rw [hz, p2add, p2nat, Rat.intCast_mul, Rat.intCast_natCast]
    generalize (2 : Rat) ^ r = u
    generalize ((2 ^ i : Nat) : Rat) = w
    grind
  · right
    have h1 : (2 : Rat) ^ (k + 1) ≤ (2 : Rat) ^ r := p2le (by omega)
    rw [p2add, Rat.zpow_one] at h1
    obtain ⟨a1, a2⟩ := abs_le hm
    have hu := p2pos k
    have b1 := Rat.mul_le_mul_of_nonneg_right a1 (Rat.le_of_lt hu)
    have b2 := Rat.mul_le_mul_of_nonneg_right a2 (Rat.le_of_lt hu)
    rw [hz]
    refine ⟨by omega, ?_, ?_⟩ <;> generalize (2 : Rat) ^ r = w at * <;> generalize (2 : Rat) ^ k = u at * <;> grind
theorem icast_le {u : Rat} (hu : 0 < u) {i j : Int} (h : (i : Rat) * u ≤ (j : Rat) * u) : i ≤ j := Rat.intCast_le_intCast.mp (Rat.le_of_mul_le_mul_right h hu)
theorem icast_lt {u : Rat} (hu : 0 < u) {i j : Int} (h : (i : Rat) * u < (j : Rat) * u) : i < j := Rat.intCast_lt_intCast.mp (Rat.lt_of_mul_lt_mul_right h (Rat.le_of_lt hu))
/-- the nearest: whatever can be held is no nearer -/
theorem Rsp.near {x y z : Rat} (h : Rsp x y) (hz : Rp z) (t : Rat) (t1 : x - z ≤ t) (t2 : z - x ≤ t) : x - y ≤ t ∧ y - x ≤ t := by
  obtain ⟨n, r, rfl, h2, h3, h4, h5, h6, h7, h8⟩ := h
  have hu := p2pos r
  -- multiples of the quantum
  have main : ∀ (j : Int) (t : Rat), x - (j : Rat) * (2 : Rat) ^ r ≤ t → (j : Rat) * (2 : Rat) ^ r - x ≤ t → x - (n : Rat) * (2 : Rat) ^ r ≤ t ∧ (n : Rat) * (2 : Rat) ^ r - x ≤ t := by
    intro j t t1 t2
    rcases Int.lt_trichotomy j n with g | g | g
    · have g1 : (j : Rat) + 1 ≤ (n : Rat) := by have := Rat.intCast_le_intCast.mpr (show j + 1 ≤ n by omega); simpa using this
      have g2 := Rat.mul_le_mul_of_nonneg_right g1 (Rat.le_of_lt hu)
      generalize (2 : Rat) ^ r = u at *
      constructor <;> grind
    · subst g; exact ⟨t1, t2⟩
    · have g1 : (n : Rat) + 1 ≤ (j : Rat) := by have := Rat.intCast_le_intCast.mpr (show n + 1 ≤ j by omega); simpa using this
      have g2 := Rat.mul_le_mul_of_nonneg_right g1 (Rat.le_of_lt hu)
      generalize (2 : Rat) ^ r = u at *
      constructor <;> grind
  rcases rp_mul (r := r) hz with ⟨j, rfl⟩ | ⟨g0, g1, g2⟩
  · exact main j t t1 t2
  · rcases h8 with q | q | q
    · omega
    · refine main 4503599627370496 t ?_ ?_ <;> rw [show ((4503599627370496 : Int) : Rat) = 4503599627370496 from rfl] <;> generalize (2 : Rat) ^ r = u at * <;> grind
    · refine main (-4503599627370496) t ?_ ?_ <;> rw [show ((-4503599627370496 : Int) : Rat) = -4503599627370496 from rfl] <;> generalize (2 : Rat) ^ r = u at * <;> grind
theorem Rsp.exact {x y : Rat} (h : Rsp x y) (hx : Rp x) : y = x := by
  have := h.near hx 0 (by grind) (by grind)
  grind
theorem RR_exact {x : Rat} (hx : Rp x) (h1 : -1267650600228229401496703205376 ≤ x) (h2 : x ≤ 1267650600228229401496703205376) : RR x = x := (RR_spec h1 h2).exact hx
theorem Rsp.rp {x y : Rat} (h : Rsp x y) : Rp y := by
  obtain ⟨n, r, rfl, h2, h3, -⟩ := h
  exact ⟨n, r, rfl, h3, h2⟩
theorem Rsp.le {x y z : Rat} (h : Rsp x y) (hz : Rp z) (q : x ≤ z) : y ≤ z := by
  have := h.near hz (z - x) (by grind) (by grind)
  grind
theorem Rsp.ge {x y z : Rat} (h : Rsp x y) (hz : Rp z) (q : z ≤ x) : z ≤ y := by
  have := h.near hz (x - z) (by grind) (by grind)
  grind
theorem RR_mono {x y : Rat} (h : x ≤ y) (x1 : -1267650600228229401496703205376 ≤ x) (y2 : y ≤ 1267650600228229401496703205376) : RR x ≤ RR y := by
  by_cases q : x = y
  · rw [q]; exact Rat.le_refl
  · have hx := RR_spec x1 (by grind)
    have hy := RR_spec (by grind) y2
    by_cases g : RR x ≤ RR y
    · exact g
    · have g := Rat.not_le.mp g
      -- RR y < RR x
      have a := fun t => hx.near hy.rp t
      have b := fun t => hy.near hx.rp t
      generalize RR x = X at *
      generalize RR y = Y at *
      by_cases c1 : x ≤ Y
      · have := a (Y - x) (by grind) (by grind)
        grind
      · by_cases c2 : X ≤ y
        · have := b (y - X) (by grind) (by grind)
          grind
        · have k1 := a (x - Y) (by grind) (by grind)
          have k2 := b (X - y) (by grind) (by grind)
          grind
/-- the relative error, of what is not tiny -/
theorem Rsp.err {x y : Rat} (h : Rsp x y) (hx : 1 ≤ x * 1267650600228229401496703205376) : 9007199254740992 * (y - x) ≤ x ∧ 9007199254740992 * (x - y) ≤ x := by
  obtain ⟨n, r, rfl, h2, h3, h4, h5, h6, h7, h8⟩ := h
  have hu := p2pos r
  have k : 4503599627370496 * (2 : Rat) ^ r ≤ x := by
    rcases h8 with q | q | q
    · subst q
      have e1 : (2 : Rat) ^ (-1022 : Int) = 4503599627370496 * (2 : Rat) ^ (-1074 : Int) := by
        rw [show (-1022 : Int) = 52 + -1074 from rfl, p2add, show (2 : Rat) ^ (52 : Int) = 4503599627370496 by decide +kernel]
      have e2 : (2 : Rat) ^ (-1022 : Int) ≤ (2 : Rat) ^ (-100 : Int) := p2le (by decide)
      have e3 : (2 : Rat) ^ (-100 : Int) * (2 : Rat) ^ (100 : Int) = 1 := by rw [← p2add]; rfl
      have e4 : (2 : Rat) ^ (100 : Int) = 1267650600228229401496703205376 := by decide +kernel
      rw [e4] at e3
      rw [← e1]
      generalize (2 : Rat) ^ (-1022 : Int) = v at *
      generalize (2 : Rat) ^ (-100 : Int) = w at *
      grind
    · exact q
    · generalize (2 : Rat) ^ r = u at *
      grind
  generalize (2 : Rat) ^ r = u at *
  constructor <;> grind
/-- the error, of whatever size: relative, or below 2^-53 -/
theorem err_any {x : Rat} (h1 : -1267650600228229401496703205376 ≤ x) (h2 : x ≤ 1267650600228229401496703205376) (t : Rat) (t1 : x ≤ t) (t2 : -x ≤ t) : 9007199254740992 * (RR x - x) ≤ t + 1 ∧ 9007199254740992 * (x - RR x) ≤ t + 1 := by
  have h := RR_spec h1 h2
  generalize RR x = y at *
  obtain ⟨n, r, rfl, g2, g3, g4, g5, g6, g7, g8⟩ := h
  have hu := p2pos r
  have k : 4503599627370496 * (2 : Rat) ^ r ≤ t + 1 := by
    rcases g8 with q | q | q
    · subst q
      have e1 : (2 : Rat) ^ (-1022 : Int) = 4503599627370496 * (2 : Rat) ^ (-1074 : Int) := by
        rw [show (-1022 : Int) = 52 + -1074 from rfl, p2add, show (2 : Rat) ^ (52 : Int) = 4503599627370496 by decide +kernel]
      have e2 : (2 : Rat) ^ (-1022 : Int) ≤ (2 : Rat) ^ (0 : Int) := p2le (by decide)
      rw [Rat.zpow_zero] at e2
      rw [← e1]
      generalize (2 : Rat) ^ (-1022 : Int) = v at *
      grind
    · generalize (2 : Rat) ^ r = u at *
      grind
    · generalize (2 : Rat) ^ r = u at *
      grind
  generalize (2 : Rat) ^ r = u at *
  constructor <;> grind
theorem rp_int {n : Int} (h : n.natAbs ≤ 2 ^ 53) : Rp (n : Rat) := ⟨n, 0, by rw [Rat.zpow_zero, Rat.mul_one], h, by decide⟩
theorem rp_scale {z : Rat} (k : Int) {m : Int} (h : z = (m : Rat) * (2 : Rat) ^ k) (hm : m.natAbs ≤ 2 ^ 53) (hk : -1074 ≤ k) : Rp z := ⟨m, k, h, hm, hk⟩
theorem RR_int {n : Int} (h : n.natAbs ≤ 2 ^ 53) : RR (n : Rat) = (n : Rat) := by
  refine RR_exact (rp_int h) ?_ ?_
  · have := Rat.intCast_le_intCast.mpr (show (-9007199254740992 : Int) ≤ n by omega); grind
  · have := Rat.intCast_le_intCast.mpr (show n ≤ (9007199254740992 : Int) by omega); grind
theorem i2d_DV (n : Int32) : DV (Jvm.FP.i2d n) (n.toInt : Rat) := by
  have h := n.le_toInt
  have h' := n.toInt_lt
  have q := i2d_RR n
  rw [RR_int (by omega)] at q
  exact q
theorem l2d_DV {n : Int64} (h : n.toInt.natAbs ≤ 2 ^ 53) : DV (Jvm.FP.l2d n) (n.toInt : Rat) := by
  have q := l2d_RR n
  rw [RR_int h] at q
  exact q
/-- a written double, by its fields -/
theorem lit_DV {v : UInt64} {s : Bool} {c : Nat} {q : Int} {x : Rat} (h : val64 v = .fin s c q) (hx : ((signed s c : Int) : Rat) * (2 : Rat) ^ q = x) : DV v x := ⟨s, c, q, h, hx⟩
theorem dneg_DV {v : UInt64} {x : Rat} (h : DV v x) : DV (Jvm.FP.dneg v) (-x) := by
  obtain ⟨s, c, q, h1, rfl⟩ := h
  refine ⟨!s, c, q, by rw [Jvm.FP.val64_dneg, h1]; rfl, ?_⟩
  show ((signed (!s) c : Int) : Rat) * _ = -(((signed s c : Int) : Rat) * _)
  rw [signed_not, Rat.intCast_neg, Rat.neg_mul]
theorem DV.whole {v : UInt64} {n : Int} (h : DV v (n : Rat)) : DInt n v := by
  obtain ⟨s, c, q, h1, h2⟩ := h
  unfold DInt
  rw [h1]
  show signed s (c * 2 ^ q.toNat) = n * ((2 ^ (-q).toNat : Nat) : Int)
  refine Rat.intCast_inj.mp ?_
  have h3 : ((signed s c : Int) : Rat) * (2 : Rat) ^ q = (n : Rat) := h2
  rw [signed_mul, Rat.intCast_mul, Rat.intCast_mul, ← h3, Rat.mul_assoc, show (((2 ^ (-q).toNat : Nat) : Int) : Rat) = ((2 ^ (-q).toNat : Nat) : Rat) from rfl, show (((2 ^ q.toNat : Nat) : Int) : Rat) = ((2 ^ q.toNat : Nat) : Rat) from rfl, ← p2nat, ← p2nat, ← p2add, show q + ((-q).toNat : Int) = (q.toNat : Int) by omega]
theorem d2l_DV {v : UInt64} {n : Int64} (h : DV v (n.toInt : Rat)) : Jvm.FP.d2l v = n := d2l_int h.whole
theorem DV.cast {v : UInt64} {x y : Rat} (h : DV v x) (e : x = y) : DV v y := e ▸ h
end Jvm.OwnFl
namespace Jvm.Pilot.@@N@@
open Jvm Jvm.ClassFile Sem Op Lib Jvm.Free Jvm.Stand Jvm.LawKit Jvm.RoadKit Jvm.OwnKit Bundle Jvm.Pilot.@@N@@.Jvm.D
theorem wd {a0 : Array Value} {Z : State} {d : Jvm.Cond} (hw : ∀ d ∈ tables_1, d.before a0 Z = true) (i : Nat) (h : tables_1[i]? = some d) : d.before a0 Z = true := hw d (List.mem_of_getElem? h)
theorem d1_0 : decode prog_5_method_1_code 0 = .ok (.aload_n 0, 1) := by decide +kernel
theorem d1_1 : decode prog_5_method_1_code 1 = .ok (.invokespecial 1, 3) := by decide +kernel
theorem d1_4 : decode prog_5_method_1_code 4 = .ok (.aload_n 0, 1) := by decide +kernel
theorem d1_5 : decode prog_5_method_1_code 5 = .ok (.ldc2_w 9, 3) := by decide +kernel
theorem d1_8 : decode prog_5_method_1_code 8 = .ok (.putfield 11, 3) := by decide +kernel
theorem d1_11 : decode prog_5_method_1_code 11 = .ok (.aload_n 0, 1) := by decide +kernel
theorem d1_12 : decode prog_5_method_1_code 12 = .ok (.iload 5, 2) := by decide +kernel
theorem d1_14 : decode prog_5_method_1_code 14 = .ok (.putfield 17, 3) := by decide +kernel
theorem d1_17 : decode prog_5_method_1_code 17 = .ok (.aload_n 0, 1) := by decide +kernel
theorem d1_18 : decode prog_5_method_1_code 18 = .ok (.dload_n 1, 1) := by decide +kernel
theorem d1_19 : decode prog_5_method_1_code 19 = .ok (.dload_n 3, 1) := by decide +kernel
theorem d1_20 : decode prog_5_method_1_code 20 = .ok (.invokevirtual 21, 3) := by decide +kernel
theorem d1_23 : decode prog_5_method_1_code 23 = .ok (.aload_n 0, 1) := by decide +kernel
theorem d1_24 : decode prog_5_method_1_code 24 = .ok (.dload_n 3, 1) := by decide +kernel
theorem d1_25 : decode prog_5_method_1_code 25 = .ok (.putfield 25, 3) := by decide +kernel
theorem d1_28 : decode prog_5_method_1_code 28 = .ok (.return_, 1) := by decide +kernel
theorem d3_0 : decode prog_5_method_10_code 0 = .ok (.aload_n 0, 1) := by decide +kernel
theorem d3_1 : decode prog_5_method_10_code 1 = .ok (.dload_n 1, 1) := by decide +kernel
theorem d3_2 : decode prog_5_method_10_code 2 = .ok (.putfield 75, 3) := by decide +kernel
theorem d3_5 : decode prog_5_method_10_code 5 = .ok (.aload_n 0, 1) := by decide +kernel
theorem d3_6 : decode prog_5_method_10_code 6 = .ok (.ldc2_w 78, 3) := by decide +kernel
theorem d3_9 : decode prog_5_method_10_code 9 = .ok (.dload_n 1, 1) := by decide +kernel
theorem d3_10 : decode prog_5_method_10_code 10 = .ok (.ddiv, 1) := by decide +kernel
theorem d3_11 : decode prog_5_method_10_code 11 = .ok (.putfield 35, 3) := by decide +kernel
theorem d3_14 : decode prog_5_method_10_code 14 = .ok (.aload_n 0, 1) := by decide +kernel
theorem d3_15 : decode prog_5_method_10_code 15 = .ok (.dload_n 3, 1) := by decide +kernel
theorem d3_16 : decode prog_5_method_10_code 16 = .ok (.putfield 32, 3) := by decide +kernel
theorem d3_19 : decode prog_5_method_10_code 19 = .ok (.return_, 1) := by decide +kernel
theorem d4_0 : decode prog_5_method_3_code 0 = .ok (.aload_n 0, 1) := by decide +kernel
theorem d4_1 : decode prog_5_method_3_code 1 = .ok (.getfield 25, 3) := by decide +kernel
theorem d4_4 : decode prog_5_method_3_code 4 = .ok (.dstore_n 3, 1) := by decide +kernel
theorem d4_5 : decode prog_5_method_3_code 5 = .ok (.lload_n 1, 1) := by decide +kernel
theorem d4_6 : decode prog_5_method_3_code 6 = .ok (.aload_n 0, 1) := by decide +kernel
theorem d4_7 : decode prog_5_method_3_code 7 = .ok (.getfield 11, 3) := by decide +kernel
theorem d4_10 : decode prog_5_method_3_code 10 = .ok (.lcmp, 1) := by decide +kernel
theorem d4_11 : decode prog_5_method_3_code 11 = .ok (.ifCond .le 70, 3) := by decide +kernel
theorem d4_14 : decode prog_5_method_3_code 14 = .ok (.lload_n 1, 1) := by decide +kernel
theorem d4_15 : decode prog_5_method_3_code 15 = .ok (.aload_n 0, 1) := by decide +kernel
theorem d4_16 : decode prog_5_method_3_code 16 = .ok (.getfield 11, 3) := by decide +kernel
theorem d4_19 : decode prog_5_method_3_code 19 = .ok (.lsub, 1) := by decide +kernel
theorem d4_20 : decode prog_5_method_3_code 20 = .ok (.lstore 5, 2) := by decide +kernel
theorem d4_22 : decode prog_5_method_3_code 22 = .ok (.lload 5, 2) := by decide +kernel
theorem d4_24 : decode prog_5_method_3_code 24 = .ok (.lconst 0, 1) := by decide +kernel
theorem d4_25 : decode prog_5_method_3_code 25 = .ok (.lcmp, 1) := by decide +kernel
theorem d4_26 : decode prog_5_method_3_code 26 = .ok (.ifCond .ge 11, 3) := by decide +kernel
theorem d4_29 : decode prog_5_method_3_code 29 = .ok (.aload_n 0, 1) := by decide +kernel
theorem d4_30 : decode prog_5_method_3_code 30 = .ok (.getfield 32, 3) := by decide +kernel
theorem d4_33 : decode prog_5_method_3_code 33 = .ok (.dstore_n 3, 1) := by decide +kernel
theorem d4_34 : decode prog_5_method_3_code 34 = .ok (.goto 47, 3) := by decide +kernel
theorem d4_37 : decode prog_5_method_3_code 37 = .ok (.lload 5, 2) := by decide +kernel
theorem d4_39 : decode prog_5_method_3_code 39 = .ok (.l2d, 1) := by decide +kernel
theorem d4_40 : decode prog_5_method_3_code 40 = .ok (.aload_n 0, 1) := by decide +kernel
theorem d4_41 : decode prog_5_method_3_code 41 = .ok (.getfield 29, 3) := by decide +kernel
theorem d4_44 : decode prog_5_method_3_code 44 = .ok (.dsub, 1) := by decide +kernel
theorem d4_45 : decode prog_5_method_3_code 45 = .ok (.aload_n 0, 1) := by decide +kernel
theorem d4_46 : decode prog_5_method_3_code 46 = .ok (.getfield 35, 3) := by decide +kernel
theorem d4_49 : decode prog_5_method_3_code 49 = .ok (.ddiv, 1) := by decide +kernel
theorem d4_50 : decode prog_5_method_3_code 50 = .ok (.dstore 7, 2) := by decide +kernel
theorem d4_52 : decode prog_5_method_3_code 52 = .ok (.aload_n 0, 1) := by decide +kernel
theorem d4_53 : decode prog_5_method_3_code 53 = .ok (.getfield 25, 3) := by decide +kernel
theorem d4_56 : decode prog_5_method_3_code 56 = .ok (.dload 7, 2) := by decide +kernel
theorem d4_58 : decode prog_5_method_3_code 58 = .ok (.dadd, 1) := by decide +kernel
theorem d4_59 : decode prog_5_method_3_code 59 = .ok (.dstore 9, 2) := by decide +kernel
theorem d4_61 : decode prog_5_method_3_code 61 = .ok (.dload 9, 2) := by decide +kernel
theorem d4_63 : decode prog_5_method_3_code 63 = .ok (.aload_n 0, 1) := by decide +kernel
theorem d4_64 : decode prog_5_method_3_code 64 = .ok (.getfield 32, 3) := by decide +kernel
theorem d4_67 : decode prog_5_method_3_code 67 = .ok (.dcmp .g, 1) := by decide +kernel
theorem d4_68 : decode prog_5_method_3_code 68 = .ok (.ifCond .ge 8, 3) := by decide +kernel
theorem d4_71 : decode prog_5_method_3_code 71 = .ok (.dload 9, 2) := by decide +kernel
theorem d4_73 : decode prog_5_method_3_code 73 = .ok (.goto 7, 3) := by decide +kernel
theorem d4_76 : decode prog_5_method_3_code 76 = .ok (.aload_n 0, 1) := by decide +kernel
theorem d4_77 : decode prog_5_method_3_code 77 = .ok (.getfield 32, 3) := by decide +kernel
theorem d4_80 : decode prog_5_method_3_code 80 = .ok (.dstore_n 3, 1) := by decide +kernel
theorem d4_81 : decode prog_5_method_3_code 81 = .ok (.dload_n 3, 1) := by decide +kernel
theorem d4_82 : decode prog_5_method_3_code 82 = .ok (.dreturn, 1) := by decide +kernel
theorem d5_0 : decode jdk_29_method_70_code 0 = .ok (.lload_n 0, 1) := by decide +kernel
theorem d5_1 : decode jdk_29_method_70_code 1 = .ok (.lload_n 2, 1) := by decide +kernel
theorem d5_2 : decode jdk_29_method_70_code 2 = .ok (.lcmp, 1) := by decide +kernel
theorem d5_3 : decode jdk_29_method_70_code 3 = .ok (.ifCond .gt 7, 3) := by decide +kernel
theorem d5_6 : decode jdk_29_method_70_code 6 = .ok (.lload_n 0, 1) := by decide +kernel
theorem d5_7 : decode jdk_29_method_70_code 7 = .ok (.goto 4, 3) := by decide +kernel
theorem d5_10 : decode jdk_29_method_70_code 10 = .ok (.lload_n 2, 1) := by decide +kernel
theorem d5_11 : decode jdk_29_method_70_code 11 = .ok (.lreturn, 1) := by decide +kernel
theorem pd_0 : parseMethodDescriptor "(DD)V" = some ⟨[.double, .double], none⟩ := by decide +kernel
theorem pd_1 : parseMethodDescriptor "(DDZ)V" = some ⟨[.double, .double, .boolean], none⟩ := by decide +kernel
theorem pd_2 : parseMethodDescriptor "(J)D" = some ⟨[.long], some .double⟩ := by decide +kernel
theorem pd_3 : parseMethodDescriptor "(JJ)J" = some ⟨[.long, .long], some .long⟩ := by decide +kernel
section OwnPlain
open Jvm.OwnFl
theorem own_8 : DV 4620693217682128896 8 := lit_DV (s := false) (c := 2 ^ 52) (q := -49) (by decide +kernel) (by decide +kernel)
theorem own_4 : DV 4616189618054758400 4 := lit_DV (s := false) (c := 2 ^ 52) (q := -50) (by decide +kernel) (by decide +kernel)
def OwnSaved (A B : Int64) (sp mx iv ff r : UInt64) : Prop := (¬ A < B ∧ r = sp) ∨ (A < B ∧ B - A < 0 ∧ r = mx) ∨ (A < B ∧ ¬ (B - A < 0) ∧ ∃ x y z, FP.dsub (FP.l2d (B - A)) ff = x ∧ FP.ddiv x iv = y ∧ FP.dadd sp y = z ∧ Jvm.Free.Fl.NoNaN64 x ∧ Jvm.Free.Fl.NoNaN64 y ∧ Jvm.Free.Fl.NoNaN64 z ∧ ((FP.dcmp z mx = some .lt ∧ r = z) ∨ ((FP.dcmp z mx = some .gt ∨ FP.dcmp z mx = some .eq) ∧ r = mx)))
theorem own_lmul {x y v : Int64} {a b : Int} (q : x * y = v) (hx : x.toInt = a) (hy : y.toInt = b) (h1 : -9223372036854775808 ≤ a * b) (h2 : a * b < 9223372036854775808) : v.toInt = a * b := by
  subst q hx hy
  have h := c_lmul x y
  have g := rng64 (x * y)
  generalize x.toInt * y.toInt = p at *
  omega
theorem own_ladd {x y v : Int64} {a b : Int} (q : x + y = v) (hx : x.toInt = a) (hy : y.toInt = b) (h1 : -9223372036854775808 ≤ a + b) (h2 : a + b < 9223372036854775808) : v.toInt = a + b := by
  subst q hx hy
  have h := c_ladd x y
  have g := rng64 (x + y)
  omega
theorem own_lsub {x y v : Int64} {a b : Int} (q : x - y = v) (hx : x.toInt = a) (hy : y.toInt = b) (h1 : -9223372036854775808 ≤ a - b) (h2 : a - b < 9223372036854775808) : v.toInt = a - b := by
  subst q hx hy
  have h := c_lsub x y
  have g := rng64 (x - y)
  omega
theorem own_imul {x y v : Int32} {a b : Int} (q : x * y = v) (hx : x.toInt = a) (hy : y.toInt = b) (h1 : -2147483648 ≤ a * b) (h2 : a * b < 2147483648) : v.toInt = a * b := by
  subst q hx hy
  have h := c_imul x y
  have g := rng32 (x * y)
  generalize x.toInt * y.toInt = p at *
  omega
theorem own_ic {a b : Int} (h : a ≤ b) : (a : Rat) ≤ (b : Rat) := Rat.intCast_le_intCast.mpr h
theorem own_gain {ff iv sp mx : UInt64} {f S M d k : Int} {I : Rat} (q : Int64) (hq : q.toInt = d) (hff : DV ff ((f : Rat) * (1 / 4))) (hiv : DV iv I) (hI : I * (k : Rat) = 2) (hk : k = 8 ∨ k = 4 ∨ k = 2 ∨ k = 1) (hsp : DV sp (S : Rat)) (hmx : DV mx (M : Rat)) (f0 : 0 ≤ f) (f1 : f ≤ 3) (S0 : 0 ≤ S) (S1 : S ≤ 65535) (M0 : 0 ≤ M) (M1 : M ≤ 65535) (d0 : 1 ≤ d) :
    ∃ x y z r, FP.dsub (FP.l2d q) ff = x ∧ FP.ddiv x iv = y ∧ FP.dadd sp y = z ∧ Jvm.Free.Fl.NoNaN64 x ∧ Jvm.Free.Fl.NoNaN64 y ∧ Jvm.Free.Fl.NoNaN64 z ∧ ((FP.dcmp z mx = some .lt ∧ r = z) ∨ ((FP.dcmp z mx = some .gt ∨ FP.dcmp z mx = some .eq) ∧ r = mx)) ∧ (d < 1048576 → DV r (((min (8 * S + (4 * d - f) * k) (8 * M) : Int) : Rat) * (1 / 8))) ∧ (1048576 ≤ d → r = mx) := by
  have dq := rng64 q
  have F0 : (0 : Rat) ≤ (f : Rat) := by have := own_ic f0; simpa using this
  have F1 : (f : Rat) ≤ 3 := by have := own_ic f1; simpa using this
  have T0 : (0 : Rat) ≤ (S : Rat) := by have := own_ic S0; simpa using this
  have T1 : (S : Rat) ≤ 65535 := by have := own_ic S1; simpa using this
  have N0 : (0 : Rat) ≤ (M : Rat) := by have := own_ic M0; simpa using this
  have N1 : (M : Rat) ≤ 65535 := by have := own_ic M1; simpa using this
  have D0 : (1 : Rat) ≤ (d : Rat) := by have := own_ic d0; simpa using this
  have D1 : (d : Rat) ≤ 9223372036854775808 := by have := own_ic (show d ≤ 9223372036854775808 by omega); simpa using this
  have hI0 : I ≠ 0 := by
    intro g
    rw [g, Rat.zero_mul] at hI
    exact absurd hI (by decide)
  have hinv : ∀ x : Rat, x / I = x * ((k : Rat) / 2) := by
    intro x
    have e := Rat.mul_inv_cancel I hI0
    have e2 : (2 : Rat) * (2 : Rat)⁻¹ = 1 := by decide +kernel
    have : I⁻¹ = (k : Rat) * (2 : Rat)⁻¹ := by
      generalize I⁻¹ = J at *
      generalize (2 : Rat)⁻¹ = w at *
      generalize (k : Rat) = K at *
      have a1 : J * (I * K) = J * 2 := by rw [hI]
      have a2 : J * (I * K) = K := by rw [← Rat.mul_assoc, Rat.mul_comm J I, e, Rat.one_mul]
      have a3 : K * w = J * (2 * w) := by rw [← a2, a1, Rat.mul_assoc]
      rw [a3, e2, Rat.mul_one]
    rw [Rat.div_def, Rat.div_def, this]
  have cb : (1 / 2 : Rat) ≤ (k : Rat) / 2 ∧ (k : Rat) / 2 ≤ 4 := by rcases hk with rfl | rfl | rfl | rfl <;> decide +kernel
  have ce : (k : Rat) / 2 = (k : Rat) * (1 / 2) := by rw [Rat.div_def, Rat.div_def, Rat.one_mul]
  obtain ⟨c, hc⟩ : ∃ c : Rat, (k : Rat) / 2 = c := ⟨_, rfl⟩
  rw [hc] at cb hinv ce
  obtain ⟨c1, c2⟩ := cb
  have dl := l2d_RR q
  rw [hq] at dl
  have sd := RR_spec (x := (d : Rat)) (by grind) (by grind)
  have r1 : 1 ≤ RR (d : Rat) := sd.ge (rp_int (n := 1) (by decide)) D0
  have r2 : RR (d : Rat) ≤ 9223372036854775808 := sd.le ⟨1, 63, by decide +kernel, by decide, by decide⟩ D1
  obtain ⟨x, hx⟩ : ∃ z, FP.dsub (FP.l2d q) ff = z := ⟨_, rfl⟩
  have Dx := dsub_DV dl hff (by grind) (by grind)
  rw [hx] at Dx
  have sx := RR_spec (x := RR (d : Rat) - (f : Rat) * (1 / 4)) (by grind) (by grind)
  have x1 := sx.ge (z := 1 / 4) ⟨1, -2, by decide +kernel, by decide, by decide⟩ (by grind)
  have x2 := sx.le (z := 9223372036854775808) ⟨1, 63, by decide +kernel, by decide, by decide⟩ (by grind)
  obtain ⟨X, hX⟩ : ∃ z, RR (RR (d : Rat) - (f : Rat) * (1 / 4)) = z := ⟨_, rfl⟩
  rw [hX] at Dx sx x1 x2
  have m1 : X * (1 / 2) ≤ X * c := Rat.mul_le_mul_of_nonneg_left c1 (by grind)
  have m2 : X * c ≤ X * 4 := Rat.mul_le_mul_of_nonneg_left c2 (by grind)
  obtain ⟨y, hy⟩ : ∃ z, FP.ddiv x iv = z := ⟨_, rfl⟩
  have Dy := ddiv_DV Dx hiv hI0 (by rw [hinv]; grind) (by rw [hinv]; grind)
  rw [hy, hinv] at Dy
  have sy := RR_spec (x := X * c) (by grind) (by grind)
  have y1 := sy.ge (z := 1 / 8) ⟨1, -3, by decide +kernel, by decide, by decide⟩ (by grind)
  have y2 := sy.le (z := 36893488147419103232) ⟨1, 65, by decide +kernel, by decide, by decide⟩ (by grind)
  obtain ⟨Y, hY⟩ : ∃ z, RR (X * c) = z := ⟨_, rfl⟩
  rw [hY] at Dy sy y1 y2
  obtain ⟨z, hz⟩ : ∃ z, FP.dadd sp y = z := ⟨_, rfl⟩
  have Dz := dadd_DV hsp Dy (by grind) (by grind)
  rw [hz] at Dz
  have sz := RR_spec (x := (S : Rat) + Y) (by grind) (by grind)
  obtain ⟨Z, hZ⟩ : ∃ z, RR ((S : Rat) + Y) = z := ⟨_, rfl⟩
  rw [hZ] at Dz sz
  have big : 1048576 ≤ d → 65536 ≤ Z := by
    intro g
    have G : (1048576 : Rat) ≤ (d : Rat) := by have := own_ic g; simpa using this
    have g1 : (1048576 : Rat) ≤ RR (d : Rat) := sd.ge (rp_int (n := 1048576) (by decide)) G
    have g2 := sx.ge (z := 1048575) (rp_int (n := 1048575) (by decide)) (by grind)
    have g3 := sy.ge (z := 262144) (rp_int (n := 262144) (by decide)) (by grind)
    exact sz.ge (z := 65536) (rp_int (n := 65536) (by decide)) (by grind)
  have small : d < 1048576 → Z = ((8 * S + (4 * d - f) * k : Int) : Rat) * (1 / 8) := by
    intro g
    have b : 0 ≤ (4 * d - f) * k ∧ (4 * d - f) * k ≤ 33554432 := by rcases hk with rfl | rfl | rfl | rfl <;> omega
    have e1 : RR (d : Rat) = (d : Rat) := RR_int (by omega)
    have c1 : ((4 * d - f : Int) : Rat) = 4 * (d : Rat) - (f : Rat) := by rw [Rat.intCast_sub, Rat.intCast_mul]; rfl
    have e2 : X = ((4 * d - f : Int) : Rat) * (1 / 4) := by
      rw [← hX, e1, show (d : Rat) - (f : Rat) * (1 / 4) = ((4 * d - f : Int) : Rat) * (1 / 4) by rw [c1]; grind]
      exact RR_exact ⟨4 * d - f, -2, by congr 1 <;> decide +kernel, by omega, by decide⟩ (by rw [c1]; grind) (by rw [c1]; grind)
    have e3 : X * c = (((4 * d - f) * k : Int) : Rat) * (1 / 8) := by rw [e2, ce, Rat.intCast_mul]; grind
    have B1 : (0 : Rat) ≤ (((4 * d - f) * k : Int) : Rat) := by have := own_ic b.1; simpa using this
    have B2 : (((4 * d - f) * k : Int) : Rat) ≤ 33554432 := by have := own_ic b.2; simpa using this
    have e4 : Y = (((4 * d - f) * k : Int) : Rat) * (1 / 8) := by
      rw [← hY, e3]
      exact RR_exact ⟨(4 * d - f) * k, -3, by congr 1 <;> decide +kernel, by omega, by decide⟩ (by grind) (by grind)
    generalize hn : (4 * d - f) * k = n at *
    have c2 : ((8 * S + n : Int) : Rat) = 8 * (S : Rat) + (n : Rat) := by rw [Rat.intCast_add, Rat.intCast_mul]; rfl
    rw [← hZ, e4, show (S : Rat) + (n : Rat) * (1 / 8) = ((8 * S + n : Int) : Rat) * (1 / 8) by rw [c2]; grind]
    exact RR_exact ⟨8 * S + n, -3, by congr 1 <;> decide +kernel, by omega, by decide⟩ (by rw [c2]; grind) (by rw [c2]; grind)
  have eM : (M : Rat) = ((8 * M : Int) : Rat) * (1 / 8) := by rw [Rat.intCast_mul, show ((8 : Int) : Rat) = 8 from rfl]; grind
  have cmp : ∀ A B : Int, (A : Rat) * (1 / 8) < (B : Rat) * (1 / 8) ↔ A < B := fun A B => by
    rw [← Rat.intCast_lt_intCast]
    constructor <;> intro g <;> grind
  by_cases g : Z < (M : Rat)
  · refine ⟨x, y, z, z, hx, hy, hz, Dx.noNaN, Dy.noNaN, Dz.noNaN, Or.inl ⟨dcmp_lt Dz hmx g, rfl⟩, fun h => ?_, fun h => ?_⟩
    · have e := small h
      rw [e, eM, cmp] at g
      rw [Int.min_eq_left (Int.le_of_lt g), ← e]
      exact Dz
    · have := big h
      grind
  · refine ⟨x, y, z, mx, hx, hy, hz, Dx.noNaN, Dy.noNaN, Dz.noNaN, Or.inr ⟨dcmp_ge Dz hmx (Rat.not_lt.mp g), rfl⟩, fun h => ?_, fun h => rfl⟩
    have e := small h
    rw [e, eM, cmp] at g
    rw [Int.min_eq_right (by omega), ← eM]
    exact hmx
theorem own_frac4 (n : Int32) (h0 : 0 ≤ n.toInt) (h1 : n.toInt ≤ 3) : DV (FP.ddiv (FP.i2d n) 4616189618054758400) ((n.toInt : Rat) * (1 / 4)) := by
  have e : (n.toInt : Rat) / 4 = (n.toInt : Rat) * (1 / 4) := by rw [Rat.div_def, Rat.div_def, Rat.one_mul]
  have b1 : (0 : Rat) ≤ (n.toInt : Rat) := by have := own_ic h0; simpa using this
  have b2 : (n.toInt : Rat) ≤ 3 := by have := own_ic h1; simpa using this
  have q := ddiv_DV (OwnFl.i2d_DV n) own_4 (by decide) (by rw [e]; grind) (by rw [e]; grind)
  rw [e] at q
  rwa [RR_exact ⟨n.toInt, -2, by congr 1 <;> decide +kernel, by omega, by decide⟩ (by grind) (by grind)] at q
theorem own_last {r : UInt64} {E : Int} (h : DV r ((E : Rat) * (1 / 8))) (h0 : 0 ≤ E) (h1 : E ≤ 1048576) : DV (FP.dmul r 4620693217682128896) (E : Rat) := by
  have b1 : (0 : Rat) ≤ (E : Rat) := by have := own_ic h0; simpa using this
  have b2 : (E : Rat) ≤ 1048576 := by have := own_ic h1; simpa using this
  have e : (E : Rat) * (1 / 8) * 8 = (E : Rat) := by grind
  have q := dmul_DV h own_8 (by rw [e]; grind) (by rw [e]; grind)
  rw [e] at q
  rwa [RR_int (by omega)] at q
theorem own_eight {r : UInt64} {E : Int} (h : DV r (E : Rat)) : DV r (((8 * E : Int) : Rat) * (1 / 8)) := h.cast (by rw [Rat.intCast_mul, show ((8 : Int) : Rat) = 8 from rfl]; grind)
theorem own_rate (v3 : Int32) (rt : UInt64) (h : (v3 = 0 ∧ rt = 4750679015621132288) ∨ (v3 = 1 ∧ rt = 4746175415993761792) ∨ (v3 = 2 ∧ rt = 4741671816366391296) ∨ ((¬ v3 = 0 ∧ ¬ v3 = 1 ∧ ¬ v3 = 2) ∧ rt = 4737168216739020800)) :
    ∃ (iv : UInt64) (I : Rat) (k : Int), FP.ddiv 4741671816366391296 rt = iv ∧ DV iv I ∧ I * (k : Rat) = 2 ∧ (k = 8 ∨ k = 4 ∨ k = 2 ∨ k = 1) ∧ ((v3 = 0 ∧ k = 8) ∨ (v3 = 1 ∧ k = 4) ∨ (v3 = 2 ∧ k = 2) ∨ ((¬ v3 = 0 ∧ ¬ v3 = 1 ∧ ¬ v3 = 2) ∧ k = 1)) := by
  rcases h with ⟨a, rfl⟩ | ⟨a, rfl⟩ | ⟨a, rfl⟩ | ⟨a, rfl⟩
  · exact ⟨_, 1 / 4, 8, rfl, lit_DV (s := false) (c := 2 ^ 52) (q := -54) (by decide +kernel) (by decide +kernel), by decide +kernel, by decide, Or.inl ⟨a, rfl⟩⟩
  · exact ⟨_, 1 / 2, 4, rfl, lit_DV (s := false) (c := 2 ^ 52) (q := -53) (by decide +kernel) (by decide +kernel), by decide +kernel, by decide, Or.inr (Or.inl ⟨a, rfl⟩)⟩
  · exact ⟨_, 1, 2, rfl, lit_DV (s := false) (c := 2 ^ 52) (q := -52) (by decide +kernel) (by decide +kernel), by decide +kernel, by decide, Or.inr (Or.inr (Or.inl ⟨a, rfl⟩))⟩
  · exact ⟨_, 2, 1, rfl, lit_DV (s := false) (c := 2 ^ 52) (q := -51) (by decide +kernel) (by decide +kernel), by decide +kernel, by decide, Or.inr (Or.inr (Or.inr ⟨a, rfl⟩))⟩
theorem own_min (x y : Int64) : ∃ r : Int64, ((¬ y < x ∧ r = x) ∨ (y < x ∧ r = y)) ∧ r.toInt = min x.toInt y.toInt := by
  by_cases g : y < x
  · exact ⟨y, Or.inr ⟨g, rfl⟩, (Int.min_eq_right (Int.le_of_lt (Int64.lt_iff_toInt_lt.mp g))).symm⟩
  · exact ⟨x, Or.inl ⟨g, rfl⟩, (Int.min_eq_left (Int.not_lt.mp fun q => g (Int64.lt_iff_toInt_lt.mpr q))).symm⟩
end OwnPlain
def Q_rmA (Z : State) (a : Addr) (r mx : UInt64) (u_nextFreeNanos : Int64) (u_warmUp : Int32) (u_rate : UInt64) (u_stableIntervalNanos : UInt64) (u_maxSavedUpPermits : UInt64) (u_savedUpPermits : UInt64) (u_nextFreeFraction : UInt64) (h0 : Heap) (n0 : Nat) (v : Option Value) (h : Heap) (L : List Loc) : Prop := v = none ∧ Fr n0 L ∧ Keep h0 h [a] ∧ Exa Z h a "com/example/schleuse/schleuse/LimiterState" ∧ Fld Z h a "com/example/schleuse/schleuse/LimiterState" "nextFreeNanos" "J" (.long u_nextFreeNanos) ∧ Fld Z h a "com/example/schleuse/schleuse/LimiterState" "warmUp" "Z" (.int u_warmUp) ∧ Fld Z h a "com/example/schleuse/schleuse/LimiterState" "rate" "D" (.double r) ∧ Fld Z h a "com/example/schleuse/schleuse/LimiterState" "stableIntervalNanos" "D" (.double (FP.ddiv (4741671816366391296 : UInt64) r)) ∧ Fld Z h a "com/example/schleuse/schleuse/LimiterState" "maxSavedUpPermits" "D" (.double mx) ∧ Fld Z h a "com/example/schleuse/schleuse/LimiterState" "savedUpPermits" "D" (.double u_savedUpPermits) ∧ Fld Z h a "com/example/schleuse/schleuse/LimiterState" "nextFreeFraction" "D" (.double u_nextFreeFraction)
set_option maxRecDepth 65536 in
set_option maxHeartbeats 40000000 in
theorem rmA (l : Launch) (Z : State) (a0 : Array Value) (hw : ∀ d ∈ tables_1, d.before a0 Z = true) (ws : List Jvm.Cond) (a : Addr) (r mx : UInt64) (u_nextFreeNanos : Int64) (u_warmUp : Int32) (u_rate : UInt64) (u_stableIntervalNanos : UInt64) (u_maxSavedUpPermits : UInt64) (u_savedUpPermits : UInt64) (u_nextFreeFraction : UInt64) (h0 : Heap) (n0 : Nat) (Zs : n0 ≤ h0.size) (ga : n0 ≤ a) (hn : Jvm.Free.Fl.NoNaN64 (FP.ddiv (4741671816366391296 : UInt64) r)) (Ex_a : Exa Z h0 a "com/example/schleuse/schleuse/LimiterState") (F_nextFreeNanos_a : Fld Z h0 a "com/example/schleuse/schleuse/LimiterState" "nextFreeNanos" "J" (.long u_nextFreeNanos)) (F_warmUp_a : Fld Z h0 a "com/example/schleuse/schleuse/LimiterState" "warmUp" "Z" (.int u_warmUp)) (F_rate_a : Fld Z h0 a "com/example/schleuse/schleuse/LimiterState" "rate" "D" (.double u_rate)) (F_stableIntervalNanos_a : Fld Z h0 a "com/example/schleuse/schleuse/LimiterState" "stableIntervalNanos" "D" (.double u_stableIntervalNanos)) (F_maxSavedUpPermits_a : Fld Z h0 a "com/example/schleuse/schleuse/LimiterState" "maxSavedUpPermits" "D" (.double u_maxSavedUpPermits)) (F_savedUpPermits_a : Fld Z h0 a "com/example/schleuse/schleuse/LimiterState" "savedUpPermits" "D" (.double u_savedUpPermits)) (F_nextFreeFraction_a : Fld Z h0 a "com/example/schleuse/schleuse/LimiterState" "nextFreeFraction" "D" (.double u_nextFreeFraction)) :
    Con l (⟨"com/example/schleuse/schleuse/LimiterState", "applyRate", "(DD)V"⟩ : MethodName) prog_5_method_10_code 5 none ws ({ frames := 0, cells := 0, slots := 0, locals := 0 } : Room) Z #[(.ref a), (.double r), (.double mx)] h0 ({ frames := 0, cells := 0, slots := 0, locals := 0 } : Room).cells ({ frames := 0, cells := 0, slots := 0, locals := 0 } : Room).slots (Q_rmA Z a r mx u_nextFreeNanos u_warmUp u_rate u_stableIntervalNanos u_maxSavedUpPermits u_savedUpPermits u_nextFreeFraction h0 n0) := by
  refine Con.of (Ls := #[.val (.ref a), .val (.double r), .second, .val (.double mx), .second]) (plainFor_of_name (by first | (simp [plainName, overriddenIn]; done) | decide +kernel)) (fun m => by first | (simp [entryFrame, mkF, argsToLocals, Value.category]; done) | rfl) ?_
  intro p e s m below meth c s₁ G hGe hG hx hby hml hown hnm hrt hlk hZ X0 e0
  have hown : s.vm.findClass "com/example/schleuse/schleuse/LimiterState" = some m.cls := hown
  have hnm : meth.name = "applyRate" := hnm
  have NF0 := Fr.nil n0
  have K0 := Keep.refl h0 [a]
  refine g_aloadN hG X0 hx (hb hby d3_0) (pc' := 1) rfl rfl rfl ?_
  show G (s₁.setTop (mkF m 1 #[.val (.ref a), .val (.double r), .second, .val (.double mx), .second] [(.ref a)]))
  refine g_dloadN hG X0 hx (hb hby d3_1) (pc' := 2) rfl rfl ?_
  show G (s₁.setTop (mkF m 2 #[.val (.ref a), .val (.double r), .second, .val (.double mx), .second] [(.double r), (.ref a)]))
  refine g_putF hG X0 hx hZ hown (wd hw 20 rfl) Via.refl e0 F_rate_a Ex_a (Or.inl (wd hw 21 rfl)) (wd hw 3 rfl) (v' := (.double r)) (ty := .double) (by decide) rfl rfl (hb hby d3_2) (pc' := 5) rfl ?_
  intro T1 h1 X1 e1 W1
  have Ex_a := Ex_a.wr W1
  have F_nextFreeNanos_a := F_nextFreeNanos_a.other W1 (Or.inr (slot_ne (Or.inl (wd hw 13 rfl)) (Or.inl (wd hw 21 rfl)) (by decide) (t := .long) (t' := .double) (by decide) (by decide)))
  have F_warmUp_a := F_warmUp_a.other W1 (Or.inr (slot_ne (Or.inr (wd hw 15 rfl)) (Or.inl (wd hw 21 rfl)) (by decide) (t := .boolean) (t' := .double) (by decide) (by decide)))
  have F_rate_a := F_rate_a.same W1
  have F_stableIntervalNanos_a := F_stableIntervalNanos_a.other W1 (Or.inr (slot_ne (Or.inl (wd hw 24 rfl)) (Or.inl (wd hw 21 rfl)) (by decide) (t := .double) (t' := .double) (by decide) (by decide)))
  have F_maxSavedUpPermits_a := F_maxSavedUpPermits_a.other W1 (Or.inr (slot_ne (Or.inl (wd hw 26 rfl)) (Or.inl (wd hw 21 rfl)) (by decide) (t := .double) (t' := .double) (by decide) (by decide)))
  have F_savedUpPermits_a := F_savedUpPermits_a.other W1 (Or.inr (slot_ne (Or.inl (wd hw 28 rfl)) (Or.inl (wd hw 21 rfl)) (by decide) (t := .double) (t' := .double) (by decide) (by decide)))
  have F_nextFreeFraction_a := F_nextFreeFraction_a.other W1 (Or.inr (slot_ne (Or.inl (wd hw 33 rfl)) (Or.inl (wd hw 21 rfl)) (by decide) (t := .double) (t' := .double) (by decide) (by decide)))
  have Zs := Nat.le_trans Zs (Wr.size W1)
  have NF1 := Fr.snoc X1 NF0 ga
  have K1 := K0.wr W1 (Or.inl (List.mem_of_getElem? (i := 0) rfl))
  show G (T1.setTop (mkF m 5 #[.val (.ref a), .val (.double r), .second, .val (.double mx), .second] []))
  refine g_aloadN hG X1 hx (hb hby d3_5) (pc' := 6) rfl rfl rfl ?_
  show G (T1.setTop (mkF m 6 #[.val (.ref a), .val (.double r), .second, .val (.double mx), .second] [(.ref a)]))
  refine g_ldcDouble hG X1 hx hZ hown (wd hw 22 rfl) (hb hby d3_6) (pc' := 9) rfl ?_
  show G (T1.setTop (mkF m 9 #[.val (.ref a), .val (.double r), .second, .val (.double mx), .second] [(.double 4741671816366391296), (.ref a)]))
  refine g_dloadN hG X1 hx (hb hby d3_9) (pc' := 10) rfl rfl ?_
  show G (T1.setTop (mkF m 10 #[.val (.ref a), .val (.double r), .second, .val (.double mx), .second] [(.double r), (.double 4741671816366391296), (.ref a)]))
  obtain ⟨v10, q10⟩ : ∃ zz : UInt64, FP.ddiv (4741671816366391296 : UInt64) r = zz := ⟨_, rfl⟩
  refine g_ddiv hG X1 hx (hb hby d3_10) (pc' := 11) rfl hn q10 ?_
  show G (T1.setTop (mkF m 11 #[.val (.ref a), .val (.double r), .second, .val (.double mx), .second] [(.double v10), (.ref a)]))
  refine g_putF hG X1 hx hZ hown (wd hw 23 rfl) Via.refl e1 F_stableIntervalNanos_a Ex_a (Or.inl (wd hw 24 rfl)) (wd hw 3 rfl) (v' := (.double v10)) (ty := .double) (by decide) rfl rfl (hb hby d3_11) (pc' := 14) rfl ?_
  intro T2 h2 X2 e2 W2
  have Ex_a := Ex_a.wr W2
  have F_nextFreeNanos_a := F_nextFreeNanos_a.other W2 (Or.inr (slot_ne (Or.inl (wd hw 13 rfl)) (Or.inl (wd hw 24 rfl)) (by decide) (t := .long) (t' := .double) (by decide) (by decide)))
  have F_warmUp_a := F_warmUp_a.other W2 (Or.inr (slot_ne (Or.inr (wd hw 15 rfl)) (Or.inl (wd hw 24 rfl)) (by decide) (t := .boolean) (t' := .double) (by decide) (by decide)))
  have F_rate_a := F_rate_a.other W2 (Or.inr (slot_ne (Or.inl (wd hw 21 rfl)) (Or.inl (wd hw 24 rfl)) (by decide) (t := .double) (t' := .double) (by decide) (by decide)))
  have F_stableIntervalNanos_a := F_stableIntervalNanos_a.same W2
  have F_maxSavedUpPermits_a := F_maxSavedUpPermits_a.other W2 (Or.inr (slot_ne (Or.inl (wd hw 26 rfl)) (Or.inl (wd hw 24 rfl)) (by decide) (t := .double) (t' := .double) (by decide) (by decide)))
  have F_savedUpPermits_a := F_savedUpPermits_a.other W2 (Or.inr (slot_ne (Or.inl (wd hw 28 rfl)) (Or.inl (wd hw 24 rfl)) (by decide) (t := .double) (t' := .double) (by decide) (by decide)))
  have F_nextFreeFraction_a := F_nextFreeFraction_a.other W2 (Or.inr (slot_ne (Or.inl (wd hw 33 rfl)) (Or.inl (wd hw 24 rfl)) (by decide) (t := .double) (t' := .double) (by decide) (by decide)))
  have Zs := Nat.le_trans Zs (Wr.size W2)
  have NF2 := Fr.snoc X2 NF1 ga
  have K2 := K1.wr W2 (Or.inl (List.mem_of_getElem? (i := 0) rfl))
  show G (T2.setTop (mkF m 14 #[.val (.ref a), .val (.double r), .second, .val (.double mx), .second] []))
  refine g_aloadN hG X2 hx (hb hby d3_14) (pc' := 15) rfl rfl rfl ?_
  show G (T2.setTop (mkF m 15 #[.val (.ref a), .val (.double r), .second, .val (.double mx), .second] [(.ref a)]))
  refine g_dloadN hG X2 hx (hb hby d3_15) (pc' := 16) rfl rfl ?_
  show G (T2.setTop (mkF m 16 #[.val (.ref a), .val (.double r), .second, .val (.double mx), .second] [(.double mx), (.ref a)]))
  refine g_putF hG X2 hx hZ hown (wd hw 25 rfl) Via.refl e2 F_maxSavedUpPermits_a Ex_a (Or.inl (wd hw 26 rfl)) (wd hw 3 rfl) (v' := (.double mx)) (ty := .double) (by decide) rfl rfl (hb hby d3_16) (pc' := 19) rfl ?_
  intro T3 h3 X3 e3 W3
  have Ex_a := Ex_a.wr W3
  have F_nextFreeNanos_a := F_nextFreeNanos_a.other W3 (Or.inr (slot_ne (Or.inl (wd hw 13 rfl)) (Or.inl (wd hw 26 rfl)) (by decide) (t := .long) (t' := .double) (by decide) (by decide)))
  have F_warmUp_a := F_warmUp_a.other W3 (Or.inr (slot_ne (Or.inr (wd hw 15 rfl)) (Or.inl (wd hw 26 rfl)) (by decide) (t := .boolean) (t' := .double) (by decide) (by decide)))
  have F_rate_a := F_rate_a.other W3 (Or.inr (slot_ne (Or.inl (wd hw 21 rfl)) (Or.inl (wd hw 26 rfl)) (by decide) (t := .double) (t' := .double) (by decide) (by decide)))
  have F_stableIntervalNanos_a := F_stableIntervalNanos_a.other W3 (Or.inr (slot_ne (Or.inl (wd hw 24 rfl)) (Or.inl (wd hw 26 rfl)) (by decide) (t := .double) (t' := .double) (by decide) (by decide)))
  have F_maxSavedUpPermits_a := F_maxSavedUpPermits_a.same W3
  have F_savedUpPermits_a := F_savedUpPermits_a.other W3 (Or.inr (slot_ne (Or.inl (wd hw 28 rfl)) (Or.inl (wd hw 26 rfl)) (by decide) (t := .double) (t' := .double) (by decide) (by decide)))
  have F_nextFreeFraction_a := F_nextFreeFraction_a.other W3 (Or.inr (slot_ne (Or.inl (wd hw 33 rfl)) (Or.inl (wd hw 26 rfl)) (by decide) (t := .double) (t' := .double) (by decide) (by decide)))
  have Zs := Nat.le_trans Zs (Wr.size W3)
  have NF3 := Fr.snoc X3 NF2 ga
  have K3 := K2.wr W3 (Or.inl (List.mem_of_getElem? (i := 0) rfl))
  show G (T3.setTop (mkF m 19 #[.val (.ref a), .val (.double r), .second, .val (.double mx), .second] []))
  subst q10
  exact e_ret0 hGe X3 hx hrt hlk (hb hby d3_19) e3 (by decide) (by decide) (⟨rfl, NF3, K3, Ex_a, F_nextFreeNanos_a, F_warmUp_a, F_rate_a, F_stableIntervalNanos_a, F_maxSavedUpPermits_a, F_savedUpPermits_a, F_nextFreeFraction_a⟩)

def Q_rmI (Z : State) (a : Addr) (r mx : UInt64) (wu : Int32) (h0 : Heap) (n0 : Nat) (v : Option Value) (h : Heap) (L : List Loc) : Prop := v = none ∧ Fr n0 L ∧ Keep h0 h [a] ∧ Exa Z h a "com/example/schleuse/schleuse/LimiterState" ∧ Fld Z h a "com/example/schleuse/schleuse/LimiterState" "nextFreeNanos" "J" (.long (-9223372036854775808 : Int64)) ∧ Fld Z h a "com/example/schleuse/schleuse/LimiterState" "warmUp" "Z" (.int wu) ∧ Fld Z h a "com/example/schleuse/schleuse/LimiterState" "rate" "D" (.double r) ∧ Fld Z h a "com/example/schleuse/schleuse/LimiterState" "stableIntervalNanos" "D" (.double (FP.ddiv (4741671816366391296 : UInt64) r)) ∧ Fld Z h a "com/example/schleuse/schleuse/LimiterState" "maxSavedUpPermits" "D" (.double mx) ∧ Fld Z h a "com/example/schleuse/schleuse/LimiterState" "savedUpPermits" "D" (.double mx) ∧ Fld Z h a "com/example/schleuse/schleuse/LimiterState" "nextFreeFraction" "D" (.double (0 : UInt64))
set_option maxRecDepth 65536 in
set_option maxHeartbeats 40000000 in
theorem rmI (l : Launch) (Z : State) (a0 : Array Value) (hw : ∀ d ∈ tables_1, d.before a0 Z = true) (ws : List Jvm.Cond) (a : Addr) (r mx : UInt64) (wu : Int32) (h0 : Heap) (n0 : Nat) (Zs : n0 ≤ h0.size) (ga : n0 ≤ a) (hwu : wu = 0 ∨ wu = 1) (hn : Jvm.Free.Fl.NoNaN64 (FP.ddiv (4741671816366391296 : UInt64) r)) (Ex_a : Exa Z h0 a "com/example/schleuse/schleuse/LimiterState") (F_nextFreeNanos_a : Fld Z h0 a "com/example/schleuse/schleuse/LimiterState" "nextFreeNanos" "J" (.long (0 : Int64))) (F_warmUp_a : Fld Z h0 a "com/example/schleuse/schleuse/LimiterState" "warmUp" "Z" (.int (0 : Int32))) (F_rate_a : Fld Z h0 a "com/example/schleuse/schleuse/LimiterState" "rate" "D" (.double (0 : UInt64))) (F_stableIntervalNanos_a : Fld Z h0 a "com/example/schleuse/schleuse/LimiterState" "stableIntervalNanos" "D" (.double (0 : UInt64))) (F_maxSavedUpPermits_a : Fld Z h0 a "com/example/schleuse/schleuse/LimiterState" "maxSavedUpPermits" "D" (.double (0 : UInt64))) (F_savedUpPermits_a : Fld Z h0 a "com/example/schleuse/schleuse/LimiterState" "savedUpPermits" "D" (.double (0 : UInt64))) (F_nextFreeFraction_a : Fld Z h0 a "com/example/schleuse/schleuse/LimiterState" "nextFreeFraction" "D" (.double (0 : UInt64))) :
    Con l (⟨"com/example/schleuse/schleuse/LimiterState", "<init>", "(DDZ)V"⟩ : MethodName) prog_5_method_1_code 6 none ws ({ frames := 1, cells := 0, slots := 0, locals := 16 } : Room) Z #[(.ref a), (.double r), (.double mx), (.int wu)] h0 ({ frames := 1, cells := 0, slots := 0, locals := 16 } : Room).cells ({ frames := 1, cells := 0, slots := 0, locals := 16 } : Room).slots (Q_rmI Z a r mx wu h0 n0) := by
  refine Con.of (Ls := #[.val (.ref a), .val (.double r), .second, .val (.double mx), .second, .val (.int wu)]) (plainFor_of_name (by first | (simp [plainName, overriddenIn]; done) | decide +kernel)) (fun m => by first | (simp [entryFrame, mkF, argsToLocals, Value.category]; done) | rfl) ?_
  intro p e s m below meth c s₁ G hGe hG hx hby hml hown hnm hrt hlk hZ X0 e0
  have hown : s.vm.findClass "com/example/schleuse/schleuse/LimiterState" = some m.cls := hown
  have hnm : meth.name = "<init>" := hnm
  have NF0 := Fr.nil n0
  have K0 := Keep.refl h0 [a]
  refine g_aloadN hG X0 hx (hb hby d1_0) (pc' := 1) rfl rfl rfl ?_
  show G (s₁.setTop (mkF m 1 #[.val (.ref a), .val (.double r), .second, .val (.double mx), .second, .val (.int wu)] [(.ref a)]))
  refine g_initO hG X0 hx hZ hown (wd hw 8 rfl) (wd hw 9 rfl) (wd hw 10 rfl) e0 (by rw [hml]; rfl) (hb hby d1_1) (by decide) (by decide) (pc' := 4) rfl ?_
  intro T1 X1 e1
  show G (T1.setTop (mkF m 4 #[.val (.ref a), .val (.double r), .second, .val (.double mx), .second, .val (.int wu)] []))
  refine g_aloadN hG X1 hx (hb hby d1_4) (pc' := 5) rfl rfl rfl ?_
  show G (T1.setTop (mkF m 5 #[.val (.ref a), .val (.double r), .second, .val (.double mx), .second, .val (.int wu)] [(.ref a)]))
  refine g_ldcLong hG X1 hx hZ hown (wd hw 11 rfl) (hb hby d1_5) (pc' := 8) rfl ?_
  show G (T1.setTop (mkF m 8 #[.val (.ref a), .val (.double r), .second, .val (.double mx), .second, .val (.int wu)] [(.long (-9223372036854775808)), (.ref a)]))
  refine g_putF hG X1 hx hZ hown (wd hw 12 rfl) Via.refl e1 F_nextFreeNanos_a Ex_a (Or.inl (wd hw 13 rfl)) (wd hw 3 rfl) (v' := (.long (-9223372036854775808))) (ty := .long) (by decide) rfl rfl (hb hby d1_8) (pc' := 11) rfl ?_
  intro T2 h2 X2 e2 W2
  have Ex_a := Ex_a.wr W2
  have F_nextFreeNanos_a := F_nextFreeNanos_a.same W2
  have F_warmUp_a := F_warmUp_a.other W2 (Or.inr (slot_ne (Or.inr (wd hw 15 rfl)) (Or.inl (wd hw 13 rfl)) (by decide) (t := .boolean) (t' := .long) (by decide) (by decide)))
  have F_rate_a := F_rate_a.other W2 (Or.inr (slot_ne (Or.inl (wd hw 21 rfl)) (Or.inl (wd hw 13 rfl)) (by decide) (t := .double) (t' := .long) (by decide) (by decide)))
  have F_stableIntervalNanos_a := F_stableIntervalNanos_a.other W2 (Or.inr (slot_ne (Or.inl (wd hw 24 rfl)) (Or.inl (wd hw 13 rfl)) (by decide) (t := .double) (t' := .long) (by decide) (by decide)))
  have F_maxSavedUpPermits_a := F_maxSavedUpPermits_a.other W2 (Or.inr (slot_ne (Or.inl (wd hw 26 rfl)) (Or.inl (wd hw 13 rfl)) (by decide) (t := .double) (t' := .long) (by decide) (by decide)))
  have F_savedUpPermits_a := F_savedUpPermits_a.other W2 (Or.inr (slot_ne (Or.inl (wd hw 28 rfl)) (Or.inl (wd hw 13 rfl)) (by decide) (t := .double) (t' := .long) (by decide) (by decide)))
  have F_nextFreeFraction_a := F_nextFreeFraction_a.other W2 (Or.inr (slot_ne (Or.inl (wd hw 33 rfl)) (Or.inl (wd hw 13 rfl)) (by decide) (t := .double) (t' := .long) (by decide) (by decide)))
  have Zs := Nat.le_trans Zs (Wr.size W2)
  have NF2 := Fr.snoc X2 NF0 ga
  have K2 := K0.wr W2 (Or.inl (List.mem_of_getElem? (i := 0) rfl))
  show G (T2.setTop (mkF m 11 #[.val (.ref a), .val (.double r), .second, .val (.double mx), .second, .val (.int wu)] []))
  refine g_aloadN hG X2 hx (hb hby d1_11) (pc' := 12) rfl rfl rfl ?_
  show G (T2.setTop (mkF m 12 #[.val (.ref a), .val (.double r), .second, .val (.double mx), .second, .val (.int wu)] [(.ref a)]))
  refine g_iload hG X2 hx (hb hby d1_12) (pc' := 14) rfl rfl ?_
  show G (T2.setTop (mkF m 14 #[.val (.ref a), .val (.double r), .second, .val (.double mx), .second, .val (.int wu)] [(.int wu), (.ref a)]))
  refine g_putF hG X2 hx hZ hown (wd hw 14 rfl) Via.refl e2 F_warmUp_a Ex_a (Or.inr ⟨(wd hw 15 rfl), rfl, hnm⟩) (wd hw 3 rfl) (v' := .int wu) (ty := .boolean) (by decide) (by rcases hwu with q | q <;> rw [q] <;> rfl) (by rcases hwu with q | q <;> rw [q] <;> rfl) (hb hby d1_14) (pc' := 17) rfl ?_
  intro T3 h3 X3 e3 W3
  have Ex_a := Ex_a.wr W3
  have F_nextFreeNanos_a := F_nextFreeNanos_a.other W3 (Or.inr (slot_ne (Or.inl (wd hw 13 rfl)) (Or.inr (wd hw 15 rfl)) (by decide) (t := .long) (t' := .boolean) (by decide) (by decide)))
  have F_warmUp_a := F_warmUp_a.same W3
  have F_rate_a := F_rate_a.other W3 (Or.inr (slot_ne (Or.inl (wd hw 21 rfl)) (Or.inr (wd hw 15 rfl)) (by decide) (t := .double) (t' := .boolean) (by decide) (by decide)))
  have F_stableIntervalNanos_a := F_stableIntervalNanos_a.other W3 (Or.inr (slot_ne (Or.inl (wd hw 24 rfl)) (Or.inr (wd hw 15 rfl)) (by decide) (t := .double) (t' := .boolean) (by decide) (by decide)))
  have F_maxSavedUpPermits_a := F_maxSavedUpPermits_a.other W3 (Or.inr (slot_ne (Or.inl (wd hw 26 rfl)) (Or.inr (wd hw 15 rfl)) (by decide) (t := .double) (t' := .boolean) (by decide) (by decide)))
  have F_savedUpPermits_a := F_savedUpPermits_a.other W3 (Or.inr (slot_ne (Or.inl (wd hw 28 rfl)) (Or.inr (wd hw 15 rfl)) (by decide) (t := .double) (t' := .boolean) (by decide) (by decide)))
  have F_nextFreeFraction_a := F_nextFreeFraction_a.other W3 (Or.inr (slot_ne (Or.inl (wd hw 33 rfl)) (Or.inr (wd hw 15 rfl)) (by decide) (t := .double) (t' := .boolean) (by decide) (by decide)))
  have Zs := Nat.le_trans Zs (Wr.size W3)
  have NF3 := Fr.snoc X3 NF2 ga
  have K3 := K2.wr W3 (Or.inl (List.mem_of_getElem? (i := 0) rfl))
  show G (T3.setTop (mkF m 17 #[.val (.ref a), .val (.double r), .second, .val (.double mx), .second, .val (.int wu)] []))
  refine g_aloadN hG X3 hx (hb hby d1_17) (pc' := 18) rfl rfl rfl ?_
  show G (T3.setTop (mkF m 18 #[.val (.ref a), .val (.double r), .second, .val (.double mx), .second, .val (.int wu)] [(.ref a)]))
  refine g_dloadN hG X3 hx (hb hby d1_18) (pc' := 19) rfl rfl ?_
  show G (T3.setTop (mkF m 19 #[.val (.ref a), .val (.double r), .second, .val (.double mx), .second, .val (.int wu)] [(.double r), (.ref a)]))
  refine g_dloadN hG X3 hx (hb hby d1_19) (pc' := 20) rfl rfl ?_
  show G (T3.setTop (mkF m 20 #[.val (.ref a), .val (.double r), .second, .val (.double mx), .second, .val (.int wu)] [(.double mx), (.double r), (.ref a)]))
  refine g_callP hG X3 hx hZ (y := (⟨"com/example/schleuse/schleuse/LimiterState", "applyRate", "(DD)V"⟩ : MethodName)) 0 hown (wd hw 16 rfl) (wd hw 17 rfl) (wd hw 3 rfl) (wd hw 18 rfl) (wd hw 4 rfl) (wd hw 19 rfl) (by decide) (rmA l Z a0 hw [] a r mx (-9223372036854775808 : Int64) wu (0 : UInt64) (0 : UInt64) (0 : UInt64) (0 : UInt64) (0 : UInt64) h3 n0 Zs ga hn Ex_a F_nextFreeNanos_a F_warmUp_a F_rate_a F_stableIntervalNanos_a F_maxSavedUpPermits_a F_savedUpPermits_a F_nextFreeFraction_a) (by decide) (by decide) (by rw [hml]; rfl) pd_0 rfl (argsL := [(.double r), (.double mx)]) (rest := []) rfl rfl (Nat.le_of_eq rfl) (hb hby d1_20) e3 Ex_a (by decide) (by decide) (pc' := 23) rfl ?_
  intro T4 rv4 L4 X4 hQ4
  obtain ⟨rfl, Nq4, Kq4, Ex_a, F_nextFreeNanos_a, F_warmUp_a, F_rate_a, F_stableIntervalNanos_a, F_maxSavedUpPermits_a, F_savedUpPermits_a, F_nextFreeFraction_a⟩ := hQ4
  have NF4 := Fr.app NF3 Nq4
  have Zs := Nat.le_trans Zs Kq4.1
  have K4 := K3.trans Kq4 (allS (Or.inl (List.mem_of_getElem? (i := 0) rfl)) all0)
  show G (T4.setTop (mkF m 23 #[.val (.ref a), .val (.double r), .second, .val (.double mx), .second, .val (.int wu)] []))
  refine g_aloadN hG X4 hx (hb hby d1_23) (pc' := 24) rfl rfl rfl ?_
  show G (T4.setTop (mkF m 24 #[.val (.ref a), .val (.double r), .second, .val (.double mx), .second, .val (.int wu)] [(.ref a)]))
  refine g_dloadN hG X4 hx (hb hby d1_24) (pc' := 25) rfl rfl ?_
  show G (T4.setTop (mkF m 25 #[.val (.ref a), .val (.double r), .second, .val (.double mx), .second, .val (.int wu)] [(.double mx), (.ref a)]))
  refine g_putF hG X4 hx hZ hown (wd hw 27 rfl) Via.refl rfl F_savedUpPermits_a Ex_a (Or.inl (wd hw 28 rfl)) (wd hw 3 rfl) (v' := (.double mx)) (ty := .double) (by decide) rfl rfl (hb hby d1_25) (pc' := 28) rfl ?_
  intro T5 h5 X5 e5 W5
  have Ex_a := Ex_a.wr W5
  have F_nextFreeNanos_a := F_nextFreeNanos_a.other W5 (Or.inr (slot_ne (Or.inl (wd hw 13 rfl)) (Or.inl (wd hw 28 rfl)) (by decide) (t := .long) (t' := .double) (by decide) (by decide)))
  have F_warmUp_a := F_warmUp_a.other W5 (Or.inr (slot_ne (Or.inr (wd hw 15 rfl)) (Or.inl (wd hw 28 rfl)) (by decide) (t := .boolean) (t' := .double) (by decide) (by decide)))
  have F_rate_a := F_rate_a.other W5 (Or.inr (slot_ne (Or.inl (wd hw 21 rfl)) (Or.inl (wd hw 28 rfl)) (by decide) (t := .double) (t' := .double) (by decide) (by decide)))
  have F_stableIntervalNanos_a := F_stableIntervalNanos_a.other W5 (Or.inr (slot_ne (Or.inl (wd hw 24 rfl)) (Or.inl (wd hw 28 rfl)) (by decide) (t := .double) (t' := .double) (by decide) (by decide)))
  have F_maxSavedUpPermits_a := F_maxSavedUpPermits_a.other W5 (Or.inr (slot_ne (Or.inl (wd hw 26 rfl)) (Or.inl (wd hw 28 rfl)) (by decide) (t := .double) (t' := .double) (by decide) (by decide)))
  have F_savedUpPermits_a := F_savedUpPermits_a.same W5
  have F_nextFreeFraction_a := F_nextFreeFraction_a.other W5 (Or.inr (slot_ne (Or.inl (wd hw 33 rfl)) (Or.inl (wd hw 28 rfl)) (by decide) (t := .double) (t' := .double) (by decide) (by decide)))
  have Zs := Nat.le_trans Zs (Wr.size W5)
  have NF5 := Fr.snoc X5 NF4 ga
  have K5 := K4.wr W5 (Or.inl (List.mem_of_getElem? (i := 0) rfl))
  show G (T5.setTop (mkF m 28 #[.val (.ref a), .val (.double r), .second, .val (.double mx), .second, .val (.int wu)] []))
  exact e_ret0 hGe X5 hx hrt hlk (hb hby d1_28) e5 (by decide) (by decide) (⟨rfl, NF5, K5, Ex_a, F_nextFreeNanos_a, F_warmUp_a, F_rate_a, F_stableIntervalNanos_a, F_maxSavedUpPermits_a, F_savedUpPermits_a, F_nextFreeFraction_a⟩)

def Q_rmS (Z : State) (a : Addr) (A B : Int64) (sp mx iv ff r : UInt64) (h0 : Heap) (n0 : Nat) (v : Option Value) (h : Heap) (L : List Loc) : Prop := v = some (.double r) ∧ Fr n0 L ∧ h = h0
set_option maxRecDepth 65536 in
set_option maxHeartbeats 40000000 in
theorem rmS (l : Launch) (Z : State) (a0 : Array Value) (hw : ∀ d ∈ tables_1, d.before a0 Z = true) (ws : List Jvm.Cond) (a : Addr) (A B : Int64) (sp mx iv ff r : UInt64) (h0 : Heap) (n0 : Nat) (Zs : n0 ≤ h0.size) (hS : OwnSaved A B sp mx iv ff r) (Ex_a : Exa Z h0 a "com/example/schleuse/schleuse/LimiterState") (F_nextFreeNanos_a : Fld Z h0 a "com/example/schleuse/schleuse/LimiterState" "nextFreeNanos" "J" (.long A)) (F_stableIntervalNanos_a : Fld Z h0 a "com/example/schleuse/schleuse/LimiterState" "stableIntervalNanos" "D" (.double iv)) (F_maxSavedUpPermits_a : Fld Z h0 a "com/example/schleuse/schleuse/LimiterState" "maxSavedUpPermits" "D" (.double mx)) (F_savedUpPermits_a : Fld Z h0 a "com/example/schleuse/schleuse/LimiterState" "savedUpPermits" "D" (.double sp)) (F_nextFreeFraction_a : Fld Z h0 a "com/example/schleuse/schleuse/LimiterState" "nextFreeFraction" "D" (.double ff)) :
    Con l (⟨"com/example/schleuse/schleuse/LimiterState", "savedUpAt", "(J)D"⟩ : MethodName) prog_5_method_3_code 11 (some .double) ws ({ frames := 0, cells := 0, slots := 0, locals := 0 } : Room) Z #[(.ref a), (.long B)] h0 ({ frames := 0, cells := 0, slots := 0, locals := 0 } : Room).cells ({ frames := 0, cells := 0, slots := 0, locals := 0 } : Room).slots (Q_rmS Z a A B sp mx iv ff r h0 n0) := by
  refine Con.of (Ls := #[.val (.ref a), .val (.long B), .second, .unset, .unset, .unset, .unset, .unset, .unset, .unset, .unset]) (plainFor_of_name (by first | (simp [plainName, overriddenIn]; done) | decide +kernel)) (fun m => by first | (simp [entryFrame, mkF, argsToLocals, Value.category]; done) | rfl) ?_
  intro p e s m below meth c s₁ G hGe hG hx hby hml hown hnm hrt hlk hZ X0 e0
  have hown : s.vm.findClass "com/example/schleuse/schleuse/LimiterState" = some m.cls := hown
  have hnm : meth.name = "savedUpAt" := hnm
  have NF0 := Fr.nil n0
  rcases hS with ⟨c1, hr⟩ | ⟨c1, c2, hr⟩ | ⟨c1, c2, x, y, z, e1, e2, e3, n1, n2, n3, ⟨c3, hr⟩ | ⟨c3, hr⟩⟩
  · skip
    refine g_aloadN hG X0 hx (hb hby d4_0) (pc' := 1) rfl rfl rfl ?_
    show G (s₁.setTop (mkF m 1 #[.val (.ref a), .val (.long B), .second, .unset, .unset, .unset, .unset, .unset, .unset, .unset, .unset] [(.ref a)]))
    refine g_getF hG X0 hx hZ hown (wd hw 27 rfl) Via.refl e0 F_savedUpPermits_a (hb hby d4_1) (pc' := 4) rfl ?_
    intro T1 X1 e1
    show G (T1.setTop (mkF m 4 #[.val (.ref a), .val (.long B), .second, .unset, .unset, .unset, .unset, .unset, .unset, .unset, .unset] [(.double sp)]))
    refine g_dstoreN hG X1 hx (hb hby d4_4) (pc' := 5) rfl (Ls' := #[.val (.ref a), .val (.long B), .second, .val (.double sp), .second, .unset, .unset, .unset, .unset, .unset, .unset]) rfl ?_
    show G (T1.setTop (mkF m 5 #[.val (.ref a), .val (.long B), .second, .val (.double sp), .second, .unset, .unset, .unset, .unset, .unset, .unset] []))
    refine g_lloadN hG X1 hx (hb hby d4_5) (pc' := 6) rfl rfl ?_
    show G (T1.setTop (mkF m 6 #[.val (.ref a), .val (.long B), .second, .val (.double sp), .second, .unset, .unset, .unset, .unset, .unset, .unset] [(.long B)]))
    refine g_aloadN hG X1 hx (hb hby d4_6) (pc' := 7) rfl rfl rfl ?_
    show G (T1.setTop (mkF m 7 #[.val (.ref a), .val (.long B), .second, .val (.double sp), .second, .unset, .unset, .unset, .unset, .unset, .unset] [(.ref a), (.long B)]))
    refine g_getF hG X1 hx hZ hown (wd hw 12 rfl) Via.refl e1 F_nextFreeNanos_a (hb hby d4_7) (pc' := 10) rfl ?_
    intro T2 X2 e2
    show G (T2.setTop (mkF m 10 #[.val (.ref a), .val (.long B), .second, .val (.double sp), .second, .unset, .unset, .unset, .unset, .unset, .unset] [(.long A), (.long B)]))
    obtain ⟨v10, q10⟩ : ∃ zz : Int32, lcmpW B A = zz := ⟨_, rfl⟩
    refine g_lcmp hG X2 hx (hb hby d4_10) (pc' := 11) rfl q10 ?_
    show G (T2.setTop (mkF m 11 #[.val (.ref a), .val (.long B), .second, .val (.double sp), .second, .unset, .unset, .unset, .unset, .unset, .unset] [(.int v10)]))
    refine g_ifYes hG X2 hx (hb hby d4_11) (pc' := 81) ((if0 _ _).trans (flt (show ¬ (0 : Int32) < v10 by rw [← q10]; exact fun g => c1 ((lw_gt _ _).mp g))).2.2.2) (by decide) (by decide) ?_
    show G (T2.setTop (mkF m 81 #[.val (.ref a), .val (.long B), .second, .val (.double sp), .second, .unset, .unset, .unset, .unset, .unset, .unset] []))
    refine g_dloadN hG X2 hx (hb hby d4_81) (pc' := 82) rfl rfl ?_
    show G (T2.setTop (mkF m 82 #[.val (.ref a), .val (.long B), .second, .val (.double sp), .second, .unset, .unset, .unset, .unset, .unset, .unset] [(.double sp)]))
    exact e_retD hGe X2 hx hrt hlk (hb hby d4_82) e2 (by decide) (by decide) (⟨by rw [hr], NF0, rfl⟩)
  · skip
    refine g_aloadN hG X0 hx (hb hby d4_0) (pc' := 1) rfl rfl rfl ?_
    show G (s₁.setTop (mkF m 1 #[.val (.ref a), .val (.long B), .second, .unset, .unset, .unset, .unset, .unset, .unset, .unset, .unset] [(.ref a)]))
    refine g_getF hG X0 hx hZ hown (wd hw 27 rfl) Via.refl e0 F_savedUpPermits_a (hb hby d4_1) (pc' := 4) rfl ?_
    intro T3 X3 e3
    show G (T3.setTop (mkF m 4 #[.val (.ref a), .val (.long B), .second, .unset, .unset, .unset, .unset, .unset, .unset, .unset, .unset] [(.double sp)]))
    refine g_dstoreN hG X3 hx (hb hby d4_4) (pc' := 5) rfl (Ls' := #[.val (.ref a), .val (.long B), .second, .val (.double sp), .second, .unset, .unset, .unset, .unset, .unset, .unset]) rfl ?_
    show G (T3.setTop (mkF m 5 #[.val (.ref a), .val (.long B), .second, .val (.double sp), .second, .unset, .unset, .unset, .unset, .unset, .unset] []))
    refine g_lloadN hG X3 hx (hb hby d4_5) (pc' := 6) rfl rfl ?_
    show G (T3.setTop (mkF m 6 #[.val (.ref a), .val (.long B), .second, .val (.double sp), .second, .unset, .unset, .unset, .unset, .unset, .unset] [(.long B)]))
    refine g_aloadN hG X3 hx (hb hby d4_6) (pc' := 7) rfl rfl rfl ?_
    show G (T3.setTop (mkF m 7 #[.val (.ref a), .val (.long B), .second, .val (.double sp), .second, .unset, .unset, .unset, .unset, .unset, .unset] [(.ref a), (.long B)]))
    refine g_getF hG X3 hx hZ hown (wd hw 12 rfl) Via.refl e3 F_nextFreeNanos_a (hb hby d4_7) (pc' := 10) rfl ?_
    intro T4 X4 e4
    show G (T4.setTop (mkF m 10 #[.val (.ref a), .val (.long B), .second, .val (.double sp), .second, .unset, .unset, .unset, .unset, .unset, .unset] [(.long A), (.long B)]))
    obtain ⟨v10, q10⟩ : ∃ zz : Int32, lcmpW B A = zz := ⟨_, rfl⟩
    refine g_lcmp hG X4 hx (hb hby d4_10) (pc' := 11) rfl q10 ?_
    show G (T4.setTop (mkF m 11 #[.val (.ref a), .val (.long B), .second, .val (.double sp), .second, .unset, .unset, .unset, .unset, .unset, .unset] [(.int v10)]))
    refine g_ifNo hG X4 hx (hb hby d4_11) (pc' := 14) ((if0 _ _).trans (tlt (show (0 : Int32) < v10 by rw [← q10]; exact (lw_gt _ _).mpr c1)).2.2.2) rfl ?_
    show G (T4.setTop (mkF m 14 #[.val (.ref a), .val (.long B), .second, .val (.double sp), .second, .unset, .unset, .unset, .unset, .unset, .unset] []))
    refine g_lloadN hG X4 hx (hb hby d4_14) (pc' := 15) rfl rfl ?_
    show G (T4.setTop (mkF m 15 #[.val (.ref a), .val (.long B), .second, .val (.double sp), .second, .unset, .unset, .unset, .unset, .unset, .unset] [(.long B)]))
    refine g_aloadN hG X4 hx (hb hby d4_15) (pc' := 16) rfl rfl rfl ?_
    show G (T4.setTop (mkF m 16 #[.val (.ref a), .val (.long B), .second, .val (.double sp), .second, .unset, .unset, .unset, .unset, .unset, .unset] [(.ref a), (.long B)]))
    refine g_getF hG X4 hx hZ hown (wd hw 12 rfl) Via.refl e4 F_nextFreeNanos_a (hb hby d4_16) (pc' := 19) rfl ?_
    intro T5 X5 e5
    show G (T5.setTop (mkF m 19 #[.val (.ref a), .val (.long B), .second, .val (.double sp), .second, .unset, .unset, .unset, .unset, .unset, .unset] [(.long A), (.long B)]))
    obtain ⟨v19, q19⟩ : ∃ zz : Int64, B - A = zz := ⟨_, rfl⟩
    refine g_lsub hG X5 hx (hb hby d4_19) (pc' := 20) rfl q19 ?_
    show G (T5.setTop (mkF m 20 #[.val (.ref a), .val (.long B), .second, .val (.double sp), .second, .unset, .unset, .unset, .unset, .unset, .unset] [(.long v19)]))
    refine g_lstore hG X5 hx (hb hby d4_20) (pc' := 22) rfl (Ls' := #[.val (.ref a), .val (.long B), .second, .val (.double sp), .second, .val (.long v19), .second, .unset, .unset, .unset, .unset]) rfl ?_
    show G (T5.setTop (mkF m 22 #[.val (.ref a), .val (.long B), .second, .val (.double sp), .second, .val (.long v19), .second, .unset, .unset, .unset, .unset] []))
    refine g_lload hG X5 hx (hb hby d4_22) (pc' := 24) rfl rfl ?_
    show G (T5.setTop (mkF m 24 #[.val (.ref a), .val (.long B), .second, .val (.double sp), .second, .val (.long v19), .second, .unset, .unset, .unset, .unset] [(.long v19)]))
    refine g_lconst hG X5 hx (hb hby d4_24) (pc' := 25) rfl (v := (0 : Int64)) rfl ?_
    show G (T5.setTop (mkF m 25 #[.val (.ref a), .val (.long B), .second, .val (.double sp), .second, .val (.long v19), .second, .unset, .unset, .unset, .unset] [(.long 0), (.long v19)]))
    obtain ⟨v25, q25⟩ : ∃ zz : Int32, lcmpW v19 (0 : Int64) = zz := ⟨_, rfl⟩
    refine g_lcmp hG X5 hx (hb hby d4_25) (pc' := 26) rfl q25 ?_
    show G (T5.setTop (mkF m 26 #[.val (.ref a), .val (.long B), .second, .val (.double sp), .second, .val (.long v19), .second, .unset, .unset, .unset, .unset] [(.int v25)]))
    refine g_ifNo hG X5 hx (hb hby d4_26) (pc' := 29) ((if0 _ _).trans (tlt (show v25 < 0 by rw [← q25, ← q19]; exact (lw_lt _ _).mpr c2)).2.1) rfl ?_
    show G (T5.setTop (mkF m 29 #[.val (.ref a), .val (.long B), .second, .val (.double sp), .second, .val (.long v19), .second, .unset, .unset, .unset, .unset] []))
    refine g_aloadN hG X5 hx (hb hby d4_29) (pc' := 30) rfl rfl rfl ?_
    show G (T5.setTop (mkF m 30 #[.val (.ref a), .val (.long B), .second, .val (.double sp), .second, .val (.long v19), .second, .unset, .unset, .unset, .unset] [(.ref a)]))
    refine g_getF hG X5 hx hZ hown (wd hw 25 rfl) Via.refl e5 F_maxSavedUpPermits_a (hb hby d4_30) (pc' := 33) rfl ?_
    intro T6 X6 e6
    show G (T6.setTop (mkF m 33 #[.val (.ref a), .val (.long B), .second, .val (.double sp), .second, .val (.long v19), .second, .unset, .unset, .unset, .unset] [(.double mx)]))
    refine g_dstoreN hG X6 hx (hb hby d4_33) (pc' := 34) rfl (Ls' := #[.val (.ref a), .val (.long B), .second, .val (.double mx), .second, .val (.long v19), .second, .unset, .unset, .unset, .unset]) rfl ?_
    show G (T6.setTop (mkF m 34 #[.val (.ref a), .val (.long B), .second, .val (.double mx), .second, .val (.long v19), .second, .unset, .unset, .unset, .unset] []))
    refine g_goto hG X6 hx (hb hby d4_34) (pc' := 81) (by decide) (by decide) ?_
    show G (T6.setTop (mkF m 81 #[.val (.ref a), .val (.long B), .second, .val (.double mx), .second, .val (.long v19), .second, .unset, .unset, .unset, .unset] []))
    refine g_dloadN hG X6 hx (hb hby d4_81) (pc' := 82) rfl rfl ?_
    show G (T6.setTop (mkF m 82 #[.val (.ref a), .val (.long B), .second, .val (.double mx), .second, .val (.long v19), .second, .unset, .unset, .unset, .unset] [(.double mx)]))
    exact e_retD hGe X6 hx hrt hlk (hb hby d4_82) e6 (by decide) (by decide) (⟨by rw [hr], NF0, rfl⟩)
  · skip
    refine g_aloadN hG X0 hx (hb hby d4_0) (pc' := 1) rfl rfl rfl ?_
    show G (s₁.setTop (mkF m 1 #[.val (.ref a), .val (.long B), .second, .unset, .unset, .unset, .unset, .unset, .unset, .unset, .unset] [(.ref a)]))
    refine g_getF hG X0 hx hZ hown (wd hw 27 rfl) Via.refl e0 F_savedUpPermits_a (hb hby d4_1) (pc' := 4) rfl ?_
    intro T7 X7 e7
    show G (T7.setTop (mkF m 4 #[.val (.ref a), .val (.long B), .second, .unset, .unset, .unset, .unset, .unset, .unset, .unset, .unset] [(.double sp)]))
    refine g_dstoreN hG X7 hx (hb hby d4_4) (pc' := 5) rfl (Ls' := #[.val (.ref a), .val (.long B), .second, .val (.double sp), .second, .unset, .unset, .unset, .unset, .unset, .unset]) rfl ?_
    show G (T7.setTop (mkF m 5 #[.val (.ref a), .val (.long B), .second, .val (.double sp), .second, .unset, .unset, .unset, .unset, .unset, .unset] []))
    refine g_lloadN hG X7 hx (hb hby d4_5) (pc' := 6) rfl rfl ?_
    show G (T7.setTop (mkF m 6 #[.val (.ref a), .val (.long B), .second, .val (.double sp), .second, .unset, .unset, .unset, .unset, .unset, .unset] [(.long B)]))
    refine g_aloadN hG X7 hx (hb hby d4_6) (pc' := 7) rfl rfl rfl ?_
    show G (T7.setTop (mkF m 7 #[.val (.ref a), .val (.long B), .second, .val (.double sp), .second, .unset, .unset, .unset, .unset, .unset, .unset] [(.ref a), (.long B)]))
    refine g_getF hG X7 hx hZ hown (wd hw 12 rfl) Via.refl e7 F_nextFreeNanos_a (hb hby d4_7) (pc' := 10) rfl ?_
    intro T8 X8 e8
    show G (T8.setTop (mkF m 10 #[.val (.ref a), .val (.long B), .second, .val (.double sp), .second, .unset, .unset, .unset, .unset, .unset, .unset] [(.long A), (.long B)]))
    obtain ⟨v10, q10⟩ : ∃ zz : Int32, lcmpW B A = zz := ⟨_, rfl⟩
    refine g_lcmp hG X8 hx (hb hby d4_10) (pc' := 11) rfl q10 ?_
    show G (T8.setTop (mkF m 11 #[.val (.ref a), .val (.long B), .second, .val (.double sp), .second, .unset, .unset, .unset, .unset, .unset, .unset] [(.int v10)]))
    refine g_ifNo hG X8 hx (hb hby d4_11) (pc' := 14) ((if0 _ _).trans (tlt (show (0 : Int32) < v10 by rw [← q10]; exact (lw_gt _ _).mpr c1)).2.2.2) rfl ?_
    show G (T8.setTop (mkF m 14 #[.val (.ref a), .val (.long B), .second, .val (.double sp), .second, .unset, .unset, .unset, .unset, .unset, .unset] []))
    refine g_lloadN hG X8 hx (hb hby d4_14) (pc' := 15) rfl rfl ?_
    show G (T8.setTop (mkF m 15 #[.val (.ref a), .val (.long B), .second, .val (.double sp), .second, .unset, .unset, .unset, .unset, .unset, .unset] [(.long B)]))
    refine g_aloadN hG X8 hx (hb hby d4_15) (pc' := 16) rfl rfl rfl ?_
    show G (T8.setTop (mkF m 16 #[.val (.ref a), .val (.long B), .second, .val (.double sp), .second, .unset, .unset, .unset, .unset, .unset, .unset] [(.ref a), (.long B)]))
    refine g_getF hG X8 hx hZ hown (wd hw 12 rfl) Via.refl e8 F_nextFreeNanos_a (hb hby d4_16) (pc' := 19) rfl ?_
    intro T9 X9 e9
    show G (T9.setTop (mkF m 19 #[.val (.ref a), .val (.long B), .second, .val (.double sp), .second, .unset, .unset, .unset, .unset, .unset, .unset] [(.long A), (.long B)]))
    obtain ⟨v19, q19⟩ : ∃ zz : Int64, B - A = zz := ⟨_, rfl⟩
    refine g_lsub hG X9 hx (hb hby d4_19) (pc' := 20) rfl q19 ?_
    show G (T9.setTop (mkF m 20 #[.val (.ref a), .val (.long B), .second, .val (.double sp), .second, .unset, .unset, .unset, .unset, .unset, .unset] [(.long v19)]))
    refine g_lstore hG X9 hx (hb hby d4_20) (pc' := 22) rfl (Ls' := #[.val (.ref a), .val (.long B), .second, .val (.double sp), .second, .val (.long v19), .second, .unset, .unset, .unset, .unset]) rfl ?_
    show G (T9.setTop (mkF m 22 #[.val (.ref a), .val (.long B), .second, .val (.double sp), .second, .val (.long v19), .second, .unset, .unset, .unset, .unset] []))
    refine g_lload hG X9 hx (hb hby d4_22) (pc' := 24) rfl rfl ?_
    show G (T9.setTop (mkF m 24 #[.val (.ref a), .val (.long B), .second, .val (.double sp), .second, .val (.long v19), .second, .unset, .unset, .unset, .unset] [(.long v19)]))
    refine g_lconst hG X9 hx (hb hby d4_24) (pc' := 25) rfl (v := (0 : Int64)) rfl ?_
    show G (T9.setTop (mkF m 25 #[.val (.ref a), .val (.long B), .second, .val (.double sp), .second, .val (.long v19), .second, .unset, .unset, .unset, .unset] [(.long 0), (.long v19)]))
    obtain ⟨v25, q25⟩ : ∃ zz : Int32, lcmpW v19 (0 : Int64) = zz := ⟨_, rfl⟩
    refine g_lcmp hG X9 hx (hb hby d4_25) (pc' := 26) rfl q25 ?_
    show G (T9.setTop (mkF m 26 #[.val (.ref a), .val (.long B), .second, .val (.double sp), .second, .val (.long v19), .second, .unset, .unset, .unset, .unset] [(.int v25)]))
    refine g_ifYes hG X9 hx (hb hby d4_26) (pc' := 37) ((if0 _ _).trans (flt (show ¬ v25 < 0 by rw [← q25, ← q19]; exact fun g => c2 ((lw_lt _ _).mp g))).2.1) (by decide) (by decide) ?_
    show G (T9.setTop (mkF m 37 #[.val (.ref a), .val (.long B), .second, .val (.double sp), .second, .val (.long v19), .second, .unset, .unset, .unset, .unset] []))
    refine g_lload hG X9 hx (hb hby d4_37) (pc' := 39) rfl rfl ?_
    show G (T9.setTop (mkF m 39 #[.val (.ref a), .val (.long B), .second, .val (.double sp), .second, .val (.long v19), .second, .unset, .unset, .unset, .unset] [(.long v19)]))
    obtain ⟨v39, q39⟩ : ∃ zz : UInt64, FP.l2d v19 = zz := ⟨_, rfl⟩
    refine g_l2d hG X9 hx (hb hby d4_39) (pc' := 40) rfl q39 ?_
    show G (T9.setTop (mkF m 40 #[.val (.ref a), .val (.long B), .second, .val (.double sp), .second, .val (.long v19), .second, .unset, .unset, .unset, .unset] [(.double v39)]))
    refine g_aloadN hG X9 hx (hb hby d4_40) (pc' := 41) rfl rfl rfl ?_
    show G (T9.setTop (mkF m 41 #[.val (.ref a), .val (.long B), .second, .val (.double sp), .second, .val (.long v19), .second, .unset, .unset, .unset, .unset] [(.ref a), (.double v39)]))
    refine g_getF hG X9 hx hZ hown (wd hw 43 rfl) Via.refl e9 F_nextFreeFraction_a (hb hby d4_41) (pc' := 44) rfl ?_
    intro T10 X10 e10
    show G (T10.setTop (mkF m 44 #[.val (.ref a), .val (.long B), .second, .val (.double sp), .second, .val (.long v19), .second, .unset, .unset, .unset, .unset] [(.double ff), (.double v39)]))
    refine g_dsub hG X10 hx (hb hby d4_44) (pc' := 45) rfl (by rw [← q39, ← q19, e1]; exact n1) (v := x) (by rw [← q39, ← q19]; exact e1) ?_
    show G (T10.setTop (mkF m 45 #[.val (.ref a), .val (.long B), .second, .val (.double sp), .second, .val (.long v19), .second, .unset, .unset, .unset, .unset] [(.double x)]))
    refine g_aloadN hG X10 hx (hb hby d4_45) (pc' := 46) rfl rfl rfl ?_
    show G (T10.setTop (mkF m 46 #[.val (.ref a), .val (.long B), .second, .val (.double sp), .second, .val (.long v19), .second, .unset, .unset, .unset, .unset] [(.ref a), (.double x)]))
    refine g_getF hG X10 hx hZ hown (wd hw 23 rfl) Via.refl e10 F_stableIntervalNanos_a (hb hby d4_46) (pc' := 49) rfl ?_
    intro T11 X11 e11
    show G (T11.setTop (mkF m 49 #[.val (.ref a), .val (.long B), .second, .val (.double sp), .second, .val (.long v19), .second, .unset, .unset, .unset, .unset] [(.double iv), (.double x)]))
    refine g_ddiv hG X11 hx (hb hby d4_49) (pc' := 50) rfl (by rw [e2]; exact n2) e2 ?_
    show G (T11.setTop (mkF m 50 #[.val (.ref a), .val (.long B), .second, .val (.double sp), .second, .val (.long v19), .second, .unset, .unset, .unset, .unset] [(.double y)]))
    refine g_dstore hG X11 hx (hb hby d4_50) (pc' := 52) rfl (Ls' := #[.val (.ref a), .val (.long B), .second, .val (.double sp), .second, .val (.long v19), .second, .val (.double y), .second, .unset, .unset]) rfl ?_
    show G (T11.setTop (mkF m 52 #[.val (.ref a), .val (.long B), .second, .val (.double sp), .second, .val (.long v19), .second, .val (.double y), .second, .unset, .unset] []))
    refine g_aloadN hG X11 hx (hb hby d4_52) (pc' := 53) rfl rfl rfl ?_
    show G (T11.setTop (mkF m 53 #[.val (.ref a), .val (.long B), .second, .val (.double sp), .second, .val (.long v19), .second, .val (.double y), .second, .unset, .unset] [(.ref a)]))
    refine g_getF hG X11 hx hZ hown (wd hw 27 rfl) Via.refl e11 F_savedUpPermits_a (hb hby d4_53) (pc' := 56) rfl ?_
    intro T12 X12 e12
    show G (T12.setTop (mkF m 56 #[.val (.ref a), .val (.long B), .second, .val (.double sp), .second, .val (.long v19), .second, .val (.double y), .second, .unset, .unset] [(.double sp)]))
    refine g_dload hG X12 hx (hb hby d4_56) (pc' := 58) rfl rfl ?_
    show G (T12.setTop (mkF m 58 #[.val (.ref a), .val (.long B), .second, .val (.double sp), .second, .val (.long v19), .second, .val (.double y), .second, .unset, .unset] [(.double y), (.double sp)]))
    refine g_dadd hG X12 hx (hb hby d4_58) (pc' := 59) rfl (by rw [e3]; exact n3) e3 ?_
    show G (T12.setTop (mkF m 59 #[.val (.ref a), .val (.long B), .second, .val (.double sp), .second, .val (.long v19), .second, .val (.double y), .second, .unset, .unset] [(.double z)]))
    refine g_dstore hG X12 hx (hb hby d4_59) (pc' := 61) rfl (Ls' := #[.val (.ref a), .val (.long B), .second, .val (.double sp), .second, .val (.long v19), .second, .val (.double y), .second, .val (.double z), .second]) rfl ?_
    show G (T12.setTop (mkF m 61 #[.val (.ref a), .val (.long B), .second, .val (.double sp), .second, .val (.long v19), .second, .val (.double y), .second, .val (.double z), .second] []))
    refine g_dload hG X12 hx (hb hby d4_61) (pc' := 63) rfl rfl ?_
    show G (T12.setTop (mkF m 63 #[.val (.ref a), .val (.long B), .second, .val (.double sp), .second, .val (.long v19), .second, .val (.double y), .second, .val (.double z), .second] [(.double z)]))
    refine g_aloadN hG X12 hx (hb hby d4_63) (pc' := 64) rfl rfl rfl ?_
    show G (T12.setTop (mkF m 64 #[.val (.ref a), .val (.long B), .second, .val (.double sp), .second, .val (.long v19), .second, .val (.double y), .second, .val (.double z), .second] [(.ref a), (.double z)]))
    refine g_getF hG X12 hx hZ hown (wd hw 25 rfl) Via.refl e12 F_maxSavedUpPermits_a (hb hby d4_64) (pc' := 67) rfl ?_
    intro T13 X13 e13
    show G (T13.setTop (mkF m 67 #[.val (.ref a), .val (.long B), .second, .val (.double sp), .second, .val (.long v19), .second, .val (.double y), .second, .val (.double z), .second] [(.double mx), (.double z)]))
    obtain ⟨v67, q67⟩ : ∃ zz : Int32, cmpValue (FP.dcmp z mx) .g = zz := ⟨_, rfl⟩
    refine g_dcmp hG X13 hx (hb hby d4_67) (pc' := 68) rfl q67 ?_
    show G (T13.setTop (mkF m 68 #[.val (.ref a), .val (.long B), .second, .val (.double sp), .second, .val (.long v19), .second, .val (.double y), .second, .val (.double z), .second] [(.int v67)]))
    refine g_ifNo hG X13 hx (hb hby d4_68) (pc' := 71) (by rw [← q67, c3]; rfl) rfl ?_
    show G (T13.setTop (mkF m 71 #[.val (.ref a), .val (.long B), .second, .val (.double sp), .second, .val (.long v19), .second, .val (.double y), .second, .val (.double z), .second] []))
    refine g_dload hG X13 hx (hb hby d4_71) (pc' := 73) rfl rfl ?_
    show G (T13.setTop (mkF m 73 #[.val (.ref a), .val (.long B), .second, .val (.double sp), .second, .val (.long v19), .second, .val (.double y), .second, .val (.double z), .second] [(.double z)]))
    refine g_goto hG X13 hx (hb hby d4_73) (pc' := 80) (by decide) (by decide) ?_
    show G (T13.setTop (mkF m 80 #[.val (.ref a), .val (.long B), .second, .val (.double sp), .second, .val (.long v19), .second, .val (.double y), .second, .val (.double z), .second] [(.double z)]))
    refine g_dstoreN hG X13 hx (hb hby d4_80) (pc' := 81) rfl (Ls' := #[.val (.ref a), .val (.long B), .second, .val (.double z), .second, .val (.long v19), .second, .val (.double y), .second, .val (.double z), .second]) rfl ?_
    show G (T13.setTop (mkF m 81 #[.val (.ref a), .val (.long B), .second, .val (.double z), .second, .val (.long v19), .second, .val (.double y), .second, .val (.double z), .second] []))
    refine g_dloadN hG X13 hx (hb hby d4_81) (pc' := 82) rfl rfl ?_
    show G (T13.setTop (mkF m 82 #[.val (.ref a), .val (.long B), .second, .val (.double z), .second, .val (.long v19), .second, .val (.double y), .second, .val (.double z), .second] [(.double z)]))
    exact e_retD hGe X13 hx hrt hlk (hb hby d4_82) e13 (by decide) (by decide) (⟨by rw [hr], NF0, rfl⟩)
  · skip
    refine g_aloadN hG X0 hx (hb hby d4_0) (pc' := 1) rfl rfl rfl ?_
    show G (s₁.setTop (mkF m 1 #[.val (.ref a), .val (.long B), .second, .unset, .unset, .unset, .unset, .unset, .unset, .unset, .unset] [(.ref a)]))
    refine g_getF hG X0 hx hZ hown (wd hw 27 rfl) Via.refl e0 F_savedUpPermits_a (hb hby d4_1) (pc' := 4) rfl ?_
    intro T14 X14 e14
    show G (T14.setTop (mkF m 4 #[.val (.ref a), .val (.long B), .second, .unset, .unset, .unset, .unset, .unset, .unset, .unset, .unset] [(.double sp)]))
    refine g_dstoreN hG X14 hx (hb hby d4_4) (pc' := 5) rfl (Ls' := #[.val (.ref a), .val (.long B), .second, .val (.double sp), .second, .unset, .unset, .unset, .unset, .unset, .unset]) rfl ?_
    show G (T14.setTop (mkF m 5 #[.val (.ref a), .val (.long B), .second, .val (.double sp), .second, .unset, .unset, .unset, .unset, .unset, .unset] []))
    refine g_lloadN hG X14 hx (hb hby d4_5) (pc' := 6) rfl rfl ?_
    show G (T14.setTop (mkF m 6 #[.val (.ref a), .val (.long B), .second, .val (.double sp), .second, .unset, .unset, .unset, .unset, .unset, .unset] [(.long B)]))
    refine g_aloadN hG X14 hx (hb hby d4_6) (pc' := 7) rfl rfl rfl ?_
    show G (T14.setTop (mkF m 7 #[.val (.ref a), .val (.long B), .second, .val (.double sp), .second, .unset, .unset, .unset, .unset, .unset, .unset] [(.ref a), (.long B)]))
    refine g_getF hG X14 hx hZ hown (wd hw 12 rfl) Via.refl e14 F_nextFreeNanos_a (hb hby d4_7) (pc' := 10) rfl ?_
    intro T15 X15 e15
    show G (T15.setTop (mkF m 10 #[.val (.ref a), .val (.long B), .second, .val (.double sp), .second, .unset, .unset, .unset, .unset, .unset, .unset] [(.long A), (.long B)]))
    obtain ⟨v10, q10⟩ : ∃ zz : Int32, lcmpW B A = zz := ⟨_, rfl⟩
    refine g_lcmp hG X15 hx (hb hby d4_10) (pc' := 11) rfl q10 ?_
    show G (T15.setTop (mkF m 11 #[.val (.ref a), .val (.long B), .second, .val (.double sp), .second, .unset, .unset, .unset, .unset, .unset, .unset] [(.int v10)]))
    refine g_ifNo hG X15 hx (hb hby d4_11) (pc' := 14) ((if0 _ _).trans (tlt (show (0 : Int32) < v10 by rw [← q10]; exact (lw_gt _ _).mpr c1)).2.2.2) rfl ?_
    show G (T15.setTop (mkF m 14 #[.val (.ref a), .val (.long B), .second, .val (.double sp), .second, .unset, .unset, .unset, .unset, .unset, .unset] []))
    refine g_lloadN hG X15 hx (hb hby d4_14) (pc' := 15) rfl rfl ?_
    show G (T15.setTop (mkF m 15 #[.val (.ref a), .val (.long B), .second, .val (.double sp), .second, .unset, .unset, .unset, .unset, .unset, .unset] [(.long B)]))
    refine g_aloadN hG X15 hx (hb hby d4_15) (pc' := 16) rfl rfl rfl ?_
    show G (T15.setTop (mkF m 16 #[.val (.ref a), .val (.long B), .second, .val (.double sp), .second, .unset, .unset, .unset, .unset, .unset, .unset] [(.ref a), (.long B)]))
    refine g_getF hG X15 hx hZ hown (wd hw 12 rfl) Via.refl e15 F_nextFreeNanos_a (hb hby d4_16) (pc' := 19) rfl ?_
    intro T16 X16 e16
    show G (T16.setTop (mkF m 19 #[.val (.ref a), .val (.long B), .second, .val (.double sp), .second, .unset, .unset, .unset, .unset, .unset, .unset] [(.long A), (.long B)]))
    obtain ⟨v19, q19⟩ : ∃ zz : Int64, B - A = zz := ⟨_, rfl⟩
    refine g_lsub hG X16 hx (hb hby d4_19) (pc' := 20) rfl q19 ?_
    show G (T16.setTop (mkF m 20 #[.val (.ref a), .val (.long B), .second, .val (.double sp), .second, .unset, .unset, .unset, .unset, .unset, .unset] [(.long v19)]))
    refine g_lstore hG X16 hx (hb hby d4_20) (pc' := 22) rfl (Ls' := #[.val (.ref a), .val (.long B), .second, .val (.double sp), .second, .val (.long v19), .second, .unset, .unset, .unset, .unset]) rfl ?_
    show G (T16.setTop (mkF m 22 #[.val (.ref a), .val (.long B), .second, .val (.double sp), .second, .val (.long v19), .second, .unset, .unset, .unset, .unset] []))
    refine g_lload hG X16 hx (hb hby d4_22) (pc' := 24) rfl rfl ?_
    show G (T16.setTop (mkF m 24 #[.val (.ref a), .val (.long B), .second, .val (.double sp), .second, .val (.long v19), .second, .unset, .unset, .unset, .unset] [(.long v19)]))
    refine g_lconst hG X16 hx (hb hby d4_24) (pc' := 25) rfl (v := (0 : Int64)) rfl ?_
    show G (T16.setTop (mkF m 25 #[.val (.ref a), .val (.long B), .second, .val (.double sp), .second, .val (.long v19), .second, .unset, .unset, .unset, .unset] [(.long 0), (.long v19)]))
    obtain ⟨v25, q25⟩ : ∃ zz : Int32, lcmpW v19 (0 : Int64) = zz := ⟨_, rfl⟩
    refine g_lcmp hG X16 hx (hb hby d4_25) (pc' := 26) rfl q25 ?_
    show G (T16.setTop (mkF m 26 #[.val (.ref a), .val (.long B), .second, .val (.double sp), .second, .val (.long v19), .second, .unset, .unset, .unset, .unset] [(.int v25)]))
    refine g_ifYes hG X16 hx (hb hby d4_26) (pc' := 37) ((if0 _ _).trans (flt (show ¬ v25 < 0 by rw [← q25, ← q19]; exact fun g => c2 ((lw_lt _ _).mp g))).2.1) (by decide) (by decide) ?_
    show G (T16.setTop (mkF m 37 #[.val (.ref a), .val (.long B), .second, .val (.double sp), .second, .val (.long v19), .second, .unset, .unset, .unset, .unset] []))
    refine g_lload hG X16 hx (hb hby d4_37) (pc' := 39) rfl rfl ?_
    show G (T16.setTop (mkF m 39 #[.val (.ref a), .val (.long B), .second, .val (.double sp), .second, .val (.long v19), .second, .unset, .unset, .unset, .unset] [(.long v19)]))
    obtain ⟨v39, q39⟩ : ∃ zz : UInt64, FP.l2d v19 = zz := ⟨_, rfl⟩
    refine g_l2d hG X16 hx (hb hby d4_39) (pc' := 40) rfl q39 ?_
    show G (T16.setTop (mkF m 40 #[.val (.ref a), .val (.long B), .second, .val (.double sp), .second, .val (.long v19), .second, .unset, .unset, .unset, .unset] [(.double v39)]))
    refine g_aloadN hG X16 hx (hb hby d4_40) (pc' := 41) rfl rfl rfl ?_
    show G (T16.setTop (mkF m 41 #[.val (.ref a), .val (.long B), .second, .val (.double sp), .second, .val (.long v19), .second, .unset, .unset, .unset, .unset] [(.ref a), (.double v39)]))
    refine g_getF hG X16 hx hZ hown (wd hw 43 rfl) Via.refl e16 F_nextFreeFraction_a (hb hby d4_41) (pc' := 44) rfl ?_
    intro T17 X17 e17
    show G (T17.setTop (mkF m 44 #[.val (.ref a), .val (.long B), .second, .val (.double sp), .second, .val (.long v19), .second, .unset, .unset, .unset, .unset] [(.double ff), (.double v39)]))
    refine g_dsub hG X17 hx (hb hby d4_44) (pc' := 45) rfl (by rw [← q39, ← q19, e1]; exact n1) (v := x) (by rw [← q39, ← q19]; exact e1) ?_
    show G (T17.setTop (mkF m 45 #[.val (.ref a), .val (.long B), .second, .val (.double sp), .second, .val (.long v19), .second, .unset, .unset, .unset, .unset] [(.double x)]))
    refine g_aloadN hG X17 hx (hb hby d4_45) (pc' := 46) rfl rfl rfl ?_
    show G (T17.setTop (mkF m 46 #[.val (.ref a), .val (.long B), .second, .val (.double sp), .second, .val (.long v19), .second, .unset, .unset, .unset, .unset] [(.ref a), (.double x)]))
    refine g_getF hG X17 hx hZ hown (wd hw 23 rfl) Via.refl e17 F_stableIntervalNanos_a (hb hby d4_46) (pc' := 49) rfl ?_
    intro T18 X18 e18
    show G (T18.setTop (mkF m 49 #[.val (.ref a), .val (.long B), .second, .val (.double sp), .second, .val (.long v19), .second, .unset, .unset, .unset, .unset] [(.double iv), (.double x)]))
    refine g_ddiv hG X18 hx (hb hby d4_49) (pc' := 50) rfl (by rw [e2]; exact n2) e2 ?_
    show G (T18.setTop (mkF m 50 #[.val (.ref a), .val (.long B), .second, .val (.double sp), .second, .val (.long v19), .second, .unset, .unset, .unset, .unset] [(.double y)]))
    refine g_dstore hG X18 hx (hb hby d4_50) (pc' := 52) rfl (Ls' := #[.val (.ref a), .val (.long B), .second, .val (.double sp), .second, .val (.long v19), .second, .val (.double y), .second, .unset, .unset]) rfl ?_
    show G (T18.setTop (mkF m 52 #[.val (.ref a), .val (.long B), .second, .val (.double sp), .second, .val (.long v19), .second, .val (.double y), .second, .unset, .unset] []))
    refine g_aloadN hG X18 hx (hb hby d4_52) (pc' := 53) rfl rfl rfl ?_
    show G (T18.setTop (mkF m 53 #[.val (.ref a), .val (.long B), .second, .val (.double sp), .second, .val (.long v19), .second, .val (.double y), .second, .unset, .unset] [(.ref a)]))
    refine g_getF hG X18 hx hZ hown (wd hw 27 rfl) Via.refl e18 F_savedUpPermits_a (hb hby d4_53) (pc' := 56) rfl ?_
    intro T19 X19 e19
    show G (T19.setTop (mkF m 56 #[.val (.ref a), .val (.long B), .second, .val (.double sp), .second, .val (.long v19), .second, .val (.double y), .second, .unset, .unset] [(.double sp)]))
    refine g_dload hG X19 hx (hb hby d4_56) (pc' := 58) rfl rfl ?_
    show G (T19.setTop (mkF m 58 #[.val (.ref a), .val (.long B), .second, .val (.double sp), .second, .val (.long v19), .second, .val (.double y), .second, .unset, .unset] [(.double y), (.double sp)]))
    refine g_dadd hG X19 hx (hb hby d4_58) (pc' := 59) rfl (by rw [e3]; exact n3) e3 ?_
    show G (T19.setTop (mkF m 59 #[.val (.ref a), .val (.long B), .second, .val (.double sp), .second, .val (.long v19), .second, .val (.double y), .second, .unset, .unset] [(.double z)]))
    refine g_dstore hG X19 hx (hb hby d4_59) (pc' := 61) rfl (Ls' := #[.val (.ref a), .val (.long B), .second, .val (.double sp), .second, .val (.long v19), .second, .val (.double y), .second, .val (.double z), .second]) rfl ?_
    show G (T19.setTop (mkF m 61 #[.val (.ref a), .val (.long B), .second, .val (.double sp), .second, .val (.long v19), .second, .val (.double y), .second, .val (.double z), .second] []))
    refine g_dload hG X19 hx (hb hby d4_61) (pc' := 63) rfl rfl ?_
    show G (T19.setTop (mkF m 63 #[.val (.ref a), .val (.long B), .second, .val (.double sp), .second, .val (.long v19), .second, .val (.double y), .second, .val (.double z), .second] [(.double z)]))
    refine g_aloadN hG X19 hx (hb hby d4_63) (pc' := 64) rfl rfl rfl ?_
    show G (T19.setTop (mkF m 64 #[.val (.ref a), .val (.long B), .second, .val (.double sp), .second, .val (.long v19), .second, .val (.double y), .second, .val (.double z), .second] [(.ref a), (.double z)]))
    refine g_getF hG X19 hx hZ hown (wd hw 25 rfl) Via.refl e19 F_maxSavedUpPermits_a (hb hby d4_64) (pc' := 67) rfl ?_
    intro T20 X20 e20
    show G (T20.setTop (mkF m 67 #[.val (.ref a), .val (.long B), .second, .val (.double sp), .second, .val (.long v19), .second, .val (.double y), .second, .val (.double z), .second] [(.double mx), (.double z)]))
    obtain ⟨v67, q67⟩ : ∃ zz : Int32, cmpValue (FP.dcmp z mx) .g = zz := ⟨_, rfl⟩
    refine g_dcmp hG X20 hx (hb hby d4_67) (pc' := 68) rfl q67 ?_
    show G (T20.setTop (mkF m 68 #[.val (.ref a), .val (.long B), .second, .val (.double sp), .second, .val (.long v19), .second, .val (.double y), .second, .val (.double z), .second] [(.int v67)]))
    refine g_ifYes hG X20 hx (hb hby d4_68) (pc' := 76) (by rcases c3 with g | g <;> rw [← q67, g] <;> rfl) (by decide) (by decide) ?_
    show G (T20.setTop (mkF m 76 #[.val (.ref a), .val (.long B), .second, .val (.double sp), .second, .val (.long v19), .second, .val (.double y), .second, .val (.double z), .second] []))
    refine g_aloadN hG X20 hx (hb hby d4_76) (pc' := 77) rfl rfl rfl ?_
    show G (T20.setTop (mkF m 77 #[.val (.ref a), .val (.long B), .second, .val (.double sp), .second, .val (.long v19), .second, .val (.double y), .second, .val (.double z), .second] [(.ref a)]))
    refine g_getF hG X20 hx hZ hown (wd hw 25 rfl) Via.refl e20 F_maxSavedUpPermits_a (hb hby d4_77) (pc' := 80) rfl ?_
    intro T21 X21 e21
    show G (T21.setTop (mkF m 80 #[.val (.ref a), .val (.long B), .second, .val (.double sp), .second, .val (.long v19), .second, .val (.double y), .second, .val (.double z), .second] [(.double mx)]))
    refine g_dstoreN hG X21 hx (hb hby d4_80) (pc' := 81) rfl (Ls' := #[.val (.ref a), .val (.long B), .second, .val (.double mx), .second, .val (.long v19), .second, .val (.double y), .second, .val (.double z), .second]) rfl ?_
    show G (T21.setTop (mkF m 81 #[.val (.ref a), .val (.long B), .second, .val (.double mx), .second, .val (.long v19), .second, .val (.double y), .second, .val (.double z), .second] []))
    refine g_dloadN hG X21 hx (hb hby d4_81) (pc' := 82) rfl rfl ?_
    show G (T21.setTop (mkF m 82 #[.val (.ref a), .val (.long B), .second, .val (.double mx), .second, .val (.long v19), .second, .val (.double y), .second, .val (.double z), .second] [(.double mx)]))
    exact e_retD hGe X21 hx hrt hlk (hb hby d4_82) e21 (by decide) (by decide) (⟨by rw [hr], NF0, rfl⟩)

def Q_rmM (Z : State) (x y r : Int64) (h0 : Heap) (n0 : Nat) (v : Option Value) (h : Heap) (L : List Loc) : Prop := v = some (.long r) ∧ Fr n0 L ∧ h = h0
set_option maxRecDepth 65536 in
set_option maxHeartbeats 40000000 in
theorem rmM (l : Launch) (Z : State) (a0 : Array Value) (hw : ∀ d ∈ tables_1, d.before a0 Z = true) (ws : List Jvm.Cond) (x y r : Int64) (h0 : Heap) (n0 : Nat) (Zs : n0 ≤ h0.size) (hm : (¬ y < x ∧ r = x) ∨ (y < x ∧ r = y)) :
    Con l (⟨"java/lang/Math", "min", "(JJ)J"⟩ : MethodName) jdk_29_method_70_code 4 (some .long) ws ({ frames := 0, cells := 0, slots := 0, locals := 0 } : Room) Z #[(.long x), (.long y)] h0 ({ frames := 0, cells := 0, slots := 0, locals := 0 } : Room).cells ({ frames := 0, cells := 0, slots := 0, locals := 0 } : Room).slots (Q_rmM Z x y r h0 n0) := by
  refine Con.of (Ls := #[.val (.long x), .second, .val (.long y), .second]) (Jvm.Free.JP.mathPlain rfl (by decide +kernel)) (fun m => by first | (simp [entryFrame, mkF, argsToLocals, Value.category]; done) | rfl) ?_
  intro p e s m below meth c s₁ G hGe hG hx hby hml hown hnm hrt hlk hZ X0 e0
  have hown : s.vm.findClass "java/lang/Math" = some m.cls := hown
  have hnm : meth.name = "min" := hnm
  have NF0 := Fr.nil n0
  rcases hm with ⟨c1, hr⟩ | ⟨c1, hr⟩
  · skip
    refine g_lloadN hG X0 hx (hb hby d5_0) (pc' := 1) rfl rfl ?_
    show G (s₁.setTop (mkF m 1 #[.val (.long x), .second, .val (.long y), .second] [(.long x)]))
    refine g_lloadN hG X0 hx (hb hby d5_1) (pc' := 2) rfl rfl ?_
    show G (s₁.setTop (mkF m 2 #[.val (.long x), .second, .val (.long y), .second] [(.long y), (.long x)]))
    obtain ⟨v2, q2⟩ : ∃ zz : Int32, lcmpW x y = zz := ⟨_, rfl⟩
    refine g_lcmp hG X0 hx (hb hby d5_2) (pc' := 3) rfl q2 ?_
    show G (s₁.setTop (mkF m 3 #[.val (.long x), .second, .val (.long y), .second] [(.int v2)]))
    refine g_ifNo hG X0 hx (hb hby d5_3) (pc' := 6) ((if0 _ _).trans (flt (show ¬ (0 : Int32) < v2 by rw [← q2]; exact fun g => c1 ((lw_gt _ _).mp g))).2.2.1) rfl ?_
    show G (s₁.setTop (mkF m 6 #[.val (.long x), .second, .val (.long y), .second] []))
    refine g_lloadN hG X0 hx (hb hby d5_6) (pc' := 7) rfl rfl ?_
    show G (s₁.setTop (mkF m 7 #[.val (.long x), .second, .val (.long y), .second] [(.long x)]))
    refine g_goto hG X0 hx (hb hby d5_7) (pc' := 11) (by decide) (by decide) ?_
    show G (s₁.setTop (mkF m 11 #[.val (.long x), .second, .val (.long y), .second] [(.long x)]))
    exact e_retJ hGe X0 hx hrt hlk (hb hby d5_11) e0 (by decide) (by decide) (⟨by rw [hr], NF0, rfl⟩)
  · skip
    refine g_lloadN hG X0 hx (hb hby d5_0) (pc' := 1) rfl rfl ?_
    show G (s₁.setTop (mkF m 1 #[.val (.long x), .second, .val (.long y), .second] [(.long x)]))
    refine g_lloadN hG X0 hx (hb hby d5_1) (pc' := 2) rfl rfl ?_
    show G (s₁.setTop (mkF m 2 #[.val (.long x), .second, .val (.long y), .second] [(.long y), (.long x)]))
    obtain ⟨v2, q2⟩ : ∃ zz : Int32, lcmpW x y = zz := ⟨_, rfl⟩
    refine g_lcmp hG X0 hx (hb hby d5_2) (pc' := 3) rfl q2 ?_
    show G (s₁.setTop (mkF m 3 #[.val (.long x), .second, .val (.long y), .second] [(.int v2)]))
    refine g_ifYes hG X0 hx (hb hby d5_3) (pc' := 10) ((if0 _ _).trans (tlt (show (0 : Int32) < v2 by rw [← q2]; exact (lw_gt _ _).mpr c1)).2.2.1) (by decide) (by decide) ?_
    show G (s₁.setTop (mkF m 10 #[.val (.long x), .second, .val (.long y), .second] []))
    refine g_lloadN hG X0 hx (hb hby d5_10) (pc' := 11) rfl rfl ?_
    show G (s₁.setTop (mkF m 11 #[.val (.long x), .second, .val (.long y), .second] [(.long y)]))
    exact e_retJ hGe X0 hx hrt hlk (hb hby d5_11) e0 (by decide) (by decide) (⟨by rw [hr], NF0, rfl⟩)

def Q_rm0 (Z : State) (i0 i1 : Int64) (i2 i3 i4 : Int32) (h0 : Heap) (n0 : Nat) (v : Option Value) (h : Heap) (L : List Loc) : Prop := v = some (.int 1) ∧ Fr n0 L
set_option maxRecDepth 65536 in
set_option maxHeartbeats 40000000 in
theorem rm0 (l : Launch) (Z : State) (a0 : Array Value) (hw : ∀ d ∈ tables_1, d.before a0 Z = true) (ws : List Jvm.Cond) (i0 i1 : Int64) (i2 i3 i4 : Int32) (h0 : Heap) (n0 : Nat) (Zs : n0 ≤ h0.size)  :
    Con l x code maxLocals ret ws room_1 Z #[(.long i0), (.long i1), (.int i2), (.int i3), (.int i4)] h0 room_1.cells room_1.slots (Q_rm0 Z i0 i1 i2 i3 i4 h0 n0) := by
  refine Con.of (Ls := #[.val (.long i0), .second, .val (.long i1), .second, .val (.int i2), .val (.int i3), .val (.int i4), .unset, .unset, .unset, .unset, .unset, .unset, .unset, .unset, .unset, .unset, .unset, .unset, .unset, .unset, .unset, .unset, .unset, .unset, .unset, .unset, .unset, .unset, .unset]) (plainFor_of_name (by first | (simp [plainName, overriddenIn]; done) | decide +kernel)) (fun m => by first | (simp [entryFrame, mkF, argsToLocals, Value.category, maxLocals]; done) | rfl) ?_
  intro p e s m below meth c s₁ G hGe hG hx hby hml hown hnm hrt hlk hZ X0 e0
  have hml : c.maxLocals = 30 := hml
  have hown : s.vm.findClass "com/example/schleuse/schleuse/LimiterStateSavedUpAtPinLaw" = some m.cls := hown
  have hnm : meth.name = "law" := hnm
  have NF0 := Fr.nil n0
  refine g_iload hG X0 hx (hb hby at_0) (pc' := 2) rfl rfl ?_
  show G (s₁.setTop (mkF m 2 #[.val (.long i0), .second, .val (.long i1), .second, .val (.int i2), .val (.int i3), .val (.int i4), .unset, .unset, .unset, .unset, .unset, .unset, .unset, .unset, .unset, .unset, .unset, .unset, .unset, .unset, .unset, .unset, .unset, .unset, .unset, .unset, .unset, .unset, .unset] [(.int i4)]))
  refine g_iconst hG X0 hx (hb hby at_2) (pc' := 3) rfl (v := (3 : Int32)) rfl ?_
  show G (s₁.setTop (mkF m 3 #[.val (.long i0), .second, .val (.long i1), .second, .val (.int i2), .val (.int i3), .val (.int i4), .unset, .unset, .unset, .unset, .unset, .unset, .unset, .unset, .unset, .unset, .unset, .unset, .unset, .unset, .unset, .unset, .unset, .unset, .unset, .unset, .unset, .unset, .unset] [(.int 3), (.int i4)]))
  obtain ⟨v3, q3⟩ : ∃ zz : Int32, i4 &&& (3 : Int32) = zz := ⟨_, rfl⟩
  refine g_iand hG X0 hx (hb hby at_3) (pc' := 4) rfl q3 ?_
  show G (s₁.setTop (mkF m 4 #[.val (.long i0), .second, .val (.long i1), .second, .val (.int i2), .val (.int i3), .val (.int i4), .unset, .unset, .unset, .unset, .unset, .unset, .unset, .unset, .unset, .unset, .unset, .unset, .unset, .unset, .unset, .unset, .unset, .unset, .unset, .unset, .unset, .unset, .unset] [(.int v3)]))
  refine g_istore hG X0 hx (hb hby at_4) (pc' := 6) rfl (Ls' := #[.val (.long i0), .second, .val (.long i1), .second, .val (.int i2), .val (.int i3), .val (.int i4), .val (.int v3), .unset, .unset, .unset, .unset, .unset, .unset, .unset, .unset, .unset, .unset, .unset, .unset, .unset, .unset, .unset, .unset, .unset, .unset, .unset, .unset, .unset, .unset]) rfl ?_
  show G (s₁.setTop (mkF m 6 #[.val (.long i0), .second, .val (.long i1), .second, .val (.int i2), .val (.int i3), .val (.int i4), .val (.int v3), .unset, .unset, .unset, .unset, .unset, .unset, .unset, .unset, .unset, .unset, .unset, .unset, .unset, .unset, .unset, .unset, .unset, .unset, .unset, .unset, .unset, .unset] []))
  refine g_iload hG X0 hx (hb hby at_6) (pc' := 8) rfl rfl ?_
  show G (s₁.setTop (mkF m 8 #[.val (.long i0), .second, .val (.long i1), .second, .val (.int i2), .val (.int i3), .val (.int i4), .val (.int v3), .unset, .unset, .unset, .unset, .unset, .unset, .unset, .unset, .unset, .unset, .unset, .unset, .unset, .unset, .unset, .unset, .unset, .unset, .unset, .unset, .unset, .unset] [(.int i4)]))
  refine g_iconst hG X0 hx (hb hby at_8) (pc' := 9) rfl (v := (2 : Int32)) rfl ?_
  show G (s₁.setTop (mkF m 9 #[.val (.long i0), .second, .val (.long i1), .second, .val (.int i2), .val (.int i3), .val (.int i4), .val (.int v3), .unset, .unset, .unset, .unset, .unset, .unset, .unset, .unset, .unset, .unset, .unset, .unset, .unset, .unset, .unset, .unset, .unset, .unset, .unset, .unset, .unset, .unset] [(.int 2), (.int i4)]))
  obtain ⟨v9, q9⟩ : ∃ zz : Int32, (i4.toUInt32 >>> ((2 : Int32) &&& 31).toUInt32).toInt32 = zz := ⟨_, rfl⟩
  refine g_iushr hG X0 hx (hb hby at_9) (pc' := 10) rfl q9 ?_
  show G (s₁.setTop (mkF m 10 #[.val (.long i0), .second, .val (.long i1), .second, .val (.int i2), .val (.int i3), .val (.int i4), .val (.int v3), .unset, .unset, .unset, .unset, .unset, .unset, .unset, .unset, .unset, .unset, .unset, .unset, .unset, .unset, .unset, .unset, .unset, .unset, .unset, .unset, .unset, .unset] [(.int v9)]))
  refine g_iconst hG X0 hx (hb hby at_10) (pc' := 11) rfl (v := (3 : Int32)) rfl ?_
  show G (s₁.setTop (mkF m 11 #[.val (.long i0), .second, .val (.long i1), .second, .val (.int i2), .val (.int i3), .val (.int i4), .val (.int v3), .unset, .unset, .unset, .unset, .unset, .unset, .unset, .unset, .unset, .unset, .unset, .unset, .unset, .unset, .unset, .unset, .unset, .unset, .unset, .unset, .unset, .unset] [(.int 3), (.int v9)]))
  obtain ⟨v11, q11⟩ : ∃ zz : Int32, v9 &&& (3 : Int32) = zz := ⟨_, rfl⟩
  refine g_iand hG X0 hx (hb hby at_11) (pc' := 12) rfl q11 ?_
  show G (s₁.setTop (mkF m 12 #[.val (.long i0), .second, .val (.long i1), .second, .val (.int i2), .val (.int i3), .val (.int i4), .val (.int v3), .unset, .unset, .unset, .unset, .unset, .unset, .unset, .unset, .unset, .unset, .unset, .unset, .unset, .unset, .unset, .unset, .unset, .unset, .unset, .unset, .unset, .unset] [(.int v11)]))
  refine g_istore hG X0 hx (hb hby at_12) (pc' := 14) rfl (Ls' := #[.val (.long i0), .second, .val (.long i1), .second, .val (.int i2), .val (.int i3), .val (.int i4), .val (.int v3), .val (.int v11), .unset, .unset, .unset, .unset, .unset, .unset, .unset, .unset, .unset, .unset, .unset, .unset, .unset, .unset, .unset, .unset, .unset, .unset, .unset, .unset, .unset]) rfl ?_
  show G (s₁.setTop (mkF m 14 #[.val (.long i0), .second, .val (.long i1), .second, .val (.int i2), .val (.int i3), .val (.int i4), .val (.int v3), .val (.int v11), .unset, .unset, .unset, .unset, .unset, .unset, .unset, .unset, .unset, .unset, .unset, .unset, .unset, .unset, .unset, .unset, .unset, .unset, .unset, .unset, .unset] []))
  refine g_iload hG X0 hx (hb hby at_14) (pc' := 16) rfl rfl ?_
  show G (s₁.setTop (mkF m 16 #[.val (.long i0), .second, .val (.long i1), .second, .val (.int i2), .val (.int i3), .val (.int i4), .val (.int v3), .val (.int v11), .unset, .unset, .unset, .unset, .unset, .unset, .unset, .unset, .unset, .unset, .unset, .unset, .unset, .unset, .unset, .unset, .unset, .unset, .unset, .unset, .unset] [(.int i4)]))
  refine g_iconst hG X0 hx (hb hby at_16) (pc' := 17) rfl (v := (4 : Int32)) rfl ?_
  show G (s₁.setTop (mkF m 17 #[.val (.long i0), .second, .val (.long i1), .second, .val (.int i2), .val (.int i3), .val (.int i4), .val (.int v3), .val (.int v11), .unset, .unset, .unset, .unset, .unset, .unset, .unset, .unset, .unset, .unset, .unset, .unset, .unset, .unset, .unset, .unset, .unset, .unset, .unset, .unset, .unset] [(.int 4), (.int i4)]))
  obtain ⟨v17, q17⟩ : ∃ zz : Int32, (i4.toUInt32 >>> ((4 : Int32) &&& 31).toUInt32).toInt32 = zz := ⟨_, rfl⟩
  refine g_iushr hG X0 hx (hb hby at_17) (pc' := 18) rfl q17 ?_
  show G (s₁.setTop (mkF m 18 #[.val (.long i0), .second, .val (.long i1), .second, .val (.int i2), .val (.int i3), .val (.int i4), .val (.int v3), .val (.int v11), .unset, .unset, .unset, .unset, .unset, .unset, .unset, .unset, .unset, .unset, .unset, .unset, .unset, .unset, .unset, .unset, .unset, .unset, .unset, .unset, .unset] [(.int v17)]))
  refine g_iconst hG X0 hx (hb hby at_18) (pc' := 19) rfl (v := (1 : Int32)) rfl ?_
  show G (s₁.setTop (mkF m 19 #[.val (.long i0), .second, .val (.long i1), .second, .val (.int i2), .val (.int i3), .val (.int i4), .val (.int v3), .val (.int v11), .unset, .unset, .unset, .unset, .unset, .unset, .unset, .unset, .unset, .unset, .unset, .unset, .unset, .unset, .unset, .unset, .unset, .unset, .unset, .unset, .unset] [(.int 1), (.int v17)]))
  obtain ⟨v19, q19⟩ : ∃ zz : Int32, v17 &&& (1 : Int32) = zz := ⟨_, rfl⟩
  refine g_iand hG X0 hx (hb hby at_19) (pc' := 20) rfl q19 ?_
  show G (s₁.setTop (mkF m 20 #[.val (.long i0), .second, .val (.long i1), .second, .val (.int i2), .val (.int i3), .val (.int i4), .val (.int v3), .val (.int v11), .unset, .unset, .unset, .unset, .unset, .unset, .unset, .unset, .unset, .unset, .unset, .unset, .unset, .unset, .unset, .unset, .unset, .unset, .unset, .unset, .unset] [(.int v19)]))
  have c28 : ∀ (wu : Int32), (wu = 0 ∨ wu = 1) → G (s₁.setTop (mkF m 28 #[.val (.long i0), .second, .val (.long i1), .second, .val (.int i2), .val (.int i3), .val (.int i4), .val (.int v3), .val (.int v11), .unset, .unset, .unset, .unset, .unset, .unset, .unset, .unset, .unset, .unset, .unset, .unset, .unset, .unset, .unset, .unset, .unset, .unset, .unset, .unset, .unset] [(.int wu)])) := by
    intro wu hwu
    refine g_istore hG X0 hx (hb hby at_28) (pc' := 30) rfl (Ls' := #[.val (.long i0), .second, .val (.long i1), .second, .val (.int i2), .val (.int i3), .val (.int i4), .val (.int v3), .val (.int v11), .val (.int wu), .unset, .unset, .unset, .unset, .unset, .unset, .unset, .unset, .unset, .unset, .unset, .unset, .unset, .unset, .unset, .unset, .unset, .unset, .unset, .unset]) rfl ?_
    show G (s₁.setTop (mkF m 30 #[.val (.long i0), .second, .val (.long i1), .second, .val (.int i2), .val (.int i3), .val (.int i4), .val (.int v3), .val (.int v11), .val (.int wu), .unset, .unset, .unset, .unset, .unset, .unset, .unset, .unset, .unset, .unset, .unset, .unset, .unset, .unset, .unset, .unset, .unset, .unset, .unset, .unset] []))
    refine g_iload hG X0 hx (hb hby at_30) (pc' := 32) rfl rfl ?_
    show G (s₁.setTop (mkF m 32 #[.val (.long i0), .second, .val (.long i1), .second, .val (.int i2), .val (.int i3), .val (.int i4), .val (.int v3), .val (.int v11), .val (.int wu), .unset, .unset, .unset, .unset, .unset, .unset, .unset, .unset, .unset, .unset, .unset, .unset, .unset, .unset, .unset, .unset, .unset, .unset, .unset, .unset] [(.int i4)]))
    refine g_iconst hG X0 hx (hb hby at_32) (pc' := 33) rfl (v := (5 : Int32)) rfl ?_
    show G (s₁.setTop (mkF m 33 #[.val (.long i0), .second, .val (.long i1), .second, .val (.int i2), .val (.int i3), .val (.int i4), .val (.int v3), .val (.int v11), .val (.int wu), .unset, .unset, .unset, .unset, .unset, .unset, .unset, .unset, .unset, .unset, .unset, .unset, .unset, .unset, .unset, .unset, .unset, .unset, .unset, .unset] [(.int 5), (.int i4)]))
    obtain ⟨v33, q33⟩ : ∃ zz : Int32, (i4.toUInt32 >>> ((5 : Int32) &&& 31).toUInt32).toInt32 = zz := ⟨_, rfl⟩
    refine g_iushr hG X0 hx (hb hby at_33) (pc' := 34) rfl q33 ?_
    show G (s₁.setTop (mkF m 34 #[.val (.long i0), .second, .val (.long i1), .second, .val (.int i2), .val (.int i3), .val (.int i4), .val (.int v3), .val (.int v11), .val (.int wu), .unset, .unset, .unset, .unset, .unset, .unset, .unset, .unset, .unset, .unset, .unset, .unset, .unset, .unset, .unset, .unset, .unset, .unset, .unset, .unset] [(.int v33)]))
    refine g_iconst hG X0 hx (hb hby at_34) (pc' := 35) rfl (v := (1 : Int32)) rfl ?_
    show G (s₁.setTop (mkF m 35 #[.val (.long i0), .second, .val (.long i1), .second, .val (.int i2), .val (.int i3), .val (.int i4), .val (.int v3), .val (.int v11), .val (.int wu), .unset, .unset, .unset, .unset, .unset, .unset, .unset, .unset, .unset, .unset, .unset, .unset, .unset, .unset, .unset, .unset, .unset, .unset, .unset, .unset] [(.int 1), (.int v33)]))
    obtain ⟨v35, q35⟩ : ∃ zz : Int32, v33 &&& (1 : Int32) = zz := ⟨_, rfl⟩
    refine g_iand hG X0 hx (hb hby at_35) (pc' := 36) rfl q35 ?_
    show G (s₁.setTop (mkF m 36 #[.val (.long i0), .second, .val (.long i1), .second, .val (.int i2), .val (.int i3), .val (.int i4), .val (.int v3), .val (.int v11), .val (.int wu), .unset, .unset, .unset, .unset, .unset, .unset, .unset, .unset, .unset, .unset, .unset, .unset, .unset, .unset, .unset, .unset, .unset, .unset, .unset, .unset] [(.int v35)]))
    have c44 : ∀ (rl : Int32), G (s₁.setTop (mkF m 44 #[.val (.long i0), .second, .val (.long i1), .second, .val (.int i2), .val (.int i3), .val (.int i4), .val (.int v3), .val (.int v11), .val (.int wu), .unset, .unset, .unset, .unset, .unset, .unset, .unset, .unset, .unset, .unset, .unset, .unset, .unset, .unset, .unset, .unset, .unset, .unset, .unset, .unset] [(.int rl)])) := by
      intro rl
      refine g_istore hG X0 hx (hb hby at_44) (pc' := 46) rfl (Ls' := #[.val (.long i0), .second, .val (.long i1), .second, .val (.int i2), .val (.int i3), .val (.int i4), .val (.int v3), .val (.int v11), .val (.int wu), .val (.int rl), .unset, .unset, .unset, .unset, .unset, .unset, .unset, .unset, .unset, .unset, .unset, .unset, .unset, .unset, .unset, .unset, .unset, .unset, .unset]) rfl ?_
      show G (s₁.setTop (mkF m 46 #[.val (.long i0), .second, .val (.long i1), .second, .val (.int i2), .val (.int i3), .val (.int i4), .val (.int v3), .val (.int v11), .val (.int wu), .val (.int rl), .unset, .unset, .unset, .unset, .unset, .unset, .unset, .unset, .unset, .unset, .unset, .unset, .unset, .unset, .unset, .unset, .unset, .unset, .unset] []))
      refine g_iload hG X0 hx (hb hby at_46) (pc' := 48) rfl rfl ?_
      show G (s₁.setTop (mkF m 48 #[.val (.long i0), .second, .val (.long i1), .second, .val (.int i2), .val (.int i3), .val (.int i4), .val (.int v3), .val (.int v11), .val (.int wu), .val (.int rl), .unset, .unset, .unset, .unset, .unset, .unset, .unset, .unset, .unset, .unset, .unset, .unset, .unset, .unset, .unset, .unset, .unset, .unset, .unset] [(.int i2)]))
      refine g_ldcInt hG X0 hx hZ hown (wd hw 0 rfl) (hb hby at_48) (pc' := 50) rfl ?_
      show G (s₁.setTop (mkF m 50 #[.val (.long i0), .second, .val (.long i1), .second, .val (.int i2), .val (.int i3), .val (.int i4), .val (.int v3), .val (.int v11), .val (.int wu), .val (.int rl), .unset, .unset, .unset, .unset, .unset, .unset, .unset, .unset, .unset, .unset, .unset, .unset, .unset, .unset, .unset, .unset, .unset, .unset, .unset] [(.int 65535), (.int i2)]))
      obtain ⟨v50, q50⟩ : ∃ zz : Int32, i2 &&& (65535 : Int32) = zz := ⟨_, rfl⟩
      refine g_iand hG X0 hx (hb hby at_50) (pc' := 51) rfl q50 ?_
      show G (s₁.setTop (mkF m 51 #[.val (.long i0), .second, .val (.long i1), .second, .val (.int i2), .val (.int i3), .val (.int i4), .val (.int v3), .val (.int v11), .val (.int wu), .val (.int rl), .unset, .unset, .unset, .unset, .unset, .unset, .unset, .unset, .unset, .unset, .unset, .unset, .unset, .unset, .unset, .unset, .unset, .unset, .unset] [(.int v50)]))
      obtain ⟨v51, q51⟩ : ∃ zz : Int64, v50.toInt64 = zz := ⟨_, rfl⟩
      refine g_i2l hG X0 hx (hb hby at_51) (pc' := 52) rfl q51 ?_
      show G (s₁.setTop (mkF m 52 #[.val (.long i0), .second, .val (.long i1), .second, .val (.int i2), .val (.int i3), .val (.int i4), .val (.int v3), .val (.int v11), .val (.int wu), .val (.int rl), .unset, .unset, .unset, .unset, .unset, .unset, .unset, .unset, .unset, .unset, .unset, .unset, .unset, .unset, .unset, .unset, .unset, .unset, .unset] [(.long v51)]))
      refine g_lstore hG X0 hx (hb hby at_52) (pc' := 54) rfl (Ls' := #[.val (.long i0), .second, .val (.long i1), .second, .val (.int i2), .val (.int i3), .val (.int i4), .val (.int v3), .val (.int v11), .val (.int wu), .val (.int rl), .val (.long v51), .second, .unset, .unset, .unset, .unset, .unset, .unset, .unset, .unset, .unset, .unset, .unset, .unset, .unset, .unset, .unset, .unset, .unset]) rfl ?_
      show G (s₁.setTop (mkF m 54 #[.val (.long i0), .second, .val (.long i1), .second, .val (.int i2), .val (.int i3), .val (.int i4), .val (.int v3), .val (.int v11), .val (.int wu), .val (.int rl), .val (.long v51), .second, .unset, .unset, .unset, .unset, .unset, .unset, .unset, .unset, .unset, .unset, .unset, .unset, .unset, .unset, .unset, .unset, .unset] []))
      refine g_iload hG X0 hx (hb hby at_54) (pc' := 56) rfl rfl ?_
      show G (s₁.setTop (mkF m 56 #[.val (.long i0), .second, .val (.long i1), .second, .val (.int i2), .val (.int i3), .val (.int i4), .val (.int v3), .val (.int v11), .val (.int wu), .val (.int rl), .val (.long v51), .second, .unset, .unset, .unset, .unset, .unset, .unset, .unset, .unset, .unset, .unset, .unset, .unset, .unset, .unset, .unset, .unset, .unset] [(.int i3)]))
      refine g_ldcInt hG X0 hx hZ hown (wd hw 0 rfl) (hb hby at_56) (pc' := 58) rfl ?_
      show G (s₁.setTop (mkF m 58 #[.val (.long i0), .second, .val (.long i1), .second, .val (.int i2), .val (.int i3), .val (.int i4), .val (.int v3), .val (.int v11), .val (.int wu), .val (.int rl), .val (.long v51), .second, .unset, .unset, .unset, .unset, .unset, .unset, .unset, .unset, .unset, .unset, .unset, .unset, .unset, .unset, .unset, .unset, .unset] [(.int 65535), (.int i3)]))
      obtain ⟨v58, q58⟩ : ∃ zz : Int32, i3 &&& (65535 : Int32) = zz := ⟨_, rfl⟩
      refine g_iand hG X0 hx (hb hby at_58) (pc' := 59) rfl q58 ?_
      show G (s₁.setTop (mkF m 59 #[.val (.long i0), .second, .val (.long i1), .second, .val (.int i2), .val (.int i3), .val (.int i4), .val (.int v3), .val (.int v11), .val (.int wu), .val (.int rl), .val (.long v51), .second, .unset, .unset, .unset, .unset, .unset, .unset, .unset, .unset, .unset, .unset, .unset, .unset, .unset, .unset, .unset, .unset, .unset] [(.int v58)]))
      obtain ⟨v59, q59⟩ : ∃ zz : Int64, v58.toInt64 = zz := ⟨_, rfl⟩
      refine g_i2l hG X0 hx (hb hby at_59) (pc' := 60) rfl q59 ?_
      show G (s₁.setTop (mkF m 60 #[.val (.long i0), .second, .val (.long i1), .second, .val (.int i2), .val (.int i3), .val (.int i4), .val (.int v3), .val (.int v11), .val (.int wu), .val (.int rl), .val (.long v51), .second, .unset, .unset, .unset, .unset, .unset, .unset, .unset, .unset, .unset, .unset, .unset, .unset, .unset, .unset, .unset, .unset, .unset] [(.long v59)]))
      refine g_lstore hG X0 hx (hb hby at_60) (pc' := 62) rfl (Ls' := #[.val (.long i0), .second, .val (.long i1), .second, .val (.int i2), .val (.int i3), .val (.int i4), .val (.int v3), .val (.int v11), .val (.int wu), .val (.int rl), .val (.long v51), .second, .val (.long v59), .second, .unset, .unset, .unset, .unset, .unset, .unset, .unset, .unset, .unset, .unset, .unset, .unset, .unset, .unset, .unset]) rfl ?_
      show G (s₁.setTop (mkF m 62 #[.val (.long i0), .second, .val (.long i1), .second, .val (.int i2), .val (.int i3), .val (.int i4), .val (.int v3), .val (.int v11), .val (.int wu), .val (.int rl), .val (.long v51), .second, .val (.long v59), .second, .unset, .unset, .unset, .unset, .unset, .unset, .unset, .unset, .unset, .unset, .unset, .unset, .unset, .unset, .unset] []))
      have b11 : 0 ≤ v11.toInt ∧ v11.toInt ≤ 3 := by rw [← q11]; exact c_and v9 3 (by decide)
      have b51 : 0 ≤ v51.toInt ∧ v51.toInt ≤ 65535 := by rw [← q51, c_i2l, ← q50]; exact c_and _ 65535 (by decide)
      have b59 : 0 ≤ v59.toInt ∧ v59.toInt ≤ 65535 := by rw [← q59, c_i2l, ← q58]; exact c_and _ 65535 (by decide)
      have c108 : ∀ (rt : UInt64), ((v3 = 0 ∧ rt = 4750679015621132288) ∨ (v3 = 1 ∧ rt = 4746175415993761792) ∨ (v3 = 2 ∧ rt = 4741671816366391296) ∨ ((¬ v3 = 0 ∧ ¬ v3 = 1 ∧ ¬ v3 = 2) ∧ rt = 4737168216739020800)) → G (s₁.setTop (mkF m 108 #[.val (.long i0), .second, .val (.long i1), .second, .val (.int i2), .val (.int i3), .val (.int i4), .val (.int v3), .val (.int v11), .val (.int wu), .val (.int rl), .val (.long v51), .second, .val (.long v59), .second, .val (.double rt), .second, .unset, .unset, .unset, .unset, .unset, .unset, .unset, .unset, .unset, .unset, .unset, .unset, .unset] [])) := by
        intro rt hrte
        refine g_iload hG X0 hx (hb hby at_108) (pc' := 110) rfl rfl ?_
        show G (s₁.setTop (mkF m 110 #[.val (.long i0), .second, .val (.long i1), .second, .val (.int i2), .val (.int i3), .val (.int i4), .val (.int v3), .val (.int v11), .val (.int wu), .val (.int rl), .val (.long v51), .second, .val (.long v59), .second, .val (.double rt), .second, .unset, .unset, .unset, .unset, .unset, .unset, .unset, .unset, .unset, .unset, .unset, .unset, .unset] [(.int rl)]))
        have c126 : ∀ (nw : Int64), G (s₁.setTop (mkF m 126 #[.val (.long i0), .second, .val (.long i1), .second, .val (.int i2), .val (.int i3), .val (.int i4), .val (.int v3), .val (.int v11), .val (.int wu), .val (.int rl), .val (.long v51), .second, .val (.long v59), .second, .val (.double rt), .second, .unset, .unset, .unset, .unset, .unset, .unset, .unset, .unset, .unset, .unset, .unset, .unset, .unset] [(.long nw)])) := by
          intro nw
          refine g_lstore hG X0 hx (hb hby at_126) (pc' := 128) rfl (Ls' := #[.val (.long i0), .second, .val (.long i1), .second, .val (.int i2), .val (.int i3), .val (.int i4), .val (.int v3), .val (.int v11), .val (.int wu), .val (.int rl), .val (.long v51), .second, .val (.long v59), .second, .val (.double rt), .second, .val (.long nw), .second, .unset, .unset, .unset, .unset, .unset, .unset, .unset, .unset, .unset, .unset, .unset]) rfl ?_
          show G (s₁.setTop (mkF m 128 #[.val (.long i0), .second, .val (.long i1), .second, .val (.int i2), .val (.int i3), .val (.int i4), .val (.int v3), .val (.int v11), .val (.int wu), .val (.int rl), .val (.long v51), .second, .val (.long v59), .second, .val (.double rt), .second, .val (.long nw), .second, .unset, .unset, .unset, .unset, .unset, .unset, .unset, .unset, .unset, .unset, .unset] []))
          obtain ⟨iv, I, k, hiv, Div, hI, hk, hkk⟩ := own_rate v3 rt hrte
          have D136 : OwnFl.DV (FP.l2d v59) (v59.toInt : Rat) := OwnFl.l2d_DV (by omega)
          have D148 : OwnFl.DV (FP.l2d v51) (v51.toInt : Rat) := OwnFl.l2d_DV (by omega)
          refine g_newO hG X0 hx hZ hown (wd hw 2 rfl) (wd hw 3 rfl) (wd hw 4 rfl) e0 (hb hby at_128) (by decide) (by decide) (pc' := 131) rfl ?_
          intro T1 h1 sb gs1 X1 e1 E1 Aq1 Dq1
          have ge_sb : n0 ≤ sb := gs1 ▸ Zs
          have Zs := Nat.le_trans Zs E1.1
          have Ex_sb := Aq1
          have F_nextFreeNanos_sb : Fld Z h1 sb "com/example/schleuse/schleuse/LimiterState" "nextFreeNanos" "J" (.long 0) := Dq1 (Or.inl (wd hw 13 rfl)) (ty := .long) (by decide)
          have F_warmUp_sb : Fld Z h1 sb "com/example/schleuse/schleuse/LimiterState" "warmUp" "Z" (.int 0) := Dq1 (Or.inr (wd hw 15 rfl)) (ty := .boolean) (by decide)
          have F_rate_sb : Fld Z h1 sb "com/example/schleuse/schleuse/LimiterState" "rate" "D" (.double 0) := Dq1 (Or.inl (wd hw 21 rfl)) (ty := .double) (by decide)
          have F_stableIntervalNanos_sb : Fld Z h1 sb "com/example/schleuse/schleuse/LimiterState" "stableIntervalNanos" "D" (.double 0) := Dq1 (Or.inl (wd hw 24 rfl)) (ty := .double) (by decide)
          have F_maxSavedUpPermits_sb : Fld Z h1 sb "com/example/schleuse/schleuse/LimiterState" "maxSavedUpPermits" "D" (.double 0) := Dq1 (Or.inl (wd hw 26 rfl)) (ty := .double) (by decide)
          have F_savedUpPermits_sb : Fld Z h1 sb "com/example/schleuse/schleuse/LimiterState" "savedUpPermits" "D" (.double 0) := Dq1 (Or.inl (wd hw 28 rfl)) (ty := .double) (by decide)
          have F_nextFreeFraction_sb : Fld Z h1 sb "com/example/schleuse/schleuse/LimiterState" "nextFreeFraction" "D" (.double 0) := Dq1 (Or.inl (wd hw 33 rfl)) (ty := .double) (by decide)
          show G (T1.setTop (mkF m 131 #[.val (.long i0), .second, .val (.long i1), .second, .val (.int i2), .val (.int i3), .val (.int i4), .val (.int v3), .val (.int v11), .val (.int wu), .val (.int rl), .val (.long v51), .second, .val (.long v59), .second, .val (.double rt), .second, .val (.long nw), .second, .unset, .unset, .unset, .unset, .unset, .unset, .unset, .unset, .unset, .unset, .unset] [(.ref sb)]))
          refine g_dup hG X1 hx (hb hby at_131) (pc' := 132) rfl rfl ?_
          show G (T1.setTop (mkF m 132 #[.val (.long i0), .second, .val (.long i1), .second, .val (.int i2), .val (.int i3), .val (.int i4), .val (.int v3), .val (.int v11), .val (.int wu), .val (.int rl), .val (.long v51), .second, .val (.long v59), .second, .val (.double rt), .second, .val (.long nw), .second, .unset, .unset, .unset, .unset, .unset, .unset, .unset, .unset, .unset, .unset, .unset] [(.ref sb), (.ref sb)]))
          refine g_dload hG X1 hx (hb hby at_132) (pc' := 134) rfl rfl ?_
          show G (T1.setTop (mkF m 134 #[.val (.long i0), .second, .val (.long i1), .second, .val (.int i2), .val (.int i3), .val (.int i4), .val (.int v3), .val (.int v11), .val (.int wu), .val (.int rl), .val (.long v51), .second, .val (.long v59), .second, .val (.double rt), .second, .val (.long nw), .second, .unset, .unset, .unset, .unset, .unset, .unset, .unset, .unset, .unset, .unset, .unset] [(.double rt), (.ref sb), (.ref sb)]))
          refine g_lload hG X1 hx (hb hby at_134) (pc' := 136) rfl rfl ?_
          show G (T1.setTop (mkF m 136 #[.val (.long i0), .second, .val (.long i1), .second, .val (.int i2), .val (.int i3), .val (.int i4), .val (.int v3), .val (.int v11), .val (.int wu), .val (.int rl), .val (.long v51), .second, .val (.long v59), .second, .val (.double rt), .second, .val (.long nw), .second, .unset, .unset, .unset, .unset, .unset, .unset, .unset, .unset, .unset, .unset, .unset] [(.long v59), (.double rt), (.ref sb), (.ref sb)]))
          obtain ⟨v136, q136⟩ : ∃ zz : UInt64, FP.l2d v59 = zz := ⟨_, rfl⟩
          refine g_l2d hG X1 hx (hb hby at_136) (pc' := 137) rfl q136 ?_
          show G (T1.setTop (mkF m 137 #[.val (.long i0), .second, .val (.long i1), .second, .val (.int i2), .val (.int i3), .val (.int i4), .val (.int v3), .val (.int v11), .val (.int wu), .val (.int rl), .val (.long v51), .second, .val (.long v59), .second, .val (.double rt), .second, .val (.long nw), .second, .unset, .unset, .unset, .unset, .unset, .unset, .unset, .unset, .unset, .unset, .unset] [(.double v136), (.double rt), (.ref sb), (.ref sb)]))
          rw [q136] at D136
          refine g_iload hG X1 hx (hb hby at_137) (pc' := 139) rfl rfl ?_
          show G (T1.setTop (mkF m 139 #[.val (.long i0), .second, .val (.long i1), .second, .val (.int i2), .val (.int i3), .val (.int i4), .val (.int v3), .val (.int v11), .val (.int wu), .val (.int rl), .val (.long v51), .second, .val (.long v59), .second, .val (.double rt), .second, .val (.long nw), .second, .unset, .unset, .unset, .unset, .unset, .unset, .unset, .unset, .unset, .unset, .unset] [(.int wu), (.double v136), (.double rt), (.ref sb), (.ref sb)]))
          refine g_callI hG X1 hx hZ (y := (⟨"com/example/schleuse/schleuse/LimiterState", "<init>", "(DDZ)V"⟩ : MethodName)) 1 rfl hown (wd hw 5 rfl) (wd hw 6 rfl) (wd hw 4 rfl) (wd hw 7 rfl) (by decide) (rmI l Z a0 hw [] sb rt v136 wu h1 n0 Zs ge_sb hwu (by rw [hiv]; exact Div.noNaN) Ex_sb F_nextFreeNanos_sb F_warmUp_sb F_rate_sb F_stableIntervalNanos_sb F_maxSavedUpPermits_sb F_savedUpPermits_sb F_nextFreeFraction_sb) (by decide) (by decide) (by rw [hml]; rfl) pd_1 rfl (argsL := [(.double rt), (.double v136), (.int wu)]) (rest := [(.ref sb)]) rfl rfl (Nat.le_of_eq rfl) (hb hby at_139) e1 (by decide) (by decide) (pc' := 142) rfl ?_
          intro T2 rv2 L2 X2 hQ2
          obtain ⟨rfl, Nq2, Kq2, Ex_sb, F_nextFreeNanos_sb, F_warmUp_sb, F_rate_sb, F_stableIntervalNanos_sb, F_maxSavedUpPermits_sb, F_savedUpPermits_sb, F_nextFreeFraction_sb⟩ := hQ2
          have NF2 := Fr.app NF0 Nq2
          rw [hiv] at F_stableIntervalNanos_sb
          have Zs := Nat.le_trans Zs Kq2.1
          show G (T2.setTop (mkF m 142 #[.val (.long i0), .second, .val (.long i1), .second, .val (.int i2), .val (.int i3), .val (.int i4), .val (.int v3), .val (.int v11), .val (.int wu), .val (.int rl), .val (.long v51), .second, .val (.long v59), .second, .val (.double rt), .second, .val (.long nw), .second, .unset, .unset, .unset, .unset, .unset, .unset, .unset, .unset, .unset, .unset, .unset] [(.ref sb)]))
          refine g_astore hG X2 hx (hb hby at_142) (pc' := 144) rfl rfl (Ls' := #[.val (.long i0), .second, .val (.long i1), .second, .val (.int i2), .val (.int i3), .val (.int i4), .val (.int v3), .val (.int v11), .val (.int wu), .val (.int rl), .val (.long v51), .second, .val (.long v59), .second, .val (.double rt), .second, .val (.long nw), .second, .val (.ref sb), .unset, .unset, .unset, .unset, .unset, .unset, .unset, .unset, .unset, .unset]) rfl ?_
          show G (T2.setTop (mkF m 144 #[.val (.long i0), .second, .val (.long i1), .second, .val (.int i2), .val (.int i3), .val (.int i4), .val (.int v3), .val (.int v11), .val (.int wu), .val (.int rl), .val (.long v51), .second, .val (.long v59), .second, .val (.double rt), .second, .val (.long nw), .second, .val (.ref sb), .unset, .unset, .unset, .unset, .unset, .unset, .unset, .unset, .unset, .unset] []))
          refine g_aload hG X2 hx (hb hby at_144) (pc' := 146) rfl rfl rfl ?_
          show G (T2.setTop (mkF m 146 #[.val (.long i0), .second, .val (.long i1), .second, .val (.int i2), .val (.int i3), .val (.int i4), .val (.int v3), .val (.int v11), .val (.int wu), .val (.int rl), .val (.long v51), .second, .val (.long v59), .second, .val (.double rt), .second, .val (.long nw), .second, .val (.ref sb), .unset, .unset, .unset, .unset, .unset, .unset, .unset, .unset, .unset, .unset] [(.ref sb)]))
          refine g_lload hG X2 hx (hb hby at_146) (pc' := 148) rfl rfl ?_
          show G (T2.setTop (mkF m 148 #[.val (.long i0), .second, .val (.long i1), .second, .val (.int i2), .val (.int i3), .val (.int i4), .val (.int v3), .val (.int v11), .val (.int wu), .val (.int rl), .val (.long v51), .second, .val (.long v59), .second, .val (.double rt), .second, .val (.long nw), .second, .val (.ref sb), .unset, .unset, .unset, .unset, .unset, .unset, .unset, .unset, .unset, .unset] [(.long v51), (.ref sb)]))
          obtain ⟨v148, q148⟩ : ∃ zz : UInt64, FP.l2d v51 = zz := ⟨_, rfl⟩
          refine g_l2d hG X2 hx (hb hby at_148) (pc' := 149) rfl q148 ?_
          show G (T2.setTop (mkF m 149 #[.val (.long i0), .second, .val (.long i1), .second, .val (.int i2), .val (.int i3), .val (.int i4), .val (.int v3), .val (.int v11), .val (.int wu), .val (.int rl), .val (.long v51), .second, .val (.long v59), .second, .val (.double rt), .second, .val (.long nw), .second, .val (.ref sb), .unset, .unset, .unset, .unset, .unset, .unset, .unset, .unset, .unset, .unset] [(.double v148), (.ref sb)]))
          rw [q148] at D148
          refine g_putF hG X2 hx hZ hown (wd hw 29 rfl) Via.refl rfl F_savedUpPermits_sb Ex_sb (Or.inl (wd hw 28 rfl)) (wd hw 3 rfl) (v' := (.double v148)) (ty := .double) (by decide) rfl rfl (hb hby at_149) (pc' := 152) rfl ?_
          intro T3 h3 X3 e3 W3
          have Ex_sb := Ex_sb.wr W3
          have F_nextFreeNanos_sb := F_nextFreeNanos_sb.other W3 (Or.inr (slot_ne (Or.inl (wd hw 13 rfl)) (Or.inl (wd hw 28 rfl)) (by decide) (t := .long) (t' := .double) (by decide) (by decide)))
          have F_warmUp_sb := F_warmUp_sb.other W3 (Or.inr (slot_ne (Or.inr (wd hw 15 rfl)) (Or.inl (wd hw 28 rfl)) (by decide) (t := .boolean) (t' := .double) (by decide) (by decide)))
          have F_rate_sb := F_rate_sb.other W3 (Or.inr (slot_ne (Or.inl (wd hw 21 rfl)) (Or.inl (wd hw 28 rfl)) (by decide) (t := .double) (t' := .double) (by decide) (by decide)))
          have F_stableIntervalNanos_sb := F_stableIntervalNanos_sb.other W3 (Or.inr (slot_ne (Or.inl (wd hw 24 rfl)) (Or.inl (wd hw 28 rfl)) (by decide) (t := .double) (t' := .double) (by decide) (by decide)))
          have F_maxSavedUpPermits_sb := F_maxSavedUpPermits_sb.other W3 (Or.inr (slot_ne (Or.inl (wd hw 26 rfl)) (Or.inl (wd hw 28 rfl)) (by decide) (t := .double) (t' := .double) (by decide) (by decide)))
          have F_savedUpPermits_sb := F_savedUpPermits_sb.same W3
          have F_nextFreeFraction_sb := F_nextFreeFraction_sb.other W3 (Or.inr (slot_ne (Or.inl (wd hw 33 rfl)) (Or.inl (wd hw 28 rfl)) (by decide) (t := .double) (t' := .double) (by decide) (by decide)))
          have Zs := Nat.le_trans Zs (Wr.size W3)
          have NF3 := Fr.snoc X3 NF2 ge_sb
          show G (T3.setTop (mkF m 152 #[.val (.long i0), .second, .val (.long i1), .second, .val (.int i2), .val (.int i3), .val (.int i4), .val (.int v3), .val (.int v11), .val (.int wu), .val (.int rl), .val (.long v51), .second, .val (.long v59), .second, .val (.double rt), .second, .val (.long nw), .second, .val (.ref sb), .unset, .unset, .unset, .unset, .unset, .unset, .unset, .unset, .unset, .unset] []))
          refine g_aload hG X3 hx (hb hby at_152) (pc' := 154) rfl rfl rfl ?_
          show G (T3.setTop (mkF m 154 #[.val (.long i0), .second, .val (.long i1), .second, .val (.int i2), .val (.int i3), .val (.int i4), .val (.int v3), .val (.int v11), .val (.int wu), .val (.int rl), .val (.long v51), .second, .val (.long v59), .second, .val (.double rt), .second, .val (.long nw), .second, .val (.ref sb), .unset, .unset, .unset, .unset, .unset, .unset, .unset, .unset, .unset, .unset] [(.ref sb)]))
          refine g_lloadN hG X3 hx (hb hby at_154) (pc' := 155) rfl rfl ?_
          show G (T3.setTop (mkF m 155 #[.val (.long i0), .second, .val (.long i1), .second, .val (.int i2), .val (.int i3), .val (.int i4), .val (.int v3), .val (.int v11), .val (.int wu), .val (.int rl), .val (.long v51), .second, .val (.long v59), .second, .val (.double rt), .second, .val (.long nw), .second, .val (.ref sb), .unset, .unset, .unset, .unset, .unset, .unset, .unset, .unset, .unset, .unset] [(.long i0), (.ref sb)]))
          refine g_putF hG X3 hx hZ hown (wd hw 30 rfl) Via.refl e3 F_nextFreeNanos_sb Ex_sb (Or.inl (wd hw 13 rfl)) (wd hw 3 rfl) (v' := (.long i0)) (ty := .long) (by decide) rfl rfl (hb hby at_155) (pc' := 158) rfl ?_
          intro T4 h4 X4 e4 W4
          have Ex_sb := Ex_sb.wr W4
          have F_nextFreeNanos_sb := F_nextFreeNanos_sb.same W4
          have F_warmUp_sb := F_warmUp_sb.other W4 (Or.inr (slot_ne (Or.inr (wd hw 15 rfl)) (Or.inl (wd hw 13 rfl)) (by decide) (t := .boolean) (t' := .long) (by decide) (by decide)))
          have F_rate_sb := F_rate_sb.other W4 (Or.inr (slot_ne (Or.inl (wd hw 21 rfl)) (Or.inl (wd hw 13 rfl)) (by decide) (t := .double) (t' := .long) (by decide) (by decide)))
          have F_stableIntervalNanos_sb := F_stableIntervalNanos_sb.other W4 (Or.inr (slot_ne (Or.inl (wd hw 24 rfl)) (Or.inl (wd hw 13 rfl)) (by decide) (t := .double) (t' := .long) (by decide) (by decide)))
          have F_maxSavedUpPermits_sb := F_maxSavedUpPermits_sb.other W4 (Or.inr (slot_ne (Or.inl (wd hw 26 rfl)) (Or.inl (wd hw 13 rfl)) (by decide) (t := .double) (t' := .long) (by decide) (by decide)))
          have F_savedUpPermits_sb := F_savedUpPermits_sb.other W4 (Or.inr (slot_ne (Or.inl (wd hw 28 rfl)) (Or.inl (wd hw 13 rfl)) (by decide) (t := .double) (t' := .long) (by decide) (by decide)))
          have F_nextFreeFraction_sb := F_nextFreeFraction_sb.other W4 (Or.inr (slot_ne (Or.inl (wd hw 33 rfl)) (Or.inl (wd hw 13 rfl)) (by decide) (t := .double) (t' := .long) (by decide) (by decide)))
          have Zs := Nat.le_trans Zs (Wr.size W4)
          have NF4 := Fr.snoc X4 NF3 ge_sb
          show G (T4.setTop (mkF m 158 #[.val (.long i0), .second, .val (.long i1), .second, .val (.int i2), .val (.int i3), .val (.int i4), .val (.int v3), .val (.int v11), .val (.int wu), .val (.int rl), .val (.long v51), .second, .val (.long v59), .second, .val (.double rt), .second, .val (.long nw), .second, .val (.ref sb), .unset, .unset, .unset, .unset, .unset, .unset, .unset, .unset, .unset, .unset] []))
          refine g_iload hG X4 hx (hb hby at_158) (pc' := 160) rfl rfl ?_
          show G (T4.setTop (mkF m 160 #[.val (.long i0), .second, .val (.long i1), .second, .val (.int i2), .val (.int i3), .val (.int i4), .val (.int v3), .val (.int v11), .val (.int wu), .val (.int rl), .val (.long v51), .second, .val (.long v59), .second, .val (.double rt), .second, .val (.long nw), .second, .val (.ref sb), .unset, .unset, .unset, .unset, .unset, .unset, .unset, .unset, .unset, .unset] [(.int v11)]))
          obtain ⟨v160, q160⟩ : ∃ zz : UInt64, FP.i2d v11 = zz := ⟨_, rfl⟩
          refine g_i2d hG X4 hx (hb hby at_160) (pc' := 161) rfl q160 ?_
          show G (T4.setTop (mkF m 161 #[.val (.long i0), .second, .val (.long i1), .second, .val (.int i2), .val (.int i3), .val (.int i4), .val (.int v3), .val (.int v11), .val (.int wu), .val (.int rl), .val (.long v51), .second, .val (.long v59), .second, .val (.double rt), .second, .val (.long nw), .second, .val (.ref sb), .unset, .unset, .unset, .unset, .unset, .unset, .unset, .unset, .unset, .unset] [(.double v160)]))
          refine g_ldcDouble hG X4 hx hZ hown (wd hw 31 rfl) (hb hby at_161) (pc' := 164) rfl ?_
          show G (T4.setTop (mkF m 164 #[.val (.long i0), .second, .val (.long i1), .second, .val (.int i2), .val (.int i3), .val (.int i4), .val (.int v3), .val (.int v11), .val (.int wu), .val (.int rl), .val (.long v51), .second, .val (.long v59), .second, .val (.double rt), .second, .val (.long nw), .second, .val (.ref sb), .unset, .unset, .unset, .unset, .unset, .unset, .unset, .unset, .unset, .unset] [(.double 4616189618054758400), (.double v160)]))
          obtain ⟨v164, q164⟩ : ∃ zz : UInt64, FP.ddiv v160 (4616189618054758400 : UInt64) = zz := ⟨_, rfl⟩
          have D164 := own_frac4 v11 b11.1 b11.2
          rw [q160, q164] at D164
          refine g_ddiv hG X4 hx (hb hby at_164) (pc' := 165) rfl (by rw [q164]; exact D164.noNaN) q164 ?_
          show G (T4.setTop (mkF m 165 #[.val (.long i0), .second, .val (.long i1), .second, .val (.int i2), .val (.int i3), .val (.int i4), .val (.int v3), .val (.int v11), .val (.int wu), .val (.int rl), .val (.long v51), .second, .val (.long v59), .second, .val (.double rt), .second, .val (.long nw), .second, .val (.ref sb), .unset, .unset, .unset, .unset, .unset, .unset, .unset, .unset, .unset, .unset] [(.double v164)]))
          refine g_dstore hG X4 hx (hb hby at_165) (pc' := 167) rfl (Ls' := #[.val (.long i0), .second, .val (.long i1), .second, .val (.int i2), .val (.int i3), .val (.int i4), .val (.int v3), .val (.int v11), .val (.int wu), .val (.int rl), .val (.long v51), .second, .val (.long v59), .second, .val (.double rt), .second, .val (.long nw), .second, .val (.ref sb), .val (.double v164), .second, .unset, .unset, .unset, .unset, .unset, .unset, .unset, .unset]) rfl ?_
          show G (T4.setTop (mkF m 167 #[.val (.long i0), .second, .val (.long i1), .second, .val (.int i2), .val (.int i3), .val (.int i4), .val (.int v3), .val (.int v11), .val (.int wu), .val (.int rl), .val (.long v51), .second, .val (.long v59), .second, .val (.double rt), .second, .val (.long nw), .second, .val (.ref sb), .val (.double v164), .second, .unset, .unset, .unset, .unset, .unset, .unset, .unset, .unset] []))
          refine g_aload hG X4 hx (hb hby at_167) (pc' := 169) rfl rfl rfl ?_
          show G (T4.setTop (mkF m 169 #[.val (.long i0), .second, .val (.long i1), .second, .val (.int i2), .val (.int i3), .val (.int i4), .val (.int v3), .val (.int v11), .val (.int wu), .val (.int rl), .val (.long v51), .second, .val (.long v59), .second, .val (.double rt), .second, .val (.long nw), .second, .val (.ref sb), .val (.double v164), .second, .unset, .unset, .unset, .unset, .unset, .unset, .unset, .unset] [(.ref sb)]))
          refine g_dload hG X4 hx (hb hby at_169) (pc' := 171) rfl rfl ?_
          show G (T4.setTop (mkF m 171 #[.val (.long i0), .second, .val (.long i1), .second, .val (.int i2), .val (.int i3), .val (.int i4), .val (.int v3), .val (.int v11), .val (.int wu), .val (.int rl), .val (.long v51), .second, .val (.long v59), .second, .val (.double rt), .second, .val (.long nw), .second, .val (.ref sb), .val (.double v164), .second, .unset, .unset, .unset, .unset, .unset, .unset, .unset, .unset] [(.double v164), (.ref sb)]))
          refine g_putF hG X4 hx hZ hown (wd hw 32 rfl) Via.refl e4 F_nextFreeFraction_sb Ex_sb (Or.inl (wd hw 33 rfl)) (wd hw 3 rfl) (v' := (.double v164)) (ty := .double) (by decide) rfl rfl (hb hby at_171) (pc' := 174) rfl ?_
          intro T5 h5 X5 e5 W5
          have Ex_sb := Ex_sb.wr W5
          have F_nextFreeNanos_sb := F_nextFreeNanos_sb.other W5 (Or.inr (slot_ne (Or.inl (wd hw 13 rfl)) (Or.inl (wd hw 33 rfl)) (by decide) (t := .long) (t' := .double) (by decide) (by decide)))
          have F_warmUp_sb := F_warmUp_sb.other W5 (Or.inr (slot_ne (Or.inr (wd hw 15 rfl)) (Or.inl (wd hw 33 rfl)) (by decide) (t := .boolean) (t' := .double) (by decide) (by decide)))
          have F_rate_sb := F_rate_sb.other W5 (Or.inr (slot_ne (Or.inl (wd hw 21 rfl)) (Or.inl (wd hw 33 rfl)) (by decide) (t := .double) (t' := .double) (by decide) (by decide)))
          have F_stableIntervalNanos_sb := F_stableIntervalNanos_sb.other W5 (Or.inr (slot_ne (Or.inl (wd hw 24 rfl)) (Or.inl (wd hw 33 rfl)) (by decide) (t := .double) (t' := .double) (by decide) (by decide)))
          have F_maxSavedUpPermits_sb := F_maxSavedUpPermits_sb.other W5 (Or.inr (slot_ne (Or.inl (wd hw 26 rfl)) (Or.inl (wd hw 33 rfl)) (by decide) (t := .double) (t' := .double) (by decide) (by decide)))
          have F_savedUpPermits_sb := F_savedUpPermits_sb.other W5 (Or.inr (slot_ne (Or.inl (wd hw 28 rfl)) (Or.inl (wd hw 33 rfl)) (by decide) (t := .double) (t' := .double) (by decide) (by decide)))
          have F_nextFreeFraction_sb := F_nextFreeFraction_sb.same W5
          have Zs := Nat.le_trans Zs (Wr.size W5)
          have NF5 := Fr.snoc X5 NF4 ge_sb
          show G (T5.setTop (mkF m 174 #[.val (.long i0), .second, .val (.long i1), .second, .val (.int i2), .val (.int i3), .val (.int i4), .val (.int v3), .val (.int v11), .val (.int wu), .val (.int rl), .val (.long v51), .second, .val (.long v59), .second, .val (.double rt), .second, .val (.long nw), .second, .val (.ref sb), .val (.double v164), .second, .unset, .unset, .unset, .unset, .unset, .unset, .unset, .unset] []))
          have hcase : (¬ i0 < nw) ∨ (i0 < nw ∧ nw - i0 < 0) ∨ (i0 < nw ∧ ¬ (nw - i0 < 0) ∧ (nw - i0).toInt < 1048576) ∨ (i0 < nw ∧ ¬ (nw - i0 < 0) ∧ 1048576 ≤ (nw - i0).toInt) := by
            by_cases c1 : i0 < nw
            · by_cases c2 : nw - i0 < 0
              · exact Or.inr (Or.inl ⟨c1, c2⟩)
              · by_cases c3 : (nw - i0).toInt < 1048576
                · exact Or.inr (Or.inr (Or.inl ⟨c1, c2, c3⟩))
                · exact Or.inr (Or.inr (Or.inr ⟨c1, c2, by omega⟩))
            · exact Or.inl c1
          rcases hcase with c1 | ⟨c1, c2⟩ | ⟨c1, c2, c3⟩ | ⟨c1, c2, c3⟩
          · skip
            refine g_aload hG X5 hx (hb hby at_174) (pc' := 176) rfl rfl rfl ?_
            show G (T5.setTop (mkF m 176 #[.val (.long i0), .second, .val (.long i1), .second, .val (.int i2), .val (.int i3), .val (.int i4), .val (.int v3), .val (.int v11), .val (.int wu), .val (.int rl), .val (.long v51), .second, .val (.long v59), .second, .val (.double rt), .second, .val (.long nw), .second, .val (.ref sb), .val (.double v164), .second, .unset, .unset, .unset, .unset, .unset, .unset, .unset, .unset] [(.ref sb)]))
            refine g_lload hG X5 hx (hb hby at_176) (pc' := 178) rfl rfl ?_
            show G (T5.setTop (mkF m 178 #[.val (.long i0), .second, .val (.long i1), .second, .val (.int i2), .val (.int i3), .val (.int i4), .val (.int v3), .val (.int v11), .val (.int wu), .val (.int rl), .val (.long v51), .second, .val (.long v59), .second, .val (.double rt), .second, .val (.long nw), .second, .val (.ref sb), .val (.double v164), .second, .unset, .unset, .unset, .unset, .unset, .unset, .unset, .unset] [(.long nw), (.ref sb)]))
            refine g_callV hG X5 hx hZ (y := (⟨"com/example/schleuse/schleuse/LimiterState", "savedUpAt", "(J)D"⟩ : MethodName)) 0 hown (wd hw 34 rfl) (wd hw 35 rfl) (wd hw 37 rfl) (wd hw 36 rfl) (wd hw 4 rfl) (wd hw 38 rfl) (by decide) (rmS l Z a0 hw [] sb i0 nw v148 v136 iv v164 v148 h5 n0 Zs (Or.inl ⟨c1, rfl⟩) Ex_sb F_nextFreeNanos_sb F_stableIntervalNanos_sb F_maxSavedUpPermits_sb F_savedUpPermits_sb F_nextFreeFraction_sb) (by decide) (by decide) (by rw [hml]; rfl) pd_2 rfl (argsL := [(.long nw)]) (rest := []) rfl rfl (Nat.le_of_eq rfl) (hb hby at_178) e5 Ex_sb (by decide) (by decide) (pc' := 181) rfl ?_
            intro T6 rv6 L6 X6 hQ6
            obtain ⟨rfl, Nq6, eh6⟩ := hQ6
            have NF6 := Fr.app NF5 Nq6
            show G (T6.setTop (mkF m 181 #[.val (.long i0), .second, .val (.long i1), .second, .val (.int i2), .val (.int i3), .val (.int i4), .val (.int v3), .val (.int v11), .val (.int wu), .val (.int rl), .val (.long v51), .second, .val (.long v59), .second, .val (.double rt), .second, .val (.long nw), .second, .val (.ref sb), .val (.double v164), .second, .unset, .unset, .unset, .unset, .unset, .unset, .unset, .unset] [(.double v148)]))
            refine g_dstore hG X6 hx (hb hby at_181) (pc' := 183) rfl (Ls' := #[.val (.long i0), .second, .val (.long i1), .second, .val (.int i2), .val (.int i3), .val (.int i4), .val (.int v3), .val (.int v11), .val (.int wu), .val (.int rl), .val (.long v51), .second, .val (.long v59), .second, .val (.double rt), .second, .val (.long nw), .second, .val (.ref sb), .val (.double v164), .second, .val (.double v148), .second, .unset, .unset, .unset, .unset, .unset, .unset]) rfl ?_
            show G (T6.setTop (mkF m 183 #[.val (.long i0), .second, .val (.long i1), .second, .val (.int i2), .val (.int i3), .val (.int i4), .val (.int v3), .val (.int v11), .val (.int wu), .val (.int rl), .val (.long v51), .second, .val (.long v59), .second, .val (.double rt), .second, .val (.long nw), .second, .val (.ref sb), .val (.double v164), .second, .val (.double v148), .second, .unset, .unset, .unset, .unset, .unset, .unset] []))
            refine g_lload hG X6 hx (hb hby at_183) (pc' := 185) rfl rfl ?_
            show G (T6.setTop (mkF m 185 #[.val (.long i0), .second, .val (.long i1), .second, .val (.int i2), .val (.int i3), .val (.int i4), .val (.int v3), .val (.int v11), .val (.int wu), .val (.int rl), .val (.long v51), .second, .val (.long v59), .second, .val (.double rt), .second, .val (.long nw), .second, .val (.ref sb), .val (.double v164), .second, .val (.double v148), .second, .unset, .unset, .unset, .unset, .unset, .unset] [(.long nw)]))
            refine g_lloadN hG X6 hx (hb hby at_185) (pc' := 186) rfl rfl ?_
            show G (T6.setTop (mkF m 186 #[.val (.long i0), .second, .val (.long i1), .second, .val (.int i2), .val (.int i3), .val (.int i4), .val (.int v3), .val (.int v11), .val (.int wu), .val (.int rl), .val (.long v51), .second, .val (.long v59), .second, .val (.double rt), .second, .val (.long nw), .second, .val (.ref sb), .val (.double v164), .second, .val (.double v148), .second, .unset, .unset, .unset, .unset, .unset, .unset] [(.long i0), (.long nw)]))
            obtain ⟨v186, q186⟩ : ∃ zz : Int32, lcmpW nw i0 = zz := ⟨_, rfl⟩
            refine g_lcmp hG X6 hx (hb hby at_186) (pc' := 187) rfl q186 ?_
            show G (T6.setTop (mkF m 187 #[.val (.long i0), .second, .val (.long i1), .second, .val (.int i2), .val (.int i3), .val (.int i4), .val (.int v3), .val (.int v11), .val (.int wu), .val (.int rl), .val (.long v51), .second, .val (.long v59), .second, .val (.double rt), .second, .val (.long nw), .second, .val (.ref sb), .val (.double v164), .second, .val (.double v148), .second, .unset, .unset, .unset, .unset, .unset, .unset] [(.int v186)]))
            refine g_ifNo hG X6 hx (hb hby at_187) (pc' := 190) ((if0 _ _).trans (flt (show ¬ (0 : Int32) < v186 by rw [← q186]; exact fun g => c1 ((lw_gt _ _).mp g))).2.2.1) rfl ?_
            show G (T6.setTop (mkF m 190 #[.val (.long i0), .second, .val (.long i1), .second, .val (.int i2), .val (.int i3), .val (.int i4), .val (.int v3), .val (.int v11), .val (.int wu), .val (.int rl), .val (.long v51), .second, .val (.long v59), .second, .val (.double rt), .second, .val (.long nw), .second, .val (.ref sb), .val (.double v164), .second, .val (.double v148), .second, .unset, .unset, .unset, .unset, .unset, .unset] []))
            refine g_ldcLong hG X6 hx hZ hown (wd hw 39 rfl) (hb hby at_190) (pc' := 193) rfl ?_
            show G (T6.setTop (mkF m 193 #[.val (.long i0), .second, .val (.long i1), .second, .val (.int i2), .val (.int i3), .val (.int i4), .val (.int v3), .val (.int v11), .val (.int wu), .val (.int rl), .val (.long v51), .second, .val (.long v59), .second, .val (.double rt), .second, .val (.long nw), .second, .val (.ref sb), .val (.double v164), .second, .val (.double v148), .second, .unset, .unset, .unset, .unset, .unset, .unset] [(.long 8)]))
            refine g_lload hG X6 hx (hb hby at_193) (pc' := 195) rfl rfl ?_
            show G (T6.setTop (mkF m 195 #[.val (.long i0), .second, .val (.long i1), .second, .val (.int i2), .val (.int i3), .val (.int i4), .val (.int v3), .val (.int v11), .val (.int wu), .val (.int rl), .val (.long v51), .second, .val (.long v59), .second, .val (.double rt), .second, .val (.long nw), .second, .val (.ref sb), .val (.double v164), .second, .val (.double v148), .second, .unset, .unset, .unset, .unset, .unset, .unset] [(.long v51), (.long 8)]))
            obtain ⟨v195, q195⟩ : ∃ zz : Int64, (8 : Int64) * v51 = zz := ⟨_, rfl⟩
            refine g_lmul hG X6 hx (hb hby at_195) (pc' := 196) rfl q195 ?_
            show G (T6.setTop (mkF m 196 #[.val (.long i0), .second, .val (.long i1), .second, .val (.int i2), .val (.int i3), .val (.int i4), .val (.int v3), .val (.int v11), .val (.int wu), .val (.int rl), .val (.long v51), .second, .val (.long v59), .second, .val (.double rt), .second, .val (.long nw), .second, .val (.ref sb), .val (.double v164), .second, .val (.double v148), .second, .unset, .unset, .unset, .unset, .unset, .unset] [(.long v195)]))
            refine g_lstore hG X6 hx (hb hby at_196) (pc' := 198) rfl (Ls' := #[.val (.long i0), .second, .val (.long i1), .second, .val (.int i2), .val (.int i3), .val (.int i4), .val (.int v3), .val (.int v11), .val (.int wu), .val (.int rl), .val (.long v51), .second, .val (.long v59), .second, .val (.double rt), .second, .val (.long nw), .second, .val (.ref sb), .val (.double v164), .second, .val (.double v148), .second, .val (.long v195), .second, .unset, .unset, .unset, .unset]) rfl ?_
            show G (T6.setTop (mkF m 198 #[.val (.long i0), .second, .val (.long i1), .second, .val (.int i2), .val (.int i3), .val (.int i4), .val (.int v3), .val (.int v11), .val (.int wu), .val (.int rl), .val (.long v51), .second, .val (.long v59), .second, .val (.double rt), .second, .val (.long nw), .second, .val (.ref sb), .val (.double v164), .second, .val (.double v148), .second, .val (.long v195), .second, .unset, .unset, .unset, .unset] []))
            refine g_goto hG X6 hx (hb hby at_198) (pc' := 335) (by decide) (by decide) ?_
            show G (T6.setTop (mkF m 335 #[.val (.long i0), .second, .val (.long i1), .second, .val (.int i2), .val (.int i3), .val (.int i4), .val (.int v3), .val (.int v11), .val (.int wu), .val (.int rl), .val (.long v51), .second, .val (.long v59), .second, .val (.double rt), .second, .val (.long nw), .second, .val (.ref sb), .val (.double v164), .second, .val (.double v148), .second, .val (.long v195), .second, .unset, .unset, .unset, .unset] []))
            have hE := own_lmul q195 (show (8 : Int64).toInt = 8 by decide) rfl (by omega) (by omega)
            have R8 := own_eight D148
            refine g_aload hG X6 hx (hb hby at_335) (pc' := 337) rfl rfl rfl ?_
            show G (T6.setTop (mkF m 337 #[.val (.long i0), .second, .val (.long i1), .second, .val (.int i2), .val (.int i3), .val (.int i4), .val (.int v3), .val (.int v11), .val (.int wu), .val (.int rl), .val (.long v51), .second, .val (.long v59), .second, .val (.double rt), .second, .val (.long nw), .second, .val (.ref sb), .val (.double v164), .second, .val (.double v148), .second, .val (.long v195), .second, .unset, .unset, .unset, .unset] [(.ref sb)]))
            refine g_getF hG X6 hx hZ hown (wd hw 29 rfl) Via.refl eh6 F_savedUpPermits_sb (hb hby at_337) (pc' := 340) rfl ?_
            intro T7 X7 e7
            show G (T7.setTop (mkF m 340 #[.val (.long i0), .second, .val (.long i1), .second, .val (.int i2), .val (.int i3), .val (.int i4), .val (.int v3), .val (.int v11), .val (.int wu), .val (.int rl), .val (.long v51), .second, .val (.long v59), .second, .val (.double rt), .second, .val (.long nw), .second, .val (.ref sb), .val (.double v164), .second, .val (.double v148), .second, .val (.long v195), .second, .unset, .unset, .unset, .unset] [(.double v148)]))
            refine g_lload hG X7 hx (hb hby at_340) (pc' := 342) rfl rfl ?_
            show G (T7.setTop (mkF m 342 #[.val (.long i0), .second, .val (.long i1), .second, .val (.int i2), .val (.int i3), .val (.int i4), .val (.int v3), .val (.int v11), .val (.int wu), .val (.int rl), .val (.long v51), .second, .val (.long v59), .second, .val (.double rt), .second, .val (.long nw), .second, .val (.ref sb), .val (.double v164), .second, .val (.double v148), .second, .val (.long v195), .second, .unset, .unset, .unset, .unset] [(.long v51), (.double v148)]))
            obtain ⟨v342, q342⟩ : ∃ zz : UInt64, FP.l2d v51 = zz := ⟨_, rfl⟩
            refine g_l2d hG X7 hx (hb hby at_342) (pc' := 343) rfl q342 ?_
            show G (T7.setTop (mkF m 343 #[.val (.long i0), .second, .val (.long i1), .second, .val (.int i2), .val (.int i3), .val (.int i4), .val (.int v3), .val (.int v11), .val (.int wu), .val (.int rl), .val (.long v51), .second, .val (.long v59), .second, .val (.double rt), .second, .val (.long nw), .second, .val (.ref sb), .val (.double v164), .second, .val (.double v148), .second, .val (.long v195), .second, .unset, .unset, .unset, .unset] [(.double v342), (.double v148)]))
            obtain ⟨v343, q343⟩ : ∃ zz : Int32, cmpValue (FP.dcmp v148 v342) .l = zz := ⟨_, rfl⟩
            refine g_dcmp hG X7 hx (hb hby at_343) (pc' := 344) rfl q343 ?_
            show G (T7.setTop (mkF m 344 #[.val (.long i0), .second, .val (.long i1), .second, .val (.int i2), .val (.int i3), .val (.int i4), .val (.int v3), .val (.int v11), .val (.int wu), .val (.int rl), .val (.long v51), .second, .val (.long v59), .second, .val (.double rt), .second, .val (.long nw), .second, .val (.ref sb), .val (.double v164), .second, .val (.double v148), .second, .val (.long v195), .second, .unset, .unset, .unset, .unset] [(.int v343)]))
            refine g_ifNo hG X7 hx (hb hby at_344) (pc' := 347) (by rw [← q343, OwnFl.dcmp_eq D148 (q342 ▸ OwnFl.l2d_DV (by omega)) rfl]; rfl) rfl ?_
            show G (T7.setTop (mkF m 347 #[.val (.long i0), .second, .val (.long i1), .second, .val (.int i2), .val (.int i3), .val (.int i4), .val (.int v3), .val (.int v11), .val (.int wu), .val (.int rl), .val (.long v51), .second, .val (.long v59), .second, .val (.double rt), .second, .val (.long nw), .second, .val (.ref sb), .val (.double v164), .second, .val (.double v148), .second, .val (.long v195), .second, .unset, .unset, .unset, .unset] []))
            refine g_aload hG X7 hx (hb hby at_347) (pc' := 349) rfl rfl rfl ?_
            show G (T7.setTop (mkF m 349 #[.val (.long i0), .second, .val (.long i1), .second, .val (.int i2), .val (.int i3), .val (.int i4), .val (.int v3), .val (.int v11), .val (.int wu), .val (.int rl), .val (.long v51), .second, .val (.long v59), .second, .val (.double rt), .second, .val (.long nw), .second, .val (.ref sb), .val (.double v164), .second, .val (.double v148), .second, .val (.long v195), .second, .unset, .unset, .unset, .unset] [(.ref sb)]))
            refine g_getF hG X7 hx hZ hown (wd hw 30 rfl) Via.refl e7 F_nextFreeNanos_sb (hb hby at_349) (pc' := 352) rfl ?_
            intro T8 X8 e8
            show G (T8.setTop (mkF m 352 #[.val (.long i0), .second, .val (.long i1), .second, .val (.int i2), .val (.int i3), .val (.int i4), .val (.int v3), .val (.int v11), .val (.int wu), .val (.int rl), .val (.long v51), .second, .val (.long v59), .second, .val (.double rt), .second, .val (.long nw), .second, .val (.ref sb), .val (.double v164), .second, .val (.double v148), .second, .val (.long v195), .second, .unset, .unset, .unset, .unset] [(.long i0)]))
            refine g_lloadN hG X8 hx (hb hby at_352) (pc' := 353) rfl rfl ?_
            show G (T8.setTop (mkF m 353 #[.val (.long i0), .second, .val (.long i1), .second, .val (.int i2), .val (.int i3), .val (.int i4), .val (.int v3), .val (.int v11), .val (.int wu), .val (.int rl), .val (.long v51), .second, .val (.long v59), .second, .val (.double rt), .second, .val (.long nw), .second, .val (.ref sb), .val (.double v164), .second, .val (.double v148), .second, .val (.long v195), .second, .unset, .unset, .unset, .unset] [(.long i0), (.long i0)]))
            obtain ⟨v353, q353⟩ : ∃ zz : Int32, lcmpW i0 i0 = zz := ⟨_, rfl⟩
            refine g_lcmp hG X8 hx (hb hby at_353) (pc' := 354) rfl q353 ?_
            show G (T8.setTop (mkF m 354 #[.val (.long i0), .second, .val (.long i1), .second, .val (.int i2), .val (.int i3), .val (.int i4), .val (.int v3), .val (.int v11), .val (.int wu), .val (.int rl), .val (.long v51), .second, .val (.long v59), .second, .val (.double rt), .second, .val (.long nw), .second, .val (.ref sb), .val (.double v164), .second, .val (.double v148), .second, .val (.long v195), .second, .unset, .unset, .unset, .unset] [(.int v353)]))
            refine g_ifNo hG X8 hx (hb hby at_354) (pc' := 357) ((if0 _ _).trans (teq (show v353 = 0 by rw [← q353]; exact (lw_eq _ _).mpr rfl)).2) rfl ?_
            show G (T8.setTop (mkF m 357 #[.val (.long i0), .second, .val (.long i1), .second, .val (.int i2), .val (.int i3), .val (.int i4), .val (.int v3), .val (.int v11), .val (.int wu), .val (.int rl), .val (.long v51), .second, .val (.long v59), .second, .val (.double rt), .second, .val (.long nw), .second, .val (.ref sb), .val (.double v164), .second, .val (.double v148), .second, .val (.long v195), .second, .unset, .unset, .unset, .unset] []))
            refine g_aload hG X8 hx (hb hby at_357) (pc' := 359) rfl rfl rfl ?_
            show G (T8.setTop (mkF m 359 #[.val (.long i0), .second, .val (.long i1), .second, .val (.int i2), .val (.int i3), .val (.int i4), .val (.int v3), .val (.int v11), .val (.int wu), .val (.int rl), .val (.long v51), .second, .val (.long v59), .second, .val (.double rt), .second, .val (.long nw), .second, .val (.ref sb), .val (.double v164), .second, .val (.double v148), .second, .val (.long v195), .second, .unset, .unset, .unset, .unset] [(.ref sb)]))
            refine g_getF hG X8 hx hZ hown (wd hw 32 rfl) Via.refl e8 F_nextFreeFraction_sb (hb hby at_359) (pc' := 362) rfl ?_
            intro T9 X9 e9
            show G (T9.setTop (mkF m 362 #[.val (.long i0), .second, .val (.long i1), .second, .val (.int i2), .val (.int i3), .val (.int i4), .val (.int v3), .val (.int v11), .val (.int wu), .val (.int rl), .val (.long v51), .second, .val (.long v59), .second, .val (.double rt), .second, .val (.long nw), .second, .val (.ref sb), .val (.double v164), .second, .val (.double v148), .second, .val (.long v195), .second, .unset, .unset, .unset, .unset] [(.double v164)]))
            refine g_dload hG X9 hx (hb hby at_362) (pc' := 364) rfl rfl ?_
            show G (T9.setTop (mkF m 364 #[.val (.long i0), .second, .val (.long i1), .second, .val (.int i2), .val (.int i3), .val (.int i4), .val (.int v3), .val (.int v11), .val (.int wu), .val (.int rl), .val (.long v51), .second, .val (.long v59), .second, .val (.double rt), .second, .val (.long nw), .second, .val (.ref sb), .val (.double v164), .second, .val (.double v148), .second, .val (.long v195), .second, .unset, .unset, .unset, .unset] [(.double v164), (.double v164)]))
            obtain ⟨v364, q364⟩ : ∃ zz : Int32, cmpValue (FP.dcmp v164 v164) .l = zz := ⟨_, rfl⟩
            refine g_dcmp hG X9 hx (hb hby at_364) (pc' := 365) rfl q364 ?_
            show G (T9.setTop (mkF m 365 #[.val (.long i0), .second, .val (.long i1), .second, .val (.int i2), .val (.int i3), .val (.int i4), .val (.int v3), .val (.int v11), .val (.int wu), .val (.int rl), .val (.long v51), .second, .val (.long v59), .second, .val (.double rt), .second, .val (.long nw), .second, .val (.ref sb), .val (.double v164), .second, .val (.double v148), .second, .val (.long v195), .second, .unset, .unset, .unset, .unset] [(.int v364)]))
            refine g_ifNo hG X9 hx (hb hby at_365) (pc' := 368) (by rw [← q364, OwnFl.dcmp_eq D164 D164 rfl]; rfl) rfl ?_
            show G (T9.setTop (mkF m 368 #[.val (.long i0), .second, .val (.long i1), .second, .val (.int i2), .val (.int i3), .val (.int i4), .val (.int v3), .val (.int v11), .val (.int wu), .val (.int rl), .val (.long v51), .second, .val (.long v59), .second, .val (.double rt), .second, .val (.long nw), .second, .val (.ref sb), .val (.double v164), .second, .val (.double v148), .second, .val (.long v195), .second, .unset, .unset, .unset, .unset] []))
            refine g_iconst hG X9 hx (hb hby at_368) (pc' := 369) rfl (v := (1 : Int32)) rfl ?_
            show G (T9.setTop (mkF m 369 #[.val (.long i0), .second, .val (.long i1), .second, .val (.int i2), .val (.int i3), .val (.int i4), .val (.int v3), .val (.int v11), .val (.int wu), .val (.int rl), .val (.long v51), .second, .val (.long v59), .second, .val (.double rt), .second, .val (.long nw), .second, .val (.ref sb), .val (.double v164), .second, .val (.double v148), .second, .val (.long v195), .second, .unset, .unset, .unset, .unset] [(.int 1)]))
            refine g_goto hG X9 hx (hb hby at_369) (pc' := 373) (by decide) (by decide) ?_
            show G (T9.setTop (mkF m 373 #[.val (.long i0), .second, .val (.long i1), .second, .val (.int i2), .val (.int i3), .val (.int i4), .val (.int v3), .val (.int v11), .val (.int wu), .val (.int rl), .val (.long v51), .second, .val (.long v59), .second, .val (.double rt), .second, .val (.long nw), .second, .val (.ref sb), .val (.double v164), .second, .val (.double v148), .second, .val (.long v195), .second, .unset, .unset, .unset, .unset] [(.int 1)]))
            refine g_istore hG X9 hx (hb hby at_373) (pc' := 375) rfl (Ls' := #[.val (.long i0), .second, .val (.long i1), .second, .val (.int i2), .val (.int i3), .val (.int i4), .val (.int v3), .val (.int v11), .val (.int wu), .val (.int rl), .val (.long v51), .second, .val (.long v59), .second, .val (.double rt), .second, .val (.long nw), .second, .val (.ref sb), .val (.double v164), .second, .val (.double v148), .second, .val (.long v195), .second, .val (.int 1), .unset, .unset, .unset]) rfl ?_
            show G (T9.setTop (mkF m 375 #[.val (.long i0), .second, .val (.long i1), .second, .val (.int i2), .val (.int i3), .val (.int i4), .val (.int v3), .val (.int v11), .val (.int wu), .val (.int rl), .val (.long v51), .second, .val (.long v59), .second, .val (.double rt), .second, .val (.long nw), .second, .val (.ref sb), .val (.double v164), .second, .val (.double v148), .second, .val (.long v195), .second, .val (.int 1), .unset, .unset, .unset] []))
            refine g_iload hG X9 hx (hb hby at_375) (pc' := 377) rfl rfl ?_
            show G (T9.setTop (mkF m 377 #[.val (.long i0), .second, .val (.long i1), .second, .val (.int i2), .val (.int i3), .val (.int i4), .val (.int v3), .val (.int v11), .val (.int wu), .val (.int rl), .val (.long v51), .second, .val (.long v59), .second, .val (.double rt), .second, .val (.long nw), .second, .val (.ref sb), .val (.double v164), .second, .val (.double v148), .second, .val (.long v195), .second, .val (.int 1), .unset, .unset, .unset] [(.int 1)]))
            refine g_ifNo hG X9 hx (hb hby at_377) (pc' := 380) (by decide) rfl ?_
            show G (T9.setTop (mkF m 380 #[.val (.long i0), .second, .val (.long i1), .second, .val (.int i2), .val (.int i3), .val (.int i4), .val (.int v3), .val (.int v11), .val (.int wu), .val (.int rl), .val (.long v51), .second, .val (.long v59), .second, .val (.double rt), .second, .val (.long nw), .second, .val (.ref sb), .val (.double v164), .second, .val (.double v148), .second, .val (.long v195), .second, .val (.int 1), .unset, .unset, .unset] []))
            refine g_dload hG X9 hx (hb hby at_380) (pc' := 382) rfl rfl ?_
            show G (T9.setTop (mkF m 382 #[.val (.long i0), .second, .val (.long i1), .second, .val (.int i2), .val (.int i3), .val (.int i4), .val (.int v3), .val (.int v11), .val (.int wu), .val (.int rl), .val (.long v51), .second, .val (.long v59), .second, .val (.double rt), .second, .val (.long nw), .second, .val (.ref sb), .val (.double v164), .second, .val (.double v148), .second, .val (.long v195), .second, .val (.int 1), .unset, .unset, .unset] [(.double v148)]))
            refine g_ldcDouble hG X9 hx hZ hown (wd hw 40 rfl) (hb hby at_382) (pc' := 385) rfl ?_
            show G (T9.setTop (mkF m 385 #[.val (.long i0), .second, .val (.long i1), .second, .val (.int i2), .val (.int i3), .val (.int i4), .val (.int v3), .val (.int v11), .val (.int wu), .val (.int rl), .val (.long v51), .second, .val (.long v59), .second, .val (.double rt), .second, .val (.long nw), .second, .val (.ref sb), .val (.double v164), .second, .val (.double v148), .second, .val (.long v195), .second, .val (.int 1), .unset, .unset, .unset] [(.double 4620693217682128896), (.double v148)]))
            obtain ⟨v385, q385⟩ : ∃ zz : UInt64, FP.dmul v148 (4620693217682128896 : UInt64) = zz := ⟨_, rfl⟩
            have D385 := own_last R8 (by omega) (by omega)
            rw [q385] at D385
            refine g_dmul hG X9 hx (hb hby at_385) (pc' := 386) rfl (by rw [q385]; exact D385.noNaN) q385 ?_
            show G (T9.setTop (mkF m 386 #[.val (.long i0), .second, .val (.long i1), .second, .val (.int i2), .val (.int i3), .val (.int i4), .val (.int v3), .val (.int v11), .val (.int wu), .val (.int rl), .val (.long v51), .second, .val (.long v59), .second, .val (.double rt), .second, .val (.long nw), .second, .val (.ref sb), .val (.double v164), .second, .val (.double v148), .second, .val (.long v195), .second, .val (.int 1), .unset, .unset, .unset] [(.double v385)]))
            refine g_lload hG X9 hx (hb hby at_386) (pc' := 388) rfl rfl ?_
            show G (T9.setTop (mkF m 388 #[.val (.long i0), .second, .val (.long i1), .second, .val (.int i2), .val (.int i3), .val (.int i4), .val (.int v3), .val (.int v11), .val (.int wu), .val (.int rl), .val (.long v51), .second, .val (.long v59), .second, .val (.double rt), .second, .val (.long nw), .second, .val (.ref sb), .val (.double v164), .second, .val (.double v148), .second, .val (.long v195), .second, .val (.int 1), .unset, .unset, .unset] [(.long v195), (.double v385)]))
            obtain ⟨v388, q388⟩ : ∃ zz : UInt64, FP.l2d v195 = zz := ⟨_, rfl⟩
            refine g_l2d hG X9 hx (hb hby at_388) (pc' := 389) rfl q388 ?_
            show G (T9.setTop (mkF m 389 #[.val (.long i0), .second, .val (.long i1), .second, .val (.int i2), .val (.int i3), .val (.int i4), .val (.int v3), .val (.int v11), .val (.int wu), .val (.int rl), .val (.long v51), .second, .val (.long v59), .second, .val (.double rt), .second, .val (.long nw), .second, .val (.ref sb), .val (.double v164), .second, .val (.double v148), .second, .val (.long v195), .second, .val (.int 1), .unset, .unset, .unset] [(.double v388), (.double v385)]))
            obtain ⟨v389, q389⟩ : ∃ zz : Int32, cmpValue (FP.dcmp v385 v388) .l = zz := ⟨_, rfl⟩
            refine g_dcmp hG X9 hx (hb hby at_389) (pc' := 390) rfl q389 ?_
            show G (T9.setTop (mkF m 390 #[.val (.long i0), .second, .val (.long i1), .second, .val (.int i2), .val (.int i3), .val (.int i4), .val (.int v3), .val (.int v11), .val (.int wu), .val (.int rl), .val (.long v51), .second, .val (.long v59), .second, .val (.double rt), .second, .val (.long nw), .second, .val (.ref sb), .val (.double v164), .second, .val (.double v148), .second, .val (.long v195), .second, .val (.int 1), .unset, .unset, .unset] [(.int v389)]))
            refine g_ifNo hG X9 hx (hb hby at_390) (pc' := 393) (by rw [← q389, OwnFl.dcmp_eq D385 (q388 ▸ OwnFl.l2d_DV (by omega)) (by rw [hE])]; rfl) rfl ?_
            show G (T9.setTop (mkF m 393 #[.val (.long i0), .second, .val (.long i1), .second, .val (.int i2), .val (.int i3), .val (.int i4), .val (.int v3), .val (.int v11), .val (.int wu), .val (.int rl), .val (.long v51), .second, .val (.long v59), .second, .val (.double rt), .second, .val (.long nw), .second, .val (.ref sb), .val (.double v164), .second, .val (.double v148), .second, .val (.long v195), .second, .val (.int 1), .unset, .unset, .unset] []))
            refine g_iconst hG X9 hx (hb hby at_393) (pc' := 394) rfl (v := (1 : Int32)) rfl ?_
            show G (T9.setTop (mkF m 394 #[.val (.long i0), .second, .val (.long i1), .second, .val (.int i2), .val (.int i3), .val (.int i4), .val (.int v3), .val (.int v11), .val (.int wu), .val (.int rl), .val (.long v51), .second, .val (.long v59), .second, .val (.double rt), .second, .val (.long nw), .second, .val (.ref sb), .val (.double v164), .second, .val (.double v148), .second, .val (.long v195), .second, .val (.int 1), .unset, .unset, .unset] [(.int 1)]))
            refine g_goto hG X9 hx (hb hby at_394) (pc' := 398) (by decide) (by decide) ?_
            show G (T9.setTop (mkF m 398 #[.val (.long i0), .second, .val (.long i1), .second, .val (.int i2), .val (.int i3), .val (.int i4), .val (.int v3), .val (.int v11), .val (.int wu), .val (.int rl), .val (.long v51), .second, .val (.long v59), .second, .val (.double rt), .second, .val (.long nw), .second, .val (.ref sb), .val (.double v164), .second, .val (.double v148), .second, .val (.long v195), .second, .val (.int 1), .unset, .unset, .unset] [(.int 1)]))
            exact e_retZ hGe X9 hx hrt hlk (hb hby at_398) (Or.inr rfl) e9 (by decide) (by decide) (⟨rfl, NF6⟩)
          · skip
            refine g_aload hG X5 hx (hb hby at_174) (pc' := 176) rfl rfl rfl ?_
            show G (T5.setTop (mkF m 176 #[.val (.long i0), .second, .val (.long i1), .second, .val (.int i2), .val (.int i3), .val (.int i4), .val (.int v3), .val (.int v11), .val (.int wu), .val (.int rl), .val (.long v51), .second, .val (.long v59), .second, .val (.double rt), .second, .val (.long nw), .second, .val (.ref sb), .val (.double v164), .second, .unset, .unset, .unset, .unset, .unset, .unset, .unset, .unset] [(.ref sb)]))
            refine g_lload hG X5 hx (hb hby at_176) (pc' := 178) rfl rfl ?_
            show G (T5.setTop (mkF m 178 #[.val (.long i0), .second, .val (.long i1), .second, .val (.int i2), .val (.int i3), .val (.int i4), .val (.int v3), .val (.int v11), .val (.int wu), .val (.int rl), .val (.long v51), .second, .val (.long v59), .second, .val (.double rt), .second, .val (.long nw), .second, .val (.ref sb), .val (.double v164), .second, .unset, .unset, .unset, .unset, .unset, .unset, .unset, .unset] [(.long nw), (.ref sb)]))
            refine g_callV hG X5 hx hZ (y := (⟨"com/example/schleuse/schleuse/LimiterState", "savedUpAt", "(J)D"⟩ : MethodName)) 0 hown (wd hw 34 rfl) (wd hw 35 rfl) (wd hw 37 rfl) (wd hw 36 rfl) (wd hw 4 rfl) (wd hw 38 rfl) (by decide) (rmS l Z a0 hw [] sb i0 nw v148 v136 iv v164 v136 h5 n0 Zs (Or.inr (Or.inl ⟨c1, c2, rfl⟩)) Ex_sb F_nextFreeNanos_sb F_stableIntervalNanos_sb F_maxSavedUpPermits_sb F_savedUpPermits_sb F_nextFreeFraction_sb) (by decide) (by decide) (by rw [hml]; rfl) pd_2 rfl (argsL := [(.long nw)]) (rest := []) rfl rfl (Nat.le_of_eq rfl) (hb hby at_178) e5 Ex_sb (by decide) (by decide) (pc' := 181) rfl ?_
            intro T10 rv10 L10 X10 hQ10
            obtain ⟨rfl, Nq10, eh10⟩ := hQ10
            have NF10 := Fr.app NF5 Nq10
            show G (T10.setTop (mkF m 181 #[.val (.long i0), .second, .val (.long i1), .second, .val (.int i2), .val (.int i3), .val (.int i4), .val (.int v3), .val (.int v11), .val (.int wu), .val (.int rl), .val (.long v51), .second, .val (.long v59), .second, .val (.double rt), .second, .val (.long nw), .second, .val (.ref sb), .val (.double v164), .second, .unset, .unset, .unset, .unset, .unset, .unset, .unset, .unset] [(.double v136)]))
            refine g_dstore hG X10 hx (hb hby at_181) (pc' := 183) rfl (Ls' := #[.val (.long i0), .second, .val (.long i1), .second, .val (.int i2), .val (.int i3), .val (.int i4), .val (.int v3), .val (.int v11), .val (.int wu), .val (.int rl), .val (.long v51), .second, .val (.long v59), .second, .val (.double rt), .second, .val (.long nw), .second, .val (.ref sb), .val (.double v164), .second, .val (.double v136), .second, .unset, .unset, .unset, .unset, .unset, .unset]) rfl ?_
            show G (T10.setTop (mkF m 183 #[.val (.long i0), .second, .val (.long i1), .second, .val (.int i2), .val (.int i3), .val (.int i4), .val (.int v3), .val (.int v11), .val (.int wu), .val (.int rl), .val (.long v51), .second, .val (.long v59), .second, .val (.double rt), .second, .val (.long nw), .second, .val (.ref sb), .val (.double v164), .second, .val (.double v136), .second, .unset, .unset, .unset, .unset, .unset, .unset] []))
            refine g_lload hG X10 hx (hb hby at_183) (pc' := 185) rfl rfl ?_
            show G (T10.setTop (mkF m 185 #[.val (.long i0), .second, .val (.long i1), .second, .val (.int i2), .val (.int i3), .val (.int i4), .val (.int v3), .val (.int v11), .val (.int wu), .val (.int rl), .val (.long v51), .second, .val (.long v59), .second, .val (.double rt), .second, .val (.long nw), .second, .val (.ref sb), .val (.double v164), .second, .val (.double v136), .second, .unset, .unset, .unset, .unset, .unset, .unset] [(.long nw)]))
            refine g_lloadN hG X10 hx (hb hby at_185) (pc' := 186) rfl rfl ?_
            show G (T10.setTop (mkF m 186 #[.val (.long i0), .second, .val (.long i1), .second, .val (.int i2), .val (.int i3), .val (.int i4), .val (.int v3), .val (.int v11), .val (.int wu), .val (.int rl), .val (.long v51), .second, .val (.long v59), .second, .val (.double rt), .second, .val (.long nw), .second, .val (.ref sb), .val (.double v164), .second, .val (.double v136), .second, .unset, .unset, .unset, .unset, .unset, .unset] [(.long i0), (.long nw)]))
            obtain ⟨v186, q186⟩ : ∃ zz : Int32, lcmpW nw i0 = zz := ⟨_, rfl⟩
            refine g_lcmp hG X10 hx (hb hby at_186) (pc' := 187) rfl q186 ?_
            show G (T10.setTop (mkF m 187 #[.val (.long i0), .second, .val (.long i1), .second, .val (.int i2), .val (.int i3), .val (.int i4), .val (.int v3), .val (.int v11), .val (.int wu), .val (.int rl), .val (.long v51), .second, .val (.long v59), .second, .val (.double rt), .second, .val (.long nw), .second, .val (.ref sb), .val (.double v164), .second, .val (.double v136), .second, .unset, .unset, .unset, .unset, .unset, .unset] [(.int v186)]))
            refine g_ifYes hG X10 hx (hb hby at_187) (pc' := 201) ((if0 _ _).trans (tlt (show (0 : Int32) < v186 by rw [← q186]; exact (lw_gt _ _).mpr c1)).2.2.1) (by decide) (by decide) ?_
            show G (T10.setTop (mkF m 201 #[.val (.long i0), .second, .val (.long i1), .second, .val (.int i2), .val (.int i3), .val (.int i4), .val (.int v3), .val (.int v11), .val (.int wu), .val (.int rl), .val (.long v51), .second, .val (.long v59), .second, .val (.double rt), .second, .val (.long nw), .second, .val (.ref sb), .val (.double v164), .second, .val (.double v136), .second, .unset, .unset, .unset, .unset, .unset, .unset] []))
            refine g_lload hG X10 hx (hb hby at_201) (pc' := 203) rfl rfl ?_
            show G (T10.setTop (mkF m 203 #[.val (.long i0), .second, .val (.long i1), .second, .val (.int i2), .val (.int i3), .val (.int i4), .val (.int v3), .val (.int v11), .val (.int wu), .val (.int rl), .val (.long v51), .second, .val (.long v59), .second, .val (.double rt), .second, .val (.long nw), .second, .val (.ref sb), .val (.double v164), .second, .val (.double v136), .second, .unset, .unset, .unset, .unset, .unset, .unset] [(.long nw)]))
            refine g_lloadN hG X10 hx (hb hby at_203) (pc' := 204) rfl rfl ?_
            show G (T10.setTop (mkF m 204 #[.val (.long i0), .second, .val (.long i1), .second, .val (.int i2), .val (.int i3), .val (.int i4), .val (.int v3), .val (.int v11), .val (.int wu), .val (.int rl), .val (.long v51), .second, .val (.long v59), .second, .val (.double rt), .second, .val (.long nw), .second, .val (.ref sb), .val (.double v164), .second, .val (.double v136), .second, .unset, .unset, .unset, .unset, .unset, .unset] [(.long i0), (.long nw)]))
            obtain ⟨v204, q204⟩ : ∃ zz : Int64, nw - i0 = zz := ⟨_, rfl⟩
            refine g_lsub hG X10 hx (hb hby at_204) (pc' := 205) rfl q204 ?_
            show G (T10.setTop (mkF m 205 #[.val (.long i0), .second, .val (.long i1), .second, .val (.int i2), .val (.int i3), .val (.int i4), .val (.int v3), .val (.int v11), .val (.int wu), .val (.int rl), .val (.long v51), .second, .val (.long v59), .second, .val (.double rt), .second, .val (.long nw), .second, .val (.ref sb), .val (.double v164), .second, .val (.double v136), .second, .unset, .unset, .unset, .unset, .unset, .unset] [(.long v204)]))
            refine g_lstore hG X10 hx (hb hby at_205) (pc' := 207) rfl (Ls' := #[.val (.long i0), .second, .val (.long i1), .second, .val (.int i2), .val (.int i3), .val (.int i4), .val (.int v3), .val (.int v11), .val (.int wu), .val (.int rl), .val (.long v51), .second, .val (.long v59), .second, .val (.double rt), .second, .val (.long nw), .second, .val (.ref sb), .val (.double v164), .second, .val (.double v136), .second, .unset, .unset, .val (.long v204), .second, .unset, .unset]) rfl ?_
            show G (T10.setTop (mkF m 207 #[.val (.long i0), .second, .val (.long i1), .second, .val (.int i2), .val (.int i3), .val (.int i4), .val (.int v3), .val (.int v11), .val (.int wu), .val (.int rl), .val (.long v51), .second, .val (.long v59), .second, .val (.double rt), .second, .val (.long nw), .second, .val (.ref sb), .val (.double v164), .second, .val (.double v136), .second, .unset, .unset, .val (.long v204), .second, .unset, .unset] []))
            refine g_lload hG X10 hx (hb hby at_207) (pc' := 209) rfl rfl ?_
            show G (T10.setTop (mkF m 209 #[.val (.long i0), .second, .val (.long i1), .second, .val (.int i2), .val (.int i3), .val (.int i4), .val (.int v3), .val (.int v11), .val (.int wu), .val (.int rl), .val (.long v51), .second, .val (.long v59), .second, .val (.double rt), .second, .val (.long nw), .second, .val (.ref sb), .val (.double v164), .second, .val (.double v136), .second, .unset, .unset, .val (.long v204), .second, .unset, .unset] [(.long v204)]))
            refine g_lconst hG X10 hx (hb hby at_209) (pc' := 210) rfl (v := (0 : Int64)) rfl ?_
            show G (T10.setTop (mkF m 210 #[.val (.long i0), .second, .val (.long i1), .second, .val (.int i2), .val (.int i3), .val (.int i4), .val (.int v3), .val (.int v11), .val (.int wu), .val (.int rl), .val (.long v51), .second, .val (.long v59), .second, .val (.double rt), .second, .val (.long nw), .second, .val (.ref sb), .val (.double v164), .second, .val (.double v136), .second, .unset, .unset, .val (.long v204), .second, .unset, .unset] [(.long 0), (.long v204)]))
            obtain ⟨v210, q210⟩ : ∃ zz : Int32, lcmpW v204 (0 : Int64) = zz := ⟨_, rfl⟩
            refine g_lcmp hG X10 hx (hb hby at_210) (pc' := 211) rfl q210 ?_
            show G (T10.setTop (mkF m 211 #[.val (.long i0), .second, .val (.long i1), .second, .val (.int i2), .val (.int i3), .val (.int i4), .val (.int v3), .val (.int v11), .val (.int wu), .val (.int rl), .val (.long v51), .second, .val (.long v59), .second, .val (.double rt), .second, .val (.long nw), .second, .val (.ref sb), .val (.double v164), .second, .val (.double v136), .second, .unset, .unset, .val (.long v204), .second, .unset, .unset] [(.int v210)]))
            refine g_ifYes hG X10 hx (hb hby at_211) (pc' := 223) ((if0 _ _).trans (tlt (show v210 < 0 by rw [← q210, ← q204]; exact (lw_lt _ _).mpr c2)).1) (by decide) (by decide) ?_
            show G (T10.setTop (mkF m 223 #[.val (.long i0), .second, .val (.long i1), .second, .val (.int i2), .val (.int i3), .val (.int i4), .val (.int v3), .val (.int v11), .val (.int wu), .val (.int rl), .val (.long v51), .second, .val (.long v59), .second, .val (.double rt), .second, .val (.long nw), .second, .val (.ref sb), .val (.double v164), .second, .val (.double v136), .second, .unset, .unset, .val (.long v204), .second, .unset, .unset] []))
            refine g_ldcLong hG X10 hx hZ hown (wd hw 39 rfl) (hb hby at_223) (pc' := 226) rfl ?_
            show G (T10.setTop (mkF m 226 #[.val (.long i0), .second, .val (.long i1), .second, .val (.int i2), .val (.int i3), .val (.int i4), .val (.int v3), .val (.int v11), .val (.int wu), .val (.int rl), .val (.long v51), .second, .val (.long v59), .second, .val (.double rt), .second, .val (.long nw), .second, .val (.ref sb), .val (.double v164), .second, .val (.double v136), .second, .unset, .unset, .val (.long v204), .second, .unset, .unset] [(.long 8)]))
            refine g_lload hG X10 hx (hb hby at_226) (pc' := 228) rfl rfl ?_
            show G (T10.setTop (mkF m 228 #[.val (.long i0), .second, .val (.long i1), .second, .val (.int i2), .val (.int i3), .val (.int i4), .val (.int v3), .val (.int v11), .val (.int wu), .val (.int rl), .val (.long v51), .second, .val (.long v59), .second, .val (.double rt), .second, .val (.long nw), .second, .val (.ref sb), .val (.double v164), .second, .val (.double v136), .second, .unset, .unset, .val (.long v204), .second, .unset, .unset] [(.long v59), (.long 8)]))
            obtain ⟨v228, q228⟩ : ∃ zz : Int64, (8 : Int64) * v59 = zz := ⟨_, rfl⟩
            refine g_lmul hG X10 hx (hb hby at_228) (pc' := 229) rfl q228 ?_
            show G (T10.setTop (mkF m 229 #[.val (.long i0), .second, .val (.long i1), .second, .val (.int i2), .val (.int i3), .val (.int i4), .val (.int v3), .val (.int v11), .val (.int wu), .val (.int rl), .val (.long v51), .second, .val (.long v59), .second, .val (.double rt), .second, .val (.long nw), .second, .val (.ref sb), .val (.double v164), .second, .val (.double v136), .second, .unset, .unset, .val (.long v204), .second, .unset, .unset] [(.long v228)]))
            refine g_lstore hG X10 hx (hb hby at_229) (pc' := 231) rfl (Ls' := #[.val (.long i0), .second, .val (.long i1), .second, .val (.int i2), .val (.int i3), .val (.int i4), .val (.int v3), .val (.int v11), .val (.int wu), .val (.int rl), .val (.long v51), .second, .val (.long v59), .second, .val (.double rt), .second, .val (.long nw), .second, .val (.ref sb), .val (.double v164), .second, .val (.double v136), .second, .val (.long v228), .second, .val (.long v204), .second, .unset, .unset]) rfl ?_
            show G (T10.setTop (mkF m 231 #[.val (.long i0), .second, .val (.long i1), .second, .val (.int i2), .val (.int i3), .val (.int i4), .val (.int v3), .val (.int v11), .val (.int wu), .val (.int rl), .val (.long v51), .second, .val (.long v59), .second, .val (.double rt), .second, .val (.long nw), .second, .val (.ref sb), .val (.double v164), .second, .val (.double v136), .second, .val (.long v228), .second, .val (.long v204), .second, .unset, .unset] []))
            refine g_goto hG X10 hx (hb hby at_231) (pc' := 335) (by decide) (by decide) ?_
            show G (T10.setTop (mkF m 335 #[.val (.long i0), .second, .val (.long i1), .second, .val (.int i2), .val (.int i3), .val (.int i4), .val (.int v3), .val (.int v11), .val (.int wu), .val (.int rl), .val (.long v51), .second, .val (.long v59), .second, .val (.double rt), .second, .val (.long nw), .second, .val (.ref sb), .val (.double v164), .second, .val (.double v136), .second, .val (.long v228), .second, .val (.long v204), .second, .unset, .unset] []))
            have hE := own_lmul q228 (show (8 : Int64).toInt = 8 by decide) rfl (by omega) (by omega)
            have R8 := own_eight D136
            refine g_aload hG X10 hx (hb hby at_335) (pc' := 337) rfl rfl rfl ?_
            show G (T10.setTop (mkF m 337 #[.val (.long i0), .second, .val (.long i1), .second, .val (.int i2), .val (.int i3), .val (.int i4), .val (.int v3), .val (.int v11), .val (.int wu), .val (.int rl), .val (.long v51), .second, .val (.long v59), .second, .val (.double rt), .second, .val (.long nw), .second, .val (.ref sb), .val (.double v164), .second, .val (.double v136), .second, .val (.long v228), .second, .val (.long v204), .second, .unset, .unset] [(.ref sb)]))
            refine g_getF hG X10 hx hZ hown (wd hw 29 rfl) Via.refl eh10 F_savedUpPermits_sb (hb hby at_337) (pc' := 340) rfl ?_
            intro T11 X11 e11
            show G (T11.setTop (mkF m 340 #[.val (.long i0), .second, .val (.long i1), .second, .val (.int i2), .val (.int i3), .val (.int i4), .val (.int v3), .val (.int v11), .val (.int wu), .val (.int rl), .val (.long v51), .second, .val (.long v59), .second, .val (.double rt), .second, .val (.long nw), .second, .val (.ref sb), .val (.double v164), .second, .val (.double v136), .second, .val (.long v228), .second, .val (.long v204), .second, .unset, .unset] [(.double v148)]))
            refine g_lload hG X11 hx (hb hby at_340) (pc' := 342) rfl rfl ?_
            show G (T11.setTop (mkF m 342 #[.val (.long i0), .second, .val (.long i1), .second, .val (.int i2), .val (.int i3), .val (.int i4), .val (.int v3), .val (.int v11), .val (.int wu), .val (.int rl), .val (.long v51), .second, .val (.long v59), .second, .val (.double rt), .second, .val (.long nw), .second, .val (.ref sb), .val (.double v164), .second, .val (.double v136), .second, .val (.long v228), .second, .val (.long v204), .second, .unset, .unset] [(.long v51), (.double v148)]))
            obtain ⟨v342, q342⟩ : ∃ zz : UInt64, FP.l2d v51 = zz := ⟨_, rfl⟩
            refine g_l2d hG X11 hx (hb hby at_342) (pc' := 343) rfl q342 ?_
            show G (T11.setTop (mkF m 343 #[.val (.long i0), .second, .val (.long i1), .second, .val (.int i2), .val (.int i3), .val (.int i4), .val (.int v3), .val (.int v11), .val (.int wu), .val (.int rl), .val (.long v51), .second, .val (.long v59), .second, .val (.double rt), .second, .val (.long nw), .second, .val (.ref sb), .val (.double v164), .second, .val (.double v136), .second, .val (.long v228), .second, .val (.long v204), .second, .unset, .unset] [(.double v342), (.double v148)]))
            obtain ⟨v343, q343⟩ : ∃ zz : Int32, cmpValue (FP.dcmp v148 v342) .l = zz := ⟨_, rfl⟩
            refine g_dcmp hG X11 hx (hb hby at_343) (pc' := 344) rfl q343 ?_
            show G (T11.setTop (mkF m 344 #[.val (.long i0), .second, .val (.long i1), .second, .val (.int i2), .val (.int i3), .val (.int i4), .val (.int v3), .val (.int v11), .val (.int wu), .val (.int rl), .val (.long v51), .second, .val (.long v59), .second, .val (.double rt), .second, .val (.long nw), .second, .val (.ref sb), .val (.double v164), .second, .val (.double v136), .second, .val (.long v228), .second, .val (.long v204), .second, .unset, .unset] [(.int v343)]))
            refine g_ifNo hG X11 hx (hb hby at_344) (pc' := 347) (by rw [← q343, OwnFl.dcmp_eq D148 (q342 ▸ OwnFl.l2d_DV (by omega)) rfl]; rfl) rfl ?_
            show G (T11.setTop (mkF m 347 #[.val (.long i0), .second, .val (.long i1), .second, .val (.int i2), .val (.int i3), .val (.int i4), .val (.int v3), .val (.int v11), .val (.int wu), .val (.int rl), .val (.long v51), .second, .val (.long v59), .second, .val (.double rt), .second, .val (.long nw), .second, .val (.ref sb), .val (.double v164), .second, .val (.double v136), .second, .val (.long v228), .second, .val (.long v204), .second, .unset, .unset] []))
            refine g_aload hG X11 hx (hb hby at_347) (pc' := 349) rfl rfl rfl ?_
            show G (T11.setTop (mkF m 349 #[.val (.long i0), .second, .val (.long i1), .second, .val (.int i2), .val (.int i3), .val (.int i4), .val (.int v3), .val (.int v11), .val (.int wu), .val (.int rl), .val (.long v51), .second, .val (.long v59), .second, .val (.double rt), .second, .val (.long nw), .second, .val (.ref sb), .val (.double v164), .second, .val (.double v136), .second, .val (.long v228), .second, .val (.long v204), .second, .unset, .unset] [(.ref sb)]))
            refine g_getF hG X11 hx hZ hown (wd hw 30 rfl) Via.refl e11 F_nextFreeNanos_sb (hb hby at_349) (pc' := 352) rfl ?_
            intro T12 X12 e12
            show G (T12.setTop (mkF m 352 #[.val (.long i0), .second, .val (.long i1), .second, .val (.int i2), .val (.int i3), .val (.int i4), .val (.int v3), .val (.int v11), .val (.int wu), .val (.int rl), .val (.long v51), .second, .val (.long v59), .second, .val (.double rt), .second, .val (.long nw), .second, .val (.ref sb), .val (.double v164), .second, .val (.double v136), .second, .val (.long v228), .second, .val (.long v204), .second, .unset, .unset] [(.long i0)]))
            refine g_lloadN hG X12 hx (hb hby at_352) (pc' := 353) rfl rfl ?_
            show G (T12.setTop (mkF m 353 #[.val (.long i0), .second, .val (.long i1), .second, .val (.int i2), .val (.int i3), .val (.int i4), .val (.int v3), .val (.int v11), .val (.int wu), .val (.int rl), .val (.long v51), .second, .val (.long v59), .second, .val (.double rt), .second, .val (.long nw), .second, .val (.ref sb), .val (.double v164), .second, .val (.double v136), .second, .val (.long v228), .second, .val (.long v204), .second, .unset, .unset] [(.long i0), (.long i0)]))
            obtain ⟨v353, q353⟩ : ∃ zz : Int32, lcmpW i0 i0 = zz := ⟨_, rfl⟩
            refine g_lcmp hG X12 hx (hb hby at_353) (pc' := 354) rfl q353 ?_
            show G (T12.setTop (mkF m 354 #[.val (.long i0), .second, .val (.long i1), .second, .val (.int i2), .val (.int i3), .val (.int i4), .val (.int v3), .val (.int v11), .val (.int wu), .val (.int rl), .val (.long v51), .second, .val (.long v59), .second, .val (.double rt), .second, .val (.long nw), .second, .val (.ref sb), .val (.double v164), .second, .val (.double v136), .second, .val (.long v228), .second, .val (.long v204), .second, .unset, .unset] [(.int v353)]))
            refine g_ifNo hG X12 hx (hb hby at_354) (pc' := 357) ((if0 _ _).trans (teq (show v353 = 0 by rw [← q353]; exact (lw_eq _ _).mpr rfl)).2) rfl ?_
            show G (T12.setTop (mkF m 357 #[.val (.long i0), .second, .val (.long i1), .second, .val (.int i2), .val (.int i3), .val (.int i4), .val (.int v3), .val (.int v11), .val (.int wu), .val (.int rl), .val (.long v51), .second, .val (.long v59), .second, .val (.double rt), .second, .val (.long nw), .second, .val (.ref sb), .val (.double v164), .second, .val (.double v136), .second, .val (.long v228), .second, .val (.long v204), .second, .unset, .unset] []))
            refine g_aload hG X12 hx (hb hby at_357) (pc' := 359) rfl rfl rfl ?_
            show G (T12.setTop (mkF m 359 #[.val (.long i0), .second, .val (.long i1), .second, .val (.int i2), .val (.int i3), .val (.int i4), .val (.int v3), .val (.int v11), .val (.int wu), .val (.int rl), .val (.long v51), .second, .val (.long v59), .second, .val (.double rt), .second, .val (.long nw), .second, .val (.ref sb), .val (.double v164), .second, .val (.double v136), .second, .val (.long v228), .second, .val (.long v204), .second, .unset, .unset] [(.ref sb)]))
            refine g_getF hG X12 hx hZ hown (wd hw 32 rfl) Via.refl e12 F_nextFreeFraction_sb (hb hby at_359) (pc' := 362) rfl ?_
            intro T13 X13 e13
            show G (T13.setTop (mkF m 362 #[.val (.long i0), .second, .val (.long i1), .second, .val (.int i2), .val (.int i3), .val (.int i4), .val (.int v3), .val (.int v11), .val (.int wu), .val (.int rl), .val (.long v51), .second, .val (.long v59), .second, .val (.double rt), .second, .val (.long nw), .second, .val (.ref sb), .val (.double v164), .second, .val (.double v136), .second, .val (.long v228), .second, .val (.long v204), .second, .unset, .unset] [(.double v164)]))
            refine g_dload hG X13 hx (hb hby at_362) (pc' := 364) rfl rfl ?_
            show G (T13.setTop (mkF m 364 #[.val (.long i0), .second, .val (.long i1), .second, .val (.int i2), .val (.int i3), .val (.int i4), .val (.int v3), .val (.int v11), .val (.int wu), .val (.int rl), .val (.long v51), .second, .val (.long v59), .second, .val (.double rt), .second, .val (.long nw), .second, .val (.ref sb), .val (.double v164), .second, .val (.double v136), .second, .val (.long v228), .second, .val (.long v204), .second, .unset, .unset] [(.double v164), (.double v164)]))
            obtain ⟨v364, q364⟩ : ∃ zz : Int32, cmpValue (FP.dcmp v164 v164) .l = zz := ⟨_, rfl⟩
            refine g_dcmp hG X13 hx (hb hby at_364) (pc' := 365) rfl q364 ?_
            show G (T13.setTop (mkF m 365 #[.val (.long i0), .second, .val (.long i1), .second, .val (.int i2), .val (.int i3), .val (.int i4), .val (.int v3), .val (.int v11), .val (.int wu), .val (.int rl), .val (.long v51), .second, .val (.long v59), .second, .val (.double rt), .second, .val (.long nw), .second, .val (.ref sb), .val (.double v164), .second, .val (.double v136), .second, .val (.long v228), .second, .val (.long v204), .second, .unset, .unset] [(.int v364)]))
            refine g_ifNo hG X13 hx (hb hby at_365) (pc' := 368) (by rw [← q364, OwnFl.dcmp_eq D164 D164 rfl]; rfl) rfl ?_
            show G (T13.setTop (mkF m 368 #[.val (.long i0), .second, .val (.long i1), .second, .val (.int i2), .val (.int i3), .val (.int i4), .val (.int v3), .val (.int v11), .val (.int wu), .val (.int rl), .val (.long v51), .second, .val (.long v59), .second, .val (.double rt), .second, .val (.long nw), .second, .val (.ref sb), .val (.double v164), .second, .val (.double v136), .second, .val (.long v228), .second, .val (.long v204), .second, .unset, .unset] []))
            refine g_iconst hG X13 hx (hb hby at_368) (pc' := 369) rfl (v := (1 : Int32)) rfl ?_
            show G (T13.setTop (mkF m 369 #[.val (.long i0), .second, .val (.long i1), .second, .val (.int i2), .val (.int i3), .val (.int i4), .val (.int v3), .val (.int v11), .val (.int wu), .val (.int rl), .val (.long v51), .second, .val (.long v59), .second, .val (.double rt), .second, .val (.long nw), .second, .val (.ref sb), .val (.double v164), .second, .val (.double v136), .second, .val (.long v228), .second, .val (.long v204), .second, .unset, .unset] [(.int 1)]))
            refine g_goto hG X13 hx (hb hby at_369) (pc' := 373) (by decide) (by decide) ?_
            show G (T13.setTop (mkF m 373 #[.val (.long i0), .second, .val (.long i1), .second, .val (.int i2), .val (.int i3), .val (.int i4), .val (.int v3), .val (.int v11), .val (.int wu), .val (.int rl), .val (.long v51), .second, .val (.long v59), .second, .val (.double rt), .second, .val (.long nw), .second, .val (.ref sb), .val (.double v164), .second, .val (.double v136), .second, .val (.long v228), .second, .val (.long v204), .second, .unset, .unset] [(.int 1)]))
            refine g_istore hG X13 hx (hb hby at_373) (pc' := 375) rfl (Ls' := #[.val (.long i0), .second, .val (.long i1), .second, .val (.int i2), .val (.int i3), .val (.int i4), .val (.int v3), .val (.int v11), .val (.int wu), .val (.int rl), .val (.long v51), .second, .val (.long v59), .second, .val (.double rt), .second, .val (.long nw), .second, .val (.ref sb), .val (.double v164), .second, .val (.double v136), .second, .val (.long v228), .second, .val (.int 1), .unset, .unset, .unset]) rfl ?_
            show G (T13.setTop (mkF m 375 #[.val (.long i0), .second, .val (.long i1), .second, .val (.int i2), .val (.int i3), .val (.int i4), .val (.int v3), .val (.int v11), .val (.int wu), .val (.int rl), .val (.long v51), .second, .val (.long v59), .second, .val (.double rt), .second, .val (.long nw), .second, .val (.ref sb), .val (.double v164), .second, .val (.double v136), .second, .val (.long v228), .second, .val (.int 1), .unset, .unset, .unset] []))
            refine g_iload hG X13 hx (hb hby at_375) (pc' := 377) rfl rfl ?_
            show G (T13.setTop (mkF m 377 #[.val (.long i0), .second, .val (.long i1), .second, .val (.int i2), .val (.int i3), .val (.int i4), .val (.int v3), .val (.int v11), .val (.int wu), .val (.int rl), .val (.long v51), .second, .val (.long v59), .second, .val (.double rt), .second, .val (.long nw), .second, .val (.ref sb), .val (.double v164), .second, .val (.double v136), .second, .val (.long v228), .second, .val (.int 1), .unset, .unset, .unset] [(.int 1)]))
            refine g_ifNo hG X13 hx (hb hby at_377) (pc' := 380) (by decide) rfl ?_
            show G (T13.setTop (mkF m 380 #[.val (.long i0), .second, .val (.long i1), .second, .val (.int i2), .val (.int i3), .val (.int i4), .val (.int v3), .val (.int v11), .val (.int wu), .val (.int rl), .val (.long v51), .second, .val (.long v59), .second, .val (.double rt), .second, .val (.long nw), .second, .val (.ref sb), .val (.double v164), .second, .val (.double v136), .second, .val (.long v228), .second, .val (.int 1), .unset, .unset, .unset] []))
            refine g_dload hG X13 hx (hb hby at_380) (pc' := 382) rfl rfl ?_
            show G (T13.setTop (mkF m 382 #[.val (.long i0), .second, .val (.long i1), .second, .val (.int i2), .val (.int i3), .val (.int i4), .val (.int v3), .val (.int v11), .val (.int wu), .val (.int rl), .val (.long v51), .second, .val (.long v59), .second, .val (.double rt), .second, .val (.long nw), .second, .val (.ref sb), .val (.double v164), .second, .val (.double v136), .second, .val (.long v228), .second, .val (.int 1), .unset, .unset, .unset] [(.double v136)]))
            refine g_ldcDouble hG X13 hx hZ hown (wd hw 40 rfl) (hb hby at_382) (pc' := 385) rfl ?_
            show G (T13.setTop (mkF m 385 #[.val (.long i0), .second, .val (.long i1), .second, .val (.int i2), .val (.int i3), .val (.int i4), .val (.int v3), .val (.int v11), .val (.int wu), .val (.int rl), .val (.long v51), .second, .val (.long v59), .second, .val (.double rt), .second, .val (.long nw), .second, .val (.ref sb), .val (.double v164), .second, .val (.double v136), .second, .val (.long v228), .second, .val (.int 1), .unset, .unset, .unset] [(.double 4620693217682128896), (.double v136)]))
            obtain ⟨v385, q385⟩ : ∃ zz : UInt64, FP.dmul v136 (4620693217682128896 : UInt64) = zz := ⟨_, rfl⟩
            have D385 := own_last R8 (by omega) (by omega)
            rw [q385] at D385
            refine g_dmul hG X13 hx (hb hby at_385) (pc' := 386) rfl (by rw [q385]; exact D385.noNaN) q385 ?_
            show G (T13.setTop (mkF m 386 #[.val (.long i0), .second, .val (.long i1), .second, .val (.int i2), .val (.int i3), .val (.int i4), .val (.int v3), .val (.int v11), .val (.int wu), .val (.int rl), .val (.long v51), .second, .val (.long v59), .second, .val (.double rt), .second, .val (.long nw), .second, .val (.ref sb), .val (.double v164), .second, .val (.double v136), .second, .val (.long v228), .second, .val (.int 1), .unset, .unset, .unset] [(.double v385)]))
            refine g_lload hG X13 hx (hb hby at_386) (pc' := 388) rfl rfl ?_
            show G (T13.setTop (mkF m 388 #[.val (.long i0), .second, .val (.long i1), .second, .val (.int i2), .val (.int i3), .val (.int i4), .val (.int v3), .val (.int v11), .val (.int wu), .val (.int rl), .val (.long v51), .second, .val (.long v59), .second, .val (.double rt), .second, .val (.long nw), .second, .val (.ref sb), .val (.double v164), .second, .val (.double v136), .second, .val (.long v228), .second, .val (.int 1), .unset, .unset, .unset] [(.long v228), (.double v385)]))
            obtain ⟨v388, q388⟩ : ∃ zz : UInt64, FP.l2d v228 = zz := ⟨_, rfl⟩
            refine g_l2d hG X13 hx (hb hby at_388) (pc' := 389) rfl q388 ?_
            show G (T13.setTop (mkF m 389 #[.val (.long i0), .second, .val (.long i1), .second, .val (.int i2), .val (.int i3), .val (.int i4), .val (.int v3), .val (.int v11), .val (.int wu), .val (.int rl), .val (.long v51), .second, .val (.long v59), .second, .val (.double rt), .second, .val (.long nw), .second, .val (.ref sb), .val (.double v164), .second, .val (.double v136), .second, .val (.long v228), .second, .val (.int 1), .unset, .unset, .unset] [(.double v388), (.double v385)]))
            obtain ⟨v389, q389⟩ : ∃ zz : Int32, cmpValue (FP.dcmp v385 v388) .l = zz := ⟨_, rfl⟩
            refine g_dcmp hG X13 hx (hb hby at_389) (pc' := 390) rfl q389 ?_
            show G (T13.setTop (mkF m 390 #[.val (.long i0), .second, .val (.long i1), .second, .val (.int i2), .val (.int i3), .val (.int i4), .val (.int v3), .val (.int v11), .val (.int wu), .val (.int rl), .val (.long v51), .second, .val (.long v59), .second, .val (.double rt), .second, .val (.long nw), .second, .val (.ref sb), .val (.double v164), .second, .val (.double v136), .second, .val (.long v228), .second, .val (.int 1), .unset, .unset, .unset] [(.int v389)]))
            refine g_ifNo hG X13 hx (hb hby at_390) (pc' := 393) (by rw [← q389, OwnFl.dcmp_eq D385 (q388 ▸ OwnFl.l2d_DV (by omega)) (by rw [hE])]; rfl) rfl ?_
            show G (T13.setTop (mkF m 393 #[.val (.long i0), .second, .val (.long i1), .second, .val (.int i2), .val (.int i3), .val (.int i4), .val (.int v3), .val (.int v11), .val (.int wu), .val (.int rl), .val (.long v51), .second, .val (.long v59), .second, .val (.double rt), .second, .val (.long nw), .second, .val (.ref sb), .val (.double v164), .second, .val (.double v136), .second, .val (.long v228), .second, .val (.int 1), .unset, .unset, .unset] []))
            refine g_iconst hG X13 hx (hb hby at_393) (pc' := 394) rfl (v := (1 : Int32)) rfl ?_
            show G (T13.setTop (mkF m 394 #[.val (.long i0), .second, .val (.long i1), .second, .val (.int i2), .val (.int i3), .val (.int i4), .val (.int v3), .val (.int v11), .val (.int wu), .val (.int rl), .val (.long v51), .second, .val (.long v59), .second, .val (.double rt), .second, .val (.long nw), .second, .val (.ref sb), .val (.double v164), .second, .val (.double v136), .second, .val (.long v228), .second, .val (.int 1), .unset, .unset, .unset] [(.int 1)]))
            refine g_goto hG X13 hx (hb hby at_394) (pc' := 398) (by decide) (by decide) ?_
            show G (T13.setTop (mkF m 398 #[.val (.long i0), .second, .val (.long i1), .second, .val (.int i2), .val (.int i3), .val (.int i4), .val (.int v3), .val (.int v11), .val (.int wu), .val (.int rl), .val (.long v51), .second, .val (.long v59), .second, .val (.double rt), .second, .val (.long nw), .second, .val (.ref sb), .val (.double v164), .second, .val (.double v136), .second, .val (.long v228), .second, .val (.int 1), .unset, .unset, .unset] [(.int 1)]))
            exact e_retZ hGe X13 hx hrt hlk (hb hby at_398) (Or.inr rfl) e13 (by decide) (by decide) (⟨rfl, NF10⟩)
          · skip
            have z0 : (0 : Int64).toInt = 0 := by decide
            have d1 : 1 ≤ (nw - i0).toInt := by
              have a := c_lsub nw i0
              have b := rng64 nw
              have e := rng64 i0
              have f := rng64 (nw - i0)
              have g := Int64.lt_iff_toInt_lt.mp c1
              have h : ¬ (nw - i0).toInt < 0 := fun h => c2 (Int64.lt_iff_toInt_lt.mpr (by rw [z0]; exact h))
              omega
            obtain ⟨x, y, z, r, e1, e2, e3, n1, n2, n3, hr, hsm, hbg⟩ := own_gain (nw - i0) rfl D164 Div hI hk D148 D136 b11.1 b11.2 b51.1 b51.2 b59.1 b59.2 d1
            refine g_aload hG X5 hx (hb hby at_174) (pc' := 176) rfl rfl rfl ?_
            show G (T5.setTop (mkF m 176 #[.val (.long i0), .second, .val (.long i1), .second, .val (.int i2), .val (.int i3), .val (.int i4), .val (.int v3), .val (.int v11), .val (.int wu), .val (.int rl), .val (.long v51), .second, .val (.long v59), .second, .val (.double rt), .second, .val (.long nw), .second, .val (.ref sb), .val (.double v164), .second, .unset, .unset, .unset, .unset, .unset, .unset, .unset, .unset] [(.ref sb)]))
            refine g_lload hG X5 hx (hb hby at_176) (pc' := 178) rfl rfl ?_
            show G (T5.setTop (mkF m 178 #[.val (.long i0), .second, .val (.long i1), .second, .val (.int i2), .val (.int i3), .val (.int i4), .val (.int v3), .val (.int v11), .val (.int wu), .val (.int rl), .val (.long v51), .second, .val (.long v59), .second, .val (.double rt), .second, .val (.long nw), .second, .val (.ref sb), .val (.double v164), .second, .unset, .unset, .unset, .unset, .unset, .unset, .unset, .unset] [(.long nw), (.ref sb)]))
            refine g_callV hG X5 hx hZ (y := (⟨"com/example/schleuse/schleuse/LimiterState", "savedUpAt", "(J)D"⟩ : MethodName)) 0 hown (wd hw 34 rfl) (wd hw 35 rfl) (wd hw 37 rfl) (wd hw 36 rfl) (wd hw 4 rfl) (wd hw 38 rfl) (by decide) (rmS l Z a0 hw [] sb i0 nw v148 v136 iv v164 r h5 n0 Zs (Or.inr (Or.inr ⟨c1, c2, x, y, z, e1, e2, e3, n1, n2, n3, hr⟩)) Ex_sb F_nextFreeNanos_sb F_stableIntervalNanos_sb F_maxSavedUpPermits_sb F_savedUpPermits_sb F_nextFreeFraction_sb) (by decide) (by decide) (by rw [hml]; rfl) pd_2 rfl (argsL := [(.long nw)]) (rest := []) rfl rfl (Nat.le_of_eq rfl) (hb hby at_178) e5 Ex_sb (by decide) (by decide) (pc' := 181) rfl ?_
            intro T14 rv14 L14 X14 hQ14
            obtain ⟨rfl, Nq14, eh14⟩ := hQ14
            have NF14 := Fr.app NF5 Nq14
            show G (T14.setTop (mkF m 181 #[.val (.long i0), .second, .val (.long i1), .second, .val (.int i2), .val (.int i3), .val (.int i4), .val (.int v3), .val (.int v11), .val (.int wu), .val (.int rl), .val (.long v51), .second, .val (.long v59), .second, .val (.double rt), .second, .val (.long nw), .second, .val (.ref sb), .val (.double v164), .second, .unset, .unset, .unset, .unset, .unset, .unset, .unset, .unset] [(.double r)]))
            refine g_dstore hG X14 hx (hb hby at_181) (pc' := 183) rfl (Ls' := #[.val (.long i0), .second, .val (.long i1), .second, .val (.int i2), .val (.int i3), .val (.int i4), .val (.int v3), .val (.int v11), .val (.int wu), .val (.int rl), .val (.long v51), .second, .val (.long v59), .second, .val (.double rt), .second, .val (.long nw), .second, .val (.ref sb), .val (.double v164), .second, .val (.double r), .second, .unset, .unset, .unset, .unset, .unset, .unset]) rfl ?_
            show G (T14.setTop (mkF m 183 #[.val (.long i0), .second, .val (.long i1), .second, .val (.int i2), .val (.int i3), .val (.int i4), .val (.int v3), .val (.int v11), .val (.int wu), .val (.int rl), .val (.long v51), .second, .val (.long v59), .second, .val (.double rt), .second, .val (.long nw), .second, .val (.ref sb), .val (.double v164), .second, .val (.double r), .second, .unset, .unset, .unset, .unset, .unset, .unset] []))
            refine g_lload hG X14 hx (hb hby at_183) (pc' := 185) rfl rfl ?_
            show G (T14.setTop (mkF m 185 #[.val (.long i0), .second, .val (.long i1), .second, .val (.int i2), .val (.int i3), .val (.int i4), .val (.int v3), .val (.int v11), .val (.int wu), .val (.int rl), .val (.long v51), .second, .val (.long v59), .second, .val (.double rt), .second, .val (.long nw), .second, .val (.ref sb), .val (.double v164), .second, .val (.double r), .second, .unset, .unset, .unset, .unset, .unset, .unset] [(.long nw)]))
            refine g_lloadN hG X14 hx (hb hby at_185) (pc' := 186) rfl rfl ?_
            show G (T14.setTop (mkF m 186 #[.val (.long i0), .second, .val (.long i1), .second, .val (.int i2), .val (.int i3), .val (.int i4), .val (.int v3), .val (.int v11), .val (.int wu), .val (.int rl), .val (.long v51), .second, .val (.long v59), .second, .val (.double rt), .second, .val (.long nw), .second, .val (.ref sb), .val (.double v164), .second, .val (.double r), .second, .unset, .unset, .unset, .unset, .unset, .unset] [(.long i0), (.long nw)]))
            obtain ⟨v186, q186⟩ : ∃ zz : Int32, lcmpW nw i0 = zz := ⟨_, rfl⟩
            refine g_lcmp hG X14 hx (hb hby at_186) (pc' := 187) rfl q186 ?_
            show G (T14.setTop (mkF m 187 #[.val (.long i0), .second, .val (.long i1), .second, .val (.int i2), .val (.int i3), .val (.int i4), .val (.int v3), .val (.int v11), .val (.int wu), .val (.int rl), .val (.long v51), .second, .val (.long v59), .second, .val (.double rt), .second, .val (.long nw), .second, .val (.ref sb), .val (.double v164), .second, .val (.double r), .second, .unset, .unset, .unset, .unset, .unset, .unset] [(.int v186)]))
            refine g_ifYes hG X14 hx (hb hby at_187) (pc' := 201) ((if0 _ _).trans (tlt (show (0 : Int32) < v186 by rw [← q186]; exact (lw_gt _ _).mpr c1)).2.2.1) (by decide) (by decide) ?_
            show G (T14.setTop (mkF m 201 #[.val (.long i0), .second, .val (.long i1), .second, .val (.int i2), .val (.int i3), .val (.int i4), .val (.int v3), .val (.int v11), .val (.int wu), .val (.int rl), .val (.long v51), .second, .val (.long v59), .second, .val (.double rt), .second, .val (.long nw), .second, .val (.ref sb), .val (.double v164), .second, .val (.double r), .second, .unset, .unset, .unset, .unset, .unset, .unset] []))
            refine g_lload hG X14 hx (hb hby at_201) (pc' := 203) rfl rfl ?_
            show G (T14.setTop (mkF m 203 #[.val (.long i0), .second, .val (.long i1), .second, .val (.int i2), .val (.int i3), .val (.int i4), .val (.int v3), .val (.int v11), .val (.int wu), .val (.int rl), .val (.long v51), .second, .val (.long v59), .second, .val (.double rt), .second, .val (.long nw), .second, .val (.ref sb), .val (.double v164), .second, .val (.double r), .second, .unset, .unset, .unset, .unset, .unset, .unset] [(.long nw)]))
            refine g_lloadN hG X14 hx (hb hby at_203) (pc' := 204) rfl rfl ?_
            show G (T14.setTop (mkF m 204 #[.val (.long i0), .second, .val (.long i1), .second, .val (.int i2), .val (.int i3), .val (.int i4), .val (.int v3), .val (.int v11), .val (.int wu), .val (.int rl), .val (.long v51), .second, .val (.long v59), .second, .val (.double rt), .second, .val (.long nw), .second, .val (.ref sb), .val (.double v164), .second, .val (.double r), .second, .unset, .unset, .unset, .unset, .unset, .unset] [(.long i0), (.long nw)]))
            obtain ⟨v204, q204⟩ : ∃ zz : Int64, nw - i0 = zz := ⟨_, rfl⟩
            refine g_lsub hG X14 hx (hb hby at_204) (pc' := 205) rfl q204 ?_
            show G (T14.setTop (mkF m 205 #[.val (.long i0), .second, .val (.long i1), .second, .val (.int i2), .val (.int i3), .val (.int i4), .val (.int v3), .val (.int v11), .val (.int wu), .val (.int rl), .val (.long v51), .second, .val (.long v59), .second, .val (.double rt), .second, .val (.long nw), .second, .val (.ref sb), .val (.double v164), .second, .val (.double r), .second, .unset, .unset, .unset, .unset, .unset, .unset] [(.long v204)]))
            refine g_lstore hG X14 hx (hb hby at_205) (pc' := 207) rfl (Ls' := #[.val (.long i0), .second, .val (.long i1), .second, .val (.int i2), .val (.int i3), .val (.int i4), .val (.int v3), .val (.int v11), .val (.int wu), .val (.int rl), .val (.long v51), .second, .val (.long v59), .second, .val (.double rt), .second, .val (.long nw), .second, .val (.ref sb), .val (.double v164), .second, .val (.double r), .second, .unset, .unset, .val (.long v204), .second, .unset, .unset]) rfl ?_
            show G (T14.setTop (mkF m 207 #[.val (.long i0), .second, .val (.long i1), .second, .val (.int i2), .val (.int i3), .val (.int i4), .val (.int v3), .val (.int v11), .val (.int wu), .val (.int rl), .val (.long v51), .second, .val (.long v59), .second, .val (.double rt), .second, .val (.long nw), .second, .val (.ref sb), .val (.double v164), .second, .val (.double r), .second, .unset, .unset, .val (.long v204), .second, .unset, .unset] []))
            refine g_lload hG X14 hx (hb hby at_207) (pc' := 209) rfl rfl ?_
            show G (T14.setTop (mkF m 209 #[.val (.long i0), .second, .val (.long i1), .second, .val (.int i2), .val (.int i3), .val (.int i4), .val (.int v3), .val (.int v11), .val (.int wu), .val (.int rl), .val (.long v51), .second, .val (.long v59), .second, .val (.double rt), .second, .val (.long nw), .second, .val (.ref sb), .val (.double v164), .second, .val (.double r), .second, .unset, .unset, .val (.long v204), .second, .unset, .unset] [(.long v204)]))
            refine g_lconst hG X14 hx (hb hby at_209) (pc' := 210) rfl (v := (0 : Int64)) rfl ?_
            show G (T14.setTop (mkF m 210 #[.val (.long i0), .second, .val (.long i1), .second, .val (.int i2), .val (.int i3), .val (.int i4), .val (.int v3), .val (.int v11), .val (.int wu), .val (.int rl), .val (.long v51), .second, .val (.long v59), .second, .val (.double rt), .second, .val (.long nw), .second, .val (.ref sb), .val (.double v164), .second, .val (.double r), .second, .unset, .unset, .val (.long v204), .second, .unset, .unset] [(.long 0), (.long v204)]))
            obtain ⟨v210, q210⟩ : ∃ zz : Int32, lcmpW v204 (0 : Int64) = zz := ⟨_, rfl⟩
            refine g_lcmp hG X14 hx (hb hby at_210) (pc' := 211) rfl q210 ?_
            show G (T14.setTop (mkF m 211 #[.val (.long i0), .second, .val (.long i1), .second, .val (.int i2), .val (.int i3), .val (.int i4), .val (.int v3), .val (.int v11), .val (.int wu), .val (.int rl), .val (.long v51), .second, .val (.long v59), .second, .val (.double rt), .second, .val (.long nw), .second, .val (.ref sb), .val (.double v164), .second, .val (.double r), .second, .unset, .unset, .val (.long v204), .second, .unset, .unset] [(.int v210)]))
            refine g_ifNo hG X14 hx (hb hby at_211) (pc' := 214) ((if0 _ _).trans (flt (show ¬ v210 < 0 by rw [← q210, ← q204]; exact fun g => c2 ((lw_lt _ _).mp g))).1) rfl ?_
            show G (T14.setTop (mkF m 214 #[.val (.long i0), .second, .val (.long i1), .second, .val (.int i2), .val (.int i3), .val (.int i4), .val (.int v3), .val (.int v11), .val (.int wu), .val (.int rl), .val (.long v51), .second, .val (.long v59), .second, .val (.double rt), .second, .val (.long nw), .second, .val (.ref sb), .val (.double v164), .second, .val (.double r), .second, .unset, .unset, .val (.long v204), .second, .unset, .unset] []))
            refine g_lload hG X14 hx (hb hby at_214) (pc' := 216) rfl rfl ?_
            show G (T14.setTop (mkF m 216 #[.val (.long i0), .second, .val (.long i1), .second, .val (.int i2), .val (.int i3), .val (.int i4), .val (.int v3), .val (.int v11), .val (.int wu), .val (.int rl), .val (.long v51), .second, .val (.long v59), .second, .val (.double rt), .second, .val (.long nw), .second, .val (.ref sb), .val (.double v164), .second, .val (.double r), .second, .unset, .unset, .val (.long v204), .second, .unset, .unset] [(.long v204)]))
            refine g_ldcLong hG X14 hx hZ hown (wd hw 44 rfl) (hb hby at_216) (pc' := 219) rfl ?_
            show G (T14.setTop (mkF m 219 #[.val (.long i0), .second, .val (.long i1), .second, .val (.int i2), .val (.int i3), .val (.int i4), .val (.int v3), .val (.int v11), .val (.int wu), .val (.int rl), .val (.long v51), .second, .val (.long v59), .second, .val (.double rt), .second, .val (.long nw), .second, .val (.ref sb), .val (.double v164), .second, .val (.double r), .second, .unset, .unset, .val (.long v204), .second, .unset, .unset] [(.long 1048576), (.long v204)]))
            obtain ⟨v219, q219⟩ : ∃ zz : Int32, lcmpW v204 (1048576 : Int64) = zz := ⟨_, rfl⟩
            refine g_lcmp hG X14 hx (hb hby at_219) (pc' := 220) rfl q219 ?_
            show G (T14.setTop (mkF m 220 #[.val (.long i0), .second, .val (.long i1), .second, .val (.int i2), .val (.int i3), .val (.int i4), .val (.int v3), .val (.int v11), .val (.int wu), .val (.int rl), .val (.long v51), .second, .val (.long v59), .second, .val (.double rt), .second, .val (.long nw), .second, .val (.ref sb), .val (.double v164), .second, .val (.double r), .second, .unset, .unset, .val (.long v204), .second, .unset, .unset] [(.int v219)]))
            refine g_ifYes hG X14 hx (hb hby at_220) (pc' := 234) ((if0 _ _).trans (tlt (show v219 < 0 by rw [← q219, ← q204]; exact (lw_lt _ _).mpr (Int64.lt_iff_toInt_lt.mpr (by rw [show (1048576 : Int64).toInt = 1048576 by decide]; exact c3)))).1) (by decide) (by decide) ?_
            show G (T14.setTop (mkF m 234 #[.val (.long i0), .second, .val (.long i1), .second, .val (.int i2), .val (.int i3), .val (.int i4), .val (.int v3), .val (.int v11), .val (.int wu), .val (.int rl), .val (.long v51), .second, .val (.long v59), .second, .val (.double rt), .second, .val (.long nw), .second, .val (.ref sb), .val (.double v164), .second, .val (.double r), .second, .unset, .unset, .val (.long v204), .second, .unset, .unset] []))
            have e204 : v204.toInt = (nw - i0).toInt := by rw [q204]
            have R8 := hsm c3
            rw [← e204] at R8 d1 c3
            rcases hkk with ⟨hv3, hk'⟩ | ⟨hv3, hk'⟩ | ⟨hv3, hk'⟩ | ⟨hv3, hk'⟩
            · skip
              refine g_iload hG X14 hx (hb hby at_234) (pc' := 236) rfl rfl ?_
              show G (T14.setTop (mkF m 236 #[.val (.long i0), .second, .val (.long i1), .second, .val (.int i2), .val (.int i3), .val (.int i4), .val (.int v3), .val (.int v11), .val (.int wu), .val (.int rl), .val (.long v51), .second, .val (.long v59), .second, .val (.double rt), .second, .val (.long nw), .second, .val (.ref sb), .val (.double v164), .second, .val (.double r), .second, .unset, .unset, .val (.long v204), .second, .unset, .unset] [(.int v3)]))
              refine g_ifNo hG X14 hx (hb hby at_236) (pc' := 239) ((if0 _ _).trans (teq hv3).2) rfl ?_
              show G (T14.setTop (mkF m 239 #[.val (.long i0), .second, .val (.long i1), .second, .val (.int i2), .val (.int i3), .val (.int i4), .val (.int v3), .val (.int v11), .val (.int wu), .val (.int rl), .val (.long v51), .second, .val (.long v59), .second, .val (.double rt), .second, .val (.long nw), .second, .val (.ref sb), .val (.double v164), .second, .val (.double r), .second, .unset, .unset, .val (.long v204), .second, .unset, .unset] []))
              refine g_ldcLong hG X14 hx hZ hown (wd hw 51 rfl) (hb hby at_239) (pc' := 242) rfl ?_
              show G (T14.setTop (mkF m 242 #[.val (.long i0), .second, .val (.long i1), .second, .val (.int i2), .val (.int i3), .val (.int i4), .val (.int v3), .val (.int v11), .val (.int wu), .val (.int rl), .val (.long v51), .second, .val (.long v59), .second, .val (.double rt), .second, .val (.long nw), .second, .val (.ref sb), .val (.double v164), .second, .val (.double r), .second, .unset, .unset, .val (.long v204), .second, .unset, .unset] [(.long 32)]))
              refine g_lload hG X14 hx (hb hby at_242) (pc' := 244) rfl rfl ?_
              show G (T14.setTop (mkF m 244 #[.val (.long i0), .second, .val (.long i1), .second, .val (.int i2), .val (.int i3), .val (.int i4), .val (.int v3), .val (.int v11), .val (.int wu), .val (.int rl), .val (.long v51), .second, .val (.long v59), .second, .val (.double rt), .second, .val (.long nw), .second, .val (.ref sb), .val (.double v164), .second, .val (.double r), .second, .unset, .unset, .val (.long v204), .second, .unset, .unset] [(.long v204), (.long 32)]))
              obtain ⟨v244, q244⟩ : ∃ zz : Int64, (32 : Int64) * v204 = zz := ⟨_, rfl⟩
              refine g_lmul hG X14 hx (hb hby at_244) (pc' := 245) rfl q244 ?_
              show G (T14.setTop (mkF m 245 #[.val (.long i0), .second, .val (.long i1), .second, .val (.int i2), .val (.int i3), .val (.int i4), .val (.int v3), .val (.int v11), .val (.int wu), .val (.int rl), .val (.long v51), .second, .val (.long v59), .second, .val (.double rt), .second, .val (.long nw), .second, .val (.ref sb), .val (.double v164), .second, .val (.double r), .second, .unset, .unset, .val (.long v204), .second, .unset, .unset] [(.long v244)]))
              refine g_bipush hG X14 hx (hb hby at_245) (pc' := 247) rfl (v := (8 : Int32)) rfl ?_
              show G (T14.setTop (mkF m 247 #[.val (.long i0), .second, .val (.long i1), .second, .val (.int i2), .val (.int i3), .val (.int i4), .val (.int v3), .val (.int v11), .val (.int wu), .val (.int rl), .val (.long v51), .second, .val (.long v59), .second, .val (.double rt), .second, .val (.long nw), .second, .val (.ref sb), .val (.double v164), .second, .val (.double r), .second, .unset, .unset, .val (.long v204), .second, .unset, .unset] [(.int 8), (.long v244)]))
              refine g_iload hG X14 hx (hb hby at_247) (pc' := 249) rfl rfl ?_
              show G (T14.setTop (mkF m 249 #[.val (.long i0), .second, .val (.long i1), .second, .val (.int i2), .val (.int i3), .val (.int i4), .val (.int v3), .val (.int v11), .val (.int wu), .val (.int rl), .val (.long v51), .second, .val (.long v59), .second, .val (.double rt), .second, .val (.long nw), .second, .val (.ref sb), .val (.double v164), .second, .val (.double r), .second, .unset, .unset, .val (.long v204), .second, .unset, .unset] [(.int v11), (.int 8), (.long v244)]))
              obtain ⟨v249, q249⟩ : ∃ zz : Int32, (8 : Int32) * v11 = zz := ⟨_, rfl⟩
              refine g_imul hG X14 hx (hb hby at_249) (pc' := 250) rfl q249 ?_
              show G (T14.setTop (mkF m 250 #[.val (.long i0), .second, .val (.long i1), .second, .val (.int i2), .val (.int i3), .val (.int i4), .val (.int v3), .val (.int v11), .val (.int wu), .val (.int rl), .val (.long v51), .second, .val (.long v59), .second, .val (.double rt), .second, .val (.long nw), .second, .val (.ref sb), .val (.double v164), .second, .val (.double r), .second, .unset, .unset, .val (.long v204), .second, .unset, .unset] [(.int v249), (.long v244)]))
              obtain ⟨v250, q250⟩ : ∃ zz : Int64, v249.toInt64 = zz := ⟨_, rfl⟩
              refine g_i2l hG X14 hx (hb hby at_250) (pc' := 251) rfl q250 ?_
              show G (T14.setTop (mkF m 251 #[.val (.long i0), .second, .val (.long i1), .second, .val (.int i2), .val (.int i3), .val (.int i4), .val (.int v3), .val (.int v11), .val (.int wu), .val (.int rl), .val (.long v51), .second, .val (.long v59), .second, .val (.double rt), .second, .val (.long nw), .second, .val (.ref sb), .val (.double v164), .second, .val (.double r), .second, .unset, .unset, .val (.long v204), .second, .unset, .unset] [(.long v250), (.long v244)]))
              obtain ⟨v251, q251⟩ : ∃ zz : Int64, v244 - v250 = zz := ⟨_, rfl⟩
              refine g_lsub hG X14 hx (hb hby at_251) (pc' := 252) rfl q251 ?_
              show G (T14.setTop (mkF m 252 #[.val (.long i0), .second, .val (.long i1), .second, .val (.int i2), .val (.int i3), .val (.int i4), .val (.int v3), .val (.int v11), .val (.int wu), .val (.int rl), .val (.long v51), .second, .val (.long v59), .second, .val (.double rt), .second, .val (.long nw), .second, .val (.ref sb), .val (.double v164), .second, .val (.double r), .second, .unset, .unset, .val (.long v204), .second, .unset, .unset] [(.long v251)]))
              refine g_lstore hG X14 hx (hb hby at_252) (pc' := 254) rfl (Ls' := #[.val (.long i0), .second, .val (.long i1), .second, .val (.int i2), .val (.int i3), .val (.int i4), .val (.int v3), .val (.int v11), .val (.int wu), .val (.int rl), .val (.long v51), .second, .val (.long v59), .second, .val (.double rt), .second, .val (.long nw), .second, .val (.ref sb), .val (.double v164), .second, .val (.double r), .second, .unset, .unset, .val (.long v204), .second, .val (.long v251), .second]) rfl ?_
              show G (T14.setTop (mkF m 254 #[.val (.long i0), .second, .val (.long i1), .second, .val (.int i2), .val (.int i3), .val (.int i4), .val (.int v3), .val (.int v11), .val (.int wu), .val (.int rl), .val (.long v51), .second, .val (.long v59), .second, .val (.double rt), .second, .val (.long nw), .second, .val (.ref sb), .val (.double v164), .second, .val (.double r), .second, .unset, .unset, .val (.long v204), .second, .val (.long v251), .second] []))
              refine g_goto hG X14 hx (hb hby at_254) (pc' := 315) (by decide) (by decide) ?_
              show G (T14.setTop (mkF m 315 #[.val (.long i0), .second, .val (.long i1), .second, .val (.int i2), .val (.int i3), .val (.int i4), .val (.int v3), .val (.int v11), .val (.int wu), .val (.int rl), .val (.long v51), .second, .val (.long v59), .second, .val (.double rt), .second, .val (.long nw), .second, .val (.ref sb), .val (.double v164), .second, .val (.double r), .second, .unset, .unset, .val (.long v204), .second, .val (.long v251), .second] []))
              have g1 := own_lmul q244 (show (32 : Int64).toInt = 32 by decide) rfl (by omega) (by omega)
              have g2 := own_imul q249 (show (8 : Int32).toInt = 8 by decide) rfl (by omega) (by omega)
              have g3 : v250.toInt = 8 * v11.toInt := by rw [← q250, c_i2l]; exact g2
              have eG := own_lsub q251 g1 g3 (by omega) (by omega)
              refine g_ldcLong hG X14 hx hZ hown (wd hw 39 rfl) (hb hby at_315) (pc' := 318) rfl ?_
              show G (T14.setTop (mkF m 318 #[.val (.long i0), .second, .val (.long i1), .second, .val (.int i2), .val (.int i3), .val (.int i4), .val (.int v3), .val (.int v11), .val (.int wu), .val (.int rl), .val (.long v51), .second, .val (.long v59), .second, .val (.double rt), .second, .val (.long nw), .second, .val (.ref sb), .val (.double v164), .second, .val (.double r), .second, .unset, .unset, .val (.long v204), .second, .val (.long v251), .second] [(.long 8)]))
              refine g_lload hG X14 hx (hb hby at_318) (pc' := 320) rfl rfl ?_
              show G (T14.setTop (mkF m 320 #[.val (.long i0), .second, .val (.long i1), .second, .val (.int i2), .val (.int i3), .val (.int i4), .val (.int v3), .val (.int v11), .val (.int wu), .val (.int rl), .val (.long v51), .second, .val (.long v59), .second, .val (.double rt), .second, .val (.long nw), .second, .val (.ref sb), .val (.double v164), .second, .val (.double r), .second, .unset, .unset, .val (.long v204), .second, .val (.long v251), .second] [(.long v51), (.long 8)]))
              obtain ⟨v320, q320⟩ : ∃ zz : Int64, (8 : Int64) * v51 = zz := ⟨_, rfl⟩
              refine g_lmul hG X14 hx (hb hby at_320) (pc' := 321) rfl q320 ?_
              show G (T14.setTop (mkF m 321 #[.val (.long i0), .second, .val (.long i1), .second, .val (.int i2), .val (.int i3), .val (.int i4), .val (.int v3), .val (.int v11), .val (.int wu), .val (.int rl), .val (.long v51), .second, .val (.long v59), .second, .val (.double rt), .second, .val (.long nw), .second, .val (.ref sb), .val (.double v164), .second, .val (.double r), .second, .unset, .unset, .val (.long v204), .second, .val (.long v251), .second] [(.long v320)]))
              refine g_lload hG X14 hx (hb hby at_321) (pc' := 323) rfl rfl ?_
              show G (T14.setTop (mkF m 323 #[.val (.long i0), .second, .val (.long i1), .second, .val (.int i2), .val (.int i3), .val (.int i4), .val (.int v3), .val (.int v11), .val (.int wu), .val (.int rl), .val (.long v51), .second, .val (.long v59), .second, .val (.double rt), .second, .val (.long nw), .second, .val (.ref sb), .val (.double v164), .second, .val (.double r), .second, .unset, .unset, .val (.long v204), .second, .val (.long v251), .second] [(.long v251), (.long v320)]))
              obtain ⟨v323, q323⟩ : ∃ zz : Int64, v320 + v251 = zz := ⟨_, rfl⟩
              refine g_ladd hG X14 hx (hb hby at_323) (pc' := 324) rfl q323 ?_
              show G (T14.setTop (mkF m 324 #[.val (.long i0), .second, .val (.long i1), .second, .val (.int i2), .val (.int i3), .val (.int i4), .val (.int v3), .val (.int v11), .val (.int wu), .val (.int rl), .val (.long v51), .second, .val (.long v59), .second, .val (.double rt), .second, .val (.long nw), .second, .val (.ref sb), .val (.double v164), .second, .val (.double r), .second, .unset, .unset, .val (.long v204), .second, .val (.long v251), .second] [(.long v323)]))
              refine g_ldcLong hG X14 hx hZ hown (wd hw 39 rfl) (hb hby at_324) (pc' := 327) rfl ?_
              show G (T14.setTop (mkF m 327 #[.val (.long i0), .second, .val (.long i1), .second, .val (.int i2), .val (.int i3), .val (.int i4), .val (.int v3), .val (.int v11), .val (.int wu), .val (.int rl), .val (.long v51), .second, .val (.long v59), .second, .val (.double rt), .second, .val (.long nw), .second, .val (.ref sb), .val (.double v164), .second, .val (.double r), .second, .unset, .unset, .val (.long v204), .second, .val (.long v251), .second] [(.long 8), (.long v323)]))
              refine g_lload hG X14 hx (hb hby at_327) (pc' := 329) rfl rfl ?_
              show G (T14.setTop (mkF m 329 #[.val (.long i0), .second, .val (.long i1), .second, .val (.int i2), .val (.int i3), .val (.int i4), .val (.int v3), .val (.int v11), .val (.int wu), .val (.int rl), .val (.long v51), .second, .val (.long v59), .second, .val (.double rt), .second, .val (.long nw), .second, .val (.ref sb), .val (.double v164), .second, .val (.double r), .second, .unset, .unset, .val (.long v204), .second, .val (.long v251), .second] [(.long v59), (.long 8), (.long v323)]))
              obtain ⟨v329, q329⟩ : ∃ zz : Int64, (8 : Int64) * v59 = zz := ⟨_, rfl⟩
              refine g_lmul hG X14 hx (hb hby at_329) (pc' := 330) rfl q329 ?_
              show G (T14.setTop (mkF m 330 #[.val (.long i0), .second, .val (.long i1), .second, .val (.int i2), .val (.int i3), .val (.int i4), .val (.int v3), .val (.int v11), .val (.int wu), .val (.int rl), .val (.long v51), .second, .val (.long v59), .second, .val (.double rt), .second, .val (.long nw), .second, .val (.ref sb), .val (.double v164), .second, .val (.double r), .second, .unset, .unset, .val (.long v204), .second, .val (.long v251), .second] [(.long v329), (.long v323)]))
              have e320 := own_lmul q320 (show (8 : Int64).toInt = 8 by decide) rfl (by omega) (by omega)
              have e323 := own_ladd q323 e320 eG (by omega) (by omega)
              have e329 := own_lmul q329 (show (8 : Int64).toInt = 8 by decide) rfl (by omega) (by omega)
              obtain ⟨mn, hmn, emn⟩ := own_min v323 v329
              have bmn : 0 ≤ mn.toInt ∧ mn.toInt ≤ 524280 := by omega
              refine g_callS hG X14 hx hZ (y := (⟨"java/lang/Math", "min", "(JJ)J"⟩ : MethodName)) 0 hown (wd hw 46 rfl) (wd hw 47 rfl) (wd hw 48 rfl) (wd hw 49 rfl) (by decide) (rmM l Z a0 hw [] v323 v329 mn h5 n0 Zs hmn) (by decide) (by decide) (by rw [hml]; rfl) pd_3 rfl (argsL := [(.long v323), (.long v329)]) (rest := []) rfl rfl (Nat.le_of_eq rfl) (hb hby at_330) eh14 (by decide) (by decide) (pc' := 333) rfl ?_
              intro T15 rv15 L15 X15 hQ15
              obtain ⟨rfl, Nq15, eh15⟩ := hQ15
              have NF15 := Fr.app NF14 Nq15
              show G (T15.setTop (mkF m 333 #[.val (.long i0), .second, .val (.long i1), .second, .val (.int i2), .val (.int i3), .val (.int i4), .val (.int v3), .val (.int v11), .val (.int wu), .val (.int rl), .val (.long v51), .second, .val (.long v59), .second, .val (.double rt), .second, .val (.long nw), .second, .val (.ref sb), .val (.double v164), .second, .val (.double r), .second, .unset, .unset, .val (.long v204), .second, .val (.long v251), .second] [(.long mn)]))
              refine g_lstore hG X15 hx (hb hby at_333) (pc' := 335) rfl (Ls' := #[.val (.long i0), .second, .val (.long i1), .second, .val (.int i2), .val (.int i3), .val (.int i4), .val (.int v3), .val (.int v11), .val (.int wu), .val (.int rl), .val (.long v51), .second, .val (.long v59), .second, .val (.double rt), .second, .val (.long nw), .second, .val (.ref sb), .val (.double v164), .second, .val (.double r), .second, .val (.long mn), .second, .val (.long v204), .second, .val (.long v251), .second]) rfl ?_
              show G (T15.setTop (mkF m 335 #[.val (.long i0), .second, .val (.long i1), .second, .val (.int i2), .val (.int i3), .val (.int i4), .val (.int v3), .val (.int v11), .val (.int wu), .val (.int rl), .val (.long v51), .second, .val (.long v59), .second, .val (.double rt), .second, .val (.long nw), .second, .val (.ref sb), .val (.double v164), .second, .val (.double r), .second, .val (.long mn), .second, .val (.long v204), .second, .val (.long v251), .second] []))
              have hE : mn.toInt = min (8 * v51.toInt + (4 * v204.toInt - v11.toInt) * k) (8 * v59.toInt) := by
                rw [emn, e323, e329, hk']
                congr 1
                omega
              have hk2 : (4 * v204.toInt - v11.toInt) * k = 32 * v204.toInt - 8 * v11.toInt := by rw [hk']; omega
              rw [← hE] at R8
              rw [hk2] at hE
              have hE : mn.toInt = mn.toInt := rfl
              refine g_aload hG X15 hx (hb hby at_335) (pc' := 337) rfl rfl rfl ?_
              show G (T15.setTop (mkF m 337 #[.val (.long i0), .second, .val (.long i1), .second, .val (.int i2), .val (.int i3), .val (.int i4), .val (.int v3), .val (.int v11), .val (.int wu), .val (.int rl), .val (.long v51), .second, .val (.long v59), .second, .val (.double rt), .second, .val (.long nw), .second, .val (.ref sb), .val (.double v164), .second, .val (.double r), .second, .val (.long mn), .second, .val (.long v204), .second, .val (.long v251), .second] [(.ref sb)]))
              refine g_getF hG X15 hx hZ hown (wd hw 29 rfl) Via.refl eh15 F_savedUpPermits_sb (hb hby at_337) (pc' := 340) rfl ?_
              intro T16 X16 e16
              show G (T16.setTop (mkF m 340 #[.val (.long i0), .second, .val (.long i1), .second, .val (.int i2), .val (.int i3), .val (.int i4), .val (.int v3), .val (.int v11), .val (.int wu), .val (.int rl), .val (.long v51), .second, .val (.long v59), .second, .val (.double rt), .second, .val (.long nw), .second, .val (.ref sb), .val (.double v164), .second, .val (.double r), .second, .val (.long mn), .second, .val (.long v204), .second, .val (.long v251), .second] [(.double v148)]))
              refine g_lload hG X16 hx (hb hby at_340) (pc' := 342) rfl rfl ?_
              show G (T16.setTop (mkF m 342 #[.val (.long i0), .second, .val (.long i1), .second, .val (.int i2), .val (.int i3), .val (.int i4), .val (.int v3), .val (.int v11), .val (.int wu), .val (.int rl), .val (.long v51), .second, .val (.long v59), .second, .val (.double rt), .second, .val (.long nw), .second, .val (.ref sb), .val (.double v164), .second, .val (.double r), .second, .val (.long mn), .second, .val (.long v204), .second, .val (.long v251), .second] [(.long v51), (.double v148)]))
              obtain ⟨v342, q342⟩ : ∃ zz : UInt64, FP.l2d v51 = zz := ⟨_, rfl⟩
              refine g_l2d hG X16 hx (hb hby at_342) (pc' := 343) rfl q342 ?_
              show G (T16.setTop (mkF m 343 #[.val (.long i0), .second, .val (.long i1), .second, .val (.int i2), .val (.int i3), .val (.int i4), .val (.int v3), .val (.int v11), .val (.int wu), .val (.int rl), .val (.long v51), .second, .val (.long v59), .second, .val (.double rt), .second, .val (.long nw), .second, .val (.ref sb), .val (.double v164), .second, .val (.double r), .second, .val (.long mn), .second, .val (.long v204), .second, .val (.long v251), .second] [(.double v342), (.double v148)]))
              obtain ⟨v343, q343⟩ : ∃ zz : Int32, cmpValue (FP.dcmp v148 v342) .l = zz := ⟨_, rfl⟩
              refine g_dcmp hG X16 hx (hb hby at_343) (pc' := 344) rfl q343 ?_
              show G (T16.setTop (mkF m 344 #[.val (.long i0), .second, .val (.long i1), .second, .val (.int i2), .val (.int i3), .val (.int i4), .val (.int v3), .val (.int v11), .val (.int wu), .val (.int rl), .val (.long v51), .second, .val (.long v59), .second, .val (.double rt), .second, .val (.long nw), .second, .val (.ref sb), .val (.double v164), .second, .val (.double r), .second, .val (.long mn), .second, .val (.long v204), .second, .val (.long v251), .second] [(.int v343)]))
              refine g_ifNo hG X16 hx (hb hby at_344) (pc' := 347) (by rw [← q343, OwnFl.dcmp_eq D148 (q342 ▸ OwnFl.l2d_DV (by omega)) rfl]; rfl) rfl ?_
              show G (T16.setTop (mkF m 347 #[.val (.long i0), .second, .val (.long i1), .second, .val (.int i2), .val (.int i3), .val (.int i4), .val (.int v3), .val (.int v11), .val (.int wu), .val (.int rl), .val (.long v51), .second, .val (.long v59), .second, .val (.double rt), .second, .val (.long nw), .second, .val (.ref sb), .val (.double v164), .second, .val (.double r), .second, .val (.long mn), .second, .val (.long v204), .second, .val (.long v251), .second] []))
              refine g_aload hG X16 hx (hb hby at_347) (pc' := 349) rfl rfl rfl ?_
              show G (T16.setTop (mkF m 349 #[.val (.long i0), .second, .val (.long i1), .second, .val (.int i2), .val (.int i3), .val (.int i4), .val (.int v3), .val (.int v11), .val (.int wu), .val (.int rl), .val (.long v51), .second, .val (.long v59), .second, .val (.double rt), .second, .val (.long nw), .second, .val (.ref sb), .val (.double v164), .second, .val (.double r), .second, .val (.long mn), .second, .val (.long v204), .second, .val (.long v251), .second] [(.ref sb)]))
              refine g_getF hG X16 hx hZ hown (wd hw 30 rfl) Via.refl e16 F_nextFreeNanos_sb (hb hby at_349) (pc' := 352) rfl ?_
              intro T17 X17 e17
              show G (T17.setTop (mkF m 352 #[.val (.long i0), .second, .val (.long i1), .second, .val (.int i2), .val (.int i3), .val (.int i4), .val (.int v3), .val (.int v11), .val (.int wu), .val (.int rl), .val (.long v51), .second, .val (.long v59), .second, .val (.double rt), .second, .val (.long nw), .second, .val (.ref sb), .val (.double v164), .second, .val (.double r), .second, .val (.long mn), .second, .val (.long v204), .second, .val (.long v251), .second] [(.long i0)]))
              refine g_lloadN hG X17 hx (hb hby at_352) (pc' := 353) rfl rfl ?_
              show G (T17.setTop (mkF m 353 #[.val (.long i0), .second, .val (.long i1), .second, .val (.int i2), .val (.int i3), .val (.int i4), .val (.int v3), .val (.int v11), .val (.int wu), .val (.int rl), .val (.long v51), .second, .val (.long v59), .second, .val (.double rt), .second, .val (.long nw), .second, .val (.ref sb), .val (.double v164), .second, .val (.double r), .second, .val (.long mn), .second, .val (.long v204), .second, .val (.long v251), .second] [(.long i0), (.long i0)]))
              obtain ⟨v353, q353⟩ : ∃ zz : Int32, lcmpW i0 i0 = zz := ⟨_, rfl⟩
              refine g_lcmp hG X17 hx (hb hby at_353) (pc' := 354) rfl q353 ?_
              show G (T17.setTop (mkF m 354 #[.val (.long i0), .second, .val (.long i1), .second, .val (.int i2), .val (.int i3), .val (.int i4), .val (.int v3), .val (.int v11), .val (.int wu), .val (.int rl), .val (.long v51), .second, .val (.long v59), .second, .val (.double rt), .second, .val (.long nw), .second, .val (.ref sb), .val (.double v164), .second, .val (.double r), .second, .val (.long mn), .second, .val (.long v204), .second, .val (.long v251), .second] [(.int v353)]))
              refine g_ifNo hG X17 hx (hb hby at_354) (pc' := 357) ((if0 _ _).trans (teq (show v353 = 0 by rw [← q353]; exact (lw_eq _ _).mpr rfl)).2) rfl ?_
              show G (T17.setTop (mkF m 357 #[.val (.long i0), .second, .val (.long i1), .second, .val (.int i2), .val (.int i3), .val (.int i4), .val (.int v3), .val (.int v11), .val (.int wu), .val (.int rl), .val (.long v51), .second, .val (.long v59), .second, .val (.double rt), .second, .val (.long nw), .second, .val (.ref sb), .val (.double v164), .second, .val (.double r), .second, .val (.long mn), .second, .val (.long v204), .second, .val (.long v251), .second] []))
              refine g_aload hG X17 hx (hb hby at_357) (pc' := 359) rfl rfl rfl ?_
              show G (T17.setTop (mkF m 359 #[.val (.long i0), .second, .val (.long i1), .second, .val (.int i2), .val (.int i3), .val (.int i4), .val (.int v3), .val (.int v11), .val (.int wu), .val (.int rl), .val (.long v51), .second, .val (.long v59), .second, .val (.double rt), .second, .val (.long nw), .second, .val (.ref sb), .val (.double v164), .second, .val (.double r), .second, .val (.long mn), .second, .val (.long v204), .second, .val (.long v251), .second] [(.ref sb)]))
              refine g_getF hG X17 hx hZ hown (wd hw 32 rfl) Via.refl e17 F_nextFreeFraction_sb (hb hby at_359) (pc' := 362) rfl ?_
              intro T18 X18 e18
              show G (T18.setTop (mkF m 362 #[.val (.long i0), .second, .val (.long i1), .second, .val (.int i2), .val (.int i3), .val (.int i4), .val (.int v3), .val (.int v11), .val (.int wu), .val (.int rl), .val (.long v51), .second, .val (.long v59), .second, .val (.double rt), .second, .val (.long nw), .second, .val (.ref sb), .val (.double v164), .second, .val (.double r), .second, .val (.long mn), .second, .val (.long v204), .second, .val (.long v251), .second] [(.double v164)]))
              refine g_dload hG X18 hx (hb hby at_362) (pc' := 364) rfl rfl ?_
              show G (T18.setTop (mkF m 364 #[.val (.long i0), .second, .val (.long i1), .second, .val (.int i2), .val (.int i3), .val (.int i4), .val (.int v3), .val (.int v11), .val (.int wu), .val (.int rl), .val (.long v51), .second, .val (.long v59), .second, .val (.double rt), .second, .val (.long nw), .second, .val (.ref sb), .val (.double v164), .second, .val (.double r), .second, .val (.long mn), .second, .val (.long v204), .second, .val (.long v251), .second] [(.double v164), (.double v164)]))
              obtain ⟨v364, q364⟩ : ∃ zz : Int32, cmpValue (FP.dcmp v164 v164) .l = zz := ⟨_, rfl⟩
              refine g_dcmp hG X18 hx (hb hby at_364) (pc' := 365) rfl q364 ?_
              show G (T18.setTop (mkF m 365 #[.val (.long i0), .second, .val (.long i1), .second, .val (.int i2), .val (.int i3), .val (.int i4), .val (.int v3), .val (.int v11), .val (.int wu), .val (.int rl), .val (.long v51), .second, .val (.long v59), .second, .val (.double rt), .second, .val (.long nw), .second, .val (.ref sb), .val (.double v164), .second, .val (.double r), .second, .val (.long mn), .second, .val (.long v204), .second, .val (.long v251), .second] [(.int v364)]))
              refine g_ifNo hG X18 hx (hb hby at_365) (pc' := 368) (by rw [← q364, OwnFl.dcmp_eq D164 D164 rfl]; rfl) rfl ?_
              show G (T18.setTop (mkF m 368 #[.val (.long i0), .second, .val (.long i1), .second, .val (.int i2), .val (.int i3), .val (.int i4), .val (.int v3), .val (.int v11), .val (.int wu), .val (.int rl), .val (.long v51), .second, .val (.long v59), .second, .val (.double rt), .second, .val (.long nw), .second, .val (.ref sb), .val (.double v164), .second, .val (.double r), .second, .val (.long mn), .second, .val (.long v204), .second, .val (.long v251), .second] []))
              refine g_iconst hG X18 hx (hb hby at_368) (pc' := 369) rfl (v := (1 : Int32)) rfl ?_
              show G (T18.setTop (mkF m 369 #[.val (.long i0), .second, .val (.long i1), .second, .val (.int i2), .val (.int i3), .val (.int i4), .val (.int v3), .val (.int v11), .val (.int wu), .val (.int rl), .val (.long v51), .second, .val (.long v59), .second, .val (.double rt), .second, .val (.long nw), .second, .val (.ref sb), .val (.double v164), .second, .val (.double r), .second, .val (.long mn), .second, .val (.long v204), .second, .val (.long v251), .second] [(.int 1)]))
              refine g_goto hG X18 hx (hb hby at_369) (pc' := 373) (by decide) (by decide) ?_
              show G (T18.setTop (mkF m 373 #[.val (.long i0), .second, .val (.long i1), .second, .val (.int i2), .val (.int i3), .val (.int i4), .val (.int v3), .val (.int v11), .val (.int wu), .val (.int rl), .val (.long v51), .second, .val (.long v59), .second, .val (.double rt), .second, .val (.long nw), .second, .val (.ref sb), .val (.double v164), .second, .val (.double r), .second, .val (.long mn), .second, .val (.long v204), .second, .val (.long v251), .second] [(.int 1)]))
              refine g_istore hG X18 hx (hb hby at_373) (pc' := 375) rfl (Ls' := #[.val (.long i0), .second, .val (.long i1), .second, .val (.int i2), .val (.int i3), .val (.int i4), .val (.int v3), .val (.int v11), .val (.int wu), .val (.int rl), .val (.long v51), .second, .val (.long v59), .second, .val (.double rt), .second, .val (.long nw), .second, .val (.ref sb), .val (.double v164), .second, .val (.double r), .second, .val (.long mn), .second, .val (.int 1), .unset, .val (.long v251), .second]) rfl ?_
              show G (T18.setTop (mkF m 375 #[.val (.long i0), .second, .val (.long i1), .second, .val (.int i2), .val (.int i3), .val (.int i4), .val (.int v3), .val (.int v11), .val (.int wu), .val (.int rl), .val (.long v51), .second, .val (.long v59), .second, .val (.double rt), .second, .val (.long nw), .second, .val (.ref sb), .val (.double v164), .second, .val (.double r), .second, .val (.long mn), .second, .val (.int 1), .unset, .val (.long v251), .second] []))
              refine g_iload hG X18 hx (hb hby at_375) (pc' := 377) rfl rfl ?_
              show G (T18.setTop (mkF m 377 #[.val (.long i0), .second, .val (.long i1), .second, .val (.int i2), .val (.int i3), .val (.int i4), .val (.int v3), .val (.int v11), .val (.int wu), .val (.int rl), .val (.long v51), .second, .val (.long v59), .second, .val (.double rt), .second, .val (.long nw), .second, .val (.ref sb), .val (.double v164), .second, .val (.double r), .second, .val (.long mn), .second, .val (.int 1), .unset, .val (.long v251), .second] [(.int 1)]))
              refine g_ifNo hG X18 hx (hb hby at_377) (pc' := 380) (by decide) rfl ?_
              show G (T18.setTop (mkF m 380 #[.val (.long i0), .second, .val (.long i1), .second, .val (.int i2), .val (.int i3), .val (.int i4), .val (.int v3), .val (.int v11), .val (.int wu), .val (.int rl), .val (.long v51), .second, .val (.long v59), .second, .val (.double rt), .second, .val (.long nw), .second, .val (.ref sb), .val (.double v164), .second, .val (.double r), .second, .val (.long mn), .second, .val (.int 1), .unset, .val (.long v251), .second] []))
              refine g_dload hG X18 hx (hb hby at_380) (pc' := 382) rfl rfl ?_
              show G (T18.setTop (mkF m 382 #[.val (.long i0), .second, .val (.long i1), .second, .val (.int i2), .val (.int i3), .val (.int i4), .val (.int v3), .val (.int v11), .val (.int wu), .val (.int rl), .val (.long v51), .second, .val (.long v59), .second, .val (.double rt), .second, .val (.long nw), .second, .val (.ref sb), .val (.double v164), .second, .val (.double r), .second, .val (.long mn), .second, .val (.int 1), .unset, .val (.long v251), .second] [(.double r)]))
              refine g_ldcDouble hG X18 hx hZ hown (wd hw 40 rfl) (hb hby at_382) (pc' := 385) rfl ?_
              show G (T18.setTop (mkF m 385 #[.val (.long i0), .second, .val (.long i1), .second, .val (.int i2), .val (.int i3), .val (.int i4), .val (.int v3), .val (.int v11), .val (.int wu), .val (.int rl), .val (.long v51), .second, .val (.long v59), .second, .val (.double rt), .second, .val (.long nw), .second, .val (.ref sb), .val (.double v164), .second, .val (.double r), .second, .val (.long mn), .second, .val (.int 1), .unset, .val (.long v251), .second] [(.double 4620693217682128896), (.double r)]))
              obtain ⟨v385, q385⟩ : ∃ zz : UInt64, FP.dmul r (4620693217682128896 : UInt64) = zz := ⟨_, rfl⟩
              have D385 := own_last R8 (by omega) (by omega)
              rw [q385] at D385
              refine g_dmul hG X18 hx (hb hby at_385) (pc' := 386) rfl (by rw [q385]; exact D385.noNaN) q385 ?_
              show G (T18.setTop (mkF m 386 #[.val (.long i0), .second, .val (.long i1), .second, .val (.int i2), .val (.int i3), .val (.int i4), .val (.int v3), .val (.int v11), .val (.int wu), .val (.int rl), .val (.long v51), .second, .val (.long v59), .second, .val (.double rt), .second, .val (.long nw), .second, .val (.ref sb), .val (.double v164), .second, .val (.double r), .second, .val (.long mn), .second, .val (.int 1), .unset, .val (.long v251), .second] [(.double v385)]))
              refine g_lload hG X18 hx (hb hby at_386) (pc' := 388) rfl rfl ?_
              show G (T18.setTop (mkF m 388 #[.val (.long i0), .second, .val (.long i1), .second, .val (.int i2), .val (.int i3), .val (.int i4), .val (.int v3), .val (.int v11), .val (.int wu), .val (.int rl), .val (.long v51), .second, .val (.long v59), .second, .val (.double rt), .second, .val (.long nw), .second, .val (.ref sb), .val (.double v164), .second, .val (.double r), .second, .val (.long mn), .second, .val (.int 1), .unset, .val (.long v251), .second] [(.long mn), (.double v385)]))
              obtain ⟨v388, q388⟩ : ∃ zz : UInt64, FP.l2d mn = zz := ⟨_, rfl⟩
              refine g_l2d hG X18 hx (hb hby at_388) (pc' := 389) rfl q388 ?_
              show G (T18.setTop (mkF m 389 #[.val (.long i0), .second, .val (.long i1), .second, .val (.int i2), .val (.int i3), .val (.int i4), .val (.int v3), .val (.int v11), .val (.int wu), .val (.int rl), .val (.long v51), .second, .val (.long v59), .second, .val (.double rt), .second, .val (.long nw), .second, .val (.ref sb), .val (.double v164), .second, .val (.double r), .second, .val (.long mn), .second, .val (.int 1), .unset, .val (.long v251), .second] [(.double v388), (.double v385)]))
              obtain ⟨v389, q389⟩ : ∃ zz : Int32, cmpValue (FP.dcmp v385 v388) .l = zz := ⟨_, rfl⟩
              refine g_dcmp hG X18 hx (hb hby at_389) (pc' := 390) rfl q389 ?_
              show G (T18.setTop (mkF m 390 #[.val (.long i0), .second, .val (.long i1), .second, .val (.int i2), .val (.int i3), .val (.int i4), .val (.int v3), .val (.int v11), .val (.int wu), .val (.int rl), .val (.long v51), .second, .val (.long v59), .second, .val (.double rt), .second, .val (.long nw), .second, .val (.ref sb), .val (.double v164), .second, .val (.double r), .second, .val (.long mn), .second, .val (.int 1), .unset, .val (.long v251), .second] [(.int v389)]))
              refine g_ifNo hG X18 hx (hb hby at_390) (pc' := 393) (by rw [← q389, OwnFl.dcmp_eq D385 (q388 ▸ OwnFl.l2d_DV (by omega)) (by rw [hE])]; rfl) rfl ?_
              show G (T18.setTop (mkF m 393 #[.val (.long i0), .second, .val (.long i1), .second, .val (.int i2), .val (.int i3), .val (.int i4), .val (.int v3), .val (.int v11), .val (.int wu), .val (.int rl), .val (.long v51), .second, .val (.long v59), .second, .val (.double rt), .second, .val (.long nw), .second, .val (.ref sb), .val (.double v164), .second, .val (.double r), .second, .val (.long mn), .second, .val (.int 1), .unset, .val (.long v251), .second] []))
              refine g_iconst hG X18 hx (hb hby at_393) (pc' := 394) rfl (v := (1 : Int32)) rfl ?_
              show G (T18.setTop (mkF m 394 #[.val (.long i0), .second, .val (.long i1), .second, .val (.int i2), .val (.int i3), .val (.int i4), .val (.int v3), .val (.int v11), .val (.int wu), .val (.int rl), .val (.long v51), .second, .val (.long v59), .second, .val (.double rt), .second, .val (.long nw), .second, .val (.ref sb), .val (.double v164), .second, .val (.double r), .second, .val (.long mn), .second, .val (.int 1), .unset, .val (.long v251), .second] [(.int 1)]))
              refine g_goto hG X18 hx (hb hby at_394) (pc' := 398) (by decide) (by decide) ?_
              show G (T18.setTop (mkF m 398 #[.val (.long i0), .second, .val (.long i1), .second, .val (.int i2), .val (.int i3), .val (.int i4), .val (.int v3), .val (.int v11), .val (.int wu), .val (.int rl), .val (.long v51), .second, .val (.long v59), .second, .val (.double rt), .second, .val (.long nw), .second, .val (.ref sb), .val (.double v164), .second, .val (.double r), .second, .val (.long mn), .second, .val (.int 1), .unset, .val (.long v251), .second] [(.int 1)]))
              exact e_retZ hGe X18 hx hrt hlk (hb hby at_398) (Or.inr rfl) e18 (by decide) (by decide) (⟨rfl, NF15⟩)
            · skip
              refine g_iload hG X14 hx (hb hby at_234) (pc' := 236) rfl rfl ?_
              show G (T14.setTop (mkF m 236 #[.val (.long i0), .second, .val (.long i1), .second, .val (.int i2), .val (.int i3), .val (.int i4), .val (.int v3), .val (.int v11), .val (.int wu), .val (.int rl), .val (.long v51), .second, .val (.long v59), .second, .val (.double rt), .second, .val (.long nw), .second, .val (.ref sb), .val (.double v164), .second, .val (.double r), .second, .unset, .unset, .val (.long v204), .second, .unset, .unset] [(.int v3)]))
              refine g_ifYes hG X14 hx (hb hby at_236) (pc' := 257) ((if0 _ _).trans (feq (show ¬ v3 = 0 by rw [hv3]; decide)).2) (by decide) (by decide) ?_
              show G (T14.setTop (mkF m 257 #[.val (.long i0), .second, .val (.long i1), .second, .val (.int i2), .val (.int i3), .val (.int i4), .val (.int v3), .val (.int v11), .val (.int wu), .val (.int rl), .val (.long v51), .second, .val (.long v59), .second, .val (.double rt), .second, .val (.long nw), .second, .val (.ref sb), .val (.double v164), .second, .val (.double r), .second, .unset, .unset, .val (.long v204), .second, .unset, .unset] []))
              refine g_iload hG X14 hx (hb hby at_257) (pc' := 259) rfl rfl ?_
              show G (T14.setTop (mkF m 259 #[.val (.long i0), .second, .val (.long i1), .second, .val (.int i2), .val (.int i3), .val (.int i4), .val (.int v3), .val (.int v11), .val (.int wu), .val (.int rl), .val (.long v51), .second, .val (.long v59), .second, .val (.double rt), .second, .val (.long nw), .second, .val (.ref sb), .val (.double v164), .second, .val (.double r), .second, .unset, .unset, .val (.long v204), .second, .unset, .unset] [(.int v3)]))
              refine g_iconst hG X14 hx (hb hby at_259) (pc' := 260) rfl (v := (1 : Int32)) rfl ?_
              show G (T14.setTop (mkF m 260 #[.val (.long i0), .second, .val (.long i1), .second, .val (.int i2), .val (.int i3), .val (.int i4), .val (.int v3), .val (.int v11), .val (.int wu), .val (.int rl), .val (.long v51), .second, .val (.long v59), .second, .val (.double rt), .second, .val (.long nw), .second, .val (.ref sb), .val (.double v164), .second, .val (.double r), .second, .unset, .unset, .val (.long v204), .second, .unset, .unset] [(.int 1), (.int v3)]))
              refine g_icmpNo hG X14 hx (hb hby at_260) (pc' := 263) ((teq hv3).2) rfl ?_
              show G (T14.setTop (mkF m 263 #[.val (.long i0), .second, .val (.long i1), .second, .val (.int i2), .val (.int i3), .val (.int i4), .val (.int v3), .val (.int v11), .val (.int wu), .val (.int rl), .val (.long v51), .second, .val (.long v59), .second, .val (.double rt), .second, .val (.long nw), .second, .val (.ref sb), .val (.double v164), .second, .val (.double r), .second, .unset, .unset, .val (.long v204), .second, .unset, .unset] []))
              refine g_ldcLong hG X14 hx hZ hown (wd hw 45 rfl) (hb hby at_263) (pc' := 266) rfl ?_
              show G (T14.setTop (mkF m 266 #[.val (.long i0), .second, .val (.long i1), .second, .val (.int i2), .val (.int i3), .val (.int i4), .val (.int v3), .val (.int v11), .val (.int wu), .val (.int rl), .val (.long v51), .second, .val (.long v59), .second, .val (.double rt), .second, .val (.long nw), .second, .val (.ref sb), .val (.double v164), .second, .val (.double r), .second, .unset, .unset, .val (.long v204), .second, .unset, .unset] [(.long 16)]))
              refine g_lload hG X14 hx (hb hby at_266) (pc' := 268) rfl rfl ?_
              show G (T14.setTop (mkF m 268 #[.val (.long i0), .second, .val (.long i1), .second, .val (.int i2), .val (.int i3), .val (.int i4), .val (.int v3), .val (.int v11), .val (.int wu), .val (.int rl), .val (.long v51), .second, .val (.long v59), .second, .val (.double rt), .second, .val (.long nw), .second, .val (.ref sb), .val (.double v164), .second, .val (.double r), .second, .unset, .unset, .val (.long v204), .second, .unset, .unset] [(.long v204), (.long 16)]))
              obtain ⟨v268, q268⟩ : ∃ zz : Int64, (16 : Int64) * v204 = zz := ⟨_, rfl⟩
              refine g_lmul hG X14 hx (hb hby at_268) (pc' := 269) rfl q268 ?_
              show G (T14.setTop (mkF m 269 #[.val (.long i0), .second, .val (.long i1), .second, .val (.int i2), .val (.int i3), .val (.int i4), .val (.int v3), .val (.int v11), .val (.int wu), .val (.int rl), .val (.long v51), .second, .val (.long v59), .second, .val (.double rt), .second, .val (.long nw), .second, .val (.ref sb), .val (.double v164), .second, .val (.double r), .second, .unset, .unset, .val (.long v204), .second, .unset, .unset] [(.long v268)]))
              refine g_iconst hG X14 hx (hb hby at_269) (pc' := 270) rfl (v := (4 : Int32)) rfl ?_
              show G (T14.setTop (mkF m 270 #[.val (.long i0), .second, .val (.long i1), .second, .val (.int i2), .val (.int i3), .val (.int i4), .val (.int v3), .val (.int v11), .val (.int wu), .val (.int rl), .val (.long v51), .second, .val (.long v59), .second, .val (.double rt), .second, .val (.long nw), .second, .val (.ref sb), .val (.double v164), .second, .val (.double r), .second, .unset, .unset, .val (.long v204), .second, .unset, .unset] [(.int 4), (.long v268)]))
              refine g_iload hG X14 hx (hb hby at_270) (pc' := 272) rfl rfl ?_
              show G (T14.setTop (mkF m 272 #[.val (.long i0), .second, .val (.long i1), .second, .val (.int i2), .val (.int i3), .val (.int i4), .val (.int v3), .val (.int v11), .val (.int wu), .val (.int rl), .val (.long v51), .second, .val (.long v59), .second, .val (.double rt), .second, .val (.long nw), .second, .val (.ref sb), .val (.double v164), .second, .val (.double r), .second, .unset, .unset, .val (.long v204), .second, .unset, .unset] [(.int v11), (.int 4), (.long v268)]))
              obtain ⟨v272, q272⟩ : ∃ zz : Int32, (4 : Int32) * v11 = zz := ⟨_, rfl⟩
              refine g_imul hG X14 hx (hb hby at_272) (pc' := 273) rfl q272 ?_
              show G (T14.setTop (mkF m 273 #[.val (.long i0), .second, .val (.long i1), .second, .val (.int i2), .val (.int i3), .val (.int i4), .val (.int v3), .val (.int v11), .val (.int wu), .val (.int rl), .val (.long v51), .second, .val (.long v59), .second, .val (.double rt), .second, .val (.long nw), .second, .val (.ref sb), .val (.double v164), .second, .val (.double r), .second, .unset, .unset, .val (.long v204), .second, .unset, .unset] [(.int v272), (.long v268)]))
              obtain ⟨v273, q273⟩ : ∃ zz : Int64, v272.toInt64 = zz := ⟨_, rfl⟩
              refine g_i2l hG X14 hx (hb hby at_273) (pc' := 274) rfl q273 ?_
              show G (T14.setTop (mkF m 274 #[.val (.long i0), .second, .val (.long i1), .second, .val (.int i2), .val (.int i3), .val (.int i4), .val (.int v3), .val (.int v11), .val (.int wu), .val (.int rl), .val (.long v51), .second, .val (.long v59), .second, .val (.double rt), .second, .val (.long nw), .second, .val (.ref sb), .val (.double v164), .second, .val (.double r), .second, .unset, .unset, .val (.long v204), .second, .unset, .unset] [(.long v273), (.long v268)]))
              obtain ⟨v274, q274⟩ : ∃ zz : Int64, v268 - v273 = zz := ⟨_, rfl⟩
              refine g_lsub hG X14 hx (hb hby at_274) (pc' := 275) rfl q274 ?_
              show G (T14.setTop (mkF m 275 #[.val (.long i0), .second, .val (.long i1), .second, .val (.int i2), .val (.int i3), .val (.int i4), .val (.int v3), .val (.int v11), .val (.int wu), .val (.int rl), .val (.long v51), .second, .val (.long v59), .second, .val (.double rt), .second, .val (.long nw), .second, .val (.ref sb), .val (.double v164), .second, .val (.double r), .second, .unset, .unset, .val (.long v204), .second, .unset, .unset] [(.long v274)]))
              refine g_lstore hG X14 hx (hb hby at_275) (pc' := 277) rfl (Ls' := #[.val (.long i0), .second, .val (.long i1), .second, .val (.int i2), .val (.int i3), .val (.int i4), .val (.int v3), .val (.int v11), .val (.int wu), .val (.int rl), .val (.long v51), .second, .val (.long v59), .second, .val (.double rt), .second, .val (.long nw), .second, .val (.ref sb), .val (.double v164), .second, .val (.double r), .second, .unset, .unset, .val (.long v204), .second, .val (.long v274), .second]) rfl ?_
              show G (T14.setTop (mkF m 277 #[.val (.long i0), .second, .val (.long i1), .second, .val (.int i2), .val (.int i3), .val (.int i4), .val (.int v3), .val (.int v11), .val (.int wu), .val (.int rl), .val (.long v51), .second, .val (.long v59), .second, .val (.double rt), .second, .val (.long nw), .second, .val (.ref sb), .val (.double v164), .second, .val (.double r), .second, .unset, .unset, .val (.long v204), .second, .val (.long v274), .second] []))
              refine g_goto hG X14 hx (hb hby at_277) (pc' := 315) (by decide) (by decide) ?_
              show G (T14.setTop (mkF m 315 #[.val (.long i0), .second, .val (.long i1), .second, .val (.int i2), .val (.int i3), .val (.int i4), .val (.int v3), .val (.int v11), .val (.int wu), .val (.int rl), .val (.long v51), .second, .val (.long v59), .second, .val (.double rt), .second, .val (.long nw), .second, .val (.ref sb), .val (.double v164), .second, .val (.double r), .second, .unset, .unset, .val (.long v204), .second, .val (.long v274), .second] []))
              have g1 := own_lmul q268 (show (16 : Int64).toInt = 16 by decide) rfl (by omega) (by omega)
              have g2 := own_imul q272 (show (4 : Int32).toInt = 4 by decide) rfl (by omega) (by omega)
              have g3 : v273.toInt = 4 * v11.toInt := by rw [← q273, c_i2l]; exact g2
              have eG := own_lsub q274 g1 g3 (by omega) (by omega)
              refine g_ldcLong hG X14 hx hZ hown (wd hw 39 rfl) (hb hby at_315) (pc' := 318) rfl ?_
              show G (T14.setTop (mkF m 318 #[.val (.long i0), .second, .val (.long i1), .second, .val (.int i2), .val (.int i3), .val (.int i4), .val (.int v3), .val (.int v11), .val (.int wu), .val (.int rl), .val (.long v51), .second, .val (.long v59), .second, .val (.double rt), .second, .val (.long nw), .second, .val (.ref sb), .val (.double v164), .second, .val (.double r), .second, .unset, .unset, .val (.long v204), .second, .val (.long v274), .second] [(.long 8)]))
              refine g_lload hG X14 hx (hb hby at_318) (pc' := 320) rfl rfl ?_
              show G (T14.setTop (mkF m 320 #[.val (.long i0), .second, .val (.long i1), .second, .val (.int i2), .val (.int i3), .val (.int i4), .val (.int v3), .val (.int v11), .val (.int wu), .val (.int rl), .val (.long v51), .second, .val (.long v59), .second, .val (.double rt), .second, .val (.long nw), .second, .val (.ref sb), .val (.double v164), .second, .val (.double r), .second, .unset, .unset, .val (.long v204), .second, .val (.long v274), .second] [(.long v51), (.long 8)]))
              obtain ⟨v320, q320⟩ : ∃ zz : Int64, (8 : Int64) * v51 = zz := ⟨_, rfl⟩
              refine g_lmul hG X14 hx (hb hby at_320) (pc' := 321) rfl q320 ?_
              show G (T14.setTop (mkF m 321 #[.val (.long i0), .second, .val (.long i1), .second, .val (.int i2), .val (.int i3), .val (.int i4), .val (.int v3), .val (.int v11), .val (.int wu), .val (.int rl), .val (.long v51), .second, .val (.long v59), .second, .val (.double rt), .second, .val (.long nw), .second, .val (.ref sb), .val (.double v164), .second, .val (.double r), .second, .unset, .unset, .val (.long v204), .second, .val (.long v274), .second] [(.long v320)]))
              refine g_lload hG X14 hx (hb hby at_321) (pc' := 323) rfl rfl ?_
              show G (T14.setTop (mkF m 323 #[.val (.long i0), .second, .val (.long i1), .second, .val (.int i2), .val (.int i3), .val (.int i4), .val (.int v3), .val (.int v11), .val (.int wu), .val (.int rl), .val (.long v51), .second, .val (.long v59), .second, .val (.double rt), .second, .val (.long nw), .second, .val (.ref sb), .val (.double v164), .second, .val (.double r), .second, .unset, .unset, .val (.long v204), .second, .val (.long v274), .second] [(.long v274), (.long v320)]))
              obtain ⟨v323, q323⟩ : ∃ zz : Int64, v320 + v274 = zz := ⟨_, rfl⟩
              refine g_ladd hG X14 hx (hb hby at_323) (pc' := 324) rfl q323 ?_
              show G (T14.setTop (mkF m 324 #[.val (.long i0), .second, .val (.long i1), .second, .val (.int i2), .val (.int i3), .val (.int i4), .val (.int v3), .val (.int v11), .val (.int wu), .val (.int rl), .val (.long v51), .second, .val (.long v59), .second, .val (.double rt), .second, .val (.long nw), .second, .val (.ref sb), .val (.double v164), .second, .val (.double r), .second, .unset, .unset, .val (.long v204), .second, .val (.long v274), .second] [(.long v323)]))
              refine g_ldcLong hG X14 hx hZ hown (wd hw 39 rfl) (hb hby at_324) (pc' := 327) rfl ?_
              show G (T14.setTop (mkF m 327 #[.val (.long i0), .second, .val (.long i1), .second, .val (.int i2), .val (.int i3), .val (.int i4), .val (.int v3), .val (.int v11), .val (.int wu), .val (.int rl), .val (.long v51), .second, .val (.long v59), .second, .val (.double rt), .second, .val (.long nw), .second, .val (.ref sb), .val (.double v164), .second, .val (.double r), .second, .unset, .unset, .val (.long v204), .second, .val (.long v274), .second] [(.long 8), (.long v323)]))
              refine g_lload hG X14 hx (hb hby at_327) (pc' := 329) rfl rfl ?_
              show G (T14.setTop (mkF m 329 #[.val (.long i0), .second, .val (.long i1), .second, .val (.int i2), .val (.int i3), .val (.int i4), .val (.int v3), .val (.int v11), .val (.int wu), .val (.int rl), .val (.long v51), .second, .val (.long v59), .second, .val (.double rt), .second, .val (.long nw), .second, .val (.ref sb), .val (.double v164), .second, .val (.double r), .second, .unset, .unset, .val (.long v204), .second, .val (.long v274), .second] [(.long v59), (.long 8), (.long v323)]))
              obtain ⟨v329, q329⟩ : ∃ zz : Int64, (8 : Int64) * v59 = zz := ⟨_, rfl⟩
              refine g_lmul hG X14 hx (hb hby at_329) (pc' := 330) rfl q329 ?_
              show G (T14.setTop (mkF m 330 #[.val (.long i0), .second, .val (.long i1), .second, .val (.int i2), .val (.int i3), .val (.int i4), .val (.int v3), .val (.int v11), .val (.int wu), .val (.int rl), .val (.long v51), .second, .val (.long v59), .second, .val (.double rt), .second, .val (.long nw), .second, .val (.ref sb), .val (.double v164), .second, .val (.double r), .second, .unset, .unset, .val (.long v204), .second, .val (.long v274), .second] [(.long v329), (.long v323)]))
              have e320 := own_lmul q320 (show (8 : Int64).toInt = 8 by decide) rfl (by omega) (by omega)
              have e323 := own_ladd q323 e320 eG (by omega) (by omega)
              have e329 := own_lmul q329 (show (8 : Int64).toInt = 8 by decide) rfl (by omega) (by omega)
              obtain ⟨mn, hmn, emn⟩ := own_min v323 v329
              have bmn : 0 ≤ mn.toInt ∧ mn.toInt ≤ 524280 := by omega
              refine g_callS hG X14 hx hZ (y := (⟨"java/lang/Math", "min", "(JJ)J"⟩ : MethodName)) 0 hown (wd hw 46 rfl) (wd hw 47 rfl) (wd hw 48 rfl) (wd hw 49 rfl) (by decide) (rmM l Z a0 hw [] v323 v329 mn h5 n0 Zs hmn) (by decide) (by decide) (by rw [hml]; rfl) pd_3 rfl (argsL := [(.long v323), (.long v329)]) (rest := []) rfl rfl (Nat.le_of_eq rfl) (hb hby at_330) eh14 (by decide) (by decide) (pc' := 333) rfl ?_
              intro T19 rv19 L19 X19 hQ19
              obtain ⟨rfl, Nq19, eh19⟩ := hQ19
              have NF19 := Fr.app NF14 Nq19
              show G (T19.setTop (mkF m 333 #[.val (.long i0), .second, .val (.long i1), .second, .val (.int i2), .val (.int i3), .val (.int i4), .val (.int v3), .val (.int v11), .val (.int wu), .val (.int rl), .val (.long v51), .second, .val (.long v59), .second, .val (.double rt), .second, .val (.long nw), .second, .val (.ref sb), .val (.double v164), .second, .val (.double r), .second, .unset, .unset, .val (.long v204), .second, .val (.long v274), .second] [(.long mn)]))
              refine g_lstore hG X19 hx (hb hby at_333) (pc' := 335) rfl (Ls' := #[.val (.long i0), .second, .val (.long i1), .second, .val (.int i2), .val (.int i3), .val (.int i4), .val (.int v3), .val (.int v11), .val (.int wu), .val (.int rl), .val (.long v51), .second, .val (.long v59), .second, .val (.double rt), .second, .val (.long nw), .second, .val (.ref sb), .val (.double v164), .second, .val (.double r), .second, .val (.long mn), .second, .val (.long v204), .second, .val (.long v274), .second]) rfl ?_
              show G (T19.setTop (mkF m 335 #[.val (.long i0), .second, .val (.long i1), .second, .val (.int i2), .val (.int i3), .val (.int i4), .val (.int v3), .val (.int v11), .val (.int wu), .val (.int rl), .val (.long v51), .second, .val (.long v59), .second, .val (.double rt), .second, .val (.long nw), .second, .val (.ref sb), .val (.double v164), .second, .val (.double r), .second, .val (.long mn), .second, .val (.long v204), .second, .val (.long v274), .second] []))
              have hE : mn.toInt = min (8 * v51.toInt + (4 * v204.toInt - v11.toInt) * k) (8 * v59.toInt) := by
                rw [emn, e323, e329, hk']
                congr 1
                omega
              have hk2 : (4 * v204.toInt - v11.toInt) * k = 16 * v204.toInt - 4 * v11.toInt := by rw [hk']; omega
              rw [← hE] at R8
              rw [hk2] at hE
              have hE : mn.toInt = mn.toInt := rfl
              refine g_aload hG X19 hx (hb hby at_335) (pc' := 337) rfl rfl rfl ?_
              show G (T19.setTop (mkF m 337 #[.val (.long i0), .second, .val (.long i1), .second, .val (.int i2), .val (.int i3), .val (.int i4), .val (.int v3), .val (.int v11), .val (.int wu), .val (.int rl), .val (.long v51), .second, .val (.long v59), .second, .val (.double rt), .second, .val (.long nw), .second, .val (.ref sb), .val (.double v164), .second, .val (.double r), .second, .val (.long mn), .second, .val (.long v204), .second, .val (.long v274), .second] [(.ref sb)]))
              refine g_getF hG X19 hx hZ hown (wd hw 29 rfl) Via.refl eh19 F_savedUpPermits_sb (hb hby at_337) (pc' := 340) rfl ?_
              intro T20 X20 e20
              show G (T20.setTop (mkF m 340 #[.val (.long i0), .second, .val (.long i1), .second, .val (.int i2), .val (.int i3), .val (.int i4), .val (.int v3), .val (.int v11), .val (.int wu), .val (.int rl), .val (.long v51), .second, .val (.long v59), .second, .val (.double rt), .second, .val (.long nw), .second, .val (.ref sb), .val (.double v164), .second, .val (.double r), .second, .val (.long mn), .second, .val (.long v204), .second, .val (.long v274), .second] [(.double v148)]))
              refine g_lload hG X20 hx (hb hby at_340) (pc' := 342) rfl rfl ?_
              show G (T20.setTop (mkF m 342 #[.val (.long i0), .second, .val (.long i1), .second, .val (.int i2), .val (.int i3), .val (.int i4), .val (.int v3), .val (.int v11), .val (.int wu), .val (.int rl), .val (.long v51), .second, .val (.long v59), .second, .val (.double rt), .second, .val (.long nw), .second, .val (.ref sb), .val (.double v164), .second, .val (.double r), .second, .val (.long mn), .second, .val (.long v204), .second, .val (.long v274), .second] [(.long v51), (.double v148)]))
              obtain ⟨v342, q342⟩ : ∃ zz : UInt64, FP.l2d v51 = zz := ⟨_, rfl⟩
              refine g_l2d hG X20 hx (hb hby at_342) (pc' := 343) rfl q342 ?_
              show G (T20.setTop (mkF m 343 #[.val (.long i0), .second, .val (.long i1), .second, .val (.int i2), .val (.int i3), .val (.int i4), .val (.int v3), .val (.int v11), .val (.int wu), .val (.int rl), .val (.long v51), .second, .val (.long v59), .second, .val (.double rt), .second, .val (.long nw), .second, .val (.ref sb), .val (.double v164), .second, .val (.double r), .second, .val (.long mn), .second, .val (.long v204), .second, .val (.long v274), .second] [(.double v342), (.double v148)]))
              obtain ⟨v343, q343⟩ : ∃ zz : Int32, cmpValue (FP.dcmp v148 v342) .l = zz := ⟨_, rfl⟩
              refine g_dcmp hG X20 hx (hb hby at_343) (pc' := 344) rfl q343 ?_
              show G (T20.setTop (mkF m 344 #[.val (.long i0), .second, .val (.long i1), .second, .val (.int i2), .val (.int i3), .val (.int i4), .val (.int v3), .val (.int v11), .val (.int wu), .val (.int rl), .val (.long v51), .second, .val (.long v59), .second, .val (.double rt), .second, .val (.long nw), .second, .val (.ref sb), .val (.double v164), .second, .val (.double r), .second, .val (.long mn), .second, .val (.long v204), .second, .val (.long v274), .second] [(.int v343)]))
              refine g_ifNo hG X20 hx (hb hby at_344) (pc' := 347) (by rw [← q343, OwnFl.dcmp_eq D148 (q342 ▸ OwnFl.l2d_DV (by omega)) rfl]; rfl) rfl ?_
              show G (T20.setTop (mkF m 347 #[.val (.long i0), .second, .val (.long i1), .second, .val (.int i2), .val (.int i3), .val (.int i4), .val (.int v3), .val (.int v11), .val (.int wu), .val (.int rl), .val (.long v51), .second, .val (.long v59), .second, .val (.double rt), .second, .val (.long nw), .second, .val (.ref sb), .val (.double v164), .second, .val (.double r), .second, .val (.long mn), .second, .val (.long v204), .second, .val (.long v274), .second] []))
              refine g_aload hG X20 hx (hb hby at_347) (pc' := 349) rfl rfl rfl ?_
              show G (T20.setTop (mkF m 349 #[.val (.long i0), .second, .val (.long i1), .second, .val (.int i2), .val (.int i3), .val (.int i4), .val (.int v3), .val (.int v11), .val (.int wu), .val (.int rl), .val (.long v51), .second, .val (.long v59), .second, .val (.double rt), .second, .val (.long nw), .second, .val (.ref sb), .val (.double v164), .second, .val (.double r), .second, .val (.long mn), .second, .val (.long v204), .second, .val (.long v274), .second] [(.ref sb)]))
              refine g_getF hG X20 hx hZ hown (wd hw 30 rfl) Via.refl e20 F_nextFreeNanos_sb (hb hby at_349) (pc' := 352) rfl ?_
              intro T21 X21 e21
              show G (T21.setTop (mkF m 352 #[.val (.long i0), .second, .val (.long i1), .second, .val (.int i2), .val (.int i3), .val (.int i4), .val (.int v3), .val (.int v11), .val (.int wu), .val (.int rl), .val (.long v51), .second, .val (.long v59), .second, .val (.double rt), .second, .val (.long nw), .second, .val (.ref sb), .val (.double v164), .second, .val (.double r), .second, .val (.long mn), .second, .val (.long v204), .second, .val (.long v274), .second] [(.long i0)]))
              refine g_lloadN hG X21 hx (hb hby at_352) (pc' := 353) rfl rfl ?_
              show G (T21.setTop (mkF m 353 #[.val (.long i0), .second, .val (.long i1), .second, .val (.int i2), .val (.int i3), .val (.int i4), .val (.int v3), .val (.int v11), .val (.int wu), .val (.int rl), .val (.long v51), .second, .val (.long v59), .second, .val (.double rt), .second, .val (.long nw), .second, .val (.ref sb), .val (.double v164), .second, .val (.double r), .second, .val (.long mn), .second, .val (.long v204), .second, .val (.long v274), .second] [(.long i0), (.long i0)]))
              obtain ⟨v353, q353⟩ : ∃ zz : Int32, lcmpW i0 i0 = zz := ⟨_, rfl⟩
              refine g_lcmp hG X21 hx (hb hby at_353) (pc' := 354) rfl q353 ?_
              show G (T21.setTop (mkF m 354 #[.val (.long i0), .second, .val (.long i1), .second, .val (.int i2), .val (.int i3), .val (.int i4), .val (.int v3), .val (.int v11), .val (.int wu), .val (.int rl), .val (.long v51), .second, .val (.long v59), .second, .val (.double rt), .second, .val (.long nw), .second, .val (.ref sb), .val (.double v164), .second, .val (.double r), .second, .val (.long mn), .second, .val (.long v204), .second, .val (.long v274), .second] [(.int v353)]))
              refine g_ifNo hG X21 hx (hb hby at_354) (pc' := 357) ((if0 _ _).trans (teq (show v353 = 0 by rw [← q353]; exact (lw_eq _ _).mpr rfl)).2) rfl ?_
              show G (T21.setTop (mkF m 357 #[.val (.long i0), .second, .val (.long i1), .second, .val (.int i2), .val (.int i3), .val (.int i4), .val (.int v3), .val (.int v11), .val (.int wu), .val (.int rl), .val (.long v51), .second, .val (.long v59), .second, .val (.double rt), .second, .val (.long nw), .second, .val (.ref sb), .val (.double v164), .second, .val (.double r), .second, .val (.long mn), .second, .val (.long v204), .second, .val (.long v274), .second] []))
              refine g_aload hG X21 hx (hb hby at_357) (pc' := 359) rfl rfl rfl ?_
              show G (T21.setTop (mkF m 359 #[.val (.long i0), .second, .val (.long i1), .second, .val (.int i2), .val (.int i3), .val (.int i4), .val (.int v3), .val (.int v11), .val (.int wu), .val (.int rl), .val (.long v51), .second, .val (.long v59), .second, .val (.double rt), .second, .val (.long nw), .second, .val (.ref sb), .val (.double v164), .second, .val (.double r), .second, .val (.long mn), .second, .val (.long v204), .second, .val (.long v274), .second] [(.ref sb)]))
              refine g_getF hG X21 hx hZ hown (wd hw 32 rfl) Via.refl e21 F_nextFreeFraction_sb (hb hby at_359) (pc' := 362) rfl ?_
              intro T22 X22 e22
              show G (T22.setTop (mkF m 362 #[.val (.long i0), .second, .val (.long i1), .second, .val (.int i2), .val (.int i3), .val (.int i4), .val (.int v3), .val (.int v11), .val (.int wu), .val (.int rl), .val (.long v51), .second, .val (.long v59), .second, .val (.double rt), .second, .val (.long nw), .second, .val (.ref sb), .val (.double v164), .second, .val (.double r), .second, .val (.long mn), .second, .val (.long v204), .second, .val (.long v274), .second] [(.double v164)]))
              refine g_dload hG X22 hx (hb hby at_362) (pc' := 364) rfl rfl ?_
              show G (T22.setTop (mkF m 364 #[.val (.long i0), .second, .val (.long i1), .second, .val (.int i2), .val (.int i3), .val (.int i4), .val (.int v3), .val (.int v11), .val (.int wu), .val (.int rl), .val (.long v51), .second, .val (.long v59), .second, .val (.double rt), .second, .val (.long nw), .second, .val (.ref sb), .val (.double v164), .second, .val (.double r), .second, .val (.long mn), .second, .val (.long v204), .second, .val (.long v274), .second] [(.double v164), (.double v164)]))
              obtain ⟨v364, q364⟩ : ∃ zz : Int32, cmpValue (FP.dcmp v164 v164) .l = zz := ⟨_, rfl⟩
              refine g_dcmp hG X22 hx (hb hby at_364) (pc' := 365) rfl q364 ?_
              show G (T22.setTop (mkF m 365 #[.val (.long i0), .second, .val (.long i1), .second, .val (.int i2), .val (.int i3), .val (.int i4), .val (.int v3), .val (.int v11), .val (.int wu), .val (.int rl), .val (.long v51), .second, .val (.long v59), .second, .val (.double rt), .second, .val (.long nw), .second, .val (.ref sb), .val (.double v164), .second, .val (.double r), .second, .val (.long mn), .second, .val (.long v204), .second, .val (.long v274), .second] [(.int v364)]))
              refine g_ifNo hG X22 hx (hb hby at_365) (pc' := 368) (by rw [← q364, OwnFl.dcmp_eq D164 D164 rfl]; rfl) rfl ?_
              show G (T22.setTop (mkF m 368 #[.val (.long i0), .second, .val (.long i1), .second, .val (.int i2), .val (.int i3), .val (.int i4), .val (.int v3), .val (.int v11), .val (.int wu), .val (.int rl), .val (.long v51), .second, .val (.long v59), .second, .val (.double rt), .second, .val (.long nw), .second, .val (.ref sb), .val (.double v164), .second, .val (.double r), .second, .val (.long mn), .second, .val (.long v204), .second, .val (.long v274), .second] []))
              refine g_iconst hG X22 hx (hb hby at_368) (pc' := 369) rfl (v := (1 : Int32)) rfl ?_
              show G (T22.setTop (mkF m 369 #[.val (.long i0), .second, .val (.long i1), .second, .val (.int i2), .val (.int i3), .val (.int i4), .val (.int v3), .val (.int v11), .val (.int wu), .val (.int rl), .val (.long v51), .second, .val (.long v59), .second, .val (.double rt), .second, .val (.long nw), .second, .val (.ref sb), .val (.double v164), .second, .val (.double r), .second, .val (.long mn), .second, .val (.long v204), .second, .val (.long v274), .second] [(.int 1)]))
              refine g_goto hG X22 hx (hb hby at_369) (pc' := 373) (by decide) (by decide) ?_
              show G (T22.setTop (mkF m 373 #[.val (.long i0), .second, .val (.long i1), .second, .val (.int i2), .val (.int i3), .val (.int i4), .val (.int v3), .val (.int v11), .val (.int wu), .val (.int rl), .val (.long v51), .second, .val (.long v59), .second, .val (.double rt), .second, .val (.long nw), .second, .val (.ref sb), .val (.double v164), .second, .val (.double r), .second, .val (.long mn), .second, .val (.long v204), .second, .val (.long v274), .second] [(.int 1)]))
              refine g_istore hG X22 hx (hb hby at_373) (pc' := 375) rfl (Ls' := #[.val (.long i0), .second, .val (.long i1), .second, .val (.int i2), .val (.int i3), .val (.int i4), .val (.int v3), .val (.int v11), .val (.int wu), .val (.int rl), .val (.long v51), .second, .val (.long v59), .second, .val (.double rt), .second, .val (.long nw), .second, .val (.ref sb), .val (.double v164), .second, .val (.double r), .second, .val (.long mn), .second, .val (.int 1), .unset, .val (.long v274), .second]) rfl ?_
              show G (T22.setTop (mkF m 375 #[.val (.long i0), .second, .val (.long i1), .second, .val (.int i2), .val (.int i3), .val (.int i4), .val (.int v3), .val (.int v11), .val (.int wu), .val (.int rl), .val (.long v51), .second, .val (.long v59), .second, .val (.double rt), .second, .val (.long nw), .second, .val (.ref sb), .val (.double v164), .second, .val (.double r), .second, .val (.long mn), .second, .val (.int 1), .unset, .val (.long v274), .second] []))
              refine g_iload hG X22 hx (hb hby at_375) (pc' := 377) rfl rfl ?_
              show G (T22.setTop (mkF m 377 #[.val (.long i0), .second, .val (.long i1), .second, .val (.int i2), .val (.int i3), .val (.int i4), .val (.int v3), .val (.int v11), .val (.int wu), .val (.int rl), .val (.long v51), .second, .val (.long v59), .second, .val (.double rt), .second, .val (.long nw), .second, .val (.ref sb), .val (.double v164), .second, .val (.double r), .second, .val (.long mn), .second, .val (.int 1), .unset, .val (.long v274), .second] [(.int 1)]))
              refine g_ifNo hG X22 hx (hb hby at_377) (pc' := 380) (by decide) rfl ?_
              show G (T22.setTop (mkF m 380 #[.val (.long i0), .second, .val (.long i1), .second, .val (.int i2), .val (.int i3), .val (.int i4), .val (.int v3), .val (.int v11), .val (.int wu), .val (.int rl), .val (.long v51), .second, .val (.long v59), .second, .val (.double rt), .second, .val (.long nw), .second, .val (.ref sb), .val (.double v164), .second, .val (.double r), .second, .val (.long mn), .second, .val (.int 1), .unset, .val (.long v274), .second] []))
              refine g_dload hG X22 hx (hb hby at_380) (pc' := 382) rfl rfl ?_
              show G (T22.setTop (mkF m 382 #[.val (.long i0), .second, .val (.long i1), .second, .val (.int i2), .val (.int i3), .val (.int i4), .val (.int v3), .val (.int v11), .val (.int wu), .val (.int rl), .val (.long v51), .second, .val (.long v59), .second, .val (.double rt), .second, .val (.long nw), .second, .val (.ref sb), .val (.double v164), .second, .val (.double r), .second, .val (.long mn), .second, .val (.int 1), .unset, .val (.long v274), .second] [(.double r)]))
              refine g_ldcDouble hG X22 hx hZ hown (wd hw 40 rfl) (hb hby at_382) (pc' := 385) rfl ?_
              show G (T22.setTop (mkF m 385 #[.val (.long i0), .second, .val (.long i1), .second, .val (.int i2), .val (.int i3), .val (.int i4), .val (.int v3), .val (.int v11), .val (.int wu), .val (.int rl), .val (.long v51), .second, .val (.long v59), .second, .val (.double rt), .second, .val (.long nw), .second, .val (.ref sb), .val (.double v164), .second, .val (.double r), .second, .val (.long mn), .second, .val (.int 1), .unset, .val (.long v274), .second] [(.double 4620693217682128896), (.double r)]))
              obtain ⟨v385, q385⟩ : ∃ zz : UInt64, FP.dmul r (4620693217682128896 : UInt64) = zz := ⟨_, rfl⟩
              have D385 := own_last R8 (by omega) (by omega)
              rw [q385] at D385
              refine g_dmul hG X22 hx (hb hby at_385) (pc' := 386) rfl (by rw [q385]; exact D385.noNaN) q385 ?_
              show G (T22.setTop (mkF m 386 #[.val (.long i0), .second, .val (.long i1), .second, .val (.int i2), .val (.int i3), .val (.int i4), .val (.int v3), .val (.int v11), .val (.int wu), .val (.int rl), .val (.long v51), .second, .val (.long v59), .second, .val (.double rt), .second, .val (.long nw), .second, .val (.ref sb), .val (.double v164), .second, .val (.double r), .second, .val (.long mn), .second, .val (.int 1), .unset, .val (.long v274), .second] [(.double v385)]))
              refine g_lload hG X22 hx (hb hby at_386) (pc' := 388) rfl rfl ?_
              show G (T22.setTop (mkF m 388 #[.val (.long i0), .second, .val (.long i1), .second, .val (.int i2), .val (.int i3), .val (.int i4), .val (.int v3), .val (.int v11), .val (.int wu), .val (.int rl), .val (.long v51), .second, .val (.long v59), .second, .val (.double rt), .second, .val (.long nw), .second, .val (.ref sb), .val (.double v164), .second, .val (.double r), .second, .val (.long mn), .second, .val (.int 1), .unset, .val (.long v274), .second] [(.long mn), (.double v385)]))
              obtain ⟨v388, q388⟩ : ∃ zz : UInt64, FP.l2d mn = zz := ⟨_, rfl⟩
              refine g_l2d hG X22 hx (hb hby at_388) (pc' := 389) rfl q388 ?_
              show G (T22.setTop (mkF m 389 #[.val (.long i0), .second, .val (.long i1), .second, .val (.int i2), .val (.int i3), .val (.int i4), .val (.int v3), .val (.int v11), .val (.int wu), .val (.int rl), .val (.long v51), .second, .val (.long v59), .second, .val (.double rt), .second, .val (.long nw), .second, .val (.ref sb), .val (.double v164), .second, .val (.double r), .second, .val (.long mn), .second, .val (.int 1), .unset, .val (.long v274), .second] [(.double v388), (.double v385)]))
              obtain ⟨v389, q389⟩ : ∃ zz : Int32, cmpValue (FP.dcmp v385 v388) .l = zz := ⟨_, rfl⟩
              refine g_dcmp hG X22 hx (hb hby at_389) (pc' := 390) rfl q389 ?_
              show G (T22.setTop (mkF m 390 #[.val (.long i0), .second, .val (.long i1), .second, .val (.int i2), .val (.int i3), .val (.int i4), .val (.int v3), .val (.int v11), .val (.int wu), .val (.int rl), .val (.long v51), .second, .val (.long v59), .second, .val (.double rt), .second, .val (.long nw), .second, .val (.ref sb), .val (.double v164), .second, .val (.double r), .second, .val (.long mn), .second, .val (.int 1), .unset, .val (.long v274), .second] [(.int v389)]))
              refine g_ifNo hG X22 hx (hb hby at_390) (pc' := 393) (by rw [← q389, OwnFl.dcmp_eq D385 (q388 ▸ OwnFl.l2d_DV (by omega)) (by rw [hE])]; rfl) rfl ?_
              show G (T22.setTop (mkF m 393 #[.val (.long i0), .second, .val (.long i1), .second, .val (.int i2), .val (.int i3), .val (.int i4), .val (.int v3), .val (.int v11), .val (.int wu), .val (.int rl), .val (.long v51), .second, .val (.long v59), .second, .val (.double rt), .second, .val (.long nw), .second, .val (.ref sb), .val (.double v164), .second, .val (.double r), .second, .val (.long mn), .second, .val (.int 1), .unset, .val (.long v274), .second] []))
              refine g_iconst hG X22 hx (hb hby at_393) (pc' := 394) rfl (v := (1 : Int32)) rfl ?_
              show G (T22.setTop (mkF m 394 #[.val (.long i0), .second, .val (.long i1), .second, .val (.int i2), .val (.int i3), .val (.int i4), .val (.int v3), .val (.int v11), .val (.int wu), .val (.int rl), .val (.long v51), .second, .val (.long v59), .second, .val (.double rt), .second, .val (.long nw), .second, .val (.ref sb), .val (.double v164), .second, .val (.double r), .second, .val (.long mn), .second, .val (.int 1), .unset, .val (.long v274), .second] [(.int 1)]))
              refine g_goto hG X22 hx (hb hby at_394) (pc' := 398) (by decide) (by decide) ?_
              show G (T22.setTop (mkF m 398 #[.val (.long i0), .second, .val (.long i1), .second, .val (.int i2), .val (.int i3), .val (.int i4), .val (.int v3), .val (.int v11), .val (.int wu), .val (.int rl), .val (.long v51), .second, .val (.long v59), .second, .val (.double rt), .second, .val (.long nw), .second, .val (.ref sb), .val (.double v164), .second, .val (.double r), .second, .val (.long mn), .second, .val (.int 1), .unset, .val (.long v274), .second] [(.int 1)]))
              exact e_retZ hGe X22 hx hrt hlk (hb hby at_398) (Or.inr rfl) e22 (by decide) (by decide) (⟨rfl, NF19⟩)
            · skip
              refine g_iload hG X14 hx (hb hby at_234) (pc' := 236) rfl rfl ?_
              show G (T14.setTop (mkF m 236 #[.val (.long i0), .second, .val (.long i1), .second, .val (.int i2), .val (.int i3), .val (.int i4), .val (.int v3), .val (.int v11), .val (.int wu), .val (.int rl), .val (.long v51), .second, .val (.long v59), .second, .val (.double rt), .second, .val (.long nw), .second, .val (.ref sb), .val (.double v164), .second, .val (.double r), .second, .unset, .unset, .val (.long v204), .second, .unset, .unset] [(.int v3)]))
              refine g_ifYes hG X14 hx (hb hby at_236) (pc' := 257) ((if0 _ _).trans (feq (show ¬ v3 = 0 by rw [hv3]; decide)).2) (by decide) (by decide) ?_
              show G (T14.setTop (mkF m 257 #[.val (.long i0), .second, .val (.long i1), .second, .val (.int i2), .val (.int i3), .val (.int i4), .val (.int v3), .val (.int v11), .val (.int wu), .val (.int rl), .val (.long v51), .second, .val (.long v59), .second, .val (.double rt), .second, .val (.long nw), .second, .val (.ref sb), .val (.double v164), .second, .val (.double r), .second, .unset, .unset, .val (.long v204), .second, .unset, .unset] []))
              refine g_iload hG X14 hx (hb hby at_257) (pc' := 259) rfl rfl ?_
              show G (T14.setTop (mkF m 259 #[.val (.long i0), .second, .val (.long i1), .second, .val (.int i2), .val (.int i3), .val (.int i4), .val (.int v3), .val (.int v11), .val (.int wu), .val (.int rl), .val (.long v51), .second, .val (.long v59), .second, .val (.double rt), .second, .val (.long nw), .second, .val (.ref sb), .val (.double v164), .second, .val (.double r), .second, .unset, .unset, .val (.long v204), .second, .unset, .unset] [(.int v3)]))
              refine g_iconst hG X14 hx (hb hby at_259) (pc' := 260) rfl (v := (1 : Int32)) rfl ?_
              show G (T14.setTop (mkF m 260 #[.val (.long i0), .second, .val (.long i1), .second, .val (.int i2), .val (.int i3), .val (.int i4), .val (.int v3), .val (.int v11), .val (.int wu), .val (.int rl), .val (.long v51), .second, .val (.long v59), .second, .val (.double rt), .second, .val (.long nw), .second, .val (.ref sb), .val (.double v164), .second, .val (.double r), .second, .unset, .unset, .val (.long v204), .second, .unset, .unset] [(.int 1), (.int v3)]))
              refine g_icmpYes hG X14 hx (hb hby at_260) (pc' := 280) ((feq (show ¬ v3 = 1 by rw [hv3]; decide)).2) (by decide) (by decide) ?_
              show G (T14.setTop (mkF m 280 #[.val (.long i0), .second, .val (.long i1), .second, .val (.int i2), .val (.int i3), .val (.int i4), .val (.int v3), .val (.int v11), .val (.int wu), .val (.int rl), .val (.long v51), .second, .val (.long v59), .second, .val (.double rt), .second, .val (.long nw), .second, .val (.ref sb), .val (.double v164), .second, .val (.double r), .second, .unset, .unset, .val (.long v204), .second, .unset, .unset] []))
              refine g_iload hG X14 hx (hb hby at_280) (pc' := 282) rfl rfl ?_
              show G (T14.setTop (mkF m 282 #[.val (.long i0), .second, .val (.long i1), .second, .val (.int i2), .val (.int i3), .val (.int i4), .val (.int v3), .val (.int v11), .val (.int wu), .val (.int rl), .val (.long v51), .second, .val (.long v59), .second, .val (.double rt), .second, .val (.long nw), .second, .val (.ref sb), .val (.double v164), .second, .val (.double r), .second, .unset, .unset, .val (.long v204), .second, .unset, .unset] [(.int v3)]))
              refine g_iconst hG X14 hx (hb hby at_282) (pc' := 283) rfl (v := (2 : Int32)) rfl ?_
              show G (T14.setTop (mkF m 283 #[.val (.long i0), .second, .val (.long i1), .second, .val (.int i2), .val (.int i3), .val (.int i4), .val (.int v3), .val (.int v11), .val (.int wu), .val (.int rl), .val (.long v51), .second, .val (.long v59), .second, .val (.double rt), .second, .val (.long nw), .second, .val (.ref sb), .val (.double v164), .second, .val (.double r), .second, .unset, .unset, .val (.long v204), .second, .unset, .unset] [(.int 2), (.int v3)]))
              refine g_icmpNo hG X14 hx (hb hby at_283) (pc' := 286) ((teq hv3).2) rfl ?_
              show G (T14.setTop (mkF m 286 #[.val (.long i0), .second, .val (.long i1), .second, .val (.int i2), .val (.int i3), .val (.int i4), .val (.int v3), .val (.int v11), .val (.int wu), .val (.int rl), .val (.long v51), .second, .val (.long v59), .second, .val (.double rt), .second, .val (.long nw), .second, .val (.ref sb), .val (.double v164), .second, .val (.double r), .second, .unset, .unset, .val (.long v204), .second, .unset, .unset] []))
              refine g_ldcLong hG X14 hx hZ hown (wd hw 39 rfl) (hb hby at_286) (pc' := 289) rfl ?_
              show G (T14.setTop (mkF m 289 #[.val (.long i0), .second, .val (.long i1), .second, .val (.int i2), .val (.int i3), .val (.int i4), .val (.int v3), .val (.int v11), .val (.int wu), .val (.int rl), .val (.long v51), .second, .val (.long v59), .second, .val (.double rt), .second, .val (.long nw), .second, .val (.ref sb), .val (.double v164), .second, .val (.double r), .second, .unset, .unset, .val (.long v204), .second, .unset, .unset] [(.long 8)]))
              refine g_lload hG X14 hx (hb hby at_289) (pc' := 291) rfl rfl ?_
              show G (T14.setTop (mkF m 291 #[.val (.long i0), .second, .val (.long i1), .second, .val (.int i2), .val (.int i3), .val (.int i4), .val (.int v3), .val (.int v11), .val (.int wu), .val (.int rl), .val (.long v51), .second, .val (.long v59), .second, .val (.double rt), .second, .val (.long nw), .second, .val (.ref sb), .val (.double v164), .second, .val (.double r), .second, .unset, .unset, .val (.long v204), .second, .unset, .unset] [(.long v204), (.long 8)]))
              obtain ⟨v291, q291⟩ : ∃ zz : Int64, (8 : Int64) * v204 = zz := ⟨_, rfl⟩
              refine g_lmul hG X14 hx (hb hby at_291) (pc' := 292) rfl q291 ?_
              show G (T14.setTop (mkF m 292 #[.val (.long i0), .second, .val (.long i1), .second, .val (.int i2), .val (.int i3), .val (.int i4), .val (.int v3), .val (.int v11), .val (.int wu), .val (.int rl), .val (.long v51), .second, .val (.long v59), .second, .val (.double rt), .second, .val (.long nw), .second, .val (.ref sb), .val (.double v164), .second, .val (.double r), .second, .unset, .unset, .val (.long v204), .second, .unset, .unset] [(.long v291)]))
              refine g_iconst hG X14 hx (hb hby at_292) (pc' := 293) rfl (v := (2 : Int32)) rfl ?_
              show G (T14.setTop (mkF m 293 #[.val (.long i0), .second, .val (.long i1), .second, .val (.int i2), .val (.int i3), .val (.int i4), .val (.int v3), .val (.int v11), .val (.int wu), .val (.int rl), .val (.long v51), .second, .val (.long v59), .second, .val (.double rt), .second, .val (.long nw), .second, .val (.ref sb), .val (.double v164), .second, .val (.double r), .second, .unset, .unset, .val (.long v204), .second, .unset, .unset] [(.int 2), (.long v291)]))
              refine g_iload hG X14 hx (hb hby at_293) (pc' := 295) rfl rfl ?_
              show G (T14.setTop (mkF m 295 #[.val (.long i0), .second, .val (.long i1), .second, .val (.int i2), .val (.int i3), .val (.int i4), .val (.int v3), .val (.int v11), .val (.int wu), .val (.int rl), .val (.long v51), .second, .val (.long v59), .second, .val (.double rt), .second, .val (.long nw), .second, .val (.ref sb), .val (.double v164), .second, .val (.double r), .second, .unset, .unset, .val (.long v204), .second, .unset, .unset] [(.int v11), (.int 2), (.long v291)]))
              obtain ⟨v295, q295⟩ : ∃ zz : Int32, (2 : Int32) * v11 = zz := ⟨_, rfl⟩
              refine g_imul hG X14 hx (hb hby at_295) (pc' := 296) rfl q295 ?_
              show G (T14.setTop (mkF m 296 #[.val (.long i0), .second, .val (.long i1), .second, .val (.int i2), .val (.int i3), .val (.int i4), .val (.int v3), .val (.int v11), .val (.int wu), .val (.int rl), .val (.long v51), .second, .val (.long v59), .second, .val (.double rt), .second, .val (.long nw), .second, .val (.ref sb), .val (.double v164), .second, .val (.double r), .second, .unset, .unset, .val (.long v204), .second, .unset, .unset] [(.int v295), (.long v291)]))
              obtain ⟨v296, q296⟩ : ∃ zz : Int64, v295.toInt64 = zz := ⟨_, rfl⟩
              refine g_i2l hG X14 hx (hb hby at_296) (pc' := 297) rfl q296 ?_
              show G (T14.setTop (mkF m 297 #[.val (.long i0), .second, .val (.long i1), .second, .val (.int i2), .val (.int i3), .val (.int i4), .val (.int v3), .val (.int v11), .val (.int wu), .val (.int rl), .val (.long v51), .second, .val (.long v59), .second, .val (.double rt), .second, .val (.long nw), .second, .val (.ref sb), .val (.double v164), .second, .val (.double r), .second, .unset, .unset, .val (.long v204), .second, .unset, .unset] [(.long v296), (.long v291)]))
              obtain ⟨v297, q297⟩ : ∃ zz : Int64, v291 - v296 = zz := ⟨_, rfl⟩
              refine g_lsub hG X14 hx (hb hby at_297) (pc' := 298) rfl q297 ?_
              show G (T14.setTop (mkF m 298 #[.val (.long i0), .second, .val (.long i1), .second, .val (.int i2), .val (.int i3), .val (.int i4), .val (.int v3), .val (.int v11), .val (.int wu), .val (.int rl), .val (.long v51), .second, .val (.long v59), .second, .val (.double rt), .second, .val (.long nw), .second, .val (.ref sb), .val (.double v164), .second, .val (.double r), .second, .unset, .unset, .val (.long v204), .second, .unset, .unset] [(.long v297)]))
              refine g_lstore hG X14 hx (hb hby at_298) (pc' := 300) rfl (Ls' := #[.val (.long i0), .second, .val (.long i1), .second, .val (.int i2), .val (.int i3), .val (.int i4), .val (.int v3), .val (.int v11), .val (.int wu), .val (.int rl), .val (.long v51), .second, .val (.long v59), .second, .val (.double rt), .second, .val (.long nw), .second, .val (.ref sb), .val (.double v164), .second, .val (.double r), .second, .unset, .unset, .val (.long v204), .second, .val (.long v297), .second]) rfl ?_
              show G (T14.setTop (mkF m 300 #[.val (.long i0), .second, .val (.long i1), .second, .val (.int i2), .val (.int i3), .val (.int i4), .val (.int v3), .val (.int v11), .val (.int wu), .val (.int rl), .val (.long v51), .second, .val (.long v59), .second, .val (.double rt), .second, .val (.long nw), .second, .val (.ref sb), .val (.double v164), .second, .val (.double r), .second, .unset, .unset, .val (.long v204), .second, .val (.long v297), .second] []))
              refine g_goto hG X14 hx (hb hby at_300) (pc' := 315) (by decide) (by decide) ?_
              show G (T14.setTop (mkF m 315 #[.val (.long i0), .second, .val (.long i1), .second, .val (.int i2), .val (.int i3), .val (.int i4), .val (.int v3), .val (.int v11), .val (.int wu), .val (.int rl), .val (.long v51), .second, .val (.long v59), .second, .val (.double rt), .second, .val (.long nw), .second, .val (.ref sb), .val (.double v164), .second, .val (.double r), .second, .unset, .unset, .val (.long v204), .second, .val (.long v297), .second] []))
              have g1 := own_lmul q291 (show (8 : Int64).toInt = 8 by decide) rfl (by omega) (by omega)
              have g2 := own_imul q295 (show (2 : Int32).toInt = 2 by decide) rfl (by omega) (by omega)
              have g3 : v296.toInt = 2 * v11.toInt := by rw [← q296, c_i2l]; exact g2
              have eG := own_lsub q297 g1 g3 (by omega) (by omega)
              refine g_ldcLong hG X14 hx hZ hown (wd hw 39 rfl) (hb hby at_315) (pc' := 318) rfl ?_
              show G (T14.setTop (mkF m 318 #[.val (.long i0), .second, .val (.long i1), .second, .val (.int i2), .val (.int i3), .val (.int i4), .val (.int v3), .val (.int v11), .val (.int wu), .val (.int rl), .val (.long v51), .second, .val (.long v59), .second, .val (.double rt), .second, .val (.long nw), .second, .val (.ref sb), .val (.double v164), .second, .val (.double r), .second, .unset, .unset, .val (.long v204), .second, .val (.long v297), .second] [(.long 8)]))
              refine g_lload hG X14 hx (hb hby at_318) (pc' := 320) rfl rfl ?_
              show G (T14.setTop (mkF m 320 #[.val (.long i0), .second, .val (.long i1), .second, .val (.int i2), .val (.int i3), .val (.int i4), .val (.int v3), .val (.int v11), .val (.int wu), .val (.int rl), .val (.long v51), .second, .val (.long v59), .second, .val (.double rt), .second, .val (.long nw), .second, .val (.ref sb), .val (.double v164), .second, .val (.double r), .second, .unset, .unset, .val (.long v204), .second, .val (.long v297), .second] [(.long v51), (.long 8)]))
              obtain ⟨v320, q320⟩ : ∃ zz : Int64, (8 : Int64) * v51 = zz := ⟨_, rfl⟩
              refine g_lmul hG X14 hx (hb hby at_320) (pc' := 321) rfl q320 ?_
              show G (T14.setTop (mkF m 321 #[.val (.long i0), .second, .val (.long i1), .second, .val (.int i2), .val (.int i3), .val (.int i4), .val (.int v3), .val (.int v11), .val (.int wu), .val (.int rl), .val (.long v51), .second, .val (.long v59), .second, .val (.double rt), .second, .val (.long nw), .second, .val (.ref sb), .val (.double v164), .second, .val (.double r), .second, .unset, .unset, .val (.long v204), .second, .val (.long v297), .second] [(.long v320)]))
              refine g_lload hG X14 hx (hb hby at_321) (pc' := 323) rfl rfl ?_
              show G (T14.setTop (mkF m 323 #[.val (.long i0), .second, .val (.long i1), .second, .val (.int i2), .val (.int i3), .val (.int i4), .val (.int v3), .val (.int v11), .val (.int wu), .val (.int rl), .val (.long v51), .second, .val (.long v59), .second, .val (.double rt), .second, .val (.long nw), .second, .val (.ref sb), .val (.double v164), .second, .val (.double r), .second, .unset, .unset, .val (.long v204), .second, .val (.long v297), .second] [(.long v297), (.long v320)]))
              obtain ⟨v323, q323⟩ : ∃ zz : Int64, v320 + v297 = zz := ⟨_, rfl⟩
              refine g_ladd hG X14 hx (hb hby at_323) (pc' := 324) rfl q323 ?_
              show G (T14.setTop (mkF m 324 #[.val (.long i0), .second, .val (.long i1), .second, .val (.int i2), .val (.int i3), .val (.int i4), .val (.int v3), .val (.int v11), .val (.int wu), .val (.int rl), .val (.long v51), .second, .val (.long v59), .second, .val (.double rt), .second, .val (.long nw), .second, .val (.ref sb), .val (.double v164), .second, .val (.double r), .second, .unset, .unset, .val (.long v204), .second, .val (.long v297), .second] [(.long v323)]))
              refine g_ldcLong hG X14 hx hZ hown (wd hw 39 rfl) (hb hby at_324) (pc' := 327) rfl ?_
              show G (T14.setTop (mkF m 327 #[.val (.long i0), .second, .val (.long i1), .second, .val (.int i2), .val (.int i3), .val (.int i4), .val (.int v3), .val (.int v11), .val (.int wu), .val (.int rl), .val (.long v51), .second, .val (.long v59), .second, .val (.double rt), .second, .val (.long nw), .second, .val (.ref sb), .val (.double v164), .second, .val (.double r), .second, .unset, .unset, .val (.long v204), .second, .val (.long v297), .second] [(.long 8), (.long v323)]))
              refine g_lload hG X14 hx (hb hby at_327) (pc' := 329) rfl rfl ?_
              show G (T14.setTop (mkF m 329 #[.val (.long i0), .second, .val (.long i1), .second, .val (.int i2), .val (.int i3), .val (.int i4), .val (.int v3), .val (.int v11), .val (.int wu), .val (.int rl), .val (.long v51), .second, .val (.long v59), .second, .val (.double rt), .second, .val (.long nw), .second, .val (.ref sb), .val (.double v164), .second, .val (.double r), .second, .unset, .unset, .val (.long v204), .second, .val (.long v297), .second] [(.long v59), (.long 8), (.long v323)]))
              obtain ⟨v329, q329⟩ : ∃ zz : Int64, (8 : Int64) * v59 = zz := ⟨_, rfl⟩
              refine g_lmul hG X14 hx (hb hby at_329) (pc' := 330) rfl q329 ?_
              show G (T14.setTop (mkF m 330 #[.val (.long i0), .second, .val (.long i1), .second, .val (.int i2), .val (.int i3), .val (.int i4), .val (.int v3), .val (.int v11), .val (.int wu), .val (.int rl), .val (.long v51), .second, .val (.long v59), .second, .val (.double rt), .second, .val (.long nw), .second, .val (.ref sb), .val (.double v164), .second, .val (.double r), .second, .unset, .unset, .val (.long v204), .second, .val (.long v297), .second] [(.long v329), (.long v323)]))
              have e320 := own_lmul q320 (show (8 : Int64).toInt = 8 by decide) rfl (by omega) (by omega)
              have e323 := own_ladd q323 e320 eG (by omega) (by omega)
              have e329 := own_lmul q329 (show (8 : Int64).toInt = 8 by decide) rfl (by omega) (by omega)
              obtain ⟨mn, hmn, emn⟩ := own_min v323 v329
              have bmn : 0 ≤ mn.toInt ∧ mn.toInt ≤ 524280 := by omega
              refine g_callS hG X14 hx hZ (y := (⟨"java/lang/Math", "min", "(JJ)J"⟩ : MethodName)) 0 hown (wd hw 46 rfl) (wd hw 47 rfl) (wd hw 48 rfl) (wd hw 49 rfl) (by decide) (rmM l Z a0 hw [] v323 v329 mn h5 n0 Zs hmn) (by decide) (by decide) (by rw [hml]; rfl) pd_3 rfl (argsL := [(.long v323), (.long v329)]) (rest := []) rfl rfl (Nat.le_of_eq rfl) (hb hby at_330) eh14 (by decide) (by decide) (pc' := 333) rfl ?_
              intro T23 rv23 L23 X23 hQ23
              obtain ⟨rfl, Nq23, eh23⟩ := hQ23
              have NF23 := Fr.app NF14 Nq23
              show G (T23.setTop (mkF m 333 #[.val (.long i0), .second, .val (.long i1), .second, .val (.int i2), .val (.int i3), .val (.int i4), .val (.int v3), .val (.int v11), .val (.int wu), .val (.int rl), .val (.long v51), .second, .val (.long v59), .second, .val (.double rt), .second, .val (.long nw), .second, .val (.ref sb), .val (.double v164), .second, .val (.double r), .second, .unset, .unset, .val (.long v204), .second, .val (.long v297), .second] [(.long mn)]))
              refine g_lstore hG X23 hx (hb hby at_333) (pc' := 335) rfl (Ls' := #[.val (.long i0), .second, .val (.long i1), .second, .val (.int i2), .val (.int i3), .val (.int i4), .val (.int v3), .val (.int v11), .val (.int wu), .val (.int rl), .val (.long v51), .second, .val (.long v59), .second, .val (.double rt), .second, .val (.long nw), .second, .val (.ref sb), .val (.double v164), .second, .val (.double r), .second, .val (.long mn), .second, .val (.long v204), .second, .val (.long v297), .second]) rfl ?_
              show G (T23.setTop (mkF m 335 #[.val (.long i0), .second, .val (.long i1), .second, .val (.int i2), .val (.int i3), .val (.int i4), .val (.int v3), .val (.int v11), .val (.int wu), .val (.int rl), .val (.long v51), .second, .val (.long v59), .second, .val (.double rt), .second, .val (.long nw), .second, .val (.ref sb), .val (.double v164), .second, .val (.double r), .second, .val (.long mn), .second, .val (.long v204), .second, .val (.long v297), .second] []))
              have hE : mn.toInt = min (8 * v51.toInt + (4 * v204.toInt - v11.toInt) * k) (8 * v59.toInt) := by
                rw [emn, e323, e329, hk']
                congr 1
                omega
              have hk2 : (4 * v204.toInt - v11.toInt) * k = 8 * v204.toInt - 2 * v11.toInt := by rw [hk']; omega
              rw [← hE] at R8
              rw [hk2] at hE
              have hE : mn.toInt = mn.toInt := rfl
              refine g_aload hG X23 hx (hb hby at_335) (pc' := 337) rfl rfl rfl ?_
              show G (T23.setTop (mkF m 337 #[.val (.long i0), .second, .val (.long i1), .second, .val (.int i2), .val (.int i3), .val (.int i4), .val (.int v3), .val (.int v11), .val (.int wu), .val (.int rl), .val (.long v51), .second, .val (.long v59), .second, .val (.double rt), .second, .val (.long nw), .second, .val (.ref sb), .val (.double v164), .second, .val (.double r), .second, .val (.long mn), .second, .val (.long v204), .second, .val (.long v297), .second] [(.ref sb)]))
              refine g_getF hG X23 hx hZ hown (wd hw 29 rfl) Via.refl eh23 F_savedUpPermits_sb (hb hby at_337) (pc' := 340) rfl ?_
              intro T24 X24 e24
              show G (T24.setTop (mkF m 340 #[.val (.long i0), .second, .val (.long i1), .second, .val (.int i2), .val (.int i3), .val (.int i4), .val (.int v3), .val (.int v11), .val (.int wu), .val (.int rl), .val (.long v51), .second, .val (.long v59), .second, .val (.double rt), .second, .val (.long nw), .second, .val (.ref sb), .val (.double v164), .second, .val (.double r), .second, .val (.long mn), .second, .val (.long v204), .second, .val (.long v297), .second] [(.double v148)]))
              refine g_lload hG X24 hx (hb hby at_340) (pc' := 342) rfl rfl ?_
              show G (T24.setTop (mkF m 342 #[.val (.long i0), .second, .val (.long i1), .second, .val (.int i2), .val (.int i3), .val (.int i4), .val (.int v3), .val (.int v11), .val (.int wu), .val (.int rl), .val (.long v51), .second, .val (.long v59), .second, .val (.double rt), .second, .val (.long nw), .second, .val (.ref sb), .val (.double v164), .second, .val (.double r), .second, .val (.long mn), .second, .val (.long v204), .second, .val (.long v297), .second] [(.long v51), (.double v148)]))
              obtain ⟨v342, q342⟩ : ∃ zz : UInt64, FP.l2d v51 = zz := ⟨_, rfl⟩
              refine g_l2d hG X24 hx (hb hby at_342) (pc' := 343) rfl q342 ?_
              show G (T24.setTop (mkF m 343 #[.val (.long i0), .second, .val (.long i1), .second, .val (.int i2), .val (.int i3), .val (.int i4), .val (.int v3), .val (.int v11), .val (.int wu), .val (.int rl), .val (.long v51), .second, .val (.long v59), .second, .val (.double rt), .second, .val (.long nw), .second, .val (.ref sb), .val (.double v164), .second, .val (.double r), .second, .val (.long mn), .second, .val (.long v204), .second, .val (.long v297), .second] [(.double v342), (.double v148)]))
              obtain ⟨v343, q343⟩ : ∃ zz : Int32, cmpValue (FP.dcmp v148 v342) .l = zz := ⟨_, rfl⟩
              refine g_dcmp hG X24 hx (hb hby at_343) (pc' := 344) rfl q343 ?_
              show G (T24.setTop (mkF m 344 #[.val (.long i0), .second, .val (.long i1), .second, .val (.int i2), .val (.int i3), .val (.int i4), .val (.int v3), .val (.int v11), .val (.int wu), .val (.int rl), .val (.long v51), .second, .val (.long v59), .second, .val (.double rt), .second, .val (.long nw), .second, .val (.ref sb), .val (.double v164), .second, .val (.double r), .second, .val (.long mn), .second, .val (.long v204), .second, .val (.long v297), .second] [(.int v343)]))
              refine g_ifNo hG X24 hx (hb hby at_344) (pc' := 347) (by rw [← q343, OwnFl.dcmp_eq D148 (q342 ▸ OwnFl.l2d_DV (by omega)) rfl]; rfl) rfl ?_
              show G (T24.setTop (mkF m 347 #[.val (.long i0), .second, .val (.long i1), .second, .val (.int i2), .val (.int i3), .val (.int i4), .val (.int v3), .val (.int v11), .val (.int wu), .val (.int rl), .val (.long v51), .second, .val (.long v59), .second, .val (.double rt), .second, .val (.long nw), .second, .val (.ref sb), .val (.double v164), .second, .val (.double r), .second, .val (.long mn), .second, .val (.long v204), .second, .val (.long v297), .second] []))
              refine g_aload hG X24 hx (hb hby at_347) (pc' := 349) rfl rfl rfl ?_
              show G (T24.setTop (mkF m 349 #[.val (.long i0), .second, .val (.long i1), .second, .val (.int i2), .val (.int i3), .val (.int i4), .val (.int v3), .val (.int v11), .val (.int wu), .val (.int rl), .val (.long v51), .second, .val (.long v59), .second, .val (.double rt), .second, .val (.long nw), .second, .val (.ref sb), .val (.double v164), .second, .val (.double r), .second, .val (.long mn), .second, .val (.long v204), .second, .val (.long v297), .second] [(.ref sb)]))
              refine g_getF hG X24 hx hZ hown (wd hw 30 rfl) Via.refl e24 F_nextFreeNanos_sb (hb hby at_349) (pc' := 352) rfl ?_
              intro T25 X25 e25
              show G (T25.setTop (mkF m 352 #[.val (.long i0), .second, .val (.long i1), .second, .val (.int i2), .val (.int i3), .val (.int i4), .val (.int v3), .val (.int v11), .val (.int wu), .val (.int rl), .val (.long v51), .second, .val (.long v59), .second, .val (.double rt), .second, .val (.long nw), .second, .val (.ref sb), .val (.double v164), .second, .val (.double r), .second, .val (.long mn), .second, .val (.long v204), .second, .val (.long v297), .second] [(.long i0)]))
              refine g_lloadN hG X25 hx (hb hby at_352) (pc' := 353) rfl rfl ?_
              show G (T25.setTop (mkF m 353 #[.val (.long i0), .second, .val (.long i1), .second, .val (.int i2), .val (.int i3), .val (.int i4), .val (.int v3), .val (.int v11), .val (.int wu), .val (.int rl), .val (.long v51), .second, .val (.long v59), .second, .val (.double rt), .second, .val (.long nw), .second, .val (.ref sb), .val (.double v164), .second, .val (.double r), .second, .val (.long mn), .second, .val (.long v204), .second, .val (.long v297), .second] [(.long i0), (.long i0)]))
              obtain ⟨v353, q353⟩ : ∃ zz : Int32, lcmpW i0 i0 = zz := ⟨_, rfl⟩
              refine g_lcmp hG X25 hx (hb hby at_353) (pc' := 354) rfl q353 ?_
              show G (T25.setTop (mkF m 354 #[.val (.long i0), .second, .val (.long i1), .second, .val (.int i2), .val (.int i3), .val (.int i4), .val (.int v3), .val (.int v11), .val (.int wu), .val (.int rl), .val (.long v51), .second, .val (.long v59), .second, .val (.double rt), .second, .val (.long nw), .second, .val (.ref sb), .val (.double v164), .second, .val (.double r), .second, .val (.long mn), .second, .val (.long v204), .second, .val (.long v297), .second] [(.int v353)]))
              refine g_ifNo hG X25 hx (hb hby at_354) (pc' := 357) ((if0 _ _).trans (teq (show v353 = 0 by rw [← q353]; exact (lw_eq _ _).mpr rfl)).2) rfl ?_
              show G (T25.setTop (mkF m 357 #[.val (.long i0), .second, .val (.long i1), .second, .val (.int i2), .val (.int i3), .val (.int i4), .val (.int v3), .val (.int v11), .val (.int wu), .val (.int rl), .val (.long v51), .second, .val (.long v59), .second, .val (.double rt), .second, .val (.long nw), .second, .val (.ref sb), .val (.double v164), .second, .val (.double r), .second, .val (.long mn), .second, .val (.long v204), .second, .val (.long v297), .second] []))
              refine g_aload hG X25 hx (hb hby at_357) (pc' := 359) rfl rfl rfl ?_
              show G (T25.setTop (mkF m 359 #[.val (.long i0), .second, .val (.long i1), .second, .val (.int i2), .val (.int i3), .val (.int i4), .val (.int v3), .val (.int v11), .val (.int wu), .val (.int rl), .val (.long v51), .second, .val (.long v59), .second, .val (.double rt), .second, .val (.long nw), .second, .val (.ref sb), .val (.double v164), .second, .val (.double r), .second, .val (.long mn), .second, .val (.long v204), .second, .val (.long v297), .second] [(.ref sb)]))
              refine g_getF hG X25 hx hZ hown (wd hw 32 rfl) Via.refl e25 F_nextFreeFraction_sb (hb hby at_359) (pc' := 362) rfl ?_
              intro T26 X26 e26
              show G (T26.setTop (mkF m 362 #[.val (.long i0), .second, .val (.long i1), .second, .val (.int i2), .val (.int i3), .val (.int i4), .val (.int v3), .val (.int v11), .val (.int wu), .val (.int rl), .val (.long v51), .second, .val (.long v59), .second, .val (.double rt), .second, .val (.long nw), .second, .val (.ref sb), .val (.double v164), .second, .val (.double r), .second, .val (.long mn), .second, .val (.long v204), .second, .val (.long v297), .second] [(.double v164)]))
              refine g_dload hG X26 hx (hb hby at_362) (pc' := 364) rfl rfl ?_
              show G (T26.setTop (mkF m 364 #[.val (.long i0), .second, .val (.long i1), .second, .val (.int i2), .val (.int i3), .val (.int i4), .val (.int v3), .val (.int v11), .val (.int wu), .val (.int rl), .val (.long v51), .second, .val (.long v59), .second, .val (.double rt), .second, .val (.long nw), .second, .val (.ref sb), .val (.double v164), .second, .val (.double r), .second, .val (.long mn), .second, .val (.long v204), .second, .val (.long v297), .second] [(.double v164), (.double v164)]))
              obtain ⟨v364, q364⟩ : ∃ zz : Int32, cmpValue (FP.dcmp v164 v164) .l = zz := ⟨_, rfl⟩
              refine g_dcmp hG X26 hx (hb hby at_364) (pc' := 365) rfl q364 ?_
              show G (T26.setTop (mkF m 365 #[.val (.long i0), .second, .val (.long i1), .second, .val (.int i2), .val (.int i3), .val (.int i4), .val (.int v3), .val (.int v11), .val (.int wu), .val (.int rl), .val (.long v51), .second, .val (.long v59), .second, .val (.double rt), .second, .val (.long nw), .second, .val (.ref sb), .val (.double v164), .second, .val (.double r), .second, .val (.long mn), .second, .val (.long v204), .second, .val (.long v297), .second] [(.int v364)]))
              refine g_ifNo hG X26 hx (hb hby at_365) (pc' := 368) (by rw [← q364, OwnFl.dcmp_eq D164 D164 rfl]; rfl) rfl ?_
              show G (T26.setTop (mkF m 368 #[.val (.long i0), .second, .val (.long i1), .second, .val (.int i2), .val (.int i3), .val (.int i4), .val (.int v3), .val (.int v11), .val (.int wu), .val (.int rl), .val (.long v51), .second, .val (.long v59), .second, .val (.double rt), .second, .val (.long nw), .second, .val (.ref sb), .val (.double v164), .second, .val (.double r), .second, .val (.long mn), .second, .val (.long v204), .second, .val (.long v297), .second] []))
              refine g_iconst hG X26 hx (hb hby at_368) (pc' := 369) rfl (v := (1 : Int32)) rfl ?_
              show G (T26.setTop (mkF m 369 #[.val (.long i0), .second, .val (.long i1), .second, .val (.int i2), .val (.int i3), .val (.int i4), .val (.int v3), .val (.int v11), .val (.int wu), .val (.int rl), .val (.long v51), .second, .val (.long v59), .second, .val (.double rt), .second, .val (.long nw), .second, .val (.ref sb), .val (.double v164), .second, .val (.double r), .second, .val (.long mn), .second, .val (.long v204), .second, .val (.long v297), .second] [(.int 1)]))
              refine g_goto hG X26 hx (hb hby at_369) (pc' := 373) (by decide) (by decide) ?_
              show G (T26.setTop (mkF m 373 #[.val (.long i0), .second, .val (.long i1), .second, .val (.int i2), .val (.int i3), .val (.int i4), .val (.int v3), .val (.int v11), .val (.int wu), .val (.int rl), .val (.long v51), .second, .val (.long v59), .second, .val (.double rt), .second, .val (.long nw), .second, .val (.ref sb), .val (.double v164), .second, .val (.double r), .second, .val (.long mn), .second, .val (.long v204), .second, .val (.long v297), .second] [(.int 1)]))
              refine g_istore hG X26 hx (hb hby at_373) (pc' := 375) rfl (Ls' := #[.val (.long i0), .second, .val (.long i1), .second, .val (.int i2), .val (.int i3), .val (.int i4), .val (.int v3), .val (.int v11), .val (.int wu), .val (.int rl), .val (.long v51), .second, .val (.long v59), .second, .val (.double rt), .second, .val (.long nw), .second, .val (.ref sb), .val (.double v164), .second, .val (.double r), .second, .val (.long mn), .second, .val (.int 1), .unset, .val (.long v297), .second]) rfl ?_
              show G (T26.setTop (mkF m 375 #[.val (.long i0), .second, .val (.long i1), .second, .val (.int i2), .val (.int i3), .val (.int i4), .val (.int v3), .val (.int v11), .val (.int wu), .val (.int rl), .val (.long v51), .second, .val (.long v59), .second, .val (.double rt), .second, .val (.long nw), .second, .val (.ref sb), .val (.double v164), .second, .val (.double r), .second, .val (.long mn), .second, .val (.int 1), .unset, .val (.long v297), .second] []))
              refine g_iload hG X26 hx (hb hby at_375) (pc' := 377) rfl rfl ?_
              show G (T26.setTop (mkF m 377 #[.val (.long i0), .second, .val (.long i1), .second, .val (.int i2), .val (.int i3), .val (.int i4), .val (.int v3), .val (.int v11), .val (.int wu), .val (.int rl), .val (.long v51), .second, .val (.long v59), .second, .val (.double rt), .second, .val (.long nw), .second, .val (.ref sb), .val (.double v164), .second, .val (.double r), .second, .val (.long mn), .second, .val (.int 1), .unset, .val (.long v297), .second] [(.int 1)]))
              refine g_ifNo hG X26 hx (hb hby at_377) (pc' := 380) (by decide) rfl ?_
              show G (T26.setTop (mkF m 380 #[.val (.long i0), .second, .val (.long i1), .second, .val (.int i2), .val (.int i3), .val (.int i4), .val (.int v3), .val (.int v11), .val (.int wu), .val (.int rl), .val (.long v51), .second, .val (.long v59), .second, .val (.double rt), .second, .val (.long nw), .second, .val (.ref sb), .val (.double v164), .second, .val (.double r), .second, .val (.long mn), .second, .val (.int 1), .unset, .val (.long v297), .second] []))
              refine g_dload hG X26 hx (hb hby at_380) (pc' := 382) rfl rfl ?_
              show G (T26.setTop (mkF m 382 #[.val (.long i0), .second, .val (.long i1), .second, .val (.int i2), .val (.int i3), .val (.int i4), .val (.int v3), .val (.int v11), .val (.int wu), .val (.int rl), .val (.long v51), .second, .val (.long v59), .second, .val (.double rt), .second, .val (.long nw), .second, .val (.ref sb), .val (.double v164), .second, .val (.double r), .second, .val (.long mn), .second, .val (.int 1), .unset, .val (.long v297), .second] [(.double r)]))
              refine g_ldcDouble hG X26 hx hZ hown (wd hw 40 rfl) (hb hby at_382) (pc' := 385) rfl ?_
              show G (T26.setTop (mkF m 385 #[.val (.long i0), .second, .val (.long i1), .second, .val (.int i2), .val (.int i3), .val (.int i4), .val (.int v3), .val (.int v11), .val (.int wu), .val (.int rl), .val (.long v51), .second, .val (.long v59), .second, .val (.double rt), .second, .val (.long nw), .second, .val (.ref sb), .val (.double v164), .second, .val (.double r), .second, .val (.long mn), .second, .val (.int 1), .unset, .val (.long v297), .second] [(.double 4620693217682128896), (.double r)]))
              obtain ⟨v385, q385⟩ : ∃ zz : UInt64, FP.dmul r (4620693217682128896 : UInt64) = zz := ⟨_, rfl⟩
              have D385 := own_last R8 (by omega) (by omega)
              rw [q385] at D385
              refine g_dmul hG X26 hx (hb hby at_385) (pc' := 386) rfl (by rw [q385]; exact D385.noNaN) q385 ?_
              show G (T26.setTop (mkF m 386 #[.val (.long i0), .second, .val (.long i1), .second, .val (.int i2), .val (.int i3), .val (.int i4), .val (.int v3), .val (.int v11), .val (.int wu), .val (.int rl), .val (.long v51), .second, .val (.long v59), .second, .val (.double rt), .second, .val (.long nw), .second, .val (.ref sb), .val (.double v164), .second, .val (.double r), .second, .val (.long mn), .second, .val (.int 1), .unset, .val (.long v297), .second] [(.double v385)]))
              refine g_lload hG X26 hx (hb hby at_386) (pc' := 388) rfl rfl ?_
              show G (T26.setTop (mkF m 388 #[.val (.long i0), .second, .val (.long i1), .second, .val (.int i2), .val (.int i3), .val (.int i4), .val (.int v3), .val (.int v11), .val (.int wu), .val (.int rl), .val (.long v51), .second, .val (.long v59), .second, .val (.double rt), .second, .val (.long nw), .second, .val (.ref sb), .val (.double v164), .second, .val (.double r), .second, .val (.long mn), .second, .val (.int 1), .unset, .val (.long v297), .second] [(.long mn), (.double v385)]))
              obtain ⟨v388, q388⟩ : ∃ zz : UInt64, FP.l2d mn = zz := ⟨_, rfl⟩
              refine g_l2d hG X26 hx (hb hby at_388) (pc' := 389) rfl q388 ?_
              show G (T26.setTop (mkF m 389 #[.val (.long i0), .second, .val (.long i1), .second, .val (.int i2), .val (.int i3), .val (.int i4), .val (.int v3), .val (.int v11), .val (.int wu), .val (.int rl), .val (.long v51), .second, .val (.long v59), .second, .val (.double rt), .second, .val (.long nw), .second, .val (.ref sb), .val (.double v164), .second, .val (.double r), .second, .val (.long mn), .second, .val (.int 1), .unset, .val (.long v297), .second] [(.double v388), (.double v385)]))
              obtain ⟨v389, q389⟩ : ∃ zz : Int32, cmpValue (FP.dcmp v385 v388) .l = zz := ⟨_, rfl⟩
              refine g_dcmp hG X26 hx (hb hby at_389) (pc' := 390) rfl q389 ?_
              show G (T26.setTop (mkF m 390 #[.val (.long i0), .second, .val (.long i1), .second, .val (.int i2), .val (.int i3), .val (.int i4), .val (.int v3), .val (.int v11), .val (.int wu), .val (.int rl), .val (.long v51), .second, .val (.long v59), .second, .val (.double rt), .second, .val (.long nw), .second, .val (.ref sb), .val (.double v164), .second, .val (.double r), .second, .val (.long mn), .second, .val (.int 1), .unset, .val (.long v297), .second] [(.int v389)]))
              refine g_ifNo hG X26 hx (hb hby at_390) (pc' := 393) (by rw [← q389, OwnFl.dcmp_eq D385 (q388 ▸ OwnFl.l2d_DV (by omega)) (by rw [hE])]; rfl) rfl ?_
              show G (T26.setTop (mkF m 393 #[.val (.long i0), .second, .val (.long i1), .second, .val (.int i2), .val (.int i3), .val (.int i4), .val (.int v3), .val (.int v11), .val (.int wu), .val (.int rl), .val (.long v51), .second, .val (.long v59), .second, .val (.double rt), .second, .val (.long nw), .second, .val (.ref sb), .val (.double v164), .second, .val (.double r), .second, .val (.long mn), .second, .val (.int 1), .unset, .val (.long v297), .second] []))
              refine g_iconst hG X26 hx (hb hby at_393) (pc' := 394) rfl (v := (1 : Int32)) rfl ?_
              show G (T26.setTop (mkF m 394 #[.val (.long i0), .second, .val (.long i1), .second, .val (.int i2), .val (.int i3), .val (.int i4), .val (.int v3), .val (.int v11), .val (.int wu), .val (.int rl), .val (.long v51), .second, .val (.long v59), .second, .val (.double rt), .second, .val (.long nw), .second, .val (.ref sb), .val (.double v164), .second, .val (.double r), .second, .val (.long mn), .second, .val (.int 1), .unset, .val (.long v297), .second] [(.int 1)]))
              refine g_goto hG X26 hx (hb hby at_394) (pc' := 398) (by decide) (by decide) ?_
              show G (T26.setTop (mkF m 398 #[.val (.long i0), .second, .val (.long i1), .second, .val (.int i2), .val (.int i3), .val (.int i4), .val (.int v3), .val (.int v11), .val (.int wu), .val (.int rl), .val (.long v51), .second, .val (.long v59), .second, .val (.double rt), .second, .val (.long nw), .second, .val (.ref sb), .val (.double v164), .second, .val (.double r), .second, .val (.long mn), .second, .val (.int 1), .unset, .val (.long v297), .second] [(.int 1)]))
              exact e_retZ hGe X26 hx hrt hlk (hb hby at_398) (Or.inr rfl) e26 (by decide) (by decide) (⟨rfl, NF23⟩)
            · skip
              refine g_iload hG X14 hx (hb hby at_234) (pc' := 236) rfl rfl ?_
              show G (T14.setTop (mkF m 236 #[.val (.long i0), .second, .val (.long i1), .second, .val (.int i2), .val (.int i3), .val (.int i4), .val (.int v3), .val (.int v11), .val (.int wu), .val (.int rl), .val (.long v51), .second, .val (.long v59), .second, .val (.double rt), .second, .val (.long nw), .second, .val (.ref sb), .val (.double v164), .second, .val (.double r), .second, .unset, .unset, .val (.long v204), .second, .unset, .unset] [(.int v3)]))
              refine g_ifYes hG X14 hx (hb hby at_236) (pc' := 257) ((if0 _ _).trans (feq hv3.1).2) (by decide) (by decide) ?_
              show G (T14.setTop (mkF m 257 #[.val (.long i0), .second, .val (.long i1), .second, .val (.int i2), .val (.int i3), .val (.int i4), .val (.int v3), .val (.int v11), .val (.int wu), .val (.int rl), .val (.long v51), .second, .val (.long v59), .second, .val (.double rt), .second, .val (.long nw), .second, .val (.ref sb), .val (.double v164), .second, .val (.double r), .second, .unset, .unset, .val (.long v204), .second, .unset, .unset] []))
              refine g_iload hG X14 hx (hb hby at_257) (pc' := 259) rfl rfl ?_
              show G (T14.setTop (mkF m 259 #[.val (.long i0), .second, .val (.long i1), .second, .val (.int i2), .val (.int i3), .val (.int i4), .val (.int v3), .val (.int v11), .val (.int wu), .val (.int rl), .val (.long v51), .second, .val (.long v59), .second, .val (.double rt), .second, .val (.long nw), .second, .val (.ref sb), .val (.double v164), .second, .val (.double r), .second, .unset, .unset, .val (.long v204), .second, .unset, .unset] [(.int v3)]))
              refine g_iconst hG X14 hx (hb hby at_259) (pc' := 260) rfl (v := (1 : Int32)) rfl ?_
              show G (T14.setTop (mkF m 260 #[.val (.long i0), .second, .val (.long i1), .second, .val (.int i2), .val (.int i3), .val (.int i4), .val (.int v3), .val (.int v11), .val (.int wu), .val (.int rl), .val (.long v51), .second, .val (.long v59), .second, .val (.double rt), .second, .val (.long nw), .second, .val (.ref sb), .val (.double v164), .second, .val (.double r), .second, .unset, .unset, .val (.long v204), .second, .unset, .unset] [(.int 1), (.int v3)]))
              refine g_icmpYes hG X14 hx (hb hby at_260) (pc' := 280) ((feq hv3.2.1).2) (by decide) (by decide) ?_
              show G (T14.setTop (mkF m 280 #[.val (.long i0), .second, .val (.long i1), .second, .val (.int i2), .val (.int i3), .val (.int i4), .val (.int v3), .val (.int v11), .val (.int wu), .val (.int rl), .val (.long v51), .second, .val (.long v59), .second, .val (.double rt), .second, .val (.long nw), .second, .val (.ref sb), .val (.double v164), .second, .val (.double r), .second, .unset, .unset, .val (.long v204), .second, .unset, .unset] []))
              refine g_iload hG X14 hx (hb hby at_280) (pc' := 282) rfl rfl ?_
              show G (T14.setTop (mkF m 282 #[.val (.long i0), .second, .val (.long i1), .second, .val (.int i2), .val (.int i3), .val (.int i4), .val (.int v3), .val (.int v11), .val (.int wu), .val (.int rl), .val (.long v51), .second, .val (.long v59), .second, .val (.double rt), .second, .val (.long nw), .second, .val (.ref sb), .val (.double v164), .second, .val (.double r), .second, .unset, .unset, .val (.long v204), .second, .unset, .unset] [(.int v3)]))
              refine g_iconst hG X14 hx (hb hby at_282) (pc' := 283) rfl (v := (2 : Int32)) rfl ?_
              show G (T14.setTop (mkF m 283 #[.val (.long i0), .second, .val (.long i1), .second, .val (.int i2), .val (.int i3), .val (.int i4), .val (.int v3), .val (.int v11), .val (.int wu), .val (.int rl), .val (.long v51), .second, .val (.long v59), .second, .val (.double rt), .second, .val (.long nw), .second, .val (.ref sb), .val (.double v164), .second, .val (.double r), .second, .unset, .unset, .val (.long v204), .second, .unset, .unset] [(.int 2), (.int v3)]))
              refine g_icmpYes hG X14 hx (hb hby at_283) (pc' := 303) ((feq hv3.2.2).2) (by decide) (by decide) ?_
              show G (T14.setTop (mkF m 303 #[.val (.long i0), .second, .val (.long i1), .second, .val (.int i2), .val (.int i3), .val (.int i4), .val (.int v3), .val (.int v11), .val (.int wu), .val (.int rl), .val (.long v51), .second, .val (.long v59), .second, .val (.double rt), .second, .val (.long nw), .second, .val (.ref sb), .val (.double v164), .second, .val (.double r), .second, .unset, .unset, .val (.long v204), .second, .unset, .unset] []))
              refine g_ldcLong hG X14 hx hZ hown (wd hw 52 rfl) (hb hby at_303) (pc' := 306) rfl ?_
              show G (T14.setTop (mkF m 306 #[.val (.long i0), .second, .val (.long i1), .second, .val (.int i2), .val (.int i3), .val (.int i4), .val (.int v3), .val (.int v11), .val (.int wu), .val (.int rl), .val (.long v51), .second, .val (.long v59), .second, .val (.double rt), .second, .val (.long nw), .second, .val (.ref sb), .val (.double v164), .second, .val (.double r), .second, .unset, .unset, .val (.long v204), .second, .unset, .unset] [(.long 4)]))
              refine g_lload hG X14 hx (hb hby at_306) (pc' := 308) rfl rfl ?_
              show G (T14.setTop (mkF m 308 #[.val (.long i0), .second, .val (.long i1), .second, .val (.int i2), .val (.int i3), .val (.int i4), .val (.int v3), .val (.int v11), .val (.int wu), .val (.int rl), .val (.long v51), .second, .val (.long v59), .second, .val (.double rt), .second, .val (.long nw), .second, .val (.ref sb), .val (.double v164), .second, .val (.double r), .second, .unset, .unset, .val (.long v204), .second, .unset, .unset] [(.long v204), (.long 4)]))
              obtain ⟨v308, q308⟩ : ∃ zz : Int64, (4 : Int64) * v204 = zz := ⟨_, rfl⟩
              refine g_lmul hG X14 hx (hb hby at_308) (pc' := 309) rfl q308 ?_
              show G (T14.setTop (mkF m 309 #[.val (.long i0), .second, .val (.long i1), .second, .val (.int i2), .val (.int i3), .val (.int i4), .val (.int v3), .val (.int v11), .val (.int wu), .val (.int rl), .val (.long v51), .second, .val (.long v59), .second, .val (.double rt), .second, .val (.long nw), .second, .val (.ref sb), .val (.double v164), .second, .val (.double r), .second, .unset, .unset, .val (.long v204), .second, .unset, .unset] [(.long v308)]))
              refine g_iload hG X14 hx (hb hby at_309) (pc' := 311) rfl rfl ?_
              show G (T14.setTop (mkF m 311 #[.val (.long i0), .second, .val (.long i1), .second, .val (.int i2), .val (.int i3), .val (.int i4), .val (.int v3), .val (.int v11), .val (.int wu), .val (.int rl), .val (.long v51), .second, .val (.long v59), .second, .val (.double rt), .second, .val (.long nw), .second, .val (.ref sb), .val (.double v164), .second, .val (.double r), .second, .unset, .unset, .val (.long v204), .second, .unset, .unset] [(.int v11), (.long v308)]))
              obtain ⟨v311, q311⟩ : ∃ zz : Int64, v11.toInt64 = zz := ⟨_, rfl⟩
              refine g_i2l hG X14 hx (hb hby at_311) (pc' := 312) rfl q311 ?_
              show G (T14.setTop (mkF m 312 #[.val (.long i0), .second, .val (.long i1), .second, .val (.int i2), .val (.int i3), .val (.int i4), .val (.int v3), .val (.int v11), .val (.int wu), .val (.int rl), .val (.long v51), .second, .val (.long v59), .second, .val (.double rt), .second, .val (.long nw), .second, .val (.ref sb), .val (.double v164), .second, .val (.double r), .second, .unset, .unset, .val (.long v204), .second, .unset, .unset] [(.long v311), (.long v308)]))
              obtain ⟨v312, q312⟩ : ∃ zz : Int64, v308 - v311 = zz := ⟨_, rfl⟩
              refine g_lsub hG X14 hx (hb hby at_312) (pc' := 313) rfl q312 ?_
              show G (T14.setTop (mkF m 313 #[.val (.long i0), .second, .val (.long i1), .second, .val (.int i2), .val (.int i3), .val (.int i4), .val (.int v3), .val (.int v11), .val (.int wu), .val (.int rl), .val (.long v51), .second, .val (.long v59), .second, .val (.double rt), .second, .val (.long nw), .second, .val (.ref sb), .val (.double v164), .second, .val (.double r), .second, .unset, .unset, .val (.long v204), .second, .unset, .unset] [(.long v312)]))
              refine g_lstore hG X14 hx (hb hby at_313) (pc' := 315) rfl (Ls' := #[.val (.long i0), .second, .val (.long i1), .second, .val (.int i2), .val (.int i3), .val (.int i4), .val (.int v3), .val (.int v11), .val (.int wu), .val (.int rl), .val (.long v51), .second, .val (.long v59), .second, .val (.double rt), .second, .val (.long nw), .second, .val (.ref sb), .val (.double v164), .second, .val (.double r), .second, .unset, .unset, .val (.long v204), .second, .val (.long v312), .second]) rfl ?_
              show G (T14.setTop (mkF m 315 #[.val (.long i0), .second, .val (.long i1), .second, .val (.int i2), .val (.int i3), .val (.int i4), .val (.int v3), .val (.int v11), .val (.int wu), .val (.int rl), .val (.long v51), .second, .val (.long v59), .second, .val (.double rt), .second, .val (.long nw), .second, .val (.ref sb), .val (.double v164), .second, .val (.double r), .second, .unset, .unset, .val (.long v204), .second, .val (.long v312), .second] []))
              have g1 := own_lmul q308 (show (4 : Int64).toInt = 4 by decide) rfl (by omega) (by omega)
              have g3 : v311.toInt = v11.toInt := by rw [← q311, c_i2l]
              have eG := own_lsub q312 g1 g3 (by omega) (by omega)
              refine g_ldcLong hG X14 hx hZ hown (wd hw 39 rfl) (hb hby at_315) (pc' := 318) rfl ?_
              show G (T14.setTop (mkF m 318 #[.val (.long i0), .second, .val (.long i1), .second, .val (.int i2), .val (.int i3), .val (.int i4), .val (.int v3), .val (.int v11), .val (.int wu), .val (.int rl), .val (.long v51), .second, .val (.long v59), .second, .val (.double rt), .second, .val (.long nw), .second, .val (.ref sb), .val (.double v164), .second, .val (.double r), .second, .unset, .unset, .val (.long v204), .second, .val (.long v312), .second] [(.long 8)]))
              refine g_lload hG X14 hx (hb hby at_318) (pc' := 320) rfl rfl ?_
              show G (T14.setTop (mkF m 320 #[.val (.long i0), .second, .val (.long i1), .second, .val (.int i2), .val (.int i3), .val (.int i4), .val (.int v3), .val (.int v11), .val (.int wu), .val (.int rl), .val (.long v51), .second, .val (.long v59), .second, .val (.double rt), .second, .val (.long nw), .second, .val (.ref sb), .val (.double v164), .second, .val (.double r), .second, .unset, .unset, .val (.long v204), .second, .val (.long v312), .second] [(.long v51), (.long 8)]))
              obtain ⟨v320, q320⟩ : ∃ zz : Int64, (8 : Int64) * v51 = zz := ⟨_, rfl⟩
              refine g_lmul hG X14 hx (hb hby at_320) (pc' := 321) rfl q320 ?_
              show G (T14.setTop (mkF m 321 #[.val (.long i0), .second, .val (.long i1), .second, .val (.int i2), .val (.int i3), .val (.int i4), .val (.int v3), .val (.int v11), .val (.int wu), .val (.int rl), .val (.long v51), .second, .val (.long v59), .second, .val (.double rt), .second, .val (.long nw), .second, .val (.ref sb), .val (.double v164), .second, .val (.double r), .second, .unset, .unset, .val (.long v204), .second, .val (.long v312), .second] [(.long v320)]))
              refine g_lload hG X14 hx (hb hby at_321) (pc' := 323) rfl rfl ?_
              show G (T14.setTop (mkF m 323 #[.val (.long i0), .second, .val (.long i1), .second, .val (.int i2), .val (.int i3), .val (.int i4), .val (.int v3), .val (.int v11), .val (.int wu), .val (.int rl), .val (.long v51), .second, .val (.long v59), .second, .val (.double rt), .second, .val (.long nw), .second, .val (.ref sb), .val (.double v164), .second, .val (.double r), .second, .unset, .unset, .val (.long v204), .second, .val (.long v312), .second] [(.long v312), (.long v320)]))
              obtain ⟨v323, q323⟩ : ∃ zz : Int64, v320 + v312 = zz := ⟨_, rfl⟩
              refine g_ladd hG X14 hx (hb hby at_323) (pc' := 324) rfl q323 ?_
              show G (T14.setTop (mkF m 324 #[.val (.long i0), .second, .val (.long i1), .second, .val (.int i2), .val (.int i3), .val (.int i4), .val (.int v3), .val (.int v11), .val (.int wu), .val (.int rl), .val (.long v51), .second, .val (.long v59), .second, .val (.double rt), .second, .val (.long nw), .second, .val (.ref sb), .val (.double v164), .second, .val (.double r), .second, .unset, .unset, .val (.long v204), .second, .val (.long v312), .second] [(.long v323)]))
              refine g_ldcLong hG X14 hx hZ hown (wd hw 39 rfl) (hb hby at_324) (pc' := 327) rfl ?_
              show G (T14.setTop (mkF m 327 #[.val (.long i0), .second, .val (.long i1), .second, .val (.int i2), .val (.int i3), .val (.int i4), .val (.int v3), .val (.int v11), .val (.int wu), .val (.int rl), .val (.long v51), .second, .val (.long v59), .second, .val (.double rt), .second, .val (.long nw), .second, .val (.ref sb), .val (.double v164), .second, .val (.double r), .second, .unset, .unset, .val (.long v204), .second, .val (.long v312), .second] [(.long 8), (.long v323)]))
              refine g_lload hG X14 hx (hb hby at_327) (pc' := 329) rfl rfl ?_
              show G (T14.setTop (mkF m 329 #[.val (.long i0), .second, .val (.long i1), .second, .val (.int i2), .val (.int i3), .val (.int i4), .val (.int v3), .val (.int v11), .val (.int wu), .val (.int rl), .val (.long v51), .second, .val (.long v59), .second, .val (.double rt), .second, .val (.long nw), .second, .val (.ref sb), .val (.double v164), .second, .val (.double r), .second, .unset, .unset, .val (.long v204), .second, .val (.long v312), .second] [(.long v59), (.long 8), (.long v323)]))
              obtain ⟨v329, q329⟩ : ∃ zz : Int64, (8 : Int64) * v59 = zz := ⟨_, rfl⟩
              refine g_lmul hG X14 hx (hb hby at_329) (pc' := 330) rfl q329 ?_
              show G (T14.setTop (mkF m 330 #[.val (.long i0), .second, .val (.long i1), .second, .val (.int i2), .val (.int i3), .val (.int i4), .val (.int v3), .val (.int v11), .val (.int wu), .val (.int rl), .val (.long v51), .second, .val (.long v59), .second, .val (.double rt), .second, .val (.long nw), .second, .val (.ref sb), .val (.double v164), .second, .val (.double r), .second, .unset, .unset, .val (.long v204), .second, .val (.long v312), .second] [(.long v329), (.long v323)]))
              have e320 := own_lmul q320 (show (8 : Int64).toInt = 8 by decide) rfl (by omega) (by omega)
              have e323 := own_ladd q323 e320 eG (by omega) (by omega)
              have e329 := own_lmul q329 (show (8 : Int64).toInt = 8 by decide) rfl (by omega) (by omega)
              obtain ⟨mn, hmn, emn⟩ := own_min v323 v329
              have bmn : 0 ≤ mn.toInt ∧ mn.toInt ≤ 524280 := by omega
              refine g_callS hG X14 hx hZ (y := (⟨"java/lang/Math", "min", "(JJ)J"⟩ : MethodName)) 0 hown (wd hw 46 rfl) (wd hw 47 rfl) (wd hw 48 rfl) (wd hw 49 rfl) (by decide) (rmM l Z a0 hw [] v323 v329 mn h5 n0 Zs hmn) (by decide) (by decide) (by rw [hml]; rfl) pd_3 rfl (argsL := [(.long v323), (.long v329)]) (rest := []) rfl rfl (Nat.le_of_eq rfl) (hb hby at_330) eh14 (by decide) (by decide) (pc' := 333) rfl ?_
              intro T27 rv27 L27 X27 hQ27
              obtain ⟨rfl, Nq27, eh27⟩ := hQ27
              have NF27 := Fr.app NF14 Nq27
              show G (T27.setTop (mkF m 333 #[.val (.long i0), .second, .val (.long i1), .second, .val (.int i2), .val (.int i3), .val (.int i4), .val (.int v3), .val (.int v11), .val (.int wu), .val (.int rl), .val (.long v51), .second, .val (.long v59), .second, .val (.double rt), .second, .val (.long nw), .second, .val (.ref sb), .val (.double v164), .second, .val (.double r), .second, .unset, .unset, .val (.long v204), .second, .val (.long v312), .second] [(.long mn)]))
              refine g_lstore hG X27 hx (hb hby at_333) (pc' := 335) rfl (Ls' := #[.val (.long i0), .second, .val (.long i1), .second, .val (.int i2), .val (.int i3), .val (.int i4), .val (.int v3), .val (.int v11), .val (.int wu), .val (.int rl), .val (.long v51), .second, .val (.long v59), .second, .val (.double rt), .second, .val (.long nw), .second, .val (.ref sb), .val (.double v164), .second, .val (.double r), .second, .val (.long mn), .second, .val (.long v204), .second, .val (.long v312), .second]) rfl ?_
              show G (T27.setTop (mkF m 335 #[.val (.long i0), .second, .val (.long i1), .second, .val (.int i2), .val (.int i3), .val (.int i4), .val (.int v3), .val (.int v11), .val (.int wu), .val (.int rl), .val (.long v51), .second, .val (.long v59), .second, .val (.double rt), .second, .val (.long nw), .second, .val (.ref sb), .val (.double v164), .second, .val (.double r), .second, .val (.long mn), .second, .val (.long v204), .second, .val (.long v312), .second] []))
              have hE : mn.toInt = min (8 * v51.toInt + (4 * v204.toInt - v11.toInt) * k) (8 * v59.toInt) := by
                rw [emn, e323, e329, hk']
                congr 1
                omega
              have hk2 : (4 * v204.toInt - v11.toInt) * k = 4 * v204.toInt - 1 * v11.toInt := by rw [hk']; omega
              rw [← hE] at R8
              rw [hk2] at hE
              have hE : mn.toInt = mn.toInt := rfl
              refine g_aload hG X27 hx (hb hby at_335) (pc' := 337) rfl rfl rfl ?_
              show G (T27.setTop (mkF m 337 #[.val (.long i0), .second, .val (.long i1), .second, .val (.int i2), .val (.int i3), .val (.int i4), .val (.int v3), .val (.int v11), .val (.int wu), .val (.int rl), .val (.long v51), .second, .val (.long v59), .second, .val (.double rt), .second, .val (.long nw), .second, .val (.ref sb), .val (.double v164), .second, .val (.double r), .second, .val (.long mn), .second, .val (.long v204), .second, .val (.long v312), .second] [(.ref sb)]))
              refine g_getF hG X27 hx hZ hown (wd hw 29 rfl) Via.refl eh27 F_savedUpPermits_sb (hb hby at_337) (pc' := 340) rfl ?_
              intro T28 X28 e28
              show G (T28.setTop (mkF m 340 #[.val (.long i0), .second, .val (.long i1), .second, .val (.int i2), .val (.int i3), .val (.int i4), .val (.int v3), .val (.int v11), .val (.int wu), .val (.int rl), .val (.long v51), .second, .val (.long v59), .second, .val (.double rt), .second, .val (.long nw), .second, .val (.ref sb), .val (.double v164), .second, .val (.double r), .second, .val (.long mn), .second, .val (.long v204), .second, .val (.long v312), .second] [(.double v148)]))
              refine g_lload hG X28 hx (hb hby at_340) (pc' := 342) rfl rfl ?_
              show G (T28.setTop (mkF m 342 #[.val (.long i0), .second, .val (.long i1), .second, .val (.int i2), .val (.int i3), .val (.int i4), .val (.int v3), .val (.int v11), .val (.int wu), .val (.int rl), .val (.long v51), .second, .val (.long v59), .second, .val (.double rt), .second, .val (.long nw), .second, .val (.ref sb), .val (.double v164), .second, .val (.double r), .second, .val (.long mn), .second, .val (.long v204), .second, .val (.long v312), .second] [(.long v51), (.double v148)]))
              obtain ⟨v342, q342⟩ : ∃ zz : UInt64, FP.l2d v51 = zz := ⟨_, rfl⟩
              refine g_l2d hG X28 hx (hb hby at_342) (pc' := 343) rfl q342 ?_
              show G (T28.setTop (mkF m 343 #[.val (.long i0), .second, .val (.long i1), .second, .val (.int i2), .val (.int i3), .val (.int i4), .val (.int v3), .val (.int v11), .val (.int wu), .val (.int rl), .val (.long v51), .second, .val (.long v59), .second, .val (.double rt), .second, .val (.long nw), .second, .val (.ref sb), .val (.double v164), .second, .val (.double r), .second, .val (.long mn), .second, .val (.long v204), .second, .val (.long v312), .second] [(.double v342), (.double v148)]))
              obtain ⟨v343, q343⟩ : ∃ zz : Int32, cmpValue (FP.dcmp v148 v342) .l = zz := ⟨_, rfl⟩
              refine g_dcmp hG X28 hx (hb hby at_343) (pc' := 344) rfl q343 ?_
              show G (T28.setTop (mkF m 344 #[.val (.long i0), .second, .val (.long i1), .second, .val (.int i2), .val (.int i3), .val (.int i4), .val (.int v3), .val (.int v11), .val (.int wu), .val (.int rl), .val (.long v51), .second, .val (.long v59), .second, .val (.double rt), .second, .val (.long nw), .second, .val (.ref sb), .val (.double v164), .second, .val (.double r), .second, .val (.long mn), .second, .val (.long v204), .second, .val (.long v312), .second] [(.int v343)]))
              refine g_ifNo hG X28 hx (hb hby at_344) (pc' := 347) (by rw [← q343, OwnFl.dcmp_eq D148 (q342 ▸ OwnFl.l2d_DV (by omega)) rfl]; rfl) rfl ?_
              show G (T28.setTop (mkF m 347 #[.val (.long i0), .second, .val (.long i1), .second, .val (.int i2), .val (.int i3), .val (.int i4), .val (.int v3), .val (.int v11), .val (.int wu), .val (.int rl), .val (.long v51), .second, .val (.long v59), .second, .val (.double rt), .second, .val (.long nw), .second, .val (.ref sb), .val (.double v164), .second, .val (.double r), .second, .val (.long mn), .second, .val (.long v204), .second, .val (.long v312), .second] []))
              refine g_aload hG X28 hx (hb hby at_347) (pc' := 349) rfl rfl rfl ?_
              show G (T28.setTop (mkF m 349 #[.val (.long i0), .second, .val (.long i1), .second, .val (.int i2), .val (.int i3), .val (.int i4), .val (.int v3), .val (.int v11), .val (.int wu), .val (.int rl), .val (.long v51), .second, .val (.long v59), .second, .val (.double rt), .second, .val (.long nw), .second, .val (.ref sb), .val (.double v164), .second, .val (.double r), .second, .val (.long mn), .second, .val (.long v204), .second, .val (.long v312), .second] [(.ref sb)]))
              refine g_getF hG X28 hx hZ hown (wd hw 30 rfl) Via.refl e28 F_nextFreeNanos_sb (hb hby at_349) (pc' := 352) rfl ?_
              intro T29 X29 e29
              show G (T29.setTop (mkF m 352 #[.val (.long i0), .second, .val (.long i1), .second, .val (.int i2), .val (.int i3), .val (.int i4), .val (.int v3), .val (.int v11), .val (.int wu), .val (.int rl), .val (.long v51), .second, .val (.long v59), .second, .val (.double rt), .second, .val (.long nw), .second, .val (.ref sb), .val (.double v164), .second, .val (.double r), .second, .val (.long mn), .second, .val (.long v204), .second, .val (.long v312), .second] [(.long i0)]))
              refine g_lloadN hG X29 hx (hb hby at_352) (pc' := 353) rfl rfl ?_
              show G (T29.setTop (mkF m 353 #[.val (.long i0), .second, .val (.long i1), .second, .val (.int i2), .val (.int i3), .val (.int i4), .val (.int v3), .val (.int v11), .val (.int wu), .val (.int rl), .val (.long v51), .second, .val (.long v59), .second, .val (.double rt), .second, .val (.long nw), .second, .val (.ref sb), .val (.double v164), .second, .val (.double r), .second, .val (.long mn), .second, .val (.long v204), .second, .val (.long v312), .second] [(.long i0), (.long i0)]))
              obtain ⟨v353, q353⟩ : ∃ zz : Int32, lcmpW i0 i0 = zz := ⟨_, rfl⟩
              refine g_lcmp hG X29 hx (hb hby at_353) (pc' := 354) rfl q353 ?_
              show G (T29.setTop (mkF m 354 #[.val (.long i0), .second, .val (.long i1), .second, .val (.int i2), .val (.int i3), .val (.int i4), .val (.int v3), .val (.int v11), .val (.int wu), .val (.int rl), .val (.long v51), .second, .val (.long v59), .second, .val (.double rt), .second, .val (.long nw), .second, .val (.ref sb), .val (.double v164), .second, .val (.double r), .second, .val (.long mn), .second, .val (.long v204), .second, .val (.long v312), .second] [(.int v353)]))
              refine g_ifNo hG X29 hx (hb hby at_354) (pc' := 357) ((if0 _ _).trans (teq (show v353 = 0 by rw [← q353]; exact (lw_eq _ _).mpr rfl)).2) rfl ?_
              show G (T29.setTop (mkF m 357 #[.val (.long i0), .second, .val (.long i1), .second, .val (.int i2), .val (.int i3), .val (.int i4), .val (.int v3), .val (.int v11), .val (.int wu), .val (.int rl), .val (.long v51), .second, .val (.long v59), .second, .val (.double rt), .second, .val (.long nw), .second, .val (.ref sb), .val (.double v164), .second, .val (.double r), .second, .val (.long mn), .second, .val (.long v204), .second, .val (.long v312), .second] []))
              refine g_aload hG X29 hx (hb hby at_357) (pc' := 359) rfl rfl rfl ?_
              show G (T29.setTop (mkF m 359 #[.val (.long i0), .second, .val (.long i1), .second, .val (.int i2), .val (.int i3), .val (.int i4), .val (.int v3), .val (.int v11), .val (.int wu), .val (.int rl), .val (.long v51), .second, .val (.long v59), .second, .val (.double rt), .second, .val (.long nw), .second, .val (.ref sb), .val (.double v164), .second, .val (.double r), .second, .val (.long mn), .second, .val (.long v204), .second, .val (.long v312), .second] [(.ref sb)]))
              refine g_getF hG X29 hx hZ hown (wd hw 32 rfl) Via.refl e29 F_nextFreeFraction_sb (hb hby at_359) (pc' := 362) rfl ?_
              intro T30 X30 e30
              show G (T30.setTop (mkF m 362 #[.val (.long i0), .second, .val (.long i1), .second, .val (.int i2), .val (.int i3), .val (.int i4), .val (.int v3), .val (.int v11), .val (.int wu), .val (.int rl), .val (.long v51), .second, .val (.long v59), .second, .val (.double rt), .second, .val (.long nw), .second, .val (.ref sb), .val (.double v164), .second, .val (.double r), .second, .val (.long mn), .second, .val (.long v204), .second, .val (.long v312), .second] [(.double v164)]))
              refine g_dload hG X30 hx (hb hby at_362) (pc' := 364) rfl rfl ?_
              show G (T30.setTop (mkF m 364 #[.val (.long i0), .second, .val (.long i1), .second, .val (.int i2), .val (.int i3), .val (.int i4), .val (.int v3), .val (.int v11), .val (.int wu), .val (.int rl), .val (.long v51), .second, .val (.long v59), .second, .val (.double rt), .second, .val (.long nw), .second, .val (.ref sb), .val (.double v164), .second, .val (.double r), .second, .val (.long mn), .second, .val (.long v204), .second, .val (.long v312), .second] [(.double v164), (.double v164)]))
              obtain ⟨v364, q364⟩ : ∃ zz : Int32, cmpValue (FP.dcmp v164 v164) .l = zz := ⟨_, rfl⟩
              refine g_dcmp hG X30 hx (hb hby at_364) (pc' := 365) rfl q364 ?_
              show G (T30.setTop (mkF m 365 #[.val (.long i0), .second, .val (.long i1), .second, .val (.int i2), .val (.int i3), .val (.int i4), .val (.int v3), .val (.int v11), .val (.int wu), .val (.int rl), .val (.long v51), .second, .val (.long v59), .second, .val (.double rt), .second, .val (.long nw), .second, .val (.ref sb), .val (.double v164), .second, .val (.double r), .second, .val (.long mn), .second, .val (.long v204), .second, .val (.long v312), .second] [(.int v364)]))
              refine g_ifNo hG X30 hx (hb hby at_365) (pc' := 368) (by rw [← q364, OwnFl.dcmp_eq D164 D164 rfl]; rfl) rfl ?_
              show G (T30.setTop (mkF m 368 #[.val (.long i0), .second, .val (.long i1), .second, .val (.int i2), .val (.int i3), .val (.int i4), .val (.int v3), .val (.int v11), .val (.int wu), .val (.int rl), .val (.long v51), .second, .val (.long v59), .second, .val (.double rt), .second, .val (.long nw), .second, .val (.ref sb), .val (.double v164), .second, .val (.double r), .second, .val (.long mn), .second, .val (.long v204), .second, .val (.long v312), .second] []))
              refine g_iconst hG X30 hx (hb hby at_368) (pc' := 369) rfl (v := (1 : Int32)) rfl ?_
              show G (T30.setTop (mkF m 369 #[.val (.long i0), .second, .val (.long i1), .second, .val (.int i2), .val (.int i3), .val (.int i4), .val (.int v3), .val (.int v11), .val (.int wu), .val (.int rl), .val (.long v51), .second, .val (.long v59), .second, .val (.double rt), .second, .val (.long nw), .second, .val (.ref sb), .val (.double v164), .second, .val (.double r), .second, .val (.long mn), .second, .val (.long v204), .second, .val (.long v312), .second] [(.int 1)]))
              refine g_goto hG X30 hx (hb hby at_369) (pc' := 373) (by decide) (by decide) ?_
              show G (T30.setTop (mkF m 373 #[.val (.long i0), .second, .val (.long i1), .second, .val (.int i2), .val (.int i3), .val (.int i4), .val (.int v3), .val (.int v11), .val (.int wu), .val (.int rl), .val (.long v51), .second, .val (.long v59), .second, .val (.double rt), .second, .val (.long nw), .second, .val (.ref sb), .val (.double v164), .second, .val (.double r), .second, .val (.long mn), .second, .val (.long v204), .second, .val (.long v312), .second] [(.int 1)]))
              refine g_istore hG X30 hx (hb hby at_373) (pc' := 375) rfl (Ls' := #[.val (.long i0), .second, .val (.long i1), .second, .val (.int i2), .val (.int i3), .val (.int i4), .val (.int v3), .val (.int v11), .val (.int wu), .val (.int rl), .val (.long v51), .second, .val (.long v59), .second, .val (.double rt), .second, .val (.long nw), .second, .val (.ref sb), .val (.double v164), .second, .val (.double r), .second, .val (.long mn), .second, .val (.int 1), .unset, .val (.long v312), .second]) rfl ?_
              show G (T30.setTop (mkF m 375 #[.val (.long i0), .second, .val (.long i1), .second, .val (.int i2), .val (.int i3), .val (.int i4), .val (.int v3), .val (.int v11), .val (.int wu), .val (.int rl), .val (.long v51), .second, .val (.long v59), .second, .val (.double rt), .second, .val (.long nw), .second, .val (.ref sb), .val (.double v164), .second, .val (.double r), .second, .val (.long mn), .second, .val (.int 1), .unset, .val (.long v312), .second] []))
              refine g_iload hG X30 hx (hb hby at_375) (pc' := 377) rfl rfl ?_
              show G (T30.setTop (mkF m 377 #[.val (.long i0), .second, .val (.long i1), .second, .val (.int i2), .val (.int i3), .val (.int i4), .val (.int v3), .val (.int v11), .val (.int wu), .val (.int rl), .val (.long v51), .second, .val (.long v59), .second, .val (.double rt), .second, .val (.long nw), .second, .val (.ref sb), .val (.double v164), .second, .val (.double r), .second, .val (.long mn), .second, .val (.int 1), .unset, .val (.long v312), .second] [(.int 1)]))
              refine g_ifNo hG X30 hx (hb hby at_377) (pc' := 380) (by decide) rfl ?_
              show G (T30.setTop (mkF m 380 #[.val (.long i0), .second, .val (.long i1), .second, .val (.int i2), .val (.int i3), .val (.int i4), .val (.int v3), .val (.int v11), .val (.int wu), .val (.int rl), .val (.long v51), .second, .val (.long v59), .second, .val (.double rt), .second, .val (.long nw), .second, .val (.ref sb), .val (.double v164), .second, .val (.double r), .second, .val (.long mn), .second, .val (.int 1), .unset, .val (.long v312), .second] []))
              refine g_dload hG X30 hx (hb hby at_380) (pc' := 382) rfl rfl ?_
              show G (T30.setTop (mkF m 382 #[.val (.long i0), .second, .val (.long i1), .second, .val (.int i2), .val (.int i3), .val (.int i4), .val (.int v3), .val (.int v11), .val (.int wu), .val (.int rl), .val (.long v51), .second, .val (.long v59), .second, .val (.double rt), .second, .val (.long nw), .second, .val (.ref sb), .val (.double v164), .second, .val (.double r), .second, .val (.long mn), .second, .val (.int 1), .unset, .val (.long v312), .second] [(.double r)]))
              refine g_ldcDouble hG X30 hx hZ hown (wd hw 40 rfl) (hb hby at_382) (pc' := 385) rfl ?_
              show G (T30.setTop (mkF m 385 #[.val (.long i0), .second, .val (.long i1), .second, .val (.int i2), .val (.int i3), .val (.int i4), .val (.int v3), .val (.int v11), .val (.int wu), .val (.int rl), .val (.long v51), .second, .val (.long v59), .second, .val (.double rt), .second, .val (.long nw), .second, .val (.ref sb), .val (.double v164), .second, .val (.double r), .second, .val (.long mn), .second, .val (.int 1), .unset, .val (.long v312), .second] [(.double 4620693217682128896), (.double r)]))
              obtain ⟨v385, q385⟩ : ∃ zz : UInt64, FP.dmul r (4620693217682128896 : UInt64) = zz := ⟨_, rfl⟩
              have D385 := own_last R8 (by omega) (by omega)
              rw [q385] at D385
              refine g_dmul hG X30 hx (hb hby at_385) (pc' := 386) rfl (by rw [q385]; exact D385.noNaN) q385 ?_
              show G (T30.setTop (mkF m 386 #[.val (.long i0), .second, .val (.long i1), .second, .val (.int i2), .val (.int i3), .val (.int i4), .val (.int v3), .val (.int v11), .val (.int wu), .val (.int rl), .val (.long v51), .second, .val (.long v59), .second, .val (.double rt), .second, .val (.long nw), .second, .val (.ref sb), .val (.double v164), .second, .val (.double r), .second, .val (.long mn), .second, .val (.int 1), .unset, .val (.long v312), .second] [(.double v385)]))
              refine g_lload hG X30 hx (hb hby at_386) (pc' := 388) rfl rfl ?_
              show G (T30.setTop (mkF m 388 #[.val (.long i0), .second, .val (.long i1), .second, .val (.int i2), .val (.int i3), .val (.int i4), .val (.int v3), .val (.int v11), .val (.int wu), .val (.int rl), .val (.long v51), .second, .val (.long v59), .second, .val (.double rt), .second, .val (.long nw), .second, .val (.ref sb), .val (.double v164), .second, .val (.double r), .second, .val (.long mn), .second, .val (.int 1), .unset, .val (.long v312), .second] [(.long mn), (.double v385)]))
              obtain ⟨v388, q388⟩ : ∃ zz : UInt64, FP.l2d mn = zz := ⟨_, rfl⟩
              refine g_l2d hG X30 hx (hb hby at_388) (pc' := 389) rfl q388 ?_
              show G (T30.setTop (mkF m 389 #[.val (.long i0), .second, .val (.long i1), .second, .val (.int i2), .val (.int i3), .val (.int i4), .val (.int v3), .val (.int v11), .val (.int wu), .val (.int rl), .val (.long v51), .second, .val (.long v59), .second, .val (.double rt), .second, .val (.long nw), .second, .val (.ref sb), .val (.double v164), .second, .val (.double r), .second, .val (.long mn), .second, .val (.int 1), .unset, .val (.long v312), .second] [(.double v388), (.double v385)]))
              obtain ⟨v389, q389⟩ : ∃ zz : Int32, cmpValue (FP.dcmp v385 v388) .l = zz := ⟨_, rfl⟩
              refine g_dcmp hG X30 hx (hb hby at_389) (pc' := 390) rfl q389 ?_
              show G (T30.setTop (mkF m 390 #[.val (.long i0), .second, .val (.long i1), .second, .val (.int i2), .val (.int i3), .val (.int i4), .val (.int v3), .val (.int v11), .val (.int wu), .val (.int rl), .val (.long v51), .second, .val (.long v59), .second, .val (.double rt), .second, .val (.long nw), .second, .val (.ref sb), .val (.double v164), .second, .val (.double r), .second, .val (.long mn), .second, .val (.int 1), .unset, .val (.long v312), .second] [(.int v389)]))
              refine g_ifNo hG X30 hx (hb hby at_390) (pc' := 393) (by rw [← q389, OwnFl.dcmp_eq D385 (q388 ▸ OwnFl.l2d_DV (by omega)) (by rw [hE])]; rfl) rfl ?_
              show G (T30.setTop (mkF m 393 #[.val (.long i0), .second, .val (.long i1), .second, .val (.int i2), .val (.int i3), .val (.int i4), .val (.int v3), .val (.int v11), .val (.int wu), .val (.int rl), .val (.long v51), .second, .val (.long v59), .second, .val (.double rt), .second, .val (.long nw), .second, .val (.ref sb), .val (.double v164), .second, .val (.double r), .second, .val (.long mn), .second, .val (.int 1), .unset, .val (.long v312), .second] []))
              refine g_iconst hG X30 hx (hb hby at_393) (pc' := 394) rfl (v := (1 : Int32)) rfl ?_
              show G (T30.setTop (mkF m 394 #[.val (.long i0), .second, .val (.long i1), .second, .val (.int i2), .val (.int i3), .val (.int i4), .val (.int v3), .val (.int v11), .val (.int wu), .val (.int rl), .val (.long v51), .second, .val (.long v59), .second, .val (.double rt), .second, .val (.long nw), .second, .val (.ref sb), .val (.double v164), .second, .val (.double r), .second, .val (.long mn), .second, .val (.int 1), .unset, .val (.long v312), .second] [(.int 1)]))
              refine g_goto hG X30 hx (hb hby at_394) (pc' := 398) (by decide) (by decide) ?_
              show G (T30.setTop (mkF m 398 #[.val (.long i0), .second, .val (.long i1), .second, .val (.int i2), .val (.int i3), .val (.int i4), .val (.int v3), .val (.int v11), .val (.int wu), .val (.int rl), .val (.long v51), .second, .val (.long v59), .second, .val (.double rt), .second, .val (.long nw), .second, .val (.ref sb), .val (.double v164), .second, .val (.double r), .second, .val (.long mn), .second, .val (.int 1), .unset, .val (.long v312), .second] [(.int 1)]))
              exact e_retZ hGe X30 hx hrt hlk (hb hby at_398) (Or.inr rfl) e30 (by decide) (by decide) (⟨rfl, NF27⟩)
          · skip
            have z0 : (0 : Int64).toInt = 0 := by decide
            have d1 : 1 ≤ (nw - i0).toInt := by
              have a := c_lsub nw i0
              have b := rng64 nw
              have e := rng64 i0
              have f := rng64 (nw - i0)
              have g := Int64.lt_iff_toInt_lt.mp c1
              have h : ¬ (nw - i0).toInt < 0 := fun h => c2 (Int64.lt_iff_toInt_lt.mpr (by rw [z0]; exact h))
              omega
            obtain ⟨x, y, z, r, e1, e2, e3, n1, n2, n3, hr, hsm, hbg⟩ := own_gain (nw - i0) rfl D164 Div hI hk D148 D136 b11.1 b11.2 b51.1 b51.2 b59.1 b59.2 d1
            refine g_aload hG X5 hx (hb hby at_174) (pc' := 176) rfl rfl rfl ?_
            show G (T5.setTop (mkF m 176 #[.val (.long i0), .second, .val (.long i1), .second, .val (.int i2), .val (.int i3), .val (.int i4), .val (.int v3), .val (.int v11), .val (.int wu), .val (.int rl), .val (.long v51), .second, .val (.long v59), .second, .val (.double rt), .second, .val (.long nw), .second, .val (.ref sb), .val (.double v164), .second, .unset, .unset, .unset, .unset, .unset, .unset, .unset, .unset] [(.ref sb)]))
            refine g_lload hG X5 hx (hb hby at_176) (pc' := 178) rfl rfl ?_
            show G (T5.setTop (mkF m 178 #[.val (.long i0), .second, .val (.long i1), .second, .val (.int i2), .val (.int i3), .val (.int i4), .val (.int v3), .val (.int v11), .val (.int wu), .val (.int rl), .val (.long v51), .second, .val (.long v59), .second, .val (.double rt), .second, .val (.long nw), .second, .val (.ref sb), .val (.double v164), .second, .unset, .unset, .unset, .unset, .unset, .unset, .unset, .unset] [(.long nw), (.ref sb)]))
            refine g_callV hG X5 hx hZ (y := (⟨"com/example/schleuse/schleuse/LimiterState", "savedUpAt", "(J)D"⟩ : MethodName)) 0 hown (wd hw 34 rfl) (wd hw 35 rfl) (wd hw 37 rfl) (wd hw 36 rfl) (wd hw 4 rfl) (wd hw 38 rfl) (by decide) (rmS l Z a0 hw [] sb i0 nw v148 v136 iv v164 r h5 n0 Zs (Or.inr (Or.inr ⟨c1, c2, x, y, z, e1, e2, e3, n1, n2, n3, hr⟩)) Ex_sb F_nextFreeNanos_sb F_stableIntervalNanos_sb F_maxSavedUpPermits_sb F_savedUpPermits_sb F_nextFreeFraction_sb) (by decide) (by decide) (by rw [hml]; rfl) pd_2 rfl (argsL := [(.long nw)]) (rest := []) rfl rfl (Nat.le_of_eq rfl) (hb hby at_178) e5 Ex_sb (by decide) (by decide) (pc' := 181) rfl ?_
            intro T31 rv31 L31 X31 hQ31
            obtain ⟨rfl, Nq31, eh31⟩ := hQ31
            have NF31 := Fr.app NF5 Nq31
            show G (T31.setTop (mkF m 181 #[.val (.long i0), .second, .val (.long i1), .second, .val (.int i2), .val (.int i3), .val (.int i4), .val (.int v3), .val (.int v11), .val (.int wu), .val (.int rl), .val (.long v51), .second, .val (.long v59), .second, .val (.double rt), .second, .val (.long nw), .second, .val (.ref sb), .val (.double v164), .second, .unset, .unset, .unset, .unset, .unset, .unset, .unset, .unset] [(.double r)]))
            refine g_dstore hG X31 hx (hb hby at_181) (pc' := 183) rfl (Ls' := #[.val (.long i0), .second, .val (.long i1), .second, .val (.int i2), .val (.int i3), .val (.int i4), .val (.int v3), .val (.int v11), .val (.int wu), .val (.int rl), .val (.long v51), .second, .val (.long v59), .second, .val (.double rt), .second, .val (.long nw), .second, .val (.ref sb), .val (.double v164), .second, .val (.double r), .second, .unset, .unset, .unset, .unset, .unset, .unset]) rfl ?_
            show G (T31.setTop (mkF m 183 #[.val (.long i0), .second, .val (.long i1), .second, .val (.int i2), .val (.int i3), .val (.int i4), .val (.int v3), .val (.int v11), .val (.int wu), .val (.int rl), .val (.long v51), .second, .val (.long v59), .second, .val (.double rt), .second, .val (.long nw), .second, .val (.ref sb), .val (.double v164), .second, .val (.double r), .second, .unset, .unset, .unset, .unset, .unset, .unset] []))
            refine g_lload hG X31 hx (hb hby at_183) (pc' := 185) rfl rfl ?_
            show G (T31.setTop (mkF m 185 #[.val (.long i0), .second, .val (.long i1), .second, .val (.int i2), .val (.int i3), .val (.int i4), .val (.int v3), .val (.int v11), .val (.int wu), .val (.int rl), .val (.long v51), .second, .val (.long v59), .second, .val (.double rt), .second, .val (.long nw), .second, .val (.ref sb), .val (.double v164), .second, .val (.double r), .second, .unset, .unset, .unset, .unset, .unset, .unset] [(.long nw)]))
            refine g_lloadN hG X31 hx (hb hby at_185) (pc' := 186) rfl rfl ?_
            show G (T31.setTop (mkF m 186 #[.val (.long i0), .second, .val (.long i1), .second, .val (.int i2), .val (.int i3), .val (.int i4), .val (.int v3), .val (.int v11), .val (.int wu), .val (.int rl), .val (.long v51), .second, .val (.long v59), .second, .val (.double rt), .second, .val (.long nw), .second, .val (.ref sb), .val (.double v164), .second, .val (.double r), .second, .unset, .unset, .unset, .unset, .unset, .unset] [(.long i0), (.long nw)]))
            obtain ⟨v186, q186⟩ : ∃ zz : Int32, lcmpW nw i0 = zz := ⟨_, rfl⟩
            refine g_lcmp hG X31 hx (hb hby at_186) (pc' := 187) rfl q186 ?_
            show G (T31.setTop (mkF m 187 #[.val (.long i0), .second, .val (.long i1), .second, .val (.int i2), .val (.int i3), .val (.int i4), .val (.int v3), .val (.int v11), .val (.int wu), .val (.int rl), .val (.long v51), .second, .val (.long v59), .second, .val (.double rt), .second, .val (.long nw), .second, .val (.ref sb), .val (.double v164), .second, .val (.double r), .second, .unset, .unset, .unset, .unset, .unset, .unset] [(.int v186)]))
            refine g_ifYes hG X31 hx (hb hby at_187) (pc' := 201) ((if0 _ _).trans (tlt (show (0 : Int32) < v186 by rw [← q186]; exact (lw_gt _ _).mpr c1)).2.2.1) (by decide) (by decide) ?_
            show G (T31.setTop (mkF m 201 #[.val (.long i0), .second, .val (.long i1), .second, .val (.int i2), .val (.int i3), .val (.int i4), .val (.int v3), .val (.int v11), .val (.int wu), .val (.int rl), .val (.long v51), .second, .val (.long v59), .second, .val (.double rt), .second, .val (.long nw), .second, .val (.ref sb), .val (.double v164), .second, .val (.double r), .second, .unset, .unset, .unset, .unset, .unset, .unset] []))
            refine g_lload hG X31 hx (hb hby at_201) (pc' := 203) rfl rfl ?_
            show G (T31.setTop (mkF m 203 #[.val (.long i0), .second, .val (.long i1), .second, .val (.int i2), .val (.int i3), .val (.int i4), .val (.int v3), .val (.int v11), .val (.int wu), .val (.int rl), .val (.long v51), .second, .val (.long v59), .second, .val (.double rt), .second, .val (.long nw), .second, .val (.ref sb), .val (.double v164), .second, .val (.double r), .second, .unset, .unset, .unset, .unset, .unset, .unset] [(.long nw)]))
            refine g_lloadN hG X31 hx (hb hby at_203) (pc' := 204) rfl rfl ?_
            show G (T31.setTop (mkF m 204 #[.val (.long i0), .second, .val (.long i1), .second, .val (.int i2), .val (.int i3), .val (.int i4), .val (.int v3), .val (.int v11), .val (.int wu), .val (.int rl), .val (.long v51), .second, .val (.long v59), .second, .val (.double rt), .second, .val (.long nw), .second, .val (.ref sb), .val (.double v164), .second, .val (.double r), .second, .unset, .unset, .unset, .unset, .unset, .unset] [(.long i0), (.long nw)]))
            obtain ⟨v204, q204⟩ : ∃ zz : Int64, nw - i0 = zz := ⟨_, rfl⟩
            refine g_lsub hG X31 hx (hb hby at_204) (pc' := 205) rfl q204 ?_
            show G (T31.setTop (mkF m 205 #[.val (.long i0), .second, .val (.long i1), .second, .val (.int i2), .val (.int i3), .val (.int i4), .val (.int v3), .val (.int v11), .val (.int wu), .val (.int rl), .val (.long v51), .second, .val (.long v59), .second, .val (.double rt), .second, .val (.long nw), .second, .val (.ref sb), .val (.double v164), .second, .val (.double r), .second, .unset, .unset, .unset, .unset, .unset, .unset] [(.long v204)]))
            refine g_lstore hG X31 hx (hb hby at_205) (pc' := 207) rfl (Ls' := #[.val (.long i0), .second, .val (.long i1), .second, .val (.int i2), .val (.int i3), .val (.int i4), .val (.int v3), .val (.int v11), .val (.int wu), .val (.int rl), .val (.long v51), .second, .val (.long v59), .second, .val (.double rt), .second, .val (.long nw), .second, .val (.ref sb), .val (.double v164), .second, .val (.double r), .second, .unset, .unset, .val (.long v204), .second, .unset, .unset]) rfl ?_
            show G (T31.setTop (mkF m 207 #[.val (.long i0), .second, .val (.long i1), .second, .val (.int i2), .val (.int i3), .val (.int i4), .val (.int v3), .val (.int v11), .val (.int wu), .val (.int rl), .val (.long v51), .second, .val (.long v59), .second, .val (.double rt), .second, .val (.long nw), .second, .val (.ref sb), .val (.double v164), .second, .val (.double r), .second, .unset, .unset, .val (.long v204), .second, .unset, .unset] []))
            refine g_lload hG X31 hx (hb hby at_207) (pc' := 209) rfl rfl ?_
            show G (T31.setTop (mkF m 209 #[.val (.long i0), .second, .val (.long i1), .second, .val (.int i2), .val (.int i3), .val (.int i4), .val (.int v3), .val (.int v11), .val (.int wu), .val (.int rl), .val (.long v51), .second, .val (.long v59), .second, .val (.double rt), .second, .val (.long nw), .second, .val (.ref sb), .val (.double v164), .second, .val (.double r), .second, .unset, .unset, .val (.long v204), .second, .unset, .unset] [(.long v204)]))
            refine g_lconst hG X31 hx (hb hby at_209) (pc' := 210) rfl (v := (0 : Int64)) rfl ?_
            show G (T31.setTop (mkF m 210 #[.val (.long i0), .second, .val (.long i1), .second, .val (.int i2), .val (.int i3), .val (.int i4), .val (.int v3), .val (.int v11), .val (.int wu), .val (.int rl), .val (.long v51), .second, .val (.long v59), .second, .val (.double rt), .second, .val (.long nw), .second, .val (.ref sb), .val (.double v164), .second, .val (.double r), .second, .unset, .unset, .val (.long v204), .second, .unset, .unset] [(.long 0), (.long v204)]))
            obtain ⟨v210, q210⟩ : ∃ zz : Int32, lcmpW v204 (0 : Int64) = zz := ⟨_, rfl⟩
            refine g_lcmp hG X31 hx (hb hby at_210) (pc' := 211) rfl q210 ?_
            show G (T31.setTop (mkF m 211 #[.val (.long i0), .second, .val (.long i1), .second, .val (.int i2), .val (.int i3), .val (.int i4), .val (.int v3), .val (.int v11), .val (.int wu), .val (.int rl), .val (.long v51), .second, .val (.long v59), .second, .val (.double rt), .second, .val (.long nw), .second, .val (.ref sb), .val (.double v164), .second, .val (.double r), .second, .unset, .unset, .val (.long v204), .second, .unset, .unset] [(.int v210)]))
            refine g_ifNo hG X31 hx (hb hby at_211) (pc' := 214) ((if0 _ _).trans (flt (show ¬ v210 < 0 by rw [← q210, ← q204]; exact fun g => c2 ((lw_lt _ _).mp g))).1) rfl ?_
            show G (T31.setTop (mkF m 214 #[.val (.long i0), .second, .val (.long i1), .second, .val (.int i2), .val (.int i3), .val (.int i4), .val (.int v3), .val (.int v11), .val (.int wu), .val (.int rl), .val (.long v51), .second, .val (.long v59), .second, .val (.double rt), .second, .val (.long nw), .second, .val (.ref sb), .val (.double v164), .second, .val (.double r), .second, .unset, .unset, .val (.long v204), .second, .unset, .unset] []))
            refine g_lload hG X31 hx (hb hby at_214) (pc' := 216) rfl rfl ?_
            show G (T31.setTop (mkF m 216 #[.val (.long i0), .second, .val (.long i1), .second, .val (.int i2), .val (.int i3), .val (.int i4), .val (.int v3), .val (.int v11), .val (.int wu), .val (.int rl), .val (.long v51), .second, .val (.long v59), .second, .val (.double rt), .second, .val (.long nw), .second, .val (.ref sb), .val (.double v164), .second, .val (.double r), .second, .unset, .unset, .val (.long v204), .second, .unset, .unset] [(.long v204)]))
            refine g_ldcLong hG X31 hx hZ hown (wd hw 44 rfl) (hb hby at_216) (pc' := 219) rfl ?_
            show G (T31.setTop (mkF m 219 #[.val (.long i0), .second, .val (.long i1), .second, .val (.int i2), .val (.int i3), .val (.int i4), .val (.int v3), .val (.int v11), .val (.int wu), .val (.int rl), .val (.long v51), .second, .val (.long v59), .second, .val (.double rt), .second, .val (.long nw), .second, .val (.ref sb), .val (.double v164), .second, .val (.double r), .second, .unset, .unset, .val (.long v204), .second, .unset, .unset] [(.long 1048576), (.long v204)]))
            obtain ⟨v219, q219⟩ : ∃ zz : Int32, lcmpW v204 (1048576 : Int64) = zz := ⟨_, rfl⟩
            refine g_lcmp hG X31 hx (hb hby at_219) (pc' := 220) rfl q219 ?_
            show G (T31.setTop (mkF m 220 #[.val (.long i0), .second, .val (.long i1), .second, .val (.int i2), .val (.int i3), .val (.int i4), .val (.int v3), .val (.int v11), .val (.int wu), .val (.int rl), .val (.long v51), .second, .val (.long v59), .second, .val (.double rt), .second, .val (.long nw), .second, .val (.ref sb), .val (.double v164), .second, .val (.double r), .second, .unset, .unset, .val (.long v204), .second, .unset, .unset] [(.int v219)]))
            refine g_ifNo hG X31 hx (hb hby at_220) (pc' := 223) ((if0 _ _).trans (flt (show ¬ v219 < 0 by rw [← q219, ← q204]; exact fun g => absurd (Int64.lt_iff_toInt_lt.mp ((lw_lt _ _).mp g)) (by rw [show (1048576 : Int64).toInt = 1048576 by decide]; omega))).1) rfl ?_
            show G (T31.setTop (mkF m 223 #[.val (.long i0), .second, .val (.long i1), .second, .val (.int i2), .val (.int i3), .val (.int i4), .val (.int v3), .val (.int v11), .val (.int wu), .val (.int rl), .val (.long v51), .second, .val (.long v59), .second, .val (.double rt), .second, .val (.long nw), .second, .val (.ref sb), .val (.double v164), .second, .val (.double r), .second, .unset, .unset, .val (.long v204), .second, .unset, .unset] []))
            refine g_ldcLong hG X31 hx hZ hown (wd hw 39 rfl) (hb hby at_223) (pc' := 226) rfl ?_
            show G (T31.setTop (mkF m 226 #[.val (.long i0), .second, .val (.long i1), .second, .val (.int i2), .val (.int i3), .val (.int i4), .val (.int v3), .val (.int v11), .val (.int wu), .val (.int rl), .val (.long v51), .second, .val (.long v59), .second, .val (.double rt), .second, .val (.long nw), .second, .val (.ref sb), .val (.double v164), .second, .val (.double r), .second, .unset, .unset, .val (.long v204), .second, .unset, .unset] [(.long 8)]))
            refine g_lload hG X31 hx (hb hby at_226) (pc' := 228) rfl rfl ?_
            show G (T31.setTop (mkF m 228 #[.val (.long i0), .second, .val (.long i1), .second, .val (.int i2), .val (.int i3), .val (.int i4), .val (.int v3), .val (.int v11), .val (.int wu), .val (.int rl), .val (.long v51), .second, .val (.long v59), .second, .val (.double rt), .second, .val (.long nw), .second, .val (.ref sb), .val (.double v164), .second, .val (.double r), .second, .unset, .unset, .val (.long v204), .second, .unset, .unset] [(.long v59), (.long 8)]))
            obtain ⟨v228, q228⟩ : ∃ zz : Int64, (8 : Int64) * v59 = zz := ⟨_, rfl⟩
            refine g_lmul hG X31 hx (hb hby at_228) (pc' := 229) rfl q228 ?_
            show G (T31.setTop (mkF m 229 #[.val (.long i0), .second, .val (.long i1), .second, .val (.int i2), .val (.int i3), .val (.int i4), .val (.int v3), .val (.int v11), .val (.int wu), .val (.int rl), .val (.long v51), .second, .val (.long v59), .second, .val (.double rt), .second, .val (.long nw), .second, .val (.ref sb), .val (.double v164), .second, .val (.double r), .second, .unset, .unset, .val (.long v204), .second, .unset, .unset] [(.long v228)]))
            refine g_lstore hG X31 hx (hb hby at_229) (pc' := 231) rfl (Ls' := #[.val (.long i0), .second, .val (.long i1), .second, .val (.int i2), .val (.int i3), .val (.int i4), .val (.int v3), .val (.int v11), .val (.int wu), .val (.int rl), .val (.long v51), .second, .val (.long v59), .second, .val (.double rt), .second, .val (.long nw), .second, .val (.ref sb), .val (.double v164), .second, .val (.double r), .second, .val (.long v228), .second, .val (.long v204), .second, .unset, .unset]) rfl ?_
            show G (T31.setTop (mkF m 231 #[.val (.long i0), .second, .val (.long i1), .second, .val (.int i2), .val (.int i3), .val (.int i4), .val (.int v3), .val (.int v11), .val (.int wu), .val (.int rl), .val (.long v51), .second, .val (.long v59), .second, .val (.double rt), .second, .val (.long nw), .second, .val (.ref sb), .val (.double v164), .second, .val (.double r), .second, .val (.long v228), .second, .val (.long v204), .second, .unset, .unset] []))
            refine g_goto hG X31 hx (hb hby at_231) (pc' := 335) (by decide) (by decide) ?_
            show G (T31.setTop (mkF m 335 #[.val (.long i0), .second, .val (.long i1), .second, .val (.int i2), .val (.int i3), .val (.int i4), .val (.int v3), .val (.int v11), .val (.int wu), .val (.int rl), .val (.long v51), .second, .val (.long v59), .second, .val (.double rt), .second, .val (.long nw), .second, .val (.ref sb), .val (.double v164), .second, .val (.double r), .second, .val (.long v228), .second, .val (.long v204), .second, .unset, .unset] []))
            have hE := own_lmul q228 (show (8 : Int64).toInt = 8 by decide) rfl (by omega) (by omega)
            have R8 := own_eight D136
            rw [← hbg c3] at R8
            refine g_aload hG X31 hx (hb hby at_335) (pc' := 337) rfl rfl rfl ?_
            show G (T31.setTop (mkF m 337 #[.val (.long i0), .second, .val (.long i1), .second, .val (.int i2), .val (.int i3), .val (.int i4), .val (.int v3), .val (.int v11), .val (.int wu), .val (.int rl), .val (.long v51), .second, .val (.long v59), .second, .val (.double rt), .second, .val (.long nw), .second, .val (.ref sb), .val (.double v164), .second, .val (.double r), .second, .val (.long v228), .second, .val (.long v204), .second, .unset, .unset] [(.ref sb)]))
            refine g_getF hG X31 hx hZ hown (wd hw 29 rfl) Via.refl eh31 F_savedUpPermits_sb (hb hby at_337) (pc' := 340) rfl ?_
            intro T32 X32 e32
            show G (T32.setTop (mkF m 340 #[.val (.long i0), .second, .val (.long i1), .second, .val (.int i2), .val (.int i3), .val (.int i4), .val (.int v3), .val (.int v11), .val (.int wu), .val (.int rl), .val (.long v51), .second, .val (.long v59), .second, .val (.double rt), .second, .val (.long nw), .second, .val (.ref sb), .val (.double v164), .second, .val (.double r), .second, .val (.long v228), .second, .val (.long v204), .second, .unset, .unset] [(.double v148)]))
            refine g_lload hG X32 hx (hb hby at_340) (pc' := 342) rfl rfl ?_
            show G (T32.setTop (mkF m 342 #[.val (.long i0), .second, .val (.long i1), .second, .val (.int i2), .val (.int i3), .val (.int i4), .val (.int v3), .val (.int v11), .val (.int wu), .val (.int rl), .val (.long v51), .second, .val (.long v59), .second, .val (.double rt), .second, .val (.long nw), .second, .val (.ref sb), .val (.double v164), .second, .val (.double r), .second, .val (.long v228), .second, .val (.long v204), .second, .unset, .unset] [(.long v51), (.double v148)]))
            obtain ⟨v342, q342⟩ : ∃ zz : UInt64, FP.l2d v51 = zz := ⟨_, rfl⟩
            refine g_l2d hG X32 hx (hb hby at_342) (pc' := 343) rfl q342 ?_
            show G (T32.setTop (mkF m 343 #[.val (.long i0), .second, .val (.long i1), .second, .val (.int i2), .val (.int i3), .val (.int i4), .val (.int v3), .val (.int v11), .val (.int wu), .val (.int rl), .val (.long v51), .second, .val (.long v59), .second, .val (.double rt), .second, .val (.long nw), .second, .val (.ref sb), .val (.double v164), .second, .val (.double r), .second, .val (.long v228), .second, .val (.long v204), .second, .unset, .unset] [(.double v342), (.double v148)]))
            obtain ⟨v343, q343⟩ : ∃ zz : Int32, cmpValue (FP.dcmp v148 v342) .l = zz := ⟨_, rfl⟩
            refine g_dcmp hG X32 hx (hb hby at_343) (pc' := 344) rfl q343 ?_
            show G (T32.setTop (mkF m 344 #[.val (.long i0), .second, .val (.long i1), .second, .val (.int i2), .val (.int i3), .val (.int i4), .val (.int v3), .val (.int v11), .val (.int wu), .val (.int rl), .val (.long v51), .second, .val (.long v59), .second, .val (.double rt), .second, .val (.long nw), .second, .val (.ref sb), .val (.double v164), .second, .val (.double r), .second, .val (.long v228), .second, .val (.long v204), .second, .unset, .unset] [(.int v343)]))
            refine g_ifNo hG X32 hx (hb hby at_344) (pc' := 347) (by rw [← q343, OwnFl.dcmp_eq D148 (q342 ▸ OwnFl.l2d_DV (by omega)) rfl]; rfl) rfl ?_
            show G (T32.setTop (mkF m 347 #[.val (.long i0), .second, .val (.long i1), .second, .val (.int i2), .val (.int i3), .val (.int i4), .val (.int v3), .val (.int v11), .val (.int wu), .val (.int rl), .val (.long v51), .second, .val (.long v59), .second, .val (.double rt), .second, .val (.long nw), .second, .val (.ref sb), .val (.double v164), .second, .val (.double r), .second, .val (.long v228), .second, .val (.long v204), .second, .unset, .unset] []))
            refine g_aload hG X32 hx (hb hby at_347) (pc' := 349) rfl rfl rfl ?_
            show G (T32.setTop (mkF m 349 #[.val (.long i0), .second, .val (.long i1), .second, .val (.int i2), .val (.int i3), .val (.int i4), .val (.int v3), .val (.int v11), .val (.int wu), .val (.int rl), .val (.long v51), .second, .val (.long v59), .second, .val (.double rt), .second, .val (.long nw), .second, .val (.ref sb), .val (.double v164), .second, .val (.double r), .second, .val (.long v228), .second, .val (.long v204), .second, .unset, .unset] [(.ref sb)]))
            refine g_getF hG X32 hx hZ hown (wd hw 30 rfl) Via.refl e32 F_nextFreeNanos_sb (hb hby at_349) (pc' := 352) rfl ?_
            intro T33 X33 e33
            show G (T33.setTop (mkF m 352 #[.val (.long i0), .second, .val (.long i1), .second, .val (.int i2), .val (.int i3), .val (.int i4), .val (.int v3), .val (.int v11), .val (.int wu), .val (.int rl), .val (.long v51), .second, .val (.long v59), .second, .val (.double rt), .second, .val (.long nw), .second, .val (.ref sb), .val (.double v164), .second, .val (.double r), .second, .val (.long v228), .second, .val (.long v204), .second, .unset, .unset] [(.long i0)]))
            refine g_lloadN hG X33 hx (hb hby at_352) (pc' := 353) rfl rfl ?_
            show G (T33.setTop (mkF m 353 #[.val (.long i0), .second, .val (.long i1), .second, .val (.int i2), .val (.int i3), .val (.int i4), .val (.int v3), .val (.int v11), .val (.int wu), .val (.int rl), .val (.long v51), .second, .val (.long v59), .second, .val (.double rt), .second, .val (.long nw), .second, .val (.ref sb), .val (.double v164), .second, .val (.double r), .second, .val (.long v228), .second, .val (.long v204), .second, .unset, .unset] [(.long i0), (.long i0)]))
            obtain ⟨v353, q353⟩ : ∃ zz : Int32, lcmpW i0 i0 = zz := ⟨_, rfl⟩
            refine g_lcmp hG X33 hx (hb hby at_353) (pc' := 354) rfl q353 ?_
            show G (T33.setTop (mkF m 354 #[.val (.long i0), .second, .val (.long i1), .second, .val (.int i2), .val (.int i3), .val (.int i4), .val (.int v3), .val (.int v11), .val (.int wu), .val (.int rl), .val (.long v51), .second, .val (.long v59), .second, .val (.double rt), .second, .val (.long nw), .second, .val (.ref sb), .val (.double v164), .second, .val (.double r), .second, .val (.long v228), .second, .val (.long v204), .second, .unset, .unset] [(.int v353)]))
            refine g_ifNo hG X33 hx (hb hby at_354) (pc' := 357) ((if0 _ _).trans (teq (show v353 = 0 by rw [← q353]; exact (lw_eq _ _).mpr rfl)).2) rfl ?_
            show G (T33.setTop (mkF m 357 #[.val (.long i0), .second, .val (.long i1), .second, .val (.int i2), .val (.int i3), .val (.int i4), .val (.int v3), .val (.int v11), .val (.int wu), .val (.int rl), .val (.long v51), .second, .val (.long v59), .second, .val (.double rt), .second, .val (.long nw), .second, .val (.ref sb), .val (.double v164), .second, .val (.double r), .second, .val (.long v228), .second, .val (.long v204), .second, .unset, .unset] []))
            refine g_aload hG X33 hx (hb hby at_357) (pc' := 359) rfl rfl rfl ?_
            show G (T33.setTop (mkF m 359 #[.val (.long i0), .second, .val (.long i1), .second, .val (.int i2), .val (.int i3), .val (.int i4), .val (.int v3), .val (.int v11), .val (.int wu), .val (.int rl), .val (.long v51), .second, .val (.long v59), .second, .val (.double rt), .second, .val (.long nw), .second, .val (.ref sb), .val (.double v164), .second, .val (.double r), .second, .val (.long v228), .second, .val (.long v204), .second, .unset, .unset] [(.ref sb)]))
            refine g_getF hG X33 hx hZ hown (wd hw 32 rfl) Via.refl e33 F_nextFreeFraction_sb (hb hby at_359) (pc' := 362) rfl ?_
            intro T34 X34 e34
            show G (T34.setTop (mkF m 362 #[.val (.long i0), .second, .val (.long i1), .second, .val (.int i2), .val (.int i3), .val (.int i4), .val (.int v3), .val (.int v11), .val (.int wu), .val (.int rl), .val (.long v51), .second, .val (.long v59), .second, .val (.double rt), .second, .val (.long nw), .second, .val (.ref sb), .val (.double v164), .second, .val (.double r), .second, .val (.long v228), .second, .val (.long v204), .second, .unset, .unset] [(.double v164)]))
            refine g_dload hG X34 hx (hb hby at_362) (pc' := 364) rfl rfl ?_
            show G (T34.setTop (mkF m 364 #[.val (.long i0), .second, .val (.long i1), .second, .val (.int i2), .val (.int i3), .val (.int i4), .val (.int v3), .val (.int v11), .val (.int wu), .val (.int rl), .val (.long v51), .second, .val (.long v59), .second, .val (.double rt), .second, .val (.long nw), .second, .val (.ref sb), .val (.double v164), .second, .val (.double r), .second, .val (.long v228), .second, .val (.long v204), .second, .unset, .unset] [(.double v164), (.double v164)]))
            obtain ⟨v364, q364⟩ : ∃ zz : Int32, cmpValue (FP.dcmp v164 v164) .l = zz := ⟨_, rfl⟩
            refine g_dcmp hG X34 hx (hb hby at_364) (pc' := 365) rfl q364 ?_
            show G (T34.setTop (mkF m 365 #[.val (.long i0), .second, .val (.long i1), .second, .val (.int i2), .val (.int i3), .val (.int i4), .val (.int v3), .val (.int v11), .val (.int wu), .val (.int rl), .val (.long v51), .second, .val (.long v59), .second, .val (.double rt), .second, .val (.long nw), .second, .val (.ref sb), .val (.double v164), .second, .val (.double r), .second, .val (.long v228), .second, .val (.long v204), .second, .unset, .unset] [(.int v364)]))
            refine g_ifNo hG X34 hx (hb hby at_365) (pc' := 368) (by rw [← q364, OwnFl.dcmp_eq D164 D164 rfl]; rfl) rfl ?_
            show G (T34.setTop (mkF m 368 #[.val (.long i0), .second, .val (.long i1), .second, .val (.int i2), .val (.int i3), .val (.int i4), .val (.int v3), .val (.int v11), .val (.int wu), .val (.int rl), .val (.long v51), .second, .val (.long v59), .second, .val (.double rt), .second, .val (.long nw), .second, .val (.ref sb), .val (.double v164), .second, .val (.double r), .second, .val (.long v228), .second, .val (.long v204), .second, .unset, .unset] []))
            refine g_iconst hG X34 hx (hb hby at_368) (pc' := 369) rfl (v := (1 : Int32)) rfl ?_
            show G (T34.setTop (mkF m 369 #[.val (.long i0), .second, .val (.long i1), .second, .val (.int i2), .val (.int i3), .val (.int i4), .val (.int v3), .val (.int v11), .val (.int wu), .val (.int rl), .val (.long v51), .second, .val (.long v59), .second, .val (.double rt), .second, .val (.long nw), .second, .val (.ref sb), .val (.double v164), .second, .val (.double r), .second, .val (.long v228), .second, .val (.long v204), .second, .unset, .unset] [(.int 1)]))
            refine g_goto hG X34 hx (hb hby at_369) (pc' := 373) (by decide) (by decide) ?_
            show G (T34.setTop (mkF m 373 #[.val (.long i0), .second, .val (.long i1), .second, .val (.int i2), .val (.int i3), .val (.int i4), .val (.int v3), .val (.int v11), .val (.int wu), .val (.int rl), .val (.long v51), .second, .val (.long v59), .second, .val (.double rt), .second, .val (.long nw), .second, .val (.ref sb), .val (.double v164), .second, .val (.double r), .second, .val (.long v228), .second, .val (.long v204), .second, .unset, .unset] [(.int 1)]))
            refine g_istore hG X34 hx (hb hby at_373) (pc' := 375) rfl (Ls' := #[.val (.long i0), .second, .val (.long i1), .second, .val (.int i2), .val (.int i3), .val (.int i4), .val (.int v3), .val (.int v11), .val (.int wu), .val (.int rl), .val (.long v51), .second, .val (.long v59), .second, .val (.double rt), .second, .val (.long nw), .second, .val (.ref sb), .val (.double v164), .second, .val (.double r), .second, .val (.long v228), .second, .val (.int 1), .unset, .unset, .unset]) rfl ?_
            show G (T34.setTop (mkF m 375 #[.val (.long i0), .second, .val (.long i1), .second, .val (.int i2), .val (.int i3), .val (.int i4), .val (.int v3), .val (.int v11), .val (.int wu), .val (.int rl), .val (.long v51), .second, .val (.long v59), .second, .val (.double rt), .second, .val (.long nw), .second, .val (.ref sb), .val (.double v164), .second, .val (.double r), .second, .val (.long v228), .second, .val (.int 1), .unset, .unset, .unset] []))
            refine g_iload hG X34 hx (hb hby at_375) (pc' := 377) rfl rfl ?_
            show G (T34.setTop (mkF m 377 #[.val (.long i0), .second, .val (.long i1), .second, .val (.int i2), .val (.int i3), .val (.int i4), .val (.int v3), .val (.int v11), .val (.int wu), .val (.int rl), .val (.long v51), .second, .val (.long v59), .second, .val (.double rt), .second, .val (.long nw), .second, .val (.ref sb), .val (.double v164), .second, .val (.double r), .second, .val (.long v228), .second, .val (.int 1), .unset, .unset, .unset] [(.int 1)]))
            refine g_ifNo hG X34 hx (hb hby at_377) (pc' := 380) (by decide) rfl ?_
            show G (T34.setTop (mkF m 380 #[.val (.long i0), .second, .val (.long i1), .second, .val (.int i2), .val (.int i3), .val (.int i4), .val (.int v3), .val (.int v11), .val (.int wu), .val (.int rl), .val (.long v51), .second, .val (.long v59), .second, .val (.double rt), .second, .val (.long nw), .second, .val (.ref sb), .val (.double v164), .second, .val (.double r), .second, .val (.long v228), .second, .val (.int 1), .unset, .unset, .unset] []))
            refine g_dload hG X34 hx (hb hby at_380) (pc' := 382) rfl rfl ?_
            show G (T34.setTop (mkF m 382 #[.val (.long i0), .second, .val (.long i1), .second, .val (.int i2), .val (.int i3), .val (.int i4), .val (.int v3), .val (.int v11), .val (.int wu), .val (.int rl), .val (.long v51), .second, .val (.long v59), .second, .val (.double rt), .second, .val (.long nw), .second, .val (.ref sb), .val (.double v164), .second, .val (.double r), .second, .val (.long v228), .second, .val (.int 1), .unset, .unset, .unset] [(.double r)]))
            refine g_ldcDouble hG X34 hx hZ hown (wd hw 40 rfl) (hb hby at_382) (pc' := 385) rfl ?_
            show G (T34.setTop (mkF m 385 #[.val (.long i0), .second, .val (.long i1), .second, .val (.int i2), .val (.int i3), .val (.int i4), .val (.int v3), .val (.int v11), .val (.int wu), .val (.int rl), .val (.long v51), .second, .val (.long v59), .second, .val (.double rt), .second, .val (.long nw), .second, .val (.ref sb), .val (.double v164), .second, .val (.double r), .second, .val (.long v228), .second, .val (.int 1), .unset, .unset, .unset] [(.double 4620693217682128896), (.double r)]))
            obtain ⟨v385, q385⟩ : ∃ zz : UInt64, FP.dmul r (4620693217682128896 : UInt64) = zz := ⟨_, rfl⟩
            have D385 := own_last R8 (by omega) (by omega)
            rw [q385] at D385
            refine g_dmul hG X34 hx (hb hby at_385) (pc' := 386) rfl (by rw [q385]; exact D385.noNaN) q385 ?_
            show G (T34.setTop (mkF m 386 #[.val (.long i0), .second, .val (.long i1), .second, .val (.int i2), .val (.int i3), .val (.int i4), .val (.int v3), .val (.int v11), .val (.int wu), .val (.int rl), .val (.long v51), .second, .val (.long v59), .second, .val (.double rt), .second, .val (.long nw), .second, .val (.ref sb), .val (.double v164), .second, .val (.double r), .second, .val (.long v228), .second, .val (.int 1), .unset, .unset, .unset] [(.double v385)]))
            refine g_lload hG X34 hx (hb hby at_386) (pc' := 388) rfl rfl ?_
            show G (T34.setTop (mkF m 388 #[.val (.long i0), .second, .val (.long i1), .second, .val (.int i2), .val (.int i3), .val (.int i4), .val (.int v3), .val (.int v11), .val (.int wu), .val (.int rl), .val (.long v51), .second, .val (.long v59), .second, .val (.double rt), .second, .val (.long nw), .second, .val (.ref sb), .val (.double v164), .second, .val (.double r), .second, .val (.long v228), .second, .val (.int 1), .unset, .unset, .unset] [(.long v228), (.double v385)]))
            obtain ⟨v388, q388⟩ : ∃ zz : UInt64, FP.l2d v228 = zz := ⟨_, rfl⟩
            refine g_l2d hG X34 hx (hb hby at_388) (pc' := 389) rfl q388 ?_
            show G (T34.setTop (mkF m 389 #[.val (.long i0), .second, .val (.long i1), .second, .val (.int i2), .val (.int i3), .val (.int i4), .val (.int v3), .val (.int v11), .val (.int wu), .val (.int rl), .val (.long v51), .second, .val (.long v59), .second, .val (.double rt), .second, .val (.long nw), .second, .val (.ref sb), .val (.double v164), .second, .val (.double r), .second, .val (.long v228), .second, .val (.int 1), .unset, .unset, .unset] [(.double v388), (.double v385)]))
            obtain ⟨v389, q389⟩ : ∃ zz : Int32, cmpValue (FP.dcmp v385 v388) .l = zz := ⟨_, rfl⟩
            refine g_dcmp hG X34 hx (hb hby at_389) (pc' := 390) rfl q389 ?_
            show G (T34.setTop (mkF m 390 #[.val (.long i0), .second, .val (.long i1), .second, .val (.int i2), .val (.int i3), .val (.int i4), .val (.int v3), .val (.int v11), .val (.int wu), .val (.int rl), .val (.long v51), .second, .val (.long v59), .second, .val (.double rt), .second, .val (.long nw), .second, .val (.ref sb), .val (.double v164), .second, .val (.double r), .second, .val (.long v228), .second, .val (.int 1), .unset, .unset, .unset] [(.int v389)]))
            refine g_ifNo hG X34 hx (hb hby at_390) (pc' := 393) (by rw [← q389, OwnFl.dcmp_eq D385 (q388 ▸ OwnFl.l2d_DV (by omega)) (by rw [hE])]; rfl) rfl ?_
            show G (T34.setTop (mkF m 393 #[.val (.long i0), .second, .val (.long i1), .second, .val (.int i2), .val (.int i3), .val (.int i4), .val (.int v3), .val (.int v11), .val (.int wu), .val (.int rl), .val (.long v51), .second, .val (.long v59), .second, .val (.double rt), .second, .val (.long nw), .second, .val (.ref sb), .val (.double v164), .second, .val (.double r), .second, .val (.long v228), .second, .val (.int 1), .unset, .unset, .unset] []))
            refine g_iconst hG X34 hx (hb hby at_393) (pc' := 394) rfl (v := (1 : Int32)) rfl ?_
            show G (T34.setTop (mkF m 394 #[.val (.long i0), .second, .val (.long i1), .second, .val (.int i2), .val (.int i3), .val (.int i4), .val (.int v3), .val (.int v11), .val (.int wu), .val (.int rl), .val (.long v51), .second, .val (.long v59), .second, .val (.double rt), .second, .val (.long nw), .second, .val (.ref sb), .val (.double v164), .second, .val (.double r), .second, .val (.long v228), .second, .val (.int 1), .unset, .unset, .unset] [(.int 1)]))
            refine g_goto hG X34 hx (hb hby at_394) (pc' := 398) (by decide) (by decide) ?_
            show G (T34.setTop (mkF m 398 #[.val (.long i0), .second, .val (.long i1), .second, .val (.int i2), .val (.int i3), .val (.int i4), .val (.int v3), .val (.int v11), .val (.int wu), .val (.int rl), .val (.long v51), .second, .val (.long v59), .second, .val (.double rt), .second, .val (.long nw), .second, .val (.ref sb), .val (.double v164), .second, .val (.double r), .second, .val (.long v228), .second, .val (.int 1), .unset, .unset, .unset] [(.int 1)]))
            exact e_retZ hGe X34 hx hrt hlk (hb hby at_398) (Or.inr rfl) e34 (by decide) (by decide) (⟨rfl, NF31⟩)
        by_cases hc110 : rl = (0 : Int32)
        · refine g_ifYes hG X0 hx (hb hby at_110) (pc' := 125) ((if0 _ _).trans (teq hc110).1) (by decide) (by decide) ?_
          refine g_lloadN hG X0 hx (hb hby at_125) (pc' := 126) rfl rfl ?_
          show G (s₁.setTop (mkF m 126 #[.val (.long i0), .second, .val (.long i1), .second, .val (.int i2), .val (.int i3), .val (.int i4), .val (.int v3), .val (.int v11), .val (.int wu), .val (.int rl), .val (.long v51), .second, .val (.long v59), .second, .val (.double rt), .second, .unset, .unset, .unset, .unset, .unset, .unset, .unset, .unset, .unset, .unset, .unset, .unset, .unset] [(.long i1)]))
          exact c126 i1
        · refine g_ifNo hG X0 hx (hb hby at_110) (pc' := 113) ((if0 _ _).trans (feq hc110).1) rfl ?_
          refine g_lloadN hG X0 hx (hb hby at_113) (pc' := 114) rfl rfl ?_
          show G (s₁.setTop (mkF m 114 #[.val (.long i0), .second, .val (.long i1), .second, .val (.int i2), .val (.int i3), .val (.int i4), .val (.int v3), .val (.int v11), .val (.int wu), .val (.int rl), .val (.long v51), .second, .val (.long v59), .second, .val (.double rt), .second, .unset, .unset, .unset, .unset, .unset, .unset, .unset, .unset, .unset, .unset, .unset, .unset, .unset] [(.long i0)]))
          refine g_lloadN hG X0 hx (hb hby at_114) (pc' := 115) rfl rfl ?_
          show G (s₁.setTop (mkF m 115 #[.val (.long i0), .second, .val (.long i1), .second, .val (.int i2), .val (.int i3), .val (.int i4), .val (.int v3), .val (.int v11), .val (.int wu), .val (.int rl), .val (.long v51), .second, .val (.long v59), .second, .val (.double rt), .second, .unset, .unset, .unset, .unset, .unset, .unset, .unset, .unset, .unset, .unset, .unset, .unset, .unset] [(.long i1), (.long i0)]))
          refine g_bipush hG X0 hx (hb hby at_115) (pc' := 117) rfl (v := (43 : Int32)) rfl ?_
          show G (s₁.setTop (mkF m 117 #[.val (.long i0), .second, .val (.long i1), .second, .val (.int i2), .val (.int i3), .val (.int i4), .val (.int v3), .val (.int v11), .val (.int wu), .val (.int rl), .val (.long v51), .second, .val (.long v59), .second, .val (.double rt), .second, .unset, .unset, .unset, .unset, .unset, .unset, .unset, .unset, .unset, .unset, .unset, .unset, .unset] [(.int 43), (.long i1), (.long i0)]))
          obtain ⟨v117, q117⟩ : ∃ zz : Int64, i1 <<< ((43 : Int32) &&& 0x3f).toInt64 = zz := ⟨_, rfl⟩
          refine g_lshl hG X0 hx (hb hby at_117) (pc' := 118) rfl q117 ?_
          show G (s₁.setTop (mkF m 118 #[.val (.long i0), .second, .val (.long i1), .second, .val (.int i2), .val (.int i3), .val (.int i4), .val (.int v3), .val (.int v11), .val (.int wu), .val (.int rl), .val (.long v51), .second, .val (.long v59), .second, .val (.double rt), .second, .unset, .unset, .unset, .unset, .unset, .unset, .unset, .unset, .unset, .unset, .unset, .unset, .unset] [(.long v117), (.long i0)]))
          refine g_bipush hG X0 hx (hb hby at_118) (pc' := 120) rfl (v := (43 : Int32)) rfl ?_
          show G (s₁.setTop (mkF m 120 #[.val (.long i0), .second, .val (.long i1), .second, .val (.int i2), .val (.int i3), .val (.int i4), .val (.int v3), .val (.int v11), .val (.int wu), .val (.int rl), .val (.long v51), .second, .val (.long v59), .second, .val (.double rt), .second, .unset, .unset, .unset, .unset, .unset, .unset, .unset, .unset, .unset, .unset, .unset, .unset, .unset] [(.int 43), (.long v117), (.long i0)]))
          obtain ⟨v120, q120⟩ : ∃ zz : Int64, v117 >>> ((43 : Int32) &&& 0x3f).toInt64 = zz := ⟨_, rfl⟩
          refine g_lshr hG X0 hx (hb hby at_120) (pc' := 121) rfl q120 ?_
          show G (s₁.setTop (mkF m 121 #[.val (.long i0), .second, .val (.long i1), .second, .val (.int i2), .val (.int i3), .val (.int i4), .val (.int v3), .val (.int v11), .val (.int wu), .val (.int rl), .val (.long v51), .second, .val (.long v59), .second, .val (.double rt), .second, .unset, .unset, .unset, .unset, .unset, .unset, .unset, .unset, .unset, .unset, .unset, .unset, .unset] [(.long v120), (.long i0)]))
          obtain ⟨v121, q121⟩ : ∃ zz : Int64, i0 + v120 = zz := ⟨_, rfl⟩
          refine g_ladd hG X0 hx (hb hby at_121) (pc' := 122) rfl q121 ?_
          show G (s₁.setTop (mkF m 122 #[.val (.long i0), .second, .val (.long i1), .second, .val (.int i2), .val (.int i3), .val (.int i4), .val (.int v3), .val (.int v11), .val (.int wu), .val (.int rl), .val (.long v51), .second, .val (.long v59), .second, .val (.double rt), .second, .unset, .unset, .unset, .unset, .unset, .unset, .unset, .unset, .unset, .unset, .unset, .unset, .unset] [(.long v121)]))
          refine g_goto hG X0 hx (hb hby at_122) (pc' := 126) (by decide) (by decide) ?_
          show G (s₁.setTop (mkF m 126 #[.val (.long i0), .second, .val (.long i1), .second, .val (.int i2), .val (.int i3), .val (.int i4), .val (.int v3), .val (.int v11), .val (.int wu), .val (.int rl), .val (.long v51), .second, .val (.long v59), .second, .val (.double rt), .second, .unset, .unset, .unset, .unset, .unset, .unset, .unset, .unset, .unset, .unset, .unset, .unset, .unset] [(.long v121)]))
          exact c126 v121
      refine g_iload hG X0 hx (hb hby at_62) (pc' := 64) rfl rfl ?_
      show G (s₁.setTop (mkF m 64 #[.val (.long i0), .second, .val (.long i1), .second, .val (.int i2), .val (.int i3), .val (.int i4), .val (.int v3), .val (.int v11), .val (.int wu), .val (.int rl), .val (.long v51), .second, .val (.long v59), .second, .unset, .unset, .unset, .unset, .unset, .unset, .unset, .unset, .unset, .unset, .unset, .unset, .unset, .unset, .unset] [(.int v3)]))
      by_cases hc64 : v3 = (0 : Int32)
      · refine g_ifNo hG X0 hx (hb hby at_64) (pc' := 67) ((if0 _ _).trans (teq hc64).2) rfl ?_
        refine g_ldcDouble hG X0 hx hZ hown (wd hw 1 rfl) (hb hby at_67) (pc' := 70) rfl ?_
        show G (s₁.setTop (mkF m 70 #[.val (.long i0), .second, .val (.long i1), .second, .val (.int i2), .val (.int i3), .val (.int i4), .val (.int v3), .val (.int v11), .val (.int wu), .val (.int rl), .val (.long v51), .second, .val (.long v59), .second, .unset, .unset, .unset, .unset, .unset, .unset, .unset, .unset, .unset, .unset, .unset, .unset, .unset, .unset, .unset] [(.double 4750679015621132288)]))
        refine g_dstore hG X0 hx (hb hby at_70) (pc' := 72) rfl (Ls' := #[.val (.long i0), .second, .val (.long i1), .second, .val (.int i2), .val (.int i3), .val (.int i4), .val (.int v3), .val (.int v11), .val (.int wu), .val (.int rl), .val (.long v51), .second, .val (.long v59), .second, .val (.double 4750679015621132288), .second, .unset, .unset, .unset, .unset, .unset, .unset, .unset, .unset, .unset, .unset, .unset, .unset, .unset]) rfl ?_
        show G (s₁.setTop (mkF m 72 #[.val (.long i0), .second, .val (.long i1), .second, .val (.int i2), .val (.int i3), .val (.int i4), .val (.int v3), .val (.int v11), .val (.int wu), .val (.int rl), .val (.long v51), .second, .val (.long v59), .second, .val (.double 4750679015621132288), .second, .unset, .unset, .unset, .unset, .unset, .unset, .unset, .unset, .unset, .unset, .unset, .unset, .unset] []))
        refine g_goto hG X0 hx (hb hby at_72) (pc' := 108) (by decide) (by decide) ?_
        show G (s₁.setTop (mkF m 108 #[.val (.long i0), .second, .val (.long i1), .second, .val (.int i2), .val (.int i3), .val (.int i4), .val (.int v3), .val (.int v11), .val (.int wu), .val (.int rl), .val (.long v51), .second, .val (.long v59), .second, .val (.double 4750679015621132288), .second, .unset, .unset, .unset, .unset, .unset, .unset, .unset, .unset, .unset, .unset, .unset, .unset, .unset] []))
        exact c108 (4750679015621132288 : UInt64) (Or.inl ⟨hc64, rfl⟩)
      · refine g_ifYes hG X0 hx (hb hby at_64) (pc' := 75) ((if0 _ _).trans (feq hc64).2) (by decide) (by decide) ?_
        refine g_iload hG X0 hx (hb hby at_75) (pc' := 77) rfl rfl ?_
        show G (s₁.setTop (mkF m 77 #[.val (.long i0), .second, .val (.long i1), .second, .val (.int i2), .val (.int i3), .val (.int i4), .val (.int v3), .val (.int v11), .val (.int wu), .val (.int rl), .val (.long v51), .second, .val (.long v59), .second, .unset, .unset, .unset, .unset, .unset, .unset, .unset, .unset, .unset, .unset, .unset, .unset, .unset, .unset, .unset] [(.int v3)]))
        refine g_iconst hG X0 hx (hb hby at_77) (pc' := 78) rfl (v := (1 : Int32)) rfl ?_
        show G (s₁.setTop (mkF m 78 #[.val (.long i0), .second, .val (.long i1), .second, .val (.int i2), .val (.int i3), .val (.int i4), .val (.int v3), .val (.int v11), .val (.int wu), .val (.int rl), .val (.long v51), .second, .val (.long v59), .second, .unset, .unset, .unset, .unset, .unset, .unset, .unset, .unset, .unset, .unset, .unset, .unset, .unset, .unset, .unset] [(.int 1), (.int v3)]))
        by_cases hc78 : v3 = (1 : Int32)
        · refine g_icmpNo hG X0 hx (hb hby at_78) (pc' := 81) ((teq hc78).2) rfl ?_
          refine g_ldcDouble hG X0 hx hZ hown (wd hw 42 rfl) (hb hby at_81) (pc' := 84) rfl ?_
          show G (s₁.setTop (mkF m 84 #[.val (.long i0), .second, .val (.long i1), .second, .val (.int i2), .val (.int i3), .val (.int i4), .val (.int v3), .val (.int v11), .val (.int wu), .val (.int rl), .val (.long v51), .second, .val (.long v59), .second, .unset, .unset, .unset, .unset, .unset, .unset, .unset, .unset, .unset, .unset, .unset, .unset, .unset, .unset, .unset] [(.double 4746175415993761792)]))
          refine g_dstore hG X0 hx (hb hby at_84) (pc' := 86) rfl (Ls' := #[.val (.long i0), .second, .val (.long i1), .second, .val (.int i2), .val (.int i3), .val (.int i4), .val (.int v3), .val (.int v11), .val (.int wu), .val (.int rl), .val (.long v51), .second, .val (.long v59), .second, .val (.double 4746175415993761792), .second, .unset, .unset, .unset, .unset, .unset, .unset, .unset, .unset, .unset, .unset, .unset, .unset, .unset]) rfl ?_
          show G (s₁.setTop (mkF m 86 #[.val (.long i0), .second, .val (.long i1), .second, .val (.int i2), .val (.int i3), .val (.int i4), .val (.int v3), .val (.int v11), .val (.int wu), .val (.int rl), .val (.long v51), .second, .val (.long v59), .second, .val (.double 4746175415993761792), .second, .unset, .unset, .unset, .unset, .unset, .unset, .unset, .unset, .unset, .unset, .unset, .unset, .unset] []))
          refine g_goto hG X0 hx (hb hby at_86) (pc' := 108) (by decide) (by decide) ?_
          show G (s₁.setTop (mkF m 108 #[.val (.long i0), .second, .val (.long i1), .second, .val (.int i2), .val (.int i3), .val (.int i4), .val (.int v3), .val (.int v11), .val (.int wu), .val (.int rl), .val (.long v51), .second, .val (.long v59), .second, .val (.double 4746175415993761792), .second, .unset, .unset, .unset, .unset, .unset, .unset, .unset, .unset, .unset, .unset, .unset, .unset, .unset] []))
          exact c108 (4746175415993761792 : UInt64) (Or.inr (Or.inl ⟨hc78, rfl⟩))
        · refine g_icmpYes hG X0 hx (hb hby at_78) (pc' := 89) ((feq hc78).2) (by decide) (by decide) ?_
          refine g_iload hG X0 hx (hb hby at_89) (pc' := 91) rfl rfl ?_
          show G (s₁.setTop (mkF m 91 #[.val (.long i0), .second, .val (.long i1), .second, .val (.int i2), .val (.int i3), .val (.int i4), .val (.int v3), .val (.int v11), .val (.int wu), .val (.int rl), .val (.long v51), .second, .val (.long v59), .second, .unset, .unset, .unset, .unset, .unset, .unset, .unset, .unset, .unset, .unset, .unset, .unset, .unset, .unset, .unset] [(.int v3)]))
          refine g_iconst hG X0 hx (hb hby at_91) (pc' := 92) rfl (v := (2 : Int32)) rfl ?_
          show G (s₁.setTop (mkF m 92 #[.val (.long i0), .second, .val (.long i1), .second, .val (.int i2), .val (.int i3), .val (.int i4), .val (.int v3), .val (.int v11), .val (.int wu), .val (.int rl), .val (.long v51), .second, .val (.long v59), .second, .unset, .unset, .unset, .unset, .unset, .unset, .unset, .unset, .unset, .unset, .unset, .unset, .unset, .unset, .unset] [(.int 2), (.int v3)]))
          by_cases hc92 : v3 = (2 : Int32)
          · refine g_icmpNo hG X0 hx (hb hby at_92) (pc' := 95) ((teq hc92).2) rfl ?_
            refine g_ldcDouble hG X0 hx hZ hown (wd hw 50 rfl) (hb hby at_95) (pc' := 98) rfl ?_
            show G (s₁.setTop (mkF m 98 #[.val (.long i0), .second, .val (.long i1), .second, .val (.int i2), .val (.int i3), .val (.int i4), .val (.int v3), .val (.int v11), .val (.int wu), .val (.int rl), .val (.long v51), .second, .val (.long v59), .second, .unset, .unset, .unset, .unset, .unset, .unset, .unset, .unset, .unset, .unset, .unset, .unset, .unset, .unset, .unset] [(.double 4741671816366391296)]))
            refine g_dstore hG X0 hx (hb hby at_98) (pc' := 100) rfl (Ls' := #[.val (.long i0), .second, .val (.long i1), .second, .val (.int i2), .val (.int i3), .val (.int i4), .val (.int v3), .val (.int v11), .val (.int wu), .val (.int rl), .val (.long v51), .second, .val (.long v59), .second, .val (.double 4741671816366391296), .second, .unset, .unset, .unset, .unset, .unset, .unset, .unset, .unset, .unset, .unset, .unset, .unset, .unset]) rfl ?_
            show G (s₁.setTop (mkF m 100 #[.val (.long i0), .second, .val (.long i1), .second, .val (.int i2), .val (.int i3), .val (.int i4), .val (.int v3), .val (.int v11), .val (.int wu), .val (.int rl), .val (.long v51), .second, .val (.long v59), .second, .val (.double 4741671816366391296), .second, .unset, .unset, .unset, .unset, .unset, .unset, .unset, .unset, .unset, .unset, .unset, .unset, .unset] []))
            refine g_goto hG X0 hx (hb hby at_100) (pc' := 108) (by decide) (by decide) ?_
            show G (s₁.setTop (mkF m 108 #[.val (.long i0), .second, .val (.long i1), .second, .val (.int i2), .val (.int i3), .val (.int i4), .val (.int v3), .val (.int v11), .val (.int wu), .val (.int rl), .val (.long v51), .second, .val (.long v59), .second, .val (.double 4741671816366391296), .second, .unset, .unset, .unset, .unset, .unset, .unset, .unset, .unset, .unset, .unset, .unset, .unset, .unset] []))
            exact c108 (4741671816366391296 : UInt64) (Or.inr (Or.inr (Or.inl ⟨hc92, rfl⟩)))
          · refine g_icmpYes hG X0 hx (hb hby at_92) (pc' := 103) ((feq hc92).2) (by decide) (by decide) ?_
            refine g_ldcDouble hG X0 hx hZ hown (wd hw 41 rfl) (hb hby at_103) (pc' := 106) rfl ?_
            show G (s₁.setTop (mkF m 106 #[.val (.long i0), .second, .val (.long i1), .second, .val (.int i2), .val (.int i3), .val (.int i4), .val (.int v3), .val (.int v11), .val (.int wu), .val (.int rl), .val (.long v51), .second, .val (.long v59), .second, .unset, .unset, .unset, .unset, .unset, .unset, .unset, .unset, .unset, .unset, .unset, .unset, .unset, .unset, .unset] [(.double 4737168216739020800)]))
            refine g_dstore hG X0 hx (hb hby at_106) (pc' := 108) rfl (Ls' := #[.val (.long i0), .second, .val (.long i1), .second, .val (.int i2), .val (.int i3), .val (.int i4), .val (.int v3), .val (.int v11), .val (.int wu), .val (.int rl), .val (.long v51), .second, .val (.long v59), .second, .val (.double 4737168216739020800), .second, .unset, .unset, .unset, .unset, .unset, .unset, .unset, .unset, .unset, .unset, .unset, .unset, .unset]) rfl ?_
            show G (s₁.setTop (mkF m 108 #[.val (.long i0), .second, .val (.long i1), .second, .val (.int i2), .val (.int i3), .val (.int i4), .val (.int v3), .val (.int v11), .val (.int wu), .val (.int rl), .val (.long v51), .second, .val (.long v59), .second, .val (.double 4737168216739020800), .second, .unset, .unset, .unset, .unset, .unset, .unset, .unset, .unset, .unset, .unset, .unset, .unset, .unset] []))
            exact c108 (4737168216739020800 : UInt64) (Or.inr (Or.inr (Or.inr ⟨⟨hc64, hc78, hc92⟩, rfl⟩)))
    by_cases hc36 : v35 = (0 : Int32)
    · refine g_ifYes hG X0 hx (hb hby at_36) (pc' := 43) ((if0 _ _).trans (teq hc36).1) (by decide) (by decide) ?_
      refine g_iconst hG X0 hx (hb hby at_43) (pc' := 44) rfl (v := (0 : Int32)) rfl ?_
      show G (s₁.setTop (mkF m 44 #[.val (.long i0), .second, .val (.long i1), .second, .val (.int i2), .val (.int i3), .val (.int i4), .val (.int v3), .val (.int v11), .val (.int wu), .unset, .unset, .unset, .unset, .unset, .unset, .unset, .unset, .unset, .unset, .unset, .unset, .unset, .unset, .unset, .unset, .unset, .unset, .unset, .unset] [(.int 0)]))
      exact c44 (0 : Int32)
    · refine g_ifNo hG X0 hx (hb hby at_36) (pc' := 39) ((if0 _ _).trans (feq hc36).1) rfl ?_
      refine g_iconst hG X0 hx (hb hby at_39) (pc' := 40) rfl (v := (1 : Int32)) rfl ?_
      show G (s₁.setTop (mkF m 40 #[.val (.long i0), .second, .val (.long i1), .second, .val (.int i2), .val (.int i3), .val (.int i4), .val (.int v3), .val (.int v11), .val (.int wu), .unset, .unset, .unset, .unset, .unset, .unset, .unset, .unset, .unset, .unset, .unset, .unset, .unset, .unset, .unset, .unset, .unset, .unset, .unset, .unset] [(.int 1)]))
      refine g_goto hG X0 hx (hb hby at_40) (pc' := 44) (by decide) (by decide) ?_
      show G (s₁.setTop (mkF m 44 #[.val (.long i0), .second, .val (.long i1), .second, .val (.int i2), .val (.int i3), .val (.int i4), .val (.int v3), .val (.int v11), .val (.int wu), .unset, .unset, .unset, .unset, .unset, .unset, .unset, .unset, .unset, .unset, .unset, .unset, .unset, .unset, .unset, .unset, .unset, .unset, .unset, .unset] [(.int 1)]))
      exact c44 (1 : Int32)
  by_cases hc20 : v19 = (0 : Int32)
  · refine g_ifYes hG X0 hx (hb hby at_20) (pc' := 27) ((if0 _ _).trans (teq hc20).1) (by decide) (by decide) ?_
    refine g_iconst hG X0 hx (hb hby at_27) (pc' := 28) rfl (v := (0 : Int32)) rfl ?_
    show G (s₁.setTop (mkF m 28 #[.val (.long i0), .second, .val (.long i1), .second, .val (.int i2), .val (.int i3), .val (.int i4), .val (.int v3), .val (.int v11), .unset, .unset, .unset, .unset, .unset, .unset, .unset, .unset, .unset, .unset, .unset, .unset, .unset, .unset, .unset, .unset, .unset, .unset, .unset, .unset, .unset] [(.int 0)]))
    exact c28 (0 : Int32) (Or.inl rfl)
  · refine g_ifNo hG X0 hx (hb hby at_20) (pc' := 23) ((if0 _ _).trans (feq hc20).1) rfl ?_
    refine g_iconst hG X0 hx (hb hby at_23) (pc' := 24) rfl (v := (1 : Int32)) rfl ?_
    show G (s₁.setTop (mkF m 24 #[.val (.long i0), .second, .val (.long i1), .second, .val (.int i2), .val (.int i3), .val (.int i4), .val (.int v3), .val (.int v11), .unset, .unset, .unset, .unset, .unset, .unset, .unset, .unset, .unset, .unset, .unset, .unset, .unset, .unset, .unset, .unset, .unset, .unset, .unset, .unset, .unset] [(.int 1)]))
    refine g_goto hG X0 hx (hb hby at_24) (pc' := 28) (by decide) (by decide) ?_
    show G (s₁.setTop (mkF m 28 #[.val (.long i0), .second, .val (.long i1), .second, .val (.int i2), .val (.int i3), .val (.int i4), .val (.int v3), .val (.int v11), .unset, .unset, .unset, .unset, .unset, .unset, .unset, .unset, .unset, .unset, .unset, .unset, .unset, .unset, .unset, .unset, .unset, .unset, .unset, .unset, .unset] [(.int 1)]))
    exact c28 (1 : Int32) (Or.inr rfl)
set_option maxRecDepth 65536 in
set_option maxHeartbeats 40000000 in
theorem comes_1 {Post : Tables → Env → Array Value → State → Outcome → State → Prop} (hpost : ∀ tb e args s v u, (limb_1_1.after args s (.returned v) u = true ∧ limb_1_2.after args s (.returned v) u = true ∧ True) → FrameEnd s (.returned v) u (Jvm.fieldLocs frame_1_writes args s ++ Jvm.arrayLocs frame_1_arrays args s ++ Jvm.staticLocs frame_1_statics s) 16 128 → Post tb e args s (.returned v) u) :
    ArmFor flags0 classFile x code maxLocals ret World_1 tables_1 room_1 Calls_1 rest_1 Pre_1 Post := by
  intro l hfl _ _ p e ha hc hk s m args below hf hA hF happ hP
  obtain ⟨hcalls, hrest, hpre⟩ := hP
  obtain ⟨-, -, -, hnamed, -, -, -, hat⟩ := (Spec.applies_iff hf).mp happ
  obtain ⟨hg, hn⟩ := and_e (Cond.before_iff.mp (show (Jvm.Cond.and given_1 narrow_1).before args s = true from hpre))
  obtain ⟨hcount, ha_0⟩ := and_e hg
  obtain ⟨hb_0, ha_1⟩ := and_e ha_0
  obtain ⟨hb_1, ha_2⟩ := and_e ha_1
  obtain ⟨hb_2, ha_3⟩ := and_e ha_2
  obtain ⟨hb_3, ha_4⟩ := and_e ha_3
  have hb_4 := ha_4
  obtain ⟨w0, w1, w2, w3, w4, rfl⟩ : ∃ w0 w1 w2 w3 w4 : Value, args = #[w0, w1, w2, w3, w4] := by
    have hs : args.size = 5 := by simpa [Cond.value, given_1] using hcount
    obtain ⟨L⟩ := args
    match L, hs with
    | [w0, w1, w2, w3, w4], _ => exact ⟨w0, w1, w2, w3, w4, rfl⟩
  have hw := fun d (hd : d ∈ tables_1) => atoms_spec (ws := Jvm.Cond.code x code maxLocals ret :: tables_1) hat d (List.mem_cons_of_mem _ hd)
  obtain ⟨i0, ei0⟩ := isL_v hb_0
  obtain rfl : w0 = (.long i0) := Option.some.inj ei0
  obtain ⟨i1, ei1⟩ := isL_v hb_1
  obtain rfl : w1 = (.long i1) := Option.some.inj ei1
  obtain ⟨i2, ei2⟩ := is_v hb_2
  obtain rfl : w2 = (.int i2) := Option.some.inj ei2
  obtain ⟨i3, ei3⟩ := is_v hb_3
  obtain rfl : w3 = (.int i3) := Option.some.inj ei3
  obtain ⟨i4, ei4⟩ := is_v hb_4
  obtain rfl : w4 = (.int i4) := Option.some.inj ei4
  obtain ⟨n, o, h1, h2, h3, _, L, rfl, ⟨rfl, N⟩, hq⟩ := rm0 l s _ hw tables_1 i0 i1 i2 i3 i4 s.heap s.heap.size (Nat.le_refl _)  p e ha hc hk s m _ below hf ((Spec.applies_iff_loose hf).mp happ).1 ⟨rfl, State.Warmed39.refl s, rfl⟩ trivial
  refine ⟨n, _, h1, h2, h3, hpost _ _ _ _ _ _ ⟨Cond.after_iff.mpr rfl, Cond.after_iff.mpr (eq_i res_at (Term.int_eval (1)) rfl), trivial⟩ ⟨hq.1, hq.2.1, (hq.2.2.sift fun y hy => Or.inr (N y hy)).mono (by decide) (by decide)⟩⟩
theorem main_1_1 : Claimed_1_1 := comes_1 fun _ _ _ _ _ _ h hF => ⟨h.1, hF⟩
theorem main_1_2 : Claimed_1_2 := comes_1 fun _ _ _ _ _ _ h hF => ⟨h.2.1, hF⟩
end Jvm.Pilot.@@N@@
namespace Jvm.Pilot.@@N@@
open Jvm Jvm.ClassFile Sem Op Lib Jvm.Free Jvm.Stand Jvm.Pilot.@@N@@.Jvm.D
/-! MADE BY PROGRAM (witnessworld.py) out of the Statement's table words and the real class files: 10 classes; the members and pool entries that the words name. The judged class is class 1, her method 1. -/
namespace start1
open Jvm.ClassFile
def u (s : String) : CpInfo := .utf8 (stringToUtf16 s)
/-- a pool by its gaps: so many unusable entries, then the entry; so many at the end -/
def gap : Nat → List CpInfo → List CpInfo
  | 0, r => r
  | n + 1, r => .unusable :: gap n r
def poolList (es : List (Nat × CpInfo)) (last : Nat) : List CpInfo := es.foldr (fun e r => gap e.1 (e.2 :: r)) (gap last [])
def pool (es : List (Nat × CpInfo)) (last : Nat) : Array CpInfo := ⟨poolList es last⟩
def fileOf (pool : Array CpInfo) (this : Nat) (attrs : Array Attribute := #[]) (ms : Array MethodInfo := #[]) (fl : Nat := 33) (sup : Nat := 0) (ifs : Array Nat := #[]) (fds : Array FieldInfo := #[]) : ClassFile where
  minorVersion := 0
  majorVersion := 65
  constantPool := pool
  accessFlags := fl
  thisClass := this
  superClass := sup
  interfaces := ifs
  fields := fds
  methods := ms
  attributes := attrs
def plain (name : String) (sup : Option ClassId) : Class where
  name := name
  kind := .ordinary
  loader := none
  accessFlags := 33
  super := sup
  interfaces := #[]
  cf := none
  fields := #[]
  methods := #[]
  instanceTypes := #[]
  staticTypes := #[]
  resolved := #[]
  callSites := []
  init := .initialized
  statics := none
  mirror := none

def pool0 : Array CpInfo := pool [(5, u "<init>"), (0, u "()V"), (1, .class_ 10), (1, u "java/lang/Object")] 113

def k0c0 : Code := { maxStack := 0, maxLocals := 1, code := object_method_1_code, exceptionTable := #[], attributes := #[] }
def k0m0 : Method := { name := "<init>", desc := "()V", sig := { parameters := [], returnType := none }, accessFlags := 1, code := some k0c0 }
/-- java/lang/Object -/
def k0 : Class := { plain "java/lang/Object" none with
  accessFlags := 33
  interfaces := #[]
  cf := some (fileOf pool0 8 #[] #[{ accessFlags := 1, nameIndex := 5, descriptorIndex := 6, attributes := #[] }] 33 0 #[] #[])
  fields := #[]
  methods := #[k0m0]
  instanceTypes := #[]
  staticTypes := #[]
  resolved := Array.replicate 124 none
  statics := none }

def pool1 : Array CpInfo := pool [(2, .class_ 4), (1, u "java/lang/Object"), (0, u "<init>"), (0, u "()V"), (0, .integer 65535), (0, .double 4750679015621132288), (1, .double 4746175415993761792), (1, .double 4741671816366391296), (1, .double 4737168216739020800), (1, .class_ 17), (0, u "com/example/schleuse/schleuse/LimiterState"), (0, .methodref 16 19), (0, .nameAndType 5 20), (0, u "(DDZ)V"), (0, .fieldref 16 22), (0, .nameAndType 23 24), (0, u "savedUpPermits"), (0, u "D"), (0, .fieldref 16 26), (0, .nameAndType 27 28), (0, u "nextFreeNanos"), (0, u "J"), (0, .double 4616189618054758400), (1, .fieldref 16 32), (0, .nameAndType 33 24), (0, u "nextFreeFraction"), (0, .methodref 16 35), (0, .nameAndType 36 37), (0, u "savedUpAt"), (0, u "(J)D"), (0, .long 8), (1, .long 1048576), (1, .long 32), (1, .long 16), (1, .long 4), (1, .methodref 49 50), (0, .class_ 51), (0, .nameAndType 52 53), (0, u "java/lang/Math"), (0, u "min"), (0, u "(JJ)J"), (0, .double 4620693217682128896), (1, .class_ 57), (0, u "com/example/schleuse/schleuse/LimiterStateSavedUpAtPinLaw"), (2, u "law"), (0, u "(JJIII)Z")] 3

def k1m0 : Method := { name := "<init>", desc := "()V", sig := { parameters := [], returnType := none }, accessFlags := 1, code := none }
def k1c1 : Code := { maxStack := 7, maxLocals := 30, code := code, exceptionTable := #[], attributes := #[] }
def k1m1 : Method := { name := "law", desc := "(JJIII)Z", sig := { parameters := [.long, .long, .int, .int, .int], returnType := some .boolean }, accessFlags := 9, code := some k1c1 }
/-- com/example/schleuse/schleuse/LimiterStateSavedUpAtPinLaw -/
def k1 : Class := { plain "com/example/schleuse/schleuse/LimiterStateSavedUpAtPinLaw" (some 0) with
  accessFlags := 49
  interfaces := #[]
  cf := some (fileOf pool1 56 #[] #[{ accessFlags := 1, nameIndex := 5, descriptorIndex := 6, attributes := #[] }, { accessFlags := 9, nameIndex := 60, descriptorIndex := 61, attributes := #[] }] 49 2 #[] #[])
  fields := #[]
  methods := #[k1m0, k1m1]
  instanceTypes := #[]
  staticTypes := #[]
  resolved := Array.replicate 65 none
  statics := none }

def pool2 : Array CpInfo := pool [(1, .methodref 2 3), (0, .class_ 4), (0, .nameAndType 5 6), (0, u "java/lang/Object"), (0, u "<init>"), (0, u "()V"), (2, .long 9223372036854775808), (1, .fieldref 12 13), (0, .class_ 14), (0, .nameAndType 15 16), (0, u "com/example/schleuse/schleuse/LimiterState"), (0, u "nextFreeNanos"), (0, u "J"), (0, .fieldref 12 18), (0, .nameAndType 19 20), (0, u "warmUp"), (0, u "Z"), (0, .methodref 12 22), (0, .nameAndType 23 24), (0, u "applyRate"), (0, u "(DD)V"), (0, .fieldref 12 26), (0, .nameAndType 27 28), (0, u "savedUpPermits"), (0, u "D"), (0, .fieldref 12 30), (0, .nameAndType 31 28), (0, u "nextFreeFraction"), (0, .fieldref 12 33), (0, .nameAndType 34 28), (0, u "maxSavedUpPermits"), (0, .fieldref 12 36), (0, .nameAndType 37 28), (0, u "stableIntervalNanos"), (2, u "savedUpAt"), (0, u "(J)D"), (33, .fieldref 12 76), (0, .nameAndType 77 28), (0, u "rate"), (0, .double 4741671816366391296), (1, u "forgotten"), (0, u "(DDZ)V")] 13

def k2c0 : Code := { maxStack := 5, maxLocals := 6, code := prog_5_method_1_code, exceptionTable := #[], attributes := #[] }
def k2m0 : Method := { name := "<init>", desc := "(DDZ)V", sig := { parameters := [.double, .double, .boolean], returnType := none }, accessFlags := 0, code := some k2c0 }
def k2c1 : Code := { maxStack := 4, maxLocals := 11, code := prog_5_method_3_code, exceptionTable := #[], attributes := #[] }
def k2m1 : Method := { name := "savedUpAt", desc := "(J)D", sig := { parameters := [.long], returnType := some .double }, accessFlags := 0, code := some k2c1 }
def k2c2 : Code := { maxStack := 5, maxLocals := 5, code := prog_5_method_10_code, exceptionTable := #[], attributes := #[] }
def k2m2 : Method := { name := "applyRate", desc := "(DD)V", sig := { parameters := [.double, .double], returnType := none }, accessFlags := 2, code := some k2c2 }
/-- com/example/schleuse/schleuse/LimiterState -/
def k2 : Class := { plain "com/example/schleuse/schleuse/LimiterState" (some 0) with
  accessFlags := 32
  interfaces := #[]
  cf := some (fileOf pool2 12 #[] #[{ accessFlags := 0, nameIndex := 5, descriptorIndex := 81, attributes := #[] }, { accessFlags := 0, nameIndex := 40, descriptorIndex := 41, attributes := #[] }, { accessFlags := 2, nameIndex := 23, descriptorIndex := 24, attributes := #[] }] 32 2 #[] #[{ accessFlags := 16, nameIndex := 19, descriptorIndex := 20, attributes := #[] }, { accessFlags := 0, nameIndex := 77, descriptorIndex := 28, attributes := #[] }, { accessFlags := 0, nameIndex := 37, descriptorIndex := 28, attributes := #[] }, { accessFlags := 0, nameIndex := 34, descriptorIndex := 28, attributes := #[] }, { accessFlags := 0, nameIndex := 27, descriptorIndex := 28, attributes := #[] }, { accessFlags := 0, nameIndex := 15, descriptorIndex := 16, attributes := #[] }, { accessFlags := 0, nameIndex := 31, descriptorIndex := 28, attributes := #[] }, { accessFlags := 0, nameIndex := 80, descriptorIndex := 20, attributes := #[] }])
  fields := #[{ name := "warmUp", type := .boolean, accessFlags := 16, slot := 0, constantValue := 0 }, { name := "rate", type := .double, accessFlags := 0, slot := 1, constantValue := 0 }, { name := "stableIntervalNanos", type := .double, accessFlags := 0, slot := 2, constantValue := 0 }, { name := "maxSavedUpPermits", type := .double, accessFlags := 0, slot := 3, constantValue := 0 }, { name := "savedUpPermits", type := .double, accessFlags := 0, slot := 4, constantValue := 0 }, { name := "nextFreeNanos", type := .long, accessFlags := 0, slot := 5, constantValue := 0 }, { name := "nextFreeFraction", type := .double, accessFlags := 0, slot := 6, constantValue := 0 }, { name := "forgotten", type := .boolean, accessFlags := 0, slot := 7, constantValue := 0 }]
  methods := #[k2m0, k2m1, k2m2]
  instanceTypes := #[.boolean, .double, .double, .double, .double, .long, .double, .boolean]
  staticTypes := #[]
  resolved := Array.replicate 95 none
  statics := none }

def pool3 : Array CpInfo := pool [(1, .class_ 2), (0, u "java/lang/Math"), (1, .class_ 6), (1, u "java/lang/Object"), (0, u "<init>"), (0, u "()V"), (89, .class_ 100), (1, u "java/lang/Math$RandomNumberGeneratorHolder"), (20, u "(JJ)J"), (50, u "negativeZeroFloatBits"), (0, u "J"), (2, u "negativeZeroDoubleBits"), (24, u "min"), (43, u "$assertionsDisabled"), (0, u "Z"), (91, u "twoToTheDoubleScaleDown"), (0, u "D"), (4, u "twoToTheDoubleScaleUp"), (9, u "E"), (3, u "PI"), (2, u "TAU"), (2, u "DEGREES_TO_RADIANS"), (0, u "RADIANS_TO_DEGREES")] 94

def k3m0 : Method := { name := "<init>", desc := "()V", sig := { parameters := [], returnType := none }, accessFlags := 2, code := none }
def k3c1 : Code := { maxStack := 4, maxLocals := 4, code := jdk_29_method_70_code, exceptionTable := #[], attributes := #[] }
def k3m1 : Method := { name := "min", desc := "(JJ)J", sig := { parameters := [.long, .long], returnType := some .long }, accessFlags := 9, code := some k3c1 }
/-- java/lang/Math -/
def k3 : Class := { plain "java/lang/Math" (some 0) with
  accessFlags := 49
  interfaces := #[]
  cf := some (fileOf pool3 1 #[.nestMembers #[98]] #[{ accessFlags := 2, nameIndex := 7, descriptorIndex := 8, attributes := #[] }, { accessFlags := 9, nameIndex := 201, descriptorIndex := 121, attributes := #[] }] 49 4 #[] #[{ accessFlags := 25, nameIndex := 354, descriptorIndex := 339, attributes := #[] }, { accessFlags := 25, nameIndex := 358, descriptorIndex := 339, attributes := #[] }, { accessFlags := 25, nameIndex := 361, descriptorIndex := 339, attributes := #[] }, { accessFlags := 26, nameIndex := 364, descriptorIndex := 339, attributes := #[] }, { accessFlags := 26, nameIndex := 365, descriptorIndex := 339, attributes := #[] }, { accessFlags := 26, nameIndex := 172, descriptorIndex := 173, attributes := #[] }, { accessFlags := 26, nameIndex := 176, descriptorIndex := 173, attributes := #[] }, { accessFlags := 8, nameIndex := 344, descriptorIndex := 339, attributes := #[] }, { accessFlags := 8, nameIndex := 338, descriptorIndex := 339, attributes := #[] }, { accessFlags := 4120, nameIndex := 245, descriptorIndex := 246, attributes := #[] }])
  fields := #[{ name := "E", type := .double, accessFlags := 25, slot := 0, constantValue := 0 }, { name := "PI", type := .double, accessFlags := 25, slot := 1, constantValue := 0 }, { name := "TAU", type := .double, accessFlags := 25, slot := 2, constantValue := 0 }, { name := "DEGREES_TO_RADIANS", type := .double, accessFlags := 26, slot := 3, constantValue := 0 }, { name := "RADIANS_TO_DEGREES", type := .double, accessFlags := 26, slot := 4, constantValue := 0 }, { name := "negativeZeroFloatBits", type := .long, accessFlags := 26, slot := 5, constantValue := 0 }, { name := "negativeZeroDoubleBits", type := .long, accessFlags := 26, slot := 6, constantValue := 0 }, { name := "twoToTheDoubleScaleUp", type := .double, accessFlags := 8, slot := 7, constantValue := 0 }, { name := "twoToTheDoubleScaleDown", type := .double, accessFlags := 8, slot := 8, constantValue := 0 }, { name := "$assertionsDisabled", type := .boolean, accessFlags := 4120, slot := 9, constantValue := 0 }]
  methods := #[k3m0, k3m1]
  instanceTypes := #[]
  staticTypes := #[.double, .double, .double, .double, .double, .long, .long, .double, .double, .boolean]
  resolved := Array.replicate 460 none
  statics := none }

def pool4 : Array CpInfo := pool [(1, u "java/lang/Cloneable"), (0, .class_ 1), (0, u "java/lang/Object"), (0, .class_ 3)] 3

/-- java/lang/Cloneable -/
def k4 : Class := { plain "java/lang/Cloneable" (some 0) with
  accessFlags := 1537
  interfaces := #[]
  cf := some (fileOf pool4 2 #[] #[] 1537 4 #[] #[])
  fields := #[]
  methods := #[]
  instanceTypes := #[]
  staticTypes := #[]
  resolved := Array.replicate 8 none
  statics := none }

def pool5 : Array CpInfo := pool [(1, u "java/io/Serializable"), (0, .class_ 1), (0, u "java/lang/Object"), (0, .class_ 3)] 3

/-- java/io/Serializable -/
def k5 : Class := { plain "java/io/Serializable" (some 0) with
  accessFlags := 1537
  interfaces := #[]
  cf := some (fileOf pool5 2 #[] #[] 1537 4 #[] #[])
  fields := #[]
  methods := #[]
  instanceTypes := #[]
  staticTypes := #[]
  resolved := Array.replicate 8 none
  statics := none }

/-- the primitive byte -/
def k6 : Class := { plain "byte" none with kind := .primitive 'B', accessFlags := 0x411 }
/-- [B -/
def k7 : Class := { plain "[B" (some 0) with kind := .array 6 .byte, interfaces := #[4, 5], accessFlags := 1041 }

/-- the primitive int -/
def k8 : Class := { plain "int" none with kind := .primitive 'I', accessFlags := 0x411 }
/-- [I -/
def k9 : Class := { plain "[I" (some 0) with kind := .array 8 .int, interfaces := #[4, 5], accessFlags := 1041 }

def heap : Heap := #[]
def classes : Array Class := #[k0, k1, k2, k3, k4, k5, k6, k7, k8, k9]
def interned : List (Array UInt16 × Addr) := []
def slotsUsed : Nat := 0
def theMethod : MethodId := ⟨1, 1⟩
def args0 : Array Value := #[.long 5, .long 9, .int 3, .int 7, .int 1]
def aboutOver (below : List Frame) : State where
  vm := { classes := classes, interned := interned.toArray }
  heap := heap
  slotsUsed := slotsUsed
  threads := #[{ frames := .invoking theMethod args0 :: below }]
def below0 : List Frame := [.native { method := ⟨0, 0⟩, args := #[] }]
def about1 : State := aboutOver below0
def p0 : Program := .bare "" "" ""
def e0 : Env := launch0.env 0 0 0
theorem w_frames : about1.frames = Frame.invoking theMethod args0 :: below0 := rfl
set_option maxRecDepth 65536 in
theorem w_args : argsFit about1.vm theMethod args0 = true := by decide +kernel
set_option maxRecDepth 65536 in
theorem w_heap : heapFits about1 = true := by decide +kernel
set_option maxRecDepth 65536 in
theorem w_runnable : about1.curStatus? = some .runnable := by decide +kernel
set_option maxRecDepth 65536 in
theorem w_alone : about1.alone = true := by decide +kernel
set_option maxRecDepth 65536 in
theorem w_named : about1.methodNamed? x = some theMethod := by decide +kernel
set_option maxRecDepth 65536 in
theorem w_hears : about1.hears theMethod below0 = true := by decide +kernel
set_option maxRecDepth 65536 in
theorem w_ripe : about1.ripe theMethod args0 below0 = true := by decide +kernel
theorem w_running : about1.status = .running := rfl
set_option maxRecDepth 65536 in
theorem w_room : about1.hasRoom e0.platform room_1 = true :=
  launch0.hasRoom_least _ room_1 (by decide +kernel) (by decide +kernel) (by decide +kernel) (by decide +kernel) (by decide +kernel) (by decide +kernel)
theorem allAtoms_all (ts : List Jvm.Cond) (a : Array Jvm.Value) (st : Jvm.State) : (allAtoms ts).before a st = ts.all (fun c => c.before a st) := by
  induction ts with
  | nil => rfl
  | cons c t ih =>
    show (Jvm.Cond.and c (allAtoms t)).before a st = _
    rw [Jvm.Cond.before_and, ih, List.all_cons]
def words1 : List Jvm.Cond := Jvm.Cond.code x code maxLocals ret :: tables_1
/-- a 'code' word, met by the world's own term for the bytes: nothing is compared byte by byte -/
theorem code_word {y : MethodName} {bytes : ByteArray} {mx : Nat} {rt : Option FieldType} {a : Array Value} {s : State} {m : MethodId} {meth : Method} {c : Code} (h1 : s.methodNamed? y = some m) (h2 : s.vm.method? m = some meth) (h3 : meth.code = some c) (h4 : c.code = bytes)
    (h5 : (c.maxLocals == mx && c.exceptionTable.isEmpty && decide (c.maxStack ≤ mostOperands) && decide (meth.sig.returnType = rt) && !meth.locks && decide (parseMethodDescriptor y.desc = some meth.sig)) = true) : (Jvm.Cond.code y bytes mx rt).before a s = true := by
  simp only [Bool.and_eq_true, beq_iff_eq, Bool.not_eq_true', decide_eq_true_eq] at h5
  obtain ⟨⟨⟨⟨⟨g1, g2⟩, g3⟩, g4⟩, g5⟩, g6⟩ := h5
  simp [Cond.before, Cond.holds, Cond.value, h1, h2, h3, h4, g1, g2, g3, g4, g5, g6]
def isCode : Jvm.Cond → Bool
  | .code _ _ _ _ => true
  | _ => false
theorem all_split {L : List Jvm.Cond} {P : Jvm.Cond → Bool} (h1 : L.all (fun c => isCode c || P c) = true) (h2 : ∀ c ∈ L.filter isCode, P c = true) : L.all P = true := by
  refine List.all_eq_true.mpr fun c hc => ?_
  have h := List.all_eq_true.mp h1 c hc
  rcases Bool.eq_false_or_eq_true (isCode c) with hi | hi
  · exact h2 c (List.mem_filter.mpr ⟨hc, hi⟩)
  · simpa [hi] using h
set_option maxRecDepth 65536 in
theorem w_c0 : (Jvm.Cond.code x code maxLocals ret).before args0 about1 = true := code_word (m := ⟨1, 1⟩) (meth := k1m1) (c := k1c1) (by decide +kernel) rfl rfl rfl (by decide +kernel)
set_option maxRecDepth 65536 in
theorem w_c1 : (Jvm.Cond.code ({ cls := "com/example/schleuse/schleuse/LimiterState", name := "<init>", desc := "(DDZ)V" } : Jvm.MethodName) prog_5_method_1_code (6 : Nat) (Option.none : Option Jvm.ClassFile.FieldType)).before args0 about1 = true := code_word (m := ⟨2, 0⟩) (meth := k2m0) (c := k2c0) (by decide +kernel) rfl rfl rfl (by decide +kernel)
set_option maxRecDepth 65536 in
theorem w_c2 : (Jvm.Cond.code ({ cls := "java/lang/Object", name := "<init>", desc := "()V" } : Jvm.MethodName) object_method_1_code (1 : Nat) (Option.none : Option Jvm.ClassFile.FieldType)).before args0 about1 = true := code_word (m := ⟨0, 0⟩) (meth := k0m0) (c := k0c0) (by decide +kernel) rfl rfl rfl (by decide +kernel)
set_option maxRecDepth 65536 in
theorem w_c3 : (Jvm.Cond.code ({ cls := "com/example/schleuse/schleuse/LimiterState", name := "applyRate", desc := "(DD)V" } : Jvm.MethodName) prog_5_method_10_code (5 : Nat) (Option.none : Option Jvm.ClassFile.FieldType)).before args0 about1 = true := code_word (m := ⟨2, 2⟩) (meth := k2m2) (c := k2c2) (by decide +kernel) rfl rfl rfl (by decide +kernel)
set_option maxRecDepth 65536 in
theorem w_c4 : (Jvm.Cond.code ({ cls := "com/example/schleuse/schleuse/LimiterState", name := "savedUpAt", desc := "(J)D" } : Jvm.MethodName) prog_5_method_3_code (11 : Nat) (Option.some Jvm.ClassFile.FieldType.double)).before args0 about1 = true := code_word (m := ⟨2, 1⟩) (meth := k2m1) (c := k2c1) (by decide +kernel) rfl rfl rfl (by decide +kernel)
set_option maxRecDepth 65536 in
theorem w_c5 : (Jvm.Cond.code ({ cls := "java/lang/Math", name := "min", desc := "(JJ)J" } : Jvm.MethodName) jdk_29_method_70_code (4 : Nat) (Option.some Jvm.ClassFile.FieldType.long)).before args0 about1 = true := code_word (m := ⟨3, 1⟩) (meth := k3m1) (c := k3c1) (by decide +kernel) rfl rfl rfl (by decide +kernel)
def codes1 : List Jvm.Cond := [Jvm.Cond.code x code maxLocals ret, Jvm.Cond.code ({ cls := "com/example/schleuse/schleuse/LimiterState", name := "<init>", desc := "(DDZ)V" } : Jvm.MethodName) prog_5_method_1_code (6 : Nat) (Option.none : Option Jvm.ClassFile.FieldType), Jvm.Cond.code ({ cls := "java/lang/Object", name := "<init>", desc := "()V" } : Jvm.MethodName) object_method_1_code (1 : Nat) (Option.none : Option Jvm.ClassFile.FieldType), Jvm.Cond.code ({ cls := "com/example/schleuse/schleuse/LimiterState", name := "applyRate", desc := "(DD)V" } : Jvm.MethodName) prog_5_method_10_code (5 : Nat) (Option.none : Option Jvm.ClassFile.FieldType), Jvm.Cond.code ({ cls := "com/example/schleuse/schleuse/LimiterState", name := "savedUpAt", desc := "(J)D" } : Jvm.MethodName) prog_5_method_3_code (11 : Nat) (Option.some Jvm.ClassFile.FieldType.double), Jvm.Cond.code ({ cls := "java/lang/Math", name := "min", desc := "(JJ)J" } : Jvm.MethodName) jdk_29_method_70_code (4 : Nat) (Option.some Jvm.ClassFile.FieldType.long)]
set_option maxRecDepth 65536 in
theorem codes_eq : words1.filter isCode = codes1 := rfl
theorem w_codes : ∀ c ∈ words1.filter isCode, c.before args0 about1 = true := by
  rw [codes_eq]
  intro c hc
  simp only [codes1, List.mem_cons, List.not_mem_nil, or_false] at hc
  rcases hc with rfl | rfl | rfl | rfl | rfl | rfl
  · exact w_c0
  · exact w_c1
  · exact w_c2
  · exact w_c3
  · exact w_c4
  · exact w_c5
set_option maxRecDepth 65536 in
theorem w_t1 : (words1.take 24).all (fun c => isCode c || c.before args0 about1) = true := by decide +kernel
set_option maxRecDepth 65536 in
theorem w_t2 : ((words1.drop 24).take 24).all (fun c => isCode c || c.before args0 about1) = true := by decide +kernel
set_option maxRecDepth 65536 in
theorem w_t3 : ((words1.drop 24).drop 24).all (fun c => isCode c || c.before args0 about1) = true := by decide +kernel
theorem w_tables : (allAtoms (Jvm.Cond.code x code maxLocals ret :: tables_1)).before args0 about1 = true := by
  rw [allAtoms_all]
  show words1.all (fun c => c.before args0 about1) = true
  refine all_split ?_ w_codes
  rw [← List.take_append_drop 24 words1, List.all_append, w_t1, ← List.take_append_drop 24 (words1.drop 24), List.all_append, w_t2, w_t3]
  rfl
set_option maxRecDepth 65536 in
theorem w_case : (Jvm.Cond.and given_1 narrow_1).before args0 about1 = true := by decide +kernel
theorem w_applies : (headSpec (Jvm.Cond.code x code maxLocals ret :: tables_1) room_1).applies x e0.platform about1 = true :=
  (Spec.applies_iff w_frames).mpr ⟨w_running, w_runnable, w_alone, w_named, w_hears, w_ripe, w_room, w_tables⟩
theorem atStart : AtStart classFile x code maxLocals ret World_1 tables_1 room_1 Calls_1 rest_1 Pre_1 launch0 p0 e0 about1 theMethod args0 below0 :=
  ⟨lists_1, trivial, launch0.admits_env _ _ _, launch0.least_env, fairChoices_fair.cas, fairChoices_fair.clock, w_frames, w_args, w_heap, w_applies, trivial, trivial, w_case⟩
end start1
theorem witness_1 : WitnessClaimed_1 := ⟨start1.p0, start1.e0, start1.about1, start1.theMethod, start1.args0, start1.below0, start1.atStart⟩
end Jvm.Pilot.@@N@@
