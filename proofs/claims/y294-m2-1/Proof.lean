import JvmDerived
import JvmDerived.Pilot.@@N@@Statement
import JvmDerived.Pilot.@@N@@Code
set_option linter.unusedVariables false
set_option linter.unusedSimpArgs false
namespace Jvm.OwnKit
open Sem ClassFile Op Lib Jvm.Stand Jvm.Free Jvm.LawKit Jvm.RoadKit
/-- from S the run ends as wanted: it returns v, leaves a heap and has written the places L -/
def Goes (p : Program) (e : Env) (below : List Frame) (s : State) (K N : Nat) (Q : Option Value → Heap → List Loc → Prop) (S : State) : Prop :=
  ∃ s₂ o, Steps p.tables e below S s₂ ∧ s₂.status = .running ∧ Ended s₂ below o ∧ ∃ v L, o = .returned v ∧ Q v s₂.heap L ∧ FrameEnd s o s₂ L K N
def Cl (p : Program) (e : Env) (below : List Frame) (G : State → Prop) : Prop := ∀ S S', (∀ t, Steps p.tables e below S' t → Steps p.tables e below S t) → G S' → G S
theorem Goes.cl (p : Program) (e : Env) (below : List Frame) (s : State) (K N : Nat) (Q : Option Value → Heap → List Loc → Prop) : Cl p e below (Goes p e below s K N Q) := fun S S' h k => by
  obtain ⟨s₂, o, h1, r⟩ := k
  exact ⟨s₂, o, h _ h1, r⟩
/-- a body's contract -/
abbrev Con (l : Launch) (y : MethodName) (bytes : ByteArray) (maxL : Nat) (ret : Option FieldType) (ws : List Jvm.Cond) (rm : Room) (Z : State) (as : Array Value) (h0 : Heap) (K N : Nat) (Q : Option Value → Heap → List Loc → Prop) : Prop :=
  MetFree l y (head1 (Jvm.Cond.code y bytes maxL ret :: ws) rm) (fun a U => a = as ∧ Z.Warmed39 U.vm ∧ U.heap = h0) (fun _ _ _ _ _ => True) (fun _ U o U' => ∃ v L, o = .returned v ∧ Q v U'.heap L ∧ FrameEnd U o U' L K N)
theorem Con.of {l : Launch} {y : MethodName} {bytes : ByteArray} {maxL : Nat} {ret : Option FieldType} {ws : List Jvm.Cond} {rm : Room} {Z : State} {as : Array Value} {h0 : Heap} {K N : Nat} {Q : Option Value → Heap → List Loc → Prop} {Ls : Array Slot}
    (pl : plainFor y = true) (hef : ∀ m, entryFrame m as maxL = mkF m 0 Ls [])
    (H : ∀ (p : Program) (e : Env) (s : State) (m : MethodId) (below : List Frame) (meth : Method) (c : Code) (s₁ : State) (G : State → Prop), G = Goes p e below s K N Q → Cl p e below G → p.tables.exec = Jvm.exec → c.code = bytes → c.maxLocals = maxL → s.vm.findClass y.cls = some m.cls → meth.name = y.name → meth.sig.returnType = ret → meth.locks = false → Z.Warmed39 s.vm → Stand p l e rm s m as below meth c s₁ [] 0 0 → s₁.heap = h0 → G (s₁.setTop (mkF m 0 Ls []))) :
    Con l y bytes maxL ret ws rm Z as h0 K N Q := by
  refine MetFree.of_bodySF pl hisR ?_
  intro p e s m args below meth c s₁ Bd hml0 hP hK
  obtain ⟨rfl, hZ, hh⟩ := hP
  have X0 : Stand p l e rm s m args below meth c s₁ [] 0 0 := Stand.of_body Bd
  have e0 : s₁.heap = h0 := by rw [← hh, Bd.state]; rfl
  have g := H p e s m below meth c s₁ _ rfl (Goes.cl p e below s K N Q) Bd.exec Bd.bytes hml0 (findClass_of_methodNamed Bd.named) (name_of_methodNamed Bd.named Bd.method).1 Bd.returns Bd.notSynchronized hZ X0 e0
  rw [← hef m] at g
  exact g
theorem Wr.size {h h' : Heap} {a : Addr} {sl : Nat} {v : Value} (W : Wr h h' a sl v) : h.size ≤ h'.size := by
  obtain ⟨c, -, -, -, rfl⟩ := W
  simp
section New
variable {p : Program} {l : Launch} {e : Env} {R : Room} {s : State} {m : MethodId} {args : Array Value} {below : List Frame} {meth : Method} {c : Code} {T : State} {locs : List Loc} {cells slots : Nat} {Z : State} {a0 : Array Value} {h : Heap} {G : State → Prop} {pc pc' : Nat} {Ls Ls' : Array Slot} {rest : List Value} {K N : Nat} {Q : Option Value → Heap → List Loc → Prop}
/-! the ends -/
theorem e_ret (hGe : G = Goes p e below s K N Q) (X : Stand p l e R s m args below meth c T locs cells slots) (hx : p.tables.exec = Jvm.exec) {w : Value} {t : FieldType} {i : Instr} (hret : meth.sig.returnType = some t) (hlk : meth.locks = false) (hd : decode c.code pc = .ok (i, 1)) (hn : narrow t w = w)
    (hi : (i = .ireturn ∧ (t = .int ∨ t = .boolean ∨ t = .byte ∨ t = .char ∨ t = .short) ∧ ∃ z, w = .int z) ∨ (i = .lreturn ∧ t = .long ∧ ∃ z, w = .long z) ∨ (i = .dreturn ∧ t = .double ∧ ∃ z, w = .double z) ∨ (i = .freturn ∧ t = .float ∧ ∃ z, w = .float z) ∨ (i = .areturn ∧ t.isReference = true ∧ w.isRef = true))
    (eT : T.heap = h) (hk : cells ≤ K) (hs : slots ≤ N) (hQ : Q (some w) h locs) : G (T.setTop (mkF m pc Ls (w :: rest))) := by
  subst hGe
  obtain ⟨fs, hr, hrun, hended, hW, hsame⟩ := X.leave (v := some w) (fun h => by rw [hret] at h; cases h) hlk
  refine ⟨_, _, retOut X hx hret hn hi hd hr, hrun, hended, _, _, rfl, ?_, ⟨_, rfl⟩, hW, hsame.mono hk hs⟩
  show Q _ T.heap _
  rw [eT]; exact hQ
theorem e_retI (hGe : G = Goes p e below s K N Q) (X : Stand p l e R s m args below meth c T locs cells slots) (hx : p.tables.exec = Jvm.exec) {z : Int32} (hret : meth.sig.returnType = some .int) (hlk : meth.locks = false) (hd : decode c.code pc = .ok (.ireturn, 1)) (eT : T.heap = h) (hk : cells ≤ K) (hs : slots ≤ N) (hQ : Q (some (.int z)) h locs) : G (T.setTop (mkF m pc Ls (.int z :: rest))) :=
  e_ret hGe X hx hret hlk hd rfl (Or.inl ⟨rfl, Or.inl rfl, z, rfl⟩) eT hk hs hQ
theorem e_retJ (hGe : G = Goes p e below s K N Q) (X : Stand p l e R s m args below meth c T locs cells slots) (hx : p.tables.exec = Jvm.exec) {z : Int64} (hret : meth.sig.returnType = some .long) (hlk : meth.locks = false) (hd : decode c.code pc = .ok (.lreturn, 1)) (eT : T.heap = h) (hk : cells ≤ K) (hs : slots ≤ N) (hQ : Q (some (.long z)) h locs) : G (T.setTop (mkF m pc Ls (.long z :: rest))) :=
  e_ret hGe X hx hret hlk hd rfl (Or.inr (Or.inl ⟨rfl, rfl, z, rfl⟩)) eT hk hs hQ
theorem e_retD (hGe : G = Goes p e below s K N Q) (X : Stand p l e R s m args below meth c T locs cells slots) (hx : p.tables.exec = Jvm.exec) {z : UInt64} (hret : meth.sig.returnType = some .double) (hlk : meth.locks = false) (hd : decode c.code pc = .ok (.dreturn, 1)) (eT : T.heap = h) (hk : cells ≤ K) (hs : slots ≤ N) (hQ : Q (some (.double z)) h locs) : G (T.setTop (mkF m pc Ls (.double z :: rest))) :=
  e_ret hGe X hx hret hlk hd rfl (Or.inr (Or.inr (Or.inl ⟨rfl, rfl, z, rfl⟩))) eT hk hs hQ
theorem e_retA (hGe : G = Goes p e below s K N Q) (X : Stand p l e R s m args below meth c T locs cells slots) (hx : p.tables.exec = Jvm.exec) {a : Addr} {t : FieldType} (hret : meth.sig.returnType = some t) (ht : t.isReference = true) (hlk : meth.locks = false) (hd : decode c.code pc = .ok (.areturn, 1)) (eT : T.heap = h) (hk : cells ≤ K) (hs : slots ≤ N) (hQ : Q (some (.ref a)) h locs) : G (T.setTop (mkF m pc Ls (.ref a :: rest))) :=
  e_ret hGe X hx hret hlk hd (by cases t <;> first | rfl | (cases ht)) (Or.inr (Or.inr (Or.inr (Or.inr ⟨rfl, ht, rfl⟩)))) eT hk hs hQ
theorem e_retZ (hGe : G = Goes p e below s K N Q) (X : Stand p l e R s m args below meth c T locs cells slots) (hx : p.tables.exec = Jvm.exec) {z : Int32} (hret : meth.sig.returnType = some .boolean) (hlk : meth.locks = false) (hd : decode c.code pc = .ok (.ireturn, 1)) (hz : z = 0 ∨ z = 1) (eT : T.heap = h) (hk : cells ≤ K) (hs : slots ≤ N) (hQ : Q (some (.int z)) h locs) : G (T.setTop (mkF m pc Ls (.int z :: rest))) :=
  e_ret hGe X hx hret hlk hd (by rcases hz with rfl | rfl <;> rfl) (Or.inl ⟨rfl, Or.inr (Or.inl rfl), z, rfl⟩) eT hk hs hQ
theorem e_ret0 (hGe : G = Goes p e below s K N Q) (X : Stand p l e R s m args below meth c T locs cells slots) (hx : p.tables.exec = Jvm.exec) (hret : meth.sig.returnType = none) (hlk : meth.locks = false) (hd : decode c.code pc = .ok (.return_, 1)) (eT : T.heap = h) (hk : cells ≤ K) (hs : slots ≤ N) (hQ : Q none h locs) : G (T.setTop (mkF m pc Ls [])) := by
  subst hGe
  obtain ⟨fs, hr, hrun, hended, hW, hsame⟩ := X.leave (v := none) (fun _ => rfl) hlk
  refine ⟨_, _, X.returnOut hx hret hd hr, hrun, hended, _, _, rfl, ?_, ⟨_, rfl⟩, hW, hsame.mono hk hs⟩
  show Q _ T.heap _
  rw [eT]; exact hQ
/-! the plain steps -/
theorem g_iload (hG : Cl p e below G) (X : Stand p l e R s m args below meth c T locs cells slots) (hx : p.tables.exec = Jvm.exec) {i : Nat} {v : Int32} (hd : decode c.code pc = .ok (.iload i, 2)) (hp : pc' = pc + 2) (hl : Ls[i]? = some (.val (.int v))) (k : G (T.setTop (mkF m pc' Ls (.int v :: rest)))) : G (T.setTop (mkF m pc Ls (rest))) := by
  subst hp
  refine hG _ _ (fun t ht => ?_) k
  exact XS.iload X.here hx rfl hd hl ht
theorem g_iloadN (hG : Cl p e below G) (X : Stand p l e R s m args below meth c T locs cells slots) (hx : p.tables.exec = Jvm.exec) {i : Fin 4} {v : Int32} (hd : decode c.code pc = .ok (.iload_n i, 1)) (hp : pc' = pc + 1) (hl : Ls[i.val]? = some (.val (.int v))) (k : G (T.setTop (mkF m pc' Ls (.int v :: rest)))) : G (T.setTop (mkF m pc Ls (rest))) := by
  subst hp
  refine hG _ _ (fun t ht => ?_) k
  exact XS.iloadN X.here hx rfl hd hl ht
theorem g_istore (hG : Cl p e below G) (X : Stand p l e R s m args below meth c T locs cells slots) (hx : p.tables.exec = Jvm.exec) {i : Nat} {v : Int32} (hd : decode c.code pc = .ok (.istore i, 2)) (hp : pc' = pc + 2) (hl : storeLocals Ls i (.int v) = some Ls') (k : G (T.setTop (mkF m pc' Ls' (rest)))) : G (T.setTop (mkF m pc Ls (.int v :: rest))) := by
  subst hp
  refine hG _ _ (fun t ht => ?_) k
  exact XS.istore X.here hx rfl hd rfl hl ht
theorem g_istoreN (hG : Cl p e below G) (X : Stand p l e R s m args below meth c T locs cells slots) (hx : p.tables.exec = Jvm.exec) {i : Fin 4} {v : Int32} (hd : decode c.code pc = .ok (.istore_n i, 1)) (hp : pc' = pc + 1) (hl : storeLocals Ls i.val (.int v) = some Ls') (k : G (T.setTop (mkF m pc' Ls' (rest)))) : G (T.setTop (mkF m pc Ls (.int v :: rest))) := by
  subst hp
  refine hG _ _ (fun t ht => ?_) k
  exact XS.istoreN X.here hx rfl hd rfl hl ht
theorem g_lload (hG : Cl p e below G) (X : Stand p l e R s m args below meth c T locs cells slots) (hx : p.tables.exec = Jvm.exec) {i : Nat} {v : Int64} (hd : decode c.code pc = .ok (.lload i, 2)) (hp : pc' = pc + 2) (hl : Ls[i]? = some (.val (.long v))) (k : G (T.setTop (mkF m pc' Ls (.long v :: rest)))) : G (T.setTop (mkF m pc Ls (rest))) := by
  subst hp
  refine hG _ _ (fun t ht => ?_) k
  exact XS.lload X.here hx rfl hd hl ht
theorem g_lloadN (hG : Cl p e below G) (X : Stand p l e R s m args below meth c T locs cells slots) (hx : p.tables.exec = Jvm.exec) {i : Fin 4} {v : Int64} (hd : decode c.code pc = .ok (.lload_n i, 1)) (hp : pc' = pc + 1) (hl : Ls[i.val]? = some (.val (.long v))) (k : G (T.setTop (mkF m pc' Ls (.long v :: rest)))) : G (T.setTop (mkF m pc Ls (rest))) := by
  subst hp
  refine hG _ _ (fun t ht => ?_) k
  exact XS.lloadN X.here hx rfl hd hl ht
theorem g_lstore (hG : Cl p e below G) (X : Stand p l e R s m args below meth c T locs cells slots) (hx : p.tables.exec = Jvm.exec) {i : Nat} {v : Int64} (hd : decode c.code pc = .ok (.lstore i, 2)) (hp : pc' = pc + 2) (hl : storeLocals Ls i (.long v) = some Ls') (k : G (T.setTop (mkF m pc' Ls' (rest)))) : G (T.setTop (mkF m pc Ls (.long v :: rest))) := by
  subst hp
  refine hG _ _ (fun t ht => ?_) k
  exact XS.lstore X.here hx rfl hd rfl hl ht
theorem g_lstoreN (hG : Cl p e below G) (X : Stand p l e R s m args below meth c T locs cells slots) (hx : p.tables.exec = Jvm.exec) {i : Fin 4} {v : Int64} (hd : decode c.code pc = .ok (.lstore_n i, 1)) (hp : pc' = pc + 1) (hl : storeLocals Ls i.val (.long v) = some Ls') (k : G (T.setTop (mkF m pc' Ls' (rest)))) : G (T.setTop (mkF m pc Ls (.long v :: rest))) := by
  subst hp
  refine hG _ _ (fun t ht => ?_) k
  exact XS.lstoreN X.here hx rfl hd rfl hl ht
theorem g_dload (hG : Cl p e below G) (X : Stand p l e R s m args below meth c T locs cells slots) (hx : p.tables.exec = Jvm.exec) {i : Nat} {v : UInt64} (hd : decode c.code pc = .ok (.dload i, 2)) (hp : pc' = pc + 2) (hl : Ls[i]? = some (.val (.double v))) (k : G (T.setTop (mkF m pc' Ls (.double v :: rest)))) : G (T.setTop (mkF m pc Ls (rest))) := by
  subst hp
  refine hG _ _ (fun t ht => ?_) k
  exact XS.dload X.here hx rfl hd hl ht
theorem g_dloadN (hG : Cl p e below G) (X : Stand p l e R s m args below meth c T locs cells slots) (hx : p.tables.exec = Jvm.exec) {i : Fin 4} {v : UInt64} (hd : decode c.code pc = .ok (.dload_n i, 1)) (hp : pc' = pc + 1) (hl : Ls[i.val]? = some (.val (.double v))) (k : G (T.setTop (mkF m pc' Ls (.double v :: rest)))) : G (T.setTop (mkF m pc Ls (rest))) := by
  subst hp
  refine hG _ _ (fun t ht => ?_) k
  exact XS.dloadN X.here hx rfl hd hl ht
theorem g_dstore (hG : Cl p e below G) (X : Stand p l e R s m args below meth c T locs cells slots) (hx : p.tables.exec = Jvm.exec) {i : Nat} {v : UInt64} (hd : decode c.code pc = .ok (.dstore i, 2)) (hp : pc' = pc + 2) (hl : storeLocals Ls i (.double v) = some Ls') (k : G (T.setTop (mkF m pc' Ls' (rest)))) : G (T.setTop (mkF m pc Ls (.double v :: rest))) := by
  subst hp
  refine hG _ _ (fun t ht => ?_) k
  exact XS.dstore X.here hx rfl hd rfl hl ht
theorem g_dstoreN (hG : Cl p e below G) (X : Stand p l e R s m args below meth c T locs cells slots) (hx : p.tables.exec = Jvm.exec) {i : Fin 4} {v : UInt64} (hd : decode c.code pc = .ok (.dstore_n i, 1)) (hp : pc' = pc + 1) (hl : storeLocals Ls i.val (.double v) = some Ls') (k : G (T.setTop (mkF m pc' Ls' (rest)))) : G (T.setTop (mkF m pc Ls (.double v :: rest))) := by
  subst hp
  refine hG _ _ (fun t ht => ?_) k
  exact XS.dstoreN X.here hx rfl hd rfl hl ht
theorem g_aload (hG : Cl p e below G) (X : Stand p l e R s m args below meth c T locs cells slots) (hx : p.tables.exec = Jvm.exec) {i : Nat} {v : Value} (hd : decode c.code pc = .ok (.aload i, 2)) (hp : pc' = pc + 2) (hl : Ls[i]? = some (.val v)) (hv' : v.isRef = true) (k : G (T.setTop (mkF m pc' Ls (v :: rest)))) : G (T.setTop (mkF m pc Ls (rest))) := by
  subst hp
  refine hG _ _ (fun t ht => ?_) k
  exact XS.aload X.here hx rfl hd hl hv' ht
theorem g_aloadN (hG : Cl p e below G) (X : Stand p l e R s m args below meth c T locs cells slots) (hx : p.tables.exec = Jvm.exec) {i : Fin 4} {v : Value} (hd : decode c.code pc = .ok (.aload_n i, 1)) (hp : pc' = pc + 1) (hl : Ls[i.val]? = some (.val v)) (hv' : v.isRef = true) (k : G (T.setTop (mkF m pc' Ls (v :: rest)))) : G (T.setTop (mkF m pc Ls (rest))) := by
  subst hp
  refine hG _ _ (fun t ht => ?_) k
  exact XS.aloadN X.here hx rfl hd hl hv' ht
theorem g_astore (hG : Cl p e below G) (X : Stand p l e R s m args below meth c T locs cells slots) (hx : p.tables.exec = Jvm.exec) {i : Nat} {v : Value} (hd : decode c.code pc = .ok (.astore i, 2)) (hp : pc' = pc + 2) (hv' : v.isRef = true) (hl : storeLocals Ls i v = some Ls') (k : G (T.setTop (mkF m pc' Ls' (rest)))) : G (T.setTop (mkF m pc Ls (v :: rest))) := by
  subst hp
  refine hG _ _ (fun t ht => ?_) k
  exact XS.astore X.here hx rfl hd rfl hv' hl ht
theorem g_astoreN (hG : Cl p e below G) (X : Stand p l e R s m args below meth c T locs cells slots) (hx : p.tables.exec = Jvm.exec) {i : Fin 4} {v : Value} (hd : decode c.code pc = .ok (.astore_n i, 1)) (hp : pc' = pc + 1) (hv' : v.isRef = true) (hl : storeLocals Ls i.val v = some Ls') (k : G (T.setTop (mkF m pc' Ls' (rest)))) : G (T.setTop (mkF m pc Ls (v :: rest))) := by
  subst hp
  refine hG _ _ (fun t ht => ?_) k
  exact XS.astoreN X.here hx rfl hd rfl hv' hl ht
theorem g_iconst (hG : Cl p e below G) (X : Stand p l e R s m args below meth c T locs cells slots) (hx : p.tables.exec = Jvm.exec) {i : Int} {v : Int32} (hd : decode c.code pc = .ok (.iconst i, 1)) (hp : pc' = pc + 1) (hv : Int32.ofInt i = v) (k : G (T.setTop (mkF m pc' Ls (.int v :: rest)))) : G (T.setTop (mkF m pc Ls (rest))) := by
  subst hp
  subst hv
  refine hG _ _ (fun t ht => ?_) k
  exact XS.iconst X.here hx rfl hd ht
theorem g_bipush (hG : Cl p e below G) (X : Stand p l e R s m args below meth c T locs cells slots) (hx : p.tables.exec = Jvm.exec) {i : Int} {v : Int32} (hd : decode c.code pc = .ok (.bipush i, 2)) (hp : pc' = pc + 2) (hv : (Int8.ofInt i).toInt32 = v) (k : G (T.setTop (mkF m pc' Ls (.int v :: rest)))) : G (T.setTop (mkF m pc Ls (rest))) := by
  subst hp
  subst hv
  refine hG _ _ (fun t ht => ?_) k
  exact XS.bipush X.here hx rfl hd ht
theorem g_sipush (hG : Cl p e below G) (X : Stand p l e R s m args below meth c T locs cells slots) (hx : p.tables.exec = Jvm.exec) {i : Int} {v : Int32} (hd : decode c.code pc = .ok (.sipush i, 3)) (hp : pc' = pc + 3) (hv : (Int16.ofInt i).toInt32 = v) (k : G (T.setTop (mkF m pc' Ls (.int v :: rest)))) : G (T.setTop (mkF m pc Ls (rest))) := by
  subst hp
  subst hv
  refine hG _ _ (fun t ht => ?_) k
  exact XS.sipush X.here hx rfl hd ht
theorem g_lconst (hG : Cl p e below G) (X : Stand p l e R s m args below meth c T locs cells slots) (hx : p.tables.exec = Jvm.exec) {i : Fin 2} {v : Int64} (hd : decode c.code pc = .ok (.lconst i, 1)) (hp : pc' = pc + 1) (hv : Int64.ofNat i.val = v) (k : G (T.setTop (mkF m pc' Ls (.long v :: rest)))) : G (T.setTop (mkF m pc Ls (rest))) := by
  subst hp
  subst hv
  refine hG _ _ (fun t ht => ?_) k
  exact XS.lconst X.here hx rfl hd ht
theorem g_dconst0 (hG : Cl p e below G) (X : Stand p l e R s m args below meth c T locs cells slots) (hx : p.tables.exec = Jvm.exec) {v : UInt64} (hd : decode c.code pc = .ok (.dconst 0, 1)) (hp : pc' = pc + 1) (hv : FP.dconst0 = v) (k : G (T.setTop (mkF m pc' Ls (.double v :: rest)))) : G (T.setTop (mkF m pc Ls (rest))) := by
  subst hp
  subst hv
  refine hG _ _ (fun t ht => ?_) k
  exact XS.dconst0 X.here hx rfl hd rfl ht
theorem g_dconst1 (hG : Cl p e below G) (X : Stand p l e R s m args below meth c T locs cells slots) (hx : p.tables.exec = Jvm.exec) {v : UInt64} (hd : decode c.code pc = .ok (.dconst 1, 1)) (hp : pc' = pc + 1) (hv : FP.dconst1 = v) (k : G (T.setTop (mkF m pc' Ls (.double v :: rest)))) : G (T.setTop (mkF m pc Ls (rest))) := by
  subst hp
  subst hv
  refine hG _ _ (fun t ht => ?_) k
  exact XS.dconst1 X.here hx rfl hd rfl ht
theorem g_aconstNull (hG : Cl p e below G) (X : Stand p l e R s m args below meth c T locs cells slots) (hx : p.tables.exec = Jvm.exec)  (hd : decode c.code pc = .ok (.aconst_null, 1)) (hp : pc' = pc + 1) (k : G (T.setTop (mkF m pc' Ls (.null :: rest)))) : G (T.setTop (mkF m pc Ls (rest))) := by
  subst hp
  refine hG _ _ (fun t ht => ?_) k
  exact XS.aconstNull X.here hx rfl hd ht
theorem g_iadd (hG : Cl p e below G) (X : Stand p l e R s m args below meth c T locs cells slots) (hx : p.tables.exec = Jvm.exec) {x y v : Int32} (hd : decode c.code pc = .ok (.iadd, 1)) (hp : pc' = pc + 1) (hv : x + y = v) (k : G (T.setTop (mkF m pc' Ls (.int v :: rest)))) : G (T.setTop (mkF m pc Ls (.int y :: .int x :: rest))) := by
  subst hp
  subst hv
  refine hG _ _ (fun t ht => ?_) k
  exact XS.iadd X.here hx rfl hd rfl ht
theorem g_ladd (hG : Cl p e below G) (X : Stand p l e R s m args below meth c T locs cells slots) (hx : p.tables.exec = Jvm.exec) {x y v : Int64} (hd : decode c.code pc = .ok (.ladd, 1)) (hp : pc' = pc + 1) (hv : x + y = v) (k : G (T.setTop (mkF m pc' Ls (.long v :: rest)))) : G (T.setTop (mkF m pc Ls (.long y :: .long x :: rest))) := by
  subst hp
  subst hv
  refine hG _ _ (fun t ht => ?_) k
  exact XS.ladd X.here hx rfl hd rfl ht
theorem g_isub (hG : Cl p e below G) (X : Stand p l e R s m args below meth c T locs cells slots) (hx : p.tables.exec = Jvm.exec) {x y v : Int32} (hd : decode c.code pc = .ok (.isub, 1)) (hp : pc' = pc + 1) (hv : x - y = v) (k : G (T.setTop (mkF m pc' Ls (.int v :: rest)))) : G (T.setTop (mkF m pc Ls (.int y :: .int x :: rest))) := by
  subst hp
  subst hv
  refine hG _ _ (fun t ht => ?_) k
  exact XS.isub X.here hx rfl hd rfl ht
theorem g_lsub (hG : Cl p e below G) (X : Stand p l e R s m args below meth c T locs cells slots) (hx : p.tables.exec = Jvm.exec) {x y v : Int64} (hd : decode c.code pc = .ok (.lsub, 1)) (hp : pc' = pc + 1) (hv : x - y = v) (k : G (T.setTop (mkF m pc' Ls (.long v :: rest)))) : G (T.setTop (mkF m pc Ls (.long y :: .long x :: rest))) := by
  subst hp
  subst hv
  refine hG _ _ (fun t ht => ?_) k
  exact XS.lsub X.here hx rfl hd rfl ht
theorem g_imul (hG : Cl p e below G) (X : Stand p l e R s m args below meth c T locs cells slots) (hx : p.tables.exec = Jvm.exec) {x y v : Int32} (hd : decode c.code pc = .ok (.imul, 1)) (hp : pc' = pc + 1) (hv : x * y = v) (k : G (T.setTop (mkF m pc' Ls (.int v :: rest)))) : G (T.setTop (mkF m pc Ls (.int y :: .int x :: rest))) := by
  subst hp
  subst hv
  refine hG _ _ (fun t ht => ?_) k
  exact XS.imul X.here hx rfl hd rfl ht
theorem g_lmul (hG : Cl p e below G) (X : Stand p l e R s m args below meth c T locs cells slots) (hx : p.tables.exec = Jvm.exec) {x y v : Int64} (hd : decode c.code pc = .ok (.lmul, 1)) (hp : pc' = pc + 1) (hv : x * y = v) (k : G (T.setTop (mkF m pc' Ls (.long v :: rest)))) : G (T.setTop (mkF m pc Ls (.long y :: .long x :: rest))) := by
  subst hp
  subst hv
  refine hG _ _ (fun t ht => ?_) k
  exact XS.lmul X.here hx rfl hd rfl ht
theorem g_iand (hG : Cl p e below G) (X : Stand p l e R s m args below meth c T locs cells slots) (hx : p.tables.exec = Jvm.exec) {x y v : Int32} (hd : decode c.code pc = .ok (.iand, 1)) (hp : pc' = pc + 1) (hv : x &&& y = v) (k : G (T.setTop (mkF m pc' Ls (.int v :: rest)))) : G (T.setTop (mkF m pc Ls (.int y :: .int x :: rest))) := by
  subst hp
  subst hv
  refine hG _ _ (fun t ht => ?_) k
  exact XS.iand X.here hx rfl hd rfl ht
theorem g_land (hG : Cl p e below G) (X : Stand p l e R s m args below meth c T locs cells slots) (hx : p.tables.exec = Jvm.exec) {x y v : Int64} (hd : decode c.code pc = .ok (.land, 1)) (hp : pc' = pc + 1) (hv : x &&& y = v) (k : G (T.setTop (mkF m pc' Ls (.long v :: rest)))) : G (T.setTop (mkF m pc Ls (.long y :: .long x :: rest))) := by
  subst hp
  subst hv
  refine hG _ _ (fun t ht => ?_) k
  exact XS.land X.here hx rfl hd rfl ht
theorem g_ior (hG : Cl p e below G) (X : Stand p l e R s m args below meth c T locs cells slots) (hx : p.tables.exec = Jvm.exec) {x y v : Int32} (hd : decode c.code pc = .ok (.ior, 1)) (hp : pc' = pc + 1) (hv : x ||| y = v) (k : G (T.setTop (mkF m pc' Ls (.int v :: rest)))) : G (T.setTop (mkF m pc Ls (.int y :: .int x :: rest))) := by
  subst hp
  subst hv
  refine hG _ _ (fun t ht => ?_) k
  exact XS.ior X.here hx rfl hd rfl ht
theorem g_lor (hG : Cl p e below G) (X : Stand p l e R s m args below meth c T locs cells slots) (hx : p.tables.exec = Jvm.exec) {x y v : Int64} (hd : decode c.code pc = .ok (.lor, 1)) (hp : pc' = pc + 1) (hv : x ||| y = v) (k : G (T.setTop (mkF m pc' Ls (.long v :: rest)))) : G (T.setTop (mkF m pc Ls (.long y :: .long x :: rest))) := by
  subst hp
  subst hv
  refine hG _ _ (fun t ht => ?_) k
  exact XS.lor X.here hx rfl hd rfl ht
theorem g_ixor (hG : Cl p e below G) (X : Stand p l e R s m args below meth c T locs cells slots) (hx : p.tables.exec = Jvm.exec) {x y v : Int32} (hd : decode c.code pc = .ok (.ixor, 1)) (hp : pc' = pc + 1) (hv : x ^^^ y = v) (k : G (T.setTop (mkF m pc' Ls (.int v :: rest)))) : G (T.setTop (mkF m pc Ls (.int y :: .int x :: rest))) := by
  subst hp
  subst hv
  refine hG _ _ (fun t ht => ?_) k
  exact XS.ixor X.here hx rfl hd rfl ht
theorem g_lxor (hG : Cl p e below G) (X : Stand p l e R s m args below meth c T locs cells slots) (hx : p.tables.exec = Jvm.exec) {x y v : Int64} (hd : decode c.code pc = .ok (.lxor, 1)) (hp : pc' = pc + 1) (hv : x ^^^ y = v) (k : G (T.setTop (mkF m pc' Ls (.long v :: rest)))) : G (T.setTop (mkF m pc Ls (.long y :: .long x :: rest))) := by
  subst hp
  subst hv
  refine hG _ _ (fun t ht => ?_) k
  exact XS.lxor X.here hx rfl hd rfl ht
theorem g_ineg (hG : Cl p e below G) (X : Stand p l e R s m args below meth c T locs cells slots) (hx : p.tables.exec = Jvm.exec) {x v : Int32} (hd : decode c.code pc = .ok (.ineg, 1)) (hp : pc' = pc + 1) (hv : -x = v) (k : G (T.setTop (mkF m pc' Ls (.int v :: rest)))) : G (T.setTop (mkF m pc Ls (.int x :: rest))) := by
  subst hp
  subst hv
  refine hG _ _ (fun t ht => ?_) k
  exact XS.ineg X.here hx rfl hd rfl ht
theorem g_lneg (hG : Cl p e below G) (X : Stand p l e R s m args below meth c T locs cells slots) (hx : p.tables.exec = Jvm.exec) {x v : Int64} (hd : decode c.code pc = .ok (.lneg, 1)) (hp : pc' = pc + 1) (hv : -x = v) (k : G (T.setTop (mkF m pc' Ls (.long v :: rest)))) : G (T.setTop (mkF m pc Ls (.long x :: rest))) := by
  subst hp
  subst hv
  refine hG _ _ (fun t ht => ?_) k
  exact XS.lneg X.here hx rfl hd rfl ht
theorem g_i2l (hG : Cl p e below G) (X : Stand p l e R s m args below meth c T locs cells slots) (hx : p.tables.exec = Jvm.exec) {x : Int32} {v : Int64} (hd : decode c.code pc = .ok (.i2l, 1)) (hp : pc' = pc + 1) (hv : x.toInt64 = v) (k : G (T.setTop (mkF m pc' Ls (.long v :: rest)))) : G (T.setTop (mkF m pc Ls (.int x :: rest))) := by
  subst hp
  subst hv
  refine hG _ _ (fun t ht => ?_) k
  exact XS.i2l X.here hx rfl hd rfl ht
theorem g_l2i (hG : Cl p e below G) (X : Stand p l e R s m args below meth c T locs cells slots) (hx : p.tables.exec = Jvm.exec) {x : Int64} {v : Int32} (hd : decode c.code pc = .ok (.l2i, 1)) (hp : pc' = pc + 1) (hv : x.toInt32 = v) (k : G (T.setTop (mkF m pc' Ls (.int v :: rest)))) : G (T.setTop (mkF m pc Ls (.long x :: rest))) := by
  subst hp
  subst hv
  refine hG _ _ (fun t ht => ?_) k
  exact XS.l2i X.here hx rfl hd rfl ht
theorem g_i2c (hG : Cl p e below G) (X : Stand p l e R s m args below meth c T locs cells slots) (hx : p.tables.exec = Jvm.exec) {x v : Int32} (hd : decode c.code pc = .ok (.i2c, 1)) (hp : pc' = pc + 1) (hv : x.toUInt32.toUInt16.toUInt32.toInt32 = v) (k : G (T.setTop (mkF m pc' Ls (.int v :: rest)))) : G (T.setTop (mkF m pc Ls (.int x :: rest))) := by
  subst hp
  subst hv
  refine hG _ _ (fun t ht => ?_) k
  exact XS.i2c X.here hx rfl hd rfl ht
theorem g_i2b (hG : Cl p e below G) (X : Stand p l e R s m args below meth c T locs cells slots) (hx : p.tables.exec = Jvm.exec) {x v : Int32} (hd : decode c.code pc = .ok (.i2b, 1)) (hp : pc' = pc + 1) (hv : x.toInt8.toInt32 = v) (k : G (T.setTop (mkF m pc' Ls (.int v :: rest)))) : G (T.setTop (mkF m pc Ls (.int x :: rest))) := by
  subst hp
  subst hv
  refine hG _ _ (fun t ht => ?_) k
  exact XS.i2b X.here hx rfl hd rfl ht
theorem g_ishl (hG : Cl p e below G) (X : Stand p l e R s m args below meth c T locs cells slots) (hx : p.tables.exec = Jvm.exec) {x y v : Int32} (hd : decode c.code pc = .ok (.ishl, 1)) (hp : pc' = pc + 1) (hv : x <<< (y &&& 31) = v) (k : G (T.setTop (mkF m pc' Ls (.int v :: rest)))) : G (T.setTop (mkF m pc Ls (.int y :: .int x :: rest))) := by
  subst hp
  subst hv
  refine hG _ _ (fun t ht => ?_) k
  exact XS.ishl X.here hx rfl hd rfl ht
theorem g_ishr (hG : Cl p e below G) (X : Stand p l e R s m args below meth c T locs cells slots) (hx : p.tables.exec = Jvm.exec) {x y v : Int32} (hd : decode c.code pc = .ok (.ishr, 1)) (hp : pc' = pc + 1) (hv : x >>> (y &&& 31) = v) (k : G (T.setTop (mkF m pc' Ls (.int v :: rest)))) : G (T.setTop (mkF m pc Ls (.int y :: .int x :: rest))) := by
  subst hp
  subst hv
  refine hG _ _ (fun t ht => ?_) k
  exact XS.ishr X.here hx rfl hd rfl ht
theorem g_iushr (hG : Cl p e below G) (X : Stand p l e R s m args below meth c T locs cells slots) (hx : p.tables.exec = Jvm.exec) {x y v : Int32} (hd : decode c.code pc = .ok (.iushr, 1)) (hp : pc' = pc + 1) (hv : (x.toUInt32 >>> (y &&& 31).toUInt32).toInt32 = v) (k : G (T.setTop (mkF m pc' Ls (.int v :: rest)))) : G (T.setTop (mkF m pc Ls (.int y :: .int x :: rest))) := by
  subst hp
  subst hv
  refine hG _ _ (fun t ht => ?_) k
  exact XS.iushr X.here hx rfl hd rfl ht
theorem g_lshl (hG : Cl p e below G) (X : Stand p l e R s m args below meth c T locs cells slots) (hx : p.tables.exec = Jvm.exec) {x : Int64} {y : Int32} {v : Int64} (hd : decode c.code pc = .ok (.lshl, 1)) (hp : pc' = pc + 1) (hv : x <<< (y &&& 0x3f).toInt64 = v) (k : G (T.setTop (mkF m pc' Ls (.long v :: rest)))) : G (T.setTop (mkF m pc Ls (.int y :: .long x :: rest))) := by
  subst hp
  subst hv
  refine hG _ _ (fun t ht => ?_) k
  exact XS.lshl X.here hx rfl hd rfl ht
theorem g_lshr (hG : Cl p e below G) (X : Stand p l e R s m args below meth c T locs cells slots) (hx : p.tables.exec = Jvm.exec) {x : Int64} {y : Int32} {v : Int64} (hd : decode c.code pc = .ok (.lshr, 1)) (hp : pc' = pc + 1) (hv : x >>> (y &&& 0x3f).toInt64 = v) (k : G (T.setTop (mkF m pc' Ls (.long v :: rest)))) : G (T.setTop (mkF m pc Ls (.int y :: .long x :: rest))) := by
  subst hp
  subst hv
  refine hG _ _ (fun t ht => ?_) k
  exact XS.lshr X.here hx rfl hd rfl ht
theorem g_lcmp (hG : Cl p e below G) (X : Stand p l e R s m args below meth c T locs cells slots) (hx : p.tables.exec = Jvm.exec) {x y : Int64} {v : Int32} (hd : decode c.code pc = .ok (.lcmp, 1)) (hp : pc' = pc + 1) (hv : lcmpW x y = v) (k : G (T.setTop (mkF m pc' Ls (.int v :: rest)))) : G (T.setTop (mkF m pc Ls (.long y :: .long x :: rest))) := by
  subst hp
  subst hv
  refine hG _ _ (fun t ht => ?_) k
  exact XS.lcmp X.here hx rfl hd rfl ht
theorem g_irem (hG : Cl p e below G) (X : Stand p l e R s m args below meth c T locs cells slots) (hx : p.tables.exec = Jvm.exec) {x y v : Int32} (hd : decode c.code pc = .ok (.irem, 1)) (hp : pc' = pc + 1) (hy : y ≠ 0) (hv : x % y = v) (k : G (T.setTop (mkF m pc' Ls (.int v :: rest)))) : G (T.setTop (mkF m pc Ls (.int y :: .int x :: rest))) := by
  subst hp
  subst hv
  refine hG _ _ (fun t ht => ?_) k
  exact iremM X hx rfl hd rfl hy ht
theorem g_lrem (hG : Cl p e below G) (X : Stand p l e R s m args below meth c T locs cells slots) (hx : p.tables.exec = Jvm.exec) {x y v : Int64} (hd : decode c.code pc = .ok (.lrem, 1)) (hp : pc' = pc + 1) (hy : y ≠ 0) (hv : x % y = v) (k : G (T.setTop (mkF m pc' Ls (.long v :: rest)))) : G (T.setTop (mkF m pc Ls (.long y :: .long x :: rest))) := by
  subst hp hv
  rw [← lrem_mod] at k
  refine hG _ _ (fun t ht => ?_) k
  exact XS.lrem X.here hx rfl hd rfl hy ht
theorem g_idiv (hG : Cl p e below G) (X : Stand p l e R s m args below meth c T locs cells slots) (hx : p.tables.exec = Jvm.exec) {x y v : Int32} (hd : decode c.code pc = .ok (.idiv, 1)) (hp : pc' = pc + 1) (hy : y ≠ 0) (hv : x / y = v) (k : G (T.setTop (mkF m pc' Ls (.int v :: rest)))) : G (T.setTop (mkF m pc Ls (.int y :: .int x :: rest))) := by
  subst hp
  subst hv
  refine hG _ _ (fun t ht => ?_) k
  exact XS.idiv X.here hx rfl hd rfl hy ht
theorem g_dup (hG : Cl p e below G) (X : Stand p l e R s m args below meth c T locs cells slots) (hx : p.tables.exec = Jvm.exec) {x : Value} (hd : decode c.code pc = .ok (.dup, 1)) (hp : pc' = pc + 1) (hc : x.category = 1) (k : G (T.setTop (mkF m pc' Ls (x :: x :: rest)))) : G (T.setTop (mkF m pc Ls (x :: rest))) := by
  subst hp
  refine hG _ _ (fun t ht => ?_) k
  exact XS.dup X.here hx rfl hd rfl hc ht
theorem g_pop (hG : Cl p e below G) (X : Stand p l e R s m args below meth c T locs cells slots) (hx : p.tables.exec = Jvm.exec) {x : Value} (hd : decode c.code pc = .ok (.pop, 1)) (hp : pc' = pc + 1) (hc : x.category = 1) (k : G (T.setTop (mkF m pc' Ls (rest)))) : G (T.setTop (mkF m pc Ls (x :: rest))) := by
  subst hp
  refine hG _ _ (fun t ht => ?_) k
  exact XS.pop X.here hx rfl hd rfl hc ht
theorem g_dupX1 (hG : Cl p e below G) (X : Stand p l e R s m args below meth c T locs cells slots) (hx : p.tables.exec = Jvm.exec) {x y : Value} (hd : decode c.code pc = .ok (.dup_x1, 1)) (hp : pc' = pc + 1) (hc : x.category = 1) (hc' : y.category = 1) (k : G (T.setTop (mkF m pc' Ls (x :: y :: x :: rest)))) : G (T.setTop (mkF m pc Ls (x :: y :: rest))) := by
  subst hp
  refine hG _ _ (fun t ht => ?_) k
  exact XS.dupX1 X.here hx rfl hd rfl hc hc' ht
theorem g_dup2 (hG : Cl p e below G) (X : Stand p l e R s m args below meth c T locs cells slots) (hx : p.tables.exec = Jvm.exec) {x y : Value} (hd : decode c.code pc = .ok (.dup2, 1)) (hp : pc' = pc + 1) (hc : x.category = 1) (hc' : y.category = 1) (k : G (T.setTop (mkF m pc' Ls (x :: y :: x :: y :: rest)))) : G (T.setTop (mkF m pc Ls (x :: y :: rest))) := by
  subst hp
  refine hG _ _ (fun t ht => ?_) k
  exact Jvm.Free.XT.dup2 X.here hx rfl hd rfl hc hc' ht
theorem g_iinc (hG : Cl p e below G) (X : Stand p l e R s m args below meth c T locs cells slots) (hx : p.tables.exec = Jvm.exec) {i : Nat} {cst : Int} {x v : Int32} (hd : decode c.code pc = .ok (.iinc i cst, 3)) (hp : pc' = pc + 3) (hl : Ls[i]? = some (.val (.int x))) (hv : x + Int32.ofInt cst = v) (hl' : storeLocals Ls i (.int v) = some Ls') (k : G (T.setTop (mkF m pc' Ls' (rest)))) : G (T.setTop (mkF m pc Ls (rest))) := by
  subst hp
  subst hv
  refine hG _ _ (fun t ht => ?_) k
  exact XS.iinc X.here hx rfl hd hl hl' ht
theorem g_i2d (hG : Cl p e below G) (X : Stand p l e R s m args below meth c T locs cells slots) (hx : p.tables.exec = Jvm.exec) {x : Int32} {v : UInt64} (hd : decode c.code pc = .ok (.i2d, 1)) (hp : pc' = pc + 1) (hv : FP.i2d x = v) (k : G (T.setTop (mkF m pc' Ls (.double v :: rest)))) : G (T.setTop (mkF m pc Ls (.int x :: rest))) := by
  subst hp
  subst hv
  refine hG _ _ (fun t ht => ?_) k
  exact XS.i2dS X.here hx rfl hd rfl rfl ht
theorem g_l2d (hG : Cl p e below G) (X : Stand p l e R s m args below meth c T locs cells slots) (hx : p.tables.exec = Jvm.exec) {x : Int64} {v : UInt64} (hd : decode c.code pc = .ok (.l2d, 1)) (hp : pc' = pc + 1) (hv : FP.l2d x = v) (k : G (T.setTop (mkF m pc' Ls (.double v :: rest)))) : G (T.setTop (mkF m pc Ls (.long x :: rest))) := by
  subst hp
  subst hv
  refine hG _ _ (fun t ht => ?_) k
  exact XS.l2dS X.here hx rfl hd rfl rfl ht
theorem g_d2i (hG : Cl p e below G) (X : Stand p l e R s m args below meth c T locs cells slots) (hx : p.tables.exec = Jvm.exec) {x : UInt64} {v : Int32} (hd : decode c.code pc = .ok (.d2i, 1)) (hp : pc' = pc + 1) (hv : FP.d2i x = v) (k : G (T.setTop (mkF m pc' Ls (.int v :: rest)))) : G (T.setTop (mkF m pc Ls (.double x :: rest))) := by
  subst hp
  subst hv
  refine hG _ _ (fun t ht => ?_) k
  exact XS.d2iS X.here hx rfl hd rfl rfl ht
theorem g_d2l (hG : Cl p e below G) (X : Stand p l e R s m args below meth c T locs cells slots) (hx : p.tables.exec = Jvm.exec) {x : UInt64} {v : Int64} (hd : decode c.code pc = .ok (.d2l, 1)) (hp : pc' = pc + 1) (hv : FP.d2l x = v) (k : G (T.setTop (mkF m pc' Ls (.long v :: rest)))) : G (T.setTop (mkF m pc Ls (.double x :: rest))) := by
  subst hp
  subst hv
  refine hG _ _ (fun t ht => ?_) k
  exact XS.d2lS X.here hx rfl hd rfl rfl ht
theorem g_dneg (hG : Cl p e below G) (X : Stand p l e R s m args below meth c T locs cells slots) (hx : p.tables.exec = Jvm.exec) {x v : UInt64} (hd : decode c.code pc = .ok (.dneg, 1)) (hp : pc' = pc + 1) (hv : FP.dneg x = v) (k : G (T.setTop (mkF m pc' Ls (.double v :: rest)))) : G (T.setTop (mkF m pc Ls (.double x :: rest))) := by
  subst hp
  subst hv
  refine hG _ _ (fun t ht => ?_) k
  exact XS.dnegS X.here hx rfl hd rfl rfl ht
theorem g_dcmp (hG : Cl p e below G) (X : Stand p l e R s m args below meth c T locs cells slots) (hx : p.tables.exec = Jvm.exec) {x y : UInt64} {o : CmpOp} {v : Int32} (hd : decode c.code pc = .ok (.dcmp o, 1)) (hp : pc' = pc + 1) (hv : cmpValue (FP.dcmp x y) o = v) (k : G (T.setTop (mkF m pc' Ls (.int v :: rest)))) : G (T.setTop (mkF m pc Ls (.double y :: .double x :: rest))) := by
  subst hp
  subst hv
  refine hG _ _ (fun t ht => ?_) k
  exact XS.dcmpS X.here hx rfl hd rfl rfl ht
theorem g_dadd (hG : Cl p e below G) (X : Stand p l e R s m args below meth c T locs cells slots) (hx : p.tables.exec = Jvm.exec) {x y v : UInt64} (hd : decode c.code pc = .ok (.dadd, 1)) (hp : pc' = pc + 1) (hn : Jvm.Free.Fl.NoNaN64 (FP.dadd x y)) (hv : FP.dadd x y = v) (k : G (T.setTop (mkF m pc' Ls (.double v :: rest)))) : G (T.setTop (mkF m pc Ls (.double y :: .double x :: rest))) := by
  subst hp
  subst hv
  refine hG _ _ (fun t ht => ?_) k
  exact XS.daddS X.here hx rfl hd rfl hn rfl ht
theorem g_dsub (hG : Cl p e below G) (X : Stand p l e R s m args below meth c T locs cells slots) (hx : p.tables.exec = Jvm.exec) {x y v : UInt64} (hd : decode c.code pc = .ok (.dsub, 1)) (hp : pc' = pc + 1) (hn : Jvm.Free.Fl.NoNaN64 (FP.dsub x y)) (hv : FP.dsub x y = v) (k : G (T.setTop (mkF m pc' Ls (.double v :: rest)))) : G (T.setTop (mkF m pc Ls (.double y :: .double x :: rest))) := by
  subst hp
  subst hv
  refine hG _ _ (fun t ht => ?_) k
  exact XS.dsubS X.here hx rfl hd rfl hn rfl ht
theorem g_dmul (hG : Cl p e below G) (X : Stand p l e R s m args below meth c T locs cells slots) (hx : p.tables.exec = Jvm.exec) {x y v : UInt64} (hd : decode c.code pc = .ok (.dmul, 1)) (hp : pc' = pc + 1) (hn : Jvm.Free.Fl.NoNaN64 (FP.dmul x y)) (hv : FP.dmul x y = v) (k : G (T.setTop (mkF m pc' Ls (.double v :: rest)))) : G (T.setTop (mkF m pc Ls (.double y :: .double x :: rest))) := by
  subst hp
  subst hv
  refine hG _ _ (fun t ht => ?_) k
  exact XS.dmulS X.here hx rfl hd rfl hn rfl ht
theorem g_ddiv (hG : Cl p e below G) (X : Stand p l e R s m args below meth c T locs cells slots) (hx : p.tables.exec = Jvm.exec) {x y v : UInt64} (hd : decode c.code pc = .ok (.ddiv, 1)) (hp : pc' = pc + 1) (hn : Jvm.Free.Fl.NoNaN64 (FP.ddiv x y)) (hv : FP.ddiv x y = v) (k : G (T.setTop (mkF m pc' Ls (.double v :: rest)))) : G (T.setTop (mkF m pc Ls (.double y :: .double x :: rest))) := by
  subst hp
  subst hv
  refine hG _ _ (fun t ht => ?_) k
  exact XS.ddivS X.here hx rfl hd rfl hn rfl ht
theorem g_goto (hG : Cl p e below G) (X : Stand p l e R s m args below meth c T locs cells slots) (hx : p.tables.exec = Jvm.exec) {o : Int} (hd : decode c.code pc = .ok (.goto o, 3)) (ho : 0 ≤ (pc : Int) + o) (hp : ((pc : Int) + o).toNat = pc') (k : G (T.setTop (mkF m pc' Ls rest))) : G (T.setTop (mkF m pc Ls rest)) := by
  refine hG _ _ (fun t ht => ?_) k
  exact XS.goto X.here hx rfl (pc0 := pc) rfl hd ho hp ht
theorem g_ifYes (hG : Cl p e below G) (X : Stand p l e R s m args below meth c T locs cells slots) (hx : p.tables.exec = Jvm.exec) {cd : ClassFile.Cond} {x : Int32} {o : Int} (hd : decode c.code pc = .ok (.ifCond cd o, 3)) (hc : ifCond.holds cd x = true) (ho : 0 ≤ (pc : Int) + o) (hp : ((pc : Int) + o).toNat = pc') (k : G (T.setTop (mkF m pc' Ls rest))) : G (T.setTop (mkF m pc Ls (.int x :: rest))) := by
  refine hG _ _ (fun t ht => ?_) k
  exact XS.ifYes X.here hx rfl (pc0 := pc) rfl hd rfl hc ho hp ht
theorem g_ifNo (hG : Cl p e below G) (X : Stand p l e R s m args below meth c T locs cells slots) (hx : p.tables.exec = Jvm.exec) {cd : ClassFile.Cond} {x : Int32} {o : Int} (hd : decode c.code pc = .ok (.ifCond cd o, 3)) (hc : ifCond.holds cd x = false) (hp : pc' = pc + 3) (k : G (T.setTop (mkF m pc' Ls rest))) : G (T.setTop (mkF m pc Ls (.int x :: rest))) := by
  subst hp
  refine hG _ _ (fun t ht => ?_) k
  exact XS.ifNo X.here hx rfl hd rfl hc ht
theorem g_icmpYes (hG : Cl p e below G) (X : Stand p l e R s m args below meth c T locs cells slots) (hx : p.tables.exec = Jvm.exec) {cd : ClassFile.Cond} {x y : Int32} {o : Int} (hd : decode c.code pc = .ok (.if_icmp cd o, 3)) (hc : if_icmp.holds cd x y = true) (ho : 0 ≤ (pc : Int) + o) (hp : ((pc : Int) + o).toNat = pc') (k : G (T.setTop (mkF m pc' Ls rest))) : G (T.setTop (mkF m pc Ls (.int y :: .int x :: rest))) := by
  refine hG _ _ (fun t ht => ?_) k
  exact XS.icmpYes X.here hx rfl (pc0 := pc) rfl hd rfl hc ho hp ht
theorem g_icmpNo (hG : Cl p e below G) (X : Stand p l e R s m args below meth c T locs cells slots) (hx : p.tables.exec = Jvm.exec) {cd : ClassFile.Cond} {x y : Int32} {o : Int} (hd : decode c.code pc = .ok (.if_icmp cd o, 3)) (hc : if_icmp.holds cd x y = false) (hp : pc' = pc + 3) (k : G (T.setTop (mkF m pc' Ls rest))) : G (T.setTop (mkF m pc Ls (.int y :: .int x :: rest))) := by
  subst hp
  refine hG _ _ (fun t ht => ?_) k
  exact XS.icmpNo X.here hx rfl hd rfl hc ht
theorem g_ifnullYes (hG : Cl p e below G) (X : Stand p l e R s m args below meth c T locs cells slots) (hx : p.tables.exec = Jvm.exec) {o : Int} (hd : decode c.code pc = .ok (.ifnull o, 3)) (ho : 0 ≤ (pc : Int) + o) (hp : ((pc : Int) + o).toNat = pc') (k : G (T.setTop (mkF m pc' Ls rest))) : G (T.setTop (mkF m pc Ls (.null :: rest))) := by
  refine hG _ _ (fun t ht => ?_) k
  exact XS.ifnullYes X.here hx rfl (pc0 := pc) rfl hd rfl ho hp ht
theorem g_ifnullNo (hG : Cl p e below G) (X : Stand p l e R s m args below meth c T locs cells slots) (hx : p.tables.exec = Jvm.exec) {o : Int} {b : Addr} (hd : decode c.code pc = .ok (.ifnull o, 3)) (hp : pc' = pc + 3) (k : G (T.setTop (mkF m pc' Ls rest))) : G (T.setTop (mkF m pc Ls (.ref b :: rest))) := by
  subst hp
  refine hG _ _ (fun t ht => ?_) k
  exact XS.ifnullNo X.here hx rfl hd rfl ht
theorem g_ifnonnullYes (hG : Cl p e below G) (X : Stand p l e R s m args below meth c T locs cells slots) (hx : p.tables.exec = Jvm.exec) {o : Int} {b : Addr} (hd : decode c.code pc = .ok (.ifnonnull o, 3)) (ho : 0 ≤ (pc : Int) + o) (hp : ((pc : Int) + o).toNat = pc') (k : G (T.setTop (mkF m pc' Ls rest))) : G (T.setTop (mkF m pc Ls (.ref b :: rest))) := by
  refine hG _ _ (fun t ht => ?_) k
  exact XS.ifnonnullYes X.here hx rfl (pc0 := pc) rfl hd rfl ho hp ht
theorem g_ifnonnullNo (hG : Cl p e below G) (X : Stand p l e R s m args below meth c T locs cells slots) (hx : p.tables.exec = Jvm.exec) {o : Int} (hd : decode c.code pc = .ok (.ifnonnull o, 3)) (hp : pc' = pc + 3) (k : G (T.setTop (mkF m pc' Ls rest))) : G (T.setTop (mkF m pc Ls (.null :: rest))) := by
  subst hp
  refine hG _ _ (fun t ht => ?_) k
  exact XS.ifnonnullNo X.here hx rfl hd rfl ht
theorem g_acmp (hG : Cl p e below G) (X : Stand p l e R s m args below meth c T locs cells slots) (hx : p.tables.exec = Jvm.exec) {cd : ACond} {x y : Value} (h1 : x.isRef = true) (h2 : y.isRef = true) {o : Int} {same : Bool} (hd : decode c.code pc = .ok (.if_acmp cd o, 3)) (hq : decide (x = y) = same) (ho : 0 ≤ (pc : Int) + o) (hp : pc' = if acV cd same = true then ((pc : Int) + o).toNat else pc + 3) (k : G (T.setTop (mkF m pc' Ls rest))) : G (T.setTop (mkF m pc Ls (y :: x :: rest))) := by
  refine hG _ _ (fun t ht => ?_) k
  exact Jvm.RoadKit.acmp (g := mkF m pc Ls (y :: x :: rest)) X hx rfl h1 h2 (pc0 := pc) rfl hd rfl hq ho hp ht
/-! constants -/
theorem g_ldcInt (hG : Cl p e below G) (X : Stand p l e R s m args below meth c T locs cells slots) (hx : p.tables.exec = Jvm.exec) (hZ : Z.Warmed39 s.vm) {own : String} {index : Nat} {v : Int32} (hown : s.vm.findClass own = some m.cls) (w : (Jvm.Cond.constant own index v).before a0 Z = true) (hd : decode c.code pc = .ok (.ldc index, 2)) (hp : pc' = pc + 2) (k : G (T.setTop (mkF m pc' Ls (.int v :: rest)))) : G (T.setTop (mkF m pc Ls rest)) := by
  subst hp
  refine hG _ _ (fun t ht => ?_) k
  exact X.ldcInt hx hown (mvT hZ w) (g := mkF m pc Ls rest) rfl hd t ht
theorem g_ldcLong (hG : Cl p e below G) (X : Stand p l e R s m args below meth c T locs cells slots) (hx : p.tables.exec = Jvm.exec) (hZ : Z.Warmed39 s.vm) {own : String} {index : Nat} {v : Int64} (hown : s.vm.findClass own = some m.cls) (w : (Jvm.Cond.constantLong own index v).before a0 Z = true) (hd : decode c.code pc = .ok (.ldc2_w index, 3)) (hp : pc' = pc + 3) (k : G (T.setTop (mkF m pc' Ls (.long v :: rest)))) : G (T.setTop (mkF m pc Ls rest)) := by
  subst hp
  refine hG _ _ (fun t ht => ?_) k
  exact X.ldc2Long hx hown (mvT hZ w) (g := mkF m pc Ls rest) rfl hd t ht
theorem g_ldcDouble (hG : Cl p e below G) (X : Stand p l e R s m args below meth c T locs cells slots) (hx : p.tables.exec = Jvm.exec) (hZ : Z.Warmed39 s.vm) {own : String} {index : Nat} {v : UInt64} (hown : s.vm.findClass own = some m.cls) (w : (Jvm.Cond.constantDouble own index v).before a0 Z = true) (hd : decode c.code pc = .ok (.ldc2_w index, 3)) (hp : pc' = pc + 3) (k : G (T.setTop (mkF m pc' Ls (.double v :: rest)))) : G (T.setTop (mkF m pc Ls rest)) := by
  subst hp
  refine hG _ _ (fun t ht => ?_) k
  exact X.ldc2DoubleC hx hown (mvT hZ w) (g := mkF m pc Ls rest) rfl hd t ht
/-! fields -/
theorem g_getF (hG : Cl p e below G) (X : Stand p l e R s m args below meth c T locs cells slots) (hx : p.tables.exec = Jvm.exec) (hZ : Z.Warmed39 s.vm) {own R0 O n d : String} {index : Nat} (hown : s.vm.findClass own = some m.cls) (w : (Jvm.Cond.fieldLink own index R0 n d).before a0 Z = true) (via : Via Z R0 O n d) (eT : T.heap = h) {a : Addr} {v : Value} (F : Fld Z h a O n d v) (hd : decode c.code pc = .ok (.getfield index, 3)) (hp : pc' = pc + 3)
    (k : ∀ T', Stand p l e R s m args below meth c T' locs cells slots → T'.heap = h → G (T'.setTop (mkF m pc' Ls (v :: rest)))) : G (T.setTop (mkF m pc Ls (.ref a :: rest))) := by
  subst hp
  obtain ⟨T', X', e', st⟩ := getF X hx hZ hown (host := "") (Or.inl w) via eT F (g := mkF m pc Ls (.ref a :: rest)) rfl rfl hd
  exact hG _ _ st (k T' X' e')
theorem g_putF (hG : Cl p e below G) (X : Stand p l e R s m args below meth c T locs cells slots) (hx : p.tables.exec = Jvm.exec) (hZ : Z.Warmed39 s.vm) {own R0 O n d C : String} {index kk : Nat} {ty : FieldType} (hown : s.vm.findClass own = some m.cls) (w : (Jvm.Cond.fieldLink own index R0 n d).before a0 Z = true) (via : Via Z R0 O n d) (eT : T.heap = h) {a : Addr} {v v' old : Value} (F : Fld Z h a O n d old) (E : Exa Z h a C)
    (L : (Jvm.Cond.lays C O n d).before a0 Z = true ∨ ((Jvm.Cond.laysFinal C O n d).before a0 Z = true ∧ own = O ∧ meth.name = "<init>")) (wi : (Jvm.Cond.instantiable C kk).before a0 Z = true) (hty : parseFieldDescriptor d = some ty) (hn : narrow ty v = v') (hf : fits ty v' = true) (hd : decode c.code pc = .ok (.putfield index, 3)) (hp : pc' = pc + 3)
    (k : ∀ T' h', Stand p l e R s m args below meth c T' (locs ++ [⟨a, Jvm.RoadKit.slotOf Z O n d⟩]) cells slots → T'.heap = h' → Wr h h' a (Jvm.RoadKit.slotOf Z O n d) v' → G (T'.setTop (mkF m pc' Ls rest))) : G (T.setTop (mkF m pc Ls (v :: .ref a :: rest))) := by
  subst hp
  obtain ⟨T', h', X', e', W, st⟩ := putFN X hx hZ hown w via eT F E L wi hty hn hf (g := mkF m pc Ls (v :: .ref a :: rest)) rfl rfl hd
  exact hG _ _ st (k T' h' X' e' W)
theorem g_newO (hG : Cl p e below G) (X : Stand p l e R s m args below meth c T locs cells slots) (hx : p.tables.exec = Jvm.exec) (hZ : Z.Warmed39 s.vm) {own C : String} {index n : Nat} (hown : s.vm.findClass own = some m.cls) (w : (Jvm.Cond.classLink own index C).before a0 Z = true) (wi : (Jvm.Cond.instantiable C n).before a0 Z = true) (wz : (Jvm.Cond.initialized C).before a0 Z = true) (eT : T.heap = h) (hd : decode c.code pc = .ok (.new index, 3)) (hc : cells + 1 ≤ R.cells) (hl : slots + n ≤ R.slots) (hp : pc' = pc + 3)
    (k : ∀ T' h' b, b = h.size → Stand p l e R s m args below meth c T' locs (cells + 1) (slots + n) → T'.heap = h' → Ext h h' → Exa Z h' b C → (∀ {O nm d : String} {ty : FieldType}, Laid Z a0 C O nm d → parseFieldDescriptor d = some ty → Fld Z h' b O nm d (defaultValue ty)) → G (T'.setTop (mkF m pc' Ls (.ref b :: rest)))) : G (T.setTop (mkF m pc Ls rest)) := by
  subst hp
  obtain ⟨T', h', X', e', E, A, D, -, st⟩ := newO X hx hZ hown w wi wz eT (g := mkF m pc Ls rest) rfl hd hc hl
  exact hG _ _ st (k T' h' _ rfl X' e' E A D)
theorem g_initO (hG : Cl p e below G) (X : Stand p l e R s m args below meth c T locs cells slots) (hx : p.tables.exec = Jvm.exec) (hZ : Z.Warmed39 s.vm) {own : String} {index : Nat} (hown : s.vm.findClass own = some m.cls) (w1 : (Jvm.Cond.methodLink own index Lib.objectInit).before a0 Z = true) (w2 : (Jvm.Cond.instanceMethod Lib.objectInit).before a0 Z = true) (w3 : (Jvm.Cond.code Lib.objectInit ⟨#[0xb1]⟩ 1 none).before a0 Z = true) (eT : T.heap = h) {a : Addr}
    (hsz : Ls.size = c.maxLocals) (hd : decode c.code pc = .ok (.invokespecial index, 3)) (hfr : 1 ≤ R.frames) (hlo : (rest.map fun v => v.category).sum + 12 ≤ R.locals) (hp : pc' = pc + 3)
    (k : ∀ T', Stand p l e R s m args below meth c T' locs cells slots → T'.heap = h → G (T'.setTop (mkF m pc' Ls rest))) : G (T.setTop (mkF m pc Ls (.ref a :: rest))) := by
  subst hp
  obtain ⟨T', X', e', st⟩ := initO X hx hZ hown w1 w2 w3 eT (g := mkF m pc Ls (.ref a :: rest)) rfl hsz rfl hd hfr (W := (rest.map fun v => v.category).sum) (by show 2 * 0 + _ ≤ _; omega) hlo
  exact hG _ _ st (k T' X' e')
/-! arrays -/
theorem g_newP (hG : Cl p e below G) (X : Stand p l e R s m args below meth c T locs cells slots) (hx : p.tables.exec = Jvm.exec) (hZ : Z.Warmed39 s.vm) {aty : ArrayType} (w : (Jvm.Cond.arrayClass (newarray.typeOf aty)).before a0 Z = true) (eT : T.heap = h) {n : Int32} (hd : decode c.code pc = .ok (.newarray aty, 2)) (hn : ¬ n < 0) (cap : Nat) (hcap : n.toNatClampNeg ≤ cap) (hb : cap * 8 ≤ 536870912) (hc : cells + 1 ≤ R.cells) (hl : slots + cap ≤ R.slots) (hp : pc' = pc + 2)
    (k : ∀ T' h' b kA, b = h.size → Stand p l e R s m args below meth c T' locs (cells + 1) (slots + cap) → T'.heap = h' → Ext h h' → Arv Z h' b kA (newarray.typeOf aty) n [] (defaultValue (newarray.typeOf aty)) → G (T'.setTop (mkF m pc' Ls (.ref b :: rest)))) : G (T.setTop (mkF m pc Ls (.int n :: rest))) := by
  subst hp
  obtain ⟨T', h', kA, X', e', E, A, st⟩ := newP X hx hZ w eT (g := mkF m pc Ls (.int n :: rest)) rfl hd rfl hn hcap hb hc hl
  exact hG _ _ st (k T' h' _ kA rfl X' e' E (Arv.new A hn))

/-! arrays, with all that they hold -/
def AV (Z : State) (h : Heap) (a : Addr) (ty : FieldType) (n : Int32) (vs : List Value) : Prop := ∃ k, Arv Z h a k ty n vs (defaultValue ty) ∧ vs.length = n.toNatClampNeg
theorem AV.lt {a : Addr} {ty : FieldType} {n : Int32} {vs : List Value} (A : AV Z h a ty n vs) : a < h.size := by obtain ⟨k, A, -⟩ := A; exact A.lt
theorem AV.ext {h' : Heap} {a : Addr} {ty : FieldType} {n : Int32} {vs : List Value} (A : AV Z h a ty n vs) (E : Ext h h') : AV Z h' a ty n vs := by obtain ⟨k, A, q⟩ := A; exact ⟨k, A.ext E, q⟩
theorem AV.other {h' : Heap} {a b : Addr} {sl : Nat} {v : Value} {ty : FieldType} {n : Int32} {vs : List Value} (A : AV Z h a ty n vs) (W : Wr h h' b sl v) (q : a ≠ b) : AV Z h' a ty n vs := by obtain ⟨k, A, r⟩ := A; exact ⟨k, A.other W q, r⟩
theorem AV.keep {h' : Heap} {a : Addr} {ws : List Addr} {ty : FieldType} {n : Int32} {vs : List Value} (A : AV Z h a ty n vs) (K : Keep h h' ws) (q : a ∉ ws) : AV Z h' a ty n vs := by obtain ⟨k, A, r⟩ := A; exact ⟨k, A.keep K q, r⟩
theorem AV.new {a : Addr} {k : ClassId} {ty : FieldType} {n : Int32} (A : Arv Z h a k ty n [] (defaultValue ty)) : AV Z h a ty n (List.replicate n.toNatClampNeg (defaultValue ty)) := ⟨k, A.pad (fun i => by have q := pad_rep [] (defaultValue ty) n.toNatClampNeg i; simpa using q), by simp⟩
theorem AV.at {a : Addr} {ty : FieldType} {n : Int32} {vs : List Value} (A : AV Z h a ty n vs) {j : Int32} {v : Value} (hj : ¬ j < 0) (hv : vs[j.toNatClampNeg]? = some v) :
    ∃ c, Arr Z h a c ty ∧ ¬ (j < 0 ∨ c.slots.size ≤ j.toNatClampNeg) ∧ c.slots[j.toNatClampNeg]? = some v := by
  obtain ⟨k, ⟨c, A, q1, S, q3, H, Gf⟩, q⟩ := A
  have hl : j.toNatClampNeg < vs.length := (List.getElem?_eq_some_iff.mp hv).1
  have hin : ¬ (j < 0 ∨ c.slots.size ≤ j.toNatClampNeg) := fun z => z.elim hj (fun y => by omega)
  refine ⟨c, A, hin, Has.at H hin ?_⟩
  simp [List.getD, hv]
theorem AV.set {h' : Heap} {a : Addr} {ty : FieldType} {n : Int32} {vs : List Value} (A : AV Z h a ty n vs) {j : Int32} {v : Value} (W : Wr h h' a j.toNatClampNeg v) (hv : fits ty v = true) (hl : j.toNatClampNeg < vs.length) : AV Z h' a ty n (vs.set j.toNatClampNeg v) := by
  obtain ⟨k, ⟨c, A, q1, S, q3, H, Gf⟩, q⟩ := A
  exact ⟨k, Arv.set A q1 S q3 H Gf hv W _ rfl hl, by simpa using q⟩
theorem AV.inb {a : Addr} {ty : FieldType} {n : Int32} {vs : List Value} (A : AV Z h a ty n vs) {j : Int32} (hj : ¬ j < 0) (hl : j.toNatClampNeg < vs.length) : ∃ c, Arr Z h a c ty ∧ ¬ (j < 0 ∨ c.slots.size ≤ j.toNatClampNeg) := by
  obtain ⟨k, ⟨c, A, q1, S, q3, H, Gf⟩, q⟩ := A
  exact ⟨c, A, fun z => z.elim hj (fun y => by omega)⟩
theorem g_iaload (hG : Cl p e below G) (X : Stand p l e R s m args below meth c T locs cells slots) (hx : p.tables.exec = Jvm.exec) (hZ : Z.Warmed39 s.vm) (eT : T.heap = h) {a : Addr} {n : Int32} {vs : List Value} (A : AV Z h a .int n vs) {j : Int32} {v : Value} (hj : ¬ j < 0) (hv : vs[j.toNatClampNeg]? = some v) (hd : decode c.code pc = .ok (.iaload, 1)) (hp : pc' = pc + 1) (k : G (T.setTop (mkF m pc' Ls (v :: rest)))) : G (T.setTop (mkF m pc Ls (.int j :: .ref a :: rest))) := by
  subst hp
  obtain ⟨cl, Ar, hin, hat⟩ := A.at hj hv
  refine hG _ _ (fun t ht => ?_) k
  exact X.iaload hx (by rw [eT]; exact Ar.1) (State.isArrayOf_alike hZ.alike Ar.2.1) Ar.2.2 hin hat (g := mkF m pc Ls (.int j :: .ref a :: rest)) rfl rfl hd t ht
theorem g_daload (hG : Cl p e below G) (X : Stand p l e R s m args below meth c T locs cells slots) (hx : p.tables.exec = Jvm.exec) (hZ : Z.Warmed39 s.vm) (eT : T.heap = h) {a : Addr} {n : Int32} {vs : List Value} (A : AV Z h a .double n vs) {j : Int32} {v : Value} (hj : ¬ j < 0) (hv : vs[j.toNatClampNeg]? = some v) (hd : decode c.code pc = .ok (.daload, 1)) (hp : pc' = pc + 1) (k : G (T.setTop (mkF m pc' Ls (v :: rest)))) : G (T.setTop (mkF m pc Ls (.int j :: .ref a :: rest))) := by
  subst hp
  obtain ⟨cl, Ar, hin, hat⟩ := A.at hj hv
  refine hG _ _ (fun t ht => ?_) k
  exact X.daload hx (by rw [eT]; exact Ar.1) (State.isArrayOf_alike hZ.alike Ar.2.1) Ar.2.2 hin hat (g := mkF m pc Ls (.int j :: .ref a :: rest)) rfl rfl hd t ht
theorem g_laload (hG : Cl p e below G) (X : Stand p l e R s m args below meth c T locs cells slots) (hx : p.tables.exec = Jvm.exec) (hZ : Z.Warmed39 s.vm) (eT : T.heap = h) {a : Addr} {n : Int32} {vs : List Value} (A : AV Z h a .long n vs) {j : Int32} {v : Value} (hj : ¬ j < 0) (hv : vs[j.toNatClampNeg]? = some v) (hd : decode c.code pc = .ok (.laload, 1)) (hp : pc' = pc + 1) (k : G (T.setTop (mkF m pc' Ls (v :: rest)))) : G (T.setTop (mkF m pc Ls (.int j :: .ref a :: rest))) := by
  subst hp
  obtain ⟨cl, Ar, hin, hat⟩ := A.at hj hv
  refine hG _ _ (fun t ht => ?_) k
  exact X.laload hx (by rw [eT]; exact Ar.1) (State.isArrayOf_alike hZ.alike Ar.2.1) Ar.2.2 hin hat (g := mkF m pc Ls (.int j :: .ref a :: rest)) rfl rfl hd t ht
theorem g_zaload (hG : Cl p e below G) (X : Stand p l e R s m args below meth c T locs cells slots) (hx : p.tables.exec = Jvm.exec) (hZ : Z.Warmed39 s.vm) (eT : T.heap = h) {a : Addr} {n : Int32} {vs : List Value} (A : AV Z h a .boolean n vs) {j : Int32} {v : Value} (hj : ¬ j < 0) (hv : vs[j.toNatClampNeg]? = some v) (hd : decode c.code pc = .ok (.baload, 1)) (hp : pc' = pc + 1) (k : G (T.setTop (mkF m pc' Ls (v :: rest)))) : G (T.setTop (mkF m pc Ls (.int j :: .ref a :: rest))) := by
  subst hp
  obtain ⟨cl, Ar, hin, hat⟩ := A.at hj hv
  refine hG _ _ (fun t ht => ?_) k
  exact X.baloadBooleans hx (by rw [eT]; exact Ar.1) (State.isArrayOf_alike hZ.alike Ar.2.1) Ar.2.2 hin hat (g := mkF m pc Ls (.int j :: .ref a :: rest)) rfl rfl hd t ht
theorem g_iastore (hG : Cl p e below G) (X : Stand p l e R s m args below meth c T locs cells slots) (hx : p.tables.exec = Jvm.exec) (hZ : Z.Warmed39 s.vm) (eT : T.heap = h) {a : Addr} {n : Int32} {vs : List Value} (A : AV Z h a .int n vs) {j : Int32} {x : Int32} (hj : ¬ j < 0) (hl : j.toNatClampNeg < vs.length) (hd : decode c.code pc = .ok (.iastore, 1)) (hp : pc' = pc + 1)
    (k : ∀ T' h', Stand p l e R s m args below meth c T' (locs ++ [⟨a, j.toNatClampNeg⟩]) cells slots → T'.heap = h' → Wr h h' a j.toNatClampNeg (.int x) → AV Z h' a .int n (vs.set j.toNatClampNeg (.int x)) → G (T'.setTop (mkF m pc' Ls rest))) : G (T.setTop (mkF m pc Ls (.int x :: .int j :: .ref a :: rest))) := by
  subst hp
  obtain ⟨cl, Ar, hin⟩ := A.inb hj hl
  obtain ⟨T', h', X', e', W, st⟩ := stI X hx hZ eT Ar hin (g := mkF m pc Ls (.int x :: .int j :: .ref a :: rest)) rfl rfl hd
  exact hG _ _ st (k T' h' X' e' W (A.set W rfl hl))
theorem g_dastore (hG : Cl p e below G) (X : Stand p l e R s m args below meth c T locs cells slots) (hx : p.tables.exec = Jvm.exec) (hZ : Z.Warmed39 s.vm) (eT : T.heap = h) {a : Addr} {n : Int32} {vs : List Value} (A : AV Z h a .double n vs) {j : Int32} {x : UInt64} (hj : ¬ j < 0) (hl : j.toNatClampNeg < vs.length) (hd : decode c.code pc = .ok (.dastore, 1)) (hp : pc' = pc + 1)
    (k : ∀ T' h', Stand p l e R s m args below meth c T' (locs ++ [⟨a, j.toNatClampNeg⟩]) cells slots → T'.heap = h' → Wr h h' a j.toNatClampNeg (.double x) → AV Z h' a .double n (vs.set j.toNatClampNeg (.double x)) → G (T'.setTop (mkF m pc' Ls rest))) : G (T.setTop (mkF m pc Ls (.double x :: .int j :: .ref a :: rest))) := by
  subst hp
  obtain ⟨cl, Ar, hin⟩ := A.inb hj hl
  obtain ⟨T', h', X', e', W, st⟩ := stD X hx hZ eT Ar hin (g := mkF m pc Ls (.double x :: .int j :: .ref a :: rest)) rfl rfl hd
  exact hG _ _ st (k T' h' X' e' W (A.set W rfl hl))
theorem g_lastore (hG : Cl p e below G) (X : Stand p l e R s m args below meth c T locs cells slots) (hx : p.tables.exec = Jvm.exec) (hZ : Z.Warmed39 s.vm) (eT : T.heap = h) {a : Addr} {n : Int32} {vs : List Value} (A : AV Z h a .long n vs) {j : Int32} {x : Int64} (hj : ¬ j < 0) (hl : j.toNatClampNeg < vs.length) (hd : decode c.code pc = .ok (.lastore, 1)) (hp : pc' = pc + 1)
    (k : ∀ T' h', Stand p l e R s m args below meth c T' (locs ++ [⟨a, j.toNatClampNeg⟩]) cells slots → T'.heap = h' → Wr h h' a j.toNatClampNeg (.long x) → AV Z h' a .long n (vs.set j.toNatClampNeg (.long x)) → G (T'.setTop (mkF m pc' Ls rest))) : G (T.setTop (mkF m pc Ls (.long x :: .int j :: .ref a :: rest))) := by
  subst hp
  obtain ⟨cl, Ar, hin⟩ := A.inb hj hl
  obtain ⟨T', h', X', e', W, st⟩ := stJ X hx hZ eT Ar hin (g := mkF m pc Ls (.long x :: .int j :: .ref a :: rest)) rfl rfl hd
  exact hG _ _ st (k T' h' X' e' W (A.set W rfl hl))
theorem g_zastore (hG : Cl p e below G) (X : Stand p l e R s m args below meth c T locs cells slots) (hx : p.tables.exec = Jvm.exec) (hZ : Z.Warmed39 s.vm) (eT : T.heap = h) {a : Addr} {n : Int32} {vs : List Value} (A : AV Z h a .boolean n vs) {j : Int32} {x : Int32} (hj : ¬ j < 0) (hl : j.toNatClampNeg < vs.length) (hd : decode c.code pc = .ok (.bastore, 1)) (hp : pc' = pc + 1)
    (k : ∀ T' h', Stand p l e R s m args below meth c T' (locs ++ [⟨a, j.toNatClampNeg⟩]) cells slots → T'.heap = h' → Wr h h' a j.toNatClampNeg (.int (nar .boolean x)) → AV Z h' a .boolean n (vs.set j.toNatClampNeg (.int (nar .boolean x))) → G (T'.setTop (mkF m pc' Ls rest))) : G (T.setTop (mkF m pc Ls (.int x :: .int j :: .ref a :: rest))) := by
  subst hp
  obtain ⟨cl, Ar, hin⟩ := A.inb hj hl
  obtain ⟨T', h', X', e', W, st⟩ := stZ X hx hZ eT Ar hin (g := mkF m pc Ls (.int x :: .int j :: .ref a :: rest)) rfl rfl hd
  exact hG _ _ st (k T' h' X' e' W (A.set W (fits_nar_bool _) hl))
theorem g_bbastore (hG : Cl p e below G) (X : Stand p l e R s m args below meth c T locs cells slots) (hx : p.tables.exec = Jvm.exec) (hZ : Z.Warmed39 s.vm) (eT : T.heap = h) {a : Addr} {n : Int32} {vs : List Value} (A : AV Z h a .byte n vs) {j : Int32} {x : Int32} (hj : ¬ j < 0) (hl : j.toNatClampNeg < vs.length) (hd : decode c.code pc = .ok (.bastore, 1)) (hp : pc' = pc + 1)
    (k : ∀ T' h', Stand p l e R s m args below meth c T' (locs ++ [⟨a, j.toNatClampNeg⟩]) cells slots → T'.heap = h' → Wr h h' a j.toNatClampNeg (.int x.toInt8.toInt32) → AV Z h' a .byte n (vs.set j.toNatClampNeg (.int x.toInt8.toInt32)) → G (T'.setTop (mkF m pc' Ls rest))) : G (T.setTop (mkF m pc Ls (.int x :: .int j :: .ref a :: rest))) := by
  subst hp
  obtain ⟨cl, Ar, hin⟩ := A.inb hj hl
  obtain ⟨T', h', X', e', W, st⟩ := stB X hx hZ eT Ar hin (g := mkF m pc Ls (.int x :: .int j :: .ref a :: rest)) rfl rfl hd
  exact hG _ _ st (k T' h' X' e' W (A.set W (fits_nar_byte _) hl))
theorem g_arraylength (hG : Cl p e below G) (X : Stand p l e R s m args below meth c T locs cells slots) (hx : p.tables.exec = Jvm.exec) (hZ : Z.Warmed39 s.vm) (eT : T.heap = h) {a : Addr} {ty : FieldType} {n : Int32} {vs : List Value} (A : AV Z h a ty n vs) (hd : decode c.code pc = .ok (.arraylength, 1)) (hp : pc' = pc + 1) (k : G (T.setTop (mkF m pc' Ls (.int n :: rest)))) : G (T.setTop (mkF m pc Ls (.ref a :: rest))) := by
  subst hp
  obtain ⟨kA, ⟨cl, Ar, q1, S, q3, H, Gf⟩, q⟩ := A
  rw [← len_of S q3] at k
  refine hG _ _ (fun t ht => ?_) k
  exact X.arraylength hx (by rw [eT]; exact Ar.1) (State.isArrayOf_alike hZ.alike Ar.2.1) (g := mkF m pc Ls (.ref a :: rest)) rfl rfl hd t ht
/-! calls by a contract -/
theorem g_callS (hG : Cl p e below G) (X : Stand p l e R s m args below meth c T locs cells slots) (hx : p.tables.exec = Jvm.exec) (hZ : Z.Warmed39 s.vm) {own : String} {index : Nat} {y : MethodName} {bytes : ByteArray} {maxL : Nat} {ret : Option FieldType} {rm : Room} {as : Array Value} {Qc : Option Value → Heap → List Loc → Prop} {argsL stack : List Value} {ps : List FieldType} {rt : Option FieldType} (W : Nat)
    (hown : s.vm.findClass own = some m.cls) (w1 : (Jvm.Cond.methodLink own index y).before a0 Z = true) (w2 : (Jvm.Cond.static y).before a0 Z = true) (w3 : (Jvm.Cond.initialized y.cls).before a0 Z = true) (w4 : (Jvm.Cond.code y bytes maxL ret).before a0 Z = true) (hy : y.cls ≠ "java/lang/invoke/MethodHandle" ∧ y.cls ≠ "java/lang/invoke/VarHandle")
    (hM : Con l y bytes maxL ret [] rm Z as h rm.cells rm.slots Qc) (hfr : rm.frames + 1 ≤ R.frames) (hlo : W + (maxL + 11) + rm.locals ≤ R.locals) (hsz : Ls.size = c.maxLocals) (hpd : parseMethodDescriptor y.desc = some ⟨ps, rt⟩) (hln : argsL.length = ps.length) (hst : stack = argsL.reverse ++ rest) (has : argsL.toArray = as) (hW : (rest.map fun v => v.category).sum ≤ W)
    (hd : decode c.code pc = .ok (.invokestatic index, 3)) (eT : T.heap = h) (hc : cells + rm.cells ≤ R.cells) (hs : slots + rm.slots ≤ R.slots) (hp : pc' = pc + 3)
    (k : ∀ T' v L', Stand p l e R s m args below meth c T' (locs ++ L') (cells + rm.cells) (slots + rm.slots) → Qc v T'.heap L' → G (T'.setTop (mkF m pc' Ls (v.toList ++ rest)))) : G (T.setTop (mkF m pc Ls stack)) := by
  subst hp hst has
  obtain ⟨v, _, ⟨T1, L1, k1, n1⟩, -, X1, ⟨Lc, hQ, l1, y1, z1⟩, st⟩ := Jvm.LawKit.callS X hx (y := y) hown (mvT hZ w1) (mvT hZ w2) (mvT hZ w3) (mvT hZ w4) hy (backOf (W := W) hM hZ w4 w3 hfr hlo) (g := mkF m pc Ls (argsL.reverse ++ rest)) rfl hsz (argsL := argsL) (rest := rest) (lenOf hpd hln) rfl (by show 2 * 0 + _ ≤ _; omega) hd (fun _ _ => ⟨rfl, eT, hc, hs⟩)
  dsimp only [Pt.U, Pt.locs, Pt.cells, Pt.slots] at X1 l1 y1 z1 st hQ
  subst l1 y1 z1
  exact hG _ _ st (k T1 v Lc X1 hQ)
theorem g_callI (hG : Cl p e below G) (X : Stand p l e R s m args below meth c T locs cells slots) (hx : p.tables.exec = Jvm.exec) (hZ : Z.Warmed39 s.vm) {own : String} {index : Nat} {y : MethodName} {bytes : ByteArray} {maxL : Nat} {rm : Room} {as : Array Value} {Qc : Option Value → Heap → List Loc → Prop} {a : Addr} {argsL stack : List Value} {ps : List FieldType} {rt : Option FieldType} (W : Nat)
    (hy1 : y.name = "<init>") (hown : s.vm.findClass own = some m.cls) (w1 : (Jvm.Cond.methodLink own index y).before a0 Z = true) (w2 : (Jvm.Cond.instanceMethod y).before a0 Z = true) (w3 : (Jvm.Cond.initialized y.cls).before a0 Z = true) (w4 : (Jvm.Cond.code y bytes maxL none).before a0 Z = true) (hy : y.cls ≠ "java/lang/invoke/MethodHandle" ∧ y.cls ≠ "java/lang/invoke/VarHandle")
    (hM : Con l y bytes maxL none [] rm Z as h rm.cells rm.slots Qc) (hfr : rm.frames + 1 ≤ R.frames) (hlo : W + (maxL + 11) + rm.locals ≤ R.locals) (hsz : Ls.size = c.maxLocals) (hpd : parseMethodDescriptor y.desc = some ⟨ps, rt⟩) (hln : argsL.length = ps.length) (hst : stack = argsL.reverse ++ .ref a :: rest) (has : (.ref a :: argsL).toArray = as) (hW : (rest.map fun v => v.category).sum ≤ W)
    (hd : decode c.code pc = .ok (.invokespecial index, 3)) (eT : T.heap = h) (hc : cells + rm.cells ≤ R.cells) (hs : slots + rm.slots ≤ R.slots) (hp : pc' = pc + 3)
    (k : ∀ T' v L', Stand p l e R s m args below meth c T' (locs ++ L') (cells + rm.cells) (slots + rm.slots) → Qc v T'.heap L' → G (T'.setTop (mkF m pc' Ls (v.toList ++ rest)))) : G (T.setTop (mkF m pc Ls stack)) := by
  subst hp hst has
  obtain ⟨v, _, ⟨T1, L1, k1, n1⟩, -, X1, ⟨Lc, hQ, l1, y1, z1⟩, st⟩ := X.specialBack hx (y := y) hy1 hown (mvT hZ w1) (mvT hZ w2) (mvT hZ w4) hy (backOf (W := W) hM hZ w4 w3 hfr hlo) (g := mkF m pc Ls (argsL.reverse ++ .ref a :: rest)) rfl hsz (Steps.refl _) (a := a) (argsL := argsL) (rest := rest) (lenOf hpd hln) rfl (by show 2 * 0 + _ ≤ _; omega) hd (fun _ _ => ⟨rfl, eT, hc, hs⟩)
  dsimp only [Pt.U, Pt.locs, Pt.cells, Pt.slots] at X1 l1 y1 z1 st hQ
  subst l1 y1 z1
  exact hG _ _ (fun t ht => st.trans ht) (k T1 v Lc X1 hQ)
theorem g_callV (hG : Cl p e below G) (X : Stand p l e R s m args below meth c T locs cells slots) (hx : p.tables.exec = Jvm.exec) (hZ : Z.Warmed39 s.vm) {own C : String} {index : Nat} {y : MethodName} {bytes : ByteArray} {maxL : Nat} {ret : Option FieldType} {rm : Room} {as : Array Value} {Qc : Option Value → Heap → List Loc → Prop} {a : Addr} {argsL stack : List Value} {ps : List FieldType} {rt : Option FieldType} (W : Nat)
    (hown : s.vm.findClass own = some m.cls) (w1 : (Jvm.Cond.methodLink own index y).before a0 Z = true) (w2 : (Jvm.Cond.declares y).before a0 Z = true) (ws : (Jvm.Cond.selects C y y).before a0 Z = true) (wi : (Jvm.Cond.instanceMethod y).before a0 Z = true) (w3 : (Jvm.Cond.initialized y.cls).before a0 Z = true) (w4 : (Jvm.Cond.code y bytes maxL ret).before a0 Z = true) (hy : y.cls ≠ "java/lang/invoke/MethodHandle" ∧ y.cls ≠ "java/lang/invoke/VarHandle")
    (hM : Con l y bytes maxL ret [] rm Z as h rm.cells rm.slots Qc) (hfr : rm.frames + 1 ≤ R.frames) (hlo : W + (maxL + 11) + rm.locals ≤ R.locals) (hsz : Ls.size = c.maxLocals) (hpd : parseMethodDescriptor y.desc = some ⟨ps, rt⟩) (hln : argsL.length = ps.length) (hst : stack = argsL.reverse ++ .ref a :: rest) (has : (.ref a :: argsL).toArray = as) (hW : (rest.map fun v => v.category).sum ≤ W)
    (hd : decode c.code pc = .ok (.invokevirtual index, 3)) (eT : T.heap = h) (E : Exa Z h a C) (hc : cells + rm.cells ≤ R.cells) (hs : slots + rm.slots ≤ R.slots) (hp : pc' = pc + 3)
    (k : ∀ T' v L', Stand p l e R s m args below meth c T' (locs ++ L') (cells + rm.cells) (slots + rm.slots) → Qc v T'.heap L' → G (T'.setTop (mkF m pc' Ls (v.toList ++ rest)))) : G (T.setTop (mkF m pc Ls stack)) := by
  subst hp hst has
  obtain ⟨cq, kq, qa, qb, qc⟩ := isOf hZ eT E
  obtain ⟨v, _, ⟨T1, L1, k1, n1⟩, -, X1, ⟨Lc, hQ, l1, y1, z1⟩, st⟩ := X.virtualBack hx (y := y) (z := y) hown (mvT hZ w1) (mvT hZ w2) (notFace_of_selects (args := #[]) (mvT hZ ws)) (mvT hZ ws) (mvT hZ wi) hy (backOf (W := W) hM hZ w4 w3 hfr hlo) qa qc (g := mkF m pc Ls (argsL.reverse ++ .ref a :: rest)) rfl hsz (Steps.refl _) (argsL := argsL) (rest := rest) (lenOf hpd hln) rfl (by show 2 * 0 + _ ≤ _; omega) hd (fun _ _ => ⟨rfl, eT, hc, hs⟩)
  dsimp only [Pt.U, Pt.locs, Pt.cells, Pt.slots] at X1 l1 y1 z1 st hQ
  subst l1 y1 z1
  exact hG _ _ (fun t ht => st.trans ht) (k T1 v Lc X1 hQ)
theorem g_callP (hG : Cl p e below G) (X : Stand p l e R s m args below meth c T locs cells slots) (hx : p.tables.exec = Jvm.exec) (hZ : Z.Warmed39 s.vm) {own C : String} {index : Nat} {y : MethodName} {bytes : ByteArray} {maxL : Nat} {ret : Option FieldType} {rm : Room} {as : Array Value} {Qc : Option Value → Heap → List Loc → Prop} {a : Addr} {argsL stack : List Value} {ps : List FieldType} {rt : Option FieldType} (W : Nat)
    (hown : s.vm.findClass own = some m.cls) (w1 : (Jvm.Cond.methodLink own index y).before a0 Z = true) (wi : (Jvm.Cond.instanceMethod y).before a0 Z = true) {kk : Nat} (wk : (Jvm.Cond.instantiable y.cls kk).before a0 Z = true) (wp : (Jvm.Cond.privateMethod y).before a0 Z = true) (w3 : (Jvm.Cond.initialized y.cls).before a0 Z = true) (w4 : (Jvm.Cond.code y bytes maxL ret).before a0 Z = true) (hy : y.cls ≠ "java/lang/invoke/MethodHandle" ∧ y.cls ≠ "java/lang/invoke/VarHandle")
    (hM : Con l y bytes maxL ret [] rm Z as h rm.cells rm.slots Qc) (hfr : rm.frames + 1 ≤ R.frames) (hlo : W + (maxL + 11) + rm.locals ≤ R.locals) (hsz : Ls.size = c.maxLocals) (hpd : parseMethodDescriptor y.desc = some ⟨ps, rt⟩) (hln : argsL.length = ps.length) (hst : stack = argsL.reverse ++ .ref a :: rest) (has : (.ref a :: argsL).toArray = as) (hW : (rest.map fun v => v.category).sum ≤ W)
    (hd : decode c.code pc = .ok (.invokevirtual index, 3)) (eT : T.heap = h) (E : Exa Z h a C) (hc : cells + rm.cells ≤ R.cells) (hs : slots + rm.slots ≤ R.slots) (hp : pc' = pc + 3)
    (k : ∀ T' v L', Stand p l e R s m args below meth c T' (locs ++ L') (cells + rm.cells) (slots + rm.slots) → Qc v T'.heap L' → G (T'.setTop (mkF m pc' Ls (v.toList ++ rest)))) : G (T.setTop (mkF m pc Ls stack)) := by
  subst hp hst has
  obtain ⟨cq, q1, q2⟩ := E.cell
  have hpv : s.PrivateAt y := Jvm.Cond.privateMethod_at (mvP hZ wp (args := #[]))
  obtain ⟨ck, kk', j1, j2, -, j4, -⟩ := Jvm.Cond.instantiable_spec (mvT (args := args) hZ wk)
  have ws : (Jvm.Cond.selects y.cls y y).before args s = true := selects_self_of_private j1 j2 (by simp at j4; exact j4.1) hpv (mvT hZ wi) hy
  obtain ⟨v, _, ⟨T1, L1, k1, n1⟩, -, X1, ⟨Lc, hQ, l1, y1, z1⟩, st⟩ := X.privateBack hx (y := y) hown (mvT hZ w1) (mvT hZ wi) ws hpv (mvT hZ w4) hy (backOf (W := W) hM hZ w4 w3 hfr hlo) (g := mkF m pc Ls (argsL.reverse ++ .ref a :: rest)) rfl hsz (Steps.refl _) (a := a) (by rw [eT]; exact q1) q2 (argsL := argsL) (rest := rest) (lenOf hpd hln) rfl (by show 2 * 0 + _ ≤ _; omega) hd (fun _ _ => ⟨rfl, eT, hc, hs⟩)
  dsimp only [Pt.U, Pt.locs, Pt.cells, Pt.slots] at X1 l1 y1 z1 st hQ
  subst l1 y1 z1
  exact hG _ _ (fun t ht => st.trans ht) (k T1 v Lc X1 hQ)
theorem g_natS (hG : Cl p e below G) (X : Stand p l e R s m args below meth c T locs cells slots) (hx : p.tables.exec = Jvm.exec) (hZ : Z.Warmed39 s.vm) {own : String} {index : Nat} {y : MethodName} {by0 : ByteArray} {ml : Nat} {rt : Option FieldType} {F : Array Value → Prop} {val : Value} {argsL stack : List Value} {ps : List FieldType} {rt' : Option FieldType} (W : Nat)
    (hown : s.vm.findClass own = some m.cls) (w1 : (Jvm.Cond.methodLink own index y).before a0 Z = true) (w2 : (Jvm.Cond.static y).before a0 Z = true) (w3 : (Jvm.Cond.initialized y.cls).before a0 Z = true) (w4 : (Jvm.Cond.code y by0 ml rt).before a0 Z = true) (hy : y.cls ≠ "java/lang/invoke/MethodHandle" ∧ y.cls ≠ "java/lang/invoke/VarHandle")
    (hK : (Jvm.Cond.code y by0 ml rt).before args s = true → Back l R p e below s args y 3 W (fun A a' => A.cells ≤ R.cells ∧ A.slots ≤ R.slots ∧ F a') (fun A _ v B => v = some val ∧ B = A)) (hsz : Ls.size = c.maxLocals) (hpd : parseMethodDescriptor y.desc = some ⟨ps, rt'⟩) (hln : argsL.length = ps.length) (hst : stack = argsL.reverse ++ rest) (hW : (rest.map fun v => v.category).sum ≤ W)
    (hd : decode c.code pc = .ok (.invokestatic index, 3)) (eT : T.heap = h) (hc : cells ≤ R.cells) (hs : slots ≤ R.slots) (hF : F argsL.toArray) (hp : pc' = pc + 3)
    (k : ∀ T', Stand p l e R s m args below meth c T' locs cells slots → T'.heap = h → G (T'.setTop (mkF m pc' Ls (val :: rest)))) : G (T.setTop (mkF m pc Ls stack)) := by
  subst hp hst
  obtain ⟨T', X', e', st⟩ := natS X hx hZ hown w1 w2 w3 w4 hy eT hK (g := mkF m pc Ls (argsL.reverse ++ rest)) rfl hsz (argsL := argsL) (rest := rest) (lenOf hpd hln) rfl (by show 2 * 0 + _ ≤ _; omega) hd hc hs hF rfl
  exact hG _ _ st (k T' X' e')
theorem g_getS (hG : Cl p e below G) (X : Stand p l e R s m args below meth c T locs cells slots) (hx : p.tables.exec = Jvm.exec) (hZ : Z.Warmed39 s.vm) {own R0 O n d : String} {index : Nat} (hown : s.vm.findClass own = some m.cls) (w : (Jvm.Cond.fieldLink own index R0 n d).before a0 Z = true) (via : Via Z R0 O n d) (eT : T.heap = h) {v : Value} (F : Sta Z h O n d v) (hd : decode c.code pc = .ok (.getstatic index, 3)) (hp : pc' = pc + 3)
    (k : ∀ T', Stand p l e R s m args below meth c T' locs cells slots → T'.heap = h → G (T'.setTop (mkF m pc' Ls (v :: rest)))) : G (T.setTop (mkF m pc Ls rest)) := by
  subst hp
  obtain ⟨T', X', e', st⟩ := getS2 (host := "") X hx hZ hown (Or.inl w) via eT F (g := mkF m pc Ls rest) rfl hd
  exact hG _ _ st (k T' X' e')
theorem g_castY (hG : Cl p e below G) (X : Stand p l e R s m args below meth c T locs cells slots) (hx : p.tables.exec = Jvm.exec) (hZ : Z.Warmed39 s.vm) {own K0 : String} {index : Nat} (hown : s.vm.findClass own = some m.cls) (w : (Jvm.Cond.classLink own index K0).before a0 Z = true) (eT : T.heap = h) {a : Addr} (F : Ins Z h a K0 true) (hd : decode c.code pc = .ok (.checkcast index, 3)) (hp : pc' = pc + 3)
    (k : ∀ T', Stand p l e R s m args below meth c T' locs cells slots → T'.heap = h → G (T'.setTop (mkF m pc' Ls (.ref a :: rest)))) : G (T.setTop (mkF m pc Ls (.ref a :: rest))) := by
  subst hp
  obtain ⟨T', X', e', st⟩ := castY X hx hZ hown w eT F (g := mkF m pc Ls (.ref a :: rest)) rfl rfl hd
  exact hG _ _ st (k T' X' e')
theorem g_newPE (hG : Cl p e below G) (X : Stand p l e R s m args below meth c T locs cells slots) (hx : p.tables.exec = Jvm.exec) (hZ : Z.Warmed39 s.vm) {aty : ArrayType} (w : (Jvm.Cond.arrayClass (newarray.typeOf aty)).before a0 Z = true) (eT : T.heap = h) {n : Int32} (hd : decode c.code pc = .ok (.newarray aty, 2)) (hn : ¬ n < 0) (cap : Nat) (hcap : n.toNatClampNeg ≤ cap) (hb : cap * 8 ≤ 536870912) (hc : cells + 1 ≤ R.cells) (hl : slots + cap ≤ R.slots) {ad : String} (had : "[" ++ (newarray.typeOf aty).toString = ad) (hp : pc' = pc + 2)
    (k : ∀ T' h' b, b = h.size → Stand p l e R s m args below meth c T' locs (cells + 1) (slots + cap) → T'.heap = h' → Ext h h' → AV Z h' b (newarray.typeOf aty) n (List.replicate n.toNatClampNeg (defaultValue (newarray.typeOf aty))) → Exa Z h' b ad → G (T'.setTop (mkF m pc' Ls (.ref b :: rest)))) : G (T.setTop (mkF m pc Ls (.int n :: rest))) := by
  subst hp
  obtain ⟨T', h', kA, X', e', E, A, Ex, st⟩ := newPE X hx hZ w eT (g := mkF m pc Ls (.int n :: rest)) rfl hd rfl hn hcap hb hc hl had
  exact hG _ _ st (k T' h' _ rfl X' e' E (AV.new (Arv.new A hn)) Ex)
theorem g_clone (hG : Cl p e below G) (X : Stand p l e R s m args below meth c T locs cells slots) (hx : p.tables.exec = Jvm.exec) (hZ : Z.Warmed39 s.vm) {own ad : String} {index : Nat} (hown : s.vm.findClass own = some m.cls)
    (w1 : (Jvm.Cond.methodLink own index ⟨ad, "clone", "()Ljava/lang/Object;"⟩).before a0 Z = true) (w2 : (Jvm.Cond.sameMethod ad "java/lang/Object" "clone" "()Ljava/lang/Object;").before a0 Z = true) (w3 : (Jvm.Cond.native ⟨"java/lang/Object", "clone", "()Ljava/lang/Object;"⟩).before a0 Z = true)
    (w4 : (Jvm.Cond.instanceMethod ⟨"java/lang/Object", "clone", "()Ljava/lang/Object;"⟩).before a0 Z = true) (w5 : (Jvm.Cond.selects ad ⟨ad, "clone", "()Ljava/lang/Object;"⟩ ⟨"java/lang/Object", "clone", "()Ljava/lang/Object;"⟩).before a0 Z = true) (w6 : (Jvm.Cond.castable ad "java/lang/Cloneable").before a0 Z = true)
    (eT : T.heap = h) {a : Addr} {ty : FieldType} {n : Int32} {vs : List Value} (A : AV Z h a ty n vs) (E : Exa Z h a ad) (hsz : Ls.size = c.maxLocals) (hd : decode c.code pc = .ok (.invokevirtual index, 3)) (hfr : 1 ≤ R.frames) (W cap : Nat) (hW : (rest.map fun v => v.category).sum ≤ W) (hlo : W + 14 ≤ R.locals) (hcap : n.toNatClampNeg ≤ cap) (hc : cells + 1 ≤ R.cells) (hsl : slots + cap ≤ R.slots) (hp : pc' = pc + 3)
    (k : ∀ T' h' b, b = h.size → Stand p l e R s m args below meth c T' locs (cells + 1) (slots + cap) → T'.heap = h' → Ext h h' → AV Z h' b ty n vs → Exa Z h' b ad → G (T'.setTop (mkF m pc' Ls (.ref b :: rest)))) : G (T.setTop (mkF m pc Ls (.ref a :: rest))) := by
  subst hp
  obtain ⟨kA, A, q⟩ := A
  obtain ⟨T', h', X', e', E', A', Ex, st⟩ := cloneH X hx hZ hown w1 w2 w3 w4 w5 w6 eT A.arh E (g := mkF m pc Ls (.ref a :: rest)) rfl hsz rfl hd hfr (W := W) (by show 2 * 0 + _ ≤ _; omega) hlo hcap hc hsl
  exact hG _ _ st (k T' h' _ rfl X' e' E' ⟨kA, A', q⟩ Ex)
theorem g_callVU (hG : Cl p e below G) (X : Stand p l e R s m args below meth c T locs cells slots) (hx : p.tables.exec = Jvm.exec) (hZ : Z.Warmed39 s.vm) {own C owner : String} {index : Nat} {x y : MethodName} {bytes : ByteArray} {maxL : Nat} {ret : Option FieldType} {rm : Room} {as : Array Value} {Qc : Option Value → Heap → List Loc → Prop} {a : Addr} {argsL stack : List Value} {ps : List FieldType} {rt : Option FieldType} (W : Nat)
    (hown : s.vm.findClass own = some m.cls) (w1 : (Jvm.Cond.methodLink own index x).before a0 Z = true) (wm : (Jvm.Cond.sameMethod x.cls owner x.name x.desc).before a0 Z = true) (w2 : (Jvm.Cond.declares ⟨owner, x.name, x.desc⟩).before a0 Z = true) (ho : owner ≠ "java/lang/invoke/MethodHandle" ∧ owner ≠ "java/lang/invoke/VarHandle") (ws : (Jvm.Cond.selects C x y).before a0 Z = true) (wi : (Jvm.Cond.instanceMethod y).before a0 Z = true) (w3 : (Jvm.Cond.initialized y.cls).before a0 Z = true) (w4 : (Jvm.Cond.code y bytes maxL ret).before a0 Z = true)
    (hM : Con l y bytes maxL ret [] rm Z as h rm.cells rm.slots Qc) (hfr : rm.frames + 1 ≤ R.frames) (hlo : W + (maxL + 11) + rm.locals ≤ R.locals) (hsz : Ls.size = c.maxLocals) (hpd : parseMethodDescriptor x.desc = some ⟨ps, rt⟩) (hln : argsL.length = ps.length) (hst : stack = argsL.reverse ++ .ref a :: rest) (has : (.ref a :: argsL).toArray = as) (hW : (rest.map fun v => v.category).sum ≤ W)
    (hd : decode c.code pc = .ok (.invokevirtual index, 3)) (eT : T.heap = h) (E : Exa Z h a C) (hc : cells + rm.cells ≤ R.cells) (hs : slots + rm.slots ≤ R.slots) (hp : pc' = pc + 3)
    (k : ∀ T' v L', Stand p l e R s m args below meth c T' (locs ++ L') (cells + rm.cells) (slots + rm.slots) → Qc v T'.heap L' → G (T'.setTop (mkF m pc' Ls (v.toList ++ rest)))) : G (T.setTop (mkF m pc Ls stack)) := by
  subst hp hst has
  obtain ⟨cq, kq, qa, qb, qc⟩ := isOf hZ eT E
  obtain ⟨v, _, ⟨T1, L1, k1, n1⟩, -, X1, ⟨Lc, hQ, l1, y1, z1⟩, st⟩ := X.virtualBackUp hx (x := x) (y := y) hown (mvT hZ w1) (mvT hZ wm) (mvT hZ w2) ho (mvT hZ ws) (mvT hZ wi) (backOf (W := W) hM hZ w4 w3 hfr hlo) qa qc (g := mkF m pc Ls (argsL.reverse ++ .ref a :: rest)) rfl hsz (Steps.refl _) (argsL := argsL) (rest := rest) (lenOf hpd hln) rfl (by show 2 * 0 + _ ≤ _; omega) hd (fun _ _ => ⟨rfl, eT, hc, hs⟩)
  dsimp only [Pt.U, Pt.locs, Pt.cells, Pt.slots] at X1 l1 y1 z1 st hQ
  subst l1 y1 z1
  exact hG _ _ (fun t ht => st.trans ht) (k T1 v Lc X1 hQ)
theorem g_lookup (hG : Cl p e below G) (X : Stand p l e R s m args below meth c T locs cells slots) (hx : p.tables.exec = Jvm.exec) {kk : Int32} {dflt : Int} {pairs : Array (Int × Int)} {len : Nat} (hd : decode c.code pc = .ok (.lookupswitch dflt pairs, len)) (hs : (pairs.toList.zip (pairs.toList.drop 1)).all (fun (a, next) => a.1 < next.1) = true) {a off : Int} (hf : pairs.find? (·.1 == kk.toInt) = some (a, off)) (ho : 0 ≤ (pc : Int) + off) (hp : ((pc : Int) + off).toNat = pc') (k : G (T.setTop (mkF m pc' Ls rest))) : G (T.setTop (mkF m pc Ls (.int kk :: rest))) := by
  subst hp
  refine hG _ _ (fun t ht => ?_) k
  exact X.lookupswitchHit hx (g := mkF m pc Ls (.int kk :: rest)) rfl rfl hd hs hf ho t ht
theorem g_copy (hG : Cl p e below G) (X : Stand p l e R s m args below meth c T locs cells slots) (hx : p.tables.exec = Jvm.exec) (hZ : Z.Warmed39 s.vm) {own : String} {index : Nat} (hown : s.vm.findClass own = some m.cls)
    (w1 : (Jvm.Cond.methodLink own index Jvm.Stand.acN).before a0 Z = true) (w2 : (Jvm.Cond.native Jvm.Stand.acN).before a0 Z = true) (w3 : (Jvm.Cond.static Jvm.Stand.acN).before a0 Z = true) (w4 : (Jvm.Cond.initialized "java/lang/System").before a0 Z = true) (eT : T.heap = h)
    {a b : Addr} {ty : FieldType} {n z sp dp nn : Int32} {vs vd vr : List Value} (A : AV Z h a ty n vs) (B : AV Z h b ty z vd) (hr : refKind ty = false) (h1 : ¬ sp < 0) (h2 : ¬ dp < 0) (h3 : ¬ nn < 0) (h4 : sp.toNatClampNeg + nn.toNatClampNeg ≤ n.toNatClampNeg) (h5 : dp.toNatClampNeg + nn.toNatClampNeg ≤ z.toNatClampNeg)
    (hvr : vd.take dp.toNatClampNeg ++ ((List.range nn.toNatClampNeg).map fun i => vs.getD (sp.toNatClampNeg + i) (defaultValue ty)) ++ vd.drop (dp.toNatClampNeg + nn.toNatClampNeg) = vr) {n0 : Nat} (N0 : Fr n0 locs) (ge : n0 ≤ b) (hsz : Ls.size = c.maxLocals) (hd : decode c.code pc = .ok (.invokestatic index, 3)) (hfr : 1 ≤ R.frames) (W : Nat) (hW : (rest.map fun v => v.category).sum ≤ W) (hlo : W + (nativeFrameWords "java/lang/System" "arraycopy" 5 + 11) ≤ R.locals) (hp : pc' = pc + 3)
    (k : ∀ T' h' L, Stand p l e R s m args below meth c T' L cells slots → T'.heap = h' → Fr n0 L → Keep h h' [b] → AV Z h' b ty z vr → G (T'.setTop (mkF m pc' Ls rest))) : G (T.setTop (mkF m pc Ls (.int nn :: .int dp :: .ref b :: .int sp :: .ref a :: rest))) := by
  subst hp hvr
  obtain ⟨kA, A, qa⟩ := A
  obtain ⟨kB, B, qb⟩ := B
  obtain ⟨T', h', L', X', e', N', K', V', st⟩ := cpA X hx hZ hown w1 w2 w3 w4 eT A B (Or.inl ⟨rfl, hr⟩) h1 h2 h3 h4 h5 rfl (by omega) N0 ge (g := mkF m pc Ls (.int nn :: .int dp :: .ref b :: .int sp :: .ref a :: rest)) rfl hsz rfl hd hfr (W := W) (by show 2 * 0 + _ ≤ _; omega) hlo
  exact hG _ _ st (k T' h' L' X' e' N' K' ⟨kB, V', by simp only [List.length_append, List.length_take, List.length_map, List.length_range, List.length_drop]; omega⟩)
theorem Sta.keep0 {h' : Heap} {C n d : String} {v : Value} (F : Sta Z h C n d v) (K : Keep h h' []) : Sta Z h' C n d v := by
  obtain ⟨cf, i, k, f, st, cell, h1, h2, h3, h4, h5, r⟩ := F
  exact ⟨cf, i, k, f, st, cell, h1, h2, h3, h4, K.2.1 _ _ h5 (fun q => nomatch q), r⟩
end New
end Jvm.OwnKit
namespace Jvm.OwnFl
open Jvm.FP.Core
theorem two_ne : (2 : Rat) ≠ 0 := by decide
theorem p2pos (q : Int) : (0 : Rat) < (2 : Rat) ^ q := Rat.zpow_pos (by decide)
theorem p2add (a b : Int) : (2 : Rat) ^ (a + b) = (2 : Rat) ^ a * (2 : Rat) ^ b := Rat.zpow_add two_ne a b
theorem p2nat (n : Nat) : (2 : Rat) ^ (n : Int) = ((2 ^ n : Nat) : Rat) := by rw [Rat.zpow_natCast, Rat.natCast_pow]; rfl
theorem p2le {a b : Int} (h : a ≤ b) : (2 : Rat) ^ a ≤ (2 : Rat) ^ b := by
  obtain ⟨n, hn⟩ : ∃ n : Nat, b = a + n := ⟨(b - a).toNat, by omega⟩
  subst hn
  rw [p2add, p2nat]
  have h1 : (1 : Rat) ≤ ((2 ^ n : Nat) : Rat) := by
    have q : ((1 : Nat) : Rat) ≤ ((2 ^ n : Nat) : Rat) := Rat.natCast_le_natCast.mpr (Nat.two_pow_pos n)
    exact q
  have q := Rat.mul_le_mul_of_nonneg_left h1 (Rat.le_of_lt (p2pos a))
  rwa [Rat.mul_one] at q
theorem p2lt {a b : Int} (h : (2 : Rat) ^ a < (2 : Rat) ^ b) : a < b := by
  by_cases q : a < b
  · exact q
  · exact absurd (p2le (Int.not_lt.mp q)) (Rat.not_le.mpr h)
/-- the value of a datum (nought for what is no number) -/
def rvd : Datum → Rat
  | .fin s c q => ((signed s c : Int) : Rat) * (2 : Rat) ^ q
  | _ => 0
/-- v is a finite double, of the value x -/
def DV (v : UInt64) (x : Rat) : Prop := ∃ s c q, val64 v = .fin s c q ∧ rvd (.fin s c q) = x
theorem DV.fin {v : UInt64} {x : Rat} (h : DV v x) : Jvm.Free.Fl.Fin64 v := by
  obtain ⟨s, c, q, h, -⟩ := h
  exact Jvm.Free.Fl.fin64_core.mpr ⟨s, c, q, h⟩
theorem DV.noNaN {v : UInt64} {x : Rat} (h : DV v x) : Jvm.Free.Fl.NoNaN64 v := h.fin.noNaN
theorem DV.uniq {v : UInt64} {x y : Rat} (h : DV v x) (g : DV v y) : x = y := by
  obtain ⟨s, c, q, h1, h2⟩ := h
  obtain ⟨t, d, r, g1, g2⟩ := g
  cases h1.symm.trans g1
  exact h2.symm.trans g2
theorem units_val (s : Bool) (c : Nat) {q e : Int} (h : e ≤ q) : ((signed s (inUnits c q e) : Int) : Rat) * (2 : Rat) ^ e = ((signed s c : Int) : Rat) * (2 : Rat) ^ q := by
  obtain ⟨n, rfl⟩ : ∃ n : Nat, q = e + n := ⟨(q - e).toNat, by omega⟩
  unfold inUnits
  rw [signed_mul, Rat.intCast_mul, Rat.mul_assoc, show (e + (n : Int) - e).toNat = n by omega, p2add, p2nat, Rat.mul_comm ((2 : Rat) ^ e)]
  rfl
theorem dcmp_of {a b : UInt64} {x y : Rat} (ha : DV a x) (hb : DV b y) : dcmp a b = some (if x < y then .lt else if x = y then .eq else .gt) := by
  obtain ⟨s, c, q, h1, rfl⟩ := ha
  obtain ⟨t, d, r, h2, rfl⟩ := hb
  show order (val64 a) (val64 b) = _
  rw [h1, h2]
  show some (compare (signed s (inUnits c q (min q r))) (signed t (inUnits d r (min q r)))) = some (if ((signed s c : Int) : Rat) * (2 : Rat) ^ q < ((signed t d : Int) : Rat) * (2 : Rat) ^ r then .lt else if ((signed s c : Int) : Rat) * (2 : Rat) ^ q = ((signed t d : Int) : Rat) * (2 : Rat) ^ r then .eq else .gt)
  rw [compare_ite, ← units_val s c (Int.min_le_left q r), ← units_val t d (Int.min_le_right q r)]
  generalize signed s (inUnits c q (min q r)) = i
  generalize signed t (inUnits d r (min q r)) = j
  have hu := p2pos (min q r)
  generalize (2 : Rat) ^ (min q r) = u at hu
  have k1 : ∀ i j : Int, ((i : Rat) * u < (j : Rat) * u) ↔ i < j := fun i j => (Rat.mul_lt_mul_right hu).trans Rat.intCast_lt_intCast
  have k2 : ((i : Rat) * u = (j : Rat) * u) ↔ i = j := by
    constructor
    · intro h
      rcases Int.lt_trichotomy i j with g | g | g
      · have := (k1 i j).mpr g; rw [h] at this; exact absurd this Rat.lt_irrefl
      · exact g
      · have := (k1 j i).mpr g; rw [h] at this; exact absurd this Rat.lt_irrefl
    · intro h; rw [h]
  simp only [k1, k2]
theorem dcmp_lt {a b : UInt64} {x y : Rat} (ha : DV a x) (hb : DV b y) (h : x < y) : Jvm.FP.dcmp a b = some .lt := by
  show dcmp a b = _
  rw [dcmp_of ha hb, if_pos h]
theorem dcmp_eq {a b : UInt64} {x y : Rat} (ha : DV a x) (hb : DV b y) (h : x = y) : Jvm.FP.dcmp a b = some .eq := by
  show dcmp a b = _
  rw [dcmp_of ha hb, if_neg (by rw [h]; exact Rat.lt_irrefl), if_pos h]
theorem dcmp_gt {a b : UInt64} {x y : Rat} (ha : DV a x) (hb : DV b y) (h : y < x) : Jvm.FP.dcmp a b = some .gt := by
  show dcmp a b = _
  rw [dcmp_of ha hb, if_neg (by rw [Rat.not_lt]; exact Rat.le_of_lt h), if_neg (Rat.ne_of_gt h)]
theorem dcmp_le {a b : UInt64} {x y : Rat} (ha : DV a x) (hb : DV b y) (h : x ≤ y) : Jvm.FP.dcmp a b = some .lt ∨ Jvm.FP.dcmp a b = some .eq := by
  by_cases q : x = y
  · exact Or.inr (dcmp_eq ha hb q)
  · exact Or.inl (dcmp_lt ha hb (Rat.lt_of_le_of_ne h q))
theorem dcmp_ge {a b : UInt64} {x y : Rat} (ha : DV a x) (hb : DV b y) (h : y ≤ x) : Jvm.FP.dcmp a b = some .gt ∨ Jvm.FP.dcmp a b = some .eq := by
  by_cases q : x = y
  · exact Or.inr (dcmp_eq ha hb q)
  · exact Or.inl (dcmp_gt ha hb (Rat.lt_of_le_of_ne h (fun z => q z.symm)))
/-- the rounding of a positive ratio, in full -/
theorem rr_spec (s : Bool) {A B : Nat} (e : Int) (hA : 0 < A) (hB : 0 < B) {x : Rat} (hx : x * (B : Rat) = (A : Rat) * (2 : Rat) ^ e) (hlt : x < (2 : Rat) ^ (1023 : Int)) :
    ∃ c q, roundRatio b64 s A B e = .fin s c q ∧ ∃ (m : Nat) (r : Int), (c : Rat) * (2 : Rat) ^ q = (m : Rat) * (2 : Rat) ^ r ∧ -1074 ≤ r ∧ m ≤ 2 ^ 53 ∧ 2 * x ≤ (2 * (m : Rat) + 1) * (2 : Rat) ^ r ∧ 2 * (m : Rat) * (2 : Rat) ^ r ≤ 2 * x + (2 : Rat) ^ r ∧
      x < 9007199254740992 * (2 : Rat) ^ r ∧ (r = -1074 ∨ 4503599627370496 * (2 : Rat) ^ r ≤ x) := by
  have g1 := quantum_ge b64 A B e
  have g2 := nearest_units_le (f := b64) hA hB e
  have g3 := quantum_not_below (f := b64) hA hB e
  have g4 := quantum_below (f := b64) hA hB e
  unfold roundRatio
  rw [if_neg (by omega : ¬ A = 0)]
  generalize quantum b64 A B e = r at *
  unfold roundAt
  have hD := unitsDen_pos hB e r
  obtain ⟨n1, n2, -⟩ := nearest_spec (unitsNum A e r) (unitsDen B e r) hD
  have key : x * (unitsDen B e r : Rat) = (unitsNum A e r : Rat) * (2 : Rat) ^ r := by
    unfold unitsDen unitsNum
    rw [Rat.natCast_mul, Rat.natCast_mul, ← Rat.mul_assoc, hx, ← p2nat, ← p2nat, Rat.mul_assoc, Rat.mul_assoc, ← p2add, ← p2add, show e + ((r - e).toNat : Int) = ((e - r).toNat : Int) + r by omega]
  have b1 : unitsNum A e r < 2 ^ 53 * unitsDen B e r := (units_below A B e r 53).mpr g4
  have b2 : r = -1074 ∨ 2 ^ 52 * unitsDen B e r ≤ unitsNum A e r := by
    rcases g3 with g3 | g3
    · exact Or.inl g3
    · exact Or.inr (Nat.le_of_not_lt fun q => g3 ((units_below A B e r 52).mp q))
  have hr0 : -1074 ≤ r := g1
  have hm53 : nearest (unitsNum A e r) (unitsDen B e r) ≤ 2 ^ 53 := g2
  clear g1 g2 g3 g4
  generalize nearest (unitsNum A e r) (unitsDen B e r) = m at *
  generalize unitsNum A e r = N at *
  generalize unitsDen B e r = D at *
  have hu := p2pos r
  have hDp : (0 : Rat) < (D : Rat) := Rat.natCast_pos.mpr hD
  have n1' : 2 * (N : Rat) ≤ (2 * (m : Rat) + 1) * (D : Rat) := by
    have q := Rat.natCast_le_natCast.mpr n1
    simpa [Rat.natCast_mul, Rat.natCast_add] using q
  have n2' : 2 * (m : Rat) * (D : Rat) ≤ 2 * (N : Rat) + (D : Rat) := by
    have q := Rat.natCast_le_natCast.mpr n2
    simpa [Rat.natCast_mul, Rat.natCast_add] using q
  have b1' : (N : Rat) < 9007199254740992 * (D : Rat) := by
    have q := Rat.natCast_lt_natCast.mpr b1
    simpa [Rat.natCast_mul] using q
  have b2' : r = -1074 ∨ 4503599627370496 * (D : Rat) ≤ (N : Rat) := by
    rcases b2 with q | q
    · exact Or.inl q
    · right
      have q := Rat.natCast_le_natCast.mpr q
      simpa [Rat.natCast_mul] using q
  have f1 : 2 * x ≤ (2 * (m : Rat) + 1) * (2 : Rat) ^ r := by
    refine Rat.le_of_mul_le_mul_right (c := (D : Rat)) ?_ hDp
    have q := Rat.mul_le_mul_of_nonneg_right n1' (Rat.le_of_lt hu)
    generalize (2 : Rat) ^ r = u at *
    grind
  have f2 : 2 * (m : Rat) * (2 : Rat) ^ r ≤ 2 * x + (2 : Rat) ^ r := by
    refine Rat.le_of_mul_le_mul_right (c := (D : Rat)) ?_ hDp
    have q := Rat.mul_le_mul_of_nonneg_right n2' (Rat.le_of_lt hu)
    generalize (2 : Rat) ^ r = u at *
    grind
  have f3 : x < 9007199254740992 * (2 : Rat) ^ r := by
    refine Rat.lt_of_mul_lt_mul_right (c := (D : Rat)) ?_ (Rat.le_of_lt hDp)
    have q := Rat.mul_lt_mul_of_pos_right b1' hu
    generalize (2 : Rat) ^ r = u at *
    grind
  have f4 : r = -1074 ∨ 4503599627370496 * (2 : Rat) ^ r ≤ x := by
    rcases b2' with q | q
    · exact Or.inl q
    · right
      refine Rat.le_of_mul_le_mul_right (c := (D : Rat)) ?_ hDp
      have q := Rat.mul_le_mul_of_nonneg_right q (Rat.le_of_lt hu)
      generalize (2 : Rat) ^ r = u at *
      grind
  have hr : r ≤ 970 := by
    rcases f4 with q | q
    · omega
    · have q1 : (2 : Rat) ^ ((52 : Int) + r) < (2 : Rat) ^ (1023 : Int) := by
        rw [p2add, show (2 : Rat) ^ (52 : Int) = 4503599627370496 by decide +kernel]
        exact Std.lt_of_le_of_lt q hlt
      have := p2lt q1
      omega
  have hqm : b64.qmax = 971 := by decide
  by_cases hm : m < 2 ^ 53
  · refine ⟨m, r, ?_, m, r, rfl, hr0, hm53, f1, f2, f3, f4⟩
    show (if m < 2 ^ 53 then bound b64 s m r else _) = _
    rw [if_pos hm]
    unfold bound
    rw [if_pos (by omega)]
  · have hm : m = 2 ^ 53 := by omega
    refine ⟨2 ^ 52, r + 1, ?_, m, r, ?_, hr0, hm53, f1, f2, f3, f4⟩
    · show (if m < 2 ^ 53 then bound b64 s m r else bound b64 s b64.tails (r + 1)) = _
      rw [if_neg (by omega)]
      unfold bound
      rw [if_pos (by omega)]
      rfl
    · subst hm
      rw [p2add, Rat.zpow_one]
      generalize (2 : Rat) ^ r = u
      have e1 : ((2 ^ 52 : Nat) : Rat) = 4503599627370496 := by decide +kernel
      have e2 : ((2 ^ 53 : Nat) : Rat) = 9007199254740992 := by decide +kernel
      rw [e1, e2]
      grind
/-- the rounding of a rational number to a double's precision -/
def RR (x : Rat) : Rat := rvd (roundRatio b64 (decide (x < 0)) x.num.natAbs x.den 0)
theorem rat_num (x : Rat) : x * (x.den : Rat) = (x.num : Rat) := by
  have h : x = (x.num : Rat) / ((x.den : Int) : Rat) := by rw [← Rat.divInt_eq_div, Rat.num_divInt_den]
  have hd : (((x.den : Int)) : Rat) ≠ 0 := by
    intro q
    have := Rat.intCast_eq_zero_iff.mp q
    have := x.den_nz
    omega
  have q := Rat.div_mul_cancel (a := (x.num : Rat)) hd
  rw [← h] at q
  exact q
theorem signed_rat (s : Bool) (c : Nat) : ((signed s c : Int) : Rat) = if s then -(c : Rat) else (c : Rat) := by cases s <;> simp [signed, Rat.intCast_natCast]
/-- rounding goes by the value -/
theorem rr_congr {s : Bool} {A B : Nat} {e : Int} {x : Rat} (hB : 0 < B) (hx : x * (B : Rat) = ((signed s A : Int) : Rat) * (2 : Rat) ^ e) (hA : A ≠ 0) : roundRatio b64 s A B e = roundRatio b64 (decide (x < 0)) x.num.natAbs x.den 0 := by
  have hu := p2pos e
  have hBp : (0 : Rat) < (B : Rat) := Rat.natCast_pos.mpr hB
  have hAp : (0 : Rat) < (A : Rat) := Rat.natCast_pos.mpr (by omega)
  have hAu := Rat.mul_pos hAp hu
  have hs : decide (x < 0) = s := by
    rw [signed_rat] at hx
    cases s
    · simp only [Bool.false_eq_true, if_false] at hx
      rw [decide_eq_false_iff_not]
      intro q
      have := (Rat.mul_neg_iff_of_pos_right hBp).mpr q
      rw [hx] at this
      grind
    · simp only [if_true] at hx
      rw [decide_eq_true_iff]
      refine (Rat.mul_neg_iff_of_pos_right hBp).mp ?_
      rw [hx]
      grind
  rw [hs]
  refine roundRatio_congr hB x.den_pos ?_
  -- magnitudes
  have h1 := rat_num x
  have h2 : (x.num : Rat) * (B : Rat) = ((signed s A : Int) : Rat) * (2 : Rat) ^ e * (x.den : Rat) := by rw [← h1, ← hx]; grind
  have h3 : (x.num : Rat) * (B : Rat) * (2 : Rat) ^ (((0 - e).toNat : Nat) : Int) = ((signed s A : Int) : Rat) * (x.den : Rat) * (2 : Rat) ^ (((e - 0).toNat : Nat) : Int) := by
    rw [h2, Rat.mul_assoc, Rat.mul_assoc, Rat.mul_comm ((2 : Rat) ^ e), Rat.mul_assoc, ← p2add, ← Rat.mul_assoc]
    rw [show (((0 - e).toNat : Nat) : Int) + e = (((e - 0).toNat : Nat) : Int) by omega]
  rw [p2nat, p2nat] at h3
  have h4 : x.num * (B : Int) * ((2 ^ (0 - e).toNat : Nat) : Int) = signed s A * (x.den : Int) * ((2 ^ (e - 0).toNat : Nat) : Int) := by
    refine Rat.intCast_inj.mp ?_
    rw [Rat.intCast_mul, Rat.intCast_mul, Rat.intCast_mul, Rat.intCast_mul]
    exact h3
  have h5 := congrArg Int.natAbs h4
  simp only [Int.natAbs_mul, Int.natAbs_natCast, natAbs_signed] at h5
  exact h5.symm
theorem rvd_rr {s : Bool} {A B : Nat} {e : Int} {x : Rat} (hB : 0 < B) (hx : x * (B : Rat) = ((signed s A : Int) : Rat) * (2 : Rat) ^ e) : rvd (roundRatio b64 s A B e) = RR x := by
  by_cases hA : A = 0
  · subst hA
    have hx0 : x = 0 := by
      rw [signed_zero] at hx
      have hBp : (B : Rat) ≠ 0 := fun q => by have := Rat.natCast_eq_zero_iff.mp q; omega
      rcases Rat.mul_eq_zero.mp (hx.trans (by rw [show ((0 : Int) : Rat) = 0 from rfl, Rat.zero_mul])) with q | q
      · exact q
      · exact absurd q hBp
    subst hx0
    unfold RR roundRatio
    rw [if_pos rfl, if_pos (by decide)]
    show ((signed s 0 : Int) : Rat) * _ = ((signed _ 0 : Int) : Rat) * _
    rw [signed_zero, signed_zero]
  · rw [rr_congr hB hx hA]; rfl
theorem RR_neg (x : Rat) : RR (-x) = - RR x := by
  have h := rat_num x
  have h1 : rvd (roundRatio b64 (!decide (x < 0)) x.num.natAbs x.den 0) = RR (-x) := by
    refine rvd_rr x.den_pos ?_
    rw [Rat.zpow_zero, Rat.mul_one, Rat.neg_mul, h]
    have : (signed (!decide (x < 0)) x.num.natAbs : Int) = - x.num := by
      by_cases q : x < 0
      · have : x.num < 0 := by
          rw [← Int.not_le, Rat.num_nonneg, Rat.not_le]; exact q
        simp [signed, q]; omega
      · have : 0 ≤ x.num := by rw [Rat.num_nonneg]; exact Rat.not_lt.mp q
        simp [signed, q]; omega
    rw [this]; rfl
  rw [← h1, ← negate_roundRatio]
  unfold RR
  generalize roundRatio b64 (decide (x < 0)) x.num.natAbs x.den 0 = d
  cases d with
  | nan => simp [negate, rvd]
  | inf s => simp [negate, rvd]
  | fin s c q =>
    show ((signed (!s) c : Int) : Rat) * _ = -(((signed s c : Int) : Rat) * _)
    rw [← Rat.neg_mul]
    congr 1
    cases s <;> simp [signed]
/-- what is known of a rounding y of x -/
def Rsp (x y : Rat) : Prop := ∃ (m r : Int), y = (m : Rat) * (2 : Rat) ^ r ∧ -1074 ≤ r ∧ m.natAbs ≤ 2 ^ 53 ∧ 2 * x ≤ (2 * (m : Rat) + 1) * (2 : Rat) ^ r ∧ (2 * (m : Rat) - 1) * (2 : Rat) ^ r ≤ 2 * x ∧
    x < 9007199254740992 * (2 : Rat) ^ r ∧ -(9007199254740992 * (2 : Rat) ^ r) < x ∧ (r = -1074 ∨ 4503599627370496 * (2 : Rat) ^ r ≤ x ∨ x ≤ -(4503599627370496 * (2 : Rat) ^ r))
theorem Rsp.neg {x y : Rat} (h : Rsp x y) : Rsp (-x) (-y) := by
  obtain ⟨m, r, h1, h2, h3, h4, h5, h6, h7, h8⟩ := h
  have hu := p2pos r
  refine ⟨-m, r, ?_, h2, by omega, ?_, ?_, ?_, ?_, ?_⟩ <;> (try rw [Rat.intCast_neg]) <;> generalize (2 : Rat) ^ r = u at * <;> grind
theorem big_lt : (1267650600228229401496703205376 : Rat) < (2 : Rat) ^ (1023 : Int) := by
  have h : (2 : Rat) ^ (100 : Int) < (2 : Rat) ^ (1023 : Int) := by
    refine Rat.lt_of_le_of_ne (p2le (by decide)) fun q => ?_
    have h2 : (2 : Rat) ^ (1023 : Int) = (2 : Rat) ^ (100 : Int) * (2 : Rat) ^ (923 : Int) := by rw [← p2add]; rfl
    have h3 : (2 : Rat) ^ (1 : Int) ≤ (2 : Rat) ^ (923 : Int) := p2le (by decide)
    have h4 := p2pos 100
    rw [Rat.zpow_one] at h3
    have h5 := Rat.mul_le_mul_of_nonneg_left h3 (Rat.le_of_lt h4)
    grind
  have e : (2 : Rat) ^ (100 : Int) = 1267650600228229401496703205376 := by decide +kernel
  rw [← e]; exact h
theorem RR_pos {x : Rat} (h0 : 0 < x) (h : x ≤ 1267650600228229401496703205376) : Rsp x (RR x) ∧ ∃ c q, roundRatio b64 (decide (x < 0)) x.num.natAbs x.den 0 = .fin false c q := by
  have hn : 0 < x.num := by
    have : 0 ≤ x.num := by rw [Rat.num_nonneg]; exact Rat.le_of_lt h0
    have : x.num ≠ 0 := fun q => by rw [Rat.num_eq_zero] at q; rw [q] at h0; exact absurd h0 Rat.lt_irrefl
    omega
  have hd : decide (x < 0) = false := by rw [decide_eq_false_iff_not, Rat.not_lt]; exact Rat.le_of_lt h0
  have e1 : ((x.num.natAbs : Nat) : Rat) = (x.num : Rat) := by
    have : ((x.num.natAbs : Nat) : Int) = x.num := by omega
    rw [← Rat.intCast_natCast, this]
  obtain ⟨c, q, hr, m, r, f0, f1, f2, f3, f4, f5, f6⟩ := rr_spec false (A := x.num.natAbs) (B := x.den) 0 (by omega) x.den_pos (x := x) (by rw [Rat.zpow_zero, Rat.mul_one, e1]; exact rat_num x) (Std.lt_of_le_of_lt h big_lt)
  refine ⟨⟨m, r, ?_, f1, by omega, ?_, ?_, ?_, ?_, ?_⟩, c, q, by rw [hd]; exact hr⟩
  · unfold RR
    rw [hd, hr]
    show ((signed false c : Int) : Rat) * _ = _
    rw [← Rat.intCast_natCast] at f0
    exact f0
  all_goals
    have hu := p2pos r
    have e2 : ((m : Int) : Rat) = (m : Rat) := rfl
    rw [e2] at *
    generalize (2 : Rat) ^ r = u at *
    grind
theorem RR_zero : RR 0 = 0 := by
  unfold RR roundRatio
  rw [if_pos (by decide)]
  show ((signed _ 0 : Int) : Rat) * _ = 0
  rw [signed_zero]
  exact Rat.zero_mul _
theorem Rsp.zero : Rsp 0 0 := by
  have hu := p2pos (-1074)
  refine ⟨0, -1074, ?_, by decide, by decide, ?_, ?_, ?_, ?_, Or.inl rfl⟩ <;> generalize (2 : Rat) ^ (-1074 : Int) = u at * <;> (try rw [show ((0 : Int) : Rat) = 0 from rfl]) <;> grind
theorem RR_spec {x : Rat} (h1 : -1267650600228229401496703205376 ≤ x) (h2 : x ≤ 1267650600228229401496703205376) : Rsp x (RR x) := by
  by_cases q : 0 < x
  · exact (RR_pos q h2).1
  · by_cases q2 : x = 0
    · subst q2; rw [RR_zero]; exact Rsp.zero
    · have q3 : 0 < -x := by grind
      have g := (RR_pos q3 (by grind)).1.neg
      rw [RR_neg, Rat.neg_neg, Rat.neg_neg] at g
      exact g
theorem DV.of_rr {v : UInt64} {s : Bool} {A B : Nat} {e : Int} {x : Rat} (hv : val64 v = roundRatio b64 s A B e) (hB : 0 < B) (hx : x * (B : Rat) = ((signed s A : Int) : Rat) * (2 : Rat) ^ e) (h1 : -1267650600228229401496703205376 ≤ x) (h2 : x ≤ 1267650600228229401496703205376) : DV v (RR x) := by
  have hr := rvd_rr hB hx
  by_cases hA : A = 0
  · subst hA
    refine ⟨s, 0, b64.qmin, by rw [hv]; unfold roundRatio; rw [if_pos rfl], ?_⟩
    rw [← hr]; unfold roundRatio; rw [if_pos rfl]
  · obtain ⟨c, q, h, -⟩ := rr_spec s (A := A) (B := B) e (by omega) hB (x := if s then -x else x) (by rw [signed_rat] at hx; cases s <;> simp at hx ⊢ <;> grind) (Std.lt_of_le_of_lt (by cases s <;> simp <;> grind) big_lt)
    exact ⟨s, c, q, by rw [hv, h], by rw [← hr, h]⟩
theorem dadd_DV {a b : UInt64} {x y : Rat} (ha : DV a x) (hb : DV b y) (h1 : -1267650600228229401496703205376 ≤ x + y) (h2 : x + y ≤ 1267650600228229401496703205376) : DV (Jvm.FP.dadd a b) (RR (x + y)) := by
  obtain ⟨s, c, q, e1, rfl⟩ := ha
  obtain ⟨t, d, r, e2, rfl⟩ := hb
  refine DV.of_rr (s := sumSign s t (sumUnits s c q t d r (min q r))) (A := (sumUnits s c q t d r (min q r)).natAbs) (B := 1) (e := min q r) ?_ (by decide) ?_ h1 h2
  · show val64 (dadd a b) = _
    rw [val64_dadd, e1, e2]; rfl
  · rw [signed_sumSign, show ((1 : Nat) : Rat) = 1 from rfl, Rat.mul_one]
    unfold sumUnits
    rw [Rat.intCast_add, Rat.add_mul, units_val s c (Int.min_le_left q r), units_val t d (Int.min_le_right q r)]; rfl
theorem signed_not (t : Bool) (d : Nat) : (signed (!t) d : Int) = - signed t d := by cases t <;> simp [signed]
theorem dsub_DV {a b : UInt64} {x y : Rat} (ha : DV a x) (hb : DV b y) (h1 : -1267650600228229401496703205376 ≤ x - y) (h2 : x - y ≤ 1267650600228229401496703205376) : DV (Jvm.FP.dsub a b) (RR (x - y)) := by
  obtain ⟨s, c, q, e1, rfl⟩ := ha
  obtain ⟨t, d, r, e2, rfl⟩ := hb
  refine DV.of_rr (s := sumSign s (!t) (sumUnits s c q (!t) d r (min q r))) (A := (sumUnits s c q (!t) d r (min q r)).natAbs) (B := 1) (e := min q r) ?_ (by decide) ?_ h1 h2
  · show val64 (dsub a b) = _
    rw [val64_dsub, e1, e2]; rfl
  · rw [signed_sumSign, show ((1 : Nat) : Rat) = 1 from rfl, Rat.mul_one]
    unfold sumUnits
    rw [Rat.intCast_add, Rat.add_mul, units_val s c (Int.min_le_left q r), units_val (!t) d (Int.min_le_right q r), signed_not, Rat.intCast_neg, Rat.neg_mul, Rat.sub_eq_add_neg]; rfl
theorem dmul_DV {a b : UInt64} {x y : Rat} (ha : DV a x) (hb : DV b y) (h1 : -1267650600228229401496703205376 ≤ x * y) (h2 : x * y ≤ 1267650600228229401496703205376) : DV (Jvm.FP.dmul a b) (RR (x * y)) := by
  obtain ⟨s, c, q, e1, rfl⟩ := ha
  obtain ⟨t, d, r, e2, rfl⟩ := hb
  refine DV.of_rr (s := s != t) (A := c * d) (B := 1) (e := q + r) ?_ (by decide) ?_ h1 h2
  · show val64 (dmul a b) = _
    rw [val64_dmul, e1, e2]; rfl
  · rw [signed_xor, show ((1 : Nat) : Rat) = 1 from rfl, Rat.mul_one, Rat.intCast_mul, p2add]
    show (_ * _) * (_ * _) = _
    generalize (2 : Rat) ^ q = u
    generalize (2 : Rat) ^ r = w
    grind
theorem ddiv_DV {a b : UInt64} {x y : Rat} (ha : DV a x) (hb : DV b y) (hy : y ≠ 0) (h1 : -1267650600228229401496703205376 ≤ x / y) (h2 : x / y ≤ 1267650600228229401496703205376) : DV (Jvm.FP.ddiv a b) (RR (x / y)) := by
  obtain ⟨s, c, q, e1, rfl⟩ := ha
  obtain ⟨t, d, r, e2, rfl⟩ := hb
  have hd : d ≠ 0 := by
    rintro rfl
    apply hy
    show ((signed t 0 : Int) : Rat) * _ = 0
    rw [signed_zero]; exact Rat.zero_mul _
  refine DV.of_rr (s := s != t) (A := c) (B := d) (e := q - r) ?_ (by omega) ?_ h1 h2
  · show val64 (ddiv a b) = _
    rw [val64_ddiv, e1, e2]
    show (if d = 0 then _ else _) = _
    rw [if_neg hd]
  · have hq : (2 : Rat) ^ q = (2 : Rat) ^ (q - r) * (2 : Rat) ^ r := by rw [← p2add, show q - r + r = q by omega]
    have hS : ((signed s c : Int) : Rat) * (d : Rat) = ((signed (s != t) c : Int) : Rat) * ((signed t d : Int) : Rat) := by
      rw [signed_rat, signed_rat, signed_rat]
      cases s <;> cases t <;> simp <;> grind
    have hm := Rat.div_mul_cancel (a := rvd (.fin s c q)) hy
    have hyn := hy
    have hv1 : rvd (.fin s c q) = ((signed s c : Int) : Rat) * ((2 : Rat) ^ (q - r) * (2 : Rat) ^ r) := by rw [← hq]; rfl
    have hv2 : rvd (.fin t d r) = ((signed t d : Int) : Rat) * (2 : Rat) ^ r := rfl
    generalize rvd (.fin s c q) / rvd (.fin t d r) = z at *
    rw [hv1, hv2] at hm
    rw [hv2] at hyn
    have hst : ((signed t d : Int) : Rat) ≠ 0 := fun g => hyn (by rw [g]; exact Rat.zero_mul _)
    have hr := p2pos r
    generalize (2 : Rat) ^ (q - r) = u at *
    generalize (2 : Rat) ^ r = w at *
    generalize ((signed s c : Int) : Rat) = X at *
    generalize ((signed (s != t) c : Int) : Rat) = S at *
    generalize ((signed t d : Int) : Rat) = Y at *
    generalize (d : Rat) = D at *
    -- hm : z * (Y * w) = X * (u * w); hS : X * D = S * Y; goal : z * D = S * u
    have hw : w ≠ 0 := Rat.ne_of_gt hr
    have k1 : z * Y = X * u := by
      have : (z * Y - X * u) * w = 0 := by grind
      rcases Rat.mul_eq_zero.mp this with g | g
      · grind
      · exact absurd g hw
    have k2 : (z * D - S * u) * Y = 0 := by grind
    rcases Rat.mul_eq_zero.mp k2 with g | g
    · grind
    · exact absurd g hst
theorem i2d_RR (n : Int32) : DV (Jvm.FP.i2d n) (RR (n.toInt : Rat)) := by
  have h := n.le_toInt
  have h' := n.toInt_lt
  refine DV.of_rr (s := decide (n.toInt < 0)) (A := n.toInt.natAbs) (B := 1) (e := 0) ?_ (by decide) ?_ ?_ ?_
  · show val64 (i2d n) = _
    rw [val64_i2d]; rfl
  · rw [Rat.zpow_zero, Rat.mul_one, show ((1 : Nat) : Rat) = 1 from rfl, Rat.mul_one]
    congr 1
    by_cases q : n.toInt < 0 <;> simp [signed, q] <;> omega
  · have := Rat.intCast_le_intCast.mpr h; grind
  · have := Rat.intCast_le_intCast.mpr (Int.le_of_lt h'); grind
theorem l2d_RR (n : Int64) : DV (Jvm.FP.l2d n) (RR (n.toInt : Rat)) := by
  have h := n.le_toInt
  have h' := n.toInt_lt
  refine DV.of_rr (s := decide (n.toInt < 0)) (A := n.toInt.natAbs) (B := 1) (e := 0) ?_ (by decide) ?_ ?_ ?_
  · show val64 (l2d n) = _
    rw [val64_l2d]; rfl
  · rw [Rat.zpow_zero, Rat.mul_one, show ((1 : Nat) : Rat) = 1 from rfl, Rat.mul_one]
    congr 1
    by_cases q : n.toInt < 0 <;> simp [signed, q] <;> omega
  · have := Rat.intCast_le_intCast.mpr h; grind
  · have := Rat.intCast_le_intCast.mpr (Int.le_of_lt h'); grind
/-- a rational number that a double can hold (no overflow asked) -/
def Rp (z : Rat) : Prop := ∃ m k : Int, z = (m : Rat) * (2 : Rat) ^ k ∧ m.natAbs ≤ 2 ^ 53 ∧ -1074 ≤ k
theorem abs_le {m : Int} (h : m.natAbs ≤ 2 ^ 53) : -(9007199254740992 : Rat) ≤ (m : Rat) ∧ (m : Rat) ≤ 9007199254740992 := by
  have h1 : (-9007199254740992 : Int) ≤ m ∧ m ≤ 9007199254740992 := by omega
  exact ⟨by have := Rat.intCast_le_intCast.mpr h1.1; simpa using this, by have := Rat.intCast_le_intCast.mpr h1.2; simpa using this⟩
/-- a number that can be held is a multiple of the quantum, or no greater than the quantum's least -/
theorem rp_mul {z : Rat} {r : Int} (h : Rp z) : (∃ j : Int, z = (j : Rat) * (2 : Rat) ^ r) ∨ (-1074 < r ∧ z ≤ 4503599627370496 * (2 : Rat) ^ r ∧ -(4503599627370496 * (2 : Rat) ^ r) ≤ z) := by
  obtain ⟨m, k, hz, hm, hk⟩ := h
  by_cases hkr : r ≤ k
  · left
    obtain ⟨i, rfl⟩ : ∃ i : Nat, k = r + i := ⟨(k - r).toNat, by omega⟩
    refine ⟨m * ((2 ^ i : Nat) : Int), ?_⟩
    rw [hz, p2add, p2nat, Rat.intCast_mul, Rat.intCast_natCast]
    generalize (2 : Rat) ^ r = u
    generalize ((2 ^ i : Nat) : Rat) = w
    grind
  · right
    have h1 : (2 : Rat) ^ (k + 1) ≤ (2 : Rat) ^ r := p2le (by omega)
    rw [p2add, Rat.zpow_one] at h1
    obtain ⟨a1, a2⟩ := abs_le hm
    have hu := p2pos k
    have b1 := Rat.mul_le_mul_of_nonneg_right a1 (Rat.le_of_lt hu)
    have b2 := Rat.mul_le_mul_of_nonneg_right a2 (Rat.le_of_lt hu)
    rw [hz]
    refine ⟨by omega, ?_, ?_⟩ <;> generalize (2 : Rat) ^ r = w at * <;> generalize (2 : Rat) ^ k = u at * <;> grind
theorem icast_le {u : Rat} (hu : 0 < u) {i j : Int} (h : (i : Rat) * u ≤ (j : Rat) * u) : i ≤ j := Rat.intCast_le_intCast.mp (Rat.le_of_mul_le_mul_right h hu)
theorem icast_lt {u : Rat} (hu : 0 < u) {i j : Int} (h : (i : Rat) * u < (j : Rat) * u) : i < j := Rat.intCast_lt_intCast.mp (Rat.lt_of_mul_lt_mul_right h (Rat.le_of_lt hu))
/-- the nearest: whatever can be held is no nearer -/
theorem Rsp.near {x y z : Rat} (h : Rsp x y) (hz : Rp z) (t : Rat) (t1 : x - z ≤ t) (t2 : z - x ≤ t) : x - y ≤ t ∧ y - x ≤ t := by
  obtain ⟨n, r, rfl, h2, h3, h4, h5, h6, h7, h8⟩ := h
  have hu := p2pos r
  -- multiples of the quantum
  have main : ∀ (j : Int) (t : Rat), x - (j : Rat) * (2 : Rat) ^ r ≤ t → (j : Rat) * (2 : Rat) ^ r - x ≤ t → x - (n : Rat) * (2 : Rat) ^ r ≤ t ∧ (n : Rat) * (2 : Rat) ^ r - x ≤ t := by
    intro j t t1 t2
    rcases Int.lt_trichotomy j n with g | g | g
    · have g1 : (j : Rat) + 1 ≤ (n : Rat) := by have := Rat.intCast_le_intCast.mpr (show j + 1 ≤ n by omega); simpa using this
      have g2 := Rat.mul_le_mul_of_nonneg_right g1 (Rat.le_of_lt hu)
      generalize (2 : Rat) ^ r = u at *
      constructor <;> grind
    · subst g; exact ⟨t1, t2⟩
    · have g1 : (n : Rat) + 1 ≤ (j : Rat) := by have := Rat.intCast_le_intCast.mpr (show n + 1 ≤ j by omega); simpa using this
      have g2 := Rat.mul_le_mul_of_nonneg_right g1 (Rat.le_of_lt hu)
      generalize (2 : Rat) ^ r = u at *
      constructor <;> grind
  rcases rp_mul (r := r) hz with ⟨j, rfl⟩ | ⟨g0, g1, g2⟩
  · exact main j t t1 t2
  · rcases h8 with q | q | q
    · omega
    · refine main 4503599627370496 t ?_ ?_ <;> rw [show ((4503599627370496 : Int) : Rat) = 4503599627370496 from rfl] <;> generalize (2 : Rat) ^ r = u at * <;> grind
    · refine main (-4503599627370496) t ?_ ?_ <;> rw [show ((-4503599627370496 : Int) : Rat) = -4503599627370496 from rfl] <;> generalize (2 : Rat) ^ r = u at * <;> grind
theorem Rsp.exact {x y : Rat} (h : Rsp x y) (hx : Rp x) : y = x := by
  have := h.near hx 0 (by grind) (by grind)
  grind
theorem RR_exact {x : Rat} (hx : Rp x) (h1 : -1267650600228229401496703205376 ≤ x) (h2 : x ≤ 1267650600228229401496703205376) : RR x = x := (RR_spec h1 h2).exact hx
theorem Rsp.rp {x y : Rat} (h : Rsp x y) : Rp y := by
  obtain ⟨n, r, rfl, h2, h3, -⟩ := h
  exact ⟨n, r, rfl, h3, h2⟩
theorem Rsp.le {x y z : Rat} (h : Rsp x y) (hz : Rp z) (q : x ≤ z) : y ≤ z := by
  have := h.near hz (z - x) (by grind) (by grind)
  grind
theorem Rsp.ge {x y z : Rat} (h : Rsp x y) (hz : Rp z) (q : z ≤ x) : z ≤ y := by
  have := h.near hz (x - z) (by grind) (by grind)
  grind
theorem RR_mono {x y : Rat} (h : x ≤ y) (x1 : -1267650600228229401496703205376 ≤ x) (y2 : y ≤ 1267650600228229401496703205376) : RR x ≤ RR y := by
  by_cases q : x = y
  · rw [q]; exact Rat.le_refl
  · have hx := RR_spec x1 (by grind)
    have hy := RR_spec (by grind) y2
    by_cases g : RR x ≤ RR y
    · exact g
    · have g := Rat.not_le.mp g
      -- RR y < RR x
      have a := fun t => hx.near hy.rp t
      have b := fun t => hy.near hx.rp t
      generalize RR x = X at *
      generalize RR y = Y at *
      by_cases c1 : x ≤ Y
      · have := a (Y - x) (by grind) (by grind)
        grind
      · by_cases c2 : X ≤ y
        · have := b (y - X) (by grind) (by grind)
          grind
        · have k1 := a (x - Y) (by grind) (by grind)
          have k2 := b (X - y) (by grind) (by grind)
          grind
/-- the relative error, of what is not tiny -/
theorem Rsp.err {x y : Rat} (h : Rsp x y) (hx : 1 ≤ x * 1267650600228229401496703205376) : 9007199254740992 * (y - x) ≤ x ∧ 9007199254740992 * (x - y) ≤ x := by
  obtain ⟨n, r, rfl, h2, h3, h4, h5, h6, h7, h8⟩ := h
  have hu := p2pos r
  have k : 4503599627370496 * (2 : Rat) ^ r ≤ x := by
    rcases h8 with q | q | q
    · subst q
      have e1 : (2 : Rat) ^ (-1022 : Int) = 4503599627370496 * (2 : Rat) ^ (-1074 : Int) := by
        rw [show (-1022 : Int) = 52 + -1074 from rfl, p2add, show (2 : Rat) ^ (52 : Int) = 4503599627370496 by decide +kernel]
      have e2 : (2 : Rat) ^ (-1022 : Int) ≤ (2 : Rat) ^ (-100 : Int) := p2le (by decide)
      have e3 : (2 : Rat) ^ (-100 : Int) * (2 : Rat) ^ (100 : Int) = 1 := by rw [← p2add]; rfl
      have e4 : (2 : Rat) ^ (100 : Int) = 1267650600228229401496703205376 := by decide +kernel
      rw [e4] at e3
      rw [← e1]
      generalize (2 : Rat) ^ (-1022 : Int) = v at *
      generalize (2 : Rat) ^ (-100 : Int) = w at *
      grind
    · exact q
    · generalize (2 : Rat) ^ r = u at *
      grind
  generalize (2 : Rat) ^ r = u at *
  constructor <;> grind
/-- the error, of whatever size: relative, or below 2^-53 -/
theorem err_any {x : Rat} (h1 : -1267650600228229401496703205376 ≤ x) (h2 : x ≤ 1267650600228229401496703205376) (t : Rat) (t1 : x ≤ t) (t2 : -x ≤ t) : 9007199254740992 * (RR x - x) ≤ t + 1 ∧ 9007199254740992 * (x - RR x) ≤ t + 1 := by
  have h := RR_spec h1 h2
  generalize RR x = y at *
  obtain ⟨n, r, rfl, g2, g3, g4, g5, g6, g7, g8⟩ := h
  have hu := p2pos r
  have k : 4503599627370496 * (2 : Rat) ^ r ≤ t + 1 := by
    rcases g8 with q | q | q
    · subst q
      have e1 : (2 : Rat) ^ (-1022 : Int) = 4503599627370496 * (2 : Rat) ^ (-1074 : Int) := by
        rw [show (-1022 : Int) = 52 + -1074 from rfl, p2add, show (2 : Rat) ^ (52 : Int) = 4503599627370496 by decide +kernel]
      have e2 : (2 : Rat) ^ (-1022 : Int) ≤ (2 : Rat) ^ (0 : Int) := p2le (by decide)
      rw [Rat.zpow_zero] at e2
      rw [← e1]
      generalize (2 : Rat) ^ (-1022 : Int) = v at *
      grind
    · generalize (2 : Rat) ^ r = u at *
      grind
    · generalize (2 : Rat) ^ r = u at *
      grind
  generalize (2 : Rat) ^ r = u at *
  constructor <;> grind
theorem rp_int {n : Int} (h : n.natAbs ≤ 2 ^ 53) : Rp (n : Rat) := ⟨n, 0, by rw [Rat.zpow_zero, Rat.mul_one], h, by decide⟩
theorem rp_scale {z : Rat} (k : Int) {m : Int} (h : z = (m : Rat) * (2 : Rat) ^ k) (hm : m.natAbs ≤ 2 ^ 53) (hk : -1074 ≤ k) : Rp z := ⟨m, k, h, hm, hk⟩
theorem RR_int {n : Int} (h : n.natAbs ≤ 2 ^ 53) : RR (n : Rat) = (n : Rat) := by
  refine RR_exact (rp_int h) ?_ ?_
  · have := Rat.intCast_le_intCast.mpr (show (-9007199254740992 : Int) ≤ n by omega); grind
  · have := Rat.intCast_le_intCast.mpr (show n ≤ (9007199254740992 : Int) by omega); grind
theorem i2d_DV (n : Int32) : DV (Jvm.FP.i2d n) (n.toInt : Rat) := by
  have h := n.le_toInt
  have h' := n.toInt_lt
  have q := i2d_RR n
  rw [RR_int (by omega)] at q
  exact q
theorem l2d_DV {n : Int64} (h : n.toInt.natAbs ≤ 2 ^ 53) : DV (Jvm.FP.l2d n) (n.toInt : Rat) := by
  have q := l2d_RR n
  rw [RR_int h] at q
  exact q
/-- a written double, by its fields -/
theorem lit_DV {v : UInt64} {s : Bool} {c : Nat} {q : Int} {x : Rat} (h : val64 v = .fin s c q) (hx : ((signed s c : Int) : Rat) * (2 : Rat) ^ q = x) : DV v x := ⟨s, c, q, h, hx⟩
theorem dneg_DV {v : UInt64} {x : Rat} (h : DV v x) : DV (Jvm.FP.dneg v) (-x) := by
  obtain ⟨s, c, q, h1, rfl⟩ := h
  refine ⟨!s, c, q, by rw [Jvm.FP.val64_dneg, h1]; rfl, ?_⟩
  show ((signed (!s) c : Int) : Rat) * _ = -(((signed s c : Int) : Rat) * _)
  rw [signed_not, Rat.intCast_neg, Rat.neg_mul]
theorem DV.whole {v : UInt64} {n : Int} (h : DV v (n : Rat)) : DInt n v := by
  obtain ⟨s, c, q, h1, h2⟩ := h
  unfold DInt
  rw [h1]
  show signed s (c * 2 ^ q.toNat) = n * ((2 ^ (-q).toNat : Nat) : Int)
  refine Rat.intCast_inj.mp ?_
  have h3 : ((signed s c : Int) : Rat) * (2 : Rat) ^ q = (n : Rat) := h2
  rw [signed_mul, Rat.intCast_mul, Rat.intCast_mul, ← h3, Rat.mul_assoc, show (((2 ^ (-q).toNat : Nat) : Int) : Rat) = ((2 ^ (-q).toNat : Nat) : Rat) from rfl, show (((2 ^ q.toNat : Nat) : Int) : Rat) = ((2 ^ q.toNat : Nat) : Rat) from rfl, ← p2nat, ← p2nat, ← p2add, show q + ((-q).toNat : Int) = (q.toNat : Int) by omega]
theorem d2l_DV {v : UInt64} {n : Int64} (h : DV v (n.toInt : Rat)) : Jvm.FP.d2l v = n := d2l_int h.whole
theorem DV.cast {v : UInt64} {x y : Rat} (h : DV v x) (e : x = y) : DV v y := e ▸ h
end Jvm.OwnFl
namespace Jvm.Pilot.@@N@@
open Jvm Jvm.ClassFile Sem Op Lib Jvm.Free Jvm.Stand Jvm.LawKit Jvm.RoadKit Jvm.OwnKit Bundle Jvm.Pilot.@@N@@.Jvm.D
theorem wd {a0 : Array Value} {Z : State} {d : Jvm.Cond} (hw : ∀ d ∈ tables_1, d.before a0 Z = true) (i : Nat) (h : tables_1[i]? = some d) : d.before a0 Z = true := hw d (List.mem_of_getElem? h)
theorem d1_0 : decode prog_5_method_1_code 0 = .ok (.aload_n 0, 1) := by decide +kernel
theorem d1_1 : decode prog_5_method_1_code 1 = .ok (.invokespecial 1, 3) := by decide +kernel
theorem d1_4 : decode prog_5_method_1_code 4 = .ok (.aload_n 0, 1) := by decide +kernel
theorem d1_5 : decode prog_5_method_1_code 5 = .ok (.ldc2_w 9, 3) := by decide +kernel
theorem d1_8 : decode prog_5_method_1_code 8 = .ok (.putfield 11, 3) := by decide +kernel
theorem d1_11 : decode prog_5_method_1_code 11 = .ok (.aload_n 0, 1) := by decide +kernel
theorem d1_12 : decode prog_5_method_1_code 12 = .ok (.iload 5, 2) := by decide +kernel
theorem d1_14 : decode prog_5_method_1_code 14 = .ok (.putfield 17, 3) := by decide +kernel
theorem d1_17 : decode prog_5_method_1_code 17 = .ok (.aload_n 0, 1) := by decide +kernel
theorem d1_18 : decode prog_5_method_1_code 18 = .ok (.dload_n 1, 1) := by decide +kernel
theorem d1_19 : decode prog_5_method_1_code 19 = .ok (.dload_n 3, 1) := by decide +kernel
theorem d1_20 : decode prog_5_method_1_code 20 = .ok (.invokevirtual 21, 3) := by decide +kernel
theorem d1_23 : decode prog_5_method_1_code 23 = .ok (.aload_n 0, 1) := by decide +kernel
theorem d1_24 : decode prog_5_method_1_code 24 = .ok (.dload_n 3, 1) := by decide +kernel
theorem d1_25 : decode prog_5_method_1_code 25 = .ok (.putfield 25, 3) := by decide +kernel
theorem d1_28 : decode prog_5_method_1_code 28 = .ok (.return_, 1) := by decide +kernel
theorem d3_0 : decode prog_5_method_10_code 0 = .ok (.aload_n 0, 1) := by decide +kernel
theorem d3_1 : decode prog_5_method_10_code 1 = .ok (.dload_n 1, 1) := by decide +kernel
theorem d3_2 : decode prog_5_method_10_code 2 = .ok (.putfield 75, 3) := by decide +kernel
theorem d3_5 : decode prog_5_method_10_code 5 = .ok (.aload_n 0, 1) := by decide +kernel
theorem d3_6 : decode prog_5_method_10_code 6 = .ok (.ldc2_w 78, 3) := by decide +kernel
theorem d3_9 : decode prog_5_method_10_code 9 = .ok (.dload_n 1, 1) := by decide +kernel
theorem d3_10 : decode prog_5_method_10_code 10 = .ok (.ddiv, 1) := by decide +kernel
theorem d3_11 : decode prog_5_method_10_code 11 = .ok (.putfield 35, 3) := by decide +kernel
theorem d3_14 : decode prog_5_method_10_code 14 = .ok (.aload_n 0, 1) := by decide +kernel
theorem d3_15 : decode prog_5_method_10_code 15 = .ok (.dload_n 3, 1) := by decide +kernel
theorem d3_16 : decode prog_5_method_10_code 16 = .ok (.putfield 32, 3) := by decide +kernel
theorem d3_19 : decode prog_5_method_10_code 19 = .ok (.return_, 1) := by decide +kernel
theorem d4_0 : decode prog_5_method_8_code 0 = .ok (.aload_n 0, 1) := by decide +kernel
theorem d4_1 : decode prog_5_method_8_code 1 = .ok (.getfield 11, 3) := by decide +kernel
theorem d4_4 : decode prog_5_method_8_code 4 = .ok (.lload_n 1, 1) := by decide +kernel
theorem d4_5 : decode prog_5_method_8_code 5 = .ok (.lsub, 1) := by decide +kernel
theorem d4_6 : decode prog_5_method_8_code 6 = .ok (.lstore 5, 2) := by decide +kernel
theorem d4_8 : decode prog_5_method_8_code 8 = .ok (.lload 5, 2) := by decide +kernel
theorem d4_10 : decode prog_5_method_8_code 10 = .ok (.lconst 0, 1) := by decide +kernel
theorem d4_11 : decode prog_5_method_8_code 11 = .ok (.lcmp, 1) := by decide +kernel
theorem d4_12 : decode prog_5_method_8_code 12 = .ok (.ifCond .ge 7, 3) := by decide +kernel
theorem d4_15 : decode prog_5_method_8_code 15 = .ok (.iconst 1, 1) := by decide +kernel
theorem d4_16 : decode prog_5_method_8_code 16 = .ok (.goto 4, 3) := by decide +kernel
theorem d4_19 : decode prog_5_method_8_code 19 = .ok (.iconst 0, 1) := by decide +kernel
theorem d4_20 : decode prog_5_method_8_code 20 = .ok (.aload_n 0, 1) := by decide +kernel
theorem d4_21 : decode prog_5_method_8_code 21 = .ok (.getfield 11, 3) := by decide +kernel
theorem d4_24 : decode prog_5_method_8_code 24 = .ok (.lload_n 1, 1) := by decide +kernel
theorem d4_25 : decode prog_5_method_8_code 25 = .ok (.lcmp, 1) := by decide +kernel
theorem d4_26 : decode prog_5_method_8_code 26 = .ok (.ifCond .ge 7, 3) := by decide +kernel
theorem d4_29 : decode prog_5_method_8_code 29 = .ok (.iconst 1, 1) := by decide +kernel
theorem d4_30 : decode prog_5_method_8_code 30 = .ok (.goto 4, 3) := by decide +kernel
theorem d4_33 : decode prog_5_method_8_code 33 = .ok (.iconst 0, 1) := by decide +kernel
theorem d4_34 : decode prog_5_method_8_code 34 = .ok (.if_icmp .eq 7, 3) := by decide +kernel
theorem d4_37 : decode prog_5_method_8_code 37 = .ok (.iconst 1, 1) := by decide +kernel
theorem d4_38 : decode prog_5_method_8_code 38 = .ok (.goto 4, 3) := by decide +kernel
theorem d4_41 : decode prog_5_method_8_code 41 = .ok (.iconst 0, 1) := by decide +kernel
theorem d4_42 : decode prog_5_method_8_code 42 = .ok (.istore 7, 2) := by decide +kernel
theorem d4_44 : decode prog_5_method_8_code 44 = .ok (.iload 7, 2) := by decide +kernel
theorem d4_46 : decode prog_5_method_8_code 46 = .ok (.ifCond .eq 14, 3) := by decide +kernel
theorem d4_49 : decode prog_5_method_8_code 49 = .ok (.aload_n 0, 1) := by decide +kernel
theorem d4_50 : decode prog_5_method_8_code 50 = .ok (.getfield 11, 3) := by decide +kernel
theorem d4_53 : decode prog_5_method_8_code 53 = .ok (.l2d, 1) := by decide +kernel
theorem d4_54 : decode prog_5_method_8_code 54 = .ok (.lload_n 1, 1) := by decide +kernel
theorem d4_55 : decode prog_5_method_8_code 55 = .ok (.l2d, 1) := by decide +kernel
theorem d4_56 : decode prog_5_method_8_code 56 = .ok (.dsub, 1) := by decide +kernel
theorem d4_57 : decode prog_5_method_8_code 57 = .ok (.goto 6, 3) := by decide +kernel
theorem d4_60 : decode prog_5_method_8_code 60 = .ok (.lload 5, 2) := by decide +kernel
theorem d4_62 : decode prog_5_method_8_code 62 = .ok (.l2d, 1) := by decide +kernel
theorem d4_63 : decode prog_5_method_8_code 63 = .ok (.dstore 8, 2) := by decide +kernel
theorem d4_65 : decode prog_5_method_8_code 65 = .ok (.dload 8, 2) := by decide +kernel
theorem d4_67 : decode prog_5_method_8_code 67 = .ok (.aload_n 0, 1) := by decide +kernel
theorem d4_68 : decode prog_5_method_8_code 68 = .ok (.getfield 29, 3) := by decide +kernel
theorem d4_71 : decode prog_5_method_8_code 71 = .ok (.dload_n 3, 1) := by decide +kernel
theorem d4_72 : decode prog_5_method_8_code 72 = .ok (.dsub, 1) := by decide +kernel
theorem d4_73 : decode prog_5_method_8_code 73 = .ok (.dadd, 1) := by decide +kernel
theorem d4_74 : decode prog_5_method_8_code 74 = .ok (.dreturn, 1) := by decide +kernel
theorem pd_0 : parseMethodDescriptor "(DD)V" = some ⟨[.double, .double], none⟩ := by decide +kernel
theorem pd_1 : parseMethodDescriptor "(DDZ)V" = some ⟨[.double, .double, .boolean], none⟩ := by decide +kernel
theorem pd_2 : parseMethodDescriptor "(JD)D" = some ⟨[.long, .double], some .double⟩ := by decide +kernel
section OwnPlain
open Jvm.OwnFl
theorem own_z : DV 0 0 := lit_DV (s := false) (c := 0) (q := -1074) (by decide +kernel) (by decide +kernel)
theorem own_256 : DV 4643211215818981376 256 := lit_DV (s := false) (c := 2 ^ 52) (q := -44) (by decide +kernel) (by decide +kernel)
theorem own_2 : DV 4611686018427387904 2 := lit_DV (s := false) (c := 2 ^ 52) (q := -51) (by decide +kernel) (by decide +kernel)
theorem own_4 : DV 4616189618054758400 4 := lit_DV (s := false) (c := 2 ^ 52) (q := -50) (by decide +kernel) (by decide +kernel)
theorem own_p47 : DV 4395513236313604096 (1 / 140737488355328) := lit_DV (s := false) (c := 2 ^ 52) (q := -99) (by decide +kernel) (by decide +kernel)
theorem own_nan : Jvm.Free.Fl.NoNaN64 (FP.ddiv 4741671816366391296 4607182418800017408) := by unfold Jvm.Free.Fl.NoNaN64; decide +kernel
theorem own_r256 {k : Int} (h1 : -2147483648 ≤ k) (h2 : k ≤ 2147483648) : Rp ((k : Rat) / 256) ∧ (k : Rat) / 256 = (k : Rat) * (1 / 256) := by
  have e : (k : Rat) / 256 = (k : Rat) * (1 / 256) := by rw [Rat.div_def, Rat.div_def, Rat.one_mul]
  exact ⟨⟨k, -8, by rw [e]; congr 1 <;> decide +kernel, by omega, by decide⟩, e⟩
theorem own_frac (n : Int32) (h0 : 0 ≤ n.toInt) (h1 : n.toInt ≤ 255) : DV (FP.ddiv (FP.i2d n) 4643211215818981376) ((n.toInt : Rat) / 256) := by
  obtain ⟨r, e⟩ := own_r256 (k := n.toInt) (by omega) (by omega)
  have b1 : (0 : Rat) ≤ (n.toInt : Rat) := Rat.intCast_nonneg.mpr h0
  have b2 : (n.toInt : Rat) ≤ 255 := by have := Rat.intCast_le_intCast.mpr h1; simpa using this
  have q := ddiv_DV (OwnFl.i2d_DV n) own_256 (by decide) (by rw [e]; grind) (by rw [e]; grind)
  rwa [RR_exact r (by rw [e]; grind) (by rw [e]; grind)] at q
theorem own_diff {x y : UInt64} {i j : Int} (hx : DV x ((i : Rat) / 256)) (hy : DV y ((j : Rat) / 256)) (i0 : 0 ≤ i) (i1 : i ≤ 255) (j0 : 0 ≤ j) (j1 : j ≤ 255) : DV (FP.dsub x y) (((i - j : Int) : Rat) / 256) ∧ -1 < ((i - j : Int) : Rat) / 256 ∧ ((i - j : Int) : Rat) / 256 < 1 ∧ -255 ≤ ((i - j : Int) : Rat) / 256 * 256 ∧ ((i - j : Int) : Rat) / 256 * 256 ≤ 255 := by
  obtain ⟨r, e⟩ := own_r256 (k := i - j) (by omega) (by omega)
  have b1 : (-255 : Rat) ≤ ((i - j : Int) : Rat) := by have := Rat.intCast_le_intCast.mpr (show (-255 : Int) ≤ i - j by omega); simpa using this
  have b2 : ((i - j : Int) : Rat) ≤ 255 := by have := Rat.intCast_le_intCast.mpr (show i - j ≤ (255 : Int) by omega); simpa using this
  have e2 : (i : Rat) / 256 - (j : Rat) / 256 = ((i - j : Int) : Rat) / 256 := by rw [Rat.intCast_sub, Rat.div_def, Rat.div_def, Rat.div_def]; grind
  have q := dsub_DV hx hy (by rw [e2, e]; grind) (by rw [e2, e]; grind)
  rw [e2, RR_exact r (by rw [e]; grind) (by rw [e]; grind)] at q
  refine ⟨q, ?_, ?_, ?_, ?_⟩ <;> rw [e] <;> grind
/-- what is known of the span S of a whole difference d -/
def OwnSpan (d : Int) (S : Rat) : Prop := (1 ≤ d → 1 ≤ S) ∧ (d ≤ -1 → S ≤ -1) ∧ (d = 0 → S = 0) ∧ (∀ t : Rat, (d : Rat) ≤ t → -(d : Rat) ≤ t → 2251799813685248 * (S - d) ≤ t + 4 ∧ 2251799813685248 * (d - S) ≤ t + 4)
theorem own_span1 {d : Int} (h1 : -9223372036854775808 ≤ d) (h2 : d ≤ 9223372036854775808) : OwnSpan d (RR (d : Rat)) := by
  have b1 : (-9223372036854775808 : Rat) ≤ (d : Rat) := by have := Rat.intCast_le_intCast.mpr h1; simpa using this
  have b2 : (d : Rat) ≤ 9223372036854775808 := by have := Rat.intCast_le_intCast.mpr h2; simpa using this
  have s := RR_spec (x := (d : Rat)) (by grind) (by grind)
  refine ⟨fun h => ?_, fun h => ?_, fun h => ?_, fun t t1 t2 => ?_⟩
  · have k : (1 : Rat) ≤ (d : Rat) := by have := Rat.intCast_le_intCast.mpr h; simpa using this
    exact s.ge (rp_int (n := 1) (by decide)) k
  · have k : (d : Rat) ≤ -1 := by have := Rat.intCast_le_intCast.mpr h; simpa using this
    exact s.le (rp_int (n := -1) (by decide)) k
  · rw [h]; exact RR_int (n := 0) (by decide)
  · have := err_any (x := (d : Rat)) (by grind) (by grind) t t1 t2
    grind
theorem own_span2 {A B : Int} (a1 : -9223372036854775808 ≤ A) (a2 : A < 9223372036854775808) (b1 : -9223372036854775808 ≤ B) (b2 : B < 9223372036854775808) (h : 9223372036854775808 ≤ A - B ∨ A - B ≤ -9223372036854775808) : OwnSpan (A - B) (RR (RR (A : Rat) - RR (B : Rat))) ∧ -36893488147419103232 ≤ RR (A : Rat) - RR (B : Rat) ∧ RR (A : Rat) - RR (B : Rat) ≤ 36893488147419103232 := by
  have A1 : (-9223372036854775808 : Rat) ≤ (A : Rat) := by have := Rat.intCast_le_intCast.mpr a1; simpa using this
  have A2 : (A : Rat) ≤ 9223372036854775808 := by have := Rat.intCast_le_intCast.mpr (Int.le_of_lt a2); simpa using this
  have B1 : (-9223372036854775808 : Rat) ≤ (B : Rat) := by have := Rat.intCast_le_intCast.mpr b1; simpa using this
  have B2 : (B : Rat) ≤ 9223372036854775808 := by have := Rat.intCast_le_intCast.mpr (Int.le_of_lt b2); simpa using this
  have eA := err_any (x := (A : Rat)) (by grind) (by grind) 9223372036854775808 (by grind) (by grind)
  have eB := err_any (x := (B : Rat)) (by grind) (by grind) 9223372036854775808 (by grind) (by grind)
  generalize RR (A : Rat) = a at *
  generalize RR (B : Rat) = b at *
  have k1 : -36893488147419103232 ≤ a - b := by grind
  have k2 : a - b ≤ 36893488147419103232 := by grind
  have s := RR_spec (x := a - b) (by grind) (by grind)
  have hd : ((A - B : Int) : Rat) = (A : Rat) - (B : Rat) := by rw [Rat.intCast_sub]
  have h' : (9223372036854775808 : Rat) ≤ (A : Rat) - B ∨ (A : Rat) - B ≤ -9223372036854775808 := by
    rcases h with h | h
    · left; have := Rat.intCast_le_intCast.mpr h; rw [hd] at this; exact this
    · right; have := Rat.intCast_le_intCast.mpr h; rw [hd] at this; simpa using this
  refine ⟨⟨fun h => ?_, fun h => ?_, fun h => ?_, fun t t1 t2 => ?_⟩, k1, k2⟩
  · have k : (1 : Rat) ≤ (A : Rat) - B := by have := Rat.intCast_le_intCast.mpr h; rw [hd] at this; exact this
    exact s.ge (rp_int (n := 1) (by decide)) (show (1 : Rat) ≤ a - b by grind)
  · have k : (A : Rat) - B ≤ -1 := by have := Rat.intCast_le_intCast.mpr h; rw [hd] at this; simpa using this
    exact s.le (rp_int (n := -1) (by decide)) (show a - b ≤ (-1 : Rat) by grind)
  · omega
  · rw [hd] at t1 t2 ⊢
    have := err_any (x := a - b) (by grind) (by grind) (2 * t) (by grind) (by grind)
    generalize RR (a - b) = S at *
    grind
theorem own_bound {d : Int} {S : Rat} (h : OwnSpan d S) (d1 : -18446744073709551616 ≤ d) (d2 : d ≤ 18446744073709551616) : -36893488147419103232 ≤ S ∧ S ≤ 36893488147419103232 := by
  have b1 : (-18446744073709551616 : Rat) ≤ (d : Rat) := by have := Rat.intCast_le_intCast.mpr d1; simpa using this
  have b2 : (d : Rat) ≤ 18446744073709551616 := by have := Rat.intCast_le_intCast.mpr d2; simpa using this
  have := h.2.2.2 18446744073709551616 (by grind) (by grind)
  grind
theorem own_sign {d : Int} {S c : Rat} (h : OwnSpan d S) (d1 : -18446744073709551616 ≤ d) (d2 : d ≤ 18446744073709551616) (c1 : -255 ≤ c * 256) (c2 : c * 256 ≤ 255) (hc : Rp c) : (1 ≤ d → 0 < RR (S + c)) ∧ (d ≤ -1 → RR (S + c) < 0) ∧ (d = 0 → RR (S + c) = c) := by
  obtain ⟨b1, b2⟩ := own_bound h d1 d2
  have s := RR_spec (x := S + c) (by grind) (by grind)
  refine ⟨fun g => ?_, fun g => ?_, fun g => ?_⟩
  · have k := h.1 g
    have := s.ge (z := 1 / 256) ⟨1, -8, by decide +kernel, by decide, by decide⟩ (by grind)
    grind
  · have k := h.2.1 g
    have := s.le (z := -(1 / 256)) ⟨-1, -8, by decide +kernel, by decide, by decide⟩ (by grind)
    grind
  · have k := h.2.2.1 g
    rw [k, show (0 : Rat) + c = c by grind]
    exact RR_exact hc (by grind) (by grind)
/-- the last check -/
theorem own_tol {d : Int} {S c e H h2 ref ab : Rat} (hS : OwnSpan d S) (d1 : -18446744073709551616 ≤ d) (d2 : d ≤ 18446744073709551616) (c1 : -1 < c) (c2 : c < 1) (e1 : -2 < e) (e2 : e < 2) (hH : 2 * H + e = (d : Rat) + c) (hh2 : h2 = RR (2 * RR H)) (hr : ref = RR (h2 + e)) (hab : (ab = ref ∧ 0 ≤ ref) ∨ (ab = -ref ∧ ref ≤ 0)) :
    RR (RR (S + c) - ref) ≤ RR (RR (ab * (1 / 140737488355328)) + 4) ∧ -RR (RR (ab * (1 / 140737488355328)) + 4) ≤ RR (RR (S + c) - ref) ∧
    (-100000000000000000000 ≤ 2 * RR H ∧ 2 * RR H ≤ 100000000000000000000) ∧ (-100000000000000000000 ≤ h2 + e ∧ h2 + e ≤ 100000000000000000000) ∧ (-100000000000000000000 ≤ ab * (1 / 140737488355328) ∧ ab * (1 / 140737488355328) ≤ 100000000000000000000) ∧ (-100000000000000000000 ≤ RR (ab * (1 / 140737488355328)) + 4 ∧ RR (ab * (1 / 140737488355328)) + 4 ≤ 100000000000000000000) ∧ (-100000000000000000000 ≤ RR (S + c) - ref ∧ RR (S + c) - ref ≤ 100000000000000000000) := by
  have b1 : (-18446744073709551616 : Rat) ≤ (d : Rat) := by have := Rat.intCast_le_intCast.mpr d1; simpa using this
  have b2 : (d : Rat) ≤ 18446744073709551616 := by have := Rat.intCast_le_intCast.mpr d2; simpa using this
  obtain ⟨T, hT⟩ : ∃ T : Rat, (T = (d : Rat) ∧ 0 ≤ (d : Rat)) ∨ (T = -(d : Rat) ∧ (d : Rat) ≤ 0) := by
    by_cases q : (0 : Rat) ≤ (d : Rat)
    · exact ⟨_, Or.inl ⟨rfl, q⟩⟩
    · exact ⟨_, Or.inr ⟨rfl, by grind⟩⟩
  have T1 : (d : Rat) ≤ T := by grind
  have T2 : -(d : Rat) ≤ T := by grind
  have T3 : T ≤ 18446744073709551616 := by grind
  have T0 : 0 ≤ T := by grind
  have eS := hS.2.2.2 T T1 T2
  clear hS d1 d2
  generalize (d : Rat) = D at *
  -- r
  have er := err_any (x := S + c) (by grind) (by grind) (2 * T + 4) (by grind) (by grind)
  generalize RR (S + c) = r at *
  have k1 : 9007199254740992 * (r - (D + c)) ≤ 6 * T + 21 := by grind
  have k2 : 9007199254740992 * ((D + c) - r) ≤ 6 * T + 21 := by grind
  clear eS er
  -- ref
  have eH := err_any (x := H) (by grind) (by grind) (T + 2) (by grind) (by grind)
  generalize RR H = hh at *
  have m1 : -100000000000000000000 ≤ 2 * hh := by grind
  have m2 : 2 * hh ≤ 100000000000000000000 := by grind
  have e2h := err_any (x := 2 * hh) (by grind) (by grind) (2 * T + 8) (by grind) (by grind)
  rw [← hh2] at e2h
  have m3 : -100000000000000000000 ≤ h2 + e := by grind
  have m4 : h2 + e ≤ 100000000000000000000 := by grind
  have eref := err_any (x := h2 + e) (by grind) (by grind) (2 * T + 12) (by grind) (by grind)
  rw [← hr] at eref
  have k3 : 9007199254740992 * (ref - (D + c)) ≤ 6 * T + 30 := by grind
  have k4 : 9007199254740992 * ((D + c) - ref) ≤ 6 * T + 30 := by grind
  clear eH e2h eref hH hh2 hr
  have ab0 : 0 ≤ ab := by grind
  have ab1 : ab ≤ 2 * T + 4 := by grind
  have ab2 : T ≤ 2 * ab + 4 := by grind
  have m5 : ab * (1 / 140737488355328) ≤ 100000000000000000000 := by grind
  have et := err_any (x := ab * (1 / 140737488355328)) (by grind) (by grind) (ab * (1 / 140737488355328)) (by grind) (by grind)
  generalize RR (ab * (1 / 140737488355328)) = t1 at *
  have m6 : t1 + 4 ≤ 100000000000000000000 := by grind
  have m7 : -100000000000000000000 ≤ t1 + 4 := by grind
  have etol := err_any (x := t1 + 4) (by grind) (by grind) (t1 + 4) (by grind) (by grind)
  generalize RR (t1 + 4) = tol at *
  have m8 : -100000000000000000000 ≤ r - ref := by grind
  have m9 : r - ref ≤ 100000000000000000000 := by grind
  have edd := err_any (x := r - ref) (by grind) (by grind) (T + 1) (by grind) (by grind)
  generalize RR (r - ref) = dd at *
  refine ⟨by grind, by grind, ⟨m1, m2⟩, ⟨m3, m4⟩, ⟨by grind, m5⟩, ⟨m7, m6⟩, ⟨m8, m9⟩⟩
theorem own_sp (A B : Int64) : ∃ (sp : UInt64) (S : Rat), (((A - B < 0 ↔ A < B) ∧ FP.l2d (A - B) = sp) ∨ ((¬ (A - B < 0) ↔ A < B) ∧ FP.dsub (FP.l2d A) (FP.l2d B) = sp)) ∧ DV sp S ∧ OwnSpan (A.toInt - B.toInt) S ∧ ((A.toInt - B.toInt).natAbs ≤ 2 ^ 53 → S = ((A.toInt - B.toInt : Int) : Rat)) := by
  have a := c_lsub A B
  have b := rng64 (A - B)
  have ra := rng64 A
  have rb := rng64 B
  have z : (0 : Int64).toInt = 0 := by decide
  have i1 : A - B < 0 ↔ (A - B).toInt < 0 := by rw [Int64.lt_iff_toInt_lt, z]
  have i2 : A < B ↔ A.toInt < B.toInt := Int64.lt_iff_toInt_lt
  by_cases q : (A - B < 0 ↔ A < B)
  · have e : (A - B).toInt = A.toInt - B.toInt := by
      rw [i1, i2] at q
      by_cases c : A.toInt < B.toInt
      · have := q.mpr c; omega
      · have : ¬ (A - B).toInt < 0 := fun g => c (q.mp g)
        omega
    refine ⟨_, RR ((A.toInt - B.toInt : Int) : Rat), Or.inl ⟨q, rfl⟩, ?_, own_span1 (by omega) (by omega), fun g => RR_int g⟩
    have d := l2d_RR (A - B)
    rwa [e] at d
  · have q' : ¬ (A - B < 0) ↔ A < B := by
      by_cases c1 : A - B < 0 <;> by_cases c2 : A < B <;> simp_all
    have e : 9223372036854775808 ≤ A.toInt - B.toInt ∨ A.toInt - B.toInt ≤ -9223372036854775808 := by
      rw [i1, i2] at q'
      by_cases c : A.toInt < B.toInt
      · have := q'.mpr c; omega
      · have : (A - B).toInt < 0 := by
          by_cases g : (A - B).toInt < 0
          · exact g
          · exact absurd (q'.mp g) c
        omega
    obtain ⟨s1, s2, s3⟩ := own_span2 (by omega) (by omega) (by omega) (by omega) e
    exact ⟨_, _, Or.inr ⟨q', rfl⟩, dsub_DV (l2d_RR A) (l2d_RR B) (by grind) (by grind), s1, fun g => by omega⟩
/-- the small part -/
theorem own_e {x cc : UInt64} {E k : Int} (hx : DV x (E : Rat)) (hc : DV cc ((k : Rat) / 256)) (E1 : -1 ≤ E) (E2 : E ≤ 1) (k1 : -255 ≤ k) (k2 : k ≤ 255) : DV (FP.dadd x cc) ((E : Rat) + (k : Rat) / 256) ∧ -2 < (E : Rat) + (k : Rat) / 256 ∧ (E : Rat) + (k : Rat) / 256 < 2 := by
  obtain ⟨r, e⟩ := own_r256 (k := 256 * E + k) (by omega) (by omega)
  have b1 : (-511 : Rat) ≤ ((256 * E + k : Int) : Rat) := by have := Rat.intCast_le_intCast.mpr (show (-511 : Int) ≤ 256 * E + k by omega); simpa using this
  have b2 : ((256 * E + k : Int) : Rat) ≤ 511 := by have := Rat.intCast_le_intCast.mpr (show 256 * E + k ≤ (511 : Int) by omega); simpa using this
  have e2 : (E : Rat) + (k : Rat) / 256 = ((256 * E + k : Int) : Rat) / 256 := by
    rw [Rat.intCast_add, Rat.intCast_mul, Rat.div_def, Rat.div_def]
    have : (256 : Rat) * 256⁻¹ = 1 := by decide +kernel
    rw [show ((256 : Int) : Rat) = 256 from rfl]
    grind
  have q := dadd_DV hx hc (by rw [e2, e]; grind) (by rw [e2, e]; grind)
  rw [e2, RR_exact r (by rw [e]; grind) (by rw [e]; grind)] at q
  rw [e2]
  refine ⟨q, ?_, ?_⟩ <;> rw [e] <;> grind
end OwnPlain
def Q_rmA (Z : State) (a : Addr) (r mx : UInt64) (u_nextFreeNanos : Int64) (u_warmUp : Int32) (u_rate : UInt64) (u_stableIntervalNanos : UInt64) (u_maxSavedUpPermits : UInt64) (u_savedUpPermits : UInt64) (u_nextFreeFraction : UInt64) (h0 : Heap) (n0 : Nat) (v : Option Value) (h : Heap) (L : List Loc) : Prop := v = none ∧ Fr n0 L ∧ Keep h0 h [a] ∧ Exa Z h a "com/example/schleuse/schleuse/LimiterState" ∧ Fld Z h a "com/example/schleuse/schleuse/LimiterState" "nextFreeNanos" "J" (.long u_nextFreeNanos) ∧ Fld Z h a "com/example/schleuse/schleuse/LimiterState" "warmUp" "Z" (.int u_warmUp) ∧ Fld Z h a "com/example/schleuse/schleuse/LimiterState" "rate" "D" (.double r) ∧ Fld Z h a "com/example/schleuse/schleuse/LimiterState" "stableIntervalNanos" "D" (.double (FP.ddiv (4741671816366391296 : UInt64) r)) ∧ Fld Z h a "com/example/schleuse/schleuse/LimiterState" "maxSavedUpPermits" "D" (.double mx) ∧ Fld Z h a "com/example/schleuse/schleuse/LimiterState" "savedUpPermits" "D" (.double u_savedUpPermits) ∧ Fld Z h a "com/example/schleuse/schleuse/LimiterState" "nextFreeFraction" "D" (.double u_nextFreeFraction)
set_option maxRecDepth 65536 in
set_option maxHeartbeats 40000000 in
theorem rmA (l : Launch) (Z : State) (a0 : Array Value) (hw : ∀ d ∈ tables_1, d.before a0 Z = true) (ws : List Jvm.Cond) (a : Addr) (r mx : UInt64) (u_nextFreeNanos : Int64) (u_warmUp : Int32) (u_rate : UInt64) (u_stableIntervalNanos : UInt64) (u_maxSavedUpPermits : UInt64) (u_savedUpPermits : UInt64) (u_nextFreeFraction : UInt64) (h0 : Heap) (n0 : Nat) (Zs : n0 ≤ h0.size) (ga : n0 ≤ a) (hn : Jvm.Free.Fl.NoNaN64 (FP.ddiv (4741671816366391296 : UInt64) r)) (Ex_a : Exa Z h0 a "com/example/schleuse/schleuse/LimiterState") (F_nextFreeNanos_a : Fld Z h0 a "com/example/schleuse/schleuse/LimiterState" "nextFreeNanos" "J" (.long u_nextFreeNanos)) (F_warmUp_a : Fld Z h0 a "com/example/schleuse/schleuse/LimiterState" "warmUp" "Z" (.int u_warmUp)) (F_rate_a : Fld Z h0 a "com/example/schleuse/schleuse/LimiterState" "rate" "D" (.double u_rate)) (F_stableIntervalNanos_a : Fld Z h0 a "com/example/schleuse/schleuse/LimiterState" "stableIntervalNanos" "D" (.double u_stableIntervalNanos)) (F_maxSavedUpPermits_a : Fld Z h0 a "com/example/schleuse/schleuse/LimiterState" "maxSavedUpPermits" "D" (.double u_maxSavedUpPermits)) (F_savedUpPermits_a : Fld Z h0 a "com/example/schleuse/schleuse/LimiterState" "savedUpPermits" "D" (.double u_savedUpPermits)) (F_nextFreeFraction_a : Fld Z h0 a "com/example/schleuse/schleuse/LimiterState" "nextFreeFraction" "D" (.double u_nextFreeFraction)) :
    Con l (⟨"com/example/schleuse/schleuse/LimiterState", "applyRate", "(DD)V"⟩ : MethodName) prog_5_method_10_code 5 none ws ({ frames := 0, cells := 0, slots := 0, locals := 0 } : Room) Z #[(.ref a), (.double r), (.double mx)] h0 ({ frames := 0, cells := 0, slots := 0, locals := 0 } : Room).cells ({ frames := 0, cells := 0, slots := 0, locals := 0 } : Room).slots (Q_rmA Z a r mx u_nextFreeNanos u_warmUp u_rate u_stableIntervalNanos u_maxSavedUpPermits u_savedUpPermits u_nextFreeFraction h0 n0) := by
  refine Con.of (Ls := #[.val (.ref a), .val (.double r), .second, .val (.double mx), .second]) (plainFor_of_name (by first | (simp [plainName, overriddenIn]; done) | decide +kernel)) (fun m => by first | (simp [entryFrame, mkF, argsToLocals, Value.category]; done) | rfl) ?_
  intro p e s m below meth c s₁ G hGe hG hx hby hml hown hnm hrt hlk hZ X0 e0
  have hown : s.vm.findClass "com/example/schleuse/schleuse/LimiterState" = some m.cls := hown
  have hnm : meth.name = "applyRate" := hnm
  have NF0 := Fr.nil n0
  have K0 := Keep.refl h0 [a]
  refine g_aloadN hG X0 hx (hb hby d3_0) (pc' := 1) rfl rfl rfl ?_
  show G (s₁.setTop (mkF m 1 #[.val (.ref a), .val (.double r), .second, .val (.double mx), .second] [(.ref a)]))
  refine g_dloadN hG X0 hx (hb hby d3_1) (pc' := 2) rfl rfl ?_
  show G (s₁.setTop (mkF m 2 #[.val (.ref a), .val (.double r), .second, .val (.double mx), .second] [(.double r), (.ref a)]))
  refine g_putF hG X0 hx hZ hown (wd hw 19 rfl) Via.refl e0 F_rate_a Ex_a (Or.inl (wd hw 20 rfl)) (wd hw 2 rfl) (v' := (.double r)) (ty := .double) (by decide) rfl rfl (hb hby d3_2) (pc' := 5) rfl ?_
  intro T1 h1 X1 e1 W1
  have Ex_a := Ex_a.wr W1
  have F_nextFreeNanos_a := F_nextFreeNanos_a.other W1 (Or.inr (slot_ne (Or.inl (wd hw 12 rfl)) (Or.inl (wd hw 20 rfl)) (by decide) (t := .long) (t' := .double) (by decide) (by decide)))
  have F_warmUp_a := F_warmUp_a.other W1 (Or.inr (slot_ne (Or.inr (wd hw 14 rfl)) (Or.inl (wd hw 20 rfl)) (by decide) (t := .boolean) (t' := .double) (by decide) (by decide)))
  have F_rate_a := F_rate_a.same W1
  have F_stableIntervalNanos_a := F_stableIntervalNanos_a.other W1 (Or.inr (slot_ne (Or.inl (wd hw 23 rfl)) (Or.inl (wd hw 20 rfl)) (by decide) (t := .double) (t' := .double) (by decide) (by decide)))
  have F_maxSavedUpPermits_a := F_maxSavedUpPermits_a.other W1 (Or.inr (slot_ne (Or.inl (wd hw 25 rfl)) (Or.inl (wd hw 20 rfl)) (by decide) (t := .double) (t' := .double) (by decide) (by decide)))
  have F_savedUpPermits_a := F_savedUpPermits_a.other W1 (Or.inr (slot_ne (Or.inl (wd hw 27 rfl)) (Or.inl (wd hw 20 rfl)) (by decide) (t := .double) (t' := .double) (by decide) (by decide)))
  have F_nextFreeFraction_a := F_nextFreeFraction_a.other W1 (Or.inr (slot_ne (Or.inl (wd hw 30 rfl)) (Or.inl (wd hw 20 rfl)) (by decide) (t := .double) (t' := .double) (by decide) (by decide)))
  have Zs := Nat.le_trans Zs (Wr.size W1)
  have NF1 := Fr.snoc X1 NF0 ga
  have K1 := K0.wr W1 (Or.inl (List.mem_of_getElem? (i := 0) rfl))
  show G (T1.setTop (mkF m 5 #[.val (.ref a), .val (.double r), .second, .val (.double mx), .second] []))
  refine g_aloadN hG X1 hx (hb hby d3_5) (pc' := 6) rfl rfl rfl ?_
  show G (T1.setTop (mkF m 6 #[.val (.ref a), .val (.double r), .second, .val (.double mx), .second] [(.ref a)]))
  refine g_ldcDouble hG X1 hx hZ hown (wd hw 21 rfl) (hb hby d3_6) (pc' := 9) rfl ?_
  show G (T1.setTop (mkF m 9 #[.val (.ref a), .val (.double r), .second, .val (.double mx), .second] [(.double 4741671816366391296), (.ref a)]))
  refine g_dloadN hG X1 hx (hb hby d3_9) (pc' := 10) rfl rfl ?_
  show G (T1.setTop (mkF m 10 #[.val (.ref a), .val (.double r), .second, .val (.double mx), .second] [(.double r), (.double 4741671816366391296), (.ref a)]))
  obtain ⟨v10, q10⟩ : ∃ z : UInt64, FP.ddiv (4741671816366391296 : UInt64) r = z := ⟨_, rfl⟩
  refine g_ddiv hG X1 hx (hb hby d3_10) (pc' := 11) rfl hn q10 ?_
  show G (T1.setTop (mkF m 11 #[.val (.ref a), .val (.double r), .second, .val (.double mx), .second] [(.double v10), (.ref a)]))
  refine g_putF hG X1 hx hZ hown (wd hw 22 rfl) Via.refl e1 F_stableIntervalNanos_a Ex_a (Or.inl (wd hw 23 rfl)) (wd hw 2 rfl) (v' := (.double v10)) (ty := .double) (by decide) rfl rfl (hb hby d3_11) (pc' := 14) rfl ?_
  intro T2 h2 X2 e2 W2
  have Ex_a := Ex_a.wr W2
  have F_nextFreeNanos_a := F_nextFreeNanos_a.other W2 (Or.inr (slot_ne (Or.inl (wd hw 12 rfl)) (Or.inl (wd hw 23 rfl)) (by decide) (t := .long) (t' := .double) (by decide) (by decide)))
  have F_warmUp_a := F_warmUp_a.other W2 (Or.inr (slot_ne (Or.inr (wd hw 14 rfl)) (Or.inl (wd hw 23 rfl)) (by decide) (t := .boolean) (t' := .double) (by decide) (by decide)))
  have F_rate_a := F_rate_a.other W2 (Or.inr (slot_ne (Or.inl (wd hw 20 rfl)) (Or.inl (wd hw 23 rfl)) (by decide) (t := .double) (t' := .double) (by decide) (by decide)))
  have F_stableIntervalNanos_a := F_stableIntervalNanos_a.same W2
  have F_maxSavedUpPermits_a := F_maxSavedUpPermits_a.other W2 (Or.inr (slot_ne (Or.inl (wd hw 25 rfl)) (Or.inl (wd hw 23 rfl)) (by decide) (t := .double) (t' := .double) (by decide) (by decide)))
  have F_savedUpPermits_a := F_savedUpPermits_a.other W2 (Or.inr (slot_ne (Or.inl (wd hw 27 rfl)) (Or.inl (wd hw 23 rfl)) (by decide) (t := .double) (t' := .double) (by decide) (by decide)))
  have F_nextFreeFraction_a := F_nextFreeFraction_a.other W2 (Or.inr (slot_ne (Or.inl (wd hw 30 rfl)) (Or.inl (wd hw 23 rfl)) (by decide) (t := .double) (t' := .double) (by decide) (by decide)))
  have Zs := Nat.le_trans Zs (Wr.size W2)
  have NF2 := Fr.snoc X2 NF1 ga
  have K2 := K1.wr W2 (Or.inl (List.mem_of_getElem? (i := 0) rfl))
  show G (T2.setTop (mkF m 14 #[.val (.ref a), .val (.double r), .second, .val (.double mx), .second] []))
  refine g_aloadN hG X2 hx (hb hby d3_14) (pc' := 15) rfl rfl rfl ?_
  show G (T2.setTop (mkF m 15 #[.val (.ref a), .val (.double r), .second, .val (.double mx), .second] [(.ref a)]))
  refine g_dloadN hG X2 hx (hb hby d3_15) (pc' := 16) rfl rfl ?_
  show G (T2.setTop (mkF m 16 #[.val (.ref a), .val (.double r), .second, .val (.double mx), .second] [(.double mx), (.ref a)]))
  refine g_putF hG X2 hx hZ hown (wd hw 24 rfl) Via.refl e2 F_maxSavedUpPermits_a Ex_a (Or.inl (wd hw 25 rfl)) (wd hw 2 rfl) (v' := (.double mx)) (ty := .double) (by decide) rfl rfl (hb hby d3_16) (pc' := 19) rfl ?_
  intro T3 h3 X3 e3 W3
  have Ex_a := Ex_a.wr W3
  have F_nextFreeNanos_a := F_nextFreeNanos_a.other W3 (Or.inr (slot_ne (Or.inl (wd hw 12 rfl)) (Or.inl (wd hw 25 rfl)) (by decide) (t := .long) (t' := .double) (by decide) (by decide)))
  have F_warmUp_a := F_warmUp_a.other W3 (Or.inr (slot_ne (Or.inr (wd hw 14 rfl)) (Or.inl (wd hw 25 rfl)) (by decide) (t := .boolean) (t' := .double) (by decide) (by decide)))
  have F_rate_a := F_rate_a.other W3 (Or.inr (slot_ne (Or.inl (wd hw 20 rfl)) (Or.inl (wd hw 25 rfl)) (by decide) (t := .double) (t' := .double) (by decide) (by decide)))
  have F_stableIntervalNanos_a := F_stableIntervalNanos_a.other W3 (Or.inr (slot_ne (Or.inl (wd hw 23 rfl)) (Or.inl (wd hw 25 rfl)) (by decide) (t := .double) (t' := .double) (by decide) (by decide)))
  have F_maxSavedUpPermits_a := F_maxSavedUpPermits_a.same W3
  have F_savedUpPermits_a := F_savedUpPermits_a.other W3 (Or.inr (slot_ne (Or.inl (wd hw 27 rfl)) (Or.inl (wd hw 25 rfl)) (by decide) (t := .double) (t' := .double) (by decide) (by decide)))
  have F_nextFreeFraction_a := F_nextFreeFraction_a.other W3 (Or.inr (slot_ne (Or.inl (wd hw 30 rfl)) (Or.inl (wd hw 25 rfl)) (by decide) (t := .double) (t' := .double) (by decide) (by decide)))
  have Zs := Nat.le_trans Zs (Wr.size W3)
  have NF3 := Fr.snoc X3 NF2 ga
  have K3 := K2.wr W3 (Or.inl (List.mem_of_getElem? (i := 0) rfl))
  show G (T3.setTop (mkF m 19 #[.val (.ref a), .val (.double r), .second, .val (.double mx), .second] []))
  subst q10
  exact e_ret0 hGe X3 hx hrt hlk (hb hby d3_19) e3 (by decide) (by decide) (⟨rfl, NF3, K3, Ex_a, F_nextFreeNanos_a, F_warmUp_a, F_rate_a, F_stableIntervalNanos_a, F_maxSavedUpPermits_a, F_savedUpPermits_a, F_nextFreeFraction_a⟩)

def Q_rmI (Z : State) (a : Addr) (r mx : UInt64) (wu : Int32) (h0 : Heap) (n0 : Nat) (v : Option Value) (h : Heap) (L : List Loc) : Prop := v = none ∧ Fr n0 L ∧ Keep h0 h [a] ∧ Exa Z h a "com/example/schleuse/schleuse/LimiterState" ∧ Fld Z h a "com/example/schleuse/schleuse/LimiterState" "nextFreeNanos" "J" (.long (-9223372036854775808 : Int64)) ∧ Fld Z h a "com/example/schleuse/schleuse/LimiterState" "warmUp" "Z" (.int wu) ∧ Fld Z h a "com/example/schleuse/schleuse/LimiterState" "rate" "D" (.double r) ∧ Fld Z h a "com/example/schleuse/schleuse/LimiterState" "stableIntervalNanos" "D" (.double (FP.ddiv (4741671816366391296 : UInt64) r)) ∧ Fld Z h a "com/example/schleuse/schleuse/LimiterState" "maxSavedUpPermits" "D" (.double mx) ∧ Fld Z h a "com/example/schleuse/schleuse/LimiterState" "savedUpPermits" "D" (.double mx) ∧ Fld Z h a "com/example/schleuse/schleuse/LimiterState" "nextFreeFraction" "D" (.double (0 : UInt64))
set_option maxRecDepth 65536 in
set_option maxHeartbeats 40000000 in
theorem rmI (l : Launch) (Z : State) (a0 : Array Value) (hw : ∀ d ∈ tables_1, d.before a0 Z = true) (ws : List Jvm.Cond) (a : Addr) (r mx : UInt64) (wu : Int32) (h0 : Heap) (n0 : Nat) (Zs : n0 ≤ h0.size) (ga : n0 ≤ a) (hwu : wu = 0 ∨ wu = 1) (hn : Jvm.Free.Fl.NoNaN64 (FP.ddiv (4741671816366391296 : UInt64) r)) (Ex_a : Exa Z h0 a "com/example/schleuse/schleuse/LimiterState") (F_nextFreeNanos_a : Fld Z h0 a "com/example/schleuse/schleuse/LimiterState" "nextFreeNanos" "J" (.long (0 : Int64))) (F_warmUp_a : Fld Z h0 a "com/example/schleuse/schleuse/LimiterState" "warmUp" "Z" (.int (0 : Int32))) (F_rate_a : Fld Z h0 a "com/example/schleuse/schleuse/LimiterState" "rate" "D" (.double (0 : UInt64))) (F_stableIntervalNanos_a : Fld Z h0 a "com/example/schleuse/schleuse/LimiterState" "stableIntervalNanos" "D" (.double (0 : UInt64))) (F_maxSavedUpPermits_a : Fld Z h0 a "com/example/schleuse/schleuse/LimiterState" "maxSavedUpPermits" "D" (.double (0 : UInt64))) (F_savedUpPermits_a : Fld Z h0 a "com/example/schleuse/schleuse/LimiterState" "savedUpPermits" "D" (.double (0 : UInt64))) (F_nextFreeFraction_a : Fld Z h0 a "com/example/schleuse/schleuse/LimiterState" "nextFreeFraction" "D" (.double (0 : UInt64))) :
    Con l (⟨"com/example/schleuse/schleuse/LimiterState", "<init>", "(DDZ)V"⟩ : MethodName) prog_5_method_1_code 6 none ws ({ frames := 1, cells := 0, slots := 0, locals := 16 } : Room) Z #[(.ref a), (.double r), (.double mx), (.int wu)] h0 ({ frames := 1, cells := 0, slots := 0, locals := 16 } : Room).cells ({ frames := 1, cells := 0, slots := 0, locals := 16 } : Room).slots (Q_rmI Z a r mx wu h0 n0) := by
  refine Con.of (Ls := #[.val (.ref a), .val (.double r), .second, .val (.double mx), .second, .val (.int wu)]) (plainFor_of_name (by first | (simp [plainName, overriddenIn]; done) | decide +kernel)) (fun m => by first | (simp [entryFrame, mkF, argsToLocals, Value.category]; done) | rfl) ?_
  intro p e s m below meth c s₁ G hGe hG hx hby hml hown hnm hrt hlk hZ X0 e0
  have hown : s.vm.findClass "com/example/schleuse/schleuse/LimiterState" = some m.cls := hown
  have hnm : meth.name = "<init>" := hnm
  have NF0 := Fr.nil n0
  have K0 := Keep.refl h0 [a]
  refine g_aloadN hG X0 hx (hb hby d1_0) (pc' := 1) rfl rfl rfl ?_
  show G (s₁.setTop (mkF m 1 #[.val (.ref a), .val (.double r), .second, .val (.double mx), .second, .val (.int wu)] [(.ref a)]))
  refine g_initO hG X0 hx hZ hown (wd hw 7 rfl) (wd hw 8 rfl) (wd hw 9 rfl) e0 (by rw [hml]; rfl) (hb hby d1_1) (by decide) (by decide) (pc' := 4) rfl ?_
  intro T1 X1 e1
  show G (T1.setTop (mkF m 4 #[.val (.ref a), .val (.double r), .second, .val (.double mx), .second, .val (.int wu)] []))
  refine g_aloadN hG X1 hx (hb hby d1_4) (pc' := 5) rfl rfl rfl ?_
  show G (T1.setTop (mkF m 5 #[.val (.ref a), .val (.double r), .second, .val (.double mx), .second, .val (.int wu)] [(.ref a)]))
  refine g_ldcLong hG X1 hx hZ hown (wd hw 10 rfl) (hb hby d1_5) (pc' := 8) rfl ?_
  show G (T1.setTop (mkF m 8 #[.val (.ref a), .val (.double r), .second, .val (.double mx), .second, .val (.int wu)] [(.long (-9223372036854775808)), (.ref a)]))
  refine g_putF hG X1 hx hZ hown (wd hw 11 rfl) Via.refl e1 F_nextFreeNanos_a Ex_a (Or.inl (wd hw 12 rfl)) (wd hw 2 rfl) (v' := (.long (-9223372036854775808))) (ty := .long) (by decide) rfl rfl (hb hby d1_8) (pc' := 11) rfl ?_
  intro T2 h2 X2 e2 W2
  have Ex_a := Ex_a.wr W2
  have F_nextFreeNanos_a := F_nextFreeNanos_a.same W2
  have F_warmUp_a := F_warmUp_a.other W2 (Or.inr (slot_ne (Or.inr (wd hw 14 rfl)) (Or.inl (wd hw 12 rfl)) (by decide) (t := .boolean) (t' := .long) (by decide) (by decide)))
  have F_rate_a := F_rate_a.other W2 (Or.inr (slot_ne (Or.inl (wd hw 20 rfl)) (Or.inl (wd hw 12 rfl)) (by decide) (t := .double) (t' := .long) (by decide) (by decide)))
  have F_stableIntervalNanos_a := F_stableIntervalNanos_a.other W2 (Or.inr (slot_ne (Or.inl (wd hw 23 rfl)) (Or.inl (wd hw 12 rfl)) (by decide) (t := .double) (t' := .long) (by decide) (by decide)))
  have F_maxSavedUpPermits_a := F_maxSavedUpPermits_a.other W2 (Or.inr (slot_ne (Or.inl (wd hw 25 rfl)) (Or.inl (wd hw 12 rfl)) (by decide) (t := .double) (t' := .long) (by decide) (by decide)))
  have F_savedUpPermits_a := F_savedUpPermits_a.other W2 (Or.inr (slot_ne (Or.inl (wd hw 27 rfl)) (Or.inl (wd hw 12 rfl)) (by decide) (t := .double) (t' := .long) (by decide) (by decide)))
  have F_nextFreeFraction_a := F_nextFreeFraction_a.other W2 (Or.inr (slot_ne (Or.inl (wd hw 30 rfl)) (Or.inl (wd hw 12 rfl)) (by decide) (t := .double) (t' := .long) (by decide) (by decide)))
  have Zs := Nat.le_trans Zs (Wr.size W2)
  have NF2 := Fr.snoc X2 NF0 ga
  have K2 := K0.wr W2 (Or.inl (List.mem_of_getElem? (i := 0) rfl))
  show G (T2.setTop (mkF m 11 #[.val (.ref a), .val (.double r), .second, .val (.double mx), .second, .val (.int wu)] []))
  refine g_aloadN hG X2 hx (hb hby d1_11) (pc' := 12) rfl rfl rfl ?_
  show G (T2.setTop (mkF m 12 #[.val (.ref a), .val (.double r), .second, .val (.double mx), .second, .val (.int wu)] [(.ref a)]))
  refine g_iload hG X2 hx (hb hby d1_12) (pc' := 14) rfl rfl ?_
  show G (T2.setTop (mkF m 14 #[.val (.ref a), .val (.double r), .second, .val (.double mx), .second, .val (.int wu)] [(.int wu), (.ref a)]))
  refine g_putF hG X2 hx hZ hown (wd hw 13 rfl) Via.refl e2 F_warmUp_a Ex_a (Or.inr ⟨(wd hw 14 rfl), rfl, hnm⟩) (wd hw 2 rfl) (v' := .int wu) (ty := .boolean) (by decide) (by rcases hwu with q | q <;> rw [q] <;> rfl) (by rcases hwu with q | q <;> rw [q] <;> rfl) (hb hby d1_14) (pc' := 17) rfl ?_
  intro T3 h3 X3 e3 W3
  have Ex_a := Ex_a.wr W3
  have F_nextFreeNanos_a := F_nextFreeNanos_a.other W3 (Or.inr (slot_ne (Or.inl (wd hw 12 rfl)) (Or.inr (wd hw 14 rfl)) (by decide) (t := .long) (t' := .boolean) (by decide) (by decide)))
  have F_warmUp_a := F_warmUp_a.same W3
  have F_rate_a := F_rate_a.other W3 (Or.inr (slot_ne (Or.inl (wd hw 20 rfl)) (Or.inr (wd hw 14 rfl)) (by decide) (t := .double) (t' := .boolean) (by decide) (by decide)))
  have F_stableIntervalNanos_a := F_stableIntervalNanos_a.other W3 (Or.inr (slot_ne (Or.inl (wd hw 23 rfl)) (Or.inr (wd hw 14 rfl)) (by decide) (t := .double) (t' := .boolean) (by decide) (by decide)))
  have F_maxSavedUpPermits_a := F_maxSavedUpPermits_a.other W3 (Or.inr (slot_ne (Or.inl (wd hw 25 rfl)) (Or.inr (wd hw 14 rfl)) (by decide) (t := .double) (t' := .boolean) (by decide) (by decide)))
  have F_savedUpPermits_a := F_savedUpPermits_a.other W3 (Or.inr (slot_ne (Or.inl (wd hw 27 rfl)) (Or.inr (wd hw 14 rfl)) (by decide) (t := .double) (t' := .boolean) (by decide) (by decide)))
  have F_nextFreeFraction_a := F_nextFreeFraction_a.other W3 (Or.inr (slot_ne (Or.inl (wd hw 30 rfl)) (Or.inr (wd hw 14 rfl)) (by decide) (t := .double) (t' := .boolean) (by decide) (by decide)))
  have Zs := Nat.le_trans Zs (Wr.size W3)
  have NF3 := Fr.snoc X3 NF2 ga
  have K3 := K2.wr W3 (Or.inl (List.mem_of_getElem? (i := 0) rfl))
  show G (T3.setTop (mkF m 17 #[.val (.ref a), .val (.double r), .second, .val (.double mx), .second, .val (.int wu)] []))
  refine g_aloadN hG X3 hx (hb hby d1_17) (pc' := 18) rfl rfl rfl ?_
  show G (T3.setTop (mkF m 18 #[.val (.ref a), .val (.double r), .second, .val (.double mx), .second, .val (.int wu)] [(.ref a)]))
  refine g_dloadN hG X3 hx (hb hby d1_18) (pc' := 19) rfl rfl ?_
  show G (T3.setTop (mkF m 19 #[.val (.ref a), .val (.double r), .second, .val (.double mx), .second, .val (.int wu)] [(.double r), (.ref a)]))
  refine g_dloadN hG X3 hx (hb hby d1_19) (pc' := 20) rfl rfl ?_
  show G (T3.setTop (mkF m 20 #[.val (.ref a), .val (.double r), .second, .val (.double mx), .second, .val (.int wu)] [(.double mx), (.double r), (.ref a)]))
  refine g_callP hG X3 hx hZ (y := (⟨"com/example/schleuse/schleuse/LimiterState", "applyRate", "(DD)V"⟩ : MethodName)) 0 hown (wd hw 15 rfl) (wd hw 16 rfl) (wd hw 2 rfl) (wd hw 17 rfl) (wd hw 3 rfl) (wd hw 18 rfl) (by decide) (rmA l Z a0 hw [] a r mx (-9223372036854775808 : Int64) wu (0 : UInt64) (0 : UInt64) (0 : UInt64) (0 : UInt64) (0 : UInt64) h3 n0 Zs ga hn Ex_a F_nextFreeNanos_a F_warmUp_a F_rate_a F_stableIntervalNanos_a F_maxSavedUpPermits_a F_savedUpPermits_a F_nextFreeFraction_a) (by decide) (by decide) (by rw [hml]; rfl) pd_0 rfl (argsL := [(.double r), (.double mx)]) (rest := []) rfl rfl (Nat.le_of_eq rfl) (hb hby d1_20) e3 Ex_a (by decide) (by decide) (pc' := 23) rfl ?_
  intro T4 rv4 L4 X4 hQ4
  obtain ⟨rfl, Nq4, Kq4, Ex_a, F_nextFreeNanos_a, F_warmUp_a, F_rate_a, F_stableIntervalNanos_a, F_maxSavedUpPermits_a, F_savedUpPermits_a, F_nextFreeFraction_a⟩ := hQ4
  have NF4 := Fr.app NF3 Nq4
  have Zs := Nat.le_trans Zs Kq4.1
  have K4 := K3.trans Kq4 (allS (Or.inl (List.mem_of_getElem? (i := 0) rfl)) all0)
  show G (T4.setTop (mkF m 23 #[.val (.ref a), .val (.double r), .second, .val (.double mx), .second, .val (.int wu)] []))
  refine g_aloadN hG X4 hx (hb hby d1_23) (pc' := 24) rfl rfl rfl ?_
  show G (T4.setTop (mkF m 24 #[.val (.ref a), .val (.double r), .second, .val (.double mx), .second, .val (.int wu)] [(.ref a)]))
  refine g_dloadN hG X4 hx (hb hby d1_24) (pc' := 25) rfl rfl ?_
  show G (T4.setTop (mkF m 25 #[.val (.ref a), .val (.double r), .second, .val (.double mx), .second, .val (.int wu)] [(.double mx), (.ref a)]))
  refine g_putF hG X4 hx hZ hown (wd hw 26 rfl) Via.refl rfl F_savedUpPermits_a Ex_a (Or.inl (wd hw 27 rfl)) (wd hw 2 rfl) (v' := (.double mx)) (ty := .double) (by decide) rfl rfl (hb hby d1_25) (pc' := 28) rfl ?_
  intro T5 h5 X5 e5 W5
  have Ex_a := Ex_a.wr W5
  have F_nextFreeNanos_a := F_nextFreeNanos_a.other W5 (Or.inr (slot_ne (Or.inl (wd hw 12 rfl)) (Or.inl (wd hw 27 rfl)) (by decide) (t := .long) (t' := .double) (by decide) (by decide)))
  have F_warmUp_a := F_warmUp_a.other W5 (Or.inr (slot_ne (Or.inr (wd hw 14 rfl)) (Or.inl (wd hw 27 rfl)) (by decide) (t := .boolean) (t' := .double) (by decide) (by decide)))
  have F_rate_a := F_rate_a.other W5 (Or.inr (slot_ne (Or.inl (wd hw 20 rfl)) (Or.inl (wd hw 27 rfl)) (by decide) (t := .double) (t' := .double) (by decide) (by decide)))
  have F_stableIntervalNanos_a := F_stableIntervalNanos_a.other W5 (Or.inr (slot_ne (Or.inl (wd hw 23 rfl)) (Or.inl (wd hw 27 rfl)) (by decide) (t := .double) (t' := .double) (by decide) (by decide)))
  have F_maxSavedUpPermits_a := F_maxSavedUpPermits_a.other W5 (Or.inr (slot_ne (Or.inl (wd hw 25 rfl)) (Or.inl (wd hw 27 rfl)) (by decide) (t := .double) (t' := .double) (by decide) (by decide)))
  have F_savedUpPermits_a := F_savedUpPermits_a.same W5
  have F_nextFreeFraction_a := F_nextFreeFraction_a.other W5 (Or.inr (slot_ne (Or.inl (wd hw 30 rfl)) (Or.inl (wd hw 27 rfl)) (by decide) (t := .double) (t' := .double) (by decide) (by decide)))
  have Zs := Nat.le_trans Zs (Wr.size W5)
  have NF5 := Fr.snoc X5 NF4 ga
  have K5 := K4.wr W5 (Or.inl (List.mem_of_getElem? (i := 0) rfl))
  show G (T5.setTop (mkF m 28 #[.val (.ref a), .val (.double r), .second, .val (.double mx), .second, .val (.int wu)] []))
  exact e_ret0 hGe X5 hx hrt hlk (hb hby d1_28) e5 (by decide) (by decide) (⟨rfl, NF5, K5, Ex_a, F_nextFreeNanos_a, F_warmUp_a, F_rate_a, F_stableIntervalNanos_a, F_maxSavedUpPermits_a, F_savedUpPermits_a, F_nextFreeFraction_a⟩)

def Q_rmN0 (Z : State) (a : Addr) (A B : Int64) (ff f sp cc ev : UInt64) (h0 : Heap) (n0 : Nat) (v : Option Value) (h : Heap) (L : List Loc) : Prop := v = some (.double ev) ∧ Fr n0 L ∧ h = h0
set_option maxRecDepth 65536 in
set_option maxHeartbeats 40000000 in
theorem rmN0 (l : Launch) (Z : State) (a0 : Array Value) (hw : ∀ d ∈ tables_1, d.before a0 Z = true) (ws : List Jvm.Cond) (a : Addr) (A B : Int64) (ff f sp cc ev : UInt64) (h0 : Heap) (n0 : Nat) (Zs : n0 ≤ h0.size) (hwr : A - B < 0 ↔ A < B) (hsp : FP.l2d (A - B) = sp) (hcc : FP.dsub ff f = cc) (hev : FP.dadd sp cc = ev) (n1 : Jvm.Free.Fl.NoNaN64 sp) (n2 : Jvm.Free.Fl.NoNaN64 cc) (n3 : Jvm.Free.Fl.NoNaN64 ev) (Ex_a : Exa Z h0 a "com/example/schleuse/schleuse/LimiterState") (F_nextFreeNanos_a : Fld Z h0 a "com/example/schleuse/schleuse/LimiterState" "nextFreeNanos" "J" (.long A)) (F_nextFreeFraction_a : Fld Z h0 a "com/example/schleuse/schleuse/LimiterState" "nextFreeFraction" "D" (.double ff)) :
    Con l (⟨"com/example/schleuse/schleuse/LimiterState", "nextFreeNanosSince", "(JD)D"⟩ : MethodName) prog_5_method_8_code 10 (some .double) ws ({ frames := 0, cells := 0, slots := 0, locals := 0 } : Room) Z #[(.ref a), (.long B), (.double f)] h0 ({ frames := 0, cells := 0, slots := 0, locals := 0 } : Room).cells ({ frames := 0, cells := 0, slots := 0, locals := 0 } : Room).slots (Q_rmN0 Z a A B ff f sp cc ev h0 n0) := by
  refine Con.of (Ls := #[.val (.ref a), .val (.long B), .second, .val (.double f), .second, .unset, .unset, .unset, .unset, .unset]) (plainFor_of_name (by first | (simp [plainName, overriddenIn]; done) | decide +kernel)) (fun m => by first | (simp [entryFrame, mkF, argsToLocals, Value.category]; done) | rfl) ?_
  intro p e s m below meth c s₁ G hGe hG hx hby hml hown hnm hrt hlk hZ X0 e0
  have hown : s.vm.findClass "com/example/schleuse/schleuse/LimiterState" = some m.cls := hown
  have hnm : meth.name = "nextFreeNanosSince" := hnm
  have NF0 := Fr.nil n0
  have hA : lcmpW A B < 0 ↔ A < B := lw_lt A B
  have hW : lcmpW (A - B) 0 < 0 ↔ A - B < 0 := lw_lt _ _
  refine g_aloadN hG X0 hx (hb hby d4_0) (pc' := 1) rfl rfl rfl ?_
  show G (s₁.setTop (mkF m 1 #[.val (.ref a), .val (.long B), .second, .val (.double f), .second, .unset, .unset, .unset, .unset, .unset] [(.ref a)]))
  refine g_getF hG X0 hx hZ hown (wd hw 11 rfl) Via.refl e0 F_nextFreeNanos_a (hb hby d4_1) (pc' := 4) rfl ?_
  intro T1 X1 e1
  show G (T1.setTop (mkF m 4 #[.val (.ref a), .val (.long B), .second, .val (.double f), .second, .unset, .unset, .unset, .unset, .unset] [(.long A)]))
  refine g_lloadN hG X1 hx (hb hby d4_4) (pc' := 5) rfl rfl ?_
  show G (T1.setTop (mkF m 5 #[.val (.ref a), .val (.long B), .second, .val (.double f), .second, .unset, .unset, .unset, .unset, .unset] [(.long B), (.long A)]))
  obtain ⟨v5, q5⟩ : ∃ z : Int64, A - B = z := ⟨_, rfl⟩
  refine g_lsub hG X1 hx (hb hby d4_5) (pc' := 6) rfl q5 ?_
  show G (T1.setTop (mkF m 6 #[.val (.ref a), .val (.long B), .second, .val (.double f), .second, .unset, .unset, .unset, .unset, .unset] [(.long v5)]))
  refine g_lstore hG X1 hx (hb hby d4_6) (pc' := 8) rfl (Ls' := #[.val (.ref a), .val (.long B), .second, .val (.double f), .second, .val (.long v5), .second, .unset, .unset, .unset]) rfl ?_
  show G (T1.setTop (mkF m 8 #[.val (.ref a), .val (.long B), .second, .val (.double f), .second, .val (.long v5), .second, .unset, .unset, .unset] []))
  refine g_lload hG X1 hx (hb hby d4_8) (pc' := 10) rfl rfl ?_
  show G (T1.setTop (mkF m 10 #[.val (.ref a), .val (.long B), .second, .val (.double f), .second, .val (.long v5), .second, .unset, .unset, .unset] [(.long v5)]))
  refine g_lconst hG X1 hx (hb hby d4_10) (pc' := 11) rfl (v := (0 : Int64)) rfl ?_
  show G (T1.setTop (mkF m 11 #[.val (.ref a), .val (.long B), .second, .val (.double f), .second, .val (.long v5), .second, .unset, .unset, .unset] [(.long 0), (.long v5)]))
  obtain ⟨v11, q11⟩ : ∃ z : Int32, lcmpW v5 (0 : Int64) = z := ⟨_, rfl⟩
  refine g_lcmp hG X1 hx (hb hby d4_11) (pc' := 12) rfl q11 ?_
  show G (T1.setTop (mkF m 12 #[.val (.ref a), .val (.long B), .second, .val (.double f), .second, .val (.long v5), .second, .unset, .unset, .unset] [(.int v11)]))
  by_cases h12 : v11 < (0 : Int32)
  · refine g_ifNo hG X1 hx (hb hby d4_12) (pc' := 15) ((if0 _ _).trans (tlt h12).2.1) rfl ?_
    refine g_iconst hG X1 hx (hb hby d4_15) (pc' := 16) rfl (v := (1 : Int32)) rfl ?_
    show G (T1.setTop (mkF m 16 #[.val (.ref a), .val (.long B), .second, .val (.double f), .second, .val (.long v5), .second, .unset, .unset, .unset] [(.int 1)]))
    refine g_goto hG X1 hx (hb hby d4_16) (pc' := 20) (by decide) (by decide) ?_
    show G (T1.setTop (mkF m 20 #[.val (.ref a), .val (.long B), .second, .val (.double f), .second, .val (.long v5), .second, .unset, .unset, .unset] [(.int 1)]))
    refine g_aloadN hG X1 hx (hb hby d4_20) (pc' := 21) rfl rfl rfl ?_
    show G (T1.setTop (mkF m 21 #[.val (.ref a), .val (.long B), .second, .val (.double f), .second, .val (.long v5), .second, .unset, .unset, .unset] [(.ref a), (.int 1)]))
    refine g_getF hG X1 hx hZ hown (wd hw 11 rfl) Via.refl e1 F_nextFreeNanos_a (hb hby d4_21) (pc' := 24) rfl ?_
    intro T2 X2 e2
    show G (T2.setTop (mkF m 24 #[.val (.ref a), .val (.long B), .second, .val (.double f), .second, .val (.long v5), .second, .unset, .unset, .unset] [(.long A), (.int 1)]))
    refine g_lloadN hG X2 hx (hb hby d4_24) (pc' := 25) rfl rfl ?_
    show G (T2.setTop (mkF m 25 #[.val (.ref a), .val (.long B), .second, .val (.double f), .second, .val (.long v5), .second, .unset, .unset, .unset] [(.long B), (.long A), (.int 1)]))
    obtain ⟨v25, q25⟩ : ∃ z : Int32, lcmpW A B = z := ⟨_, rfl⟩
    refine g_lcmp hG X2 hx (hb hby d4_25) (pc' := 26) rfl q25 ?_
    show G (T2.setTop (mkF m 26 #[.val (.ref a), .val (.long B), .second, .val (.double f), .second, .val (.long v5), .second, .unset, .unset, .unset] [(.int v25), (.int 1)]))
    refine g_ifNo hG X2 hx (hb hby d4_26) (pc' := 29) ((if0 _ _).trans (tlt (show v25 < 0 by rw [← q25]; exact hA.mpr (hwr.mp (hW.mp (by rw [q5, q11]; exact h12))))).2.1) rfl ?_
    show G (T2.setTop (mkF m 29 #[.val (.ref a), .val (.long B), .second, .val (.double f), .second, .val (.long v5), .second, .unset, .unset, .unset] [(.int 1)]))
    refine g_iconst hG X2 hx (hb hby d4_29) (pc' := 30) rfl (v := (1 : Int32)) rfl ?_
    show G (T2.setTop (mkF m 30 #[.val (.ref a), .val (.long B), .second, .val (.double f), .second, .val (.long v5), .second, .unset, .unset, .unset] [(.int 1), (.int 1)]))
    refine g_goto hG X2 hx (hb hby d4_30) (pc' := 34) (by decide) (by decide) ?_
    show G (T2.setTop (mkF m 34 #[.val (.ref a), .val (.long B), .second, .val (.double f), .second, .val (.long v5), .second, .unset, .unset, .unset] [(.int 1), (.int 1)]))
    refine g_icmpYes hG X2 hx (hb hby d4_34) (pc' := 41) (by decide) (by decide) (by decide) ?_
    show G (T2.setTop (mkF m 41 #[.val (.ref a), .val (.long B), .second, .val (.double f), .second, .val (.long v5), .second, .unset, .unset, .unset] []))
    refine g_iconst hG X2 hx (hb hby d4_41) (pc' := 42) rfl (v := (0 : Int32)) rfl ?_
    show G (T2.setTop (mkF m 42 #[.val (.ref a), .val (.long B), .second, .val (.double f), .second, .val (.long v5), .second, .unset, .unset, .unset] [(.int 0)]))
    refine g_istore hG X2 hx (hb hby d4_42) (pc' := 44) rfl (Ls' := #[.val (.ref a), .val (.long B), .second, .val (.double f), .second, .val (.long v5), .second, .val (.int 0), .unset, .unset]) rfl ?_
    show G (T2.setTop (mkF m 44 #[.val (.ref a), .val (.long B), .second, .val (.double f), .second, .val (.long v5), .second, .val (.int 0), .unset, .unset] []))
    refine g_iload hG X2 hx (hb hby d4_44) (pc' := 46) rfl rfl ?_
    show G (T2.setTop (mkF m 46 #[.val (.ref a), .val (.long B), .second, .val (.double f), .second, .val (.long v5), .second, .val (.int 0), .unset, .unset] [(.int 0)]))
    refine g_ifYes hG X2 hx (hb hby d4_46) (pc' := 60) (by decide) (by decide) (by decide) ?_
    show G (T2.setTop (mkF m 60 #[.val (.ref a), .val (.long B), .second, .val (.double f), .second, .val (.long v5), .second, .val (.int 0), .unset, .unset] []))
    refine g_lload hG X2 hx (hb hby d4_60) (pc' := 62) rfl rfl ?_
    show G (T2.setTop (mkF m 62 #[.val (.ref a), .val (.long B), .second, .val (.double f), .second, .val (.long v5), .second, .val (.int 0), .unset, .unset] [(.long v5)]))
    refine g_l2d hG X2 hx (hb hby d4_62) (pc' := 63) rfl (v := sp) (by rw [← q5]; exact hsp) ?_
    show G (T2.setTop (mkF m 63 #[.val (.ref a), .val (.long B), .second, .val (.double f), .second, .val (.long v5), .second, .val (.int 0), .unset, .unset] [(.double sp)]))
    refine g_dstore hG X2 hx (hb hby d4_63) (pc' := 65) rfl (Ls' := #[.val (.ref a), .val (.long B), .second, .val (.double f), .second, .val (.long v5), .second, .val (.int 0), .val (.double sp), .second]) rfl ?_
    show G (T2.setTop (mkF m 65 #[.val (.ref a), .val (.long B), .second, .val (.double f), .second, .val (.long v5), .second, .val (.int 0), .val (.double sp), .second] []))
    refine g_dload hG X2 hx (hb hby d4_65) (pc' := 67) rfl rfl ?_
    show G (T2.setTop (mkF m 67 #[.val (.ref a), .val (.long B), .second, .val (.double f), .second, .val (.long v5), .second, .val (.int 0), .val (.double sp), .second] [(.double sp)]))
    refine g_aloadN hG X2 hx (hb hby d4_67) (pc' := 68) rfl rfl rfl ?_
    show G (T2.setTop (mkF m 68 #[.val (.ref a), .val (.long B), .second, .val (.double f), .second, .val (.long v5), .second, .val (.int 0), .val (.double sp), .second] [(.ref a), (.double sp)]))
    refine g_getF hG X2 hx hZ hown (wd hw 36 rfl) Via.refl e2 F_nextFreeFraction_a (hb hby d4_68) (pc' := 71) rfl ?_
    intro T3 X3 e3
    show G (T3.setTop (mkF m 71 #[.val (.ref a), .val (.long B), .second, .val (.double f), .second, .val (.long v5), .second, .val (.int 0), .val (.double sp), .second] [(.double ff), (.double sp)]))
    refine g_dloadN hG X3 hx (hb hby d4_71) (pc' := 72) rfl rfl ?_
    show G (T3.setTop (mkF m 72 #[.val (.ref a), .val (.long B), .second, .val (.double f), .second, .val (.long v5), .second, .val (.int 0), .val (.double sp), .second] [(.double f), (.double ff), (.double sp)]))
    refine g_dsub hG X3 hx (hb hby d4_72) (pc' := 73) rfl (by rw [hcc]; exact n2) hcc ?_
    show G (T3.setTop (mkF m 73 #[.val (.ref a), .val (.long B), .second, .val (.double f), .second, .val (.long v5), .second, .val (.int 0), .val (.double sp), .second] [(.double cc), (.double sp)]))
    refine g_dadd hG X3 hx (hb hby d4_73) (pc' := 74) rfl (by rw [hev]; exact n3) hev ?_
    show G (T3.setTop (mkF m 74 #[.val (.ref a), .val (.long B), .second, .val (.double f), .second, .val (.long v5), .second, .val (.int 0), .val (.double sp), .second] [(.double ev)]))
    exact e_retD hGe X3 hx hrt hlk (hb hby d4_74) e3 (by decide) (by decide) (⟨rfl, NF0, rfl⟩)
  · refine g_ifYes hG X1 hx (hb hby d4_12) (pc' := 19) ((if0 _ _).trans (flt h12).2.1) (by decide) (by decide) ?_
    refine g_iconst hG X1 hx (hb hby d4_19) (pc' := 20) rfl (v := (0 : Int32)) rfl ?_
    show G (T1.setTop (mkF m 20 #[.val (.ref a), .val (.long B), .second, .val (.double f), .second, .val (.long v5), .second, .unset, .unset, .unset] [(.int 0)]))
    refine g_aloadN hG X1 hx (hb hby d4_20) (pc' := 21) rfl rfl rfl ?_
    show G (T1.setTop (mkF m 21 #[.val (.ref a), .val (.long B), .second, .val (.double f), .second, .val (.long v5), .second, .unset, .unset, .unset] [(.ref a), (.int 0)]))
    refine g_getF hG X1 hx hZ hown (wd hw 11 rfl) Via.refl e1 F_nextFreeNanos_a (hb hby d4_21) (pc' := 24) rfl ?_
    intro T4 X4 e4
    show G (T4.setTop (mkF m 24 #[.val (.ref a), .val (.long B), .second, .val (.double f), .second, .val (.long v5), .second, .unset, .unset, .unset] [(.long A), (.int 0)]))
    refine g_lloadN hG X4 hx (hb hby d4_24) (pc' := 25) rfl rfl ?_
    show G (T4.setTop (mkF m 25 #[.val (.ref a), .val (.long B), .second, .val (.double f), .second, .val (.long v5), .second, .unset, .unset, .unset] [(.long B), (.long A), (.int 0)]))
    obtain ⟨v25, q25⟩ : ∃ z : Int32, lcmpW A B = z := ⟨_, rfl⟩
    refine g_lcmp hG X4 hx (hb hby d4_25) (pc' := 26) rfl q25 ?_
    show G (T4.setTop (mkF m 26 #[.val (.ref a), .val (.long B), .second, .val (.double f), .second, .val (.long v5), .second, .unset, .unset, .unset] [(.int v25), (.int 0)]))
    refine g_ifYes hG X4 hx (hb hby d4_26) (pc' := 33) ((if0 _ _).trans (flt (show ¬ v25 < 0 by rw [← q25]; exact fun g => h12 (by rw [← q11, ← q5]; exact hW.mpr (hwr.mpr (hA.mp g))))).2.1) (by decide) (by decide) ?_
    show G (T4.setTop (mkF m 33 #[.val (.ref a), .val (.long B), .second, .val (.double f), .second, .val (.long v5), .second, .unset, .unset, .unset] [(.int 0)]))
    refine g_iconst hG X4 hx (hb hby d4_33) (pc' := 34) rfl (v := (0 : Int32)) rfl ?_
    show G (T4.setTop (mkF m 34 #[.val (.ref a), .val (.long B), .second, .val (.double f), .second, .val (.long v5), .second, .unset, .unset, .unset] [(.int 0), (.int 0)]))
    refine g_icmpYes hG X4 hx (hb hby d4_34) (pc' := 41) (by decide) (by decide) (by decide) ?_
    show G (T4.setTop (mkF m 41 #[.val (.ref a), .val (.long B), .second, .val (.double f), .second, .val (.long v5), .second, .unset, .unset, .unset] []))
    refine g_iconst hG X4 hx (hb hby d4_41) (pc' := 42) rfl (v := (0 : Int32)) rfl ?_
    show G (T4.setTop (mkF m 42 #[.val (.ref a), .val (.long B), .second, .val (.double f), .second, .val (.long v5), .second, .unset, .unset, .unset] [(.int 0)]))
    refine g_istore hG X4 hx (hb hby d4_42) (pc' := 44) rfl (Ls' := #[.val (.ref a), .val (.long B), .second, .val (.double f), .second, .val (.long v5), .second, .val (.int 0), .unset, .unset]) rfl ?_
    show G (T4.setTop (mkF m 44 #[.val (.ref a), .val (.long B), .second, .val (.double f), .second, .val (.long v5), .second, .val (.int 0), .unset, .unset] []))
    refine g_iload hG X4 hx (hb hby d4_44) (pc' := 46) rfl rfl ?_
    show G (T4.setTop (mkF m 46 #[.val (.ref a), .val (.long B), .second, .val (.double f), .second, .val (.long v5), .second, .val (.int 0), .unset, .unset] [(.int 0)]))
    refine g_ifYes hG X4 hx (hb hby d4_46) (pc' := 60) (by decide) (by decide) (by decide) ?_
    show G (T4.setTop (mkF m 60 #[.val (.ref a), .val (.long B), .second, .val (.double f), .second, .val (.long v5), .second, .val (.int 0), .unset, .unset] []))
    refine g_lload hG X4 hx (hb hby d4_60) (pc' := 62) rfl rfl ?_
    show G (T4.setTop (mkF m 62 #[.val (.ref a), .val (.long B), .second, .val (.double f), .second, .val (.long v5), .second, .val (.int 0), .unset, .unset] [(.long v5)]))
    refine g_l2d hG X4 hx (hb hby d4_62) (pc' := 63) rfl (v := sp) (by rw [← q5]; exact hsp) ?_
    show G (T4.setTop (mkF m 63 #[.val (.ref a), .val (.long B), .second, .val (.double f), .second, .val (.long v5), .second, .val (.int 0), .unset, .unset] [(.double sp)]))
    refine g_dstore hG X4 hx (hb hby d4_63) (pc' := 65) rfl (Ls' := #[.val (.ref a), .val (.long B), .second, .val (.double f), .second, .val (.long v5), .second, .val (.int 0), .val (.double sp), .second]) rfl ?_
    show G (T4.setTop (mkF m 65 #[.val (.ref a), .val (.long B), .second, .val (.double f), .second, .val (.long v5), .second, .val (.int 0), .val (.double sp), .second] []))
    refine g_dload hG X4 hx (hb hby d4_65) (pc' := 67) rfl rfl ?_
    show G (T4.setTop (mkF m 67 #[.val (.ref a), .val (.long B), .second, .val (.double f), .second, .val (.long v5), .second, .val (.int 0), .val (.double sp), .second] [(.double sp)]))
    refine g_aloadN hG X4 hx (hb hby d4_67) (pc' := 68) rfl rfl rfl ?_
    show G (T4.setTop (mkF m 68 #[.val (.ref a), .val (.long B), .second, .val (.double f), .second, .val (.long v5), .second, .val (.int 0), .val (.double sp), .second] [(.ref a), (.double sp)]))
    refine g_getF hG X4 hx hZ hown (wd hw 36 rfl) Via.refl e4 F_nextFreeFraction_a (hb hby d4_68) (pc' := 71) rfl ?_
    intro T5 X5 e5
    show G (T5.setTop (mkF m 71 #[.val (.ref a), .val (.long B), .second, .val (.double f), .second, .val (.long v5), .second, .val (.int 0), .val (.double sp), .second] [(.double ff), (.double sp)]))
    refine g_dloadN hG X5 hx (hb hby d4_71) (pc' := 72) rfl rfl ?_
    show G (T5.setTop (mkF m 72 #[.val (.ref a), .val (.long B), .second, .val (.double f), .second, .val (.long v5), .second, .val (.int 0), .val (.double sp), .second] [(.double f), (.double ff), (.double sp)]))
    refine g_dsub hG X5 hx (hb hby d4_72) (pc' := 73) rfl (by rw [hcc]; exact n2) hcc ?_
    show G (T5.setTop (mkF m 73 #[.val (.ref a), .val (.long B), .second, .val (.double f), .second, .val (.long v5), .second, .val (.int 0), .val (.double sp), .second] [(.double cc), (.double sp)]))
    refine g_dadd hG X5 hx (hb hby d4_73) (pc' := 74) rfl (by rw [hev]; exact n3) hev ?_
    show G (T5.setTop (mkF m 74 #[.val (.ref a), .val (.long B), .second, .val (.double f), .second, .val (.long v5), .second, .val (.int 0), .val (.double sp), .second] [(.double ev)]))
    exact e_retD hGe X5 hx hrt hlk (hb hby d4_74) e5 (by decide) (by decide) (⟨rfl, NF0, rfl⟩)

def Q_rmN1 (Z : State) (a : Addr) (A B : Int64) (ff f sp cc ev : UInt64) (h0 : Heap) (n0 : Nat) (v : Option Value) (h : Heap) (L : List Loc) : Prop := v = some (.double ev) ∧ Fr n0 L ∧ h = h0
set_option maxRecDepth 65536 in
set_option maxHeartbeats 40000000 in
theorem rmN1 (l : Launch) (Z : State) (a0 : Array Value) (hw : ∀ d ∈ tables_1, d.before a0 Z = true) (ws : List Jvm.Cond) (a : Addr) (A B : Int64) (ff f sp cc ev : UInt64) (h0 : Heap) (n0 : Nat) (Zs : n0 ≤ h0.size) (hwr : ¬ (A - B < 0) ↔ A < B) (hsp : FP.dsub (FP.l2d A) (FP.l2d B) = sp) (hcc : FP.dsub ff f = cc) (hev : FP.dadd sp cc = ev) (n1 : Jvm.Free.Fl.NoNaN64 sp) (n2 : Jvm.Free.Fl.NoNaN64 cc) (n3 : Jvm.Free.Fl.NoNaN64 ev) (Ex_a : Exa Z h0 a "com/example/schleuse/schleuse/LimiterState") (F_nextFreeNanos_a : Fld Z h0 a "com/example/schleuse/schleuse/LimiterState" "nextFreeNanos" "J" (.long A)) (F_nextFreeFraction_a : Fld Z h0 a "com/example/schleuse/schleuse/LimiterState" "nextFreeFraction" "D" (.double ff)) :
    Con l (⟨"com/example/schleuse/schleuse/LimiterState", "nextFreeNanosSince", "(JD)D"⟩ : MethodName) prog_5_method_8_code 10 (some .double) ws ({ frames := 0, cells := 0, slots := 0, locals := 0 } : Room) Z #[(.ref a), (.long B), (.double f)] h0 ({ frames := 0, cells := 0, slots := 0, locals := 0 } : Room).cells ({ frames := 0, cells := 0, slots := 0, locals := 0 } : Room).slots (Q_rmN1 Z a A B ff f sp cc ev h0 n0) := by
  refine Con.of (Ls := #[.val (.ref a), .val (.long B), .second, .val (.double f), .second, .unset, .unset, .unset, .unset, .unset]) (plainFor_of_name (by first | (simp [plainName, overriddenIn]; done) | decide +kernel)) (fun m => by first | (simp [entryFrame, mkF, argsToLocals, Value.category]; done) | rfl) ?_
  intro p e s m below meth c s₁ G hGe hG hx hby hml hown hnm hrt hlk hZ X0 e0
  have hown : s.vm.findClass "com/example/schleuse/schleuse/LimiterState" = some m.cls := hown
  have hnm : meth.name = "nextFreeNanosSince" := hnm
  have NF0 := Fr.nil n0
  have hA : lcmpW A B < 0 ↔ A < B := lw_lt A B
  have hW : lcmpW (A - B) 0 < 0 ↔ A - B < 0 := lw_lt _ _
  refine g_aloadN hG X0 hx (hb hby d4_0) (pc' := 1) rfl rfl rfl ?_
  show G (s₁.setTop (mkF m 1 #[.val (.ref a), .val (.long B), .second, .val (.double f), .second, .unset, .unset, .unset, .unset, .unset] [(.ref a)]))
  refine g_getF hG X0 hx hZ hown (wd hw 11 rfl) Via.refl e0 F_nextFreeNanos_a (hb hby d4_1) (pc' := 4) rfl ?_
  intro T1 X1 e1
  show G (T1.setTop (mkF m 4 #[.val (.ref a), .val (.long B), .second, .val (.double f), .second, .unset, .unset, .unset, .unset, .unset] [(.long A)]))
  refine g_lloadN hG X1 hx (hb hby d4_4) (pc' := 5) rfl rfl ?_
  show G (T1.setTop (mkF m 5 #[.val (.ref a), .val (.long B), .second, .val (.double f), .second, .unset, .unset, .unset, .unset, .unset] [(.long B), (.long A)]))
  obtain ⟨v5, q5⟩ : ∃ z : Int64, A - B = z := ⟨_, rfl⟩
  refine g_lsub hG X1 hx (hb hby d4_5) (pc' := 6) rfl q5 ?_
  show G (T1.setTop (mkF m 6 #[.val (.ref a), .val (.long B), .second, .val (.double f), .second, .unset, .unset, .unset, .unset, .unset] [(.long v5)]))
  refine g_lstore hG X1 hx (hb hby d4_6) (pc' := 8) rfl (Ls' := #[.val (.ref a), .val (.long B), .second, .val (.double f), .second, .val (.long v5), .second, .unset, .unset, .unset]) rfl ?_
  show G (T1.setTop (mkF m 8 #[.val (.ref a), .val (.long B), .second, .val (.double f), .second, .val (.long v5), .second, .unset, .unset, .unset] []))
  refine g_lload hG X1 hx (hb hby d4_8) (pc' := 10) rfl rfl ?_
  show G (T1.setTop (mkF m 10 #[.val (.ref a), .val (.long B), .second, .val (.double f), .second, .val (.long v5), .second, .unset, .unset, .unset] [(.long v5)]))
  refine g_lconst hG X1 hx (hb hby d4_10) (pc' := 11) rfl (v := (0 : Int64)) rfl ?_
  show G (T1.setTop (mkF m 11 #[.val (.ref a), .val (.long B), .second, .val (.double f), .second, .val (.long v5), .second, .unset, .unset, .unset] [(.long 0), (.long v5)]))
  obtain ⟨v11, q11⟩ : ∃ z : Int32, lcmpW v5 (0 : Int64) = z := ⟨_, rfl⟩
  refine g_lcmp hG X1 hx (hb hby d4_11) (pc' := 12) rfl q11 ?_
  show G (T1.setTop (mkF m 12 #[.val (.ref a), .val (.long B), .second, .val (.double f), .second, .val (.long v5), .second, .unset, .unset, .unset] [(.int v11)]))
  by_cases h12 : v11 < (0 : Int32)
  · refine g_ifNo hG X1 hx (hb hby d4_12) (pc' := 15) ((if0 _ _).trans (tlt h12).2.1) rfl ?_
    refine g_iconst hG X1 hx (hb hby d4_15) (pc' := 16) rfl (v := (1 : Int32)) rfl ?_
    show G (T1.setTop (mkF m 16 #[.val (.ref a), .val (.long B), .second, .val (.double f), .second, .val (.long v5), .second, .unset, .unset, .unset] [(.int 1)]))
    refine g_goto hG X1 hx (hb hby d4_16) (pc' := 20) (by decide) (by decide) ?_
    show G (T1.setTop (mkF m 20 #[.val (.ref a), .val (.long B), .second, .val (.double f), .second, .val (.long v5), .second, .unset, .unset, .unset] [(.int 1)]))
    refine g_aloadN hG X1 hx (hb hby d4_20) (pc' := 21) rfl rfl rfl ?_
    show G (T1.setTop (mkF m 21 #[.val (.ref a), .val (.long B), .second, .val (.double f), .second, .val (.long v5), .second, .unset, .unset, .unset] [(.ref a), (.int 1)]))
    refine g_getF hG X1 hx hZ hown (wd hw 11 rfl) Via.refl e1 F_nextFreeNanos_a (hb hby d4_21) (pc' := 24) rfl ?_
    intro T2 X2 e2
    show G (T2.setTop (mkF m 24 #[.val (.ref a), .val (.long B), .second, .val (.double f), .second, .val (.long v5), .second, .unset, .unset, .unset] [(.long A), (.int 1)]))
    refine g_lloadN hG X2 hx (hb hby d4_24) (pc' := 25) rfl rfl ?_
    show G (T2.setTop (mkF m 25 #[.val (.ref a), .val (.long B), .second, .val (.double f), .second, .val (.long v5), .second, .unset, .unset, .unset] [(.long B), (.long A), (.int 1)]))
    obtain ⟨v25, q25⟩ : ∃ z : Int32, lcmpW A B = z := ⟨_, rfl⟩
    refine g_lcmp hG X2 hx (hb hby d4_25) (pc' := 26) rfl q25 ?_
    show G (T2.setTop (mkF m 26 #[.val (.ref a), .val (.long B), .second, .val (.double f), .second, .val (.long v5), .second, .unset, .unset, .unset] [(.int v25), (.int 1)]))
    refine g_ifYes hG X2 hx (hb hby d4_26) (pc' := 33) ((if0 _ _).trans (flt (show ¬ v25 < 0 by rw [← q25]; exact fun g => hwr.mpr (hA.mp g) (hW.mp (by rw [q5, q11]; exact h12)))).2.1) (by decide) (by decide) ?_
    show G (T2.setTop (mkF m 33 #[.val (.ref a), .val (.long B), .second, .val (.double f), .second, .val (.long v5), .second, .unset, .unset, .unset] [(.int 1)]))
    refine g_iconst hG X2 hx (hb hby d4_33) (pc' := 34) rfl (v := (0 : Int32)) rfl ?_
    show G (T2.setTop (mkF m 34 #[.val (.ref a), .val (.long B), .second, .val (.double f), .second, .val (.long v5), .second, .unset, .unset, .unset] [(.int 0), (.int 1)]))
    refine g_icmpNo hG X2 hx (hb hby d4_34) (pc' := 37) (by decide) rfl ?_
    show G (T2.setTop (mkF m 37 #[.val (.ref a), .val (.long B), .second, .val (.double f), .second, .val (.long v5), .second, .unset, .unset, .unset] []))
    refine g_iconst hG X2 hx (hb hby d4_37) (pc' := 38) rfl (v := (1 : Int32)) rfl ?_
    show G (T2.setTop (mkF m 38 #[.val (.ref a), .val (.long B), .second, .val (.double f), .second, .val (.long v5), .second, .unset, .unset, .unset] [(.int 1)]))
    refine g_goto hG X2 hx (hb hby d4_38) (pc' := 42) (by decide) (by decide) ?_
    show G (T2.setTop (mkF m 42 #[.val (.ref a), .val (.long B), .second, .val (.double f), .second, .val (.long v5), .second, .unset, .unset, .unset] [(.int 1)]))
    refine g_istore hG X2 hx (hb hby d4_42) (pc' := 44) rfl (Ls' := #[.val (.ref a), .val (.long B), .second, .val (.double f), .second, .val (.long v5), .second, .val (.int 1), .unset, .unset]) rfl ?_
    show G (T2.setTop (mkF m 44 #[.val (.ref a), .val (.long B), .second, .val (.double f), .second, .val (.long v5), .second, .val (.int 1), .unset, .unset] []))
    refine g_iload hG X2 hx (hb hby d4_44) (pc' := 46) rfl rfl ?_
    show G (T2.setTop (mkF m 46 #[.val (.ref a), .val (.long B), .second, .val (.double f), .second, .val (.long v5), .second, .val (.int 1), .unset, .unset] [(.int 1)]))
    refine g_ifNo hG X2 hx (hb hby d4_46) (pc' := 49) (by decide) rfl ?_
    show G (T2.setTop (mkF m 49 #[.val (.ref a), .val (.long B), .second, .val (.double f), .second, .val (.long v5), .second, .val (.int 1), .unset, .unset] []))
    refine g_aloadN hG X2 hx (hb hby d4_49) (pc' := 50) rfl rfl rfl ?_
    show G (T2.setTop (mkF m 50 #[.val (.ref a), .val (.long B), .second, .val (.double f), .second, .val (.long v5), .second, .val (.int 1), .unset, .unset] [(.ref a)]))
    refine g_getF hG X2 hx hZ hown (wd hw 11 rfl) Via.refl e2 F_nextFreeNanos_a (hb hby d4_50) (pc' := 53) rfl ?_
    intro T3 X3 e3
    show G (T3.setTop (mkF m 53 #[.val (.ref a), .val (.long B), .second, .val (.double f), .second, .val (.long v5), .second, .val (.int 1), .unset, .unset] [(.long A)]))
    obtain ⟨v53, q53⟩ : ∃ z : UInt64, FP.l2d A = z := ⟨_, rfl⟩
    refine g_l2d hG X3 hx (hb hby d4_53) (pc' := 54) rfl q53 ?_
    show G (T3.setTop (mkF m 54 #[.val (.ref a), .val (.long B), .second, .val (.double f), .second, .val (.long v5), .second, .val (.int 1), .unset, .unset] [(.double v53)]))
    refine g_lloadN hG X3 hx (hb hby d4_54) (pc' := 55) rfl rfl ?_
    show G (T3.setTop (mkF m 55 #[.val (.ref a), .val (.long B), .second, .val (.double f), .second, .val (.long v5), .second, .val (.int 1), .unset, .unset] [(.long B), (.double v53)]))
    obtain ⟨v55, q55⟩ : ∃ z : UInt64, FP.l2d B = z := ⟨_, rfl⟩
    refine g_l2d hG X3 hx (hb hby d4_55) (pc' := 56) rfl q55 ?_
    show G (T3.setTop (mkF m 56 #[.val (.ref a), .val (.long B), .second, .val (.double f), .second, .val (.long v5), .second, .val (.int 1), .unset, .unset] [(.double v55), (.double v53)]))
    refine g_dsub hG X3 hx (hb hby d4_56) (pc' := 57) rfl (by rw [← q53, ← q55, hsp]; exact n1) (v := sp) (by rw [← q53, ← q55]; exact hsp) ?_
    show G (T3.setTop (mkF m 57 #[.val (.ref a), .val (.long B), .second, .val (.double f), .second, .val (.long v5), .second, .val (.int 1), .unset, .unset] [(.double sp)]))
    refine g_goto hG X3 hx (hb hby d4_57) (pc' := 63) (by decide) (by decide) ?_
    show G (T3.setTop (mkF m 63 #[.val (.ref a), .val (.long B), .second, .val (.double f), .second, .val (.long v5), .second, .val (.int 1), .unset, .unset] [(.double sp)]))
    refine g_dstore hG X3 hx (hb hby d4_63) (pc' := 65) rfl (Ls' := #[.val (.ref a), .val (.long B), .second, .val (.double f), .second, .val (.long v5), .second, .val (.int 1), .val (.double sp), .second]) rfl ?_
    show G (T3.setTop (mkF m 65 #[.val (.ref a), .val (.long B), .second, .val (.double f), .second, .val (.long v5), .second, .val (.int 1), .val (.double sp), .second] []))
    refine g_dload hG X3 hx (hb hby d4_65) (pc' := 67) rfl rfl ?_
    show G (T3.setTop (mkF m 67 #[.val (.ref a), .val (.long B), .second, .val (.double f), .second, .val (.long v5), .second, .val (.int 1), .val (.double sp), .second] [(.double sp)]))
    refine g_aloadN hG X3 hx (hb hby d4_67) (pc' := 68) rfl rfl rfl ?_
    show G (T3.setTop (mkF m 68 #[.val (.ref a), .val (.long B), .second, .val (.double f), .second, .val (.long v5), .second, .val (.int 1), .val (.double sp), .second] [(.ref a), (.double sp)]))
    refine g_getF hG X3 hx hZ hown (wd hw 36 rfl) Via.refl e3 F_nextFreeFraction_a (hb hby d4_68) (pc' := 71) rfl ?_
    intro T4 X4 e4
    show G (T4.setTop (mkF m 71 #[.val (.ref a), .val (.long B), .second, .val (.double f), .second, .val (.long v5), .second, .val (.int 1), .val (.double sp), .second] [(.double ff), (.double sp)]))
    refine g_dloadN hG X4 hx (hb hby d4_71) (pc' := 72) rfl rfl ?_
    show G (T4.setTop (mkF m 72 #[.val (.ref a), .val (.long B), .second, .val (.double f), .second, .val (.long v5), .second, .val (.int 1), .val (.double sp), .second] [(.double f), (.double ff), (.double sp)]))
    refine g_dsub hG X4 hx (hb hby d4_72) (pc' := 73) rfl (by rw [hcc]; exact n2) hcc ?_
    show G (T4.setTop (mkF m 73 #[.val (.ref a), .val (.long B), .second, .val (.double f), .second, .val (.long v5), .second, .val (.int 1), .val (.double sp), .second] [(.double cc), (.double sp)]))
    refine g_dadd hG X4 hx (hb hby d4_73) (pc' := 74) rfl (by rw [hev]; exact n3) hev ?_
    show G (T4.setTop (mkF m 74 #[.val (.ref a), .val (.long B), .second, .val (.double f), .second, .val (.long v5), .second, .val (.int 1), .val (.double sp), .second] [(.double ev)]))
    exact e_retD hGe X4 hx hrt hlk (hb hby d4_74) e4 (by decide) (by decide) (⟨rfl, NF0, rfl⟩)
  · refine g_ifYes hG X1 hx (hb hby d4_12) (pc' := 19) ((if0 _ _).trans (flt h12).2.1) (by decide) (by decide) ?_
    refine g_iconst hG X1 hx (hb hby d4_19) (pc' := 20) rfl (v := (0 : Int32)) rfl ?_
    show G (T1.setTop (mkF m 20 #[.val (.ref a), .val (.long B), .second, .val (.double f), .second, .val (.long v5), .second, .unset, .unset, .unset] [(.int 0)]))
    refine g_aloadN hG X1 hx (hb hby d4_20) (pc' := 21) rfl rfl rfl ?_
    show G (T1.setTop (mkF m 21 #[.val (.ref a), .val (.long B), .second, .val (.double f), .second, .val (.long v5), .second, .unset, .unset, .unset] [(.ref a), (.int 0)]))
    refine g_getF hG X1 hx hZ hown (wd hw 11 rfl) Via.refl e1 F_nextFreeNanos_a (hb hby d4_21) (pc' := 24) rfl ?_
    intro T5 X5 e5
    show G (T5.setTop (mkF m 24 #[.val (.ref a), .val (.long B), .second, .val (.double f), .second, .val (.long v5), .second, .unset, .unset, .unset] [(.long A), (.int 0)]))
    refine g_lloadN hG X5 hx (hb hby d4_24) (pc' := 25) rfl rfl ?_
    show G (T5.setTop (mkF m 25 #[.val (.ref a), .val (.long B), .second, .val (.double f), .second, .val (.long v5), .second, .unset, .unset, .unset] [(.long B), (.long A), (.int 0)]))
    obtain ⟨v25, q25⟩ : ∃ z : Int32, lcmpW A B = z := ⟨_, rfl⟩
    refine g_lcmp hG X5 hx (hb hby d4_25) (pc' := 26) rfl q25 ?_
    show G (T5.setTop (mkF m 26 #[.val (.ref a), .val (.long B), .second, .val (.double f), .second, .val (.long v5), .second, .unset, .unset, .unset] [(.int v25), (.int 0)]))
    refine g_ifNo hG X5 hx (hb hby d4_26) (pc' := 29) ((if0 _ _).trans (tlt (show v25 < 0 by rw [← q25]; exact hA.mpr (hwr.mp (fun g => h12 (by rw [← q11, ← q5]; exact hW.mpr g))))).2.1) rfl ?_
    show G (T5.setTop (mkF m 29 #[.val (.ref a), .val (.long B), .second, .val (.double f), .second, .val (.long v5), .second, .unset, .unset, .unset] [(.int 0)]))
    refine g_iconst hG X5 hx (hb hby d4_29) (pc' := 30) rfl (v := (1 : Int32)) rfl ?_
    show G (T5.setTop (mkF m 30 #[.val (.ref a), .val (.long B), .second, .val (.double f), .second, .val (.long v5), .second, .unset, .unset, .unset] [(.int 1), (.int 0)]))
    refine g_goto hG X5 hx (hb hby d4_30) (pc' := 34) (by decide) (by decide) ?_
    show G (T5.setTop (mkF m 34 #[.val (.ref a), .val (.long B), .second, .val (.double f), .second, .val (.long v5), .second, .unset, .unset, .unset] [(.int 1), (.int 0)]))
    refine g_icmpNo hG X5 hx (hb hby d4_34) (pc' := 37) (by decide) rfl ?_
    show G (T5.setTop (mkF m 37 #[.val (.ref a), .val (.long B), .second, .val (.double f), .second, .val (.long v5), .second, .unset, .unset, .unset] []))
    refine g_iconst hG X5 hx (hb hby d4_37) (pc' := 38) rfl (v := (1 : Int32)) rfl ?_
    show G (T5.setTop (mkF m 38 #[.val (.ref a), .val (.long B), .second, .val (.double f), .second, .val (.long v5), .second, .unset, .unset, .unset] [(.int 1)]))
    refine g_goto hG X5 hx (hb hby d4_38) (pc' := 42) (by decide) (by decide) ?_
    show G (T5.setTop (mkF m 42 #[.val (.ref a), .val (.long B), .second, .val (.double f), .second, .val (.long v5), .second, .unset, .unset, .unset] [(.int 1)]))
    refine g_istore hG X5 hx (hb hby d4_42) (pc' := 44) rfl (Ls' := #[.val (.ref a), .val (.long B), .second, .val (.double f), .second, .val (.long v5), .second, .val (.int 1), .unset, .unset]) rfl ?_
    show G (T5.setTop (mkF m 44 #[.val (.ref a), .val (.long B), .second, .val (.double f), .second, .val (.long v5), .second, .val (.int 1), .unset, .unset] []))
    refine g_iload hG X5 hx (hb hby d4_44) (pc' := 46) rfl rfl ?_
    show G (T5.setTop (mkF m 46 #[.val (.ref a), .val (.long B), .second, .val (.double f), .second, .val (.long v5), .second, .val (.int 1), .unset, .unset] [(.int 1)]))
    refine g_ifNo hG X5 hx (hb hby d4_46) (pc' := 49) (by decide) rfl ?_
    show G (T5.setTop (mkF m 49 #[.val (.ref a), .val (.long B), .second, .val (.double f), .second, .val (.long v5), .second, .val (.int 1), .unset, .unset] []))
    refine g_aloadN hG X5 hx (hb hby d4_49) (pc' := 50) rfl rfl rfl ?_
    show G (T5.setTop (mkF m 50 #[.val (.ref a), .val (.long B), .second, .val (.double f), .second, .val (.long v5), .second, .val (.int 1), .unset, .unset] [(.ref a)]))
    refine g_getF hG X5 hx hZ hown (wd hw 11 rfl) Via.refl e5 F_nextFreeNanos_a (hb hby d4_50) (pc' := 53) rfl ?_
    intro T6 X6 e6
    show G (T6.setTop (mkF m 53 #[.val (.ref a), .val (.long B), .second, .val (.double f), .second, .val (.long v5), .second, .val (.int 1), .unset, .unset] [(.long A)]))
    obtain ⟨v53, q53⟩ : ∃ z : UInt64, FP.l2d A = z := ⟨_, rfl⟩
    refine g_l2d hG X6 hx (hb hby d4_53) (pc' := 54) rfl q53 ?_
    show G (T6.setTop (mkF m 54 #[.val (.ref a), .val (.long B), .second, .val (.double f), .second, .val (.long v5), .second, .val (.int 1), .unset, .unset] [(.double v53)]))
    refine g_lloadN hG X6 hx (hb hby d4_54) (pc' := 55) rfl rfl ?_
    show G (T6.setTop (mkF m 55 #[.val (.ref a), .val (.long B), .second, .val (.double f), .second, .val (.long v5), .second, .val (.int 1), .unset, .unset] [(.long B), (.double v53)]))
    obtain ⟨v55, q55⟩ : ∃ z : UInt64, FP.l2d B = z := ⟨_, rfl⟩
    refine g_l2d hG X6 hx (hb hby d4_55) (pc' := 56) rfl q55 ?_
    show G (T6.setTop (mkF m 56 #[.val (.ref a), .val (.long B), .second, .val (.double f), .second, .val (.long v5), .second, .val (.int 1), .unset, .unset] [(.double v55), (.double v53)]))
    refine g_dsub hG X6 hx (hb hby d4_56) (pc' := 57) rfl (by rw [← q53, ← q55, hsp]; exact n1) (v := sp) (by rw [← q53, ← q55]; exact hsp) ?_
    show G (T6.setTop (mkF m 57 #[.val (.ref a), .val (.long B), .second, .val (.double f), .second, .val (.long v5), .second, .val (.int 1), .unset, .unset] [(.double sp)]))
    refine g_goto hG X6 hx (hb hby d4_57) (pc' := 63) (by decide) (by decide) ?_
    show G (T6.setTop (mkF m 63 #[.val (.ref a), .val (.long B), .second, .val (.double f), .second, .val (.long v5), .second, .val (.int 1), .unset, .unset] [(.double sp)]))
    refine g_dstore hG X6 hx (hb hby d4_63) (pc' := 65) rfl (Ls' := #[.val (.ref a), .val (.long B), .second, .val (.double f), .second, .val (.long v5), .second, .val (.int 1), .val (.double sp), .second]) rfl ?_
    show G (T6.setTop (mkF m 65 #[.val (.ref a), .val (.long B), .second, .val (.double f), .second, .val (.long v5), .second, .val (.int 1), .val (.double sp), .second] []))
    refine g_dload hG X6 hx (hb hby d4_65) (pc' := 67) rfl rfl ?_
    show G (T6.setTop (mkF m 67 #[.val (.ref a), .val (.long B), .second, .val (.double f), .second, .val (.long v5), .second, .val (.int 1), .val (.double sp), .second] [(.double sp)]))
    refine g_aloadN hG X6 hx (hb hby d4_67) (pc' := 68) rfl rfl rfl ?_
    show G (T6.setTop (mkF m 68 #[.val (.ref a), .val (.long B), .second, .val (.double f), .second, .val (.long v5), .second, .val (.int 1), .val (.double sp), .second] [(.ref a), (.double sp)]))
    refine g_getF hG X6 hx hZ hown (wd hw 36 rfl) Via.refl e6 F_nextFreeFraction_a (hb hby d4_68) (pc' := 71) rfl ?_
    intro T7 X7 e7
    show G (T7.setTop (mkF m 71 #[.val (.ref a), .val (.long B), .second, .val (.double f), .second, .val (.long v5), .second, .val (.int 1), .val (.double sp), .second] [(.double ff), (.double sp)]))
    refine g_dloadN hG X7 hx (hb hby d4_71) (pc' := 72) rfl rfl ?_
    show G (T7.setTop (mkF m 72 #[.val (.ref a), .val (.long B), .second, .val (.double f), .second, .val (.long v5), .second, .val (.int 1), .val (.double sp), .second] [(.double f), (.double ff), (.double sp)]))
    refine g_dsub hG X7 hx (hb hby d4_72) (pc' := 73) rfl (by rw [hcc]; exact n2) hcc ?_
    show G (T7.setTop (mkF m 73 #[.val (.ref a), .val (.long B), .second, .val (.double f), .second, .val (.long v5), .second, .val (.int 1), .val (.double sp), .second] [(.double cc), (.double sp)]))
    refine g_dadd hG X7 hx (hb hby d4_73) (pc' := 74) rfl (by rw [hev]; exact n3) hev ?_
    show G (T7.setTop (mkF m 74 #[.val (.ref a), .val (.long B), .second, .val (.double f), .second, .val (.long v5), .second, .val (.int 1), .val (.double sp), .second] [(.double ev)]))
    exact e_retD hGe X7 hx hrt hlk (hb hby d4_74) e7 (by decide) (by decide) (⟨rfl, NF0, rfl⟩)

theorem rmN (l : Launch) (Z : State) (a0 : Array Value) (hw : ∀ d ∈ tables_1, d.before a0 Z = true) (ws : List Jvm.Cond) (a : Addr) (A B : Int64) (ff f sp cc ev : UInt64) (h0 : Heap) (n0 : Nat) (Zs : n0 ≤ h0.size)
    (hor : ((A - B < 0 ↔ A < B) ∧ FP.l2d (A - B) = sp) ∨ ((¬ (A - B < 0) ↔ A < B) ∧ FP.dsub (FP.l2d A) (FP.l2d B) = sp)) (hcc : FP.dsub ff f = cc) (hev : FP.dadd sp cc = ev) (n1 : Jvm.Free.Fl.NoNaN64 sp) (n2 : Jvm.Free.Fl.NoNaN64 cc) (n3 : Jvm.Free.Fl.NoNaN64 ev) (Ex_a : Exa Z h0 a "com/example/schleuse/schleuse/LimiterState") (F_nextFreeNanos_a : Fld Z h0 a "com/example/schleuse/schleuse/LimiterState" "nextFreeNanos" "J" (.long A)) (F_nextFreeFraction_a : Fld Z h0 a "com/example/schleuse/schleuse/LimiterState" "nextFreeFraction" "D" (.double ff)) :
    Con l (⟨"com/example/schleuse/schleuse/LimiterState", "nextFreeNanosSince", "(JD)D"⟩ : MethodName) prog_5_method_8_code 10 (some .double) ws ({ frames := 0, cells := 0, slots := 0, locals := 0 } : Room) Z #[(.ref a), (.long B), (.double f)] h0 ({ frames := 0, cells := 0, slots := 0, locals := 0 } : Room).cells ({ frames := 0, cells := 0, slots := 0, locals := 0 } : Room).slots (Q_rmN0 Z a A B ff f sp cc ev h0 n0) := by
  rcases hor with ⟨h1, h2⟩ | ⟨h1, h2⟩
  · exact rmN0 l Z a0 hw ws a A B ff f sp cc ev h0 n0 Zs h1 h2 hcc hev n1 n2 n3 Ex_a F_nextFreeNanos_a F_nextFreeFraction_a
  · exact rmN1 l Z a0 hw ws a A B ff f sp cc ev h0 n0 Zs h1 h2 hcc hev n1 n2 n3 Ex_a F_nextFreeNanos_a F_nextFreeFraction_a

def Q_rm0 (Z : State) (aa bi : Int64) (dd fr : Int32) (h0 : Heap) (n0 : Nat) (v : Option Value) (h : Heap) (L : List Loc) : Prop := v = some (.int 1) ∧ Fr n0 L
set_option maxRecDepth 65536 in
set_option maxHeartbeats 40000000 in
theorem rm0 (l : Launch) (Z : State) (a0 : Array Value) (hw : ∀ d ∈ tables_1, d.before a0 Z = true) (ws : List Jvm.Cond) (aa bi : Int64) (dd fr : Int32) (h0 : Heap) (n0 : Nat) (Zs : n0 ≤ h0.size)  :
    Con l x code maxLocals ret ws room_1 Z #[(.long aa), (.long bi), (.int dd), (.int fr)] h0 room_1.cells room_1.slots (Q_rm0 Z aa bi dd fr h0 n0) := by
  refine Con.of (Ls := #[.val (.long aa), .second, .val (.long bi), .second, .val (.int dd), .val (.int fr), .unset, .unset, .unset, .unset, .unset, .unset, .unset, .unset, .unset, .unset, .unset, .unset, .unset, .unset, .unset, .unset, .unset, .unset, .unset, .unset, .unset, .unset, .unset, .unset, .unset]) (plainFor_of_name (by first | (simp [plainName, overriddenIn]; done) | decide +kernel)) (fun m => by first | (simp [entryFrame, mkF, argsToLocals, Value.category, maxLocals]; done) | rfl) ?_
  intro p e s m below meth c s₁ G hGe hG hx hby hml hown hnm hrt hlk hZ X0 e0
  have hml : c.maxLocals = 31 := hml
  have hown : s.vm.findClass "com/example/schleuse/schleuse/LimiterStateNextFreeNanosSincePinLaw" = some m.cls := hown
  have hnm : meth.name = "law" := hnm
  have NF0 := Fr.nil n0
  refine g_iload hG X0 hx (hb hby at_0) (pc' := 2) rfl rfl ?_
  show G (s₁.setTop (mkF m 2 #[.val (.long aa), .second, .val (.long bi), .second, .val (.int dd), .val (.int fr), .unset, .unset, .unset, .unset, .unset, .unset, .unset, .unset, .unset, .unset, .unset, .unset, .unset, .unset, .unset, .unset, .unset, .unset, .unset, .unset, .unset, .unset, .unset, .unset, .unset] [(.int fr)]))
  refine g_sipush hG X0 hx (hb hby at_2) (pc' := 5) rfl (v := (255 : Int32)) rfl ?_
  show G (s₁.setTop (mkF m 5 #[.val (.long aa), .second, .val (.long bi), .second, .val (.int dd), .val (.int fr), .unset, .unset, .unset, .unset, .unset, .unset, .unset, .unset, .unset, .unset, .unset, .unset, .unset, .unset, .unset, .unset, .unset, .unset, .unset, .unset, .unset, .unset, .unset, .unset, .unset] [(.int 255), (.int fr)]))
  obtain ⟨v5, q5⟩ : ∃ z : Int32, fr &&& (255 : Int32) = z := ⟨_, rfl⟩
  refine g_iand hG X0 hx (hb hby at_5) (pc' := 6) rfl q5 ?_
  show G (s₁.setTop (mkF m 6 #[.val (.long aa), .second, .val (.long bi), .second, .val (.int dd), .val (.int fr), .unset, .unset, .unset, .unset, .unset, .unset, .unset, .unset, .unset, .unset, .unset, .unset, .unset, .unset, .unset, .unset, .unset, .unset, .unset, .unset, .unset, .unset, .unset, .unset, .unset] [(.int v5)]))
  have b5 : 0 ≤ v5.toInt ∧ v5.toInt ≤ 255 := by rw [← q5]; exact c_and fr 255 (by decide)
  obtain ⟨v6, q6⟩ : ∃ z : UInt64, FP.i2d v5 = z := ⟨_, rfl⟩
  refine g_i2d hG X0 hx (hb hby at_6) (pc' := 7) rfl q6 ?_
  show G (s₁.setTop (mkF m 7 #[.val (.long aa), .second, .val (.long bi), .second, .val (.int dd), .val (.int fr), .unset, .unset, .unset, .unset, .unset, .unset, .unset, .unset, .unset, .unset, .unset, .unset, .unset, .unset, .unset, .unset, .unset, .unset, .unset, .unset, .unset, .unset, .unset, .unset, .unset] [(.double v6)]))
  refine g_ldcDouble hG X0 hx hZ hown (wd hw 0 rfl) (hb hby at_7) (pc' := 10) rfl ?_
  show G (s₁.setTop (mkF m 10 #[.val (.long aa), .second, .val (.long bi), .second, .val (.int dd), .val (.int fr), .unset, .unset, .unset, .unset, .unset, .unset, .unset, .unset, .unset, .unset, .unset, .unset, .unset, .unset, .unset, .unset, .unset, .unset, .unset, .unset, .unset, .unset, .unset, .unset, .unset] [(.double 4643211215818981376), (.double v6)]))
  obtain ⟨v10, q10⟩ : ∃ z : UInt64, FP.ddiv v6 (4643211215818981376 : UInt64) = z := ⟨_, rfl⟩
  have D10 := own_frac v5 b5.1 b5.2
  rw [q6, q10] at D10
  refine g_ddiv hG X0 hx (hb hby at_10) (pc' := 11) rfl (by rw [q10]; exact D10.noNaN) q10 ?_
  show G (s₁.setTop (mkF m 11 #[.val (.long aa), .second, .val (.long bi), .second, .val (.int dd), .val (.int fr), .unset, .unset, .unset, .unset, .unset, .unset, .unset, .unset, .unset, .unset, .unset, .unset, .unset, .unset, .unset, .unset, .unset, .unset, .unset, .unset, .unset, .unset, .unset, .unset, .unset] [(.double v10)]))
  refine g_dstore hG X0 hx (hb hby at_11) (pc' := 13) rfl (Ls' := #[.val (.long aa), .second, .val (.long bi), .second, .val (.int dd), .val (.int fr), .val (.double v10), .second, .unset, .unset, .unset, .unset, .unset, .unset, .unset, .unset, .unset, .unset, .unset, .unset, .unset, .unset, .unset, .unset, .unset, .unset, .unset, .unset, .unset, .unset, .unset]) rfl ?_
  show G (s₁.setTop (mkF m 13 #[.val (.long aa), .second, .val (.long bi), .second, .val (.int dd), .val (.int fr), .val (.double v10), .second, .unset, .unset, .unset, .unset, .unset, .unset, .unset, .unset, .unset, .unset, .unset, .unset, .unset, .unset, .unset, .unset, .unset, .unset, .unset, .unset, .unset, .unset, .unset] []))
  refine g_iload hG X0 hx (hb hby at_13) (pc' := 15) rfl rfl ?_
  show G (s₁.setTop (mkF m 15 #[.val (.long aa), .second, .val (.long bi), .second, .val (.int dd), .val (.int fr), .val (.double v10), .second, .unset, .unset, .unset, .unset, .unset, .unset, .unset, .unset, .unset, .unset, .unset, .unset, .unset, .unset, .unset, .unset, .unset, .unset, .unset, .unset, .unset, .unset, .unset] [(.int fr)]))
  refine g_bipush hG X0 hx (hb hby at_15) (pc' := 17) rfl (v := (8 : Int32)) rfl ?_
  show G (s₁.setTop (mkF m 17 #[.val (.long aa), .second, .val (.long bi), .second, .val (.int dd), .val (.int fr), .val (.double v10), .second, .unset, .unset, .unset, .unset, .unset, .unset, .unset, .unset, .unset, .unset, .unset, .unset, .unset, .unset, .unset, .unset, .unset, .unset, .unset, .unset, .unset, .unset, .unset] [(.int 8), (.int fr)]))
  obtain ⟨v17, q17⟩ : ∃ z : Int32, (fr.toUInt32 >>> ((8 : Int32) &&& 31).toUInt32).toInt32 = z := ⟨_, rfl⟩
  refine g_iushr hG X0 hx (hb hby at_17) (pc' := 18) rfl q17 ?_
  show G (s₁.setTop (mkF m 18 #[.val (.long aa), .second, .val (.long bi), .second, .val (.int dd), .val (.int fr), .val (.double v10), .second, .unset, .unset, .unset, .unset, .unset, .unset, .unset, .unset, .unset, .unset, .unset, .unset, .unset, .unset, .unset, .unset, .unset, .unset, .unset, .unset, .unset, .unset, .unset] [(.int v17)]))
  refine g_sipush hG X0 hx (hb hby at_18) (pc' := 21) rfl (v := (255 : Int32)) rfl ?_
  show G (s₁.setTop (mkF m 21 #[.val (.long aa), .second, .val (.long bi), .second, .val (.int dd), .val (.int fr), .val (.double v10), .second, .unset, .unset, .unset, .unset, .unset, .unset, .unset, .unset, .unset, .unset, .unset, .unset, .unset, .unset, .unset, .unset, .unset, .unset, .unset, .unset, .unset, .unset, .unset] [(.int 255), (.int v17)]))
  obtain ⟨v21, q21⟩ : ∃ z : Int32, v17 &&& (255 : Int32) = z := ⟨_, rfl⟩
  refine g_iand hG X0 hx (hb hby at_21) (pc' := 22) rfl q21 ?_
  show G (s₁.setTop (mkF m 22 #[.val (.long aa), .second, .val (.long bi), .second, .val (.int dd), .val (.int fr), .val (.double v10), .second, .unset, .unset, .unset, .unset, .unset, .unset, .unset, .unset, .unset, .unset, .unset, .unset, .unset, .unset, .unset, .unset, .unset, .unset, .unset, .unset, .unset, .unset, .unset] [(.int v21)]))
  have b21 : 0 ≤ v21.toInt ∧ v21.toInt ≤ 255 := by rw [← q21]; exact c_and v17 255 (by decide)
  obtain ⟨v22, q22⟩ : ∃ z : UInt64, FP.i2d v21 = z := ⟨_, rfl⟩
  refine g_i2d hG X0 hx (hb hby at_22) (pc' := 23) rfl q22 ?_
  show G (s₁.setTop (mkF m 23 #[.val (.long aa), .second, .val (.long bi), .second, .val (.int dd), .val (.int fr), .val (.double v10), .second, .unset, .unset, .unset, .unset, .unset, .unset, .unset, .unset, .unset, .unset, .unset, .unset, .unset, .unset, .unset, .unset, .unset, .unset, .unset, .unset, .unset, .unset, .unset] [(.double v22)]))
  refine g_ldcDouble hG X0 hx hZ hown (wd hw 0 rfl) (hb hby at_23) (pc' := 26) rfl ?_
  show G (s₁.setTop (mkF m 26 #[.val (.long aa), .second, .val (.long bi), .second, .val (.int dd), .val (.int fr), .val (.double v10), .second, .unset, .unset, .unset, .unset, .unset, .unset, .unset, .unset, .unset, .unset, .unset, .unset, .unset, .unset, .unset, .unset, .unset, .unset, .unset, .unset, .unset, .unset, .unset] [(.double 4643211215818981376), (.double v22)]))
  obtain ⟨v26, q26⟩ : ∃ z : UInt64, FP.ddiv v22 (4643211215818981376 : UInt64) = z := ⟨_, rfl⟩
  have D26 := own_frac v21 b21.1 b21.2
  rw [q22, q26] at D26
  refine g_ddiv hG X0 hx (hb hby at_26) (pc' := 27) rfl (by rw [q26]; exact D26.noNaN) q26 ?_
  show G (s₁.setTop (mkF m 27 #[.val (.long aa), .second, .val (.long bi), .second, .val (.int dd), .val (.int fr), .val (.double v10), .second, .unset, .unset, .unset, .unset, .unset, .unset, .unset, .unset, .unset, .unset, .unset, .unset, .unset, .unset, .unset, .unset, .unset, .unset, .unset, .unset, .unset, .unset, .unset] [(.double v26)]))
  refine g_dstore hG X0 hx (hb hby at_27) (pc' := 29) rfl (Ls' := #[.val (.long aa), .second, .val (.long bi), .second, .val (.int dd), .val (.int fr), .val (.double v10), .second, .val (.double v26), .second, .unset, .unset, .unset, .unset, .unset, .unset, .unset, .unset, .unset, .unset, .unset, .unset, .unset, .unset, .unset, .unset, .unset, .unset, .unset, .unset, .unset]) rfl ?_
  show G (s₁.setTop (mkF m 29 #[.val (.long aa), .second, .val (.long bi), .second, .val (.int dd), .val (.int fr), .val (.double v10), .second, .val (.double v26), .second, .unset, .unset, .unset, .unset, .unset, .unset, .unset, .unset, .unset, .unset, .unset, .unset, .unset, .unset, .unset, .unset, .unset, .unset, .unset, .unset, .unset] []))
  refine g_iload hG X0 hx (hb hby at_29) (pc' := 31) rfl rfl ?_
  show G (s₁.setTop (mkF m 31 #[.val (.long aa), .second, .val (.long bi), .second, .val (.int dd), .val (.int fr), .val (.double v10), .second, .val (.double v26), .second, .unset, .unset, .unset, .unset, .unset, .unset, .unset, .unset, .unset, .unset, .unset, .unset, .unset, .unset, .unset, .unset, .unset, .unset, .unset, .unset, .unset] [(.int fr)]))
  refine g_bipush hG X0 hx (hb hby at_31) (pc' := 33) rfl (v := (16 : Int32)) rfl ?_
  show G (s₁.setTop (mkF m 33 #[.val (.long aa), .second, .val (.long bi), .second, .val (.int dd), .val (.int fr), .val (.double v10), .second, .val (.double v26), .second, .unset, .unset, .unset, .unset, .unset, .unset, .unset, .unset, .unset, .unset, .unset, .unset, .unset, .unset, .unset, .unset, .unset, .unset, .unset, .unset, .unset] [(.int 16), (.int fr)]))
  obtain ⟨v33, q33⟩ : ∃ z : Int32, (fr.toUInt32 >>> ((16 : Int32) &&& 31).toUInt32).toInt32 = z := ⟨_, rfl⟩
  refine g_iushr hG X0 hx (hb hby at_33) (pc' := 34) rfl q33 ?_
  show G (s₁.setTop (mkF m 34 #[.val (.long aa), .second, .val (.long bi), .second, .val (.int dd), .val (.int fr), .val (.double v10), .second, .val (.double v26), .second, .unset, .unset, .unset, .unset, .unset, .unset, .unset, .unset, .unset, .unset, .unset, .unset, .unset, .unset, .unset, .unset, .unset, .unset, .unset, .unset, .unset] [(.int v33)]))
  refine g_iconst hG X0 hx (hb hby at_34) (pc' := 35) rfl (v := (1 : Int32)) rfl ?_
  show G (s₁.setTop (mkF m 35 #[.val (.long aa), .second, .val (.long bi), .second, .val (.int dd), .val (.int fr), .val (.double v10), .second, .val (.double v26), .second, .unset, .unset, .unset, .unset, .unset, .unset, .unset, .unset, .unset, .unset, .unset, .unset, .unset, .unset, .unset, .unset, .unset, .unset, .unset, .unset, .unset] [(.int 1), (.int v33)]))
  obtain ⟨v35, q35⟩ : ∃ z : Int32, v33 &&& (1 : Int32) = z := ⟨_, rfl⟩
  refine g_iand hG X0 hx (hb hby at_35) (pc' := 36) rfl q35 ?_
  show G (s₁.setTop (mkF m 36 #[.val (.long aa), .second, .val (.long bi), .second, .val (.int dd), .val (.int fr), .val (.double v10), .second, .val (.double v26), .second, .unset, .unset, .unset, .unset, .unset, .unset, .unset, .unset, .unset, .unset, .unset, .unset, .unset, .unset, .unset, .unset, .unset, .unset, .unset, .unset, .unset] [(.int v35)]))
  have cont : ∀ (nr : Int32) (bb : Int64) (ek : Int32), (ek = 0 ∨ ek = 1 ∧ aa.toInt - bb.toInt = dd.toInt) → G (s₁.setTop (mkF m 98 #[.val (.long aa), .second, .val (.long bi), .second, .val (.int dd), .val (.int fr), .val (.double v10), .second, .val (.double v26), .second, .val (.int nr), .val (.long bb), .second, .val (.int ek), .unset, .unset, .unset, .unset, .unset, .unset, .unset, .unset, .unset, .unset, .unset, .unset, .unset, .unset, .unset, .unset, .unset] [])) := by
    intro nr bb ek hek
    refine g_newO hG X0 hx hZ hown (wd hw 1 rfl) (wd hw 2 rfl) (wd hw 3 rfl) e0 (hb hby at_98) (by decide) (by decide) (pc' := 101) rfl ?_
    intro T1 h1 sb gs1 X1 e1 E1 Aq1 Dq1
    have ge_sb : n0 ≤ sb := gs1 ▸ Zs
    have Zs := Nat.le_trans Zs E1.1
    have Ex_sb := Aq1
    have F_nextFreeNanos_sb : Fld Z h1 sb "com/example/schleuse/schleuse/LimiterState" "nextFreeNanos" "J" (.long 0) := Dq1 (Or.inl (wd hw 12 rfl)) (ty := .long) (by decide)
    have F_warmUp_sb : Fld Z h1 sb "com/example/schleuse/schleuse/LimiterState" "warmUp" "Z" (.int 0) := Dq1 (Or.inr (wd hw 14 rfl)) (ty := .boolean) (by decide)
    have F_rate_sb : Fld Z h1 sb "com/example/schleuse/schleuse/LimiterState" "rate" "D" (.double 0) := Dq1 (Or.inl (wd hw 20 rfl)) (ty := .double) (by decide)
    have F_stableIntervalNanos_sb : Fld Z h1 sb "com/example/schleuse/schleuse/LimiterState" "stableIntervalNanos" "D" (.double 0) := Dq1 (Or.inl (wd hw 23 rfl)) (ty := .double) (by decide)
    have F_maxSavedUpPermits_sb : Fld Z h1 sb "com/example/schleuse/schleuse/LimiterState" "maxSavedUpPermits" "D" (.double 0) := Dq1 (Or.inl (wd hw 25 rfl)) (ty := .double) (by decide)
    have F_savedUpPermits_sb : Fld Z h1 sb "com/example/schleuse/schleuse/LimiterState" "savedUpPermits" "D" (.double 0) := Dq1 (Or.inl (wd hw 27 rfl)) (ty := .double) (by decide)
    have F_nextFreeFraction_sb : Fld Z h1 sb "com/example/schleuse/schleuse/LimiterState" "nextFreeFraction" "D" (.double 0) := Dq1 (Or.inl (wd hw 30 rfl)) (ty := .double) (by decide)
    show G (T1.setTop (mkF m 101 #[.val (.long aa), .second, .val (.long bi), .second, .val (.int dd), .val (.int fr), .val (.double v10), .second, .val (.double v26), .second, .val (.int nr), .val (.long bb), .second, .val (.int ek), .unset, .unset, .unset, .unset, .unset, .unset, .unset, .unset, .unset, .unset, .unset, .unset, .unset, .unset, .unset, .unset, .unset] [(.ref sb)]))
    refine g_dup hG X1 hx (hb hby at_101) (pc' := 102) rfl rfl ?_
    show G (T1.setTop (mkF m 102 #[.val (.long aa), .second, .val (.long bi), .second, .val (.int dd), .val (.int fr), .val (.double v10), .second, .val (.double v26), .second, .val (.int nr), .val (.long bb), .second, .val (.int ek), .unset, .unset, .unset, .unset, .unset, .unset, .unset, .unset, .unset, .unset, .unset, .unset, .unset, .unset, .unset, .unset, .unset] [(.ref sb), (.ref sb)]))
    refine g_dconst1 hG X1 hx (hb hby at_102) (pc' := 103) rfl (v := (4607182418800017408 : UInt64)) rfl ?_
    show G (T1.setTop (mkF m 103 #[.val (.long aa), .second, .val (.long bi), .second, .val (.int dd), .val (.int fr), .val (.double v10), .second, .val (.double v26), .second, .val (.int nr), .val (.long bb), .second, .val (.int ek), .unset, .unset, .unset, .unset, .unset, .unset, .unset, .unset, .unset, .unset, .unset, .unset, .unset, .unset, .unset, .unset, .unset] [(.double 4607182418800017408), (.ref sb), (.ref sb)]))
    refine g_dconst1 hG X1 hx (hb hby at_103) (pc' := 104) rfl (v := (4607182418800017408 : UInt64)) rfl ?_
    show G (T1.setTop (mkF m 104 #[.val (.long aa), .second, .val (.long bi), .second, .val (.int dd), .val (.int fr), .val (.double v10), .second, .val (.double v26), .second, .val (.int nr), .val (.long bb), .second, .val (.int ek), .unset, .unset, .unset, .unset, .unset, .unset, .unset, .unset, .unset, .unset, .unset, .unset, .unset, .unset, .unset, .unset, .unset] [(.double 4607182418800017408), (.double 4607182418800017408), (.ref sb), (.ref sb)]))
    refine g_iconst hG X1 hx (hb hby at_104) (pc' := 105) rfl (v := (0 : Int32)) rfl ?_
    show G (T1.setTop (mkF m 105 #[.val (.long aa), .second, .val (.long bi), .second, .val (.int dd), .val (.int fr), .val (.double v10), .second, .val (.double v26), .second, .val (.int nr), .val (.long bb), .second, .val (.int ek), .unset, .unset, .unset, .unset, .unset, .unset, .unset, .unset, .unset, .unset, .unset, .unset, .unset, .unset, .unset, .unset, .unset] [(.int 0), (.double 4607182418800017408), (.double 4607182418800017408), (.ref sb), (.ref sb)]))
    refine g_callI hG X1 hx hZ (y := (⟨"com/example/schleuse/schleuse/LimiterState", "<init>", "(DDZ)V"⟩ : MethodName)) 1 rfl hown (wd hw 4 rfl) (wd hw 5 rfl) (wd hw 3 rfl) (wd hw 6 rfl) (by decide) (rmI l Z a0 hw [] sb (4607182418800017408 : UInt64) (4607182418800017408 : UInt64) (0 : Int32) h1 n0 Zs ge_sb (Or.inl rfl) own_nan Ex_sb F_nextFreeNanos_sb F_warmUp_sb F_rate_sb F_stableIntervalNanos_sb F_maxSavedUpPermits_sb F_savedUpPermits_sb F_nextFreeFraction_sb) (by decide) (by decide) (by rw [hml]; rfl) pd_1 rfl (argsL := [(.double 4607182418800017408), (.double 4607182418800017408), (.int 0)]) (rest := [(.ref sb)]) rfl rfl (Nat.le_of_eq rfl) (hb hby at_105) e1 (by decide) (by decide) (pc' := 108) rfl ?_
    intro T2 rv2 L2 X2 hQ2
    obtain ⟨rfl, Nq2, Kq2, Ex_sb, F_nextFreeNanos_sb, F_warmUp_sb, F_rate_sb, F_stableIntervalNanos_sb, F_maxSavedUpPermits_sb, F_savedUpPermits_sb, F_nextFreeFraction_sb⟩ := hQ2
    have NF2 := Fr.app NF0 Nq2
    have Zs := Nat.le_trans Zs Kq2.1
    show G (T2.setTop (mkF m 108 #[.val (.long aa), .second, .val (.long bi), .second, .val (.int dd), .val (.int fr), .val (.double v10), .second, .val (.double v26), .second, .val (.int nr), .val (.long bb), .second, .val (.int ek), .unset, .unset, .unset, .unset, .unset, .unset, .unset, .unset, .unset, .unset, .unset, .unset, .unset, .unset, .unset, .unset, .unset] [(.ref sb)]))
    refine g_astore hG X2 hx (hb hby at_108) (pc' := 110) rfl rfl (Ls' := #[.val (.long aa), .second, .val (.long bi), .second, .val (.int dd), .val (.int fr), .val (.double v10), .second, .val (.double v26), .second, .val (.int nr), .val (.long bb), .second, .val (.int ek), .val (.ref sb), .unset, .unset, .unset, .unset, .unset, .unset, .unset, .unset, .unset, .unset, .unset, .unset, .unset, .unset, .unset, .unset]) rfl ?_
    show G (T2.setTop (mkF m 110 #[.val (.long aa), .second, .val (.long bi), .second, .val (.int dd), .val (.int fr), .val (.double v10), .second, .val (.double v26), .second, .val (.int nr), .val (.long bb), .second, .val (.int ek), .val (.ref sb), .unset, .unset, .unset, .unset, .unset, .unset, .unset, .unset, .unset, .unset, .unset, .unset, .unset, .unset, .unset, .unset] []))
    refine g_aload hG X2 hx (hb hby at_110) (pc' := 112) rfl rfl rfl ?_
    show G (T2.setTop (mkF m 112 #[.val (.long aa), .second, .val (.long bi), .second, .val (.int dd), .val (.int fr), .val (.double v10), .second, .val (.double v26), .second, .val (.int nr), .val (.long bb), .second, .val (.int ek), .val (.ref sb), .unset, .unset, .unset, .unset, .unset, .unset, .unset, .unset, .unset, .unset, .unset, .unset, .unset, .unset, .unset, .unset] [(.ref sb)]))
    refine g_lloadN hG X2 hx (hb hby at_112) (pc' := 113) rfl rfl ?_
    show G (T2.setTop (mkF m 113 #[.val (.long aa), .second, .val (.long bi), .second, .val (.int dd), .val (.int fr), .val (.double v10), .second, .val (.double v26), .second, .val (.int nr), .val (.long bb), .second, .val (.int ek), .val (.ref sb), .unset, .unset, .unset, .unset, .unset, .unset, .unset, .unset, .unset, .unset, .unset, .unset, .unset, .unset, .unset, .unset] [(.long aa), (.ref sb)]))
    refine g_putF hG X2 hx hZ hown (wd hw 28 rfl) Via.refl rfl F_nextFreeNanos_sb Ex_sb (Or.inl (wd hw 12 rfl)) (wd hw 2 rfl) (v' := (.long aa)) (ty := .long) (by decide) rfl rfl (hb hby at_113) (pc' := 116) rfl ?_
    intro T3 h3 X3 e3 W3
    have Ex_sb := Ex_sb.wr W3
    have F_nextFreeNanos_sb := F_nextFreeNanos_sb.same W3
    have F_warmUp_sb := F_warmUp_sb.other W3 (Or.inr (slot_ne (Or.inr (wd hw 14 rfl)) (Or.inl (wd hw 12 rfl)) (by decide) (t := .boolean) (t' := .long) (by decide) (by decide)))
    have F_rate_sb := F_rate_sb.other W3 (Or.inr (slot_ne (Or.inl (wd hw 20 rfl)) (Or.inl (wd hw 12 rfl)) (by decide) (t := .double) (t' := .long) (by decide) (by decide)))
    have F_stableIntervalNanos_sb := F_stableIntervalNanos_sb.other W3 (Or.inr (slot_ne (Or.inl (wd hw 23 rfl)) (Or.inl (wd hw 12 rfl)) (by decide) (t := .double) (t' := .long) (by decide) (by decide)))
    have F_maxSavedUpPermits_sb := F_maxSavedUpPermits_sb.other W3 (Or.inr (slot_ne (Or.inl (wd hw 25 rfl)) (Or.inl (wd hw 12 rfl)) (by decide) (t := .double) (t' := .long) (by decide) (by decide)))
    have F_savedUpPermits_sb := F_savedUpPermits_sb.other W3 (Or.inr (slot_ne (Or.inl (wd hw 27 rfl)) (Or.inl (wd hw 12 rfl)) (by decide) (t := .double) (t' := .long) (by decide) (by decide)))
    have F_nextFreeFraction_sb := F_nextFreeFraction_sb.other W3 (Or.inr (slot_ne (Or.inl (wd hw 30 rfl)) (Or.inl (wd hw 12 rfl)) (by decide) (t := .double) (t' := .long) (by decide) (by decide)))
    have Zs := Nat.le_trans Zs (Wr.size W3)
    have NF3 := Fr.snoc X3 NF2 ge_sb
    show G (T3.setTop (mkF m 116 #[.val (.long aa), .second, .val (.long bi), .second, .val (.int dd), .val (.int fr), .val (.double v10), .second, .val (.double v26), .second, .val (.int nr), .val (.long bb), .second, .val (.int ek), .val (.ref sb), .unset, .unset, .unset, .unset, .unset, .unset, .unset, .unset, .unset, .unset, .unset, .unset, .unset, .unset, .unset, .unset] []))
    refine g_aload hG X3 hx (hb hby at_116) (pc' := 118) rfl rfl rfl ?_
    show G (T3.setTop (mkF m 118 #[.val (.long aa), .second, .val (.long bi), .second, .val (.int dd), .val (.int fr), .val (.double v10), .second, .val (.double v26), .second, .val (.int nr), .val (.long bb), .second, .val (.int ek), .val (.ref sb), .unset, .unset, .unset, .unset, .unset, .unset, .unset, .unset, .unset, .unset, .unset, .unset, .unset, .unset, .unset, .unset] [(.ref sb)]))
    refine g_dload hG X3 hx (hb hby at_118) (pc' := 120) rfl rfl ?_
    show G (T3.setTop (mkF m 120 #[.val (.long aa), .second, .val (.long bi), .second, .val (.int dd), .val (.int fr), .val (.double v10), .second, .val (.double v26), .second, .val (.int nr), .val (.long bb), .second, .val (.int ek), .val (.ref sb), .unset, .unset, .unset, .unset, .unset, .unset, .unset, .unset, .unset, .unset, .unset, .unset, .unset, .unset, .unset, .unset] [(.double v10), (.ref sb)]))
    refine g_putF hG X3 hx hZ hown (wd hw 29 rfl) Via.refl e3 F_nextFreeFraction_sb Ex_sb (Or.inl (wd hw 30 rfl)) (wd hw 2 rfl) (v' := (.double v10)) (ty := .double) (by decide) rfl rfl (hb hby at_120) (pc' := 123) rfl ?_
    intro T4 h4 X4 e4 W4
    have Ex_sb := Ex_sb.wr W4
    have F_nextFreeNanos_sb := F_nextFreeNanos_sb.other W4 (Or.inr (slot_ne (Or.inl (wd hw 12 rfl)) (Or.inl (wd hw 30 rfl)) (by decide) (t := .long) (t' := .double) (by decide) (by decide)))
    have F_warmUp_sb := F_warmUp_sb.other W4 (Or.inr (slot_ne (Or.inr (wd hw 14 rfl)) (Or.inl (wd hw 30 rfl)) (by decide) (t := .boolean) (t' := .double) (by decide) (by decide)))
    have F_rate_sb := F_rate_sb.other W4 (Or.inr (slot_ne (Or.inl (wd hw 20 rfl)) (Or.inl (wd hw 30 rfl)) (by decide) (t := .double) (t' := .double) (by decide) (by decide)))
    have F_stableIntervalNanos_sb := F_stableIntervalNanos_sb.other W4 (Or.inr (slot_ne (Or.inl (wd hw 23 rfl)) (Or.inl (wd hw 30 rfl)) (by decide) (t := .double) (t' := .double) (by decide) (by decide)))
    have F_maxSavedUpPermits_sb := F_maxSavedUpPermits_sb.other W4 (Or.inr (slot_ne (Or.inl (wd hw 25 rfl)) (Or.inl (wd hw 30 rfl)) (by decide) (t := .double) (t' := .double) (by decide) (by decide)))
    have F_savedUpPermits_sb := F_savedUpPermits_sb.other W4 (Or.inr (slot_ne (Or.inl (wd hw 27 rfl)) (Or.inl (wd hw 30 rfl)) (by decide) (t := .double) (t' := .double) (by decide) (by decide)))
    have F_nextFreeFraction_sb := F_nextFreeFraction_sb.same W4
    have Zs := Nat.le_trans Zs (Wr.size W4)
    have NF4 := Fr.snoc X4 NF3 ge_sb
    show G (T4.setTop (mkF m 123 #[.val (.long aa), .second, .val (.long bi), .second, .val (.int dd), .val (.int fr), .val (.double v10), .second, .val (.double v26), .second, .val (.int nr), .val (.long bb), .second, .val (.int ek), .val (.ref sb), .unset, .unset, .unset, .unset, .unset, .unset, .unset, .unset, .unset, .unset, .unset, .unset, .unset, .unset, .unset, .unset] []))
    refine g_aload hG X4 hx (hb hby at_123) (pc' := 125) rfl rfl rfl ?_
    show G (T4.setTop (mkF m 125 #[.val (.long aa), .second, .val (.long bi), .second, .val (.int dd), .val (.int fr), .val (.double v10), .second, .val (.double v26), .second, .val (.int nr), .val (.long bb), .second, .val (.int ek), .val (.ref sb), .unset, .unset, .unset, .unset, .unset, .unset, .unset, .unset, .unset, .unset, .unset, .unset, .unset, .unset, .unset, .unset] [(.ref sb)]))
    refine g_lload hG X4 hx (hb hby at_125) (pc' := 127) rfl rfl ?_
    show G (T4.setTop (mkF m 127 #[.val (.long aa), .second, .val (.long bi), .second, .val (.int dd), .val (.int fr), .val (.double v10), .second, .val (.double v26), .second, .val (.int nr), .val (.long bb), .second, .val (.int ek), .val (.ref sb), .unset, .unset, .unset, .unset, .unset, .unset, .unset, .unset, .unset, .unset, .unset, .unset, .unset, .unset, .unset, .unset] [(.long bb), (.ref sb)]))
    refine g_dload hG X4 hx (hb hby at_127) (pc' := 129) rfl rfl ?_
    show G (T4.setTop (mkF m 129 #[.val (.long aa), .second, .val (.long bi), .second, .val (.int dd), .val (.int fr), .val (.double v10), .second, .val (.double v26), .second, .val (.int nr), .val (.long bb), .second, .val (.int ek), .val (.ref sb), .unset, .unset, .unset, .unset, .unset, .unset, .unset, .unset, .unset, .unset, .unset, .unset, .unset, .unset, .unset, .unset] [(.double v26), (.long bb), (.ref sb)]))
    obtain ⟨sp, S, hor, Dsp, hSp, hex⟩ := own_sp aa bb
    have ra := rng64 aa
    have rb := rng64 bb
    obtain ⟨cc, hcc⟩ : ∃ z, FP.dsub v10 v26 = z := ⟨_, rfl⟩
    obtain ⟨Dcc, c1, c2, c3, c4⟩ := own_diff D10 D26 b5.1 b5.2 b21.1 b21.2
    rw [hcc] at Dcc
    have rpC : OwnFl.Rp (((v5.toInt - v21.toInt : Int) : Rat) / 256) := (own_r256 (k := v5.toInt - v21.toInt) (by omega) (by omega)).1
    obtain ⟨C, hC⟩ : ∃ z : Rat, ((v5.toInt - v21.toInt : Int) : Rat) / 256 = z := ⟨_, rfl⟩
    have hC' := hC
    rw [hC] at Dcc c1 c2 c3 c4 rpC
    obtain ⟨ev, hev⟩ : ∃ z, FP.dadd sp cc = z := ⟨_, rfl⟩
    obtain ⟨s1, s2⟩ := own_bound hSp (by omega) (by omega)
    have Dev := OwnFl.dadd_DV Dsp Dcc (by grind) (by grind)
    rw [hev] at Dev
    refine g_callV hG X4 hx hZ (y := (⟨"com/example/schleuse/schleuse/LimiterState", "nextFreeNanosSince", "(JD)D"⟩ : MethodName)) 0 hown (wd hw 31 rfl) (wd hw 32 rfl) (wd hw 34 rfl) (wd hw 33 rfl) (wd hw 3 rfl) (wd hw 35 rfl) (by decide) (rmN l Z a0 hw [] sb aa bb v10 v26 sp cc ev h4 n0 Zs hor hcc hev Dsp.noNaN Dcc.noNaN Dev.noNaN Ex_sb F_nextFreeNanos_sb F_nextFreeFraction_sb) (by decide) (by decide) (by rw [hml]; rfl) pd_2 rfl (argsL := [(.long bb), (.double v26)]) (rest := []) rfl rfl (Nat.le_of_eq rfl) (hb hby at_129) e4 Ex_sb (by decide) (by decide) (pc' := 132) rfl ?_
    intro T5 rv5 L5 X5 hQ5
    obtain ⟨rfl, Nq5, eh5⟩ := hQ5
    have NF5 := Fr.app NF4 Nq5
    show G (T5.setTop (mkF m 132 #[.val (.long aa), .second, .val (.long bi), .second, .val (.int dd), .val (.int fr), .val (.double v10), .second, .val (.double v26), .second, .val (.int nr), .val (.long bb), .second, .val (.int ek), .val (.ref sb), .unset, .unset, .unset, .unset, .unset, .unset, .unset, .unset, .unset, .unset, .unset, .unset, .unset, .unset, .unset, .unset] [(.double ev)]))
    refine g_dstore hG X5 hx (hb hby at_132) (pc' := 134) rfl (Ls' := #[.val (.long aa), .second, .val (.long bi), .second, .val (.int dd), .val (.int fr), .val (.double v10), .second, .val (.double v26), .second, .val (.int nr), .val (.long bb), .second, .val (.int ek), .val (.ref sb), .val (.double ev), .second, .unset, .unset, .unset, .unset, .unset, .unset, .unset, .unset, .unset, .unset, .unset, .unset, .unset, .unset]) rfl ?_
    show G (T5.setTop (mkF m 134 #[.val (.long aa), .second, .val (.long bi), .second, .val (.int dd), .val (.int fr), .val (.double v10), .second, .val (.double v26), .second, .val (.int nr), .val (.long bb), .second, .val (.int ek), .val (.ref sb), .val (.double ev), .second, .unset, .unset, .unset, .unset, .unset, .unset, .unset, .unset, .unset, .unset, .unset, .unset, .unset, .unset] []))
    refine g_dload hG X5 hx (hb hby at_134) (pc' := 136) rfl rfl ?_
    show G (T5.setTop (mkF m 136 #[.val (.long aa), .second, .val (.long bi), .second, .val (.int dd), .val (.int fr), .val (.double v10), .second, .val (.double v26), .second, .val (.int nr), .val (.long bb), .second, .val (.int ek), .val (.ref sb), .val (.double ev), .second, .unset, .unset, .unset, .unset, .unset, .unset, .unset, .unset, .unset, .unset, .unset, .unset, .unset, .unset] [(.double v10)]))
    refine g_dload hG X5 hx (hb hby at_136) (pc' := 138) rfl rfl ?_
    show G (T5.setTop (mkF m 138 #[.val (.long aa), .second, .val (.long bi), .second, .val (.int dd), .val (.int fr), .val (.double v10), .second, .val (.double v26), .second, .val (.int nr), .val (.long bb), .second, .val (.int ek), .val (.ref sb), .val (.double ev), .second, .unset, .unset, .unset, .unset, .unset, .unset, .unset, .unset, .unset, .unset, .unset, .unset, .unset, .unset] [(.double v26), (.double v10)]))
    refine g_dsub hG X5 hx (hb hby at_138) (pc' := 139) rfl (by rw [hcc]; exact Dcc.noNaN) hcc ?_
    show G (T5.setTop (mkF m 139 #[.val (.long aa), .second, .val (.long bi), .second, .val (.int dd), .val (.int fr), .val (.double v10), .second, .val (.double v26), .second, .val (.int nr), .val (.long bb), .second, .val (.int ek), .val (.ref sb), .val (.double ev), .second, .unset, .unset, .unset, .unset, .unset, .unset, .unset, .unset, .unset, .unset, .unset, .unset, .unset, .unset] [(.double cc)]))
    refine g_dstore hG X5 hx (hb hby at_139) (pc' := 141) rfl (Ls' := #[.val (.long aa), .second, .val (.long bi), .second, .val (.int dd), .val (.int fr), .val (.double v10), .second, .val (.double v26), .second, .val (.int nr), .val (.long bb), .second, .val (.int ek), .val (.ref sb), .val (.double ev), .second, .val (.double cc), .second, .unset, .unset, .unset, .unset, .unset, .unset, .unset, .unset, .unset, .unset, .unset, .unset]) rfl ?_
    show G (T5.setTop (mkF m 141 #[.val (.long aa), .second, .val (.long bi), .second, .val (.int dd), .val (.int fr), .val (.double v10), .second, .val (.double v26), .second, .val (.int nr), .val (.long bb), .second, .val (.int ek), .val (.ref sb), .val (.double ev), .second, .val (.double cc), .second, .unset, .unset, .unset, .unset, .unset, .unset, .unset, .unset, .unset, .unset, .unset, .unset] []))
    have c160 : ∀ _u : Unit, G (T5.setTop (mkF m 160 #[.val (.long aa), .second, .val (.long bi), .second, .val (.int dd), .val (.int fr), .val (.double v10), .second, .val (.double v26), .second, .val (.int nr), .val (.long bb), .second, .val (.int ek), .val (.ref sb), .val (.double ev), .second, .val (.double cc), .second, .unset, .unset, .unset, .unset, .unset, .unset, .unset, .unset, .unset, .unset, .unset, .unset] [])) := by
      intro _u
      have c209 : ∀ _u : Unit, G (T5.setTop (mkF m 209 #[.val (.long aa), .second, .val (.long bi), .second, .val (.int dd), .val (.int fr), .val (.double v10), .second, .val (.double v26), .second, .val (.int nr), .val (.long bb), .second, .val (.int ek), .val (.ref sb), .val (.double ev), .second, .val (.double cc), .second, .unset, .unset, .unset, .unset, .unset, .unset, .unset, .unset, .unset, .unset, .unset, .unset] [])) := by
        intro _u
        refine g_lloadN hG X5 hx (hb hby at_209) (pc' := 210) rfl rfl ?_
        show G (T5.setTop (mkF m 210 #[.val (.long aa), .second, .val (.long bi), .second, .val (.int dd), .val (.int fr), .val (.double v10), .second, .val (.double v26), .second, .val (.int nr), .val (.long bb), .second, .val (.int ek), .val (.ref sb), .val (.double ev), .second, .val (.double cc), .second, .unset, .unset, .unset, .unset, .unset, .unset, .unset, .unset, .unset, .unset, .unset, .unset] [(.long aa)]))
        refine g_iconst hG X5 hx (hb hby at_210) (pc' := 211) rfl (v := (1 : Int32)) rfl ?_
        show G (T5.setTop (mkF m 211 #[.val (.long aa), .second, .val (.long bi), .second, .val (.int dd), .val (.int fr), .val (.double v10), .second, .val (.double v26), .second, .val (.int nr), .val (.long bb), .second, .val (.int ek), .val (.ref sb), .val (.double ev), .second, .val (.double cc), .second, .unset, .unset, .unset, .unset, .unset, .unset, .unset, .unset, .unset, .unset, .unset, .unset] [(.int 1), (.long aa)]))
        obtain ⟨v211, q211⟩ : ∃ z : Int64, aa >>> ((1 : Int32) &&& 0x3f).toInt64 = z := ⟨_, rfl⟩
        refine g_lshr hG X5 hx (hb hby at_211) (pc' := 212) rfl q211 ?_
        show G (T5.setTop (mkF m 212 #[.val (.long aa), .second, .val (.long bi), .second, .val (.int dd), .val (.int fr), .val (.double v10), .second, .val (.double v26), .second, .val (.int nr), .val (.long bb), .second, .val (.int ek), .val (.ref sb), .val (.double ev), .second, .val (.double cc), .second, .unset, .unset, .unset, .unset, .unset, .unset, .unset, .unset, .unset, .unset, .unset, .unset] [(.long v211)]))
        refine g_lload hG X5 hx (hb hby at_212) (pc' := 214) rfl rfl ?_
        show G (T5.setTop (mkF m 214 #[.val (.long aa), .second, .val (.long bi), .second, .val (.int dd), .val (.int fr), .val (.double v10), .second, .val (.double v26), .second, .val (.int nr), .val (.long bb), .second, .val (.int ek), .val (.ref sb), .val (.double ev), .second, .val (.double cc), .second, .unset, .unset, .unset, .unset, .unset, .unset, .unset, .unset, .unset, .unset, .unset, .unset] [(.long bb), (.long v211)]))
        refine g_iconst hG X5 hx (hb hby at_214) (pc' := 215) rfl (v := (1 : Int32)) rfl ?_
        show G (T5.setTop (mkF m 215 #[.val (.long aa), .second, .val (.long bi), .second, .val (.int dd), .val (.int fr), .val (.double v10), .second, .val (.double v26), .second, .val (.int nr), .val (.long bb), .second, .val (.int ek), .val (.ref sb), .val (.double ev), .second, .val (.double cc), .second, .unset, .unset, .unset, .unset, .unset, .unset, .unset, .unset, .unset, .unset, .unset, .unset] [(.int 1), (.long bb), (.long v211)]))
        obtain ⟨v215, q215⟩ : ∃ z : Int64, bb >>> ((1 : Int32) &&& 0x3f).toInt64 = z := ⟨_, rfl⟩
        refine g_lshr hG X5 hx (hb hby at_215) (pc' := 216) rfl q215 ?_
        show G (T5.setTop (mkF m 216 #[.val (.long aa), .second, .val (.long bi), .second, .val (.int dd), .val (.int fr), .val (.double v10), .second, .val (.double v26), .second, .val (.int nr), .val (.long bb), .second, .val (.int ek), .val (.ref sb), .val (.double ev), .second, .val (.double cc), .second, .unset, .unset, .unset, .unset, .unset, .unset, .unset, .unset, .unset, .unset, .unset, .unset] [(.long v215), (.long v211)]))
        obtain ⟨v216, q216⟩ : ∃ z : Int64, v211 - v215 = z := ⟨_, rfl⟩
        refine g_lsub hG X5 hx (hb hby at_216) (pc' := 217) rfl q216 ?_
        show G (T5.setTop (mkF m 217 #[.val (.long aa), .second, .val (.long bi), .second, .val (.int dd), .val (.int fr), .val (.double v10), .second, .val (.double v26), .second, .val (.int nr), .val (.long bb), .second, .val (.int ek), .val (.ref sb), .val (.double ev), .second, .val (.double cc), .second, .unset, .unset, .unset, .unset, .unset, .unset, .unset, .unset, .unset, .unset, .unset, .unset] [(.long v216)]))
        have e211 : v211.toInt = aa.toInt / 2 := by rw [← q211]; exact c_lshr aa 1 1 (by decide)
        have e215 : v215.toInt = bb.toInt / 2 := by rw [← q215]; exact c_lshr bb 1 1 (by decide)
        have e216 : v216.toInt = aa.toInt / 2 - bb.toInt / 2 := by
          have a := c_lsub v211 v215
          have b := rng64 v216
          rw [q216] at a
          omega
        refine g_lstore hG X5 hx (hb hby at_217) (pc' := 219) rfl (Ls' := #[.val (.long aa), .second, .val (.long bi), .second, .val (.int dd), .val (.int fr), .val (.double v10), .second, .val (.double v26), .second, .val (.int nr), .val (.long bb), .second, .val (.int ek), .val (.ref sb), .val (.double ev), .second, .val (.double cc), .second, .val (.long v216), .second, .unset, .unset, .unset, .unset, .unset, .unset, .unset, .unset, .unset, .unset]) rfl ?_
        show G (T5.setTop (mkF m 219 #[.val (.long aa), .second, .val (.long bi), .second, .val (.int dd), .val (.int fr), .val (.double v10), .second, .val (.double v26), .second, .val (.int nr), .val (.long bb), .second, .val (.int ek), .val (.ref sb), .val (.double ev), .second, .val (.double cc), .second, .val (.long v216), .second, .unset, .unset, .unset, .unset, .unset, .unset, .unset, .unset, .unset, .unset] []))
        refine g_lloadN hG X5 hx (hb hby at_219) (pc' := 220) rfl rfl ?_
        show G (T5.setTop (mkF m 220 #[.val (.long aa), .second, .val (.long bi), .second, .val (.int dd), .val (.int fr), .val (.double v10), .second, .val (.double v26), .second, .val (.int nr), .val (.long bb), .second, .val (.int ek), .val (.ref sb), .val (.double ev), .second, .val (.double cc), .second, .val (.long v216), .second, .unset, .unset, .unset, .unset, .unset, .unset, .unset, .unset, .unset, .unset] [(.long aa)]))
        refine g_lconst hG X5 hx (hb hby at_220) (pc' := 221) rfl (v := (1 : Int64)) rfl ?_
        show G (T5.setTop (mkF m 221 #[.val (.long aa), .second, .val (.long bi), .second, .val (.int dd), .val (.int fr), .val (.double v10), .second, .val (.double v26), .second, .val (.int nr), .val (.long bb), .second, .val (.int ek), .val (.ref sb), .val (.double ev), .second, .val (.double cc), .second, .val (.long v216), .second, .unset, .unset, .unset, .unset, .unset, .unset, .unset, .unset, .unset, .unset] [(.long 1), (.long aa)]))
        obtain ⟨v221, q221⟩ : ∃ z : Int64, aa &&& (1 : Int64) = z := ⟨_, rfl⟩
        refine g_land hG X5 hx (hb hby at_221) (pc' := 222) rfl q221 ?_
        show G (T5.setTop (mkF m 222 #[.val (.long aa), .second, .val (.long bi), .second, .val (.int dd), .val (.int fr), .val (.double v10), .second, .val (.double v26), .second, .val (.int nr), .val (.long bb), .second, .val (.int ek), .val (.ref sb), .val (.double ev), .second, .val (.double cc), .second, .val (.long v216), .second, .unset, .unset, .unset, .unset, .unset, .unset, .unset, .unset, .unset, .unset] [(.long v221)]))
        obtain ⟨v222, q222⟩ : ∃ z : Int32, v221.toInt32 = z := ⟨_, rfl⟩
        refine g_l2i hG X5 hx (hb hby at_222) (pc' := 223) rfl q222 ?_
        show G (T5.setTop (mkF m 223 #[.val (.long aa), .second, .val (.long bi), .second, .val (.int dd), .val (.int fr), .val (.double v10), .second, .val (.double v26), .second, .val (.int nr), .val (.long bb), .second, .val (.int ek), .val (.ref sb), .val (.double ev), .second, .val (.double cc), .second, .val (.long v216), .second, .unset, .unset, .unset, .unset, .unset, .unset, .unset, .unset, .unset, .unset] [(.int v222)]))
        refine g_lload hG X5 hx (hb hby at_223) (pc' := 225) rfl rfl ?_
        show G (T5.setTop (mkF m 225 #[.val (.long aa), .second, .val (.long bi), .second, .val (.int dd), .val (.int fr), .val (.double v10), .second, .val (.double v26), .second, .val (.int nr), .val (.long bb), .second, .val (.int ek), .val (.ref sb), .val (.double ev), .second, .val (.double cc), .second, .val (.long v216), .second, .unset, .unset, .unset, .unset, .unset, .unset, .unset, .unset, .unset, .unset] [(.long bb), (.int v222)]))
        refine g_lconst hG X5 hx (hb hby at_225) (pc' := 226) rfl (v := (1 : Int64)) rfl ?_
        show G (T5.setTop (mkF m 226 #[.val (.long aa), .second, .val (.long bi), .second, .val (.int dd), .val (.int fr), .val (.double v10), .second, .val (.double v26), .second, .val (.int nr), .val (.long bb), .second, .val (.int ek), .val (.ref sb), .val (.double ev), .second, .val (.double cc), .second, .val (.long v216), .second, .unset, .unset, .unset, .unset, .unset, .unset, .unset, .unset, .unset, .unset] [(.long 1), (.long bb), (.int v222)]))
        obtain ⟨v226, q226⟩ : ∃ z : Int64, bb &&& (1 : Int64) = z := ⟨_, rfl⟩
        refine g_land hG X5 hx (hb hby at_226) (pc' := 227) rfl q226 ?_
        show G (T5.setTop (mkF m 227 #[.val (.long aa), .second, .val (.long bi), .second, .val (.int dd), .val (.int fr), .val (.double v10), .second, .val (.double v26), .second, .val (.int nr), .val (.long bb), .second, .val (.int ek), .val (.ref sb), .val (.double ev), .second, .val (.double cc), .second, .val (.long v216), .second, .unset, .unset, .unset, .unset, .unset, .unset, .unset, .unset, .unset, .unset] [(.long v226), (.int v222)]))
        obtain ⟨v227, q227⟩ : ∃ z : Int32, v226.toInt32 = z := ⟨_, rfl⟩
        refine g_l2i hG X5 hx (hb hby at_227) (pc' := 228) rfl q227 ?_
        show G (T5.setTop (mkF m 228 #[.val (.long aa), .second, .val (.long bi), .second, .val (.int dd), .val (.int fr), .val (.double v10), .second, .val (.double v26), .second, .val (.int nr), .val (.long bb), .second, .val (.int ek), .val (.ref sb), .val (.double ev), .second, .val (.double cc), .second, .val (.long v216), .second, .unset, .unset, .unset, .unset, .unset, .unset, .unset, .unset, .unset, .unset] [(.int v227), (.int v222)]))
        obtain ⟨v228, q228⟩ : ∃ z : Int32, v222 - v227 = z := ⟨_, rfl⟩
        refine g_isub hG X5 hx (hb hby at_228) (pc' := 229) rfl q228 ?_
        show G (T5.setTop (mkF m 229 #[.val (.long aa), .second, .val (.long bi), .second, .val (.int dd), .val (.int fr), .val (.double v10), .second, .val (.double v26), .second, .val (.int nr), .val (.long bb), .second, .val (.int ek), .val (.ref sb), .val (.double ev), .second, .val (.double cc), .second, .val (.long v216), .second, .unset, .unset, .unset, .unset, .unset, .unset, .unset, .unset, .unset, .unset] [(.int v228)]))
        have e221 : v221.toInt = aa.toInt % 2 := by rw [← q221]; exact c_maskL aa 1 1 (by decide) (by decide)
        have e226 : v226.toInt = bb.toInt % 2 := by rw [← q226]; exact c_maskL bb 1 1 (by decide) (by decide)
        have e222 : v222.toInt = aa.toInt % 2 := by
          have a := c_l2i v221
          have b := rng32 v222
          rw [q222] at a
          omega
        have e227 : v227.toInt = bb.toInt % 2 := by
          have a := c_l2i v226
          have b := rng32 v227
          rw [q227] at a
          omega
        have e228 : v228.toInt = aa.toInt % 2 - bb.toInt % 2 := by
          have a := c_isub v222 v227
          have b := rng32 v228
          rw [q228] at a
          omega
        obtain ⟨v229, q229⟩ : ∃ z : UInt64, FP.i2d v228 = z := ⟨_, rfl⟩
        refine g_i2d hG X5 hx (hb hby at_229) (pc' := 230) rfl q229 ?_
        show G (T5.setTop (mkF m 230 #[.val (.long aa), .second, .val (.long bi), .second, .val (.int dd), .val (.int fr), .val (.double v10), .second, .val (.double v26), .second, .val (.int nr), .val (.long bb), .second, .val (.int ek), .val (.ref sb), .val (.double ev), .second, .val (.double cc), .second, .val (.long v216), .second, .unset, .unset, .unset, .unset, .unset, .unset, .unset, .unset, .unset, .unset] [(.double v229)]))
        refine g_dload hG X5 hx (hb hby at_230) (pc' := 232) rfl rfl ?_
        show G (T5.setTop (mkF m 232 #[.val (.long aa), .second, .val (.long bi), .second, .val (.int dd), .val (.int fr), .val (.double v10), .second, .val (.double v26), .second, .val (.int nr), .val (.long bb), .second, .val (.int ek), .val (.ref sb), .val (.double ev), .second, .val (.double cc), .second, .val (.long v216), .second, .unset, .unset, .unset, .unset, .unset, .unset, .unset, .unset, .unset, .unset] [(.double cc), (.double v229)]))
        obtain ⟨v232, q232⟩ : ∃ z : UInt64, FP.dadd v229 cc = z := ⟨_, rfl⟩
        have Dcc2 := Dcc
        rw [← hC'] at Dcc2
        have Dx229 : OwnFl.DV v229 (v228.toInt : Rat) := by rw [← q229]; exact OwnFl.i2d_DV v228
        obtain ⟨D232, x1, x2⟩ := own_e Dx229 Dcc2 (by omega) (by omega) (by omega) (by omega)
        rw [q232, hC'] at D232
        rw [hC'] at x1 x2
        refine g_dadd hG X5 hx (hb hby at_232) (pc' := 233) rfl (by rw [q232]; exact D232.noNaN) q232 ?_
        show G (T5.setTop (mkF m 233 #[.val (.long aa), .second, .val (.long bi), .second, .val (.int dd), .val (.int fr), .val (.double v10), .second, .val (.double v26), .second, .val (.int nr), .val (.long bb), .second, .val (.int ek), .val (.ref sb), .val (.double ev), .second, .val (.double cc), .second, .val (.long v216), .second, .unset, .unset, .unset, .unset, .unset, .unset, .unset, .unset, .unset, .unset] [(.double v232)]))
        refine g_dstore hG X5 hx (hb hby at_233) (pc' := 235) rfl (Ls' := #[.val (.long aa), .second, .val (.long bi), .second, .val (.int dd), .val (.int fr), .val (.double v10), .second, .val (.double v26), .second, .val (.int nr), .val (.long bb), .second, .val (.int ek), .val (.ref sb), .val (.double ev), .second, .val (.double cc), .second, .val (.long v216), .second, .val (.double v232), .second, .unset, .unset, .unset, .unset, .unset, .unset, .unset, .unset]) rfl ?_
        show G (T5.setTop (mkF m 235 #[.val (.long aa), .second, .val (.long bi), .second, .val (.int dd), .val (.int fr), .val (.double v10), .second, .val (.double v26), .second, .val (.int nr), .val (.long bb), .second, .val (.int ek), .val (.ref sb), .val (.double ev), .second, .val (.double cc), .second, .val (.long v216), .second, .val (.double v232), .second, .unset, .unset, .unset, .unset, .unset, .unset, .unset, .unset] []))
        refine g_ldcDouble hG X5 hx hZ hown (wd hw 37 rfl) (hb hby at_235) (pc' := 238) rfl ?_
        show G (T5.setTop (mkF m 238 #[.val (.long aa), .second, .val (.long bi), .second, .val (.int dd), .val (.int fr), .val (.double v10), .second, .val (.double v26), .second, .val (.int nr), .val (.long bb), .second, .val (.int ek), .val (.ref sb), .val (.double ev), .second, .val (.double cc), .second, .val (.long v216), .second, .val (.double v232), .second, .unset, .unset, .unset, .unset, .unset, .unset, .unset, .unset] [(.double 4611686018427387904)]))
        refine g_lload hG X5 hx (hb hby at_238) (pc' := 240) rfl rfl ?_
        show G (T5.setTop (mkF m 240 #[.val (.long aa), .second, .val (.long bi), .second, .val (.int dd), .val (.int fr), .val (.double v10), .second, .val (.double v26), .second, .val (.int nr), .val (.long bb), .second, .val (.int ek), .val (.ref sb), .val (.double ev), .second, .val (.double cc), .second, .val (.long v216), .second, .val (.double v232), .second, .unset, .unset, .unset, .unset, .unset, .unset, .unset, .unset] [(.long v216), (.double 4611686018427387904)]))
        obtain ⟨v240, q240⟩ : ∃ z : UInt64, FP.l2d v216 = z := ⟨_, rfl⟩
        refine g_l2d hG X5 hx (hb hby at_240) (pc' := 241) rfl q240 ?_
        show G (T5.setTop (mkF m 241 #[.val (.long aa), .second, .val (.long bi), .second, .val (.int dd), .val (.int fr), .val (.double v10), .second, .val (.double v26), .second, .val (.int nr), .val (.long bb), .second, .val (.int ek), .val (.ref sb), .val (.double ev), .second, .val (.double cc), .second, .val (.long v216), .second, .val (.double v232), .second, .unset, .unset, .unset, .unset, .unset, .unset, .unset, .unset] [(.double v240), (.double 4611686018427387904)]))
        have D240 := OwnFl.l2d_RR v216
        rw [q240] at D240
        have hH : 2 * (v216.toInt : Rat) + ((v228.toInt : Rat) + C) = (((aa.toInt - bb.toInt : Int)) : Rat) + C := by
          have : 2 * v216.toInt + v228.toInt = aa.toInt - bb.toInt := by omega
          have h2 := congrArg (fun z : Int => (z : Rat)) this
          simp only [Rat.intCast_add, Rat.intCast_mul] at h2
          rw [show ((2 : Int) : Rat) = 2 from rfl] at h2
          grind
        obtain ⟨hv2, hh2⟩ : ∃ z : Rat, OwnFl.RR (2 * OwnFl.RR (v216.toInt : Rat)) = z := ⟨_, rfl⟩
        obtain ⟨rf, hrf⟩ : ∃ z : Rat, OwnFl.RR (hv2 + ((v228.toInt : Rat) + C)) = z := ⟨_, rfl⟩
        obtain ⟨ab, hab⟩ : ∃ ab : Rat, (ab = rf ∧ 0 ≤ rf) ∨ (ab = -rf ∧ rf ≤ 0) := by
          by_cases q : 0 ≤ rf
          · exact ⟨_, Or.inl ⟨rfl, q⟩⟩
          · exact ⟨_, Or.inr ⟨rfl, by grind⟩⟩
        obtain ⟨t1, t2, t3, t4, t5, t6, t7⟩ := own_tol hSp (by omega) (by omega) c1 c2 x1 x2 hH hh2.symm hrf.symm hab
        obtain ⟨v241, q241⟩ : ∃ z : UInt64, FP.dmul (4611686018427387904 : UInt64) v240 = z := ⟨_, rfl⟩
        have D241 := OwnFl.dmul_DV own_2 D240 (by grind) (by grind)
        rw [q241, hh2] at D241
        refine g_dmul hG X5 hx (hb hby at_241) (pc' := 242) rfl (by rw [q241]; exact D241.noNaN) q241 ?_
        show G (T5.setTop (mkF m 242 #[.val (.long aa), .second, .val (.long bi), .second, .val (.int dd), .val (.int fr), .val (.double v10), .second, .val (.double v26), .second, .val (.int nr), .val (.long bb), .second, .val (.int ek), .val (.ref sb), .val (.double ev), .second, .val (.double cc), .second, .val (.long v216), .second, .val (.double v232), .second, .unset, .unset, .unset, .unset, .unset, .unset, .unset, .unset] [(.double v241)]))
        refine g_dload hG X5 hx (hb hby at_242) (pc' := 244) rfl rfl ?_
        show G (T5.setTop (mkF m 244 #[.val (.long aa), .second, .val (.long bi), .second, .val (.int dd), .val (.int fr), .val (.double v10), .second, .val (.double v26), .second, .val (.int nr), .val (.long bb), .second, .val (.int ek), .val (.ref sb), .val (.double ev), .second, .val (.double cc), .second, .val (.long v216), .second, .val (.double v232), .second, .unset, .unset, .unset, .unset, .unset, .unset, .unset, .unset] [(.double v232), (.double v241)]))
        obtain ⟨v244, q244⟩ : ∃ z : UInt64, FP.dadd v241 v232 = z := ⟨_, rfl⟩
        have D244 := OwnFl.dadd_DV D241 D232 (by grind) (by grind)
        rw [q244, hrf] at D244
        refine g_dadd hG X5 hx (hb hby at_244) (pc' := 245) rfl (by rw [q244]; exact D244.noNaN) q244 ?_
        show G (T5.setTop (mkF m 245 #[.val (.long aa), .second, .val (.long bi), .second, .val (.int dd), .val (.int fr), .val (.double v10), .second, .val (.double v26), .second, .val (.int nr), .val (.long bb), .second, .val (.int ek), .val (.ref sb), .val (.double ev), .second, .val (.double cc), .second, .val (.long v216), .second, .val (.double v232), .second, .unset, .unset, .unset, .unset, .unset, .unset, .unset, .unset] [(.double v244)]))
        refine g_dstore hG X5 hx (hb hby at_245) (pc' := 247) rfl (Ls' := #[.val (.long aa), .second, .val (.long bi), .second, .val (.int dd), .val (.int fr), .val (.double v10), .second, .val (.double v26), .second, .val (.int nr), .val (.long bb), .second, .val (.int ek), .val (.ref sb), .val (.double ev), .second, .val (.double cc), .second, .val (.long v216), .second, .val (.double v232), .second, .val (.double v244), .second, .unset, .unset, .unset, .unset, .unset, .unset]) rfl ?_
        show G (T5.setTop (mkF m 247 #[.val (.long aa), .second, .val (.long bi), .second, .val (.int dd), .val (.int fr), .val (.double v10), .second, .val (.double v26), .second, .val (.int nr), .val (.long bb), .second, .val (.int ek), .val (.ref sb), .val (.double ev), .second, .val (.double cc), .second, .val (.long v216), .second, .val (.double v232), .second, .val (.double v244), .second, .unset, .unset, .unset, .unset, .unset, .unset] []))
        refine g_dload hG X5 hx (hb hby at_247) (pc' := 249) rfl rfl ?_
        show G (T5.setTop (mkF m 249 #[.val (.long aa), .second, .val (.long bi), .second, .val (.int dd), .val (.int fr), .val (.double v10), .second, .val (.double v26), .second, .val (.int nr), .val (.long bb), .second, .val (.int ek), .val (.ref sb), .val (.double ev), .second, .val (.double cc), .second, .val (.long v216), .second, .val (.double v232), .second, .val (.double v244), .second, .unset, .unset, .unset, .unset, .unset, .unset] [(.double v244)]))
        refine g_dconst0 hG X5 hx (hb hby at_249) (pc' := 250) rfl (v := (0 : UInt64)) rfl ?_
        show G (T5.setTop (mkF m 250 #[.val (.long aa), .second, .val (.long bi), .second, .val (.int dd), .val (.int fr), .val (.double v10), .second, .val (.double v26), .second, .val (.int nr), .val (.long bb), .second, .val (.int ek), .val (.ref sb), .val (.double ev), .second, .val (.double cc), .second, .val (.long v216), .second, .val (.double v232), .second, .val (.double v244), .second, .unset, .unset, .unset, .unset, .unset, .unset] [(.double 0), (.double v244)]))
        by_cases hs : rf < 0
        · have _hh := hs
          have ea : ab = -rf := by grind
          obtain ⟨v250, q250⟩ : ∃ z : Int32, cmpValue (FP.dcmp v244 (0 : UInt64)) .g = z := ⟨_, rfl⟩
          refine g_dcmp hG X5 hx (hb hby at_250) (pc' := 251) rfl q250 ?_
          show G (T5.setTop (mkF m 251 #[.val (.long aa), .second, .val (.long bi), .second, .val (.int dd), .val (.int fr), .val (.double v10), .second, .val (.double v26), .second, .val (.int nr), .val (.long bb), .second, .val (.int ek), .val (.ref sb), .val (.double ev), .second, .val (.double cc), .second, .val (.long v216), .second, .val (.double v232), .second, .val (.double v244), .second, .unset, .unset, .unset, .unset, .unset, .unset] [(.int v250)]))
          refine g_ifNo hG X5 hx (hb hby at_251) (pc' := 254) (by rw [← q250, OwnFl.dcmp_lt D244 own_z hs]; rfl) rfl ?_
          show G (T5.setTop (mkF m 254 #[.val (.long aa), .second, .val (.long bi), .second, .val (.int dd), .val (.int fr), .val (.double v10), .second, .val (.double v26), .second, .val (.int nr), .val (.long bb), .second, .val (.int ek), .val (.ref sb), .val (.double ev), .second, .val (.double cc), .second, .val (.long v216), .second, .val (.double v232), .second, .val (.double v244), .second, .unset, .unset, .unset, .unset, .unset, .unset] []))
          refine g_dload hG X5 hx (hb hby at_254) (pc' := 256) rfl rfl ?_
          show G (T5.setTop (mkF m 256 #[.val (.long aa), .second, .val (.long bi), .second, .val (.int dd), .val (.int fr), .val (.double v10), .second, .val (.double v26), .second, .val (.int nr), .val (.long bb), .second, .val (.int ek), .val (.ref sb), .val (.double ev), .second, .val (.double cc), .second, .val (.long v216), .second, .val (.double v232), .second, .val (.double v244), .second, .unset, .unset, .unset, .unset, .unset, .unset] [(.double v244)]))
          obtain ⟨v256, q256⟩ : ∃ z : UInt64, FP.dneg v244 = z := ⟨_, rfl⟩
          refine g_dneg hG X5 hx (hb hby at_256) (pc' := 257) rfl q256 ?_
          show G (T5.setTop (mkF m 257 #[.val (.long aa), .second, .val (.long bi), .second, .val (.int dd), .val (.int fr), .val (.double v10), .second, .val (.double v26), .second, .val (.int nr), .val (.long bb), .second, .val (.int ek), .val (.ref sb), .val (.double ev), .second, .val (.double cc), .second, .val (.long v216), .second, .val (.double v232), .second, .val (.double v244), .second, .unset, .unset, .unset, .unset, .unset, .unset] [(.double v256)]))
          have Dab : OwnFl.DV v256 ab := by rw [← q256, ea]; exact OwnFl.dneg_DV D244
          refine g_goto hG X5 hx (hb hby at_257) (pc' := 262) (by decide) (by decide) ?_
          show G (T5.setTop (mkF m 262 #[.val (.long aa), .second, .val (.long bi), .second, .val (.int dd), .val (.int fr), .val (.double v10), .second, .val (.double v26), .second, .val (.int nr), .val (.long bb), .second, .val (.int ek), .val (.ref sb), .val (.double ev), .second, .val (.double cc), .second, .val (.long v216), .second, .val (.double v232), .second, .val (.double v244), .second, .unset, .unset, .unset, .unset, .unset, .unset] [(.double v256)]))
          refine g_dstore hG X5 hx (hb hby at_262) (pc' := 264) rfl (Ls' := #[.val (.long aa), .second, .val (.long bi), .second, .val (.int dd), .val (.int fr), .val (.double v10), .second, .val (.double v26), .second, .val (.int nr), .val (.long bb), .second, .val (.int ek), .val (.ref sb), .val (.double ev), .second, .val (.double cc), .second, .val (.long v216), .second, .val (.double v232), .second, .val (.double v244), .second, .val (.double v256), .second, .unset, .unset, .unset, .unset]) rfl ?_
          show G (T5.setTop (mkF m 264 #[.val (.long aa), .second, .val (.long bi), .second, .val (.int dd), .val (.int fr), .val (.double v10), .second, .val (.double v26), .second, .val (.int nr), .val (.long bb), .second, .val (.int ek), .val (.ref sb), .val (.double ev), .second, .val (.double cc), .second, .val (.long v216), .second, .val (.double v232), .second, .val (.double v244), .second, .val (.double v256), .second, .unset, .unset, .unset, .unset] []))
          refine g_dload hG X5 hx (hb hby at_264) (pc' := 266) rfl rfl ?_
          show G (T5.setTop (mkF m 266 #[.val (.long aa), .second, .val (.long bi), .second, .val (.int dd), .val (.int fr), .val (.double v10), .second, .val (.double v26), .second, .val (.int nr), .val (.long bb), .second, .val (.int ek), .val (.ref sb), .val (.double ev), .second, .val (.double cc), .second, .val (.long v216), .second, .val (.double v232), .second, .val (.double v244), .second, .val (.double v256), .second, .unset, .unset, .unset, .unset] [(.double v256)]))
          refine g_ldcDouble hG X5 hx hZ hown (wd hw 38 rfl) (hb hby at_266) (pc' := 269) rfl ?_
          show G (T5.setTop (mkF m 269 #[.val (.long aa), .second, .val (.long bi), .second, .val (.int dd), .val (.int fr), .val (.double v10), .second, .val (.double v26), .second, .val (.int nr), .val (.long bb), .second, .val (.int ek), .val (.ref sb), .val (.double ev), .second, .val (.double cc), .second, .val (.long v216), .second, .val (.double v232), .second, .val (.double v244), .second, .val (.double v256), .second, .unset, .unset, .unset, .unset] [(.double 4395513236313604096), (.double v256)]))
          obtain ⟨v269, q269⟩ : ∃ z : UInt64, FP.dmul v256 (4395513236313604096 : UInt64) = z := ⟨_, rfl⟩
          have D269 := OwnFl.dmul_DV Dab own_p47 (by grind) (by grind)
          rw [q269] at D269
          refine g_dmul hG X5 hx (hb hby at_269) (pc' := 270) rfl (by rw [q269]; exact D269.noNaN) q269 ?_
          show G (T5.setTop (mkF m 270 #[.val (.long aa), .second, .val (.long bi), .second, .val (.int dd), .val (.int fr), .val (.double v10), .second, .val (.double v26), .second, .val (.int nr), .val (.long bb), .second, .val (.int ek), .val (.ref sb), .val (.double ev), .second, .val (.double cc), .second, .val (.long v216), .second, .val (.double v232), .second, .val (.double v244), .second, .val (.double v256), .second, .unset, .unset, .unset, .unset] [(.double v269)]))
          refine g_ldcDouble hG X5 hx hZ hown (wd hw 39 rfl) (hb hby at_270) (pc' := 273) rfl ?_
          show G (T5.setTop (mkF m 273 #[.val (.long aa), .second, .val (.long bi), .second, .val (.int dd), .val (.int fr), .val (.double v10), .second, .val (.double v26), .second, .val (.int nr), .val (.long bb), .second, .val (.int ek), .val (.ref sb), .val (.double ev), .second, .val (.double cc), .second, .val (.long v216), .second, .val (.double v232), .second, .val (.double v244), .second, .val (.double v256), .second, .unset, .unset, .unset, .unset] [(.double 4616189618054758400), (.double v269)]))
          obtain ⟨v273, q273⟩ : ∃ z : UInt64, FP.dadd v269 (4616189618054758400 : UInt64) = z := ⟨_, rfl⟩
          have D273 := OwnFl.dadd_DV D269 own_4 (by grind) (by grind)
          rw [q273] at D273
          refine g_dadd hG X5 hx (hb hby at_273) (pc' := 274) rfl (by rw [q273]; exact D273.noNaN) q273 ?_
          show G (T5.setTop (mkF m 274 #[.val (.long aa), .second, .val (.long bi), .second, .val (.int dd), .val (.int fr), .val (.double v10), .second, .val (.double v26), .second, .val (.int nr), .val (.long bb), .second, .val (.int ek), .val (.ref sb), .val (.double ev), .second, .val (.double cc), .second, .val (.long v216), .second, .val (.double v232), .second, .val (.double v244), .second, .val (.double v256), .second, .unset, .unset, .unset, .unset] [(.double v273)]))
          refine g_dstore hG X5 hx (hb hby at_274) (pc' := 276) rfl (Ls' := #[.val (.long aa), .second, .val (.long bi), .second, .val (.int dd), .val (.int fr), .val (.double v10), .second, .val (.double v26), .second, .val (.int nr), .val (.long bb), .second, .val (.int ek), .val (.ref sb), .val (.double ev), .second, .val (.double cc), .second, .val (.long v216), .second, .val (.double v232), .second, .val (.double v244), .second, .val (.double v256), .second, .val (.double v273), .second, .unset, .unset]) rfl ?_
          show G (T5.setTop (mkF m 276 #[.val (.long aa), .second, .val (.long bi), .second, .val (.int dd), .val (.int fr), .val (.double v10), .second, .val (.double v26), .second, .val (.int nr), .val (.long bb), .second, .val (.int ek), .val (.ref sb), .val (.double ev), .second, .val (.double cc), .second, .val (.long v216), .second, .val (.double v232), .second, .val (.double v244), .second, .val (.double v256), .second, .val (.double v273), .second, .unset, .unset] []))
          refine g_dload hG X5 hx (hb hby at_276) (pc' := 278) rfl rfl ?_
          show G (T5.setTop (mkF m 278 #[.val (.long aa), .second, .val (.long bi), .second, .val (.int dd), .val (.int fr), .val (.double v10), .second, .val (.double v26), .second, .val (.int nr), .val (.long bb), .second, .val (.int ek), .val (.ref sb), .val (.double ev), .second, .val (.double cc), .second, .val (.long v216), .second, .val (.double v232), .second, .val (.double v244), .second, .val (.double v256), .second, .val (.double v273), .second, .unset, .unset] [(.double ev)]))
          refine g_dload hG X5 hx (hb hby at_278) (pc' := 280) rfl rfl ?_
          show G (T5.setTop (mkF m 280 #[.val (.long aa), .second, .val (.long bi), .second, .val (.int dd), .val (.int fr), .val (.double v10), .second, .val (.double v26), .second, .val (.int nr), .val (.long bb), .second, .val (.int ek), .val (.ref sb), .val (.double ev), .second, .val (.double cc), .second, .val (.long v216), .second, .val (.double v232), .second, .val (.double v244), .second, .val (.double v256), .second, .val (.double v273), .second, .unset, .unset] [(.double v244), (.double ev)]))
          obtain ⟨v280, q280⟩ : ∃ z : UInt64, FP.dsub ev v244 = z := ⟨_, rfl⟩
          have D280 := OwnFl.dsub_DV Dev D244 (by grind) (by grind)
          rw [q280] at D280
          refine g_dsub hG X5 hx (hb hby at_280) (pc' := 281) rfl (by rw [q280]; exact D280.noNaN) q280 ?_
          show G (T5.setTop (mkF m 281 #[.val (.long aa), .second, .val (.long bi), .second, .val (.int dd), .val (.int fr), .val (.double v10), .second, .val (.double v26), .second, .val (.int nr), .val (.long bb), .second, .val (.int ek), .val (.ref sb), .val (.double ev), .second, .val (.double cc), .second, .val (.long v216), .second, .val (.double v232), .second, .val (.double v244), .second, .val (.double v256), .second, .val (.double v273), .second, .unset, .unset] [(.double v280)]))
          refine g_dstore hG X5 hx (hb hby at_281) (pc' := 283) rfl (Ls' := #[.val (.long aa), .second, .val (.long bi), .second, .val (.int dd), .val (.int fr), .val (.double v10), .second, .val (.double v26), .second, .val (.int nr), .val (.long bb), .second, .val (.int ek), .val (.ref sb), .val (.double ev), .second, .val (.double cc), .second, .val (.long v216), .second, .val (.double v232), .second, .val (.double v244), .second, .val (.double v256), .second, .val (.double v273), .second, .val (.double v280), .second]) rfl ?_
          show G (T5.setTop (mkF m 283 #[.val (.long aa), .second, .val (.long bi), .second, .val (.int dd), .val (.int fr), .val (.double v10), .second, .val (.double v26), .second, .val (.int nr), .val (.long bb), .second, .val (.int ek), .val (.ref sb), .val (.double ev), .second, .val (.double cc), .second, .val (.long v216), .second, .val (.double v232), .second, .val (.double v244), .second, .val (.double v256), .second, .val (.double v273), .second, .val (.double v280), .second] []))
          refine g_dload hG X5 hx (hb hby at_283) (pc' := 285) rfl rfl ?_
          show G (T5.setTop (mkF m 285 #[.val (.long aa), .second, .val (.long bi), .second, .val (.int dd), .val (.int fr), .val (.double v10), .second, .val (.double v26), .second, .val (.int nr), .val (.long bb), .second, .val (.int ek), .val (.ref sb), .val (.double ev), .second, .val (.double cc), .second, .val (.long v216), .second, .val (.double v232), .second, .val (.double v244), .second, .val (.double v256), .second, .val (.double v273), .second, .val (.double v280), .second] [(.double v280)]))
          refine g_dload hG X5 hx (hb hby at_285) (pc' := 287) rfl rfl ?_
          show G (T5.setTop (mkF m 287 #[.val (.long aa), .second, .val (.long bi), .second, .val (.int dd), .val (.int fr), .val (.double v10), .second, .val (.double v26), .second, .val (.int nr), .val (.long bb), .second, .val (.int ek), .val (.ref sb), .val (.double ev), .second, .val (.double cc), .second, .val (.long v216), .second, .val (.double v232), .second, .val (.double v244), .second, .val (.double v256), .second, .val (.double v273), .second, .val (.double v280), .second] [(.double v273), (.double v280)]))
          obtain ⟨v287, q287⟩ : ∃ z : Int32, cmpValue (FP.dcmp v280 v273) .g = z := ⟨_, rfl⟩
          refine g_dcmp hG X5 hx (hb hby at_287) (pc' := 288) rfl q287 ?_
          show G (T5.setTop (mkF m 288 #[.val (.long aa), .second, .val (.long bi), .second, .val (.int dd), .val (.int fr), .val (.double v10), .second, .val (.double v26), .second, .val (.int nr), .val (.long bb), .second, .val (.int ek), .val (.ref sb), .val (.double ev), .second, .val (.double cc), .second, .val (.long v216), .second, .val (.double v232), .second, .val (.double v244), .second, .val (.double v256), .second, .val (.double v273), .second, .val (.double v280), .second] [(.int v287)]))
          refine g_ifNo hG X5 hx (hb hby at_288) (pc' := 291) (by rcases OwnFl.dcmp_le D280 D273 t1 with g | g <;> rw [← q287, g] <;> rfl) rfl ?_
          show G (T5.setTop (mkF m 291 #[.val (.long aa), .second, .val (.long bi), .second, .val (.int dd), .val (.int fr), .val (.double v10), .second, .val (.double v26), .second, .val (.int nr), .val (.long bb), .second, .val (.int ek), .val (.ref sb), .val (.double ev), .second, .val (.double cc), .second, .val (.long v216), .second, .val (.double v232), .second, .val (.double v244), .second, .val (.double v256), .second, .val (.double v273), .second, .val (.double v280), .second] []))
          refine g_dload hG X5 hx (hb hby at_291) (pc' := 293) rfl rfl ?_
          show G (T5.setTop (mkF m 293 #[.val (.long aa), .second, .val (.long bi), .second, .val (.int dd), .val (.int fr), .val (.double v10), .second, .val (.double v26), .second, .val (.int nr), .val (.long bb), .second, .val (.int ek), .val (.ref sb), .val (.double ev), .second, .val (.double cc), .second, .val (.long v216), .second, .val (.double v232), .second, .val (.double v244), .second, .val (.double v256), .second, .val (.double v273), .second, .val (.double v280), .second] [(.double v273)]))
          obtain ⟨v293, q293⟩ : ∃ z : UInt64, FP.dneg v273 = z := ⟨_, rfl⟩
          refine g_dneg hG X5 hx (hb hby at_293) (pc' := 294) rfl q293 ?_
          show G (T5.setTop (mkF m 294 #[.val (.long aa), .second, .val (.long bi), .second, .val (.int dd), .val (.int fr), .val (.double v10), .second, .val (.double v26), .second, .val (.int nr), .val (.long bb), .second, .val (.int ek), .val (.ref sb), .val (.double ev), .second, .val (.double cc), .second, .val (.long v216), .second, .val (.double v232), .second, .val (.double v244), .second, .val (.double v256), .second, .val (.double v273), .second, .val (.double v280), .second] [(.double v293)]))
          refine g_dload hG X5 hx (hb hby at_294) (pc' := 296) rfl rfl ?_
          show G (T5.setTop (mkF m 296 #[.val (.long aa), .second, .val (.long bi), .second, .val (.int dd), .val (.int fr), .val (.double v10), .second, .val (.double v26), .second, .val (.int nr), .val (.long bb), .second, .val (.int ek), .val (.ref sb), .val (.double ev), .second, .val (.double cc), .second, .val (.long v216), .second, .val (.double v232), .second, .val (.double v244), .second, .val (.double v256), .second, .val (.double v273), .second, .val (.double v280), .second] [(.double v280), (.double v293)]))
          obtain ⟨v296, q296⟩ : ∃ z : Int32, cmpValue (FP.dcmp v293 v280) .g = z := ⟨_, rfl⟩
          refine g_dcmp hG X5 hx (hb hby at_296) (pc' := 297) rfl q296 ?_
          show G (T5.setTop (mkF m 297 #[.val (.long aa), .second, .val (.long bi), .second, .val (.int dd), .val (.int fr), .val (.double v10), .second, .val (.double v26), .second, .val (.int nr), .val (.long bb), .second, .val (.int ek), .val (.ref sb), .val (.double ev), .second, .val (.double cc), .second, .val (.long v216), .second, .val (.double v232), .second, .val (.double v244), .second, .val (.double v256), .second, .val (.double v273), .second, .val (.double v280), .second] [(.int v296)]))
          refine g_ifNo hG X5 hx (hb hby at_297) (pc' := 300) (by rcases OwnFl.dcmp_le (q293 ▸ OwnFl.dneg_DV D273) D280 t2 with g | g <;> rw [← q296, g] <;> rfl) rfl ?_
          show G (T5.setTop (mkF m 300 #[.val (.long aa), .second, .val (.long bi), .second, .val (.int dd), .val (.int fr), .val (.double v10), .second, .val (.double v26), .second, .val (.int nr), .val (.long bb), .second, .val (.int ek), .val (.ref sb), .val (.double ev), .second, .val (.double cc), .second, .val (.long v216), .second, .val (.double v232), .second, .val (.double v244), .second, .val (.double v256), .second, .val (.double v273), .second, .val (.double v280), .second] []))
          refine g_iconst hG X5 hx (hb hby at_300) (pc' := 301) rfl (v := (1 : Int32)) rfl ?_
          show G (T5.setTop (mkF m 301 #[.val (.long aa), .second, .val (.long bi), .second, .val (.int dd), .val (.int fr), .val (.double v10), .second, .val (.double v26), .second, .val (.int nr), .val (.long bb), .second, .val (.int ek), .val (.ref sb), .val (.double ev), .second, .val (.double cc), .second, .val (.long v216), .second, .val (.double v232), .second, .val (.double v244), .second, .val (.double v256), .second, .val (.double v273), .second, .val (.double v280), .second] [(.int 1)]))
          refine g_goto hG X5 hx (hb hby at_301) (pc' := 305) (by decide) (by decide) ?_
          show G (T5.setTop (mkF m 305 #[.val (.long aa), .second, .val (.long bi), .second, .val (.int dd), .val (.int fr), .val (.double v10), .second, .val (.double v26), .second, .val (.int nr), .val (.long bb), .second, .val (.int ek), .val (.ref sb), .val (.double ev), .second, .val (.double cc), .second, .val (.long v216), .second, .val (.double v232), .second, .val (.double v244), .second, .val (.double v256), .second, .val (.double v273), .second, .val (.double v280), .second] [(.int 1)]))
          exact e_retZ hGe X5 hx hrt hlk (hb hby at_305) (Or.inr rfl) eh5 (by decide) (by decide) (⟨rfl, NF5⟩)
        · have _hh := hs
          have ea : ab = rf := by grind
          obtain ⟨v250, q250⟩ : ∃ z : Int32, cmpValue (FP.dcmp v244 (0 : UInt64)) .g = z := ⟨_, rfl⟩
          refine g_dcmp hG X5 hx (hb hby at_250) (pc' := 251) rfl q250 ?_
          show G (T5.setTop (mkF m 251 #[.val (.long aa), .second, .val (.long bi), .second, .val (.int dd), .val (.int fr), .val (.double v10), .second, .val (.double v26), .second, .val (.int nr), .val (.long bb), .second, .val (.int ek), .val (.ref sb), .val (.double ev), .second, .val (.double cc), .second, .val (.long v216), .second, .val (.double v232), .second, .val (.double v244), .second, .unset, .unset, .unset, .unset, .unset, .unset] [(.int v250)]))
          refine g_ifYes hG X5 hx (hb hby at_251) (pc' := 260) (by rcases OwnFl.dcmp_ge D244 own_z (Rat.not_lt.mp hs) with g | g <;> rw [← q250, g] <;> rfl) (by decide) (by decide) ?_
          show G (T5.setTop (mkF m 260 #[.val (.long aa), .second, .val (.long bi), .second, .val (.int dd), .val (.int fr), .val (.double v10), .second, .val (.double v26), .second, .val (.int nr), .val (.long bb), .second, .val (.int ek), .val (.ref sb), .val (.double ev), .second, .val (.double cc), .second, .val (.long v216), .second, .val (.double v232), .second, .val (.double v244), .second, .unset, .unset, .unset, .unset, .unset, .unset] []))
          have Dab : OwnFl.DV v244 ab := by rw [ea]; exact D244
          refine g_dload hG X5 hx (hb hby at_260) (pc' := 262) rfl rfl ?_
          show G (T5.setTop (mkF m 262 #[.val (.long aa), .second, .val (.long bi), .second, .val (.int dd), .val (.int fr), .val (.double v10), .second, .val (.double v26), .second, .val (.int nr), .val (.long bb), .second, .val (.int ek), .val (.ref sb), .val (.double ev), .second, .val (.double cc), .second, .val (.long v216), .second, .val (.double v232), .second, .val (.double v244), .second, .unset, .unset, .unset, .unset, .unset, .unset] [(.double v244)]))
          refine g_dstore hG X5 hx (hb hby at_262) (pc' := 264) rfl (Ls' := #[.val (.long aa), .second, .val (.long bi), .second, .val (.int dd), .val (.int fr), .val (.double v10), .second, .val (.double v26), .second, .val (.int nr), .val (.long bb), .second, .val (.int ek), .val (.ref sb), .val (.double ev), .second, .val (.double cc), .second, .val (.long v216), .second, .val (.double v232), .second, .val (.double v244), .second, .val (.double v244), .second, .unset, .unset, .unset, .unset]) rfl ?_
          show G (T5.setTop (mkF m 264 #[.val (.long aa), .second, .val (.long bi), .second, .val (.int dd), .val (.int fr), .val (.double v10), .second, .val (.double v26), .second, .val (.int nr), .val (.long bb), .second, .val (.int ek), .val (.ref sb), .val (.double ev), .second, .val (.double cc), .second, .val (.long v216), .second, .val (.double v232), .second, .val (.double v244), .second, .val (.double v244), .second, .unset, .unset, .unset, .unset] []))
          refine g_dload hG X5 hx (hb hby at_264) (pc' := 266) rfl rfl ?_
          show G (T5.setTop (mkF m 266 #[.val (.long aa), .second, .val (.long bi), .second, .val (.int dd), .val (.int fr), .val (.double v10), .second, .val (.double v26), .second, .val (.int nr), .val (.long bb), .second, .val (.int ek), .val (.ref sb), .val (.double ev), .second, .val (.double cc), .second, .val (.long v216), .second, .val (.double v232), .second, .val (.double v244), .second, .val (.double v244), .second, .unset, .unset, .unset, .unset] [(.double v244)]))
          refine g_ldcDouble hG X5 hx hZ hown (wd hw 38 rfl) (hb hby at_266) (pc' := 269) rfl ?_
          show G (T5.setTop (mkF m 269 #[.val (.long aa), .second, .val (.long bi), .second, .val (.int dd), .val (.int fr), .val (.double v10), .second, .val (.double v26), .second, .val (.int nr), .val (.long bb), .second, .val (.int ek), .val (.ref sb), .val (.double ev), .second, .val (.double cc), .second, .val (.long v216), .second, .val (.double v232), .second, .val (.double v244), .second, .val (.double v244), .second, .unset, .unset, .unset, .unset] [(.double 4395513236313604096), (.double v244)]))
          obtain ⟨v269, q269⟩ : ∃ z : UInt64, FP.dmul v244 (4395513236313604096 : UInt64) = z := ⟨_, rfl⟩
          have D269 := OwnFl.dmul_DV Dab own_p47 (by grind) (by grind)
          rw [q269] at D269
          refine g_dmul hG X5 hx (hb hby at_269) (pc' := 270) rfl (by rw [q269]; exact D269.noNaN) q269 ?_
          show G (T5.setTop (mkF m 270 #[.val (.long aa), .second, .val (.long bi), .second, .val (.int dd), .val (.int fr), .val (.double v10), .second, .val (.double v26), .second, .val (.int nr), .val (.long bb), .second, .val (.int ek), .val (.ref sb), .val (.double ev), .second, .val (.double cc), .second, .val (.long v216), .second, .val (.double v232), .second, .val (.double v244), .second, .val (.double v244), .second, .unset, .unset, .unset, .unset] [(.double v269)]))
          refine g_ldcDouble hG X5 hx hZ hown (wd hw 39 rfl) (hb hby at_270) (pc' := 273) rfl ?_
          show G (T5.setTop (mkF m 273 #[.val (.long aa), .second, .val (.long bi), .second, .val (.int dd), .val (.int fr), .val (.double v10), .second, .val (.double v26), .second, .val (.int nr), .val (.long bb), .second, .val (.int ek), .val (.ref sb), .val (.double ev), .second, .val (.double cc), .second, .val (.long v216), .second, .val (.double v232), .second, .val (.double v244), .second, .val (.double v244), .second, .unset, .unset, .unset, .unset] [(.double 4616189618054758400), (.double v269)]))
          obtain ⟨v273, q273⟩ : ∃ z : UInt64, FP.dadd v269 (4616189618054758400 : UInt64) = z := ⟨_, rfl⟩
          have D273 := OwnFl.dadd_DV D269 own_4 (by grind) (by grind)
          rw [q273] at D273
          refine g_dadd hG X5 hx (hb hby at_273) (pc' := 274) rfl (by rw [q273]; exact D273.noNaN) q273 ?_
          show G (T5.setTop (mkF m 274 #[.val (.long aa), .second, .val (.long bi), .second, .val (.int dd), .val (.int fr), .val (.double v10), .second, .val (.double v26), .second, .val (.int nr), .val (.long bb), .second, .val (.int ek), .val (.ref sb), .val (.double ev), .second, .val (.double cc), .second, .val (.long v216), .second, .val (.double v232), .second, .val (.double v244), .second, .val (.double v244), .second, .unset, .unset, .unset, .unset] [(.double v273)]))
          refine g_dstore hG X5 hx (hb hby at_274) (pc' := 276) rfl (Ls' := #[.val (.long aa), .second, .val (.long bi), .second, .val (.int dd), .val (.int fr), .val (.double v10), .second, .val (.double v26), .second, .val (.int nr), .val (.long bb), .second, .val (.int ek), .val (.ref sb), .val (.double ev), .second, .val (.double cc), .second, .val (.long v216), .second, .val (.double v232), .second, .val (.double v244), .second, .val (.double v244), .second, .val (.double v273), .second, .unset, .unset]) rfl ?_
          show G (T5.setTop (mkF m 276 #[.val (.long aa), .second, .val (.long bi), .second, .val (.int dd), .val (.int fr), .val (.double v10), .second, .val (.double v26), .second, .val (.int nr), .val (.long bb), .second, .val (.int ek), .val (.ref sb), .val (.double ev), .second, .val (.double cc), .second, .val (.long v216), .second, .val (.double v232), .second, .val (.double v244), .second, .val (.double v244), .second, .val (.double v273), .second, .unset, .unset] []))
          refine g_dload hG X5 hx (hb hby at_276) (pc' := 278) rfl rfl ?_
          show G (T5.setTop (mkF m 278 #[.val (.long aa), .second, .val (.long bi), .second, .val (.int dd), .val (.int fr), .val (.double v10), .second, .val (.double v26), .second, .val (.int nr), .val (.long bb), .second, .val (.int ek), .val (.ref sb), .val (.double ev), .second, .val (.double cc), .second, .val (.long v216), .second, .val (.double v232), .second, .val (.double v244), .second, .val (.double v244), .second, .val (.double v273), .second, .unset, .unset] [(.double ev)]))
          refine g_dload hG X5 hx (hb hby at_278) (pc' := 280) rfl rfl ?_
          show G (T5.setTop (mkF m 280 #[.val (.long aa), .second, .val (.long bi), .second, .val (.int dd), .val (.int fr), .val (.double v10), .second, .val (.double v26), .second, .val (.int nr), .val (.long bb), .second, .val (.int ek), .val (.ref sb), .val (.double ev), .second, .val (.double cc), .second, .val (.long v216), .second, .val (.double v232), .second, .val (.double v244), .second, .val (.double v244), .second, .val (.double v273), .second, .unset, .unset] [(.double v244), (.double ev)]))
          obtain ⟨v280, q280⟩ : ∃ z : UInt64, FP.dsub ev v244 = z := ⟨_, rfl⟩
          have D280 := OwnFl.dsub_DV Dev D244 (by grind) (by grind)
          rw [q280] at D280
          refine g_dsub hG X5 hx (hb hby at_280) (pc' := 281) rfl (by rw [q280]; exact D280.noNaN) q280 ?_
          show G (T5.setTop (mkF m 281 #[.val (.long aa), .second, .val (.long bi), .second, .val (.int dd), .val (.int fr), .val (.double v10), .second, .val (.double v26), .second, .val (.int nr), .val (.long bb), .second, .val (.int ek), .val (.ref sb), .val (.double ev), .second, .val (.double cc), .second, .val (.long v216), .second, .val (.double v232), .second, .val (.double v244), .second, .val (.double v244), .second, .val (.double v273), .second, .unset, .unset] [(.double v280)]))
          refine g_dstore hG X5 hx (hb hby at_281) (pc' := 283) rfl (Ls' := #[.val (.long aa), .second, .val (.long bi), .second, .val (.int dd), .val (.int fr), .val (.double v10), .second, .val (.double v26), .second, .val (.int nr), .val (.long bb), .second, .val (.int ek), .val (.ref sb), .val (.double ev), .second, .val (.double cc), .second, .val (.long v216), .second, .val (.double v232), .second, .val (.double v244), .second, .val (.double v244), .second, .val (.double v273), .second, .val (.double v280), .second]) rfl ?_
          show G (T5.setTop (mkF m 283 #[.val (.long aa), .second, .val (.long bi), .second, .val (.int dd), .val (.int fr), .val (.double v10), .second, .val (.double v26), .second, .val (.int nr), .val (.long bb), .second, .val (.int ek), .val (.ref sb), .val (.double ev), .second, .val (.double cc), .second, .val (.long v216), .second, .val (.double v232), .second, .val (.double v244), .second, .val (.double v244), .second, .val (.double v273), .second, .val (.double v280), .second] []))
          refine g_dload hG X5 hx (hb hby at_283) (pc' := 285) rfl rfl ?_
          show G (T5.setTop (mkF m 285 #[.val (.long aa), .second, .val (.long bi), .second, .val (.int dd), .val (.int fr), .val (.double v10), .second, .val (.double v26), .second, .val (.int nr), .val (.long bb), .second, .val (.int ek), .val (.ref sb), .val (.double ev), .second, .val (.double cc), .second, .val (.long v216), .second, .val (.double v232), .second, .val (.double v244), .second, .val (.double v244), .second, .val (.double v273), .second, .val (.double v280), .second] [(.double v280)]))
          refine g_dload hG X5 hx (hb hby at_285) (pc' := 287) rfl rfl ?_
          show G (T5.setTop (mkF m 287 #[.val (.long aa), .second, .val (.long bi), .second, .val (.int dd), .val (.int fr), .val (.double v10), .second, .val (.double v26), .second, .val (.int nr), .val (.long bb), .second, .val (.int ek), .val (.ref sb), .val (.double ev), .second, .val (.double cc), .second, .val (.long v216), .second, .val (.double v232), .second, .val (.double v244), .second, .val (.double v244), .second, .val (.double v273), .second, .val (.double v280), .second] [(.double v273), (.double v280)]))
          obtain ⟨v287, q287⟩ : ∃ z : Int32, cmpValue (FP.dcmp v280 v273) .g = z := ⟨_, rfl⟩
          refine g_dcmp hG X5 hx (hb hby at_287) (pc' := 288) rfl q287 ?_
          show G (T5.setTop (mkF m 288 #[.val (.long aa), .second, .val (.long bi), .second, .val (.int dd), .val (.int fr), .val (.double v10), .second, .val (.double v26), .second, .val (.int nr), .val (.long bb), .second, .val (.int ek), .val (.ref sb), .val (.double ev), .second, .val (.double cc), .second, .val (.long v216), .second, .val (.double v232), .second, .val (.double v244), .second, .val (.double v244), .second, .val (.double v273), .second, .val (.double v280), .second] [(.int v287)]))
          refine g_ifNo hG X5 hx (hb hby at_288) (pc' := 291) (by rcases OwnFl.dcmp_le D280 D273 t1 with g | g <;> rw [← q287, g] <;> rfl) rfl ?_
          show G (T5.setTop (mkF m 291 #[.val (.long aa), .second, .val (.long bi), .second, .val (.int dd), .val (.int fr), .val (.double v10), .second, .val (.double v26), .second, .val (.int nr), .val (.long bb), .second, .val (.int ek), .val (.ref sb), .val (.double ev), .second, .val (.double cc), .second, .val (.long v216), .second, .val (.double v232), .second, .val (.double v244), .second, .val (.double v244), .second, .val (.double v273), .second, .val (.double v280), .second] []))
          refine g_dload hG X5 hx (hb hby at_291) (pc' := 293) rfl rfl ?_
          show G (T5.setTop (mkF m 293 #[.val (.long aa), .second, .val (.long bi), .second, .val (.int dd), .val (.int fr), .val (.double v10), .second, .val (.double v26), .second, .val (.int nr), .val (.long bb), .second, .val (.int ek), .val (.ref sb), .val (.double ev), .second, .val (.double cc), .second, .val (.long v216), .second, .val (.double v232), .second, .val (.double v244), .second, .val (.double v244), .second, .val (.double v273), .second, .val (.double v280), .second] [(.double v273)]))
          obtain ⟨v293, q293⟩ : ∃ z : UInt64, FP.dneg v273 = z := ⟨_, rfl⟩
          refine g_dneg hG X5 hx (hb hby at_293) (pc' := 294) rfl q293 ?_
          show G (T5.setTop (mkF m 294 #[.val (.long aa), .second, .val (.long bi), .second, .val (.int dd), .val (.int fr), .val (.double v10), .second, .val (.double v26), .second, .val (.int nr), .val (.long bb), .second, .val (.int ek), .val (.ref sb), .val (.double ev), .second, .val (.double cc), .second, .val (.long v216), .second, .val (.double v232), .second, .val (.double v244), .second, .val (.double v244), .second, .val (.double v273), .second, .val (.double v280), .second] [(.double v293)]))
          refine g_dload hG X5 hx (hb hby at_294) (pc' := 296) rfl rfl ?_
          show G (T5.setTop (mkF m 296 #[.val (.long aa), .second, .val (.long bi), .second, .val (.int dd), .val (.int fr), .val (.double v10), .second, .val (.double v26), .second, .val (.int nr), .val (.long bb), .second, .val (.int ek), .val (.ref sb), .val (.double ev), .second, .val (.double cc), .second, .val (.long v216), .second, .val (.double v232), .second, .val (.double v244), .second, .val (.double v244), .second, .val (.double v273), .second, .val (.double v280), .second] [(.double v280), (.double v293)]))
          obtain ⟨v296, q296⟩ : ∃ z : Int32, cmpValue (FP.dcmp v293 v280) .g = z := ⟨_, rfl⟩
          refine g_dcmp hG X5 hx (hb hby at_296) (pc' := 297) rfl q296 ?_
          show G (T5.setTop (mkF m 297 #[.val (.long aa), .second, .val (.long bi), .second, .val (.int dd), .val (.int fr), .val (.double v10), .second, .val (.double v26), .second, .val (.int nr), .val (.long bb), .second, .val (.int ek), .val (.ref sb), .val (.double ev), .second, .val (.double cc), .second, .val (.long v216), .second, .val (.double v232), .second, .val (.double v244), .second, .val (.double v244), .second, .val (.double v273), .second, .val (.double v280), .second] [(.int v296)]))
          refine g_ifNo hG X5 hx (hb hby at_297) (pc' := 300) (by rcases OwnFl.dcmp_le (q293 ▸ OwnFl.dneg_DV D273) D280 t2 with g | g <;> rw [← q296, g] <;> rfl) rfl ?_
          show G (T5.setTop (mkF m 300 #[.val (.long aa), .second, .val (.long bi), .second, .val (.int dd), .val (.int fr), .val (.double v10), .second, .val (.double v26), .second, .val (.int nr), .val (.long bb), .second, .val (.int ek), .val (.ref sb), .val (.double ev), .second, .val (.double cc), .second, .val (.long v216), .second, .val (.double v232), .second, .val (.double v244), .second, .val (.double v244), .second, .val (.double v273), .second, .val (.double v280), .second] []))
          refine g_iconst hG X5 hx (hb hby at_300) (pc' := 301) rfl (v := (1 : Int32)) rfl ?_
          show G (T5.setTop (mkF m 301 #[.val (.long aa), .second, .val (.long bi), .second, .val (.int dd), .val (.int fr), .val (.double v10), .second, .val (.double v26), .second, .val (.int nr), .val (.long bb), .second, .val (.int ek), .val (.ref sb), .val (.double ev), .second, .val (.double cc), .second, .val (.long v216), .second, .val (.double v232), .second, .val (.double v244), .second, .val (.double v244), .second, .val (.double v273), .second, .val (.double v280), .second] [(.int 1)]))
          refine g_goto hG X5 hx (hb hby at_301) (pc' := 305) (by decide) (by decide) ?_
          show G (T5.setTop (mkF m 305 #[.val (.long aa), .second, .val (.long bi), .second, .val (.int dd), .val (.int fr), .val (.double v10), .second, .val (.double v26), .second, .val (.int nr), .val (.long bb), .second, .val (.int ek), .val (.ref sb), .val (.double ev), .second, .val (.double cc), .second, .val (.long v216), .second, .val (.double v232), .second, .val (.double v244), .second, .val (.double v244), .second, .val (.double v273), .second, .val (.double v280), .second] [(.int 1)]))
          exact e_retZ hGe X5 hx hrt hlk (hb hby at_305) (Or.inr rfl) eh5 (by decide) (by decide) (⟨rfl, NF5⟩)
      obtain ⟨g1, g2, g3⟩ := own_sign hSp (by omega) (by omega) c3 c4 rpC
      rcases Int.lt_trichotomy aa.toInt bb.toInt with tr | tr | tr
      · skip
        refine g_lloadN hG X5 hx (hb hby at_160) (pc' := 161) rfl rfl ?_
        show G (T5.setTop (mkF m 161 #[.val (.long aa), .second, .val (.long bi), .second, .val (.int dd), .val (.int fr), .val (.double v10), .second, .val (.double v26), .second, .val (.int nr), .val (.long bb), .second, .val (.int ek), .val (.ref sb), .val (.double ev), .second, .val (.double cc), .second, .unset, .unset, .unset, .unset, .unset, .unset, .unset, .unset, .unset, .unset, .unset, .unset] [(.long aa)]))
        refine g_lload hG X5 hx (hb hby at_161) (pc' := 163) rfl rfl ?_
        show G (T5.setTop (mkF m 163 #[.val (.long aa), .second, .val (.long bi), .second, .val (.int dd), .val (.int fr), .val (.double v10), .second, .val (.double v26), .second, .val (.int nr), .val (.long bb), .second, .val (.int ek), .val (.ref sb), .val (.double ev), .second, .val (.double cc), .second, .unset, .unset, .unset, .unset, .unset, .unset, .unset, .unset, .unset, .unset, .unset, .unset] [(.long bb), (.long aa)]))
        obtain ⟨v163, q163⟩ : ∃ z : Int32, lcmpW aa bb = z := ⟨_, rfl⟩
        refine g_lcmp hG X5 hx (hb hby at_163) (pc' := 164) rfl q163 ?_
        show G (T5.setTop (mkF m 164 #[.val (.long aa), .second, .val (.long bi), .second, .val (.int dd), .val (.int fr), .val (.double v10), .second, .val (.double v26), .second, .val (.int nr), .val (.long bb), .second, .val (.int ek), .val (.ref sb), .val (.double ev), .second, .val (.double cc), .second, .unset, .unset, .unset, .unset, .unset, .unset, .unset, .unset, .unset, .unset, .unset, .unset] [(.int v163)]))
        refine g_ifYes hG X5 hx (hb hby at_164) (pc' := 176) ((if0 _ _).trans (flt (show ¬ (0 : Int32) < v163 by rw [← q163]; exact fun g => absurd (Int64.lt_iff_toInt_lt.mp ((lw_gt _ _).mp g)) (by omega))).2.2.2) (by decide) (by decide) ?_
        show G (T5.setTop (mkF m 176 #[.val (.long aa), .second, .val (.long bi), .second, .val (.int dd), .val (.int fr), .val (.double v10), .second, .val (.double v26), .second, .val (.int nr), .val (.long bb), .second, .val (.int ek), .val (.ref sb), .val (.double ev), .second, .val (.double cc), .second, .unset, .unset, .unset, .unset, .unset, .unset, .unset, .unset, .unset, .unset, .unset, .unset] []))
        refine g_lloadN hG X5 hx (hb hby at_176) (pc' := 177) rfl rfl ?_
        show G (T5.setTop (mkF m 177 #[.val (.long aa), .second, .val (.long bi), .second, .val (.int dd), .val (.int fr), .val (.double v10), .second, .val (.double v26), .second, .val (.int nr), .val (.long bb), .second, .val (.int ek), .val (.ref sb), .val (.double ev), .second, .val (.double cc), .second, .unset, .unset, .unset, .unset, .unset, .unset, .unset, .unset, .unset, .unset, .unset, .unset] [(.long aa)]))
        refine g_lload hG X5 hx (hb hby at_177) (pc' := 179) rfl rfl ?_
        show G (T5.setTop (mkF m 179 #[.val (.long aa), .second, .val (.long bi), .second, .val (.int dd), .val (.int fr), .val (.double v10), .second, .val (.double v26), .second, .val (.int nr), .val (.long bb), .second, .val (.int ek), .val (.ref sb), .val (.double ev), .second, .val (.double cc), .second, .unset, .unset, .unset, .unset, .unset, .unset, .unset, .unset, .unset, .unset, .unset, .unset] [(.long bb), (.long aa)]))
        obtain ⟨v179, q179⟩ : ∃ z : Int32, lcmpW aa bb = z := ⟨_, rfl⟩
        refine g_lcmp hG X5 hx (hb hby at_179) (pc' := 180) rfl q179 ?_
        show G (T5.setTop (mkF m 180 #[.val (.long aa), .second, .val (.long bi), .second, .val (.int dd), .val (.int fr), .val (.double v10), .second, .val (.double v26), .second, .val (.int nr), .val (.long bb), .second, .val (.int ek), .val (.ref sb), .val (.double ev), .second, .val (.double cc), .second, .unset, .unset, .unset, .unset, .unset, .unset, .unset, .unset, .unset, .unset, .unset, .unset] [(.int v179)]))
        refine g_ifNo hG X5 hx (hb hby at_180) (pc' := 183) ((if0 _ _).trans (tlt (show v179 < 0 by rw [← q179]; exact (lw_lt _ _).mpr (Int64.lt_iff_toInt_lt.mpr tr))).2.1) rfl ?_
        show G (T5.setTop (mkF m 183 #[.val (.long aa), .second, .val (.long bi), .second, .val (.int dd), .val (.int fr), .val (.double v10), .second, .val (.double v26), .second, .val (.int nr), .val (.long bb), .second, .val (.int ek), .val (.ref sb), .val (.double ev), .second, .val (.double cc), .second, .unset, .unset, .unset, .unset, .unset, .unset, .unset, .unset, .unset, .unset, .unset, .unset] []))
        refine g_dload hG X5 hx (hb hby at_183) (pc' := 185) rfl rfl ?_
        show G (T5.setTop (mkF m 185 #[.val (.long aa), .second, .val (.long bi), .second, .val (.int dd), .val (.int fr), .val (.double v10), .second, .val (.double v26), .second, .val (.int nr), .val (.long bb), .second, .val (.int ek), .val (.ref sb), .val (.double ev), .second, .val (.double cc), .second, .unset, .unset, .unset, .unset, .unset, .unset, .unset, .unset, .unset, .unset, .unset, .unset] [(.double ev)]))
        refine g_dconst0 hG X5 hx (hb hby at_185) (pc' := 186) rfl (v := (0 : UInt64)) rfl ?_
        show G (T5.setTop (mkF m 186 #[.val (.long aa), .second, .val (.long bi), .second, .val (.int dd), .val (.int fr), .val (.double v10), .second, .val (.double v26), .second, .val (.int nr), .val (.long bb), .second, .val (.int ek), .val (.ref sb), .val (.double ev), .second, .val (.double cc), .second, .unset, .unset, .unset, .unset, .unset, .unset, .unset, .unset, .unset, .unset, .unset, .unset] [(.double 0), (.double ev)]))
        obtain ⟨v186, q186⟩ : ∃ z : Int32, cmpValue (FP.dcmp ev (0 : UInt64)) .g = z := ⟨_, rfl⟩
        refine g_dcmp hG X5 hx (hb hby at_186) (pc' := 187) rfl q186 ?_
        show G (T5.setTop (mkF m 187 #[.val (.long aa), .second, .val (.long bi), .second, .val (.int dd), .val (.int fr), .val (.double v10), .second, .val (.double v26), .second, .val (.int nr), .val (.long bb), .second, .val (.int ek), .val (.ref sb), .val (.double ev), .second, .val (.double cc), .second, .unset, .unset, .unset, .unset, .unset, .unset, .unset, .unset, .unset, .unset, .unset, .unset] [(.int v186)]))
        refine g_ifYes hG X5 hx (hb hby at_187) (pc' := 192) (by rw [← q186, OwnFl.dcmp_lt Dev own_z (g2 (by omega))]; rfl) (by decide) (by decide) ?_
        show G (T5.setTop (mkF m 192 #[.val (.long aa), .second, .val (.long bi), .second, .val (.int dd), .val (.int fr), .val (.double v10), .second, .val (.double v26), .second, .val (.int nr), .val (.long bb), .second, .val (.int ek), .val (.ref sb), .val (.double ev), .second, .val (.double cc), .second, .unset, .unset, .unset, .unset, .unset, .unset, .unset, .unset, .unset, .unset, .unset, .unset] []))
        refine g_lloadN hG X5 hx (hb hby at_192) (pc' := 193) rfl rfl ?_
        show G (T5.setTop (mkF m 193 #[.val (.long aa), .second, .val (.long bi), .second, .val (.int dd), .val (.int fr), .val (.double v10), .second, .val (.double v26), .second, .val (.int nr), .val (.long bb), .second, .val (.int ek), .val (.ref sb), .val (.double ev), .second, .val (.double cc), .second, .unset, .unset, .unset, .unset, .unset, .unset, .unset, .unset, .unset, .unset, .unset, .unset] [(.long aa)]))
        refine g_lload hG X5 hx (hb hby at_193) (pc' := 195) rfl rfl ?_
        show G (T5.setTop (mkF m 195 #[.val (.long aa), .second, .val (.long bi), .second, .val (.int dd), .val (.int fr), .val (.double v10), .second, .val (.double v26), .second, .val (.int nr), .val (.long bb), .second, .val (.int ek), .val (.ref sb), .val (.double ev), .second, .val (.double cc), .second, .unset, .unset, .unset, .unset, .unset, .unset, .unset, .unset, .unset, .unset, .unset, .unset] [(.long bb), (.long aa)]))
        obtain ⟨v195, q195⟩ : ∃ z : Int32, lcmpW aa bb = z := ⟨_, rfl⟩
        refine g_lcmp hG X5 hx (hb hby at_195) (pc' := 196) rfl q195 ?_
        show G (T5.setTop (mkF m 196 #[.val (.long aa), .second, .val (.long bi), .second, .val (.int dd), .val (.int fr), .val (.double v10), .second, .val (.double v26), .second, .val (.int nr), .val (.long bb), .second, .val (.int ek), .val (.ref sb), .val (.double ev), .second, .val (.double cc), .second, .unset, .unset, .unset, .unset, .unset, .unset, .unset, .unset, .unset, .unset, .unset, .unset] [(.int v195)]))
        refine g_ifYes hG X5 hx (hb hby at_196) (pc' := 209) ((if0 _ _).trans (feq (show ¬ v195 = 0 by rw [← q195]; exact fun g => absurd (congrArg Int64.toInt ((lw_eq _ _).mp g)) (by omega))).2) (by decide) (by decide) ?_
        show G (T5.setTop (mkF m 209 #[.val (.long aa), .second, .val (.long bi), .second, .val (.int dd), .val (.int fr), .val (.double v10), .second, .val (.double v26), .second, .val (.int nr), .val (.long bb), .second, .val (.int ek), .val (.ref sb), .val (.double ev), .second, .val (.double cc), .second, .unset, .unset, .unset, .unset, .unset, .unset, .unset, .unset, .unset, .unset, .unset, .unset] []))
        exact c209 ()
      · skip
        refine g_lloadN hG X5 hx (hb hby at_160) (pc' := 161) rfl rfl ?_
        show G (T5.setTop (mkF m 161 #[.val (.long aa), .second, .val (.long bi), .second, .val (.int dd), .val (.int fr), .val (.double v10), .second, .val (.double v26), .second, .val (.int nr), .val (.long bb), .second, .val (.int ek), .val (.ref sb), .val (.double ev), .second, .val (.double cc), .second, .unset, .unset, .unset, .unset, .unset, .unset, .unset, .unset, .unset, .unset, .unset, .unset] [(.long aa)]))
        refine g_lload hG X5 hx (hb hby at_161) (pc' := 163) rfl rfl ?_
        show G (T5.setTop (mkF m 163 #[.val (.long aa), .second, .val (.long bi), .second, .val (.int dd), .val (.int fr), .val (.double v10), .second, .val (.double v26), .second, .val (.int nr), .val (.long bb), .second, .val (.int ek), .val (.ref sb), .val (.double ev), .second, .val (.double cc), .second, .unset, .unset, .unset, .unset, .unset, .unset, .unset, .unset, .unset, .unset, .unset, .unset] [(.long bb), (.long aa)]))
        obtain ⟨v163, q163⟩ : ∃ z : Int32, lcmpW aa bb = z := ⟨_, rfl⟩
        refine g_lcmp hG X5 hx (hb hby at_163) (pc' := 164) rfl q163 ?_
        show G (T5.setTop (mkF m 164 #[.val (.long aa), .second, .val (.long bi), .second, .val (.int dd), .val (.int fr), .val (.double v10), .second, .val (.double v26), .second, .val (.int nr), .val (.long bb), .second, .val (.int ek), .val (.ref sb), .val (.double ev), .second, .val (.double cc), .second, .unset, .unset, .unset, .unset, .unset, .unset, .unset, .unset, .unset, .unset, .unset, .unset] [(.int v163)]))
        refine g_ifYes hG X5 hx (hb hby at_164) (pc' := 176) ((if0 _ _).trans (flt (show ¬ (0 : Int32) < v163 by rw [← q163]; exact fun g => absurd (Int64.lt_iff_toInt_lt.mp ((lw_gt _ _).mp g)) (by omega))).2.2.2) (by decide) (by decide) ?_
        show G (T5.setTop (mkF m 176 #[.val (.long aa), .second, .val (.long bi), .second, .val (.int dd), .val (.int fr), .val (.double v10), .second, .val (.double v26), .second, .val (.int nr), .val (.long bb), .second, .val (.int ek), .val (.ref sb), .val (.double ev), .second, .val (.double cc), .second, .unset, .unset, .unset, .unset, .unset, .unset, .unset, .unset, .unset, .unset, .unset, .unset] []))
        refine g_lloadN hG X5 hx (hb hby at_176) (pc' := 177) rfl rfl ?_
        show G (T5.setTop (mkF m 177 #[.val (.long aa), .second, .val (.long bi), .second, .val (.int dd), .val (.int fr), .val (.double v10), .second, .val (.double v26), .second, .val (.int nr), .val (.long bb), .second, .val (.int ek), .val (.ref sb), .val (.double ev), .second, .val (.double cc), .second, .unset, .unset, .unset, .unset, .unset, .unset, .unset, .unset, .unset, .unset, .unset, .unset] [(.long aa)]))
        refine g_lload hG X5 hx (hb hby at_177) (pc' := 179) rfl rfl ?_
        show G (T5.setTop (mkF m 179 #[.val (.long aa), .second, .val (.long bi), .second, .val (.int dd), .val (.int fr), .val (.double v10), .second, .val (.double v26), .second, .val (.int nr), .val (.long bb), .second, .val (.int ek), .val (.ref sb), .val (.double ev), .second, .val (.double cc), .second, .unset, .unset, .unset, .unset, .unset, .unset, .unset, .unset, .unset, .unset, .unset, .unset] [(.long bb), (.long aa)]))
        obtain ⟨v179, q179⟩ : ∃ z : Int32, lcmpW aa bb = z := ⟨_, rfl⟩
        refine g_lcmp hG X5 hx (hb hby at_179) (pc' := 180) rfl q179 ?_
        show G (T5.setTop (mkF m 180 #[.val (.long aa), .second, .val (.long bi), .second, .val (.int dd), .val (.int fr), .val (.double v10), .second, .val (.double v26), .second, .val (.int nr), .val (.long bb), .second, .val (.int ek), .val (.ref sb), .val (.double ev), .second, .val (.double cc), .second, .unset, .unset, .unset, .unset, .unset, .unset, .unset, .unset, .unset, .unset, .unset, .unset] [(.int v179)]))
        refine g_ifYes hG X5 hx (hb hby at_180) (pc' := 192) ((if0 _ _).trans (flt (show ¬ v179 < 0 by rw [← q179]; exact fun g => absurd (Int64.lt_iff_toInt_lt.mp ((lw_lt _ _).mp g)) (by omega))).2.1) (by decide) (by decide) ?_
        show G (T5.setTop (mkF m 192 #[.val (.long aa), .second, .val (.long bi), .second, .val (.int dd), .val (.int fr), .val (.double v10), .second, .val (.double v26), .second, .val (.int nr), .val (.long bb), .second, .val (.int ek), .val (.ref sb), .val (.double ev), .second, .val (.double cc), .second, .unset, .unset, .unset, .unset, .unset, .unset, .unset, .unset, .unset, .unset, .unset, .unset] []))
        refine g_lloadN hG X5 hx (hb hby at_192) (pc' := 193) rfl rfl ?_
        show G (T5.setTop (mkF m 193 #[.val (.long aa), .second, .val (.long bi), .second, .val (.int dd), .val (.int fr), .val (.double v10), .second, .val (.double v26), .second, .val (.int nr), .val (.long bb), .second, .val (.int ek), .val (.ref sb), .val (.double ev), .second, .val (.double cc), .second, .unset, .unset, .unset, .unset, .unset, .unset, .unset, .unset, .unset, .unset, .unset, .unset] [(.long aa)]))
        refine g_lload hG X5 hx (hb hby at_193) (pc' := 195) rfl rfl ?_
        show G (T5.setTop (mkF m 195 #[.val (.long aa), .second, .val (.long bi), .second, .val (.int dd), .val (.int fr), .val (.double v10), .second, .val (.double v26), .second, .val (.int nr), .val (.long bb), .second, .val (.int ek), .val (.ref sb), .val (.double ev), .second, .val (.double cc), .second, .unset, .unset, .unset, .unset, .unset, .unset, .unset, .unset, .unset, .unset, .unset, .unset] [(.long bb), (.long aa)]))
        obtain ⟨v195, q195⟩ : ∃ z : Int32, lcmpW aa bb = z := ⟨_, rfl⟩
        refine g_lcmp hG X5 hx (hb hby at_195) (pc' := 196) rfl q195 ?_
        show G (T5.setTop (mkF m 196 #[.val (.long aa), .second, .val (.long bi), .second, .val (.int dd), .val (.int fr), .val (.double v10), .second, .val (.double v26), .second, .val (.int nr), .val (.long bb), .second, .val (.int ek), .val (.ref sb), .val (.double ev), .second, .val (.double cc), .second, .unset, .unset, .unset, .unset, .unset, .unset, .unset, .unset, .unset, .unset, .unset, .unset] [(.int v195)]))
        refine g_ifNo hG X5 hx (hb hby at_196) (pc' := 199) ((if0 _ _).trans (teq (show v195 = 0 by rw [← q195]; exact (lw_eq _ _).mpr (Int64.toInt_inj.mp tr))).2) rfl ?_
        show G (T5.setTop (mkF m 199 #[.val (.long aa), .second, .val (.long bi), .second, .val (.int dd), .val (.int fr), .val (.double v10), .second, .val (.double v26), .second, .val (.int nr), .val (.long bb), .second, .val (.int ek), .val (.ref sb), .val (.double ev), .second, .val (.double cc), .second, .unset, .unset, .unset, .unset, .unset, .unset, .unset, .unset, .unset, .unset, .unset, .unset] []))
        refine g_dload hG X5 hx (hb hby at_199) (pc' := 201) rfl rfl ?_
        show G (T5.setTop (mkF m 201 #[.val (.long aa), .second, .val (.long bi), .second, .val (.int dd), .val (.int fr), .val (.double v10), .second, .val (.double v26), .second, .val (.int nr), .val (.long bb), .second, .val (.int ek), .val (.ref sb), .val (.double ev), .second, .val (.double cc), .second, .unset, .unset, .unset, .unset, .unset, .unset, .unset, .unset, .unset, .unset, .unset, .unset] [(.double ev)]))
        refine g_dload hG X5 hx (hb hby at_201) (pc' := 203) rfl rfl ?_
        show G (T5.setTop (mkF m 203 #[.val (.long aa), .second, .val (.long bi), .second, .val (.int dd), .val (.int fr), .val (.double v10), .second, .val (.double v26), .second, .val (.int nr), .val (.long bb), .second, .val (.int ek), .val (.ref sb), .val (.double ev), .second, .val (.double cc), .second, .unset, .unset, .unset, .unset, .unset, .unset, .unset, .unset, .unset, .unset, .unset, .unset] [(.double cc), (.double ev)]))
        obtain ⟨v203, q203⟩ : ∃ z : Int32, cmpValue (FP.dcmp ev cc) .l = z := ⟨_, rfl⟩
        refine g_dcmp hG X5 hx (hb hby at_203) (pc' := 204) rfl q203 ?_
        show G (T5.setTop (mkF m 204 #[.val (.long aa), .second, .val (.long bi), .second, .val (.int dd), .val (.int fr), .val (.double v10), .second, .val (.double v26), .second, .val (.int nr), .val (.long bb), .second, .val (.int ek), .val (.ref sb), .val (.double ev), .second, .val (.double cc), .second, .unset, .unset, .unset, .unset, .unset, .unset, .unset, .unset, .unset, .unset, .unset, .unset] [(.int v203)]))
        refine g_ifYes hG X5 hx (hb hby at_204) (pc' := 209) (by rw [← q203, OwnFl.dcmp_eq Dev Dcc (g3 (by omega))]; rfl) (by decide) (by decide) ?_
        show G (T5.setTop (mkF m 209 #[.val (.long aa), .second, .val (.long bi), .second, .val (.int dd), .val (.int fr), .val (.double v10), .second, .val (.double v26), .second, .val (.int nr), .val (.long bb), .second, .val (.int ek), .val (.ref sb), .val (.double ev), .second, .val (.double cc), .second, .unset, .unset, .unset, .unset, .unset, .unset, .unset, .unset, .unset, .unset, .unset, .unset] []))
        exact c209 ()
      · skip
        refine g_lloadN hG X5 hx (hb hby at_160) (pc' := 161) rfl rfl ?_
        show G (T5.setTop (mkF m 161 #[.val (.long aa), .second, .val (.long bi), .second, .val (.int dd), .val (.int fr), .val (.double v10), .second, .val (.double v26), .second, .val (.int nr), .val (.long bb), .second, .val (.int ek), .val (.ref sb), .val (.double ev), .second, .val (.double cc), .second, .unset, .unset, .unset, .unset, .unset, .unset, .unset, .unset, .unset, .unset, .unset, .unset] [(.long aa)]))
        refine g_lload hG X5 hx (hb hby at_161) (pc' := 163) rfl rfl ?_
        show G (T5.setTop (mkF m 163 #[.val (.long aa), .second, .val (.long bi), .second, .val (.int dd), .val (.int fr), .val (.double v10), .second, .val (.double v26), .second, .val (.int nr), .val (.long bb), .second, .val (.int ek), .val (.ref sb), .val (.double ev), .second, .val (.double cc), .second, .unset, .unset, .unset, .unset, .unset, .unset, .unset, .unset, .unset, .unset, .unset, .unset] [(.long bb), (.long aa)]))
        obtain ⟨v163, q163⟩ : ∃ z : Int32, lcmpW aa bb = z := ⟨_, rfl⟩
        refine g_lcmp hG X5 hx (hb hby at_163) (pc' := 164) rfl q163 ?_
        show G (T5.setTop (mkF m 164 #[.val (.long aa), .second, .val (.long bi), .second, .val (.int dd), .val (.int fr), .val (.double v10), .second, .val (.double v26), .second, .val (.int nr), .val (.long bb), .second, .val (.int ek), .val (.ref sb), .val (.double ev), .second, .val (.double cc), .second, .unset, .unset, .unset, .unset, .unset, .unset, .unset, .unset, .unset, .unset, .unset, .unset] [(.int v163)]))
        refine g_ifNo hG X5 hx (hb hby at_164) (pc' := 167) ((if0 _ _).trans (tlt (show (0 : Int32) < v163 by rw [← q163]; exact (lw_gt _ _).mpr (Int64.lt_iff_toInt_lt.mpr tr))).2.2.2) rfl ?_
        show G (T5.setTop (mkF m 167 #[.val (.long aa), .second, .val (.long bi), .second, .val (.int dd), .val (.int fr), .val (.double v10), .second, .val (.double v26), .second, .val (.int nr), .val (.long bb), .second, .val (.int ek), .val (.ref sb), .val (.double ev), .second, .val (.double cc), .second, .unset, .unset, .unset, .unset, .unset, .unset, .unset, .unset, .unset, .unset, .unset, .unset] []))
        refine g_dload hG X5 hx (hb hby at_167) (pc' := 169) rfl rfl ?_
        show G (T5.setTop (mkF m 169 #[.val (.long aa), .second, .val (.long bi), .second, .val (.int dd), .val (.int fr), .val (.double v10), .second, .val (.double v26), .second, .val (.int nr), .val (.long bb), .second, .val (.int ek), .val (.ref sb), .val (.double ev), .second, .val (.double cc), .second, .unset, .unset, .unset, .unset, .unset, .unset, .unset, .unset, .unset, .unset, .unset, .unset] [(.double ev)]))
        refine g_dconst0 hG X5 hx (hb hby at_169) (pc' := 170) rfl (v := (0 : UInt64)) rfl ?_
        show G (T5.setTop (mkF m 170 #[.val (.long aa), .second, .val (.long bi), .second, .val (.int dd), .val (.int fr), .val (.double v10), .second, .val (.double v26), .second, .val (.int nr), .val (.long bb), .second, .val (.int ek), .val (.ref sb), .val (.double ev), .second, .val (.double cc), .second, .unset, .unset, .unset, .unset, .unset, .unset, .unset, .unset, .unset, .unset, .unset, .unset] [(.double 0), (.double ev)]))
        obtain ⟨v170, q170⟩ : ∃ z : Int32, cmpValue (FP.dcmp ev (0 : UInt64)) .l = z := ⟨_, rfl⟩
        refine g_dcmp hG X5 hx (hb hby at_170) (pc' := 171) rfl q170 ?_
        show G (T5.setTop (mkF m 171 #[.val (.long aa), .second, .val (.long bi), .second, .val (.int dd), .val (.int fr), .val (.double v10), .second, .val (.double v26), .second, .val (.int nr), .val (.long bb), .second, .val (.int ek), .val (.ref sb), .val (.double ev), .second, .val (.double cc), .second, .unset, .unset, .unset, .unset, .unset, .unset, .unset, .unset, .unset, .unset, .unset, .unset] [(.int v170)]))
        refine g_ifYes hG X5 hx (hb hby at_171) (pc' := 176) (by rw [← q170, OwnFl.dcmp_gt Dev own_z (g1 (by omega))]; rfl) (by decide) (by decide) ?_
        show G (T5.setTop (mkF m 176 #[.val (.long aa), .second, .val (.long bi), .second, .val (.int dd), .val (.int fr), .val (.double v10), .second, .val (.double v26), .second, .val (.int nr), .val (.long bb), .second, .val (.int ek), .val (.ref sb), .val (.double ev), .second, .val (.double cc), .second, .unset, .unset, .unset, .unset, .unset, .unset, .unset, .unset, .unset, .unset, .unset, .unset] []))
        refine g_lloadN hG X5 hx (hb hby at_176) (pc' := 177) rfl rfl ?_
        show G (T5.setTop (mkF m 177 #[.val (.long aa), .second, .val (.long bi), .second, .val (.int dd), .val (.int fr), .val (.double v10), .second, .val (.double v26), .second, .val (.int nr), .val (.long bb), .second, .val (.int ek), .val (.ref sb), .val (.double ev), .second, .val (.double cc), .second, .unset, .unset, .unset, .unset, .unset, .unset, .unset, .unset, .unset, .unset, .unset, .unset] [(.long aa)]))
        refine g_lload hG X5 hx (hb hby at_177) (pc' := 179) rfl rfl ?_
        show G (T5.setTop (mkF m 179 #[.val (.long aa), .second, .val (.long bi), .second, .val (.int dd), .val (.int fr), .val (.double v10), .second, .val (.double v26), .second, .val (.int nr), .val (.long bb), .second, .val (.int ek), .val (.ref sb), .val (.double ev), .second, .val (.double cc), .second, .unset, .unset, .unset, .unset, .unset, .unset, .unset, .unset, .unset, .unset, .unset, .unset] [(.long bb), (.long aa)]))
        obtain ⟨v179, q179⟩ : ∃ z : Int32, lcmpW aa bb = z := ⟨_, rfl⟩
        refine g_lcmp hG X5 hx (hb hby at_179) (pc' := 180) rfl q179 ?_
        show G (T5.setTop (mkF m 180 #[.val (.long aa), .second, .val (.long bi), .second, .val (.int dd), .val (.int fr), .val (.double v10), .second, .val (.double v26), .second, .val (.int nr), .val (.long bb), .second, .val (.int ek), .val (.ref sb), .val (.double ev), .second, .val (.double cc), .second, .unset, .unset, .unset, .unset, .unset, .unset, .unset, .unset, .unset, .unset, .unset, .unset] [(.int v179)]))
        refine g_ifYes hG X5 hx (hb hby at_180) (pc' := 192) ((if0 _ _).trans (flt (show ¬ v179 < 0 by rw [← q179]; exact fun g => absurd (Int64.lt_iff_toInt_lt.mp ((lw_lt _ _).mp g)) (by omega))).2.1) (by decide) (by decide) ?_
        show G (T5.setTop (mkF m 192 #[.val (.long aa), .second, .val (.long bi), .second, .val (.int dd), .val (.int fr), .val (.double v10), .second, .val (.double v26), .second, .val (.int nr), .val (.long bb), .second, .val (.int ek), .val (.ref sb), .val (.double ev), .second, .val (.double cc), .second, .unset, .unset, .unset, .unset, .unset, .unset, .unset, .unset, .unset, .unset, .unset, .unset] []))
        refine g_lloadN hG X5 hx (hb hby at_192) (pc' := 193) rfl rfl ?_
        show G (T5.setTop (mkF m 193 #[.val (.long aa), .second, .val (.long bi), .second, .val (.int dd), .val (.int fr), .val (.double v10), .second, .val (.double v26), .second, .val (.int nr), .val (.long bb), .second, .val (.int ek), .val (.ref sb), .val (.double ev), .second, .val (.double cc), .second, .unset, .unset, .unset, .unset, .unset, .unset, .unset, .unset, .unset, .unset, .unset, .unset] [(.long aa)]))
        refine g_lload hG X5 hx (hb hby at_193) (pc' := 195) rfl rfl ?_
        show G (T5.setTop (mkF m 195 #[.val (.long aa), .second, .val (.long bi), .second, .val (.int dd), .val (.int fr), .val (.double v10), .second, .val (.double v26), .second, .val (.int nr), .val (.long bb), .second, .val (.int ek), .val (.ref sb), .val (.double ev), .second, .val (.double cc), .second, .unset, .unset, .unset, .unset, .unset, .unset, .unset, .unset, .unset, .unset, .unset, .unset] [(.long bb), (.long aa)]))
        obtain ⟨v195, q195⟩ : ∃ z : Int32, lcmpW aa bb = z := ⟨_, rfl⟩
        refine g_lcmp hG X5 hx (hb hby at_195) (pc' := 196) rfl q195 ?_
        show G (T5.setTop (mkF m 196 #[.val (.long aa), .second, .val (.long bi), .second, .val (.int dd), .val (.int fr), .val (.double v10), .second, .val (.double v26), .second, .val (.int nr), .val (.long bb), .second, .val (.int ek), .val (.ref sb), .val (.double ev), .second, .val (.double cc), .second, .unset, .unset, .unset, .unset, .unset, .unset, .unset, .unset, .unset, .unset, .unset, .unset] [(.int v195)]))
        refine g_ifYes hG X5 hx (hb hby at_196) (pc' := 209) ((if0 _ _).trans (feq (show ¬ v195 = 0 by rw [← q195]; exact fun g => absurd (congrArg Int64.toInt ((lw_eq _ _).mp g)) (by omega))).2) (by decide) (by decide) ?_
        show G (T5.setTop (mkF m 209 #[.val (.long aa), .second, .val (.long bi), .second, .val (.int dd), .val (.int fr), .val (.double v10), .second, .val (.double v26), .second, .val (.int nr), .val (.long bb), .second, .val (.int ek), .val (.ref sb), .val (.double ev), .second, .val (.double cc), .second, .unset, .unset, .unset, .unset, .unset, .unset, .unset, .unset, .unset, .unset, .unset, .unset] []))
        exact c209 ()
    rcases hek with hek | ⟨hek, hd⟩
    · skip
      refine g_iload hG X5 hx (hb hby at_141) (pc' := 143) rfl rfl ?_
      show G (T5.setTop (mkF m 143 #[.val (.long aa), .second, .val (.long bi), .second, .val (.int dd), .val (.int fr), .val (.double v10), .second, .val (.double v26), .second, .val (.int nr), .val (.long bb), .second, .val (.int ek), .val (.ref sb), .val (.double ev), .second, .val (.double cc), .second, .unset, .unset, .unset, .unset, .unset, .unset, .unset, .unset, .unset, .unset, .unset, .unset] [(.int ek)]))
      refine g_ifYes hG X5 hx (hb hby at_143) (pc' := 160) (by rw [hek]; rfl) (by decide) (by decide) ?_
      show G (T5.setTop (mkF m 160 #[.val (.long aa), .second, .val (.long bi), .second, .val (.int dd), .val (.int fr), .val (.double v10), .second, .val (.double v26), .second, .val (.int nr), .val (.long bb), .second, .val (.int ek), .val (.ref sb), .val (.double ev), .second, .val (.double cc), .second, .unset, .unset, .unset, .unset, .unset, .unset, .unset, .unset, .unset, .unset, .unset, .unset] []))
      exact c160 ()
    · skip
      refine g_iload hG X5 hx (hb hby at_141) (pc' := 143) rfl rfl ?_
      show G (T5.setTop (mkF m 143 #[.val (.long aa), .second, .val (.long bi), .second, .val (.int dd), .val (.int fr), .val (.double v10), .second, .val (.double v26), .second, .val (.int nr), .val (.long bb), .second, .val (.int ek), .val (.ref sb), .val (.double ev), .second, .val (.double cc), .second, .unset, .unset, .unset, .unset, .unset, .unset, .unset, .unset, .unset, .unset, .unset, .unset] [(.int ek)]))
      refine g_ifNo hG X5 hx (hb hby at_143) (pc' := 146) (by rw [hek]; rfl) rfl ?_
      show G (T5.setTop (mkF m 146 #[.val (.long aa), .second, .val (.long bi), .second, .val (.int dd), .val (.int fr), .val (.double v10), .second, .val (.double v26), .second, .val (.int nr), .val (.long bb), .second, .val (.int ek), .val (.ref sb), .val (.double ev), .second, .val (.double cc), .second, .unset, .unset, .unset, .unset, .unset, .unset, .unset, .unset, .unset, .unset, .unset, .unset] []))
      refine g_dload hG X5 hx (hb hby at_146) (pc' := 148) rfl rfl ?_
      show G (T5.setTop (mkF m 148 #[.val (.long aa), .second, .val (.long bi), .second, .val (.int dd), .val (.int fr), .val (.double v10), .second, .val (.double v26), .second, .val (.int nr), .val (.long bb), .second, .val (.int ek), .val (.ref sb), .val (.double ev), .second, .val (.double cc), .second, .unset, .unset, .unset, .unset, .unset, .unset, .unset, .unset, .unset, .unset, .unset, .unset] [(.double ev)]))
      refine g_iload hG X5 hx (hb hby at_148) (pc' := 150) rfl rfl ?_
      show G (T5.setTop (mkF m 150 #[.val (.long aa), .second, .val (.long bi), .second, .val (.int dd), .val (.int fr), .val (.double v10), .second, .val (.double v26), .second, .val (.int nr), .val (.long bb), .second, .val (.int ek), .val (.ref sb), .val (.double ev), .second, .val (.double cc), .second, .unset, .unset, .unset, .unset, .unset, .unset, .unset, .unset, .unset, .unset, .unset, .unset] [(.int dd), (.double ev)]))
      obtain ⟨v150, q150⟩ : ∃ z : UInt64, FP.i2d dd = z := ⟨_, rfl⟩
      refine g_i2d hG X5 hx (hb hby at_150) (pc' := 151) rfl q150 ?_
      show G (T5.setTop (mkF m 151 #[.val (.long aa), .second, .val (.long bi), .second, .val (.int dd), .val (.int fr), .val (.double v10), .second, .val (.double v26), .second, .val (.int nr), .val (.long bb), .second, .val (.int ek), .val (.ref sb), .val (.double ev), .second, .val (.double cc), .second, .unset, .unset, .unset, .unset, .unset, .unset, .unset, .unset, .unset, .unset, .unset, .unset] [(.double v150), (.double ev)]))
      refine g_dload hG X5 hx (hb hby at_151) (pc' := 153) rfl rfl ?_
      show G (T5.setTop (mkF m 153 #[.val (.long aa), .second, .val (.long bi), .second, .val (.int dd), .val (.int fr), .val (.double v10), .second, .val (.double v26), .second, .val (.int nr), .val (.long bb), .second, .val (.int ek), .val (.ref sb), .val (.double ev), .second, .val (.double cc), .second, .unset, .unset, .unset, .unset, .unset, .unset, .unset, .unset, .unset, .unset, .unset, .unset] [(.double cc), (.double v150), (.double ev)]))
      obtain ⟨v153, q153⟩ : ∃ z : UInt64, FP.dadd v150 cc = z := ⟨_, rfl⟩
      have rd := rng32 dd
      have f1 : (-2147483648 : Rat) ≤ (dd.toInt : Rat) := by have := Rat.intCast_le_intCast.mpr rd.1; simpa using this
      have f2 : (dd.toInt : Rat) ≤ 2147483648 := by have := Rat.intCast_le_intCast.mpr (Int.le_of_lt rd.2); simpa using this
      have D153 := OwnFl.dadd_DV (OwnFl.i2d_DV dd) Dcc (by grind) (by grind)
      rw [q150, q153] at D153
      have hS : S = (dd.toInt : Rat) := by rw [hex (by omega), hd]
      refine g_dadd hG X5 hx (hb hby at_153) (pc' := 154) rfl (by rw [q153]; exact D153.noNaN) q153 ?_
      show G (T5.setTop (mkF m 154 #[.val (.long aa), .second, .val (.long bi), .second, .val (.int dd), .val (.int fr), .val (.double v10), .second, .val (.double v26), .second, .val (.int nr), .val (.long bb), .second, .val (.int ek), .val (.ref sb), .val (.double ev), .second, .val (.double cc), .second, .unset, .unset, .unset, .unset, .unset, .unset, .unset, .unset, .unset, .unset, .unset, .unset] [(.double v153), (.double ev)]))
      obtain ⟨v154, q154⟩ : ∃ z : Int32, cmpValue (FP.dcmp ev v153) .l = z := ⟨_, rfl⟩
      refine g_dcmp hG X5 hx (hb hby at_154) (pc' := 155) rfl q154 ?_
      show G (T5.setTop (mkF m 155 #[.val (.long aa), .second, .val (.long bi), .second, .val (.int dd), .val (.int fr), .val (.double v10), .second, .val (.double v26), .second, .val (.int nr), .val (.long bb), .second, .val (.int ek), .val (.ref sb), .val (.double ev), .second, .val (.double cc), .second, .unset, .unset, .unset, .unset, .unset, .unset, .unset, .unset, .unset, .unset, .unset, .unset] [(.int v154)]))
      refine g_ifYes hG X5 hx (hb hby at_155) (pc' := 160) (by rw [← q154, OwnFl.dcmp_eq Dev D153 (by rw [hS])]; rfl) (by decide) (by decide) ?_
      show G (T5.setTop (mkF m 160 #[.val (.long aa), .second, .val (.long bi), .second, .val (.int dd), .val (.int fr), .val (.double v10), .second, .val (.double v26), .second, .val (.int nr), .val (.long bb), .second, .val (.int ek), .val (.ref sb), .val (.double ev), .second, .val (.double cc), .second, .unset, .unset, .unset, .unset, .unset, .unset, .unset, .unset, .unset, .unset, .unset, .unset] []))
      exact c160 ()
  by_cases hc36 : v35 = (0 : Int32)
  · refine g_ifNo hG X0 hx (hb hby at_36) (pc' := 39) ((if0 _ _).trans (teq hc36).2) rfl ?_
    refine g_iconst hG X0 hx (hb hby at_39) (pc' := 40) rfl (v := (1 : Int32)) rfl ?_
    show G (s₁.setTop (mkF m 40 #[.val (.long aa), .second, .val (.long bi), .second, .val (.int dd), .val (.int fr), .val (.double v10), .second, .val (.double v26), .second, .unset, .unset, .unset, .unset, .unset, .unset, .unset, .unset, .unset, .unset, .unset, .unset, .unset, .unset, .unset, .unset, .unset, .unset, .unset, .unset, .unset] [(.int 1)]))
    refine g_goto hG X0 hx (hb hby at_40) (pc' := 44) (by decide) (by decide) ?_
    show G (s₁.setTop (mkF m 44 #[.val (.long aa), .second, .val (.long bi), .second, .val (.int dd), .val (.int fr), .val (.double v10), .second, .val (.double v26), .second, .unset, .unset, .unset, .unset, .unset, .unset, .unset, .unset, .unset, .unset, .unset, .unset, .unset, .unset, .unset, .unset, .unset, .unset, .unset, .unset, .unset] [(.int 1)]))
    refine g_istore hG X0 hx (hb hby at_44) (pc' := 46) rfl (Ls' := #[.val (.long aa), .second, .val (.long bi), .second, .val (.int dd), .val (.int fr), .val (.double v10), .second, .val (.double v26), .second, .val (.int 1), .unset, .unset, .unset, .unset, .unset, .unset, .unset, .unset, .unset, .unset, .unset, .unset, .unset, .unset, .unset, .unset, .unset, .unset, .unset, .unset]) rfl ?_
    show G (s₁.setTop (mkF m 46 #[.val (.long aa), .second, .val (.long bi), .second, .val (.int dd), .val (.int fr), .val (.double v10), .second, .val (.double v26), .second, .val (.int 1), .unset, .unset, .unset, .unset, .unset, .unset, .unset, .unset, .unset, .unset, .unset, .unset, .unset, .unset, .unset, .unset, .unset, .unset, .unset, .unset] []))
    refine g_iload hG X0 hx (hb hby at_46) (pc' := 48) rfl rfl ?_
    show G (s₁.setTop (mkF m 48 #[.val (.long aa), .second, .val (.long bi), .second, .val (.int dd), .val (.int fr), .val (.double v10), .second, .val (.double v26), .second, .val (.int 1), .unset, .unset, .unset, .unset, .unset, .unset, .unset, .unset, .unset, .unset, .unset, .unset, .unset, .unset, .unset, .unset, .unset, .unset, .unset, .unset] [(.int 1)]))
    refine g_ifNo hG X0 hx (hb hby at_48) (pc' := 51) (by decide) rfl ?_
    show G (s₁.setTop (mkF m 51 #[.val (.long aa), .second, .val (.long bi), .second, .val (.int dd), .val (.int fr), .val (.double v10), .second, .val (.double v26), .second, .val (.int 1), .unset, .unset, .unset, .unset, .unset, .unset, .unset, .unset, .unset, .unset, .unset, .unset, .unset, .unset, .unset, .unset, .unset, .unset, .unset, .unset] []))
    refine g_lloadN hG X0 hx (hb hby at_51) (pc' := 52) rfl rfl ?_
    show G (s₁.setTop (mkF m 52 #[.val (.long aa), .second, .val (.long bi), .second, .val (.int dd), .val (.int fr), .val (.double v10), .second, .val (.double v26), .second, .val (.int 1), .unset, .unset, .unset, .unset, .unset, .unset, .unset, .unset, .unset, .unset, .unset, .unset, .unset, .unset, .unset, .unset, .unset, .unset, .unset, .unset] [(.long aa)]))
    refine g_iload hG X0 hx (hb hby at_52) (pc' := 54) rfl rfl ?_
    show G (s₁.setTop (mkF m 54 #[.val (.long aa), .second, .val (.long bi), .second, .val (.int dd), .val (.int fr), .val (.double v10), .second, .val (.double v26), .second, .val (.int 1), .unset, .unset, .unset, .unset, .unset, .unset, .unset, .unset, .unset, .unset, .unset, .unset, .unset, .unset, .unset, .unset, .unset, .unset, .unset, .unset] [(.int dd), (.long aa)]))
    obtain ⟨v54, q54⟩ : ∃ z : Int64, dd.toInt64 = z := ⟨_, rfl⟩
    refine g_i2l hG X0 hx (hb hby at_54) (pc' := 55) rfl q54 ?_
    show G (s₁.setTop (mkF m 55 #[.val (.long aa), .second, .val (.long bi), .second, .val (.int dd), .val (.int fr), .val (.double v10), .second, .val (.double v26), .second, .val (.int 1), .unset, .unset, .unset, .unset, .unset, .unset, .unset, .unset, .unset, .unset, .unset, .unset, .unset, .unset, .unset, .unset, .unset, .unset, .unset, .unset] [(.long v54), (.long aa)]))
    obtain ⟨v55, q55⟩ : ∃ z : Int64, aa - v54 = z := ⟨_, rfl⟩
    refine g_lsub hG X0 hx (hb hby at_55) (pc' := 56) rfl q55 ?_
    show G (s₁.setTop (mkF m 56 #[.val (.long aa), .second, .val (.long bi), .second, .val (.int dd), .val (.int fr), .val (.double v10), .second, .val (.double v26), .second, .val (.int 1), .unset, .unset, .unset, .unset, .unset, .unset, .unset, .unset, .unset, .unset, .unset, .unset, .unset, .unset, .unset, .unset, .unset, .unset, .unset, .unset] [(.long v55)]))
    refine g_goto hG X0 hx (hb hby at_56) (pc' := 60) (by decide) (by decide) ?_
    show G (s₁.setTop (mkF m 60 #[.val (.long aa), .second, .val (.long bi), .second, .val (.int dd), .val (.int fr), .val (.double v10), .second, .val (.double v26), .second, .val (.int 1), .unset, .unset, .unset, .unset, .unset, .unset, .unset, .unset, .unset, .unset, .unset, .unset, .unset, .unset, .unset, .unset, .unset, .unset, .unset, .unset] [(.long v55)]))
    refine g_lstore hG X0 hx (hb hby at_60) (pc' := 62) rfl (Ls' := #[.val (.long aa), .second, .val (.long bi), .second, .val (.int dd), .val (.int fr), .val (.double v10), .second, .val (.double v26), .second, .val (.int 1), .val (.long v55), .second, .unset, .unset, .unset, .unset, .unset, .unset, .unset, .unset, .unset, .unset, .unset, .unset, .unset, .unset, .unset, .unset, .unset, .unset]) rfl ?_
    show G (s₁.setTop (mkF m 62 #[.val (.long aa), .second, .val (.long bi), .second, .val (.int dd), .val (.int fr), .val (.double v10), .second, .val (.double v26), .second, .val (.int 1), .val (.long v55), .second, .unset, .unset, .unset, .unset, .unset, .unset, .unset, .unset, .unset, .unset, .unset, .unset, .unset, .unset, .unset, .unset, .unset, .unset] []))
    refine g_iload hG X0 hx (hb hby at_62) (pc' := 64) rfl rfl ?_
    show G (s₁.setTop (mkF m 64 #[.val (.long aa), .second, .val (.long bi), .second, .val (.int dd), .val (.int fr), .val (.double v10), .second, .val (.double v26), .second, .val (.int 1), .val (.long v55), .second, .unset, .unset, .unset, .unset, .unset, .unset, .unset, .unset, .unset, .unset, .unset, .unset, .unset, .unset, .unset, .unset, .unset, .unset] [(.int 1)]))
    refine g_ifNo hG X0 hx (hb hby at_64) (pc' := 67) (by decide) rfl ?_
    show G (s₁.setTop (mkF m 67 #[.val (.long aa), .second, .val (.long bi), .second, .val (.int dd), .val (.int fr), .val (.double v10), .second, .val (.double v26), .second, .val (.int 1), .val (.long v55), .second, .unset, .unset, .unset, .unset, .unset, .unset, .unset, .unset, .unset, .unset, .unset, .unset, .unset, .unset, .unset, .unset, .unset, .unset] []))
    refine g_iload hG X0 hx (hb hby at_67) (pc' := 69) rfl rfl ?_
    show G (s₁.setTop (mkF m 69 #[.val (.long aa), .second, .val (.long bi), .second, .val (.int dd), .val (.int fr), .val (.double v10), .second, .val (.double v26), .second, .val (.int 1), .val (.long v55), .second, .unset, .unset, .unset, .unset, .unset, .unset, .unset, .unset, .unset, .unset, .unset, .unset, .unset, .unset, .unset, .unset, .unset, .unset] [(.int dd)]))
    by_cases hc69 : (0 : Int32) < dd
    · refine g_ifNo hG X0 hx (hb hby at_69) (pc' := 72) ((if0 _ _).trans (tlt hc69).2.2.2) rfl ?_
      refine g_lload hG X0 hx (hb hby at_72) (pc' := 74) rfl rfl ?_
      show G (s₁.setTop (mkF m 74 #[.val (.long aa), .second, .val (.long bi), .second, .val (.int dd), .val (.int fr), .val (.double v10), .second, .val (.double v26), .second, .val (.int 1), .val (.long v55), .second, .unset, .unset, .unset, .unset, .unset, .unset, .unset, .unset, .unset, .unset, .unset, .unset, .unset, .unset, .unset, .unset, .unset, .unset] [(.long v55)]))
      refine g_lloadN hG X0 hx (hb hby at_74) (pc' := 75) rfl rfl ?_
      show G (s₁.setTop (mkF m 75 #[.val (.long aa), .second, .val (.long bi), .second, .val (.int dd), .val (.int fr), .val (.double v10), .second, .val (.double v26), .second, .val (.int 1), .val (.long v55), .second, .unset, .unset, .unset, .unset, .unset, .unset, .unset, .unset, .unset, .unset, .unset, .unset, .unset, .unset, .unset, .unset, .unset, .unset] [(.long aa), (.long v55)]))
      obtain ⟨v75, q75⟩ : ∃ z : Int32, lcmpW v55 aa = z := ⟨_, rfl⟩
      refine g_lcmp hG X0 hx (hb hby at_75) (pc' := 76) rfl q75 ?_
      show G (s₁.setTop (mkF m 76 #[.val (.long aa), .second, .val (.long bi), .second, .val (.int dd), .val (.int fr), .val (.double v10), .second, .val (.double v26), .second, .val (.int 1), .val (.long v55), .second, .unset, .unset, .unset, .unset, .unset, .unset, .unset, .unset, .unset, .unset, .unset, .unset, .unset, .unset, .unset, .unset, .unset, .unset] [(.int v75)]))
      by_cases hc76 : (0 : Int32) < v75
      · refine g_ifYes hG X0 hx (hb hby at_76) (pc' := 95) ((if0 _ _).trans (tlt hc76).2.2.1) (by decide) (by decide) ?_
        refine g_iconst hG X0 hx (hb hby at_95) (pc' := 96) rfl (v := (0 : Int32)) rfl ?_
        show G (s₁.setTop (mkF m 96 #[.val (.long aa), .second, .val (.long bi), .second, .val (.int dd), .val (.int fr), .val (.double v10), .second, .val (.double v26), .second, .val (.int 1), .val (.long v55), .second, .unset, .unset, .unset, .unset, .unset, .unset, .unset, .unset, .unset, .unset, .unset, .unset, .unset, .unset, .unset, .unset, .unset, .unset] [(.int 0)]))
        refine g_istore hG X0 hx (hb hby at_96) (pc' := 98) rfl (Ls' := #[.val (.long aa), .second, .val (.long bi), .second, .val (.int dd), .val (.int fr), .val (.double v10), .second, .val (.double v26), .second, .val (.int 1), .val (.long v55), .second, .val (.int 0), .unset, .unset, .unset, .unset, .unset, .unset, .unset, .unset, .unset, .unset, .unset, .unset, .unset, .unset, .unset, .unset, .unset]) rfl ?_
        show G (s₁.setTop (mkF m 98 #[.val (.long aa), .second, .val (.long bi), .second, .val (.int dd), .val (.int fr), .val (.double v10), .second, .val (.double v26), .second, .val (.int 1), .val (.long v55), .second, .val (.int 0), .unset, .unset, .unset, .unset, .unset, .unset, .unset, .unset, .unset, .unset, .unset, .unset, .unset, .unset, .unset, .unset, .unset] []))
        exact cont (1 : Int32) v55 (0 : Int32) (Or.inl rfl)
      · refine g_ifNo hG X0 hx (hb hby at_76) (pc' := 79) ((if0 _ _).trans (flt hc76).2.2.1) rfl ?_
        refine g_iload hG X0 hx (hb hby at_79) (pc' := 81) rfl rfl ?_
        show G (s₁.setTop (mkF m 81 #[.val (.long aa), .second, .val (.long bi), .second, .val (.int dd), .val (.int fr), .val (.double v10), .second, .val (.double v26), .second, .val (.int 1), .val (.long v55), .second, .unset, .unset, .unset, .unset, .unset, .unset, .unset, .unset, .unset, .unset, .unset, .unset, .unset, .unset, .unset, .unset, .unset, .unset] [(.int dd)]))
        by_cases hc81 : dd < (0 : Int32)
        · refine g_ifNo hG X0 hx (hb hby at_81) (pc' := 84) ((if0 _ _).trans (tlt hc81).2.1) rfl ?_
          refine g_lload hG X0 hx (hb hby at_84) (pc' := 86) rfl rfl ?_
          show G (s₁.setTop (mkF m 86 #[.val (.long aa), .second, .val (.long bi), .second, .val (.int dd), .val (.int fr), .val (.double v10), .second, .val (.double v26), .second, .val (.int 1), .val (.long v55), .second, .unset, .unset, .unset, .unset, .unset, .unset, .unset, .unset, .unset, .unset, .unset, .unset, .unset, .unset, .unset, .unset, .unset, .unset] [(.long v55)]))
          refine g_lloadN hG X0 hx (hb hby at_86) (pc' := 87) rfl rfl ?_
          show G (s₁.setTop (mkF m 87 #[.val (.long aa), .second, .val (.long bi), .second, .val (.int dd), .val (.int fr), .val (.double v10), .second, .val (.double v26), .second, .val (.int 1), .val (.long v55), .second, .unset, .unset, .unset, .unset, .unset, .unset, .unset, .unset, .unset, .unset, .unset, .unset, .unset, .unset, .unset, .unset, .unset, .unset] [(.long aa), (.long v55)]))
          obtain ⟨v87, q87⟩ : ∃ z : Int32, lcmpW v55 aa = z := ⟨_, rfl⟩
          refine g_lcmp hG X0 hx (hb hby at_87) (pc' := 88) rfl q87 ?_
          show G (s₁.setTop (mkF m 88 #[.val (.long aa), .second, .val (.long bi), .second, .val (.int dd), .val (.int fr), .val (.double v10), .second, .val (.double v26), .second, .val (.int 1), .val (.long v55), .second, .unset, .unset, .unset, .unset, .unset, .unset, .unset, .unset, .unset, .unset, .unset, .unset, .unset, .unset, .unset, .unset, .unset, .unset] [(.int v87)]))
          by_cases hc88 : v87 < (0 : Int32)
          · refine g_ifYes hG X0 hx (hb hby at_88) (pc' := 95) ((if0 _ _).trans (tlt hc88).1) (by decide) (by decide) ?_
            refine g_iconst hG X0 hx (hb hby at_95) (pc' := 96) rfl (v := (0 : Int32)) rfl ?_
            show G (s₁.setTop (mkF m 96 #[.val (.long aa), .second, .val (.long bi), .second, .val (.int dd), .val (.int fr), .val (.double v10), .second, .val (.double v26), .second, .val (.int 1), .val (.long v55), .second, .unset, .unset, .unset, .unset, .unset, .unset, .unset, .unset, .unset, .unset, .unset, .unset, .unset, .unset, .unset, .unset, .unset, .unset] [(.int 0)]))
            refine g_istore hG X0 hx (hb hby at_96) (pc' := 98) rfl (Ls' := #[.val (.long aa), .second, .val (.long bi), .second, .val (.int dd), .val (.int fr), .val (.double v10), .second, .val (.double v26), .second, .val (.int 1), .val (.long v55), .second, .val (.int 0), .unset, .unset, .unset, .unset, .unset, .unset, .unset, .unset, .unset, .unset, .unset, .unset, .unset, .unset, .unset, .unset, .unset]) rfl ?_
            show G (s₁.setTop (mkF m 98 #[.val (.long aa), .second, .val (.long bi), .second, .val (.int dd), .val (.int fr), .val (.double v10), .second, .val (.double v26), .second, .val (.int 1), .val (.long v55), .second, .val (.int 0), .unset, .unset, .unset, .unset, .unset, .unset, .unset, .unset, .unset, .unset, .unset, .unset, .unset, .unset, .unset, .unset, .unset] []))
            exact cont (1 : Int32) v55 (0 : Int32) (Or.inl rfl)
          · refine g_ifNo hG X0 hx (hb hby at_88) (pc' := 91) ((if0 _ _).trans (flt hc88).1) rfl ?_
            refine g_iconst hG X0 hx (hb hby at_91) (pc' := 92) rfl (v := (1 : Int32)) rfl ?_
            show G (s₁.setTop (mkF m 92 #[.val (.long aa), .second, .val (.long bi), .second, .val (.int dd), .val (.int fr), .val (.double v10), .second, .val (.double v26), .second, .val (.int 1), .val (.long v55), .second, .unset, .unset, .unset, .unset, .unset, .unset, .unset, .unset, .unset, .unset, .unset, .unset, .unset, .unset, .unset, .unset, .unset, .unset] [(.int 1)]))
            refine g_goto hG X0 hx (hb hby at_92) (pc' := 96) (by decide) (by decide) ?_
            show G (s₁.setTop (mkF m 96 #[.val (.long aa), .second, .val (.long bi), .second, .val (.int dd), .val (.int fr), .val (.double v10), .second, .val (.double v26), .second, .val (.int 1), .val (.long v55), .second, .unset, .unset, .unset, .unset, .unset, .unset, .unset, .unset, .unset, .unset, .unset, .unset, .unset, .unset, .unset, .unset, .unset, .unset] [(.int 1)]))
            refine g_istore hG X0 hx (hb hby at_96) (pc' := 98) rfl (Ls' := #[.val (.long aa), .second, .val (.long bi), .second, .val (.int dd), .val (.int fr), .val (.double v10), .second, .val (.double v26), .second, .val (.int 1), .val (.long v55), .second, .val (.int 1), .unset, .unset, .unset, .unset, .unset, .unset, .unset, .unset, .unset, .unset, .unset, .unset, .unset, .unset, .unset, .unset, .unset]) rfl ?_
            show G (s₁.setTop (mkF m 98 #[.val (.long aa), .second, .val (.long bi), .second, .val (.int dd), .val (.int fr), .val (.double v10), .second, .val (.double v26), .second, .val (.int 1), .val (.long v55), .second, .val (.int 1), .unset, .unset, .unset, .unset, .unset, .unset, .unset, .unset, .unset, .unset, .unset, .unset, .unset, .unset, .unset, .unset, .unset] []))
            exact cont (1 : Int32) v55 (1 : Int32) (Or.inr ⟨rfl, by
                            have a1 := c_lsub aa v54
                            rw [q55] at a1
                            have a2 : v54.toInt = dd.toInt := by rw [← q54]; exact c_i2l dd
                            have a3 := rng64 v55
                            have a4 := rng64 aa
                            have a5 := rng32 dd
                            have z : (0 : Int32).toInt = 0 := by decide
                            rw [Int32.lt_iff_toInt_lt, z] at hc69 hc81
                            have k76 : ¬ aa.toInt < v55.toInt := fun g => hc76 (by rw [← q75]; exact (lw_gt _ _).mpr (Int64.lt_iff_toInt_lt.mpr g))
                            have k88 : ¬ v55.toInt < aa.toInt := fun g => hc88 (by rw [← q87]; exact (lw_lt _ _).mpr (Int64.lt_iff_toInt_lt.mpr g))
                            omega⟩)
        · refine g_ifYes hG X0 hx (hb hby at_81) (pc' := 91) ((if0 _ _).trans (flt hc81).2.1) (by decide) (by decide) ?_
          refine g_iconst hG X0 hx (hb hby at_91) (pc' := 92) rfl (v := (1 : Int32)) rfl ?_
          show G (s₁.setTop (mkF m 92 #[.val (.long aa), .second, .val (.long bi), .second, .val (.int dd), .val (.int fr), .val (.double v10), .second, .val (.double v26), .second, .val (.int 1), .val (.long v55), .second, .unset, .unset, .unset, .unset, .unset, .unset, .unset, .unset, .unset, .unset, .unset, .unset, .unset, .unset, .unset, .unset, .unset, .unset] [(.int 1)]))
          refine g_goto hG X0 hx (hb hby at_92) (pc' := 96) (by decide) (by decide) ?_
          show G (s₁.setTop (mkF m 96 #[.val (.long aa), .second, .val (.long bi), .second, .val (.int dd), .val (.int fr), .val (.double v10), .second, .val (.double v26), .second, .val (.int 1), .val (.long v55), .second, .unset, .unset, .unset, .unset, .unset, .unset, .unset, .unset, .unset, .unset, .unset, .unset, .unset, .unset, .unset, .unset, .unset, .unset] [(.int 1)]))
          refine g_istore hG X0 hx (hb hby at_96) (pc' := 98) rfl (Ls' := #[.val (.long aa), .second, .val (.long bi), .second, .val (.int dd), .val (.int fr), .val (.double v10), .second, .val (.double v26), .second, .val (.int 1), .val (.long v55), .second, .val (.int 1), .unset, .unset, .unset, .unset, .unset, .unset, .unset, .unset, .unset, .unset, .unset, .unset, .unset, .unset, .unset, .unset, .unset]) rfl ?_
          show G (s₁.setTop (mkF m 98 #[.val (.long aa), .second, .val (.long bi), .second, .val (.int dd), .val (.int fr), .val (.double v10), .second, .val (.double v26), .second, .val (.int 1), .val (.long v55), .second, .val (.int 1), .unset, .unset, .unset, .unset, .unset, .unset, .unset, .unset, .unset, .unset, .unset, .unset, .unset, .unset, .unset, .unset, .unset] []))
          exact cont (1 : Int32) v55 (1 : Int32) (Or.inr ⟨rfl, by
                        have a1 := c_lsub aa v54
                        rw [q55] at a1
                        have a2 : v54.toInt = dd.toInt := by rw [← q54]; exact c_i2l dd
                        have a3 := rng64 v55
                        have a4 := rng64 aa
                        have a5 := rng32 dd
                        have z : (0 : Int32).toInt = 0 := by decide
                        rw [Int32.lt_iff_toInt_lt, z] at hc69 hc81
                        have k76 : ¬ aa.toInt < v55.toInt := fun g => hc76 (by rw [← q75]; exact (lw_gt _ _).mpr (Int64.lt_iff_toInt_lt.mpr g))
                        omega⟩)
    · refine g_ifYes hG X0 hx (hb hby at_69) (pc' := 79) ((if0 _ _).trans (flt hc69).2.2.2) (by decide) (by decide) ?_
      refine g_iload hG X0 hx (hb hby at_79) (pc' := 81) rfl rfl ?_
      show G (s₁.setTop (mkF m 81 #[.val (.long aa), .second, .val (.long bi), .second, .val (.int dd), .val (.int fr), .val (.double v10), .second, .val (.double v26), .second, .val (.int 1), .val (.long v55), .second, .unset, .unset, .unset, .unset, .unset, .unset, .unset, .unset, .unset, .unset, .unset, .unset, .unset, .unset, .unset, .unset, .unset, .unset] [(.int dd)]))
      by_cases hc81 : dd < (0 : Int32)
      · refine g_ifNo hG X0 hx (hb hby at_81) (pc' := 84) ((if0 _ _).trans (tlt hc81).2.1) rfl ?_
        refine g_lload hG X0 hx (hb hby at_84) (pc' := 86) rfl rfl ?_
        show G (s₁.setTop (mkF m 86 #[.val (.long aa), .second, .val (.long bi), .second, .val (.int dd), .val (.int fr), .val (.double v10), .second, .val (.double v26), .second, .val (.int 1), .val (.long v55), .second, .unset, .unset, .unset, .unset, .unset, .unset, .unset, .unset, .unset, .unset, .unset, .unset, .unset, .unset, .unset, .unset, .unset, .unset] [(.long v55)]))
        refine g_lloadN hG X0 hx (hb hby at_86) (pc' := 87) rfl rfl ?_
        show G (s₁.setTop (mkF m 87 #[.val (.long aa), .second, .val (.long bi), .second, .val (.int dd), .val (.int fr), .val (.double v10), .second, .val (.double v26), .second, .val (.int 1), .val (.long v55), .second, .unset, .unset, .unset, .unset, .unset, .unset, .unset, .unset, .unset, .unset, .unset, .unset, .unset, .unset, .unset, .unset, .unset, .unset] [(.long aa), (.long v55)]))
        obtain ⟨v87, q87⟩ : ∃ z : Int32, lcmpW v55 aa = z := ⟨_, rfl⟩
        refine g_lcmp hG X0 hx (hb hby at_87) (pc' := 88) rfl q87 ?_
        show G (s₁.setTop (mkF m 88 #[.val (.long aa), .second, .val (.long bi), .second, .val (.int dd), .val (.int fr), .val (.double v10), .second, .val (.double v26), .second, .val (.int 1), .val (.long v55), .second, .unset, .unset, .unset, .unset, .unset, .unset, .unset, .unset, .unset, .unset, .unset, .unset, .unset, .unset, .unset, .unset, .unset, .unset] [(.int v87)]))
        by_cases hc88 : v87 < (0 : Int32)
        · refine g_ifYes hG X0 hx (hb hby at_88) (pc' := 95) ((if0 _ _).trans (tlt hc88).1) (by decide) (by decide) ?_
          refine g_iconst hG X0 hx (hb hby at_95) (pc' := 96) rfl (v := (0 : Int32)) rfl ?_
          show G (s₁.setTop (mkF m 96 #[.val (.long aa), .second, .val (.long bi), .second, .val (.int dd), .val (.int fr), .val (.double v10), .second, .val (.double v26), .second, .val (.int 1), .val (.long v55), .second, .unset, .unset, .unset, .unset, .unset, .unset, .unset, .unset, .unset, .unset, .unset, .unset, .unset, .unset, .unset, .unset, .unset, .unset] [(.int 0)]))
          refine g_istore hG X0 hx (hb hby at_96) (pc' := 98) rfl (Ls' := #[.val (.long aa), .second, .val (.long bi), .second, .val (.int dd), .val (.int fr), .val (.double v10), .second, .val (.double v26), .second, .val (.int 1), .val (.long v55), .second, .val (.int 0), .unset, .unset, .unset, .unset, .unset, .unset, .unset, .unset, .unset, .unset, .unset, .unset, .unset, .unset, .unset, .unset, .unset]) rfl ?_
          show G (s₁.setTop (mkF m 98 #[.val (.long aa), .second, .val (.long bi), .second, .val (.int dd), .val (.int fr), .val (.double v10), .second, .val (.double v26), .second, .val (.int 1), .val (.long v55), .second, .val (.int 0), .unset, .unset, .unset, .unset, .unset, .unset, .unset, .unset, .unset, .unset, .unset, .unset, .unset, .unset, .unset, .unset, .unset] []))
          exact cont (1 : Int32) v55 (0 : Int32) (Or.inl rfl)
        · refine g_ifNo hG X0 hx (hb hby at_88) (pc' := 91) ((if0 _ _).trans (flt hc88).1) rfl ?_
          refine g_iconst hG X0 hx (hb hby at_91) (pc' := 92) rfl (v := (1 : Int32)) rfl ?_
          show G (s₁.setTop (mkF m 92 #[.val (.long aa), .second, .val (.long bi), .second, .val (.int dd), .val (.int fr), .val (.double v10), .second, .val (.double v26), .second, .val (.int 1), .val (.long v55), .second, .unset, .unset, .unset, .unset, .unset, .unset, .unset, .unset, .unset, .unset, .unset, .unset, .unset, .unset, .unset, .unset, .unset, .unset] [(.int 1)]))
          refine g_goto hG X0 hx (hb hby at_92) (pc' := 96) (by decide) (by decide) ?_
          show G (s₁.setTop (mkF m 96 #[.val (.long aa), .second, .val (.long bi), .second, .val (.int dd), .val (.int fr), .val (.double v10), .second, .val (.double v26), .second, .val (.int 1), .val (.long v55), .second, .unset, .unset, .unset, .unset, .unset, .unset, .unset, .unset, .unset, .unset, .unset, .unset, .unset, .unset, .unset, .unset, .unset, .unset] [(.int 1)]))
          refine g_istore hG X0 hx (hb hby at_96) (pc' := 98) rfl (Ls' := #[.val (.long aa), .second, .val (.long bi), .second, .val (.int dd), .val (.int fr), .val (.double v10), .second, .val (.double v26), .second, .val (.int 1), .val (.long v55), .second, .val (.int 1), .unset, .unset, .unset, .unset, .unset, .unset, .unset, .unset, .unset, .unset, .unset, .unset, .unset, .unset, .unset, .unset, .unset]) rfl ?_
          show G (s₁.setTop (mkF m 98 #[.val (.long aa), .second, .val (.long bi), .second, .val (.int dd), .val (.int fr), .val (.double v10), .second, .val (.double v26), .second, .val (.int 1), .val (.long v55), .second, .val (.int 1), .unset, .unset, .unset, .unset, .unset, .unset, .unset, .unset, .unset, .unset, .unset, .unset, .unset, .unset, .unset, .unset, .unset] []))
          exact cont (1 : Int32) v55 (1 : Int32) (Or.inr ⟨rfl, by
                        have a1 := c_lsub aa v54
                        rw [q55] at a1
                        have a2 : v54.toInt = dd.toInt := by rw [← q54]; exact c_i2l dd
                        have a3 := rng64 v55
                        have a4 := rng64 aa
                        have a5 := rng32 dd
                        have z : (0 : Int32).toInt = 0 := by decide
                        rw [Int32.lt_iff_toInt_lt, z] at hc69 hc81
                        have k88 : ¬ v55.toInt < aa.toInt := fun g => hc88 (by rw [← q87]; exact (lw_lt _ _).mpr (Int64.lt_iff_toInt_lt.mpr g))
                        omega⟩)
      · refine g_ifYes hG X0 hx (hb hby at_81) (pc' := 91) ((if0 _ _).trans (flt hc81).2.1) (by decide) (by decide) ?_
        refine g_iconst hG X0 hx (hb hby at_91) (pc' := 92) rfl (v := (1 : Int32)) rfl ?_
        show G (s₁.setTop (mkF m 92 #[.val (.long aa), .second, .val (.long bi), .second, .val (.int dd), .val (.int fr), .val (.double v10), .second, .val (.double v26), .second, .val (.int 1), .val (.long v55), .second, .unset, .unset, .unset, .unset, .unset, .unset, .unset, .unset, .unset, .unset, .unset, .unset, .unset, .unset, .unset, .unset, .unset, .unset] [(.int 1)]))
        refine g_goto hG X0 hx (hb hby at_92) (pc' := 96) (by decide) (by decide) ?_
        show G (s₁.setTop (mkF m 96 #[.val (.long aa), .second, .val (.long bi), .second, .val (.int dd), .val (.int fr), .val (.double v10), .second, .val (.double v26), .second, .val (.int 1), .val (.long v55), .second, .unset, .unset, .unset, .unset, .unset, .unset, .unset, .unset, .unset, .unset, .unset, .unset, .unset, .unset, .unset, .unset, .unset, .unset] [(.int 1)]))
        refine g_istore hG X0 hx (hb hby at_96) (pc' := 98) rfl (Ls' := #[.val (.long aa), .second, .val (.long bi), .second, .val (.int dd), .val (.int fr), .val (.double v10), .second, .val (.double v26), .second, .val (.int 1), .val (.long v55), .second, .val (.int 1), .unset, .unset, .unset, .unset, .unset, .unset, .unset, .unset, .unset, .unset, .unset, .unset, .unset, .unset, .unset, .unset, .unset]) rfl ?_
        show G (s₁.setTop (mkF m 98 #[.val (.long aa), .second, .val (.long bi), .second, .val (.int dd), .val (.int fr), .val (.double v10), .second, .val (.double v26), .second, .val (.int 1), .val (.long v55), .second, .val (.int 1), .unset, .unset, .unset, .unset, .unset, .unset, .unset, .unset, .unset, .unset, .unset, .unset, .unset, .unset, .unset, .unset, .unset] []))
        exact cont (1 : Int32) v55 (1 : Int32) (Or.inr ⟨rfl, by
                    have a1 := c_lsub aa v54
                    rw [q55] at a1
                    have a2 : v54.toInt = dd.toInt := by rw [← q54]; exact c_i2l dd
                    have a3 := rng64 v55
                    have a4 := rng64 aa
                    have a5 := rng32 dd
                    have z : (0 : Int32).toInt = 0 := by decide
                    rw [Int32.lt_iff_toInt_lt, z] at hc69 hc81
                    omega⟩)
  · refine g_ifYes hG X0 hx (hb hby at_36) (pc' := 43) ((if0 _ _).trans (feq hc36).2) (by decide) (by decide) ?_
    refine g_iconst hG X0 hx (hb hby at_43) (pc' := 44) rfl (v := (0 : Int32)) rfl ?_
    show G (s₁.setTop (mkF m 44 #[.val (.long aa), .second, .val (.long bi), .second, .val (.int dd), .val (.int fr), .val (.double v10), .second, .val (.double v26), .second, .unset, .unset, .unset, .unset, .unset, .unset, .unset, .unset, .unset, .unset, .unset, .unset, .unset, .unset, .unset, .unset, .unset, .unset, .unset, .unset, .unset] [(.int 0)]))
    refine g_istore hG X0 hx (hb hby at_44) (pc' := 46) rfl (Ls' := #[.val (.long aa), .second, .val (.long bi), .second, .val (.int dd), .val (.int fr), .val (.double v10), .second, .val (.double v26), .second, .val (.int 0), .unset, .unset, .unset, .unset, .unset, .unset, .unset, .unset, .unset, .unset, .unset, .unset, .unset, .unset, .unset, .unset, .unset, .unset, .unset, .unset]) rfl ?_
    show G (s₁.setTop (mkF m 46 #[.val (.long aa), .second, .val (.long bi), .second, .val (.int dd), .val (.int fr), .val (.double v10), .second, .val (.double v26), .second, .val (.int 0), .unset, .unset, .unset, .unset, .unset, .unset, .unset, .unset, .unset, .unset, .unset, .unset, .unset, .unset, .unset, .unset, .unset, .unset, .unset, .unset] []))
    refine g_iload hG X0 hx (hb hby at_46) (pc' := 48) rfl rfl ?_
    show G (s₁.setTop (mkF m 48 #[.val (.long aa), .second, .val (.long bi), .second, .val (.int dd), .val (.int fr), .val (.double v10), .second, .val (.double v26), .second, .val (.int 0), .unset, .unset, .unset, .unset, .unset, .unset, .unset, .unset, .unset, .unset, .unset, .unset, .unset, .unset, .unset, .unset, .unset, .unset, .unset, .unset] [(.int 0)]))
    refine g_ifYes hG X0 hx (hb hby at_48) (pc' := 59) (by decide) (by decide) (by decide) ?_
    show G (s₁.setTop (mkF m 59 #[.val (.long aa), .second, .val (.long bi), .second, .val (.int dd), .val (.int fr), .val (.double v10), .second, .val (.double v26), .second, .val (.int 0), .unset, .unset, .unset, .unset, .unset, .unset, .unset, .unset, .unset, .unset, .unset, .unset, .unset, .unset, .unset, .unset, .unset, .unset, .unset, .unset] []))
    refine g_lloadN hG X0 hx (hb hby at_59) (pc' := 60) rfl rfl ?_
    show G (s₁.setTop (mkF m 60 #[.val (.long aa), .second, .val (.long bi), .second, .val (.int dd), .val (.int fr), .val (.double v10), .second, .val (.double v26), .second, .val (.int 0), .unset, .unset, .unset, .unset, .unset, .unset, .unset, .unset, .unset, .unset, .unset, .unset, .unset, .unset, .unset, .unset, .unset, .unset, .unset, .unset] [(.long bi)]))
    refine g_lstore hG X0 hx (hb hby at_60) (pc' := 62) rfl (Ls' := #[.val (.long aa), .second, .val (.long bi), .second, .val (.int dd), .val (.int fr), .val (.double v10), .second, .val (.double v26), .second, .val (.int 0), .val (.long bi), .second, .unset, .unset, .unset, .unset, .unset, .unset, .unset, .unset, .unset, .unset, .unset, .unset, .unset, .unset, .unset, .unset, .unset, .unset]) rfl ?_
    show G (s₁.setTop (mkF m 62 #[.val (.long aa), .second, .val (.long bi), .second, .val (.int dd), .val (.int fr), .val (.double v10), .second, .val (.double v26), .second, .val (.int 0), .val (.long bi), .second, .unset, .unset, .unset, .unset, .unset, .unset, .unset, .unset, .unset, .unset, .unset, .unset, .unset, .unset, .unset, .unset, .unset, .unset] []))
    refine g_iload hG X0 hx (hb hby at_62) (pc' := 64) rfl rfl ?_
    show G (s₁.setTop (mkF m 64 #[.val (.long aa), .second, .val (.long bi), .second, .val (.int dd), .val (.int fr), .val (.double v10), .second, .val (.double v26), .second, .val (.int 0), .val (.long bi), .second, .unset, .unset, .unset, .unset, .unset, .unset, .unset, .unset, .unset, .unset, .unset, .unset, .unset, .unset, .unset, .unset, .unset, .unset] [(.int 0)]))
    refine g_ifYes hG X0 hx (hb hby at_64) (pc' := 95) (by decide) (by decide) (by decide) ?_
    show G (s₁.setTop (mkF m 95 #[.val (.long aa), .second, .val (.long bi), .second, .val (.int dd), .val (.int fr), .val (.double v10), .second, .val (.double v26), .second, .val (.int 0), .val (.long bi), .second, .unset, .unset, .unset, .unset, .unset, .unset, .unset, .unset, .unset, .unset, .unset, .unset, .unset, .unset, .unset, .unset, .unset, .unset] []))
    refine g_iconst hG X0 hx (hb hby at_95) (pc' := 96) rfl (v := (0 : Int32)) rfl ?_
    show G (s₁.setTop (mkF m 96 #[.val (.long aa), .second, .val (.long bi), .second, .val (.int dd), .val (.int fr), .val (.double v10), .second, .val (.double v26), .second, .val (.int 0), .val (.long bi), .second, .unset, .unset, .unset, .unset, .unset, .unset, .unset, .unset, .unset, .unset, .unset, .unset, .unset, .unset, .unset, .unset, .unset, .unset] [(.int 0)]))
    refine g_istore hG X0 hx (hb hby at_96) (pc' := 98) rfl (Ls' := #[.val (.long aa), .second, .val (.long bi), .second, .val (.int dd), .val (.int fr), .val (.double v10), .second, .val (.double v26), .second, .val (.int 0), .val (.long bi), .second, .val (.int 0), .unset, .unset, .unset, .unset, .unset, .unset, .unset, .unset, .unset, .unset, .unset, .unset, .unset, .unset, .unset, .unset, .unset]) rfl ?_
    show G (s₁.setTop (mkF m 98 #[.val (.long aa), .second, .val (.long bi), .second, .val (.int dd), .val (.int fr), .val (.double v10), .second, .val (.double v26), .second, .val (.int 0), .val (.long bi), .second, .val (.int 0), .unset, .unset, .unset, .unset, .unset, .unset, .unset, .unset, .unset, .unset, .unset, .unset, .unset, .unset, .unset, .unset, .unset] []))
    exact cont (0 : Int32) bi (0 : Int32) (Or.inl rfl)
set_option maxRecDepth 65536 in
set_option maxHeartbeats 40000000 in
theorem comes_1 {Post : Tables → Env → Array Value → State → Outcome → State → Prop} (hpost : ∀ tb e args s v u, (limb_1_1.after args s (.returned v) u = true ∧ limb_1_2.after args s (.returned v) u = true ∧ True) → FrameEnd s (.returned v) u (Jvm.fieldLocs frame_1_writes args s ++ Jvm.arrayLocs frame_1_arrays args s ++ Jvm.staticLocs frame_1_statics s) 16 128 → Post tb e args s (.returned v) u) :
    ArmFor flags0 classFile x code maxLocals ret World_1 tables_1 room_1 Calls_1 rest_1 Pre_1 Post := by
  intro l hfl _ _ p e ha hc hk s m args below hf hA hF happ hP
  obtain ⟨hcalls, hrest, hpre⟩ := hP
  obtain ⟨-, -, -, hnamed, -, -, -, hat⟩ := (Spec.applies_iff hf).mp happ
  obtain ⟨hg, hn⟩ := and_e (Cond.before_iff.mp (show (Jvm.Cond.and given_1 narrow_1).before args s = true from hpre))
  obtain ⟨hcount, ha_0⟩ := and_e hg
  obtain ⟨hb_0, ha_1⟩ := and_e ha_0
  obtain ⟨hb_1, ha_2⟩ := and_e ha_1
  obtain ⟨hb_2, ha_3⟩ := and_e ha_2
  have hb_3 := ha_3
  obtain ⟨w0, w1, w2, w3, rfl⟩ : ∃ w0 w1 w2 w3 : Value, args = #[w0, w1, w2, w3] := by
    have hs : args.size = 4 := by simpa [Cond.value, given_1] using hcount
    obtain ⟨L⟩ := args
    match L, hs with
    | [w0, w1, w2, w3], _ => exact ⟨w0, w1, w2, w3, rfl⟩
  have hw := fun d (hd : d ∈ tables_1) => atoms_spec (ws := Jvm.Cond.code x code maxLocals ret :: tables_1) hat d (List.mem_cons_of_mem _ hd)
  obtain ⟨i0, ei0⟩ := isL_v hb_0
  obtain rfl : w0 = (.long i0) := Option.some.inj ei0
  obtain ⟨i1, ei1⟩ := isL_v hb_1
  obtain rfl : w1 = (.long i1) := Option.some.inj ei1
  obtain ⟨i2, ei2⟩ := is_v hb_2
  obtain rfl : w2 = (.int i2) := Option.some.inj ei2
  obtain ⟨i3, ei3⟩ := is_v hb_3
  obtain rfl : w3 = (.int i3) := Option.some.inj ei3
  obtain ⟨n, o, h1, h2, h3, _, L, rfl, ⟨rfl, N⟩, hq⟩ := rm0 l s _ hw tables_1 i0 i1 i2 i3 s.heap s.heap.size (Nat.le_refl _)  p e ha hc hk s m _ below hf ((Spec.applies_iff_loose hf).mp happ).1 ⟨rfl, State.Warmed39.refl s, rfl⟩ trivial
  refine ⟨n, _, h1, h2, h3, hpost _ _ _ _ _ _ ⟨Cond.after_iff.mpr rfl, Cond.after_iff.mpr (eq_i res_at (Term.int_eval (1)) rfl), trivial⟩ ⟨hq.1, hq.2.1, (hq.2.2.sift fun y hy => Or.inr (N y hy)).mono (by decide) (by decide)⟩⟩
theorem main_1_1 : Claimed_1_1 := comes_1 fun _ _ _ _ _ _ h hF => ⟨h.1, hF⟩
theorem main_1_2 : Claimed_1_2 := comes_1 fun _ _ _ _ _ _ h hF => ⟨h.2.1, hF⟩
end Jvm.Pilot.@@N@@
namespace Jvm.Pilot.@@N@@
open Jvm Jvm.ClassFile Sem Op Lib Jvm.Free Jvm.Stand Jvm.Pilot.@@N@@.Jvm.D
/-! MADE BY PROGRAM (witnessworld.py) out of the Statement's table words and the real class files: 9 classes; the members and pool entries that the words name. The judged class is class 1, her method 1. -/
namespace start1
open Jvm.ClassFile
def u (s : String) : CpInfo := .utf8 (stringToUtf16 s)
/-- a pool by its gaps: so many unusable entries, then the entry; so many at the end -/
def gap : Nat → List CpInfo → List CpInfo
  | 0, r => r
  | n + 1, r => .unusable :: gap n r
def poolList (es : List (Nat × CpInfo)) (last : Nat) : List CpInfo := es.foldr (fun e r => gap e.1 (e.2 :: r)) (gap last [])
def pool (es : List (Nat × CpInfo)) (last : Nat) : Array CpInfo := ⟨poolList es last⟩
def fileOf (pool : Array CpInfo) (this : Nat) (attrs : Array Attribute := #[]) (ms : Array MethodInfo := #[]) (fl : Nat := 33) (sup : Nat := 0) (ifs : Array Nat := #[]) (fds : Array FieldInfo := #[]) : ClassFile where
  minorVersion := 0
  majorVersion := 65
  constantPool := pool
  accessFlags := fl
  thisClass := this
  superClass := sup
  interfaces := ifs
  fields := fds
  methods := ms
  attributes := attrs
def plain (name : String) (sup : Option ClassId) : Class where
  name := name
  kind := .ordinary
  loader := none
  accessFlags := 33
  super := sup
  interfaces := #[]
  cf := none
  fields := #[]
  methods := #[]
  instanceTypes := #[]
  staticTypes := #[]
  resolved := #[]
  callSites := []
  init := .initialized
  statics := none
  mirror := none

def pool0 : Array CpInfo := pool [(5, u "<init>"), (0, u "()V"), (1, .class_ 10), (1, u "java/lang/Object")] 113

def k0c0 : Code := { maxStack := 0, maxLocals := 1, code := object_method_1_code, exceptionTable := #[], attributes := #[] }
def k0m0 : Method := { name := "<init>", desc := "()V", sig := { parameters := [], returnType := none }, accessFlags := 1, code := some k0c0 }
/-- java/lang/Object -/
def k0 : Class := { plain "java/lang/Object" none with
  accessFlags := 33
  interfaces := #[]
  cf := some (fileOf pool0 8 #[] #[{ accessFlags := 1, nameIndex := 5, descriptorIndex := 6, attributes := #[] }] 33 0 #[] #[])
  fields := #[]
  methods := #[k0m0]
  instanceTypes := #[]
  staticTypes := #[]
  resolved := Array.replicate 124 none
  statics := none }

def pool1 : Array CpInfo := pool [(2, .class_ 4), (1, u "java/lang/Object"), (0, u "<init>"), (0, u "()V"), (0, .double 4643211215818981376), (1, .class_ 10), (0, u "com/example/schleuse/schleuse/LimiterState"), (0, .methodref 9 12), (0, .nameAndType 5 13), (0, u "(DDZ)V"), (0, .fieldref 9 15), (0, .nameAndType 16 17), (0, u "nextFreeNanos"), (0, u "J"), (0, .fieldref 9 19), (0, .nameAndType 20 21), (0, u "nextFreeFraction"), (0, u "D"), (0, .methodref 9 23), (0, .nameAndType 24 25), (0, u "nextFreeNanosSince"), (0, u "(JD)D"), (0, .double 4611686018427387904), (1, .double 4395513236313604096), (1, .double 4616189618054758400), (1, .class_ 33), (0, u "com/example/schleuse/schleuse/LimiterStateNextFreeNanosSincePinLaw"), (2, u "law"), (0, u "(JJII)Z")] 3

def k1m0 : Method := { name := "<init>", desc := "()V", sig := { parameters := [], returnType := none }, accessFlags := 1, code := none }
def k1c1 : Code := { maxStack := 7, maxLocals := 31, code := code, exceptionTable := #[], attributes := #[] }
def k1m1 : Method := { name := "law", desc := "(JJII)Z", sig := { parameters := [.long, .long, .int, .int], returnType := some .boolean }, accessFlags := 9, code := some k1c1 }
/-- com/example/schleuse/schleuse/LimiterStateNextFreeNanosSincePinLaw -/
def k1 : Class := { plain "com/example/schleuse/schleuse/LimiterStateNextFreeNanosSincePinLaw" (some 0) with
  accessFlags := 49
  interfaces := #[]
  cf := some (fileOf pool1 32 #[] #[{ accessFlags := 1, nameIndex := 5, descriptorIndex := 6, attributes := #[] }, { accessFlags := 9, nameIndex := 36, descriptorIndex := 37, attributes := #[] }] 49 2 #[] #[])
  fields := #[]
  methods := #[k1m0, k1m1]
  instanceTypes := #[]
  staticTypes := #[]
  resolved := Array.replicate 41 none
  statics := none }

def pool2 : Array CpInfo := pool [(1, .methodref 2 3), (0, .class_ 4), (0, .nameAndType 5 6), (0, u "java/lang/Object"), (0, u "<init>"), (0, u "()V"), (2, .long 9223372036854775808), (1, .fieldref 12 13), (0, .class_ 14), (0, .nameAndType 15 16), (0, u "com/example/schleuse/schleuse/LimiterState"), (0, u "nextFreeNanos"), (0, u "J"), (0, .fieldref 12 18), (0, .nameAndType 19 20), (0, u "warmUp"), (0, u "Z"), (0, .methodref 12 22), (0, .nameAndType 23 24), (0, u "applyRate"), (0, u "(DD)V"), (0, .fieldref 12 26), (0, .nameAndType 27 28), (0, u "savedUpPermits"), (0, u "D"), (0, .fieldref 12 30), (0, .nameAndType 31 28), (0, u "nextFreeFraction"), (0, .fieldref 12 33), (0, .nameAndType 34 28), (0, u "maxSavedUpPermits"), (0, .fieldref 12 36), (0, .nameAndType 37 28), (0, u "stableIntervalNanos"), (37, .fieldref 12 76), (0, .nameAndType 77 28), (0, u "rate"), (0, .double 4741671816366391296), (1, u "forgotten"), (0, u "(DDZ)V"), (5, u "nextFreeNanosSince"), (0, u "(JD)D")] 6

def k2c0 : Code := { maxStack := 5, maxLocals := 6, code := prog_5_method_1_code, exceptionTable := #[], attributes := #[] }
def k2m0 : Method := { name := "<init>", desc := "(DDZ)V", sig := { parameters := [.double, .double, .boolean], returnType := none }, accessFlags := 0, code := some k2c0 }
def k2c1 : Code := { maxStack := 6, maxLocals := 10, code := prog_5_method_8_code, exceptionTable := #[], attributes := #[] }
def k2m1 : Method := { name := "nextFreeNanosSince", desc := "(JD)D", sig := { parameters := [.long, .double], returnType := some .double }, accessFlags := 0, code := some k2c1 }
def k2c2 : Code := { maxStack := 5, maxLocals := 5, code := prog_5_method_10_code, exceptionTable := #[], attributes := #[] }
def k2m2 : Method := { name := "applyRate", desc := "(DD)V", sig := { parameters := [.double, .double], returnType := none }, accessFlags := 2, code := some k2c2 }
/-- com/example/schleuse/schleuse/LimiterState -/
def k2 : Class := { plain "com/example/schleuse/schleuse/LimiterState" (some 0) with
  accessFlags := 32
  interfaces := #[]
  cf := some (fileOf pool2 12 #[] #[{ accessFlags := 0, nameIndex := 5, descriptorIndex := 81, attributes := #[] }, { accessFlags := 0, nameIndex := 87, descriptorIndex := 88, attributes := #[] }, { accessFlags := 2, nameIndex := 23, descriptorIndex := 24, attributes := #[] }] 32 2 #[] #[{ accessFlags := 16, nameIndex := 19, descriptorIndex := 20, attributes := #[] }, { accessFlags := 0, nameIndex := 77, descriptorIndex := 28, attributes := #[] }, { accessFlags := 0, nameIndex := 37, descriptorIndex := 28, attributes := #[] }, { accessFlags := 0, nameIndex := 34, descriptorIndex := 28, attributes := #[] }, { accessFlags := 0, nameIndex := 27, descriptorIndex := 28, attributes := #[] }, { accessFlags := 0, nameIndex := 15, descriptorIndex := 16, attributes := #[] }, { accessFlags := 0, nameIndex := 31, descriptorIndex := 28, attributes := #[] }, { accessFlags := 0, nameIndex := 80, descriptorIndex := 20, attributes := #[] }])
  fields := #[{ name := "warmUp", type := .boolean, accessFlags := 16, slot := 0, constantValue := 0 }, { name := "rate", type := .double, accessFlags := 0, slot := 1, constantValue := 0 }, { name := "stableIntervalNanos", type := .double, accessFlags := 0, slot := 2, constantValue := 0 }, { name := "maxSavedUpPermits", type := .double, accessFlags := 0, slot := 3, constantValue := 0 }, { name := "savedUpPermits", type := .double, accessFlags := 0, slot := 4, constantValue := 0 }, { name := "nextFreeNanos", type := .long, accessFlags := 0, slot := 5, constantValue := 0 }, { name := "nextFreeFraction", type := .double, accessFlags := 0, slot := 6, constantValue := 0 }, { name := "forgotten", type := .boolean, accessFlags := 0, slot := 7, constantValue := 0 }]
  methods := #[k2m0, k2m1, k2m2]
  instanceTypes := #[.boolean, .double, .double, .double, .double, .long, .double, .boolean]
  staticTypes := #[]
  resolved := Array.replicate 95 none
  statics := none }

def pool3 : Array CpInfo := pool [(1, u "java/lang/Cloneable"), (0, .class_ 1), (0, u "java/lang/Object"), (0, .class_ 3)] 3

/-- java/lang/Cloneable -/
def k3 : Class := { plain "java/lang/Cloneable" (some 0) with
  accessFlags := 1537
  interfaces := #[]
  cf := some (fileOf pool3 2 #[] #[] 1537 4 #[] #[])
  fields := #[]
  methods := #[]
  instanceTypes := #[]
  staticTypes := #[]
  resolved := Array.replicate 8 none
  statics := none }

def pool4 : Array CpInfo := pool [(1, u "java/io/Serializable"), (0, .class_ 1), (0, u "java/lang/Object"), (0, .class_ 3)] 3

/-- java/io/Serializable -/
def k4 : Class := { plain "java/io/Serializable" (some 0) with
  accessFlags := 1537
  interfaces := #[]
  cf := some (fileOf pool4 2 #[] #[] 1537 4 #[] #[])
  fields := #[]
  methods := #[]
  instanceTypes := #[]
  staticTypes := #[]
  resolved := Array.replicate 8 none
  statics := none }

/-- the primitive byte -/
def k5 : Class := { plain "byte" none with kind := .primitive 'B', accessFlags := 0x411 }
/-- [B -/
def k6 : Class := { plain "[B" (some 0) with kind := .array 5 .byte, interfaces := #[3, 4], accessFlags := 1041 }

/-- the primitive int -/
def k7 : Class := { plain "int" none with kind := .primitive 'I', accessFlags := 0x411 }
/-- [I -/
def k8 : Class := { plain "[I" (some 0) with kind := .array 7 .int, interfaces := #[3, 4], accessFlags := 1041 }

def heap : Heap := #[]
def classes : Array Class := #[k0, k1, k2, k3, k4, k5, k6, k7, k8]
def interned : List (Array UInt16 × Addr) := []
def slotsUsed : Nat := 0
def theMethod : MethodId := ⟨1, 1⟩
def args0 : Array Value := #[.long 5, .long 9, .int 3, .int 7]
def aboutOver (below : List Frame) : State where
  vm := { classes := classes, interned := interned.toArray }
  heap := heap
  slotsUsed := slotsUsed
  threads := #[{ frames := .invoking theMethod args0 :: below }]
def below0 : List Frame := [.native { method := ⟨0, 0⟩, args := #[] }]
def about1 : State := aboutOver below0
def p0 : Program := .bare "" "" ""
def e0 : Env := launch0.env 0 0 0
theorem w_frames : about1.frames = Frame.invoking theMethod args0 :: below0 := rfl
set_option maxRecDepth 65536 in
theorem w_args : argsFit about1.vm theMethod args0 = true := by decide +kernel
set_option maxRecDepth 65536 in
theorem w_heap : heapFits about1 = true := by decide +kernel
set_option maxRecDepth 65536 in
theorem w_runnable : about1.curStatus? = some .runnable := by decide +kernel
set_option maxRecDepth 65536 in
theorem w_alone : about1.alone = true := by decide +kernel
set_option maxRecDepth 65536 in
theorem w_named : about1.methodNamed? x = some theMethod := by decide +kernel
set_option maxRecDepth 65536 in
theorem w_hears : about1.hears theMethod below0 = true := by decide +kernel
set_option maxRecDepth 65536 in
theorem w_ripe : about1.ripe theMethod args0 below0 = true := by decide +kernel
theorem w_running : about1.status = .running := rfl
set_option maxRecDepth 65536 in
theorem w_room : about1.hasRoom e0.platform room_1 = true :=
  launch0.hasRoom_least _ room_1 (by decide +kernel) (by decide +kernel) (by decide +kernel) (by decide +kernel) (by decide +kernel) (by decide +kernel)
theorem allAtoms_all (ts : List Jvm.Cond) (a : Array Jvm.Value) (st : Jvm.State) : (allAtoms ts).before a st = ts.all (fun c => c.before a st) := by
  induction ts with
  | nil => rfl
  | cons c t ih =>
    show (Jvm.Cond.and c (allAtoms t)).before a st = _
    rw [Jvm.Cond.before_and, ih, List.all_cons]
def words1 : List Jvm.Cond := Jvm.Cond.code x code maxLocals ret :: tables_1
/-- a 'code' word, met by the world's own term for the bytes: nothing is compared byte by byte -/
theorem code_word {y : MethodName} {bytes : ByteArray} {mx : Nat} {rt : Option FieldType} {a : Array Value} {s : State} {m : MethodId} {meth : Method} {c : Code} (h1 : s.methodNamed? y = some m) (h2 : s.vm.method? m = some meth) (h3 : meth.code = some c) (h4 : c.code = bytes)
    (h5 : (c.maxLocals == mx && c.exceptionTable.isEmpty && decide (c.maxStack ≤ mostOperands) && decide (meth.sig.returnType = rt) && !meth.locks && decide (parseMethodDescriptor y.desc = some meth.sig)) = true) : (Jvm.Cond.code y bytes mx rt).before a s = true := by
  simp only [Bool.and_eq_true, beq_iff_eq, Bool.not_eq_true', decide_eq_true_eq] at h5
  obtain ⟨⟨⟨⟨⟨g1, g2⟩, g3⟩, g4⟩, g5⟩, g6⟩ := h5
  simp [Cond.before, Cond.holds, Cond.value, h1, h2, h3, h4, g1, g2, g3, g4, g5, g6]
def isCode : Jvm.Cond → Bool
  | .code _ _ _ _ => true
  | _ => false
theorem all_split {L : List Jvm.Cond} {P : Jvm.Cond → Bool} (h1 : L.all (fun c => isCode c || P c) = true) (h2 : ∀ c ∈ L.filter isCode, P c = true) : L.all P = true := by
  refine List.all_eq_true.mpr fun c hc => ?_
  have h := List.all_eq_true.mp h1 c hc
  rcases Bool.eq_false_or_eq_true (isCode c) with hi | hi
  · exact h2 c (List.mem_filter.mpr ⟨hc, hi⟩)
  · simpa [hi] using h
set_option maxRecDepth 65536 in
theorem w_c0 : (Jvm.Cond.code x code maxLocals ret).before args0 about1 = true := code_word (m := ⟨1, 1⟩) (meth := k1m1) (c := k1c1) (by decide +kernel) rfl rfl rfl (by decide +kernel)
set_option maxRecDepth 65536 in
theorem w_c1 : (Jvm.Cond.code ({ cls := "com/example/schleuse/schleuse/LimiterState", name := "<init>", desc := "(DDZ)V" } : Jvm.MethodName) prog_5_method_1_code (6 : Nat) (Option.none : Option Jvm.ClassFile.FieldType)).before args0 about1 = true := code_word (m := ⟨2, 0⟩) (meth := k2m0) (c := k2c0) (by decide +kernel) rfl rfl rfl (by decide +kernel)
set_option maxRecDepth 65536 in
theorem w_c2 : (Jvm.Cond.code ({ cls := "java/lang/Object", name := "<init>", desc := "()V" } : Jvm.MethodName) object_method_1_code (1 : Nat) (Option.none : Option Jvm.ClassFile.FieldType)).before args0 about1 = true := code_word (m := ⟨0, 0⟩) (meth := k0m0) (c := k0c0) (by decide +kernel) rfl rfl rfl (by decide +kernel)
set_option maxRecDepth 65536 in
theorem w_c3 : (Jvm.Cond.code ({ cls := "com/example/schleuse/schleuse/LimiterState", name := "applyRate", desc := "(DD)V" } : Jvm.MethodName) prog_5_method_10_code (5 : Nat) (Option.none : Option Jvm.ClassFile.FieldType)).before args0 about1 = true := code_word (m := ⟨2, 2⟩) (meth := k2m2) (c := k2c2) (by decide +kernel) rfl rfl rfl (by decide +kernel)
set_option maxRecDepth 65536 in
theorem w_c4 : (Jvm.Cond.code ({ cls := "com/example/schleuse/schleuse/LimiterState", name := "nextFreeNanosSince", desc := "(JD)D" } : Jvm.MethodName) prog_5_method_8_code (10 : Nat) (Option.some Jvm.ClassFile.FieldType.double)).before args0 about1 = true := code_word (m := ⟨2, 1⟩) (meth := k2m1) (c := k2c1) (by decide +kernel) rfl rfl rfl (by decide +kernel)
def codes1 : List Jvm.Cond := [Jvm.Cond.code x code maxLocals ret, Jvm.Cond.code ({ cls := "com/example/schleuse/schleuse/LimiterState", name := "<init>", desc := "(DDZ)V" } : Jvm.MethodName) prog_5_method_1_code (6 : Nat) (Option.none : Option Jvm.ClassFile.FieldType), Jvm.Cond.code ({ cls := "java/lang/Object", name := "<init>", desc := "()V" } : Jvm.MethodName) object_method_1_code (1 : Nat) (Option.none : Option Jvm.ClassFile.FieldType), Jvm.Cond.code ({ cls := "com/example/schleuse/schleuse/LimiterState", name := "applyRate", desc := "(DD)V" } : Jvm.MethodName) prog_5_method_10_code (5 : Nat) (Option.none : Option Jvm.ClassFile.FieldType), Jvm.Cond.code ({ cls := "com/example/schleuse/schleuse/LimiterState", name := "nextFreeNanosSince", desc := "(JD)D" } : Jvm.MethodName) prog_5_method_8_code (10 : Nat) (Option.some Jvm.ClassFile.FieldType.double)]
set_option maxRecDepth 65536 in
theorem codes_eq : words1.filter isCode = codes1 := rfl
theorem w_codes : ∀ c ∈ words1.filter isCode, c.before args0 about1 = true := by
  rw [codes_eq]
  intro c hc
  simp only [codes1, List.mem_cons, List.not_mem_nil, or_false] at hc
  rcases hc with rfl | rfl | rfl | rfl | rfl
  · exact w_c0
  · exact w_c1
  · exact w_c2
  · exact w_c3
  · exact w_c4
set_option maxRecDepth 65536 in
theorem w_t1 : (words1.take 24).all (fun c => isCode c || c.before args0 about1) = true := by decide +kernel
set_option maxRecDepth 65536 in
theorem w_t2 : (words1.drop 24).all (fun c => isCode c || c.before args0 about1) = true := by decide +kernel
theorem w_tables : (allAtoms (Jvm.Cond.code x code maxLocals ret :: tables_1)).before args0 about1 = true := by
  rw [allAtoms_all]
  show words1.all (fun c => c.before args0 about1) = true
  refine all_split ?_ w_codes
  rw [← List.take_append_drop 24 words1, List.all_append, w_t1, w_t2]
  rfl
set_option maxRecDepth 65536 in
theorem w_case : (Jvm.Cond.and given_1 narrow_1).before args0 about1 = true := by decide +kernel
theorem w_applies : (headSpec (Jvm.Cond.code x code maxLocals ret :: tables_1) room_1).applies x e0.platform about1 = true :=
  (Spec.applies_iff w_frames).mpr ⟨w_running, w_runnable, w_alone, w_named, w_hears, w_ripe, w_room, w_tables⟩
theorem atStart : AtStart classFile x code maxLocals ret World_1 tables_1 room_1 Calls_1 rest_1 Pre_1 launch0 p0 e0 about1 theMethod args0 below0 :=
  ⟨lists_1, trivial, launch0.admits_env _ _ _, launch0.least_env, fairChoices_fair.cas, fairChoices_fair.clock, w_frames, w_args, w_heap, w_applies, trivial, trivial, w_case⟩
end start1
theorem witness_1 : WitnessClaimed_1 := ⟨start1.p0, start1.e0, start1.about1, start1.theMethod, start1.args0, start1.below0, start1.atStart⟩
end Jvm.Pilot.@@N@@
