import JvmDerived
import JvmDerived.Pilot.@@N@@Statement
import JvmDerived.Pilot.@@N@@Code
set_option linter.unusedVariables false
set_option linter.unusedSimpArgs false
namespace Jvm.OwnKit
open Sem ClassFile Op Lib Jvm.Stand Jvm.Free Jvm.LawKit Jvm.RoadKit
/-- from S the run ends as wanted: it returns v, leaves a heap and has written the places L -/
def Goes (p : Program) (e : Env) (below : List Frame) (s : State) (K N : Nat) (Q : Option Value → Heap → List Loc → Prop) (S : State) : Prop :=
  ∃ s₂ o, Steps p.tables e below S s₂ ∧ s₂.status = .running ∧ Ended s₂ below o ∧ ∃ v L, o = .returned v ∧ Q v s₂.heap L ∧ FrameEnd s o s₂ L K N
def Cl (p : Program) (e : Env) (below : List Frame) (G : State → Prop) : Prop := ∀ S S', (∀ t, Steps p.tables e below S' t → Steps p.tables e below S t) → G S' → G S
theorem Goes.cl (p : Program) (e : Env) (below : List Frame) (s : State) (K N : Nat) (Q : Option Value → Heap → List Loc → Prop) : Cl p e below (Goes p e below s K N Q) := fun S S' h k => by
  obtain ⟨s₂, o, h1, r⟩ := k
  exact ⟨s₂, o, h _ h1, r⟩
/-- a body's contract -/
abbrev Con (l : Launch) (y : MethodName) (bytes : ByteArray) (maxL : Nat) (ret : Option FieldType) (ws : List Jvm.Cond) (rm : Room) (Z : State) (as : Array Value) (h0 : Heap) (K N : Nat) (Q : Option Value → Heap → List Loc → Prop) : Prop :=
  MetFree l y (head1 (Jvm.Cond.code y bytes maxL ret :: ws) rm) (fun a U => a = as ∧ Z.Warmed39 U.vm ∧ U.heap = h0) (fun _ _ _ _ _ => True) (fun _ U o U' => ∃ v L, o = .returned v ∧ Q v U'.heap L ∧ FrameEnd U o U' L K N)
theorem Con.of {l : Launch} {y : MethodName} {bytes : ByteArray} {maxL : Nat} {ret : Option FieldType} {ws : List Jvm.Cond} {rm : Room} {Z : State} {as : Array Value} {h0 : Heap} {K N : Nat} {Q : Option Value → Heap → List Loc → Prop} {Ls : Array Slot}
    (pl : plainFor y = true) (hef : ∀ m, entryFrame m as maxL = mkF m 0 Ls [])
    (H : ∀ (p : Program) (e : Env) (s : State) (m : MethodId) (below : List Frame) (meth : Method) (c : Code) (s₁ : State) (G : State → Prop), G = Goes p e below s K N Q → Cl p e below G → p.tables.exec = Jvm.exec → c.code = bytes → c.maxLocals = maxL → s.vm.findClass y.cls = some m.cls → meth.name = y.name → meth.sig.returnType = ret → meth.locks = false → Z.Warmed39 s.vm → Stand p l e rm s m as below meth c s₁ [] 0 0 → s₁.heap = h0 → G (s₁.setTop (mkF m 0 Ls []))) :
    Con l y bytes maxL ret ws rm Z as h0 K N Q := by
  refine MetFree.of_bodySF pl hisR ?_
  intro p e s m args below meth c s₁ Bd hml0 hP hK
  obtain ⟨rfl, hZ, hh⟩ := hP
  have X0 : Stand p l e rm s m args below meth c s₁ [] 0 0 := Stand.of_body Bd
  have e0 : s₁.heap = h0 := by rw [← hh, Bd.state]; rfl
  have g := H p e s m below meth c s₁ _ rfl (Goes.cl p e below s K N Q) Bd.exec Bd.bytes hml0 (findClass_of_methodNamed Bd.named) (name_of_methodNamed Bd.named Bd.method).1 Bd.returns Bd.notSynchronized hZ X0 e0
  rw [← hef m] at g
  exact g
theorem Wr.size {h h' : Heap} {a : Addr} {sl : Nat} {v : Value} (W : Wr h h' a sl v) : h.size ≤ h'.size := by
  obtain ⟨c, -, -, -, rfl⟩ := W
  simp
section New
variable {p : Program} {l : Launch} {e : Env} {R : Room} {s : State} {m : MethodId} {args : Array Value} {below : List Frame} {meth : Method} {c : Code} {T : State} {locs : List Loc} {cells slots : Nat} {Z : State} {a0 : Array Value} {h : Heap} {G : State → Prop} {pc pc' : Nat} {Ls Ls' : Array Slot} {rest : List Value} {K N : Nat} {Q : Option Value → Heap → List Loc → Prop}
/-! the ends -/
theorem e_ret (hGe : G = Goes p e below s K N Q) (X : Stand p l e R s m args below meth c T locs cells slots) (hx : p.tables.exec = Jvm.exec) {w : Value} {t : FieldType} {i : Instr} (hret : meth.sig.returnType = some t) (hlk : meth.locks = false) (hd : decode c.code pc = .ok (i, 1)) (hn : narrow t w = w)
    (hi : (i = .ireturn ∧ (t = .int ∨ t = .boolean ∨ t = .byte ∨ t = .char ∨ t = .short) ∧ ∃ z, w = .int z) ∨ (i = .lreturn ∧ t = .long ∧ ∃ z, w = .long z) ∨ (i = .dreturn ∧ t = .double ∧ ∃ z, w = .double z) ∨ (i = .freturn ∧ t = .float ∧ ∃ z, w = .float z) ∨ (i = .areturn ∧ t.isReference = true ∧ w.isRef = true))
    (eT : T.heap = h) (hk : cells ≤ K) (hs : slots ≤ N) (hQ : Q (some w) h locs) : G (T.setTop (mkF m pc Ls (w :: rest))) := by
  subst hGe
  obtain ⟨fs, hr, hrun, hended, hW, hsame⟩ := X.leave (v := some w) (fun h => by rw [hret] at h; cases h) hlk
  refine ⟨_, _, retOut X hx hret hn hi hd hr, hrun, hended, _, _, rfl, ?_, ⟨_, rfl⟩, hW, hsame.mono hk hs⟩
  show Q _ T.heap _
  rw [eT]; exact hQ
theorem e_retI (hGe : G = Goes p e below s K N Q) (X : Stand p l e R s m args below meth c T locs cells slots) (hx : p.tables.exec = Jvm.exec) {z : Int32} (hret : meth.sig.returnType = some .int) (hlk : meth.locks = false) (hd : decode c.code pc = .ok (.ireturn, 1)) (eT : T.heap = h) (hk : cells ≤ K) (hs : slots ≤ N) (hQ : Q (some (.int z)) h locs) : G (T.setTop (mkF m pc Ls (.int z :: rest))) :=
  e_ret hGe X hx hret hlk hd rfl (Or.inl ⟨rfl, Or.inl rfl, z, rfl⟩) eT hk hs hQ
theorem e_retJ (hGe : G = Goes p e below s K N Q) (X : Stand p l e R s m args below meth c T locs cells slots) (hx : p.tables.exec = Jvm.exec) {z : Int64} (hret : meth.sig.returnType = some .long) (hlk : meth.locks = false) (hd : decode c.code pc = .ok (.lreturn, 1)) (eT : T.heap = h) (hk : cells ≤ K) (hs : slots ≤ N) (hQ : Q (some (.long z)) h locs) : G (T.setTop (mkF m pc Ls (.long z :: rest))) :=
  e_ret hGe X hx hret hlk hd rfl (Or.inr (Or.inl ⟨rfl, rfl, z, rfl⟩)) eT hk hs hQ
theorem e_retD (hGe : G = Goes p e below s K N Q) (X : Stand p l e R s m args below meth c T locs cells slots) (hx : p.tables.exec = Jvm.exec) {z : UInt64} (hret : meth.sig.returnType = some .double) (hlk : meth.locks = false) (hd : decode c.code pc = .ok (.dreturn, 1)) (eT : T.heap = h) (hk : cells ≤ K) (hs : slots ≤ N) (hQ : Q (some (.double z)) h locs) : G (T.setTop (mkF m pc Ls (.double z :: rest))) :=
  e_ret hGe X hx hret hlk hd rfl (Or.inr (Or.inr (Or.inl ⟨rfl, rfl, z, rfl⟩))) eT hk hs hQ
theorem e_retA (hGe : G = Goes p e below s K N Q) (X : Stand p l e R s m args below meth c T locs cells slots) (hx : p.tables.exec = Jvm.exec) {a : Addr} {t : FieldType} (hret : meth.sig.returnType = some t) (ht : t.isReference = true) (hlk : meth.locks = false) (hd : decode c.code pc = .ok (.areturn, 1)) (eT : T.heap = h) (hk : cells ≤ K) (hs : slots ≤ N) (hQ : Q (some (.ref a)) h locs) : G (T.setTop (mkF m pc Ls (.ref a :: rest))) :=
  e_ret hGe X hx hret hlk hd (by cases t <;> first | rfl | (cases ht)) (Or.inr (Or.inr (Or.inr (Or.inr ⟨rfl, ht, rfl⟩)))) eT hk hs hQ
theorem e_retZ (hGe : G = Goes p e below s K N Q) (X : Stand p l e R s m args below meth c T locs cells slots) (hx : p.tables.exec = Jvm.exec) {z : Int32} (hret : meth.sig.returnType = some .boolean) (hlk : meth.locks = false) (hd : decode c.code pc = .ok (.ireturn, 1)) (hz : z = 0 ∨ z = 1) (eT : T.heap = h) (hk : cells ≤ K) (hs : slots ≤ N) (hQ : Q (some (.int z)) h locs) : G (T.setTop (mkF m pc Ls (.int z :: rest))) :=
  e_ret hGe X hx hret hlk hd (by rcases hz with rfl | rfl <;> rfl) (Or.inl ⟨rfl, Or.inr (Or.inl rfl), z, rfl⟩) eT hk hs hQ
theorem e_ret0 (hGe : G = Goes p e below s K N Q) (X : Stand p l e R s m args below meth c T locs cells slots) (hx : p.tables.exec = Jvm.exec) (hret : meth.sig.returnType = none) (hlk : meth.locks = false) (hd : decode c.code pc = .ok (.return_, 1)) (eT : T.heap = h) (hk : cells ≤ K) (hs : slots ≤ N) (hQ : Q none h locs) : G (T.setTop (mkF m pc Ls [])) := by
  subst hGe
  obtain ⟨fs, hr, hrun, hended, hW, hsame⟩ := X.leave (v := none) (fun _ => rfl) hlk
  refine ⟨_, _, X.returnOut hx hret hd hr, hrun, hended, _, _, rfl, ?_, ⟨_, rfl⟩, hW, hsame.mono hk hs⟩
  show Q _ T.heap _
  rw [eT]; exact hQ
/-! the plain steps -/
theorem g_iload (hG : Cl p e below G) (X : Stand p l e R s m args below meth c T locs cells slots) (hx : p.tables.exec = Jvm.exec) {i : Nat} {v : Int32} (hd : decode c.code pc = .ok (.iload i, 2)) (hp : pc' = pc + 2) (hl : Ls[i]? = some (.val (.int v))) (k : G (T.setTop (mkF m pc' Ls (.int v :: rest)))) : G (T.setTop (mkF m pc Ls (rest))) := by
  subst hp
  refine hG _ _ (fun t ht => ?_) k
  exact XS.iload X.here hx rfl hd hl ht
theorem g_iloadN (hG : Cl p e below G) (X : Stand p l e R s m args below meth c T locs cells slots) (hx : p.tables.exec = Jvm.exec) {i : Fin 4} {v : Int32} (hd : decode c.code pc = .ok (.iload_n i, 1)) (hp : pc' = pc + 1) (hl : Ls[i.val]? = some (.val (.int v))) (k : G (T.setTop (mkF m pc' Ls (.int v :: rest)))) : G (T.setTop (mkF m pc Ls (rest))) := by
  subst hp
  refine hG _ _ (fun t ht => ?_) k
  exact XS.iloadN X.here hx rfl hd hl ht
theorem g_istore (hG : Cl p e below G) (X : Stand p l e R s m args below meth c T locs cells slots) (hx : p.tables.exec = Jvm.exec) {i : Nat} {v : Int32} (hd : decode c.code pc = .ok (.istore i, 2)) (hp : pc' = pc + 2) (hl : storeLocals Ls i (.int v) = some Ls') (k : G (T.setTop (mkF m pc' Ls' (rest)))) : G (T.setTop (mkF m pc Ls (.int v :: rest))) := by
  subst hp
  refine hG _ _ (fun t ht => ?_) k
  exact XS.istore X.here hx rfl hd rfl hl ht
theorem g_istoreN (hG : Cl p e below G) (X : Stand p l e R s m args below meth c T locs cells slots) (hx : p.tables.exec = Jvm.exec) {i : Fin 4} {v : Int32} (hd : decode c.code pc = .ok (.istore_n i, 1)) (hp : pc' = pc + 1) (hl : storeLocals Ls i.val (.int v) = some Ls') (k : G (T.setTop (mkF m pc' Ls' (rest)))) : G (T.setTop (mkF m pc Ls (.int v :: rest))) := by
  subst hp
  refine hG _ _ (fun t ht => ?_) k
  exact XS.istoreN X.here hx rfl hd rfl hl ht
theorem g_lload (hG : Cl p e below G) (X : Stand p l e R s m args below meth c T locs cells slots) (hx : p.tables.exec = Jvm.exec) {i : Nat} {v : Int64} (hd : decode c.code pc = .ok (.lload i, 2)) (hp : pc' = pc + 2) (hl : Ls[i]? = some (.val (.long v))) (k : G (T.setTop (mkF m pc' Ls (.long v :: rest)))) : G (T.setTop (mkF m pc Ls (rest))) := by
  subst hp
  refine hG _ _ (fun t ht => ?_) k
  exact XS.lload X.here hx rfl hd hl ht
theorem g_lloadN (hG : Cl p e below G) (X : Stand p l e R s m args below meth c T locs cells slots) (hx : p.tables.exec = Jvm.exec) {i : Fin 4} {v : Int64} (hd : decode c.code pc = .ok (.lload_n i, 1)) (hp : pc' = pc + 1) (hl : Ls[i.val]? = some (.val (.long v))) (k : G (T.setTop (mkF m pc' Ls (.long v :: rest)))) : G (T.setTop (mkF m pc Ls (rest))) := by
  subst hp
  refine hG _ _ (fun t ht => ?_) k
  exact XS.lloadN X.here hx rfl hd hl ht
theorem g_lstore (hG : Cl p e below G) (X : Stand p l e R s m args below meth c T locs cells slots) (hx : p.tables.exec = Jvm.exec) {i : Nat} {v : Int64} (hd : decode c.code pc = .ok (.lstore i, 2)) (hp : pc' = pc + 2) (hl : storeLocals Ls i (.long v) = some Ls') (k : G (T.setTop (mkF m pc' Ls' (rest)))) : G (T.setTop (mkF m pc Ls (.long v :: rest))) := by
  subst hp
  refine hG _ _ (fun t ht => ?_) k
  exact XS.lstore X.here hx rfl hd rfl hl ht
theorem g_lstoreN (hG : Cl p e below G) (X : Stand p l e R s m args below meth c T locs cells slots) (hx : p.tables.exec = Jvm.exec) {i : Fin 4} {v : Int64} (hd : decode c.code pc = .ok (.lstore_n i, 1)) (hp : pc' = pc + 1) (hl : storeLocals Ls i.val (.long v) = some Ls') (k : G (T.setTop (mkF m pc' Ls' (rest)))) : G (T.setTop (mkF m pc Ls (.long v :: rest))) := by
  subst hp
  refine hG _ _ (fun t ht => ?_) k
  exact XS.lstoreN X.here hx rfl hd rfl hl ht
theorem g_dload (hG : Cl p e below G) (X : Stand p l e R s m args below meth c T locs cells slots) (hx : p.tables.exec = Jvm.exec) {i : Nat} {v : UInt64} (hd : decode c.code pc = .ok (.dload i, 2)) (hp : pc' = pc + 2) (hl : Ls[i]? = some (.val (.double v))) (k : G (T.setTop (mkF m pc' Ls (.double v :: rest)))) : G (T.setTop (mkF m pc Ls (rest))) := by
  subst hp
  refine hG _ _ (fun t ht => ?_) k
  exact XS.dload X.here hx rfl hd hl ht
theorem g_dloadN (hG : Cl p e below G) (X : Stand p l e R s m args below meth c T locs cells slots) (hx : p.tables.exec = Jvm.exec) {i : Fin 4} {v : UInt64} (hd : decode c.code pc = .ok (.dload_n i, 1)) (hp : pc' = pc + 1) (hl : Ls[i.val]? = some (.val (.double v))) (k : G (T.setTop (mkF m pc' Ls (.double v :: rest)))) : G (T.setTop (mkF m pc Ls (rest))) := by
  subst hp
  refine hG _ _ (fun t ht => ?_) k
  exact XS.dloadN X.here hx rfl hd hl ht
theorem g_dstore (hG : Cl p e below G) (X : Stand p l e R s m args below meth c T locs cells slots) (hx : p.tables.exec = Jvm.exec) {i : Nat} {v : UInt64} (hd : decode c.code pc = .ok (.dstore i, 2)) (hp : pc' = pc + 2) (hl : storeLocals Ls i (.double v) = some Ls') (k : G (T.setTop (mkF m pc' Ls' (rest)))) : G (T.setTop (mkF m pc Ls (.double v :: rest))) := by
  subst hp
  refine hG _ _ (fun t ht => ?_) k
  exact XS.dstore X.here hx rfl hd rfl hl ht
theorem g_dstoreN (hG : Cl p e below G) (X : Stand p l e R s m args below meth c T locs cells slots) (hx : p.tables.exec = Jvm.exec) {i : Fin 4} {v : UInt64} (hd : decode c.code pc = .ok (.dstore_n i, 1)) (hp : pc' = pc + 1) (hl : storeLocals Ls i.val (.double v) = some Ls') (k : G (T.setTop (mkF m pc' Ls' (rest)))) : G (T.setTop (mkF m pc Ls (.double v :: rest))) := by
  subst hp
  refine hG _ _ (fun t ht => ?_) k
  exact XS.dstoreN X.here hx rfl hd rfl hl ht
theorem g_aload (hG : Cl p e below G) (X : Stand p l e R s m args below meth c T locs cells slots) (hx : p.tables.exec = Jvm.exec) {i : Nat} {v : Value} (hd : decode c.code pc = .ok (.aload i, 2)) (hp : pc' = pc + 2) (hl : Ls[i]? = some (.val v)) (hv' : v.isRef = true) (k : G (T.setTop (mkF m pc' Ls (v :: rest)))) : G (T.setTop (mkF m pc Ls (rest))) := by
  subst hp
  refine hG _ _ (fun t ht => ?_) k
  exact XS.aload X.here hx rfl hd hl hv' ht
theorem g_aloadN (hG : Cl p e below G) (X : Stand p l e R s m args below meth c T locs cells slots) (hx : p.tables.exec = Jvm.exec) {i : Fin 4} {v : Value} (hd : decode c.code pc = .ok (.aload_n i, 1)) (hp : pc' = pc + 1) (hl : Ls[i.val]? = some (.val v)) (hv' : v.isRef = true) (k : G (T.setTop (mkF m pc' Ls (v :: rest)))) : G (T.setTop (mkF m pc Ls (rest))) := by
  subst hp
  refine hG _ _ (fun t ht => ?_) k
  exact XS.aloadN X.here hx rfl hd hl hv' ht
theorem g_astore (hG : Cl p e below G) (X : Stand p l e R s m args below meth c T locs cells slots) (hx : p.tables.exec = Jvm.exec) {i : Nat} {v : Value} (hd : decode c.code pc = .ok (.astore i, 2)) (hp : pc' = pc + 2) (hv' : v.isRef = true) (hl : storeLocals Ls i v = some Ls') (k : G (T.setTop (mkF m pc' Ls' (rest)))) : G (T.setTop (mkF m pc Ls (v :: rest))) := by
  subst hp
  refine hG _ _ (fun t ht => ?_) k
  exact XS.astore X.here hx rfl hd rfl hv' hl ht
theorem g_astoreN (hG : Cl p e below G) (X : Stand p l e R s m args below meth c T locs cells slots) (hx : p.tables.exec = Jvm.exec) {i : Fin 4} {v : Value} (hd : decode c.code pc = .ok (.astore_n i, 1)) (hp : pc' = pc + 1) (hv' : v.isRef = true) (hl : storeLocals Ls i.val v = some Ls') (k : G (T.setTop (mkF m pc' Ls' (rest)))) : G (T.setTop (mkF m pc Ls (v :: rest))) := by
  subst hp
  refine hG _ _ (fun t ht => ?_) k
  exact XS.astoreN X.here hx rfl hd rfl hv' hl ht
theorem g_iconst (hG : Cl p e below G) (X : Stand p l e R s m args below meth c T locs cells slots) (hx : p.tables.exec = Jvm.exec) {i : Int} {v : Int32} (hd : decode c.code pc = .ok (.iconst i, 1)) (hp : pc' = pc + 1) (hv : Int32.ofInt i = v) (k : G (T.setTop (mkF m pc' Ls (.int v :: rest)))) : G (T.setTop (mkF m pc Ls (rest))) := by
  subst hp
  subst hv
  refine hG _ _ (fun t ht => ?_) k
  exact XS.iconst X.here hx rfl hd ht
theorem g_bipush (hG : Cl p e below G) (X : Stand p l e R s m args below meth c T locs cells slots) (hx : p.tables.exec = Jvm.exec) {i : Int} {v : Int32} (hd : decode c.code pc = .ok (.bipush i, 2)) (hp : pc' = pc + 2) (hv : (Int8.ofInt i).toInt32 = v) (k : G (T.setTop (mkF m pc' Ls (.int v :: rest)))) : G (T.setTop (mkF m pc Ls (rest))) := by
  subst hp
  subst hv
  refine hG _ _ (fun t ht => ?_) k
  exact XS.bipush X.here hx rfl hd ht
theorem g_sipush (hG : Cl p e below G) (X : Stand p l e R s m args below meth c T locs cells slots) (hx : p.tables.exec = Jvm.exec) {i : Int} {v : Int32} (hd : decode c.code pc = .ok (.sipush i, 3)) (hp : pc' = pc + 3) (hv : (Int16.ofInt i).toInt32 = v) (k : G (T.setTop (mkF m pc' Ls (.int v :: rest)))) : G (T.setTop (mkF m pc Ls (rest))) := by
  subst hp
  subst hv
  refine hG _ _ (fun t ht => ?_) k
  exact XS.sipush X.here hx rfl hd ht
theorem g_lconst (hG : Cl p e below G) (X : Stand p l e R s m args below meth c T locs cells slots) (hx : p.tables.exec = Jvm.exec) {i : Fin 2} {v : Int64} (hd : decode c.code pc = .ok (.lconst i, 1)) (hp : pc' = pc + 1) (hv : Int64.ofNat i.val = v) (k : G (T.setTop (mkF m pc' Ls (.long v :: rest)))) : G (T.setTop (mkF m pc Ls (rest))) := by
  subst hp
  subst hv
  refine hG _ _ (fun t ht => ?_) k
  exact XS.lconst X.here hx rfl hd ht
theorem g_dconst0 (hG : Cl p e below G) (X : Stand p l e R s m args below meth c T locs cells slots) (hx : p.tables.exec = Jvm.exec) {v : UInt64} (hd : decode c.code pc = .ok (.dconst 0, 1)) (hp : pc' = pc + 1) (hv : FP.dconst0 = v) (k : G (T.setTop (mkF m pc' Ls (.double v :: rest)))) : G (T.setTop (mkF m pc Ls (rest))) := by
  subst hp
  subst hv
  refine hG _ _ (fun t ht => ?_) k
  exact XS.dconst0 X.here hx rfl hd rfl ht
theorem g_dconst1 (hG : Cl p e below G) (X : Stand p l e R s m args below meth c T locs cells slots) (hx : p.tables.exec = Jvm.exec) {v : UInt64} (hd : decode c.code pc = .ok (.dconst 1, 1)) (hp : pc' = pc + 1) (hv : FP.dconst1 = v) (k : G (T.setTop (mkF m pc' Ls (.double v :: rest)))) : G (T.setTop (mkF m pc Ls (rest))) := by
  subst hp
  subst hv
  refine hG _ _ (fun t ht => ?_) k
  exact XS.dconst1 X.here hx rfl hd rfl ht
theorem g_aconstNull (hG : Cl p e below G) (X : Stand p l e R s m args below meth c T locs cells slots) (hx : p.tables.exec = Jvm.exec)  (hd : decode c.code pc = .ok (.aconst_null, 1)) (hp : pc' = pc + 1) (k : G (T.setTop (mkF m pc' Ls (.null :: rest)))) : G (T.setTop (mkF m pc Ls (rest))) := by
  subst hp
  refine hG _ _ (fun t ht => ?_) k
  exact XS.aconstNull X.here hx rfl hd ht
theorem g_iadd (hG : Cl p e below G) (X : Stand p l e R s m args below meth c T locs cells slots) (hx : p.tables.exec = Jvm.exec) {x y v : Int32} (hd : decode c.code pc = .ok (.iadd, 1)) (hp : pc' = pc + 1) (hv : x + y = v) (k : G (T.setTop (mkF m pc' Ls (.int v :: rest)))) : G (T.setTop (mkF m pc Ls (.int y :: .int x :: rest))) := by
  subst hp
  subst hv
  refine hG _ _ (fun t ht => ?_) k
  exact XS.iadd X.here hx rfl hd rfl ht
theorem g_ladd (hG : Cl p e below G) (X : Stand p l e R s m args below meth c T locs cells slots) (hx : p.tables.exec = Jvm.exec) {x y v : Int64} (hd : decode c.code pc = .ok (.ladd, 1)) (hp : pc' = pc + 1) (hv : x + y = v) (k : G (T.setTop (mkF m pc' Ls (.long v :: rest)))) : G (T.setTop (mkF m pc Ls (.long y :: .long x :: rest))) := by
  subst hp
  subst hv
  refine hG _ _ (fun t ht => ?_) k
  exact XS.ladd X.here hx rfl hd rfl ht
theorem g_isub (hG : Cl p e below G) (X : Stand p l e R s m args below meth c T locs cells slots) (hx : p.tables.exec = Jvm.exec) {x y v : Int32} (hd : decode c.code pc = .ok (.isub, 1)) (hp : pc' = pc + 1) (hv : x - y = v) (k : G (T.setTop (mkF m pc' Ls (.int v :: rest)))) : G (T.setTop (mkF m pc Ls (.int y :: .int x :: rest))) := by
  subst hp
  subst hv
  refine hG _ _ (fun t ht => ?_) k
  exact XS.isub X.here hx rfl hd rfl ht
theorem g_lsub (hG : Cl p e below G) (X : Stand p l e R s m args below meth c T locs cells slots) (hx : p.tables.exec = Jvm.exec) {x y v : Int64} (hd : decode c.code pc = .ok (.lsub, 1)) (hp : pc' = pc + 1) (hv : x - y = v) (k : G (T.setTop (mkF m pc' Ls (.long v :: rest)))) : G (T.setTop (mkF m pc Ls (.long y :: .long x :: rest))) := by
  subst hp
  subst hv
  refine hG _ _ (fun t ht => ?_) k
  exact XS.lsub X.here hx rfl hd rfl ht
theorem g_imul (hG : Cl p e below G) (X : Stand p l e R s m args below meth c T locs cells slots) (hx : p.tables.exec = Jvm.exec) {x y v : Int32} (hd : decode c.code pc = .ok (.imul, 1)) (hp : pc' = pc + 1) (hv : x * y = v) (k : G (T.setTop (mkF m pc' Ls (.int v :: rest)))) : G (T.setTop (mkF m pc Ls (.int y :: .int x :: rest))) := by
  subst hp
  subst hv
  refine hG _ _ (fun t ht => ?_) k
  exact XS.imul X.here hx rfl hd rfl ht
theorem g_lmul (hG : Cl p e below G) (X : Stand p l e R s m args below meth c T locs cells slots) (hx : p.tables.exec = Jvm.exec) {x y v : Int64} (hd : decode c.code pc = .ok (.lmul, 1)) (hp : pc' = pc + 1) (hv : x * y = v) (k : G (T.setTop (mkF m pc' Ls (.long v :: rest)))) : G (T.setTop (mkF m pc Ls (.long y :: .long x :: rest))) := by
  subst hp
  subst hv
  refine hG _ _ (fun t ht => ?_) k
  exact XS.lmul X.here hx rfl hd rfl ht
theorem g_iand (hG : Cl p e below G) (X : Stand p l e R s m args below meth c T locs cells slots) (hx : p.tables.exec = Jvm.exec) {x y v : Int32} (hd : decode c.code pc = .ok (.iand, 1)) (hp : pc' = pc + 1) (hv : x &&& y = v) (k : G (T.setTop (mkF m pc' Ls (.int v :: rest)))) : G (T.setTop (mkF m pc Ls (.int y :: .int x :: rest))) := by
  subst hp
  subst hv
  refine hG _ _ (fun t ht => ?_) k
  exact XS.iand X.here hx rfl hd rfl ht
theorem g_land (hG : Cl p e below G) (X : Stand p l e R s m args below meth c T locs cells slots) (hx : p.tables.exec = Jvm.exec) {x y v : Int64} (hd : decode c.code pc = .ok (.land, 1)) (hp : pc' = pc + 1) (hv : x &&& y = v) (k : G (T.setTop (mkF m pc' Ls (.long v :: rest)))) : G (T.setTop (mkF m pc Ls (.long y :: .long x :: rest))) := by
  subst hp
  subst hv
  refine hG _ _ (fun t ht => ?_) k
  exact XS.land X.here hx rfl hd rfl ht
theorem g_ior (hG : Cl p e below G) (X : Stand p l e R s m args below meth c T locs cells slots) (hx : p.tables.exec = Jvm.exec) {x y v : Int32} (hd : decode c.code pc = .ok (.ior, 1)) (hp : pc' = pc + 1) (hv : x ||| y = v) (k : G (T.setTop (mkF m pc' Ls (.int v :: rest)))) : G (T.setTop (mkF m pc Ls (.int y :: .int x :: rest))) := by
  subst hp
  subst hv
  refine hG _ _ (fun t ht => ?_) k
  exact XS.ior X.here hx rfl hd rfl ht
theorem g_lor (hG : Cl p e below G) (X : Stand p l e R s m args below meth c T locs cells slots) (hx : p.tables.exec = Jvm.exec) {x y v : Int64} (hd : decode c.code pc = .ok (.lor, 1)) (hp : pc' = pc + 1) (hv : x ||| y = v) (k : G (T.setTop (mkF m pc' Ls (.long v :: rest)))) : G (T.setTop (mkF m pc Ls (.long y :: .long x :: rest))) := by
  subst hp
  subst hv
  refine hG _ _ (fun t ht => ?_) k
  exact XS.lor X.here hx rfl hd rfl ht
theorem g_ixor (hG : Cl p e below G) (X : Stand p l e R s m args below meth c T locs cells slots) (hx : p.tables.exec = Jvm.exec) {x y v : Int32} (hd : decode c.code pc = .ok (.ixor, 1)) (hp : pc' = pc + 1) (hv : x ^^^ y = v) (k : G (T.setTop (mkF m pc' Ls (.int v :: rest)))) : G (T.setTop (mkF m pc Ls (.int y :: .int x :: rest))) := by
  subst hp
  subst hv
  refine hG _ _ (fun t ht => ?_) k
  exact XS.ixor X.here hx rfl hd rfl ht
theorem g_lxor (hG : Cl p e below G) (X : Stand p l e R s m args below meth c T locs cells slots) (hx : p.tables.exec = Jvm.exec) {x y v : Int64} (hd : decode c.code pc = .ok (.lxor, 1)) (hp : pc' = pc + 1) (hv : x ^^^ y = v) (k : G (T.setTop (mkF m pc' Ls (.long v :: rest)))) : G (T.setTop (mkF m pc Ls (.long y :: .long x :: rest))) := by
  subst hp
  subst hv
  refine hG _ _ (fun t ht => ?_) k
  exact XS.lxor X.here hx rfl hd rfl ht
theorem g_ineg (hG : Cl p e below G) (X : Stand p l e R s m args below meth c T locs cells slots) (hx : p.tables.exec = Jvm.exec) {x v : Int32} (hd : decode c.code pc = .ok (.ineg, 1)) (hp : pc' = pc + 1) (hv : -x = v) (k : G (T.setTop (mkF m pc' Ls (.int v :: rest)))) : G (T.setTop (mkF m pc Ls (.int x :: rest))) := by
  subst hp
  subst hv
  refine hG _ _ (fun t ht => ?_) k
  exact XS.ineg X.here hx rfl hd rfl ht
theorem g_lneg (hG : Cl p e below G) (X : Stand p l e R s m args below meth c T locs cells slots) (hx : p.tables.exec = Jvm.exec) {x v : Int64} (hd : decode c.code pc = .ok (.lneg, 1)) (hp : pc' = pc + 1) (hv : -x = v) (k : G (T.setTop (mkF m pc' Ls (.long v :: rest)))) : G (T.setTop (mkF m pc Ls (.long x :: rest))) := by
  subst hp
  subst hv
  refine hG _ _ (fun t ht => ?_) k
  exact XS.lneg X.here hx rfl hd rfl ht
theorem g_i2l (hG : Cl p e below G) (X : Stand p l e R s m args below meth c T locs cells slots) (hx : p.tables.exec = Jvm.exec) {x : Int32} {v : Int64} (hd : decode c.code pc = .ok (.i2l, 1)) (hp : pc' = pc + 1) (hv : x.toInt64 = v) (k : G (T.setTop (mkF m pc' Ls (.long v :: rest)))) : G (T.setTop (mkF m pc Ls (.int x :: rest))) := by
  subst hp
  subst hv
  refine hG _ _ (fun t ht => ?_) k
  exact XS.i2l X.here hx rfl hd rfl ht
theorem g_l2i (hG : Cl p e below G) (X : Stand p l e R s m args below meth c T locs cells slots) (hx : p.tables.exec = Jvm.exec) {x : Int64} {v : Int32} (hd : decode c.code pc = .ok (.l2i, 1)) (hp : pc' = pc + 1) (hv : x.toInt32 = v) (k : G (T.setTop (mkF m pc' Ls (.int v :: rest)))) : G (T.setTop (mkF m pc Ls (.long x :: rest))) := by
  subst hp
  subst hv
  refine hG _ _ (fun t ht => ?_) k
  exact XS.l2i X.here hx rfl hd rfl ht
theorem g_i2c (hG : Cl p e below G) (X : Stand p l e R s m args below meth c T locs cells slots) (hx : p.tables.exec = Jvm.exec) {x v : Int32} (hd : decode c.code pc = .ok (.i2c, 1)) (hp : pc' = pc + 1) (hv : x.toUInt32.toUInt16.toUInt32.toInt32 = v) (k : G (T.setTop (mkF m pc' Ls (.int v :: rest)))) : G (T.setTop (mkF m pc Ls (.int x :: rest))) := by
  subst hp
  subst hv
  refine hG _ _ (fun t ht => ?_) k
  exact XS.i2c X.here hx rfl hd rfl ht
theorem g_i2b (hG : Cl p e below G) (X : Stand p l e R s m args below meth c T locs cells slots) (hx : p.tables.exec = Jvm.exec) {x v : Int32} (hd : decode c.code pc = .ok (.i2b, 1)) (hp : pc' = pc + 1) (hv : x.toInt8.toInt32 = v) (k : G (T.setTop (mkF m pc' Ls (.int v :: rest)))) : G (T.setTop (mkF m pc Ls (.int x :: rest))) := by
  subst hp
  subst hv
  refine hG _ _ (fun t ht => ?_) k
  exact XS.i2b X.here hx rfl hd rfl ht
theorem g_ishl (hG : Cl p e below G) (X : Stand p l e R s m args below meth c T locs cells slots) (hx : p.tables.exec = Jvm.exec) {x y v : Int32} (hd : decode c.code pc = .ok (.ishl, 1)) (hp : pc' = pc + 1) (hv : x <<< (y &&& 31) = v) (k : G (T.setTop (mkF m pc' Ls (.int v :: rest)))) : G (T.setTop (mkF m pc Ls (.int y :: .int x :: rest))) := by
  subst hp
  subst hv
  refine hG _ _ (fun t ht => ?_) k
  exact XS.ishl X.here hx rfl hd rfl ht
theorem g_ishr (hG : Cl p e below G) (X : Stand p l e R s m args below meth c T locs cells slots) (hx : p.tables.exec = Jvm.exec) {x y v : Int32} (hd : decode c.code pc = .ok (.ishr, 1)) (hp : pc' = pc + 1) (hv : x >>> (y &&& 31) = v) (k : G (T.setTop (mkF m pc' Ls (.int v :: rest)))) : G (T.setTop (mkF m pc Ls (.int y :: .int x :: rest))) := by
  subst hp
  subst hv
  refine hG _ _ (fun t ht => ?_) k
  exact XS.ishr X.here hx rfl hd rfl ht
theorem g_iushr (hG : Cl p e below G) (X : Stand p l e R s m args below meth c T locs cells slots) (hx : p.tables.exec = Jvm.exec) {x y v : Int32} (hd : decode c.code pc = .ok (.iushr, 1)) (hp : pc' = pc + 1) (hv : (x.toUInt32 >>> (y &&& 31).toUInt32).toInt32 = v) (k : G (T.setTop (mkF m pc' Ls (.int v :: rest)))) : G (T.setTop (mkF m pc Ls (.int y :: .int x :: rest))) := by
  subst hp
  subst hv
  refine hG _ _ (fun t ht => ?_) k
  exact XS.iushr X.here hx rfl hd rfl ht
theorem g_lshl (hG : Cl p e below G) (X : Stand p l e R s m args below meth c T locs cells slots) (hx : p.tables.exec = Jvm.exec) {x : Int64} {y : Int32} {v : Int64} (hd : decode c.code pc = .ok (.lshl, 1)) (hp : pc' = pc + 1) (hv : x <<< (y &&& 0x3f).toInt64 = v) (k : G (T.setTop (mkF m pc' Ls (.long v :: rest)))) : G (T.setTop (mkF m pc Ls (.int y :: .long x :: rest))) := by
  subst hp
  subst hv
  refine hG _ _ (fun t ht => ?_) k
  exact XS.lshl X.here hx rfl hd rfl ht
theorem g_lshr (hG : Cl p e below G) (X : Stand p l e R s m args below meth c T locs cells slots) (hx : p.tables.exec = Jvm.exec) {x : Int64} {y : Int32} {v : Int64} (hd : decode c.code pc = .ok (.lshr, 1)) (hp : pc' = pc + 1) (hv : x >>> (y &&& 0x3f).toInt64 = v) (k : G (T.setTop (mkF m pc' Ls (.long v :: rest)))) : G (T.setTop (mkF m pc Ls (.int y :: .long x :: rest))) := by
  subst hp
  subst hv
  refine hG _ _ (fun t ht => ?_) k
  exact XS.lshr X.here hx rfl hd rfl ht
theorem g_lcmp (hG : Cl p e below G) (X : Stand p l e R s m args below meth c T locs cells slots) (hx : p.tables.exec = Jvm.exec) {x y : Int64} {v : Int32} (hd : decode c.code pc = .ok (.lcmp, 1)) (hp : pc' = pc + 1) (hv : lcmpW x y = v) (k : G (T.setTop (mkF m pc' Ls (.int v :: rest)))) : G (T.setTop (mkF m pc Ls (.long y :: .long x :: rest))) := by
  subst hp
  subst hv
  refine hG _ _ (fun t ht => ?_) k
  exact XS.lcmp X.here hx rfl hd rfl ht
theorem g_irem (hG : Cl p e below G) (X : Stand p l e R s m args below meth c T locs cells slots) (hx : p.tables.exec = Jvm.exec) {x y v : Int32} (hd : decode c.code pc = .ok (.irem, 1)) (hp : pc' = pc + 1) (hy : y ≠ 0) (hv : x % y = v) (k : G (T.setTop (mkF m pc' Ls (.int v :: rest)))) : G (T.setTop (mkF m pc Ls (.int y :: .int x :: rest))) := by
  subst hp
  subst hv
  refine hG _ _ (fun t ht => ?_) k
  exact iremM X hx rfl hd rfl hy ht
theorem g_lrem (hG : Cl p e below G) (X : Stand p l e R s m args below meth c T locs cells slots) (hx : p.tables.exec = Jvm.exec) {x y v : Int64} (hd : decode c.code pc = .ok (.lrem, 1)) (hp : pc' = pc + 1) (hy : y ≠ 0) (hv : x % y = v) (k : G (T.setTop (mkF m pc' Ls (.long v :: rest)))) : G (T.setTop (mkF m pc Ls (.long y :: .long x :: rest))) := by
  subst hp hv
  rw [← lrem_mod] at k
  refine hG _ _ (fun t ht => ?_) k
  exact XS.lrem X.here hx rfl hd rfl hy ht
theorem g_idiv (hG : Cl p e below G) (X : Stand p l e R s m args below meth c T locs cells slots) (hx : p.tables.exec = Jvm.exec) {x y v : Int32} (hd : decode c.code pc = .ok (.idiv, 1)) (hp : pc' = pc + 1) (hy : y ≠ 0) (hv : x / y = v) (k : G (T.setTop (mkF m pc' Ls (.int v :: rest)))) : G (T.setTop (mkF m pc Ls (.int y :: .int x :: rest))) := by
  subst hp
  subst hv
  refine hG _ _ (fun t ht => ?_) k
  exact XS.idiv X.here hx rfl hd rfl hy ht
theorem g_dup (hG : Cl p e below G) (X : Stand p l e R s m args below meth c T locs cells slots) (hx : p.tables.exec = Jvm.exec) {x : Value} (hd : decode c.code pc = .ok (.dup, 1)) (hp : pc' = pc + 1) (hc : x.category = 1) (k : G (T.setTop (mkF m pc' Ls (x :: x :: rest)))) : G (T.setTop (mkF m pc Ls (x :: rest))) := by
  subst hp
  refine hG _ _ (fun t ht => ?_) k
  exact XS.dup X.here hx rfl hd rfl hc ht
theorem g_pop (hG : Cl p e below G) (X : Stand p l e R s m args below meth c T locs cells slots) (hx : p.tables.exec = Jvm.exec) {x : Value} (hd : decode c.code pc = .ok (.pop, 1)) (hp : pc' = pc + 1) (hc : x.category = 1) (k : G (T.setTop (mkF m pc' Ls (rest)))) : G (T.setTop (mkF m pc Ls (x :: rest))) := by
  subst hp
  refine hG _ _ (fun t ht => ?_) k
  exact XS.pop X.here hx rfl hd rfl hc ht
theorem g_dupX1 (hG : Cl p e below G) (X : Stand p l e R s m args below meth c T locs cells slots) (hx : p.tables.exec = Jvm.exec) {x y : Value} (hd : decode c.code pc = .ok (.dup_x1, 1)) (hp : pc' = pc + 1) (hc : x.category = 1) (hc' : y.category = 1) (k : G (T.setTop (mkF m pc' Ls (x :: y :: x :: rest)))) : G (T.setTop (mkF m pc Ls (x :: y :: rest))) := by
  subst hp
  refine hG _ _ (fun t ht => ?_) k
  exact XS.dupX1 X.here hx rfl hd rfl hc hc' ht
theorem g_dup2 (hG : Cl p e below G) (X : Stand p l e R s m args below meth c T locs cells slots) (hx : p.tables.exec = Jvm.exec) {x y : Value} (hd : decode c.code pc = .ok (.dup2, 1)) (hp : pc' = pc + 1) (hc : x.category = 1) (hc' : y.category = 1) (k : G (T.setTop (mkF m pc' Ls (x :: y :: x :: y :: rest)))) : G (T.setTop (mkF m pc Ls (x :: y :: rest))) := by
  subst hp
  refine hG _ _ (fun t ht => ?_) k
  exact Jvm.Free.XT.dup2 X.here hx rfl hd rfl hc hc' ht
theorem g_iinc (hG : Cl p e below G) (X : Stand p l e R s m args below meth c T locs cells slots) (hx : p.tables.exec = Jvm.exec) {i : Nat} {cst : Int} {x v : Int32} (hd : decode c.code pc = .ok (.iinc i cst, 3)) (hp : pc' = pc + 3) (hl : Ls[i]? = some (.val (.int x))) (hv : x + Int32.ofInt cst = v) (hl' : storeLocals Ls i (.int v) = some Ls') (k : G (T.setTop (mkF m pc' Ls' (rest)))) : G (T.setTop (mkF m pc Ls (rest))) := by
  subst hp
  subst hv
  refine hG _ _ (fun t ht => ?_) k
  exact XS.iinc X.here hx rfl hd hl hl' ht
theorem g_i2d (hG : Cl p e below G) (X : Stand p l e R s m args below meth c T locs cells slots) (hx : p.tables.exec = Jvm.exec) {x : Int32} {v : UInt64} (hd : decode c.code pc = .ok (.i2d, 1)) (hp : pc' = pc + 1) (hv : FP.i2d x = v) (k : G (T.setTop (mkF m pc' Ls (.double v :: rest)))) : G (T.setTop (mkF m pc Ls (.int x :: rest))) := by
  subst hp
  subst hv
  refine hG _ _ (fun t ht => ?_) k
  exact XS.i2dS X.here hx rfl hd rfl rfl ht
theorem g_l2d (hG : Cl p e below G) (X : Stand p l e R s m args below meth c T locs cells slots) (hx : p.tables.exec = Jvm.exec) {x : Int64} {v : UInt64} (hd : decode c.code pc = .ok (.l2d, 1)) (hp : pc' = pc + 1) (hv : FP.l2d x = v) (k : G (T.setTop (mkF m pc' Ls (.double v :: rest)))) : G (T.setTop (mkF m pc Ls (.long x :: rest))) := by
  subst hp
  subst hv
  refine hG _ _ (fun t ht => ?_) k
  exact XS.l2dS X.here hx rfl hd rfl rfl ht
theorem g_d2i (hG : Cl p e below G) (X : Stand p l e R s m args below meth c T locs cells slots) (hx : p.tables.exec = Jvm.exec) {x : UInt64} {v : Int32} (hd : decode c.code pc = .ok (.d2i, 1)) (hp : pc' = pc + 1) (hv : FP.d2i x = v) (k : G (T.setTop (mkF m pc' Ls (.int v :: rest)))) : G (T.setTop (mkF m pc Ls (.double x :: rest))) := by
  subst hp
  subst hv
  refine hG _ _ (fun t ht => ?_) k
  exact XS.d2iS X.here hx rfl hd rfl rfl ht
theorem g_d2l (hG : Cl p e below G) (X : Stand p l e R s m args below meth c T locs cells slots) (hx : p.tables.exec = Jvm.exec) {x : UInt64} {v : Int64} (hd : decode c.code pc = .ok (.d2l, 1)) (hp : pc' = pc + 1) (hv : FP.d2l x = v) (k : G (T.setTop (mkF m pc' Ls (.long v :: rest)))) : G (T.setTop (mkF m pc Ls (.double x :: rest))) := by
  subst hp
  subst hv
  refine hG _ _ (fun t ht => ?_) k
  exact XS.d2lS X.here hx rfl hd rfl rfl ht
theorem g_dneg (hG : Cl p e below G) (X : Stand p l e R s m args below meth c T locs cells slots) (hx : p.tables.exec = Jvm.exec) {x v : UInt64} (hd : decode c.code pc = .ok (.dneg, 1)) (hp : pc' = pc + 1) (hv : FP.dneg x = v) (k : G (T.setTop (mkF m pc' Ls (.double v :: rest)))) : G (T.setTop (mkF m pc Ls (.double x :: rest))) := by
  subst hp
  subst hv
  refine hG _ _ (fun t ht => ?_) k
  exact XS.dnegS X.here hx rfl hd rfl rfl ht
theorem g_dcmp (hG : Cl p e below G) (X : Stand p l e R s m args below meth c T locs cells slots) (hx : p.tables.exec = Jvm.exec) {x y : UInt64} {o : CmpOp} {v : Int32} (hd : decode c.code pc = .ok (.dcmp o, 1)) (hp : pc' = pc + 1) (hv : cmpValue (FP.dcmp x y) o = v) (k : G (T.setTop (mkF m pc' Ls (.int v :: rest)))) : G (T.setTop (mkF m pc Ls (.double y :: .double x :: rest))) := by
  subst hp
  subst hv
  refine hG _ _ (fun t ht => ?_) k
  exact XS.dcmpS X.here hx rfl hd rfl rfl ht
theorem g_dadd (hG : Cl p e below G) (X : Stand p l e R s m args below meth c T locs cells slots) (hx : p.tables.exec = Jvm.exec) {x y v : UInt64} (hd : decode c.code pc = .ok (.dadd, 1)) (hp : pc' = pc + 1) (hn : Jvm.Free.Fl.NoNaN64 (FP.dadd x y)) (hv : FP.dadd x y = v) (k : G (T.setTop (mkF m pc' Ls (.double v :: rest)))) : G (T.setTop (mkF m pc Ls (.double y :: .double x :: rest))) := by
  subst hp
  subst hv
  refine hG _ _ (fun t ht => ?_) k
  exact XS.daddS X.here hx rfl hd rfl hn rfl ht
theorem g_dsub (hG : Cl p e below G) (X : Stand p l e R s m args below meth c T locs cells slots) (hx : p.tables.exec = Jvm.exec) {x y v : UInt64} (hd : decode c.code pc = .ok (.dsub, 1)) (hp : pc' = pc + 1) (hn : Jvm.Free.Fl.NoNaN64 (FP.dsub x y)) (hv : FP.dsub x y = v) (k : G (T.setTop (mkF m pc' Ls (.double v :: rest)))) : G (T.setTop (mkF m pc Ls (.double y :: .double x :: rest))) := by
  subst hp
  subst hv
  refine hG _ _ (fun t ht => ?_) k
  exact XS.dsubS X.here hx rfl hd rfl hn rfl ht
theorem g_dmul (hG : Cl p e below G) (X : Stand p l e R s m args below meth c T locs cells slots) (hx : p.tables.exec = Jvm.exec) {x y v : UInt64} (hd : decode c.code pc = .ok (.dmul, 1)) (hp : pc' = pc + 1) (hn : Jvm.Free.Fl.NoNaN64 (FP.dmul x y)) (hv : FP.dmul x y = v) (k : G (T.setTop (mkF m pc' Ls (.double v :: rest)))) : G (T.setTop (mkF m pc Ls (.double y :: .double x :: rest))) := by
  subst hp
  subst hv
  refine hG _ _ (fun t ht => ?_) k
  exact XS.dmulS X.here hx rfl hd rfl hn rfl ht
theorem g_ddiv (hG : Cl p e below G) (X : Stand p l e R s m args below meth c T locs cells slots) (hx : p.tables.exec = Jvm.exec) {x y v : UInt64} (hd : decode c.code pc = .ok (.ddiv, 1)) (hp : pc' = pc + 1) (hn : Jvm.Free.Fl.NoNaN64 (FP.ddiv x y)) (hv : FP.ddiv x y = v) (k : G (T.setTop (mkF m pc' Ls (.double v :: rest)))) : G (T.setTop (mkF m pc Ls (.double y :: .double x :: rest))) := by
  subst hp
  subst hv
  refine hG _ _ (fun t ht => ?_) k
  exact XS.ddivS X.here hx rfl hd rfl hn rfl ht
theorem g_goto (hG : Cl p e below G) (X : Stand p l e R s m args below meth c T locs cells slots) (hx : p.tables.exec = Jvm.exec) {o : Int} (hd : decode c.code pc = .ok (.goto o, 3)) (ho : 0 ≤ (pc : Int) + o) (hp : ((pc : Int) + o).toNat = pc') (k : G (T.setTop (mkF m pc' Ls rest))) : G (T.setTop (mkF m pc Ls rest)) := by
  refine hG _ _ (fun t ht => ?_) k
  exact XS.goto X.here hx rfl (pc0 := pc) rfl hd ho hp ht
theorem g_ifYes (hG : Cl p e below G) (X : Stand p l e R s m args below meth c T locs cells slots) (hx : p.tables.exec = Jvm.exec) {cd : ClassFile.Cond} {x : Int32} {o : Int} (hd : decode c.code pc = .ok (.ifCond cd o, 3)) (hc : ifCond.holds cd x = true) (ho : 0 ≤ (pc : Int) + o) (hp : ((pc : Int) + o).toNat = pc') (k : G (T.setTop (mkF m pc' Ls rest))) : G (T.setTop (mkF m pc Ls (.int x :: rest))) := by
  refine hG _ _ (fun t ht => ?_) k
  exact XS.ifYes X.here hx rfl (pc0 := pc) rfl hd rfl hc ho hp ht
theorem g_ifNo (hG : Cl p e below G) (X : Stand p l e R s m args below meth c T locs cells slots) (hx : p.tables.exec = Jvm.exec) {cd : ClassFile.Cond} {x : Int32} {o : Int} (hd : decode c.code pc = .ok (.ifCond cd o, 3)) (hc : ifCond.holds cd x = false) (hp : pc' = pc + 3) (k : G (T.setTop (mkF m pc' Ls rest))) : G (T.setTop (mkF m pc Ls (.int x :: rest))) := by
  subst hp
  refine hG _ _ (fun t ht => ?_) k
  exact XS.ifNo X.here hx rfl hd rfl hc ht
theorem g_icmpYes (hG : Cl p e below G) (X : Stand p l e R s m args below meth c T locs cells slots) (hx : p.tables.exec = Jvm.exec) {cd : ClassFile.Cond} {x y : Int32} {o : Int} (hd : decode c.code pc = .ok (.if_icmp cd o, 3)) (hc : if_icmp.holds cd x y = true) (ho : 0 ≤ (pc : Int) + o) (hp : ((pc : Int) + o).toNat = pc') (k : G (T.setTop (mkF m pc' Ls rest))) : G (T.setTop (mkF m pc Ls (.int y :: .int x :: rest))) := by
  refine hG _ _ (fun t ht => ?_) k
  exact XS.icmpYes X.here hx rfl (pc0 := pc) rfl hd rfl hc ho hp ht
theorem g_icmpNo (hG : Cl p e below G) (X : Stand p l e R s m args below meth c T locs cells slots) (hx : p.tables.exec = Jvm.exec) {cd : ClassFile.Cond} {x y : Int32} {o : Int} (hd : decode c.code pc = .ok (.if_icmp cd o, 3)) (hc : if_icmp.holds cd x y = false) (hp : pc' = pc + 3) (k : G (T.setTop (mkF m pc' Ls rest))) : G (T.setTop (mkF m pc Ls (.int y :: .int x :: rest))) := by
  subst hp
  refine hG _ _ (fun t ht => ?_) k
  exact XS.icmpNo X.here hx rfl hd rfl hc ht
theorem g_ifnullYes (hG : Cl p e below G) (X : Stand p l e R s m args below meth c T locs cells slots) (hx : p.tables.exec = Jvm.exec) {o : Int} (hd : decode c.code pc = .ok (.ifnull o, 3)) (ho : 0 ≤ (pc : Int) + o) (hp : ((pc : Int) + o).toNat = pc') (k : G (T.setTop (mkF m pc' Ls rest))) : G (T.setTop (mkF m pc Ls (.null :: rest))) := by
  refine hG _ _ (fun t ht => ?_) k
  exact XS.ifnullYes X.here hx rfl (pc0 := pc) rfl hd rfl ho hp ht
theorem g_ifnullNo (hG : Cl p e below G) (X : Stand p l e R s m args below meth c T locs cells slots) (hx : p.tables.exec = Jvm.exec) {o : Int} {b : Addr} (hd : decode c.code pc = .ok (.ifnull o, 3)) (hp : pc' = pc + 3) (k : G (T.setTop (mkF m pc' Ls rest))) : G (T.setTop (mkF m pc Ls (.ref b :: rest))) := by
  subst hp
  refine hG _ _ (fun t ht => ?_) k
  exact XS.ifnullNo X.here hx rfl hd rfl ht
theorem g_ifnonnullYes (hG : Cl p e below G) (X : Stand p l e R s m args below meth c T locs cells slots) (hx : p.tables.exec = Jvm.exec) {o : Int} {b : Addr} (hd : decode c.code pc = .ok (.ifnonnull o, 3)) (ho : 0 ≤ (pc : Int) + o) (hp : ((pc : Int) + o).toNat = pc') (k : G (T.setTop (mkF m pc' Ls rest))) : G (T.setTop (mkF m pc Ls (.ref b :: rest))) := by
  refine hG _ _ (fun t ht => ?_) k
  exact XS.ifnonnullYes X.here hx rfl (pc0 := pc) rfl hd rfl ho hp ht
theorem g_ifnonnullNo (hG : Cl p e below G) (X : Stand p l e R s m args below meth c T locs cells slots) (hx : p.tables.exec = Jvm.exec) {o : Int} (hd : decode c.code pc = .ok (.ifnonnull o, 3)) (hp : pc' = pc + 3) (k : G (T.setTop (mkF m pc' Ls rest))) : G (T.setTop (mkF m pc Ls (.null :: rest))) := by
  subst hp
  refine hG _ _ (fun t ht => ?_) k
  exact XS.ifnonnullNo X.here hx rfl hd rfl ht
theorem g_acmp (hG : Cl p e below G) (X : Stand p l e R s m args below meth c T locs cells slots) (hx : p.tables.exec = Jvm.exec) {cd : ACond} {x y : Value} (h1 : x.isRef = true) (h2 : y.isRef = true) {o : Int} {same : Bool} (hd : decode c.code pc = .ok (.if_acmp cd o, 3)) (hq : decide (x = y) = same) (ho : 0 ≤ (pc : Int) + o) (hp : pc' = if acV cd same = true then ((pc : Int) + o).toNat else pc + 3) (k : G (T.setTop (mkF m pc' Ls rest))) : G (T.setTop (mkF m pc Ls (y :: x :: rest))) := by
  refine hG _ _ (fun t ht => ?_) k
  exact Jvm.RoadKit.acmp (g := mkF m pc Ls (y :: x :: rest)) X hx rfl h1 h2 (pc0 := pc) rfl hd rfl hq ho hp ht
/-! constants -/
theorem g_ldcInt (hG : Cl p e below G) (X : Stand p l e R s m args below meth c T locs cells slots) (hx : p.tables.exec = Jvm.exec) (hZ : Z.Warmed39 s.vm) {own : String} {index : Nat} {v : Int32} (hown : s.vm.findClass own = some m.cls) (w : (Jvm.Cond.constant own index v).before a0 Z = true) (hd : decode c.code pc = .ok (.ldc index, 2)) (hp : pc' = pc + 2) (k : G (T.setTop (mkF m pc' Ls (.int v :: rest)))) : G (T.setTop (mkF m pc Ls rest)) := by
  subst hp
  refine hG _ _ (fun t ht => ?_) k
  exact X.ldcInt hx hown (mvT hZ w) (g := mkF m pc Ls rest) rfl hd t ht
theorem g_ldcLong (hG : Cl p e below G) (X : Stand p l e R s m args below meth c T locs cells slots) (hx : p.tables.exec = Jvm.exec) (hZ : Z.Warmed39 s.vm) {own : String} {index : Nat} {v : Int64} (hown : s.vm.findClass own = some m.cls) (w : (Jvm.Cond.constantLong own index v).before a0 Z = true) (hd : decode c.code pc = .ok (.ldc2_w index, 3)) (hp : pc' = pc + 3) (k : G (T.setTop (mkF m pc' Ls (.long v :: rest)))) : G (T.setTop (mkF m pc Ls rest)) := by
  subst hp
  refine hG _ _ (fun t ht => ?_) k
  exact X.ldc2Long hx hown (mvT hZ w) (g := mkF m pc Ls rest) rfl hd t ht
theorem g_ldcDouble (hG : Cl p e below G) (X : Stand p l e R s m args below meth c T locs cells slots) (hx : p.tables.exec = Jvm.exec) (hZ : Z.Warmed39 s.vm) {own : String} {index : Nat} {v : UInt64} (hown : s.vm.findClass own = some m.cls) (w : (Jvm.Cond.constantDouble own index v).before a0 Z = true) (hd : decode c.code pc = .ok (.ldc2_w index, 3)) (hp : pc' = pc + 3) (k : G (T.setTop (mkF m pc' Ls (.double v :: rest)))) : G (T.setTop (mkF m pc Ls rest)) := by
  subst hp
  refine hG _ _ (fun t ht => ?_) k
  exact X.ldc2DoubleC hx hown (mvT hZ w) (g := mkF m pc Ls rest) rfl hd t ht
/-! fields -/
theorem g_getF (hG : Cl p e below G) (X : Stand p l e R s m args below meth c T locs cells slots) (hx : p.tables.exec = Jvm.exec) (hZ : Z.Warmed39 s.vm) {own R0 O n d : String} {index : Nat} (hown : s.vm.findClass own = some m.cls) (w : (Jvm.Cond.fieldLink own index R0 n d).before a0 Z = true) (via : Via Z R0 O n d) (eT : T.heap = h) {a : Addr} {v : Value} (F : Fld Z h a O n d v) (hd : decode c.code pc = .ok (.getfield index, 3)) (hp : pc' = pc + 3)
    (k : ∀ T', Stand p l e R s m args below meth c T' locs cells slots → T'.heap = h → G (T'.setTop (mkF m pc' Ls (v :: rest)))) : G (T.setTop (mkF m pc Ls (.ref a :: rest))) := by
  subst hp
  obtain ⟨T', X', e', st⟩ := getF X hx hZ hown (host := "") (Or.inl w) via eT F (g := mkF m pc Ls (.ref a :: rest)) rfl rfl hd
  exact hG _ _ st (k T' X' e')
theorem g_putF (hG : Cl p e below G) (X : Stand p l e R s m args below meth c T locs cells slots) (hx : p.tables.exec = Jvm.exec) (hZ : Z.Warmed39 s.vm) {own R0 O n d C : String} {index kk : Nat} {ty : FieldType} (hown : s.vm.findClass own = some m.cls) (w : (Jvm.Cond.fieldLink own index R0 n d).before a0 Z = true) (via : Via Z R0 O n d) (eT : T.heap = h) {a : Addr} {v v' old : Value} (F : Fld Z h a O n d old) (E : Exa Z h a C)
    (L : (Jvm.Cond.lays C O n d).before a0 Z = true ∨ ((Jvm.Cond.laysFinal C O n d).before a0 Z = true ∧ own = O ∧ meth.name = "<init>")) (wi : (Jvm.Cond.instantiable C kk).before a0 Z = true) (hty : parseFieldDescriptor d = some ty) (hn : narrow ty v = v') (hf : fits ty v' = true) (hd : decode c.code pc = .ok (.putfield index, 3)) (hp : pc' = pc + 3)
    (k : ∀ T' h', Stand p l e R s m args below meth c T' (locs ++ [⟨a, Jvm.RoadKit.slotOf Z O n d⟩]) cells slots → T'.heap = h' → Wr h h' a (Jvm.RoadKit.slotOf Z O n d) v' → G (T'.setTop (mkF m pc' Ls rest))) : G (T.setTop (mkF m pc Ls (v :: .ref a :: rest))) := by
  subst hp
  obtain ⟨T', h', X', e', W, st⟩ := putFN X hx hZ hown w via eT F E L wi hty hn hf (g := mkF m pc Ls (v :: .ref a :: rest)) rfl rfl hd
  exact hG _ _ st (k T' h' X' e' W)
theorem g_newO (hG : Cl p e below G) (X : Stand p l e R s m args below meth c T locs cells slots) (hx : p.tables.exec = Jvm.exec) (hZ : Z.Warmed39 s.vm) {own C : String} {index n : Nat} (hown : s.vm.findClass own = some m.cls) (w : (Jvm.Cond.classLink own index C).before a0 Z = true) (wi : (Jvm.Cond.instantiable C n).before a0 Z = true) (wz : (Jvm.Cond.initialized C).before a0 Z = true) (eT : T.heap = h) (hd : decode c.code pc = .ok (.new index, 3)) (hc : cells + 1 ≤ R.cells) (hl : slots + n ≤ R.slots) (hp : pc' = pc + 3)
    (k : ∀ T' h' b, b = h.size → Stand p l e R s m args below meth c T' locs (cells + 1) (slots + n) → T'.heap = h' → Ext h h' → Exa Z h' b C → (∀ {O nm d : String} {ty : FieldType}, Laid Z a0 C O nm d → parseFieldDescriptor d = some ty → Fld Z h' b O nm d (defaultValue ty)) → G (T'.setTop (mkF m pc' Ls (.ref b :: rest)))) : G (T.setTop (mkF m pc Ls rest)) := by
  subst hp
  obtain ⟨T', h', X', e', E, A, D, -, st⟩ := newO X hx hZ hown w wi wz eT (g := mkF m pc Ls rest) rfl hd hc hl
  exact hG _ _ st (k T' h' _ rfl X' e' E A D)
theorem g_initO (hG : Cl p e below G) (X : Stand p l e R s m args below meth c T locs cells slots) (hx : p.tables.exec = Jvm.exec) (hZ : Z.Warmed39 s.vm) {own : String} {index : Nat} (hown : s.vm.findClass own = some m.cls) (w1 : (Jvm.Cond.methodLink own index Lib.objectInit).before a0 Z = true) (w2 : (Jvm.Cond.instanceMethod Lib.objectInit).before a0 Z = true) (w3 : (Jvm.Cond.code Lib.objectInit ⟨#[0xb1]⟩ 1 none).before a0 Z = true) (eT : T.heap = h) {a : Addr}
    (hsz : Ls.size = c.maxLocals) (hd : decode c.code pc = .ok (.invokespecial index, 3)) (hfr : 1 ≤ R.frames) (hlo : (rest.map fun v => v.category).sum + 12 ≤ R.locals) (hp : pc' = pc + 3)
    (k : ∀ T', Stand p l e R s m args below meth c T' locs cells slots → T'.heap = h → G (T'.setTop (mkF m pc' Ls rest))) : G (T.setTop (mkF m pc Ls (.ref a :: rest))) := by
  subst hp
  obtain ⟨T', X', e', st⟩ := initO X hx hZ hown w1 w2 w3 eT (g := mkF m pc Ls (.ref a :: rest)) rfl hsz rfl hd hfr (W := (rest.map fun v => v.category).sum) (by show 2 * 0 + _ ≤ _; omega) hlo
  exact hG _ _ st (k T' X' e')
/-! arrays -/
theorem g_newP (hG : Cl p e below G) (X : Stand p l e R s m args below meth c T locs cells slots) (hx : p.tables.exec = Jvm.exec) (hZ : Z.Warmed39 s.vm) {aty : ArrayType} (w : (Jvm.Cond.arrayClass (newarray.typeOf aty)).before a0 Z = true) (eT : T.heap = h) {n : Int32} (hd : decode c.code pc = .ok (.newarray aty, 2)) (hn : ¬ n < 0) (cap : Nat) (hcap : n.toNatClampNeg ≤ cap) (hb : cap * 8 ≤ 536870912) (hc : cells + 1 ≤ R.cells) (hl : slots + cap ≤ R.slots) (hp : pc' = pc + 2)
    (k : ∀ T' h' b kA, b = h.size → Stand p l e R s m args below meth c T' locs (cells + 1) (slots + cap) → T'.heap = h' → Ext h h' → Arv Z h' b kA (newarray.typeOf aty) n [] (defaultValue (newarray.typeOf aty)) → G (T'.setTop (mkF m pc' Ls (.ref b :: rest)))) : G (T.setTop (mkF m pc Ls (.int n :: rest))) := by
  subst hp
  obtain ⟨T', h', kA, X', e', E, A, st⟩ := newP X hx hZ w eT (g := mkF m pc Ls (.int n :: rest)) rfl hd rfl hn hcap hb hc hl
  exact hG _ _ st (k T' h' _ kA rfl X' e' E (Arv.new A hn))

/-! arrays, with all that they hold -/
def AV (Z : State) (h : Heap) (a : Addr) (ty : FieldType) (n : Int32) (vs : List Value) : Prop := ∃ k, Arv Z h a k ty n vs (defaultValue ty) ∧ vs.length = n.toNatClampNeg
theorem AV.lt {a : Addr} {ty : FieldType} {n : Int32} {vs : List Value} (A : AV Z h a ty n vs) : a < h.size := by obtain ⟨k, A, -⟩ := A; exact A.lt
theorem AV.ext {h' : Heap} {a : Addr} {ty : FieldType} {n : Int32} {vs : List Value} (A : AV Z h a ty n vs) (E : Ext h h') : AV Z h' a ty n vs := by obtain ⟨k, A, q⟩ := A; exact ⟨k, A.ext E, q⟩
theorem AV.other {h' : Heap} {a b : Addr} {sl : Nat} {v : Value} {ty : FieldType} {n : Int32} {vs : List Value} (A : AV Z h a ty n vs) (W : Wr h h' b sl v) (q : a ≠ b) : AV Z h' a ty n vs := by obtain ⟨k, A, r⟩ := A; exact ⟨k, A.other W q, r⟩
theorem AV.keep {h' : Heap} {a : Addr} {ws : List Addr} {ty : FieldType} {n : Int32} {vs : List Value} (A : AV Z h a ty n vs) (K : Keep h h' ws) (q : a ∉ ws) : AV Z h' a ty n vs := by obtain ⟨k, A, r⟩ := A; exact ⟨k, A.keep K q, r⟩
theorem AV.new {a : Addr} {k : ClassId} {ty : FieldType} {n : Int32} (A : Arv Z h a k ty n [] (defaultValue ty)) : AV Z h a ty n (List.replicate n.toNatClampNeg (defaultValue ty)) := ⟨k, A.pad (fun i => by have q := pad_rep [] (defaultValue ty) n.toNatClampNeg i; simpa using q), by simp⟩
theorem AV.at {a : Addr} {ty : FieldType} {n : Int32} {vs : List Value} (A : AV Z h a ty n vs) {j : Int32} {v : Value} (hj : ¬ j < 0) (hv : vs[j.toNatClampNeg]? = some v) :
    ∃ c, Arr Z h a c ty ∧ ¬ (j < 0 ∨ c.slots.size ≤ j.toNatClampNeg) ∧ c.slots[j.toNatClampNeg]? = some v := by
  obtain ⟨k, ⟨c, A, q1, S, q3, H, Gf⟩, q⟩ := A
  have hl : j.toNatClampNeg < vs.length := (List.getElem?_eq_some_iff.mp hv).1
  have hin : ¬ (j < 0 ∨ c.slots.size ≤ j.toNatClampNeg) := fun z => z.elim hj (fun y => by omega)
  refine ⟨c, A, hin, Has.at H hin ?_⟩
  simp [List.getD, hv]
theorem AV.set {h' : Heap} {a : Addr} {ty : FieldType} {n : Int32} {vs : List Value} (A : AV Z h a ty n vs) {j : Int32} {v : Value} (W : Wr h h' a j.toNatClampNeg v) (hv : fits ty v = true) (hl : j.toNatClampNeg < vs.length) : AV Z h' a ty n (vs.set j.toNatClampNeg v) := by
  obtain ⟨k, ⟨c, A, q1, S, q3, H, Gf⟩, q⟩ := A
  exact ⟨k, Arv.set A q1 S q3 H Gf hv W _ rfl hl, by simpa using q⟩
theorem AV.inb {a : Addr} {ty : FieldType} {n : Int32} {vs : List Value} (A : AV Z h a ty n vs) {j : Int32} (hj : ¬ j < 0) (hl : j.toNatClampNeg < vs.length) : ∃ c, Arr Z h a c ty ∧ ¬ (j < 0 ∨ c.slots.size ≤ j.toNatClampNeg) := by
  obtain ⟨k, ⟨c, A, q1, S, q3, H, Gf⟩, q⟩ := A
  exact ⟨c, A, fun z => z.elim hj (fun y => by omega)⟩
theorem g_iaload (hG : Cl p e below G) (X : Stand p l e R s m args below meth c T locs cells slots) (hx : p.tables.exec = Jvm.exec) (hZ : Z.Warmed39 s.vm) (eT : T.heap = h) {a : Addr} {n : Int32} {vs : List Value} (A : AV Z h a .int n vs) {j : Int32} {v : Value} (hj : ¬ j < 0) (hv : vs[j.toNatClampNeg]? = some v) (hd : decode c.code pc = .ok (.iaload, 1)) (hp : pc' = pc + 1) (k : G (T.setTop (mkF m pc' Ls (v :: rest)))) : G (T.setTop (mkF m pc Ls (.int j :: .ref a :: rest))) := by
  subst hp
  obtain ⟨cl, Ar, hin, hat⟩ := A.at hj hv
  refine hG _ _ (fun t ht => ?_) k
  exact X.iaload hx (by rw [eT]; exact Ar.1) (State.isArrayOf_alike hZ.alike Ar.2.1) Ar.2.2 hin hat (g := mkF m pc Ls (.int j :: .ref a :: rest)) rfl rfl hd t ht
theorem g_daload (hG : Cl p e below G) (X : Stand p l e R s m args below meth c T locs cells slots) (hx : p.tables.exec = Jvm.exec) (hZ : Z.Warmed39 s.vm) (eT : T.heap = h) {a : Addr} {n : Int32} {vs : List Value} (A : AV Z h a .double n vs) {j : Int32} {v : Value} (hj : ¬ j < 0) (hv : vs[j.toNatClampNeg]? = some v) (hd : decode c.code pc = .ok (.daload, 1)) (hp : pc' = pc + 1) (k : G (T.setTop (mkF m pc' Ls (v :: rest)))) : G (T.setTop (mkF m pc Ls (.int j :: .ref a :: rest))) := by
  subst hp
  obtain ⟨cl, Ar, hin, hat⟩ := A.at hj hv
  refine hG _ _ (fun t ht => ?_) k
  exact X.daload hx (by rw [eT]; exact Ar.1) (State.isArrayOf_alike hZ.alike Ar.2.1) Ar.2.2 hin hat (g := mkF m pc Ls (.int j :: .ref a :: rest)) rfl rfl hd t ht
theorem g_laload (hG : Cl p e below G) (X : Stand p l e R s m args below meth c T locs cells slots) (hx : p.tables.exec = Jvm.exec) (hZ : Z.Warmed39 s.vm) (eT : T.heap = h) {a : Addr} {n : Int32} {vs : List Value} (A : AV Z h a .long n vs) {j : Int32} {v : Value} (hj : ¬ j < 0) (hv : vs[j.toNatClampNeg]? = some v) (hd : decode c.code pc = .ok (.laload, 1)) (hp : pc' = pc + 1) (k : G (T.setTop (mkF m pc' Ls (v :: rest)))) : G (T.setTop (mkF m pc Ls (.int j :: .ref a :: rest))) := by
  subst hp
  obtain ⟨cl, Ar, hin, hat⟩ := A.at hj hv
  refine hG _ _ (fun t ht => ?_) k
  exact X.laload hx (by rw [eT]; exact Ar.1) (State.isArrayOf_alike hZ.alike Ar.2.1) Ar.2.2 hin hat (g := mkF m pc Ls (.int j :: .ref a :: rest)) rfl rfl hd t ht
theorem g_zaload (hG : Cl p e below G) (X : Stand p l e R s m args below meth c T locs cells slots) (hx : p.tables.exec = Jvm.exec) (hZ : Z.Warmed39 s.vm) (eT : T.heap = h) {a : Addr} {n : Int32} {vs : List Value} (A : AV Z h a .boolean n vs) {j : Int32} {v : Value} (hj : ¬ j < 0) (hv : vs[j.toNatClampNeg]? = some v) (hd : decode c.code pc = .ok (.baload, 1)) (hp : pc' = pc + 1) (k : G (T.setTop (mkF m pc' Ls (v :: rest)))) : G (T.setTop (mkF m pc Ls (.int j :: .ref a :: rest))) := by
  subst hp
  obtain ⟨cl, Ar, hin, hat⟩ := A.at hj hv
  refine hG _ _ (fun t ht => ?_) k
  exact X.baloadBooleans hx (by rw [eT]; exact Ar.1) (State.isArrayOf_alike hZ.alike Ar.2.1) Ar.2.2 hin hat (g := mkF m pc Ls (.int j :: .ref a :: rest)) rfl rfl hd t ht
theorem g_iastore (hG : Cl p e below G) (X : Stand p l e R s m args below meth c T locs cells slots) (hx : p.tables.exec = Jvm.exec) (hZ : Z.Warmed39 s.vm) (eT : T.heap = h) {a : Addr} {n : Int32} {vs : List Value} (A : AV Z h a .int n vs) {j : Int32} {x : Int32} (hj : ¬ j < 0) (hl : j.toNatClampNeg < vs.length) (hd : decode c.code pc = .ok (.iastore, 1)) (hp : pc' = pc + 1)
    (k : ∀ T' h', Stand p l e R s m args below meth c T' (locs ++ [⟨a, j.toNatClampNeg⟩]) cells slots → T'.heap = h' → Wr h h' a j.toNatClampNeg (.int x) → AV Z h' a .int n (vs.set j.toNatClampNeg (.int x)) → G (T'.setTop (mkF m pc' Ls rest))) : G (T.setTop (mkF m pc Ls (.int x :: .int j :: .ref a :: rest))) := by
  subst hp
  obtain ⟨cl, Ar, hin⟩ := A.inb hj hl
  obtain ⟨T', h', X', e', W, st⟩ := stI X hx hZ eT Ar hin (g := mkF m pc Ls (.int x :: .int j :: .ref a :: rest)) rfl rfl hd
  exact hG _ _ st (k T' h' X' e' W (A.set W rfl hl))
theorem g_dastore (hG : Cl p e below G) (X : Stand p l e R s m args below meth c T locs cells slots) (hx : p.tables.exec = Jvm.exec) (hZ : Z.Warmed39 s.vm) (eT : T.heap = h) {a : Addr} {n : Int32} {vs : List Value} (A : AV Z h a .double n vs) {j : Int32} {x : UInt64} (hj : ¬ j < 0) (hl : j.toNatClampNeg < vs.length) (hd : decode c.code pc = .ok (.dastore, 1)) (hp : pc' = pc + 1)
    (k : ∀ T' h', Stand p l e R s m args below meth c T' (locs ++ [⟨a, j.toNatClampNeg⟩]) cells slots → T'.heap = h' → Wr h h' a j.toNatClampNeg (.double x) → AV Z h' a .double n (vs.set j.toNatClampNeg (.double x)) → G (T'.setTop (mkF m pc' Ls rest))) : G (T.setTop (mkF m pc Ls (.double x :: .int j :: .ref a :: rest))) := by
  subst hp
  obtain ⟨cl, Ar, hin⟩ := A.inb hj hl
  obtain ⟨T', h', X', e', W, st⟩ := stD X hx hZ eT Ar hin (g := mkF m pc Ls (.double x :: .int j :: .ref a :: rest)) rfl rfl hd
  exact hG _ _ st (k T' h' X' e' W (A.set W rfl hl))
theorem g_lastore (hG : Cl p e below G) (X : Stand p l e R s m args below meth c T locs cells slots) (hx : p.tables.exec = Jvm.exec) (hZ : Z.Warmed39 s.vm) (eT : T.heap = h) {a : Addr} {n : Int32} {vs : List Value} (A : AV Z h a .long n vs) {j : Int32} {x : Int64} (hj : ¬ j < 0) (hl : j.toNatClampNeg < vs.length) (hd : decode c.code pc = .ok (.lastore, 1)) (hp : pc' = pc + 1)
    (k : ∀ T' h', Stand p l e R s m args below meth c T' (locs ++ [⟨a, j.toNatClampNeg⟩]) cells slots → T'.heap = h' → Wr h h' a j.toNatClampNeg (.long x) → AV Z h' a .long n (vs.set j.toNatClampNeg (.long x)) → G (T'.setTop (mkF m pc' Ls rest))) : G (T.setTop (mkF m pc Ls (.long x :: .int j :: .ref a :: rest))) := by
  subst hp
  obtain ⟨cl, Ar, hin⟩ := A.inb hj hl
  obtain ⟨T', h', X', e', W, st⟩ := stJ X hx hZ eT Ar hin (g := mkF m pc Ls (.long x :: .int j :: .ref a :: rest)) rfl rfl hd
  exact hG _ _ st (k T' h' X' e' W (A.set W rfl hl))
theorem g_zastore (hG : Cl p e below G) (X : Stand p l e R s m args below meth c T locs cells slots) (hx : p.tables.exec = Jvm.exec) (hZ : Z.Warmed39 s.vm) (eT : T.heap = h) {a : Addr} {n : Int32} {vs : List Value} (A : AV Z h a .boolean n vs) {j : Int32} {x : Int32} (hj : ¬ j < 0) (hl : j.toNatClampNeg < vs.length) (hd : decode c.code pc = .ok (.bastore, 1)) (hp : pc' = pc + 1)
    (k : ∀ T' h', Stand p l e R s m args below meth c T' (locs ++ [⟨a, j.toNatClampNeg⟩]) cells slots → T'.heap = h' → Wr h h' a j.toNatClampNeg (.int (nar .boolean x)) → AV Z h' a .boolean n (vs.set j.toNatClampNeg (.int (nar .boolean x))) → G (T'.setTop (mkF m pc' Ls rest))) : G (T.setTop (mkF m pc Ls (.int x :: .int j :: .ref a :: rest))) := by
  subst hp
  obtain ⟨cl, Ar, hin⟩ := A.inb hj hl
  obtain ⟨T', h', X', e', W, st⟩ := stZ X hx hZ eT Ar hin (g := mkF m pc Ls (.int x :: .int j :: .ref a :: rest)) rfl rfl hd
  exact hG _ _ st (k T' h' X' e' W (A.set W (fits_nar_bool _) hl))
theorem g_bbastore (hG : Cl p e below G) (X : Stand p l e R s m args below meth c T locs cells slots) (hx : p.tables.exec = Jvm.exec) (hZ : Z.Warmed39 s.vm) (eT : T.heap = h) {a : Addr} {n : Int32} {vs : List Value} (A : AV Z h a .byte n vs) {j : Int32} {x : Int32} (hj : ¬ j < 0) (hl : j.toNatClampNeg < vs.length) (hd : decode c.code pc = .ok (.bastore, 1)) (hp : pc' = pc + 1)
    (k : ∀ T' h', Stand p l e R s m args below meth c T' (locs ++ [⟨a, j.toNatClampNeg⟩]) cells slots → T'.heap = h' → Wr h h' a j.toNatClampNeg (.int x.toInt8.toInt32) → AV Z h' a .byte n (vs.set j.toNatClampNeg (.int x.toInt8.toInt32)) → G (T'.setTop (mkF m pc' Ls rest))) : G (T.setTop (mkF m pc Ls (.int x :: .int j :: .ref a :: rest))) := by
  subst hp
  obtain ⟨cl, Ar, hin⟩ := A.inb hj hl
  obtain ⟨T', h', X', e', W, st⟩ := stB X hx hZ eT Ar hin (g := mkF m pc Ls (.int x :: .int j :: .ref a :: rest)) rfl rfl hd
  exact hG _ _ st (k T' h' X' e' W (A.set W (fits_nar_byte _) hl))
theorem g_arraylength (hG : Cl p e below G) (X : Stand p l e R s m args below meth c T locs cells slots) (hx : p.tables.exec = Jvm.exec) (hZ : Z.Warmed39 s.vm) (eT : T.heap = h) {a : Addr} {ty : FieldType} {n : Int32} {vs : List Value} (A : AV Z h a ty n vs) (hd : decode c.code pc = .ok (.arraylength, 1)) (hp : pc' = pc + 1) (k : G (T.setTop (mkF m pc' Ls (.int n :: rest)))) : G (T.setTop (mkF m pc Ls (.ref a :: rest))) := by
  subst hp
  obtain ⟨kA, ⟨cl, Ar, q1, S, q3, H, Gf⟩, q⟩ := A
  rw [← len_of S q3] at k
  refine hG _ _ (fun t ht => ?_) k
  exact X.arraylength hx (by rw [eT]; exact Ar.1) (State.isArrayOf_alike hZ.alike Ar.2.1) (g := mkF m pc Ls (.ref a :: rest)) rfl rfl hd t ht
/-! calls by a contract -/
theorem g_callS (hG : Cl p e below G) (X : Stand p l e R s m args below meth c T locs cells slots) (hx : p.tables.exec = Jvm.exec) (hZ : Z.Warmed39 s.vm) {own : String} {index : Nat} {y : MethodName} {bytes : ByteArray} {maxL : Nat} {ret : Option FieldType} {rm : Room} {as : Array Value} {Qc : Option Value → Heap → List Loc → Prop} {argsL stack : List Value} {ps : List FieldType} {rt : Option FieldType} (W : Nat)
    (hown : s.vm.findClass own = some m.cls) (w1 : (Jvm.Cond.methodLink own index y).before a0 Z = true) (w2 : (Jvm.Cond.static y).before a0 Z = true) (w3 : (Jvm.Cond.initialized y.cls).before a0 Z = true) (w4 : (Jvm.Cond.code y bytes maxL ret).before a0 Z = true) (hy : y.cls ≠ "java/lang/invoke/MethodHandle" ∧ y.cls ≠ "java/lang/invoke/VarHandle")
    (hM : Con l y bytes maxL ret [] rm Z as h rm.cells rm.slots Qc) (hfr : rm.frames + 1 ≤ R.frames) (hlo : W + (maxL + 11) + rm.locals ≤ R.locals) (hsz : Ls.size = c.maxLocals) (hpd : parseMethodDescriptor y.desc = some ⟨ps, rt⟩) (hln : argsL.length = ps.length) (hst : stack = argsL.reverse ++ rest) (has : argsL.toArray = as) (hW : (rest.map fun v => v.category).sum ≤ W)
    (hd : decode c.code pc = .ok (.invokestatic index, 3)) (eT : T.heap = h) (hc : cells + rm.cells ≤ R.cells) (hs : slots + rm.slots ≤ R.slots) (hp : pc' = pc + 3)
    (k : ∀ T' v L', Stand p l e R s m args below meth c T' (locs ++ L') (cells + rm.cells) (slots + rm.slots) → Qc v T'.heap L' → G (T'.setTop (mkF m pc' Ls (v.toList ++ rest)))) : G (T.setTop (mkF m pc Ls stack)) := by
  subst hp hst has
  obtain ⟨v, _, ⟨T1, L1, k1, n1⟩, -, X1, ⟨Lc, hQ, l1, y1, z1⟩, st⟩ := Jvm.LawKit.callS X hx (y := y) hown (mvT hZ w1) (mvT hZ w2) (mvT hZ w3) (mvT hZ w4) hy (backOf (W := W) hM hZ w4 w3 hfr hlo) (g := mkF m pc Ls (argsL.reverse ++ rest)) rfl hsz (argsL := argsL) (rest := rest) (lenOf hpd hln) rfl (by show 2 * 0 + _ ≤ _; omega) hd (fun _ _ => ⟨rfl, eT, hc, hs⟩)
  dsimp only [Pt.U, Pt.locs, Pt.cells, Pt.slots] at X1 l1 y1 z1 st hQ
  subst l1 y1 z1
  exact hG _ _ st (k T1 v Lc X1 hQ)
theorem g_callI (hG : Cl p e below G) (X : Stand p l e R s m args below meth c T locs cells slots) (hx : p.tables.exec = Jvm.exec) (hZ : Z.Warmed39 s.vm) {own : String} {index : Nat} {y : MethodName} {bytes : ByteArray} {maxL : Nat} {rm : Room} {as : Array Value} {Qc : Option Value → Heap → List Loc → Prop} {a : Addr} {argsL stack : List Value} {ps : List FieldType} {rt : Option FieldType} (W : Nat)
    (hy1 : y.name = "<init>") (hown : s.vm.findClass own = some m.cls) (w1 : (Jvm.Cond.methodLink own index y).before a0 Z = true) (w2 : (Jvm.Cond.instanceMethod y).before a0 Z = true) (w3 : (Jvm.Cond.initialized y.cls).before a0 Z = true) (w4 : (Jvm.Cond.code y bytes maxL none).before a0 Z = true) (hy : y.cls ≠ "java/lang/invoke/MethodHandle" ∧ y.cls ≠ "java/lang/invoke/VarHandle")
    (hM : Con l y bytes maxL none [] rm Z as h rm.cells rm.slots Qc) (hfr : rm.frames + 1 ≤ R.frames) (hlo : W + (maxL + 11) + rm.locals ≤ R.locals) (hsz : Ls.size = c.maxLocals) (hpd : parseMethodDescriptor y.desc = some ⟨ps, rt⟩) (hln : argsL.length = ps.length) (hst : stack = argsL.reverse ++ .ref a :: rest) (has : (.ref a :: argsL).toArray = as) (hW : (rest.map fun v => v.category).sum ≤ W)
    (hd : decode c.code pc = .ok (.invokespecial index, 3)) (eT : T.heap = h) (hc : cells + rm.cells ≤ R.cells) (hs : slots + rm.slots ≤ R.slots) (hp : pc' = pc + 3)
    (k : ∀ T' v L', Stand p l e R s m args below meth c T' (locs ++ L') (cells + rm.cells) (slots + rm.slots) → Qc v T'.heap L' → G (T'.setTop (mkF m pc' Ls (v.toList ++ rest)))) : G (T.setTop (mkF m pc Ls stack)) := by
  subst hp hst has
  obtain ⟨v, _, ⟨T1, L1, k1, n1⟩, -, X1, ⟨Lc, hQ, l1, y1, z1⟩, st⟩ := X.specialBack hx (y := y) hy1 hown (mvT hZ w1) (mvT hZ w2) (mvT hZ w4) hy (backOf (W := W) hM hZ w4 w3 hfr hlo) (g := mkF m pc Ls (argsL.reverse ++ .ref a :: rest)) rfl hsz (Steps.refl _) (a := a) (argsL := argsL) (rest := rest) (lenOf hpd hln) rfl (by show 2 * 0 + _ ≤ _; omega) hd (fun _ _ => ⟨rfl, eT, hc, hs⟩)
  dsimp only [Pt.U, Pt.locs, Pt.cells, Pt.slots] at X1 l1 y1 z1 st hQ
  subst l1 y1 z1
  exact hG _ _ (fun t ht => st.trans ht) (k T1 v Lc X1 hQ)
theorem g_callV (hG : Cl p e below G) (X : Stand p l e R s m args below meth c T locs cells slots) (hx : p.tables.exec = Jvm.exec) (hZ : Z.Warmed39 s.vm) {own C : String} {index : Nat} {y : MethodName} {bytes : ByteArray} {maxL : Nat} {ret : Option FieldType} {rm : Room} {as : Array Value} {Qc : Option Value → Heap → List Loc → Prop} {a : Addr} {argsL stack : List Value} {ps : List FieldType} {rt : Option FieldType} (W : Nat)
    (hown : s.vm.findClass own = some m.cls) (w1 : (Jvm.Cond.methodLink own index y).before a0 Z = true) (w2 : (Jvm.Cond.declares y).before a0 Z = true) (ws : (Jvm.Cond.selects C y y).before a0 Z = true) (wi : (Jvm.Cond.instanceMethod y).before a0 Z = true) (w3 : (Jvm.Cond.initialized y.cls).before a0 Z = true) (w4 : (Jvm.Cond.code y bytes maxL ret).before a0 Z = true) (hy : y.cls ≠ "java/lang/invoke/MethodHandle" ∧ y.cls ≠ "java/lang/invoke/VarHandle")
    (hM : Con l y bytes maxL ret [] rm Z as h rm.cells rm.slots Qc) (hfr : rm.frames + 1 ≤ R.frames) (hlo : W + (maxL + 11) + rm.locals ≤ R.locals) (hsz : Ls.size = c.maxLocals) (hpd : parseMethodDescriptor y.desc = some ⟨ps, rt⟩) (hln : argsL.length = ps.length) (hst : stack = argsL.reverse ++ .ref a :: rest) (has : (.ref a :: argsL).toArray = as) (hW : (rest.map fun v => v.category).sum ≤ W)
    (hd : decode c.code pc = .ok (.invokevirtual index, 3)) (eT : T.heap = h) (E : Exa Z h a C) (hc : cells + rm.cells ≤ R.cells) (hs : slots + rm.slots ≤ R.slots) (hp : pc' = pc + 3)
    (k : ∀ T' v L', Stand p l e R s m args below meth c T' (locs ++ L') (cells + rm.cells) (slots + rm.slots) → Qc v T'.heap L' → G (T'.setTop (mkF m pc' Ls (v.toList ++ rest)))) : G (T.setTop (mkF m pc Ls stack)) := by
  subst hp hst has
  obtain ⟨cq, kq, qa, qb, qc⟩ := isOf hZ eT E
  obtain ⟨v, _, ⟨T1, L1, k1, n1⟩, -, X1, ⟨Lc, hQ, l1, y1, z1⟩, st⟩ := X.virtualBack hx (y := y) (z := y) hown (mvT hZ w1) (mvT hZ w2) (notFace_of_selects (args := #[]) (mvT hZ ws)) (mvT hZ ws) (mvT hZ wi) hy (backOf (W := W) hM hZ w4 w3 hfr hlo) qa qc (g := mkF m pc Ls (argsL.reverse ++ .ref a :: rest)) rfl hsz (Steps.refl _) (argsL := argsL) (rest := rest) (lenOf hpd hln) rfl (by show 2 * 0 + _ ≤ _; omega) hd (fun _ _ => ⟨rfl, eT, hc, hs⟩)
  dsimp only [Pt.U, Pt.locs, Pt.cells, Pt.slots] at X1 l1 y1 z1 st hQ
  subst l1 y1 z1
  exact hG _ _ (fun t ht => st.trans ht) (k T1 v Lc X1 hQ)
theorem g_callP (hG : Cl p e below G) (X : Stand p l e R s m args below meth c T locs cells slots) (hx : p.tables.exec = Jvm.exec) (hZ : Z.Warmed39 s.vm) {own C : String} {index : Nat} {y : MethodName} {bytes : ByteArray} {maxL : Nat} {ret : Option FieldType} {rm : Room} {as : Array Value} {Qc : Option Value → Heap → List Loc → Prop} {a : Addr} {argsL stack : List Value} {ps : List FieldType} {rt : Option FieldType} (W : Nat)
    (hown : s.vm.findClass own = some m.cls) (w1 : (Jvm.Cond.methodLink own index y).before a0 Z = true) (wi : (Jvm.Cond.instanceMethod y).before a0 Z = true) {kk : Nat} (wk : (Jvm.Cond.instantiable y.cls kk).before a0 Z = true) (wp : (Jvm.Cond.privateMethod y).before a0 Z = true) (w3 : (Jvm.Cond.initialized y.cls).before a0 Z = true) (w4 : (Jvm.Cond.code y bytes maxL ret).before a0 Z = true) (hy : y.cls ≠ "java/lang/invoke/MethodHandle" ∧ y.cls ≠ "java/lang/invoke/VarHandle")
    (hM : Con l y bytes maxL ret [] rm Z as h rm.cells rm.slots Qc) (hfr : rm.frames + 1 ≤ R.frames) (hlo : W + (maxL + 11) + rm.locals ≤ R.locals) (hsz : Ls.size = c.maxLocals) (hpd : parseMethodDescriptor y.desc = some ⟨ps, rt⟩) (hln : argsL.length = ps.length) (hst : stack = argsL.reverse ++ .ref a :: rest) (has : (.ref a :: argsL).toArray = as) (hW : (rest.map fun v => v.category).sum ≤ W)
    (hd : decode c.code pc = .ok (.invokevirtual index, 3)) (eT : T.heap = h) (E : Exa Z h a C) (hc : cells + rm.cells ≤ R.cells) (hs : slots + rm.slots ≤ R.slots) (hp : pc' = pc + 3)
    (k : ∀ T' v L', Stand p l e R s m args below meth c T' (locs ++ L') (cells + rm.cells) (slots + rm.slots) → Qc v T'.heap L' → G (T'.setTop (mkF m pc' Ls (v.toList ++ rest)))) : G (T.setTop (mkF m pc Ls stack)) := by
  subst hp hst has
  obtain ⟨cq, q1, q2⟩ := E.cell
  have hpv : s.PrivateAt y := Jvm.Cond.privateMethod_at (mvP hZ wp (args := #[]))
  obtain ⟨ck, kk', j1, j2, -, j4, -⟩ := Jvm.Cond.instantiable_spec (mvT (args := args) hZ wk)
  have ws : (Jvm.Cond.selects y.cls y y).before args s = true := selects_self_of_private j1 j2 (by simp at j4; exact j4.1) hpv (mvT hZ wi) hy
  obtain ⟨v, _, ⟨T1, L1, k1, n1⟩, -, X1, ⟨Lc, hQ, l1, y1, z1⟩, st⟩ := X.privateBack hx (y := y) hown (mvT hZ w1) (mvT hZ wi) ws hpv (mvT hZ w4) hy (backOf (W := W) hM hZ w4 w3 hfr hlo) (g := mkF m pc Ls (argsL.reverse ++ .ref a :: rest)) rfl hsz (Steps.refl _) (a := a) (by rw [eT]; exact q1) q2 (argsL := argsL) (rest := rest) (lenOf hpd hln) rfl (by show 2 * 0 + _ ≤ _; omega) hd (fun _ _ => ⟨rfl, eT, hc, hs⟩)
  dsimp only [Pt.U, Pt.locs, Pt.cells, Pt.slots] at X1 l1 y1 z1 st hQ
  subst l1 y1 z1
  exact hG _ _ (fun t ht => st.trans ht) (k T1 v Lc X1 hQ)
theorem g_natS (hG : Cl p e below G) (X : Stand p l e R s m args below meth c T locs cells slots) (hx : p.tables.exec = Jvm.exec) (hZ : Z.Warmed39 s.vm) {own : String} {index : Nat} {y : MethodName} {by0 : ByteArray} {ml : Nat} {rt : Option FieldType} {F : Array Value → Prop} {val : Value} {argsL stack : List Value} {ps : List FieldType} {rt' : Option FieldType} (W : Nat)
    (hown : s.vm.findClass own = some m.cls) (w1 : (Jvm.Cond.methodLink own index y).before a0 Z = true) (w2 : (Jvm.Cond.static y).before a0 Z = true) (w3 : (Jvm.Cond.initialized y.cls).before a0 Z = true) (w4 : (Jvm.Cond.code y by0 ml rt).before a0 Z = true) (hy : y.cls ≠ "java/lang/invoke/MethodHandle" ∧ y.cls ≠ "java/lang/invoke/VarHandle")
    (hK : (Jvm.Cond.code y by0 ml rt).before args s = true → Back l R p e below s args y 3 W (fun A a' => A.cells ≤ R.cells ∧ A.slots ≤ R.slots ∧ F a') (fun A _ v B => v = some val ∧ B = A)) (hsz : Ls.size = c.maxLocals) (hpd : parseMethodDescriptor y.desc = some ⟨ps, rt'⟩) (hln : argsL.length = ps.length) (hst : stack = argsL.reverse ++ rest) (hW : (rest.map fun v => v.category).sum ≤ W)
    (hd : decode c.code pc = .ok (.invokestatic index, 3)) (eT : T.heap = h) (hc : cells ≤ R.cells) (hs : slots ≤ R.slots) (hF : F argsL.toArray) (hp : pc' = pc + 3)
    (k : ∀ T', Stand p l e R s m args below meth c T' locs cells slots → T'.heap = h → G (T'.setTop (mkF m pc' Ls (val :: rest)))) : G (T.setTop (mkF m pc Ls stack)) := by
  subst hp hst
  obtain ⟨T', X', e', st⟩ := natS X hx hZ hown w1 w2 w3 w4 hy eT hK (g := mkF m pc Ls (argsL.reverse ++ rest)) rfl hsz (argsL := argsL) (rest := rest) (lenOf hpd hln) rfl (by show 2 * 0 + _ ≤ _; omega) hd hc hs hF rfl
  exact hG _ _ st (k T' X' e')
theorem g_getS (hG : Cl p e below G) (X : Stand p l e R s m args below meth c T locs cells slots) (hx : p.tables.exec = Jvm.exec) (hZ : Z.Warmed39 s.vm) {own R0 O n d : String} {index : Nat} (hown : s.vm.findClass own = some m.cls) (w : (Jvm.Cond.fieldLink own index R0 n d).before a0 Z = true) (via : Via Z R0 O n d) (eT : T.heap = h) {v : Value} (F : Sta Z h O n d v) (hd : decode c.code pc = .ok (.getstatic index, 3)) (hp : pc' = pc + 3)
    (k : ∀ T', Stand p l e R s m args below meth c T' locs cells slots → T'.heap = h → G (T'.setTop (mkF m pc' Ls (v :: rest)))) : G (T.setTop (mkF m pc Ls rest)) := by
  subst hp
  obtain ⟨T', X', e', st⟩ := getS2 (host := "") X hx hZ hown (Or.inl w) via eT F (g := mkF m pc Ls rest) rfl hd
  exact hG _ _ st (k T' X' e')
theorem g_castY (hG : Cl p e below G) (X : Stand p l e R s m args below meth c T locs cells slots) (hx : p.tables.exec = Jvm.exec) (hZ : Z.Warmed39 s.vm) {own K0 : String} {index : Nat} (hown : s.vm.findClass own = some m.cls) (w : (Jvm.Cond.classLink own index K0).before a0 Z = true) (eT : T.heap = h) {a : Addr} (F : Ins Z h a K0 true) (hd : decode c.code pc = .ok (.checkcast index, 3)) (hp : pc' = pc + 3)
    (k : ∀ T', Stand p l e R s m args below meth c T' locs cells slots → T'.heap = h → G (T'.setTop (mkF m pc' Ls (.ref a :: rest)))) : G (T.setTop (mkF m pc Ls (.ref a :: rest))) := by
  subst hp
  obtain ⟨T', X', e', st⟩ := castY X hx hZ hown w eT F (g := mkF m pc Ls (.ref a :: rest)) rfl rfl hd
  exact hG _ _ st (k T' X' e')
theorem g_newPE (hG : Cl p e below G) (X : Stand p l e R s m args below meth c T locs cells slots) (hx : p.tables.exec = Jvm.exec) (hZ : Z.Warmed39 s.vm) {aty : ArrayType} (w : (Jvm.Cond.arrayClass (newarray.typeOf aty)).before a0 Z = true) (eT : T.heap = h) {n : Int32} (hd : decode c.code pc = .ok (.newarray aty, 2)) (hn : ¬ n < 0) (cap : Nat) (hcap : n.toNatClampNeg ≤ cap) (hb : cap * 8 ≤ 536870912) (hc : cells + 1 ≤ R.cells) (hl : slots + cap ≤ R.slots) {ad : String} (had : "[" ++ (newarray.typeOf aty).toString = ad) (hp : pc' = pc + 2)
    (k : ∀ T' h' b, b = h.size → Stand p l e R s m args below meth c T' locs (cells + 1) (slots + cap) → T'.heap = h' → Ext h h' → AV Z h' b (newarray.typeOf aty) n (List.replicate n.toNatClampNeg (defaultValue (newarray.typeOf aty))) → Exa Z h' b ad → G (T'.setTop (mkF m pc' Ls (.ref b :: rest)))) : G (T.setTop (mkF m pc Ls (.int n :: rest))) := by
  subst hp
  obtain ⟨T', h', kA, X', e', E, A, Ex, st⟩ := newPE X hx hZ w eT (g := mkF m pc Ls (.int n :: rest)) rfl hd rfl hn hcap hb hc hl had
  exact hG _ _ st (k T' h' _ rfl X' e' E (AV.new (Arv.new A hn)) Ex)
theorem g_clone (hG : Cl p e below G) (X : Stand p l e R s m args below meth c T locs cells slots) (hx : p.tables.exec = Jvm.exec) (hZ : Z.Warmed39 s.vm) {own ad : String} {index : Nat} (hown : s.vm.findClass own = some m.cls)
    (w1 : (Jvm.Cond.methodLink own index ⟨ad, "clone", "()Ljava/lang/Object;"⟩).before a0 Z = true) (w2 : (Jvm.Cond.sameMethod ad "java/lang/Object" "clone" "()Ljava/lang/Object;").before a0 Z = true) (w3 : (Jvm.Cond.native ⟨"java/lang/Object", "clone", "()Ljava/lang/Object;"⟩).before a0 Z = true)
    (w4 : (Jvm.Cond.instanceMethod ⟨"java/lang/Object", "clone", "()Ljava/lang/Object;"⟩).before a0 Z = true) (w5 : (Jvm.Cond.selects ad ⟨ad, "clone", "()Ljava/lang/Object;"⟩ ⟨"java/lang/Object", "clone", "()Ljava/lang/Object;"⟩).before a0 Z = true) (w6 : (Jvm.Cond.castable ad "java/lang/Cloneable").before a0 Z = true)
    (eT : T.heap = h) {a : Addr} {ty : FieldType} {n : Int32} {vs : List Value} (A : AV Z h a ty n vs) (E : Exa Z h a ad) (hsz : Ls.size = c.maxLocals) (hd : decode c.code pc = .ok (.invokevirtual index, 3)) (hfr : 1 ≤ R.frames) (W cap : Nat) (hW : (rest.map fun v => v.category).sum ≤ W) (hlo : W + 14 ≤ R.locals) (hcap : n.toNatClampNeg ≤ cap) (hc : cells + 1 ≤ R.cells) (hsl : slots + cap ≤ R.slots) (hp : pc' = pc + 3)
    (k : ∀ T' h' b, b = h.size → Stand p l e R s m args below meth c T' locs (cells + 1) (slots + cap) → T'.heap = h' → Ext h h' → AV Z h' b ty n vs → Exa Z h' b ad → G (T'.setTop (mkF m pc' Ls (.ref b :: rest)))) : G (T.setTop (mkF m pc Ls (.ref a :: rest))) := by
  subst hp
  obtain ⟨kA, A, q⟩ := A
  obtain ⟨T', h', X', e', E', A', Ex, st⟩ := cloneH X hx hZ hown w1 w2 w3 w4 w5 w6 eT A.arh E (g := mkF m pc Ls (.ref a :: rest)) rfl hsz rfl hd hfr (W := W) (by show 2 * 0 + _ ≤ _; omega) hlo hcap hc hsl
  exact hG _ _ st (k T' h' _ rfl X' e' E' ⟨kA, A', q⟩ Ex)
theorem g_callVU (hG : Cl p e below G) (X : Stand p l e R s m args below meth c T locs cells slots) (hx : p.tables.exec = Jvm.exec) (hZ : Z.Warmed39 s.vm) {own C owner : String} {index : Nat} {x y : MethodName} {bytes : ByteArray} {maxL : Nat} {ret : Option FieldType} {rm : Room} {as : Array Value} {Qc : Option Value → Heap → List Loc → Prop} {a : Addr} {argsL stack : List Value} {ps : List FieldType} {rt : Option FieldType} (W : Nat)
    (hown : s.vm.findClass own = some m.cls) (w1 : (Jvm.Cond.methodLink own index x).before a0 Z = true) (wm : (Jvm.Cond.sameMethod x.cls owner x.name x.desc).before a0 Z = true) (w2 : (Jvm.Cond.declares ⟨owner, x.name, x.desc⟩).before a0 Z = true) (ho : owner ≠ "java/lang/invoke/MethodHandle" ∧ owner ≠ "java/lang/invoke/VarHandle") (ws : (Jvm.Cond.selects C x y).before a0 Z = true) (wi : (Jvm.Cond.instanceMethod y).before a0 Z = true) (w3 : (Jvm.Cond.initialized y.cls).before a0 Z = true) (w4 : (Jvm.Cond.code y bytes maxL ret).before a0 Z = true)
    (hM : Con l y bytes maxL ret [] rm Z as h rm.cells rm.slots Qc) (hfr : rm.frames + 1 ≤ R.frames) (hlo : W + (maxL + 11) + rm.locals ≤ R.locals) (hsz : Ls.size = c.maxLocals) (hpd : parseMethodDescriptor x.desc = some ⟨ps, rt⟩) (hln : argsL.length = ps.length) (hst : stack = argsL.reverse ++ .ref a :: rest) (has : (.ref a :: argsL).toArray = as) (hW : (rest.map fun v => v.category).sum ≤ W)
    (hd : decode c.code pc = .ok (.invokevirtual index, 3)) (eT : T.heap = h) (E : Exa Z h a C) (hc : cells + rm.cells ≤ R.cells) (hs : slots + rm.slots ≤ R.slots) (hp : pc' = pc + 3)
    (k : ∀ T' v L', Stand p l e R s m args below meth c T' (locs ++ L') (cells + rm.cells) (slots + rm.slots) → Qc v T'.heap L' → G (T'.setTop (mkF m pc' Ls (v.toList ++ rest)))) : G (T.setTop (mkF m pc Ls stack)) := by
  subst hp hst has
  obtain ⟨cq, kq, qa, qb, qc⟩ := isOf hZ eT E
  obtain ⟨v, _, ⟨T1, L1, k1, n1⟩, -, X1, ⟨Lc, hQ, l1, y1, z1⟩, st⟩ := X.virtualBackUp hx (x := x) (y := y) hown (mvT hZ w1) (mvT hZ wm) (mvT hZ w2) ho (mvT hZ ws) (mvT hZ wi) (backOf (W := W) hM hZ w4 w3 hfr hlo) qa qc (g := mkF m pc Ls (argsL.reverse ++ .ref a :: rest)) rfl hsz (Steps.refl _) (argsL := argsL) (rest := rest) (lenOf hpd hln) rfl (by show 2 * 0 + _ ≤ _; omega) hd (fun _ _ => ⟨rfl, eT, hc, hs⟩)
  dsimp only [Pt.U, Pt.locs, Pt.cells, Pt.slots] at X1 l1 y1 z1 st hQ
  subst l1 y1 z1
  exact hG _ _ (fun t ht => st.trans ht) (k T1 v Lc X1 hQ)
theorem g_lookup (hG : Cl p e below G) (X : Stand p l e R s m args below meth c T locs cells slots) (hx : p.tables.exec = Jvm.exec) {kk : Int32} {dflt : Int} {pairs : Array (Int × Int)} {len : Nat} (hd : decode c.code pc = .ok (.lookupswitch dflt pairs, len)) (hs : (pairs.toList.zip (pairs.toList.drop 1)).all (fun (a, next) => a.1 < next.1) = true) {a off : Int} (hf : pairs.find? (·.1 == kk.toInt) = some (a, off)) (ho : 0 ≤ (pc : Int) + off) (hp : ((pc : Int) + off).toNat = pc') (k : G (T.setTop (mkF m pc' Ls rest))) : G (T.setTop (mkF m pc Ls (.int kk :: rest))) := by
  subst hp
  refine hG _ _ (fun t ht => ?_) k
  exact X.lookupswitchHit hx (g := mkF m pc Ls (.int kk :: rest)) rfl rfl hd hs hf ho t ht
theorem g_copy (hG : Cl p e below G) (X : Stand p l e R s m args below meth c T locs cells slots) (hx : p.tables.exec = Jvm.exec) (hZ : Z.Warmed39 s.vm) {own : String} {index : Nat} (hown : s.vm.findClass own = some m.cls)
    (w1 : (Jvm.Cond.methodLink own index Jvm.Stand.acN).before a0 Z = true) (w2 : (Jvm.Cond.native Jvm.Stand.acN).before a0 Z = true) (w3 : (Jvm.Cond.static Jvm.Stand.acN).before a0 Z = true) (w4 : (Jvm.Cond.initialized "java/lang/System").before a0 Z = true) (eT : T.heap = h)
    {a b : Addr} {ty : FieldType} {n z sp dp nn : Int32} {vs vd vr : List Value} (A : AV Z h a ty n vs) (B : AV Z h b ty z vd) (hr : refKind ty = false) (h1 : ¬ sp < 0) (h2 : ¬ dp < 0) (h3 : ¬ nn < 0) (h4 : sp.toNatClampNeg + nn.toNatClampNeg ≤ n.toNatClampNeg) (h5 : dp.toNatClampNeg + nn.toNatClampNeg ≤ z.toNatClampNeg)
    (hvr : vd.take dp.toNatClampNeg ++ ((List.range nn.toNatClampNeg).map fun i => vs.getD (sp.toNatClampNeg + i) (defaultValue ty)) ++ vd.drop (dp.toNatClampNeg + nn.toNatClampNeg) = vr) {n0 : Nat} (N0 : Fr n0 locs) (ge : n0 ≤ b) (hsz : Ls.size = c.maxLocals) (hd : decode c.code pc = .ok (.invokestatic index, 3)) (hfr : 1 ≤ R.frames) (W : Nat) (hW : (rest.map fun v => v.category).sum ≤ W) (hlo : W + (nativeFrameWords "java/lang/System" "arraycopy" 5 + 11) ≤ R.locals) (hp : pc' = pc + 3)
    (k : ∀ T' h' L, Stand p l e R s m args below meth c T' L cells slots → T'.heap = h' → Fr n0 L → Keep h h' [b] → AV Z h' b ty z vr → G (T'.setTop (mkF m pc' Ls rest))) : G (T.setTop (mkF m pc Ls (.int nn :: .int dp :: .ref b :: .int sp :: .ref a :: rest))) := by
  subst hp hvr
  obtain ⟨kA, A, qa⟩ := A
  obtain ⟨kB, B, qb⟩ := B
  obtain ⟨T', h', L', X', e', N', K', V', st⟩ := cpA X hx hZ hown w1 w2 w3 w4 eT A B (Or.inl ⟨rfl, hr⟩) h1 h2 h3 h4 h5 rfl (by omega) N0 ge (g := mkF m pc Ls (.int nn :: .int dp :: .ref b :: .int sp :: .ref a :: rest)) rfl hsz rfl hd hfr (W := W) (by show 2 * 0 + _ ≤ _; omega) hlo
  exact hG _ _ st (k T' h' L' X' e' N' K' ⟨kB, V', by simp only [List.length_append, List.length_take, List.length_map, List.length_range, List.length_drop]; omega⟩)
theorem Sta.keep0 {h' : Heap} {C n d : String} {v : Value} (F : Sta Z h C n d v) (K : Keep h h' []) : Sta Z h' C n d v := by
  obtain ⟨cf, i, k, f, st, cell, h1, h2, h3, h4, h5, r⟩ := F
  exact ⟨cf, i, k, f, st, cell, h1, h2, h3, h4, K.2.1 _ _ h5 (fun q => nomatch q), r⟩
end New
end Jvm.OwnKit
namespace Jvm.OwnFl
open Jvm.FP.Core
theorem two_ne : (2 : Rat) ≠ 0 := by decide
theorem p2pos (q : Int) : (0 : Rat) < (2 : Rat) ^ q := Rat.zpow_pos (by decide)
theorem p2add (a b : Int) : (2 : Rat) ^ (a + b) = (2 : Rat) ^ a * (2 : Rat) ^ b := Rat.zpow_add two_ne a b
theorem p2nat (n : Nat) : (2 : Rat) ^ (n : Int) = ((2 ^ n : Nat) : Rat) := by rw [Rat.zpow_natCast, Rat.natCast_pow]; rfl
theorem p2le {a b : Int} (h : a ≤ b) : (2 : Rat) ^ a ≤ (2 : Rat) ^ b := by
  obtain ⟨n, hn⟩ : ∃ n : Nat, b = a + n := ⟨(b - a).toNat, by omega⟩
  subst hn
  rw [p2add, p2nat]
  have h1 : (1 : Rat) ≤ ((2 ^ n : Nat) : Rat) := by
    have q : ((1 : Nat) : Rat) ≤ ((2 ^ n : Nat) : Rat) := Rat.natCast_le_natCast.mpr (Nat.two_pow_pos n)
    exact q
  have q := Rat.mul_le_mul_of_nonneg_left h1 (Rat.le_of_lt (p2pos a))
  rwa [Rat.mul_one] at q
theorem p2lt {a b : Int} (h : (2 : Rat) ^ a < (2 : Rat) ^ b) : a < b := by
  by_cases q : a < b
  · exact q
  · exact absurd (p2le (Int.not_lt.mp q)) (Rat.not_le.mpr h)
/-- the value of a datum (nought for what is no number) -/
def rvd : Datum → Rat
  | .fin s c q => ((signed s c : Int) : Rat) * (2 : Rat) ^ q
  | _ => 0
/-- v is a finite double, of the value x -/
def DV (v : UInt64) (x : Rat) : Prop := ∃ s c q, val64 v = .fin s c q ∧ rvd (.fin s c q) = x
theorem DV.fin {v : UInt64} {x : Rat} (h : DV v x) : Jvm.Free.Fl.Fin64 v := by
  obtain ⟨s, c, q, h, -⟩ := h
  exact Jvm.Free.Fl.fin64_core.mpr ⟨s, c, q, h⟩
theorem DV.noNaN {v : UInt64} {x : Rat} (h : DV v x) : Jvm.Free.Fl.NoNaN64 v := h.fin.noNaN
theorem DV.uniq {v : UInt64} {x y : Rat} (h : DV v x) (g : DV v y) : x = y := by
  obtain ⟨s, c, q, h1, h2⟩ := h
  obtain ⟨t, d, r, g1, g2⟩ := g
  cases h1.symm.trans g1
  exact h2.symm.trans g2
theorem units_val (s : Bool) (c : Nat) {q e : Int} (h : e ≤ q) : ((signed s (inUnits c q e) : Int) : Rat) * (2 : Rat) ^ e = ((signed s c : Int) : Rat) * (2 : Rat) ^ q := by
  obtain ⟨n, rfl⟩ : ∃ n : Nat, q = e + n := ⟨(q - e).toNat, by omega⟩
  unfold inUnits
  rw [signed_mul, Rat.intCast_mul, Rat.mul_assoc, show (e + (n : Int) - e).toNat = n by omega, p2add, p2nat, Rat.mul_comm ((2 : Rat) ^ e)]
  rfl
theorem dcmp_of {a b : UInt64} {x y : Rat} (ha : DV a x) (hb : DV b y) : dcmp a b = some (if x < y then .lt else if x = y then .eq else .gt) := by
  obtain ⟨s, c, q, h1, rfl⟩ := ha
  obtain ⟨t, d, r, h2, rfl⟩ := hb
  show order (val64 a) (val64 b) = _
  rw [h1, h2]
  show some (compare (signed s (inUnits c q (min q r))) (signed t (inUnits d r (min q r)))) = some (if ((signed s c : Int) : Rat) * (2 : Rat) ^ q < ((signed t d : Int) : Rat) * (2 : Rat) ^ r then .lt else if ((signed s c : Int) : Rat) * (2 : Rat) ^ q = ((signed t d : Int) : Rat) * (2 : Rat) ^ r then .eq else .gt)
  rw [compare_ite, ← units_val s c (Int.min_le_left q r), ← units_val t d (Int.min_le_right q r)]
  generalize signed s (inUnits c q (min q r)) = i
  generalize signed t (inUnits d r (min q r)) = j
  have hu := p2pos (min q r)
  generalize (2 : Rat) ^ (min q r) = u at hu
  have k1 : ∀ i j : Int, ((i : Rat) * u < (j : Rat) * u) ↔ i < j := fun i j => (Rat.mul_lt_mul_right hu).trans Rat.intCast_lt_intCast
  have k2 : ((i : Rat) * u = (j : Rat) * u) ↔ i = j := by
    constructor
    · intro h
      rcases Int.lt_trichotomy i j with g | g | g
      · have := (k1 i j).mpr g; rw [h] at this; exact absurd this Rat.lt_irrefl
      · exact g
      · have := (k1 j i).mpr g; rw [h] at this; exact absurd this Rat.lt_irrefl
    · intro h; rw [h]
  simp only [k1, k2]
theorem dcmp_lt {a b : UInt64} {x y : Rat} (ha : DV a x) (hb : DV b y) (h : x < y) : Jvm.FP.dcmp a b = some .lt := by
  show dcmp a b = _
  rw [dcmp_of ha hb, if_pos h]
theorem dcmp_eq {a b : UInt64} {x y : Rat} (ha : DV a x) (hb : DV b y) (h : x = y) : Jvm.FP.dcmp a b = some .eq := by
  show dcmp a b = _
  rw [dcmp_of ha hb, if_neg (by rw [h]; exact Rat.lt_irrefl), if_pos h]
theorem dcmp_gt {a b : UInt64} {x y : Rat} (ha : DV a x) (hb : DV b y) (h : y < x) : Jvm.FP.dcmp a b = some .gt := by
  show dcmp a b = _
  rw [dcmp_of ha hb, if_neg (by rw [Rat.not_lt]; exact Rat.le_of_lt h), if_neg (Rat.ne_of_gt h)]
theorem dcmp_le {a b : UInt64} {x y : Rat} (ha : DV a x) (hb : DV b y) (h : x ≤ y) : Jvm.FP.dcmp a b = some .lt ∨ Jvm.FP.dcmp a b = some .eq := by
  by_cases q : x = y
  · exact Or.inr (dcmp_eq ha hb q)
  · exact Or.inl (dcmp_lt ha hb (Rat.lt_of_le_of_ne h q))
theorem dcmp_ge {a b : UInt64} {x y : Rat} (ha : DV a x) (hb : DV b y) (h : y ≤ x) : Jvm.FP.dcmp a b = some .gt ∨ Jvm.FP.dcmp a b = some .eq := by
  by_cases q : x = y
  · exact Or.inr (dcmp_eq ha hb q)
  · exact Or.inl (dcmp_gt ha hb (Rat.lt_of_le_of_ne h (fun z => q z.symm)))
/-- the rounding of a positive ratio, in full -/
theorem rr_spec (s : Bool) {A B : Nat} (e : Int) (hA : 0 < A) (hB : 0 < B) {x : Rat} (hx : x * (B : Rat) = (A : Rat) * (2 : Rat) ^ e) (hlt : x < (2 : Rat) ^ (1023 : Int)) :
    ∃ c q, roundRatio b64 s A B e = .fin s c q ∧ ∃ (m : Nat) (r : Int), (c : Rat) * (2 : Rat) ^ q = (m : Rat) * (2 : Rat) ^ r ∧ -1074 ≤ r ∧ m ≤ 2 ^ 53 ∧ 2 * x ≤ (2 * (m : Rat) + 1) * (2 : Rat) ^ r ∧ 2 * (m : Rat) * (2 : Rat) ^ r ≤ 2 * x + (2 : Rat) ^ r ∧
      x < 9007199254740992 * (2 : Rat) ^ r ∧ (r = -1074 ∨ 4503599627370496 * (2 : Rat) ^ r ≤ x) := by
  have g1 := quantum_ge b64 A B e
  have g2 := nearest_units_le (f := b64) hA hB e
  have g3 := quantum_not_below (f := b64) hA hB e
  have g4 := quantum_below (f := b64) hA hB e
  unfold roundRatio
  rw [if_neg (by omega : ¬ A = 0)]
  generalize quantum b64 A B e = r at *
  unfold roundAt
  have hD := unitsDen_pos hB e r
  obtain ⟨n1, n2, -⟩ := nearest_spec (unitsNum A e r) (unitsDen B e r) hD
  have key : x * (unitsDen B e r : Rat) = (unitsNum A e r : Rat) * (2 : Rat) ^ r := by
    unfold unitsDen unitsNum
    rw [Rat.natCast_mul, Rat.natCast_mul, ← Rat.mul_assoc, hx, ← p2nat, ← p2nat, Rat.mul_assoc, Rat.mul_assoc, ← p2add, ← p2add, show e + ((r - e).toNat : Int) = ((e - r).toNat : Int) + r by omega]
  have b1 : unitsNum A e r < 2 ^ 53 * unitsDen B e r := (units_below A B e r 53).mpr g4
  have b2 : r = -1074 ∨ 2 ^ 52 * unitsDen B e r ≤ unitsNum A e r := by
    rcases g3 with g3 | g3
    · exact Or.inl g3
    · exact Or.inr (Nat.le_of_not_lt fun q => g3 ((units_below A B e r 52).mp q))
  have hr0 : -1074 ≤ r := g1
  have hm53 : nearest (unitsNum A e r) (unitsDen B e r) ≤ 2 ^ 53 := g2
  clear g1 g2 g3 g4
  generalize nearest (unitsNum A e r) (unitsDen B e r) = m at *
  generalize unitsNum A e r = N at *
  generalize unitsDen B e r = D at *
  have hu := p2pos r
  have hDp : (0 : Rat) < (D : Rat) := Rat.natCast_pos.mpr hD
  have n1' : 2 * (N : Rat) ≤ (2 * (m : Rat) + 1) * (D : Rat) := by
    have q := Rat.natCast_le_natCast.mpr n1
    simpa [Rat.natCast_mul, Rat.natCast_add] using q
  have n2' : 2 * (m : Rat) * (D : Rat) ≤ 2 * (N : Rat) + (D : Rat) := by
    have q := Rat.natCast_le_natCast.mpr n2
    simpa [Rat.natCast_mul, Rat.natCast_add] using q
  have b1' : (N : Rat) < 9007199254740992 * (D : Rat) := by
    have q := Rat.natCast_lt_natCast.mpr b1
    simpa [Rat.natCast_mul] using q
  have b2' : r = -1074 ∨ 4503599627370496 * (D : Rat) ≤ (N : Rat) := by
    rcases b2 with q | q
    · exact Or.inl q
    · right
      have q := Rat.natCast_le_natCast.mpr q
      simpa [Rat.natCast_mul] using q
  have f1 : 2 * x ≤ (2 * (m : Rat) + 1) * (2 : Rat) ^ r := by
    refine Rat.le_of_mul_le_mul_right (c := (D : Rat)) ?_ hDp
    have q := Rat.mul_le_mul_of_nonneg_right n1' (Rat.le_of_lt hu)
    generalize (2 : Rat) ^ r = u at *
    grind
  have f2 : 2 * (m : Rat) * (2 : Rat) ^ r ≤ 2 * x + (2 : Rat) ^ r := by
    refine Rat.le_of_mul_le_mul_right (c := (D : Rat)) ?_ hDp
    have q := Rat.mul_le_mul_of_nonneg_right n2' (Rat.le_of_lt hu)
    generalize (2 : Rat) ^ r = u at *
    grind
  have f3 : x < 9007199254740992 * (2 : Rat) ^ r := by
    refine Rat.lt_of_mul_lt_mul_right (c := (D : Rat)) ?_ (Rat.le_of_lt hDp)
    have q := Rat.mul_lt_mul_of_pos_right b1' hu
    generalize (2 : Rat) ^ r = u at *
    grind
  have f4 : r = -1074 ∨ 4503599627370496 * (2 : Rat) ^ r ≤ x := by
    rcases b2' with q | q
    · exact Or.inl q
    · right
      refine Rat.le_of_mul_le_mul_right (c := (D : Rat)) ?_ hDp
      have q := Rat.mul_le_mul_of_nonneg_right q (Rat.le_of_lt hu)
      generalize (2 : Rat) ^ r = u at *
      grind
  have hr : r ≤ 970 := by
    rcases f4 with q | q
    · omega
    · have q1 : (2 : Rat) ^ ((52 : Int) + r) < (2 : Rat) ^ (1023 : Int) := by
        rw [p2add, show (2 : Rat) ^ (52 : Int) = 4503599627370496 by decide +kernel]
        exact Std.lt_of_le_of_lt q hlt
      have := p2lt q1
      omega
  have hqm : b64.qmax = 971 := by decide
  by_cases hm : m < 2 ^ 53
  · refine ⟨m, r, ?_, m, r, rfl, hr0, hm53, f1, f2, f3, f4⟩
    show (if m < 2 ^ 53 then bound b64 s m r else _) = _
    rw [if_pos hm]
    unfold bound
    rw [if_pos (by omega)]
  · have hm : m = 2 ^ 53 := by omega
    refine ⟨2 ^ 52, r + 1, ?_, m, r, ?_, hr0, hm53, f1, f2, f3, f4⟩
    · show (if m < 2 ^ 53 then bound b64 s m r else bound b64 s b64.tails (r + 1)) = _
      rw [if_neg (by omega)]
      unfold bound
      rw [if_pos (by omega)]
      rfl
    · subst hm
      rw [p2add, Rat.zpow_one]
      generalize (2 : Rat) ^ r = u
      have e1 : ((2 ^ 52 : Nat) : Rat) = 4503599627370496 := by decide +kernel
      have e2 : ((2 ^ 53 : Nat) : Rat) = 9007199254740992 := by decide +kernel
      rw [e1, e2]
      grind
/-- the rounding of a rational number to a double's precision -/
def RR (x : Rat) : Rat := rvd (roundRatio b64 (decide (x < 0)) x.num.natAbs x.den 0)
theorem rat_num (x : Rat) : x * (x.den : Rat) = (x.num : Rat) := by
  have h : x = (x.num : Rat) / ((x.den : Int) : Rat) := by rw [← Rat.divInt_eq_div, Rat.num_divInt_den]
  have hd : (((x.den : Int)) : Rat) ≠ 0 := by
    intro q
    have := Rat.intCast_eq_zero_iff.mp q
    have := x.den_nz
    omega
  have q := Rat.div_mul_cancel (a := (x.num : Rat)) hd
  rw [← h] at q
  exact q
theorem signed_rat (s : Bool) (c : Nat) : ((signed s c : Int) : Rat) = if s then -(c : Rat) else (c : Rat) := by cases s <;> simp [signed, Rat.intCast_natCast]
/-- rounding goes by the value -/
theorem rr_congr {s : Bool} {A B : Nat} {e : Int} {x : Rat} (hB : 0 < B) (hx : x * (B : Rat) = ((signed s A : Int) : Rat) * (2 : Rat) ^ e) (hA : A ≠ 0) : roundRatio b64 s A B e = roundRatio b64 (decide (x < 0)) x.num.natAbs x.den 0 := by
  have hu := p2pos e
  have hBp : (0 : Rat) < (B : Rat) := Rat.natCast_pos.mpr hB
  have hAp : (0 : Rat) < (A : Rat) := Rat.natCast_pos.mpr (by omega)
  have hAu := Rat.mul_pos hAp hu
  have hs : decide (x < 0) = s := by
    rw [signed_rat] at hx
    cases s
    · simp only [Bool.false_eq_true, if_false] at hx
      rw [decide_eq_false_iff_not]
      intro q
      have := (Rat.mul_neg_iff_of_pos_right hBp).mpr q
      rw [hx] at this
      grind
    · simp only [if_true] at hx
      rw [decide_eq_true_iff]
      refine (Rat.mul_neg_iff_of_pos_right hBp).mp ?_
      rw [hx]
      grind
  rw [hs]
  refine roundRatio_congr hB x.den_pos ?_
  -- magnitudes
  have h1 := rat_num x
  have h2 : (x.num : Rat) * (B : Rat) = ((signed s A : Int) : Rat) * (2 : Rat) ^ e * (x.den : Rat) := by rw [← h1, ← hx]; grind
  have h3 : (x.num : Rat) * (B : Rat) * (2 : Rat) ^ (((0 - e).toNat : Nat) : Int) = ((signed s A : Int) : Rat) * (x.den : Rat) * (2 : Rat) ^ (((e - 0).toNat : Nat) : Int) := by
    rw [h2, Rat.mul_assoc, Rat.mul_assoc, Rat.mul_comm ((2 : Rat) ^ e), Rat.mul_assoc, ← p2add, ← Rat.mul_assoc]
    rw [show (((0 - e).toNat : Nat) : Int) + e = (((e - 0).toNat : Nat) : Int) by omega]
  rw [p2nat, p2nat] at h3
  have h4 : x.num * (B : Int) * ((2 ^ (0 - e).toNat : Nat) : Int) = signed s A * (x.den : Int) * ((2 ^ (e - 0).toNat : Nat) : Int) := by
    refine Rat.intCast_inj.mp ?_
    rw [Rat.intCast_mul, Rat.intCast_mul, Rat.intCast_mul, Rat.intCast_mul]
    exact h3
  have h5 := congrArg Int.natAbs h4
  simp only [Int.natAbs_mul, Int.natAbs_natCast, natAbs_signed] at h5
  exact h5.symm
theorem rvd_rr {s : Bool} {A B : Nat} {e : Int} {x : Rat} (hB : 0 < B) (hx : x * (B : Rat) = ((signed s A : Int) : Rat) * (2 : Rat) ^ e) : rvd (roundRatio b64 s A B e) = RR x := by
  by_cases hA : A = 0
  · subst hA
    have hx0 : x = 0 := by
      rw [signed_zero] at hx
      have hBp : (B : Rat) ≠ 0 := fun q => by have := Rat.natCast_eq_zero_iff.mp q; omega
      rcases Rat.mul_eq_zero.mp (hx.trans (by rw [show ((0 : Int) : Rat) = 0 from rfl, Rat.zero_mul])) with q | q
      · exact q
      · exact absurd q hBp
    subst hx0
    unfold RR roundRatio
    rw [if_pos rfl, if_pos (by decide)]
    show ((signed s 0 : Int) : Rat) * _ = ((signed _ 0 : Int) : Rat) * _
    rw [signed_zero, signed_zero]
  · rw [rr_congr hB hx hA]; rfl
theorem RR_neg (x : Rat) : RR (-x) = - RR x := by
  have h := rat_num x
  have h1 : rvd (roundRatio b64 (!decide (x < 0)) x.num.natAbs x.den 0) = RR (-x) := by
    refine rvd_rr x.den_pos ?_
    rw [Rat.zpow_zero, Rat.mul_one, Rat.neg_mul, h]
    have : (signed (!decide (x < 0)) x.num.natAbs : Int) = - x.num := by
      by_cases q : x < 0
      · have : x.num < 0 := by
          rw [← Int.not_le, Rat.num_nonneg, Rat.not_le]; exact q
        simp [signed, q]; omega
      · have : 0 ≤ x.num := by rw [Rat.num_nonneg]; exact Rat.not_lt.mp q
        simp [signed, q]; omega
    rw [this]; rfl
  rw [← h1, ← negate_roundRatio]
  unfold RR
  generalize roundRatio b64 (decide (x < 0)) x.num.natAbs x.den 0 = d
  cases d with
  | nan => simp [negate, rvd]
  | inf s => simp [negate, rvd]
  | fin s c q =>
    show ((signed (!s) c : Int) : Rat) * _ = -(((signed s c : Int) : Rat) * _)
    rw [← Rat.neg_mul]
    congr 1
    cases s <;> simp [signed]
/-- what is known of a rounding y of x -/
def Rsp (x y : Rat) : Prop := ∃ (m r : Int), y = (m : Rat) * (2 : Rat) ^ r ∧ -1074 ≤ r ∧ m.natAbs ≤ 2 ^ 53 ∧ 2 * x ≤ (2 * (m : Rat) + 1) * (2 : Rat) ^ r ∧ (2 * (m : Rat) - 1) * (2 : Rat) ^ r ≤ 2 * x ∧
    x < 9007199254740992 * (2 : Rat) ^ r ∧ -(9007199254740992 * (2 : Rat) ^ r) < x ∧ (r = -1074 ∨ 4503599627370496 * (2 : Rat) ^ r ≤ x ∨ x ≤ -(4503599627370496 * (2 : Rat) ^ r))
theorem Rsp.neg {x y : Rat} (h : Rsp x y) : Rsp (-x) (-y) := by
  obtain ⟨m, r, h1, h2, h3, h4, h5, h6, h7, h8⟩ := h
  have hu := p2pos r
  refine ⟨-m, r, ?_, h2, by omega, ?_, ?_, ?_, ?_, ?_⟩ <;> (try rw [Rat.intCast_neg]) <;> generalize (2 : Rat) ^ r = u at * <;> grind
theorem big_lt : (1267650600228229401496703205376 : Rat) < (2 : Rat) ^ (1023 : Int) := by
  have h : (2 : Rat) ^ (100 : Int) < (2 : Rat) ^ (1023 : Int) := by
    refine Rat.lt_of_le_of_ne (p2le (by decide)) fun q => ?_
    have h2 : (2 : Rat) ^ (1023 : Int) = (2 : Rat) ^ (100 : Int) * (2 : Rat) ^ (923 : Int) := by rw [← p2add]; rfl
    have h3 : (2 : Rat) ^ (1 : Int) ≤ (2 : Rat) ^ (923 : Int) := p2le (by decide)
    have h4 := p2pos 100
    rw [Rat.zpow_one] at h3
    have h5 := Rat.mul_le_mul_of_nonneg_left h3 (Rat.le_of_lt h4)
    grind
  have e : (2 : Rat) ^ (100 : Int) = 1267650600228229401496703205376 := by decide +kernel
  rw [← e]; exact h
theorem RR_pos {x : Rat} (h0 : 0 < x) (h : x ≤ 1267650600228229401496703205376) : Rsp x (RR x) ∧ ∃ c q, roundRatio b64 (decide (x < 0)) x.num.natAbs x.den 0 = .fin false c q := by
  have hn : 0 < x.num := by
    have : 0 ≤ x.num := by rw [Rat.num_nonneg]; exact Rat.le_of_lt h0
    have : x.num ≠ 0 := fun q => by rw [Rat.num_eq_zero] at q; rw [q] at h0; exact absurd h0 Rat.lt_irrefl
    omega
  have hd : decide (x < 0) = false := by rw [decide_eq_false_iff_not, Rat.not_lt]; exact Rat.le_of_lt h0
  have e1 : ((x.num.natAbs : Nat) : Rat) = (x.num : Rat) := by
    have : ((x.num.natAbs : Nat) : Int) = x.num := by omega
    rw [← Rat.intCast_natCast, this]
  obtain ⟨c, q, hr, m, r, f0, f1, f2, f3, f4, f5, f6⟩ := rr_spec false (A := x.num.natAbs) (B := x.den) 0 (by omega) x.den_pos (x := x) (by rw [Rat.zpow_zero, Rat.mul_one, e1]; exact rat_num x) (Std.lt_of_le_of_lt h big_lt)
  refine ⟨⟨m, r, ?_, f1, by omega, ?_, ?_, ?_, ?_, ?_⟩, c, q, by rw [hd]; exact hr⟩
  · unfold RR
    rw [hd, hr]
    show ((signed false c : Int) : Rat) * _ = _
    rw [← Rat.intCast_natCast] at f0
    exact f0
  all_goals
    have hu := p2pos r
    have e2 : ((m : Int) : Rat) = (m : Rat) := rfl
    rw [e2] at *
    generalize (2 : Rat) ^ r = u at *
    grind
theorem RR_zero : RR 0 = 0 := by
  unfold RR roundRatio
  rw [if_pos (by decide)]
  show ((signed _ 0 : Int) : Rat) * _ = 0
  rw [signed_zero]
  exact Rat.zero_mul _
theorem Rsp.zero : Rsp 0 0 := by
  have hu := p2pos (-1074)
  refine ⟨0, -1074, ?_, by decide, by decide, ?_, ?_, ?_, ?_, Or.inl rfl⟩ <;> generalize (2 : Rat) ^ (-1074 : Int) = u at * <;> (try rw [show ((0 : Int) : Rat) = 0 from rfl]) <;> grind
theorem RR_spec {x : Rat} (h1 : -1267650600228229401496703205376 ≤ x) (h2 : x ≤ 1267650600228229401496703205376) : Rsp x (RR x) := by
  by_cases q : 0 < x
  · exact (RR_pos q h2).1
  · by_cases q2 : x = 0
    · subst q2; rw [RR_zero]; exact Rsp.zero
    · have q3 : 0 < -x := by grind
      have g := (RR_pos q3 (by grind)).1.neg
      rw [RR_neg, Rat.neg_neg, Rat.neg_neg] at g
      exact g
theorem DV.of_rr {v : UInt64} {s : Bool} {A B : Nat} {e : Int} {x : Rat} (hv : val64 v = roundRatio b64 s A B e) (hB : 0 < B) (hx : x * (B : Rat) = ((signed s A : Int) : Rat) * (2 : Rat) ^ e) (h1 : -1267650600228229401496703205376 ≤ x) (h2 : x ≤ 1267650600228229401496703205376) : DV v (RR x) := by
  have hr := rvd_rr hB hx
  by_cases hA : A = 0
  · subst hA
    refine ⟨s, 0, b64.qmin, by rw [hv]; unfold roundRatio; rw [if_pos rfl], ?_⟩
    rw [← hr]; unfold roundRatio; rw [if_pos rfl]
  · obtain ⟨c, q, h, -⟩ := rr_spec s (A := A) (B := B) e (by omega) hB (x := if s then -x else x) (by rw [signed_rat] at hx; cases s <;> simp at hx ⊢ <;> grind) (Std.lt_of_le_of_lt (by cases s <;> simp <;> grind) big_lt)
    exact ⟨s, c, q, by rw [hv, h], by rw [← hr, h]⟩
theorem dadd_DV {a b : UInt64} {x y : Rat} (ha : DV a x) (hb : DV b y) (h1 : -1267650600228229401496703205376 ≤ x + y) (h2 : x + y ≤ 1267650600228229401496703205376) : DV (Jvm.FP.dadd a b) (RR (x + y)) := by
  obtain ⟨s, c, q, e1, rfl⟩ := ha
  obtain ⟨t, d, r, e2, rfl⟩ := hb
  refine DV.of_rr (s := sumSign s t (sumUnits s c q t d r (min q r))) (A := (sumUnits s c q t d r (min q r)).natAbs) (B := 1) (e := min q r) ?_ (by decide) ?_ h1 h2
  · show val64 (dadd a b) = _
    rw [val64_dadd, e1, e2]; rfl
  · rw [signed_sumSign, show ((1 : Nat) : Rat) = 1 from rfl, Rat.mul_one]
    unfold sumUnits
    rw [Rat.intCast_add, Rat.add_mul, units_val s c (Int.min_le_left q r), units_val t d (Int.min_le_right q r)]; rfl
theorem signed_not (t : Bool) (d : Nat) : (signed (!t) d : Int) = - signed t d := by cases t <;> simp [signed]
theorem dsub_DV {a b : UInt64} {x y : Rat} (ha : DV a x) (hb : DV b y) (h1 : -1267650600228229401496703205376 ≤ x - y) (h2 : x - y ≤ 1267650600228229401496703205376) : DV (Jvm.FP.dsub a b) (RR (x - y)) := by
  obtain ⟨s, c, q, e1, rfl⟩ := ha
  obtain ⟨t, d, r, e2, rfl⟩ := hb
  refine DV.of_rr (s := sumSign s (!t) (sumUnits s c q (!t) d r (min q r))) (A := (sumUnits s c q (!t) d r (min q r)).natAbs) (B := 1) (e := min q r) ?_ (by decide) ?_ h1 h2
  · show val64 (dsub a b) = _
    rw [val64_dsub, e1, e2]; rfl
  · rw [signed_sumSign, show ((1 : Nat) : Rat) = 1 from rfl, Rat.mul_one]
    unfold sumUnits
    rw [Rat.intCast_add, Rat.add_mul, units_val s c (Int.min_le_left q r), units_val (!t) d (Int.min_le_right q r), signed_not, Rat.intCast_neg, Rat.neg_mul, Rat.sub_eq_add_neg]; rfl
theorem dmul_DV {a b : UInt64} {x y : Rat} (ha : DV a x) (hb : DV b y) (h1 : -1267650600228229401496703205376 ≤ x * y) (h2 : x * y ≤ 1267650600228229401496703205376) : DV (Jvm.FP.dmul a b) (RR (x * y)) := by
  obtain ⟨s, c, q, e1, rfl⟩ := ha
  obtain ⟨t, d, r, e2, rfl⟩ := hb
  refine DV.of_rr (s := s != t) (A := c * d) (B := 1) (e := q + r) ?_ (by decide) ?_ h1 h2
  · show val64 (dmul a b) = _
    rw [val64_dmul, e1, e2]; rfl
  · rw [signed_xor, show ((1 : Nat) : Rat) = 1 from rfl, Rat.mul_one, Rat.intCast_mul, p2add]
    show (_ * _) * (_ * _) = _
    generalize (2 : Rat) ^ q = u
    generalize (2 : Rat) ^ r = w
    grind
theorem ddiv_DV {a b : UInt64} {x y : Rat} (ha : DV a x) (hb : DV b y) (hy : y ≠ 0) (h1 : -1267650600228229401496703205376 ≤ x / y) (h2 : x / y ≤ 1267650600228229401496703205376) : DV (Jvm.FP.ddiv a b) (RR (x / y)) := by
  obtain ⟨s, c, q, e1, rfl⟩ := ha
  obtain ⟨t, d, r, e2, rfl⟩ := hb
  have hd : d ≠ 0 := by
    rintro rfl
    apply hy
    show ((signed t 0 : Int) : Rat) * _ = 0
    rw [signed_zero]; exact Rat.zero_mul _
  refine DV.of_rr (s := s != t) (A := c) (B := d) (e := q - r) ?_ (by omega) ?_ h1 h2
  · show val64 (ddiv a b) = _
    rw [val64_ddiv, e1, e2]
    show (if d = 0 then _ else _) = _
    rw [if_neg hd]
  · have hq : (2 : Rat) ^ q = (2 : Rat) ^ (q - r) * (2 : Rat) ^ r := by rw [← p2add, show q - r + r = q by omega]
    have hS : ((signed s c : Int) : Rat) * (d : Rat) = ((signed (s != t) c : Int) : Rat) * ((signed t d : Int) : Rat) := by
      rw [signed_rat, signed_rat, signed_rat]
      cases s <;> cases t <;> simp <;> grind
    have hm := Rat.div_mul_cancel (a := rvd (.fin s c q)) hy
    have hyn := hy
    have hv1 : rvd (.fin s c q) = ((signed s c : Int) : Rat) * ((2 : Rat) ^ (q - r) * (2 : Rat) ^ r) := by rw [← hq]; rfl
    have hv2 : rvd (.fin t d r) = ((signed t d : Int) : Rat) * (2 : Rat) ^ r := rfl
    generalize rvd (.fin s c q) / rvd (.fin t d r) = z at *
    rw [hv1, hv2] at hm
    rw [hv2] at hyn
    have hst : ((signed t d : Int) : Rat) ≠ 0 := fun g => hyn (by rw [g]; exact Rat.zero_mul _)
    have hr := p2pos r
    generalize (2 : Rat) ^ (q - r) = u at *
    generalize (2 : Rat) ^ r = w at *
    generalize ((signed s c : Int) : Rat) = X at *
    generalize ((signed (s != t) c : Int) : Rat) = S at *
    generalize ((signed t d : Int) : Rat) = Y at *
    generalize (d : Rat) = D at *
    -- hm : z * (Y * w) = X * (u * w); hS : X * D = S * Y; goal : z * D = S * u
    have hw : w ≠ 0 := Rat.ne_of_gt hr
    have k1 : z * Y = X * u := by
      have : (z * Y - X * u) * w = 0 := by grind
      rcases Rat.mul_eq_zero.mp this with g | g
      · grind
      · exact absurd g hw
    have k2 : (z * D - S * u) * Y = 0 := by grind
    rcases Rat.mul_eq_zero.mp k2 with g | g
    · grind
    · exact absurd g hst
theorem i2d_RR (n : Int32) : DV (Jvm.FP.i2d n) (RR (n.toInt : Rat)) := by
  have h := n.le_toInt
  have h' := n.toInt_lt
  refine DV.of_rr (s := decide (n.toInt < 0)) (A := n.toInt.natAbs) (B := 1) (e := 0) ?_ (by decide) ?_ ?_ ?_
  · show val64 (i2d n) = _
    rw [val64_i2d]; rfl
  · rw [Rat.zpow_zero, Rat.mul_one, show ((1 : Nat) : Rat) = 1 from rfl, Rat.mul_one]
    congr 1
    by_cases q : n.toInt < 0 <;> simp [signed, q] <;> omega
  · have := Rat.intCast_le_intCast.mpr h; grind
  · have := Rat.intCast_le_intCast.mpr (Int.le_of_lt h'); grind
theorem l2d_RR (n : Int64) : DV (Jvm.FP.l2d n) (RR (n.toInt : Rat)) := by
  have h := n.le_toInt
  have h' := n.toInt_lt
  refine DV.of_rr (s := decide (n.toInt < 0)) (A := n.toInt.natAbs) (B := 1) (e := 0) ?_ (by decide) ?_ ?_ ?_
  · show val64 (l2d n) = _
    rw [val64_l2d]; rfl
  · rw [Rat.zpow_zero, Rat.mul_one, show ((1 : Nat) : Rat) = 1 from rfl, Rat.mul_one]
    congr 1
    by_cases q : n.toInt < 0 <;> simp [signed, q] <;> omega
  · have := Rat.intCast_le_intCast.mpr h; grind
  · have := Rat.intCast_le_intCast.mpr (Int.le_of_lt h'); grind
/-- a rational number that a double can hold (no overflow asked) -/
def Rp (z : Rat) : Prop := ∃ m k : Int, z = (m : Rat) * (2 : Rat) ^ k ∧ m.natAbs ≤ 2 ^ 53 ∧ -1074 ≤ k
theorem abs_le {m : Int} (h : m.natAbs ≤ 2 ^ 53) : -(9007199254740992 : Rat) ≤ (m : Rat) ∧ (m : Rat) ≤ 9007199254740992 := by
  have h1 : (-9007199254740992 : Int) ≤ m ∧ m ≤ 9007199254740992 := by omega
  exact ⟨by have := Rat.intCast_le_intCast.mpr h1.1; simpa using this, by have := Rat.intCast_le_intCast.mpr h1.2; simpa using this⟩
/-- a number that can be held is a multiple of the quantum, or no greater than the quantum's least -/
theorem rp_mul {z : Rat} {r : Int} (h : Rp z) : (∃ j : Int, z = (j : Rat) * (2 : Rat) ^ r) ∨ (-1074 < r ∧ z ≤ 4503599627370496 * (2 : Rat) ^ r ∧ -(4503599627370496 * (2 : Rat) ^ r) ≤ z) := by
  obtain ⟨m, k, hz, hm, hk⟩ := h
  by_cases hkr : r ≤ k
  · left
    obtain ⟨i, rfl⟩ : ∃ i : Nat, k = r + i := ⟨(k - r).toNat, by omega⟩
    refine ⟨m * ((2 ^ i : Nat) : Int), ?_⟩
    rw [hz, p2add, p2nat, Rat.intCast_mul, Rat.intCast_natCast]
    generalize (2 : Rat) ^ r = u
    generalize ((2 ^ i : Nat) : Rat) = w
    grind
  · right
    have h1 : (2 : Rat) ^ (k + 1) ≤ (2 : Rat) ^ r := p2le (by omega)
    rw [p2add, Rat.zpow_one] at h1
    obtain ⟨a1, a2⟩ := abs_le hm
    have hu := p2pos k
    have b1 := Rat.mul_le_mul_of_nonneg_right a1 (Rat.le_of_lt hu)
    have b2 := Rat.mul_le_mul_of_nonneg_right a2 (Rat.le_of_lt hu)
    rw [hz]
    refine ⟨by omega, ?_, ?_⟩ <;> generalize (2 : Rat) ^ r = w at * <;> generalize (2 : Rat) ^ k = u at * <;> grind
theorem icast_le {u : Rat} (hu : 0 < u) {i j : Int} (h : (i : Rat) * u ≤ (j : Rat) * u) : i ≤ j := Rat.intCast_le_intCast.mp (Rat.le_of_mul_le_mul_right h hu)
theorem icast_lt {u : Rat} (hu : 0 < u) {i j : Int} (h : (i : Rat) * u < (j : Rat) * u) : i < j := Rat.intCast_lt_intCast.mp (Rat.lt_of_mul_lt_mul_right h (Rat.le_of_lt hu))
/-- the nearest: whatever can be held is no nearer -/
theorem Rsp.near {x y z : Rat} (h : Rsp x y) (hz : Rp z) (t : Rat) (t1 : x - z ≤ t) (t2 : z - x ≤ t) : x - y ≤ t ∧ y - x ≤ t := by
  obtain ⟨n, r, rfl, h2, h3, h4, h5, h6, h7, h8⟩ := h
  have hu := p2pos r
  -- multiples of the quantum
  have main : ∀ (j : Int) (t : Rat), x - (j : Rat) * (2 : Rat) ^ r ≤ t → (j : Rat) * (2 : Rat) ^ r - x ≤ t → x - (n : Rat) * (2 : Rat) ^ r ≤ t ∧ (n : Rat) * (2 : Rat) ^ r - x ≤ t := by
    intro j t t1 t2
    rcases Int.lt_trichotomy j n with g | g | g
    · have g1 : (j : Rat) + 1 ≤ (n : Rat) := by have := Rat.intCast_le_intCast.mpr (show j + 1 ≤ n by omega); simpa using this
      have g2 := Rat.mul_le_mul_of_nonneg_right g1 (Rat.le_of_lt hu)
      generalize (2 : Rat) ^ r = u at *
      constructor <;> grind
    · subst g; exact ⟨t1, t2⟩
    · have g1 : (n : Rat) + 1 ≤ (j : Rat) := by have := Rat.intCast_le_intCast.mpr (show n + 1 ≤ j by omega); simpa using this
      have g2 := Rat.mul_le_mul_of_nonneg_right g1 (Rat.le_of_lt hu)
      generalize (2 : Rat) ^ r = u at *
      constructor <;> grind
  rcases rp_mul (r := r) hz with ⟨j, rfl⟩ | ⟨g0, g1, g2⟩
  · exact main j t t1 t2
  · rcases h8 with q | q | q
    · omega
    · refine main 4503599627370496 t ?_ ?_ <;> rw [show ((4503599627370496 : Int) : Rat) = 4503599627370496 from rfl] <;> generalize (2 : Rat) ^ r = u at * <;> grind
    · refine main (-4503599627370496) t ?_ ?_ <;> rw [show ((-4503599627370496 : Int) : Rat) = -4503599627370496 from rfl] <;> generalize (2 : Rat) ^ r = u at * <;> grind
theorem Rsp.exact {x y : Rat} (h : Rsp x y) (hx : Rp x) : y = x := by
  have := h.near hx 0 (by grind) (by grind)
  grind
theorem RR_exact {x : Rat} (hx : Rp x) (h1 : -1267650600228229401496703205376 ≤ x) (h2 : x ≤ 1267650600228229401496703205376) : RR x = x := (RR_spec h1 h2).exact hx
theorem Rsp.rp {x y : Rat} (h : Rsp x y) : Rp y := by
  obtain ⟨n, r, rfl, h2, h3, -⟩ := h
  exact ⟨n, r, rfl, h3, h2⟩
theorem Rsp.le {x y z : Rat} (h : Rsp x y) (hz : Rp z) (q : x ≤ z) : y ≤ z := by
  have := h.near hz (z - x) (by grind) (by grind)
  grind
theorem Rsp.ge {x y z : Rat} (h : Rsp x y) (hz : Rp z) (q : z ≤ x) : z ≤ y := by
  have := h.near hz (x - z) (by grind) (by grind)
  grind
theorem RR_mono {x y : Rat} (h : x ≤ y) (x1 : -1267650600228229401496703205376 ≤ x) (y2 : y ≤ 1267650600228229401496703205376) : RR x ≤ RR y := by
  by_cases q : x = y
  · rw [q]; exact Rat.le_refl
  · have hx := RR_spec x1 (by grind)
    have hy := RR_spec (by grind) y2
    by_cases g : RR x ≤ RR y
    · exact g
    · have g := Rat.not_le.mp g
      -- RR y < RR x
      have a := fun t => hx.near hy.rp t
      have b := fun t => hy.near hx.rp t
      generalize RR x = X at *
      generalize RR y = Y at *
      by_cases c1 : x ≤ Y
      · have := a (Y - x) (by grind) (by grind)
        grind
      · by_cases c2 : X ≤ y
        · have := b (y - X) (by grind) (by grind)
          grind
        · have k1 := a (x - Y) (by grind) (by grind)
          have k2 := b (X - y) (by grind) (by grind)
          grind
/-- the relative error, of what is not tiny -/
theorem Rsp.err {x y : Rat} (h : Rsp x y) (hx : 1 ≤ x * 1267650600228229401496703205376) : 9007199254740992 * (y - x) ≤ x ∧ 9007199254740992 * (x - y) ≤ x := by
  obtain ⟨n, r, rfl, h2, h3, h4, h5, h6, h7, h8⟩ := h
  have hu := p2pos r
  have k : 4503599627370496 * (2 : Rat) ^ r ≤ x := by
    rcases h8 with q | q | q
    · subst q
      have e1 : (2 : Rat) ^ (-1022 : Int) = 4503599627370496 * (2 : Rat) ^ (-1074 : Int) := by
        rw [show (-1022 : Int) = 52 + -1074 from rfl, p2add, show (2 : Rat) ^ (52 : Int) = 4503599627370496 by decide +kernel]
      have e2 : (2 : Rat) ^ (-1022 : Int) ≤ (2 : Rat) ^ (-100 : Int) := p2le (by decide)
      have e3 : (2 : Rat) ^ (-100 : Int) * (2 : Rat) ^ (100 : Int) = 1 := by rw [← p2add]; rfl
      have e4 : (2 : Rat) ^ (100 : Int) = 1267650600228229401496703205376 := by decide +kernel
      rw [e4] at e3
      rw [← e1]
      generalize (2 : Rat) ^ (-1022 : Int) = v at *
      generalize (2 : Rat) ^ (-100 : Int) = w at *
      grind
    · exact q
    · generalize (2 : Rat) ^ r = u at *
      grind
  generalize (2 : Rat) ^ r = u at *
  constructor <;> grind
/-- the error, of whatever size: relative, or below 2^-53 -/
theorem err_any {x : Rat} (h1 : -1267650600228229401496703205376 ≤ x) (h2 : x ≤ 1267650600228229401496703205376) (t : Rat) (t1 : x ≤ t) (t2 : -x ≤ t) : 9007199254740992 * (RR x - x) ≤ t + 1 ∧ 9007199254740992 * (x - RR x) ≤ t + 1 := by
  have h := RR_spec h1 h2
  generalize RR x = y at *
  obtain ⟨n, r, rfl, g2, g3, g4, g5, g6, g7, g8⟩ := h
  have hu := p2pos r
  have k : 4503599627370496 * (2 : Rat) ^ r ≤ t + 1 := by
    rcases g8 with q | q | q
    · subst q
      have e1 : (2 : Rat) ^ (-1022 : Int) = 4503599627370496 * (2 : Rat) ^ (-1074 : Int) := by
        rw [show (-1022 : Int) = 52 + -1074 from rfl, p2add, show (2 : Rat) ^ (52 : Int) = 4503599627370496 by decide +kernel]
      have e2 : (2 : Rat) ^ (-1022 : Int) ≤ (2 : Rat) ^ (0 : Int) := p2le (by decide)
      rw [Rat.zpow_zero] at e2
      rw [← e1]
      generalize (2 : Rat) ^ (-1022 : Int) = v at *
      grind
    · generalize (2 : Rat) ^ r = u at *
      grind
    · generalize (2 : Rat) ^ r = u at *
      grind
  generalize (2 : Rat) ^ r = u at *
  constructor <;> grind
theorem rp_int {n : Int} (h : n.natAbs ≤ 2 ^ 53) : Rp (n : Rat) := ⟨n, 0, by rw [Rat.zpow_zero, Rat.mul_one], h, by decide⟩
theorem rp_scale {z : Rat} (k : Int) {m : Int} (h : z = (m : Rat) * (2 : Rat) ^ k) (hm : m.natAbs ≤ 2 ^ 53) (hk : -1074 ≤ k) : Rp z := ⟨m, k, h, hm, hk⟩
theorem RR_int {n : Int} (h : n.natAbs ≤ 2 ^ 53) : RR (n : Rat) = (n : Rat) := by
  refine RR_exact (rp_int h) ?_ ?_
  · have := Rat.intCast_le_intCast.mpr (show (-9007199254740992 : Int) ≤ n by omega); grind
  · have := Rat.intCast_le_intCast.mpr (show n ≤ (9007199254740992 : Int) by omega); grind
theorem i2d_DV (n : Int32) : DV (Jvm.FP.i2d n) (n.toInt : Rat) := by
  have h := n.le_toInt
  have h' := n.toInt_lt
  have q := i2d_RR n
  rw [RR_int (by omega)] at q
  exact q
theorem l2d_DV {n : Int64} (h : n.toInt.natAbs ≤ 2 ^ 53) : DV (Jvm.FP.l2d n) (n.toInt : Rat) := by
  have q := l2d_RR n
  rw [RR_int h] at q
  exact q
/-- a written double, by its fields -/
theorem lit_DV {v : UInt64} {s : Bool} {c : Nat} {q : Int} {x : Rat} (h : val64 v = .fin s c q) (hx : ((signed s c : Int) : Rat) * (2 : Rat) ^ q = x) : DV v x := ⟨s, c, q, h, hx⟩
theorem dneg_DV {v : UInt64} {x : Rat} (h : DV v x) : DV (Jvm.FP.dneg v) (-x) := by
  obtain ⟨s, c, q, h1, rfl⟩ := h
  refine ⟨!s, c, q, by rw [Jvm.FP.val64_dneg, h1]; rfl, ?_⟩
  show ((signed (!s) c : Int) : Rat) * _ = -(((signed s c : Int) : Rat) * _)
  rw [signed_not, Rat.intCast_neg, Rat.neg_mul]
theorem DV.whole {v : UInt64} {n : Int} (h : DV v (n : Rat)) : DInt n v := by
  obtain ⟨s, c, q, h1, h2⟩ := h
  unfold DInt
  rw [h1]
  show signed s (c * 2 ^ q.toNat) = n * ((2 ^ (-q).toNat : Nat) : Int)
  refine Rat.intCast_inj.mp ?_
  have h3 : ((signed s c : Int) : Rat) * (2 : Rat) ^ q = (n : Rat) := h2
  rw [signed_mul, Rat.intCast_mul, Rat.intCast_mul, ← h3, Rat.mul_assoc, show (((2 ^ (-q).toNat : Nat) : Int) : Rat) = ((2 ^ (-q).toNat : Nat) : Rat) from rfl, show (((2 ^ q.toNat : Nat) : Int) : Rat) = ((2 ^ q.toNat : Nat) : Rat) from rfl, ← p2nat, ← p2nat, ← p2add, show q + ((-q).toNat : Int) = (q.toNat : Int) by omega]
theorem d2l_DV {v : UInt64} {n : Int64} (h : DV v (n.toInt : Rat)) : Jvm.FP.d2l v = n := d2l_int h.whole
theorem DV.cast {v : UInt64} {x y : Rat} (h : DV v x) (e : x = y) : DV v y := e ▸ h
end Jvm.OwnFl
namespace Jvm.Pilot.@@N@@
open Jvm Jvm.ClassFile Sem Op Lib Jvm.Free Jvm.Stand Jvm.LawKit Jvm.RoadKit Jvm.OwnKit Bundle Jvm.Pilot.@@N@@.Jvm.D
theorem wd {a0 : Array Value} {Z : State} {d : Jvm.Cond} (hw : ∀ d ∈ tables_1, d.before a0 Z = true) (i : Nat) (h : tables_1[i]? = some d) : d.before a0 Z = true := hw d (List.mem_of_getElem? h)
theorem d1_0 : decode prog_10_method_1_code 0 = .ok (.aload_n 0, 1) := by decide +kernel
theorem d1_1 : decode prog_10_method_1_code 1 = .ok (.invokespecial 1, 3) := by decide +kernel
theorem d1_4 : decode prog_10_method_1_code 4 = .ok (.aload_n 0, 1) := by decide +kernel
theorem d1_5 : decode prog_10_method_1_code 5 = .ok (.aload_n 1, 1) := by decide +kernel
theorem d1_6 : decode prog_10_method_1_code 6 = .ok (.putfield 7, 3) := by decide +kernel
theorem d1_9 : decode prog_10_method_1_code 9 = .ok (.aload_n 0, 1) := by decide +kernel
theorem d1_10 : decode prog_10_method_1_code 10 = .ok (.dload_n 2, 1) := by decide +kernel
theorem d1_11 : decode prog_10_method_1_code 11 = .ok (.putfield 13, 3) := by decide +kernel
theorem d1_14 : decode prog_10_method_1_code 14 = .ok (.aload_n 0, 1) := by decide +kernel
theorem d1_15 : decode prog_10_method_1_code 15 = .ok (.dload 4, 2) := by decide +kernel
theorem d1_17 : decode prog_10_method_1_code 17 = .ok (.putfield 17, 3) := by decide +kernel
theorem d1_20 : decode prog_10_method_1_code 20 = .ok (.return_, 1) := by decide +kernel
theorem d3_0 : decode prog_10_method_6_code 0 = .ok (.aload_n 0, 1) := by decide +kernel
theorem d3_1 : decode prog_10_method_6_code 1 = .ok (.getfield 7, 3) := by decide +kernel
theorem d3_4 : decode prog_10_method_6_code 4 = .ok (.arraylength, 1) := by decide +kernel
theorem d3_5 : decode prog_10_method_6_code 5 = .ok (.newarray .double, 2) := by decide +kernel
theorem d3_7 : decode prog_10_method_6_code 7 = .ok (.astore_n 1, 1) := by decide +kernel
theorem d3_8 : decode prog_10_method_6_code 8 = .ok (.iconst 0, 1) := by decide +kernel
theorem d3_9 : decode prog_10_method_6_code 9 = .ok (.istore_n 2, 1) := by decide +kernel
theorem d3_10 : decode prog_10_method_6_code 10 = .ok (.iload_n 2, 1) := by decide +kernel
theorem d3_11 : decode prog_10_method_6_code 11 = .ok (.aload_n 0, 1) := by decide +kernel
theorem d3_12 : decode prog_10_method_6_code 12 = .ok (.getfield 7, 3) := by decide +kernel
theorem d3_15 : decode prog_10_method_6_code 15 = .ok (.arraylength, 1) := by decide +kernel
theorem d3_16 : decode prog_10_method_6_code 16 = .ok (.if_icmp .ge 23, 3) := by decide +kernel
theorem d3_19 : decode prog_10_method_6_code 19 = .ok (.aload_n 1, 1) := by decide +kernel
theorem d3_20 : decode prog_10_method_6_code 20 = .ok (.iload_n 2, 1) := by decide +kernel
theorem d3_21 : decode prog_10_method_6_code 21 = .ok (.aload_n 0, 1) := by decide +kernel
theorem d3_22 : decode prog_10_method_6_code 22 = .ok (.getfield 13, 3) := by decide +kernel
theorem d3_25 : decode prog_10_method_6_code 25 = .ok (.aload_n 0, 1) := by decide +kernel
theorem d3_26 : decode prog_10_method_6_code 26 = .ok (.getfield 7, 3) := by decide +kernel
theorem d3_29 : decode prog_10_method_6_code 29 = .ok (.iload_n 2, 1) := by decide +kernel
theorem d3_30 : decode prog_10_method_6_code 30 = .ok (.daload, 1) := by decide +kernel
theorem d3_31 : decode prog_10_method_6_code 31 = .ok (.dmul, 1) := by decide +kernel
theorem d3_32 : decode prog_10_method_6_code 32 = .ok (.dastore, 1) := by decide +kernel
theorem d3_33 : decode prog_10_method_6_code 33 = .ok (.iinc 2 1, 3) := by decide +kernel
theorem d3_36 : decode prog_10_method_6_code 36 = .ok (.goto (-26), 3) := by decide +kernel
theorem d3_39 : decode prog_10_method_6_code 39 = .ok (.aload_n 1, 1) := by decide +kernel
theorem d3_40 : decode prog_10_method_6_code 40 = .ok (.areturn, 1) := by decide +kernel
theorem d4_0 : decode method_2_code 0 = .ok (.iload_n 0, 1) := by decide +kernel
theorem d4_1 : decode method_2_code 1 = .ok (.i2l, 1) := by decide +kernel
theorem d4_2 : decode method_2_code 2 = .ok (.iload_n 1, 1) := by decide +kernel
theorem d4_3 : decode method_2_code 3 = .ok (.i2l, 1) := by decide +kernel
theorem d4_4 : decode method_2_code 4 = .ok (.lmul, 1) := by decide +kernel
theorem d4_5 : decode method_2_code 5 = .ok (.l2d, 1) := by decide +kernel
theorem d4_6 : decode method_2_code 6 = .ok (.dreturn, 1) := by decide +kernel
theorem pd_0 : parseMethodDescriptor "([DDD)V" = some ⟨[(.array .double), .double, .double], none⟩ := by decide +kernel
theorem pd_1 : parseMethodDescriptor "()[D" = some ⟨[], some (.array .double)⟩ := by decide +kernel
theorem pd_2 : parseMethodDescriptor "(II)D" = some ⟨[.int, .int], some .double⟩ := by decide +kernel
section OwnPlain
open Jvm.OwnFl
theorem own_prod (p x : Int32) : -4611686018427387904 ≤ p.toInt * x.toInt ∧ p.toInt * x.toInt ≤ 4611686018427387904 := by
  have hp1 := p.le_toInt
  have hp2 := p.toInt_lt
  have hx1 := x.le_toInt
  have hx2 := x.toInt_lt
  have := mc (a := p.toInt) (b := x.toInt) (l1 := -2147483648) (h1 := 2147483648) (l2 := -2147483648) (h2 := 2147483648) (by omega) (by omega) (by omega) (by omega)
  omega
theorem own_pay (p x : Int32) : DV (FP.dmul (FP.i2d p) (FP.i2d x)) (RR ((p.toInt * x.toInt : Int) : Rat)) := by
  obtain ⟨h1, h2⟩ := own_prod p x
  have b1 : (-4611686018427387904 : Rat) ≤ ((p.toInt * x.toInt : Int) : Rat) := by have := Rat.intCast_le_intCast.mpr h1; simpa using this
  have b2 : ((p.toInt * x.toInt : Int) : Rat) ≤ 4611686018427387904 := by have := Rat.intCast_le_intCast.mpr h2; simpa using this
  rw [Rat.intCast_mul] at b1 b2 ⊢
  exact dmul_DV (i2d_DV p) (i2d_DV x) (by grind) (by grind)
theorem own_exp (p x : Int32) : DV (FP.l2d (p.toInt64 * x.toInt64)) (RR ((p.toInt * x.toInt : Int) : Rat)) := by
  obtain ⟨h1, h2⟩ := own_prod p x
  have e : (p.toInt64 * x.toInt64).toInt = p.toInt * x.toInt := by
    have a := c_lmul p.toInt64 x.toInt64
    have b := rng64 (p.toInt64 * x.toInt64)
    rw [c_i2l, c_i2l] at a
    generalize p.toInt * x.toInt = P at *
    omega
  have q := l2d_RR (p.toInt64 * x.toInt64)
  rwa [e] at q
end OwnPlain
def Q_rmP (Z : State) (a rt : Addr) (pr co : UInt64) (h0 : Heap) (n0 : Nat) (v : Option Value) (h : Heap) (L : List Loc) : Prop := v = none ∧ Fr n0 L ∧ Keep h0 h [a] ∧ Exa Z h a "com/example/flowmarket/flowmarket/game/PricedLink" ∧ Fld Z h a "com/example/flowmarket/flowmarket/game/PricedLink" "rates" "[D" (.ref rt) ∧ Fld Z h a "com/example/flowmarket/flowmarket/game/PricedLink" "price" "D" (.double pr) ∧ Fld Z h a "com/example/flowmarket/flowmarket/game/PricedLink" "cost" "D" (.double co)
set_option maxRecDepth 65536 in
set_option maxHeartbeats 40000000 in
theorem rmP (l : Launch) (Z : State) (a0 : Array Value) (hw : ∀ d ∈ tables_1, d.before a0 Z = true) (ws : List Jvm.Cond) (a rt : Addr) (pr co : UInt64) (h0 : Heap) (n0 : Nat) (Zs : n0 ≤ h0.size) (ga : n0 ≤ a) (Ex_a : Exa Z h0 a "com/example/flowmarket/flowmarket/game/PricedLink") (F_rates_a : Fld Z h0 a "com/example/flowmarket/flowmarket/game/PricedLink" "rates" "[D" .null) (F_price_a : Fld Z h0 a "com/example/flowmarket/flowmarket/game/PricedLink" "price" "D" (.double (0 : UInt64))) (F_cost_a : Fld Z h0 a "com/example/flowmarket/flowmarket/game/PricedLink" "cost" "D" (.double (0 : UInt64))) :
    Con l (⟨"com/example/flowmarket/flowmarket/game/PricedLink", "<init>", "([DDD)V"⟩ : MethodName) prog_10_method_1_code 6 none ws ({ frames := 1, cells := 0, slots := 0, locals := 16 } : Room) Z #[(.ref a), (.ref rt), (.double pr), (.double co)] h0 ({ frames := 1, cells := 0, slots := 0, locals := 16 } : Room).cells ({ frames := 1, cells := 0, slots := 0, locals := 16 } : Room).slots (Q_rmP Z a rt pr co h0 n0) := by
  refine Con.of (Ls := #[.val (.ref a), .val (.ref rt), .val (.double pr), .second, .val (.double co), .second]) (plainFor_of_name (by first | (simp [plainName, overriddenIn]; done) | decide +kernel)) (fun m => by first | (simp [entryFrame, mkF, argsToLocals, Value.category]; done) | rfl) ?_
  intro p e s m below meth c s₁ G hGe hG hx hby hml hown hnm hrt hlk hZ X0 e0
  have hown : s.vm.findClass "com/example/flowmarket/flowmarket/game/PricedLink" = some m.cls := hown
  have hnm : meth.name = "<init>" := hnm
  have NF0 := Fr.nil n0
  have K0 := Keep.refl h0 [a]
  refine g_aloadN hG X0 hx (hb hby d1_0) (pc' := 1) rfl rfl rfl ?_
  show G (s₁.setTop (mkF m 1 #[.val (.ref a), .val (.ref rt), .val (.double pr), .second, .val (.double co), .second] [(.ref a)]))
  refine g_initO hG X0 hx hZ hown (wd hw 7 rfl) (wd hw 8 rfl) (wd hw 9 rfl) e0 (by rw [hml]; rfl) (hb hby d1_1) (by decide) (by decide) (pc' := 4) rfl ?_
  intro T1 X1 e1
  show G (T1.setTop (mkF m 4 #[.val (.ref a), .val (.ref rt), .val (.double pr), .second, .val (.double co), .second] []))
  refine g_aloadN hG X1 hx (hb hby d1_4) (pc' := 5) rfl rfl rfl ?_
  show G (T1.setTop (mkF m 5 #[.val (.ref a), .val (.ref rt), .val (.double pr), .second, .val (.double co), .second] [(.ref a)]))
  refine g_aloadN hG X1 hx (hb hby d1_5) (pc' := 6) rfl rfl rfl ?_
  show G (T1.setTop (mkF m 6 #[.val (.ref a), .val (.ref rt), .val (.double pr), .second, .val (.double co), .second] [(.ref rt), (.ref a)]))
  refine g_putF hG X1 hx hZ hown (wd hw 10 rfl) Via.refl e1 F_rates_a Ex_a (Or.inr ⟨(wd hw 11 rfl), rfl, hnm⟩) (wd hw 2 rfl) (v' := (.ref rt)) (ty := (.array .double)) (by decide) rfl rfl (hb hby d1_6) (pc' := 9) rfl ?_
  intro T2 h2 X2 e2 W2
  have Ex_a := Ex_a.wr W2
  have F_rates_a := F_rates_a.same W2
  have F_price_a := F_price_a.other W2 (Or.inr (slot_ne (Or.inr (wd hw 13 rfl)) (Or.inr (wd hw 11 rfl)) (by decide) (t := .double) (t' := (.array .double)) (by decide) (by decide)))
  have F_cost_a := F_cost_a.other W2 (Or.inr (slot_ne (Or.inr (wd hw 15 rfl)) (Or.inr (wd hw 11 rfl)) (by decide) (t := .double) (t' := (.array .double)) (by decide) (by decide)))
  have Zs := Nat.le_trans Zs (Wr.size W2)
  have NF2 := Fr.snoc X2 NF0 ga
  have K2 := K0.wr W2 (Or.inl (List.mem_of_getElem? (i := 0) rfl))
  show G (T2.setTop (mkF m 9 #[.val (.ref a), .val (.ref rt), .val (.double pr), .second, .val (.double co), .second] []))
  refine g_aloadN hG X2 hx (hb hby d1_9) (pc' := 10) rfl rfl rfl ?_
  show G (T2.setTop (mkF m 10 #[.val (.ref a), .val (.ref rt), .val (.double pr), .second, .val (.double co), .second] [(.ref a)]))
  refine g_dloadN hG X2 hx (hb hby d1_10) (pc' := 11) rfl rfl ?_
  show G (T2.setTop (mkF m 11 #[.val (.ref a), .val (.ref rt), .val (.double pr), .second, .val (.double co), .second] [(.double pr), (.ref a)]))
  refine g_putF hG X2 hx hZ hown (wd hw 12 rfl) Via.refl e2 F_price_a Ex_a (Or.inr ⟨(wd hw 13 rfl), rfl, hnm⟩) (wd hw 2 rfl) (v' := (.double pr)) (ty := .double) (by decide) rfl rfl (hb hby d1_11) (pc' := 14) rfl ?_
  intro T3 h3 X3 e3 W3
  have Ex_a := Ex_a.wr W3
  have F_rates_a := F_rates_a.other W3 (Or.inr (slot_ne (Or.inr (wd hw 11 rfl)) (Or.inr (wd hw 13 rfl)) (by decide) (t := (.array .double)) (t' := .double) (by decide) (by decide)))
  have F_price_a := F_price_a.same W3
  have F_cost_a := F_cost_a.other W3 (Or.inr (slot_ne (Or.inr (wd hw 15 rfl)) (Or.inr (wd hw 13 rfl)) (by decide) (t := .double) (t' := .double) (by decide) (by decide)))
  have Zs := Nat.le_trans Zs (Wr.size W3)
  have NF3 := Fr.snoc X3 NF2 ga
  have K3 := K2.wr W3 (Or.inl (List.mem_of_getElem? (i := 0) rfl))
  show G (T3.setTop (mkF m 14 #[.val (.ref a), .val (.ref rt), .val (.double pr), .second, .val (.double co), .second] []))
  refine g_aloadN hG X3 hx (hb hby d1_14) (pc' := 15) rfl rfl rfl ?_
  show G (T3.setTop (mkF m 15 #[.val (.ref a), .val (.ref rt), .val (.double pr), .second, .val (.double co), .second] [(.ref a)]))
  refine g_dload hG X3 hx (hb hby d1_15) (pc' := 17) rfl rfl ?_
  show G (T3.setTop (mkF m 17 #[.val (.ref a), .val (.ref rt), .val (.double pr), .second, .val (.double co), .second] [(.double co), (.ref a)]))
  refine g_putF hG X3 hx hZ hown (wd hw 14 rfl) Via.refl e3 F_cost_a Ex_a (Or.inr ⟨(wd hw 15 rfl), rfl, hnm⟩) (wd hw 2 rfl) (v' := (.double co)) (ty := .double) (by decide) rfl rfl (hb hby d1_17) (pc' := 20) rfl ?_
  intro T4 h4 X4 e4 W4
  have Ex_a := Ex_a.wr W4
  have F_rates_a := F_rates_a.other W4 (Or.inr (slot_ne (Or.inr (wd hw 11 rfl)) (Or.inr (wd hw 15 rfl)) (by decide) (t := (.array .double)) (t' := .double) (by decide) (by decide)))
  have F_price_a := F_price_a.other W4 (Or.inr (slot_ne (Or.inr (wd hw 13 rfl)) (Or.inr (wd hw 15 rfl)) (by decide) (t := .double) (t' := .double) (by decide) (by decide)))
  have F_cost_a := F_cost_a.same W4
  have Zs := Nat.le_trans Zs (Wr.size W4)
  have NF4 := Fr.snoc X4 NF3 ga
  have K4 := K3.wr W4 (Or.inl (List.mem_of_getElem? (i := 0) rfl))
  show G (T4.setTop (mkF m 20 #[.val (.ref a), .val (.ref rt), .val (.double pr), .second, .val (.double co), .second] []))
  exact e_ret0 hGe X4 hx hrt hlk (hb hby d1_20) e4 (by decide) (by decide) (⟨rfl, NF4, K4, Ex_a, F_rates_a, F_price_a, F_cost_a⟩)

def Q_rmY0 (Z : State) (a rt : Addr) (pr co  : UInt64) (h0 : Heap) (n0 : Nat) (v : Option Value) (h : Heap) (L : List Loc) : Prop := ∃ b : Addr, v = some (.ref b) ∧ Fr n0 L ∧ Keep h0 h [] ∧ h0.size ≤ b ∧ AV Z h b .double (0 : Int32) []
set_option maxRecDepth 65536 in
set_option maxHeartbeats 40000000 in
theorem rmY0 (l : Launch) (Z : State) (a0 : Array Value) (hw : ∀ d ∈ tables_1, d.before a0 Z = true) (ws : List Jvm.Cond) (a rt : Addr) (pr co  : UInt64) (h0 : Heap) (n0 : Nat) (Zs : n0 ≤ h0.size) (har : a ≠ rt) (Ex_a : Exa Z h0 a "com/example/flowmarket/flowmarket/game/PricedLink") (F_rates_a : Fld Z h0 a "com/example/flowmarket/flowmarket/game/PricedLink" "rates" "[D" (.ref rt)) (F_price_a : Fld Z h0 a "com/example/flowmarket/flowmarket/game/PricedLink" "price" "D" (.double pr)) (F_cost_a : Fld Z h0 a "com/example/flowmarket/flowmarket/game/PricedLink" "cost" "D" (.double co)) (V_rt : AV Z h0 rt .double (0 : Int32) []) :
    Con l (⟨"com/example/flowmarket/flowmarket/game/PricedLink", "payments", "()[D"⟩ : MethodName) prog_10_method_6_code 3 (some (.array .double)) ws ({ frames := 0, cells := 1, slots := 0, locals := 0 } : Room) Z #[(.ref a)] h0 ({ frames := 0, cells := 1, slots := 0, locals := 0 } : Room).cells ({ frames := 0, cells := 1, slots := 0, locals := 0 } : Room).slots (Q_rmY0 Z a rt pr co h0 n0) := by
  refine Con.of (Ls := #[.val (.ref a), .unset, .unset]) (plainFor_of_name (by first | (simp [plainName, overriddenIn]; done) | decide +kernel)) (fun m => by first | (simp [entryFrame, mkF, argsToLocals, Value.category]; done) | rfl) ?_
  intro p e s m below meth c s₁ G hGe hG hx hby hml hown hnm hrt hlk hZ X0 e0
  have hown : s.vm.findClass "com/example/flowmarket/flowmarket/game/PricedLink" = some m.cls := hown
  have hnm : meth.name = "payments" := hnm
  have NF0 := Fr.nil n0
  have K0 := Keep.refl h0 ([] : List Addr)
  refine g_aloadN hG X0 hx (hb hby d3_0) (pc' := 1) rfl rfl rfl ?_
  show G (s₁.setTop (mkF m 1 #[.val (.ref a), .unset, .unset] [(.ref a)]))
  refine g_getF hG X0 hx hZ hown (wd hw 10 rfl) Via.refl e0 F_rates_a (hb hby d3_1) (pc' := 4) rfl ?_
  intro T1 X1 e1
  show G (T1.setTop (mkF m 4 #[.val (.ref a), .unset, .unset] [(.ref rt)]))
  refine g_arraylength hG X1 hx hZ e1 V_rt (hb hby d3_4) (pc' := 5) rfl ?_
  show G (T1.setTop (mkF m 5 #[.val (.ref a), .unset, .unset] [(.int 0)]))
  refine g_newP hG X1 hx hZ (wd hw 0 rfl) e1 (hb hby d3_5) (by decide) 0 (by decide) (by decide) (by decide) (by decide) (pc' := 7) rfl ?_
  intro T2 h2 b kA2 gs2 X2 e2 E2 A2
  have ne_a_b : a ≠ b := Nat.ne_of_lt (gs2 ▸ Ex_a.lt)
  have ne_rt_b : rt ≠ b := Nat.ne_of_lt (gs2 ▸ V_rt.lt)
  have ge_b : n0 ≤ b := gs2 ▸ Zs
  have sz_b : h0.size ≤ b := gs2 ▸ K0.1
  have Zs := Nat.le_trans Zs E2.1
  have Ex_a := Ex_a.ext E2
  have F_rates_a := F_rates_a.ext E2
  have F_price_a := F_price_a.ext E2
  have F_cost_a := F_cost_a.ext E2
  have V_rt := V_rt.ext E2
  have K2 := K0.ext E2
  have V_b : AV Z h2 b .double (0 : Int32) [] := AV.new A2
  show G (T2.setTop (mkF m 7 #[.val (.ref a), .unset, .unset] [(.ref b)]))
  refine g_astoreN hG X2 hx (hb hby d3_7) (pc' := 8) rfl rfl (Ls' := #[.val (.ref a), .val (.ref b), .unset]) rfl ?_
  show G (T2.setTop (mkF m 8 #[.val (.ref a), .val (.ref b), .unset] []))
  refine g_iconst hG X2 hx (hb hby d3_8) (pc' := 9) rfl (v := (0 : Int32)) rfl ?_
  show G (T2.setTop (mkF m 9 #[.val (.ref a), .val (.ref b), .unset] [(.int 0)]))
  refine g_istoreN hG X2 hx (hb hby d3_9) (pc' := 10) rfl (Ls' := #[.val (.ref a), .val (.ref b), .val (.int 0)]) rfl ?_
  show G (T2.setTop (mkF m 10 #[.val (.ref a), .val (.ref b), .val (.int 0)] []))
  refine g_iloadN hG X2 hx (hb hby d3_10) (pc' := 11) rfl rfl ?_
  show G (T2.setTop (mkF m 11 #[.val (.ref a), .val (.ref b), .val (.int 0)] [(.int 0)]))
  refine g_aloadN hG X2 hx (hb hby d3_11) (pc' := 12) rfl rfl rfl ?_
  show G (T2.setTop (mkF m 12 #[.val (.ref a), .val (.ref b), .val (.int 0)] [(.ref a), (.int 0)]))
  refine g_getF hG X2 hx hZ hown (wd hw 10 rfl) Via.refl e2 F_rates_a (hb hby d3_12) (pc' := 15) rfl ?_
  intro T3 X3 e3
  show G (T3.setTop (mkF m 15 #[.val (.ref a), .val (.ref b), .val (.int 0)] [(.ref rt), (.int 0)]))
  refine g_arraylength hG X3 hx hZ e3 V_rt (hb hby d3_15) (pc' := 16) rfl ?_
  show G (T3.setTop (mkF m 16 #[.val (.ref a), .val (.ref b), .val (.int 0)] [(.int 0), (.int 0)]))
  refine g_icmpYes hG X3 hx (hb hby d3_16) (pc' := 39) (by decide) (by decide) (by decide) ?_
  show G (T3.setTop (mkF m 39 #[.val (.ref a), .val (.ref b), .val (.int 0)] []))
  refine g_aloadN hG X3 hx (hb hby d3_39) (pc' := 40) rfl rfl rfl ?_
  show G (T3.setTop (mkF m 40 #[.val (.ref a), .val (.ref b), .val (.int 0)] [(.ref b)]))
  exact e_retA hGe X3 hx hrt rfl hlk (hb hby d3_40) e3 (by decide) (by decide) (⟨b, rfl, NF0, K2, sz_b, V_b⟩)

def Q_rmY1 (Z : State) (a rt : Addr) (pr co x0 y0 : UInt64) (h0 : Heap) (n0 : Nat) (v : Option Value) (h : Heap) (L : List Loc) : Prop := ∃ b : Addr, v = some (.ref b) ∧ Fr n0 L ∧ Keep h0 h [] ∧ h0.size ≤ b ∧ AV Z h b .double (1 : Int32) [(.double y0)]
set_option maxRecDepth 65536 in
set_option maxHeartbeats 40000000 in
theorem rmY1 (l : Launch) (Z : State) (a0 : Array Value) (hw : ∀ d ∈ tables_1, d.before a0 Z = true) (ws : List Jvm.Cond) (a rt : Addr) (pr co x0 y0 : UInt64) (h0 : Heap) (n0 : Nat) (Zs : n0 ≤ h0.size) (har : a ≠ rt) (hy0 : FP.dmul pr x0 = y0) (ny0 : Jvm.Free.Fl.NoNaN64 y0) (Ex_a : Exa Z h0 a "com/example/flowmarket/flowmarket/game/PricedLink") (F_rates_a : Fld Z h0 a "com/example/flowmarket/flowmarket/game/PricedLink" "rates" "[D" (.ref rt)) (F_price_a : Fld Z h0 a "com/example/flowmarket/flowmarket/game/PricedLink" "price" "D" (.double pr)) (F_cost_a : Fld Z h0 a "com/example/flowmarket/flowmarket/game/PricedLink" "cost" "D" (.double co)) (V_rt : AV Z h0 rt .double (1 : Int32) [(.double x0)]) :
    Con l (⟨"com/example/flowmarket/flowmarket/game/PricedLink", "payments", "()[D"⟩ : MethodName) prog_10_method_6_code 3 (some (.array .double)) ws ({ frames := 0, cells := 1, slots := 1, locals := 0 } : Room) Z #[(.ref a)] h0 ({ frames := 0, cells := 1, slots := 1, locals := 0 } : Room).cells ({ frames := 0, cells := 1, slots := 1, locals := 0 } : Room).slots (Q_rmY1 Z a rt pr co x0 y0 h0 n0) := by
  refine Con.of (Ls := #[.val (.ref a), .unset, .unset]) (plainFor_of_name (by first | (simp [plainName, overriddenIn]; done) | decide +kernel)) (fun m => by first | (simp [entryFrame, mkF, argsToLocals, Value.category]; done) | rfl) ?_
  intro p e s m below meth c s₁ G hGe hG hx hby hml hown hnm hrt hlk hZ X0 e0
  have hown : s.vm.findClass "com/example/flowmarket/flowmarket/game/PricedLink" = some m.cls := hown
  have hnm : meth.name = "payments" := hnm
  have NF0 := Fr.nil n0
  have K0 := Keep.refl h0 ([] : List Addr)
  refine g_aloadN hG X0 hx (hb hby d3_0) (pc' := 1) rfl rfl rfl ?_
  show G (s₁.setTop (mkF m 1 #[.val (.ref a), .unset, .unset] [(.ref a)]))
  refine g_getF hG X0 hx hZ hown (wd hw 10 rfl) Via.refl e0 F_rates_a (hb hby d3_1) (pc' := 4) rfl ?_
  intro T1 X1 e1
  show G (T1.setTop (mkF m 4 #[.val (.ref a), .unset, .unset] [(.ref rt)]))
  refine g_arraylength hG X1 hx hZ e1 V_rt (hb hby d3_4) (pc' := 5) rfl ?_
  show G (T1.setTop (mkF m 5 #[.val (.ref a), .unset, .unset] [(.int 1)]))
  refine g_newP hG X1 hx hZ (wd hw 0 rfl) e1 (hb hby d3_5) (by decide) 1 (by decide) (by decide) (by decide) (by decide) (pc' := 7) rfl ?_
  intro T2 h2 b kA2 gs2 X2 e2 E2 A2
  have ne_a_b : a ≠ b := Nat.ne_of_lt (gs2 ▸ Ex_a.lt)
  have ne_rt_b : rt ≠ b := Nat.ne_of_lt (gs2 ▸ V_rt.lt)
  have ge_b : n0 ≤ b := gs2 ▸ Zs
  have sz_b : h0.size ≤ b := gs2 ▸ K0.1
  have Zs := Nat.le_trans Zs E2.1
  have Ex_a := Ex_a.ext E2
  have F_rates_a := F_rates_a.ext E2
  have F_price_a := F_price_a.ext E2
  have F_cost_a := F_cost_a.ext E2
  have V_rt := V_rt.ext E2
  have K2 := K0.ext E2
  have V_b : AV Z h2 b .double (1 : Int32) [(.double 0)] := AV.new A2
  show G (T2.setTop (mkF m 7 #[.val (.ref a), .unset, .unset] [(.ref b)]))
  refine g_astoreN hG X2 hx (hb hby d3_7) (pc' := 8) rfl rfl (Ls' := #[.val (.ref a), .val (.ref b), .unset]) rfl ?_
  show G (T2.setTop (mkF m 8 #[.val (.ref a), .val (.ref b), .unset] []))
  refine g_iconst hG X2 hx (hb hby d3_8) (pc' := 9) rfl (v := (0 : Int32)) rfl ?_
  show G (T2.setTop (mkF m 9 #[.val (.ref a), .val (.ref b), .unset] [(.int 0)]))
  refine g_istoreN hG X2 hx (hb hby d3_9) (pc' := 10) rfl (Ls' := #[.val (.ref a), .val (.ref b), .val (.int 0)]) rfl ?_
  show G (T2.setTop (mkF m 10 #[.val (.ref a), .val (.ref b), .val (.int 0)] []))
  refine g_iloadN hG X2 hx (hb hby d3_10) (pc' := 11) rfl rfl ?_
  show G (T2.setTop (mkF m 11 #[.val (.ref a), .val (.ref b), .val (.int 0)] [(.int 0)]))
  refine g_aloadN hG X2 hx (hb hby d3_11) (pc' := 12) rfl rfl rfl ?_
  show G (T2.setTop (mkF m 12 #[.val (.ref a), .val (.ref b), .val (.int 0)] [(.ref a), (.int 0)]))
  refine g_getF hG X2 hx hZ hown (wd hw 10 rfl) Via.refl e2 F_rates_a (hb hby d3_12) (pc' := 15) rfl ?_
  intro T3 X3 e3
  show G (T3.setTop (mkF m 15 #[.val (.ref a), .val (.ref b), .val (.int 0)] [(.ref rt), (.int 0)]))
  refine g_arraylength hG X3 hx hZ e3 V_rt (hb hby d3_15) (pc' := 16) rfl ?_
  show G (T3.setTop (mkF m 16 #[.val (.ref a), .val (.ref b), .val (.int 0)] [(.int 1), (.int 0)]))
  refine g_icmpNo hG X3 hx (hb hby d3_16) (pc' := 19) (by decide) rfl ?_
  show G (T3.setTop (mkF m 19 #[.val (.ref a), .val (.ref b), .val (.int 0)] []))
  refine g_aloadN hG X3 hx (hb hby d3_19) (pc' := 20) rfl rfl rfl ?_
  show G (T3.setTop (mkF m 20 #[.val (.ref a), .val (.ref b), .val (.int 0)] [(.ref b)]))
  refine g_iloadN hG X3 hx (hb hby d3_20) (pc' := 21) rfl rfl ?_
  show G (T3.setTop (mkF m 21 #[.val (.ref a), .val (.ref b), .val (.int 0)] [(.int 0), (.ref b)]))
  refine g_aloadN hG X3 hx (hb hby d3_21) (pc' := 22) rfl rfl rfl ?_
  show G (T3.setTop (mkF m 22 #[.val (.ref a), .val (.ref b), .val (.int 0)] [(.ref a), (.int 0), (.ref b)]))
  refine g_getF hG X3 hx hZ hown (wd hw 12 rfl) Via.refl e3 F_price_a (hb hby d3_22) (pc' := 25) rfl ?_
  intro T4 X4 e4
  show G (T4.setTop (mkF m 25 #[.val (.ref a), .val (.ref b), .val (.int 0)] [(.double pr), (.int 0), (.ref b)]))
  refine g_aloadN hG X4 hx (hb hby d3_25) (pc' := 26) rfl rfl rfl ?_
  show G (T4.setTop (mkF m 26 #[.val (.ref a), .val (.ref b), .val (.int 0)] [(.ref a), (.double pr), (.int 0), (.ref b)]))
  refine g_getF hG X4 hx hZ hown (wd hw 10 rfl) Via.refl e4 F_rates_a (hb hby d3_26) (pc' := 29) rfl ?_
  intro T5 X5 e5
  show G (T5.setTop (mkF m 29 #[.val (.ref a), .val (.ref b), .val (.int 0)] [(.ref rt), (.double pr), (.int 0), (.ref b)]))
  refine g_iloadN hG X5 hx (hb hby d3_29) (pc' := 30) rfl rfl ?_
  show G (T5.setTop (mkF m 30 #[.val (.ref a), .val (.ref b), .val (.int 0)] [(.int 0), (.ref rt), (.double pr), (.int 0), (.ref b)]))
  refine g_daload hG X5 hx hZ e5 V_rt (j := (0 : Int32)) (v := (.double x0)) (by decide) rfl (hb hby d3_30) (pc' := 31) rfl ?_
  show G (T5.setTop (mkF m 31 #[.val (.ref a), .val (.ref b), .val (.int 0)] [(.double x0), (.double pr), (.int 0), (.ref b)]))
  refine g_dmul hG X5 hx (hb hby d3_31) (pc' := 32) rfl (by rw [hy0]; exact ny0) hy0 ?_
  show G (T5.setTop (mkF m 32 #[.val (.ref a), .val (.ref b), .val (.int 0)] [(.double y0), (.int 0), (.ref b)]))
  refine g_dastore hG X5 hx hZ e5 V_b (j := (0 : Int32)) (by decide) (show Int32.toNatClampNeg (0 : Int32) < 1 by decide) (hb hby d3_32) (pc' := 33) rfl ?_
  intro T6 h6 X6 e6 W6 Vn6
  have V_b : AV Z h6 b .double (1 : Int32) [(.double y0)] := Vn6
  have Ex_a := Ex_a.wr W6
  have F_rates_a := F_rates_a.other W6 (Or.inl ne_a_b)
  have F_price_a := F_price_a.other W6 (Or.inl ne_a_b)
  have F_cost_a := F_cost_a.other W6 (Or.inl ne_a_b)
  have V_rt := V_rt.other W6 ne_rt_b
  have Zs := Nat.le_trans Zs (Wr.size W6)
  have NF6 := Fr.snoc X6 NF0 ge_b
  have K6 := K2.wr W6 (Or.inr sz_b)
  show G (T6.setTop (mkF m 33 #[.val (.ref a), .val (.ref b), .val (.int 0)] []))
  refine g_iinc hG X6 hx (hb hby d3_33) (pc' := 36) rfl rfl (v := (1 : Int32)) (by decide) (Ls' := #[.val (.ref a), .val (.ref b), .val (.int 1)]) rfl ?_
  show G (T6.setTop (mkF m 36 #[.val (.ref a), .val (.ref b), .val (.int 1)] []))
  refine g_goto hG X6 hx (hb hby d3_36) (pc' := 10) (by decide) (by decide) ?_
  show G (T6.setTop (mkF m 10 #[.val (.ref a), .val (.ref b), .val (.int 1)] []))
  refine g_iloadN hG X6 hx (hb hby d3_10) (pc' := 11) rfl rfl ?_
  show G (T6.setTop (mkF m 11 #[.val (.ref a), .val (.ref b), .val (.int 1)] [(.int 1)]))
  refine g_aloadN hG X6 hx (hb hby d3_11) (pc' := 12) rfl rfl rfl ?_
  show G (T6.setTop (mkF m 12 #[.val (.ref a), .val (.ref b), .val (.int 1)] [(.ref a), (.int 1)]))
  refine g_getF hG X6 hx hZ hown (wd hw 10 rfl) Via.refl e6 F_rates_a (hb hby d3_12) (pc' := 15) rfl ?_
  intro T7 X7 e7
  show G (T7.setTop (mkF m 15 #[.val (.ref a), .val (.ref b), .val (.int 1)] [(.ref rt), (.int 1)]))
  refine g_arraylength hG X7 hx hZ e7 V_rt (hb hby d3_15) (pc' := 16) rfl ?_
  show G (T7.setTop (mkF m 16 #[.val (.ref a), .val (.ref b), .val (.int 1)] [(.int 1), (.int 1)]))
  refine g_icmpYes hG X7 hx (hb hby d3_16) (pc' := 39) (by decide) (by decide) (by decide) ?_
  show G (T7.setTop (mkF m 39 #[.val (.ref a), .val (.ref b), .val (.int 1)] []))
  refine g_aloadN hG X7 hx (hb hby d3_39) (pc' := 40) rfl rfl rfl ?_
  show G (T7.setTop (mkF m 40 #[.val (.ref a), .val (.ref b), .val (.int 1)] [(.ref b)]))
  exact e_retA hGe X7 hx hrt rfl hlk (hb hby d3_40) e7 (by decide) (by decide) (⟨b, rfl, NF6, K6, sz_b, V_b⟩)

def Q_rmY2 (Z : State) (a rt : Addr) (pr co x0 x1 y0 y1 : UInt64) (h0 : Heap) (n0 : Nat) (v : Option Value) (h : Heap) (L : List Loc) : Prop := ∃ b : Addr, v = some (.ref b) ∧ Fr n0 L ∧ Keep h0 h [] ∧ h0.size ≤ b ∧ AV Z h b .double (2 : Int32) [(.double y0), (.double y1)]
set_option maxRecDepth 65536 in
set_option maxHeartbeats 40000000 in
theorem rmY2 (l : Launch) (Z : State) (a0 : Array Value) (hw : ∀ d ∈ tables_1, d.before a0 Z = true) (ws : List Jvm.Cond) (a rt : Addr) (pr co x0 x1 y0 y1 : UInt64) (h0 : Heap) (n0 : Nat) (Zs : n0 ≤ h0.size) (har : a ≠ rt) (hy0 : FP.dmul pr x0 = y0) (ny0 : Jvm.Free.Fl.NoNaN64 y0) (hy1 : FP.dmul pr x1 = y1) (ny1 : Jvm.Free.Fl.NoNaN64 y1) (Ex_a : Exa Z h0 a "com/example/flowmarket/flowmarket/game/PricedLink") (F_rates_a : Fld Z h0 a "com/example/flowmarket/flowmarket/game/PricedLink" "rates" "[D" (.ref rt)) (F_price_a : Fld Z h0 a "com/example/flowmarket/flowmarket/game/PricedLink" "price" "D" (.double pr)) (F_cost_a : Fld Z h0 a "com/example/flowmarket/flowmarket/game/PricedLink" "cost" "D" (.double co)) (V_rt : AV Z h0 rt .double (2 : Int32) [(.double x0), (.double x1)]) :
    Con l (⟨"com/example/flowmarket/flowmarket/game/PricedLink", "payments", "()[D"⟩ : MethodName) prog_10_method_6_code 3 (some (.array .double)) ws ({ frames := 0, cells := 1, slots := 2, locals := 0 } : Room) Z #[(.ref a)] h0 ({ frames := 0, cells := 1, slots := 2, locals := 0 } : Room).cells ({ frames := 0, cells := 1, slots := 2, locals := 0 } : Room).slots (Q_rmY2 Z a rt pr co x0 x1 y0 y1 h0 n0) := by
  refine Con.of (Ls := #[.val (.ref a), .unset, .unset]) (plainFor_of_name (by first | (simp [plainName, overriddenIn]; done) | decide +kernel)) (fun m => by first | (simp [entryFrame, mkF, argsToLocals, Value.category]; done) | rfl) ?_
  intro p e s m below meth c s₁ G hGe hG hx hby hml hown hnm hrt hlk hZ X0 e0
  have hown : s.vm.findClass "com/example/flowmarket/flowmarket/game/PricedLink" = some m.cls := hown
  have hnm : meth.name = "payments" := hnm
  have NF0 := Fr.nil n0
  have K0 := Keep.refl h0 ([] : List Addr)
  refine g_aloadN hG X0 hx (hb hby d3_0) (pc' := 1) rfl rfl rfl ?_
  show G (s₁.setTop (mkF m 1 #[.val (.ref a), .unset, .unset] [(.ref a)]))
  refine g_getF hG X0 hx hZ hown (wd hw 10 rfl) Via.refl e0 F_rates_a (hb hby d3_1) (pc' := 4) rfl ?_
  intro T1 X1 e1
  show G (T1.setTop (mkF m 4 #[.val (.ref a), .unset, .unset] [(.ref rt)]))
  refine g_arraylength hG X1 hx hZ e1 V_rt (hb hby d3_4) (pc' := 5) rfl ?_
  show G (T1.setTop (mkF m 5 #[.val (.ref a), .unset, .unset] [(.int 2)]))
  refine g_newP hG X1 hx hZ (wd hw 0 rfl) e1 (hb hby d3_5) (by decide) 2 (by decide) (by decide) (by decide) (by decide) (pc' := 7) rfl ?_
  intro T2 h2 b kA2 gs2 X2 e2 E2 A2
  have ne_a_b : a ≠ b := Nat.ne_of_lt (gs2 ▸ Ex_a.lt)
  have ne_rt_b : rt ≠ b := Nat.ne_of_lt (gs2 ▸ V_rt.lt)
  have ge_b : n0 ≤ b := gs2 ▸ Zs
  have sz_b : h0.size ≤ b := gs2 ▸ K0.1
  have Zs := Nat.le_trans Zs E2.1
  have Ex_a := Ex_a.ext E2
  have F_rates_a := F_rates_a.ext E2
  have F_price_a := F_price_a.ext E2
  have F_cost_a := F_cost_a.ext E2
  have V_rt := V_rt.ext E2
  have K2 := K0.ext E2
  have V_b : AV Z h2 b .double (2 : Int32) [(.double 0), (.double 0)] := AV.new A2
  show G (T2.setTop (mkF m 7 #[.val (.ref a), .unset, .unset] [(.ref b)]))
  refine g_astoreN hG X2 hx (hb hby d3_7) (pc' := 8) rfl rfl (Ls' := #[.val (.ref a), .val (.ref b), .unset]) rfl ?_
  show G (T2.setTop (mkF m 8 #[.val (.ref a), .val (.ref b), .unset] []))
  refine g_iconst hG X2 hx (hb hby d3_8) (pc' := 9) rfl (v := (0 : Int32)) rfl ?_
  show G (T2.setTop (mkF m 9 #[.val (.ref a), .val (.ref b), .unset] [(.int 0)]))
  refine g_istoreN hG X2 hx (hb hby d3_9) (pc' := 10) rfl (Ls' := #[.val (.ref a), .val (.ref b), .val (.int 0)]) rfl ?_
  show G (T2.setTop (mkF m 10 #[.val (.ref a), .val (.ref b), .val (.int 0)] []))
  refine g_iloadN hG X2 hx (hb hby d3_10) (pc' := 11) rfl rfl ?_
  show G (T2.setTop (mkF m 11 #[.val (.ref a), .val (.ref b), .val (.int 0)] [(.int 0)]))
  refine g_aloadN hG X2 hx (hb hby d3_11) (pc' := 12) rfl rfl rfl ?_
  show G (T2.setTop (mkF m 12 #[.val (.ref a), .val (.ref b), .val (.int 0)] [(.ref a), (.int 0)]))
  refine g_getF hG X2 hx hZ hown (wd hw 10 rfl) Via.refl e2 F_rates_a (hb hby d3_12) (pc' := 15) rfl ?_
  intro T3 X3 e3
  show G (T3.setTop (mkF m 15 #[.val (.ref a), .val (.ref b), .val (.int 0)] [(.ref rt), (.int 0)]))
  refine g_arraylength hG X3 hx hZ e3 V_rt (hb hby d3_15) (pc' := 16) rfl ?_
  show G (T3.setTop (mkF m 16 #[.val (.ref a), .val (.ref b), .val (.int 0)] [(.int 2), (.int 0)]))
  refine g_icmpNo hG X3 hx (hb hby d3_16) (pc' := 19) (by decide) rfl ?_
  show G (T3.setTop (mkF m 19 #[.val (.ref a), .val (.ref b), .val (.int 0)] []))
  refine g_aloadN hG X3 hx (hb hby d3_19) (pc' := 20) rfl rfl rfl ?_
  show G (T3.setTop (mkF m 20 #[.val (.ref a), .val (.ref b), .val (.int 0)] [(.ref b)]))
  refine g_iloadN hG X3 hx (hb hby d3_20) (pc' := 21) rfl rfl ?_
  show G (T3.setTop (mkF m 21 #[.val (.ref a), .val (.ref b), .val (.int 0)] [(.int 0), (.ref b)]))
  refine g_aloadN hG X3 hx (hb hby d3_21) (pc' := 22) rfl rfl rfl ?_
  show G (T3.setTop (mkF m 22 #[.val (.ref a), .val (.ref b), .val (.int 0)] [(.ref a), (.int 0), (.ref b)]))
  refine g_getF hG X3 hx hZ hown (wd hw 12 rfl) Via.refl e3 F_price_a (hb hby d3_22) (pc' := 25) rfl ?_
  intro T4 X4 e4
  show G (T4.setTop (mkF m 25 #[.val (.ref a), .val (.ref b), .val (.int 0)] [(.double pr), (.int 0), (.ref b)]))
  refine g_aloadN hG X4 hx (hb hby d3_25) (pc' := 26) rfl rfl rfl ?_
  show G (T4.setTop (mkF m 26 #[.val (.ref a), .val (.ref b), .val (.int 0)] [(.ref a), (.double pr), (.int 0), (.ref b)]))
  refine g_getF hG X4 hx hZ hown (wd hw 10 rfl) Via.refl e4 F_rates_a (hb hby d3_26) (pc' := 29) rfl ?_
  intro T5 X5 e5
  show G (T5.setTop (mkF m 29 #[.val (.ref a), .val (.ref b), .val (.int 0)] [(.ref rt), (.double pr), (.int 0), (.ref b)]))
  refine g_iloadN hG X5 hx (hb hby d3_29) (pc' := 30) rfl rfl ?_
  show G (T5.setTop (mkF m 30 #[.val (.ref a), .val (.ref b), .val (.int 0)] [(.int 0), (.ref rt), (.double pr), (.int 0), (.ref b)]))
  refine g_daload hG X5 hx hZ e5 V_rt (j := (0 : Int32)) (v := (.double x0)) (by decide) rfl (hb hby d3_30) (pc' := 31) rfl ?_
  show G (T5.setTop (mkF m 31 #[.val (.ref a), .val (.ref b), .val (.int 0)] [(.double x0), (.double pr), (.int 0), (.ref b)]))
  refine g_dmul hG X5 hx (hb hby d3_31) (pc' := 32) rfl (by rw [hy0]; exact ny0) hy0 ?_
  show G (T5.setTop (mkF m 32 #[.val (.ref a), .val (.ref b), .val (.int 0)] [(.double y0), (.int 0), (.ref b)]))
  refine g_dastore hG X5 hx hZ e5 V_b (j := (0 : Int32)) (by decide) (show Int32.toNatClampNeg (0 : Int32) < 2 by decide) (hb hby d3_32) (pc' := 33) rfl ?_
  intro T6 h6 X6 e6 W6 Vn6
  have V_b : AV Z h6 b .double (2 : Int32) [(.double y0), (.double 0)] := Vn6
  have Ex_a := Ex_a.wr W6
  have F_rates_a := F_rates_a.other W6 (Or.inl ne_a_b)
  have F_price_a := F_price_a.other W6 (Or.inl ne_a_b)
  have F_cost_a := F_cost_a.other W6 (Or.inl ne_a_b)
  have V_rt := V_rt.other W6 ne_rt_b
  have Zs := Nat.le_trans Zs (Wr.size W6)
  have NF6 := Fr.snoc X6 NF0 ge_b
  have K6 := K2.wr W6 (Or.inr sz_b)
  show G (T6.setTop (mkF m 33 #[.val (.ref a), .val (.ref b), .val (.int 0)] []))
  refine g_iinc hG X6 hx (hb hby d3_33) (pc' := 36) rfl rfl (v := (1 : Int32)) (by decide) (Ls' := #[.val (.ref a), .val (.ref b), .val (.int 1)]) rfl ?_
  show G (T6.setTop (mkF m 36 #[.val (.ref a), .val (.ref b), .val (.int 1)] []))
  refine g_goto hG X6 hx (hb hby d3_36) (pc' := 10) (by decide) (by decide) ?_
  show G (T6.setTop (mkF m 10 #[.val (.ref a), .val (.ref b), .val (.int 1)] []))
  refine g_iloadN hG X6 hx (hb hby d3_10) (pc' := 11) rfl rfl ?_
  show G (T6.setTop (mkF m 11 #[.val (.ref a), .val (.ref b), .val (.int 1)] [(.int 1)]))
  refine g_aloadN hG X6 hx (hb hby d3_11) (pc' := 12) rfl rfl rfl ?_
  show G (T6.setTop (mkF m 12 #[.val (.ref a), .val (.ref b), .val (.int 1)] [(.ref a), (.int 1)]))
  refine g_getF hG X6 hx hZ hown (wd hw 10 rfl) Via.refl e6 F_rates_a (hb hby d3_12) (pc' := 15) rfl ?_
  intro T7 X7 e7
  show G (T7.setTop (mkF m 15 #[.val (.ref a), .val (.ref b), .val (.int 1)] [(.ref rt), (.int 1)]))
  refine g_arraylength hG X7 hx hZ e7 V_rt (hb hby d3_15) (pc' := 16) rfl ?_
  show G (T7.setTop (mkF m 16 #[.val (.ref a), .val (.ref b), .val (.int 1)] [(.int 2), (.int 1)]))
  refine g_icmpNo hG X7 hx (hb hby d3_16) (pc' := 19) (by decide) rfl ?_
  show G (T7.setTop (mkF m 19 #[.val (.ref a), .val (.ref b), .val (.int 1)] []))
  refine g_aloadN hG X7 hx (hb hby d3_19) (pc' := 20) rfl rfl rfl ?_
  show G (T7.setTop (mkF m 20 #[.val (.ref a), .val (.ref b), .val (.int 1)] [(.ref b)]))
  refine g_iloadN hG X7 hx (hb hby d3_20) (pc' := 21) rfl rfl ?_
  show G (T7.setTop (mkF m 21 #[.val (.ref a), .val (.ref b), .val (.int 1)] [(.int 1), (.ref b)]))
  refine g_aloadN hG X7 hx (hb hby d3_21) (pc' := 22) rfl rfl rfl ?_
  show G (T7.setTop (mkF m 22 #[.val (.ref a), .val (.ref b), .val (.int 1)] [(.ref a), (.int 1), (.ref b)]))
  refine g_getF hG X7 hx hZ hown (wd hw 12 rfl) Via.refl e7 F_price_a (hb hby d3_22) (pc' := 25) rfl ?_
  intro T8 X8 e8
  show G (T8.setTop (mkF m 25 #[.val (.ref a), .val (.ref b), .val (.int 1)] [(.double pr), (.int 1), (.ref b)]))
  refine g_aloadN hG X8 hx (hb hby d3_25) (pc' := 26) rfl rfl rfl ?_
  show G (T8.setTop (mkF m 26 #[.val (.ref a), .val (.ref b), .val (.int 1)] [(.ref a), (.double pr), (.int 1), (.ref b)]))
  refine g_getF hG X8 hx hZ hown (wd hw 10 rfl) Via.refl e8 F_rates_a (hb hby d3_26) (pc' := 29) rfl ?_
  intro T9 X9 e9
  show G (T9.setTop (mkF m 29 #[.val (.ref a), .val (.ref b), .val (.int 1)] [(.ref rt), (.double pr), (.int 1), (.ref b)]))
  refine g_iloadN hG X9 hx (hb hby d3_29) (pc' := 30) rfl rfl ?_
  show G (T9.setTop (mkF m 30 #[.val (.ref a), .val (.ref b), .val (.int 1)] [(.int 1), (.ref rt), (.double pr), (.int 1), (.ref b)]))
  refine g_daload hG X9 hx hZ e9 V_rt (j := (1 : Int32)) (v := (.double x1)) (by decide) rfl (hb hby d3_30) (pc' := 31) rfl ?_
  show G (T9.setTop (mkF m 31 #[.val (.ref a), .val (.ref b), .val (.int 1)] [(.double x1), (.double pr), (.int 1), (.ref b)]))
  refine g_dmul hG X9 hx (hb hby d3_31) (pc' := 32) rfl (by rw [hy1]; exact ny1) hy1 ?_
  show G (T9.setTop (mkF m 32 #[.val (.ref a), .val (.ref b), .val (.int 1)] [(.double y1), (.int 1), (.ref b)]))
  refine g_dastore hG X9 hx hZ e9 V_b (j := (1 : Int32)) (by decide) (show Int32.toNatClampNeg (1 : Int32) < 2 by decide) (hb hby d3_32) (pc' := 33) rfl ?_
  intro T10 h10 X10 e10 W10 Vn10
  have V_b : AV Z h10 b .double (2 : Int32) [(.double y0), (.double y1)] := Vn10
  have Ex_a := Ex_a.wr W10
  have F_rates_a := F_rates_a.other W10 (Or.inl ne_a_b)
  have F_price_a := F_price_a.other W10 (Or.inl ne_a_b)
  have F_cost_a := F_cost_a.other W10 (Or.inl ne_a_b)
  have V_rt := V_rt.other W10 ne_rt_b
  have Zs := Nat.le_trans Zs (Wr.size W10)
  have NF10 := Fr.snoc X10 NF6 ge_b
  have K10 := K6.wr W10 (Or.inr sz_b)
  show G (T10.setTop (mkF m 33 #[.val (.ref a), .val (.ref b), .val (.int 1)] []))
  refine g_iinc hG X10 hx (hb hby d3_33) (pc' := 36) rfl rfl (v := (2 : Int32)) (by decide) (Ls' := #[.val (.ref a), .val (.ref b), .val (.int 2)]) rfl ?_
  show G (T10.setTop (mkF m 36 #[.val (.ref a), .val (.ref b), .val (.int 2)] []))
  refine g_goto hG X10 hx (hb hby d3_36) (pc' := 10) (by decide) (by decide) ?_
  show G (T10.setTop (mkF m 10 #[.val (.ref a), .val (.ref b), .val (.int 2)] []))
  refine g_iloadN hG X10 hx (hb hby d3_10) (pc' := 11) rfl rfl ?_
  show G (T10.setTop (mkF m 11 #[.val (.ref a), .val (.ref b), .val (.int 2)] [(.int 2)]))
  refine g_aloadN hG X10 hx (hb hby d3_11) (pc' := 12) rfl rfl rfl ?_
  show G (T10.setTop (mkF m 12 #[.val (.ref a), .val (.ref b), .val (.int 2)] [(.ref a), (.int 2)]))
  refine g_getF hG X10 hx hZ hown (wd hw 10 rfl) Via.refl e10 F_rates_a (hb hby d3_12) (pc' := 15) rfl ?_
  intro T11 X11 e11
  show G (T11.setTop (mkF m 15 #[.val (.ref a), .val (.ref b), .val (.int 2)] [(.ref rt), (.int 2)]))
  refine g_arraylength hG X11 hx hZ e11 V_rt (hb hby d3_15) (pc' := 16) rfl ?_
  show G (T11.setTop (mkF m 16 #[.val (.ref a), .val (.ref b), .val (.int 2)] [(.int 2), (.int 2)]))
  refine g_icmpYes hG X11 hx (hb hby d3_16) (pc' := 39) (by decide) (by decide) (by decide) ?_
  show G (T11.setTop (mkF m 39 #[.val (.ref a), .val (.ref b), .val (.int 2)] []))
  refine g_aloadN hG X11 hx (hb hby d3_39) (pc' := 40) rfl rfl rfl ?_
  show G (T11.setTop (mkF m 40 #[.val (.ref a), .val (.ref b), .val (.int 2)] [(.ref b)]))
  exact e_retA hGe X11 hx hrt rfl hlk (hb hby d3_40) e11 (by decide) (by decide) (⟨b, rfl, NF10, K10, sz_b, V_b⟩)

def Q_rmY3 (Z : State) (a rt : Addr) (pr co x0 x1 x2 y0 y1 y2 : UInt64) (h0 : Heap) (n0 : Nat) (v : Option Value) (h : Heap) (L : List Loc) : Prop := ∃ b : Addr, v = some (.ref b) ∧ Fr n0 L ∧ Keep h0 h [] ∧ h0.size ≤ b ∧ AV Z h b .double (3 : Int32) [(.double y0), (.double y1), (.double y2)]
set_option maxRecDepth 65536 in
set_option maxHeartbeats 40000000 in
theorem rmY3 (l : Launch) (Z : State) (a0 : Array Value) (hw : ∀ d ∈ tables_1, d.before a0 Z = true) (ws : List Jvm.Cond) (a rt : Addr) (pr co x0 x1 x2 y0 y1 y2 : UInt64) (h0 : Heap) (n0 : Nat) (Zs : n0 ≤ h0.size) (har : a ≠ rt) (hy0 : FP.dmul pr x0 = y0) (ny0 : Jvm.Free.Fl.NoNaN64 y0) (hy1 : FP.dmul pr x1 = y1) (ny1 : Jvm.Free.Fl.NoNaN64 y1) (hy2 : FP.dmul pr x2 = y2) (ny2 : Jvm.Free.Fl.NoNaN64 y2) (Ex_a : Exa Z h0 a "com/example/flowmarket/flowmarket/game/PricedLink") (F_rates_a : Fld Z h0 a "com/example/flowmarket/flowmarket/game/PricedLink" "rates" "[D" (.ref rt)) (F_price_a : Fld Z h0 a "com/example/flowmarket/flowmarket/game/PricedLink" "price" "D" (.double pr)) (F_cost_a : Fld Z h0 a "com/example/flowmarket/flowmarket/game/PricedLink" "cost" "D" (.double co)) (V_rt : AV Z h0 rt .double (3 : Int32) [(.double x0), (.double x1), (.double x2)]) :
    Con l (⟨"com/example/flowmarket/flowmarket/game/PricedLink", "payments", "()[D"⟩ : MethodName) prog_10_method_6_code 3 (some (.array .double)) ws ({ frames := 0, cells := 1, slots := 3, locals := 0 } : Room) Z #[(.ref a)] h0 ({ frames := 0, cells := 1, slots := 3, locals := 0 } : Room).cells ({ frames := 0, cells := 1, slots := 3, locals := 0 } : Room).slots (Q_rmY3 Z a rt pr co x0 x1 x2 y0 y1 y2 h0 n0) := by
  refine Con.of (Ls := #[.val (.ref a), .unset, .unset]) (plainFor_of_name (by first | (simp [plainName, overriddenIn]; done) | decide +kernel)) (fun m => by first | (simp [entryFrame, mkF, argsToLocals, Value.category]; done) | rfl) ?_
  intro p e s m below meth c s₁ G hGe hG hx hby hml hown hnm hrt hlk hZ X0 e0
  have hown : s.vm.findClass "com/example/flowmarket/flowmarket/game/PricedLink" = some m.cls := hown
  have hnm : meth.name = "payments" := hnm
  have NF0 := Fr.nil n0
  have K0 := Keep.refl h0 ([] : List Addr)
  refine g_aloadN hG X0 hx (hb hby d3_0) (pc' := 1) rfl rfl rfl ?_
  show G (s₁.setTop (mkF m 1 #[.val (.ref a), .unset, .unset] [(.ref a)]))
  refine g_getF hG X0 hx hZ hown (wd hw 10 rfl) Via.refl e0 F_rates_a (hb hby d3_1) (pc' := 4) rfl ?_
  intro T1 X1 e1
  show G (T1.setTop (mkF m 4 #[.val (.ref a), .unset, .unset] [(.ref rt)]))
  refine g_arraylength hG X1 hx hZ e1 V_rt (hb hby d3_4) (pc' := 5) rfl ?_
  show G (T1.setTop (mkF m 5 #[.val (.ref a), .unset, .unset] [(.int 3)]))
  refine g_newP hG X1 hx hZ (wd hw 0 rfl) e1 (hb hby d3_5) (by decide) 3 (by decide) (by decide) (by decide) (by decide) (pc' := 7) rfl ?_
  intro T2 h2 b kA2 gs2 X2 e2 E2 A2
  have ne_a_b : a ≠ b := Nat.ne_of_lt (gs2 ▸ Ex_a.lt)
  have ne_rt_b : rt ≠ b := Nat.ne_of_lt (gs2 ▸ V_rt.lt)
  have ge_b : n0 ≤ b := gs2 ▸ Zs
  have sz_b : h0.size ≤ b := gs2 ▸ K0.1
  have Zs := Nat.le_trans Zs E2.1
  have Ex_a := Ex_a.ext E2
  have F_rates_a := F_rates_a.ext E2
  have F_price_a := F_price_a.ext E2
  have F_cost_a := F_cost_a.ext E2
  have V_rt := V_rt.ext E2
  have K2 := K0.ext E2
  have V_b : AV Z h2 b .double (3 : Int32) [(.double 0), (.double 0), (.double 0)] := AV.new A2
  show G (T2.setTop (mkF m 7 #[.val (.ref a), .unset, .unset] [(.ref b)]))
  refine g_astoreN hG X2 hx (hb hby d3_7) (pc' := 8) rfl rfl (Ls' := #[.val (.ref a), .val (.ref b), .unset]) rfl ?_
  show G (T2.setTop (mkF m 8 #[.val (.ref a), .val (.ref b), .unset] []))
  refine g_iconst hG X2 hx (hb hby d3_8) (pc' := 9) rfl (v := (0 : Int32)) rfl ?_
  show G (T2.setTop (mkF m 9 #[.val (.ref a), .val (.ref b), .unset] [(.int 0)]))
  refine g_istoreN hG X2 hx (hb hby d3_9) (pc' := 10) rfl (Ls' := #[.val (.ref a), .val (.ref b), .val (.int 0)]) rfl ?_
  show G (T2.setTop (mkF m 10 #[.val (.ref a), .val (.ref b), .val (.int 0)] []))
  refine g_iloadN hG X2 hx (hb hby d3_10) (pc' := 11) rfl rfl ?_
  show G (T2.setTop (mkF m 11 #[.val (.ref a), .val (.ref b), .val (.int 0)] [(.int 0)]))
  refine g_aloadN hG X2 hx (hb hby d3_11) (pc' := 12) rfl rfl rfl ?_
  show G (T2.setTop (mkF m 12 #[.val (.ref a), .val (.ref b), .val (.int 0)] [(.ref a), (.int 0)]))
  refine g_getF hG X2 hx hZ hown (wd hw 10 rfl) Via.refl e2 F_rates_a (hb hby d3_12) (pc' := 15) rfl ?_
  intro T3 X3 e3
  show G (T3.setTop (mkF m 15 #[.val (.ref a), .val (.ref b), .val (.int 0)] [(.ref rt), (.int 0)]))
  refine g_arraylength hG X3 hx hZ e3 V_rt (hb hby d3_15) (pc' := 16) rfl ?_
  show G (T3.setTop (mkF m 16 #[.val (.ref a), .val (.ref b), .val (.int 0)] [(.int 3), (.int 0)]))
  refine g_icmpNo hG X3 hx (hb hby d3_16) (pc' := 19) (by decide) rfl ?_
  show G (T3.setTop (mkF m 19 #[.val (.ref a), .val (.ref b), .val (.int 0)] []))
  refine g_aloadN hG X3 hx (hb hby d3_19) (pc' := 20) rfl rfl rfl ?_
  show G (T3.setTop (mkF m 20 #[.val (.ref a), .val (.ref b), .val (.int 0)] [(.ref b)]))
  refine g_iloadN hG X3 hx (hb hby d3_20) (pc' := 21) rfl rfl ?_
  show G (T3.setTop (mkF m 21 #[.val (.ref a), .val (.ref b), .val (.int 0)] [(.int 0), (.ref b)]))
  refine g_aloadN hG X3 hx (hb hby d3_21) (pc' := 22) rfl rfl rfl ?_
  show G (T3.setTop (mkF m 22 #[.val (.ref a), .val (.ref b), .val (.int 0)] [(.ref a), (.int 0), (.ref b)]))
  refine g_getF hG X3 hx hZ hown (wd hw 12 rfl) Via.refl e3 F_price_a (hb hby d3_22) (pc' := 25) rfl ?_
  intro T4 X4 e4
  show G (T4.setTop (mkF m 25 #[.val (.ref a), .val (.ref b), .val (.int 0)] [(.double pr), (.int 0), (.ref b)]))
  refine g_aloadN hG X4 hx (hb hby d3_25) (pc' := 26) rfl rfl rfl ?_
  show G (T4.setTop (mkF m 26 #[.val (.ref a), .val (.ref b), .val (.int 0)] [(.ref a), (.double pr), (.int 0), (.ref b)]))
  refine g_getF hG X4 hx hZ hown (wd hw 10 rfl) Via.refl e4 F_rates_a (hb hby d3_26) (pc' := 29) rfl ?_
  intro T5 X5 e5
  show G (T5.setTop (mkF m 29 #[.val (.ref a), .val (.ref b), .val (.int 0)] [(.ref rt), (.double pr), (.int 0), (.ref b)]))
  refine g_iloadN hG X5 hx (hb hby d3_29) (pc' := 30) rfl rfl ?_
  show G (T5.setTop (mkF m 30 #[.val (.ref a), .val (.ref b), .val (.int 0)] [(.int 0), (.ref rt), (.double pr), (.int 0), (.ref b)]))
  refine g_daload hG X5 hx hZ e5 V_rt (j := (0 : Int32)) (v := (.double x0)) (by decide) rfl (hb hby d3_30) (pc' := 31) rfl ?_
  show G (T5.setTop (mkF m 31 #[.val (.ref a), .val (.ref b), .val (.int 0)] [(.double x0), (.double pr), (.int 0), (.ref b)]))
  refine g_dmul hG X5 hx (hb hby d3_31) (pc' := 32) rfl (by rw [hy0]; exact ny0) hy0 ?_
  show G (T5.setTop (mkF m 32 #[.val (.ref a), .val (.ref b), .val (.int 0)] [(.double y0), (.int 0), (.ref b)]))
  refine g_dastore hG X5 hx hZ e5 V_b (j := (0 : Int32)) (by decide) (show Int32.toNatClampNeg (0 : Int32) < 3 by decide) (hb hby d3_32) (pc' := 33) rfl ?_
  intro T6 h6 X6 e6 W6 Vn6
  have V_b : AV Z h6 b .double (3 : Int32) [(.double y0), (.double 0), (.double 0)] := Vn6
  have Ex_a := Ex_a.wr W6
  have F_rates_a := F_rates_a.other W6 (Or.inl ne_a_b)
  have F_price_a := F_price_a.other W6 (Or.inl ne_a_b)
  have F_cost_a := F_cost_a.other W6 (Or.inl ne_a_b)
  have V_rt := V_rt.other W6 ne_rt_b
  have Zs := Nat.le_trans Zs (Wr.size W6)
  have NF6 := Fr.snoc X6 NF0 ge_b
  have K6 := K2.wr W6 (Or.inr sz_b)
  show G (T6.setTop (mkF m 33 #[.val (.ref a), .val (.ref b), .val (.int 0)] []))
  refine g_iinc hG X6 hx (hb hby d3_33) (pc' := 36) rfl rfl (v := (1 : Int32)) (by decide) (Ls' := #[.val (.ref a), .val (.ref b), .val (.int 1)]) rfl ?_
  show G (T6.setTop (mkF m 36 #[.val (.ref a), .val (.ref b), .val (.int 1)] []))
  refine g_goto hG X6 hx (hb hby d3_36) (pc' := 10) (by decide) (by decide) ?_
  show G (T6.setTop (mkF m 10 #[.val (.ref a), .val (.ref b), .val (.int 1)] []))
  refine g_iloadN hG X6 hx (hb hby d3_10) (pc' := 11) rfl rfl ?_
  show G (T6.setTop (mkF m 11 #[.val (.ref a), .val (.ref b), .val (.int 1)] [(.int 1)]))
  refine g_aloadN hG X6 hx (hb hby d3_11) (pc' := 12) rfl rfl rfl ?_
  show G (T6.setTop (mkF m 12 #[.val (.ref a), .val (.ref b), .val (.int 1)] [(.ref a), (.int 1)]))
  refine g_getF hG X6 hx hZ hown (wd hw 10 rfl) Via.refl e6 F_rates_a (hb hby d3_12) (pc' := 15) rfl ?_
  intro T7 X7 e7
  show G (T7.setTop (mkF m 15 #[.val (.ref a), .val (.ref b), .val (.int 1)] [(.ref rt), (.int 1)]))
  refine g_arraylength hG X7 hx hZ e7 V_rt (hb hby d3_15) (pc' := 16) rfl ?_
  show G (T7.setTop (mkF m 16 #[.val (.ref a), .val (.ref b), .val (.int 1)] [(.int 3), (.int 1)]))
  refine g_icmpNo hG X7 hx (hb hby d3_16) (pc' := 19) (by decide) rfl ?_
  show G (T7.setTop (mkF m 19 #[.val (.ref a), .val (.ref b), .val (.int 1)] []))
  refine g_aloadN hG X7 hx (hb hby d3_19) (pc' := 20) rfl rfl rfl ?_
  show G (T7.setTop (mkF m 20 #[.val (.ref a), .val (.ref b), .val (.int 1)] [(.ref b)]))
  refine g_iloadN hG X7 hx (hb hby d3_20) (pc' := 21) rfl rfl ?_
  show G (T7.setTop (mkF m 21 #[.val (.ref a), .val (.ref b), .val (.int 1)] [(.int 1), (.ref b)]))
  refine g_aloadN hG X7 hx (hb hby d3_21) (pc' := 22) rfl rfl rfl ?_
  show G (T7.setTop (mkF m 22 #[.val (.ref a), .val (.ref b), .val (.int 1)] [(.ref a), (.int 1), (.ref b)]))
  refine g_getF hG X7 hx hZ hown (wd hw 12 rfl) Via.refl e7 F_price_a (hb hby d3_22) (pc' := 25) rfl ?_
  intro T8 X8 e8
  show G (T8.setTop (mkF m 25 #[.val (.ref a), .val (.ref b), .val (.int 1)] [(.double pr), (.int 1), (.ref b)]))
  refine g_aloadN hG X8 hx (hb hby d3_25) (pc' := 26) rfl rfl rfl ?_
  show G (T8.setTop (mkF m 26 #[.val (.ref a), .val (.ref b), .val (.int 1)] [(.ref a), (.double pr), (.int 1), (.ref b)]))
  refine g_getF hG X8 hx hZ hown (wd hw 10 rfl) Via.refl e8 F_rates_a (hb hby d3_26) (pc' := 29) rfl ?_
  intro T9 X9 e9
  show G (T9.setTop (mkF m 29 #[.val (.ref a), .val (.ref b), .val (.int 1)] [(.ref rt), (.double pr), (.int 1), (.ref b)]))
  refine g_iloadN hG X9 hx (hb hby d3_29) (pc' := 30) rfl rfl ?_
  show G (T9.setTop (mkF m 30 #[.val (.ref a), .val (.ref b), .val (.int 1)] [(.int 1), (.ref rt), (.double pr), (.int 1), (.ref b)]))
  refine g_daload hG X9 hx hZ e9 V_rt (j := (1 : Int32)) (v := (.double x1)) (by decide) rfl (hb hby d3_30) (pc' := 31) rfl ?_
  show G (T9.setTop (mkF m 31 #[.val (.ref a), .val (.ref b), .val (.int 1)] [(.double x1), (.double pr), (.int 1), (.ref b)]))
  refine g_dmul hG X9 hx (hb hby d3_31) (pc' := 32) rfl (by rw [hy1]; exact ny1) hy1 ?_
  show G (T9.setTop (mkF m 32 #[.val (.ref a), .val (.ref b), .val (.int 1)] [(.double y1), (.int 1), (.ref b)]))
  refine g_dastore hG X9 hx hZ e9 V_b (j := (1 : Int32)) (by decide) (show Int32.toNatClampNeg (1 : Int32) < 3 by decide) (hb hby d3_32) (pc' := 33) rfl ?_
  intro T10 h10 X10 e10 W10 Vn10
  have V_b : AV Z h10 b .double (3 : Int32) [(.double y0), (.double y1), (.double 0)] := Vn10
  have Ex_a := Ex_a.wr W10
  have F_rates_a := F_rates_a.other W10 (Or.inl ne_a_b)
  have F_price_a := F_price_a.other W10 (Or.inl ne_a_b)
  have F_cost_a := F_cost_a.other W10 (Or.inl ne_a_b)
  have V_rt := V_rt.other W10 ne_rt_b
  have Zs := Nat.le_trans Zs (Wr.size W10)
  have NF10 := Fr.snoc X10 NF6 ge_b
  have K10 := K6.wr W10 (Or.inr sz_b)
  show G (T10.setTop (mkF m 33 #[.val (.ref a), .val (.ref b), .val (.int 1)] []))
  refine g_iinc hG X10 hx (hb hby d3_33) (pc' := 36) rfl rfl (v := (2 : Int32)) (by decide) (Ls' := #[.val (.ref a), .val (.ref b), .val (.int 2)]) rfl ?_
  show G (T10.setTop (mkF m 36 #[.val (.ref a), .val (.ref b), .val (.int 2)] []))
  refine g_goto hG X10 hx (hb hby d3_36) (pc' := 10) (by decide) (by decide) ?_
  show G (T10.setTop (mkF m 10 #[.val (.ref a), .val (.ref b), .val (.int 2)] []))
  refine g_iloadN hG X10 hx (hb hby d3_10) (pc' := 11) rfl rfl ?_
  show G (T10.setTop (mkF m 11 #[.val (.ref a), .val (.ref b), .val (.int 2)] [(.int 2)]))
  refine g_aloadN hG X10 hx (hb hby d3_11) (pc' := 12) rfl rfl rfl ?_
  show G (T10.setTop (mkF m 12 #[.val (.ref a), .val (.ref b), .val (.int 2)] [(.ref a), (.int 2)]))
  refine g_getF hG X10 hx hZ hown (wd hw 10 rfl) Via.refl e10 F_rates_a (hb hby d3_12) (pc' := 15) rfl ?_
  intro T11 X11 e11
  show G (T11.setTop (mkF m 15 #[.val (.ref a), .val (.ref b), .val (.int 2)] [(.ref rt), (.int 2)]))
  refine g_arraylength hG X11 hx hZ e11 V_rt (hb hby d3_15) (pc' := 16) rfl ?_
  show G (T11.setTop (mkF m 16 #[.val (.ref a), .val (.ref b), .val (.int 2)] [(.int 3), (.int 2)]))
  refine g_icmpNo hG X11 hx (hb hby d3_16) (pc' := 19) (by decide) rfl ?_
  show G (T11.setTop (mkF m 19 #[.val (.ref a), .val (.ref b), .val (.int 2)] []))
  refine g_aloadN hG X11 hx (hb hby d3_19) (pc' := 20) rfl rfl rfl ?_
  show G (T11.setTop (mkF m 20 #[.val (.ref a), .val (.ref b), .val (.int 2)] [(.ref b)]))
  refine g_iloadN hG X11 hx (hb hby d3_20) (pc' := 21) rfl rfl ?_
  show G (T11.setTop (mkF m 21 #[.val (.ref a), .val (.ref b), .val (.int 2)] [(.int 2), (.ref b)]))
  refine g_aloadN hG X11 hx (hb hby d3_21) (pc' := 22) rfl rfl rfl ?_
  show G (T11.setTop (mkF m 22 #[.val (.ref a), .val (.ref b), .val (.int 2)] [(.ref a), (.int 2), (.ref b)]))
  refine g_getF hG X11 hx hZ hown (wd hw 12 rfl) Via.refl e11 F_price_a (hb hby d3_22) (pc' := 25) rfl ?_
  intro T12 X12 e12
  show G (T12.setTop (mkF m 25 #[.val (.ref a), .val (.ref b), .val (.int 2)] [(.double pr), (.int 2), (.ref b)]))
  refine g_aloadN hG X12 hx (hb hby d3_25) (pc' := 26) rfl rfl rfl ?_
  show G (T12.setTop (mkF m 26 #[.val (.ref a), .val (.ref b), .val (.int 2)] [(.ref a), (.double pr), (.int 2), (.ref b)]))
  refine g_getF hG X12 hx hZ hown (wd hw 10 rfl) Via.refl e12 F_rates_a (hb hby d3_26) (pc' := 29) rfl ?_
  intro T13 X13 e13
  show G (T13.setTop (mkF m 29 #[.val (.ref a), .val (.ref b), .val (.int 2)] [(.ref rt), (.double pr), (.int 2), (.ref b)]))
  refine g_iloadN hG X13 hx (hb hby d3_29) (pc' := 30) rfl rfl ?_
  show G (T13.setTop (mkF m 30 #[.val (.ref a), .val (.ref b), .val (.int 2)] [(.int 2), (.ref rt), (.double pr), (.int 2), (.ref b)]))
  refine g_daload hG X13 hx hZ e13 V_rt (j := (2 : Int32)) (v := (.double x2)) (by decide) rfl (hb hby d3_30) (pc' := 31) rfl ?_
  show G (T13.setTop (mkF m 31 #[.val (.ref a), .val (.ref b), .val (.int 2)] [(.double x2), (.double pr), (.int 2), (.ref b)]))
  refine g_dmul hG X13 hx (hb hby d3_31) (pc' := 32) rfl (by rw [hy2]; exact ny2) hy2 ?_
  show G (T13.setTop (mkF m 32 #[.val (.ref a), .val (.ref b), .val (.int 2)] [(.double y2), (.int 2), (.ref b)]))
  refine g_dastore hG X13 hx hZ e13 V_b (j := (2 : Int32)) (by decide) (show Int32.toNatClampNeg (2 : Int32) < 3 by decide) (hb hby d3_32) (pc' := 33) rfl ?_
  intro T14 h14 X14 e14 W14 Vn14
  have V_b : AV Z h14 b .double (3 : Int32) [(.double y0), (.double y1), (.double y2)] := Vn14
  have Ex_a := Ex_a.wr W14
  have F_rates_a := F_rates_a.other W14 (Or.inl ne_a_b)
  have F_price_a := F_price_a.other W14 (Or.inl ne_a_b)
  have F_cost_a := F_cost_a.other W14 (Or.inl ne_a_b)
  have V_rt := V_rt.other W14 ne_rt_b
  have Zs := Nat.le_trans Zs (Wr.size W14)
  have NF14 := Fr.snoc X14 NF10 ge_b
  have K14 := K10.wr W14 (Or.inr sz_b)
  show G (T14.setTop (mkF m 33 #[.val (.ref a), .val (.ref b), .val (.int 2)] []))
  refine g_iinc hG X14 hx (hb hby d3_33) (pc' := 36) rfl rfl (v := (3 : Int32)) (by decide) (Ls' := #[.val (.ref a), .val (.ref b), .val (.int 3)]) rfl ?_
  show G (T14.setTop (mkF m 36 #[.val (.ref a), .val (.ref b), .val (.int 3)] []))
  refine g_goto hG X14 hx (hb hby d3_36) (pc' := 10) (by decide) (by decide) ?_
  show G (T14.setTop (mkF m 10 #[.val (.ref a), .val (.ref b), .val (.int 3)] []))
  refine g_iloadN hG X14 hx (hb hby d3_10) (pc' := 11) rfl rfl ?_
  show G (T14.setTop (mkF m 11 #[.val (.ref a), .val (.ref b), .val (.int 3)] [(.int 3)]))
  refine g_aloadN hG X14 hx (hb hby d3_11) (pc' := 12) rfl rfl rfl ?_
  show G (T14.setTop (mkF m 12 #[.val (.ref a), .val (.ref b), .val (.int 3)] [(.ref a), (.int 3)]))
  refine g_getF hG X14 hx hZ hown (wd hw 10 rfl) Via.refl e14 F_rates_a (hb hby d3_12) (pc' := 15) rfl ?_
  intro T15 X15 e15
  show G (T15.setTop (mkF m 15 #[.val (.ref a), .val (.ref b), .val (.int 3)] [(.ref rt), (.int 3)]))
  refine g_arraylength hG X15 hx hZ e15 V_rt (hb hby d3_15) (pc' := 16) rfl ?_
  show G (T15.setTop (mkF m 16 #[.val (.ref a), .val (.ref b), .val (.int 3)] [(.int 3), (.int 3)]))
  refine g_icmpYes hG X15 hx (hb hby d3_16) (pc' := 39) (by decide) (by decide) (by decide) ?_
  show G (T15.setTop (mkF m 39 #[.val (.ref a), .val (.ref b), .val (.int 3)] []))
  refine g_aloadN hG X15 hx (hb hby d3_39) (pc' := 40) rfl rfl rfl ?_
  show G (T15.setTop (mkF m 40 #[.val (.ref a), .val (.ref b), .val (.int 3)] [(.ref b)]))
  exact e_retA hGe X15 hx hrt rfl hlk (hb hby d3_40) e15 (by decide) (by decide) (⟨b, rfl, NF14, K14, sz_b, V_b⟩)

def Q_rmE (Z : State) (pp xx : Int32) (ev : UInt64) (h0 : Heap) (n0 : Nat) (v : Option Value) (h : Heap) (L : List Loc) : Prop := v = some (.double ev) ∧ Fr n0 L ∧ h = h0
set_option maxRecDepth 65536 in
set_option maxHeartbeats 40000000 in
theorem rmE (l : Launch) (Z : State) (a0 : Array Value) (hw : ∀ d ∈ tables_1, d.before a0 Z = true) (ws : List Jvm.Cond) (pp xx : Int32) (ev : UInt64) (h0 : Heap) (n0 : Nat) (Zs : n0 ≤ h0.size) (he : FP.l2d (pp.toInt64 * xx.toInt64) = ev) :
    Con l (⟨"com/example/flowmarket/flowmarket/game/PricedLinkPaymentsPinLaw", "expect", "(II)D"⟩ : MethodName) method_2_code 2 (some .double) ws ({ frames := 0, cells := 0, slots := 0, locals := 0 } : Room) Z #[(.int pp), (.int xx)] h0 ({ frames := 0, cells := 0, slots := 0, locals := 0 } : Room).cells ({ frames := 0, cells := 0, slots := 0, locals := 0 } : Room).slots (Q_rmE Z pp xx ev h0 n0) := by
  refine Con.of (Ls := #[.val (.int pp), .val (.int xx)]) (plainFor_of_name (by first | (simp [plainName, overriddenIn]; done) | decide +kernel)) (fun m => by first | (simp [entryFrame, mkF, argsToLocals, Value.category]; done) | rfl) ?_
  intro p e s m below meth c s₁ G hGe hG hx hby hml hown hnm hrt hlk hZ X0 e0
  have hown : s.vm.findClass "com/example/flowmarket/flowmarket/game/PricedLinkPaymentsPinLaw" = some m.cls := hown
  have hnm : meth.name = "expect" := hnm
  have NF0 := Fr.nil n0
  subst he
  refine g_iloadN hG X0 hx (hb hby d4_0) (pc' := 1) rfl rfl ?_
  show G (s₁.setTop (mkF m 1 #[.val (.int pp), .val (.int xx)] [(.int pp)]))
  obtain ⟨v1, q1⟩ : ∃ z : Int64, pp.toInt64 = z := ⟨_, rfl⟩
  refine g_i2l hG X0 hx (hb hby d4_1) (pc' := 2) rfl q1 ?_
  show G (s₁.setTop (mkF m 2 #[.val (.int pp), .val (.int xx)] [(.long v1)]))
  refine g_iloadN hG X0 hx (hb hby d4_2) (pc' := 3) rfl rfl ?_
  show G (s₁.setTop (mkF m 3 #[.val (.int pp), .val (.int xx)] [(.int xx), (.long v1)]))
  obtain ⟨v3, q3⟩ : ∃ z : Int64, xx.toInt64 = z := ⟨_, rfl⟩
  refine g_i2l hG X0 hx (hb hby d4_3) (pc' := 4) rfl q3 ?_
  show G (s₁.setTop (mkF m 4 #[.val (.int pp), .val (.int xx)] [(.long v3), (.long v1)]))
  obtain ⟨v4, q4⟩ : ∃ z : Int64, v1 * v3 = z := ⟨_, rfl⟩
  refine g_lmul hG X0 hx (hb hby d4_4) (pc' := 5) rfl q4 ?_
  show G (s₁.setTop (mkF m 5 #[.val (.int pp), .val (.int xx)] [(.long v4)]))
  obtain ⟨v5, q5⟩ : ∃ z : UInt64, FP.l2d v4 = z := ⟨_, rfl⟩
  refine g_l2d hG X0 hx (hb hby d4_5) (pc' := 6) rfl q5 ?_
  show G (s₁.setTop (mkF m 6 #[.val (.int pp), .val (.int xx)] [(.double v5)]))
  subst q5 q4 q3 q1
  exact e_retD hGe X0 hx hrt hlk (hb hby d4_6) e0 (by decide) (by decide) (⟨rfl, NF0, rfl⟩)

def Q_rm0 (Z : State) (sz pp aa bb cc : Int32) (h0 : Heap) (n0 : Nat) (v : Option Value) (h : Heap) (L : List Loc) : Prop := v = some (.int 1) ∧ Fr n0 L
set_option maxRecDepth 65536 in
set_option maxHeartbeats 40000000 in
theorem rm0 (l : Launch) (Z : State) (a0 : Array Value) (hw : ∀ d ∈ tables_1, d.before a0 Z = true) (ws : List Jvm.Cond) (sz pp aa bb cc : Int32) (h0 : Heap) (n0 : Nat) (Zs : n0 ≤ h0.size)  :
    Con l x code maxLocals ret ws room_1 Z #[(.int sz), (.int pp), (.int aa), (.int bb), (.int cc)] h0 room_1.cells room_1.slots (Q_rm0 Z sz pp aa bb cc h0 n0) := by
  refine Con.of (Ls := #[.val (.int sz), .val (.int pp), .val (.int aa), .val (.int bb), .val (.int cc), .unset, .unset, .unset, .unset, .unset]) (plainFor_of_name (by first | (simp [plainName, overriddenIn]; done) | decide +kernel)) (fun m => by first | (simp [entryFrame, mkF, argsToLocals, Value.category, maxLocals]; done) | rfl) ?_
  intro p e s m below meth c s₁ G hGe hG hx hby hml hown hnm hrt hlk hZ X0 e0
  have hml : c.maxLocals = 10 := hml
  have hown : s.vm.findClass "com/example/flowmarket/flowmarket/game/PricedLinkPaymentsPinLaw" = some m.cls := hown
  have hnm : meth.name = "law" := hnm
  have NF0 := Fr.nil n0
  refine g_iloadN hG X0 hx (hb hby at_0) (pc' := 1) rfl rfl ?_
  show G (s₁.setTop (mkF m 1 #[.val (.int sz), .val (.int pp), .val (.int aa), .val (.int bb), .val (.int cc), .unset, .unset, .unset, .unset, .unset] [(.int sz)]))
  refine g_iconst hG X0 hx (hb hby at_1) (pc' := 2) rfl (v := (3 : Int32)) rfl ?_
  show G (s₁.setTop (mkF m 2 #[.val (.int sz), .val (.int pp), .val (.int aa), .val (.int bb), .val (.int cc), .unset, .unset, .unset, .unset, .unset] [(.int 3), (.int sz)]))
  obtain ⟨v2, q2⟩ : ∃ z : Int32, sz &&& (3 : Int32) = z := ⟨_, rfl⟩
  refine g_iand hG X0 hx (hb hby at_2) (pc' := 3) rfl q2 ?_
  show G (s₁.setTop (mkF m 3 #[.val (.int sz), .val (.int pp), .val (.int aa), .val (.int bb), .val (.int cc), .unset, .unset, .unset, .unset, .unset] [(.int v2)]))
  refine g_istore hG X0 hx (hb hby at_3) (pc' := 5) rfl (Ls' := #[.val (.int sz), .val (.int pp), .val (.int aa), .val (.int bb), .val (.int cc), .val (.int v2), .unset, .unset, .unset, .unset]) rfl ?_
  show G (s₁.setTop (mkF m 5 #[.val (.int sz), .val (.int pp), .val (.int aa), .val (.int bb), .val (.int cc), .val (.int v2), .unset, .unset, .unset, .unset] []))
  have c2 : v2 = 0 ∨ v2 = 1 ∨ v2 = 2 ∨ v2 = 3 := by
    have a := c_and sz 3 (by decide)
    rw [q2] at a
    have c : (3 : Int32).toInt = 3 := by decide
    rw [c] at a
    have : v2.toInt = 0 ∨ v2.toInt = 1 ∨ v2.toInt = 2 ∨ v2.toInt = 3 := by omega
    rcases this with g | g | g | g
    · exact Or.inl (Int32.toInt_inj.mp g)
    · exact Or.inr (Or.inl (Int32.toInt_inj.mp g))
    · exact Or.inr (Or.inr (Or.inl (Int32.toInt_inj.mp g)))
    · exact Or.inr (Or.inr (Or.inr (Int32.toInt_inj.mp g)))
  rcases c2 with rfl | rfl | rfl | rfl
  · skip
    show G (s₁.setTop (mkF m 5 #[.val (.int sz), .val (.int pp), .val (.int aa), .val (.int bb), .val (.int cc), .val (.int 0), .unset, .unset, .unset, .unset] []))
    refine g_iload hG X0 hx (hb hby at_5) (pc' := 7) rfl rfl ?_
    show G (s₁.setTop (mkF m 7 #[.val (.int sz), .val (.int pp), .val (.int aa), .val (.int bb), .val (.int cc), .val (.int 0), .unset, .unset, .unset, .unset] [(.int 0)]))
    refine g_newP hG X0 hx hZ (wd hw 0 rfl) e0 (hb hby at_7) (by decide) 0 (by decide) (by decide) (by decide) (by decide) (pc' := 9) rfl ?_
    intro T1 h1 ra kA1 gs1 X1 e1 E1 A1
    have ge_ra : n0 ≤ ra := gs1 ▸ Zs
    have Zs := Nat.le_trans Zs E1.1
    have V_ra : AV Z h1 ra .double (0 : Int32) [] := AV.new A1
    show G (T1.setTop (mkF m 9 #[.val (.int sz), .val (.int pp), .val (.int aa), .val (.int bb), .val (.int cc), .val (.int 0), .unset, .unset, .unset, .unset] [(.ref ra)]))
    refine g_astore hG X1 hx (hb hby at_9) (pc' := 11) rfl rfl (Ls' := #[.val (.int sz), .val (.int pp), .val (.int aa), .val (.int bb), .val (.int cc), .val (.int 0), .val (.ref ra), .unset, .unset, .unset]) rfl ?_
    show G (T1.setTop (mkF m 11 #[.val (.int sz), .val (.int pp), .val (.int aa), .val (.int bb), .val (.int cc), .val (.int 0), .val (.ref ra), .unset, .unset, .unset] []))
    refine g_iload hG X1 hx (hb hby at_11) (pc' := 13) rfl rfl ?_
    show G (T1.setTop (mkF m 13 #[.val (.int sz), .val (.int pp), .val (.int aa), .val (.int bb), .val (.int cc), .val (.int 0), .val (.ref ra), .unset, .unset, .unset] [(.int 0)]))
    refine g_ifYes hG X1 hx (hb hby at_13) (pc' := 22) (by decide) (by decide) (by decide) ?_
    show G (T1.setTop (mkF m 22 #[.val (.int sz), .val (.int pp), .val (.int aa), .val (.int bb), .val (.int cc), .val (.int 0), .val (.ref ra), .unset, .unset, .unset] []))
    refine g_iload hG X1 hx (hb hby at_22) (pc' := 24) rfl rfl ?_
    show G (T1.setTop (mkF m 24 #[.val (.int sz), .val (.int pp), .val (.int aa), .val (.int bb), .val (.int cc), .val (.int 0), .val (.ref ra), .unset, .unset, .unset] [(.int 0)]))
    refine g_iconst hG X1 hx (hb hby at_24) (pc' := 25) rfl (v := (1 : Int32)) rfl ?_
    show G (T1.setTop (mkF m 25 #[.val (.int sz), .val (.int pp), .val (.int aa), .val (.int bb), .val (.int cc), .val (.int 0), .val (.ref ra), .unset, .unset, .unset] [(.int 1), (.int 0)]))
    refine g_icmpYes hG X1 hx (hb hby at_25) (pc' := 34) (by decide) (by decide) (by decide) ?_
    show G (T1.setTop (mkF m 34 #[.val (.int sz), .val (.int pp), .val (.int aa), .val (.int bb), .val (.int cc), .val (.int 0), .val (.ref ra), .unset, .unset, .unset] []))
    refine g_iload hG X1 hx (hb hby at_34) (pc' := 36) rfl rfl ?_
    show G (T1.setTop (mkF m 36 #[.val (.int sz), .val (.int pp), .val (.int aa), .val (.int bb), .val (.int cc), .val (.int 0), .val (.ref ra), .unset, .unset, .unset] [(.int 0)]))
    refine g_iconst hG X1 hx (hb hby at_36) (pc' := 37) rfl (v := (2 : Int32)) rfl ?_
    show G (T1.setTop (mkF m 37 #[.val (.int sz), .val (.int pp), .val (.int aa), .val (.int bb), .val (.int cc), .val (.int 0), .val (.ref ra), .unset, .unset, .unset] [(.int 2), (.int 0)]))
    refine g_icmpYes hG X1 hx (hb hby at_37) (pc' := 47) (by decide) (by decide) (by decide) ?_
    show G (T1.setTop (mkF m 47 #[.val (.int sz), .val (.int pp), .val (.int aa), .val (.int bb), .val (.int cc), .val (.int 0), .val (.ref ra), .unset, .unset, .unset] []))
    refine g_newO hG X1 hx hZ hown (wd hw 1 rfl) (wd hw 2 rfl) (wd hw 3 rfl) e1 (hb hby at_47) (by decide) (by decide) (pc' := 50) rfl ?_
    intro T2 h2 lk gs2 X2 e2 E2 Aq2 Dq2
    have ne_ra_lk : ra ≠ lk := Nat.ne_of_lt (gs2 ▸ V_ra.lt)
    have ge_lk : n0 ≤ lk := gs2 ▸ Zs
    have Zs := Nat.le_trans Zs E2.1
    have V_ra := V_ra.ext E2
    have Ex_lk := Aq2
    have F_rates_lk : Fld Z h2 lk "com/example/flowmarket/flowmarket/game/PricedLink" "rates" "[D" .null := Dq2 (Or.inr (wd hw 11 rfl)) (ty := (.array .double)) (by decide)
    have F_price_lk : Fld Z h2 lk "com/example/flowmarket/flowmarket/game/PricedLink" "price" "D" (.double 0) := Dq2 (Or.inr (wd hw 13 rfl)) (ty := .double) (by decide)
    have F_cost_lk : Fld Z h2 lk "com/example/flowmarket/flowmarket/game/PricedLink" "cost" "D" (.double 0) := Dq2 (Or.inr (wd hw 15 rfl)) (ty := .double) (by decide)
    show G (T2.setTop (mkF m 50 #[.val (.int sz), .val (.int pp), .val (.int aa), .val (.int bb), .val (.int cc), .val (.int 0), .val (.ref ra), .unset, .unset, .unset] [(.ref lk)]))
    refine g_dup hG X2 hx (hb hby at_50) (pc' := 51) rfl rfl ?_
    show G (T2.setTop (mkF m 51 #[.val (.int sz), .val (.int pp), .val (.int aa), .val (.int bb), .val (.int cc), .val (.int 0), .val (.ref ra), .unset, .unset, .unset] [(.ref lk), (.ref lk)]))
    refine g_aload hG X2 hx (hb hby at_51) (pc' := 53) rfl rfl rfl ?_
    show G (T2.setTop (mkF m 53 #[.val (.int sz), .val (.int pp), .val (.int aa), .val (.int bb), .val (.int cc), .val (.int 0), .val (.ref ra), .unset, .unset, .unset] [(.ref ra), (.ref lk), (.ref lk)]))
    refine g_iloadN hG X2 hx (hb hby at_53) (pc' := 54) rfl rfl ?_
    show G (T2.setTop (mkF m 54 #[.val (.int sz), .val (.int pp), .val (.int aa), .val (.int bb), .val (.int cc), .val (.int 0), .val (.ref ra), .unset, .unset, .unset] [(.int pp), (.ref ra), (.ref lk), (.ref lk)]))
    obtain ⟨v54, q54⟩ : ∃ z : UInt64, FP.i2d pp = z := ⟨_, rfl⟩
    refine g_i2d hG X2 hx (hb hby at_54) (pc' := 55) rfl q54 ?_
    have D_v54 : OwnFl.DV v54 ((pp.toInt : Int) : Rat) := by rw [← q54]; exact OwnFl.i2d_DV pp
    show G (T2.setTop (mkF m 55 #[.val (.int sz), .val (.int pp), .val (.int aa), .val (.int bb), .val (.int cc), .val (.int 0), .val (.ref ra), .unset, .unset, .unset] [(.double v54), (.ref ra), (.ref lk), (.ref lk)]))
    refine g_dconst0 hG X2 hx (hb hby at_55) (pc' := 56) rfl (v := (0 : UInt64)) rfl ?_
    show G (T2.setTop (mkF m 56 #[.val (.int sz), .val (.int pp), .val (.int aa), .val (.int bb), .val (.int cc), .val (.int 0), .val (.ref ra), .unset, .unset, .unset] [(.double 0), (.double v54), (.ref ra), (.ref lk), (.ref lk)]))
    refine g_callI hG X2 hx hZ (y := (⟨"com/example/flowmarket/flowmarket/game/PricedLink", "<init>", "([DDD)V"⟩ : MethodName)) 1 rfl hown (wd hw 4 rfl) (wd hw 5 rfl) (wd hw 3 rfl) (wd hw 6 rfl) (by decide) (rmP l Z a0 hw [] lk ra v54 (0 : UInt64) h2 n0 Zs ge_lk Ex_lk F_rates_lk F_price_lk F_cost_lk) (by decide) (by decide) (by rw [hml]; rfl) pd_0 rfl (argsL := [(.ref ra), (.double v54), (.double 0)]) (rest := [(.ref lk)]) rfl rfl (Nat.le_of_eq rfl) (hb hby at_56) e2 (by decide) (by decide) (pc' := 59) rfl ?_
    intro T3 rv3 L3 X3 hQ3
    obtain ⟨rfl, Nq3, Kq3, Ex_lk, F_rates_lk, F_price_lk, F_cost_lk⟩ := hQ3
    have NF3 := Fr.app NF0 Nq3
    have V_ra := V_ra.keep Kq3 (ninS ne_ra_lk nin0)
    have Zs := Nat.le_trans Zs Kq3.1
    show G (T3.setTop (mkF m 59 #[.val (.int sz), .val (.int pp), .val (.int aa), .val (.int bb), .val (.int cc), .val (.int 0), .val (.ref ra), .unset, .unset, .unset] [(.ref lk)]))
    refine g_astore hG X3 hx (hb hby at_59) (pc' := 61) rfl rfl (Ls' := #[.val (.int sz), .val (.int pp), .val (.int aa), .val (.int bb), .val (.int cc), .val (.int 0), .val (.ref ra), .val (.ref lk), .unset, .unset]) rfl ?_
    show G (T3.setTop (mkF m 61 #[.val (.int sz), .val (.int pp), .val (.int aa), .val (.int bb), .val (.int cc), .val (.int 0), .val (.ref ra), .val (.ref lk), .unset, .unset] []))
    refine g_aload hG X3 hx (hb hby at_61) (pc' := 63) rfl rfl rfl ?_
    show G (T3.setTop (mkF m 63 #[.val (.int sz), .val (.int pp), .val (.int aa), .val (.int bb), .val (.int cc), .val (.int 0), .val (.ref ra), .val (.ref lk), .unset, .unset] [(.ref lk)]))
    refine g_callV hG X3 hx hZ (y := (⟨"com/example/flowmarket/flowmarket/game/PricedLink", "payments", "()[D"⟩ : MethodName)) 0 hown (wd hw 16 rfl) (wd hw 17 rfl) (wd hw 19 rfl) (wd hw 18 rfl) (wd hw 3 rfl) (wd hw 20 rfl) (by decide) (rmY0 l Z a0 hw [] lk ra v54 (0 : UInt64)   T3.heap n0 Zs (Ne.symm ne_ra_lk)  Ex_lk F_rates_lk F_price_lk F_cost_lk V_ra) (by decide) (by decide) (by rw [hml]; rfl) pd_1 rfl (argsL := []) (rest := []) rfl rfl (Nat.le_of_eq rfl) (hb hby at_63) rfl Ex_lk (by decide) (by decide) (pc' := 66) rfl ?_
    intro T4 rv4 L4 X4 hQ4
    obtain ⟨pa, rfl, Nq4, Kq4, szq4, V_pa⟩ := hQ4
    have NF4 := Fr.app NF3 Nq4
    have ne_ra_pa : ra ≠ pa := Nat.ne_of_lt (Nat.lt_of_lt_of_le V_ra.lt szq4)
    have ne_lk_pa : lk ≠ pa := Nat.ne_of_lt (Nat.lt_of_lt_of_le Ex_lk.lt szq4)
    have ge_pa : n0 ≤ pa := Nat.le_trans Zs szq4
    have V_ra := V_ra.keep Kq4 nin0
    have Ex_lk := Ex_lk.keep Kq4
    have F_rates_lk := F_rates_lk.keep Kq4 nin0
    have F_price_lk := F_price_lk.keep Kq4 nin0
    have F_cost_lk := F_cost_lk.keep Kq4 nin0
    have Zs := Nat.le_trans Zs Kq4.1
    show G (T4.setTop (mkF m 66 #[.val (.int sz), .val (.int pp), .val (.int aa), .val (.int bb), .val (.int cc), .val (.int 0), .val (.ref ra), .val (.ref lk), .unset, .unset] [(.ref pa)]))
    refine g_astore hG X4 hx (hb hby at_66) (pc' := 68) rfl rfl (Ls' := #[.val (.int sz), .val (.int pp), .val (.int aa), .val (.int bb), .val (.int cc), .val (.int 0), .val (.ref ra), .val (.ref lk), .val (.ref pa), .unset]) rfl ?_
    show G (T4.setTop (mkF m 68 #[.val (.int sz), .val (.int pp), .val (.int aa), .val (.int bb), .val (.int cc), .val (.int 0), .val (.ref ra), .val (.ref lk), .val (.ref pa), .unset] []))
    refine g_aload hG X4 hx (hb hby at_68) (pc' := 70) rfl rfl rfl ?_
    show G (T4.setTop (mkF m 70 #[.val (.int sz), .val (.int pp), .val (.int aa), .val (.int bb), .val (.int cc), .val (.int 0), .val (.ref ra), .val (.ref lk), .val (.ref pa), .unset] [(.ref pa)]))
    refine g_ifnullNo hG X4 hx (hb hby at_70) (pc' := 73) rfl ?_
    show G (T4.setTop (mkF m 73 #[.val (.int sz), .val (.int pp), .val (.int aa), .val (.int bb), .val (.int cc), .val (.int 0), .val (.ref ra), .val (.ref lk), .val (.ref pa), .unset] []))
    refine g_aload hG X4 hx (hb hby at_73) (pc' := 75) rfl rfl rfl ?_
    show G (T4.setTop (mkF m 75 #[.val (.int sz), .val (.int pp), .val (.int aa), .val (.int bb), .val (.int cc), .val (.int 0), .val (.ref ra), .val (.ref lk), .val (.ref pa), .unset] [(.ref pa)]))
    refine g_aload hG X4 hx (hb hby at_75) (pc' := 77) rfl rfl rfl ?_
    show G (T4.setTop (mkF m 77 #[.val (.int sz), .val (.int pp), .val (.int aa), .val (.int bb), .val (.int cc), .val (.int 0), .val (.ref ra), .val (.ref lk), .val (.ref pa), .unset] [(.ref ra), (.ref pa)]))
    refine g_acmp hG X4 hx rfl rfl (hb hby at_77) (pc' := 80) (same := false) (decide_eq_false fun q => (Ne.symm ne_ra_pa) (Value.ref.inj q)) (by decide) (by decide) ?_
    show G (T4.setTop (mkF m 80 #[.val (.int sz), .val (.int pp), .val (.int aa), .val (.int bb), .val (.int cc), .val (.int 0), .val (.ref ra), .val (.ref lk), .val (.ref pa), .unset] []))
    refine g_aload hG X4 hx (hb hby at_80) (pc' := 82) rfl rfl rfl ?_
    show G (T4.setTop (mkF m 82 #[.val (.int sz), .val (.int pp), .val (.int aa), .val (.int bb), .val (.int cc), .val (.int 0), .val (.ref ra), .val (.ref lk), .val (.ref pa), .unset] [(.ref pa)]))
    refine g_arraylength hG X4 hx hZ rfl V_pa (hb hby at_82) (pc' := 83) rfl ?_
    show G (T4.setTop (mkF m 83 #[.val (.int sz), .val (.int pp), .val (.int aa), .val (.int bb), .val (.int cc), .val (.int 0), .val (.ref ra), .val (.ref lk), .val (.ref pa), .unset] [(.int 0)]))
    refine g_iload hG X4 hx (hb hby at_83) (pc' := 85) rfl rfl ?_
    show G (T4.setTop (mkF m 85 #[.val (.int sz), .val (.int pp), .val (.int aa), .val (.int bb), .val (.int cc), .val (.int 0), .val (.ref ra), .val (.ref lk), .val (.ref pa), .unset] [(.int 0), (.int 0)]))
    refine g_icmpYes hG X4 hx (hb hby at_85) (pc' := 90) (by decide) (by decide) (by decide) ?_
    show G (T4.setTop (mkF m 90 #[.val (.int sz), .val (.int pp), .val (.int aa), .val (.int bb), .val (.int cc), .val (.int 0), .val (.ref ra), .val (.ref lk), .val (.ref pa), .unset] []))
    refine g_iload hG X4 hx (hb hby at_90) (pc' := 92) rfl rfl ?_
    show G (T4.setTop (mkF m 92 #[.val (.int sz), .val (.int pp), .val (.int aa), .val (.int bb), .val (.int cc), .val (.int 0), .val (.ref ra), .val (.ref lk), .val (.ref pa), .unset] [(.int 0)]))
    refine g_ifYes hG X4 hx (hb hby at_92) (pc' := 110) (by decide) (by decide) (by decide) ?_
    show G (T4.setTop (mkF m 110 #[.val (.int sz), .val (.int pp), .val (.int aa), .val (.int bb), .val (.int cc), .val (.int 0), .val (.ref ra), .val (.ref lk), .val (.ref pa), .unset] []))
    refine g_iload hG X4 hx (hb hby at_110) (pc' := 112) rfl rfl ?_
    show G (T4.setTop (mkF m 112 #[.val (.int sz), .val (.int pp), .val (.int aa), .val (.int bb), .val (.int cc), .val (.int 0), .val (.ref ra), .val (.ref lk), .val (.ref pa), .unset] [(.int 0)]))
    refine g_iconst hG X4 hx (hb hby at_112) (pc' := 113) rfl (v := (1 : Int32)) rfl ?_
    show G (T4.setTop (mkF m 113 #[.val (.int sz), .val (.int pp), .val (.int aa), .val (.int bb), .val (.int cc), .val (.int 0), .val (.ref ra), .val (.ref lk), .val (.ref pa), .unset] [(.int 1), (.int 0)]))
    refine g_icmpYes hG X4 hx (hb hby at_113) (pc' := 131) (by decide) (by decide) (by decide) ?_
    show G (T4.setTop (mkF m 131 #[.val (.int sz), .val (.int pp), .val (.int aa), .val (.int bb), .val (.int cc), .val (.int 0), .val (.ref ra), .val (.ref lk), .val (.ref pa), .unset] []))
    refine g_iload hG X4 hx (hb hby at_131) (pc' := 133) rfl rfl ?_
    show G (T4.setTop (mkF m 133 #[.val (.int sz), .val (.int pp), .val (.int aa), .val (.int bb), .val (.int cc), .val (.int 0), .val (.ref ra), .val (.ref lk), .val (.ref pa), .unset] [(.int 0)]))
    refine g_iconst hG X4 hx (hb hby at_133) (pc' := 134) rfl (v := (2 : Int32)) rfl ?_
    show G (T4.setTop (mkF m 134 #[.val (.int sz), .val (.int pp), .val (.int aa), .val (.int bb), .val (.int cc), .val (.int 0), .val (.ref ra), .val (.ref lk), .val (.ref pa), .unset] [(.int 2), (.int 0)]))
    refine g_icmpYes hG X4 hx (hb hby at_134) (pc' := 153) (by decide) (by decide) (by decide) ?_
    show G (T4.setTop (mkF m 153 #[.val (.int sz), .val (.int pp), .val (.int aa), .val (.int bb), .val (.int cc), .val (.int 0), .val (.ref ra), .val (.ref lk), .val (.ref pa), .unset] []))
    refine g_iload hG X4 hx (hb hby at_153) (pc' := 155) rfl rfl ?_
    show G (T4.setTop (mkF m 155 #[.val (.int sz), .val (.int pp), .val (.int aa), .val (.int bb), .val (.int cc), .val (.int 0), .val (.ref ra), .val (.ref lk), .val (.ref pa), .unset] [(.int 0)]))
    refine g_ifYes hG X4 hx (hb hby at_155) (pc' := 170) (by decide) (by decide) (by decide) ?_
    show G (T4.setTop (mkF m 170 #[.val (.int sz), .val (.int pp), .val (.int aa), .val (.int bb), .val (.int cc), .val (.int 0), .val (.ref ra), .val (.ref lk), .val (.ref pa), .unset] []))
    refine g_iload hG X4 hx (hb hby at_170) (pc' := 172) rfl rfl ?_
    show G (T4.setTop (mkF m 172 #[.val (.int sz), .val (.int pp), .val (.int aa), .val (.int bb), .val (.int cc), .val (.int 0), .val (.ref ra), .val (.ref lk), .val (.ref pa), .unset] [(.int 0)]))
    refine g_iconst hG X4 hx (hb hby at_172) (pc' := 173) rfl (v := (1 : Int32)) rfl ?_
    show G (T4.setTop (mkF m 173 #[.val (.int sz), .val (.int pp), .val (.int aa), .val (.int bb), .val (.int cc), .val (.int 0), .val (.ref ra), .val (.ref lk), .val (.ref pa), .unset] [(.int 1), (.int 0)]))
    refine g_icmpYes hG X4 hx (hb hby at_173) (pc' := 188) (by decide) (by decide) (by decide) ?_
    show G (T4.setTop (mkF m 188 #[.val (.int sz), .val (.int pp), .val (.int aa), .val (.int bb), .val (.int cc), .val (.int 0), .val (.ref ra), .val (.ref lk), .val (.ref pa), .unset] []))
    refine g_iload hG X4 hx (hb hby at_188) (pc' := 190) rfl rfl ?_
    show G (T4.setTop (mkF m 190 #[.val (.int sz), .val (.int pp), .val (.int aa), .val (.int bb), .val (.int cc), .val (.int 0), .val (.ref ra), .val (.ref lk), .val (.ref pa), .unset] [(.int 0)]))
    refine g_iconst hG X4 hx (hb hby at_190) (pc' := 191) rfl (v := (2 : Int32)) rfl ?_
    show G (T4.setTop (mkF m 191 #[.val (.int sz), .val (.int pp), .val (.int aa), .val (.int bb), .val (.int cc), .val (.int 0), .val (.ref ra), .val (.ref lk), .val (.ref pa), .unset] [(.int 2), (.int 0)]))
    refine g_icmpYes hG X4 hx (hb hby at_191) (pc' := 207) (by decide) (by decide) (by decide) ?_
    show G (T4.setTop (mkF m 207 #[.val (.int sz), .val (.int pp), .val (.int aa), .val (.int bb), .val (.int cc), .val (.int 0), .val (.ref ra), .val (.ref lk), .val (.ref pa), .unset] []))
    refine g_iload hG X4 hx (hb hby at_207) (pc' := 209) rfl rfl ?_
    show G (T4.setTop (mkF m 209 #[.val (.int sz), .val (.int pp), .val (.int aa), .val (.int bb), .val (.int cc), .val (.int 0), .val (.ref ra), .val (.ref lk), .val (.ref pa), .unset] [(.int 0)]))
    refine g_ifYes hG X4 hx (hb hby at_209) (pc' := 219) (by decide) (by decide) (by decide) ?_
    show G (T4.setTop (mkF m 219 #[.val (.int sz), .val (.int pp), .val (.int aa), .val (.int bb), .val (.int cc), .val (.int 0), .val (.ref ra), .val (.ref lk), .val (.ref pa), .unset] []))
    refine g_iload hG X4 hx (hb hby at_219) (pc' := 221) rfl rfl ?_
    show G (T4.setTop (mkF m 221 #[.val (.int sz), .val (.int pp), .val (.int aa), .val (.int bb), .val (.int cc), .val (.int 0), .val (.ref ra), .val (.ref lk), .val (.ref pa), .unset] [(.int 0)]))
    refine g_iconst hG X4 hx (hb hby at_221) (pc' := 222) rfl (v := (2 : Int32)) rfl ?_
    show G (T4.setTop (mkF m 222 #[.val (.int sz), .val (.int pp), .val (.int aa), .val (.int bb), .val (.int cc), .val (.int 0), .val (.ref ra), .val (.ref lk), .val (.ref pa), .unset] [(.int 2), (.int 0)]))
    refine g_icmpYes hG X4 hx (hb hby at_222) (pc' := 232) (by decide) (by decide) (by decide) ?_
    show G (T4.setTop (mkF m 232 #[.val (.int sz), .val (.int pp), .val (.int aa), .val (.int bb), .val (.int cc), .val (.int 0), .val (.ref ra), .val (.ref lk), .val (.ref pa), .unset] []))
    refine g_aload hG X4 hx (hb hby at_232) (pc' := 234) rfl rfl rfl ?_
    show G (T4.setTop (mkF m 234 #[.val (.int sz), .val (.int pp), .val (.int aa), .val (.int bb), .val (.int cc), .val (.int 0), .val (.ref ra), .val (.ref lk), .val (.ref pa), .unset] [(.ref lk)]))
    refine g_callV hG X4 hx hZ (y := (⟨"com/example/flowmarket/flowmarket/game/PricedLink", "payments", "()[D"⟩ : MethodName)) 0 hown (wd hw 16 rfl) (wd hw 17 rfl) (wd hw 19 rfl) (wd hw 18 rfl) (wd hw 3 rfl) (wd hw 20 rfl) (by decide) (rmY0 l Z a0 hw [] lk ra v54 (0 : UInt64)   T4.heap n0 Zs (Ne.symm ne_ra_lk)  Ex_lk F_rates_lk F_price_lk F_cost_lk V_ra) (by decide) (by decide) (by rw [hml]; rfl) pd_1 rfl (argsL := []) (rest := []) rfl rfl (Nat.le_of_eq rfl) (hb hby at_234) rfl Ex_lk (by decide) (by decide) (pc' := 237) rfl ?_
    intro T5 rv5 L5 X5 hQ5
    obtain ⟨ag, rfl, Nq5, Kq5, szq5, V_ag⟩ := hQ5
    have NF5 := Fr.app NF4 Nq5
    have ne_ra_ag : ra ≠ ag := Nat.ne_of_lt (Nat.lt_of_lt_of_le V_ra.lt szq5)
    have ne_lk_ag : lk ≠ ag := Nat.ne_of_lt (Nat.lt_of_lt_of_le Ex_lk.lt szq5)
    have ne_pa_ag : pa ≠ ag := Nat.ne_of_lt (Nat.lt_of_lt_of_le V_pa.lt szq5)
    have ge_ag : n0 ≤ ag := Nat.le_trans Zs szq5
    have V_ra := V_ra.keep Kq5 nin0
    have Ex_lk := Ex_lk.keep Kq5
    have F_rates_lk := F_rates_lk.keep Kq5 nin0
    have F_price_lk := F_price_lk.keep Kq5 nin0
    have F_cost_lk := F_cost_lk.keep Kq5 nin0
    have V_pa := V_pa.keep Kq5 nin0
    have Zs := Nat.le_trans Zs Kq5.1
    show G (T5.setTop (mkF m 237 #[.val (.int sz), .val (.int pp), .val (.int aa), .val (.int bb), .val (.int cc), .val (.int 0), .val (.ref ra), .val (.ref lk), .val (.ref pa), .unset] [(.ref ag)]))
    refine g_astore hG X5 hx (hb hby at_237) (pc' := 239) rfl rfl (Ls' := #[.val (.int sz), .val (.int pp), .val (.int aa), .val (.int bb), .val (.int cc), .val (.int 0), .val (.ref ra), .val (.ref lk), .val (.ref pa), .val (.ref ag)]) rfl ?_
    show G (T5.setTop (mkF m 239 #[.val (.int sz), .val (.int pp), .val (.int aa), .val (.int bb), .val (.int cc), .val (.int 0), .val (.ref ra), .val (.ref lk), .val (.ref pa), .val (.ref ag)] []))
    refine g_aload hG X5 hx (hb hby at_239) (pc' := 241) rfl rfl rfl ?_
    show G (T5.setTop (mkF m 241 #[.val (.int sz), .val (.int pp), .val (.int aa), .val (.int bb), .val (.int cc), .val (.int 0), .val (.ref ra), .val (.ref lk), .val (.ref pa), .val (.ref ag)] [(.ref ag)]))
    refine g_ifnullNo hG X5 hx (hb hby at_241) (pc' := 244) rfl ?_
    show G (T5.setTop (mkF m 244 #[.val (.int sz), .val (.int pp), .val (.int aa), .val (.int bb), .val (.int cc), .val (.int 0), .val (.ref ra), .val (.ref lk), .val (.ref pa), .val (.ref ag)] []))
    refine g_aload hG X5 hx (hb hby at_244) (pc' := 246) rfl rfl rfl ?_
    show G (T5.setTop (mkF m 246 #[.val (.int sz), .val (.int pp), .val (.int aa), .val (.int bb), .val (.int cc), .val (.int 0), .val (.ref ra), .val (.ref lk), .val (.ref pa), .val (.ref ag)] [(.ref ag)]))
    refine g_aload hG X5 hx (hb hby at_246) (pc' := 248) rfl rfl rfl ?_
    show G (T5.setTop (mkF m 248 #[.val (.int sz), .val (.int pp), .val (.int aa), .val (.int bb), .val (.int cc), .val (.int 0), .val (.ref ra), .val (.ref lk), .val (.ref pa), .val (.ref ag)] [(.ref ra), (.ref ag)]))
    refine g_acmp hG X5 hx rfl rfl (hb hby at_248) (pc' := 251) (same := false) (decide_eq_false fun q => (Ne.symm ne_ra_ag) (Value.ref.inj q)) (by decide) (by decide) ?_
    show G (T5.setTop (mkF m 251 #[.val (.int sz), .val (.int pp), .val (.int aa), .val (.int bb), .val (.int cc), .val (.int 0), .val (.ref ra), .val (.ref lk), .val (.ref pa), .val (.ref ag)] []))
    refine g_aload hG X5 hx (hb hby at_251) (pc' := 253) rfl rfl rfl ?_
    show G (T5.setTop (mkF m 253 #[.val (.int sz), .val (.int pp), .val (.int aa), .val (.int bb), .val (.int cc), .val (.int 0), .val (.ref ra), .val (.ref lk), .val (.ref pa), .val (.ref ag)] [(.ref ag)]))
    refine g_arraylength hG X5 hx hZ rfl V_ag (hb hby at_253) (pc' := 254) rfl ?_
    show G (T5.setTop (mkF m 254 #[.val (.int sz), .val (.int pp), .val (.int aa), .val (.int bb), .val (.int cc), .val (.int 0), .val (.ref ra), .val (.ref lk), .val (.ref pa), .val (.ref ag)] [(.int 0)]))
    refine g_iload hG X5 hx (hb hby at_254) (pc' := 256) rfl rfl ?_
    show G (T5.setTop (mkF m 256 #[.val (.int sz), .val (.int pp), .val (.int aa), .val (.int bb), .val (.int cc), .val (.int 0), .val (.ref ra), .val (.ref lk), .val (.ref pa), .val (.ref ag)] [(.int 0), (.int 0)]))
    refine g_icmpYes hG X5 hx (hb hby at_256) (pc' := 261) (by decide) (by decide) (by decide) ?_
    show G (T5.setTop (mkF m 261 #[.val (.int sz), .val (.int pp), .val (.int aa), .val (.int bb), .val (.int cc), .val (.int 0), .val (.ref ra), .val (.ref lk), .val (.ref pa), .val (.ref ag)] []))
    refine g_iload hG X5 hx (hb hby at_261) (pc' := 263) rfl rfl ?_
    show G (T5.setTop (mkF m 263 #[.val (.int sz), .val (.int pp), .val (.int aa), .val (.int bb), .val (.int cc), .val (.int 0), .val (.ref ra), .val (.ref lk), .val (.ref pa), .val (.ref ag)] [(.int 0)]))
    refine g_ifYes hG X5 hx (hb hby at_263) (pc' := 281) (by decide) (by decide) (by decide) ?_
    show G (T5.setTop (mkF m 281 #[.val (.int sz), .val (.int pp), .val (.int aa), .val (.int bb), .val (.int cc), .val (.int 0), .val (.ref ra), .val (.ref lk), .val (.ref pa), .val (.ref ag)] []))
    refine g_iload hG X5 hx (hb hby at_281) (pc' := 283) rfl rfl ?_
    show G (T5.setTop (mkF m 283 #[.val (.int sz), .val (.int pp), .val (.int aa), .val (.int bb), .val (.int cc), .val (.int 0), .val (.ref ra), .val (.ref lk), .val (.ref pa), .val (.ref ag)] [(.int 0)]))
    refine g_iconst hG X5 hx (hb hby at_283) (pc' := 284) rfl (v := (2 : Int32)) rfl ?_
    show G (T5.setTop (mkF m 284 #[.val (.int sz), .val (.int pp), .val (.int aa), .val (.int bb), .val (.int cc), .val (.int 0), .val (.ref ra), .val (.ref lk), .val (.ref pa), .val (.ref ag)] [(.int 2), (.int 0)]))
    refine g_icmpYes hG X5 hx (hb hby at_284) (pc' := 303) (by decide) (by decide) (by decide) ?_
    show G (T5.setTop (mkF m 303 #[.val (.int sz), .val (.int pp), .val (.int aa), .val (.int bb), .val (.int cc), .val (.int 0), .val (.ref ra), .val (.ref lk), .val (.ref pa), .val (.ref ag)] []))
    refine g_iconst hG X5 hx (hb hby at_303) (pc' := 304) rfl (v := (1 : Int32)) rfl ?_
    show G (T5.setTop (mkF m 304 #[.val (.int sz), .val (.int pp), .val (.int aa), .val (.int bb), .val (.int cc), .val (.int 0), .val (.ref ra), .val (.ref lk), .val (.ref pa), .val (.ref ag)] [(.int 1)]))
    exact e_retZ hGe X5 hx hrt hlk (hb hby at_304) (Or.inr rfl) rfl (by decide) (by decide) (⟨rfl, NF5⟩)
  · skip
    show G (s₁.setTop (mkF m 5 #[.val (.int sz), .val (.int pp), .val (.int aa), .val (.int bb), .val (.int cc), .val (.int 1), .unset, .unset, .unset, .unset] []))
    refine g_iload hG X0 hx (hb hby at_5) (pc' := 7) rfl rfl ?_
    show G (s₁.setTop (mkF m 7 #[.val (.int sz), .val (.int pp), .val (.int aa), .val (.int bb), .val (.int cc), .val (.int 1), .unset, .unset, .unset, .unset] [(.int 1)]))
    refine g_newP hG X0 hx hZ (wd hw 0 rfl) e0 (hb hby at_7) (by decide) 1 (by decide) (by decide) (by decide) (by decide) (pc' := 9) rfl ?_
    intro T6 h6 ra kA6 gs6 X6 e6 E6 A6
    have ge_ra : n0 ≤ ra := gs6 ▸ Zs
    have Zs := Nat.le_trans Zs E6.1
    have V_ra : AV Z h6 ra .double (1 : Int32) [(.double 0)] := AV.new A6
    show G (T6.setTop (mkF m 9 #[.val (.int sz), .val (.int pp), .val (.int aa), .val (.int bb), .val (.int cc), .val (.int 1), .unset, .unset, .unset, .unset] [(.ref ra)]))
    refine g_astore hG X6 hx (hb hby at_9) (pc' := 11) rfl rfl (Ls' := #[.val (.int sz), .val (.int pp), .val (.int aa), .val (.int bb), .val (.int cc), .val (.int 1), .val (.ref ra), .unset, .unset, .unset]) rfl ?_
    show G (T6.setTop (mkF m 11 #[.val (.int sz), .val (.int pp), .val (.int aa), .val (.int bb), .val (.int cc), .val (.int 1), .val (.ref ra), .unset, .unset, .unset] []))
    refine g_iload hG X6 hx (hb hby at_11) (pc' := 13) rfl rfl ?_
    show G (T6.setTop (mkF m 13 #[.val (.int sz), .val (.int pp), .val (.int aa), .val (.int bb), .val (.int cc), .val (.int 1), .val (.ref ra), .unset, .unset, .unset] [(.int 1)]))
    refine g_ifNo hG X6 hx (hb hby at_13) (pc' := 16) (by decide) rfl ?_
    show G (T6.setTop (mkF m 16 #[.val (.int sz), .val (.int pp), .val (.int aa), .val (.int bb), .val (.int cc), .val (.int 1), .val (.ref ra), .unset, .unset, .unset] []))
    refine g_aload hG X6 hx (hb hby at_16) (pc' := 18) rfl rfl rfl ?_
    show G (T6.setTop (mkF m 18 #[.val (.int sz), .val (.int pp), .val (.int aa), .val (.int bb), .val (.int cc), .val (.int 1), .val (.ref ra), .unset, .unset, .unset] [(.ref ra)]))
    refine g_iconst hG X6 hx (hb hby at_18) (pc' := 19) rfl (v := (0 : Int32)) rfl ?_
    show G (T6.setTop (mkF m 19 #[.val (.int sz), .val (.int pp), .val (.int aa), .val (.int bb), .val (.int cc), .val (.int 1), .val (.ref ra), .unset, .unset, .unset] [(.int 0), (.ref ra)]))
    refine g_iloadN hG X6 hx (hb hby at_19) (pc' := 20) rfl rfl ?_
    show G (T6.setTop (mkF m 20 #[.val (.int sz), .val (.int pp), .val (.int aa), .val (.int bb), .val (.int cc), .val (.int 1), .val (.ref ra), .unset, .unset, .unset] [(.int aa), (.int 0), (.ref ra)]))
    obtain ⟨v20, q20⟩ : ∃ z : UInt64, FP.i2d aa = z := ⟨_, rfl⟩
    refine g_i2d hG X6 hx (hb hby at_20) (pc' := 21) rfl q20 ?_
    have D_v20 : OwnFl.DV v20 ((aa.toInt : Int) : Rat) := by rw [← q20]; exact OwnFl.i2d_DV aa
    show G (T6.setTop (mkF m 21 #[.val (.int sz), .val (.int pp), .val (.int aa), .val (.int bb), .val (.int cc), .val (.int 1), .val (.ref ra), .unset, .unset, .unset] [(.double v20), (.int 0), (.ref ra)]))
    refine g_dastore hG X6 hx hZ e6 V_ra (j := (0 : Int32)) (by decide) (show Int32.toNatClampNeg (0 : Int32) < 1 by decide) (hb hby at_21) (pc' := 22) rfl ?_
    intro T7 h7 X7 e7 W7 Vn7
    have V_ra : AV Z h7 ra .double (1 : Int32) [(.double v20)] := Vn7
    have Zs := Nat.le_trans Zs (Wr.size W7)
    have NF7 := Fr.snoc X7 NF0 ge_ra
    show G (T7.setTop (mkF m 22 #[.val (.int sz), .val (.int pp), .val (.int aa), .val (.int bb), .val (.int cc), .val (.int 1), .val (.ref ra), .unset, .unset, .unset] []))
    refine g_iload hG X7 hx (hb hby at_22) (pc' := 24) rfl rfl ?_
    show G (T7.setTop (mkF m 24 #[.val (.int sz), .val (.int pp), .val (.int aa), .val (.int bb), .val (.int cc), .val (.int 1), .val (.ref ra), .unset, .unset, .unset] [(.int 1)]))
    refine g_iconst hG X7 hx (hb hby at_24) (pc' := 25) rfl (v := (1 : Int32)) rfl ?_
    show G (T7.setTop (mkF m 25 #[.val (.int sz), .val (.int pp), .val (.int aa), .val (.int bb), .val (.int cc), .val (.int 1), .val (.ref ra), .unset, .unset, .unset] [(.int 1), (.int 1)]))
    refine g_icmpYes hG X7 hx (hb hby at_25) (pc' := 34) (by decide) (by decide) (by decide) ?_
    show G (T7.setTop (mkF m 34 #[.val (.int sz), .val (.int pp), .val (.int aa), .val (.int bb), .val (.int cc), .val (.int 1), .val (.ref ra), .unset, .unset, .unset] []))
    refine g_iload hG X7 hx (hb hby at_34) (pc' := 36) rfl rfl ?_
    show G (T7.setTop (mkF m 36 #[.val (.int sz), .val (.int pp), .val (.int aa), .val (.int bb), .val (.int cc), .val (.int 1), .val (.ref ra), .unset, .unset, .unset] [(.int 1)]))
    refine g_iconst hG X7 hx (hb hby at_36) (pc' := 37) rfl (v := (2 : Int32)) rfl ?_
    show G (T7.setTop (mkF m 37 #[.val (.int sz), .val (.int pp), .val (.int aa), .val (.int bb), .val (.int cc), .val (.int 1), .val (.ref ra), .unset, .unset, .unset] [(.int 2), (.int 1)]))
    refine g_icmpYes hG X7 hx (hb hby at_37) (pc' := 47) (by decide) (by decide) (by decide) ?_
    show G (T7.setTop (mkF m 47 #[.val (.int sz), .val (.int pp), .val (.int aa), .val (.int bb), .val (.int cc), .val (.int 1), .val (.ref ra), .unset, .unset, .unset] []))
    refine g_newO hG X7 hx hZ hown (wd hw 1 rfl) (wd hw 2 rfl) (wd hw 3 rfl) e7 (hb hby at_47) (by decide) (by decide) (pc' := 50) rfl ?_
    intro T8 h8 lk gs8 X8 e8 E8 Aq8 Dq8
    have ne_ra_lk : ra ≠ lk := Nat.ne_of_lt (gs8 ▸ V_ra.lt)
    have ge_lk : n0 ≤ lk := gs8 ▸ Zs
    have Zs := Nat.le_trans Zs E8.1
    have V_ra := V_ra.ext E8
    have Ex_lk := Aq8
    have F_rates_lk : Fld Z h8 lk "com/example/flowmarket/flowmarket/game/PricedLink" "rates" "[D" .null := Dq8 (Or.inr (wd hw 11 rfl)) (ty := (.array .double)) (by decide)
    have F_price_lk : Fld Z h8 lk "com/example/flowmarket/flowmarket/game/PricedLink" "price" "D" (.double 0) := Dq8 (Or.inr (wd hw 13 rfl)) (ty := .double) (by decide)
    have F_cost_lk : Fld Z h8 lk "com/example/flowmarket/flowmarket/game/PricedLink" "cost" "D" (.double 0) := Dq8 (Or.inr (wd hw 15 rfl)) (ty := .double) (by decide)
    show G (T8.setTop (mkF m 50 #[.val (.int sz), .val (.int pp), .val (.int aa), .val (.int bb), .val (.int cc), .val (.int 1), .val (.ref ra), .unset, .unset, .unset] [(.ref lk)]))
    refine g_dup hG X8 hx (hb hby at_50) (pc' := 51) rfl rfl ?_
    show G (T8.setTop (mkF m 51 #[.val (.int sz), .val (.int pp), .val (.int aa), .val (.int bb), .val (.int cc), .val (.int 1), .val (.ref ra), .unset, .unset, .unset] [(.ref lk), (.ref lk)]))
    refine g_aload hG X8 hx (hb hby at_51) (pc' := 53) rfl rfl rfl ?_
    show G (T8.setTop (mkF m 53 #[.val (.int sz), .val (.int pp), .val (.int aa), .val (.int bb), .val (.int cc), .val (.int 1), .val (.ref ra), .unset, .unset, .unset] [(.ref ra), (.ref lk), (.ref lk)]))
    refine g_iloadN hG X8 hx (hb hby at_53) (pc' := 54) rfl rfl ?_
    show G (T8.setTop (mkF m 54 #[.val (.int sz), .val (.int pp), .val (.int aa), .val (.int bb), .val (.int cc), .val (.int 1), .val (.ref ra), .unset, .unset, .unset] [(.int pp), (.ref ra), (.ref lk), (.ref lk)]))
    obtain ⟨v54, q54⟩ : ∃ z : UInt64, FP.i2d pp = z := ⟨_, rfl⟩
    refine g_i2d hG X8 hx (hb hby at_54) (pc' := 55) rfl q54 ?_
    have D_v54 : OwnFl.DV v54 ((pp.toInt : Int) : Rat) := by rw [← q54]; exact OwnFl.i2d_DV pp
    show G (T8.setTop (mkF m 55 #[.val (.int sz), .val (.int pp), .val (.int aa), .val (.int bb), .val (.int cc), .val (.int 1), .val (.ref ra), .unset, .unset, .unset] [(.double v54), (.ref ra), (.ref lk), (.ref lk)]))
    refine g_dconst0 hG X8 hx (hb hby at_55) (pc' := 56) rfl (v := (0 : UInt64)) rfl ?_
    show G (T8.setTop (mkF m 56 #[.val (.int sz), .val (.int pp), .val (.int aa), .val (.int bb), .val (.int cc), .val (.int 1), .val (.ref ra), .unset, .unset, .unset] [(.double 0), (.double v54), (.ref ra), (.ref lk), (.ref lk)]))
    refine g_callI hG X8 hx hZ (y := (⟨"com/example/flowmarket/flowmarket/game/PricedLink", "<init>", "([DDD)V"⟩ : MethodName)) 1 rfl hown (wd hw 4 rfl) (wd hw 5 rfl) (wd hw 3 rfl) (wd hw 6 rfl) (by decide) (rmP l Z a0 hw [] lk ra v54 (0 : UInt64) h8 n0 Zs ge_lk Ex_lk F_rates_lk F_price_lk F_cost_lk) (by decide) (by decide) (by rw [hml]; rfl) pd_0 rfl (argsL := [(.ref ra), (.double v54), (.double 0)]) (rest := [(.ref lk)]) rfl rfl (Nat.le_of_eq rfl) (hb hby at_56) e8 (by decide) (by decide) (pc' := 59) rfl ?_
    intro T9 rv9 L9 X9 hQ9
    obtain ⟨rfl, Nq9, Kq9, Ex_lk, F_rates_lk, F_price_lk, F_cost_lk⟩ := hQ9
    have NF9 := Fr.app NF7 Nq9
    have V_ra := V_ra.keep Kq9 (ninS ne_ra_lk nin0)
    have Zs := Nat.le_trans Zs Kq9.1
    show G (T9.setTop (mkF m 59 #[.val (.int sz), .val (.int pp), .val (.int aa), .val (.int bb), .val (.int cc), .val (.int 1), .val (.ref ra), .unset, .unset, .unset] [(.ref lk)]))
    refine g_astore hG X9 hx (hb hby at_59) (pc' := 61) rfl rfl (Ls' := #[.val (.int sz), .val (.int pp), .val (.int aa), .val (.int bb), .val (.int cc), .val (.int 1), .val (.ref ra), .val (.ref lk), .unset, .unset]) rfl ?_
    show G (T9.setTop (mkF m 61 #[.val (.int sz), .val (.int pp), .val (.int aa), .val (.int bb), .val (.int cc), .val (.int 1), .val (.ref ra), .val (.ref lk), .unset, .unset] []))
    refine g_aload hG X9 hx (hb hby at_61) (pc' := 63) rfl rfl rfl ?_
    show G (T9.setTop (mkF m 63 #[.val (.int sz), .val (.int pp), .val (.int aa), .val (.int bb), .val (.int cc), .val (.int 1), .val (.ref ra), .val (.ref lk), .unset, .unset] [(.ref lk)]))
    obtain ⟨y0, hy0⟩ : ∃ z, FP.dmul v54 v20 = z := ⟨_, rfl⟩
    have D_y0 : OwnFl.DV y0 (OwnFl.RR ((pp.toInt * aa.toInt : Int) : Rat)) := by rw [← hy0, ← q54, ← q20]; exact own_pay pp aa
    refine g_callV hG X9 hx hZ (y := (⟨"com/example/flowmarket/flowmarket/game/PricedLink", "payments", "()[D"⟩ : MethodName)) 0 hown (wd hw 16 rfl) (wd hw 17 rfl) (wd hw 19 rfl) (wd hw 18 rfl) (wd hw 3 rfl) (wd hw 20 rfl) (by decide) (rmY1 l Z a0 hw [] lk ra v54 (0 : UInt64) v20 y0 T9.heap n0 Zs (Ne.symm ne_ra_lk) hy0 D_y0.noNaN Ex_lk F_rates_lk F_price_lk F_cost_lk V_ra) (by decide) (by decide) (by rw [hml]; rfl) pd_1 rfl (argsL := []) (rest := []) rfl rfl (Nat.le_of_eq rfl) (hb hby at_63) rfl Ex_lk (by decide) (by decide) (pc' := 66) rfl ?_
    intro T10 rv10 L10 X10 hQ10
    obtain ⟨pa, rfl, Nq10, Kq10, szq10, V_pa⟩ := hQ10
    have NF10 := Fr.app NF9 Nq10
    have ne_ra_pa : ra ≠ pa := Nat.ne_of_lt (Nat.lt_of_lt_of_le V_ra.lt szq10)
    have ne_lk_pa : lk ≠ pa := Nat.ne_of_lt (Nat.lt_of_lt_of_le Ex_lk.lt szq10)
    have ge_pa : n0 ≤ pa := Nat.le_trans Zs szq10
    have V_ra := V_ra.keep Kq10 nin0
    have Ex_lk := Ex_lk.keep Kq10
    have F_rates_lk := F_rates_lk.keep Kq10 nin0
    have F_price_lk := F_price_lk.keep Kq10 nin0
    have F_cost_lk := F_cost_lk.keep Kq10 nin0
    have Zs := Nat.le_trans Zs Kq10.1
    show G (T10.setTop (mkF m 66 #[.val (.int sz), .val (.int pp), .val (.int aa), .val (.int bb), .val (.int cc), .val (.int 1), .val (.ref ra), .val (.ref lk), .unset, .unset] [(.ref pa)]))
    refine g_astore hG X10 hx (hb hby at_66) (pc' := 68) rfl rfl (Ls' := #[.val (.int sz), .val (.int pp), .val (.int aa), .val (.int bb), .val (.int cc), .val (.int 1), .val (.ref ra), .val (.ref lk), .val (.ref pa), .unset]) rfl ?_
    show G (T10.setTop (mkF m 68 #[.val (.int sz), .val (.int pp), .val (.int aa), .val (.int bb), .val (.int cc), .val (.int 1), .val (.ref ra), .val (.ref lk), .val (.ref pa), .unset] []))
    refine g_aload hG X10 hx (hb hby at_68) (pc' := 70) rfl rfl rfl ?_
    show G (T10.setTop (mkF m 70 #[.val (.int sz), .val (.int pp), .val (.int aa), .val (.int bb), .val (.int cc), .val (.int 1), .val (.ref ra), .val (.ref lk), .val (.ref pa), .unset] [(.ref pa)]))
    refine g_ifnullNo hG X10 hx (hb hby at_70) (pc' := 73) rfl ?_
    show G (T10.setTop (mkF m 73 #[.val (.int sz), .val (.int pp), .val (.int aa), .val (.int bb), .val (.int cc), .val (.int 1), .val (.ref ra), .val (.ref lk), .val (.ref pa), .unset] []))
    refine g_aload hG X10 hx (hb hby at_73) (pc' := 75) rfl rfl rfl ?_
    show G (T10.setTop (mkF m 75 #[.val (.int sz), .val (.int pp), .val (.int aa), .val (.int bb), .val (.int cc), .val (.int 1), .val (.ref ra), .val (.ref lk), .val (.ref pa), .unset] [(.ref pa)]))
    refine g_aload hG X10 hx (hb hby at_75) (pc' := 77) rfl rfl rfl ?_
    show G (T10.setTop (mkF m 77 #[.val (.int sz), .val (.int pp), .val (.int aa), .val (.int bb), .val (.int cc), .val (.int 1), .val (.ref ra), .val (.ref lk), .val (.ref pa), .unset] [(.ref ra), (.ref pa)]))
    refine g_acmp hG X10 hx rfl rfl (hb hby at_77) (pc' := 80) (same := false) (decide_eq_false fun q => (Ne.symm ne_ra_pa) (Value.ref.inj q)) (by decide) (by decide) ?_
    show G (T10.setTop (mkF m 80 #[.val (.int sz), .val (.int pp), .val (.int aa), .val (.int bb), .val (.int cc), .val (.int 1), .val (.ref ra), .val (.ref lk), .val (.ref pa), .unset] []))
    refine g_aload hG X10 hx (hb hby at_80) (pc' := 82) rfl rfl rfl ?_
    show G (T10.setTop (mkF m 82 #[.val (.int sz), .val (.int pp), .val (.int aa), .val (.int bb), .val (.int cc), .val (.int 1), .val (.ref ra), .val (.ref lk), .val (.ref pa), .unset] [(.ref pa)]))
    refine g_arraylength hG X10 hx hZ rfl V_pa (hb hby at_82) (pc' := 83) rfl ?_
    show G (T10.setTop (mkF m 83 #[.val (.int sz), .val (.int pp), .val (.int aa), .val (.int bb), .val (.int cc), .val (.int 1), .val (.ref ra), .val (.ref lk), .val (.ref pa), .unset] [(.int 1)]))
    refine g_iload hG X10 hx (hb hby at_83) (pc' := 85) rfl rfl ?_
    show G (T10.setTop (mkF m 85 #[.val (.int sz), .val (.int pp), .val (.int aa), .val (.int bb), .val (.int cc), .val (.int 1), .val (.ref ra), .val (.ref lk), .val (.ref pa), .unset] [(.int 1), (.int 1)]))
    refine g_icmpYes hG X10 hx (hb hby at_85) (pc' := 90) (by decide) (by decide) (by decide) ?_
    show G (T10.setTop (mkF m 90 #[.val (.int sz), .val (.int pp), .val (.int aa), .val (.int bb), .val (.int cc), .val (.int 1), .val (.ref ra), .val (.ref lk), .val (.ref pa), .unset] []))
    refine g_iload hG X10 hx (hb hby at_90) (pc' := 92) rfl rfl ?_
    show G (T10.setTop (mkF m 92 #[.val (.int sz), .val (.int pp), .val (.int aa), .val (.int bb), .val (.int cc), .val (.int 1), .val (.ref ra), .val (.ref lk), .val (.ref pa), .unset] [(.int 1)]))
    refine g_ifNo hG X10 hx (hb hby at_92) (pc' := 95) (by decide) rfl ?_
    show G (T10.setTop (mkF m 95 #[.val (.int sz), .val (.int pp), .val (.int aa), .val (.int bb), .val (.int cc), .val (.int 1), .val (.ref ra), .val (.ref lk), .val (.ref pa), .unset] []))
    refine g_aload hG X10 hx (hb hby at_95) (pc' := 97) rfl rfl rfl ?_
    show G (T10.setTop (mkF m 97 #[.val (.int sz), .val (.int pp), .val (.int aa), .val (.int bb), .val (.int cc), .val (.int 1), .val (.ref ra), .val (.ref lk), .val (.ref pa), .unset] [(.ref pa)]))
    refine g_iconst hG X10 hx (hb hby at_97) (pc' := 98) rfl (v := (0 : Int32)) rfl ?_
    show G (T10.setTop (mkF m 98 #[.val (.int sz), .val (.int pp), .val (.int aa), .val (.int bb), .val (.int cc), .val (.int 1), .val (.ref ra), .val (.ref lk), .val (.ref pa), .unset] [(.int 0), (.ref pa)]))
    refine g_daload hG X10 hx hZ rfl V_pa (j := (0 : Int32)) (v := (.double y0)) (by decide) rfl (hb hby at_98) (pc' := 99) rfl ?_
    show G (T10.setTop (mkF m 99 #[.val (.int sz), .val (.int pp), .val (.int aa), .val (.int bb), .val (.int cc), .val (.int 1), .val (.ref ra), .val (.ref lk), .val (.ref pa), .unset] [(.double y0)]))
    refine g_iloadN hG X10 hx (hb hby at_99) (pc' := 100) rfl rfl ?_
    show G (T10.setTop (mkF m 100 #[.val (.int sz), .val (.int pp), .val (.int aa), .val (.int bb), .val (.int cc), .val (.int 1), .val (.ref ra), .val (.ref lk), .val (.ref pa), .unset] [(.int pp), (.double y0)]))
    refine g_iloadN hG X10 hx (hb hby at_100) (pc' := 101) rfl rfl ?_
    show G (T10.setTop (mkF m 101 #[.val (.int sz), .val (.int pp), .val (.int aa), .val (.int bb), .val (.int cc), .val (.int 1), .val (.ref ra), .val (.ref lk), .val (.ref pa), .unset] [(.int aa), (.int pp), (.double y0)]))
    obtain ⟨ev101, hev101⟩ : ∃ z, FP.l2d (pp.toInt64 * aa.toInt64) = z := ⟨_, rfl⟩
    have D_ev101 : OwnFl.DV ev101 (OwnFl.RR ((pp.toInt * aa.toInt : Int) : Rat)) := by rw [← hev101]; exact own_exp pp aa
    refine g_callS hG X10 hx hZ (y := (⟨"com/example/flowmarket/flowmarket/game/PricedLinkPaymentsPinLaw", "expect", "(II)D"⟩ : MethodName)) 2 hown (wd hw 21 rfl) (wd hw 22 rfl) (wd hw 23 rfl) (wd hw 24 rfl) (by decide) (rmE l Z a0 hw [] pp aa ev101 T10.heap n0 Zs hev101) (by decide) (by decide) (by rw [hml]; rfl) pd_2 rfl (argsL := [(.int pp), (.int aa)]) (rest := [(.double y0)]) rfl rfl (Nat.le_of_eq rfl) (hb hby at_101) rfl (by decide) (by decide) (pc' := 104) rfl ?_
    intro T11 rv11 L11 X11 hQ11
    obtain ⟨rfl, Nq11, eh11⟩ := hQ11
    have NF11 := Fr.app NF10 Nq11
    show G (T11.setTop (mkF m 104 #[.val (.int sz), .val (.int pp), .val (.int aa), .val (.int bb), .val (.int cc), .val (.int 1), .val (.ref ra), .val (.ref lk), .val (.ref pa), .unset] [(.double ev101), (.double y0)]))
    obtain ⟨v104, q104⟩ : ∃ z : Int32, cmpValue (FP.dcmp y0 ev101) .l = z := ⟨_, rfl⟩
    refine g_dcmp hG X11 hx (hb hby at_104) (pc' := 105) rfl q104 ?_
    show G (T11.setTop (mkF m 105 #[.val (.int sz), .val (.int pp), .val (.int aa), .val (.int bb), .val (.int cc), .val (.int 1), .val (.ref ra), .val (.ref lk), .val (.ref pa), .unset] [(.int v104)]))
    refine g_ifYes hG X11 hx (hb hby at_105) (pc' := 110) (by rw [← q104, OwnFl.dcmp_eq D_y0 D_ev101 rfl]; rfl) (by decide) (by decide) ?_
    show G (T11.setTop (mkF m 110 #[.val (.int sz), .val (.int pp), .val (.int aa), .val (.int bb), .val (.int cc), .val (.int 1), .val (.ref ra), .val (.ref lk), .val (.ref pa), .unset] []))
    refine g_iload hG X11 hx (hb hby at_110) (pc' := 112) rfl rfl ?_
    show G (T11.setTop (mkF m 112 #[.val (.int sz), .val (.int pp), .val (.int aa), .val (.int bb), .val (.int cc), .val (.int 1), .val (.ref ra), .val (.ref lk), .val (.ref pa), .unset] [(.int 1)]))
    refine g_iconst hG X11 hx (hb hby at_112) (pc' := 113) rfl (v := (1 : Int32)) rfl ?_
    show G (T11.setTop (mkF m 113 #[.val (.int sz), .val (.int pp), .val (.int aa), .val (.int bb), .val (.int cc), .val (.int 1), .val (.ref ra), .val (.ref lk), .val (.ref pa), .unset] [(.int 1), (.int 1)]))
    refine g_icmpYes hG X11 hx (hb hby at_113) (pc' := 131) (by decide) (by decide) (by decide) ?_
    show G (T11.setTop (mkF m 131 #[.val (.int sz), .val (.int pp), .val (.int aa), .val (.int bb), .val (.int cc), .val (.int 1), .val (.ref ra), .val (.ref lk), .val (.ref pa), .unset] []))
    refine g_iload hG X11 hx (hb hby at_131) (pc' := 133) rfl rfl ?_
    show G (T11.setTop (mkF m 133 #[.val (.int sz), .val (.int pp), .val (.int aa), .val (.int bb), .val (.int cc), .val (.int 1), .val (.ref ra), .val (.ref lk), .val (.ref pa), .unset] [(.int 1)]))
    refine g_iconst hG X11 hx (hb hby at_133) (pc' := 134) rfl (v := (2 : Int32)) rfl ?_
    show G (T11.setTop (mkF m 134 #[.val (.int sz), .val (.int pp), .val (.int aa), .val (.int bb), .val (.int cc), .val (.int 1), .val (.ref ra), .val (.ref lk), .val (.ref pa), .unset] [(.int 2), (.int 1)]))
    refine g_icmpYes hG X11 hx (hb hby at_134) (pc' := 153) (by decide) (by decide) (by decide) ?_
    show G (T11.setTop (mkF m 153 #[.val (.int sz), .val (.int pp), .val (.int aa), .val (.int bb), .val (.int cc), .val (.int 1), .val (.ref ra), .val (.ref lk), .val (.ref pa), .unset] []))
    refine g_iload hG X11 hx (hb hby at_153) (pc' := 155) rfl rfl ?_
    show G (T11.setTop (mkF m 155 #[.val (.int sz), .val (.int pp), .val (.int aa), .val (.int bb), .val (.int cc), .val (.int 1), .val (.ref ra), .val (.ref lk), .val (.ref pa), .unset] [(.int 1)]))
    refine g_ifNo hG X11 hx (hb hby at_155) (pc' := 158) (by decide) rfl ?_
    show G (T11.setTop (mkF m 158 #[.val (.int sz), .val (.int pp), .val (.int aa), .val (.int bb), .val (.int cc), .val (.int 1), .val (.ref ra), .val (.ref lk), .val (.ref pa), .unset] []))
    refine g_aload hG X11 hx (hb hby at_158) (pc' := 160) rfl rfl rfl ?_
    show G (T11.setTop (mkF m 160 #[.val (.int sz), .val (.int pp), .val (.int aa), .val (.int bb), .val (.int cc), .val (.int 1), .val (.ref ra), .val (.ref lk), .val (.ref pa), .unset] [(.ref ra)]))
    refine g_iconst hG X11 hx (hb hby at_160) (pc' := 161) rfl (v := (0 : Int32)) rfl ?_
    show G (T11.setTop (mkF m 161 #[.val (.int sz), .val (.int pp), .val (.int aa), .val (.int bb), .val (.int cc), .val (.int 1), .val (.ref ra), .val (.ref lk), .val (.ref pa), .unset] [(.int 0), (.ref ra)]))
    refine g_daload hG X11 hx hZ eh11 V_ra (j := (0 : Int32)) (v := (.double v20)) (by decide) rfl (hb hby at_161) (pc' := 162) rfl ?_
    show G (T11.setTop (mkF m 162 #[.val (.int sz), .val (.int pp), .val (.int aa), .val (.int bb), .val (.int cc), .val (.int 1), .val (.ref ra), .val (.ref lk), .val (.ref pa), .unset] [(.double v20)]))
    refine g_iloadN hG X11 hx (hb hby at_162) (pc' := 163) rfl rfl ?_
    show G (T11.setTop (mkF m 163 #[.val (.int sz), .val (.int pp), .val (.int aa), .val (.int bb), .val (.int cc), .val (.int 1), .val (.ref ra), .val (.ref lk), .val (.ref pa), .unset] [(.int aa), (.double v20)]))
    obtain ⟨v163, q163⟩ : ∃ z : UInt64, FP.i2d aa = z := ⟨_, rfl⟩
    refine g_i2d hG X11 hx (hb hby at_163) (pc' := 164) rfl q163 ?_
    have D_v163 : OwnFl.DV v163 ((aa.toInt : Int) : Rat) := by rw [← q163]; exact OwnFl.i2d_DV aa
    show G (T11.setTop (mkF m 164 #[.val (.int sz), .val (.int pp), .val (.int aa), .val (.int bb), .val (.int cc), .val (.int 1), .val (.ref ra), .val (.ref lk), .val (.ref pa), .unset] [(.double v163), (.double v20)]))
    obtain ⟨v164, q164⟩ : ∃ z : Int32, cmpValue (FP.dcmp v20 v163) .l = z := ⟨_, rfl⟩
    refine g_dcmp hG X11 hx (hb hby at_164) (pc' := 165) rfl q164 ?_
    show G (T11.setTop (mkF m 165 #[.val (.int sz), .val (.int pp), .val (.int aa), .val (.int bb), .val (.int cc), .val (.int 1), .val (.ref ra), .val (.ref lk), .val (.ref pa), .unset] [(.int v164)]))
    refine g_ifYes hG X11 hx (hb hby at_165) (pc' := 170) (by rw [← q164, OwnFl.dcmp_eq D_v20 D_v163 rfl]; rfl) (by decide) (by decide) ?_
    show G (T11.setTop (mkF m 170 #[.val (.int sz), .val (.int pp), .val (.int aa), .val (.int bb), .val (.int cc), .val (.int 1), .val (.ref ra), .val (.ref lk), .val (.ref pa), .unset] []))
    refine g_iload hG X11 hx (hb hby at_170) (pc' := 172) rfl rfl ?_
    show G (T11.setTop (mkF m 172 #[.val (.int sz), .val (.int pp), .val (.int aa), .val (.int bb), .val (.int cc), .val (.int 1), .val (.ref ra), .val (.ref lk), .val (.ref pa), .unset] [(.int 1)]))
    refine g_iconst hG X11 hx (hb hby at_172) (pc' := 173) rfl (v := (1 : Int32)) rfl ?_
    show G (T11.setTop (mkF m 173 #[.val (.int sz), .val (.int pp), .val (.int aa), .val (.int bb), .val (.int cc), .val (.int 1), .val (.ref ra), .val (.ref lk), .val (.ref pa), .unset] [(.int 1), (.int 1)]))
    refine g_icmpYes hG X11 hx (hb hby at_173) (pc' := 188) (by decide) (by decide) (by decide) ?_
    show G (T11.setTop (mkF m 188 #[.val (.int sz), .val (.int pp), .val (.int aa), .val (.int bb), .val (.int cc), .val (.int 1), .val (.ref ra), .val (.ref lk), .val (.ref pa), .unset] []))
    refine g_iload hG X11 hx (hb hby at_188) (pc' := 190) rfl rfl ?_
    show G (T11.setTop (mkF m 190 #[.val (.int sz), .val (.int pp), .val (.int aa), .val (.int bb), .val (.int cc), .val (.int 1), .val (.ref ra), .val (.ref lk), .val (.ref pa), .unset] [(.int 1)]))
    refine g_iconst hG X11 hx (hb hby at_190) (pc' := 191) rfl (v := (2 : Int32)) rfl ?_
    show G (T11.setTop (mkF m 191 #[.val (.int sz), .val (.int pp), .val (.int aa), .val (.int bb), .val (.int cc), .val (.int 1), .val (.ref ra), .val (.ref lk), .val (.ref pa), .unset] [(.int 2), (.int 1)]))
    refine g_icmpYes hG X11 hx (hb hby at_191) (pc' := 207) (by decide) (by decide) (by decide) ?_
    show G (T11.setTop (mkF m 207 #[.val (.int sz), .val (.int pp), .val (.int aa), .val (.int bb), .val (.int cc), .val (.int 1), .val (.ref ra), .val (.ref lk), .val (.ref pa), .unset] []))
    refine g_iload hG X11 hx (hb hby at_207) (pc' := 209) rfl rfl ?_
    show G (T11.setTop (mkF m 209 #[.val (.int sz), .val (.int pp), .val (.int aa), .val (.int bb), .val (.int cc), .val (.int 1), .val (.ref ra), .val (.ref lk), .val (.ref pa), .unset] [(.int 1)]))
    refine g_ifNo hG X11 hx (hb hby at_209) (pc' := 212) (by decide) rfl ?_
    show G (T11.setTop (mkF m 212 #[.val (.int sz), .val (.int pp), .val (.int aa), .val (.int bb), .val (.int cc), .val (.int 1), .val (.ref ra), .val (.ref lk), .val (.ref pa), .unset] []))
    refine g_aload hG X11 hx (hb hby at_212) (pc' := 214) rfl rfl rfl ?_
    show G (T11.setTop (mkF m 214 #[.val (.int sz), .val (.int pp), .val (.int aa), .val (.int bb), .val (.int cc), .val (.int 1), .val (.ref ra), .val (.ref lk), .val (.ref pa), .unset] [(.ref pa)]))
    refine g_iconst hG X11 hx (hb hby at_214) (pc' := 215) rfl (v := (0 : Int32)) rfl ?_
    show G (T11.setTop (mkF m 215 #[.val (.int sz), .val (.int pp), .val (.int aa), .val (.int bb), .val (.int cc), .val (.int 1), .val (.ref ra), .val (.ref lk), .val (.ref pa), .unset] [(.int 0), (.ref pa)]))
    refine g_ldcDouble hG X11 hx hZ hown (wd hw 25 rfl) (hb hby at_215) (pc' := 218) rfl ?_
    show G (T11.setTop (mkF m 218 #[.val (.int sz), .val (.int pp), .val (.int aa), .val (.int bb), .val (.int cc), .val (.int 1), .val (.ref ra), .val (.ref lk), .val (.ref pa), .unset] [(.double 4602678819172646912), (.int 0), (.ref pa)]))
    refine g_dastore hG X11 hx hZ eh11 V_pa (j := (0 : Int32)) (by decide) (show Int32.toNatClampNeg (0 : Int32) < 1 by decide) (hb hby at_218) (pc' := 219) rfl ?_
    intro T12 h12 X12 e12 W12 Vn12
    have V_pa : AV Z h12 pa .double (1 : Int32) [(.double 4602678819172646912)] := Vn12
    have V_ra := V_ra.other W12 ne_ra_pa
    have Ex_lk := Ex_lk.wr W12
    have F_rates_lk := F_rates_lk.other W12 (Or.inl ne_lk_pa)
    have F_price_lk := F_price_lk.other W12 (Or.inl ne_lk_pa)
    have F_cost_lk := F_cost_lk.other W12 (Or.inl ne_lk_pa)
    have Zs := Nat.le_trans Zs (Wr.size W12)
    have NF12 := Fr.snoc X12 NF11 ge_pa
    show G (T12.setTop (mkF m 219 #[.val (.int sz), .val (.int pp), .val (.int aa), .val (.int bb), .val (.int cc), .val (.int 1), .val (.ref ra), .val (.ref lk), .val (.ref pa), .unset] []))
    refine g_iload hG X12 hx (hb hby at_219) (pc' := 221) rfl rfl ?_
    show G (T12.setTop (mkF m 221 #[.val (.int sz), .val (.int pp), .val (.int aa), .val (.int bb), .val (.int cc), .val (.int 1), .val (.ref ra), .val (.ref lk), .val (.ref pa), .unset] [(.int 1)]))
    refine g_iconst hG X12 hx (hb hby at_221) (pc' := 222) rfl (v := (2 : Int32)) rfl ?_
    show G (T12.setTop (mkF m 222 #[.val (.int sz), .val (.int pp), .val (.int aa), .val (.int bb), .val (.int cc), .val (.int 1), .val (.ref ra), .val (.ref lk), .val (.ref pa), .unset] [(.int 2), (.int 1)]))
    refine g_icmpYes hG X12 hx (hb hby at_222) (pc' := 232) (by decide) (by decide) (by decide) ?_
    show G (T12.setTop (mkF m 232 #[.val (.int sz), .val (.int pp), .val (.int aa), .val (.int bb), .val (.int cc), .val (.int 1), .val (.ref ra), .val (.ref lk), .val (.ref pa), .unset] []))
    refine g_aload hG X12 hx (hb hby at_232) (pc' := 234) rfl rfl rfl ?_
    show G (T12.setTop (mkF m 234 #[.val (.int sz), .val (.int pp), .val (.int aa), .val (.int bb), .val (.int cc), .val (.int 1), .val (.ref ra), .val (.ref lk), .val (.ref pa), .unset] [(.ref lk)]))
    refine g_callV hG X12 hx hZ (y := (⟨"com/example/flowmarket/flowmarket/game/PricedLink", "payments", "()[D"⟩ : MethodName)) 0 hown (wd hw 16 rfl) (wd hw 17 rfl) (wd hw 19 rfl) (wd hw 18 rfl) (wd hw 3 rfl) (wd hw 20 rfl) (by decide) (rmY1 l Z a0 hw [] lk ra v54 (0 : UInt64) v20 y0 h12 n0 Zs (Ne.symm ne_ra_lk) hy0 D_y0.noNaN Ex_lk F_rates_lk F_price_lk F_cost_lk V_ra) (by decide) (by decide) (by rw [hml]; rfl) pd_1 rfl (argsL := []) (rest := []) rfl rfl (Nat.le_of_eq rfl) (hb hby at_234) e12 Ex_lk (by decide) (by decide) (pc' := 237) rfl ?_
    intro T13 rv13 L13 X13 hQ13
    obtain ⟨ag, rfl, Nq13, Kq13, szq13, V_ag⟩ := hQ13
    have NF13 := Fr.app NF12 Nq13
    have ne_ra_ag : ra ≠ ag := Nat.ne_of_lt (Nat.lt_of_lt_of_le V_ra.lt szq13)
    have ne_lk_ag : lk ≠ ag := Nat.ne_of_lt (Nat.lt_of_lt_of_le Ex_lk.lt szq13)
    have ne_pa_ag : pa ≠ ag := Nat.ne_of_lt (Nat.lt_of_lt_of_le V_pa.lt szq13)
    have ge_ag : n0 ≤ ag := Nat.le_trans Zs szq13
    have V_ra := V_ra.keep Kq13 nin0
    have Ex_lk := Ex_lk.keep Kq13
    have F_rates_lk := F_rates_lk.keep Kq13 nin0
    have F_price_lk := F_price_lk.keep Kq13 nin0
    have F_cost_lk := F_cost_lk.keep Kq13 nin0
    have V_pa := V_pa.keep Kq13 nin0
    have Zs := Nat.le_trans Zs Kq13.1
    show G (T13.setTop (mkF m 237 #[.val (.int sz), .val (.int pp), .val (.int aa), .val (.int bb), .val (.int cc), .val (.int 1), .val (.ref ra), .val (.ref lk), .val (.ref pa), .unset] [(.ref ag)]))
    refine g_astore hG X13 hx (hb hby at_237) (pc' := 239) rfl rfl (Ls' := #[.val (.int sz), .val (.int pp), .val (.int aa), .val (.int bb), .val (.int cc), .val (.int 1), .val (.ref ra), .val (.ref lk), .val (.ref pa), .val (.ref ag)]) rfl ?_
    show G (T13.setTop (mkF m 239 #[.val (.int sz), .val (.int pp), .val (.int aa), .val (.int bb), .val (.int cc), .val (.int 1), .val (.ref ra), .val (.ref lk), .val (.ref pa), .val (.ref ag)] []))
    refine g_aload hG X13 hx (hb hby at_239) (pc' := 241) rfl rfl rfl ?_
    show G (T13.setTop (mkF m 241 #[.val (.int sz), .val (.int pp), .val (.int aa), .val (.int bb), .val (.int cc), .val (.int 1), .val (.ref ra), .val (.ref lk), .val (.ref pa), .val (.ref ag)] [(.ref ag)]))
    refine g_ifnullNo hG X13 hx (hb hby at_241) (pc' := 244) rfl ?_
    show G (T13.setTop (mkF m 244 #[.val (.int sz), .val (.int pp), .val (.int aa), .val (.int bb), .val (.int cc), .val (.int 1), .val (.ref ra), .val (.ref lk), .val (.ref pa), .val (.ref ag)] []))
    refine g_aload hG X13 hx (hb hby at_244) (pc' := 246) rfl rfl rfl ?_
    show G (T13.setTop (mkF m 246 #[.val (.int sz), .val (.int pp), .val (.int aa), .val (.int bb), .val (.int cc), .val (.int 1), .val (.ref ra), .val (.ref lk), .val (.ref pa), .val (.ref ag)] [(.ref ag)]))
    refine g_aload hG X13 hx (hb hby at_246) (pc' := 248) rfl rfl rfl ?_
    show G (T13.setTop (mkF m 248 #[.val (.int sz), .val (.int pp), .val (.int aa), .val (.int bb), .val (.int cc), .val (.int 1), .val (.ref ra), .val (.ref lk), .val (.ref pa), .val (.ref ag)] [(.ref ra), (.ref ag)]))
    refine g_acmp hG X13 hx rfl rfl (hb hby at_248) (pc' := 251) (same := false) (decide_eq_false fun q => (Ne.symm ne_ra_ag) (Value.ref.inj q)) (by decide) (by decide) ?_
    show G (T13.setTop (mkF m 251 #[.val (.int sz), .val (.int pp), .val (.int aa), .val (.int bb), .val (.int cc), .val (.int 1), .val (.ref ra), .val (.ref lk), .val (.ref pa), .val (.ref ag)] []))
    refine g_aload hG X13 hx (hb hby at_251) (pc' := 253) rfl rfl rfl ?_
    show G (T13.setTop (mkF m 253 #[.val (.int sz), .val (.int pp), .val (.int aa), .val (.int bb), .val (.int cc), .val (.int 1), .val (.ref ra), .val (.ref lk), .val (.ref pa), .val (.ref ag)] [(.ref ag)]))
    refine g_arraylength hG X13 hx hZ rfl V_ag (hb hby at_253) (pc' := 254) rfl ?_
    show G (T13.setTop (mkF m 254 #[.val (.int sz), .val (.int pp), .val (.int aa), .val (.int bb), .val (.int cc), .val (.int 1), .val (.ref ra), .val (.ref lk), .val (.ref pa), .val (.ref ag)] [(.int 1)]))
    refine g_iload hG X13 hx (hb hby at_254) (pc' := 256) rfl rfl ?_
    show G (T13.setTop (mkF m 256 #[.val (.int sz), .val (.int pp), .val (.int aa), .val (.int bb), .val (.int cc), .val (.int 1), .val (.ref ra), .val (.ref lk), .val (.ref pa), .val (.ref ag)] [(.int 1), (.int 1)]))
    refine g_icmpYes hG X13 hx (hb hby at_256) (pc' := 261) (by decide) (by decide) (by decide) ?_
    show G (T13.setTop (mkF m 261 #[.val (.int sz), .val (.int pp), .val (.int aa), .val (.int bb), .val (.int cc), .val (.int 1), .val (.ref ra), .val (.ref lk), .val (.ref pa), .val (.ref ag)] []))
    refine g_iload hG X13 hx (hb hby at_261) (pc' := 263) rfl rfl ?_
    show G (T13.setTop (mkF m 263 #[.val (.int sz), .val (.int pp), .val (.int aa), .val (.int bb), .val (.int cc), .val (.int 1), .val (.ref ra), .val (.ref lk), .val (.ref pa), .val (.ref ag)] [(.int 1)]))
    refine g_ifNo hG X13 hx (hb hby at_263) (pc' := 266) (by decide) rfl ?_
    show G (T13.setTop (mkF m 266 #[.val (.int sz), .val (.int pp), .val (.int aa), .val (.int bb), .val (.int cc), .val (.int 1), .val (.ref ra), .val (.ref lk), .val (.ref pa), .val (.ref ag)] []))
    refine g_aload hG X13 hx (hb hby at_266) (pc' := 268) rfl rfl rfl ?_
    show G (T13.setTop (mkF m 268 #[.val (.int sz), .val (.int pp), .val (.int aa), .val (.int bb), .val (.int cc), .val (.int 1), .val (.ref ra), .val (.ref lk), .val (.ref pa), .val (.ref ag)] [(.ref ag)]))
    refine g_iconst hG X13 hx (hb hby at_268) (pc' := 269) rfl (v := (0 : Int32)) rfl ?_
    show G (T13.setTop (mkF m 269 #[.val (.int sz), .val (.int pp), .val (.int aa), .val (.int bb), .val (.int cc), .val (.int 1), .val (.ref ra), .val (.ref lk), .val (.ref pa), .val (.ref ag)] [(.int 0), (.ref ag)]))
    refine g_daload hG X13 hx hZ rfl V_ag (j := (0 : Int32)) (v := (.double y0)) (by decide) rfl (hb hby at_269) (pc' := 270) rfl ?_
    show G (T13.setTop (mkF m 270 #[.val (.int sz), .val (.int pp), .val (.int aa), .val (.int bb), .val (.int cc), .val (.int 1), .val (.ref ra), .val (.ref lk), .val (.ref pa), .val (.ref ag)] [(.double y0)]))
    refine g_iloadN hG X13 hx (hb hby at_270) (pc' := 271) rfl rfl ?_
    show G (T13.setTop (mkF m 271 #[.val (.int sz), .val (.int pp), .val (.int aa), .val (.int bb), .val (.int cc), .val (.int 1), .val (.ref ra), .val (.ref lk), .val (.ref pa), .val (.ref ag)] [(.int pp), (.double y0)]))
    refine g_iloadN hG X13 hx (hb hby at_271) (pc' := 272) rfl rfl ?_
    show G (T13.setTop (mkF m 272 #[.val (.int sz), .val (.int pp), .val (.int aa), .val (.int bb), .val (.int cc), .val (.int 1), .val (.ref ra), .val (.ref lk), .val (.ref pa), .val (.ref ag)] [(.int aa), (.int pp), (.double y0)]))
    obtain ⟨ev272, hev272⟩ : ∃ z, FP.l2d (pp.toInt64 * aa.toInt64) = z := ⟨_, rfl⟩
    have D_ev272 : OwnFl.DV ev272 (OwnFl.RR ((pp.toInt * aa.toInt : Int) : Rat)) := by rw [← hev272]; exact own_exp pp aa
    refine g_callS hG X13 hx hZ (y := (⟨"com/example/flowmarket/flowmarket/game/PricedLinkPaymentsPinLaw", "expect", "(II)D"⟩ : MethodName)) 2 hown (wd hw 21 rfl) (wd hw 22 rfl) (wd hw 23 rfl) (wd hw 24 rfl) (by decide) (rmE l Z a0 hw [] pp aa ev272 T13.heap n0 Zs hev272) (by decide) (by decide) (by rw [hml]; rfl) pd_2 rfl (argsL := [(.int pp), (.int aa)]) (rest := [(.double y0)]) rfl rfl (Nat.le_of_eq rfl) (hb hby at_272) rfl (by decide) (by decide) (pc' := 275) rfl ?_
    intro T14 rv14 L14 X14 hQ14
    obtain ⟨rfl, Nq14, eh14⟩ := hQ14
    have NF14 := Fr.app NF13 Nq14
    show G (T14.setTop (mkF m 275 #[.val (.int sz), .val (.int pp), .val (.int aa), .val (.int bb), .val (.int cc), .val (.int 1), .val (.ref ra), .val (.ref lk), .val (.ref pa), .val (.ref ag)] [(.double ev272), (.double y0)]))
    obtain ⟨v275, q275⟩ : ∃ z : Int32, cmpValue (FP.dcmp y0 ev272) .l = z := ⟨_, rfl⟩
    refine g_dcmp hG X14 hx (hb hby at_275) (pc' := 276) rfl q275 ?_
    show G (T14.setTop (mkF m 276 #[.val (.int sz), .val (.int pp), .val (.int aa), .val (.int bb), .val (.int cc), .val (.int 1), .val (.ref ra), .val (.ref lk), .val (.ref pa), .val (.ref ag)] [(.int v275)]))
    refine g_ifYes hG X14 hx (hb hby at_276) (pc' := 281) (by rw [← q275, OwnFl.dcmp_eq D_y0 D_ev272 rfl]; rfl) (by decide) (by decide) ?_
    show G (T14.setTop (mkF m 281 #[.val (.int sz), .val (.int pp), .val (.int aa), .val (.int bb), .val (.int cc), .val (.int 1), .val (.ref ra), .val (.ref lk), .val (.ref pa), .val (.ref ag)] []))
    refine g_iload hG X14 hx (hb hby at_281) (pc' := 283) rfl rfl ?_
    show G (T14.setTop (mkF m 283 #[.val (.int sz), .val (.int pp), .val (.int aa), .val (.int bb), .val (.int cc), .val (.int 1), .val (.ref ra), .val (.ref lk), .val (.ref pa), .val (.ref ag)] [(.int 1)]))
    refine g_iconst hG X14 hx (hb hby at_283) (pc' := 284) rfl (v := (2 : Int32)) rfl ?_
    show G (T14.setTop (mkF m 284 #[.val (.int sz), .val (.int pp), .val (.int aa), .val (.int bb), .val (.int cc), .val (.int 1), .val (.ref ra), .val (.ref lk), .val (.ref pa), .val (.ref ag)] [(.int 2), (.int 1)]))
    refine g_icmpYes hG X14 hx (hb hby at_284) (pc' := 303) (by decide) (by decide) (by decide) ?_
    show G (T14.setTop (mkF m 303 #[.val (.int sz), .val (.int pp), .val (.int aa), .val (.int bb), .val (.int cc), .val (.int 1), .val (.ref ra), .val (.ref lk), .val (.ref pa), .val (.ref ag)] []))
    refine g_iconst hG X14 hx (hb hby at_303) (pc' := 304) rfl (v := (1 : Int32)) rfl ?_
    show G (T14.setTop (mkF m 304 #[.val (.int sz), .val (.int pp), .val (.int aa), .val (.int bb), .val (.int cc), .val (.int 1), .val (.ref ra), .val (.ref lk), .val (.ref pa), .val (.ref ag)] [(.int 1)]))
    exact e_retZ hGe X14 hx hrt hlk (hb hby at_304) (Or.inr rfl) eh14 (by decide) (by decide) (⟨rfl, NF14⟩)
  · skip
    show G (s₁.setTop (mkF m 5 #[.val (.int sz), .val (.int pp), .val (.int aa), .val (.int bb), .val (.int cc), .val (.int 2), .unset, .unset, .unset, .unset] []))
    refine g_iload hG X0 hx (hb hby at_5) (pc' := 7) rfl rfl ?_
    show G (s₁.setTop (mkF m 7 #[.val (.int sz), .val (.int pp), .val (.int aa), .val (.int bb), .val (.int cc), .val (.int 2), .unset, .unset, .unset, .unset] [(.int 2)]))
    refine g_newP hG X0 hx hZ (wd hw 0 rfl) e0 (hb hby at_7) (by decide) 2 (by decide) (by decide) (by decide) (by decide) (pc' := 9) rfl ?_
    intro T15 h15 ra kA15 gs15 X15 e15 E15 A15
    have ge_ra : n0 ≤ ra := gs15 ▸ Zs
    have Zs := Nat.le_trans Zs E15.1
    have V_ra : AV Z h15 ra .double (2 : Int32) [(.double 0), (.double 0)] := AV.new A15
    show G (T15.setTop (mkF m 9 #[.val (.int sz), .val (.int pp), .val (.int aa), .val (.int bb), .val (.int cc), .val (.int 2), .unset, .unset, .unset, .unset] [(.ref ra)]))
    refine g_astore hG X15 hx (hb hby at_9) (pc' := 11) rfl rfl (Ls' := #[.val (.int sz), .val (.int pp), .val (.int aa), .val (.int bb), .val (.int cc), .val (.int 2), .val (.ref ra), .unset, .unset, .unset]) rfl ?_
    show G (T15.setTop (mkF m 11 #[.val (.int sz), .val (.int pp), .val (.int aa), .val (.int bb), .val (.int cc), .val (.int 2), .val (.ref ra), .unset, .unset, .unset] []))
    refine g_iload hG X15 hx (hb hby at_11) (pc' := 13) rfl rfl ?_
    show G (T15.setTop (mkF m 13 #[.val (.int sz), .val (.int pp), .val (.int aa), .val (.int bb), .val (.int cc), .val (.int 2), .val (.ref ra), .unset, .unset, .unset] [(.int 2)]))
    refine g_ifNo hG X15 hx (hb hby at_13) (pc' := 16) (by decide) rfl ?_
    show G (T15.setTop (mkF m 16 #[.val (.int sz), .val (.int pp), .val (.int aa), .val (.int bb), .val (.int cc), .val (.int 2), .val (.ref ra), .unset, .unset, .unset] []))
    refine g_aload hG X15 hx (hb hby at_16) (pc' := 18) rfl rfl rfl ?_
    show G (T15.setTop (mkF m 18 #[.val (.int sz), .val (.int pp), .val (.int aa), .val (.int bb), .val (.int cc), .val (.int 2), .val (.ref ra), .unset, .unset, .unset] [(.ref ra)]))
    refine g_iconst hG X15 hx (hb hby at_18) (pc' := 19) rfl (v := (0 : Int32)) rfl ?_
    show G (T15.setTop (mkF m 19 #[.val (.int sz), .val (.int pp), .val (.int aa), .val (.int bb), .val (.int cc), .val (.int 2), .val (.ref ra), .unset, .unset, .unset] [(.int 0), (.ref ra)]))
    refine g_iloadN hG X15 hx (hb hby at_19) (pc' := 20) rfl rfl ?_
    show G (T15.setTop (mkF m 20 #[.val (.int sz), .val (.int pp), .val (.int aa), .val (.int bb), .val (.int cc), .val (.int 2), .val (.ref ra), .unset, .unset, .unset] [(.int aa), (.int 0), (.ref ra)]))
    obtain ⟨v20, q20⟩ : ∃ z : UInt64, FP.i2d aa = z := ⟨_, rfl⟩
    refine g_i2d hG X15 hx (hb hby at_20) (pc' := 21) rfl q20 ?_
    have D_v20 : OwnFl.DV v20 ((aa.toInt : Int) : Rat) := by rw [← q20]; exact OwnFl.i2d_DV aa
    show G (T15.setTop (mkF m 21 #[.val (.int sz), .val (.int pp), .val (.int aa), .val (.int bb), .val (.int cc), .val (.int 2), .val (.ref ra), .unset, .unset, .unset] [(.double v20), (.int 0), (.ref ra)]))
    refine g_dastore hG X15 hx hZ e15 V_ra (j := (0 : Int32)) (by decide) (show Int32.toNatClampNeg (0 : Int32) < 2 by decide) (hb hby at_21) (pc' := 22) rfl ?_
    intro T16 h16 X16 e16 W16 Vn16
    have V_ra : AV Z h16 ra .double (2 : Int32) [(.double v20), (.double 0)] := Vn16
    have Zs := Nat.le_trans Zs (Wr.size W16)
    have NF16 := Fr.snoc X16 NF0 ge_ra
    show G (T16.setTop (mkF m 22 #[.val (.int sz), .val (.int pp), .val (.int aa), .val (.int bb), .val (.int cc), .val (.int 2), .val (.ref ra), .unset, .unset, .unset] []))
    refine g_iload hG X16 hx (hb hby at_22) (pc' := 24) rfl rfl ?_
    show G (T16.setTop (mkF m 24 #[.val (.int sz), .val (.int pp), .val (.int aa), .val (.int bb), .val (.int cc), .val (.int 2), .val (.ref ra), .unset, .unset, .unset] [(.int 2)]))
    refine g_iconst hG X16 hx (hb hby at_24) (pc' := 25) rfl (v := (1 : Int32)) rfl ?_
    show G (T16.setTop (mkF m 25 #[.val (.int sz), .val (.int pp), .val (.int aa), .val (.int bb), .val (.int cc), .val (.int 2), .val (.ref ra), .unset, .unset, .unset] [(.int 1), (.int 2)]))
    refine g_icmpNo hG X16 hx (hb hby at_25) (pc' := 28) (by decide) rfl ?_
    show G (T16.setTop (mkF m 28 #[.val (.int sz), .val (.int pp), .val (.int aa), .val (.int bb), .val (.int cc), .val (.int 2), .val (.ref ra), .unset, .unset, .unset] []))
    refine g_aload hG X16 hx (hb hby at_28) (pc' := 30) rfl rfl rfl ?_
    show G (T16.setTop (mkF m 30 #[.val (.int sz), .val (.int pp), .val (.int aa), .val (.int bb), .val (.int cc), .val (.int 2), .val (.ref ra), .unset, .unset, .unset] [(.ref ra)]))
    refine g_iconst hG X16 hx (hb hby at_30) (pc' := 31) rfl (v := (1 : Int32)) rfl ?_
    show G (T16.setTop (mkF m 31 #[.val (.int sz), .val (.int pp), .val (.int aa), .val (.int bb), .val (.int cc), .val (.int 2), .val (.ref ra), .unset, .unset, .unset] [(.int 1), (.ref ra)]))
    refine g_iloadN hG X16 hx (hb hby at_31) (pc' := 32) rfl rfl ?_
    show G (T16.setTop (mkF m 32 #[.val (.int sz), .val (.int pp), .val (.int aa), .val (.int bb), .val (.int cc), .val (.int 2), .val (.ref ra), .unset, .unset, .unset] [(.int bb), (.int 1), (.ref ra)]))
    obtain ⟨v32, q32⟩ : ∃ z : UInt64, FP.i2d bb = z := ⟨_, rfl⟩
    refine g_i2d hG X16 hx (hb hby at_32) (pc' := 33) rfl q32 ?_
    have D_v32 : OwnFl.DV v32 ((bb.toInt : Int) : Rat) := by rw [← q32]; exact OwnFl.i2d_DV bb
    show G (T16.setTop (mkF m 33 #[.val (.int sz), .val (.int pp), .val (.int aa), .val (.int bb), .val (.int cc), .val (.int 2), .val (.ref ra), .unset, .unset, .unset] [(.double v32), (.int 1), (.ref ra)]))
    refine g_dastore hG X16 hx hZ e16 V_ra (j := (1 : Int32)) (by decide) (show Int32.toNatClampNeg (1 : Int32) < 2 by decide) (hb hby at_33) (pc' := 34) rfl ?_
    intro T17 h17 X17 e17 W17 Vn17
    have V_ra : AV Z h17 ra .double (2 : Int32) [(.double v20), (.double v32)] := Vn17
    have Zs := Nat.le_trans Zs (Wr.size W17)
    have NF17 := Fr.snoc X17 NF16 ge_ra
    show G (T17.setTop (mkF m 34 #[.val (.int sz), .val (.int pp), .val (.int aa), .val (.int bb), .val (.int cc), .val (.int 2), .val (.ref ra), .unset, .unset, .unset] []))
    refine g_iload hG X17 hx (hb hby at_34) (pc' := 36) rfl rfl ?_
    show G (T17.setTop (mkF m 36 #[.val (.int sz), .val (.int pp), .val (.int aa), .val (.int bb), .val (.int cc), .val (.int 2), .val (.ref ra), .unset, .unset, .unset] [(.int 2)]))
    refine g_iconst hG X17 hx (hb hby at_36) (pc' := 37) rfl (v := (2 : Int32)) rfl ?_
    show G (T17.setTop (mkF m 37 #[.val (.int sz), .val (.int pp), .val (.int aa), .val (.int bb), .val (.int cc), .val (.int 2), .val (.ref ra), .unset, .unset, .unset] [(.int 2), (.int 2)]))
    refine g_icmpYes hG X17 hx (hb hby at_37) (pc' := 47) (by decide) (by decide) (by decide) ?_
    show G (T17.setTop (mkF m 47 #[.val (.int sz), .val (.int pp), .val (.int aa), .val (.int bb), .val (.int cc), .val (.int 2), .val (.ref ra), .unset, .unset, .unset] []))
    refine g_newO hG X17 hx hZ hown (wd hw 1 rfl) (wd hw 2 rfl) (wd hw 3 rfl) e17 (hb hby at_47) (by decide) (by decide) (pc' := 50) rfl ?_
    intro T18 h18 lk gs18 X18 e18 E18 Aq18 Dq18
    have ne_ra_lk : ra ≠ lk := Nat.ne_of_lt (gs18 ▸ V_ra.lt)
    have ge_lk : n0 ≤ lk := gs18 ▸ Zs
    have Zs := Nat.le_trans Zs E18.1
    have V_ra := V_ra.ext E18
    have Ex_lk := Aq18
    have F_rates_lk : Fld Z h18 lk "com/example/flowmarket/flowmarket/game/PricedLink" "rates" "[D" .null := Dq18 (Or.inr (wd hw 11 rfl)) (ty := (.array .double)) (by decide)
    have F_price_lk : Fld Z h18 lk "com/example/flowmarket/flowmarket/game/PricedLink" "price" "D" (.double 0) := Dq18 (Or.inr (wd hw 13 rfl)) (ty := .double) (by decide)
    have F_cost_lk : Fld Z h18 lk "com/example/flowmarket/flowmarket/game/PricedLink" "cost" "D" (.double 0) := Dq18 (Or.inr (wd hw 15 rfl)) (ty := .double) (by decide)
    show G (T18.setTop (mkF m 50 #[.val (.int sz), .val (.int pp), .val (.int aa), .val (.int bb), .val (.int cc), .val (.int 2), .val (.ref ra), .unset, .unset, .unset] [(.ref lk)]))
    refine g_dup hG X18 hx (hb hby at_50) (pc' := 51) rfl rfl ?_
    show G (T18.setTop (mkF m 51 #[.val (.int sz), .val (.int pp), .val (.int aa), .val (.int bb), .val (.int cc), .val (.int 2), .val (.ref ra), .unset, .unset, .unset] [(.ref lk), (.ref lk)]))
    refine g_aload hG X18 hx (hb hby at_51) (pc' := 53) rfl rfl rfl ?_
    show G (T18.setTop (mkF m 53 #[.val (.int sz), .val (.int pp), .val (.int aa), .val (.int bb), .val (.int cc), .val (.int 2), .val (.ref ra), .unset, .unset, .unset] [(.ref ra), (.ref lk), (.ref lk)]))
    refine g_iloadN hG X18 hx (hb hby at_53) (pc' := 54) rfl rfl ?_
    show G (T18.setTop (mkF m 54 #[.val (.int sz), .val (.int pp), .val (.int aa), .val (.int bb), .val (.int cc), .val (.int 2), .val (.ref ra), .unset, .unset, .unset] [(.int pp), (.ref ra), (.ref lk), (.ref lk)]))
    obtain ⟨v54, q54⟩ : ∃ z : UInt64, FP.i2d pp = z := ⟨_, rfl⟩
    refine g_i2d hG X18 hx (hb hby at_54) (pc' := 55) rfl q54 ?_
    have D_v54 : OwnFl.DV v54 ((pp.toInt : Int) : Rat) := by rw [← q54]; exact OwnFl.i2d_DV pp
    show G (T18.setTop (mkF m 55 #[.val (.int sz), .val (.int pp), .val (.int aa), .val (.int bb), .val (.int cc), .val (.int 2), .val (.ref ra), .unset, .unset, .unset] [(.double v54), (.ref ra), (.ref lk), (.ref lk)]))
    refine g_dconst0 hG X18 hx (hb hby at_55) (pc' := 56) rfl (v := (0 : UInt64)) rfl ?_
    show G (T18.setTop (mkF m 56 #[.val (.int sz), .val (.int pp), .val (.int aa), .val (.int bb), .val (.int cc), .val (.int 2), .val (.ref ra), .unset, .unset, .unset] [(.double 0), (.double v54), (.ref ra), (.ref lk), (.ref lk)]))
    refine g_callI hG X18 hx hZ (y := (⟨"com/example/flowmarket/flowmarket/game/PricedLink", "<init>", "([DDD)V"⟩ : MethodName)) 1 rfl hown (wd hw 4 rfl) (wd hw 5 rfl) (wd hw 3 rfl) (wd hw 6 rfl) (by decide) (rmP l Z a0 hw [] lk ra v54 (0 : UInt64) h18 n0 Zs ge_lk Ex_lk F_rates_lk F_price_lk F_cost_lk) (by decide) (by decide) (by rw [hml]; rfl) pd_0 rfl (argsL := [(.ref ra), (.double v54), (.double 0)]) (rest := [(.ref lk)]) rfl rfl (Nat.le_of_eq rfl) (hb hby at_56) e18 (by decide) (by decide) (pc' := 59) rfl ?_
    intro T19 rv19 L19 X19 hQ19
    obtain ⟨rfl, Nq19, Kq19, Ex_lk, F_rates_lk, F_price_lk, F_cost_lk⟩ := hQ19
    have NF19 := Fr.app NF17 Nq19
    have V_ra := V_ra.keep Kq19 (ninS ne_ra_lk nin0)
    have Zs := Nat.le_trans Zs Kq19.1
    show G (T19.setTop (mkF m 59 #[.val (.int sz), .val (.int pp), .val (.int aa), .val (.int bb), .val (.int cc), .val (.int 2), .val (.ref ra), .unset, .unset, .unset] [(.ref lk)]))
    refine g_astore hG X19 hx (hb hby at_59) (pc' := 61) rfl rfl (Ls' := #[.val (.int sz), .val (.int pp), .val (.int aa), .val (.int bb), .val (.int cc), .val (.int 2), .val (.ref ra), .val (.ref lk), .unset, .unset]) rfl ?_
    show G (T19.setTop (mkF m 61 #[.val (.int sz), .val (.int pp), .val (.int aa), .val (.int bb), .val (.int cc), .val (.int 2), .val (.ref ra), .val (.ref lk), .unset, .unset] []))
    refine g_aload hG X19 hx (hb hby at_61) (pc' := 63) rfl rfl rfl ?_
    show G (T19.setTop (mkF m 63 #[.val (.int sz), .val (.int pp), .val (.int aa), .val (.int bb), .val (.int cc), .val (.int 2), .val (.ref ra), .val (.ref lk), .unset, .unset] [(.ref lk)]))
    obtain ⟨y0, hy0⟩ : ∃ z, FP.dmul v54 v20 = z := ⟨_, rfl⟩
    have D_y0 : OwnFl.DV y0 (OwnFl.RR ((pp.toInt * aa.toInt : Int) : Rat)) := by rw [← hy0, ← q54, ← q20]; exact own_pay pp aa
    obtain ⟨y1, hy1⟩ : ∃ z, FP.dmul v54 v32 = z := ⟨_, rfl⟩
    have D_y1 : OwnFl.DV y1 (OwnFl.RR ((pp.toInt * bb.toInt : Int) : Rat)) := by rw [← hy1, ← q54, ← q32]; exact own_pay pp bb
    refine g_callV hG X19 hx hZ (y := (⟨"com/example/flowmarket/flowmarket/game/PricedLink", "payments", "()[D"⟩ : MethodName)) 0 hown (wd hw 16 rfl) (wd hw 17 rfl) (wd hw 19 rfl) (wd hw 18 rfl) (wd hw 3 rfl) (wd hw 20 rfl) (by decide) (rmY2 l Z a0 hw [] lk ra v54 (0 : UInt64) v20 v32 y0 y1 T19.heap n0 Zs (Ne.symm ne_ra_lk) hy0 D_y0.noNaN hy1 D_y1.noNaN Ex_lk F_rates_lk F_price_lk F_cost_lk V_ra) (by decide) (by decide) (by rw [hml]; rfl) pd_1 rfl (argsL := []) (rest := []) rfl rfl (Nat.le_of_eq rfl) (hb hby at_63) rfl Ex_lk (by decide) (by decide) (pc' := 66) rfl ?_
    intro T20 rv20 L20 X20 hQ20
    obtain ⟨pa, rfl, Nq20, Kq20, szq20, V_pa⟩ := hQ20
    have NF20 := Fr.app NF19 Nq20
    have ne_ra_pa : ra ≠ pa := Nat.ne_of_lt (Nat.lt_of_lt_of_le V_ra.lt szq20)
    have ne_lk_pa : lk ≠ pa := Nat.ne_of_lt (Nat.lt_of_lt_of_le Ex_lk.lt szq20)
    have ge_pa : n0 ≤ pa := Nat.le_trans Zs szq20
    have V_ra := V_ra.keep Kq20 nin0
    have Ex_lk := Ex_lk.keep Kq20
    have F_rates_lk := F_rates_lk.keep Kq20 nin0
    have F_price_lk := F_price_lk.keep Kq20 nin0
    have F_cost_lk := F_cost_lk.keep Kq20 nin0
    have Zs := Nat.le_trans Zs Kq20.1
    show G (T20.setTop (mkF m 66 #[.val (.int sz), .val (.int pp), .val (.int aa), .val (.int bb), .val (.int cc), .val (.int 2), .val (.ref ra), .val (.ref lk), .unset, .unset] [(.ref pa)]))
    refine g_astore hG X20 hx (hb hby at_66) (pc' := 68) rfl rfl (Ls' := #[.val (.int sz), .val (.int pp), .val (.int aa), .val (.int bb), .val (.int cc), .val (.int 2), .val (.ref ra), .val (.ref lk), .val (.ref pa), .unset]) rfl ?_
    show G (T20.setTop (mkF m 68 #[.val (.int sz), .val (.int pp), .val (.int aa), .val (.int bb), .val (.int cc), .val (.int 2), .val (.ref ra), .val (.ref lk), .val (.ref pa), .unset] []))
    refine g_aload hG X20 hx (hb hby at_68) (pc' := 70) rfl rfl rfl ?_
    show G (T20.setTop (mkF m 70 #[.val (.int sz), .val (.int pp), .val (.int aa), .val (.int bb), .val (.int cc), .val (.int 2), .val (.ref ra), .val (.ref lk), .val (.ref pa), .unset] [(.ref pa)]))
    refine g_ifnullNo hG X20 hx (hb hby at_70) (pc' := 73) rfl ?_
    show G (T20.setTop (mkF m 73 #[.val (.int sz), .val (.int pp), .val (.int aa), .val (.int bb), .val (.int cc), .val (.int 2), .val (.ref ra), .val (.ref lk), .val (.ref pa), .unset] []))
    refine g_aload hG X20 hx (hb hby at_73) (pc' := 75) rfl rfl rfl ?_
    show G (T20.setTop (mkF m 75 #[.val (.int sz), .val (.int pp), .val (.int aa), .val (.int bb), .val (.int cc), .val (.int 2), .val (.ref ra), .val (.ref lk), .val (.ref pa), .unset] [(.ref pa)]))
    refine g_aload hG X20 hx (hb hby at_75) (pc' := 77) rfl rfl rfl ?_
    show G (T20.setTop (mkF m 77 #[.val (.int sz), .val (.int pp), .val (.int aa), .val (.int bb), .val (.int cc), .val (.int 2), .val (.ref ra), .val (.ref lk), .val (.ref pa), .unset] [(.ref ra), (.ref pa)]))
    refine g_acmp hG X20 hx rfl rfl (hb hby at_77) (pc' := 80) (same := false) (decide_eq_false fun q => (Ne.symm ne_ra_pa) (Value.ref.inj q)) (by decide) (by decide) ?_
    show G (T20.setTop (mkF m 80 #[.val (.int sz), .val (.int pp), .val (.int aa), .val (.int bb), .val (.int cc), .val (.int 2), .val (.ref ra), .val (.ref lk), .val (.ref pa), .unset] []))
    refine g_aload hG X20 hx (hb hby at_80) (pc' := 82) rfl rfl rfl ?_
    show G (T20.setTop (mkF m 82 #[.val (.int sz), .val (.int pp), .val (.int aa), .val (.int bb), .val (.int cc), .val (.int 2), .val (.ref ra), .val (.ref lk), .val (.ref pa), .unset] [(.ref pa)]))
    refine g_arraylength hG X20 hx hZ rfl V_pa (hb hby at_82) (pc' := 83) rfl ?_
    show G (T20.setTop (mkF m 83 #[.val (.int sz), .val (.int pp), .val (.int aa), .val (.int bb), .val (.int cc), .val (.int 2), .val (.ref ra), .val (.ref lk), .val (.ref pa), .unset] [(.int 2)]))
    refine g_iload hG X20 hx (hb hby at_83) (pc' := 85) rfl rfl ?_
    show G (T20.setTop (mkF m 85 #[.val (.int sz), .val (.int pp), .val (.int aa), .val (.int bb), .val (.int cc), .val (.int 2), .val (.ref ra), .val (.ref lk), .val (.ref pa), .unset] [(.int 2), (.int 2)]))
    refine g_icmpYes hG X20 hx (hb hby at_85) (pc' := 90) (by decide) (by decide) (by decide) ?_
    show G (T20.setTop (mkF m 90 #[.val (.int sz), .val (.int pp), .val (.int aa), .val (.int bb), .val (.int cc), .val (.int 2), .val (.ref ra), .val (.ref lk), .val (.ref pa), .unset] []))
    refine g_iload hG X20 hx (hb hby at_90) (pc' := 92) rfl rfl ?_
    show G (T20.setTop (mkF m 92 #[.val (.int sz), .val (.int pp), .val (.int aa), .val (.int bb), .val (.int cc), .val (.int 2), .val (.ref ra), .val (.ref lk), .val (.ref pa), .unset] [(.int 2)]))
    refine g_ifNo hG X20 hx (hb hby at_92) (pc' := 95) (by decide) rfl ?_
    show G (T20.setTop (mkF m 95 #[.val (.int sz), .val (.int pp), .val (.int aa), .val (.int bb), .val (.int cc), .val (.int 2), .val (.ref ra), .val (.ref lk), .val (.ref pa), .unset] []))
    refine g_aload hG X20 hx (hb hby at_95) (pc' := 97) rfl rfl rfl ?_
    show G (T20.setTop (mkF m 97 #[.val (.int sz), .val (.int pp), .val (.int aa), .val (.int bb), .val (.int cc), .val (.int 2), .val (.ref ra), .val (.ref lk), .val (.ref pa), .unset] [(.ref pa)]))
    refine g_iconst hG X20 hx (hb hby at_97) (pc' := 98) rfl (v := (0 : Int32)) rfl ?_
    show G (T20.setTop (mkF m 98 #[.val (.int sz), .val (.int pp), .val (.int aa), .val (.int bb), .val (.int cc), .val (.int 2), .val (.ref ra), .val (.ref lk), .val (.ref pa), .unset] [(.int 0), (.ref pa)]))
    refine g_daload hG X20 hx hZ rfl V_pa (j := (0 : Int32)) (v := (.double y0)) (by decide) rfl (hb hby at_98) (pc' := 99) rfl ?_
    show G (T20.setTop (mkF m 99 #[.val (.int sz), .val (.int pp), .val (.int aa), .val (.int bb), .val (.int cc), .val (.int 2), .val (.ref ra), .val (.ref lk), .val (.ref pa), .unset] [(.double y0)]))
    refine g_iloadN hG X20 hx (hb hby at_99) (pc' := 100) rfl rfl ?_
    show G (T20.setTop (mkF m 100 #[.val (.int sz), .val (.int pp), .val (.int aa), .val (.int bb), .val (.int cc), .val (.int 2), .val (.ref ra), .val (.ref lk), .val (.ref pa), .unset] [(.int pp), (.double y0)]))
    refine g_iloadN hG X20 hx (hb hby at_100) (pc' := 101) rfl rfl ?_
    show G (T20.setTop (mkF m 101 #[.val (.int sz), .val (.int pp), .val (.int aa), .val (.int bb), .val (.int cc), .val (.int 2), .val (.ref ra), .val (.ref lk), .val (.ref pa), .unset] [(.int aa), (.int pp), (.double y0)]))
    obtain ⟨ev101, hev101⟩ : ∃ z, FP.l2d (pp.toInt64 * aa.toInt64) = z := ⟨_, rfl⟩
    have D_ev101 : OwnFl.DV ev101 (OwnFl.RR ((pp.toInt * aa.toInt : Int) : Rat)) := by rw [← hev101]; exact own_exp pp aa
    refine g_callS hG X20 hx hZ (y := (⟨"com/example/flowmarket/flowmarket/game/PricedLinkPaymentsPinLaw", "expect", "(II)D"⟩ : MethodName)) 2 hown (wd hw 21 rfl) (wd hw 22 rfl) (wd hw 23 rfl) (wd hw 24 rfl) (by decide) (rmE l Z a0 hw [] pp aa ev101 T20.heap n0 Zs hev101) (by decide) (by decide) (by rw [hml]; rfl) pd_2 rfl (argsL := [(.int pp), (.int aa)]) (rest := [(.double y0)]) rfl rfl (Nat.le_of_eq rfl) (hb hby at_101) rfl (by decide) (by decide) (pc' := 104) rfl ?_
    intro T21 rv21 L21 X21 hQ21
    obtain ⟨rfl, Nq21, eh21⟩ := hQ21
    have NF21 := Fr.app NF20 Nq21
    show G (T21.setTop (mkF m 104 #[.val (.int sz), .val (.int pp), .val (.int aa), .val (.int bb), .val (.int cc), .val (.int 2), .val (.ref ra), .val (.ref lk), .val (.ref pa), .unset] [(.double ev101), (.double y0)]))
    obtain ⟨v104, q104⟩ : ∃ z : Int32, cmpValue (FP.dcmp y0 ev101) .l = z := ⟨_, rfl⟩
    refine g_dcmp hG X21 hx (hb hby at_104) (pc' := 105) rfl q104 ?_
    show G (T21.setTop (mkF m 105 #[.val (.int sz), .val (.int pp), .val (.int aa), .val (.int bb), .val (.int cc), .val (.int 2), .val (.ref ra), .val (.ref lk), .val (.ref pa), .unset] [(.int v104)]))
    refine g_ifYes hG X21 hx (hb hby at_105) (pc' := 110) (by rw [← q104, OwnFl.dcmp_eq D_y0 D_ev101 rfl]; rfl) (by decide) (by decide) ?_
    show G (T21.setTop (mkF m 110 #[.val (.int sz), .val (.int pp), .val (.int aa), .val (.int bb), .val (.int cc), .val (.int 2), .val (.ref ra), .val (.ref lk), .val (.ref pa), .unset] []))
    refine g_iload hG X21 hx (hb hby at_110) (pc' := 112) rfl rfl ?_
    show G (T21.setTop (mkF m 112 #[.val (.int sz), .val (.int pp), .val (.int aa), .val (.int bb), .val (.int cc), .val (.int 2), .val (.ref ra), .val (.ref lk), .val (.ref pa), .unset] [(.int 2)]))
    refine g_iconst hG X21 hx (hb hby at_112) (pc' := 113) rfl (v := (1 : Int32)) rfl ?_
    show G (T21.setTop (mkF m 113 #[.val (.int sz), .val (.int pp), .val (.int aa), .val (.int bb), .val (.int cc), .val (.int 2), .val (.ref ra), .val (.ref lk), .val (.ref pa), .unset] [(.int 1), (.int 2)]))
    refine g_icmpNo hG X21 hx (hb hby at_113) (pc' := 116) (by decide) rfl ?_
    show G (T21.setTop (mkF m 116 #[.val (.int sz), .val (.int pp), .val (.int aa), .val (.int bb), .val (.int cc), .val (.int 2), .val (.ref ra), .val (.ref lk), .val (.ref pa), .unset] []))
    refine g_aload hG X21 hx (hb hby at_116) (pc' := 118) rfl rfl rfl ?_
    show G (T21.setTop (mkF m 118 #[.val (.int sz), .val (.int pp), .val (.int aa), .val (.int bb), .val (.int cc), .val (.int 2), .val (.ref ra), .val (.ref lk), .val (.ref pa), .unset] [(.ref pa)]))
    refine g_iconst hG X21 hx (hb hby at_118) (pc' := 119) rfl (v := (1 : Int32)) rfl ?_
    show G (T21.setTop (mkF m 119 #[.val (.int sz), .val (.int pp), .val (.int aa), .val (.int bb), .val (.int cc), .val (.int 2), .val (.ref ra), .val (.ref lk), .val (.ref pa), .unset] [(.int 1), (.ref pa)]))
    refine g_daload hG X21 hx hZ eh21 V_pa (j := (1 : Int32)) (v := (.double y1)) (by decide) rfl (hb hby at_119) (pc' := 120) rfl ?_
    show G (T21.setTop (mkF m 120 #[.val (.int sz), .val (.int pp), .val (.int aa), .val (.int bb), .val (.int cc), .val (.int 2), .val (.ref ra), .val (.ref lk), .val (.ref pa), .unset] [(.double y1)]))
    refine g_iloadN hG X21 hx (hb hby at_120) (pc' := 121) rfl rfl ?_
    show G (T21.setTop (mkF m 121 #[.val (.int sz), .val (.int pp), .val (.int aa), .val (.int bb), .val (.int cc), .val (.int 2), .val (.ref ra), .val (.ref lk), .val (.ref pa), .unset] [(.int pp), (.double y1)]))
    refine g_iloadN hG X21 hx (hb hby at_121) (pc' := 122) rfl rfl ?_
    show G (T21.setTop (mkF m 122 #[.val (.int sz), .val (.int pp), .val (.int aa), .val (.int bb), .val (.int cc), .val (.int 2), .val (.ref ra), .val (.ref lk), .val (.ref pa), .unset] [(.int bb), (.int pp), (.double y1)]))
    obtain ⟨ev122, hev122⟩ : ∃ z, FP.l2d (pp.toInt64 * bb.toInt64) = z := ⟨_, rfl⟩
    have D_ev122 : OwnFl.DV ev122 (OwnFl.RR ((pp.toInt * bb.toInt : Int) : Rat)) := by rw [← hev122]; exact own_exp pp bb
    refine g_callS hG X21 hx hZ (y := (⟨"com/example/flowmarket/flowmarket/game/PricedLinkPaymentsPinLaw", "expect", "(II)D"⟩ : MethodName)) 2 hown (wd hw 21 rfl) (wd hw 22 rfl) (wd hw 23 rfl) (wd hw 24 rfl) (by decide) (rmE l Z a0 hw [] pp bb ev122 T20.heap n0 Zs hev122) (by decide) (by decide) (by rw [hml]; rfl) pd_2 rfl (argsL := [(.int pp), (.int bb)]) (rest := [(.double y1)]) rfl rfl (Nat.le_of_eq rfl) (hb hby at_122) eh21 (by decide) (by decide) (pc' := 125) rfl ?_
    intro T22 rv22 L22 X22 hQ22
    obtain ⟨rfl, Nq22, eh22⟩ := hQ22
    have NF22 := Fr.app NF21 Nq22
    show G (T22.setTop (mkF m 125 #[.val (.int sz), .val (.int pp), .val (.int aa), .val (.int bb), .val (.int cc), .val (.int 2), .val (.ref ra), .val (.ref lk), .val (.ref pa), .unset] [(.double ev122), (.double y1)]))
    obtain ⟨v125, q125⟩ : ∃ z : Int32, cmpValue (FP.dcmp y1 ev122) .l = z := ⟨_, rfl⟩
    refine g_dcmp hG X22 hx (hb hby at_125) (pc' := 126) rfl q125 ?_
    show G (T22.setTop (mkF m 126 #[.val (.int sz), .val (.int pp), .val (.int aa), .val (.int bb), .val (.int cc), .val (.int 2), .val (.ref ra), .val (.ref lk), .val (.ref pa), .unset] [(.int v125)]))
    refine g_ifYes hG X22 hx (hb hby at_126) (pc' := 131) (by rw [← q125, OwnFl.dcmp_eq D_y1 D_ev122 rfl]; rfl) (by decide) (by decide) ?_
    show G (T22.setTop (mkF m 131 #[.val (.int sz), .val (.int pp), .val (.int aa), .val (.int bb), .val (.int cc), .val (.int 2), .val (.ref ra), .val (.ref lk), .val (.ref pa), .unset] []))
    refine g_iload hG X22 hx (hb hby at_131) (pc' := 133) rfl rfl ?_
    show G (T22.setTop (mkF m 133 #[.val (.int sz), .val (.int pp), .val (.int aa), .val (.int bb), .val (.int cc), .val (.int 2), .val (.ref ra), .val (.ref lk), .val (.ref pa), .unset] [(.int 2)]))
    refine g_iconst hG X22 hx (hb hby at_133) (pc' := 134) rfl (v := (2 : Int32)) rfl ?_
    show G (T22.setTop (mkF m 134 #[.val (.int sz), .val (.int pp), .val (.int aa), .val (.int bb), .val (.int cc), .val (.int 2), .val (.ref ra), .val (.ref lk), .val (.ref pa), .unset] [(.int 2), (.int 2)]))
    refine g_icmpYes hG X22 hx (hb hby at_134) (pc' := 153) (by decide) (by decide) (by decide) ?_
    show G (T22.setTop (mkF m 153 #[.val (.int sz), .val (.int pp), .val (.int aa), .val (.int bb), .val (.int cc), .val (.int 2), .val (.ref ra), .val (.ref lk), .val (.ref pa), .unset] []))
    refine g_iload hG X22 hx (hb hby at_153) (pc' := 155) rfl rfl ?_
    show G (T22.setTop (mkF m 155 #[.val (.int sz), .val (.int pp), .val (.int aa), .val (.int bb), .val (.int cc), .val (.int 2), .val (.ref ra), .val (.ref lk), .val (.ref pa), .unset] [(.int 2)]))
    refine g_ifNo hG X22 hx (hb hby at_155) (pc' := 158) (by decide) rfl ?_
    show G (T22.setTop (mkF m 158 #[.val (.int sz), .val (.int pp), .val (.int aa), .val (.int bb), .val (.int cc), .val (.int 2), .val (.ref ra), .val (.ref lk), .val (.ref pa), .unset] []))
    refine g_aload hG X22 hx (hb hby at_158) (pc' := 160) rfl rfl rfl ?_
    show G (T22.setTop (mkF m 160 #[.val (.int sz), .val (.int pp), .val (.int aa), .val (.int bb), .val (.int cc), .val (.int 2), .val (.ref ra), .val (.ref lk), .val (.ref pa), .unset] [(.ref ra)]))
    refine g_iconst hG X22 hx (hb hby at_160) (pc' := 161) rfl (v := (0 : Int32)) rfl ?_
    show G (T22.setTop (mkF m 161 #[.val (.int sz), .val (.int pp), .val (.int aa), .val (.int bb), .val (.int cc), .val (.int 2), .val (.ref ra), .val (.ref lk), .val (.ref pa), .unset] [(.int 0), (.ref ra)]))
    refine g_daload hG X22 hx hZ eh22 V_ra (j := (0 : Int32)) (v := (.double v20)) (by decide) rfl (hb hby at_161) (pc' := 162) rfl ?_
    show G (T22.setTop (mkF m 162 #[.val (.int sz), .val (.int pp), .val (.int aa), .val (.int bb), .val (.int cc), .val (.int 2), .val (.ref ra), .val (.ref lk), .val (.ref pa), .unset] [(.double v20)]))
    refine g_iloadN hG X22 hx (hb hby at_162) (pc' := 163) rfl rfl ?_
    show G (T22.setTop (mkF m 163 #[.val (.int sz), .val (.int pp), .val (.int aa), .val (.int bb), .val (.int cc), .val (.int 2), .val (.ref ra), .val (.ref lk), .val (.ref pa), .unset] [(.int aa), (.double v20)]))
    obtain ⟨v163, q163⟩ : ∃ z : UInt64, FP.i2d aa = z := ⟨_, rfl⟩
    refine g_i2d hG X22 hx (hb hby at_163) (pc' := 164) rfl q163 ?_
    have D_v163 : OwnFl.DV v163 ((aa.toInt : Int) : Rat) := by rw [← q163]; exact OwnFl.i2d_DV aa
    show G (T22.setTop (mkF m 164 #[.val (.int sz), .val (.int pp), .val (.int aa), .val (.int bb), .val (.int cc), .val (.int 2), .val (.ref ra), .val (.ref lk), .val (.ref pa), .unset] [(.double v163), (.double v20)]))
    obtain ⟨v164, q164⟩ : ∃ z : Int32, cmpValue (FP.dcmp v20 v163) .l = z := ⟨_, rfl⟩
    refine g_dcmp hG X22 hx (hb hby at_164) (pc' := 165) rfl q164 ?_
    show G (T22.setTop (mkF m 165 #[.val (.int sz), .val (.int pp), .val (.int aa), .val (.int bb), .val (.int cc), .val (.int 2), .val (.ref ra), .val (.ref lk), .val (.ref pa), .unset] [(.int v164)]))
    refine g_ifYes hG X22 hx (hb hby at_165) (pc' := 170) (by rw [← q164, OwnFl.dcmp_eq D_v20 D_v163 rfl]; rfl) (by decide) (by decide) ?_
    show G (T22.setTop (mkF m 170 #[.val (.int sz), .val (.int pp), .val (.int aa), .val (.int bb), .val (.int cc), .val (.int 2), .val (.ref ra), .val (.ref lk), .val (.ref pa), .unset] []))
    refine g_iload hG X22 hx (hb hby at_170) (pc' := 172) rfl rfl ?_
    show G (T22.setTop (mkF m 172 #[.val (.int sz), .val (.int pp), .val (.int aa), .val (.int bb), .val (.int cc), .val (.int 2), .val (.ref ra), .val (.ref lk), .val (.ref pa), .unset] [(.int 2)]))
    refine g_iconst hG X22 hx (hb hby at_172) (pc' := 173) rfl (v := (1 : Int32)) rfl ?_
    show G (T22.setTop (mkF m 173 #[.val (.int sz), .val (.int pp), .val (.int aa), .val (.int bb), .val (.int cc), .val (.int 2), .val (.ref ra), .val (.ref lk), .val (.ref pa), .unset] [(.int 1), (.int 2)]))
    refine g_icmpNo hG X22 hx (hb hby at_173) (pc' := 176) (by decide) rfl ?_
    show G (T22.setTop (mkF m 176 #[.val (.int sz), .val (.int pp), .val (.int aa), .val (.int bb), .val (.int cc), .val (.int 2), .val (.ref ra), .val (.ref lk), .val (.ref pa), .unset] []))
    refine g_aload hG X22 hx (hb hby at_176) (pc' := 178) rfl rfl rfl ?_
    show G (T22.setTop (mkF m 178 #[.val (.int sz), .val (.int pp), .val (.int aa), .val (.int bb), .val (.int cc), .val (.int 2), .val (.ref ra), .val (.ref lk), .val (.ref pa), .unset] [(.ref ra)]))
    refine g_iconst hG X22 hx (hb hby at_178) (pc' := 179) rfl (v := (1 : Int32)) rfl ?_
    show G (T22.setTop (mkF m 179 #[.val (.int sz), .val (.int pp), .val (.int aa), .val (.int bb), .val (.int cc), .val (.int 2), .val (.ref ra), .val (.ref lk), .val (.ref pa), .unset] [(.int 1), (.ref ra)]))
    refine g_daload hG X22 hx hZ eh22 V_ra (j := (1 : Int32)) (v := (.double v32)) (by decide) rfl (hb hby at_179) (pc' := 180) rfl ?_
    show G (T22.setTop (mkF m 180 #[.val (.int sz), .val (.int pp), .val (.int aa), .val (.int bb), .val (.int cc), .val (.int 2), .val (.ref ra), .val (.ref lk), .val (.ref pa), .unset] [(.double v32)]))
    refine g_iloadN hG X22 hx (hb hby at_180) (pc' := 181) rfl rfl ?_
    show G (T22.setTop (mkF m 181 #[.val (.int sz), .val (.int pp), .val (.int aa), .val (.int bb), .val (.int cc), .val (.int 2), .val (.ref ra), .val (.ref lk), .val (.ref pa), .unset] [(.int bb), (.double v32)]))
    obtain ⟨v181, q181⟩ : ∃ z : UInt64, FP.i2d bb = z := ⟨_, rfl⟩
    refine g_i2d hG X22 hx (hb hby at_181) (pc' := 182) rfl q181 ?_
    have D_v181 : OwnFl.DV v181 ((bb.toInt : Int) : Rat) := by rw [← q181]; exact OwnFl.i2d_DV bb
    show G (T22.setTop (mkF m 182 #[.val (.int sz), .val (.int pp), .val (.int aa), .val (.int bb), .val (.int cc), .val (.int 2), .val (.ref ra), .val (.ref lk), .val (.ref pa), .unset] [(.double v181), (.double v32)]))
    obtain ⟨v182, q182⟩ : ∃ z : Int32, cmpValue (FP.dcmp v32 v181) .l = z := ⟨_, rfl⟩
    refine g_dcmp hG X22 hx (hb hby at_182) (pc' := 183) rfl q182 ?_
    show G (T22.setTop (mkF m 183 #[.val (.int sz), .val (.int pp), .val (.int aa), .val (.int bb), .val (.int cc), .val (.int 2), .val (.ref ra), .val (.ref lk), .val (.ref pa), .unset] [(.int v182)]))
    refine g_ifYes hG X22 hx (hb hby at_183) (pc' := 188) (by rw [← q182, OwnFl.dcmp_eq D_v32 D_v181 rfl]; rfl) (by decide) (by decide) ?_
    show G (T22.setTop (mkF m 188 #[.val (.int sz), .val (.int pp), .val (.int aa), .val (.int bb), .val (.int cc), .val (.int 2), .val (.ref ra), .val (.ref lk), .val (.ref pa), .unset] []))
    refine g_iload hG X22 hx (hb hby at_188) (pc' := 190) rfl rfl ?_
    show G (T22.setTop (mkF m 190 #[.val (.int sz), .val (.int pp), .val (.int aa), .val (.int bb), .val (.int cc), .val (.int 2), .val (.ref ra), .val (.ref lk), .val (.ref pa), .unset] [(.int 2)]))
    refine g_iconst hG X22 hx (hb hby at_190) (pc' := 191) rfl (v := (2 : Int32)) rfl ?_
    show G (T22.setTop (mkF m 191 #[.val (.int sz), .val (.int pp), .val (.int aa), .val (.int bb), .val (.int cc), .val (.int 2), .val (.ref ra), .val (.ref lk), .val (.ref pa), .unset] [(.int 2), (.int 2)]))
    refine g_icmpYes hG X22 hx (hb hby at_191) (pc' := 207) (by decide) (by decide) (by decide) ?_
    show G (T22.setTop (mkF m 207 #[.val (.int sz), .val (.int pp), .val (.int aa), .val (.int bb), .val (.int cc), .val (.int 2), .val (.ref ra), .val (.ref lk), .val (.ref pa), .unset] []))
    refine g_iload hG X22 hx (hb hby at_207) (pc' := 209) rfl rfl ?_
    show G (T22.setTop (mkF m 209 #[.val (.int sz), .val (.int pp), .val (.int aa), .val (.int bb), .val (.int cc), .val (.int 2), .val (.ref ra), .val (.ref lk), .val (.ref pa), .unset] [(.int 2)]))
    refine g_ifNo hG X22 hx (hb hby at_209) (pc' := 212) (by decide) rfl ?_
    show G (T22.setTop (mkF m 212 #[.val (.int sz), .val (.int pp), .val (.int aa), .val (.int bb), .val (.int cc), .val (.int 2), .val (.ref ra), .val (.ref lk), .val (.ref pa), .unset] []))
    refine g_aload hG X22 hx (hb hby at_212) (pc' := 214) rfl rfl rfl ?_
    show G (T22.setTop (mkF m 214 #[.val (.int sz), .val (.int pp), .val (.int aa), .val (.int bb), .val (.int cc), .val (.int 2), .val (.ref ra), .val (.ref lk), .val (.ref pa), .unset] [(.ref pa)]))
    refine g_iconst hG X22 hx (hb hby at_214) (pc' := 215) rfl (v := (0 : Int32)) rfl ?_
    show G (T22.setTop (mkF m 215 #[.val (.int sz), .val (.int pp), .val (.int aa), .val (.int bb), .val (.int cc), .val (.int 2), .val (.ref ra), .val (.ref lk), .val (.ref pa), .unset] [(.int 0), (.ref pa)]))
    refine g_ldcDouble hG X22 hx hZ hown (wd hw 25 rfl) (hb hby at_215) (pc' := 218) rfl ?_
    show G (T22.setTop (mkF m 218 #[.val (.int sz), .val (.int pp), .val (.int aa), .val (.int bb), .val (.int cc), .val (.int 2), .val (.ref ra), .val (.ref lk), .val (.ref pa), .unset] [(.double 4602678819172646912), (.int 0), (.ref pa)]))
    refine g_dastore hG X22 hx hZ eh22 V_pa (j := (0 : Int32)) (by decide) (show Int32.toNatClampNeg (0 : Int32) < 2 by decide) (hb hby at_218) (pc' := 219) rfl ?_
    intro T23 h23 X23 e23 W23 Vn23
    have V_pa : AV Z h23 pa .double (2 : Int32) [(.double 4602678819172646912), (.double y1)] := Vn23
    have V_ra := V_ra.other W23 ne_ra_pa
    have Ex_lk := Ex_lk.wr W23
    have F_rates_lk := F_rates_lk.other W23 (Or.inl ne_lk_pa)
    have F_price_lk := F_price_lk.other W23 (Or.inl ne_lk_pa)
    have F_cost_lk := F_cost_lk.other W23 (Or.inl ne_lk_pa)
    have Zs := Nat.le_trans Zs (Wr.size W23)
    have NF23 := Fr.snoc X23 NF22 ge_pa
    show G (T23.setTop (mkF m 219 #[.val (.int sz), .val (.int pp), .val (.int aa), .val (.int bb), .val (.int cc), .val (.int 2), .val (.ref ra), .val (.ref lk), .val (.ref pa), .unset] []))
    refine g_iload hG X23 hx (hb hby at_219) (pc' := 221) rfl rfl ?_
    show G (T23.setTop (mkF m 221 #[.val (.int sz), .val (.int pp), .val (.int aa), .val (.int bb), .val (.int cc), .val (.int 2), .val (.ref ra), .val (.ref lk), .val (.ref pa), .unset] [(.int 2)]))
    refine g_iconst hG X23 hx (hb hby at_221) (pc' := 222) rfl (v := (2 : Int32)) rfl ?_
    show G (T23.setTop (mkF m 222 #[.val (.int sz), .val (.int pp), .val (.int aa), .val (.int bb), .val (.int cc), .val (.int 2), .val (.ref ra), .val (.ref lk), .val (.ref pa), .unset] [(.int 2), (.int 2)]))
    refine g_icmpYes hG X23 hx (hb hby at_222) (pc' := 232) (by decide) (by decide) (by decide) ?_
    show G (T23.setTop (mkF m 232 #[.val (.int sz), .val (.int pp), .val (.int aa), .val (.int bb), .val (.int cc), .val (.int 2), .val (.ref ra), .val (.ref lk), .val (.ref pa), .unset] []))
    refine g_aload hG X23 hx (hb hby at_232) (pc' := 234) rfl rfl rfl ?_
    show G (T23.setTop (mkF m 234 #[.val (.int sz), .val (.int pp), .val (.int aa), .val (.int bb), .val (.int cc), .val (.int 2), .val (.ref ra), .val (.ref lk), .val (.ref pa), .unset] [(.ref lk)]))
    refine g_callV hG X23 hx hZ (y := (⟨"com/example/flowmarket/flowmarket/game/PricedLink", "payments", "()[D"⟩ : MethodName)) 0 hown (wd hw 16 rfl) (wd hw 17 rfl) (wd hw 19 rfl) (wd hw 18 rfl) (wd hw 3 rfl) (wd hw 20 rfl) (by decide) (rmY2 l Z a0 hw [] lk ra v54 (0 : UInt64) v20 v32 y0 y1 h23 n0 Zs (Ne.symm ne_ra_lk) hy0 D_y0.noNaN hy1 D_y1.noNaN Ex_lk F_rates_lk F_price_lk F_cost_lk V_ra) (by decide) (by decide) (by rw [hml]; rfl) pd_1 rfl (argsL := []) (rest := []) rfl rfl (Nat.le_of_eq rfl) (hb hby at_234) e23 Ex_lk (by decide) (by decide) (pc' := 237) rfl ?_
    intro T24 rv24 L24 X24 hQ24
    obtain ⟨ag, rfl, Nq24, Kq24, szq24, V_ag⟩ := hQ24
    have NF24 := Fr.app NF23 Nq24
    have ne_ra_ag : ra ≠ ag := Nat.ne_of_lt (Nat.lt_of_lt_of_le V_ra.lt szq24)
    have ne_lk_ag : lk ≠ ag := Nat.ne_of_lt (Nat.lt_of_lt_of_le Ex_lk.lt szq24)
    have ne_pa_ag : pa ≠ ag := Nat.ne_of_lt (Nat.lt_of_lt_of_le V_pa.lt szq24)
    have ge_ag : n0 ≤ ag := Nat.le_trans Zs szq24
    have V_ra := V_ra.keep Kq24 nin0
    have Ex_lk := Ex_lk.keep Kq24
    have F_rates_lk := F_rates_lk.keep Kq24 nin0
    have F_price_lk := F_price_lk.keep Kq24 nin0
    have F_cost_lk := F_cost_lk.keep Kq24 nin0
    have V_pa := V_pa.keep Kq24 nin0
    have Zs := Nat.le_trans Zs Kq24.1
    show G (T24.setTop (mkF m 237 #[.val (.int sz), .val (.int pp), .val (.int aa), .val (.int bb), .val (.int cc), .val (.int 2), .val (.ref ra), .val (.ref lk), .val (.ref pa), .unset] [(.ref ag)]))
    refine g_astore hG X24 hx (hb hby at_237) (pc' := 239) rfl rfl (Ls' := #[.val (.int sz), .val (.int pp), .val (.int aa), .val (.int bb), .val (.int cc), .val (.int 2), .val (.ref ra), .val (.ref lk), .val (.ref pa), .val (.ref ag)]) rfl ?_
    show G (T24.setTop (mkF m 239 #[.val (.int sz), .val (.int pp), .val (.int aa), .val (.int bb), .val (.int cc), .val (.int 2), .val (.ref ra), .val (.ref lk), .val (.ref pa), .val (.ref ag)] []))
    refine g_aload hG X24 hx (hb hby at_239) (pc' := 241) rfl rfl rfl ?_
    show G (T24.setTop (mkF m 241 #[.val (.int sz), .val (.int pp), .val (.int aa), .val (.int bb), .val (.int cc), .val (.int 2), .val (.ref ra), .val (.ref lk), .val (.ref pa), .val (.ref ag)] [(.ref ag)]))
    refine g_ifnullNo hG X24 hx (hb hby at_241) (pc' := 244) rfl ?_
    show G (T24.setTop (mkF m 244 #[.val (.int sz), .val (.int pp), .val (.int aa), .val (.int bb), .val (.int cc), .val (.int 2), .val (.ref ra), .val (.ref lk), .val (.ref pa), .val (.ref ag)] []))
    refine g_aload hG X24 hx (hb hby at_244) (pc' := 246) rfl rfl rfl ?_
    show G (T24.setTop (mkF m 246 #[.val (.int sz), .val (.int pp), .val (.int aa), .val (.int bb), .val (.int cc), .val (.int 2), .val (.ref ra), .val (.ref lk), .val (.ref pa), .val (.ref ag)] [(.ref ag)]))
    refine g_aload hG X24 hx (hb hby at_246) (pc' := 248) rfl rfl rfl ?_
    show G (T24.setTop (mkF m 248 #[.val (.int sz), .val (.int pp), .val (.int aa), .val (.int bb), .val (.int cc), .val (.int 2), .val (.ref ra), .val (.ref lk), .val (.ref pa), .val (.ref ag)] [(.ref ra), (.ref ag)]))
    refine g_acmp hG X24 hx rfl rfl (hb hby at_248) (pc' := 251) (same := false) (decide_eq_false fun q => (Ne.symm ne_ra_ag) (Value.ref.inj q)) (by decide) (by decide) ?_
    show G (T24.setTop (mkF m 251 #[.val (.int sz), .val (.int pp), .val (.int aa), .val (.int bb), .val (.int cc), .val (.int 2), .val (.ref ra), .val (.ref lk), .val (.ref pa), .val (.ref ag)] []))
    refine g_aload hG X24 hx (hb hby at_251) (pc' := 253) rfl rfl rfl ?_
    show G (T24.setTop (mkF m 253 #[.val (.int sz), .val (.int pp), .val (.int aa), .val (.int bb), .val (.int cc), .val (.int 2), .val (.ref ra), .val (.ref lk), .val (.ref pa), .val (.ref ag)] [(.ref ag)]))
    refine g_arraylength hG X24 hx hZ rfl V_ag (hb hby at_253) (pc' := 254) rfl ?_
    show G (T24.setTop (mkF m 254 #[.val (.int sz), .val (.int pp), .val (.int aa), .val (.int bb), .val (.int cc), .val (.int 2), .val (.ref ra), .val (.ref lk), .val (.ref pa), .val (.ref ag)] [(.int 2)]))
    refine g_iload hG X24 hx (hb hby at_254) (pc' := 256) rfl rfl ?_
    show G (T24.setTop (mkF m 256 #[.val (.int sz), .val (.int pp), .val (.int aa), .val (.int bb), .val (.int cc), .val (.int 2), .val (.ref ra), .val (.ref lk), .val (.ref pa), .val (.ref ag)] [(.int 2), (.int 2)]))
    refine g_icmpYes hG X24 hx (hb hby at_256) (pc' := 261) (by decide) (by decide) (by decide) ?_
    show G (T24.setTop (mkF m 261 #[.val (.int sz), .val (.int pp), .val (.int aa), .val (.int bb), .val (.int cc), .val (.int 2), .val (.ref ra), .val (.ref lk), .val (.ref pa), .val (.ref ag)] []))
    refine g_iload hG X24 hx (hb hby at_261) (pc' := 263) rfl rfl ?_
    show G (T24.setTop (mkF m 263 #[.val (.int sz), .val (.int pp), .val (.int aa), .val (.int bb), .val (.int cc), .val (.int 2), .val (.ref ra), .val (.ref lk), .val (.ref pa), .val (.ref ag)] [(.int 2)]))
    refine g_ifNo hG X24 hx (hb hby at_263) (pc' := 266) (by decide) rfl ?_
    show G (T24.setTop (mkF m 266 #[.val (.int sz), .val (.int pp), .val (.int aa), .val (.int bb), .val (.int cc), .val (.int 2), .val (.ref ra), .val (.ref lk), .val (.ref pa), .val (.ref ag)] []))
    refine g_aload hG X24 hx (hb hby at_266) (pc' := 268) rfl rfl rfl ?_
    show G (T24.setTop (mkF m 268 #[.val (.int sz), .val (.int pp), .val (.int aa), .val (.int bb), .val (.int cc), .val (.int 2), .val (.ref ra), .val (.ref lk), .val (.ref pa), .val (.ref ag)] [(.ref ag)]))
    refine g_iconst hG X24 hx (hb hby at_268) (pc' := 269) rfl (v := (0 : Int32)) rfl ?_
    show G (T24.setTop (mkF m 269 #[.val (.int sz), .val (.int pp), .val (.int aa), .val (.int bb), .val (.int cc), .val (.int 2), .val (.ref ra), .val (.ref lk), .val (.ref pa), .val (.ref ag)] [(.int 0), (.ref ag)]))
    refine g_daload hG X24 hx hZ rfl V_ag (j := (0 : Int32)) (v := (.double y0)) (by decide) rfl (hb hby at_269) (pc' := 270) rfl ?_
    show G (T24.setTop (mkF m 270 #[.val (.int sz), .val (.int pp), .val (.int aa), .val (.int bb), .val (.int cc), .val (.int 2), .val (.ref ra), .val (.ref lk), .val (.ref pa), .val (.ref ag)] [(.double y0)]))
    refine g_iloadN hG X24 hx (hb hby at_270) (pc' := 271) rfl rfl ?_
    show G (T24.setTop (mkF m 271 #[.val (.int sz), .val (.int pp), .val (.int aa), .val (.int bb), .val (.int cc), .val (.int 2), .val (.ref ra), .val (.ref lk), .val (.ref pa), .val (.ref ag)] [(.int pp), (.double y0)]))
    refine g_iloadN hG X24 hx (hb hby at_271) (pc' := 272) rfl rfl ?_
    show G (T24.setTop (mkF m 272 #[.val (.int sz), .val (.int pp), .val (.int aa), .val (.int bb), .val (.int cc), .val (.int 2), .val (.ref ra), .val (.ref lk), .val (.ref pa), .val (.ref ag)] [(.int aa), (.int pp), (.double y0)]))
    obtain ⟨ev272, hev272⟩ : ∃ z, FP.l2d (pp.toInt64 * aa.toInt64) = z := ⟨_, rfl⟩
    have D_ev272 : OwnFl.DV ev272 (OwnFl.RR ((pp.toInt * aa.toInt : Int) : Rat)) := by rw [← hev272]; exact own_exp pp aa
    refine g_callS hG X24 hx hZ (y := (⟨"com/example/flowmarket/flowmarket/game/PricedLinkPaymentsPinLaw", "expect", "(II)D"⟩ : MethodName)) 2 hown (wd hw 21 rfl) (wd hw 22 rfl) (wd hw 23 rfl) (wd hw 24 rfl) (by decide) (rmE l Z a0 hw [] pp aa ev272 T24.heap n0 Zs hev272) (by decide) (by decide) (by rw [hml]; rfl) pd_2 rfl (argsL := [(.int pp), (.int aa)]) (rest := [(.double y0)]) rfl rfl (Nat.le_of_eq rfl) (hb hby at_272) rfl (by decide) (by decide) (pc' := 275) rfl ?_
    intro T25 rv25 L25 X25 hQ25
    obtain ⟨rfl, Nq25, eh25⟩ := hQ25
    have NF25 := Fr.app NF24 Nq25
    show G (T25.setTop (mkF m 275 #[.val (.int sz), .val (.int pp), .val (.int aa), .val (.int bb), .val (.int cc), .val (.int 2), .val (.ref ra), .val (.ref lk), .val (.ref pa), .val (.ref ag)] [(.double ev272), (.double y0)]))
    obtain ⟨v275, q275⟩ : ∃ z : Int32, cmpValue (FP.dcmp y0 ev272) .l = z := ⟨_, rfl⟩
    refine g_dcmp hG X25 hx (hb hby at_275) (pc' := 276) rfl q275 ?_
    show G (T25.setTop (mkF m 276 #[.val (.int sz), .val (.int pp), .val (.int aa), .val (.int bb), .val (.int cc), .val (.int 2), .val (.ref ra), .val (.ref lk), .val (.ref pa), .val (.ref ag)] [(.int v275)]))
    refine g_ifYes hG X25 hx (hb hby at_276) (pc' := 281) (by rw [← q275, OwnFl.dcmp_eq D_y0 D_ev272 rfl]; rfl) (by decide) (by decide) ?_
    show G (T25.setTop (mkF m 281 #[.val (.int sz), .val (.int pp), .val (.int aa), .val (.int bb), .val (.int cc), .val (.int 2), .val (.ref ra), .val (.ref lk), .val (.ref pa), .val (.ref ag)] []))
    refine g_iload hG X25 hx (hb hby at_281) (pc' := 283) rfl rfl ?_
    show G (T25.setTop (mkF m 283 #[.val (.int sz), .val (.int pp), .val (.int aa), .val (.int bb), .val (.int cc), .val (.int 2), .val (.ref ra), .val (.ref lk), .val (.ref pa), .val (.ref ag)] [(.int 2)]))
    refine g_iconst hG X25 hx (hb hby at_283) (pc' := 284) rfl (v := (2 : Int32)) rfl ?_
    show G (T25.setTop (mkF m 284 #[.val (.int sz), .val (.int pp), .val (.int aa), .val (.int bb), .val (.int cc), .val (.int 2), .val (.ref ra), .val (.ref lk), .val (.ref pa), .val (.ref ag)] [(.int 2), (.int 2)]))
    refine g_icmpYes hG X25 hx (hb hby at_284) (pc' := 303) (by decide) (by decide) (by decide) ?_
    show G (T25.setTop (mkF m 303 #[.val (.int sz), .val (.int pp), .val (.int aa), .val (.int bb), .val (.int cc), .val (.int 2), .val (.ref ra), .val (.ref lk), .val (.ref pa), .val (.ref ag)] []))
    refine g_iconst hG X25 hx (hb hby at_303) (pc' := 304) rfl (v := (1 : Int32)) rfl ?_
    show G (T25.setTop (mkF m 304 #[.val (.int sz), .val (.int pp), .val (.int aa), .val (.int bb), .val (.int cc), .val (.int 2), .val (.ref ra), .val (.ref lk), .val (.ref pa), .val (.ref ag)] [(.int 1)]))
    exact e_retZ hGe X25 hx hrt hlk (hb hby at_304) (Or.inr rfl) eh25 (by decide) (by decide) (⟨rfl, NF25⟩)
  · skip
    show G (s₁.setTop (mkF m 5 #[.val (.int sz), .val (.int pp), .val (.int aa), .val (.int bb), .val (.int cc), .val (.int 3), .unset, .unset, .unset, .unset] []))
    refine g_iload hG X0 hx (hb hby at_5) (pc' := 7) rfl rfl ?_
    show G (s₁.setTop (mkF m 7 #[.val (.int sz), .val (.int pp), .val (.int aa), .val (.int bb), .val (.int cc), .val (.int 3), .unset, .unset, .unset, .unset] [(.int 3)]))
    refine g_newP hG X0 hx hZ (wd hw 0 rfl) e0 (hb hby at_7) (by decide) 3 (by decide) (by decide) (by decide) (by decide) (pc' := 9) rfl ?_
    intro T26 h26 ra kA26 gs26 X26 e26 E26 A26
    have ge_ra : n0 ≤ ra := gs26 ▸ Zs
    have Zs := Nat.le_trans Zs E26.1
    have V_ra : AV Z h26 ra .double (3 : Int32) [(.double 0), (.double 0), (.double 0)] := AV.new A26
    show G (T26.setTop (mkF m 9 #[.val (.int sz), .val (.int pp), .val (.int aa), .val (.int bb), .val (.int cc), .val (.int 3), .unset, .unset, .unset, .unset] [(.ref ra)]))
    refine g_astore hG X26 hx (hb hby at_9) (pc' := 11) rfl rfl (Ls' := #[.val (.int sz), .val (.int pp), .val (.int aa), .val (.int bb), .val (.int cc), .val (.int 3), .val (.ref ra), .unset, .unset, .unset]) rfl ?_
    show G (T26.setTop (mkF m 11 #[.val (.int sz), .val (.int pp), .val (.int aa), .val (.int bb), .val (.int cc), .val (.int 3), .val (.ref ra), .unset, .unset, .unset] []))
    refine g_iload hG X26 hx (hb hby at_11) (pc' := 13) rfl rfl ?_
    show G (T26.setTop (mkF m 13 #[.val (.int sz), .val (.int pp), .val (.int aa), .val (.int bb), .val (.int cc), .val (.int 3), .val (.ref ra), .unset, .unset, .unset] [(.int 3)]))
    refine g_ifNo hG X26 hx (hb hby at_13) (pc' := 16) (by decide) rfl ?_
    show G (T26.setTop (mkF m 16 #[.val (.int sz), .val (.int pp), .val (.int aa), .val (.int bb), .val (.int cc), .val (.int 3), .val (.ref ra), .unset, .unset, .unset] []))
    refine g_aload hG X26 hx (hb hby at_16) (pc' := 18) rfl rfl rfl ?_
    show G (T26.setTop (mkF m 18 #[.val (.int sz), .val (.int pp), .val (.int aa), .val (.int bb), .val (.int cc), .val (.int 3), .val (.ref ra), .unset, .unset, .unset] [(.ref ra)]))
    refine g_iconst hG X26 hx (hb hby at_18) (pc' := 19) rfl (v := (0 : Int32)) rfl ?_
    show G (T26.setTop (mkF m 19 #[.val (.int sz), .val (.int pp), .val (.int aa), .val (.int bb), .val (.int cc), .val (.int 3), .val (.ref ra), .unset, .unset, .unset] [(.int 0), (.ref ra)]))
    refine g_iloadN hG X26 hx (hb hby at_19) (pc' := 20) rfl rfl ?_
    show G (T26.setTop (mkF m 20 #[.val (.int sz), .val (.int pp), .val (.int aa), .val (.int bb), .val (.int cc), .val (.int 3), .val (.ref ra), .unset, .unset, .unset] [(.int aa), (.int 0), (.ref ra)]))
    obtain ⟨v20, q20⟩ : ∃ z : UInt64, FP.i2d aa = z := ⟨_, rfl⟩
    refine g_i2d hG X26 hx (hb hby at_20) (pc' := 21) rfl q20 ?_
    have D_v20 : OwnFl.DV v20 ((aa.toInt : Int) : Rat) := by rw [← q20]; exact OwnFl.i2d_DV aa
    show G (T26.setTop (mkF m 21 #[.val (.int sz), .val (.int pp), .val (.int aa), .val (.int bb), .val (.int cc), .val (.int 3), .val (.ref ra), .unset, .unset, .unset] [(.double v20), (.int 0), (.ref ra)]))
    refine g_dastore hG X26 hx hZ e26 V_ra (j := (0 : Int32)) (by decide) (show Int32.toNatClampNeg (0 : Int32) < 3 by decide) (hb hby at_21) (pc' := 22) rfl ?_
    intro T27 h27 X27 e27 W27 Vn27
    have V_ra : AV Z h27 ra .double (3 : Int32) [(.double v20), (.double 0), (.double 0)] := Vn27
    have Zs := Nat.le_trans Zs (Wr.size W27)
    have NF27 := Fr.snoc X27 NF0 ge_ra
    show G (T27.setTop (mkF m 22 #[.val (.int sz), .val (.int pp), .val (.int aa), .val (.int bb), .val (.int cc), .val (.int 3), .val (.ref ra), .unset, .unset, .unset] []))
    refine g_iload hG X27 hx (hb hby at_22) (pc' := 24) rfl rfl ?_
    show G (T27.setTop (mkF m 24 #[.val (.int sz), .val (.int pp), .val (.int aa), .val (.int bb), .val (.int cc), .val (.int 3), .val (.ref ra), .unset, .unset, .unset] [(.int 3)]))
    refine g_iconst hG X27 hx (hb hby at_24) (pc' := 25) rfl (v := (1 : Int32)) rfl ?_
    show G (T27.setTop (mkF m 25 #[.val (.int sz), .val (.int pp), .val (.int aa), .val (.int bb), .val (.int cc), .val (.int 3), .val (.ref ra), .unset, .unset, .unset] [(.int 1), (.int 3)]))
    refine g_icmpNo hG X27 hx (hb hby at_25) (pc' := 28) (by decide) rfl ?_
    show G (T27.setTop (mkF m 28 #[.val (.int sz), .val (.int pp), .val (.int aa), .val (.int bb), .val (.int cc), .val (.int 3), .val (.ref ra), .unset, .unset, .unset] []))
    refine g_aload hG X27 hx (hb hby at_28) (pc' := 30) rfl rfl rfl ?_
    show G (T27.setTop (mkF m 30 #[.val (.int sz), .val (.int pp), .val (.int aa), .val (.int bb), .val (.int cc), .val (.int 3), .val (.ref ra), .unset, .unset, .unset] [(.ref ra)]))
    refine g_iconst hG X27 hx (hb hby at_30) (pc' := 31) rfl (v := (1 : Int32)) rfl ?_
    show G (T27.setTop (mkF m 31 #[.val (.int sz), .val (.int pp), .val (.int aa), .val (.int bb), .val (.int cc), .val (.int 3), .val (.ref ra), .unset, .unset, .unset] [(.int 1), (.ref ra)]))
    refine g_iloadN hG X27 hx (hb hby at_31) (pc' := 32) rfl rfl ?_
    show G (T27.setTop (mkF m 32 #[.val (.int sz), .val (.int pp), .val (.int aa), .val (.int bb), .val (.int cc), .val (.int 3), .val (.ref ra), .unset, .unset, .unset] [(.int bb), (.int 1), (.ref ra)]))
    obtain ⟨v32, q32⟩ : ∃ z : UInt64, FP.i2d bb = z := ⟨_, rfl⟩
    refine g_i2d hG X27 hx (hb hby at_32) (pc' := 33) rfl q32 ?_
    have D_v32 : OwnFl.DV v32 ((bb.toInt : Int) : Rat) := by rw [← q32]; exact OwnFl.i2d_DV bb
    show G (T27.setTop (mkF m 33 #[.val (.int sz), .val (.int pp), .val (.int aa), .val (.int bb), .val (.int cc), .val (.int 3), .val (.ref ra), .unset, .unset, .unset] [(.double v32), (.int 1), (.ref ra)]))
    refine g_dastore hG X27 hx hZ e27 V_ra (j := (1 : Int32)) (by decide) (show Int32.toNatClampNeg (1 : Int32) < 3 by decide) (hb hby at_33) (pc' := 34) rfl ?_
    intro T28 h28 X28 e28 W28 Vn28
    have V_ra : AV Z h28 ra .double (3 : Int32) [(.double v20), (.double v32), (.double 0)] := Vn28
    have Zs := Nat.le_trans Zs (Wr.size W28)
    have NF28 := Fr.snoc X28 NF27 ge_ra
    show G (T28.setTop (mkF m 34 #[.val (.int sz), .val (.int pp), .val (.int aa), .val (.int bb), .val (.int cc), .val (.int 3), .val (.ref ra), .unset, .unset, .unset] []))
    refine g_iload hG X28 hx (hb hby at_34) (pc' := 36) rfl rfl ?_
    show G (T28.setTop (mkF m 36 #[.val (.int sz), .val (.int pp), .val (.int aa), .val (.int bb), .val (.int cc), .val (.int 3), .val (.ref ra), .unset, .unset, .unset] [(.int 3)]))
    refine g_iconst hG X28 hx (hb hby at_36) (pc' := 37) rfl (v := (2 : Int32)) rfl ?_
    show G (T28.setTop (mkF m 37 #[.val (.int sz), .val (.int pp), .val (.int aa), .val (.int bb), .val (.int cc), .val (.int 3), .val (.ref ra), .unset, .unset, .unset] [(.int 2), (.int 3)]))
    refine g_icmpNo hG X28 hx (hb hby at_37) (pc' := 40) (by decide) rfl ?_
    show G (T28.setTop (mkF m 40 #[.val (.int sz), .val (.int pp), .val (.int aa), .val (.int bb), .val (.int cc), .val (.int 3), .val (.ref ra), .unset, .unset, .unset] []))
    refine g_aload hG X28 hx (hb hby at_40) (pc' := 42) rfl rfl rfl ?_
    show G (T28.setTop (mkF m 42 #[.val (.int sz), .val (.int pp), .val (.int aa), .val (.int bb), .val (.int cc), .val (.int 3), .val (.ref ra), .unset, .unset, .unset] [(.ref ra)]))
    refine g_iconst hG X28 hx (hb hby at_42) (pc' := 43) rfl (v := (2 : Int32)) rfl ?_
    show G (T28.setTop (mkF m 43 #[.val (.int sz), .val (.int pp), .val (.int aa), .val (.int bb), .val (.int cc), .val (.int 3), .val (.ref ra), .unset, .unset, .unset] [(.int 2), (.ref ra)]))
    refine g_iload hG X28 hx (hb hby at_43) (pc' := 45) rfl rfl ?_
    show G (T28.setTop (mkF m 45 #[.val (.int sz), .val (.int pp), .val (.int aa), .val (.int bb), .val (.int cc), .val (.int 3), .val (.ref ra), .unset, .unset, .unset] [(.int cc), (.int 2), (.ref ra)]))
    obtain ⟨v45, q45⟩ : ∃ z : UInt64, FP.i2d cc = z := ⟨_, rfl⟩
    refine g_i2d hG X28 hx (hb hby at_45) (pc' := 46) rfl q45 ?_
    have D_v45 : OwnFl.DV v45 ((cc.toInt : Int) : Rat) := by rw [← q45]; exact OwnFl.i2d_DV cc
    show G (T28.setTop (mkF m 46 #[.val (.int sz), .val (.int pp), .val (.int aa), .val (.int bb), .val (.int cc), .val (.int 3), .val (.ref ra), .unset, .unset, .unset] [(.double v45), (.int 2), (.ref ra)]))
    refine g_dastore hG X28 hx hZ e28 V_ra (j := (2 : Int32)) (by decide) (show Int32.toNatClampNeg (2 : Int32) < 3 by decide) (hb hby at_46) (pc' := 47) rfl ?_
    intro T29 h29 X29 e29 W29 Vn29
    have V_ra : AV Z h29 ra .double (3 : Int32) [(.double v20), (.double v32), (.double v45)] := Vn29
    have Zs := Nat.le_trans Zs (Wr.size W29)
    have NF29 := Fr.snoc X29 NF28 ge_ra
    show G (T29.setTop (mkF m 47 #[.val (.int sz), .val (.int pp), .val (.int aa), .val (.int bb), .val (.int cc), .val (.int 3), .val (.ref ra), .unset, .unset, .unset] []))
    refine g_newO hG X29 hx hZ hown (wd hw 1 rfl) (wd hw 2 rfl) (wd hw 3 rfl) e29 (hb hby at_47) (by decide) (by decide) (pc' := 50) rfl ?_
    intro T30 h30 lk gs30 X30 e30 E30 Aq30 Dq30
    have ne_ra_lk : ra ≠ lk := Nat.ne_of_lt (gs30 ▸ V_ra.lt)
    have ge_lk : n0 ≤ lk := gs30 ▸ Zs
    have Zs := Nat.le_trans Zs E30.1
    have V_ra := V_ra.ext E30
    have Ex_lk := Aq30
    have F_rates_lk : Fld Z h30 lk "com/example/flowmarket/flowmarket/game/PricedLink" "rates" "[D" .null := Dq30 (Or.inr (wd hw 11 rfl)) (ty := (.array .double)) (by decide)
    have F_price_lk : Fld Z h30 lk "com/example/flowmarket/flowmarket/game/PricedLink" "price" "D" (.double 0) := Dq30 (Or.inr (wd hw 13 rfl)) (ty := .double) (by decide)
    have F_cost_lk : Fld Z h30 lk "com/example/flowmarket/flowmarket/game/PricedLink" "cost" "D" (.double 0) := Dq30 (Or.inr (wd hw 15 rfl)) (ty := .double) (by decide)
    show G (T30.setTop (mkF m 50 #[.val (.int sz), .val (.int pp), .val (.int aa), .val (.int bb), .val (.int cc), .val (.int 3), .val (.ref ra), .unset, .unset, .unset] [(.ref lk)]))
    refine g_dup hG X30 hx (hb hby at_50) (pc' := 51) rfl rfl ?_
    show G (T30.setTop (mkF m 51 #[.val (.int sz), .val (.int pp), .val (.int aa), .val (.int bb), .val (.int cc), .val (.int 3), .val (.ref ra), .unset, .unset, .unset] [(.ref lk), (.ref lk)]))
    refine g_aload hG X30 hx (hb hby at_51) (pc' := 53) rfl rfl rfl ?_
    show G (T30.setTop (mkF m 53 #[.val (.int sz), .val (.int pp), .val (.int aa), .val (.int bb), .val (.int cc), .val (.int 3), .val (.ref ra), .unset, .unset, .unset] [(.ref ra), (.ref lk), (.ref lk)]))
    refine g_iloadN hG X30 hx (hb hby at_53) (pc' := 54) rfl rfl ?_
    show G (T30.setTop (mkF m 54 #[.val (.int sz), .val (.int pp), .val (.int aa), .val (.int bb), .val (.int cc), .val (.int 3), .val (.ref ra), .unset, .unset, .unset] [(.int pp), (.ref ra), (.ref lk), (.ref lk)]))
    obtain ⟨v54, q54⟩ : ∃ z : UInt64, FP.i2d pp = z := ⟨_, rfl⟩
    refine g_i2d hG X30 hx (hb hby at_54) (pc' := 55) rfl q54 ?_
    have D_v54 : OwnFl.DV v54 ((pp.toInt : Int) : Rat) := by rw [← q54]; exact OwnFl.i2d_DV pp
    show G (T30.setTop (mkF m 55 #[.val (.int sz), .val (.int pp), .val (.int aa), .val (.int bb), .val (.int cc), .val (.int 3), .val (.ref ra), .unset, .unset, .unset] [(.double v54), (.ref ra), (.ref lk), (.ref lk)]))
    refine g_dconst0 hG X30 hx (hb hby at_55) (pc' := 56) rfl (v := (0 : UInt64)) rfl ?_
    show G (T30.setTop (mkF m 56 #[.val (.int sz), .val (.int pp), .val (.int aa), .val (.int bb), .val (.int cc), .val (.int 3), .val (.ref ra), .unset, .unset, .unset] [(.double 0), (.double v54), (.ref ra), (.ref lk), (.ref lk)]))
    refine g_callI hG X30 hx hZ (y := (⟨"com/example/flowmarket/flowmarket/game/PricedLink", "<init>", "([DDD)V"⟩ : MethodName)) 1 rfl hown (wd hw 4 rfl) (wd hw 5 rfl) (wd hw 3 rfl) (wd hw 6 rfl) (by decide) (rmP l Z a0 hw [] lk ra v54 (0 : UInt64) h30 n0 Zs ge_lk Ex_lk F_rates_lk F_price_lk F_cost_lk) (by decide) (by decide) (by rw [hml]; rfl) pd_0 rfl (argsL := [(.ref ra), (.double v54), (.double 0)]) (rest := [(.ref lk)]) rfl rfl (Nat.le_of_eq rfl) (hb hby at_56) e30 (by decide) (by decide) (pc' := 59) rfl ?_
    intro T31 rv31 L31 X31 hQ31
    obtain ⟨rfl, Nq31, Kq31, Ex_lk, F_rates_lk, F_price_lk, F_cost_lk⟩ := hQ31
    have NF31 := Fr.app NF29 Nq31
    have V_ra := V_ra.keep Kq31 (ninS ne_ra_lk nin0)
    have Zs := Nat.le_trans Zs Kq31.1
    show G (T31.setTop (mkF m 59 #[.val (.int sz), .val (.int pp), .val (.int aa), .val (.int bb), .val (.int cc), .val (.int 3), .val (.ref ra), .unset, .unset, .unset] [(.ref lk)]))
    refine g_astore hG X31 hx (hb hby at_59) (pc' := 61) rfl rfl (Ls' := #[.val (.int sz), .val (.int pp), .val (.int aa), .val (.int bb), .val (.int cc), .val (.int 3), .val (.ref ra), .val (.ref lk), .unset, .unset]) rfl ?_
    show G (T31.setTop (mkF m 61 #[.val (.int sz), .val (.int pp), .val (.int aa), .val (.int bb), .val (.int cc), .val (.int 3), .val (.ref ra), .val (.ref lk), .unset, .unset] []))
    refine g_aload hG X31 hx (hb hby at_61) (pc' := 63) rfl rfl rfl ?_
    show G (T31.setTop (mkF m 63 #[.val (.int sz), .val (.int pp), .val (.int aa), .val (.int bb), .val (.int cc), .val (.int 3), .val (.ref ra), .val (.ref lk), .unset, .unset] [(.ref lk)]))
    obtain ⟨y0, hy0⟩ : ∃ z, FP.dmul v54 v20 = z := ⟨_, rfl⟩
    have D_y0 : OwnFl.DV y0 (OwnFl.RR ((pp.toInt * aa.toInt : Int) : Rat)) := by rw [← hy0, ← q54, ← q20]; exact own_pay pp aa
    obtain ⟨y1, hy1⟩ : ∃ z, FP.dmul v54 v32 = z := ⟨_, rfl⟩
    have D_y1 : OwnFl.DV y1 (OwnFl.RR ((pp.toInt * bb.toInt : Int) : Rat)) := by rw [← hy1, ← q54, ← q32]; exact own_pay pp bb
    obtain ⟨y2, hy2⟩ : ∃ z, FP.dmul v54 v45 = z := ⟨_, rfl⟩
    have D_y2 : OwnFl.DV y2 (OwnFl.RR ((pp.toInt * cc.toInt : Int) : Rat)) := by rw [← hy2, ← q54, ← q45]; exact own_pay pp cc
    refine g_callV hG X31 hx hZ (y := (⟨"com/example/flowmarket/flowmarket/game/PricedLink", "payments", "()[D"⟩ : MethodName)) 0 hown (wd hw 16 rfl) (wd hw 17 rfl) (wd hw 19 rfl) (wd hw 18 rfl) (wd hw 3 rfl) (wd hw 20 rfl) (by decide) (rmY3 l Z a0 hw [] lk ra v54 (0 : UInt64) v20 v32 v45 y0 y1 y2 T31.heap n0 Zs (Ne.symm ne_ra_lk) hy0 D_y0.noNaN hy1 D_y1.noNaN hy2 D_y2.noNaN Ex_lk F_rates_lk F_price_lk F_cost_lk V_ra) (by decide) (by decide) (by rw [hml]; rfl) pd_1 rfl (argsL := []) (rest := []) rfl rfl (Nat.le_of_eq rfl) (hb hby at_63) rfl Ex_lk (by decide) (by decide) (pc' := 66) rfl ?_
    intro T32 rv32 L32 X32 hQ32
    obtain ⟨pa, rfl, Nq32, Kq32, szq32, V_pa⟩ := hQ32
    have NF32 := Fr.app NF31 Nq32
    have ne_ra_pa : ra ≠ pa := Nat.ne_of_lt (Nat.lt_of_lt_of_le V_ra.lt szq32)
    have ne_lk_pa : lk ≠ pa := Nat.ne_of_lt (Nat.lt_of_lt_of_le Ex_lk.lt szq32)
    have ge_pa : n0 ≤ pa := Nat.le_trans Zs szq32
    have V_ra := V_ra.keep Kq32 nin0
    have Ex_lk := Ex_lk.keep Kq32
    have F_rates_lk := F_rates_lk.keep Kq32 nin0
    have F_price_lk := F_price_lk.keep Kq32 nin0
    have F_cost_lk := F_cost_lk.keep Kq32 nin0
    have Zs := Nat.le_trans Zs Kq32.1
    show G (T32.setTop (mkF m 66 #[.val (.int sz), .val (.int pp), .val (.int aa), .val (.int bb), .val (.int cc), .val (.int 3), .val (.ref ra), .val (.ref lk), .unset, .unset] [(.ref pa)]))
    refine g_astore hG X32 hx (hb hby at_66) (pc' := 68) rfl rfl (Ls' := #[.val (.int sz), .val (.int pp), .val (.int aa), .val (.int bb), .val (.int cc), .val (.int 3), .val (.ref ra), .val (.ref lk), .val (.ref pa), .unset]) rfl ?_
    show G (T32.setTop (mkF m 68 #[.val (.int sz), .val (.int pp), .val (.int aa), .val (.int bb), .val (.int cc), .val (.int 3), .val (.ref ra), .val (.ref lk), .val (.ref pa), .unset] []))
    refine g_aload hG X32 hx (hb hby at_68) (pc' := 70) rfl rfl rfl ?_
    show G (T32.setTop (mkF m 70 #[.val (.int sz), .val (.int pp), .val (.int aa), .val (.int bb), .val (.int cc), .val (.int 3), .val (.ref ra), .val (.ref lk), .val (.ref pa), .unset] [(.ref pa)]))
    refine g_ifnullNo hG X32 hx (hb hby at_70) (pc' := 73) rfl ?_
    show G (T32.setTop (mkF m 73 #[.val (.int sz), .val (.int pp), .val (.int aa), .val (.int bb), .val (.int cc), .val (.int 3), .val (.ref ra), .val (.ref lk), .val (.ref pa), .unset] []))
    refine g_aload hG X32 hx (hb hby at_73) (pc' := 75) rfl rfl rfl ?_
    show G (T32.setTop (mkF m 75 #[.val (.int sz), .val (.int pp), .val (.int aa), .val (.int bb), .val (.int cc), .val (.int 3), .val (.ref ra), .val (.ref lk), .val (.ref pa), .unset] [(.ref pa)]))
    refine g_aload hG X32 hx (hb hby at_75) (pc' := 77) rfl rfl rfl ?_
    show G (T32.setTop (mkF m 77 #[.val (.int sz), .val (.int pp), .val (.int aa), .val (.int bb), .val (.int cc), .val (.int 3), .val (.ref ra), .val (.ref lk), .val (.ref pa), .unset] [(.ref ra), (.ref pa)]))
    refine g_acmp hG X32 hx rfl rfl (hb hby at_77) (pc' := 80) (same := false) (decide_eq_false fun q => (Ne.symm ne_ra_pa) (Value.ref.inj q)) (by decide) (by decide) ?_
    show G (T32.setTop (mkF m 80 #[.val (.int sz), .val (.int pp), .val (.int aa), .val (.int bb), .val (.int cc), .val (.int 3), .val (.ref ra), .val (.ref lk), .val (.ref pa), .unset] []))
    refine g_aload hG X32 hx (hb hby at_80) (pc' := 82) rfl rfl rfl ?_
    show G (T32.setTop (mkF m 82 #[.val (.int sz), .val (.int pp), .val (.int aa), .val (.int bb), .val (.int cc), .val (.int 3), .val (.ref ra), .val (.ref lk), .val (.ref pa), .unset] [(.ref pa)]))
    refine g_arraylength hG X32 hx hZ rfl V_pa (hb hby at_82) (pc' := 83) rfl ?_
    show G (T32.setTop (mkF m 83 #[.val (.int sz), .val (.int pp), .val (.int aa), .val (.int bb), .val (.int cc), .val (.int 3), .val (.ref ra), .val (.ref lk), .val (.ref pa), .unset] [(.int 3)]))
    refine g_iload hG X32 hx (hb hby at_83) (pc' := 85) rfl rfl ?_
    show G (T32.setTop (mkF m 85 #[.val (.int sz), .val (.int pp), .val (.int aa), .val (.int bb), .val (.int cc), .val (.int 3), .val (.ref ra), .val (.ref lk), .val (.ref pa), .unset] [(.int 3), (.int 3)]))
    refine g_icmpYes hG X32 hx (hb hby at_85) (pc' := 90) (by decide) (by decide) (by decide) ?_
    show G (T32.setTop (mkF m 90 #[.val (.int sz), .val (.int pp), .val (.int aa), .val (.int bb), .val (.int cc), .val (.int 3), .val (.ref ra), .val (.ref lk), .val (.ref pa), .unset] []))
    refine g_iload hG X32 hx (hb hby at_90) (pc' := 92) rfl rfl ?_
    show G (T32.setTop (mkF m 92 #[.val (.int sz), .val (.int pp), .val (.int aa), .val (.int bb), .val (.int cc), .val (.int 3), .val (.ref ra), .val (.ref lk), .val (.ref pa), .unset] [(.int 3)]))
    refine g_ifNo hG X32 hx (hb hby at_92) (pc' := 95) (by decide) rfl ?_
    show G (T32.setTop (mkF m 95 #[.val (.int sz), .val (.int pp), .val (.int aa), .val (.int bb), .val (.int cc), .val (.int 3), .val (.ref ra), .val (.ref lk), .val (.ref pa), .unset] []))
    refine g_aload hG X32 hx (hb hby at_95) (pc' := 97) rfl rfl rfl ?_
    show G (T32.setTop (mkF m 97 #[.val (.int sz), .val (.int pp), .val (.int aa), .val (.int bb), .val (.int cc), .val (.int 3), .val (.ref ra), .val (.ref lk), .val (.ref pa), .unset] [(.ref pa)]))
    refine g_iconst hG X32 hx (hb hby at_97) (pc' := 98) rfl (v := (0 : Int32)) rfl ?_
    show G (T32.setTop (mkF m 98 #[.val (.int sz), .val (.int pp), .val (.int aa), .val (.int bb), .val (.int cc), .val (.int 3), .val (.ref ra), .val (.ref lk), .val (.ref pa), .unset] [(.int 0), (.ref pa)]))
    refine g_daload hG X32 hx hZ rfl V_pa (j := (0 : Int32)) (v := (.double y0)) (by decide) rfl (hb hby at_98) (pc' := 99) rfl ?_
    show G (T32.setTop (mkF m 99 #[.val (.int sz), .val (.int pp), .val (.int aa), .val (.int bb), .val (.int cc), .val (.int 3), .val (.ref ra), .val (.ref lk), .val (.ref pa), .unset] [(.double y0)]))
    refine g_iloadN hG X32 hx (hb hby at_99) (pc' := 100) rfl rfl ?_
    show G (T32.setTop (mkF m 100 #[.val (.int sz), .val (.int pp), .val (.int aa), .val (.int bb), .val (.int cc), .val (.int 3), .val (.ref ra), .val (.ref lk), .val (.ref pa), .unset] [(.int pp), (.double y0)]))
    refine g_iloadN hG X32 hx (hb hby at_100) (pc' := 101) rfl rfl ?_
    show G (T32.setTop (mkF m 101 #[.val (.int sz), .val (.int pp), .val (.int aa), .val (.int bb), .val (.int cc), .val (.int 3), .val (.ref ra), .val (.ref lk), .val (.ref pa), .unset] [(.int aa), (.int pp), (.double y0)]))
    obtain ⟨ev101, hev101⟩ : ∃ z, FP.l2d (pp.toInt64 * aa.toInt64) = z := ⟨_, rfl⟩
    have D_ev101 : OwnFl.DV ev101 (OwnFl.RR ((pp.toInt * aa.toInt : Int) : Rat)) := by rw [← hev101]; exact own_exp pp aa
    refine g_callS hG X32 hx hZ (y := (⟨"com/example/flowmarket/flowmarket/game/PricedLinkPaymentsPinLaw", "expect", "(II)D"⟩ : MethodName)) 2 hown (wd hw 21 rfl) (wd hw 22 rfl) (wd hw 23 rfl) (wd hw 24 rfl) (by decide) (rmE l Z a0 hw [] pp aa ev101 T32.heap n0 Zs hev101) (by decide) (by decide) (by rw [hml]; rfl) pd_2 rfl (argsL := [(.int pp), (.int aa)]) (rest := [(.double y0)]) rfl rfl (Nat.le_of_eq rfl) (hb hby at_101) rfl (by decide) (by decide) (pc' := 104) rfl ?_
    intro T33 rv33 L33 X33 hQ33
    obtain ⟨rfl, Nq33, eh33⟩ := hQ33
    have NF33 := Fr.app NF32 Nq33
    show G (T33.setTop (mkF m 104 #[.val (.int sz), .val (.int pp), .val (.int aa), .val (.int bb), .val (.int cc), .val (.int 3), .val (.ref ra), .val (.ref lk), .val (.ref pa), .unset] [(.double ev101), (.double y0)]))
    obtain ⟨v104, q104⟩ : ∃ z : Int32, cmpValue (FP.dcmp y0 ev101) .l = z := ⟨_, rfl⟩
    refine g_dcmp hG X33 hx (hb hby at_104) (pc' := 105) rfl q104 ?_
    show G (T33.setTop (mkF m 105 #[.val (.int sz), .val (.int pp), .val (.int aa), .val (.int bb), .val (.int cc), .val (.int 3), .val (.ref ra), .val (.ref lk), .val (.ref pa), .unset] [(.int v104)]))
    refine g_ifYes hG X33 hx (hb hby at_105) (pc' := 110) (by rw [← q104, OwnFl.dcmp_eq D_y0 D_ev101 rfl]; rfl) (by decide) (by decide) ?_
    show G (T33.setTop (mkF m 110 #[.val (.int sz), .val (.int pp), .val (.int aa), .val (.int bb), .val (.int cc), .val (.int 3), .val (.ref ra), .val (.ref lk), .val (.ref pa), .unset] []))
    refine g_iload hG X33 hx (hb hby at_110) (pc' := 112) rfl rfl ?_
    show G (T33.setTop (mkF m 112 #[.val (.int sz), .val (.int pp), .val (.int aa), .val (.int bb), .val (.int cc), .val (.int 3), .val (.ref ra), .val (.ref lk), .val (.ref pa), .unset] [(.int 3)]))
    refine g_iconst hG X33 hx (hb hby at_112) (pc' := 113) rfl (v := (1 : Int32)) rfl ?_
    show G (T33.setTop (mkF m 113 #[.val (.int sz), .val (.int pp), .val (.int aa), .val (.int bb), .val (.int cc), .val (.int 3), .val (.ref ra), .val (.ref lk), .val (.ref pa), .unset] [(.int 1), (.int 3)]))
    refine g_icmpNo hG X33 hx (hb hby at_113) (pc' := 116) (by decide) rfl ?_
    show G (T33.setTop (mkF m 116 #[.val (.int sz), .val (.int pp), .val (.int aa), .val (.int bb), .val (.int cc), .val (.int 3), .val (.ref ra), .val (.ref lk), .val (.ref pa), .unset] []))
    refine g_aload hG X33 hx (hb hby at_116) (pc' := 118) rfl rfl rfl ?_
    show G (T33.setTop (mkF m 118 #[.val (.int sz), .val (.int pp), .val (.int aa), .val (.int bb), .val (.int cc), .val (.int 3), .val (.ref ra), .val (.ref lk), .val (.ref pa), .unset] [(.ref pa)]))
    refine g_iconst hG X33 hx (hb hby at_118) (pc' := 119) rfl (v := (1 : Int32)) rfl ?_
    show G (T33.setTop (mkF m 119 #[.val (.int sz), .val (.int pp), .val (.int aa), .val (.int bb), .val (.int cc), .val (.int 3), .val (.ref ra), .val (.ref lk), .val (.ref pa), .unset] [(.int 1), (.ref pa)]))
    refine g_daload hG X33 hx hZ eh33 V_pa (j := (1 : Int32)) (v := (.double y1)) (by decide) rfl (hb hby at_119) (pc' := 120) rfl ?_
    show G (T33.setTop (mkF m 120 #[.val (.int sz), .val (.int pp), .val (.int aa), .val (.int bb), .val (.int cc), .val (.int 3), .val (.ref ra), .val (.ref lk), .val (.ref pa), .unset] [(.double y1)]))
    refine g_iloadN hG X33 hx (hb hby at_120) (pc' := 121) rfl rfl ?_
    show G (T33.setTop (mkF m 121 #[.val (.int sz), .val (.int pp), .val (.int aa), .val (.int bb), .val (.int cc), .val (.int 3), .val (.ref ra), .val (.ref lk), .val (.ref pa), .unset] [(.int pp), (.double y1)]))
    refine g_iloadN hG X33 hx (hb hby at_121) (pc' := 122) rfl rfl ?_
    show G (T33.setTop (mkF m 122 #[.val (.int sz), .val (.int pp), .val (.int aa), .val (.int bb), .val (.int cc), .val (.int 3), .val (.ref ra), .val (.ref lk), .val (.ref pa), .unset] [(.int bb), (.int pp), (.double y1)]))
    obtain ⟨ev122, hev122⟩ : ∃ z, FP.l2d (pp.toInt64 * bb.toInt64) = z := ⟨_, rfl⟩
    have D_ev122 : OwnFl.DV ev122 (OwnFl.RR ((pp.toInt * bb.toInt : Int) : Rat)) := by rw [← hev122]; exact own_exp pp bb
    refine g_callS hG X33 hx hZ (y := (⟨"com/example/flowmarket/flowmarket/game/PricedLinkPaymentsPinLaw", "expect", "(II)D"⟩ : MethodName)) 2 hown (wd hw 21 rfl) (wd hw 22 rfl) (wd hw 23 rfl) (wd hw 24 rfl) (by decide) (rmE l Z a0 hw [] pp bb ev122 T32.heap n0 Zs hev122) (by decide) (by decide) (by rw [hml]; rfl) pd_2 rfl (argsL := [(.int pp), (.int bb)]) (rest := [(.double y1)]) rfl rfl (Nat.le_of_eq rfl) (hb hby at_122) eh33 (by decide) (by decide) (pc' := 125) rfl ?_
    intro T34 rv34 L34 X34 hQ34
    obtain ⟨rfl, Nq34, eh34⟩ := hQ34
    have NF34 := Fr.app NF33 Nq34
    show G (T34.setTop (mkF m 125 #[.val (.int sz), .val (.int pp), .val (.int aa), .val (.int bb), .val (.int cc), .val (.int 3), .val (.ref ra), .val (.ref lk), .val (.ref pa), .unset] [(.double ev122), (.double y1)]))
    obtain ⟨v125, q125⟩ : ∃ z : Int32, cmpValue (FP.dcmp y1 ev122) .l = z := ⟨_, rfl⟩
    refine g_dcmp hG X34 hx (hb hby at_125) (pc' := 126) rfl q125 ?_
    show G (T34.setTop (mkF m 126 #[.val (.int sz), .val (.int pp), .val (.int aa), .val (.int bb), .val (.int cc), .val (.int 3), .val (.ref ra), .val (.ref lk), .val (.ref pa), .unset] [(.int v125)]))
    refine g_ifYes hG X34 hx (hb hby at_126) (pc' := 131) (by rw [← q125, OwnFl.dcmp_eq D_y1 D_ev122 rfl]; rfl) (by decide) (by decide) ?_
    show G (T34.setTop (mkF m 131 #[.val (.int sz), .val (.int pp), .val (.int aa), .val (.int bb), .val (.int cc), .val (.int 3), .val (.ref ra), .val (.ref lk), .val (.ref pa), .unset] []))
    refine g_iload hG X34 hx (hb hby at_131) (pc' := 133) rfl rfl ?_
    show G (T34.setTop (mkF m 133 #[.val (.int sz), .val (.int pp), .val (.int aa), .val (.int bb), .val (.int cc), .val (.int 3), .val (.ref ra), .val (.ref lk), .val (.ref pa), .unset] [(.int 3)]))
    refine g_iconst hG X34 hx (hb hby at_133) (pc' := 134) rfl (v := (2 : Int32)) rfl ?_
    show G (T34.setTop (mkF m 134 #[.val (.int sz), .val (.int pp), .val (.int aa), .val (.int bb), .val (.int cc), .val (.int 3), .val (.ref ra), .val (.ref lk), .val (.ref pa), .unset] [(.int 2), (.int 3)]))
    refine g_icmpNo hG X34 hx (hb hby at_134) (pc' := 137) (by decide) rfl ?_
    show G (T34.setTop (mkF m 137 #[.val (.int sz), .val (.int pp), .val (.int aa), .val (.int bb), .val (.int cc), .val (.int 3), .val (.ref ra), .val (.ref lk), .val (.ref pa), .unset] []))
    refine g_aload hG X34 hx (hb hby at_137) (pc' := 139) rfl rfl rfl ?_
    show G (T34.setTop (mkF m 139 #[.val (.int sz), .val (.int pp), .val (.int aa), .val (.int bb), .val (.int cc), .val (.int 3), .val (.ref ra), .val (.ref lk), .val (.ref pa), .unset] [(.ref pa)]))
    refine g_iconst hG X34 hx (hb hby at_139) (pc' := 140) rfl (v := (2 : Int32)) rfl ?_
    show G (T34.setTop (mkF m 140 #[.val (.int sz), .val (.int pp), .val (.int aa), .val (.int bb), .val (.int cc), .val (.int 3), .val (.ref ra), .val (.ref lk), .val (.ref pa), .unset] [(.int 2), (.ref pa)]))
    refine g_daload hG X34 hx hZ eh34 V_pa (j := (2 : Int32)) (v := (.double y2)) (by decide) rfl (hb hby at_140) (pc' := 141) rfl ?_
    show G (T34.setTop (mkF m 141 #[.val (.int sz), .val (.int pp), .val (.int aa), .val (.int bb), .val (.int cc), .val (.int 3), .val (.ref ra), .val (.ref lk), .val (.ref pa), .unset] [(.double y2)]))
    refine g_iloadN hG X34 hx (hb hby at_141) (pc' := 142) rfl rfl ?_
    show G (T34.setTop (mkF m 142 #[.val (.int sz), .val (.int pp), .val (.int aa), .val (.int bb), .val (.int cc), .val (.int 3), .val (.ref ra), .val (.ref lk), .val (.ref pa), .unset] [(.int pp), (.double y2)]))
    refine g_iload hG X34 hx (hb hby at_142) (pc' := 144) rfl rfl ?_
    show G (T34.setTop (mkF m 144 #[.val (.int sz), .val (.int pp), .val (.int aa), .val (.int bb), .val (.int cc), .val (.int 3), .val (.ref ra), .val (.ref lk), .val (.ref pa), .unset] [(.int cc), (.int pp), (.double y2)]))
    obtain ⟨ev144, hev144⟩ : ∃ z, FP.l2d (pp.toInt64 * cc.toInt64) = z := ⟨_, rfl⟩
    have D_ev144 : OwnFl.DV ev144 (OwnFl.RR ((pp.toInt * cc.toInt : Int) : Rat)) := by rw [← hev144]; exact own_exp pp cc
    refine g_callS hG X34 hx hZ (y := (⟨"com/example/flowmarket/flowmarket/game/PricedLinkPaymentsPinLaw", "expect", "(II)D"⟩ : MethodName)) 2 hown (wd hw 21 rfl) (wd hw 22 rfl) (wd hw 23 rfl) (wd hw 24 rfl) (by decide) (rmE l Z a0 hw [] pp cc ev144 T32.heap n0 Zs hev144) (by decide) (by decide) (by rw [hml]; rfl) pd_2 rfl (argsL := [(.int pp), (.int cc)]) (rest := [(.double y2)]) rfl rfl (Nat.le_of_eq rfl) (hb hby at_144) eh34 (by decide) (by decide) (pc' := 147) rfl ?_
    intro T35 rv35 L35 X35 hQ35
    obtain ⟨rfl, Nq35, eh35⟩ := hQ35
    have NF35 := Fr.app NF34 Nq35
    show G (T35.setTop (mkF m 147 #[.val (.int sz), .val (.int pp), .val (.int aa), .val (.int bb), .val (.int cc), .val (.int 3), .val (.ref ra), .val (.ref lk), .val (.ref pa), .unset] [(.double ev144), (.double y2)]))
    obtain ⟨v147, q147⟩ : ∃ z : Int32, cmpValue (FP.dcmp y2 ev144) .l = z := ⟨_, rfl⟩
    refine g_dcmp hG X35 hx (hb hby at_147) (pc' := 148) rfl q147 ?_
    show G (T35.setTop (mkF m 148 #[.val (.int sz), .val (.int pp), .val (.int aa), .val (.int bb), .val (.int cc), .val (.int 3), .val (.ref ra), .val (.ref lk), .val (.ref pa), .unset] [(.int v147)]))
    refine g_ifYes hG X35 hx (hb hby at_148) (pc' := 153) (by rw [← q147, OwnFl.dcmp_eq D_y2 D_ev144 rfl]; rfl) (by decide) (by decide) ?_
    show G (T35.setTop (mkF m 153 #[.val (.int sz), .val (.int pp), .val (.int aa), .val (.int bb), .val (.int cc), .val (.int 3), .val (.ref ra), .val (.ref lk), .val (.ref pa), .unset] []))
    refine g_iload hG X35 hx (hb hby at_153) (pc' := 155) rfl rfl ?_
    show G (T35.setTop (mkF m 155 #[.val (.int sz), .val (.int pp), .val (.int aa), .val (.int bb), .val (.int cc), .val (.int 3), .val (.ref ra), .val (.ref lk), .val (.ref pa), .unset] [(.int 3)]))
    refine g_ifNo hG X35 hx (hb hby at_155) (pc' := 158) (by decide) rfl ?_
    show G (T35.setTop (mkF m 158 #[.val (.int sz), .val (.int pp), .val (.int aa), .val (.int bb), .val (.int cc), .val (.int 3), .val (.ref ra), .val (.ref lk), .val (.ref pa), .unset] []))
    refine g_aload hG X35 hx (hb hby at_158) (pc' := 160) rfl rfl rfl ?_
    show G (T35.setTop (mkF m 160 #[.val (.int sz), .val (.int pp), .val (.int aa), .val (.int bb), .val (.int cc), .val (.int 3), .val (.ref ra), .val (.ref lk), .val (.ref pa), .unset] [(.ref ra)]))
    refine g_iconst hG X35 hx (hb hby at_160) (pc' := 161) rfl (v := (0 : Int32)) rfl ?_
    show G (T35.setTop (mkF m 161 #[.val (.int sz), .val (.int pp), .val (.int aa), .val (.int bb), .val (.int cc), .val (.int 3), .val (.ref ra), .val (.ref lk), .val (.ref pa), .unset] [(.int 0), (.ref ra)]))
    refine g_daload hG X35 hx hZ eh35 V_ra (j := (0 : Int32)) (v := (.double v20)) (by decide) rfl (hb hby at_161) (pc' := 162) rfl ?_
    show G (T35.setTop (mkF m 162 #[.val (.int sz), .val (.int pp), .val (.int aa), .val (.int bb), .val (.int cc), .val (.int 3), .val (.ref ra), .val (.ref lk), .val (.ref pa), .unset] [(.double v20)]))
    refine g_iloadN hG X35 hx (hb hby at_162) (pc' := 163) rfl rfl ?_
    show G (T35.setTop (mkF m 163 #[.val (.int sz), .val (.int pp), .val (.int aa), .val (.int bb), .val (.int cc), .val (.int 3), .val (.ref ra), .val (.ref lk), .val (.ref pa), .unset] [(.int aa), (.double v20)]))
    obtain ⟨v163, q163⟩ : ∃ z : UInt64, FP.i2d aa = z := ⟨_, rfl⟩
    refine g_i2d hG X35 hx (hb hby at_163) (pc' := 164) rfl q163 ?_
    have D_v163 : OwnFl.DV v163 ((aa.toInt : Int) : Rat) := by rw [← q163]; exact OwnFl.i2d_DV aa
    show G (T35.setTop (mkF m 164 #[.val (.int sz), .val (.int pp), .val (.int aa), .val (.int bb), .val (.int cc), .val (.int 3), .val (.ref ra), .val (.ref lk), .val (.ref pa), .unset] [(.double v163), (.double v20)]))
    obtain ⟨v164, q164⟩ : ∃ z : Int32, cmpValue (FP.dcmp v20 v163) .l = z := ⟨_, rfl⟩
    refine g_dcmp hG X35 hx (hb hby at_164) (pc' := 165) rfl q164 ?_
    show G (T35.setTop (mkF m 165 #[.val (.int sz), .val (.int pp), .val (.int aa), .val (.int bb), .val (.int cc), .val (.int 3), .val (.ref ra), .val (.ref lk), .val (.ref pa), .unset] [(.int v164)]))
    refine g_ifYes hG X35 hx (hb hby at_165) (pc' := 170) (by rw [← q164, OwnFl.dcmp_eq D_v20 D_v163 rfl]; rfl) (by decide) (by decide) ?_
    show G (T35.setTop (mkF m 170 #[.val (.int sz), .val (.int pp), .val (.int aa), .val (.int bb), .val (.int cc), .val (.int 3), .val (.ref ra), .val (.ref lk), .val (.ref pa), .unset] []))
    refine g_iload hG X35 hx (hb hby at_170) (pc' := 172) rfl rfl ?_
    show G (T35.setTop (mkF m 172 #[.val (.int sz), .val (.int pp), .val (.int aa), .val (.int bb), .val (.int cc), .val (.int 3), .val (.ref ra), .val (.ref lk), .val (.ref pa), .unset] [(.int 3)]))
    refine g_iconst hG X35 hx (hb hby at_172) (pc' := 173) rfl (v := (1 : Int32)) rfl ?_
    show G (T35.setTop (mkF m 173 #[.val (.int sz), .val (.int pp), .val (.int aa), .val (.int bb), .val (.int cc), .val (.int 3), .val (.ref ra), .val (.ref lk), .val (.ref pa), .unset] [(.int 1), (.int 3)]))
    refine g_icmpNo hG X35 hx (hb hby at_173) (pc' := 176) (by decide) rfl ?_
    show G (T35.setTop (mkF m 176 #[.val (.int sz), .val (.int pp), .val (.int aa), .val (.int bb), .val (.int cc), .val (.int 3), .val (.ref ra), .val (.ref lk), .val (.ref pa), .unset] []))
    refine g_aload hG X35 hx (hb hby at_176) (pc' := 178) rfl rfl rfl ?_
    show G (T35.setTop (mkF m 178 #[.val (.int sz), .val (.int pp), .val (.int aa), .val (.int bb), .val (.int cc), .val (.int 3), .val (.ref ra), .val (.ref lk), .val (.ref pa), .unset] [(.ref ra)]))
    refine g_iconst hG X35 hx (hb hby at_178) (pc' := 179) rfl (v := (1 : Int32)) rfl ?_
    show G (T35.setTop (mkF m 179 #[.val (.int sz), .val (.int pp), .val (.int aa), .val (.int bb), .val (.int cc), .val (.int 3), .val (.ref ra), .val (.ref lk), .val (.ref pa), .unset] [(.int 1), (.ref ra)]))
    refine g_daload hG X35 hx hZ eh35 V_ra (j := (1 : Int32)) (v := (.double v32)) (by decide) rfl (hb hby at_179) (pc' := 180) rfl ?_
    show G (T35.setTop (mkF m 180 #[.val (.int sz), .val (.int pp), .val (.int aa), .val (.int bb), .val (.int cc), .val (.int 3), .val (.ref ra), .val (.ref lk), .val (.ref pa), .unset] [(.double v32)]))
    refine g_iloadN hG X35 hx (hb hby at_180) (pc' := 181) rfl rfl ?_
    show G (T35.setTop (mkF m 181 #[.val (.int sz), .val (.int pp), .val (.int aa), .val (.int bb), .val (.int cc), .val (.int 3), .val (.ref ra), .val (.ref lk), .val (.ref pa), .unset] [(.int bb), (.double v32)]))
    obtain ⟨v181, q181⟩ : ∃ z : UInt64, FP.i2d bb = z := ⟨_, rfl⟩
    refine g_i2d hG X35 hx (hb hby at_181) (pc' := 182) rfl q181 ?_
    have D_v181 : OwnFl.DV v181 ((bb.toInt : Int) : Rat) := by rw [← q181]; exact OwnFl.i2d_DV bb
    show G (T35.setTop (mkF m 182 #[.val (.int sz), .val (.int pp), .val (.int aa), .val (.int bb), .val (.int cc), .val (.int 3), .val (.ref ra), .val (.ref lk), .val (.ref pa), .unset] [(.double v181), (.double v32)]))
    obtain ⟨v182, q182⟩ : ∃ z : Int32, cmpValue (FP.dcmp v32 v181) .l = z := ⟨_, rfl⟩
    refine g_dcmp hG X35 hx (hb hby at_182) (pc' := 183) rfl q182 ?_
    show G (T35.setTop (mkF m 183 #[.val (.int sz), .val (.int pp), .val (.int aa), .val (.int bb), .val (.int cc), .val (.int 3), .val (.ref ra), .val (.ref lk), .val (.ref pa), .unset] [(.int v182)]))
    refine g_ifYes hG X35 hx (hb hby at_183) (pc' := 188) (by rw [← q182, OwnFl.dcmp_eq D_v32 D_v181 rfl]; rfl) (by decide) (by decide) ?_
    show G (T35.setTop (mkF m 188 #[.val (.int sz), .val (.int pp), .val (.int aa), .val (.int bb), .val (.int cc), .val (.int 3), .val (.ref ra), .val (.ref lk), .val (.ref pa), .unset] []))
    refine g_iload hG X35 hx (hb hby at_188) (pc' := 190) rfl rfl ?_
    show G (T35.setTop (mkF m 190 #[.val (.int sz), .val (.int pp), .val (.int aa), .val (.int bb), .val (.int cc), .val (.int 3), .val (.ref ra), .val (.ref lk), .val (.ref pa), .unset] [(.int 3)]))
    refine g_iconst hG X35 hx (hb hby at_190) (pc' := 191) rfl (v := (2 : Int32)) rfl ?_
    show G (T35.setTop (mkF m 191 #[.val (.int sz), .val (.int pp), .val (.int aa), .val (.int bb), .val (.int cc), .val (.int 3), .val (.ref ra), .val (.ref lk), .val (.ref pa), .unset] [(.int 2), (.int 3)]))
    refine g_icmpNo hG X35 hx (hb hby at_191) (pc' := 194) (by decide) rfl ?_
    show G (T35.setTop (mkF m 194 #[.val (.int sz), .val (.int pp), .val (.int aa), .val (.int bb), .val (.int cc), .val (.int 3), .val (.ref ra), .val (.ref lk), .val (.ref pa), .unset] []))
    refine g_aload hG X35 hx (hb hby at_194) (pc' := 196) rfl rfl rfl ?_
    show G (T35.setTop (mkF m 196 #[.val (.int sz), .val (.int pp), .val (.int aa), .val (.int bb), .val (.int cc), .val (.int 3), .val (.ref ra), .val (.ref lk), .val (.ref pa), .unset] [(.ref ra)]))
    refine g_iconst hG X35 hx (hb hby at_196) (pc' := 197) rfl (v := (2 : Int32)) rfl ?_
    show G (T35.setTop (mkF m 197 #[.val (.int sz), .val (.int pp), .val (.int aa), .val (.int bb), .val (.int cc), .val (.int 3), .val (.ref ra), .val (.ref lk), .val (.ref pa), .unset] [(.int 2), (.ref ra)]))
    refine g_daload hG X35 hx hZ eh35 V_ra (j := (2 : Int32)) (v := (.double v45)) (by decide) rfl (hb hby at_197) (pc' := 198) rfl ?_
    show G (T35.setTop (mkF m 198 #[.val (.int sz), .val (.int pp), .val (.int aa), .val (.int bb), .val (.int cc), .val (.int 3), .val (.ref ra), .val (.ref lk), .val (.ref pa), .unset] [(.double v45)]))
    refine g_iload hG X35 hx (hb hby at_198) (pc' := 200) rfl rfl ?_
    show G (T35.setTop (mkF m 200 #[.val (.int sz), .val (.int pp), .val (.int aa), .val (.int bb), .val (.int cc), .val (.int 3), .val (.ref ra), .val (.ref lk), .val (.ref pa), .unset] [(.int cc), (.double v45)]))
    obtain ⟨v200, q200⟩ : ∃ z : UInt64, FP.i2d cc = z := ⟨_, rfl⟩
    refine g_i2d hG X35 hx (hb hby at_200) (pc' := 201) rfl q200 ?_
    have D_v200 : OwnFl.DV v200 ((cc.toInt : Int) : Rat) := by rw [← q200]; exact OwnFl.i2d_DV cc
    show G (T35.setTop (mkF m 201 #[.val (.int sz), .val (.int pp), .val (.int aa), .val (.int bb), .val (.int cc), .val (.int 3), .val (.ref ra), .val (.ref lk), .val (.ref pa), .unset] [(.double v200), (.double v45)]))
    obtain ⟨v201, q201⟩ : ∃ z : Int32, cmpValue (FP.dcmp v45 v200) .l = z := ⟨_, rfl⟩
    refine g_dcmp hG X35 hx (hb hby at_201) (pc' := 202) rfl q201 ?_
    show G (T35.setTop (mkF m 202 #[.val (.int sz), .val (.int pp), .val (.int aa), .val (.int bb), .val (.int cc), .val (.int 3), .val (.ref ra), .val (.ref lk), .val (.ref pa), .unset] [(.int v201)]))
    refine g_ifYes hG X35 hx (hb hby at_202) (pc' := 207) (by rw [← q201, OwnFl.dcmp_eq D_v45 D_v200 rfl]; rfl) (by decide) (by decide) ?_
    show G (T35.setTop (mkF m 207 #[.val (.int sz), .val (.int pp), .val (.int aa), .val (.int bb), .val (.int cc), .val (.int 3), .val (.ref ra), .val (.ref lk), .val (.ref pa), .unset] []))
    refine g_iload hG X35 hx (hb hby at_207) (pc' := 209) rfl rfl ?_
    show G (T35.setTop (mkF m 209 #[.val (.int sz), .val (.int pp), .val (.int aa), .val (.int bb), .val (.int cc), .val (.int 3), .val (.ref ra), .val (.ref lk), .val (.ref pa), .unset] [(.int 3)]))
    refine g_ifNo hG X35 hx (hb hby at_209) (pc' := 212) (by decide) rfl ?_
    show G (T35.setTop (mkF m 212 #[.val (.int sz), .val (.int pp), .val (.int aa), .val (.int bb), .val (.int cc), .val (.int 3), .val (.ref ra), .val (.ref lk), .val (.ref pa), .unset] []))
    refine g_aload hG X35 hx (hb hby at_212) (pc' := 214) rfl rfl rfl ?_
    show G (T35.setTop (mkF m 214 #[.val (.int sz), .val (.int pp), .val (.int aa), .val (.int bb), .val (.int cc), .val (.int 3), .val (.ref ra), .val (.ref lk), .val (.ref pa), .unset] [(.ref pa)]))
    refine g_iconst hG X35 hx (hb hby at_214) (pc' := 215) rfl (v := (0 : Int32)) rfl ?_
    show G (T35.setTop (mkF m 215 #[.val (.int sz), .val (.int pp), .val (.int aa), .val (.int bb), .val (.int cc), .val (.int 3), .val (.ref ra), .val (.ref lk), .val (.ref pa), .unset] [(.int 0), (.ref pa)]))
    refine g_ldcDouble hG X35 hx hZ hown (wd hw 25 rfl) (hb hby at_215) (pc' := 218) rfl ?_
    show G (T35.setTop (mkF m 218 #[.val (.int sz), .val (.int pp), .val (.int aa), .val (.int bb), .val (.int cc), .val (.int 3), .val (.ref ra), .val (.ref lk), .val (.ref pa), .unset] [(.double 4602678819172646912), (.int 0), (.ref pa)]))
    refine g_dastore hG X35 hx hZ eh35 V_pa (j := (0 : Int32)) (by decide) (show Int32.toNatClampNeg (0 : Int32) < 3 by decide) (hb hby at_218) (pc' := 219) rfl ?_
    intro T36 h36 X36 e36 W36 Vn36
    have V_pa : AV Z h36 pa .double (3 : Int32) [(.double 4602678819172646912), (.double y1), (.double y2)] := Vn36
    have V_ra := V_ra.other W36 ne_ra_pa
    have Ex_lk := Ex_lk.wr W36
    have F_rates_lk := F_rates_lk.other W36 (Or.inl ne_lk_pa)
    have F_price_lk := F_price_lk.other W36 (Or.inl ne_lk_pa)
    have F_cost_lk := F_cost_lk.other W36 (Or.inl ne_lk_pa)
    have Zs := Nat.le_trans Zs (Wr.size W36)
    have NF36 := Fr.snoc X36 NF35 ge_pa
    show G (T36.setTop (mkF m 219 #[.val (.int sz), .val (.int pp), .val (.int aa), .val (.int bb), .val (.int cc), .val (.int 3), .val (.ref ra), .val (.ref lk), .val (.ref pa), .unset] []))
    refine g_iload hG X36 hx (hb hby at_219) (pc' := 221) rfl rfl ?_
    show G (T36.setTop (mkF m 221 #[.val (.int sz), .val (.int pp), .val (.int aa), .val (.int bb), .val (.int cc), .val (.int 3), .val (.ref ra), .val (.ref lk), .val (.ref pa), .unset] [(.int 3)]))
    refine g_iconst hG X36 hx (hb hby at_221) (pc' := 222) rfl (v := (2 : Int32)) rfl ?_
    show G (T36.setTop (mkF m 222 #[.val (.int sz), .val (.int pp), .val (.int aa), .val (.int bb), .val (.int cc), .val (.int 3), .val (.ref ra), .val (.ref lk), .val (.ref pa), .unset] [(.int 2), (.int 3)]))
    refine g_icmpNo hG X36 hx (hb hby at_222) (pc' := 225) (by decide) rfl ?_
    show G (T36.setTop (mkF m 225 #[.val (.int sz), .val (.int pp), .val (.int aa), .val (.int bb), .val (.int cc), .val (.int 3), .val (.ref ra), .val (.ref lk), .val (.ref pa), .unset] []))
    refine g_aload hG X36 hx (hb hby at_225) (pc' := 227) rfl rfl rfl ?_
    show G (T36.setTop (mkF m 227 #[.val (.int sz), .val (.int pp), .val (.int aa), .val (.int bb), .val (.int cc), .val (.int 3), .val (.ref ra), .val (.ref lk), .val (.ref pa), .unset] [(.ref pa)]))
    refine g_iconst hG X36 hx (hb hby at_227) (pc' := 228) rfl (v := (2 : Int32)) rfl ?_
    show G (T36.setTop (mkF m 228 #[.val (.int sz), .val (.int pp), .val (.int aa), .val (.int bb), .val (.int cc), .val (.int 3), .val (.ref ra), .val (.ref lk), .val (.ref pa), .unset] [(.int 2), (.ref pa)]))
    refine g_ldcDouble hG X36 hx hZ hown (wd hw 25 rfl) (hb hby at_228) (pc' := 231) rfl ?_
    show G (T36.setTop (mkF m 231 #[.val (.int sz), .val (.int pp), .val (.int aa), .val (.int bb), .val (.int cc), .val (.int 3), .val (.ref ra), .val (.ref lk), .val (.ref pa), .unset] [(.double 4602678819172646912), (.int 2), (.ref pa)]))
    refine g_dastore hG X36 hx hZ e36 V_pa (j := (2 : Int32)) (by decide) (show Int32.toNatClampNeg (2 : Int32) < 3 by decide) (hb hby at_231) (pc' := 232) rfl ?_
    intro T37 h37 X37 e37 W37 Vn37
    have V_pa : AV Z h37 pa .double (3 : Int32) [(.double 4602678819172646912), (.double y1), (.double 4602678819172646912)] := Vn37
    have V_ra := V_ra.other W37 ne_ra_pa
    have Ex_lk := Ex_lk.wr W37
    have F_rates_lk := F_rates_lk.other W37 (Or.inl ne_lk_pa)
    have F_price_lk := F_price_lk.other W37 (Or.inl ne_lk_pa)
    have F_cost_lk := F_cost_lk.other W37 (Or.inl ne_lk_pa)
    have Zs := Nat.le_trans Zs (Wr.size W37)
    have NF37 := Fr.snoc X37 NF36 ge_pa
    show G (T37.setTop (mkF m 232 #[.val (.int sz), .val (.int pp), .val (.int aa), .val (.int bb), .val (.int cc), .val (.int 3), .val (.ref ra), .val (.ref lk), .val (.ref pa), .unset] []))
    refine g_aload hG X37 hx (hb hby at_232) (pc' := 234) rfl rfl rfl ?_
    show G (T37.setTop (mkF m 234 #[.val (.int sz), .val (.int pp), .val (.int aa), .val (.int bb), .val (.int cc), .val (.int 3), .val (.ref ra), .val (.ref lk), .val (.ref pa), .unset] [(.ref lk)]))
    refine g_callV hG X37 hx hZ (y := (⟨"com/example/flowmarket/flowmarket/game/PricedLink", "payments", "()[D"⟩ : MethodName)) 0 hown (wd hw 16 rfl) (wd hw 17 rfl) (wd hw 19 rfl) (wd hw 18 rfl) (wd hw 3 rfl) (wd hw 20 rfl) (by decide) (rmY3 l Z a0 hw [] lk ra v54 (0 : UInt64) v20 v32 v45 y0 y1 y2 h37 n0 Zs (Ne.symm ne_ra_lk) hy0 D_y0.noNaN hy1 D_y1.noNaN hy2 D_y2.noNaN Ex_lk F_rates_lk F_price_lk F_cost_lk V_ra) (by decide) (by decide) (by rw [hml]; rfl) pd_1 rfl (argsL := []) (rest := []) rfl rfl (Nat.le_of_eq rfl) (hb hby at_234) e37 Ex_lk (by decide) (by decide) (pc' := 237) rfl ?_
    intro T38 rv38 L38 X38 hQ38
    obtain ⟨ag, rfl, Nq38, Kq38, szq38, V_ag⟩ := hQ38
    have NF38 := Fr.app NF37 Nq38
    have ne_ra_ag : ra ≠ ag := Nat.ne_of_lt (Nat.lt_of_lt_of_le V_ra.lt szq38)
    have ne_lk_ag : lk ≠ ag := Nat.ne_of_lt (Nat.lt_of_lt_of_le Ex_lk.lt szq38)
    have ne_pa_ag : pa ≠ ag := Nat.ne_of_lt (Nat.lt_of_lt_of_le V_pa.lt szq38)
    have ge_ag : n0 ≤ ag := Nat.le_trans Zs szq38
    have V_ra := V_ra.keep Kq38 nin0
    have Ex_lk := Ex_lk.keep Kq38
    have F_rates_lk := F_rates_lk.keep Kq38 nin0
    have F_price_lk := F_price_lk.keep Kq38 nin0
    have F_cost_lk := F_cost_lk.keep Kq38 nin0
    have V_pa := V_pa.keep Kq38 nin0
    have Zs := Nat.le_trans Zs Kq38.1
    show G (T38.setTop (mkF m 237 #[.val (.int sz), .val (.int pp), .val (.int aa), .val (.int bb), .val (.int cc), .val (.int 3), .val (.ref ra), .val (.ref lk), .val (.ref pa), .unset] [(.ref ag)]))
    refine g_astore hG X38 hx (hb hby at_237) (pc' := 239) rfl rfl (Ls' := #[.val (.int sz), .val (.int pp), .val (.int aa), .val (.int bb), .val (.int cc), .val (.int 3), .val (.ref ra), .val (.ref lk), .val (.ref pa), .val (.ref ag)]) rfl ?_
    show G (T38.setTop (mkF m 239 #[.val (.int sz), .val (.int pp), .val (.int aa), .val (.int bb), .val (.int cc), .val (.int 3), .val (.ref ra), .val (.ref lk), .val (.ref pa), .val (.ref ag)] []))
    refine g_aload hG X38 hx (hb hby at_239) (pc' := 241) rfl rfl rfl ?_
    show G (T38.setTop (mkF m 241 #[.val (.int sz), .val (.int pp), .val (.int aa), .val (.int bb), .val (.int cc), .val (.int 3), .val (.ref ra), .val (.ref lk), .val (.ref pa), .val (.ref ag)] [(.ref ag)]))
    refine g_ifnullNo hG X38 hx (hb hby at_241) (pc' := 244) rfl ?_
    show G (T38.setTop (mkF m 244 #[.val (.int sz), .val (.int pp), .val (.int aa), .val (.int bb), .val (.int cc), .val (.int 3), .val (.ref ra), .val (.ref lk), .val (.ref pa), .val (.ref ag)] []))
    refine g_aload hG X38 hx (hb hby at_244) (pc' := 246) rfl rfl rfl ?_
    show G (T38.setTop (mkF m 246 #[.val (.int sz), .val (.int pp), .val (.int aa), .val (.int bb), .val (.int cc), .val (.int 3), .val (.ref ra), .val (.ref lk), .val (.ref pa), .val (.ref ag)] [(.ref ag)]))
    refine g_aload hG X38 hx (hb hby at_246) (pc' := 248) rfl rfl rfl ?_
    show G (T38.setTop (mkF m 248 #[.val (.int sz), .val (.int pp), .val (.int aa), .val (.int bb), .val (.int cc), .val (.int 3), .val (.ref ra), .val (.ref lk), .val (.ref pa), .val (.ref ag)] [(.ref ra), (.ref ag)]))
    refine g_acmp hG X38 hx rfl rfl (hb hby at_248) (pc' := 251) (same := false) (decide_eq_false fun q => (Ne.symm ne_ra_ag) (Value.ref.inj q)) (by decide) (by decide) ?_
    show G (T38.setTop (mkF m 251 #[.val (.int sz), .val (.int pp), .val (.int aa), .val (.int bb), .val (.int cc), .val (.int 3), .val (.ref ra), .val (.ref lk), .val (.ref pa), .val (.ref ag)] []))
    refine g_aload hG X38 hx (hb hby at_251) (pc' := 253) rfl rfl rfl ?_
    show G (T38.setTop (mkF m 253 #[.val (.int sz), .val (.int pp), .val (.int aa), .val (.int bb), .val (.int cc), .val (.int 3), .val (.ref ra), .val (.ref lk), .val (.ref pa), .val (.ref ag)] [(.ref ag)]))
    refine g_arraylength hG X38 hx hZ rfl V_ag (hb hby at_253) (pc' := 254) rfl ?_
    show G (T38.setTop (mkF m 254 #[.val (.int sz), .val (.int pp), .val (.int aa), .val (.int bb), .val (.int cc), .val (.int 3), .val (.ref ra), .val (.ref lk), .val (.ref pa), .val (.ref ag)] [(.int 3)]))
    refine g_iload hG X38 hx (hb hby at_254) (pc' := 256) rfl rfl ?_
    show G (T38.setTop (mkF m 256 #[.val (.int sz), .val (.int pp), .val (.int aa), .val (.int bb), .val (.int cc), .val (.int 3), .val (.ref ra), .val (.ref lk), .val (.ref pa), .val (.ref ag)] [(.int 3), (.int 3)]))
    refine g_icmpYes hG X38 hx (hb hby at_256) (pc' := 261) (by decide) (by decide) (by decide) ?_
    show G (T38.setTop (mkF m 261 #[.val (.int sz), .val (.int pp), .val (.int aa), .val (.int bb), .val (.int cc), .val (.int 3), .val (.ref ra), .val (.ref lk), .val (.ref pa), .val (.ref ag)] []))
    refine g_iload hG X38 hx (hb hby at_261) (pc' := 263) rfl rfl ?_
    show G (T38.setTop (mkF m 263 #[.val (.int sz), .val (.int pp), .val (.int aa), .val (.int bb), .val (.int cc), .val (.int 3), .val (.ref ra), .val (.ref lk), .val (.ref pa), .val (.ref ag)] [(.int 3)]))
    refine g_ifNo hG X38 hx (hb hby at_263) (pc' := 266) (by decide) rfl ?_
    show G (T38.setTop (mkF m 266 #[.val (.int sz), .val (.int pp), .val (.int aa), .val (.int bb), .val (.int cc), .val (.int 3), .val (.ref ra), .val (.ref lk), .val (.ref pa), .val (.ref ag)] []))
    refine g_aload hG X38 hx (hb hby at_266) (pc' := 268) rfl rfl rfl ?_
    show G (T38.setTop (mkF m 268 #[.val (.int sz), .val (.int pp), .val (.int aa), .val (.int bb), .val (.int cc), .val (.int 3), .val (.ref ra), .val (.ref lk), .val (.ref pa), .val (.ref ag)] [(.ref ag)]))
    refine g_iconst hG X38 hx (hb hby at_268) (pc' := 269) rfl (v := (0 : Int32)) rfl ?_
    show G (T38.setTop (mkF m 269 #[.val (.int sz), .val (.int pp), .val (.int aa), .val (.int bb), .val (.int cc), .val (.int 3), .val (.ref ra), .val (.ref lk), .val (.ref pa), .val (.ref ag)] [(.int 0), (.ref ag)]))
    refine g_daload hG X38 hx hZ rfl V_ag (j := (0 : Int32)) (v := (.double y0)) (by decide) rfl (hb hby at_269) (pc' := 270) rfl ?_
    show G (T38.setTop (mkF m 270 #[.val (.int sz), .val (.int pp), .val (.int aa), .val (.int bb), .val (.int cc), .val (.int 3), .val (.ref ra), .val (.ref lk), .val (.ref pa), .val (.ref ag)] [(.double y0)]))
    refine g_iloadN hG X38 hx (hb hby at_270) (pc' := 271) rfl rfl ?_
    show G (T38.setTop (mkF m 271 #[.val (.int sz), .val (.int pp), .val (.int aa), .val (.int bb), .val (.int cc), .val (.int 3), .val (.ref ra), .val (.ref lk), .val (.ref pa), .val (.ref ag)] [(.int pp), (.double y0)]))
    refine g_iloadN hG X38 hx (hb hby at_271) (pc' := 272) rfl rfl ?_
    show G (T38.setTop (mkF m 272 #[.val (.int sz), .val (.int pp), .val (.int aa), .val (.int bb), .val (.int cc), .val (.int 3), .val (.ref ra), .val (.ref lk), .val (.ref pa), .val (.ref ag)] [(.int aa), (.int pp), (.double y0)]))
    obtain ⟨ev272, hev272⟩ : ∃ z, FP.l2d (pp.toInt64 * aa.toInt64) = z := ⟨_, rfl⟩
    have D_ev272 : OwnFl.DV ev272 (OwnFl.RR ((pp.toInt * aa.toInt : Int) : Rat)) := by rw [← hev272]; exact own_exp pp aa
    refine g_callS hG X38 hx hZ (y := (⟨"com/example/flowmarket/flowmarket/game/PricedLinkPaymentsPinLaw", "expect", "(II)D"⟩ : MethodName)) 2 hown (wd hw 21 rfl) (wd hw 22 rfl) (wd hw 23 rfl) (wd hw 24 rfl) (by decide) (rmE l Z a0 hw [] pp aa ev272 T38.heap n0 Zs hev272) (by decide) (by decide) (by rw [hml]; rfl) pd_2 rfl (argsL := [(.int pp), (.int aa)]) (rest := [(.double y0)]) rfl rfl (Nat.le_of_eq rfl) (hb hby at_272) rfl (by decide) (by decide) (pc' := 275) rfl ?_
    intro T39 rv39 L39 X39 hQ39
    obtain ⟨rfl, Nq39, eh39⟩ := hQ39
    have NF39 := Fr.app NF38 Nq39
    show G (T39.setTop (mkF m 275 #[.val (.int sz), .val (.int pp), .val (.int aa), .val (.int bb), .val (.int cc), .val (.int 3), .val (.ref ra), .val (.ref lk), .val (.ref pa), .val (.ref ag)] [(.double ev272), (.double y0)]))
    obtain ⟨v275, q275⟩ : ∃ z : Int32, cmpValue (FP.dcmp y0 ev272) .l = z := ⟨_, rfl⟩
    refine g_dcmp hG X39 hx (hb hby at_275) (pc' := 276) rfl q275 ?_
    show G (T39.setTop (mkF m 276 #[.val (.int sz), .val (.int pp), .val (.int aa), .val (.int bb), .val (.int cc), .val (.int 3), .val (.ref ra), .val (.ref lk), .val (.ref pa), .val (.ref ag)] [(.int v275)]))
    refine g_ifYes hG X39 hx (hb hby at_276) (pc' := 281) (by rw [← q275, OwnFl.dcmp_eq D_y0 D_ev272 rfl]; rfl) (by decide) (by decide) ?_
    show G (T39.setTop (mkF m 281 #[.val (.int sz), .val (.int pp), .val (.int aa), .val (.int bb), .val (.int cc), .val (.int 3), .val (.ref ra), .val (.ref lk), .val (.ref pa), .val (.ref ag)] []))
    refine g_iload hG X39 hx (hb hby at_281) (pc' := 283) rfl rfl ?_
    show G (T39.setTop (mkF m 283 #[.val (.int sz), .val (.int pp), .val (.int aa), .val (.int bb), .val (.int cc), .val (.int 3), .val (.ref ra), .val (.ref lk), .val (.ref pa), .val (.ref ag)] [(.int 3)]))
    refine g_iconst hG X39 hx (hb hby at_283) (pc' := 284) rfl (v := (2 : Int32)) rfl ?_
    show G (T39.setTop (mkF m 284 #[.val (.int sz), .val (.int pp), .val (.int aa), .val (.int bb), .val (.int cc), .val (.int 3), .val (.ref ra), .val (.ref lk), .val (.ref pa), .val (.ref ag)] [(.int 2), (.int 3)]))
    refine g_icmpNo hG X39 hx (hb hby at_284) (pc' := 287) (by decide) rfl ?_
    show G (T39.setTop (mkF m 287 #[.val (.int sz), .val (.int pp), .val (.int aa), .val (.int bb), .val (.int cc), .val (.int 3), .val (.ref ra), .val (.ref lk), .val (.ref pa), .val (.ref ag)] []))
    refine g_aload hG X39 hx (hb hby at_287) (pc' := 289) rfl rfl rfl ?_
    show G (T39.setTop (mkF m 289 #[.val (.int sz), .val (.int pp), .val (.int aa), .val (.int bb), .val (.int cc), .val (.int 3), .val (.ref ra), .val (.ref lk), .val (.ref pa), .val (.ref ag)] [(.ref ag)]))
    refine g_iconst hG X39 hx (hb hby at_289) (pc' := 290) rfl (v := (2 : Int32)) rfl ?_
    show G (T39.setTop (mkF m 290 #[.val (.int sz), .val (.int pp), .val (.int aa), .val (.int bb), .val (.int cc), .val (.int 3), .val (.ref ra), .val (.ref lk), .val (.ref pa), .val (.ref ag)] [(.int 2), (.ref ag)]))
    refine g_daload hG X39 hx hZ eh39 V_ag (j := (2 : Int32)) (v := (.double y2)) (by decide) rfl (hb hby at_290) (pc' := 291) rfl ?_
    show G (T39.setTop (mkF m 291 #[.val (.int sz), .val (.int pp), .val (.int aa), .val (.int bb), .val (.int cc), .val (.int 3), .val (.ref ra), .val (.ref lk), .val (.ref pa), .val (.ref ag)] [(.double y2)]))
    refine g_iloadN hG X39 hx (hb hby at_291) (pc' := 292) rfl rfl ?_
    show G (T39.setTop (mkF m 292 #[.val (.int sz), .val (.int pp), .val (.int aa), .val (.int bb), .val (.int cc), .val (.int 3), .val (.ref ra), .val (.ref lk), .val (.ref pa), .val (.ref ag)] [(.int pp), (.double y2)]))
    refine g_iload hG X39 hx (hb hby at_292) (pc' := 294) rfl rfl ?_
    show G (T39.setTop (mkF m 294 #[.val (.int sz), .val (.int pp), .val (.int aa), .val (.int bb), .val (.int cc), .val (.int 3), .val (.ref ra), .val (.ref lk), .val (.ref pa), .val (.ref ag)] [(.int cc), (.int pp), (.double y2)]))
    obtain ⟨ev294, hev294⟩ : ∃ z, FP.l2d (pp.toInt64 * cc.toInt64) = z := ⟨_, rfl⟩
    have D_ev294 : OwnFl.DV ev294 (OwnFl.RR ((pp.toInt * cc.toInt : Int) : Rat)) := by rw [← hev294]; exact own_exp pp cc
    refine g_callS hG X39 hx hZ (y := (⟨"com/example/flowmarket/flowmarket/game/PricedLinkPaymentsPinLaw", "expect", "(II)D"⟩ : MethodName)) 2 hown (wd hw 21 rfl) (wd hw 22 rfl) (wd hw 23 rfl) (wd hw 24 rfl) (by decide) (rmE l Z a0 hw [] pp cc ev294 T38.heap n0 Zs hev294) (by decide) (by decide) (by rw [hml]; rfl) pd_2 rfl (argsL := [(.int pp), (.int cc)]) (rest := [(.double y2)]) rfl rfl (Nat.le_of_eq rfl) (hb hby at_294) eh39 (by decide) (by decide) (pc' := 297) rfl ?_
    intro T40 rv40 L40 X40 hQ40
    obtain ⟨rfl, Nq40, eh40⟩ := hQ40
    have NF40 := Fr.app NF39 Nq40
    show G (T40.setTop (mkF m 297 #[.val (.int sz), .val (.int pp), .val (.int aa), .val (.int bb), .val (.int cc), .val (.int 3), .val (.ref ra), .val (.ref lk), .val (.ref pa), .val (.ref ag)] [(.double ev294), (.double y2)]))
    obtain ⟨v297, q297⟩ : ∃ z : Int32, cmpValue (FP.dcmp y2 ev294) .l = z := ⟨_, rfl⟩
    refine g_dcmp hG X40 hx (hb hby at_297) (pc' := 298) rfl q297 ?_
    show G (T40.setTop (mkF m 298 #[.val (.int sz), .val (.int pp), .val (.int aa), .val (.int bb), .val (.int cc), .val (.int 3), .val (.ref ra), .val (.ref lk), .val (.ref pa), .val (.ref ag)] [(.int v297)]))
    refine g_ifYes hG X40 hx (hb hby at_298) (pc' := 303) (by rw [← q297, OwnFl.dcmp_eq D_y2 D_ev294 rfl]; rfl) (by decide) (by decide) ?_
    show G (T40.setTop (mkF m 303 #[.val (.int sz), .val (.int pp), .val (.int aa), .val (.int bb), .val (.int cc), .val (.int 3), .val (.ref ra), .val (.ref lk), .val (.ref pa), .val (.ref ag)] []))
    refine g_iconst hG X40 hx (hb hby at_303) (pc' := 304) rfl (v := (1 : Int32)) rfl ?_
    show G (T40.setTop (mkF m 304 #[.val (.int sz), .val (.int pp), .val (.int aa), .val (.int bb), .val (.int cc), .val (.int 3), .val (.ref ra), .val (.ref lk), .val (.ref pa), .val (.ref ag)] [(.int 1)]))
    exact e_retZ hGe X40 hx hrt hlk (hb hby at_304) (Or.inr rfl) eh40 (by decide) (by decide) (⟨rfl, NF40⟩)
set_option maxRecDepth 65536 in
set_option maxHeartbeats 40000000 in
theorem comes_1 {Post : Tables → Env → Array Value → State → Outcome → State → Prop} (hpost : ∀ tb e args s v u, (limb_1_1.after args s (.returned v) u = true ∧ limb_1_2.after args s (.returned v) u = true ∧ True) → FrameEnd s (.returned v) u (Jvm.fieldLocs frame_1_writes args s ++ Jvm.arrayLocs frame_1_arrays args s ++ Jvm.staticLocs frame_1_statics s) 16 128 → Post tb e args s (.returned v) u) :
    ArmFor flags0 classFile x code maxLocals ret World_1 tables_1 room_1 Calls_1 rest_1 Pre_1 Post := by
  intro l hfl _ _ p e ha hc hk s m args below hf hA hF happ hP
  obtain ⟨hcalls, hrest, hpre⟩ := hP
  obtain ⟨-, -, -, hnamed, -, -, -, hat⟩ := (Spec.applies_iff hf).mp happ
  obtain ⟨hg, hn⟩ := and_e (Cond.before_iff.mp (show (Jvm.Cond.and given_1 narrow_1).before args s = true from hpre))
  obtain ⟨hcount, ha_0⟩ := and_e hg
  obtain ⟨hb_0, ha_1⟩ := and_e ha_0
  obtain ⟨hb_1, ha_2⟩ := and_e ha_1
  obtain ⟨hb_2, ha_3⟩ := and_e ha_2
  obtain ⟨hb_3, ha_4⟩ := and_e ha_3
  have hb_4 := ha_4
  obtain ⟨w0, w1, w2, w3, w4, rfl⟩ : ∃ w0 w1 w2 w3 w4 : Value, args = #[w0, w1, w2, w3, w4] := by
    have hs : args.size = 5 := by simpa [Cond.value, given_1] using hcount
    obtain ⟨L⟩ := args
    match L, hs with
    | [w0, w1, w2, w3, w4], _ => exact ⟨w0, w1, w2, w3, w4, rfl⟩
  have hw := fun d (hd : d ∈ tables_1) => atoms_spec (ws := Jvm.Cond.code x code maxLocals ret :: tables_1) hat d (List.mem_cons_of_mem _ hd)
  obtain ⟨i0, ei0⟩ := is_v hb_0
  obtain rfl : w0 = (.int i0) := Option.some.inj ei0
  obtain ⟨i1, ei1⟩ := is_v hb_1
  obtain rfl : w1 = (.int i1) := Option.some.inj ei1
  obtain ⟨i2, ei2⟩ := is_v hb_2
  obtain rfl : w2 = (.int i2) := Option.some.inj ei2
  obtain ⟨i3, ei3⟩ := is_v hb_3
  obtain rfl : w3 = (.int i3) := Option.some.inj ei3
  obtain ⟨i4, ei4⟩ := is_v hb_4
  obtain rfl : w4 = (.int i4) := Option.some.inj ei4
  obtain ⟨n, o, h1, h2, h3, _, L, rfl, ⟨rfl, N⟩, hq⟩ := rm0 l s _ hw tables_1 i0 i1 i2 i3 i4 s.heap s.heap.size (Nat.le_refl _)  p e ha hc hk s m _ below hf ((Spec.applies_iff_loose hf).mp happ).1 ⟨rfl, State.Warmed39.refl s, rfl⟩ trivial
  refine ⟨n, _, h1, h2, h3, hpost _ _ _ _ _ _ ⟨Cond.after_iff.mpr rfl, Cond.after_iff.mpr (eq_i res_at (Term.int_eval (1)) rfl), trivial⟩ ⟨hq.1, hq.2.1, (hq.2.2.sift fun y hy => Or.inr (N y hy)).mono (by decide) (by decide)⟩⟩
theorem main_1_1 : Claimed_1_1 := comes_1 fun _ _ _ _ _ _ h hF => ⟨h.1, hF⟩
theorem main_1_2 : Claimed_1_2 := comes_1 fun _ _ _ _ _ _ h hF => ⟨h.2.1, hF⟩
end Jvm.Pilot.@@N@@
namespace Jvm.Pilot.@@N@@
open Jvm Jvm.ClassFile Sem Op Lib Jvm.Free Jvm.Stand Jvm.Pilot.@@N@@.Jvm.D
/-! MADE BY PROGRAM (witnessworld.py) out of the Statement's table words and the real class files: 11 classes; the members and pool entries that the words name. The judged class is class 1, her method 2. -/
namespace start1
open Jvm.ClassFile
def u (s : String) : CpInfo := .utf8 (stringToUtf16 s)
/-- a pool by its gaps: so many unusable entries, then the entry; so many at the end -/
def gap : Nat → List CpInfo → List CpInfo
  | 0, r => r
  | n + 1, r => .unusable :: gap n r
def poolList (es : List (Nat × CpInfo)) (last : Nat) : List CpInfo := es.foldr (fun e r => gap e.1 (e.2 :: r)) (gap last [])
def pool (es : List (Nat × CpInfo)) (last : Nat) : Array CpInfo := ⟨poolList es last⟩
def fileOf (pool : Array CpInfo) (this : Nat) (attrs : Array Attribute := #[]) (ms : Array MethodInfo := #[]) (fl : Nat := 33) (sup : Nat := 0) (ifs : Array Nat := #[]) (fds : Array FieldInfo := #[]) : ClassFile where
  minorVersion := 0
  majorVersion := 65
  constantPool := pool
  accessFlags := fl
  thisClass := this
  superClass := sup
  interfaces := ifs
  fields := fds
  methods := ms
  attributes := attrs
def plain (name : String) (sup : Option ClassId) : Class where
  name := name
  kind := .ordinary
  loader := none
  accessFlags := 33
  super := sup
  interfaces := #[]
  cf := none
  fields := #[]
  methods := #[]
  instanceTypes := #[]
  staticTypes := #[]
  resolved := #[]
  callSites := []
  init := .initialized
  statics := none
  mirror := none

def pool0 : Array CpInfo := pool [(5, u "<init>"), (0, u "()V"), (1, .class_ 10), (1, u "java/lang/Object")] 113

def k0c0 : Code := { maxStack := 0, maxLocals := 1, code := object_method_1_code, exceptionTable := #[], attributes := #[] }
def k0m0 : Method := { name := "<init>", desc := "()V", sig := { parameters := [], returnType := none }, accessFlags := 1, code := some k0c0 }
/-- java/lang/Object -/
def k0 : Class := { plain "java/lang/Object" none with
  accessFlags := 33
  interfaces := #[]
  cf := some (fileOf pool0 8 #[] #[{ accessFlags := 1, nameIndex := 5, descriptorIndex := 6, attributes := #[] }] 33 0 #[] #[])
  fields := #[]
  methods := #[k0m0]
  instanceTypes := #[]
  staticTypes := #[]
  resolved := Array.replicate 124 none
  statics := none }

def pool1 : Array CpInfo := pool [(2, .class_ 4), (1, u "java/lang/Object"), (0, u "<init>"), (0, u "()V"), (0, .class_ 8), (0, u "com/example/flowmarket/flowmarket/game/PricedLink"), (0, .methodref 7 10), (0, .nameAndType 5 11), (0, u "([DDD)V"), (0, .methodref 7 13), (0, .nameAndType 14 15), (0, u "payments"), (0, u "()[D"), (0, .methodref 17 18), (0, .class_ 19), (0, .nameAndType 20 21), (0, u "com/example/flowmarket/flowmarket/game/PricedLinkPaymentsPinLaw"), (0, u "expect"), (0, u "(II)D"), (0, .double 4602678819172646912), (3, u "law"), (0, u "(IIIII)Z")] 5

def k1m0 : Method := { name := "<init>", desc := "()V", sig := { parameters := [], returnType := none }, accessFlags := 1, code := none }
def k1c1 : Code := { maxStack := 4, maxLocals := 2, code := method_2_code, exceptionTable := #[], attributes := #[] }
def k1m1 : Method := { name := "expect", desc := "(II)D", sig := { parameters := [.int, .int], returnType := some .double }, accessFlags := 10, code := some k1c1 }
def k1c2 : Code := { maxStack := 7, maxLocals := 10, code := code, exceptionTable := #[], attributes := #[] }
def k1m2 : Method := { name := "law", desc := "(IIIII)Z", sig := { parameters := [.int, .int, .int, .int, .int], returnType := some .boolean }, accessFlags := 9, code := some k1c2 }
/-- com/example/flowmarket/flowmarket/game/PricedLinkPaymentsPinLaw -/
def k1 : Class := { plain "com/example/flowmarket/flowmarket/game/PricedLinkPaymentsPinLaw" (some 0) with
  accessFlags := 49
  interfaces := #[]
  cf := some (fileOf pool1 17 #[] #[{ accessFlags := 1, nameIndex := 5, descriptorIndex := 6, attributes := #[] }, { accessFlags := 10, nameIndex := 20, descriptorIndex := 21, attributes := #[] }, { accessFlags := 9, nameIndex := 26, descriptorIndex := 27, attributes := #[] }] 49 2 #[] #[])
  fields := #[]
  methods := #[k1m0, k1m1, k1m2]
  instanceTypes := #[]
  staticTypes := #[]
  resolved := Array.replicate 33 none
  statics := none }

def pool2 : Array CpInfo := pool [(1, .methodref 2 3), (0, .class_ 4), (0, .nameAndType 5 6), (0, u "java/lang/Object"), (0, u "<init>"), (0, u "()V"), (0, .fieldref 8 9), (0, .class_ 10), (0, .nameAndType 11 12), (0, u "com/example/flowmarket/flowmarket/game/PricedLink"), (0, u "rates"), (0, u "[D"), (0, .fieldref 8 14), (0, .nameAndType 15 16), (0, u "price"), (0, u "D"), (0, .fieldref 8 18), (0, .nameAndType 19 16), (0, u "cost"), (76, u "([DDD)V"), (24, .class_ 123), (1, u "com/example/flowmarket/flowmarket/game/PricedLink$1"), (58, u "ACCURACY"), (1, u "LOAD_ULPS"), (5, u "()[D"), (0, u "payments")] 45

def k2c0 : Code := { maxStack := 3, maxLocals := 6, code := prog_10_method_1_code, exceptionTable := #[], attributes := #[] }
def k2m0 : Method := { name := "<init>", desc := "([DDD)V", sig := { parameters := [(.array .double), .double, .double], returnType := none }, accessFlags := 0, code := some k2c0 }
def k2c1 : Code := { maxStack := 6, maxLocals := 3, code := prog_10_method_6_code, exceptionTable := #[], attributes := #[] }
def k2m1 : Method := { name := "payments", desc := "()[D", sig := { parameters := [], returnType := some (.array .double) }, accessFlags := 1, code := some k2c1 }
/-- com/example/flowmarket/flowmarket/game/PricedLink -/
def k2 : Class := { plain "com/example/flowmarket/flowmarket/game/PricedLink" (some 0) with
  accessFlags := 49
  interfaces := #[]
  cf := some (fileOf pool2 8 #[.nestMembers #[121]] #[{ accessFlags := 0, nameIndex := 5, descriptorIndex := 96, attributes := #[] }, { accessFlags := 1, nameIndex := 191, descriptorIndex := 190, attributes := #[] }] 49 2 #[] #[{ accessFlags := 26, nameIndex := 182, descriptorIndex := 16, attributes := #[] }, { accessFlags := 26, nameIndex := 184, descriptorIndex := 16, attributes := #[] }, { accessFlags := 18, nameIndex := 11, descriptorIndex := 12, attributes := #[] }, { accessFlags := 18, nameIndex := 15, descriptorIndex := 16, attributes := #[] }, { accessFlags := 18, nameIndex := 19, descriptorIndex := 16, attributes := #[] }])
  fields := #[{ name := "ACCURACY", type := .double, accessFlags := 26, slot := 0, constantValue := 0 }, { name := "LOAD_ULPS", type := .double, accessFlags := 26, slot := 1, constantValue := 0 }, { name := "rates", type := (.array .double), accessFlags := 18, slot := 0, constantValue := 0 }, { name := "price", type := .double, accessFlags := 18, slot := 1, constantValue := 0 }, { name := "cost", type := .double, accessFlags := 18, slot := 2, constantValue := 0 }]
  methods := #[k2m0, k2m1]
  instanceTypes := #[(.array .double), .double, .double]
  staticTypes := #[.double, .double]
  resolved := Array.replicate 237 none
  statics := none }

def pool3 : Array CpInfo := pool [(1, u "java/lang/Cloneable"), (0, .class_ 1), (0, u "java/lang/Object"), (0, .class_ 3)] 3

/-- java/lang/Cloneable -/
def k3 : Class := { plain "java/lang/Cloneable" (some 0) with
  accessFlags := 1537
  interfaces := #[]
  cf := some (fileOf pool3 2 #[] #[] 1537 4 #[] #[])
  fields := #[]
  methods := #[]
  instanceTypes := #[]
  staticTypes := #[]
  resolved := Array.replicate 8 none
  statics := none }

def pool4 : Array CpInfo := pool [(1, u "java/io/Serializable"), (0, .class_ 1), (0, u "java/lang/Object"), (0, .class_ 3)] 3

/-- java/io/Serializable -/
def k4 : Class := { plain "java/io/Serializable" (some 0) with
  accessFlags := 1537
  interfaces := #[]
  cf := some (fileOf pool4 2 #[] #[] 1537 4 #[] #[])
  fields := #[]
  methods := #[]
  instanceTypes := #[]
  staticTypes := #[]
  resolved := Array.replicate 8 none
  statics := none }

/-- the primitive byte -/
def k5 : Class := { plain "byte" none with kind := .primitive 'B', accessFlags := 0x411 }
/-- [B -/
def k6 : Class := { plain "[B" (some 0) with kind := .array 5 .byte, interfaces := #[3, 4], accessFlags := 1041 }

/-- the primitive double -/
def k7 : Class := { plain "double" none with kind := .primitive 'D', accessFlags := 0x411 }
/-- [D -/
def k8 : Class := { plain "[D" (some 0) with kind := .array 7 .double, interfaces := #[3, 4], accessFlags := 1041 }

/-- the primitive int -/
def k9 : Class := { plain "int" none with kind := .primitive 'I', accessFlags := 0x411 }
/-- [I -/
def k10 : Class := { plain "[I" (some 0) with kind := .array 9 .int, interfaces := #[3, 4], accessFlags := 1041 }

def heap : Heap := #[]
def classes : Array Class := #[k0, k1, k2, k3, k4, k5, k6, k7, k8, k9, k10]
def interned : List (Array UInt16 × Addr) := []
def slotsUsed : Nat := 0
def theMethod : MethodId := ⟨1, 2⟩
def args0 : Array Value := #[.int 5, .int 9, .int 3, .int 7, .int 2]
def aboutOver (below : List Frame) : State where
  vm := { classes := classes, interned := interned.toArray }
  heap := heap
  slotsUsed := slotsUsed
  threads := #[{ frames := .invoking theMethod args0 :: below }]
def below0 : List Frame := [.native { method := ⟨0, 0⟩, args := #[] }]
def about1 : State := aboutOver below0
def p0 : Program := .bare "" "" ""
def e0 : Env := launch0.env 0 0 0
theorem w_frames : about1.frames = Frame.invoking theMethod args0 :: below0 := rfl
set_option maxRecDepth 65536 in
theorem w_args : argsFit about1.vm theMethod args0 = true := by decide +kernel
set_option maxRecDepth 65536 in
theorem w_heap : heapFits about1 = true := by decide +kernel
set_option maxRecDepth 65536 in
theorem w_runnable : about1.curStatus? = some .runnable := by decide +kernel
set_option maxRecDepth 65536 in
theorem w_alone : about1.alone = true := by decide +kernel
set_option maxRecDepth 65536 in
theorem w_named : about1.methodNamed? x = some theMethod := by decide +kernel
set_option maxRecDepth 65536 in
theorem w_hears : about1.hears theMethod below0 = true := by decide +kernel
set_option maxRecDepth 65536 in
theorem w_ripe : about1.ripe theMethod args0 below0 = true := by decide +kernel
theorem w_running : about1.status = .running := rfl
set_option maxRecDepth 65536 in
theorem w_room : about1.hasRoom e0.platform room_1 = true :=
  launch0.hasRoom_least _ room_1 (by decide +kernel) (by decide +kernel) (by decide +kernel) (by decide +kernel) (by decide +kernel) (by decide +kernel)
theorem allAtoms_all (ts : List Jvm.Cond) (a : Array Jvm.Value) (st : Jvm.State) : (allAtoms ts).before a st = ts.all (fun c => c.before a st) := by
  induction ts with
  | nil => rfl
  | cons c t ih =>
    show (Jvm.Cond.and c (allAtoms t)).before a st = _
    rw [Jvm.Cond.before_and, ih, List.all_cons]
def words1 : List Jvm.Cond := Jvm.Cond.code x code maxLocals ret :: tables_1
/-- a 'code' word, met by the world's own term for the bytes: nothing is compared byte by byte -/
theorem code_word {y : MethodName} {bytes : ByteArray} {mx : Nat} {rt : Option FieldType} {a : Array Value} {s : State} {m : MethodId} {meth : Method} {c : Code} (h1 : s.methodNamed? y = some m) (h2 : s.vm.method? m = some meth) (h3 : meth.code = some c) (h4 : c.code = bytes)
    (h5 : (c.maxLocals == mx && c.exceptionTable.isEmpty && decide (c.maxStack ≤ mostOperands) && decide (meth.sig.returnType = rt) && !meth.locks && decide (parseMethodDescriptor y.desc = some meth.sig)) = true) : (Jvm.Cond.code y bytes mx rt).before a s = true := by
  simp only [Bool.and_eq_true, beq_iff_eq, Bool.not_eq_true', decide_eq_true_eq] at h5
  obtain ⟨⟨⟨⟨⟨g1, g2⟩, g3⟩, g4⟩, g5⟩, g6⟩ := h5
  simp [Cond.before, Cond.holds, Cond.value, h1, h2, h3, h4, g1, g2, g3, g4, g5, g6]
def isCode : Jvm.Cond → Bool
  | .code _ _ _ _ => true
  | _ => false
theorem all_split {L : List Jvm.Cond} {P : Jvm.Cond → Bool} (h1 : L.all (fun c => isCode c || P c) = true) (h2 : ∀ c ∈ L.filter isCode, P c = true) : L.all P = true := by
  refine List.all_eq_true.mpr fun c hc => ?_
  have h := List.all_eq_true.mp h1 c hc
  rcases Bool.eq_false_or_eq_true (isCode c) with hi | hi
  · exact h2 c (List.mem_filter.mpr ⟨hc, hi⟩)
  · simpa [hi] using h
set_option maxRecDepth 65536 in
theorem w_c0 : (Jvm.Cond.code x code maxLocals ret).before args0 about1 = true := code_word (m := ⟨1, 2⟩) (meth := k1m2) (c := k1c2) (by decide +kernel) rfl rfl rfl (by decide +kernel)
set_option maxRecDepth 65536 in
theorem w_c1 : (Jvm.Cond.code ({ cls := "com/example/flowmarket/flowmarket/game/PricedLink", name := "<init>", desc := "([DDD)V" } : Jvm.MethodName) prog_10_method_1_code (6 : Nat) (Option.none : Option Jvm.ClassFile.FieldType)).before args0 about1 = true := code_word (m := ⟨2, 0⟩) (meth := k2m0) (c := k2c0) (by decide +kernel) rfl rfl rfl (by decide +kernel)
set_option maxRecDepth 65536 in
theorem w_c2 : (Jvm.Cond.code ({ cls := "java/lang/Object", name := "<init>", desc := "()V" } : Jvm.MethodName) object_method_1_code (1 : Nat) (Option.none : Option Jvm.ClassFile.FieldType)).before args0 about1 = true := code_word (m := ⟨0, 0⟩) (meth := k0m0) (c := k0c0) (by decide +kernel) rfl rfl rfl (by decide +kernel)
set_option maxRecDepth 65536 in
theorem w_c3 : (Jvm.Cond.code ({ cls := "com/example/flowmarket/flowmarket/game/PricedLink", name := "payments", desc := "()[D" } : Jvm.MethodName) prog_10_method_6_code (3 : Nat) (Option.some (Jvm.ClassFile.FieldType.array Jvm.ClassFile.FieldType.double))).before args0 about1 = true := code_word (m := ⟨2, 1⟩) (meth := k2m1) (c := k2c1) (by decide +kernel) rfl rfl rfl (by decide +kernel)
set_option maxRecDepth 65536 in
theorem w_c4 : (Jvm.Cond.code ({ cls := "com/example/flowmarket/flowmarket/game/PricedLinkPaymentsPinLaw", name := "expect", desc := "(II)D" } : Jvm.MethodName) method_2_code (2 : Nat) (Option.some Jvm.ClassFile.FieldType.double)).before args0 about1 = true := code_word (m := ⟨1, 1⟩) (meth := k1m1) (c := k1c1) (by decide +kernel) rfl rfl rfl (by decide +kernel)
def codes1 : List Jvm.Cond := [Jvm.Cond.code x code maxLocals ret, Jvm.Cond.code ({ cls := "com/example/flowmarket/flowmarket/game/PricedLink", name := "<init>", desc := "([DDD)V" } : Jvm.MethodName) prog_10_method_1_code (6 : Nat) (Option.none : Option Jvm.ClassFile.FieldType), Jvm.Cond.code ({ cls := "java/lang/Object", name := "<init>", desc := "()V" } : Jvm.MethodName) object_method_1_code (1 : Nat) (Option.none : Option Jvm.ClassFile.FieldType), Jvm.Cond.code ({ cls := "com/example/flowmarket/flowmarket/game/PricedLink", name := "payments", desc := "()[D" } : Jvm.MethodName) prog_10_method_6_code (3 : Nat) (Option.some (Jvm.ClassFile.FieldType.array Jvm.ClassFile.FieldType.double)), Jvm.Cond.code ({ cls := "com/example/flowmarket/flowmarket/game/PricedLinkPaymentsPinLaw", name := "expect", desc := "(II)D" } : Jvm.MethodName) method_2_code (2 : Nat) (Option.some Jvm.ClassFile.FieldType.double)]
set_option maxRecDepth 65536 in
theorem codes_eq : words1.filter isCode = codes1 := rfl
theorem w_codes : ∀ c ∈ words1.filter isCode, c.before args0 about1 = true := by
  rw [codes_eq]
  intro c hc
  simp only [codes1, List.mem_cons, List.not_mem_nil, or_false] at hc
  rcases hc with rfl | rfl | rfl | rfl | rfl
  · exact w_c0
  · exact w_c1
  · exact w_c2
  · exact w_c3
  · exact w_c4
set_option maxRecDepth 65536 in
theorem w_t1 : (words1.take 24).all (fun c => isCode c || c.before args0 about1) = true := by decide +kernel
set_option maxRecDepth 65536 in
theorem w_t2 : (words1.drop 24).all (fun c => isCode c || c.before args0 about1) = true := by decide +kernel
theorem w_tables : (allAtoms (Jvm.Cond.code x code maxLocals ret :: tables_1)).before args0 about1 = true := by
  rw [allAtoms_all]
  show words1.all (fun c => c.before args0 about1) = true
  refine all_split ?_ w_codes
  rw [← List.take_append_drop 24 words1, List.all_append, w_t1, w_t2]
  rfl
set_option maxRecDepth 65536 in
theorem w_case : (Jvm.Cond.and given_1 narrow_1).before args0 about1 = true := by decide +kernel
theorem w_applies : (headSpec (Jvm.Cond.code x code maxLocals ret :: tables_1) room_1).applies x e0.platform about1 = true :=
  (Spec.applies_iff w_frames).mpr ⟨w_running, w_runnable, w_alone, w_named, w_hears, w_ripe, w_room, w_tables⟩
theorem atStart : AtStart classFile x code maxLocals ret World_1 tables_1 room_1 Calls_1 rest_1 Pre_1 launch0 p0 e0 about1 theMethod args0 below0 :=
  ⟨lists_1, trivial, launch0.admits_env _ _ _, launch0.least_env, fairChoices_fair.cas, fairChoices_fair.clock, w_frames, w_args, w_heap, w_applies, trivial, trivial, w_case⟩
end start1
theorem witness_1 : WitnessClaimed_1 := ⟨start1.p0, start1.e0, start1.about1, start1.theMethod, start1.args0, start1.below0, start1.atStart⟩
end Jvm.Pilot.@@N@@
