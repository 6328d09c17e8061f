import JvmDerived
import JvmDerived.Pilot.@@N@@Statement
import JvmDerived.Pilot.@@N@@Code
set_option linter.unusedVariables false
set_option linter.unusedSimpArgs false
namespace Jvm.OwnKit
open Sem ClassFile Op Lib Jvm.Stand Jvm.Free Jvm.LawKit Jvm.RoadKit
/-- from S the run ends as wanted: it returns v, leaves a heap and has written the places L -/
def Goes (p : Program) (e : Env) (below : List Frame) (s : State) (K N : Nat) (Q : Option Value → Heap → List Loc → Prop) (S : State) : Prop :=
  ∃ s₂ o, Steps p.tables e below S s₂ ∧ s₂.status = .running ∧ Ended s₂ below o ∧ ∃ v L, o = .returned v ∧ Q v s₂.heap L ∧ FrameEnd s o s₂ L K N
def Cl (p : Program) (e : Env) (below : List Frame) (G : State → Prop) : Prop := ∀ S S', (∀ t, Steps p.tables e below S' t → Steps p.tables e below S t) → G S' → G S
theorem Goes.cl (p : Program) (e : Env) (below : List Frame) (s : State) (K N : Nat) (Q : Option Value → Heap → List Loc → Prop) : Cl p e below (Goes p e below s K N Q) := fun S S' h k => by
  obtain ⟨s₂, o, h1, r⟩ := k
  exact ⟨s₂, o, h _ h1, r⟩
/-- a body's contract -/
abbrev Con (l : Launch) (y : MethodName) (bytes : ByteArray) (maxL : Nat) (ret : Option FieldType) (ws : List Jvm.Cond) (rm : Room) (Z : State) (as : Array Value) (h0 : Heap) (K N : Nat) (Q : Option Value → Heap → List Loc → Prop) : Prop :=
  MetFree l y (head1 (Jvm.Cond.code y bytes maxL ret :: ws) rm) (fun a U => a = as ∧ Z.Warmed39 U.vm ∧ U.heap = h0) (fun _ _ _ _ _ => True) (fun _ U o U' => ∃ v L, o = .returned v ∧ Q v U'.heap L ∧ FrameEnd U o U' L K N)
theorem Con.of {l : Launch} {y : MethodName} {bytes : ByteArray} {maxL : Nat} {ret : Option FieldType} {ws : List Jvm.Cond} {rm : Room} {Z : State} {as : Array Value} {h0 : Heap} {K N : Nat} {Q : Option Value → Heap → List Loc → Prop} {Ls : Array Slot}
    (pl : plainFor y = true) (hef : ∀ m, entryFrame m as maxL = mkF m 0 Ls [])
    (H : ∀ (p : Program) (e : Env) (s : State) (m : MethodId) (below : List Frame) (meth : Method) (c : Code) (s₁ : State) (G : State → Prop), G = Goes p e below s K N Q → Cl p e below G → p.tables.exec = Jvm.exec → c.code = bytes → c.maxLocals = maxL → s.vm.findClass y.cls = some m.cls → meth.name = y.name → meth.sig.returnType = ret → meth.locks = false → Z.Warmed39 s.vm → Stand p l e rm s m as below meth c s₁ [] 0 0 → s₁.heap = h0 → G (s₁.setTop (mkF m 0 Ls []))) :
    Con l y bytes maxL ret ws rm Z as h0 K N Q := by
  refine MetFree.of_bodySF pl hisR ?_
  intro p e s m args below meth c s₁ Bd hml0 hP hK
  obtain ⟨rfl, hZ, hh⟩ := hP
  have X0 : Stand p l e rm s m args below meth c s₁ [] 0 0 := Stand.of_body Bd
  have e0 : s₁.heap = h0 := by rw [← hh, Bd.state]; rfl
  have g := H p e s m below meth c s₁ _ rfl (Goes.cl p e below s K N Q) Bd.exec Bd.bytes hml0 (findClass_of_methodNamed Bd.named) (name_of_methodNamed Bd.named Bd.method).1 Bd.returns Bd.notSynchronized hZ X0 e0
  rw [← hef m] at g
  exact g
theorem Wr.size {h h' : Heap} {a : Addr} {sl : Nat} {v : Value} (W : Wr h h' a sl v) : h.size ≤ h'.size := by
  obtain ⟨c, -, -, -, rfl⟩ := W
  simp
section New
variable {p : Program} {l : Launch} {e : Env} {R : Room} {s : State} {m : MethodId} {args : Array Value} {below : List Frame} {meth : Method} {c : Code} {T : State} {locs : List Loc} {cells slots : Nat} {Z : State} {a0 : Array Value} {h : Heap} {G : State → Prop} {pc pc' : Nat} {Ls Ls' : Array Slot} {rest : List Value} {K N : Nat} {Q : Option Value → Heap → List Loc → Prop}
/-! the ends -/
theorem e_ret (hGe : G = Goes p e below s K N Q) (X : Stand p l e R s m args below meth c T locs cells slots) (hx : p.tables.exec = Jvm.exec) {w : Value} {t : FieldType} {i : Instr} (hret : meth.sig.returnType = some t) (hlk : meth.locks = false) (hd : decode c.code pc = .ok (i, 1)) (hn : narrow t w = w)
    (hi : (i = .ireturn ∧ (t = .int ∨ t = .boolean ∨ t = .byte ∨ t = .char ∨ t = .short) ∧ ∃ z, w = .int z) ∨ (i = .lreturn ∧ t = .long ∧ ∃ z, w = .long z) ∨ (i = .dreturn ∧ t = .double ∧ ∃ z, w = .double z) ∨ (i = .freturn ∧ t = .float ∧ ∃ z, w = .float z) ∨ (i = .areturn ∧ t.isReference = true ∧ w.isRef = true))
    (eT : T.heap = h) (hk : cells ≤ K) (hs : slots ≤ N) (hQ : Q (some w) h locs) : G (T.setTop (mkF m pc Ls (w :: rest))) := by
  subst hGe
  obtain ⟨fs, hr, hrun, hended, hW, hsame⟩ := X.leave (v := some w) (fun h => by rw [hret] at h; cases h) hlk
  refine ⟨_, _, retOut X hx hret hn hi hd hr, hrun, hended, _, _, rfl, ?_, ⟨_, rfl⟩, hW, hsame.mono hk hs⟩
  show Q _ T.heap _
  rw [eT]; exact hQ
theorem e_retI (hGe : G = Goes p e below s K N Q) (X : Stand p l e R s m args below meth c T locs cells slots) (hx : p.tables.exec = Jvm.exec) {z : Int32} (hret : meth.sig.returnType = some .int) (hlk : meth.locks = false) (hd : decode c.code pc = .ok (.ireturn, 1)) (eT : T.heap = h) (hk : cells ≤ K) (hs : slots ≤ N) (hQ : Q (some (.int z)) h locs) : G (T.setTop (mkF m pc Ls (.int z :: rest))) :=
  e_ret hGe X hx hret hlk hd rfl (Or.inl ⟨rfl, Or.inl rfl, z, rfl⟩) eT hk hs hQ
theorem e_retJ (hGe : G = Goes p e below s K N Q) (X : Stand p l e R s m args below meth c T locs cells slots) (hx : p.tables.exec = Jvm.exec) {z : Int64} (hret : meth.sig.returnType = some .long) (hlk : meth.locks = false) (hd : decode c.code pc = .ok (.lreturn, 1)) (eT : T.heap = h) (hk : cells ≤ K) (hs : slots ≤ N) (hQ : Q (some (.long z)) h locs) : G (T.setTop (mkF m pc Ls (.long z :: rest))) :=
  e_ret hGe X hx hret hlk hd rfl (Or.inr (Or.inl ⟨rfl, rfl, z, rfl⟩)) eT hk hs hQ
theorem e_retD (hGe : G = Goes p e below s K N Q) (X : Stand p l e R s m args below meth c T locs cells slots) (hx : p.tables.exec = Jvm.exec) {z : UInt64} (hret : meth.sig.returnType = some .double) (hlk : meth.locks = false) (hd : decode c.code pc = .ok (.dreturn, 1)) (eT : T.heap = h) (hk : cells ≤ K) (hs : slots ≤ N) (hQ : Q (some (.double z)) h locs) : G (T.setTop (mkF m pc Ls (.double z :: rest))) :=
  e_ret hGe X hx hret hlk hd rfl (Or.inr (Or.inr (Or.inl ⟨rfl, rfl, z, rfl⟩))) eT hk hs hQ
theorem e_retA (hGe : G = Goes p e below s K N Q) (X : Stand p l e R s m args below meth c T locs cells slots) (hx : p.tables.exec = Jvm.exec) {a : Addr} {t : FieldType} (hret : meth.sig.returnType = some t) (ht : t.isReference = true) (hlk : meth.locks = false) (hd : decode c.code pc = .ok (.areturn, 1)) (eT : T.heap = h) (hk : cells ≤ K) (hs : slots ≤ N) (hQ : Q (some (.ref a)) h locs) : G (T.setTop (mkF m pc Ls (.ref a :: rest))) :=
  e_ret hGe X hx hret hlk hd (by cases t <;> first | rfl | (cases ht)) (Or.inr (Or.inr (Or.inr (Or.inr ⟨rfl, ht, rfl⟩)))) eT hk hs hQ
theorem e_retZ (hGe : G = Goes p e below s K N Q) (X : Stand p l e R s m args below meth c T locs cells slots) (hx : p.tables.exec = Jvm.exec) {z : Int32} (hret : meth.sig.returnType = some .boolean) (hlk : meth.locks = false) (hd : decode c.code pc = .ok (.ireturn, 1)) (hz : z = 0 ∨ z = 1) (eT : T.heap = h) (hk : cells ≤ K) (hs : slots ≤ N) (hQ : Q (some (.int z)) h locs) : G (T.setTop (mkF m pc Ls (.int z :: rest))) :=
  e_ret hGe X hx hret hlk hd (by rcases hz with rfl | rfl <;> rfl) (Or.inl ⟨rfl, Or.inr (Or.inl rfl), z, rfl⟩) eT hk hs hQ
theorem e_ret0 (hGe : G = Goes p e below s K N Q) (X : Stand p l e R s m args below meth c T locs cells slots) (hx : p.tables.exec = Jvm.exec) (hret : meth.sig.returnType = none) (hlk : meth.locks = false) (hd : decode c.code pc = .ok (.return_, 1)) (eT : T.heap = h) (hk : cells ≤ K) (hs : slots ≤ N) (hQ : Q none h locs) : G (T.setTop (mkF m pc Ls [])) := by
  subst hGe
  obtain ⟨fs, hr, hrun, hended, hW, hsame⟩ := X.leave (v := none) (fun _ => rfl) hlk
  refine ⟨_, _, X.returnOut hx hret hd hr, hrun, hended, _, _, rfl, ?_, ⟨_, rfl⟩, hW, hsame.mono hk hs⟩
  show Q _ T.heap _
  rw [eT]; exact hQ
/-! the plain steps -/
theorem g_iload (hG : Cl p e below G) (X : Stand p l e R s m args below meth c T locs cells slots) (hx : p.tables.exec = Jvm.exec) {i : Nat} {v : Int32} (hd : decode c.code pc = .ok (.iload i, 2)) (hp : pc' = pc + 2) (hl : Ls[i]? = some (.val (.int v))) (k : G (T.setTop (mkF m pc' Ls (.int v :: rest)))) : G (T.setTop (mkF m pc Ls (rest))) := by
  subst hp
  refine hG _ _ (fun t ht => ?_) k
  exact XS.iload X.here hx rfl hd hl ht
theorem g_iloadN (hG : Cl p e below G) (X : Stand p l e R s m args below meth c T locs cells slots) (hx : p.tables.exec = Jvm.exec) {i : Fin 4} {v : Int32} (hd : decode c.code pc = .ok (.iload_n i, 1)) (hp : pc' = pc + 1) (hl : Ls[i.val]? = some (.val (.int v))) (k : G (T.setTop (mkF m pc' Ls (.int v :: rest)))) : G (T.setTop (mkF m pc Ls (rest))) := by
  subst hp
  refine hG _ _ (fun t ht => ?_) k
  exact XS.iloadN X.here hx rfl hd hl ht
theorem g_istore (hG : Cl p e below G) (X : Stand p l e R s m args below meth c T locs cells slots) (hx : p.tables.exec = Jvm.exec) {i : Nat} {v : Int32} (hd : decode c.code pc = .ok (.istore i, 2)) (hp : pc' = pc + 2) (hl : storeLocals Ls i (.int v) = some Ls') (k : G (T.setTop (mkF m pc' Ls' (rest)))) : G (T.setTop (mkF m pc Ls (.int v :: rest))) := by
  subst hp
  refine hG _ _ (fun t ht => ?_) k
  exact XS.istore X.here hx rfl hd rfl hl ht
theorem g_istoreN (hG : Cl p e below G) (X : Stand p l e R s m args below meth c T locs cells slots) (hx : p.tables.exec = Jvm.exec) {i : Fin 4} {v : Int32} (hd : decode c.code pc = .ok (.istore_n i, 1)) (hp : pc' = pc + 1) (hl : storeLocals Ls i.val (.int v) = some Ls') (k : G (T.setTop (mkF m pc' Ls' (rest)))) : G (T.setTop (mkF m pc Ls (.int v :: rest))) := by
  subst hp
  refine hG _ _ (fun t ht => ?_) k
  exact XS.istoreN X.here hx rfl hd rfl hl ht
theorem g_lload (hG : Cl p e below G) (X : Stand p l e R s m args below meth c T locs cells slots) (hx : p.tables.exec = Jvm.exec) {i : Nat} {v : Int64} (hd : decode c.code pc = .ok (.lload i, 2)) (hp : pc' = pc + 2) (hl : Ls[i]? = some (.val (.long v))) (k : G (T.setTop (mkF m pc' Ls (.long v :: rest)))) : G (T.setTop (mkF m pc Ls (rest))) := by
  subst hp
  refine hG _ _ (fun t ht => ?_) k
  exact XS.lload X.here hx rfl hd hl ht
theorem g_lloadN (hG : Cl p e below G) (X : Stand p l e R s m args below meth c T locs cells slots) (hx : p.tables.exec = Jvm.exec) {i : Fin 4} {v : Int64} (hd : decode c.code pc = .ok (.lload_n i, 1)) (hp : pc' = pc + 1) (hl : Ls[i.val]? = some (.val (.long v))) (k : G (T.setTop (mkF m pc' Ls (.long v :: rest)))) : G (T.setTop (mkF m pc Ls (rest))) := by
  subst hp
  refine hG _ _ (fun t ht => ?_) k
  exact XS.lloadN X.here hx rfl hd hl ht
theorem g_lstore (hG : Cl p e below G) (X : Stand p l e R s m args below meth c T locs cells slots) (hx : p.tables.exec = Jvm.exec) {i : Nat} {v : Int64} (hd : decode c.code pc = .ok (.lstore i, 2)) (hp : pc' = pc + 2) (hl : storeLocals Ls i (.long v) = some Ls') (k : G (T.setTop (mkF m pc' Ls' (rest)))) : G (T.setTop (mkF m pc Ls (.long v :: rest))) := by
  subst hp
  refine hG _ _ (fun t ht => ?_) k
  exact XS.lstore X.here hx rfl hd rfl hl ht
theorem g_lstoreN (hG : Cl p e below G) (X : Stand p l e R s m args below meth c T locs cells slots) (hx : p.tables.exec = Jvm.exec) {i : Fin 4} {v : Int64} (hd : decode c.code pc = .ok (.lstore_n i, 1)) (hp : pc' = pc + 1) (hl : storeLocals Ls i.val (.long v) = some Ls') (k : G (T.setTop (mkF m pc' Ls' (rest)))) : G (T.setTop (mkF m pc Ls (.long v :: rest))) := by
  subst hp
  refine hG _ _ (fun t ht => ?_) k
  exact XS.lstoreN X.here hx rfl hd rfl hl ht
theorem g_dload (hG : Cl p e below G) (X : Stand p l e R s m args below meth c T locs cells slots) (hx : p.tables.exec = Jvm.exec) {i : Nat} {v : UInt64} (hd : decode c.code pc = .ok (.dload i, 2)) (hp : pc' = pc + 2) (hl : Ls[i]? = some (.val (.double v))) (k : G (T.setTop (mkF m pc' Ls (.double v :: rest)))) : G (T.setTop (mkF m pc Ls (rest))) := by
  subst hp
  refine hG _ _ (fun t ht => ?_) k
  exact XS.dload X.here hx rfl hd hl ht
theorem g_dloadN (hG : Cl p e below G) (X : Stand p l e R s m args below meth c T locs cells slots) (hx : p.tables.exec = Jvm.exec) {i : Fin 4} {v : UInt64} (hd : decode c.code pc = .ok (.dload_n i, 1)) (hp : pc' = pc + 1) (hl : Ls[i.val]? = some (.val (.double v))) (k : G (T.setTop (mkF m pc' Ls (.double v :: rest)))) : G (T.setTop (mkF m pc Ls (rest))) := by
  subst hp
  refine hG _ _ (fun t ht => ?_) k
  exact XS.dloadN X.here hx rfl hd hl ht
theorem g_dstore (hG : Cl p e below G) (X : Stand p l e R s m args below meth c T locs cells slots) (hx : p.tables.exec = Jvm.exec) {i : Nat} {v : UInt64} (hd : decode c.code pc = .ok (.dstore i, 2)) (hp : pc' = pc + 2) (hl : storeLocals Ls i (.double v) = some Ls') (k : G (T.setTop (mkF m pc' Ls' (rest)))) : G (T.setTop (mkF m pc Ls (.double v :: rest))) := by
  subst hp
  refine hG _ _ (fun t ht => ?_) k
  exact XS.dstore X.here hx rfl hd rfl hl ht
theorem g_dstoreN (hG : Cl p e below G) (X : Stand p l e R s m args below meth c T locs cells slots) (hx : p.tables.exec = Jvm.exec) {i : Fin 4} {v : UInt64} (hd : decode c.code pc = .ok (.dstore_n i, 1)) (hp : pc' = pc + 1) (hl : storeLocals Ls i.val (.double v) = some Ls') (k : G (T.setTop (mkF m pc' Ls' (rest)))) : G (T.setTop (mkF m pc Ls (.double v :: rest))) := by
  subst hp
  refine hG _ _ (fun t ht => ?_) k
  exact XS.dstoreN X.here hx rfl hd rfl hl ht
theorem g_aload (hG : Cl p e below G) (X : Stand p l e R s m args below meth c T locs cells slots) (hx : p.tables.exec = Jvm.exec) {i : Nat} {v : Value} (hd : decode c.code pc = .ok (.aload i, 2)) (hp : pc' = pc + 2) (hl : Ls[i]? = some (.val v)) (hv' : v.isRef = true) (k : G (T.setTop (mkF m pc' Ls (v :: rest)))) : G (T.setTop (mkF m pc Ls (rest))) := by
  subst hp
  refine hG _ _ (fun t ht => ?_) k
  exact XS.aload X.here hx rfl hd hl hv' ht
theorem g_aloadN (hG : Cl p e below G) (X : Stand p l e R s m args below meth c T locs cells slots) (hx : p.tables.exec = Jvm.exec) {i : Fin 4} {v : Value} (hd : decode c.code pc = .ok (.aload_n i, 1)) (hp : pc' = pc + 1) (hl : Ls[i.val]? = some (.val v)) (hv' : v.isRef = true) (k : G (T.setTop (mkF m pc' Ls (v :: rest)))) : G (T.setTop (mkF m pc Ls (rest))) := by
  subst hp
  refine hG _ _ (fun t ht => ?_) k
  exact XS.aloadN X.here hx rfl hd hl hv' ht
theorem g_astore (hG : Cl p e below G) (X : Stand p l e R s m args below meth c T locs cells slots) (hx : p.tables.exec = Jvm.exec) {i : Nat} {v : Value} (hd : decode c.code pc = .ok (.astore i, 2)) (hp : pc' = pc + 2) (hv' : v.isRef = true) (hl : storeLocals Ls i v = some Ls') (k : G (T.setTop (mkF m pc' Ls' (rest)))) : G (T.setTop (mkF m pc Ls (v :: rest))) := by
  subst hp
  refine hG _ _ (fun t ht => ?_) k
  exact XS.astore X.here hx rfl hd rfl hv' hl ht
theorem g_astoreN (hG : Cl p e below G) (X : Stand p l e R s m args below meth c T locs cells slots) (hx : p.tables.exec = Jvm.exec) {i : Fin 4} {v : Value} (hd : decode c.code pc = .ok (.astore_n i, 1)) (hp : pc' = pc + 1) (hv' : v.isRef = true) (hl : storeLocals Ls i.val v = some Ls') (k : G (T.setTop (mkF m pc' Ls' (rest)))) : G (T.setTop (mkF m pc Ls (v :: rest))) := by
  subst hp
  refine hG _ _ (fun t ht => ?_) k
  exact XS.astoreN X.here hx rfl hd rfl hv' hl ht
theorem g_iconst (hG : Cl p e below G) (X : Stand p l e R s m args below meth c T locs cells slots) (hx : p.tables.exec = Jvm.exec) {i : Int} {v : Int32} (hd : decode c.code pc = .ok (.iconst i, 1)) (hp : pc' = pc + 1) (hv : Int32.ofInt i = v) (k : G (T.setTop (mkF m pc' Ls (.int v :: rest)))) : G (T.setTop (mkF m pc Ls (rest))) := by
  subst hp
  subst hv
  refine hG _ _ (fun t ht => ?_) k
  exact XS.iconst X.here hx rfl hd ht
theorem g_bipush (hG : Cl p e below G) (X : Stand p l e R s m args below meth c T locs cells slots) (hx : p.tables.exec = Jvm.exec) {i : Int} {v : Int32} (hd : decode c.code pc = .ok (.bipush i, 2)) (hp : pc' = pc + 2) (hv : (Int8.ofInt i).toInt32 = v) (k : G (T.setTop (mkF m pc' Ls (.int v :: rest)))) : G (T.setTop (mkF m pc Ls (rest))) := by
  subst hp
  subst hv
  refine hG _ _ (fun t ht => ?_) k
  exact XS.bipush X.here hx rfl hd ht
theorem g_sipush (hG : Cl p e below G) (X : Stand p l e R s m args below meth c T locs cells slots) (hx : p.tables.exec = Jvm.exec) {i : Int} {v : Int32} (hd : decode c.code pc = .ok (.sipush i, 3)) (hp : pc' = pc + 3) (hv : (Int16.ofInt i).toInt32 = v) (k : G (T.setTop (mkF m pc' Ls (.int v :: rest)))) : G (T.setTop (mkF m pc Ls (rest))) := by
  subst hp
  subst hv
  refine hG _ _ (fun t ht => ?_) k
  exact XS.sipush X.here hx rfl hd ht
theorem g_lconst (hG : Cl p e below G) (X : Stand p l e R s m args below meth c T locs cells slots) (hx : p.tables.exec = Jvm.exec) {i : Fin 2} {v : Int64} (hd : decode c.code pc = .ok (.lconst i, 1)) (hp : pc' = pc + 1) (hv : Int64.ofNat i.val = v) (k : G (T.setTop (mkF m pc' Ls (.long v :: rest)))) : G (T.setTop (mkF m pc Ls (rest))) := by
  subst hp
  subst hv
  refine hG _ _ (fun t ht => ?_) k
  exact XS.lconst X.here hx rfl hd ht
theorem g_dconst0 (hG : Cl p e below G) (X : Stand p l e R s m args below meth c T locs cells slots) (hx : p.tables.exec = Jvm.exec) {v : UInt64} (hd : decode c.code pc = .ok (.dconst 0, 1)) (hp : pc' = pc + 1) (hv : FP.dconst0 = v) (k : G (T.setTop (mkF m pc' Ls (.double v :: rest)))) : G (T.setTop (mkF m pc Ls (rest))) := by
  subst hp
  subst hv
  refine hG _ _ (fun t ht => ?_) k
  exact XS.dconst0 X.here hx rfl hd rfl ht
theorem g_dconst1 (hG : Cl p e below G) (X : Stand p l e R s m args below meth c T locs cells slots) (hx : p.tables.exec = Jvm.exec) {v : UInt64} (hd : decode c.code pc = .ok (.dconst 1, 1)) (hp : pc' = pc + 1) (hv : FP.dconst1 = v) (k : G (T.setTop (mkF m pc' Ls (.double v :: rest)))) : G (T.setTop (mkF m pc Ls (rest))) := by
  subst hp
  subst hv
  refine hG _ _ (fun t ht => ?_) k
  exact XS.dconst1 X.here hx rfl hd rfl ht
theorem g_aconstNull (hG : Cl p e below G) (X : Stand p l e R s m args below meth c T locs cells slots) (hx : p.tables.exec = Jvm.exec)  (hd : decode c.code pc = .ok (.aconst_null, 1)) (hp : pc' = pc + 1) (k : G (T.setTop (mkF m pc' Ls (.null :: rest)))) : G (T.setTop (mkF m pc Ls (rest))) := by
  subst hp
  refine hG _ _ (fun t ht => ?_) k
  exact XS.aconstNull X.here hx rfl hd ht
theorem g_iadd (hG : Cl p e below G) (X : Stand p l e R s m args below meth c T locs cells slots) (hx : p.tables.exec = Jvm.exec) {x y v : Int32} (hd : decode c.code pc = .ok (.iadd, 1)) (hp : pc' = pc + 1) (hv : x + y = v) (k : G (T.setTop (mkF m pc' Ls (.int v :: rest)))) : G (T.setTop (mkF m pc Ls (.int y :: .int x :: rest))) := by
  subst hp
  subst hv
  refine hG _ _ (fun t ht => ?_) k
  exact XS.iadd X.here hx rfl hd rfl ht
theorem g_ladd (hG : Cl p e below G) (X : Stand p l e R s m args below meth c T locs cells slots) (hx : p.tables.exec = Jvm.exec) {x y v : Int64} (hd : decode c.code pc = .ok (.ladd, 1)) (hp : pc' = pc + 1) (hv : x + y = v) (k : G (T.setTop (mkF m pc' Ls (.long v :: rest)))) : G (T.setTop (mkF m pc Ls (.long y :: .long x :: rest))) := by
  subst hp
  subst hv
  refine hG _ _ (fun t ht => ?_) k
  exact XS.ladd X.here hx rfl hd rfl ht
theorem g_isub (hG : Cl p e below G) (X : Stand p l e R s m args below meth c T locs cells slots) (hx : p.tables.exec = Jvm.exec) {x y v : Int32} (hd : decode c.code pc = .ok (.isub, 1)) (hp : pc' = pc + 1) (hv : x - y = v) (k : G (T.setTop (mkF m pc' Ls (.int v :: rest)))) : G (T.setTop (mkF m pc Ls (.int y :: .int x :: rest))) := by
  subst hp
  subst hv
  refine hG _ _ (fun t ht => ?_) k
  exact XS.isub X.here hx rfl hd rfl ht
theorem g_lsub (hG : Cl p e below G) (X : Stand p l e R s m args below meth c T locs cells slots) (hx : p.tables.exec = Jvm.exec) {x y v : Int64} (hd : decode c.code pc = .ok (.lsub, 1)) (hp : pc' = pc + 1) (hv : x - y = v) (k : G (T.setTop (mkF m pc' Ls (.long v :: rest)))) : G (T.setTop (mkF m pc Ls (.long y :: .long x :: rest))) := by
  subst hp
  subst hv
  refine hG _ _ (fun t ht => ?_) k
  exact XS.lsub X.here hx rfl hd rfl ht
theorem g_imul (hG : Cl p e below G) (X : Stand p l e R s m args below meth c T locs cells slots) (hx : p.tables.exec = Jvm.exec) {x y v : Int32} (hd : decode c.code pc = .ok (.imul, 1)) (hp : pc' = pc + 1) (hv : x * y = v) (k : G (T.setTop (mkF m pc' Ls (.int v :: rest)))) : G (T.setTop (mkF m pc Ls (.int y :: .int x :: rest))) := by
  subst hp
  subst hv
  refine hG _ _ (fun t ht => ?_) k
  exact XS.imul X.here hx rfl hd rfl ht
theorem g_lmul (hG : Cl p e below G) (X : Stand p l e R s m args below meth c T locs cells slots) (hx : p.tables.exec = Jvm.exec) {x y v : Int64} (hd : decode c.code pc = .ok (.lmul, 1)) (hp : pc' = pc + 1) (hv : x * y = v) (k : G (T.setTop (mkF m pc' Ls (.long v :: rest)))) : G (T.setTop (mkF m pc Ls (.long y :: .long x :: rest))) := by
  subst hp
  subst hv
  refine hG _ _ (fun t ht => ?_) k
  exact XS.lmul X.here hx rfl hd rfl ht
theorem g_iand (hG : Cl p e below G) (X : Stand p l e R s m args below meth c T locs cells slots) (hx : p.tables.exec = Jvm.exec) {x y v : Int32} (hd : decode c.code pc = .ok (.iand, 1)) (hp : pc' = pc + 1) (hv : x &&& y = v) (k : G (T.setTop (mkF m pc' Ls (.int v :: rest)))) : G (T.setTop (mkF m pc Ls (.int y :: .int x :: rest))) := by
  subst hp
  subst hv
  refine hG _ _ (fun t ht => ?_) k
  exact XS.iand X.here hx rfl hd rfl ht
theorem g_land (hG : Cl p e below G) (X : Stand p l e R s m args below meth c T locs cells slots) (hx : p.tables.exec = Jvm.exec) {x y v : Int64} (hd : decode c.code pc = .ok (.land, 1)) (hp : pc' = pc + 1) (hv : x &&& y = v) (k : G (T.setTop (mkF m pc' Ls (.long v :: rest)))) : G (T.setTop (mkF m pc Ls (.long y :: .long x :: rest))) := by
  subst hp
  subst hv
  refine hG _ _ (fun t ht => ?_) k
  exact XS.land X.here hx rfl hd rfl ht
theorem g_ior (hG : Cl p e below G) (X : Stand p l e R s m args below meth c T locs cells slots) (hx : p.tables.exec = Jvm.exec) {x y v : Int32} (hd : decode c.code pc = .ok (.ior, 1)) (hp : pc' = pc + 1) (hv : x ||| y = v) (k : G (T.setTop (mkF m pc' Ls (.int v :: rest)))) : G (T.setTop (mkF m pc Ls (.int y :: .int x :: rest))) := by
  subst hp
  subst hv
  refine hG _ _ (fun t ht => ?_) k
  exact XS.ior X.here hx rfl hd rfl ht
theorem g_lor (hG : Cl p e below G) (X : Stand p l e R s m args below meth c T locs cells slots) (hx : p.tables.exec = Jvm.exec) {x y v : Int64} (hd : decode c.code pc = .ok (.lor, 1)) (hp : pc' = pc + 1) (hv : x ||| y = v) (k : G (T.setTop (mkF m pc' Ls (.long v :: rest)))) : G (T.setTop (mkF m pc Ls (.long y :: .long x :: rest))) := by
  subst hp
  subst hv
  refine hG _ _ (fun t ht => ?_) k
  exact XS.lor X.here hx rfl hd rfl ht
theorem g_ixor (hG : Cl p e below G) (X : Stand p l e R s m args below meth c T locs cells slots) (hx : p.tables.exec = Jvm.exec) {x y v : Int32} (hd : decode c.code pc = .ok (.ixor, 1)) (hp : pc' = pc + 1) (hv : x ^^^ y = v) (k : G (T.setTop (mkF m pc' Ls (.int v :: rest)))) : G (T.setTop (mkF m pc Ls (.int y :: .int x :: rest))) := by
  subst hp
  subst hv
  refine hG _ _ (fun t ht => ?_) k
  exact XS.ixor X.here hx rfl hd rfl ht
theorem g_lxor (hG : Cl p e below G) (X : Stand p l e R s m args below meth c T locs cells slots) (hx : p.tables.exec = Jvm.exec) {x y v : Int64} (hd : decode c.code pc = .ok (.lxor, 1)) (hp : pc' = pc + 1) (hv : x ^^^ y = v) (k : G (T.setTop (mkF m pc' Ls (.long v :: rest)))) : G (T.setTop (mkF m pc Ls (.long y :: .long x :: rest))) := by
  subst hp
  subst hv
  refine hG _ _ (fun t ht => ?_) k
  exact XS.lxor X.here hx rfl hd rfl ht
theorem g_ineg (hG : Cl p e below G) (X : Stand p l e R s m args below meth c T locs cells slots) (hx : p.tables.exec = Jvm.exec) {x v : Int32} (hd : decode c.code pc = .ok (.ineg, 1)) (hp : pc' = pc + 1) (hv : -x = v) (k : G (T.setTop (mkF m pc' Ls (.int v :: rest)))) : G (T.setTop (mkF m pc Ls (.int x :: rest))) := by
  subst hp
  subst hv
  refine hG _ _ (fun t ht => ?_) k
  exact XS.ineg X.here hx rfl hd rfl ht
theorem g_lneg (hG : Cl p e below G) (X : Stand p l e R s m args below meth c T locs cells slots) (hx : p.tables.exec = Jvm.exec) {x v : Int64} (hd : decode c.code pc = .ok (.lneg, 1)) (hp : pc' = pc + 1) (hv : -x = v) (k : G (T.setTop (mkF m pc' Ls (.long v :: rest)))) : G (T.setTop (mkF m pc Ls (.long x :: rest))) := by
  subst hp
  subst hv
  refine hG _ _ (fun t ht => ?_) k
  exact XS.lneg X.here hx rfl hd rfl ht
theorem g_i2l (hG : Cl p e below G) (X : Stand p l e R s m args below meth c T locs cells slots) (hx : p.tables.exec = Jvm.exec) {x : Int32} {v : Int64} (hd : decode c.code pc = .ok (.i2l, 1)) (hp : pc' = pc + 1) (hv : x.toInt64 = v) (k : G (T.setTop (mkF m pc' Ls (.long v :: rest)))) : G (T.setTop (mkF m pc Ls (.int x :: rest))) := by
  subst hp
  subst hv
  refine hG _ _ (fun t ht => ?_) k
  exact XS.i2l X.here hx rfl hd rfl ht
theorem g_l2i (hG : Cl p e below G) (X : Stand p l e R s m args below meth c T locs cells slots) (hx : p.tables.exec = Jvm.exec) {x : Int64} {v : Int32} (hd : decode c.code pc = .ok (.l2i, 1)) (hp : pc' = pc + 1) (hv : x.toInt32 = v) (k : G (T.setTop (mkF m pc' Ls (.int v :: rest)))) : G (T.setTop (mkF m pc Ls (.long x :: rest))) := by
  subst hp
  subst hv
  refine hG _ _ (fun t ht => ?_) k
  exact XS.l2i X.here hx rfl hd rfl ht
theorem g_i2c (hG : Cl p e below G) (X : Stand p l e R s m args below meth c T locs cells slots) (hx : p.tables.exec = Jvm.exec) {x v : Int32} (hd : decode c.code pc = .ok (.i2c, 1)) (hp : pc' = pc + 1) (hv : x.toUInt32.toUInt16.toUInt32.toInt32 = v) (k : G (T.setTop (mkF m pc' Ls (.int v :: rest)))) : G (T.setTop (mkF m pc Ls (.int x :: rest))) := by
  subst hp
  subst hv
  refine hG _ _ (fun t ht => ?_) k
  exact XS.i2c X.here hx rfl hd rfl ht
theorem g_i2b (hG : Cl p e below G) (X : Stand p l e R s m args below meth c T locs cells slots) (hx : p.tables.exec = Jvm.exec) {x v : Int32} (hd : decode c.code pc = .ok (.i2b, 1)) (hp : pc' = pc + 1) (hv : x.toInt8.toInt32 = v) (k : G (T.setTop (mkF m pc' Ls (.int v :: rest)))) : G (T.setTop (mkF m pc Ls (.int x :: rest))) := by
  subst hp
  subst hv
  refine hG _ _ (fun t ht => ?_) k
  exact XS.i2b X.here hx rfl hd rfl ht
theorem g_ishl (hG : Cl p e below G) (X : Stand p l e R s m args below meth c T locs cells slots) (hx : p.tables.exec = Jvm.exec) {x y v : Int32} (hd : decode c.code pc = .ok (.ishl, 1)) (hp : pc' = pc + 1) (hv : x <<< (y &&& 31) = v) (k : G (T.setTop (mkF m pc' Ls (.int v :: rest)))) : G (T.setTop (mkF m pc Ls (.int y :: .int x :: rest))) := by
  subst hp
  subst hv
  refine hG _ _ (fun t ht => ?_) k
  exact XS.ishl X.here hx rfl hd rfl ht
theorem g_ishr (hG : Cl p e below G) (X : Stand p l e R s m args below meth c T locs cells slots) (hx : p.tables.exec = Jvm.exec) {x y v : Int32} (hd : decode c.code pc = .ok (.ishr, 1)) (hp : pc' = pc + 1) (hv : x >>> (y &&& 31) = v) (k : G (T.setTop (mkF m pc' Ls (.int v :: rest)))) : G (T.setTop (mkF m pc Ls (.int y :: .int x :: rest))) := by
  subst hp
  subst hv
  refine hG _ _ (fun t ht => ?_) k
  exact XS.ishr X.here hx rfl hd rfl ht
theorem g_iushr (hG : Cl p e below G) (X : Stand p l e R s m args below meth c T locs cells slots) (hx : p.tables.exec = Jvm.exec) {x y v : Int32} (hd : decode c.code pc = .ok (.iushr, 1)) (hp : pc' = pc + 1) (hv : (x.toUInt32 >>> (y &&& 31).toUInt32).toInt32 = v) (k : G (T.setTop (mkF m pc' Ls (.int v :: rest)))) : G (T.setTop (mkF m pc Ls (.int y :: .int x :: rest))) := by
  subst hp
  subst hv
  refine hG _ _ (fun t ht => ?_) k
  exact XS.iushr X.here hx rfl hd rfl ht
theorem g_lshl (hG : Cl p e below G) (X : Stand p l e R s m args below meth c T locs cells slots) (hx : p.tables.exec = Jvm.exec) {x : Int64} {y : Int32} {v : Int64} (hd : decode c.code pc = .ok (.lshl, 1)) (hp : pc' = pc + 1) (hv : x <<< (y &&& 0x3f).toInt64 = v) (k : G (T.setTop (mkF m pc' Ls (.long v :: rest)))) : G (T.setTop (mkF m pc Ls (.int y :: .long x :: rest))) := by
  subst hp
  subst hv
  refine hG _ _ (fun t ht => ?_) k
  exact XS.lshl X.here hx rfl hd rfl ht
theorem g_lshr (hG : Cl p e below G) (X : Stand p l e R s m args below meth c T locs cells slots) (hx : p.tables.exec = Jvm.exec) {x : Int64} {y : Int32} {v : Int64} (hd : decode c.code pc = .ok (.lshr, 1)) (hp : pc' = pc + 1) (hv : x >>> (y &&& 0x3f).toInt64 = v) (k : G (T.setTop (mkF m pc' Ls (.long v :: rest)))) : G (T.setTop (mkF m pc Ls (.int y :: .long x :: rest))) := by
  subst hp
  subst hv
  refine hG _ _ (fun t ht => ?_) k
  exact XS.lshr X.here hx rfl hd rfl ht
theorem g_lcmp (hG : Cl p e below G) (X : Stand p l e R s m args below meth c T locs cells slots) (hx : p.tables.exec = Jvm.exec) {x y : Int64} {v : Int32} (hd : decode c.code pc = .ok (.lcmp, 1)) (hp : pc' = pc + 1) (hv : lcmpW x y = v) (k : G (T.setTop (mkF m pc' Ls (.int v :: rest)))) : G (T.setTop (mkF m pc Ls (.long y :: .long x :: rest))) := by
  subst hp
  subst hv
  refine hG _ _ (fun t ht => ?_) k
  exact XS.lcmp X.here hx rfl hd rfl ht
theorem g_irem (hG : Cl p e below G) (X : Stand p l e R s m args below meth c T locs cells slots) (hx : p.tables.exec = Jvm.exec) {x y v : Int32} (hd : decode c.code pc = .ok (.irem, 1)) (hp : pc' = pc + 1) (hy : y ≠ 0) (hv : x % y = v) (k : G (T.setTop (mkF m pc' Ls (.int v :: rest)))) : G (T.setTop (mkF m pc Ls (.int y :: .int x :: rest))) := by
  subst hp
  subst hv
  refine hG _ _ (fun t ht => ?_) k
  exact iremM X hx rfl hd rfl hy ht
theorem g_lrem (hG : Cl p e below G) (X : Stand p l e R s m args below meth c T locs cells slots) (hx : p.tables.exec = Jvm.exec) {x y v : Int64} (hd : decode c.code pc = .ok (.lrem, 1)) (hp : pc' = pc + 1) (hy : y ≠ 0) (hv : x % y = v) (k : G (T.setTop (mkF m pc' Ls (.long v :: rest)))) : G (T.setTop (mkF m pc Ls (.long y :: .long x :: rest))) := by
  subst hp hv
  rw [← lrem_mod] at k
  refine hG _ _ (fun t ht => ?_) k
  exact XS.lrem X.here hx rfl hd rfl hy ht
theorem g_idiv (hG : Cl p e below G) (X : Stand p l e R s m args below meth c T locs cells slots) (hx : p.tables.exec = Jvm.exec) {x y v : Int32} (hd : decode c.code pc = .ok (.idiv, 1)) (hp : pc' = pc + 1) (hy : y ≠ 0) (hv : x / y = v) (k : G (T.setTop (mkF m pc' Ls (.int v :: rest)))) : G (T.setTop (mkF m pc Ls (.int y :: .int x :: rest))) := by
  subst hp
  subst hv
  refine hG _ _ (fun t ht => ?_) k
  exact XS.idiv X.here hx rfl hd rfl hy ht
theorem g_dup (hG : Cl p e below G) (X : Stand p l e R s m args below meth c T locs cells slots) (hx : p.tables.exec = Jvm.exec) {x : Value} (hd : decode c.code pc = .ok (.dup, 1)) (hp : pc' = pc + 1) (hc : x.category = 1) (k : G (T.setTop (mkF m pc' Ls (x :: x :: rest)))) : G (T.setTop (mkF m pc Ls (x :: rest))) := by
  subst hp
  refine hG _ _ (fun t ht => ?_) k
  exact XS.dup X.here hx rfl hd rfl hc ht
theorem g_pop (hG : Cl p e below G) (X : Stand p l e R s m args below meth c T locs cells slots) (hx : p.tables.exec = Jvm.exec) {x : Value} (hd : decode c.code pc = .ok (.pop, 1)) (hp : pc' = pc + 1) (hc : x.category = 1) (k : G (T.setTop (mkF m pc' Ls (rest)))) : G (T.setTop (mkF m pc Ls (x :: rest))) := by
  subst hp
  refine hG _ _ (fun t ht => ?_) k
  exact XS.pop X.here hx rfl hd rfl hc ht
theorem g_dupX1 (hG : Cl p e below G) (X : Stand p l e R s m args below meth c T locs cells slots) (hx : p.tables.exec = Jvm.exec) {x y : Value} (hd : decode c.code pc = .ok (.dup_x1, 1)) (hp : pc' = pc + 1) (hc : x.category = 1) (hc' : y.category = 1) (k : G (T.setTop (mkF m pc' Ls (x :: y :: x :: rest)))) : G (T.setTop (mkF m pc Ls (x :: y :: rest))) := by
  subst hp
  refine hG _ _ (fun t ht => ?_) k
  exact XS.dupX1 X.here hx rfl hd rfl hc hc' ht
theorem g_dup2 (hG : Cl p e below G) (X : Stand p l e R s m args below meth c T locs cells slots) (hx : p.tables.exec = Jvm.exec) {x y : Value} (hd : decode c.code pc = .ok (.dup2, 1)) (hp : pc' = pc + 1) (hc : x.category = 1) (hc' : y.category = 1) (k : G (T.setTop (mkF m pc' Ls (x :: y :: x :: y :: rest)))) : G (T.setTop (mkF m pc Ls (x :: y :: rest))) := by
  subst hp
  refine hG _ _ (fun t ht => ?_) k
  exact Jvm.Free.XT.dup2 X.here hx rfl hd rfl hc hc' ht
theorem g_iinc (hG : Cl p e below G) (X : Stand p l e R s m args below meth c T locs cells slots) (hx : p.tables.exec = Jvm.exec) {i : Nat} {cst : Int} {x v : Int32} (hd : decode c.code pc = .ok (.iinc i cst, 3)) (hp : pc' = pc + 3) (hl : Ls[i]? = some (.val (.int x))) (hv : x + Int32.ofInt cst = v) (hl' : storeLocals Ls i (.int v) = some Ls') (k : G (T.setTop (mkF m pc' Ls' (rest)))) : G (T.setTop (mkF m pc Ls (rest))) := by
  subst hp
  subst hv
  refine hG _ _ (fun t ht => ?_) k
  exact XS.iinc X.here hx rfl hd hl hl' ht
theorem g_i2d (hG : Cl p e below G) (X : Stand p l e R s m args below meth c T locs cells slots) (hx : p.tables.exec = Jvm.exec) {x : Int32} {v : UInt64} (hd : decode c.code pc = .ok (.i2d, 1)) (hp : pc' = pc + 1) (hv : FP.i2d x = v) (k : G (T.setTop (mkF m pc' Ls (.double v :: rest)))) : G (T.setTop (mkF m pc Ls (.int x :: rest))) := by
  subst hp
  subst hv
  refine hG _ _ (fun t ht => ?_) k
  exact XS.i2dS X.here hx rfl hd rfl rfl ht
theorem g_l2d (hG : Cl p e below G) (X : Stand p l e R s m args below meth c T locs cells slots) (hx : p.tables.exec = Jvm.exec) {x : Int64} {v : UInt64} (hd : decode c.code pc = .ok (.l2d, 1)) (hp : pc' = pc + 1) (hv : FP.l2d x = v) (k : G (T.setTop (mkF m pc' Ls (.double v :: rest)))) : G (T.setTop (mkF m pc Ls (.long x :: rest))) := by
  subst hp
  subst hv
  refine hG _ _ (fun t ht => ?_) k
  exact XS.l2dS X.here hx rfl hd rfl rfl ht
theorem g_d2i (hG : Cl p e below G) (X : Stand p l e R s m args below meth c T locs cells slots) (hx : p.tables.exec = Jvm.exec) {x : UInt64} {v : Int32} (hd : decode c.code pc = .ok (.d2i, 1)) (hp : pc' = pc + 1) (hv : FP.d2i x = v) (k : G (T.setTop (mkF m pc' Ls (.int v :: rest)))) : G (T.setTop (mkF m pc Ls (.double x :: rest))) := by
  subst hp
  subst hv
  refine hG _ _ (fun t ht => ?_) k
  exact XS.d2iS X.here hx rfl hd rfl rfl ht
theorem g_d2l (hG : Cl p e below G) (X : Stand p l e R s m args below meth c T locs cells slots) (hx : p.tables.exec = Jvm.exec) {x : UInt64} {v : Int64} (hd : decode c.code pc = .ok (.d2l, 1)) (hp : pc' = pc + 1) (hv : FP.d2l x = v) (k : G (T.setTop (mkF m pc' Ls (.long v :: rest)))) : G (T.setTop (mkF m pc Ls (.double x :: rest))) := by
  subst hp
  subst hv
  refine hG _ _ (fun t ht => ?_) k
  exact XS.d2lS X.here hx rfl hd rfl rfl ht
theorem g_dneg (hG : Cl p e below G) (X : Stand p l e R s m args below meth c T locs cells slots) (hx : p.tables.exec = Jvm.exec) {x v : UInt64} (hd : decode c.code pc = .ok (.dneg, 1)) (hp : pc' = pc + 1) (hv : FP.dneg x = v) (k : G (T.setTop (mkF m pc' Ls (.double v :: rest)))) : G (T.setTop (mkF m pc Ls (.double x :: rest))) := by
  subst hp
  subst hv
  refine hG _ _ (fun t ht => ?_) k
  exact XS.dnegS X.here hx rfl hd rfl rfl ht
theorem g_dcmp (hG : Cl p e below G) (X : Stand p l e R s m args below meth c T locs cells slots) (hx : p.tables.exec = Jvm.exec) {x y : UInt64} {o : CmpOp} {v : Int32} (hd : decode c.code pc = .ok (.dcmp o, 1)) (hp : pc' = pc + 1) (hv : cmpValue (FP.dcmp x y) o = v) (k : G (T.setTop (mkF m pc' Ls (.int v :: rest)))) : G (T.setTop (mkF m pc Ls (.double y :: .double x :: rest))) := by
  subst hp
  subst hv
  refine hG _ _ (fun t ht => ?_) k
  exact XS.dcmpS X.here hx rfl hd rfl rfl ht
theorem g_dadd (hG : Cl p e below G) (X : Stand p l e R s m args below meth c T locs cells slots) (hx : p.tables.exec = Jvm.exec) {x y v : UInt64} (hd : decode c.code pc = .ok (.dadd, 1)) (hp : pc' = pc + 1) (hn : Jvm.Free.Fl.NoNaN64 (FP.dadd x y)) (hv : FP.dadd x y = v) (k : G (T.setTop (mkF m pc' Ls (.double v :: rest)))) : G (T.setTop (mkF m pc Ls (.double y :: .double x :: rest))) := by
  subst hp
  subst hv
  refine hG _ _ (fun t ht => ?_) k
  exact XS.daddS X.here hx rfl hd rfl hn rfl ht
theorem g_dsub (hG : Cl p e below G) (X : Stand p l e R s m args below meth c T locs cells slots) (hx : p.tables.exec = Jvm.exec) {x y v : UInt64} (hd : decode c.code pc = .ok (.dsub, 1)) (hp : pc' = pc + 1) (hn : Jvm.Free.Fl.NoNaN64 (FP.dsub x y)) (hv : FP.dsub x y = v) (k : G (T.setTop (mkF m pc' Ls (.double v :: rest)))) : G (T.setTop (mkF m pc Ls (.double y :: .double x :: rest))) := by
  subst hp
  subst hv
  refine hG _ _ (fun t ht => ?_) k
  exact XS.dsubS X.here hx rfl hd rfl hn rfl ht
theorem g_dmul (hG : Cl p e below G) (X : Stand p l e R s m args below meth c T locs cells slots) (hx : p.tables.exec = Jvm.exec) {x y v : UInt64} (hd : decode c.code pc = .ok (.dmul, 1)) (hp : pc' = pc + 1) (hn : Jvm.Free.Fl.NoNaN64 (FP.dmul x y)) (hv : FP.dmul x y = v) (k : G (T.setTop (mkF m pc' Ls (.double v :: rest)))) : G (T.setTop (mkF m pc Ls (.double y :: .double x :: rest))) := by
  subst hp
  subst hv
  refine hG _ _ (fun t ht => ?_) k
  exact XS.dmulS X.here hx rfl hd rfl hn rfl ht
theorem g_ddiv (hG : Cl p e below G) (X : Stand p l e R s m args below meth c T locs cells slots) (hx : p.tables.exec = Jvm.exec) {x y v : UInt64} (hd : decode c.code pc = .ok (.ddiv, 1)) (hp : pc' = pc + 1) (hn : Jvm.Free.Fl.NoNaN64 (FP.ddiv x y)) (hv : FP.ddiv x y = v) (k : G (T.setTop (mkF m pc' Ls (.double v :: rest)))) : G (T.setTop (mkF m pc Ls (.double y :: .double x :: rest))) := by
  subst hp
  subst hv
  refine hG _ _ (fun t ht => ?_) k
  exact XS.ddivS X.here hx rfl hd rfl hn rfl ht
theorem g_goto (hG : Cl p e below G) (X : Stand p l e R s m args below meth c T locs cells slots) (hx : p.tables.exec = Jvm.exec) {o : Int} (hd : decode c.code pc = .ok (.goto o, 3)) (ho : 0 ≤ (pc : Int) + o) (hp : ((pc : Int) + o).toNat = pc') (k : G (T.setTop (mkF m pc' Ls rest))) : G (T.setTop (mkF m pc Ls rest)) := by
  refine hG _ _ (fun t ht => ?_) k
  exact XS.goto X.here hx rfl (pc0 := pc) rfl hd ho hp ht
theorem g_ifYes (hG : Cl p e below G) (X : Stand p l e R s m args below meth c T locs cells slots) (hx : p.tables.exec = Jvm.exec) {cd : ClassFile.Cond} {x : Int32} {o : Int} (hd : decode c.code pc = .ok (.ifCond cd o, 3)) (hc : ifCond.holds cd x = true) (ho : 0 ≤ (pc : Int) + o) (hp : ((pc : Int) + o).toNat = pc') (k : G (T.setTop (mkF m pc' Ls rest))) : G (T.setTop (mkF m pc Ls (.int x :: rest))) := by
  refine hG _ _ (fun t ht => ?_) k
  exact XS.ifYes X.here hx rfl (pc0 := pc) rfl hd rfl hc ho hp ht
theorem g_ifNo (hG : Cl p e below G) (X : Stand p l e R s m args below meth c T locs cells slots) (hx : p.tables.exec = Jvm.exec) {cd : ClassFile.Cond} {x : Int32} {o : Int} (hd : decode c.code pc = .ok (.ifCond cd o, 3)) (hc : ifCond.holds cd x = false) (hp : pc' = pc + 3) (k : G (T.setTop (mkF m pc' Ls rest))) : G (T.setTop (mkF m pc Ls (.int x :: rest))) := by
  subst hp
  refine hG _ _ (fun t ht => ?_) k
  exact XS.ifNo X.here hx rfl hd rfl hc ht
theorem g_icmpYes (hG : Cl p e below G) (X : Stand p l e R s m args below meth c T locs cells slots) (hx : p.tables.exec = Jvm.exec) {cd : ClassFile.Cond} {x y : Int32} {o : Int} (hd : decode c.code pc = .ok (.if_icmp cd o, 3)) (hc : if_icmp.holds cd x y = true) (ho : 0 ≤ (pc : Int) + o) (hp : ((pc : Int) + o).toNat = pc') (k : G (T.setTop (mkF m pc' Ls rest))) : G (T.setTop (mkF m pc Ls (.int y :: .int x :: rest))) := by
  refine hG _ _ (fun t ht => ?_) k
  exact XS.icmpYes X.here hx rfl (pc0 := pc) rfl hd rfl hc ho hp ht
theorem g_icmpNo (hG : Cl p e below G) (X : Stand p l e R s m args below meth c T locs cells slots) (hx : p.tables.exec = Jvm.exec) {cd : ClassFile.Cond} {x y : Int32} {o : Int} (hd : decode c.code pc = .ok (.if_icmp cd o, 3)) (hc : if_icmp.holds cd x y = false) (hp : pc' = pc + 3) (k : G (T.setTop (mkF m pc' Ls rest))) : G (T.setTop (mkF m pc Ls (.int y :: .int x :: rest))) := by
  subst hp
  refine hG _ _ (fun t ht => ?_) k
  exact XS.icmpNo X.here hx rfl hd rfl hc ht
theorem g_ifnullYes (hG : Cl p e below G) (X : Stand p l e R s m args below meth c T locs cells slots) (hx : p.tables.exec = Jvm.exec) {o : Int} (hd : decode c.code pc = .ok (.ifnull o, 3)) (ho : 0 ≤ (pc : Int) + o) (hp : ((pc : Int) + o).toNat = pc') (k : G (T.setTop (mkF m pc' Ls rest))) : G (T.setTop (mkF m pc Ls (.null :: rest))) := by
  refine hG _ _ (fun t ht => ?_) k
  exact XS.ifnullYes X.here hx rfl (pc0 := pc) rfl hd rfl ho hp ht
theorem g_ifnullNo (hG : Cl p e below G) (X : Stand p l e R s m args below meth c T locs cells slots) (hx : p.tables.exec = Jvm.exec) {o : Int} {b : Addr} (hd : decode c.code pc = .ok (.ifnull o, 3)) (hp : pc' = pc + 3) (k : G (T.setTop (mkF m pc' Ls rest))) : G (T.setTop (mkF m pc Ls (.ref b :: rest))) := by
  subst hp
  refine hG _ _ (fun t ht => ?_) k
  exact XS.ifnullNo X.here hx rfl hd rfl ht
theorem g_ifnonnullYes (hG : Cl p e below G) (X : Stand p l e R s m args below meth c T locs cells slots) (hx : p.tables.exec = Jvm.exec) {o : Int} {b : Addr} (hd : decode c.code pc = .ok (.ifnonnull o, 3)) (ho : 0 ≤ (pc : Int) + o) (hp : ((pc : Int) + o).toNat = pc') (k : G (T.setTop (mkF m pc' Ls rest))) : G (T.setTop (mkF m pc Ls (.ref b :: rest))) := by
  refine hG _ _ (fun t ht => ?_) k
  exact XS.ifnonnullYes X.here hx rfl (pc0 := pc) rfl hd rfl ho hp ht
theorem g_ifnonnullNo (hG : Cl p e below G) (X : Stand p l e R s m args below meth c T locs cells slots) (hx : p.tables.exec = Jvm.exec) {o : Int} (hd : decode c.code pc = .ok (.ifnonnull o, 3)) (hp : pc' = pc + 3) (k : G (T.setTop (mkF m pc' Ls rest))) : G (T.setTop (mkF m pc Ls (.null :: rest))) := by
  subst hp
  refine hG _ _ (fun t ht => ?_) k
  exact XS.ifnonnullNo X.here hx rfl hd rfl ht
theorem g_acmp (hG : Cl p e below G) (X : Stand p l e R s m args below meth c T locs cells slots) (hx : p.tables.exec = Jvm.exec) {cd : ACond} {x y : Value} (h1 : x.isRef = true) (h2 : y.isRef = true) {o : Int} {same : Bool} (hd : decode c.code pc = .ok (.if_acmp cd o, 3)) (hq : decide (x = y) = same) (ho : 0 ≤ (pc : Int) + o) (hp : pc' = if acV cd same = true then ((pc : Int) + o).toNat else pc + 3) (k : G (T.setTop (mkF m pc' Ls rest))) : G (T.setTop (mkF m pc Ls (y :: x :: rest))) := by
  refine hG _ _ (fun t ht => ?_) k
  exact Jvm.RoadKit.acmp (g := mkF m pc Ls (y :: x :: rest)) X hx rfl h1 h2 (pc0 := pc) rfl hd rfl hq ho hp ht
/-! constants -/
theorem g_ldcInt (hG : Cl p e below G) (X : Stand p l e R s m args below meth c T locs cells slots) (hx : p.tables.exec = Jvm.exec) (hZ : Z.Warmed39 s.vm) {own : String} {index : Nat} {v : Int32} (hown : s.vm.findClass own = some m.cls) (w : (Jvm.Cond.constant own index v).before a0 Z = true) (hd : decode c.code pc = .ok (.ldc index, 2)) (hp : pc' = pc + 2) (k : G (T.setTop (mkF m pc' Ls (.int v :: rest)))) : G (T.setTop (mkF m pc Ls rest)) := by
  subst hp
  refine hG _ _ (fun t ht => ?_) k
  exact X.ldcInt hx hown (mvT hZ w) (g := mkF m pc Ls rest) rfl hd t ht
theorem g_ldcLong (hG : Cl p e below G) (X : Stand p l e R s m args below meth c T locs cells slots) (hx : p.tables.exec = Jvm.exec) (hZ : Z.Warmed39 s.vm) {own : String} {index : Nat} {v : Int64} (hown : s.vm.findClass own = some m.cls) (w : (Jvm.Cond.constantLong own index v).before a0 Z = true) (hd : decode c.code pc = .ok (.ldc2_w index, 3)) (hp : pc' = pc + 3) (k : G (T.setTop (mkF m pc' Ls (.long v :: rest)))) : G (T.setTop (mkF m pc Ls rest)) := by
  subst hp
  refine hG _ _ (fun t ht => ?_) k
  exact X.ldc2Long hx hown (mvT hZ w) (g := mkF m pc Ls rest) rfl hd t ht
theorem g_ldcDouble (hG : Cl p e below G) (X : Stand p l e R s m args below meth c T locs cells slots) (hx : p.tables.exec = Jvm.exec) (hZ : Z.Warmed39 s.vm) {own : String} {index : Nat} {v : UInt64} (hown : s.vm.findClass own = some m.cls) (w : (Jvm.Cond.constantDouble own index v).before a0 Z = true) (hd : decode c.code pc = .ok (.ldc2_w index, 3)) (hp : pc' = pc + 3) (k : G (T.setTop (mkF m pc' Ls (.double v :: rest)))) : G (T.setTop (mkF m pc Ls rest)) := by
  subst hp
  refine hG _ _ (fun t ht => ?_) k
  exact X.ldc2DoubleC hx hown (mvT hZ w) (g := mkF m pc Ls rest) rfl hd t ht
/-! fields -/
theorem g_getF (hG : Cl p e below G) (X : Stand p l e R s m args below meth c T locs cells slots) (hx : p.tables.exec = Jvm.exec) (hZ : Z.Warmed39 s.vm) {own R0 O n d : String} {index : Nat} (hown : s.vm.findClass own = some m.cls) (w : (Jvm.Cond.fieldLink own index R0 n d).before a0 Z = true) (via : Via Z R0 O n d) (eT : T.heap = h) {a : Addr} {v : Value} (F : Fld Z h a O n d v) (hd : decode c.code pc = .ok (.getfield index, 3)) (hp : pc' = pc + 3)
    (k : ∀ T', Stand p l e R s m args below meth c T' locs cells slots → T'.heap = h → G (T'.setTop (mkF m pc' Ls (v :: rest)))) : G (T.setTop (mkF m pc Ls (.ref a :: rest))) := by
  subst hp
  obtain ⟨T', X', e', st⟩ := getF X hx hZ hown (host := "") (Or.inl w) via eT F (g := mkF m pc Ls (.ref a :: rest)) rfl rfl hd
  exact hG _ _ st (k T' X' e')
theorem g_putF (hG : Cl p e below G) (X : Stand p l e R s m args below meth c T locs cells slots) (hx : p.tables.exec = Jvm.exec) (hZ : Z.Warmed39 s.vm) {own R0 O n d C : String} {index kk : Nat} {ty : FieldType} (hown : s.vm.findClass own = some m.cls) (w : (Jvm.Cond.fieldLink own index R0 n d).before a0 Z = true) (via : Via Z R0 O n d) (eT : T.heap = h) {a : Addr} {v v' old : Value} (F : Fld Z h a O n d old) (E : Exa Z h a C)
    (L : (Jvm.Cond.lays C O n d).before a0 Z = true ∨ ((Jvm.Cond.laysFinal C O n d).before a0 Z = true ∧ own = O ∧ meth.name = "<init>")) (wi : (Jvm.Cond.instantiable C kk).before a0 Z = true) (hty : parseFieldDescriptor d = some ty) (hn : narrow ty v = v') (hf : fits ty v' = true) (hd : decode c.code pc = .ok (.putfield index, 3)) (hp : pc' = pc + 3)
    (k : ∀ T' h', Stand p l e R s m args below meth c T' (locs ++ [⟨a, Jvm.RoadKit.slotOf Z O n d⟩]) cells slots → T'.heap = h' → Wr h h' a (Jvm.RoadKit.slotOf Z O n d) v' → G (T'.setTop (mkF m pc' Ls rest))) : G (T.setTop (mkF m pc Ls (v :: .ref a :: rest))) := by
  subst hp
  obtain ⟨T', h', X', e', W, st⟩ := putFN X hx hZ hown w via eT F E L wi hty hn hf (g := mkF m pc Ls (v :: .ref a :: rest)) rfl rfl hd
  exact hG _ _ st (k T' h' X' e' W)
theorem g_newO (hG : Cl p e below G) (X : Stand p l e R s m args below meth c T locs cells slots) (hx : p.tables.exec = Jvm.exec) (hZ : Z.Warmed39 s.vm) {own C : String} {index n : Nat} (hown : s.vm.findClass own = some m.cls) (w : (Jvm.Cond.classLink own index C).before a0 Z = true) (wi : (Jvm.Cond.instantiable C n).before a0 Z = true) (wz : (Jvm.Cond.initialized C).before a0 Z = true) (eT : T.heap = h) (hd : decode c.code pc = .ok (.new index, 3)) (hc : cells + 1 ≤ R.cells) (hl : slots + n ≤ R.slots) (hp : pc' = pc + 3)
    (k : ∀ T' h' b, b = h.size → Stand p l e R s m args below meth c T' locs (cells + 1) (slots + n) → T'.heap = h' → Ext h h' → Exa Z h' b C → (∀ {O nm d : String} {ty : FieldType}, Laid Z a0 C O nm d → parseFieldDescriptor d = some ty → Fld Z h' b O nm d (defaultValue ty)) → G (T'.setTop (mkF m pc' Ls (.ref b :: rest)))) : G (T.setTop (mkF m pc Ls rest)) := by
  subst hp
  obtain ⟨T', h', X', e', E, A, D, -, st⟩ := newO X hx hZ hown w wi wz eT (g := mkF m pc Ls rest) rfl hd hc hl
  exact hG _ _ st (k T' h' _ rfl X' e' E A D)
theorem g_initO (hG : Cl p e below G) (X : Stand p l e R s m args below meth c T locs cells slots) (hx : p.tables.exec = Jvm.exec) (hZ : Z.Warmed39 s.vm) {own : String} {index : Nat} (hown : s.vm.findClass own = some m.cls) (w1 : (Jvm.Cond.methodLink own index Lib.objectInit).before a0 Z = true) (w2 : (Jvm.Cond.instanceMethod Lib.objectInit).before a0 Z = true) (w3 : (Jvm.Cond.code Lib.objectInit ⟨#[0xb1]⟩ 1 none).before a0 Z = true) (eT : T.heap = h) {a : Addr}
    (hsz : Ls.size = c.maxLocals) (hd : decode c.code pc = .ok (.invokespecial index, 3)) (hfr : 1 ≤ R.frames) (hlo : (rest.map fun v => v.category).sum + 12 ≤ R.locals) (hp : pc' = pc + 3)
    (k : ∀ T', Stand p l e R s m args below meth c T' locs cells slots → T'.heap = h → G (T'.setTop (mkF m pc' Ls rest))) : G (T.setTop (mkF m pc Ls (.ref a :: rest))) := by
  subst hp
  obtain ⟨T', X', e', st⟩ := initO X hx hZ hown w1 w2 w3 eT (g := mkF m pc Ls (.ref a :: rest)) rfl hsz rfl hd hfr (W := (rest.map fun v => v.category).sum) (by show 2 * 0 + _ ≤ _; omega) hlo
  exact hG _ _ st (k T' X' e')
/-! arrays -/
theorem g_newP (hG : Cl p e below G) (X : Stand p l e R s m args below meth c T locs cells slots) (hx : p.tables.exec = Jvm.exec) (hZ : Z.Warmed39 s.vm) {aty : ArrayType} (w : (Jvm.Cond.arrayClass (newarray.typeOf aty)).before a0 Z = true) (eT : T.heap = h) {n : Int32} (hd : decode c.code pc = .ok (.newarray aty, 2)) (hn : ¬ n < 0) (cap : Nat) (hcap : n.toNatClampNeg ≤ cap) (hb : cap * 8 ≤ 536870912) (hc : cells + 1 ≤ R.cells) (hl : slots + cap ≤ R.slots) (hp : pc' = pc + 2)
    (k : ∀ T' h' b kA, b = h.size → Stand p l e R s m args below meth c T' locs (cells + 1) (slots + cap) → T'.heap = h' → Ext h h' → Arv Z h' b kA (newarray.typeOf aty) n [] (defaultValue (newarray.typeOf aty)) → G (T'.setTop (mkF m pc' Ls (.ref b :: rest)))) : G (T.setTop (mkF m pc Ls (.int n :: rest))) := by
  subst hp
  obtain ⟨T', h', kA, X', e', E, A, st⟩ := newP X hx hZ w eT (g := mkF m pc Ls (.int n :: rest)) rfl hd rfl hn hcap hb hc hl
  exact hG _ _ st (k T' h' _ kA rfl X' e' E (Arv.new A hn))

/-! arrays, with all that they hold -/
def AV (Z : State) (h : Heap) (a : Addr) (ty : FieldType) (n : Int32) (vs : List Value) : Prop := ∃ k, Arv Z h a k ty n vs (defaultValue ty) ∧ vs.length = n.toNatClampNeg
theorem AV.lt {a : Addr} {ty : FieldType} {n : Int32} {vs : List Value} (A : AV Z h a ty n vs) : a < h.size := by obtain ⟨k, A, -⟩ := A; exact A.lt
theorem AV.ext {h' : Heap} {a : Addr} {ty : FieldType} {n : Int32} {vs : List Value} (A : AV Z h a ty n vs) (E : Ext h h') : AV Z h' a ty n vs := by obtain ⟨k, A, q⟩ := A; exact ⟨k, A.ext E, q⟩
theorem AV.other {h' : Heap} {a b : Addr} {sl : Nat} {v : Value} {ty : FieldType} {n : Int32} {vs : List Value} (A : AV Z h a ty n vs) (W : Wr h h' b sl v) (q : a ≠ b) : AV Z h' a ty n vs := by obtain ⟨k, A, r⟩ := A; exact ⟨k, A.other W q, r⟩
theorem AV.keep {h' : Heap} {a : Addr} {ws : List Addr} {ty : FieldType} {n : Int32} {vs : List Value} (A : AV Z h a ty n vs) (K : Keep h h' ws) (q : a ∉ ws) : AV Z h' a ty n vs := by obtain ⟨k, A, r⟩ := A; exact ⟨k, A.keep K q, r⟩
theorem AV.new {a : Addr} {k : ClassId} {ty : FieldType} {n : Int32} (A : Arv Z h a k ty n [] (defaultValue ty)) : AV Z h a ty n (List.replicate n.toNatClampNeg (defaultValue ty)) := ⟨k, A.pad (fun i => by have q := pad_rep [] (defaultValue ty) n.toNatClampNeg i; simpa using q), by simp⟩
theorem AV.at {a : Addr} {ty : FieldType} {n : Int32} {vs : List Value} (A : AV Z h a ty n vs) {j : Int32} {v : Value} (hj : ¬ j < 0) (hv : vs[j.toNatClampNeg]? = some v) :
    ∃ c, Arr Z h a c ty ∧ ¬ (j < 0 ∨ c.slots.size ≤ j.toNatClampNeg) ∧ c.slots[j.toNatClampNeg]? = some v := by
  obtain ⟨k, ⟨c, A, q1, S, q3, H, Gf⟩, q⟩ := A
  have hl : j.toNatClampNeg < vs.length := (List.getElem?_eq_some_iff.mp hv).1
  have hin : ¬ (j < 0 ∨ c.slots.size ≤ j.toNatClampNeg) := fun z => z.elim hj (fun y => by omega)
  refine ⟨c, A, hin, Has.at H hin ?_⟩
  simp [List.getD, hv]
theorem AV.set {h' : Heap} {a : Addr} {ty : FieldType} {n : Int32} {vs : List Value} (A : AV Z h a ty n vs) {j : Int32} {v : Value} (W : Wr h h' a j.toNatClampNeg v) (hv : fits ty v = true) (hl : j.toNatClampNeg < vs.length) : AV Z h' a ty n (vs.set j.toNatClampNeg v) := by
  obtain ⟨k, ⟨c, A, q1, S, q3, H, Gf⟩, q⟩ := A
  exact ⟨k, Arv.set A q1 S q3 H Gf hv W _ rfl hl, by simpa using q⟩
theorem AV.inb {a : Addr} {ty : FieldType} {n : Int32} {vs : List Value} (A : AV Z h a ty n vs) {j : Int32} (hj : ¬ j < 0) (hl : j.toNatClampNeg < vs.length) : ∃ c, Arr Z h a c ty ∧ ¬ (j < 0 ∨ c.slots.size ≤ j.toNatClampNeg) := by
  obtain ⟨k, ⟨c, A, q1, S, q3, H, Gf⟩, q⟩ := A
  exact ⟨c, A, fun z => z.elim hj (fun y => by omega)⟩
theorem g_iaload (hG : Cl p e below G) (X : Stand p l e R s m args below meth c T locs cells slots) (hx : p.tables.exec = Jvm.exec) (hZ : Z.Warmed39 s.vm) (eT : T.heap = h) {a : Addr} {n : Int32} {vs : List Value} (A : AV Z h a .int n vs) {j : Int32} {v : Value} (hj : ¬ j < 0) (hv : vs[j.toNatClampNeg]? = some v) (hd : decode c.code pc = .ok (.iaload, 1)) (hp : pc' = pc + 1) (k : G (T.setTop (mkF m pc' Ls (v :: rest)))) : G (T.setTop (mkF m pc Ls (.int j :: .ref a :: rest))) := by
  subst hp
  obtain ⟨cl, Ar, hin, hat⟩ := A.at hj hv
  refine hG _ _ (fun t ht => ?_) k
  exact X.iaload hx (by rw [eT]; exact Ar.1) (State.isArrayOf_alike hZ.alike Ar.2.1) Ar.2.2 hin hat (g := mkF m pc Ls (.int j :: .ref a :: rest)) rfl rfl hd t ht
theorem g_daload (hG : Cl p e below G) (X : Stand p l e R s m args below meth c T locs cells slots) (hx : p.tables.exec = Jvm.exec) (hZ : Z.Warmed39 s.vm) (eT : T.heap = h) {a : Addr} {n : Int32} {vs : List Value} (A : AV Z h a .double n vs) {j : Int32} {v : Value} (hj : ¬ j < 0) (hv : vs[j.toNatClampNeg]? = some v) (hd : decode c.code pc = .ok (.daload, 1)) (hp : pc' = pc + 1) (k : G (T.setTop (mkF m pc' Ls (v :: rest)))) : G (T.setTop (mkF m pc Ls (.int j :: .ref a :: rest))) := by
  subst hp
  obtain ⟨cl, Ar, hin, hat⟩ := A.at hj hv
  refine hG _ _ (fun t ht => ?_) k
  exact X.daload hx (by rw [eT]; exact Ar.1) (State.isArrayOf_alike hZ.alike Ar.2.1) Ar.2.2 hin hat (g := mkF m pc Ls (.int j :: .ref a :: rest)) rfl rfl hd t ht
theorem g_laload (hG : Cl p e below G) (X : Stand p l e R s m args below meth c T locs cells slots) (hx : p.tables.exec = Jvm.exec) (hZ : Z.Warmed39 s.vm) (eT : T.heap = h) {a : Addr} {n : Int32} {vs : List Value} (A : AV Z h a .long n vs) {j : Int32} {v : Value} (hj : ¬ j < 0) (hv : vs[j.toNatClampNeg]? = some v) (hd : decode c.code pc = .ok (.laload, 1)) (hp : pc' = pc + 1) (k : G (T.setTop (mkF m pc' Ls (v :: rest)))) : G (T.setTop (mkF m pc Ls (.int j :: .ref a :: rest))) := by
  subst hp
  obtain ⟨cl, Ar, hin, hat⟩ := A.at hj hv
  refine hG _ _ (fun t ht => ?_) k
  exact X.laload hx (by rw [eT]; exact Ar.1) (State.isArrayOf_alike hZ.alike Ar.2.1) Ar.2.2 hin hat (g := mkF m pc Ls (.int j :: .ref a :: rest)) rfl rfl hd t ht
theorem g_zaload (hG : Cl p e below G) (X : Stand p l e R s m args below meth c T locs cells slots) (hx : p.tables.exec = Jvm.exec) (hZ : Z.Warmed39 s.vm) (eT : T.heap = h) {a : Addr} {n : Int32} {vs : List Value} (A : AV Z h a .boolean n vs) {j : Int32} {v : Value} (hj : ¬ j < 0) (hv : vs[j.toNatClampNeg]? = some v) (hd : decode c.code pc = .ok (.baload, 1)) (hp : pc' = pc + 1) (k : G (T.setTop (mkF m pc' Ls (v :: rest)))) : G (T.setTop (mkF m pc Ls (.int j :: .ref a :: rest))) := by
  subst hp
  obtain ⟨cl, Ar, hin, hat⟩ := A.at hj hv
  refine hG _ _ (fun t ht => ?_) k
  exact X.baloadBooleans hx (by rw [eT]; exact Ar.1) (State.isArrayOf_alike hZ.alike Ar.2.1) Ar.2.2 hin hat (g := mkF m pc Ls (.int j :: .ref a :: rest)) rfl rfl hd t ht
theorem g_iastore (hG : Cl p e below G) (X : Stand p l e R s m args below meth c T locs cells slots) (hx : p.tables.exec = Jvm.exec) (hZ : Z.Warmed39 s.vm) (eT : T.heap = h) {a : Addr} {n : Int32} {vs : List Value} (A : AV Z h a .int n vs) {j : Int32} {x : Int32} (hj : ¬ j < 0) (hl : j.toNatClampNeg < vs.length) (hd : decode c.code pc = .ok (.iastore, 1)) (hp : pc' = pc + 1)
    (k : ∀ T' h', Stand p l e R s m args below meth c T' (locs ++ [⟨a, j.toNatClampNeg⟩]) cells slots → T'.heap = h' → Wr h h' a j.toNatClampNeg (.int x) → AV Z h' a .int n (vs.set j.toNatClampNeg (.int x)) → G (T'.setTop (mkF m pc' Ls rest))) : G (T.setTop (mkF m pc Ls (.int x :: .int j :: .ref a :: rest))) := by
  subst hp
  obtain ⟨cl, Ar, hin⟩ := A.inb hj hl
  obtain ⟨T', h', X', e', W, st⟩ := stI X hx hZ eT Ar hin (g := mkF m pc Ls (.int x :: .int j :: .ref a :: rest)) rfl rfl hd
  exact hG _ _ st (k T' h' X' e' W (A.set W rfl hl))
theorem g_dastore (hG : Cl p e below G) (X : Stand p l e R s m args below meth c T locs cells slots) (hx : p.tables.exec = Jvm.exec) (hZ : Z.Warmed39 s.vm) (eT : T.heap = h) {a : Addr} {n : Int32} {vs : List Value} (A : AV Z h a .double n vs) {j : Int32} {x : UInt64} (hj : ¬ j < 0) (hl : j.toNatClampNeg < vs.length) (hd : decode c.code pc = .ok (.dastore, 1)) (hp : pc' = pc + 1)
    (k : ∀ T' h', Stand p l e R s m args below meth c T' (locs ++ [⟨a, j.toNatClampNeg⟩]) cells slots → T'.heap = h' → Wr h h' a j.toNatClampNeg (.double x) → AV Z h' a .double n (vs.set j.toNatClampNeg (.double x)) → G (T'.setTop (mkF m pc' Ls rest))) : G (T.setTop (mkF m pc Ls (.double x :: .int j :: .ref a :: rest))) := by
  subst hp
  obtain ⟨cl, Ar, hin⟩ := A.inb hj hl
  obtain ⟨T', h', X', e', W, st⟩ := stD X hx hZ eT Ar hin (g := mkF m pc Ls (.double x :: .int j :: .ref a :: rest)) rfl rfl hd
  exact hG _ _ st (k T' h' X' e' W (A.set W rfl hl))
theorem g_lastore (hG : Cl p e below G) (X : Stand p l e R s m args below meth c T locs cells slots) (hx : p.tables.exec = Jvm.exec) (hZ : Z.Warmed39 s.vm) (eT : T.heap = h) {a : Addr} {n : Int32} {vs : List Value} (A : AV Z h a .long n vs) {j : Int32} {x : Int64} (hj : ¬ j < 0) (hl : j.toNatClampNeg < vs.length) (hd : decode c.code pc = .ok (.lastore, 1)) (hp : pc' = pc + 1)
    (k : ∀ T' h', Stand p l e R s m args below meth c T' (locs ++ [⟨a, j.toNatClampNeg⟩]) cells slots → T'.heap = h' → Wr h h' a j.toNatClampNeg (.long x) → AV Z h' a .long n (vs.set j.toNatClampNeg (.long x)) → G (T'.setTop (mkF m pc' Ls rest))) : G (T.setTop (mkF m pc Ls (.long x :: .int j :: .ref a :: rest))) := by
  subst hp
  obtain ⟨cl, Ar, hin⟩ := A.inb hj hl
  obtain ⟨T', h', X', e', W, st⟩ := stJ X hx hZ eT Ar hin (g := mkF m pc Ls (.long x :: .int j :: .ref a :: rest)) rfl rfl hd
  exact hG _ _ st (k T' h' X' e' W (A.set W rfl hl))
theorem g_zastore (hG : Cl p e below G) (X : Stand p l e R s m args below meth c T locs cells slots) (hx : p.tables.exec = Jvm.exec) (hZ : Z.Warmed39 s.vm) (eT : T.heap = h) {a : Addr} {n : Int32} {vs : List Value} (A : AV Z h a .boolean n vs) {j : Int32} {x : Int32} (hj : ¬ j < 0) (hl : j.toNatClampNeg < vs.length) (hd : decode c.code pc = .ok (.bastore, 1)) (hp : pc' = pc + 1)
    (k : ∀ T' h', Stand p l e R s m args below meth c T' (locs ++ [⟨a, j.toNatClampNeg⟩]) cells slots → T'.heap = h' → Wr h h' a j.toNatClampNeg (.int (nar .boolean x)) → AV Z h' a .boolean n (vs.set j.toNatClampNeg (.int (nar .boolean x))) → G (T'.setTop (mkF m pc' Ls rest))) : G (T.setTop (mkF m pc Ls (.int x :: .int j :: .ref a :: rest))) := by
  subst hp
  obtain ⟨cl, Ar, hin⟩ := A.inb hj hl
  obtain ⟨T', h', X', e', W, st⟩ := stZ X hx hZ eT Ar hin (g := mkF m pc Ls (.int x :: .int j :: .ref a :: rest)) rfl rfl hd
  exact hG _ _ st (k T' h' X' e' W (A.set W (fits_nar_bool _) hl))
theorem g_bbastore (hG : Cl p e below G) (X : Stand p l e R s m args below meth c T locs cells slots) (hx : p.tables.exec = Jvm.exec) (hZ : Z.Warmed39 s.vm) (eT : T.heap = h) {a : Addr} {n : Int32} {vs : List Value} (A : AV Z h a .byte n vs) {j : Int32} {x : Int32} (hj : ¬ j < 0) (hl : j.toNatClampNeg < vs.length) (hd : decode c.code pc = .ok (.bastore, 1)) (hp : pc' = pc + 1)
    (k : ∀ T' h', Stand p l e R s m args below meth c T' (locs ++ [⟨a, j.toNatClampNeg⟩]) cells slots → T'.heap = h' → Wr h h' a j.toNatClampNeg (.int x.toInt8.toInt32) → AV Z h' a .byte n (vs.set j.toNatClampNeg (.int x.toInt8.toInt32)) → G (T'.setTop (mkF m pc' Ls rest))) : G (T.setTop (mkF m pc Ls (.int x :: .int j :: .ref a :: rest))) := by
  subst hp
  obtain ⟨cl, Ar, hin⟩ := A.inb hj hl
  obtain ⟨T', h', X', e', W, st⟩ := stB X hx hZ eT Ar hin (g := mkF m pc Ls (.int x :: .int j :: .ref a :: rest)) rfl rfl hd
  exact hG _ _ st (k T' h' X' e' W (A.set W (fits_nar_byte _) hl))
theorem g_arraylength (hG : Cl p e below G) (X : Stand p l e R s m args below meth c T locs cells slots) (hx : p.tables.exec = Jvm.exec) (hZ : Z.Warmed39 s.vm) (eT : T.heap = h) {a : Addr} {ty : FieldType} {n : Int32} {vs : List Value} (A : AV Z h a ty n vs) (hd : decode c.code pc = .ok (.arraylength, 1)) (hp : pc' = pc + 1) (k : G (T.setTop (mkF m pc' Ls (.int n :: rest)))) : G (T.setTop (mkF m pc Ls (.ref a :: rest))) := by
  subst hp
  obtain ⟨kA, ⟨cl, Ar, q1, S, q3, H, Gf⟩, q⟩ := A
  rw [← len_of S q3] at k
  refine hG _ _ (fun t ht => ?_) k
  exact X.arraylength hx (by rw [eT]; exact Ar.1) (State.isArrayOf_alike hZ.alike Ar.2.1) (g := mkF m pc Ls (.ref a :: rest)) rfl rfl hd t ht
/-! calls by a contract -/
theorem g_callS (hG : Cl p e below G) (X : Stand p l e R s m args below meth c T locs cells slots) (hx : p.tables.exec = Jvm.exec) (hZ : Z.Warmed39 s.vm) {own : String} {index : Nat} {y : MethodName} {bytes : ByteArray} {maxL : Nat} {ret : Option FieldType} {rm : Room} {as : Array Value} {Qc : Option Value → Heap → List Loc → Prop} {argsL stack : List Value} {ps : List FieldType} {rt : Option FieldType} (W : Nat)
    (hown : s.vm.findClass own = some m.cls) (w1 : (Jvm.Cond.methodLink own index y).before a0 Z = true) (w2 : (Jvm.Cond.static y).before a0 Z = true) (w3 : (Jvm.Cond.initialized y.cls).before a0 Z = true) (w4 : (Jvm.Cond.code y bytes maxL ret).before a0 Z = true) (hy : y.cls ≠ "java/lang/invoke/MethodHandle" ∧ y.cls ≠ "java/lang/invoke/VarHandle")
    (hM : Con l y bytes maxL ret [] rm Z as h rm.cells rm.slots Qc) (hfr : rm.frames + 1 ≤ R.frames) (hlo : W + (maxL + 11) + rm.locals ≤ R.locals) (hsz : Ls.size = c.maxLocals) (hpd : parseMethodDescriptor y.desc = some ⟨ps, rt⟩) (hln : argsL.length = ps.length) (hst : stack = argsL.reverse ++ rest) (has : argsL.toArray = as) (hW : (rest.map fun v => v.category).sum ≤ W)
    (hd : decode c.code pc = .ok (.invokestatic index, 3)) (eT : T.heap = h) (hc : cells + rm.cells ≤ R.cells) (hs : slots + rm.slots ≤ R.slots) (hp : pc' = pc + 3)
    (k : ∀ T' v L', Stand p l e R s m args below meth c T' (locs ++ L') (cells + rm.cells) (slots + rm.slots) → Qc v T'.heap L' → G (T'.setTop (mkF m pc' Ls (v.toList ++ rest)))) : G (T.setTop (mkF m pc Ls stack)) := by
  subst hp hst has
  obtain ⟨v, _, ⟨T1, L1, k1, n1⟩, -, X1, ⟨Lc, hQ, l1, y1, z1⟩, st⟩ := Jvm.LawKit.callS X hx (y := y) hown (mvT hZ w1) (mvT hZ w2) (mvT hZ w3) (mvT hZ w4) hy (backOf (W := W) hM hZ w4 w3 hfr hlo) (g := mkF m pc Ls (argsL.reverse ++ rest)) rfl hsz (argsL := argsL) (rest := rest) (lenOf hpd hln) rfl (by show 2 * 0 + _ ≤ _; omega) hd (fun _ _ => ⟨rfl, eT, hc, hs⟩)
  dsimp only [Pt.U, Pt.locs, Pt.cells, Pt.slots] at X1 l1 y1 z1 st hQ
  subst l1 y1 z1
  exact hG _ _ st (k T1 v Lc X1 hQ)
theorem g_callI (hG : Cl p e below G) (X : Stand p l e R s m args below meth c T locs cells slots) (hx : p.tables.exec = Jvm.exec) (hZ : Z.Warmed39 s.vm) {own : String} {index : Nat} {y : MethodName} {bytes : ByteArray} {maxL : Nat} {rm : Room} {as : Array Value} {Qc : Option Value → Heap → List Loc → Prop} {a : Addr} {argsL stack : List Value} {ps : List FieldType} {rt : Option FieldType} (W : Nat)
    (hy1 : y.name = "<init>") (hown : s.vm.findClass own = some m.cls) (w1 : (Jvm.Cond.methodLink own index y).before a0 Z = true) (w2 : (Jvm.Cond.instanceMethod y).before a0 Z = true) (w3 : (Jvm.Cond.initialized y.cls).before a0 Z = true) (w4 : (Jvm.Cond.code y bytes maxL none).before a0 Z = true) (hy : y.cls ≠ "java/lang/invoke/MethodHandle" ∧ y.cls ≠ "java/lang/invoke/VarHandle")
    (hM : Con l y bytes maxL none [] rm Z as h rm.cells rm.slots Qc) (hfr : rm.frames + 1 ≤ R.frames) (hlo : W + (maxL + 11) + rm.locals ≤ R.locals) (hsz : Ls.size = c.maxLocals) (hpd : parseMethodDescriptor y.desc = some ⟨ps, rt⟩) (hln : argsL.length = ps.length) (hst : stack = argsL.reverse ++ .ref a :: rest) (has : (.ref a :: argsL).toArray = as) (hW : (rest.map fun v => v.category).sum ≤ W)
    (hd : decode c.code pc = .ok (.invokespecial index, 3)) (eT : T.heap = h) (hc : cells + rm.cells ≤ R.cells) (hs : slots + rm.slots ≤ R.slots) (hp : pc' = pc + 3)
    (k : ∀ T' v L', Stand p l e R s m args below meth c T' (locs ++ L') (cells + rm.cells) (slots + rm.slots) → Qc v T'.heap L' → G (T'.setTop (mkF m pc' Ls (v.toList ++ rest)))) : G (T.setTop (mkF m pc Ls stack)) := by
  subst hp hst has
  obtain ⟨v, _, ⟨T1, L1, k1, n1⟩, -, X1, ⟨Lc, hQ, l1, y1, z1⟩, st⟩ := X.specialBack hx (y := y) hy1 hown (mvT hZ w1) (mvT hZ w2) (mvT hZ w4) hy (backOf (W := W) hM hZ w4 w3 hfr hlo) (g := mkF m pc Ls (argsL.reverse ++ .ref a :: rest)) rfl hsz (Steps.refl _) (a := a) (argsL := argsL) (rest := rest) (lenOf hpd hln) rfl (by show 2 * 0 + _ ≤ _; omega) hd (fun _ _ => ⟨rfl, eT, hc, hs⟩)
  dsimp only [Pt.U, Pt.locs, Pt.cells, Pt.slots] at X1 l1 y1 z1 st hQ
  subst l1 y1 z1
  exact hG _ _ (fun t ht => st.trans ht) (k T1 v Lc X1 hQ)
theorem g_callV (hG : Cl p e below G) (X : Stand p l e R s m args below meth c T locs cells slots) (hx : p.tables.exec = Jvm.exec) (hZ : Z.Warmed39 s.vm) {own C : String} {index : Nat} {y : MethodName} {bytes : ByteArray} {maxL : Nat} {ret : Option FieldType} {rm : Room} {as : Array Value} {Qc : Option Value → Heap → List Loc → Prop} {a : Addr} {argsL stack : List Value} {ps : List FieldType} {rt : Option FieldType} (W : Nat)
    (hown : s.vm.findClass own = some m.cls) (w1 : (Jvm.Cond.methodLink own index y).before a0 Z = true) (w2 : (Jvm.Cond.declares y).before a0 Z = true) (ws : (Jvm.Cond.selects C y y).before a0 Z = true) (wi : (Jvm.Cond.instanceMethod y).before a0 Z = true) (w3 : (Jvm.Cond.initialized y.cls).before a0 Z = true) (w4 : (Jvm.Cond.code y bytes maxL ret).before a0 Z = true) (hy : y.cls ≠ "java/lang/invoke/MethodHandle" ∧ y.cls ≠ "java/lang/invoke/VarHandle")
    (hM : Con l y bytes maxL ret [] rm Z as h rm.cells rm.slots Qc) (hfr : rm.frames + 1 ≤ R.frames) (hlo : W + (maxL + 11) + rm.locals ≤ R.locals) (hsz : Ls.size = c.maxLocals) (hpd : parseMethodDescriptor y.desc = some ⟨ps, rt⟩) (hln : argsL.length = ps.length) (hst : stack = argsL.reverse ++ .ref a :: rest) (has : (.ref a :: argsL).toArray = as) (hW : (rest.map fun v => v.category).sum ≤ W)
    (hd : decode c.code pc = .ok (.invokevirtual index, 3)) (eT : T.heap = h) (E : Exa Z h a C) (hc : cells + rm.cells ≤ R.cells) (hs : slots + rm.slots ≤ R.slots) (hp : pc' = pc + 3)
    (k : ∀ T' v L', Stand p l e R s m args below meth c T' (locs ++ L') (cells + rm.cells) (slots + rm.slots) → Qc v T'.heap L' → G (T'.setTop (mkF m pc' Ls (v.toList ++ rest)))) : G (T.setTop (mkF m pc Ls stack)) := by
  subst hp hst has
  obtain ⟨cq, kq, qa, qb, qc⟩ := isOf hZ eT E
  obtain ⟨v, _, ⟨T1, L1, k1, n1⟩, -, X1, ⟨Lc, hQ, l1, y1, z1⟩, st⟩ := X.virtualBack hx (y := y) (z := y) hown (mvT hZ w1) (mvT hZ w2) (notFace_of_selects (args := #[]) (mvT hZ ws)) (mvT hZ ws) (mvT hZ wi) hy (backOf (W := W) hM hZ w4 w3 hfr hlo) qa qc (g := mkF m pc Ls (argsL.reverse ++ .ref a :: rest)) rfl hsz (Steps.refl _) (argsL := argsL) (rest := rest) (lenOf hpd hln) rfl (by show 2 * 0 + _ ≤ _; omega) hd (fun _ _ => ⟨rfl, eT, hc, hs⟩)
  dsimp only [Pt.U, Pt.locs, Pt.cells, Pt.slots] at X1 l1 y1 z1 st hQ
  subst l1 y1 z1
  exact hG _ _ (fun t ht => st.trans ht) (k T1 v Lc X1 hQ)
theorem g_callP (hG : Cl p e below G) (X : Stand p l e R s m args below meth c T locs cells slots) (hx : p.tables.exec = Jvm.exec) (hZ : Z.Warmed39 s.vm) {own C : String} {index : Nat} {y : MethodName} {bytes : ByteArray} {maxL : Nat} {ret : Option FieldType} {rm : Room} {as : Array Value} {Qc : Option Value → Heap → List Loc → Prop} {a : Addr} {argsL stack : List Value} {ps : List FieldType} {rt : Option FieldType} (W : Nat)
    (hown : s.vm.findClass own = some m.cls) (w1 : (Jvm.Cond.methodLink own index y).before a0 Z = true) (wi : (Jvm.Cond.instanceMethod y).before a0 Z = true) {kk : Nat} (wk : (Jvm.Cond.instantiable y.cls kk).before a0 Z = true) (wp : (Jvm.Cond.privateMethod y).before a0 Z = true) (w3 : (Jvm.Cond.initialized y.cls).before a0 Z = true) (w4 : (Jvm.Cond.code y bytes maxL ret).before a0 Z = true) (hy : y.cls ≠ "java/lang/invoke/MethodHandle" ∧ y.cls ≠ "java/lang/invoke/VarHandle")
    (hM : Con l y bytes maxL ret [] rm Z as h rm.cells rm.slots Qc) (hfr : rm.frames + 1 ≤ R.frames) (hlo : W + (maxL + 11) + rm.locals ≤ R.locals) (hsz : Ls.size = c.maxLocals) (hpd : parseMethodDescriptor y.desc = some ⟨ps, rt⟩) (hln : argsL.length = ps.length) (hst : stack = argsL.reverse ++ .ref a :: rest) (has : (.ref a :: argsL).toArray = as) (hW : (rest.map fun v => v.category).sum ≤ W)
    (hd : decode c.code pc = .ok (.invokevirtual index, 3)) (eT : T.heap = h) (E : Exa Z h a C) (hc : cells + rm.cells ≤ R.cells) (hs : slots + rm.slots ≤ R.slots) (hp : pc' = pc + 3)
    (k : ∀ T' v L', Stand p l e R s m args below meth c T' (locs ++ L') (cells + rm.cells) (slots + rm.slots) → Qc v T'.heap L' → G (T'.setTop (mkF m pc' Ls (v.toList ++ rest)))) : G (T.setTop (mkF m pc Ls stack)) := by
  subst hp hst has
  obtain ⟨cq, q1, q2⟩ := E.cell
  have hpv : s.PrivateAt y := Jvm.Cond.privateMethod_at (mvP hZ wp (args := #[]))
  obtain ⟨ck, kk', j1, j2, -, j4, -⟩ := Jvm.Cond.instantiable_spec (mvT (args := args) hZ wk)
  have ws : (Jvm.Cond.selects y.cls y y).before args s = true := selects_self_of_private j1 j2 (by simp at j4; exact j4.1) hpv (mvT hZ wi) hy
  obtain ⟨v, _, ⟨T1, L1, k1, n1⟩, -, X1, ⟨Lc, hQ, l1, y1, z1⟩, st⟩ := X.privateBack hx (y := y) hown (mvT hZ w1) (mvT hZ wi) ws hpv (mvT hZ w4) hy (backOf (W := W) hM hZ w4 w3 hfr hlo) (g := mkF m pc Ls (argsL.reverse ++ .ref a :: rest)) rfl hsz (Steps.refl _) (a := a) (by rw [eT]; exact q1) q2 (argsL := argsL) (rest := rest) (lenOf hpd hln) rfl (by show 2 * 0 + _ ≤ _; omega) hd (fun _ _ => ⟨rfl, eT, hc, hs⟩)
  dsimp only [Pt.U, Pt.locs, Pt.cells, Pt.slots] at X1 l1 y1 z1 st hQ
  subst l1 y1 z1
  exact hG _ _ (fun t ht => st.trans ht) (k T1 v Lc X1 hQ)
theorem g_natS (hG : Cl p e below G) (X : Stand p l e R s m args below meth c T locs cells slots) (hx : p.tables.exec = Jvm.exec) (hZ : Z.Warmed39 s.vm) {own : String} {index : Nat} {y : MethodName} {by0 : ByteArray} {ml : Nat} {rt : Option FieldType} {F : Array Value → Prop} {val : Value} {argsL stack : List Value} {ps : List FieldType} {rt' : Option FieldType} (W : Nat)
    (hown : s.vm.findClass own = some m.cls) (w1 : (Jvm.Cond.methodLink own index y).before a0 Z = true) (w2 : (Jvm.Cond.static y).before a0 Z = true) (w3 : (Jvm.Cond.initialized y.cls).before a0 Z = true) (w4 : (Jvm.Cond.code y by0 ml rt).before a0 Z = true) (hy : y.cls ≠ "java/lang/invoke/MethodHandle" ∧ y.cls ≠ "java/lang/invoke/VarHandle")
    (hK : (Jvm.Cond.code y by0 ml rt).before args s = true → Back l R p e below s args y 3 W (fun A a' => A.cells ≤ R.cells ∧ A.slots ≤ R.slots ∧ F a') (fun A _ v B => v = some val ∧ B = A)) (hsz : Ls.size = c.maxLocals) (hpd : parseMethodDescriptor y.desc = some ⟨ps, rt'⟩) (hln : argsL.length = ps.length) (hst : stack = argsL.reverse ++ rest) (hW : (rest.map fun v => v.category).sum ≤ W)
    (hd : decode c.code pc = .ok (.invokestatic index, 3)) (eT : T.heap = h) (hc : cells ≤ R.cells) (hs : slots ≤ R.slots) (hF : F argsL.toArray) (hp : pc' = pc + 3)
    (k : ∀ T', Stand p l e R s m args below meth c T' locs cells slots → T'.heap = h → G (T'.setTop (mkF m pc' Ls (val :: rest)))) : G (T.setTop (mkF m pc Ls stack)) := by
  subst hp hst
  obtain ⟨T', X', e', st⟩ := natS X hx hZ hown w1 w2 w3 w4 hy eT hK (g := mkF m pc Ls (argsL.reverse ++ rest)) rfl hsz (argsL := argsL) (rest := rest) (lenOf hpd hln) rfl (by show 2 * 0 + _ ≤ _; omega) hd hc hs hF rfl
  exact hG _ _ st (k T' X' e')
theorem g_getS (hG : Cl p e below G) (X : Stand p l e R s m args below meth c T locs cells slots) (hx : p.tables.exec = Jvm.exec) (hZ : Z.Warmed39 s.vm) {own R0 O n d : String} {index : Nat} (hown : s.vm.findClass own = some m.cls) (w : (Jvm.Cond.fieldLink own index R0 n d).before a0 Z = true) (via : Via Z R0 O n d) (eT : T.heap = h) {v : Value} (F : Sta Z h O n d v) (hd : decode c.code pc = .ok (.getstatic index, 3)) (hp : pc' = pc + 3)
    (k : ∀ T', Stand p l e R s m args below meth c T' locs cells slots → T'.heap = h → G (T'.setTop (mkF m pc' Ls (v :: rest)))) : G (T.setTop (mkF m pc Ls rest)) := by
  subst hp
  obtain ⟨T', X', e', st⟩ := getS2 (host := "") X hx hZ hown (Or.inl w) via eT F (g := mkF m pc Ls rest) rfl hd
  exact hG _ _ st (k T' X' e')
theorem g_castY (hG : Cl p e below G) (X : Stand p l e R s m args below meth c T locs cells slots) (hx : p.tables.exec = Jvm.exec) (hZ : Z.Warmed39 s.vm) {own K0 : String} {index : Nat} (hown : s.vm.findClass own = some m.cls) (w : (Jvm.Cond.classLink own index K0).before a0 Z = true) (eT : T.heap = h) {a : Addr} (F : Ins Z h a K0 true) (hd : decode c.code pc = .ok (.checkcast index, 3)) (hp : pc' = pc + 3)
    (k : ∀ T', Stand p l e R s m args below meth c T' locs cells slots → T'.heap = h → G (T'.setTop (mkF m pc' Ls (.ref a :: rest)))) : G (T.setTop (mkF m pc Ls (.ref a :: rest))) := by
  subst hp
  obtain ⟨T', X', e', st⟩ := castY X hx hZ hown w eT F (g := mkF m pc Ls (.ref a :: rest)) rfl rfl hd
  exact hG _ _ st (k T' X' e')
theorem g_newPE (hG : Cl p e below G) (X : Stand p l e R s m args below meth c T locs cells slots) (hx : p.tables.exec = Jvm.exec) (hZ : Z.Warmed39 s.vm) {aty : ArrayType} (w : (Jvm.Cond.arrayClass (newarray.typeOf aty)).before a0 Z = true) (eT : T.heap = h) {n : Int32} (hd : decode c.code pc = .ok (.newarray aty, 2)) (hn : ¬ n < 0) (cap : Nat) (hcap : n.toNatClampNeg ≤ cap) (hb : cap * 8 ≤ 536870912) (hc : cells + 1 ≤ R.cells) (hl : slots + cap ≤ R.slots) {ad : String} (had : "[" ++ (newarray.typeOf aty).toString = ad) (hp : pc' = pc + 2)
    (k : ∀ T' h' b, b = h.size → Stand p l e R s m args below meth c T' locs (cells + 1) (slots + cap) → T'.heap = h' → Ext h h' → AV Z h' b (newarray.typeOf aty) n (List.replicate n.toNatClampNeg (defaultValue (newarray.typeOf aty))) → Exa Z h' b ad → G (T'.setTop (mkF m pc' Ls (.ref b :: rest)))) : G (T.setTop (mkF m pc Ls (.int n :: rest))) := by
  subst hp
  obtain ⟨T', h', kA, X', e', E, A, Ex, st⟩ := newPE X hx hZ w eT (g := mkF m pc Ls (.int n :: rest)) rfl hd rfl hn hcap hb hc hl had
  exact hG _ _ st (k T' h' _ rfl X' e' E (AV.new (Arv.new A hn)) Ex)
theorem g_clone (hG : Cl p e below G) (X : Stand p l e R s m args below meth c T locs cells slots) (hx : p.tables.exec = Jvm.exec) (hZ : Z.Warmed39 s.vm) {own ad : String} {index : Nat} (hown : s.vm.findClass own = some m.cls)
    (w1 : (Jvm.Cond.methodLink own index ⟨ad, "clone", "()Ljava/lang/Object;"⟩).before a0 Z = true) (w2 : (Jvm.Cond.sameMethod ad "java/lang/Object" "clone" "()Ljava/lang/Object;").before a0 Z = true) (w3 : (Jvm.Cond.native ⟨"java/lang/Object", "clone", "()Ljava/lang/Object;"⟩).before a0 Z = true)
    (w4 : (Jvm.Cond.instanceMethod ⟨"java/lang/Object", "clone", "()Ljava/lang/Object;"⟩).before a0 Z = true) (w5 : (Jvm.Cond.selects ad ⟨ad, "clone", "()Ljava/lang/Object;"⟩ ⟨"java/lang/Object", "clone", "()Ljava/lang/Object;"⟩).before a0 Z = true) (w6 : (Jvm.Cond.castable ad "java/lang/Cloneable").before a0 Z = true)
    (eT : T.heap = h) {a : Addr} {ty : FieldType} {n : Int32} {vs : List Value} (A : AV Z h a ty n vs) (E : Exa Z h a ad) (hsz : Ls.size = c.maxLocals) (hd : decode c.code pc = .ok (.invokevirtual index, 3)) (hfr : 1 ≤ R.frames) (W cap : Nat) (hW : (rest.map fun v => v.category).sum ≤ W) (hlo : W + 14 ≤ R.locals) (hcap : n.toNatClampNeg ≤ cap) (hc : cells + 1 ≤ R.cells) (hsl : slots + cap ≤ R.slots) (hp : pc' = pc + 3)
    (k : ∀ T' h' b, b = h.size → Stand p l e R s m args below meth c T' locs (cells + 1) (slots + cap) → T'.heap = h' → Ext h h' → AV Z h' b ty n vs → Exa Z h' b ad → G (T'.setTop (mkF m pc' Ls (.ref b :: rest)))) : G (T.setTop (mkF m pc Ls (.ref a :: rest))) := by
  subst hp
  obtain ⟨kA, A, q⟩ := A
  obtain ⟨T', h', X', e', E', A', Ex, st⟩ := cloneH X hx hZ hown w1 w2 w3 w4 w5 w6 eT A.arh E (g := mkF m pc Ls (.ref a :: rest)) rfl hsz rfl hd hfr (W := W) (by show 2 * 0 + _ ≤ _; omega) hlo hcap hc hsl
  exact hG _ _ st (k T' h' _ rfl X' e' E' ⟨kA, A', q⟩ Ex)
theorem g_callVU (hG : Cl p e below G) (X : Stand p l e R s m args below meth c T locs cells slots) (hx : p.tables.exec = Jvm.exec) (hZ : Z.Warmed39 s.vm) {own C owner : String} {index : Nat} {x y : MethodName} {bytes : ByteArray} {maxL : Nat} {ret : Option FieldType} {rm : Room} {as : Array Value} {Qc : Option Value → Heap → List Loc → Prop} {a : Addr} {argsL stack : List Value} {ps : List FieldType} {rt : Option FieldType} (W : Nat)
    (hown : s.vm.findClass own = some m.cls) (w1 : (Jvm.Cond.methodLink own index x).before a0 Z = true) (wm : (Jvm.Cond.sameMethod x.cls owner x.name x.desc).before a0 Z = true) (w2 : (Jvm.Cond.declares ⟨owner, x.name, x.desc⟩).before a0 Z = true) (ho : owner ≠ "java/lang/invoke/MethodHandle" ∧ owner ≠ "java/lang/invoke/VarHandle") (ws : (Jvm.Cond.selects C x y).before a0 Z = true) (wi : (Jvm.Cond.instanceMethod y).before a0 Z = true) (w3 : (Jvm.Cond.initialized y.cls).before a0 Z = true) (w4 : (Jvm.Cond.code y bytes maxL ret).before a0 Z = true)
    (hM : Con l y bytes maxL ret [] rm Z as h rm.cells rm.slots Qc) (hfr : rm.frames + 1 ≤ R.frames) (hlo : W + (maxL + 11) + rm.locals ≤ R.locals) (hsz : Ls.size = c.maxLocals) (hpd : parseMethodDescriptor x.desc = some ⟨ps, rt⟩) (hln : argsL.length = ps.length) (hst : stack = argsL.reverse ++ .ref a :: rest) (has : (.ref a :: argsL).toArray = as) (hW : (rest.map fun v => v.category).sum ≤ W)
    (hd : decode c.code pc = .ok (.invokevirtual index, 3)) (eT : T.heap = h) (E : Exa Z h a C) (hc : cells + rm.cells ≤ R.cells) (hs : slots + rm.slots ≤ R.slots) (hp : pc' = pc + 3)
    (k : ∀ T' v L', Stand p l e R s m args below meth c T' (locs ++ L') (cells + rm.cells) (slots + rm.slots) → Qc v T'.heap L' → G (T'.setTop (mkF m pc' Ls (v.toList ++ rest)))) : G (T.setTop (mkF m pc Ls stack)) := by
  subst hp hst has
  obtain ⟨cq, kq, qa, qb, qc⟩ := isOf hZ eT E
  obtain ⟨v, _, ⟨T1, L1, k1, n1⟩, -, X1, ⟨Lc, hQ, l1, y1, z1⟩, st⟩ := X.virtualBackUp hx (x := x) (y := y) hown (mvT hZ w1) (mvT hZ wm) (mvT hZ w2) ho (mvT hZ ws) (mvT hZ wi) (backOf (W := W) hM hZ w4 w3 hfr hlo) qa qc (g := mkF m pc Ls (argsL.reverse ++ .ref a :: rest)) rfl hsz (Steps.refl _) (argsL := argsL) (rest := rest) (lenOf hpd hln) rfl (by show 2 * 0 + _ ≤ _; omega) hd (fun _ _ => ⟨rfl, eT, hc, hs⟩)
  dsimp only [Pt.U, Pt.locs, Pt.cells, Pt.slots] at X1 l1 y1 z1 st hQ
  subst l1 y1 z1
  exact hG _ _ (fun t ht => st.trans ht) (k T1 v Lc X1 hQ)
theorem g_lookup (hG : Cl p e below G) (X : Stand p l e R s m args below meth c T locs cells slots) (hx : p.tables.exec = Jvm.exec) {kk : Int32} {dflt : Int} {pairs : Array (Int × Int)} {len : Nat} (hd : decode c.code pc = .ok (.lookupswitch dflt pairs, len)) (hs : (pairs.toList.zip (pairs.toList.drop 1)).all (fun (a, next) => a.1 < next.1) = true) {a off : Int} (hf : pairs.find? (·.1 == kk.toInt) = some (a, off)) (ho : 0 ≤ (pc : Int) + off) (hp : ((pc : Int) + off).toNat = pc') (k : G (T.setTop (mkF m pc' Ls rest))) : G (T.setTop (mkF m pc Ls (.int kk :: rest))) := by
  subst hp
  refine hG _ _ (fun t ht => ?_) k
  exact X.lookupswitchHit hx (g := mkF m pc Ls (.int kk :: rest)) rfl rfl hd hs hf ho t ht
theorem g_copy (hG : Cl p e below G) (X : Stand p l e R s m args below meth c T locs cells slots) (hx : p.tables.exec = Jvm.exec) (hZ : Z.Warmed39 s.vm) {own : String} {index : Nat} (hown : s.vm.findClass own = some m.cls)
    (w1 : (Jvm.Cond.methodLink own index Jvm.Stand.acN).before a0 Z = true) (w2 : (Jvm.Cond.native Jvm.Stand.acN).before a0 Z = true) (w3 : (Jvm.Cond.static Jvm.Stand.acN).before a0 Z = true) (w4 : (Jvm.Cond.initialized "java/lang/System").before a0 Z = true) (eT : T.heap = h)
    {a b : Addr} {ty : FieldType} {n z sp dp nn : Int32} {vs vd vr : List Value} (A : AV Z h a ty n vs) (B : AV Z h b ty z vd) (hr : refKind ty = false) (h1 : ¬ sp < 0) (h2 : ¬ dp < 0) (h3 : ¬ nn < 0) (h4 : sp.toNatClampNeg + nn.toNatClampNeg ≤ n.toNatClampNeg) (h5 : dp.toNatClampNeg + nn.toNatClampNeg ≤ z.toNatClampNeg)
    (hvr : vd.take dp.toNatClampNeg ++ ((List.range nn.toNatClampNeg).map fun i => vs.getD (sp.toNatClampNeg + i) (defaultValue ty)) ++ vd.drop (dp.toNatClampNeg + nn.toNatClampNeg) = vr) {n0 : Nat} (N0 : Fr n0 locs) (ge : n0 ≤ b) (hsz : Ls.size = c.maxLocals) (hd : decode c.code pc = .ok (.invokestatic index, 3)) (hfr : 1 ≤ R.frames) (W : Nat) (hW : (rest.map fun v => v.category).sum ≤ W) (hlo : W + (nativeFrameWords "java/lang/System" "arraycopy" 5 + 11) ≤ R.locals) (hp : pc' = pc + 3)
    (k : ∀ T' h' L, Stand p l e R s m args below meth c T' L cells slots → T'.heap = h' → Fr n0 L → Keep h h' [b] → AV Z h' b ty z vr → G (T'.setTop (mkF m pc' Ls rest))) : G (T.setTop (mkF m pc Ls (.int nn :: .int dp :: .ref b :: .int sp :: .ref a :: rest))) := by
  subst hp hvr
  obtain ⟨kA, A, qa⟩ := A
  obtain ⟨kB, B, qb⟩ := B
  obtain ⟨T', h', L', X', e', N', K', V', st⟩ := cpA X hx hZ hown w1 w2 w3 w4 eT A B (Or.inl ⟨rfl, hr⟩) h1 h2 h3 h4 h5 rfl (by omega) N0 ge (g := mkF m pc Ls (.int nn :: .int dp :: .ref b :: .int sp :: .ref a :: rest)) rfl hsz rfl hd hfr (W := W) (by show 2 * 0 + _ ≤ _; omega) hlo
  exact hG _ _ st (k T' h' L' X' e' N' K' ⟨kB, V', by simp only [List.length_append, List.length_take, List.length_map, List.length_range, List.length_drop]; omega⟩)
theorem Sta.keep0 {h' : Heap} {C n d : String} {v : Value} (F : Sta Z h C n d v) (K : Keep h h' []) : Sta Z h' C n d v := by
  obtain ⟨cf, i, k, f, st, cell, h1, h2, h3, h4, h5, r⟩ := F
  exact ⟨cf, i, k, f, st, cell, h1, h2, h3, h4, K.2.1 _ _ h5 (fun q => nomatch q), r⟩
end New
end Jvm.OwnKit
namespace Jvm.OwnKit
open Sem ClassFile Op Lib Jvm.Stand Jvm.Free Jvm.LawKit Jvm.RoadKit
/-! a body that loads String literals: its end is said by ReturnedEndW -/
def GoesW (p : Program) (e : Env) (below : List Frame) (s : State) (K N : Nat) (Q : Option Value → Heap → List Loc → Prop) (S : State) : Prop :=
  ∃ s₂ o, Steps p.tables e below S s₂ ∧ s₂.status = .running ∧ Ended s₂ below o ∧ ∃ v L, o = .returned v ∧ Q v s₂.heap L ∧ ReturnedEndW s o s₂ L K N
theorem GoesW.cl (p : Program) (e : Env) (below : List Frame) (s : State) (K N : Nat) (Q : Option Value → Heap → List Loc → Prop) : Cl p e below (GoesW p e below s K N Q) := fun S S' h k => by
  obtain ⟨s₂, o, h1, r⟩ := k
  exact ⟨s₂, o, h _ h1, r⟩
abbrev ConW (l : Launch) (y : MethodName) (bytes : ByteArray) (maxL : Nat) (ret : Option FieldType) (ws : List Jvm.Cond) (rm : Room) (Z : State) (as : Array Value) (h0 : Heap) (K N : Nat) (Q : Option Value → Heap → List Loc → Prop) : Prop :=
  MetFree l y (head1 (Jvm.Cond.code y bytes maxL ret :: ws) rm) (fun a U => a = as ∧ Z.Warmed39 U.vm ∧ U.heap = h0) (fun _ _ _ _ _ => True) (fun _ U o U' => ∃ v L, o = .returned v ∧ Q v U'.heap L ∧ ReturnedEndW U o U' L K N)
theorem since0 (s : State) : s.Since s.vm 0 := ⟨State.Warmed39.refl s, fun j p hj hp => absurd (Array.getElem?_eq_some_iff.mp hp).1 (Nat.not_lt.mpr hj)⟩
theorem ConW.of {l : Launch} {y : MethodName} {bytes : ByteArray} {maxL : Nat} {ret : Option FieldType} {ws : List Jvm.Cond} {rm : Room} {Z : State} {as : Array Value} {h0 : Heap} {K N : Nat} {Q : Option Value → Heap → List Loc → Prop} {Ls : Array Slot}
    (pl : plainFor y = true) (hef : ∀ m, entryFrame m as maxL = mkF m 0 Ls [])
    (H : ∀ (p : Program) (e : Env) (s : State) (m : MethodId) (below : List Frame) (meth : Method) (c : Code) (s₁ : State) (G : State → Prop), G = GoesW p e below s K N Q → Cl p e below G → p.tables.exec = Jvm.exec → c.code = bytes → c.maxLocals = maxL → (s.setVm s.vm).vm.findClass y.cls = some m.cls → meth.name = y.name → meth.sig.returnType = ret → meth.locks = false → Z.Warmed39 (s.setVm s.vm).vm → Stand p l e rm (s.setVm s.vm) m as below meth c s₁ [] 0 0 → s₁.heap = h0 → s.Since s.vm 0 → G (s₁.setTop (mkF m 0 Ls []))) :
    ConW l y bytes maxL ret ws rm Z as h0 K N Q := by
  refine MetFree.of_bodySF pl hisR ?_
  intro p e s m args below meth c s₁ Bd hml0 hP hK
  obtain ⟨rfl, hZ, hh⟩ := hP
  have X0 : Stand p l e rm s m args below meth c s₁ [] 0 0 := Stand.of_body Bd
  have e0 : s₁.heap = h0 := by rw [← hh, Bd.state]; rfl
  have g := H p e s m below meth c s₁ _ rfl (GoesW.cl p e below s K N Q) Bd.exec Bd.bytes hml0 (findClass_of_methodNamed Bd.named) (name_of_methodNamed Bd.named Bd.method).1 Bd.returns Bd.notSynchronized hZ X0 e0 (since0 s)
  rw [← hef m] at g
  exact g
section NewS
variable {p : Program} {l : Launch} {e : Env} {R : Room} {s : State} {vm0 : Vm} {m : MethodId} {args : Array Value} {below : List Frame} {meth : Method} {c : Code} {T : State} {locs : List Loc} {cells slots : Nat} {Z : State} {a0 : Array Value} {h : Heap} {G : State → Prop} {pc pc' : Nat} {Ls Ls' : Array Slot} {rest : List Value} {K N : Nat} {Q : Option Value → Heap → List Loc → Prop}
theorem e_retZW (hGe : G = GoesW p e below s K N Q) (X : Stand p l e R (s.setVm vm0) m args below meth c T locs cells slots) (hx : p.tables.exec = Jvm.exec) {k0 : Nat} (hS : s.Since vm0 k0) (hk0 : k0 ≤ h.size) {z : Int32} (hret : meth.sig.returnType = some .boolean) (hlk : meth.locks = false) (hd : decode c.code pc = .ok (.ireturn, 1)) (hz : z = 0 ∨ z = 1) (eT : T.heap = h) (hk : cells ≤ K) (hs : slots ≤ N) (hQ : Q (some (.int z)) h locs) : G (T.setTop (mkF m pc Ls (.int z :: rest))) := by
  subst hGe
  obtain ⟨fs, hr, hrun, hended, w1, w2, w3, hsame⟩ := X.leaveW hS (by rw [eT]; exact hk0) (v := some (.int z)) (fun h => by rw [hret] at h; cases h) hlk
  refine ⟨_, _, retOut X hx hret (by rcases hz with rfl | rfl <;> rfl) (Or.inl ⟨rfl, Or.inr (Or.inl rfl), z, rfl⟩) hd hr, hrun, hended, _, _, rfl, ?_, w1, w2, w3, hsame.mono hk hs⟩
  show Q _ T.heap _
  rw [eT]; exact hQ
theorem e_ret0W (hGe : G = GoesW p e below s K N Q) (X : Stand p l e R (s.setVm vm0) m args below meth c T locs cells slots) (hx : p.tables.exec = Jvm.exec) {k0 : Nat} (hS : s.Since vm0 k0) (hk0 : k0 ≤ h.size) (hret : meth.sig.returnType = none) (hlk : meth.locks = false) (hd : decode c.code pc = .ok (.return_, 1)) (eT : T.heap = h) (hk : cells ≤ K) (hs : slots ≤ N) (hQ : Q none h locs) : G (T.setTop (mkF m pc Ls [])) := by
  subst hGe
  obtain ⟨fs, hr, hrun, hended, w1, w2, w3, hsame⟩ := X.leaveW hS (by rw [eT]; exact hk0) (v := none) (fun _ => rfl) hlk
  refine ⟨_, _, X.returnOut hx hret hd hr, hrun, hended, _, _, rfl, ?_, w1, w2, w3, hsame.mono hk hs⟩
  show Q _ T.heap _
  rw [eT]; exact hQ
theorem g_ldcS (hG : Cl p e below G) (X : Stand p l e R (s.setVm vm0) m args below meth c T locs cells slots) (hx : p.tables.exec = Jvm.exec) (hZ : Z.Warmed39 (s.setVm vm0).vm) {own text : String} {index : Nat} (hown : (s.setVm vm0).vm.findClass own = some m.cls) (w : (Jvm.Cond.stringLink own index text).before a0 Z = true) (wS : ∀ a ∈ Bundle.stringAtoms, a.before a0 Z = true)
    (eT : T.heap = h) {k0 : Nat} (hS : s.Since vm0 k0) (hk : k0 ≤ h.size) (hd : decode c.code pc = .ok (.ldc index, 2)) (n : Nat) (hn : 4 * text.toList.length ≤ n) (hbig : n ≤ 536870912) (hc : cells + 2 ≤ R.cells) (hl : slots + (n + 4) ≤ R.slots) (hp : pc' = pc + 2)
    (k : ∀ (b : Addr) (T' : State) (h' : Heap), Stand p l e R (s.setVm T'.vm) m args below meth c T' locs (cells + 2) (slots + (n + 4)) → T'.heap = h' → Ext h h' → s.Since T'.vm h'.size → Z.Warmed39 (s.setVm T'.vm).vm → (s.setVm T'.vm).vm.findClass own = some m.cls → G (T'.setTop (mkF m pc' Ls (.ref b :: rest)))) : G (T.setTop (mkF m pc Ls rest)) := by
  subst hp
  obtain ⟨a, T', X', hS', -, hb, -, st⟩ := X.ldcStringCold hx (own := own) hown (mvS (s := s.setVm vm0) hZ w) (fun d hd => by
    have q := wS d hd
    simp only [Bundle.stringAtoms, List.mem_cons, List.not_mem_nil, or_false] at hd
    rcases hd with rfl | rfl | rfl | rfl | rfl | rfl | rfl
    · exact mv (s := s.setVm vm0) hZ q
    · exact mv (s := s.setVm vm0) hZ q
    · exact mvA (s := s.setVm vm0) hZ q
    · exact mv (s := s.setVm vm0) hZ q
    · exact mv (s := s.setVm vm0) hZ q
    · exact mv (s := s.setVm vm0) hZ q
    · exact mv (s := s.setVm vm0) hZ q) (g := mkF m pc Ls rest) rfl hd hn hbig hc hl
  subst eT
  have E := ext_of hb
  exact hG _ _ st (k a T' _ X' rfl E (hS.trans hS' (Nat.le_trans hk E.1)) (State.Warmed39.trans (t := s.setVm vm0) hZ hS'.1) (by rw [show (s.setVm T'.vm).vm = T'.vm from rfl, hS'.1.alike.findClass]; exact hown))
theorem g_callIW (hG : Cl p e below G) (X : Stand p l e R (s.setVm vm0) m args below meth c T locs cells slots) (hx : p.tables.exec = Jvm.exec) (hZ : Z.Warmed39 (s.setVm vm0).vm) {own : String} {index : Nat} {y : MethodName} {bytes : ByteArray} {maxL : Nat} {rm : Room} {as : Array Value} {Qc : Option Value → Heap → List Loc → Prop} {a : Addr} {argsL stack : List Value} {ps : List FieldType} {rt : Option FieldType} (W : Nat)
    (hy1 : y.name = "<init>") (hown : (s.setVm vm0).vm.findClass own = some m.cls) (w1 : (Jvm.Cond.methodLink own index y).before a0 Z = true) (w2 : (Jvm.Cond.instanceMethod y).before a0 Z = true) (w3 : (Jvm.Cond.initialized y.cls).before a0 Z = true) (w4 : (Jvm.Cond.code y bytes maxL none).before a0 Z = true) (hy : y.cls ≠ "java/lang/invoke/MethodHandle" ∧ y.cls ≠ "java/lang/invoke/VarHandle")
    (hM : ConW l y bytes maxL none [] rm Z as h rm.cells rm.slots Qc) (hfr : rm.frames + 1 ≤ R.frames) (hlo : W + (maxL + 11) + rm.locals ≤ R.locals) (hsz : Ls.size = c.maxLocals) (hpd : parseMethodDescriptor y.desc = some ⟨ps, rt⟩) (hln : argsL.length = ps.length) (hst : stack = argsL.reverse ++ .ref a :: rest) (has : (.ref a :: argsL).toArray = as) (hW : (rest.map fun v => v.category).sum ≤ W)
    (hd : decode c.code pc = .ok (.invokespecial index, 3)) (eT : T.heap = h) {k0 : Nat} (hS : s.Since vm0 k0) (hk : k0 ≤ h.size) (hc : cells + rm.cells ≤ R.cells) (hs : slots + rm.slots ≤ R.slots) (hp : pc' = pc + 3)
    (k : ∀ T' v L', Stand p l e R (s.setVm T'.vm) m args below meth c T' (locs ++ L') (cells + rm.cells) (slots + rm.slots) → Qc v T'.heap L' → s.Since T'.vm T'.heap.size → Z.Warmed39 (s.setVm T'.vm).vm → (s.setVm T'.vm).vm.findClass own = some m.cls → G (T'.setTop (mkF m pc' Ls (v.toList ++ rest)))) : G (T.setTop (mkF m pc Ls stack)) := by
  subst hp hst has
  obtain ⟨v, _, ⟨T1, L1, k1, n1⟩, -, X1, hS1, hgr, ⟨Lc, hQ, l1, y1, z1⟩, st⟩ := X.specialBackS hx (y := y) hy1 hown (mvT hZ w1) (mvT hZ w2) (mvT hZ w4) hy (backOfS (W := W) hM hZ w4 w3 hfr hlo) (g := mkF m pc Ls (argsL.reverse ++ .ref a :: rest)) rfl hsz (Steps.refl _) (a := a) (argsL := argsL) (rest := rest) (lenOf hpd hln) rfl (by show 2 * 0 + _ ≤ _; omega) hd (fun _ _ => ⟨rfl, eT, hc, hs⟩)
  dsimp only [Pt.U, Pt.locs, Pt.cells, Pt.slots] at X1 l1 y1 z1 st hQ hS1 hgr
  subst l1 y1 z1
  exact hG _ _ (fun t ht => st.trans ht) (k T1 v Lc X1 hQ (hS.trans hS1 (Nat.le_trans hk (eT ▸ hgr))) (State.Warmed39.trans (t := s.setVm vm0) hZ hS1.1) (by rw [show (s.setVm T1.vm).vm = T1.vm from rfl, hS1.1.alike.findClass]; exact hown))
end NewS
end Jvm.OwnKit
namespace Jvm.OwnFl
open Jvm.FP.Core
theorem two_ne : (2 : Rat) ≠ 0 := by decide
theorem p2pos (q : Int) : (0 : Rat) < (2 : Rat) ^ q := Rat.zpow_pos (by decide)
theorem p2add (a b : Int) : (2 : Rat) ^ (a + b) = (2 : Rat) ^ a * (2 : Rat) ^ b := Rat.zpow_add two_ne a b
theorem p2nat (n : Nat) : (2 : Rat) ^ (n : Int) = ((2 ^ n : Nat) : Rat) := by rw [Rat.zpow_natCast, Rat.natCast_pow]; rfl
theorem p2le {a b : Int} (h : a ≤ b) : (2 : Rat) ^ a ≤ (2 : Rat) ^ b := by
  obtain ⟨n, hn⟩ : ∃ n : Nat, b = a + n := ⟨(b - a).toNat, by omega⟩
  subst hn
  rw [p2add, p2nat]
  have h1 : (1 : Rat) ≤ ((2 ^ n : Nat) : Rat) := by
    have q : ((1 : Nat) : Rat) ≤ ((2 ^ n : Nat) : Rat) := Rat.natCast_le_natCast.mpr (Nat.two_pow_pos n)
    exact q
  have q := Rat.mul_le_mul_of_nonneg_left h1 (Rat.le_of_lt (p2pos a))
  rwa [Rat.mul_one] at q
theorem p2lt {a b : Int} (h : (2 : Rat) ^ a < (2 : Rat) ^ b) : a < b := by
  by_cases q : a < b
  · exact q
  · exact absurd (p2le (Int.not_lt.mp q)) (Rat.not_le.mpr h)
/-- the value of a datum (nought for what is no number) -/
def rvd : Datum → Rat
  | .fin s c q => ((signed s c : Int) : Rat) * (2 : Rat) ^ q
  | _ => 0
/-- v is a finite double, of the value x -/
def DV (v : UInt64) (x : Rat) : Prop := ∃ s c q, val64 v = .fin s c q ∧ rvd (.fin s c q) = x
theorem DV.fin {v : UInt64} {x : Rat} (h : DV v x) : Jvm.Free.Fl.Fin64 v := by
  obtain ⟨s, c, q, h, -⟩ := h
  exact Jvm.Free.Fl.fin64_core.mpr ⟨s, c, q, h⟩
theorem DV.noNaN {v : UInt64} {x : Rat} (h : DV v x) : Jvm.Free.Fl.NoNaN64 v := h.fin.noNaN
theorem DV.uniq {v : UInt64} {x y : Rat} (h : DV v x) (g : DV v y) : x = y := by
  obtain ⟨s, c, q, h1, h2⟩ := h
  obtain ⟨t, d, r, g1, g2⟩ := g
  cases h1.symm.trans g1
  exact h2.symm.trans g2
theorem units_val (s : Bool) (c : Nat) {q e : Int} (h : e ≤ q) : ((signed s (inUnits c q e) : Int) : Rat) * (2 : Rat) ^ e = ((signed s c : Int) : Rat) * (2 : Rat) ^ q := by
  obtain ⟨n, rfl⟩ : ∃ n : Nat, q = e + n := ⟨(q - e).toNat, by omega⟩
  unfold inUnits
  rw [signed_mul, Rat.intCast_mul, Rat.mul_assoc, show (e + (n : Int) - e).toNat = n by omega, p2add, p2nat, Rat.mul_comm ((2 : Rat) ^ e)]
  rfl
theorem dcmp_of {a b : UInt64} {x y : Rat} (ha : DV a x) (hb : DV b y) : dcmp a b = some (if x < y then .lt else if x = y then .eq else .gt) := by
  obtain ⟨s, c, q, h1, rfl⟩ := ha
  obtain ⟨t, d, r, h2, rfl⟩ := hb
  show order (val64 a) (val64 b) = _
  rw [h1, h2]
  show some (compare (signed s (inUnits c q (min q r))) (signed t (inUnits d r (min q r)))) = some (if ((signed s c : Int) : Rat) * (2 : Rat) ^ q < ((signed t d : Int) : Rat) * (2 : Rat) ^ r then .lt else if ((signed s c : Int) : Rat) * (2 : Rat) ^ q = ((signed t d : Int) : Rat) * (2 : Rat) ^ r then .eq else .gt)
  rw [compare_ite, ← units_val s c (Int.min_le_left q r), ← units_val t d (Int.min_le_right q r)]
  generalize signed s (inUnits c q (min q r)) = i
  generalize signed t (inUnits d r (min q r)) = j
  have hu := p2pos (min q r)
  generalize (2 : Rat) ^ (min q r) = u at hu
  have k1 : ∀ i j : Int, ((i : Rat) * u < (j : Rat) * u) ↔ i < j := fun i j => (Rat.mul_lt_mul_right hu).trans Rat.intCast_lt_intCast
  have k2 : ((i : Rat) * u = (j : Rat) * u) ↔ i = j := by
    constructor
    · intro h
      rcases Int.lt_trichotomy i j with g | g | g
      · have := (k1 i j).mpr g; rw [h] at this; exact absurd this Rat.lt_irrefl
      · exact g
      · have := (k1 j i).mpr g; rw [h] at this; exact absurd this Rat.lt_irrefl
    · intro h; rw [h]
  simp only [k1, k2]
theorem dcmp_lt {a b : UInt64} {x y : Rat} (ha : DV a x) (hb : DV b y) (h : x < y) : Jvm.FP.dcmp a b = some .lt := by
  show dcmp a b = _
  rw [dcmp_of ha hb, if_pos h]
theorem dcmp_eq {a b : UInt64} {x y : Rat} (ha : DV a x) (hb : DV b y) (h : x = y) : Jvm.FP.dcmp a b = some .eq := by
  show dcmp a b = _
  rw [dcmp_of ha hb, if_neg (by rw [h]; exact Rat.lt_irrefl), if_pos h]
theorem dcmp_gt {a b : UInt64} {x y : Rat} (ha : DV a x) (hb : DV b y) (h : y < x) : Jvm.FP.dcmp a b = some .gt := by
  show dcmp a b = _
  rw [dcmp_of ha hb, if_neg (by rw [Rat.not_lt]; exact Rat.le_of_lt h), if_neg (Rat.ne_of_gt h)]
theorem dcmp_le {a b : UInt64} {x y : Rat} (ha : DV a x) (hb : DV b y) (h : x ≤ y) : Jvm.FP.dcmp a b = some .lt ∨ Jvm.FP.dcmp a b = some .eq := by
  by_cases q : x = y
  · exact Or.inr (dcmp_eq ha hb q)
  · exact Or.inl (dcmp_lt ha hb (Rat.lt_of_le_of_ne h q))
theorem dcmp_ge {a b : UInt64} {x y : Rat} (ha : DV a x) (hb : DV b y) (h : y ≤ x) : Jvm.FP.dcmp a b = some .gt ∨ Jvm.FP.dcmp a b = some .eq := by
  by_cases q : x = y
  · exact Or.inr (dcmp_eq ha hb q)
  · exact Or.inl (dcmp_gt ha hb (Rat.lt_of_le_of_ne h (fun z => q z.symm)))
/-- the rounding of a positive ratio, in full -/
theorem rr_spec (s : Bool) {A B : Nat} (e : Int) (hA : 0 < A) (hB : 0 < B) {x : Rat} (hx : x * (B : Rat) = (A : Rat) * (2 : Rat) ^ e) (hlt : x < (2 : Rat) ^ (1023 : Int)) :
    ∃ c q, roundRatio b64 s A B e = .fin s c q ∧ ∃ (m : Nat) (r : Int), (c : Rat) * (2 : Rat) ^ q = (m : Rat) * (2 : Rat) ^ r ∧ -1074 ≤ r ∧ m ≤ 2 ^ 53 ∧ 2 * x ≤ (2 * (m : Rat) + 1) * (2 : Rat) ^ r ∧ 2 * (m : Rat) * (2 : Rat) ^ r ≤ 2 * x + (2 : Rat) ^ r ∧
      x < 9007199254740992 * (2 : Rat) ^ r ∧ (r = -1074 ∨ 4503599627370496 * (2 : Rat) ^ r ≤ x) := by
  have g1 := quantum_ge b64 A B e
  have g2 := nearest_units_le (f := b64) hA hB e
  have g3 := quantum_not_below (f := b64) hA hB e
  have g4 := quantum_below (f := b64) hA hB e
  unfold roundRatio
  rw [if_neg (by omega : ¬ A = 0)]
  generalize quantum b64 A B e = r at *
  unfold roundAt
  have hD := unitsDen_pos hB e r
  obtain ⟨n1, n2, -⟩ := nearest_spec (unitsNum A e r) (unitsDen B e r) hD
  have key : x * (unitsDen B e r : Rat) = (unitsNum A e r : Rat) * (2 : Rat) ^ r := by
    unfold unitsDen unitsNum
    rw [Rat.natCast_mul, Rat.natCast_mul, ← Rat.mul_assoc, hx, ← p2nat, ← p2nat, Rat.mul_assoc, Rat.mul_assoc, ← p2add, ← p2add, show e + ((r - e).toNat : Int) = ((e - r).toNat : Int) + r by omega]
  have b1 : unitsNum A e r < 2 ^ 53 * unitsDen B e r := (units_below A B e r 53).mpr g4
  have b2 : r = -1074 ∨ 2 ^ 52 * unitsDen B e r ≤ unitsNum A e r := by
    rcases g3 with g3 | g3
    · exact Or.inl g3
    · exact Or.inr (Nat.le_of_not_lt fun q => g3 ((units_below A B e r 52).mp q))
  have hr0 : -1074 ≤ r := g1
  have hm53 : nearest (unitsNum A e r) (unitsDen B e r) ≤ 2 ^ 53 := g2
  clear g1 g2 g3 g4
  generalize nearest (unitsNum A e r) (unitsDen B e r) = m at *
  generalize unitsNum A e r = N at *
  generalize unitsDen B e r = D at *
  have hu := p2pos r
  have hDp : (0 : Rat) < (D : Rat) := Rat.natCast_pos.mpr hD
  have n1' : 2 * (N : Rat) ≤ (2 * (m : Rat) + 1) * (D : Rat) := by
    have q := Rat.natCast_le_natCast.mpr n1
    simpa [Rat.natCast_mul, Rat.natCast_add] using q
  have n2' : 2 * (m : Rat) * (D : Rat) ≤ 2 * (N : Rat) + (D : Rat) := by
    have q := Rat.natCast_le_natCast.mpr n2
    simpa [Rat.natCast_mul, Rat.natCast_add] using q
  have b1' : (N : Rat) < 9007199254740992 * (D : Rat) := by
    have q := Rat.natCast_lt_natCast.mpr b1
    simpa [Rat.natCast_mul] using q
  have b2' : r = -1074 ∨ 4503599627370496 * (D : Rat) ≤ (N : Rat) := by
    rcases b2 with q | q
    · exact Or.inl q
    · right
      have q := Rat.natCast_le_natCast.mpr q
      simpa [Rat.natCast_mul] using q
  have f1 : 2 * x ≤ (2 * (m : Rat) + 1) * (2 : Rat) ^ r := by
    refine Rat.le_of_mul_le_mul_right (c := (D : Rat)) ?_ hDp
    have q := Rat.mul_le_mul_of_nonneg_right n1' (Rat.le_of_lt hu)
    generalize (2 : Rat) ^ r = u at *
    grind
  have f2 : 2 * (m : Rat) * (2 : Rat) ^ r ≤ 2 * x + (2 : Rat) ^ r := by
    refine Rat.le_of_mul_le_mul_right (c := (D : Rat)) ?_ hDp
    have q := Rat.mul_le_mul_of_nonneg_right n2' (Rat.le_of_lt hu)
    generalize (2 : Rat) ^ r = u at *
    grind
  have f3 : x < 9007199254740992 * (2 : Rat) ^ r := by
    refine Rat.lt_of_mul_lt_mul_right (c := (D : Rat)) ?_ (Rat.le_of_lt hDp)
    have q := Rat.mul_lt_mul_of_pos_right b1' hu
    generalize (2 : Rat) ^ r = u at *
    grind
  have f4 : r = -1074 ∨ 4503599627370496 * (2 : Rat) ^ r ≤ x := by
    rcases b2' with q | q
    · exact Or.inl q
    · right
      refine Rat.le_of_mul_le_mul_right (c := (D : Rat)) ?_ hDp
      have q := Rat.mul_le_mul_of_nonneg_right q (Rat.le_of_lt hu)
      generalize (2 : Rat) ^ r = u at *
      grind
  have hr : r ≤ 970 := by
    rcases f4 with q | q
    · omega
    · have q1 : (2 : Rat) ^ ((52 : Int) + r) < (2 : Rat) ^ (1023 : Int) := by
        rw [p2add, show (2 : Rat) ^ (52 : Int) = 4503599627370496 by decide +kernel]
        exact Std.lt_of_le_of_lt q hlt
      have := p2lt q1
      omega
  have hqm : b64.qmax = 971 := by decide
  by_cases hm : m < 2 ^ 53
  · refine ⟨m, r, ?_, m, r, rfl, hr0, hm53, f1, f2, f3, f4⟩
    show (if m < 2 ^ 53 then bound b64 s m r else _) = _
    rw [if_pos hm]
    unfold bound
    rw [if_pos (by omega)]
  · have hm : m = 2 ^ 53 := by omega
    refine ⟨2 ^ 52, r + 1, ?_, m, r, ?_, hr0, hm53, f1, f2, f3, f4⟩
    · show (if m < 2 ^ 53 then bound b64 s m r else bound b64 s b64.tails (r + 1)) = _
      rw [if_neg (by omega)]
      unfold bound
      rw [if_pos (by omega)]
      rfl
    · subst hm
      rw [p2add, Rat.zpow_one]
      generalize (2 : Rat) ^ r = u
      have e1 : ((2 ^ 52 : Nat) : Rat) = 4503599627370496 := by decide +kernel
      have e2 : ((2 ^ 53 : Nat) : Rat) = 9007199254740992 := by decide +kernel
      rw [e1, e2]
      grind
/-- the rounding of a rational number to a double's precision -/
def RR (x : Rat) : Rat := rvd (roundRatio b64 (decide (x < 0)) x.num.natAbs x.den 0)
theorem rat_num (x : Rat) : x * (x.den : Rat) = (x.num : Rat) := by
  have h : x = (x.num : Rat) / ((x.den : Int) : Rat) := by rw [← Rat.divInt_eq_div, Rat.num_divInt_den]
  have hd : (((x.den : Int)) : Rat) ≠ 0 := by
    intro q
    have := Rat.intCast_eq_zero_iff.mp q
    have := x.den_nz
    omega
  have q := Rat.div_mul_cancel (a := (x.num : Rat)) hd
  rw [← h] at q
  exact q
theorem signed_rat (s : Bool) (c : Nat) : ((signed s c : Int) : Rat) = if s then -(c : Rat) else (c : Rat) := by cases s <;> simp [signed, Rat.intCast_natCast]
/-- rounding goes by the value -/
theorem rr_congr {s : Bool} {A B : Nat} {e : Int} {x : Rat} (hB : 0 < B) (hx : x * (B : Rat) = ((signed s A : Int) : Rat) * (2 : Rat) ^ e) (hA : A ≠ 0) : roundRatio b64 s A B e = roundRatio b64 (decide (x < 0)) x.num.natAbs x.den 0 := by
  have hu := p2pos e
  have hBp : (0 : Rat) < (B : Rat) := Rat.natCast_pos.mpr hB
  have hAp : (0 : Rat) < (A : Rat) := Rat.natCast_pos.mpr (by omega)
  have hAu := Rat.mul_pos hAp hu
  have hs : decide (x < 0) = s := by
    rw [signed_rat] at hx
    cases s
    · simp only [Bool.false_eq_true, if_false] at hx
      rw [decide_eq_false_iff_not]
      intro q
      have := (Rat.mul_neg_iff_of_pos_right hBp).mpr q
      rw [hx] at this
      grind
    · simp only [if_true] at hx
      rw [decide_eq_true_iff]
      refine (Rat.mul_neg_iff_of_pos_right hBp).mp ?_
      rw [hx]
      grind
  rw [hs]
  refine roundRatio_congr hB x.den_pos ?_
  -- magnitudes
  have h1 := rat_num x
  have h2 : (x.num : Rat) * (B : Rat) = ((signed s A : Int) : Rat) * (2 : Rat) ^ e * (x.den : Rat) := by rw [← h1, ← hx]; grind
  have h3 : (x.num : Rat) * (B : Rat) * (2 : Rat) ^ (((0 - e).toNat : Nat) : Int) = ((signed s A : Int) : Rat) * (x.den : Rat) * (2 : Rat) ^ (((e - 0).toNat : Nat) : Int) := by
    rw [h2, Rat.mul_assoc, Rat.mul_assoc, Rat.mul_comm ((2 : Rat) ^ e), Rat.mul_assoc, ← p2add, ← Rat.mul_assoc]
    rw [show (((0 - e).toNat : Nat) : Int) + e = (((e - 0).toNat : Nat) : Int) by omega]
  rw [p2nat, p2nat] at h3
  have h4 : x.num * (B : Int) * ((2 ^ (0 - e).toNat : Nat) : Int) = signed s A * (x.den : Int) * ((2 ^ (e - 0).toNat : Nat) : Int) := by
    refine Rat.intCast_inj.mp ?_
    rw [Rat.intCast_mul, Rat.intCast_mul, Rat.intCast_mul, Rat.intCast_mul]
    exact h3
  have h5 := congrArg Int.natAbs h4
  simp only [Int.natAbs_mul, Int.natAbs_natCast, natAbs_signed] at h5
  exact h5.symm
theorem rvd_rr {s : Bool} {A B : Nat} {e : Int} {x : Rat} (hB : 0 < B) (hx : x * (B : Rat) = ((signed s A : Int) : Rat) * (2 : Rat) ^ e) : rvd (roundRatio b64 s A B e) = RR x := by
  by_cases hA : A = 0
  · subst hA
    have hx0 : x = 0 := by
      rw [signed_zero] at hx
      have hBp : (B : Rat) ≠ 0 := fun q => by have := Rat.natCast_eq_zero_iff.mp q; omega
      rcases Rat.mul_eq_zero.mp (hx.trans (by rw [show ((0 : Int) : Rat) = 0 from rfl, Rat.zero_mul])) with q | q
      · exact q
      · exact absurd q hBp
    subst hx0
    unfold RR roundRatio
    rw [if_pos rfl, if_pos (by decide)]
    show ((signed s 0 : Int) : Rat) * _ = ((signed _ 0 : Int) : Rat) * _
    rw [signed_zero, signed_zero]
  · rw [rr_congr hB hx hA]; rfl
theorem RR_neg (x : Rat) : RR (-x) = - RR x := by
  have h := rat_num x
  have h1 : rvd (roundRatio b64 (!decide (x < 0)) x.num.natAbs x.den 0) = RR (-x) := by
    refine rvd_rr x.den_pos ?_
    rw [Rat.zpow_zero, Rat.mul_one, Rat.neg_mul, h]
    have : (signed (!decide (x < 0)) x.num.natAbs : Int) = - x.num := by
      by_cases q : x < 0
      · have : x.num < 0 := by
          rw [← Int.not_le, Rat.num_nonneg, Rat.not_le]; exact q
        simp [signed, q]; omega
      · have : 0 ≤ x.num := by rw [Rat.num_nonneg]; exact Rat.not_lt.mp q
        simp [signed, q]; omega
    rw [this]; rfl
  rw [← h1, ← negate_roundRatio]
  unfold RR
  generalize roundRatio b64 (decide (x < 0)) x.num.natAbs x.den 0 = d
  cases d with
  | nan => simp [negate, rvd]
  | inf s => simp [negate, rvd]
  | fin s c q =>
    show ((signed (!s) c : Int) : Rat) * _ = -(((signed s c : Int) : Rat) * _)
    rw [← Rat.neg_mul]
    congr 1
    cases s <;> simp [signed]
/-- what is known of a rounding y of x -/
def Rsp (x y : Rat) : Prop := ∃ (m r : Int), y = (m : Rat) * (2 : Rat) ^ r ∧ -1074 ≤ r ∧ m.natAbs ≤ 2 ^ 53 ∧ 2 * x ≤ (2 * (m : Rat) + 1) * (2 : Rat) ^ r ∧ (2 * (m : Rat) - 1) * (2 : Rat) ^ r ≤ 2 * x ∧
    x < 9007199254740992 * (2 : Rat) ^ r ∧ -(9007199254740992 * (2 : Rat) ^ r) < x ∧ (r = -1074 ∨ 4503599627370496 * (2 : Rat) ^ r ≤ x ∨ x ≤ -(4503599627370496 * (2 : Rat) ^ r))
theorem Rsp.neg {x y : Rat} (h : Rsp x y) : Rsp (-x) (-y) := by
  obtain ⟨m, r, h1, h2, h3, h4, h5, h6, h7, h8⟩ := h
  have hu := p2pos r
  refine ⟨-m, r, ?_, h2, by omega, ?_, ?_, ?_, ?_, ?_⟩ <;> (try rw [Rat.intCast_neg]) <;> generalize (2 : Rat) ^ r = u at * <;> grind
theorem big_lt : (1267650600228229401496703205376 : Rat) < (2 : Rat) ^ (1023 : Int) := by
  have h : (2 : Rat) ^ (100 : Int) < (2 : Rat) ^ (1023 : Int) := by
    refine Rat.lt_of_le_of_ne (p2le (by decide)) fun q => ?_
    have h2 : (2 : Rat) ^ (1023 : Int) = (2 : Rat) ^ (100 : Int) * (2 : Rat) ^ (923 : Int) := by rw [← p2add]; rfl
    have h3 : (2 : Rat) ^ (1 : Int) ≤ (2 : Rat) ^ (923 : Int) := p2le (by decide)
    have h4 := p2pos 100
    rw [Rat.zpow_one] at h3
    have h5 := Rat.mul_le_mul_of_nonneg_left h3 (Rat.le_of_lt h4)
    grind
  have e : (2 : Rat) ^ (100 : Int) = 1267650600228229401496703205376 := by decide +kernel
  rw [← e]; exact h
theorem RR_pos {x : Rat} (h0 : 0 < x) (h : x ≤ 1267650600228229401496703205376) : Rsp x (RR x) ∧ ∃ c q, roundRatio b64 (decide (x < 0)) x.num.natAbs x.den 0 = .fin false c q := by
  have hn : 0 < x.num := by
    have : 0 ≤ x.num := by rw [Rat.num_nonneg]; exact Rat.le_of_lt h0
    have : x.num ≠ 0 := fun q => by rw [Rat.num_eq_zero] at q; rw [q] at h0; exact absurd h0 Rat.lt_irrefl
    omega
  have hd : decide (x < 0) = false := by rw [decide_eq_false_iff_not, Rat.not_lt]; exact Rat.le_of_lt h0
  have e1 : ((x.num.natAbs : Nat) : Rat) = (x.num : Rat) := by
    have : ((x.num.natAbs : Nat) : Int) = x.num := by omega
    rw [← Rat.intCast_natCast, this]
  obtain ⟨c, q, hr, m, r, f0, f1, f2, f3, f4, f5, f6⟩ := rr_spec false (A := x.num.natAbs) (B := x.den) 0 (by omega) x.den_pos (x := x) (by rw [Rat.zpow_zero, Rat.mul_one, e1]; exact rat_num x) (Std.lt_of_le_of_lt h big_lt)
  refine ⟨⟨m, r, ?_, f1, by omega, ?_, ?_, ?_, ?_, ?_⟩, c, q, by rw [hd]; exact hr⟩
  · unfold RR
    rw [hd, hr]
    show ((signed false c : Int) : Rat) * _ = _
    rw [← Rat.intCast_natCast] at f0
    exact f0
  all_goals
    have hu := p2pos r
    have e2 : ((m : Int) : Rat) = (m : Rat) := rfl
    rw [e2] at *
    generalize (2 : Rat) ^ r = u at *
    grind
theorem RR_zero : RR 0 = 0 := by
  unfold RR roundRatio
  rw [if_pos (by decide)]
  show ((signed _ 0 : Int) : Rat) * _ = 0
  rw [signed_zero]
  exact Rat.zero_mul _
theorem Rsp.zero : Rsp 0 0 := by
  have hu := p2pos (-1074)
  refine ⟨0, -1074, ?_, by decide, by decide, ?_, ?_, ?_, ?_, Or.inl rfl⟩ <;> generalize (2 : Rat) ^ (-1074 : Int) = u at * <;> (try rw [show ((0 : Int) : Rat) = 0 from rfl]) <;> grind
theorem RR_spec {x : Rat} (h1 : -1267650600228229401496703205376 ≤ x) (h2 : x ≤ 1267650600228229401496703205376) : Rsp x (RR x) := by
  by_cases q : 0 < x
  · exact (RR_pos q h2).1
  · by_cases q2 : x = 0
    · subst q2; rw [RR_zero]; exact Rsp.zero
    · have q3 : 0 < -x := by grind
      have g := (RR_pos q3 (by grind)).1.neg
      rw [RR_neg, Rat.neg_neg, Rat.neg_neg] at g
      exact g
theorem DV.of_rr {v : UInt64} {s : Bool} {A B : Nat} {e : Int} {x : Rat} (hv : val64 v = roundRatio b64 s A B e) (hB : 0 < B) (hx : x * (B : Rat) = ((signed s A : Int) : Rat) * (2 : Rat) ^ e) (h1 : -1267650600228229401496703205376 ≤ x) (h2 : x ≤ 1267650600228229401496703205376) : DV v (RR x) := by
  have hr := rvd_rr hB hx
  by_cases hA : A = 0
  · subst hA
    refine ⟨s, 0, b64.qmin, by rw [hv]; unfold roundRatio; rw [if_pos rfl], ?_⟩
    rw [← hr]; unfold roundRatio; rw [if_pos rfl]
  · obtain ⟨c, q, h, -⟩ := rr_spec s (A := A) (B := B) e (by omega) hB (x := if s then -x else x) (by rw [signed_rat] at hx; cases s <;> simp at hx ⊢ <;> grind) (Std.lt_of_le_of_lt (by cases s <;> simp <;> grind) big_lt)
    exact ⟨s, c, q, by rw [hv, h], by rw [← hr, h]⟩
theorem dadd_DV {a b : UInt64} {x y : Rat} (ha : DV a x) (hb : DV b y) (h1 : -1267650600228229401496703205376 ≤ x + y) (h2 : x + y ≤ 1267650600228229401496703205376) : DV (Jvm.FP.dadd a b) (RR (x + y)) := by
  obtain ⟨s, c, q, e1, rfl⟩ := ha
  obtain ⟨t, d, r, e2, rfl⟩ := hb
  refine DV.of_rr (s := sumSign s t (sumUnits s c q t d r (min q r))) (A := (sumUnits s c q t d r (min q r)).natAbs) (B := 1) (e := min q r) ?_ (by decide) ?_ h1 h2
  · show val64 (dadd a b) = _
    rw [val64_dadd, e1, e2]; rfl
  · rw [signed_sumSign, show ((1 : Nat) : Rat) = 1 from rfl, Rat.mul_one]
    unfold sumUnits
    rw [Rat.intCast_add, Rat.add_mul, units_val s c (Int.min_le_left q r), units_val t d (Int.min_le_right q r)]; rfl
theorem signed_not (t : Bool) (d : Nat) : (signed (!t) d : Int) = - signed t d := by cases t <;> simp [signed]
theorem dsub_DV {a b : UInt64} {x y : Rat} (ha : DV a x) (hb : DV b y) (h1 : -1267650600228229401496703205376 ≤ x - y) (h2 : x - y ≤ 1267650600228229401496703205376) : DV (Jvm.FP.dsub a b) (RR (x - y)) := by
  obtain ⟨s, c, q, e1, rfl⟩ := ha
  obtain ⟨t, d, r, e2, rfl⟩ := hb
  refine DV.of_rr (s := sumSign s (!t) (sumUnits s c q (!t) d r (min q r))) (A := (sumUnits s c q (!t) d r (min q r)).natAbs) (B := 1) (e := min q r) ?_ (by decide) ?_ h1 h2
  · show val64 (dsub a b) = _
    rw [val64_dsub, e1, e2]; rfl
  · rw [signed_sumSign, show ((1 : Nat) : Rat) = 1 from rfl, Rat.mul_one]
    unfold sumUnits
    rw [Rat.intCast_add, Rat.add_mul, units_val s c (Int.min_le_left q r), units_val (!t) d (Int.min_le_right q r), signed_not, Rat.intCast_neg, Rat.neg_mul, Rat.sub_eq_add_neg]; rfl
theorem dmul_DV {a b : UInt64} {x y : Rat} (ha : DV a x) (hb : DV b y) (h1 : -1267650600228229401496703205376 ≤ x * y) (h2 : x * y ≤ 1267650600228229401496703205376) : DV (Jvm.FP.dmul a b) (RR (x * y)) := by
  obtain ⟨s, c, q, e1, rfl⟩ := ha
  obtain ⟨t, d, r, e2, rfl⟩ := hb
  refine DV.of_rr (s := s != t) (A := c * d) (B := 1) (e := q + r) ?_ (by decide) ?_ h1 h2
  · show val64 (dmul a b) = _
    rw [val64_dmul, e1, e2]; rfl
  · rw [signed_xor, show ((1 : Nat) : Rat) = 1 from rfl, Rat.mul_one, Rat.intCast_mul, p2add]
    show (_ * _) * (_ * _) = _
    generalize (2 : Rat) ^ q = u
    generalize (2 : Rat) ^ r = w
    grind
theorem ddiv_DV {a b : UInt64} {x y : Rat} (ha : DV a x) (hb : DV b y) (hy : y ≠ 0) (h1 : -1267650600228229401496703205376 ≤ x / y) (h2 : x / y ≤ 1267650600228229401496703205376) : DV (Jvm.FP.ddiv a b) (RR (x / y)) := by
  obtain ⟨s, c, q, e1, rfl⟩ := ha
  obtain ⟨t, d, r, e2, rfl⟩ := hb
  have hd : d ≠ 0 := by
    rintro rfl
    apply hy
    show ((signed t 0 : Int) : Rat) * _ = 0
    rw [signed_zero]; exact Rat.zero_mul _
  refine DV.of_rr (s := s != t) (A := c) (B := d) (e := q - r) ?_ (by omega) ?_ h1 h2
  · show val64 (ddiv a b) = _
    rw [val64_ddiv, e1, e2]
    show (if d = 0 then _ else _) = _
    rw [if_neg hd]
  · have hq : (2 : Rat) ^ q = (2 : Rat) ^ (q - r) * (2 : Rat) ^ r := by rw [← p2add, show q - r + r = q by omega]
    have hS : ((signed s c : Int) : Rat) * (d : Rat) = ((signed (s != t) c : Int) : Rat) * ((signed t d : Int) : Rat) := by
      rw [signed_rat, signed_rat, signed_rat]
      cases s <;> cases t <;> simp <;> grind
    have hm := Rat.div_mul_cancel (a := rvd (.fin s c q)) hy
    have hyn := hy
    have hv1 : rvd (.fin s c q) = ((signed s c : Int) : Rat) * ((2 : Rat) ^ (q - r) * (2 : Rat) ^ r) := by rw [← hq]; rfl
    have hv2 : rvd (.fin t d r) = ((signed t d : Int) : Rat) * (2 : Rat) ^ r := rfl
    generalize rvd (.fin s c q) / rvd (.fin t d r) = z at *
    rw [hv1, hv2] at hm
    rw [hv2] at hyn
    have hst : ((signed t d : Int) : Rat) ≠ 0 := fun g => hyn (by rw [g]; exact Rat.zero_mul _)
    have hr := p2pos r
    generalize (2 : Rat) ^ (q - r) = u at *
    generalize (2 : Rat) ^ r = w at *
    generalize ((signed s c : Int) : Rat) = X at *
    generalize ((signed (s != t) c : Int) : Rat) = S at *
    generalize ((signed t d : Int) : Rat) = Y at *
    generalize (d : Rat) = D at *
    -- hm : z * (Y * w) = X * (u * w); hS : X * D = S * Y; goal : z * D = S * u
    have hw : w ≠ 0 := Rat.ne_of_gt hr
    have k1 : z * Y = X * u := by
      have : (z * Y - X * u) * w = 0 := by grind
      rcases Rat.mul_eq_zero.mp this with g | g
      · grind
      · exact absurd g hw
    have k2 : (z * D - S * u) * Y = 0 := by grind
    rcases Rat.mul_eq_zero.mp k2 with g | g
    · grind
    · exact absurd g hst
theorem i2d_RR (n : Int32) : DV (Jvm.FP.i2d n) (RR (n.toInt : Rat)) := by
  have h := n.le_toInt
  have h' := n.toInt_lt
  refine DV.of_rr (s := decide (n.toInt < 0)) (A := n.toInt.natAbs) (B := 1) (e := 0) ?_ (by decide) ?_ ?_ ?_
  · show val64 (i2d n) = _
    rw [val64_i2d]; rfl
  · rw [Rat.zpow_zero, Rat.mul_one, show ((1 : Nat) : Rat) = 1 from rfl, Rat.mul_one]
    congr 1
    by_cases q : n.toInt < 0 <;> simp [signed, q] <;> omega
  · have := Rat.intCast_le_intCast.mpr h; grind
  · have := Rat.intCast_le_intCast.mpr (Int.le_of_lt h'); grind
theorem l2d_RR (n : Int64) : DV (Jvm.FP.l2d n) (RR (n.toInt : Rat)) := by
  have h := n.le_toInt
  have h' := n.toInt_lt
  refine DV.of_rr (s := decide (n.toInt < 0)) (A := n.toInt.natAbs) (B := 1) (e := 0) ?_ (by decide) ?_ ?_ ?_
  · show val64 (l2d n) = _
    rw [val64_l2d]; rfl
  · rw [Rat.zpow_zero, Rat.mul_one, show ((1 : Nat) : Rat) = 1 from rfl, Rat.mul_one]
    congr 1
    by_cases q : n.toInt < 0 <;> simp [signed, q] <;> omega
  · have := Rat.intCast_le_intCast.mpr h; grind
  · have := Rat.intCast_le_intCast.mpr (Int.le_of_lt h'); grind
/-- a rational number that a double can hold (no overflow asked) -/
def Rp (z : Rat) : Prop := ∃ m k : Int, z = (m : Rat) * (2 : Rat) ^ k ∧ m.natAbs ≤ 2 ^ 53 ∧ -1074 ≤ k
theorem abs_le {m : Int} (h : m.natAbs ≤ 2 ^ 53) : -(9007199254740992 : Rat) ≤ (m : Rat) ∧ (m : Rat) ≤ 9007199254740992 := by
  have h1 : (-9007199254740992 : Int) ≤ m ∧ m ≤ 9007199254740992 := by omega
  exact ⟨by have := Rat.intCast_le_intCast.mpr h1.1; simpa using this, by have := Rat.intCast_le_intCast.mpr h1.2; simpa using this⟩
/-- a number that can be held is a multiple of the quantum, or no greater than the quantum's least -/
theorem rp_mul {z : Rat} {r : Int} (h : Rp z) : (∃ j : Int, z = (j : Rat) * (2 : Rat) ^ r) ∨ (-1074 < r ∧ z ≤ 4503599627370496 * (2 : Rat) ^ r ∧ -(4503599627370496 * (2 : Rat) ^ r) ≤ z) := by
  obtain ⟨m, k, hz, hm, hk⟩ := h
  by_cases hkr : r ≤ k
  · left
    obtain ⟨i, rfl⟩ : ∃ i : Nat, k = r + i := ⟨(k - r).toNat, by omega⟩
    refine ⟨m * ((2 ^ i : Nat) : Int), ?_⟩
    rw [hz, p2add, p2nat, Rat.intCast_mul, Rat.intCast_natCast]
    generalize (2 : Rat) ^ r = u
    generalize ((2 ^ i : Nat) : Rat) = w
    grind
  · right
    have h1 : (2 : Rat) ^ (k + 1) ≤ (2 : Rat) ^ r := p2le (by omega)
    rw [p2add, Rat.zpow_one] at h1
    obtain ⟨a1, a2⟩ := abs_le hm
    have hu := p2pos k
    have b1 := Rat.mul_le_mul_of_nonneg_right a1 (Rat.le_of_lt hu)
    have b2 := Rat.mul_le_mul_of_nonneg_right a2 (Rat.le_of_lt hu)
    rw [hz]
    refine ⟨by omega, ?_, ?_⟩ <;> generalize (2 : Rat) ^ r = w at * <;> generalize (2 : Rat) ^ k = u at * <;> grind
theorem icast_le {u : Rat} (hu : 0 < u) {i j : Int} (h : (i : Rat) * u ≤ (j : Rat) * u) : i ≤ j := Rat.intCast_le_intCast.mp (Rat.le_of_mul_le_mul_right h hu)
theorem icast_lt {u : Rat} (hu : 0 < u) {i j : Int} (h : (i : Rat) * u < (j : Rat) * u) : i < j := Rat.intCast_lt_intCast.mp (Rat.lt_of_mul_lt_mul_right h (Rat.le_of_lt hu))
/-- the nearest: whatever can be held is no nearer -/
theorem Rsp.near {x y z : Rat} (h : Rsp x y) (hz : Rp z) (t : Rat) (t1 : x - z ≤ t) (t2 : z - x ≤ t) : x - y ≤ t ∧ y - x ≤ t := by
  obtain ⟨n, r, rfl, h2, h3, h4, h5, h6, h7, h8⟩ := h
  have hu := p2pos r
  -- multiples of the quantum
  have main : ∀ (j : Int) (t : Rat), x - (j : Rat) * (2 : Rat) ^ r ≤ t → (j : Rat) * (2 : Rat) ^ r - x ≤ t → x - (n : Rat) * (2 : Rat) ^ r ≤ t ∧ (n : Rat) * (2 : Rat) ^ r - x ≤ t := by
    intro j t t1 t2
    rcases Int.lt_trichotomy j n with g | g | g
    · have g1 : (j : Rat) + 1 ≤ (n : Rat) := by have := Rat.intCast_le_intCast.mpr (show j + 1 ≤ n by omega); simpa using this
      have g2 := Rat.mul_le_mul_of_nonneg_right g1 (Rat.le_of_lt hu)
      generalize (2 : Rat) ^ r = u at *
      constructor <;> grind
    · subst g; exact ⟨t1, t2⟩
    · have g1 : (n : Rat) + 1 ≤ (j : Rat) := by have := Rat.intCast_le_intCast.mpr (show n + 1 ≤ j by omega); simpa using this
      have g2 := Rat.mul_le_mul_of_nonneg_right g1 (Rat.le_of_lt hu)
      generalize (2 : Rat) ^ r = u at *
      constructor <;> grind
  rcases rp_mul (r := r) hz with ⟨j, rfl⟩ | ⟨g0, g1, g2⟩
  · exact main j t t1 t2
  · rcases h8 with q | q | q
    · omega
    · refine main 4503599627370496 t ?_ ?_ <;> rw [show ((4503599627370496 : Int) : Rat) = 4503599627370496 from rfl] <;> generalize (2 : Rat) ^ r = u at * <;> grind
    · refine main (-4503599627370496) t ?_ ?_ <;> rw [show ((-4503599627370496 : Int) : Rat) = -4503599627370496 from rfl] <;> generalize (2 : Rat) ^ r = u at * <;> grind
theorem Rsp.exact {x y : Rat} (h : Rsp x y) (hx : Rp x) : y = x := by
  have := h.near hx 0 (by grind) (by grind)
  grind
theorem RR_exact {x : Rat} (hx : Rp x) (h1 : -1267650600228229401496703205376 ≤ x) (h2 : x ≤ 1267650600228229401496703205376) : RR x = x := (RR_spec h1 h2).exact hx
theorem Rsp.rp {x y : Rat} (h : Rsp x y) : Rp y := by
  obtain ⟨n, r, rfl, h2, h3, -⟩ := h
  exact ⟨n, r, rfl, h3, h2⟩
theorem Rsp.le {x y z : Rat} (h : Rsp x y) (hz : Rp z) (q : x ≤ z) : y ≤ z := by
  have := h.near hz (z - x) (by grind) (by grind)
  grind
theorem Rsp.ge {x y z : Rat} (h : Rsp x y) (hz : Rp z) (q : z ≤ x) : z ≤ y := by
  have := h.near hz (x - z) (by grind) (by grind)
  grind
theorem RR_mono {x y : Rat} (h : x ≤ y) (x1 : -1267650600228229401496703205376 ≤ x) (y2 : y ≤ 1267650600228229401496703205376) : RR x ≤ RR y := by
  by_cases q : x = y
  · rw [q]; exact Rat.le_refl
  · have hx := RR_spec x1 (by grind)
    have hy := RR_spec (by grind) y2
    by_cases g : RR x ≤ RR y
    · exact g
    · have g := Rat.not_le.mp g
      -- RR y < RR x
      have a := fun t => hx.near hy.rp t
      have b := fun t => hy.near hx.rp t
      generalize RR x = X at *
      generalize RR y = Y at *
      by_cases c1 : x ≤ Y
      · have := a (Y - x) (by grind) (by grind)
        grind
      · by_cases c2 : X ≤ y
        · have := b (y - X) (by grind) (by grind)
          grind
        · have k1 := a (x - Y) (by grind) (by grind)
          have k2 := b (X - y) (by grind) (by grind)
          grind
/-- the relative error, of what is not tiny -/
theorem Rsp.err {x y : Rat} (h : Rsp x y) (hx : 1 ≤ x * 1267650600228229401496703205376) : 9007199254740992 * (y - x) ≤ x ∧ 9007199254740992 * (x - y) ≤ x := by
  obtain ⟨n, r, rfl, h2, h3, h4, h5, h6, h7, h8⟩ := h
  have hu := p2pos r
  have k : 4503599627370496 * (2 : Rat) ^ r ≤ x := by
    rcases h8 with q | q | q
    · subst q
      have e1 : (2 : Rat) ^ (-1022 : Int) = 4503599627370496 * (2 : Rat) ^ (-1074 : Int) := by
        rw [show (-1022 : Int) = 52 + -1074 from rfl, p2add, show (2 : Rat) ^ (52 : Int) = 4503599627370496 by decide +kernel]
      have e2 : (2 : Rat) ^ (-1022 : Int) ≤ (2 : Rat) ^ (-100 : Int) := p2le (by decide)
      have e3 : (2 : Rat) ^ (-100 : Int) * (2 : Rat) ^ (100 : Int) = 1 := by rw [← p2add]; rfl
      have e4 : (2 : Rat) ^ (100 : Int) = 1267650600228229401496703205376 := by decide +kernel
      rw [e4] at e3
      rw [← e1]
      generalize (2 : Rat) ^ (-1022 : Int) = v at *
      generalize (2 : Rat) ^ (-100 : Int) = w at *
      grind
    · exact q
    · generalize (2 : Rat) ^ r = u at *
      grind
  generalize (2 : Rat) ^ r = u at *
  constructor <;> grind
/-- the error, of whatever size: relative, or below 2^-53 -/
theorem err_any {x : Rat} (h1 : -1267650600228229401496703205376 ≤ x) (h2 : x ≤ 1267650600228229401496703205376) (t : Rat) (t1 : x ≤ t) (t2 : -x ≤ t) : 9007199254740992 * (RR x - x) ≤ t + 1 ∧ 9007199254740992 * (x - RR x) ≤ t + 1 := by
  have h := RR_spec h1 h2
  generalize RR x = y at *
  obtain ⟨n, r, rfl, g2, g3, g4, g5, g6, g7, g8⟩ := h
  have hu := p2pos r
  have k : 4503599627370496 * (2 : Rat) ^ r ≤ t + 1 := by
    rcases g8 with q | q | q
    · subst q
      have e1 : (2 : Rat) ^ (-1022 : Int) = 4503599627370496 * (2 : Rat) ^ (-1074 : Int) := by
        rw [show (-1022 : Int) = 52 + -1074 from rfl, p2add, show (2 : Rat) ^ (52 : Int) = 4503599627370496 by decide +kernel]
      have e2 : (2 : Rat) ^ (-1022 : Int) ≤ (2 : Rat) ^ (0 : Int) := p2le (by decide)
      rw [Rat.zpow_zero] at e2
      rw [← e1]
      generalize (2 : Rat) ^ (-1022 : Int) = v at *
      grind
    · generalize (2 : Rat) ^ r = u at *
      grind
    · generalize (2 : Rat) ^ r = u at *
      grind
  generalize (2 : Rat) ^ r = u at *
  constructor <;> grind
theorem rp_int {n : Int} (h : n.natAbs ≤ 2 ^ 53) : Rp (n : Rat) := ⟨n, 0, by rw [Rat.zpow_zero, Rat.mul_one], h, by decide⟩
theorem rp_scale {z : Rat} (k : Int) {m : Int} (h : z = (m : Rat) * (2 : Rat) ^ k) (hm : m.natAbs ≤ 2 ^ 53) (hk : -1074 ≤ k) : Rp z := ⟨m, k, h, hm, hk⟩
theorem RR_int {n : Int} (h : n.natAbs ≤ 2 ^ 53) : RR (n : Rat) = (n : Rat) := by
  refine RR_exact (rp_int h) ?_ ?_
  · have := Rat.intCast_le_intCast.mpr (show (-9007199254740992 : Int) ≤ n by omega); grind
  · have := Rat.intCast_le_intCast.mpr (show n ≤ (9007199254740992 : Int) by omega); grind
theorem i2d_DV (n : Int32) : DV (Jvm.FP.i2d n) (n.toInt : Rat) := by
  have h := n.le_toInt
  have h' := n.toInt_lt
  have q := i2d_RR n
  rw [RR_int (by omega)] at q
  exact q
theorem l2d_DV {n : Int64} (h : n.toInt.natAbs ≤ 2 ^ 53) : DV (Jvm.FP.l2d n) (n.toInt : Rat) := by
  have q := l2d_RR n
  rw [RR_int h] at q
  exact q
/-- a written double, by its fields -/
theorem lit_DV {v : UInt64} {s : Bool} {c : Nat} {q : Int} {x : Rat} (h : val64 v = .fin s c q) (hx : ((signed s c : Int) : Rat) * (2 : Rat) ^ q = x) : DV v x := ⟨s, c, q, h, hx⟩
theorem dneg_DV {v : UInt64} {x : Rat} (h : DV v x) : DV (Jvm.FP.dneg v) (-x) := by
  obtain ⟨s, c, q, h1, rfl⟩ := h
  refine ⟨!s, c, q, by rw [Jvm.FP.val64_dneg, h1]; rfl, ?_⟩
  show ((signed (!s) c : Int) : Rat) * _ = -(((signed s c : Int) : Rat) * _)
  rw [signed_not, Rat.intCast_neg, Rat.neg_mul]
theorem DV.whole {v : UInt64} {n : Int} (h : DV v (n : Rat)) : DInt n v := by
  obtain ⟨s, c, q, h1, h2⟩ := h
  unfold DInt
  rw [h1]
  show signed s (c * 2 ^ q.toNat) = n * ((2 ^ (-q).toNat : Nat) : Int)
  refine Rat.intCast_inj.mp ?_
  have h3 : ((signed s c : Int) : Rat) * (2 : Rat) ^ q = (n : Rat) := h2
  rw [signed_mul, Rat.intCast_mul, Rat.intCast_mul, ← h3, Rat.mul_assoc, show (((2 ^ (-q).toNat : Nat) : Int) : Rat) = ((2 ^ (-q).toNat : Nat) : Rat) from rfl, show (((2 ^ q.toNat : Nat) : Int) : Rat) = ((2 ^ q.toNat : Nat) : Rat) from rfl, ← p2nat, ← p2nat, ← p2add, show q + ((-q).toNat : Int) = (q.toNat : Int) by omega]
theorem d2l_DV {v : UInt64} {n : Int64} (h : DV v (n.toInt : Rat)) : Jvm.FP.d2l v = n := d2l_int h.whole
theorem DV.cast {v : UInt64} {x y : Rat} (h : DV v x) (e : x = y) : DV v y := e ▸ h
end Jvm.OwnFl
namespace Jvm.Pilot.@@N@@
open Jvm Jvm.ClassFile Sem Op Lib Jvm.Free Jvm.Stand Jvm.LawKit Jvm.RoadKit Jvm.OwnKit Bundle Jvm.Pilot.@@N@@.Jvm.D
theorem wd {a0 : Array Value} {Z : State} {d : Jvm.Cond} (hw : ∀ d ∈ tables_1, d.before a0 Z = true) (i : Nat) (h : tables_1[i]? = some d) : d.before a0 Z = true := hw d (List.mem_of_getElem? h)
theorem d1_0 : decode prog_22_method_1_code 0 = .ok (.aload_n 0, 1) := by decide +kernel
theorem d1_1 : decode prog_22_method_1_code 1 = .ok (.invokespecial 1, 3) := by decide +kernel
theorem d1_4 : decode prog_22_method_1_code 4 = .ok (.ldc 7, 2) := by decide +kernel
theorem d1_6 : decode prog_22_method_1_code 6 = .ok (.dload_n 1, 1) := by decide +kernel
theorem d1_7 : decode prog_22_method_1_code 7 = .ok (.invokestatic 9, 3) := by decide +kernel
theorem d1_10 : decode prog_22_method_1_code 10 = .ok (.ldc 15, 2) := by decide +kernel
theorem d1_12 : decode prog_22_method_1_code 12 = .ok (.dload_n 3, 1) := by decide +kernel
theorem d1_13 : decode prog_22_method_1_code 13 = .ok (.invokestatic 9, 3) := by decide +kernel
theorem d1_16 : decode prog_22_method_1_code 16 = .ok (.aload_n 0, 1) := by decide +kernel
theorem d1_17 : decode prog_22_method_1_code 17 = .ok (.dload_n 1, 1) := by decide +kernel
theorem d1_18 : decode prog_22_method_1_code 18 = .ok (.putfield 17, 3) := by decide +kernel
theorem d1_21 : decode prog_22_method_1_code 21 = .ok (.aload_n 0, 1) := by decide +kernel
theorem d1_22 : decode prog_22_method_1_code 22 = .ok (.dload_n 3, 1) := by decide +kernel
theorem d1_23 : decode prog_22_method_1_code 23 = .ok (.putfield 22, 3) := by decide +kernel
theorem d1_26 : decode prog_22_method_1_code 26 = .ok (.return_, 1) := by decide +kernel
theorem d2_0 : decode jdk_30_method_1_code 0 = .ok (.aload_n 0, 1) := by decide +kernel
theorem d2_1 : decode jdk_30_method_1_code 1 = .ok (.invokespecial 1, 3) := by decide +kernel
theorem d2_4 : decode jdk_30_method_1_code 4 = .ok (.return_, 1) := by decide +kernel
theorem d4_0 : decode prog_18_method_2_code 0 = .ok (.dload_n 1, 1) := by decide +kernel
theorem d4_1 : decode prog_18_method_2_code 1 = .ok (.dconst 0, 1) := by decide +kernel
theorem d4_2 : decode prog_18_method_2_code 2 = .ok (.dcmp .l, 1) := by decide +kernel
theorem d4_3 : decode prog_18_method_2_code 3 = .ok (.ifCond .le 10, 3) := by decide +kernel
theorem d4_6 : decode prog_18_method_2_code 6 = .ok (.dload_n 1, 1) := by decide +kernel
theorem d4_7 : decode prog_18_method_2_code 7 = .ok (.invokestatic 7, 3) := by decide +kernel
theorem d4_10 : decode prog_18_method_2_code 10 = .ok (.ifCond .ne 18, 3) := by decide +kernel
theorem d4_28 : decode prog_18_method_2_code 28 = .ok (.return_, 1) := by decide +kernel
theorem d5_0 : decode jdk_117_method_8_code 0 = .ok (.dload_n 0, 1) := by decide +kernel
theorem d5_1 : decode jdk_117_method_8_code 1 = .ok (.invokestatic 38, 3) := by decide +kernel
theorem d5_4 : decode jdk_117_method_8_code 4 = .ok (.ldc2_w 111, 3) := by decide +kernel
theorem d5_7 : decode jdk_117_method_8_code 7 = .ok (.dcmp .g, 1) := by decide +kernel
theorem d5_8 : decode jdk_117_method_8_code 8 = .ok (.ifCond .gt 7, 3) := by decide +kernel
theorem d5_11 : decode jdk_117_method_8_code 11 = .ok (.iconst 1, 1) := by decide +kernel
theorem d5_12 : decode jdk_117_method_8_code 12 = .ok (.goto 4, 3) := by decide +kernel
theorem d5_16 : decode jdk_117_method_8_code 16 = .ok (.ireturn, 1) := by decide +kernel
theorem d7_0 : decode prog_22_method_5_code 0 = .ok (.dconst 1, 1) := by decide +kernel
theorem d7_1 : decode prog_22_method_5_code 1 = .ok (.aload_n 0, 1) := by decide +kernel
theorem d7_2 : decode prog_22_method_5_code 2 = .ok (.getfield 22, 3) := by decide +kernel
theorem d7_5 : decode prog_22_method_5_code 5 = .ok (.ddiv, 1) := by decide +kernel
theorem d7_6 : decode prog_22_method_5_code 6 = .ok (.dload 4, 2) := by decide +kernel
theorem d7_8 : decode prog_22_method_5_code 8 = .ok (.dload_n 1, 1) := by decide +kernel
theorem d7_9 : decode prog_22_method_5_code 9 = .ok (.dmul, 1) := by decide +kernel
theorem d7_10 : decode prog_22_method_5_code 10 = .ok (.dmul, 1) := by decide +kernel
theorem d7_11 : decode prog_22_method_5_code 11 = .ok (.dreturn, 1) := by decide +kernel
theorem pd_0 : parseMethodDescriptor "(D)D" = some ⟨[.double], some .double⟩ := by decide +kernel
theorem pd_1 : parseMethodDescriptor "(D)Z" = some ⟨[.double], some .boolean⟩ := by decide +kernel
theorem pd_2 : parseMethodDescriptor "()V" = some ⟨[], none⟩ := by decide +kernel
theorem pd_3 : parseMethodDescriptor "(Ljava/lang/String;D)V" = some ⟨[(.object "java/lang/String"), .double], none⟩ := by decide +kernel
theorem pd_4 : parseMethodDescriptor "(DD)V" = some ⟨[.double, .double], none⟩ := by decide +kernel
theorem pd_5 : parseMethodDescriptor "(DID)D" = some ⟨[.double, .int, .double], some .double⟩ := by decide +kernel
section OwnPlain
open Jvm.OwnFl
theorem own_z : DV 0 0 := lit_DV (s := false) (c := 0) (q := -1074) (by decide +kernel) (by decide +kernel)
theorem own_1 : DV 4607182418800017408 1 := lit_DV (s := false) (c := 2 ^ 52) (q := -52) (by decide +kernel) (by decide +kernel)
theorem own_fin {g : UInt64} (h : Jvm.Free.Fl.Fin64 g) : FP.dcmp (g &&& 0x7fffffffffffffff) 9218868437227405311 = some .lt ∨ FP.dcmp (g &&& 0x7fffffffffffffff) 9218868437227405311 = some .eq := by
  have hf := Jvm.Free.Fl.fin64_core.mp h
  have hn : Jvm.FP.Core.dIsNaN g = false := by
    rw [Jvm.FP.Core.notNaN_iff]
    exact hf.ne_nan
  exact (Jvm.FP.Core.le_max hn).mpr hf
theorem own_prod (p x : Int32) : -4611686018427387904 ≤ p.toInt * x.toInt ∧ p.toInt * x.toInt ≤ 4611686018427387904 := by
  have hp1 := p.le_toInt
  have hp2 := p.toInt_lt
  have hx1 := x.le_toInt
  have hx2 := x.toInt_lt
  have := mc (a := p.toInt) (b := x.toInt) (l1 := -2147483648) (h1 := 2147483648) (l2 := -2147483648) (h2 := 2147483648) (by omega) (by omega) (by omega) (by omega)
  omega
theorem own_prodR (p x : Int32) : (-4611686018427387904 : Rat) ≤ ((p.toInt * x.toInt : Int) : Rat) ∧ ((p.toInt * x.toInt : Int) : Rat) ≤ 4611686018427387904 := by
  obtain ⟨h1, h2⟩ := own_prod p x
  exact ⟨by have := Rat.intCast_le_intCast.mpr h1; simpa using this, by have := Rat.intCast_le_intCast.mpr h2; simpa using this⟩
theorem own_pay (p x : Int32) : DV (FP.dmul (FP.i2d p) (FP.i2d x)) (RR ((p.toInt * x.toInt : Int) : Rat)) := by
  obtain ⟨b1, b2⟩ := own_prodR p x
  rw [Rat.intCast_mul] at b1 b2 ⊢
  exact dmul_DV (i2d_DV p) (i2d_DV x) (by grind) (by grind)
theorem own_exp (p x : Int32) : DV (FP.l2d (p.toInt64 * x.toInt64)) (RR ((p.toInt * x.toInt : Int) : Rat)) := by
  obtain ⟨h1, h2⟩ := own_prod p x
  have e : (p.toInt64 * x.toInt64).toInt = p.toInt * x.toInt := by
    have a := c_lmul p.toInt64 x.toInt64
    have b := rng64 (p.toInt64 * x.toInt64)
    rw [c_i2l, c_i2l] at a
    generalize p.toInt * x.toInt = P at *
    omega
  have q := l2d_RR (p.toInt64 * x.toInt64)
  rwa [e] at q
theorem own_rr (p x : Int32) : (-9223372036854775808 : Rat) ≤ RR ((p.toInt * x.toInt : Int) : Rat) ∧ RR ((p.toInt * x.toInt : Int) : Rat) ≤ 9223372036854775808 := by
  obtain ⟨b1, b2⟩ := own_prodR p x
  have s := RR_spec (x := ((p.toInt * x.toInt : Int) : Rat)) (by grind) (by grind)
  exact ⟨s.ge ⟨-1, 63, by decide +kernel, by decide, by decide⟩ (by grind), s.le ⟨1, 63, by decide +kernel, by decide, by decide⟩ (by grind)⟩
/-- the powers -/
abbrev Pw (n : Int32) (g : UInt64) (N : Rat) : Prop := FP.i2d n = g ∧ DV g N ∧ DV (FP.ddiv 4607182418800017408 g) (1 / N) ∧ DV (FP.ddiv 4607182418800017408 (FP.ddiv 4607182418800017408 g)) N ∧ 1 ≤ N ∧ N ≤ 128
theorem own_pw (e : Int32) (h0 : 0 ≤ e.toInt) (h1 : e.toInt ≤ 7) : ∃ g N, Pw ((1 : Int32) <<< (e &&& 31)) g N := by
  have he : e = 0 ∨ e = 1 ∨ e = 2 ∨ e = 3 ∨ e = 4 ∨ e = 5 ∨ e = 6 ∨ e = 7 := by
    simp only [← Int32.toInt_inj, show (0 : Int32).toInt = 0 by decide, show (1 : Int32).toInt = 1 by decide, show (2 : Int32).toInt = 2 by decide, show (3 : Int32).toInt = 3 by decide, show (4 : Int32).toInt = 4 by decide, show (5 : Int32).toInt = 5 by decide, show (6 : Int32).toInt = 6 by decide, show (7 : Int32).toInt = 7 by decide]
    omega
  rcases he with rfl | rfl | rfl | rfl | rfl | rfl | rfl | rfl
  · exact ⟨_, 1, rfl, lit_DV (s := false) (c := 2 ^ 52) (q := -52) (by decide +kernel) (by decide +kernel), lit_DV (s := false) (c := 2 ^ 52) (q := -52) (by decide +kernel) (by decide +kernel), lit_DV (s := false) (c := 2 ^ 52) (q := -52) (by decide +kernel) (by decide +kernel), by decide +kernel, by decide +kernel⟩
  · exact ⟨_, 2, rfl, lit_DV (s := false) (c := 2 ^ 52) (q := -51) (by decide +kernel) (by decide +kernel), lit_DV (s := false) (c := 2 ^ 52) (q := -53) (by decide +kernel) (by decide +kernel), lit_DV (s := false) (c := 2 ^ 52) (q := -51) (by decide +kernel) (by decide +kernel), by decide +kernel, by decide +kernel⟩
  · exact ⟨_, 4, rfl, lit_DV (s := false) (c := 2 ^ 52) (q := -50) (by decide +kernel) (by decide +kernel), lit_DV (s := false) (c := 2 ^ 52) (q := -54) (by decide +kernel) (by decide +kernel), lit_DV (s := false) (c := 2 ^ 52) (q := -50) (by decide +kernel) (by decide +kernel), by decide +kernel, by decide +kernel⟩
  · exact ⟨_, 8, rfl, lit_DV (s := false) (c := 2 ^ 52) (q := -49) (by decide +kernel) (by decide +kernel), lit_DV (s := false) (c := 2 ^ 52) (q := -55) (by decide +kernel) (by decide +kernel), lit_DV (s := false) (c := 2 ^ 52) (q := -49) (by decide +kernel) (by decide +kernel), by decide +kernel, by decide +kernel⟩
  · exact ⟨_, 16, rfl, lit_DV (s := false) (c := 2 ^ 52) (q := -48) (by decide +kernel) (by decide +kernel), lit_DV (s := false) (c := 2 ^ 52) (q := -56) (by decide +kernel) (by decide +kernel), lit_DV (s := false) (c := 2 ^ 52) (q := -48) (by decide +kernel) (by decide +kernel), by decide +kernel, by decide +kernel⟩
  · exact ⟨_, 32, rfl, lit_DV (s := false) (c := 2 ^ 52) (q := -47) (by decide +kernel) (by decide +kernel), lit_DV (s := false) (c := 2 ^ 52) (q := -57) (by decide +kernel) (by decide +kernel), lit_DV (s := false) (c := 2 ^ 52) (q := -47) (by decide +kernel) (by decide +kernel), by decide +kernel, by decide +kernel⟩
  · exact ⟨_, 64, rfl, lit_DV (s := false) (c := 2 ^ 52) (q := -46) (by decide +kernel) (by decide +kernel), lit_DV (s := false) (c := 2 ^ 52) (q := -58) (by decide +kernel) (by decide +kernel), lit_DV (s := false) (c := 2 ^ 52) (q := -46) (by decide +kernel) (by decide +kernel), by decide +kernel, by decide +kernel⟩
  · exact ⟨_, 128, rfl, lit_DV (s := false) (c := 2 ^ 52) (q := -45) (by decide +kernel) (by decide +kernel), lit_DV (s := false) (c := 2 ^ 52) (q := -59) (by decide +kernel) (by decide +kernel), lit_DV (s := false) (c := 2 ^ 52) (q := -45) (by decide +kernel) (by decide +kernel), by decide +kernel, by decide +kernel⟩
end OwnPlain
def Q_rmRec (Z : State) (a : Addr) (h0 : Heap) (n0 : Nat) (v : Option Value) (h : Heap) (L : List Loc) : Prop := v = none ∧ Fr n0 L ∧ h = h0
set_option maxRecDepth 65536 in
set_option maxHeartbeats 40000000 in
theorem rmRec (l : Launch) (Z : State) (a0 : Array Value) (hw : ∀ d ∈ tables_1, d.before a0 Z = true) (ws : List Jvm.Cond) (a : Addr) (h0 : Heap) (n0 : Nat) (Zs : n0 ≤ h0.size)  :
    Con l (⟨"java/lang/Record", "<init>", "()V"⟩ : MethodName) jdk_30_method_1_code 1 none ws ({ frames := 1, cells := 0, slots := 0, locals := 12 } : Room) Z #[(.ref a)] h0 ({ frames := 1, cells := 0, slots := 0, locals := 12 } : Room).cells ({ frames := 1, cells := 0, slots := 0, locals := 12 } : Room).slots (Q_rmRec Z a h0 n0) := by
  refine Con.of (Ls := #[.val (.ref a)]) (plainFor_of_name (by first | (simp [plainName, overriddenIn]; done) | decide +kernel)) (fun m => by first | (simp [entryFrame, mkF, argsToLocals, Value.category]; done) | rfl) ?_
  intro p e s m below meth c s₁ G hGe hG hx hby hml hown hnm hrt hlk hZ X0 e0
  have hown : s.vm.findClass "java/lang/Record" = some m.cls := hown
  have hnm : meth.name = "<init>" := hnm
  have NF0 := Fr.nil n0
  refine g_aloadN hG X0 hx (hb hby d2_0) (pc' := 1) rfl rfl rfl ?_
  show G (s₁.setTop (mkF m 1 #[.val (.ref a)] [(.ref a)]))
  refine g_initO hG X0 hx hZ hown (wd hw 12 rfl) (wd hw 13 rfl) (wd hw 14 rfl) e0 (by rw [hml]; rfl) (hb hby d2_1) (by decide) (by decide) (pc' := 4) rfl ?_
  intro T1 X1 e1
  show G (T1.setTop (mkF m 4 #[.val (.ref a)] []))
  exact e_ret0 hGe X1 hx hrt hlk (hb hby d2_4) e1 (by decide) (by decide) (⟨rfl, NF0, rfl⟩)

def Q_rmFin (Z : State) (g : UInt64) (h0 : Heap) (n0 : Nat) (v : Option Value) (h : Heap) (L : List Loc) : Prop := v = some (.int 1) ∧ Fr n0 L ∧ h = h0
set_option maxRecDepth 65536 in
set_option maxHeartbeats 40000000 in
theorem rmFin (l : Launch) (Z : State) (a0 : Array Value) (hw : ∀ d ∈ tables_1, d.before a0 Z = true) (ws : List Jvm.Cond) (g : UInt64) (h0 : Heap) (n0 : Nat) (Zs : n0 ≤ h0.size) (hf : Jvm.Free.Fl.Fin64 g) :
    Con l (⟨"java/lang/Double", "isFinite", "(D)Z"⟩ : MethodName) jdk_117_method_8_code 2 (some .boolean) ws ({ frames := 1, cells := 0, slots := 0, locals := 16 } : Room) Z #[(.double g)] h0 ({ frames := 1, cells := 0, slots := 0, locals := 16 } : Room).cells ({ frames := 1, cells := 0, slots := 0, locals := 16 } : Room).slots (Q_rmFin Z g h0 n0) := by
  refine Con.of (Ls := #[.val (.double g), .second]) (by decide +kernel) (fun m => by first | (simp [entryFrame, mkF, argsToLocals, Value.category]; done) | rfl) ?_
  intro p e s m below meth c s₁ G hGe hG hx hby hml hown hnm hrt hlk hZ X0 e0
  have hown : s.vm.findClass "java/lang/Double" = some m.cls := hown
  have hnm : meth.name = "isFinite" := hnm
  have NF0 := Fr.nil n0
  refine g_dloadN hG X0 hx (hb hby d5_0) (pc' := 1) rfl rfl ?_
  show G (s₁.setTop (mkF m 1 #[.val (.double g), .second] [(.double g)]))
  refine g_natS hG X0 hx hZ (y := (⟨"java/lang/Math", "abs", "(D)D"⟩ : MethodName)) (val := (.double (g &&& 0x7fffffffffffffff))) 0 hown (wd hw 31 rfl) (wd hw 32 rfl) (wd hw 33 rfl) (wd hw 34 rfl) (by decide) (fun hc => Jvm.Free.Fl.Abs.absD_pays g hc (by decide) (by decide)) (by rw [hml]; rfl) pd_0 rfl (argsL := [(.double g)]) (rest := []) rfl (Nat.le_of_eq rfl) (hb hby d5_1) e0 (by decide) (by decide) (⟨rfl, hf.noNaN⟩) (pc' := 4) rfl ?_
  intro T1 X1 e1
  show G (T1.setTop (mkF m 4 #[.val (.double g), .second] [(.double (g &&& 0x7fffffffffffffff))]))
  refine g_ldcDouble hG X1 hx hZ hown (wd hw 35 rfl) (hb hby d5_4) (pc' := 7) rfl ?_
  show G (T1.setTop (mkF m 7 #[.val (.double g), .second] [(.double 9218868437227405311), (.double (g &&& 0x7fffffffffffffff))]))
  obtain ⟨v7, q7⟩ : ∃ zz : Int32, cmpValue (FP.dcmp (g &&& 0x7fffffffffffffff) (9218868437227405311 : UInt64)) .g = zz := ⟨_, rfl⟩
  refine g_dcmp hG X1 hx (hb hby d5_7) (pc' := 8) rfl q7 ?_
  show G (T1.setTop (mkF m 8 #[.val (.double g), .second] [(.int v7)]))
  refine g_ifNo hG X1 hx (hb hby d5_8) (pc' := 11) (by rcases own_fin hf with q | q <;> rw [← q7, q] <;> rfl) rfl ?_
  show G (T1.setTop (mkF m 11 #[.val (.double g), .second] []))
  refine g_iconst hG X1 hx (hb hby d5_11) (pc' := 12) rfl (v := (1 : Int32)) rfl ?_
  show G (T1.setTop (mkF m 12 #[.val (.double g), .second] [(.int 1)]))
  refine g_goto hG X1 hx (hb hby d5_12) (pc' := 16) (by decide) (by decide) ?_
  show G (T1.setTop (mkF m 16 #[.val (.double g), .second] [(.int 1)]))
  exact e_retZ hGe X1 hx hrt hlk (hb hby d5_16) (Or.inr rfl) e1 (by decide) (by decide) (⟨rfl, NF0, rfl⟩)

def Q_rmReq (Z : State) (sr : Addr) (g : UInt64) (h0 : Heap) (n0 : Nat) (v : Option Value) (h : Heap) (L : List Loc) : Prop := v = none ∧ Fr n0 L ∧ h = h0
set_option maxRecDepth 65536 in
set_option maxHeartbeats 40000000 in
theorem rmReq (l : Launch) (Z : State) (a0 : Array Value) (hw : ∀ d ∈ tables_1, d.before a0 Z = true) (ws : List Jvm.Cond) (sr : Addr) (g : UInt64) (h0 : Heap) (n0 : Nat) (Zs : n0 ≤ h0.size) (hf : Jvm.Free.Fl.Fin64 g) (hg : FP.dcmp g 0 = some .gt) :
    Con l (⟨"com/example/flowmarket/flowmarket/scenario/Checks", "requireFinitePositive", "(Ljava/lang/String;D)V"⟩ : MethodName) prog_18_method_2_code 3 none ws ({ frames := 2, cells := 0, slots := 0, locals := 32 } : Room) Z #[(.ref sr), (.double g)] h0 ({ frames := 2, cells := 0, slots := 0, locals := 32 } : Room).cells ({ frames := 2, cells := 0, slots := 0, locals := 32 } : Room).slots (Q_rmReq Z sr g h0 n0) := by
  refine Con.of (Ls := #[.val (.ref sr), .val (.double g), .second]) (plainFor_of_name (by first | (simp [plainName, overriddenIn]; done) | decide +kernel)) (fun m => by first | (simp [entryFrame, mkF, argsToLocals, Value.category]; done) | rfl) ?_
  intro p e s m below meth c s₁ G hGe hG hx hby hml hown hnm hrt hlk hZ X0 e0
  have hown : s.vm.findClass "com/example/flowmarket/flowmarket/scenario/Checks" = some m.cls := hown
  have hnm : meth.name = "requireFinitePositive" := hnm
  have NF0 := Fr.nil n0
  refine g_dloadN hG X0 hx (hb hby d4_0) (pc' := 1) rfl rfl ?_
  show G (s₁.setTop (mkF m 1 #[.val (.ref sr), .val (.double g), .second] [(.double g)]))
  refine g_dconst0 hG X0 hx (hb hby d4_1) (pc' := 2) rfl (v := (0 : UInt64)) rfl ?_
  show G (s₁.setTop (mkF m 2 #[.val (.ref sr), .val (.double g), .second] [(.double 0), (.double g)]))
  obtain ⟨v2, q2⟩ : ∃ zz : Int32, cmpValue (FP.dcmp g (0 : UInt64)) .l = zz := ⟨_, rfl⟩
  refine g_dcmp hG X0 hx (hb hby d4_2) (pc' := 3) rfl q2 ?_
  show G (s₁.setTop (mkF m 3 #[.val (.ref sr), .val (.double g), .second] [(.int v2)]))
  refine g_ifNo hG X0 hx (hb hby d4_3) (pc' := 6) (by rw [← q2, hg]; rfl) rfl ?_
  show G (s₁.setTop (mkF m 6 #[.val (.ref sr), .val (.double g), .second] []))
  refine g_dloadN hG X0 hx (hb hby d4_6) (pc' := 7) rfl rfl ?_
  show G (s₁.setTop (mkF m 7 #[.val (.ref sr), .val (.double g), .second] [(.double g)]))
  refine g_callS hG X0 hx hZ (y := (⟨"java/lang/Double", "isFinite", "(D)Z"⟩ : MethodName)) 0 hown (wd hw 27 rfl) (wd hw 28 rfl) (wd hw 29 rfl) (wd hw 30 rfl) (by decide) (rmFin l Z a0 hw [] g h0 n0 Zs hf) (by decide) (by decide) (by rw [hml]; rfl) pd_1 rfl (argsL := [(.double g)]) (rest := []) rfl rfl (Nat.le_of_eq rfl) (hb hby d4_7) e0 (by decide) (by decide) (pc' := 10) rfl ?_
  intro T1 rv1 L1 X1 hQ1
  obtain ⟨rfl, Nq1, eh1⟩ := hQ1
  have NF1 := Fr.app NF0 Nq1
  show G (T1.setTop (mkF m 10 #[.val (.ref sr), .val (.double g), .second] [(.int 1)]))
  refine g_ifYes hG X1 hx (hb hby d4_10) (pc' := 28) (by decide) (by decide) (by decide) ?_
  show G (T1.setTop (mkF m 28 #[.val (.ref sr), .val (.double g), .second] []))
  exact e_ret0 hGe X1 hx hrt hlk (hb hby d4_28) eh1 (by decide) (by decide) (⟨rfl, NF1, rfl⟩)

def Q_rmIso (Z : State) (a : Addr) (wt gm : UInt64) (h0 : Heap) (n0 : Nat) (v : Option Value) (h : Heap) (L : List Loc) : Prop := v = none ∧ Fr n0 L ∧ Keep h0 h [a] ∧ Exa Z h a "com/example/flowmarket/flowmarket/scenario/Isoelastic" ∧ Fld Z h a "com/example/flowmarket/flowmarket/scenario/Isoelastic" "weight" "D" (.double wt) ∧ Fld Z h a "com/example/flowmarket/flowmarket/scenario/Isoelastic" "gamma" "D" (.double gm)
set_option maxRecDepth 65536 in
set_option maxHeartbeats 40000000 in
theorem rmIso (l : Launch) (Z : State) (a0 : Array Value) (hw : ∀ d ∈ tables_1, d.before a0 Z = true) (ws : List Jvm.Cond) (a : Addr) (wt gm : UInt64) (h0 : Heap) (n0 : Nat) (Zs : n0 ≤ h0.size) (ga : n0 ≤ a) (fwt : Jvm.Free.Fl.Fin64 wt) (fgm : Jvm.Free.Fl.Fin64 gm) (gwt : FP.dcmp wt 0 = some .gt) (ggm : FP.dcmp gm 0 = some .gt) (Ex_a : Exa Z h0 a "com/example/flowmarket/flowmarket/scenario/Isoelastic") (F_weight_a : Fld Z h0 a "com/example/flowmarket/flowmarket/scenario/Isoelastic" "weight" "D" (.double (0 : UInt64))) (F_gamma_a : Fld Z h0 a "com/example/flowmarket/flowmarket/scenario/Isoelastic" "gamma" "D" (.double (0 : UInt64))) :
    ConW l (⟨"com/example/flowmarket/flowmarket/scenario/Isoelastic", "<init>", "(DD)V"⟩ : MethodName) prog_22_method_1_code 5 none ws ({ frames := 3, cells := 4, slots := 52, locals := 64 } : Room) Z #[(.ref a), (.double wt), (.double gm)] h0 ({ frames := 3, cells := 4, slots := 52, locals := 64 } : Room).cells ({ frames := 3, cells := 4, slots := 52, locals := 64 } : Room).slots (Q_rmIso Z a wt gm h0 n0) := by
  refine ConW.of (Ls := #[.val (.ref a), .val (.double wt), .second, .val (.double gm), .second]) (plainFor_of_name (by first | (simp [plainName, overriddenIn]; done) | decide +kernel)) (fun m => by first | (simp [entryFrame, mkF, argsToLocals, Value.category]; done) | rfl) ?_
  intro p e s m below meth c s₁ G hGe hG hx hby hml hown hnm hrt hlk hZ X0 e0 hS
  have Sk := Nat.zero_le h0.size
  have hown : (s.setVm s.vm).vm.findClass "com/example/flowmarket/flowmarket/scenario/Isoelastic" = some m.cls := hown
  have hnm : meth.name = "<init>" := hnm
  have NF0 := Fr.nil n0
  have K0 := Keep.refl h0 [a]
  refine g_aloadN hG X0 hx (hb hby d1_0) (pc' := 1) rfl rfl rfl ?_
  show G (s₁.setTop (mkF m 1 #[.val (.ref a), .val (.double wt), .second, .val (.double gm), .second] [(.ref a)]))
  refine g_callI hG X0 hx hZ (y := (⟨"java/lang/Record", "<init>", "()V"⟩ : MethodName)) 0 rfl hown (wd hw 7 rfl) (wd hw 8 rfl) (wd hw 10 rfl) (wd hw 11 rfl) (by decide) (rmRec l Z a0 hw [] a h0 n0 Zs) (by decide) (by decide) (by rw [hml]; rfl) pd_2 rfl (argsL := []) (rest := []) rfl rfl (Nat.le_of_eq rfl) (hb hby d1_1) e0 (by decide) (by decide) (pc' := 4) rfl ?_
  intro T1 rv1 L1 X1 hQ1
  obtain ⟨rfl, Nq1, eh1⟩ := hQ1
  have NF1 := Fr.app NF0 Nq1
  show G (T1.setTop (mkF m 4 #[.val (.ref a), .val (.double wt), .second, .val (.double gm), .second] []))
  have wS : ∀ a ∈ Bundle.stringAtoms, a.before a0 Z = true := by
    intro a ha
    simp only [Bundle.stringAtoms, List.mem_cons, List.not_mem_nil, or_false] at ha
    rcases ha with rfl | rfl | rfl | rfl | rfl | rfl | rfl
    · exact (wd hw 16 rfl)
    · exact (wd hw 17 rfl)
    · exact (wd hw 18 rfl)
    · exact (wd hw 19 rfl)
    · exact (wd hw 20 rfl)
    · exact (wd hw 21 rfl)
    · exact (wd hw 22 rfl)
  refine g_ldcS hG X1 hx hZ hown (wd hw 15 rfl) wS eh1 hS Sk (hb hby d1_4) 24 (by decide) (by decide) (by decide) (by decide) (pc' := 6) rfl ?_
  intro s1 T2 h2 X2 e2 E2 hS hZ hown
  have Zs := Nat.le_trans Zs E2.1
  have Sk := Nat.le_refl h2.size
  have Ex_a := Ex_a.ext E2
  have F_weight_a := F_weight_a.ext E2
  have F_gamma_a := F_gamma_a.ext E2
  have K2 := K0.ext E2
  show G (T2.setTop (mkF m 6 #[.val (.ref a), .val (.double wt), .second, .val (.double gm), .second] [(.ref s1)]))
  refine g_dloadN hG X2 hx (hb hby d1_6) (pc' := 7) rfl rfl ?_
  show G (T2.setTop (mkF m 7 #[.val (.ref a), .val (.double wt), .second, .val (.double gm), .second] [(.double wt), (.ref s1)]))
  refine g_callS hG X2 hx hZ (y := (⟨"com/example/flowmarket/flowmarket/scenario/Checks", "requireFinitePositive", "(Ljava/lang/String;D)V"⟩ : MethodName)) 0 hown (wd hw 23 rfl) (wd hw 24 rfl) (wd hw 25 rfl) (wd hw 26 rfl) (by decide) (rmReq l Z a0 hw [] s1 wt h2 n0 Zs fwt gwt) (by decide) (by decide) (by rw [hml]; rfl) pd_3 rfl (argsL := [(.ref s1), (.double wt)]) (rest := []) rfl rfl (Nat.le_of_eq rfl) (hb hby d1_7) e2 (by decide) (by decide) (pc' := 10) rfl ?_
  intro T3 rv3 L3 X3 hQ3
  obtain ⟨rfl, Nq3, eh3⟩ := hQ3
  have NF3 := Fr.app NF1 Nq3
  show G (T3.setTop (mkF m 10 #[.val (.ref a), .val (.double wt), .second, .val (.double gm), .second] []))
  have wS : ∀ a ∈ Bundle.stringAtoms, a.before a0 Z = true := by
    intro a ha
    simp only [Bundle.stringAtoms, List.mem_cons, List.not_mem_nil, or_false] at ha
    rcases ha with rfl | rfl | rfl | rfl | rfl | rfl | rfl
    · exact (wd hw 16 rfl)
    · exact (wd hw 17 rfl)
    · exact (wd hw 18 rfl)
    · exact (wd hw 19 rfl)
    · exact (wd hw 20 rfl)
    · exact (wd hw 21 rfl)
    · exact (wd hw 22 rfl)
  refine g_ldcS hG X3 hx hZ hown (wd hw 36 rfl) wS eh3 hS Sk (hb hby d1_10) 20 (by decide) (by decide) (by decide) (by decide) (pc' := 12) rfl ?_
  intro s2 T4 h4 X4 e4 E4 hS hZ hown
  have Zs := Nat.le_trans Zs E4.1
  have Sk := Nat.le_refl h4.size
  have Ex_a := Ex_a.ext E4
  have F_weight_a := F_weight_a.ext E4
  have F_gamma_a := F_gamma_a.ext E4
  have K4 := K2.ext E4
  show G (T4.setTop (mkF m 12 #[.val (.ref a), .val (.double wt), .second, .val (.double gm), .second] [(.ref s2)]))
  refine g_dloadN hG X4 hx (hb hby d1_12) (pc' := 13) rfl rfl ?_
  show G (T4.setTop (mkF m 13 #[.val (.ref a), .val (.double wt), .second, .val (.double gm), .second] [(.double gm), (.ref s2)]))
  refine g_callS hG X4 hx hZ (y := (⟨"com/example/flowmarket/flowmarket/scenario/Checks", "requireFinitePositive", "(Ljava/lang/String;D)V"⟩ : MethodName)) 0 hown (wd hw 23 rfl) (wd hw 24 rfl) (wd hw 25 rfl) (wd hw 26 rfl) (by decide) (rmReq l Z a0 hw [] s2 gm h4 n0 Zs fgm ggm) (by decide) (by decide) (by rw [hml]; rfl) pd_3 rfl (argsL := [(.ref s2), (.double gm)]) (rest := []) rfl rfl (Nat.le_of_eq rfl) (hb hby d1_13) e4 (by decide) (by decide) (pc' := 16) rfl ?_
  intro T5 rv5 L5 X5 hQ5
  obtain ⟨rfl, Nq5, eh5⟩ := hQ5
  have NF5 := Fr.app NF3 Nq5
  show G (T5.setTop (mkF m 16 #[.val (.ref a), .val (.double wt), .second, .val (.double gm), .second] []))
  refine g_aloadN hG X5 hx (hb hby d1_16) (pc' := 17) rfl rfl rfl ?_
  show G (T5.setTop (mkF m 17 #[.val (.ref a), .val (.double wt), .second, .val (.double gm), .second] [(.ref a)]))
  refine g_dloadN hG X5 hx (hb hby d1_17) (pc' := 18) rfl rfl ?_
  show G (T5.setTop (mkF m 18 #[.val (.ref a), .val (.double wt), .second, .val (.double gm), .second] [(.double wt), (.ref a)]))
  refine g_putF hG X5 hx hZ hown (wd hw 37 rfl) Via.refl eh5 F_weight_a Ex_a (Or.inr ⟨(wd hw 38 rfl), rfl, hnm⟩) (wd hw 2 rfl) (v' := (.double wt)) (ty := .double) (by decide) rfl rfl (hb hby d1_18) (pc' := 21) rfl ?_
  intro T6 h6 X6 e6 W6
  have Ex_a := Ex_a.wr W6
  have F_weight_a := F_weight_a.same W6
  have F_gamma_a := F_gamma_a.other W6 (Or.inr (slot_ne (Or.inr (wd hw 40 rfl)) (Or.inr (wd hw 38 rfl)) (by decide) (t := .double) (t' := .double) (by decide) (by decide)))
  have Zs := Nat.le_trans Zs (Wr.size W6)
  have Sk := Nat.le_trans Sk (Wr.size W6)
  have NF6 := Fr.snoc X6 NF5 ga
  have K6 := K4.wr W6 (Or.inl (List.mem_of_getElem? (i := 0) rfl))
  show G (T6.setTop (mkF m 21 #[.val (.ref a), .val (.double wt), .second, .val (.double gm), .second] []))
  refine g_aloadN hG X6 hx (hb hby d1_21) (pc' := 22) rfl rfl rfl ?_
  show G (T6.setTop (mkF m 22 #[.val (.ref a), .val (.double wt), .second, .val (.double gm), .second] [(.ref a)]))
  refine g_dloadN hG X6 hx (hb hby d1_22) (pc' := 23) rfl rfl ?_
  show G (T6.setTop (mkF m 23 #[.val (.ref a), .val (.double wt), .second, .val (.double gm), .second] [(.double gm), (.ref a)]))
  refine g_putF hG X6 hx hZ hown (wd hw 39 rfl) Via.refl e6 F_gamma_a Ex_a (Or.inr ⟨(wd hw 40 rfl), rfl, hnm⟩) (wd hw 2 rfl) (v' := (.double gm)) (ty := .double) (by decide) rfl rfl (hb hby d1_23) (pc' := 26) rfl ?_
  intro T7 h7 X7 e7 W7
  have Ex_a := Ex_a.wr W7
  have F_weight_a := F_weight_a.other W7 (Or.inr (slot_ne (Or.inr (wd hw 38 rfl)) (Or.inr (wd hw 40 rfl)) (by decide) (t := .double) (t' := .double) (by decide) (by decide)))
  have F_gamma_a := F_gamma_a.same W7
  have Zs := Nat.le_trans Zs (Wr.size W7)
  have Sk := Nat.le_trans Sk (Wr.size W7)
  have NF7 := Fr.snoc X7 NF6 ga
  have K7 := K6.wr W7 (Or.inl (List.mem_of_getElem? (i := 0) rfl))
  show G (T7.setTop (mkF m 26 #[.val (.ref a), .val (.double wt), .second, .val (.double gm), .second] []))
  exact e_ret0W hGe X7 hx hS Sk hrt hlk (hb hby d1_26) e7 (by decide) (by decide) (⟨rfl, NF7, K7, Ex_a, F_weight_a, F_gamma_a⟩)

def Q_rmDem (Z : State) (a : Addr) (gm x z k1 k2 rr : UInt64) (j : Int32) (h0 : Heap) (n0 : Nat) (v : Option Value) (h : Heap) (L : List Loc) : Prop := v = some (.double rr) ∧ Fr n0 L ∧ h = h0
set_option maxRecDepth 65536 in
set_option maxHeartbeats 40000000 in
theorem rmDem (l : Launch) (Z : State) (a0 : Array Value) (hw : ∀ d ∈ tables_1, d.before a0 Z = true) (ws : List Jvm.Cond) (a : Addr) (gm x z k1 k2 rr : UInt64) (j : Int32) (h0 : Heap) (n0 : Nat) (Zs : n0 ≤ h0.size) (h1 : FP.ddiv (4607182418800017408 : UInt64) gm = k1) (h2 : FP.dmul z x = k2) (h3 : FP.dmul k1 k2 = rr) (n1 : Jvm.Free.Fl.NoNaN64 k1) (n2 : Jvm.Free.Fl.NoNaN64 k2) (n3 : Jvm.Free.Fl.NoNaN64 rr) (Ex_a : Exa Z h0 a "com/example/flowmarket/flowmarket/scenario/Isoelastic") (F_gamma_a : Fld Z h0 a "com/example/flowmarket/flowmarket/scenario/Isoelastic" "gamma" "D" (.double gm)) :
    Con l (⟨"com/example/flowmarket/flowmarket/scenario/Isoelastic", "demandLogSlope", "(DID)D"⟩ : MethodName) prog_22_method_5_code 6 (some .double) ws ({ frames := 0, cells := 0, slots := 0, locals := 0 } : Room) Z #[(.ref a), (.double x), (.int j), (.double z)] h0 ({ frames := 0, cells := 0, slots := 0, locals := 0 } : Room).cells ({ frames := 0, cells := 0, slots := 0, locals := 0 } : Room).slots (Q_rmDem Z a gm x z k1 k2 rr j h0 n0) := by
  refine Con.of (Ls := #[.val (.ref a), .val (.double x), .second, .val (.int j), .val (.double z), .second]) (plainFor_of_name (by first | (simp [plainName, overriddenIn]; done) | decide +kernel)) (fun m => by first | (simp [entryFrame, mkF, argsToLocals, Value.category]; done) | rfl) ?_
  intro p e s m below meth c s₁ G hGe hG hx hby hml hown hnm hrt hlk hZ X0 e0
  have hown : s.vm.findClass "com/example/flowmarket/flowmarket/scenario/Isoelastic" = some m.cls := hown
  have hnm : meth.name = "demandLogSlope" := hnm
  have NF0 := Fr.nil n0
  refine g_dconst1 hG X0 hx (hb hby d7_0) (pc' := 1) rfl (v := (4607182418800017408 : UInt64)) rfl ?_
  show G (s₁.setTop (mkF m 1 #[.val (.ref a), .val (.double x), .second, .val (.int j), .val (.double z), .second] [(.double 4607182418800017408)]))
  refine g_aloadN hG X0 hx (hb hby d7_1) (pc' := 2) rfl rfl rfl ?_
  show G (s₁.setTop (mkF m 2 #[.val (.ref a), .val (.double x), .second, .val (.int j), .val (.double z), .second] [(.ref a), (.double 4607182418800017408)]))
  refine g_getF hG X0 hx hZ hown (wd hw 39 rfl) Via.refl e0 F_gamma_a (hb hby d7_2) (pc' := 5) rfl ?_
  intro T1 X1 e1
  show G (T1.setTop (mkF m 5 #[.val (.ref a), .val (.double x), .second, .val (.int j), .val (.double z), .second] [(.double gm), (.double 4607182418800017408)]))
  refine g_ddiv hG X1 hx (hb hby d7_5) (pc' := 6) rfl (by rw [h1]; exact n1) h1 ?_
  show G (T1.setTop (mkF m 6 #[.val (.ref a), .val (.double x), .second, .val (.int j), .val (.double z), .second] [(.double k1)]))
  refine g_dload hG X1 hx (hb hby d7_6) (pc' := 8) rfl rfl ?_
  show G (T1.setTop (mkF m 8 #[.val (.ref a), .val (.double x), .second, .val (.int j), .val (.double z), .second] [(.double z), (.double k1)]))
  refine g_dloadN hG X1 hx (hb hby d7_8) (pc' := 9) rfl rfl ?_
  show G (T1.setTop (mkF m 9 #[.val (.ref a), .val (.double x), .second, .val (.int j), .val (.double z), .second] [(.double x), (.double z), (.double k1)]))
  refine g_dmul hG X1 hx (hb hby d7_9) (pc' := 10) rfl (by rw [h2]; exact n2) h2 ?_
  show G (T1.setTop (mkF m 10 #[.val (.ref a), .val (.double x), .second, .val (.int j), .val (.double z), .second] [(.double k2), (.double k1)]))
  refine g_dmul hG X1 hx (hb hby d7_10) (pc' := 11) rfl (by rw [h3]; exact n3) h3 ?_
  show G (T1.setTop (mkF m 11 #[.val (.ref a), .val (.double x), .second, .val (.int j), .val (.double z), .second] [(.double rr)]))
  exact e_retD hGe X1 hx hrt hlk (hb hby d7_11) e1 (by decide) (by decide) (⟨rfl, NF0, rfl⟩)

def Q_rm0 (Z : State) (i0 i1 i2 i3 i4 : Int32) (h0 : Heap) (n0 : Nat) (v : Option Value) (h : Heap) (L : List Loc) : Prop := v = some (.int 1) ∧ Fr n0 L
set_option maxRecDepth 65536 in
set_option maxHeartbeats 40000000 in
theorem rm0 (l : Launch) (Z : State) (a0 : Array Value) (hw : ∀ d ∈ tables_1, d.before a0 Z = true) (ws : List Jvm.Cond) (i0 i1 i2 i3 i4 : Int32) (h0 : Heap) (n0 : Nat) (Zs : n0 ≤ h0.size)  :
    ConW l x code maxLocals ret ws room_1 Z #[(.int i0), (.int i1), (.int i2), (.int i3), (.int i4)] h0 room_1.cells room_1.slots (Q_rm0 Z i0 i1 i2 i3 i4 h0 n0) := by
  refine ConW.of (Ls := #[.val (.int i0), .val (.int i1), .val (.int i2), .val (.int i3), .val (.int i4), .unset, .unset, .unset, .unset, .unset, .unset, .unset, .unset, .unset, .unset, .unset, .unset, .unset, .unset, .unset, .unset]) (plainFor_of_name (by first | (simp [plainName, overriddenIn]; done) | decide +kernel)) (fun m => by first | (simp [entryFrame, mkF, argsToLocals, Value.category, maxLocals]; done) | rfl) ?_
  intro p e s m below meth c s₁ G hGe hG hx hby hml hown hnm hrt hlk hZ X0 e0 hS
  have Sk := Nat.zero_le h0.size
  have hml : c.maxLocals = 21 := hml
  have hown : (s.setVm s.vm).vm.findClass "com/example/flowmarket/flowmarket/scenario/IsoelasticDemandLogSlopePinLaw" = some m.cls := hown
  have hnm : meth.name = "law" := hnm
  have NF0 := Fr.nil n0
  refine g_iloadN hG X0 hx (hb hby at_0) (pc' := 1) rfl rfl ?_
  show G (s₁.setTop (mkF m 1 #[.val (.int i0), .val (.int i1), .val (.int i2), .val (.int i3), .val (.int i4), .unset, .unset, .unset, .unset, .unset, .unset, .unset, .unset, .unset, .unset, .unset, .unset, .unset, .unset, .unset, .unset] [(.int i0)]))
  refine g_ldcInt hG X0 hx hZ hown (wd hw 0 rfl) (hb hby at_1) (pc' := 3) rfl ?_
  show G (s₁.setTop (mkF m 3 #[.val (.int i0), .val (.int i1), .val (.int i2), .val (.int i3), .val (.int i4), .unset, .unset, .unset, .unset, .unset, .unset, .unset, .unset, .unset, .unset, .unset, .unset, .unset, .unset, .unset, .unset] [(.int 65535), (.int i0)]))
  obtain ⟨v3, q3⟩ : ∃ zz : Int32, i0 &&& (65535 : Int32) = zz := ⟨_, rfl⟩
  refine g_iand hG X0 hx (hb hby at_3) (pc' := 4) rfl q3 ?_
  show G (s₁.setTop (mkF m 4 #[.val (.int i0), .val (.int i1), .val (.int i2), .val (.int i3), .val (.int i4), .unset, .unset, .unset, .unset, .unset, .unset, .unset, .unset, .unset, .unset, .unset, .unset, .unset, .unset, .unset, .unset] [(.int v3)]))
  refine g_iconst hG X0 hx (hb hby at_4) (pc' := 5) rfl (v := (1 : Int32)) rfl ?_
  show G (s₁.setTop (mkF m 5 #[.val (.int i0), .val (.int i1), .val (.int i2), .val (.int i3), .val (.int i4), .unset, .unset, .unset, .unset, .unset, .unset, .unset, .unset, .unset, .unset, .unset, .unset, .unset, .unset, .unset, .unset] [(.int 1), (.int v3)]))
  obtain ⟨v5, q5⟩ : ∃ zz : Int32, v3 + (1 : Int32) = zz := ⟨_, rfl⟩
  refine g_iadd hG X0 hx (hb hby at_5) (pc' := 6) rfl q5 ?_
  show G (s₁.setTop (mkF m 6 #[.val (.int i0), .val (.int i1), .val (.int i2), .val (.int i3), .val (.int i4), .unset, .unset, .unset, .unset, .unset, .unset, .unset, .unset, .unset, .unset, .unset, .unset, .unset, .unset, .unset, .unset] [(.int v5)]))
  obtain ⟨v6, q6⟩ : ∃ zz : UInt64, FP.i2d v5 = zz := ⟨_, rfl⟩
  refine g_i2d hG X0 hx (hb hby at_6) (pc' := 7) rfl q6 ?_
  show G (s₁.setTop (mkF m 7 #[.val (.int i0), .val (.int i1), .val (.int i2), .val (.int i3), .val (.int i4), .unset, .unset, .unset, .unset, .unset, .unset, .unset, .unset, .unset, .unset, .unset, .unset, .unset, .unset, .unset, .unset] [(.double v6)]))
  refine g_dstore hG X0 hx (hb hby at_7) (pc' := 9) rfl (Ls' := #[.val (.int i0), .val (.int i1), .val (.int i2), .val (.int i3), .val (.int i4), .val (.double v6), .second, .unset, .unset, .unset, .unset, .unset, .unset, .unset, .unset, .unset, .unset, .unset, .unset, .unset, .unset]) rfl ?_
  show G (s₁.setTop (mkF m 9 #[.val (.int i0), .val (.int i1), .val (.int i2), .val (.int i3), .val (.int i4), .val (.double v6), .second, .unset, .unset, .unset, .unset, .unset, .unset, .unset, .unset, .unset, .unset, .unset, .unset, .unset, .unset] []))
  refine g_iloadN hG X0 hx (hb hby at_9) (pc' := 10) rfl rfl ?_
  show G (s₁.setTop (mkF m 10 #[.val (.int i0), .val (.int i1), .val (.int i2), .val (.int i3), .val (.int i4), .val (.double v6), .second, .unset, .unset, .unset, .unset, .unset, .unset, .unset, .unset, .unset, .unset, .unset, .unset, .unset, .unset] [(.int i1)]))
  refine g_bipush hG X0 hx (hb hby at_10) (pc' := 12) rfl (v := (7 : Int32)) rfl ?_
  show G (s₁.setTop (mkF m 12 #[.val (.int i0), .val (.int i1), .val (.int i2), .val (.int i3), .val (.int i4), .val (.double v6), .second, .unset, .unset, .unset, .unset, .unset, .unset, .unset, .unset, .unset, .unset, .unset, .unset, .unset, .unset] [(.int 7), (.int i1)]))
  obtain ⟨v12, q12⟩ : ∃ zz : Int32, i1 &&& (7 : Int32) = zz := ⟨_, rfl⟩
  refine g_iand hG X0 hx (hb hby at_12) (pc' := 13) rfl q12 ?_
  show G (s₁.setTop (mkF m 13 #[.val (.int i0), .val (.int i1), .val (.int i2), .val (.int i3), .val (.int i4), .val (.double v6), .second, .unset, .unset, .unset, .unset, .unset, .unset, .unset, .unset, .unset, .unset, .unset, .unset, .unset, .unset] [(.int v12)]))
  refine g_istore hG X0 hx (hb hby at_13) (pc' := 15) rfl (Ls' := #[.val (.int i0), .val (.int i1), .val (.int i2), .val (.int i3), .val (.int i4), .val (.double v6), .second, .val (.int v12), .unset, .unset, .unset, .unset, .unset, .unset, .unset, .unset, .unset, .unset, .unset, .unset, .unset]) rfl ?_
  show G (s₁.setTop (mkF m 15 #[.val (.int i0), .val (.int i1), .val (.int i2), .val (.int i3), .val (.int i4), .val (.double v6), .second, .val (.int v12), .unset, .unset, .unset, .unset, .unset, .unset, .unset, .unset, .unset, .unset, .unset, .unset, .unset] []))
  refine g_iloadN hG X0 hx (hb hby at_15) (pc' := 16) rfl rfl ?_
  show G (s₁.setTop (mkF m 16 #[.val (.int i0), .val (.int i1), .val (.int i2), .val (.int i3), .val (.int i4), .val (.double v6), .second, .val (.int v12), .unset, .unset, .unset, .unset, .unset, .unset, .unset, .unset, .unset, .unset, .unset, .unset, .unset] [(.int i1)]))
  refine g_iconst hG X0 hx (hb hby at_16) (pc' := 17) rfl (v := (3 : Int32)) rfl ?_
  show G (s₁.setTop (mkF m 17 #[.val (.int i0), .val (.int i1), .val (.int i2), .val (.int i3), .val (.int i4), .val (.double v6), .second, .val (.int v12), .unset, .unset, .unset, .unset, .unset, .unset, .unset, .unset, .unset, .unset, .unset, .unset, .unset] [(.int 3), (.int i1)]))
  obtain ⟨v17, q17⟩ : ∃ zz : Int32, i1 >>> ((3 : Int32) &&& 31) = zz := ⟨_, rfl⟩
  refine g_ishr hG X0 hx (hb hby at_17) (pc' := 18) rfl q17 ?_
  show G (s₁.setTop (mkF m 18 #[.val (.int i0), .val (.int i1), .val (.int i2), .val (.int i3), .val (.int i4), .val (.double v6), .second, .val (.int v12), .unset, .unset, .unset, .unset, .unset, .unset, .unset, .unset, .unset, .unset, .unset, .unset, .unset] [(.int v17)]))
  refine g_iconst hG X0 hx (hb hby at_18) (pc' := 19) rfl (v := (1 : Int32)) rfl ?_
  show G (s₁.setTop (mkF m 19 #[.val (.int i0), .val (.int i1), .val (.int i2), .val (.int i3), .val (.int i4), .val (.double v6), .second, .val (.int v12), .unset, .unset, .unset, .unset, .unset, .unset, .unset, .unset, .unset, .unset, .unset, .unset, .unset] [(.int 1), (.int v17)]))
  obtain ⟨v19, q19⟩ : ∃ zz : Int32, v17 &&& (1 : Int32) = zz := ⟨_, rfl⟩
  refine g_iand hG X0 hx (hb hby at_19) (pc' := 20) rfl q19 ?_
  show G (s₁.setTop (mkF m 20 #[.val (.int i0), .val (.int i1), .val (.int i2), .val (.int i3), .val (.int i4), .val (.double v6), .second, .val (.int v12), .unset, .unset, .unset, .unset, .unset, .unset, .unset, .unset, .unset, .unset, .unset, .unset, .unset] [(.int v19)]))
  have c28 : ∀ (fl : Int32), (fl = 0 ∨ fl = 1) → G (s₁.setTop (mkF m 28 #[.val (.int i0), .val (.int i1), .val (.int i2), .val (.int i3), .val (.int i4), .val (.double v6), .second, .val (.int v12), .unset, .unset, .unset, .unset, .unset, .unset, .unset, .unset, .unset, .unset, .unset, .unset, .unset] [(.int fl)])) := by
    intro fl hfl
    refine g_istore hG X0 hx (hb hby at_28) (pc' := 30) rfl (Ls' := #[.val (.int i0), .val (.int i1), .val (.int i2), .val (.int i3), .val (.int i4), .val (.double v6), .second, .val (.int v12), .val (.int fl), .unset, .unset, .unset, .unset, .unset, .unset, .unset, .unset, .unset, .unset, .unset, .unset]) rfl ?_
    show G (s₁.setTop (mkF m 30 #[.val (.int i0), .val (.int i1), .val (.int i2), .val (.int i3), .val (.int i4), .val (.double v6), .second, .val (.int v12), .val (.int fl), .unset, .unset, .unset, .unset, .unset, .unset, .unset, .unset, .unset, .unset, .unset, .unset] []))
    refine g_iconst hG X0 hx (hb hby at_30) (pc' := 31) rfl (v := (1 : Int32)) rfl ?_
    show G (s₁.setTop (mkF m 31 #[.val (.int i0), .val (.int i1), .val (.int i2), .val (.int i3), .val (.int i4), .val (.double v6), .second, .val (.int v12), .val (.int fl), .unset, .unset, .unset, .unset, .unset, .unset, .unset, .unset, .unset, .unset, .unset, .unset] [(.int 1)]))
    refine g_iload hG X0 hx (hb hby at_31) (pc' := 33) rfl rfl ?_
    show G (s₁.setTop (mkF m 33 #[.val (.int i0), .val (.int i1), .val (.int i2), .val (.int i3), .val (.int i4), .val (.double v6), .second, .val (.int v12), .val (.int fl), .unset, .unset, .unset, .unset, .unset, .unset, .unset, .unset, .unset, .unset, .unset, .unset] [(.int v12), (.int 1)]))
    obtain ⟨v33, q33⟩ : ∃ zz : Int32, (1 : Int32) <<< (v12 &&& 31) = zz := ⟨_, rfl⟩
    refine g_ishl hG X0 hx (hb hby at_33) (pc' := 34) rfl q33 ?_
    show G (s₁.setTop (mkF m 34 #[.val (.int i0), .val (.int i1), .val (.int i2), .val (.int i3), .val (.int i4), .val (.double v6), .second, .val (.int v12), .val (.int fl), .unset, .unset, .unset, .unset, .unset, .unset, .unset, .unset, .unset, .unset, .unset, .unset] [(.int v33)]))
    refine g_istore hG X0 hx (hb hby at_34) (pc' := 36) rfl (Ls' := #[.val (.int i0), .val (.int i1), .val (.int i2), .val (.int i3), .val (.int i4), .val (.double v6), .second, .val (.int v12), .val (.int fl), .val (.int v33), .unset, .unset, .unset, .unset, .unset, .unset, .unset, .unset, .unset, .unset, .unset]) rfl ?_
    show G (s₁.setTop (mkF m 36 #[.val (.int i0), .val (.int i1), .val (.int i2), .val (.int i3), .val (.int i4), .val (.double v6), .second, .val (.int v12), .val (.int fl), .val (.int v33), .unset, .unset, .unset, .unset, .unset, .unset, .unset, .unset, .unset, .unset, .unset] []))
    have b12 : 0 ≤ v12.toInt ∧ v12.toInt ≤ 7 := by rw [← q12]; exact c_and i1 7 (by decide)
    obtain ⟨g, N, hg, Dg, Dh, Dk, N1, N2⟩ := own_pw v12 b12.1 b12.2
    rw [q33] at hg
    have hN0 : N ≠ 0 := by grind
    have hNi : N * (1 / N) = 1 := by rw [Rat.div_def, Rat.one_mul]; exact Rat.mul_inv_cancel N hN0
    have hNp : 0 < 1 / N := by
      by_cases q : 0 < 1 / N
      · exact q
      · have := Rat.mul_le_mul_of_nonneg_left (Rat.not_lt.mp q) (show 0 ≤ N by grind)
        grind
    have hNl : 1 / N ≤ 1 := by
      by_cases q : 1 / N ≤ 1
      · exact q
      · have := Rat.mul_le_mul_of_nonneg_right N1 (Rat.le_of_lt hNp)
        grind
    have hdv : ∀ y : Rat, y / N = (1 / N) * y := fun y => by rw [Rat.div_def, Rat.div_def, Rat.one_mul, Rat.mul_comm]
    have b3 : 0 ≤ v3.toInt ∧ v3.toInt ≤ 65535 := by rw [← q3]; exact c_and i0 65535 (by decide)
    have e5 : v5.toInt = v3.toInt + 1 := by
      have a := c_iadd v3 1
      have b := rng32 v5
      rw [q5, show (1 : Int32).toInt = 1 by decide] at a
      omega
    have D6 : OwnFl.DV v6 (v5.toInt : Rat) := by rw [← q6]; exact OwnFl.i2d_DV v5
    have G6 : FP.dcmp v6 0 = some .gt := OwnFl.dcmp_gt D6 own_z (Rat.intCast_pos.mpr (by omega))
    obtain ⟨r1, r2⟩ := own_rr i2 i3
    have Dp := own_pay i2 i3
    have De := own_exp i2 i3
    obtain ⟨P, hP⟩ : ∃ z : Rat, OwnFl.RR ((i2.toInt * i3.toInt : Int) : Rat) = z := ⟨_, rfl⟩
    rw [hP] at r1 r2 Dp De
    have hm1 : -9223372036854775808 ≤ (1 / N) * P ∧ (1 / N) * P ≤ 9223372036854775808 := by
      by_cases q : 0 ≤ P
      · have a := Rat.mul_le_mul_of_nonneg_right hNl q
        have b := Rat.mul_nonneg (Rat.le_of_lt hNp) q
        constructor <;> grind
      · have a := Rat.mul_le_mul_of_nonneg_right hNl (show 0 ≤ -P by grind)
        have b := Rat.mul_nonneg (Rat.le_of_lt hNp) (show 0 ≤ -P by grind)
        constructor <;> grind
    have hm2 : -1180591620717411303424 ≤ N * P ∧ N * P ≤ 1180591620717411303424 := by
      by_cases q : 0 ≤ P
      · have a := Rat.mul_le_mul_of_nonneg_right N2 q
        have b := Rat.mul_nonneg (show 0 ≤ N by grind) q
        constructor <;> grind
      · have a := Rat.mul_le_mul_of_nonneg_right N2 (show 0 ≤ -P by grind)
        have b := Rat.mul_nonneg (show 0 ≤ N by grind) (show 0 ≤ -P by grind)
        constructor <;> grind
    rcases hfl with rfl | rfl
    · skip
      obtain ⟨gi, hgi⟩ : ∃ z, FP.ddiv (4607182418800017408 : UInt64) g = z := ⟨_, rfl⟩
      rw [hgi] at Dh Dk
      have Gg : FP.dcmp gi 0 = some .gt := OwnFl.dcmp_gt Dh own_z (by grind)
      refine g_iload hG X0 hx (hb hby at_36) (pc' := 38) rfl rfl ?_
      show G (s₁.setTop (mkF m 38 #[.val (.int i0), .val (.int i1), .val (.int i2), .val (.int i3), .val (.int i4), .val (.double v6), .second, .val (.int v12), .val (.int 0), .val (.int v33), .unset, .unset, .unset, .unset, .unset, .unset, .unset, .unset, .unset, .unset, .unset] [(.int 0)]))
      refine g_ifYes hG X0 hx (hb hby at_38) (pc' := 47) (by decide) (by decide) (by decide) ?_
      show G (s₁.setTop (mkF m 47 #[.val (.int i0), .val (.int i1), .val (.int i2), .val (.int i3), .val (.int i4), .val (.double v6), .second, .val (.int v12), .val (.int 0), .val (.int v33), .unset, .unset, .unset, .unset, .unset, .unset, .unset, .unset, .unset, .unset, .unset] []))
      refine g_dconst1 hG X0 hx (hb hby at_47) (pc' := 48) rfl (v := (4607182418800017408 : UInt64)) rfl ?_
      show G (s₁.setTop (mkF m 48 #[.val (.int i0), .val (.int i1), .val (.int i2), .val (.int i3), .val (.int i4), .val (.double v6), .second, .val (.int v12), .val (.int 0), .val (.int v33), .unset, .unset, .unset, .unset, .unset, .unset, .unset, .unset, .unset, .unset, .unset] [(.double 4607182418800017408)]))
      refine g_iload hG X0 hx (hb hby at_48) (pc' := 50) rfl rfl ?_
      show G (s₁.setTop (mkF m 50 #[.val (.int i0), .val (.int i1), .val (.int i2), .val (.int i3), .val (.int i4), .val (.double v6), .second, .val (.int v12), .val (.int 0), .val (.int v33), .unset, .unset, .unset, .unset, .unset, .unset, .unset, .unset, .unset, .unset, .unset] [(.int v33), (.double 4607182418800017408)]))
      refine g_i2d hG X0 hx (hb hby at_50) (pc' := 51) rfl hg ?_
      show G (s₁.setTop (mkF m 51 #[.val (.int i0), .val (.int i1), .val (.int i2), .val (.int i3), .val (.int i4), .val (.double v6), .second, .val (.int v12), .val (.int 0), .val (.int v33), .unset, .unset, .unset, .unset, .unset, .unset, .unset, .unset, .unset, .unset, .unset] [(.double g), (.double 4607182418800017408)]))
      refine g_ddiv hG X0 hx (hb hby at_51) (pc' := 52) rfl (by rw [hgi]; exact Dh.noNaN) hgi ?_
      show G (s₁.setTop (mkF m 52 #[.val (.int i0), .val (.int i1), .val (.int i2), .val (.int i3), .val (.int i4), .val (.double v6), .second, .val (.int v12), .val (.int 0), .val (.int v33), .unset, .unset, .unset, .unset, .unset, .unset, .unset, .unset, .unset, .unset, .unset] [(.double gi)]))
      refine g_dstore hG X0 hx (hb hby at_52) (pc' := 54) rfl (Ls' := #[.val (.int i0), .val (.int i1), .val (.int i2), .val (.int i3), .val (.int i4), .val (.double v6), .second, .val (.int v12), .val (.int 0), .val (.int v33), .val (.double gi), .second, .unset, .unset, .unset, .unset, .unset, .unset, .unset, .unset, .unset]) rfl ?_
      show G (s₁.setTop (mkF m 54 #[.val (.int i0), .val (.int i1), .val (.int i2), .val (.int i3), .val (.int i4), .val (.double v6), .second, .val (.int v12), .val (.int 0), .val (.int v33), .val (.double gi), .second, .unset, .unset, .unset, .unset, .unset, .unset, .unset, .unset, .unset] []))
      refine g_newO hG X0 hx hZ hown (wd hw 1 rfl) (wd hw 2 rfl) (wd hw 3 rfl) e0 (hb hby at_54) (by decide) (by decide) (pc' := 57) rfl ?_
      intro T1 h1 a gs1 X1 e1 E1 Aq1 Dq1
      have ge_a : n0 ≤ a := gs1 ▸ Zs
      have Zs := Nat.le_trans Zs E1.1
      have Sk := Nat.le_trans Sk E1.1
      have Ex_a := Aq1
      have F_weight_a : Fld Z h1 a "com/example/flowmarket/flowmarket/scenario/Isoelastic" "weight" "D" (.double 0) := Dq1 (Or.inr (wd hw 38 rfl)) (ty := .double) (by decide)
      have F_gamma_a : Fld Z h1 a "com/example/flowmarket/flowmarket/scenario/Isoelastic" "gamma" "D" (.double 0) := Dq1 (Or.inr (wd hw 40 rfl)) (ty := .double) (by decide)
      show G (T1.setTop (mkF m 57 #[.val (.int i0), .val (.int i1), .val (.int i2), .val (.int i3), .val (.int i4), .val (.double v6), .second, .val (.int v12), .val (.int 0), .val (.int v33), .val (.double gi), .second, .unset, .unset, .unset, .unset, .unset, .unset, .unset, .unset, .unset] [(.ref a)]))
      refine g_dup hG X1 hx (hb hby at_57) (pc' := 58) rfl rfl ?_
      show G (T1.setTop (mkF m 58 #[.val (.int i0), .val (.int i1), .val (.int i2), .val (.int i3), .val (.int i4), .val (.double v6), .second, .val (.int v12), .val (.int 0), .val (.int v33), .val (.double gi), .second, .unset, .unset, .unset, .unset, .unset, .unset, .unset, .unset, .unset] [(.ref a), (.ref a)]))
      refine g_dload hG X1 hx (hb hby at_58) (pc' := 60) rfl rfl ?_
      show G (T1.setTop (mkF m 60 #[.val (.int i0), .val (.int i1), .val (.int i2), .val (.int i3), .val (.int i4), .val (.double v6), .second, .val (.int v12), .val (.int 0), .val (.int v33), .val (.double gi), .second, .unset, .unset, .unset, .unset, .unset, .unset, .unset, .unset, .unset] [(.double v6), (.ref a), (.ref a)]))
      refine g_dload hG X1 hx (hb hby at_60) (pc' := 62) rfl rfl ?_
      show G (T1.setTop (mkF m 62 #[.val (.int i0), .val (.int i1), .val (.int i2), .val (.int i3), .val (.int i4), .val (.double v6), .second, .val (.int v12), .val (.int 0), .val (.int v33), .val (.double gi), .second, .unset, .unset, .unset, .unset, .unset, .unset, .unset, .unset, .unset] [(.double gi), (.double v6), (.ref a), (.ref a)]))
      refine g_callIW hG X1 hx hZ (y := (⟨"com/example/flowmarket/flowmarket/scenario/Isoelastic", "<init>", "(DD)V"⟩ : MethodName)) 1 rfl hown (wd hw 4 rfl) (wd hw 5 rfl) (wd hw 3 rfl) (wd hw 6 rfl) (by decide) (rmIso l Z a0 hw [] a v6 gi h1 n0 Zs ge_a D6.fin Dh.fin G6 Gg Ex_a F_weight_a F_gamma_a) (by decide) (by decide) (by rw [hml]; rfl) pd_4 rfl (argsL := [(.double v6), (.double gi)]) (rest := [(.ref a)]) rfl rfl (Nat.le_of_eq rfl) (hb hby at_62) e1 hS Sk (by decide) (by decide) (pc' := 65) rfl ?_
      intro T2 rv2 L2 X2 hQ2 hS hZ hown
      obtain ⟨rfl, Nq2, Kq2, Ex_a, F_weight_a, F_gamma_a⟩ := hQ2
      have NF2 := Fr.app NF0 Nq2
      have Zs := Nat.le_trans Zs Kq2.1
      have Sk := Nat.le_trans Sk Kq2.1
      have Sk := Nat.le_refl T2.heap.size
      show G (T2.setTop (mkF m 65 #[.val (.int i0), .val (.int i1), .val (.int i2), .val (.int i3), .val (.int i4), .val (.double v6), .second, .val (.int v12), .val (.int 0), .val (.int v33), .val (.double gi), .second, .unset, .unset, .unset, .unset, .unset, .unset, .unset, .unset, .unset] [(.ref a)]))
      refine g_astore hG X2 hx (hb hby at_65) (pc' := 67) rfl rfl (Ls' := #[.val (.int i0), .val (.int i1), .val (.int i2), .val (.int i3), .val (.int i4), .val (.double v6), .second, .val (.int v12), .val (.int 0), .val (.int v33), .val (.double gi), .second, .val (.ref a), .unset, .unset, .unset, .unset, .unset, .unset, .unset, .unset]) rfl ?_
      show G (T2.setTop (mkF m 67 #[.val (.int i0), .val (.int i1), .val (.int i2), .val (.int i3), .val (.int i4), .val (.double v6), .second, .val (.int v12), .val (.int 0), .val (.int v33), .val (.double gi), .second, .val (.ref a), .unset, .unset, .unset, .unset, .unset, .unset, .unset, .unset] []))
      refine g_aload hG X2 hx (hb hby at_67) (pc' := 69) rfl rfl rfl ?_
      show G (T2.setTop (mkF m 69 #[.val (.int i0), .val (.int i1), .val (.int i2), .val (.int i3), .val (.int i4), .val (.double v6), .second, .val (.int v12), .val (.int 0), .val (.int v33), .val (.double gi), .second, .val (.ref a), .unset, .unset, .unset, .unset, .unset, .unset, .unset, .unset] [(.ref a)]))
      refine g_iloadN hG X2 hx (hb hby at_69) (pc' := 70) rfl rfl ?_
      show G (T2.setTop (mkF m 70 #[.val (.int i0), .val (.int i1), .val (.int i2), .val (.int i3), .val (.int i4), .val (.double v6), .second, .val (.int v12), .val (.int 0), .val (.int v33), .val (.double gi), .second, .val (.ref a), .unset, .unset, .unset, .unset, .unset, .unset, .unset, .unset] [(.int i3), (.ref a)]))
      obtain ⟨v70, q70⟩ : ∃ zz : UInt64, FP.i2d i3 = zz := ⟨_, rfl⟩
      refine g_i2d hG X2 hx (hb hby at_70) (pc' := 71) rfl q70 ?_
      show G (T2.setTop (mkF m 71 #[.val (.int i0), .val (.int i1), .val (.int i2), .val (.int i3), .val (.int i4), .val (.double v6), .second, .val (.int v12), .val (.int 0), .val (.int v33), .val (.double gi), .second, .val (.ref a), .unset, .unset, .unset, .unset, .unset, .unset, .unset, .unset] [(.double v70), (.ref a)]))
      refine g_iload hG X2 hx (hb hby at_71) (pc' := 73) rfl rfl ?_
      show G (T2.setTop (mkF m 73 #[.val (.int i0), .val (.int i1), .val (.int i2), .val (.int i3), .val (.int i4), .val (.double v6), .second, .val (.int v12), .val (.int 0), .val (.int v33), .val (.double gi), .second, .val (.ref a), .unset, .unset, .unset, .unset, .unset, .unset, .unset, .unset] [(.int i4), (.double v70), (.ref a)]))
      refine g_iloadN hG X2 hx (hb hby at_73) (pc' := 74) rfl rfl ?_
      show G (T2.setTop (mkF m 74 #[.val (.int i0), .val (.int i1), .val (.int i2), .val (.int i3), .val (.int i4), .val (.double v6), .second, .val (.int v12), .val (.int 0), .val (.int v33), .val (.double gi), .second, .val (.ref a), .unset, .unset, .unset, .unset, .unset, .unset, .unset, .unset] [(.int i2), (.int i4), (.double v70), (.ref a)]))
      obtain ⟨v74, q74⟩ : ∃ zz : UInt64, FP.i2d i2 = zz := ⟨_, rfl⟩
      refine g_i2d hG X2 hx (hb hby at_74) (pc' := 75) rfl q74 ?_
      show G (T2.setTop (mkF m 75 #[.val (.int i0), .val (.int i1), .val (.int i2), .val (.int i3), .val (.int i4), .val (.double v6), .second, .val (.int v12), .val (.int 0), .val (.int v33), .val (.double gi), .second, .val (.ref a), .unset, .unset, .unset, .unset, .unset, .unset, .unset, .unset] [(.double v74), (.int i4), (.double v70), (.ref a)]))
      obtain ⟨k1, h1⟩ : ∃ z, FP.ddiv (4607182418800017408 : UInt64) gi = z := ⟨_, rfl⟩
      have D1 := Dk
      rw [h1] at D1
      obtain ⟨k2, h2⟩ : ∃ z, FP.dmul v74 v70 = z := ⟨_, rfl⟩
      rw [q74, q70, h2] at Dp
      obtain ⟨rr, h3⟩ : ∃ z, FP.dmul k1 k2 = z := ⟨_, rfl⟩
      have D3 := OwnFl.dmul_DV D1 Dp (by have := hm2.1; grind) (by have := hm2.2; grind)
      rw [h3] at D3
      refine g_callV hG X2 hx hZ (y := (⟨"com/example/flowmarket/flowmarket/scenario/Isoelastic", "demandLogSlope", "(DID)D"⟩ : MethodName)) 0 hown (wd hw 41 rfl) (wd hw 42 rfl) (wd hw 44 rfl) (wd hw 43 rfl) (wd hw 3 rfl) (wd hw 45 rfl) (by decide) (rmDem l Z a0 hw [] a gi v70 v74 k1 k2 rr i4 T2.heap n0 Zs h1 h2 h3 D1.noNaN Dp.noNaN D3.noNaN Ex_a F_gamma_a) (by decide) (by decide) (by rw [hml]; rfl) pd_5 rfl (argsL := [(.double v70), (.int i4), (.double v74)]) (rest := []) rfl rfl (Nat.le_of_eq rfl) (hb hby at_75) rfl Ex_a (by decide) (by decide) (pc' := 78) rfl ?_
      intro T3 rv3 L3 X3 hQ3
      obtain ⟨rfl, Nq3, eh3⟩ := hQ3
      have NF3 := Fr.app NF2 Nq3
      show G (T3.setTop (mkF m 78 #[.val (.int i0), .val (.int i1), .val (.int i2), .val (.int i3), .val (.int i4), .val (.double v6), .second, .val (.int v12), .val (.int 0), .val (.int v33), .val (.double gi), .second, .val (.ref a), .unset, .unset, .unset, .unset, .unset, .unset, .unset, .unset] [(.double rr)]))
      refine g_dstore hG X3 hx (hb hby at_78) (pc' := 80) rfl (Ls' := #[.val (.int i0), .val (.int i1), .val (.int i2), .val (.int i3), .val (.int i4), .val (.double v6), .second, .val (.int v12), .val (.int 0), .val (.int v33), .val (.double gi), .second, .val (.ref a), .val (.double rr), .second, .unset, .unset, .unset, .unset, .unset, .unset]) rfl ?_
      show G (T3.setTop (mkF m 80 #[.val (.int i0), .val (.int i1), .val (.int i2), .val (.int i3), .val (.int i4), .val (.double v6), .second, .val (.int v12), .val (.int 0), .val (.int v33), .val (.double gi), .second, .val (.ref a), .val (.double rr), .second, .unset, .unset, .unset, .unset, .unset, .unset] []))
      refine g_iloadN hG X3 hx (hb hby at_80) (pc' := 81) rfl rfl ?_
      show G (T3.setTop (mkF m 81 #[.val (.int i0), .val (.int i1), .val (.int i2), .val (.int i3), .val (.int i4), .val (.double v6), .second, .val (.int v12), .val (.int 0), .val (.int v33), .val (.double gi), .second, .val (.ref a), .val (.double rr), .second, .unset, .unset, .unset, .unset, .unset, .unset] [(.int i2)]))
      obtain ⟨v81, q81⟩ : ∃ zz : Int64, i2.toInt64 = zz := ⟨_, rfl⟩
      refine g_i2l hG X3 hx (hb hby at_81) (pc' := 82) rfl q81 ?_
      show G (T3.setTop (mkF m 82 #[.val (.int i0), .val (.int i1), .val (.int i2), .val (.int i3), .val (.int i4), .val (.double v6), .second, .val (.int v12), .val (.int 0), .val (.int v33), .val (.double gi), .second, .val (.ref a), .val (.double rr), .second, .unset, .unset, .unset, .unset, .unset, .unset] [(.long v81)]))
      refine g_iloadN hG X3 hx (hb hby at_82) (pc' := 83) rfl rfl ?_
      show G (T3.setTop (mkF m 83 #[.val (.int i0), .val (.int i1), .val (.int i2), .val (.int i3), .val (.int i4), .val (.double v6), .second, .val (.int v12), .val (.int 0), .val (.int v33), .val (.double gi), .second, .val (.ref a), .val (.double rr), .second, .unset, .unset, .unset, .unset, .unset, .unset] [(.int i3), (.long v81)]))
      obtain ⟨v83, q83⟩ : ∃ zz : Int64, i3.toInt64 = zz := ⟨_, rfl⟩
      refine g_i2l hG X3 hx (hb hby at_83) (pc' := 84) rfl q83 ?_
      show G (T3.setTop (mkF m 84 #[.val (.int i0), .val (.int i1), .val (.int i2), .val (.int i3), .val (.int i4), .val (.double v6), .second, .val (.int v12), .val (.int 0), .val (.int v33), .val (.double gi), .second, .val (.ref a), .val (.double rr), .second, .unset, .unset, .unset, .unset, .unset, .unset] [(.long v83), (.long v81)]))
      obtain ⟨v84, q84⟩ : ∃ zz : Int64, v81 * v83 = zz := ⟨_, rfl⟩
      refine g_lmul hG X3 hx (hb hby at_84) (pc' := 85) rfl q84 ?_
      show G (T3.setTop (mkF m 85 #[.val (.int i0), .val (.int i1), .val (.int i2), .val (.int i3), .val (.int i4), .val (.double v6), .second, .val (.int v12), .val (.int 0), .val (.int v33), .val (.double gi), .second, .val (.ref a), .val (.double rr), .second, .unset, .unset, .unset, .unset, .unset, .unset] [(.long v84)]))
      refine g_lstore hG X3 hx (hb hby at_85) (pc' := 87) rfl (Ls' := #[.val (.int i0), .val (.int i1), .val (.int i2), .val (.int i3), .val (.int i4), .val (.double v6), .second, .val (.int v12), .val (.int 0), .val (.int v33), .val (.double gi), .second, .val (.ref a), .val (.double rr), .second, .val (.long v84), .second, .unset, .unset, .unset, .unset]) rfl ?_
      show G (T3.setTop (mkF m 87 #[.val (.int i0), .val (.int i1), .val (.int i2), .val (.int i3), .val (.int i4), .val (.double v6), .second, .val (.int v12), .val (.int 0), .val (.int v33), .val (.double gi), .second, .val (.ref a), .val (.double rr), .second, .val (.long v84), .second, .unset, .unset, .unset, .unset] []))
      refine g_lload hG X3 hx (hb hby at_87) (pc' := 89) rfl rfl ?_
      show G (T3.setTop (mkF m 89 #[.val (.int i0), .val (.int i1), .val (.int i2), .val (.int i3), .val (.int i4), .val (.double v6), .second, .val (.int v12), .val (.int 0), .val (.int v33), .val (.double gi), .second, .val (.ref a), .val (.double rr), .second, .val (.long v84), .second, .unset, .unset, .unset, .unset] [(.long v84)]))
      obtain ⟨v89, q89⟩ : ∃ zz : UInt64, FP.l2d v84 = zz := ⟨_, rfl⟩
      refine g_l2d hG X3 hx (hb hby at_89) (pc' := 90) rfl q89 ?_
      show G (T3.setTop (mkF m 90 #[.val (.int i0), .val (.int i1), .val (.int i2), .val (.int i3), .val (.int i4), .val (.double v6), .second, .val (.int v12), .val (.int 0), .val (.int v33), .val (.double gi), .second, .val (.ref a), .val (.double rr), .second, .val (.long v84), .second, .unset, .unset, .unset, .unset] [(.double v89)]))
      rw [q81, q83, q84, q89] at De
      refine g_dstore hG X3 hx (hb hby at_90) (pc' := 92) rfl (Ls' := #[.val (.int i0), .val (.int i1), .val (.int i2), .val (.int i3), .val (.int i4), .val (.double v6), .second, .val (.int v12), .val (.int 0), .val (.int v33), .val (.double gi), .second, .val (.ref a), .val (.double rr), .second, .val (.long v84), .second, .val (.double v89), .second, .unset, .unset]) rfl ?_
      show G (T3.setTop (mkF m 92 #[.val (.int i0), .val (.int i1), .val (.int i2), .val (.int i3), .val (.int i4), .val (.double v6), .second, .val (.int v12), .val (.int 0), .val (.int v33), .val (.double gi), .second, .val (.ref a), .val (.double rr), .second, .val (.long v84), .second, .val (.double v89), .second, .unset, .unset] []))
      refine g_iload hG X3 hx (hb hby at_92) (pc' := 94) rfl rfl ?_
      show G (T3.setTop (mkF m 94 #[.val (.int i0), .val (.int i1), .val (.int i2), .val (.int i3), .val (.int i4), .val (.double v6), .second, .val (.int v12), .val (.int 0), .val (.int v33), .val (.double gi), .second, .val (.ref a), .val (.double rr), .second, .val (.long v84), .second, .val (.double v89), .second, .unset, .unset] [(.int 0)]))
      refine g_ifYes hG X3 hx (hb hby at_94) (pc' := 106) (by decide) (by decide) (by decide) ?_
      show G (T3.setTop (mkF m 106 #[.val (.int i0), .val (.int i1), .val (.int i2), .val (.int i3), .val (.int i4), .val (.double v6), .second, .val (.int v12), .val (.int 0), .val (.int v33), .val (.double gi), .second, .val (.ref a), .val (.double rr), .second, .val (.long v84), .second, .val (.double v89), .second, .unset, .unset] []))
      refine g_dload hG X3 hx (hb hby at_106) (pc' := 108) rfl rfl ?_
      show G (T3.setTop (mkF m 108 #[.val (.int i0), .val (.int i1), .val (.int i2), .val (.int i3), .val (.int i4), .val (.double v6), .second, .val (.int v12), .val (.int 0), .val (.int v33), .val (.double gi), .second, .val (.ref a), .val (.double rr), .second, .val (.long v84), .second, .val (.double v89), .second, .unset, .unset] [(.double v89)]))
      refine g_iload hG X3 hx (hb hby at_108) (pc' := 110) rfl rfl ?_
      show G (T3.setTop (mkF m 110 #[.val (.int i0), .val (.int i1), .val (.int i2), .val (.int i3), .val (.int i4), .val (.double v6), .second, .val (.int v12), .val (.int 0), .val (.int v33), .val (.double gi), .second, .val (.ref a), .val (.double rr), .second, .val (.long v84), .second, .val (.double v89), .second, .unset, .unset] [(.int v33), (.double v89)]))
      refine g_i2d hG X3 hx (hb hby at_110) (pc' := 111) rfl hg ?_
      show G (T3.setTop (mkF m 111 #[.val (.int i0), .val (.int i1), .val (.int i2), .val (.int i3), .val (.int i4), .val (.double v6), .second, .val (.int v12), .val (.int 0), .val (.int v33), .val (.double gi), .second, .val (.ref a), .val (.double rr), .second, .val (.long v84), .second, .val (.double v89), .second, .unset, .unset] [(.double g), (.double v89)]))
      obtain ⟨v111, q111⟩ : ∃ zz : UInt64, FP.dmul v89 g = zz := ⟨_, rfl⟩
      have D111 := OwnFl.dmul_DV De Dg (by rw [Rat.mul_comm]; have := hm2.1; grind) (by rw [Rat.mul_comm]; have := hm2.2; grind)
      rw [q111, Rat.mul_comm] at D111
      refine g_dmul hG X3 hx (hb hby at_111) (pc' := 112) rfl (by rw [q111]; exact D111.noNaN) q111 ?_
      show G (T3.setTop (mkF m 112 #[.val (.int i0), .val (.int i1), .val (.int i2), .val (.int i3), .val (.int i4), .val (.double v6), .second, .val (.int v12), .val (.int 0), .val (.int v33), .val (.double gi), .second, .val (.ref a), .val (.double rr), .second, .val (.long v84), .second, .val (.double v89), .second, .unset, .unset] [(.double v111)]))
      refine g_dstore hG X3 hx (hb hby at_112) (pc' := 114) rfl (Ls' := #[.val (.int i0), .val (.int i1), .val (.int i2), .val (.int i3), .val (.int i4), .val (.double v6), .second, .val (.int v12), .val (.int 0), .val (.int v33), .val (.double gi), .second, .val (.ref a), .val (.double rr), .second, .val (.long v84), .second, .val (.double v89), .second, .val (.double v111), .second]) rfl ?_
      show G (T3.setTop (mkF m 114 #[.val (.int i0), .val (.int i1), .val (.int i2), .val (.int i3), .val (.int i4), .val (.double v6), .second, .val (.int v12), .val (.int 0), .val (.int v33), .val (.double gi), .second, .val (.ref a), .val (.double rr), .second, .val (.long v84), .second, .val (.double v89), .second, .val (.double v111), .second] []))
      refine g_dload hG X3 hx (hb hby at_114) (pc' := 116) rfl rfl ?_
      show G (T3.setTop (mkF m 116 #[.val (.int i0), .val (.int i1), .val (.int i2), .val (.int i3), .val (.int i4), .val (.double v6), .second, .val (.int v12), .val (.int 0), .val (.int v33), .val (.double gi), .second, .val (.ref a), .val (.double rr), .second, .val (.long v84), .second, .val (.double v89), .second, .val (.double v111), .second] [(.double rr)]))
      refine g_dload hG X3 hx (hb hby at_116) (pc' := 118) rfl rfl ?_
      show G (T3.setTop (mkF m 118 #[.val (.int i0), .val (.int i1), .val (.int i2), .val (.int i3), .val (.int i4), .val (.double v6), .second, .val (.int v12), .val (.int 0), .val (.int v33), .val (.double gi), .second, .val (.ref a), .val (.double rr), .second, .val (.long v84), .second, .val (.double v89), .second, .val (.double v111), .second] [(.double v111), (.double rr)]))
      obtain ⟨v118, q118⟩ : ∃ zz : Int32, cmpValue (FP.dcmp rr v111) .l = zz := ⟨_, rfl⟩
      refine g_dcmp hG X3 hx (hb hby at_118) (pc' := 119) rfl q118 ?_
      show G (T3.setTop (mkF m 119 #[.val (.int i0), .val (.int i1), .val (.int i2), .val (.int i3), .val (.int i4), .val (.double v6), .second, .val (.int v12), .val (.int 0), .val (.int v33), .val (.double gi), .second, .val (.ref a), .val (.double rr), .second, .val (.long v84), .second, .val (.double v89), .second, .val (.double v111), .second] [(.int v118)]))
      refine g_ifNo hG X3 hx (hb hby at_119) (pc' := 122) (by rw [← q118, OwnFl.dcmp_eq D3 D111 rfl]; rfl) rfl ?_
      show G (T3.setTop (mkF m 122 #[.val (.int i0), .val (.int i1), .val (.int i2), .val (.int i3), .val (.int i4), .val (.double v6), .second, .val (.int v12), .val (.int 0), .val (.int v33), .val (.double gi), .second, .val (.ref a), .val (.double rr), .second, .val (.long v84), .second, .val (.double v89), .second, .val (.double v111), .second] []))
      refine g_iconst hG X3 hx (hb hby at_122) (pc' := 123) rfl (v := (1 : Int32)) rfl ?_
      show G (T3.setTop (mkF m 123 #[.val (.int i0), .val (.int i1), .val (.int i2), .val (.int i3), .val (.int i4), .val (.double v6), .second, .val (.int v12), .val (.int 0), .val (.int v33), .val (.double gi), .second, .val (.ref a), .val (.double rr), .second, .val (.long v84), .second, .val (.double v89), .second, .val (.double v111), .second] [(.int 1)]))
      refine g_goto hG X3 hx (hb hby at_123) (pc' := 127) (by decide) (by decide) ?_
      show G (T3.setTop (mkF m 127 #[.val (.int i0), .val (.int i1), .val (.int i2), .val (.int i3), .val (.int i4), .val (.double v6), .second, .val (.int v12), .val (.int 0), .val (.int v33), .val (.double gi), .second, .val (.ref a), .val (.double rr), .second, .val (.long v84), .second, .val (.double v89), .second, .val (.double v111), .second] [(.int 1)]))
      exact e_retZW hGe X3 hx hS Sk hrt hlk (hb hby at_127) (Or.inr rfl) eh3 (by decide) (by decide) (⟨rfl, NF3⟩)
    · skip
      have Gg : FP.dcmp g 0 = some .gt := OwnFl.dcmp_gt Dg own_z (by grind)
      refine g_iload hG X0 hx (hb hby at_36) (pc' := 38) rfl rfl ?_
      show G (s₁.setTop (mkF m 38 #[.val (.int i0), .val (.int i1), .val (.int i2), .val (.int i3), .val (.int i4), .val (.double v6), .second, .val (.int v12), .val (.int 1), .val (.int v33), .unset, .unset, .unset, .unset, .unset, .unset, .unset, .unset, .unset, .unset, .unset] [(.int 1)]))
      refine g_ifNo hG X0 hx (hb hby at_38) (pc' := 41) (by decide) rfl ?_
      show G (s₁.setTop (mkF m 41 #[.val (.int i0), .val (.int i1), .val (.int i2), .val (.int i3), .val (.int i4), .val (.double v6), .second, .val (.int v12), .val (.int 1), .val (.int v33), .unset, .unset, .unset, .unset, .unset, .unset, .unset, .unset, .unset, .unset, .unset] []))
      refine g_iload hG X0 hx (hb hby at_41) (pc' := 43) rfl rfl ?_
      show G (s₁.setTop (mkF m 43 #[.val (.int i0), .val (.int i1), .val (.int i2), .val (.int i3), .val (.int i4), .val (.double v6), .second, .val (.int v12), .val (.int 1), .val (.int v33), .unset, .unset, .unset, .unset, .unset, .unset, .unset, .unset, .unset, .unset, .unset] [(.int v33)]))
      refine g_i2d hG X0 hx (hb hby at_43) (pc' := 44) rfl hg ?_
      show G (s₁.setTop (mkF m 44 #[.val (.int i0), .val (.int i1), .val (.int i2), .val (.int i3), .val (.int i4), .val (.double v6), .second, .val (.int v12), .val (.int 1), .val (.int v33), .unset, .unset, .unset, .unset, .unset, .unset, .unset, .unset, .unset, .unset, .unset] [(.double g)]))
      refine g_goto hG X0 hx (hb hby at_44) (pc' := 52) (by decide) (by decide) ?_
      show G (s₁.setTop (mkF m 52 #[.val (.int i0), .val (.int i1), .val (.int i2), .val (.int i3), .val (.int i4), .val (.double v6), .second, .val (.int v12), .val (.int 1), .val (.int v33), .unset, .unset, .unset, .unset, .unset, .unset, .unset, .unset, .unset, .unset, .unset] [(.double g)]))
      refine g_dstore hG X0 hx (hb hby at_52) (pc' := 54) rfl (Ls' := #[.val (.int i0), .val (.int i1), .val (.int i2), .val (.int i3), .val (.int i4), .val (.double v6), .second, .val (.int v12), .val (.int 1), .val (.int v33), .val (.double g), .second, .unset, .unset, .unset, .unset, .unset, .unset, .unset, .unset, .unset]) rfl ?_
      show G (s₁.setTop (mkF m 54 #[.val (.int i0), .val (.int i1), .val (.int i2), .val (.int i3), .val (.int i4), .val (.double v6), .second, .val (.int v12), .val (.int 1), .val (.int v33), .val (.double g), .second, .unset, .unset, .unset, .unset, .unset, .unset, .unset, .unset, .unset] []))
      refine g_newO hG X0 hx hZ hown (wd hw 1 rfl) (wd hw 2 rfl) (wd hw 3 rfl) e0 (hb hby at_54) (by decide) (by decide) (pc' := 57) rfl ?_
      intro T4 h4 a gs4 X4 e4 E4 Aq4 Dq4
      have ge_a : n0 ≤ a := gs4 ▸ Zs
      have Zs := Nat.le_trans Zs E4.1
      have Sk := Nat.le_trans Sk E4.1
      have Ex_a := Aq4
      have F_weight_a : Fld Z h4 a "com/example/flowmarket/flowmarket/scenario/Isoelastic" "weight" "D" (.double 0) := Dq4 (Or.inr (wd hw 38 rfl)) (ty := .double) (by decide)
      have F_gamma_a : Fld Z h4 a "com/example/flowmarket/flowmarket/scenario/Isoelastic" "gamma" "D" (.double 0) := Dq4 (Or.inr (wd hw 40 rfl)) (ty := .double) (by decide)
      show G (T4.setTop (mkF m 57 #[.val (.int i0), .val (.int i1), .val (.int i2), .val (.int i3), .val (.int i4), .val (.double v6), .second, .val (.int v12), .val (.int 1), .val (.int v33), .val (.double g), .second, .unset, .unset, .unset, .unset, .unset, .unset, .unset, .unset, .unset] [(.ref a)]))
      refine g_dup hG X4 hx (hb hby at_57) (pc' := 58) rfl rfl ?_
      show G (T4.setTop (mkF m 58 #[.val (.int i0), .val (.int i1), .val (.int i2), .val (.int i3), .val (.int i4), .val (.double v6), .second, .val (.int v12), .val (.int 1), .val (.int v33), .val (.double g), .second, .unset, .unset, .unset, .unset, .unset, .unset, .unset, .unset, .unset] [(.ref a), (.ref a)]))
      refine g_dload hG X4 hx (hb hby at_58) (pc' := 60) rfl rfl ?_
      show G (T4.setTop (mkF m 60 #[.val (.int i0), .val (.int i1), .val (.int i2), .val (.int i3), .val (.int i4), .val (.double v6), .second, .val (.int v12), .val (.int 1), .val (.int v33), .val (.double g), .second, .unset, .unset, .unset, .unset, .unset, .unset, .unset, .unset, .unset] [(.double v6), (.ref a), (.ref a)]))
      refine g_dload hG X4 hx (hb hby at_60) (pc' := 62) rfl rfl ?_
      show G (T4.setTop (mkF m 62 #[.val (.int i0), .val (.int i1), .val (.int i2), .val (.int i3), .val (.int i4), .val (.double v6), .second, .val (.int v12), .val (.int 1), .val (.int v33), .val (.double g), .second, .unset, .unset, .unset, .unset, .unset, .unset, .unset, .unset, .unset] [(.double g), (.double v6), (.ref a), (.ref a)]))
      refine g_callIW hG X4 hx hZ (y := (⟨"com/example/flowmarket/flowmarket/scenario/Isoelastic", "<init>", "(DD)V"⟩ : MethodName)) 1 rfl hown (wd hw 4 rfl) (wd hw 5 rfl) (wd hw 3 rfl) (wd hw 6 rfl) (by decide) (rmIso l Z a0 hw [] a v6 g h4 n0 Zs ge_a D6.fin Dg.fin G6 Gg Ex_a F_weight_a F_gamma_a) (by decide) (by decide) (by rw [hml]; rfl) pd_4 rfl (argsL := [(.double v6), (.double g)]) (rest := [(.ref a)]) rfl rfl (Nat.le_of_eq rfl) (hb hby at_62) e4 hS Sk (by decide) (by decide) (pc' := 65) rfl ?_
      intro T5 rv5 L5 X5 hQ5 hS hZ hown
      obtain ⟨rfl, Nq5, Kq5, Ex_a, F_weight_a, F_gamma_a⟩ := hQ5
      have NF5 := Fr.app NF0 Nq5
      have Zs := Nat.le_trans Zs Kq5.1
      have Sk := Nat.le_trans Sk Kq5.1
      have Sk := Nat.le_refl T5.heap.size
      show G (T5.setTop (mkF m 65 #[.val (.int i0), .val (.int i1), .val (.int i2), .val (.int i3), .val (.int i4), .val (.double v6), .second, .val (.int v12), .val (.int 1), .val (.int v33), .val (.double g), .second, .unset, .unset, .unset, .unset, .unset, .unset, .unset, .unset, .unset] [(.ref a)]))
      refine g_astore hG X5 hx (hb hby at_65) (pc' := 67) rfl rfl (Ls' := #[.val (.int i0), .val (.int i1), .val (.int i2), .val (.int i3), .val (.int i4), .val (.double v6), .second, .val (.int v12), .val (.int 1), .val (.int v33), .val (.double g), .second, .val (.ref a), .unset, .unset, .unset, .unset, .unset, .unset, .unset, .unset]) rfl ?_
      show G (T5.setTop (mkF m 67 #[.val (.int i0), .val (.int i1), .val (.int i2), .val (.int i3), .val (.int i4), .val (.double v6), .second, .val (.int v12), .val (.int 1), .val (.int v33), .val (.double g), .second, .val (.ref a), .unset, .unset, .unset, .unset, .unset, .unset, .unset, .unset] []))
      refine g_aload hG X5 hx (hb hby at_67) (pc' := 69) rfl rfl rfl ?_
      show G (T5.setTop (mkF m 69 #[.val (.int i0), .val (.int i1), .val (.int i2), .val (.int i3), .val (.int i4), .val (.double v6), .second, .val (.int v12), .val (.int 1), .val (.int v33), .val (.double g), .second, .val (.ref a), .unset, .unset, .unset, .unset, .unset, .unset, .unset, .unset] [(.ref a)]))
      refine g_iloadN hG X5 hx (hb hby at_69) (pc' := 70) rfl rfl ?_
      show G (T5.setTop (mkF m 70 #[.val (.int i0), .val (.int i1), .val (.int i2), .val (.int i3), .val (.int i4), .val (.double v6), .second, .val (.int v12), .val (.int 1), .val (.int v33), .val (.double g), .second, .val (.ref a), .unset, .unset, .unset, .unset, .unset, .unset, .unset, .unset] [(.int i3), (.ref a)]))
      obtain ⟨v70, q70⟩ : ∃ zz : UInt64, FP.i2d i3 = zz := ⟨_, rfl⟩
      refine g_i2d hG X5 hx (hb hby at_70) (pc' := 71) rfl q70 ?_
      show G (T5.setTop (mkF m 71 #[.val (.int i0), .val (.int i1), .val (.int i2), .val (.int i3), .val (.int i4), .val (.double v6), .second, .val (.int v12), .val (.int 1), .val (.int v33), .val (.double g), .second, .val (.ref a), .unset, .unset, .unset, .unset, .unset, .unset, .unset, .unset] [(.double v70), (.ref a)]))
      refine g_iload hG X5 hx (hb hby at_71) (pc' := 73) rfl rfl ?_
      show G (T5.setTop (mkF m 73 #[.val (.int i0), .val (.int i1), .val (.int i2), .val (.int i3), .val (.int i4), .val (.double v6), .second, .val (.int v12), .val (.int 1), .val (.int v33), .val (.double g), .second, .val (.ref a), .unset, .unset, .unset, .unset, .unset, .unset, .unset, .unset] [(.int i4), (.double v70), (.ref a)]))
      refine g_iloadN hG X5 hx (hb hby at_73) (pc' := 74) rfl rfl ?_
      show G (T5.setTop (mkF m 74 #[.val (.int i0), .val (.int i1), .val (.int i2), .val (.int i3), .val (.int i4), .val (.double v6), .second, .val (.int v12), .val (.int 1), .val (.int v33), .val (.double g), .second, .val (.ref a), .unset, .unset, .unset, .unset, .unset, .unset, .unset, .unset] [(.int i2), (.int i4), (.double v70), (.ref a)]))
      obtain ⟨v74, q74⟩ : ∃ zz : UInt64, FP.i2d i2 = zz := ⟨_, rfl⟩
      refine g_i2d hG X5 hx (hb hby at_74) (pc' := 75) rfl q74 ?_
      show G (T5.setTop (mkF m 75 #[.val (.int i0), .val (.int i1), .val (.int i2), .val (.int i3), .val (.int i4), .val (.double v6), .second, .val (.int v12), .val (.int 1), .val (.int v33), .val (.double g), .second, .val (.ref a), .unset, .unset, .unset, .unset, .unset, .unset, .unset, .unset] [(.double v74), (.int i4), (.double v70), (.ref a)]))
      obtain ⟨k1, h1⟩ : ∃ z, FP.ddiv (4607182418800017408 : UInt64) g = z := ⟨_, rfl⟩
      have D1 := Dh
      rw [h1] at D1
      obtain ⟨k2, h2⟩ : ∃ z, FP.dmul v74 v70 = z := ⟨_, rfl⟩
      rw [q74, q70, h2] at Dp
      obtain ⟨rr, h3⟩ : ∃ z, FP.dmul k1 k2 = z := ⟨_, rfl⟩
      have D3 := OwnFl.dmul_DV D1 Dp (by have := hm1.1; grind) (by have := hm1.2; grind)
      rw [h3] at D3
      refine g_callV hG X5 hx hZ (y := (⟨"com/example/flowmarket/flowmarket/scenario/Isoelastic", "demandLogSlope", "(DID)D"⟩ : MethodName)) 0 hown (wd hw 41 rfl) (wd hw 42 rfl) (wd hw 44 rfl) (wd hw 43 rfl) (wd hw 3 rfl) (wd hw 45 rfl) (by decide) (rmDem l Z a0 hw [] a g v70 v74 k1 k2 rr i4 T5.heap n0 Zs h1 h2 h3 D1.noNaN Dp.noNaN D3.noNaN Ex_a F_gamma_a) (by decide) (by decide) (by rw [hml]; rfl) pd_5 rfl (argsL := [(.double v70), (.int i4), (.double v74)]) (rest := []) rfl rfl (Nat.le_of_eq rfl) (hb hby at_75) rfl Ex_a (by decide) (by decide) (pc' := 78) rfl ?_
      intro T6 rv6 L6 X6 hQ6
      obtain ⟨rfl, Nq6, eh6⟩ := hQ6
      have NF6 := Fr.app NF5 Nq6
      show G (T6.setTop (mkF m 78 #[.val (.int i0), .val (.int i1), .val (.int i2), .val (.int i3), .val (.int i4), .val (.double v6), .second, .val (.int v12), .val (.int 1), .val (.int v33), .val (.double g), .second, .val (.ref a), .unset, .unset, .unset, .unset, .unset, .unset, .unset, .unset] [(.double rr)]))
      refine g_dstore hG X6 hx (hb hby at_78) (pc' := 80) rfl (Ls' := #[.val (.int i0), .val (.int i1), .val (.int i2), .val (.int i3), .val (.int i4), .val (.double v6), .second, .val (.int v12), .val (.int 1), .val (.int v33), .val (.double g), .second, .val (.ref a), .val (.double rr), .second, .unset, .unset, .unset, .unset, .unset, .unset]) rfl ?_
      show G (T6.setTop (mkF m 80 #[.val (.int i0), .val (.int i1), .val (.int i2), .val (.int i3), .val (.int i4), .val (.double v6), .second, .val (.int v12), .val (.int 1), .val (.int v33), .val (.double g), .second, .val (.ref a), .val (.double rr), .second, .unset, .unset, .unset, .unset, .unset, .unset] []))
      refine g_iloadN hG X6 hx (hb hby at_80) (pc' := 81) rfl rfl ?_
      show G (T6.setTop (mkF m 81 #[.val (.int i0), .val (.int i1), .val (.int i2), .val (.int i3), .val (.int i4), .val (.double v6), .second, .val (.int v12), .val (.int 1), .val (.int v33), .val (.double g), .second, .val (.ref a), .val (.double rr), .second, .unset, .unset, .unset, .unset, .unset, .unset] [(.int i2)]))
      obtain ⟨v81, q81⟩ : ∃ zz : Int64, i2.toInt64 = zz := ⟨_, rfl⟩
      refine g_i2l hG X6 hx (hb hby at_81) (pc' := 82) rfl q81 ?_
      show G (T6.setTop (mkF m 82 #[.val (.int i0), .val (.int i1), .val (.int i2), .val (.int i3), .val (.int i4), .val (.double v6), .second, .val (.int v12), .val (.int 1), .val (.int v33), .val (.double g), .second, .val (.ref a), .val (.double rr), .second, .unset, .unset, .unset, .unset, .unset, .unset] [(.long v81)]))
      refine g_iloadN hG X6 hx (hb hby at_82) (pc' := 83) rfl rfl ?_
      show G (T6.setTop (mkF m 83 #[.val (.int i0), .val (.int i1), .val (.int i2), .val (.int i3), .val (.int i4), .val (.double v6), .second, .val (.int v12), .val (.int 1), .val (.int v33), .val (.double g), .second, .val (.ref a), .val (.double rr), .second, .unset, .unset, .unset, .unset, .unset, .unset] [(.int i3), (.long v81)]))
      obtain ⟨v83, q83⟩ : ∃ zz : Int64, i3.toInt64 = zz := ⟨_, rfl⟩
      refine g_i2l hG X6 hx (hb hby at_83) (pc' := 84) rfl q83 ?_
      show G (T6.setTop (mkF m 84 #[.val (.int i0), .val (.int i1), .val (.int i2), .val (.int i3), .val (.int i4), .val (.double v6), .second, .val (.int v12), .val (.int 1), .val (.int v33), .val (.double g), .second, .val (.ref a), .val (.double rr), .second, .unset, .unset, .unset, .unset, .unset, .unset] [(.long v83), (.long v81)]))
      obtain ⟨v84, q84⟩ : ∃ zz : Int64, v81 * v83 = zz := ⟨_, rfl⟩
      refine g_lmul hG X6 hx (hb hby at_84) (pc' := 85) rfl q84 ?_
      show G (T6.setTop (mkF m 85 #[.val (.int i0), .val (.int i1), .val (.int i2), .val (.int i3), .val (.int i4), .val (.double v6), .second, .val (.int v12), .val (.int 1), .val (.int v33), .val (.double g), .second, .val (.ref a), .val (.double rr), .second, .unset, .unset, .unset, .unset, .unset, .unset] [(.long v84)]))
      refine g_lstore hG X6 hx (hb hby at_85) (pc' := 87) rfl (Ls' := #[.val (.int i0), .val (.int i1), .val (.int i2), .val (.int i3), .val (.int i4), .val (.double v6), .second, .val (.int v12), .val (.int 1), .val (.int v33), .val (.double g), .second, .val (.ref a), .val (.double rr), .second, .val (.long v84), .second, .unset, .unset, .unset, .unset]) rfl ?_
      show G (T6.setTop (mkF m 87 #[.val (.int i0), .val (.int i1), .val (.int i2), .val (.int i3), .val (.int i4), .val (.double v6), .second, .val (.int v12), .val (.int 1), .val (.int v33), .val (.double g), .second, .val (.ref a), .val (.double rr), .second, .val (.long v84), .second, .unset, .unset, .unset, .unset] []))
      refine g_lload hG X6 hx (hb hby at_87) (pc' := 89) rfl rfl ?_
      show G (T6.setTop (mkF m 89 #[.val (.int i0), .val (.int i1), .val (.int i2), .val (.int i3), .val (.int i4), .val (.double v6), .second, .val (.int v12), .val (.int 1), .val (.int v33), .val (.double g), .second, .val (.ref a), .val (.double rr), .second, .val (.long v84), .second, .unset, .unset, .unset, .unset] [(.long v84)]))
      obtain ⟨v89, q89⟩ : ∃ zz : UInt64, FP.l2d v84 = zz := ⟨_, rfl⟩
      refine g_l2d hG X6 hx (hb hby at_89) (pc' := 90) rfl q89 ?_
      show G (T6.setTop (mkF m 90 #[.val (.int i0), .val (.int i1), .val (.int i2), .val (.int i3), .val (.int i4), .val (.double v6), .second, .val (.int v12), .val (.int 1), .val (.int v33), .val (.double g), .second, .val (.ref a), .val (.double rr), .second, .val (.long v84), .second, .unset, .unset, .unset, .unset] [(.double v89)]))
      rw [q81, q83, q84, q89] at De
      refine g_dstore hG X6 hx (hb hby at_90) (pc' := 92) rfl (Ls' := #[.val (.int i0), .val (.int i1), .val (.int i2), .val (.int i3), .val (.int i4), .val (.double v6), .second, .val (.int v12), .val (.int 1), .val (.int v33), .val (.double g), .second, .val (.ref a), .val (.double rr), .second, .val (.long v84), .second, .val (.double v89), .second, .unset, .unset]) rfl ?_
      show G (T6.setTop (mkF m 92 #[.val (.int i0), .val (.int i1), .val (.int i2), .val (.int i3), .val (.int i4), .val (.double v6), .second, .val (.int v12), .val (.int 1), .val (.int v33), .val (.double g), .second, .val (.ref a), .val (.double rr), .second, .val (.long v84), .second, .val (.double v89), .second, .unset, .unset] []))
      refine g_iload hG X6 hx (hb hby at_92) (pc' := 94) rfl rfl ?_
      show G (T6.setTop (mkF m 94 #[.val (.int i0), .val (.int i1), .val (.int i2), .val (.int i3), .val (.int i4), .val (.double v6), .second, .val (.int v12), .val (.int 1), .val (.int v33), .val (.double g), .second, .val (.ref a), .val (.double rr), .second, .val (.long v84), .second, .val (.double v89), .second, .unset, .unset] [(.int 1)]))
      refine g_ifNo hG X6 hx (hb hby at_94) (pc' := 97) (by decide) rfl ?_
      show G (T6.setTop (mkF m 97 #[.val (.int i0), .val (.int i1), .val (.int i2), .val (.int i3), .val (.int i4), .val (.double v6), .second, .val (.int v12), .val (.int 1), .val (.int v33), .val (.double g), .second, .val (.ref a), .val (.double rr), .second, .val (.long v84), .second, .val (.double v89), .second, .unset, .unset] []))
      refine g_dload hG X6 hx (hb hby at_97) (pc' := 99) rfl rfl ?_
      show G (T6.setTop (mkF m 99 #[.val (.int i0), .val (.int i1), .val (.int i2), .val (.int i3), .val (.int i4), .val (.double v6), .second, .val (.int v12), .val (.int 1), .val (.int v33), .val (.double g), .second, .val (.ref a), .val (.double rr), .second, .val (.long v84), .second, .val (.double v89), .second, .unset, .unset] [(.double v89)]))
      refine g_iload hG X6 hx (hb hby at_99) (pc' := 101) rfl rfl ?_
      show G (T6.setTop (mkF m 101 #[.val (.int i0), .val (.int i1), .val (.int i2), .val (.int i3), .val (.int i4), .val (.double v6), .second, .val (.int v12), .val (.int 1), .val (.int v33), .val (.double g), .second, .val (.ref a), .val (.double rr), .second, .val (.long v84), .second, .val (.double v89), .second, .unset, .unset] [(.int v33), (.double v89)]))
      refine g_i2d hG X6 hx (hb hby at_101) (pc' := 102) rfl hg ?_
      show G (T6.setTop (mkF m 102 #[.val (.int i0), .val (.int i1), .val (.int i2), .val (.int i3), .val (.int i4), .val (.double v6), .second, .val (.int v12), .val (.int 1), .val (.int v33), .val (.double g), .second, .val (.ref a), .val (.double rr), .second, .val (.long v84), .second, .val (.double v89), .second, .unset, .unset] [(.double g), (.double v89)]))
      obtain ⟨v102, q102⟩ : ∃ zz : UInt64, FP.ddiv v89 g = zz := ⟨_, rfl⟩
      have D102 := OwnFl.ddiv_DV De Dg hN0 (by rw [hdv]; have := hm1.1; grind) (by rw [hdv]; have := hm1.2; grind)
      rw [q102, hdv] at D102
      refine g_ddiv hG X6 hx (hb hby at_102) (pc' := 103) rfl (by rw [q102]; exact D102.noNaN) q102 ?_
      show G (T6.setTop (mkF m 103 #[.val (.int i0), .val (.int i1), .val (.int i2), .val (.int i3), .val (.int i4), .val (.double v6), .second, .val (.int v12), .val (.int 1), .val (.int v33), .val (.double g), .second, .val (.ref a), .val (.double rr), .second, .val (.long v84), .second, .val (.double v89), .second, .unset, .unset] [(.double v102)]))
      refine g_goto hG X6 hx (hb hby at_103) (pc' := 112) (by decide) (by decide) ?_
      show G (T6.setTop (mkF m 112 #[.val (.int i0), .val (.int i1), .val (.int i2), .val (.int i3), .val (.int i4), .val (.double v6), .second, .val (.int v12), .val (.int 1), .val (.int v33), .val (.double g), .second, .val (.ref a), .val (.double rr), .second, .val (.long v84), .second, .val (.double v89), .second, .unset, .unset] [(.double v102)]))
      refine g_dstore hG X6 hx (hb hby at_112) (pc' := 114) rfl (Ls' := #[.val (.int i0), .val (.int i1), .val (.int i2), .val (.int i3), .val (.int i4), .val (.double v6), .second, .val (.int v12), .val (.int 1), .val (.int v33), .val (.double g), .second, .val (.ref a), .val (.double rr), .second, .val (.long v84), .second, .val (.double v89), .second, .val (.double v102), .second]) rfl ?_
      show G (T6.setTop (mkF m 114 #[.val (.int i0), .val (.int i1), .val (.int i2), .val (.int i3), .val (.int i4), .val (.double v6), .second, .val (.int v12), .val (.int 1), .val (.int v33), .val (.double g), .second, .val (.ref a), .val (.double rr), .second, .val (.long v84), .second, .val (.double v89), .second, .val (.double v102), .second] []))
      refine g_dload hG X6 hx (hb hby at_114) (pc' := 116) rfl rfl ?_
      show G (T6.setTop (mkF m 116 #[.val (.int i0), .val (.int i1), .val (.int i2), .val (.int i3), .val (.int i4), .val (.double v6), .second, .val (.int v12), .val (.int 1), .val (.int v33), .val (.double g), .second, .val (.ref a), .val (.double rr), .second, .val (.long v84), .second, .val (.double v89), .second, .val (.double v102), .second] [(.double rr)]))
      refine g_dload hG X6 hx (hb hby at_116) (pc' := 118) rfl rfl ?_
      show G (T6.setTop (mkF m 118 #[.val (.int i0), .val (.int i1), .val (.int i2), .val (.int i3), .val (.int i4), .val (.double v6), .second, .val (.int v12), .val (.int 1), .val (.int v33), .val (.double g), .second, .val (.ref a), .val (.double rr), .second, .val (.long v84), .second, .val (.double v89), .second, .val (.double v102), .second] [(.double v102), (.double rr)]))
      obtain ⟨v118, q118⟩ : ∃ zz : Int32, cmpValue (FP.dcmp rr v102) .l = zz := ⟨_, rfl⟩
      refine g_dcmp hG X6 hx (hb hby at_118) (pc' := 119) rfl q118 ?_
      show G (T6.setTop (mkF m 119 #[.val (.int i0), .val (.int i1), .val (.int i2), .val (.int i3), .val (.int i4), .val (.double v6), .second, .val (.int v12), .val (.int 1), .val (.int v33), .val (.double g), .second, .val (.ref a), .val (.double rr), .second, .val (.long v84), .second, .val (.double v89), .second, .val (.double v102), .second] [(.int v118)]))
      refine g_ifNo hG X6 hx (hb hby at_119) (pc' := 122) (by rw [← q118, OwnFl.dcmp_eq D3 D102 rfl]; rfl) rfl ?_
      show G (T6.setTop (mkF m 122 #[.val (.int i0), .val (.int i1), .val (.int i2), .val (.int i3), .val (.int i4), .val (.double v6), .second, .val (.int v12), .val (.int 1), .val (.int v33), .val (.double g), .second, .val (.ref a), .val (.double rr), .second, .val (.long v84), .second, .val (.double v89), .second, .val (.double v102), .second] []))
      refine g_iconst hG X6 hx (hb hby at_122) (pc' := 123) rfl (v := (1 : Int32)) rfl ?_
      show G (T6.setTop (mkF m 123 #[.val (.int i0), .val (.int i1), .val (.int i2), .val (.int i3), .val (.int i4), .val (.double v6), .second, .val (.int v12), .val (.int 1), .val (.int v33), .val (.double g), .second, .val (.ref a), .val (.double rr), .second, .val (.long v84), .second, .val (.double v89), .second, .val (.double v102), .second] [(.int 1)]))
      refine g_goto hG X6 hx (hb hby at_123) (pc' := 127) (by decide) (by decide) ?_
      show G (T6.setTop (mkF m 127 #[.val (.int i0), .val (.int i1), .val (.int i2), .val (.int i3), .val (.int i4), .val (.double v6), .second, .val (.int v12), .val (.int 1), .val (.int v33), .val (.double g), .second, .val (.ref a), .val (.double rr), .second, .val (.long v84), .second, .val (.double v89), .second, .val (.double v102), .second] [(.int 1)]))
      exact e_retZW hGe X6 hx hS Sk hrt hlk (hb hby at_127) (Or.inr rfl) eh6 (by decide) (by decide) (⟨rfl, NF6⟩)
  by_cases hc20 : v19 = (0 : Int32)
  · refine g_ifYes hG X0 hx (hb hby at_20) (pc' := 27) ((if0 _ _).trans (teq hc20).1) (by decide) (by decide) ?_
    refine g_iconst hG X0 hx (hb hby at_27) (pc' := 28) rfl (v := (0 : Int32)) rfl ?_
    show G (s₁.setTop (mkF m 28 #[.val (.int i0), .val (.int i1), .val (.int i2), .val (.int i3), .val (.int i4), .val (.double v6), .second, .val (.int v12), .unset, .unset, .unset, .unset, .unset, .unset, .unset, .unset, .unset, .unset, .unset, .unset, .unset] [(.int 0)]))
    exact c28 (0 : Int32) (Or.inl rfl)
  · refine g_ifNo hG X0 hx (hb hby at_20) (pc' := 23) ((if0 _ _).trans (feq hc20).1) rfl ?_
    refine g_iconst hG X0 hx (hb hby at_23) (pc' := 24) rfl (v := (1 : Int32)) rfl ?_
    show G (s₁.setTop (mkF m 24 #[.val (.int i0), .val (.int i1), .val (.int i2), .val (.int i3), .val (.int i4), .val (.double v6), .second, .val (.int v12), .unset, .unset, .unset, .unset, .unset, .unset, .unset, .unset, .unset, .unset, .unset, .unset, .unset] [(.int 1)]))
    refine g_goto hG X0 hx (hb hby at_24) (pc' := 28) (by decide) (by decide) ?_
    show G (s₁.setTop (mkF m 28 #[.val (.int i0), .val (.int i1), .val (.int i2), .val (.int i3), .val (.int i4), .val (.double v6), .second, .val (.int v12), .unset, .unset, .unset, .unset, .unset, .unset, .unset, .unset, .unset, .unset, .unset, .unset, .unset] [(.int 1)]))
    exact c28 (1 : Int32) (Or.inr rfl)
set_option maxRecDepth 65536 in
set_option maxHeartbeats 40000000 in
theorem comes_1 {Post : Tables → Env → Array Value → State → Outcome → State → Prop} (hpost : ∀ tb e args s v u, (limb_1_1.after args s (.returned v) u = true ∧ limb_1_2.after args s (.returned v) u = true ∧ True) → ReturnedEndW s (.returned v) u (Jvm.fieldLocs frame_1_writes args s ++ Jvm.arrayLocs frame_1_arrays args s ++ Jvm.staticLocs frame_1_statics s) 16 2176 → Post tb e args s (.returned v) u) :
    ArmFor flags0 classFile x code maxLocals ret World_1 tables_1 room_1 Calls_1 rest_1 Pre_1 Post := by
  intro l hfl _ _ p e ha hc hk s m args below hf hA hF happ hP
  obtain ⟨hcalls, hrest, hpre⟩ := hP
  obtain ⟨-, -, -, hnamed, -, -, -, hat⟩ := (Spec.applies_iff hf).mp happ
  obtain ⟨hg, hn⟩ := and_e (Cond.before_iff.mp (show (Jvm.Cond.and given_1 narrow_1).before args s = true from hpre))
  obtain ⟨hcount, ha_0⟩ := and_e hg
  obtain ⟨hb_0, ha_1⟩ := and_e ha_0
  obtain ⟨hb_1, ha_2⟩ := and_e ha_1
  obtain ⟨hb_2, ha_3⟩ := and_e ha_2
  obtain ⟨hb_3, ha_4⟩ := and_e ha_3
  have hb_4 := ha_4
  obtain ⟨w0, w1, w2, w3, w4, rfl⟩ : ∃ w0 w1 w2 w3 w4 : Value, args = #[w0, w1, w2, w3, w4] := by
    have hs : args.size = 5 := by simpa [Cond.value, given_1] using hcount
    obtain ⟨L⟩ := args
    match L, hs with
    | [w0, w1, w2, w3, w4], _ => exact ⟨w0, w1, w2, w3, w4, rfl⟩
  have hw := fun d (hd : d ∈ tables_1) => atoms_spec (ws := Jvm.Cond.code x code maxLocals ret :: tables_1) hat d (List.mem_cons_of_mem _ hd)
  obtain ⟨i0, ei0⟩ := is_v hb_0
  obtain rfl : w0 = (.int i0) := Option.some.inj ei0
  obtain ⟨i1, ei1⟩ := is_v hb_1
  obtain rfl : w1 = (.int i1) := Option.some.inj ei1
  obtain ⟨i2, ei2⟩ := is_v hb_2
  obtain rfl : w2 = (.int i2) := Option.some.inj ei2
  obtain ⟨i3, ei3⟩ := is_v hb_3
  obtain rfl : w3 = (.int i3) := Option.some.inj ei3
  obtain ⟨i4, ei4⟩ := is_v hb_4
  obtain rfl : w4 = (.int i4) := Option.some.inj ei4
  obtain ⟨n, o, h1, h2, h3, _, L, rfl, ⟨rfl, N⟩, hq⟩ := rm0 l s _ hw tables_1 i0 i1 i2 i3 i4 s.heap s.heap.size (Nat.le_refl _)  p e ha hc hk s m _ below hf ((Spec.applies_iff_loose hf).mp happ).1 ⟨rfl, State.Warmed39.refl s, rfl⟩ trivial
  refine ⟨n, _, h1, h2, h3, hpost _ _ _ _ _ _ ⟨Cond.after_iff.mpr rfl, Cond.after_iff.mpr (eq_i res_at (Term.int_eval (1)) rfl), trivial⟩ ⟨hq.1, hq.2.1, hq.2.2.1, (hq.2.2.2.sift fun y hy => Or.inr (N y hy)).mono (by decide) (by decide)⟩⟩
theorem main_1_1 : Claimed_1_1 := comes_1 fun _ _ _ _ _ _ h hF => ⟨h.1, hF⟩
theorem main_1_2 : Claimed_1_2 := comes_1 fun _ _ _ _ _ _ h hF => ⟨h.2.1, hF⟩
end Jvm.Pilot.@@N@@
namespace Jvm.Pilot.@@N@@
open Jvm Jvm.ClassFile Sem Op Lib Jvm.Free Jvm.Stand Jvm.Pilot.@@N@@.Jvm.D
/-! MADE BY PROGRAM (witnessworld.py) out of the Statement's table words and the real class files: 20 classes; the members and pool entries that the words name. The judged class is class 1, her method 1. -/
namespace start1
open Jvm.ClassFile
def u (s : String) : CpInfo := .utf8 (stringToUtf16 s)
/-- a pool by its gaps: so many unusable entries, then the entry; so many at the end -/
def gap : Nat → List CpInfo → List CpInfo
  | 0, r => r
  | n + 1, r => .unusable :: gap n r
def poolList (es : List (Nat × CpInfo)) (last : Nat) : List CpInfo := es.foldr (fun e r => gap e.1 (e.2 :: r)) (gap last [])
def pool (es : List (Nat × CpInfo)) (last : Nat) : Array CpInfo := ⟨poolList es last⟩
def fileOf (pool : Array CpInfo) (this : Nat) (attrs : Array Attribute := #[]) (ms : Array MethodInfo := #[]) (fl : Nat := 33) (sup : Nat := 0) (ifs : Array Nat := #[]) (fds : Array FieldInfo := #[]) : ClassFile where
  minorVersion := 0
  majorVersion := 65
  constantPool := pool
  accessFlags := fl
  thisClass := this
  superClass := sup
  interfaces := ifs
  fields := fds
  methods := ms
  attributes := attrs
def plain (name : String) (sup : Option ClassId) : Class where
  name := name
  kind := .ordinary
  loader := none
  accessFlags := 33
  super := sup
  interfaces := #[]
  cf := none
  fields := #[]
  methods := #[]
  instanceTypes := #[]
  staticTypes := #[]
  resolved := #[]
  callSites := []
  init := .initialized
  statics := none
  mirror := none

def pool0 : Array CpInfo := pool [(5, u "<init>"), (0, u "()V"), (1, .class_ 10), (1, u "java/lang/Object")] 113

def k0c0 : Code := { maxStack := 0, maxLocals := 1, code := object_method_1_code, exceptionTable := #[], attributes := #[] }
def k0m0 : Method := { name := "<init>", desc := "()V", sig := { parameters := [], returnType := none }, accessFlags := 1, code := some k0c0 }
/-- java/lang/Object -/
def k0 : Class := { plain "java/lang/Object" none with
  accessFlags := 33
  interfaces := #[]
  cf := some (fileOf pool0 8 #[] #[{ accessFlags := 1, nameIndex := 5, descriptorIndex := 6, attributes := #[] }] 33 0 #[] #[])
  fields := #[]
  methods := #[k0m0]
  instanceTypes := #[]
  staticTypes := #[]
  resolved := Array.replicate 124 none
  statics := none }

def pool1 : Array CpInfo := pool [(2, .class_ 4), (1, u "java/lang/Object"), (0, u "<init>"), (0, u "()V"), (0, .integer 65535), (0, .class_ 9), (0, u "com/example/flowmarket/flowmarket/scenario/Isoelastic"), (0, .methodref 8 11), (0, .nameAndType 5 12), (0, u "(DD)V"), (0, .methodref 8 14), (0, .nameAndType 15 16), (0, u "demandLogSlope"), (0, u "(DID)D"), (0, .class_ 18), (0, u "com/example/flowmarket/flowmarket/scenario/IsoelasticDemandLogSlopePinLaw"), (2, u "law"), (0, u "(IIIII)Z")] 3

def k1m0 : Method := { name := "<init>", desc := "()V", sig := { parameters := [], returnType := none }, accessFlags := 2, code := none }
def k1c1 : Code := { maxStack := 6, maxLocals := 21, code := code, exceptionTable := #[], attributes := #[] }
def k1m1 : Method := { name := "law", desc := "(IIIII)Z", sig := { parameters := [.int, .int, .int, .int, .int], returnType := some .boolean }, accessFlags := 9, code := some k1c1 }
/-- com/example/flowmarket/flowmarket/scenario/IsoelasticDemandLogSlopePinLaw -/
def k1 : Class := { plain "com/example/flowmarket/flowmarket/scenario/IsoelasticDemandLogSlopePinLaw" (some 0) with
  accessFlags := 49
  interfaces := #[]
  cf := some (fileOf pool1 17 #[] #[{ accessFlags := 2, nameIndex := 5, descriptorIndex := 6, attributes := #[] }, { accessFlags := 9, nameIndex := 21, descriptorIndex := 22, attributes := #[] }] 49 2 #[] #[])
  fields := #[]
  methods := #[k1m0, k1m1]
  instanceTypes := #[]
  staticTypes := #[]
  resolved := Array.replicate 26 none
  statics := none }

def pool2 : Array CpInfo := pool [(1, .methodref 2 3), (0, .class_ 4), (0, .nameAndType 5 6), (0, u "java/lang/Object"), (0, u "<init>"), (0, u "()V"), (0, .class_ 8), (0, u "java/lang/Record")] 13

def k2c0 : Code := { maxStack := 1, maxLocals := 1, code := jdk_30_method_1_code, exceptionTable := #[], attributes := #[] }
def k2m0 : Method := { name := "<init>", desc := "()V", sig := { parameters := [], returnType := none }, accessFlags := 4, code := some k2c0 }
/-- java/lang/Record -/
def k2 : Class := { plain "java/lang/Record" (some 0) with
  accessFlags := 1057
  interfaces := #[]
  cf := some (fileOf pool2 7 #[] #[{ accessFlags := 4, nameIndex := 5, descriptorIndex := 6, attributes := #[] }] 1057 2 #[] #[])
  fields := #[]
  methods := #[k2m0]
  instanceTypes := #[]
  staticTypes := #[]
  resolved := Array.replicate 22 none
  statics := none }

def pool3 : Array CpInfo := pool [(1, .class_ 2), (0, u "com/example/flowmarket/flowmarket/scenario/Utility"), (0, .class_ 4), (0, u "java/lang/Object")] 13

/-- com/example/flowmarket/flowmarket/scenario/Utility -/
def k3 : Class := { plain "com/example/flowmarket/flowmarket/scenario/Utility" (some 0) with
  accessFlags := 1537
  interfaces := #[]
  cf := some (fileOf pool3 1 #[] #[] 1537 3 #[] #[])
  fields := #[]
  methods := #[]
  instanceTypes := #[]
  staticTypes := #[]
  resolved := Array.replicate 18 none
  statics := none }

def pool4 : Array CpInfo := pool [(1, .methodref 2 3), (0, .class_ 4), (0, .nameAndType 5 6), (0, u "java/lang/Record"), (0, u "<init>"), (0, u "()V"), (0, .string 8), (0, u "weight"), (0, .methodref 10 11), (0, .class_ 12), (0, .nameAndType 13 14), (0, u "com/example/flowmarket/flowmarket/scenario/Checks"), (0, u "requireFinitePositive"), (0, u "(Ljava/lang/String;D)V"), (0, .string 16), (0, u "gamma"), (0, .fieldref 18 19), (0, .class_ 20), (0, .nameAndType 8 21), (0, u "com/example/flowmarket/flowmarket/scenario/Isoelastic"), (0, u "D"), (0, .fieldref 18 23), (0, .nameAndType 16 21), (38, .class_ 63), (0, u "com/example/flowmarket/flowmarket/scenario/Utility"), (0, u "(DD)V"), (7, u "demandLogSlope"), (0, u "(DID)D")] 25

def k4c0 : Code := { maxStack := 3, maxLocals := 5, code := prog_22_method_1_code, exceptionTable := #[], attributes := #[] }
def k4m0 : Method := { name := "<init>", desc := "(DD)V", sig := { parameters := [.double, .double], returnType := none }, accessFlags := 1, code := some k4c0 }
def k4c1 : Code := { maxStack := 6, maxLocals := 6, code := prog_22_method_5_code, exceptionTable := #[], attributes := #[] }
def k4m1 : Method := { name := "demandLogSlope", desc := "(DID)D", sig := { parameters := [.double, .int, .double], returnType := some .double }, accessFlags := 1, code := some k4c1 }
/-- com/example/flowmarket/flowmarket/scenario/Isoelastic -/
def k4 : Class := { plain "com/example/flowmarket/flowmarket/scenario/Isoelastic" (some 2) with
  accessFlags := 49
  interfaces := #[3]
  cf := some (fileOf pool4 18 #[] #[{ accessFlags := 1, nameIndex := 5, descriptorIndex := 64, attributes := #[] }, { accessFlags := 1, nameIndex := 72, descriptorIndex := 73, attributes := #[] }] 49 2 #[62] #[{ accessFlags := 18, nameIndex := 8, descriptorIndex := 21, attributes := #[] }, { accessFlags := 18, nameIndex := 16, descriptorIndex := 21, attributes := #[] }])
  fields := #[{ name := "weight", type := .double, accessFlags := 18, slot := 0, constantValue := 0 }, { name := "gamma", type := .double, accessFlags := 18, slot := 1, constantValue := 0 }]
  methods := #[k4m0, k4m1]
  instanceTypes := #[.double, .double]
  staticTypes := #[]
  resolved := Array.replicate 99 none
  statics := none }

def pool5 : Array CpInfo := pool [(1, .class_ 2), (0, u "java/io/Serializable"), (0, .class_ 4), (0, u "java/lang/Object")] 2

/-- java/io/Serializable -/
def k5 : Class := { plain "java/io/Serializable" (some 0) with
  accessFlags := 1537
  interfaces := #[]
  cf := some (fileOf pool5 1 #[] #[] 1537 3 #[] #[])
  fields := #[]
  methods := #[]
  instanceTypes := #[]
  staticTypes := #[]
  resolved := Array.replicate 7 none
  statics := none }

def pool6 : Array CpInfo := pool [(1, .class_ 2), (0, u "java/lang/Comparable"), (0, .class_ 4), (0, u "java/lang/Object")] 7

/-- java/lang/Comparable -/
def k6 : Class := { plain "java/lang/Comparable" (some 0) with
  accessFlags := 1537
  interfaces := #[]
  cf := some (fileOf pool6 1 #[] #[] 1537 3 #[] #[])
  fields := #[]
  methods := #[]
  instanceTypes := #[]
  staticTypes := #[]
  resolved := Array.replicate 12 none
  statics := none }

def pool7 : Array CpInfo := pool [(2, .class_ 4), (1, u "java/lang/CharSequence"), (42, .class_ 48), (0, u "java/lang/CharSequence$1CodePointIterator"), (10, .class_ 60), (0, u "java/lang/CharSequence$1CharIterator"), (5, .class_ 67), (0, u "java/lang/Object")] 63

/-- java/lang/CharSequence -/
def k7 : Class := { plain "java/lang/CharSequence" (some 0) with
  accessFlags := 1537
  interfaces := #[]
  cf := some (fileOf pool7 2 #[.nestMembers #[47, 59]] #[] 1537 66 #[] #[])
  fields := #[]
  methods := #[]
  instanceTypes := #[]
  staticTypes := #[]
  resolved := Array.replicate 131 none
  statics := none }

def pool8 : Array CpInfo := pool [(1, .class_ 2), (0, u "java/lang/constant/Constable"), (0, .class_ 4), (0, u "java/lang/Object")] 6

/-- java/lang/constant/Constable -/
def k8 : Class := { plain "java/lang/constant/Constable" (some 0) with
  accessFlags := 1537
  interfaces := #[]
  cf := some (fileOf pool8 1 #[] #[] 1537 3 #[] #[])
  fields := #[]
  methods := #[]
  instanceTypes := #[]
  staticTypes := #[]
  resolved := Array.replicate 11 none
  statics := none }

def pool9 : Array CpInfo := pool [(1, .class_ 2), (0, u "java/lang/constant/ConstantDesc"), (0, .class_ 4), (0, u "java/lang/Object")] 32

/-- java/lang/constant/ConstantDesc -/
def k9 : Class := { plain "java/lang/constant/ConstantDesc" (some 0) with
  accessFlags := 1537
  interfaces := #[]
  cf := some (fileOf pool9 1 #[] #[] 1537 3 #[] #[])
  fields := #[]
  methods := #[]
  instanceTypes := #[]
  staticTypes := #[]
  resolved := Array.replicate 37 none
  statics := none }

def pool10 : Array CpInfo := pool [(2, .class_ 4), (1, u "java/lang/Object"), (0, u "<init>"), (0, u "()V"), (3, .class_ 12), (1, u "java/lang/String"), (0, u "value"), (0, u "[B"), (2, u "coder"), (0, u "B"), (2, u "hash"), (0, u "I"), (2, u "hashIsZero"), (0, u "Z"), (13, u "COMPACT_STRINGS"), (534, .class_ 576), (0, u "java/lang/CharSequence"), (22, u "CASE_INSENSITIVE_ORDER"), (0, u "Ljava/util/Comparator;"), (500, u "serialPersistentFields"), (0, u "[Ljava/io/ObjectStreamField;"), (0, .class_ 1104), (0, u "java/lang/String$CaseInsensitiveComparator"), (1, .class_ 1107), (0, u "java/io/Serializable"), (0, .class_ 1109), (0, u "java/lang/Comparable"), (0, .class_ 1111), (0, u "java/lang/constant/Constable"), (0, .class_ 1113), (0, u "java/lang/constant/ConstantDesc"), (2, u "serialVersionUID"), (0, u "J"), (3, u "REPL"), (0, u "C"), (2, u "LATIN1"), (1, u "UTF16")] 323

def k10m0 : Method := { name := "<init>", desc := "()V", sig := { parameters := [], returnType := none }, accessFlags := 1, code := none }
/-- java/lang/String -/
def k10 : Class := { plain "java/lang/String" (some 0) with
  accessFlags := 49
  interfaces := #[5, 6, 7, 8, 9]
  cf := some (fileOf pool10 10 #[.nestMembers #[1103]] #[{ accessFlags := 1, nameIndex := 5, descriptorIndex := 6, attributes := #[] }] 49 2 #[1106, 1108, 575, 1110, 1112] #[{ accessFlags := 18, nameIndex := 13, descriptorIndex := 14, attributes := #[] }, { accessFlags := 18, nameIndex := 17, descriptorIndex := 18, attributes := #[] }, { accessFlags := 2, nameIndex := 21, descriptorIndex := 22, attributes := #[] }, { accessFlags := 2, nameIndex := 25, descriptorIndex := 26, attributes := #[] }, { accessFlags := 26, nameIndex := 1116, descriptorIndex := 1117, attributes := #[] }, { accessFlags := 24, nameIndex := 40, descriptorIndex := 26, attributes := #[] }, { accessFlags := 26, nameIndex := 1101, descriptorIndex := 1102, attributes := #[] }, { accessFlags := 26, nameIndex := 1121, descriptorIndex := 1122, attributes := #[] }, { accessFlags := 25, nameIndex := 599, descriptorIndex := 600, attributes := #[] }, { accessFlags := 24, nameIndex := 1125, descriptorIndex := 18, attributes := #[] }, { accessFlags := 24, nameIndex := 1127, descriptorIndex := 18, attributes := #[] }])
  fields := #[{ name := "value", type := (.array .byte), accessFlags := 18, slot := 0, constantValue := 0 }, { name := "coder", type := .byte, accessFlags := 18, slot := 1, constantValue := 0 }, { name := "hash", type := .int, accessFlags := 2, slot := 2, constantValue := 0 }, { name := "hashIsZero", type := .boolean, accessFlags := 2, slot := 3, constantValue := 0 }, { name := "serialVersionUID", type := .long, accessFlags := 26, slot := 0, constantValue := 0 }, { name := "COMPACT_STRINGS", type := .boolean, accessFlags := 24, slot := 1, constantValue := 0 }, { name := "serialPersistentFields", type := (.array (.object "java/io/ObjectStreamField")), accessFlags := 26, slot := 2, constantValue := 0 }, { name := "REPL", type := .char, accessFlags := 26, slot := 3, constantValue := 0 }, { name := "CASE_INSENSITIVE_ORDER", type := (.object "java/util/Comparator"), accessFlags := 25, slot := 4, constantValue := 0 }, { name := "LATIN1", type := .byte, accessFlags := 24, slot := 5, constantValue := 0 }, { name := "UTF16", type := .byte, accessFlags := 24, slot := 6, constantValue := 0 }]
  methods := #[k10m0]
  instanceTypes := #[(.array .byte), .byte, .int, .boolean]
  staticTypes := #[.long, .boolean, (.array (.object "java/io/ObjectStreamField")), .char, (.object "java/util/Comparator"), .byte, .byte]
  resolved := Array.replicate 1451 none
  statics := none }

def pool11 : Array CpInfo := pool [(2, .class_ 4), (1, u "java/lang/Object"), (0, u "<init>"), (0, u "()V"), (0, .methodref 8 9), (0, .class_ 10), (0, .nameAndType 11 12), (0, u "java/lang/Double"), (0, u "isFinite"), (0, u "(D)Z"), (9, .class_ 23), (0, u "com/example/flowmarket/flowmarket/scenario/Checks"), (2, u "requireFinitePositive"), (0, u "(Ljava/lang/String;D)V")] 18

def k11m0 : Method := { name := "<init>", desc := "()V", sig := { parameters := [], returnType := none }, accessFlags := 2, code := none }
def k11c1 : Code := { maxStack := 5, maxLocals := 3, code := prog_18_method_2_code, exceptionTable := #[], attributes := #[] }
def k11m1 : Method := { name := "requireFinitePositive", desc := "(Ljava/lang/String;D)V", sig := { parameters := [(.object "java/lang/String"), .double], returnType := none }, accessFlags := 8, code := some k11c1 }
/-- com/example/flowmarket/flowmarket/scenario/Checks -/
def k11 : Class := { plain "com/example/flowmarket/flowmarket/scenario/Checks" (some 0) with
  accessFlags := 48
  interfaces := #[]
  cf := some (fileOf pool11 22 #[] #[{ accessFlags := 2, nameIndex := 5, descriptorIndex := 6, attributes := #[] }, { accessFlags := 8, nameIndex := 26, descriptorIndex := 27, attributes := #[] }] 48 2 #[] #[])
  fields := #[]
  methods := #[k11m0, k11m1]
  instanceTypes := #[]
  staticTypes := #[]
  resolved := Array.replicate 46 none
  statics := none }

def pool12 : Array CpInfo := pool [(2, .class_ 4), (1, u "java/lang/Object"), (0, u "<init>"), (0, u "()V"), (1, .class_ 10), (1, u "java/lang/Number"), (2, .class_ 14), (0, u "java/io/Serializable"), (0, u "serialVersionUID"), (0, u "J")] 20

def k12m0 : Method := { name := "<init>", desc := "()V", sig := { parameters := [], returnType := none }, accessFlags := 1, code := none }
/-- java/lang/Number -/
def k12 : Class := { plain "java/lang/Number" (some 0) with
  accessFlags := 1057
  interfaces := #[5]
  cf := some (fileOf pool12 8 #[] #[{ accessFlags := 1, nameIndex := 5, descriptorIndex := 6, attributes := #[] }] 1057 2 #[13] #[{ accessFlags := 26, nameIndex := 15, descriptorIndex := 16, attributes := #[] }])
  fields := #[{ name := "serialVersionUID", type := .long, accessFlags := 26, slot := 0, constantValue := 0 }]
  methods := #[k12m0]
  instanceTypes := #[]
  staticTypes := #[.long]
  resolved := Array.replicate 37 none
  statics := none }

def pool13 : Array CpInfo := pool [(1, .class_ 2), (0, u "java/lang/Double"), (10, u "isFinite"), (0, u "(D)Z"), (8, .class_ 25), (1, u "java/lang/Math"), (12, .methodref 23 39), (0, .nameAndType 40 41), (0, u "abs"), (0, u "(D)D"), (69, .double 9218868437227405311), (2, .class_ 116), (1, u "java/lang/Number"), (3, u "value"), (0, u "D"), (51, u "TYPE"), (0, u "Ljava/lang/Class;"), (0, .class_ 176), (0, u "java/lang/Comparable"), (0, .class_ 178), (0, u "java/lang/constant/Constable"), (0, .class_ 180), (0, u "java/lang/constant/ConstantDesc"), (0, u "POSITIVE_INFINITY"), (3, u "NEGATIVE_INFINITY"), (2, u "NaN"), (2, u "MAX_VALUE"), (0, u "MIN_NORMAL"), (0, u "MIN_VALUE"), (2, u "SIZE"), (0, u "I"), (1, u "PRECISION"), (1, u "MAX_EXPONENT"), (1, u "MIN_EXPONENT"), (1, u "BYTES"), (3, u "serialVersionUID"), (0, u "J")] 79

def k13c0 : Code := { maxStack := 4, maxLocals := 2, code := jdk_117_method_8_code, exceptionTable := #[], attributes := #[] }
def k13m0 : Method := { name := "isFinite", desc := "(D)Z", sig := { parameters := [.double], returnType := some .boolean }, accessFlags := 9, code := some k13c0 }
/-- java/lang/Double -/
def k13 : Class := { plain "java/lang/Double" (some 12) with
  accessFlags := 49
  interfaces := #[6, 8, 9]
  cf := some (fileOf pool13 1 #[] #[{ accessFlags := 9, nameIndex := 13, descriptorIndex := 14, attributes := #[] }] 49 114 #[175, 177, 179] #[{ accessFlags := 25, nameIndex := 181, descriptorIndex := 121, attributes := #[] }, { accessFlags := 25, nameIndex := 185, descriptorIndex := 121, attributes := #[] }, { accessFlags := 25, nameIndex := 188, descriptorIndex := 121, attributes := #[] }, { accessFlags := 25, nameIndex := 191, descriptorIndex := 121, attributes := #[] }, { accessFlags := 25, nameIndex := 192, descriptorIndex := 121, attributes := #[] }, { accessFlags := 25, nameIndex := 193, descriptorIndex := 121, attributes := #[] }, { accessFlags := 25, nameIndex := 196, descriptorIndex := 197, attributes := #[] }, { accessFlags := 25, nameIndex := 199, descriptorIndex := 197, attributes := #[] }, { accessFlags := 25, nameIndex := 201, descriptorIndex := 197, attributes := #[] }, { accessFlags := 25, nameIndex := 203, descriptorIndex := 197, attributes := #[] }, { accessFlags := 25, nameIndex := 205, descriptorIndex := 197, attributes := #[] }, { accessFlags := 25, nameIndex := 173, descriptorIndex := 174, attributes := #[] }, { accessFlags := 18, nameIndex := 120, descriptorIndex := 121, attributes := #[] }, { accessFlags := 26, nameIndex := 209, descriptorIndex := 210, attributes := #[] }])
  fields := #[{ name := "POSITIVE_INFINITY", type := .double, accessFlags := 25, slot := 0, constantValue := 0 }, { name := "NEGATIVE_INFINITY", type := .double, accessFlags := 25, slot := 1, constantValue := 0 }, { name := "NaN", type := .double, accessFlags := 25, slot := 2, constantValue := 0 }, { name := "MAX_VALUE", type := .double, accessFlags := 25, slot := 3, constantValue := 0 }, { name := "MIN_NORMAL", type := .double, accessFlags := 25, slot := 4, constantValue := 0 }, { name := "MIN_VALUE", type := .double, accessFlags := 25, slot := 5, constantValue := 0 }, { name := "SIZE", type := .int, accessFlags := 25, slot := 6, constantValue := 0 }, { name := "PRECISION", type := .int, accessFlags := 25, slot := 7, constantValue := 0 }, { name := "MAX_EXPONENT", type := .int, accessFlags := 25, slot := 8, constantValue := 0 }, { name := "MIN_EXPONENT", type := .int, accessFlags := 25, slot := 9, constantValue := 0 }, { name := "BYTES", type := .int, accessFlags := 25, slot := 10, constantValue := 0 }, { name := "TYPE", type := (.object "java/lang/Class"), accessFlags := 25, slot := 11, constantValue := 0 }, { name := "value", type := .double, accessFlags := 18, slot := 0, constantValue := 0 }, { name := "serialVersionUID", type := .long, accessFlags := 26, slot := 12, constantValue := 0 }]
  methods := #[k13m0]
  instanceTypes := #[.double]
  staticTypes := #[.double, .double, .double, .double, .double, .double, .int, .int, .int, .int, .int, (.object "java/lang/Class"), .long]
  resolved := Array.replicate 290 none
  statics := none }

def pool14 : Array CpInfo := pool [(1, .class_ 2), (0, u "java/lang/Math"), (1, .class_ 6), (1, u "java/lang/Object"), (0, u "<init>"), (0, u "()V"), (5, u "(D)D"), (83, .class_ 100), (1, u "java/lang/Math$RandomNumberGeneratorHolder"), (23, u "abs"), (47, u "negativeZeroFloatBits"), (0, u "J"), (2, u "negativeZeroDoubleBits"), (68, u "$assertionsDisabled"), (0, u "Z"), (91, u "twoToTheDoubleScaleDown"), (0, u "D"), (4, u "twoToTheDoubleScaleUp"), (9, u "E"), (3, u "PI"), (2, u "TAU"), (2, u "DEGREES_TO_RADIANS"), (0, u "RADIANS_TO_DEGREES")] 94

def k14m0 : Method := { name := "<init>", desc := "()V", sig := { parameters := [], returnType := none }, accessFlags := 2, code := none }
def k14c1 : Code := { maxStack := 4, maxLocals := 2, code := jdk_29_method_64_code, exceptionTable := #[], attributes := #[] }
def k14m1 : Method := { name := "abs", desc := "(D)D", sig := { parameters := [.double], returnType := some .double }, accessFlags := 9, code := some k14c1 }
/-- java/lang/Math -/
def k14 : Class := { plain "java/lang/Math" (some 0) with
  accessFlags := 49
  interfaces := #[]
  cf := some (fileOf pool14 1 #[.nestMembers #[98]] #[{ accessFlags := 2, nameIndex := 7, descriptorIndex := 8, attributes := #[] }, { accessFlags := 9, nameIndex := 124, descriptorIndex := 14, attributes := #[] }] 49 4 #[] #[{ accessFlags := 25, nameIndex := 354, descriptorIndex := 339, attributes := #[] }, { accessFlags := 25, nameIndex := 358, descriptorIndex := 339, attributes := #[] }, { accessFlags := 25, nameIndex := 361, descriptorIndex := 339, attributes := #[] }, { accessFlags := 26, nameIndex := 364, descriptorIndex := 339, attributes := #[] }, { accessFlags := 26, nameIndex := 365, descriptorIndex := 339, attributes := #[] }, { accessFlags := 26, nameIndex := 172, descriptorIndex := 173, attributes := #[] }, { accessFlags := 26, nameIndex := 176, descriptorIndex := 173, attributes := #[] }, { accessFlags := 8, nameIndex := 344, descriptorIndex := 339, attributes := #[] }, { accessFlags := 8, nameIndex := 338, descriptorIndex := 339, attributes := #[] }, { accessFlags := 4120, nameIndex := 245, descriptorIndex := 246, attributes := #[] }])
  fields := #[{ name := "E", type := .double, accessFlags := 25, slot := 0, constantValue := 0 }, { name := "PI", type := .double, accessFlags := 25, slot := 1, constantValue := 0 }, { name := "TAU", type := .double, accessFlags := 25, slot := 2, constantValue := 0 }, { name := "DEGREES_TO_RADIANS", type := .double, accessFlags := 26, slot := 3, constantValue := 0 }, { name := "RADIANS_TO_DEGREES", type := .double, accessFlags := 26, slot := 4, constantValue := 0 }, { name := "negativeZeroFloatBits", type := .long, accessFlags := 26, slot := 5, constantValue := 0 }, { name := "negativeZeroDoubleBits", type := .long, accessFlags := 26, slot := 6, constantValue := 0 }, { name := "twoToTheDoubleScaleUp", type := .double, accessFlags := 8, slot := 7, constantValue := 0 }, { name := "twoToTheDoubleScaleDown", type := .double, accessFlags := 8, slot := 8, constantValue := 0 }, { name := "$assertionsDisabled", type := .boolean, accessFlags := 4120, slot := 9, constantValue := 0 }]
  methods := #[k14m0, k14m1]
  instanceTypes := #[]
  staticTypes := #[.double, .double, .double, .double, .double, .long, .long, .double, .double, .boolean]
  resolved := Array.replicate 460 none
  statics := none }

def pool15 : Array CpInfo := pool [(1, u "java/lang/Cloneable"), (0, .class_ 1), (0, u "java/lang/Object"), (0, .class_ 3)] 3

/-- java/lang/Cloneable -/
def k15 : Class := { plain "java/lang/Cloneable" (some 0) with
  accessFlags := 1537
  interfaces := #[]
  cf := some (fileOf pool15 2 #[] #[] 1537 4 #[] #[])
  fields := #[]
  methods := #[]
  instanceTypes := #[]
  staticTypes := #[]
  resolved := Array.replicate 8 none
  statics := none }

/-- the primitive byte -/
def k16 : Class := { plain "byte" none with kind := .primitive 'B', accessFlags := 0x411 }
/-- [B -/
def k17 : Class := { plain "[B" (some 0) with kind := .array 16 .byte, interfaces := #[15, 5], accessFlags := 1041 }

/-- the primitive int -/
def k18 : Class := { plain "int" none with kind := .primitive 'I', accessFlags := 0x411 }
/-- [I -/
def k19 : Class := { plain "[I" (some 0) with kind := .array 18 .int, interfaces := #[15, 5], accessFlags := 1041 }

def heap : Heap := #[]
def classes : Array Class := #[k0, k1, k2, k3, k4, k5, k6, k7, k8, k9, k10, k11, k12, k13, k14, k15, k16, k17, k18, k19]
def interned : List (Array UInt16 × Addr) := []
def slotsUsed : Nat := 0
def theMethod : MethodId := ⟨1, 1⟩
def args0 : Array Value := #[.int 2, .int 9, .int 3, .int 7, .int 1]
def aboutOver (below : List Frame) : State where
  vm := { classes := classes, interned := interned.toArray }
  heap := heap
  slotsUsed := slotsUsed
  threads := #[{ frames := .invoking theMethod args0 :: below }]
def below0 : List Frame := [.native { method := ⟨0, 0⟩, args := #[] }]
def about1 : State := aboutOver below0
def p0 : Program := .bare "" "" ""
def e0 : Env := launch0.env 0 0 0
theorem w_frames : about1.frames = Frame.invoking theMethod args0 :: below0 := rfl
set_option maxRecDepth 65536 in
theorem w_args : argsFit about1.vm theMethod args0 = true := by decide +kernel
set_option maxRecDepth 65536 in
theorem w_heap : heapFits about1 = true := by decide +kernel
set_option maxRecDepth 65536 in
theorem w_runnable : about1.curStatus? = some .runnable := by decide +kernel
set_option maxRecDepth 65536 in
theorem w_alone : about1.alone = true := by decide +kernel
set_option maxRecDepth 65536 in
theorem w_named : about1.methodNamed? x = some theMethod := by decide +kernel
set_option maxRecDepth 65536 in
theorem w_hears : about1.hears theMethod below0 = true := by decide +kernel
set_option maxRecDepth 65536 in
theorem w_ripe : about1.ripe theMethod args0 below0 = true := by decide +kernel
theorem w_running : about1.status = .running := rfl
set_option maxRecDepth 65536 in
theorem w_room : about1.hasRoom e0.platform room_1 = true :=
  launch0.hasRoom_least _ room_1 (by decide +kernel) (by decide +kernel) (by decide +kernel) (by decide +kernel) (by decide +kernel) (by decide +kernel)
theorem allAtoms_all (ts : List Jvm.Cond) (a : Array Jvm.Value) (st : Jvm.State) : (allAtoms ts).before a st = ts.all (fun c => c.before a st) := by
  induction ts with
  | nil => rfl
  | cons c t ih =>
    show (Jvm.Cond.and c (allAtoms t)).before a st = _
    rw [Jvm.Cond.before_and, ih, List.all_cons]
def words1 : List Jvm.Cond := Jvm.Cond.code x code maxLocals ret :: tables_1
/-- a 'code' word, met by the world's own term for the bytes: nothing is compared byte by byte -/
theorem code_word {y : MethodName} {bytes : ByteArray} {mx : Nat} {rt : Option FieldType} {a : Array Value} {s : State} {m : MethodId} {meth : Method} {c : Code} (h1 : s.methodNamed? y = some m) (h2 : s.vm.method? m = some meth) (h3 : meth.code = some c) (h4 : c.code = bytes)
    (h5 : (c.maxLocals == mx && c.exceptionTable.isEmpty && decide (c.maxStack ≤ mostOperands) && decide (meth.sig.returnType = rt) && !meth.locks && decide (parseMethodDescriptor y.desc = some meth.sig)) = true) : (Jvm.Cond.code y bytes mx rt).before a s = true := by
  simp only [Bool.and_eq_true, beq_iff_eq, Bool.not_eq_true', decide_eq_true_eq] at h5
  obtain ⟨⟨⟨⟨⟨g1, g2⟩, g3⟩, g4⟩, g5⟩, g6⟩ := h5
  simp [Cond.before, Cond.holds, Cond.value, h1, h2, h3, h4, g1, g2, g3, g4, g5, g6]
def isCode : Jvm.Cond → Bool
  | .code _ _ _ _ => true
  | _ => false
theorem all_split {L : List Jvm.Cond} {P : Jvm.Cond → Bool} (h1 : L.all (fun c => isCode c || P c) = true) (h2 : ∀ c ∈ L.filter isCode, P c = true) : L.all P = true := by
  refine List.all_eq_true.mpr fun c hc => ?_
  have h := List.all_eq_true.mp h1 c hc
  rcases Bool.eq_false_or_eq_true (isCode c) with hi | hi
  · exact h2 c (List.mem_filter.mpr ⟨hc, hi⟩)
  · simpa [hi] using h
set_option maxRecDepth 65536 in
theorem w_c0 : (Jvm.Cond.code x code maxLocals ret).before args0 about1 = true := code_word (m := ⟨1, 1⟩) (meth := k1m1) (c := k1c1) (by decide +kernel) rfl rfl rfl (by decide +kernel)
set_option maxRecDepth 65536 in
theorem w_c1 : (Jvm.Cond.code ({ cls := "com/example/flowmarket/flowmarket/scenario/Isoelastic", name := "<init>", desc := "(DD)V" } : Jvm.MethodName) prog_22_method_1_code (5 : Nat) (Option.none : Option Jvm.ClassFile.FieldType)).before args0 about1 = true := code_word (m := ⟨4, 0⟩) (meth := k4m0) (c := k4c0) (by decide +kernel) rfl rfl rfl (by decide +kernel)
set_option maxRecDepth 65536 in
theorem w_c2 : (Jvm.Cond.code ({ cls := "java/lang/Record", name := "<init>", desc := "()V" } : Jvm.MethodName) jdk_30_method_1_code (1 : Nat) (Option.none : Option Jvm.ClassFile.FieldType)).before args0 about1 = true := code_word (m := ⟨2, 0⟩) (meth := k2m0) (c := k2c0) (by decide +kernel) rfl rfl rfl (by decide +kernel)
set_option maxRecDepth 65536 in
theorem w_c3 : (Jvm.Cond.code ({ cls := "java/lang/Object", name := "<init>", desc := "()V" } : Jvm.MethodName) object_method_1_code (1 : Nat) (Option.none : Option Jvm.ClassFile.FieldType)).before args0 about1 = true := code_word (m := ⟨0, 0⟩) (meth := k0m0) (c := k0c0) (by decide +kernel) rfl rfl rfl (by decide +kernel)
set_option maxRecDepth 65536 in
theorem w_c4 : (Jvm.Cond.code ({ cls := "com/example/flowmarket/flowmarket/scenario/Checks", name := "requireFinitePositive", desc := "(Ljava/lang/String;D)V" } : Jvm.MethodName) prog_18_method_2_code (3 : Nat) (Option.none : Option Jvm.ClassFile.FieldType)).before args0 about1 = true := code_word (m := ⟨11, 1⟩) (meth := k11m1) (c := k11c1) (by decide +kernel) rfl rfl rfl (by decide +kernel)
set_option maxRecDepth 65536 in
theorem w_c5 : (Jvm.Cond.code ({ cls := "java/lang/Double", name := "isFinite", desc := "(D)Z" } : Jvm.MethodName) jdk_117_method_8_code (2 : Nat) (Option.some Jvm.ClassFile.FieldType.boolean)).before args0 about1 = true := code_word (m := ⟨13, 0⟩) (meth := k13m0) (c := k13c0) (by decide +kernel) rfl rfl rfl (by decide +kernel)
set_option maxRecDepth 65536 in
theorem w_c6 : (Jvm.Cond.code ({ cls := "java/lang/Math", name := "abs", desc := "(D)D" } : Jvm.MethodName) jdk_29_method_64_code (2 : Nat) (Option.some Jvm.ClassFile.FieldType.double)).before args0 about1 = true := code_word (m := ⟨14, 1⟩) (meth := k14m1) (c := k14c1) (by decide +kernel) rfl rfl rfl (by decide +kernel)
set_option maxRecDepth 65536 in
theorem w_c7 : (Jvm.Cond.code ({ cls := "com/example/flowmarket/flowmarket/scenario/Isoelastic", name := "demandLogSlope", desc := "(DID)D" } : Jvm.MethodName) prog_22_method_5_code (6 : Nat) (Option.some Jvm.ClassFile.FieldType.double)).before args0 about1 = true := code_word (m := ⟨4, 1⟩) (meth := k4m1) (c := k4c1) (by decide +kernel) rfl rfl rfl (by decide +kernel)
def codes1 : List Jvm.Cond := [Jvm.Cond.code x code maxLocals ret, Jvm.Cond.code ({ cls := "com/example/flowmarket/flowmarket/scenario/Isoelastic", name := "<init>", desc := "(DD)V" } : Jvm.MethodName) prog_22_method_1_code (5 : Nat) (Option.none : Option Jvm.ClassFile.FieldType), Jvm.Cond.code ({ cls := "java/lang/Record", name := "<init>", desc := "()V" } : Jvm.MethodName) jdk_30_method_1_code (1 : Nat) (Option.none : Option Jvm.ClassFile.FieldType), Jvm.Cond.code ({ cls := "java/lang/Object", name := "<init>", desc := "()V" } : Jvm.MethodName) object_method_1_code (1 : Nat) (Option.none : Option Jvm.ClassFile.FieldType), Jvm.Cond.code ({ cls := "com/example/flowmarket/flowmarket/scenario/Checks", name := "requireFinitePositive", desc := "(Ljava/lang/String;D)V" } : Jvm.MethodName) prog_18_method_2_code (3 : Nat) (Option.none : Option Jvm.ClassFile.FieldType), Jvm.Cond.code ({ cls := "java/lang/Double", name := "isFinite", desc := "(D)Z" } : Jvm.MethodName) jdk_117_method_8_code (2 : Nat) (Option.some Jvm.ClassFile.FieldType.boolean), Jvm.Cond.code ({ cls := "java/lang/Math", name := "abs", desc := "(D)D" } : Jvm.MethodName) jdk_29_method_64_code (2 : Nat) (Option.some Jvm.ClassFile.FieldType.double), Jvm.Cond.code ({ cls := "com/example/flowmarket/flowmarket/scenario/Isoelastic", name := "demandLogSlope", desc := "(DID)D" } : Jvm.MethodName) prog_22_method_5_code (6 : Nat) (Option.some Jvm.ClassFile.FieldType.double)]
set_option maxRecDepth 65536 in
theorem codes_eq : words1.filter isCode = codes1 := rfl
theorem w_codes : ∀ c ∈ words1.filter isCode, c.before args0 about1 = true := by
  rw [codes_eq]
  intro c hc
  simp only [codes1, List.mem_cons, List.not_mem_nil, or_false] at hc
  rcases hc with rfl | rfl | rfl | rfl | rfl | rfl | rfl | rfl
  · exact w_c0
  · exact w_c1
  · exact w_c2
  · exact w_c3
  · exact w_c4
  · exact w_c5
  · exact w_c6
  · exact w_c7
set_option maxRecDepth 65536 in
theorem w_t1 : (words1.take 24).all (fun c => isCode c || c.before args0 about1) = true := by decide +kernel
set_option maxRecDepth 65536 in
theorem w_t2 : (words1.drop 24).all (fun c => isCode c || c.before args0 about1) = true := by decide +kernel
theorem w_tables : (allAtoms (Jvm.Cond.code x code maxLocals ret :: tables_1)).before args0 about1 = true := by
  rw [allAtoms_all]
  show words1.all (fun c => c.before args0 about1) = true
  refine all_split ?_ w_codes
  rw [← List.take_append_drop 24 words1, List.all_append, w_t1, w_t2]
  rfl
set_option maxRecDepth 65536 in
theorem w_case : (Jvm.Cond.and given_1 narrow_1).before args0 about1 = true := by decide +kernel
theorem w_applies : (headSpec (Jvm.Cond.code x code maxLocals ret :: tables_1) room_1).applies x e0.platform about1 = true :=
  (Spec.applies_iff w_frames).mpr ⟨w_running, w_runnable, w_alone, w_named, w_hears, w_ripe, w_room, w_tables⟩
theorem atStart : AtStart classFile x code maxLocals ret World_1 tables_1 room_1 Calls_1 rest_1 Pre_1 launch0 p0 e0 about1 theMethod args0 below0 :=
  ⟨lists_1, trivial, launch0.admits_env _ _ _, launch0.least_env, fairChoices_fair.cas, fairChoices_fair.clock, w_frames, w_args, w_heap, w_applies, trivial, trivial, w_case⟩
end start1
theorem witness_1 : WitnessClaimed_1 := ⟨start1.p0, start1.e0, start1.about1, start1.theMethod, start1.args0, start1.below0, start1.atStart⟩
end Jvm.Pilot.@@N@@
