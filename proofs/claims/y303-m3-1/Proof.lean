import JvmDerived
import JvmDerived.Pilot.@@N@@Statement
import JvmDerived.Pilot.@@N@@Code
set_option linter.unusedVariables false
set_option linter.unusedSimpArgs false
namespace Jvm.OwnKit
open Sem ClassFile Op Lib Jvm.Stand Jvm.Free Jvm.LawKit Jvm.RoadKit
/-- from S the run ends as wanted: it returns v, leaves a heap and has written the places L -/
def Goes (p : Program) (e : Env) (below : List Frame) (s : State) (K N : Nat) (Q : Option Value → Heap → List Loc → Prop) (S : State) : Prop :=
  ∃ s₂ o, Steps p.tables e below S s₂ ∧ s₂.status = .running ∧ Ended s₂ below o ∧ ∃ v L, o = .returned v ∧ Q v s₂.heap L ∧ FrameEnd s o s₂ L K N
def Cl (p : Program) (e : Env) (below : List Frame) (G : State → Prop) : Prop := ∀ S S', (∀ t, Steps p.tables e below S' t → Steps p.tables e below S t) → G S' → G S
theorem Goes.cl (p : Program) (e : Env) (below : List Frame) (s : State) (K N : Nat) (Q : Option Value → Heap → List Loc → Prop) : Cl p e below (Goes p e below s K N Q) := fun S S' h k => by
  obtain ⟨s₂, o, h1, r⟩ := k
  exact ⟨s₂, o, h _ h1, r⟩
/-- a body's contract -/
abbrev Con (l : Launch) (y : MethodName) (bytes : ByteArray) (maxL : Nat) (ret : Option FieldType) (ws : List Jvm.Cond) (rm : Room) (Z : State) (as : Array Value) (h0 : Heap) (K N : Nat) (Q : Option Value → Heap → List Loc → Prop) : Prop :=
  MetFree l y (head1 (Jvm.Cond.code y bytes maxL ret :: ws) rm) (fun a U => a = as ∧ Z.Warmed39 U.vm ∧ U.heap = h0) (fun _ _ _ _ _ => True) (fun _ U o U' => ∃ v L, o = .returned v ∧ Q v U'.heap L ∧ FrameEnd U o U' L K N)
theorem Con.of {l : Launch} {y : MethodName} {bytes : ByteArray} {maxL : Nat} {ret : Option FieldType} {ws : List Jvm.Cond} {rm : Room} {Z : State} {as : Array Value} {h0 : Heap} {K N : Nat} {Q : Option Value → Heap → List Loc → Prop} {Ls : Array Slot}
    (pl : plainFor y = true) (hef : ∀ m, entryFrame m as maxL = mkF m 0 Ls [])
    (H : ∀ (p : Program) (e : Env) (s : State) (m : MethodId) (below : List Frame) (meth : Method) (c : Code) (s₁ : State) (G : State → Prop), G = Goes p e below s K N Q → Cl p e below G → p.tables.exec = Jvm.exec → c.code = bytes → c.maxLocals = maxL → s.vm.findClass y.cls = some m.cls → meth.name = y.name → meth.sig.returnType = ret → meth.locks = false → Z.Warmed39 s.vm → Stand p l e rm s m as below meth c s₁ [] 0 0 → s₁.heap = h0 → G (s₁.setTop (mkF m 0 Ls []))) :
    Con l y bytes maxL ret ws rm Z as h0 K N Q := by
  refine MetFree.of_bodySF pl hisR ?_
  intro p e s m args below meth c s₁ Bd hml0 hP hK
  obtain ⟨rfl, hZ, hh⟩ := hP
  have X0 : Stand p l e rm s m args below meth c s₁ [] 0 0 := Stand.of_body Bd
  have e0 : s₁.heap = h0 := by rw [← hh, Bd.state]; rfl
  have g := H p e s m below meth c s₁ _ rfl (Goes.cl p e below s K N Q) Bd.exec Bd.bytes hml0 (findClass_of_methodNamed Bd.named) (name_of_methodNamed Bd.named Bd.method).1 Bd.returns Bd.notSynchronized hZ X0 e0
  rw [← hef m] at g
  exact g
theorem Wr.size {h h' : Heap} {a : Addr} {sl : Nat} {v : Value} (W : Wr h h' a sl v) : h.size ≤ h'.size := by
  obtain ⟨c, -, -, -, rfl⟩ := W
  simp
section New
variable {p : Program} {l : Launch} {e : Env} {R : Room} {s : State} {m : MethodId} {args : Array Value} {below : List Frame} {meth : Method} {c : Code} {T : State} {locs : List Loc} {cells slots : Nat} {Z : State} {a0 : Array Value} {h : Heap} {G : State → Prop} {pc pc' : Nat} {Ls Ls' : Array Slot} {rest : List Value} {K N : Nat} {Q : Option Value → Heap → List Loc → Prop}
/-! the ends -/
theorem e_ret (hGe : G = Goes p e below s K N Q) (X : Stand p l e R s m args below meth c T locs cells slots) (hx : p.tables.exec = Jvm.exec) {w : Value} {t : FieldType} {i : Instr} (hret : meth.sig.returnType = some t) (hlk : meth.locks = false) (hd : decode c.code pc = .ok (i, 1)) (hn : narrow t w = w)
    (hi : (i = .ireturn ∧ (t = .int ∨ t = .boolean ∨ t = .byte ∨ t = .char ∨ t = .short) ∧ ∃ z, w = .int z) ∨ (i = .lreturn ∧ t = .long ∧ ∃ z, w = .long z) ∨ (i = .dreturn ∧ t = .double ∧ ∃ z, w = .double z) ∨ (i = .freturn ∧ t = .float ∧ ∃ z, w = .float z) ∨ (i = .areturn ∧ t.isReference = true ∧ w.isRef = true))
    (eT : T.heap = h) (hk : cells ≤ K) (hs : slots ≤ N) (hQ : Q (some w) h locs) : G (T.setTop (mkF m pc Ls (w :: rest))) := by
  subst hGe
  obtain ⟨fs, hr, hrun, hended, hW, hsame⟩ := X.leave (v := some w) (fun h => by rw [hret] at h; cases h) hlk
  refine ⟨_, _, retOut X hx hret hn hi hd hr, hrun, hended, _, _, rfl, ?_, ⟨_, rfl⟩, hW, hsame.mono hk hs⟩
  show Q _ T.heap _
  rw [eT]; exact hQ
theorem e_retI (hGe : G = Goes p e below s K N Q) (X : Stand p l e R s m args below meth c T locs cells slots) (hx : p.tables.exec = Jvm.exec) {z : Int32} (hret : meth.sig.returnType = some .int) (hlk : meth.locks = false) (hd : decode c.code pc = .ok (.ireturn, 1)) (eT : T.heap = h) (hk : cells ≤ K) (hs : slots ≤ N) (hQ : Q (some (.int z)) h locs) : G (T.setTop (mkF m pc Ls (.int z :: rest))) :=
  e_ret hGe X hx hret hlk hd rfl (Or.inl ⟨rfl, Or.inl rfl, z, rfl⟩) eT hk hs hQ
theorem e_retJ (hGe : G = Goes p e below s K N Q) (X : Stand p l e R s m args below meth c T locs cells slots) (hx : p.tables.exec = Jvm.exec) {z : Int64} (hret : meth.sig.returnType = some .long) (hlk : meth.locks = false) (hd : decode c.code pc = .ok (.lreturn, 1)) (eT : T.heap = h) (hk : cells ≤ K) (hs : slots ≤ N) (hQ : Q (some (.long z)) h locs) : G (T.setTop (mkF m pc Ls (.long z :: rest))) :=
  e_ret hGe X hx hret hlk hd rfl (Or.inr (Or.inl ⟨rfl, rfl, z, rfl⟩)) eT hk hs hQ
theorem e_retD (hGe : G = Goes p e below s K N Q) (X : Stand p l e R s m args below meth c T locs cells slots) (hx : p.tables.exec = Jvm.exec) {z : UInt64} (hret : meth.sig.returnType = some .double) (hlk : meth.locks = false) (hd : decode c.code pc = .ok (.dreturn, 1)) (eT : T.heap = h) (hk : cells ≤ K) (hs : slots ≤ N) (hQ : Q (some (.double z)) h locs) : G (T.setTop (mkF m pc Ls (.double z :: rest))) :=
  e_ret hGe X hx hret hlk hd rfl (Or.inr (Or.inr (Or.inl ⟨rfl, rfl, z, rfl⟩))) eT hk hs hQ
theorem e_retA (hGe : G = Goes p e below s K N Q) (X : Stand p l e R s m args below meth c T locs cells slots) (hx : p.tables.exec = Jvm.exec) {a : Addr} {t : FieldType} (hret : meth.sig.returnType = some t) (ht : t.isReference = true) (hlk : meth.locks = false) (hd : decode c.code pc = .ok (.areturn, 1)) (eT : T.heap = h) (hk : cells ≤ K) (hs : slots ≤ N) (hQ : Q (some (.ref a)) h locs) : G (T.setTop (mkF m pc Ls (.ref a :: rest))) :=
  e_ret hGe X hx hret hlk hd (by cases t <;> first | rfl | (cases ht)) (Or.inr (Or.inr (Or.inr (Or.inr ⟨rfl, ht, rfl⟩)))) eT hk hs hQ
theorem e_retZ (hGe : G = Goes p e below s K N Q) (X : Stand p l e R s m args below meth c T locs cells slots) (hx : p.tables.exec = Jvm.exec) {z : Int32} (hret : meth.sig.returnType = some .boolean) (hlk : meth.locks = false) (hd : decode c.code pc = .ok (.ireturn, 1)) (hz : z = 0 ∨ z = 1) (eT : T.heap = h) (hk : cells ≤ K) (hs : slots ≤ N) (hQ : Q (some (.int z)) h locs) : G (T.setTop (mkF m pc Ls (.int z :: rest))) :=
  e_ret hGe X hx hret hlk hd (by rcases hz with rfl | rfl <;> rfl) (Or.inl ⟨rfl, Or.inr (Or.inl rfl), z, rfl⟩) eT hk hs hQ
theorem e_ret0 (hGe : G = Goes p e below s K N Q) (X : Stand p l e R s m args below meth c T locs cells slots) (hx : p.tables.exec = Jvm.exec) (hret : meth.sig.returnType = none) (hlk : meth.locks = false) (hd : decode c.code pc = .ok (.return_, 1)) (eT : T.heap = h) (hk : cells ≤ K) (hs : slots ≤ N) (hQ : Q none h locs) : G (T.setTop (mkF m pc Ls [])) := by
  subst hGe
  obtain ⟨fs, hr, hrun, hended, hW, hsame⟩ := X.leave (v := none) (fun _ => rfl) hlk
  refine ⟨_, _, X.returnOut hx hret hd hr, hrun, hended, _, _, rfl, ?_, ⟨_, rfl⟩, hW, hsame.mono hk hs⟩
  show Q _ T.heap _
  rw [eT]; exact hQ
/-! the plain steps -/
theorem g_iload (hG : Cl p e below G) (X : Stand p l e R s m args below meth c T locs cells slots) (hx : p.tables.exec = Jvm.exec) {i : Nat} {v : Int32} (hd : decode c.code pc = .ok (.iload i, 2)) (hp : pc' = pc + 2) (hl : Ls[i]? = some (.val (.int v))) (k : G (T.setTop (mkF m pc' Ls (.int v :: rest)))) : G (T.setTop (mkF m pc Ls (rest))) := by
  subst hp
  refine hG _ _ (fun t ht => ?_) k
  exact XS.iload X.here hx rfl hd hl ht
theorem g_iloadN (hG : Cl p e below G) (X : Stand p l e R s m args below meth c T locs cells slots) (hx : p.tables.exec = Jvm.exec) {i : Fin 4} {v : Int32} (hd : decode c.code pc = .ok (.iload_n i, 1)) (hp : pc' = pc + 1) (hl : Ls[i.val]? = some (.val (.int v))) (k : G (T.setTop (mkF m pc' Ls (.int v :: rest)))) : G (T.setTop (mkF m pc Ls (rest))) := by
  subst hp
  refine hG _ _ (fun t ht => ?_) k
  exact XS.iloadN X.here hx rfl hd hl ht
theorem g_istore (hG : Cl p e below G) (X : Stand p l e R s m args below meth c T locs cells slots) (hx : p.tables.exec = Jvm.exec) {i : Nat} {v : Int32} (hd : decode c.code pc = .ok (.istore i, 2)) (hp : pc' = pc + 2) (hl : storeLocals Ls i (.int v) = some Ls') (k : G (T.setTop (mkF m pc' Ls' (rest)))) : G (T.setTop (mkF m pc Ls (.int v :: rest))) := by
  subst hp
  refine hG _ _ (fun t ht => ?_) k
  exact XS.istore X.here hx rfl hd rfl hl ht
theorem g_istoreN (hG : Cl p e below G) (X : Stand p l e R s m args below meth c T locs cells slots) (hx : p.tables.exec = Jvm.exec) {i : Fin 4} {v : Int32} (hd : decode c.code pc = .ok (.istore_n i, 1)) (hp : pc' = pc + 1) (hl : storeLocals Ls i.val (.int v) = some Ls') (k : G (T.setTop (mkF m pc' Ls' (rest)))) : G (T.setTop (mkF m pc Ls (.int v :: rest))) := by
  subst hp
  refine hG _ _ (fun t ht => ?_) k
  exact XS.istoreN X.here hx rfl hd rfl hl ht
theorem g_lload (hG : Cl p e below G) (X : Stand p l e R s m args below meth c T locs cells slots) (hx : p.tables.exec = Jvm.exec) {i : Nat} {v : Int64} (hd : decode c.code pc = .ok (.lload i, 2)) (hp : pc' = pc + 2) (hl : Ls[i]? = some (.val (.long v))) (k : G (T.setTop (mkF m pc' Ls (.long v :: rest)))) : G (T.setTop (mkF m pc Ls (rest))) := by
  subst hp
  refine hG _ _ (fun t ht => ?_) k
  exact XS.lload X.here hx rfl hd hl ht
theorem g_lloadN (hG : Cl p e below G) (X : Stand p l e R s m args below meth c T locs cells slots) (hx : p.tables.exec = Jvm.exec) {i : Fin 4} {v : Int64} (hd : decode c.code pc = .ok (.lload_n i, 1)) (hp : pc' = pc + 1) (hl : Ls[i.val]? = some (.val (.long v))) (k : G (T.setTop (mkF m pc' Ls (.long v :: rest)))) : G (T.setTop (mkF m pc Ls (rest))) := by
  subst hp
  refine hG _ _ (fun t ht => ?_) k
  exact XS.lloadN X.here hx rfl hd hl ht
theorem g_lstore (hG : Cl p e below G) (X : Stand p l e R s m args below meth c T locs cells slots) (hx : p.tables.exec = Jvm.exec) {i : Nat} {v : Int64} (hd : decode c.code pc = .ok (.lstore i, 2)) (hp : pc' = pc + 2) (hl : storeLocals Ls i (.long v) = some Ls') (k : G (T.setTop (mkF m pc' Ls' (rest)))) : G (T.setTop (mkF m pc Ls (.long v :: rest))) := by
  subst hp
  refine hG _ _ (fun t ht => ?_) k
  exact XS.lstore X.here hx rfl hd rfl hl ht
theorem g_lstoreN (hG : Cl p e below G) (X : Stand p l e R s m args below meth c T locs cells slots) (hx : p.tables.exec = Jvm.exec) {i : Fin 4} {v : Int64} (hd : decode c.code pc = .ok (.lstore_n i, 1)) (hp : pc' = pc + 1) (hl : storeLocals Ls i.val (.long v) = some Ls') (k : G (T.setTop (mkF m pc' Ls' (rest)))) : G (T.setTop (mkF m pc Ls (.long v :: rest))) := by
  subst hp
  refine hG _ _ (fun t ht => ?_) k
  exact XS.lstoreN X.here hx rfl hd rfl hl ht
theorem g_dload (hG : Cl p e below G) (X : Stand p l e R s m args below meth c T locs cells slots) (hx : p.tables.exec = Jvm.exec) {i : Nat} {v : UInt64} (hd : decode c.code pc = .ok (.dload i, 2)) (hp : pc' = pc + 2) (hl : Ls[i]? = some (.val (.double v))) (k : G (T.setTop (mkF m pc' Ls (.double v :: rest)))) : G (T.setTop (mkF m pc Ls (rest))) := by
  subst hp
  refine hG _ _ (fun t ht => ?_) k
  exact XS.dload X.here hx rfl hd hl ht
theorem g_dloadN (hG : Cl p e below G) (X : Stand p l e R s m args below meth c T locs cells slots) (hx : p.tables.exec = Jvm.exec) {i : Fin 4} {v : UInt64} (hd : decode c.code pc = .ok (.dload_n i, 1)) (hp : pc' = pc + 1) (hl : Ls[i.val]? = some (.val (.double v))) (k : G (T.setTop (mkF m pc' Ls (.double v :: rest)))) : G (T.setTop (mkF m pc Ls (rest))) := by
  subst hp
  refine hG _ _ (fun t ht => ?_) k
  exact XS.dloadN X.here hx rfl hd hl ht
theorem g_dstore (hG : Cl p e below G) (X : Stand p l e R s m args below meth c T locs cells slots) (hx : p.tables.exec = Jvm.exec) {i : Nat} {v : UInt64} (hd : decode c.code pc = .ok (.dstore i, 2)) (hp : pc' = pc + 2) (hl : storeLocals Ls i (.double v) = some Ls') (k : G (T.setTop (mkF m pc' Ls' (rest)))) : G (T.setTop (mkF m pc Ls (.double v :: rest))) := by
  subst hp
  refine hG _ _ (fun t ht => ?_) k
  exact XS.dstore X.here hx rfl hd rfl hl ht
theorem g_dstoreN (hG : Cl p e below G) (X : Stand p l e R s m args below meth c T locs cells slots) (hx : p.tables.exec = Jvm.exec) {i : Fin 4} {v : UInt64} (hd : decode c.code pc = .ok (.dstore_n i, 1)) (hp : pc' = pc + 1) (hl : storeLocals Ls i.val (.double v) = some Ls') (k : G (T.setTop (mkF m pc' Ls' (rest)))) : G (T.setTop (mkF m pc Ls (.double v :: rest))) := by
  subst hp
  refine hG _ _ (fun t ht => ?_) k
  exact XS.dstoreN X.here hx rfl hd rfl hl ht
theorem g_aload (hG : Cl p e below G) (X : Stand p l e R s m args below meth c T locs cells slots) (hx : p.tables.exec = Jvm.exec) {i : Nat} {v : Value} (hd : decode c.code pc = .ok (.aload i, 2)) (hp : pc' = pc + 2) (hl : Ls[i]? = some (.val v)) (hv' : v.isRef = true) (k : G (T.setTop (mkF m pc' Ls (v :: rest)))) : G (T.setTop (mkF m pc Ls (rest))) := by
  subst hp
  refine hG _ _ (fun t ht => ?_) k
  exact XS.aload X.here hx rfl hd hl hv' ht
theorem g_aloadN (hG : Cl p e below G) (X : Stand p l e R s m args below meth c T locs cells slots) (hx : p.tables.exec = Jvm.exec) {i : Fin 4} {v : Value} (hd : decode c.code pc = .ok (.aload_n i, 1)) (hp : pc' = pc + 1) (hl : Ls[i.val]? = some (.val v)) (hv' : v.isRef = true) (k : G (T.setTop (mkF m pc' Ls (v :: rest)))) : G (T.setTop (mkF m pc Ls (rest))) := by
  subst hp
  refine hG _ _ (fun t ht => ?_) k
  exact XS.aloadN X.here hx rfl hd hl hv' ht
theorem g_astore (hG : Cl p e below G) (X : Stand p l e R s m args below meth c T locs cells slots) (hx : p.tables.exec = Jvm.exec) {i : Nat} {v : Value} (hd : decode c.code pc = .ok (.astore i, 2)) (hp : pc' = pc + 2) (hv' : v.isRef = true) (hl : storeLocals Ls i v = some Ls') (k : G (T.setTop (mkF m pc' Ls' (rest)))) : G (T.setTop (mkF m pc Ls (v :: rest))) := by
  subst hp
  refine hG _ _ (fun t ht => ?_) k
  exact XS.astore X.here hx rfl hd rfl hv' hl ht
theorem g_astoreN (hG : Cl p e below G) (X : Stand p l e R s m args below meth c T locs cells slots) (hx : p.tables.exec = Jvm.exec) {i : Fin 4} {v : Value} (hd : decode c.code pc = .ok (.astore_n i, 1)) (hp : pc' = pc + 1) (hv' : v.isRef = true) (hl : storeLocals Ls i.val v = some Ls') (k : G (T.setTop (mkF m pc' Ls' (rest)))) : G (T.setTop (mkF m pc Ls (v :: rest))) := by
  subst hp
  refine hG _ _ (fun t ht => ?_) k
  exact XS.astoreN X.here hx rfl hd rfl hv' hl ht
theorem g_iconst (hG : Cl p e below G) (X : Stand p l e R s m args below meth c T locs cells slots) (hx : p.tables.exec = Jvm.exec) {i : Int} {v : Int32} (hd : decode c.code pc = .ok (.iconst i, 1)) (hp : pc' = pc + 1) (hv : Int32.ofInt i = v) (k : G (T.setTop (mkF m pc' Ls (.int v :: rest)))) : G (T.setTop (mkF m pc Ls (rest))) := by
  subst hp
  subst hv
  refine hG _ _ (fun t ht => ?_) k
  exact XS.iconst X.here hx rfl hd ht
theorem g_bipush (hG : Cl p e below G) (X : Stand p l e R s m args below meth c T locs cells slots) (hx : p.tables.exec = Jvm.exec) {i : Int} {v : Int32} (hd : decode c.code pc = .ok (.bipush i, 2)) (hp : pc' = pc + 2) (hv : (Int8.ofInt i).toInt32 = v) (k : G (T.setTop (mkF m pc' Ls (.int v :: rest)))) : G (T.setTop (mkF m pc Ls (rest))) := by
  subst hp
  subst hv
  refine hG _ _ (fun t ht => ?_) k
  exact XS.bipush X.here hx rfl hd ht
theorem g_sipush (hG : Cl p e below G) (X : Stand p l e R s m args below meth c T locs cells slots) (hx : p.tables.exec = Jvm.exec) {i : Int} {v : Int32} (hd : decode c.code pc = .ok (.sipush i, 3)) (hp : pc' = pc + 3) (hv : (Int16.ofInt i).toInt32 = v) (k : G (T.setTop (mkF m pc' Ls (.int v :: rest)))) : G (T.setTop (mkF m pc Ls (rest))) := by
  subst hp
  subst hv
  refine hG _ _ (fun t ht => ?_) k
  exact XS.sipush X.here hx rfl hd ht
theorem g_lconst (hG : Cl p e below G) (X : Stand p l e R s m args below meth c T locs cells slots) (hx : p.tables.exec = Jvm.exec) {i : Fin 2} {v : Int64} (hd : decode c.code pc = .ok (.lconst i, 1)) (hp : pc' = pc + 1) (hv : Int64.ofNat i.val = v) (k : G (T.setTop (mkF m pc' Ls (.long v :: rest)))) : G (T.setTop (mkF m pc Ls (rest))) := by
  subst hp
  subst hv
  refine hG _ _ (fun t ht => ?_) k
  exact XS.lconst X.here hx rfl hd ht
theorem g_dconst0 (hG : Cl p e below G) (X : Stand p l e R s m args below meth c T locs cells slots) (hx : p.tables.exec = Jvm.exec) {v : UInt64} (hd : decode c.code pc = .ok (.dconst 0, 1)) (hp : pc' = pc + 1) (hv : FP.dconst0 = v) (k : G (T.setTop (mkF m pc' Ls (.double v :: rest)))) : G (T.setTop (mkF m pc Ls (rest))) := by
  subst hp
  subst hv
  refine hG _ _ (fun t ht => ?_) k
  exact XS.dconst0 X.here hx rfl hd rfl ht
theorem g_dconst1 (hG : Cl p e below G) (X : Stand p l e R s m args below meth c T locs cells slots) (hx : p.tables.exec = Jvm.exec) {v : UInt64} (hd : decode c.code pc = .ok (.dconst 1, 1)) (hp : pc' = pc + 1) (hv : FP.dconst1 = v) (k : G (T.setTop (mkF m pc' Ls (.double v :: rest)))) : G (T.setTop (mkF m pc Ls (rest))) := by
  subst hp
  subst hv
  refine hG _ _ (fun t ht => ?_) k
  exact XS.dconst1 X.here hx rfl hd rfl ht
theorem g_aconstNull (hG : Cl p e below G) (X : Stand p l e R s m args below meth c T locs cells slots) (hx : p.tables.exec = Jvm.exec)  (hd : decode c.code pc = .ok (.aconst_null, 1)) (hp : pc' = pc + 1) (k : G (T.setTop (mkF m pc' Ls (.null :: rest)))) : G (T.setTop (mkF m pc Ls (rest))) := by
  subst hp
  refine hG _ _ (fun t ht => ?_) k
  exact XS.aconstNull X.here hx rfl hd ht
theorem g_iadd (hG : Cl p e below G) (X : Stand p l e R s m args below meth c T locs cells slots) (hx : p.tables.exec = Jvm.exec) {x y v : Int32} (hd : decode c.code pc = .ok (.iadd, 1)) (hp : pc' = pc + 1) (hv : x + y = v) (k : G (T.setTop (mkF m pc' Ls (.int v :: rest)))) : G (T.setTop (mkF m pc Ls (.int y :: .int x :: rest))) := by
  subst hp
  subst hv
  refine hG _ _ (fun t ht => ?_) k
  exact XS.iadd X.here hx rfl hd rfl ht
theorem g_ladd (hG : Cl p e below G) (X : Stand p l e R s m args below meth c T locs cells slots) (hx : p.tables.exec = Jvm.exec) {x y v : Int64} (hd : decode c.code pc = .ok (.ladd, 1)) (hp : pc' = pc + 1) (hv : x + y = v) (k : G (T.setTop (mkF m pc' Ls (.long v :: rest)))) : G (T.setTop (mkF m pc Ls (.long y :: .long x :: rest))) := by
  subst hp
  subst hv
  refine hG _ _ (fun t ht => ?_) k
  exact XS.ladd X.here hx rfl hd rfl ht
theorem g_isub (hG : Cl p e below G) (X : Stand p l e R s m args below meth c T locs cells slots) (hx : p.tables.exec = Jvm.exec) {x y v : Int32} (hd : decode c.code pc = .ok (.isub, 1)) (hp : pc' = pc + 1) (hv : x - y = v) (k : G (T.setTop (mkF m pc' Ls (.int v :: rest)))) : G (T.setTop (mkF m pc Ls (.int y :: .int x :: rest))) := by
  subst hp
  subst hv
  refine hG _ _ (fun t ht => ?_) k
  exact XS.isub X.here hx rfl hd rfl ht
theorem g_lsub (hG : Cl p e below G) (X : Stand p l e R s m args below meth c T locs cells slots) (hx : p.tables.exec = Jvm.exec) {x y v : Int64} (hd : decode c.code pc = .ok (.lsub, 1)) (hp : pc' = pc + 1) (hv : x - y = v) (k : G (T.setTop (mkF m pc' Ls (.long v :: rest)))) : G (T.setTop (mkF m pc Ls (.long y :: .long x :: rest))) := by
  subst hp
  subst hv
  refine hG _ _ (fun t ht => ?_) k
  exact XS.lsub X.here hx rfl hd rfl ht
theorem g_imul (hG : Cl p e below G) (X : Stand p l e R s m args below meth c T locs cells slots) (hx : p.tables.exec = Jvm.exec) {x y v : Int32} (hd : decode c.code pc = .ok (.imul, 1)) (hp : pc' = pc + 1) (hv : x * y = v) (k : G (T.setTop (mkF m pc' Ls (.int v :: rest)))) : G (T.setTop (mkF m pc Ls (.int y :: .int x :: rest))) := by
  subst hp
  subst hv
  refine hG _ _ (fun t ht => ?_) k
  exact XS.imul X.here hx rfl hd rfl ht
theorem g_lmul (hG : Cl p e below G) (X : Stand p l e R s m args below meth c T locs cells slots) (hx : p.tables.exec = Jvm.exec) {x y v : Int64} (hd : decode c.code pc = .ok (.lmul, 1)) (hp : pc' = pc + 1) (hv : x * y = v) (k : G (T.setTop (mkF m pc' Ls (.long v :: rest)))) : G (T.setTop (mkF m pc Ls (.long y :: .long x :: rest))) := by
  subst hp
  subst hv
  refine hG _ _ (fun t ht => ?_) k
  exact XS.lmul X.here hx rfl hd rfl ht
theorem g_iand (hG : Cl p e below G) (X : Stand p l e R s m args below meth c T locs cells slots) (hx : p.tables.exec = Jvm.exec) {x y v : Int32} (hd : decode c.code pc = .ok (.iand, 1)) (hp : pc' = pc + 1) (hv : x &&& y = v) (k : G (T.setTop (mkF m pc' Ls (.int v :: rest)))) : G (T.setTop (mkF m pc Ls (.int y :: .int x :: rest))) := by
  subst hp
  subst hv
  refine hG _ _ (fun t ht => ?_) k
  exact XS.iand X.here hx rfl hd rfl ht
theorem g_land (hG : Cl p e below G) (X : Stand p l e R s m args below meth c T locs cells slots) (hx : p.tables.exec = Jvm.exec) {x y v : Int64} (hd : decode c.code pc = .ok (.land, 1)) (hp : pc' = pc + 1) (hv : x &&& y = v) (k : G (T.setTop (mkF m pc' Ls (.long v :: rest)))) : G (T.setTop (mkF m pc Ls (.long y :: .long x :: rest))) := by
  subst hp
  subst hv
  refine hG _ _ (fun t ht => ?_) k
  exact XS.land X.here hx rfl hd rfl ht
theorem g_ior (hG : Cl p e below G) (X : Stand p l e R s m args below meth c T locs cells slots) (hx : p.tables.exec = Jvm.exec) {x y v : Int32} (hd : decode c.code pc = .ok (.ior, 1)) (hp : pc' = pc + 1) (hv : x ||| y = v) (k : G (T.setTop (mkF m pc' Ls (.int v :: rest)))) : G (T.setTop (mkF m pc Ls (.int y :: .int x :: rest))) := by
  subst hp
  subst hv
  refine hG _ _ (fun t ht => ?_) k
  exact XS.ior X.here hx rfl hd rfl ht
theorem g_lor (hG : Cl p e below G) (X : Stand p l e R s m args below meth c T locs cells slots) (hx : p.tables.exec = Jvm.exec) {x y v : Int64} (hd : decode c.code pc = .ok (.lor, 1)) (hp : pc' = pc + 1) (hv : x ||| y = v) (k : G (T.setTop (mkF m pc' Ls (.long v :: rest)))) : G (T.setTop (mkF m pc Ls (.long y :: .long x :: rest))) := by
  subst hp
  subst hv
  refine hG _ _ (fun t ht => ?_) k
  exact XS.lor X.here hx rfl hd rfl ht
theorem g_ixor (hG : Cl p e below G) (X : Stand p l e R s m args below meth c T locs cells slots) (hx : p.tables.exec = Jvm.exec) {x y v : Int32} (hd : decode c.code pc = .ok (.ixor, 1)) (hp : pc' = pc + 1) (hv : x ^^^ y = v) (k : G (T.setTop (mkF m pc' Ls (.int v :: rest)))) : G (T.setTop (mkF m pc Ls (.int y :: .int x :: rest))) := by
  subst hp
  subst hv
  refine hG _ _ (fun t ht => ?_) k
  exact XS.ixor X.here hx rfl hd rfl ht
theorem g_lxor (hG : Cl p e below G) (X : Stand p l e R s m args below meth c T locs cells slots) (hx : p.tables.exec = Jvm.exec) {x y v : Int64} (hd : decode c.code pc = .ok (.lxor, 1)) (hp : pc' = pc + 1) (hv : x ^^^ y = v) (k : G (T.setTop (mkF m pc' Ls (.long v :: rest)))) : G (T.setTop (mkF m pc Ls (.long y :: .long x :: rest))) := by
  subst hp
  subst hv
  refine hG _ _ (fun t ht => ?_) k
  exact XS.lxor X.here hx rfl hd rfl ht
theorem g_ineg (hG : Cl p e below G) (X : Stand p l e R s m args below meth c T locs cells slots) (hx : p.tables.exec = Jvm.exec) {x v : Int32} (hd : decode c.code pc = .ok (.ineg, 1)) (hp : pc' = pc + 1) (hv : -x = v) (k : G (T.setTop (mkF m pc' Ls (.int v :: rest)))) : G (T.setTop (mkF m pc Ls (.int x :: rest))) := by
  subst hp
  subst hv
  refine hG _ _ (fun t ht => ?_) k
  exact XS.ineg X.here hx rfl hd rfl ht
theorem g_lneg (hG : Cl p e below G) (X : Stand p l e R s m args below meth c T locs cells slots) (hx : p.tables.exec = Jvm.exec) {x v : Int64} (hd : decode c.code pc = .ok (.lneg, 1)) (hp : pc' = pc + 1) (hv : -x = v) (k : G (T.setTop (mkF m pc' Ls (.long v :: rest)))) : G (T.setTop (mkF m pc Ls (.long x :: rest))) := by
  subst hp
  subst hv
  refine hG _ _ (fun t ht => ?_) k
  exact XS.lneg X.here hx rfl hd rfl ht
theorem g_i2l (hG : Cl p e below G) (X : Stand p l e R s m args below meth c T locs cells slots) (hx : p.tables.exec = Jvm.exec) {x : Int32} {v : Int64} (hd : decode c.code pc = .ok (.i2l, 1)) (hp : pc' = pc + 1) (hv : x.toInt64 = v) (k : G (T.setTop (mkF m pc' Ls (.long v :: rest)))) : G (T.setTop (mkF m pc Ls (.int x :: rest))) := by
  subst hp
  subst hv
  refine hG _ _ (fun t ht => ?_) k
  exact XS.i2l X.here hx rfl hd rfl ht
theorem g_l2i (hG : Cl p e below G) (X : Stand p l e R s m args below meth c T locs cells slots) (hx : p.tables.exec = Jvm.exec) {x : Int64} {v : Int32} (hd : decode c.code pc = .ok (.l2i, 1)) (hp : pc' = pc + 1) (hv : x.toInt32 = v) (k : G (T.setTop (mkF m pc' Ls (.int v :: rest)))) : G (T.setTop (mkF m pc Ls (.long x :: rest))) := by
  subst hp
  subst hv
  refine hG _ _ (fun t ht => ?_) k
  exact XS.l2i X.here hx rfl hd rfl ht
theorem g_i2c (hG : Cl p e below G) (X : Stand p l e R s m args below meth c T locs cells slots) (hx : p.tables.exec = Jvm.exec) {x v : Int32} (hd : decode c.code pc = .ok (.i2c, 1)) (hp : pc' = pc + 1) (hv : x.toUInt32.toUInt16.toUInt32.toInt32 = v) (k : G (T.setTop (mkF m pc' Ls (.int v :: rest)))) : G (T.setTop (mkF m pc Ls (.int x :: rest))) := by
  subst hp
  subst hv
  refine hG _ _ (fun t ht => ?_) k
  exact XS.i2c X.here hx rfl hd rfl ht
theorem g_i2b (hG : Cl p e below G) (X : Stand p l e R s m args below meth c T locs cells slots) (hx : p.tables.exec = Jvm.exec) {x v : Int32} (hd : decode c.code pc = .ok (.i2b, 1)) (hp : pc' = pc + 1) (hv : x.toInt8.toInt32 = v) (k : G (T.setTop (mkF m pc' Ls (.int v :: rest)))) : G (T.setTop (mkF m pc Ls (.int x :: rest))) := by
  subst hp
  subst hv
  refine hG _ _ (fun t ht => ?_) k
  exact XS.i2b X.here hx rfl hd rfl ht
theorem g_ishl (hG : Cl p e below G) (X : Stand p l e R s m args below meth c T locs cells slots) (hx : p.tables.exec = Jvm.exec) {x y v : Int32} (hd : decode c.code pc = .ok (.ishl, 1)) (hp : pc' = pc + 1) (hv : x <<< (y &&& 31) = v) (k : G (T.setTop (mkF m pc' Ls (.int v :: rest)))) : G (T.setTop (mkF m pc Ls (.int y :: .int x :: rest))) := by
  subst hp
  subst hv
  refine hG _ _ (fun t ht => ?_) k
  exact XS.ishl X.here hx rfl hd rfl ht
theorem g_ishr (hG : Cl p e below G) (X : Stand p l e R s m args below meth c T locs cells slots) (hx : p.tables.exec = Jvm.exec) {x y v : Int32} (hd : decode c.code pc = .ok (.ishr, 1)) (hp : pc' = pc + 1) (hv : x >>> (y &&& 31) = v) (k : G (T.setTop (mkF m pc' Ls (.int v :: rest)))) : G (T.setTop (mkF m pc Ls (.int y :: .int x :: rest))) := by
  subst hp
  subst hv
  refine hG _ _ (fun t ht => ?_) k
  exact XS.ishr X.here hx rfl hd rfl ht
theorem g_iushr (hG : Cl p e below G) (X : Stand p l e R s m args below meth c T locs cells slots) (hx : p.tables.exec = Jvm.exec) {x y v : Int32} (hd : decode c.code pc = .ok (.iushr, 1)) (hp : pc' = pc + 1) (hv : (x.toUInt32 >>> (y &&& 31).toUInt32).toInt32 = v) (k : G (T.setTop (mkF m pc' Ls (.int v :: rest)))) : G (T.setTop (mkF m pc Ls (.int y :: .int x :: rest))) := by
  subst hp
  subst hv
  refine hG _ _ (fun t ht => ?_) k
  exact XS.iushr X.here hx rfl hd rfl ht
theorem g_lshl (hG : Cl p e below G) (X : Stand p l e R s m args below meth c T locs cells slots) (hx : p.tables.exec = Jvm.exec) {x : Int64} {y : Int32} {v : Int64} (hd : decode c.code pc = .ok (.lshl, 1)) (hp : pc' = pc + 1) (hv : x <<< (y &&& 0x3f).toInt64 = v) (k : G (T.setTop (mkF m pc' Ls (.long v :: rest)))) : G (T.setTop (mkF m pc Ls (.int y :: .long x :: rest))) := by
  subst hp
  subst hv
  refine hG _ _ (fun t ht => ?_) k
  exact XS.lshl X.here hx rfl hd rfl ht
theorem g_lshr (hG : Cl p e below G) (X : Stand p l e R s m args below meth c T locs cells slots) (hx : p.tables.exec = Jvm.exec) {x : Int64} {y : Int32} {v : Int64} (hd : decode c.code pc = .ok (.lshr, 1)) (hp : pc' = pc + 1) (hv : x >>> (y &&& 0x3f).toInt64 = v) (k : G (T.setTop (mkF m pc' Ls (.long v :: rest)))) : G (T.setTop (mkF m pc Ls (.int y :: .long x :: rest))) := by
  subst hp
  subst hv
  refine hG _ _ (fun t ht => ?_) k
  exact XS.lshr X.here hx rfl hd rfl ht
theorem g_lcmp (hG : Cl p e below G) (X : Stand p l e R s m args below meth c T locs cells slots) (hx : p.tables.exec = Jvm.exec) {x y : Int64} {v : Int32} (hd : decode c.code pc = .ok (.lcmp, 1)) (hp : pc' = pc + 1) (hv : lcmpW x y = v) (k : G (T.setTop (mkF m pc' Ls (.int v :: rest)))) : G (T.setTop (mkF m pc Ls (.long y :: .long x :: rest))) := by
  subst hp
  subst hv
  refine hG _ _ (fun t ht => ?_) k
  exact XS.lcmp X.here hx rfl hd rfl ht
theorem g_irem (hG : Cl p e below G) (X : Stand p l e R s m args below meth c T locs cells slots) (hx : p.tables.exec = Jvm.exec) {x y v : Int32} (hd : decode c.code pc = .ok (.irem, 1)) (hp : pc' = pc + 1) (hy : y ≠ 0) (hv : x % y = v) (k : G (T.setTop (mkF m pc' Ls (.int v :: rest)))) : G (T.setTop (mkF m pc Ls (.int y :: .int x :: rest))) := by
  subst hp
  subst hv
  refine hG _ _ (fun t ht => ?_) k
  exact iremM X hx rfl hd rfl hy ht
theorem g_lrem (hG : Cl p e below G) (X : Stand p l e R s m args below meth c T locs cells slots) (hx : p.tables.exec = Jvm.exec) {x y v : Int64} (hd : decode c.code pc = .ok (.lrem, 1)) (hp : pc' = pc + 1) (hy : y ≠ 0) (hv : x % y = v) (k : G (T.setTop (mkF m pc' Ls (.long v :: rest)))) : G (T.setTop (mkF m pc Ls (.long y :: .long x :: rest))) := by
  subst hp hv
  rw [← lrem_mod] at k
  refine hG _ _ (fun t ht => ?_) k
  exact XS.lrem X.here hx rfl hd rfl hy ht
theorem g_idiv (hG : Cl p e below G) (X : Stand p l e R s m args below meth c T locs cells slots) (hx : p.tables.exec = Jvm.exec) {x y v : Int32} (hd : decode c.code pc = .ok (.idiv, 1)) (hp : pc' = pc + 1) (hy : y ≠ 0) (hv : x / y = v) (k : G (T.setTop (mkF m pc' Ls (.int v :: rest)))) : G (T.setTop (mkF m pc Ls (.int y :: .int x :: rest))) := by
  subst hp
  subst hv
  refine hG _ _ (fun t ht => ?_) k
  exact XS.idiv X.here hx rfl hd rfl hy ht
theorem g_dup (hG : Cl p e below G) (X : Stand p l e R s m args below meth c T locs cells slots) (hx : p.tables.exec = Jvm.exec) {x : Value} (hd : decode c.code pc = .ok (.dup, 1)) (hp : pc' = pc + 1) (hc : x.category = 1) (k : G (T.setTop (mkF m pc' Ls (x :: x :: rest)))) : G (T.setTop (mkF m pc Ls (x :: rest))) := by
  subst hp
  refine hG _ _ (fun t ht => ?_) k
  exact XS.dup X.here hx rfl hd rfl hc ht
theorem g_pop (hG : Cl p e below G) (X : Stand p l e R s m args below meth c T locs cells slots) (hx : p.tables.exec = Jvm.exec) {x : Value} (hd : decode c.code pc = .ok (.pop, 1)) (hp : pc' = pc + 1) (hc : x.category = 1) (k : G (T.setTop (mkF m pc' Ls (rest)))) : G (T.setTop (mkF m pc Ls (x :: rest))) := by
  subst hp
  refine hG _ _ (fun t ht => ?_) k
  exact XS.pop X.here hx rfl hd rfl hc ht
theorem g_dupX1 (hG : Cl p e below G) (X : Stand p l e R s m args below meth c T locs cells slots) (hx : p.tables.exec = Jvm.exec) {x y : Value} (hd : decode c.code pc = .ok (.dup_x1, 1)) (hp : pc' = pc + 1) (hc : x.category = 1) (hc' : y.category = 1) (k : G (T.setTop (mkF m pc' Ls (x :: y :: x :: rest)))) : G (T.setTop (mkF m pc Ls (x :: y :: rest))) := by
  subst hp
  refine hG _ _ (fun t ht => ?_) k
  exact XS.dupX1 X.here hx rfl hd rfl hc hc' ht
theorem g_dup2 (hG : Cl p e below G) (X : Stand p l e R s m args below meth c T locs cells slots) (hx : p.tables.exec = Jvm.exec) {x y : Value} (hd : decode c.code pc = .ok (.dup2, 1)) (hp : pc' = pc + 1) (hc : x.category = 1) (hc' : y.category = 1) (k : G (T.setTop (mkF m pc' Ls (x :: y :: x :: y :: rest)))) : G (T.setTop (mkF m pc Ls (x :: y :: rest))) := by
  subst hp
  refine hG _ _ (fun t ht => ?_) k
  exact Jvm.Free.XT.dup2 X.here hx rfl hd rfl hc hc' ht
theorem g_iinc (hG : Cl p e below G) (X : Stand p l e R s m args below meth c T locs cells slots) (hx : p.tables.exec = Jvm.exec) {i : Nat} {cst : Int} {x v : Int32} (hd : decode c.code pc = .ok (.iinc i cst, 3)) (hp : pc' = pc + 3) (hl : Ls[i]? = some (.val (.int x))) (hv : x + Int32.ofInt cst = v) (hl' : storeLocals Ls i (.int v) = some Ls') (k : G (T.setTop (mkF m pc' Ls' (rest)))) : G (T.setTop (mkF m pc Ls (rest))) := by
  subst hp
  subst hv
  refine hG _ _ (fun t ht => ?_) k
  exact XS.iinc X.here hx rfl hd hl hl' ht
theorem g_i2d (hG : Cl p e below G) (X : Stand p l e R s m args below meth c T locs cells slots) (hx : p.tables.exec = Jvm.exec) {x : Int32} {v : UInt64} (hd : decode c.code pc = .ok (.i2d, 1)) (hp : pc' = pc + 1) (hv : FP.i2d x = v) (k : G (T.setTop (mkF m pc' Ls (.double v :: rest)))) : G (T.setTop (mkF m pc Ls (.int x :: rest))) := by
  subst hp
  subst hv
  refine hG _ _ (fun t ht => ?_) k
  exact XS.i2dS X.here hx rfl hd rfl rfl ht
theorem g_l2d (hG : Cl p e below G) (X : Stand p l e R s m args below meth c T locs cells slots) (hx : p.tables.exec = Jvm.exec) {x : Int64} {v : UInt64} (hd : decode c.code pc = .ok (.l2d, 1)) (hp : pc' = pc + 1) (hv : FP.l2d x = v) (k : G (T.setTop (mkF m pc' Ls (.double v :: rest)))) : G (T.setTop (mkF m pc Ls (.long x :: rest))) := by
  subst hp
  subst hv
  refine hG _ _ (fun t ht => ?_) k
  exact XS.l2dS X.here hx rfl hd rfl rfl ht
theorem g_d2i (hG : Cl p e below G) (X : Stand p l e R s m args below meth c T locs cells slots) (hx : p.tables.exec = Jvm.exec) {x : UInt64} {v : Int32} (hd : decode c.code pc = .ok (.d2i, 1)) (hp : pc' = pc + 1) (hv : FP.d2i x = v) (k : G (T.setTop (mkF m pc' Ls (.int v :: rest)))) : G (T.setTop (mkF m pc Ls (.double x :: rest))) := by
  subst hp
  subst hv
  refine hG _ _ (fun t ht => ?_) k
  exact XS.d2iS X.here hx rfl hd rfl rfl ht
theorem g_d2l (hG : Cl p e below G) (X : Stand p l e R s m args below meth c T locs cells slots) (hx : p.tables.exec = Jvm.exec) {x : UInt64} {v : Int64} (hd : decode c.code pc = .ok (.d2l, 1)) (hp : pc' = pc + 1) (hv : FP.d2l x = v) (k : G (T.setTop (mkF m pc' Ls (.long v :: rest)))) : G (T.setTop (mkF m pc Ls (.double x :: rest))) := by
  subst hp
  subst hv
  refine hG _ _ (fun t ht => ?_) k
  exact XS.d2lS X.here hx rfl hd rfl rfl ht
theorem g_dneg (hG : Cl p e below G) (X : Stand p l e R s m args below meth c T locs cells slots) (hx : p.tables.exec = Jvm.exec) {x v : UInt64} (hd : decode c.code pc = .ok (.dneg, 1)) (hp : pc' = pc + 1) (hv : FP.dneg x = v) (k : G (T.setTop (mkF m pc' Ls (.double v :: rest)))) : G (T.setTop (mkF m pc Ls (.double x :: rest))) := by
  subst hp
  subst hv
  refine hG _ _ (fun t ht => ?_) k
  exact XS.dnegS X.here hx rfl hd rfl rfl ht
theorem g_dcmp (hG : Cl p e below G) (X : Stand p l e R s m args below meth c T locs cells slots) (hx : p.tables.exec = Jvm.exec) {x y : UInt64} {o : CmpOp} {v : Int32} (hd : decode c.code pc = .ok (.dcmp o, 1)) (hp : pc' = pc + 1) (hv : cmpValue (FP.dcmp x y) o = v) (k : G (T.setTop (mkF m pc' Ls (.int v :: rest)))) : G (T.setTop (mkF m pc Ls (.double y :: .double x :: rest))) := by
  subst hp
  subst hv
  refine hG _ _ (fun t ht => ?_) k
  exact XS.dcmpS X.here hx rfl hd rfl rfl ht
theorem g_dadd (hG : Cl p e below G) (X : Stand p l e R s m args below meth c T locs cells slots) (hx : p.tables.exec = Jvm.exec) {x y v : UInt64} (hd : decode c.code pc = .ok (.dadd, 1)) (hp : pc' = pc + 1) (hn : Jvm.Free.Fl.NoNaN64 (FP.dadd x y)) (hv : FP.dadd x y = v) (k : G (T.setTop (mkF m pc' Ls (.double v :: rest)))) : G (T.setTop (mkF m pc Ls (.double y :: .double x :: rest))) := by
  subst hp
  subst hv
  refine hG _ _ (fun t ht => ?_) k
  exact XS.daddS X.here hx rfl hd rfl hn rfl ht
theorem g_dsub (hG : Cl p e below G) (X : Stand p l e R s m args below meth c T locs cells slots) (hx : p.tables.exec = Jvm.exec) {x y v : UInt64} (hd : decode c.code pc = .ok (.dsub, 1)) (hp : pc' = pc + 1) (hn : Jvm.Free.Fl.NoNaN64 (FP.dsub x y)) (hv : FP.dsub x y = v) (k : G (T.setTop (mkF m pc' Ls (.double v :: rest)))) : G (T.setTop (mkF m pc Ls (.double y :: .double x :: rest))) := by
  subst hp
  subst hv
  refine hG _ _ (fun t ht => ?_) k
  exact XS.dsubS X.here hx rfl hd rfl hn rfl ht
theorem g_dmul (hG : Cl p e below G) (X : Stand p l e R s m args below meth c T locs cells slots) (hx : p.tables.exec = Jvm.exec) {x y v : UInt64} (hd : decode c.code pc = .ok (.dmul, 1)) (hp : pc' = pc + 1) (hn : Jvm.Free.Fl.NoNaN64 (FP.dmul x y)) (hv : FP.dmul x y = v) (k : G (T.setTop (mkF m pc' Ls (.double v :: rest)))) : G (T.setTop (mkF m pc Ls (.double y :: .double x :: rest))) := by
  subst hp
  subst hv
  refine hG _ _ (fun t ht => ?_) k
  exact XS.dmulS X.here hx rfl hd rfl hn rfl ht
theorem g_ddiv (hG : Cl p e below G) (X : Stand p l e R s m args below meth c T locs cells slots) (hx : p.tables.exec = Jvm.exec) {x y v : UInt64} (hd : decode c.code pc = .ok (.ddiv, 1)) (hp : pc' = pc + 1) (hn : Jvm.Free.Fl.NoNaN64 (FP.ddiv x y)) (hv : FP.ddiv x y = v) (k : G (T.setTop (mkF m pc' Ls (.double v :: rest)))) : G (T.setTop (mkF m pc Ls (.double y :: .double x :: rest))) := by
  subst hp
  subst hv
  refine hG _ _ (fun t ht => ?_) k
  exact XS.ddivS X.here hx rfl hd rfl hn rfl ht
theorem g_goto (hG : Cl p e below G) (X : Stand p l e R s m args below meth c T locs cells slots) (hx : p.tables.exec = Jvm.exec) {o : Int} (hd : decode c.code pc = .ok (.goto o, 3)) (ho : 0 ≤ (pc : Int) + o) (hp : ((pc : Int) + o).toNat = pc') (k : G (T.setTop (mkF m pc' Ls rest))) : G (T.setTop (mkF m pc Ls rest)) := by
  refine hG _ _ (fun t ht => ?_) k
  exact XS.goto X.here hx rfl (pc0 := pc) rfl hd ho hp ht
theorem g_ifYes (hG : Cl p e below G) (X : Stand p l e R s m args below meth c T locs cells slots) (hx : p.tables.exec = Jvm.exec) {cd : ClassFile.Cond} {x : Int32} {o : Int} (hd : decode c.code pc = .ok (.ifCond cd o, 3)) (hc : ifCond.holds cd x = true) (ho : 0 ≤ (pc : Int) + o) (hp : ((pc : Int) + o).toNat = pc') (k : G (T.setTop (mkF m pc' Ls rest))) : G (T.setTop (mkF m pc Ls (.int x :: rest))) := by
  refine hG _ _ (fun t ht => ?_) k
  exact XS.ifYes X.here hx rfl (pc0 := pc) rfl hd rfl hc ho hp ht
theorem g_ifNo (hG : Cl p e below G) (X : Stand p l e R s m args below meth c T locs cells slots) (hx : p.tables.exec = Jvm.exec) {cd : ClassFile.Cond} {x : Int32} {o : Int} (hd : decode c.code pc = .ok (.ifCond cd o, 3)) (hc : ifCond.holds cd x = false) (hp : pc' = pc + 3) (k : G (T.setTop (mkF m pc' Ls rest))) : G (T.setTop (mkF m pc Ls (.int x :: rest))) := by
  subst hp
  refine hG _ _ (fun t ht => ?_) k
  exact XS.ifNo X.here hx rfl hd rfl hc ht
theorem g_icmpYes (hG : Cl p e below G) (X : Stand p l e R s m args below meth c T locs cells slots) (hx : p.tables.exec = Jvm.exec) {cd : ClassFile.Cond} {x y : Int32} {o : Int} (hd : decode c.code pc = .ok (.if_icmp cd o, 3)) (hc : if_icmp.holds cd x y = true) (ho : 0 ≤ (pc : Int) + o) (hp : ((pc : Int) + o).toNat = pc') (k : G (T.setTop (mkF m pc' Ls rest))) : G (T.setTop (mkF m pc Ls (.int y :: .int x :: rest))) := by
  refine hG _ _ (fun t ht => ?_) k
  exact XS.icmpYes X.here hx rfl (pc0 := pc) rfl hd rfl hc ho hp ht
theorem g_icmpNo (hG : Cl p e below G) (X : Stand p l e R s m args below meth c T locs cells slots) (hx : p.tables.exec = Jvm.exec) {cd : ClassFile.Cond} {x y : Int32} {o : Int} (hd : decode c.code pc = .ok (.if_icmp cd o, 3)) (hc : if_icmp.holds cd x y = false) (hp : pc' = pc + 3) (k : G (T.setTop (mkF m pc' Ls rest))) : G (T.setTop (mkF m pc Ls (.int y :: .int x :: rest))) := by
  subst hp
  refine hG _ _ (fun t ht => ?_) k
  exact XS.icmpNo X.here hx rfl hd rfl hc ht
theorem g_ifnullYes (hG : Cl p e below G) (X : Stand p l e R s m args below meth c T locs cells slots) (hx : p.tables.exec = Jvm.exec) {o : Int} (hd : decode c.code pc = .ok (.ifnull o, 3)) (ho : 0 ≤ (pc : Int) + o) (hp : ((pc : Int) + o).toNat = pc') (k : G (T.setTop (mkF m pc' Ls rest))) : G (T.setTop (mkF m pc Ls (.null :: rest))) := by
  refine hG _ _ (fun t ht => ?_) k
  exact XS.ifnullYes X.here hx rfl (pc0 := pc) rfl hd rfl ho hp ht
theorem g_ifnullNo (hG : Cl p e below G) (X : Stand p l e R s m args below meth c T locs cells slots) (hx : p.tables.exec = Jvm.exec) {o : Int} {b : Addr} (hd : decode c.code pc = .ok (.ifnull o, 3)) (hp : pc' = pc + 3) (k : G (T.setTop (mkF m pc' Ls rest))) : G (T.setTop (mkF m pc Ls (.ref b :: rest))) := by
  subst hp
  refine hG _ _ (fun t ht => ?_) k
  exact XS.ifnullNo X.here hx rfl hd rfl ht
theorem g_ifnonnullYes (hG : Cl p e below G) (X : Stand p l e R s m args below meth c T locs cells slots) (hx : p.tables.exec = Jvm.exec) {o : Int} {b : Addr} (hd : decode c.code pc = .ok (.ifnonnull o, 3)) (ho : 0 ≤ (pc : Int) + o) (hp : ((pc : Int) + o).toNat = pc') (k : G (T.setTop (mkF m pc' Ls rest))) : G (T.setTop (mkF m pc Ls (.ref b :: rest))) := by
  refine hG _ _ (fun t ht => ?_) k
  exact XS.ifnonnullYes X.here hx rfl (pc0 := pc) rfl hd rfl ho hp ht
theorem g_ifnonnullNo (hG : Cl p e below G) (X : Stand p l e R s m args below meth c T locs cells slots) (hx : p.tables.exec = Jvm.exec) {o : Int} (hd : decode c.code pc = .ok (.ifnonnull o, 3)) (hp : pc' = pc + 3) (k : G (T.setTop (mkF m pc' Ls rest))) : G (T.setTop (mkF m pc Ls (.null :: rest))) := by
  subst hp
  refine hG _ _ (fun t ht => ?_) k
  exact XS.ifnonnullNo X.here hx rfl hd rfl ht
theorem g_acmp (hG : Cl p e below G) (X : Stand p l e R s m args below meth c T locs cells slots) (hx : p.tables.exec = Jvm.exec) {cd : ACond} {x y : Value} (h1 : x.isRef = true) (h2 : y.isRef = true) {o : Int} {same : Bool} (hd : decode c.code pc = .ok (.if_acmp cd o, 3)) (hq : decide (x = y) = same) (ho : 0 ≤ (pc : Int) + o) (hp : pc' = if acV cd same = true then ((pc : Int) + o).toNat else pc + 3) (k : G (T.setTop (mkF m pc' Ls rest))) : G (T.setTop (mkF m pc Ls (y :: x :: rest))) := by
  refine hG _ _ (fun t ht => ?_) k
  exact Jvm.RoadKit.acmp (g := mkF m pc Ls (y :: x :: rest)) X hx rfl h1 h2 (pc0 := pc) rfl hd rfl hq ho hp ht
/-! constants -/
theorem g_ldcInt (hG : Cl p e below G) (X : Stand p l e R s m args below meth c T locs cells slots) (hx : p.tables.exec = Jvm.exec) (hZ : Z.Warmed39 s.vm) {own : String} {index : Nat} {v : Int32} (hown : s.vm.findClass own = some m.cls) (w : (Jvm.Cond.constant own index v).before a0 Z = true) (hd : decode c.code pc = .ok (.ldc index, 2)) (hp : pc' = pc + 2) (k : G (T.setTop (mkF m pc' Ls (.int v :: rest)))) : G (T.setTop (mkF m pc Ls rest)) := by
  subst hp
  refine hG _ _ (fun t ht => ?_) k
  exact X.ldcInt hx hown (mvT hZ w) (g := mkF m pc Ls rest) rfl hd t ht
theorem g_ldcLong (hG : Cl p e below G) (X : Stand p l e R s m args below meth c T locs cells slots) (hx : p.tables.exec = Jvm.exec) (hZ : Z.Warmed39 s.vm) {own : String} {index : Nat} {v : Int64} (hown : s.vm.findClass own = some m.cls) (w : (Jvm.Cond.constantLong own index v).before a0 Z = true) (hd : decode c.code pc = .ok (.ldc2_w index, 3)) (hp : pc' = pc + 3) (k : G (T.setTop (mkF m pc' Ls (.long v :: rest)))) : G (T.setTop (mkF m pc Ls rest)) := by
  subst hp
  refine hG _ _ (fun t ht => ?_) k
  exact X.ldc2Long hx hown (mvT hZ w) (g := mkF m pc Ls rest) rfl hd t ht
theorem g_ldcDouble (hG : Cl p e below G) (X : Stand p l e R s m args below meth c T locs cells slots) (hx : p.tables.exec = Jvm.exec) (hZ : Z.Warmed39 s.vm) {own : String} {index : Nat} {v : UInt64} (hown : s.vm.findClass own = some m.cls) (w : (Jvm.Cond.constantDouble own index v).before a0 Z = true) (hd : decode c.code pc = .ok (.ldc2_w index, 3)) (hp : pc' = pc + 3) (k : G (T.setTop (mkF m pc' Ls (.double v :: rest)))) : G (T.setTop (mkF m pc Ls rest)) := by
  subst hp
  refine hG _ _ (fun t ht => ?_) k
  exact X.ldc2DoubleC hx hown (mvT hZ w) (g := mkF m pc Ls rest) rfl hd t ht
/-! fields -/
theorem g_getF (hG : Cl p e below G) (X : Stand p l e R s m args below meth c T locs cells slots) (hx : p.tables.exec = Jvm.exec) (hZ : Z.Warmed39 s.vm) {own R0 O n d : String} {index : Nat} (hown : s.vm.findClass own = some m.cls) (w : (Jvm.Cond.fieldLink own index R0 n d).before a0 Z = true) (via : Via Z R0 O n d) (eT : T.heap = h) {a : Addr} {v : Value} (F : Fld Z h a O n d v) (hd : decode c.code pc = .ok (.getfield index, 3)) (hp : pc' = pc + 3)
    (k : ∀ T', Stand p l e R s m args below meth c T' locs cells slots → T'.heap = h → G (T'.setTop (mkF m pc' Ls (v :: rest)))) : G (T.setTop (mkF m pc Ls (.ref a :: rest))) := by
  subst hp
  obtain ⟨T', X', e', st⟩ := getF X hx hZ hown (host := "") (Or.inl w) via eT F (g := mkF m pc Ls (.ref a :: rest)) rfl rfl hd
  exact hG _ _ st (k T' X' e')
theorem g_putF (hG : Cl p e below G) (X : Stand p l e R s m args below meth c T locs cells slots) (hx : p.tables.exec = Jvm.exec) (hZ : Z.Warmed39 s.vm) {own R0 O n d C : String} {index kk : Nat} {ty : FieldType} (hown : s.vm.findClass own = some m.cls) (w : (Jvm.Cond.fieldLink own index R0 n d).before a0 Z = true) (via : Via Z R0 O n d) (eT : T.heap = h) {a : Addr} {v v' old : Value} (F : Fld Z h a O n d old) (E : Exa Z h a C)
    (L : (Jvm.Cond.lays C O n d).before a0 Z = true ∨ ((Jvm.Cond.laysFinal C O n d).before a0 Z = true ∧ own = O ∧ meth.name = "<init>")) (wi : (Jvm.Cond.instantiable C kk).before a0 Z = true) (hty : parseFieldDescriptor d = some ty) (hn : narrow ty v = v') (hf : fits ty v' = true) (hd : decode c.code pc = .ok (.putfield index, 3)) (hp : pc' = pc + 3)
    (k : ∀ T' h', Stand p l e R s m args below meth c T' (locs ++ [⟨a, Jvm.RoadKit.slotOf Z O n d⟩]) cells slots → T'.heap = h' → Wr h h' a (Jvm.RoadKit.slotOf Z O n d) v' → G (T'.setTop (mkF m pc' Ls rest))) : G (T.setTop (mkF m pc Ls (v :: .ref a :: rest))) := by
  subst hp
  obtain ⟨T', h', X', e', W, st⟩ := putFN X hx hZ hown w via eT F E L wi hty hn hf (g := mkF m pc Ls (v :: .ref a :: rest)) rfl rfl hd
  exact hG _ _ st (k T' h' X' e' W)
theorem g_newO (hG : Cl p e below G) (X : Stand p l e R s m args below meth c T locs cells slots) (hx : p.tables.exec = Jvm.exec) (hZ : Z.Warmed39 s.vm) {own C : String} {index n : Nat} (hown : s.vm.findClass own = some m.cls) (w : (Jvm.Cond.classLink own index C).before a0 Z = true) (wi : (Jvm.Cond.instantiable C n).before a0 Z = true) (wz : (Jvm.Cond.initialized C).before a0 Z = true) (eT : T.heap = h) (hd : decode c.code pc = .ok (.new index, 3)) (hc : cells + 1 ≤ R.cells) (hl : slots + n ≤ R.slots) (hp : pc' = pc + 3)
    (k : ∀ T' h' b, b = h.size → Stand p l e R s m args below meth c T' locs (cells + 1) (slots + n) → T'.heap = h' → Ext h h' → Exa Z h' b C → (∀ {O nm d : String} {ty : FieldType}, Laid Z a0 C O nm d → parseFieldDescriptor d = some ty → Fld Z h' b O nm d (defaultValue ty)) → G (T'.setTop (mkF m pc' Ls (.ref b :: rest)))) : G (T.setTop (mkF m pc Ls rest)) := by
  subst hp
  obtain ⟨T', h', X', e', E, A, D, -, st⟩ := newO X hx hZ hown w wi wz eT (g := mkF m pc Ls rest) rfl hd hc hl
  exact hG _ _ st (k T' h' _ rfl X' e' E A D)
theorem g_initO (hG : Cl p e below G) (X : Stand p l e R s m args below meth c T locs cells slots) (hx : p.tables.exec = Jvm.exec) (hZ : Z.Warmed39 s.vm) {own : String} {index : Nat} (hown : s.vm.findClass own = some m.cls) (w1 : (Jvm.Cond.methodLink own index Lib.objectInit).before a0 Z = true) (w2 : (Jvm.Cond.instanceMethod Lib.objectInit).before a0 Z = true) (w3 : (Jvm.Cond.code Lib.objectInit ⟨#[0xb1]⟩ 1 none).before a0 Z = true) (eT : T.heap = h) {a : Addr}
    (hsz : Ls.size = c.maxLocals) (hd : decode c.code pc = .ok (.invokespecial index, 3)) (hfr : 1 ≤ R.frames) (hlo : (rest.map fun v => v.category).sum + 12 ≤ R.locals) (hp : pc' = pc + 3)
    (k : ∀ T', Stand p l e R s m args below meth c T' locs cells slots → T'.heap = h → G (T'.setTop (mkF m pc' Ls rest))) : G (T.setTop (mkF m pc Ls (.ref a :: rest))) := by
  subst hp
  obtain ⟨T', X', e', st⟩ := initO X hx hZ hown w1 w2 w3 eT (g := mkF m pc Ls (.ref a :: rest)) rfl hsz rfl hd hfr (W := (rest.map fun v => v.category).sum) (by show 2 * 0 + _ ≤ _; omega) hlo
  exact hG _ _ st (k T' X' e')
/-! arrays -/
theorem g_newP (hG : Cl p e below G) (X : Stand p l e R s m args below meth c T locs cells slots) (hx : p.tables.exec = Jvm.exec) (hZ : Z.Warmed39 s.vm) {aty : ArrayType} (w : (Jvm.Cond.arrayClass (newarray.typeOf aty)).before a0 Z = true) (eT : T.heap = h) {n : Int32} (hd : decode c.code pc = .ok (.newarray aty, 2)) (hn : ¬ n < 0) (cap : Nat) (hcap : n.toNatClampNeg ≤ cap) (hb : cap * 8 ≤ 536870912) (hc : cells + 1 ≤ R.cells) (hl : slots + cap ≤ R.slots) (hp : pc' = pc + 2)
    (k : ∀ T' h' b kA, b = h.size → Stand p l e R s m args below meth c T' locs (cells + 1) (slots + cap) → T'.heap = h' → Ext h h' → Arv Z h' b kA (newarray.typeOf aty) n [] (defaultValue (newarray.typeOf aty)) → G (T'.setTop (mkF m pc' Ls (.ref b :: rest)))) : G (T.setTop (mkF m pc Ls (.int n :: rest))) := by
  subst hp
  obtain ⟨T', h', kA, X', e', E, A, st⟩ := newP X hx hZ w eT (g := mkF m pc Ls (.int n :: rest)) rfl hd rfl hn hcap hb hc hl
  exact hG _ _ st (k T' h' _ kA rfl X' e' E (Arv.new A hn))

/-! arrays, with all that they hold -/
def AV (Z : State) (h : Heap) (a : Addr) (ty : FieldType) (n : Int32) (vs : List Value) : Prop := ∃ k, Arv Z h a k ty n vs (defaultValue ty) ∧ vs.length = n.toNatClampNeg
theorem AV.lt {a : Addr} {ty : FieldType} {n : Int32} {vs : List Value} (A : AV Z h a ty n vs) : a < h.size := by obtain ⟨k, A, -⟩ := A; exact A.lt
theorem AV.ext {h' : Heap} {a : Addr} {ty : FieldType} {n : Int32} {vs : List Value} (A : AV Z h a ty n vs) (E : Ext h h') : AV Z h' a ty n vs := by obtain ⟨k, A, q⟩ := A; exact ⟨k, A.ext E, q⟩
theorem AV.other {h' : Heap} {a b : Addr} {sl : Nat} {v : Value} {ty : FieldType} {n : Int32} {vs : List Value} (A : AV Z h a ty n vs) (W : Wr h h' b sl v) (q : a ≠ b) : AV Z h' a ty n vs := by obtain ⟨k, A, r⟩ := A; exact ⟨k, A.other W q, r⟩
theorem AV.keep {h' : Heap} {a : Addr} {ws : List Addr} {ty : FieldType} {n : Int32} {vs : List Value} (A : AV Z h a ty n vs) (K : Keep h h' ws) (q : a ∉ ws) : AV Z h' a ty n vs := by obtain ⟨k, A, r⟩ := A; exact ⟨k, A.keep K q, r⟩
theorem AV.new {a : Addr} {k : ClassId} {ty : FieldType} {n : Int32} (A : Arv Z h a k ty n [] (defaultValue ty)) : AV Z h a ty n (List.replicate n.toNatClampNeg (defaultValue ty)) := ⟨k, A.pad (fun i => by have q := pad_rep [] (defaultValue ty) n.toNatClampNeg i; simpa using q), by simp⟩
theorem AV.at {a : Addr} {ty : FieldType} {n : Int32} {vs : List Value} (A : AV Z h a ty n vs) {j : Int32} {v : Value} (hj : ¬ j < 0) (hv : vs[j.toNatClampNeg]? = some v) :
    ∃ c, Arr Z h a c ty ∧ ¬ (j < 0 ∨ c.slots.size ≤ j.toNatClampNeg) ∧ c.slots[j.toNatClampNeg]? = some v := by
  obtain ⟨k, ⟨c, A, q1, S, q3, H, Gf⟩, q⟩ := A
  have hl : j.toNatClampNeg < vs.length := (List.getElem?_eq_some_iff.mp hv).1
  have hin : ¬ (j < 0 ∨ c.slots.size ≤ j.toNatClampNeg) := fun z => z.elim hj (fun y => by omega)
  refine ⟨c, A, hin, Has.at H hin ?_⟩
  simp [List.getD, hv]
theorem AV.set {h' : Heap} {a : Addr} {ty : FieldType} {n : Int32} {vs : List Value} (A : AV Z h a ty n vs) {j : Int32} {v : Value} (W : Wr h h' a j.toNatClampNeg v) (hv : fits ty v = true) (hl : j.toNatClampNeg < vs.length) : AV Z h' a ty n (vs.set j.toNatClampNeg v) := by
  obtain ⟨k, ⟨c, A, q1, S, q3, H, Gf⟩, q⟩ := A
  exact ⟨k, Arv.set A q1 S q3 H Gf hv W _ rfl hl, by simpa using q⟩
theorem AV.inb {a : Addr} {ty : FieldType} {n : Int32} {vs : List Value} (A : AV Z h a ty n vs) {j : Int32} (hj : ¬ j < 0) (hl : j.toNatClampNeg < vs.length) : ∃ c, Arr Z h a c ty ∧ ¬ (j < 0 ∨ c.slots.size ≤ j.toNatClampNeg) := by
  obtain ⟨k, ⟨c, A, q1, S, q3, H, Gf⟩, q⟩ := A
  exact ⟨c, A, fun z => z.elim hj (fun y => by omega)⟩
theorem g_iaload (hG : Cl p e below G) (X : Stand p l e R s m args below meth c T locs cells slots) (hx : p.tables.exec = Jvm.exec) (hZ : Z.Warmed39 s.vm) (eT : T.heap = h) {a : Addr} {n : Int32} {vs : List Value} (A : AV Z h a .int n vs) {j : Int32} {v : Value} (hj : ¬ j < 0) (hv : vs[j.toNatClampNeg]? = some v) (hd : decode c.code pc = .ok (.iaload, 1)) (hp : pc' = pc + 1) (k : G (T.setTop (mkF m pc' Ls (v :: rest)))) : G (T.setTop (mkF m pc Ls (.int j :: .ref a :: rest))) := by
  subst hp
  obtain ⟨cl, Ar, hin, hat⟩ := A.at hj hv
  refine hG _ _ (fun t ht => ?_) k
  exact X.iaload hx (by rw [eT]; exact Ar.1) (State.isArrayOf_alike hZ.alike Ar.2.1) Ar.2.2 hin hat (g := mkF m pc Ls (.int j :: .ref a :: rest)) rfl rfl hd t ht
theorem g_daload (hG : Cl p e below G) (X : Stand p l e R s m args below meth c T locs cells slots) (hx : p.tables.exec = Jvm.exec) (hZ : Z.Warmed39 s.vm) (eT : T.heap = h) {a : Addr} {n : Int32} {vs : List Value} (A : AV Z h a .double n vs) {j : Int32} {v : Value} (hj : ¬ j < 0) (hv : vs[j.toNatClampNeg]? = some v) (hd : decode c.code pc = .ok (.daload, 1)) (hp : pc' = pc + 1) (k : G (T.setTop (mkF m pc' Ls (v :: rest)))) : G (T.setTop (mkF m pc Ls (.int j :: .ref a :: rest))) := by
  subst hp
  obtain ⟨cl, Ar, hin, hat⟩ := A.at hj hv
  refine hG _ _ (fun t ht => ?_) k
  exact X.daload hx (by rw [eT]; exact Ar.1) (State.isArrayOf_alike hZ.alike Ar.2.1) Ar.2.2 hin hat (g := mkF m pc Ls (.int j :: .ref a :: rest)) rfl rfl hd t ht
theorem g_laload (hG : Cl p e below G) (X : Stand p l e R s m args below meth c T locs cells slots) (hx : p.tables.exec = Jvm.exec) (hZ : Z.Warmed39 s.vm) (eT : T.heap = h) {a : Addr} {n : Int32} {vs : List Value} (A : AV Z h a .long n vs) {j : Int32} {v : Value} (hj : ¬ j < 0) (hv : vs[j.toNatClampNeg]? = some v) (hd : decode c.code pc = .ok (.laload, 1)) (hp : pc' = pc + 1) (k : G (T.setTop (mkF m pc' Ls (v :: rest)))) : G (T.setTop (mkF m pc Ls (.int j :: .ref a :: rest))) := by
  subst hp
  obtain ⟨cl, Ar, hin, hat⟩ := A.at hj hv
  refine hG _ _ (fun t ht => ?_) k
  exact X.laload hx (by rw [eT]; exact Ar.1) (State.isArrayOf_alike hZ.alike Ar.2.1) Ar.2.2 hin hat (g := mkF m pc Ls (.int j :: .ref a :: rest)) rfl rfl hd t ht
theorem g_zaload (hG : Cl p e below G) (X : Stand p l e R s m args below meth c T locs cells slots) (hx : p.tables.exec = Jvm.exec) (hZ : Z.Warmed39 s.vm) (eT : T.heap = h) {a : Addr} {n : Int32} {vs : List Value} (A : AV Z h a .boolean n vs) {j : Int32} {v : Value} (hj : ¬ j < 0) (hv : vs[j.toNatClampNeg]? = some v) (hd : decode c.code pc = .ok (.baload, 1)) (hp : pc' = pc + 1) (k : G (T.setTop (mkF m pc' Ls (v :: rest)))) : G (T.setTop (mkF m pc Ls (.int j :: .ref a :: rest))) := by
  subst hp
  obtain ⟨cl, Ar, hin, hat⟩ := A.at hj hv
  refine hG _ _ (fun t ht => ?_) k
  exact X.baloadBooleans hx (by rw [eT]; exact Ar.1) (State.isArrayOf_alike hZ.alike Ar.2.1) Ar.2.2 hin hat (g := mkF m pc Ls (.int j :: .ref a :: rest)) rfl rfl hd t ht
theorem g_iastore (hG : Cl p e below G) (X : Stand p l e R s m args below meth c T locs cells slots) (hx : p.tables.exec = Jvm.exec) (hZ : Z.Warmed39 s.vm) (eT : T.heap = h) {a : Addr} {n : Int32} {vs : List Value} (A : AV Z h a .int n vs) {j : Int32} {x : Int32} (hj : ¬ j < 0) (hl : j.toNatClampNeg < vs.length) (hd : decode c.code pc = .ok (.iastore, 1)) (hp : pc' = pc + 1)
    (k : ∀ T' h', Stand p l e R s m args below meth c T' (locs ++ [⟨a, j.toNatClampNeg⟩]) cells slots → T'.heap = h' → Wr h h' a j.toNatClampNeg (.int x) → AV Z h' a .int n (vs.set j.toNatClampNeg (.int x)) → G (T'.setTop (mkF m pc' Ls rest))) : G (T.setTop (mkF m pc Ls (.int x :: .int j :: .ref a :: rest))) := by
  subst hp
  obtain ⟨cl, Ar, hin⟩ := A.inb hj hl
  obtain ⟨T', h', X', e', W, st⟩ := stI X hx hZ eT Ar hin (g := mkF m pc Ls (.int x :: .int j :: .ref a :: rest)) rfl rfl hd
  exact hG _ _ st (k T' h' X' e' W (A.set W rfl hl))
theorem g_dastore (hG : Cl p e below G) (X : Stand p l e R s m args below meth c T locs cells slots) (hx : p.tables.exec = Jvm.exec) (hZ : Z.Warmed39 s.vm) (eT : T.heap = h) {a : Addr} {n : Int32} {vs : List Value} (A : AV Z h a .double n vs) {j : Int32} {x : UInt64} (hj : ¬ j < 0) (hl : j.toNatClampNeg < vs.length) (hd : decode c.code pc = .ok (.dastore, 1)) (hp : pc' = pc + 1)
    (k : ∀ T' h', Stand p l e R s m args below meth c T' (locs ++ [⟨a, j.toNatClampNeg⟩]) cells slots → T'.heap = h' → Wr h h' a j.toNatClampNeg (.double x) → AV Z h' a .double n (vs.set j.toNatClampNeg (.double x)) → G (T'.setTop (mkF m pc' Ls rest))) : G (T.setTop (mkF m pc Ls (.double x :: .int j :: .ref a :: rest))) := by
  subst hp
  obtain ⟨cl, Ar, hin⟩ := A.inb hj hl
  obtain ⟨T', h', X', e', W, st⟩ := stD X hx hZ eT Ar hin (g := mkF m pc Ls (.double x :: .int j :: .ref a :: rest)) rfl rfl hd
  exact hG _ _ st (k T' h' X' e' W (A.set W rfl hl))
theorem g_lastore (hG : Cl p e below G) (X : Stand p l e R s m args below meth c T locs cells slots) (hx : p.tables.exec = Jvm.exec) (hZ : Z.Warmed39 s.vm) (eT : T.heap = h) {a : Addr} {n : Int32} {vs : List Value} (A : AV Z h a .long n vs) {j : Int32} {x : Int64} (hj : ¬ j < 0) (hl : j.toNatClampNeg < vs.length) (hd : decode c.code pc = .ok (.lastore, 1)) (hp : pc' = pc + 1)
    (k : ∀ T' h', Stand p l e R s m args below meth c T' (locs ++ [⟨a, j.toNatClampNeg⟩]) cells slots → T'.heap = h' → Wr h h' a j.toNatClampNeg (.long x) → AV Z h' a .long n (vs.set j.toNatClampNeg (.long x)) → G (T'.setTop (mkF m pc' Ls rest))) : G (T.setTop (mkF m pc Ls (.long x :: .int j :: .ref a :: rest))) := by
  subst hp
  obtain ⟨cl, Ar, hin⟩ := A.inb hj hl
  obtain ⟨T', h', X', e', W, st⟩ := stJ X hx hZ eT Ar hin (g := mkF m pc Ls (.long x :: .int j :: .ref a :: rest)) rfl rfl hd
  exact hG _ _ st (k T' h' X' e' W (A.set W rfl hl))
theorem g_zastore (hG : Cl p e below G) (X : Stand p l e R s m args below meth c T locs cells slots) (hx : p.tables.exec = Jvm.exec) (hZ : Z.Warmed39 s.vm) (eT : T.heap = h) {a : Addr} {n : Int32} {vs : List Value} (A : AV Z h a .boolean n vs) {j : Int32} {x : Int32} (hj : ¬ j < 0) (hl : j.toNatClampNeg < vs.length) (hd : decode c.code pc = .ok (.bastore, 1)) (hp : pc' = pc + 1)
    (k : ∀ T' h', Stand p l e R s m args below meth c T' (locs ++ [⟨a, j.toNatClampNeg⟩]) cells slots → T'.heap = h' → Wr h h' a j.toNatClampNeg (.int (nar .boolean x)) → AV Z h' a .boolean n (vs.set j.toNatClampNeg (.int (nar .boolean x))) → G (T'.setTop (mkF m pc' Ls rest))) : G (T.setTop (mkF m pc Ls (.int x :: .int j :: .ref a :: rest))) := by
  subst hp
  obtain ⟨cl, Ar, hin⟩ := A.inb hj hl
  obtain ⟨T', h', X', e', W, st⟩ := stZ X hx hZ eT Ar hin (g := mkF m pc Ls (.int x :: .int j :: .ref a :: rest)) rfl rfl hd
  exact hG _ _ st (k T' h' X' e' W (A.set W (fits_nar_bool _) hl))
theorem g_bbastore (hG : Cl p e below G) (X : Stand p l e R s m args below meth c T locs cells slots) (hx : p.tables.exec = Jvm.exec) (hZ : Z.Warmed39 s.vm) (eT : T.heap = h) {a : Addr} {n : Int32} {vs : List Value} (A : AV Z h a .byte n vs) {j : Int32} {x : Int32} (hj : ¬ j < 0) (hl : j.toNatClampNeg < vs.length) (hd : decode c.code pc = .ok (.bastore, 1)) (hp : pc' = pc + 1)
    (k : ∀ T' h', Stand p l e R s m args below meth c T' (locs ++ [⟨a, j.toNatClampNeg⟩]) cells slots → T'.heap = h' → Wr h h' a j.toNatClampNeg (.int x.toInt8.toInt32) → AV Z h' a .byte n (vs.set j.toNatClampNeg (.int x.toInt8.toInt32)) → G (T'.setTop (mkF m pc' Ls rest))) : G (T.setTop (mkF m pc Ls (.int x :: .int j :: .ref a :: rest))) := by
  subst hp
  obtain ⟨cl, Ar, hin⟩ := A.inb hj hl
  obtain ⟨T', h', X', e', W, st⟩ := stB X hx hZ eT Ar hin (g := mkF m pc Ls (.int x :: .int j :: .ref a :: rest)) rfl rfl hd
  exact hG _ _ st (k T' h' X' e' W (A.set W (fits_nar_byte _) hl))
theorem g_arraylength (hG : Cl p e below G) (X : Stand p l e R s m args below meth c T locs cells slots) (hx : p.tables.exec = Jvm.exec) (hZ : Z.Warmed39 s.vm) (eT : T.heap = h) {a : Addr} {ty : FieldType} {n : Int32} {vs : List Value} (A : AV Z h a ty n vs) (hd : decode c.code pc = .ok (.arraylength, 1)) (hp : pc' = pc + 1) (k : G (T.setTop (mkF m pc' Ls (.int n :: rest)))) : G (T.setTop (mkF m pc Ls (.ref a :: rest))) := by
  subst hp
  obtain ⟨kA, ⟨cl, Ar, q1, S, q3, H, Gf⟩, q⟩ := A
  rw [← len_of S q3] at k
  refine hG _ _ (fun t ht => ?_) k
  exact X.arraylength hx (by rw [eT]; exact Ar.1) (State.isArrayOf_alike hZ.alike Ar.2.1) (g := mkF m pc Ls (.ref a :: rest)) rfl rfl hd t ht
/-! calls by a contract -/
theorem g_callS (hG : Cl p e below G) (X : Stand p l e R s m args below meth c T locs cells slots) (hx : p.tables.exec = Jvm.exec) (hZ : Z.Warmed39 s.vm) {own : String} {index : Nat} {y : MethodName} {bytes : ByteArray} {maxL : Nat} {ret : Option FieldType} {rm : Room} {as : Array Value} {Qc : Option Value → Heap → List Loc → Prop} {argsL stack : List Value} {ps : List FieldType} {rt : Option FieldType} (W : Nat)
    (hown : s.vm.findClass own = some m.cls) (w1 : (Jvm.Cond.methodLink own index y).before a0 Z = true) (w2 : (Jvm.Cond.static y).before a0 Z = true) (w3 : (Jvm.Cond.initialized y.cls).before a0 Z = true) (w4 : (Jvm.Cond.code y bytes maxL ret).before a0 Z = true) (hy : y.cls ≠ "java/lang/invoke/MethodHandle" ∧ y.cls ≠ "java/lang/invoke/VarHandle")
    (hM : Con l y bytes maxL ret [] rm Z as h rm.cells rm.slots Qc) (hfr : rm.frames + 1 ≤ R.frames) (hlo : W + (maxL + 11) + rm.locals ≤ R.locals) (hsz : Ls.size = c.maxLocals) (hpd : parseMethodDescriptor y.desc = some ⟨ps, rt⟩) (hln : argsL.length = ps.length) (hst : stack = argsL.reverse ++ rest) (has : argsL.toArray = as) (hW : (rest.map fun v => v.category).sum ≤ W)
    (hd : decode c.code pc = .ok (.invokestatic index, 3)) (eT : T.heap = h) (hc : cells + rm.cells ≤ R.cells) (hs : slots + rm.slots ≤ R.slots) (hp : pc' = pc + 3)
    (k : ∀ T' v L', Stand p l e R s m args below meth c T' (locs ++ L') (cells + rm.cells) (slots + rm.slots) → Qc v T'.heap L' → G (T'.setTop (mkF m pc' Ls (v.toList ++ rest)))) : G (T.setTop (mkF m pc Ls stack)) := by
  subst hp hst has
  obtain ⟨v, _, ⟨T1, L1, k1, n1⟩, -, X1, ⟨Lc, hQ, l1, y1, z1⟩, st⟩ := Jvm.LawKit.callS X hx (y := y) hown (mvT hZ w1) (mvT hZ w2) (mvT hZ w3) (mvT hZ w4) hy (backOf (W := W) hM hZ w4 w3 hfr hlo) (g := mkF m pc Ls (argsL.reverse ++ rest)) rfl hsz (argsL := argsL) (rest := rest) (lenOf hpd hln) rfl (by show 2 * 0 + _ ≤ _; omega) hd (fun _ _ => ⟨rfl, eT, hc, hs⟩)
  dsimp only [Pt.U, Pt.locs, Pt.cells, Pt.slots] at X1 l1 y1 z1 st hQ
  subst l1 y1 z1
  exact hG _ _ st (k T1 v Lc X1 hQ)
theorem g_callI (hG : Cl p e below G) (X : Stand p l e R s m args below meth c T locs cells slots) (hx : p.tables.exec = Jvm.exec) (hZ : Z.Warmed39 s.vm) {own : String} {index : Nat} {y : MethodName} {bytes : ByteArray} {maxL : Nat} {rm : Room} {as : Array Value} {Qc : Option Value → Heap → List Loc → Prop} {a : Addr} {argsL stack : List Value} {ps : List FieldType} {rt : Option FieldType} (W : Nat)
    (hy1 : y.name = "<init>") (hown : s.vm.findClass own = some m.cls) (w1 : (Jvm.Cond.methodLink own index y).before a0 Z = true) (w2 : (Jvm.Cond.instanceMethod y).before a0 Z = true) (w3 : (Jvm.Cond.initialized y.cls).before a0 Z = true) (w4 : (Jvm.Cond.code y bytes maxL none).before a0 Z = true) (hy : y.cls ≠ "java/lang/invoke/MethodHandle" ∧ y.cls ≠ "java/lang/invoke/VarHandle")
    (hM : Con l y bytes maxL none [] rm Z as h rm.cells rm.slots Qc) (hfr : rm.frames + 1 ≤ R.frames) (hlo : W + (maxL + 11) + rm.locals ≤ R.locals) (hsz : Ls.size = c.maxLocals) (hpd : parseMethodDescriptor y.desc = some ⟨ps, rt⟩) (hln : argsL.length = ps.length) (hst : stack = argsL.reverse ++ .ref a :: rest) (has : (.ref a :: argsL).toArray = as) (hW : (rest.map fun v => v.category).sum ≤ W)
    (hd : decode c.code pc = .ok (.invokespecial index, 3)) (eT : T.heap = h) (hc : cells + rm.cells ≤ R.cells) (hs : slots + rm.slots ≤ R.slots) (hp : pc' = pc + 3)
    (k : ∀ T' v L', Stand p l e R s m args below meth c T' (locs ++ L') (cells + rm.cells) (slots + rm.slots) → Qc v T'.heap L' → G (T'.setTop (mkF m pc' Ls (v.toList ++ rest)))) : G (T.setTop (mkF m pc Ls stack)) := by
  subst hp hst has
  obtain ⟨v, _, ⟨T1, L1, k1, n1⟩, -, X1, ⟨Lc, hQ, l1, y1, z1⟩, st⟩ := X.specialBack hx (y := y) hy1 hown (mvT hZ w1) (mvT hZ w2) (mvT hZ w4) hy (backOf (W := W) hM hZ w4 w3 hfr hlo) (g := mkF m pc Ls (argsL.reverse ++ .ref a :: rest)) rfl hsz (Steps.refl _) (a := a) (argsL := argsL) (rest := rest) (lenOf hpd hln) rfl (by show 2 * 0 + _ ≤ _; omega) hd (fun _ _ => ⟨rfl, eT, hc, hs⟩)
  dsimp only [Pt.U, Pt.locs, Pt.cells, Pt.slots] at X1 l1 y1 z1 st hQ
  subst l1 y1 z1
  exact hG _ _ (fun t ht => st.trans ht) (k T1 v Lc X1 hQ)
theorem g_callV (hG : Cl p e below G) (X : Stand p l e R s m args below meth c T locs cells slots) (hx : p.tables.exec = Jvm.exec) (hZ : Z.Warmed39 s.vm) {own C : String} {index : Nat} {y : MethodName} {bytes : ByteArray} {maxL : Nat} {ret : Option FieldType} {rm : Room} {as : Array Value} {Qc : Option Value → Heap → List Loc → Prop} {a : Addr} {argsL stack : List Value} {ps : List FieldType} {rt : Option FieldType} (W : Nat)
    (hown : s.vm.findClass own = some m.cls) (w1 : (Jvm.Cond.methodLink own index y).before a0 Z = true) (w2 : (Jvm.Cond.declares y).before a0 Z = true) (ws : (Jvm.Cond.selects C y y).before a0 Z = true) (wi : (Jvm.Cond.instanceMethod y).before a0 Z = true) (w3 : (Jvm.Cond.initialized y.cls).before a0 Z = true) (w4 : (Jvm.Cond.code y bytes maxL ret).before a0 Z = true) (hy : y.cls ≠ "java/lang/invoke/MethodHandle" ∧ y.cls ≠ "java/lang/invoke/VarHandle")
    (hM : Con l y bytes maxL ret [] rm Z as h rm.cells rm.slots Qc) (hfr : rm.frames + 1 ≤ R.frames) (hlo : W + (maxL + 11) + rm.locals ≤ R.locals) (hsz : Ls.size = c.maxLocals) (hpd : parseMethodDescriptor y.desc = some ⟨ps, rt⟩) (hln : argsL.length = ps.length) (hst : stack = argsL.reverse ++ .ref a :: rest) (has : (.ref a :: argsL).toArray = as) (hW : (rest.map fun v => v.category).sum ≤ W)
    (hd : decode c.code pc = .ok (.invokevirtual index, 3)) (eT : T.heap = h) (E : Exa Z h a C) (hc : cells + rm.cells ≤ R.cells) (hs : slots + rm.slots ≤ R.slots) (hp : pc' = pc + 3)
    (k : ∀ T' v L', Stand p l e R s m args below meth c T' (locs ++ L') (cells + rm.cells) (slots + rm.slots) → Qc v T'.heap L' → G (T'.setTop (mkF m pc' Ls (v.toList ++ rest)))) : G (T.setTop (mkF m pc Ls stack)) := by
  subst hp hst has
  obtain ⟨cq, kq, qa, qb, qc⟩ := isOf hZ eT E
  obtain ⟨v, _, ⟨T1, L1, k1, n1⟩, -, X1, ⟨Lc, hQ, l1, y1, z1⟩, st⟩ := X.virtualBack hx (y := y) (z := y) hown (mvT hZ w1) (mvT hZ w2) (notFace_of_selects (args := #[]) (mvT hZ ws)) (mvT hZ ws) (mvT hZ wi) hy (backOf (W := W) hM hZ w4 w3 hfr hlo) qa qc (g := mkF m pc Ls (argsL.reverse ++ .ref a :: rest)) rfl hsz (Steps.refl _) (argsL := argsL) (rest := rest) (lenOf hpd hln) rfl (by show 2 * 0 + _ ≤ _; omega) hd (fun _ _ => ⟨rfl, eT, hc, hs⟩)
  dsimp only [Pt.U, Pt.locs, Pt.cells, Pt.slots] at X1 l1 y1 z1 st hQ
  subst l1 y1 z1
  exact hG _ _ (fun t ht => st.trans ht) (k T1 v Lc X1 hQ)
theorem g_callP (hG : Cl p e below G) (X : Stand p l e R s m args below meth c T locs cells slots) (hx : p.tables.exec = Jvm.exec) (hZ : Z.Warmed39 s.vm) {own C : String} {index : Nat} {y : MethodName} {bytes : ByteArray} {maxL : Nat} {ret : Option FieldType} {rm : Room} {as : Array Value} {Qc : Option Value → Heap → List Loc → Prop} {a : Addr} {argsL stack : List Value} {ps : List FieldType} {rt : Option FieldType} (W : Nat)
    (hown : s.vm.findClass own = some m.cls) (w1 : (Jvm.Cond.methodLink own index y).before a0 Z = true) (wi : (Jvm.Cond.instanceMethod y).before a0 Z = true) {kk : Nat} (wk : (Jvm.Cond.instantiable y.cls kk).before a0 Z = true) (wp : (Jvm.Cond.privateMethod y).before a0 Z = true) (w3 : (Jvm.Cond.initialized y.cls).before a0 Z = true) (w4 : (Jvm.Cond.code y bytes maxL ret).before a0 Z = true) (hy : y.cls ≠ "java/lang/invoke/MethodHandle" ∧ y.cls ≠ "java/lang/invoke/VarHandle")
    (hM : Con l y bytes maxL ret [] rm Z as h rm.cells rm.slots Qc) (hfr : rm.frames + 1 ≤ R.frames) (hlo : W + (maxL + 11) + rm.locals ≤ R.locals) (hsz : Ls.size = c.maxLocals) (hpd : parseMethodDescriptor y.desc = some ⟨ps, rt⟩) (hln : argsL.length = ps.length) (hst : stack = argsL.reverse ++ .ref a :: rest) (has : (.ref a :: argsL).toArray = as) (hW : (rest.map fun v => v.category).sum ≤ W)
    (hd : decode c.code pc = .ok (.invokevirtual index, 3)) (eT : T.heap = h) (E : Exa Z h a C) (hc : cells + rm.cells ≤ R.cells) (hs : slots + rm.slots ≤ R.slots) (hp : pc' = pc + 3)
    (k : ∀ T' v L', Stand p l e R s m args below meth c T' (locs ++ L') (cells + rm.cells) (slots + rm.slots) → Qc v T'.heap L' → G (T'.setTop (mkF m pc' Ls (v.toList ++ rest)))) : G (T.setTop (mkF m pc Ls stack)) := by
  subst hp hst has
  obtain ⟨cq, q1, q2⟩ := E.cell
  have hpv : s.PrivateAt y := Jvm.Cond.privateMethod_at (mvP hZ wp (args := #[]))
  obtain ⟨ck, kk', j1, j2, -, j4, -⟩ := Jvm.Cond.instantiable_spec (mvT (args := args) hZ wk)
  have ws : (Jvm.Cond.selects y.cls y y).before args s = true := selects_self_of_private j1 j2 (by simp at j4; exact j4.1) hpv (mvT hZ wi) hy
  obtain ⟨v, _, ⟨T1, L1, k1, n1⟩, -, X1, ⟨Lc, hQ, l1, y1, z1⟩, st⟩ := X.privateBack hx (y := y) hown (mvT hZ w1) (mvT hZ wi) ws hpv (mvT hZ w4) hy (backOf (W := W) hM hZ w4 w3 hfr hlo) (g := mkF m pc Ls (argsL.reverse ++ .ref a :: rest)) rfl hsz (Steps.refl _) (a := a) (by rw [eT]; exact q1) q2 (argsL := argsL) (rest := rest) (lenOf hpd hln) rfl (by show 2 * 0 + _ ≤ _; omega) hd (fun _ _ => ⟨rfl, eT, hc, hs⟩)
  dsimp only [Pt.U, Pt.locs, Pt.cells, Pt.slots] at X1 l1 y1 z1 st hQ
  subst l1 y1 z1
  exact hG _ _ (fun t ht => st.trans ht) (k T1 v Lc X1 hQ)
theorem g_natS (hG : Cl p e below G) (X : Stand p l e R s m args below meth c T locs cells slots) (hx : p.tables.exec = Jvm.exec) (hZ : Z.Warmed39 s.vm) {own : String} {index : Nat} {y : MethodName} {by0 : ByteArray} {ml : Nat} {rt : Option FieldType} {F : Array Value → Prop} {val : Value} {argsL stack : List Value} {ps : List FieldType} {rt' : Option FieldType} (W : Nat)
    (hown : s.vm.findClass own = some m.cls) (w1 : (Jvm.Cond.methodLink own index y).before a0 Z = true) (w2 : (Jvm.Cond.static y).before a0 Z = true) (w3 : (Jvm.Cond.initialized y.cls).before a0 Z = true) (w4 : (Jvm.Cond.code y by0 ml rt).before a0 Z = true) (hy : y.cls ≠ "java/lang/invoke/MethodHandle" ∧ y.cls ≠ "java/lang/invoke/VarHandle")
    (hK : (Jvm.Cond.code y by0 ml rt).before args s = true → Back l R p e below s args y 3 W (fun A a' => A.cells ≤ R.cells ∧ A.slots ≤ R.slots ∧ F a') (fun A _ v B => v = some val ∧ B = A)) (hsz : Ls.size = c.maxLocals) (hpd : parseMethodDescriptor y.desc = some ⟨ps, rt'⟩) (hln : argsL.length = ps.length) (hst : stack = argsL.reverse ++ rest) (hW : (rest.map fun v => v.category).sum ≤ W)
    (hd : decode c.code pc = .ok (.invokestatic index, 3)) (eT : T.heap = h) (hc : cells ≤ R.cells) (hs : slots ≤ R.slots) (hF : F argsL.toArray) (hp : pc' = pc + 3)
    (k : ∀ T', Stand p l e R s m args below meth c T' locs cells slots → T'.heap = h → G (T'.setTop (mkF m pc' Ls (val :: rest)))) : G (T.setTop (mkF m pc Ls stack)) := by
  subst hp hst
  obtain ⟨T', X', e', st⟩ := natS X hx hZ hown w1 w2 w3 w4 hy eT hK (g := mkF m pc Ls (argsL.reverse ++ rest)) rfl hsz (argsL := argsL) (rest := rest) (lenOf hpd hln) rfl (by show 2 * 0 + _ ≤ _; omega) hd hc hs hF rfl
  exact hG _ _ st (k T' X' e')
theorem g_getS (hG : Cl p e below G) (X : Stand p l e R s m args below meth c T locs cells slots) (hx : p.tables.exec = Jvm.exec) (hZ : Z.Warmed39 s.vm) {own R0 O n d : String} {index : Nat} (hown : s.vm.findClass own = some m.cls) (w : (Jvm.Cond.fieldLink own index R0 n d).before a0 Z = true) (via : Via Z R0 O n d) (eT : T.heap = h) {v : Value} (F : Sta Z h O n d v) (hd : decode c.code pc = .ok (.getstatic index, 3)) (hp : pc' = pc + 3)
    (k : ∀ T', Stand p l e R s m args below meth c T' locs cells slots → T'.heap = h → G (T'.setTop (mkF m pc' Ls (v :: rest)))) : G (T.setTop (mkF m pc Ls rest)) := by
  subst hp
  obtain ⟨T', X', e', st⟩ := getS2 (host := "") X hx hZ hown (Or.inl w) via eT F (g := mkF m pc Ls rest) rfl hd
  exact hG _ _ st (k T' X' e')
theorem g_castY (hG : Cl p e below G) (X : Stand p l e R s m args below meth c T locs cells slots) (hx : p.tables.exec = Jvm.exec) (hZ : Z.Warmed39 s.vm) {own K0 : String} {index : Nat} (hown : s.vm.findClass own = some m.cls) (w : (Jvm.Cond.classLink own index K0).before a0 Z = true) (eT : T.heap = h) {a : Addr} (F : Ins Z h a K0 true) (hd : decode c.code pc = .ok (.checkcast index, 3)) (hp : pc' = pc + 3)
    (k : ∀ T', Stand p l e R s m args below meth c T' locs cells slots → T'.heap = h → G (T'.setTop (mkF m pc' Ls (.ref a :: rest)))) : G (T.setTop (mkF m pc Ls (.ref a :: rest))) := by
  subst hp
  obtain ⟨T', X', e', st⟩ := castY X hx hZ hown w eT F (g := mkF m pc Ls (.ref a :: rest)) rfl rfl hd
  exact hG _ _ st (k T' X' e')
theorem g_newPE (hG : Cl p e below G) (X : Stand p l e R s m args below meth c T locs cells slots) (hx : p.tables.exec = Jvm.exec) (hZ : Z.Warmed39 s.vm) {aty : ArrayType} (w : (Jvm.Cond.arrayClass (newarray.typeOf aty)).before a0 Z = true) (eT : T.heap = h) {n : Int32} (hd : decode c.code pc = .ok (.newarray aty, 2)) (hn : ¬ n < 0) (cap : Nat) (hcap : n.toNatClampNeg ≤ cap) (hb : cap * 8 ≤ 536870912) (hc : cells + 1 ≤ R.cells) (hl : slots + cap ≤ R.slots) {ad : String} (had : "[" ++ (newarray.typeOf aty).toString = ad) (hp : pc' = pc + 2)
    (k : ∀ T' h' b, b = h.size → Stand p l e R s m args below meth c T' locs (cells + 1) (slots + cap) → T'.heap = h' → Ext h h' → AV Z h' b (newarray.typeOf aty) n (List.replicate n.toNatClampNeg (defaultValue (newarray.typeOf aty))) → Exa Z h' b ad → G (T'.setTop (mkF m pc' Ls (.ref b :: rest)))) : G (T.setTop (mkF m pc Ls (.int n :: rest))) := by
  subst hp
  obtain ⟨T', h', kA, X', e', E, A, Ex, st⟩ := newPE X hx hZ w eT (g := mkF m pc Ls (.int n :: rest)) rfl hd rfl hn hcap hb hc hl had
  exact hG _ _ st (k T' h' _ rfl X' e' E (AV.new (Arv.new A hn)) Ex)
theorem g_clone (hG : Cl p e below G) (X : Stand p l e R s m args below meth c T locs cells slots) (hx : p.tables.exec = Jvm.exec) (hZ : Z.Warmed39 s.vm) {own ad : String} {index : Nat} (hown : s.vm.findClass own = some m.cls)
    (w1 : (Jvm.Cond.methodLink own index ⟨ad, "clone", "()Ljava/lang/Object;"⟩).before a0 Z = true) (w2 : (Jvm.Cond.sameMethod ad "java/lang/Object" "clone" "()Ljava/lang/Object;").before a0 Z = true) (w3 : (Jvm.Cond.native ⟨"java/lang/Object", "clone", "()Ljava/lang/Object;"⟩).before a0 Z = true)
    (w4 : (Jvm.Cond.instanceMethod ⟨"java/lang/Object", "clone", "()Ljava/lang/Object;"⟩).before a0 Z = true) (w5 : (Jvm.Cond.selects ad ⟨ad, "clone", "()Ljava/lang/Object;"⟩ ⟨"java/lang/Object", "clone", "()Ljava/lang/Object;"⟩).before a0 Z = true) (w6 : (Jvm.Cond.castable ad "java/lang/Cloneable").before a0 Z = true)
    (eT : T.heap = h) {a : Addr} {ty : FieldType} {n : Int32} {vs : List Value} (A : AV Z h a ty n vs) (E : Exa Z h a ad) (hsz : Ls.size = c.maxLocals) (hd : decode c.code pc = .ok (.invokevirtual index, 3)) (hfr : 1 ≤ R.frames) (W cap : Nat) (hW : (rest.map fun v => v.category).sum ≤ W) (hlo : W + 14 ≤ R.locals) (hcap : n.toNatClampNeg ≤ cap) (hc : cells + 1 ≤ R.cells) (hsl : slots + cap ≤ R.slots) (hp : pc' = pc + 3)
    (k : ∀ T' h' b, b = h.size → Stand p l e R s m args below meth c T' locs (cells + 1) (slots + cap) → T'.heap = h' → Ext h h' → AV Z h' b ty n vs → Exa Z h' b ad → G (T'.setTop (mkF m pc' Ls (.ref b :: rest)))) : G (T.setTop (mkF m pc Ls (.ref a :: rest))) := by
  subst hp
  obtain ⟨kA, A, q⟩ := A
  obtain ⟨T', h', X', e', E', A', Ex, st⟩ := cloneH X hx hZ hown w1 w2 w3 w4 w5 w6 eT A.arh E (g := mkF m pc Ls (.ref a :: rest)) rfl hsz rfl hd hfr (W := W) (by show 2 * 0 + _ ≤ _; omega) hlo hcap hc hsl
  exact hG _ _ st (k T' h' _ rfl X' e' E' ⟨kA, A', q⟩ Ex)
theorem g_callVU (hG : Cl p e below G) (X : Stand p l e R s m args below meth c T locs cells slots) (hx : p.tables.exec = Jvm.exec) (hZ : Z.Warmed39 s.vm) {own C owner : String} {index : Nat} {x y : MethodName} {bytes : ByteArray} {maxL : Nat} {ret : Option FieldType} {rm : Room} {as : Array Value} {Qc : Option Value → Heap → List Loc → Prop} {a : Addr} {argsL stack : List Value} {ps : List FieldType} {rt : Option FieldType} (W : Nat)
    (hown : s.vm.findClass own = some m.cls) (w1 : (Jvm.Cond.methodLink own index x).before a0 Z = true) (wm : (Jvm.Cond.sameMethod x.cls owner x.name x.desc).before a0 Z = true) (w2 : (Jvm.Cond.declares ⟨owner, x.name, x.desc⟩).before a0 Z = true) (ho : owner ≠ "java/lang/invoke/MethodHandle" ∧ owner ≠ "java/lang/invoke/VarHandle") (ws : (Jvm.Cond.selects C x y).before a0 Z = true) (wi : (Jvm.Cond.instanceMethod y).before a0 Z = true) (w3 : (Jvm.Cond.initialized y.cls).before a0 Z = true) (w4 : (Jvm.Cond.code y bytes maxL ret).before a0 Z = true)
    (hM : Con l y bytes maxL ret [] rm Z as h rm.cells rm.slots Qc) (hfr : rm.frames + 1 ≤ R.frames) (hlo : W + (maxL + 11) + rm.locals ≤ R.locals) (hsz : Ls.size = c.maxLocals) (hpd : parseMethodDescriptor x.desc = some ⟨ps, rt⟩) (hln : argsL.length = ps.length) (hst : stack = argsL.reverse ++ .ref a :: rest) (has : (.ref a :: argsL).toArray = as) (hW : (rest.map fun v => v.category).sum ≤ W)
    (hd : decode c.code pc = .ok (.invokevirtual index, 3)) (eT : T.heap = h) (E : Exa Z h a C) (hc : cells + rm.cells ≤ R.cells) (hs : slots + rm.slots ≤ R.slots) (hp : pc' = pc + 3)
    (k : ∀ T' v L', Stand p l e R s m args below meth c T' (locs ++ L') (cells + rm.cells) (slots + rm.slots) → Qc v T'.heap L' → G (T'.setTop (mkF m pc' Ls (v.toList ++ rest)))) : G (T.setTop (mkF m pc Ls stack)) := by
  subst hp hst has
  obtain ⟨cq, kq, qa, qb, qc⟩ := isOf hZ eT E
  obtain ⟨v, _, ⟨T1, L1, k1, n1⟩, -, X1, ⟨Lc, hQ, l1, y1, z1⟩, st⟩ := X.virtualBackUp hx (x := x) (y := y) hown (mvT hZ w1) (mvT hZ wm) (mvT hZ w2) ho (mvT hZ ws) (mvT hZ wi) (backOf (W := W) hM hZ w4 w3 hfr hlo) qa qc (g := mkF m pc Ls (argsL.reverse ++ .ref a :: rest)) rfl hsz (Steps.refl _) (argsL := argsL) (rest := rest) (lenOf hpd hln) rfl (by show 2 * 0 + _ ≤ _; omega) hd (fun _ _ => ⟨rfl, eT, hc, hs⟩)
  dsimp only [Pt.U, Pt.locs, Pt.cells, Pt.slots] at X1 l1 y1 z1 st hQ
  subst l1 y1 z1
  exact hG _ _ (fun t ht => st.trans ht) (k T1 v Lc X1 hQ)
theorem g_lookup (hG : Cl p e below G) (X : Stand p l e R s m args below meth c T locs cells slots) (hx : p.tables.exec = Jvm.exec) {kk : Int32} {dflt : Int} {pairs : Array (Int × Int)} {len : Nat} (hd : decode c.code pc = .ok (.lookupswitch dflt pairs, len)) (hs : (pairs.toList.zip (pairs.toList.drop 1)).all (fun (a, next) => a.1 < next.1) = true) {a off : Int} (hf : pairs.find? (·.1 == kk.toInt) = some (a, off)) (ho : 0 ≤ (pc : Int) + off) (hp : ((pc : Int) + off).toNat = pc') (k : G (T.setTop (mkF m pc' Ls rest))) : G (T.setTop (mkF m pc Ls (.int kk :: rest))) := by
  subst hp
  refine hG _ _ (fun t ht => ?_) k
  exact X.lookupswitchHit hx (g := mkF m pc Ls (.int kk :: rest)) rfl rfl hd hs hf ho t ht
theorem g_copy (hG : Cl p e below G) (X : Stand p l e R s m args below meth c T locs cells slots) (hx : p.tables.exec = Jvm.exec) (hZ : Z.Warmed39 s.vm) {own : String} {index : Nat} (hown : s.vm.findClass own = some m.cls)
    (w1 : (Jvm.Cond.methodLink own index Jvm.Stand.acN).before a0 Z = true) (w2 : (Jvm.Cond.native Jvm.Stand.acN).before a0 Z = true) (w3 : (Jvm.Cond.static Jvm.Stand.acN).before a0 Z = true) (w4 : (Jvm.Cond.initialized "java/lang/System").before a0 Z = true) (eT : T.heap = h)
    {a b : Addr} {ty : FieldType} {n z sp dp nn : Int32} {vs vd vr : List Value} (A : AV Z h a ty n vs) (B : AV Z h b ty z vd) (hr : refKind ty = false) (h1 : ¬ sp < 0) (h2 : ¬ dp < 0) (h3 : ¬ nn < 0) (h4 : sp.toNatClampNeg + nn.toNatClampNeg ≤ n.toNatClampNeg) (h5 : dp.toNatClampNeg + nn.toNatClampNeg ≤ z.toNatClampNeg)
    (hvr : vd.take dp.toNatClampNeg ++ ((List.range nn.toNatClampNeg).map fun i => vs.getD (sp.toNatClampNeg + i) (defaultValue ty)) ++ vd.drop (dp.toNatClampNeg + nn.toNatClampNeg) = vr) {n0 : Nat} (N0 : Fr n0 locs) (ge : n0 ≤ b) (hsz : Ls.size = c.maxLocals) (hd : decode c.code pc = .ok (.invokestatic index, 3)) (hfr : 1 ≤ R.frames) (W : Nat) (hW : (rest.map fun v => v.category).sum ≤ W) (hlo : W + (nativeFrameWords "java/lang/System" "arraycopy" 5 + 11) ≤ R.locals) (hp : pc' = pc + 3)
    (k : ∀ T' h' L, Stand p l e R s m args below meth c T' L cells slots → T'.heap = h' → Fr n0 L → Keep h h' [b] → AV Z h' b ty z vr → G (T'.setTop (mkF m pc' Ls rest))) : G (T.setTop (mkF m pc Ls (.int nn :: .int dp :: .ref b :: .int sp :: .ref a :: rest))) := by
  subst hp hvr
  obtain ⟨kA, A, qa⟩ := A
  obtain ⟨kB, B, qb⟩ := B
  obtain ⟨T', h', L', X', e', N', K', V', st⟩ := cpA X hx hZ hown w1 w2 w3 w4 eT A B (Or.inl ⟨rfl, hr⟩) h1 h2 h3 h4 h5 rfl (by omega) N0 ge (g := mkF m pc Ls (.int nn :: .int dp :: .ref b :: .int sp :: .ref a :: rest)) rfl hsz rfl hd hfr (W := W) (by show 2 * 0 + _ ≤ _; omega) hlo
  exact hG _ _ st (k T' h' L' X' e' N' K' ⟨kB, V', by simp only [List.length_append, List.length_take, List.length_map, List.length_range, List.length_drop]; omega⟩)
theorem Sta.keep0 {h' : Heap} {C n d : String} {v : Value} (F : Sta Z h C n d v) (K : Keep h h' []) : Sta Z h' C n d v := by
  obtain ⟨cf, i, k, f, st, cell, h1, h2, h3, h4, h5, r⟩ := F
  exact ⟨cf, i, k, f, st, cell, h1, h2, h3, h4, K.2.1 _ _ h5 (fun q => nomatch q), r⟩
end New
end Jvm.OwnKit
namespace Jvm.OwnFl
open Jvm.FP.Core
theorem two_ne : (2 : Rat) ≠ 0 := by decide
theorem p2pos (q : Int) : (0 : Rat) < (2 : Rat) ^ q := Rat.zpow_pos (by decide)
theorem p2add (a b : Int) : (2 : Rat) ^ (a + b) = (2 : Rat) ^ a * (2 : Rat) ^ b := Rat.zpow_add two_ne a b
theorem p2nat (n : Nat) : (2 : Rat) ^ (n : Int) = ((2 ^ n : Nat) : Rat) := by rw [Rat.zpow_natCast, Rat.natCast_pow]; rfl
theorem p2le {a b : Int} (h : a ≤ b) : (2 : Rat) ^ a ≤ (2 : Rat) ^ b := by
  obtain ⟨n, hn⟩ : ∃ n : Nat, b = a + n := ⟨(b - a).toNat, by omega⟩
  subst hn
  rw [p2add, p2nat]
  have h1 : (1 : Rat) ≤ ((2 ^ n : Nat) : Rat) := by
    have q : ((1 : Nat) : Rat) ≤ ((2 ^ n : Nat) : Rat) := Rat.natCast_le_natCast.mpr (Nat.two_pow_pos n)
    exact q
  have q := Rat.mul_le_mul_of_nonneg_left h1 (Rat.le_of_lt (p2pos a))
  rwa [Rat.mul_one] at q
theorem p2lt {a b : Int} (h : (2 : Rat) ^ a < (2 : Rat) ^ b) : a < b := by
  by_cases q : a < b
  · exact q
  · exact absurd (p2le (Int.not_lt.mp q)) (Rat.not_le.mpr h)
/-- the value of a datum (nought for what is no number) -/
def rvd : Datum → Rat
  | .fin s c q => ((signed s c : Int) : Rat) * (2 : Rat) ^ q
  | _ => 0
/-- v is a finite double, of the value x -/
def DV (v : UInt64) (x : Rat) : Prop := ∃ s c q, val64 v = .fin s c q ∧ rvd (.fin s c q) = x
theorem DV.fin {v : UInt64} {x : Rat} (h : DV v x) : Jvm.Free.Fl.Fin64 v := by
  obtain ⟨s, c, q, h, -⟩ := h
  exact Jvm.Free.Fl.fin64_core.mpr ⟨s, c, q, h⟩
theorem DV.noNaN {v : UInt64} {x : Rat} (h : DV v x) : Jvm.Free.Fl.NoNaN64 v := h.fin.noNaN
theorem DV.uniq {v : UInt64} {x y : Rat} (h : DV v x) (g : DV v y) : x = y := by
  obtain ⟨s, c, q, h1, h2⟩ := h
  obtain ⟨t, d, r, g1, g2⟩ := g
  cases h1.symm.trans g1
  exact h2.symm.trans g2
theorem units_val (s : Bool) (c : Nat) {q e : Int} (h : e ≤ q) : ((signed s (inUnits c q e) : Int) : Rat) * (2 : Rat) ^ e = ((signed s c : Int) : Rat) * (2 : Rat) ^ q := by
  obtain ⟨n, rfl⟩ : ∃ n : Nat, q = e + n := ⟨(q - e).toNat, by omega⟩
  unfold inUnits
  rw [signed_mul, Rat.intCast_mul, Rat.mul_assoc, show (e + (n : Int) - e).toNat = n by omega, p2add, p2nat, Rat.mul_comm ((2 : Rat) ^ e)]
  rfl
theorem dcmp_of {a b : UInt64} {x y : Rat} (ha : DV a x) (hb : DV b y) : dcmp a b = some (if x < y then .lt else if x = y then .eq else .gt) := by
  obtain ⟨s, c, q, h1, rfl⟩ := ha
  obtain ⟨t, d, r, h2, rfl⟩ := hb
  show order (val64 a) (val64 b) = _
  rw [h1, h2]
  show some (compare (signed s (inUnits c q (min q r))) (signed t (inUnits d r (min q r)))) = some (if ((signed s c : Int) : Rat) * (2 : Rat) ^ q < ((signed t d : Int) : Rat) * (2 : Rat) ^ r then .lt else if ((signed s c : Int) : Rat) * (2 : Rat) ^ q = ((signed t d : Int) : Rat) * (2 : Rat) ^ r then .eq else .gt)
  rw [compare_ite, ← units_val s c (Int.min_le_left q r), ← units_val t d (Int.min_le_right q r)]
  generalize signed s (inUnits c q (min q r)) = i
  generalize signed t (inUnits d r (min q r)) = j
  have hu := p2pos (min q r)
  generalize (2 : Rat) ^ (min q r) = u at hu
  have k1 : ∀ i j : Int, ((i : Rat) * u < (j : Rat) * u) ↔ i < j := fun i j => (Rat.mul_lt_mul_right hu).trans Rat.intCast_lt_intCast
  have k2 : ((i : Rat) * u = (j : Rat) * u) ↔ i = j := by
    constructor
    · intro h
      rcases Int.lt_trichotomy i j with g | g | g
      · have := (k1 i j).mpr g; rw [h] at this; exact absurd this Rat.lt_irrefl
      · exact g
      · have := (k1 j i).mpr g; rw [h] at this; exact absurd this Rat.lt_irrefl
    · intro h; rw [h]
  simp only [k1, k2]
theorem dcmp_lt {a b : UInt64} {x y : Rat} (ha : DV a x) (hb : DV b y) (h : x < y) : Jvm.FP.dcmp a b = some .lt := by
  show dcmp a b = _
  rw [dcmp_of ha hb, if_pos h]
theorem dcmp_eq {a b : UInt64} {x y : Rat} (ha : DV a x) (hb : DV b y) (h : x = y) : Jvm.FP.dcmp a b = some .eq := by
  show dcmp a b = _
  rw [dcmp_of ha hb, if_neg (by rw [h]; exact Rat.lt_irrefl), if_pos h]
theorem dcmp_gt {a b : UInt64} {x y : Rat} (ha : DV a x) (hb : DV b y) (h : y < x) : Jvm.FP.dcmp a b = some .gt := by
  show dcmp a b = _
  rw [dcmp_of ha hb, if_neg (by rw [Rat.not_lt]; exact Rat.le_of_lt h), if_neg (Rat.ne_of_gt h)]
theorem dcmp_le {a b : UInt64} {x y : Rat} (ha : DV a x) (hb : DV b y) (h : x ≤ y) : Jvm.FP.dcmp a b = some .lt ∨ Jvm.FP.dcmp a b = some .eq := by
  by_cases q : x = y
  · exact Or.inr (dcmp_eq ha hb q)
  · exact Or.inl (dcmp_lt ha hb (Rat.lt_of_le_of_ne h q))
theorem dcmp_ge {a b : UInt64} {x y : Rat} (ha : DV a x) (hb : DV b y) (h : y ≤ x) : Jvm.FP.dcmp a b = some .gt ∨ Jvm.FP.dcmp a b = some .eq := by
  by_cases q : x = y
  · exact Or.inr (dcmp_eq ha hb q)
  · exact Or.inl (dcmp_gt ha hb (Rat.lt_of_le_of_ne h (fun z => q z.symm)))
/-- the rounding of a positive ratio, in full -/
theorem rr_spec (s : Bool) {A B : Nat} (e : Int) (hA : 0 < A) (hB : 0 < B) {x : Rat} (hx : x * (B : Rat) = (A : Rat) * (2 : Rat) ^ e) (hlt : x < (2 : Rat) ^ (1023 : Int)) :
    ∃ c q, roundRatio b64 s A B e = .fin s c q ∧ ∃ (m : Nat) (r : Int), (c : Rat) * (2 : Rat) ^ q = (m : Rat) * (2 : Rat) ^ r ∧ -1074 ≤ r ∧ m ≤ 2 ^ 53 ∧ 2 * x ≤ (2 * (m : Rat) + 1) * (2 : Rat) ^ r ∧ 2 * (m : Rat) * (2 : Rat) ^ r ≤ 2 * x + (2 : Rat) ^ r ∧
      x < 9007199254740992 * (2 : Rat) ^ r ∧ (r = -1074 ∨ 4503599627370496 * (2 : Rat) ^ r ≤ x) := by
  have g1 := quantum_ge b64 A B e
  have g2 := nearest_units_le (f := b64) hA hB e
  have g3 := quantum_not_below (f := b64) hA hB e
  have g4 := quantum_below (f := b64) hA hB e
  unfold roundRatio
  rw [if_neg (by omega : ¬ A = 0)]
  generalize quantum b64 A B e = r at *
  unfold roundAt
  have hD := unitsDen_pos hB e r
  obtain ⟨n1, n2, -⟩ := nearest_spec (unitsNum A e r) (unitsDen B e r) hD
  have key : x * (unitsDen B e r : Rat) = (unitsNum A e r : Rat) * (2 : Rat) ^ r := by
    unfold unitsDen unitsNum
    rw [Rat.natCast_mul, Rat.natCast_mul, ← Rat.mul_assoc, hx, ← p2nat, ← p2nat, Rat.mul_assoc, Rat.mul_assoc, ← p2add, ← p2add, show e + ((r - e).toNat : Int) = ((e - r).toNat : Int) + r by omega]
  have b1 : unitsNum A e r < 2 ^ 53 * unitsDen B e r := (units_below A B e r 53).mpr g4
  have b2 : r = -1074 ∨ 2 ^ 52 * unitsDen B e r ≤ unitsNum A e r := by
    rcases g3 with g3 | g3
    · exact Or.inl g3
    · exact Or.inr (Nat.le_of_not_lt fun q => g3 ((units_below A B e r 52).mp q))
  have hr0 : -1074 ≤ r := g1
  have hm53 : nearest (unitsNum A e r) (unitsDen B e r) ≤ 2 ^ 53 := g2
  clear g1 g2 g3 g4
  generalize nearest (unitsNum A e r) (unitsDen B e r) = m at *
  generalize unitsNum A e r = N at *
  generalize unitsDen B e r = D at *
  have hu := p2pos r
  have hDp : (0 : Rat) < (D : Rat) := Rat.natCast_pos.mpr hD
  have n1' : 2 * (N : Rat) ≤ (2 * (m : Rat) + 1) * (D : Rat) := by
    have q := Rat.natCast_le_natCast.mpr n1
    simpa [Rat.natCast_mul, Rat.natCast_add] using q
  have n2' : 2 * (m : Rat) * (D : Rat) ≤ 2 * (N : Rat) + (D : Rat) := by
    have q := Rat.natCast_le_natCast.mpr n2
    simpa [Rat.natCast_mul, Rat.natCast_add] using q
  have b1' : (N : Rat) < 9007199254740992 * (D : Rat) := by
    have q := Rat.natCast_lt_natCast.mpr b1
    simpa [Rat.natCast_mul] using q
  have b2' : r = -1074 ∨ 4503599627370496 * (D : Rat) ≤ (N : Rat) := by
    rcases b2 with q | q
    · exact Or.inl q
    · right
      have q := Rat.natCast_le_natCast.mpr q
      simpa [Rat.natCast_mul] using q
  have f1 : 2 * x ≤ (2 * (m : Rat) + 1) * (2 : Rat) ^ r := by
    refine Rat.le_of_mul_le_mul_right (c := (D : Rat)) ?_ hDp
    have q := Rat.mul_le_mul_of_nonneg_right n1' (Rat.le_of_lt hu)
    generalize (2 : Rat) ^ r = u at *
    grind
  have f2 : 2 * (m : Rat) * (2 : Rat) ^ r ≤ 2 * x + (2 : Rat) ^ r := by
    refine Rat.le_of_mul_le_mul_right (c := (D : Rat)) ?_ hDp
    have q := Rat.mul_le_mul_of_nonneg_right n2' (Rat.le_of_lt hu)
    generalize (2 : Rat) ^ r = u at *
    grind
  have f3 : x < 9007199254740992 * (2 : Rat) ^ r := by
    refine Rat.lt_of_mul_lt_mul_right (c := (D : Rat)) ?_ (Rat.le_of_lt hDp)
    have q := Rat.mul_lt_mul_of_pos_right b1' hu
    generalize (2 : Rat) ^ r = u at *
    grind
  have f4 : r = -1074 ∨ 4503599627370496 * (2 : Rat) ^ r ≤ x := by
    rcases b2' with q | q
    · exact Or.inl q
    · right
      refine Rat.le_of_mul_le_mul_right (c := (D : Rat)) ?_ hDp
      have q := Rat.mul_le_mul_of_nonneg_right q (Rat.le_of_lt hu)
      generalize (2 : Rat) ^ r = u at *
      grind
  have hr : r ≤ 970 := by
    rcases f4 with q | q
    · omega
    · have q1 : (2 : Rat) ^ ((52 : Int) + r) < (2 : Rat) ^ (1023 : Int) := by
        rw [p2add, show (2 : Rat) ^ (52 : Int) = 4503599627370496 by decide +kernel]
        exact Std.lt_of_le_of_lt q hlt
      have := p2lt q1
      omega
  have hqm : b64.qmax = 971 := by decide
  by_cases hm : m < 2 ^ 53
  · refine ⟨m, r, ?_, m, r, rfl, hr0, hm53, f1, f2, f3, f4⟩
    show (if m < 2 ^ 53 then bound b64 s m r else _) = _
    rw [if_pos hm]
    unfold bound
    rw [if_pos (by omega)]
  · have hm : m = 2 ^ 53 := by omega
    refine ⟨2 ^ 52, r + 1, ?_, m, r, ?_, hr0, hm53, f1, f2, f3, f4⟩
    · show (if m < 2 ^ 53 then bound b64 s m r else bound b64 s b64.tails (r + 1)) = _
      rw [if_neg (by omega)]
      unfold bound
      rw [if_pos (by omega)]
      rfl
    · subst hm
      rw [p2add, Rat.zpow_one]
      generalize (2 : Rat) ^ r = u
      have e1 : ((2 ^ 52 : Nat) : Rat) = 4503599627370496 := by decide +kernel
      have e2 : ((2 ^ 53 : Nat) : Rat) = 9007199254740992 := by decide +kernel
      rw [e1, e2]
      grind
/-- the rounding of a rational number to a double's precision -/
def RR (x : Rat) : Rat := rvd (roundRatio b64 (decide (x < 0)) x.num.natAbs x.den 0)
theorem rat_num (x : Rat) : x * (x.den : Rat) = (x.num : Rat) := by
  have h : x = (x.num : Rat) / ((x.den : Int) : Rat) := by rw [← Rat.divInt_eq_div, Rat.num_divInt_den]
  have hd : (((x.den : Int)) : Rat) ≠ 0 := by
    intro q
    have := Rat.intCast_eq_zero_iff.mp q
    have := x.den_nz
    omega
  have q := Rat.div_mul_cancel (a := (x.num : Rat)) hd
  rw [← h] at q
  exact q
theorem signed_rat (s : Bool) (c : Nat) : ((signed s c : Int) : Rat) = if s then -(c : Rat) else (c : Rat) := by cases s <;> simp [signed, Rat.intCast_natCast]
/-- rounding goes by the value -/
theorem rr_congr {s : Bool} {A B : Nat} {e : Int} {x : Rat} (hB : 0 < B) (hx : x * (B : Rat) = ((signed s A : Int) : Rat) * (2 : Rat) ^ e) (hA : A ≠ 0) : roundRatio b64 s A B e = roundRatio b64 (decide (x < 0)) x.num.natAbs x.den 0 := by
  have hu := p2pos e
  have hBp : (0 : Rat) < (B : Rat) := Rat.natCast_pos.mpr hB
  have hAp : (0 : Rat) < (A : Rat) := Rat.natCast_pos.mpr (by omega)
  have hAu := Rat.mul_pos hAp hu
  have hs : decide (x < 0) = s := by
    rw [signed_rat] at hx
    cases s
    · simp only [Bool.false_eq_true, if_false] at hx
      rw [decide_eq_false_iff_not]
      intro q
      have := (Rat.mul_neg_iff_of_pos_right hBp).mpr q
      rw [hx] at this
      grind
    · simp only [if_true] at hx
      rw [decide_eq_true_iff]
      refine (Rat.mul_neg_iff_of_pos_right hBp).mp ?_
      rw [hx]
      grind
  rw [hs]
  refine roundRatio_congr hB x.den_pos ?_
  -- magnitudes
  have h1 := rat_num x
  have h2 : (x.num : Rat) * (B : Rat) = ((signed s A : Int) : Rat) * (2 : Rat) ^ e * (x.den : Rat) := by rw [← h1, ← hx]; grind
  have h3 : (x.num : Rat) * (B : Rat) * (2 : Rat) ^ (((0 - e).toNat : Nat) : Int) = ((signed s A : Int) : Rat) * (x.den : Rat) * (2 : Rat) ^ (((e - 0).toNat : Nat) : Int) := by
    rw [h2, Rat.mul_assoc, Rat.mul_assoc, Rat.mul_comm ((2 : Rat) ^ e), Rat.mul_assoc, ← p2add, ← Rat.mul_assoc]
    rw [show (((0 - e).toNat : Nat) : Int) + e = (((e - 0).toNat : Nat) : Int) by omega]
  rw [p2nat, p2nat] at h3
  have h4 : x.num * (B : Int) * ((2 ^ (0 - e).toNat : Nat) : Int) = signed s A * (x.den : Int) * ((2 ^ (e - 0).toNat : Nat) : Int) := by
    refine Rat.intCast_inj.mp ?_
    rw [Rat.intCast_mul, Rat.intCast_mul, Rat.intCast_mul, Rat.intCast_mul]
    exact h3
  have h5 := congrArg Int.natAbs h4
  simp only [Int.natAbs_mul, Int.natAbs_natCast, natAbs_signed] at h5
  exact h5.symm
theorem rvd_rr {s : Bool} {A B : Nat} {e : Int} {x : Rat} (hB : 0 < B) (hx : x * (B : Rat) = ((signed s A : Int) : Rat) * (2 : Rat) ^ e) : rvd (roundRatio b64 s A B e) = RR x := by
  by_cases hA : A = 0
  · subst hA
    have hx0 : x = 0 := by
      rw [signed_zero] at hx
      have hBp : (B : Rat) ≠ 0 := fun q => by have := Rat.natCast_eq_zero_iff.mp q; omega
      rcases Rat.mul_eq_zero.mp (hx.trans (by rw [show ((0 : Int) : Rat) = 0 from rfl, Rat.zero_mul])) with q | q
      · exact q
      · exact absurd q hBp
    subst hx0
    unfold RR roundRatio
    rw [if_pos rfl, if_pos (by decide)]
    show ((signed s 0 : Int) : Rat) * _ = ((signed _ 0 : Int) : Rat) * _
    rw [signed_zero, signed_zero]
  · rw [rr_congr hB hx hA]; rfl
theorem RR_neg (x : Rat) : RR (-x) = - RR x := by
  have h := rat_num x
  have h1 : rvd (roundRatio b64 (!decide (x < 0)) x.num.natAbs x.den 0) = RR (-x) := by
    refine rvd_rr x.den_pos ?_
    rw [Rat.zpow_zero, Rat.mul_one, Rat.neg_mul, h]
    have : (signed (!decide (x < 0)) x.num.natAbs : Int) = - x.num := by
      by_cases q : x < 0
      · have : x.num < 0 := by
          rw [← Int.not_le, Rat.num_nonneg, Rat.not_le]; exact q
        simp [signed, q]; omega
      · have : 0 ≤ x.num := by rw [Rat.num_nonneg]; exact Rat.not_lt.mp q
        simp [signed, q]; omega
    rw [this]; rfl
  rw [← h1, ← negate_roundRatio]
  unfold RR
  generalize roundRatio b64 (decide (x < 0)) x.num.natAbs x.den 0 = d
  cases d with
  | nan => simp [negate, rvd]
  | inf s => simp [negate, rvd]
  | fin s c q =>
    show ((signed (!s) c : Int) : Rat) * _ = -(((signed s c : Int) : Rat) * _)
    rw [← Rat.neg_mul]
    congr 1
    cases s <;> simp [signed]
/-- what is known of a rounding y of x -/
def Rsp (x y : Rat) : Prop := ∃ (m r : Int), y = (m : Rat) * (2 : Rat) ^ r ∧ -1074 ≤ r ∧ m.natAbs ≤ 2 ^ 53 ∧ 2 * x ≤ (2 * (m : Rat) + 1) * (2 : Rat) ^ r ∧ (2 * (m : Rat) - 1) * (2 : Rat) ^ r ≤ 2 * x ∧
    x < 9007199254740992 * (2 : Rat) ^ r ∧ -(9007199254740992 * (2 : Rat) ^ r) < x ∧ (r = -1074 ∨ 4503599627370496 * (2 : Rat) ^ r ≤ x ∨ x ≤ -(4503599627370496 * (2 : Rat) ^ r))
theorem Rsp.neg {x y : Rat} (h : Rsp x y) : Rsp (-x) (-y) := by
  obtain ⟨m, r, h1, h2, h3, h4, h5, h6, h7, h8⟩ := h
  have hu := p2pos r
  refine ⟨-m, r, ?_, h2, by omega, ?_, ?_, ?_, ?_, ?_⟩ <;> (try rw [Rat.intCast_neg]) <;> generalize (2 : Rat) ^ r = u at * <;> grind
theorem big_lt : (1267650600228229401496703205376 : Rat) < (2 : Rat) ^ (1023 : Int) := by
  have h : (2 : Rat) ^ (100 : Int) < (2 : Rat) ^ (1023 : Int) := by
    refine Rat.lt_of_le_of_ne (p2le (by decide)) fun q => ?_
    have h2 : (2 : Rat) ^ (1023 : Int) = (2 : Rat) ^ (100 : Int) * (2 : Rat) ^ (923 : Int) := by rw [← p2add]; rfl
    have h3 : (2 : Rat) ^ (1 : Int) ≤ (2 : Rat) ^ (923 : Int) := p2le (by decide)
    have h4 := p2pos 100
    rw [Rat.zpow_one] at h3
    have h5 := Rat.mul_le_mul_of_nonneg_left h3 (Rat.le_of_lt h4)
    grind
  have e : (2 : Rat) ^ (100 : Int) = 1267650600228229401496703205376 := by decide +kernel
  rw [← e]; exact h
theorem RR_pos {x : Rat} (h0 : 0 < x) (h : x ≤ 1267650600228229401496703205376) : Rsp x (RR x) ∧ ∃ c q, roundRatio b64 (decide (x < 0)) x.num.natAbs x.den 0 = .fin false c q := by
  have hn : 0 < x.num := by
    have : 0 ≤ x.num := by rw [Rat.num_nonneg]; exact Rat.le_of_lt h0
    have : x.num ≠ 0 := fun q => by rw [Rat.num_eq_zero] at q; rw [q] at h0; exact absurd h0 Rat.lt_irrefl
    omega
  have hd : decide (x < 0) = false := by rw [decide_eq_false_iff_not, Rat.not_lt]; exact Rat.le_of_lt h0
  have e1 : ((x.num.natAbs : Nat) : Rat) = (x.num : Rat) := by
    have : ((x.num.natAbs : Nat) : Int) = x.num := by omega
    rw [← Rat.intCast_natCast, this]
  obtain ⟨c, q, hr, m, r, f0, f1, f2, f3, f4, f5, f6⟩ := rr_spec false (A := x.num.natAbs) (B := x.den) 0 (by omega) x.den_pos (x := x) (by rw [Rat.zpow_zero, Rat.mul_one, e1]; exact rat_num x) (Std.lt_of_le_of_lt h big_lt)
  refine ⟨⟨m, r, ?_, f1, by omega, ?_, ?_, ?_, ?_, ?_⟩, c, q, by rw [hd]; exact hr⟩
  · unfold RR
    rw [hd, hr]
    show ((signed false c : Int) : Rat) * _ = _
    rw [← Rat.intCast_natCast] at f0
    exact f0
  all_goals
    have hu := p2pos r
    have e2 : ((m : Int) : Rat) = (m : Rat) := rfl
    rw [e2] at *
    generalize (2 : Rat) ^ r = u at *
    grind
theorem RR_zero : RR 0 = 0 := by
  unfold RR roundRatio
  rw [if_pos (by decide)]
  show ((signed _ 0 : Int) : Rat) * _ = 0
  rw [signed_zero]
  exact Rat.zero_mul _
theorem Rsp.zero : Rsp 0 0 := by
  have hu := p2pos (-1074)
  refine ⟨0, -1074, ?_, by decide, by decide, ?_, ?_, ?_, ?_, Or.inl rfl⟩ <;> generalize (2 : Rat) ^ (-1074 : Int) = u at * <;> (try rw [show ((0 : Int) : Rat) = 0 from rfl]) <;> grind
theorem RR_spec {x : Rat} (h1 : -1267650600228229401496703205376 ≤ x) (h2 : x ≤ 1267650600228229401496703205376) : Rsp x (RR x) := by
  by_cases q : 0 < x
  · exact (RR_pos q h2).1
  · by_cases q2 : x = 0
    · subst q2; rw [RR_zero]; exact Rsp.zero
    · have q3 : 0 < -x := by grind
      have g := (RR_pos q3 (by grind)).1.neg
      rw [RR_neg, Rat.neg_neg, Rat.neg_neg] at g
      exact g
theorem DV.of_rr {v : UInt64} {s : Bool} {A B : Nat} {e : Int} {x : Rat} (hv : val64 v = roundRatio b64 s A B e) (hB : 0 < B) (hx : x * (B : Rat) = ((signed s A : Int) : Rat) * (2 : Rat) ^ e) (h1 : -1267650600228229401496703205376 ≤ x) (h2 : x ≤ 1267650600228229401496703205376) : DV v (RR x) := by
  have hr := rvd_rr hB hx
  by_cases hA : A = 0
  · subst hA
    refine ⟨s, 0, b64.qmin, by rw [hv]; unfold roundRatio; rw [if_pos rfl], ?_⟩
    rw [← hr]; unfold roundRatio; rw [if_pos rfl]
  · obtain ⟨c, q, h, -⟩ := rr_spec s (A := A) (B := B) e (by omega) hB (x := if s then -x else x) (by rw [signed_rat] at hx; cases s <;> simp at hx ⊢ <;> grind) (Std.lt_of_le_of_lt (by cases s <;> simp <;> grind) big_lt)
    exact ⟨s, c, q, by rw [hv, h], by rw [← hr, h]⟩
theorem dadd_DV {a b : UInt64} {x y : Rat} (ha : DV a x) (hb : DV b y) (h1 : -1267650600228229401496703205376 ≤ x + y) (h2 : x + y ≤ 1267650600228229401496703205376) : DV (Jvm.FP.dadd a b) (RR (x + y)) := by
  obtain ⟨s, c, q, e1, rfl⟩ := ha
  obtain ⟨t, d, r, e2, rfl⟩ := hb
  refine DV.of_rr (s := sumSign s t (sumUnits s c q t d r (min q r))) (A := (sumUnits s c q t d r (min q r)).natAbs) (B := 1) (e := min q r) ?_ (by decide) ?_ h1 h2
  · show val64 (dadd a b) = _
    rw [val64_dadd, e1, e2]; rfl
  · rw [signed_sumSign, show ((1 : Nat) : Rat) = 1 from rfl, Rat.mul_one]
    unfold sumUnits
    rw [Rat.intCast_add, Rat.add_mul, units_val s c (Int.min_le_left q r), units_val t d (Int.min_le_right q r)]; rfl
theorem signed_not (t : Bool) (d : Nat) : (signed (!t) d : Int) = - signed t d := by cases t <;> simp [signed]
theorem dsub_DV {a b : UInt64} {x y : Rat} (ha : DV a x) (hb : DV b y) (h1 : -1267650600228229401496703205376 ≤ x - y) (h2 : x - y ≤ 1267650600228229401496703205376) : DV (Jvm.FP.dsub a b) (RR (x - y)) := by
  obtain ⟨s, c, q, e1, rfl⟩ := ha
  obtain ⟨t, d, r, e2, rfl⟩ := hb
  refine DV.of_rr (s := sumSign s (!t) (sumUnits s c q (!t) d r (min q r))) (A := (sumUnits s c q (!t) d r (min q r)).natAbs) (B := 1) (e := min q r) ?_ (by decide) ?_ h1 h2
  · show val64 (dsub a b) = _
    rw [val64_dsub, e1, e2]; rfl
  · rw [signed_sumSign, show ((1 : Nat) : Rat) = 1 from rfl, Rat.mul_one]
    unfold sumUnits
    rw [Rat.intCast_add, Rat.add_mul, units_val s c (Int.min_le_left q r), units_val (!t) d (Int.min_le_right q r), signed_not, Rat.intCast_neg, Rat.neg_mul, Rat.sub_eq_add_neg]; rfl
theorem dmul_DV {a b : UInt64} {x y : Rat} (ha : DV a x) (hb : DV b y) (h1 : -1267650600228229401496703205376 ≤ x * y) (h2 : x * y ≤ 1267650600228229401496703205376) : DV (Jvm.FP.dmul a b) (RR (x * y)) := by
  obtain ⟨s, c, q, e1, rfl⟩ := ha
  obtain ⟨t, d, r, e2, rfl⟩ := hb
  refine DV.of_rr (s := s != t) (A := c * d) (B := 1) (e := q + r) ?_ (by decide) ?_ h1 h2
  · show val64 (dmul a b) = _
    rw [val64_dmul, e1, e2]; rfl
  · rw [signed_xor, show ((1 : Nat) : Rat) = 1 from rfl, Rat.mul_one, Rat.intCast_mul, p2add]
    show (_ * _) * (_ * _) = _
    generalize (2 : Rat) ^ q = u
    generalize (2 : Rat) ^ r = w
    grind
theorem ddiv_DV {a b : UInt64} {x y : Rat} (ha : DV a x) (hb : DV b y) (hy : y ≠ 0) (h1 : -1267650600228229401496703205376 ≤ x / y) (h2 : x / y ≤ 1267650600228229401496703205376) : DV (Jvm.FP.ddiv a b) (RR (x / y)) := by
  obtain ⟨s, c, q, e1, rfl⟩ := ha
  obtain ⟨t, d, r, e2, rfl⟩ := hb
  have hd : d ≠ 0 := by
    rintro rfl
    apply hy
    show ((signed t 0 : Int) : Rat) * _ = 0
    rw [signed_zero]; exact Rat.zero_mul _
  refine DV.of_rr (s := s != t) (A := c) (B := d) (e := q - r) ?_ (by omega) ?_ h1 h2
  · show val64 (ddiv a b) = _
    rw [val64_ddiv, e1, e2]
    show (if d = 0 then _ else _) = _
    rw [if_neg hd]
  · have hq : (2 : Rat) ^ q = (2 : Rat) ^ (q - r) * (2 : Rat) ^ r := by rw [← p2add, show q - r + r = q by omega]
    have hS : ((signed s c : Int) : Rat) * (d : Rat) = ((signed (s != t) c : Int) : Rat) * ((signed t d : Int) : Rat) := by
      rw [signed_rat, signed_rat, signed_rat]
      cases s <;> cases t <;> simp <;> grind
    have hm := Rat.div_mul_cancel (a := rvd (.fin s c q)) hy
    have hyn := hy
    have hv1 : rvd (.fin s c q) = ((signed s c : Int) : Rat) * ((2 : Rat) ^ (q - r) * (2 : Rat) ^ r) := by rw [← hq]; rfl
    have hv2 : rvd (.fin t d r) = ((signed t d : Int) : Rat) * (2 : Rat) ^ r := rfl
    generalize rvd (.fin s c q) / rvd (.fin t d r) = z at *
    rw [hv1, hv2] at hm
    rw [hv2] at hyn
    have hst : ((signed t d : Int) : Rat) ≠ 0 := fun g => hyn (by rw [g]; exact Rat.zero_mul _)
    have hr := p2pos r
    generalize (2 : Rat) ^ (q - r) = u at *
    generalize (2 : Rat) ^ r = w at *
    generalize ((signed s c : Int) : Rat) = X at *
    generalize ((signed (s != t) c : Int) : Rat) = S at *
    generalize ((signed t d : Int) : Rat) = Y at *
    generalize (d : Rat) = D at *
    -- hm : z * (Y * w) = X * (u * w); hS : X * D = S * Y; goal : z * D = S * u
    have hw : w ≠ 0 := Rat.ne_of_gt hr
    have k1 : z * Y = X * u := by
      have : (z * Y - X * u) * w = 0 := by grind
      rcases Rat.mul_eq_zero.mp this with g | g
      · grind
      · exact absurd g hw
    have k2 : (z * D - S * u) * Y = 0 := by grind
    rcases Rat.mul_eq_zero.mp k2 with g | g
    · grind
    · exact absurd g hst
theorem i2d_RR (n : Int32) : DV (Jvm.FP.i2d n) (RR (n.toInt : Rat)) := by
  have h := n.le_toInt
  have h' := n.toInt_lt
  refine DV.of_rr (s := decide (n.toInt < 0)) (A := n.toInt.natAbs) (B := 1) (e := 0) ?_ (by decide) ?_ ?_ ?_
  · show val64 (i2d n) = _
    rw [val64_i2d]; rfl
  · rw [Rat.zpow_zero, Rat.mul_one, show ((1 : Nat) : Rat) = 1 from rfl, Rat.mul_one]
    congr 1
    by_cases q : n.toInt < 0 <;> simp [signed, q] <;> omega
  · have := Rat.intCast_le_intCast.mpr h; grind
  · have := Rat.intCast_le_intCast.mpr (Int.le_of_lt h'); grind
theorem l2d_RR (n : Int64) : DV (Jvm.FP.l2d n) (RR (n.toInt : Rat)) := by
  have h := n.le_toInt
  have h' := n.toInt_lt
  refine DV.of_rr (s := decide (n.toInt < 0)) (A := n.toInt.natAbs) (B := 1) (e := 0) ?_ (by decide) ?_ ?_ ?_
  · show val64 (l2d n) = _
    rw [val64_l2d]; rfl
  · rw [Rat.zpow_zero, Rat.mul_one, show ((1 : Nat) : Rat) = 1 from rfl, Rat.mul_one]
    congr 1
    by_cases q : n.toInt < 0 <;> simp [signed, q] <;> omega
  · have := Rat.intCast_le_intCast.mpr h; grind
  · have := Rat.intCast_le_intCast.mpr (Int.le_of_lt h'); grind
/-- a rational number that a double can hold (no overflow asked) -/
def Rp (z : Rat) : Prop := ∃ m k : Int, z = (m : Rat) * (2 : Rat) ^ k ∧ m.natAbs ≤ 2 ^ 53 ∧ -1074 ≤ k
theorem abs_le {m : Int} (h : m.natAbs ≤ 2 ^ 53) : -(9007199254740992 : Rat) ≤ (m : Rat) ∧ (m : Rat) ≤ 9007199254740992 := by
  have h1 : (-9007199254740992 : Int) ≤ m ∧ m ≤ 9007199254740992 := by omega
  exact ⟨by have := Rat.intCast_le_intCast.mpr h1.1; simpa using this, by have := Rat.intCast_le_intCast.mpr h1.2; simpa using this⟩
/-- a number that can be held is a multiple of the quantum, or no greater than the quantum's least -/
theorem rp_mul {z : Rat} {r : Int} (h : Rp z) : (∃ j : Int, z = (j : Rat) * (2 : Rat) ^ r) ∨ (-1074 < r ∧ z ≤ 4503599627370496 * (2 : Rat) ^ r ∧ -(4503599627370496 * (2 : Rat) ^ r) ≤ z) := by
  obtain ⟨m, k, hz, hm, hk⟩ := h
  by_cases hkr : r ≤ k
  · left
    obtain ⟨i, rfl⟩ : ∃ i : Nat, k = r + i := ⟨(k - r).toNat, by omega⟩
    refine ⟨m * ((2 ^ i : Nat) : Int), ?_⟩
    rw [hz, p2add, p2nat, Rat.intCast_mul, Rat.intCast_natCast]
    generalize (2 : Rat) ^ r = u
    generalize ((2 ^ i : Nat) : Rat) = w
    grind
  · right
    have h1 : (2 : Rat) ^ (k + 1) ≤ (2 : Rat) ^ r := p2le (by omega)
    rw [p2add, Rat.zpow_one] at h1
    obtain ⟨a1, a2⟩ := abs_le hm
    have hu := p2pos k
    have b1 := Rat.mul_le_mul_of_nonneg_right a1 (Rat.le_of_lt hu)
    have b2 := Rat.mul_le_mul_of_nonneg_right a2 (Rat.le_of_lt hu)
    rw [hz]
    refine ⟨by omega, ?_, ?_⟩ <;> generalize (2 : Rat) ^ r = w at * <;> generalize (2 : Rat) ^ k = u at * <;> grind
theorem icast_le {u : Rat} (hu : 0 < u) {i j : Int} (h : (i : Rat) * u ≤ (j : Rat) * u) : i ≤ j := Rat.intCast_le_intCast.mp (Rat.le_of_mul_le_mul_right h hu)
theorem icast_lt {u : Rat} (hu : 0 < u) {i j : Int} (h : (i : Rat) * u < (j : Rat) * u) : i < j := Rat.intCast_lt_intCast.mp (Rat.lt_of_mul_lt_mul_right h (Rat.le_of_lt hu))
/-- the nearest: whatever can be held is no nearer -/
theorem Rsp.near {x y z : Rat} (h : Rsp x y) (hz : Rp z) (t : Rat) (t1 : x - z ≤ t) (t2 : z - x ≤ t) : x - y ≤ t ∧ y - x ≤ t := by
  obtain ⟨n, r, rfl, h2, h3, h4, h5, h6, h7, h8⟩ := h
  have hu := p2pos r
  -- multiples of the quantum
  have main : ∀ (j : Int) (t : Rat), x - (j : Rat) * (2 : Rat) ^ r ≤ t → (j : Rat) * (2 : Rat) ^ r - x ≤ t → x - (n : Rat) * (2 : Rat) ^ r ≤ t ∧ (n : Rat) * (2 : Rat) ^ r - x ≤ t := by
    intro j t t1 t2
    rcases Int.lt_trichotomy j n with g | g | g
    · have g1 : (j : Rat) + 1 ≤ (n : Rat) := by have := Rat.intCast_le_intCast.mpr (show j + 1 ≤ n by omega); simpa using this
      have g2 := Rat.mul_le_mul_of_nonneg_right g1 (Rat.le_of_lt hu)
      generalize (2 : Rat) ^ r = u at *
      constructor <;> grind
    · subst g; exact ⟨t1, t2⟩
    · have g1 : (n : Rat) + 1 ≤ (j : Rat) := by have := Rat.intCast_le_intCast.mpr (show n + 1 ≤ j by omega); simpa using this
      have g2 := Rat.mul_le_mul_of_nonneg_right g1 (Rat.le_of_lt hu)
      generalize (2 : Rat) ^ r = u at *
      constructor <;> grind
  rcases rp_mul (r := r) hz with ⟨j, rfl⟩ | ⟨g0, g1, g2⟩
  · exact main j t t1 t2
  · rcases h8 with q | q | q
    · omega
    · refine main 4503599627370496 t ?_ ?_ <;> rw [show ((4503599627370496 : Int) : Rat) = 4503599627370496 from rfl] <;> generalize (2 : Rat) ^ r = u at * <;> grind
    · refine main (-4503599627370496) t ?_ ?_ <;> rw [show ((-4503599627370496 : Int) : Rat) = -4503599627370496 from rfl] <;> generalize (2 : Rat) ^ r = u at * <;> grind
theorem Rsp.exact {x y : Rat} (h : Rsp x y) (hx : Rp x) : y = x := by
  have := h.near hx 0 (by grind) (by grind)
  grind
theorem RR_exact {x : Rat} (hx : Rp x) (h1 : -1267650600228229401496703205376 ≤ x) (h2 : x ≤ 1267650600228229401496703205376) : RR x = x := (RR_spec h1 h2).exact hx
theorem Rsp.rp {x y : Rat} (h : Rsp x y) : Rp y := by
  obtain ⟨n, r, rfl, h2, h3, -⟩ := h
  exact ⟨n, r, rfl, h3, h2⟩
theorem Rsp.le {x y z : Rat} (h : Rsp x y) (hz : Rp z) (q : x ≤ z) : y ≤ z := by
  have := h.near hz (z - x) (by grind) (by grind)
  grind
theorem Rsp.ge {x y z : Rat} (h : Rsp x y) (hz : Rp z) (q : z ≤ x) : z ≤ y := by
  have := h.near hz (x - z) (by grind) (by grind)
  grind
theorem RR_mono {x y : Rat} (h : x ≤ y) (x1 : -1267650600228229401496703205376 ≤ x) (y2 : y ≤ 1267650600228229401496703205376) : RR x ≤ RR y := by
  by_cases q : x = y
  · rw [q]; exact Rat.le_refl
  · have hx := RR_spec x1 (by grind)
    have hy := RR_spec (by grind) y2
    by_cases g : RR x ≤ RR y
    · exact g
    · have g := Rat.not_le.mp g
      -- RR y < RR x
      have a := fun t => hx.near hy.rp t
      have b := fun t => hy.near hx.rp t
      generalize RR x = X at *
      generalize RR y = Y at *
      by_cases c1 : x ≤ Y
      · have := a (Y - x) (by grind) (by grind)
        grind
      · by_cases c2 : X ≤ y
        · have := b (y - X) (by grind) (by grind)
          grind
        · have k1 := a (x - Y) (by grind) (by grind)
          have k2 := b (X - y) (by grind) (by grind)
          grind
/-- the relative error, of what is not tiny -/
theorem Rsp.err {x y : Rat} (h : Rsp x y) (hx : 1 ≤ x * 1267650600228229401496703205376) : 9007199254740992 * (y - x) ≤ x ∧ 9007199254740992 * (x - y) ≤ x := by
  obtain ⟨n, r, rfl, h2, h3, h4, h5, h6, h7, h8⟩ := h
  have hu := p2pos r
  have k : 4503599627370496 * (2 : Rat) ^ r ≤ x := by
    rcases h8 with q | q | q
    · subst q
      have e1 : (2 : Rat) ^ (-1022 : Int) = 4503599627370496 * (2 : Rat) ^ (-1074 : Int) := by
        rw [show (-1022 : Int) = 52 + -1074 from rfl, p2add, show (2 : Rat) ^ (52 : Int) = 4503599627370496 by decide +kernel]
      have e2 : (2 : Rat) ^ (-1022 : Int) ≤ (2 : Rat) ^ (-100 : Int) := p2le (by decide)
      have e3 : (2 : Rat) ^ (-100 : Int) * (2 : Rat) ^ (100 : Int) = 1 := by rw [← p2add]; rfl
      have e4 : (2 : Rat) ^ (100 : Int) = 1267650600228229401496703205376 := by decide +kernel
      rw [e4] at e3
      rw [← e1]
      generalize (2 : Rat) ^ (-1022 : Int) = v at *
      generalize (2 : Rat) ^ (-100 : Int) = w at *
      grind
    · exact q
    · generalize (2 : Rat) ^ r = u at *
      grind
  generalize (2 : Rat) ^ r = u at *
  constructor <;> grind
/-- the error, of whatever size: relative, or below 2^-53 -/
theorem err_any {x : Rat} (h1 : -1267650600228229401496703205376 ≤ x) (h2 : x ≤ 1267650600228229401496703205376) (t : Rat) (t1 : x ≤ t) (t2 : -x ≤ t) : 9007199254740992 * (RR x - x) ≤ t + 1 ∧ 9007199254740992 * (x - RR x) ≤ t + 1 := by
  have h := RR_spec h1 h2
  generalize RR x = y at *
  obtain ⟨n, r, rfl, g2, g3, g4, g5, g6, g7, g8⟩ := h
  have hu := p2pos r
  have k : 4503599627370496 * (2 : Rat) ^ r ≤ t + 1 := by
    rcases g8 with q | q | q
    · subst q
      have e1 : (2 : Rat) ^ (-1022 : Int) = 4503599627370496 * (2 : Rat) ^ (-1074 : Int) := by
        rw [show (-1022 : Int) = 52 + -1074 from rfl, p2add, show (2 : Rat) ^ (52 : Int) = 4503599627370496 by decide +kernel]
      have e2 : (2 : Rat) ^ (-1022 : Int) ≤ (2 : Rat) ^ (0 : Int) := p2le (by decide)
      rw [Rat.zpow_zero] at e2
      rw [← e1]
      generalize (2 : Rat) ^ (-1022 : Int) = v at *
      grind
    · generalize (2 : Rat) ^ r = u at *
      grind
    · generalize (2 : Rat) ^ r = u at *
      grind
  generalize (2 : Rat) ^ r = u at *
  constructor <;> grind
theorem rp_int {n : Int} (h : n.natAbs ≤ 2 ^ 53) : Rp (n : Rat) := ⟨n, 0, by rw [Rat.zpow_zero, Rat.mul_one], h, by decide⟩
theorem rp_scale {z : Rat} (k : Int) {m : Int} (h : z = (m : Rat) * (2 : Rat) ^ k) (hm : m.natAbs ≤ 2 ^ 53) (hk : -1074 ≤ k) : Rp z := ⟨m, k, h, hm, hk⟩
theorem RR_int {n : Int} (h : n.natAbs ≤ 2 ^ 53) : RR (n : Rat) = (n : Rat) := by
  refine RR_exact (rp_int h) ?_ ?_
  · have := Rat.intCast_le_intCast.mpr (show (-9007199254740992 : Int) ≤ n by omega); grind
  · have := Rat.intCast_le_intCast.mpr (show n ≤ (9007199254740992 : Int) by omega); grind
theorem i2d_DV (n : Int32) : DV (Jvm.FP.i2d n) (n.toInt : Rat) := by
  have h := n.le_toInt
  have h' := n.toInt_lt
  have q := i2d_RR n
  rw [RR_int (by omega)] at q
  exact q
theorem l2d_DV {n : Int64} (h : n.toInt.natAbs ≤ 2 ^ 53) : DV (Jvm.FP.l2d n) (n.toInt : Rat) := by
  have q := l2d_RR n
  rw [RR_int h] at q
  exact q
/-- a written double, by its fields -/
theorem lit_DV {v : UInt64} {s : Bool} {c : Nat} {q : Int} {x : Rat} (h : val64 v = .fin s c q) (hx : ((signed s c : Int) : Rat) * (2 : Rat) ^ q = x) : DV v x := ⟨s, c, q, h, hx⟩
theorem dneg_DV {v : UInt64} {x : Rat} (h : DV v x) : DV (Jvm.FP.dneg v) (-x) := by
  obtain ⟨s, c, q, h1, rfl⟩ := h
  refine ⟨!s, c, q, by rw [Jvm.FP.val64_dneg, h1]; rfl, ?_⟩
  show ((signed (!s) c : Int) : Rat) * _ = -(((signed s c : Int) : Rat) * _)
  rw [signed_not, Rat.intCast_neg, Rat.neg_mul]
theorem DV.whole {v : UInt64} {n : Int} (h : DV v (n : Rat)) : DInt n v := by
  obtain ⟨s, c, q, h1, h2⟩ := h
  unfold DInt
  rw [h1]
  show signed s (c * 2 ^ q.toNat) = n * ((2 ^ (-q).toNat : Nat) : Int)
  refine Rat.intCast_inj.mp ?_
  have h3 : ((signed s c : Int) : Rat) * (2 : Rat) ^ q = (n : Rat) := h2
  rw [signed_mul, Rat.intCast_mul, Rat.intCast_mul, ← h3, Rat.mul_assoc, show (((2 ^ (-q).toNat : Nat) : Int) : Rat) = ((2 ^ (-q).toNat : Nat) : Rat) from rfl, show (((2 ^ q.toNat : Nat) : Int) : Rat) = ((2 ^ q.toNat : Nat) : Rat) from rfl, ← p2nat, ← p2nat, ← p2add, show q + ((-q).toNat : Int) = (q.toNat : Int) by omega]
theorem d2l_DV {v : UInt64} {n : Int64} (h : DV v (n.toInt : Rat)) : Jvm.FP.d2l v = n := d2l_int h.whole
theorem DV.cast {v : UInt64} {x y : Rat} (h : DV v x) (e : x = y) : DV v y := e ▸ h
end Jvm.OwnFl
namespace Jvm.Pilot.@@N@@
open Jvm Jvm.ClassFile Sem Op Lib Jvm.Free Jvm.Stand Jvm.LawKit Jvm.RoadKit Jvm.OwnKit Bundle Jvm.Pilot.@@N@@.Jvm.D
theorem wd {a0 : Array Value} {Z : State} {d : Jvm.Cond} (hw : ∀ d ∈ tables_1, d.before a0 Z = true) (i : Nat) (h : tables_1[i]? = some d) : d.before a0 Z = true := hw d (List.mem_of_getElem? h)
theorem d1_0 : decode prog_8_method_5_code 0 = .ok (.aload_n 0, 1) := by decide +kernel
theorem d1_1 : decode prog_8_method_5_code 1 = .ok (.invokevirtual 33, 3) := by decide +kernel
theorem d1_4 : decode prog_8_method_5_code 4 = .ok (.lookupswitch 28 #[(0, 38), (1, 42)], 28) := by decide +kernel
theorem d1_42 : decode prog_8_method_5_code 42 = .ok (.dconst 1, 1) := by decide +kernel
theorem d1_43 : decode prog_8_method_5_code 43 = .ok (.goto 7, 3) := by decide +kernel
theorem d1_46 : decode prog_8_method_5_code 46 = .ok (.dconst 1, 1) := by decide +kernel
theorem d1_47 : decode prog_8_method_5_code 47 = .ok (.iload_n 1, 1) := by decide +kernel
theorem d1_48 : decode prog_8_method_5_code 48 = .ok (.i2d, 1) := by decide +kernel
theorem d1_49 : decode prog_8_method_5_code 49 = .ok (.ddiv, 1) := by decide +kernel
theorem d1_50 : decode prog_8_method_5_code 50 = .ok (.dreturn, 1) := by decide +kernel
theorem d2_0 : decode jdk_37_method_2_code 0 = .ok (.aload_n 0, 1) := by decide +kernel
theorem d2_1 : decode jdk_37_method_2_code 1 = .ok (.getfield 7, 3) := by decide +kernel
theorem d2_4 : decode jdk_37_method_2_code 4 = .ok (.ireturn, 1) := by decide +kernel
theorem d3_0 : decode jdk_29_method_65_code 0 = .ok (.iload_n 0, 1) := by decide +kernel
theorem d3_1 : decode jdk_29_method_65_code 1 = .ok (.iload_n 1, 1) := by decide +kernel
theorem d3_2 : decode jdk_29_method_65_code 2 = .ok (.if_icmp .lt 7, 3) := by decide +kernel
theorem d3_5 : decode jdk_29_method_65_code 5 = .ok (.iload_n 0, 1) := by decide +kernel
theorem d3_6 : decode jdk_29_method_65_code 6 = .ok (.goto 4, 3) := by decide +kernel
theorem d3_9 : decode jdk_29_method_65_code 9 = .ok (.iload_n 1, 1) := by decide +kernel
theorem d3_10 : decode jdk_29_method_65_code 10 = .ok (.ireturn, 1) := by decide +kernel
theorem pd_0 : parseMethodDescriptor "()I" = some ⟨[], some .int⟩ := by decide +kernel
theorem pd_1 : parseMethodDescriptor "(I)D" = some ⟨[.int], some .double⟩ := by decide +kernel
theorem pd_2 : parseMethodDescriptor "(II)I" = some ⟨[.int, .int], some .int⟩ := by decide +kernel
section OwnPlain
open Jvm.OwnFl
theorem own_z : DV 0 0 := lit_DV (s := false) (c := 0) (q := -1074) (by decide +kernel) (by decide +kernel)
theorem own_1 : DV 4607182418800017408 1 := lit_DV (s := false) (c := 2 ^ 52) (q := -52) (by decide +kernel) (by decide +kernel)
/-- 1 - 9 * 2^-53 and 1 + 5 * 2^-52: the two bounds as the compiler wrote them -/
theorem own_lo : DV 4607182418800017399 (9007199254740983 / 9007199254740992) := lit_DV (s := false) (c := 9007199254740983) (q := -53) (by decide +kernel) (by decide +kernel)
theorem own_hi : DV 4607182418800017413 (4503599627370501 / 4503599627370496) := lit_DV (s := false) (c := 4503599627370501) (q := -52) (by decide +kernel) (by decide +kernel)
theorem own_inv {r : Int} (h1 : 1 ≤ r) (h2 : r ≤ 2147483648) : (1 / (r : Rat)) * (r : Rat) = 1 ∧ (0 : Rat) < (r : Rat) ∧ 0 < 1 / (r : Rat) ∧ 1 / (r : Rat) ≤ 1 ∧ 1 ≤ 1 / (r : Rat) * 2147483648 ∧ (1 : Rat) ≤ (r : Rat) ∧ (r : Rat) ≤ 2147483648 := by
  have n1 : (1 : Rat) ≤ (r : Rat) := by have := Rat.intCast_le_intCast.mpr h1; simpa using this
  have n2 : (r : Rat) ≤ 2147483648 := by have := Rat.intCast_le_intCast.mpr h2; simpa using this
  have hr : (0 : Rat) < (r : Rat) := by grind
  have e := Rat.div_mul_cancel (a := 1) (b := (r : Rat)) (Rat.ne_of_gt hr)
  have p : (0 : Rat) < 1 / (r : Rat) := (Rat.lt_div_iff hr).mpr (by grind)
  generalize 1 / (r : Rat) = x at *
  have k1 := Rat.mul_le_mul_of_nonneg_left n1 (Rat.le_of_lt p)
  have k2 := Rat.mul_le_mul_of_nonneg_left n2 (Rat.le_of_lt p)
  refine ⟨e, hr, p, by grind, by grind, n1, n2⟩
theorem own_w {r : Int32} (h1 : 1 ≤ r.toInt) : DV (FP.ddiv 4607182418800017408 (FP.i2d r)) (RR (1 / (r.toInt : Rat))) := by
  have h2 := r.toInt_lt
  obtain ⟨a, b, c, d, e, f, g⟩ := own_inv h1 (by omega)
  exact ddiv_DV own_1 (i2d_DV r) (Rat.ne_of_gt b) (by grind) (by grind)
theorem own_in {r : Int} (h1 : 1 ≤ r) (h2 : r ≤ 2147483648) : 0 < RR (1 / (r : Rat)) ∧ RR (1 / (r : Rat)) ≤ 1 := by
  obtain ⟨a, b, c, d, e, f, g⟩ := own_inv h1 h2
  have s := RR_spec (x := 1 / (r : Rat)) (by grind) (by grind)
  have k1 := s.ge (z := 1 / 2147483648) ⟨1, -31, by decide +kernel, by decide, by decide⟩ (by grind)
  have k2 := s.le (z := 1) ⟨1, 0, by decide +kernel, by decide, by decide⟩ d
  constructor <;> grind
theorem own_prod {r : Int} (h1 : 1 ≤ r) (h2 : r ≤ 2147483648) : 0 ≤ RR (1 / (r : Rat)) * (r : Rat) ∧ RR (1 / (r : Rat)) * (r : Rat) ≤ 2 ∧ 9007199254740983 / 9007199254740992 ≤ RR (RR (1 / (r : Rat)) * (r : Rat)) ∧ RR (RR (1 / (r : Rat)) * (r : Rat)) ≤ 4503599627370501 / 4503599627370496 := by
  obtain ⟨a, b, c, d, e, f, g⟩ := own_inv h1 h2
  have s := RR_spec (x := 1 / (r : Rat)) (by grind) (by grind)
  obtain ⟨i1, i2⟩ := own_in h1 h2
  have er := s.err (by grind)
  generalize RR (1 / (r : Rat)) = w at *
  have m1 := Rat.mul_le_mul_of_nonneg_right er.1 (Rat.le_of_lt b)
  have m2 := Rat.mul_le_mul_of_nonneg_right er.2 (Rat.le_of_lt b)
  generalize 1 / (r : Rat) = x at *
  have k1 : 9007199254740992 * (w * (r : Rat) - 1) ≤ 1 := by grind
  have k2 : 9007199254740992 * (1 - w * (r : Rat)) ≤ 1 := by grind
  clear m1 m2
  generalize w * (r : Rat) = y at *
  have t := RR_spec (x := y) (by grind) (by grind)
  refine ⟨by grind, by grind, t.ge ⟨9007199254740983, -53, by decide +kernel, by decide, by decide⟩ (by grind), t.le ⟨4503599627370501, -52, by decide +kernel, by decide, by decide⟩ (by grind)⟩
theorem own_mono {r : Int} (h1 : 1 ≤ r) (h2 : r + 1 ≤ 2147483648) : RR (1 / ((r + 1 : Int) : Rat)) < RR (1 / (r : Rat)) := by
  obtain ⟨a, b, c, d, e, f, g⟩ := own_inv h1 (by omega)
  obtain ⟨a', b', c', d', e', f', g'⟩ := own_inv (r := r + 1) (by omega) h2
  have s := (RR_spec (x := 1 / (r : Rat)) (by grind) (by grind)).err (by grind)
  have s' := (RR_spec (x := 1 / ((r + 1 : Int) : Rat)) (by grind) (by grind)).err (by grind)
  generalize RR (1 / (r : Rat)) = w at *
  generalize RR (1 / ((r + 1 : Int) : Rat)) = w' at *
  have hc : ((r + 1 : Int) : Rat) = (r : Rat) + 1 := by rw [Rat.intCast_add]; rfl
  generalize 1 / (r : Rat) = x at *
  generalize 1 / ((r + 1 : Int) : Rat) = x' at *
  rw [hc] at a' b' f' g'
  generalize (r : Rat) = R at *
  -- x R = 1, x' (R + 1) = 1: the gap x - x' = x x' is above what rounding takes
  have gap : x - x' = x * x' := by grind
  have lo : x' ≤ x * x' * 2147483648 := by
    have := Rat.mul_le_mul_of_nonneg_right e (Rat.le_of_lt c')
    grind
  have le : x ≤ 2 * x' := by
    have : 0 ≤ x' * (R - 1) := Rat.mul_nonneg (Rat.le_of_lt c') (by grind)
    have k : x' * (R + 1) = 1 := a'
    have : x * (x' * (R + 1)) = x := by rw [k]; grind
    have : x * x' * R + x * x' = x := by grind
    have : x * x' * R = x' := by grind
    have : x * x' ≤ x' := by
      have := Rat.mul_le_mul_of_nonneg_right d (Rat.le_of_lt c')
      grind
    grind
  generalize x * x' = P at *
  grind
theorem own_pow {e : Nat} (he : e ≤ 30) : RR (1 / (((2 ^ e : Nat) : Int) : Rat)) * (((2 ^ e : Nat) : Int) : Rat) = 1 := by
  have w : (2 : Rat) ^ (-(e : Int)) * (((2 ^ e : Nat) : Int) : Rat) = 1 := by
    rw [show (((2 ^ e : Nat) : Int) : Rat) = ((2 ^ e : Nat) : Rat) from rfl, ← p2nat, ← p2add, show -(e : Int) + (e : Int) = 0 by omega, Rat.zpow_zero]
  have hpos : (0 : Rat) < (((2 ^ e : Nat) : Int) : Rat) := Rat.intCast_pos.mpr (by have := Nat.two_pow_pos e; omega)
  have i1 : 1 / (((2 ^ e : Nat) : Int) : Rat) = (2 : Rat) ^ (-(e : Int)) := by
    have := Rat.div_mul_cancel (a := 1) (b := (((2 ^ e : Nat) : Int) : Rat)) (Rat.ne_of_gt hpos)
    have z : (1 / (((2 ^ e : Nat) : Int) : Rat) - (2 : Rat) ^ (-(e : Int))) * (((2 ^ e : Nat) : Int) : Rat) = 0 := by grind
    rcases Rat.mul_eq_zero.mp z with g | g
    · grind
    · exact absurd g (Rat.ne_of_gt hpos)
  have up := p2pos (-(e : Int))
  have u1 : (2 : Rat) ^ (-(e : Int)) ≤ 1 := by have := p2le (show -(e : Int) ≤ 0 by omega); rwa [Rat.zpow_zero] at this
  rw [i1, RR_exact ⟨1, -(e : Int), by rw [show ((1 : Int) : Rat) = 1 from rfl, Rat.one_mul], by decide, by omega⟩ (by grind) (by grind)]
  exact w
theorem own_shl (e : Int32) (h1 : 0 ≤ e.toInt) (h2 : e.toInt ≤ 30) : ((1 : Int32) <<< (e &&& 31)).toInt = ((2 ^ e.toInt.toNat : Nat) : Int) := by
  have key : ∀ i : Fin 31, ((1 : Int32) <<< ((Int32.ofInt (i.1 : Int)) &&& 31)).toInt = ((2 ^ i.1 : Nat) : Int) := by decide +kernel
  have k := key ⟨e.toInt.toNat, by omega⟩
  have e1 : Int32.ofInt ((e.toInt.toNat : Nat) : Int) = e := by rw [show ((e.toInt.toNat : Nat) : Int) = e.toInt by omega, Int32.ofInt_toInt]
  simp only [e1] at k
  exact k
end OwnPlain
def Q_rmO (Z : State) (a : Addr) (od : Int32) (h0 : Heap) (n0 : Nat) (v : Option Value) (h : Heap) (L : List Loc) : Prop := v = some (.int od) ∧ Fr n0 L ∧ h = h0
set_option maxRecDepth 65536 in
set_option maxHeartbeats 40000000 in
theorem rmO (l : Launch) (Z : State) (a0 : Array Value) (hw : ∀ d ∈ tables_1, d.before a0 Z = true) (ws : List Jvm.Cond) (a : Addr) (od : Int32) (h0 : Heap) (n0 : Nat) (Zs : n0 ≤ h0.size) (Fo : Fld Z h0 a "java/lang/Enum" "ordinal" "I" (.int od)) :
    Con l (⟨"java/lang/Enum", "ordinal", "()I"⟩ : MethodName) jdk_37_method_2_code 1 (some .int) ws ({ frames := 0, cells := 0, slots := 0, locals := 0 } : Room) Z #[(.ref a)] h0 ({ frames := 0, cells := 0, slots := 0, locals := 0 } : Room).cells ({ frames := 0, cells := 0, slots := 0, locals := 0 } : Room).slots (Q_rmO Z a od h0 n0) := by
  refine Con.of (Ls := #[.val (.ref a)]) (plainFor_of_name (by first | (simp [plainName, overriddenIn]; done) | decide +kernel)) (fun m => by first | (simp [entryFrame, mkF, argsToLocals, Value.category]; done) | rfl) ?_
  intro p e s m below meth c s₁ G hGe hG hx hby hml hown hnm hrt hlk hZ X0 e0
  have hown : s.vm.findClass "java/lang/Enum" = some m.cls := hown
  have hnm : meth.name = "ordinal" := hnm
  have NF0 := Fr.nil n0
  refine g_aloadN hG X0 hx (hb hby d2_0) (pc' := 1) rfl rfl rfl ?_
  show G (s₁.setTop (mkF m 1 #[.val (.ref a)] [(.ref a)]))
  refine g_getF hG X0 hx hZ hown (wd hw 15 rfl) Via.refl e0 Fo (hb hby d2_1) (pc' := 4) rfl ?_
  intro T1 X1 e1
  show G (T1.setTop (mkF m 4 #[.val (.ref a)] [(.int od)]))
  exact e_retI hGe X1 hx hrt hlk (hb hby d2_4) e1 (by decide) (by decide) (⟨rfl, NF0, rfl⟩)

def Q_rmW0 (Z : State) (a : Addr) (rr : Int32) (h0 : Heap) (n0 : Nat) (v : Option Value) (h : Heap) (L : List Loc) : Prop := v = some (.double (4607182418800017408 : UInt64)) ∧ Fr n0 L ∧ h = h0
set_option maxRecDepth 65536 in
set_option maxHeartbeats 40000000 in
theorem rmW0 (l : Launch) (Z : State) (a0 : Array Value) (hw : ∀ d ∈ tables_1, d.before a0 Z = true) (ws : List Jvm.Cond) (a : Addr) (rr : Int32) (h0 : Heap) (n0 : Nat) (Zs : n0 ≤ h0.size)  (Ex_a : Exa Z h0 a "com/example/flowmarket/flowmarket/game/Payoff") (Fo : Fld Z h0 a "java/lang/Enum" "ordinal" "I" (.int (0 : Int32))) :
    Con l (⟨"com/example/flowmarket/flowmarket/game/Payoff", "weight", "(I)D"⟩ : MethodName) prog_8_method_5_code 2 (some .double) ws ({ frames := 1, cells := 0, slots := 0, locals := 16 } : Room) Z #[(.ref a), (.int rr)] h0 ({ frames := 1, cells := 0, slots := 0, locals := 16 } : Room).cells ({ frames := 1, cells := 0, slots := 0, locals := 16 } : Room).slots (Q_rmW0 Z a rr h0 n0) := by
  refine Con.of (Ls := #[.val (.ref a), .val (.int rr)]) (plainFor_of_name (by first | (simp [plainName, overriddenIn]; done) | decide +kernel)) (fun m => by first | (simp [entryFrame, mkF, argsToLocals, Value.category]; done) | rfl) ?_
  intro p e s m below meth c s₁ G hGe hG hx hby hml hown hnm hrt hlk hZ X0 e0
  have hown : s.vm.findClass "com/example/flowmarket/flowmarket/game/Payoff" = some m.cls := hown
  have hnm : meth.name = "weight" := hnm
  have NF0 := Fr.nil n0
  refine g_aloadN hG X0 hx (hb hby d1_0) (pc' := 1) rfl rfl rfl ?_
  show G (s₁.setTop (mkF m 1 #[.val (.ref a), .val (.int rr)] [(.ref a)]))
  refine g_callVU hG X0 hx hZ (x := (⟨"com/example/flowmarket/flowmarket/game/Payoff", "ordinal", "()I"⟩ : MethodName)) (y := (⟨"java/lang/Enum", "ordinal", "()I"⟩ : MethodName)) (owner := "java/lang/Enum") 0 hown (wd hw 8 rfl) (wd hw 9 rfl) (wd hw 10 rfl) (by decide) (wd hw 12 rfl) (wd hw 11 rfl) (wd hw 13 rfl) (wd hw 14 rfl) (rmO l Z a0 hw [] a (0 : Int32) h0 n0 Zs Fo) (by decide) (by decide) (by rw [hml]; rfl) pd_0 rfl (argsL := []) (rest := []) rfl rfl (Nat.le_of_eq rfl) (hb hby d1_1) e0 Ex_a (by decide) (by decide) (pc' := 4) rfl ?_
  intro T1 rv1 L1 X1 hQ1
  obtain ⟨rfl, Nq1, eh1⟩ := hQ1
  have NF1 := Fr.app NF0 Nq1
  show G (T1.setTop (mkF m 4 #[.val (.ref a), .val (.int rr)] [(.int 0)]))
  refine g_lookup hG X1 hx (kk := (0 : Int32)) (hb hby d1_4) (by decide) (a := 0) (off := 38) (by decide) (by decide) (pc' := 42) (by decide) ?_
  show G (T1.setTop (mkF m 42 #[.val (.ref a), .val (.int rr)] []))
  refine g_dconst1 hG X1 hx (hb hby d1_42) (pc' := 43) rfl (v := (4607182418800017408 : UInt64)) rfl ?_
  show G (T1.setTop (mkF m 43 #[.val (.ref a), .val (.int rr)] [(.double 4607182418800017408)]))
  refine g_goto hG X1 hx (hb hby d1_43) (pc' := 50) (by decide) (by decide) ?_
  show G (T1.setTop (mkF m 50 #[.val (.ref a), .val (.int rr)] [(.double 4607182418800017408)]))
  exact e_retD hGe X1 hx hrt hlk (hb hby d1_50) eh1 (by decide) (by decide) (⟨rfl, NF1, rfl⟩)

def Q_rmW1 (Z : State) (a : Addr) (rr : Int32) (ev : UInt64) (h0 : Heap) (n0 : Nat) (v : Option Value) (h : Heap) (L : List Loc) : Prop := v = some (.double ev) ∧ Fr n0 L ∧ h = h0
set_option maxRecDepth 65536 in
set_option maxHeartbeats 40000000 in
theorem rmW1 (l : Launch) (Z : State) (a0 : Array Value) (hw : ∀ d ∈ tables_1, d.before a0 Z = true) (ws : List Jvm.Cond) (a : Addr) (rr : Int32) (ev : UInt64) (h0 : Heap) (n0 : Nat) (Zs : n0 ≤ h0.size) (he : FP.ddiv (4607182418800017408 : UInt64) (FP.i2d rr) = ev) (hn : Jvm.Free.Fl.NoNaN64 ev) (Ex_a : Exa Z h0 a "com/example/flowmarket/flowmarket/game/Payoff") (Fo : Fld Z h0 a "java/lang/Enum" "ordinal" "I" (.int (1 : Int32))) :
    Con l (⟨"com/example/flowmarket/flowmarket/game/Payoff", "weight", "(I)D"⟩ : MethodName) prog_8_method_5_code 2 (some .double) ws ({ frames := 1, cells := 0, slots := 0, locals := 16 } : Room) Z #[(.ref a), (.int rr)] h0 ({ frames := 1, cells := 0, slots := 0, locals := 16 } : Room).cells ({ frames := 1, cells := 0, slots := 0, locals := 16 } : Room).slots (Q_rmW1 Z a rr ev h0 n0) := by
  refine Con.of (Ls := #[.val (.ref a), .val (.int rr)]) (plainFor_of_name (by first | (simp [plainName, overriddenIn]; done) | decide +kernel)) (fun m => by first | (simp [entryFrame, mkF, argsToLocals, Value.category]; done) | rfl) ?_
  intro p e s m below meth c s₁ G hGe hG hx hby hml hown hnm hrt hlk hZ X0 e0
  have hown : s.vm.findClass "com/example/flowmarket/flowmarket/game/Payoff" = some m.cls := hown
  have hnm : meth.name = "weight" := hnm
  have NF0 := Fr.nil n0
  refine g_aloadN hG X0 hx (hb hby d1_0) (pc' := 1) rfl rfl rfl ?_
  show G (s₁.setTop (mkF m 1 #[.val (.ref a), .val (.int rr)] [(.ref a)]))
  refine g_callVU hG X0 hx hZ (x := (⟨"com/example/flowmarket/flowmarket/game/Payoff", "ordinal", "()I"⟩ : MethodName)) (y := (⟨"java/lang/Enum", "ordinal", "()I"⟩ : MethodName)) (owner := "java/lang/Enum") 0 hown (wd hw 8 rfl) (wd hw 9 rfl) (wd hw 10 rfl) (by decide) (wd hw 12 rfl) (wd hw 11 rfl) (wd hw 13 rfl) (wd hw 14 rfl) (rmO l Z a0 hw [] a (1 : Int32) h0 n0 Zs Fo) (by decide) (by decide) (by rw [hml]; rfl) pd_0 rfl (argsL := []) (rest := []) rfl rfl (Nat.le_of_eq rfl) (hb hby d1_1) e0 Ex_a (by decide) (by decide) (pc' := 4) rfl ?_
  intro T1 rv1 L1 X1 hQ1
  obtain ⟨rfl, Nq1, eh1⟩ := hQ1
  have NF1 := Fr.app NF0 Nq1
  show G (T1.setTop (mkF m 4 #[.val (.ref a), .val (.int rr)] [(.int 1)]))
  refine g_lookup hG X1 hx (kk := (1 : Int32)) (hb hby d1_4) (by decide) (a := 1) (off := 42) (by decide) (by decide) (pc' := 46) (by decide) ?_
  show G (T1.setTop (mkF m 46 #[.val (.ref a), .val (.int rr)] []))
  refine g_dconst1 hG X1 hx (hb hby d1_46) (pc' := 47) rfl (v := (4607182418800017408 : UInt64)) rfl ?_
  show G (T1.setTop (mkF m 47 #[.val (.ref a), .val (.int rr)] [(.double 4607182418800017408)]))
  refine g_iloadN hG X1 hx (hb hby d1_47) (pc' := 48) rfl rfl ?_
  show G (T1.setTop (mkF m 48 #[.val (.ref a), .val (.int rr)] [(.int rr), (.double 4607182418800017408)]))
  obtain ⟨v48, q48⟩ : ∃ zz : UInt64, FP.i2d rr = zz := ⟨_, rfl⟩
  refine g_i2d hG X1 hx (hb hby d1_48) (pc' := 49) rfl q48 ?_
  show G (T1.setTop (mkF m 49 #[.val (.ref a), .val (.int rr)] [(.double v48), (.double 4607182418800017408)]))
  obtain ⟨v49, q49⟩ : ∃ zz : UInt64, FP.ddiv (4607182418800017408 : UInt64) v48 = zz := ⟨_, rfl⟩
  refine g_ddiv hG X1 hx (hb hby d1_49) (pc' := 50) rfl (by rw [← q48, he]; exact hn) q49 ?_
  show G (T1.setTop (mkF m 50 #[.val (.ref a), .val (.int rr)] [(.double v49)]))
  have e49 : v49 = ev := by rw [← q49, ← q48, he]
  subst e49
  exact e_retD hGe X1 hx hrt hlk (hb hby d1_50) eh1 (by decide) (by decide) (⟨rfl, NF1, rfl⟩)

def Q_rmM (Z : State) (xx yy : Int32) (h0 : Heap) (n0 : Nat) (v : Option Value) (h : Heap) (L : List Loc) : Prop := v = some (.int (if xx < yy then yy else xx)) ∧ Fr n0 L ∧ h = h0
set_option maxRecDepth 65536 in
set_option maxHeartbeats 40000000 in
theorem rmM (l : Launch) (Z : State) (a0 : Array Value) (hw : ∀ d ∈ tables_1, d.before a0 Z = true) (ws : List Jvm.Cond) (xx yy : Int32) (h0 : Heap) (n0 : Nat) (Zs : n0 ≤ h0.size)  :
    Con l (⟨"java/lang/Math", "max", "(II)I"⟩ : MethodName) jdk_29_method_65_code 2 (some .int) ws ({ frames := 0, cells := 0, slots := 0, locals := 0 } : Room) Z #[(.int xx), (.int yy)] h0 ({ frames := 0, cells := 0, slots := 0, locals := 0 } : Room).cells ({ frames := 0, cells := 0, slots := 0, locals := 0 } : Room).slots (Q_rmM Z xx yy h0 n0) := by
  refine Con.of (Ls := #[.val (.int xx), .val (.int yy)]) (Jvm.Free.JP.mathPlain rfl (by decide +kernel)) (fun m => by first | (simp [entryFrame, mkF, argsToLocals, Value.category]; done) | rfl) ?_
  intro p e s m below meth c s₁ G hGe hG hx hby hml hown hnm hrt hlk hZ X0 e0
  have hown : s.vm.findClass "java/lang/Math" = some m.cls := hown
  have hnm : meth.name = "max" := hnm
  have NF0 := Fr.nil n0
  refine g_iloadN hG X0 hx (hb hby d3_0) (pc' := 1) rfl rfl ?_
  show G (s₁.setTop (mkF m 1 #[.val (.int xx), .val (.int yy)] [(.int xx)]))
  refine g_iloadN hG X0 hx (hb hby d3_1) (pc' := 2) rfl rfl ?_
  show G (s₁.setTop (mkF m 2 #[.val (.int xx), .val (.int yy)] [(.int yy), (.int xx)]))
  by_cases hlt : xx < yy
  · refine g_icmpYes hG X0 hx (hb hby d3_2) (pc' := 9) ((tlt hlt).1) (by decide) (by decide) ?_
    refine g_iloadN hG X0 hx (hb hby d3_9) (pc' := 10) rfl rfl ?_
    show G (s₁.setTop (mkF m 10 #[.val (.int xx), .val (.int yy)] [(.int yy)]))
    exact e_retI hGe X0 hx hrt hlk (hb hby d3_10) e0 (by decide) (by decide) (⟨by rw [if_pos hlt], NF0, rfl⟩)
  · refine g_icmpNo hG X0 hx (hb hby d3_2) (pc' := 5) ((flt hlt).1) rfl ?_
    refine g_iloadN hG X0 hx (hb hby d3_5) (pc' := 6) rfl rfl ?_
    show G (s₁.setTop (mkF m 6 #[.val (.int xx), .val (.int yy)] [(.int xx)]))
    refine g_goto hG X0 hx (hb hby d3_6) (pc' := 10) (by decide) (by decide) ?_
    show G (s₁.setTop (mkF m 10 #[.val (.int xx), .val (.int yy)] [(.int xx)]))
    exact e_retI hGe X0 hx hrt hlk (hb hby d3_10) e0 (by decide) (by decide) (⟨by rw [if_neg hlt], NF0, rfl⟩)

def Q_rm0 (Z : State) (fl ra kk : Int32) (h0 : Heap) (n0 : Nat) (v : Option Value) (h : Heap) (L : List Loc) : Prop := v = some (.int 1) ∧ Fr n0 L
set_option maxRecDepth 65536 in
set_option maxHeartbeats 40000000 in
theorem rm0 (l : Launch) (Z : State) (a0 : Array Value) (hw : ∀ d ∈ tables_1, d.before a0 Z = true) (ws : List Jvm.Cond) (fl ra kk : Int32) (h0 : Heap) (n0 : Nat) (Zs : n0 ≤ h0.size) (un pl : Addr) (SU : Sta Z h0 "com/example/flowmarket/flowmarket/game/Payoff" "UNIFORM" "Lcom/example/flowmarket/flowmarket/game/Payoff;" (.ref un)) (SP : Sta Z h0 "com/example/flowmarket/flowmarket/game/Payoff" "PATH_LENGTH" "Lcom/example/flowmarket/flowmarket/game/Payoff;" (.ref pl)) (Ex_un : Exa Z h0 un "com/example/flowmarket/flowmarket/game/Payoff") (Ex_pl : Exa Z h0 pl "com/example/flowmarket/flowmarket/game/Payoff") (Fu : Fld Z h0 un "java/lang/Enum" "ordinal" "I" (.int (0 : Int32))) (Fp : Fld Z h0 pl "java/lang/Enum" "ordinal" "I" (.int (1 : Int32))) :
    Con l x code maxLocals ret ws room_1 Z #[(.int fl), (.int ra), (.int kk)] h0 room_1.cells room_1.slots (Q_rm0 Z fl ra kk h0 n0) := by
  refine Con.of (Ls := #[.val (.int fl), .val (.int ra), .val (.int kk), .unset, .unset, .unset, .unset, .unset, .unset, .unset, .unset, .unset, .unset, .unset, .unset, .unset, .unset, .unset]) (plainFor_of_name (by first | (simp [plainName, overriddenIn]; done) | decide +kernel)) (fun m => by first | (simp [entryFrame, mkF, argsToLocals, Value.category, maxLocals]; done) | rfl) ?_
  intro p e s m below meth c s₁ G hGe hG hx hby hml hown hnm hrt hlk hZ X0 e0
  have hml : c.maxLocals = 18 := hml
  have hown : s.vm.findClass "com/example/flowmarket/flowmarket/game/PayoffWeightPinLaw" = some m.cls := hown
  have hnm : meth.name = "law" := hnm
  have NF0 := Fr.nil n0
  refine g_iloadN hG X0 hx (hb hby at_0) (pc' := 1) rfl rfl ?_
  show G (s₁.setTop (mkF m 1 #[.val (.int fl), .val (.int ra), .val (.int kk), .unset, .unset, .unset, .unset, .unset, .unset, .unset, .unset, .unset, .unset, .unset, .unset, .unset, .unset, .unset] [(.int fl)]))
  refine g_iconst hG X0 hx (hb hby at_1) (pc' := 2) rfl (v := (1 : Int32)) rfl ?_
  show G (s₁.setTop (mkF m 2 #[.val (.int fl), .val (.int ra), .val (.int kk), .unset, .unset, .unset, .unset, .unset, .unset, .unset, .unset, .unset, .unset, .unset, .unset, .unset, .unset, .unset] [(.int 1), (.int fl)]))
  obtain ⟨v2, q2⟩ : ∃ zz : Int32, fl &&& (1 : Int32) = zz := ⟨_, rfl⟩
  refine g_iand hG X0 hx (hb hby at_2) (pc' := 3) rfl q2 ?_
  show G (s₁.setTop (mkF m 3 #[.val (.int fl), .val (.int ra), .val (.int kk), .unset, .unset, .unset, .unset, .unset, .unset, .unset, .unset, .unset, .unset, .unset, .unset, .unset, .unset, .unset] [(.int v2)]))
  by_cases hc3 : v2 = (0 : Int32)
  · refine g_ifNo hG X0 hx (hb hby at_3) (pc' := 6) ((if0 _ _).trans (teq hc3).2) rfl ?_
    refine g_getS hG X0 hx hZ hown (wd hw 0 rfl) Via.refl e0 SU (hb hby at_6) (pc' := 9) rfl ?_
    intro T1 X1 e1
    show G (T1.setTop (mkF m 9 #[.val (.int fl), .val (.int ra), .val (.int kk), .unset, .unset, .unset, .unset, .unset, .unset, .unset, .unset, .unset, .unset, .unset, .unset, .unset, .unset, .unset] [(.ref un)]))
    refine g_iloadN hG X1 hx (hb hby at_9) (pc' := 10) rfl rfl ?_
    show G (T1.setTop (mkF m 10 #[.val (.int fl), .val (.int ra), .val (.int kk), .unset, .unset, .unset, .unset, .unset, .unset, .unset, .unset, .unset, .unset, .unset, .unset, .unset, .unset, .unset] [(.int ra), (.ref un)]))
    refine g_callV hG X1 hx hZ (y := (⟨"com/example/flowmarket/flowmarket/game/Payoff", "weight", "(I)D"⟩ : MethodName)) 0 hown (wd hw 3 rfl) (wd hw 4 rfl) (wd hw 6 rfl) (wd hw 5 rfl) (wd hw 1 rfl) (wd hw 7 rfl) (by decide) (rmW0 l Z a0 hw [] un ra h0 n0 Zs Ex_un Fu) (by decide) (by decide) (by rw [hml]; rfl) pd_1 rfl (argsL := [(.int ra)]) (rest := []) rfl rfl (Nat.le_of_eq rfl) (hb hby at_10) e1 Ex_un (by decide) (by decide) (pc' := 13) rfl ?_
    intro T2 rv2 L2 X2 hQ2
    obtain ⟨rfl, Nq2, eh2⟩ := hQ2
    have NF2 := Fr.app NF0 Nq2
    show G (T2.setTop (mkF m 13 #[.val (.int fl), .val (.int ra), .val (.int kk), .unset, .unset, .unset, .unset, .unset, .unset, .unset, .unset, .unset, .unset, .unset, .unset, .unset, .unset, .unset] [(.double 4607182418800017408)]))
    refine g_dconst1 hG X2 hx (hb hby at_13) (pc' := 14) rfl (v := (4607182418800017408 : UInt64)) rfl ?_
    show G (T2.setTop (mkF m 14 #[.val (.int fl), .val (.int ra), .val (.int kk), .unset, .unset, .unset, .unset, .unset, .unset, .unset, .unset, .unset, .unset, .unset, .unset, .unset, .unset, .unset] [(.double 4607182418800017408), (.double 4607182418800017408)]))
    obtain ⟨v14, q14⟩ : ∃ zz : Int32, cmpValue (FP.dcmp (4607182418800017408 : UInt64) (4607182418800017408 : UInt64)) .l = zz := ⟨_, rfl⟩
    refine g_dcmp hG X2 hx (hb hby at_14) (pc' := 15) rfl q14 ?_
    show G (T2.setTop (mkF m 15 #[.val (.int fl), .val (.int ra), .val (.int kk), .unset, .unset, .unset, .unset, .unset, .unset, .unset, .unset, .unset, .unset, .unset, .unset, .unset, .unset, .unset] [(.int v14)]))
    refine g_ifNo hG X2 hx (hb hby at_15) (pc' := 18) (by rw [← q14, OwnFl.dcmp_eq own_1 own_1 rfl]; rfl) rfl ?_
    show G (T2.setTop (mkF m 18 #[.val (.int fl), .val (.int ra), .val (.int kk), .unset, .unset, .unset, .unset, .unset, .unset, .unset, .unset, .unset, .unset, .unset, .unset, .unset, .unset, .unset] []))
    refine g_iconst hG X2 hx (hb hby at_18) (pc' := 19) rfl (v := (1 : Int32)) rfl ?_
    show G (T2.setTop (mkF m 19 #[.val (.int fl), .val (.int ra), .val (.int kk), .unset, .unset, .unset, .unset, .unset, .unset, .unset, .unset, .unset, .unset, .unset, .unset, .unset, .unset, .unset] [(.int 1)]))
    refine g_goto hG X2 hx (hb hby at_19) (pc' := 23) (by decide) (by decide) ?_
    show G (T2.setTop (mkF m 23 #[.val (.int fl), .val (.int ra), .val (.int kk), .unset, .unset, .unset, .unset, .unset, .unset, .unset, .unset, .unset, .unset, .unset, .unset, .unset, .unset, .unset] [(.int 1)]))
    exact e_retZ hGe X2 hx hrt hlk (hb hby at_23) (Or.inr rfl) eh2 (by decide) (by decide) (⟨rfl, NF2⟩)
  · refine g_ifYes hG X0 hx (hb hby at_3) (pc' := 24) ((if0 _ _).trans (feq hc3).2) (by decide) (by decide) ?_
    refine g_getS hG X0 hx hZ hown (wd hw 17 rfl) Via.refl e0 SP (hb hby at_24) (pc' := 27) rfl ?_
    intro T3 X3 e3
    show G (T3.setTop (mkF m 27 #[.val (.int fl), .val (.int ra), .val (.int kk), .unset, .unset, .unset, .unset, .unset, .unset, .unset, .unset, .unset, .unset, .unset, .unset, .unset, .unset, .unset] [(.ref pl)]))
    refine g_astoreN hG X3 hx (hb hby at_27) (pc' := 28) rfl rfl (Ls' := #[.val (.int fl), .val (.int ra), .val (.int kk), .val (.ref pl), .unset, .unset, .unset, .unset, .unset, .unset, .unset, .unset, .unset, .unset, .unset, .unset, .unset, .unset]) rfl ?_
    show G (T3.setTop (mkF m 28 #[.val (.int fl), .val (.int ra), .val (.int kk), .val (.ref pl), .unset, .unset, .unset, .unset, .unset, .unset, .unset, .unset, .unset, .unset, .unset, .unset, .unset, .unset] []))
    refine g_iconst hG X3 hx (hb hby at_28) (pc' := 29) rfl (v := (1 : Int32)) rfl ?_
    show G (T3.setTop (mkF m 29 #[.val (.int fl), .val (.int ra), .val (.int kk), .val (.ref pl), .unset, .unset, .unset, .unset, .unset, .unset, .unset, .unset, .unset, .unset, .unset, .unset, .unset, .unset] [(.int 1)]))
    refine g_iloadN hG X3 hx (hb hby at_29) (pc' := 30) rfl rfl ?_
    show G (T3.setTop (mkF m 30 #[.val (.int fl), .val (.int ra), .val (.int kk), .val (.ref pl), .unset, .unset, .unset, .unset, .unset, .unset, .unset, .unset, .unset, .unset, .unset, .unset, .unset, .unset] [(.int ra), (.int 1)]))
    refine g_ldcInt hG X3 hx hZ hown (wd hw 19 rfl) (hb hby at_30) (pc' := 32) rfl ?_
    show G (T3.setTop (mkF m 32 #[.val (.int fl), .val (.int ra), .val (.int kk), .val (.ref pl), .unset, .unset, .unset, .unset, .unset, .unset, .unset, .unset, .unset, .unset, .unset, .unset, .unset, .unset] [(.int 2147483647), (.int ra), (.int 1)]))
    obtain ⟨v32, q32⟩ : ∃ zz : Int32, ra &&& (2147483647 : Int32) = zz := ⟨_, rfl⟩
    refine g_iand hG X3 hx (hb hby at_32) (pc' := 33) rfl q32 ?_
    show G (T3.setTop (mkF m 33 #[.val (.int fl), .val (.int ra), .val (.int kk), .val (.ref pl), .unset, .unset, .unset, .unset, .unset, .unset, .unset, .unset, .unset, .unset, .unset, .unset, .unset, .unset] [(.int v32), (.int 1)]))
    obtain ⟨rr, hrr⟩ : ∃ z : Int32, (if (1 : Int32) < v32 then v32 else 1) = z := ⟨_, rfl⟩
    have m1 : 1 ≤ rr.toInt := by
      rw [← hrr]
      split
      · rename_i g
        have := Int32.lt_iff_toInt_lt.mp g
        have c : (1 : Int32).toInt = 1 := by decide
        omega
      · decide
    have m1' := rr.toInt_lt
    refine g_callS hG X3 hx hZ (y := (⟨"java/lang/Math", "max", "(II)I"⟩ : MethodName)) 0 hown (wd hw 20 rfl) (wd hw 21 rfl) (wd hw 22 rfl) (wd hw 23 rfl) (by decide) (rmM l Z a0 hw [] (1 : Int32) v32 h0 n0 Zs) (by decide) (by decide) (by rw [hml]; rfl) pd_2 rfl (argsL := [(.int 1), (.int v32)]) (rest := []) rfl rfl (Nat.le_of_eq rfl) (hb hby at_33) e3 (by decide) (by decide) (pc' := 36) rfl ?_
    intro T4 rv4 L4 X4 hQ4
    obtain ⟨rfl, Nq4, eh4⟩ := hQ4
    have NF4 := Fr.app NF0 Nq4
    rw [hrr]
    show G (T4.setTop (mkF m 36 #[.val (.int fl), .val (.int ra), .val (.int kk), .val (.ref pl), .unset, .unset, .unset, .unset, .unset, .unset, .unset, .unset, .unset, .unset, .unset, .unset, .unset, .unset] [(.int rr)]))
    refine g_istore hG X4 hx (hb hby at_36) (pc' := 38) rfl (Ls' := #[.val (.int fl), .val (.int ra), .val (.int kk), .val (.ref pl), .val (.int rr), .unset, .unset, .unset, .unset, .unset, .unset, .unset, .unset, .unset, .unset, .unset, .unset, .unset]) rfl ?_
    show G (T4.setTop (mkF m 38 #[.val (.int fl), .val (.int ra), .val (.int kk), .val (.ref pl), .val (.int rr), .unset, .unset, .unset, .unset, .unset, .unset, .unset, .unset, .unset, .unset, .unset, .unset, .unset] []))
    refine g_aloadN hG X4 hx (hb hby at_38) (pc' := 39) rfl rfl rfl ?_
    show G (T4.setTop (mkF m 39 #[.val (.int fl), .val (.int ra), .val (.int kk), .val (.ref pl), .val (.int rr), .unset, .unset, .unset, .unset, .unset, .unset, .unset, .unset, .unset, .unset, .unset, .unset, .unset] [(.ref pl)]))
    refine g_iload hG X4 hx (hb hby at_39) (pc' := 41) rfl rfl ?_
    show G (T4.setTop (mkF m 41 #[.val (.int fl), .val (.int ra), .val (.int kk), .val (.ref pl), .val (.int rr), .unset, .unset, .unset, .unset, .unset, .unset, .unset, .unset, .unset, .unset, .unset, .unset, .unset] [(.int rr), (.ref pl)]))
    obtain ⟨w1, hw1⟩ : ∃ z, FP.ddiv (4607182418800017408 : UInt64) (FP.i2d rr) = z := ⟨_, rfl⟩
    have Dw1 := own_w (r := rr) m1
    rw [hw1] at Dw1
    refine g_callV hG X4 hx hZ (y := (⟨"com/example/flowmarket/flowmarket/game/Payoff", "weight", "(I)D"⟩ : MethodName)) 0 hown (wd hw 3 rfl) (wd hw 4 rfl) (wd hw 6 rfl) (wd hw 5 rfl) (wd hw 1 rfl) (wd hw 7 rfl) (by decide) (rmW1 l Z a0 hw [] pl rr w1 h0 n0 Zs hw1 Dw1.noNaN Ex_pl Fp) (by decide) (by decide) (by rw [hml]; rfl) pd_1 rfl (argsL := [(.int rr)]) (rest := []) rfl rfl (Nat.le_of_eq rfl) (hb hby at_41) eh4 Ex_pl (by decide) (by decide) (pc' := 44) rfl ?_
    intro T5 rv5 L5 X5 hQ5
    obtain ⟨rfl, Nq5, eh5⟩ := hQ5
    have NF5 := Fr.app NF4 Nq5
    show G (T5.setTop (mkF m 44 #[.val (.int fl), .val (.int ra), .val (.int kk), .val (.ref pl), .val (.int rr), .unset, .unset, .unset, .unset, .unset, .unset, .unset, .unset, .unset, .unset, .unset, .unset, .unset] [(.double w1)]))
    refine g_dstore hG X5 hx (hb hby at_44) (pc' := 46) rfl (Ls' := #[.val (.int fl), .val (.int ra), .val (.int kk), .val (.ref pl), .val (.int rr), .val (.double w1), .second, .unset, .unset, .unset, .unset, .unset, .unset, .unset, .unset, .unset, .unset, .unset]) rfl ?_
    show G (T5.setTop (mkF m 46 #[.val (.int fl), .val (.int ra), .val (.int kk), .val (.ref pl), .val (.int rr), .val (.double w1), .second, .unset, .unset, .unset, .unset, .unset, .unset, .unset, .unset, .unset, .unset, .unset] []))
    obtain ⟨i1, i2⟩ := own_in m1 (show rr.toInt ≤ 2147483648 by omega)
    obtain ⟨p0, p1, p2, p3⟩ := own_prod m1 (show rr.toInt ≤ 2147483648 by omega)
    refine g_dload hG X5 hx (hb hby at_46) (pc' := 48) rfl rfl ?_
    show G (T5.setTop (mkF m 48 #[.val (.int fl), .val (.int ra), .val (.int kk), .val (.ref pl), .val (.int rr), .val (.double w1), .second, .unset, .unset, .unset, .unset, .unset, .unset, .unset, .unset, .unset, .unset, .unset] [(.double w1)]))
    refine g_dconst0 hG X5 hx (hb hby at_48) (pc' := 49) rfl (v := (0 : UInt64)) rfl ?_
    show G (T5.setTop (mkF m 49 #[.val (.int fl), .val (.int ra), .val (.int kk), .val (.ref pl), .val (.int rr), .val (.double w1), .second, .unset, .unset, .unset, .unset, .unset, .unset, .unset, .unset, .unset, .unset, .unset] [(.double 0), (.double w1)]))
    obtain ⟨v49, q49⟩ : ∃ zz : Int32, cmpValue (FP.dcmp w1 (0 : UInt64)) .l = zz := ⟨_, rfl⟩
    refine g_dcmp hG X5 hx (hb hby at_49) (pc' := 50) rfl q49 ?_
    show G (T5.setTop (mkF m 50 #[.val (.int fl), .val (.int ra), .val (.int kk), .val (.ref pl), .val (.int rr), .val (.double w1), .second, .unset, .unset, .unset, .unset, .unset, .unset, .unset, .unset, .unset, .unset, .unset] [(.int v49)]))
    refine g_ifNo hG X5 hx (hb hby at_50) (pc' := 53) (by rw [← q49, OwnFl.dcmp_gt Dw1 own_z i1]; rfl) rfl ?_
    show G (T5.setTop (mkF m 53 #[.val (.int fl), .val (.int ra), .val (.int kk), .val (.ref pl), .val (.int rr), .val (.double w1), .second, .unset, .unset, .unset, .unset, .unset, .unset, .unset, .unset, .unset, .unset, .unset] []))
    refine g_dload hG X5 hx (hb hby at_53) (pc' := 55) rfl rfl ?_
    show G (T5.setTop (mkF m 55 #[.val (.int fl), .val (.int ra), .val (.int kk), .val (.ref pl), .val (.int rr), .val (.double w1), .second, .unset, .unset, .unset, .unset, .unset, .unset, .unset, .unset, .unset, .unset, .unset] [(.double w1)]))
    refine g_dconst1 hG X5 hx (hb hby at_55) (pc' := 56) rfl (v := (4607182418800017408 : UInt64)) rfl ?_
    show G (T5.setTop (mkF m 56 #[.val (.int fl), .val (.int ra), .val (.int kk), .val (.ref pl), .val (.int rr), .val (.double w1), .second, .unset, .unset, .unset, .unset, .unset, .unset, .unset, .unset, .unset, .unset, .unset] [(.double 4607182418800017408), (.double w1)]))
    obtain ⟨v56, q56⟩ : ∃ zz : Int32, cmpValue (FP.dcmp w1 (4607182418800017408 : UInt64)) .g = zz := ⟨_, rfl⟩
    refine g_dcmp hG X5 hx (hb hby at_56) (pc' := 57) rfl q56 ?_
    show G (T5.setTop (mkF m 57 #[.val (.int fl), .val (.int ra), .val (.int kk), .val (.ref pl), .val (.int rr), .val (.double w1), .second, .unset, .unset, .unset, .unset, .unset, .unset, .unset, .unset, .unset, .unset, .unset] [(.int v56)]))
    refine g_ifNo hG X5 hx (hb hby at_57) (pc' := 60) (by rcases OwnFl.dcmp_le Dw1 own_1 i2 with g | g <;> rw [← q56, g] <;> rfl) rfl ?_
    show G (T5.setTop (mkF m 60 #[.val (.int fl), .val (.int ra), .val (.int kk), .val (.ref pl), .val (.int rr), .val (.double w1), .second, .unset, .unset, .unset, .unset, .unset, .unset, .unset, .unset, .unset, .unset, .unset] []))
    refine g_iconst hG X5 hx (hb hby at_60) (pc' := 61) rfl (v := (1 : Int32)) rfl ?_
    show G (T5.setTop (mkF m 61 #[.val (.int fl), .val (.int ra), .val (.int kk), .val (.ref pl), .val (.int rr), .val (.double w1), .second, .unset, .unset, .unset, .unset, .unset, .unset, .unset, .unset, .unset, .unset, .unset] [(.int 1)]))
    refine g_goto hG X5 hx (hb hby at_61) (pc' := 65) (by decide) (by decide) ?_
    show G (T5.setTop (mkF m 65 #[.val (.int fl), .val (.int ra), .val (.int kk), .val (.ref pl), .val (.int rr), .val (.double w1), .second, .unset, .unset, .unset, .unset, .unset, .unset, .unset, .unset, .unset, .unset, .unset] [(.int 1)]))
    refine g_istore hG X5 hx (hb hby at_65) (pc' := 67) rfl (Ls' := #[.val (.int fl), .val (.int ra), .val (.int kk), .val (.ref pl), .val (.int rr), .val (.double w1), .second, .val (.int 1), .unset, .unset, .unset, .unset, .unset, .unset, .unset, .unset, .unset, .unset]) rfl ?_
    show G (T5.setTop (mkF m 67 #[.val (.int fl), .val (.int ra), .val (.int kk), .val (.ref pl), .val (.int rr), .val (.double w1), .second, .val (.int 1), .unset, .unset, .unset, .unset, .unset, .unset, .unset, .unset, .unset, .unset] []))
    refine g_dload hG X5 hx (hb hby at_67) (pc' := 69) rfl rfl ?_
    show G (T5.setTop (mkF m 69 #[.val (.int fl), .val (.int ra), .val (.int kk), .val (.ref pl), .val (.int rr), .val (.double w1), .second, .val (.int 1), .unset, .unset, .unset, .unset, .unset, .unset, .unset, .unset, .unset, .unset] [(.double w1)]))
    refine g_iload hG X5 hx (hb hby at_69) (pc' := 71) rfl rfl ?_
    show G (T5.setTop (mkF m 71 #[.val (.int fl), .val (.int ra), .val (.int kk), .val (.ref pl), .val (.int rr), .val (.double w1), .second, .val (.int 1), .unset, .unset, .unset, .unset, .unset, .unset, .unset, .unset, .unset, .unset] [(.int rr), (.double w1)]))
    obtain ⟨v71, q71⟩ : ∃ zz : UInt64, FP.i2d rr = zz := ⟨_, rfl⟩
    refine g_i2d hG X5 hx (hb hby at_71) (pc' := 72) rfl q71 ?_
    show G (T5.setTop (mkF m 72 #[.val (.int fl), .val (.int ra), .val (.int kk), .val (.ref pl), .val (.int rr), .val (.double w1), .second, .val (.int 1), .unset, .unset, .unset, .unset, .unset, .unset, .unset, .unset, .unset, .unset] [(.double v71), (.double w1)]))
    obtain ⟨v72, q72⟩ : ∃ zz : UInt64, FP.dmul w1 v71 = zz := ⟨_, rfl⟩
    have D72 := OwnFl.dmul_DV Dw1 (OwnFl.i2d_DV rr) (by grind) (by grind)
    rw [q71, q72] at D72
    refine g_dmul hG X5 hx (hb hby at_72) (pc' := 73) rfl (by rw [q72]; exact D72.noNaN) q72 ?_
    show G (T5.setTop (mkF m 73 #[.val (.int fl), .val (.int ra), .val (.int kk), .val (.ref pl), .val (.int rr), .val (.double w1), .second, .val (.int 1), .unset, .unset, .unset, .unset, .unset, .unset, .unset, .unset, .unset, .unset] [(.double v72)]))
    refine g_dstore hG X5 hx (hb hby at_73) (pc' := 75) rfl (Ls' := #[.val (.int fl), .val (.int ra), .val (.int kk), .val (.ref pl), .val (.int rr), .val (.double w1), .second, .val (.int 1), .val (.double v72), .second, .unset, .unset, .unset, .unset, .unset, .unset, .unset, .unset]) rfl ?_
    show G (T5.setTop (mkF m 75 #[.val (.int fl), .val (.int ra), .val (.int kk), .val (.ref pl), .val (.int rr), .val (.double w1), .second, .val (.int 1), .val (.double v72), .second, .unset, .unset, .unset, .unset, .unset, .unset, .unset, .unset] []))
    refine g_dload hG X5 hx (hb hby at_75) (pc' := 77) rfl rfl ?_
    show G (T5.setTop (mkF m 77 #[.val (.int fl), .val (.int ra), .val (.int kk), .val (.ref pl), .val (.int rr), .val (.double w1), .second, .val (.int 1), .val (.double v72), .second, .unset, .unset, .unset, .unset, .unset, .unset, .unset, .unset] [(.double v72)]))
    refine g_ldcDouble hG X5 hx hZ hown (wd hw 24 rfl) (hb hby at_77) (pc' := 80) rfl ?_
    show G (T5.setTop (mkF m 80 #[.val (.int fl), .val (.int ra), .val (.int kk), .val (.ref pl), .val (.int rr), .val (.double w1), .second, .val (.int 1), .val (.double v72), .second, .unset, .unset, .unset, .unset, .unset, .unset, .unset, .unset] [(.double 4607182418800017399), (.double v72)]))
    obtain ⟨v80, q80⟩ : ∃ zz : Int32, cmpValue (FP.dcmp v72 (4607182418800017399 : UInt64)) .l = zz := ⟨_, rfl⟩
    refine g_dcmp hG X5 hx (hb hby at_80) (pc' := 81) rfl q80 ?_
    show G (T5.setTop (mkF m 81 #[.val (.int fl), .val (.int ra), .val (.int kk), .val (.ref pl), .val (.int rr), .val (.double w1), .second, .val (.int 1), .val (.double v72), .second, .unset, .unset, .unset, .unset, .unset, .unset, .unset, .unset] [(.int v80)]))
    refine g_ifNo hG X5 hx (hb hby at_81) (pc' := 84) (by rcases OwnFl.dcmp_ge D72 own_lo p2 with g | g <;> rw [← q80, g] <;> rfl) rfl ?_
    show G (T5.setTop (mkF m 84 #[.val (.int fl), .val (.int ra), .val (.int kk), .val (.ref pl), .val (.int rr), .val (.double w1), .second, .val (.int 1), .val (.double v72), .second, .unset, .unset, .unset, .unset, .unset, .unset, .unset, .unset] []))
    refine g_dload hG X5 hx (hb hby at_84) (pc' := 86) rfl rfl ?_
    show G (T5.setTop (mkF m 86 #[.val (.int fl), .val (.int ra), .val (.int kk), .val (.ref pl), .val (.int rr), .val (.double w1), .second, .val (.int 1), .val (.double v72), .second, .unset, .unset, .unset, .unset, .unset, .unset, .unset, .unset] [(.double v72)]))
    refine g_ldcDouble hG X5 hx hZ hown (wd hw 25 rfl) (hb hby at_86) (pc' := 89) rfl ?_
    show G (T5.setTop (mkF m 89 #[.val (.int fl), .val (.int ra), .val (.int kk), .val (.ref pl), .val (.int rr), .val (.double w1), .second, .val (.int 1), .val (.double v72), .second, .unset, .unset, .unset, .unset, .unset, .unset, .unset, .unset] [(.double 4607182418800017413), (.double v72)]))
    obtain ⟨v89, q89⟩ : ∃ zz : Int32, cmpValue (FP.dcmp v72 (4607182418800017413 : UInt64)) .g = zz := ⟨_, rfl⟩
    refine g_dcmp hG X5 hx (hb hby at_89) (pc' := 90) rfl q89 ?_
    show G (T5.setTop (mkF m 90 #[.val (.int fl), .val (.int ra), .val (.int kk), .val (.ref pl), .val (.int rr), .val (.double w1), .second, .val (.int 1), .val (.double v72), .second, .unset, .unset, .unset, .unset, .unset, .unset, .unset, .unset] [(.int v89)]))
    refine g_ifNo hG X5 hx (hb hby at_90) (pc' := 93) (by rcases OwnFl.dcmp_le D72 own_hi p3 with g | g <;> rw [← q89, g] <;> rfl) rfl ?_
    show G (T5.setTop (mkF m 93 #[.val (.int fl), .val (.int ra), .val (.int kk), .val (.ref pl), .val (.int rr), .val (.double w1), .second, .val (.int 1), .val (.double v72), .second, .unset, .unset, .unset, .unset, .unset, .unset, .unset, .unset] []))
    refine g_iconst hG X5 hx (hb hby at_93) (pc' := 94) rfl (v := (1 : Int32)) rfl ?_
    show G (T5.setTop (mkF m 94 #[.val (.int fl), .val (.int ra), .val (.int kk), .val (.ref pl), .val (.int rr), .val (.double w1), .second, .val (.int 1), .val (.double v72), .second, .unset, .unset, .unset, .unset, .unset, .unset, .unset, .unset] [(.int 1)]))
    refine g_goto hG X5 hx (hb hby at_94) (pc' := 98) (by decide) (by decide) ?_
    show G (T5.setTop (mkF m 98 #[.val (.int fl), .val (.int ra), .val (.int kk), .val (.ref pl), .val (.int rr), .val (.double w1), .second, .val (.int 1), .val (.double v72), .second, .unset, .unset, .unset, .unset, .unset, .unset, .unset, .unset] [(.int 1)]))
    refine g_istore hG X5 hx (hb hby at_98) (pc' := 100) rfl (Ls' := #[.val (.int fl), .val (.int ra), .val (.int kk), .val (.ref pl), .val (.int rr), .val (.double w1), .second, .val (.int 1), .val (.double v72), .second, .val (.int 1), .unset, .unset, .unset, .unset, .unset, .unset, .unset]) rfl ?_
    show G (T5.setTop (mkF m 100 #[.val (.int fl), .val (.int ra), .val (.int kk), .val (.ref pl), .val (.int rr), .val (.double w1), .second, .val (.int 1), .val (.double v72), .second, .val (.int 1), .unset, .unset, .unset, .unset, .unset, .unset, .unset] []))
    refine g_iload hG X5 hx (hb hby at_100) (pc' := 102) rfl rfl ?_
    show G (T5.setTop (mkF m 102 #[.val (.int fl), .val (.int ra), .val (.int kk), .val (.ref pl), .val (.int rr), .val (.double w1), .second, .val (.int 1), .val (.double v72), .second, .val (.int 1), .unset, .unset, .unset, .unset, .unset, .unset, .unset] [(.int rr)]))
    refine g_iconst hG X5 hx (hb hby at_102) (pc' := 103) rfl (v := (1 : Int32)) rfl ?_
    show G (T5.setTop (mkF m 103 #[.val (.int fl), .val (.int ra), .val (.int kk), .val (.ref pl), .val (.int rr), .val (.double w1), .second, .val (.int 1), .val (.double v72), .second, .val (.int 1), .unset, .unset, .unset, .unset, .unset, .unset, .unset] [(.int 1), (.int rr)]))
    have cont : ∀ _u : Unit, G (T5.setTop (mkF m 120 #[.val (.int fl), .val (.int ra), .val (.int kk), .val (.ref pl), .val (.int rr), .val (.double w1), .second, .val (.int 1), .val (.double v72), .second, .val (.int 1), .val (.int 1), .unset, .unset, .unset, .unset, .unset, .unset] [])) := by
      intro _u
      refine g_iconst hG X5 hx (hb hby at_120) (pc' := 121) rfl (v := (1 : Int32)) rfl ?_
      show G (T5.setTop (mkF m 121 #[.val (.int fl), .val (.int ra), .val (.int kk), .val (.ref pl), .val (.int rr), .val (.double w1), .second, .val (.int 1), .val (.double v72), .second, .val (.int 1), .val (.int 1), .unset, .unset, .unset, .unset, .unset, .unset] [(.int 1)]))
      refine g_istore hG X5 hx (hb hby at_121) (pc' := 123) rfl (Ls' := #[.val (.int fl), .val (.int ra), .val (.int kk), .val (.ref pl), .val (.int rr), .val (.double w1), .second, .val (.int 1), .val (.double v72), .second, .val (.int 1), .val (.int 1), .val (.int 1), .unset, .unset, .unset, .unset, .unset]) rfl ?_
      show G (T5.setTop (mkF m 123 #[.val (.int fl), .val (.int ra), .val (.int kk), .val (.ref pl), .val (.int rr), .val (.double w1), .second, .val (.int 1), .val (.double v72), .second, .val (.int 1), .val (.int 1), .val (.int 1), .unset, .unset, .unset, .unset, .unset] []))
      refine g_iload hG X5 hx (hb hby at_123) (pc' := 125) rfl rfl ?_
      show G (T5.setTop (mkF m 125 #[.val (.int fl), .val (.int ra), .val (.int kk), .val (.ref pl), .val (.int rr), .val (.double w1), .second, .val (.int 1), .val (.double v72), .second, .val (.int 1), .val (.int 1), .val (.int 1), .unset, .unset, .unset, .unset, .unset] [(.int rr)]))
      refine g_ldcInt hG X5 hx hZ hown (wd hw 19 rfl) (hb hby at_125) (pc' := 127) rfl ?_
      show G (T5.setTop (mkF m 127 #[.val (.int fl), .val (.int ra), .val (.int kk), .val (.ref pl), .val (.int rr), .val (.double w1), .second, .val (.int 1), .val (.double v72), .second, .val (.int 1), .val (.int 1), .val (.int 1), .unset, .unset, .unset, .unset, .unset] [(.int 2147483647), (.int rr)]))
      by_cases hc127 : rr = (2147483647 : Int32)
      · refine g_icmpYes hG X5 hx (hb hby at_127) (pc' := 155) ((teq hc127).1) (by decide) (by decide) ?_
        refine g_iloadN hG X5 hx (hb hby at_155) (pc' := 156) rfl rfl ?_
        show G (T5.setTop (mkF m 156 #[.val (.int fl), .val (.int ra), .val (.int kk), .val (.ref pl), .val (.int rr), .val (.double w1), .second, .val (.int 1), .val (.double v72), .second, .val (.int 1), .val (.int 1), .val (.int 1), .unset, .unset, .unset, .unset, .unset] [(.int kk)]))
        refine g_ldcInt hG X5 hx hZ hown (wd hw 19 rfl) (hb hby at_156) (pc' := 158) rfl ?_
        show G (T5.setTop (mkF m 158 #[.val (.int fl), .val (.int ra), .val (.int kk), .val (.ref pl), .val (.int rr), .val (.double w1), .second, .val (.int 1), .val (.double v72), .second, .val (.int 1), .val (.int 1), .val (.int 1), .unset, .unset, .unset, .unset, .unset] [(.int 2147483647), (.int kk)]))
        obtain ⟨v158, q158⟩ : ∃ zz : Int32, kk &&& (2147483647 : Int32) = zz := ⟨_, rfl⟩
        refine g_iand hG X5 hx (hb hby at_158) (pc' := 159) rfl q158 ?_
        show G (T5.setTop (mkF m 159 #[.val (.int fl), .val (.int ra), .val (.int kk), .val (.ref pl), .val (.int rr), .val (.double w1), .second, .val (.int 1), .val (.double v72), .second, .val (.int 1), .val (.int 1), .val (.int 1), .unset, .unset, .unset, .unset, .unset] [(.int v158)]))
        refine g_bipush hG X5 hx (hb hby at_159) (pc' := 161) rfl (v := (31 : Int32)) rfl ?_
        show G (T5.setTop (mkF m 161 #[.val (.int fl), .val (.int ra), .val (.int kk), .val (.ref pl), .val (.int rr), .val (.double w1), .second, .val (.int 1), .val (.double v72), .second, .val (.int 1), .val (.int 1), .val (.int 1), .unset, .unset, .unset, .unset, .unset] [(.int 31), (.int v158)]))
        obtain ⟨v161, q161⟩ : ∃ zz : Int32, v158 % (31 : Int32) = zz := ⟨_, rfl⟩
        refine g_irem hG X5 hx (hb hby at_161) (pc' := 162) rfl (by decide) q161 ?_
        show G (T5.setTop (mkF m 162 #[.val (.int fl), .val (.int ra), .val (.int kk), .val (.ref pl), .val (.int rr), .val (.double w1), .second, .val (.int 1), .val (.double v72), .second, .val (.int 1), .val (.int 1), .val (.int 1), .unset, .unset, .unset, .unset, .unset] [(.int v161)]))
        have b161 : 0 ≤ v161.toInt ∧ v161.toInt ≤ 30 := by
          have h := c_and kk 2147483647 (by decide)
          rw [q158] at h
          have h2 := (c_iremV v158 31).1 h.1 (by decide)
          rw [q161] at h2
          have c : (31 : Int32).toInt = 31 := by decide
          omega
        refine g_istore hG X5 hx (hb hby at_162) (pc' := 164) rfl (Ls' := #[.val (.int fl), .val (.int ra), .val (.int kk), .val (.ref pl), .val (.int rr), .val (.double w1), .second, .val (.int 1), .val (.double v72), .second, .val (.int 1), .val (.int 1), .val (.int 1), .val (.int v161), .unset, .unset, .unset, .unset]) rfl ?_
        show G (T5.setTop (mkF m 164 #[.val (.int fl), .val (.int ra), .val (.int kk), .val (.ref pl), .val (.int rr), .val (.double w1), .second, .val (.int 1), .val (.double v72), .second, .val (.int 1), .val (.int 1), .val (.int 1), .val (.int v161), .unset, .unset, .unset, .unset] []))
        refine g_iconst hG X5 hx (hb hby at_164) (pc' := 165) rfl (v := (1 : Int32)) rfl ?_
        show G (T5.setTop (mkF m 165 #[.val (.int fl), .val (.int ra), .val (.int kk), .val (.ref pl), .val (.int rr), .val (.double w1), .second, .val (.int 1), .val (.double v72), .second, .val (.int 1), .val (.int 1), .val (.int 1), .val (.int v161), .unset, .unset, .unset, .unset] [(.int 1)]))
        refine g_iload hG X5 hx (hb hby at_165) (pc' := 167) rfl rfl ?_
        show G (T5.setTop (mkF m 167 #[.val (.int fl), .val (.int ra), .val (.int kk), .val (.ref pl), .val (.int rr), .val (.double w1), .second, .val (.int 1), .val (.double v72), .second, .val (.int 1), .val (.int 1), .val (.int 1), .val (.int v161), .unset, .unset, .unset, .unset] [(.int v161), (.int 1)]))
        obtain ⟨v167, q167⟩ : ∃ zz : Int32, (1 : Int32) <<< (v161 &&& 31) = zz := ⟨_, rfl⟩
        refine g_ishl hG X5 hx (hb hby at_167) (pc' := 168) rfl q167 ?_
        show G (T5.setTop (mkF m 168 #[.val (.int fl), .val (.int ra), .val (.int kk), .val (.ref pl), .val (.int rr), .val (.double w1), .second, .val (.int 1), .val (.double v72), .second, .val (.int 1), .val (.int 1), .val (.int 1), .val (.int v161), .unset, .unset, .unset, .unset] [(.int v167)]))
        have e167 : v167.toInt = ((2 ^ v161.toInt.toNat : Nat) : Int) := by rw [← q167]; exact own_shl v161 b161.1 b161.2
        obtain ⟨ex, hex⟩ : ∃ z : Nat, v161.toInt.toNat = z := ⟨_, rfl⟩
        rw [hex] at e167
        have ex1 : ex ≤ 30 := by omega
        have m3 : 1 ≤ v167.toInt := by have := Nat.two_pow_pos ex; omega
        refine g_istore hG X5 hx (hb hby at_168) (pc' := 170) rfl (Ls' := #[.val (.int fl), .val (.int ra), .val (.int kk), .val (.ref pl), .val (.int rr), .val (.double w1), .second, .val (.int 1), .val (.double v72), .second, .val (.int 1), .val (.int 1), .val (.int 1), .val (.int v161), .val (.int v167), .unset, .unset, .unset]) rfl ?_
        show G (T5.setTop (mkF m 170 #[.val (.int fl), .val (.int ra), .val (.int kk), .val (.ref pl), .val (.int rr), .val (.double w1), .second, .val (.int 1), .val (.double v72), .second, .val (.int 1), .val (.int 1), .val (.int 1), .val (.int v161), .val (.int v167), .unset, .unset, .unset] []))
        refine g_aloadN hG X5 hx (hb hby at_170) (pc' := 171) rfl rfl rfl ?_
        show G (T5.setTop (mkF m 171 #[.val (.int fl), .val (.int ra), .val (.int kk), .val (.ref pl), .val (.int rr), .val (.double w1), .second, .val (.int 1), .val (.double v72), .second, .val (.int 1), .val (.int 1), .val (.int 1), .val (.int v161), .val (.int v167), .unset, .unset, .unset] [(.ref pl)]))
        refine g_iload hG X5 hx (hb hby at_171) (pc' := 173) rfl rfl ?_
        show G (T5.setTop (mkF m 173 #[.val (.int fl), .val (.int ra), .val (.int kk), .val (.ref pl), .val (.int rr), .val (.double w1), .second, .val (.int 1), .val (.double v72), .second, .val (.int 1), .val (.int 1), .val (.int 1), .val (.int v161), .val (.int v167), .unset, .unset, .unset] [(.int v167), (.ref pl)]))
        obtain ⟨w3, hw3⟩ : ∃ z, FP.ddiv (4607182418800017408 : UInt64) (FP.i2d v167) = z := ⟨_, rfl⟩
        have Dw3 := own_w (r := v167) m3
        rw [hw3] at Dw3
        refine g_callV hG X5 hx hZ (y := (⟨"com/example/flowmarket/flowmarket/game/Payoff", "weight", "(I)D"⟩ : MethodName)) 0 hown (wd hw 3 rfl) (wd hw 4 rfl) (wd hw 6 rfl) (wd hw 5 rfl) (wd hw 1 rfl) (wd hw 7 rfl) (by decide) (rmW1 l Z a0 hw [] pl v167 w3 h0 n0 Zs hw3 Dw3.noNaN Ex_pl Fp) (by decide) (by decide) (by rw [hml]; rfl) pd_1 rfl (argsL := [(.int v167)]) (rest := []) rfl rfl (Nat.le_of_eq rfl) (hb hby at_173) eh5 Ex_pl (by decide) (by decide) (pc' := 176) rfl ?_
        intro T6 rv6 L6 X6 hQ6
        obtain ⟨rfl, Nq6, eh6⟩ := hQ6
        have NF6 := Fr.app NF5 Nq6
        show G (T6.setTop (mkF m 176 #[.val (.int fl), .val (.int ra), .val (.int kk), .val (.ref pl), .val (.int rr), .val (.double w1), .second, .val (.int 1), .val (.double v72), .second, .val (.int 1), .val (.int 1), .val (.int 1), .val (.int v161), .val (.int v167), .unset, .unset, .unset] [(.double w3)]))
        refine g_dstore hG X6 hx (hb hby at_176) (pc' := 178) rfl (Ls' := #[.val (.int fl), .val (.int ra), .val (.int kk), .val (.ref pl), .val (.int rr), .val (.double w1), .second, .val (.int 1), .val (.double v72), .second, .val (.int 1), .val (.int 1), .val (.int 1), .val (.int v161), .val (.int v167), .val (.double w3), .second, .unset]) rfl ?_
        show G (T6.setTop (mkF m 178 #[.val (.int fl), .val (.int ra), .val (.int kk), .val (.ref pl), .val (.int rr), .val (.double w1), .second, .val (.int 1), .val (.double v72), .second, .val (.int 1), .val (.int 1), .val (.int 1), .val (.int v161), .val (.int v167), .val (.double w3), .second, .unset] []))
        refine g_dload hG X6 hx (hb hby at_178) (pc' := 180) rfl rfl ?_
        show G (T6.setTop (mkF m 180 #[.val (.int fl), .val (.int ra), .val (.int kk), .val (.ref pl), .val (.int rr), .val (.double w1), .second, .val (.int 1), .val (.double v72), .second, .val (.int 1), .val (.int 1), .val (.int 1), .val (.int v161), .val (.int v167), .val (.double w3), .second, .unset] [(.double w3)]))
        refine g_iload hG X6 hx (hb hby at_180) (pc' := 182) rfl rfl ?_
        show G (T6.setTop (mkF m 182 #[.val (.int fl), .val (.int ra), .val (.int kk), .val (.ref pl), .val (.int rr), .val (.double w1), .second, .val (.int 1), .val (.double v72), .second, .val (.int 1), .val (.int 1), .val (.int 1), .val (.int v161), .val (.int v167), .val (.double w3), .second, .unset] [(.int v167), (.double w3)]))
        obtain ⟨v182, q182⟩ : ∃ zz : UInt64, FP.i2d v167 = zz := ⟨_, rfl⟩
        refine g_i2d hG X6 hx (hb hby at_182) (pc' := 183) rfl q182 ?_
        show G (T6.setTop (mkF m 183 #[.val (.int fl), .val (.int ra), .val (.int kk), .val (.ref pl), .val (.int rr), .val (.double w1), .second, .val (.int 1), .val (.double v72), .second, .val (.int 1), .val (.int 1), .val (.int 1), .val (.int v161), .val (.int v167), .val (.double w3), .second, .unset] [(.double v182), (.double w3)]))
        obtain ⟨v183, q183⟩ : ∃ zz : UInt64, FP.dmul w3 v182 = zz := ⟨_, rfl⟩
        rw [e167] at Dw3
        have op := own_pow ex1
        have D182 : OwnFl.DV v182 ((((2 ^ ex : Nat) : Int)) : Rat) := by rw [← q182, ← e167]; exact OwnFl.i2d_DV v167
        have D183 := OwnFl.dmul_DV Dw3 D182 (by rw [op]; decide) (by rw [op]; decide)
        rw [q183, op, OwnFl.RR_exact ⟨1, 0, by decide +kernel, by decide, by decide⟩ (by decide) (by decide)] at D183
        refine g_dmul hG X6 hx (hb hby at_183) (pc' := 184) rfl (by rw [q183]; exact D183.noNaN) q183 ?_
        show G (T6.setTop (mkF m 184 #[.val (.int fl), .val (.int ra), .val (.int kk), .val (.ref pl), .val (.int rr), .val (.double w1), .second, .val (.int 1), .val (.double v72), .second, .val (.int 1), .val (.int 1), .val (.int 1), .val (.int v161), .val (.int v167), .val (.double w3), .second, .unset] [(.double v183)]))
        refine g_dconst1 hG X6 hx (hb hby at_184) (pc' := 185) rfl (v := (4607182418800017408 : UInt64)) rfl ?_
        show G (T6.setTop (mkF m 185 #[.val (.int fl), .val (.int ra), .val (.int kk), .val (.ref pl), .val (.int rr), .val (.double w1), .second, .val (.int 1), .val (.double v72), .second, .val (.int 1), .val (.int 1), .val (.int 1), .val (.int v161), .val (.int v167), .val (.double w3), .second, .unset] [(.double 4607182418800017408), (.double v183)]))
        obtain ⟨v185, q185⟩ : ∃ zz : Int32, cmpValue (FP.dcmp v183 (4607182418800017408 : UInt64)) .l = zz := ⟨_, rfl⟩
        refine g_dcmp hG X6 hx (hb hby at_185) (pc' := 186) rfl q185 ?_
        show G (T6.setTop (mkF m 186 #[.val (.int fl), .val (.int ra), .val (.int kk), .val (.ref pl), .val (.int rr), .val (.double w1), .second, .val (.int 1), .val (.double v72), .second, .val (.int 1), .val (.int 1), .val (.int 1), .val (.int v161), .val (.int v167), .val (.double w3), .second, .unset] [(.int v185)]))
        refine g_ifNo hG X6 hx (hb hby at_186) (pc' := 189) (by rw [← q185, OwnFl.dcmp_eq D183 own_1 rfl]; rfl) rfl ?_
        show G (T6.setTop (mkF m 189 #[.val (.int fl), .val (.int ra), .val (.int kk), .val (.ref pl), .val (.int rr), .val (.double w1), .second, .val (.int 1), .val (.double v72), .second, .val (.int 1), .val (.int 1), .val (.int 1), .val (.int v161), .val (.int v167), .val (.double w3), .second, .unset] []))
        refine g_iconst hG X6 hx (hb hby at_189) (pc' := 190) rfl (v := (1 : Int32)) rfl ?_
        show G (T6.setTop (mkF m 190 #[.val (.int fl), .val (.int ra), .val (.int kk), .val (.ref pl), .val (.int rr), .val (.double w1), .second, .val (.int 1), .val (.double v72), .second, .val (.int 1), .val (.int 1), .val (.int 1), .val (.int v161), .val (.int v167), .val (.double w3), .second, .unset] [(.int 1)]))
        refine g_goto hG X6 hx (hb hby at_190) (pc' := 194) (by decide) (by decide) ?_
        show G (T6.setTop (mkF m 194 #[.val (.int fl), .val (.int ra), .val (.int kk), .val (.ref pl), .val (.int rr), .val (.double w1), .second, .val (.int 1), .val (.double v72), .second, .val (.int 1), .val (.int 1), .val (.int 1), .val (.int v161), .val (.int v167), .val (.double w3), .second, .unset] [(.int 1)]))
        refine g_istore hG X6 hx (hb hby at_194) (pc' := 196) rfl (Ls' := #[.val (.int fl), .val (.int ra), .val (.int kk), .val (.ref pl), .val (.int rr), .val (.double w1), .second, .val (.int 1), .val (.double v72), .second, .val (.int 1), .val (.int 1), .val (.int 1), .val (.int v161), .val (.int v167), .val (.double w3), .second, .val (.int 1)]) rfl ?_
        show G (T6.setTop (mkF m 196 #[.val (.int fl), .val (.int ra), .val (.int kk), .val (.ref pl), .val (.int rr), .val (.double w1), .second, .val (.int 1), .val (.double v72), .second, .val (.int 1), .val (.int 1), .val (.int 1), .val (.int v161), .val (.int v167), .val (.double w3), .second, .val (.int 1)] []))
        refine g_iload hG X6 hx (hb hby at_196) (pc' := 198) rfl rfl ?_
        show G (T6.setTop (mkF m 198 #[.val (.int fl), .val (.int ra), .val (.int kk), .val (.ref pl), .val (.int rr), .val (.double w1), .second, .val (.int 1), .val (.double v72), .second, .val (.int 1), .val (.int 1), .val (.int 1), .val (.int v161), .val (.int v167), .val (.double w3), .second, .val (.int 1)] [(.int 1)]))
        refine g_ifNo hG X6 hx (hb hby at_198) (pc' := 201) (by decide) rfl ?_
        show G (T6.setTop (mkF m 201 #[.val (.int fl), .val (.int ra), .val (.int kk), .val (.ref pl), .val (.int rr), .val (.double w1), .second, .val (.int 1), .val (.double v72), .second, .val (.int 1), .val (.int 1), .val (.int 1), .val (.int v161), .val (.int v167), .val (.double w3), .second, .val (.int 1)] []))
        refine g_iload hG X6 hx (hb hby at_201) (pc' := 203) rfl rfl ?_
        show G (T6.setTop (mkF m 203 #[.val (.int fl), .val (.int ra), .val (.int kk), .val (.ref pl), .val (.int rr), .val (.double w1), .second, .val (.int 1), .val (.double v72), .second, .val (.int 1), .val (.int 1), .val (.int 1), .val (.int v161), .val (.int v167), .val (.double w3), .second, .val (.int 1)] [(.int 1)]))
        refine g_ifNo hG X6 hx (hb hby at_203) (pc' := 206) (by decide) rfl ?_
        show G (T6.setTop (mkF m 206 #[.val (.int fl), .val (.int ra), .val (.int kk), .val (.ref pl), .val (.int rr), .val (.double w1), .second, .val (.int 1), .val (.double v72), .second, .val (.int 1), .val (.int 1), .val (.int 1), .val (.int v161), .val (.int v167), .val (.double w3), .second, .val (.int 1)] []))
        refine g_iload hG X6 hx (hb hby at_206) (pc' := 208) rfl rfl ?_
        show G (T6.setTop (mkF m 208 #[.val (.int fl), .val (.int ra), .val (.int kk), .val (.ref pl), .val (.int rr), .val (.double w1), .second, .val (.int 1), .val (.double v72), .second, .val (.int 1), .val (.int 1), .val (.int 1), .val (.int v161), .val (.int v167), .val (.double w3), .second, .val (.int 1)] [(.int 1)]))
        refine g_ifNo hG X6 hx (hb hby at_208) (pc' := 211) (by decide) rfl ?_
        show G (T6.setTop (mkF m 211 #[.val (.int fl), .val (.int ra), .val (.int kk), .val (.ref pl), .val (.int rr), .val (.double w1), .second, .val (.int 1), .val (.double v72), .second, .val (.int 1), .val (.int 1), .val (.int 1), .val (.int v161), .val (.int v167), .val (.double w3), .second, .val (.int 1)] []))
        refine g_iload hG X6 hx (hb hby at_211) (pc' := 213) rfl rfl ?_
        show G (T6.setTop (mkF m 213 #[.val (.int fl), .val (.int ra), .val (.int kk), .val (.ref pl), .val (.int rr), .val (.double w1), .second, .val (.int 1), .val (.double v72), .second, .val (.int 1), .val (.int 1), .val (.int 1), .val (.int v161), .val (.int v167), .val (.double w3), .second, .val (.int 1)] [(.int 1)]))
        refine g_ifNo hG X6 hx (hb hby at_213) (pc' := 216) (by decide) rfl ?_
        show G (T6.setTop (mkF m 216 #[.val (.int fl), .val (.int ra), .val (.int kk), .val (.ref pl), .val (.int rr), .val (.double w1), .second, .val (.int 1), .val (.double v72), .second, .val (.int 1), .val (.int 1), .val (.int 1), .val (.int v161), .val (.int v167), .val (.double w3), .second, .val (.int 1)] []))
        refine g_iload hG X6 hx (hb hby at_216) (pc' := 218) rfl rfl ?_
        show G (T6.setTop (mkF m 218 #[.val (.int fl), .val (.int ra), .val (.int kk), .val (.ref pl), .val (.int rr), .val (.double w1), .second, .val (.int 1), .val (.double v72), .second, .val (.int 1), .val (.int 1), .val (.int 1), .val (.int v161), .val (.int v167), .val (.double w3), .second, .val (.int 1)] [(.int 1)]))
        refine g_ifNo hG X6 hx (hb hby at_218) (pc' := 221) (by decide) rfl ?_
        show G (T6.setTop (mkF m 221 #[.val (.int fl), .val (.int ra), .val (.int kk), .val (.ref pl), .val (.int rr), .val (.double w1), .second, .val (.int 1), .val (.double v72), .second, .val (.int 1), .val (.int 1), .val (.int 1), .val (.int v161), .val (.int v167), .val (.double w3), .second, .val (.int 1)] []))
        refine g_iconst hG X6 hx (hb hby at_221) (pc' := 222) rfl (v := (1 : Int32)) rfl ?_
        show G (T6.setTop (mkF m 222 #[.val (.int fl), .val (.int ra), .val (.int kk), .val (.ref pl), .val (.int rr), .val (.double w1), .second, .val (.int 1), .val (.double v72), .second, .val (.int 1), .val (.int 1), .val (.int 1), .val (.int v161), .val (.int v167), .val (.double w3), .second, .val (.int 1)] [(.int 1)]))
        refine g_goto hG X6 hx (hb hby at_222) (pc' := 226) (by decide) (by decide) ?_
        show G (T6.setTop (mkF m 226 #[.val (.int fl), .val (.int ra), .val (.int kk), .val (.ref pl), .val (.int rr), .val (.double w1), .second, .val (.int 1), .val (.double v72), .second, .val (.int 1), .val (.int 1), .val (.int 1), .val (.int v161), .val (.int v167), .val (.double w3), .second, .val (.int 1)] [(.int 1)]))
        exact e_retZ hGe X6 hx hrt hlk (hb hby at_226) (Or.inr rfl) eh6 (by decide) (by decide) (⟨rfl, NF6⟩)
      · refine g_icmpNo hG X5 hx (hb hby at_127) (pc' := 130) ((feq hc127).1) rfl ?_
        refine g_aloadN hG X5 hx (hb hby at_130) (pc' := 131) rfl rfl rfl ?_
        show G (T5.setTop (mkF m 131 #[.val (.int fl), .val (.int ra), .val (.int kk), .val (.ref pl), .val (.int rr), .val (.double w1), .second, .val (.int 1), .val (.double v72), .second, .val (.int 1), .val (.int 1), .val (.int 1), .unset, .unset, .unset, .unset, .unset] [(.ref pl)]))
        refine g_iload hG X5 hx (hb hby at_131) (pc' := 133) rfl rfl ?_
        show G (T5.setTop (mkF m 133 #[.val (.int fl), .val (.int ra), .val (.int kk), .val (.ref pl), .val (.int rr), .val (.double w1), .second, .val (.int 1), .val (.double v72), .second, .val (.int 1), .val (.int 1), .val (.int 1), .unset, .unset, .unset, .unset, .unset] [(.int rr), (.ref pl)]))
        refine g_iconst hG X5 hx (hb hby at_133) (pc' := 134) rfl (v := (1 : Int32)) rfl ?_
        show G (T5.setTop (mkF m 134 #[.val (.int fl), .val (.int ra), .val (.int kk), .val (.ref pl), .val (.int rr), .val (.double w1), .second, .val (.int 1), .val (.double v72), .second, .val (.int 1), .val (.int 1), .val (.int 1), .unset, .unset, .unset, .unset, .unset] [(.int 1), (.int rr), (.ref pl)]))
        obtain ⟨v134, q134⟩ : ∃ zz : Int32, rr + (1 : Int32) = zz := ⟨_, rfl⟩
        refine g_iadd hG X5 hx (hb hby at_134) (pc' := 135) rfl q134 ?_
        show G (T5.setTop (mkF m 135 #[.val (.int fl), .val (.int ra), .val (.int kk), .val (.ref pl), .val (.int rr), .val (.double w1), .second, .val (.int 1), .val (.double v72), .second, .val (.int 1), .val (.int 1), .val (.int 1), .unset, .unset, .unset, .unset, .unset] [(.int v134), (.ref pl)]))
        have m2 : 1 ≤ v134.toInt := by
          have a := c_iadd rr 1
          have b := rng32 v134
          have c : (1 : Int32).toInt = 1 := by decide
          have d : ¬ rr.toInt = 2147483647 := fun g => hc127 (Int32.toInt_inj.mp (g.trans (by decide)))
          rw [q134] at a
          omega
        have e134 : v134.toInt = rr.toInt + 1 := by
          have a := c_iadd rr 1
          have b := rng32 v134
          have c : (1 : Int32).toInt = 1 := by decide
          have d : ¬ rr.toInt = 2147483647 := fun g => hc127 (Int32.toInt_inj.mp (g.trans (by decide)))
          rw [q134] at a
          omega
        obtain ⟨w2, hw2⟩ : ∃ z, FP.ddiv (4607182418800017408 : UInt64) (FP.i2d v134) = z := ⟨_, rfl⟩
        have Dw2 := own_w (r := v134) m2
        rw [hw2] at Dw2
        refine g_callV hG X5 hx hZ (y := (⟨"com/example/flowmarket/flowmarket/game/Payoff", "weight", "(I)D"⟩ : MethodName)) 0 hown (wd hw 3 rfl) (wd hw 4 rfl) (wd hw 6 rfl) (wd hw 5 rfl) (wd hw 1 rfl) (wd hw 7 rfl) (by decide) (rmW1 l Z a0 hw [] pl v134 w2 h0 n0 Zs hw2 Dw2.noNaN Ex_pl Fp) (by decide) (by decide) (by rw [hml]; rfl) pd_1 rfl (argsL := [(.int v134)]) (rest := []) rfl rfl (Nat.le_of_eq rfl) (hb hby at_135) eh5 Ex_pl (by decide) (by decide) (pc' := 138) rfl ?_
        intro T7 rv7 L7 X7 hQ7
        obtain ⟨rfl, Nq7, eh7⟩ := hQ7
        have NF7 := Fr.app NF5 Nq7
        show G (T7.setTop (mkF m 138 #[.val (.int fl), .val (.int ra), .val (.int kk), .val (.ref pl), .val (.int rr), .val (.double w1), .second, .val (.int 1), .val (.double v72), .second, .val (.int 1), .val (.int 1), .val (.int 1), .unset, .unset, .unset, .unset, .unset] [(.double w2)]))
        refine g_dstore hG X7 hx (hb hby at_138) (pc' := 140) rfl (Ls' := #[.val (.int fl), .val (.int ra), .val (.int kk), .val (.ref pl), .val (.int rr), .val (.double w1), .second, .val (.int 1), .val (.double v72), .second, .val (.int 1), .val (.int 1), .val (.int 1), .val (.double w2), .second, .unset, .unset, .unset]) rfl ?_
        show G (T7.setTop (mkF m 140 #[.val (.int fl), .val (.int ra), .val (.int kk), .val (.ref pl), .val (.int rr), .val (.double w1), .second, .val (.int 1), .val (.double v72), .second, .val (.int 1), .val (.int 1), .val (.int 1), .val (.double w2), .second, .unset, .unset, .unset] []))
        refine g_dload hG X7 hx (hb hby at_140) (pc' := 142) rfl rfl ?_
        show G (T7.setTop (mkF m 142 #[.val (.int fl), .val (.int ra), .val (.int kk), .val (.ref pl), .val (.int rr), .val (.double w1), .second, .val (.int 1), .val (.double v72), .second, .val (.int 1), .val (.int 1), .val (.int 1), .val (.double w2), .second, .unset, .unset, .unset] [(.double w2)]))
        refine g_dload hG X7 hx (hb hby at_142) (pc' := 144) rfl rfl ?_
        show G (T7.setTop (mkF m 144 #[.val (.int fl), .val (.int ra), .val (.int kk), .val (.ref pl), .val (.int rr), .val (.double w1), .second, .val (.int 1), .val (.double v72), .second, .val (.int 1), .val (.int 1), .val (.int 1), .val (.double w2), .second, .unset, .unset, .unset] [(.double w1), (.double w2)]))
        obtain ⟨v144, q144⟩ : ∃ zz : Int32, cmpValue (FP.dcmp w2 w1) .g = zz := ⟨_, rfl⟩
        refine g_dcmp hG X7 hx (hb hby at_144) (pc' := 145) rfl q144 ?_
        show G (T7.setTop (mkF m 145 #[.val (.int fl), .val (.int ra), .val (.int kk), .val (.ref pl), .val (.int rr), .val (.double w1), .second, .val (.int 1), .val (.double v72), .second, .val (.int 1), .val (.int 1), .val (.int 1), .val (.double w2), .second, .unset, .unset, .unset] [(.int v144)]))
        refine g_ifNo hG X7 hx (hb hby at_145) (pc' := 148) (by rw [← q144, OwnFl.dcmp_lt (Dw2.cast (by rw [e134])) Dw1 (own_mono m1 (by omega))]; rfl) rfl ?_
        show G (T7.setTop (mkF m 148 #[.val (.int fl), .val (.int ra), .val (.int kk), .val (.ref pl), .val (.int rr), .val (.double w1), .second, .val (.int 1), .val (.double v72), .second, .val (.int 1), .val (.int 1), .val (.int 1), .val (.double w2), .second, .unset, .unset, .unset] []))
        refine g_iconst hG X7 hx (hb hby at_148) (pc' := 149) rfl (v := (1 : Int32)) rfl ?_
        show G (T7.setTop (mkF m 149 #[.val (.int fl), .val (.int ra), .val (.int kk), .val (.ref pl), .val (.int rr), .val (.double w1), .second, .val (.int 1), .val (.double v72), .second, .val (.int 1), .val (.int 1), .val (.int 1), .val (.double w2), .second, .unset, .unset, .unset] [(.int 1)]))
        refine g_goto hG X7 hx (hb hby at_149) (pc' := 153) (by decide) (by decide) ?_
        show G (T7.setTop (mkF m 153 #[.val (.int fl), .val (.int ra), .val (.int kk), .val (.ref pl), .val (.int rr), .val (.double w1), .second, .val (.int 1), .val (.double v72), .second, .val (.int 1), .val (.int 1), .val (.int 1), .val (.double w2), .second, .unset, .unset, .unset] [(.int 1)]))
        refine g_istore hG X7 hx (hb hby at_153) (pc' := 155) rfl (Ls' := #[.val (.int fl), .val (.int ra), .val (.int kk), .val (.ref pl), .val (.int rr), .val (.double w1), .second, .val (.int 1), .val (.double v72), .second, .val (.int 1), .val (.int 1), .val (.int 1), .val (.double w2), .second, .unset, .unset, .unset]) rfl ?_
        show G (T7.setTop (mkF m 155 #[.val (.int fl), .val (.int ra), .val (.int kk), .val (.ref pl), .val (.int rr), .val (.double w1), .second, .val (.int 1), .val (.double v72), .second, .val (.int 1), .val (.int 1), .val (.int 1), .val (.double w2), .second, .unset, .unset, .unset] []))
        refine g_iloadN hG X7 hx (hb hby at_155) (pc' := 156) rfl rfl ?_
        show G (T7.setTop (mkF m 156 #[.val (.int fl), .val (.int ra), .val (.int kk), .val (.ref pl), .val (.int rr), .val (.double w1), .second, .val (.int 1), .val (.double v72), .second, .val (.int 1), .val (.int 1), .val (.int 1), .val (.double w2), .second, .unset, .unset, .unset] [(.int kk)]))
        refine g_ldcInt hG X7 hx hZ hown (wd hw 19 rfl) (hb hby at_156) (pc' := 158) rfl ?_
        show G (T7.setTop (mkF m 158 #[.val (.int fl), .val (.int ra), .val (.int kk), .val (.ref pl), .val (.int rr), .val (.double w1), .second, .val (.int 1), .val (.double v72), .second, .val (.int 1), .val (.int 1), .val (.int 1), .val (.double w2), .second, .unset, .unset, .unset] [(.int 2147483647), (.int kk)]))
        obtain ⟨v158, q158⟩ : ∃ zz : Int32, kk &&& (2147483647 : Int32) = zz := ⟨_, rfl⟩
        refine g_iand hG X7 hx (hb hby at_158) (pc' := 159) rfl q158 ?_
        show G (T7.setTop (mkF m 159 #[.val (.int fl), .val (.int ra), .val (.int kk), .val (.ref pl), .val (.int rr), .val (.double w1), .second, .val (.int 1), .val (.double v72), .second, .val (.int 1), .val (.int 1), .val (.int 1), .val (.double w2), .second, .unset, .unset, .unset] [(.int v158)]))
        refine g_bipush hG X7 hx (hb hby at_159) (pc' := 161) rfl (v := (31 : Int32)) rfl ?_
        show G (T7.setTop (mkF m 161 #[.val (.int fl), .val (.int ra), .val (.int kk), .val (.ref pl), .val (.int rr), .val (.double w1), .second, .val (.int 1), .val (.double v72), .second, .val (.int 1), .val (.int 1), .val (.int 1), .val (.double w2), .second, .unset, .unset, .unset] [(.int 31), (.int v158)]))
        obtain ⟨v161, q161⟩ : ∃ zz : Int32, v158 % (31 : Int32) = zz := ⟨_, rfl⟩
        refine g_irem hG X7 hx (hb hby at_161) (pc' := 162) rfl (by decide) q161 ?_
        show G (T7.setTop (mkF m 162 #[.val (.int fl), .val (.int ra), .val (.int kk), .val (.ref pl), .val (.int rr), .val (.double w1), .second, .val (.int 1), .val (.double v72), .second, .val (.int 1), .val (.int 1), .val (.int 1), .val (.double w2), .second, .unset, .unset, .unset] [(.int v161)]))
        have b161 : 0 ≤ v161.toInt ∧ v161.toInt ≤ 30 := by
          have h := c_and kk 2147483647 (by decide)
          rw [q158] at h
          have h2 := (c_iremV v158 31).1 h.1 (by decide)
          rw [q161] at h2
          have c : (31 : Int32).toInt = 31 := by decide
          omega
        refine g_istore hG X7 hx (hb hby at_162) (pc' := 164) rfl (Ls' := #[.val (.int fl), .val (.int ra), .val (.int kk), .val (.ref pl), .val (.int rr), .val (.double w1), .second, .val (.int 1), .val (.double v72), .second, .val (.int 1), .val (.int 1), .val (.int 1), .val (.int v161), .unset, .unset, .unset, .unset]) rfl ?_
        show G (T7.setTop (mkF m 164 #[.val (.int fl), .val (.int ra), .val (.int kk), .val (.ref pl), .val (.int rr), .val (.double w1), .second, .val (.int 1), .val (.double v72), .second, .val (.int 1), .val (.int 1), .val (.int 1), .val (.int v161), .unset, .unset, .unset, .unset] []))
        refine g_iconst hG X7 hx (hb hby at_164) (pc' := 165) rfl (v := (1 : Int32)) rfl ?_
        show G (T7.setTop (mkF m 165 #[.val (.int fl), .val (.int ra), .val (.int kk), .val (.ref pl), .val (.int rr), .val (.double w1), .second, .val (.int 1), .val (.double v72), .second, .val (.int 1), .val (.int 1), .val (.int 1), .val (.int v161), .unset, .unset, .unset, .unset] [(.int 1)]))
        refine g_iload hG X7 hx (hb hby at_165) (pc' := 167) rfl rfl ?_
        show G (T7.setTop (mkF m 167 #[.val (.int fl), .val (.int ra), .val (.int kk), .val (.ref pl), .val (.int rr), .val (.double w1), .second, .val (.int 1), .val (.double v72), .second, .val (.int 1), .val (.int 1), .val (.int 1), .val (.int v161), .unset, .unset, .unset, .unset] [(.int v161), (.int 1)]))
        obtain ⟨v167, q167⟩ : ∃ zz : Int32, (1 : Int32) <<< (v161 &&& 31) = zz := ⟨_, rfl⟩
        refine g_ishl hG X7 hx (hb hby at_167) (pc' := 168) rfl q167 ?_
        show G (T7.setTop (mkF m 168 #[.val (.int fl), .val (.int ra), .val (.int kk), .val (.ref pl), .val (.int rr), .val (.double w1), .second, .val (.int 1), .val (.double v72), .second, .val (.int 1), .val (.int 1), .val (.int 1), .val (.int v161), .unset, .unset, .unset, .unset] [(.int v167)]))
        have e167 : v167.toInt = ((2 ^ v161.toInt.toNat : Nat) : Int) := by rw [← q167]; exact own_shl v161 b161.1 b161.2
        obtain ⟨ex, hex⟩ : ∃ z : Nat, v161.toInt.toNat = z := ⟨_, rfl⟩
        rw [hex] at e167
        have ex1 : ex ≤ 30 := by omega
        have m3 : 1 ≤ v167.toInt := by have := Nat.two_pow_pos ex; omega
        refine g_istore hG X7 hx (hb hby at_168) (pc' := 170) rfl (Ls' := #[.val (.int fl), .val (.int ra), .val (.int kk), .val (.ref pl), .val (.int rr), .val (.double w1), .second, .val (.int 1), .val (.double v72), .second, .val (.int 1), .val (.int 1), .val (.int 1), .val (.int v161), .val (.int v167), .unset, .unset, .unset]) rfl ?_
        show G (T7.setTop (mkF m 170 #[.val (.int fl), .val (.int ra), .val (.int kk), .val (.ref pl), .val (.int rr), .val (.double w1), .second, .val (.int 1), .val (.double v72), .second, .val (.int 1), .val (.int 1), .val (.int 1), .val (.int v161), .val (.int v167), .unset, .unset, .unset] []))
        refine g_aloadN hG X7 hx (hb hby at_170) (pc' := 171) rfl rfl rfl ?_
        show G (T7.setTop (mkF m 171 #[.val (.int fl), .val (.int ra), .val (.int kk), .val (.ref pl), .val (.int rr), .val (.double w1), .second, .val (.int 1), .val (.double v72), .second, .val (.int 1), .val (.int 1), .val (.int 1), .val (.int v161), .val (.int v167), .unset, .unset, .unset] [(.ref pl)]))
        refine g_iload hG X7 hx (hb hby at_171) (pc' := 173) rfl rfl ?_
        show G (T7.setTop (mkF m 173 #[.val (.int fl), .val (.int ra), .val (.int kk), .val (.ref pl), .val (.int rr), .val (.double w1), .second, .val (.int 1), .val (.double v72), .second, .val (.int 1), .val (.int 1), .val (.int 1), .val (.int v161), .val (.int v167), .unset, .unset, .unset] [(.int v167), (.ref pl)]))
        obtain ⟨w3, hw3⟩ : ∃ z, FP.ddiv (4607182418800017408 : UInt64) (FP.i2d v167) = z := ⟨_, rfl⟩
        have Dw3 := own_w (r := v167) m3
        rw [hw3] at Dw3
        refine g_callV hG X7 hx hZ (y := (⟨"com/example/flowmarket/flowmarket/game/Payoff", "weight", "(I)D"⟩ : MethodName)) 0 hown (wd hw 3 rfl) (wd hw 4 rfl) (wd hw 6 rfl) (wd hw 5 rfl) (wd hw 1 rfl) (wd hw 7 rfl) (by decide) (rmW1 l Z a0 hw [] pl v167 w3 h0 n0 Zs hw3 Dw3.noNaN Ex_pl Fp) (by decide) (by decide) (by rw [hml]; rfl) pd_1 rfl (argsL := [(.int v167)]) (rest := []) rfl rfl (Nat.le_of_eq rfl) (hb hby at_173) eh7 Ex_pl (by decide) (by decide) (pc' := 176) rfl ?_
        intro T8 rv8 L8 X8 hQ8
        obtain ⟨rfl, Nq8, eh8⟩ := hQ8
        have NF8 := Fr.app NF7 Nq8
        show G (T8.setTop (mkF m 176 #[.val (.int fl), .val (.int ra), .val (.int kk), .val (.ref pl), .val (.int rr), .val (.double w1), .second, .val (.int 1), .val (.double v72), .second, .val (.int 1), .val (.int 1), .val (.int 1), .val (.int v161), .val (.int v167), .unset, .unset, .unset] [(.double w3)]))
        refine g_dstore hG X8 hx (hb hby at_176) (pc' := 178) rfl (Ls' := #[.val (.int fl), .val (.int ra), .val (.int kk), .val (.ref pl), .val (.int rr), .val (.double w1), .second, .val (.int 1), .val (.double v72), .second, .val (.int 1), .val (.int 1), .val (.int 1), .val (.int v161), .val (.int v167), .val (.double w3), .second, .unset]) rfl ?_
        show G (T8.setTop (mkF m 178 #[.val (.int fl), .val (.int ra), .val (.int kk), .val (.ref pl), .val (.int rr), .val (.double w1), .second, .val (.int 1), .val (.double v72), .second, .val (.int 1), .val (.int 1), .val (.int 1), .val (.int v161), .val (.int v167), .val (.double w3), .second, .unset] []))
        refine g_dload hG X8 hx (hb hby at_178) (pc' := 180) rfl rfl ?_
        show G (T8.setTop (mkF m 180 #[.val (.int fl), .val (.int ra), .val (.int kk), .val (.ref pl), .val (.int rr), .val (.double w1), .second, .val (.int 1), .val (.double v72), .second, .val (.int 1), .val (.int 1), .val (.int 1), .val (.int v161), .val (.int v167), .val (.double w3), .second, .unset] [(.double w3)]))
        refine g_iload hG X8 hx (hb hby at_180) (pc' := 182) rfl rfl ?_
        show G (T8.setTop (mkF m 182 #[.val (.int fl), .val (.int ra), .val (.int kk), .val (.ref pl), .val (.int rr), .val (.double w1), .second, .val (.int 1), .val (.double v72), .second, .val (.int 1), .val (.int 1), .val (.int 1), .val (.int v161), .val (.int v167), .val (.double w3), .second, .unset] [(.int v167), (.double w3)]))
        obtain ⟨v182, q182⟩ : ∃ zz : UInt64, FP.i2d v167 = zz := ⟨_, rfl⟩
        refine g_i2d hG X8 hx (hb hby at_182) (pc' := 183) rfl q182 ?_
        show G (T8.setTop (mkF m 183 #[.val (.int fl), .val (.int ra), .val (.int kk), .val (.ref pl), .val (.int rr), .val (.double w1), .second, .val (.int 1), .val (.double v72), .second, .val (.int 1), .val (.int 1), .val (.int 1), .val (.int v161), .val (.int v167), .val (.double w3), .second, .unset] [(.double v182), (.double w3)]))
        obtain ⟨v183, q183⟩ : ∃ zz : UInt64, FP.dmul w3 v182 = zz := ⟨_, rfl⟩
        rw [e167] at Dw3
        have op := own_pow ex1
        have D182 : OwnFl.DV v182 ((((2 ^ ex : Nat) : Int)) : Rat) := by rw [← q182, ← e167]; exact OwnFl.i2d_DV v167
        have D183 := OwnFl.dmul_DV Dw3 D182 (by rw [op]; decide) (by rw [op]; decide)
        rw [q183, op, OwnFl.RR_exact ⟨1, 0, by decide +kernel, by decide, by decide⟩ (by decide) (by decide)] at D183
        refine g_dmul hG X8 hx (hb hby at_183) (pc' := 184) rfl (by rw [q183]; exact D183.noNaN) q183 ?_
        show G (T8.setTop (mkF m 184 #[.val (.int fl), .val (.int ra), .val (.int kk), .val (.ref pl), .val (.int rr), .val (.double w1), .second, .val (.int 1), .val (.double v72), .second, .val (.int 1), .val (.int 1), .val (.int 1), .val (.int v161), .val (.int v167), .val (.double w3), .second, .unset] [(.double v183)]))
        refine g_dconst1 hG X8 hx (hb hby at_184) (pc' := 185) rfl (v := (4607182418800017408 : UInt64)) rfl ?_
        show G (T8.setTop (mkF m 185 #[.val (.int fl), .val (.int ra), .val (.int kk), .val (.ref pl), .val (.int rr), .val (.double w1), .second, .val (.int 1), .val (.double v72), .second, .val (.int 1), .val (.int 1), .val (.int 1), .val (.int v161), .val (.int v167), .val (.double w3), .second, .unset] [(.double 4607182418800017408), (.double v183)]))
        obtain ⟨v185, q185⟩ : ∃ zz : Int32, cmpValue (FP.dcmp v183 (4607182418800017408 : UInt64)) .l = zz := ⟨_, rfl⟩
        refine g_dcmp hG X8 hx (hb hby at_185) (pc' := 186) rfl q185 ?_
        show G (T8.setTop (mkF m 186 #[.val (.int fl), .val (.int ra), .val (.int kk), .val (.ref pl), .val (.int rr), .val (.double w1), .second, .val (.int 1), .val (.double v72), .second, .val (.int 1), .val (.int 1), .val (.int 1), .val (.int v161), .val (.int v167), .val (.double w3), .second, .unset] [(.int v185)]))
        refine g_ifNo hG X8 hx (hb hby at_186) (pc' := 189) (by rw [← q185, OwnFl.dcmp_eq D183 own_1 rfl]; rfl) rfl ?_
        show G (T8.setTop (mkF m 189 #[.val (.int fl), .val (.int ra), .val (.int kk), .val (.ref pl), .val (.int rr), .val (.double w1), .second, .val (.int 1), .val (.double v72), .second, .val (.int 1), .val (.int 1), .val (.int 1), .val (.int v161), .val (.int v167), .val (.double w3), .second, .unset] []))
        refine g_iconst hG X8 hx (hb hby at_189) (pc' := 190) rfl (v := (1 : Int32)) rfl ?_
        show G (T8.setTop (mkF m 190 #[.val (.int fl), .val (.int ra), .val (.int kk), .val (.ref pl), .val (.int rr), .val (.double w1), .second, .val (.int 1), .val (.double v72), .second, .val (.int 1), .val (.int 1), .val (.int 1), .val (.int v161), .val (.int v167), .val (.double w3), .second, .unset] [(.int 1)]))
        refine g_goto hG X8 hx (hb hby at_190) (pc' := 194) (by decide) (by decide) ?_
        show G (T8.setTop (mkF m 194 #[.val (.int fl), .val (.int ra), .val (.int kk), .val (.ref pl), .val (.int rr), .val (.double w1), .second, .val (.int 1), .val (.double v72), .second, .val (.int 1), .val (.int 1), .val (.int 1), .val (.int v161), .val (.int v167), .val (.double w3), .second, .unset] [(.int 1)]))
        refine g_istore hG X8 hx (hb hby at_194) (pc' := 196) rfl (Ls' := #[.val (.int fl), .val (.int ra), .val (.int kk), .val (.ref pl), .val (.int rr), .val (.double w1), .second, .val (.int 1), .val (.double v72), .second, .val (.int 1), .val (.int 1), .val (.int 1), .val (.int v161), .val (.int v167), .val (.double w3), .second, .val (.int 1)]) rfl ?_
        show G (T8.setTop (mkF m 196 #[.val (.int fl), .val (.int ra), .val (.int kk), .val (.ref pl), .val (.int rr), .val (.double w1), .second, .val (.int 1), .val (.double v72), .second, .val (.int 1), .val (.int 1), .val (.int 1), .val (.int v161), .val (.int v167), .val (.double w3), .second, .val (.int 1)] []))
        refine g_iload hG X8 hx (hb hby at_196) (pc' := 198) rfl rfl ?_
        show G (T8.setTop (mkF m 198 #[.val (.int fl), .val (.int ra), .val (.int kk), .val (.ref pl), .val (.int rr), .val (.double w1), .second, .val (.int 1), .val (.double v72), .second, .val (.int 1), .val (.int 1), .val (.int 1), .val (.int v161), .val (.int v167), .val (.double w3), .second, .val (.int 1)] [(.int 1)]))
        refine g_ifNo hG X8 hx (hb hby at_198) (pc' := 201) (by decide) rfl ?_
        show G (T8.setTop (mkF m 201 #[.val (.int fl), .val (.int ra), .val (.int kk), .val (.ref pl), .val (.int rr), .val (.double w1), .second, .val (.int 1), .val (.double v72), .second, .val (.int 1), .val (.int 1), .val (.int 1), .val (.int v161), .val (.int v167), .val (.double w3), .second, .val (.int 1)] []))
        refine g_iload hG X8 hx (hb hby at_201) (pc' := 203) rfl rfl ?_
        show G (T8.setTop (mkF m 203 #[.val (.int fl), .val (.int ra), .val (.int kk), .val (.ref pl), .val (.int rr), .val (.double w1), .second, .val (.int 1), .val (.double v72), .second, .val (.int 1), .val (.int 1), .val (.int 1), .val (.int v161), .val (.int v167), .val (.double w3), .second, .val (.int 1)] [(.int 1)]))
        refine g_ifNo hG X8 hx (hb hby at_203) (pc' := 206) (by decide) rfl ?_
        show G (T8.setTop (mkF m 206 #[.val (.int fl), .val (.int ra), .val (.int kk), .val (.ref pl), .val (.int rr), .val (.double w1), .second, .val (.int 1), .val (.double v72), .second, .val (.int 1), .val (.int 1), .val (.int 1), .val (.int v161), .val (.int v167), .val (.double w3), .second, .val (.int 1)] []))
        refine g_iload hG X8 hx (hb hby at_206) (pc' := 208) rfl rfl ?_
        show G (T8.setTop (mkF m 208 #[.val (.int fl), .val (.int ra), .val (.int kk), .val (.ref pl), .val (.int rr), .val (.double w1), .second, .val (.int 1), .val (.double v72), .second, .val (.int 1), .val (.int 1), .val (.int 1), .val (.int v161), .val (.int v167), .val (.double w3), .second, .val (.int 1)] [(.int 1)]))
        refine g_ifNo hG X8 hx (hb hby at_208) (pc' := 211) (by decide) rfl ?_
        show G (T8.setTop (mkF m 211 #[.val (.int fl), .val (.int ra), .val (.int kk), .val (.ref pl), .val (.int rr), .val (.double w1), .second, .val (.int 1), .val (.double v72), .second, .val (.int 1), .val (.int 1), .val (.int 1), .val (.int v161), .val (.int v167), .val (.double w3), .second, .val (.int 1)] []))
        refine g_iload hG X8 hx (hb hby at_211) (pc' := 213) rfl rfl ?_
        show G (T8.setTop (mkF m 213 #[.val (.int fl), .val (.int ra), .val (.int kk), .val (.ref pl), .val (.int rr), .val (.double w1), .second, .val (.int 1), .val (.double v72), .second, .val (.int 1), .val (.int 1), .val (.int 1), .val (.int v161), .val (.int v167), .val (.double w3), .second, .val (.int 1)] [(.int 1)]))
        refine g_ifNo hG X8 hx (hb hby at_213) (pc' := 216) (by decide) rfl ?_
        show G (T8.setTop (mkF m 216 #[.val (.int fl), .val (.int ra), .val (.int kk), .val (.ref pl), .val (.int rr), .val (.double w1), .second, .val (.int 1), .val (.double v72), .second, .val (.int 1), .val (.int 1), .val (.int 1), .val (.int v161), .val (.int v167), .val (.double w3), .second, .val (.int 1)] []))
        refine g_iload hG X8 hx (hb hby at_216) (pc' := 218) rfl rfl ?_
        show G (T8.setTop (mkF m 218 #[.val (.int fl), .val (.int ra), .val (.int kk), .val (.ref pl), .val (.int rr), .val (.double w1), .second, .val (.int 1), .val (.double v72), .second, .val (.int 1), .val (.int 1), .val (.int 1), .val (.int v161), .val (.int v167), .val (.double w3), .second, .val (.int 1)] [(.int 1)]))
        refine g_ifNo hG X8 hx (hb hby at_218) (pc' := 221) (by decide) rfl ?_
        show G (T8.setTop (mkF m 221 #[.val (.int fl), .val (.int ra), .val (.int kk), .val (.ref pl), .val (.int rr), .val (.double w1), .second, .val (.int 1), .val (.double v72), .second, .val (.int 1), .val (.int 1), .val (.int 1), .val (.int v161), .val (.int v167), .val (.double w3), .second, .val (.int 1)] []))
        refine g_iconst hG X8 hx (hb hby at_221) (pc' := 222) rfl (v := (1 : Int32)) rfl ?_
        show G (T8.setTop (mkF m 222 #[.val (.int fl), .val (.int ra), .val (.int kk), .val (.ref pl), .val (.int rr), .val (.double w1), .second, .val (.int 1), .val (.double v72), .second, .val (.int 1), .val (.int 1), .val (.int 1), .val (.int v161), .val (.int v167), .val (.double w3), .second, .val (.int 1)] [(.int 1)]))
        refine g_goto hG X8 hx (hb hby at_222) (pc' := 226) (by decide) (by decide) ?_
        show G (T8.setTop (mkF m 226 #[.val (.int fl), .val (.int ra), .val (.int kk), .val (.ref pl), .val (.int rr), .val (.double w1), .second, .val (.int 1), .val (.double v72), .second, .val (.int 1), .val (.int 1), .val (.int 1), .val (.int v161), .val (.int v167), .val (.double w3), .second, .val (.int 1)] [(.int 1)]))
        exact e_retZ hGe X8 hx hrt hlk (hb hby at_226) (Or.inr rfl) eh8 (by decide) (by decide) (⟨rfl, NF8⟩)
    by_cases hc103 : rr = (1 : Int32)
    · refine g_icmpNo hG X5 hx (hb hby at_103) (pc' := 106) ((teq hc103).2) rfl ?_
      refine g_dload hG X5 hx (hb hby at_106) (pc' := 108) rfl rfl ?_
      show G (T5.setTop (mkF m 108 #[.val (.int fl), .val (.int ra), .val (.int kk), .val (.ref pl), .val (.int rr), .val (.double w1), .second, .val (.int 1), .val (.double v72), .second, .val (.int 1), .unset, .unset, .unset, .unset, .unset, .unset, .unset] [(.double w1)]))
      refine g_dconst1 hG X5 hx (hb hby at_108) (pc' := 109) rfl (v := (4607182418800017408 : UInt64)) rfl ?_
      show G (T5.setTop (mkF m 109 #[.val (.int fl), .val (.int ra), .val (.int kk), .val (.ref pl), .val (.int rr), .val (.double w1), .second, .val (.int 1), .val (.double v72), .second, .val (.int 1), .unset, .unset, .unset, .unset, .unset, .unset, .unset] [(.double 4607182418800017408), (.double w1)]))
      obtain ⟨v109, q109⟩ : ∃ zz : Int32, cmpValue (FP.dcmp w1 (4607182418800017408 : UInt64)) .l = zz := ⟨_, rfl⟩
      refine g_dcmp hG X5 hx (hb hby at_109) (pc' := 110) rfl q109 ?_
      show G (T5.setTop (mkF m 110 #[.val (.int fl), .val (.int ra), .val (.int kk), .val (.ref pl), .val (.int rr), .val (.double w1), .second, .val (.int 1), .val (.double v72), .second, .val (.int 1), .unset, .unset, .unset, .unset, .unset, .unset, .unset] [(.int v109)]))
      refine g_ifNo hG X5 hx (hb hby at_110) (pc' := 113) (by rw [← q109, OwnFl.dcmp_eq (Dw1.cast (by rw [hc103, show (((1 : Int32).toInt : Int) : Rat) = 1 from rfl]; rw [show (1 : Rat) / 1 = 1 by decide +kernel]; exact OwnFl.RR_exact (x := 1) ⟨1, 0, by decide +kernel, by decide, by decide⟩ (by decide +kernel) (by decide +kernel))) own_1 rfl]; rfl) rfl ?_
      show G (T5.setTop (mkF m 113 #[.val (.int fl), .val (.int ra), .val (.int kk), .val (.ref pl), .val (.int rr), .val (.double w1), .second, .val (.int 1), .val (.double v72), .second, .val (.int 1), .unset, .unset, .unset, .unset, .unset, .unset, .unset] []))
      refine g_iconst hG X5 hx (hb hby at_113) (pc' := 114) rfl (v := (1 : Int32)) rfl ?_
      show G (T5.setTop (mkF m 114 #[.val (.int fl), .val (.int ra), .val (.int kk), .val (.ref pl), .val (.int rr), .val (.double w1), .second, .val (.int 1), .val (.double v72), .second, .val (.int 1), .unset, .unset, .unset, .unset, .unset, .unset, .unset] [(.int 1)]))
      refine g_goto hG X5 hx (hb hby at_114) (pc' := 118) (by decide) (by decide) ?_
      show G (T5.setTop (mkF m 118 #[.val (.int fl), .val (.int ra), .val (.int kk), .val (.ref pl), .val (.int rr), .val (.double w1), .second, .val (.int 1), .val (.double v72), .second, .val (.int 1), .unset, .unset, .unset, .unset, .unset, .unset, .unset] [(.int 1)]))
      refine g_istore hG X5 hx (hb hby at_118) (pc' := 120) rfl (Ls' := #[.val (.int fl), .val (.int ra), .val (.int kk), .val (.ref pl), .val (.int rr), .val (.double w1), .second, .val (.int 1), .val (.double v72), .second, .val (.int 1), .val (.int 1), .unset, .unset, .unset, .unset, .unset, .unset]) rfl ?_
      show G (T5.setTop (mkF m 120 #[.val (.int fl), .val (.int ra), .val (.int kk), .val (.ref pl), .val (.int rr), .val (.double w1), .second, .val (.int 1), .val (.double v72), .second, .val (.int 1), .val (.int 1), .unset, .unset, .unset, .unset, .unset, .unset] []))
      exact cont ()
    · refine g_icmpYes hG X5 hx (hb hby at_103) (pc' := 113) ((feq hc103).2) (by decide) (by decide) ?_
      refine g_iconst hG X5 hx (hb hby at_113) (pc' := 114) rfl (v := (1 : Int32)) rfl ?_
      show G (T5.setTop (mkF m 114 #[.val (.int fl), .val (.int ra), .val (.int kk), .val (.ref pl), .val (.int rr), .val (.double w1), .second, .val (.int 1), .val (.double v72), .second, .val (.int 1), .unset, .unset, .unset, .unset, .unset, .unset, .unset] [(.int 1)]))
      refine g_goto hG X5 hx (hb hby at_114) (pc' := 118) (by decide) (by decide) ?_
      show G (T5.setTop (mkF m 118 #[.val (.int fl), .val (.int ra), .val (.int kk), .val (.ref pl), .val (.int rr), .val (.double w1), .second, .val (.int 1), .val (.double v72), .second, .val (.int 1), .unset, .unset, .unset, .unset, .unset, .unset, .unset] [(.int 1)]))
      refine g_istore hG X5 hx (hb hby at_118) (pc' := 120) rfl (Ls' := #[.val (.int fl), .val (.int ra), .val (.int kk), .val (.ref pl), .val (.int rr), .val (.double w1), .second, .val (.int 1), .val (.double v72), .second, .val (.int 1), .val (.int 1), .unset, .unset, .unset, .unset, .unset, .unset]) rfl ?_
      show G (T5.setTop (mkF m 120 #[.val (.int fl), .val (.int ra), .val (.int kk), .val (.ref pl), .val (.int rr), .val (.double w1), .second, .val (.int 1), .val (.double v72), .second, .val (.int 1), .val (.int 1), .unset, .unset, .unset, .unset, .unset, .unset] []))
      exact cont ()
set_option maxRecDepth 65536 in
set_option maxHeartbeats 40000000 in
theorem comes_1 {Post : Tables → Env → Array Value → State → Outcome → State → Prop} (hpost : ∀ tb e args s v u, (limb_1_1.after args s (.returned v) u = true ∧ limb_1_2.after args s (.returned v) u = true ∧ True) → FrameEnd s (.returned v) u (Jvm.fieldLocs frame_1_writes args s ++ Jvm.arrayLocs frame_1_arrays args s ++ Jvm.staticLocs frame_1_statics s) 0 0 → Post tb e args s (.returned v) u) :
    ArmFor flags0 classFile x code maxLocals ret World_1 tables_1 room_1 Calls_1 rest_1 Pre_1 Post := by
  intro l hfl _ _ p e ha hc hk s m args below hf hA hF happ hP
  obtain ⟨hcalls, hrest, hpre⟩ := hP
  obtain ⟨-, -, -, hnamed, -, -, -, hat⟩ := (Spec.applies_iff hf).mp happ
  obtain ⟨hg, hn⟩ := and_e (Cond.before_iff.mp (show (Jvm.Cond.and given_1 narrow_1).before args s = true from hpre))
  obtain ⟨hcount, ha_0⟩ := and_e hg
  obtain ⟨hb_0, ha_1⟩ := and_e ha_0
  obtain ⟨hb_1, ha_2⟩ := and_e ha_1
  have hb_2 := ha_2
  obtain ⟨w0, w1, w2, rfl⟩ : ∃ w0 w1 w2 : Value, args = #[w0, w1, w2] := by
    have hs : args.size = 3 := by simpa [Cond.value, given_1] using hcount
    obtain ⟨L⟩ := args
    match L, hs with
    | [w0, w1, w2], _ => exact ⟨w0, w1, w2, rfl⟩
  have hw := fun d (hd : d ∈ tables_1) => atoms_spec (ws := Jvm.Cond.code x code maxLocals ret :: tables_1) hat d (List.mem_cons_of_mem _ hd)
  obtain ⟨i0, ei0⟩ := is_v hb_0
  obtain rfl : w0 = (.int i0) := Option.some.inj ei0
  obtain ⟨i1, ei1⟩ := is_v hb_1
  obtain rfl : w1 = (.int i1) := Option.some.inj ei1
  obtain ⟨i2, ei2⟩ := is_v hb_2
  obtain rfl : w2 = (.int i2) := Option.some.inj ei2
  obtain ⟨nx_un, hn1⟩ := and_e hn
  obtain ⟨nf_un, hn2⟩ := and_e hn1
  obtain ⟨nx_pl, nf_pl⟩ := and_e hn2
  obtain ⟨un, ev_un⟩ := exa_v nx_un
  have Ex_un := Exa.start ev_un nx_un
  have S_un : Sta s s.heap "com/example/flowmarket/flowmarket/game/Payoff" "UNIFORM" "Lcom/example/flowmarket/flowmarket/game/Payoff;" (.ref un) := Sta.start ev_un (Or.inr ⟨hw _ (List.mem_of_getElem? (i := 1) rfl), hw _ (List.mem_of_getElem? (i := 2) rfl)⟩)
  have F_un : Fld s s.heap un "java/lang/Enum" "ordinal" "I" (.int 0) := by
    refine Fld.start ?_
    rw [← fld_at (first := s) (o := none) (idx := []) ev_un]
    have q := nf_un
    simp only [Cond.value, Term.int_eval] at q
    revert q
    cases hq : (Jvm.Term.field (Jvm.Term.static "com/example/flowmarket/flowmarket/game/Payoff" "UNIFORM" "Lcom/example/flowmarket/flowmarket/game/Payoff;") "java/lang/Enum" "ordinal" "I").eval #[.int i0, .int i1, .int i2] s none [] s with
    | none => intro q; simp at q
    | some vv => intro q; cases vv <;> simp at q ⊢ <;> exact q
  obtain ⟨pl, ev_pl⟩ := exa_v nx_pl
  have Ex_pl := Exa.start ev_pl nx_pl
  have S_pl : Sta s s.heap "com/example/flowmarket/flowmarket/game/Payoff" "PATH_LENGTH" "Lcom/example/flowmarket/flowmarket/game/Payoff;" (.ref pl) := Sta.start ev_pl (Or.inr ⟨hw _ (List.mem_of_getElem? (i := 1) rfl), hw _ (List.mem_of_getElem? (i := 18) rfl)⟩)
  have F_pl : Fld s s.heap pl "java/lang/Enum" "ordinal" "I" (.int 1) := by
    refine Fld.start ?_
    rw [← fld_at (first := s) (o := none) (idx := []) ev_pl]
    have q := nf_pl
    simp only [Cond.value, Term.int_eval] at q
    revert q
    cases hq : (Jvm.Term.field (Jvm.Term.static "com/example/flowmarket/flowmarket/game/Payoff" "PATH_LENGTH" "Lcom/example/flowmarket/flowmarket/game/Payoff;") "java/lang/Enum" "ordinal" "I").eval #[.int i0, .int i1, .int i2] s none [] s with
    | none => intro q; simp at q
    | some vv => intro q; cases vv <;> simp at q ⊢ <;> exact q
  obtain ⟨n, o, h1, h2, h3, _, L, rfl, ⟨rfl, N⟩, hq⟩ := rm0 l s _ hw tables_1 i0 i1 i2 s.heap s.heap.size (Nat.le_refl _) un pl S_un S_pl Ex_un Ex_pl F_un F_pl p e ha hc hk s m _ below hf ((Spec.applies_iff_loose hf).mp happ).1 ⟨rfl, State.Warmed39.refl s, rfl⟩ trivial
  refine ⟨n, _, h1, h2, h3, hpost _ _ _ _ _ _ ⟨Cond.after_iff.mpr rfl, Cond.after_iff.mpr (eq_i res_at (Term.int_eval (1)) rfl), trivial⟩ ⟨hq.1, hq.2.1, (hq.2.2.sift fun y hy => Or.inr (N y hy)).mono (by decide) (by decide)⟩⟩
theorem main_1_1 : Claimed_1_1 := comes_1 fun _ _ _ _ _ _ h hF => ⟨h.1, hF⟩
theorem main_1_2 : Claimed_1_2 := comes_1 fun _ _ _ _ _ _ h hF => ⟨h.2.1, hF⟩
end Jvm.Pilot.@@N@@
namespace Jvm.Pilot.@@N@@
open Jvm Jvm.ClassFile Sem Op Lib Jvm.Free Jvm.Stand Jvm.Pilot.@@N@@.Jvm.D
/-! MADE BY PROGRAM (witnessworld.py) out of the Statement's table words and the real class files: 13 classes; the members and pool entries that the words name. The judged class is class 1, her method 1. -/
namespace start1
open Jvm.ClassFile
def u (s : String) : CpInfo := .utf8 (stringToUtf16 s)
/-- a pool by its gaps: so many unusable entries, then the entry; so many at the end -/
def gap : Nat → List CpInfo → List CpInfo
  | 0, r => r
  | n + 1, r => .unusable :: gap n r
def poolList (es : List (Nat × CpInfo)) (last : Nat) : List CpInfo := es.foldr (fun e r => gap e.1 (e.2 :: r)) (gap last [])
def pool (es : List (Nat × CpInfo)) (last : Nat) : Array CpInfo := ⟨poolList es last⟩
def fileOf (pool : Array CpInfo) (this : Nat) (attrs : Array Attribute := #[]) (ms : Array MethodInfo := #[]) (fl : Nat := 33) (sup : Nat := 0) (ifs : Array Nat := #[]) (fds : Array FieldInfo := #[]) : ClassFile where
  minorVersion := 0
  majorVersion := 65
  constantPool := pool
  accessFlags := fl
  thisClass := this
  superClass := sup
  interfaces := ifs
  fields := fds
  methods := ms
  attributes := attrs
def plain (name : String) (sup : Option ClassId) : Class where
  name := name
  kind := .ordinary
  loader := none
  accessFlags := 33
  super := sup
  interfaces := #[]
  cf := none
  fields := #[]
  methods := #[]
  instanceTypes := #[]
  staticTypes := #[]
  resolved := #[]
  callSites := []
  init := .initialized
  statics := none
  mirror := none

def pool0 : Array CpInfo := pool [(5, u "<init>"), (0, u "()V"), (1, .class_ 10), (1, u "java/lang/Object")] 113

def k0m0 : Method := { name := "<init>", desc := "()V", sig := { parameters := [], returnType := none }, accessFlags := 1, code := none }
/-- java/lang/Object -/
def k0 : Class := { plain "java/lang/Object" none with
  accessFlags := 33
  interfaces := #[]
  cf := some (fileOf pool0 8 #[] #[{ accessFlags := 1, nameIndex := 5, descriptorIndex := 6, attributes := #[] }] 33 0 #[] #[])
  fields := #[]
  methods := #[k0m0]
  instanceTypes := #[]
  staticTypes := #[]
  resolved := Array.replicate 124 none
  statics := none }

def pool1 : Array CpInfo := pool [(2, .class_ 4), (1, u "java/lang/Object"), (0, u "<init>"), (0, u "()V"), (0, .fieldref 8 9), (0, .class_ 10), (0, .nameAndType 11 12), (0, u "com/example/flowmarket/flowmarket/game/Payoff"), (0, u "UNIFORM"), (0, u "Lcom/example/flowmarket/flowmarket/game/Payoff;"), (0, .methodref 8 14), (0, .nameAndType 15 16), (0, u "weight"), (0, u "(I)D"), (0, .fieldref 8 18), (0, .nameAndType 19 12), (0, u "PATH_LENGTH"), (0, .integer 2147483647), (0, .methodref 22 23), (0, .class_ 24), (0, .nameAndType 25 26), (0, u "java/lang/Math"), (0, u "max"), (0, u "(II)I"), (0, .double 4607182418800017399), (1, .double 4607182418800017413), (3, .class_ 34), (0, u "com/example/flowmarket/flowmarket/game/PayoffWeightPinLaw"), (2, u "law"), (0, u "(III)Z")] 3

def k1m0 : Method := { name := "<init>", desc := "()V", sig := { parameters := [], returnType := none }, accessFlags := 2, code := none }
def k1c1 : Code := { maxStack := 4, maxLocals := 18, code := code, exceptionTable := #[], attributes := #[] }
def k1m1 : Method := { name := "law", desc := "(III)Z", sig := { parameters := [.int, .int, .int], returnType := some .boolean }, accessFlags := 9, code := some k1c1 }
/-- com/example/flowmarket/flowmarket/game/PayoffWeightPinLaw -/
def k1 : Class := { plain "com/example/flowmarket/flowmarket/game/PayoffWeightPinLaw" (some 0) with
  accessFlags := 49
  interfaces := #[]
  cf := some (fileOf pool1 33 #[] #[{ accessFlags := 2, nameIndex := 5, descriptorIndex := 6, attributes := #[] }, { accessFlags := 9, nameIndex := 37, descriptorIndex := 38, attributes := #[] }] 49 2 #[] #[])
  fields := #[]
  methods := #[k1m0, k1m1]
  instanceTypes := #[]
  staticTypes := #[]
  resolved := Array.replicate 42 none
  statics := none }

def pool2 : Array CpInfo := pool [(1, .class_ 2), (0, u "java/lang/constant/Constable"), (0, .class_ 4), (0, u "java/lang/Object")] 6

/-- java/lang/constant/Constable -/
def k2 : Class := { plain "java/lang/constant/Constable" (some 0) with
  accessFlags := 1537
  interfaces := #[]
  cf := some (fileOf pool2 1 #[] #[] 1537 3 #[] #[])
  fields := #[]
  methods := #[]
  instanceTypes := #[]
  staticTypes := #[]
  resolved := Array.replicate 11 none
  statics := none }

def pool3 : Array CpInfo := pool [(1, .class_ 2), (0, u "java/lang/Comparable"), (0, .class_ 4), (0, u "java/lang/Object")] 7

/-- java/lang/Comparable -/
def k3 : Class := { plain "java/lang/Comparable" (some 0) with
  accessFlags := 1537
  interfaces := #[]
  cf := some (fileOf pool3 1 #[] #[] 1537 3 #[] #[])
  fields := #[]
  methods := #[]
  instanceTypes := #[]
  staticTypes := #[]
  resolved := Array.replicate 12 none
  statics := none }

def pool4 : Array CpInfo := pool [(1, .class_ 2), (0, u "java/io/Serializable"), (0, .class_ 4), (0, u "java/lang/Object")] 2

/-- java/io/Serializable -/
def k4 : Class := { plain "java/io/Serializable" (some 0) with
  accessFlags := 1537
  interfaces := #[]
  cf := some (fileOf pool4 1 #[] #[] 1537 3 #[] #[])
  fields := #[]
  methods := #[]
  instanceTypes := #[]
  staticTypes := #[]
  resolved := Array.replicate 7 none
  statics := none }

def pool5 : Array CpInfo := pool [(2, .class_ 4), (1, u "java/lang/Enum"), (0, u "name"), (0, u "Ljava/lang/String;"), (0, .fieldref 2 8), (0, .nameAndType 9 10), (0, u "ordinal"), (0, u "I"), (1, .class_ 14), (1, u "java/lang/Object"), (4, u "hash"), (86, .class_ 108), (1, u "java/lang/Enum$EnumDesc"), (2, .class_ 112), (0, u "java/lang/constant/Constable"), (0, .class_ 114), (0, u "java/lang/Comparable"), (0, .class_ 116), (0, u "java/io/Serializable"), (9, u "()I")] 77

def k5c0 : Code := { maxStack := 1, maxLocals := 1, code := jdk_37_method_2_code, exceptionTable := #[], attributes := #[] }
def k5m0 : Method := { name := "ordinal", desc := "()I", sig := { parameters := [], returnType := some .int }, accessFlags := 17, code := some k5c0 }
/-- java/lang/Enum -/
def k5 : Class := { plain "java/lang/Enum" (some 0) with
  accessFlags := 1057
  interfaces := #[2, 3, 4]
  cf := some (fileOf pool5 2 #[.nestMembers #[106]] #[{ accessFlags := 17, nameIndex := 9, descriptorIndex := 126, attributes := #[] }] 1057 12 #[111, 113, 115] #[{ accessFlags := 18, nameIndex := 5, descriptorIndex := 6, attributes := #[] }, { accessFlags := 18, nameIndex := 9, descriptorIndex := 10, attributes := #[] }, { accessFlags := 2, nameIndex := 19, descriptorIndex := 10, attributes := #[] }])
  fields := #[{ name := "name", type := (.object "java/lang/String"), accessFlags := 18, slot := 0, constantValue := 0 }, { name := "ordinal", type := .int, accessFlags := 18, slot := 1, constantValue := 0 }, { name := "hash", type := .int, accessFlags := 2, slot := 2, constantValue := 0 }]
  methods := #[k5m0]
  instanceTypes := #[(.object "java/lang/String"), .int, .int]
  staticTypes := #[]
  resolved := Array.replicate 204 none
  statics := none }

def pool6 : Array CpInfo := pool [(1, .class_ 2), (0, u "com/example/flowmarket/flowmarket/game/Payoff"), (2, u "UNIFORM"), (0, u "Lcom/example/flowmarket/flowmarket/game/Payoff;"), (2, u "PATH_LENGTH"), (2, u "$VALUES"), (0, u "[Lcom/example/flowmarket/flowmarket/game/Payoff;"), (6, .class_ 22), (1, u "java/lang/Enum"), (8, u "label"), (0, u "Ljava/lang/String;"), (0, .methodref 1 34), (0, .nameAndType 35 36), (0, u "ordinal"), (0, u "()I"), (26, u "weight"), (0, u "(I)D")] 6

def k6c0 : Code := { maxStack := 4, maxLocals := 2, code := prog_8_method_5_code, exceptionTable := #[], attributes := #[] }
def k6m0 : Method := { name := "weight", desc := "(I)D", sig := { parameters := [.int], returnType := some .double }, accessFlags := 0, code := some k6c0 }
/-- com/example/flowmarket/flowmarket/game/Payoff -/
def k6 : Class := { plain "com/example/flowmarket/flowmarket/game/Payoff" (some 5) with
  accessFlags := 16433
  interfaces := #[]
  cf := some (fileOf pool6 1 #[] #[{ accessFlags := 0, nameIndex := 63, descriptorIndex := 64, attributes := #[] }] 16433 20 #[] #[{ accessFlags := 16409, nameIndex := 5, descriptorIndex := 6, attributes := #[] }, { accessFlags := 16409, nameIndex := 9, descriptorIndex := 6, attributes := #[] }, { accessFlags := 18, nameIndex := 31, descriptorIndex := 32, attributes := #[] }, { accessFlags := 4122, nameIndex := 12, descriptorIndex := 13, attributes := #[] }])
  fields := #[{ name := "UNIFORM", type := (.object "com/example/flowmarket/flowmarket/game/Payoff"), accessFlags := 16409, slot := 0, constantValue := 0 }, { name := "PATH_LENGTH", type := (.object "com/example/flowmarket/flowmarket/game/Payoff"), accessFlags := 16409, slot := 1, constantValue := 0 }, { name := "label", type := (.object "java/lang/String"), accessFlags := 18, slot := 3, constantValue := 0 }, { name := "$VALUES", type := (.array (.object "com/example/flowmarket/flowmarket/game/Payoff")), accessFlags := 4122, slot := 2, constantValue := 0 }]
  methods := #[k6m0]
  instanceTypes := #[(.object "java/lang/String"), .int, .int, (.object "java/lang/String")]
  staticTypes := #[(.object "com/example/flowmarket/flowmarket/game/Payoff"), (.object "com/example/flowmarket/flowmarket/game/Payoff"), (.array (.object "com/example/flowmarket/flowmarket/game/Payoff"))]
  resolved := Array.replicate 71 none
  statics := some 0 }

def pool7 : Array CpInfo := pool [(1, .class_ 2), (0, u "java/lang/Math"), (1, .class_ 6), (1, u "java/lang/Object"), (0, u "<init>"), (0, u "()V"), (89, .class_ 100), (1, u "java/lang/Math$RandomNumberGeneratorHolder"), (71, u "negativeZeroFloatBits"), (0, u "J"), (2, u "negativeZeroDoubleBits"), (21, u "max"), (46, u "$assertionsDisabled"), (0, u "Z"), (88, u "(II)I"), (2, u "twoToTheDoubleScaleDown"), (0, u "D"), (4, u "twoToTheDoubleScaleUp"), (9, u "E"), (3, u "PI"), (2, u "TAU"), (2, u "DEGREES_TO_RADIANS"), (0, u "RADIANS_TO_DEGREES")] 94

def k7m0 : Method := { name := "<init>", desc := "()V", sig := { parameters := [], returnType := none }, accessFlags := 2, code := none }
def k7c1 : Code := { maxStack := 2, maxLocals := 2, code := jdk_29_method_65_code, exceptionTable := #[], attributes := #[] }
def k7m1 : Method := { name := "max", desc := "(II)I", sig := { parameters := [.int, .int], returnType := some .int }, accessFlags := 9, code := some k7c1 }
/-- java/lang/Math -/
def k7 : Class := { plain "java/lang/Math" (some 0) with
  accessFlags := 49
  interfaces := #[]
  cf := some (fileOf pool7 1 #[.nestMembers #[98]] #[{ accessFlags := 2, nameIndex := 7, descriptorIndex := 8, attributes := #[] }, { accessFlags := 9, nameIndex := 198, descriptorIndex := 335, attributes := #[] }] 49 4 #[] #[{ accessFlags := 25, nameIndex := 354, descriptorIndex := 339, attributes := #[] }, { accessFlags := 25, nameIndex := 358, descriptorIndex := 339, attributes := #[] }, { accessFlags := 25, nameIndex := 361, descriptorIndex := 339, attributes := #[] }, { accessFlags := 26, nameIndex := 364, descriptorIndex := 339, attributes := #[] }, { accessFlags := 26, nameIndex := 365, descriptorIndex := 339, attributes := #[] }, { accessFlags := 26, nameIndex := 172, descriptorIndex := 173, attributes := #[] }, { accessFlags := 26, nameIndex := 176, descriptorIndex := 173, attributes := #[] }, { accessFlags := 8, nameIndex := 344, descriptorIndex := 339, attributes := #[] }, { accessFlags := 8, nameIndex := 338, descriptorIndex := 339, attributes := #[] }, { accessFlags := 4120, nameIndex := 245, descriptorIndex := 246, attributes := #[] }])
  fields := #[{ name := "E", type := .double, accessFlags := 25, slot := 0, constantValue := 0 }, { name := "PI", type := .double, accessFlags := 25, slot := 1, constantValue := 0 }, { name := "TAU", type := .double, accessFlags := 25, slot := 2, constantValue := 0 }, { name := "DEGREES_TO_RADIANS", type := .double, accessFlags := 26, slot := 3, constantValue := 0 }, { name := "RADIANS_TO_DEGREES", type := .double, accessFlags := 26, slot := 4, constantValue := 0 }, { name := "negativeZeroFloatBits", type := .long, accessFlags := 26, slot := 5, constantValue := 0 }, { name := "negativeZeroDoubleBits", type := .long, accessFlags := 26, slot := 6, constantValue := 0 }, { name := "twoToTheDoubleScaleUp", type := .double, accessFlags := 8, slot := 7, constantValue := 0 }, { name := "twoToTheDoubleScaleDown", type := .double, accessFlags := 8, slot := 8, constantValue := 0 }, { name := "$assertionsDisabled", type := .boolean, accessFlags := 4120, slot := 9, constantValue := 0 }]
  methods := #[k7m0, k7m1]
  instanceTypes := #[]
  staticTypes := #[.double, .double, .double, .double, .double, .long, .long, .double, .double, .boolean]
  resolved := Array.replicate 460 none
  statics := none }

def pool8 : Array CpInfo := pool [(1, u "java/lang/Cloneable"), (0, .class_ 1), (0, u "java/lang/Object"), (0, .class_ 3)] 3

/-- java/lang/Cloneable -/
def k8 : Class := { plain "java/lang/Cloneable" (some 0) with
  accessFlags := 1537
  interfaces := #[]
  cf := some (fileOf pool8 2 #[] #[] 1537 4 #[] #[])
  fields := #[]
  methods := #[]
  instanceTypes := #[]
  staticTypes := #[]
  resolved := Array.replicate 8 none
  statics := none }

/-- the primitive byte -/
def k9 : Class := { plain "byte" none with kind := .primitive 'B', accessFlags := 0x411 }
/-- [B -/
def k10 : Class := { plain "[B" (some 0) with kind := .array 9 .byte, interfaces := #[8, 4], accessFlags := 1041 }

/-- the primitive int -/
def k11 : Class := { plain "int" none with kind := .primitive 'I', accessFlags := 0x411 }
/-- [I -/
def k12 : Class := { plain "[I" (some 0) with kind := .array 11 .int, interfaces := #[8, 4], accessFlags := 1041 }

def heap : Heap := #[{ cls := 6, slots := #[.ref 1, .ref 2, .null], vm := .statics 6 },
  { cls := 6, slots := #[.null, .int 0, .int 0, .null], vm := .none },
  { cls := 6, slots := #[.null, .int 1, .int 0, .null], vm := .none }]
def classes : Array Class := #[k0, k1, k2, k3, k4, k5, k6, k7, k8, k9, k10, k11, k12]
def interned : List (Array UInt16 × Addr) := []
def slotsUsed : Nat := 11
def theMethod : MethodId := ⟨1, 1⟩
def args0 : Array Value := #[.int 5, .int 9, .int 3]
def aboutOver (below : List Frame) : State where
  vm := { classes := classes, interned := interned.toArray }
  heap := heap
  slotsUsed := slotsUsed
  threads := #[{ frames := .invoking theMethod args0 :: below }]
def below0 : List Frame := [.native { method := ⟨0, 0⟩, args := #[] }]
def about1 : State := aboutOver below0
def p0 : Program := .bare "" "" ""
def e0 : Env := launch0.env 0 0 0
theorem w_frames : about1.frames = Frame.invoking theMethod args0 :: below0 := rfl
set_option maxRecDepth 65536 in
theorem w_args : argsFit about1.vm theMethod args0 = true := by decide +kernel
set_option maxRecDepth 65536 in
theorem w_heap : heapFits about1 = true := by decide +kernel
set_option maxRecDepth 65536 in
theorem w_runnable : about1.curStatus? = some .runnable := by decide +kernel
set_option maxRecDepth 65536 in
theorem w_alone : about1.alone = true := by decide +kernel
set_option maxRecDepth 65536 in
theorem w_named : about1.methodNamed? x = some theMethod := by decide +kernel
set_option maxRecDepth 65536 in
theorem w_hears : about1.hears theMethod below0 = true := by decide +kernel
set_option maxRecDepth 65536 in
theorem w_ripe : about1.ripe theMethod args0 below0 = true := by decide +kernel
theorem w_running : about1.status = .running := rfl
set_option maxRecDepth 65536 in
theorem w_room : about1.hasRoom e0.platform room_1 = true :=
  launch0.hasRoom_least _ room_1 (by decide +kernel) (by decide +kernel) (by decide +kernel) (by decide +kernel) (by decide +kernel) (by decide +kernel)
theorem allAtoms_all (ts : List Jvm.Cond) (a : Array Jvm.Value) (st : Jvm.State) : (allAtoms ts).before a st = ts.all (fun c => c.before a st) := by
  induction ts with
  | nil => rfl
  | cons c t ih =>
    show (Jvm.Cond.and c (allAtoms t)).before a st = _
    rw [Jvm.Cond.before_and, ih, List.all_cons]
def words1 : List Jvm.Cond := Jvm.Cond.code x code maxLocals ret :: tables_1
/-- a 'code' word, met by the world's own term for the bytes: nothing is compared byte by byte -/
theorem code_word {y : MethodName} {bytes : ByteArray} {mx : Nat} {rt : Option FieldType} {a : Array Value} {s : State} {m : MethodId} {meth : Method} {c : Code} (h1 : s.methodNamed? y = some m) (h2 : s.vm.method? m = some meth) (h3 : meth.code = some c) (h4 : c.code = bytes)
    (h5 : (c.maxLocals == mx && c.exceptionTable.isEmpty && decide (c.maxStack ≤ mostOperands) && decide (meth.sig.returnType = rt) && !meth.locks && decide (parseMethodDescriptor y.desc = some meth.sig)) = true) : (Jvm.Cond.code y bytes mx rt).before a s = true := by
  simp only [Bool.and_eq_true, beq_iff_eq, Bool.not_eq_true', decide_eq_true_eq] at h5
  obtain ⟨⟨⟨⟨⟨g1, g2⟩, g3⟩, g4⟩, g5⟩, g6⟩ := h5
  simp [Cond.before, Cond.holds, Cond.value, h1, h2, h3, h4, g1, g2, g3, g4, g5, g6]
def isCode : Jvm.Cond → Bool
  | .code _ _ _ _ => true
  | _ => false
theorem all_split {L : List Jvm.Cond} {P : Jvm.Cond → Bool} (h1 : L.all (fun c => isCode c || P c) = true) (h2 : ∀ c ∈ L.filter isCode, P c = true) : L.all P = true := by
  refine List.all_eq_true.mpr fun c hc => ?_
  have h := List.all_eq_true.mp h1 c hc
  rcases Bool.eq_false_or_eq_true (isCode c) with hi | hi
  · exact h2 c (List.mem_filter.mpr ⟨hc, hi⟩)
  · simpa [hi] using h
set_option maxRecDepth 65536 in
theorem w_c0 : (Jvm.Cond.code x code maxLocals ret).before args0 about1 = true := code_word (m := ⟨1, 1⟩) (meth := k1m1) (c := k1c1) (by decide +kernel) rfl rfl rfl (by decide +kernel)
set_option maxRecDepth 65536 in
theorem w_c1 : (Jvm.Cond.code ({ cls := "com/example/flowmarket/flowmarket/game/Payoff", name := "weight", desc := "(I)D" } : Jvm.MethodName) prog_8_method_5_code (2 : Nat) (Option.some Jvm.ClassFile.FieldType.double)).before args0 about1 = true := code_word (m := ⟨6, 0⟩) (meth := k6m0) (c := k6c0) (by decide +kernel) rfl rfl rfl (by decide +kernel)
set_option maxRecDepth 65536 in
theorem w_c2 : (Jvm.Cond.code ({ cls := "java/lang/Enum", name := "ordinal", desc := "()I" } : Jvm.MethodName) jdk_37_method_2_code (1 : Nat) (Option.some Jvm.ClassFile.FieldType.int)).before args0 about1 = true := code_word (m := ⟨5, 0⟩) (meth := k5m0) (c := k5c0) (by decide +kernel) rfl rfl rfl (by decide +kernel)
set_option maxRecDepth 65536 in
theorem w_c3 : (Jvm.Cond.code ({ cls := "java/lang/Math", name := "max", desc := "(II)I" } : Jvm.MethodName) jdk_29_method_65_code (2 : Nat) (Option.some Jvm.ClassFile.FieldType.int)).before args0 about1 = true := code_word (m := ⟨7, 1⟩) (meth := k7m1) (c := k7c1) (by decide +kernel) rfl rfl rfl (by decide +kernel)
def codes1 : List Jvm.Cond := [Jvm.Cond.code x code maxLocals ret, Jvm.Cond.code ({ cls := "com/example/flowmarket/flowmarket/game/Payoff", name := "weight", desc := "(I)D" } : Jvm.MethodName) prog_8_method_5_code (2 : Nat) (Option.some Jvm.ClassFile.FieldType.double), Jvm.Cond.code ({ cls := "java/lang/Enum", name := "ordinal", desc := "()I" } : Jvm.MethodName) jdk_37_method_2_code (1 : Nat) (Option.some Jvm.ClassFile.FieldType.int), Jvm.Cond.code ({ cls := "java/lang/Math", name := "max", desc := "(II)I" } : Jvm.MethodName) jdk_29_method_65_code (2 : Nat) (Option.some Jvm.ClassFile.FieldType.int)]
set_option maxRecDepth 65536 in
theorem codes_eq : words1.filter isCode = codes1 := rfl
theorem w_codes : ∀ c ∈ words1.filter isCode, c.before args0 about1 = true := by
  rw [codes_eq]
  intro c hc
  simp only [codes1, List.mem_cons, List.not_mem_nil, or_false] at hc
  rcases hc with rfl | rfl | rfl | rfl
  · exact w_c0
  · exact w_c1
  · exact w_c2
  · exact w_c3
set_option maxRecDepth 65536 in
theorem w_t1 : (words1.take 24).all (fun c => isCode c || c.before args0 about1) = true := by decide +kernel
set_option maxRecDepth 65536 in
theorem w_t2 : (words1.drop 24).all (fun c => isCode c || c.before args0 about1) = true := by decide +kernel
theorem w_tables : (allAtoms (Jvm.Cond.code x code maxLocals ret :: tables_1)).before args0 about1 = true := by
  rw [allAtoms_all]
  show words1.all (fun c => c.before args0 about1) = true
  refine all_split ?_ w_codes
  rw [← List.take_append_drop 24 words1, List.all_append, w_t1, w_t2]
  rfl
set_option maxRecDepth 65536 in
theorem w_case : (Jvm.Cond.and given_1 narrow_1).before args0 about1 = true := by decide +kernel
theorem w_applies : (headSpec (Jvm.Cond.code x code maxLocals ret :: tables_1) room_1).applies x e0.platform about1 = true :=
  (Spec.applies_iff w_frames).mpr ⟨w_running, w_runnable, w_alone, w_named, w_hears, w_ripe, w_room, w_tables⟩
theorem atStart : AtStart classFile x code maxLocals ret World_1 tables_1 room_1 Calls_1 rest_1 Pre_1 launch0 p0 e0 about1 theMethod args0 below0 :=
  ⟨lists_1, trivial, launch0.admits_env _ _ _, launch0.least_env, fairChoices_fair.cas, fairChoices_fair.clock, w_frames, w_args, w_heap, w_applies, trivial, trivial, w_case⟩
end start1
theorem witness_1 : WitnessClaimed_1 := ⟨start1.p0, start1.e0, start1.about1, start1.theMethod, start1.args0, start1.below0, start1.atStart⟩
end Jvm.Pilot.@@N@@
