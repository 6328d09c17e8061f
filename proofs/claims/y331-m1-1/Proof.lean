import JvmDerived
import JvmDerived.Pilot.@@N@@Statement
import JvmDerived.Pilot.@@N@@Code
set_option linter.unusedVariables false
set_option linter.unusedSimpArgs false
namespace Jvm.OwnKit
open Sem ClassFile Op Lib Jvm.Stand Jvm.Free Jvm.LawKit Jvm.RoadKit
/-- from S the run ends as wanted: it returns v, leaves a heap and has written the places L -/
def Goes (p : Program) (e : Env) (below : List Frame) (s : State) (K N : Nat) (Q : Option Value → Heap → List Loc → Prop) (S : State) : Prop :=
  ∃ s₂ o, Steps p.tables e below S s₂ ∧ s₂.status = .running ∧ Ended s₂ below o ∧ ∃ v L, o = .returned v ∧ Q v s₂.heap L ∧ FrameEnd s o s₂ L K N
def Cl (p : Program) (e : Env) (below : List Frame) (G : State → Prop) : Prop := ∀ S S', (∀ t, Steps p.tables e below S' t → Steps p.tables e below S t) → G S' → G S
theorem Goes.cl (p : Program) (e : Env) (below : List Frame) (s : State) (K N : Nat) (Q : Option Value → Heap → List Loc → Prop) : Cl p e below (Goes p e below s K N Q) := fun S S' h k => by
  obtain ⟨s₂, o, h1, r⟩ := k
  exact ⟨s₂, o, h _ h1, r⟩
/-- a body's contract -/
abbrev Con (l : Launch) (y : MethodName) (bytes : ByteArray) (maxL : Nat) (ret : Option FieldType) (ws : List Jvm.Cond) (rm : Room) (Z : State) (as : Array Value) (h0 : Heap) (K N : Nat) (Q : Option Value → Heap → List Loc → Prop) : Prop :=
  MetFree l y (head1 (Jvm.Cond.code y bytes maxL ret :: ws) rm) (fun a U => a = as ∧ Z.Warmed39 U.vm ∧ U.heap = h0) (fun _ _ _ _ _ => True) (fun _ U o U' => ∃ v L, o = .returned v ∧ Q v U'.heap L ∧ FrameEnd U o U' L K N)
theorem Con.of {l : Launch} {y : MethodName} {bytes : ByteArray} {maxL : Nat} {ret : Option FieldType} {ws : List Jvm.Cond} {rm : Room} {Z : State} {as : Array Value} {h0 : Heap} {K N : Nat} {Q : Option Value → Heap → List Loc → Prop} {Ls : Array Slot}
    (pl : plainFor y = true) (hef : ∀ m, entryFrame m as maxL = mkF m 0 Ls [])
    (H : ∀ (p : Program) (e : Env) (s : State) (m : MethodId) (below : List Frame) (meth : Method) (c : Code) (s₁ : State) (G : State → Prop), G = Goes p e below s K N Q → Cl p e below G → p.tables.exec = Jvm.exec → c.code = bytes → c.maxLocals = maxL → s.vm.findClass y.cls = some m.cls → meth.name = y.name → meth.sig.returnType = ret → meth.locks = false → Z.Warmed39 s.vm → Stand p l e rm s m as below meth c s₁ [] 0 0 → s₁.heap = h0 → G (s₁.setTop (mkF m 0 Ls []))) :
    Con l y bytes maxL ret ws rm Z as h0 K N Q := by
  refine MetFree.of_bodySF pl hisR ?_
  intro p e s m args below meth c s₁ Bd hml0 hP hK
  obtain ⟨rfl, hZ, hh⟩ := hP
  have X0 : Stand p l e rm s m args below meth c s₁ [] 0 0 := Stand.of_body Bd
  have e0 : s₁.heap = h0 := by rw [← hh, Bd.state]; rfl
  have g := H p e s m below meth c s₁ _ rfl (Goes.cl p e below s K N Q) Bd.exec Bd.bytes hml0 (findClass_of_methodNamed Bd.named) (name_of_methodNamed Bd.named Bd.method).1 Bd.returns Bd.notSynchronized hZ X0 e0
  rw [← hef m] at g
  exact g
theorem Wr.size {h h' : Heap} {a : Addr} {sl : Nat} {v : Value} (W : Wr h h' a sl v) : h.size ≤ h'.size := by
  obtain ⟨c, -, -, -, rfl⟩ := W
  simp
section New
variable {p : Program} {l : Launch} {e : Env} {R : Room} {s : State} {m : MethodId} {args : Array Value} {below : List Frame} {meth : Method} {c : Code} {T : State} {locs : List Loc} {cells slots : Nat} {Z : State} {a0 : Array Value} {h : Heap} {G : State → Prop} {pc pc' : Nat} {Ls Ls' : Array Slot} {rest : List Value} {K N : Nat} {Q : Option Value → Heap → List Loc → Prop}
/-! the ends -/
theorem e_ret (hGe : G = Goes p e below s K N Q) (X : Stand p l e R s m args below meth c T locs cells slots) (hx : p.tables.exec = Jvm.exec) {w : Value} {t : FieldType} {i : Instr} (hret : meth.sig.returnType = some t) (hlk : meth.locks = false) (hd : decode c.code pc = .ok (i, 1)) (hn : narrow t w = w)
    (hi : (i = .ireturn ∧ (t = .int ∨ t = .boolean ∨ t = .byte ∨ t = .char ∨ t = .short) ∧ ∃ z, w = .int z) ∨ (i = .lreturn ∧ t = .long ∧ ∃ z, w = .long z) ∨ (i = .dreturn ∧ t = .double ∧ ∃ z, w = .double z) ∨ (i = .freturn ∧ t = .float ∧ ∃ z, w = .float z) ∨ (i = .areturn ∧ t.isReference = true ∧ w.isRef = true))
    (eT : T.heap = h) (hk : cells ≤ K) (hs : slots ≤ N) (hQ : Q (some w) h locs) : G (T.setTop (mkF m pc Ls (w :: rest))) := by
  subst hGe
  obtain ⟨fs, hr, hrun, hended, hW, hsame⟩ := X.leave (v := some w) (fun h => by rw [hret] at h; cases h) hlk
  refine ⟨_, _, retOut X hx hret hn hi hd hr, hrun, hended, _, _, rfl, ?_, ⟨_, rfl⟩, hW, hsame.mono hk hs⟩
  show Q _ T.heap _
  rw [eT]; exact hQ
theorem e_retI (hGe : G = Goes p e below s K N Q) (X : Stand p l e R s m args below meth c T locs cells slots) (hx : p.tables.exec = Jvm.exec) {z : Int32} (hret : meth.sig.returnType = some .int) (hlk : meth.locks = false) (hd : decode c.code pc = .ok (.ireturn, 1)) (eT : T.heap = h) (hk : cells ≤ K) (hs : slots ≤ N) (hQ : Q (some (.int z)) h locs) : G (T.setTop (mkF m pc Ls (.int z :: rest))) :=
  e_ret hGe X hx hret hlk hd rfl (Or.inl ⟨rfl, Or.inl rfl, z, rfl⟩) eT hk hs hQ
theorem e_retJ (hGe : G = Goes p e below s K N Q) (X : Stand p l e R s m args below meth c T locs cells slots) (hx : p.tables.exec = Jvm.exec) {z : Int64} (hret : meth.sig.returnType = some .long) (hlk : meth.locks = false) (hd : decode c.code pc = .ok (.lreturn, 1)) (eT : T.heap = h) (hk : cells ≤ K) (hs : slots ≤ N) (hQ : Q (some (.long z)) h locs) : G (T.setTop (mkF m pc Ls (.long z :: rest))) :=
  e_ret hGe X hx hret hlk hd rfl (Or.inr (Or.inl ⟨rfl, rfl, z, rfl⟩)) eT hk hs hQ
theorem e_retD (hGe : G = Goes p e below s K N Q) (X : Stand p l e R s m args below meth c T locs cells slots) (hx : p.tables.exec = Jvm.exec) {z : UInt64} (hret : meth.sig.returnType = some .double) (hlk : meth.locks = false) (hd : decode c.code pc = .ok (.dreturn, 1)) (eT : T.heap = h) (hk : cells ≤ K) (hs : slots ≤ N) (hQ : Q (some (.double z)) h locs) : G (T.setTop (mkF m pc Ls (.double z :: rest))) :=
  e_ret hGe X hx hret hlk hd rfl (Or.inr (Or.inr (Or.inl ⟨rfl, rfl, z, rfl⟩))) eT hk hs hQ
theorem e_retA (hGe : G = Goes p e below s K N Q) (X : Stand p l e R s m args below meth c T locs cells slots) (hx : p.tables.exec = Jvm.exec) {a : Addr} {t : FieldType} (hret : meth.sig.returnType = some t) (ht : t.isReference = true) (hlk : meth.locks = false) (hd : decode c.code pc = .ok (.areturn, 1)) (eT : T.heap = h) (hk : cells ≤ K) (hs : slots ≤ N) (hQ : Q (some (.ref a)) h locs) : G (T.setTop (mkF m pc Ls (.ref a :: rest))) :=
  e_ret hGe X hx hret hlk hd (by cases t <;> first | rfl | (cases ht)) (Or.inr (Or.inr (Or.inr (Or.inr ⟨rfl, ht, rfl⟩)))) eT hk hs hQ
theorem e_retZ (hGe : G = Goes p e below s K N Q) (X : Stand p l e R s m args below meth c T locs cells slots) (hx : p.tables.exec = Jvm.exec) {z : Int32} (hret : meth.sig.returnType = some .boolean) (hlk : meth.locks = false) (hd : decode c.code pc = .ok (.ireturn, 1)) (hz : z = 0 ∨ z = 1) (eT : T.heap = h) (hk : cells ≤ K) (hs : slots ≤ N) (hQ : Q (some (.int z)) h locs) : G (T.setTop (mkF m pc Ls (.int z :: rest))) :=
  e_ret hGe X hx hret hlk hd (by rcases hz with rfl | rfl <;> rfl) (Or.inl ⟨rfl, Or.inr (Or.inl rfl), z, rfl⟩) eT hk hs hQ
theorem e_ret0 (hGe : G = Goes p e below s K N Q) (X : Stand p l e R s m args below meth c T locs cells slots) (hx : p.tables.exec = Jvm.exec) (hret : meth.sig.returnType = none) (hlk : meth.locks = false) (hd : decode c.code pc = .ok (.return_, 1)) (eT : T.heap = h) (hk : cells ≤ K) (hs : slots ≤ N) (hQ : Q none h locs) : G (T.setTop (mkF m pc Ls [])) := by
  subst hGe
  obtain ⟨fs, hr, hrun, hended, hW, hsame⟩ := X.leave (v := none) (fun _ => rfl) hlk
  refine ⟨_, _, X.returnOut hx hret hd hr, hrun, hended, _, _, rfl, ?_, ⟨_, rfl⟩, hW, hsame.mono hk hs⟩
  show Q _ T.heap _
  rw [eT]; exact hQ
/-! the plain steps -/
theorem g_iload (hG : Cl p e below G) (X : Stand p l e R s m args below meth c T locs cells slots) (hx : p.tables.exec = Jvm.exec) {i : Nat} {v : Int32} (hd : decode c.code pc = .ok (.iload i, 2)) (hp : pc' = pc + 2) (hl : Ls[i]? = some (.val (.int v))) (k : G (T.setTop (mkF m pc' Ls (.int v :: rest)))) : G (T.setTop (mkF m pc Ls (rest))) := by
  subst hp
  refine hG _ _ (fun t ht => ?_) k
  exact XS.iload X.here hx rfl hd hl ht
theorem g_iloadN (hG : Cl p e below G) (X : Stand p l e R s m args below meth c T locs cells slots) (hx : p.tables.exec = Jvm.exec) {i : Fin 4} {v : Int32} (hd : decode c.code pc = .ok (.iload_n i, 1)) (hp : pc' = pc + 1) (hl : Ls[i.val]? = some (.val (.int v))) (k : G (T.setTop (mkF m pc' Ls (.int v :: rest)))) : G (T.setTop (mkF m pc Ls (rest))) := by
  subst hp
  refine hG _ _ (fun t ht => ?_) k
  exact XS.iloadN X.here hx rfl hd hl ht
theorem g_istore (hG : Cl p e below G) (X : Stand p l e R s m args below meth c T locs cells slots) (hx : p.tables.exec = Jvm.exec) {i : Nat} {v : Int32} (hd : decode c.code pc = .ok (.istore i, 2)) (hp : pc' = pc + 2) (hl : storeLocals Ls i (.int v) = some Ls') (k : G (T.setTop (mkF m pc' Ls' (rest)))) : G (T.setTop (mkF m pc Ls (.int v :: rest))) := by
  subst hp
  refine hG _ _ (fun t ht => ?_) k
  exact XS.istore X.here hx rfl hd rfl hl ht
theorem g_istoreN (hG : Cl p e below G) (X : Stand p l e R s m args below meth c T locs cells slots) (hx : p.tables.exec = Jvm.exec) {i : Fin 4} {v : Int32} (hd : decode c.code pc = .ok (.istore_n i, 1)) (hp : pc' = pc + 1) (hl : storeLocals Ls i.val (.int v) = some Ls') (k : G (T.setTop (mkF m pc' Ls' (rest)))) : G (T.setTop (mkF m pc Ls (.int v :: rest))) := by
  subst hp
  refine hG _ _ (fun t ht => ?_) k
  exact XS.istoreN X.here hx rfl hd rfl hl ht
theorem g_lload (hG : Cl p e below G) (X : Stand p l e R s m args below meth c T locs cells slots) (hx : p.tables.exec = Jvm.exec) {i : Nat} {v : Int64} (hd : decode c.code pc = .ok (.lload i, 2)) (hp : pc' = pc + 2) (hl : Ls[i]? = some (.val (.long v))) (k : G (T.setTop (mkF m pc' Ls (.long v :: rest)))) : G (T.setTop (mkF m pc Ls (rest))) := by
  subst hp
  refine hG _ _ (fun t ht => ?_) k
  exact XS.lload X.here hx rfl hd hl ht
theorem g_lloadN (hG : Cl p e below G) (X : Stand p l e R s m args below meth c T locs cells slots) (hx : p.tables.exec = Jvm.exec) {i : Fin 4} {v : Int64} (hd : decode c.code pc = .ok (.lload_n i, 1)) (hp : pc' = pc + 1) (hl : Ls[i.val]? = some (.val (.long v))) (k : G (T.setTop (mkF m pc' Ls (.long v :: rest)))) : G (T.setTop (mkF m pc Ls (rest))) := by
  subst hp
  refine hG _ _ (fun t ht => ?_) k
  exact XS.lloadN X.here hx rfl hd hl ht
theorem g_lstore (hG : Cl p e below G) (X : Stand p l e R s m args below meth c T locs cells slots) (hx : p.tables.exec = Jvm.exec) {i : Nat} {v : Int64} (hd : decode c.code pc = .ok (.lstore i, 2)) (hp : pc' = pc + 2) (hl : storeLocals Ls i (.long v) = some Ls') (k : G (T.setTop (mkF m pc' Ls' (rest)))) : G (T.setTop (mkF m pc Ls (.long v :: rest))) := by
  subst hp
  refine hG _ _ (fun t ht => ?_) k
  exact XS.lstore X.here hx rfl hd rfl hl ht
theorem g_lstoreN (hG : Cl p e below G) (X : Stand p l e R s m args below meth c T locs cells slots) (hx : p.tables.exec = Jvm.exec) {i : Fin 4} {v : Int64} (hd : decode c.code pc = .ok (.lstore_n i, 1)) (hp : pc' = pc + 1) (hl : storeLocals Ls i.val (.long v) = some Ls') (k : G (T.setTop (mkF m pc' Ls' (rest)))) : G (T.setTop (mkF m pc Ls (.long v :: rest))) := by
  subst hp
  refine hG _ _ (fun t ht => ?_) k
  exact XS.lstoreN X.here hx rfl hd rfl hl ht
theorem g_dload (hG : Cl p e below G) (X : Stand p l e R s m args below meth c T locs cells slots) (hx : p.tables.exec = Jvm.exec) {i : Nat} {v : UInt64} (hd : decode c.code pc = .ok (.dload i, 2)) (hp : pc' = pc + 2) (hl : Ls[i]? = some (.val (.double v))) (k : G (T.setTop (mkF m pc' Ls (.double v :: rest)))) : G (T.setTop (mkF m pc Ls (rest))) := by
  subst hp
  refine hG _ _ (fun t ht => ?_) k
  exact XS.dload X.here hx rfl hd hl ht
theorem g_dloadN (hG : Cl p e below G) (X : Stand p l e R s m args below meth c T locs cells slots) (hx : p.tables.exec = Jvm.exec) {i : Fin 4} {v : UInt64} (hd : decode c.code pc = .ok (.dload_n i, 1)) (hp : pc' = pc + 1) (hl : Ls[i.val]? = some (.val (.double v))) (k : G (T.setTop (mkF m pc' Ls (.double v :: rest)))) : G (T.setTop (mkF m pc Ls (rest))) := by
  subst hp
  refine hG _ _ (fun t ht => ?_) k
  exact XS.dloadN X.here hx rfl hd hl ht
theorem g_dstore (hG : Cl p e below G) (X : Stand p l e R s m args below meth c T locs cells slots) (hx : p.tables.exec = Jvm.exec) {i : Nat} {v : UInt64} (hd : decode c.code pc = .ok (.dstore i, 2)) (hp : pc' = pc + 2) (hl : storeLocals Ls i (.double v) = some Ls') (k : G (T.setTop (mkF m pc' Ls' (rest)))) : G (T.setTop (mkF m pc Ls (.double v :: rest))) := by
  subst hp
  refine hG _ _ (fun t ht => ?_) k
  exact XS.dstore X.here hx rfl hd rfl hl ht
theorem g_dstoreN (hG : Cl p e below G) (X : Stand p l e R s m args below meth c T locs cells slots) (hx : p.tables.exec = Jvm.exec) {i : Fin 4} {v : UInt64} (hd : decode c.code pc = .ok (.dstore_n i, 1)) (hp : pc' = pc + 1) (hl : storeLocals Ls i.val (.double v) = some Ls') (k : G (T.setTop (mkF m pc' Ls' (rest)))) : G (T.setTop (mkF m pc Ls (.double v :: rest))) := by
  subst hp
  refine hG _ _ (fun t ht => ?_) k
  exact XS.dstoreN X.here hx rfl hd rfl hl ht
theorem g_aload (hG : Cl p e below G) (X : Stand p l e R s m args below meth c T locs cells slots) (hx : p.tables.exec = Jvm.exec) {i : Nat} {v : Value} (hd : decode c.code pc = .ok (.aload i, 2)) (hp : pc' = pc + 2) (hl : Ls[i]? = some (.val v)) (hv' : v.isRef = true) (k : G (T.setTop (mkF m pc' Ls (v :: rest)))) : G (T.setTop (mkF m pc Ls (rest))) := by
  subst hp
  refine hG _ _ (fun t ht => ?_) k
  exact XS.aload X.here hx rfl hd hl hv' ht
theorem g_aloadN (hG : Cl p e below G) (X : Stand p l e R s m args below meth c T locs cells slots) (hx : p.tables.exec = Jvm.exec) {i : Fin 4} {v : Value} (hd : decode c.code pc = .ok (.aload_n i, 1)) (hp : pc' = pc + 1) (hl : Ls[i.val]? = some (.val v)) (hv' : v.isRef = true) (k : G (T.setTop (mkF m pc' Ls (v :: rest)))) : G (T.setTop (mkF m pc Ls (rest))) := by
  subst hp
  refine hG _ _ (fun t ht => ?_) k
  exact XS.aloadN X.here hx rfl hd hl hv' ht
theorem g_astore (hG : Cl p e below G) (X : Stand p l e R s m args below meth c T locs cells slots) (hx : p.tables.exec = Jvm.exec) {i : Nat} {v : Value} (hd : decode c.code pc = .ok (.astore i, 2)) (hp : pc' = pc + 2) (hv' : v.isRef = true) (hl : storeLocals Ls i v = some Ls') (k : G (T.setTop (mkF m pc' Ls' (rest)))) : G (T.setTop (mkF m pc Ls (v :: rest))) := by
  subst hp
  refine hG _ _ (fun t ht => ?_) k
  exact XS.astore X.here hx rfl hd rfl hv' hl ht
theorem g_astoreN (hG : Cl p e below G) (X : Stand p l e R s m args below meth c T locs cells slots) (hx : p.tables.exec = Jvm.exec) {i : Fin 4} {v : Value} (hd : decode c.code pc = .ok (.astore_n i, 1)) (hp : pc' = pc + 1) (hv' : v.isRef = true) (hl : storeLocals Ls i.val v = some Ls') (k : G (T.setTop (mkF m pc' Ls' (rest)))) : G (T.setTop (mkF m pc Ls (v :: rest))) := by
  subst hp
  refine hG _ _ (fun t ht => ?_) k
  exact XS.astoreN X.here hx rfl hd rfl hv' hl ht
theorem g_iconst (hG : Cl p e below G) (X : Stand p l e R s m args below meth c T locs cells slots) (hx : p.tables.exec = Jvm.exec) {i : Int} {v : Int32} (hd : decode c.code pc = .ok (.iconst i, 1)) (hp : pc' = pc + 1) (hv : Int32.ofInt i = v) (k : G (T.setTop (mkF m pc' Ls (.int v :: rest)))) : G (T.setTop (mkF m pc Ls (rest))) := by
  subst hp
  subst hv
  refine hG _ _ (fun t ht => ?_) k
  exact XS.iconst X.here hx rfl hd ht
theorem g_bipush (hG : Cl p e below G) (X : Stand p l e R s m args below meth c T locs cells slots) (hx : p.tables.exec = Jvm.exec) {i : Int} {v : Int32} (hd : decode c.code pc = .ok (.bipush i, 2)) (hp : pc' = pc + 2) (hv : (Int8.ofInt i).toInt32 = v) (k : G (T.setTop (mkF m pc' Ls (.int v :: rest)))) : G (T.setTop (mkF m pc Ls (rest))) := by
  subst hp
  subst hv
  refine hG _ _ (fun t ht => ?_) k
  exact XS.bipush X.here hx rfl hd ht
theorem g_sipush (hG : Cl p e below G) (X : Stand p l e R s m args below meth c T locs cells slots) (hx : p.tables.exec = Jvm.exec) {i : Int} {v : Int32} (hd : decode c.code pc = .ok (.sipush i, 3)) (hp : pc' = pc + 3) (hv : (Int16.ofInt i).toInt32 = v) (k : G (T.setTop (mkF m pc' Ls (.int v :: rest)))) : G (T.setTop (mkF m pc Ls (rest))) := by
  subst hp
  subst hv
  refine hG _ _ (fun t ht => ?_) k
  exact XS.sipush X.here hx rfl hd ht
theorem g_lconst (hG : Cl p e below G) (X : Stand p l e R s m args below meth c T locs cells slots) (hx : p.tables.exec = Jvm.exec) {i : Fin 2} {v : Int64} (hd : decode c.code pc = .ok (.lconst i, 1)) (hp : pc' = pc + 1) (hv : Int64.ofNat i.val = v) (k : G (T.setTop (mkF m pc' Ls (.long v :: rest)))) : G (T.setTop (mkF m pc Ls (rest))) := by
  subst hp
  subst hv
  refine hG _ _ (fun t ht => ?_) k
  exact XS.lconst X.here hx rfl hd ht
theorem g_dconst0 (hG : Cl p e below G) (X : Stand p l e R s m args below meth c T locs cells slots) (hx : p.tables.exec = Jvm.exec) {v : UInt64} (hd : decode c.code pc = .ok (.dconst 0, 1)) (hp : pc' = pc + 1) (hv : FP.dconst0 = v) (k : G (T.setTop (mkF m pc' Ls (.double v :: rest)))) : G (T.setTop (mkF m pc Ls (rest))) := by
  subst hp
  subst hv
  refine hG _ _ (fun t ht => ?_) k
  exact XS.dconst0 X.here hx rfl hd rfl ht
theorem g_dconst1 (hG : Cl p e below G) (X : Stand p l e R s m args below meth c T locs cells slots) (hx : p.tables.exec = Jvm.exec) {v : UInt64} (hd : decode c.code pc = .ok (.dconst 1, 1)) (hp : pc' = pc + 1) (hv : FP.dconst1 = v) (k : G (T.setTop (mkF m pc' Ls (.double v :: rest)))) : G (T.setTop (mkF m pc Ls (rest))) := by
  subst hp
  subst hv
  refine hG _ _ (fun t ht => ?_) k
  exact XS.dconst1 X.here hx rfl hd rfl ht
theorem g_aconstNull (hG : Cl p e below G) (X : Stand p l e R s m args below meth c T locs cells slots) (hx : p.tables.exec = Jvm.exec)  (hd : decode c.code pc = .ok (.aconst_null, 1)) (hp : pc' = pc + 1) (k : G (T.setTop (mkF m pc' Ls (.null :: rest)))) : G (T.setTop (mkF m pc Ls (rest))) := by
  subst hp
  refine hG _ _ (fun t ht => ?_) k
  exact XS.aconstNull X.here hx rfl hd ht
theorem g_iadd (hG : Cl p e below G) (X : Stand p l e R s m args below meth c T locs cells slots) (hx : p.tables.exec = Jvm.exec) {x y v : Int32} (hd : decode c.code pc = .ok (.iadd, 1)) (hp : pc' = pc + 1) (hv : x + y = v) (k : G (T.setTop (mkF m pc' Ls (.int v :: rest)))) : G (T.setTop (mkF m pc Ls (.int y :: .int x :: rest))) := by
  subst hp
  subst hv
  refine hG _ _ (fun t ht => ?_) k
  exact XS.iadd X.here hx rfl hd rfl ht
theorem g_ladd (hG : Cl p e below G) (X : Stand p l e R s m args below meth c T locs cells slots) (hx : p.tables.exec = Jvm.exec) {x y v : Int64} (hd : decode c.code pc = .ok (.ladd, 1)) (hp : pc' = pc + 1) (hv : x + y = v) (k : G (T.setTop (mkF m pc' Ls (.long v :: rest)))) : G (T.setTop (mkF m pc Ls (.long y :: .long x :: rest))) := by
  subst hp
  subst hv
  refine hG _ _ (fun t ht => ?_) k
  exact XS.ladd X.here hx rfl hd rfl ht
theorem g_isub (hG : Cl p e below G) (X : Stand p l e R s m args below meth c T locs cells slots) (hx : p.tables.exec = Jvm.exec) {x y v : Int32} (hd : decode c.code pc = .ok (.isub, 1)) (hp : pc' = pc + 1) (hv : x - y = v) (k : G (T.setTop (mkF m pc' Ls (.int v :: rest)))) : G (T.setTop (mkF m pc Ls (.int y :: .int x :: rest))) := by
  subst hp
  subst hv
  refine hG _ _ (fun t ht => ?_) k
  exact XS.isub X.here hx rfl hd rfl ht
theorem g_lsub (hG : Cl p e below G) (X : Stand p l e R s m args below meth c T locs cells slots) (hx : p.tables.exec = Jvm.exec) {x y v : Int64} (hd : decode c.code pc = .ok (.lsub, 1)) (hp : pc' = pc + 1) (hv : x - y = v) (k : G (T.setTop (mkF m pc' Ls (.long v :: rest)))) : G (T.setTop (mkF m pc Ls (.long y :: .long x :: rest))) := by
  subst hp
  subst hv
  refine hG _ _ (fun t ht => ?_) k
  exact XS.lsub X.here hx rfl hd rfl ht
theorem g_imul (hG : Cl p e below G) (X : Stand p l e R s m args below meth c T locs cells slots) (hx : p.tables.exec = Jvm.exec) {x y v : Int32} (hd : decode c.code pc = .ok (.imul, 1)) (hp : pc' = pc + 1) (hv : x * y = v) (k : G (T.setTop (mkF m pc' Ls (.int v :: rest)))) : G (T.setTop (mkF m pc Ls (.int y :: .int x :: rest))) := by
  subst hp
  subst hv
  refine hG _ _ (fun t ht => ?_) k
  exact XS.imul X.here hx rfl hd rfl ht
theorem g_lmul (hG : Cl p e below G) (X : Stand p l e R s m args below meth c T locs cells slots) (hx : p.tables.exec = Jvm.exec) {x y v : Int64} (hd : decode c.code pc = .ok (.lmul, 1)) (hp : pc' = pc + 1) (hv : x * y = v) (k : G (T.setTop (mkF m pc' Ls (.long v :: rest)))) : G (T.setTop (mkF m pc Ls (.long y :: .long x :: rest))) := by
  subst hp
  subst hv
  refine hG _ _ (fun t ht => ?_) k
  exact XS.lmul X.here hx rfl hd rfl ht
theorem g_iand (hG : Cl p e below G) (X : Stand p l e R s m args below meth c T locs cells slots) (hx : p.tables.exec = Jvm.exec) {x y v : Int32} (hd : decode c.code pc = .ok (.iand, 1)) (hp : pc' = pc + 1) (hv : x &&& y = v) (k : G (T.setTop (mkF m pc' Ls (.int v :: rest)))) : G (T.setTop (mkF m pc Ls (.int y :: .int x :: rest))) := by
  subst hp
  subst hv
  refine hG _ _ (fun t ht => ?_) k
  exact XS.iand X.here hx rfl hd rfl ht
theorem g_land (hG : Cl p e below G) (X : Stand p l e R s m args below meth c T locs cells slots) (hx : p.tables.exec = Jvm.exec) {x y v : Int64} (hd : decode c.code pc = .ok (.land, 1)) (hp : pc' = pc + 1) (hv : x &&& y = v) (k : G (T.setTop (mkF m pc' Ls (.long v :: rest)))) : G (T.setTop (mkF m pc Ls (.long y :: .long x :: rest))) := by
  subst hp
  subst hv
  refine hG _ _ (fun t ht => ?_) k
  exact XS.land X.here hx rfl hd rfl ht
theorem g_ior (hG : Cl p e below G) (X : Stand p l e R s m args below meth c T locs cells slots) (hx : p.tables.exec = Jvm.exec) {x y v : Int32} (hd : decode c.code pc = .ok (.ior, 1)) (hp : pc' = pc + 1) (hv : x ||| y = v) (k : G (T.setTop (mkF m pc' Ls (.int v :: rest)))) : G (T.setTop (mkF m pc Ls (.int y :: .int x :: rest))) := by
  subst hp
  subst hv
  refine hG _ _ (fun t ht => ?_) k
  exact XS.ior X.here hx rfl hd rfl ht
theorem g_lor (hG : Cl p e below G) (X : Stand p l e R s m args below meth c T locs cells slots) (hx : p.tables.exec = Jvm.exec) {x y v : Int64} (hd : decode c.code pc = .ok (.lor, 1)) (hp : pc' = pc + 1) (hv : x ||| y = v) (k : G (T.setTop (mkF m pc' Ls (.long v :: rest)))) : G (T.setTop (mkF m pc Ls (.long y :: .long x :: rest))) := by
  subst hp
  subst hv
  refine hG _ _ (fun t ht => ?_) k
  exact XS.lor X.here hx rfl hd rfl ht
theorem g_ixor (hG : Cl p e below G) (X : Stand p l e R s m args below meth c T locs cells slots) (hx : p.tables.exec = Jvm.exec) {x y v : Int32} (hd : decode c.code pc = .ok (.ixor, 1)) (hp : pc' = pc + 1) (hv : x ^^^ y = v) (k : G (T.setTop (mkF m pc' Ls (.int v :: rest)))) : G (T.setTop (mkF m pc Ls (.int y :: .int x :: rest))) := by
  subst hp
  subst hv
  refine hG _ _ (fun t ht => ?_) k
  exact XS.ixor X.here hx rfl hd rfl ht
theorem g_lxor (hG : Cl p e below G) (X : Stand p l e R s m args below meth c T locs cells slots) (hx : p.tables.exec = Jvm.exec) {x y v : Int64} (hd : decode c.code pc = .ok (.lxor, 1)) (hp : pc' = pc + 1) (hv : x ^^^ y = v) (k : G (T.setTop (mkF m pc' Ls (.long v :: rest)))) : G (T.setTop (mkF m pc Ls (.long y :: .long x :: rest))) := by
  subst hp
  subst hv
  refine hG _ _ (fun t ht => ?_) k
  exact XS.lxor X.here hx rfl hd rfl ht
theorem g_ineg (hG : Cl p e below G) (X : Stand p l e R s m args below meth c T locs cells slots) (hx : p.tables.exec = Jvm.exec) {x v : Int32} (hd : decode c.code pc = .ok (.ineg, 1)) (hp : pc' = pc + 1) (hv : -x = v) (k : G (T.setTop (mkF m pc' Ls (.int v :: rest)))) : G (T.setTop (mkF m pc Ls (.int x :: rest))) := by
  subst hp
  subst hv
  refine hG _ _ (fun t ht => ?_) k
  exact XS.ineg X.here hx rfl hd rfl ht
theorem g_lneg (hG : Cl p e below G) (X : Stand p l e R s m args below meth c T locs cells slots) (hx : p.tables.exec = Jvm.exec) {x v : Int64} (hd : decode c.code pc = .ok (.lneg, 1)) (hp : pc' = pc + 1) (hv : -x = v) (k : G (T.setTop (mkF m pc' Ls (.long v :: rest)))) : G (T.setTop (mkF m pc Ls (.long x :: rest))) := by
  subst hp
  subst hv
  refine hG _ _ (fun t ht => ?_) k
  exact XS.lneg X.here hx rfl hd rfl ht
theorem g_i2l (hG : Cl p e below G) (X : Stand p l e R s m args below meth c T locs cells slots) (hx : p.tables.exec = Jvm.exec) {x : Int32} {v : Int64} (hd : decode c.code pc = .ok (.i2l, 1)) (hp : pc' = pc + 1) (hv : x.toInt64 = v) (k : G (T.setTop (mkF m pc' Ls (.long v :: rest)))) : G (T.setTop (mkF m pc Ls (.int x :: rest))) := by
  subst hp
  subst hv
  refine hG _ _ (fun t ht => ?_) k
  exact XS.i2l X.here hx rfl hd rfl ht
theorem g_l2i (hG : Cl p e below G) (X : Stand p l e R s m args below meth c T locs cells slots) (hx : p.tables.exec = Jvm.exec) {x : Int64} {v : Int32} (hd : decode c.code pc = .ok (.l2i, 1)) (hp : pc' = pc + 1) (hv : x.toInt32 = v) (k : G (T.setTop (mkF m pc' Ls (.int v :: rest)))) : G (T.setTop (mkF m pc Ls (.long x :: rest))) := by
  subst hp
  subst hv
  refine hG _ _ (fun t ht => ?_) k
  exact XS.l2i X.here hx rfl hd rfl ht
theorem g_i2c (hG : Cl p e below G) (X : Stand p l e R s m args below meth c T locs cells slots) (hx : p.tables.exec = Jvm.exec) {x v : Int32} (hd : decode c.code pc = .ok (.i2c, 1)) (hp : pc' = pc + 1) (hv : x.toUInt32.toUInt16.toUInt32.toInt32 = v) (k : G (T.setTop (mkF m pc' Ls (.int v :: rest)))) : G (T.setTop (mkF m pc Ls (.int x :: rest))) := by
  subst hp
  subst hv
  refine hG _ _ (fun t ht => ?_) k
  exact XS.i2c X.here hx rfl hd rfl ht
theorem g_i2b (hG : Cl p e below G) (X : Stand p l e R s m args below meth c T locs cells slots) (hx : p.tables.exec = Jvm.exec) {x v : Int32} (hd : decode c.code pc = .ok (.i2b, 1)) (hp : pc' = pc + 1) (hv : x.toInt8.toInt32 = v) (k : G (T.setTop (mkF m pc' Ls (.int v :: rest)))) : G (T.setTop (mkF m pc Ls (.int x :: rest))) := by
  subst hp
  subst hv
  refine hG _ _ (fun t ht => ?_) k
  exact XS.i2b X.here hx rfl hd rfl ht
theorem g_ishl (hG : Cl p e below G) (X : Stand p l e R s m args below meth c T locs cells slots) (hx : p.tables.exec = Jvm.exec) {x y v : Int32} (hd : decode c.code pc = .ok (.ishl, 1)) (hp : pc' = pc + 1) (hv : x <<< (y &&& 31) = v) (k : G (T.setTop (mkF m pc' Ls (.int v :: rest)))) : G (T.setTop (mkF m pc Ls (.int y :: .int x :: rest))) := by
  subst hp
  subst hv
  refine hG _ _ (fun t ht => ?_) k
  exact XS.ishl X.here hx rfl hd rfl ht
theorem g_ishr (hG : Cl p e below G) (X : Stand p l e R s m args below meth c T locs cells slots) (hx : p.tables.exec = Jvm.exec) {x y v : Int32} (hd : decode c.code pc = .ok (.ishr, 1)) (hp : pc' = pc + 1) (hv : x >>> (y &&& 31) = v) (k : G (T.setTop (mkF m pc' Ls (.int v :: rest)))) : G (T.setTop (mkF m pc Ls (.int y :: .int x :: rest))) := by
  subst hp
  subst hv
  refine hG _ _ (fun t ht => ?_) k
  exact XS.ishr X.here hx rfl hd rfl ht
theorem g_iushr (hG : Cl p e below G) (X : Stand p l e R s m args below meth c T locs cells slots) (hx : p.tables.exec = Jvm.exec) {x y v : Int32} (hd : decode c.code pc = .ok (.iushr, 1)) (hp : pc' = pc + 1) (hv : (x.toUInt32 >>> (y &&& 31).toUInt32).toInt32 = v) (k : G (T.setTop (mkF m pc' Ls (.int v :: rest)))) : G (T.setTop (mkF m pc Ls (.int y :: .int x :: rest))) := by
  subst hp
  subst hv
  refine hG _ _ (fun t ht => ?_) k
  exact XS.iushr X.here hx rfl hd rfl ht
theorem g_lshl (hG : Cl p e below G) (X : Stand p l e R s m args below meth c T locs cells slots) (hx : p.tables.exec = Jvm.exec) {x : Int64} {y : Int32} {v : Int64} (hd : decode c.code pc = .ok (.lshl, 1)) (hp : pc' = pc + 1) (hv : x <<< (y &&& 0x3f).toInt64 = v) (k : G (T.setTop (mkF m pc' Ls (.long v :: rest)))) : G (T.setTop (mkF m pc Ls (.int y :: .long x :: rest))) := by
  subst hp
  subst hv
  refine hG _ _ (fun t ht => ?_) k
  exact XS.lshl X.here hx rfl hd rfl ht
theorem g_lshr (hG : Cl p e below G) (X : Stand p l e R s m args below meth c T locs cells slots) (hx : p.tables.exec = Jvm.exec) {x : Int64} {y : Int32} {v : Int64} (hd : decode c.code pc = .ok (.lshr, 1)) (hp : pc' = pc + 1) (hv : x >>> (y &&& 0x3f).toInt64 = v) (k : G (T.setTop (mkF m pc' Ls (.long v :: rest)))) : G (T.setTop (mkF m pc Ls (.int y :: .long x :: rest))) := by
  subst hp
  subst hv
  refine hG _ _ (fun t ht => ?_) k
  exact XS.lshr X.here hx rfl hd rfl ht
theorem g_lcmp (hG : Cl p e below G) (X : Stand p l e R s m args below meth c T locs cells slots) (hx : p.tables.exec = Jvm.exec) {x y : Int64} {v : Int32} (hd : decode c.code pc = .ok (.lcmp, 1)) (hp : pc' = pc + 1) (hv : lcmpW x y = v) (k : G (T.setTop (mkF m pc' Ls (.int v :: rest)))) : G (T.setTop (mkF m pc Ls (.long y :: .long x :: rest))) := by
  subst hp
  subst hv
  refine hG _ _ (fun t ht => ?_) k
  exact XS.lcmp X.here hx rfl hd rfl ht
theorem g_irem (hG : Cl p e below G) (X : Stand p l e R s m args below meth c T locs cells slots) (hx : p.tables.exec = Jvm.exec) {x y v : Int32} (hd : decode c.code pc = .ok (.irem, 1)) (hp : pc' = pc + 1) (hy : y ≠ 0) (hv : x % y = v) (k : G (T.setTop (mkF m pc' Ls (.int v :: rest)))) : G (T.setTop (mkF m pc Ls (.int y :: .int x :: rest))) := by
  subst hp
  subst hv
  refine hG _ _ (fun t ht => ?_) k
  exact iremM X hx rfl hd rfl hy ht
theorem g_lrem (hG : Cl p e below G) (X : Stand p l e R s m args below meth c T locs cells slots) (hx : p.tables.exec = Jvm.exec) {x y v : Int64} (hd : decode c.code pc = .ok (.lrem, 1)) (hp : pc' = pc + 1) (hy : y ≠ 0) (hv : x % y = v) (k : G (T.setTop (mkF m pc' Ls (.long v :: rest)))) : G (T.setTop (mkF m pc Ls (.long y :: .long x :: rest))) := by
  subst hp hv
  rw [← lrem_mod] at k
  refine hG _ _ (fun t ht => ?_) k
  exact XS.lrem X.here hx rfl hd rfl hy ht
theorem g_idiv (hG : Cl p e below G) (X : Stand p l e R s m args below meth c T locs cells slots) (hx : p.tables.exec = Jvm.exec) {x y v : Int32} (hd : decode c.code pc = .ok (.idiv, 1)) (hp : pc' = pc + 1) (hy : y ≠ 0) (hv : x / y = v) (k : G (T.setTop (mkF m pc' Ls (.int v :: rest)))) : G (T.setTop (mkF m pc Ls (.int y :: .int x :: rest))) := by
  subst hp
  subst hv
  refine hG _ _ (fun t ht => ?_) k
  exact XS.idiv X.here hx rfl hd rfl hy ht
theorem g_dup (hG : Cl p e below G) (X : Stand p l e R s m args below meth c T locs cells slots) (hx : p.tables.exec = Jvm.exec) {x : Value} (hd : decode c.code pc = .ok (.dup, 1)) (hp : pc' = pc + 1) (hc : x.category = 1) (k : G (T.setTop (mkF m pc' Ls (x :: x :: rest)))) : G (T.setTop (mkF m pc Ls (x :: rest))) := by
  subst hp
  refine hG _ _ (fun t ht => ?_) k
  exact XS.dup X.here hx rfl hd rfl hc ht
theorem g_pop (hG : Cl p e below G) (X : Stand p l e R s m args below meth c T locs cells slots) (hx : p.tables.exec = Jvm.exec) {x : Value} (hd : decode c.code pc = .ok (.pop, 1)) (hp : pc' = pc + 1) (hc : x.category = 1) (k : G (T.setTop (mkF m pc' Ls (rest)))) : G (T.setTop (mkF m pc Ls (x :: rest))) := by
  subst hp
  refine hG _ _ (fun t ht => ?_) k
  exact XS.pop X.here hx rfl hd rfl hc ht
theorem g_dupX1 (hG : Cl p e below G) (X : Stand p l e R s m args below meth c T locs cells slots) (hx : p.tables.exec = Jvm.exec) {x y : Value} (hd : decode c.code pc = .ok (.dup_x1, 1)) (hp : pc' = pc + 1) (hc : x.category = 1) (hc' : y.category = 1) (k : G (T.setTop (mkF m pc' Ls (x :: y :: x :: rest)))) : G (T.setTop (mkF m pc Ls (x :: y :: rest))) := by
  subst hp
  refine hG _ _ (fun t ht => ?_) k
  exact XS.dupX1 X.here hx rfl hd rfl hc hc' ht
theorem g_dup2 (hG : Cl p e below G) (X : Stand p l e R s m args below meth c T locs cells slots) (hx : p.tables.exec = Jvm.exec) {x y : Value} (hd : decode c.code pc = .ok (.dup2, 1)) (hp : pc' = pc + 1) (hc : x.category = 1) (hc' : y.category = 1) (k : G (T.setTop (mkF m pc' Ls (x :: y :: x :: y :: rest)))) : G (T.setTop (mkF m pc Ls (x :: y :: rest))) := by
  subst hp
  refine hG _ _ (fun t ht => ?_) k
  exact Jvm.Free.XT.dup2 X.here hx rfl hd rfl hc hc' ht
theorem g_iinc (hG : Cl p e below G) (X : Stand p l e R s m args below meth c T locs cells slots) (hx : p.tables.exec = Jvm.exec) {i : Nat} {cst : Int} {x v : Int32} (hd : decode c.code pc = .ok (.iinc i cst, 3)) (hp : pc' = pc + 3) (hl : Ls[i]? = some (.val (.int x))) (hv : x + Int32.ofInt cst = v) (hl' : storeLocals Ls i (.int v) = some Ls') (k : G (T.setTop (mkF m pc' Ls' (rest)))) : G (T.setTop (mkF m pc Ls (rest))) := by
  subst hp
  subst hv
  refine hG _ _ (fun t ht => ?_) k
  exact XS.iinc X.here hx rfl hd hl hl' ht
theorem g_i2d (hG : Cl p e below G) (X : Stand p l e R s m args below meth c T locs cells slots) (hx : p.tables.exec = Jvm.exec) {x : Int32} {v : UInt64} (hd : decode c.code pc = .ok (.i2d, 1)) (hp : pc' = pc + 1) (hv : FP.i2d x = v) (k : G (T.setTop (mkF m pc' Ls (.double v :: rest)))) : G (T.setTop (mkF m pc Ls (.int x :: rest))) := by
  subst hp
  subst hv
  refine hG _ _ (fun t ht => ?_) k
  exact XS.i2dS X.here hx rfl hd rfl rfl ht
theorem g_l2d (hG : Cl p e below G) (X : Stand p l e R s m args below meth c T locs cells slots) (hx : p.tables.exec = Jvm.exec) {x : Int64} {v : UInt64} (hd : decode c.code pc = .ok (.l2d, 1)) (hp : pc' = pc + 1) (hv : FP.l2d x = v) (k : G (T.setTop (mkF m pc' Ls (.double v :: rest)))) : G (T.setTop (mkF m pc Ls (.long x :: rest))) := by
  subst hp
  subst hv
  refine hG _ _ (fun t ht => ?_) k
  exact XS.l2dS X.here hx rfl hd rfl rfl ht
theorem g_d2i (hG : Cl p e below G) (X : Stand p l e R s m args below meth c T locs cells slots) (hx : p.tables.exec = Jvm.exec) {x : UInt64} {v : Int32} (hd : decode c.code pc = .ok (.d2i, 1)) (hp : pc' = pc + 1) (hv : FP.d2i x = v) (k : G (T.setTop (mkF m pc' Ls (.int v :: rest)))) : G (T.setTop (mkF m pc Ls (.double x :: rest))) := by
  subst hp
  subst hv
  refine hG _ _ (fun t ht => ?_) k
  exact XS.d2iS X.here hx rfl hd rfl rfl ht
theorem g_d2l (hG : Cl p e below G) (X : Stand p l e R s m args below meth c T locs cells slots) (hx : p.tables.exec = Jvm.exec) {x : UInt64} {v : Int64} (hd : decode c.code pc = .ok (.d2l, 1)) (hp : pc' = pc + 1) (hv : FP.d2l x = v) (k : G (T.setTop (mkF m pc' Ls (.long v :: rest)))) : G (T.setTop (mkF m pc Ls (.double x :: rest))) := by
  subst hp
  subst hv
  refine hG _ _ (fun t ht => ?_) k
  exact XS.d2lS X.here hx rfl hd rfl rfl ht
theorem g_dneg (hG : Cl p e below G) (X : Stand p l e R s m args below meth c T locs cells slots) (hx : p.tables.exec = Jvm.exec) {x v : UInt64} (hd : decode c.code pc = .ok (.dneg, 1)) (hp : pc' = pc + 1) (hv : FP.dneg x = v) (k : G (T.setTop (mkF m pc' Ls (.double v :: rest)))) : G (T.setTop (mkF m pc Ls (.double x :: rest))) := by
  subst hp
  subst hv
  refine hG _ _ (fun t ht => ?_) k
  exact XS.dnegS X.here hx rfl hd rfl rfl ht
theorem g_dcmp (hG : Cl p e below G) (X : Stand p l e R s m args below meth c T locs cells slots) (hx : p.tables.exec = Jvm.exec) {x y : UInt64} {o : CmpOp} {v : Int32} (hd : decode c.code pc = .ok (.dcmp o, 1)) (hp : pc' = pc + 1) (hv : cmpValue (FP.dcmp x y) o = v) (k : G (T.setTop (mkF m pc' Ls (.int v :: rest)))) : G (T.setTop (mkF m pc Ls (.double y :: .double x :: rest))) := by
  subst hp
  subst hv
  refine hG _ _ (fun t ht => ?_) k
  exact XS.dcmpS X.here hx rfl hd rfl rfl ht
theorem g_dadd (hG : Cl p e below G) (X : Stand p l e R s m args below meth c T locs cells slots) (hx : p.tables.exec = Jvm.exec) {x y v : UInt64} (hd : decode c.code pc = .ok (.dadd, 1)) (hp : pc' = pc + 1) (hn : Jvm.Free.Fl.NoNaN64 (FP.dadd x y)) (hv : FP.dadd x y = v) (k : G (T.setTop (mkF m pc' Ls (.double v :: rest)))) : G (T.setTop (mkF m pc Ls (.double y :: .double x :: rest))) := by
  subst hp
  subst hv
  refine hG _ _ (fun t ht => ?_) k
  exact XS.daddS X.here hx rfl hd rfl hn rfl ht
theorem g_dsub (hG : Cl p e below G) (X : Stand p l e R s m args below meth c T locs cells slots) (hx : p.tables.exec = Jvm.exec) {x y v : UInt64} (hd : decode c.code pc = .ok (.dsub, 1)) (hp : pc' = pc + 1) (hn : Jvm.Free.Fl.NoNaN64 (FP.dsub x y)) (hv : FP.dsub x y = v) (k : G (T.setTop (mkF m pc' Ls (.double v :: rest)))) : G (T.setTop (mkF m pc Ls (.double y :: .double x :: rest))) := by
  subst hp
  subst hv
  refine hG _ _ (fun t ht => ?_) k
  exact XS.dsubS X.here hx rfl hd rfl hn rfl ht
theorem g_dmul (hG : Cl p e below G) (X : Stand p l e R s m args below meth c T locs cells slots) (hx : p.tables.exec = Jvm.exec) {x y v : UInt64} (hd : decode c.code pc = .ok (.dmul, 1)) (hp : pc' = pc + 1) (hn : Jvm.Free.Fl.NoNaN64 (FP.dmul x y)) (hv : FP.dmul x y = v) (k : G (T.setTop (mkF m pc' Ls (.double v :: rest)))) : G (T.setTop (mkF m pc Ls (.double y :: .double x :: rest))) := by
  subst hp
  subst hv
  refine hG _ _ (fun t ht => ?_) k
  exact XS.dmulS X.here hx rfl hd rfl hn rfl ht
theorem g_ddiv (hG : Cl p e below G) (X : Stand p l e R s m args below meth c T locs cells slots) (hx : p.tables.exec = Jvm.exec) {x y v : UInt64} (hd : decode c.code pc = .ok (.ddiv, 1)) (hp : pc' = pc + 1) (hn : Jvm.Free.Fl.NoNaN64 (FP.ddiv x y)) (hv : FP.ddiv x y = v) (k : G (T.setTop (mkF m pc' Ls (.double v :: rest)))) : G (T.setTop (mkF m pc Ls (.double y :: .double x :: rest))) := by
  subst hp
  subst hv
  refine hG _ _ (fun t ht => ?_) k
  exact XS.ddivS X.here hx rfl hd rfl hn rfl ht
theorem g_goto (hG : Cl p e below G) (X : Stand p l e R s m args below meth c T locs cells slots) (hx : p.tables.exec = Jvm.exec) {o : Int} (hd : decode c.code pc = .ok (.goto o, 3)) (ho : 0 ≤ (pc : Int) + o) (hp : ((pc : Int) + o).toNat = pc') (k : G (T.setTop (mkF m pc' Ls rest))) : G (T.setTop (mkF m pc Ls rest)) := by
  refine hG _ _ (fun t ht => ?_) k
  exact XS.goto X.here hx rfl (pc0 := pc) rfl hd ho hp ht
theorem g_ifYes (hG : Cl p e below G) (X : Stand p l e R s m args below meth c T locs cells slots) (hx : p.tables.exec = Jvm.exec) {cd : ClassFile.Cond} {x : Int32} {o : Int} (hd : decode c.code pc = .ok (.ifCond cd o, 3)) (hc : ifCond.holds cd x = true) (ho : 0 ≤ (pc : Int) + o) (hp : ((pc : Int) + o).toNat = pc') (k : G (T.setTop (mkF m pc' Ls rest))) : G (T.setTop (mkF m pc Ls (.int x :: rest))) := by
  refine hG _ _ (fun t ht => ?_) k
  exact XS.ifYes X.here hx rfl (pc0 := pc) rfl hd rfl hc ho hp ht
theorem g_ifNo (hG : Cl p e below G) (X : Stand p l e R s m args below meth c T locs cells slots) (hx : p.tables.exec = Jvm.exec) {cd : ClassFile.Cond} {x : Int32} {o : Int} (hd : decode c.code pc = .ok (.ifCond cd o, 3)) (hc : ifCond.holds cd x = false) (hp : pc' = pc + 3) (k : G (T.setTop (mkF m pc' Ls rest))) : G (T.setTop (mkF m pc Ls (.int x :: rest))) := by
  subst hp
  refine hG _ _ (fun t ht => ?_) k
  exact XS.ifNo X.here hx rfl hd rfl hc ht
theorem g_icmpYes (hG : Cl p e below G) (X : Stand p l e R s m args below meth c T locs cells slots) (hx : p.tables.exec = Jvm.exec) {cd : ClassFile.Cond} {x y : Int32} {o : Int} (hd : decode c.code pc = .ok (.if_icmp cd o, 3)) (hc : if_icmp.holds cd x y = true) (ho : 0 ≤ (pc : Int) + o) (hp : ((pc : Int) + o).toNat = pc') (k : G (T.setTop (mkF m pc' Ls rest))) : G (T.setTop (mkF m pc Ls (.int y :: .int x :: rest))) := by
  refine hG _ _ (fun t ht => ?_) k
  exact XS.icmpYes X.here hx rfl (pc0 := pc) rfl hd rfl hc ho hp ht
theorem g_icmpNo (hG : Cl p e below G) (X : Stand p l e R s m args below meth c T locs cells slots) (hx : p.tables.exec = Jvm.exec) {cd : ClassFile.Cond} {x y : Int32} {o : Int} (hd : decode c.code pc = .ok (.if_icmp cd o, 3)) (hc : if_icmp.holds cd x y = false) (hp : pc' = pc + 3) (k : G (T.setTop (mkF m pc' Ls rest))) : G (T.setTop (mkF m pc Ls (.int y :: .int x :: rest))) := by
  subst hp
  refine hG _ _ (fun t ht => ?_) k
  exact XS.icmpNo X.here hx rfl hd rfl hc ht
theorem g_ifnullYes (hG : Cl p e below G) (X : Stand p l e R s m args below meth c T locs cells slots) (hx : p.tables.exec = Jvm.exec) {o : Int} (hd : decode c.code pc = .ok (.ifnull o, 3)) (ho : 0 ≤ (pc : Int) + o) (hp : ((pc : Int) + o).toNat = pc') (k : G (T.setTop (mkF m pc' Ls rest))) : G (T.setTop (mkF m pc Ls (.null :: rest))) := by
  refine hG _ _ (fun t ht => ?_) k
  exact XS.ifnullYes X.here hx rfl (pc0 := pc) rfl hd rfl ho hp ht
theorem g_ifnullNo (hG : Cl p e below G) (X : Stand p l e R s m args below meth c T locs cells slots) (hx : p.tables.exec = Jvm.exec) {o : Int} {b : Addr} (hd : decode c.code pc = .ok (.ifnull o, 3)) (hp : pc' = pc + 3) (k : G (T.setTop (mkF m pc' Ls rest))) : G (T.setTop (mkF m pc Ls (.ref b :: rest))) := by
  subst hp
  refine hG _ _ (fun t ht => ?_) k
  exact XS.ifnullNo X.here hx rfl hd rfl ht
theorem g_ifnonnullYes (hG : Cl p e below G) (X : Stand p l e R s m args below meth c T locs cells slots) (hx : p.tables.exec = Jvm.exec) {o : Int} {b : Addr} (hd : decode c.code pc = .ok (.ifnonnull o, 3)) (ho : 0 ≤ (pc : Int) + o) (hp : ((pc : Int) + o).toNat = pc') (k : G (T.setTop (mkF m pc' Ls rest))) : G (T.setTop (mkF m pc Ls (.ref b :: rest))) := by
  refine hG _ _ (fun t ht => ?_) k
  exact XS.ifnonnullYes X.here hx rfl (pc0 := pc) rfl hd rfl ho hp ht
theorem g_ifnonnullNo (hG : Cl p e below G) (X : Stand p l e R s m args below meth c T locs cells slots) (hx : p.tables.exec = Jvm.exec) {o : Int} (hd : decode c.code pc = .ok (.ifnonnull o, 3)) (hp : pc' = pc + 3) (k : G (T.setTop (mkF m pc' Ls rest))) : G (T.setTop (mkF m pc Ls (.null :: rest))) := by
  subst hp
  refine hG _ _ (fun t ht => ?_) k
  exact XS.ifnonnullNo X.here hx rfl hd rfl ht
theorem g_acmp (hG : Cl p e below G) (X : Stand p l e R s m args below meth c T locs cells slots) (hx : p.tables.exec = Jvm.exec) {cd : ACond} {x y : Value} (h1 : x.isRef = true) (h2 : y.isRef = true) {o : Int} {same : Bool} (hd : decode c.code pc = .ok (.if_acmp cd o, 3)) (hq : decide (x = y) = same) (ho : 0 ≤ (pc : Int) + o) (hp : pc' = if acV cd same = true then ((pc : Int) + o).toNat else pc + 3) (k : G (T.setTop (mkF m pc' Ls rest))) : G (T.setTop (mkF m pc Ls (y :: x :: rest))) := by
  refine hG _ _ (fun t ht => ?_) k
  exact Jvm.RoadKit.acmp (g := mkF m pc Ls (y :: x :: rest)) X hx rfl h1 h2 (pc0 := pc) rfl hd rfl hq ho hp ht
/-! constants -/
theorem g_ldcInt (hG : Cl p e below G) (X : Stand p l e R s m args below meth c T locs cells slots) (hx : p.tables.exec = Jvm.exec) (hZ : Z.Warmed39 s.vm) {own : String} {index : Nat} {v : Int32} (hown : s.vm.findClass own = some m.cls) (w : (Jvm.Cond.constant own index v).before a0 Z = true) (hd : decode c.code pc = .ok (.ldc index, 2)) (hp : pc' = pc + 2) (k : G (T.setTop (mkF m pc' Ls (.int v :: rest)))) : G (T.setTop (mkF m pc Ls rest)) := by
  subst hp
  refine hG _ _ (fun t ht => ?_) k
  exact X.ldcInt hx hown (mvT hZ w) (g := mkF m pc Ls rest) rfl hd t ht
theorem g_ldcLong (hG : Cl p e below G) (X : Stand p l e R s m args below meth c T locs cells slots) (hx : p.tables.exec = Jvm.exec) (hZ : Z.Warmed39 s.vm) {own : String} {index : Nat} {v : Int64} (hown : s.vm.findClass own = some m.cls) (w : (Jvm.Cond.constantLong own index v).before a0 Z = true) (hd : decode c.code pc = .ok (.ldc2_w index, 3)) (hp : pc' = pc + 3) (k : G (T.setTop (mkF m pc' Ls (.long v :: rest)))) : G (T.setTop (mkF m pc Ls rest)) := by
  subst hp
  refine hG _ _ (fun t ht => ?_) k
  exact X.ldc2Long hx hown (mvT hZ w) (g := mkF m pc Ls rest) rfl hd t ht
theorem g_ldcDouble (hG : Cl p e below G) (X : Stand p l e R s m args below meth c T locs cells slots) (hx : p.tables.exec = Jvm.exec) (hZ : Z.Warmed39 s.vm) {own : String} {index : Nat} {v : UInt64} (hown : s.vm.findClass own = some m.cls) (w : (Jvm.Cond.constantDouble own index v).before a0 Z = true) (hd : decode c.code pc = .ok (.ldc2_w index, 3)) (hp : pc' = pc + 3) (k : G (T.setTop (mkF m pc' Ls (.double v :: rest)))) : G (T.setTop (mkF m pc Ls rest)) := by
  subst hp
  refine hG _ _ (fun t ht => ?_) k
  exact X.ldc2DoubleC hx hown (mvT hZ w) (g := mkF m pc Ls rest) rfl hd t ht
/-! fields -/
theorem g_getF (hG : Cl p e below G) (X : Stand p l e R s m args below meth c T locs cells slots) (hx : p.tables.exec = Jvm.exec) (hZ : Z.Warmed39 s.vm) {own R0 O n d : String} {index : Nat} (hown : s.vm.findClass own = some m.cls) (w : (Jvm.Cond.fieldLink own index R0 n d).before a0 Z = true) (via : Via Z R0 O n d) (eT : T.heap = h) {a : Addr} {v : Value} (F : Fld Z h a O n d v) (hd : decode c.code pc = .ok (.getfield index, 3)) (hp : pc' = pc + 3)
    (k : ∀ T', Stand p l e R s m args below meth c T' locs cells slots → T'.heap = h → G (T'.setTop (mkF m pc' Ls (v :: rest)))) : G (T.setTop (mkF m pc Ls (.ref a :: rest))) := by
  subst hp
  obtain ⟨T', X', e', st⟩ := getF X hx hZ hown (host := "") (Or.inl w) via eT F (g := mkF m pc Ls (.ref a :: rest)) rfl rfl hd
  exact hG _ _ st (k T' X' e')
theorem g_putF (hG : Cl p e below G) (X : Stand p l e R s m args below meth c T locs cells slots) (hx : p.tables.exec = Jvm.exec) (hZ : Z.Warmed39 s.vm) {own R0 O n d C : String} {index kk : Nat} {ty : FieldType} (hown : s.vm.findClass own = some m.cls) (w : (Jvm.Cond.fieldLink own index R0 n d).before a0 Z = true) (via : Via Z R0 O n d) (eT : T.heap = h) {a : Addr} {v v' old : Value} (F : Fld Z h a O n d old) (E : Exa Z h a C)
    (L : (Jvm.Cond.lays C O n d).before a0 Z = true ∨ ((Jvm.Cond.laysFinal C O n d).before a0 Z = true ∧ own = O ∧ meth.name = "<init>")) (wi : (Jvm.Cond.instantiable C kk).before a0 Z = true) (hty : parseFieldDescriptor d = some ty) (hn : narrow ty v = v') (hf : fits ty v' = true) (hd : decode c.code pc = .ok (.putfield index, 3)) (hp : pc' = pc + 3)
    (k : ∀ T' h', Stand p l e R s m args below meth c T' (locs ++ [⟨a, Jvm.RoadKit.slotOf Z O n d⟩]) cells slots → T'.heap = h' → Wr h h' a (Jvm.RoadKit.slotOf Z O n d) v' → G (T'.setTop (mkF m pc' Ls rest))) : G (T.setTop (mkF m pc Ls (v :: .ref a :: rest))) := by
  subst hp
  obtain ⟨T', h', X', e', W, st⟩ := putFN X hx hZ hown w via eT F E L wi hty hn hf (g := mkF m pc Ls (v :: .ref a :: rest)) rfl rfl hd
  exact hG _ _ st (k T' h' X' e' W)
theorem g_newO (hG : Cl p e below G) (X : Stand p l e R s m args below meth c T locs cells slots) (hx : p.tables.exec = Jvm.exec) (hZ : Z.Warmed39 s.vm) {own C : String} {index n : Nat} (hown : s.vm.findClass own = some m.cls) (w : (Jvm.Cond.classLink own index C).before a0 Z = true) (wi : (Jvm.Cond.instantiable C n).before a0 Z = true) (wz : (Jvm.Cond.initialized C).before a0 Z = true) (eT : T.heap = h) (hd : decode c.code pc = .ok (.new index, 3)) (hc : cells + 1 ≤ R.cells) (hl : slots + n ≤ R.slots) (hp : pc' = pc + 3)
    (k : ∀ T' h' b, b = h.size → Stand p l e R s m args below meth c T' locs (cells + 1) (slots + n) → T'.heap = h' → Ext h h' → Exa Z h' b C → (∀ {O nm d : String} {ty : FieldType}, Laid Z a0 C O nm d → parseFieldDescriptor d = some ty → Fld Z h' b O nm d (defaultValue ty)) → G (T'.setTop (mkF m pc' Ls (.ref b :: rest)))) : G (T.setTop (mkF m pc Ls rest)) := by
  subst hp
  obtain ⟨T', h', X', e', E, A, D, -, st⟩ := newO X hx hZ hown w wi wz eT (g := mkF m pc Ls rest) rfl hd hc hl
  exact hG _ _ st (k T' h' _ rfl X' e' E A D)
theorem g_initO (hG : Cl p e below G) (X : Stand p l e R s m args below meth c T locs cells slots) (hx : p.tables.exec = Jvm.exec) (hZ : Z.Warmed39 s.vm) {own : String} {index : Nat} (hown : s.vm.findClass own = some m.cls) (w1 : (Jvm.Cond.methodLink own index Lib.objectInit).before a0 Z = true) (w2 : (Jvm.Cond.instanceMethod Lib.objectInit).before a0 Z = true) (w3 : (Jvm.Cond.code Lib.objectInit ⟨#[0xb1]⟩ 1 none).before a0 Z = true) (eT : T.heap = h) {a : Addr}
    (hsz : Ls.size = c.maxLocals) (hd : decode c.code pc = .ok (.invokespecial index, 3)) (hfr : 1 ≤ R.frames) (hlo : (rest.map fun v => v.category).sum + 12 ≤ R.locals) (hp : pc' = pc + 3)
    (k : ∀ T', Stand p l e R s m args below meth c T' locs cells slots → T'.heap = h → G (T'.setTop (mkF m pc' Ls rest))) : G (T.setTop (mkF m pc Ls (.ref a :: rest))) := by
  subst hp
  obtain ⟨T', X', e', st⟩ := initO X hx hZ hown w1 w2 w3 eT (g := mkF m pc Ls (.ref a :: rest)) rfl hsz rfl hd hfr (W := (rest.map fun v => v.category).sum) (by show 2 * 0 + _ ≤ _; omega) hlo
  exact hG _ _ st (k T' X' e')
/-! arrays -/
theorem g_newP (hG : Cl p e below G) (X : Stand p l e R s m args below meth c T locs cells slots) (hx : p.tables.exec = Jvm.exec) (hZ : Z.Warmed39 s.vm) {aty : ArrayType} (w : (Jvm.Cond.arrayClass (newarray.typeOf aty)).before a0 Z = true) (eT : T.heap = h) {n : Int32} (hd : decode c.code pc = .ok (.newarray aty, 2)) (hn : ¬ n < 0) (cap : Nat) (hcap : n.toNatClampNeg ≤ cap) (hb : cap * 8 ≤ 536870912) (hc : cells + 1 ≤ R.cells) (hl : slots + cap ≤ R.slots) (hp : pc' = pc + 2)
    (k : ∀ T' h' b kA, b = h.size → Stand p l e R s m args below meth c T' locs (cells + 1) (slots + cap) → T'.heap = h' → Ext h h' → Arv Z h' b kA (newarray.typeOf aty) n [] (defaultValue (newarray.typeOf aty)) → G (T'.setTop (mkF m pc' Ls (.ref b :: rest)))) : G (T.setTop (mkF m pc Ls (.int n :: rest))) := by
  subst hp
  obtain ⟨T', h', kA, X', e', E, A, st⟩ := newP X hx hZ w eT (g := mkF m pc Ls (.int n :: rest)) rfl hd rfl hn hcap hb hc hl
  exact hG _ _ st (k T' h' _ kA rfl X' e' E (Arv.new A hn))

/-! arrays, with all that they hold -/
def AV (Z : State) (h : Heap) (a : Addr) (ty : FieldType) (n : Int32) (vs : List Value) : Prop := ∃ k, Arv Z h a k ty n vs (defaultValue ty) ∧ vs.length = n.toNatClampNeg
theorem AV.lt {a : Addr} {ty : FieldType} {n : Int32} {vs : List Value} (A : AV Z h a ty n vs) : a < h.size := by obtain ⟨k, A, -⟩ := A; exact A.lt
theorem AV.ext {h' : Heap} {a : Addr} {ty : FieldType} {n : Int32} {vs : List Value} (A : AV Z h a ty n vs) (E : Ext h h') : AV Z h' a ty n vs := by obtain ⟨k, A, q⟩ := A; exact ⟨k, A.ext E, q⟩
theorem AV.other {h' : Heap} {a b : Addr} {sl : Nat} {v : Value} {ty : FieldType} {n : Int32} {vs : List Value} (A : AV Z h a ty n vs) (W : Wr h h' b sl v) (q : a ≠ b) : AV Z h' a ty n vs := by obtain ⟨k, A, r⟩ := A; exact ⟨k, A.other W q, r⟩
theorem AV.keep {h' : Heap} {a : Addr} {ws : List Addr} {ty : FieldType} {n : Int32} {vs : List Value} (A : AV Z h a ty n vs) (K : Keep h h' ws) (q : a ∉ ws) : AV Z h' a ty n vs := by obtain ⟨k, A, r⟩ := A; exact ⟨k, A.keep K q, r⟩
theorem AV.new {a : Addr} {k : ClassId} {ty : FieldType} {n : Int32} (A : Arv Z h a k ty n [] (defaultValue ty)) : AV Z h a ty n (List.replicate n.toNatClampNeg (defaultValue ty)) := ⟨k, A.pad (fun i => by have q := pad_rep [] (defaultValue ty) n.toNatClampNeg i; simpa using q), by simp⟩
theorem AV.at {a : Addr} {ty : FieldType} {n : Int32} {vs : List Value} (A : AV Z h a ty n vs) {j : Int32} {v : Value} (hj : ¬ j < 0) (hv : vs[j.toNatClampNeg]? = some v) :
    ∃ c, Arr Z h a c ty ∧ ¬ (j < 0 ∨ c.slots.size ≤ j.toNatClampNeg) ∧ c.slots[j.toNatClampNeg]? = some v := by
  obtain ⟨k, ⟨c, A, q1, S, q3, H, Gf⟩, q⟩ := A
  have hl : j.toNatClampNeg < vs.length := (List.getElem?_eq_some_iff.mp hv).1
  have hin : ¬ (j < 0 ∨ c.slots.size ≤ j.toNatClampNeg) := fun z => z.elim hj (fun y => by omega)
  refine ⟨c, A, hin, Has.at H hin ?_⟩
  simp [List.getD, hv]
theorem AV.set {h' : Heap} {a : Addr} {ty : FieldType} {n : Int32} {vs : List Value} (A : AV Z h a ty n vs) {j : Int32} {v : Value} (W : Wr h h' a j.toNatClampNeg v) (hv : fits ty v = true) (hl : j.toNatClampNeg < vs.length) : AV Z h' a ty n (vs.set j.toNatClampNeg v) := by
  obtain ⟨k, ⟨c, A, q1, S, q3, H, Gf⟩, q⟩ := A
  exact ⟨k, Arv.set A q1 S q3 H Gf hv W _ rfl hl, by simpa using q⟩
theorem AV.inb {a : Addr} {ty : FieldType} {n : Int32} {vs : List Value} (A : AV Z h a ty n vs) {j : Int32} (hj : ¬ j < 0) (hl : j.toNatClampNeg < vs.length) : ∃ c, Arr Z h a c ty ∧ ¬ (j < 0 ∨ c.slots.size ≤ j.toNatClampNeg) := by
  obtain ⟨k, ⟨c, A, q1, S, q3, H, Gf⟩, q⟩ := A
  exact ⟨c, A, fun z => z.elim hj (fun y => by omega)⟩
theorem g_iaload (hG : Cl p e below G) (X : Stand p l e R s m args below meth c T locs cells slots) (hx : p.tables.exec = Jvm.exec) (hZ : Z.Warmed39 s.vm) (eT : T.heap = h) {a : Addr} {n : Int32} {vs : List Value} (A : AV Z h a .int n vs) {j : Int32} {v : Value} (hj : ¬ j < 0) (hv : vs[j.toNatClampNeg]? = some v) (hd : decode c.code pc = .ok (.iaload, 1)) (hp : pc' = pc + 1) (k : G (T.setTop (mkF m pc' Ls (v :: rest)))) : G (T.setTop (mkF m pc Ls (.int j :: .ref a :: rest))) := by
  subst hp
  obtain ⟨cl, Ar, hin, hat⟩ := A.at hj hv
  refine hG _ _ (fun t ht => ?_) k
  exact X.iaload hx (by rw [eT]; exact Ar.1) (State.isArrayOf_alike hZ.alike Ar.2.1) Ar.2.2 hin hat (g := mkF m pc Ls (.int j :: .ref a :: rest)) rfl rfl hd t ht
theorem g_daload (hG : Cl p e below G) (X : Stand p l e R s m args below meth c T locs cells slots) (hx : p.tables.exec = Jvm.exec) (hZ : Z.Warmed39 s.vm) (eT : T.heap = h) {a : Addr} {n : Int32} {vs : List Value} (A : AV Z h a .double n vs) {j : Int32} {v : Value} (hj : ¬ j < 0) (hv : vs[j.toNatClampNeg]? = some v) (hd : decode c.code pc = .ok (.daload, 1)) (hp : pc' = pc + 1) (k : G (T.setTop (mkF m pc' Ls (v :: rest)))) : G (T.setTop (mkF m pc Ls (.int j :: .ref a :: rest))) := by
  subst hp
  obtain ⟨cl, Ar, hin, hat⟩ := A.at hj hv
  refine hG _ _ (fun t ht => ?_) k
  exact X.daload hx (by rw [eT]; exact Ar.1) (State.isArrayOf_alike hZ.alike Ar.2.1) Ar.2.2 hin hat (g := mkF m pc Ls (.int j :: .ref a :: rest)) rfl rfl hd t ht
theorem g_laload (hG : Cl p e below G) (X : Stand p l e R s m args below meth c T locs cells slots) (hx : p.tables.exec = Jvm.exec) (hZ : Z.Warmed39 s.vm) (eT : T.heap = h) {a : Addr} {n : Int32} {vs : List Value} (A : AV Z h a .long n vs) {j : Int32} {v : Value} (hj : ¬ j < 0) (hv : vs[j.toNatClampNeg]? = some v) (hd : decode c.code pc = .ok (.laload, 1)) (hp : pc' = pc + 1) (k : G (T.setTop (mkF m pc' Ls (v :: rest)))) : G (T.setTop (mkF m pc Ls (.int j :: .ref a :: rest))) := by
  subst hp
  obtain ⟨cl, Ar, hin, hat⟩ := A.at hj hv
  refine hG _ _ (fun t ht => ?_) k
  exact X.laload hx (by rw [eT]; exact Ar.1) (State.isArrayOf_alike hZ.alike Ar.2.1) Ar.2.2 hin hat (g := mkF m pc Ls (.int j :: .ref a :: rest)) rfl rfl hd t ht
theorem g_zaload (hG : Cl p e below G) (X : Stand p l e R s m args below meth c T locs cells slots) (hx : p.tables.exec = Jvm.exec) (hZ : Z.Warmed39 s.vm) (eT : T.heap = h) {a : Addr} {n : Int32} {vs : List Value} (A : AV Z h a .boolean n vs) {j : Int32} {v : Value} (hj : ¬ j < 0) (hv : vs[j.toNatClampNeg]? = some v) (hd : decode c.code pc = .ok (.baload, 1)) (hp : pc' = pc + 1) (k : G (T.setTop (mkF m pc' Ls (v :: rest)))) : G (T.setTop (mkF m pc Ls (.int j :: .ref a :: rest))) := by
  subst hp
  obtain ⟨cl, Ar, hin, hat⟩ := A.at hj hv
  refine hG _ _ (fun t ht => ?_) k
  exact X.baloadBooleans hx (by rw [eT]; exact Ar.1) (State.isArrayOf_alike hZ.alike Ar.2.1) Ar.2.2 hin hat (g := mkF m pc Ls (.int j :: .ref a :: rest)) rfl rfl hd t ht
theorem g_iastore (hG : Cl p e below G) (X : Stand p l e R s m args below meth c T locs cells slots) (hx : p.tables.exec = Jvm.exec) (hZ : Z.Warmed39 s.vm) (eT : T.heap = h) {a : Addr} {n : Int32} {vs : List Value} (A : AV Z h a .int n vs) {j : Int32} {x : Int32} (hj : ¬ j < 0) (hl : j.toNatClampNeg < vs.length) (hd : decode c.code pc = .ok (.iastore, 1)) (hp : pc' = pc + 1)
    (k : ∀ T' h', Stand p l e R s m args below meth c T' (locs ++ [⟨a, j.toNatClampNeg⟩]) cells slots → T'.heap = h' → Wr h h' a j.toNatClampNeg (.int x) → AV Z h' a .int n (vs.set j.toNatClampNeg (.int x)) → G (T'.setTop (mkF m pc' Ls rest))) : G (T.setTop (mkF m pc Ls (.int x :: .int j :: .ref a :: rest))) := by
  subst hp
  obtain ⟨cl, Ar, hin⟩ := A.inb hj hl
  obtain ⟨T', h', X', e', W, st⟩ := stI X hx hZ eT Ar hin (g := mkF m pc Ls (.int x :: .int j :: .ref a :: rest)) rfl rfl hd
  exact hG _ _ st (k T' h' X' e' W (A.set W rfl hl))
theorem g_dastore (hG : Cl p e below G) (X : Stand p l e R s m args below meth c T locs cells slots) (hx : p.tables.exec = Jvm.exec) (hZ : Z.Warmed39 s.vm) (eT : T.heap = h) {a : Addr} {n : Int32} {vs : List Value} (A : AV Z h a .double n vs) {j : Int32} {x : UInt64} (hj : ¬ j < 0) (hl : j.toNatClampNeg < vs.length) (hd : decode c.code pc = .ok (.dastore, 1)) (hp : pc' = pc + 1)
    (k : ∀ T' h', Stand p l e R s m args below meth c T' (locs ++ [⟨a, j.toNatClampNeg⟩]) cells slots → T'.heap = h' → Wr h h' a j.toNatClampNeg (.double x) → AV Z h' a .double n (vs.set j.toNatClampNeg (.double x)) → G (T'.setTop (mkF m pc' Ls rest))) : G (T.setTop (mkF m pc Ls (.double x :: .int j :: .ref a :: rest))) := by
  subst hp
  obtain ⟨cl, Ar, hin⟩ := A.inb hj hl
  obtain ⟨T', h', X', e', W, st⟩ := stD X hx hZ eT Ar hin (g := mkF m pc Ls (.double x :: .int j :: .ref a :: rest)) rfl rfl hd
  exact hG _ _ st (k T' h' X' e' W (A.set W rfl hl))
theorem g_lastore (hG : Cl p e below G) (X : Stand p l e R s m args below meth c T locs cells slots) (hx : p.tables.exec = Jvm.exec) (hZ : Z.Warmed39 s.vm) (eT : T.heap = h) {a : Addr} {n : Int32} {vs : List Value} (A : AV Z h a .long n vs) {j : Int32} {x : Int64} (hj : ¬ j < 0) (hl : j.toNatClampNeg < vs.length) (hd : decode c.code pc = .ok (.lastore, 1)) (hp : pc' = pc + 1)
    (k : ∀ T' h', Stand p l e R s m args below meth c T' (locs ++ [⟨a, j.toNatClampNeg⟩]) cells slots → T'.heap = h' → Wr h h' a j.toNatClampNeg (.long x) → AV Z h' a .long n (vs.set j.toNatClampNeg (.long x)) → G (T'.setTop (mkF m pc' Ls rest))) : G (T.setTop (mkF m pc Ls (.long x :: .int j :: .ref a :: rest))) := by
  subst hp
  obtain ⟨cl, Ar, hin⟩ := A.inb hj hl
  obtain ⟨T', h', X', e', W, st⟩ := stJ X hx hZ eT Ar hin (g := mkF m pc Ls (.long x :: .int j :: .ref a :: rest)) rfl rfl hd
  exact hG _ _ st (k T' h' X' e' W (A.set W rfl hl))
theorem g_zastore (hG : Cl p e below G) (X : Stand p l e R s m args below meth c T locs cells slots) (hx : p.tables.exec = Jvm.exec) (hZ : Z.Warmed39 s.vm) (eT : T.heap = h) {a : Addr} {n : Int32} {vs : List Value} (A : AV Z h a .boolean n vs) {j : Int32} {x : Int32} (hj : ¬ j < 0) (hl : j.toNatClampNeg < vs.length) (hd : decode c.code pc = .ok (.bastore, 1)) (hp : pc' = pc + 1)
    (k : ∀ T' h', Stand p l e R s m args below meth c T' (locs ++ [⟨a, j.toNatClampNeg⟩]) cells slots → T'.heap = h' → Wr h h' a j.toNatClampNeg (.int (nar .boolean x)) → AV Z h' a .boolean n (vs.set j.toNatClampNeg (.int (nar .boolean x))) → G (T'.setTop (mkF m pc' Ls rest))) : G (T.setTop (mkF m pc Ls (.int x :: .int j :: .ref a :: rest))) := by
  subst hp
  obtain ⟨cl, Ar, hin⟩ := A.inb hj hl
  obtain ⟨T', h', X', e', W, st⟩ := stZ X hx hZ eT Ar hin (g := mkF m pc Ls (.int x :: .int j :: .ref a :: rest)) rfl rfl hd
  exact hG _ _ st (k T' h' X' e' W (A.set W (fits_nar_bool _) hl))
theorem g_bbastore (hG : Cl p e below G) (X : Stand p l e R s m args below meth c T locs cells slots) (hx : p.tables.exec = Jvm.exec) (hZ : Z.Warmed39 s.vm) (eT : T.heap = h) {a : Addr} {n : Int32} {vs : List Value} (A : AV Z h a .byte n vs) {j : Int32} {x : Int32} (hj : ¬ j < 0) (hl : j.toNatClampNeg < vs.length) (hd : decode c.code pc = .ok (.bastore, 1)) (hp : pc' = pc + 1)
    (k : ∀ T' h', Stand p l e R s m args below meth c T' (locs ++ [⟨a, j.toNatClampNeg⟩]) cells slots → T'.heap = h' → Wr h h' a j.toNatClampNeg (.int x.toInt8.toInt32) → AV Z h' a .byte n (vs.set j.toNatClampNeg (.int x.toInt8.toInt32)) → G (T'.setTop (mkF m pc' Ls rest))) : G (T.setTop (mkF m pc Ls (.int x :: .int j :: .ref a :: rest))) := by
  subst hp
  obtain ⟨cl, Ar, hin⟩ := A.inb hj hl
  obtain ⟨T', h', X', e', W, st⟩ := stB X hx hZ eT Ar hin (g := mkF m pc Ls (.int x :: .int j :: .ref a :: rest)) rfl rfl hd
  exact hG _ _ st (k T' h' X' e' W (A.set W (fits_nar_byte _) hl))
theorem g_arraylength (hG : Cl p e below G) (X : Stand p l e R s m args below meth c T locs cells slots) (hx : p.tables.exec = Jvm.exec) (hZ : Z.Warmed39 s.vm) (eT : T.heap = h) {a : Addr} {ty : FieldType} {n : Int32} {vs : List Value} (A : AV Z h a ty n vs) (hd : decode c.code pc = .ok (.arraylength, 1)) (hp : pc' = pc + 1) (k : G (T.setTop (mkF m pc' Ls (.int n :: rest)))) : G (T.setTop (mkF m pc Ls (.ref a :: rest))) := by
  subst hp
  obtain ⟨kA, ⟨cl, Ar, q1, S, q3, H, Gf⟩, q⟩ := A
  rw [← len_of S q3] at k
  refine hG _ _ (fun t ht => ?_) k
  exact X.arraylength hx (by rw [eT]; exact Ar.1) (State.isArrayOf_alike hZ.alike Ar.2.1) (g := mkF m pc Ls (.ref a :: rest)) rfl rfl hd t ht
/-! calls by a contract -/
theorem g_callS (hG : Cl p e below G) (X : Stand p l e R s m args below meth c T locs cells slots) (hx : p.tables.exec = Jvm.exec) (hZ : Z.Warmed39 s.vm) {own : String} {index : Nat} {y : MethodName} {bytes : ByteArray} {maxL : Nat} {ret : Option FieldType} {rm : Room} {as : Array Value} {Qc : Option Value → Heap → List Loc → Prop} {argsL stack : List Value} {ps : List FieldType} {rt : Option FieldType} (W : Nat)
    (hown : s.vm.findClass own = some m.cls) (w1 : (Jvm.Cond.methodLink own index y).before a0 Z = true) (w2 : (Jvm.Cond.static y).before a0 Z = true) (w3 : (Jvm.Cond.initialized y.cls).before a0 Z = true) (w4 : (Jvm.Cond.code y bytes maxL ret).before a0 Z = true) (hy : y.cls ≠ "java/lang/invoke/MethodHandle" ∧ y.cls ≠ "java/lang/invoke/VarHandle")
    (hM : Con l y bytes maxL ret [] rm Z as h rm.cells rm.slots Qc) (hfr : rm.frames + 1 ≤ R.frames) (hlo : W + (maxL + 11) + rm.locals ≤ R.locals) (hsz : Ls.size = c.maxLocals) (hpd : parseMethodDescriptor y.desc = some ⟨ps, rt⟩) (hln : argsL.length = ps.length) (hst : stack = argsL.reverse ++ rest) (has : argsL.toArray = as) (hW : (rest.map fun v => v.category).sum ≤ W)
    (hd : decode c.code pc = .ok (.invokestatic index, 3)) (eT : T.heap = h) (hc : cells + rm.cells ≤ R.cells) (hs : slots + rm.slots ≤ R.slots) (hp : pc' = pc + 3)
    (k : ∀ T' v L', Stand p l e R s m args below meth c T' (locs ++ L') (cells + rm.cells) (slots + rm.slots) → Qc v T'.heap L' → G (T'.setTop (mkF m pc' Ls (v.toList ++ rest)))) : G (T.setTop (mkF m pc Ls stack)) := by
  subst hp hst has
  obtain ⟨v, _, ⟨T1, L1, k1, n1⟩, -, X1, ⟨Lc, hQ, l1, y1, z1⟩, st⟩ := Jvm.LawKit.callS X hx (y := y) hown (mvT hZ w1) (mvT hZ w2) (mvT hZ w3) (mvT hZ w4) hy (backOf (W := W) hM hZ w4 w3 hfr hlo) (g := mkF m pc Ls (argsL.reverse ++ rest)) rfl hsz (argsL := argsL) (rest := rest) (lenOf hpd hln) rfl (by show 2 * 0 + _ ≤ _; omega) hd (fun _ _ => ⟨rfl, eT, hc, hs⟩)
  dsimp only [Pt.U, Pt.locs, Pt.cells, Pt.slots] at X1 l1 y1 z1 st hQ
  subst l1 y1 z1
  exact hG _ _ st (k T1 v Lc X1 hQ)
theorem g_callI (hG : Cl p e below G) (X : Stand p l e R s m args below meth c T locs cells slots) (hx : p.tables.exec = Jvm.exec) (hZ : Z.Warmed39 s.vm) {own : String} {index : Nat} {y : MethodName} {bytes : ByteArray} {maxL : Nat} {rm : Room} {as : Array Value} {Qc : Option Value → Heap → List Loc → Prop} {a : Addr} {argsL stack : List Value} {ps : List FieldType} {rt : Option FieldType} (W : Nat)
    (hy1 : y.name = "<init>") (hown : s.vm.findClass own = some m.cls) (w1 : (Jvm.Cond.methodLink own index y).before a0 Z = true) (w2 : (Jvm.Cond.instanceMethod y).before a0 Z = true) (w3 : (Jvm.Cond.initialized y.cls).before a0 Z = true) (w4 : (Jvm.Cond.code y bytes maxL none).before a0 Z = true) (hy : y.cls ≠ "java/lang/invoke/MethodHandle" ∧ y.cls ≠ "java/lang/invoke/VarHandle")
    (hM : Con l y bytes maxL none [] rm Z as h rm.cells rm.slots Qc) (hfr : rm.frames + 1 ≤ R.frames) (hlo : W + (maxL + 11) + rm.locals ≤ R.locals) (hsz : Ls.size = c.maxLocals) (hpd : parseMethodDescriptor y.desc = some ⟨ps, rt⟩) (hln : argsL.length = ps.length) (hst : stack = argsL.reverse ++ .ref a :: rest) (has : (.ref a :: argsL).toArray = as) (hW : (rest.map fun v => v.category).sum ≤ W)
    (hd : decode c.code pc = .ok (.invokespecial index, 3)) (eT : T.heap = h) (hc : cells + rm.cells ≤ R.cells) (hs : slots + rm.slots ≤ R.slots) (hp : pc' = pc + 3)
    (k : ∀ T' v L', Stand p l e R s m args below meth c T' (locs ++ L') (cells + rm.cells) (slots + rm.slots) → Qc v T'.heap L' → G (T'.setTop (mkF m pc' Ls (v.toList ++ rest)))) : G (T.setTop (mkF m pc Ls stack)) := by
  subst hp hst has
  obtain ⟨v, _, ⟨T1, L1, k1, n1⟩, -, X1, ⟨Lc, hQ, l1, y1, z1⟩, st⟩ := X.specialBack hx (y := y) hy1 hown (mvT hZ w1) (mvT hZ w2) (mvT hZ w4) hy (backOf (W := W) hM hZ w4 w3 hfr hlo) (g := mkF m pc Ls (argsL.reverse ++ .ref a :: rest)) rfl hsz (Steps.refl _) (a := a) (argsL := argsL) (rest := rest) (lenOf hpd hln) rfl (by show 2 * 0 + _ ≤ _; omega) hd (fun _ _ => ⟨rfl, eT, hc, hs⟩)
  dsimp only [Pt.U, Pt.locs, Pt.cells, Pt.slots] at X1 l1 y1 z1 st hQ
  subst l1 y1 z1
  exact hG _ _ (fun t ht => st.trans ht) (k T1 v Lc X1 hQ)
theorem g_callV (hG : Cl p e below G) (X : Stand p l e R s m args below meth c T locs cells slots) (hx : p.tables.exec = Jvm.exec) (hZ : Z.Warmed39 s.vm) {own C : String} {index : Nat} {y : MethodName} {bytes : ByteArray} {maxL : Nat} {ret : Option FieldType} {rm : Room} {as : Array Value} {Qc : Option Value → Heap → List Loc → Prop} {a : Addr} {argsL stack : List Value} {ps : List FieldType} {rt : Option FieldType} (W : Nat)
    (hown : s.vm.findClass own = some m.cls) (w1 : (Jvm.Cond.methodLink own index y).before a0 Z = true) (w2 : (Jvm.Cond.declares y).before a0 Z = true) (ws : (Jvm.Cond.selects C y y).before a0 Z = true) (wi : (Jvm.Cond.instanceMethod y).before a0 Z = true) (w3 : (Jvm.Cond.initialized y.cls).before a0 Z = true) (w4 : (Jvm.Cond.code y bytes maxL ret).before a0 Z = true) (hy : y.cls ≠ "java/lang/invoke/MethodHandle" ∧ y.cls ≠ "java/lang/invoke/VarHandle")
    (hM : Con l y bytes maxL ret [] rm Z as h rm.cells rm.slots Qc) (hfr : rm.frames + 1 ≤ R.frames) (hlo : W + (maxL + 11) + rm.locals ≤ R.locals) (hsz : Ls.size = c.maxLocals) (hpd : parseMethodDescriptor y.desc = some ⟨ps, rt⟩) (hln : argsL.length = ps.length) (hst : stack = argsL.reverse ++ .ref a :: rest) (has : (.ref a :: argsL).toArray = as) (hW : (rest.map fun v => v.category).sum ≤ W)
    (hd : decode c.code pc = .ok (.invokevirtual index, 3)) (eT : T.heap = h) (E : Exa Z h a C) (hc : cells + rm.cells ≤ R.cells) (hs : slots + rm.slots ≤ R.slots) (hp : pc' = pc + 3)
    (k : ∀ T' v L', Stand p l e R s m args below meth c T' (locs ++ L') (cells + rm.cells) (slots + rm.slots) → Qc v T'.heap L' → G (T'.setTop (mkF m pc' Ls (v.toList ++ rest)))) : G (T.setTop (mkF m pc Ls stack)) := by
  subst hp hst has
  obtain ⟨cq, kq, qa, qb, qc⟩ := isOf hZ eT E
  obtain ⟨v, _, ⟨T1, L1, k1, n1⟩, -, X1, ⟨Lc, hQ, l1, y1, z1⟩, st⟩ := X.virtualBack hx (y := y) (z := y) hown (mvT hZ w1) (mvT hZ w2) (notFace_of_selects (args := #[]) (mvT hZ ws)) (mvT hZ ws) (mvT hZ wi) hy (backOf (W := W) hM hZ w4 w3 hfr hlo) qa qc (g := mkF m pc Ls (argsL.reverse ++ .ref a :: rest)) rfl hsz (Steps.refl _) (argsL := argsL) (rest := rest) (lenOf hpd hln) rfl (by show 2 * 0 + _ ≤ _; omega) hd (fun _ _ => ⟨rfl, eT, hc, hs⟩)
  dsimp only [Pt.U, Pt.locs, Pt.cells, Pt.slots] at X1 l1 y1 z1 st hQ
  subst l1 y1 z1
  exact hG _ _ (fun t ht => st.trans ht) (k T1 v Lc X1 hQ)
theorem g_callP (hG : Cl p e below G) (X : Stand p l e R s m args below meth c T locs cells slots) (hx : p.tables.exec = Jvm.exec) (hZ : Z.Warmed39 s.vm) {own C : String} {index : Nat} {y : MethodName} {bytes : ByteArray} {maxL : Nat} {ret : Option FieldType} {rm : Room} {as : Array Value} {Qc : Option Value → Heap → List Loc → Prop} {a : Addr} {argsL stack : List Value} {ps : List FieldType} {rt : Option FieldType} (W : Nat)
    (hown : s.vm.findClass own = some m.cls) (w1 : (Jvm.Cond.methodLink own index y).before a0 Z = true) (wi : (Jvm.Cond.instanceMethod y).before a0 Z = true) {kk : Nat} (wk : (Jvm.Cond.instantiable y.cls kk).before a0 Z = true) (wp : (Jvm.Cond.privateMethod y).before a0 Z = true) (w3 : (Jvm.Cond.initialized y.cls).before a0 Z = true) (w4 : (Jvm.Cond.code y bytes maxL ret).before a0 Z = true) (hy : y.cls ≠ "java/lang/invoke/MethodHandle" ∧ y.cls ≠ "java/lang/invoke/VarHandle")
    (hM : Con l y bytes maxL ret [] rm Z as h rm.cells rm.slots Qc) (hfr : rm.frames + 1 ≤ R.frames) (hlo : W + (maxL + 11) + rm.locals ≤ R.locals) (hsz : Ls.size = c.maxLocals) (hpd : parseMethodDescriptor y.desc = some ⟨ps, rt⟩) (hln : argsL.length = ps.length) (hst : stack = argsL.reverse ++ .ref a :: rest) (has : (.ref a :: argsL).toArray = as) (hW : (rest.map fun v => v.category).sum ≤ W)
    (hd : decode c.code pc = .ok (.invokevirtual index, 3)) (eT : T.heap = h) (E : Exa Z h a C) (hc : cells + rm.cells ≤ R.cells) (hs : slots + rm.slots ≤ R.slots) (hp : pc' = pc + 3)
    (k : ∀ T' v L', Stand p l e R s m args below meth c T' (locs ++ L') (cells + rm.cells) (slots + rm.slots) → Qc v T'.heap L' → G (T'.setTop (mkF m pc' Ls (v.toList ++ rest)))) : G (T.setTop (mkF m pc Ls stack)) := by
  subst hp hst has
  obtain ⟨cq, q1, q2⟩ := E.cell
  have hpv : s.PrivateAt y := Jvm.Cond.privateMethod_at (mvP hZ wp (args := #[]))
  obtain ⟨ck, kk', j1, j2, -, j4, -⟩ := Jvm.Cond.instantiable_spec (mvT (args := args) hZ wk)
  have ws : (Jvm.Cond.selects y.cls y y).before args s = true := selects_self_of_private j1 j2 (by simp at j4; exact j4.1) hpv (mvT hZ wi) hy
  obtain ⟨v, _, ⟨T1, L1, k1, n1⟩, -, X1, ⟨Lc, hQ, l1, y1, z1⟩, st⟩ := X.privateBack hx (y := y) hown (mvT hZ w1) (mvT hZ wi) ws hpv (mvT hZ w4) hy (backOf (W := W) hM hZ w4 w3 hfr hlo) (g := mkF m pc Ls (argsL.reverse ++ .ref a :: rest)) rfl hsz (Steps.refl _) (a := a) (by rw [eT]; exact q1) q2 (argsL := argsL) (rest := rest) (lenOf hpd hln) rfl (by show 2 * 0 + _ ≤ _; omega) hd (fun _ _ => ⟨rfl, eT, hc, hs⟩)
  dsimp only [Pt.U, Pt.locs, Pt.cells, Pt.slots] at X1 l1 y1 z1 st hQ
  subst l1 y1 z1
  exact hG _ _ (fun t ht => st.trans ht) (k T1 v Lc X1 hQ)
theorem g_natS (hG : Cl p e below G) (X : Stand p l e R s m args below meth c T locs cells slots) (hx : p.tables.exec = Jvm.exec) (hZ : Z.Warmed39 s.vm) {own : String} {index : Nat} {y : MethodName} {by0 : ByteArray} {ml : Nat} {rt : Option FieldType} {F : Array Value → Prop} {val : Value} {argsL stack : List Value} {ps : List FieldType} {rt' : Option FieldType} (W : Nat)
    (hown : s.vm.findClass own = some m.cls) (w1 : (Jvm.Cond.methodLink own index y).before a0 Z = true) (w2 : (Jvm.Cond.static y).before a0 Z = true) (w3 : (Jvm.Cond.initialized y.cls).before a0 Z = true) (w4 : (Jvm.Cond.code y by0 ml rt).before a0 Z = true) (hy : y.cls ≠ "java/lang/invoke/MethodHandle" ∧ y.cls ≠ "java/lang/invoke/VarHandle")
    (hK : (Jvm.Cond.code y by0 ml rt).before args s = true → Back l R p e below s args y 3 W (fun A a' => A.cells ≤ R.cells ∧ A.slots ≤ R.slots ∧ F a') (fun A _ v B => v = some val ∧ B = A)) (hsz : Ls.size = c.maxLocals) (hpd : parseMethodDescriptor y.desc = some ⟨ps, rt'⟩) (hln : argsL.length = ps.length) (hst : stack = argsL.reverse ++ rest) (hW : (rest.map fun v => v.category).sum ≤ W)
    (hd : decode c.code pc = .ok (.invokestatic index, 3)) (eT : T.heap = h) (hc : cells ≤ R.cells) (hs : slots ≤ R.slots) (hF : F argsL.toArray) (hp : pc' = pc + 3)
    (k : ∀ T', Stand p l e R s m args below meth c T' locs cells slots → T'.heap = h → G (T'.setTop (mkF m pc' Ls (val :: rest)))) : G (T.setTop (mkF m pc Ls stack)) := by
  subst hp hst
  obtain ⟨T', X', e', st⟩ := natS X hx hZ hown w1 w2 w3 w4 hy eT hK (g := mkF m pc Ls (argsL.reverse ++ rest)) rfl hsz (argsL := argsL) (rest := rest) (lenOf hpd hln) rfl (by show 2 * 0 + _ ≤ _; omega) hd hc hs hF rfl
  exact hG _ _ st (k T' X' e')
theorem g_getS (hG : Cl p e below G) (X : Stand p l e R s m args below meth c T locs cells slots) (hx : p.tables.exec = Jvm.exec) (hZ : Z.Warmed39 s.vm) {own R0 O n d : String} {index : Nat} (hown : s.vm.findClass own = some m.cls) (w : (Jvm.Cond.fieldLink own index R0 n d).before a0 Z = true) (via : Via Z R0 O n d) (eT : T.heap = h) {v : Value} (F : Sta Z h O n d v) (hd : decode c.code pc = .ok (.getstatic index, 3)) (hp : pc' = pc + 3)
    (k : ∀ T', Stand p l e R s m args below meth c T' locs cells slots → T'.heap = h → G (T'.setTop (mkF m pc' Ls (v :: rest)))) : G (T.setTop (mkF m pc Ls rest)) := by
  subst hp
  obtain ⟨T', X', e', st⟩ := getS2 (host := "") X hx hZ hown (Or.inl w) via eT F (g := mkF m pc Ls rest) rfl hd
  exact hG _ _ st (k T' X' e')
theorem g_castY (hG : Cl p e below G) (X : Stand p l e R s m args below meth c T locs cells slots) (hx : p.tables.exec = Jvm.exec) (hZ : Z.Warmed39 s.vm) {own K0 : String} {index : Nat} (hown : s.vm.findClass own = some m.cls) (w : (Jvm.Cond.classLink own index K0).before a0 Z = true) (eT : T.heap = h) {a : Addr} (F : Ins Z h a K0 true) (hd : decode c.code pc = .ok (.checkcast index, 3)) (hp : pc' = pc + 3)
    (k : ∀ T', Stand p l e R s m args below meth c T' locs cells slots → T'.heap = h → G (T'.setTop (mkF m pc' Ls (.ref a :: rest)))) : G (T.setTop (mkF m pc Ls (.ref a :: rest))) := by
  subst hp
  obtain ⟨T', X', e', st⟩ := castY X hx hZ hown w eT F (g := mkF m pc Ls (.ref a :: rest)) rfl rfl hd
  exact hG _ _ st (k T' X' e')
theorem g_newPE (hG : Cl p e below G) (X : Stand p l e R s m args below meth c T locs cells slots) (hx : p.tables.exec = Jvm.exec) (hZ : Z.Warmed39 s.vm) {aty : ArrayType} (w : (Jvm.Cond.arrayClass (newarray.typeOf aty)).before a0 Z = true) (eT : T.heap = h) {n : Int32} (hd : decode c.code pc = .ok (.newarray aty, 2)) (hn : ¬ n < 0) (cap : Nat) (hcap : n.toNatClampNeg ≤ cap) (hb : cap * 8 ≤ 536870912) (hc : cells + 1 ≤ R.cells) (hl : slots + cap ≤ R.slots) {ad : String} (had : "[" ++ (newarray.typeOf aty).toString = ad) (hp : pc' = pc + 2)
    (k : ∀ T' h' b, b = h.size → Stand p l e R s m args below meth c T' locs (cells + 1) (slots + cap) → T'.heap = h' → Ext h h' → AV Z h' b (newarray.typeOf aty) n (List.replicate n.toNatClampNeg (defaultValue (newarray.typeOf aty))) → Exa Z h' b ad → G (T'.setTop (mkF m pc' Ls (.ref b :: rest)))) : G (T.setTop (mkF m pc Ls (.int n :: rest))) := by
  subst hp
  obtain ⟨T', h', kA, X', e', E, A, Ex, st⟩ := newPE X hx hZ w eT (g := mkF m pc Ls (.int n :: rest)) rfl hd rfl hn hcap hb hc hl had
  exact hG _ _ st (k T' h' _ rfl X' e' E (AV.new (Arv.new A hn)) Ex)
theorem g_clone (hG : Cl p e below G) (X : Stand p l e R s m args below meth c T locs cells slots) (hx : p.tables.exec = Jvm.exec) (hZ : Z.Warmed39 s.vm) {own ad : String} {index : Nat} (hown : s.vm.findClass own = some m.cls)
    (w1 : (Jvm.Cond.methodLink own index ⟨ad, "clone", "()Ljava/lang/Object;"⟩).before a0 Z = true) (w2 : (Jvm.Cond.sameMethod ad "java/lang/Object" "clone" "()Ljava/lang/Object;").before a0 Z = true) (w3 : (Jvm.Cond.native ⟨"java/lang/Object", "clone", "()Ljava/lang/Object;"⟩).before a0 Z = true)
    (w4 : (Jvm.Cond.instanceMethod ⟨"java/lang/Object", "clone", "()Ljava/lang/Object;"⟩).before a0 Z = true) (w5 : (Jvm.Cond.selects ad ⟨ad, "clone", "()Ljava/lang/Object;"⟩ ⟨"java/lang/Object", "clone", "()Ljava/lang/Object;"⟩).before a0 Z = true) (w6 : (Jvm.Cond.castable ad "java/lang/Cloneable").before a0 Z = true)
    (eT : T.heap = h) {a : Addr} {ty : FieldType} {n : Int32} {vs : List Value} (A : AV Z h a ty n vs) (E : Exa Z h a ad) (hsz : Ls.size = c.maxLocals) (hd : decode c.code pc = .ok (.invokevirtual index, 3)) (hfr : 1 ≤ R.frames) (W cap : Nat) (hW : (rest.map fun v => v.category).sum ≤ W) (hlo : W + 14 ≤ R.locals) (hcap : n.toNatClampNeg ≤ cap) (hc : cells + 1 ≤ R.cells) (hsl : slots + cap ≤ R.slots) (hp : pc' = pc + 3)
    (k : ∀ T' h' b, b = h.size → Stand p l e R s m args below meth c T' locs (cells + 1) (slots + cap) → T'.heap = h' → Ext h h' → AV Z h' b ty n vs → Exa Z h' b ad → G (T'.setTop (mkF m pc' Ls (.ref b :: rest)))) : G (T.setTop (mkF m pc Ls (.ref a :: rest))) := by
  subst hp
  obtain ⟨kA, A, q⟩ := A
  obtain ⟨T', h', X', e', E', A', Ex, st⟩ := cloneH X hx hZ hown w1 w2 w3 w4 w5 w6 eT A.arh E (g := mkF m pc Ls (.ref a :: rest)) rfl hsz rfl hd hfr (W := W) (by show 2 * 0 + _ ≤ _; omega) hlo hcap hc hsl
  exact hG _ _ st (k T' h' _ rfl X' e' E' ⟨kA, A', q⟩ Ex)
theorem g_callVU (hG : Cl p e below G) (X : Stand p l e R s m args below meth c T locs cells slots) (hx : p.tables.exec = Jvm.exec) (hZ : Z.Warmed39 s.vm) {own C owner : String} {index : Nat} {x y : MethodName} {bytes : ByteArray} {maxL : Nat} {ret : Option FieldType} {rm : Room} {as : Array Value} {Qc : Option Value → Heap → List Loc → Prop} {a : Addr} {argsL stack : List Value} {ps : List FieldType} {rt : Option FieldType} (W : Nat)
    (hown : s.vm.findClass own = some m.cls) (w1 : (Jvm.Cond.methodLink own index x).before a0 Z = true) (wm : (Jvm.Cond.sameMethod x.cls owner x.name x.desc).before a0 Z = true) (w2 : (Jvm.Cond.declares ⟨owner, x.name, x.desc⟩).before a0 Z = true) (ho : owner ≠ "java/lang/invoke/MethodHandle" ∧ owner ≠ "java/lang/invoke/VarHandle") (ws : (Jvm.Cond.selects C x y).before a0 Z = true) (wi : (Jvm.Cond.instanceMethod y).before a0 Z = true) (w3 : (Jvm.Cond.initialized y.cls).before a0 Z = true) (w4 : (Jvm.Cond.code y bytes maxL ret).before a0 Z = true)
    (hM : Con l y bytes maxL ret [] rm Z as h rm.cells rm.slots Qc) (hfr : rm.frames + 1 ≤ R.frames) (hlo : W + (maxL + 11) + rm.locals ≤ R.locals) (hsz : Ls.size = c.maxLocals) (hpd : parseMethodDescriptor x.desc = some ⟨ps, rt⟩) (hln : argsL.length = ps.length) (hst : stack = argsL.reverse ++ .ref a :: rest) (has : (.ref a :: argsL).toArray = as) (hW : (rest.map fun v => v.category).sum ≤ W)
    (hd : decode c.code pc = .ok (.invokevirtual index, 3)) (eT : T.heap = h) (E : Exa Z h a C) (hc : cells + rm.cells ≤ R.cells) (hs : slots + rm.slots ≤ R.slots) (hp : pc' = pc + 3)
    (k : ∀ T' v L', Stand p l e R s m args below meth c T' (locs ++ L') (cells + rm.cells) (slots + rm.slots) → Qc v T'.heap L' → G (T'.setTop (mkF m pc' Ls (v.toList ++ rest)))) : G (T.setTop (mkF m pc Ls stack)) := by
  subst hp hst has
  obtain ⟨cq, kq, qa, qb, qc⟩ := isOf hZ eT E
  obtain ⟨v, _, ⟨T1, L1, k1, n1⟩, -, X1, ⟨Lc, hQ, l1, y1, z1⟩, st⟩ := X.virtualBackUp hx (x := x) (y := y) hown (mvT hZ w1) (mvT hZ wm) (mvT hZ w2) ho (mvT hZ ws) (mvT hZ wi) (backOf (W := W) hM hZ w4 w3 hfr hlo) qa qc (g := mkF m pc Ls (argsL.reverse ++ .ref a :: rest)) rfl hsz (Steps.refl _) (argsL := argsL) (rest := rest) (lenOf hpd hln) rfl (by show 2 * 0 + _ ≤ _; omega) hd (fun _ _ => ⟨rfl, eT, hc, hs⟩)
  dsimp only [Pt.U, Pt.locs, Pt.cells, Pt.slots] at X1 l1 y1 z1 st hQ
  subst l1 y1 z1
  exact hG _ _ (fun t ht => st.trans ht) (k T1 v Lc X1 hQ)
theorem g_lookup (hG : Cl p e below G) (X : Stand p l e R s m args below meth c T locs cells slots) (hx : p.tables.exec = Jvm.exec) {kk : Int32} {dflt : Int} {pairs : Array (Int × Int)} {len : Nat} (hd : decode c.code pc = .ok (.lookupswitch dflt pairs, len)) (hs : (pairs.toList.zip (pairs.toList.drop 1)).all (fun (a, next) => a.1 < next.1) = true) {a off : Int} (hf : pairs.find? (·.1 == kk.toInt) = some (a, off)) (ho : 0 ≤ (pc : Int) + off) (hp : ((pc : Int) + off).toNat = pc') (k : G (T.setTop (mkF m pc' Ls rest))) : G (T.setTop (mkF m pc Ls (.int kk :: rest))) := by
  subst hp
  refine hG _ _ (fun t ht => ?_) k
  exact X.lookupswitchHit hx (g := mkF m pc Ls (.int kk :: rest)) rfl rfl hd hs hf ho t ht
theorem g_copy (hG : Cl p e below G) (X : Stand p l e R s m args below meth c T locs cells slots) (hx : p.tables.exec = Jvm.exec) (hZ : Z.Warmed39 s.vm) {own : String} {index : Nat} (hown : s.vm.findClass own = some m.cls)
    (w1 : (Jvm.Cond.methodLink own index Jvm.Stand.acN).before a0 Z = true) (w2 : (Jvm.Cond.native Jvm.Stand.acN).before a0 Z = true) (w3 : (Jvm.Cond.static Jvm.Stand.acN).before a0 Z = true) (w4 : (Jvm.Cond.initialized "java/lang/System").before a0 Z = true) (eT : T.heap = h)
    {a b : Addr} {ty : FieldType} {n z sp dp nn : Int32} {vs vd vr : List Value} (A : AV Z h a ty n vs) (B : AV Z h b ty z vd) (hr : refKind ty = false) (h1 : ¬ sp < 0) (h2 : ¬ dp < 0) (h3 : ¬ nn < 0) (h4 : sp.toNatClampNeg + nn.toNatClampNeg ≤ n.toNatClampNeg) (h5 : dp.toNatClampNeg + nn.toNatClampNeg ≤ z.toNatClampNeg)
    (hvr : vd.take dp.toNatClampNeg ++ ((List.range nn.toNatClampNeg).map fun i => vs.getD (sp.toNatClampNeg + i) (defaultValue ty)) ++ vd.drop (dp.toNatClampNeg + nn.toNatClampNeg) = vr) {n0 : Nat} (N0 : Fr n0 locs) (ge : n0 ≤ b) (hsz : Ls.size = c.maxLocals) (hd : decode c.code pc = .ok (.invokestatic index, 3)) (hfr : 1 ≤ R.frames) (W : Nat) (hW : (rest.map fun v => v.category).sum ≤ W) (hlo : W + (nativeFrameWords "java/lang/System" "arraycopy" 5 + 11) ≤ R.locals) (hp : pc' = pc + 3)
    (k : ∀ T' h' L, Stand p l e R s m args below meth c T' L cells slots → T'.heap = h' → Fr n0 L → Keep h h' [b] → AV Z h' b ty z vr → G (T'.setTop (mkF m pc' Ls rest))) : G (T.setTop (mkF m pc Ls (.int nn :: .int dp :: .ref b :: .int sp :: .ref a :: rest))) := by
  subst hp hvr
  obtain ⟨kA, A, qa⟩ := A
  obtain ⟨kB, B, qb⟩ := B
  obtain ⟨T', h', L', X', e', N', K', V', st⟩ := cpA X hx hZ hown w1 w2 w3 w4 eT A B (Or.inl ⟨rfl, hr⟩) h1 h2 h3 h4 h5 rfl (by omega) N0 ge (g := mkF m pc Ls (.int nn :: .int dp :: .ref b :: .int sp :: .ref a :: rest)) rfl hsz rfl hd hfr (W := W) (by show 2 * 0 + _ ≤ _; omega) hlo
  exact hG _ _ st (k T' h' L' X' e' N' K' ⟨kB, V', by simp only [List.length_append, List.length_take, List.length_map, List.length_range, List.length_drop]; omega⟩)
theorem Sta.keep0 {h' : Heap} {C n d : String} {v : Value} (F : Sta Z h C n d v) (K : Keep h h' []) : Sta Z h' C n d v := by
  obtain ⟨cf, i, k, f, st, cell, h1, h2, h3, h4, h5, r⟩ := F
  exact ⟨cf, i, k, f, st, cell, h1, h2, h3, h4, K.2.1 _ _ h5 (fun q => nomatch q), r⟩
end New
end Jvm.OwnKit
namespace Jvm.OwnFl
open Jvm.FP.Core
theorem two_ne : (2 : Rat) ≠ 0 := by decide
theorem p2pos (q : Int) : (0 : Rat) < (2 : Rat) ^ q := Rat.zpow_pos (by decide)
theorem p2add (a b : Int) : (2 : Rat) ^ (a + b) = (2 : Rat) ^ a * (2 : Rat) ^ b := Rat.zpow_add two_ne a b
theorem p2nat (n : Nat) : (2 : Rat) ^ (n : Int) = ((2 ^ n : Nat) : Rat) := by rw [Rat.zpow_natCast, Rat.natCast_pow]; rfl
theorem p2le {a b : Int} (h : a ≤ b) : (2 : Rat) ^ a ≤ (2 : Rat) ^ b := by
  obtain ⟨n, hn⟩ : ∃ n : Nat, b = a + n := ⟨(b - a).toNat, by omega⟩
  subst hn
  rw [p2add, p2nat]
  have h1 : (1 : Rat) ≤ ((2 ^ n : Nat) : Rat) := by
    have q : ((1 : Nat) : Rat) ≤ ((2 ^ n : Nat) : Rat) := Rat.natCast_le_natCast.mpr (Nat.two_pow_pos n)
    exact q
  have q := Rat.mul_le_mul_of_nonneg_left h1 (Rat.le_of_lt (p2pos a))
  rwa [Rat.mul_one] at q
theorem p2lt {a b : Int} (h : (2 : Rat) ^ a < (2 : Rat) ^ b) : a < b := by
  by_cases q : a < b
  · exact q
  · exact absurd (p2le (Int.not_lt.mp q)) (Rat.not_le.mpr h)
/-- the value of a datum (nought for what is no number) -/
def rvd : Datum → Rat
  | .fin s c q => ((signed s c : Int) : Rat) * (2 : Rat) ^ q
  | _ => 0
/-- v is a finite double, of the value x -/
def DV (v : UInt64) (x : Rat) : Prop := ∃ s c q, val64 v = .fin s c q ∧ rvd (.fin s c q) = x
theorem DV.fin {v : UInt64} {x : Rat} (h : DV v x) : Jvm.Free.Fl.Fin64 v := by
  obtain ⟨s, c, q, h, -⟩ := h
  exact Jvm.Free.Fl.fin64_core.mpr ⟨s, c, q, h⟩
theorem DV.noNaN {v : UInt64} {x : Rat} (h : DV v x) : Jvm.Free.Fl.NoNaN64 v := h.fin.noNaN
theorem DV.uniq {v : UInt64} {x y : Rat} (h : DV v x) (g : DV v y) : x = y := by
  obtain ⟨s, c, q, h1, h2⟩ := h
  obtain ⟨t, d, r, g1, g2⟩ := g
  cases h1.symm.trans g1
  exact h2.symm.trans g2
theorem units_val (s : Bool) (c : Nat) {q e : Int} (h : e ≤ q) : ((signed s (inUnits c q e) : Int) : Rat) * (2 : Rat) ^ e = ((signed s c : Int) : Rat) * (2 : Rat) ^ q := by
  obtain ⟨n, rfl⟩ : ∃ n : Nat, q = e + n := ⟨(q - e).toNat, by omega⟩
  unfold inUnits
  rw [signed_mul, Rat.intCast_mul, Rat.mul_assoc, show (e + (n : Int) - e).toNat = n by omega, p2add, p2nat, Rat.mul_comm ((2 : Rat) ^ e)]
  rfl
theorem dcmp_of {a b : UInt64} {x y : Rat} (ha : DV a x) (hb : DV b y) : dcmp a b = some (if x < y then .lt else if x = y then .eq else .gt) := by
  obtain ⟨s, c, q, h1, rfl⟩ := ha
  obtain ⟨t, d, r, h2, rfl⟩ := hb
  show order (val64 a) (val64 b) = _
  rw [h1, h2]
  show some (compare (signed s (inUnits c q (min q r))) (signed t (inUnits d r (min q r)))) = some (if ((signed s c : Int) : Rat) * (2 : Rat) ^ q < ((signed t d : Int) : Rat) * (2 : Rat) ^ r then .lt else if ((signed s c : Int) : Rat) * (2 : Rat) ^ q = ((signed t d : Int) : Rat) * (2 : Rat) ^ r then .eq else .gt)
  rw [compare_ite, ← units_val s c (Int.min_le_left q r), ← units_val t d (Int.min_le_right q r)]
  generalize signed s (inUnits c q (min q r)) = i
  generalize signed t (inUnits d r (min q r)) = j
  have hu := p2pos (min q r)
  generalize (2 : Rat) ^ (min q r) = u at hu
  have k1 : ∀ i j : Int, ((i : Rat) * u < (j : Rat) * u) ↔ i < j := fun i j => (Rat.mul_lt_mul_right hu).trans Rat.intCast_lt_intCast
  have k2 : ((i : Rat) * u = (j : Rat) * u) ↔ i = j := by
    constructor
    · intro h
      rcases Int.lt_trichotomy i j with g | g | g
      · have := (k1 i j).mpr g; rw [h] at this; exact absurd this Rat.lt_irrefl
      · exact g
      · have := (k1 j i).mpr g; rw [h] at this; exact absurd this Rat.lt_irrefl
    · intro h; rw [h]
  simp only [k1, k2]
theorem dcmp_lt {a b : UInt64} {x y : Rat} (ha : DV a x) (hb : DV b y) (h : x < y) : Jvm.FP.dcmp a b = some .lt := by
  show dcmp a b = _
  rw [dcmp_of ha hb, if_pos h]
theorem dcmp_eq {a b : UInt64} {x y : Rat} (ha : DV a x) (hb : DV b y) (h : x = y) : Jvm.FP.dcmp a b = some .eq := by
  show dcmp a b = _
  rw [dcmp_of ha hb, if_neg (by rw [h]; exact Rat.lt_irrefl), if_pos h]
theorem dcmp_gt {a b : UInt64} {x y : Rat} (ha : DV a x) (hb : DV b y) (h : y < x) : Jvm.FP.dcmp a b = some .gt := by
  show dcmp a b = _
  rw [dcmp_of ha hb, if_neg (by rw [Rat.not_lt]; exact Rat.le_of_lt h), if_neg (Rat.ne_of_gt h)]
theorem dcmp_le {a b : UInt64} {x y : Rat} (ha : DV a x) (hb : DV b y) (h : x ≤ y) : Jvm.FP.dcmp a b = some .lt ∨ Jvm.FP.dcmp a b = some .eq := by
  by_cases q : x = y
  · exact Or.inr (dcmp_eq ha hb q)
  · exact Or.inl (dcmp_lt ha hb (Rat.lt_of_le_of_ne h q))
theorem dcmp_ge {a b : UInt64} {x y : Rat} (ha : DV a x) (hb : DV b y) (h : y ≤ x) : Jvm.FP.dcmp a b = some .gt ∨ Jvm.FP.dcmp a b = some .eq := by
  by_cases q : x = y
  · exact Or.inr (dcmp_eq ha hb q)
  · exact Or.inl (dcmp_gt ha hb (Rat.lt_of_le_of_ne h (fun z => q z.symm)))
/-- the rounding of a positive ratio, in full -/
theorem rr_spec (s : Bool) {A B : Nat} (e : Int) (hA : 0 < A) (hB : 0 < B) {x : Rat} (hx : x * (B : Rat) = (A : Rat) * (2 : Rat) ^ e) (hlt : x < (2 : Rat) ^ (1023 : Int)) :
    ∃ c q, roundRatio b64 s A B e = .fin s c q ∧ ∃ (m : Nat) (r : Int), (c : Rat) * (2 : Rat) ^ q = (m : Rat) * (2 : Rat) ^ r ∧ -1074 ≤ r ∧ m ≤ 2 ^ 53 ∧ 2 * x ≤ (2 * (m : Rat) + 1) * (2 : Rat) ^ r ∧ 2 * (m : Rat) * (2 : Rat) ^ r ≤ 2 * x + (2 : Rat) ^ r ∧
      x < 9007199254740992 * (2 : Rat) ^ r ∧ (r = -1074 ∨ 4503599627370496 * (2 : Rat) ^ r ≤ x) := by
  have g1 := quantum_ge b64 A B e
  have g2 := nearest_units_le (f := b64) hA hB e
  have g3 := quantum_not_below (f := b64) hA hB e
  have g4 := quantum_below (f := b64) hA hB e
  unfold roundRatio
  rw [if_neg (by omega : ¬ A = 0)]
  generalize quantum b64 A B e = r at *
  unfold roundAt
  have hD := unitsDen_pos hB e r
  obtain ⟨n1, n2, -⟩ := nearest_spec (unitsNum A e r) (unitsDen B e r) hD
  have key : x * (unitsDen B e r : Rat) = (unitsNum A e r : Rat) * (2 : Rat) ^ r := by
    unfold unitsDen unitsNum
    rw [Rat.natCast_mul, Rat.natCast_mul, ← Rat.mul_assoc, hx, ← p2nat, ← p2nat, Rat.mul_assoc, Rat.mul_assoc, ← p2add, ← p2add, show e + ((r - e).toNat : Int) = ((e - r).toNat : Int) + r by omega]
  have b1 : unitsNum A e r < 2 ^ 53 * unitsDen B e r := (units_below A B e r 53).mpr g4
  have b2 : r = -1074 ∨ 2 ^ 52 * unitsDen B e r ≤ unitsNum A e r := by
    rcases g3 with g3 | g3
    · exact Or.inl g3
    · exact Or.inr (Nat.le_of_not_lt fun q => g3 ((units_below A B e r 52).mp q))
  have hr0 : -1074 ≤ r := g1
  have hm53 : nearest (unitsNum A e r) (unitsDen B e r) ≤ 2 ^ 53 := g2
  clear g1 g2 g3 g4
  generalize nearest (unitsNum A e r) (unitsDen B e r) = m at *
  generalize unitsNum A e r = N at *
  generalize unitsDen B e r = D at *
  have hu := p2pos r
  have hDp : (0 : Rat) < (D : Rat) := Rat.natCast_pos.mpr hD
  have n1' : 2 * (N : Rat) ≤ (2 * (m : Rat) + 1) * (D : Rat) := by
    have q := Rat.natCast_le_natCast.mpr n1
    simpa [Rat.natCast_mul, Rat.natCast_add] using q
  have n2' : 2 * (m : Rat) * (D : Rat) ≤ 2 * (N : Rat) + (D : Rat) := by
    have q := Rat.natCast_le_natCast.mpr n2
    simpa [Rat.natCast_mul, Rat.natCast_add] using q
  have b1' : (N : Rat) < 9007199254740992 * (D : Rat) := by
    have q := Rat.natCast_lt_natCast.mpr b1
    simpa [Rat.natCast_mul] using q
  have b2' : r = -1074 ∨ 4503599627370496 * (D : Rat) ≤ (N : Rat) := by
    rcases b2 with q | q
    · exact Or.inl q
    · right
      have q := Rat.natCast_le_natCast.mpr q
      simpa [Rat.natCast_mul] using q
  have f1 : 2 * x ≤ (2 * (m : Rat) + 1) * (2 : Rat) ^ r := by
    refine Rat.le_of_mul_le_mul_right (c := (D : Rat)) ?_ hDp
    have q := Rat.mul_le_mul_of_nonneg_right n1' (Rat.le_of_lt hu)
    generalize (2 : Rat) ^ r = u at *
    grind
  have f2 : 2 * (m : Rat) * (2 : Rat) ^ r ≤ 2 * x + (2 : Rat) ^ r := by
    refine Rat.le_of_mul_le_mul_right (c := (D : Rat)) ?_ hDp
    have q := Rat.mul_le_mul_of_nonneg_right n2' (Rat.le_of_lt hu)
    generalize (2 : Rat) ^ r = u at *
    grind
  have f3 : x < 9007199254740992 * (2 : Rat) ^ r := by
    refine Rat.lt_of_mul_lt_mul_right (c := (D : Rat)) ?_ (Rat.le_of_lt hDp)
    have q := Rat.mul_lt_mul_of_pos_right b1' hu
    generalize (2 : Rat) ^ r = u at *
    grind
  have f4 : r = -1074 ∨ 4503599627370496 * (2 : Rat) ^ r ≤ x := by
    rcases b2' with q | q
    · exact Or.inl q
    · right
      refine Rat.le_of_mul_le_mul_right (c := (D : Rat)) ?_ hDp
      have q := Rat.mul_le_mul_of_nonneg_right q (Rat.le_of_lt hu)
      generalize (2 : Rat) ^ r = u at *
      grind
  have hr : r ≤ 970 := by
    rcases f4 with q | q
    · omega
    · have q1 : (2 : Rat) ^ ((52 : Int) + r) < (2 : Rat) ^ (1023 : Int) := by
        rw [p2add, show (2 : Rat) ^ (52 : Int) = 4503599627370496 by decide +kernel]
        exact Std.lt_of_le_of_lt q hlt
      have := p2lt q1
      omega
  have hqm : b64.qmax = 971 := by decide
  by_cases hm : m < 2 ^ 53
  · refine ⟨m, r, ?_, m, r, rfl, hr0, hm53, f1, f2, f3, f4⟩
    show (if m < 2 ^ 53 then bound b64 s m r else _) = _
    rw [if_pos hm]
    unfold bound
    rw [if_pos (by omega)]
  · have hm : m = 2 ^ 53 := by omega
    refine ⟨2 ^ 52, r + 1, ?_, m, r, ?_, hr0, hm53, f1, f2, f3, f4⟩
    · show (if m < 2 ^ 53 then bound b64 s m r else bound b64 s b64.tails (r + 1)) = _
      rw [if_neg (by omega)]
      unfold bound
      rw [if_pos (by omega)]
      rfl
    · subst hm
      rw [p2add, Rat.zpow_one]
      generalize (2 : Rat) ^ r = u
      have e1 : ((2 ^ 52 : Nat) : Rat) = 4503599627370496 := by decide +kernel
      have e2 : ((2 ^ 53 : Nat) : Rat) = 9007199254740992 := by decide +kernel
      rw [e1, e2]
      grind
/-- the rounding of a rational number to a double's precision -/
def RR (x : Rat) : Rat := rvd (roundRatio b64 (decide (x < 0)) x.num.natAbs x.den 0)
theorem rat_num (x : Rat) : x * (x.den : Rat) = (x.num : Rat) := by
  have h : x = (x.num : Rat) / ((x.den : Int) : Rat) := by rw [← Rat.divInt_eq_div, Rat.num_divInt_den]
  have hd : (((x.den : Int)) : Rat) ≠ 0 := by
    intro q
    have := Rat.intCast_eq_zero_iff.mp q
    have := x.den_nz
    omega
  have q := Rat.div_mul_cancel (a := (x.num : Rat)) hd
  rw [← h] at q
  exact q
theorem signed_rat (s : Bool) (c : Nat) : ((signed s c : Int) : Rat) = if s then -(c : Rat) else (c : Rat) := by cases s <;> simp [signed, Rat.intCast_natCast]
/-- rounding goes by the value -/
theorem rr_congr {s : Bool} {A B : Nat} {e : Int} {x : Rat} (hB : 0 < B) (hx : x * (B : Rat) = ((signed s A : Int) : Rat) * (2 : Rat) ^ e) (hA : A ≠ 0) : roundRatio b64 s A B e = roundRatio b64 (decide (x < 0)) x.num.natAbs x.den 0 := by
  have hu := p2pos e
  have hBp : (0 : Rat) < (B : Rat) := Rat.natCast_pos.mpr hB
  have hAp : (0 : Rat) < (A : Rat) := Rat.natCast_pos.mpr (by omega)
  have hAu := Rat.mul_pos hAp hu
  have hs : decide (x < 0) = s := by
    rw [signed_rat] at hx
    cases s
    · simp only [Bool.false_eq_true, if_false] at hx
      rw [decide_eq_false_iff_not]
      intro q
      have := (Rat.mul_neg_iff_of_pos_right hBp).mpr q
      rw [hx] at this
      grind
    · simp only [if_true] at hx
      rw [decide_eq_true_iff]
      refine (Rat.mul_neg_iff_of_pos_right hBp).mp ?_
      rw [hx]
      grind
  rw [hs]
  refine roundRatio_congr hB x.den_pos ?_
  -- magnitudes
  have h1 := rat_num x
  have h2 : (x.num : Rat) * (B : Rat) = ((signed s A : Int) : Rat) * (2 : Rat) ^ e * (x.den : Rat) := by rw [← h1, ← hx]; grind
  have h3 : (x.num : Rat) * (B : Rat) * (2 : Rat) ^ (((0 - e).toNat : Nat) : Int) = ((signed s A : Int) : Rat) * (x.den : Rat) * (2 : Rat) ^ (((e - 0).toNat : Nat) : Int) := by
    rw [h2, Rat.mul_assoc, Rat.mul_assoc, Rat.mul_comm ((2 : Rat) ^ e), Rat.mul_assoc, ← p2add, ← Rat.mul_assoc]
    rw [show (((0 - e).toNat : Nat) : Int) + e = (((e - 0).toNat : Nat) : Int) by omega]
  rw [p2nat, p2nat] at h3
  have h4 : x.num * (B : Int) * ((2 ^ (0 - e).toNat : Nat) : Int) = signed s A * (x.den : Int) * ((2 ^ (e - 0).toNat : Nat) : Int) := by
    refine Rat.intCast_inj.mp ?_
    rw [Rat.intCast_mul, Rat.intCast_mul, Rat.intCast_mul, Rat.intCast_mul]
    exact h3
  have h5 := congrArg Int.natAbs h4
  simp only [Int.natAbs_mul, Int.natAbs_natCast, natAbs_signed] at h5
  exact h5.symm
theorem rvd_rr {s : Bool} {A B : Nat} {e : Int} {x : Rat} (hB : 0 < B) (hx : x * (B : Rat) = ((signed s A : Int) : Rat) * (2 : Rat) ^ e) : rvd (roundRatio b64 s A B e) = RR x := by
  by_cases hA : A = 0
  · subst hA
    have hx0 : x = 0 := by
      rw [signed_zero] at hx
      have hBp : (B : Rat) ≠ 0 := fun q => by have := Rat.natCast_eq_zero_iff.mp q; omega
      rcases Rat.mul_eq_zero.mp (hx.trans (by rw [show ((0 : Int) : Rat) = 0 from rfl, Rat.zero_mul])) with q | q
      · exact q
      · exact absurd q hBp
    subst hx0
    unfold RR roundRatio
    rw [if_pos rfl, if_pos (by decide)]
    show ((signed s 0 : Int) : Rat) * _ = ((signed _ 0 : Int) : Rat) * _
    rw [signed_zero, signed_zero]
  · rw [rr_congr hB hx hA]; rfl
theorem RR_neg (x : Rat) : RR (-x) = - RR x := by
  have h := rat_num x
  have h1 : rvd (roundRatio b64 (!decide (x < 0)) x.num.natAbs x.den 0) = RR (-x) := by
    refine rvd_rr x.den_pos ?_
    rw [Rat.zpow_zero, Rat.mul_one, Rat.neg_mul, h]
    have : (signed (!decide (x < 0)) x.num.natAbs : Int) = - x.num := by
      by_cases q : x < 0
      · have : x.num < 0 := by
          rw [← Int.not_le, Rat.num_nonneg, Rat.not_le]; exact q
        simp [signed, q]; omega
      · have : 0 ≤ x.num := by rw [Rat.num_nonneg]; exact Rat.not_lt.mp q
        simp [signed, q]; omega
    rw [this]; rfl
  rw [← h1, ← negate_roundRatio]
  unfold RR
  generalize roundRatio b64 (decide (x < 0)) x.num.natAbs x.den 0 = d
  cases d with
  | nan => simp [negate, rvd]
  | inf s => simp [negate, rvd]
  | fin s c q =>
    show ((signed (!s) c : Int) : Rat) * _ = -(((signed s c : Int) : Rat) * _)
    rw [← Rat.neg_mul]
    congr 1
    cases s <;> simp [signed]
/-- what is known of a rounding y of x -/
def Rsp (x y : Rat) : Prop := ∃ (m r : Int), y = (m : Rat) * (2 : Rat) ^ r ∧ -1074 ≤ r ∧ m.natAbs ≤ 2 ^ 53 ∧ 2 * x ≤ (2 * (m : Rat) + 1) * (2 : Rat) ^ r ∧ (2 * (m : Rat) - 1) * (2 : Rat) ^ r ≤ 2 * x ∧
    x < 9007199254740992 * (2 : Rat) ^ r ∧ -(9007199254740992 * (2 : Rat) ^ r) < x ∧ (r = -1074 ∨ 4503599627370496 * (2 : Rat) ^ r ≤ x ∨ x ≤ -(4503599627370496 * (2 : Rat) ^ r))
theorem Rsp.neg {x y : Rat} (h : Rsp x y) : Rsp (-x) (-y) := by
  obtain ⟨m, r, h1, h2, h3, h4, h5, h6, h7, h8⟩ := h
  have hu := p2pos r
  refine ⟨-m, r, ?_, h2, by omega, ?_, ?_, ?_, ?_, ?_⟩ <;> (try rw [Rat.intCast_neg]) <;> generalize (2 : Rat) ^ r = u at * <;> grind
theorem big_lt : (1267650600228229401496703205376 : Rat) < (2 : Rat) ^ (1023 : Int) := by
  have h : (2 : Rat) ^ (100 : Int) < (2 : Rat) ^ (1023 : Int) := by
    refine Rat.lt_of_le_of_ne (p2le (by decide)) fun q => ?_
    have h2 : (2 : Rat) ^ (1023 : Int) = (2 : Rat) ^ (100 : Int) * (2 : Rat) ^ (923 : Int) := by rw [← p2add]; rfl
    have h3 : (2 : Rat) ^ (1 : Int) ≤ (2 : Rat) ^ (923 : Int) := p2le (by decide)
    have h4 := p2pos 100
    rw [Rat.zpow_one] at h3
    have h5 := Rat.mul_le_mul_of_nonneg_left h3 (Rat.le_of_lt h4)
    grind
  have e : (2 : Rat) ^ (100 : Int) = 1267650600228229401496703205376 := by decide +kernel
  rw [← e]; exact h
theorem RR_pos {x : Rat} (h0 : 0 < x) (h : x ≤ 1267650600228229401496703205376) : Rsp x (RR x) ∧ ∃ c q, roundRatio b64 (decide (x < 0)) x.num.natAbs x.den 0 = .fin false c q := by
  have hn : 0 < x.num := by
    have : 0 ≤ x.num := by rw [Rat.num_nonneg]; exact Rat.le_of_lt h0
    have : x.num ≠ 0 := fun q => by rw [Rat.num_eq_zero] at q; rw [q] at h0; exact absurd h0 Rat.lt_irrefl
    omega
  have hd : decide (x < 0) = false := by rw [decide_eq_false_iff_not, Rat.not_lt]; exact Rat.le_of_lt h0
  have e1 : ((x.num.natAbs : Nat) : Rat) = (x.num : Rat) := by
    have : ((x.num.natAbs : Nat) : Int) = x.num := by omega
    rw [← Rat.intCast_natCast, this]
  obtain ⟨c, q, hr, m, r, f0, f1, f2, f3, f4, f5, f6⟩ := rr_spec false (A := x.num.natAbs) (B := x.den) 0 (by omega) x.den_pos (x := x) (by rw [Rat.zpow_zero, Rat.mul_one, e1]; exact rat_num x) (Std.lt_of_le_of_lt h big_lt)
  refine ⟨⟨m, r, ?_, f1, by omega, ?_, ?_, ?_, ?_, ?_⟩, c, q, by rw [hd]; exact hr⟩
  · unfold RR
    rw [hd, hr]
    show ((signed false c : Int) : Rat) * _ = _
    rw [← Rat.intCast_natCast] at f0
    exact f0
  all_goals
    have hu := p2pos r
    have e2 : ((m : Int) : Rat) = (m : Rat) := rfl
    rw [e2] at *
    generalize (2 : Rat) ^ r = u at *
    grind
theorem RR_zero : RR 0 = 0 := by
  unfold RR roundRatio
  rw [if_pos (by decide)]
  show ((signed _ 0 : Int) : Rat) * _ = 0
  rw [signed_zero]
  exact Rat.zero_mul _
theorem Rsp.zero : Rsp 0 0 := by
  have hu := p2pos (-1074)
  refine ⟨0, -1074, ?_, by decide, by decide, ?_, ?_, ?_, ?_, Or.inl rfl⟩ <;> generalize (2 : Rat) ^ (-1074 : Int) = u at * <;> (try rw [show ((0 : Int) : Rat) = 0 from rfl]) <;> grind
theorem RR_spec {x : Rat} (h1 : -1267650600228229401496703205376 ≤ x) (h2 : x ≤ 1267650600228229401496703205376) : Rsp x (RR x) := by
  by_cases q : 0 < x
  · exact (RR_pos q h2).1
  · by_cases q2 : x = 0
    · subst q2; rw [RR_zero]; exact Rsp.zero
    · have q3 : 0 < -x := by grind
      have g := (RR_pos q3 (by grind)).1.neg
      rw [RR_neg, Rat.neg_neg, Rat.neg_neg] at g
      exact g
theorem DV.of_rr {v : UInt64} {s : Bool} {A B : Nat} {e : Int} {x : Rat} (hv : val64 v = roundRatio b64 s A B e) (hB : 0 < B) (hx : x * (B : Rat) = ((signed s A : Int) : Rat) * (2 : Rat) ^ e) (h1 : -1267650600228229401496703205376 ≤ x) (h2 : x ≤ 1267650600228229401496703205376) : DV v (RR x) := by
  have hr := rvd_rr hB hx
  by_cases hA : A = 0
  · subst hA
    refine ⟨s, 0, b64.qmin, by rw [hv]; unfold roundRatio; rw [if_pos rfl], ?_⟩
    rw [← hr]; unfold roundRatio; rw [if_pos rfl]
  · obtain ⟨c, q, h, -⟩ := rr_spec s (A := A) (B := B) e (by omega) hB (x := if s then -x else x) (by rw [signed_rat] at hx; cases s <;> simp at hx ⊢ <;> grind) (Std.lt_of_le_of_lt (by cases s <;> simp <;> grind) big_lt)
    exact ⟨s, c, q, by rw [hv, h], by rw [← hr, h]⟩
theorem dadd_DV {a b : UInt64} {x y : Rat} (ha : DV a x) (hb : DV b y) (h1 : -1267650600228229401496703205376 ≤ x + y) (h2 : x + y ≤ 1267650600228229401496703205376) : DV (Jvm.FP.dadd a b) (RR (x + y)) := by
  obtain ⟨s, c, q, e1, rfl⟩ := ha
  obtain ⟨t, d, r, e2, rfl⟩ := hb
  refine DV.of_rr (s := sumSign s t (sumUnits s c q t d r (min q r))) (A := (sumUnits s c q t d r (min q r)).natAbs) (B := 1) (e := min q r) ?_ (by decide) ?_ h1 h2
  · show val64 (dadd a b) = _
    rw [val64_dadd, e1, e2]; rfl
  · rw [signed_sumSign, show ((1 : Nat) : Rat) = 1 from rfl, Rat.mul_one]
    unfold sumUnits
    rw [Rat.intCast_add, Rat.add_mul, units_val s c (Int.min_le_left q r), units_val t d (Int.min_le_right q r)]; rfl
theorem signed_not (t : Bool) (d : Nat) : (signed (!t) d : Int) = - signed t d := by cases t <;> simp [signed]
theorem dsub_DV {a b : UInt64} {x y : Rat} (ha : DV a x) (hb : DV b y) (h1 : -1267650600228229401496703205376 ≤ x - y) (h2 : x - y ≤ 1267650600228229401496703205376) : DV (Jvm.FP.dsub a b) (RR (x - y)) := by
  obtain ⟨s, c, q, e1, rfl⟩ := ha
  obtain ⟨t, d, r, e2, rfl⟩ := hb
  refine DV.of_rr (s := sumSign s (!t) (sumUnits s c q (!t) d r (min q r))) (A := (sumUnits s c q (!t) d r (min q r)).natAbs) (B := 1) (e := min q r) ?_ (by decide) ?_ h1 h2
  · show val64 (dsub a b) = _
    rw [val64_dsub, e1, e2]; rfl
  · rw [signed_sumSign, show ((1 : Nat) : Rat) = 1 from rfl, Rat.mul_one]
    unfold sumUnits
    rw [Rat.intCast_add, Rat.add_mul, units_val s c (Int.min_le_left q r), units_val (!t) d (Int.min_le_right q r), signed_not, Rat.intCast_neg, Rat.neg_mul, Rat.sub_eq_add_neg]; rfl
theorem dmul_DV {a b : UInt64} {x y : Rat} (ha : DV a x) (hb : DV b y) (h1 : -1267650600228229401496703205376 ≤ x * y) (h2 : x * y ≤ 1267650600228229401496703205376) : DV (Jvm.FP.dmul a b) (RR (x * y)) := by
  obtain ⟨s, c, q, e1, rfl⟩ := ha
  obtain ⟨t, d, r, e2, rfl⟩ := hb
  refine DV.of_rr (s := s != t) (A := c * d) (B := 1) (e := q + r) ?_ (by decide) ?_ h1 h2
  · show val64 (dmul a b) = _
    rw [val64_dmul, e1, e2]; rfl
  · rw [signed_xor, show ((1 : Nat) : Rat) = 1 from rfl, Rat.mul_one, Rat.intCast_mul, p2add]
    show (_ * _) * (_ * _) = _
    generalize (2 : Rat) ^ q = u
    generalize (2 : Rat) ^ r = w
    grind
theorem ddiv_DV {a b : UInt64} {x y : Rat} (ha : DV a x) (hb : DV b y) (hy : y ≠ 0) (h1 : -1267650600228229401496703205376 ≤ x / y) (h2 : x / y ≤ 1267650600228229401496703205376) : DV (Jvm.FP.ddiv a b) (RR (x / y)) := by
  obtain ⟨s, c, q, e1, rfl⟩ := ha
  obtain ⟨t, d, r, e2, rfl⟩ := hb
  have hd : d ≠ 0 := by
    rintro rfl
    apply hy
    show ((signed t 0 : Int) : Rat) * _ = 0
    rw [signed_zero]; exact Rat.zero_mul _
  refine DV.of_rr (s := s != t) (A := c) (B := d) (e := q - r) ?_ (by omega) ?_ h1 h2
  · show val64 (ddiv a b) = _
    rw [val64_ddiv, e1, e2]
    show (if d = 0 then _ else _) = _
    rw [if_neg hd]
  · have hq : (2 : Rat) ^ q = (2 : Rat) ^ (q - r) * (2 : Rat) ^ r := by rw [← p2add, show q - r + r = q by omega]
    have hS : ((signed s c : Int) : Rat) * (d : Rat) = ((signed (s != t) c : Int) : Rat) * ((signed t d : Int) : Rat) := by
      rw [signed_rat, signed_rat, signed_rat]
      cases s <;> cases t <;> simp <;> grind
    have hm := Rat.div_mul_cancel (a := rvd (.fin s c q)) hy
    have hyn := hy
    have hv1 : rvd (.fin s c q) = ((signed s c : Int) : Rat) * ((2 : Rat) ^ (q - r) * (2 : Rat) ^ r) := by rw [← hq]; rfl
    have hv2 : rvd (.fin t d r) = ((signed t d : Int) : Rat) * (2 : Rat) ^ r := rfl
    generalize rvd (.fin s c q) / rvd (.fin t d r) = z at *
    rw [hv1, hv2] at hm
    rw [hv2] at hyn
    have hst : ((signed t d : Int) : Rat) ≠ 0 := fun g => hyn (by rw [g]; exact Rat.zero_mul _)
    have hr := p2pos r
    generalize (2 : Rat) ^ (q - r) = u at *
    generalize (2 : Rat) ^ r = w at *
    generalize ((signed s c : Int) : Rat) = X at *
    generalize ((signed (s != t) c : Int) : Rat) = S at *
    generalize ((signed t d : Int) : Rat) = Y at *
    generalize (d : Rat) = D at *
    -- hm : z * (Y * w) = X * (u * w); hS : X * D = S * Y; goal : z * D = S * u
    have hw : w ≠ 0 := Rat.ne_of_gt hr
    have k1 : z * Y = X * u := by
      have : (z * Y - X * u) * w = 0 := by grind
      rcases Rat.mul_eq_zero.mp this with g | g
      · grind
      · exact absurd g hw
    have k2 : (z * D - S * u) * Y = 0 := by grind
    rcases Rat.mul_eq_zero.mp k2 with g | g
    · grind
    · exact absurd g hst
theorem i2d_RR (n : Int32) : DV (Jvm.FP.i2d n) (RR (n.toInt : Rat)) := by
  have h := n.le_toInt
  have h' := n.toInt_lt
  refine DV.of_rr (s := decide (n.toInt < 0)) (A := n.toInt.natAbs) (B := 1) (e := 0) ?_ (by decide) ?_ ?_ ?_
  · show val64 (i2d n) = _
    rw [val64_i2d]; rfl
  · rw [Rat.zpow_zero, Rat.mul_one, show ((1 : Nat) : Rat) = 1 from rfl, Rat.mul_one]
    congr 1
    by_cases q : n.toInt < 0 <;> simp [signed, q] <;> omega
  · have := Rat.intCast_le_intCast.mpr h; grind
  · have := Rat.intCast_le_intCast.mpr (Int.le_of_lt h'); grind
theorem l2d_RR (n : Int64) : DV (Jvm.FP.l2d n) (RR (n.toInt : Rat)) := by
  have h := n.le_toInt
  have h' := n.toInt_lt
  refine DV.of_rr (s := decide (n.toInt < 0)) (A := n.toInt.natAbs) (B := 1) (e := 0) ?_ (by decide) ?_ ?_ ?_
  · show val64 (l2d n) = _
    rw [val64_l2d]; rfl
  · rw [Rat.zpow_zero, Rat.mul_one, show ((1 : Nat) : Rat) = 1 from rfl, Rat.mul_one]
    congr 1
    by_cases q : n.toInt < 0 <;> simp [signed, q] <;> omega
  · have := Rat.intCast_le_intCast.mpr h; grind
  · have := Rat.intCast_le_intCast.mpr (Int.le_of_lt h'); grind
/-- a rational number that a double can hold (no overflow asked) -/
def Rp (z : Rat) : Prop := ∃ m k : Int, z = (m : Rat) * (2 : Rat) ^ k ∧ m.natAbs ≤ 2 ^ 53 ∧ -1074 ≤ k
theorem abs_le {m : Int} (h : m.natAbs ≤ 2 ^ 53) : -(9007199254740992 : Rat) ≤ (m : Rat) ∧ (m : Rat) ≤ 9007199254740992 := by
  have h1 : (-9007199254740992 : Int) ≤ m ∧ m ≤ 9007199254740992 := by omega
  exact ⟨by have := Rat.intCast_le_intCast.mpr h1.1; simpa using this, by have := Rat.intCast_le_intCast.mpr h1.2; simpa using this⟩
/-- a number that can be held is a multiple of the quantum, or no greater than the quantum's least -/
theorem rp_mul {z : Rat} {r : Int} (h : Rp z) : (∃ j : Int, z = (j : Rat) * (2 : Rat) ^ r) ∨ (-1074 < r ∧ z ≤ 4503599627370496 * (2 : Rat) ^ r ∧ -(4503599627370496 * (2 : Rat) ^ r) ≤ z) := by
  obtain ⟨m, k, hz, hm, hk⟩ := h
  by_cases hkr : r ≤ k
  · left
    obtain ⟨i, rfl⟩ : ∃ i : Nat, k = r + i := ⟨(k - r).toNat, by omega⟩
    refine ⟨m * ((2 ^ i : Nat) : Int), ?_⟩
    rw [hz, p2add, p2nat, Rat.intCast_mul, Rat.intCast_natCast]
    generalize (2 : Rat) ^ r = u
    generalize ((2 ^ i : Nat) : Rat) = w
    grind
  · right
    have h1 : (2 : Rat) ^ (k + 1) ≤ (2 : Rat) ^ r := p2le (by omega)
    rw [p2add, Rat.zpow_one] at h1
    obtain ⟨a1, a2⟩ := abs_le hm
    have hu := p2pos k
    have b1 := Rat.mul_le_mul_of_nonneg_right a1 (Rat.le_of_lt hu)
    have b2 := Rat.mul_le_mul_of_nonneg_right a2 (Rat.le_of_lt hu)
    rw [hz]
    refine ⟨by omega, ?_, ?_⟩ <;> generalize (2 : Rat) ^ r = w at * <;> generalize (2 : Rat) ^ k = u at * <;> grind
theorem icast_le {u : Rat} (hu : 0 < u) {i j : Int} (h : (i : Rat) * u ≤ (j : Rat) * u) : i ≤ j := Rat.intCast_le_intCast.mp (Rat.le_of_mul_le_mul_right h hu)
theorem icast_lt {u : Rat} (hu : 0 < u) {i j : Int} (h : (i : Rat) * u < (j : Rat) * u) : i < j := Rat.intCast_lt_intCast.mp (Rat.lt_of_mul_lt_mul_right h (Rat.le_of_lt hu))
/-- the nearest: whatever can be held is no nearer -/
theorem Rsp.near {x y z : Rat} (h : Rsp x y) (hz : Rp z) (t : Rat) (t1 : x - z ≤ t) (t2 : z - x ≤ t) : x - y ≤ t ∧ y - x ≤ t := by
  obtain ⟨n, r, rfl, h2, h3, h4, h5, h6, h7, h8⟩ := h
  have hu := p2pos r
  -- multiples of the quantum
  have main : ∀ (j : Int) (t : Rat), x - (j : Rat) * (2 : Rat) ^ r ≤ t → (j : Rat) * (2 : Rat) ^ r - x ≤ t → x - (n : Rat) * (2 : Rat) ^ r ≤ t ∧ (n : Rat) * (2 : Rat) ^ r - x ≤ t := by
    intro j t t1 t2
    rcases Int.lt_trichotomy j n with g | g | g
    · have g1 : (j : Rat) + 1 ≤ (n : Rat) := by have := Rat.intCast_le_intCast.mpr (show j + 1 ≤ n by omega); simpa using this
      have g2 := Rat.mul_le_mul_of_nonneg_right g1 (Rat.le_of_lt hu)
      generalize (2 : Rat) ^ r = u at *
      constructor <;> grind
    · subst g; exact ⟨t1, t2⟩
    · have g1 : (n : Rat) + 1 ≤ (j : Rat) := by have := Rat.intCast_le_intCast.mpr (show n + 1 ≤ j by omega); simpa using this
      have g2 := Rat.mul_le_mul_of_nonneg_right g1 (Rat.le_of_lt hu)
      generalize (2 : Rat) ^ r = u at *
      constructor <;> grind
  rcases rp_mul (r := r) hz with ⟨j, rfl⟩ | ⟨g0, g1, g2⟩
  · exact main j t t1 t2
  · rcases h8 with q | q | q
    · omega
    · refine main 4503599627370496 t ?_ ?_ <;> rw [show ((4503599627370496 : Int) : Rat) = 4503599627370496 from rfl] <;> generalize (2 : Rat) ^ r = u at * <;> grind
    · refine main (-4503599627370496) t ?_ ?_ <;> rw [show ((-4503599627370496 : Int) : Rat) = -4503599627370496 from rfl] <;> generalize (2 : Rat) ^ r = u at * <;> grind
theorem Rsp.exact {x y : Rat} (h : Rsp x y) (hx : Rp x) : y = x := by
  have := h.near hx 0 (by grind) (by grind)
  grind
theorem RR_exact {x : Rat} (hx : Rp x) (h1 : -1267650600228229401496703205376 ≤ x) (h2 : x ≤ 1267650600228229401496703205376) : RR x = x := (RR_spec h1 h2).exact hx
theorem Rsp.rp {x y : Rat} (h : Rsp x y) : Rp y := by
  obtain ⟨n, r, rfl, h2, h3, -⟩ := h
  exact ⟨n, r, rfl, h3, h2⟩
theorem Rsp.le {x y z : Rat} (h : Rsp x y) (hz : Rp z) (q : x ≤ z) : y ≤ z := by
  have := h.near hz (z - x) (by grind) (by grind)
  grind
theorem Rsp.ge {x y z : Rat} (h : Rsp x y) (hz : Rp z) (q : z ≤ x) : z ≤ y := by
  have := h.near hz (x - z) (by grind) (by grind)
  grind
theorem RR_mono {x y : Rat} (h : x ≤ y) (x1 : -1267650600228229401496703205376 ≤ x) (y2 : y ≤ 1267650600228229401496703205376) : RR x ≤ RR y := by
  by_cases q : x = y
  · rw [q]; exact Rat.le_refl
  · have hx := RR_spec x1 (by grind)
    have hy := RR_spec (by grind) y2
    by_cases g : RR x ≤ RR y
    · exact g
    · have g := Rat.not_le.mp g
      -- RR y < RR x
      have a := fun t => hx.near hy.rp t
      have b := fun t => hy.near hx.rp t
      generalize RR x = X at *
      generalize RR y = Y at *
      by_cases c1 : x ≤ Y
      · have := a (Y - x) (by grind) (by grind)
        grind
      · by_cases c2 : X ≤ y
        · have := b (y - X) (by grind) (by grind)
          grind
        · have k1 := a (x - Y) (by grind) (by grind)
          have k2 := b (X - y) (by grind) (by grind)
          grind
/-- the relative error, of what is not tiny -/
theorem Rsp.err {x y : Rat} (h : Rsp x y) (hx : 1 ≤ x * 1267650600228229401496703205376) : 9007199254740992 * (y - x) ≤ x ∧ 9007199254740992 * (x - y) ≤ x := by
  obtain ⟨n, r, rfl, h2, h3, h4, h5, h6, h7, h8⟩ := h
  have hu := p2pos r
  have k : 4503599627370496 * (2 : Rat) ^ r ≤ x := by
    rcases h8 with q | q | q
    · subst q
      have e1 : (2 : Rat) ^ (-1022 : Int) = 4503599627370496 * (2 : Rat) ^ (-1074 : Int) := by
        rw [show (-1022 : Int) = 52 + -1074 from rfl, p2add, show (2 : Rat) ^ (52 : Int) = 4503599627370496 by decide +kernel]
      have e2 : (2 : Rat) ^ (-1022 : Int) ≤ (2 : Rat) ^ (-100 : Int) := p2le (by decide)
      have e3 : (2 : Rat) ^ (-100 : Int) * (2 : Rat) ^ (100 : Int) = 1 := by rw [← p2add]; rfl
      have e4 : (2 : Rat) ^ (100 : Int) = 1267650600228229401496703205376 := by decide +kernel
      rw [e4] at e3
      rw [← e1]
      generalize (2 : Rat) ^ (-1022 : Int) = v at *
      generalize (2 : Rat) ^ (-100 : Int) = w at *
      grind
    · exact q
    · generalize (2 : Rat) ^ r = u at *
      grind
  generalize (2 : Rat) ^ r = u at *
  constructor <;> grind
/-- the error, of whatever size: relative, or below 2^-53 -/
theorem err_any {x : Rat} (h1 : -1267650600228229401496703205376 ≤ x) (h2 : x ≤ 1267650600228229401496703205376) (t : Rat) (t1 : x ≤ t) (t2 : -x ≤ t) : 9007199254740992 * (RR x - x) ≤ t + 1 ∧ 9007199254740992 * (x - RR x) ≤ t + 1 := by
  have h := RR_spec h1 h2
  generalize RR x = y at *
  obtain ⟨n, r, rfl, g2, g3, g4, g5, g6, g7, g8⟩ := h
  have hu := p2pos r
  have k : 4503599627370496 * (2 : Rat) ^ r ≤ t + 1 := by
    rcases g8 with q | q | q
    · subst q
      have e1 : (2 : Rat) ^ (-1022 : Int) = 4503599627370496 * (2 : Rat) ^ (-1074 : Int) := by
        rw [show (-1022 : Int) = 52 + -1074 from rfl, p2add, show (2 : Rat) ^ (52 : Int) = 4503599627370496 by decide +kernel]
      have e2 : (2 : Rat) ^ (-1022 : Int) ≤ (2 : Rat) ^ (0 : Int) := p2le (by decide)
      rw [Rat.zpow_zero] at e2
      rw [← e1]
      generalize (2 : Rat) ^ (-1022 : Int) = v at *
      grind
    · generalize (2 : Rat) ^ r = u at *
      grind
    · generalize (2 : Rat) ^ r = u at *
      grind
  generalize (2 : Rat) ^ r = u at *
  constructor <;> grind
theorem rp_int {n : Int} (h : n.natAbs ≤ 2 ^ 53) : Rp (n : Rat) := ⟨n, 0, by rw [Rat.zpow_zero, Rat.mul_one], h, by decide⟩
theorem rp_scale {z : Rat} (k : Int) {m : Int} (h : z = (m : Rat) * (2 : Rat) ^ k) (hm : m.natAbs ≤ 2 ^ 53) (hk : -1074 ≤ k) : Rp z := ⟨m, k, h, hm, hk⟩
theorem RR_int {n : Int} (h : n.natAbs ≤ 2 ^ 53) : RR (n : Rat) = (n : Rat) := by
  refine RR_exact (rp_int h) ?_ ?_
  · have := Rat.intCast_le_intCast.mpr (show (-9007199254740992 : Int) ≤ n by omega); grind
  · have := Rat.intCast_le_intCast.mpr (show n ≤ (9007199254740992 : Int) by omega); grind
theorem i2d_DV (n : Int32) : DV (Jvm.FP.i2d n) (n.toInt : Rat) := by
  have h := n.le_toInt
  have h' := n.toInt_lt
  have q := i2d_RR n
  rw [RR_int (by omega)] at q
  exact q
theorem l2d_DV {n : Int64} (h : n.toInt.natAbs ≤ 2 ^ 53) : DV (Jvm.FP.l2d n) (n.toInt : Rat) := by
  have q := l2d_RR n
  rw [RR_int h] at q
  exact q
/-- a written double, by its fields -/
theorem lit_DV {v : UInt64} {s : Bool} {c : Nat} {q : Int} {x : Rat} (h : val64 v = .fin s c q) (hx : ((signed s c : Int) : Rat) * (2 : Rat) ^ q = x) : DV v x := ⟨s, c, q, h, hx⟩
theorem dneg_DV {v : UInt64} {x : Rat} (h : DV v x) : DV (Jvm.FP.dneg v) (-x) := by
  obtain ⟨s, c, q, h1, rfl⟩ := h
  refine ⟨!s, c, q, by rw [Jvm.FP.val64_dneg, h1]; rfl, ?_⟩
  show ((signed (!s) c : Int) : Rat) * _ = -(((signed s c : Int) : Rat) * _)
  rw [signed_not, Rat.intCast_neg, Rat.neg_mul]
theorem DV.whole {v : UInt64} {n : Int} (h : DV v (n : Rat)) : DInt n v := by
  obtain ⟨s, c, q, h1, h2⟩ := h
  unfold DInt
  rw [h1]
  show signed s (c * 2 ^ q.toNat) = n * ((2 ^ (-q).toNat : Nat) : Int)
  refine Rat.intCast_inj.mp ?_
  have h3 : ((signed s c : Int) : Rat) * (2 : Rat) ^ q = (n : Rat) := h2
  rw [signed_mul, Rat.intCast_mul, Rat.intCast_mul, ← h3, Rat.mul_assoc, show (((2 ^ (-q).toNat : Nat) : Int) : Rat) = ((2 ^ (-q).toNat : Nat) : Rat) from rfl, show (((2 ^ q.toNat : Nat) : Int) : Rat) = ((2 ^ q.toNat : Nat) : Rat) from rfl, ← p2nat, ← p2nat, ← p2add, show q + ((-q).toNat : Int) = (q.toNat : Int) by omega]
theorem d2l_DV {v : UInt64} {n : Int64} (h : DV v (n.toInt : Rat)) : Jvm.FP.d2l v = n := d2l_int h.whole
theorem DV.cast {v : UInt64} {x y : Rat} (h : DV v x) (e : x = y) : DV v y := e ▸ h
end Jvm.OwnFl
namespace Jvm.Pilot.@@N@@
open Jvm Jvm.ClassFile Sem Op Lib Jvm.Free Jvm.Stand Jvm.LawKit Jvm.RoadKit Jvm.OwnKit Bundle Jvm.Pilot.@@N@@.Jvm.D
theorem wd {a0 : Array Value} {Z : State} {d : Jvm.Cond} (hw : ∀ d ∈ tables_1, d.before a0 Z = true) (i : Nat) (h : tables_1[i]? = some d) : d.before a0 Z = true := hw d (List.mem_of_getElem? h)
theorem d1_0 : decode jdk_42_method_139_code 0 = .ok (.getstatic 38, 3) := by decide +kernel
theorem d1_3 : decode jdk_42_method_139_code 3 = .ok (.ifCond .eq 23, 3) := by decide +kernel
theorem d1_6 : decode jdk_42_method_139_code 6 = .ok (.iload_n 0, 1) := by decide +kernel
theorem d1_7 : decode jdk_42_method_139_code 7 = .ok (.invokestatic 1015, 3) := by decide +kernel
theorem d1_10 : decode jdk_42_method_139_code 10 = .ok (.ifCond .eq 16, 3) := by decide +kernel
theorem d1_13 : decode jdk_42_method_139_code 13 = .ok (.new 10, 3) := by decide +kernel
theorem d1_16 : decode jdk_42_method_139_code 16 = .ok (.dup, 1) := by decide +kernel
theorem d1_17 : decode jdk_42_method_139_code 17 = .ok (.iload_n 0, 1) := by decide +kernel
theorem d1_18 : decode jdk_42_method_139_code 18 = .ok (.invokestatic 1018, 3) := by decide +kernel
theorem d1_21 : decode jdk_42_method_139_code 21 = .ok (.iconst 0, 1) := by decide +kernel
theorem d1_22 : decode jdk_42_method_139_code 22 = .ok (.invokespecial 209, 3) := by decide +kernel
theorem d1_25 : decode jdk_42_method_139_code 25 = .ok (.areturn, 1) := by decide +kernel
theorem d2_0 : decode jdk_43_method_3_code 0 = .ok (.iload_n 0, 1) := by decide +kernel
theorem d2_1 : decode jdk_43_method_3_code 1 = .ok (.sipush 255, 3) := by decide +kernel
theorem d2_4 : decode jdk_43_method_3_code 4 = .ok (.if_icmp .gt 7, 3) := by decide +kernel
theorem d2_7 : decode jdk_43_method_3_code 7 = .ok (.iconst 1, 1) := by decide +kernel
theorem d2_8 : decode jdk_43_method_3_code 8 = .ok (.goto 4, 3) := by decide +kernel
theorem d2_12 : decode jdk_43_method_3_code 12 = .ok (.ireturn, 1) := by decide +kernel
theorem d3_0 : decode jdk_43_method_46_code 0 = .ok (.iconst 1, 1) := by decide +kernel
theorem d3_1 : decode jdk_43_method_46_code 1 = .ok (.newarray .byte, 2) := by decide +kernel
theorem d3_3 : decode jdk_43_method_46_code 3 = .ok (.dup, 1) := by decide +kernel
theorem d3_4 : decode jdk_43_method_46_code 4 = .ok (.iconst 0, 1) := by decide +kernel
theorem d3_5 : decode jdk_43_method_46_code 5 = .ok (.iload_n 0, 1) := by decide +kernel
theorem d3_6 : decode jdk_43_method_46_code 6 = .ok (.i2b, 1) := by decide +kernel
theorem d3_7 : decode jdk_43_method_46_code 7 = .ok (.bastore, 1) := by decide +kernel
theorem d3_8 : decode jdk_43_method_46_code 8 = .ok (.areturn, 1) := by decide +kernel
theorem d4_0 : decode jdk_42_method_151_code 0 = .ok (.aload_n 0, 1) := by decide +kernel
theorem d4_1 : decode jdk_42_method_151_code 1 = .ok (.invokespecial 1, 3) := by decide +kernel
theorem d4_4 : decode jdk_42_method_151_code 4 = .ok (.aload_n 0, 1) := by decide +kernel
theorem d4_5 : decode jdk_42_method_151_code 5 = .ok (.aload_n 1, 1) := by decide +kernel
theorem d4_6 : decode jdk_42_method_151_code 6 = .ok (.putfield 9, 3) := by decide +kernel
theorem d4_9 : decode jdk_42_method_151_code 9 = .ok (.aload_n 0, 1) := by decide +kernel
theorem d4_10 : decode jdk_42_method_151_code 10 = .ok (.iload_n 2, 1) := by decide +kernel
theorem d4_11 : decode jdk_42_method_151_code 11 = .ok (.putfield 15, 3) := by decide +kernel
theorem d4_14 : decode jdk_42_method_151_code 14 = .ok (.return_, 1) := by decide +kernel
theorem d6_0 : decode prog_24_method_1_code 0 = .ok (.aload_n 0, 1) := by decide +kernel
theorem d6_1 : decode prog_24_method_1_code 1 = .ok (.invokespecial 1, 3) := by decide +kernel
theorem d6_4 : decode prog_24_method_1_code 4 = .ok (.aload_n 0, 1) := by decide +kernel
theorem d6_5 : decode prog_24_method_1_code 5 = .ok (.aload_n 1, 1) := by decide +kernel
theorem d6_6 : decode prog_24_method_1_code 6 = .ok (.putfield 7, 3) := by decide +kernel
theorem d6_9 : decode prog_24_method_1_code 9 = .ok (.aload_n 0, 1) := by decide +kernel
theorem d6_10 : decode prog_24_method_1_code 10 = .ok (.aload_n 2, 1) := by decide +kernel
theorem d6_11 : decode prog_24_method_1_code 11 = .ok (.putfield 13, 3) := by decide +kernel
theorem d6_14 : decode prog_24_method_1_code 14 = .ok (.aload_n 0, 1) := by decide +kernel
theorem d6_15 : decode prog_24_method_1_code 15 = .ok (.iload_n 3, 1) := by decide +kernel
theorem d6_16 : decode prog_24_method_1_code 16 = .ok (.putfield 16, 3) := by decide +kernel
theorem d6_19 : decode prog_24_method_1_code 19 = .ok (.aload_n 0, 1) := by decide +kernel
theorem d6_20 : decode prog_24_method_1_code 20 = .ok (.iload 4, 2) := by decide +kernel
theorem d6_22 : decode prog_24_method_1_code 22 = .ok (.putfield 20, 3) := by decide +kernel
theorem d6_25 : decode prog_24_method_1_code 25 = .ok (.return_, 1) := by decide +kernel
theorem d7_0 : decode jdk_30_method_1_code 0 = .ok (.aload_n 0, 1) := by decide +kernel
theorem d7_1 : decode jdk_30_method_1_code 1 = .ok (.invokespecial 1, 3) := by decide +kernel
theorem d7_4 : decode jdk_30_method_1_code 4 = .ok (.return_, 1) := by decide +kernel
theorem d8_0 : decode prog_24_method_2_code 0 = .ok (.aload_n 0, 1) := by decide +kernel
theorem d8_1 : decode prog_24_method_2_code 1 = .ok (.getfield 16, 3) := by decide +kernel
theorem d8_4 : decode prog_24_method_2_code 4 = .ok (.i2d, 1) := by decide +kernel
theorem d8_5 : decode prog_24_method_2_code 5 = .ok (.dconst 1, 1) := by decide +kernel
theorem d8_6 : decode prog_24_method_2_code 6 = .ok (.dadd, 1) := by decide +kernel
theorem d8_7 : decode prog_24_method_2_code 7 = .ok (.aload_n 0, 1) := by decide +kernel
theorem d8_8 : decode prog_24_method_2_code 8 = .ok (.getfield 20, 3) := by decide +kernel
theorem d8_11 : decode prog_24_method_2_code 11 = .ok (.i2d, 1) := by decide +kernel
theorem d8_12 : decode prog_24_method_2_code 12 = .ok (.ldc2_w 23, 3) := by decide +kernel
theorem d8_15 : decode prog_24_method_2_code 15 = .ok (.dadd, 1) := by decide +kernel
theorem d8_16 : decode prog_24_method_2_code 16 = .ok (.ddiv, 1) := by decide +kernel
theorem d8_17 : decode prog_24_method_2_code 17 = .ok (.dreturn, 1) := by decide +kernel
theorem pd_0 : parseMethodDescriptor "(C)Z" = some ⟨[.char], some .boolean⟩ := by decide +kernel
theorem pd_1 : parseMethodDescriptor "(C)[B" = some ⟨[.char], some (.array .byte)⟩ := by decide +kernel
theorem pd_2 : parseMethodDescriptor "([BB)V" = some ⟨[(.array .byte), .byte], none⟩ := by decide +kernel
theorem pd_3 : parseMethodDescriptor "()V" = some ⟨[], none⟩ := by decide +kernel
theorem pd_4 : parseMethodDescriptor "(C)Ljava/lang/String;" = some ⟨[.char], some (.object "java/lang/String")⟩ := by decide +kernel
theorem pd_5 : parseMethodDescriptor "(Ljava/lang/String;Ljava/lang/String;II)V" = some ⟨[(.object "java/lang/String"), (.object "java/lang/String"), .int, .int], none⟩ := by decide +kernel
theorem pd_6 : parseMethodDescriptor "()D" = some ⟨[], some .double⟩ := by decide +kernel
section OwnPlain
open Jvm.OwnFl
theorem own_z : DV 0 0 := lit_DV (s := false) (c := 0) (q := -1074) (by decide +kernel) (by decide +kernel)
theorem own_1 : DV 4607182418800017408 1 := lit_DV (s := false) (c := 2 ^ 52) (q := -52) (by decide +kernel) (by decide +kernel)
theorem own_2 : DV 4611686018427387904 2 := lit_DV (s := false) (c := 2 ^ 52) (q := -51) (by decide +kernel) (by decide +kernel)
theorem c2147 : (2147483647 : Int32).toInt = 2147483647 := by decide
theorem own_h : DV 4602678819172646912 (1 / 2) := lit_DV (s := false) (c := 2 ^ 52) (q := -53) (by decide +kernel) (by decide +kernel)
theorem own_m12 : DV 4427486594234968593 (4951760157141521 / 4951760157141521099596496896) := lit_DV (s := false) (c := 4951760157141521) (q := -92) (by decide +kernel) (by decide +kernel)
theorem own_ratio {N D : Int} (h1 : 1 ≤ N) (h2 : N < D) (h3 : D ≤ 4294967296) :
    ((N : Rat) / (D : Rat)) * (D : Rat) = (N : Rat) ∧ (0 : Rat) < (D : Rat) ∧ (0 : Rat) < (N : Rat) / (D : Rat) ∧ 1 ≤ (N : Rat) / (D : Rat) * 4294967296 ∧ 1 ≤ (1 - (N : Rat) / (D : Rat)) * 4294967296 ∧ (1 : Rat) ≤ (N : Rat) ∧ (N : Rat) + 1 ≤ (D : Rat) ∧ (D : Rat) ≤ 4294967296 := by
  have n1 : (1 : Rat) ≤ (N : Rat) := by have := Rat.intCast_le_intCast.mpr h1; simpa using this
  have n2 : (N : Rat) + 1 ≤ (D : Rat) := by have := Rat.intCast_le_intCast.mpr (show N + 1 ≤ D by omega); simpa using this
  have n3 : (D : Rat) ≤ 4294967296 := by have := Rat.intCast_le_intCast.mpr h3; simpa using this
  have hD : (0 : Rat) < (D : Rat) := by grind
  have e := Rat.div_mul_cancel (a := (N : Rat)) (b := (D : Rat)) (Rat.ne_of_gt hD)
  have p : (0 : Rat) < (N : Rat) / (D : Rat) := (Rat.lt_div_iff hD).mpr (by grind)
  have l : (N : Rat) / (D : Rat) < 1 := (Rat.div_lt_iff hD).mpr (by grind)
  generalize (N : Rat) / (D : Rat) = x at *
  have k1 := Rat.mul_le_mul_of_nonneg_left n3 (Rat.le_of_lt p)
  have k2 := Rat.mul_le_mul_of_nonneg_left n3 (show 0 ≤ 1 - x by grind)
  exact ⟨e, hD, p, by grind, by grind, n1, n2, n3⟩
theorem own_in {x : Rat} (h0 : 0 < x) (h1 : 1 ≤ x * 4294967296) (h2 : 1 ≤ (1 - x) * 4294967296) : 0 < RR x ∧ RR x < 1 := by
  have r := RR_spec (x := x) (by grind) (by grind)
  have a := r.ge (z := 1 / 4294967296) ⟨1, -32, by decide +kernel, by decide, by decide⟩ (by grind)
  have b := r.le (z := 4294967295 / 4294967296) ⟨4294967295, -32, by decide +kernel, by decide, by decide⟩ (by grind)
  constructor <;> grind
def OwnN (k r : Int) : Rat := ((k + 1 : Int) : Rat) / ((r + 2 : Int) : Rat)
theorem own_k (k : Int32) : DV (FP.dadd (FP.i2d k) 4607182418800017408) ((k.toInt + 1 : Int) : Rat) := by
  have h1 := k.le_toInt
  have h2 := k.toInt_lt
  have b1 : (-2147483648 : Rat) ≤ (k.toInt : Rat) := by have := Rat.intCast_le_intCast.mpr (show (-2147483648 : Int) ≤ k.toInt by omega); simpa using this
  have b2 : (k.toInt : Rat) ≤ 2147483648 := by have := Rat.intCast_le_intCast.mpr (show k.toInt ≤ (2147483648 : Int) by omega); simpa using this
  have q := dadd_DV (i2d_DV k) own_1 (by grind) (by grind)
  rw [show (k.toInt : Rat) + 1 = ((k.toInt + 1 : Int) : Rat) by rw [Rat.intCast_add]; rfl, RR_int (by omega)] at q
  exact q
theorem own_r (r : Int32) : DV (FP.dadd (FP.i2d r) 4611686018427387904) ((r.toInt + 2 : Int) : Rat) := by
  have h1 := r.le_toInt
  have h2 := r.toInt_lt
  have b1 : (-2147483648 : Rat) ≤ (r.toInt : Rat) := by have := Rat.intCast_le_intCast.mpr (show (-2147483648 : Int) ≤ r.toInt by omega); simpa using this
  have b2 : (r.toInt : Rat) ≤ 2147483648 := by have := Rat.intCast_le_intCast.mpr (show r.toInt ≤ (2147483648 : Int) by omega); simpa using this
  have q := dadd_DV (i2d_DV r) own_2 (by grind) (by grind)
  rw [show (r.toInt : Rat) + 2 = ((r.toInt + 2 : Int) : Rat) by rw [Rat.intCast_add]; rfl, RR_int (by omega)] at q
  exact q
theorem own_nec {k r : Int32} (h1 : 0 ≤ k.toInt) (h2 : k.toInt ≤ r.toInt) : DV (FP.ddiv (FP.dadd (FP.i2d k) 4607182418800017408) (FP.dadd (FP.i2d r) 4611686018427387904)) (RR (OwnN k.toInt r.toInt)) := by
  have h3 := r.toInt_lt
  obtain ⟨a, b, c, d, e, f, g, i⟩ := own_ratio (N := k.toInt + 1) (D := r.toInt + 2) (by omega) (by omega) (by omega)
  exact ddiv_DV (own_k k) (own_r r) (Rat.ne_of_gt b) (by grind) (by grind)
/-- the product with the denominator comes back near the numerator -/
theorem own_back {x N D : Rat} (hx : x * D = N) (hD : 0 < D) (h1 : 1 ≤ N) (h2 : N ≤ 4294967296) (h3 : 0 < x) (h4 : 1 ≤ x * 4294967296) (h5 : 1 ≤ (1 - x) * 4294967296) (hR : Rp (N * (1 / 2251799813685248))) (hR' : Rp (-(N * (1 / 2251799813685248)))) :
    RR (RR (RR x * D) - N) ≤ N * (1 / 2251799813685248) ∧ -(N * (1 / 2251799813685248)) ≤ RR (RR (RR x * D) - N) ∧ -18014398509481984 ≤ RR x * D ∧ RR x * D ≤ 18014398509481984 ∧ -18014398509481984 ≤ RR (RR x * D) - N ∧ RR (RR x * D) - N ≤ 18014398509481984 := by
  have r := RR_spec (x := x) (by grind) (by grind)
  have e1 := r.err (by grind)
  obtain ⟨i1, i2⟩ := own_in h3 h4 h5
  generalize RR x = y at *
  have m1 := Rat.mul_le_mul_of_nonneg_right e1.1 (Rat.le_of_lt hD)
  have m2 := Rat.mul_le_mul_of_nonneg_right e1.2 (Rat.le_of_lt hD)
  have k1 : 9007199254740992 * (y * D - N) ≤ N := by grind
  have k2 : 9007199254740992 * (N - y * D) ≤ N := by grind
  clear m1 m2
  generalize y * D = w at *
  have r2 := RR_spec (x := w) (by grind) (by grind)
  have e2 := r2.err (by grind)
  generalize RR w = v at *
  have r3 := RR_spec (x := v - N) (by grind) (by grind)
  refine ⟨r3.le hR (by grind), r3.ge hR' (by grind), by grind, by grind, by grind, by grind⟩
theorem own_tol {N : Int} (h1 : 1 ≤ N) (h2 : N ≤ 2147483648) : (N : Rat) * (1 / 2251799813685248) ≤ RR ((N : Rat) * (4951760157141521 / 4951760157141521099596496896)) ∧ -4294967296 ≤ (N : Rat) * (4951760157141521 / 4951760157141521099596496896) ∧ (N : Rat) * (4951760157141521 / 4951760157141521099596496896) ≤ 4294967296 := by
  have n1 : (1 : Rat) ≤ (N : Rat) := by have := Rat.intCast_le_intCast.mpr h1; simpa using this
  have n2 : (N : Rat) ≤ 2147483648 := by have := Rat.intCast_le_intCast.mpr h2; simpa using this
  have s := RR_spec (x := (N : Rat) * (4951760157141521 / 4951760157141521099596496896)) (by grind) (by grind)
  have k := s.ge (z := (N : Rat) * (1 / 2199023255552)) ⟨N, -41, by congr 1; decide +kernel, by omega, by decide⟩ (by grind)
  refine ⟨by grind, by grind, by grind⟩
theorem own_half {k r : Int} (h1 : 0 ≤ k) (h2 : k ≤ r) (h3 : r ≤ 2147483647) : (2 * k = r → RR (OwnN k r) = 1 / 2) ∧ (2 * k < r → RR (OwnN k r) < 1 / 2) ∧ (r < 2 * k → 1 / 2 < RR (OwnN k r)) := by
  obtain ⟨a, b, c, d, e, f, g, i⟩ := own_ratio (N := k + 1) (D := r + 2) (by omega) (by omega) (by omega)
  have s := RR_spec (x := OwnN k r) (by unfold OwnN; grind) (by unfold OwnN; grind)
  unfold OwnN at *
  have i2 : (1 : Rat) ≤ 1 := by decide
  refine ⟨fun q => ?_, fun q => ?_, fun q => ?_⟩
  · have q' : ((r + 2 : Int) : Rat) = 2 * ((k + 1 : Int) : Rat) := by rw [show r + 2 = 2 * (k + 1) by omega, Rat.intCast_mul]; rfl
    rw [q'] at a b s ⊢
    have e2 : ((k + 1 : Int) : Rat) / (2 * ((k + 1 : Int) : Rat)) = 1 / 2 := by
      generalize ((k + 1 : Int) : Rat) / (2 * ((k + 1 : Int) : Rat)) = y at *
      have z : (y - 1 / 2) * ((k + 1 : Int) : Rat) = 0 := by grind
      rcases Rat.mul_eq_zero.mp z with w | w
      · grind
      · grind
    rw [e2]
    exact RR_exact ⟨1, -1, by decide +kernel, by decide, by decide⟩ (by decide +kernel) (by decide +kernel)
  · have q' : 2 * ((k + 1 : Int) : Rat) + 1 ≤ ((r + 2 : Int) : Rat) := by
      have := Rat.intCast_le_intCast.mpr (show 2 * (k + 1) + 1 ≤ r + 2 by omega)
      rw [Rat.intCast_add (2 * (k + 1)) 1, Rat.intCast_mul] at this
      exact this
    have k3 : ((k + 1 : Int) : Rat) / ((r + 2 : Int) : Rat) ≤ 4294967295 / 8589934592 := by
      generalize ((k + 1 : Int) : Rat) / ((r + 2 : Int) : Rat) = y at *
      by_cases w : y ≤ 4294967295 / 8589934592
      · exact w
      · exfalso
        have w := Rat.not_le.mp w
        have m := Rat.mul_lt_mul_of_pos_right w b
        grind
    have := s.le (z := 4294967295 / 8589934592) ⟨4294967295, -33, by decide +kernel, by decide, by decide⟩ k3
    grind
  · have q' : ((r + 2 : Int) : Rat) + 1 ≤ 2 * ((k + 1 : Int) : Rat) := by
      have := Rat.intCast_le_intCast.mpr (show r + 2 + 1 ≤ 2 * (k + 1) by omega)
      rw [Rat.intCast_add (r + 2) 1, Rat.intCast_mul] at this
      exact this
    have k3 : 4294967297 / 8589934592 ≤ ((k + 1 : Int) : Rat) / ((r + 2 : Int) : Rat) := by
      generalize ((k + 1 : Int) : Rat) / ((r + 2 : Int) : Rat) = y at *
      by_cases w : 4294967297 / 8589934592 ≤ y
      · exact w
      · exfalso
        have w := Rat.not_le.mp w
        have m := Rat.mul_lt_mul_of_pos_right w b
        grind
    have := s.ge (z := 4294967297 / 8589934592) ⟨4294967297, -33, by decide +kernel, by decide, by decide⟩ k3
    grind
theorem own_up {k r : Int} (h1 : 0 ≤ k) (h2 : k < r) (h3 : r ≤ 2147483647) : RR (OwnN k r) < RR (OwnN (k + 1) r) := by
  obtain ⟨a, b, c, d, e, f, g, i⟩ := own_ratio (N := k + 1) (D := r + 2) (by omega) (by omega) (by omega)
  obtain ⟨a', b', c', d', e', f', g', i'⟩ := own_ratio (N := k + 1 + 1) (D := r + 2) (by omega) (by omega) (by omega)
  have s := (RR_spec (x := OwnN k r) (by unfold OwnN; grind) (by unfold OwnN; grind)).err (by unfold OwnN; grind)
  have s' := (RR_spec (x := OwnN (k + 1) r) (by unfold OwnN; grind) (by unfold OwnN; grind)).err (by unfold OwnN; grind)
  generalize RR (OwnN k r) = w at *
  generalize RR (OwnN (k + 1) r) = w' at *
  unfold OwnN at *
  rw [Rat.intCast_add (k + 1) 1, show ((1 : Int) : Rat) = 1 from rfl] at a'
  rw [Rat.intCast_add (k + 1) 1, show ((1 : Int) : Rat) = 1 from rfl] at c' d' e' s'
  generalize ((k + 1 : Int) : Rat) / ((r + 2 : Int) : Rat) = x at *
  generalize (((k + 1 : Int) : Rat) + 1) / ((r + 2 : Int) : Rat) = x' at *
  generalize ((r + 2 : Int) : Rat) = D at *
  have gap : (x' - x) * D = 1 := by grind
  have lo : 1 ≤ (x' - x) * 4294967296 := by
    have p : 0 ≤ x' - x := by
      by_cases w : 0 ≤ x' - x
      · exact w
      · exfalso
        have := (Rat.mul_neg_iff_of_pos_right b).mpr (Rat.not_le.mp w)
        grind
    have := Rat.mul_le_mul_of_nonneg_left i p
    grind
  grind
theorem own_more {k r : Int} (h1 : 0 ≤ k) (h2 : k ≤ r) (h3 : r ≤ 2147483646) : RR (OwnN k (r + 1)) < RR (OwnN k r) := by
  obtain ⟨a, b, c, d, e, f, g, i⟩ := own_ratio (N := k + 1) (D := r + 2) (by omega) (by omega) (by omega)
  obtain ⟨a', b', c', d', e', f', g', i'⟩ := own_ratio (N := k + 1) (D := r + 1 + 2) (by omega) (by omega) (by omega)
  have s := (RR_spec (x := OwnN k r) (by unfold OwnN; grind) (by unfold OwnN; grind)).err (by unfold OwnN; grind)
  have s' := (RR_spec (x := OwnN k (r + 1)) (by unfold OwnN; grind) (by unfold OwnN; grind)).err (by unfold OwnN; grind)
  generalize RR (OwnN k r) = w at *
  generalize RR (OwnN k (r + 1)) = w' at *
  unfold OwnN at *
  have hc : ((r + 1 + 2 : Int) : Rat) = ((r + 2 : Int) : Rat) + 1 := by rw [show r + 1 + 2 = r + 2 + 1 by omega, Rat.intCast_add]; rfl
  rw [hc] at a' b' c' d' e' g' i' s'
  generalize ((k + 1 : Int) : Rat) / ((r + 2 : Int) : Rat) = x at *
  generalize ((k + 1 : Int) : Rat) / (((r + 2 : Int) : Rat) + 1) = x' at *
  generalize ((k + 1 : Int) : Rat) = N at *
  generalize ((r + 2 : Int) : Rat) = D at *
  -- x D = N = x' (D + 1)
  have gap : (x - x') * D = x' := by grind
  have p : 0 ≤ x - x' := by
    by_cases w : 0 ≤ x - x'
    · exact w
    · exfalso
      have := (Rat.mul_neg_iff_of_pos_right b).mpr (Rat.not_le.mp w)
      grind
  have lo : x' ≤ (x - x') * 4294967296 := by
    have := Rat.mul_le_mul_of_nonneg_left i p
    grind
  have le : x ≤ 2 * x' := by
    have k1 : x - x' ≤ (x - x') * D := by
      have := Rat.mul_le_mul_of_nonneg_left (show (1 : Rat) ≤ D by grind) p
      grind
    grind
  grind
end OwnPlain
def Q_rmRec (Z : State) (a : Addr) (h0 : Heap) (n0 : Nat) (v : Option Value) (h : Heap) (L : List Loc) : Prop := v = none ∧ Fr n0 L ∧ h = h0
set_option maxRecDepth 65536 in
set_option maxHeartbeats 40000000 in
theorem rmRec (l : Launch) (Z : State) (a0 : Array Value) (hw : ∀ d ∈ tables_1, d.before a0 Z = true) (ws : List Jvm.Cond) (a : Addr) (h0 : Heap) (n0 : Nat) (Zs : n0 ≤ h0.size)  :
    Con l (⟨"java/lang/Record", "<init>", "()V"⟩ : MethodName) jdk_30_method_1_code 1 none ws ({ frames := 1, cells := 0, slots := 0, locals := 12 } : Room) Z #[(.ref a)] h0 ({ frames := 1, cells := 0, slots := 0, locals := 12 } : Room).cells ({ frames := 1, cells := 0, slots := 0, locals := 12 } : Room).slots (Q_rmRec Z a h0 n0) := by
  refine Con.of (Ls := #[.val (.ref a)]) (plainFor_of_name (by first | (simp [plainName, overriddenIn]; done) | decide +kernel)) (fun m => by first | (simp [entryFrame, mkF, argsToLocals, Value.category]; done) | rfl) ?_
  intro p e s m below meth c s₁ G hGe hG hx hby hml hown hnm hrt hlk hZ X0 e0
  have hown : s.vm.findClass "java/lang/Record" = some m.cls := hown
  have hnm : meth.name = "<init>" := hnm
  have NF0 := Fr.nil n0
  refine g_aloadN hG X0 hx (hb hby d7_0) (pc' := 1) rfl rfl rfl ?_
  show G (s₁.setTop (mkF m 1 #[.val (.ref a)] [(.ref a)]))
  refine g_initO hG X0 hx hZ hown (wd hw 39 rfl) (wd hw 22 rfl) (wd hw 23 rfl) e0 (by rw [hml]; rfl) (hb hby d7_1) (by decide) (by decide) (pc' := 4) rfl ?_
  intro T1 X1 e1
  show G (T1.setTop (mkF m 4 #[.val (.ref a)] []))
  exact e_ret0 hGe X1 hx hrt hlk (hb hby d7_4) e1 (by decide) (by decide) (⟨rfl, NF0, rfl⟩)

def Q_rmCan (Z : State) (ch : Int32) (h0 : Heap) (n0 : Nat) (v : Option Value) (h : Heap) (L : List Loc) : Prop := v = some (.int 1) ∧ Fr n0 L ∧ h = h0
set_option maxRecDepth 65536 in
set_option maxHeartbeats 40000000 in
theorem rmCan (l : Launch) (Z : State) (a0 : Array Value) (hw : ∀ d ∈ tables_1, d.before a0 Z = true) (ws : List Jvm.Cond) (ch : Int32) (h0 : Heap) (n0 : Nat) (Zs : n0 ≤ h0.size) (hc : ¬ (255 : Int32) < ch) :
    Con l (⟨"java/lang/StringLatin1", "canEncode", "(C)Z"⟩ : MethodName) jdk_43_method_3_code 1 (some .boolean) ws ({ frames := 0, cells := 0, slots := 0, locals := 0 } : Room) Z #[(.int ch)] h0 ({ frames := 0, cells := 0, slots := 0, locals := 0 } : Room).cells ({ frames := 0, cells := 0, slots := 0, locals := 0 } : Room).slots (Q_rmCan Z ch h0 n0) := by
  refine Con.of (Ls := #[.val (.int ch)]) (plainFor_of_name (by first | (simp [plainName, overriddenIn]; done) | decide +kernel)) (fun m => by first | (simp [entryFrame, mkF, argsToLocals, Value.category]; done) | rfl) ?_
  intro p e s m below meth c s₁ G hGe hG hx hby hml hown hnm hrt hlk hZ X0 e0
  have hown : s.vm.findClass "java/lang/StringLatin1" = some m.cls := hown
  have hnm : meth.name = "canEncode" := hnm
  have NF0 := Fr.nil n0
  refine g_iloadN hG X0 hx (hb hby d2_0) (pc' := 1) rfl rfl ?_
  show G (s₁.setTop (mkF m 1 #[.val (.int ch)] [(.int ch)]))
  refine g_sipush hG X0 hx (hb hby d2_1) (pc' := 4) rfl (v := (255 : Int32)) rfl ?_
  show G (s₁.setTop (mkF m 4 #[.val (.int ch)] [(.int 255), (.int ch)]))
  refine g_icmpNo hG X0 hx (hb hby d2_4) (pc' := 7) ((flt hc).2.2.1) rfl ?_
  show G (s₁.setTop (mkF m 7 #[.val (.int ch)] []))
  refine g_iconst hG X0 hx (hb hby d2_7) (pc' := 8) rfl (v := (1 : Int32)) rfl ?_
  show G (s₁.setTop (mkF m 8 #[.val (.int ch)] [(.int 1)]))
  refine g_goto hG X0 hx (hb hby d2_8) (pc' := 12) (by decide) (by decide) ?_
  show G (s₁.setTop (mkF m 12 #[.val (.int ch)] [(.int 1)]))
  exact e_retZ hGe X0 hx hrt hlk (hb hby d2_12) (Or.inr rfl) e0 (by decide) (by decide) (⟨rfl, NF0, rfl⟩)

def Q_rmToB (Z : State) (ch : Int32) (h0 : Heap) (n0 : Nat) (v : Option Value) (h : Heap) (L : List Loc) : Prop := ∃ b : Addr, v = some (.ref b) ∧ Fr n0 L ∧ Keep h0 h [] ∧ h0.size ≤ b
set_option maxRecDepth 65536 in
set_option maxHeartbeats 40000000 in
theorem rmToB (l : Launch) (Z : State) (a0 : Array Value) (hw : ∀ d ∈ tables_1, d.before a0 Z = true) (ws : List Jvm.Cond) (ch : Int32) (h0 : Heap) (n0 : Nat) (Zs : n0 ≤ h0.size)  :
    Con l (⟨"java/lang/StringLatin1", "toBytes", "(C)[B"⟩ : MethodName) jdk_43_method_46_code 1 (some (.array .byte)) ws ({ frames := 0, cells := 1, slots := 1, locals := 0 } : Room) Z #[(.int ch)] h0 ({ frames := 0, cells := 1, slots := 1, locals := 0 } : Room).cells ({ frames := 0, cells := 1, slots := 1, locals := 0 } : Room).slots (Q_rmToB Z ch h0 n0) := by
  refine Con.of (Ls := #[.val (.int ch)]) (plainFor_of_name (by first | (simp [plainName, overriddenIn]; done) | decide +kernel)) (fun m => by first | (simp [entryFrame, mkF, argsToLocals, Value.category]; done) | rfl) ?_
  intro p e s m below meth c s₁ G hGe hG hx hby hml hown hnm hrt hlk hZ X0 e0
  have hown : s.vm.findClass "java/lang/StringLatin1" = some m.cls := hown
  have hnm : meth.name = "toBytes" := hnm
  have NF0 := Fr.nil n0
  have K0 := Keep.refl h0 ([] : List Addr)
  refine g_iconst hG X0 hx (hb hby d3_0) (pc' := 1) rfl (v := (1 : Int32)) rfl ?_
  show G (s₁.setTop (mkF m 1 #[.val (.int ch)] [(.int 1)]))
  refine g_newP hG X0 hx hZ (wd hw 16 rfl) e0 (hb hby d3_1) (by decide) 1 (by decide) (by decide) (by decide) (by decide) (pc' := 3) rfl ?_
  intro T1 h1 b kA1 gs1 X1 e1 E1 A1
  have ge_b : n0 ≤ b := gs1 ▸ Zs
  have sz_b : h0.size ≤ b := gs1 ▸ K0.1
  have Zs := Nat.le_trans Zs E1.1
  have K1 := K0.ext E1
  have V_b : AV Z h1 b .byte (1 : Int32) [(.int 0)] := AV.new A1
  show G (T1.setTop (mkF m 3 #[.val (.int ch)] [(.ref b)]))
  refine g_dup hG X1 hx (hb hby d3_3) (pc' := 4) rfl rfl ?_
  show G (T1.setTop (mkF m 4 #[.val (.int ch)] [(.ref b), (.ref b)]))
  refine g_iconst hG X1 hx (hb hby d3_4) (pc' := 5) rfl (v := (0 : Int32)) rfl ?_
  show G (T1.setTop (mkF m 5 #[.val (.int ch)] [(.int 0), (.ref b), (.ref b)]))
  refine g_iloadN hG X1 hx (hb hby d3_5) (pc' := 6) rfl rfl ?_
  show G (T1.setTop (mkF m 6 #[.val (.int ch)] [(.int ch), (.int 0), (.ref b), (.ref b)]))
  obtain ⟨v6, q6⟩ : ∃ zz : Int32, ch.toInt8.toInt32 = zz := ⟨_, rfl⟩
  refine g_i2b hG X1 hx (hb hby d3_6) (pc' := 7) rfl q6 ?_
  show G (T1.setTop (mkF m 7 #[.val (.int ch)] [(.int v6), (.int 0), (.ref b), (.ref b)]))
  refine g_bbastore hG X1 hx hZ e1 V_b (j := (0 : Int32)) (by decide) (show Int32.toNatClampNeg (0 : Int32) < 1 by decide) (hb hby d3_7) (pc' := 8) rfl ?_
  intro T2 h2 X2 e2 W2 Vn2
  have V_b : AV Z h2 b .byte (1 : Int32) [(.int v6.toInt8.toInt32)] := Vn2
  have Zs := Nat.le_trans Zs (Wr.size W2)
  have NF2 := Fr.snoc X2 NF0 ge_b
  have K2 := K1.wr W2 (Or.inr sz_b)
  show G (T2.setTop (mkF m 8 #[.val (.int ch)] [(.ref b)]))
  exact e_retA hGe X2 hx hrt rfl hlk (hb hby d3_8) e2 (by decide) (by decide) (⟨b, rfl, NF2, K2, sz_b⟩)

def Q_rmStr (Z : State) (a bt : Addr) (h0 : Heap) (n0 : Nat) (v : Option Value) (h : Heap) (L : List Loc) : Prop := v = none ∧ Fr n0 L ∧ Keep h0 h [a]
set_option maxRecDepth 65536 in
set_option maxHeartbeats 40000000 in
theorem rmStr (l : Launch) (Z : State) (a0 : Array Value) (hw : ∀ d ∈ tables_1, d.before a0 Z = true) (ws : List Jvm.Cond) (a bt : Addr) (h0 : Heap) (n0 : Nat) (Zs : n0 ≤ h0.size) (ga : n0 ≤ a) (Ex_a : Exa Z h0 a "java/lang/String") (F_value_a : Fld Z h0 a "java/lang/String" "value" "[B" .null) (F_coder_a : Fld Z h0 a "java/lang/String" "coder" "B" (.int (0 : Int32))) :
    Con l (⟨"java/lang/String", "<init>", "([BB)V"⟩ : MethodName) jdk_42_method_151_code 3 none ws ({ frames := 1, cells := 0, slots := 0, locals := 16 } : Room) Z #[(.ref a), (.ref bt), (.int 0)] h0 ({ frames := 1, cells := 0, slots := 0, locals := 16 } : Room).cells ({ frames := 1, cells := 0, slots := 0, locals := 16 } : Room).slots (Q_rmStr Z a bt h0 n0) := by
  refine Con.of (Ls := #[.val (.ref a), .val (.ref bt), .val (.int 0)]) (plainFor_of_name (by first | (simp [plainName, overriddenIn]; done) | decide +kernel)) (fun m => by first | (simp [entryFrame, mkF, argsToLocals, Value.category]; done) | rfl) ?_
  intro p e s m below meth c s₁ G hGe hG hx hby hml hown hnm hrt hlk hZ X0 e0
  have hown : s.vm.findClass "java/lang/String" = some m.cls := hown
  have hnm : meth.name = "<init>" := hnm
  have NF0 := Fr.nil n0
  have K0 := Keep.refl h0 [a]
  refine g_aloadN hG X0 hx (hb hby d4_0) (pc' := 1) rfl rfl rfl ?_
  show G (s₁.setTop (mkF m 1 #[.val (.ref a), .val (.ref bt), .val (.int 0)] [(.ref a)]))
  refine g_initO hG X0 hx hZ hown (wd hw 21 rfl) (wd hw 22 rfl) (wd hw 23 rfl) e0 (by rw [hml]; rfl) (hb hby d4_1) (by decide) (by decide) (pc' := 4) rfl ?_
  intro T1 X1 e1
  show G (T1.setTop (mkF m 4 #[.val (.ref a), .val (.ref bt), .val (.int 0)] []))
  refine g_aloadN hG X1 hx (hb hby d4_4) (pc' := 5) rfl rfl rfl ?_
  show G (T1.setTop (mkF m 5 #[.val (.ref a), .val (.ref bt), .val (.int 0)] [(.ref a)]))
  refine g_aloadN hG X1 hx (hb hby d4_5) (pc' := 6) rfl rfl rfl ?_
  show G (T1.setTop (mkF m 6 #[.val (.ref a), .val (.ref bt), .val (.int 0)] [(.ref bt), (.ref a)]))
  refine g_putF hG X1 hx hZ hown (wd hw 24 rfl) Via.refl e1 F_value_a Ex_a (Or.inr ⟨(wd hw 25 rfl), rfl, hnm⟩) (wd hw 12 rfl) (v' := (.ref bt)) (ty := (.array .byte)) (by decide) rfl rfl (hb hby d4_6) (pc' := 9) rfl ?_
  intro T2 h2 X2 e2 W2
  have Ex_a := Ex_a.wr W2
  have F_value_a := F_value_a.same W2
  have F_coder_a := F_coder_a.other W2 (Or.inr (slot_ne (Or.inr (wd hw 27 rfl)) (Or.inr (wd hw 25 rfl)) (by decide) (t := .byte) (t' := (.array .byte)) (by decide) (by decide)))
  have Zs := Nat.le_trans Zs (Wr.size W2)
  have NF2 := Fr.snoc X2 NF0 ga
  have K2 := K0.wr W2 (Or.inl (List.mem_of_getElem? (i := 0) rfl))
  show G (T2.setTop (mkF m 9 #[.val (.ref a), .val (.ref bt), .val (.int 0)] []))
  refine g_aloadN hG X2 hx (hb hby d4_9) (pc' := 10) rfl rfl rfl ?_
  show G (T2.setTop (mkF m 10 #[.val (.ref a), .val (.ref bt), .val (.int 0)] [(.ref a)]))
  refine g_iloadN hG X2 hx (hb hby d4_10) (pc' := 11) rfl rfl ?_
  show G (T2.setTop (mkF m 11 #[.val (.ref a), .val (.ref bt), .val (.int 0)] [(.int 0), (.ref a)]))
  refine g_putF hG X2 hx hZ hown (wd hw 26 rfl) Via.refl e2 F_coder_a Ex_a (Or.inr ⟨(wd hw 27 rfl), rfl, hnm⟩) (wd hw 12 rfl) (v' := (.int 0)) (ty := .byte) (by decide) rfl rfl (hb hby d4_11) (pc' := 14) rfl ?_
  intro T3 h3 X3 e3 W3
  have Ex_a := Ex_a.wr W3
  have F_value_a := F_value_a.other W3 (Or.inr (slot_ne (Or.inr (wd hw 25 rfl)) (Or.inr (wd hw 27 rfl)) (by decide) (t := (.array .byte)) (t' := .byte) (by decide) (by decide)))
  have F_coder_a := F_coder_a.same W3
  have Zs := Nat.le_trans Zs (Wr.size W3)
  have NF3 := Fr.snoc X3 NF2 ga
  have K3 := K2.wr W3 (Or.inl (List.mem_of_getElem? (i := 0) rfl))
  show G (T3.setTop (mkF m 14 #[.val (.ref a), .val (.ref bt), .val (.int 0)] []))
  exact e_ret0 hGe X3 hx hrt hlk (hb hby d4_14) e3 (by decide) (by decide) (⟨rfl, NF3, K3⟩)

def Q_rmVal (Z : State) (ch cs : Int32) (h0 : Heap) (n0 : Nat) (v : Option Value) (h : Heap) (L : List Loc) : Prop := ∃ b : Addr, v = some (.ref b) ∧ Fr n0 L ∧ Keep h0 h [] ∧ h0.size ≤ b
set_option maxRecDepth 65536 in
set_option maxHeartbeats 40000000 in
theorem rmVal (l : Launch) (Z : State) (a0 : Array Value) (hw : ∀ d ∈ tables_1, d.before a0 Z = true) (ws : List Jvm.Cond) (ch cs : Int32) (h0 : Heap) (n0 : Nat) (Zs : n0 ≤ h0.size) (hc : ¬ (255 : Int32) < ch) (hcs : ¬ cs = 0) (Sc : Sta Z h0 "java/lang/String" "COMPACT_STRINGS" "Z" (.int cs)) :
    Con l (⟨"java/lang/String", "valueOf", "(C)Ljava/lang/String;"⟩ : MethodName) jdk_42_method_139_code 1 (some (.object "java/lang/String")) ws ({ frames := 2, cells := 2, slots := 5, locals := 64 } : Room) Z #[(.int ch)] h0 ({ frames := 2, cells := 2, slots := 5, locals := 64 } : Room).cells ({ frames := 2, cells := 2, slots := 5, locals := 64 } : Room).slots (Q_rmVal Z ch cs h0 n0) := by
  refine Con.of (Ls := #[.val (.int ch)]) (plainFor_of_name (by first | (simp [plainName, overriddenIn]; done) | decide +kernel)) (fun m => by first | (simp [entryFrame, mkF, argsToLocals, Value.category]; done) | rfl) ?_
  intro p e s m below meth c s₁ G hGe hG hx hby hml hown hnm hrt hlk hZ X0 e0
  have hown : s.vm.findClass "java/lang/String" = some m.cls := hown
  have hnm : meth.name = "valueOf" := hnm
  have NF0 := Fr.nil n0
  have K0 := Keep.refl h0 ([] : List Addr)
  refine g_getS hG X0 hx hZ hown (wd hw 6 rfl) Via.refl e0 Sc (hb hby d1_0) (pc' := 3) rfl ?_
  intro T1 X1 e1
  show G (T1.setTop (mkF m 3 #[.val (.int ch)] [(.int cs)]))
  refine g_ifNo hG X1 hx (hb hby d1_3) (pc' := 6) ((if0 _ _).trans (feq hcs).1) rfl ?_
  show G (T1.setTop (mkF m 6 #[.val (.int ch)] []))
  refine g_iloadN hG X1 hx (hb hby d1_6) (pc' := 7) rfl rfl ?_
  show G (T1.setTop (mkF m 7 #[.val (.int ch)] [(.int ch)]))
  refine g_callS hG X1 hx hZ (y := (⟨"java/lang/StringLatin1", "canEncode", "(C)Z"⟩ : MethodName)) 0 hown (wd hw 7 rfl) (wd hw 8 rfl) (wd hw 9 rfl) (wd hw 10 rfl) (by decide) (rmCan l Z a0 hw [] ch h0 n0 Zs hc) (by decide) (by decide) (by rw [hml]; rfl) pd_0 rfl (argsL := [(.int ch)]) (rest := []) rfl rfl (Nat.le_of_eq rfl) (hb hby d1_7) e1 (by decide) (by decide) (pc' := 10) rfl ?_
  intro T2 rv2 L2 X2 hQ2
  obtain ⟨rfl, Nq2, eh2⟩ := hQ2
  have NF2 := Fr.app NF0 Nq2
  show G (T2.setTop (mkF m 10 #[.val (.int ch)] [(.int 1)]))
  refine g_ifNo hG X2 hx (hb hby d1_10) (pc' := 13) rfl rfl ?_
  show G (T2.setTop (mkF m 13 #[.val (.int ch)] []))
  refine g_newO hG X2 hx hZ hown (wd hw 11 rfl) (wd hw 12 rfl) (wd hw 4 rfl) eh2 (hb hby d1_13) (by decide) (by decide) (pc' := 16) rfl ?_
  intro T3 h3 sg gs3 X3 e3 E3 Aq3 Dq3
  have ge_sg : n0 ≤ sg := gs3 ▸ Zs
  have sz_sg : h0.size ≤ sg := gs3 ▸ K0.1
  have Zs := Nat.le_trans Zs E3.1
  have K3 := K0.ext E3
  have Ex_sg := Aq3
  have F_value_sg : Fld Z h3 sg "java/lang/String" "value" "[B" .null := Dq3 (Or.inr (wd hw 25 rfl)) (ty := (.array .byte)) (by decide)
  have F_coder_sg : Fld Z h3 sg "java/lang/String" "coder" "B" (.int 0) := Dq3 (Or.inr (wd hw 27 rfl)) (ty := .byte) (by decide)
  show G (T3.setTop (mkF m 16 #[.val (.int ch)] [(.ref sg)]))
  refine g_dup hG X3 hx (hb hby d1_16) (pc' := 17) rfl rfl ?_
  show G (T3.setTop (mkF m 17 #[.val (.int ch)] [(.ref sg), (.ref sg)]))
  refine g_iloadN hG X3 hx (hb hby d1_17) (pc' := 18) rfl rfl ?_
  show G (T3.setTop (mkF m 18 #[.val (.int ch)] [(.int ch), (.ref sg), (.ref sg)]))
  refine g_callS hG X3 hx hZ (y := (⟨"java/lang/StringLatin1", "toBytes", "(C)[B"⟩ : MethodName)) 2 hown (wd hw 13 rfl) (wd hw 14 rfl) (wd hw 9 rfl) (wd hw 15 rfl) (by decide) (rmToB l Z a0 hw [] ch h3 n0 Zs) (by decide) (by decide) (by rw [hml]; rfl) pd_1 rfl (argsL := [(.int ch)]) (rest := [(.ref sg), (.ref sg)]) rfl rfl (Nat.le_of_eq rfl) (hb hby d1_18) e3 (by decide) (by decide) (pc' := 21) rfl ?_
  intro T4 rv4 L4 X4 hQ4
  obtain ⟨bt, rfl, Nq4, Kq4, szq4⟩ := hQ4
  have NF4 := Fr.app NF2 Nq4
  have ne_sg_bt : sg ≠ bt := Nat.ne_of_lt (Nat.lt_of_lt_of_le Ex_sg.lt szq4)
  have ge_bt : n0 ≤ bt := Nat.le_trans Zs szq4
  have sz_bt : h0.size ≤ bt := Nat.le_trans K3.1 szq4
  have Ex_sg := Ex_sg.keep Kq4
  have F_value_sg := F_value_sg.keep Kq4 nin0
  have F_coder_sg := F_coder_sg.keep Kq4 nin0
  have Zs := Nat.le_trans Zs Kq4.1
  have K4 := K3.trans Kq4 all0
  show G (T4.setTop (mkF m 21 #[.val (.int ch)] [(.ref bt), (.ref sg), (.ref sg)]))
  refine g_iconst hG X4 hx (hb hby d1_21) (pc' := 22) rfl (v := (0 : Int32)) rfl ?_
  show G (T4.setTop (mkF m 22 #[.val (.int ch)] [(.int 0), (.ref bt), (.ref sg), (.ref sg)]))
  refine g_callI hG X4 hx hZ (y := (⟨"java/lang/String", "<init>", "([BB)V"⟩ : MethodName)) 1 rfl hown (wd hw 17 rfl) (wd hw 18 rfl) (wd hw 4 rfl) (wd hw 20 rfl) (by decide) (rmStr l Z a0 hw [] sg bt T4.heap n0 Zs ge_sg Ex_sg F_value_sg F_coder_sg) (by decide) (by decide) (by rw [hml]; rfl) pd_2 rfl (argsL := [(.ref bt), (.int 0)]) (rest := [(.ref sg)]) rfl rfl (Nat.le_of_eq rfl) (hb hby d1_22) rfl (by decide) (by decide) (pc' := 25) rfl ?_
  intro T5 rv5 L5 X5 hQ5
  obtain ⟨rfl, Nq5, Kq5⟩ := hQ5
  have NF5 := Fr.app NF4 Nq5
  have Zs := Nat.le_trans Zs Kq5.1
  have K5 := K4.trans Kq5 (allS (Or.inr sz_sg) all0)
  show G (T5.setTop (mkF m 25 #[.val (.int ch)] [(.ref sg)]))
  exact e_retA hGe X5 hx hrt rfl hlk (hb hby d1_25) rfl (by decide) (by decide) (⟨sg, rfl, NF5, K5, sz_sg⟩)

def Q_rmTN (Z : State) (a tp tm : Addr) (kk rr : Int32) (h0 : Heap) (n0 : Nat) (v : Option Value) (h : Heap) (L : List Loc) : Prop := v = none ∧ Fr n0 L ∧ Keep h0 h [a] ∧ Exa Z h a "com/example/gauge_terms/gaugeterms/necessity/TermNecessity" ∧ Fld Z h a "com/example/gauge_terms/gaugeterms/necessity/TermNecessity" "topic" "Ljava/lang/String;" (.ref tp) ∧ Fld Z h a "com/example/gauge_terms/gaugeterms/necessity/TermNecessity" "term" "Ljava/lang/String;" (.ref tm) ∧ Fld Z h a "com/example/gauge_terms/gaugeterms/necessity/TermNecessity" "relevantWithTerm" "I" (.int kk) ∧ Fld Z h a "com/example/gauge_terms/gaugeterms/necessity/TermNecessity" "relevant" "I" (.int rr)
set_option maxRecDepth 65536 in
set_option maxHeartbeats 40000000 in
theorem rmTN (l : Launch) (Z : State) (a0 : Array Value) (hw : ∀ d ∈ tables_1, d.before a0 Z = true) (ws : List Jvm.Cond) (a tp tm : Addr) (kk rr : Int32) (h0 : Heap) (n0 : Nat) (Zs : n0 ≤ h0.size) (ga : n0 ≤ a) (Ex_a : Exa Z h0 a "com/example/gauge_terms/gaugeterms/necessity/TermNecessity") (F_topic_a : Fld Z h0 a "com/example/gauge_terms/gaugeterms/necessity/TermNecessity" "topic" "Ljava/lang/String;" .null) (F_term_a : Fld Z h0 a "com/example/gauge_terms/gaugeterms/necessity/TermNecessity" "term" "Ljava/lang/String;" .null) (F_relevantWithTerm_a : Fld Z h0 a "com/example/gauge_terms/gaugeterms/necessity/TermNecessity" "relevantWithTerm" "I" (.int (0 : Int32))) (F_relevant_a : Fld Z h0 a "com/example/gauge_terms/gaugeterms/necessity/TermNecessity" "relevant" "I" (.int (0 : Int32))) :
    Con l (⟨"com/example/gauge_terms/gaugeterms/necessity/TermNecessity", "<init>", "(Ljava/lang/String;Ljava/lang/String;II)V"⟩ : MethodName) prog_24_method_1_code 5 none ws ({ frames := 2, cells := 0, slots := 0, locals := 40 } : Room) Z #[(.ref a), (.ref tp), (.ref tm), (.int kk), (.int rr)] h0 ({ frames := 2, cells := 0, slots := 0, locals := 40 } : Room).cells ({ frames := 2, cells := 0, slots := 0, locals := 40 } : Room).slots (Q_rmTN Z a tp tm kk rr h0 n0) := by
  refine Con.of (Ls := #[.val (.ref a), .val (.ref tp), .val (.ref tm), .val (.int kk), .val (.int rr)]) (plainFor_of_name (by first | (simp [plainName, overriddenIn]; done) | decide +kernel)) (fun m => by first | (simp [entryFrame, mkF, argsToLocals, Value.category]; done) | rfl) ?_
  intro p e s m below meth c s₁ G hGe hG hx hby hml hown hnm hrt hlk hZ X0 e0
  have hown : s.vm.findClass "com/example/gauge_terms/gaugeterms/necessity/TermNecessity" = some m.cls := hown
  have hnm : meth.name = "<init>" := hnm
  have NF0 := Fr.nil n0
  have K0 := Keep.refl h0 [a]
  refine g_aloadN hG X0 hx (hb hby d6_0) (pc' := 1) rfl rfl rfl ?_
  show G (s₁.setTop (mkF m 1 #[.val (.ref a), .val (.ref tp), .val (.ref tm), .val (.int kk), .val (.int rr)] [(.ref a)]))
  refine g_callI hG X0 hx hZ (y := (⟨"java/lang/Record", "<init>", "()V"⟩ : MethodName)) 0 rfl hown (wd hw 34 rfl) (wd hw 35 rfl) (wd hw 37 rfl) (wd hw 38 rfl) (by decide) (rmRec l Z a0 hw [] a h0 n0 Zs) (by decide) (by decide) (by rw [hml]; rfl) pd_3 rfl (argsL := []) (rest := []) rfl rfl (Nat.le_of_eq rfl) (hb hby d6_1) e0 (by decide) (by decide) (pc' := 4) rfl ?_
  intro T1 rv1 L1 X1 hQ1
  obtain ⟨rfl, Nq1, eh1⟩ := hQ1
  have NF1 := Fr.app NF0 Nq1
  show G (T1.setTop (mkF m 4 #[.val (.ref a), .val (.ref tp), .val (.ref tm), .val (.int kk), .val (.int rr)] []))
  refine g_aloadN hG X1 hx (hb hby d6_4) (pc' := 5) rfl rfl rfl ?_
  show G (T1.setTop (mkF m 5 #[.val (.ref a), .val (.ref tp), .val (.ref tm), .val (.int kk), .val (.int rr)] [(.ref a)]))
  refine g_aloadN hG X1 hx (hb hby d6_5) (pc' := 6) rfl rfl rfl ?_
  show G (T1.setTop (mkF m 6 #[.val (.ref a), .val (.ref tp), .val (.ref tm), .val (.int kk), .val (.int rr)] [(.ref tp), (.ref a)]))
  refine g_putF hG X1 hx hZ hown (wd hw 40 rfl) Via.refl eh1 F_topic_a Ex_a (Or.inr ⟨(wd hw 41 rfl), rfl, hnm⟩) (wd hw 29 rfl) (v' := (.ref tp)) (ty := (.object "java/lang/String")) (by decide) rfl rfl (hb hby d6_6) (pc' := 9) rfl ?_
  intro T2 h2 X2 e2 W2
  have Ex_a := Ex_a.wr W2
  have F_topic_a := F_topic_a.same W2
  have F_term_a := F_term_a.other W2 (Or.inr (slot_ne (Or.inr (wd hw 43 rfl)) (Or.inr (wd hw 41 rfl)) (by decide) (t := (.object "java/lang/String")) (t' := (.object "java/lang/String")) (by decide) (by decide)))
  have F_relevantWithTerm_a := F_relevantWithTerm_a.other W2 (Or.inr (slot_ne (Or.inr (wd hw 45 rfl)) (Or.inr (wd hw 41 rfl)) (by decide) (t := .int) (t' := (.object "java/lang/String")) (by decide) (by decide)))
  have F_relevant_a := F_relevant_a.other W2 (Or.inr (slot_ne (Or.inr (wd hw 47 rfl)) (Or.inr (wd hw 41 rfl)) (by decide) (t := .int) (t' := (.object "java/lang/String")) (by decide) (by decide)))
  have Zs := Nat.le_trans Zs (Wr.size W2)
  have NF2 := Fr.snoc X2 NF1 ga
  have K2 := K0.wr W2 (Or.inl (List.mem_of_getElem? (i := 0) rfl))
  show G (T2.setTop (mkF m 9 #[.val (.ref a), .val (.ref tp), .val (.ref tm), .val (.int kk), .val (.int rr)] []))
  refine g_aloadN hG X2 hx (hb hby d6_9) (pc' := 10) rfl rfl rfl ?_
  show G (T2.setTop (mkF m 10 #[.val (.ref a), .val (.ref tp), .val (.ref tm), .val (.int kk), .val (.int rr)] [(.ref a)]))
  refine g_aloadN hG X2 hx (hb hby d6_10) (pc' := 11) rfl rfl rfl ?_
  show G (T2.setTop (mkF m 11 #[.val (.ref a), .val (.ref tp), .val (.ref tm), .val (.int kk), .val (.int rr)] [(.ref tm), (.ref a)]))
  refine g_putF hG X2 hx hZ hown (wd hw 42 rfl) Via.refl e2 F_term_a Ex_a (Or.inr ⟨(wd hw 43 rfl), rfl, hnm⟩) (wd hw 29 rfl) (v' := (.ref tm)) (ty := (.object "java/lang/String")) (by decide) rfl rfl (hb hby d6_11) (pc' := 14) rfl ?_
  intro T3 h3 X3 e3 W3
  have Ex_a := Ex_a.wr W3
  have F_topic_a := F_topic_a.other W3 (Or.inr (slot_ne (Or.inr (wd hw 41 rfl)) (Or.inr (wd hw 43 rfl)) (by decide) (t := (.object "java/lang/String")) (t' := (.object "java/lang/String")) (by decide) (by decide)))
  have F_term_a := F_term_a.same W3
  have F_relevantWithTerm_a := F_relevantWithTerm_a.other W3 (Or.inr (slot_ne (Or.inr (wd hw 45 rfl)) (Or.inr (wd hw 43 rfl)) (by decide) (t := .int) (t' := (.object "java/lang/String")) (by decide) (by decide)))
  have F_relevant_a := F_relevant_a.other W3 (Or.inr (slot_ne (Or.inr (wd hw 47 rfl)) (Or.inr (wd hw 43 rfl)) (by decide) (t := .int) (t' := (.object "java/lang/String")) (by decide) (by decide)))
  have Zs := Nat.le_trans Zs (Wr.size W3)
  have NF3 := Fr.snoc X3 NF2 ga
  have K3 := K2.wr W3 (Or.inl (List.mem_of_getElem? (i := 0) rfl))
  show G (T3.setTop (mkF m 14 #[.val (.ref a), .val (.ref tp), .val (.ref tm), .val (.int kk), .val (.int rr)] []))
  refine g_aloadN hG X3 hx (hb hby d6_14) (pc' := 15) rfl rfl rfl ?_
  show G (T3.setTop (mkF m 15 #[.val (.ref a), .val (.ref tp), .val (.ref tm), .val (.int kk), .val (.int rr)] [(.ref a)]))
  refine g_iloadN hG X3 hx (hb hby d6_15) (pc' := 16) rfl rfl ?_
  show G (T3.setTop (mkF m 16 #[.val (.ref a), .val (.ref tp), .val (.ref tm), .val (.int kk), .val (.int rr)] [(.int kk), (.ref a)]))
  refine g_putF hG X3 hx hZ hown (wd hw 44 rfl) Via.refl e3 F_relevantWithTerm_a Ex_a (Or.inr ⟨(wd hw 45 rfl), rfl, hnm⟩) (wd hw 29 rfl) (v' := (.int kk)) (ty := .int) (by decide) rfl rfl (hb hby d6_16) (pc' := 19) rfl ?_
  intro T4 h4 X4 e4 W4
  have Ex_a := Ex_a.wr W4
  have F_topic_a := F_topic_a.other W4 (Or.inr (slot_ne (Or.inr (wd hw 41 rfl)) (Or.inr (wd hw 45 rfl)) (by decide) (t := (.object "java/lang/String")) (t' := .int) (by decide) (by decide)))
  have F_term_a := F_term_a.other W4 (Or.inr (slot_ne (Or.inr (wd hw 43 rfl)) (Or.inr (wd hw 45 rfl)) (by decide) (t := (.object "java/lang/String")) (t' := .int) (by decide) (by decide)))
  have F_relevantWithTerm_a := F_relevantWithTerm_a.same W4
  have F_relevant_a := F_relevant_a.other W4 (Or.inr (slot_ne (Or.inr (wd hw 47 rfl)) (Or.inr (wd hw 45 rfl)) (by decide) (t := .int) (t' := .int) (by decide) (by decide)))
  have Zs := Nat.le_trans Zs (Wr.size W4)
  have NF4 := Fr.snoc X4 NF3 ga
  have K4 := K3.wr W4 (Or.inl (List.mem_of_getElem? (i := 0) rfl))
  show G (T4.setTop (mkF m 19 #[.val (.ref a), .val (.ref tp), .val (.ref tm), .val (.int kk), .val (.int rr)] []))
  refine g_aloadN hG X4 hx (hb hby d6_19) (pc' := 20) rfl rfl rfl ?_
  show G (T4.setTop (mkF m 20 #[.val (.ref a), .val (.ref tp), .val (.ref tm), .val (.int kk), .val (.int rr)] [(.ref a)]))
  refine g_iload hG X4 hx (hb hby d6_20) (pc' := 22) rfl rfl ?_
  show G (T4.setTop (mkF m 22 #[.val (.ref a), .val (.ref tp), .val (.ref tm), .val (.int kk), .val (.int rr)] [(.int rr), (.ref a)]))
  refine g_putF hG X4 hx hZ hown (wd hw 46 rfl) Via.refl e4 F_relevant_a Ex_a (Or.inr ⟨(wd hw 47 rfl), rfl, hnm⟩) (wd hw 29 rfl) (v' := (.int rr)) (ty := .int) (by decide) rfl rfl (hb hby d6_22) (pc' := 25) rfl ?_
  intro T5 h5 X5 e5 W5
  have Ex_a := Ex_a.wr W5
  have F_topic_a := F_topic_a.other W5 (Or.inr (slot_ne (Or.inr (wd hw 41 rfl)) (Or.inr (wd hw 47 rfl)) (by decide) (t := (.object "java/lang/String")) (t' := .int) (by decide) (by decide)))
  have F_term_a := F_term_a.other W5 (Or.inr (slot_ne (Or.inr (wd hw 43 rfl)) (Or.inr (wd hw 47 rfl)) (by decide) (t := (.object "java/lang/String")) (t' := .int) (by decide) (by decide)))
  have F_relevantWithTerm_a := F_relevantWithTerm_a.other W5 (Or.inr (slot_ne (Or.inr (wd hw 45 rfl)) (Or.inr (wd hw 47 rfl)) (by decide) (t := .int) (t' := .int) (by decide) (by decide)))
  have F_relevant_a := F_relevant_a.same W5
  have Zs := Nat.le_trans Zs (Wr.size W5)
  have NF5 := Fr.snoc X5 NF4 ga
  have K5 := K4.wr W5 (Or.inl (List.mem_of_getElem? (i := 0) rfl))
  show G (T5.setTop (mkF m 25 #[.val (.ref a), .val (.ref tp), .val (.ref tm), .val (.int kk), .val (.int rr)] []))
  exact e_ret0 hGe X5 hx hrt hlk (hb hby d6_25) e5 (by decide) (by decide) (⟨rfl, NF5, K5, Ex_a, F_topic_a, F_term_a, F_relevantWithTerm_a, F_relevant_a⟩)

def Q_rmNec (Z : State) (a : Addr) (kk rr : Int32) (ev : UInt64) (h0 : Heap) (n0 : Nat) (v : Option Value) (h : Heap) (L : List Loc) : Prop := v = some (.double ev) ∧ Fr n0 L ∧ h = h0
set_option maxRecDepth 65536 in
set_option maxHeartbeats 40000000 in
theorem rmNec (l : Launch) (Z : State) (a0 : Array Value) (hw : ∀ d ∈ tables_1, d.before a0 Z = true) (ws : List Jvm.Cond) (a : Addr) (kk rr : Int32) (ev : UInt64) (h0 : Heap) (n0 : Nat) (Zs : n0 ≤ h0.size) (he : FP.ddiv (FP.dadd (FP.i2d kk) (4607182418800017408 : UInt64)) (FP.dadd (FP.i2d rr) (4611686018427387904 : UInt64)) = ev) (n1 : Jvm.Free.Fl.NoNaN64 (FP.dadd (FP.i2d kk) (4607182418800017408 : UInt64))) (n2 : Jvm.Free.Fl.NoNaN64 (FP.dadd (FP.i2d rr) (4611686018427387904 : UInt64))) (n3 : Jvm.Free.Fl.NoNaN64 ev) (Ex_a : Exa Z h0 a "com/example/gauge_terms/gaugeterms/necessity/TermNecessity") (F_relevantWithTerm_a : Fld Z h0 a "com/example/gauge_terms/gaugeterms/necessity/TermNecessity" "relevantWithTerm" "I" (.int kk)) (F_relevant_a : Fld Z h0 a "com/example/gauge_terms/gaugeterms/necessity/TermNecessity" "relevant" "I" (.int rr)) :
    Con l (⟨"com/example/gauge_terms/gaugeterms/necessity/TermNecessity", "necessity", "()D"⟩ : MethodName) prog_24_method_2_code 1 (some .double) ws ({ frames := 0, cells := 0, slots := 0, locals := 0 } : Room) Z #[(.ref a)] h0 ({ frames := 0, cells := 0, slots := 0, locals := 0 } : Room).cells ({ frames := 0, cells := 0, slots := 0, locals := 0 } : Room).slots (Q_rmNec Z a kk rr ev h0 n0) := by
  refine Con.of (Ls := #[.val (.ref a)]) (plainFor_of_name (by first | (simp [plainName, overriddenIn]; done) | decide +kernel)) (fun m => by first | (simp [entryFrame, mkF, argsToLocals, Value.category]; done) | rfl) ?_
  intro p e s m below meth c s₁ G hGe hG hx hby hml hown hnm hrt hlk hZ X0 e0
  have hown : s.vm.findClass "com/example/gauge_terms/gaugeterms/necessity/TermNecessity" = some m.cls := hown
  have hnm : meth.name = "necessity" := hnm
  have NF0 := Fr.nil n0
  refine g_aloadN hG X0 hx (hb hby d8_0) (pc' := 1) rfl rfl rfl ?_
  show G (s₁.setTop (mkF m 1 #[.val (.ref a)] [(.ref a)]))
  refine g_getF hG X0 hx hZ hown (wd hw 44 rfl) Via.refl e0 F_relevantWithTerm_a (hb hby d8_1) (pc' := 4) rfl ?_
  intro T1 X1 e1
  show G (T1.setTop (mkF m 4 #[.val (.ref a)] [(.int kk)]))
  obtain ⟨v4, q4⟩ : ∃ zz : UInt64, FP.i2d kk = zz := ⟨_, rfl⟩
  refine g_i2d hG X1 hx (hb hby d8_4) (pc' := 5) rfl q4 ?_
  show G (T1.setTop (mkF m 5 #[.val (.ref a)] [(.double v4)]))
  refine g_dconst1 hG X1 hx (hb hby d8_5) (pc' := 6) rfl (v := (4607182418800017408 : UInt64)) rfl ?_
  show G (T1.setTop (mkF m 6 #[.val (.ref a)] [(.double 4607182418800017408), (.double v4)]))
  obtain ⟨v6, q6⟩ : ∃ zz : UInt64, FP.dadd v4 (4607182418800017408 : UInt64) = zz := ⟨_, rfl⟩
  refine g_dadd hG X1 hx (hb hby d8_6) (pc' := 7) rfl (by rw [← q4]; exact n1) q6 ?_
  show G (T1.setTop (mkF m 7 #[.val (.ref a)] [(.double v6)]))
  refine g_aloadN hG X1 hx (hb hby d8_7) (pc' := 8) rfl rfl rfl ?_
  show G (T1.setTop (mkF m 8 #[.val (.ref a)] [(.ref a), (.double v6)]))
  refine g_getF hG X1 hx hZ hown (wd hw 46 rfl) Via.refl e1 F_relevant_a (hb hby d8_8) (pc' := 11) rfl ?_
  intro T2 X2 e2
  show G (T2.setTop (mkF m 11 #[.val (.ref a)] [(.int rr), (.double v6)]))
  obtain ⟨v11, q11⟩ : ∃ zz : UInt64, FP.i2d rr = zz := ⟨_, rfl⟩
  refine g_i2d hG X2 hx (hb hby d8_11) (pc' := 12) rfl q11 ?_
  show G (T2.setTop (mkF m 12 #[.val (.ref a)] [(.double v11), (.double v6)]))
  refine g_ldcDouble hG X2 hx hZ hown (wd hw 53 rfl) (hb hby d8_12) (pc' := 15) rfl ?_
  show G (T2.setTop (mkF m 15 #[.val (.ref a)] [(.double 4611686018427387904), (.double v11), (.double v6)]))
  obtain ⟨v15, q15⟩ : ∃ zz : UInt64, FP.dadd v11 (4611686018427387904 : UInt64) = zz := ⟨_, rfl⟩
  refine g_dadd hG X2 hx (hb hby d8_15) (pc' := 16) rfl (by rw [← q11]; exact n2) q15 ?_
  show G (T2.setTop (mkF m 16 #[.val (.ref a)] [(.double v15), (.double v6)]))
  refine g_ddiv hG X2 hx (hb hby d8_16) (pc' := 17) rfl (by rw [← q6, ← q15, ← q4, ← q11, he]; exact n3) (v := ev) (by rw [← q6, ← q15, ← q4, ← q11]; exact he) ?_
  show G (T2.setTop (mkF m 17 #[.val (.ref a)] [(.double ev)]))
  exact e_retD hGe X2 hx hrt hlk (hb hby d8_17) e2 (by decide) (by decide) (⟨rfl, NF0, rfl⟩)

def Q_rm0 (Z : State) (rl wi cx : Int32) (h0 : Heap) (n0 : Nat) (v : Option Value) (h : Heap) (L : List Loc) : Prop := v = some (.int 1) ∧ Fr n0 L
set_option maxRecDepth 65536 in
set_option maxHeartbeats 40000000 in
theorem rm0 (l : Launch) (Z : State) (a0 : Array Value) (hw : ∀ d ∈ tables_1, d.before a0 Z = true) (ws : List Jvm.Cond) (rl wi cx : Int32) (h0 : Heap) (n0 : Nat) (Zs : n0 ≤ h0.size) (cs : Int32) (hcs : ¬ cs = 0) (Sc : Sta Z h0 "java/lang/String" "COMPACT_STRINGS" "Z" (.int cs)) :
    Con l x code maxLocals ret ws room_1 Z #[(.int rl), (.int wi), (.int cx)] h0 room_1.cells room_1.slots (Q_rm0 Z rl wi cx h0 n0) := by
  refine Con.of (Ls := #[.val (.int rl), .val (.int wi), .val (.int cx), .unset, .unset, .unset, .unset, .unset, .unset, .unset, .unset, .unset, .unset, .unset, .unset, .unset, .unset, .unset]) (plainFor_of_name (by first | (simp [plainName, overriddenIn]; done) | decide +kernel)) (fun m => by first | (simp [entryFrame, mkF, argsToLocals, Value.category, maxLocals]; done) | rfl) ?_
  intro p e s m below meth c s₁ G hGe hG hx hby hml hown hnm hrt hlk hZ X0 e0
  have hml : c.maxLocals = 18 := hml
  have hown : s.vm.findClass "com/example/gauge_terms/gaugeterms/necessity/TermNecessityNecessityPinLaw" = some m.cls := hown
  have hnm : meth.name = "law" := hnm
  have NF0 := Fr.nil n0
  refine g_iloadN hG X0 hx (hb hby at_0) (pc' := 1) rfl rfl ?_
  show G (s₁.setTop (mkF m 1 #[.val (.int rl), .val (.int wi), .val (.int cx), .unset, .unset, .unset, .unset, .unset, .unset, .unset, .unset, .unset, .unset, .unset, .unset, .unset, .unset, .unset] [(.int rl)]))
  refine g_ldcInt hG X0 hx hZ hown (wd hw 0 rfl) (hb hby at_1) (pc' := 3) rfl ?_
  show G (s₁.setTop (mkF m 3 #[.val (.int rl), .val (.int wi), .val (.int cx), .unset, .unset, .unset, .unset, .unset, .unset, .unset, .unset, .unset, .unset, .unset, .unset, .unset, .unset, .unset] [(.int 2147483647), (.int rl)]))
  obtain ⟨v3, q3⟩ : ∃ zz : Int32, rl &&& (2147483647 : Int32) = zz := ⟨_, rfl⟩
  refine g_iand hG X0 hx (hb hby at_3) (pc' := 4) rfl q3 ?_
  show G (s₁.setTop (mkF m 4 #[.val (.int rl), .val (.int wi), .val (.int cx), .unset, .unset, .unset, .unset, .unset, .unset, .unset, .unset, .unset, .unset, .unset, .unset, .unset, .unset, .unset] [(.int v3)]))
  have b3 : 0 ≤ v3.toInt ∧ v3.toInt ≤ 2147483647 := by
    have a := c_and rl 2147483647 (by decide)
    rw [q3] at a
    exact a
  refine g_istoreN hG X0 hx (hb hby at_4) (pc' := 5) rfl (Ls' := #[.val (.int rl), .val (.int wi), .val (.int cx), .val (.int v3), .unset, .unset, .unset, .unset, .unset, .unset, .unset, .unset, .unset, .unset, .unset, .unset, .unset, .unset]) rfl ?_
  show G (s₁.setTop (mkF m 5 #[.val (.int rl), .val (.int wi), .val (.int cx), .val (.int v3), .unset, .unset, .unset, .unset, .unset, .unset, .unset, .unset, .unset, .unset, .unset, .unset, .unset, .unset] []))
  refine g_iloadN hG X0 hx (hb hby at_5) (pc' := 6) rfl rfl ?_
  show G (s₁.setTop (mkF m 6 #[.val (.int rl), .val (.int wi), .val (.int cx), .val (.int v3), .unset, .unset, .unset, .unset, .unset, .unset, .unset, .unset, .unset, .unset, .unset, .unset, .unset, .unset] [(.int wi)]))
  obtain ⟨v6, q6⟩ : ∃ zz : Int64, wi.toInt64 = zz := ⟨_, rfl⟩
  refine g_i2l hG X0 hx (hb hby at_6) (pc' := 7) rfl q6 ?_
  show G (s₁.setTop (mkF m 7 #[.val (.int rl), .val (.int wi), .val (.int cx), .val (.int v3), .unset, .unset, .unset, .unset, .unset, .unset, .unset, .unset, .unset, .unset, .unset, .unset, .unset, .unset] [(.long v6)]))
  refine g_ldcLong hG X0 hx hZ hown (wd hw 1 rfl) (hb hby at_7) (pc' := 10) rfl ?_
  show G (s₁.setTop (mkF m 10 #[.val (.int rl), .val (.int wi), .val (.int cx), .val (.int v3), .unset, .unset, .unset, .unset, .unset, .unset, .unset, .unset, .unset, .unset, .unset, .unset, .unset, .unset] [(.long 2147483647), (.long v6)]))
  obtain ⟨v10, q10⟩ : ∃ zz : Int64, v6 &&& (2147483647 : Int64) = zz := ⟨_, rfl⟩
  refine g_land hG X0 hx (hb hby at_10) (pc' := 11) rfl q10 ?_
  show G (s₁.setTop (mkF m 11 #[.val (.int rl), .val (.int wi), .val (.int cx), .val (.int v3), .unset, .unset, .unset, .unset, .unset, .unset, .unset, .unset, .unset, .unset, .unset, .unset, .unset, .unset] [(.long v10)]))
  refine g_iloadN hG X0 hx (hb hby at_11) (pc' := 12) rfl rfl ?_
  show G (s₁.setTop (mkF m 12 #[.val (.int rl), .val (.int wi), .val (.int cx), .val (.int v3), .unset, .unset, .unset, .unset, .unset, .unset, .unset, .unset, .unset, .unset, .unset, .unset, .unset, .unset] [(.int v3), (.long v10)]))
  obtain ⟨v12, q12⟩ : ∃ zz : Int64, v3.toInt64 = zz := ⟨_, rfl⟩
  refine g_i2l hG X0 hx (hb hby at_12) (pc' := 13) rfl q12 ?_
  show G (s₁.setTop (mkF m 13 #[.val (.int rl), .val (.int wi), .val (.int cx), .val (.int v3), .unset, .unset, .unset, .unset, .unset, .unset, .unset, .unset, .unset, .unset, .unset, .unset, .unset, .unset] [(.long v12), (.long v10)]))
  refine g_lconst hG X0 hx (hb hby at_13) (pc' := 14) rfl (v := (1 : Int64)) rfl ?_
  show G (s₁.setTop (mkF m 14 #[.val (.int rl), .val (.int wi), .val (.int cx), .val (.int v3), .unset, .unset, .unset, .unset, .unset, .unset, .unset, .unset, .unset, .unset, .unset, .unset, .unset, .unset] [(.long 1), (.long v12), (.long v10)]))
  obtain ⟨v14, q14⟩ : ∃ zz : Int64, v12 + (1 : Int64) = zz := ⟨_, rfl⟩
  refine g_ladd hG X0 hx (hb hby at_14) (pc' := 15) rfl q14 ?_
  show G (s₁.setTop (mkF m 15 #[.val (.int rl), .val (.int wi), .val (.int cx), .val (.int v3), .unset, .unset, .unset, .unset, .unset, .unset, .unset, .unset, .unset, .unset, .unset, .unset, .unset, .unset] [(.long v14), (.long v10)]))
  have e14 : v14.toInt = v3.toInt + 1 := by
    have a := c_ladd v12 1
    have b := rng64 v14
    have c : v12.toInt = v3.toInt := by rw [← q12]; exact c_i2l v3
    have c1 : (1 : Int64).toInt = 1 := by decide
    rw [q14] at a
    omega
  have n14 : v14 ≠ 0 := fun g => by
    have c : (0 : Int64).toInt = 0 := by decide
    rw [g, c] at e14; omega
  have b10 : 0 ≤ v10.toInt := by rw [← q10, c_maskL v6 2147483647 31 (by decide) (by decide +kernel)]; omega
  obtain ⟨v15, q15⟩ : ∃ zz : Int64, v10 % v14 = zz := ⟨_, rfl⟩
  refine g_lrem hG X0 hx (hb hby at_15) (pc' := 16) rfl n14 q15 ?_
  show G (s₁.setTop (mkF m 16 #[.val (.int rl), .val (.int wi), .val (.int cx), .val (.int v3), .unset, .unset, .unset, .unset, .unset, .unset, .unset, .unset, .unset, .unset, .unset, .unset, .unset, .unset] [(.long v15)]))
  obtain ⟨v16, q16⟩ : ∃ zz : Int32, v15.toInt32 = zz := ⟨_, rfl⟩
  refine g_l2i hG X0 hx (hb hby at_16) (pc' := 17) rfl q16 ?_
  show G (s₁.setTop (mkF m 17 #[.val (.int rl), .val (.int wi), .val (.int cx), .val (.int v3), .unset, .unset, .unset, .unset, .unset, .unset, .unset, .unset, .unset, .unset, .unset, .unset, .unset, .unset] [(.int v16)]))
  have b15 : 0 ≤ v15.toInt ∧ v15.toInt ≤ v3.toInt := by
    rw [← q15, Int64.toInt_mod, Int.tmod_eq_emod_of_nonneg b10, e14]
    have a := Int.emod_nonneg v10.toInt (show v3.toInt + 1 ≠ 0 by omega)
    have b := Int.emod_lt_of_pos v10.toInt (show 0 < v3.toInt + 1 by omega)
    omega
  have b16 : 0 ≤ v16.toInt ∧ v16.toInt ≤ v3.toInt := by
    have a := c_l2i v15
    have b := rng32 v16
    rw [q16] at a
    omega
  refine g_istore hG X0 hx (hb hby at_17) (pc' := 19) rfl (Ls' := #[.val (.int rl), .val (.int wi), .val (.int cx), .val (.int v3), .val (.int v16), .unset, .unset, .unset, .unset, .unset, .unset, .unset, .unset, .unset, .unset, .unset, .unset, .unset]) rfl ?_
  show G (s₁.setTop (mkF m 19 #[.val (.int rl), .val (.int wi), .val (.int cx), .val (.int v3), .val (.int v16), .unset, .unset, .unset, .unset, .unset, .unset, .unset, .unset, .unset, .unset, .unset, .unset, .unset] []))
  refine g_iloadN hG X0 hx (hb hby at_19) (pc' := 20) rfl rfl ?_
  show G (s₁.setTop (mkF m 20 #[.val (.int rl), .val (.int wi), .val (.int cx), .val (.int v3), .val (.int v16), .unset, .unset, .unset, .unset, .unset, .unset, .unset, .unset, .unset, .unset, .unset, .unset, .unset] [(.int cx)]))
  refine g_sipush hG X0 hx (hb hby at_20) (pc' := 23) rfl (v := (255 : Int32)) rfl ?_
  show G (s₁.setTop (mkF m 23 #[.val (.int rl), .val (.int wi), .val (.int cx), .val (.int v3), .val (.int v16), .unset, .unset, .unset, .unset, .unset, .unset, .unset, .unset, .unset, .unset, .unset, .unset, .unset] [(.int 255), (.int cx)]))
  obtain ⟨v23, q23⟩ : ∃ zz : Int32, cx &&& (255 : Int32) = zz := ⟨_, rfl⟩
  refine g_iand hG X0 hx (hb hby at_23) (pc' := 24) rfl q23 ?_
  show G (s₁.setTop (mkF m 24 #[.val (.int rl), .val (.int wi), .val (.int cx), .val (.int v3), .val (.int v16), .unset, .unset, .unset, .unset, .unset, .unset, .unset, .unset, .unset, .unset, .unset, .unset, .unset] [(.int v23)]))
  obtain ⟨v24, q24⟩ : ∃ zz : Int32, v23.toUInt32.toUInt16.toUInt32.toInt32 = zz := ⟨_, rfl⟩
  refine g_i2c hG X0 hx (hb hby at_24) (pc' := 25) rfl q24 ?_
  show G (s₁.setTop (mkF m 25 #[.val (.int rl), .val (.int wi), .val (.int cx), .val (.int v3), .val (.int v16), .unset, .unset, .unset, .unset, .unset, .unset, .unset, .unset, .unset, .unset, .unset, .unset, .unset] [(.int v24)]))
  have c24 : ¬ (255 : Int32) < v24 := by
    have a := c_and cx 255 (by decide)
    rw [q23] at a
    have b : v24 = v23 := by rw [← q24, ← q23]; exact i2c_mask _
    have c : (255 : Int32).toInt = 255 := by decide
    rw [b, Int32.lt_iff_toInt_lt]
    omega
  refine g_callS hG X0 hx hZ (y := (⟨"java/lang/String", "valueOf", "(C)Ljava/lang/String;"⟩ : MethodName)) 0 hown (wd hw 2 rfl) (wd hw 3 rfl) (wd hw 4 rfl) (wd hw 5 rfl) (by decide) (rmVal l Z a0 hw [] v24 cs h0 n0 Zs c24 hcs Sc) (by decide) (by decide) (by rw [hml]; rfl) pd_4 rfl (argsL := [(.int v24)]) (rest := []) rfl rfl (Nat.le_of_eq rfl) (hb hby at_25) e0 (by decide) (by decide) (pc' := 28) rfl ?_
  intro T1 rv1 L1 X1 hQ1
  obtain ⟨tp, rfl, Nq1, Kq1, szq1⟩ := hQ1
  have NF1 := Fr.app NF0 Nq1
  have ge_tp : n0 ≤ tp := Nat.le_trans Zs szq1
  have Zs := Nat.le_trans Zs Kq1.1
  have Sc := Jvm.OwnKit.Sta.keep0 Sc Kq1
  show G (T1.setTop (mkF m 28 #[.val (.int rl), .val (.int wi), .val (.int cx), .val (.int v3), .val (.int v16), .unset, .unset, .unset, .unset, .unset, .unset, .unset, .unset, .unset, .unset, .unset, .unset, .unset] [(.ref tp)]))
  refine g_astore hG X1 hx (hb hby at_28) (pc' := 30) rfl rfl (Ls' := #[.val (.int rl), .val (.int wi), .val (.int cx), .val (.int v3), .val (.int v16), .val (.ref tp), .unset, .unset, .unset, .unset, .unset, .unset, .unset, .unset, .unset, .unset, .unset, .unset]) rfl ?_
  show G (T1.setTop (mkF m 30 #[.val (.int rl), .val (.int wi), .val (.int cx), .val (.int v3), .val (.int v16), .val (.ref tp), .unset, .unset, .unset, .unset, .unset, .unset, .unset, .unset, .unset, .unset, .unset, .unset] []))
  refine g_iloadN hG X1 hx (hb hby at_30) (pc' := 31) rfl rfl ?_
  show G (T1.setTop (mkF m 31 #[.val (.int rl), .val (.int wi), .val (.int cx), .val (.int v3), .val (.int v16), .val (.ref tp), .unset, .unset, .unset, .unset, .unset, .unset, .unset, .unset, .unset, .unset, .unset, .unset] [(.int cx)]))
  refine g_bipush hG X1 hx (hb hby at_31) (pc' := 33) rfl (v := (8 : Int32)) rfl ?_
  show G (T1.setTop (mkF m 33 #[.val (.int rl), .val (.int wi), .val (.int cx), .val (.int v3), .val (.int v16), .val (.ref tp), .unset, .unset, .unset, .unset, .unset, .unset, .unset, .unset, .unset, .unset, .unset, .unset] [(.int 8), (.int cx)]))
  obtain ⟨v33, q33⟩ : ∃ zz : Int32, (cx.toUInt32 >>> ((8 : Int32) &&& 31).toUInt32).toInt32 = zz := ⟨_, rfl⟩
  refine g_iushr hG X1 hx (hb hby at_33) (pc' := 34) rfl q33 ?_
  show G (T1.setTop (mkF m 34 #[.val (.int rl), .val (.int wi), .val (.int cx), .val (.int v3), .val (.int v16), .val (.ref tp), .unset, .unset, .unset, .unset, .unset, .unset, .unset, .unset, .unset, .unset, .unset, .unset] [(.int v33)]))
  refine g_sipush hG X1 hx (hb hby at_34) (pc' := 37) rfl (v := (255 : Int32)) rfl ?_
  show G (T1.setTop (mkF m 37 #[.val (.int rl), .val (.int wi), .val (.int cx), .val (.int v3), .val (.int v16), .val (.ref tp), .unset, .unset, .unset, .unset, .unset, .unset, .unset, .unset, .unset, .unset, .unset, .unset] [(.int 255), (.int v33)]))
  obtain ⟨v37, q37⟩ : ∃ zz : Int32, v33 &&& (255 : Int32) = zz := ⟨_, rfl⟩
  refine g_iand hG X1 hx (hb hby at_37) (pc' := 38) rfl q37 ?_
  show G (T1.setTop (mkF m 38 #[.val (.int rl), .val (.int wi), .val (.int cx), .val (.int v3), .val (.int v16), .val (.ref tp), .unset, .unset, .unset, .unset, .unset, .unset, .unset, .unset, .unset, .unset, .unset, .unset] [(.int v37)]))
  obtain ⟨v38, q38⟩ : ∃ zz : Int32, v37.toUInt32.toUInt16.toUInt32.toInt32 = zz := ⟨_, rfl⟩
  refine g_i2c hG X1 hx (hb hby at_38) (pc' := 39) rfl q38 ?_
  show G (T1.setTop (mkF m 39 #[.val (.int rl), .val (.int wi), .val (.int cx), .val (.int v3), .val (.int v16), .val (.ref tp), .unset, .unset, .unset, .unset, .unset, .unset, .unset, .unset, .unset, .unset, .unset, .unset] [(.int v38)]))
  have c38 : ¬ (255 : Int32) < v38 := by
    have a := c_and v33 255 (by decide)
    rw [q37] at a
    have b : v38 = v37 := by rw [← q38, ← q37]; exact i2c_mask _
    have c : (255 : Int32).toInt = 255 := by decide
    rw [b, Int32.lt_iff_toInt_lt]
    omega
  refine g_callS hG X1 hx hZ (y := (⟨"java/lang/String", "valueOf", "(C)Ljava/lang/String;"⟩ : MethodName)) 0 hown (wd hw 2 rfl) (wd hw 3 rfl) (wd hw 4 rfl) (wd hw 5 rfl) (by decide) (rmVal l Z a0 hw [] v38 cs T1.heap n0 Zs c38 hcs Sc) (by decide) (by decide) (by rw [hml]; rfl) pd_4 rfl (argsL := [(.int v38)]) (rest := []) rfl rfl (Nat.le_of_eq rfl) (hb hby at_39) rfl (by decide) (by decide) (pc' := 42) rfl ?_
  intro T2 rv2 L2 X2 hQ2
  obtain ⟨tm, rfl, Nq2, Kq2, szq2⟩ := hQ2
  have NF2 := Fr.app NF1 Nq2
  have ge_tm : n0 ≤ tm := Nat.le_trans Zs szq2
  have Zs := Nat.le_trans Zs Kq2.1
  have Sc := Jvm.OwnKit.Sta.keep0 Sc Kq2
  show G (T2.setTop (mkF m 42 #[.val (.int rl), .val (.int wi), .val (.int cx), .val (.int v3), .val (.int v16), .val (.ref tp), .unset, .unset, .unset, .unset, .unset, .unset, .unset, .unset, .unset, .unset, .unset, .unset] [(.ref tm)]))
  refine g_astore hG X2 hx (hb hby at_42) (pc' := 44) rfl rfl (Ls' := #[.val (.int rl), .val (.int wi), .val (.int cx), .val (.int v3), .val (.int v16), .val (.ref tp), .val (.ref tm), .unset, .unset, .unset, .unset, .unset, .unset, .unset, .unset, .unset, .unset, .unset]) rfl ?_
  show G (T2.setTop (mkF m 44 #[.val (.int rl), .val (.int wi), .val (.int cx), .val (.int v3), .val (.int v16), .val (.ref tp), .val (.ref tm), .unset, .unset, .unset, .unset, .unset, .unset, .unset, .unset, .unset, .unset, .unset] []))
  refine g_newO hG X2 hx hZ hown (wd hw 28 rfl) (wd hw 29 rfl) (wd hw 30 rfl) rfl (hb hby at_44) (by decide) (by decide) (pc' := 47) rfl ?_
  intro T3 h3 t1 gs3 X3 e3 E3 Aq3 Dq3
  have ge_t1 : n0 ≤ t1 := gs3 ▸ Zs
  have Zs := Nat.le_trans Zs E3.1
  have Ex_t1 := Aq3
  have F_topic_t1 : Fld Z h3 t1 "com/example/gauge_terms/gaugeterms/necessity/TermNecessity" "topic" "Ljava/lang/String;" .null := Dq3 (Or.inr (wd hw 41 rfl)) (ty := (.object "java/lang/String")) (by decide)
  have F_term_t1 : Fld Z h3 t1 "com/example/gauge_terms/gaugeterms/necessity/TermNecessity" "term" "Ljava/lang/String;" .null := Dq3 (Or.inr (wd hw 43 rfl)) (ty := (.object "java/lang/String")) (by decide)
  have F_relevantWithTerm_t1 : Fld Z h3 t1 "com/example/gauge_terms/gaugeterms/necessity/TermNecessity" "relevantWithTerm" "I" (.int 0) := Dq3 (Or.inr (wd hw 45 rfl)) (ty := .int) (by decide)
  have F_relevant_t1 : Fld Z h3 t1 "com/example/gauge_terms/gaugeterms/necessity/TermNecessity" "relevant" "I" (.int 0) := Dq3 (Or.inr (wd hw 47 rfl)) (ty := .int) (by decide)
  show G (T3.setTop (mkF m 47 #[.val (.int rl), .val (.int wi), .val (.int cx), .val (.int v3), .val (.int v16), .val (.ref tp), .val (.ref tm), .unset, .unset, .unset, .unset, .unset, .unset, .unset, .unset, .unset, .unset, .unset] [(.ref t1)]))
  refine g_dup hG X3 hx (hb hby at_47) (pc' := 48) rfl rfl ?_
  show G (T3.setTop (mkF m 48 #[.val (.int rl), .val (.int wi), .val (.int cx), .val (.int v3), .val (.int v16), .val (.ref tp), .val (.ref tm), .unset, .unset, .unset, .unset, .unset, .unset, .unset, .unset, .unset, .unset, .unset] [(.ref t1), (.ref t1)]))
  refine g_aload hG X3 hx (hb hby at_48) (pc' := 50) rfl rfl rfl ?_
  show G (T3.setTop (mkF m 50 #[.val (.int rl), .val (.int wi), .val (.int cx), .val (.int v3), .val (.int v16), .val (.ref tp), .val (.ref tm), .unset, .unset, .unset, .unset, .unset, .unset, .unset, .unset, .unset, .unset, .unset] [(.ref tp), (.ref t1), (.ref t1)]))
  refine g_aload hG X3 hx (hb hby at_50) (pc' := 52) rfl rfl rfl ?_
  show G (T3.setTop (mkF m 52 #[.val (.int rl), .val (.int wi), .val (.int cx), .val (.int v3), .val (.int v16), .val (.ref tp), .val (.ref tm), .unset, .unset, .unset, .unset, .unset, .unset, .unset, .unset, .unset, .unset, .unset] [(.ref tm), (.ref tp), (.ref t1), (.ref t1)]))
  refine g_iload hG X3 hx (hb hby at_52) (pc' := 54) rfl rfl ?_
  show G (T3.setTop (mkF m 54 #[.val (.int rl), .val (.int wi), .val (.int cx), .val (.int v3), .val (.int v16), .val (.ref tp), .val (.ref tm), .unset, .unset, .unset, .unset, .unset, .unset, .unset, .unset, .unset, .unset, .unset] [(.int v16), (.ref tm), (.ref tp), (.ref t1), (.ref t1)]))
  refine g_iloadN hG X3 hx (hb hby at_54) (pc' := 55) rfl rfl ?_
  show G (T3.setTop (mkF m 55 #[.val (.int rl), .val (.int wi), .val (.int cx), .val (.int v3), .val (.int v16), .val (.ref tp), .val (.ref tm), .unset, .unset, .unset, .unset, .unset, .unset, .unset, .unset, .unset, .unset, .unset] [(.int v3), (.int v16), (.ref tm), (.ref tp), (.ref t1), (.ref t1)]))
  refine g_callI hG X3 hx hZ (y := (⟨"com/example/gauge_terms/gaugeterms/necessity/TermNecessity", "<init>", "(Ljava/lang/String;Ljava/lang/String;II)V"⟩ : MethodName)) 1 rfl hown (wd hw 31 rfl) (wd hw 32 rfl) (wd hw 30 rfl) (wd hw 33 rfl) (by decide) (rmTN l Z a0 hw [] t1 tp tm v16 v3 h3 n0 Zs ge_t1 Ex_t1 F_topic_t1 F_term_t1 F_relevantWithTerm_t1 F_relevant_t1) (by decide) (by decide) (by rw [hml]; rfl) pd_5 rfl (argsL := [(.ref tp), (.ref tm), (.int v16), (.int v3)]) (rest := [(.ref t1)]) rfl rfl (Nat.le_of_eq rfl) (hb hby at_55) e3 (by decide) (by decide) (pc' := 58) rfl ?_
  intro T4 rv4 L4 X4 hQ4
  obtain ⟨rfl, Nq4, Kq4, Ex_t1, F_topic_t1, F_term_t1, F_relevantWithTerm_t1, F_relevant_t1⟩ := hQ4
  have NF4 := Fr.app NF2 Nq4
  have Zs := Nat.le_trans Zs Kq4.1
  show G (T4.setTop (mkF m 58 #[.val (.int rl), .val (.int wi), .val (.int cx), .val (.int v3), .val (.int v16), .val (.ref tp), .val (.ref tm), .unset, .unset, .unset, .unset, .unset, .unset, .unset, .unset, .unset, .unset, .unset] [(.ref t1)]))
  obtain ⟨w1, hw1⟩ : ∃ z, FP.ddiv (FP.dadd (FP.i2d v16) (4607182418800017408 : UInt64)) (FP.dadd (FP.i2d v3) (4611686018427387904 : UInt64)) = z := ⟨_, rfl⟩
  have Dw1 := own_nec (k := v16) (r := v3) b16.1 b16.2
  rw [hw1] at Dw1
  refine g_callV hG X4 hx hZ (y := (⟨"com/example/gauge_terms/gaugeterms/necessity/TermNecessity", "necessity", "()D"⟩ : MethodName)) 0 hown (wd hw 48 rfl) (wd hw 49 rfl) (wd hw 51 rfl) (wd hw 50 rfl) (wd hw 30 rfl) (wd hw 52 rfl) (by decide) (rmNec l Z a0 hw [] t1 v16 v3 w1 T4.heap n0 Zs hw1 (own_k v16).noNaN (own_r v3).noNaN Dw1.noNaN Ex_t1 F_relevantWithTerm_t1 F_relevant_t1) (by decide) (by decide) (by rw [hml]; rfl) pd_6 rfl (argsL := []) (rest := []) rfl rfl (Nat.le_of_eq rfl) (hb hby at_58) rfl Ex_t1 (by decide) (by decide) (pc' := 61) rfl ?_
  intro T5 rv5 L5 X5 hQ5
  obtain ⟨rfl, Nq5, eh5⟩ := hQ5
  have NF5 := Fr.app NF4 Nq5
  show G (T5.setTop (mkF m 61 #[.val (.int rl), .val (.int wi), .val (.int cx), .val (.int v3), .val (.int v16), .val (.ref tp), .val (.ref tm), .unset, .unset, .unset, .unset, .unset, .unset, .unset, .unset, .unset, .unset, .unset] [(.double w1)]))
  refine g_dstore hG X5 hx (hb hby at_61) (pc' := 63) rfl (Ls' := #[.val (.int rl), .val (.int wi), .val (.int cx), .val (.int v3), .val (.int v16), .val (.ref tp), .val (.ref tm), .val (.double w1), .second, .unset, .unset, .unset, .unset, .unset, .unset, .unset, .unset, .unset]) rfl ?_
  show G (T5.setTop (mkF m 63 #[.val (.int rl), .val (.int wi), .val (.int cx), .val (.int v3), .val (.int v16), .val (.ref tp), .val (.ref tm), .val (.double w1), .second, .unset, .unset, .unset, .unset, .unset, .unset, .unset, .unset, .unset] []))
  obtain ⟨o1, o2, o3, o4, o5, o6, o7, o8⟩ := own_ratio (N := v16.toInt + 1) (D := v3.toInt + 2) (by omega) (by omega) (by omega)
  obtain ⟨i1, i2⟩ := own_in o3 o4 o5
  obtain ⟨y1, y2, y3⟩ := own_half b16.1 b16.2 b3.2
  have rpN : OwnFl.Rp (((v16.toInt + 1 : Int) : Rat) * (1 / 2251799813685248)) := ⟨v16.toInt + 1, -51, by congr 1; decide +kernel, by omega, by decide⟩
  have rpM : OwnFl.Rp (-(((v16.toInt + 1 : Int) : Rat) * (1 / 2251799813685248))) := ⟨-(v16.toInt + 1), -51, by rw [Rat.intCast_neg, Rat.neg_mul]; congr 2; decide +kernel, by omega, by decide⟩
  have BK := own_back o1 o2 o6 (by grind) o3 o4 o5 rpN rpM
  obtain ⟨u1, u2, u3⟩ := own_tol (N := v16.toInt + 1) (by omega) (by omega)
  refine g_dconst0 hG X5 hx (hb hby at_63) (pc' := 64) rfl (v := (0 : UInt64)) rfl ?_
  show G (T5.setTop (mkF m 64 #[.val (.int rl), .val (.int wi), .val (.int cx), .val (.int v3), .val (.int v16), .val (.ref tp), .val (.ref tm), .val (.double w1), .second, .unset, .unset, .unset, .unset, .unset, .unset, .unset, .unset, .unset] [(.double 0)]))
  refine g_dload hG X5 hx (hb hby at_64) (pc' := 66) rfl rfl ?_
  show G (T5.setTop (mkF m 66 #[.val (.int rl), .val (.int wi), .val (.int cx), .val (.int v3), .val (.int v16), .val (.ref tp), .val (.ref tm), .val (.double w1), .second, .unset, .unset, .unset, .unset, .unset, .unset, .unset, .unset, .unset] [(.double w1), (.double 0)]))
  obtain ⟨v66, q66⟩ : ∃ zz : Int32, cmpValue (FP.dcmp (0 : UInt64) w1) .g = zz := ⟨_, rfl⟩
  refine g_dcmp hG X5 hx (hb hby at_66) (pc' := 67) rfl q66 ?_
  show G (T5.setTop (mkF m 67 #[.val (.int rl), .val (.int wi), .val (.int cx), .val (.int v3), .val (.int v16), .val (.ref tp), .val (.ref tm), .val (.double w1), .second, .unset, .unset, .unset, .unset, .unset, .unset, .unset, .unset, .unset] [(.int v66)]))
  refine g_ifNo hG X5 hx (hb hby at_67) (pc' := 70) (by rw [← q66, OwnFl.dcmp_lt own_z Dw1 i1]; rfl) rfl ?_
  show G (T5.setTop (mkF m 70 #[.val (.int rl), .val (.int wi), .val (.int cx), .val (.int v3), .val (.int v16), .val (.ref tp), .val (.ref tm), .val (.double w1), .second, .unset, .unset, .unset, .unset, .unset, .unset, .unset, .unset, .unset] []))
  refine g_dload hG X5 hx (hb hby at_70) (pc' := 72) rfl rfl ?_
  show G (T5.setTop (mkF m 72 #[.val (.int rl), .val (.int wi), .val (.int cx), .val (.int v3), .val (.int v16), .val (.ref tp), .val (.ref tm), .val (.double w1), .second, .unset, .unset, .unset, .unset, .unset, .unset, .unset, .unset, .unset] [(.double w1)]))
  refine g_dconst1 hG X5 hx (hb hby at_72) (pc' := 73) rfl (v := (4607182418800017408 : UInt64)) rfl ?_
  show G (T5.setTop (mkF m 73 #[.val (.int rl), .val (.int wi), .val (.int cx), .val (.int v3), .val (.int v16), .val (.ref tp), .val (.ref tm), .val (.double w1), .second, .unset, .unset, .unset, .unset, .unset, .unset, .unset, .unset, .unset] [(.double 4607182418800017408), (.double w1)]))
  obtain ⟨v73, q73⟩ : ∃ zz : Int32, cmpValue (FP.dcmp w1 (4607182418800017408 : UInt64)) .g = zz := ⟨_, rfl⟩
  refine g_dcmp hG X5 hx (hb hby at_73) (pc' := 74) rfl q73 ?_
  show G (T5.setTop (mkF m 74 #[.val (.int rl), .val (.int wi), .val (.int cx), .val (.int v3), .val (.int v16), .val (.ref tp), .val (.ref tm), .val (.double w1), .second, .unset, .unset, .unset, .unset, .unset, .unset, .unset, .unset, .unset] [(.int v73)]))
  refine g_ifNo hG X5 hx (hb hby at_74) (pc' := 77) (by rw [← q73, OwnFl.dcmp_lt Dw1 own_1 i2]; rfl) rfl ?_
  show G (T5.setTop (mkF m 77 #[.val (.int rl), .val (.int wi), .val (.int cx), .val (.int v3), .val (.int v16), .val (.ref tp), .val (.ref tm), .val (.double w1), .second, .unset, .unset, .unset, .unset, .unset, .unset, .unset, .unset, .unset] []))
  refine g_iconst hG X5 hx (hb hby at_77) (pc' := 78) rfl (v := (1 : Int32)) rfl ?_
  show G (T5.setTop (mkF m 78 #[.val (.int rl), .val (.int wi), .val (.int cx), .val (.int v3), .val (.int v16), .val (.ref tp), .val (.ref tm), .val (.double w1), .second, .unset, .unset, .unset, .unset, .unset, .unset, .unset, .unset, .unset] [(.int 1)]))
  refine g_goto hG X5 hx (hb hby at_78) (pc' := 82) (by decide) (by decide) ?_
  show G (T5.setTop (mkF m 82 #[.val (.int rl), .val (.int wi), .val (.int cx), .val (.int v3), .val (.int v16), .val (.ref tp), .val (.ref tm), .val (.double w1), .second, .unset, .unset, .unset, .unset, .unset, .unset, .unset, .unset, .unset] [(.int 1)]))
  refine g_istore hG X5 hx (hb hby at_82) (pc' := 84) rfl (Ls' := #[.val (.int rl), .val (.int wi), .val (.int cx), .val (.int v3), .val (.int v16), .val (.ref tp), .val (.ref tm), .val (.double w1), .second, .val (.int 1), .unset, .unset, .unset, .unset, .unset, .unset, .unset, .unset]) rfl ?_
  show G (T5.setTop (mkF m 84 #[.val (.int rl), .val (.int wi), .val (.int cx), .val (.int v3), .val (.int v16), .val (.ref tp), .val (.ref tm), .val (.double w1), .second, .val (.int 1), .unset, .unset, .unset, .unset, .unset, .unset, .unset, .unset] []))
  refine g_dload hG X5 hx (hb hby at_84) (pc' := 86) rfl rfl ?_
  show G (T5.setTop (mkF m 86 #[.val (.int rl), .val (.int wi), .val (.int cx), .val (.int v3), .val (.int v16), .val (.ref tp), .val (.ref tm), .val (.double w1), .second, .val (.int 1), .unset, .unset, .unset, .unset, .unset, .unset, .unset, .unset] [(.double w1)]))
  refine g_iloadN hG X5 hx (hb hby at_86) (pc' := 87) rfl rfl ?_
  show G (T5.setTop (mkF m 87 #[.val (.int rl), .val (.int wi), .val (.int cx), .val (.int v3), .val (.int v16), .val (.ref tp), .val (.ref tm), .val (.double w1), .second, .val (.int 1), .unset, .unset, .unset, .unset, .unset, .unset, .unset, .unset] [(.int v3), (.double w1)]))
  obtain ⟨v87, q87⟩ : ∃ zz : UInt64, FP.i2d v3 = zz := ⟨_, rfl⟩
  refine g_i2d hG X5 hx (hb hby at_87) (pc' := 88) rfl q87 ?_
  show G (T5.setTop (mkF m 88 #[.val (.int rl), .val (.int wi), .val (.int cx), .val (.int v3), .val (.int v16), .val (.ref tp), .val (.ref tm), .val (.double w1), .second, .val (.int 1), .unset, .unset, .unset, .unset, .unset, .unset, .unset, .unset] [(.double v87), (.double w1)]))
  refine g_ldcDouble hG X5 hx hZ hown (wd hw 54 rfl) (hb hby at_88) (pc' := 91) rfl ?_
  show G (T5.setTop (mkF m 91 #[.val (.int rl), .val (.int wi), .val (.int cx), .val (.int v3), .val (.int v16), .val (.ref tp), .val (.ref tm), .val (.double w1), .second, .val (.int 1), .unset, .unset, .unset, .unset, .unset, .unset, .unset, .unset] [(.double 4611686018427387904), (.double v87), (.double w1)]))
  obtain ⟨v91, q91⟩ : ∃ zz : UInt64, FP.dadd v87 (4611686018427387904 : UInt64) = zz := ⟨_, rfl⟩
  have D91 := own_r v3
  rw [q87, q91] at D91
  refine g_dadd hG X5 hx (hb hby at_91) (pc' := 92) rfl (by rw [q91]; exact D91.noNaN) q91 ?_
  show G (T5.setTop (mkF m 92 #[.val (.int rl), .val (.int wi), .val (.int cx), .val (.int v3), .val (.int v16), .val (.ref tp), .val (.ref tm), .val (.double w1), .second, .val (.int 1), .unset, .unset, .unset, .unset, .unset, .unset, .unset, .unset] [(.double v91), (.double w1)]))
  obtain ⟨v92, q92⟩ : ∃ zz : UInt64, FP.dmul w1 v91 = zz := ⟨_, rfl⟩
  have D92 := OwnFl.dmul_DV Dw1 D91 (by have := BK.2.2.1; unfold OwnN; grind) (by have := BK.2.2.2.1; unfold OwnN; grind)
  rw [q92] at D92
  refine g_dmul hG X5 hx (hb hby at_92) (pc' := 93) rfl (by rw [q92]; exact D92.noNaN) q92 ?_
  show G (T5.setTop (mkF m 93 #[.val (.int rl), .val (.int wi), .val (.int cx), .val (.int v3), .val (.int v16), .val (.ref tp), .val (.ref tm), .val (.double w1), .second, .val (.int 1), .unset, .unset, .unset, .unset, .unset, .unset, .unset, .unset] [(.double v92)]))
  refine g_iload hG X5 hx (hb hby at_93) (pc' := 95) rfl rfl ?_
  show G (T5.setTop (mkF m 95 #[.val (.int rl), .val (.int wi), .val (.int cx), .val (.int v3), .val (.int v16), .val (.ref tp), .val (.ref tm), .val (.double w1), .second, .val (.int 1), .unset, .unset, .unset, .unset, .unset, .unset, .unset, .unset] [(.int v16), (.double v92)]))
  obtain ⟨v95, q95⟩ : ∃ zz : UInt64, FP.i2d v16 = zz := ⟨_, rfl⟩
  refine g_i2d hG X5 hx (hb hby at_95) (pc' := 96) rfl q95 ?_
  show G (T5.setTop (mkF m 96 #[.val (.int rl), .val (.int wi), .val (.int cx), .val (.int v3), .val (.int v16), .val (.ref tp), .val (.ref tm), .val (.double w1), .second, .val (.int 1), .unset, .unset, .unset, .unset, .unset, .unset, .unset, .unset] [(.double v95), (.double v92)]))
  refine g_dconst1 hG X5 hx (hb hby at_96) (pc' := 97) rfl (v := (4607182418800017408 : UInt64)) rfl ?_
  show G (T5.setTop (mkF m 97 #[.val (.int rl), .val (.int wi), .val (.int cx), .val (.int v3), .val (.int v16), .val (.ref tp), .val (.ref tm), .val (.double w1), .second, .val (.int 1), .unset, .unset, .unset, .unset, .unset, .unset, .unset, .unset] [(.double 4607182418800017408), (.double v95), (.double v92)]))
  obtain ⟨v97, q97⟩ : ∃ zz : UInt64, FP.dadd v95 (4607182418800017408 : UInt64) = zz := ⟨_, rfl⟩
  have D97 := own_k v16
  rw [q95, q97] at D97
  refine g_dadd hG X5 hx (hb hby at_97) (pc' := 98) rfl (by rw [q97]; exact D97.noNaN) q97 ?_
  show G (T5.setTop (mkF m 98 #[.val (.int rl), .val (.int wi), .val (.int cx), .val (.int v3), .val (.int v16), .val (.ref tp), .val (.ref tm), .val (.double w1), .second, .val (.int 1), .unset, .unset, .unset, .unset, .unset, .unset, .unset, .unset] [(.double v97), (.double v92)]))
  obtain ⟨v98, q98⟩ : ∃ zz : UInt64, FP.dsub v92 v97 = zz := ⟨_, rfl⟩
  have D98 := OwnFl.dsub_DV D92 D97 (by have := BK.2.2.2.2.1; unfold OwnN; grind) (by have := BK.2.2.2.2.2; unfold OwnN; grind)
  rw [q98] at D98
  refine g_dsub hG X5 hx (hb hby at_98) (pc' := 99) rfl (by rw [q98]; exact D98.noNaN) q98 ?_
  show G (T5.setTop (mkF m 99 #[.val (.int rl), .val (.int wi), .val (.int cx), .val (.int v3), .val (.int v16), .val (.ref tp), .val (.ref tm), .val (.double w1), .second, .val (.int 1), .unset, .unset, .unset, .unset, .unset, .unset, .unset, .unset] [(.double v98)]))
  refine g_dstore hG X5 hx (hb hby at_99) (pc' := 101) rfl (Ls' := #[.val (.int rl), .val (.int wi), .val (.int cx), .val (.int v3), .val (.int v16), .val (.ref tp), .val (.ref tm), .val (.double w1), .second, .val (.int 1), .val (.double v98), .second, .unset, .unset, .unset, .unset, .unset, .unset]) rfl ?_
  show G (T5.setTop (mkF m 101 #[.val (.int rl), .val (.int wi), .val (.int cx), .val (.int v3), .val (.int v16), .val (.ref tp), .val (.ref tm), .val (.double w1), .second, .val (.int 1), .val (.double v98), .second, .unset, .unset, .unset, .unset, .unset, .unset] []))
  refine g_iload hG X5 hx (hb hby at_101) (pc' := 103) rfl rfl ?_
  show G (T5.setTop (mkF m 103 #[.val (.int rl), .val (.int wi), .val (.int cx), .val (.int v3), .val (.int v16), .val (.ref tp), .val (.ref tm), .val (.double w1), .second, .val (.int 1), .val (.double v98), .second, .unset, .unset, .unset, .unset, .unset, .unset] [(.int v16)]))
  obtain ⟨v103, q103⟩ : ∃ zz : UInt64, FP.i2d v16 = zz := ⟨_, rfl⟩
  refine g_i2d hG X5 hx (hb hby at_103) (pc' := 104) rfl q103 ?_
  show G (T5.setTop (mkF m 104 #[.val (.int rl), .val (.int wi), .val (.int cx), .val (.int v3), .val (.int v16), .val (.ref tp), .val (.ref tm), .val (.double w1), .second, .val (.int 1), .val (.double v98), .second, .unset, .unset, .unset, .unset, .unset, .unset] [(.double v103)]))
  refine g_dconst1 hG X5 hx (hb hby at_104) (pc' := 105) rfl (v := (4607182418800017408 : UInt64)) rfl ?_
  show G (T5.setTop (mkF m 105 #[.val (.int rl), .val (.int wi), .val (.int cx), .val (.int v3), .val (.int v16), .val (.ref tp), .val (.ref tm), .val (.double w1), .second, .val (.int 1), .val (.double v98), .second, .unset, .unset, .unset, .unset, .unset, .unset] [(.double 4607182418800017408), (.double v103)]))
  obtain ⟨v105, q105⟩ : ∃ zz : UInt64, FP.dadd v103 (4607182418800017408 : UInt64) = zz := ⟨_, rfl⟩
  have D105 := own_k v16
  rw [q103, q105] at D105
  refine g_dadd hG X5 hx (hb hby at_105) (pc' := 106) rfl (by rw [q105]; exact D105.noNaN) q105 ?_
  show G (T5.setTop (mkF m 106 #[.val (.int rl), .val (.int wi), .val (.int cx), .val (.int v3), .val (.int v16), .val (.ref tp), .val (.ref tm), .val (.double w1), .second, .val (.int 1), .val (.double v98), .second, .unset, .unset, .unset, .unset, .unset, .unset] [(.double v105)]))
  refine g_ldcDouble hG X5 hx hZ hown (wd hw 55 rfl) (hb hby at_106) (pc' := 109) rfl ?_
  show G (T5.setTop (mkF m 109 #[.val (.int rl), .val (.int wi), .val (.int cx), .val (.int v3), .val (.int v16), .val (.ref tp), .val (.ref tm), .val (.double w1), .second, .val (.int 1), .val (.double v98), .second, .unset, .unset, .unset, .unset, .unset, .unset] [(.double 4427486594234968593), (.double v105)]))
  obtain ⟨v109, q109⟩ : ∃ zz : UInt64, FP.dmul v105 (4427486594234968593 : UInt64) = zz := ⟨_, rfl⟩
  have D109 := OwnFl.dmul_DV D105 own_m12 (by grind) (by grind)
  rw [q109] at D109
  refine g_dmul hG X5 hx (hb hby at_109) (pc' := 110) rfl (by rw [q109]; exact D109.noNaN) q109 ?_
  show G (T5.setTop (mkF m 110 #[.val (.int rl), .val (.int wi), .val (.int cx), .val (.int v3), .val (.int v16), .val (.ref tp), .val (.ref tm), .val (.double w1), .second, .val (.int 1), .val (.double v98), .second, .unset, .unset, .unset, .unset, .unset, .unset] [(.double v109)]))
  refine g_dstore hG X5 hx (hb hby at_110) (pc' := 112) rfl (Ls' := #[.val (.int rl), .val (.int wi), .val (.int cx), .val (.int v3), .val (.int v16), .val (.ref tp), .val (.ref tm), .val (.double w1), .second, .val (.int 1), .val (.double v98), .second, .val (.double v109), .second, .unset, .unset, .unset, .unset]) rfl ?_
  show G (T5.setTop (mkF m 112 #[.val (.int rl), .val (.int wi), .val (.int cx), .val (.int v3), .val (.int v16), .val (.ref tp), .val (.ref tm), .val (.double w1), .second, .val (.int 1), .val (.double v98), .second, .val (.double v109), .second, .unset, .unset, .unset, .unset] []))
  refine g_iload hG X5 hx (hb hby at_112) (pc' := 114) rfl rfl ?_
  show G (T5.setTop (mkF m 114 #[.val (.int rl), .val (.int wi), .val (.int cx), .val (.int v3), .val (.int v16), .val (.ref tp), .val (.ref tm), .val (.double w1), .second, .val (.int 1), .val (.double v98), .second, .val (.double v109), .second, .unset, .unset, .unset, .unset] [(.int 1)]))
  refine g_ifNo hG X5 hx (hb hby at_114) (pc' := 117) (by decide) rfl ?_
  show G (T5.setTop (mkF m 117 #[.val (.int rl), .val (.int wi), .val (.int cx), .val (.int v3), .val (.int v16), .val (.ref tp), .val (.ref tm), .val (.double w1), .second, .val (.int 1), .val (.double v98), .second, .val (.double v109), .second, .unset, .unset, .unset, .unset] []))
  refine g_dload hG X5 hx (hb hby at_117) (pc' := 119) rfl rfl ?_
  show G (T5.setTop (mkF m 119 #[.val (.int rl), .val (.int wi), .val (.int cx), .val (.int v3), .val (.int v16), .val (.ref tp), .val (.ref tm), .val (.double w1), .second, .val (.int 1), .val (.double v98), .second, .val (.double v109), .second, .unset, .unset, .unset, .unset] [(.double v98)]))
  refine g_dload hG X5 hx (hb hby at_119) (pc' := 121) rfl rfl ?_
  show G (T5.setTop (mkF m 121 #[.val (.int rl), .val (.int wi), .val (.int cx), .val (.int v3), .val (.int v16), .val (.ref tp), .val (.ref tm), .val (.double w1), .second, .val (.int 1), .val (.double v98), .second, .val (.double v109), .second, .unset, .unset, .unset, .unset] [(.double v109), (.double v98)]))
  obtain ⟨v121, q121⟩ : ∃ zz : Int32, cmpValue (FP.dcmp v98 v109) .g = zz := ⟨_, rfl⟩
  refine g_dcmp hG X5 hx (hb hby at_121) (pc' := 122) rfl q121 ?_
  show G (T5.setTop (mkF m 122 #[.val (.int rl), .val (.int wi), .val (.int cx), .val (.int v3), .val (.int v16), .val (.ref tp), .val (.ref tm), .val (.double w1), .second, .val (.int 1), .val (.double v98), .second, .val (.double v109), .second, .unset, .unset, .unset, .unset] [(.int v121)]))
  refine g_ifNo hG X5 hx (hb hby at_122) (pc' := 125) (by rcases OwnFl.dcmp_le D98 D109 (by have := BK.1; unfold OwnN; grind) with g | g <;> rw [← q121, g] <;> rfl) rfl ?_
  show G (T5.setTop (mkF m 125 #[.val (.int rl), .val (.int wi), .val (.int cx), .val (.int v3), .val (.int v16), .val (.ref tp), .val (.ref tm), .val (.double w1), .second, .val (.int 1), .val (.double v98), .second, .val (.double v109), .second, .unset, .unset, .unset, .unset] []))
  refine g_dload hG X5 hx (hb hby at_125) (pc' := 127) rfl rfl ?_
  show G (T5.setTop (mkF m 127 #[.val (.int rl), .val (.int wi), .val (.int cx), .val (.int v3), .val (.int v16), .val (.ref tp), .val (.ref tm), .val (.double w1), .second, .val (.int 1), .val (.double v98), .second, .val (.double v109), .second, .unset, .unset, .unset, .unset] [(.double v109)]))
  obtain ⟨v127, q127⟩ : ∃ zz : UInt64, FP.dneg v109 = zz := ⟨_, rfl⟩
  refine g_dneg hG X5 hx (hb hby at_127) (pc' := 128) rfl q127 ?_
  show G (T5.setTop (mkF m 128 #[.val (.int rl), .val (.int wi), .val (.int cx), .val (.int v3), .val (.int v16), .val (.ref tp), .val (.ref tm), .val (.double w1), .second, .val (.int 1), .val (.double v98), .second, .val (.double v109), .second, .unset, .unset, .unset, .unset] [(.double v127)]))
  refine g_dload hG X5 hx (hb hby at_128) (pc' := 130) rfl rfl ?_
  show G (T5.setTop (mkF m 130 #[.val (.int rl), .val (.int wi), .val (.int cx), .val (.int v3), .val (.int v16), .val (.ref tp), .val (.ref tm), .val (.double w1), .second, .val (.int 1), .val (.double v98), .second, .val (.double v109), .second, .unset, .unset, .unset, .unset] [(.double v98), (.double v127)]))
  obtain ⟨v130, q130⟩ : ∃ zz : Int32, cmpValue (FP.dcmp v127 v98) .g = zz := ⟨_, rfl⟩
  refine g_dcmp hG X5 hx (hb hby at_130) (pc' := 131) rfl q130 ?_
  show G (T5.setTop (mkF m 131 #[.val (.int rl), .val (.int wi), .val (.int cx), .val (.int v3), .val (.int v16), .val (.ref tp), .val (.ref tm), .val (.double w1), .second, .val (.int 1), .val (.double v98), .second, .val (.double v109), .second, .unset, .unset, .unset, .unset] [(.int v130)]))
  refine g_ifNo hG X5 hx (hb hby at_131) (pc' := 134) (by rcases OwnFl.dcmp_le (q127 ▸ OwnFl.dneg_DV D109) D98 (by have := BK.2.1; unfold OwnN; grind) with g | g <;> rw [← q130, g] <;> rfl) rfl ?_
  show G (T5.setTop (mkF m 134 #[.val (.int rl), .val (.int wi), .val (.int cx), .val (.int v3), .val (.int v16), .val (.ref tp), .val (.ref tm), .val (.double w1), .second, .val (.int 1), .val (.double v98), .second, .val (.double v109), .second, .unset, .unset, .unset, .unset] []))
  refine g_iconst hG X5 hx (hb hby at_134) (pc' := 135) rfl (v := (1 : Int32)) rfl ?_
  show G (T5.setTop (mkF m 135 #[.val (.int rl), .val (.int wi), .val (.int cx), .val (.int v3), .val (.int v16), .val (.ref tp), .val (.ref tm), .val (.double w1), .second, .val (.int 1), .val (.double v98), .second, .val (.double v109), .second, .unset, .unset, .unset, .unset] [(.int 1)]))
  refine g_goto hG X5 hx (hb hby at_135) (pc' := 139) (by decide) (by decide) ?_
  show G (T5.setTop (mkF m 139 #[.val (.int rl), .val (.int wi), .val (.int cx), .val (.int v3), .val (.int v16), .val (.ref tp), .val (.ref tm), .val (.double w1), .second, .val (.int 1), .val (.double v98), .second, .val (.double v109), .second, .unset, .unset, .unset, .unset] [(.int 1)]))
  refine g_istore hG X5 hx (hb hby at_139) (pc' := 141) rfl (Ls' := #[.val (.int rl), .val (.int wi), .val (.int cx), .val (.int v3), .val (.int v16), .val (.ref tp), .val (.ref tm), .val (.double w1), .second, .val (.int 1), .val (.double v98), .second, .val (.double v109), .second, .unset, .unset, .unset, .unset]) rfl ?_
  show G (T5.setTop (mkF m 141 #[.val (.int rl), .val (.int wi), .val (.int cx), .val (.int v3), .val (.int v16), .val (.ref tp), .val (.ref tm), .val (.double w1), .second, .val (.int 1), .val (.double v98), .second, .val (.double v109), .second, .unset, .unset, .unset, .unset] []))
  refine g_ldcLong hG X5 hx hZ hown (wd hw 56 rfl) (hb hby at_141) (pc' := 144) rfl ?_
  show G (T5.setTop (mkF m 144 #[.val (.int rl), .val (.int wi), .val (.int cx), .val (.int v3), .val (.int v16), .val (.ref tp), .val (.ref tm), .val (.double w1), .second, .val (.int 1), .val (.double v98), .second, .val (.double v109), .second, .unset, .unset, .unset, .unset] [(.long 2)]))
  refine g_iload hG X5 hx (hb hby at_144) (pc' := 146) rfl rfl ?_
  show G (T5.setTop (mkF m 146 #[.val (.int rl), .val (.int wi), .val (.int cx), .val (.int v3), .val (.int v16), .val (.ref tp), .val (.ref tm), .val (.double w1), .second, .val (.int 1), .val (.double v98), .second, .val (.double v109), .second, .unset, .unset, .unset, .unset] [(.int v16), (.long 2)]))
  obtain ⟨v146, q146⟩ : ∃ zz : Int64, v16.toInt64 = zz := ⟨_, rfl⟩
  refine g_i2l hG X5 hx (hb hby at_146) (pc' := 147) rfl q146 ?_
  show G (T5.setTop (mkF m 147 #[.val (.int rl), .val (.int wi), .val (.int cx), .val (.int v3), .val (.int v16), .val (.ref tp), .val (.ref tm), .val (.double w1), .second, .val (.int 1), .val (.double v98), .second, .val (.double v109), .second, .unset, .unset, .unset, .unset] [(.long v146), (.long 2)]))
  obtain ⟨v147, q147⟩ : ∃ zz : Int64, (2 : Int64) * v146 = zz := ⟨_, rfl⟩
  refine g_lmul hG X5 hx (hb hby at_147) (pc' := 148) rfl q147 ?_
  show G (T5.setTop (mkF m 148 #[.val (.int rl), .val (.int wi), .val (.int cx), .val (.int v3), .val (.int v16), .val (.ref tp), .val (.ref tm), .val (.double w1), .second, .val (.int 1), .val (.double v98), .second, .val (.double v109), .second, .unset, .unset, .unset, .unset] [(.long v147)]))
  refine g_lstore hG X5 hx (hb hby at_148) (pc' := 150) rfl (Ls' := #[.val (.int rl), .val (.int wi), .val (.int cx), .val (.int v3), .val (.int v16), .val (.ref tp), .val (.ref tm), .val (.double w1), .second, .val (.int 1), .val (.double v98), .second, .val (.double v109), .second, .val (.long v147), .second, .unset, .unset]) rfl ?_
  show G (T5.setTop (mkF m 150 #[.val (.int rl), .val (.int wi), .val (.int cx), .val (.int v3), .val (.int v16), .val (.ref tp), .val (.ref tm), .val (.double w1), .second, .val (.int 1), .val (.double v98), .second, .val (.double v109), .second, .val (.long v147), .second, .unset, .unset] []))
  refine g_iload hG X5 hx (hb hby at_150) (pc' := 152) rfl rfl ?_
  show G (T5.setTop (mkF m 152 #[.val (.int rl), .val (.int wi), .val (.int cx), .val (.int v3), .val (.int v16), .val (.ref tp), .val (.ref tm), .val (.double w1), .second, .val (.int 1), .val (.double v98), .second, .val (.double v109), .second, .val (.long v147), .second, .unset, .unset] [(.int 1)]))
  refine g_ifNo hG X5 hx (hb hby at_152) (pc' := 155) (by decide) rfl ?_
  show G (T5.setTop (mkF m 155 #[.val (.int rl), .val (.int wi), .val (.int cx), .val (.int v3), .val (.int v16), .val (.ref tp), .val (.ref tm), .val (.double w1), .second, .val (.int 1), .val (.double v98), .second, .val (.double v109), .second, .val (.long v147), .second, .unset, .unset] []))
  have c222 : ∀ _u : Unit, G (T5.setTop (mkF m 222 #[.val (.int rl), .val (.int wi), .val (.int cx), .val (.int v3), .val (.int v16), .val (.ref tp), .val (.ref tm), .val (.double w1), .second, .val (.int 1), .val (.double v98), .second, .val (.double v109), .second, .val (.long v147), .second, .unset, .unset] [])) := by
    intro _u
    refine g_iload hG X5 hx (hb hby at_222) (pc' := 224) rfl rfl ?_
    show G (T5.setTop (mkF m 224 #[.val (.int rl), .val (.int wi), .val (.int cx), .val (.int v3), .val (.int v16), .val (.ref tp), .val (.ref tm), .val (.double w1), .second, .val (.int 1), .val (.double v98), .second, .val (.double v109), .second, .val (.long v147), .second, .unset, .unset] [(.int v16)]))
    refine g_iloadN hG X5 hx (hb hby at_224) (pc' := 225) rfl rfl ?_
    show G (T5.setTop (mkF m 225 #[.val (.int rl), .val (.int wi), .val (.int cx), .val (.int v3), .val (.int v16), .val (.ref tp), .val (.ref tm), .val (.double w1), .second, .val (.int 1), .val (.double v98), .second, .val (.double v109), .second, .val (.long v147), .second, .unset, .unset] [(.int v3), (.int v16)]))
    by_cases hc225 : v16 < v3
    · refine g_icmpNo hG X5 hx (hb hby at_225) (pc' := 228) ((tlt hc225).2.1) rfl ?_
      refine g_newO hG X5 hx hZ hown (wd hw 28 rfl) (wd hw 29 rfl) (wd hw 30 rfl) eh5 (hb hby at_228) (by decide) (by decide) (pc' := 231) rfl ?_
      intro T6 h6 t2 gs6 X6 e6 E6 Aq6 Dq6
      have ge_t2 : n0 ≤ t2 := gs6 ▸ Zs
      have Zs := Nat.le_trans Zs E6.1
      have Ex_t2 := Aq6
      have F_topic_t2 : Fld Z h6 t2 "com/example/gauge_terms/gaugeterms/necessity/TermNecessity" "topic" "Ljava/lang/String;" .null := Dq6 (Or.inr (wd hw 41 rfl)) (ty := (.object "java/lang/String")) (by decide)
      have F_term_t2 : Fld Z h6 t2 "com/example/gauge_terms/gaugeterms/necessity/TermNecessity" "term" "Ljava/lang/String;" .null := Dq6 (Or.inr (wd hw 43 rfl)) (ty := (.object "java/lang/String")) (by decide)
      have F_relevantWithTerm_t2 : Fld Z h6 t2 "com/example/gauge_terms/gaugeterms/necessity/TermNecessity" "relevantWithTerm" "I" (.int 0) := Dq6 (Or.inr (wd hw 45 rfl)) (ty := .int) (by decide)
      have F_relevant_t2 : Fld Z h6 t2 "com/example/gauge_terms/gaugeterms/necessity/TermNecessity" "relevant" "I" (.int 0) := Dq6 (Or.inr (wd hw 47 rfl)) (ty := .int) (by decide)
      show G (T6.setTop (mkF m 231 #[.val (.int rl), .val (.int wi), .val (.int cx), .val (.int v3), .val (.int v16), .val (.ref tp), .val (.ref tm), .val (.double w1), .second, .val (.int 1), .val (.double v98), .second, .val (.double v109), .second, .val (.long v147), .second, .unset, .unset] [(.ref t2)]))
      refine g_dup hG X6 hx (hb hby at_231) (pc' := 232) rfl rfl ?_
      show G (T6.setTop (mkF m 232 #[.val (.int rl), .val (.int wi), .val (.int cx), .val (.int v3), .val (.int v16), .val (.ref tp), .val (.ref tm), .val (.double w1), .second, .val (.int 1), .val (.double v98), .second, .val (.double v109), .second, .val (.long v147), .second, .unset, .unset] [(.ref t2), (.ref t2)]))
      refine g_aload hG X6 hx (hb hby at_232) (pc' := 234) rfl rfl rfl ?_
      show G (T6.setTop (mkF m 234 #[.val (.int rl), .val (.int wi), .val (.int cx), .val (.int v3), .val (.int v16), .val (.ref tp), .val (.ref tm), .val (.double w1), .second, .val (.int 1), .val (.double v98), .second, .val (.double v109), .second, .val (.long v147), .second, .unset, .unset] [(.ref tp), (.ref t2), (.ref t2)]))
      refine g_aload hG X6 hx (hb hby at_234) (pc' := 236) rfl rfl rfl ?_
      show G (T6.setTop (mkF m 236 #[.val (.int rl), .val (.int wi), .val (.int cx), .val (.int v3), .val (.int v16), .val (.ref tp), .val (.ref tm), .val (.double w1), .second, .val (.int 1), .val (.double v98), .second, .val (.double v109), .second, .val (.long v147), .second, .unset, .unset] [(.ref tm), (.ref tp), (.ref t2), (.ref t2)]))
      refine g_iload hG X6 hx (hb hby at_236) (pc' := 238) rfl rfl ?_
      show G (T6.setTop (mkF m 238 #[.val (.int rl), .val (.int wi), .val (.int cx), .val (.int v3), .val (.int v16), .val (.ref tp), .val (.ref tm), .val (.double w1), .second, .val (.int 1), .val (.double v98), .second, .val (.double v109), .second, .val (.long v147), .second, .unset, .unset] [(.int v16), (.ref tm), (.ref tp), (.ref t2), (.ref t2)]))
      refine g_iconst hG X6 hx (hb hby at_238) (pc' := 239) rfl (v := (1 : Int32)) rfl ?_
      show G (T6.setTop (mkF m 239 #[.val (.int rl), .val (.int wi), .val (.int cx), .val (.int v3), .val (.int v16), .val (.ref tp), .val (.ref tm), .val (.double w1), .second, .val (.int 1), .val (.double v98), .second, .val (.double v109), .second, .val (.long v147), .second, .unset, .unset] [(.int 1), (.int v16), (.ref tm), (.ref tp), (.ref t2), (.ref t2)]))
      obtain ⟨v239, q239⟩ : ∃ zz : Int32, v16 + (1 : Int32) = zz := ⟨_, rfl⟩
      refine g_iadd hG X6 hx (hb hby at_239) (pc' := 240) rfl q239 ?_
      show G (T6.setTop (mkF m 240 #[.val (.int rl), .val (.int wi), .val (.int cx), .val (.int v3), .val (.int v16), .val (.ref tp), .val (.ref tm), .val (.double w1), .second, .val (.int 1), .val (.double v98), .second, .val (.double v109), .second, .val (.long v147), .second, .unset, .unset] [(.int v239), (.ref tm), (.ref tp), (.ref t2), (.ref t2)]))
      have lt0 := Int32.lt_iff_toInt_lt.mp hc225
      have e239 : v239.toInt = v16.toInt + 1 := by
        have a := c_iadd v16 1
        have b := rng32 v239
        have c : (1 : Int32).toInt = 1 := by decide
        rw [q239] at a
        omega
      have bk : 0 ≤ v239.toInt ∧ v239.toInt ≤ v3.toInt := by omega
      refine g_iloadN hG X6 hx (hb hby at_240) (pc' := 241) rfl rfl ?_
      show G (T6.setTop (mkF m 241 #[.val (.int rl), .val (.int wi), .val (.int cx), .val (.int v3), .val (.int v16), .val (.ref tp), .val (.ref tm), .val (.double w1), .second, .val (.int 1), .val (.double v98), .second, .val (.double v109), .second, .val (.long v147), .second, .unset, .unset] [(.int v3), (.int v239), (.ref tm), (.ref tp), (.ref t2), (.ref t2)]))
      refine g_callI hG X6 hx hZ (y := (⟨"com/example/gauge_terms/gaugeterms/necessity/TermNecessity", "<init>", "(Ljava/lang/String;Ljava/lang/String;II)V"⟩ : MethodName)) 1 rfl hown (wd hw 31 rfl) (wd hw 32 rfl) (wd hw 30 rfl) (wd hw 33 rfl) (by decide) (rmTN l Z a0 hw [] t2 tp tm v239 v3 h6 n0 Zs ge_t2 Ex_t2 F_topic_t2 F_term_t2 F_relevantWithTerm_t2 F_relevant_t2) (by decide) (by decide) (by rw [hml]; rfl) pd_5 rfl (argsL := [(.ref tp), (.ref tm), (.int v239), (.int v3)]) (rest := [(.ref t2)]) rfl rfl (Nat.le_of_eq rfl) (hb hby at_241) e6 (by decide) (by decide) (pc' := 244) rfl ?_
      intro T7 rv7 L7 X7 hQ7
      obtain ⟨rfl, Nq7, Kq7, Ex_t2, F_topic_t2, F_term_t2, F_relevantWithTerm_t2, F_relevant_t2⟩ := hQ7
      have NF7 := Fr.app NF5 Nq7
      have Zs := Nat.le_trans Zs Kq7.1
      show G (T7.setTop (mkF m 244 #[.val (.int rl), .val (.int wi), .val (.int cx), .val (.int v3), .val (.int v16), .val (.ref tp), .val (.ref tm), .val (.double w1), .second, .val (.int 1), .val (.double v98), .second, .val (.double v109), .second, .val (.long v147), .second, .unset, .unset] [(.ref t2)]))
      obtain ⟨w2, hw2⟩ : ∃ z, FP.ddiv (FP.dadd (FP.i2d v239) (4607182418800017408 : UInt64)) (FP.dadd (FP.i2d v3) (4611686018427387904 : UInt64)) = z := ⟨_, rfl⟩
      have Dw2 := own_nec (k := v239) (r := v3) bk.1 bk.2
      rw [hw2] at Dw2
      refine g_callV hG X7 hx hZ (y := (⟨"com/example/gauge_terms/gaugeterms/necessity/TermNecessity", "necessity", "()D"⟩ : MethodName)) 0 hown (wd hw 48 rfl) (wd hw 49 rfl) (wd hw 51 rfl) (wd hw 50 rfl) (wd hw 30 rfl) (wd hw 52 rfl) (by decide) (rmNec l Z a0 hw [] t2 v239 v3 w2 T7.heap n0 Zs hw2 (own_k v239).noNaN (own_r v3).noNaN Dw2.noNaN Ex_t2 F_relevantWithTerm_t2 F_relevant_t2) (by decide) (by decide) (by rw [hml]; rfl) pd_6 rfl (argsL := []) (rest := []) rfl rfl (Nat.le_of_eq rfl) (hb hby at_244) rfl Ex_t2 (by decide) (by decide) (pc' := 247) rfl ?_
      intro T8 rv8 L8 X8 hQ8
      obtain ⟨rfl, Nq8, eh8⟩ := hQ8
      have NF8 := Fr.app NF7 Nq8
      show G (T8.setTop (mkF m 247 #[.val (.int rl), .val (.int wi), .val (.int cx), .val (.int v3), .val (.int v16), .val (.ref tp), .val (.ref tm), .val (.double w1), .second, .val (.int 1), .val (.double v98), .second, .val (.double v109), .second, .val (.long v147), .second, .unset, .unset] [(.double w2)]))
      refine g_dstore hG X8 hx (hb hby at_247) (pc' := 249) rfl (Ls' := #[.val (.int rl), .val (.int wi), .val (.int cx), .val (.int v3), .val (.int v16), .val (.ref tp), .val (.ref tm), .val (.double w1), .second, .val (.int 1), .val (.double v98), .second, .val (.double v109), .second, .val (.long v147), .second, .val (.double w2), .second]) rfl ?_
      show G (T8.setTop (mkF m 249 #[.val (.int rl), .val (.int wi), .val (.int cx), .val (.int v3), .val (.int v16), .val (.ref tp), .val (.ref tm), .val (.double w1), .second, .val (.int 1), .val (.double v98), .second, .val (.double v109), .second, .val (.long v147), .second, .val (.double w2), .second] []))
      refine g_iload hG X8 hx (hb hby at_249) (pc' := 251) rfl rfl ?_
      show G (T8.setTop (mkF m 251 #[.val (.int rl), .val (.int wi), .val (.int cx), .val (.int v3), .val (.int v16), .val (.ref tp), .val (.ref tm), .val (.double w1), .second, .val (.int 1), .val (.double v98), .second, .val (.double v109), .second, .val (.long v147), .second, .val (.double w2), .second] [(.int 1)]))
      refine g_ifNo hG X8 hx (hb hby at_251) (pc' := 254) (by decide) rfl ?_
      show G (T8.setTop (mkF m 254 #[.val (.int rl), .val (.int wi), .val (.int cx), .val (.int v3), .val (.int v16), .val (.ref tp), .val (.ref tm), .val (.double w1), .second, .val (.int 1), .val (.double v98), .second, .val (.double v109), .second, .val (.long v147), .second, .val (.double w2), .second] []))
      refine g_dload hG X8 hx (hb hby at_254) (pc' := 256) rfl rfl ?_
      show G (T8.setTop (mkF m 256 #[.val (.int rl), .val (.int wi), .val (.int cx), .val (.int v3), .val (.int v16), .val (.ref tp), .val (.ref tm), .val (.double w1), .second, .val (.int 1), .val (.double v98), .second, .val (.double v109), .second, .val (.long v147), .second, .val (.double w2), .second] [(.double w1)]))
      refine g_dload hG X8 hx (hb hby at_256) (pc' := 258) rfl rfl ?_
      show G (T8.setTop (mkF m 258 #[.val (.int rl), .val (.int wi), .val (.int cx), .val (.int v3), .val (.int v16), .val (.ref tp), .val (.ref tm), .val (.double w1), .second, .val (.int 1), .val (.double v98), .second, .val (.double v109), .second, .val (.long v147), .second, .val (.double w2), .second] [(.double w2), (.double w1)]))
      obtain ⟨v258, q258⟩ : ∃ zz : Int32, cmpValue (FP.dcmp w1 w2) .g = zz := ⟨_, rfl⟩
      refine g_dcmp hG X8 hx (hb hby at_258) (pc' := 259) rfl q258 ?_
      show G (T8.setTop (mkF m 259 #[.val (.int rl), .val (.int wi), .val (.int cx), .val (.int v3), .val (.int v16), .val (.ref tp), .val (.ref tm), .val (.double w1), .second, .val (.int 1), .val (.double v98), .second, .val (.double v109), .second, .val (.long v147), .second, .val (.double w2), .second] [(.int v258)]))
      refine g_ifNo hG X8 hx (hb hby at_259) (pc' := 262) (by rw [← q258, OwnFl.dcmp_lt Dw1 (Dw2.cast (by rw [e239])) (own_up b16.1 lt0 b3.2)]; rfl) rfl ?_
      show G (T8.setTop (mkF m 262 #[.val (.int rl), .val (.int wi), .val (.int cx), .val (.int v3), .val (.int v16), .val (.ref tp), .val (.ref tm), .val (.double w1), .second, .val (.int 1), .val (.double v98), .second, .val (.double v109), .second, .val (.long v147), .second, .val (.double w2), .second] []))
      refine g_iconst hG X8 hx (hb hby at_262) (pc' := 263) rfl (v := (1 : Int32)) rfl ?_
      show G (T8.setTop (mkF m 263 #[.val (.int rl), .val (.int wi), .val (.int cx), .val (.int v3), .val (.int v16), .val (.ref tp), .val (.ref tm), .val (.double w1), .second, .val (.int 1), .val (.double v98), .second, .val (.double v109), .second, .val (.long v147), .second, .val (.double w2), .second] [(.int 1)]))
      refine g_goto hG X8 hx (hb hby at_263) (pc' := 267) (by decide) (by decide) ?_
      show G (T8.setTop (mkF m 267 #[.val (.int rl), .val (.int wi), .val (.int cx), .val (.int v3), .val (.int v16), .val (.ref tp), .val (.ref tm), .val (.double w1), .second, .val (.int 1), .val (.double v98), .second, .val (.double v109), .second, .val (.long v147), .second, .val (.double w2), .second] [(.int 1)]))
      refine g_istore hG X8 hx (hb hby at_267) (pc' := 269) rfl (Ls' := #[.val (.int rl), .val (.int wi), .val (.int cx), .val (.int v3), .val (.int v16), .val (.ref tp), .val (.ref tm), .val (.double w1), .second, .val (.int 1), .val (.double v98), .second, .val (.double v109), .second, .val (.long v147), .second, .val (.double w2), .second]) rfl ?_
      show G (T8.setTop (mkF m 269 #[.val (.int rl), .val (.int wi), .val (.int cx), .val (.int v3), .val (.int v16), .val (.ref tp), .val (.ref tm), .val (.double w1), .second, .val (.int 1), .val (.double v98), .second, .val (.double v109), .second, .val (.long v147), .second, .val (.double w2), .second] []))
      refine g_iloadN hG X8 hx (hb hby at_269) (pc' := 270) rfl rfl ?_
      show G (T8.setTop (mkF m 270 #[.val (.int rl), .val (.int wi), .val (.int cx), .val (.int v3), .val (.int v16), .val (.ref tp), .val (.ref tm), .val (.double w1), .second, .val (.int 1), .val (.double v98), .second, .val (.double v109), .second, .val (.long v147), .second, .val (.double w2), .second] [(.int v3)]))
      refine g_ldcInt hG X8 hx hZ hown (wd hw 0 rfl) (hb hby at_270) (pc' := 272) rfl ?_
      show G (T8.setTop (mkF m 272 #[.val (.int rl), .val (.int wi), .val (.int cx), .val (.int v3), .val (.int v16), .val (.ref tp), .val (.ref tm), .val (.double w1), .second, .val (.int 1), .val (.double v98), .second, .val (.double v109), .second, .val (.long v147), .second, .val (.double w2), .second] [(.int 2147483647), (.int v3)]))
      by_cases hc272 : v3 < (2147483647 : Int32)
      · refine g_icmpNo hG X8 hx (hb hby at_272) (pc' := 275) ((tlt hc272).2.1) rfl ?_
        refine g_newO hG X8 hx hZ hown (wd hw 28 rfl) (wd hw 29 rfl) (wd hw 30 rfl) eh8 (hb hby at_275) (by decide) (by decide) (pc' := 278) rfl ?_
        intro T9 h9 t3 gs9 X9 e9 E9 Aq9 Dq9
        have ge_t3 : n0 ≤ t3 := gs9 ▸ Zs
        have Zs := Nat.le_trans Zs E9.1
        have Ex_t3 := Aq9
        have F_topic_t3 : Fld Z h9 t3 "com/example/gauge_terms/gaugeterms/necessity/TermNecessity" "topic" "Ljava/lang/String;" .null := Dq9 (Or.inr (wd hw 41 rfl)) (ty := (.object "java/lang/String")) (by decide)
        have F_term_t3 : Fld Z h9 t3 "com/example/gauge_terms/gaugeterms/necessity/TermNecessity" "term" "Ljava/lang/String;" .null := Dq9 (Or.inr (wd hw 43 rfl)) (ty := (.object "java/lang/String")) (by decide)
        have F_relevantWithTerm_t3 : Fld Z h9 t3 "com/example/gauge_terms/gaugeterms/necessity/TermNecessity" "relevantWithTerm" "I" (.int 0) := Dq9 (Or.inr (wd hw 45 rfl)) (ty := .int) (by decide)
        have F_relevant_t3 : Fld Z h9 t3 "com/example/gauge_terms/gaugeterms/necessity/TermNecessity" "relevant" "I" (.int 0) := Dq9 (Or.inr (wd hw 47 rfl)) (ty := .int) (by decide)
        show G (T9.setTop (mkF m 278 #[.val (.int rl), .val (.int wi), .val (.int cx), .val (.int v3), .val (.int v16), .val (.ref tp), .val (.ref tm), .val (.double w1), .second, .val (.int 1), .val (.double v98), .second, .val (.double v109), .second, .val (.long v147), .second, .val (.double w2), .second] [(.ref t3)]))
        refine g_dup hG X9 hx (hb hby at_278) (pc' := 279) rfl rfl ?_
        show G (T9.setTop (mkF m 279 #[.val (.int rl), .val (.int wi), .val (.int cx), .val (.int v3), .val (.int v16), .val (.ref tp), .val (.ref tm), .val (.double w1), .second, .val (.int 1), .val (.double v98), .second, .val (.double v109), .second, .val (.long v147), .second, .val (.double w2), .second] [(.ref t3), (.ref t3)]))
        refine g_aload hG X9 hx (hb hby at_279) (pc' := 281) rfl rfl rfl ?_
        show G (T9.setTop (mkF m 281 #[.val (.int rl), .val (.int wi), .val (.int cx), .val (.int v3), .val (.int v16), .val (.ref tp), .val (.ref tm), .val (.double w1), .second, .val (.int 1), .val (.double v98), .second, .val (.double v109), .second, .val (.long v147), .second, .val (.double w2), .second] [(.ref tp), (.ref t3), (.ref t3)]))
        refine g_aload hG X9 hx (hb hby at_281) (pc' := 283) rfl rfl rfl ?_
        show G (T9.setTop (mkF m 283 #[.val (.int rl), .val (.int wi), .val (.int cx), .val (.int v3), .val (.int v16), .val (.ref tp), .val (.ref tm), .val (.double w1), .second, .val (.int 1), .val (.double v98), .second, .val (.double v109), .second, .val (.long v147), .second, .val (.double w2), .second] [(.ref tm), (.ref tp), (.ref t3), (.ref t3)]))
        refine g_iload hG X9 hx (hb hby at_283) (pc' := 285) rfl rfl ?_
        show G (T9.setTop (mkF m 285 #[.val (.int rl), .val (.int wi), .val (.int cx), .val (.int v3), .val (.int v16), .val (.ref tp), .val (.ref tm), .val (.double w1), .second, .val (.int 1), .val (.double v98), .second, .val (.double v109), .second, .val (.long v147), .second, .val (.double w2), .second] [(.int v16), (.ref tm), (.ref tp), (.ref t3), (.ref t3)]))
        refine g_iloadN hG X9 hx (hb hby at_285) (pc' := 286) rfl rfl ?_
        show G (T9.setTop (mkF m 286 #[.val (.int rl), .val (.int wi), .val (.int cx), .val (.int v3), .val (.int v16), .val (.ref tp), .val (.ref tm), .val (.double w1), .second, .val (.int 1), .val (.double v98), .second, .val (.double v109), .second, .val (.long v147), .second, .val (.double w2), .second] [(.int v3), (.int v16), (.ref tm), (.ref tp), (.ref t3), (.ref t3)]))
        refine g_iconst hG X9 hx (hb hby at_286) (pc' := 287) rfl (v := (1 : Int32)) rfl ?_
        show G (T9.setTop (mkF m 287 #[.val (.int rl), .val (.int wi), .val (.int cx), .val (.int v3), .val (.int v16), .val (.ref tp), .val (.ref tm), .val (.double w1), .second, .val (.int 1), .val (.double v98), .second, .val (.double v109), .second, .val (.long v147), .second, .val (.double w2), .second] [(.int 1), (.int v3), (.int v16), (.ref tm), (.ref tp), (.ref t3), (.ref t3)]))
        obtain ⟨v287, q287⟩ : ∃ zz : Int32, v3 + (1 : Int32) = zz := ⟨_, rfl⟩
        refine g_iadd hG X9 hx (hb hby at_287) (pc' := 288) rfl q287 ?_
        show G (T9.setTop (mkF m 288 #[.val (.int rl), .val (.int wi), .val (.int cx), .val (.int v3), .val (.int v16), .val (.ref tp), .val (.ref tm), .val (.double w1), .second, .val (.int 1), .val (.double v98), .second, .val (.double v109), .second, .val (.long v147), .second, .val (.double w2), .second] [(.int v287), (.int v16), (.ref tm), (.ref tp), (.ref t3), (.ref t3)]))
        have lt1 := Int32.lt_iff_toInt_lt.mp hc272
        have e287 : v287.toInt = v3.toInt + 1 := by
          have a := c_iadd v3 1
          have b := rng32 v287
          have c : (1 : Int32).toInt = 1 := by decide
          have c2 : (2147483647 : Int32).toInt = 2147483647 := by decide
          rw [q287] at a
          omega
        have br : v16.toInt ≤ v287.toInt := by omega
        refine g_callI hG X9 hx hZ (y := (⟨"com/example/gauge_terms/gaugeterms/necessity/TermNecessity", "<init>", "(Ljava/lang/String;Ljava/lang/String;II)V"⟩ : MethodName)) 1 rfl hown (wd hw 31 rfl) (wd hw 32 rfl) (wd hw 30 rfl) (wd hw 33 rfl) (by decide) (rmTN l Z a0 hw [] t3 tp tm v16 v287 h9 n0 Zs ge_t3 Ex_t3 F_topic_t3 F_term_t3 F_relevantWithTerm_t3 F_relevant_t3) (by decide) (by decide) (by rw [hml]; rfl) pd_5 rfl (argsL := [(.ref tp), (.ref tm), (.int v16), (.int v287)]) (rest := [(.ref t3)]) rfl rfl (Nat.le_of_eq rfl) (hb hby at_288) e9 (by decide) (by decide) (pc' := 291) rfl ?_
        intro T10 rv10 L10 X10 hQ10
        obtain ⟨rfl, Nq10, Kq10, Ex_t3, F_topic_t3, F_term_t3, F_relevantWithTerm_t3, F_relevant_t3⟩ := hQ10
        have NF10 := Fr.app NF8 Nq10
        have Zs := Nat.le_trans Zs Kq10.1
        show G (T10.setTop (mkF m 291 #[.val (.int rl), .val (.int wi), .val (.int cx), .val (.int v3), .val (.int v16), .val (.ref tp), .val (.ref tm), .val (.double w1), .second, .val (.int 1), .val (.double v98), .second, .val (.double v109), .second, .val (.long v147), .second, .val (.double w2), .second] [(.ref t3)]))
        obtain ⟨w3, hw3⟩ : ∃ z, FP.ddiv (FP.dadd (FP.i2d v16) (4607182418800017408 : UInt64)) (FP.dadd (FP.i2d v287) (4611686018427387904 : UInt64)) = z := ⟨_, rfl⟩
        have Dw3 := own_nec (k := v16) (r := v287) b16.1 br
        rw [hw3] at Dw3
        refine g_callV hG X10 hx hZ (y := (⟨"com/example/gauge_terms/gaugeterms/necessity/TermNecessity", "necessity", "()D"⟩ : MethodName)) 0 hown (wd hw 48 rfl) (wd hw 49 rfl) (wd hw 51 rfl) (wd hw 50 rfl) (wd hw 30 rfl) (wd hw 52 rfl) (by decide) (rmNec l Z a0 hw [] t3 v16 v287 w3 T10.heap n0 Zs hw3 (own_k v16).noNaN (own_r v287).noNaN Dw3.noNaN Ex_t3 F_relevantWithTerm_t3 F_relevant_t3) (by decide) (by decide) (by rw [hml]; rfl) pd_6 rfl (argsL := []) (rest := []) rfl rfl (Nat.le_of_eq rfl) (hb hby at_291) rfl Ex_t3 (by decide) (by decide) (pc' := 294) rfl ?_
        intro T11 rv11 L11 X11 hQ11
        obtain ⟨rfl, Nq11, eh11⟩ := hQ11
        have NF11 := Fr.app NF10 Nq11
        show G (T11.setTop (mkF m 294 #[.val (.int rl), .val (.int wi), .val (.int cx), .val (.int v3), .val (.int v16), .val (.ref tp), .val (.ref tm), .val (.double w1), .second, .val (.int 1), .val (.double v98), .second, .val (.double v109), .second, .val (.long v147), .second, .val (.double w2), .second] [(.double w3)]))
        refine g_dstore hG X11 hx (hb hby at_294) (pc' := 296) rfl (Ls' := #[.val (.int rl), .val (.int wi), .val (.int cx), .val (.int v3), .val (.int v16), .val (.ref tp), .val (.ref tm), .val (.double w1), .second, .val (.int 1), .val (.double v98), .second, .val (.double v109), .second, .val (.long v147), .second, .val (.double w3), .second]) rfl ?_
        show G (T11.setTop (mkF m 296 #[.val (.int rl), .val (.int wi), .val (.int cx), .val (.int v3), .val (.int v16), .val (.ref tp), .val (.ref tm), .val (.double w1), .second, .val (.int 1), .val (.double v98), .second, .val (.double v109), .second, .val (.long v147), .second, .val (.double w3), .second] []))
        refine g_iload hG X11 hx (hb hby at_296) (pc' := 298) rfl rfl ?_
        show G (T11.setTop (mkF m 298 #[.val (.int rl), .val (.int wi), .val (.int cx), .val (.int v3), .val (.int v16), .val (.ref tp), .val (.ref tm), .val (.double w1), .second, .val (.int 1), .val (.double v98), .second, .val (.double v109), .second, .val (.long v147), .second, .val (.double w3), .second] [(.int 1)]))
        refine g_ifNo hG X11 hx (hb hby at_298) (pc' := 301) (by decide) rfl ?_
        show G (T11.setTop (mkF m 301 #[.val (.int rl), .val (.int wi), .val (.int cx), .val (.int v3), .val (.int v16), .val (.ref tp), .val (.ref tm), .val (.double w1), .second, .val (.int 1), .val (.double v98), .second, .val (.double v109), .second, .val (.long v147), .second, .val (.double w3), .second] []))
        refine g_dload hG X11 hx (hb hby at_301) (pc' := 303) rfl rfl ?_
        show G (T11.setTop (mkF m 303 #[.val (.int rl), .val (.int wi), .val (.int cx), .val (.int v3), .val (.int v16), .val (.ref tp), .val (.ref tm), .val (.double w1), .second, .val (.int 1), .val (.double v98), .second, .val (.double v109), .second, .val (.long v147), .second, .val (.double w3), .second] [(.double w3)]))
        refine g_dload hG X11 hx (hb hby at_303) (pc' := 305) rfl rfl ?_
        show G (T11.setTop (mkF m 305 #[.val (.int rl), .val (.int wi), .val (.int cx), .val (.int v3), .val (.int v16), .val (.ref tp), .val (.ref tm), .val (.double w1), .second, .val (.int 1), .val (.double v98), .second, .val (.double v109), .second, .val (.long v147), .second, .val (.double w3), .second] [(.double w1), (.double w3)]))
        obtain ⟨v305, q305⟩ : ∃ zz : Int32, cmpValue (FP.dcmp w3 w1) .g = zz := ⟨_, rfl⟩
        refine g_dcmp hG X11 hx (hb hby at_305) (pc' := 306) rfl q305 ?_
        show G (T11.setTop (mkF m 306 #[.val (.int rl), .val (.int wi), .val (.int cx), .val (.int v3), .val (.int v16), .val (.ref tp), .val (.ref tm), .val (.double w1), .second, .val (.int 1), .val (.double v98), .second, .val (.double v109), .second, .val (.long v147), .second, .val (.double w3), .second] [(.int v305)]))
        refine g_ifNo hG X11 hx (hb hby at_306) (pc' := 309) (by rw [← q305, OwnFl.dcmp_lt (Dw3.cast (by rw [e287])) Dw1 (own_more b16.1 b16.2 (by have c2 := c2147; omega))]; rfl) rfl ?_
        show G (T11.setTop (mkF m 309 #[.val (.int rl), .val (.int wi), .val (.int cx), .val (.int v3), .val (.int v16), .val (.ref tp), .val (.ref tm), .val (.double w1), .second, .val (.int 1), .val (.double v98), .second, .val (.double v109), .second, .val (.long v147), .second, .val (.double w3), .second] []))
        refine g_iconst hG X11 hx (hb hby at_309) (pc' := 310) rfl (v := (1 : Int32)) rfl ?_
        show G (T11.setTop (mkF m 310 #[.val (.int rl), .val (.int wi), .val (.int cx), .val (.int v3), .val (.int v16), .val (.ref tp), .val (.ref tm), .val (.double w1), .second, .val (.int 1), .val (.double v98), .second, .val (.double v109), .second, .val (.long v147), .second, .val (.double w3), .second] [(.int 1)]))
        refine g_goto hG X11 hx (hb hby at_310) (pc' := 314) (by decide) (by decide) ?_
        show G (T11.setTop (mkF m 314 #[.val (.int rl), .val (.int wi), .val (.int cx), .val (.int v3), .val (.int v16), .val (.ref tp), .val (.ref tm), .val (.double w1), .second, .val (.int 1), .val (.double v98), .second, .val (.double v109), .second, .val (.long v147), .second, .val (.double w3), .second] [(.int 1)]))
        refine g_istore hG X11 hx (hb hby at_314) (pc' := 316) rfl (Ls' := #[.val (.int rl), .val (.int wi), .val (.int cx), .val (.int v3), .val (.int v16), .val (.ref tp), .val (.ref tm), .val (.double w1), .second, .val (.int 1), .val (.double v98), .second, .val (.double v109), .second, .val (.long v147), .second, .val (.double w3), .second]) rfl ?_
        show G (T11.setTop (mkF m 316 #[.val (.int rl), .val (.int wi), .val (.int cx), .val (.int v3), .val (.int v16), .val (.ref tp), .val (.ref tm), .val (.double w1), .second, .val (.int 1), .val (.double v98), .second, .val (.double v109), .second, .val (.long v147), .second, .val (.double w3), .second] []))
        refine g_iload hG X11 hx (hb hby at_316) (pc' := 318) rfl rfl ?_
        show G (T11.setTop (mkF m 318 #[.val (.int rl), .val (.int wi), .val (.int cx), .val (.int v3), .val (.int v16), .val (.ref tp), .val (.ref tm), .val (.double w1), .second, .val (.int 1), .val (.double v98), .second, .val (.double v109), .second, .val (.long v147), .second, .val (.double w3), .second] [(.int 1)]))
        exact e_retZ hGe X11 hx hrt hlk (hb hby at_318) (Or.inr rfl) eh11 (by decide) (by decide) (⟨rfl, NF11⟩)
      · refine g_icmpYes hG X8 hx (hb hby at_272) (pc' := 316) ((flt hc272).2.1) (by decide) (by decide) ?_
        refine g_iload hG X8 hx (hb hby at_316) (pc' := 318) rfl rfl ?_
        show G (T8.setTop (mkF m 318 #[.val (.int rl), .val (.int wi), .val (.int cx), .val (.int v3), .val (.int v16), .val (.ref tp), .val (.ref tm), .val (.double w1), .second, .val (.int 1), .val (.double v98), .second, .val (.double v109), .second, .val (.long v147), .second, .val (.double w2), .second] [(.int 1)]))
        exact e_retZ hGe X8 hx hrt hlk (hb hby at_318) (Or.inr rfl) eh8 (by decide) (by decide) (⟨rfl, NF8⟩)
    · refine g_icmpYes hG X5 hx (hb hby at_225) (pc' := 269) ((flt hc225).2.1) (by decide) (by decide) ?_
      refine g_iloadN hG X5 hx (hb hby at_269) (pc' := 270) rfl rfl ?_
      show G (T5.setTop (mkF m 270 #[.val (.int rl), .val (.int wi), .val (.int cx), .val (.int v3), .val (.int v16), .val (.ref tp), .val (.ref tm), .val (.double w1), .second, .val (.int 1), .val (.double v98), .second, .val (.double v109), .second, .val (.long v147), .second, .unset, .unset] [(.int v3)]))
      refine g_ldcInt hG X5 hx hZ hown (wd hw 0 rfl) (hb hby at_270) (pc' := 272) rfl ?_
      show G (T5.setTop (mkF m 272 #[.val (.int rl), .val (.int wi), .val (.int cx), .val (.int v3), .val (.int v16), .val (.ref tp), .val (.ref tm), .val (.double w1), .second, .val (.int 1), .val (.double v98), .second, .val (.double v109), .second, .val (.long v147), .second, .unset, .unset] [(.int 2147483647), (.int v3)]))
      by_cases hc272 : v3 < (2147483647 : Int32)
      · refine g_icmpNo hG X5 hx (hb hby at_272) (pc' := 275) ((tlt hc272).2.1) rfl ?_
        refine g_newO hG X5 hx hZ hown (wd hw 28 rfl) (wd hw 29 rfl) (wd hw 30 rfl) eh5 (hb hby at_275) (by decide) (by decide) (pc' := 278) rfl ?_
        intro T12 h12 t3 gs12 X12 e12 E12 Aq12 Dq12
        have ge_t3 : n0 ≤ t3 := gs12 ▸ Zs
        have Zs := Nat.le_trans Zs E12.1
        have Ex_t3 := Aq12
        have F_topic_t3 : Fld Z h12 t3 "com/example/gauge_terms/gaugeterms/necessity/TermNecessity" "topic" "Ljava/lang/String;" .null := Dq12 (Or.inr (wd hw 41 rfl)) (ty := (.object "java/lang/String")) (by decide)
        have F_term_t3 : Fld Z h12 t3 "com/example/gauge_terms/gaugeterms/necessity/TermNecessity" "term" "Ljava/lang/String;" .null := Dq12 (Or.inr (wd hw 43 rfl)) (ty := (.object "java/lang/String")) (by decide)
        have F_relevantWithTerm_t3 : Fld Z h12 t3 "com/example/gauge_terms/gaugeterms/necessity/TermNecessity" "relevantWithTerm" "I" (.int 0) := Dq12 (Or.inr (wd hw 45 rfl)) (ty := .int) (by decide)
        have F_relevant_t3 : Fld Z h12 t3 "com/example/gauge_terms/gaugeterms/necessity/TermNecessity" "relevant" "I" (.int 0) := Dq12 (Or.inr (wd hw 47 rfl)) (ty := .int) (by decide)
        show G (T12.setTop (mkF m 278 #[.val (.int rl), .val (.int wi), .val (.int cx), .val (.int v3), .val (.int v16), .val (.ref tp), .val (.ref tm), .val (.double w1), .second, .val (.int 1), .val (.double v98), .second, .val (.double v109), .second, .val (.long v147), .second, .unset, .unset] [(.ref t3)]))
        refine g_dup hG X12 hx (hb hby at_278) (pc' := 279) rfl rfl ?_
        show G (T12.setTop (mkF m 279 #[.val (.int rl), .val (.int wi), .val (.int cx), .val (.int v3), .val (.int v16), .val (.ref tp), .val (.ref tm), .val (.double w1), .second, .val (.int 1), .val (.double v98), .second, .val (.double v109), .second, .val (.long v147), .second, .unset, .unset] [(.ref t3), (.ref t3)]))
        refine g_aload hG X12 hx (hb hby at_279) (pc' := 281) rfl rfl rfl ?_
        show G (T12.setTop (mkF m 281 #[.val (.int rl), .val (.int wi), .val (.int cx), .val (.int v3), .val (.int v16), .val (.ref tp), .val (.ref tm), .val (.double w1), .second, .val (.int 1), .val (.double v98), .second, .val (.double v109), .second, .val (.long v147), .second, .unset, .unset] [(.ref tp), (.ref t3), (.ref t3)]))
        refine g_aload hG X12 hx (hb hby at_281) (pc' := 283) rfl rfl rfl ?_
        show G (T12.setTop (mkF m 283 #[.val (.int rl), .val (.int wi), .val (.int cx), .val (.int v3), .val (.int v16), .val (.ref tp), .val (.ref tm), .val (.double w1), .second, .val (.int 1), .val (.double v98), .second, .val (.double v109), .second, .val (.long v147), .second, .unset, .unset] [(.ref tm), (.ref tp), (.ref t3), (.ref t3)]))
        refine g_iload hG X12 hx (hb hby at_283) (pc' := 285) rfl rfl ?_
        show G (T12.setTop (mkF m 285 #[.val (.int rl), .val (.int wi), .val (.int cx), .val (.int v3), .val (.int v16), .val (.ref tp), .val (.ref tm), .val (.double w1), .second, .val (.int 1), .val (.double v98), .second, .val (.double v109), .second, .val (.long v147), .second, .unset, .unset] [(.int v16), (.ref tm), (.ref tp), (.ref t3), (.ref t3)]))
        refine g_iloadN hG X12 hx (hb hby at_285) (pc' := 286) rfl rfl ?_
        show G (T12.setTop (mkF m 286 #[.val (.int rl), .val (.int wi), .val (.int cx), .val (.int v3), .val (.int v16), .val (.ref tp), .val (.ref tm), .val (.double w1), .second, .val (.int 1), .val (.double v98), .second, .val (.double v109), .second, .val (.long v147), .second, .unset, .unset] [(.int v3), (.int v16), (.ref tm), (.ref tp), (.ref t3), (.ref t3)]))
        refine g_iconst hG X12 hx (hb hby at_286) (pc' := 287) rfl (v := (1 : Int32)) rfl ?_
        show G (T12.setTop (mkF m 287 #[.val (.int rl), .val (.int wi), .val (.int cx), .val (.int v3), .val (.int v16), .val (.ref tp), .val (.ref tm), .val (.double w1), .second, .val (.int 1), .val (.double v98), .second, .val (.double v109), .second, .val (.long v147), .second, .unset, .unset] [(.int 1), (.int v3), (.int v16), (.ref tm), (.ref tp), (.ref t3), (.ref t3)]))
        obtain ⟨v287, q287⟩ : ∃ zz : Int32, v3 + (1 : Int32) = zz := ⟨_, rfl⟩
        refine g_iadd hG X12 hx (hb hby at_287) (pc' := 288) rfl q287 ?_
        show G (T12.setTop (mkF m 288 #[.val (.int rl), .val (.int wi), .val (.int cx), .val (.int v3), .val (.int v16), .val (.ref tp), .val (.ref tm), .val (.double w1), .second, .val (.int 1), .val (.double v98), .second, .val (.double v109), .second, .val (.long v147), .second, .unset, .unset] [(.int v287), (.int v16), (.ref tm), (.ref tp), (.ref t3), (.ref t3)]))
        have lt1 := Int32.lt_iff_toInt_lt.mp hc272
        have e287 : v287.toInt = v3.toInt + 1 := by
          have a := c_iadd v3 1
          have b := rng32 v287
          have c : (1 : Int32).toInt = 1 := by decide
          have c2 : (2147483647 : Int32).toInt = 2147483647 := by decide
          rw [q287] at a
          omega
        have br : v16.toInt ≤ v287.toInt := by omega
        refine g_callI hG X12 hx hZ (y := (⟨"com/example/gauge_terms/gaugeterms/necessity/TermNecessity", "<init>", "(Ljava/lang/String;Ljava/lang/String;II)V"⟩ : MethodName)) 1 rfl hown (wd hw 31 rfl) (wd hw 32 rfl) (wd hw 30 rfl) (wd hw 33 rfl) (by decide) (rmTN l Z a0 hw [] t3 tp tm v16 v287 h12 n0 Zs ge_t3 Ex_t3 F_topic_t3 F_term_t3 F_relevantWithTerm_t3 F_relevant_t3) (by decide) (by decide) (by rw [hml]; rfl) pd_5 rfl (argsL := [(.ref tp), (.ref tm), (.int v16), (.int v287)]) (rest := [(.ref t3)]) rfl rfl (Nat.le_of_eq rfl) (hb hby at_288) e12 (by decide) (by decide) (pc' := 291) rfl ?_
        intro T13 rv13 L13 X13 hQ13
        obtain ⟨rfl, Nq13, Kq13, Ex_t3, F_topic_t3, F_term_t3, F_relevantWithTerm_t3, F_relevant_t3⟩ := hQ13
        have NF13 := Fr.app NF5 Nq13
        have Zs := Nat.le_trans Zs Kq13.1
        show G (T13.setTop (mkF m 291 #[.val (.int rl), .val (.int wi), .val (.int cx), .val (.int v3), .val (.int v16), .val (.ref tp), .val (.ref tm), .val (.double w1), .second, .val (.int 1), .val (.double v98), .second, .val (.double v109), .second, .val (.long v147), .second, .unset, .unset] [(.ref t3)]))
        obtain ⟨w3, hw3⟩ : ∃ z, FP.ddiv (FP.dadd (FP.i2d v16) (4607182418800017408 : UInt64)) (FP.dadd (FP.i2d v287) (4611686018427387904 : UInt64)) = z := ⟨_, rfl⟩
        have Dw3 := own_nec (k := v16) (r := v287) b16.1 br
        rw [hw3] at Dw3
        refine g_callV hG X13 hx hZ (y := (⟨"com/example/gauge_terms/gaugeterms/necessity/TermNecessity", "necessity", "()D"⟩ : MethodName)) 0 hown (wd hw 48 rfl) (wd hw 49 rfl) (wd hw 51 rfl) (wd hw 50 rfl) (wd hw 30 rfl) (wd hw 52 rfl) (by decide) (rmNec l Z a0 hw [] t3 v16 v287 w3 T13.heap n0 Zs hw3 (own_k v16).noNaN (own_r v287).noNaN Dw3.noNaN Ex_t3 F_relevantWithTerm_t3 F_relevant_t3) (by decide) (by decide) (by rw [hml]; rfl) pd_6 rfl (argsL := []) (rest := []) rfl rfl (Nat.le_of_eq rfl) (hb hby at_291) rfl Ex_t3 (by decide) (by decide) (pc' := 294) rfl ?_
        intro T14 rv14 L14 X14 hQ14
        obtain ⟨rfl, Nq14, eh14⟩ := hQ14
        have NF14 := Fr.app NF13 Nq14
        show G (T14.setTop (mkF m 294 #[.val (.int rl), .val (.int wi), .val (.int cx), .val (.int v3), .val (.int v16), .val (.ref tp), .val (.ref tm), .val (.double w1), .second, .val (.int 1), .val (.double v98), .second, .val (.double v109), .second, .val (.long v147), .second, .unset, .unset] [(.double w3)]))
        refine g_dstore hG X14 hx (hb hby at_294) (pc' := 296) rfl (Ls' := #[.val (.int rl), .val (.int wi), .val (.int cx), .val (.int v3), .val (.int v16), .val (.ref tp), .val (.ref tm), .val (.double w1), .second, .val (.int 1), .val (.double v98), .second, .val (.double v109), .second, .val (.long v147), .second, .val (.double w3), .second]) rfl ?_
        show G (T14.setTop (mkF m 296 #[.val (.int rl), .val (.int wi), .val (.int cx), .val (.int v3), .val (.int v16), .val (.ref tp), .val (.ref tm), .val (.double w1), .second, .val (.int 1), .val (.double v98), .second, .val (.double v109), .second, .val (.long v147), .second, .val (.double w3), .second] []))
        refine g_iload hG X14 hx (hb hby at_296) (pc' := 298) rfl rfl ?_
        show G (T14.setTop (mkF m 298 #[.val (.int rl), .val (.int wi), .val (.int cx), .val (.int v3), .val (.int v16), .val (.ref tp), .val (.ref tm), .val (.double w1), .second, .val (.int 1), .val (.double v98), .second, .val (.double v109), .second, .val (.long v147), .second, .val (.double w3), .second] [(.int 1)]))
        refine g_ifNo hG X14 hx (hb hby at_298) (pc' := 301) (by decide) rfl ?_
        show G (T14.setTop (mkF m 301 #[.val (.int rl), .val (.int wi), .val (.int cx), .val (.int v3), .val (.int v16), .val (.ref tp), .val (.ref tm), .val (.double w1), .second, .val (.int 1), .val (.double v98), .second, .val (.double v109), .second, .val (.long v147), .second, .val (.double w3), .second] []))
        refine g_dload hG X14 hx (hb hby at_301) (pc' := 303) rfl rfl ?_
        show G (T14.setTop (mkF m 303 #[.val (.int rl), .val (.int wi), .val (.int cx), .val (.int v3), .val (.int v16), .val (.ref tp), .val (.ref tm), .val (.double w1), .second, .val (.int 1), .val (.double v98), .second, .val (.double v109), .second, .val (.long v147), .second, .val (.double w3), .second] [(.double w3)]))
        refine g_dload hG X14 hx (hb hby at_303) (pc' := 305) rfl rfl ?_
        show G (T14.setTop (mkF m 305 #[.val (.int rl), .val (.int wi), .val (.int cx), .val (.int v3), .val (.int v16), .val (.ref tp), .val (.ref tm), .val (.double w1), .second, .val (.int 1), .val (.double v98), .second, .val (.double v109), .second, .val (.long v147), .second, .val (.double w3), .second] [(.double w1), (.double w3)]))
        obtain ⟨v305, q305⟩ : ∃ zz : Int32, cmpValue (FP.dcmp w3 w1) .g = zz := ⟨_, rfl⟩
        refine g_dcmp hG X14 hx (hb hby at_305) (pc' := 306) rfl q305 ?_
        show G (T14.setTop (mkF m 306 #[.val (.int rl), .val (.int wi), .val (.int cx), .val (.int v3), .val (.int v16), .val (.ref tp), .val (.ref tm), .val (.double w1), .second, .val (.int 1), .val (.double v98), .second, .val (.double v109), .second, .val (.long v147), .second, .val (.double w3), .second] [(.int v305)]))
        refine g_ifNo hG X14 hx (hb hby at_306) (pc' := 309) (by rw [← q305, OwnFl.dcmp_lt (Dw3.cast (by rw [e287])) Dw1 (own_more b16.1 b16.2 (by have c2 := c2147; omega))]; rfl) rfl ?_
        show G (T14.setTop (mkF m 309 #[.val (.int rl), .val (.int wi), .val (.int cx), .val (.int v3), .val (.int v16), .val (.ref tp), .val (.ref tm), .val (.double w1), .second, .val (.int 1), .val (.double v98), .second, .val (.double v109), .second, .val (.long v147), .second, .val (.double w3), .second] []))
        refine g_iconst hG X14 hx (hb hby at_309) (pc' := 310) rfl (v := (1 : Int32)) rfl ?_
        show G (T14.setTop (mkF m 310 #[.val (.int rl), .val (.int wi), .val (.int cx), .val (.int v3), .val (.int v16), .val (.ref tp), .val (.ref tm), .val (.double w1), .second, .val (.int 1), .val (.double v98), .second, .val (.double v109), .second, .val (.long v147), .second, .val (.double w3), .second] [(.int 1)]))
        refine g_goto hG X14 hx (hb hby at_310) (pc' := 314) (by decide) (by decide) ?_
        show G (T14.setTop (mkF m 314 #[.val (.int rl), .val (.int wi), .val (.int cx), .val (.int v3), .val (.int v16), .val (.ref tp), .val (.ref tm), .val (.double w1), .second, .val (.int 1), .val (.double v98), .second, .val (.double v109), .second, .val (.long v147), .second, .val (.double w3), .second] [(.int 1)]))
        refine g_istore hG X14 hx (hb hby at_314) (pc' := 316) rfl (Ls' := #[.val (.int rl), .val (.int wi), .val (.int cx), .val (.int v3), .val (.int v16), .val (.ref tp), .val (.ref tm), .val (.double w1), .second, .val (.int 1), .val (.double v98), .second, .val (.double v109), .second, .val (.long v147), .second, .val (.double w3), .second]) rfl ?_
        show G (T14.setTop (mkF m 316 #[.val (.int rl), .val (.int wi), .val (.int cx), .val (.int v3), .val (.int v16), .val (.ref tp), .val (.ref tm), .val (.double w1), .second, .val (.int 1), .val (.double v98), .second, .val (.double v109), .second, .val (.long v147), .second, .val (.double w3), .second] []))
        refine g_iload hG X14 hx (hb hby at_316) (pc' := 318) rfl rfl ?_
        show G (T14.setTop (mkF m 318 #[.val (.int rl), .val (.int wi), .val (.int cx), .val (.int v3), .val (.int v16), .val (.ref tp), .val (.ref tm), .val (.double w1), .second, .val (.int 1), .val (.double v98), .second, .val (.double v109), .second, .val (.long v147), .second, .val (.double w3), .second] [(.int 1)]))
        exact e_retZ hGe X14 hx hrt hlk (hb hby at_318) (Or.inr rfl) eh14 (by decide) (by decide) (⟨rfl, NF14⟩)
      · refine g_icmpYes hG X5 hx (hb hby at_272) (pc' := 316) ((flt hc272).2.1) (by decide) (by decide) ?_
        refine g_iload hG X5 hx (hb hby at_316) (pc' := 318) rfl rfl ?_
        show G (T5.setTop (mkF m 318 #[.val (.int rl), .val (.int wi), .val (.int cx), .val (.int v3), .val (.int v16), .val (.ref tp), .val (.ref tm), .val (.double w1), .second, .val (.int 1), .val (.double v98), .second, .val (.double v109), .second, .val (.long v147), .second, .unset, .unset] [(.int 1)]))
        exact e_retZ hGe X5 hx hrt hlk (hb hby at_318) (Or.inr rfl) eh5 (by decide) (by decide) (⟨rfl, NF5⟩)
  have e147 : v147.toInt = 2 * v16.toInt := by
    have a := c_lmul 2 v146
    have b := rng64 v147
    have c : v146.toInt = v16.toInt := by rw [← q146]; exact c_i2l v16
    have c1 : (2 : Int64).toInt = 2 := by decide
    rw [q147, c, c1] at a
    omega
  rcases Int.lt_trichotomy (2 * v16.toInt) v3.toInt with tr | tr | tr
  · skip
    refine g_dload hG X5 hx (hb hby at_155) (pc' := 157) rfl rfl ?_
    show G (T5.setTop (mkF m 157 #[.val (.int rl), .val (.int wi), .val (.int cx), .val (.int v3), .val (.int v16), .val (.ref tp), .val (.ref tm), .val (.double w1), .second, .val (.int 1), .val (.double v98), .second, .val (.double v109), .second, .val (.long v147), .second, .unset, .unset] [(.double w1)]))
    refine g_ldcDouble hG X5 hx hZ hown (wd hw 57 rfl) (hb hby at_157) (pc' := 160) rfl ?_
    show G (T5.setTop (mkF m 160 #[.val (.int rl), .val (.int wi), .val (.int cx), .val (.int v3), .val (.int v16), .val (.ref tp), .val (.ref tm), .val (.double w1), .second, .val (.int 1), .val (.double v98), .second, .val (.double v109), .second, .val (.long v147), .second, .unset, .unset] [(.double 4602678819172646912), (.double w1)]))
    obtain ⟨v160, q160⟩ : ∃ zz : Int32, cmpValue (FP.dcmp w1 (4602678819172646912 : UInt64)) .l = zz := ⟨_, rfl⟩
    refine g_dcmp hG X5 hx (hb hby at_160) (pc' := 161) rfl q160 ?_
    show G (T5.setTop (mkF m 161 #[.val (.int rl), .val (.int wi), .val (.int cx), .val (.int v3), .val (.int v16), .val (.ref tp), .val (.ref tm), .val (.double w1), .second, .val (.int 1), .val (.double v98), .second, .val (.double v109), .second, .val (.long v147), .second, .unset, .unset] [(.int v160)]))
    refine g_ifYes hG X5 hx (hb hby at_161) (pc' := 168) (by rw [← q160, OwnFl.dcmp_lt Dw1 own_h (y2 tr)]; rfl) (by decide) (by decide) ?_
    show G (T5.setTop (mkF m 168 #[.val (.int rl), .val (.int wi), .val (.int cx), .val (.int v3), .val (.int v16), .val (.ref tp), .val (.ref tm), .val (.double w1), .second, .val (.int 1), .val (.double v98), .second, .val (.double v109), .second, .val (.long v147), .second, .unset, .unset] []))
    refine g_iconst hG X5 hx (hb hby at_168) (pc' := 169) rfl (v := (0 : Int32)) rfl ?_
    show G (T5.setTop (mkF m 169 #[.val (.int rl), .val (.int wi), .val (.int cx), .val (.int v3), .val (.int v16), .val (.ref tp), .val (.ref tm), .val (.double w1), .second, .val (.int 1), .val (.double v98), .second, .val (.double v109), .second, .val (.long v147), .second, .unset, .unset] [(.int 0)]))
    refine g_lload hG X5 hx (hb hby at_169) (pc' := 171) rfl rfl ?_
    show G (T5.setTop (mkF m 171 #[.val (.int rl), .val (.int wi), .val (.int cx), .val (.int v3), .val (.int v16), .val (.ref tp), .val (.ref tm), .val (.double w1), .second, .val (.int 1), .val (.double v98), .second, .val (.double v109), .second, .val (.long v147), .second, .unset, .unset] [(.long v147), (.int 0)]))
    refine g_iloadN hG X5 hx (hb hby at_171) (pc' := 172) rfl rfl ?_
    show G (T5.setTop (mkF m 172 #[.val (.int rl), .val (.int wi), .val (.int cx), .val (.int v3), .val (.int v16), .val (.ref tp), .val (.ref tm), .val (.double w1), .second, .val (.int 1), .val (.double v98), .second, .val (.double v109), .second, .val (.long v147), .second, .unset, .unset] [(.int v3), (.long v147), (.int 0)]))
    obtain ⟨v172, q172⟩ : ∃ zz : Int64, v3.toInt64 = zz := ⟨_, rfl⟩
    refine g_i2l hG X5 hx (hb hby at_172) (pc' := 173) rfl q172 ?_
    show G (T5.setTop (mkF m 173 #[.val (.int rl), .val (.int wi), .val (.int cx), .val (.int v3), .val (.int v16), .val (.ref tp), .val (.ref tm), .val (.double w1), .second, .val (.int 1), .val (.double v98), .second, .val (.double v109), .second, .val (.long v147), .second, .unset, .unset] [(.long v172), (.long v147), (.int 0)]))
    obtain ⟨v173, q173⟩ : ∃ zz : Int32, lcmpW v147 v172 = zz := ⟨_, rfl⟩
    refine g_lcmp hG X5 hx (hb hby at_173) (pc' := 174) rfl q173 ?_
    show G (T5.setTop (mkF m 174 #[.val (.int rl), .val (.int wi), .val (.int cx), .val (.int v3), .val (.int v16), .val (.ref tp), .val (.ref tm), .val (.double w1), .second, .val (.int 1), .val (.double v98), .second, .val (.double v109), .second, .val (.long v147), .second, .unset, .unset] [(.int v173), (.int 0)]))
    refine g_ifYes hG X5 hx (hb hby at_174) (pc' := 181) ((if0 _ _).trans (feq (show ¬ v173 = 0 by rw [← q173]; exact fun g => absurd (congrArg Int64.toInt ((lw_eq _ _).mp g)) (by have := (by rw [← q172]; exact c_i2l v3 : v172.toInt = v3.toInt); omega))).2) (by decide) (by decide) ?_
    show G (T5.setTop (mkF m 181 #[.val (.int rl), .val (.int wi), .val (.int cx), .val (.int v3), .val (.int v16), .val (.ref tp), .val (.ref tm), .val (.double w1), .second, .val (.int 1), .val (.double v98), .second, .val (.double v109), .second, .val (.long v147), .second, .unset, .unset] [(.int 0)]))
    refine g_iconst hG X5 hx (hb hby at_181) (pc' := 182) rfl (v := (0 : Int32)) rfl ?_
    show G (T5.setTop (mkF m 182 #[.val (.int rl), .val (.int wi), .val (.int cx), .val (.int v3), .val (.int v16), .val (.ref tp), .val (.ref tm), .val (.double w1), .second, .val (.int 1), .val (.double v98), .second, .val (.double v109), .second, .val (.long v147), .second, .unset, .unset] [(.int 0), (.int 0)]))
    refine g_icmpNo hG X5 hx (hb hby at_182) (pc' := 185) (by decide) rfl ?_
    show G (T5.setTop (mkF m 185 #[.val (.int rl), .val (.int wi), .val (.int cx), .val (.int v3), .val (.int v16), .val (.ref tp), .val (.ref tm), .val (.double w1), .second, .val (.int 1), .val (.double v98), .second, .val (.double v109), .second, .val (.long v147), .second, .unset, .unset] []))
    refine g_dload hG X5 hx (hb hby at_185) (pc' := 187) rfl rfl ?_
    show G (T5.setTop (mkF m 187 #[.val (.int rl), .val (.int wi), .val (.int cx), .val (.int v3), .val (.int v16), .val (.ref tp), .val (.ref tm), .val (.double w1), .second, .val (.int 1), .val (.double v98), .second, .val (.double v109), .second, .val (.long v147), .second, .unset, .unset] [(.double w1)]))
    refine g_ldcDouble hG X5 hx hZ hown (wd hw 57 rfl) (hb hby at_187) (pc' := 190) rfl ?_
    show G (T5.setTop (mkF m 190 #[.val (.int rl), .val (.int wi), .val (.int cx), .val (.int v3), .val (.int v16), .val (.ref tp), .val (.ref tm), .val (.double w1), .second, .val (.int 1), .val (.double v98), .second, .val (.double v109), .second, .val (.long v147), .second, .unset, .unset] [(.double 4602678819172646912), (.double w1)]))
    obtain ⟨v190, q190⟩ : ∃ zz : Int32, cmpValue (FP.dcmp w1 (4602678819172646912 : UInt64)) .g = zz := ⟨_, rfl⟩
    refine g_dcmp hG X5 hx (hb hby at_190) (pc' := 191) rfl q190 ?_
    show G (T5.setTop (mkF m 191 #[.val (.int rl), .val (.int wi), .val (.int cx), .val (.int v3), .val (.int v16), .val (.ref tp), .val (.ref tm), .val (.double w1), .second, .val (.int 1), .val (.double v98), .second, .val (.double v109), .second, .val (.long v147), .second, .unset, .unset] [(.int v190)]))
    refine g_ifNo hG X5 hx (hb hby at_191) (pc' := 194) (by rw [← q190, OwnFl.dcmp_lt Dw1 own_h (y2 tr)]; rfl) rfl ?_
    show G (T5.setTop (mkF m 194 #[.val (.int rl), .val (.int wi), .val (.int cx), .val (.int v3), .val (.int v16), .val (.ref tp), .val (.ref tm), .val (.double w1), .second, .val (.int 1), .val (.double v98), .second, .val (.double v109), .second, .val (.long v147), .second, .unset, .unset] []))
    refine g_iconst hG X5 hx (hb hby at_194) (pc' := 195) rfl (v := (1 : Int32)) rfl ?_
    show G (T5.setTop (mkF m 195 #[.val (.int rl), .val (.int wi), .val (.int cx), .val (.int v3), .val (.int v16), .val (.ref tp), .val (.ref tm), .val (.double w1), .second, .val (.int 1), .val (.double v98), .second, .val (.double v109), .second, .val (.long v147), .second, .unset, .unset] [(.int 1)]))
    refine g_goto hG X5 hx (hb hby at_195) (pc' := 199) (by decide) (by decide) ?_
    show G (T5.setTop (mkF m 199 #[.val (.int rl), .val (.int wi), .val (.int cx), .val (.int v3), .val (.int v16), .val (.ref tp), .val (.ref tm), .val (.double w1), .second, .val (.int 1), .val (.double v98), .second, .val (.double v109), .second, .val (.long v147), .second, .unset, .unset] [(.int 1)]))
    refine g_lload hG X5 hx (hb hby at_199) (pc' := 201) rfl rfl ?_
    show G (T5.setTop (mkF m 201 #[.val (.int rl), .val (.int wi), .val (.int cx), .val (.int v3), .val (.int v16), .val (.ref tp), .val (.ref tm), .val (.double w1), .second, .val (.int 1), .val (.double v98), .second, .val (.double v109), .second, .val (.long v147), .second, .unset, .unset] [(.long v147), (.int 1)]))
    refine g_iloadN hG X5 hx (hb hby at_201) (pc' := 202) rfl rfl ?_
    show G (T5.setTop (mkF m 202 #[.val (.int rl), .val (.int wi), .val (.int cx), .val (.int v3), .val (.int v16), .val (.ref tp), .val (.ref tm), .val (.double w1), .second, .val (.int 1), .val (.double v98), .second, .val (.double v109), .second, .val (.long v147), .second, .unset, .unset] [(.int v3), (.long v147), (.int 1)]))
    obtain ⟨v202, q202⟩ : ∃ zz : Int64, v3.toInt64 = zz := ⟨_, rfl⟩
    refine g_i2l hG X5 hx (hb hby at_202) (pc' := 203) rfl q202 ?_
    show G (T5.setTop (mkF m 203 #[.val (.int rl), .val (.int wi), .val (.int cx), .val (.int v3), .val (.int v16), .val (.ref tp), .val (.ref tm), .val (.double w1), .second, .val (.int 1), .val (.double v98), .second, .val (.double v109), .second, .val (.long v147), .second, .unset, .unset] [(.long v202), (.long v147), (.int 1)]))
    obtain ⟨v203, q203⟩ : ∃ zz : Int32, lcmpW v147 v202 = zz := ⟨_, rfl⟩
    refine g_lcmp hG X5 hx (hb hby at_203) (pc' := 204) rfl q203 ?_
    show G (T5.setTop (mkF m 204 #[.val (.int rl), .val (.int wi), .val (.int cx), .val (.int v3), .val (.int v16), .val (.ref tp), .val (.ref tm), .val (.double w1), .second, .val (.int 1), .val (.double v98), .second, .val (.double v109), .second, .val (.long v147), .second, .unset, .unset] [(.int v203), (.int 1)]))
    refine g_ifNo hG X5 hx (hb hby at_204) (pc' := 207) ((if0 _ _).trans (tlt (show v203 < 0 by rw [← q203]; exact (lw_lt _ _).mpr (Int64.lt_iff_toInt_lt.mpr (by have := (by rw [← q202]; exact c_i2l v3 : v202.toInt = v3.toInt); omega)))).2.1) rfl ?_
    show G (T5.setTop (mkF m 207 #[.val (.int rl), .val (.int wi), .val (.int cx), .val (.int v3), .val (.int v16), .val (.ref tp), .val (.ref tm), .val (.double w1), .second, .val (.int 1), .val (.double v98), .second, .val (.double v109), .second, .val (.long v147), .second, .unset, .unset] [(.int 1)]))
    refine g_iconst hG X5 hx (hb hby at_207) (pc' := 208) rfl (v := (1 : Int32)) rfl ?_
    show G (T5.setTop (mkF m 208 #[.val (.int rl), .val (.int wi), .val (.int cx), .val (.int v3), .val (.int v16), .val (.ref tp), .val (.ref tm), .val (.double w1), .second, .val (.int 1), .val (.double v98), .second, .val (.double v109), .second, .val (.long v147), .second, .unset, .unset] [(.int 1), (.int 1)]))
    refine g_goto hG X5 hx (hb hby at_208) (pc' := 212) (by decide) (by decide) ?_
    show G (T5.setTop (mkF m 212 #[.val (.int rl), .val (.int wi), .val (.int cx), .val (.int v3), .val (.int v16), .val (.ref tp), .val (.ref tm), .val (.double w1), .second, .val (.int 1), .val (.double v98), .second, .val (.double v109), .second, .val (.long v147), .second, .unset, .unset] [(.int 1), (.int 1)]))
    refine g_icmpNo hG X5 hx (hb hby at_212) (pc' := 215) (by decide) rfl ?_
    show G (T5.setTop (mkF m 215 #[.val (.int rl), .val (.int wi), .val (.int cx), .val (.int v3), .val (.int v16), .val (.ref tp), .val (.ref tm), .val (.double w1), .second, .val (.int 1), .val (.double v98), .second, .val (.double v109), .second, .val (.long v147), .second, .unset, .unset] []))
    refine g_iconst hG X5 hx (hb hby at_215) (pc' := 216) rfl (v := (1 : Int32)) rfl ?_
    show G (T5.setTop (mkF m 216 #[.val (.int rl), .val (.int wi), .val (.int cx), .val (.int v3), .val (.int v16), .val (.ref tp), .val (.ref tm), .val (.double w1), .second, .val (.int 1), .val (.double v98), .second, .val (.double v109), .second, .val (.long v147), .second, .unset, .unset] [(.int 1)]))
    refine g_goto hG X5 hx (hb hby at_216) (pc' := 220) (by decide) (by decide) ?_
    show G (T5.setTop (mkF m 220 #[.val (.int rl), .val (.int wi), .val (.int cx), .val (.int v3), .val (.int v16), .val (.ref tp), .val (.ref tm), .val (.double w1), .second, .val (.int 1), .val (.double v98), .second, .val (.double v109), .second, .val (.long v147), .second, .unset, .unset] [(.int 1)]))
    refine g_istore hG X5 hx (hb hby at_220) (pc' := 222) rfl (Ls' := #[.val (.int rl), .val (.int wi), .val (.int cx), .val (.int v3), .val (.int v16), .val (.ref tp), .val (.ref tm), .val (.double w1), .second, .val (.int 1), .val (.double v98), .second, .val (.double v109), .second, .val (.long v147), .second, .unset, .unset]) rfl ?_
    show G (T5.setTop (mkF m 222 #[.val (.int rl), .val (.int wi), .val (.int cx), .val (.int v3), .val (.int v16), .val (.ref tp), .val (.ref tm), .val (.double w1), .second, .val (.int 1), .val (.double v98), .second, .val (.double v109), .second, .val (.long v147), .second, .unset, .unset] []))
    exact c222 ()
  · skip
    refine g_dload hG X5 hx (hb hby at_155) (pc' := 157) rfl rfl ?_
    show G (T5.setTop (mkF m 157 #[.val (.int rl), .val (.int wi), .val (.int cx), .val (.int v3), .val (.int v16), .val (.ref tp), .val (.ref tm), .val (.double w1), .second, .val (.int 1), .val (.double v98), .second, .val (.double v109), .second, .val (.long v147), .second, .unset, .unset] [(.double w1)]))
    refine g_ldcDouble hG X5 hx hZ hown (wd hw 57 rfl) (hb hby at_157) (pc' := 160) rfl ?_
    show G (T5.setTop (mkF m 160 #[.val (.int rl), .val (.int wi), .val (.int cx), .val (.int v3), .val (.int v16), .val (.ref tp), .val (.ref tm), .val (.double w1), .second, .val (.int 1), .val (.double v98), .second, .val (.double v109), .second, .val (.long v147), .second, .unset, .unset] [(.double 4602678819172646912), (.double w1)]))
    obtain ⟨v160, q160⟩ : ∃ zz : Int32, cmpValue (FP.dcmp w1 (4602678819172646912 : UInt64)) .l = zz := ⟨_, rfl⟩
    refine g_dcmp hG X5 hx (hb hby at_160) (pc' := 161) rfl q160 ?_
    show G (T5.setTop (mkF m 161 #[.val (.int rl), .val (.int wi), .val (.int cx), .val (.int v3), .val (.int v16), .val (.ref tp), .val (.ref tm), .val (.double w1), .second, .val (.int 1), .val (.double v98), .second, .val (.double v109), .second, .val (.long v147), .second, .unset, .unset] [(.int v160)]))
    refine g_ifNo hG X5 hx (hb hby at_161) (pc' := 164) (by rw [← q160, OwnFl.dcmp_eq Dw1 own_h (y1 tr)]; rfl) rfl ?_
    show G (T5.setTop (mkF m 164 #[.val (.int rl), .val (.int wi), .val (.int cx), .val (.int v3), .val (.int v16), .val (.ref tp), .val (.ref tm), .val (.double w1), .second, .val (.int 1), .val (.double v98), .second, .val (.double v109), .second, .val (.long v147), .second, .unset, .unset] []))
    refine g_iconst hG X5 hx (hb hby at_164) (pc' := 165) rfl (v := (1 : Int32)) rfl ?_
    show G (T5.setTop (mkF m 165 #[.val (.int rl), .val (.int wi), .val (.int cx), .val (.int v3), .val (.int v16), .val (.ref tp), .val (.ref tm), .val (.double w1), .second, .val (.int 1), .val (.double v98), .second, .val (.double v109), .second, .val (.long v147), .second, .unset, .unset] [(.int 1)]))
    refine g_goto hG X5 hx (hb hby at_165) (pc' := 169) (by decide) (by decide) ?_
    show G (T5.setTop (mkF m 169 #[.val (.int rl), .val (.int wi), .val (.int cx), .val (.int v3), .val (.int v16), .val (.ref tp), .val (.ref tm), .val (.double w1), .second, .val (.int 1), .val (.double v98), .second, .val (.double v109), .second, .val (.long v147), .second, .unset, .unset] [(.int 1)]))
    refine g_lload hG X5 hx (hb hby at_169) (pc' := 171) rfl rfl ?_
    show G (T5.setTop (mkF m 171 #[.val (.int rl), .val (.int wi), .val (.int cx), .val (.int v3), .val (.int v16), .val (.ref tp), .val (.ref tm), .val (.double w1), .second, .val (.int 1), .val (.double v98), .second, .val (.double v109), .second, .val (.long v147), .second, .unset, .unset] [(.long v147), (.int 1)]))
    refine g_iloadN hG X5 hx (hb hby at_171) (pc' := 172) rfl rfl ?_
    show G (T5.setTop (mkF m 172 #[.val (.int rl), .val (.int wi), .val (.int cx), .val (.int v3), .val (.int v16), .val (.ref tp), .val (.ref tm), .val (.double w1), .second, .val (.int 1), .val (.double v98), .second, .val (.double v109), .second, .val (.long v147), .second, .unset, .unset] [(.int v3), (.long v147), (.int 1)]))
    obtain ⟨v172, q172⟩ : ∃ zz : Int64, v3.toInt64 = zz := ⟨_, rfl⟩
    refine g_i2l hG X5 hx (hb hby at_172) (pc' := 173) rfl q172 ?_
    show G (T5.setTop (mkF m 173 #[.val (.int rl), .val (.int wi), .val (.int cx), .val (.int v3), .val (.int v16), .val (.ref tp), .val (.ref tm), .val (.double w1), .second, .val (.int 1), .val (.double v98), .second, .val (.double v109), .second, .val (.long v147), .second, .unset, .unset] [(.long v172), (.long v147), (.int 1)]))
    obtain ⟨v173, q173⟩ : ∃ zz : Int32, lcmpW v147 v172 = zz := ⟨_, rfl⟩
    refine g_lcmp hG X5 hx (hb hby at_173) (pc' := 174) rfl q173 ?_
    show G (T5.setTop (mkF m 174 #[.val (.int rl), .val (.int wi), .val (.int cx), .val (.int v3), .val (.int v16), .val (.ref tp), .val (.ref tm), .val (.double w1), .second, .val (.int 1), .val (.double v98), .second, .val (.double v109), .second, .val (.long v147), .second, .unset, .unset] [(.int v173), (.int 1)]))
    refine g_ifNo hG X5 hx (hb hby at_174) (pc' := 177) ((if0 _ _).trans (teq (show v173 = 0 by rw [← q173]; exact (lw_eq _ _).mpr (Int64.toInt_inj.mp (by have := (by rw [← q172]; exact c_i2l v3 : v172.toInt = v3.toInt); omega)))).2) rfl ?_
    show G (T5.setTop (mkF m 177 #[.val (.int rl), .val (.int wi), .val (.int cx), .val (.int v3), .val (.int v16), .val (.ref tp), .val (.ref tm), .val (.double w1), .second, .val (.int 1), .val (.double v98), .second, .val (.double v109), .second, .val (.long v147), .second, .unset, .unset] [(.int 1)]))
    refine g_iconst hG X5 hx (hb hby at_177) (pc' := 178) rfl (v := (1 : Int32)) rfl ?_
    show G (T5.setTop (mkF m 178 #[.val (.int rl), .val (.int wi), .val (.int cx), .val (.int v3), .val (.int v16), .val (.ref tp), .val (.ref tm), .val (.double w1), .second, .val (.int 1), .val (.double v98), .second, .val (.double v109), .second, .val (.long v147), .second, .unset, .unset] [(.int 1), (.int 1)]))
    refine g_goto hG X5 hx (hb hby at_178) (pc' := 182) (by decide) (by decide) ?_
    show G (T5.setTop (mkF m 182 #[.val (.int rl), .val (.int wi), .val (.int cx), .val (.int v3), .val (.int v16), .val (.ref tp), .val (.ref tm), .val (.double w1), .second, .val (.int 1), .val (.double v98), .second, .val (.double v109), .second, .val (.long v147), .second, .unset, .unset] [(.int 1), (.int 1)]))
    refine g_icmpNo hG X5 hx (hb hby at_182) (pc' := 185) (by decide) rfl ?_
    show G (T5.setTop (mkF m 185 #[.val (.int rl), .val (.int wi), .val (.int cx), .val (.int v3), .val (.int v16), .val (.ref tp), .val (.ref tm), .val (.double w1), .second, .val (.int 1), .val (.double v98), .second, .val (.double v109), .second, .val (.long v147), .second, .unset, .unset] []))
    refine g_dload hG X5 hx (hb hby at_185) (pc' := 187) rfl rfl ?_
    show G (T5.setTop (mkF m 187 #[.val (.int rl), .val (.int wi), .val (.int cx), .val (.int v3), .val (.int v16), .val (.ref tp), .val (.ref tm), .val (.double w1), .second, .val (.int 1), .val (.double v98), .second, .val (.double v109), .second, .val (.long v147), .second, .unset, .unset] [(.double w1)]))
    refine g_ldcDouble hG X5 hx hZ hown (wd hw 57 rfl) (hb hby at_187) (pc' := 190) rfl ?_
    show G (T5.setTop (mkF m 190 #[.val (.int rl), .val (.int wi), .val (.int cx), .val (.int v3), .val (.int v16), .val (.ref tp), .val (.ref tm), .val (.double w1), .second, .val (.int 1), .val (.double v98), .second, .val (.double v109), .second, .val (.long v147), .second, .unset, .unset] [(.double 4602678819172646912), (.double w1)]))
    obtain ⟨v190, q190⟩ : ∃ zz : Int32, cmpValue (FP.dcmp w1 (4602678819172646912 : UInt64)) .g = zz := ⟨_, rfl⟩
    refine g_dcmp hG X5 hx (hb hby at_190) (pc' := 191) rfl q190 ?_
    show G (T5.setTop (mkF m 191 #[.val (.int rl), .val (.int wi), .val (.int cx), .val (.int v3), .val (.int v16), .val (.ref tp), .val (.ref tm), .val (.double w1), .second, .val (.int 1), .val (.double v98), .second, .val (.double v109), .second, .val (.long v147), .second, .unset, .unset] [(.int v190)]))
    refine g_ifYes hG X5 hx (hb hby at_191) (pc' := 198) (by rw [← q190, OwnFl.dcmp_eq Dw1 own_h (y1 tr)]; rfl) (by decide) (by decide) ?_
    show G (T5.setTop (mkF m 198 #[.val (.int rl), .val (.int wi), .val (.int cx), .val (.int v3), .val (.int v16), .val (.ref tp), .val (.ref tm), .val (.double w1), .second, .val (.int 1), .val (.double v98), .second, .val (.double v109), .second, .val (.long v147), .second, .unset, .unset] []))
    refine g_iconst hG X5 hx (hb hby at_198) (pc' := 199) rfl (v := (0 : Int32)) rfl ?_
    show G (T5.setTop (mkF m 199 #[.val (.int rl), .val (.int wi), .val (.int cx), .val (.int v3), .val (.int v16), .val (.ref tp), .val (.ref tm), .val (.double w1), .second, .val (.int 1), .val (.double v98), .second, .val (.double v109), .second, .val (.long v147), .second, .unset, .unset] [(.int 0)]))
    refine g_lload hG X5 hx (hb hby at_199) (pc' := 201) rfl rfl ?_
    show G (T5.setTop (mkF m 201 #[.val (.int rl), .val (.int wi), .val (.int cx), .val (.int v3), .val (.int v16), .val (.ref tp), .val (.ref tm), .val (.double w1), .second, .val (.int 1), .val (.double v98), .second, .val (.double v109), .second, .val (.long v147), .second, .unset, .unset] [(.long v147), (.int 0)]))
    refine g_iloadN hG X5 hx (hb hby at_201) (pc' := 202) rfl rfl ?_
    show G (T5.setTop (mkF m 202 #[.val (.int rl), .val (.int wi), .val (.int cx), .val (.int v3), .val (.int v16), .val (.ref tp), .val (.ref tm), .val (.double w1), .second, .val (.int 1), .val (.double v98), .second, .val (.double v109), .second, .val (.long v147), .second, .unset, .unset] [(.int v3), (.long v147), (.int 0)]))
    obtain ⟨v202, q202⟩ : ∃ zz : Int64, v3.toInt64 = zz := ⟨_, rfl⟩
    refine g_i2l hG X5 hx (hb hby at_202) (pc' := 203) rfl q202 ?_
    show G (T5.setTop (mkF m 203 #[.val (.int rl), .val (.int wi), .val (.int cx), .val (.int v3), .val (.int v16), .val (.ref tp), .val (.ref tm), .val (.double w1), .second, .val (.int 1), .val (.double v98), .second, .val (.double v109), .second, .val (.long v147), .second, .unset, .unset] [(.long v202), (.long v147), (.int 0)]))
    obtain ⟨v203, q203⟩ : ∃ zz : Int32, lcmpW v147 v202 = zz := ⟨_, rfl⟩
    refine g_lcmp hG X5 hx (hb hby at_203) (pc' := 204) rfl q203 ?_
    show G (T5.setTop (mkF m 204 #[.val (.int rl), .val (.int wi), .val (.int cx), .val (.int v3), .val (.int v16), .val (.ref tp), .val (.ref tm), .val (.double w1), .second, .val (.int 1), .val (.double v98), .second, .val (.double v109), .second, .val (.long v147), .second, .unset, .unset] [(.int v203), (.int 0)]))
    refine g_ifYes hG X5 hx (hb hby at_204) (pc' := 211) ((if0 _ _).trans (flt (show ¬ v203 < 0 by rw [← q203]; exact fun g => absurd (Int64.lt_iff_toInt_lt.mp ((lw_lt _ _).mp g)) (by have := (by rw [← q202]; exact c_i2l v3 : v202.toInt = v3.toInt); omega))).2.1) (by decide) (by decide) ?_
    show G (T5.setTop (mkF m 211 #[.val (.int rl), .val (.int wi), .val (.int cx), .val (.int v3), .val (.int v16), .val (.ref tp), .val (.ref tm), .val (.double w1), .second, .val (.int 1), .val (.double v98), .second, .val (.double v109), .second, .val (.long v147), .second, .unset, .unset] [(.int 0)]))
    refine g_iconst hG X5 hx (hb hby at_211) (pc' := 212) rfl (v := (0 : Int32)) rfl ?_
    show G (T5.setTop (mkF m 212 #[.val (.int rl), .val (.int wi), .val (.int cx), .val (.int v3), .val (.int v16), .val (.ref tp), .val (.ref tm), .val (.double w1), .second, .val (.int 1), .val (.double v98), .second, .val (.double v109), .second, .val (.long v147), .second, .unset, .unset] [(.int 0), (.int 0)]))
    refine g_icmpNo hG X5 hx (hb hby at_212) (pc' := 215) (by decide) rfl ?_
    show G (T5.setTop (mkF m 215 #[.val (.int rl), .val (.int wi), .val (.int cx), .val (.int v3), .val (.int v16), .val (.ref tp), .val (.ref tm), .val (.double w1), .second, .val (.int 1), .val (.double v98), .second, .val (.double v109), .second, .val (.long v147), .second, .unset, .unset] []))
    refine g_iconst hG X5 hx (hb hby at_215) (pc' := 216) rfl (v := (1 : Int32)) rfl ?_
    show G (T5.setTop (mkF m 216 #[.val (.int rl), .val (.int wi), .val (.int cx), .val (.int v3), .val (.int v16), .val (.ref tp), .val (.ref tm), .val (.double w1), .second, .val (.int 1), .val (.double v98), .second, .val (.double v109), .second, .val (.long v147), .second, .unset, .unset] [(.int 1)]))
    refine g_goto hG X5 hx (hb hby at_216) (pc' := 220) (by decide) (by decide) ?_
    show G (T5.setTop (mkF m 220 #[.val (.int rl), .val (.int wi), .val (.int cx), .val (.int v3), .val (.int v16), .val (.ref tp), .val (.ref tm), .val (.double w1), .second, .val (.int 1), .val (.double v98), .second, .val (.double v109), .second, .val (.long v147), .second, .unset, .unset] [(.int 1)]))
    refine g_istore hG X5 hx (hb hby at_220) (pc' := 222) rfl (Ls' := #[.val (.int rl), .val (.int wi), .val (.int cx), .val (.int v3), .val (.int v16), .val (.ref tp), .val (.ref tm), .val (.double w1), .second, .val (.int 1), .val (.double v98), .second, .val (.double v109), .second, .val (.long v147), .second, .unset, .unset]) rfl ?_
    show G (T5.setTop (mkF m 222 #[.val (.int rl), .val (.int wi), .val (.int cx), .val (.int v3), .val (.int v16), .val (.ref tp), .val (.ref tm), .val (.double w1), .second, .val (.int 1), .val (.double v98), .second, .val (.double v109), .second, .val (.long v147), .second, .unset, .unset] []))
    exact c222 ()
  · skip
    refine g_dload hG X5 hx (hb hby at_155) (pc' := 157) rfl rfl ?_
    show G (T5.setTop (mkF m 157 #[.val (.int rl), .val (.int wi), .val (.int cx), .val (.int v3), .val (.int v16), .val (.ref tp), .val (.ref tm), .val (.double w1), .second, .val (.int 1), .val (.double v98), .second, .val (.double v109), .second, .val (.long v147), .second, .unset, .unset] [(.double w1)]))
    refine g_ldcDouble hG X5 hx hZ hown (wd hw 57 rfl) (hb hby at_157) (pc' := 160) rfl ?_
    show G (T5.setTop (mkF m 160 #[.val (.int rl), .val (.int wi), .val (.int cx), .val (.int v3), .val (.int v16), .val (.ref tp), .val (.ref tm), .val (.double w1), .second, .val (.int 1), .val (.double v98), .second, .val (.double v109), .second, .val (.long v147), .second, .unset, .unset] [(.double 4602678819172646912), (.double w1)]))
    obtain ⟨v160, q160⟩ : ∃ zz : Int32, cmpValue (FP.dcmp w1 (4602678819172646912 : UInt64)) .l = zz := ⟨_, rfl⟩
    refine g_dcmp hG X5 hx (hb hby at_160) (pc' := 161) rfl q160 ?_
    show G (T5.setTop (mkF m 161 #[.val (.int rl), .val (.int wi), .val (.int cx), .val (.int v3), .val (.int v16), .val (.ref tp), .val (.ref tm), .val (.double w1), .second, .val (.int 1), .val (.double v98), .second, .val (.double v109), .second, .val (.long v147), .second, .unset, .unset] [(.int v160)]))
    refine g_ifYes hG X5 hx (hb hby at_161) (pc' := 168) (by rw [← q160, OwnFl.dcmp_gt Dw1 own_h (y3 tr)]; rfl) (by decide) (by decide) ?_
    show G (T5.setTop (mkF m 168 #[.val (.int rl), .val (.int wi), .val (.int cx), .val (.int v3), .val (.int v16), .val (.ref tp), .val (.ref tm), .val (.double w1), .second, .val (.int 1), .val (.double v98), .second, .val (.double v109), .second, .val (.long v147), .second, .unset, .unset] []))
    refine g_iconst hG X5 hx (hb hby at_168) (pc' := 169) rfl (v := (0 : Int32)) rfl ?_
    show G (T5.setTop (mkF m 169 #[.val (.int rl), .val (.int wi), .val (.int cx), .val (.int v3), .val (.int v16), .val (.ref tp), .val (.ref tm), .val (.double w1), .second, .val (.int 1), .val (.double v98), .second, .val (.double v109), .second, .val (.long v147), .second, .unset, .unset] [(.int 0)]))
    refine g_lload hG X5 hx (hb hby at_169) (pc' := 171) rfl rfl ?_
    show G (T5.setTop (mkF m 171 #[.val (.int rl), .val (.int wi), .val (.int cx), .val (.int v3), .val (.int v16), .val (.ref tp), .val (.ref tm), .val (.double w1), .second, .val (.int 1), .val (.double v98), .second, .val (.double v109), .second, .val (.long v147), .second, .unset, .unset] [(.long v147), (.int 0)]))
    refine g_iloadN hG X5 hx (hb hby at_171) (pc' := 172) rfl rfl ?_
    show G (T5.setTop (mkF m 172 #[.val (.int rl), .val (.int wi), .val (.int cx), .val (.int v3), .val (.int v16), .val (.ref tp), .val (.ref tm), .val (.double w1), .second, .val (.int 1), .val (.double v98), .second, .val (.double v109), .second, .val (.long v147), .second, .unset, .unset] [(.int v3), (.long v147), (.int 0)]))
    obtain ⟨v172, q172⟩ : ∃ zz : Int64, v3.toInt64 = zz := ⟨_, rfl⟩
    refine g_i2l hG X5 hx (hb hby at_172) (pc' := 173) rfl q172 ?_
    show G (T5.setTop (mkF m 173 #[.val (.int rl), .val (.int wi), .val (.int cx), .val (.int v3), .val (.int v16), .val (.ref tp), .val (.ref tm), .val (.double w1), .second, .val (.int 1), .val (.double v98), .second, .val (.double v109), .second, .val (.long v147), .second, .unset, .unset] [(.long v172), (.long v147), (.int 0)]))
    obtain ⟨v173, q173⟩ : ∃ zz : Int32, lcmpW v147 v172 = zz := ⟨_, rfl⟩
    refine g_lcmp hG X5 hx (hb hby at_173) (pc' := 174) rfl q173 ?_
    show G (T5.setTop (mkF m 174 #[.val (.int rl), .val (.int wi), .val (.int cx), .val (.int v3), .val (.int v16), .val (.ref tp), .val (.ref tm), .val (.double w1), .second, .val (.int 1), .val (.double v98), .second, .val (.double v109), .second, .val (.long v147), .second, .unset, .unset] [(.int v173), (.int 0)]))
    refine g_ifYes hG X5 hx (hb hby at_174) (pc' := 181) ((if0 _ _).trans (feq (show ¬ v173 = 0 by rw [← q173]; exact fun g => absurd (congrArg Int64.toInt ((lw_eq _ _).mp g)) (by have := (by rw [← q172]; exact c_i2l v3 : v172.toInt = v3.toInt); omega))).2) (by decide) (by decide) ?_
    show G (T5.setTop (mkF m 181 #[.val (.int rl), .val (.int wi), .val (.int cx), .val (.int v3), .val (.int v16), .val (.ref tp), .val (.ref tm), .val (.double w1), .second, .val (.int 1), .val (.double v98), .second, .val (.double v109), .second, .val (.long v147), .second, .unset, .unset] [(.int 0)]))
    refine g_iconst hG X5 hx (hb hby at_181) (pc' := 182) rfl (v := (0 : Int32)) rfl ?_
    show G (T5.setTop (mkF m 182 #[.val (.int rl), .val (.int wi), .val (.int cx), .val (.int v3), .val (.int v16), .val (.ref tp), .val (.ref tm), .val (.double w1), .second, .val (.int 1), .val (.double v98), .second, .val (.double v109), .second, .val (.long v147), .second, .unset, .unset] [(.int 0), (.int 0)]))
    refine g_icmpNo hG X5 hx (hb hby at_182) (pc' := 185) (by decide) rfl ?_
    show G (T5.setTop (mkF m 185 #[.val (.int rl), .val (.int wi), .val (.int cx), .val (.int v3), .val (.int v16), .val (.ref tp), .val (.ref tm), .val (.double w1), .second, .val (.int 1), .val (.double v98), .second, .val (.double v109), .second, .val (.long v147), .second, .unset, .unset] []))
    refine g_dload hG X5 hx (hb hby at_185) (pc' := 187) rfl rfl ?_
    show G (T5.setTop (mkF m 187 #[.val (.int rl), .val (.int wi), .val (.int cx), .val (.int v3), .val (.int v16), .val (.ref tp), .val (.ref tm), .val (.double w1), .second, .val (.int 1), .val (.double v98), .second, .val (.double v109), .second, .val (.long v147), .second, .unset, .unset] [(.double w1)]))
    refine g_ldcDouble hG X5 hx hZ hown (wd hw 57 rfl) (hb hby at_187) (pc' := 190) rfl ?_
    show G (T5.setTop (mkF m 190 #[.val (.int rl), .val (.int wi), .val (.int cx), .val (.int v3), .val (.int v16), .val (.ref tp), .val (.ref tm), .val (.double w1), .second, .val (.int 1), .val (.double v98), .second, .val (.double v109), .second, .val (.long v147), .second, .unset, .unset] [(.double 4602678819172646912), (.double w1)]))
    obtain ⟨v190, q190⟩ : ∃ zz : Int32, cmpValue (FP.dcmp w1 (4602678819172646912 : UInt64)) .g = zz := ⟨_, rfl⟩
    refine g_dcmp hG X5 hx (hb hby at_190) (pc' := 191) rfl q190 ?_
    show G (T5.setTop (mkF m 191 #[.val (.int rl), .val (.int wi), .val (.int cx), .val (.int v3), .val (.int v16), .val (.ref tp), .val (.ref tm), .val (.double w1), .second, .val (.int 1), .val (.double v98), .second, .val (.double v109), .second, .val (.long v147), .second, .unset, .unset] [(.int v190)]))
    refine g_ifYes hG X5 hx (hb hby at_191) (pc' := 198) (by rw [← q190, OwnFl.dcmp_gt Dw1 own_h (y3 tr)]; rfl) (by decide) (by decide) ?_
    show G (T5.setTop (mkF m 198 #[.val (.int rl), .val (.int wi), .val (.int cx), .val (.int v3), .val (.int v16), .val (.ref tp), .val (.ref tm), .val (.double w1), .second, .val (.int 1), .val (.double v98), .second, .val (.double v109), .second, .val (.long v147), .second, .unset, .unset] []))
    refine g_iconst hG X5 hx (hb hby at_198) (pc' := 199) rfl (v := (0 : Int32)) rfl ?_
    show G (T5.setTop (mkF m 199 #[.val (.int rl), .val (.int wi), .val (.int cx), .val (.int v3), .val (.int v16), .val (.ref tp), .val (.ref tm), .val (.double w1), .second, .val (.int 1), .val (.double v98), .second, .val (.double v109), .second, .val (.long v147), .second, .unset, .unset] [(.int 0)]))
    refine g_lload hG X5 hx (hb hby at_199) (pc' := 201) rfl rfl ?_
    show G (T5.setTop (mkF m 201 #[.val (.int rl), .val (.int wi), .val (.int cx), .val (.int v3), .val (.int v16), .val (.ref tp), .val (.ref tm), .val (.double w1), .second, .val (.int 1), .val (.double v98), .second, .val (.double v109), .second, .val (.long v147), .second, .unset, .unset] [(.long v147), (.int 0)]))
    refine g_iloadN hG X5 hx (hb hby at_201) (pc' := 202) rfl rfl ?_
    show G (T5.setTop (mkF m 202 #[.val (.int rl), .val (.int wi), .val (.int cx), .val (.int v3), .val (.int v16), .val (.ref tp), .val (.ref tm), .val (.double w1), .second, .val (.int 1), .val (.double v98), .second, .val (.double v109), .second, .val (.long v147), .second, .unset, .unset] [(.int v3), (.long v147), (.int 0)]))
    obtain ⟨v202, q202⟩ : ∃ zz : Int64, v3.toInt64 = zz := ⟨_, rfl⟩
    refine g_i2l hG X5 hx (hb hby at_202) (pc' := 203) rfl q202 ?_
    show G (T5.setTop (mkF m 203 #[.val (.int rl), .val (.int wi), .val (.int cx), .val (.int v3), .val (.int v16), .val (.ref tp), .val (.ref tm), .val (.double w1), .second, .val (.int 1), .val (.double v98), .second, .val (.double v109), .second, .val (.long v147), .second, .unset, .unset] [(.long v202), (.long v147), (.int 0)]))
    obtain ⟨v203, q203⟩ : ∃ zz : Int32, lcmpW v147 v202 = zz := ⟨_, rfl⟩
    refine g_lcmp hG X5 hx (hb hby at_203) (pc' := 204) rfl q203 ?_
    show G (T5.setTop (mkF m 204 #[.val (.int rl), .val (.int wi), .val (.int cx), .val (.int v3), .val (.int v16), .val (.ref tp), .val (.ref tm), .val (.double w1), .second, .val (.int 1), .val (.double v98), .second, .val (.double v109), .second, .val (.long v147), .second, .unset, .unset] [(.int v203), (.int 0)]))
    refine g_ifYes hG X5 hx (hb hby at_204) (pc' := 211) ((if0 _ _).trans (flt (show ¬ v203 < 0 by rw [← q203]; exact fun g => absurd (Int64.lt_iff_toInt_lt.mp ((lw_lt _ _).mp g)) (by have := (by rw [← q202]; exact c_i2l v3 : v202.toInt = v3.toInt); omega))).2.1) (by decide) (by decide) ?_
    show G (T5.setTop (mkF m 211 #[.val (.int rl), .val (.int wi), .val (.int cx), .val (.int v3), .val (.int v16), .val (.ref tp), .val (.ref tm), .val (.double w1), .second, .val (.int 1), .val (.double v98), .second, .val (.double v109), .second, .val (.long v147), .second, .unset, .unset] [(.int 0)]))
    refine g_iconst hG X5 hx (hb hby at_211) (pc' := 212) rfl (v := (0 : Int32)) rfl ?_
    show G (T5.setTop (mkF m 212 #[.val (.int rl), .val (.int wi), .val (.int cx), .val (.int v3), .val (.int v16), .val (.ref tp), .val (.ref tm), .val (.double w1), .second, .val (.int 1), .val (.double v98), .second, .val (.double v109), .second, .val (.long v147), .second, .unset, .unset] [(.int 0), (.int 0)]))
    refine g_icmpNo hG X5 hx (hb hby at_212) (pc' := 215) (by decide) rfl ?_
    show G (T5.setTop (mkF m 215 #[.val (.int rl), .val (.int wi), .val (.int cx), .val (.int v3), .val (.int v16), .val (.ref tp), .val (.ref tm), .val (.double w1), .second, .val (.int 1), .val (.double v98), .second, .val (.double v109), .second, .val (.long v147), .second, .unset, .unset] []))
    refine g_iconst hG X5 hx (hb hby at_215) (pc' := 216) rfl (v := (1 : Int32)) rfl ?_
    show G (T5.setTop (mkF m 216 #[.val (.int rl), .val (.int wi), .val (.int cx), .val (.int v3), .val (.int v16), .val (.ref tp), .val (.ref tm), .val (.double w1), .second, .val (.int 1), .val (.double v98), .second, .val (.double v109), .second, .val (.long v147), .second, .unset, .unset] [(.int 1)]))
    refine g_goto hG X5 hx (hb hby at_216) (pc' := 220) (by decide) (by decide) ?_
    show G (T5.setTop (mkF m 220 #[.val (.int rl), .val (.int wi), .val (.int cx), .val (.int v3), .val (.int v16), .val (.ref tp), .val (.ref tm), .val (.double w1), .second, .val (.int 1), .val (.double v98), .second, .val (.double v109), .second, .val (.long v147), .second, .unset, .unset] [(.int 1)]))
    refine g_istore hG X5 hx (hb hby at_220) (pc' := 222) rfl (Ls' := #[.val (.int rl), .val (.int wi), .val (.int cx), .val (.int v3), .val (.int v16), .val (.ref tp), .val (.ref tm), .val (.double w1), .second, .val (.int 1), .val (.double v98), .second, .val (.double v109), .second, .val (.long v147), .second, .unset, .unset]) rfl ?_
    show G (T5.setTop (mkF m 222 #[.val (.int rl), .val (.int wi), .val (.int cx), .val (.int v3), .val (.int v16), .val (.ref tp), .val (.ref tm), .val (.double w1), .second, .val (.int 1), .val (.double v98), .second, .val (.double v109), .second, .val (.long v147), .second, .unset, .unset] []))
    exact c222 ()
set_option maxRecDepth 65536 in
set_option maxHeartbeats 40000000 in
theorem comes_1 {Post : Tables → Env → Array Value → State → Outcome → State → Prop} (hpost : ∀ tb e args s v u, (limb_1_1.after args s (.returned v) u = true ∧ limb_1_2.after args s (.returned v) u = true ∧ True) → FrameEnd s (.returned v) u (Jvm.fieldLocs frame_1_writes args s ++ Jvm.arrayLocs frame_1_arrays args s ++ Jvm.staticLocs frame_1_statics s) 24 128 → Post tb e args s (.returned v) u) :
    ArmFor flags0 classFile x code maxLocals ret World_1 tables_1 room_1 Calls_1 rest_1 Pre_1 Post := by
  intro l hfl _ _ p e ha hc hk s m args below hf hA hF happ hP
  obtain ⟨hcalls, hrest, hpre⟩ := hP
  obtain ⟨-, -, -, hnamed, -, -, -, hat⟩ := (Spec.applies_iff hf).mp happ
  obtain ⟨hg, hn⟩ := and_e (Cond.before_iff.mp (show (Jvm.Cond.and given_1 narrow_1).before args s = true from hpre))
  obtain ⟨hcount, ha_0⟩ := and_e hg
  obtain ⟨hb_0, ha_1⟩ := and_e ha_0
  obtain ⟨hb_1, ha_2⟩ := and_e ha_1
  have hb_2 := ha_2
  obtain ⟨w0, w1, w2, rfl⟩ : ∃ w0 w1 w2 : Value, args = #[w0, w1, w2] := by
    have hs : args.size = 3 := by simpa [Cond.value, given_1] using hcount
    obtain ⟨L⟩ := args
    match L, hs with
    | [w0, w1, w2], _ => exact ⟨w0, w1, w2, rfl⟩
  have hw := fun d (hd : d ∈ tables_1) => atoms_spec (ws := Jvm.Cond.code x code maxLocals ret :: tables_1) hat d (List.mem_cons_of_mem _ hd)
  obtain ⟨i0, ei0⟩ := is_v hb_0
  obtain rfl : w0 = (.int i0) := Option.some.inj ei0
  obtain ⟨i1, ei1⟩ := is_v hb_1
  obtain rfl : w1 = (.int i1) := Option.some.inj ei1
  obtain ⟨i2, ei2⟩ := is_v hb_2
  obtain rfl : w2 = (.int i2) := Option.some.inj ei2
  obtain ⟨hsets, hown0⟩ := atoms_of _ (rest_1_c_eq ▸ (show rest_1_c.before _ s = true from hrest))
  obtain ⟨cs, evc⟩ := is_v (Cond.before_iff.mp (hsets _ (List.mem_of_getElem? (i := 1) rfl)))
  have Sc : Sta s s.heap "java/lang/String" "COMPACT_STRINGS" "Z" (.int cs) := Sta.start evc (Or.inl (hsets _ (List.mem_of_getElem? (i := 0) rfl)))
  have hcs : ¬ cs = 0 := by
    have q := not_v (Cond.before_iff.mp (hsets _ (List.mem_of_getElem? (i := 2) rfl)))
    intro g
    rw [g] at evc
    rw [eq_i evc (Term.int_eval 0) rfl] at q
    cases q
  obtain ⟨n, o, h1, h2, h3, _, L, rfl, ⟨rfl, N⟩, hq⟩ := rm0 l s _ hw tables_1 i0 i1 i2 s.heap s.heap.size (Nat.le_refl _) cs hcs Sc p e ha hc hk s m _ below hf ((Spec.applies_iff_loose hf).mp happ).1 ⟨rfl, State.Warmed39.refl s, rfl⟩ trivial
  refine ⟨n, _, h1, h2, h3, hpost _ _ _ _ _ _ ⟨Cond.after_iff.mpr rfl, Cond.after_iff.mpr (eq_i res_at (Term.int_eval (1)) rfl), trivial⟩ ⟨hq.1, hq.2.1, (hq.2.2.sift fun y hy => Or.inr (N y hy)).mono (by decide) (by decide)⟩⟩
theorem main_1_1 : Claimed_1_1 := comes_1 fun _ _ _ _ _ _ h hF => ⟨h.1, hF⟩
theorem main_1_2 : Claimed_1_2 := comes_1 fun _ _ _ _ _ _ h hF => ⟨h.2.1, hF⟩
end Jvm.Pilot.@@N@@
namespace Jvm.Pilot.@@N@@
open Jvm Jvm.ClassFile Sem Op Lib Jvm.Free Jvm.Stand Jvm.Pilot.@@N@@.Jvm.D
/-! MADE BY PROGRAM (witnessworld.py) out of the Statement's table words and the real class files: 18 classes; the members and pool entries that the words name. The judged class is class 1, her method 1. -/
namespace start1
open Jvm.ClassFile
def u (s : String) : CpInfo := .utf8 (stringToUtf16 s)
/-- a pool by its gaps: so many unusable entries, then the entry; so many at the end -/
def gap : Nat → List CpInfo → List CpInfo
  | 0, r => r
  | n + 1, r => .unusable :: gap n r
def poolList (es : List (Nat × CpInfo)) (last : Nat) : List CpInfo := es.foldr (fun e r => gap e.1 (e.2 :: r)) (gap last [])
def pool (es : List (Nat × CpInfo)) (last : Nat) : Array CpInfo := ⟨poolList es last⟩
def fileOf (pool : Array CpInfo) (this : Nat) (attrs : Array Attribute := #[]) (ms : Array MethodInfo := #[]) (fl : Nat := 33) (sup : Nat := 0) (ifs : Array Nat := #[]) (fds : Array FieldInfo := #[]) : ClassFile where
  minorVersion := 0
  majorVersion := 65
  constantPool := pool
  accessFlags := fl
  thisClass := this
  superClass := sup
  interfaces := ifs
  fields := fds
  methods := ms
  attributes := attrs
def plain (name : String) (sup : Option ClassId) : Class where
  name := name
  kind := .ordinary
  loader := none
  accessFlags := 33
  super := sup
  interfaces := #[]
  cf := none
  fields := #[]
  methods := #[]
  instanceTypes := #[]
  staticTypes := #[]
  resolved := #[]
  callSites := []
  init := .initialized
  statics := none
  mirror := none

def pool0 : Array CpInfo := pool [(5, u "<init>"), (0, u "()V"), (1, .class_ 10), (1, u "java/lang/Object")] 113

def k0c0 : Code := { maxStack := 0, maxLocals := 1, code := object_method_1_code, exceptionTable := #[], attributes := #[] }
def k0m0 : Method := { name := "<init>", desc := "()V", sig := { parameters := [], returnType := none }, accessFlags := 1, code := some k0c0 }
/-- java/lang/Object -/
def k0 : Class := { plain "java/lang/Object" none with
  accessFlags := 33
  interfaces := #[]
  cf := some (fileOf pool0 8 #[] #[{ accessFlags := 1, nameIndex := 5, descriptorIndex := 6, attributes := #[] }] 33 0 #[] #[])
  fields := #[]
  methods := #[k0m0]
  instanceTypes := #[]
  staticTypes := #[]
  resolved := Array.replicate 124 none
  statics := none }

def pool1 : Array CpInfo := pool [(2, .class_ 4), (1, u "java/lang/Object"), (0, u "<init>"), (0, u "()V"), (0, .integer 2147483647), (0, .long 2147483647), (1, .methodref 11 12), (0, .class_ 13), (0, .nameAndType 14 15), (0, u "java/lang/String"), (0, u "valueOf"), (0, u "(C)Ljava/lang/String;"), (0, .class_ 17), (0, u "com/example/gauge_terms/gaugeterms/necessity/TermNecessity"), (0, .methodref 16 19), (0, .nameAndType 5 20), (0, u "(Ljava/lang/String;Ljava/lang/String;II)V"), (0, .methodref 16 22), (0, .nameAndType 23 24), (0, u "necessity"), (0, u "()D"), (0, .double 4611686018427387904), (1, .double 4427486594234968593), (1, .long 2), (1, .double 4602678819172646912), (3, .class_ 36), (0, u "com/example/gauge_terms/gaugeterms/necessity/TermNecessityNecessityPinLaw"), (2, u "law"), (0, u "(III)Z")] 3

def k1m0 : Method := { name := "<init>", desc := "()V", sig := { parameters := [], returnType := none }, accessFlags := 1, code := none }
def k1c1 : Code := { maxStack := 7, maxLocals := 18, code := code, exceptionTable := #[], attributes := #[] }
def k1m1 : Method := { name := "law", desc := "(III)Z", sig := { parameters := [.int, .int, .int], returnType := some .boolean }, accessFlags := 9, code := some k1c1 }
/-- com/example/gauge_terms/gaugeterms/necessity/TermNecessityNecessityPinLaw -/
def k1 : Class := { plain "com/example/gauge_terms/gaugeterms/necessity/TermNecessityNecessityPinLaw" (some 0) with
  accessFlags := 49
  interfaces := #[]
  cf := some (fileOf pool1 35 #[] #[{ accessFlags := 1, nameIndex := 5, descriptorIndex := 6, attributes := #[] }, { accessFlags := 9, nameIndex := 39, descriptorIndex := 40, attributes := #[] }] 49 2 #[] #[])
  fields := #[]
  methods := #[k1m0, k1m1]
  instanceTypes := #[]
  staticTypes := #[]
  resolved := Array.replicate 44 none
  statics := none }

def pool2 : Array CpInfo := pool [(1, .class_ 2), (0, u "java/io/Serializable"), (0, .class_ 4), (0, u "java/lang/Object")] 2

/-- java/io/Serializable -/
def k2 : Class := { plain "java/io/Serializable" (some 0) with
  accessFlags := 1537
  interfaces := #[]
  cf := some (fileOf pool2 1 #[] #[] 1537 3 #[] #[])
  fields := #[]
  methods := #[]
  instanceTypes := #[]
  staticTypes := #[]
  resolved := Array.replicate 7 none
  statics := none }

def pool3 : Array CpInfo := pool [(1, .class_ 2), (0, u "java/lang/Comparable"), (0, .class_ 4), (0, u "java/lang/Object")] 7

/-- java/lang/Comparable -/
def k3 : Class := { plain "java/lang/Comparable" (some 0) with
  accessFlags := 1537
  interfaces := #[]
  cf := some (fileOf pool3 1 #[] #[] 1537 3 #[] #[])
  fields := #[]
  methods := #[]
  instanceTypes := #[]
  staticTypes := #[]
  resolved := Array.replicate 12 none
  statics := none }

def pool4 : Array CpInfo := pool [(2, .class_ 4), (1, u "java/lang/CharSequence"), (42, .class_ 48), (0, u "java/lang/CharSequence$1CodePointIterator"), (10, .class_ 60), (0, u "java/lang/CharSequence$1CharIterator"), (5, .class_ 67), (0, u "java/lang/Object")] 63

/-- java/lang/CharSequence -/
def k4 : Class := { plain "java/lang/CharSequence" (some 0) with
  accessFlags := 1537
  interfaces := #[]
  cf := some (fileOf pool4 2 #[.nestMembers #[47, 59]] #[] 1537 66 #[] #[])
  fields := #[]
  methods := #[]
  instanceTypes := #[]
  staticTypes := #[]
  resolved := Array.replicate 131 none
  statics := none }

def pool5 : Array CpInfo := pool [(1, .class_ 2), (0, u "java/lang/constant/Constable"), (0, .class_ 4), (0, u "java/lang/Object")] 6

/-- java/lang/constant/Constable -/
def k5 : Class := { plain "java/lang/constant/Constable" (some 0) with
  accessFlags := 1537
  interfaces := #[]
  cf := some (fileOf pool5 1 #[] #[] 1537 3 #[] #[])
  fields := #[]
  methods := #[]
  instanceTypes := #[]
  staticTypes := #[]
  resolved := Array.replicate 11 none
  statics := none }

def pool6 : Array CpInfo := pool [(1, .class_ 2), (0, u "java/lang/constant/ConstantDesc"), (0, .class_ 4), (0, u "java/lang/Object")] 32

/-- java/lang/constant/ConstantDesc -/
def k6 : Class := { plain "java/lang/constant/ConstantDesc" (some 0) with
  accessFlags := 1537
  interfaces := #[]
  cf := some (fileOf pool6 1 #[] #[] 1537 3 #[] #[])
  fields := #[]
  methods := #[]
  instanceTypes := #[]
  staticTypes := #[]
  resolved := Array.replicate 37 none
  statics := none }

def pool7 : Array CpInfo := pool [(1, .methodref 2 3), (0, .class_ 4), (0, .nameAndType 5 6), (0, u "java/lang/Object"), (0, u "<init>"), (0, u "()V"), (2, .fieldref 10 11), (0, .class_ 12), (0, .nameAndType 13 14), (0, u "java/lang/String"), (0, u "value"), (0, u "[B"), (0, .fieldref 10 16), (0, .nameAndType 17 18), (0, u "coder"), (0, u "B"), (2, u "hash"), (0, u "I"), (2, u "hashIsZero"), (0, u "Z"), (11, .fieldref 10 39), (0, .nameAndType 40 26), (0, u "COMPACT_STRINGS"), (12, u "toBytes"), (53, .class_ 109), (1, u "java/lang/StringLatin1"), (99, .methodref 10 210), (0, .nameAndType 5 211), (0, u "([BB)V"), (157, u "(C)Z"), (205, .class_ 576), (0, u "java/lang/CharSequence"), (22, u "CASE_INSENSITIVE_ORDER"), (0, u "Ljava/util/Comparator;"), (181, u "valueOf"), (0, u "(C)Ljava/lang/String;"), (231, .methodref 107 1016), (0, .nameAndType 1017 369), (0, u "canEncode"), (0, .methodref 107 1019), (0, .nameAndType 53 1020), (0, u "(C)[B"), (80, u "serialPersistentFields"), (0, u "[Ljava/io/ObjectStreamField;"), (0, .class_ 1104), (0, u "java/lang/String$CaseInsensitiveComparator"), (1, .class_ 1107), (0, u "java/io/Serializable"), (0, .class_ 1109), (0, u "java/lang/Comparable"), (0, .class_ 1111), (0, u "java/lang/constant/Constable"), (0, .class_ 1113), (0, u "java/lang/constant/ConstantDesc"), (2, u "serialVersionUID"), (0, u "J"), (3, u "REPL"), (0, u "C"), (2, u "LATIN1"), (1, u "UTF16")] 323

def k7m0 : Method := { name := "<init>", desc := "()V", sig := { parameters := [], returnType := none }, accessFlags := 1, code := none }
def k7c1 : Code := { maxStack := 4, maxLocals := 1, code := jdk_42_method_139_code, exceptionTable := #[], attributes := #[] }
def k7m1 : Method := { name := "valueOf", desc := "(C)Ljava/lang/String;", sig := { parameters := [.char], returnType := some (.object "java/lang/String") }, accessFlags := 9, code := some k7c1 }
def k7c2 : Code := { maxStack := 2, maxLocals := 3, code := jdk_42_method_151_code, exceptionTable := #[], attributes := #[] }
def k7m2 : Method := { name := "<init>", desc := "([BB)V", sig := { parameters := [(.array .byte), .byte], returnType := none }, accessFlags := 0, code := some k7c2 }
/-- java/lang/String -/
def k7 : Class := { plain "java/lang/String" (some 0) with
  accessFlags := 49
  interfaces := #[2, 3, 4, 5, 6]
  cf := some (fileOf pool7 10 #[.nestMembers #[1103]] #[{ accessFlags := 1, nameIndex := 5, descriptorIndex := 6, attributes := #[] }, { accessFlags := 9, nameIndex := 782, descriptorIndex := 783, attributes := #[] }, { accessFlags := 0, nameIndex := 5, descriptorIndex := 211, attributes := #[] }] 49 2 #[1106, 1108, 575, 1110, 1112] #[{ accessFlags := 18, nameIndex := 13, descriptorIndex := 14, attributes := #[] }, { accessFlags := 18, nameIndex := 17, descriptorIndex := 18, attributes := #[] }, { accessFlags := 2, nameIndex := 21, descriptorIndex := 22, attributes := #[] }, { accessFlags := 2, nameIndex := 25, descriptorIndex := 26, attributes := #[] }, { accessFlags := 26, nameIndex := 1116, descriptorIndex := 1117, attributes := #[] }, { accessFlags := 24, nameIndex := 40, descriptorIndex := 26, attributes := #[] }, { accessFlags := 26, nameIndex := 1101, descriptorIndex := 1102, attributes := #[] }, { accessFlags := 26, nameIndex := 1121, descriptorIndex := 1122, attributes := #[] }, { accessFlags := 25, nameIndex := 599, descriptorIndex := 600, attributes := #[] }, { accessFlags := 24, nameIndex := 1125, descriptorIndex := 18, attributes := #[] }, { accessFlags := 24, nameIndex := 1127, descriptorIndex := 18, attributes := #[] }])
  fields := #[{ name := "value", type := (.array .byte), accessFlags := 18, slot := 0, constantValue := 0 }, { name := "coder", type := .byte, accessFlags := 18, slot := 1, constantValue := 0 }, { name := "hash", type := .int, accessFlags := 2, slot := 2, constantValue := 0 }, { name := "hashIsZero", type := .boolean, accessFlags := 2, slot := 3, constantValue := 0 }, { name := "serialVersionUID", type := .long, accessFlags := 26, slot := 0, constantValue := 0 }, { name := "COMPACT_STRINGS", type := .boolean, accessFlags := 24, slot := 1, constantValue := 0 }, { name := "serialPersistentFields", type := (.array (.object "java/io/ObjectStreamField")), accessFlags := 26, slot := 2, constantValue := 0 }, { name := "REPL", type := .char, accessFlags := 26, slot := 3, constantValue := 0 }, { name := "CASE_INSENSITIVE_ORDER", type := (.object "java/util/Comparator"), accessFlags := 25, slot := 4, constantValue := 0 }, { name := "LATIN1", type := .byte, accessFlags := 24, slot := 5, constantValue := 0 }, { name := "UTF16", type := .byte, accessFlags := 24, slot := 6, constantValue := 0 }]
  methods := #[k7m0, k7m1, k7m2]
  instanceTypes := #[(.array .byte), .byte, .int, .boolean]
  staticTypes := #[.long, .boolean, (.array (.object "java/io/ObjectStreamField")), .char, (.object "java/util/Comparator"), .byte, .byte]
  resolved := Array.replicate 1451 none
  statics := some 0 }

def pool8 : Array CpInfo := pool [(4, .class_ 6), (1, u "java/lang/Object"), (0, u "<init>"), (0, u "()V"), (5, .class_ 16), (1, u "java/lang/StringLatin1"), (73, u "canEncode"), (14, u "(C)Z"), (15, u "$assertionsDisabled"), (0, u "Z"), (98, .class_ 223), (1, u "java/lang/StringLatin1$LinesSpliterator"), (156, u "toBytes"), (1, u "(C)[B"), (7, .class_ 391), (0, u "java/lang/StringLatin1$CharsSpliterator")] 3

def k8m0 : Method := { name := "<init>", desc := "()V", sig := { parameters := [], returnType := none }, accessFlags := 0, code := none }
def k8c1 : Code := { maxStack := 2, maxLocals := 1, code := jdk_43_method_3_code, exceptionTable := #[], attributes := #[] }
def k8m1 : Method := { name := "canEncode", desc := "(C)Z", sig := { parameters := [.char], returnType := some .boolean }, accessFlags := 9, code := some k8c1 }
def k8c2 : Code := { maxStack := 4, maxLocals := 1, code := jdk_43_method_46_code, exceptionTable := #[], attributes := #[] }
def k8m2 : Method := { name := "toBytes", desc := "(C)[B", sig := { parameters := [.char], returnType := some (.array .byte) }, accessFlags := 9, code := some k8c2 }
/-- java/lang/StringLatin1 -/
def k8 : Class := { plain "java/lang/StringLatin1" (some 0) with
  accessFlags := 48
  interfaces := #[]
  cf := some (fileOf pool8 14 #[.nestMembers #[390, 221]] #[{ accessFlags := 0, nameIndex := 7, descriptorIndex := 8, attributes := #[] }, { accessFlags := 9, nameIndex := 90, descriptorIndex := 105, attributes := #[] }, { accessFlags := 9, nameIndex := 380, descriptorIndex := 382, attributes := #[] }] 48 4 #[] #[{ accessFlags := 4120, nameIndex := 121, descriptorIndex := 122, attributes := #[] }])
  fields := #[{ name := "$assertionsDisabled", type := .boolean, accessFlags := 4120, slot := 0, constantValue := 0 }]
  methods := #[k8m0, k8m1, k8m2]
  instanceTypes := #[]
  staticTypes := #[.boolean]
  resolved := Array.replicate 395 none
  statics := none }

def pool9 : Array CpInfo := pool [(1, .methodref 2 3), (0, .class_ 4), (0, .nameAndType 5 6), (0, u "java/lang/Object"), (0, u "<init>"), (0, u "()V"), (0, .class_ 8), (0, u "java/lang/Record")] 13

def k9c0 : Code := { maxStack := 1, maxLocals := 1, code := jdk_30_method_1_code, exceptionTable := #[], attributes := #[] }
def k9m0 : Method := { name := "<init>", desc := "()V", sig := { parameters := [], returnType := none }, accessFlags := 4, code := some k9c0 }
/-- java/lang/Record -/
def k9 : Class := { plain "java/lang/Record" (some 0) with
  accessFlags := 1057
  interfaces := #[]
  cf := some (fileOf pool9 7 #[] #[{ accessFlags := 4, nameIndex := 5, descriptorIndex := 6, attributes := #[] }] 1057 2 #[] #[])
  fields := #[]
  methods := #[k9m0]
  instanceTypes := #[]
  staticTypes := #[]
  resolved := Array.replicate 22 none
  statics := none }

def pool10 : Array CpInfo := pool [(1, .methodref 2 3), (0, .class_ 4), (0, .nameAndType 5 6), (0, u "java/lang/Record"), (0, u "<init>"), (0, u "()V"), (0, .fieldref 8 9), (0, .class_ 10), (0, .nameAndType 11 12), (0, u "com/example/gauge_terms/gaugeterms/necessity/TermNecessity"), (0, u "topic"), (0, u "Ljava/lang/String;"), (0, .fieldref 8 14), (0, .nameAndType 15 12), (0, u "term"), (0, .fieldref 8 17), (0, .nameAndType 18 19), (0, u "relevantWithTerm"), (0, u "I"), (0, .fieldref 8 21), (0, .nameAndType 22 19), (0, u "relevant"), (0, .double 4611686018427387904), (13, u "(Ljava/lang/String;Ljava/lang/String;II)V"), (3, u "necessity"), (0, u "()D")] 26

def k10c0 : Code := { maxStack := 2, maxLocals := 5, code := prog_24_method_1_code, exceptionTable := #[], attributes := #[] }
def k10m0 : Method := { name := "<init>", desc := "(Ljava/lang/String;Ljava/lang/String;II)V", sig := { parameters := [(.object "java/lang/String"), (.object "java/lang/String"), .int, .int], returnType := none }, accessFlags := 1, code := some k10c0 }
def k10c1 : Code := { maxStack := 6, maxLocals := 1, code := prog_24_method_2_code, exceptionTable := #[], attributes := #[] }
def k10m1 : Method := { name := "necessity", desc := "()D", sig := { parameters := [], returnType := some .double }, accessFlags := 1, code := some k10c1 }
/-- com/example/gauge_terms/gaugeterms/necessity/TermNecessity -/
def k10 : Class := { plain "com/example/gauge_terms/gaugeterms/necessity/TermNecessity" (some 9) with
  accessFlags := 49
  interfaces := #[]
  cf := some (fileOf pool10 8 #[] #[{ accessFlags := 1, nameIndex := 5, descriptorIndex := 37, attributes := #[] }, { accessFlags := 1, nameIndex := 41, descriptorIndex := 42, attributes := #[] }] 49 2 #[] #[{ accessFlags := 18, nameIndex := 11, descriptorIndex := 12, attributes := #[] }, { accessFlags := 18, nameIndex := 15, descriptorIndex := 12, attributes := #[] }, { accessFlags := 18, nameIndex := 18, descriptorIndex := 19, attributes := #[] }, { accessFlags := 18, nameIndex := 22, descriptorIndex := 19, attributes := #[] }])
  fields := #[{ name := "topic", type := (.object "java/lang/String"), accessFlags := 18, slot := 0, constantValue := 0 }, { name := "term", type := (.object "java/lang/String"), accessFlags := 18, slot := 1, constantValue := 0 }, { name := "relevantWithTerm", type := .int, accessFlags := 18, slot := 2, constantValue := 0 }, { name := "relevant", type := .int, accessFlags := 18, slot := 3, constantValue := 0 }]
  methods := #[k10m0, k10m1]
  instanceTypes := #[(.object "java/lang/String"), (.object "java/lang/String"), .int, .int]
  staticTypes := #[]
  resolved := Array.replicate 69 none
  statics := none }

def pool11 : Array CpInfo := pool [(2, .class_ 4), (1, u "java/lang/Object"), (0, u "<init>"), (0, u "()V"), (17, .class_ 26), (1, u "jdk/internal/util/Preconditions"), (28, .class_ 56), (0, u "jdk/internal/util/Preconditions$4"), (57, .class_ 115), (0, u "jdk/internal/util/Preconditions$1"), (7, u "SIOOBE_FORMATTER"), (0, u "Ljava/util/function/BiFunction;"), (0, .class_ 126), (0, u "jdk/internal/util/Preconditions$2"), (3, u "AIOOBE_FORMATTER"), (0, .class_ 132), (0, u "jdk/internal/util/Preconditions$3"), (3, u "IOOBE_FORMATTER")] 57

def k11m0 : Method := { name := "<init>", desc := "()V", sig := { parameters := [], returnType := none }, accessFlags := 1, code := none }
/-- jdk/internal/util/Preconditions -/
def k11 : Class := { plain "jdk/internal/util/Preconditions" (some 0) with
  accessFlags := 33
  interfaces := #[]
  cf := some (fileOf pool11 24 #[.nestMembers #[55, 131, 125, 114]] #[{ accessFlags := 1, nameIndex := 5, descriptorIndex := 6, attributes := #[] }] 33 2 #[] #[{ accessFlags := 25, nameIndex := 123, descriptorIndex := 124, attributes := #[] }, { accessFlags := 25, nameIndex := 130, descriptorIndex := 124, attributes := #[] }, { accessFlags := 25, nameIndex := 136, descriptorIndex := 124, attributes := #[] }])
  fields := #[{ name := "SIOOBE_FORMATTER", type := (.object "java/util/function/BiFunction"), accessFlags := 25, slot := 0, constantValue := 0 }, { name := "AIOOBE_FORMATTER", type := (.object "java/util/function/BiFunction"), accessFlags := 25, slot := 1, constantValue := 0 }, { name := "IOOBE_FORMATTER", type := (.object "java/util/function/BiFunction"), accessFlags := 25, slot := 2, constantValue := 0 }]
  methods := #[k11m0]
  instanceTypes := #[]
  staticTypes := #[(.object "java/util/function/BiFunction"), (.object "java/util/function/BiFunction"), (.object "java/util/function/BiFunction")]
  resolved := Array.replicate 194 none
  statics := some 1 }

def pool12 : Array CpInfo := pool [(9, u "<init>"), (6, .class_ 18), (1, u "java/lang/Object"), (0, u "()V"), (1, .class_ 23), (1, u "jdk/internal/util/ArraysSupport"), (0, u "LOG2_ARRAY_LONG_INDEX_SCALE"), (0, u "I"), (2, u "U"), (0, u "Ljdk/internal/misc/Unsafe;"), (8, u "BIG_ENDIAN"), (0, u "Z"), (8, u "LOG2_BYTE_BIT_SIZE"), (4, u "LOG2_ARRAY_INT_INDEX_SCALE"), (54, u "JLA"), (0, u "Ljdk/internal/access/JavaLangAccess;"), (11, u "LOG2_ARRAY_BOOLEAN_INDEX_SCALE"), (9, u "LOG2_ARRAY_BYTE_INDEX_SCALE"), (5, u "LOG2_ARRAY_CHAR_INDEX_SCALE"), (5, u "LOG2_ARRAY_SHORT_INDEX_SCALE"), (18, u "LOG2_ARRAY_FLOAT_INDEX_SCALE"), (24, u "LOG2_ARRAY_DOUBLE_INDEX_SCALE"), (89, u "T_BOOLEAN"), (2, u "T_CHAR"), (1, u "T_FLOAT"), (1, u "T_DOUBLE"), (1, u "T_BYTE"), (1, u "T_SHORT"), (1, u "T_INT"), (1, u "T_LONG"), (1, u "SOFT_MAX_ARRAY_LENGTH")] 83

def k12m0 : Method := { name := "<init>", desc := "()V", sig := { parameters := [], returnType := none }, accessFlags := 2, code := none }
/-- jdk/internal/util/ArraysSupport -/
def k12 : Class := { plain "jdk/internal/util/ArraysSupport" (some 0) with
  accessFlags := 33
  interfaces := #[]
  cf := some (fileOf pool12 21 #[] #[{ accessFlags := 2, nameIndex := 9, descriptorIndex := 19, attributes := #[] }] 33 16 #[] #[{ accessFlags := 24, nameIndex := 28, descriptorIndex := 29, attributes := #[] }, { accessFlags := 26, nameIndex := 38, descriptorIndex := 39, attributes := #[] }, { accessFlags := 25, nameIndex := 121, descriptorIndex := 25, attributes := #[] }, { accessFlags := 25, nameIndex := 131, descriptorIndex := 25, attributes := #[] }, { accessFlags := 25, nameIndex := 137, descriptorIndex := 25, attributes := #[] }, { accessFlags := 25, nameIndex := 143, descriptorIndex := 25, attributes := #[] }, { accessFlags := 25, nameIndex := 53, descriptorIndex := 25, attributes := #[] }, { accessFlags := 25, nameIndex := 24, descriptorIndex := 25, attributes := #[] }, { accessFlags := 25, nameIndex := 162, descriptorIndex := 25, attributes := #[] }, { accessFlags := 25, nameIndex := 187, descriptorIndex := 25, attributes := #[] }, { accessFlags := 26, nameIndex := 48, descriptorIndex := 25, attributes := #[] }, { accessFlags := 25, nameIndex := 277, descriptorIndex := 25, attributes := #[] }, { accessFlags := 25, nameIndex := 280, descriptorIndex := 25, attributes := #[] }, { accessFlags := 25, nameIndex := 282, descriptorIndex := 25, attributes := #[] }, { accessFlags := 25, nameIndex := 284, descriptorIndex := 25, attributes := #[] }, { accessFlags := 25, nameIndex := 286, descriptorIndex := 25, attributes := #[] }, { accessFlags := 25, nameIndex := 288, descriptorIndex := 25, attributes := #[] }, { accessFlags := 25, nameIndex := 290, descriptorIndex := 25, attributes := #[] }, { accessFlags := 25, nameIndex := 292, descriptorIndex := 25, attributes := #[] }, { accessFlags := 26, nameIndex := 108, descriptorIndex := 109, attributes := #[] }, { accessFlags := 25, nameIndex := 294, descriptorIndex := 25, attributes := #[] }])
  fields := #[{ name := "U", type := (.object "jdk/internal/misc/Unsafe"), accessFlags := 24, slot := 0, constantValue := 0 }, { name := "BIG_ENDIAN", type := .boolean, accessFlags := 26, slot := 1, constantValue := 0 }, { name := "LOG2_ARRAY_BOOLEAN_INDEX_SCALE", type := .int, accessFlags := 25, slot := 2, constantValue := 0 }, { name := "LOG2_ARRAY_BYTE_INDEX_SCALE", type := .int, accessFlags := 25, slot := 3, constantValue := 0 }, { name := "LOG2_ARRAY_CHAR_INDEX_SCALE", type := .int, accessFlags := 25, slot := 4, constantValue := 0 }, { name := "LOG2_ARRAY_SHORT_INDEX_SCALE", type := .int, accessFlags := 25, slot := 5, constantValue := 0 }, { name := "LOG2_ARRAY_INT_INDEX_SCALE", type := .int, accessFlags := 25, slot := 6, constantValue := 0 }, { name := "LOG2_ARRAY_LONG_INDEX_SCALE", type := .int, accessFlags := 25, slot := 7, constantValue := 0 }, { name := "LOG2_ARRAY_FLOAT_INDEX_SCALE", type := .int, accessFlags := 25, slot := 8, constantValue := 0 }, { name := "LOG2_ARRAY_DOUBLE_INDEX_SCALE", type := .int, accessFlags := 25, slot := 9, constantValue := 0 }, { name := "LOG2_BYTE_BIT_SIZE", type := .int, accessFlags := 26, slot := 10, constantValue := 0 }, { name := "T_BOOLEAN", type := .int, accessFlags := 25, slot := 11, constantValue := 0 }, { name := "T_CHAR", type := .int, accessFlags := 25, slot := 12, constantValue := 0 }, { name := "T_FLOAT", type := .int, accessFlags := 25, slot := 13, constantValue := 0 }, { name := "T_DOUBLE", type := .int, accessFlags := 25, slot := 14, constantValue := 0 }, { name := "T_BYTE", type := .int, accessFlags := 25, slot := 15, constantValue := 0 }, { name := "T_SHORT", type := .int, accessFlags := 25, slot := 16, constantValue := 0 }, { name := "T_INT", type := .int, accessFlags := 25, slot := 17, constantValue := 0 }, { name := "T_LONG", type := .int, accessFlags := 25, slot := 18, constantValue := 0 }, { name := "JLA", type := (.object "jdk/internal/access/JavaLangAccess"), accessFlags := 26, slot := 19, constantValue := 0 }, { name := "SOFT_MAX_ARRAY_LENGTH", type := .int, accessFlags := 25, slot := 20, constantValue := 0 }]
  methods := #[k12m0]
  instanceTypes := #[]
  staticTypes := #[(.object "jdk/internal/misc/Unsafe"), .boolean, .int, .int, .int, .int, .int, .int, .int, .int, .int, .int, .int, .int, .int, .int, .int, .int, .int, (.object "jdk/internal/access/JavaLangAccess"), .int]
  resolved := Array.replicate 378 none
  statics := none }

def pool13 : Array CpInfo := pool [(1, u "java/lang/Cloneable"), (0, .class_ 1), (0, u "java/lang/Object"), (0, .class_ 3)] 3

/-- java/lang/Cloneable -/
def k13 : Class := { plain "java/lang/Cloneable" (some 0) with
  accessFlags := 1537
  interfaces := #[]
  cf := some (fileOf pool13 2 #[] #[] 1537 4 #[] #[])
  fields := #[]
  methods := #[]
  instanceTypes := #[]
  staticTypes := #[]
  resolved := Array.replicate 8 none
  statics := none }

/-- the primitive byte -/
def k14 : Class := { plain "byte" none with kind := .primitive 'B', accessFlags := 0x411 }
/-- [B -/
def k15 : Class := { plain "[B" (some 0) with kind := .array 14 .byte, interfaces := #[13, 2], accessFlags := 1041 }

/-- the primitive int -/
def k16 : Class := { plain "int" none with kind := .primitive 'I', accessFlags := 0x411 }
/-- [I -/
def k17 : Class := { plain "[I" (some 0) with kind := .array 16 .int, interfaces := #[13, 2], accessFlags := 1041 }

def heap : Heap := #[{ cls := 7, slots := #[.long 0, .int 1, .null, .int 0, .null, .int 0, .int 0], vm := .statics 7 },
  { cls := 11, slots := #[.null, .null, .null], vm := .statics 11 }]
def classes : Array Class := #[k0, k1, k2, k3, k4, k5, k6, k7, k8, k9, k10, k11, k12, k13, k14, k15, k16, k17]
def interned : List (Array UInt16 × Addr) := []
def slotsUsed : Nat := 10
def theMethod : MethodId := ⟨1, 1⟩
def args0 : Array Value := #[.int 5, .int 9, .int 3]
def aboutOver (below : List Frame) : State where
  vm := { classes := classes, interned := interned.toArray }
  heap := heap
  slotsUsed := slotsUsed
  threads := #[{ frames := .invoking theMethod args0 :: below }]
def below0 : List Frame := [.native { method := ⟨0, 0⟩, args := #[] }]
def about1 : State := aboutOver below0
def p0 : Program := .bare "" "" ""
def e0 : Env := launch0.env 0 0 0
theorem w_frames : about1.frames = Frame.invoking theMethod args0 :: below0 := rfl
set_option maxRecDepth 65536 in
theorem w_args : argsFit about1.vm theMethod args0 = true := by decide +kernel
set_option maxRecDepth 65536 in
theorem w_heap : heapFits about1 = true := by decide +kernel
set_option maxRecDepth 65536 in
theorem w_runnable : about1.curStatus? = some .runnable := by decide +kernel
set_option maxRecDepth 65536 in
theorem w_alone : about1.alone = true := by decide +kernel
set_option maxRecDepth 65536 in
theorem w_named : about1.methodNamed? x = some theMethod := by decide +kernel
set_option maxRecDepth 65536 in
theorem w_hears : about1.hears theMethod below0 = true := by decide +kernel
set_option maxRecDepth 65536 in
theorem w_ripe : about1.ripe theMethod args0 below0 = true := by decide +kernel
theorem w_running : about1.status = .running := rfl
set_option maxRecDepth 65536 in
theorem w_room : about1.hasRoom e0.platform room_1 = true :=
  launch0.hasRoom_least _ room_1 (by decide +kernel) (by decide +kernel) (by decide +kernel) (by decide +kernel) (by decide +kernel) (by decide +kernel)
theorem allAtoms_all (ts : List Jvm.Cond) (a : Array Jvm.Value) (st : Jvm.State) : (allAtoms ts).before a st = ts.all (fun c => c.before a st) := by
  induction ts with
  | nil => rfl
  | cons c t ih =>
    show (Jvm.Cond.and c (allAtoms t)).before a st = _
    rw [Jvm.Cond.before_and, ih, List.all_cons]
def words1 : List Jvm.Cond := Jvm.Cond.code x code maxLocals ret :: tables_1
/-- a 'code' word, met by the world's own term for the bytes: nothing is compared byte by byte -/
theorem code_word {y : MethodName} {bytes : ByteArray} {mx : Nat} {rt : Option FieldType} {a : Array Value} {s : State} {m : MethodId} {meth : Method} {c : Code} (h1 : s.methodNamed? y = some m) (h2 : s.vm.method? m = some meth) (h3 : meth.code = some c) (h4 : c.code = bytes)
    (h5 : (c.maxLocals == mx && c.exceptionTable.isEmpty && decide (c.maxStack ≤ mostOperands) && decide (meth.sig.returnType = rt) && !meth.locks && decide (parseMethodDescriptor y.desc = some meth.sig)) = true) : (Jvm.Cond.code y bytes mx rt).before a s = true := by
  simp only [Bool.and_eq_true, beq_iff_eq, Bool.not_eq_true', decide_eq_true_eq] at h5
  obtain ⟨⟨⟨⟨⟨g1, g2⟩, g3⟩, g4⟩, g5⟩, g6⟩ := h5
  simp [Cond.before, Cond.holds, Cond.value, h1, h2, h3, h4, g1, g2, g3, g4, g5, g6]
def isCode : Jvm.Cond → Bool
  | .code _ _ _ _ => true
  | _ => false
theorem all_split {L : List Jvm.Cond} {P : Jvm.Cond → Bool} (h1 : L.all (fun c => isCode c || P c) = true) (h2 : ∀ c ∈ L.filter isCode, P c = true) : L.all P = true := by
  refine List.all_eq_true.mpr fun c hc => ?_
  have h := List.all_eq_true.mp h1 c hc
  rcases Bool.eq_false_or_eq_true (isCode c) with hi | hi
  · exact h2 c (List.mem_filter.mpr ⟨hc, hi⟩)
  · simpa [hi] using h
set_option maxRecDepth 65536 in
theorem w_c0 : (Jvm.Cond.code x code maxLocals ret).before args0 about1 = true := code_word (m := ⟨1, 1⟩) (meth := k1m1) (c := k1c1) (by decide +kernel) rfl rfl rfl (by decide +kernel)
set_option maxRecDepth 65536 in
theorem w_c1 : (Jvm.Cond.code ({ cls := "java/lang/String", name := "valueOf", desc := "(C)Ljava/lang/String;" } : Jvm.MethodName) jdk_42_method_139_code (1 : Nat) (Option.some (Jvm.ClassFile.FieldType.object "java/lang/String"))).before args0 about1 = true := code_word (m := ⟨7, 1⟩) (meth := k7m1) (c := k7c1) (by decide +kernel) rfl rfl rfl (by decide +kernel)
set_option maxRecDepth 65536 in
theorem w_c2 : (Jvm.Cond.code ({ cls := "java/lang/StringLatin1", name := "canEncode", desc := "(C)Z" } : Jvm.MethodName) jdk_43_method_3_code (1 : Nat) (Option.some Jvm.ClassFile.FieldType.boolean)).before args0 about1 = true := code_word (m := ⟨8, 1⟩) (meth := k8m1) (c := k8c1) (by decide +kernel) rfl rfl rfl (by decide +kernel)
set_option maxRecDepth 65536 in
theorem w_c3 : (Jvm.Cond.code ({ cls := "java/lang/StringLatin1", name := "toBytes", desc := "(C)[B" } : Jvm.MethodName) jdk_43_method_46_code (1 : Nat) (Option.some (Jvm.ClassFile.FieldType.array Jvm.ClassFile.FieldType.byte))).before args0 about1 = true := code_word (m := ⟨8, 2⟩) (meth := k8m2) (c := k8c2) (by decide +kernel) rfl rfl rfl (by decide +kernel)
set_option maxRecDepth 65536 in
theorem w_c4 : (Jvm.Cond.code ({ cls := "java/lang/String", name := "<init>", desc := "([BB)V" } : Jvm.MethodName) jdk_42_method_151_code (3 : Nat) (Option.none : Option Jvm.ClassFile.FieldType)).before args0 about1 = true := code_word (m := ⟨7, 2⟩) (meth := k7m2) (c := k7c2) (by decide +kernel) rfl rfl rfl (by decide +kernel)
set_option maxRecDepth 65536 in
theorem w_c5 : (Jvm.Cond.code ({ cls := "java/lang/Object", name := "<init>", desc := "()V" } : Jvm.MethodName) object_method_1_code (1 : Nat) (Option.none : Option Jvm.ClassFile.FieldType)).before args0 about1 = true := code_word (m := ⟨0, 0⟩) (meth := k0m0) (c := k0c0) (by decide +kernel) rfl rfl rfl (by decide +kernel)
set_option maxRecDepth 65536 in
theorem w_c6 : (Jvm.Cond.code ({ cls := "com/example/gauge_terms/gaugeterms/necessity/TermNecessity", name := "<init>", desc := "(Ljava/lang/String;Ljava/lang/String;II)V" } : Jvm.MethodName) prog_24_method_1_code (5 : Nat) (Option.none : Option Jvm.ClassFile.FieldType)).before args0 about1 = true := code_word (m := ⟨10, 0⟩) (meth := k10m0) (c := k10c0) (by decide +kernel) rfl rfl rfl (by decide +kernel)
set_option maxRecDepth 65536 in
theorem w_c7 : (Jvm.Cond.code ({ cls := "java/lang/Record", name := "<init>", desc := "()V" } : Jvm.MethodName) jdk_30_method_1_code (1 : Nat) (Option.none : Option Jvm.ClassFile.FieldType)).before args0 about1 = true := code_word (m := ⟨9, 0⟩) (meth := k9m0) (c := k9c0) (by decide +kernel) rfl rfl rfl (by decide +kernel)
set_option maxRecDepth 65536 in
theorem w_c8 : (Jvm.Cond.code ({ cls := "com/example/gauge_terms/gaugeterms/necessity/TermNecessity", name := "necessity", desc := "()D" } : Jvm.MethodName) prog_24_method_2_code (1 : Nat) (Option.some Jvm.ClassFile.FieldType.double)).before args0 about1 = true := code_word (m := ⟨10, 1⟩) (meth := k10m1) (c := k10c1) (by decide +kernel) rfl rfl rfl (by decide +kernel)
def codes1 : List Jvm.Cond := [Jvm.Cond.code x code maxLocals ret, Jvm.Cond.code ({ cls := "java/lang/String", name := "valueOf", desc := "(C)Ljava/lang/String;" } : Jvm.MethodName) jdk_42_method_139_code (1 : Nat) (Option.some (Jvm.ClassFile.FieldType.object "java/lang/String")), Jvm.Cond.code ({ cls := "java/lang/StringLatin1", name := "canEncode", desc := "(C)Z" } : Jvm.MethodName) jdk_43_method_3_code (1 : Nat) (Option.some Jvm.ClassFile.FieldType.boolean), Jvm.Cond.code ({ cls := "java/lang/StringLatin1", name := "toBytes", desc := "(C)[B" } : Jvm.MethodName) jdk_43_method_46_code (1 : Nat) (Option.some (Jvm.ClassFile.FieldType.array Jvm.ClassFile.FieldType.byte)), Jvm.Cond.code ({ cls := "java/lang/String", name := "<init>", desc := "([BB)V" } : Jvm.MethodName) jdk_42_method_151_code (3 : Nat) (Option.none : Option Jvm.ClassFile.FieldType), Jvm.Cond.code ({ cls := "java/lang/Object", name := "<init>", desc := "()V" } : Jvm.MethodName) object_method_1_code (1 : Nat) (Option.none : Option Jvm.ClassFile.FieldType), Jvm.Cond.code ({ cls := "com/example/gauge_terms/gaugeterms/necessity/TermNecessity", name := "<init>", desc := "(Ljava/lang/String;Ljava/lang/String;II)V" } : Jvm.MethodName) prog_24_method_1_code (5 : Nat) (Option.none : Option Jvm.ClassFile.FieldType), Jvm.Cond.code ({ cls := "java/lang/Record", name := "<init>", desc := "()V" } : Jvm.MethodName) jdk_30_method_1_code (1 : Nat) (Option.none : Option Jvm.ClassFile.FieldType), Jvm.Cond.code ({ cls := "com/example/gauge_terms/gaugeterms/necessity/TermNecessity", name := "necessity", desc := "()D" } : Jvm.MethodName) prog_24_method_2_code (1 : Nat) (Option.some Jvm.ClassFile.FieldType.double)]
set_option maxRecDepth 65536 in
theorem codes_eq : words1.filter isCode = codes1 := rfl
theorem w_codes : ∀ c ∈ words1.filter isCode, c.before args0 about1 = true := by
  rw [codes_eq]
  intro c hc
  simp only [codes1, List.mem_cons, List.not_mem_nil, or_false] at hc
  rcases hc with rfl | rfl | rfl | rfl | rfl | rfl | rfl | rfl | rfl
  · exact w_c0
  · exact w_c1
  · exact w_c2
  · exact w_c3
  · exact w_c4
  · exact w_c5
  · exact w_c6
  · exact w_c7
  · exact w_c8
set_option maxRecDepth 65536 in
theorem w_t1 : (words1.take 24).all (fun c => isCode c || c.before args0 about1) = true := by decide +kernel
set_option maxRecDepth 65536 in
theorem w_t2 : ((words1.drop 24).take 24).all (fun c => isCode c || c.before args0 about1) = true := by decide +kernel
set_option maxRecDepth 65536 in
theorem w_t3 : ((words1.drop 24).drop 24).all (fun c => isCode c || c.before args0 about1) = true := by decide +kernel
theorem w_tables : (allAtoms (Jvm.Cond.code x code maxLocals ret :: tables_1)).before args0 about1 = true := by
  rw [allAtoms_all]
  show words1.all (fun c => c.before args0 about1) = true
  refine all_split ?_ w_codes
  rw [← List.take_append_drop 24 words1, List.all_append, w_t1, ← List.take_append_drop 24 (words1.drop 24), List.all_append, w_t2, w_t3]
  rfl
set_option maxRecDepth 65536 in
theorem w_rest : rest_1_c.before args0 about1 = true := by decide +kernel
set_option maxRecDepth 65536 in
theorem w_case : (Jvm.Cond.and given_1 narrow_1).before args0 about1 = true := by decide +kernel
theorem w_applies : (headSpec (Jvm.Cond.code x code maxLocals ret :: tables_1) room_1).applies x e0.platform about1 = true :=
  (Spec.applies_iff w_frames).mpr ⟨w_running, w_runnable, w_alone, w_named, w_hears, w_ripe, w_room, w_tables⟩
theorem atStart : AtStart classFile x code maxLocals ret World_1 tables_1 room_1 Calls_1 rest_1 Pre_1 launch0 p0 e0 about1 theMethod args0 below0 :=
  ⟨lists_1, trivial, launch0.admits_env _ _ _, launch0.least_env, fairChoices_fair.cas, fairChoices_fair.clock, w_frames, w_args, w_heap, w_applies, trivial, w_rest, w_case⟩
end start1
theorem witness_1 : WitnessClaimed_1 := ⟨start1.p0, start1.e0, start1.about1, start1.theMethod, start1.args0, start1.below0, start1.atStart⟩
end Jvm.Pilot.@@N@@
