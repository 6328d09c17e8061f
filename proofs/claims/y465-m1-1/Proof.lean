import JvmDerived
import JvmDerived.Pilot.@@N@@Statement
import JvmDerived.Pilot.@@N@@Code
set_option linter.unusedVariables false
set_option linter.unusedSimpArgs false
namespace Jvm.OwnKit
open Sem ClassFile Op Lib Jvm.Stand Jvm.Free Jvm.LawKit Jvm.RoadKit
/-- from S the run ends as wanted: it returns v, leaves a heap and has written the places L -/
def Goes (p : Program) (e : Env) (below : List Frame) (s : State) (K N : Nat) (Q : Option Value → Heap → List Loc → Prop) (S : State) : Prop :=
  ∃ s₂ o, Steps p.tables e below S s₂ ∧ s₂.status = .running ∧ Ended s₂ below o ∧ ∃ v L, o = .returned v ∧ Q v s₂.heap L ∧ FrameEnd s o s₂ L K N
def Cl (p : Program) (e : Env) (below : List Frame) (G : State → Prop) : Prop := ∀ S S', (∀ t, Steps p.tables e below S' t → Steps p.tables e below S t) → G S' → G S
theorem Goes.cl (p : Program) (e : Env) (below : List Frame) (s : State) (K N : Nat) (Q : Option Value → Heap → List Loc → Prop) : Cl p e below (Goes p e below s K N Q) := fun S S' h k => by
  obtain ⟨s₂, o, h1, r⟩ := k
  exact ⟨s₂, o, h _ h1, r⟩
/-- a body's contract -/
abbrev Con (l : Launch) (y : MethodName) (bytes : ByteArray) (maxL : Nat) (ret : Option FieldType) (ws : List Jvm.Cond) (rm : Room) (Z : State) (as : Array Value) (h0 : Heap) (K N : Nat) (Q : Option Value → Heap → List Loc → Prop) : Prop :=
  MetFree l y (head1 (Jvm.Cond.code y bytes maxL ret :: ws) rm) (fun a U => a = as ∧ Z.Warmed39 U.vm ∧ U.heap = h0) (fun _ _ _ _ _ => True) (fun _ U o U' => ∃ v L, o = .returned v ∧ Q v U'.heap L ∧ FrameEnd U o U' L K N)
theorem Con.of {l : Launch} {y : MethodName} {bytes : ByteArray} {maxL : Nat} {ret : Option FieldType} {ws : List Jvm.Cond} {rm : Room} {Z : State} {as : Array Value} {h0 : Heap} {K N : Nat} {Q : Option Value → Heap → List Loc → Prop} {Ls : Array Slot}
    (pl : plainFor y = true) (hef : ∀ m, entryFrame m as maxL = mkF m 0 Ls [])
    (H : ∀ (p : Program) (e : Env) (s : State) (m : MethodId) (below : List Frame) (meth : Method) (c : Code) (s₁ : State) (G : State → Prop), G = Goes p e below s K N Q → Cl p e below G → p.tables.exec = Jvm.exec → c.code = bytes → c.maxLocals = maxL → s.vm.findClass y.cls = some m.cls → meth.name = y.name → meth.sig.returnType = ret → meth.locks = false → Z.Warmed39 s.vm → Stand p l e rm s m as below meth c s₁ [] 0 0 → s₁.heap = h0 → G (s₁.setTop (mkF m 0 Ls []))) :
    Con l y bytes maxL ret ws rm Z as h0 K N Q := by
  refine MetFree.of_bodySF pl hisR ?_
  intro p e s m args below meth c s₁ Bd hml0 hP hK
  obtain ⟨rfl, hZ, hh⟩ := hP
  have X0 : Stand p l e rm s m args below meth c s₁ [] 0 0 := Stand.of_body Bd
  have e0 : s₁.heap = h0 := by rw [← hh, Bd.state]; rfl
  have g := H p e s m below meth c s₁ _ rfl (Goes.cl p e below s K N Q) Bd.exec Bd.bytes hml0 (findClass_of_methodNamed Bd.named) (name_of_methodNamed Bd.named Bd.method).1 Bd.returns Bd.notSynchronized hZ X0 e0
  rw [← hef m] at g
  exact g
theorem Wr.size {h h' : Heap} {a : Addr} {sl : Nat} {v : Value} (W : Wr h h' a sl v) : h.size ≤ h'.size := by
  obtain ⟨c, -, -, -, rfl⟩ := W
  simp
section New
variable {p : Program} {l : Launch} {e : Env} {R : Room} {s : State} {m : MethodId} {args : Array Value} {below : List Frame} {meth : Method} {c : Code} {T : State} {locs : List Loc} {cells slots : Nat} {Z : State} {a0 : Array Value} {h : Heap} {G : State → Prop} {pc pc' : Nat} {Ls Ls' : Array Slot} {rest : List Value} {K N : Nat} {Q : Option Value → Heap → List Loc → Prop}
/-! the ends -/
theorem e_ret (hGe : G = Goes p e below s K N Q) (X : Stand p l e R s m args below meth c T locs cells slots) (hx : p.tables.exec = Jvm.exec) {w : Value} {t : FieldType} {i : Instr} (hret : meth.sig.returnType = some t) (hlk : meth.locks = false) (hd : decode c.code pc = .ok (i, 1)) (hn : narrow t w = w)
    (hi : (i = .ireturn ∧ (t = .int ∨ t = .boolean ∨ t = .byte ∨ t = .char ∨ t = .short) ∧ ∃ z, w = .int z) ∨ (i = .lreturn ∧ t = .long ∧ ∃ z, w = .long z) ∨ (i = .dreturn ∧ t = .double ∧ ∃ z, w = .double z) ∨ (i = .freturn ∧ t = .float ∧ ∃ z, w = .float z) ∨ (i = .areturn ∧ t.isReference = true ∧ w.isRef = true))
    (eT : T.heap = h) (hk : cells ≤ K) (hs : slots ≤ N) (hQ : Q (some w) h locs) : G (T.setTop (mkF m pc Ls (w :: rest))) := by
  subst hGe
  obtain ⟨fs, hr, hrun, hended, hW, hsame⟩ := X.leave (v := some w) (fun h => by rw [hret] at h; cases h) hlk
  refine ⟨_, _, retOut X hx hret hn hi hd hr, hrun, hended, _, _, rfl, ?_, ⟨_, rfl⟩, hW, hsame.mono hk hs⟩
  show Q _ T.heap _
  rw [eT]; exact hQ
theorem e_retI (hGe : G = Goes p e below s K N Q) (X : Stand p l e R s m args below meth c T locs cells slots) (hx : p.tables.exec = Jvm.exec) {z : Int32} (hret : meth.sig.returnType = some .int) (hlk : meth.locks = false) (hd : decode c.code pc = .ok (.ireturn, 1)) (eT : T.heap = h) (hk : cells ≤ K) (hs : slots ≤ N) (hQ : Q (some (.int z)) h locs) : G (T.setTop (mkF m pc Ls (.int z :: rest))) :=
  e_ret hGe X hx hret hlk hd rfl (Or.inl ⟨rfl, Or.inl rfl, z, rfl⟩) eT hk hs hQ
theorem e_retJ (hGe : G = Goes p e below s K N Q) (X : Stand p l e R s m args below meth c T locs cells slots) (hx : p.tables.exec = Jvm.exec) {z : Int64} (hret : meth.sig.returnType = some .long) (hlk : meth.locks = false) (hd : decode c.code pc = .ok (.lreturn, 1)) (eT : T.heap = h) (hk : cells ≤ K) (hs : slots ≤ N) (hQ : Q (some (.long z)) h locs) : G (T.setTop (mkF m pc Ls (.long z :: rest))) :=
  e_ret hGe X hx hret hlk hd rfl (Or.inr (Or.inl ⟨rfl, rfl, z, rfl⟩)) eT hk hs hQ
theorem e_retD (hGe : G = Goes p e below s K N Q) (X : Stand p l e R s m args below meth c T locs cells slots) (hx : p.tables.exec = Jvm.exec) {z : UInt64} (hret : meth.sig.returnType = some .double) (hlk : meth.locks = false) (hd : decode c.code pc = .ok (.dreturn, 1)) (eT : T.heap = h) (hk : cells ≤ K) (hs : slots ≤ N) (hQ : Q (some (.double z)) h locs) : G (T.setTop (mkF m pc Ls (.double z :: rest))) :=
  e_ret hGe X hx hret hlk hd rfl (Or.inr (Or.inr (Or.inl ⟨rfl, rfl, z, rfl⟩))) eT hk hs hQ
theorem e_retA (hGe : G = Goes p e below s K N Q) (X : Stand p l e R s m args below meth c T locs cells slots) (hx : p.tables.exec = Jvm.exec) {a : Addr} {t : FieldType} (hret : meth.sig.returnType = some t) (ht : t.isReference = true) (hlk : meth.locks = false) (hd : decode c.code pc = .ok (.areturn, 1)) (eT : T.heap = h) (hk : cells ≤ K) (hs : slots ≤ N) (hQ : Q (some (.ref a)) h locs) : G (T.setTop (mkF m pc Ls (.ref a :: rest))) :=
  e_ret hGe X hx hret hlk hd (by cases t <;> first | rfl | (cases ht)) (Or.inr (Or.inr (Or.inr (Or.inr ⟨rfl, ht, rfl⟩)))) eT hk hs hQ
theorem e_retZ (hGe : G = Goes p e below s K N Q) (X : Stand p l e R s m args below meth c T locs cells slots) (hx : p.tables.exec = Jvm.exec) {z : Int32} (hret : meth.sig.returnType = some .boolean) (hlk : meth.locks = false) (hd : decode c.code pc = .ok (.ireturn, 1)) (hz : z = 0 ∨ z = 1) (eT : T.heap = h) (hk : cells ≤ K) (hs : slots ≤ N) (hQ : Q (some (.int z)) h locs) : G (T.setTop (mkF m pc Ls (.int z :: rest))) :=
  e_ret hGe X hx hret hlk hd (by rcases hz with rfl | rfl <;> rfl) (Or.inl ⟨rfl, Or.inr (Or.inl rfl), z, rfl⟩) eT hk hs hQ
theorem e_ret0 (hGe : G = Goes p e below s K N Q) (X : Stand p l e R s m args below meth c T locs cells slots) (hx : p.tables.exec = Jvm.exec) (hret : meth.sig.returnType = none) (hlk : meth.locks = false) (hd : decode c.code pc = .ok (.return_, 1)) (eT : T.heap = h) (hk : cells ≤ K) (hs : slots ≤ N) (hQ : Q none h locs) : G (T.setTop (mkF m pc Ls [])) := by
  subst hGe
  obtain ⟨fs, hr, hrun, hended, hW, hsame⟩ := X.leave (v := none) (fun _ => rfl) hlk
  refine ⟨_, _, X.returnOut hx hret hd hr, hrun, hended, _, _, rfl, ?_, ⟨_, rfl⟩, hW, hsame.mono hk hs⟩
  show Q _ T.heap _
  rw [eT]; exact hQ
/-! the plain steps -/
theorem g_iload (hG : Cl p e below G) (X : Stand p l e R s m args below meth c T locs cells slots) (hx : p.tables.exec = Jvm.exec) {i : Nat} {v : Int32} (hd : decode c.code pc = .ok (.iload i, 2)) (hp : pc' = pc + 2) (hl : Ls[i]? = some (.val (.int v))) (k : G (T.setTop (mkF m pc' Ls (.int v :: rest)))) : G (T.setTop (mkF m pc Ls (rest))) := by
  subst hp
  refine hG _ _ (fun t ht => ?_) k
  exact XS.iload X.here hx rfl hd hl ht
theorem g_iloadN (hG : Cl p e below G) (X : Stand p l e R s m args below meth c T locs cells slots) (hx : p.tables.exec = Jvm.exec) {i : Fin 4} {v : Int32} (hd : decode c.code pc = .ok (.iload_n i, 1)) (hp : pc' = pc + 1) (hl : Ls[i.val]? = some (.val (.int v))) (k : G (T.setTop (mkF m pc' Ls (.int v :: rest)))) : G (T.setTop (mkF m pc Ls (rest))) := by
  subst hp
  refine hG _ _ (fun t ht => ?_) k
  exact XS.iloadN X.here hx rfl hd hl ht
theorem g_istore (hG : Cl p e below G) (X : Stand p l e R s m args below meth c T locs cells slots) (hx : p.tables.exec = Jvm.exec) {i : Nat} {v : Int32} (hd : decode c.code pc = .ok (.istore i, 2)) (hp : pc' = pc + 2) (hl : storeLocals Ls i (.int v) = some Ls') (k : G (T.setTop (mkF m pc' Ls' (rest)))) : G (T.setTop (mkF m pc Ls (.int v :: rest))) := by
  subst hp
  refine hG _ _ (fun t ht => ?_) k
  exact XS.istore X.here hx rfl hd rfl hl ht
theorem g_istoreN (hG : Cl p e below G) (X : Stand p l e R s m args below meth c T locs cells slots) (hx : p.tables.exec = Jvm.exec) {i : Fin 4} {v : Int32} (hd : decode c.code pc = .ok (.istore_n i, 1)) (hp : pc' = pc + 1) (hl : storeLocals Ls i.val (.int v) = some Ls') (k : G (T.setTop (mkF m pc' Ls' (rest)))) : G (T.setTop (mkF m pc Ls (.int v :: rest))) := by
  subst hp
  refine hG _ _ (fun t ht => ?_) k
  exact XS.istoreN X.here hx rfl hd rfl hl ht
theorem g_lload (hG : Cl p e below G) (X : Stand p l e R s m args below meth c T locs cells slots) (hx : p.tables.exec = Jvm.exec) {i : Nat} {v : Int64} (hd : decode c.code pc = .ok (.lload i, 2)) (hp : pc' = pc + 2) (hl : Ls[i]? = some (.val (.long v))) (k : G (T.setTop (mkF m pc' Ls (.long v :: rest)))) : G (T.setTop (mkF m pc Ls (rest))) := by
  subst hp
  refine hG _ _ (fun t ht => ?_) k
  exact XS.lload X.here hx rfl hd hl ht
theorem g_lloadN (hG : Cl p e below G) (X : Stand p l e R s m args below meth c T locs cells slots) (hx : p.tables.exec = Jvm.exec) {i : Fin 4} {v : Int64} (hd : decode c.code pc = .ok (.lload_n i, 1)) (hp : pc' = pc + 1) (hl : Ls[i.val]? = some (.val (.long v))) (k : G (T.setTop (mkF m pc' Ls (.long v :: rest)))) : G (T.setTop (mkF m pc Ls (rest))) := by
  subst hp
  refine hG _ _ (fun t ht => ?_) k
  exact XS.lloadN X.here hx rfl hd hl ht
theorem g_lstore (hG : Cl p e below G) (X : Stand p l e R s m args below meth c T locs cells slots) (hx : p.tables.exec = Jvm.exec) {i : Nat} {v : Int64} (hd : decode c.code pc = .ok (.lstore i, 2)) (hp : pc' = pc + 2) (hl : storeLocals Ls i (.long v) = some Ls') (k : G (T.setTop (mkF m pc' Ls' (rest)))) : G (T.setTop (mkF m pc Ls (.long v :: rest))) := by
  subst hp
  refine hG _ _ (fun t ht => ?_) k
  exact XS.lstore X.here hx rfl hd rfl hl ht
theorem g_lstoreN (hG : Cl p e below G) (X : Stand p l e R s m args below meth c T locs cells slots) (hx : p.tables.exec = Jvm.exec) {i : Fin 4} {v : Int64} (hd : decode c.code pc = .ok (.lstore_n i, 1)) (hp : pc' = pc + 1) (hl : storeLocals Ls i.val (.long v) = some Ls') (k : G (T.setTop (mkF m pc' Ls' (rest)))) : G (T.setTop (mkF m pc Ls (.long v :: rest))) := by
  subst hp
  refine hG _ _ (fun t ht => ?_) k
  exact XS.lstoreN X.here hx rfl hd rfl hl ht
theorem g_dload (hG : Cl p e below G) (X : Stand p l e R s m args below meth c T locs cells slots) (hx : p.tables.exec = Jvm.exec) {i : Nat} {v : UInt64} (hd : decode c.code pc = .ok (.dload i, 2)) (hp : pc' = pc + 2) (hl : Ls[i]? = some (.val (.double v))) (k : G (T.setTop (mkF m pc' Ls (.double v :: rest)))) : G (T.setTop (mkF m pc Ls (rest))) := by
  subst hp
  refine hG _ _ (fun t ht => ?_) k
  exact XS.dload X.here hx rfl hd hl ht
theorem g_dloadN (hG : Cl p e below G) (X : Stand p l e R s m args below meth c T locs cells slots) (hx : p.tables.exec = Jvm.exec) {i : Fin 4} {v : UInt64} (hd : decode c.code pc = .ok (.dload_n i, 1)) (hp : pc' = pc + 1) (hl : Ls[i.val]? = some (.val (.double v))) (k : G (T.setTop (mkF m pc' Ls (.double v :: rest)))) : G (T.setTop (mkF m pc Ls (rest))) := by
  subst hp
  refine hG _ _ (fun t ht => ?_) k
  exact XS.dloadN X.here hx rfl hd hl ht
theorem g_dstore (hG : Cl p e below G) (X : Stand p l e R s m args below meth c T locs cells slots) (hx : p.tables.exec = Jvm.exec) {i : Nat} {v : UInt64} (hd : decode c.code pc = .ok (.dstore i, 2)) (hp : pc' = pc + 2) (hl : storeLocals Ls i (.double v) = some Ls') (k : G (T.setTop (mkF m pc' Ls' (rest)))) : G (T.setTop (mkF m pc Ls (.double v :: rest))) := by
  subst hp
  refine hG _ _ (fun t ht => ?_) k
  exact XS.dstore X.here hx rfl hd rfl hl ht
theorem g_dstoreN (hG : Cl p e below G) (X : Stand p l e R s m args below meth c T locs cells slots) (hx : p.tables.exec = Jvm.exec) {i : Fin 4} {v : UInt64} (hd : decode c.code pc = .ok (.dstore_n i, 1)) (hp : pc' = pc + 1) (hl : storeLocals Ls i.val (.double v) = some Ls') (k : G (T.setTop (mkF m pc' Ls' (rest)))) : G (T.setTop (mkF m pc Ls (.double v :: rest))) := by
  subst hp
  refine hG _ _ (fun t ht => ?_) k
  exact XS.dstoreN X.here hx rfl hd rfl hl ht
theorem g_aload (hG : Cl p e below G) (X : Stand p l e R s m args below meth c T locs cells slots) (hx : p.tables.exec = Jvm.exec) {i : Nat} {v : Value} (hd : decode c.code pc = .ok (.aload i, 2)) (hp : pc' = pc + 2) (hl : Ls[i]? = some (.val v)) (hv' : v.isRef = true) (k : G (T.setTop (mkF m pc' Ls (v :: rest)))) : G (T.setTop (mkF m pc Ls (rest))) := by
  subst hp
  refine hG _ _ (fun t ht => ?_) k
  exact XS.aload X.here hx rfl hd hl hv' ht
theorem g_aloadN (hG : Cl p e below G) (X : Stand p l e R s m args below meth c T locs cells slots) (hx : p.tables.exec = Jvm.exec) {i : Fin 4} {v : Value} (hd : decode c.code pc = .ok (.aload_n i, 1)) (hp : pc' = pc + 1) (hl : Ls[i.val]? = some (.val v)) (hv' : v.isRef = true) (k : G (T.setTop (mkF m pc' Ls (v :: rest)))) : G (T.setTop (mkF m pc Ls (rest))) := by
  subst hp
  refine hG _ _ (fun t ht => ?_) k
  exact XS.aloadN X.here hx rfl hd hl hv' ht
theorem g_astore (hG : Cl p e below G) (X : Stand p l e R s m args below meth c T locs cells slots) (hx : p.tables.exec = Jvm.exec) {i : Nat} {v : Value} (hd : decode c.code pc = .ok (.astore i, 2)) (hp : pc' = pc + 2) (hv' : v.isRef = true) (hl : storeLocals Ls i v = some Ls') (k : G (T.setTop (mkF m pc' Ls' (rest)))) : G (T.setTop (mkF m pc Ls (v :: rest))) := by
  subst hp
  refine hG _ _ (fun t ht => ?_) k
  exact XS.astore X.here hx rfl hd rfl hv' hl ht
theorem g_astoreN (hG : Cl p e below G) (X : Stand p l e R s m args below meth c T locs cells slots) (hx : p.tables.exec = Jvm.exec) {i : Fin 4} {v : Value} (hd : decode c.code pc = .ok (.astore_n i, 1)) (hp : pc' = pc + 1) (hv' : v.isRef = true) (hl : storeLocals Ls i.val v = some Ls') (k : G (T.setTop (mkF m pc' Ls' (rest)))) : G (T.setTop (mkF m pc Ls (v :: rest))) := by
  subst hp
  refine hG _ _ (fun t ht => ?_) k
  exact XS.astoreN X.here hx rfl hd rfl hv' hl ht
theorem g_iconst (hG : Cl p e below G) (X : Stand p l e R s m args below meth c T locs cells slots) (hx : p.tables.exec = Jvm.exec) {i : Int} {v : Int32} (hd : decode c.code pc = .ok (.iconst i, 1)) (hp : pc' = pc + 1) (hv : Int32.ofInt i = v) (k : G (T.setTop (mkF m pc' Ls (.int v :: rest)))) : G (T.setTop (mkF m pc Ls (rest))) := by
  subst hp
  subst hv
  refine hG _ _ (fun t ht => ?_) k
  exact XS.iconst X.here hx rfl hd ht
theorem g_bipush (hG : Cl p e below G) (X : Stand p l e R s m args below meth c T locs cells slots) (hx : p.tables.exec = Jvm.exec) {i : Int} {v : Int32} (hd : decode c.code pc = .ok (.bipush i, 2)) (hp : pc' = pc + 2) (hv : (Int8.ofInt i).toInt32 = v) (k : G (T.setTop (mkF m pc' Ls (.int v :: rest)))) : G (T.setTop (mkF m pc Ls (rest))) := by
  subst hp
  subst hv
  refine hG _ _ (fun t ht => ?_) k
  exact XS.bipush X.here hx rfl hd ht
theorem g_sipush (hG : Cl p e below G) (X : Stand p l e R s m args below meth c T locs cells slots) (hx : p.tables.exec = Jvm.exec) {i : Int} {v : Int32} (hd : decode c.code pc = .ok (.sipush i, 3)) (hp : pc' = pc + 3) (hv : (Int16.ofInt i).toInt32 = v) (k : G (T.setTop (mkF m pc' Ls (.int v :: rest)))) : G (T.setTop (mkF m pc Ls (rest))) := by
  subst hp
  subst hv
  refine hG _ _ (fun t ht => ?_) k
  exact XS.sipush X.here hx rfl hd ht
theorem g_lconst (hG : Cl p e below G) (X : Stand p l e R s m args below meth c T locs cells slots) (hx : p.tables.exec = Jvm.exec) {i : Fin 2} {v : Int64} (hd : decode c.code pc = .ok (.lconst i, 1)) (hp : pc' = pc + 1) (hv : Int64.ofNat i.val = v) (k : G (T.setTop (mkF m pc' Ls (.long v :: rest)))) : G (T.setTop (mkF m pc Ls (rest))) := by
  subst hp
  subst hv
  refine hG _ _ (fun t ht => ?_) k
  exact XS.lconst X.here hx rfl hd ht
theorem g_dconst0 (hG : Cl p e below G) (X : Stand p l e R s m args below meth c T locs cells slots) (hx : p.tables.exec = Jvm.exec) {v : UInt64} (hd : decode c.code pc = .ok (.dconst 0, 1)) (hp : pc' = pc + 1) (hv : FP.dconst0 = v) (k : G (T.setTop (mkF m pc' Ls (.double v :: rest)))) : G (T.setTop (mkF m pc Ls (rest))) := by
  subst hp
  subst hv
  refine hG _ _ (fun t ht => ?_) k
  exact XS.dconst0 X.here hx rfl hd rfl ht
theorem g_dconst1 (hG : Cl p e below G) (X : Stand p l e R s m args below meth c T locs cells slots) (hx : p.tables.exec = Jvm.exec) {v : UInt64} (hd : decode c.code pc = .ok (.dconst 1, 1)) (hp : pc' = pc + 1) (hv : FP.dconst1 = v) (k : G (T.setTop (mkF m pc' Ls (.double v :: rest)))) : G (T.setTop (mkF m pc Ls (rest))) := by
  subst hp
  subst hv
  refine hG _ _ (fun t ht => ?_) k
  exact XS.dconst1 X.here hx rfl hd rfl ht
theorem g_aconstNull (hG : Cl p e below G) (X : Stand p l e R s m args below meth c T locs cells slots) (hx : p.tables.exec = Jvm.exec)  (hd : decode c.code pc = .ok (.aconst_null, 1)) (hp : pc' = pc + 1) (k : G (T.setTop (mkF m pc' Ls (.null :: rest)))) : G (T.setTop (mkF m pc Ls (rest))) := by
  subst hp
  refine hG _ _ (fun t ht => ?_) k
  exact XS.aconstNull X.here hx rfl hd ht
theorem g_iadd (hG : Cl p e below G) (X : Stand p l e R s m args below meth c T locs cells slots) (hx : p.tables.exec = Jvm.exec) {x y v : Int32} (hd : decode c.code pc = .ok (.iadd, 1)) (hp : pc' = pc + 1) (hv : x + y = v) (k : G (T.setTop (mkF m pc' Ls (.int v :: rest)))) : G (T.setTop (mkF m pc Ls (.int y :: .int x :: rest))) := by
  subst hp
  subst hv
  refine hG _ _ (fun t ht => ?_) k
  exact XS.iadd X.here hx rfl hd rfl ht
theorem g_ladd (hG : Cl p e below G) (X : Stand p l e R s m args below meth c T locs cells slots) (hx : p.tables.exec = Jvm.exec) {x y v : Int64} (hd : decode c.code pc = .ok (.ladd, 1)) (hp : pc' = pc + 1) (hv : x + y = v) (k : G (T.setTop (mkF m pc' Ls (.long v :: rest)))) : G (T.setTop (mkF m pc Ls (.long y :: .long x :: rest))) := by
  subst hp
  subst hv
  refine hG _ _ (fun t ht => ?_) k
  exact XS.ladd X.here hx rfl hd rfl ht
theorem g_isub (hG : Cl p e below G) (X : Stand p l e R s m args below meth c T locs cells slots) (hx : p.tables.exec = Jvm.exec) {x y v : Int32} (hd : decode c.code pc = .ok (.isub, 1)) (hp : pc' = pc + 1) (hv : x - y = v) (k : G (T.setTop (mkF m pc' Ls (.int v :: rest)))) : G (T.setTop (mkF m pc Ls (.int y :: .int x :: rest))) := by
  subst hp
  subst hv
  refine hG _ _ (fun t ht => ?_) k
  exact XS.isub X.here hx rfl hd rfl ht
theorem g_lsub (hG : Cl p e below G) (X : Stand p l e R s m args below meth c T locs cells slots) (hx : p.tables.exec = Jvm.exec) {x y v : Int64} (hd : decode c.code pc = .ok (.lsub, 1)) (hp : pc' = pc + 1) (hv : x - y = v) (k : G (T.setTop (mkF m pc' Ls (.long v :: rest)))) : G (T.setTop (mkF m pc Ls (.long y :: .long x :: rest))) := by
  subst hp
  subst hv
  refine hG _ _ (fun t ht => ?_) k
  exact XS.lsub X.here hx rfl hd rfl ht
theorem g_imul (hG : Cl p e below G) (X : Stand p l e R s m args below meth c T locs cells slots) (hx : p.tables.exec = Jvm.exec) {x y v : Int32} (hd : decode c.code pc = .ok (.imul, 1)) (hp : pc' = pc + 1) (hv : x * y = v) (k : G (T.setTop (mkF m pc' Ls (.int v :: rest)))) : G (T.setTop (mkF m pc Ls (.int y :: .int x :: rest))) := by
  subst hp
  subst hv
  refine hG _ _ (fun t ht => ?_) k
  exact XS.imul X.here hx rfl hd rfl ht
theorem g_lmul (hG : Cl p e below G) (X : Stand p l e R s m args below meth c T locs cells slots) (hx : p.tables.exec = Jvm.exec) {x y v : Int64} (hd : decode c.code pc = .ok (.lmul, 1)) (hp : pc' = pc + 1) (hv : x * y = v) (k : G (T.setTop (mkF m pc' Ls (.long v :: rest)))) : G (T.setTop (mkF m pc Ls (.long y :: .long x :: rest))) := by
  subst hp
  subst hv
  refine hG _ _ (fun t ht => ?_) k
  exact XS.lmul X.here hx rfl hd rfl ht
theorem g_iand (hG : Cl p e below G) (X : Stand p l e R s m args below meth c T locs cells slots) (hx : p.tables.exec = Jvm.exec) {x y v : Int32} (hd : decode c.code pc = .ok (.iand, 1)) (hp : pc' = pc + 1) (hv : x &&& y = v) (k : G (T.setTop (mkF m pc' Ls (.int v :: rest)))) : G (T.setTop (mkF m pc Ls (.int y :: .int x :: rest))) := by
  subst hp
  subst hv
  refine hG _ _ (fun t ht => ?_) k
  exact XS.iand X.here hx rfl hd rfl ht
theorem g_land (hG : Cl p e below G) (X : Stand p l e R s m args below meth c T locs cells slots) (hx : p.tables.exec = Jvm.exec) {x y v : Int64} (hd : decode c.code pc = .ok (.land, 1)) (hp : pc' = pc + 1) (hv : x &&& y = v) (k : G (T.setTop (mkF m pc' Ls (.long v :: rest)))) : G (T.setTop (mkF m pc Ls (.long y :: .long x :: rest))) := by
  subst hp
  subst hv
  refine hG _ _ (fun t ht => ?_) k
  exact XS.land X.here hx rfl hd rfl ht
theorem g_ior (hG : Cl p e below G) (X : Stand p l e R s m args below meth c T locs cells slots) (hx : p.tables.exec = Jvm.exec) {x y v : Int32} (hd : decode c.code pc = .ok (.ior, 1)) (hp : pc' = pc + 1) (hv : x ||| y = v) (k : G (T.setTop (mkF m pc' Ls (.int v :: rest)))) : G (T.setTop (mkF m pc Ls (.int y :: .int x :: rest))) := by
  subst hp
  subst hv
  refine hG _ _ (fun t ht => ?_) k
  exact XS.ior X.here hx rfl hd rfl ht
theorem g_lor (hG : Cl p e below G) (X : Stand p l e R s m args below meth c T locs cells slots) (hx : p.tables.exec = Jvm.exec) {x y v : Int64} (hd : decode c.code pc = .ok (.lor, 1)) (hp : pc' = pc + 1) (hv : x ||| y = v) (k : G (T.setTop (mkF m pc' Ls (.long v :: rest)))) : G (T.setTop (mkF m pc Ls (.long y :: .long x :: rest))) := by
  subst hp
  subst hv
  refine hG _ _ (fun t ht => ?_) k
  exact XS.lor X.here hx rfl hd rfl ht
theorem g_ixor (hG : Cl p e below G) (X : Stand p l e R s m args below meth c T locs cells slots) (hx : p.tables.exec = Jvm.exec) {x y v : Int32} (hd : decode c.code pc = .ok (.ixor, 1)) (hp : pc' = pc + 1) (hv : x ^^^ y = v) (k : G (T.setTop (mkF m pc' Ls (.int v :: rest)))) : G (T.setTop (mkF m pc Ls (.int y :: .int x :: rest))) := by
  subst hp
  subst hv
  refine hG _ _ (fun t ht => ?_) k
  exact XS.ixor X.here hx rfl hd rfl ht
theorem g_lxor (hG : Cl p e below G) (X : Stand p l e R s m args below meth c T locs cells slots) (hx : p.tables.exec = Jvm.exec) {x y v : Int64} (hd : decode c.code pc = .ok (.lxor, 1)) (hp : pc' = pc + 1) (hv : x ^^^ y = v) (k : G (T.setTop (mkF m pc' Ls (.long v :: rest)))) : G (T.setTop (mkF m pc Ls (.long y :: .long x :: rest))) := by
  subst hp
  subst hv
  refine hG _ _ (fun t ht => ?_) k
  exact XS.lxor X.here hx rfl hd rfl ht
theorem g_ineg (hG : Cl p e below G) (X : Stand p l e R s m args below meth c T locs cells slots) (hx : p.tables.exec = Jvm.exec) {x v : Int32} (hd : decode c.code pc = .ok (.ineg, 1)) (hp : pc' = pc + 1) (hv : -x = v) (k : G (T.setTop (mkF m pc' Ls (.int v :: rest)))) : G (T.setTop (mkF m pc Ls (.int x :: rest))) := by
  subst hp
  subst hv
  refine hG _ _ (fun t ht => ?_) k
  exact XS.ineg X.here hx rfl hd rfl ht
theorem g_lneg (hG : Cl p e below G) (X : Stand p l e R s m args below meth c T locs cells slots) (hx : p.tables.exec = Jvm.exec) {x v : Int64} (hd : decode c.code pc = .ok (.lneg, 1)) (hp : pc' = pc + 1) (hv : -x = v) (k : G (T.setTop (mkF m pc' Ls (.long v :: rest)))) : G (T.setTop (mkF m pc Ls (.long x :: rest))) := by
  subst hp
  subst hv
  refine hG _ _ (fun t ht => ?_) k
  exact XS.lneg X.here hx rfl hd rfl ht
theorem g_i2l (hG : Cl p e below G) (X : Stand p l e R s m args below meth c T locs cells slots) (hx : p.tables.exec = Jvm.exec) {x : Int32} {v : Int64} (hd : decode c.code pc = .ok (.i2l, 1)) (hp : pc' = pc + 1) (hv : x.toInt64 = v) (k : G (T.setTop (mkF m pc' Ls (.long v :: rest)))) : G (T.setTop (mkF m pc Ls (.int x :: rest))) := by
  subst hp
  subst hv
  refine hG _ _ (fun t ht => ?_) k
  exact XS.i2l X.here hx rfl hd rfl ht
theorem g_l2i (hG : Cl p e below G) (X : Stand p l e R s m args below meth c T locs cells slots) (hx : p.tables.exec = Jvm.exec) {x : Int64} {v : Int32} (hd : decode c.code pc = .ok (.l2i, 1)) (hp : pc' = pc + 1) (hv : x.toInt32 = v) (k : G (T.setTop (mkF m pc' Ls (.int v :: rest)))) : G (T.setTop (mkF m pc Ls (.long x :: rest))) := by
  subst hp
  subst hv
  refine hG _ _ (fun t ht => ?_) k
  exact XS.l2i X.here hx rfl hd rfl ht
theorem g_i2c (hG : Cl p e below G) (X : Stand p l e R s m args below meth c T locs cells slots) (hx : p.tables.exec = Jvm.exec) {x v : Int32} (hd : decode c.code pc = .ok (.i2c, 1)) (hp : pc' = pc + 1) (hv : x.toUInt32.toUInt16.toUInt32.toInt32 = v) (k : G (T.setTop (mkF m pc' Ls (.int v :: rest)))) : G (T.setTop (mkF m pc Ls (.int x :: rest))) := by
  subst hp
  subst hv
  refine hG _ _ (fun t ht => ?_) k
  exact XS.i2c X.here hx rfl hd rfl ht
theorem g_i2b (hG : Cl p e below G) (X : Stand p l e R s m args below meth c T locs cells slots) (hx : p.tables.exec = Jvm.exec) {x v : Int32} (hd : decode c.code pc = .ok (.i2b, 1)) (hp : pc' = pc + 1) (hv : x.toInt8.toInt32 = v) (k : G (T.setTop (mkF m pc' Ls (.int v :: rest)))) : G (T.setTop (mkF m pc Ls (.int x :: rest))) := by
  subst hp
  subst hv
  refine hG _ _ (fun t ht => ?_) k
  exact XS.i2b X.here hx rfl hd rfl ht
theorem g_ishl (hG : Cl p e below G) (X : Stand p l e R s m args below meth c T locs cells slots) (hx : p.tables.exec = Jvm.exec) {x y v : Int32} (hd : decode c.code pc = .ok (.ishl, 1)) (hp : pc' = pc + 1) (hv : x <<< (y &&& 31) = v) (k : G (T.setTop (mkF m pc' Ls (.int v :: rest)))) : G (T.setTop (mkF m pc Ls (.int y :: .int x :: rest))) := by
  subst hp
  subst hv
  refine hG _ _ (fun t ht => ?_) k
  exact XS.ishl X.here hx rfl hd rfl ht
theorem g_ishr (hG : Cl p e below G) (X : Stand p l e R s m args below meth c T locs cells slots) (hx : p.tables.exec = Jvm.exec) {x y v : Int32} (hd : decode c.code pc = .ok (.ishr, 1)) (hp : pc' = pc + 1) (hv : x >>> (y &&& 31) = v) (k : G (T.setTop (mkF m pc' Ls (.int v :: rest)))) : G (T.setTop (mkF m pc Ls (.int y :: .int x :: rest))) := by
  subst hp
  subst hv
  refine hG _ _ (fun t ht => ?_) k
  exact XS.ishr X.here hx rfl hd rfl ht
theorem g_iushr (hG : Cl p e below G) (X : Stand p l e R s m args below meth c T locs cells slots) (hx : p.tables.exec = Jvm.exec) {x y v : Int32} (hd : decode c.code pc = .ok (.iushr, 1)) (hp : pc' = pc + 1) (hv : (x.toUInt32 >>> (y &&& 31).toUInt32).toInt32 = v) (k : G (T.setTop (mkF m pc' Ls (.int v :: rest)))) : G (T.setTop (mkF m pc Ls (.int y :: .int x :: rest))) := by
  subst hp
  subst hv
  refine hG _ _ (fun t ht => ?_) k
  exact XS.iushr X.here hx rfl hd rfl ht
theorem g_lshl (hG : Cl p e below G) (X : Stand p l e R s m args below meth c T locs cells slots) (hx : p.tables.exec = Jvm.exec) {x : Int64} {y : Int32} {v : Int64} (hd : decode c.code pc = .ok (.lshl, 1)) (hp : pc' = pc + 1) (hv : x <<< (y &&& 0x3f).toInt64 = v) (k : G (T.setTop (mkF m pc' Ls (.long v :: rest)))) : G (T.setTop (mkF m pc Ls (.int y :: .long x :: rest))) := by
  subst hp
  subst hv
  refine hG _ _ (fun t ht => ?_) k
  exact XS.lshl X.here hx rfl hd rfl ht
theorem g_lshr (hG : Cl p e below G) (X : Stand p l e R s m args below meth c T locs cells slots) (hx : p.tables.exec = Jvm.exec) {x : Int64} {y : Int32} {v : Int64} (hd : decode c.code pc = .ok (.lshr, 1)) (hp : pc' = pc + 1) (hv : x >>> (y &&& 0x3f).toInt64 = v) (k : G (T.setTop (mkF m pc' Ls (.long v :: rest)))) : G (T.setTop (mkF m pc Ls (.int y :: .long x :: rest))) := by
  subst hp
  subst hv
  refine hG _ _ (fun t ht => ?_) k
  exact XS.lshr X.here hx rfl hd rfl ht
theorem g_lcmp (hG : Cl p e below G) (X : Stand p l e R s m args below meth c T locs cells slots) (hx : p.tables.exec = Jvm.exec) {x y : Int64} {v : Int32} (hd : decode c.code pc = .ok (.lcmp, 1)) (hp : pc' = pc + 1) (hv : lcmpW x y = v) (k : G (T.setTop (mkF m pc' Ls (.int v :: rest)))) : G (T.setTop (mkF m pc Ls (.long y :: .long x :: rest))) := by
  subst hp
  subst hv
  refine hG _ _ (fun t ht => ?_) k
  exact XS.lcmp X.here hx rfl hd rfl ht
theorem g_irem (hG : Cl p e below G) (X : Stand p l e R s m args below meth c T locs cells slots) (hx : p.tables.exec = Jvm.exec) {x y v : Int32} (hd : decode c.code pc = .ok (.irem, 1)) (hp : pc' = pc + 1) (hy : y ≠ 0) (hv : x % y = v) (k : G (T.setTop (mkF m pc' Ls (.int v :: rest)))) : G (T.setTop (mkF m pc Ls (.int y :: .int x :: rest))) := by
  subst hp
  subst hv
  refine hG _ _ (fun t ht => ?_) k
  exact iremM X hx rfl hd rfl hy ht
theorem g_lrem (hG : Cl p e below G) (X : Stand p l e R s m args below meth c T locs cells slots) (hx : p.tables.exec = Jvm.exec) {x y v : Int64} (hd : decode c.code pc = .ok (.lrem, 1)) (hp : pc' = pc + 1) (hy : y ≠ 0) (hv : x % y = v) (k : G (T.setTop (mkF m pc' Ls (.long v :: rest)))) : G (T.setTop (mkF m pc Ls (.long y :: .long x :: rest))) := by
  subst hp hv
  rw [← lrem_mod] at k
  refine hG _ _ (fun t ht => ?_) k
  exact XS.lrem X.here hx rfl hd rfl hy ht
theorem g_idiv (hG : Cl p e below G) (X : Stand p l e R s m args below meth c T locs cells slots) (hx : p.tables.exec = Jvm.exec) {x y v : Int32} (hd : decode c.code pc = .ok (.idiv, 1)) (hp : pc' = pc + 1) (hy : y ≠ 0) (hv : x / y = v) (k : G (T.setTop (mkF m pc' Ls (.int v :: rest)))) : G (T.setTop (mkF m pc Ls (.int y :: .int x :: rest))) := by
  subst hp
  subst hv
  refine hG _ _ (fun t ht => ?_) k
  exact XS.idiv X.here hx rfl hd rfl hy ht
theorem g_dup (hG : Cl p e below G) (X : Stand p l e R s m args below meth c T locs cells slots) (hx : p.tables.exec = Jvm.exec) {x : Value} (hd : decode c.code pc = .ok (.dup, 1)) (hp : pc' = pc + 1) (hc : x.category = 1) (k : G (T.setTop (mkF m pc' Ls (x :: x :: rest)))) : G (T.setTop (mkF m pc Ls (x :: rest))) := by
  subst hp
  refine hG _ _ (fun t ht => ?_) k
  exact XS.dup X.here hx rfl hd rfl hc ht
theorem g_pop (hG : Cl p e below G) (X : Stand p l e R s m args below meth c T locs cells slots) (hx : p.tables.exec = Jvm.exec) {x : Value} (hd : decode c.code pc = .ok (.pop, 1)) (hp : pc' = pc + 1) (hc : x.category = 1) (k : G (T.setTop (mkF m pc' Ls (rest)))) : G (T.setTop (mkF m pc Ls (x :: rest))) := by
  subst hp
  refine hG _ _ (fun t ht => ?_) k
  exact XS.pop X.here hx rfl hd rfl hc ht
theorem g_dupX1 (hG : Cl p e below G) (X : Stand p l e R s m args below meth c T locs cells slots) (hx : p.tables.exec = Jvm.exec) {x y : Value} (hd : decode c.code pc = .ok (.dup_x1, 1)) (hp : pc' = pc + 1) (hc : x.category = 1) (hc' : y.category = 1) (k : G (T.setTop (mkF m pc' Ls (x :: y :: x :: rest)))) : G (T.setTop (mkF m pc Ls (x :: y :: rest))) := by
  subst hp
  refine hG _ _ (fun t ht => ?_) k
  exact XS.dupX1 X.here hx rfl hd rfl hc hc' ht
theorem g_dup2 (hG : Cl p e below G) (X : Stand p l e R s m args below meth c T locs cells slots) (hx : p.tables.exec = Jvm.exec) {x y : Value} (hd : decode c.code pc = .ok (.dup2, 1)) (hp : pc' = pc + 1) (hc : x.category = 1) (hc' : y.category = 1) (k : G (T.setTop (mkF m pc' Ls (x :: y :: x :: y :: rest)))) : G (T.setTop (mkF m pc Ls (x :: y :: rest))) := by
  subst hp
  refine hG _ _ (fun t ht => ?_) k
  exact Jvm.Free.XT.dup2 X.here hx rfl hd rfl hc hc' ht
theorem g_iinc (hG : Cl p e below G) (X : Stand p l e R s m args below meth c T locs cells slots) (hx : p.tables.exec = Jvm.exec) {i : Nat} {cst : Int} {x v : Int32} (hd : decode c.code pc = .ok (.iinc i cst, 3)) (hp : pc' = pc + 3) (hl : Ls[i]? = some (.val (.int x))) (hv : x + Int32.ofInt cst = v) (hl' : storeLocals Ls i (.int v) = some Ls') (k : G (T.setTop (mkF m pc' Ls' (rest)))) : G (T.setTop (mkF m pc Ls (rest))) := by
  subst hp
  subst hv
  refine hG _ _ (fun t ht => ?_) k
  exact XS.iinc X.here hx rfl hd hl hl' ht
theorem g_i2d (hG : Cl p e below G) (X : Stand p l e R s m args below meth c T locs cells slots) (hx : p.tables.exec = Jvm.exec) {x : Int32} {v : UInt64} (hd : decode c.code pc = .ok (.i2d, 1)) (hp : pc' = pc + 1) (hv : FP.i2d x = v) (k : G (T.setTop (mkF m pc' Ls (.double v :: rest)))) : G (T.setTop (mkF m pc Ls (.int x :: rest))) := by
  subst hp
  subst hv
  refine hG _ _ (fun t ht => ?_) k
  exact XS.i2dS X.here hx rfl hd rfl rfl ht
theorem g_l2d (hG : Cl p e below G) (X : Stand p l e R s m args below meth c T locs cells slots) (hx : p.tables.exec = Jvm.exec) {x : Int64} {v : UInt64} (hd : decode c.code pc = .ok (.l2d, 1)) (hp : pc' = pc + 1) (hv : FP.l2d x = v) (k : G (T.setTop (mkF m pc' Ls (.double v :: rest)))) : G (T.setTop (mkF m pc Ls (.long x :: rest))) := by
  subst hp
  subst hv
  refine hG _ _ (fun t ht => ?_) k
  exact XS.l2dS X.here hx rfl hd rfl rfl ht
theorem g_d2i (hG : Cl p e below G) (X : Stand p l e R s m args below meth c T locs cells slots) (hx : p.tables.exec = Jvm.exec) {x : UInt64} {v : Int32} (hd : decode c.code pc = .ok (.d2i, 1)) (hp : pc' = pc + 1) (hv : FP.d2i x = v) (k : G (T.setTop (mkF m pc' Ls (.int v :: rest)))) : G (T.setTop (mkF m pc Ls (.double x :: rest))) := by
  subst hp
  subst hv
  refine hG _ _ (fun t ht => ?_) k
  exact XS.d2iS X.here hx rfl hd rfl rfl ht
theorem g_d2l (hG : Cl p e below G) (X : Stand p l e R s m args below meth c T locs cells slots) (hx : p.tables.exec = Jvm.exec) {x : UInt64} {v : Int64} (hd : decode c.code pc = .ok (.d2l, 1)) (hp : pc' = pc + 1) (hv : FP.d2l x = v) (k : G (T.setTop (mkF m pc' Ls (.long v :: rest)))) : G (T.setTop (mkF m pc Ls (.double x :: rest))) := by
  subst hp
  subst hv
  refine hG _ _ (fun t ht => ?_) k
  exact XS.d2lS X.here hx rfl hd rfl rfl ht
theorem g_dneg (hG : Cl p e below G) (X : Stand p l e R s m args below meth c T locs cells slots) (hx : p.tables.exec = Jvm.exec) {x v : UInt64} (hd : decode c.code pc = .ok (.dneg, 1)) (hp : pc' = pc + 1) (hv : FP.dneg x = v) (k : G (T.setTop (mkF m pc' Ls (.double v :: rest)))) : G (T.setTop (mkF m pc Ls (.double x :: rest))) := by
  subst hp
  subst hv
  refine hG _ _ (fun t ht => ?_) k
  exact XS.dnegS X.here hx rfl hd rfl rfl ht
theorem g_dcmp (hG : Cl p e below G) (X : Stand p l e R s m args below meth c T locs cells slots) (hx : p.tables.exec = Jvm.exec) {x y : UInt64} {o : CmpOp} {v : Int32} (hd : decode c.code pc = .ok (.dcmp o, 1)) (hp : pc' = pc + 1) (hv : cmpValue (FP.dcmp x y) o = v) (k : G (T.setTop (mkF m pc' Ls (.int v :: rest)))) : G (T.setTop (mkF m pc Ls (.double y :: .double x :: rest))) := by
  subst hp
  subst hv
  refine hG _ _ (fun t ht => ?_) k
  exact XS.dcmpS X.here hx rfl hd rfl rfl ht
theorem g_dadd (hG : Cl p e below G) (X : Stand p l e R s m args below meth c T locs cells slots) (hx : p.tables.exec = Jvm.exec) {x y v : UInt64} (hd : decode c.code pc = .ok (.dadd, 1)) (hp : pc' = pc + 1) (hn : Jvm.Free.Fl.NoNaN64 (FP.dadd x y)) (hv : FP.dadd x y = v) (k : G (T.setTop (mkF m pc' Ls (.double v :: rest)))) : G (T.setTop (mkF m pc Ls (.double y :: .double x :: rest))) := by
  subst hp
  subst hv
  refine hG _ _ (fun t ht => ?_) k
  exact XS.daddS X.here hx rfl hd rfl hn rfl ht
theorem g_dsub (hG : Cl p e below G) (X : Stand p l e R s m args below meth c T locs cells slots) (hx : p.tables.exec = Jvm.exec) {x y v : UInt64} (hd : decode c.code pc = .ok (.dsub, 1)) (hp : pc' = pc + 1) (hn : Jvm.Free.Fl.NoNaN64 (FP.dsub x y)) (hv : FP.dsub x y = v) (k : G (T.setTop (mkF m pc' Ls (.double v :: rest)))) : G (T.setTop (mkF m pc Ls (.double y :: .double x :: rest))) := by
  subst hp
  subst hv
  refine hG _ _ (fun t ht => ?_) k
  exact XS.dsubS X.here hx rfl hd rfl hn rfl ht
theorem g_dmul (hG : Cl p e below G) (X : Stand p l e R s m args below meth c T locs cells slots) (hx : p.tables.exec = Jvm.exec) {x y v : UInt64} (hd : decode c.code pc = .ok (.dmul, 1)) (hp : pc' = pc + 1) (hn : Jvm.Free.Fl.NoNaN64 (FP.dmul x y)) (hv : FP.dmul x y = v) (k : G (T.setTop (mkF m pc' Ls (.double v :: rest)))) : G (T.setTop (mkF m pc Ls (.double y :: .double x :: rest))) := by
  subst hp
  subst hv
  refine hG _ _ (fun t ht => ?_) k
  exact XS.dmulS X.here hx rfl hd rfl hn rfl ht
theorem g_ddiv (hG : Cl p e below G) (X : Stand p l e R s m args below meth c T locs cells slots) (hx : p.tables.exec = Jvm.exec) {x y v : UInt64} (hd : decode c.code pc = .ok (.ddiv, 1)) (hp : pc' = pc + 1) (hn : Jvm.Free.Fl.NoNaN64 (FP.ddiv x y)) (hv : FP.ddiv x y = v) (k : G (T.setTop (mkF m pc' Ls (.double v :: rest)))) : G (T.setTop (mkF m pc Ls (.double y :: .double x :: rest))) := by
  subst hp
  subst hv
  refine hG _ _ (fun t ht => ?_) k
  exact XS.ddivS X.here hx rfl hd rfl hn rfl ht
theorem g_goto (hG : Cl p e below G) (X : Stand p l e R s m args below meth c T locs cells slots) (hx : p.tables.exec = Jvm.exec) {o : Int} (hd : decode c.code pc = .ok (.goto o, 3)) (ho : 0 ≤ (pc : Int) + o) (hp : ((pc : Int) + o).toNat = pc') (k : G (T.setTop (mkF m pc' Ls rest))) : G (T.setTop (mkF m pc Ls rest)) := by
  refine hG _ _ (fun t ht => ?_) k
  exact XS.goto X.here hx rfl (pc0 := pc) rfl hd ho hp ht
theorem g_ifYes (hG : Cl p e below G) (X : Stand p l e R s m args below meth c T locs cells slots) (hx : p.tables.exec = Jvm.exec) {cd : ClassFile.Cond} {x : Int32} {o : Int} (hd : decode c.code pc = .ok (.ifCond cd o, 3)) (hc : ifCond.holds cd x = true) (ho : 0 ≤ (pc : Int) + o) (hp : ((pc : Int) + o).toNat = pc') (k : G (T.setTop (mkF m pc' Ls rest))) : G (T.setTop (mkF m pc Ls (.int x :: rest))) := by
  refine hG _ _ (fun t ht => ?_) k
  exact XS.ifYes X.here hx rfl (pc0 := pc) rfl hd rfl hc ho hp ht
theorem g_ifNo (hG : Cl p e below G) (X : Stand p l e R s m args below meth c T locs cells slots) (hx : p.tables.exec = Jvm.exec) {cd : ClassFile.Cond} {x : Int32} {o : Int} (hd : decode c.code pc = .ok (.ifCond cd o, 3)) (hc : ifCond.holds cd x = false) (hp : pc' = pc + 3) (k : G (T.setTop (mkF m pc' Ls rest))) : G (T.setTop (mkF m pc Ls (.int x :: rest))) := by
  subst hp
  refine hG _ _ (fun t ht => ?_) k
  exact XS.ifNo X.here hx rfl hd rfl hc ht
theorem g_icmpYes (hG : Cl p e below G) (X : Stand p l e R s m args below meth c T locs cells slots) (hx : p.tables.exec = Jvm.exec) {cd : ClassFile.Cond} {x y : Int32} {o : Int} (hd : decode c.code pc = .ok (.if_icmp cd o, 3)) (hc : if_icmp.holds cd x y = true) (ho : 0 ≤ (pc : Int) + o) (hp : ((pc : Int) + o).toNat = pc') (k : G (T.setTop (mkF m pc' Ls rest))) : G (T.setTop (mkF m pc Ls (.int y :: .int x :: rest))) := by
  refine hG _ _ (fun t ht => ?_) k
  exact XS.icmpYes X.here hx rfl (pc0 := pc) rfl hd rfl hc ho hp ht
theorem g_icmpNo (hG : Cl p e below G) (X : Stand p l e R s m args below meth c T locs cells slots) (hx : p.tables.exec = Jvm.exec) {cd : ClassFile.Cond} {x y : Int32} {o : Int} (hd : decode c.code pc = .ok (.if_icmp cd o, 3)) (hc : if_icmp.holds cd x y = false) (hp : pc' = pc + 3) (k : G (T.setTop (mkF m pc' Ls rest))) : G (T.setTop (mkF m pc Ls (.int y :: .int x :: rest))) := by
  subst hp
  refine hG _ _ (fun t ht => ?_) k
  exact XS.icmpNo X.here hx rfl hd rfl hc ht
theorem g_ifnullYes (hG : Cl p e below G) (X : Stand p l e R s m args below meth c T locs cells slots) (hx : p.tables.exec = Jvm.exec) {o : Int} (hd : decode c.code pc = .ok (.ifnull o, 3)) (ho : 0 ≤ (pc : Int) + o) (hp : ((pc : Int) + o).toNat = pc') (k : G (T.setTop (mkF m pc' Ls rest))) : G (T.setTop (mkF m pc Ls (.null :: rest))) := by
  refine hG _ _ (fun t ht => ?_) k
  exact XS.ifnullYes X.here hx rfl (pc0 := pc) rfl hd rfl ho hp ht
theorem g_ifnullNo (hG : Cl p e below G) (X : Stand p l e R s m args below meth c T locs cells slots) (hx : p.tables.exec = Jvm.exec) {o : Int} {b : Addr} (hd : decode c.code pc = .ok (.ifnull o, 3)) (hp : pc' = pc + 3) (k : G (T.setTop (mkF m pc' Ls rest))) : G (T.setTop (mkF m pc Ls (.ref b :: rest))) := by
  subst hp
  refine hG _ _ (fun t ht => ?_) k
  exact XS.ifnullNo X.here hx rfl hd rfl ht
theorem g_ifnonnullYes (hG : Cl p e below G) (X : Stand p l e R s m args below meth c T locs cells slots) (hx : p.tables.exec = Jvm.exec) {o : Int} {b : Addr} (hd : decode c.code pc = .ok (.ifnonnull o, 3)) (ho : 0 ≤ (pc : Int) + o) (hp : ((pc : Int) + o).toNat = pc') (k : G (T.setTop (mkF m pc' Ls rest))) : G (T.setTop (mkF m pc Ls (.ref b :: rest))) := by
  refine hG _ _ (fun t ht => ?_) k
  exact XS.ifnonnullYes X.here hx rfl (pc0 := pc) rfl hd rfl ho hp ht
theorem g_ifnonnullNo (hG : Cl p e below G) (X : Stand p l e R s m args below meth c T locs cells slots) (hx : p.tables.exec = Jvm.exec) {o : Int} (hd : decode c.code pc = .ok (.ifnonnull o, 3)) (hp : pc' = pc + 3) (k : G (T.setTop (mkF m pc' Ls rest))) : G (T.setTop (mkF m pc Ls (.null :: rest))) := by
  subst hp
  refine hG _ _ (fun t ht => ?_) k
  exact XS.ifnonnullNo X.here hx rfl hd rfl ht
theorem g_acmp (hG : Cl p e below G) (X : Stand p l e R s m args below meth c T locs cells slots) (hx : p.tables.exec = Jvm.exec) {cd : ACond} {x y : Value} (h1 : x.isRef = true) (h2 : y.isRef = true) {o : Int} {same : Bool} (hd : decode c.code pc = .ok (.if_acmp cd o, 3)) (hq : decide (x = y) = same) (ho : 0 ≤ (pc : Int) + o) (hp : pc' = if acV cd same = true then ((pc : Int) + o).toNat else pc + 3) (k : G (T.setTop (mkF m pc' Ls rest))) : G (T.setTop (mkF m pc Ls (y :: x :: rest))) := by
  refine hG _ _ (fun t ht => ?_) k
  exact Jvm.RoadKit.acmp (g := mkF m pc Ls (y :: x :: rest)) X hx rfl h1 h2 (pc0 := pc) rfl hd rfl hq ho hp ht
/-! constants -/
theorem g_ldcInt (hG : Cl p e below G) (X : Stand p l e R s m args below meth c T locs cells slots) (hx : p.tables.exec = Jvm.exec) (hZ : Z.Warmed39 s.vm) {own : String} {index : Nat} {v : Int32} (hown : s.vm.findClass own = some m.cls) (w : (Jvm.Cond.constant own index v).before a0 Z = true) (hd : decode c.code pc = .ok (.ldc index, 2)) (hp : pc' = pc + 2) (k : G (T.setTop (mkF m pc' Ls (.int v :: rest)))) : G (T.setTop (mkF m pc Ls rest)) := by
  subst hp
  refine hG _ _ (fun t ht => ?_) k
  exact X.ldcInt hx hown (mvT hZ w) (g := mkF m pc Ls rest) rfl hd t ht
theorem g_ldcLong (hG : Cl p e below G) (X : Stand p l e R s m args below meth c T locs cells slots) (hx : p.tables.exec = Jvm.exec) (hZ : Z.Warmed39 s.vm) {own : String} {index : Nat} {v : Int64} (hown : s.vm.findClass own = some m.cls) (w : (Jvm.Cond.constantLong own index v).before a0 Z = true) (hd : decode c.code pc = .ok (.ldc2_w index, 3)) (hp : pc' = pc + 3) (k : G (T.setTop (mkF m pc' Ls (.long v :: rest)))) : G (T.setTop (mkF m pc Ls rest)) := by
  subst hp
  refine hG _ _ (fun t ht => ?_) k
  exact X.ldc2Long hx hown (mvT hZ w) (g := mkF m pc Ls rest) rfl hd t ht
theorem g_ldcDouble (hG : Cl p e below G) (X : Stand p l e R s m args below meth c T locs cells slots) (hx : p.tables.exec = Jvm.exec) (hZ : Z.Warmed39 s.vm) {own : String} {index : Nat} {v : UInt64} (hown : s.vm.findClass own = some m.cls) (w : (Jvm.Cond.constantDouble own index v).before a0 Z = true) (hd : decode c.code pc = .ok (.ldc2_w index, 3)) (hp : pc' = pc + 3) (k : G (T.setTop (mkF m pc' Ls (.double v :: rest)))) : G (T.setTop (mkF m pc Ls rest)) := by
  subst hp
  refine hG _ _ (fun t ht => ?_) k
  exact X.ldc2DoubleC hx hown (mvT hZ w) (g := mkF m pc Ls rest) rfl hd t ht
/-! fields -/
theorem g_getF (hG : Cl p e below G) (X : Stand p l e R s m args below meth c T locs cells slots) (hx : p.tables.exec = Jvm.exec) (hZ : Z.Warmed39 s.vm) {own R0 O n d : String} {index : Nat} (hown : s.vm.findClass own = some m.cls) (w : (Jvm.Cond.fieldLink own index R0 n d).before a0 Z = true) (via : Via Z R0 O n d) (eT : T.heap = h) {a : Addr} {v : Value} (F : Fld Z h a O n d v) (hd : decode c.code pc = .ok (.getfield index, 3)) (hp : pc' = pc + 3)
    (k : ∀ T', Stand p l e R s m args below meth c T' locs cells slots → T'.heap = h → G (T'.setTop (mkF m pc' Ls (v :: rest)))) : G (T.setTop (mkF m pc Ls (.ref a :: rest))) := by
  subst hp
  obtain ⟨T', X', e', st⟩ := getF X hx hZ hown (host := "") (Or.inl w) via eT F (g := mkF m pc Ls (.ref a :: rest)) rfl rfl hd
  exact hG _ _ st (k T' X' e')
theorem g_putF (hG : Cl p e below G) (X : Stand p l e R s m args below meth c T locs cells slots) (hx : p.tables.exec = Jvm.exec) (hZ : Z.Warmed39 s.vm) {own R0 O n d C : String} {index kk : Nat} {ty : FieldType} (hown : s.vm.findClass own = some m.cls) (w : (Jvm.Cond.fieldLink own index R0 n d).before a0 Z = true) (via : Via Z R0 O n d) (eT : T.heap = h) {a : Addr} {v v' old : Value} (F : Fld Z h a O n d old) (E : Exa Z h a C)
    (L : (Jvm.Cond.lays C O n d).before a0 Z = true ∨ ((Jvm.Cond.laysFinal C O n d).before a0 Z = true ∧ own = O ∧ meth.name = "<init>")) (wi : (Jvm.Cond.instantiable C kk).before a0 Z = true) (hty : parseFieldDescriptor d = some ty) (hn : narrow ty v = v') (hf : fits ty v' = true) (hd : decode c.code pc = .ok (.putfield index, 3)) (hp : pc' = pc + 3)
    (k : ∀ T' h', Stand p l e R s m args below meth c T' (locs ++ [⟨a, Jvm.RoadKit.slotOf Z O n d⟩]) cells slots → T'.heap = h' → Wr h h' a (Jvm.RoadKit.slotOf Z O n d) v' → G (T'.setTop (mkF m pc' Ls rest))) : G (T.setTop (mkF m pc Ls (v :: .ref a :: rest))) := by
  subst hp
  obtain ⟨T', h', X', e', W, st⟩ := putFN X hx hZ hown w via eT F E L wi hty hn hf (g := mkF m pc Ls (v :: .ref a :: rest)) rfl rfl hd
  exact hG _ _ st (k T' h' X' e' W)
theorem g_newO (hG : Cl p e below G) (X : Stand p l e R s m args below meth c T locs cells slots) (hx : p.tables.exec = Jvm.exec) (hZ : Z.Warmed39 s.vm) {own C : String} {index n : Nat} (hown : s.vm.findClass own = some m.cls) (w : (Jvm.Cond.classLink own index C).before a0 Z = true) (wi : (Jvm.Cond.instantiable C n).before a0 Z = true) (wz : (Jvm.Cond.initialized C).before a0 Z = true) (eT : T.heap = h) (hd : decode c.code pc = .ok (.new index, 3)) (hc : cells + 1 ≤ R.cells) (hl : slots + n ≤ R.slots) (hp : pc' = pc + 3)
    (k : ∀ T' h' b, b = h.size → Stand p l e R s m args below meth c T' locs (cells + 1) (slots + n) → T'.heap = h' → Ext h h' → Exa Z h' b C → (∀ {O nm d : String} {ty : FieldType}, Laid Z a0 C O nm d → parseFieldDescriptor d = some ty → Fld Z h' b O nm d (defaultValue ty)) → G (T'.setTop (mkF m pc' Ls (.ref b :: rest)))) : G (T.setTop (mkF m pc Ls rest)) := by
  subst hp
  obtain ⟨T', h', X', e', E, A, D, -, st⟩ := newO X hx hZ hown w wi wz eT (g := mkF m pc Ls rest) rfl hd hc hl
  exact hG _ _ st (k T' h' _ rfl X' e' E A D)
theorem g_initO (hG : Cl p e below G) (X : Stand p l e R s m args below meth c T locs cells slots) (hx : p.tables.exec = Jvm.exec) (hZ : Z.Warmed39 s.vm) {own : String} {index : Nat} (hown : s.vm.findClass own = some m.cls) (w1 : (Jvm.Cond.methodLink own index Lib.objectInit).before a0 Z = true) (w2 : (Jvm.Cond.instanceMethod Lib.objectInit).before a0 Z = true) (w3 : (Jvm.Cond.code Lib.objectInit ⟨#[0xb1]⟩ 1 none).before a0 Z = true) (eT : T.heap = h) {a : Addr}
    (hsz : Ls.size = c.maxLocals) (hd : decode c.code pc = .ok (.invokespecial index, 3)) (hfr : 1 ≤ R.frames) (hlo : (rest.map fun v => v.category).sum + 12 ≤ R.locals) (hp : pc' = pc + 3)
    (k : ∀ T', Stand p l e R s m args below meth c T' locs cells slots → T'.heap = h → G (T'.setTop (mkF m pc' Ls rest))) : G (T.setTop (mkF m pc Ls (.ref a :: rest))) := by
  subst hp
  obtain ⟨T', X', e', st⟩ := initO X hx hZ hown w1 w2 w3 eT (g := mkF m pc Ls (.ref a :: rest)) rfl hsz rfl hd hfr (W := (rest.map fun v => v.category).sum) (by show 2 * 0 + _ ≤ _; omega) hlo
  exact hG _ _ st (k T' X' e')
/-! arrays -/
theorem g_newP (hG : Cl p e below G) (X : Stand p l e R s m args below meth c T locs cells slots) (hx : p.tables.exec = Jvm.exec) (hZ : Z.Warmed39 s.vm) {aty : ArrayType} (w : (Jvm.Cond.arrayClass (newarray.typeOf aty)).before a0 Z = true) (eT : T.heap = h) {n : Int32} (hd : decode c.code pc = .ok (.newarray aty, 2)) (hn : ¬ n < 0) (cap : Nat) (hcap : n.toNatClampNeg ≤ cap) (hb : cap * 8 ≤ 536870912) (hc : cells + 1 ≤ R.cells) (hl : slots + cap ≤ R.slots) (hp : pc' = pc + 2)
    (k : ∀ T' h' b kA, b = h.size → Stand p l e R s m args below meth c T' locs (cells + 1) (slots + cap) → T'.heap = h' → Ext h h' → Arv Z h' b kA (newarray.typeOf aty) n [] (defaultValue (newarray.typeOf aty)) → G (T'.setTop (mkF m pc' Ls (.ref b :: rest)))) : G (T.setTop (mkF m pc Ls (.int n :: rest))) := by
  subst hp
  obtain ⟨T', h', kA, X', e', E, A, st⟩ := newP X hx hZ w eT (g := mkF m pc Ls (.int n :: rest)) rfl hd rfl hn hcap hb hc hl
  exact hG _ _ st (k T' h' _ kA rfl X' e' E (Arv.new A hn))

/-! arrays, with all that they hold -/
def AV (Z : State) (h : Heap) (a : Addr) (ty : FieldType) (n : Int32) (vs : List Value) : Prop := ∃ k, Arv Z h a k ty n vs (defaultValue ty) ∧ vs.length = n.toNatClampNeg
theorem AV.lt {a : Addr} {ty : FieldType} {n : Int32} {vs : List Value} (A : AV Z h a ty n vs) : a < h.size := by obtain ⟨k, A, -⟩ := A; exact A.lt
theorem AV.ext {h' : Heap} {a : Addr} {ty : FieldType} {n : Int32} {vs : List Value} (A : AV Z h a ty n vs) (E : Ext h h') : AV Z h' a ty n vs := by obtain ⟨k, A, q⟩ := A; exact ⟨k, A.ext E, q⟩
theorem AV.other {h' : Heap} {a b : Addr} {sl : Nat} {v : Value} {ty : FieldType} {n : Int32} {vs : List Value} (A : AV Z h a ty n vs) (W : Wr h h' b sl v) (q : a ≠ b) : AV Z h' a ty n vs := by obtain ⟨k, A, r⟩ := A; exact ⟨k, A.other W q, r⟩
theorem AV.keep {h' : Heap} {a : Addr} {ws : List Addr} {ty : FieldType} {n : Int32} {vs : List Value} (A : AV Z h a ty n vs) (K : Keep h h' ws) (q : a ∉ ws) : AV Z h' a ty n vs := by obtain ⟨k, A, r⟩ := A; exact ⟨k, A.keep K q, r⟩
theorem AV.new {a : Addr} {k : ClassId} {ty : FieldType} {n : Int32} (A : Arv Z h a k ty n [] (defaultValue ty)) : AV Z h a ty n (List.replicate n.toNatClampNeg (defaultValue ty)) := ⟨k, A.pad (fun i => by have q := pad_rep [] (defaultValue ty) n.toNatClampNeg i; simpa using q), by simp⟩
theorem AV.at {a : Addr} {ty : FieldType} {n : Int32} {vs : List Value} (A : AV Z h a ty n vs) {j : Int32} {v : Value} (hj : ¬ j < 0) (hv : vs[j.toNatClampNeg]? = some v) :
    ∃ c, Arr Z h a c ty ∧ ¬ (j < 0 ∨ c.slots.size ≤ j.toNatClampNeg) ∧ c.slots[j.toNatClampNeg]? = some v := by
  obtain ⟨k, ⟨c, A, q1, S, q3, H, Gf⟩, q⟩ := A
  have hl : j.toNatClampNeg < vs.length := (List.getElem?_eq_some_iff.mp hv).1
  have hin : ¬ (j < 0 ∨ c.slots.size ≤ j.toNatClampNeg) := fun z => z.elim hj (fun y => by omega)
  refine ⟨c, A, hin, Has.at H hin ?_⟩
  simp [List.getD, hv]
theorem AV.set {h' : Heap} {a : Addr} {ty : FieldType} {n : Int32} {vs : List Value} (A : AV Z h a ty n vs) {j : Int32} {v : Value} (W : Wr h h' a j.toNatClampNeg v) (hv : fits ty v = true) (hl : j.toNatClampNeg < vs.length) : AV Z h' a ty n (vs.set j.toNatClampNeg v) := by
  obtain ⟨k, ⟨c, A, q1, S, q3, H, Gf⟩, q⟩ := A
  exact ⟨k, Arv.set A q1 S q3 H Gf hv W _ rfl hl, by simpa using q⟩
theorem AV.inb {a : Addr} {ty : FieldType} {n : Int32} {vs : List Value} (A : AV Z h a ty n vs) {j : Int32} (hj : ¬ j < 0) (hl : j.toNatClampNeg < vs.length) : ∃ c, Arr Z h a c ty ∧ ¬ (j < 0 ∨ c.slots.size ≤ j.toNatClampNeg) := by
  obtain ⟨k, ⟨c, A, q1, S, q3, H, Gf⟩, q⟩ := A
  exact ⟨c, A, fun z => z.elim hj (fun y => by omega)⟩
theorem g_iaload (hG : Cl p e below G) (X : Stand p l e R s m args below meth c T locs cells slots) (hx : p.tables.exec = Jvm.exec) (hZ : Z.Warmed39 s.vm) (eT : T.heap = h) {a : Addr} {n : Int32} {vs : List Value} (A : AV Z h a .int n vs) {j : Int32} {v : Value} (hj : ¬ j < 0) (hv : vs[j.toNatClampNeg]? = some v) (hd : decode c.code pc = .ok (.iaload, 1)) (hp : pc' = pc + 1) (k : G (T.setTop (mkF m pc' Ls (v :: rest)))) : G (T.setTop (mkF m pc Ls (.int j :: .ref a :: rest))) := by
  subst hp
  obtain ⟨cl, Ar, hin, hat⟩ := A.at hj hv
  refine hG _ _ (fun t ht => ?_) k
  exact X.iaload hx (by rw [eT]; exact Ar.1) (State.isArrayOf_alike hZ.alike Ar.2.1) Ar.2.2 hin hat (g := mkF m pc Ls (.int j :: .ref a :: rest)) rfl rfl hd t ht
theorem g_daload (hG : Cl p e below G) (X : Stand p l e R s m args below meth c T locs cells slots) (hx : p.tables.exec = Jvm.exec) (hZ : Z.Warmed39 s.vm) (eT : T.heap = h) {a : Addr} {n : Int32} {vs : List Value} (A : AV Z h a .double n vs) {j : Int32} {v : Value} (hj : ¬ j < 0) (hv : vs[j.toNatClampNeg]? = some v) (hd : decode c.code pc = .ok (.daload, 1)) (hp : pc' = pc + 1) (k : G (T.setTop (mkF m pc' Ls (v :: rest)))) : G (T.setTop (mkF m pc Ls (.int j :: .ref a :: rest))) := by
  subst hp
  obtain ⟨cl, Ar, hin, hat⟩ := A.at hj hv
  refine hG _ _ (fun t ht => ?_) k
  exact X.daload hx (by rw [eT]; exact Ar.1) (State.isArrayOf_alike hZ.alike Ar.2.1) Ar.2.2 hin hat (g := mkF m pc Ls (.int j :: .ref a :: rest)) rfl rfl hd t ht
theorem g_laload (hG : Cl p e below G) (X : Stand p l e R s m args below meth c T locs cells slots) (hx : p.tables.exec = Jvm.exec) (hZ : Z.Warmed39 s.vm) (eT : T.heap = h) {a : Addr} {n : Int32} {vs : List Value} (A : AV Z h a .long n vs) {j : Int32} {v : Value} (hj : ¬ j < 0) (hv : vs[j.toNatClampNeg]? = some v) (hd : decode c.code pc = .ok (.laload, 1)) (hp : pc' = pc + 1) (k : G (T.setTop (mkF m pc' Ls (v :: rest)))) : G (T.setTop (mkF m pc Ls (.int j :: .ref a :: rest))) := by
  subst hp
  obtain ⟨cl, Ar, hin, hat⟩ := A.at hj hv
  refine hG _ _ (fun t ht => ?_) k
  exact X.laload hx (by rw [eT]; exact Ar.1) (State.isArrayOf_alike hZ.alike Ar.2.1) Ar.2.2 hin hat (g := mkF m pc Ls (.int j :: .ref a :: rest)) rfl rfl hd t ht
theorem g_zaload (hG : Cl p e below G) (X : Stand p l e R s m args below meth c T locs cells slots) (hx : p.tables.exec = Jvm.exec) (hZ : Z.Warmed39 s.vm) (eT : T.heap = h) {a : Addr} {n : Int32} {vs : List Value} (A : AV Z h a .boolean n vs) {j : Int32} {v : Value} (hj : ¬ j < 0) (hv : vs[j.toNatClampNeg]? = some v) (hd : decode c.code pc = .ok (.baload, 1)) (hp : pc' = pc + 1) (k : G (T.setTop (mkF m pc' Ls (v :: rest)))) : G (T.setTop (mkF m pc Ls (.int j :: .ref a :: rest))) := by
  subst hp
  obtain ⟨cl, Ar, hin, hat⟩ := A.at hj hv
  refine hG _ _ (fun t ht => ?_) k
  exact X.baloadBooleans hx (by rw [eT]; exact Ar.1) (State.isArrayOf_alike hZ.alike Ar.2.1) Ar.2.2 hin hat (g := mkF m pc Ls (.int j :: .ref a :: rest)) rfl rfl hd t ht
theorem g_iastore (hG : Cl p e below G) (X : Stand p l e R s m args below meth c T locs cells slots) (hx : p.tables.exec = Jvm.exec) (hZ : Z.Warmed39 s.vm) (eT : T.heap = h) {a : Addr} {n : Int32} {vs : List Value} (A : AV Z h a .int n vs) {j : Int32} {x : Int32} (hj : ¬ j < 0) (hl : j.toNatClampNeg < vs.length) (hd : decode c.code pc = .ok (.iastore, 1)) (hp : pc' = pc + 1)
    (k : ∀ T' h', Stand p l e R s m args below meth c T' (locs ++ [⟨a, j.toNatClampNeg⟩]) cells slots → T'.heap = h' → Wr h h' a j.toNatClampNeg (.int x) → AV Z h' a .int n (vs.set j.toNatClampNeg (.int x)) → G (T'.setTop (mkF m pc' Ls rest))) : G (T.setTop (mkF m pc Ls (.int x :: .int j :: .ref a :: rest))) := by
  subst hp
  obtain ⟨cl, Ar, hin⟩ := A.inb hj hl
  obtain ⟨T', h', X', e', W, st⟩ := stI X hx hZ eT Ar hin (g := mkF m pc Ls (.int x :: .int j :: .ref a :: rest)) rfl rfl hd
  exact hG _ _ st (k T' h' X' e' W (A.set W rfl hl))
theorem g_dastore (hG : Cl p e below G) (X : Stand p l e R s m args below meth c T locs cells slots) (hx : p.tables.exec = Jvm.exec) (hZ : Z.Warmed39 s.vm) (eT : T.heap = h) {a : Addr} {n : Int32} {vs : List Value} (A : AV Z h a .double n vs) {j : Int32} {x : UInt64} (hj : ¬ j < 0) (hl : j.toNatClampNeg < vs.length) (hd : decode c.code pc = .ok (.dastore, 1)) (hp : pc' = pc + 1)
    (k : ∀ T' h', Stand p l e R s m args below meth c T' (locs ++ [⟨a, j.toNatClampNeg⟩]) cells slots → T'.heap = h' → Wr h h' a j.toNatClampNeg (.double x) → AV Z h' a .double n (vs.set j.toNatClampNeg (.double x)) → G (T'.setTop (mkF m pc' Ls rest))) : G (T.setTop (mkF m pc Ls (.double x :: .int j :: .ref a :: rest))) := by
  subst hp
  obtain ⟨cl, Ar, hin⟩ := A.inb hj hl
  obtain ⟨T', h', X', e', W, st⟩ := stD X hx hZ eT Ar hin (g := mkF m pc Ls (.double x :: .int j :: .ref a :: rest)) rfl rfl hd
  exact hG _ _ st (k T' h' X' e' W (A.set W rfl hl))
theorem g_lastore (hG : Cl p e below G) (X : Stand p l e R s m args below meth c T locs cells slots) (hx : p.tables.exec = Jvm.exec) (hZ : Z.Warmed39 s.vm) (eT : T.heap = h) {a : Addr} {n : Int32} {vs : List Value} (A : AV Z h a .long n vs) {j : Int32} {x : Int64} (hj : ¬ j < 0) (hl : j.toNatClampNeg < vs.length) (hd : decode c.code pc = .ok (.lastore, 1)) (hp : pc' = pc + 1)
    (k : ∀ T' h', Stand p l e R s m args below meth c T' (locs ++ [⟨a, j.toNatClampNeg⟩]) cells slots → T'.heap = h' → Wr h h' a j.toNatClampNeg (.long x) → AV Z h' a .long n (vs.set j.toNatClampNeg (.long x)) → G (T'.setTop (mkF m pc' Ls rest))) : G (T.setTop (mkF m pc Ls (.long x :: .int j :: .ref a :: rest))) := by
  subst hp
  obtain ⟨cl, Ar, hin⟩ := A.inb hj hl
  obtain ⟨T', h', X', e', W, st⟩ := stJ X hx hZ eT Ar hin (g := mkF m pc Ls (.long x :: .int j :: .ref a :: rest)) rfl rfl hd
  exact hG _ _ st (k T' h' X' e' W (A.set W rfl hl))
theorem g_zastore (hG : Cl p e below G) (X : Stand p l e R s m args below meth c T locs cells slots) (hx : p.tables.exec = Jvm.exec) (hZ : Z.Warmed39 s.vm) (eT : T.heap = h) {a : Addr} {n : Int32} {vs : List Value} (A : AV Z h a .boolean n vs) {j : Int32} {x : Int32} (hj : ¬ j < 0) (hl : j.toNatClampNeg < vs.length) (hd : decode c.code pc = .ok (.bastore, 1)) (hp : pc' = pc + 1)
    (k : ∀ T' h', Stand p l e R s m args below meth c T' (locs ++ [⟨a, j.toNatClampNeg⟩]) cells slots → T'.heap = h' → Wr h h' a j.toNatClampNeg (.int (nar .boolean x)) → AV Z h' a .boolean n (vs.set j.toNatClampNeg (.int (nar .boolean x))) → G (T'.setTop (mkF m pc' Ls rest))) : G (T.setTop (mkF m pc Ls (.int x :: .int j :: .ref a :: rest))) := by
  subst hp
  obtain ⟨cl, Ar, hin⟩ := A.inb hj hl
  obtain ⟨T', h', X', e', W, st⟩ := stZ X hx hZ eT Ar hin (g := mkF m pc Ls (.int x :: .int j :: .ref a :: rest)) rfl rfl hd
  exact hG _ _ st (k T' h' X' e' W (A.set W (fits_nar_bool _) hl))
theorem g_bbastore (hG : Cl p e below G) (X : Stand p l e R s m args below meth c T locs cells slots) (hx : p.tables.exec = Jvm.exec) (hZ : Z.Warmed39 s.vm) (eT : T.heap = h) {a : Addr} {n : Int32} {vs : List Value} (A : AV Z h a .byte n vs) {j : Int32} {x : Int32} (hj : ¬ j < 0) (hl : j.toNatClampNeg < vs.length) (hd : decode c.code pc = .ok (.bastore, 1)) (hp : pc' = pc + 1)
    (k : ∀ T' h', Stand p l e R s m args below meth c T' (locs ++ [⟨a, j.toNatClampNeg⟩]) cells slots → T'.heap = h' → Wr h h' a j.toNatClampNeg (.int x.toInt8.toInt32) → AV Z h' a .byte n (vs.set j.toNatClampNeg (.int x.toInt8.toInt32)) → G (T'.setTop (mkF m pc' Ls rest))) : G (T.setTop (mkF m pc Ls (.int x :: .int j :: .ref a :: rest))) := by
  subst hp
  obtain ⟨cl, Ar, hin⟩ := A.inb hj hl
  obtain ⟨T', h', X', e', W, st⟩ := stB X hx hZ eT Ar hin (g := mkF m pc Ls (.int x :: .int j :: .ref a :: rest)) rfl rfl hd
  exact hG _ _ st (k T' h' X' e' W (A.set W (fits_nar_byte _) hl))
theorem g_arraylength (hG : Cl p e below G) (X : Stand p l e R s m args below meth c T locs cells slots) (hx : p.tables.exec = Jvm.exec) (hZ : Z.Warmed39 s.vm) (eT : T.heap = h) {a : Addr} {ty : FieldType} {n : Int32} {vs : List Value} (A : AV Z h a ty n vs) (hd : decode c.code pc = .ok (.arraylength, 1)) (hp : pc' = pc + 1) (k : G (T.setTop (mkF m pc' Ls (.int n :: rest)))) : G (T.setTop (mkF m pc Ls (.ref a :: rest))) := by
  subst hp
  obtain ⟨kA, ⟨cl, Ar, q1, S, q3, H, Gf⟩, q⟩ := A
  rw [← len_of S q3] at k
  refine hG _ _ (fun t ht => ?_) k
  exact X.arraylength hx (by rw [eT]; exact Ar.1) (State.isArrayOf_alike hZ.alike Ar.2.1) (g := mkF m pc Ls (.ref a :: rest)) rfl rfl hd t ht
/-! calls by a contract -/
theorem g_callS (hG : Cl p e below G) (X : Stand p l e R s m args below meth c T locs cells slots) (hx : p.tables.exec = Jvm.exec) (hZ : Z.Warmed39 s.vm) {own : String} {index : Nat} {y : MethodName} {bytes : ByteArray} {maxL : Nat} {ret : Option FieldType} {rm : Room} {as : Array Value} {Qc : Option Value → Heap → List Loc → Prop} {argsL stack : List Value} {ps : List FieldType} {rt : Option FieldType} (W : Nat)
    (hown : s.vm.findClass own = some m.cls) (w1 : (Jvm.Cond.methodLink own index y).before a0 Z = true) (w2 : (Jvm.Cond.static y).before a0 Z = true) (w3 : (Jvm.Cond.initialized y.cls).before a0 Z = true) (w4 : (Jvm.Cond.code y bytes maxL ret).before a0 Z = true) (hy : y.cls ≠ "java/lang/invoke/MethodHandle" ∧ y.cls ≠ "java/lang/invoke/VarHandle")
    (hM : Con l y bytes maxL ret [] rm Z as h rm.cells rm.slots Qc) (hfr : rm.frames + 1 ≤ R.frames) (hlo : W + (maxL + 11) + rm.locals ≤ R.locals) (hsz : Ls.size = c.maxLocals) (hpd : parseMethodDescriptor y.desc = some ⟨ps, rt⟩) (hln : argsL.length = ps.length) (hst : stack = argsL.reverse ++ rest) (has : argsL.toArray = as) (hW : (rest.map fun v => v.category).sum ≤ W)
    (hd : decode c.code pc = .ok (.invokestatic index, 3)) (eT : T.heap = h) (hc : cells + rm.cells ≤ R.cells) (hs : slots + rm.slots ≤ R.slots) (hp : pc' = pc + 3)
    (k : ∀ T' v L', Stand p l e R s m args below meth c T' (locs ++ L') (cells + rm.cells) (slots + rm.slots) → Qc v T'.heap L' → G (T'.setTop (mkF m pc' Ls (v.toList ++ rest)))) : G (T.setTop (mkF m pc Ls stack)) := by
  subst hp hst has
  obtain ⟨v, _, ⟨T1, L1, k1, n1⟩, -, X1, ⟨Lc, hQ, l1, y1, z1⟩, st⟩ := Jvm.LawKit.callS X hx (y := y) hown (mvT hZ w1) (mvT hZ w2) (mvT hZ w3) (mvT hZ w4) hy (backOf (W := W) hM hZ w4 w3 hfr hlo) (g := mkF m pc Ls (argsL.reverse ++ rest)) rfl hsz (argsL := argsL) (rest := rest) (lenOf hpd hln) rfl (by show 2 * 0 + _ ≤ _; omega) hd (fun _ _ => ⟨rfl, eT, hc, hs⟩)
  dsimp only [Pt.U, Pt.locs, Pt.cells, Pt.slots] at X1 l1 y1 z1 st hQ
  subst l1 y1 z1
  exact hG _ _ st (k T1 v Lc X1 hQ)
theorem g_callI (hG : Cl p e below G) (X : Stand p l e R s m args below meth c T locs cells slots) (hx : p.tables.exec = Jvm.exec) (hZ : Z.Warmed39 s.vm) {own : String} {index : Nat} {y : MethodName} {bytes : ByteArray} {maxL : Nat} {rm : Room} {as : Array Value} {Qc : Option Value → Heap → List Loc → Prop} {a : Addr} {argsL stack : List Value} {ps : List FieldType} {rt : Option FieldType} (W : Nat)
    (hy1 : y.name = "<init>") (hown : s.vm.findClass own = some m.cls) (w1 : (Jvm.Cond.methodLink own index y).before a0 Z = true) (w2 : (Jvm.Cond.instanceMethod y).before a0 Z = true) (w3 : (Jvm.Cond.initialized y.cls).before a0 Z = true) (w4 : (Jvm.Cond.code y bytes maxL none).before a0 Z = true) (hy : y.cls ≠ "java/lang/invoke/MethodHandle" ∧ y.cls ≠ "java/lang/invoke/VarHandle")
    (hM : Con l y bytes maxL none [] rm Z as h rm.cells rm.slots Qc) (hfr : rm.frames + 1 ≤ R.frames) (hlo : W + (maxL + 11) + rm.locals ≤ R.locals) (hsz : Ls.size = c.maxLocals) (hpd : parseMethodDescriptor y.desc = some ⟨ps, rt⟩) (hln : argsL.length = ps.length) (hst : stack = argsL.reverse ++ .ref a :: rest) (has : (.ref a :: argsL).toArray = as) (hW : (rest.map fun v => v.category).sum ≤ W)
    (hd : decode c.code pc = .ok (.invokespecial index, 3)) (eT : T.heap = h) (hc : cells + rm.cells ≤ R.cells) (hs : slots + rm.slots ≤ R.slots) (hp : pc' = pc + 3)
    (k : ∀ T' v L', Stand p l e R s m args below meth c T' (locs ++ L') (cells + rm.cells) (slots + rm.slots) → Qc v T'.heap L' → G (T'.setTop (mkF m pc' Ls (v.toList ++ rest)))) : G (T.setTop (mkF m pc Ls stack)) := by
  subst hp hst has
  obtain ⟨v, _, ⟨T1, L1, k1, n1⟩, -, X1, ⟨Lc, hQ, l1, y1, z1⟩, st⟩ := X.specialBack hx (y := y) hy1 hown (mvT hZ w1) (mvT hZ w2) (mvT hZ w4) hy (backOf (W := W) hM hZ w4 w3 hfr hlo) (g := mkF m pc Ls (argsL.reverse ++ .ref a :: rest)) rfl hsz (Steps.refl _) (a := a) (argsL := argsL) (rest := rest) (lenOf hpd hln) rfl (by show 2 * 0 + _ ≤ _; omega) hd (fun _ _ => ⟨rfl, eT, hc, hs⟩)
  dsimp only [Pt.U, Pt.locs, Pt.cells, Pt.slots] at X1 l1 y1 z1 st hQ
  subst l1 y1 z1
  exact hG _ _ (fun t ht => st.trans ht) (k T1 v Lc X1 hQ)
theorem g_callV (hG : Cl p e below G) (X : Stand p l e R s m args below meth c T locs cells slots) (hx : p.tables.exec = Jvm.exec) (hZ : Z.Warmed39 s.vm) {own C : String} {index : Nat} {y : MethodName} {bytes : ByteArray} {maxL : Nat} {ret : Option FieldType} {rm : Room} {as : Array Value} {Qc : Option Value → Heap → List Loc → Prop} {a : Addr} {argsL stack : List Value} {ps : List FieldType} {rt : Option FieldType} (W : Nat)
    (hown : s.vm.findClass own = some m.cls) (w1 : (Jvm.Cond.methodLink own index y).before a0 Z = true) (w2 : (Jvm.Cond.declares y).before a0 Z = true) (ws : (Jvm.Cond.selects C y y).before a0 Z = true) (wi : (Jvm.Cond.instanceMethod y).before a0 Z = true) (w3 : (Jvm.Cond.initialized y.cls).before a0 Z = true) (w4 : (Jvm.Cond.code y bytes maxL ret).before a0 Z = true) (hy : y.cls ≠ "java/lang/invoke/MethodHandle" ∧ y.cls ≠ "java/lang/invoke/VarHandle")
    (hM : Con l y bytes maxL ret [] rm Z as h rm.cells rm.slots Qc) (hfr : rm.frames + 1 ≤ R.frames) (hlo : W + (maxL + 11) + rm.locals ≤ R.locals) (hsz : Ls.size = c.maxLocals) (hpd : parseMethodDescriptor y.desc = some ⟨ps, rt⟩) (hln : argsL.length = ps.length) (hst : stack = argsL.reverse ++ .ref a :: rest) (has : (.ref a :: argsL).toArray = as) (hW : (rest.map fun v => v.category).sum ≤ W)
    (hd : decode c.code pc = .ok (.invokevirtual index, 3)) (eT : T.heap = h) (E : Exa Z h a C) (hc : cells + rm.cells ≤ R.cells) (hs : slots + rm.slots ≤ R.slots) (hp : pc' = pc + 3)
    (k : ∀ T' v L', Stand p l e R s m args below meth c T' (locs ++ L') (cells + rm.cells) (slots + rm.slots) → Qc v T'.heap L' → G (T'.setTop (mkF m pc' Ls (v.toList ++ rest)))) : G (T.setTop (mkF m pc Ls stack)) := by
  subst hp hst has
  obtain ⟨cq, kq, qa, qb, qc⟩ := isOf hZ eT E
  obtain ⟨v, _, ⟨T1, L1, k1, n1⟩, -, X1, ⟨Lc, hQ, l1, y1, z1⟩, st⟩ := X.virtualBack hx (y := y) (z := y) hown (mvT hZ w1) (mvT hZ w2) (notFace_of_selects (args := #[]) (mvT hZ ws)) (mvT hZ ws) (mvT hZ wi) hy (backOf (W := W) hM hZ w4 w3 hfr hlo) qa qc (g := mkF m pc Ls (argsL.reverse ++ .ref a :: rest)) rfl hsz (Steps.refl _) (argsL := argsL) (rest := rest) (lenOf hpd hln) rfl (by show 2 * 0 + _ ≤ _; omega) hd (fun _ _ => ⟨rfl, eT, hc, hs⟩)
  dsimp only [Pt.U, Pt.locs, Pt.cells, Pt.slots] at X1 l1 y1 z1 st hQ
  subst l1 y1 z1
  exact hG _ _ (fun t ht => st.trans ht) (k T1 v Lc X1 hQ)
theorem g_callP (hG : Cl p e below G) (X : Stand p l e R s m args below meth c T locs cells slots) (hx : p.tables.exec = Jvm.exec) (hZ : Z.Warmed39 s.vm) {own C : String} {index : Nat} {y : MethodName} {bytes : ByteArray} {maxL : Nat} {ret : Option FieldType} {rm : Room} {as : Array Value} {Qc : Option Value → Heap → List Loc → Prop} {a : Addr} {argsL stack : List Value} {ps : List FieldType} {rt : Option FieldType} (W : Nat)
    (hown : s.vm.findClass own = some m.cls) (w1 : (Jvm.Cond.methodLink own index y).before a0 Z = true) (wi : (Jvm.Cond.instanceMethod y).before a0 Z = true) {kk : Nat} (wk : (Jvm.Cond.instantiable y.cls kk).before a0 Z = true) (wp : (Jvm.Cond.privateMethod y).before a0 Z = true) (w3 : (Jvm.Cond.initialized y.cls).before a0 Z = true) (w4 : (Jvm.Cond.code y bytes maxL ret).before a0 Z = true) (hy : y.cls ≠ "java/lang/invoke/MethodHandle" ∧ y.cls ≠ "java/lang/invoke/VarHandle")
    (hM : Con l y bytes maxL ret [] rm Z as h rm.cells rm.slots Qc) (hfr : rm.frames + 1 ≤ R.frames) (hlo : W + (maxL + 11) + rm.locals ≤ R.locals) (hsz : Ls.size = c.maxLocals) (hpd : parseMethodDescriptor y.desc = some ⟨ps, rt⟩) (hln : argsL.length = ps.length) (hst : stack = argsL.reverse ++ .ref a :: rest) (has : (.ref a :: argsL).toArray = as) (hW : (rest.map fun v => v.category).sum ≤ W)
    (hd : decode c.code pc = .ok (.invokevirtual index, 3)) (eT : T.heap = h) (E : Exa Z h a C) (hc : cells + rm.cells ≤ R.cells) (hs : slots + rm.slots ≤ R.slots) (hp : pc' = pc + 3)
    (k : ∀ T' v L', Stand p l e R s m args below meth c T' (locs ++ L') (cells + rm.cells) (slots + rm.slots) → Qc v T'.heap L' → G (T'.setTop (mkF m pc' Ls (v.toList ++ rest)))) : G (T.setTop (mkF m pc Ls stack)) := by
  subst hp hst has
  obtain ⟨cq, q1, q2⟩ := E.cell
  have hpv : s.PrivateAt y := Jvm.Cond.privateMethod_at (mvP hZ wp (args := #[]))
  obtain ⟨ck, kk', j1, j2, -, j4, -⟩ := Jvm.Cond.instantiable_spec (mvT (args := args) hZ wk)
  have ws : (Jvm.Cond.selects y.cls y y).before args s = true := selects_self_of_private j1 j2 (by simp at j4; exact j4.1) hpv (mvT hZ wi) hy
  obtain ⟨v, _, ⟨T1, L1, k1, n1⟩, -, X1, ⟨Lc, hQ, l1, y1, z1⟩, st⟩ := X.privateBack hx (y := y) hown (mvT hZ w1) (mvT hZ wi) ws hpv (mvT hZ w4) hy (backOf (W := W) hM hZ w4 w3 hfr hlo) (g := mkF m pc Ls (argsL.reverse ++ .ref a :: rest)) rfl hsz (Steps.refl _) (a := a) (by rw [eT]; exact q1) q2 (argsL := argsL) (rest := rest) (lenOf hpd hln) rfl (by show 2 * 0 + _ ≤ _; omega) hd (fun _ _ => ⟨rfl, eT, hc, hs⟩)
  dsimp only [Pt.U, Pt.locs, Pt.cells, Pt.slots] at X1 l1 y1 z1 st hQ
  subst l1 y1 z1
  exact hG _ _ (fun t ht => st.trans ht) (k T1 v Lc X1 hQ)
theorem g_natS (hG : Cl p e below G) (X : Stand p l e R s m args below meth c T locs cells slots) (hx : p.tables.exec = Jvm.exec) (hZ : Z.Warmed39 s.vm) {own : String} {index : Nat} {y : MethodName} {by0 : ByteArray} {ml : Nat} {rt : Option FieldType} {F : Array Value → Prop} {val : Value} {argsL stack : List Value} {ps : List FieldType} {rt' : Option FieldType} (W : Nat)
    (hown : s.vm.findClass own = some m.cls) (w1 : (Jvm.Cond.methodLink own index y).before a0 Z = true) (w2 : (Jvm.Cond.static y).before a0 Z = true) (w3 : (Jvm.Cond.initialized y.cls).before a0 Z = true) (w4 : (Jvm.Cond.code y by0 ml rt).before a0 Z = true) (hy : y.cls ≠ "java/lang/invoke/MethodHandle" ∧ y.cls ≠ "java/lang/invoke/VarHandle")
    (hK : (Jvm.Cond.code y by0 ml rt).before args s = true → Back l R p e below s args y 3 W (fun A a' => A.cells ≤ R.cells ∧ A.slots ≤ R.slots ∧ F a') (fun A _ v B => v = some val ∧ B = A)) (hsz : Ls.size = c.maxLocals) (hpd : parseMethodDescriptor y.desc = some ⟨ps, rt'⟩) (hln : argsL.length = ps.length) (hst : stack = argsL.reverse ++ rest) (hW : (rest.map fun v => v.category).sum ≤ W)
    (hd : decode c.code pc = .ok (.invokestatic index, 3)) (eT : T.heap = h) (hc : cells ≤ R.cells) (hs : slots ≤ R.slots) (hF : F argsL.toArray) (hp : pc' = pc + 3)
    (k : ∀ T', Stand p l e R s m args below meth c T' locs cells slots → T'.heap = h → G (T'.setTop (mkF m pc' Ls (val :: rest)))) : G (T.setTop (mkF m pc Ls stack)) := by
  subst hp hst
  obtain ⟨T', X', e', st⟩ := natS X hx hZ hown w1 w2 w3 w4 hy eT hK (g := mkF m pc Ls (argsL.reverse ++ rest)) rfl hsz (argsL := argsL) (rest := rest) (lenOf hpd hln) rfl (by show 2 * 0 + _ ≤ _; omega) hd hc hs hF rfl
  exact hG _ _ st (k T' X' e')
theorem g_getS (hG : Cl p e below G) (X : Stand p l e R s m args below meth c T locs cells slots) (hx : p.tables.exec = Jvm.exec) (hZ : Z.Warmed39 s.vm) {own R0 O n d : String} {index : Nat} (hown : s.vm.findClass own = some m.cls) (w : (Jvm.Cond.fieldLink own index R0 n d).before a0 Z = true) (via : Via Z R0 O n d) (eT : T.heap = h) {v : Value} (F : Sta Z h O n d v) (hd : decode c.code pc = .ok (.getstatic index, 3)) (hp : pc' = pc + 3)
    (k : ∀ T', Stand p l e R s m args below meth c T' locs cells slots → T'.heap = h → G (T'.setTop (mkF m pc' Ls (v :: rest)))) : G (T.setTop (mkF m pc Ls rest)) := by
  subst hp
  obtain ⟨T', X', e', st⟩ := getS2 (host := "") X hx hZ hown (Or.inl w) via eT F (g := mkF m pc Ls rest) rfl hd
  exact hG _ _ st (k T' X' e')
theorem g_castY (hG : Cl p e below G) (X : Stand p l e R s m args below meth c T locs cells slots) (hx : p.tables.exec = Jvm.exec) (hZ : Z.Warmed39 s.vm) {own K0 : String} {index : Nat} (hown : s.vm.findClass own = some m.cls) (w : (Jvm.Cond.classLink own index K0).before a0 Z = true) (eT : T.heap = h) {a : Addr} (F : Ins Z h a K0 true) (hd : decode c.code pc = .ok (.checkcast index, 3)) (hp : pc' = pc + 3)
    (k : ∀ T', Stand p l e R s m args below meth c T' locs cells slots → T'.heap = h → G (T'.setTop (mkF m pc' Ls (.ref a :: rest)))) : G (T.setTop (mkF m pc Ls (.ref a :: rest))) := by
  subst hp
  obtain ⟨T', X', e', st⟩ := castY X hx hZ hown w eT F (g := mkF m pc Ls (.ref a :: rest)) rfl rfl hd
  exact hG _ _ st (k T' X' e')
theorem g_newPE (hG : Cl p e below G) (X : Stand p l e R s m args below meth c T locs cells slots) (hx : p.tables.exec = Jvm.exec) (hZ : Z.Warmed39 s.vm) {aty : ArrayType} (w : (Jvm.Cond.arrayClass (newarray.typeOf aty)).before a0 Z = true) (eT : T.heap = h) {n : Int32} (hd : decode c.code pc = .ok (.newarray aty, 2)) (hn : ¬ n < 0) (cap : Nat) (hcap : n.toNatClampNeg ≤ cap) (hb : cap * 8 ≤ 536870912) (hc : cells + 1 ≤ R.cells) (hl : slots + cap ≤ R.slots) {ad : String} (had : "[" ++ (newarray.typeOf aty).toString = ad) (hp : pc' = pc + 2)
    (k : ∀ T' h' b, b = h.size → Stand p l e R s m args below meth c T' locs (cells + 1) (slots + cap) → T'.heap = h' → Ext h h' → AV Z h' b (newarray.typeOf aty) n (List.replicate n.toNatClampNeg (defaultValue (newarray.typeOf aty))) → Exa Z h' b ad → G (T'.setTop (mkF m pc' Ls (.ref b :: rest)))) : G (T.setTop (mkF m pc Ls (.int n :: rest))) := by
  subst hp
  obtain ⟨T', h', kA, X', e', E, A, Ex, st⟩ := newPE X hx hZ w eT (g := mkF m pc Ls (.int n :: rest)) rfl hd rfl hn hcap hb hc hl had
  exact hG _ _ st (k T' h' _ rfl X' e' E (AV.new (Arv.new A hn)) Ex)
theorem g_clone (hG : Cl p e below G) (X : Stand p l e R s m args below meth c T locs cells slots) (hx : p.tables.exec = Jvm.exec) (hZ : Z.Warmed39 s.vm) {own ad : String} {index : Nat} (hown : s.vm.findClass own = some m.cls)
    (w1 : (Jvm.Cond.methodLink own index ⟨ad, "clone", "()Ljava/lang/Object;"⟩).before a0 Z = true) (w2 : (Jvm.Cond.sameMethod ad "java/lang/Object" "clone" "()Ljava/lang/Object;").before a0 Z = true) (w3 : (Jvm.Cond.native ⟨"java/lang/Object", "clone", "()Ljava/lang/Object;"⟩).before a0 Z = true)
    (w4 : (Jvm.Cond.instanceMethod ⟨"java/lang/Object", "clone", "()Ljava/lang/Object;"⟩).before a0 Z = true) (w5 : (Jvm.Cond.selects ad ⟨ad, "clone", "()Ljava/lang/Object;"⟩ ⟨"java/lang/Object", "clone", "()Ljava/lang/Object;"⟩).before a0 Z = true) (w6 : (Jvm.Cond.castable ad "java/lang/Cloneable").before a0 Z = true)
    (eT : T.heap = h) {a : Addr} {ty : FieldType} {n : Int32} {vs : List Value} (A : AV Z h a ty n vs) (E : Exa Z h a ad) (hsz : Ls.size = c.maxLocals) (hd : decode c.code pc = .ok (.invokevirtual index, 3)) (hfr : 1 ≤ R.frames) (W cap : Nat) (hW : (rest.map fun v => v.category).sum ≤ W) (hlo : W + 14 ≤ R.locals) (hcap : n.toNatClampNeg ≤ cap) (hc : cells + 1 ≤ R.cells) (hsl : slots + cap ≤ R.slots) (hp : pc' = pc + 3)
    (k : ∀ T' h' b, b = h.size → Stand p l e R s m args below meth c T' locs (cells + 1) (slots + cap) → T'.heap = h' → Ext h h' → AV Z h' b ty n vs → Exa Z h' b ad → G (T'.setTop (mkF m pc' Ls (.ref b :: rest)))) : G (T.setTop (mkF m pc Ls (.ref a :: rest))) := by
  subst hp
  obtain ⟨kA, A, q⟩ := A
  obtain ⟨T', h', X', e', E', A', Ex, st⟩ := cloneH X hx hZ hown w1 w2 w3 w4 w5 w6 eT A.arh E (g := mkF m pc Ls (.ref a :: rest)) rfl hsz rfl hd hfr (W := W) (by show 2 * 0 + _ ≤ _; omega) hlo hcap hc hsl
  exact hG _ _ st (k T' h' _ rfl X' e' E' ⟨kA, A', q⟩ Ex)
theorem g_callVU (hG : Cl p e below G) (X : Stand p l e R s m args below meth c T locs cells slots) (hx : p.tables.exec = Jvm.exec) (hZ : Z.Warmed39 s.vm) {own C owner : String} {index : Nat} {x y : MethodName} {bytes : ByteArray} {maxL : Nat} {ret : Option FieldType} {rm : Room} {as : Array Value} {Qc : Option Value → Heap → List Loc → Prop} {a : Addr} {argsL stack : List Value} {ps : List FieldType} {rt : Option FieldType} (W : Nat)
    (hown : s.vm.findClass own = some m.cls) (w1 : (Jvm.Cond.methodLink own index x).before a0 Z = true) (wm : (Jvm.Cond.sameMethod x.cls owner x.name x.desc).before a0 Z = true) (w2 : (Jvm.Cond.declares ⟨owner, x.name, x.desc⟩).before a0 Z = true) (ho : owner ≠ "java/lang/invoke/MethodHandle" ∧ owner ≠ "java/lang/invoke/VarHandle") (ws : (Jvm.Cond.selects C x y).before a0 Z = true) (wi : (Jvm.Cond.instanceMethod y).before a0 Z = true) (w3 : (Jvm.Cond.initialized y.cls).before a0 Z = true) (w4 : (Jvm.Cond.code y bytes maxL ret).before a0 Z = true)
    (hM : Con l y bytes maxL ret [] rm Z as h rm.cells rm.slots Qc) (hfr : rm.frames + 1 ≤ R.frames) (hlo : W + (maxL + 11) + rm.locals ≤ R.locals) (hsz : Ls.size = c.maxLocals) (hpd : parseMethodDescriptor x.desc = some ⟨ps, rt⟩) (hln : argsL.length = ps.length) (hst : stack = argsL.reverse ++ .ref a :: rest) (has : (.ref a :: argsL).toArray = as) (hW : (rest.map fun v => v.category).sum ≤ W)
    (hd : decode c.code pc = .ok (.invokevirtual index, 3)) (eT : T.heap = h) (E : Exa Z h a C) (hc : cells + rm.cells ≤ R.cells) (hs : slots + rm.slots ≤ R.slots) (hp : pc' = pc + 3)
    (k : ∀ T' v L', Stand p l e R s m args below meth c T' (locs ++ L') (cells + rm.cells) (slots + rm.slots) → Qc v T'.heap L' → G (T'.setTop (mkF m pc' Ls (v.toList ++ rest)))) : G (T.setTop (mkF m pc Ls stack)) := by
  subst hp hst has
  obtain ⟨cq, kq, qa, qb, qc⟩ := isOf hZ eT E
  obtain ⟨v, _, ⟨T1, L1, k1, n1⟩, -, X1, ⟨Lc, hQ, l1, y1, z1⟩, st⟩ := X.virtualBackUp hx (x := x) (y := y) hown (mvT hZ w1) (mvT hZ wm) (mvT hZ w2) ho (mvT hZ ws) (mvT hZ wi) (backOf (W := W) hM hZ w4 w3 hfr hlo) qa qc (g := mkF m pc Ls (argsL.reverse ++ .ref a :: rest)) rfl hsz (Steps.refl _) (argsL := argsL) (rest := rest) (lenOf hpd hln) rfl (by show 2 * 0 + _ ≤ _; omega) hd (fun _ _ => ⟨rfl, eT, hc, hs⟩)
  dsimp only [Pt.U, Pt.locs, Pt.cells, Pt.slots] at X1 l1 y1 z1 st hQ
  subst l1 y1 z1
  exact hG _ _ (fun t ht => st.trans ht) (k T1 v Lc X1 hQ)
theorem g_lookup (hG : Cl p e below G) (X : Stand p l e R s m args below meth c T locs cells slots) (hx : p.tables.exec = Jvm.exec) {kk : Int32} {dflt : Int} {pairs : Array (Int × Int)} {len : Nat} (hd : decode c.code pc = .ok (.lookupswitch dflt pairs, len)) (hs : (pairs.toList.zip (pairs.toList.drop 1)).all (fun (a, next) => a.1 < next.1) = true) {a off : Int} (hf : pairs.find? (·.1 == kk.toInt) = some (a, off)) (ho : 0 ≤ (pc : Int) + off) (hp : ((pc : Int) + off).toNat = pc') (k : G (T.setTop (mkF m pc' Ls rest))) : G (T.setTop (mkF m pc Ls (.int kk :: rest))) := by
  subst hp
  refine hG _ _ (fun t ht => ?_) k
  exact X.lookupswitchHit hx (g := mkF m pc Ls (.int kk :: rest)) rfl rfl hd hs hf ho t ht
theorem g_copy (hG : Cl p e below G) (X : Stand p l e R s m args below meth c T locs cells slots) (hx : p.tables.exec = Jvm.exec) (hZ : Z.Warmed39 s.vm) {own : String} {index : Nat} (hown : s.vm.findClass own = some m.cls)
    (w1 : (Jvm.Cond.methodLink own index Jvm.Stand.acN).before a0 Z = true) (w2 : (Jvm.Cond.native Jvm.Stand.acN).before a0 Z = true) (w3 : (Jvm.Cond.static Jvm.Stand.acN).before a0 Z = true) (w4 : (Jvm.Cond.initialized "java/lang/System").before a0 Z = true) (eT : T.heap = h)
    {a b : Addr} {ty : FieldType} {n z sp dp nn : Int32} {vs vd vr : List Value} (A : AV Z h a ty n vs) (B : AV Z h b ty z vd) (hr : refKind ty = false) (h1 : ¬ sp < 0) (h2 : ¬ dp < 0) (h3 : ¬ nn < 0) (h4 : sp.toNatClampNeg + nn.toNatClampNeg ≤ n.toNatClampNeg) (h5 : dp.toNatClampNeg + nn.toNatClampNeg ≤ z.toNatClampNeg)
    (hvr : vd.take dp.toNatClampNeg ++ ((List.range nn.toNatClampNeg).map fun i => vs.getD (sp.toNatClampNeg + i) (defaultValue ty)) ++ vd.drop (dp.toNatClampNeg + nn.toNatClampNeg) = vr) {n0 : Nat} (N0 : Fr n0 locs) (ge : n0 ≤ b) (hsz : Ls.size = c.maxLocals) (hd : decode c.code pc = .ok (.invokestatic index, 3)) (hfr : 1 ≤ R.frames) (W : Nat) (hW : (rest.map fun v => v.category).sum ≤ W) (hlo : W + (nativeFrameWords "java/lang/System" "arraycopy" 5 + 11) ≤ R.locals) (hp : pc' = pc + 3)
    (k : ∀ T' h' L, Stand p l e R s m args below meth c T' L cells slots → T'.heap = h' → Fr n0 L → Keep h h' [b] → AV Z h' b ty z vr → G (T'.setTop (mkF m pc' Ls rest))) : G (T.setTop (mkF m pc Ls (.int nn :: .int dp :: .ref b :: .int sp :: .ref a :: rest))) := by
  subst hp hvr
  obtain ⟨kA, A, qa⟩ := A
  obtain ⟨kB, B, qb⟩ := B
  obtain ⟨T', h', L', X', e', N', K', V', st⟩ := cpA X hx hZ hown w1 w2 w3 w4 eT A B (Or.inl ⟨rfl, hr⟩) h1 h2 h3 h4 h5 rfl (by omega) N0 ge (g := mkF m pc Ls (.int nn :: .int dp :: .ref b :: .int sp :: .ref a :: rest)) rfl hsz rfl hd hfr (W := W) (by show 2 * 0 + _ ≤ _; omega) hlo
  exact hG _ _ st (k T' h' L' X' e' N' K' ⟨kB, V', by simp only [List.length_append, List.length_take, List.length_map, List.length_range, List.length_drop]; omega⟩)
theorem Sta.keep0 {h' : Heap} {C n d : String} {v : Value} (F : Sta Z h C n d v) (K : Keep h h' []) : Sta Z h' C n d v := by
  obtain ⟨cf, i, k, f, st, cell, h1, h2, h3, h4, h5, r⟩ := F
  exact ⟨cf, i, k, f, st, cell, h1, h2, h3, h4, K.2.1 _ _ h5 (fun q => nomatch q), r⟩
end New
end Jvm.OwnKit
namespace Jvm.OwnKit
open Sem ClassFile Op Lib Jvm.Stand Jvm.Free Jvm.LawKit Jvm.RoadKit
/-! an array of int[], with all that it holds -/
def RV (Z : State) (h : Heap) (a : Addr) (cA : ClassId) (n : Int32) (vs : List Value) : Prop := Arv Z h a cA (.array .int) n vs .null ∧ vs.length = n.toNatClampNeg
section Grid
variable {p : Program} {l : Launch} {e : Env} {R : Room} {s : State} {m : MethodId} {args : Array Value} {below : List Frame} {meth : Method} {c : Code} {T : State} {locs : List Loc} {cells slots : Nat} {Z : State} {a0 : Array Value} {h : Heap} {G : State → Prop} {pc pc' : Nat} {Ls Ls' : Array Slot} {rest : List Value} {K N : Nat} {Q : Option Value → Heap → List Loc → Prop}
theorem RV.lt {a : Addr} {k : ClassId} {n : Int32} {vs : List Value} (A : RV Z h a k n vs) : a < h.size := A.1.lt
theorem RV.ext {h' : Heap} {a : Addr} {k : ClassId} {n : Int32} {vs : List Value} (A : RV Z h a k n vs) (E : Ext h h') : RV Z h' a k n vs := ⟨A.1.ext E, A.2⟩
theorem RV.other {h' : Heap} {a b : Addr} {sl : Nat} {v : Value} {k : ClassId} {n : Int32} {vs : List Value} (A : RV Z h a k n vs) (W : Wr h h' b sl v) (q : a ≠ b) : RV Z h' a k n vs := ⟨A.1.other W q, A.2⟩
theorem RV.keep {h' : Heap} {a : Addr} {ws : List Addr} {k : ClassId} {n : Int32} {vs : List Value} (A : RV Z h a k n vs) (K : Keep h h' ws) (q : a ∉ ws) : RV Z h' a k n vs := ⟨A.1.keep K q, A.2⟩
theorem g_newRA (hG : Cl p e below G) (X : Stand p l e R s m args below meth c T locs cells slots) (hx : p.tables.exec = Jvm.exec) (hZ : Z.Warmed39 s.vm) {own : String} {index : Nat} (hown : s.vm.findClass own = some m.cls) (w1 : (Jvm.Cond.classLink own index "[I").before a0 Z = true) (w2 : (Jvm.Cond.arrayOver (.array .int)).before a0 Z = true)
    (eT : T.heap = h) {n : Int32} (hd : decode c.code pc = .ok (.anewarray index, 3)) (hn : ¬ n < 0) (cap : Nat) (hcap : n.toNatClampNeg ≤ cap) (hb : cap * 8 ≤ 536870912) (hc : cells + 1 ≤ R.cells) (hl : slots + cap ≤ R.slots) (hp : pc' = pc + 3)
    (k : ∀ T' h' b cA, b = h.size → Stand p l e R s m args below meth c T' locs (cells + 1) (slots + cap) → T'.heap = h' → Ext h h' → RV Z h' b cA n (List.replicate n.toNatClampNeg .null) → Exa Z h' b "[[I" → OvrA Z cA .int "[I" → G (T'.setTop (mkF m pc' Ls (.ref b :: rest)))) : G (T.setTop (mkF m pc Ls (.int n :: rest))) := by
  subst hp
  obtain ⟨T', h', cA, X', e', E, A, Ex, O, st⟩ := newRA (C := "[I") (ty := .int) X hx hZ hown (by decide) w1 w2 eT (g := mkF m pc Ls (.int n :: rest)) rfl hd rfl hn hcap hb hc hl (ad := "[[I") (by decide)
  exact hG _ _ st (k T' h' _ cA rfl X' e' E ⟨(Arv.new A hn).pad (fun i => by have q := pad_rep [] (defaultValue (.array .int)) n.toNatClampNeg i; simpa [defaultValue] using q), by simp⟩ Ex O)
theorem g_aaload (hG : Cl p e below G) (X : Stand p l e R s m args below meth c T locs cells slots) (hx : p.tables.exec = Jvm.exec) (hZ : Z.Warmed39 s.vm) (eT : T.heap = h) {a : Addr} {k0 : ClassId} {n : Int32} {vs : List Value} (A : RV Z h a k0 n vs) {j : Int32} {v : Value} (hj : ¬ j < 0) (hv : vs[j.toNatClampNeg]? = some v) (hd : decode c.code pc = .ok (.aaload, 1)) (hp : pc' = pc + 1) (k : G (T.setTop (mkF m pc' Ls (v :: rest)))) : G (T.setTop (mkF m pc Ls (.int j :: .ref a :: rest))) := by
  subst hp
  obtain ⟨⟨cl, Ar, q1, S, q3, H, Gf⟩, q⟩ := A
  have hl : j.toNatClampNeg < vs.length := (List.getElem?_eq_some_iff.mp hv).1
  have hin : ¬ (j < 0 ∨ cl.slots.size ≤ j.toNatClampNeg) := fun z => z.elim hj (fun y => by omega)
  refine hG _ _ (fun t ht => ?_) k
  exact X.aaload hx (by rw [eT]; exact Ar.1) (State.isArrayOf_alike hZ.alike Ar.2.1) rfl Ar.2.2 hin (Has.at H hin (by simp [List.getD, hv])) (g := mkF m pc Ls (.int j :: .ref a :: rest)) rfl rfl hd t ht
theorem g_aastore (hG : Cl p e below G) (X : Stand p l e R s m args below meth c T locs cells slots) (hx : p.tables.exec = Jvm.exec) (hZ : Z.Warmed39 s.vm) (eT : T.heap = h) {a y : Addr} {cA : ClassId} {n : Int32} {vs : List Value} (A : RV Z h a cA n vs) (O : OvrA Z cA .int "[I") (E : Exa Z h y "[I") {j : Int32} (hj : ¬ j < 0) (hl : j.toNatClampNeg < vs.length) (hd : decode c.code pc = .ok (.aastore, 1)) (hp : pc' = pc + 1)
    (k : ∀ T' h', Stand p l e R s m args below meth c T' (locs ++ [⟨a, j.toNatClampNeg⟩]) cells slots → T'.heap = h' → Wr h h' a j.toNatClampNeg (.ref y) → RV Z h' a cA n (vs.set j.toNatClampNeg (.ref y)) → G (T'.setTop (mkF m pc' Ls rest))) : G (T.setTop (mkF m pc Ls (.ref y :: .int j :: .ref a :: rest))) := by
  subst hp
  obtain ⟨⟨cl, Ar, q1, S, q3, H, Gf⟩, q⟩ := A
  have hin : ¬ (j < 0 ∨ cl.slots.size ≤ j.toNatClampNeg) := fun z => z.elim hj (fun y => by omega)
  obtain ⟨T', h', X', e', W, st⟩ := stR X hx hZ eT Ar hin rfl (Sto.ofVA Ar q1 O (Ins.self E)) (g := mkF m pc Ls (.ref y :: .int j :: .ref a :: rest)) rfl rfl hd
  exact hG _ _ st (k T' h' X' e' W ⟨Arv.set Ar q1 S q3 H Gf rfl W _ rfl hl, by simpa using q⟩)
theorem g_copyR0 (hG : Cl p e below G) (X : Stand p l e R s m args below meth c T locs cells slots) (hx : p.tables.exec = Jvm.exec) (hZ : Z.Warmed39 s.vm) {own : String} {index : Nat} (hown : s.vm.findClass own = some m.cls)
    (w1 : (Jvm.Cond.methodLink own index Jvm.Stand.acN).before a0 Z = true) (w2 : (Jvm.Cond.native Jvm.Stand.acN).before a0 Z = true) (w3 : (Jvm.Cond.static Jvm.Stand.acN).before a0 Z = true) (w4 : (Jvm.Cond.initialized "java/lang/System").before a0 Z = true) (eT : T.heap = h)
    {a : Addr} {cA : ClassId} {n sp dp : Int32} {vs : List Value} (A : RV Z h a cA n vs) (h1 : ¬ sp < 0) (h2 : ¬ dp < 0) (h4 : sp.toNatClampNeg ≤ n.toNatClampNeg) (h5 : dp.toNatClampNeg ≤ n.toNatClampNeg)
    {n0 : Nat} (N0 : Fr n0 locs) (ge : n0 ≤ a) (hsz : Ls.size = c.maxLocals) (hd : decode c.code pc = .ok (.invokestatic index, 3)) (hfr : 1 ≤ R.frames) (W : Nat) (hW : (rest.map fun v => v.category).sum ≤ W) (hlo : W + (nativeFrameWords "java/lang/System" "arraycopy" 5 + 11) ≤ R.locals) (hp : pc' = pc + 3)
    (k : ∀ T' h' L, Stand p l e R s m args below meth c T' L cells slots → T'.heap = h' → Fr n0 L → Keep h h' [a] → RV Z h' a cA n vs → G (T'.setTop (mkF m pc' Ls rest))) : G (T.setTop (mkF m pc Ls (.int 0 :: .int dp :: .ref a :: .int sp :: .ref a :: rest))) := by
  subst hp
  obtain ⟨A, q⟩ := A
  obtain ⟨T', h', L', X', e', N', K', V', st⟩ := cpA X hx hZ hown w1 w2 w3 w4 eT A A (us := []) (nn := 0) (Or.inr ⟨rfl, rfl, trivial⟩) h1 h2 (by decide) (by show _ + 0 ≤ _; omega) (by show _ + 0 ≤ _; omega) rfl (by show _ + 0 ≤ _; omega) N0 ge (g := mkF m pc Ls (.int 0 :: .int dp :: .ref a :: .int sp :: .ref a :: rest)) rfl hsz rfl hd hfr (W := W) (by show 2 * 0 + _ ≤ _; omega) hlo
  refine hG _ _ st (k T' h' L' X' e' N' K' ⟨?_, q⟩)
  have e : vs.take dp.toNatClampNeg ++ [] ++ vs.drop (dp.toNatClampNeg + (0 : Int32).toNatClampNeg) = vs := by rw [List.append_nil]; exact List.take_append_drop _ _
  rw [e] at V'
  exact V'
theorem g_rawBits (hG : Cl p e below G) (X : Stand p l e R s m args below meth c T locs cells slots) (hx : p.tables.exec = Jvm.exec) (hZ : Z.Warmed39 s.vm) {own : String} {index : Nat} (hown : s.vm.findClass own = some m.cls) (w1 : (Jvm.Cond.methodLink own index Jvm.doubleToRawLongBitsName).before a0 Z = true) (w2 : (Jvm.Cond.native Jvm.doubleToRawLongBitsName).before a0 Z = true) (w3 : (Jvm.Cond.static Jvm.doubleToRawLongBitsName).before a0 Z = true) (w4 : (Jvm.Cond.initialized "java/lang/Double").before a0 Z = true)
    (eT : T.heap = h) {b : UInt64} (hsz : Ls.size = c.maxLocals) (hd : decode c.code pc = .ok (.invokestatic index, 3)) (hfr : 1 ≤ R.frames) (hlo : (rest.map fun v => v.category).sum + (nativeFrameWords "java/lang/Double" "doubleToRawLongBits" 2 + 11) ≤ R.locals) (hp : pc' = pc + 3)
    (k : ∀ T', Stand p l e R s m args below meth c T' locs cells slots → T'.heap = h → G (T'.setTop (mkF m pc' Ls (.long b.toInt64 :: rest)))) : G (T.setTop (mkF m pc Ls (.double b :: rest))) := by
  subst hp
  obtain ⟨vm', X', st⟩ := X.doubleToRawLongBits hx hown (mvT hZ w1) (mvT hZ w2) (mvT hZ w3) (mvT hZ w4) (g := mkF m pc Ls (.double b :: rest)) rfl hsz rfl hd hfr (by show 2 * 0 + _ + _ ≤ _; omega)
  exact hG _ _ st (k _ X' eT)
end Grid
end Jvm.OwnKit
namespace Jvm.OwnFl
open Jvm.FP.Core
theorem two_ne : (2 : Rat) ≠ 0 := by decide
theorem p2pos (q : Int) : (0 : Rat) < (2 : Rat) ^ q := Rat.zpow_pos (by decide)
theorem p2add (a b : Int) : (2 : Rat) ^ (a + b) = (2 : Rat) ^ a * (2 : Rat) ^ b := Rat.zpow_add two_ne a b
theorem p2nat (n : Nat) : (2 : Rat) ^ (n : Int) = ((2 ^ n : Nat) : Rat) := by rw [Rat.zpow_natCast, Rat.natCast_pow]; rfl
theorem p2le {a b : Int} (h : a ≤ b) : (2 : Rat) ^ a ≤ (2 : Rat) ^ b := by
  obtain ⟨n, hn⟩ : ∃ n : Nat, b = a + n := ⟨(b - a).toNat, by omega⟩
  subst hn
  rw [p2add, p2nat]
  have h1 : (1 : Rat) ≤ ((2 ^ n : Nat) : Rat) := by
    have q : ((1 : Nat) : Rat) ≤ ((2 ^ n : Nat) : Rat) := Rat.natCast_le_natCast.mpr (Nat.two_pow_pos n)
    exact q
  have q := Rat.mul_le_mul_of_nonneg_left h1 (Rat.le_of_lt (p2pos a))
  rwa [Rat.mul_one] at q
theorem p2lt {a b : Int} (h : (2 : Rat) ^ a < (2 : Rat) ^ b) : a < b := by
  by_cases q : a < b
  · exact q
  · exact absurd (p2le (Int.not_lt.mp q)) (Rat.not_le.mpr h)
/-- the value of a datum (nought for what is no number) -/
def rvd : Datum → Rat
  | .fin s c q => ((signed s c : Int) : Rat) * (2 : Rat) ^ q
  | _ => 0
/-- v is a finite double, of the value x -/
def DV (v : UInt64) (x : Rat) : Prop := ∃ s c q, val64 v = .fin s c q ∧ rvd (.fin s c q) = x
theorem DV.fin {v : UInt64} {x : Rat} (h : DV v x) : Jvm.Free.Fl.Fin64 v := by
  obtain ⟨s, c, q, h, -⟩ := h
  exact Jvm.Free.Fl.fin64_core.mpr ⟨s, c, q, h⟩
theorem DV.noNaN {v : UInt64} {x : Rat} (h : DV v x) : Jvm.Free.Fl.NoNaN64 v := h.fin.noNaN
theorem DV.uniq {v : UInt64} {x y : Rat} (h : DV v x) (g : DV v y) : x = y := by
  obtain ⟨s, c, q, h1, h2⟩ := h
  obtain ⟨t, d, r, g1, g2⟩ := g
  cases h1.symm.trans g1
  exact h2.symm.trans g2
theorem units_val (s : Bool) (c : Nat) {q e : Int} (h : e ≤ q) : ((signed s (inUnits c q e) : Int) : Rat) * (2 : Rat) ^ e = ((signed s c : Int) : Rat) * (2 : Rat) ^ q := by
  obtain ⟨n, rfl⟩ : ∃ n : Nat, q = e + n := ⟨(q - e).toNat, by omega⟩
  unfold inUnits
  rw [signed_mul, Rat.intCast_mul, Rat.mul_assoc, show (e + (n : Int) - e).toNat = n by omega, p2add, p2nat, Rat.mul_comm ((2 : Rat) ^ e)]
  rfl
theorem dcmp_of {a b : UInt64} {x y : Rat} (ha : DV a x) (hb : DV b y) : dcmp a b = some (if x < y then .lt else if x = y then .eq else .gt) := by
  obtain ⟨s, c, q, h1, rfl⟩ := ha
  obtain ⟨t, d, r, h2, rfl⟩ := hb
  show order (val64 a) (val64 b) = _
  rw [h1, h2]
  show some (compare (signed s (inUnits c q (min q r))) (signed t (inUnits d r (min q r)))) = some (if ((signed s c : Int) : Rat) * (2 : Rat) ^ q < ((signed t d : Int) : Rat) * (2 : Rat) ^ r then .lt else if ((signed s c : Int) : Rat) * (2 : Rat) ^ q = ((signed t d : Int) : Rat) * (2 : Rat) ^ r then .eq else .gt)
  rw [compare_ite, ← units_val s c (Int.min_le_left q r), ← units_val t d (Int.min_le_right q r)]
  generalize signed s (inUnits c q (min q r)) = i
  generalize signed t (inUnits d r (min q r)) = j
  have hu := p2pos (min q r)
  generalize (2 : Rat) ^ (min q r) = u at hu
  have k1 : ∀ i j : Int, ((i : Rat) * u < (j : Rat) * u) ↔ i < j := fun i j => (Rat.mul_lt_mul_right hu).trans Rat.intCast_lt_intCast
  have k2 : ((i : Rat) * u = (j : Rat) * u) ↔ i = j := by
    constructor
    · intro h
      rcases Int.lt_trichotomy i j with g | g | g
      · have := (k1 i j).mpr g; rw [h] at this; exact absurd this Rat.lt_irrefl
      · exact g
      · have := (k1 j i).mpr g; rw [h] at this; exact absurd this Rat.lt_irrefl
    · intro h; rw [h]
  simp only [k1, k2]
theorem dcmp_lt {a b : UInt64} {x y : Rat} (ha : DV a x) (hb : DV b y) (h : x < y) : Jvm.FP.dcmp a b = some .lt := by
  show dcmp a b = _
  rw [dcmp_of ha hb, if_pos h]
theorem dcmp_eq {a b : UInt64} {x y : Rat} (ha : DV a x) (hb : DV b y) (h : x = y) : Jvm.FP.dcmp a b = some .eq := by
  show dcmp a b = _
  rw [dcmp_of ha hb, if_neg (by rw [h]; exact Rat.lt_irrefl), if_pos h]
theorem dcmp_gt {a b : UInt64} {x y : Rat} (ha : DV a x) (hb : DV b y) (h : y < x) : Jvm.FP.dcmp a b = some .gt := by
  show dcmp a b = _
  rw [dcmp_of ha hb, if_neg (by rw [Rat.not_lt]; exact Rat.le_of_lt h), if_neg (Rat.ne_of_gt h)]
theorem dcmp_le {a b : UInt64} {x y : Rat} (ha : DV a x) (hb : DV b y) (h : x ≤ y) : Jvm.FP.dcmp a b = some .lt ∨ Jvm.FP.dcmp a b = some .eq := by
  by_cases q : x = y
  · exact Or.inr (dcmp_eq ha hb q)
  · exact Or.inl (dcmp_lt ha hb (Rat.lt_of_le_of_ne h q))
theorem dcmp_ge {a b : UInt64} {x y : Rat} (ha : DV a x) (hb : DV b y) (h : y ≤ x) : Jvm.FP.dcmp a b = some .gt ∨ Jvm.FP.dcmp a b = some .eq := by
  by_cases q : x = y
  · exact Or.inr (dcmp_eq ha hb q)
  · exact Or.inl (dcmp_gt ha hb (Rat.lt_of_le_of_ne h (fun z => q z.symm)))
/-- the rounding of a positive ratio, in full -/
theorem rr_spec (s : Bool) {A B : Nat} (e : Int) (hA : 0 < A) (hB : 0 < B) {x : Rat} (hx : x * (B : Rat) = (A : Rat) * (2 : Rat) ^ e) (hlt : x < (2 : Rat) ^ (1023 : Int)) :
    ∃ c q, roundRatio b64 s A B e = .fin s c q ∧ ∃ (m : Nat) (r : Int), (c : Rat) * (2 : Rat) ^ q = (m : Rat) * (2 : Rat) ^ r ∧ -1074 ≤ r ∧ m ≤ 2 ^ 53 ∧ 2 * x ≤ (2 * (m : Rat) + 1) * (2 : Rat) ^ r ∧ 2 * (m : Rat) * (2 : Rat) ^ r ≤ 2 * x + (2 : Rat) ^ r ∧
      x < 9007199254740992 * (2 : Rat) ^ r ∧ (r = -1074 ∨ 4503599627370496 * (2 : Rat) ^ r ≤ x) := by
  have g1 := quantum_ge b64 A B e
  have g2 := nearest_units_le (f := b64) hA hB e
  have g3 := quantum_not_below (f := b64) hA hB e
  have g4 := quantum_below (f := b64) hA hB e
  unfold roundRatio
  rw [if_neg (by omega : ¬ A = 0)]
  generalize quantum b64 A B e = r at *
  unfold roundAt
  have hD := unitsDen_pos hB e r
  obtain ⟨n1, n2, -⟩ := nearest_spec (unitsNum A e r) (unitsDen B e r) hD
  have key : x * (unitsDen B e r : Rat) = (unitsNum A e r : Rat) * (2 : Rat) ^ r := by
    unfold unitsDen unitsNum
    rw [Rat.natCast_mul, Rat.natCast_mul, ← Rat.mul_assoc, hx, ← p2nat, ← p2nat, Rat.mul_assoc, Rat.mul_assoc, ← p2add, ← p2add, show e + ((r - e).toNat : Int) = ((e - r).toNat : Int) + r by omega]
  have b1 : unitsNum A e r < 2 ^ 53 * unitsDen B e r := (units_below A B e r 53).mpr g4
  have b2 : r = -1074 ∨ 2 ^ 52 * unitsDen B e r ≤ unitsNum A e r := by
    rcases g3 with g3 | g3
    · exact Or.inl g3
    · exact Or.inr (Nat.le_of_not_lt fun q => g3 ((units_below A B e r 52).mp q))
  have hr0 : -1074 ≤ r := g1
  have hm53 : nearest (unitsNum A e r) (unitsDen B e r) ≤ 2 ^ 53 := g2
  clear g1 g2 g3 g4
  generalize nearest (unitsNum A e r) (unitsDen B e r) = m at *
  generalize unitsNum A e r = N at *
  generalize unitsDen B e r = D at *
  have hu := p2pos r
  have hDp : (0 : Rat) < (D : Rat) := Rat.natCast_pos.mpr hD
  have n1' : 2 * (N : Rat) ≤ (2 * (m : Rat) + 1) * (D : Rat) := by
    have q := Rat.natCast_le_natCast.mpr n1
    simpa [Rat.natCast_mul, Rat.natCast_add] using q
  have n2' : 2 * (m : Rat) * (D : Rat) ≤ 2 * (N : Rat) + (D : Rat) := by
    have q := Rat.natCast_le_natCast.mpr n2
    simpa [Rat.natCast_mul, Rat.natCast_add] using q
  have b1' : (N : Rat) < 9007199254740992 * (D : Rat) := by
    have q := Rat.natCast_lt_natCast.mpr b1
    simpa [Rat.natCast_mul] using q
  have b2' : r = -1074 ∨ 4503599627370496 * (D : Rat) ≤ (N : Rat) := by
    rcases b2 with q | q
    · exact Or.inl q
    · right
      have q := Rat.natCast_le_natCast.mpr q
      simpa [Rat.natCast_mul] using q
  have f1 : 2 * x ≤ (2 * (m : Rat) + 1) * (2 : Rat) ^ r := by
    refine Rat.le_of_mul_le_mul_right (c := (D : Rat)) ?_ hDp
    have q := Rat.mul_le_mul_of_nonneg_right n1' (Rat.le_of_lt hu)
    generalize (2 : Rat) ^ r = u at *
    grind
  have f2 : 2 * (m : Rat) * (2 : Rat) ^ r ≤ 2 * x + (2 : Rat) ^ r := by
    refine Rat.le_of_mul_le_mul_right (c := (D : Rat)) ?_ hDp
    have q := Rat.mul_le_mul_of_nonneg_right n2' (Rat.le_of_lt hu)
    generalize (2 : Rat) ^ r = u at *
    grind
  have f3 : x < 9007199254740992 * (2 : Rat) ^ r := by
    refine Rat.lt_of_mul_lt_mul_right (c := (D : Rat)) ?_ (Rat.le_of_lt hDp)
    have q := Rat.mul_lt_mul_of_pos_right b1' hu
    generalize (2 : Rat) ^ r = u at *
    grind
  have f4 : r = -1074 ∨ 4503599627370496 * (2 : Rat) ^ r ≤ x := by
    rcases b2' with q | q
    · exact Or.inl q
    · right
      refine Rat.le_of_mul_le_mul_right (c := (D : Rat)) ?_ hDp
      have q := Rat.mul_le_mul_of_nonneg_right q (Rat.le_of_lt hu)
      generalize (2 : Rat) ^ r = u at *
      grind
  have hr : r ≤ 970 := by
    rcases f4 with q | q
    · omega
    · have q1 : (2 : Rat) ^ ((52 : Int) + r) < (2 : Rat) ^ (1023 : Int) := by
        rw [p2add, show (2 : Rat) ^ (52 : Int) = 4503599627370496 by decide +kernel]
        exact Std.lt_of_le_of_lt q hlt
      have := p2lt q1
      omega
  have hqm : b64.qmax = 971 := by decide
  by_cases hm : m < 2 ^ 53
  · refine ⟨m, r, ?_, m, r, rfl, hr0, hm53, f1, f2, f3, f4⟩
    show (if m < 2 ^ 53 then bound b64 s m r else _) = _
    rw [if_pos hm]
    unfold bound
    rw [if_pos (by omega)]
  · have hm : m = 2 ^ 53 := by omega
    refine ⟨2 ^ 52, r + 1, ?_, m, r, ?_, hr0, hm53, f1, f2, f3, f4⟩
    · show (if m < 2 ^ 53 then bound b64 s m r else bound b64 s b64.tails (r + 1)) = _
      rw [if_neg (by omega)]
      unfold bound
      rw [if_pos (by omega)]
      rfl
    · subst hm
      rw [p2add, Rat.zpow_one]
      generalize (2 : Rat) ^ r = u
      have e1 : ((2 ^ 52 : Nat) : Rat) = 4503599627370496 := by decide +kernel
      have e2 : ((2 ^ 53 : Nat) : Rat) = 9007199254740992 := by decide +kernel
      rw [e1, e2]
      grind
/-- the rounding of a rational number to a double's precision -/
def RR (x : Rat) : Rat := rvd (roundRatio b64 (decide (x < 0)) x.num.natAbs x.den 0)
theorem rat_num (x : Rat) : x * (x.den : Rat) = (x.num : Rat) := by
  have h : x = (x.num : Rat) / ((x.den : Int) : Rat) := by rw [← Rat.divInt_eq_div, Rat.num_divInt_den]
  have hd : (((x.den : Int)) : Rat) ≠ 0 := by
    intro q
    have := Rat.intCast_eq_zero_iff.mp q
    have := x.den_nz
    omega
  have q := Rat.div_mul_cancel (a := (x.num : Rat)) hd
  rw [← h] at q
  exact q
theorem signed_rat (s : Bool) (c : Nat) : ((signed s c : Int) : Rat) = if s then -(c : Rat) else (c : Rat) := by cases s <;> simp [signed, Rat.intCast_natCast]
/-- rounding goes by the value -/
theorem rr_congr {s : Bool} {A B : Nat} {e : Int} {x : Rat} (hB : 0 < B) (hx : x * (B : Rat) = ((signed s A : Int) : Rat) * (2 : Rat) ^ e) (hA : A ≠ 0) : roundRatio b64 s A B e = roundRatio b64 (decide (x < 0)) x.num.natAbs x.den 0 := by
  have hu := p2pos e
  have hBp : (0 : Rat) < (B : Rat) := Rat.natCast_pos.mpr hB
  have hAp : (0 : Rat) < (A : Rat) := Rat.natCast_pos.mpr (by omega)
  have hAu := Rat.mul_pos hAp hu
  have hs : decide (x < 0) = s := by
    rw [signed_rat] at hx
    cases s
    · simp only [Bool.false_eq_true, if_false] at hx
      rw [decide_eq_false_iff_not]
      intro q
      have := (Rat.mul_neg_iff_of_pos_right hBp).mpr q
      rw [hx] at this
      grind
    · simp only [if_true] at hx
      rw [decide_eq_true_iff]
      refine (Rat.mul_neg_iff_of_pos_right hBp).mp ?_
      rw [hx]
      grind
  rw [hs]
  refine roundRatio_congr hB x.den_pos ?_
  -- magnitudes
  have h1 := rat_num x
  have h2 : (x.num : Rat) * (B : Rat) = ((signed s A : Int) : Rat) * (2 : Rat) ^ e * (x.den : Rat) := by rw [← h1, ← hx]; grind
  have h3 : (x.num : Rat) * (B : Rat) * (2 : Rat) ^ (((0 - e).toNat : Nat) : Int) = ((signed s A : Int) : Rat) * (x.den : Rat) * (2 : Rat) ^ (((e - 0).toNat : Nat) : Int) := by
    rw [h2, Rat.mul_assoc, Rat.mul_assoc, Rat.mul_comm ((2 : Rat) ^ e), Rat.mul_assoc, ← p2add, ← Rat.mul_assoc]
    rw [show (((0 - e).toNat : Nat) : Int) + e = (((e - 0).toNat : Nat) : Int) by omega]
  rw [p2nat, p2nat] at h3
  have h4 : x.num * (B : Int) * ((2 ^ (0 - e).toNat : Nat) : Int) = signed s A * (x.den : Int) * ((2 ^ (e - 0).toNat : Nat) : Int) := by
    refine Rat.intCast_inj.mp ?_
    rw [Rat.intCast_mul, Rat.intCast_mul, Rat.intCast_mul, Rat.intCast_mul]
    exact h3
  have h5 := congrArg Int.natAbs h4
  simp only [Int.natAbs_mul, Int.natAbs_natCast, natAbs_signed] at h5
  exact h5.symm
theorem rvd_rr {s : Bool} {A B : Nat} {e : Int} {x : Rat} (hB : 0 < B) (hx : x * (B : Rat) = ((signed s A : Int) : Rat) * (2 : Rat) ^ e) : rvd (roundRatio b64 s A B e) = RR x := by
  by_cases hA : A = 0
  · subst hA
    have hx0 : x = 0 := by
      rw [signed_zero] at hx
      have hBp : (B : Rat) ≠ 0 := fun q => by have := Rat.natCast_eq_zero_iff.mp q; omega
      rcases Rat.mul_eq_zero.mp (hx.trans (by rw [show ((0 : Int) : Rat) = 0 from rfl, Rat.zero_mul])) with q | q
      · exact q
      · exact absurd q hBp
    subst hx0
    unfold RR roundRatio
    rw [if_pos rfl, if_pos (by decide)]
    show ((signed s 0 : Int) : Rat) * _ = ((signed _ 0 : Int) : Rat) * _
    rw [signed_zero, signed_zero]
  · rw [rr_congr hB hx hA]; rfl
theorem RR_neg (x : Rat) : RR (-x) = - RR x := by
  have h := rat_num x
  have h1 : rvd (roundRatio b64 (!decide (x < 0)) x.num.natAbs x.den 0) = RR (-x) := by
    refine rvd_rr x.den_pos ?_
    rw [Rat.zpow_zero, Rat.mul_one, Rat.neg_mul, h]
    have : (signed (!decide (x < 0)) x.num.natAbs : Int) = - x.num := by
      by_cases q : x < 0
      · have : x.num < 0 := by
          rw [← Int.not_le, Rat.num_nonneg, Rat.not_le]; exact q
        simp [signed, q]; omega
      · have : 0 ≤ x.num := by rw [Rat.num_nonneg]; exact Rat.not_lt.mp q
        simp [signed, q]; omega
    rw [this]; rfl
  rw [← h1, ← negate_roundRatio]
  unfold RR
  generalize roundRatio b64 (decide (x < 0)) x.num.natAbs x.den 0 = d
  cases d with
  | nan => simp [negate, rvd]
  | inf s => simp [negate, rvd]
  | fin s c q =>
    show ((signed (!s) c : Int) : Rat) * _ = -(((signed s c : Int) : Rat) * _)
    rw [← Rat.neg_mul]
    congr 1
    cases s <;> simp [signed]
/-- what is known of a rounding y of x -/
def Rsp (x y : Rat) : Prop := ∃ (m r : Int), y = (m : Rat) * (2 : Rat) ^ r ∧ -1074 ≤ r ∧ m.natAbs ≤ 2 ^ 53 ∧ 2 * x ≤ (2 * (m : Rat) + 1) * (2 : Rat) ^ r ∧ (2 * (m : Rat) - 1) * (2 : Rat) ^ r ≤ 2 * x ∧
    x < 9007199254740992 * (2 : Rat) ^ r ∧ -(9007199254740992 * (2 : Rat) ^ r) < x ∧ (r = -1074 ∨ 4503599627370496 * (2 : Rat) ^ r ≤ x ∨ x ≤ -(4503599627370496 * (2 : Rat) ^ r))
theorem Rsp.neg {x y : Rat} (h : Rsp x y) : Rsp (-x) (-y) := by
  obtain ⟨m, r, h1, h2, h3, h4, h5, h6, h7, h8⟩ := h
  have hu := p2pos r
  refine ⟨-m, r, ?_, h2, by omega, ?_, ?_, ?_, ?_, ?_⟩ <;> (try rw [Rat.intCast_neg]) <;> generalize (2 : Rat) ^ r = u at * <;> grind
theorem big_lt : (1267650600228229401496703205376 : Rat) < (2 : Rat) ^ (1023 : Int) := by
  have h : (2 : Rat) ^ (100 : Int) < (2 : Rat) ^ (1023 : Int) := by
    refine Rat.lt_of_le_of_ne (p2le (by decide)) fun q => ?_
    have h2 : (2 : Rat) ^ (1023 : Int) = (2 : Rat) ^ (100 : Int) * (2 : Rat) ^ (923 : Int) := by rw [← p2add]; rfl
    have h3 : (2 : Rat) ^ (1 : Int) ≤ (2 : Rat) ^ (923 : Int) := p2le (by decide)
    have h4 := p2pos 100
    rw [Rat.zpow_one] at h3
    have h5 := Rat.mul_le_mul_of_nonneg_left h3 (Rat.le_of_lt h4)
    grind
  have e : (2 : Rat) ^ (100 : Int) = 1267650600228229401496703205376 := by decide +kernel
  rw [← e]; exact h
theorem RR_pos {x : Rat} (h0 : 0 < x) (h : x ≤ 1267650600228229401496703205376) : Rsp x (RR x) ∧ ∃ c q, roundRatio b64 (decide (x < 0)) x.num.natAbs x.den 0 = .fin false c q := by
  have hn : 0 < x.num := by
    have : 0 ≤ x.num := by rw [Rat.num_nonneg]; exact Rat.le_of_lt h0
    have : x.num ≠ 0 := fun q => by rw [Rat.num_eq_zero] at q; rw [q] at h0; exact absurd h0 Rat.lt_irrefl
    omega
  have hd : decide (x < 0) = false := by rw [decide_eq_false_iff_not, Rat.not_lt]; exact Rat.le_of_lt h0
  have e1 : ((x.num.natAbs : Nat) : Rat) = (x.num : Rat) := by
    have : ((x.num.natAbs : Nat) : Int) = x.num := by omega
    rw [← Rat.intCast_natCast, this]
  obtain ⟨c, q, hr, m, r, f0, f1, f2, f3, f4, f5, f6⟩ := rr_spec false (A := x.num.natAbs) (B := x.den) 0 (by omega) x.den_pos (x := x) (by rw [Rat.zpow_zero, Rat.mul_one, e1]; exact rat_num x) (Std.lt_of_le_of_lt h big_lt)
  refine ⟨⟨m, r, ?_, f1, by omega, ?_, ?_, ?_, ?_, ?_⟩, c, q, by rw [hd]; exact hr⟩
  · unfold RR
    rw [hd, hr]
    show ((signed false c : Int) : Rat) * _ = _
    rw [← Rat.intCast_natCast] at f0
    exact f0
  all_goals
    have hu := p2pos r
    have e2 : ((m : Int) : Rat) = (m : Rat) := rfl
    rw [e2] at *
    generalize (2 : Rat) ^ r = u at *
    grind
theorem RR_zero : RR 0 = 0 := by
  unfold RR roundRatio
  rw [if_pos (by decide)]
  show ((signed _ 0 : Int) : Rat) * _ = 0
  rw [signed_zero]
  exact Rat.zero_mul _
theorem Rsp.zero : Rsp 0 0 := by
  have hu := p2pos (-1074)
  refine ⟨0, -1074, ?_, by decide, by decide, ?_, ?_, ?_, ?_, Or.inl rfl⟩ <;> generalize (2 : Rat) ^ (-1074 : Int) = u at * <;> (try rw [show ((0 : Int) : Rat) = 0 from rfl]) <;> grind
theorem RR_spec {x : Rat} (h1 : -1267650600228229401496703205376 ≤ x) (h2 : x ≤ 1267650600228229401496703205376) : Rsp x (RR x) := by
  by_cases q : 0 < x
  · exact (RR_pos q h2).1
  · by_cases q2 : x = 0
    · subst q2; rw [RR_zero]; exact Rsp.zero
    · have q3 : 0 < -x := by grind
      have g := (RR_pos q3 (by grind)).1.neg
      rw [RR_neg, Rat.neg_neg, Rat.neg_neg] at g
      exact g
theorem DV.of_rr {v : UInt64} {s : Bool} {A B : Nat} {e : Int} {x : Rat} (hv : val64 v = roundRatio b64 s A B e) (hB : 0 < B) (hx : x * (B : Rat) = ((signed s A : Int) : Rat) * (2 : Rat) ^ e) (h1 : -1267650600228229401496703205376 ≤ x) (h2 : x ≤ 1267650600228229401496703205376) : DV v (RR x) := by
  have hr := rvd_rr hB hx
  by_cases hA : A = 0
  · subst hA
    refine ⟨s, 0, b64.qmin, by rw [hv]; unfold roundRatio; rw [if_pos rfl], ?_⟩
    rw [← hr]; unfold roundRatio; rw [if_pos rfl]
  · obtain ⟨c, q, h, -⟩ := rr_spec s (A := A) (B := B) e (by omega) hB (x := if s then -x else x) (by rw [signed_rat] at hx; cases s <;> simp at hx ⊢ <;> grind) (Std.lt_of_le_of_lt (by cases s <;> simp <;> grind) big_lt)
    exact ⟨s, c, q, by rw [hv, h], by rw [← hr, h]⟩
theorem dadd_DV {a b : UInt64} {x y : Rat} (ha : DV a x) (hb : DV b y) (h1 : -1267650600228229401496703205376 ≤ x + y) (h2 : x + y ≤ 1267650600228229401496703205376) : DV (Jvm.FP.dadd a b) (RR (x + y)) := by
  obtain ⟨s, c, q, e1, rfl⟩ := ha
  obtain ⟨t, d, r, e2, rfl⟩ := hb
  refine DV.of_rr (s := sumSign s t (sumUnits s c q t d r (min q r))) (A := (sumUnits s c q t d r (min q r)).natAbs) (B := 1) (e := min q r) ?_ (by decide) ?_ h1 h2
  · show val64 (dadd a b) = _
    rw [val64_dadd, e1, e2]; rfl
  · rw [signed_sumSign, show ((1 : Nat) : Rat) = 1 from rfl, Rat.mul_one]
    unfold sumUnits
    rw [Rat.intCast_add, Rat.add_mul, units_val s c (Int.min_le_left q r), units_val t d (Int.min_le_right q r)]; rfl
theorem signed_not (t : Bool) (d : Nat) : (signed (!t) d : Int) = - signed t d := by cases t <;> simp [signed]
theorem dsub_DV {a b : UInt64} {x y : Rat} (ha : DV a x) (hb : DV b y) (h1 : -1267650600228229401496703205376 ≤ x - y) (h2 : x - y ≤ 1267650600228229401496703205376) : DV (Jvm.FP.dsub a b) (RR (x - y)) := by
  obtain ⟨s, c, q, e1, rfl⟩ := ha
  obtain ⟨t, d, r, e2, rfl⟩ := hb
  refine DV.of_rr (s := sumSign s (!t) (sumUnits s c q (!t) d r (min q r))) (A := (sumUnits s c q (!t) d r (min q r)).natAbs) (B := 1) (e := min q r) ?_ (by decide) ?_ h1 h2
  · show val64 (dsub a b) = _
    rw [val64_dsub, e1, e2]; rfl
  · rw [signed_sumSign, show ((1 : Nat) : Rat) = 1 from rfl, Rat.mul_one]
    unfold sumUnits
    rw [Rat.intCast_add, Rat.add_mul, units_val s c (Int.min_le_left q r), units_val (!t) d (Int.min_le_right q r), signed_not, Rat.intCast_neg, Rat.neg_mul, Rat.sub_eq_add_neg]; rfl
theorem dmul_DV {a b : UInt64} {x y : Rat} (ha : DV a x) (hb : DV b y) (h1 : -1267650600228229401496703205376 ≤ x * y) (h2 : x * y ≤ 1267650600228229401496703205376) : DV (Jvm.FP.dmul a b) (RR (x * y)) := by
  obtain ⟨s, c, q, e1, rfl⟩ := ha
  obtain ⟨t, d, r, e2, rfl⟩ := hb
  refine DV.of_rr (s := s != t) (A := c * d) (B := 1) (e := q + r) ?_ (by decide) ?_ h1 h2
  · show val64 (dmul a b) = _
    rw [val64_dmul, e1, e2]; rfl
  · rw [signed_xor, show ((1 : Nat) : Rat) = 1 from rfl, Rat.mul_one, Rat.intCast_mul, p2add]
    show (_ * _) * (_ * _) = _
    generalize (2 : Rat) ^ q = u
    generalize (2 : Rat) ^ r = w
    grind
theorem ddiv_DV {a b : UInt64} {x y : Rat} (ha : DV a x) (hb : DV b y) (hy : y ≠ 0) (h1 : -1267650600228229401496703205376 ≤ x / y) (h2 : x / y ≤ 1267650600228229401496703205376) : DV (Jvm.FP.ddiv a b) (RR (x / y)) := by
  obtain ⟨s, c, q, e1, rfl⟩ := ha
  obtain ⟨t, d, r, e2, rfl⟩ := hb
  have hd : d ≠ 0 := by
    rintro rfl
    apply hy
    show ((signed t 0 : Int) : Rat) * _ = 0
    rw [signed_zero]; exact Rat.zero_mul _
  refine DV.of_rr (s := s != t) (A := c) (B := d) (e := q - r) ?_ (by omega) ?_ h1 h2
  · show val64 (ddiv a b) = _
    rw [val64_ddiv, e1, e2]
    show (if d = 0 then _ else _) = _
    rw [if_neg hd]
  · have hq : (2 : Rat) ^ q = (2 : Rat) ^ (q - r) * (2 : Rat) ^ r := by rw [← p2add, show q - r + r = q by omega]
    have hS : ((signed s c : Int) : Rat) * (d : Rat) = ((signed (s != t) c : Int) : Rat) * ((signed t d : Int) : Rat) := by
      rw [signed_rat, signed_rat, signed_rat]
      cases s <;> cases t <;> simp <;> grind
    have hm := Rat.div_mul_cancel (a := rvd (.fin s c q)) hy
    have hyn := hy
    have hv1 : rvd (.fin s c q) = ((signed s c : Int) : Rat) * ((2 : Rat) ^ (q - r) * (2 : Rat) ^ r) := by rw [← hq]; rfl
    have hv2 : rvd (.fin t d r) = ((signed t d : Int) : Rat) * (2 : Rat) ^ r := rfl
    generalize rvd (.fin s c q) / rvd (.fin t d r) = z at *
    rw [hv1, hv2] at hm
    rw [hv2] at hyn
    have hst : ((signed t d : Int) : Rat) ≠ 0 := fun g => hyn (by rw [g]; exact Rat.zero_mul _)
    have hr := p2pos r
    generalize (2 : Rat) ^ (q - r) = u at *
    generalize (2 : Rat) ^ r = w at *
    generalize ((signed s c : Int) : Rat) = X at *
    generalize ((signed (s != t) c : Int) : Rat) = S at *
    generalize ((signed t d : Int) : Rat) = Y at *
    generalize (d : Rat) = D at *
    -- hm : z * (Y * w) = X * (u * w); hS : X * D = S * Y; goal : z * D = S * u
    have hw : w ≠ 0 := Rat.ne_of_gt hr
    have k1 : z * Y = X * u := by
      have : (z * Y - X * u) * w = 0 := by grind
      rcases Rat.mul_eq_zero.mp this with g | g
      · grind
      · exact absurd g hw
    have k2 : (z * D - S * u) * Y = 0 := by grind
    rcases Rat.mul_eq_zero.mp k2 with g | g
    · grind
    · exact absurd g hst
theorem i2d_RR (n : Int32) : DV (Jvm.FP.i2d n) (RR (n.toInt : Rat)) := by
  have h := n.le_toInt
  have h' := n.toInt_lt
  refine DV.of_rr (s := decide (n.toInt < 0)) (A := n.toInt.natAbs) (B := 1) (e := 0) ?_ (by decide) ?_ ?_ ?_
  · show val64 (i2d n) = _
    rw [val64_i2d]; rfl
  · rw [Rat.zpow_zero, Rat.mul_one, show ((1 : Nat) : Rat) = 1 from rfl, Rat.mul_one]
    congr 1
    by_cases q : n.toInt < 0 <;> simp [signed, q] <;> omega
  · have := Rat.intCast_le_intCast.mpr h; grind
  · have := Rat.intCast_le_intCast.mpr (Int.le_of_lt h'); grind
theorem l2d_RR (n : Int64) : DV (Jvm.FP.l2d n) (RR (n.toInt : Rat)) := by
  have h := n.le_toInt
  have h' := n.toInt_lt
  refine DV.of_rr (s := decide (n.toInt < 0)) (A := n.toInt.natAbs) (B := 1) (e := 0) ?_ (by decide) ?_ ?_ ?_
  · show val64 (l2d n) = _
    rw [val64_l2d]; rfl
  · rw [Rat.zpow_zero, Rat.mul_one, show ((1 : Nat) : Rat) = 1 from rfl, Rat.mul_one]
    congr 1
    by_cases q : n.toInt < 0 <;> simp [signed, q] <;> omega
  · have := Rat.intCast_le_intCast.mpr h; grind
  · have := Rat.intCast_le_intCast.mpr (Int.le_of_lt h'); grind
/-- a rational number that a double can hold (no overflow asked) -/
def Rp (z : Rat) : Prop := ∃ m k : Int, z = (m : Rat) * (2 : Rat) ^ k ∧ m.natAbs ≤ 2 ^ 53 ∧ -1074 ≤ k
theorem abs_le {m : Int} (h : m.natAbs ≤ 2 ^ 53) : -(9007199254740992 : Rat) ≤ (m : Rat) ∧ (m : Rat) ≤ 9007199254740992 := by
  have h1 : (-9007199254740992 : Int) ≤ m ∧ m ≤ 9007199254740992 := by omega
  exact ⟨by have := Rat.intCast_le_intCast.mpr h1.1; simpa using this, by have := Rat.intCast_le_intCast.mpr h1.2; simpa using this⟩
/-- a number that can be held is a multiple of the quantum, or no greater than the quantum's least -/
theorem rp_mul {z : Rat} {r : Int} (h : Rp z) : (∃ j : Int, z = (j : Rat) * (2 : Rat) ^ r) ∨ (-1074 < r ∧ z ≤ 4503599627370496 * (2 : Rat) ^ r ∧ -(4503599627370496 * (2 : Rat) ^ r) ≤ z) := by
  obtain ⟨m, k, hz, hm, hk⟩ := h
  by_cases hkr : r ≤ k
  · left
    obtain ⟨i, rfl⟩ : ∃ i : Nat, k = r + i := ⟨(k - r).toNat, by omega⟩
    refine ⟨m * ((2 ^ i : Nat) : Int), ?_⟩
    rw [hz, p2add, p2nat, Rat.intCast_mul, Rat.intCast_natCast]
    generalize (2 : Rat) ^ r = u
    generalize ((2 ^ i : Nat) : Rat) = w
    grind
  · right
    have h1 : (2 : Rat) ^ (k + 1) ≤ (2 : Rat) ^ r := p2le (by omega)
    rw [p2add, Rat.zpow_one] at h1
    obtain ⟨a1, a2⟩ := abs_le hm
    have hu := p2pos k
    have b1 := Rat.mul_le_mul_of_nonneg_right a1 (Rat.le_of_lt hu)
    have b2 := Rat.mul_le_mul_of_nonneg_right a2 (Rat.le_of_lt hu)
    rw [hz]
    refine ⟨by omega, ?_, ?_⟩ <;> generalize (2 : Rat) ^ r = w at * <;> generalize (2 : Rat) ^ k = u at * <;> grind
theorem icast_le {u : Rat} (hu : 0 < u) {i j : Int} (h : (i : Rat) * u ≤ (j : Rat) * u) : i ≤ j := Rat.intCast_le_intCast.mp (Rat.le_of_mul_le_mul_right h hu)
theorem icast_lt {u : Rat} (hu : 0 < u) {i j : Int} (h : (i : Rat) * u < (j : Rat) * u) : i < j := Rat.intCast_lt_intCast.mp (Rat.lt_of_mul_lt_mul_right h (Rat.le_of_lt hu))
/-- the nearest: whatever can be held is no nearer -/
theorem Rsp.near {x y z : Rat} (h : Rsp x y) (hz : Rp z) (t : Rat) (t1 : x - z ≤ t) (t2 : z - x ≤ t) : x - y ≤ t ∧ y - x ≤ t := by
  obtain ⟨n, r, rfl, h2, h3, h4, h5, h6, h7, h8⟩ := h
  have hu := p2pos r
  -- multiples of the quantum
  have main : ∀ (j : Int) (t : Rat), x - (j : Rat) * (2 : Rat) ^ r ≤ t → (j : Rat) * (2 : Rat) ^ r - x ≤ t → x - (n : Rat) * (2 : Rat) ^ r ≤ t ∧ (n : Rat) * (2 : Rat) ^ r - x ≤ t := by
    intro j t t1 t2
    rcases Int.lt_trichotomy j n with g | g | g
    · have g1 : (j : Rat) + 1 ≤ (n : Rat) := by have := Rat.intCast_le_intCast.mpr (show j + 1 ≤ n by omega); simpa using this
      have g2 := Rat.mul_le_mul_of_nonneg_right g1 (Rat.le_of_lt hu)
      generalize (2 : Rat) ^ r = u at *
      constructor <;> grind
    · subst g; exact ⟨t1, t2⟩
    · have g1 : (n : Rat) + 1 ≤ (j : Rat) := by have := Rat.intCast_le_intCast.mpr (show n + 1 ≤ j by omega); simpa using this
      have g2 := Rat.mul_le_mul_of_nonneg_right g1 (Rat.le_of_lt hu)
      generalize (2 : Rat) ^ r = u at *
      constructor <;> grind
  rcases rp_mul (r := r) hz with ⟨j, rfl⟩ | ⟨g0, g1, g2⟩
  · exact main j t t1 t2
  · rcases h8 with q | q | q
    · omega
    · refine main 4503599627370496 t ?_ ?_ <;> rw [show ((4503599627370496 : Int) : Rat) = 4503599627370496 from rfl] <;> generalize (2 : Rat) ^ r = u at * <;> grind
    · refine main (-4503599627370496) t ?_ ?_ <;> rw [show ((-4503599627370496 : Int) : Rat) = -4503599627370496 from rfl] <;> generalize (2 : Rat) ^ r = u at * <;> grind
theorem Rsp.exact {x y : Rat} (h : Rsp x y) (hx : Rp x) : y = x := by
  have := h.near hx 0 (by grind) (by grind)
  grind
theorem RR_exact {x : Rat} (hx : Rp x) (h1 : -1267650600228229401496703205376 ≤ x) (h2 : x ≤ 1267650600228229401496703205376) : RR x = x := (RR_spec h1 h2).exact hx
theorem Rsp.rp {x y : Rat} (h : Rsp x y) : Rp y := by
  obtain ⟨n, r, rfl, h2, h3, -⟩ := h
  exact ⟨n, r, rfl, h3, h2⟩
theorem Rsp.le {x y z : Rat} (h : Rsp x y) (hz : Rp z) (q : x ≤ z) : y ≤ z := by
  have := h.near hz (z - x) (by grind) (by grind)
  grind
theorem Rsp.ge {x y z : Rat} (h : Rsp x y) (hz : Rp z) (q : z ≤ x) : z ≤ y := by
  have := h.near hz (x - z) (by grind) (by grind)
  grind
theorem RR_mono {x y : Rat} (h : x ≤ y) (x1 : -1267650600228229401496703205376 ≤ x) (y2 : y ≤ 1267650600228229401496703205376) : RR x ≤ RR y := by
  by_cases q : x = y
  · rw [q]; exact Rat.le_refl
  · have hx := RR_spec x1 (by grind)
    have hy := RR_spec (by grind) y2
    by_cases g : RR x ≤ RR y
    · exact g
    · have g := Rat.not_le.mp g
      -- RR y < RR x
      have a := fun t => hx.near hy.rp t
      have b := fun t => hy.near hx.rp t
      generalize RR x = X at *
      generalize RR y = Y at *
      by_cases c1 : x ≤ Y
      · have := a (Y - x) (by grind) (by grind)
        grind
      · by_cases c2 : X ≤ y
        · have := b (y - X) (by grind) (by grind)
          grind
        · have k1 := a (x - Y) (by grind) (by grind)
          have k2 := b (X - y) (by grind) (by grind)
          grind
/-- the relative error, of what is not tiny -/
theorem Rsp.err {x y : Rat} (h : Rsp x y) (hx : 1 ≤ x * 1267650600228229401496703205376) : 9007199254740992 * (y - x) ≤ x ∧ 9007199254740992 * (x - y) ≤ x := by
  obtain ⟨n, r, rfl, h2, h3, h4, h5, h6, h7, h8⟩ := h
  have hu := p2pos r
  have k : 4503599627370496 * (2 : Rat) ^ r ≤ x := by
    rcases h8 with q | q | q
    · subst q
      have e1 : (2 : Rat) ^ (-1022 : Int) = 4503599627370496 * (2 : Rat) ^ (-1074 : Int) := by
        rw [show (-1022 : Int) = 52 + -1074 from rfl, p2add, show (2 : Rat) ^ (52 : Int) = 4503599627370496 by decide +kernel]
      have e2 : (2 : Rat) ^ (-1022 : Int) ≤ (2 : Rat) ^ (-100 : Int) := p2le (by decide)
      have e3 : (2 : Rat) ^ (-100 : Int) * (2 : Rat) ^ (100 : Int) = 1 := by rw [← p2add]; rfl
      have e4 : (2 : Rat) ^ (100 : Int) = 1267650600228229401496703205376 := by decide +kernel
      rw [e4] at e3
      rw [← e1]
      generalize (2 : Rat) ^ (-1022 : Int) = v at *
      generalize (2 : Rat) ^ (-100 : Int) = w at *
      grind
    · exact q
    · generalize (2 : Rat) ^ r = u at *
      grind
  generalize (2 : Rat) ^ r = u at *
  constructor <;> grind
/-- the error, of whatever size: relative, or below 2^-53 -/
theorem err_any {x : Rat} (h1 : -1267650600228229401496703205376 ≤ x) (h2 : x ≤ 1267650600228229401496703205376) (t : Rat) (t1 : x ≤ t) (t2 : -x ≤ t) : 9007199254740992 * (RR x - x) ≤ t + 1 ∧ 9007199254740992 * (x - RR x) ≤ t + 1 := by
  have h := RR_spec h1 h2
  generalize RR x = y at *
  obtain ⟨n, r, rfl, g2, g3, g4, g5, g6, g7, g8⟩ := h
  have hu := p2pos r
  have k : 4503599627370496 * (2 : Rat) ^ r ≤ t + 1 := by
    rcases g8 with q | q | q
    · subst q
      have e1 : (2 : Rat) ^ (-1022 : Int) = 4503599627370496 * (2 : Rat) ^ (-1074 : Int) := by
        rw [show (-1022 : Int) = 52 + -1074 from rfl, p2add, show (2 : Rat) ^ (52 : Int) = 4503599627370496 by decide +kernel]
      have e2 : (2 : Rat) ^ (-1022 : Int) ≤ (2 : Rat) ^ (0 : Int) := p2le (by decide)
      rw [Rat.zpow_zero] at e2
      rw [← e1]
      generalize (2 : Rat) ^ (-1022 : Int) = v at *
      grind
    · generalize (2 : Rat) ^ r = u at *
      grind
    · generalize (2 : Rat) ^ r = u at *
      grind
  generalize (2 : Rat) ^ r = u at *
  constructor <;> grind
theorem rp_int {n : Int} (h : n.natAbs ≤ 2 ^ 53) : Rp (n : Rat) := ⟨n, 0, by rw [Rat.zpow_zero, Rat.mul_one], h, by decide⟩
theorem rp_scale {z : Rat} (k : Int) {m : Int} (h : z = (m : Rat) * (2 : Rat) ^ k) (hm : m.natAbs ≤ 2 ^ 53) (hk : -1074 ≤ k) : Rp z := ⟨m, k, h, hm, hk⟩
theorem RR_int {n : Int} (h : n.natAbs ≤ 2 ^ 53) : RR (n : Rat) = (n : Rat) := by
  refine RR_exact (rp_int h) ?_ ?_
  · have := Rat.intCast_le_intCast.mpr (show (-9007199254740992 : Int) ≤ n by omega); grind
  · have := Rat.intCast_le_intCast.mpr (show n ≤ (9007199254740992 : Int) by omega); grind
theorem i2d_DV (n : Int32) : DV (Jvm.FP.i2d n) (n.toInt : Rat) := by
  have h := n.le_toInt
  have h' := n.toInt_lt
  have q := i2d_RR n
  rw [RR_int (by omega)] at q
  exact q
theorem l2d_DV {n : Int64} (h : n.toInt.natAbs ≤ 2 ^ 53) : DV (Jvm.FP.l2d n) (n.toInt : Rat) := by
  have q := l2d_RR n
  rw [RR_int h] at q
  exact q
/-- a written double, by its fields -/
theorem lit_DV {v : UInt64} {s : Bool} {c : Nat} {q : Int} {x : Rat} (h : val64 v = .fin s c q) (hx : ((signed s c : Int) : Rat) * (2 : Rat) ^ q = x) : DV v x := ⟨s, c, q, h, hx⟩
theorem dneg_DV {v : UInt64} {x : Rat} (h : DV v x) : DV (Jvm.FP.dneg v) (-x) := by
  obtain ⟨s, c, q, h1, rfl⟩ := h
  refine ⟨!s, c, q, by rw [Jvm.FP.val64_dneg, h1]; rfl, ?_⟩
  show ((signed (!s) c : Int) : Rat) * _ = -(((signed s c : Int) : Rat) * _)
  rw [signed_not, Rat.intCast_neg, Rat.neg_mul]
theorem DV.whole {v : UInt64} {n : Int} (h : DV v (n : Rat)) : DInt n v := by
  obtain ⟨s, c, q, h1, h2⟩ := h
  unfold DInt
  rw [h1]
  show signed s (c * 2 ^ q.toNat) = n * ((2 ^ (-q).toNat : Nat) : Int)
  refine Rat.intCast_inj.mp ?_
  have h3 : ((signed s c : Int) : Rat) * (2 : Rat) ^ q = (n : Rat) := h2
  rw [signed_mul, Rat.intCast_mul, Rat.intCast_mul, ← h3, Rat.mul_assoc, show (((2 ^ (-q).toNat : Nat) : Int) : Rat) = ((2 ^ (-q).toNat : Nat) : Rat) from rfl, show (((2 ^ q.toNat : Nat) : Int) : Rat) = ((2 ^ q.toNat : Nat) : Rat) from rfl, ← p2nat, ← p2nat, ← p2add, show q + ((-q).toNat : Int) = (q.toNat : Int) by omega]
theorem d2l_DV {v : UInt64} {n : Int64} (h : DV v (n.toInt : Rat)) : Jvm.FP.d2l v = n := d2l_int h.whole
theorem DV.cast {v : UInt64} {x y : Rat} (h : DV v x) (e : x = y) : DV v y := e ▸ h
end Jvm.OwnFl
namespace Jvm.Pilot.@@N@@
open Jvm Jvm.ClassFile Sem Op Lib Jvm.Free Jvm.Stand Jvm.LawKit Jvm.RoadKit Jvm.OwnKit Bundle Jvm.Pilot.@@N@@.Jvm.D
theorem wd {a0 : Array Value} {Z : State} {d : Jvm.Cond} (hw : ∀ d ∈ tables_1, d.before a0 Z = true) (i : Nat) (h : tables_1[i]? = some d) : d.before a0 Z = true := hw d (List.mem_of_getElem? h)
theorem d1_0 : decode prog_23_method_1_code 0 = .ok (.aload_n 0, 1) := by decide +kernel
theorem d1_1 : decode prog_23_method_1_code 1 = .ok (.invokespecial 1, 3) := by decide +kernel
theorem d1_4 : decode prog_23_method_1_code 4 = .ok (.aload_n 0, 1) := by decide +kernel
theorem d1_5 : decode prog_23_method_1_code 5 = .ok (.bipush 16, 2) := by decide +kernel
theorem d1_7 : decode prog_23_method_1_code 7 = .ok (.newarray .double, 2) := by decide +kernel
theorem d1_9 : decode prog_23_method_1_code 9 = .ok (.putfield 7, 3) := by decide +kernel
theorem d1_12 : decode prog_23_method_1_code 12 = .ok (.aload_n 0, 1) := by decide +kernel
theorem d1_13 : decode prog_23_method_1_code 13 = .ok (.bipush 16, 2) := by decide +kernel
theorem d1_15 : decode prog_23_method_1_code 15 = .ok (.anewarray 13, 3) := by decide +kernel
theorem d1_18 : decode prog_23_method_1_code 18 = .ok (.putfield 15, 3) := by decide +kernel
theorem d1_21 : decode prog_23_method_1_code 21 = .ok (.aload_n 0, 1) := by decide +kernel
theorem d1_22 : decode prog_23_method_1_code 22 = .ok (.iconst 1, 1) := by decide +kernel
theorem d1_23 : decode prog_23_method_1_code 23 = .ok (.putfield 19, 3) := by decide +kernel
theorem d1_26 : decode prog_23_method_1_code 26 = .ok (.aload_n 0, 1) := by decide +kernel
theorem d1_27 : decode prog_23_method_1_code 27 = .ok (.aload_n 1, 1) := by decide +kernel
theorem d1_28 : decode prog_23_method_1_code 28 = .ok (.invokevirtual 23, 3) := by decide +kernel
theorem d1_31 : decode prog_23_method_1_code 31 = .ok (.checkcast 13, 3) := by decide +kernel
theorem d1_34 : decode prog_23_method_1_code 34 = .ok (.putfield 27, 3) := by decide +kernel
theorem d1_37 : decode prog_23_method_1_code 37 = .ok (.aload_n 0, 1) := by decide +kernel
theorem d1_38 : decode prog_23_method_1_code 38 = .ok (.getfield 15, 3) := by decide +kernel
theorem d1_41 : decode prog_23_method_1_code 41 = .ok (.iconst 0, 1) := by decide +kernel
theorem d1_42 : decode prog_23_method_1_code 42 = .ok (.aload_n 1, 1) := by decide +kernel
theorem d1_43 : decode prog_23_method_1_code 43 = .ok (.arraylength, 1) := by decide +kernel
theorem d1_44 : decode prog_23_method_1_code 44 = .ok (.newarray .int, 2) := by decide +kernel
theorem d1_46 : decode prog_23_method_1_code 46 = .ok (.aastore, 1) := by decide +kernel
theorem d1_47 : decode prog_23_method_1_code 47 = .ok (.return_, 1) := by decide +kernel
theorem d3_0 : decode prog_23_method_6_code 0 = .ok (.dload_n 3, 1) := by decide +kernel
theorem d3_1 : decode prog_23_method_6_code 1 = .ok (.dload_n 1, 1) := by decide +kernel
theorem d3_2 : decode prog_23_method_6_code 2 = .ok (.dcmp .g, 1) := by decide +kernel
theorem d3_3 : decode prog_23_method_6_code 3 = .ok (.ifCond .gt 4, 3) := by decide +kernel
theorem d3_6 : decode prog_23_method_6_code 6 = .ok (.return_, 1) := by decide +kernel
theorem d3_7 : decode prog_23_method_6_code 7 = .ok (.aload_n 0, 1) := by decide +kernel
theorem d3_8 : decode prog_23_method_6_code 8 = .ok (.dload_n 1, 1) := by decide +kernel
theorem d3_9 : decode prog_23_method_6_code 9 = .ok (.invokevirtual 54, 3) := by decide +kernel
theorem d3_12 : decode prog_23_method_6_code 12 = .ok (.istore 6, 2) := by decide +kernel
theorem d3_14 : decode prog_23_method_6_code 14 = .ok (.aload_n 0, 1) := by decide +kernel
theorem d3_15 : decode prog_23_method_6_code 15 = .ok (.dload_n 3, 1) := by decide +kernel
theorem d3_16 : decode prog_23_method_6_code 16 = .ok (.invokevirtual 54, 3) := by decide +kernel
theorem d3_19 : decode prog_23_method_6_code 19 = .ok (.istore 7, 2) := by decide +kernel
theorem d3_21 : decode prog_23_method_6_code 21 = .ok (.iload 6, 2) := by decide +kernel
theorem d3_23 : decode prog_23_method_6_code 23 = .ok (.istore 8, 2) := by decide +kernel
theorem d3_25 : decode prog_23_method_6_code 25 = .ok (.iload 8, 2) := by decide +kernel
theorem d3_27 : decode prog_23_method_6_code 27 = .ok (.iload 7, 2) := by decide +kernel
theorem d3_29 : decode prog_23_method_6_code 29 = .ok (.if_icmp .ge 44, 3) := by decide +kernel
theorem d3_32 : decode prog_23_method_6_code 32 = .ok (.iconst 0, 1) := by decide +kernel
theorem d3_33 : decode prog_23_method_6_code 33 = .ok (.istore 9, 2) := by decide +kernel
theorem d3_35 : decode prog_23_method_6_code 35 = .ok (.iload 9, 2) := by decide +kernel
theorem d3_37 : decode prog_23_method_6_code 37 = .ok (.aload 5, 2) := by decide +kernel
theorem d3_39 : decode prog_23_method_6_code 39 = .ok (.arraylength, 1) := by decide +kernel
theorem d3_40 : decode prog_23_method_6_code 40 = .ok (.if_icmp .ge 27, 3) := by decide +kernel
theorem d3_43 : decode prog_23_method_6_code 43 = .ok (.aload_n 0, 1) := by decide +kernel
theorem d3_44 : decode prog_23_method_6_code 44 = .ok (.getfield 15, 3) := by decide +kernel
theorem d3_47 : decode prog_23_method_6_code 47 = .ok (.iload 8, 2) := by decide +kernel
theorem d3_49 : decode prog_23_method_6_code 49 = .ok (.aaload, 1) := by decide +kernel
theorem d3_50 : decode prog_23_method_6_code 50 = .ok (.iload 9, 2) := by decide +kernel
theorem d3_52 : decode prog_23_method_6_code 52 = .ok (.dup2, 1) := by decide +kernel
theorem d3_53 : decode prog_23_method_6_code 53 = .ok (.iaload, 1) := by decide +kernel
theorem d3_54 : decode prog_23_method_6_code 54 = .ok (.aload 5, 2) := by decide +kernel
theorem d3_56 : decode prog_23_method_6_code 56 = .ok (.iload 9, 2) := by decide +kernel
theorem d3_58 : decode prog_23_method_6_code 58 = .ok (.iaload, 1) := by decide +kernel
theorem d3_59 : decode prog_23_method_6_code 59 = .ok (.iadd, 1) := by decide +kernel
theorem d3_60 : decode prog_23_method_6_code 60 = .ok (.iastore, 1) := by decide +kernel
theorem d3_61 : decode prog_23_method_6_code 61 = .ok (.iinc 9 1, 3) := by decide +kernel
theorem d3_64 : decode prog_23_method_6_code 64 = .ok (.goto (-29), 3) := by decide +kernel
theorem d3_67 : decode prog_23_method_6_code 67 = .ok (.iinc 8 1, 3) := by decide +kernel
theorem d3_70 : decode prog_23_method_6_code 70 = .ok (.goto (-45), 3) := by decide +kernel
theorem d3_73 : decode prog_23_method_6_code 73 = .ok (.return_, 1) := by decide +kernel
theorem d4_0 : decode prog_23_method_8_code 0 = .ok (.aload_n 0, 1) := by decide +kernel
theorem d4_1 : decode prog_23_method_8_code 1 = .ok (.dload_n 1, 1) := by decide +kernel
theorem d4_2 : decode prog_23_method_8_code 2 = .ok (.invokevirtual 30, 3) := by decide +kernel
theorem d4_5 : decode prog_23_method_8_code 5 = .ok (.istore_n 3, 1) := by decide +kernel
theorem d4_6 : decode prog_23_method_8_code 6 = .ok (.aload_n 0, 1) := by decide +kernel
theorem d4_7 : decode prog_23_method_8_code 7 = .ok (.getfield 7, 3) := by decide +kernel
theorem d4_10 : decode prog_23_method_8_code 10 = .ok (.iload_n 3, 1) := by decide +kernel
theorem d4_11 : decode prog_23_method_8_code 11 = .ok (.daload, 1) := by decide +kernel
theorem d4_12 : decode prog_23_method_8_code 12 = .ok (.dload_n 1, 1) := by decide +kernel
theorem d4_13 : decode prog_23_method_8_code 13 = .ok (.dcmp .l, 1) := by decide +kernel
theorem d4_14 : decode prog_23_method_8_code 14 = .ok (.ifCond .ne 5, 3) := by decide +kernel
theorem d4_17 : decode prog_23_method_8_code 17 = .ok (.iload_n 3, 1) := by decide +kernel
theorem d4_18 : decode prog_23_method_8_code 18 = .ok (.ireturn, 1) := by decide +kernel
theorem d4_19 : decode prog_23_method_8_code 19 = .ok (.aload_n 0, 1) := by decide +kernel
theorem d4_20 : decode prog_23_method_8_code 20 = .ok (.getfield 19, 3) := by decide +kernel
theorem d4_23 : decode prog_23_method_8_code 23 = .ok (.aload_n 0, 1) := by decide +kernel
theorem d4_24 : decode prog_23_method_8_code 24 = .ok (.getfield 7, 3) := by decide +kernel
theorem d4_27 : decode prog_23_method_8_code 27 = .ok (.arraylength, 1) := by decide +kernel
theorem d4_28 : decode prog_23_method_8_code 28 = .ok (.if_icmp .ne 40, 3) := by decide +kernel
theorem d4_68 : decode prog_23_method_8_code 68 = .ok (.iload_n 3, 1) := by decide +kernel
theorem d4_69 : decode prog_23_method_8_code 69 = .ok (.iconst 1, 1) := by decide +kernel
theorem d4_70 : decode prog_23_method_8_code 70 = .ok (.iadd, 1) := by decide +kernel
theorem d4_71 : decode prog_23_method_8_code 71 = .ok (.istore 4, 2) := by decide +kernel
theorem d4_73 : decode prog_23_method_8_code 73 = .ok (.aload_n 0, 1) := by decide +kernel
theorem d4_74 : decode prog_23_method_8_code 74 = .ok (.getfield 7, 3) := by decide +kernel
theorem d4_77 : decode prog_23_method_8_code 77 = .ok (.iload 4, 2) := by decide +kernel
theorem d4_79 : decode prog_23_method_8_code 79 = .ok (.aload_n 0, 1) := by decide +kernel
theorem d4_80 : decode prog_23_method_8_code 80 = .ok (.getfield 7, 3) := by decide +kernel
theorem d4_83 : decode prog_23_method_8_code 83 = .ok (.iload 4, 2) := by decide +kernel
theorem d4_85 : decode prog_23_method_8_code 85 = .ok (.iconst 1, 1) := by decide +kernel
theorem d4_86 : decode prog_23_method_8_code 86 = .ok (.iadd, 1) := by decide +kernel
theorem d4_87 : decode prog_23_method_8_code 87 = .ok (.aload_n 0, 1) := by decide +kernel
theorem d4_88 : decode prog_23_method_8_code 88 = .ok (.getfield 19, 3) := by decide +kernel
theorem d4_91 : decode prog_23_method_8_code 91 = .ok (.iload 4, 2) := by decide +kernel
theorem d4_93 : decode prog_23_method_8_code 93 = .ok (.isub, 1) := by decide +kernel
theorem d4_94 : decode prog_23_method_8_code 94 = .ok (.invokestatic 65, 3) := by decide +kernel
theorem d4_97 : decode prog_23_method_8_code 97 = .ok (.aload_n 0, 1) := by decide +kernel
theorem d4_98 : decode prog_23_method_8_code 98 = .ok (.getfield 15, 3) := by decide +kernel
theorem d4_101 : decode prog_23_method_8_code 101 = .ok (.iload 4, 2) := by decide +kernel
theorem d4_103 : decode prog_23_method_8_code 103 = .ok (.aload_n 0, 1) := by decide +kernel
theorem d4_104 : decode prog_23_method_8_code 104 = .ok (.getfield 15, 3) := by decide +kernel
theorem d4_107 : decode prog_23_method_8_code 107 = .ok (.iload 4, 2) := by decide +kernel
theorem d4_109 : decode prog_23_method_8_code 109 = .ok (.iconst 1, 1) := by decide +kernel
theorem d4_110 : decode prog_23_method_8_code 110 = .ok (.iadd, 1) := by decide +kernel
theorem d4_111 : decode prog_23_method_8_code 111 = .ok (.aload_n 0, 1) := by decide +kernel
theorem d4_112 : decode prog_23_method_8_code 112 = .ok (.getfield 19, 3) := by decide +kernel
theorem d4_115 : decode prog_23_method_8_code 115 = .ok (.iload 4, 2) := by decide +kernel
theorem d4_117 : decode prog_23_method_8_code 117 = .ok (.isub, 1) := by decide +kernel
theorem d4_118 : decode prog_23_method_8_code 118 = .ok (.invokestatic 65, 3) := by decide +kernel
theorem d4_121 : decode prog_23_method_8_code 121 = .ok (.aload_n 0, 1) := by decide +kernel
theorem d4_122 : decode prog_23_method_8_code 122 = .ok (.getfield 7, 3) := by decide +kernel
theorem d4_125 : decode prog_23_method_8_code 125 = .ok (.iload 4, 2) := by decide +kernel
theorem d4_127 : decode prog_23_method_8_code 127 = .ok (.dload_n 1, 1) := by decide +kernel
theorem d4_128 : decode prog_23_method_8_code 128 = .ok (.dastore, 1) := by decide +kernel
theorem d4_129 : decode prog_23_method_8_code 129 = .ok (.aload_n 0, 1) := by decide +kernel
theorem d4_130 : decode prog_23_method_8_code 130 = .ok (.getfield 15, 3) := by decide +kernel
theorem d4_133 : decode prog_23_method_8_code 133 = .ok (.iload 4, 2) := by decide +kernel
theorem d4_135 : decode prog_23_method_8_code 135 = .ok (.aload_n 0, 1) := by decide +kernel
theorem d4_136 : decode prog_23_method_8_code 136 = .ok (.getfield 15, 3) := by decide +kernel
theorem d4_139 : decode prog_23_method_8_code 139 = .ok (.iload_n 3, 1) := by decide +kernel
theorem d4_140 : decode prog_23_method_8_code 140 = .ok (.aaload, 1) := by decide +kernel
theorem d4_141 : decode prog_23_method_8_code 141 = .ok (.invokevirtual 23, 3) := by decide +kernel
theorem d4_144 : decode prog_23_method_8_code 144 = .ok (.checkcast 13, 3) := by decide +kernel
theorem d4_147 : decode prog_23_method_8_code 147 = .ok (.aastore, 1) := by decide +kernel
theorem d4_148 : decode prog_23_method_8_code 148 = .ok (.aload_n 0, 1) := by decide +kernel
theorem d4_149 : decode prog_23_method_8_code 149 = .ok (.dup, 1) := by decide +kernel
theorem d4_150 : decode prog_23_method_8_code 150 = .ok (.getfield 19, 3) := by decide +kernel
theorem d4_153 : decode prog_23_method_8_code 153 = .ok (.iconst 1, 1) := by decide +kernel
theorem d4_154 : decode prog_23_method_8_code 154 = .ok (.iadd, 1) := by decide +kernel
theorem d4_155 : decode prog_23_method_8_code 155 = .ok (.putfield 19, 3) := by decide +kernel
theorem d4_158 : decode prog_23_method_8_code 158 = .ok (.iload 4, 2) := by decide +kernel
theorem d4_160 : decode prog_23_method_8_code 160 = .ok (.ireturn, 1) := by decide +kernel
theorem d5_0 : decode prog_23_method_3_code 0 = .ok (.aload_n 0, 1) := by decide +kernel
theorem d5_1 : decode prog_23_method_3_code 1 = .ok (.getfield 7, 3) := by decide +kernel
theorem d5_4 : decode prog_23_method_3_code 4 = .ok (.iconst 0, 1) := by decide +kernel
theorem d5_5 : decode prog_23_method_3_code 5 = .ok (.aload_n 0, 1) := by decide +kernel
theorem d5_6 : decode prog_23_method_3_code 6 = .ok (.getfield 19, 3) := by decide +kernel
theorem d5_9 : decode prog_23_method_3_code 9 = .ok (.dload_n 1, 1) := by decide +kernel
theorem d5_10 : decode prog_23_method_3_code 10 = .ok (.invokestatic 38, 3) := by decide +kernel
theorem d5_13 : decode prog_23_method_3_code 13 = .ok (.istore_n 3, 1) := by decide +kernel
theorem d5_14 : decode prog_23_method_3_code 14 = .ok (.iload_n 3, 1) := by decide +kernel
theorem d5_15 : decode prog_23_method_3_code 15 = .ok (.ifCond .ge 8, 3) := by decide +kernel
theorem d5_18 : decode prog_23_method_3_code 18 = .ok (.iload_n 3, 1) := by decide +kernel
theorem d5_19 : decode prog_23_method_3_code 19 = .ok (.ineg, 1) := by decide +kernel
theorem d5_20 : decode prog_23_method_3_code 20 = .ok (.iconst 2, 1) := by decide +kernel
theorem d5_21 : decode prog_23_method_3_code 21 = .ok (.isub, 1) := by decide +kernel
theorem d5_22 : decode prog_23_method_3_code 22 = .ok (.istore_n 3, 1) := by decide +kernel
theorem d5_23 : decode prog_23_method_3_code 23 = .ok (.iload_n 3, 1) := by decide +kernel
theorem d5_24 : decode prog_23_method_3_code 24 = .ok (.ireturn, 1) := by decide +kernel
theorem d6_0 : decode jdk_65_method_70_code 0 = .ok (.aload_n 0, 1) := by decide +kernel
theorem d6_1 : decode jdk_65_method_70_code 1 = .ok (.arraylength, 1) := by decide +kernel
theorem d6_2 : decode jdk_65_method_70_code 2 = .ok (.iload_n 1, 1) := by decide +kernel
theorem d6_3 : decode jdk_65_method_70_code 3 = .ok (.iload_n 2, 1) := by decide +kernel
theorem d6_4 : decode jdk_65_method_70_code 4 = .ok (.invokestatic 13, 3) := by decide +kernel
theorem d6_7 : decode jdk_65_method_70_code 7 = .ok (.aload_n 0, 1) := by decide +kernel
theorem d6_8 : decode jdk_65_method_70_code 8 = .ok (.iload_n 1, 1) := by decide +kernel
theorem d6_9 : decode jdk_65_method_70_code 9 = .ok (.iload_n 2, 1) := by decide +kernel
theorem d6_10 : decode jdk_65_method_70_code 10 = .ok (.dload_n 3, 1) := by decide +kernel
theorem d6_11 : decode jdk_65_method_70_code 11 = .ok (.invokestatic 221, 3) := by decide +kernel
theorem d6_14 : decode jdk_65_method_70_code 14 = .ok (.ireturn, 1) := by decide +kernel
theorem d7_0 : decode jdk_65_method_30_code 0 = .ok (.iload_n 1, 1) := by decide +kernel
theorem d7_1 : decode jdk_65_method_30_code 1 = .ok (.iload_n 2, 1) := by decide +kernel
theorem d7_2 : decode jdk_65_method_30_code 2 = .ok (.if_icmp .le 44, 3) := by decide +kernel
theorem d7_46 : decode jdk_65_method_30_code 46 = .ok (.iload_n 1, 1) := by decide +kernel
theorem d7_47 : decode jdk_65_method_30_code 47 = .ok (.ifCond .ge 12, 3) := by decide +kernel
theorem d7_59 : decode jdk_65_method_30_code 59 = .ok (.iload_n 2, 1) := by decide +kernel
theorem d7_60 : decode jdk_65_method_30_code 60 = .ok (.iload_n 0, 1) := by decide +kernel
theorem d7_61 : decode jdk_65_method_30_code 61 = .ok (.if_icmp .le 12, 3) := by decide +kernel
theorem d7_73 : decode jdk_65_method_30_code 73 = .ok (.return_, 1) := by decide +kernel
theorem d8_0 : decode jdk_65_method_71_code 0 = .ok (.iload_n 1, 1) := by decide +kernel
theorem d8_1 : decode jdk_65_method_71_code 1 = .ok (.istore 5, 2) := by decide +kernel
theorem d8_3 : decode jdk_65_method_71_code 3 = .ok (.iload_n 2, 1) := by decide +kernel
theorem d8_4 : decode jdk_65_method_71_code 4 = .ok (.iconst 1, 1) := by decide +kernel
theorem d8_5 : decode jdk_65_method_71_code 5 = .ok (.isub, 1) := by decide +kernel
theorem d8_6 : decode jdk_65_method_71_code 6 = .ok (.istore 6, 2) := by decide +kernel
theorem d8_8 : decode jdk_65_method_71_code 8 = .ok (.iload 5, 2) := by decide +kernel
theorem d8_10 : decode jdk_65_method_71_code 10 = .ok (.iload 6, 2) := by decide +kernel
theorem d8_12 : decode jdk_65_method_71_code 12 = .ok (.if_icmp .gt 100, 3) := by decide +kernel
theorem d8_15 : decode jdk_65_method_71_code 15 = .ok (.iload 5, 2) := by decide +kernel
theorem d8_17 : decode jdk_65_method_71_code 17 = .ok (.iload 6, 2) := by decide +kernel
theorem d8_19 : decode jdk_65_method_71_code 19 = .ok (.iadd, 1) := by decide +kernel
theorem d8_20 : decode jdk_65_method_71_code 20 = .ok (.iconst 1, 1) := by decide +kernel
theorem d8_21 : decode jdk_65_method_71_code 21 = .ok (.iushr, 1) := by decide +kernel
theorem d8_22 : decode jdk_65_method_71_code 22 = .ok (.istore 7, 2) := by decide +kernel
theorem d8_24 : decode jdk_65_method_71_code 24 = .ok (.aload_n 0, 1) := by decide +kernel
theorem d8_25 : decode jdk_65_method_71_code 25 = .ok (.iload 7, 2) := by decide +kernel
theorem d8_27 : decode jdk_65_method_71_code 27 = .ok (.daload, 1) := by decide +kernel
theorem d8_28 : decode jdk_65_method_71_code 28 = .ok (.dstore 8, 2) := by decide +kernel
theorem d8_30 : decode jdk_65_method_71_code 30 = .ok (.dload 8, 2) := by decide +kernel
theorem d8_32 : decode jdk_65_method_71_code 32 = .ok (.dload_n 3, 1) := by decide +kernel
theorem d8_33 : decode jdk_65_method_71_code 33 = .ok (.dcmp .g, 1) := by decide +kernel
theorem d8_34 : decode jdk_65_method_71_code 34 = .ok (.ifCond .ge 12, 3) := by decide +kernel
theorem d8_37 : decode jdk_65_method_71_code 37 = .ok (.iload 7, 2) := by decide +kernel
theorem d8_39 : decode jdk_65_method_71_code 39 = .ok (.iconst 1, 1) := by decide +kernel
theorem d8_40 : decode jdk_65_method_71_code 40 = .ok (.iadd, 1) := by decide +kernel
theorem d8_41 : decode jdk_65_method_71_code 41 = .ok (.istore 5, 2) := by decide +kernel
theorem d8_43 : decode jdk_65_method_71_code 43 = .ok (.goto 66, 3) := by decide +kernel
theorem d8_46 : decode jdk_65_method_71_code 46 = .ok (.dload 8, 2) := by decide +kernel
theorem d8_48 : decode jdk_65_method_71_code 48 = .ok (.dload_n 3, 1) := by decide +kernel
theorem d8_49 : decode jdk_65_method_71_code 49 = .ok (.dcmp .l, 1) := by decide +kernel
theorem d8_50 : decode jdk_65_method_71_code 50 = .ok (.ifCond .le 12, 3) := by decide +kernel
theorem d8_62 : decode jdk_65_method_71_code 62 = .ok (.dload 8, 2) := by decide +kernel
theorem d8_64 : decode jdk_65_method_71_code 64 = .ok (.invokestatic 224, 3) := by decide +kernel
theorem d8_67 : decode jdk_65_method_71_code 67 = .ok (.lstore 10, 2) := by decide +kernel
theorem d8_69 : decode jdk_65_method_71_code 69 = .ok (.dload_n 3, 1) := by decide +kernel
theorem d8_70 : decode jdk_65_method_71_code 70 = .ok (.invokestatic 224, 3) := by decide +kernel
theorem d8_73 : decode jdk_65_method_71_code 73 = .ok (.lstore 12, 2) := by decide +kernel
theorem d8_75 : decode jdk_65_method_71_code 75 = .ok (.lload 10, 2) := by decide +kernel
theorem d8_77 : decode jdk_65_method_71_code 77 = .ok (.lload 12, 2) := by decide +kernel
theorem d8_79 : decode jdk_65_method_71_code 79 = .ok (.lcmp, 1) := by decide +kernel
theorem d8_80 : decode jdk_65_method_71_code 80 = .ok (.ifCond .ne 6, 3) := by decide +kernel
theorem d8_83 : decode jdk_65_method_71_code 83 = .ok (.iload 7, 2) := by decide +kernel
theorem d8_85 : decode jdk_65_method_71_code 85 = .ok (.ireturn, 1) := by decide +kernel
theorem d8_109 : decode jdk_65_method_71_code 109 = .ok (.goto (-101), 3) := by decide +kernel
theorem d8_112 : decode jdk_65_method_71_code 112 = .ok (.iload 5, 2) := by decide +kernel
theorem d8_114 : decode jdk_65_method_71_code 114 = .ok (.iconst 1, 1) := by decide +kernel
theorem d8_115 : decode jdk_65_method_71_code 115 = .ok (.iadd, 1) := by decide +kernel
theorem d8_116 : decode jdk_65_method_71_code 116 = .ok (.ineg, 1) := by decide +kernel
theorem d8_117 : decode jdk_65_method_71_code 117 = .ok (.ireturn, 1) := by decide +kernel
theorem d9_0 : decode jdk_117_method_23_code 0 = .ok (.dload_n 0, 1) := by decide +kernel
theorem d9_1 : decode jdk_117_method_23_code 1 = .ok (.invokestatic 122, 3) := by decide +kernel
theorem d9_4 : decode jdk_117_method_23_code 4 = .ok (.ifCond .ne 8, 3) := by decide +kernel
theorem d9_7 : decode jdk_117_method_23_code 7 = .ok (.dload_n 0, 1) := by decide +kernel
theorem d9_8 : decode jdk_117_method_23_code 8 = .ok (.invokestatic 134, 3) := by decide +kernel
theorem d9_11 : decode jdk_117_method_23_code 11 = .ok (.lreturn, 1) := by decide +kernel
theorem d10_0 : decode jdk_117_method_6_code 0 = .ok (.dload_n 0, 1) := by decide +kernel
theorem d10_1 : decode jdk_117_method_6_code 1 = .ok (.dload_n 0, 1) := by decide +kernel
theorem d10_2 : decode jdk_117_method_6_code 2 = .ok (.dcmp .l, 1) := by decide +kernel
theorem d10_3 : decode jdk_117_method_6_code 3 = .ok (.ifCond .eq 7, 3) := by decide +kernel
theorem d10_10 : decode jdk_117_method_6_code 10 = .ok (.iconst 0, 1) := by decide +kernel
theorem d10_11 : decode jdk_117_method_6_code 11 = .ok (.ireturn, 1) := by decide +kernel
theorem d11_0 : decode prog_23_method_4_code 0 = .ok (.iload_n 1, 1) := by decide +kernel
theorem d11_1 : decode prog_23_method_4_code 1 = .ok (.aload_n 0, 1) := by decide +kernel
theorem d11_2 : decode prog_23_method_4_code 2 = .ok (.getfield 19, 3) := by decide +kernel
theorem d11_5 : decode prog_23_method_4_code 5 = .ok (.if_icmp .ge 12, 3) := by decide +kernel
theorem d11_8 : decode prog_23_method_4_code 8 = .ok (.aload_n 0, 1) := by decide +kernel
theorem d11_9 : decode prog_23_method_4_code 9 = .ok (.getfield 7, 3) := by decide +kernel
theorem d11_12 : decode prog_23_method_4_code 12 = .ok (.iload_n 1, 1) := by decide +kernel
theorem d11_13 : decode prog_23_method_4_code 13 = .ok (.daload, 1) := by decide +kernel
theorem d11_14 : decode prog_23_method_4_code 14 = .ok (.goto 6, 3) := by decide +kernel
theorem d11_17 : decode prog_23_method_4_code 17 = .ok (.ldc2_w 46, 3) := by decide +kernel
theorem d11_20 : decode prog_23_method_4_code 20 = .ok (.dreturn, 1) := by decide +kernel
theorem d12_0 : decode method_2_code 0 = .ok (.ldc2_w 7, 3) := by decide +kernel
theorem d12_3 : decode method_2_code 3 = .ok (.dstore_n 3, 1) := by decide +kernel
theorem d12_4 : decode method_2_code 4 = .ok (.iload_n 1, 1) := by decide +kernel
theorem d12_5 : decode method_2_code 5 = .ok (.iload_n 0, 1) := by decide +kernel
theorem d12_6 : decode method_2_code 6 = .ok (.if_icmp .gt 13, 3) := by decide +kernel
theorem d12_9 : decode method_2_code 9 = .ok (.iload_n 2, 1) := by decide +kernel
theorem d12_10 : decode method_2_code 10 = .ok (.ifCond .ne 7, 3) := by decide +kernel
theorem d12_13 : decode method_2_code 13 = .ok (.dconst 0, 1) := by decide +kernel
theorem d12_14 : decode method_2_code 14 = .ok (.goto 4, 3) := by decide +kernel
theorem d12_17 : decode method_2_code 17 = .ok (.dload_n 3, 1) := by decide +kernel
theorem d12_18 : decode method_2_code 18 = .ok (.dreturn, 1) := by decide +kernel
theorem d12_19 : decode method_2_code 19 = .ok (.iload_n 0, 1) := by decide +kernel
theorem d12_20 : decode method_2_code 20 = .ok (.ifCond .ne 19, 3) := by decide +kernel
theorem d12_23 : decode method_2_code 23 = .ok (.iload_n 2, 1) := by decide +kernel
theorem d12_24 : decode method_2_code 24 = .ok (.ifCond .ne 5, 3) := by decide +kernel
theorem d12_27 : decode method_2_code 27 = .ok (.dconst 0, 1) := by decide +kernel
theorem d12_28 : decode method_2_code 28 = .ok (.dreturn, 1) := by decide +kernel
theorem d12_29 : decode method_2_code 29 = .ok (.iload_n 2, 1) := by decide +kernel
theorem d12_30 : decode method_2_code 30 = .ok (.iconst 1, 1) := by decide +kernel
theorem d12_31 : decode method_2_code 31 = .ok (.if_icmp .ne 6, 3) := by decide +kernel
theorem d12_34 : decode method_2_code 34 = .ok (.iload_n 1, 1) := by decide +kernel
theorem d12_35 : decode method_2_code 35 = .ok (.i2d, 1) := by decide +kernel
theorem d12_36 : decode method_2_code 36 = .ok (.dreturn, 1) := by decide +kernel
theorem d12_37 : decode method_2_code 37 = .ok (.dload_n 3, 1) := by decide +kernel
theorem d12_38 : decode method_2_code 38 = .ok (.dreturn, 1) := by decide +kernel
theorem d12_39 : decode method_2_code 39 = .ok (.iload_n 2, 1) := by decide +kernel
theorem d12_40 : decode method_2_code 40 = .ok (.ifCond .ne 5, 3) := by decide +kernel
theorem d12_43 : decode method_2_code 43 = .ok (.dconst 0, 1) := by decide +kernel
theorem d12_44 : decode method_2_code 44 = .ok (.dreturn, 1) := by decide +kernel
theorem d12_45 : decode method_2_code 45 = .ok (.iload_n 2, 1) := by decide +kernel
theorem d12_46 : decode method_2_code 46 = .ok (.iconst 1, 1) := by decide +kernel
theorem d12_47 : decode method_2_code 47 = .ok (.if_icmp .ne 6, 3) := by decide +kernel
theorem d12_50 : decode method_2_code 50 = .ok (.iload_n 0, 1) := by decide +kernel
theorem d12_51 : decode method_2_code 51 = .ok (.i2d, 1) := by decide +kernel
theorem d12_52 : decode method_2_code 52 = .ok (.dreturn, 1) := by decide +kernel
theorem d12_53 : decode method_2_code 53 = .ok (.iload_n 2, 1) := by decide +kernel
theorem d12_54 : decode method_2_code 54 = .ok (.iconst 2, 1) := by decide +kernel
theorem d12_55 : decode method_2_code 55 = .ok (.if_icmp .ne 6, 3) := by decide +kernel
theorem d12_58 : decode method_2_code 58 = .ok (.iload_n 1, 1) := by decide +kernel
theorem d12_59 : decode method_2_code 59 = .ok (.i2d, 1) := by decide +kernel
theorem d12_60 : decode method_2_code 60 = .ok (.dreturn, 1) := by decide +kernel
theorem d12_61 : decode method_2_code 61 = .ok (.dload_n 3, 1) := by decide +kernel
theorem d12_62 : decode method_2_code 62 = .ok (.dreturn, 1) := by decide +kernel
theorem pd_0 : parseMethodDescriptor "(D)Z" = some ⟨[.double], some .boolean⟩ := by decide +kernel
theorem pd_1 : parseMethodDescriptor "(D)J" = some ⟨[.double], some .long⟩ := by decide +kernel
theorem pd_2 : parseMethodDescriptor "(III)V" = some ⟨[.int, .int, .int], none⟩ := by decide +kernel
theorem pd_3 : parseMethodDescriptor "([DIID)I" = some ⟨[(.array .double), .int, .int, .double], some .int⟩ := by decide +kernel
theorem pd_4 : parseMethodDescriptor "(D)I" = some ⟨[.double], some .int⟩ := by decide +kernel
theorem pd_5 : parseMethodDescriptor "([I)V" = some ⟨[(.array .int)], none⟩ := by decide +kernel
theorem pd_6 : parseMethodDescriptor "(DD[I)V" = some ⟨[.double, .double, (.array .int)], none⟩ := by decide +kernel
theorem pd_7 : parseMethodDescriptor "(I)D" = some ⟨[.int], some .double⟩ := by decide +kernel
theorem pd_8 : parseMethodDescriptor "(III)D" = some ⟨[.int, .int, .int], some .double⟩ := by decide +kernel
section OwnLaw
open Jvm.OwnFl
theorem own_z : DV 0 0 := lit_DV (s := false) (c := 0) (q := -1074) (by decide +kernel) (by decide +kernel)
theorem own_zz : FP.dcmp 0 0 = some .eq := dcmp_eq own_z own_z rfl
theorem own_inf : FP.dcmp 9218868437227405312 9218868437227405312 = some .eq := by decide +kernel
theorem own_i0 : FP.i2d 0 = 0 := by decide +kernel
theorem own_self {x : UInt64} {r : Rat} (h : DV x r) : FP.dcmp x x = some .eq := dcmp_eq h h rfl
end OwnLaw
def Q_rmNaN (Z : State) (x : UInt64) (h0 : Heap) (n0 : Nat) (v : Option Value) (h : Heap) (L : List Loc) : Prop := v = some (.int 0) ∧ Fr n0 L ∧ h = h0
set_option maxRecDepth 65536 in
set_option maxHeartbeats 40000000 in
theorem rmNaN (l : Launch) (Z : State) (a0 : Array Value) (hw : ∀ d ∈ tables_1, d.before a0 Z = true) (ws : List Jvm.Cond) (x : UInt64) (h0 : Heap) (n0 : Nat) (Zs : n0 ≤ h0.size) (hq : FP.dcmp x x = some .eq) :
    Con l (⟨"java/lang/Double", "isNaN", "(D)Z"⟩ : MethodName) jdk_117_method_6_code 2 (some .boolean) ws ({ frames := 0, cells := 0, slots := 0, locals := 0 } : Room) Z #[(.double x)] h0 ({ frames := 0, cells := 0, slots := 0, locals := 0 } : Room).cells ({ frames := 0, cells := 0, slots := 0, locals := 0 } : Room).slots (Q_rmNaN Z x h0 n0) := by
  refine Con.of (Ls := #[.val (.double x), .second]) (by decide +kernel) (fun m => by first | (simp [entryFrame, mkF, argsToLocals, Value.category]; done) | rfl) ?_
  intro p e s m below meth c s₁ G hGe hG hx hby hml hown hnm hrt hlk hZ X0 e0
  have hown : s.vm.findClass "java/lang/Double" = some m.cls := hown
  have hnm : meth.name = "isNaN" := hnm
  have NF0 := Fr.nil n0
  refine g_dloadN hG X0 hx (hb hby d10_0) (pc' := 1) rfl rfl ?_
  refine g_dloadN hG X0 hx (hb hby d10_1) (pc' := 2) rfl rfl ?_
  obtain ⟨v2, q2⟩ : ∃ zz : Int32, cmpValue (FP.dcmp x x) .l = zz := ⟨_, rfl⟩
  refine g_dcmp hG X0 hx (hb hby d10_2) (pc' := 3) rfl q2 ?_
  refine g_ifYes hG X0 hx (hb hby d10_3) (pc' := 10) (by rw [← q2, hq]; rfl) (by decide) (by decide) ?_
  refine g_iconst hG X0 hx (hb hby d10_10) (pc' := 11) rfl (v := (0 : Int32)) rfl ?_
  exact e_retZ hGe X0 hx hrt hlk (hb hby d10_11) (Or.inl rfl) e0 (by decide) (by decide) (⟨rfl, NF0, rfl⟩)

def Q_rmBits (Z : State) (x : UInt64) (h0 : Heap) (n0 : Nat) (v : Option Value) (h : Heap) (L : List Loc) : Prop := v = some (.long x.toInt64) ∧ Fr n0 L ∧ h = h0
set_option maxRecDepth 65536 in
set_option maxHeartbeats 40000000 in
theorem rmBits (l : Launch) (Z : State) (a0 : Array Value) (hw : ∀ d ∈ tables_1, d.before a0 Z = true) (ws : List Jvm.Cond) (x : UInt64) (h0 : Heap) (n0 : Nat) (Zs : n0 ≤ h0.size) (hq : FP.dcmp x x = some .eq) :
    Con l (⟨"java/lang/Double", "doubleToLongBits", "(D)J"⟩ : MethodName) jdk_117_method_23_code 2 (some .long) ws ({ frames := 1, cells := 0, slots := 0, locals := 16 } : Room) Z #[(.double x)] h0 ({ frames := 1, cells := 0, slots := 0, locals := 16 } : Room).cells ({ frames := 1, cells := 0, slots := 0, locals := 16 } : Room).slots (Q_rmBits Z x h0 n0) := by
  refine Con.of (Ls := #[.val (.double x), .second]) (by decide +kernel) (fun m => by first | (simp [entryFrame, mkF, argsToLocals, Value.category]; done) | rfl) ?_
  intro p e s m below meth c s₁ G hGe hG hx hby hml hown hnm hrt hlk hZ X0 e0
  have hown : s.vm.findClass "java/lang/Double" = some m.cls := hown
  have hnm : meth.name = "doubleToLongBits" := hnm
  have NF0 := Fr.nil n0
  refine g_dloadN hG X0 hx (hb hby d9_0) (pc' := 1) rfl rfl ?_
  refine g_callS hG X0 hx hZ (y := (⟨"java/lang/Double", "isNaN", "(D)Z"⟩ : MethodName)) 0 hown (wd hw 57 rfl) (wd hw 58 rfl) (wd hw 55 rfl) (wd hw 59 rfl) (by decide) (rmNaN l Z a0 hw [] x h0 n0 Zs hq) (by decide) (by decide) (by rw [hml]; rfl) pd_0 rfl (argsL := [(.double x)]) (rest := []) rfl rfl (Nat.le_of_eq rfl) (hb hby d9_1) e0 (by decide) (by decide) (pc' := 4) rfl ?_
  intro T1 rv1 L1 X1 hQ1
  obtain ⟨rfl, Nq1, eh1⟩ := hQ1
  have NF1 := Fr.app NF0 Nq1
  show G (T1.setTop (mkF m 4 _ [(.int 0)]))
  refine g_ifNo hG X1 hx (hb hby d9_4) (pc' := 7) (by decide) rfl ?_
  refine g_dloadN hG X1 hx (hb hby d9_7) (pc' := 8) rfl rfl ?_
  refine g_rawBits hG X1 hx hZ hown (wd hw 60 rfl) (wd hw 62 rfl) (wd hw 61 rfl) (wd hw 55 rfl) eh1 (by rw [hml]; rfl) (hb hby d9_8) (by decide) (by decide) (pc' := 11) rfl ?_
  intro T2 X2 e2
  show G (T2.setTop (mkF m 11 _ [(.long x.toInt64)]))
  exact e_retJ hGe X2 hx hrt hlk (hb hby d9_11) e2 (by decide) (by decide) (⟨rfl, NF1, rfl⟩)

def Q_rmRcF (Z : State) (_u : Unit) (h0 : Heap) (n0 : Nat) (v : Option Value) (h : Heap) (L : List Loc) : Prop := v = none ∧ Fr n0 L ∧ h = h0
set_option maxRecDepth 65536 in
set_option maxHeartbeats 40000000 in
theorem rmRcF (l : Launch) (Z : State) (a0 : Array Value) (hw : ∀ d ∈ tables_1, d.before a0 Z = true) (ws : List Jvm.Cond) (_u : Unit) (h0 : Heap) (n0 : Nat) (Zs : n0 ≤ h0.size)  :
    Con l (⟨"java/util/Arrays", "rangeCheck", "(III)V"⟩ : MethodName) jdk_65_method_30_code 3 none ws ({ frames := 0, cells := 0, slots := 0, locals := 0 } : Room) Z #[(.int 16), (.int 0), (.int 1)] h0 ({ frames := 0, cells := 0, slots := 0, locals := 0 } : Room).cells ({ frames := 0, cells := 0, slots := 0, locals := 0 } : Room).slots (Q_rmRcF Z _u h0 n0) := by
  refine Con.of (Ls := #[.val (.int 16), .val (.int 0), .val (.int 1)]) (plainFor_of_name (by first | (simp [plainName, overriddenIn]; done) | decide +kernel)) (fun m => by first | (simp [entryFrame, mkF, argsToLocals, Value.category]; done) | rfl) ?_
  intro p e s m below meth c s₁ G hGe hG hx hby hml hown hnm hrt hlk hZ X0 e0
  have hown : s.vm.findClass "java/util/Arrays" = some m.cls := hown
  have hnm : meth.name = "rangeCheck" := hnm
  have NF0 := Fr.nil n0
  refine g_iloadN hG X0 hx (hb hby d7_0) (pc' := 1) rfl rfl ?_
  refine g_iloadN hG X0 hx (hb hby d7_1) (pc' := 2) rfl rfl ?_
  refine g_icmpYes hG X0 hx (hb hby d7_2) (pc' := 46) (by decide) (by decide) (by decide) ?_
  refine g_iloadN hG X0 hx (hb hby d7_46) (pc' := 47) rfl rfl ?_
  refine g_ifYes hG X0 hx (hb hby d7_47) (pc' := 59) (by decide) (by decide) (by decide) ?_
  refine g_iloadN hG X0 hx (hb hby d7_59) (pc' := 60) rfl rfl ?_
  refine g_iloadN hG X0 hx (hb hby d7_60) (pc' := 61) rfl rfl ?_
  refine g_icmpYes hG X0 hx (hb hby d7_61) (pc' := 73) (by decide) (by decide) (by decide) ?_
  exact e_ret0 hGe X0 hx hrt hlk (hb hby d7_73) e0 (by decide) (by decide) (⟨rfl, NF0, rfl⟩)

def Q_rmB0F (Z : State) (ti : Addr)  (h0 : Heap) (n0 : Nat) (v : Option Value) (h : Heap) (L : List Loc) : Prop := v = some (.int (0)) ∧ Fr n0 L ∧ h = h0
set_option maxRecDepth 65536 in
set_option maxHeartbeats 40000000 in
theorem rmB0F (l : Launch) (Z : State) (a0 : Array Value) (hw : ∀ d ∈ tables_1, d.before a0 Z = true) (ws : List Jvm.Cond) (ti : Addr)  (h0 : Heap) (n0 : Nat) (Zs : n0 ≤ h0.size) (V_ti : AV Z h0 ti .double (16 : Int32) [(.double 0), (.double 0), (.double 0), (.double 0), (.double 0), (.double 0), (.double 0), (.double 0), (.double 0), (.double 0), (.double 0), (.double 0), (.double 0), (.double 0), (.double 0), (.double 0)])  :
    Con l (⟨"java/util/Arrays", "binarySearch0", "([DIID)I"⟩ : MethodName) jdk_65_method_71_code 14 (some .int) ws ({ frames := 2, cells := 0, slots := 0, locals := 32 } : Room) Z #[(.ref ti), (.int 0), (.int 1), (.double 0)] h0 ({ frames := 2, cells := 0, slots := 0, locals := 32 } : Room).cells ({ frames := 2, cells := 0, slots := 0, locals := 32 } : Room).slots (Q_rmB0F Z ti  h0 n0) := by
  refine Con.of (Ls := #[.val (.ref ti), .val (.int 0), .val (.int 1), .val (.double 0), .second, .unset, .unset, .unset, .unset, .unset, .unset, .unset, .unset, .unset]) (plainFor_of_name (by first | (simp [plainName, overriddenIn]; done) | decide +kernel)) (fun m => by first | (simp [entryFrame, mkF, argsToLocals, Value.category]; done) | rfl) ?_
  intro p e s m below meth c s₁ G hGe hG hx hby hml hown hnm hrt hlk hZ X0 e0
  have hown : s.vm.findClass "java/util/Arrays" = some m.cls := hown
  have hnm : meth.name = "binarySearch0" := hnm
  have NF0 := Fr.nil n0
  refine g_iloadN hG X0 hx (hb hby d8_0) (pc' := 1) rfl rfl ?_
  refine g_istore hG X0 hx (hb hby d8_1) (pc' := 3) rfl (Ls' := #[.val (.ref ti), .val (.int 0), .val (.int 1), .val (.double 0), .second, .val (.int 0), .unset, .unset, .unset, .unset, .unset, .unset, .unset, .unset]) rfl ?_
  refine g_iloadN hG X0 hx (hb hby d8_3) (pc' := 4) rfl rfl ?_
  refine g_iconst hG X0 hx (hb hby d8_4) (pc' := 5) rfl (v := (1 : Int32)) rfl ?_
  refine g_isub hG X0 hx (hb hby d8_5) (pc' := 6) rfl (v := (0 : Int32)) (by decide) ?_
  refine g_istore hG X0 hx (hb hby d8_6) (pc' := 8) rfl (Ls' := #[.val (.ref ti), .val (.int 0), .val (.int 1), .val (.double 0), .second, .val (.int 0), .val (.int 0), .unset, .unset, .unset, .unset, .unset, .unset, .unset]) rfl ?_
  refine g_iload hG X0 hx (hb hby d8_8) (pc' := 10) rfl rfl ?_
  refine g_iload hG X0 hx (hb hby d8_10) (pc' := 12) rfl rfl ?_
  refine g_icmpNo hG X0 hx (hb hby d8_12) (pc' := 15) (by decide) rfl ?_
  refine g_iload hG X0 hx (hb hby d8_15) (pc' := 17) rfl rfl ?_
  refine g_iload hG X0 hx (hb hby d8_17) (pc' := 19) rfl rfl ?_
  refine g_iadd hG X0 hx (hb hby d8_19) (pc' := 20) rfl (v := (0 : Int32)) (by decide) ?_
  refine g_iconst hG X0 hx (hb hby d8_20) (pc' := 21) rfl (v := (1 : Int32)) rfl ?_
  refine g_iushr hG X0 hx (hb hby d8_21) (pc' := 22) rfl (v := (0 : Int32)) (by decide) ?_
  refine g_istore hG X0 hx (hb hby d8_22) (pc' := 24) rfl (Ls' := #[.val (.ref ti), .val (.int 0), .val (.int 1), .val (.double 0), .second, .val (.int 0), .val (.int 0), .val (.int 0), .unset, .unset, .unset, .unset, .unset, .unset]) rfl ?_
  refine g_aloadN hG X0 hx (hb hby d8_24) (pc' := 25) rfl rfl rfl ?_
  refine g_iload hG X0 hx (hb hby d8_25) (pc' := 27) rfl rfl ?_
  refine g_daload hG X0 hx hZ e0 V_ti (j := (0 : Int32)) (v := (.double 0)) (by decide) rfl (hb hby d8_27) (pc' := 28) rfl ?_
  refine g_dstore hG X0 hx (hb hby d8_28) (pc' := 30) rfl (Ls' := #[.val (.ref ti), .val (.int 0), .val (.int 1), .val (.double 0), .second, .val (.int 0), .val (.int 0), .val (.int 0), .val (.double 0), .second, .unset, .unset, .unset, .unset]) rfl ?_
  refine g_dload hG X0 hx (hb hby d8_30) (pc' := 32) rfl rfl ?_
  refine g_dloadN hG X0 hx (hb hby d8_32) (pc' := 33) rfl rfl ?_
  obtain ⟨v33, q33⟩ : ∃ zz : Int32, cmpValue (FP.dcmp (0 : UInt64) (0 : UInt64)) .g = zz := ⟨_, rfl⟩
  refine g_dcmp hG X0 hx (hb hby d8_33) (pc' := 34) rfl q33 ?_
  refine g_ifYes hG X0 hx (hb hby d8_34) (pc' := 46) (by rw [← q33, own_zz]; rfl) (by decide) (by decide) ?_
  refine g_dload hG X0 hx (hb hby d8_46) (pc' := 48) rfl rfl ?_
  refine g_dloadN hG X0 hx (hb hby d8_48) (pc' := 49) rfl rfl ?_
  obtain ⟨v49, q49⟩ : ∃ zz : Int32, cmpValue (FP.dcmp (0 : UInt64) (0 : UInt64)) .l = zz := ⟨_, rfl⟩
  refine g_dcmp hG X0 hx (hb hby d8_49) (pc' := 50) rfl q49 ?_
  refine g_ifYes hG X0 hx (hb hby d8_50) (pc' := 62) (by rw [← q49, own_zz]; rfl) (by decide) (by decide) ?_
  refine g_dload hG X0 hx (hb hby d8_62) (pc' := 64) rfl rfl ?_
  refine g_callS hG X0 hx hZ (y := (⟨"java/lang/Double", "doubleToLongBits", "(D)J"⟩ : MethodName)) 0 hown (wd hw 53 rfl) (wd hw 54 rfl) (wd hw 55 rfl) (wd hw 56 rfl) (by decide) (rmBits l Z a0 hw [] (0 : UInt64) h0 n0 Zs own_zz) (by decide) (by decide) (by rw [hml]; rfl) pd_1 rfl (argsL := [(.double 0)]) (rest := []) rfl rfl (Nat.le_of_eq rfl) (hb hby d8_64) e0 (by decide) (by decide) (pc' := 67) rfl ?_
  intro T1 rv1 L1 X1 hQ1
  obtain ⟨rfl, Nq1, eh1⟩ := hQ1
  have NF1 := Fr.app NF0 Nq1
  show G (T1.setTop (mkF m 67 _ [(.long (0 : UInt64).toInt64)]))
  refine g_lstore hG X1 hx (hb hby d8_67) (pc' := 69) rfl (Ls' := #[.val (.ref ti), .val (.int 0), .val (.int 1), .val (.double 0), .second, .val (.int 0), .val (.int 0), .val (.int 0), .val (.double 0), .second, .val (.long (0 : UInt64).toInt64), .second, .unset, .unset]) rfl ?_
  refine g_dloadN hG X1 hx (hb hby d8_69) (pc' := 70) rfl rfl ?_
  refine g_callS hG X1 hx hZ (y := (⟨"java/lang/Double", "doubleToLongBits", "(D)J"⟩ : MethodName)) 0 hown (wd hw 53 rfl) (wd hw 54 rfl) (wd hw 55 rfl) (wd hw 56 rfl) (by decide) (rmBits l Z a0 hw [] (0 : UInt64) h0 n0 Zs own_zz) (by decide) (by decide) (by rw [hml]; rfl) pd_1 rfl (argsL := [(.double 0)]) (rest := []) rfl rfl (Nat.le_of_eq rfl) (hb hby d8_70) eh1 (by decide) (by decide) (pc' := 73) rfl ?_
  intro T2 rv2 L2 X2 hQ2
  obtain ⟨rfl, Nq2, eh2⟩ := hQ2
  have NF2 := Fr.app NF1 Nq2
  show G (T2.setTop (mkF m 73 _ [(.long (0 : UInt64).toInt64)]))
  refine g_lstore hG X2 hx (hb hby d8_73) (pc' := 75) rfl (Ls' := #[.val (.ref ti), .val (.int 0), .val (.int 1), .val (.double 0), .second, .val (.int 0), .val (.int 0), .val (.int 0), .val (.double 0), .second, .val (.long (0 : UInt64).toInt64), .second, .val (.long (0 : UInt64).toInt64), .second]) rfl ?_
  refine g_lload hG X2 hx (hb hby d8_75) (pc' := 77) rfl rfl ?_
  refine g_lload hG X2 hx (hb hby d8_77) (pc' := 79) rfl rfl ?_
  obtain ⟨v79, q79⟩ : ∃ zz : Int32, lcmpW (0 : UInt64).toInt64 (0 : UInt64).toInt64 = zz := ⟨_, rfl⟩
  refine g_lcmp hG X2 hx (hb hby d8_79) (pc' := 80) rfl q79 ?_
  refine g_ifNo hG X2 hx (hb hby d8_80) (pc' := 83) ((if0 _ _).trans (teq (show v79 = 0 by rw [← q79]; exact (lw_eq _ _).mpr rfl)).2) rfl ?_
  refine g_iload hG X2 hx (hb hby d8_83) (pc' := 85) rfl rfl ?_
  exact e_retI hGe X2 hx hrt hlk (hb hby d8_85) eh2 (by decide) (by decide) (⟨rfl, NF2, rfl⟩)

def Q_rmB1F (Z : State) (ti : Addr)  (h0 : Heap) (n0 : Nat) (v : Option Value) (h : Heap) (L : List Loc) : Prop := v = some (.int (0)) ∧ Fr n0 L ∧ h = h0
set_option maxRecDepth 65536 in
set_option maxHeartbeats 40000000 in
theorem rmB1F (l : Launch) (Z : State) (a0 : Array Value) (hw : ∀ d ∈ tables_1, d.before a0 Z = true) (ws : List Jvm.Cond) (ti : Addr)  (h0 : Heap) (n0 : Nat) (Zs : n0 ≤ h0.size) (V_ti : AV Z h0 ti .double (16 : Int32) [(.double 0), (.double 0), (.double 0), (.double 0), (.double 0), (.double 0), (.double 0), (.double 0), (.double 0), (.double 0), (.double 0), (.double 0), (.double 0), (.double 0), (.double 0), (.double 0)])  :
    Con l (⟨"java/util/Arrays", "binarySearch", "([DIID)I"⟩ : MethodName) jdk_65_method_70_code 5 (some .int) ws ({ frames := 3, cells := 0, slots := 0, locals := 64 } : Room) Z #[(.ref ti), (.int 0), (.int 1), (.double 0)] h0 ({ frames := 3, cells := 0, slots := 0, locals := 64 } : Room).cells ({ frames := 3, cells := 0, slots := 0, locals := 64 } : Room).slots (Q_rmB1F Z ti  h0 n0) := by
  refine Con.of (Ls := #[.val (.ref ti), .val (.int 0), .val (.int 1), .val (.double 0), .second]) (plainFor_of_name (by first | (simp [plainName, overriddenIn]; done) | decide +kernel)) (fun m => by first | (simp [entryFrame, mkF, argsToLocals, Value.category]; done) | rfl) ?_
  intro p e s m below meth c s₁ G hGe hG hx hby hml hown hnm hrt hlk hZ X0 e0
  have hown : s.vm.findClass "java/util/Arrays" = some m.cls := hown
  have hnm : meth.name = "binarySearch" := hnm
  have NF0 := Fr.nil n0
  refine g_aloadN hG X0 hx (hb hby d6_0) (pc' := 1) rfl rfl rfl ?_
  refine g_arraylength hG X0 hx hZ e0 V_ti (hb hby d6_1) (pc' := 2) rfl ?_
  refine g_iloadN hG X0 hx (hb hby d6_2) (pc' := 3) rfl rfl ?_
  refine g_iloadN hG X0 hx (hb hby d6_3) (pc' := 4) rfl rfl ?_
  refine g_callS hG X0 hx hZ (y := (⟨"java/util/Arrays", "rangeCheck", "(III)V"⟩ : MethodName)) 0 hown (wd hw 47 rfl) (wd hw 48 rfl) (wd hw 45 rfl) (wd hw 49 rfl) (by decide) (rmRcF l Z a0 hw [] () h0 n0 Zs) (by decide) (by decide) (by rw [hml]; rfl) pd_2 rfl (argsL := [(.int 16), (.int 0), (.int 1)]) (rest := []) rfl rfl (Nat.le_of_eq rfl) (hb hby d6_4) e0 (by decide) (by decide) (pc' := 7) rfl ?_
  intro T1 rv1 L1 X1 hQ1
  obtain ⟨rfl, Nq1, eh1⟩ := hQ1
  have NF1 := Fr.app NF0 Nq1
  show G (T1.setTop (mkF m 7 _ []))
  refine g_aloadN hG X1 hx (hb hby d6_7) (pc' := 8) rfl rfl rfl ?_
  refine g_iloadN hG X1 hx (hb hby d6_8) (pc' := 9) rfl rfl ?_
  refine g_iloadN hG X1 hx (hb hby d6_9) (pc' := 10) rfl rfl ?_
  refine g_dloadN hG X1 hx (hb hby d6_10) (pc' := 11) rfl rfl ?_
  refine g_callS hG X1 hx hZ (y := (⟨"java/util/Arrays", "binarySearch0", "([DIID)I"⟩ : MethodName)) 0 hown (wd hw 50 rfl) (wd hw 51 rfl) (wd hw 45 rfl) (wd hw 52 rfl) (by decide) (rmB0F l Z a0 hw [] ti  h0 n0 Zs V_ti) (by decide) (by decide) (by rw [hml]; rfl) pd_3 rfl (argsL := [(.ref ti), (.int 0), (.int 1), (.double 0)]) (rest := []) rfl rfl (Nat.le_of_eq rfl) (hb hby d6_11) eh1 (by decide) (by decide) (pc' := 14) rfl ?_
  intro T2 rv2 L2 X2 hQ2
  obtain ⟨rfl, Nq2, eh2⟩ := hQ2
  have NF2 := Fr.app NF1 Nq2
  show G (T2.setTop (mkF m 14 _ [(.int 0)]))
  exact e_retI hGe X2 hx hrt hlk (hb hby d6_14) eh2 (by decide) (by decide) (⟨rfl, NF2, rfl⟩)

def Q_rmRcA (Z : State) (_u : Unit) (h0 : Heap) (n0 : Nat) (v : Option Value) (h : Heap) (L : List Loc) : Prop := v = none ∧ Fr n0 L ∧ h = h0
set_option maxRecDepth 65536 in
set_option maxHeartbeats 40000000 in
theorem rmRcA (l : Launch) (Z : State) (a0 : Array Value) (hw : ∀ d ∈ tables_1, d.before a0 Z = true) (ws : List Jvm.Cond) (_u : Unit) (h0 : Heap) (n0 : Nat) (Zs : n0 ≤ h0.size)  :
    Con l (⟨"java/util/Arrays", "rangeCheck", "(III)V"⟩ : MethodName) jdk_65_method_30_code 3 none ws ({ frames := 0, cells := 0, slots := 0, locals := 0 } : Room) Z #[(.int 16), (.int 0), (.int 1)] h0 ({ frames := 0, cells := 0, slots := 0, locals := 0 } : Room).cells ({ frames := 0, cells := 0, slots := 0, locals := 0 } : Room).slots (Q_rmRcA Z _u h0 n0) := by
  refine Con.of (Ls := #[.val (.int 16), .val (.int 0), .val (.int 1)]) (plainFor_of_name (by first | (simp [plainName, overriddenIn]; done) | decide +kernel)) (fun m => by first | (simp [entryFrame, mkF, argsToLocals, Value.category]; done) | rfl) ?_
  intro p e s m below meth c s₁ G hGe hG hx hby hml hown hnm hrt hlk hZ X0 e0
  have hown : s.vm.findClass "java/util/Arrays" = some m.cls := hown
  have hnm : meth.name = "rangeCheck" := hnm
  have NF0 := Fr.nil n0
  refine g_iloadN hG X0 hx (hb hby d7_0) (pc' := 1) rfl rfl ?_
  refine g_iloadN hG X0 hx (hb hby d7_1) (pc' := 2) rfl rfl ?_
  refine g_icmpYes hG X0 hx (hb hby d7_2) (pc' := 46) (by decide) (by decide) (by decide) ?_
  refine g_iloadN hG X0 hx (hb hby d7_46) (pc' := 47) rfl rfl ?_
  refine g_ifYes hG X0 hx (hb hby d7_47) (pc' := 59) (by decide) (by decide) (by decide) ?_
  refine g_iloadN hG X0 hx (hb hby d7_59) (pc' := 60) rfl rfl ?_
  refine g_iloadN hG X0 hx (hb hby d7_60) (pc' := 61) rfl rfl ?_
  refine g_icmpYes hG X0 hx (hb hby d7_61) (pc' := 73) (by decide) (by decide) (by decide) ?_
  exact e_ret0 hGe X0 hx hrt hlk (hb hby d7_73) e0 (by decide) (by decide) (⟨rfl, NF0, rfl⟩)

def Q_rmB0A (Z : State) (ti : Addr) (y : UInt64) (h0 : Heap) (n0 : Nat) (v : Option Value) (h : Heap) (L : List Loc) : Prop := v = some (.int (-2)) ∧ Fr n0 L ∧ h = h0
set_option maxRecDepth 65536 in
set_option maxHeartbeats 40000000 in
theorem rmB0A (l : Launch) (Z : State) (a0 : Array Value) (hw : ∀ d ∈ tables_1, d.before a0 Z = true) (ws : List Jvm.Cond) (ti : Addr) (y : UInt64) (h0 : Heap) (n0 : Nat) (Zs : n0 ≤ h0.size) (V_ti : AV Z h0 ti .double (16 : Int32) [(.double 0), (.double 0), (.double 0), (.double 0), (.double 0), (.double 0), (.double 0), (.double 0), (.double 0), (.double 0), (.double 0), (.double 0), (.double 0), (.double 0), (.double 0), (.double 0)]) (c0 : FP.dcmp 0 y = some .lt) :
    Con l (⟨"java/util/Arrays", "binarySearch0", "([DIID)I"⟩ : MethodName) jdk_65_method_71_code 14 (some .int) ws ({ frames := 2, cells := 0, slots := 0, locals := 32 } : Room) Z #[(.ref ti), (.int 0), (.int 1), (.double y)] h0 ({ frames := 2, cells := 0, slots := 0, locals := 32 } : Room).cells ({ frames := 2, cells := 0, slots := 0, locals := 32 } : Room).slots (Q_rmB0A Z ti y h0 n0) := by
  refine Con.of (Ls := #[.val (.ref ti), .val (.int 0), .val (.int 1), .val (.double y), .second, .unset, .unset, .unset, .unset, .unset, .unset, .unset, .unset, .unset]) (plainFor_of_name (by first | (simp [plainName, overriddenIn]; done) | decide +kernel)) (fun m => by first | (simp [entryFrame, mkF, argsToLocals, Value.category]; done) | rfl) ?_
  intro p e s m below meth c s₁ G hGe hG hx hby hml hown hnm hrt hlk hZ X0 e0
  have hown : s.vm.findClass "java/util/Arrays" = some m.cls := hown
  have hnm : meth.name = "binarySearch0" := hnm
  have NF0 := Fr.nil n0
  refine g_iloadN hG X0 hx (hb hby d8_0) (pc' := 1) rfl rfl ?_
  refine g_istore hG X0 hx (hb hby d8_1) (pc' := 3) rfl (Ls' := #[.val (.ref ti), .val (.int 0), .val (.int 1), .val (.double y), .second, .val (.int 0), .unset, .unset, .unset, .unset, .unset, .unset, .unset, .unset]) rfl ?_
  refine g_iloadN hG X0 hx (hb hby d8_3) (pc' := 4) rfl rfl ?_
  refine g_iconst hG X0 hx (hb hby d8_4) (pc' := 5) rfl (v := (1 : Int32)) rfl ?_
  refine g_isub hG X0 hx (hb hby d8_5) (pc' := 6) rfl (v := (0 : Int32)) (by decide) ?_
  refine g_istore hG X0 hx (hb hby d8_6) (pc' := 8) rfl (Ls' := #[.val (.ref ti), .val (.int 0), .val (.int 1), .val (.double y), .second, .val (.int 0), .val (.int 0), .unset, .unset, .unset, .unset, .unset, .unset, .unset]) rfl ?_
  refine g_iload hG X0 hx (hb hby d8_8) (pc' := 10) rfl rfl ?_
  refine g_iload hG X0 hx (hb hby d8_10) (pc' := 12) rfl rfl ?_
  refine g_icmpNo hG X0 hx (hb hby d8_12) (pc' := 15) (by decide) rfl ?_
  refine g_iload hG X0 hx (hb hby d8_15) (pc' := 17) rfl rfl ?_
  refine g_iload hG X0 hx (hb hby d8_17) (pc' := 19) rfl rfl ?_
  refine g_iadd hG X0 hx (hb hby d8_19) (pc' := 20) rfl (v := (0 : Int32)) (by decide) ?_
  refine g_iconst hG X0 hx (hb hby d8_20) (pc' := 21) rfl (v := (1 : Int32)) rfl ?_
  refine g_iushr hG X0 hx (hb hby d8_21) (pc' := 22) rfl (v := (0 : Int32)) (by decide) ?_
  refine g_istore hG X0 hx (hb hby d8_22) (pc' := 24) rfl (Ls' := #[.val (.ref ti), .val (.int 0), .val (.int 1), .val (.double y), .second, .val (.int 0), .val (.int 0), .val (.int 0), .unset, .unset, .unset, .unset, .unset, .unset]) rfl ?_
  refine g_aloadN hG X0 hx (hb hby d8_24) (pc' := 25) rfl rfl rfl ?_
  refine g_iload hG X0 hx (hb hby d8_25) (pc' := 27) rfl rfl ?_
  refine g_daload hG X0 hx hZ e0 V_ti (j := (0 : Int32)) (v := (.double 0)) (by decide) rfl (hb hby d8_27) (pc' := 28) rfl ?_
  refine g_dstore hG X0 hx (hb hby d8_28) (pc' := 30) rfl (Ls' := #[.val (.ref ti), .val (.int 0), .val (.int 1), .val (.double y), .second, .val (.int 0), .val (.int 0), .val (.int 0), .val (.double 0), .second, .unset, .unset, .unset, .unset]) rfl ?_
  refine g_dload hG X0 hx (hb hby d8_30) (pc' := 32) rfl rfl ?_
  refine g_dloadN hG X0 hx (hb hby d8_32) (pc' := 33) rfl rfl ?_
  obtain ⟨v33, q33⟩ : ∃ zz : Int32, cmpValue (FP.dcmp (0 : UInt64) y) .g = zz := ⟨_, rfl⟩
  refine g_dcmp hG X0 hx (hb hby d8_33) (pc' := 34) rfl q33 ?_
  refine g_ifNo hG X0 hx (hb hby d8_34) (pc' := 37) (by rw [← q33, c0]; rfl) rfl ?_
  refine g_iload hG X0 hx (hb hby d8_37) (pc' := 39) rfl rfl ?_
  refine g_iconst hG X0 hx (hb hby d8_39) (pc' := 40) rfl (v := (1 : Int32)) rfl ?_
  refine g_iadd hG X0 hx (hb hby d8_40) (pc' := 41) rfl (v := (1 : Int32)) (by decide) ?_
  refine g_istore hG X0 hx (hb hby d8_41) (pc' := 43) rfl (Ls' := #[.val (.ref ti), .val (.int 0), .val (.int 1), .val (.double y), .second, .val (.int 1), .val (.int 0), .val (.int 0), .val (.double 0), .second, .unset, .unset, .unset, .unset]) rfl ?_
  refine g_goto hG X0 hx (hb hby d8_43) (pc' := 109) (by decide) (by decide) ?_
  refine g_goto hG X0 hx (hb hby d8_109) (pc' := 8) (by decide) (by decide) ?_
  refine g_iload hG X0 hx (hb hby d8_8) (pc' := 10) rfl rfl ?_
  refine g_iload hG X0 hx (hb hby d8_10) (pc' := 12) rfl rfl ?_
  refine g_icmpYes hG X0 hx (hb hby d8_12) (pc' := 112) (by decide) (by decide) (by decide) ?_
  refine g_iload hG X0 hx (hb hby d8_112) (pc' := 114) rfl rfl ?_
  refine g_iconst hG X0 hx (hb hby d8_114) (pc' := 115) rfl (v := (1 : Int32)) rfl ?_
  refine g_iadd hG X0 hx (hb hby d8_115) (pc' := 116) rfl (v := (2 : Int32)) (by decide) ?_
  refine g_ineg hG X0 hx (hb hby d8_116) (pc' := 117) rfl (v := (-2 : Int32)) (by decide) ?_
  exact e_retI hGe X0 hx hrt hlk (hb hby d8_117) e0 (by decide) (by decide) (⟨rfl, NF0, rfl⟩)

def Q_rmB1A (Z : State) (ti : Addr) (y : UInt64) (h0 : Heap) (n0 : Nat) (v : Option Value) (h : Heap) (L : List Loc) : Prop := v = some (.int (-2)) ∧ Fr n0 L ∧ h = h0
set_option maxRecDepth 65536 in
set_option maxHeartbeats 40000000 in
theorem rmB1A (l : Launch) (Z : State) (a0 : Array Value) (hw : ∀ d ∈ tables_1, d.before a0 Z = true) (ws : List Jvm.Cond) (ti : Addr) (y : UInt64) (h0 : Heap) (n0 : Nat) (Zs : n0 ≤ h0.size) (V_ti : AV Z h0 ti .double (16 : Int32) [(.double 0), (.double 0), (.double 0), (.double 0), (.double 0), (.double 0), (.double 0), (.double 0), (.double 0), (.double 0), (.double 0), (.double 0), (.double 0), (.double 0), (.double 0), (.double 0)]) (c0 : FP.dcmp 0 y = some .lt) :
    Con l (⟨"java/util/Arrays", "binarySearch", "([DIID)I"⟩ : MethodName) jdk_65_method_70_code 5 (some .int) ws ({ frames := 3, cells := 0, slots := 0, locals := 64 } : Room) Z #[(.ref ti), (.int 0), (.int 1), (.double y)] h0 ({ frames := 3, cells := 0, slots := 0, locals := 64 } : Room).cells ({ frames := 3, cells := 0, slots := 0, locals := 64 } : Room).slots (Q_rmB1A Z ti y h0 n0) := by
  refine Con.of (Ls := #[.val (.ref ti), .val (.int 0), .val (.int 1), .val (.double y), .second]) (plainFor_of_name (by first | (simp [plainName, overriddenIn]; done) | decide +kernel)) (fun m => by first | (simp [entryFrame, mkF, argsToLocals, Value.category]; done) | rfl) ?_
  intro p e s m below meth c s₁ G hGe hG hx hby hml hown hnm hrt hlk hZ X0 e0
  have hown : s.vm.findClass "java/util/Arrays" = some m.cls := hown
  have hnm : meth.name = "binarySearch" := hnm
  have NF0 := Fr.nil n0
  refine g_aloadN hG X0 hx (hb hby d6_0) (pc' := 1) rfl rfl rfl ?_
  refine g_arraylength hG X0 hx hZ e0 V_ti (hb hby d6_1) (pc' := 2) rfl ?_
  refine g_iloadN hG X0 hx (hb hby d6_2) (pc' := 3) rfl rfl ?_
  refine g_iloadN hG X0 hx (hb hby d6_3) (pc' := 4) rfl rfl ?_
  refine g_callS hG X0 hx hZ (y := (⟨"java/util/Arrays", "rangeCheck", "(III)V"⟩ : MethodName)) 0 hown (wd hw 47 rfl) (wd hw 48 rfl) (wd hw 45 rfl) (wd hw 49 rfl) (by decide) (rmRcA l Z a0 hw [] () h0 n0 Zs) (by decide) (by decide) (by rw [hml]; rfl) pd_2 rfl (argsL := [(.int 16), (.int 0), (.int 1)]) (rest := []) rfl rfl (Nat.le_of_eq rfl) (hb hby d6_4) e0 (by decide) (by decide) (pc' := 7) rfl ?_
  intro T1 rv1 L1 X1 hQ1
  obtain ⟨rfl, Nq1, eh1⟩ := hQ1
  have NF1 := Fr.app NF0 Nq1
  show G (T1.setTop (mkF m 7 _ []))
  refine g_aloadN hG X1 hx (hb hby d6_7) (pc' := 8) rfl rfl rfl ?_
  refine g_iloadN hG X1 hx (hb hby d6_8) (pc' := 9) rfl rfl ?_
  refine g_iloadN hG X1 hx (hb hby d6_9) (pc' := 10) rfl rfl ?_
  refine g_dloadN hG X1 hx (hb hby d6_10) (pc' := 11) rfl rfl ?_
  refine g_callS hG X1 hx hZ (y := (⟨"java/util/Arrays", "binarySearch0", "([DIID)I"⟩ : MethodName)) 0 hown (wd hw 50 rfl) (wd hw 51 rfl) (wd hw 45 rfl) (wd hw 52 rfl) (by decide) (rmB0A l Z a0 hw [] ti y h0 n0 Zs V_ti c0) (by decide) (by decide) (by rw [hml]; rfl) pd_3 rfl (argsL := [(.ref ti), (.int 0), (.int 1), (.double y)]) (rest := []) rfl rfl (Nat.le_of_eq rfl) (hb hby d6_11) eh1 (by decide) (by decide) (pc' := 14) rfl ?_
  intro T2 rv2 L2 X2 hQ2
  obtain ⟨rfl, Nq2, eh2⟩ := hQ2
  have NF2 := Fr.app NF1 Nq2
  show G (T2.setTop (mkF m 14 _ [(.int (-2))]))
  exact e_retI hGe X2 hx hrt hlk (hb hby d6_14) eh2 (by decide) (by decide) (⟨rfl, NF2, rfl⟩)

def Q_rmRcB (Z : State) (_u : Unit) (h0 : Heap) (n0 : Nat) (v : Option Value) (h : Heap) (L : List Loc) : Prop := v = none ∧ Fr n0 L ∧ h = h0
set_option maxRecDepth 65536 in
set_option maxHeartbeats 40000000 in
theorem rmRcB (l : Launch) (Z : State) (a0 : Array Value) (hw : ∀ d ∈ tables_1, d.before a0 Z = true) (ws : List Jvm.Cond) (_u : Unit) (h0 : Heap) (n0 : Nat) (Zs : n0 ≤ h0.size)  :
    Con l (⟨"java/util/Arrays", "rangeCheck", "(III)V"⟩ : MethodName) jdk_65_method_30_code 3 none ws ({ frames := 0, cells := 0, slots := 0, locals := 0 } : Room) Z #[(.int 16), (.int 0), (.int 2)] h0 ({ frames := 0, cells := 0, slots := 0, locals := 0 } : Room).cells ({ frames := 0, cells := 0, slots := 0, locals := 0 } : Room).slots (Q_rmRcB Z _u h0 n0) := by
  refine Con.of (Ls := #[.val (.int 16), .val (.int 0), .val (.int 2)]) (plainFor_of_name (by first | (simp [plainName, overriddenIn]; done) | decide +kernel)) (fun m => by first | (simp [entryFrame, mkF, argsToLocals, Value.category]; done) | rfl) ?_
  intro p e s m below meth c s₁ G hGe hG hx hby hml hown hnm hrt hlk hZ X0 e0
  have hown : s.vm.findClass "java/util/Arrays" = some m.cls := hown
  have hnm : meth.name = "rangeCheck" := hnm
  have NF0 := Fr.nil n0
  refine g_iloadN hG X0 hx (hb hby d7_0) (pc' := 1) rfl rfl ?_
  refine g_iloadN hG X0 hx (hb hby d7_1) (pc' := 2) rfl rfl ?_
  refine g_icmpYes hG X0 hx (hb hby d7_2) (pc' := 46) (by decide) (by decide) (by decide) ?_
  refine g_iloadN hG X0 hx (hb hby d7_46) (pc' := 47) rfl rfl ?_
  refine g_ifYes hG X0 hx (hb hby d7_47) (pc' := 59) (by decide) (by decide) (by decide) ?_
  refine g_iloadN hG X0 hx (hb hby d7_59) (pc' := 60) rfl rfl ?_
  refine g_iloadN hG X0 hx (hb hby d7_60) (pc' := 61) rfl rfl ?_
  refine g_icmpYes hG X0 hx (hb hby d7_61) (pc' := 73) (by decide) (by decide) (by decide) ?_
  exact e_ret0 hGe X0 hx hrt hlk (hb hby d7_73) e0 (by decide) (by decide) (⟨rfl, NF0, rfl⟩)

def Q_rmB0B (Z : State) (ti : Addr) (x1 y : UInt64) (h0 : Heap) (n0 : Nat) (v : Option Value) (h : Heap) (L : List Loc) : Prop := v = some (.int (-3)) ∧ Fr n0 L ∧ h = h0
set_option maxRecDepth 65536 in
set_option maxHeartbeats 40000000 in
theorem rmB0B (l : Launch) (Z : State) (a0 : Array Value) (hw : ∀ d ∈ tables_1, d.before a0 Z = true) (ws : List Jvm.Cond) (ti : Addr) (x1 y : UInt64) (h0 : Heap) (n0 : Nat) (Zs : n0 ≤ h0.size) (V_ti : AV Z h0 ti .double (16 : Int32) [(.double 0), (.double x1), (.double 0), (.double 0), (.double 0), (.double 0), (.double 0), (.double 0), (.double 0), (.double 0), (.double 0), (.double 0), (.double 0), (.double 0), (.double 0), (.double 0)]) (c0 : FP.dcmp 0 y = some .lt) (c1 : FP.dcmp x1 y = some .lt) :
    Con l (⟨"java/util/Arrays", "binarySearch0", "([DIID)I"⟩ : MethodName) jdk_65_method_71_code 14 (some .int) ws ({ frames := 2, cells := 0, slots := 0, locals := 32 } : Room) Z #[(.ref ti), (.int 0), (.int 2), (.double y)] h0 ({ frames := 2, cells := 0, slots := 0, locals := 32 } : Room).cells ({ frames := 2, cells := 0, slots := 0, locals := 32 } : Room).slots (Q_rmB0B Z ti x1 y h0 n0) := by
  refine Con.of (Ls := #[.val (.ref ti), .val (.int 0), .val (.int 2), .val (.double y), .second, .unset, .unset, .unset, .unset, .unset, .unset, .unset, .unset, .unset]) (plainFor_of_name (by first | (simp [plainName, overriddenIn]; done) | decide +kernel)) (fun m => by first | (simp [entryFrame, mkF, argsToLocals, Value.category]; done) | rfl) ?_
  intro p e s m below meth c s₁ G hGe hG hx hby hml hown hnm hrt hlk hZ X0 e0
  have hown : s.vm.findClass "java/util/Arrays" = some m.cls := hown
  have hnm : meth.name = "binarySearch0" := hnm
  have NF0 := Fr.nil n0
  refine g_iloadN hG X0 hx (hb hby d8_0) (pc' := 1) rfl rfl ?_
  refine g_istore hG X0 hx (hb hby d8_1) (pc' := 3) rfl (Ls' := #[.val (.ref ti), .val (.int 0), .val (.int 2), .val (.double y), .second, .val (.int 0), .unset, .unset, .unset, .unset, .unset, .unset, .unset, .unset]) rfl ?_
  refine g_iloadN hG X0 hx (hb hby d8_3) (pc' := 4) rfl rfl ?_
  refine g_iconst hG X0 hx (hb hby d8_4) (pc' := 5) rfl (v := (1 : Int32)) rfl ?_
  refine g_isub hG X0 hx (hb hby d8_5) (pc' := 6) rfl (v := (1 : Int32)) (by decide) ?_
  refine g_istore hG X0 hx (hb hby d8_6) (pc' := 8) rfl (Ls' := #[.val (.ref ti), .val (.int 0), .val (.int 2), .val (.double y), .second, .val (.int 0), .val (.int 1), .unset, .unset, .unset, .unset, .unset, .unset, .unset]) rfl ?_
  refine g_iload hG X0 hx (hb hby d8_8) (pc' := 10) rfl rfl ?_
  refine g_iload hG X0 hx (hb hby d8_10) (pc' := 12) rfl rfl ?_
  refine g_icmpNo hG X0 hx (hb hby d8_12) (pc' := 15) (by decide) rfl ?_
  refine g_iload hG X0 hx (hb hby d8_15) (pc' := 17) rfl rfl ?_
  refine g_iload hG X0 hx (hb hby d8_17) (pc' := 19) rfl rfl ?_
  refine g_iadd hG X0 hx (hb hby d8_19) (pc' := 20) rfl (v := (1 : Int32)) (by decide) ?_
  refine g_iconst hG X0 hx (hb hby d8_20) (pc' := 21) rfl (v := (1 : Int32)) rfl ?_
  refine g_iushr hG X0 hx (hb hby d8_21) (pc' := 22) rfl (v := (0 : Int32)) (by decide) ?_
  refine g_istore hG X0 hx (hb hby d8_22) (pc' := 24) rfl (Ls' := #[.val (.ref ti), .val (.int 0), .val (.int 2), .val (.double y), .second, .val (.int 0), .val (.int 1), .val (.int 0), .unset, .unset, .unset, .unset, .unset, .unset]) rfl ?_
  refine g_aloadN hG X0 hx (hb hby d8_24) (pc' := 25) rfl rfl rfl ?_
  refine g_iload hG X0 hx (hb hby d8_25) (pc' := 27) rfl rfl ?_
  refine g_daload hG X0 hx hZ e0 V_ti (j := (0 : Int32)) (v := (.double 0)) (by decide) rfl (hb hby d8_27) (pc' := 28) rfl ?_
  refine g_dstore hG X0 hx (hb hby d8_28) (pc' := 30) rfl (Ls' := #[.val (.ref ti), .val (.int 0), .val (.int 2), .val (.double y), .second, .val (.int 0), .val (.int 1), .val (.int 0), .val (.double 0), .second, .unset, .unset, .unset, .unset]) rfl ?_
  refine g_dload hG X0 hx (hb hby d8_30) (pc' := 32) rfl rfl ?_
  refine g_dloadN hG X0 hx (hb hby d8_32) (pc' := 33) rfl rfl ?_
  obtain ⟨v33, q33⟩ : ∃ zz : Int32, cmpValue (FP.dcmp (0 : UInt64) y) .g = zz := ⟨_, rfl⟩
  refine g_dcmp hG X0 hx (hb hby d8_33) (pc' := 34) rfl q33 ?_
  refine g_ifNo hG X0 hx (hb hby d8_34) (pc' := 37) (by rw [← q33, c0]; rfl) rfl ?_
  refine g_iload hG X0 hx (hb hby d8_37) (pc' := 39) rfl rfl ?_
  refine g_iconst hG X0 hx (hb hby d8_39) (pc' := 40) rfl (v := (1 : Int32)) rfl ?_
  refine g_iadd hG X0 hx (hb hby d8_40) (pc' := 41) rfl (v := (1 : Int32)) (by decide) ?_
  refine g_istore hG X0 hx (hb hby d8_41) (pc' := 43) rfl (Ls' := #[.val (.ref ti), .val (.int 0), .val (.int 2), .val (.double y), .second, .val (.int 1), .val (.int 1), .val (.int 0), .val (.double 0), .second, .unset, .unset, .unset, .unset]) rfl ?_
  refine g_goto hG X0 hx (hb hby d8_43) (pc' := 109) (by decide) (by decide) ?_
  refine g_goto hG X0 hx (hb hby d8_109) (pc' := 8) (by decide) (by decide) ?_
  refine g_iload hG X0 hx (hb hby d8_8) (pc' := 10) rfl rfl ?_
  refine g_iload hG X0 hx (hb hby d8_10) (pc' := 12) rfl rfl ?_
  refine g_icmpNo hG X0 hx (hb hby d8_12) (pc' := 15) (by decide) rfl ?_
  refine g_iload hG X0 hx (hb hby d8_15) (pc' := 17) rfl rfl ?_
  refine g_iload hG X0 hx (hb hby d8_17) (pc' := 19) rfl rfl ?_
  refine g_iadd hG X0 hx (hb hby d8_19) (pc' := 20) rfl (v := (2 : Int32)) (by decide) ?_
  refine g_iconst hG X0 hx (hb hby d8_20) (pc' := 21) rfl (v := (1 : Int32)) rfl ?_
  refine g_iushr hG X0 hx (hb hby d8_21) (pc' := 22) rfl (v := (1 : Int32)) (by decide) ?_
  refine g_istore hG X0 hx (hb hby d8_22) (pc' := 24) rfl (Ls' := #[.val (.ref ti), .val (.int 0), .val (.int 2), .val (.double y), .second, .val (.int 1), .val (.int 1), .val (.int 1), .val (.double 0), .second, .unset, .unset, .unset, .unset]) rfl ?_
  refine g_aloadN hG X0 hx (hb hby d8_24) (pc' := 25) rfl rfl rfl ?_
  refine g_iload hG X0 hx (hb hby d8_25) (pc' := 27) rfl rfl ?_
  refine g_daload hG X0 hx hZ e0 V_ti (j := (1 : Int32)) (v := (.double x1)) (by decide) rfl (hb hby d8_27) (pc' := 28) rfl ?_
  refine g_dstore hG X0 hx (hb hby d8_28) (pc' := 30) rfl (Ls' := #[.val (.ref ti), .val (.int 0), .val (.int 2), .val (.double y), .second, .val (.int 1), .val (.int 1), .val (.int 1), .val (.double x1), .second, .unset, .unset, .unset, .unset]) rfl ?_
  refine g_dload hG X0 hx (hb hby d8_30) (pc' := 32) rfl rfl ?_
  refine g_dloadN hG X0 hx (hb hby d8_32) (pc' := 33) rfl rfl ?_
  obtain ⟨v33_1, q33_1⟩ : ∃ zz : Int32, cmpValue (FP.dcmp x1 y) .g = zz := ⟨_, rfl⟩
  refine g_dcmp hG X0 hx (hb hby d8_33) (pc' := 34) rfl q33_1 ?_
  refine g_ifNo hG X0 hx (hb hby d8_34) (pc' := 37) (by rw [← q33_1, c1]; rfl) rfl ?_
  refine g_iload hG X0 hx (hb hby d8_37) (pc' := 39) rfl rfl ?_
  refine g_iconst hG X0 hx (hb hby d8_39) (pc' := 40) rfl (v := (1 : Int32)) rfl ?_
  refine g_iadd hG X0 hx (hb hby d8_40) (pc' := 41) rfl (v := (2 : Int32)) (by decide) ?_
  refine g_istore hG X0 hx (hb hby d8_41) (pc' := 43) rfl (Ls' := #[.val (.ref ti), .val (.int 0), .val (.int 2), .val (.double y), .second, .val (.int 2), .val (.int 1), .val (.int 1), .val (.double x1), .second, .unset, .unset, .unset, .unset]) rfl ?_
  refine g_goto hG X0 hx (hb hby d8_43) (pc' := 109) (by decide) (by decide) ?_
  refine g_goto hG X0 hx (hb hby d8_109) (pc' := 8) (by decide) (by decide) ?_
  refine g_iload hG X0 hx (hb hby d8_8) (pc' := 10) rfl rfl ?_
  refine g_iload hG X0 hx (hb hby d8_10) (pc' := 12) rfl rfl ?_
  refine g_icmpYes hG X0 hx (hb hby d8_12) (pc' := 112) (by decide) (by decide) (by decide) ?_
  refine g_iload hG X0 hx (hb hby d8_112) (pc' := 114) rfl rfl ?_
  refine g_iconst hG X0 hx (hb hby d8_114) (pc' := 115) rfl (v := (1 : Int32)) rfl ?_
  refine g_iadd hG X0 hx (hb hby d8_115) (pc' := 116) rfl (v := (3 : Int32)) (by decide) ?_
  refine g_ineg hG X0 hx (hb hby d8_116) (pc' := 117) rfl (v := (-3 : Int32)) (by decide) ?_
  exact e_retI hGe X0 hx hrt hlk (hb hby d8_117) e0 (by decide) (by decide) (⟨rfl, NF0, rfl⟩)

def Q_rmB1B (Z : State) (ti : Addr) (x1 y : UInt64) (h0 : Heap) (n0 : Nat) (v : Option Value) (h : Heap) (L : List Loc) : Prop := v = some (.int (-3)) ∧ Fr n0 L ∧ h = h0
set_option maxRecDepth 65536 in
set_option maxHeartbeats 40000000 in
theorem rmB1B (l : Launch) (Z : State) (a0 : Array Value) (hw : ∀ d ∈ tables_1, d.before a0 Z = true) (ws : List Jvm.Cond) (ti : Addr) (x1 y : UInt64) (h0 : Heap) (n0 : Nat) (Zs : n0 ≤ h0.size) (V_ti : AV Z h0 ti .double (16 : Int32) [(.double 0), (.double x1), (.double 0), (.double 0), (.double 0), (.double 0), (.double 0), (.double 0), (.double 0), (.double 0), (.double 0), (.double 0), (.double 0), (.double 0), (.double 0), (.double 0)]) (c0 : FP.dcmp 0 y = some .lt) (c1 : FP.dcmp x1 y = some .lt) :
    Con l (⟨"java/util/Arrays", "binarySearch", "([DIID)I"⟩ : MethodName) jdk_65_method_70_code 5 (some .int) ws ({ frames := 3, cells := 0, slots := 0, locals := 64 } : Room) Z #[(.ref ti), (.int 0), (.int 2), (.double y)] h0 ({ frames := 3, cells := 0, slots := 0, locals := 64 } : Room).cells ({ frames := 3, cells := 0, slots := 0, locals := 64 } : Room).slots (Q_rmB1B Z ti x1 y h0 n0) := by
  refine Con.of (Ls := #[.val (.ref ti), .val (.int 0), .val (.int 2), .val (.double y), .second]) (plainFor_of_name (by first | (simp [plainName, overriddenIn]; done) | decide +kernel)) (fun m => by first | (simp [entryFrame, mkF, argsToLocals, Value.category]; done) | rfl) ?_
  intro p e s m below meth c s₁ G hGe hG hx hby hml hown hnm hrt hlk hZ X0 e0
  have hown : s.vm.findClass "java/util/Arrays" = some m.cls := hown
  have hnm : meth.name = "binarySearch" := hnm
  have NF0 := Fr.nil n0
  refine g_aloadN hG X0 hx (hb hby d6_0) (pc' := 1) rfl rfl rfl ?_
  refine g_arraylength hG X0 hx hZ e0 V_ti (hb hby d6_1) (pc' := 2) rfl ?_
  refine g_iloadN hG X0 hx (hb hby d6_2) (pc' := 3) rfl rfl ?_
  refine g_iloadN hG X0 hx (hb hby d6_3) (pc' := 4) rfl rfl ?_
  refine g_callS hG X0 hx hZ (y := (⟨"java/util/Arrays", "rangeCheck", "(III)V"⟩ : MethodName)) 0 hown (wd hw 47 rfl) (wd hw 48 rfl) (wd hw 45 rfl) (wd hw 49 rfl) (by decide) (rmRcB l Z a0 hw [] () h0 n0 Zs) (by decide) (by decide) (by rw [hml]; rfl) pd_2 rfl (argsL := [(.int 16), (.int 0), (.int 2)]) (rest := []) rfl rfl (Nat.le_of_eq rfl) (hb hby d6_4) e0 (by decide) (by decide) (pc' := 7) rfl ?_
  intro T1 rv1 L1 X1 hQ1
  obtain ⟨rfl, Nq1, eh1⟩ := hQ1
  have NF1 := Fr.app NF0 Nq1
  show G (T1.setTop (mkF m 7 _ []))
  refine g_aloadN hG X1 hx (hb hby d6_7) (pc' := 8) rfl rfl rfl ?_
  refine g_iloadN hG X1 hx (hb hby d6_8) (pc' := 9) rfl rfl ?_
  refine g_iloadN hG X1 hx (hb hby d6_9) (pc' := 10) rfl rfl ?_
  refine g_dloadN hG X1 hx (hb hby d6_10) (pc' := 11) rfl rfl ?_
  refine g_callS hG X1 hx hZ (y := (⟨"java/util/Arrays", "binarySearch0", "([DIID)I"⟩ : MethodName)) 0 hown (wd hw 50 rfl) (wd hw 51 rfl) (wd hw 45 rfl) (wd hw 52 rfl) (by decide) (rmB0B l Z a0 hw [] ti x1 y h0 n0 Zs V_ti c0 c1) (by decide) (by decide) (by rw [hml]; rfl) pd_3 rfl (argsL := [(.ref ti), (.int 0), (.int 2), (.double y)]) (rest := []) rfl rfl (Nat.le_of_eq rfl) (hb hby d6_11) eh1 (by decide) (by decide) (pc' := 14) rfl ?_
  intro T2 rv2 L2 X2 hQ2
  obtain ⟨rfl, Nq2, eh2⟩ := hQ2
  have NF2 := Fr.app NF1 Nq2
  show G (T2.setTop (mkF m 14 _ [(.int (-3))]))
  exact e_retI hGe X2 hx hrt hlk (hb hby d6_14) eh2 (by decide) (by decide) (⟨rfl, NF2, rfl⟩)

def Q_rmStF (Z : State) (a ti sp s0 : Addr) (cA : ClassId) (u0 : Int32)  (h0 : Heap) (n0 : Nat) (v : Option Value) (h : Heap) (L : List Loc) : Prop := v = some (.int (0)) ∧ Fr n0 L ∧ h = h0
set_option maxRecDepth 65536 in
set_option maxHeartbeats 40000000 in
theorem rmStF (l : Launch) (Z : State) (a0 : Array Value) (hw : ∀ d ∈ tables_1, d.before a0 Z = true) (ws : List Jvm.Cond) (a ti sp s0 : Addr) (cA : ClassId) (u0 : Int32)  (h0 : Heap) (n0 : Nat) (Zs : n0 ≤ h0.size) (Ex_a : Exa Z h0 a "com/example/ganttwright/ganttwright/ResourceProfile") (F_times_a : Fld Z h0 a "com/example/ganttwright/ganttwright/ResourceProfile" "times" "[D" (.ref ti)) (F_steps_a : Fld Z h0 a "com/example/ganttwright/ganttwright/ResourceProfile" "steps" "[[I" (.ref sp)) (F_count_a : Fld Z h0 a "com/example/ganttwright/ganttwright/ResourceProfile" "count" "I" (.int (1 : Int32))) (V_ti : AV Z h0 ti .double (16 : Int32) [(.double 0), (.double 0), (.double 0), (.double 0), (.double 0), (.double 0), (.double 0), (.double 0), (.double 0), (.double 0), (.double 0), (.double 0), (.double 0), (.double 0), (.double 0), (.double 0)]) (R_sp : RV Z h0 sp cA (16 : Int32) [(.ref s0), .null, .null, .null, .null, .null, .null, .null, .null, .null, .null, .null, .null, .null, .null, .null]) (V_s0 : AV Z h0 s0 .int (1 : Int32) [(.int u0)]) (Ex_s0 : Exa Z h0 s0 "[I") (n_a_ti : a ≠ ti) (n_a_sp : a ≠ sp) (n_a_s0 : a ≠ s0) (n_ti_sp : ti ≠ sp) (n_ti_s0 : ti ≠ s0) (n_sp_s0 : sp ≠ s0) (g_a : n0 ≤ a) (g_ti : n0 ≤ ti) (g_sp : n0 ≤ sp) (g_s0 : n0 ≤ s0) (Ov : OvrA Z cA .int "[I")  :
    Con l (⟨"com/example/ganttwright/ganttwright/ResourceProfile", "stepAt", "(D)I"⟩ : MethodName) prog_23_method_3_code 4 (some .int) ws ({ frames := 4, cells := 0, slots := 0, locals := 80 } : Room) Z #[(.ref a), (.double 0)] h0 ({ frames := 4, cells := 0, slots := 0, locals := 80 } : Room).cells ({ frames := 4, cells := 0, slots := 0, locals := 80 } : Room).slots (Q_rmStF Z a ti sp s0 cA u0  h0 n0) := by
  refine Con.of (Ls := #[.val (.ref a), .val (.double 0), .second, .unset]) (plainFor_of_name (by first | (simp [plainName, overriddenIn]; done) | decide +kernel)) (fun m => by first | (simp [entryFrame, mkF, argsToLocals, Value.category]; done) | rfl) ?_
  intro p e s m below meth c s₁ G hGe hG hx hby hml hown hnm hrt hlk hZ X0 e0
  have hown : s.vm.findClass "com/example/ganttwright/ganttwright/ResourceProfile" = some m.cls := hown
  have hnm : meth.name = "stepAt" := hnm
  have NF0 := Fr.nil n0
  refine g_aloadN hG X0 hx (hb hby d5_0) (pc' := 1) rfl rfl rfl ?_
  refine g_getF hG X0 hx hZ hown (wd hw 11 rfl) Via.refl e0 F_times_a (hb hby d5_1) (pc' := 4) rfl ?_
  intro T1 X1 e1
  refine g_iconst hG X1 hx (hb hby d5_4) (pc' := 5) rfl (v := (0 : Int32)) rfl ?_
  refine g_aloadN hG X1 hx (hb hby d5_5) (pc' := 6) rfl rfl rfl ?_
  refine g_getF hG X1 hx hZ hown (wd hw 17 rfl) Via.refl e1 F_count_a (hb hby d5_6) (pc' := 9) rfl ?_
  intro T2 X2 e2
  refine g_dloadN hG X2 hx (hb hby d5_9) (pc' := 10) rfl rfl ?_
  refine g_callS hG X2 hx hZ (y := (⟨"java/util/Arrays", "binarySearch", "([DIID)I"⟩ : MethodName)) 0 hown (wd hw 43 rfl) (wd hw 44 rfl) (wd hw 45 rfl) (wd hw 46 rfl) (by decide) (rmB1F l Z a0 hw [] ti  h0 n0 Zs V_ti) (by decide) (by decide) (by rw [hml]; rfl) pd_3 rfl (argsL := [(.ref ti), (.int 0), (.int 1), (.double 0)]) (rest := []) rfl rfl (Nat.le_of_eq rfl) (hb hby d5_10) e2 (by decide) (by decide) (pc' := 13) rfl ?_
  intro T3 rv3 L3 X3 hQ3
  obtain ⟨rfl, Nq3, eh3⟩ := hQ3
  have NF3 := Fr.app NF0 Nq3
  show G (T3.setTop (mkF m 13 _ [(.int 0)]))
  refine g_istoreN hG X3 hx (hb hby d5_13) (pc' := 14) rfl (Ls' := #[.val (.ref a), .val (.double 0), .second, .val (.int 0)]) rfl ?_
  refine g_iloadN hG X3 hx (hb hby d5_14) (pc' := 15) rfl rfl ?_
  refine g_ifYes hG X3 hx (hb hby d5_15) (pc' := 23) (by decide) (by decide) (by decide) ?_
  refine g_iloadN hG X3 hx (hb hby d5_23) (pc' := 24) rfl rfl ?_
  exact e_retI hGe X3 hx hrt hlk (hb hby d5_24) eh3 (by decide) (by decide) (⟨rfl, NF3, rfl⟩)

def Q_rmSpF (Z : State) (a ti sp s0 : Addr) (cA : ClassId) (u0 : Int32)  (h0 : Heap) (n0 : Nat) (v : Option Value) (h : Heap) (L : List Loc) : Prop := v = some (.int 0) ∧ Fr n0 L ∧ h = h0
set_option maxRecDepth 65536 in
set_option maxHeartbeats 40000000 in
theorem rmSpF (l : Launch) (Z : State) (a0 : Array Value) (hw : ∀ d ∈ tables_1, d.before a0 Z = true) (ws : List Jvm.Cond) (a ti sp s0 : Addr) (cA : ClassId) (u0 : Int32)  (h0 : Heap) (n0 : Nat) (Zs : n0 ≤ h0.size) (Ex_a : Exa Z h0 a "com/example/ganttwright/ganttwright/ResourceProfile") (F_times_a : Fld Z h0 a "com/example/ganttwright/ganttwright/ResourceProfile" "times" "[D" (.ref ti)) (F_steps_a : Fld Z h0 a "com/example/ganttwright/ganttwright/ResourceProfile" "steps" "[[I" (.ref sp)) (F_count_a : Fld Z h0 a "com/example/ganttwright/ganttwright/ResourceProfile" "count" "I" (.int (1 : Int32))) (V_ti : AV Z h0 ti .double (16 : Int32) [(.double 0), (.double 0), (.double 0), (.double 0), (.double 0), (.double 0), (.double 0), (.double 0), (.double 0), (.double 0), (.double 0), (.double 0), (.double 0), (.double 0), (.double 0), (.double 0)]) (R_sp : RV Z h0 sp cA (16 : Int32) [(.ref s0), .null, .null, .null, .null, .null, .null, .null, .null, .null, .null, .null, .null, .null, .null, .null]) (V_s0 : AV Z h0 s0 .int (1 : Int32) [(.int u0)]) (Ex_s0 : Exa Z h0 s0 "[I") (n_a_ti : a ≠ ti) (n_a_sp : a ≠ sp) (n_a_s0 : a ≠ s0) (n_ti_sp : ti ≠ sp) (n_ti_s0 : ti ≠ s0) (n_sp_s0 : sp ≠ s0) (g_a : n0 ≤ a) (g_ti : n0 ≤ ti) (g_sp : n0 ≤ sp) (g_s0 : n0 ≤ s0) (Ov : OvrA Z cA .int "[I")  :
    Con l (⟨"com/example/ganttwright/ganttwright/ResourceProfile", "split", "(D)I"⟩ : MethodName) prog_23_method_8_code 5 (some .int) ws ({ frames := 5, cells := 1, slots := 1, locals := 104 } : Room) Z #[(.ref a), (.double 0)] h0 ({ frames := 5, cells := 1, slots := 1, locals := 104 } : Room).cells ({ frames := 5, cells := 1, slots := 1, locals := 104 } : Room).slots (Q_rmSpF Z a ti sp s0 cA u0  h0 n0) := by
  refine Con.of (Ls := #[.val (.ref a), .val (.double 0), .second, .unset, .unset]) (plainFor_of_name (by first | (simp [plainName, overriddenIn]; done) | decide +kernel)) (fun m => by first | (simp [entryFrame, mkF, argsToLocals, Value.category]; done) | rfl) ?_
  intro p e s m below meth c s₁ G hGe hG hx hby hml hown hnm hrt hlk hZ X0 e0
  have hown : s.vm.findClass "com/example/ganttwright/ganttwright/ResourceProfile" = some m.cls := hown
  have hnm : meth.name = "split" := hnm
  have NF0 := Fr.nil n0
  have K0 := Keep.refl h0 [a, ti, sp, s0]
  refine g_aloadN hG X0 hx (hb hby d4_0) (pc' := 1) rfl rfl rfl ?_
  refine g_dloadN hG X0 hx (hb hby d4_1) (pc' := 2) rfl rfl ?_
  refine g_callV hG X0 hx hZ (y := (⟨"com/example/ganttwright/ganttwright/ResourceProfile", "stepAt", "(D)I"⟩ : MethodName)) 0 hown (wd hw 38 rfl) (wd hw 39 rfl) (wd hw 41 rfl) (wd hw 40 rfl) (wd hw 3 rfl) (wd hw 42 rfl) (by decide) (rmStF l Z a0 hw [] a ti sp s0 cA u0  h0 n0 Zs Ex_a F_times_a F_steps_a F_count_a V_ti R_sp V_s0 Ex_s0 n_a_ti n_a_sp n_a_s0 n_ti_sp n_ti_s0 n_sp_s0 g_a g_ti g_sp g_s0 Ov) (by decide) (by decide) (by rw [hml]; rfl) pd_4 rfl (argsL := [(.double 0)]) (rest := []) rfl rfl (Nat.le_of_eq rfl) (hb hby d4_2) e0 Ex_a (by decide) (by decide) (pc' := 5) rfl ?_
  intro T1 rv1 L1 X1 hQ1
  obtain ⟨rfl, Nq1, eh1⟩ := hQ1
  have NF1 := Fr.app NF0 Nq1
  show G (T1.setTop (mkF m 5 _ [(.int 0)]))
  refine g_istoreN hG X1 hx (hb hby d4_5) (pc' := 6) rfl (Ls' := #[.val (.ref a), .val (.double 0), .second, .val (.int 0), .unset]) rfl ?_
  refine g_aloadN hG X1 hx (hb hby d4_6) (pc' := 7) rfl rfl rfl ?_
  refine g_getF hG X1 hx hZ hown (wd hw 11 rfl) Via.refl eh1 F_times_a (hb hby d4_7) (pc' := 10) rfl ?_
  intro T2 X2 e2
  refine g_iloadN hG X2 hx (hb hby d4_10) (pc' := 11) rfl rfl ?_
  refine g_daload hG X2 hx hZ e2 V_ti (j := (0 : Int32)) (v := (.double 0)) (by decide) rfl (hb hby d4_11) (pc' := 12) rfl ?_
  refine g_dloadN hG X2 hx (hb hby d4_12) (pc' := 13) rfl rfl ?_
  obtain ⟨v13, q13⟩ : ∃ zz : Int32, cmpValue (FP.dcmp (0 : UInt64) (0 : UInt64)) .l = zz := ⟨_, rfl⟩
  refine g_dcmp hG X2 hx (hb hby d4_13) (pc' := 14) rfl q13 ?_
  refine g_ifNo hG X2 hx (hb hby d4_14) (pc' := 17) (by rw [← q13, own_zz]; rfl) rfl ?_
  refine g_iloadN hG X2 hx (hb hby d4_17) (pc' := 18) rfl rfl ?_
  exact e_retI hGe X2 hx hrt hlk (hb hby d4_18) e2 (by decide) (by decide) (⟨rfl, NF1, rfl⟩)

def Q_rmStA (Z : State) (a ti sp s0 : Addr) (cA : ClassId) (u0 : Int32) (y : UInt64) (h0 : Heap) (n0 : Nat) (v : Option Value) (h : Heap) (L : List Loc) : Prop := v = some (.int (0)) ∧ Fr n0 L ∧ h = h0
set_option maxRecDepth 65536 in
set_option maxHeartbeats 40000000 in
theorem rmStA (l : Launch) (Z : State) (a0 : Array Value) (hw : ∀ d ∈ tables_1, d.before a0 Z = true) (ws : List Jvm.Cond) (a ti sp s0 : Addr) (cA : ClassId) (u0 : Int32) (y : UInt64) (h0 : Heap) (n0 : Nat) (Zs : n0 ≤ h0.size) (Ex_a : Exa Z h0 a "com/example/ganttwright/ganttwright/ResourceProfile") (F_times_a : Fld Z h0 a "com/example/ganttwright/ganttwright/ResourceProfile" "times" "[D" (.ref ti)) (F_steps_a : Fld Z h0 a "com/example/ganttwright/ganttwright/ResourceProfile" "steps" "[[I" (.ref sp)) (F_count_a : Fld Z h0 a "com/example/ganttwright/ganttwright/ResourceProfile" "count" "I" (.int (1 : Int32))) (V_ti : AV Z h0 ti .double (16 : Int32) [(.double 0), (.double 0), (.double 0), (.double 0), (.double 0), (.double 0), (.double 0), (.double 0), (.double 0), (.double 0), (.double 0), (.double 0), (.double 0), (.double 0), (.double 0), (.double 0)]) (R_sp : RV Z h0 sp cA (16 : Int32) [(.ref s0), .null, .null, .null, .null, .null, .null, .null, .null, .null, .null, .null, .null, .null, .null, .null]) (V_s0 : AV Z h0 s0 .int (1 : Int32) [(.int u0)]) (Ex_s0 : Exa Z h0 s0 "[I") (n_a_ti : a ≠ ti) (n_a_sp : a ≠ sp) (n_a_s0 : a ≠ s0) (n_ti_sp : ti ≠ sp) (n_ti_s0 : ti ≠ s0) (n_sp_s0 : sp ≠ s0) (g_a : n0 ≤ a) (g_ti : n0 ≤ ti) (g_sp : n0 ≤ sp) (g_s0 : n0 ≤ s0) (Ov : OvrA Z cA .int "[I") (c0 : FP.dcmp 0 y = some .lt) :
    Con l (⟨"com/example/ganttwright/ganttwright/ResourceProfile", "stepAt", "(D)I"⟩ : MethodName) prog_23_method_3_code 4 (some .int) ws ({ frames := 4, cells := 0, slots := 0, locals := 80 } : Room) Z #[(.ref a), (.double y)] h0 ({ frames := 4, cells := 0, slots := 0, locals := 80 } : Room).cells ({ frames := 4, cells := 0, slots := 0, locals := 80 } : Room).slots (Q_rmStA Z a ti sp s0 cA u0 y h0 n0) := by
  refine Con.of (Ls := #[.val (.ref a), .val (.double y), .second, .unset]) (plainFor_of_name (by first | (simp [plainName, overriddenIn]; done) | decide +kernel)) (fun m => by first | (simp [entryFrame, mkF, argsToLocals, Value.category]; done) | rfl) ?_
  intro p e s m below meth c s₁ G hGe hG hx hby hml hown hnm hrt hlk hZ X0 e0
  have hown : s.vm.findClass "com/example/ganttwright/ganttwright/ResourceProfile" = some m.cls := hown
  have hnm : meth.name = "stepAt" := hnm
  have NF0 := Fr.nil n0
  refine g_aloadN hG X0 hx (hb hby d5_0) (pc' := 1) rfl rfl rfl ?_
  refine g_getF hG X0 hx hZ hown (wd hw 11 rfl) Via.refl e0 F_times_a (hb hby d5_1) (pc' := 4) rfl ?_
  intro T1 X1 e1
  refine g_iconst hG X1 hx (hb hby d5_4) (pc' := 5) rfl (v := (0 : Int32)) rfl ?_
  refine g_aloadN hG X1 hx (hb hby d5_5) (pc' := 6) rfl rfl rfl ?_
  refine g_getF hG X1 hx hZ hown (wd hw 17 rfl) Via.refl e1 F_count_a (hb hby d5_6) (pc' := 9) rfl ?_
  intro T2 X2 e2
  refine g_dloadN hG X2 hx (hb hby d5_9) (pc' := 10) rfl rfl ?_
  refine g_callS hG X2 hx hZ (y := (⟨"java/util/Arrays", "binarySearch", "([DIID)I"⟩ : MethodName)) 0 hown (wd hw 43 rfl) (wd hw 44 rfl) (wd hw 45 rfl) (wd hw 46 rfl) (by decide) (rmB1A l Z a0 hw [] ti y h0 n0 Zs V_ti c0) (by decide) (by decide) (by rw [hml]; rfl) pd_3 rfl (argsL := [(.ref ti), (.int 0), (.int 1), (.double y)]) (rest := []) rfl rfl (Nat.le_of_eq rfl) (hb hby d5_10) e2 (by decide) (by decide) (pc' := 13) rfl ?_
  intro T3 rv3 L3 X3 hQ3
  obtain ⟨rfl, Nq3, eh3⟩ := hQ3
  have NF3 := Fr.app NF0 Nq3
  show G (T3.setTop (mkF m 13 _ [(.int (-2))]))
  refine g_istoreN hG X3 hx (hb hby d5_13) (pc' := 14) rfl (Ls' := #[.val (.ref a), .val (.double y), .second, .val (.int (-2))]) rfl ?_
  refine g_iloadN hG X3 hx (hb hby d5_14) (pc' := 15) rfl rfl ?_
  refine g_ifNo hG X3 hx (hb hby d5_15) (pc' := 18) (by decide) rfl ?_
  refine g_iloadN hG X3 hx (hb hby d5_18) (pc' := 19) rfl rfl ?_
  refine g_ineg hG X3 hx (hb hby d5_19) (pc' := 20) rfl (v := (2 : Int32)) (by decide) ?_
  refine g_iconst hG X3 hx (hb hby d5_20) (pc' := 21) rfl (v := (2 : Int32)) rfl ?_
  refine g_isub hG X3 hx (hb hby d5_21) (pc' := 22) rfl (v := (0 : Int32)) (by decide) ?_
  refine g_istoreN hG X3 hx (hb hby d5_22) (pc' := 23) rfl (Ls' := #[.val (.ref a), .val (.double y), .second, .val (.int 0)]) rfl ?_
  refine g_iloadN hG X3 hx (hb hby d5_23) (pc' := 24) rfl rfl ?_
  exact e_retI hGe X3 hx hrt hlk (hb hby d5_24) eh3 (by decide) (by decide) (⟨rfl, NF3, rfl⟩)

def Q_rmSpA (Z : State) (a ti sp s0 : Addr) (cA : ClassId) (u0 : Int32) (y : UInt64) (h0 : Heap) (n0 : Nat) (v : Option Value) (h : Heap) (L : List Loc) : Prop := ∃ s1 : Addr, v = some (.int 1) ∧ Fr n0 L ∧ Keep h0 h [a, ti, sp, s0] ∧ h0.size ≤ s1 ∧ Exa Z h a "com/example/ganttwright/ganttwright/ResourceProfile" ∧ Fld Z h a "com/example/ganttwright/ganttwright/ResourceProfile" "times" "[D" (.ref ti) ∧ Fld Z h a "com/example/ganttwright/ganttwright/ResourceProfile" "steps" "[[I" (.ref sp) ∧ Fld Z h a "com/example/ganttwright/ganttwright/ResourceProfile" "count" "I" (.int (2 : Int32)) ∧ AV Z h ti .double (16 : Int32) [(.double 0), (.double y), (.double 0), (.double 0), (.double 0), (.double 0), (.double 0), (.double 0), (.double 0), (.double 0), (.double 0), (.double 0), (.double 0), (.double 0), (.double 0), (.double 0)] ∧ RV Z h sp cA (16 : Int32) [(.ref s0), (.ref s1), .null, .null, .null, .null, .null, .null, .null, .null, .null, .null, .null, .null, .null, .null] ∧ AV Z h s0 .int (1 : Int32) [(.int u0)] ∧ Exa Z h s0 "[I" ∧ AV Z h s1 .int (1 : Int32) [(.int u0)] ∧ Exa Z h s1 "[I"
set_option maxRecDepth 65536 in
set_option maxHeartbeats 40000000 in
theorem rmSpA (l : Launch) (Z : State) (a0 : Array Value) (hw : ∀ d ∈ tables_1, d.before a0 Z = true) (ws : List Jvm.Cond) (a ti sp s0 : Addr) (cA : ClassId) (u0 : Int32) (y : UInt64) (h0 : Heap) (n0 : Nat) (Zs : n0 ≤ h0.size) (Ex_a : Exa Z h0 a "com/example/ganttwright/ganttwright/ResourceProfile") (F_times_a : Fld Z h0 a "com/example/ganttwright/ganttwright/ResourceProfile" "times" "[D" (.ref ti)) (F_steps_a : Fld Z h0 a "com/example/ganttwright/ganttwright/ResourceProfile" "steps" "[[I" (.ref sp)) (F_count_a : Fld Z h0 a "com/example/ganttwright/ganttwright/ResourceProfile" "count" "I" (.int (1 : Int32))) (V_ti : AV Z h0 ti .double (16 : Int32) [(.double 0), (.double 0), (.double 0), (.double 0), (.double 0), (.double 0), (.double 0), (.double 0), (.double 0), (.double 0), (.double 0), (.double 0), (.double 0), (.double 0), (.double 0), (.double 0)]) (R_sp : RV Z h0 sp cA (16 : Int32) [(.ref s0), .null, .null, .null, .null, .null, .null, .null, .null, .null, .null, .null, .null, .null, .null, .null]) (V_s0 : AV Z h0 s0 .int (1 : Int32) [(.int u0)]) (Ex_s0 : Exa Z h0 s0 "[I") (n_a_ti : a ≠ ti) (n_a_sp : a ≠ sp) (n_a_s0 : a ≠ s0) (n_ti_sp : ti ≠ sp) (n_ti_s0 : ti ≠ s0) (n_sp_s0 : sp ≠ s0) (g_a : n0 ≤ a) (g_ti : n0 ≤ ti) (g_sp : n0 ≤ sp) (g_s0 : n0 ≤ s0) (Ov : OvrA Z cA .int "[I") (c0 : FP.dcmp 0 y = some .lt) :
    Con l (⟨"com/example/ganttwright/ganttwright/ResourceProfile", "split", "(D)I"⟩ : MethodName) prog_23_method_8_code 5 (some .int) ws ({ frames := 5, cells := 1, slots := 1, locals := 104 } : Room) Z #[(.ref a), (.double y)] h0 ({ frames := 5, cells := 1, slots := 1, locals := 104 } : Room).cells ({ frames := 5, cells := 1, slots := 1, locals := 104 } : Room).slots (Q_rmSpA Z a ti sp s0 cA u0 y h0 n0) := by
  refine Con.of (Ls := #[.val (.ref a), .val (.double y), .second, .unset, .unset]) (plainFor_of_name (by first | (simp [plainName, overriddenIn]; done) | decide +kernel)) (fun m => by first | (simp [entryFrame, mkF, argsToLocals, Value.category]; done) | rfl) ?_
  intro p e s m below meth c s₁ G hGe hG hx hby hml hown hnm hrt hlk hZ X0 e0
  have hown : s.vm.findClass "com/example/ganttwright/ganttwright/ResourceProfile" = some m.cls := hown
  have hnm : meth.name = "split" := hnm
  have NF0 := Fr.nil n0
  have K0 := Keep.refl h0 [a, ti, sp, s0]
  refine g_aloadN hG X0 hx (hb hby d4_0) (pc' := 1) rfl rfl rfl ?_
  refine g_dloadN hG X0 hx (hb hby d4_1) (pc' := 2) rfl rfl ?_
  refine g_callV hG X0 hx hZ (y := (⟨"com/example/ganttwright/ganttwright/ResourceProfile", "stepAt", "(D)I"⟩ : MethodName)) 0 hown (wd hw 38 rfl) (wd hw 39 rfl) (wd hw 41 rfl) (wd hw 40 rfl) (wd hw 3 rfl) (wd hw 42 rfl) (by decide) (rmStA l Z a0 hw [] a ti sp s0 cA u0 y h0 n0 Zs Ex_a F_times_a F_steps_a F_count_a V_ti R_sp V_s0 Ex_s0 n_a_ti n_a_sp n_a_s0 n_ti_sp n_ti_s0 n_sp_s0 g_a g_ti g_sp g_s0 Ov c0) (by decide) (by decide) (by rw [hml]; rfl) pd_4 rfl (argsL := [(.double y)]) (rest := []) rfl rfl (Nat.le_of_eq rfl) (hb hby d4_2) e0 Ex_a (by decide) (by decide) (pc' := 5) rfl ?_
  intro T1 rv1 L1 X1 hQ1
  obtain ⟨rfl, Nq1, eh1⟩ := hQ1
  have NF1 := Fr.app NF0 Nq1
  show G (T1.setTop (mkF m 5 _ [(.int 0)]))
  refine g_istoreN hG X1 hx (hb hby d4_5) (pc' := 6) rfl (Ls' := #[.val (.ref a), .val (.double y), .second, .val (.int 0), .unset]) rfl ?_
  refine g_aloadN hG X1 hx (hb hby d4_6) (pc' := 7) rfl rfl rfl ?_
  refine g_getF hG X1 hx hZ hown (wd hw 11 rfl) Via.refl eh1 F_times_a (hb hby d4_7) (pc' := 10) rfl ?_
  intro T2 X2 e2
  refine g_iloadN hG X2 hx (hb hby d4_10) (pc' := 11) rfl rfl ?_
  refine g_daload hG X2 hx hZ e2 V_ti (j := (0 : Int32)) (v := (.double 0)) (by decide) rfl (hb hby d4_11) (pc' := 12) rfl ?_
  refine g_dloadN hG X2 hx (hb hby d4_12) (pc' := 13) rfl rfl ?_
  obtain ⟨v13, q13⟩ : ∃ zz : Int32, cmpValue (FP.dcmp (0 : UInt64) y) .l = zz := ⟨_, rfl⟩
  refine g_dcmp hG X2 hx (hb hby d4_13) (pc' := 14) rfl q13 ?_
  refine g_ifYes hG X2 hx (hb hby d4_14) (pc' := 19) (by rw [← q13, c0]; rfl) (by decide) (by decide) ?_
  refine g_aloadN hG X2 hx (hb hby d4_19) (pc' := 20) rfl rfl rfl ?_
  refine g_getF hG X2 hx hZ hown (wd hw 17 rfl) Via.refl e2 F_count_a (hb hby d4_20) (pc' := 23) rfl ?_
  intro T3 X3 e3
  refine g_aloadN hG X3 hx (hb hby d4_23) (pc' := 24) rfl rfl rfl ?_
  refine g_getF hG X3 hx hZ hown (wd hw 11 rfl) Via.refl e3 F_times_a (hb hby d4_24) (pc' := 27) rfl ?_
  intro T4 X4 e4
  refine g_arraylength hG X4 hx hZ e4 V_ti (hb hby d4_27) (pc' := 28) rfl ?_
  refine g_icmpYes hG X4 hx (hb hby d4_28) (pc' := 68) (by decide) (by decide) (by decide) ?_
  refine g_iloadN hG X4 hx (hb hby d4_68) (pc' := 69) rfl rfl ?_
  refine g_iconst hG X4 hx (hb hby d4_69) (pc' := 70) rfl (v := (1 : Int32)) rfl ?_
  refine g_iadd hG X4 hx (hb hby d4_70) (pc' := 71) rfl (v := (1 : Int32)) (by decide) ?_
  refine g_istore hG X4 hx (hb hby d4_71) (pc' := 73) rfl (Ls' := #[.val (.ref a), .val (.double y), .second, .val (.int 0), .val (.int 1)]) rfl ?_
  refine g_aloadN hG X4 hx (hb hby d4_73) (pc' := 74) rfl rfl rfl ?_
  refine g_getF hG X4 hx hZ hown (wd hw 11 rfl) Via.refl e4 F_times_a (hb hby d4_74) (pc' := 77) rfl ?_
  intro T5 X5 e5
  refine g_iload hG X5 hx (hb hby d4_77) (pc' := 79) rfl rfl ?_
  refine g_aloadN hG X5 hx (hb hby d4_79) (pc' := 80) rfl rfl rfl ?_
  refine g_getF hG X5 hx hZ hown (wd hw 11 rfl) Via.refl e5 F_times_a (hb hby d4_80) (pc' := 83) rfl ?_
  intro T6 X6 e6
  refine g_iload hG X6 hx (hb hby d4_83) (pc' := 85) rfl rfl ?_
  refine g_iconst hG X6 hx (hb hby d4_85) (pc' := 86) rfl (v := (1 : Int32)) rfl ?_
  refine g_iadd hG X6 hx (hb hby d4_86) (pc' := 87) rfl (v := (2 : Int32)) (by decide) ?_
  refine g_aloadN hG X6 hx (hb hby d4_87) (pc' := 88) rfl rfl rfl ?_
  refine g_getF hG X6 hx hZ hown (wd hw 17 rfl) Via.refl e6 F_count_a (hb hby d4_88) (pc' := 91) rfl ?_
  intro T7 X7 e7
  refine g_iload hG X7 hx (hb hby d4_91) (pc' := 93) rfl rfl ?_
  refine g_isub hG X7 hx (hb hby d4_93) (pc' := 94) rfl (v := (0 : Int32)) (by decide) ?_
  refine g_copy hG X7 hx hZ hown (wd hw 63 rfl) (wd hw 66 rfl) (wd hw 64 rfl) (wd hw 65 rfl) e7 V_ti V_ti rfl (by decide) (by decide) (by decide) (by decide) (by decide) (vr := [(.double 0), (.double 0), (.double 0), (.double 0), (.double 0), (.double 0), (.double 0), (.double 0), (.double 0), (.double 0), (.double 0), (.double 0), (.double 0), (.double 0), (.double 0), (.double 0)]) rfl NF1 g_ti (by rw [hml]; rfl) (hb hby d4_94) (by decide) 0 (Nat.le_of_eq rfl) (by decide) (pc' := 97) rfl ?_
  intro T8 h8 L8 X8 e8 NF8 Kq8 Vn8
  have V_ti := Vn8
  have Ex_a := Ex_a.keep Kq8
  have F_times_a := F_times_a.keep Kq8 (ninS n_a_ti nin0)
  have F_steps_a := F_steps_a.keep Kq8 (ninS n_a_ti nin0)
  have F_count_a := F_count_a.keep Kq8 (ninS n_a_ti nin0)
  have R_sp := R_sp.keep Kq8 (ninS (Ne.symm n_ti_sp) nin0)
  have V_s0 := V_s0.keep Kq8 (ninS (Ne.symm n_ti_s0) nin0)
  have Ex_s0 := Ex_s0.keep Kq8
  have Zs := Nat.le_trans Zs Kq8.1
  have K8 := K0.trans Kq8 (allS (Or.inl (List.mem_of_getElem? (i := 1) rfl)) all0)
  show G (T8.setTop (mkF m 97 _ []))
  refine g_aloadN hG X8 hx (hb hby d4_97) (pc' := 98) rfl rfl rfl ?_
  refine g_getF hG X8 hx hZ hown (wd hw 15 rfl) Via.refl e8 F_steps_a (hb hby d4_98) (pc' := 101) rfl ?_
  intro T9 X9 e9
  refine g_iload hG X9 hx (hb hby d4_101) (pc' := 103) rfl rfl ?_
  refine g_aloadN hG X9 hx (hb hby d4_103) (pc' := 104) rfl rfl rfl ?_
  refine g_getF hG X9 hx hZ hown (wd hw 15 rfl) Via.refl e9 F_steps_a (hb hby d4_104) (pc' := 107) rfl ?_
  intro T10 X10 e10
  refine g_iload hG X10 hx (hb hby d4_107) (pc' := 109) rfl rfl ?_
  refine g_iconst hG X10 hx (hb hby d4_109) (pc' := 110) rfl (v := (1 : Int32)) rfl ?_
  refine g_iadd hG X10 hx (hb hby d4_110) (pc' := 111) rfl (v := (2 : Int32)) (by decide) ?_
  refine g_aloadN hG X10 hx (hb hby d4_111) (pc' := 112) rfl rfl rfl ?_
  refine g_getF hG X10 hx hZ hown (wd hw 17 rfl) Via.refl e10 F_count_a (hb hby d4_112) (pc' := 115) rfl ?_
  intro T11 X11 e11
  refine g_iload hG X11 hx (hb hby d4_115) (pc' := 117) rfl rfl ?_
  refine g_isub hG X11 hx (hb hby d4_117) (pc' := 118) rfl (v := (0 : Int32)) (by decide) ?_
  refine g_copyR0 hG X11 hx hZ hown (wd hw 63 rfl) (wd hw 66 rfl) (wd hw 64 rfl) (wd hw 65 rfl) e11 R_sp (by decide) (by decide) (by decide) (by decide) NF8 g_sp (by rw [hml]; rfl) (hb hby d4_118) (by decide) 0 (Nat.le_of_eq rfl) (by decide) (pc' := 121) rfl ?_
  intro T12 h12 L12 X12 e12 NF12 Kq12 Vn12
  have R_sp := Vn12
  have Ex_a := Ex_a.keep Kq12
  have F_times_a := F_times_a.keep Kq12 (ninS n_a_sp nin0)
  have F_steps_a := F_steps_a.keep Kq12 (ninS n_a_sp nin0)
  have F_count_a := F_count_a.keep Kq12 (ninS n_a_sp nin0)
  have V_ti := V_ti.keep Kq12 (ninS n_ti_sp nin0)
  have V_s0 := V_s0.keep Kq12 (ninS (Ne.symm n_sp_s0) nin0)
  have Ex_s0 := Ex_s0.keep Kq12
  have Zs := Nat.le_trans Zs Kq12.1
  have K12 := K8.trans Kq12 (allS (Or.inl (List.mem_of_getElem? (i := 2) rfl)) all0)
  show G (T12.setTop (mkF m 121 _ []))
  refine g_aloadN hG X12 hx (hb hby d4_121) (pc' := 122) rfl rfl rfl ?_
  refine g_getF hG X12 hx hZ hown (wd hw 11 rfl) Via.refl e12 F_times_a (hb hby d4_122) (pc' := 125) rfl ?_
  intro T13 X13 e13
  refine g_iload hG X13 hx (hb hby d4_125) (pc' := 127) rfl rfl ?_
  refine g_dloadN hG X13 hx (hb hby d4_127) (pc' := 128) rfl rfl ?_
  refine g_dastore hG X13 hx hZ e13 V_ti (j := (1 : Int32)) (by decide) (show Int32.toNatClampNeg (1 : Int32) < 16 by decide) (hb hby d4_128) (pc' := 129) rfl ?_
  intro T14 h14 X14 e14 W14 Vn14
  have V_ti : AV Z h14 ti .double (16 : Int32) [(.double 0), (.double y), (.double 0), (.double 0), (.double 0), (.double 0), (.double 0), (.double 0), (.double 0), (.double 0), (.double 0), (.double 0), (.double 0), (.double 0), (.double 0), (.double 0)] := Vn14
  have Ex_a := Ex_a.wr W14
  have F_times_a := F_times_a.other W14 (Or.inl n_a_ti)
  have F_steps_a := F_steps_a.other W14 (Or.inl n_a_ti)
  have F_count_a := F_count_a.other W14 (Or.inl n_a_ti)
  have R_sp := R_sp.other W14 (Ne.symm n_ti_sp)
  have V_s0 := V_s0.other W14 (Ne.symm n_ti_s0)
  have Ex_s0 := Ex_s0.wr W14
  have Zs := Nat.le_trans Zs (Wr.size W14)
  have NF14 := Fr.snoc X14 NF12 g_ti
  have K14 := K12.wr W14 (Or.inl (List.mem_of_getElem? (i := 1) rfl))
  refine g_aloadN hG X14 hx (hb hby d4_129) (pc' := 130) rfl rfl rfl ?_
  refine g_getF hG X14 hx hZ hown (wd hw 15 rfl) Via.refl e14 F_steps_a (hb hby d4_130) (pc' := 133) rfl ?_
  intro T15 X15 e15
  refine g_iload hG X15 hx (hb hby d4_133) (pc' := 135) rfl rfl ?_
  refine g_aloadN hG X15 hx (hb hby d4_135) (pc' := 136) rfl rfl rfl ?_
  refine g_getF hG X15 hx hZ hown (wd hw 15 rfl) Via.refl e15 F_steps_a (hb hby d4_136) (pc' := 139) rfl ?_
  intro T16 X16 e16
  refine g_iloadN hG X16 hx (hb hby d4_139) (pc' := 140) rfl rfl ?_
  refine g_aaload hG X16 hx hZ e16 R_sp (j := (0 : Int32)) (v := (.ref s0)) (by decide) rfl (hb hby d4_140) (pc' := 141) rfl ?_
  refine g_clone hG X16 hx hZ hown (wd hw 19 rfl) (wd hw 20 rfl) (wd hw 24 rfl) (wd hw 22 rfl) (wd hw 23 rfl) (wd hw 25 rfl) e16 V_s0 Ex_s0 (by rw [hml]; rfl) (hb hby d4_141) (by decide) 2 1 (Nat.le_of_eq rfl) (by decide) (by decide) (by decide) (by decide) (pc' := 144) rfl ?_
  intro T17 h17 s1 gs17 X17 e17 E17 A17 B17
  have ne_a_s1 : a ≠ s1 := Nat.ne_of_lt (gs17 ▸ Ex_a.lt)
  have ne_ti_s1 : ti ≠ s1 := Nat.ne_of_lt (gs17 ▸ V_ti.lt)
  have ne_sp_s1 : sp ≠ s1 := Nat.ne_of_lt (gs17 ▸ R_sp.lt)
  have ne_s0_s1 : s0 ≠ s1 := Nat.ne_of_lt (gs17 ▸ V_s0.lt)
  have ge_s1 : n0 ≤ s1 := gs17 ▸ Zs
  have sz_s1 : h0.size ≤ s1 := gs17 ▸ K14.1
  have Zs := Nat.le_trans Zs E17.1
  have Ex_a := Ex_a.ext E17
  have F_times_a := F_times_a.ext E17
  have F_steps_a := F_steps_a.ext E17
  have F_count_a := F_count_a.ext E17
  have V_ti := V_ti.ext E17
  have R_sp := R_sp.ext E17
  have V_s0 := V_s0.ext E17
  have Ex_s0 := Ex_s0.ext E17
  have K17 := K14.ext E17
  have V_s1 := A17
  have Ex_s1 := B17
  show G (T17.setTop (mkF m 144 _ [(.ref s1), (.int 1), (.ref sp)]))
  refine g_castY hG X17 hx hZ hown (wd hw 13 rfl) e17 (Ins.self Ex_s1) (hb hby d4_144) (pc' := 147) rfl ?_
  intro T18 X18 e18
  refine g_aastore hG X18 hx hZ e18 R_sp Ov Ex_s1 (j := (1 : Int32)) (by decide) (show Int32.toNatClampNeg (1 : Int32) < 16 by decide) (hb hby d4_147) (pc' := 148) rfl ?_
  intro T19 h19 X19 e19 W19 Vn19
  have R_sp : RV Z h19 sp cA (16 : Int32) [(.ref s0), (.ref s1), .null, .null, .null, .null, .null, .null, .null, .null, .null, .null, .null, .null, .null, .null] := Vn19
  have Ex_a := Ex_a.wr W19
  have F_times_a := F_times_a.other W19 (Or.inl n_a_sp)
  have F_steps_a := F_steps_a.other W19 (Or.inl n_a_sp)
  have F_count_a := F_count_a.other W19 (Or.inl n_a_sp)
  have V_ti := V_ti.other W19 n_ti_sp
  have V_s0 := V_s0.other W19 (Ne.symm n_sp_s0)
  have Ex_s0 := Ex_s0.wr W19
  have V_s1 := V_s1.other W19 (Ne.symm ne_sp_s1)
  have Ex_s1 := Ex_s1.wr W19
  have Zs := Nat.le_trans Zs (Wr.size W19)
  have NF19 := Fr.snoc X19 NF14 g_sp
  have K19 := K17.wr W19 (Or.inl (List.mem_of_getElem? (i := 2) rfl))
  refine g_aloadN hG X19 hx (hb hby d4_148) (pc' := 149) rfl rfl rfl ?_
  refine g_dup hG X19 hx (hb hby d4_149) (pc' := 150) rfl rfl ?_
  refine g_getF hG X19 hx hZ hown (wd hw 17 rfl) Via.refl e19 F_count_a (hb hby d4_150) (pc' := 153) rfl ?_
  intro T20 X20 e20
  refine g_iconst hG X20 hx (hb hby d4_153) (pc' := 154) rfl (v := (1 : Int32)) rfl ?_
  refine g_iadd hG X20 hx (hb hby d4_154) (pc' := 155) rfl (v := (2 : Int32)) (by decide) ?_
  refine g_putF hG X20 hx hZ hown (wd hw 17 rfl) Via.refl e20 F_count_a Ex_a (Or.inl (wd hw 18 rfl)) (wd hw 2 rfl) (v' := (.int 2)) (ty := .int) (by decide) rfl rfl (hb hby d4_155) (pc' := 158) rfl ?_
  intro T21 h21 X21 e21 W21
  have Ex_a := Ex_a.wr W21
  have F_times_a := F_times_a.other W21 (Or.inr (slot_ne (Or.inl (wd hw 12 rfl)) (Or.inl (wd hw 18 rfl)) (by decide) (t := (.array .double)) (t' := .int) (by decide) (by decide)))
  have F_steps_a := F_steps_a.other W21 (Or.inr (slot_ne (Or.inl (wd hw 16 rfl)) (Or.inl (wd hw 18 rfl)) (by decide) (t := (.array (.array .int))) (t' := .int) (by decide) (by decide)))
  have F_count_a := F_count_a.same W21
  have V_ti := V_ti.other W21 (Ne.symm n_a_ti)
  have R_sp := R_sp.other W21 (Ne.symm n_a_sp)
  have V_s0 := V_s0.other W21 (Ne.symm n_a_s0)
  have Ex_s0 := Ex_s0.wr W21
  have V_s1 := V_s1.other W21 (Ne.symm ne_a_s1)
  have Ex_s1 := Ex_s1.wr W21
  have Zs := Nat.le_trans Zs (Wr.size W21)
  have NF21 := Fr.snoc X21 NF19 g_a
  have K21 := K19.wr W21 (Or.inl (List.mem_of_getElem? (i := 0) rfl))
  refine g_iload hG X21 hx (hb hby d4_158) (pc' := 160) rfl rfl ?_
  exact e_retI hGe X21 hx hrt hlk (hb hby d4_160) e21 (by decide) (by decide) (⟨s1, rfl, NF21, K21, sz_s1, Ex_a, F_times_a, F_steps_a, F_count_a, V_ti, R_sp, V_s0, Ex_s0, V_s1, Ex_s1⟩)

def Q_rmStB (Z : State) (a ti sp s0 s1 : Addr) (cA : ClassId) (u0 u1 : Int32) (x1 y : UInt64) (h0 : Heap) (n0 : Nat) (v : Option Value) (h : Heap) (L : List Loc) : Prop := v = some (.int (1)) ∧ Fr n0 L ∧ h = h0
set_option maxRecDepth 65536 in
set_option maxHeartbeats 40000000 in
theorem rmStB (l : Launch) (Z : State) (a0 : Array Value) (hw : ∀ d ∈ tables_1, d.before a0 Z = true) (ws : List Jvm.Cond) (a ti sp s0 s1 : Addr) (cA : ClassId) (u0 u1 : Int32) (x1 y : UInt64) (h0 : Heap) (n0 : Nat) (Zs : n0 ≤ h0.size) (Ex_a : Exa Z h0 a "com/example/ganttwright/ganttwright/ResourceProfile") (F_times_a : Fld Z h0 a "com/example/ganttwright/ganttwright/ResourceProfile" "times" "[D" (.ref ti)) (F_steps_a : Fld Z h0 a "com/example/ganttwright/ganttwright/ResourceProfile" "steps" "[[I" (.ref sp)) (F_count_a : Fld Z h0 a "com/example/ganttwright/ganttwright/ResourceProfile" "count" "I" (.int (2 : Int32))) (V_ti : AV Z h0 ti .double (16 : Int32) [(.double 0), (.double x1), (.double 0), (.double 0), (.double 0), (.double 0), (.double 0), (.double 0), (.double 0), (.double 0), (.double 0), (.double 0), (.double 0), (.double 0), (.double 0), (.double 0)]) (R_sp : RV Z h0 sp cA (16 : Int32) [(.ref s0), (.ref s1), .null, .null, .null, .null, .null, .null, .null, .null, .null, .null, .null, .null, .null, .null]) (V_s0 : AV Z h0 s0 .int (1 : Int32) [(.int u0)]) (Ex_s0 : Exa Z h0 s0 "[I") (V_s1 : AV Z h0 s1 .int (1 : Int32) [(.int u1)]) (Ex_s1 : Exa Z h0 s1 "[I") (n_a_ti : a ≠ ti) (n_a_sp : a ≠ sp) (n_a_s0 : a ≠ s0) (n_a_s1 : a ≠ s1) (n_ti_sp : ti ≠ sp) (n_ti_s0 : ti ≠ s0) (n_ti_s1 : ti ≠ s1) (n_sp_s0 : sp ≠ s0) (n_sp_s1 : sp ≠ s1) (n_s0_s1 : s0 ≠ s1) (g_a : n0 ≤ a) (g_ti : n0 ≤ ti) (g_sp : n0 ≤ sp) (g_s0 : n0 ≤ s0) (g_s1 : n0 ≤ s1) (Ov : OvrA Z cA .int "[I") (c0 : FP.dcmp 0 y = some .lt) (c1 : FP.dcmp x1 y = some .lt) :
    Con l (⟨"com/example/ganttwright/ganttwright/ResourceProfile", "stepAt", "(D)I"⟩ : MethodName) prog_23_method_3_code 4 (some .int) ws ({ frames := 4, cells := 0, slots := 0, locals := 80 } : Room) Z #[(.ref a), (.double y)] h0 ({ frames := 4, cells := 0, slots := 0, locals := 80 } : Room).cells ({ frames := 4, cells := 0, slots := 0, locals := 80 } : Room).slots (Q_rmStB Z a ti sp s0 s1 cA u0 u1 x1 y h0 n0) := by
  refine Con.of (Ls := #[.val (.ref a), .val (.double y), .second, .unset]) (plainFor_of_name (by first | (simp [plainName, overriddenIn]; done) | decide +kernel)) (fun m => by first | (simp [entryFrame, mkF, argsToLocals, Value.category]; done) | rfl) ?_
  intro p e s m below meth c s₁ G hGe hG hx hby hml hown hnm hrt hlk hZ X0 e0
  have hown : s.vm.findClass "com/example/ganttwright/ganttwright/ResourceProfile" = some m.cls := hown
  have hnm : meth.name = "stepAt" := hnm
  have NF0 := Fr.nil n0
  refine g_aloadN hG X0 hx (hb hby d5_0) (pc' := 1) rfl rfl rfl ?_
  refine g_getF hG X0 hx hZ hown (wd hw 11 rfl) Via.refl e0 F_times_a (hb hby d5_1) (pc' := 4) rfl ?_
  intro T1 X1 e1
  refine g_iconst hG X1 hx (hb hby d5_4) (pc' := 5) rfl (v := (0 : Int32)) rfl ?_
  refine g_aloadN hG X1 hx (hb hby d5_5) (pc' := 6) rfl rfl rfl ?_
  refine g_getF hG X1 hx hZ hown (wd hw 17 rfl) Via.refl e1 F_count_a (hb hby d5_6) (pc' := 9) rfl ?_
  intro T2 X2 e2
  refine g_dloadN hG X2 hx (hb hby d5_9) (pc' := 10) rfl rfl ?_
  refine g_callS hG X2 hx hZ (y := (⟨"java/util/Arrays", "binarySearch", "([DIID)I"⟩ : MethodName)) 0 hown (wd hw 43 rfl) (wd hw 44 rfl) (wd hw 45 rfl) (wd hw 46 rfl) (by decide) (rmB1B l Z a0 hw [] ti x1 y h0 n0 Zs V_ti c0 c1) (by decide) (by decide) (by rw [hml]; rfl) pd_3 rfl (argsL := [(.ref ti), (.int 0), (.int 2), (.double y)]) (rest := []) rfl rfl (Nat.le_of_eq rfl) (hb hby d5_10) e2 (by decide) (by decide) (pc' := 13) rfl ?_
  intro T3 rv3 L3 X3 hQ3
  obtain ⟨rfl, Nq3, eh3⟩ := hQ3
  have NF3 := Fr.app NF0 Nq3
  show G (T3.setTop (mkF m 13 _ [(.int (-3))]))
  refine g_istoreN hG X3 hx (hb hby d5_13) (pc' := 14) rfl (Ls' := #[.val (.ref a), .val (.double y), .second, .val (.int (-3))]) rfl ?_
  refine g_iloadN hG X3 hx (hb hby d5_14) (pc' := 15) rfl rfl ?_
  refine g_ifNo hG X3 hx (hb hby d5_15) (pc' := 18) (by decide) rfl ?_
  refine g_iloadN hG X3 hx (hb hby d5_18) (pc' := 19) rfl rfl ?_
  refine g_ineg hG X3 hx (hb hby d5_19) (pc' := 20) rfl (v := (3 : Int32)) (by decide) ?_
  refine g_iconst hG X3 hx (hb hby d5_20) (pc' := 21) rfl (v := (2 : Int32)) rfl ?_
  refine g_isub hG X3 hx (hb hby d5_21) (pc' := 22) rfl (v := (1 : Int32)) (by decide) ?_
  refine g_istoreN hG X3 hx (hb hby d5_22) (pc' := 23) rfl (Ls' := #[.val (.ref a), .val (.double y), .second, .val (.int 1)]) rfl ?_
  refine g_iloadN hG X3 hx (hb hby d5_23) (pc' := 24) rfl rfl ?_
  exact e_retI hGe X3 hx hrt hlk (hb hby d5_24) eh3 (by decide) (by decide) (⟨rfl, NF3, rfl⟩)

def Q_rmSpB (Z : State) (a ti sp s0 s1 : Addr) (cA : ClassId) (u0 u1 : Int32) (x1 y : UInt64) (h0 : Heap) (n0 : Nat) (v : Option Value) (h : Heap) (L : List Loc) : Prop := ∃ s2 : Addr, v = some (.int 2) ∧ Fr n0 L ∧ Keep h0 h [a, ti, sp, s0, s1] ∧ h0.size ≤ s2 ∧ Exa Z h a "com/example/ganttwright/ganttwright/ResourceProfile" ∧ Fld Z h a "com/example/ganttwright/ganttwright/ResourceProfile" "times" "[D" (.ref ti) ∧ Fld Z h a "com/example/ganttwright/ganttwright/ResourceProfile" "steps" "[[I" (.ref sp) ∧ Fld Z h a "com/example/ganttwright/ganttwright/ResourceProfile" "count" "I" (.int (3 : Int32)) ∧ AV Z h ti .double (16 : Int32) [(.double 0), (.double x1), (.double y), (.double 0), (.double 0), (.double 0), (.double 0), (.double 0), (.double 0), (.double 0), (.double 0), (.double 0), (.double 0), (.double 0), (.double 0), (.double 0)] ∧ RV Z h sp cA (16 : Int32) [(.ref s0), (.ref s1), (.ref s2), .null, .null, .null, .null, .null, .null, .null, .null, .null, .null, .null, .null, .null] ∧ AV Z h s0 .int (1 : Int32) [(.int u0)] ∧ Exa Z h s0 "[I" ∧ AV Z h s1 .int (1 : Int32) [(.int u1)] ∧ Exa Z h s1 "[I" ∧ AV Z h s2 .int (1 : Int32) [(.int u1)] ∧ Exa Z h s2 "[I"
set_option maxRecDepth 65536 in
set_option maxHeartbeats 40000000 in
theorem rmSpB (l : Launch) (Z : State) (a0 : Array Value) (hw : ∀ d ∈ tables_1, d.before a0 Z = true) (ws : List Jvm.Cond) (a ti sp s0 s1 : Addr) (cA : ClassId) (u0 u1 : Int32) (x1 y : UInt64) (h0 : Heap) (n0 : Nat) (Zs : n0 ≤ h0.size) (Ex_a : Exa Z h0 a "com/example/ganttwright/ganttwright/ResourceProfile") (F_times_a : Fld Z h0 a "com/example/ganttwright/ganttwright/ResourceProfile" "times" "[D" (.ref ti)) (F_steps_a : Fld Z h0 a "com/example/ganttwright/ganttwright/ResourceProfile" "steps" "[[I" (.ref sp)) (F_count_a : Fld Z h0 a "com/example/ganttwright/ganttwright/ResourceProfile" "count" "I" (.int (2 : Int32))) (V_ti : AV Z h0 ti .double (16 : Int32) [(.double 0), (.double x1), (.double 0), (.double 0), (.double 0), (.double 0), (.double 0), (.double 0), (.double 0), (.double 0), (.double 0), (.double 0), (.double 0), (.double 0), (.double 0), (.double 0)]) (R_sp : RV Z h0 sp cA (16 : Int32) [(.ref s0), (.ref s1), .null, .null, .null, .null, .null, .null, .null, .null, .null, .null, .null, .null, .null, .null]) (V_s0 : AV Z h0 s0 .int (1 : Int32) [(.int u0)]) (Ex_s0 : Exa Z h0 s0 "[I") (V_s1 : AV Z h0 s1 .int (1 : Int32) [(.int u1)]) (Ex_s1 : Exa Z h0 s1 "[I") (n_a_ti : a ≠ ti) (n_a_sp : a ≠ sp) (n_a_s0 : a ≠ s0) (n_a_s1 : a ≠ s1) (n_ti_sp : ti ≠ sp) (n_ti_s0 : ti ≠ s0) (n_ti_s1 : ti ≠ s1) (n_sp_s0 : sp ≠ s0) (n_sp_s1 : sp ≠ s1) (n_s0_s1 : s0 ≠ s1) (g_a : n0 ≤ a) (g_ti : n0 ≤ ti) (g_sp : n0 ≤ sp) (g_s0 : n0 ≤ s0) (g_s1 : n0 ≤ s1) (Ov : OvrA Z cA .int "[I") (c0 : FP.dcmp 0 y = some .lt) (c1 : FP.dcmp x1 y = some .lt) :
    Con l (⟨"com/example/ganttwright/ganttwright/ResourceProfile", "split", "(D)I"⟩ : MethodName) prog_23_method_8_code 5 (some .int) ws ({ frames := 5, cells := 1, slots := 1, locals := 104 } : Room) Z #[(.ref a), (.double y)] h0 ({ frames := 5, cells := 1, slots := 1, locals := 104 } : Room).cells ({ frames := 5, cells := 1, slots := 1, locals := 104 } : Room).slots (Q_rmSpB Z a ti sp s0 s1 cA u0 u1 x1 y h0 n0) := by
  refine Con.of (Ls := #[.val (.ref a), .val (.double y), .second, .unset, .unset]) (plainFor_of_name (by first | (simp [plainName, overriddenIn]; done) | decide +kernel)) (fun m => by first | (simp [entryFrame, mkF, argsToLocals, Value.category]; done) | rfl) ?_
  intro p e s m below meth c s₁ G hGe hG hx hby hml hown hnm hrt hlk hZ X0 e0
  have hown : s.vm.findClass "com/example/ganttwright/ganttwright/ResourceProfile" = some m.cls := hown
  have hnm : meth.name = "split" := hnm
  have NF0 := Fr.nil n0
  have K0 := Keep.refl h0 [a, ti, sp, s0, s1]
  refine g_aloadN hG X0 hx (hb hby d4_0) (pc' := 1) rfl rfl rfl ?_
  refine g_dloadN hG X0 hx (hb hby d4_1) (pc' := 2) rfl rfl ?_
  refine g_callV hG X0 hx hZ (y := (⟨"com/example/ganttwright/ganttwright/ResourceProfile", "stepAt", "(D)I"⟩ : MethodName)) 0 hown (wd hw 38 rfl) (wd hw 39 rfl) (wd hw 41 rfl) (wd hw 40 rfl) (wd hw 3 rfl) (wd hw 42 rfl) (by decide) (rmStB l Z a0 hw [] a ti sp s0 s1 cA u0 u1 x1 y h0 n0 Zs Ex_a F_times_a F_steps_a F_count_a V_ti R_sp V_s0 Ex_s0 V_s1 Ex_s1 n_a_ti n_a_sp n_a_s0 n_a_s1 n_ti_sp n_ti_s0 n_ti_s1 n_sp_s0 n_sp_s1 n_s0_s1 g_a g_ti g_sp g_s0 g_s1 Ov c0 c1) (by decide) (by decide) (by rw [hml]; rfl) pd_4 rfl (argsL := [(.double y)]) (rest := []) rfl rfl (Nat.le_of_eq rfl) (hb hby d4_2) e0 Ex_a (by decide) (by decide) (pc' := 5) rfl ?_
  intro T1 rv1 L1 X1 hQ1
  obtain ⟨rfl, Nq1, eh1⟩ := hQ1
  have NF1 := Fr.app NF0 Nq1
  show G (T1.setTop (mkF m 5 _ [(.int 1)]))
  refine g_istoreN hG X1 hx (hb hby d4_5) (pc' := 6) rfl (Ls' := #[.val (.ref a), .val (.double y), .second, .val (.int 1), .unset]) rfl ?_
  refine g_aloadN hG X1 hx (hb hby d4_6) (pc' := 7) rfl rfl rfl ?_
  refine g_getF hG X1 hx hZ hown (wd hw 11 rfl) Via.refl eh1 F_times_a (hb hby d4_7) (pc' := 10) rfl ?_
  intro T2 X2 e2
  refine g_iloadN hG X2 hx (hb hby d4_10) (pc' := 11) rfl rfl ?_
  refine g_daload hG X2 hx hZ e2 V_ti (j := (1 : Int32)) (v := (.double x1)) (by decide) rfl (hb hby d4_11) (pc' := 12) rfl ?_
  refine g_dloadN hG X2 hx (hb hby d4_12) (pc' := 13) rfl rfl ?_
  obtain ⟨v13, q13⟩ : ∃ zz : Int32, cmpValue (FP.dcmp x1 y) .l = zz := ⟨_, rfl⟩
  refine g_dcmp hG X2 hx (hb hby d4_13) (pc' := 14) rfl q13 ?_
  refine g_ifYes hG X2 hx (hb hby d4_14) (pc' := 19) (by rw [← q13, c1]; rfl) (by decide) (by decide) ?_
  refine g_aloadN hG X2 hx (hb hby d4_19) (pc' := 20) rfl rfl rfl ?_
  refine g_getF hG X2 hx hZ hown (wd hw 17 rfl) Via.refl e2 F_count_a (hb hby d4_20) (pc' := 23) rfl ?_
  intro T3 X3 e3
  refine g_aloadN hG X3 hx (hb hby d4_23) (pc' := 24) rfl rfl rfl ?_
  refine g_getF hG X3 hx hZ hown (wd hw 11 rfl) Via.refl e3 F_times_a (hb hby d4_24) (pc' := 27) rfl ?_
  intro T4 X4 e4
  refine g_arraylength hG X4 hx hZ e4 V_ti (hb hby d4_27) (pc' := 28) rfl ?_
  refine g_icmpYes hG X4 hx (hb hby d4_28) (pc' := 68) (by decide) (by decide) (by decide) ?_
  refine g_iloadN hG X4 hx (hb hby d4_68) (pc' := 69) rfl rfl ?_
  refine g_iconst hG X4 hx (hb hby d4_69) (pc' := 70) rfl (v := (1 : Int32)) rfl ?_
  refine g_iadd hG X4 hx (hb hby d4_70) (pc' := 71) rfl (v := (2 : Int32)) (by decide) ?_
  refine g_istore hG X4 hx (hb hby d4_71) (pc' := 73) rfl (Ls' := #[.val (.ref a), .val (.double y), .second, .val (.int 1), .val (.int 2)]) rfl ?_
  refine g_aloadN hG X4 hx (hb hby d4_73) (pc' := 74) rfl rfl rfl ?_
  refine g_getF hG X4 hx hZ hown (wd hw 11 rfl) Via.refl e4 F_times_a (hb hby d4_74) (pc' := 77) rfl ?_
  intro T5 X5 e5
  refine g_iload hG X5 hx (hb hby d4_77) (pc' := 79) rfl rfl ?_
  refine g_aloadN hG X5 hx (hb hby d4_79) (pc' := 80) rfl rfl rfl ?_
  refine g_getF hG X5 hx hZ hown (wd hw 11 rfl) Via.refl e5 F_times_a (hb hby d4_80) (pc' := 83) rfl ?_
  intro T6 X6 e6
  refine g_iload hG X6 hx (hb hby d4_83) (pc' := 85) rfl rfl ?_
  refine g_iconst hG X6 hx (hb hby d4_85) (pc' := 86) rfl (v := (1 : Int32)) rfl ?_
  refine g_iadd hG X6 hx (hb hby d4_86) (pc' := 87) rfl (v := (3 : Int32)) (by decide) ?_
  refine g_aloadN hG X6 hx (hb hby d4_87) (pc' := 88) rfl rfl rfl ?_
  refine g_getF hG X6 hx hZ hown (wd hw 17 rfl) Via.refl e6 F_count_a (hb hby d4_88) (pc' := 91) rfl ?_
  intro T7 X7 e7
  refine g_iload hG X7 hx (hb hby d4_91) (pc' := 93) rfl rfl ?_
  refine g_isub hG X7 hx (hb hby d4_93) (pc' := 94) rfl (v := (0 : Int32)) (by decide) ?_
  refine g_copy hG X7 hx hZ hown (wd hw 63 rfl) (wd hw 66 rfl) (wd hw 64 rfl) (wd hw 65 rfl) e7 V_ti V_ti rfl (by decide) (by decide) (by decide) (by decide) (by decide) (vr := [(.double 0), (.double x1), (.double 0), (.double 0), (.double 0), (.double 0), (.double 0), (.double 0), (.double 0), (.double 0), (.double 0), (.double 0), (.double 0), (.double 0), (.double 0), (.double 0)]) rfl NF1 g_ti (by rw [hml]; rfl) (hb hby d4_94) (by decide) 0 (Nat.le_of_eq rfl) (by decide) (pc' := 97) rfl ?_
  intro T8 h8 L8 X8 e8 NF8 Kq8 Vn8
  have V_ti := Vn8
  have Ex_a := Ex_a.keep Kq8
  have F_times_a := F_times_a.keep Kq8 (ninS n_a_ti nin0)
  have F_steps_a := F_steps_a.keep Kq8 (ninS n_a_ti nin0)
  have F_count_a := F_count_a.keep Kq8 (ninS n_a_ti nin0)
  have R_sp := R_sp.keep Kq8 (ninS (Ne.symm n_ti_sp) nin0)
  have V_s0 := V_s0.keep Kq8 (ninS (Ne.symm n_ti_s0) nin0)
  have Ex_s0 := Ex_s0.keep Kq8
  have V_s1 := V_s1.keep Kq8 (ninS (Ne.symm n_ti_s1) nin0)
  have Ex_s1 := Ex_s1.keep Kq8
  have Zs := Nat.le_trans Zs Kq8.1
  have K8 := K0.trans Kq8 (allS (Or.inl (List.mem_of_getElem? (i := 1) rfl)) all0)
  show G (T8.setTop (mkF m 97 _ []))
  refine g_aloadN hG X8 hx (hb hby d4_97) (pc' := 98) rfl rfl rfl ?_
  refine g_getF hG X8 hx hZ hown (wd hw 15 rfl) Via.refl e8 F_steps_a (hb hby d4_98) (pc' := 101) rfl ?_
  intro T9 X9 e9
  refine g_iload hG X9 hx (hb hby d4_101) (pc' := 103) rfl rfl ?_
  refine g_aloadN hG X9 hx (hb hby d4_103) (pc' := 104) rfl rfl rfl ?_
  refine g_getF hG X9 hx hZ hown (wd hw 15 rfl) Via.refl e9 F_steps_a (hb hby d4_104) (pc' := 107) rfl ?_
  intro T10 X10 e10
  refine g_iload hG X10 hx (hb hby d4_107) (pc' := 109) rfl rfl ?_
  refine g_iconst hG X10 hx (hb hby d4_109) (pc' := 110) rfl (v := (1 : Int32)) rfl ?_
  refine g_iadd hG X10 hx (hb hby d4_110) (pc' := 111) rfl (v := (3 : Int32)) (by decide) ?_
  refine g_aloadN hG X10 hx (hb hby d4_111) (pc' := 112) rfl rfl rfl ?_
  refine g_getF hG X10 hx hZ hown (wd hw 17 rfl) Via.refl e10 F_count_a (hb hby d4_112) (pc' := 115) rfl ?_
  intro T11 X11 e11
  refine g_iload hG X11 hx (hb hby d4_115) (pc' := 117) rfl rfl ?_
  refine g_isub hG X11 hx (hb hby d4_117) (pc' := 118) rfl (v := (0 : Int32)) (by decide) ?_
  refine g_copyR0 hG X11 hx hZ hown (wd hw 63 rfl) (wd hw 66 rfl) (wd hw 64 rfl) (wd hw 65 rfl) e11 R_sp (by decide) (by decide) (by decide) (by decide) NF8 g_sp (by rw [hml]; rfl) (hb hby d4_118) (by decide) 0 (Nat.le_of_eq rfl) (by decide) (pc' := 121) rfl ?_
  intro T12 h12 L12 X12 e12 NF12 Kq12 Vn12
  have R_sp := Vn12
  have Ex_a := Ex_a.keep Kq12
  have F_times_a := F_times_a.keep Kq12 (ninS n_a_sp nin0)
  have F_steps_a := F_steps_a.keep Kq12 (ninS n_a_sp nin0)
  have F_count_a := F_count_a.keep Kq12 (ninS n_a_sp nin0)
  have V_ti := V_ti.keep Kq12 (ninS n_ti_sp nin0)
  have V_s0 := V_s0.keep Kq12 (ninS (Ne.symm n_sp_s0) nin0)
  have Ex_s0 := Ex_s0.keep Kq12
  have V_s1 := V_s1.keep Kq12 (ninS (Ne.symm n_sp_s1) nin0)
  have Ex_s1 := Ex_s1.keep Kq12
  have Zs := Nat.le_trans Zs Kq12.1
  have K12 := K8.trans Kq12 (allS (Or.inl (List.mem_of_getElem? (i := 2) rfl)) all0)
  show G (T12.setTop (mkF m 121 _ []))
  refine g_aloadN hG X12 hx (hb hby d4_121) (pc' := 122) rfl rfl rfl ?_
  refine g_getF hG X12 hx hZ hown (wd hw 11 rfl) Via.refl e12 F_times_a (hb hby d4_122) (pc' := 125) rfl ?_
  intro T13 X13 e13
  refine g_iload hG X13 hx (hb hby d4_125) (pc' := 127) rfl rfl ?_
  refine g_dloadN hG X13 hx (hb hby d4_127) (pc' := 128) rfl rfl ?_
  refine g_dastore hG X13 hx hZ e13 V_ti (j := (2 : Int32)) (by decide) (show Int32.toNatClampNeg (2 : Int32) < 16 by decide) (hb hby d4_128) (pc' := 129) rfl ?_
  intro T14 h14 X14 e14 W14 Vn14
  have V_ti : AV Z h14 ti .double (16 : Int32) [(.double 0), (.double x1), (.double y), (.double 0), (.double 0), (.double 0), (.double 0), (.double 0), (.double 0), (.double 0), (.double 0), (.double 0), (.double 0), (.double 0), (.double 0), (.double 0)] := Vn14
  have Ex_a := Ex_a.wr W14
  have F_times_a := F_times_a.other W14 (Or.inl n_a_ti)
  have F_steps_a := F_steps_a.other W14 (Or.inl n_a_ti)
  have F_count_a := F_count_a.other W14 (Or.inl n_a_ti)
  have R_sp := R_sp.other W14 (Ne.symm n_ti_sp)
  have V_s0 := V_s0.other W14 (Ne.symm n_ti_s0)
  have Ex_s0 := Ex_s0.wr W14
  have V_s1 := V_s1.other W14 (Ne.symm n_ti_s1)
  have Ex_s1 := Ex_s1.wr W14
  have Zs := Nat.le_trans Zs (Wr.size W14)
  have NF14 := Fr.snoc X14 NF12 g_ti
  have K14 := K12.wr W14 (Or.inl (List.mem_of_getElem? (i := 1) rfl))
  refine g_aloadN hG X14 hx (hb hby d4_129) (pc' := 130) rfl rfl rfl ?_
  refine g_getF hG X14 hx hZ hown (wd hw 15 rfl) Via.refl e14 F_steps_a (hb hby d4_130) (pc' := 133) rfl ?_
  intro T15 X15 e15
  refine g_iload hG X15 hx (hb hby d4_133) (pc' := 135) rfl rfl ?_
  refine g_aloadN hG X15 hx (hb hby d4_135) (pc' := 136) rfl rfl rfl ?_
  refine g_getF hG X15 hx hZ hown (wd hw 15 rfl) Via.refl e15 F_steps_a (hb hby d4_136) (pc' := 139) rfl ?_
  intro T16 X16 e16
  refine g_iloadN hG X16 hx (hb hby d4_139) (pc' := 140) rfl rfl ?_
  refine g_aaload hG X16 hx hZ e16 R_sp (j := (1 : Int32)) (v := (.ref s1)) (by decide) rfl (hb hby d4_140) (pc' := 141) rfl ?_
  refine g_clone hG X16 hx hZ hown (wd hw 19 rfl) (wd hw 20 rfl) (wd hw 24 rfl) (wd hw 22 rfl) (wd hw 23 rfl) (wd hw 25 rfl) e16 V_s1 Ex_s1 (by rw [hml]; rfl) (hb hby d4_141) (by decide) 2 1 (Nat.le_of_eq rfl) (by decide) (by decide) (by decide) (by decide) (pc' := 144) rfl ?_
  intro T17 h17 s2 gs17 X17 e17 E17 A17 B17
  have ne_a_s2 : a ≠ s2 := Nat.ne_of_lt (gs17 ▸ Ex_a.lt)
  have ne_ti_s2 : ti ≠ s2 := Nat.ne_of_lt (gs17 ▸ V_ti.lt)
  have ne_sp_s2 : sp ≠ s2 := Nat.ne_of_lt (gs17 ▸ R_sp.lt)
  have ne_s0_s2 : s0 ≠ s2 := Nat.ne_of_lt (gs17 ▸ V_s0.lt)
  have ne_s1_s2 : s1 ≠ s2 := Nat.ne_of_lt (gs17 ▸ V_s1.lt)
  have ge_s2 : n0 ≤ s2 := gs17 ▸ Zs
  have sz_s2 : h0.size ≤ s2 := gs17 ▸ K14.1
  have Zs := Nat.le_trans Zs E17.1
  have Ex_a := Ex_a.ext E17
  have F_times_a := F_times_a.ext E17
  have F_steps_a := F_steps_a.ext E17
  have F_count_a := F_count_a.ext E17
  have V_ti := V_ti.ext E17
  have R_sp := R_sp.ext E17
  have V_s0 := V_s0.ext E17
  have Ex_s0 := Ex_s0.ext E17
  have V_s1 := V_s1.ext E17
  have Ex_s1 := Ex_s1.ext E17
  have K17 := K14.ext E17
  have V_s2 := A17
  have Ex_s2 := B17
  show G (T17.setTop (mkF m 144 _ [(.ref s2), (.int 2), (.ref sp)]))
  refine g_castY hG X17 hx hZ hown (wd hw 13 rfl) e17 (Ins.self Ex_s2) (hb hby d4_144) (pc' := 147) rfl ?_
  intro T18 X18 e18
  refine g_aastore hG X18 hx hZ e18 R_sp Ov Ex_s2 (j := (2 : Int32)) (by decide) (show Int32.toNatClampNeg (2 : Int32) < 16 by decide) (hb hby d4_147) (pc' := 148) rfl ?_
  intro T19 h19 X19 e19 W19 Vn19
  have R_sp : RV Z h19 sp cA (16 : Int32) [(.ref s0), (.ref s1), (.ref s2), .null, .null, .null, .null, .null, .null, .null, .null, .null, .null, .null, .null, .null] := Vn19
  have Ex_a := Ex_a.wr W19
  have F_times_a := F_times_a.other W19 (Or.inl n_a_sp)
  have F_steps_a := F_steps_a.other W19 (Or.inl n_a_sp)
  have F_count_a := F_count_a.other W19 (Or.inl n_a_sp)
  have V_ti := V_ti.other W19 n_ti_sp
  have V_s0 := V_s0.other W19 (Ne.symm n_sp_s0)
  have Ex_s0 := Ex_s0.wr W19
  have V_s1 := V_s1.other W19 (Ne.symm n_sp_s1)
  have Ex_s1 := Ex_s1.wr W19
  have V_s2 := V_s2.other W19 (Ne.symm ne_sp_s2)
  have Ex_s2 := Ex_s2.wr W19
  have Zs := Nat.le_trans Zs (Wr.size W19)
  have NF19 := Fr.snoc X19 NF14 g_sp
  have K19 := K17.wr W19 (Or.inl (List.mem_of_getElem? (i := 2) rfl))
  refine g_aloadN hG X19 hx (hb hby d4_148) (pc' := 149) rfl rfl rfl ?_
  refine g_dup hG X19 hx (hb hby d4_149) (pc' := 150) rfl rfl ?_
  refine g_getF hG X19 hx hZ hown (wd hw 17 rfl) Via.refl e19 F_count_a (hb hby d4_150) (pc' := 153) rfl ?_
  intro T20 X20 e20
  refine g_iconst hG X20 hx (hb hby d4_153) (pc' := 154) rfl (v := (1 : Int32)) rfl ?_
  refine g_iadd hG X20 hx (hb hby d4_154) (pc' := 155) rfl (v := (3 : Int32)) (by decide) ?_
  refine g_putF hG X20 hx hZ hown (wd hw 17 rfl) Via.refl e20 F_count_a Ex_a (Or.inl (wd hw 18 rfl)) (wd hw 2 rfl) (v' := (.int 3)) (ty := .int) (by decide) rfl rfl (hb hby d4_155) (pc' := 158) rfl ?_
  intro T21 h21 X21 e21 W21
  have Ex_a := Ex_a.wr W21
  have F_times_a := F_times_a.other W21 (Or.inr (slot_ne (Or.inl (wd hw 12 rfl)) (Or.inl (wd hw 18 rfl)) (by decide) (t := (.array .double)) (t' := .int) (by decide) (by decide)))
  have F_steps_a := F_steps_a.other W21 (Or.inr (slot_ne (Or.inl (wd hw 16 rfl)) (Or.inl (wd hw 18 rfl)) (by decide) (t := (.array (.array .int))) (t' := .int) (by decide) (by decide)))
  have F_count_a := F_count_a.same W21
  have V_ti := V_ti.other W21 (Ne.symm n_a_ti)
  have R_sp := R_sp.other W21 (Ne.symm n_a_sp)
  have V_s0 := V_s0.other W21 (Ne.symm n_a_s0)
  have Ex_s0 := Ex_s0.wr W21
  have V_s1 := V_s1.other W21 (Ne.symm n_a_s1)
  have Ex_s1 := Ex_s1.wr W21
  have V_s2 := V_s2.other W21 (Ne.symm ne_a_s2)
  have Ex_s2 := Ex_s2.wr W21
  have Zs := Nat.le_trans Zs (Wr.size W21)
  have NF21 := Fr.snoc X21 NF19 g_a
  have K21 := K19.wr W21 (Or.inl (List.mem_of_getElem? (i := 0) rfl))
  refine g_iload hG X21 hx (hb hby d4_158) (pc' := 160) rfl rfl ?_
  exact e_retI hGe X21 hx hrt hlk (hb hby d4_160) e21 (by decide) (by decide) (⟨s2, rfl, NF21, K21, sz_s2, Ex_a, F_times_a, F_steps_a, F_count_a, V_ti, R_sp, V_s0, Ex_s0, V_s1, Ex_s1, V_s2, Ex_s2⟩)

def Q_rmLcN (Z : State) (a ti sp s0 : Addr) (cA : ClassId) (u0 : Int32) (am : Addr) (d0 : Int32) (bs be : UInt64) (h0 : Heap) (n0 : Nat) (v : Option Value) (h : Heap) (L : List Loc) : Prop := v = none ∧ Fr n0 L ∧ h = h0
set_option maxRecDepth 65536 in
set_option maxHeartbeats 40000000 in
theorem rmLcN (l : Launch) (Z : State) (a0 : Array Value) (hw : ∀ d ∈ tables_1, d.before a0 Z = true) (ws : List Jvm.Cond) (a ti sp s0 : Addr) (cA : ClassId) (u0 : Int32) (am : Addr) (d0 : Int32) (bs be : UInt64) (h0 : Heap) (n0 : Nat) (Zs : n0 ≤ h0.size) (Ex_a : Exa Z h0 a "com/example/ganttwright/ganttwright/ResourceProfile") (F_times_a : Fld Z h0 a "com/example/ganttwright/ganttwright/ResourceProfile" "times" "[D" (.ref ti)) (F_steps_a : Fld Z h0 a "com/example/ganttwright/ganttwright/ResourceProfile" "steps" "[[I" (.ref sp)) (F_count_a : Fld Z h0 a "com/example/ganttwright/ganttwright/ResourceProfile" "count" "I" (.int (1 : Int32))) (V_ti : AV Z h0 ti .double (16 : Int32) [(.double 0), (.double 0), (.double 0), (.double 0), (.double 0), (.double 0), (.double 0), (.double 0), (.double 0), (.double 0), (.double 0), (.double 0), (.double 0), (.double 0), (.double 0), (.double 0)]) (R_sp : RV Z h0 sp cA (16 : Int32) [(.ref s0), .null, .null, .null, .null, .null, .null, .null, .null, .null, .null, .null, .null, .null, .null, .null]) (V_s0 : AV Z h0 s0 .int (1 : Int32) [(.int u0)]) (Ex_s0 : Exa Z h0 s0 "[I") (n_a_ti : a ≠ ti) (n_a_sp : a ≠ sp) (n_a_s0 : a ≠ s0) (n_ti_sp : ti ≠ sp) (n_ti_s0 : ti ≠ s0) (n_sp_s0 : sp ≠ s0) (g_a : n0 ≤ a) (g_ti : n0 ≤ ti) (g_sp : n0 ≤ sp) (g_s0 : n0 ≤ s0) (Ov : OvrA Z cA .int "[I") (V_am : AV Z h0 am .int (1 : Int32) [(.int d0)]) (n_a_am : a ≠ am) (n_ti_am : ti ≠ am) (n_sp_am : sp ≠ am) (n_s0_am : s0 ≠ am) (cx : FP.dcmp be bs = some .lt ∨ FP.dcmp be bs = some .eq) :
    Con l (⟨"com/example/ganttwright/ganttwright/ResourceProfile", "place", "(DD[I)V"⟩ : MethodName) prog_23_method_6_code 10 none ws ({ frames := 6, cells := 2, slots := 2, locals := 128 } : Room) Z #[(.ref a), (.double bs), (.double be), (.ref am)] h0 ({ frames := 6, cells := 2, slots := 2, locals := 128 } : Room).cells ({ frames := 6, cells := 2, slots := 2, locals := 128 } : Room).slots (Q_rmLcN Z a ti sp s0 cA u0 am d0 bs be h0 n0) := by
  refine Con.of (Ls := #[.val (.ref a), .val (.double bs), .second, .val (.double be), .second, .val (.ref am), .unset, .unset, .unset, .unset]) (plainFor_of_name (by first | (simp [plainName, overriddenIn]; done) | decide +kernel)) (fun m => by first | (simp [entryFrame, mkF, argsToLocals, Value.category]; done) | rfl) ?_
  intro p e s m below meth c s₁ G hGe hG hx hby hml hown hnm hrt hlk hZ X0 e0
  have hown : s.vm.findClass "com/example/ganttwright/ganttwright/ResourceProfile" = some m.cls := hown
  have hnm : meth.name = "place" := hnm
  have NF0 := Fr.nil n0
  have K0 := Keep.refl h0 [a, ti, sp, s0]
  refine g_dloadN hG X0 hx (hb hby d3_0) (pc' := 1) rfl rfl ?_
  refine g_dloadN hG X0 hx (hb hby d3_1) (pc' := 2) rfl rfl ?_
  obtain ⟨v2, q2⟩ : ∃ zz : Int32, cmpValue (FP.dcmp be bs) .g = zz := ⟨_, rfl⟩
  refine g_dcmp hG X0 hx (hb hby d3_2) (pc' := 3) rfl q2 ?_
  refine g_ifNo hG X0 hx (hb hby d3_3) (pc' := 6) (by rcases cx with q | q <;> rw [← q2, q] <;> rfl) rfl ?_
  exact e_ret0 hGe X0 hx hrt hlk (hb hby d3_6) e0 (by decide) (by decide) (⟨rfl, NF0, rfl⟩)

def Q_rmLc0 (Z : State) (a ti sp s0 : Addr) (cA : ClassId) (u0 : Int32) (am : Addr) (d0 : Int32) (be : UInt64) (h0 : Heap) (n0 : Nat) (v : Option Value) (h : Heap) (L : List Loc) : Prop := v = none ∧ Fr n0 L ∧ Keep h0 h [a, ti, sp, s0] ∧ Exa Z h a "com/example/ganttwright/ganttwright/ResourceProfile" ∧ Fld Z h a "com/example/ganttwright/ganttwright/ResourceProfile" "times" "[D" (.ref ti) ∧ Fld Z h a "com/example/ganttwright/ganttwright/ResourceProfile" "steps" "[[I" (.ref sp) ∧ Fld Z h a "com/example/ganttwright/ganttwright/ResourceProfile" "count" "I" (.int (2 : Int32)) ∧ AV Z h ti .double (16 : Int32) [(.double 0), (.double be), (.double 0), (.double 0), (.double 0), (.double 0), (.double 0), (.double 0), (.double 0), (.double 0), (.double 0), (.double 0), (.double 0), (.double 0), (.double 0), (.double 0)]
set_option maxRecDepth 65536 in
set_option maxHeartbeats 40000000 in
theorem rmLc0 (l : Launch) (Z : State) (a0 : Array Value) (hw : ∀ d ∈ tables_1, d.before a0 Z = true) (ws : List Jvm.Cond) (a ti sp s0 : Addr) (cA : ClassId) (u0 : Int32) (am : Addr) (d0 : Int32) (be : UInt64) (h0 : Heap) (n0 : Nat) (Zs : n0 ≤ h0.size) (Ex_a : Exa Z h0 a "com/example/ganttwright/ganttwright/ResourceProfile") (F_times_a : Fld Z h0 a "com/example/ganttwright/ganttwright/ResourceProfile" "times" "[D" (.ref ti)) (F_steps_a : Fld Z h0 a "com/example/ganttwright/ganttwright/ResourceProfile" "steps" "[[I" (.ref sp)) (F_count_a : Fld Z h0 a "com/example/ganttwright/ganttwright/ResourceProfile" "count" "I" (.int (1 : Int32))) (V_ti : AV Z h0 ti .double (16 : Int32) [(.double 0), (.double 0), (.double 0), (.double 0), (.double 0), (.double 0), (.double 0), (.double 0), (.double 0), (.double 0), (.double 0), (.double 0), (.double 0), (.double 0), (.double 0), (.double 0)]) (R_sp : RV Z h0 sp cA (16 : Int32) [(.ref s0), .null, .null, .null, .null, .null, .null, .null, .null, .null, .null, .null, .null, .null, .null, .null]) (V_s0 : AV Z h0 s0 .int (1 : Int32) [(.int u0)]) (Ex_s0 : Exa Z h0 s0 "[I") (n_a_ti : a ≠ ti) (n_a_sp : a ≠ sp) (n_a_s0 : a ≠ s0) (n_ti_sp : ti ≠ sp) (n_ti_s0 : ti ≠ s0) (n_sp_s0 : sp ≠ s0) (g_a : n0 ≤ a) (g_ti : n0 ≤ ti) (g_sp : n0 ≤ sp) (g_s0 : n0 ≤ s0) (Ov : OvrA Z cA .int "[I") (V_am : AV Z h0 am .int (1 : Int32) [(.int d0)]) (n_a_am : a ≠ am) (n_ti_am : ti ≠ am) (n_sp_am : sp ≠ am) (n_s0_am : s0 ≠ am) (cx : FP.dcmp be 0 = some .gt) (c0e : FP.dcmp 0 be = some .lt) :
    Con l (⟨"com/example/ganttwright/ganttwright/ResourceProfile", "place", "(DD[I)V"⟩ : MethodName) prog_23_method_6_code 10 none ws ({ frames := 6, cells := 2, slots := 2, locals := 128 } : Room) Z #[(.ref a), (.double 0), (.double be), (.ref am)] h0 ({ frames := 6, cells := 2, slots := 2, locals := 128 } : Room).cells ({ frames := 6, cells := 2, slots := 2, locals := 128 } : Room).slots (Q_rmLc0 Z a ti sp s0 cA u0 am d0 be h0 n0) := by
  refine Con.of (Ls := #[.val (.ref a), .val (.double 0), .second, .val (.double be), .second, .val (.ref am), .unset, .unset, .unset, .unset]) (plainFor_of_name (by first | (simp [plainName, overriddenIn]; done) | decide +kernel)) (fun m => by first | (simp [entryFrame, mkF, argsToLocals, Value.category]; done) | rfl) ?_
  intro p e s m below meth c s₁ G hGe hG hx hby hml hown hnm hrt hlk hZ X0 e0
  have hown : s.vm.findClass "com/example/ganttwright/ganttwright/ResourceProfile" = some m.cls := hown
  have hnm : meth.name = "place" := hnm
  have NF0 := Fr.nil n0
  have K0 := Keep.refl h0 [a, ti, sp, s0]
  refine g_dloadN hG X0 hx (hb hby d3_0) (pc' := 1) rfl rfl ?_
  refine g_dloadN hG X0 hx (hb hby d3_1) (pc' := 2) rfl rfl ?_
  obtain ⟨v2, q2⟩ : ∃ zz : Int32, cmpValue (FP.dcmp be (0 : UInt64)) .g = zz := ⟨_, rfl⟩
  refine g_dcmp hG X0 hx (hb hby d3_2) (pc' := 3) rfl q2 ?_
  refine g_ifYes hG X0 hx (hb hby d3_3) (pc' := 7) (by rw [← q2, cx]; rfl) (by decide) (by decide) ?_
  refine g_aloadN hG X0 hx (hb hby d3_7) (pc' := 8) rfl rfl rfl ?_
  refine g_dloadN hG X0 hx (hb hby d3_8) (pc' := 9) rfl rfl ?_
  refine g_callP hG X0 hx hZ (y := (⟨"com/example/ganttwright/ganttwright/ResourceProfile", "split", "(D)I"⟩ : MethodName)) 0 hown (wd hw 34 rfl) (wd hw 35 rfl) (wd hw 2 rfl) (wd hw 36 rfl) (wd hw 3 rfl) (wd hw 37 rfl) (by decide) (rmSpF l Z a0 hw [] a ti sp s0 cA u0 h0 n0 Zs Ex_a F_times_a F_steps_a F_count_a V_ti R_sp V_s0 Ex_s0 n_a_ti n_a_sp n_a_s0 n_ti_sp n_ti_s0 n_sp_s0 g_a g_ti g_sp g_s0 Ov) (by decide) (by decide) (by rw [hml]; rfl) pd_4 rfl (argsL := [(.double 0)]) (rest := []) rfl rfl (Nat.le_of_eq rfl) (hb hby d3_9) e0 Ex_a (by decide) (by decide) (pc' := 12) rfl ?_
  intro T1 rv1 L1 X1 hQ1
  obtain ⟨rfl, Nq1, eh1⟩ := hQ1
  have NF1 := Fr.app NF0 Nq1
  show G (T1.setTop (mkF m 12 _ [(.int 0)]))
  refine g_istore hG X1 hx (hb hby d3_12) (pc' := 14) rfl (Ls' := #[.val (.ref a), .val (.double 0), .second, .val (.double be), .second, .val (.ref am), .val (.int 0), .unset, .unset, .unset]) rfl ?_
  refine g_aloadN hG X1 hx (hb hby d3_14) (pc' := 15) rfl rfl rfl ?_
  refine g_dloadN hG X1 hx (hb hby d3_15) (pc' := 16) rfl rfl ?_
  have lt_a := Ex_a.lt
  have lt_ti := V_ti.lt
  have lt_sp := R_sp.lt
  have lt_s0 := V_s0.lt
  refine g_callP hG X1 hx hZ (y := (⟨"com/example/ganttwright/ganttwright/ResourceProfile", "split", "(D)I"⟩ : MethodName)) 0 hown (wd hw 34 rfl) (wd hw 35 rfl) (wd hw 2 rfl) (wd hw 36 rfl) (wd hw 3 rfl) (wd hw 37 rfl) (by decide) (rmSpA l Z a0 hw [] a ti sp s0 cA u0 be h0 n0 Zs Ex_a F_times_a F_steps_a F_count_a V_ti R_sp V_s0 Ex_s0 n_a_ti n_a_sp n_a_s0 n_ti_sp n_ti_s0 n_sp_s0 g_a g_ti g_sp g_s0 Ov c0e) (by decide) (by decide) (by rw [hml]; rfl) pd_4 rfl (argsL := [(.double be)]) (rest := []) rfl rfl (Nat.le_of_eq rfl) (hb hby d3_16) eh1 Ex_a (by decide) (by decide) (pc' := 19) rfl ?_
  intro T2 rv2 L2 X2 hQ2
  obtain ⟨s1, rfl, Nq2, Kq2, szq2, Ex_a, F_times_a, F_steps_a, F_count_a, V_ti, R_sp, V_s0, Ex_s0, V_s1, Ex_s1⟩ := hQ2
  have NF2 := Fr.app NF1 Nq2
  have n_a_s1 : a ≠ s1 := Nat.ne_of_lt (Nat.lt_of_lt_of_le lt_a szq2)
  have n_ti_s1 : ti ≠ s1 := Nat.ne_of_lt (Nat.lt_of_lt_of_le lt_ti szq2)
  have n_sp_s1 : sp ≠ s1 := Nat.ne_of_lt (Nat.lt_of_lt_of_le lt_sp szq2)
  have n_s0_s1 : s0 ≠ s1 := Nat.ne_of_lt (Nat.lt_of_lt_of_le lt_s0 szq2)
  have n_am_s1 : am ≠ s1 := Nat.ne_of_lt (Nat.lt_of_lt_of_le V_am.lt szq2)
  have g_s1 : n0 ≤ s1 := Nat.le_trans Zs szq2
  have sz_s1 : h0.size ≤ s1 := Nat.le_trans K0.1 szq2
  have V_am := V_am.keep Kq2 (ninS (Ne.symm n_a_am) (ninS (Ne.symm n_ti_am) (ninS (Ne.symm n_sp_am) (ninS (Ne.symm n_s0_am) nin0))))
  have Zs := Nat.le_trans Zs Kq2.1
  have K2 := K0.trans Kq2 (allS (Or.inl (List.mem_of_getElem? (i := 0) rfl)) (allS (Or.inl (List.mem_of_getElem? (i := 1) rfl)) (allS (Or.inl (List.mem_of_getElem? (i := 2) rfl)) (allS (Or.inl (List.mem_of_getElem? (i := 3) rfl)) all0))))
  show G (T2.setTop (mkF m 19 _ [(.int 1)]))
  refine g_istore hG X2 hx (hb hby d3_19) (pc' := 21) rfl (Ls' := #[.val (.ref a), .val (.double 0), .second, .val (.double be), .second, .val (.ref am), .val (.int 0), .val (.int 1), .unset, .unset]) rfl ?_
  refine g_iload hG X2 hx (hb hby d3_21) (pc' := 23) rfl rfl ?_
  refine g_istore hG X2 hx (hb hby d3_23) (pc' := 25) rfl (Ls' := #[.val (.ref a), .val (.double 0), .second, .val (.double be), .second, .val (.ref am), .val (.int 0), .val (.int 1), .val (.int 0), .unset]) rfl ?_
  refine g_iload hG X2 hx (hb hby d3_25) (pc' := 27) rfl rfl ?_
  refine g_iload hG X2 hx (hb hby d3_27) (pc' := 29) rfl rfl ?_
  refine g_icmpNo hG X2 hx (hb hby d3_29) (pc' := 32) (by decide) rfl ?_
  refine g_iconst hG X2 hx (hb hby d3_32) (pc' := 33) rfl (v := (0 : Int32)) rfl ?_
  refine g_istore hG X2 hx (hb hby d3_33) (pc' := 35) rfl (Ls' := #[.val (.ref a), .val (.double 0), .second, .val (.double be), .second, .val (.ref am), .val (.int 0), .val (.int 1), .val (.int 0), .val (.int 0)]) rfl ?_
  refine g_iload hG X2 hx (hb hby d3_35) (pc' := 37) rfl rfl ?_
  refine g_aload hG X2 hx (hb hby d3_37) (pc' := 39) rfl rfl rfl ?_
  refine g_arraylength hG X2 hx hZ rfl V_am (hb hby d3_39) (pc' := 40) rfl ?_
  refine g_icmpNo hG X2 hx (hb hby d3_40) (pc' := 43) (by decide) rfl ?_
  refine g_aloadN hG X2 hx (hb hby d3_43) (pc' := 44) rfl rfl rfl ?_
  refine g_getF hG X2 hx hZ hown (wd hw 15 rfl) Via.refl rfl F_steps_a (hb hby d3_44) (pc' := 47) rfl ?_
  intro T3 X3 e3
  refine g_iload hG X3 hx (hb hby d3_47) (pc' := 49) rfl rfl ?_
  refine g_aaload hG X3 hx hZ e3 R_sp (j := (0 : Int32)) (v := (.ref s0)) (by decide) rfl (hb hby d3_49) (pc' := 50) rfl ?_
  refine g_iload hG X3 hx (hb hby d3_50) (pc' := 52) rfl rfl ?_
  refine g_dup2 hG X3 hx (hb hby d3_52) (pc' := 53) rfl rfl rfl ?_
  refine g_iaload hG X3 hx hZ e3 V_s0 (j := (0 : Int32)) (v := (.int u0)) (by decide) rfl (hb hby d3_53) (pc' := 54) rfl ?_
  refine g_aload hG X3 hx (hb hby d3_54) (pc' := 56) rfl rfl rfl ?_
  refine g_iload hG X3 hx (hb hby d3_56) (pc' := 58) rfl rfl ?_
  refine g_iaload hG X3 hx hZ e3 V_am (j := (0 : Int32)) (v := (.int d0)) (by decide) rfl (hb hby d3_58) (pc' := 59) rfl ?_
  obtain ⟨v59, q59⟩ : ∃ zz : Int32, u0 + d0 = zz := ⟨_, rfl⟩
  refine g_iadd hG X3 hx (hb hby d3_59) (pc' := 60) rfl q59 ?_
  refine g_iastore hG X3 hx hZ e3 V_s0 (j := (0 : Int32)) (by decide) (show Int32.toNatClampNeg (0 : Int32) < 1 by decide) (hb hby d3_60) (pc' := 61) rfl ?_
  intro T4 h4 X4 e4 W4 Vn4
  have V_s0 : AV Z h4 s0 .int (1 : Int32) [(.int v59)] := Vn4
  have Ex_a := Ex_a.wr W4
  have F_times_a := F_times_a.other W4 (Or.inl n_a_s0)
  have F_steps_a := F_steps_a.other W4 (Or.inl n_a_s0)
  have F_count_a := F_count_a.other W4 (Or.inl n_a_s0)
  have V_ti := V_ti.other W4 n_ti_s0
  have R_sp := R_sp.other W4 n_sp_s0
  have Ex_s0 := Ex_s0.wr W4
  have V_am := V_am.other W4 (Ne.symm n_s0_am)
  have V_s1 := V_s1.other W4 (Ne.symm n_s0_s1)
  have Ex_s1 := Ex_s1.wr W4
  have Zs := Nat.le_trans Zs (Wr.size W4)
  have NF4 := Fr.snoc X4 NF2 g_s0
  have K4 := K2.wr W4 (Or.inl (List.mem_of_getElem? (i := 3) rfl))
  refine g_iinc hG X4 hx (hb hby d3_61) (pc' := 64) rfl rfl (v := (1 : Int32)) (by decide) (Ls' := #[.val (.ref a), .val (.double 0), .second, .val (.double be), .second, .val (.ref am), .val (.int 0), .val (.int 1), .val (.int 0), .val (.int 1)]) rfl ?_
  refine g_goto hG X4 hx (hb hby d3_64) (pc' := 35) (by decide) (by decide) ?_
  refine g_iload hG X4 hx (hb hby d3_35) (pc' := 37) rfl rfl ?_
  refine g_aload hG X4 hx (hb hby d3_37) (pc' := 39) rfl rfl rfl ?_
  refine g_arraylength hG X4 hx hZ e4 V_am (hb hby d3_39) (pc' := 40) rfl ?_
  refine g_icmpYes hG X4 hx (hb hby d3_40) (pc' := 67) (by decide) (by decide) (by decide) ?_
  refine g_iinc hG X4 hx (hb hby d3_67) (pc' := 70) rfl rfl (v := (1 : Int32)) (by decide) (Ls' := #[.val (.ref a), .val (.double 0), .second, .val (.double be), .second, .val (.ref am), .val (.int 0), .val (.int 1), .val (.int 1), .val (.int 1)]) rfl ?_
  refine g_goto hG X4 hx (hb hby d3_70) (pc' := 25) (by decide) (by decide) ?_
  refine g_iload hG X4 hx (hb hby d3_25) (pc' := 27) rfl rfl ?_
  refine g_iload hG X4 hx (hb hby d3_27) (pc' := 29) rfl rfl ?_
  refine g_icmpYes hG X4 hx (hb hby d3_29) (pc' := 73) (by decide) (by decide) (by decide) ?_
  exact e_ret0 hGe X4 hx hrt hlk (hb hby d3_73) e4 (by decide) (by decide) (⟨rfl, NF4, K4, Ex_a, F_times_a, F_steps_a, F_count_a, V_ti⟩)

def Q_rmLc1 (Z : State) (a ti sp s0 : Addr) (cA : ClassId) (u0 : Int32) (am : Addr) (d0 : Int32) (bs be : UInt64) (h0 : Heap) (n0 : Nat) (v : Option Value) (h : Heap) (L : List Loc) : Prop := v = none ∧ Fr n0 L ∧ Keep h0 h [a, ti, sp, s0] ∧ Exa Z h a "com/example/ganttwright/ganttwright/ResourceProfile" ∧ Fld Z h a "com/example/ganttwright/ganttwright/ResourceProfile" "times" "[D" (.ref ti) ∧ Fld Z h a "com/example/ganttwright/ganttwright/ResourceProfile" "steps" "[[I" (.ref sp) ∧ Fld Z h a "com/example/ganttwright/ganttwright/ResourceProfile" "count" "I" (.int (3 : Int32)) ∧ AV Z h ti .double (16 : Int32) [(.double 0), (.double bs), (.double be), (.double 0), (.double 0), (.double 0), (.double 0), (.double 0), (.double 0), (.double 0), (.double 0), (.double 0), (.double 0), (.double 0), (.double 0), (.double 0)]
set_option maxRecDepth 65536 in
set_option maxHeartbeats 40000000 in
theorem rmLc1 (l : Launch) (Z : State) (a0 : Array Value) (hw : ∀ d ∈ tables_1, d.before a0 Z = true) (ws : List Jvm.Cond) (a ti sp s0 : Addr) (cA : ClassId) (u0 : Int32) (am : Addr) (d0 : Int32) (bs be : UInt64) (h0 : Heap) (n0 : Nat) (Zs : n0 ≤ h0.size) (Ex_a : Exa Z h0 a "com/example/ganttwright/ganttwright/ResourceProfile") (F_times_a : Fld Z h0 a "com/example/ganttwright/ganttwright/ResourceProfile" "times" "[D" (.ref ti)) (F_steps_a : Fld Z h0 a "com/example/ganttwright/ganttwright/ResourceProfile" "steps" "[[I" (.ref sp)) (F_count_a : Fld Z h0 a "com/example/ganttwright/ganttwright/ResourceProfile" "count" "I" (.int (1 : Int32))) (V_ti : AV Z h0 ti .double (16 : Int32) [(.double 0), (.double 0), (.double 0), (.double 0), (.double 0), (.double 0), (.double 0), (.double 0), (.double 0), (.double 0), (.double 0), (.double 0), (.double 0), (.double 0), (.double 0), (.double 0)]) (R_sp : RV Z h0 sp cA (16 : Int32) [(.ref s0), .null, .null, .null, .null, .null, .null, .null, .null, .null, .null, .null, .null, .null, .null, .null]) (V_s0 : AV Z h0 s0 .int (1 : Int32) [(.int u0)]) (Ex_s0 : Exa Z h0 s0 "[I") (n_a_ti : a ≠ ti) (n_a_sp : a ≠ sp) (n_a_s0 : a ≠ s0) (n_ti_sp : ti ≠ sp) (n_ti_s0 : ti ≠ s0) (n_sp_s0 : sp ≠ s0) (g_a : n0 ≤ a) (g_ti : n0 ≤ ti) (g_sp : n0 ≤ sp) (g_s0 : n0 ≤ s0) (Ov : OvrA Z cA .int "[I") (V_am : AV Z h0 am .int (1 : Int32) [(.int d0)]) (n_a_am : a ≠ am) (n_ti_am : ti ≠ am) (n_sp_am : sp ≠ am) (n_s0_am : s0 ≠ am) (cx : FP.dcmp be bs = some .gt) (cx' : FP.dcmp bs be = some .lt) (c0s : FP.dcmp 0 bs = some .lt) (c0e : FP.dcmp 0 be = some .lt) :
    Con l (⟨"com/example/ganttwright/ganttwright/ResourceProfile", "place", "(DD[I)V"⟩ : MethodName) prog_23_method_6_code 10 none ws ({ frames := 6, cells := 2, slots := 2, locals := 128 } : Room) Z #[(.ref a), (.double bs), (.double be), (.ref am)] h0 ({ frames := 6, cells := 2, slots := 2, locals := 128 } : Room).cells ({ frames := 6, cells := 2, slots := 2, locals := 128 } : Room).slots (Q_rmLc1 Z a ti sp s0 cA u0 am d0 bs be h0 n0) := by
  refine Con.of (Ls := #[.val (.ref a), .val (.double bs), .second, .val (.double be), .second, .val (.ref am), .unset, .unset, .unset, .unset]) (plainFor_of_name (by first | (simp [plainName, overriddenIn]; done) | decide +kernel)) (fun m => by first | (simp [entryFrame, mkF, argsToLocals, Value.category]; done) | rfl) ?_
  intro p e s m below meth c s₁ G hGe hG hx hby hml hown hnm hrt hlk hZ X0 e0
  have hown : s.vm.findClass "com/example/ganttwright/ganttwright/ResourceProfile" = some m.cls := hown
  have hnm : meth.name = "place" := hnm
  have NF0 := Fr.nil n0
  have K0 := Keep.refl h0 [a, ti, sp, s0]
  refine g_dloadN hG X0 hx (hb hby d3_0) (pc' := 1) rfl rfl ?_
  refine g_dloadN hG X0 hx (hb hby d3_1) (pc' := 2) rfl rfl ?_
  obtain ⟨v2, q2⟩ : ∃ zz : Int32, cmpValue (FP.dcmp be bs) .g = zz := ⟨_, rfl⟩
  refine g_dcmp hG X0 hx (hb hby d3_2) (pc' := 3) rfl q2 ?_
  refine g_ifYes hG X0 hx (hb hby d3_3) (pc' := 7) (by rw [← q2, cx]; rfl) (by decide) (by decide) ?_
  refine g_aloadN hG X0 hx (hb hby d3_7) (pc' := 8) rfl rfl rfl ?_
  refine g_dloadN hG X0 hx (hb hby d3_8) (pc' := 9) rfl rfl ?_
  have lt_a := Ex_a.lt
  have lt_ti := V_ti.lt
  have lt_sp := R_sp.lt
  have lt_s0 := V_s0.lt
  refine g_callP hG X0 hx hZ (y := (⟨"com/example/ganttwright/ganttwright/ResourceProfile", "split", "(D)I"⟩ : MethodName)) 0 hown (wd hw 34 rfl) (wd hw 35 rfl) (wd hw 2 rfl) (wd hw 36 rfl) (wd hw 3 rfl) (wd hw 37 rfl) (by decide) (rmSpA l Z a0 hw [] a ti sp s0 cA u0 bs h0 n0 Zs Ex_a F_times_a F_steps_a F_count_a V_ti R_sp V_s0 Ex_s0 n_a_ti n_a_sp n_a_s0 n_ti_sp n_ti_s0 n_sp_s0 g_a g_ti g_sp g_s0 Ov c0s) (by decide) (by decide) (by rw [hml]; rfl) pd_4 rfl (argsL := [(.double bs)]) (rest := []) rfl rfl (Nat.le_of_eq rfl) (hb hby d3_9) e0 Ex_a (by decide) (by decide) (pc' := 12) rfl ?_
  intro T1 rv1 L1 X1 hQ1
  obtain ⟨s1, rfl, Nq1, Kq1, szq1, Ex_a, F_times_a, F_steps_a, F_count_a, V_ti, R_sp, V_s0, Ex_s0, V_s1, Ex_s1⟩ := hQ1
  have NF1 := Fr.app NF0 Nq1
  have n_a_s1 : a ≠ s1 := Nat.ne_of_lt (Nat.lt_of_lt_of_le lt_a szq1)
  have n_ti_s1 : ti ≠ s1 := Nat.ne_of_lt (Nat.lt_of_lt_of_le lt_ti szq1)
  have n_sp_s1 : sp ≠ s1 := Nat.ne_of_lt (Nat.lt_of_lt_of_le lt_sp szq1)
  have n_s0_s1 : s0 ≠ s1 := Nat.ne_of_lt (Nat.lt_of_lt_of_le lt_s0 szq1)
  have n_am_s1 : am ≠ s1 := Nat.ne_of_lt (Nat.lt_of_lt_of_le V_am.lt szq1)
  have g_s1 : n0 ≤ s1 := Nat.le_trans Zs szq1
  have sz_s1 : h0.size ≤ s1 := Nat.le_trans K0.1 szq1
  have V_am := V_am.keep Kq1 (ninS (Ne.symm n_a_am) (ninS (Ne.symm n_ti_am) (ninS (Ne.symm n_sp_am) (ninS (Ne.symm n_s0_am) nin0))))
  have Zs := Nat.le_trans Zs Kq1.1
  have K1 := K0.trans Kq1 (allS (Or.inl (List.mem_of_getElem? (i := 0) rfl)) (allS (Or.inl (List.mem_of_getElem? (i := 1) rfl)) (allS (Or.inl (List.mem_of_getElem? (i := 2) rfl)) (allS (Or.inl (List.mem_of_getElem? (i := 3) rfl)) all0))))
  show G (T1.setTop (mkF m 12 _ [(.int 1)]))
  refine g_istore hG X1 hx (hb hby d3_12) (pc' := 14) rfl (Ls' := #[.val (.ref a), .val (.double bs), .second, .val (.double be), .second, .val (.ref am), .val (.int 1), .unset, .unset, .unset]) rfl ?_
  refine g_aloadN hG X1 hx (hb hby d3_14) (pc' := 15) rfl rfl rfl ?_
  refine g_dloadN hG X1 hx (hb hby d3_15) (pc' := 16) rfl rfl ?_
  have lt_a := Ex_a.lt
  have lt_ti := V_ti.lt
  have lt_sp := R_sp.lt
  have lt_s0 := V_s0.lt
  have lt_s1 := V_s1.lt
  refine g_callP hG X1 hx hZ (y := (⟨"com/example/ganttwright/ganttwright/ResourceProfile", "split", "(D)I"⟩ : MethodName)) 0 hown (wd hw 34 rfl) (wd hw 35 rfl) (wd hw 2 rfl) (wd hw 36 rfl) (wd hw 3 rfl) (wd hw 37 rfl) (by decide) (rmSpB l Z a0 hw [] a ti sp s0 s1 cA u0 u0 bs be T1.heap n0 Zs Ex_a F_times_a F_steps_a F_count_a V_ti R_sp V_s0 Ex_s0 V_s1 Ex_s1 n_a_ti n_a_sp n_a_s0 n_a_s1 n_ti_sp n_ti_s0 n_ti_s1 n_sp_s0 n_sp_s1 n_s0_s1 g_a g_ti g_sp g_s0 g_s1 Ov c0e cx') (by decide) (by decide) (by rw [hml]; rfl) pd_4 rfl (argsL := [(.double be)]) (rest := []) rfl rfl (Nat.le_of_eq rfl) (hb hby d3_16) rfl Ex_a (by decide) (by decide) (pc' := 19) rfl ?_
  intro T2 rv2 L2 X2 hQ2
  obtain ⟨s2, rfl, Nq2, Kq2, szq2, Ex_a, F_times_a, F_steps_a, F_count_a, V_ti, R_sp, V_s0, Ex_s0, V_s1, Ex_s1, V_s2, Ex_s2⟩ := hQ2
  have NF2 := Fr.app NF1 Nq2
  have n_a_s2 : a ≠ s2 := Nat.ne_of_lt (Nat.lt_of_lt_of_le lt_a szq2)
  have n_ti_s2 : ti ≠ s2 := Nat.ne_of_lt (Nat.lt_of_lt_of_le lt_ti szq2)
  have n_sp_s2 : sp ≠ s2 := Nat.ne_of_lt (Nat.lt_of_lt_of_le lt_sp szq2)
  have n_s0_s2 : s0 ≠ s2 := Nat.ne_of_lt (Nat.lt_of_lt_of_le lt_s0 szq2)
  have n_s1_s2 : s1 ≠ s2 := Nat.ne_of_lt (Nat.lt_of_lt_of_le lt_s1 szq2)
  have n_am_s2 : am ≠ s2 := Nat.ne_of_lt (Nat.lt_of_lt_of_le V_am.lt szq2)
  have g_s2 : n0 ≤ s2 := Nat.le_trans Zs szq2
  have sz_s2 : h0.size ≤ s2 := Nat.le_trans K1.1 szq2
  have V_am := V_am.keep Kq2 (ninS (Ne.symm n_a_am) (ninS (Ne.symm n_ti_am) (ninS (Ne.symm n_sp_am) (ninS (Ne.symm n_s0_am) (ninS n_am_s1 nin0)))))
  have Zs := Nat.le_trans Zs Kq2.1
  have K2 := K1.trans Kq2 (allS (Or.inl (List.mem_of_getElem? (i := 0) rfl)) (allS (Or.inl (List.mem_of_getElem? (i := 1) rfl)) (allS (Or.inl (List.mem_of_getElem? (i := 2) rfl)) (allS (Or.inl (List.mem_of_getElem? (i := 3) rfl)) (allS (Or.inr sz_s1) all0)))))
  show G (T2.setTop (mkF m 19 _ [(.int 2)]))
  refine g_istore hG X2 hx (hb hby d3_19) (pc' := 21) rfl (Ls' := #[.val (.ref a), .val (.double bs), .second, .val (.double be), .second, .val (.ref am), .val (.int 1), .val (.int 2), .unset, .unset]) rfl ?_
  refine g_iload hG X2 hx (hb hby d3_21) (pc' := 23) rfl rfl ?_
  refine g_istore hG X2 hx (hb hby d3_23) (pc' := 25) rfl (Ls' := #[.val (.ref a), .val (.double bs), .second, .val (.double be), .second, .val (.ref am), .val (.int 1), .val (.int 2), .val (.int 1), .unset]) rfl ?_
  refine g_iload hG X2 hx (hb hby d3_25) (pc' := 27) rfl rfl ?_
  refine g_iload hG X2 hx (hb hby d3_27) (pc' := 29) rfl rfl ?_
  refine g_icmpNo hG X2 hx (hb hby d3_29) (pc' := 32) (by decide) rfl ?_
  refine g_iconst hG X2 hx (hb hby d3_32) (pc' := 33) rfl (v := (0 : Int32)) rfl ?_
  refine g_istore hG X2 hx (hb hby d3_33) (pc' := 35) rfl (Ls' := #[.val (.ref a), .val (.double bs), .second, .val (.double be), .second, .val (.ref am), .val (.int 1), .val (.int 2), .val (.int 1), .val (.int 0)]) rfl ?_
  refine g_iload hG X2 hx (hb hby d3_35) (pc' := 37) rfl rfl ?_
  refine g_aload hG X2 hx (hb hby d3_37) (pc' := 39) rfl rfl rfl ?_
  refine g_arraylength hG X2 hx hZ rfl V_am (hb hby d3_39) (pc' := 40) rfl ?_
  refine g_icmpNo hG X2 hx (hb hby d3_40) (pc' := 43) (by decide) rfl ?_
  refine g_aloadN hG X2 hx (hb hby d3_43) (pc' := 44) rfl rfl rfl ?_
  refine g_getF hG X2 hx hZ hown (wd hw 15 rfl) Via.refl rfl F_steps_a (hb hby d3_44) (pc' := 47) rfl ?_
  intro T3 X3 e3
  refine g_iload hG X3 hx (hb hby d3_47) (pc' := 49) rfl rfl ?_
  refine g_aaload hG X3 hx hZ e3 R_sp (j := (1 : Int32)) (v := (.ref s1)) (by decide) rfl (hb hby d3_49) (pc' := 50) rfl ?_
  refine g_iload hG X3 hx (hb hby d3_50) (pc' := 52) rfl rfl ?_
  refine g_dup2 hG X3 hx (hb hby d3_52) (pc' := 53) rfl rfl rfl ?_
  refine g_iaload hG X3 hx hZ e3 V_s1 (j := (0 : Int32)) (v := (.int u0)) (by decide) rfl (hb hby d3_53) (pc' := 54) rfl ?_
  refine g_aload hG X3 hx (hb hby d3_54) (pc' := 56) rfl rfl rfl ?_
  refine g_iload hG X3 hx (hb hby d3_56) (pc' := 58) rfl rfl ?_
  refine g_iaload hG X3 hx hZ e3 V_am (j := (0 : Int32)) (v := (.int d0)) (by decide) rfl (hb hby d3_58) (pc' := 59) rfl ?_
  obtain ⟨v59, q59⟩ : ∃ zz : Int32, u0 + d0 = zz := ⟨_, rfl⟩
  refine g_iadd hG X3 hx (hb hby d3_59) (pc' := 60) rfl q59 ?_
  refine g_iastore hG X3 hx hZ e3 V_s1 (j := (0 : Int32)) (by decide) (show Int32.toNatClampNeg (0 : Int32) < 1 by decide) (hb hby d3_60) (pc' := 61) rfl ?_
  intro T4 h4 X4 e4 W4 Vn4
  have V_s1 : AV Z h4 s1 .int (1 : Int32) [(.int v59)] := Vn4
  have Ex_a := Ex_a.wr W4
  have F_times_a := F_times_a.other W4 (Or.inl n_a_s1)
  have F_steps_a := F_steps_a.other W4 (Or.inl n_a_s1)
  have F_count_a := F_count_a.other W4 (Or.inl n_a_s1)
  have V_ti := V_ti.other W4 n_ti_s1
  have R_sp := R_sp.other W4 n_sp_s1
  have V_s0 := V_s0.other W4 n_s0_s1
  have Ex_s0 := Ex_s0.wr W4
  have V_am := V_am.other W4 n_am_s1
  have Ex_s1 := Ex_s1.wr W4
  have V_s2 := V_s2.other W4 (Ne.symm n_s1_s2)
  have Ex_s2 := Ex_s2.wr W4
  have Zs := Nat.le_trans Zs (Wr.size W4)
  have NF4 := Fr.snoc X4 NF2 g_s1
  have K4 := K2.wr W4 (Or.inr sz_s1)
  refine g_iinc hG X4 hx (hb hby d3_61) (pc' := 64) rfl rfl (v := (1 : Int32)) (by decide) (Ls' := #[.val (.ref a), .val (.double bs), .second, .val (.double be), .second, .val (.ref am), .val (.int 1), .val (.int 2), .val (.int 1), .val (.int 1)]) rfl ?_
  refine g_goto hG X4 hx (hb hby d3_64) (pc' := 35) (by decide) (by decide) ?_
  refine g_iload hG X4 hx (hb hby d3_35) (pc' := 37) rfl rfl ?_
  refine g_aload hG X4 hx (hb hby d3_37) (pc' := 39) rfl rfl rfl ?_
  refine g_arraylength hG X4 hx hZ e4 V_am (hb hby d3_39) (pc' := 40) rfl ?_
  refine g_icmpYes hG X4 hx (hb hby d3_40) (pc' := 67) (by decide) (by decide) (by decide) ?_
  refine g_iinc hG X4 hx (hb hby d3_67) (pc' := 70) rfl rfl (v := (2 : Int32)) (by decide) (Ls' := #[.val (.ref a), .val (.double bs), .second, .val (.double be), .second, .val (.ref am), .val (.int 1), .val (.int 2), .val (.int 2), .val (.int 1)]) rfl ?_
  refine g_goto hG X4 hx (hb hby d3_70) (pc' := 25) (by decide) (by decide) ?_
  refine g_iload hG X4 hx (hb hby d3_25) (pc' := 27) rfl rfl ?_
  refine g_iload hG X4 hx (hb hby d3_27) (pc' := 29) rfl rfl ?_
  refine g_icmpYes hG X4 hx (hb hby d3_29) (pc' := 73) (by decide) (by decide) (by decide) ?_
  exact e_ret0 hGe X4 hx hrt hlk (hb hby d3_73) e4 (by decide) (by decide) (⟨rfl, NF4, K4, Ex_a, F_times_a, F_steps_a, F_count_a, V_ti⟩)

def Q_rmNew (Z : State) (a cs : Addr) (e0' : Int32) (h0 : Heap) (n0 : Nat) (v : Option Value) (h : Heap) (L : List Loc) : Prop := ∃ (ti sp s0 : Addr) (cA : ClassId), v = none ∧ Fr n0 L ∧ Keep h0 h [a] ∧ h0.size ≤ ti ∧ h0.size ≤ sp ∧ h0.size ≤ s0 ∧ ti ≠ sp ∧ ti ≠ s0 ∧ sp ≠ s0 ∧ OvrA Z cA .int "[I" ∧ Exa Z h a "com/example/ganttwright/ganttwright/ResourceProfile" ∧ Fld Z h a "com/example/ganttwright/ganttwright/ResourceProfile" "times" "[D" (.ref ti) ∧ Fld Z h a "com/example/ganttwright/ganttwright/ResourceProfile" "steps" "[[I" (.ref sp) ∧ Fld Z h a "com/example/ganttwright/ganttwright/ResourceProfile" "count" "I" (.int (1 : Int32)) ∧ AV Z h ti .double (16 : Int32) [(.double 0), (.double 0), (.double 0), (.double 0), (.double 0), (.double 0), (.double 0), (.double 0), (.double 0), (.double 0), (.double 0), (.double 0), (.double 0), (.double 0), (.double 0), (.double 0)] ∧ RV Z h sp cA (16 : Int32) [(.ref s0), .null, .null, .null, .null, .null, .null, .null, .null, .null, .null, .null, .null, .null, .null, .null] ∧ AV Z h s0 .int (1 : Int32) [(.int (0 : Int32))] ∧ Exa Z h s0 "[I"
set_option maxRecDepth 65536 in
set_option maxHeartbeats 40000000 in
theorem rmNew (l : Launch) (Z : State) (a0 : Array Value) (hw : ∀ d ∈ tables_1, d.before a0 Z = true) (ws : List Jvm.Cond) (a cs : Addr) (e0' : Int32) (h0 : Heap) (n0 : Nat) (Zs : n0 ≤ h0.size) (ga : n0 ≤ a) (nac : a ≠ cs) (V_cs : AV Z h0 cs .int (1 : Int32) [(.int e0')]) (Ex_cs : Exa Z h0 cs "[I") (Ex_a : Exa Z h0 a "com/example/ganttwright/ganttwright/ResourceProfile") (F_times_a : Fld Z h0 a "com/example/ganttwright/ganttwright/ResourceProfile" "times" "[D" .null) (F_steps_a : Fld Z h0 a "com/example/ganttwright/ganttwright/ResourceProfile" "steps" "[[I" .null) (F_count_a : Fld Z h0 a "com/example/ganttwright/ganttwright/ResourceProfile" "count" "I" (.int (0 : Int32))) (F_capacities_a : Fld Z h0 a "com/example/ganttwright/ganttwright/ResourceProfile" "capacities" "[I" .null) :
    Con l (⟨"com/example/ganttwright/ganttwright/ResourceProfile", "<init>", "([I)V"⟩ : MethodName) prog_23_method_1_code 2 none ws ({ frames := 1, cells := 4, slots := 34, locals := 24 } : Room) Z #[(.ref a), (.ref cs)] h0 ({ frames := 1, cells := 4, slots := 34, locals := 24 } : Room).cells ({ frames := 1, cells := 4, slots := 34, locals := 24 } : Room).slots (Q_rmNew Z a cs e0' h0 n0) := by
  refine Con.of (Ls := #[.val (.ref a), .val (.ref cs)]) (plainFor_of_name (by first | (simp [plainName, overriddenIn]; done) | decide +kernel)) (fun m => by first | (simp [entryFrame, mkF, argsToLocals, Value.category]; done) | rfl) ?_
  intro p e s m below meth c s₁ G hGe hG hx hby hml hown hnm hrt hlk hZ X0 e0
  have hown : s.vm.findClass "com/example/ganttwright/ganttwright/ResourceProfile" = some m.cls := hown
  have hnm : meth.name = "<init>" := hnm
  have NF0 := Fr.nil n0
  have K0 := Keep.refl h0 [a]
  refine g_aloadN hG X0 hx (hb hby d1_0) (pc' := 1) rfl rfl rfl ?_
  refine g_initO hG X0 hx hZ hown (wd hw 7 rfl) (wd hw 8 rfl) (wd hw 9 rfl) e0 (by rw [hml]; rfl) (hb hby d1_1) (by decide) (by decide) (pc' := 4) rfl ?_
  intro T1 X1 e1
  show G (T1.setTop (mkF m 4 _ []))
  refine g_aloadN hG X1 hx (hb hby d1_4) (pc' := 5) rfl rfl rfl ?_
  refine g_bipush hG X1 hx (hb hby d1_5) (pc' := 7) rfl (v := (16 : Int32)) rfl ?_
  refine g_newPE hG X1 hx hZ (wd hw 10 rfl) e1 (hb hby d1_7) (by decide) 16 (by decide) (by decide) (by decide) (by decide) (ad := "[D") (by decide) (pc' := 9) rfl ?_
  intro T2 h2 ti gs2 X2 e2 E2 A2 B2
  have ne_a_ti : a ≠ ti := Nat.ne_of_lt (gs2 ▸ Ex_a.lt)
  have ne_cs_ti : cs ≠ ti := Nat.ne_of_lt (gs2 ▸ V_cs.lt)
  have ge_ti : n0 ≤ ti := gs2 ▸ Zs
  have sz_ti : h0.size ≤ ti := gs2 ▸ K0.1
  have Zs := Nat.le_trans Zs E2.1
  have Ex_a := Ex_a.ext E2
  have F_times_a := F_times_a.ext E2
  have F_steps_a := F_steps_a.ext E2
  have F_count_a := F_count_a.ext E2
  have F_capacities_a := F_capacities_a.ext E2
  have V_cs := V_cs.ext E2
  have Ex_cs := Ex_cs.ext E2
  have K2 := K0.ext E2
  have V_ti : AV Z h2 ti .double (16 : Int32) [(.double 0), (.double 0), (.double 0), (.double 0), (.double 0), (.double 0), (.double 0), (.double 0), (.double 0), (.double 0), (.double 0), (.double 0), (.double 0), (.double 0), (.double 0), (.double 0)] := A2
  have Ex_ti := B2
  refine g_putF hG X2 hx hZ hown (wd hw 11 rfl) Via.refl e2 F_times_a Ex_a (Or.inl (wd hw 12 rfl)) (wd hw 2 rfl) (v' := (.ref ti)) (ty := (.array .double)) (by decide) rfl rfl (hb hby d1_9) (pc' := 12) rfl ?_
  intro T3 h3 X3 e3 W3
  have Ex_a := Ex_a.wr W3
  have F_times_a := F_times_a.same W3
  have F_steps_a := F_steps_a.other W3 (Or.inr (slot_ne (Or.inl (wd hw 16 rfl)) (Or.inl (wd hw 12 rfl)) (by decide) (t := (.array (.array .int))) (t' := (.array .double)) (by decide) (by decide)))
  have F_count_a := F_count_a.other W3 (Or.inr (slot_ne (Or.inl (wd hw 18 rfl)) (Or.inl (wd hw 12 rfl)) (by decide) (t := .int) (t' := (.array .double)) (by decide) (by decide)))
  have F_capacities_a := F_capacities_a.other W3 (Or.inr (slot_ne (Or.inr (wd hw 28 rfl)) (Or.inl (wd hw 12 rfl)) (by decide) (t := (.array .int)) (t' := (.array .double)) (by decide) (by decide)))
  have V_cs := V_cs.other W3 (Ne.symm nac)
  have Ex_cs := Ex_cs.wr W3
  have V_ti := V_ti.other W3 (Ne.symm ne_a_ti)
  have Ex_ti := Ex_ti.wr W3
  have Zs := Nat.le_trans Zs (Wr.size W3)
  have NF3 := Fr.snoc X3 NF0 ga
  have K3 := K2.wr W3 (Or.inl (List.mem_of_getElem? (i := 0) rfl))
  refine g_aloadN hG X3 hx (hb hby d1_12) (pc' := 13) rfl rfl rfl ?_
  refine g_bipush hG X3 hx (hb hby d1_13) (pc' := 15) rfl (v := (16 : Int32)) rfl ?_
  refine g_newRA hG X3 hx hZ hown (wd hw 13 rfl) (wd hw 14 rfl) e3 (hb hby d1_15) (by decide) 16 (by decide) (by decide) (by decide) (by decide) (pc' := 18) rfl ?_
  intro T4 h4 sp cA gs4 X4 e4 E4 A4 B4 Ov
  have ne_a_sp : a ≠ sp := Nat.ne_of_lt (gs4 ▸ Ex_a.lt)
  have ne_cs_sp : cs ≠ sp := Nat.ne_of_lt (gs4 ▸ V_cs.lt)
  have ne_ti_sp : ti ≠ sp := Nat.ne_of_lt (gs4 ▸ V_ti.lt)
  have ge_sp : n0 ≤ sp := gs4 ▸ Zs
  have sz_sp : h0.size ≤ sp := gs4 ▸ K3.1
  have Zs := Nat.le_trans Zs E4.1
  have Ex_a := Ex_a.ext E4
  have F_times_a := F_times_a.ext E4
  have F_steps_a := F_steps_a.ext E4
  have F_count_a := F_count_a.ext E4
  have F_capacities_a := F_capacities_a.ext E4
  have V_cs := V_cs.ext E4
  have Ex_cs := Ex_cs.ext E4
  have V_ti := V_ti.ext E4
  have Ex_ti := Ex_ti.ext E4
  have K4 := K3.ext E4
  have R_sp : RV Z h4 sp cA (16 : Int32) [.null, .null, .null, .null, .null, .null, .null, .null, .null, .null, .null, .null, .null, .null, .null, .null] := A4
  have Ex_sp := B4
  refine g_putF hG X4 hx hZ hown (wd hw 15 rfl) Via.refl e4 F_steps_a Ex_a (Or.inl (wd hw 16 rfl)) (wd hw 2 rfl) (v' := (.ref sp)) (ty := (.array (.array .int))) (by decide) rfl rfl (hb hby d1_18) (pc' := 21) rfl ?_
  intro T5 h5 X5 e5 W5
  have Ex_a := Ex_a.wr W5
  have F_times_a := F_times_a.other W5 (Or.inr (slot_ne (Or.inl (wd hw 12 rfl)) (Or.inl (wd hw 16 rfl)) (by decide) (t := (.array .double)) (t' := (.array (.array .int))) (by decide) (by decide)))
  have F_steps_a := F_steps_a.same W5
  have F_count_a := F_count_a.other W5 (Or.inr (slot_ne (Or.inl (wd hw 18 rfl)) (Or.inl (wd hw 16 rfl)) (by decide) (t := .int) (t' := (.array (.array .int))) (by decide) (by decide)))
  have F_capacities_a := F_capacities_a.other W5 (Or.inr (slot_ne (Or.inr (wd hw 28 rfl)) (Or.inl (wd hw 16 rfl)) (by decide) (t := (.array .int)) (t' := (.array (.array .int))) (by decide) (by decide)))
  have V_cs := V_cs.other W5 (Ne.symm nac)
  have Ex_cs := Ex_cs.wr W5
  have V_ti := V_ti.other W5 (Ne.symm ne_a_ti)
  have Ex_ti := Ex_ti.wr W5
  have R_sp := R_sp.other W5 (Ne.symm ne_a_sp)
  have Ex_sp := Ex_sp.wr W5
  have Zs := Nat.le_trans Zs (Wr.size W5)
  have NF5 := Fr.snoc X5 NF3 ga
  have K5 := K4.wr W5 (Or.inl (List.mem_of_getElem? (i := 0) rfl))
  refine g_aloadN hG X5 hx (hb hby d1_21) (pc' := 22) rfl rfl rfl ?_
  refine g_iconst hG X5 hx (hb hby d1_22) (pc' := 23) rfl (v := (1 : Int32)) rfl ?_
  refine g_putF hG X5 hx hZ hown (wd hw 17 rfl) Via.refl e5 F_count_a Ex_a (Or.inl (wd hw 18 rfl)) (wd hw 2 rfl) (v' := (.int 1)) (ty := .int) (by decide) rfl rfl (hb hby d1_23) (pc' := 26) rfl ?_
  intro T6 h6 X6 e6 W6
  have Ex_a := Ex_a.wr W6
  have F_times_a := F_times_a.other W6 (Or.inr (slot_ne (Or.inl (wd hw 12 rfl)) (Or.inl (wd hw 18 rfl)) (by decide) (t := (.array .double)) (t' := .int) (by decide) (by decide)))
  have F_steps_a := F_steps_a.other W6 (Or.inr (slot_ne (Or.inl (wd hw 16 rfl)) (Or.inl (wd hw 18 rfl)) (by decide) (t := (.array (.array .int))) (t' := .int) (by decide) (by decide)))
  have F_count_a := F_count_a.same W6
  have F_capacities_a := F_capacities_a.other W6 (Or.inr (slot_ne (Or.inr (wd hw 28 rfl)) (Or.inl (wd hw 18 rfl)) (by decide) (t := (.array .int)) (t' := .int) (by decide) (by decide)))
  have V_cs := V_cs.other W6 (Ne.symm nac)
  have Ex_cs := Ex_cs.wr W6
  have V_ti := V_ti.other W6 (Ne.symm ne_a_ti)
  have Ex_ti := Ex_ti.wr W6
  have R_sp := R_sp.other W6 (Ne.symm ne_a_sp)
  have Ex_sp := Ex_sp.wr W6
  have Zs := Nat.le_trans Zs (Wr.size W6)
  have NF6 := Fr.snoc X6 NF5 ga
  have K6 := K5.wr W6 (Or.inl (List.mem_of_getElem? (i := 0) rfl))
  refine g_aloadN hG X6 hx (hb hby d1_26) (pc' := 27) rfl rfl rfl ?_
  refine g_aloadN hG X6 hx (hb hby d1_27) (pc' := 28) rfl rfl rfl ?_
  refine g_clone hG X6 hx hZ hown (wd hw 19 rfl) (wd hw 20 rfl) (wd hw 24 rfl) (wd hw 22 rfl) (wd hw 23 rfl) (wd hw 25 rfl) e6 V_cs Ex_cs (by rw [hml]; rfl) (hb hby d1_28) (by decide) 1 1 (Nat.le_of_eq rfl) (by decide) (by decide) (by decide) (by decide) (pc' := 31) rfl ?_
  intro T7 h7 cp gs7 X7 e7 E7 A7 B7
  have ne_a_cp : a ≠ cp := Nat.ne_of_lt (gs7 ▸ Ex_a.lt)
  have ne_cs_cp : cs ≠ cp := Nat.ne_of_lt (gs7 ▸ V_cs.lt)
  have ne_ti_cp : ti ≠ cp := Nat.ne_of_lt (gs7 ▸ V_ti.lt)
  have ne_sp_cp : sp ≠ cp := Nat.ne_of_lt (gs7 ▸ R_sp.lt)
  have ge_cp : n0 ≤ cp := gs7 ▸ Zs
  have sz_cp : h0.size ≤ cp := gs7 ▸ K6.1
  have Zs := Nat.le_trans Zs E7.1
  have Ex_a := Ex_a.ext E7
  have F_times_a := F_times_a.ext E7
  have F_steps_a := F_steps_a.ext E7
  have F_count_a := F_count_a.ext E7
  have F_capacities_a := F_capacities_a.ext E7
  have V_cs := V_cs.ext E7
  have Ex_cs := Ex_cs.ext E7
  have V_ti := V_ti.ext E7
  have Ex_ti := Ex_ti.ext E7
  have R_sp := R_sp.ext E7
  have Ex_sp := Ex_sp.ext E7
  have K7 := K6.ext E7
  have V_cp := A7
  have Ex_cp := B7
  show G (T7.setTop (mkF m 31 _ [(.ref cp), (.ref a)]))
  refine g_castY hG X7 hx hZ hown (wd hw 13 rfl) e7 (Ins.self Ex_cp) (hb hby d1_31) (pc' := 34) rfl ?_
  intro T8 X8 e8
  refine g_putF hG X8 hx hZ hown (wd hw 27 rfl) Via.refl e8 F_capacities_a Ex_a (Or.inr ⟨(wd hw 28 rfl), rfl, hnm⟩) (wd hw 2 rfl) (v' := (.ref cp)) (ty := (.array .int)) (by decide) rfl rfl (hb hby d1_34) (pc' := 37) rfl ?_
  intro T9 h9 X9 e9 W9
  have Ex_a := Ex_a.wr W9
  have F_times_a := F_times_a.other W9 (Or.inr (slot_ne (Or.inl (wd hw 12 rfl)) (Or.inr (wd hw 28 rfl)) (by decide) (t := (.array .double)) (t' := (.array .int)) (by decide) (by decide)))
  have F_steps_a := F_steps_a.other W9 (Or.inr (slot_ne (Or.inl (wd hw 16 rfl)) (Or.inr (wd hw 28 rfl)) (by decide) (t := (.array (.array .int))) (t' := (.array .int)) (by decide) (by decide)))
  have F_count_a := F_count_a.other W9 (Or.inr (slot_ne (Or.inl (wd hw 18 rfl)) (Or.inr (wd hw 28 rfl)) (by decide) (t := .int) (t' := (.array .int)) (by decide) (by decide)))
  have F_capacities_a := F_capacities_a.same W9
  have V_cs := V_cs.other W9 (Ne.symm nac)
  have Ex_cs := Ex_cs.wr W9
  have V_ti := V_ti.other W9 (Ne.symm ne_a_ti)
  have Ex_ti := Ex_ti.wr W9
  have R_sp := R_sp.other W9 (Ne.symm ne_a_sp)
  have Ex_sp := Ex_sp.wr W9
  have V_cp := V_cp.other W9 (Ne.symm ne_a_cp)
  have Ex_cp := Ex_cp.wr W9
  have Zs := Nat.le_trans Zs (Wr.size W9)
  have NF9 := Fr.snoc X9 NF6 ga
  have K9 := K7.wr W9 (Or.inl (List.mem_of_getElem? (i := 0) rfl))
  refine g_aloadN hG X9 hx (hb hby d1_37) (pc' := 38) rfl rfl rfl ?_
  refine g_getF hG X9 hx hZ hown (wd hw 15 rfl) Via.refl e9 F_steps_a (hb hby d1_38) (pc' := 41) rfl ?_
  intro T10 X10 e10
  refine g_iconst hG X10 hx (hb hby d1_41) (pc' := 42) rfl (v := (0 : Int32)) rfl ?_
  refine g_aloadN hG X10 hx (hb hby d1_42) (pc' := 43) rfl rfl rfl ?_
  refine g_arraylength hG X10 hx hZ e10 V_cs (hb hby d1_43) (pc' := 44) rfl ?_
  refine g_newPE hG X10 hx hZ (wd hw 0 rfl) e10 (hb hby d1_44) (by decide) 1 (by decide) (by decide) (by decide) (by decide) (ad := "[I") (by decide) (pc' := 46) rfl ?_
  intro T11 h11 s0 gs11 X11 e11 E11 A11 B11
  have ne_a_s0 : a ≠ s0 := Nat.ne_of_lt (gs11 ▸ Ex_a.lt)
  have ne_cs_s0 : cs ≠ s0 := Nat.ne_of_lt (gs11 ▸ V_cs.lt)
  have ne_ti_s0 : ti ≠ s0 := Nat.ne_of_lt (gs11 ▸ V_ti.lt)
  have ne_sp_s0 : sp ≠ s0 := Nat.ne_of_lt (gs11 ▸ R_sp.lt)
  have ne_cp_s0 : cp ≠ s0 := Nat.ne_of_lt (gs11 ▸ V_cp.lt)
  have ge_s0 : n0 ≤ s0 := gs11 ▸ Zs
  have sz_s0 : h0.size ≤ s0 := gs11 ▸ K9.1
  have Zs := Nat.le_trans Zs E11.1
  have Ex_a := Ex_a.ext E11
  have F_times_a := F_times_a.ext E11
  have F_steps_a := F_steps_a.ext E11
  have F_count_a := F_count_a.ext E11
  have F_capacities_a := F_capacities_a.ext E11
  have V_cs := V_cs.ext E11
  have Ex_cs := Ex_cs.ext E11
  have V_ti := V_ti.ext E11
  have Ex_ti := Ex_ti.ext E11
  have R_sp := R_sp.ext E11
  have Ex_sp := Ex_sp.ext E11
  have V_cp := V_cp.ext E11
  have Ex_cp := Ex_cp.ext E11
  have K11 := K9.ext E11
  have V_s0 : AV Z h11 s0 .int (1 : Int32) [(.int 0)] := A11
  have Ex_s0 := B11
  refine g_aastore hG X11 hx hZ e11 R_sp Ov Ex_s0 (j := (0 : Int32)) (by decide) (show Int32.toNatClampNeg (0 : Int32) < 16 by decide) (hb hby d1_46) (pc' := 47) rfl ?_
  intro T12 h12 X12 e12 W12 Vn12
  have R_sp : RV Z h12 sp cA (16 : Int32) [(.ref s0), .null, .null, .null, .null, .null, .null, .null, .null, .null, .null, .null, .null, .null, .null, .null] := Vn12
  have Ex_a := Ex_a.wr W12
  have F_times_a := F_times_a.other W12 (Or.inl ne_a_sp)
  have F_steps_a := F_steps_a.other W12 (Or.inl ne_a_sp)
  have F_count_a := F_count_a.other W12 (Or.inl ne_a_sp)
  have F_capacities_a := F_capacities_a.other W12 (Or.inl ne_a_sp)
  have V_cs := V_cs.other W12 ne_cs_sp
  have Ex_cs := Ex_cs.wr W12
  have V_ti := V_ti.other W12 ne_ti_sp
  have Ex_ti := Ex_ti.wr W12
  have Ex_sp := Ex_sp.wr W12
  have V_cp := V_cp.other W12 (Ne.symm ne_sp_cp)
  have Ex_cp := Ex_cp.wr W12
  have V_s0 := V_s0.other W12 (Ne.symm ne_sp_s0)
  have Ex_s0 := Ex_s0.wr W12
  have Zs := Nat.le_trans Zs (Wr.size W12)
  have NF12 := Fr.snoc X12 NF9 ge_sp
  have K12 := K11.wr W12 (Or.inr sz_sp)
  exact e_ret0 hGe X12 hx hrt hlk (hb hby d1_47) e12 (by decide) (by decide) (⟨ti, sp, s0, cA, rfl, NF12, K12, sz_ti, sz_sp, sz_s0, ne_ti_sp, ne_ti_s0, ne_sp_s0, Ov, Ex_a, F_times_a, F_steps_a, F_count_a, V_ti, R_sp, V_s0, Ex_s0⟩)

def Q_rmSS1_0 (Z : State) (a ti sp : Addr) (y1 y2 : UInt64) (h0 : Heap) (n0 : Nat) (v : Option Value) (h : Heap) (L : List Loc) : Prop := v = some (.double (0 : UInt64)) ∧ Fr n0 L ∧ h = h0
set_option maxRecDepth 65536 in
set_option maxHeartbeats 40000000 in
theorem rmSS1_0 (l : Launch) (Z : State) (a0 : Array Value) (hw : ∀ d ∈ tables_1, d.before a0 Z = true) (ws : List Jvm.Cond) (a ti sp : Addr) (y1 y2 : UInt64) (h0 : Heap) (n0 : Nat) (Zs : n0 ≤ h0.size) (Ex_a : Exa Z h0 a "com/example/ganttwright/ganttwright/ResourceProfile") (F_times_a : Fld Z h0 a "com/example/ganttwright/ganttwright/ResourceProfile" "times" "[D" (.ref ti)) (F_steps_a : Fld Z h0 a "com/example/ganttwright/ganttwright/ResourceProfile" "steps" "[[I" (.ref sp)) (F_count_a : Fld Z h0 a "com/example/ganttwright/ganttwright/ResourceProfile" "count" "I" (.int (1 : Int32))) (V_ti : AV Z h0 ti .double (16 : Int32) [(.double 0), (.double 0), (.double 0), (.double 0), (.double 0), (.double 0), (.double 0), (.double 0), (.double 0), (.double 0), (.double 0), (.double 0), (.double 0), (.double 0), (.double 0), (.double 0)]) :
    Con l (⟨"com/example/ganttwright/ganttwright/ResourceProfile", "stepStart", "(I)D"⟩ : MethodName) prog_23_method_4_code 2 (some .double) ws ({ frames := 0, cells := 0, slots := 0, locals := 0 } : Room) Z #[(.ref a), (.int 0)] h0 ({ frames := 0, cells := 0, slots := 0, locals := 0 } : Room).cells ({ frames := 0, cells := 0, slots := 0, locals := 0 } : Room).slots (Q_rmSS1_0 Z a ti sp y1 y2 h0 n0) := by
  refine Con.of (Ls := #[.val (.ref a), .val (.int 0)]) (plainFor_of_name (by first | (simp [plainName, overriddenIn]; done) | decide +kernel)) (fun m => by first | (simp [entryFrame, mkF, argsToLocals, Value.category]; done) | rfl) ?_
  intro p e s m below meth c s₁ G hGe hG hx hby hml hown hnm hrt hlk hZ X0 e0
  have hown : s.vm.findClass "com/example/ganttwright/ganttwright/ResourceProfile" = some m.cls := hown
  have hnm : meth.name = "stepStart" := hnm
  have NF0 := Fr.nil n0
  refine g_iloadN hG X0 hx (hb hby d11_0) (pc' := 1) rfl rfl ?_
  refine g_aloadN hG X0 hx (hb hby d11_1) (pc' := 2) rfl rfl rfl ?_
  refine g_getF hG X0 hx hZ hown (wd hw 17 rfl) Via.refl e0 F_count_a (hb hby d11_2) (pc' := 5) rfl ?_
  intro T1 X1 e1
  refine g_icmpNo hG X1 hx (hb hby d11_5) (pc' := 8) (by decide) rfl ?_
  refine g_aloadN hG X1 hx (hb hby d11_8) (pc' := 9) rfl rfl rfl ?_
  refine g_getF hG X1 hx hZ hown (wd hw 11 rfl) Via.refl e1 F_times_a (hb hby d11_9) (pc' := 12) rfl ?_
  intro T2 X2 e2
  refine g_iloadN hG X2 hx (hb hby d11_12) (pc' := 13) rfl rfl ?_
  refine g_daload hG X2 hx hZ e2 V_ti (j := (0 : Int32)) (v := (.double 0)) (by decide) rfl (hb hby d11_13) (pc' := 14) rfl ?_
  refine g_goto hG X2 hx (hb hby d11_14) (pc' := 20) (by decide) (by decide) ?_
  exact e_retD hGe X2 hx hrt hlk (hb hby d11_20) e2 (by decide) (by decide) (⟨rfl, NF0, rfl⟩)

def Q_rmSS1_x (Z : State) (a ti sp : Addr) (y1 y2 : UInt64) (j : Int32) (h0 : Heap) (n0 : Nat) (v : Option Value) (h : Heap) (L : List Loc) : Prop := v = some (.double (9218868437227405312 : UInt64)) ∧ Fr n0 L ∧ h = h0
set_option maxRecDepth 65536 in
set_option maxHeartbeats 40000000 in
theorem rmSS1_x (l : Launch) (Z : State) (a0 : Array Value) (hw : ∀ d ∈ tables_1, d.before a0 Z = true) (ws : List Jvm.Cond) (a ti sp : Addr) (y1 y2 : UInt64) (j : Int32) (h0 : Heap) (n0 : Nat) (Zs : n0 ≤ h0.size) (Ex_a : Exa Z h0 a "com/example/ganttwright/ganttwright/ResourceProfile") (F_times_a : Fld Z h0 a "com/example/ganttwright/ganttwright/ResourceProfile" "times" "[D" (.ref ti)) (F_steps_a : Fld Z h0 a "com/example/ganttwright/ganttwright/ResourceProfile" "steps" "[[I" (.ref sp)) (F_count_a : Fld Z h0 a "com/example/ganttwright/ganttwright/ResourceProfile" "count" "I" (.int (1 : Int32))) (V_ti : AV Z h0 ti .double (16 : Int32) [(.double 0), (.double 0), (.double 0), (.double 0), (.double 0), (.double 0), (.double 0), (.double 0), (.double 0), (.double 0), (.double 0), (.double 0), (.double 0), (.double 0), (.double 0), (.double 0)]) (hj : ¬ j < (1 : Int32)) :
    Con l (⟨"com/example/ganttwright/ganttwright/ResourceProfile", "stepStart", "(I)D"⟩ : MethodName) prog_23_method_4_code 2 (some .double) ws ({ frames := 0, cells := 0, slots := 0, locals := 0 } : Room) Z #[(.ref a), (.int j)] h0 ({ frames := 0, cells := 0, slots := 0, locals := 0 } : Room).cells ({ frames := 0, cells := 0, slots := 0, locals := 0 } : Room).slots (Q_rmSS1_x Z a ti sp y1 y2 j h0 n0) := by
  refine Con.of (Ls := #[.val (.ref a), .val (.int j)]) (plainFor_of_name (by first | (simp [plainName, overriddenIn]; done) | decide +kernel)) (fun m => by first | (simp [entryFrame, mkF, argsToLocals, Value.category]; done) | rfl) ?_
  intro p e s m below meth c s₁ G hGe hG hx hby hml hown hnm hrt hlk hZ X0 e0
  have hown : s.vm.findClass "com/example/ganttwright/ganttwright/ResourceProfile" = some m.cls := hown
  have hnm : meth.name = "stepStart" := hnm
  have NF0 := Fr.nil n0
  refine g_iloadN hG X0 hx (hb hby d11_0) (pc' := 1) rfl rfl ?_
  refine g_aloadN hG X0 hx (hb hby d11_1) (pc' := 2) rfl rfl rfl ?_
  refine g_getF hG X0 hx hZ hown (wd hw 17 rfl) Via.refl e0 F_count_a (hb hby d11_2) (pc' := 5) rfl ?_
  intro T1 X1 e1
  refine g_icmpYes hG X1 hx (hb hby d11_5) (pc' := 17) ((flt hj).2.1) (by decide) (by decide) ?_
  refine g_ldcDouble hG X1 hx hZ hown (wd hw 72 rfl) (hb hby d11_17) (pc' := 20) rfl ?_
  exact e_retD hGe X1 hx hrt hlk (hb hby d11_20) e1 (by decide) (by decide) (⟨rfl, NF0, rfl⟩)

def Q_rmSS2_0 (Z : State) (a ti sp : Addr) (y1 y2 : UInt64) (h0 : Heap) (n0 : Nat) (v : Option Value) (h : Heap) (L : List Loc) : Prop := v = some (.double (0 : UInt64)) ∧ Fr n0 L ∧ h = h0
set_option maxRecDepth 65536 in
set_option maxHeartbeats 40000000 in
theorem rmSS2_0 (l : Launch) (Z : State) (a0 : Array Value) (hw : ∀ d ∈ tables_1, d.before a0 Z = true) (ws : List Jvm.Cond) (a ti sp : Addr) (y1 y2 : UInt64) (h0 : Heap) (n0 : Nat) (Zs : n0 ≤ h0.size) (Ex_a : Exa Z h0 a "com/example/ganttwright/ganttwright/ResourceProfile") (F_times_a : Fld Z h0 a "com/example/ganttwright/ganttwright/ResourceProfile" "times" "[D" (.ref ti)) (F_steps_a : Fld Z h0 a "com/example/ganttwright/ganttwright/ResourceProfile" "steps" "[[I" (.ref sp)) (F_count_a : Fld Z h0 a "com/example/ganttwright/ganttwright/ResourceProfile" "count" "I" (.int (2 : Int32))) (V_ti : AV Z h0 ti .double (16 : Int32) [(.double 0), (.double y1), (.double 0), (.double 0), (.double 0), (.double 0), (.double 0), (.double 0), (.double 0), (.double 0), (.double 0), (.double 0), (.double 0), (.double 0), (.double 0), (.double 0)]) :
    Con l (⟨"com/example/ganttwright/ganttwright/ResourceProfile", "stepStart", "(I)D"⟩ : MethodName) prog_23_method_4_code 2 (some .double) ws ({ frames := 0, cells := 0, slots := 0, locals := 0 } : Room) Z #[(.ref a), (.int 0)] h0 ({ frames := 0, cells := 0, slots := 0, locals := 0 } : Room).cells ({ frames := 0, cells := 0, slots := 0, locals := 0 } : Room).slots (Q_rmSS2_0 Z a ti sp y1 y2 h0 n0) := by
  refine Con.of (Ls := #[.val (.ref a), .val (.int 0)]) (plainFor_of_name (by first | (simp [plainName, overriddenIn]; done) | decide +kernel)) (fun m => by first | (simp [entryFrame, mkF, argsToLocals, Value.category]; done) | rfl) ?_
  intro p e s m below meth c s₁ G hGe hG hx hby hml hown hnm hrt hlk hZ X0 e0
  have hown : s.vm.findClass "com/example/ganttwright/ganttwright/ResourceProfile" = some m.cls := hown
  have hnm : meth.name = "stepStart" := hnm
  have NF0 := Fr.nil n0
  refine g_iloadN hG X0 hx (hb hby d11_0) (pc' := 1) rfl rfl ?_
  refine g_aloadN hG X0 hx (hb hby d11_1) (pc' := 2) rfl rfl rfl ?_
  refine g_getF hG X0 hx hZ hown (wd hw 17 rfl) Via.refl e0 F_count_a (hb hby d11_2) (pc' := 5) rfl ?_
  intro T1 X1 e1
  refine g_icmpNo hG X1 hx (hb hby d11_5) (pc' := 8) (by decide) rfl ?_
  refine g_aloadN hG X1 hx (hb hby d11_8) (pc' := 9) rfl rfl rfl ?_
  refine g_getF hG X1 hx hZ hown (wd hw 11 rfl) Via.refl e1 F_times_a (hb hby d11_9) (pc' := 12) rfl ?_
  intro T2 X2 e2
  refine g_iloadN hG X2 hx (hb hby d11_12) (pc' := 13) rfl rfl ?_
  refine g_daload hG X2 hx hZ e2 V_ti (j := (0 : Int32)) (v := (.double 0)) (by decide) rfl (hb hby d11_13) (pc' := 14) rfl ?_
  refine g_goto hG X2 hx (hb hby d11_14) (pc' := 20) (by decide) (by decide) ?_
  exact e_retD hGe X2 hx hrt hlk (hb hby d11_20) e2 (by decide) (by decide) (⟨rfl, NF0, rfl⟩)

def Q_rmSS2_1 (Z : State) (a ti sp : Addr) (y1 y2 : UInt64) (h0 : Heap) (n0 : Nat) (v : Option Value) (h : Heap) (L : List Loc) : Prop := v = some (.double y1) ∧ Fr n0 L ∧ h = h0
set_option maxRecDepth 65536 in
set_option maxHeartbeats 40000000 in
theorem rmSS2_1 (l : Launch) (Z : State) (a0 : Array Value) (hw : ∀ d ∈ tables_1, d.before a0 Z = true) (ws : List Jvm.Cond) (a ti sp : Addr) (y1 y2 : UInt64) (h0 : Heap) (n0 : Nat) (Zs : n0 ≤ h0.size) (Ex_a : Exa Z h0 a "com/example/ganttwright/ganttwright/ResourceProfile") (F_times_a : Fld Z h0 a "com/example/ganttwright/ganttwright/ResourceProfile" "times" "[D" (.ref ti)) (F_steps_a : Fld Z h0 a "com/example/ganttwright/ganttwright/ResourceProfile" "steps" "[[I" (.ref sp)) (F_count_a : Fld Z h0 a "com/example/ganttwright/ganttwright/ResourceProfile" "count" "I" (.int (2 : Int32))) (V_ti : AV Z h0 ti .double (16 : Int32) [(.double 0), (.double y1), (.double 0), (.double 0), (.double 0), (.double 0), (.double 0), (.double 0), (.double 0), (.double 0), (.double 0), (.double 0), (.double 0), (.double 0), (.double 0), (.double 0)]) :
    Con l (⟨"com/example/ganttwright/ganttwright/ResourceProfile", "stepStart", "(I)D"⟩ : MethodName) prog_23_method_4_code 2 (some .double) ws ({ frames := 0, cells := 0, slots := 0, locals := 0 } : Room) Z #[(.ref a), (.int 1)] h0 ({ frames := 0, cells := 0, slots := 0, locals := 0 } : Room).cells ({ frames := 0, cells := 0, slots := 0, locals := 0 } : Room).slots (Q_rmSS2_1 Z a ti sp y1 y2 h0 n0) := by
  refine Con.of (Ls := #[.val (.ref a), .val (.int 1)]) (plainFor_of_name (by first | (simp [plainName, overriddenIn]; done) | decide +kernel)) (fun m => by first | (simp [entryFrame, mkF, argsToLocals, Value.category]; done) | rfl) ?_
  intro p e s m below meth c s₁ G hGe hG hx hby hml hown hnm hrt hlk hZ X0 e0
  have hown : s.vm.findClass "com/example/ganttwright/ganttwright/ResourceProfile" = some m.cls := hown
  have hnm : meth.name = "stepStart" := hnm
  have NF0 := Fr.nil n0
  refine g_iloadN hG X0 hx (hb hby d11_0) (pc' := 1) rfl rfl ?_
  refine g_aloadN hG X0 hx (hb hby d11_1) (pc' := 2) rfl rfl rfl ?_
  refine g_getF hG X0 hx hZ hown (wd hw 17 rfl) Via.refl e0 F_count_a (hb hby d11_2) (pc' := 5) rfl ?_
  intro T1 X1 e1
  refine g_icmpNo hG X1 hx (hb hby d11_5) (pc' := 8) (by decide) rfl ?_
  refine g_aloadN hG X1 hx (hb hby d11_8) (pc' := 9) rfl rfl rfl ?_
  refine g_getF hG X1 hx hZ hown (wd hw 11 rfl) Via.refl e1 F_times_a (hb hby d11_9) (pc' := 12) rfl ?_
  intro T2 X2 e2
  refine g_iloadN hG X2 hx (hb hby d11_12) (pc' := 13) rfl rfl ?_
  refine g_daload hG X2 hx hZ e2 V_ti (j := (1 : Int32)) (v := (.double y1)) (by decide) rfl (hb hby d11_13) (pc' := 14) rfl ?_
  refine g_goto hG X2 hx (hb hby d11_14) (pc' := 20) (by decide) (by decide) ?_
  exact e_retD hGe X2 hx hrt hlk (hb hby d11_20) e2 (by decide) (by decide) (⟨rfl, NF0, rfl⟩)

def Q_rmSS2_x (Z : State) (a ti sp : Addr) (y1 y2 : UInt64) (j : Int32) (h0 : Heap) (n0 : Nat) (v : Option Value) (h : Heap) (L : List Loc) : Prop := v = some (.double (9218868437227405312 : UInt64)) ∧ Fr n0 L ∧ h = h0
set_option maxRecDepth 65536 in
set_option maxHeartbeats 40000000 in
theorem rmSS2_x (l : Launch) (Z : State) (a0 : Array Value) (hw : ∀ d ∈ tables_1, d.before a0 Z = true) (ws : List Jvm.Cond) (a ti sp : Addr) (y1 y2 : UInt64) (j : Int32) (h0 : Heap) (n0 : Nat) (Zs : n0 ≤ h0.size) (Ex_a : Exa Z h0 a "com/example/ganttwright/ganttwright/ResourceProfile") (F_times_a : Fld Z h0 a "com/example/ganttwright/ganttwright/ResourceProfile" "times" "[D" (.ref ti)) (F_steps_a : Fld Z h0 a "com/example/ganttwright/ganttwright/ResourceProfile" "steps" "[[I" (.ref sp)) (F_count_a : Fld Z h0 a "com/example/ganttwright/ganttwright/ResourceProfile" "count" "I" (.int (2 : Int32))) (V_ti : AV Z h0 ti .double (16 : Int32) [(.double 0), (.double y1), (.double 0), (.double 0), (.double 0), (.double 0), (.double 0), (.double 0), (.double 0), (.double 0), (.double 0), (.double 0), (.double 0), (.double 0), (.double 0), (.double 0)]) (hj : ¬ j < (2 : Int32)) :
    Con l (⟨"com/example/ganttwright/ganttwright/ResourceProfile", "stepStart", "(I)D"⟩ : MethodName) prog_23_method_4_code 2 (some .double) ws ({ frames := 0, cells := 0, slots := 0, locals := 0 } : Room) Z #[(.ref a), (.int j)] h0 ({ frames := 0, cells := 0, slots := 0, locals := 0 } : Room).cells ({ frames := 0, cells := 0, slots := 0, locals := 0 } : Room).slots (Q_rmSS2_x Z a ti sp y1 y2 j h0 n0) := by
  refine Con.of (Ls := #[.val (.ref a), .val (.int j)]) (plainFor_of_name (by first | (simp [plainName, overriddenIn]; done) | decide +kernel)) (fun m => by first | (simp [entryFrame, mkF, argsToLocals, Value.category]; done) | rfl) ?_
  intro p e s m below meth c s₁ G hGe hG hx hby hml hown hnm hrt hlk hZ X0 e0
  have hown : s.vm.findClass "com/example/ganttwright/ganttwright/ResourceProfile" = some m.cls := hown
  have hnm : meth.name = "stepStart" := hnm
  have NF0 := Fr.nil n0
  refine g_iloadN hG X0 hx (hb hby d11_0) (pc' := 1) rfl rfl ?_
  refine g_aloadN hG X0 hx (hb hby d11_1) (pc' := 2) rfl rfl rfl ?_
  refine g_getF hG X0 hx hZ hown (wd hw 17 rfl) Via.refl e0 F_count_a (hb hby d11_2) (pc' := 5) rfl ?_
  intro T1 X1 e1
  refine g_icmpYes hG X1 hx (hb hby d11_5) (pc' := 17) ((flt hj).2.1) (by decide) (by decide) ?_
  refine g_ldcDouble hG X1 hx hZ hown (wd hw 72 rfl) (hb hby d11_17) (pc' := 20) rfl ?_
  exact e_retD hGe X1 hx hrt hlk (hb hby d11_20) e1 (by decide) (by decide) (⟨rfl, NF0, rfl⟩)

def Q_rmSS3_0 (Z : State) (a ti sp : Addr) (y1 y2 : UInt64) (h0 : Heap) (n0 : Nat) (v : Option Value) (h : Heap) (L : List Loc) : Prop := v = some (.double (0 : UInt64)) ∧ Fr n0 L ∧ h = h0
set_option maxRecDepth 65536 in
set_option maxHeartbeats 40000000 in
theorem rmSS3_0 (l : Launch) (Z : State) (a0 : Array Value) (hw : ∀ d ∈ tables_1, d.before a0 Z = true) (ws : List Jvm.Cond) (a ti sp : Addr) (y1 y2 : UInt64) (h0 : Heap) (n0 : Nat) (Zs : n0 ≤ h0.size) (Ex_a : Exa Z h0 a "com/example/ganttwright/ganttwright/ResourceProfile") (F_times_a : Fld Z h0 a "com/example/ganttwright/ganttwright/ResourceProfile" "times" "[D" (.ref ti)) (F_steps_a : Fld Z h0 a "com/example/ganttwright/ganttwright/ResourceProfile" "steps" "[[I" (.ref sp)) (F_count_a : Fld Z h0 a "com/example/ganttwright/ganttwright/ResourceProfile" "count" "I" (.int (3 : Int32))) (V_ti : AV Z h0 ti .double (16 : Int32) [(.double 0), (.double y1), (.double y2), (.double 0), (.double 0), (.double 0), (.double 0), (.double 0), (.double 0), (.double 0), (.double 0), (.double 0), (.double 0), (.double 0), (.double 0), (.double 0)]) :
    Con l (⟨"com/example/ganttwright/ganttwright/ResourceProfile", "stepStart", "(I)D"⟩ : MethodName) prog_23_method_4_code 2 (some .double) ws ({ frames := 0, cells := 0, slots := 0, locals := 0 } : Room) Z #[(.ref a), (.int 0)] h0 ({ frames := 0, cells := 0, slots := 0, locals := 0 } : Room).cells ({ frames := 0, cells := 0, slots := 0, locals := 0 } : Room).slots (Q_rmSS3_0 Z a ti sp y1 y2 h0 n0) := by
  refine Con.of (Ls := #[.val (.ref a), .val (.int 0)]) (plainFor_of_name (by first | (simp [plainName, overriddenIn]; done) | decide +kernel)) (fun m => by first | (simp [entryFrame, mkF, argsToLocals, Value.category]; done) | rfl) ?_
  intro p e s m below meth c s₁ G hGe hG hx hby hml hown hnm hrt hlk hZ X0 e0
  have hown : s.vm.findClass "com/example/ganttwright/ganttwright/ResourceProfile" = some m.cls := hown
  have hnm : meth.name = "stepStart" := hnm
  have NF0 := Fr.nil n0
  refine g_iloadN hG X0 hx (hb hby d11_0) (pc' := 1) rfl rfl ?_
  refine g_aloadN hG X0 hx (hb hby d11_1) (pc' := 2) rfl rfl rfl ?_
  refine g_getF hG X0 hx hZ hown (wd hw 17 rfl) Via.refl e0 F_count_a (hb hby d11_2) (pc' := 5) rfl ?_
  intro T1 X1 e1
  refine g_icmpNo hG X1 hx (hb hby d11_5) (pc' := 8) (by decide) rfl ?_
  refine g_aloadN hG X1 hx (hb hby d11_8) (pc' := 9) rfl rfl rfl ?_
  refine g_getF hG X1 hx hZ hown (wd hw 11 rfl) Via.refl e1 F_times_a (hb hby d11_9) (pc' := 12) rfl ?_
  intro T2 X2 e2
  refine g_iloadN hG X2 hx (hb hby d11_12) (pc' := 13) rfl rfl ?_
  refine g_daload hG X2 hx hZ e2 V_ti (j := (0 : Int32)) (v := (.double 0)) (by decide) rfl (hb hby d11_13) (pc' := 14) rfl ?_
  refine g_goto hG X2 hx (hb hby d11_14) (pc' := 20) (by decide) (by decide) ?_
  exact e_retD hGe X2 hx hrt hlk (hb hby d11_20) e2 (by decide) (by decide) (⟨rfl, NF0, rfl⟩)

def Q_rmSS3_1 (Z : State) (a ti sp : Addr) (y1 y2 : UInt64) (h0 : Heap) (n0 : Nat) (v : Option Value) (h : Heap) (L : List Loc) : Prop := v = some (.double y1) ∧ Fr n0 L ∧ h = h0
set_option maxRecDepth 65536 in
set_option maxHeartbeats 40000000 in
theorem rmSS3_1 (l : Launch) (Z : State) (a0 : Array Value) (hw : ∀ d ∈ tables_1, d.before a0 Z = true) (ws : List Jvm.Cond) (a ti sp : Addr) (y1 y2 : UInt64) (h0 : Heap) (n0 : Nat) (Zs : n0 ≤ h0.size) (Ex_a : Exa Z h0 a "com/example/ganttwright/ganttwright/ResourceProfile") (F_times_a : Fld Z h0 a "com/example/ganttwright/ganttwright/ResourceProfile" "times" "[D" (.ref ti)) (F_steps_a : Fld Z h0 a "com/example/ganttwright/ganttwright/ResourceProfile" "steps" "[[I" (.ref sp)) (F_count_a : Fld Z h0 a "com/example/ganttwright/ganttwright/ResourceProfile" "count" "I" (.int (3 : Int32))) (V_ti : AV Z h0 ti .double (16 : Int32) [(.double 0), (.double y1), (.double y2), (.double 0), (.double 0), (.double 0), (.double 0), (.double 0), (.double 0), (.double 0), (.double 0), (.double 0), (.double 0), (.double 0), (.double 0), (.double 0)]) :
    Con l (⟨"com/example/ganttwright/ganttwright/ResourceProfile", "stepStart", "(I)D"⟩ : MethodName) prog_23_method_4_code 2 (some .double) ws ({ frames := 0, cells := 0, slots := 0, locals := 0 } : Room) Z #[(.ref a), (.int 1)] h0 ({ frames := 0, cells := 0, slots := 0, locals := 0 } : Room).cells ({ frames := 0, cells := 0, slots := 0, locals := 0 } : Room).slots (Q_rmSS3_1 Z a ti sp y1 y2 h0 n0) := by
  refine Con.of (Ls := #[.val (.ref a), .val (.int 1)]) (plainFor_of_name (by first | (simp [plainName, overriddenIn]; done) | decide +kernel)) (fun m => by first | (simp [entryFrame, mkF, argsToLocals, Value.category]; done) | rfl) ?_
  intro p e s m below meth c s₁ G hGe hG hx hby hml hown hnm hrt hlk hZ X0 e0
  have hown : s.vm.findClass "com/example/ganttwright/ganttwright/ResourceProfile" = some m.cls := hown
  have hnm : meth.name = "stepStart" := hnm
  have NF0 := Fr.nil n0
  refine g_iloadN hG X0 hx (hb hby d11_0) (pc' := 1) rfl rfl ?_
  refine g_aloadN hG X0 hx (hb hby d11_1) (pc' := 2) rfl rfl rfl ?_
  refine g_getF hG X0 hx hZ hown (wd hw 17 rfl) Via.refl e0 F_count_a (hb hby d11_2) (pc' := 5) rfl ?_
  intro T1 X1 e1
  refine g_icmpNo hG X1 hx (hb hby d11_5) (pc' := 8) (by decide) rfl ?_
  refine g_aloadN hG X1 hx (hb hby d11_8) (pc' := 9) rfl rfl rfl ?_
  refine g_getF hG X1 hx hZ hown (wd hw 11 rfl) Via.refl e1 F_times_a (hb hby d11_9) (pc' := 12) rfl ?_
  intro T2 X2 e2
  refine g_iloadN hG X2 hx (hb hby d11_12) (pc' := 13) rfl rfl ?_
  refine g_daload hG X2 hx hZ e2 V_ti (j := (1 : Int32)) (v := (.double y1)) (by decide) rfl (hb hby d11_13) (pc' := 14) rfl ?_
  refine g_goto hG X2 hx (hb hby d11_14) (pc' := 20) (by decide) (by decide) ?_
  exact e_retD hGe X2 hx hrt hlk (hb hby d11_20) e2 (by decide) (by decide) (⟨rfl, NF0, rfl⟩)

def Q_rmSS3_2 (Z : State) (a ti sp : Addr) (y1 y2 : UInt64) (h0 : Heap) (n0 : Nat) (v : Option Value) (h : Heap) (L : List Loc) : Prop := v = some (.double y2) ∧ Fr n0 L ∧ h = h0
set_option maxRecDepth 65536 in
set_option maxHeartbeats 40000000 in
theorem rmSS3_2 (l : Launch) (Z : State) (a0 : Array Value) (hw : ∀ d ∈ tables_1, d.before a0 Z = true) (ws : List Jvm.Cond) (a ti sp : Addr) (y1 y2 : UInt64) (h0 : Heap) (n0 : Nat) (Zs : n0 ≤ h0.size) (Ex_a : Exa Z h0 a "com/example/ganttwright/ganttwright/ResourceProfile") (F_times_a : Fld Z h0 a "com/example/ganttwright/ganttwright/ResourceProfile" "times" "[D" (.ref ti)) (F_steps_a : Fld Z h0 a "com/example/ganttwright/ganttwright/ResourceProfile" "steps" "[[I" (.ref sp)) (F_count_a : Fld Z h0 a "com/example/ganttwright/ganttwright/ResourceProfile" "count" "I" (.int (3 : Int32))) (V_ti : AV Z h0 ti .double (16 : Int32) [(.double 0), (.double y1), (.double y2), (.double 0), (.double 0), (.double 0), (.double 0), (.double 0), (.double 0), (.double 0), (.double 0), (.double 0), (.double 0), (.double 0), (.double 0), (.double 0)]) :
    Con l (⟨"com/example/ganttwright/ganttwright/ResourceProfile", "stepStart", "(I)D"⟩ : MethodName) prog_23_method_4_code 2 (some .double) ws ({ frames := 0, cells := 0, slots := 0, locals := 0 } : Room) Z #[(.ref a), (.int 2)] h0 ({ frames := 0, cells := 0, slots := 0, locals := 0 } : Room).cells ({ frames := 0, cells := 0, slots := 0, locals := 0 } : Room).slots (Q_rmSS3_2 Z a ti sp y1 y2 h0 n0) := by
  refine Con.of (Ls := #[.val (.ref a), .val (.int 2)]) (plainFor_of_name (by first | (simp [plainName, overriddenIn]; done) | decide +kernel)) (fun m => by first | (simp [entryFrame, mkF, argsToLocals, Value.category]; done) | rfl) ?_
  intro p e s m below meth c s₁ G hGe hG hx hby hml hown hnm hrt hlk hZ X0 e0
  have hown : s.vm.findClass "com/example/ganttwright/ganttwright/ResourceProfile" = some m.cls := hown
  have hnm : meth.name = "stepStart" := hnm
  have NF0 := Fr.nil n0
  refine g_iloadN hG X0 hx (hb hby d11_0) (pc' := 1) rfl rfl ?_
  refine g_aloadN hG X0 hx (hb hby d11_1) (pc' := 2) rfl rfl rfl ?_
  refine g_getF hG X0 hx hZ hown (wd hw 17 rfl) Via.refl e0 F_count_a (hb hby d11_2) (pc' := 5) rfl ?_
  intro T1 X1 e1
  refine g_icmpNo hG X1 hx (hb hby d11_5) (pc' := 8) (by decide) rfl ?_
  refine g_aloadN hG X1 hx (hb hby d11_8) (pc' := 9) rfl rfl rfl ?_
  refine g_getF hG X1 hx hZ hown (wd hw 11 rfl) Via.refl e1 F_times_a (hb hby d11_9) (pc' := 12) rfl ?_
  intro T2 X2 e2
  refine g_iloadN hG X2 hx (hb hby d11_12) (pc' := 13) rfl rfl ?_
  refine g_daload hG X2 hx hZ e2 V_ti (j := (2 : Int32)) (v := (.double y2)) (by decide) rfl (hb hby d11_13) (pc' := 14) rfl ?_
  refine g_goto hG X2 hx (hb hby d11_14) (pc' := 20) (by decide) (by decide) ?_
  exact e_retD hGe X2 hx hrt hlk (hb hby d11_20) e2 (by decide) (by decide) (⟨rfl, NF0, rfl⟩)

def Q_rmSS3_x (Z : State) (a ti sp : Addr) (y1 y2 : UInt64) (j : Int32) (h0 : Heap) (n0 : Nat) (v : Option Value) (h : Heap) (L : List Loc) : Prop := v = some (.double (9218868437227405312 : UInt64)) ∧ Fr n0 L ∧ h = h0
set_option maxRecDepth 65536 in
set_option maxHeartbeats 40000000 in
theorem rmSS3_x (l : Launch) (Z : State) (a0 : Array Value) (hw : ∀ d ∈ tables_1, d.before a0 Z = true) (ws : List Jvm.Cond) (a ti sp : Addr) (y1 y2 : UInt64) (j : Int32) (h0 : Heap) (n0 : Nat) (Zs : n0 ≤ h0.size) (Ex_a : Exa Z h0 a "com/example/ganttwright/ganttwright/ResourceProfile") (F_times_a : Fld Z h0 a "com/example/ganttwright/ganttwright/ResourceProfile" "times" "[D" (.ref ti)) (F_steps_a : Fld Z h0 a "com/example/ganttwright/ganttwright/ResourceProfile" "steps" "[[I" (.ref sp)) (F_count_a : Fld Z h0 a "com/example/ganttwright/ganttwright/ResourceProfile" "count" "I" (.int (3 : Int32))) (V_ti : AV Z h0 ti .double (16 : Int32) [(.double 0), (.double y1), (.double y2), (.double 0), (.double 0), (.double 0), (.double 0), (.double 0), (.double 0), (.double 0), (.double 0), (.double 0), (.double 0), (.double 0), (.double 0), (.double 0)]) (hj : ¬ j < (3 : Int32)) :
    Con l (⟨"com/example/ganttwright/ganttwright/ResourceProfile", "stepStart", "(I)D"⟩ : MethodName) prog_23_method_4_code 2 (some .double) ws ({ frames := 0, cells := 0, slots := 0, locals := 0 } : Room) Z #[(.ref a), (.int j)] h0 ({ frames := 0, cells := 0, slots := 0, locals := 0 } : Room).cells ({ frames := 0, cells := 0, slots := 0, locals := 0 } : Room).slots (Q_rmSS3_x Z a ti sp y1 y2 j h0 n0) := by
  refine Con.of (Ls := #[.val (.ref a), .val (.int j)]) (plainFor_of_name (by first | (simp [plainName, overriddenIn]; done) | decide +kernel)) (fun m => by first | (simp [entryFrame, mkF, argsToLocals, Value.category]; done) | rfl) ?_
  intro p e s m below meth c s₁ G hGe hG hx hby hml hown hnm hrt hlk hZ X0 e0
  have hown : s.vm.findClass "com/example/ganttwright/ganttwright/ResourceProfile" = some m.cls := hown
  have hnm : meth.name = "stepStart" := hnm
  have NF0 := Fr.nil n0
  refine g_iloadN hG X0 hx (hb hby d11_0) (pc' := 1) rfl rfl ?_
  refine g_aloadN hG X0 hx (hb hby d11_1) (pc' := 2) rfl rfl rfl ?_
  refine g_getF hG X0 hx hZ hown (wd hw 17 rfl) Via.refl e0 F_count_a (hb hby d11_2) (pc' := 5) rfl ?_
  intro T1 X1 e1
  refine g_icmpYes hG X1 hx (hb hby d11_5) (pc' := 17) ((flt hj).2.1) (by decide) (by decide) ?_
  refine g_ldcDouble hG X1 hx hZ hown (wd hw 72 rfl) (hb hby d11_17) (pc' := 20) rfl ?_
  exact e_retD hGe X1 hx hrt hlk (hb hby d11_20) e1 (by decide) (by decide) (⟨rfl, NF0, rfl⟩)

def Q_rmEN0 (Z : State) (x y : Int32) (h0 : Heap) (n0 : Nat) (v : Option Value) (h : Heap) (L : List Loc) : Prop := v = some (.double 0) ∧ Fr n0 L ∧ h = h0
set_option maxRecDepth 65536 in
set_option maxHeartbeats 40000000 in
theorem rmEN0 (l : Launch) (Z : State) (a0 : Array Value) (hw : ∀ d ∈ tables_1, d.before a0 Z = true) (ws : List Jvm.Cond) (x y : Int32) (h0 : Heap) (n0 : Nat) (Zs : n0 ≤ h0.size) (hab : ¬ x < y) :
    Con l (⟨"com/example/ganttwright/ganttwright/ResourceProfileStepStartPinLaw", "expected", "(III)D"⟩ : MethodName) method_2_code 5 (some .double) ws ({ frames := 0, cells := 0, slots := 0, locals := 0 } : Room) Z #[(.int x), (.int y), (.int 0)] h0 ({ frames := 0, cells := 0, slots := 0, locals := 0 } : Room).cells ({ frames := 0, cells := 0, slots := 0, locals := 0 } : Room).slots (Q_rmEN0 Z x y h0 n0) := by
  refine Con.of (Ls := #[.val (.int x), .val (.int y), .val (.int 0), .unset, .unset]) (plainFor_of_name (by first | (simp [plainName, overriddenIn]; done) | decide +kernel)) (fun m => by first | (simp [entryFrame, mkF, argsToLocals, Value.category]; done) | rfl) ?_
  intro p e s m below meth c s₁ G hGe hG hx hby hml hown hnm hrt hlk hZ X0 e0
  have hown : s.vm.findClass "com/example/ganttwright/ganttwright/ResourceProfileStepStartPinLaw" = some m.cls := hown
  have hnm : meth.name = "expected" := hnm
  have NF0 := Fr.nil n0
  refine g_ldcDouble hG X0 hx hZ hown (wd hw 77 rfl) (hb hby d12_0) (pc' := 3) rfl ?_
  refine g_dstoreN hG X0 hx (hb hby d12_3) (pc' := 4) rfl (Ls' := #[.val (.int x), .val (.int y), .val (.int 0), .val (.double 9218868437227405312), .second]) rfl ?_
  refine g_iloadN hG X0 hx (hb hby d12_4) (pc' := 5) rfl rfl ?_
  refine g_iloadN hG X0 hx (hb hby d12_5) (pc' := 6) rfl rfl ?_
  refine g_icmpNo hG X0 hx (hb hby d12_6) (pc' := 9) ((flt hab).2.2.1) rfl ?_
  refine g_iloadN hG X0 hx (hb hby d12_9) (pc' := 10) rfl rfl ?_
  refine g_ifNo hG X0 hx (hb hby d12_10) (pc' := 13) (by decide) rfl ?_
  refine g_dconst0 hG X0 hx (hb hby d12_13) (pc' := 14) rfl (v := (0 : UInt64)) rfl ?_
  refine g_goto hG X0 hx (hb hby d12_14) (pc' := 18) (by decide) (by decide) ?_
  exact e_retD hGe X0 hx hrt hlk (hb hby d12_18) e0 (by decide) (by decide) (⟨rfl, NF0, rfl⟩)

def Q_rmENx (Z : State) (x y j : Int32) (h0 : Heap) (n0 : Nat) (v : Option Value) (h : Heap) (L : List Loc) : Prop := v = some (.double (9218868437227405312 : UInt64)) ∧ Fr n0 L ∧ h = h0
set_option maxRecDepth 65536 in
set_option maxHeartbeats 40000000 in
theorem rmENx (l : Launch) (Z : State) (a0 : Array Value) (hw : ∀ d ∈ tables_1, d.before a0 Z = true) (ws : List Jvm.Cond) (x y j : Int32) (h0 : Heap) (n0 : Nat) (Zs : n0 ≤ h0.size) (hab : ¬ x < y) (hj0 : ¬ j = (0 : Int32)) :
    Con l (⟨"com/example/ganttwright/ganttwright/ResourceProfileStepStartPinLaw", "expected", "(III)D"⟩ : MethodName) method_2_code 5 (some .double) ws ({ frames := 0, cells := 0, slots := 0, locals := 0 } : Room) Z #[(.int x), (.int y), (.int j)] h0 ({ frames := 0, cells := 0, slots := 0, locals := 0 } : Room).cells ({ frames := 0, cells := 0, slots := 0, locals := 0 } : Room).slots (Q_rmENx Z x y j h0 n0) := by
  refine Con.of (Ls := #[.val (.int x), .val (.int y), .val (.int j), .unset, .unset]) (plainFor_of_name (by first | (simp [plainName, overriddenIn]; done) | decide +kernel)) (fun m => by first | (simp [entryFrame, mkF, argsToLocals, Value.category]; done) | rfl) ?_
  intro p e s m below meth c s₁ G hGe hG hx hby hml hown hnm hrt hlk hZ X0 e0
  have hown : s.vm.findClass "com/example/ganttwright/ganttwright/ResourceProfileStepStartPinLaw" = some m.cls := hown
  have hnm : meth.name = "expected" := hnm
  have NF0 := Fr.nil n0
  refine g_ldcDouble hG X0 hx hZ hown (wd hw 77 rfl) (hb hby d12_0) (pc' := 3) rfl ?_
  refine g_dstoreN hG X0 hx (hb hby d12_3) (pc' := 4) rfl (Ls' := #[.val (.int x), .val (.int y), .val (.int j), .val (.double 9218868437227405312), .second]) rfl ?_
  refine g_iloadN hG X0 hx (hb hby d12_4) (pc' := 5) rfl rfl ?_
  refine g_iloadN hG X0 hx (hb hby d12_5) (pc' := 6) rfl rfl ?_
  refine g_icmpNo hG X0 hx (hb hby d12_6) (pc' := 9) ((flt hab).2.2.1) rfl ?_
  refine g_iloadN hG X0 hx (hb hby d12_9) (pc' := 10) rfl rfl ?_
  refine g_ifYes hG X0 hx (hb hby d12_10) (pc' := 17) ((if0 _ _).trans (feq hj0).2) (by decide) (by decide) ?_
  refine g_dloadN hG X0 hx (hb hby d12_17) (pc' := 18) rfl rfl ?_
  exact e_retD hGe X0 hx hrt hlk (hb hby d12_18) e0 (by decide) (by decide) (⟨rfl, NF0, rfl⟩)

def Q_rmE00 (Z : State) (y : Int32) (h0 : Heap) (n0 : Nat) (v : Option Value) (h : Heap) (L : List Loc) : Prop := v = some (.double 0) ∧ Fr n0 L ∧ h = h0
set_option maxRecDepth 65536 in
set_option maxHeartbeats 40000000 in
theorem rmE00 (l : Launch) (Z : State) (a0 : Array Value) (hw : ∀ d ∈ tables_1, d.before a0 Z = true) (ws : List Jvm.Cond) (y : Int32) (h0 : Heap) (n0 : Nat) (Zs : n0 ≤ h0.size) (hab : (0 : Int32) < y) :
    Con l (⟨"com/example/ganttwright/ganttwright/ResourceProfileStepStartPinLaw", "expected", "(III)D"⟩ : MethodName) method_2_code 5 (some .double) ws ({ frames := 0, cells := 0, slots := 0, locals := 0 } : Room) Z #[(.int 0), (.int y), (.int 0)] h0 ({ frames := 0, cells := 0, slots := 0, locals := 0 } : Room).cells ({ frames := 0, cells := 0, slots := 0, locals := 0 } : Room).slots (Q_rmE00 Z y h0 n0) := by
  refine Con.of (Ls := #[.val (.int 0), .val (.int y), .val (.int 0), .unset, .unset]) (plainFor_of_name (by first | (simp [plainName, overriddenIn]; done) | decide +kernel)) (fun m => by first | (simp [entryFrame, mkF, argsToLocals, Value.category]; done) | rfl) ?_
  intro p e s m below meth c s₁ G hGe hG hx hby hml hown hnm hrt hlk hZ X0 e0
  have hown : s.vm.findClass "com/example/ganttwright/ganttwright/ResourceProfileStepStartPinLaw" = some m.cls := hown
  have hnm : meth.name = "expected" := hnm
  have NF0 := Fr.nil n0
  refine g_ldcDouble hG X0 hx hZ hown (wd hw 77 rfl) (hb hby d12_0) (pc' := 3) rfl ?_
  refine g_dstoreN hG X0 hx (hb hby d12_3) (pc' := 4) rfl (Ls' := #[.val (.int 0), .val (.int y), .val (.int 0), .val (.double 9218868437227405312), .second]) rfl ?_
  refine g_iloadN hG X0 hx (hb hby d12_4) (pc' := 5) rfl rfl ?_
  refine g_iloadN hG X0 hx (hb hby d12_5) (pc' := 6) rfl rfl ?_
  refine g_icmpYes hG X0 hx (hb hby d12_6) (pc' := 19) ((tlt hab).2.2.1) (by decide) (by decide) ?_
  refine g_iloadN hG X0 hx (hb hby d12_19) (pc' := 20) rfl rfl ?_
  refine g_ifNo hG X0 hx (hb hby d12_20) (pc' := 23) (by decide) rfl ?_
  refine g_iloadN hG X0 hx (hb hby d12_23) (pc' := 24) rfl rfl ?_
  refine g_ifNo hG X0 hx (hb hby d12_24) (pc' := 27) (by decide) rfl ?_
  refine g_dconst0 hG X0 hx (hb hby d12_27) (pc' := 28) rfl (v := (0 : UInt64)) rfl ?_
  exact e_retD hGe X0 hx hrt hlk (hb hby d12_28) e0 (by decide) (by decide) (⟨rfl, NF0, rfl⟩)

def Q_rmE01 (Z : State) (y : Int32) (rr : UInt64) (h0 : Heap) (n0 : Nat) (v : Option Value) (h : Heap) (L : List Loc) : Prop := v = some (.double rr) ∧ Fr n0 L ∧ h = h0
set_option maxRecDepth 65536 in
set_option maxHeartbeats 40000000 in
theorem rmE01 (l : Launch) (Z : State) (a0 : Array Value) (hw : ∀ d ∈ tables_1, d.before a0 Z = true) (ws : List Jvm.Cond) (y : Int32) (rr : UInt64) (h0 : Heap) (n0 : Nat) (Zs : n0 ≤ h0.size) (hab : (0 : Int32) < y) (hr : FP.i2d y = rr) :
    Con l (⟨"com/example/ganttwright/ganttwright/ResourceProfileStepStartPinLaw", "expected", "(III)D"⟩ : MethodName) method_2_code 5 (some .double) ws ({ frames := 0, cells := 0, slots := 0, locals := 0 } : Room) Z #[(.int 0), (.int y), (.int 1)] h0 ({ frames := 0, cells := 0, slots := 0, locals := 0 } : Room).cells ({ frames := 0, cells := 0, slots := 0, locals := 0 } : Room).slots (Q_rmE01 Z y rr h0 n0) := by
  refine Con.of (Ls := #[.val (.int 0), .val (.int y), .val (.int 1), .unset, .unset]) (plainFor_of_name (by first | (simp [plainName, overriddenIn]; done) | decide +kernel)) (fun m => by first | (simp [entryFrame, mkF, argsToLocals, Value.category]; done) | rfl) ?_
  intro p e s m below meth c s₁ G hGe hG hx hby hml hown hnm hrt hlk hZ X0 e0
  have hown : s.vm.findClass "com/example/ganttwright/ganttwright/ResourceProfileStepStartPinLaw" = some m.cls := hown
  have hnm : meth.name = "expected" := hnm
  have NF0 := Fr.nil n0
  refine g_ldcDouble hG X0 hx hZ hown (wd hw 77 rfl) (hb hby d12_0) (pc' := 3) rfl ?_
  refine g_dstoreN hG X0 hx (hb hby d12_3) (pc' := 4) rfl (Ls' := #[.val (.int 0), .val (.int y), .val (.int 1), .val (.double 9218868437227405312), .second]) rfl ?_
  refine g_iloadN hG X0 hx (hb hby d12_4) (pc' := 5) rfl rfl ?_
  refine g_iloadN hG X0 hx (hb hby d12_5) (pc' := 6) rfl rfl ?_
  refine g_icmpYes hG X0 hx (hb hby d12_6) (pc' := 19) ((tlt hab).2.2.1) (by decide) (by decide) ?_
  refine g_iloadN hG X0 hx (hb hby d12_19) (pc' := 20) rfl rfl ?_
  refine g_ifNo hG X0 hx (hb hby d12_20) (pc' := 23) (by decide) rfl ?_
  refine g_iloadN hG X0 hx (hb hby d12_23) (pc' := 24) rfl rfl ?_
  refine g_ifYes hG X0 hx (hb hby d12_24) (pc' := 29) (by decide) (by decide) (by decide) ?_
  refine g_iloadN hG X0 hx (hb hby d12_29) (pc' := 30) rfl rfl ?_
  refine g_iconst hG X0 hx (hb hby d12_30) (pc' := 31) rfl (v := (1 : Int32)) rfl ?_
  refine g_icmpNo hG X0 hx (hb hby d12_31) (pc' := 34) (by decide) rfl ?_
  refine g_iloadN hG X0 hx (hb hby d12_34) (pc' := 35) rfl rfl ?_
  refine g_i2d hG X0 hx (hb hby d12_35) (pc' := 36) rfl hr ?_
  exact e_retD hGe X0 hx hrt hlk (hb hby d12_36) e0 (by decide) (by decide) (⟨rfl, NF0, rfl⟩)

def Q_rmE0x (Z : State) (y j : Int32) (h0 : Heap) (n0 : Nat) (v : Option Value) (h : Heap) (L : List Loc) : Prop := v = some (.double (9218868437227405312 : UInt64)) ∧ Fr n0 L ∧ h = h0
set_option maxRecDepth 65536 in
set_option maxHeartbeats 40000000 in
theorem rmE0x (l : Launch) (Z : State) (a0 : Array Value) (hw : ∀ d ∈ tables_1, d.before a0 Z = true) (ws : List Jvm.Cond) (y j : Int32) (h0 : Heap) (n0 : Nat) (Zs : n0 ≤ h0.size) (hab : (0 : Int32) < y) (hj0 : ¬ j = (0 : Int32)) (hj1 : ¬ j = (1 : Int32)) :
    Con l (⟨"com/example/ganttwright/ganttwright/ResourceProfileStepStartPinLaw", "expected", "(III)D"⟩ : MethodName) method_2_code 5 (some .double) ws ({ frames := 0, cells := 0, slots := 0, locals := 0 } : Room) Z #[(.int 0), (.int y), (.int j)] h0 ({ frames := 0, cells := 0, slots := 0, locals := 0 } : Room).cells ({ frames := 0, cells := 0, slots := 0, locals := 0 } : Room).slots (Q_rmE0x Z y j h0 n0) := by
  refine Con.of (Ls := #[.val (.int 0), .val (.int y), .val (.int j), .unset, .unset]) (plainFor_of_name (by first | (simp [plainName, overriddenIn]; done) | decide +kernel)) (fun m => by first | (simp [entryFrame, mkF, argsToLocals, Value.category]; done) | rfl) ?_
  intro p e s m below meth c s₁ G hGe hG hx hby hml hown hnm hrt hlk hZ X0 e0
  have hown : s.vm.findClass "com/example/ganttwright/ganttwright/ResourceProfileStepStartPinLaw" = some m.cls := hown
  have hnm : meth.name = "expected" := hnm
  have NF0 := Fr.nil n0
  refine g_ldcDouble hG X0 hx hZ hown (wd hw 77 rfl) (hb hby d12_0) (pc' := 3) rfl ?_
  refine g_dstoreN hG X0 hx (hb hby d12_3) (pc' := 4) rfl (Ls' := #[.val (.int 0), .val (.int y), .val (.int j), .val (.double 9218868437227405312), .second]) rfl ?_
  refine g_iloadN hG X0 hx (hb hby d12_4) (pc' := 5) rfl rfl ?_
  refine g_iloadN hG X0 hx (hb hby d12_5) (pc' := 6) rfl rfl ?_
  refine g_icmpYes hG X0 hx (hb hby d12_6) (pc' := 19) ((tlt hab).2.2.1) (by decide) (by decide) ?_
  refine g_iloadN hG X0 hx (hb hby d12_19) (pc' := 20) rfl rfl ?_
  refine g_ifNo hG X0 hx (hb hby d12_20) (pc' := 23) (by decide) rfl ?_
  refine g_iloadN hG X0 hx (hb hby d12_23) (pc' := 24) rfl rfl ?_
  refine g_ifYes hG X0 hx (hb hby d12_24) (pc' := 29) ((if0 _ _).trans (feq hj0).2) (by decide) (by decide) ?_
  refine g_iloadN hG X0 hx (hb hby d12_29) (pc' := 30) rfl rfl ?_
  refine g_iconst hG X0 hx (hb hby d12_30) (pc' := 31) rfl (v := (1 : Int32)) rfl ?_
  refine g_icmpYes hG X0 hx (hb hby d12_31) (pc' := 37) ((feq hj1).2) (by decide) (by decide) ?_
  refine g_dloadN hG X0 hx (hb hby d12_37) (pc' := 38) rfl rfl ?_
  exact e_retD hGe X0 hx hrt hlk (hb hby d12_38) e0 (by decide) (by decide) (⟨rfl, NF0, rfl⟩)

def Q_rmE10 (Z : State) (x y : Int32) (h0 : Heap) (n0 : Nat) (v : Option Value) (h : Heap) (L : List Loc) : Prop := v = some (.double 0) ∧ Fr n0 L ∧ h = h0
set_option maxRecDepth 65536 in
set_option maxHeartbeats 40000000 in
theorem rmE10 (l : Launch) (Z : State) (a0 : Array Value) (hw : ∀ d ∈ tables_1, d.before a0 Z = true) (ws : List Jvm.Cond) (x y : Int32) (h0 : Heap) (n0 : Nat) (Zs : n0 ≤ h0.size) (hab : x < y) (ha : ¬ x = 0) :
    Con l (⟨"com/example/ganttwright/ganttwright/ResourceProfileStepStartPinLaw", "expected", "(III)D"⟩ : MethodName) method_2_code 5 (some .double) ws ({ frames := 0, cells := 0, slots := 0, locals := 0 } : Room) Z #[(.int x), (.int y), (.int 0)] h0 ({ frames := 0, cells := 0, slots := 0, locals := 0 } : Room).cells ({ frames := 0, cells := 0, slots := 0, locals := 0 } : Room).slots (Q_rmE10 Z x y h0 n0) := by
  refine Con.of (Ls := #[.val (.int x), .val (.int y), .val (.int 0), .unset, .unset]) (plainFor_of_name (by first | (simp [plainName, overriddenIn]; done) | decide +kernel)) (fun m => by first | (simp [entryFrame, mkF, argsToLocals, Value.category]; done) | rfl) ?_
  intro p e s m below meth c s₁ G hGe hG hx hby hml hown hnm hrt hlk hZ X0 e0
  have hown : s.vm.findClass "com/example/ganttwright/ganttwright/ResourceProfileStepStartPinLaw" = some m.cls := hown
  have hnm : meth.name = "expected" := hnm
  have NF0 := Fr.nil n0
  refine g_ldcDouble hG X0 hx hZ hown (wd hw 77 rfl) (hb hby d12_0) (pc' := 3) rfl ?_
  refine g_dstoreN hG X0 hx (hb hby d12_3) (pc' := 4) rfl (Ls' := #[.val (.int x), .val (.int y), .val (.int 0), .val (.double 9218868437227405312), .second]) rfl ?_
  refine g_iloadN hG X0 hx (hb hby d12_4) (pc' := 5) rfl rfl ?_
  refine g_iloadN hG X0 hx (hb hby d12_5) (pc' := 6) rfl rfl ?_
  refine g_icmpYes hG X0 hx (hb hby d12_6) (pc' := 19) ((tlt hab).2.2.1) (by decide) (by decide) ?_
  refine g_iloadN hG X0 hx (hb hby d12_19) (pc' := 20) rfl rfl ?_
  refine g_ifYes hG X0 hx (hb hby d12_20) (pc' := 39) ((if0 _ _).trans (feq ha).2) (by decide) (by decide) ?_
  refine g_iloadN hG X0 hx (hb hby d12_39) (pc' := 40) rfl rfl ?_
  refine g_ifNo hG X0 hx (hb hby d12_40) (pc' := 43) (by decide) rfl ?_
  refine g_dconst0 hG X0 hx (hb hby d12_43) (pc' := 44) rfl (v := (0 : UInt64)) rfl ?_
  exact e_retD hGe X0 hx hrt hlk (hb hby d12_44) e0 (by decide) (by decide) (⟨rfl, NF0, rfl⟩)

def Q_rmE11 (Z : State) (x y : Int32) (rr : UInt64) (h0 : Heap) (n0 : Nat) (v : Option Value) (h : Heap) (L : List Loc) : Prop := v = some (.double rr) ∧ Fr n0 L ∧ h = h0
set_option maxRecDepth 65536 in
set_option maxHeartbeats 40000000 in
theorem rmE11 (l : Launch) (Z : State) (a0 : Array Value) (hw : ∀ d ∈ tables_1, d.before a0 Z = true) (ws : List Jvm.Cond) (x y : Int32) (rr : UInt64) (h0 : Heap) (n0 : Nat) (Zs : n0 ≤ h0.size) (hab : x < y) (ha : ¬ x = 0) (hr : FP.i2d x = rr) :
    Con l (⟨"com/example/ganttwright/ganttwright/ResourceProfileStepStartPinLaw", "expected", "(III)D"⟩ : MethodName) method_2_code 5 (some .double) ws ({ frames := 0, cells := 0, slots := 0, locals := 0 } : Room) Z #[(.int x), (.int y), (.int 1)] h0 ({ frames := 0, cells := 0, slots := 0, locals := 0 } : Room).cells ({ frames := 0, cells := 0, slots := 0, locals := 0 } : Room).slots (Q_rmE11 Z x y rr h0 n0) := by
  refine Con.of (Ls := #[.val (.int x), .val (.int y), .val (.int 1), .unset, .unset]) (plainFor_of_name (by first | (simp [plainName, overriddenIn]; done) | decide +kernel)) (fun m => by first | (simp [entryFrame, mkF, argsToLocals, Value.category]; done) | rfl) ?_
  intro p e s m below meth c s₁ G hGe hG hx hby hml hown hnm hrt hlk hZ X0 e0
  have hown : s.vm.findClass "com/example/ganttwright/ganttwright/ResourceProfileStepStartPinLaw" = some m.cls := hown
  have hnm : meth.name = "expected" := hnm
  have NF0 := Fr.nil n0
  refine g_ldcDouble hG X0 hx hZ hown (wd hw 77 rfl) (hb hby d12_0) (pc' := 3) rfl ?_
  refine g_dstoreN hG X0 hx (hb hby d12_3) (pc' := 4) rfl (Ls' := #[.val (.int x), .val (.int y), .val (.int 1), .val (.double 9218868437227405312), .second]) rfl ?_
  refine g_iloadN hG X0 hx (hb hby d12_4) (pc' := 5) rfl rfl ?_
  refine g_iloadN hG X0 hx (hb hby d12_5) (pc' := 6) rfl rfl ?_
  refine g_icmpYes hG X0 hx (hb hby d12_6) (pc' := 19) ((tlt hab).2.2.1) (by decide) (by decide) ?_
  refine g_iloadN hG X0 hx (hb hby d12_19) (pc' := 20) rfl rfl ?_
  refine g_ifYes hG X0 hx (hb hby d12_20) (pc' := 39) ((if0 _ _).trans (feq ha).2) (by decide) (by decide) ?_
  refine g_iloadN hG X0 hx (hb hby d12_39) (pc' := 40) rfl rfl ?_
  refine g_ifYes hG X0 hx (hb hby d12_40) (pc' := 45) (by decide) (by decide) (by decide) ?_
  refine g_iloadN hG X0 hx (hb hby d12_45) (pc' := 46) rfl rfl ?_
  refine g_iconst hG X0 hx (hb hby d12_46) (pc' := 47) rfl (v := (1 : Int32)) rfl ?_
  refine g_icmpNo hG X0 hx (hb hby d12_47) (pc' := 50) (by decide) rfl ?_
  refine g_iloadN hG X0 hx (hb hby d12_50) (pc' := 51) rfl rfl ?_
  refine g_i2d hG X0 hx (hb hby d12_51) (pc' := 52) rfl hr ?_
  exact e_retD hGe X0 hx hrt hlk (hb hby d12_52) e0 (by decide) (by decide) (⟨rfl, NF0, rfl⟩)

def Q_rmE12 (Z : State) (x y : Int32) (rr : UInt64) (h0 : Heap) (n0 : Nat) (v : Option Value) (h : Heap) (L : List Loc) : Prop := v = some (.double rr) ∧ Fr n0 L ∧ h = h0
set_option maxRecDepth 65536 in
set_option maxHeartbeats 40000000 in
theorem rmE12 (l : Launch) (Z : State) (a0 : Array Value) (hw : ∀ d ∈ tables_1, d.before a0 Z = true) (ws : List Jvm.Cond) (x y : Int32) (rr : UInt64) (h0 : Heap) (n0 : Nat) (Zs : n0 ≤ h0.size) (hab : x < y) (ha : ¬ x = 0) (hr : FP.i2d y = rr) :
    Con l (⟨"com/example/ganttwright/ganttwright/ResourceProfileStepStartPinLaw", "expected", "(III)D"⟩ : MethodName) method_2_code 5 (some .double) ws ({ frames := 0, cells := 0, slots := 0, locals := 0 } : Room) Z #[(.int x), (.int y), (.int 2)] h0 ({ frames := 0, cells := 0, slots := 0, locals := 0 } : Room).cells ({ frames := 0, cells := 0, slots := 0, locals := 0 } : Room).slots (Q_rmE12 Z x y rr h0 n0) := by
  refine Con.of (Ls := #[.val (.int x), .val (.int y), .val (.int 2), .unset, .unset]) (plainFor_of_name (by first | (simp [plainName, overriddenIn]; done) | decide +kernel)) (fun m => by first | (simp [entryFrame, mkF, argsToLocals, Value.category]; done) | rfl) ?_
  intro p e s m below meth c s₁ G hGe hG hx hby hml hown hnm hrt hlk hZ X0 e0
  have hown : s.vm.findClass "com/example/ganttwright/ganttwright/ResourceProfileStepStartPinLaw" = some m.cls := hown
  have hnm : meth.name = "expected" := hnm
  have NF0 := Fr.nil n0
  refine g_ldcDouble hG X0 hx hZ hown (wd hw 77 rfl) (hb hby d12_0) (pc' := 3) rfl ?_
  refine g_dstoreN hG X0 hx (hb hby d12_3) (pc' := 4) rfl (Ls' := #[.val (.int x), .val (.int y), .val (.int 2), .val (.double 9218868437227405312), .second]) rfl ?_
  refine g_iloadN hG X0 hx (hb hby d12_4) (pc' := 5) rfl rfl ?_
  refine g_iloadN hG X0 hx (hb hby d12_5) (pc' := 6) rfl rfl ?_
  refine g_icmpYes hG X0 hx (hb hby d12_6) (pc' := 19) ((tlt hab).2.2.1) (by decide) (by decide) ?_
  refine g_iloadN hG X0 hx (hb hby d12_19) (pc' := 20) rfl rfl ?_
  refine g_ifYes hG X0 hx (hb hby d12_20) (pc' := 39) ((if0 _ _).trans (feq ha).2) (by decide) (by decide) ?_
  refine g_iloadN hG X0 hx (hb hby d12_39) (pc' := 40) rfl rfl ?_
  refine g_ifYes hG X0 hx (hb hby d12_40) (pc' := 45) (by decide) (by decide) (by decide) ?_
  refine g_iloadN hG X0 hx (hb hby d12_45) (pc' := 46) rfl rfl ?_
  refine g_iconst hG X0 hx (hb hby d12_46) (pc' := 47) rfl (v := (1 : Int32)) rfl ?_
  refine g_icmpYes hG X0 hx (hb hby d12_47) (pc' := 53) (by decide) (by decide) (by decide) ?_
  refine g_iloadN hG X0 hx (hb hby d12_53) (pc' := 54) rfl rfl ?_
  refine g_iconst hG X0 hx (hb hby d12_54) (pc' := 55) rfl (v := (2 : Int32)) rfl ?_
  refine g_icmpNo hG X0 hx (hb hby d12_55) (pc' := 58) (by decide) rfl ?_
  refine g_iloadN hG X0 hx (hb hby d12_58) (pc' := 59) rfl rfl ?_
  refine g_i2d hG X0 hx (hb hby d12_59) (pc' := 60) rfl hr ?_
  exact e_retD hGe X0 hx hrt hlk (hb hby d12_60) e0 (by decide) (by decide) (⟨rfl, NF0, rfl⟩)

def Q_rmE1x (Z : State) (x y j : Int32) (h0 : Heap) (n0 : Nat) (v : Option Value) (h : Heap) (L : List Loc) : Prop := v = some (.double (9218868437227405312 : UInt64)) ∧ Fr n0 L ∧ h = h0
set_option maxRecDepth 65536 in
set_option maxHeartbeats 40000000 in
theorem rmE1x (l : Launch) (Z : State) (a0 : Array Value) (hw : ∀ d ∈ tables_1, d.before a0 Z = true) (ws : List Jvm.Cond) (x y j : Int32) (h0 : Heap) (n0 : Nat) (Zs : n0 ≤ h0.size) (hab : x < y) (ha : ¬ x = 0) (hj0 : ¬ j = (0 : Int32)) (hj1 : ¬ j = (1 : Int32)) (hj2 : ¬ j = (2 : Int32)) :
    Con l (⟨"com/example/ganttwright/ganttwright/ResourceProfileStepStartPinLaw", "expected", "(III)D"⟩ : MethodName) method_2_code 5 (some .double) ws ({ frames := 0, cells := 0, slots := 0, locals := 0 } : Room) Z #[(.int x), (.int y), (.int j)] h0 ({ frames := 0, cells := 0, slots := 0, locals := 0 } : Room).cells ({ frames := 0, cells := 0, slots := 0, locals := 0 } : Room).slots (Q_rmE1x Z x y j h0 n0) := by
  refine Con.of (Ls := #[.val (.int x), .val (.int y), .val (.int j), .unset, .unset]) (plainFor_of_name (by first | (simp [plainName, overriddenIn]; done) | decide +kernel)) (fun m => by first | (simp [entryFrame, mkF, argsToLocals, Value.category]; done) | rfl) ?_
  intro p e s m below meth c s₁ G hGe hG hx hby hml hown hnm hrt hlk hZ X0 e0
  have hown : s.vm.findClass "com/example/ganttwright/ganttwright/ResourceProfileStepStartPinLaw" = some m.cls := hown
  have hnm : meth.name = "expected" := hnm
  have NF0 := Fr.nil n0
  refine g_ldcDouble hG X0 hx hZ hown (wd hw 77 rfl) (hb hby d12_0) (pc' := 3) rfl ?_
  refine g_dstoreN hG X0 hx (hb hby d12_3) (pc' := 4) rfl (Ls' := #[.val (.int x), .val (.int y), .val (.int j), .val (.double 9218868437227405312), .second]) rfl ?_
  refine g_iloadN hG X0 hx (hb hby d12_4) (pc' := 5) rfl rfl ?_
  refine g_iloadN hG X0 hx (hb hby d12_5) (pc' := 6) rfl rfl ?_
  refine g_icmpYes hG X0 hx (hb hby d12_6) (pc' := 19) ((tlt hab).2.2.1) (by decide) (by decide) ?_
  refine g_iloadN hG X0 hx (hb hby d12_19) (pc' := 20) rfl rfl ?_
  refine g_ifYes hG X0 hx (hb hby d12_20) (pc' := 39) ((if0 _ _).trans (feq ha).2) (by decide) (by decide) ?_
  refine g_iloadN hG X0 hx (hb hby d12_39) (pc' := 40) rfl rfl ?_
  refine g_ifYes hG X0 hx (hb hby d12_40) (pc' := 45) ((if0 _ _).trans (feq hj0).2) (by decide) (by decide) ?_
  refine g_iloadN hG X0 hx (hb hby d12_45) (pc' := 46) rfl rfl ?_
  refine g_iconst hG X0 hx (hb hby d12_46) (pc' := 47) rfl (v := (1 : Int32)) rfl ?_
  refine g_icmpYes hG X0 hx (hb hby d12_47) (pc' := 53) ((feq hj1).2) (by decide) (by decide) ?_
  refine g_iloadN hG X0 hx (hb hby d12_53) (pc' := 54) rfl rfl ?_
  refine g_iconst hG X0 hx (hb hby d12_54) (pc' := 55) rfl (v := (2 : Int32)) rfl ?_
  refine g_icmpYes hG X0 hx (hb hby d12_55) (pc' := 61) ((feq hj2).2) (by decide) (by decide) ?_
  refine g_dloadN hG X0 hx (hb hby d12_61) (pc' := 62) rfl rfl ?_
  exact e_retD hGe X0 hx hrt hlk (hb hby d12_62) e0 (by decide) (by decide) (⟨rfl, NF0, rfl⟩)

def Q_rm0 (Z : State) (i0 i1 i2 i3 i4 : Int32) (h0 : Heap) (n0 : Nat) (v : Option Value) (h : Heap) (L : List Loc) : Prop := v = some (.int 1) ∧ Fr n0 L
set_option maxRecDepth 65536 in
set_option maxHeartbeats 40000000 in
theorem rm0 (l : Launch) (Z : State) (a0 : Array Value) (hw : ∀ d ∈ tables_1, d.before a0 Z = true) (ws : List Jvm.Cond) (i0 i1 i2 i3 i4 : Int32) (h0 : Heap) (n0 : Nat) (Zs : n0 ≤ h0.size)  :
    Con l x code maxLocals ret ws room_1 Z #[(.int i0), (.int i1), (.int i2), (.int i3), (.int i4)] h0 room_1.cells room_1.slots (Q_rm0 Z i0 i1 i2 i3 i4 h0 n0) := by
  refine Con.of (Ls := #[.val (.int i0), .val (.int i1), .val (.int i2), .val (.int i3), .val (.int i4), .unset, .unset, .unset, .unset, .unset, .unset, .unset, .unset]) (plainFor_of_name (by first | (simp [plainName, overriddenIn]; done) | decide +kernel)) (fun m => by first | (simp [entryFrame, mkF, argsToLocals, Value.category, maxLocals]; done) | rfl) ?_
  intro p e s m below meth c s₁ G hGe hG hx hby hml hown hnm hrt hlk hZ X0 e0
  have hml : c.maxLocals = 13 := hml
  have hown : s.vm.findClass "com/example/ganttwright/ganttwright/ResourceProfileStepStartPinLaw" = some m.cls := hown
  have hnm : meth.name = "law" := hnm
  have NF0 := Fr.nil n0
  refine g_iloadN hG X0 hx (hb hby at_0) (pc' := 1) rfl rfl ?_
  refine g_bipush hG X0 hx (hb hby at_1) (pc' := 3) rfl (v := (15 : Int32)) rfl ?_
  obtain ⟨v3, q3⟩ : ∃ zz : Int32, i0 &&& (15 : Int32) = zz := ⟨_, rfl⟩
  refine g_iand hG X0 hx (hb hby at_3) (pc' := 4) rfl q3 ?_
  refine g_istore hG X0 hx (hb hby at_4) (pc' := 6) rfl (Ls' := #[.val (.int i0), .val (.int i1), .val (.int i2), .val (.int i3), .val (.int i4), .val (.int v3), .unset, .unset, .unset, .unset, .unset, .unset, .unset]) rfl ?_
  refine g_iloadN hG X0 hx (hb hby at_6) (pc' := 7) rfl rfl ?_
  refine g_bipush hG X0 hx (hb hby at_7) (pc' := 9) rfl (v := (15 : Int32)) rfl ?_
  obtain ⟨v9, q9⟩ : ∃ zz : Int32, i1 &&& (15 : Int32) = zz := ⟨_, rfl⟩
  refine g_iand hG X0 hx (hb hby at_9) (pc' := 10) rfl q9 ?_
  refine g_istore hG X0 hx (hb hby at_10) (pc' := 12) rfl (Ls' := #[.val (.int i0), .val (.int i1), .val (.int i2), .val (.int i3), .val (.int i4), .val (.int v3), .val (.int v9), .unset, .unset, .unset, .unset, .unset, .unset]) rfl ?_
  refine g_iloadN hG X0 hx (hb hby at_12) (pc' := 13) rfl rfl ?_
  refine g_bipush hG X0 hx (hb hby at_13) (pc' := 15) rfl (v := (31 : Int32)) rfl ?_
  obtain ⟨v15, q15⟩ : ∃ zz : Int32, i2 &&& (31 : Int32) = zz := ⟨_, rfl⟩
  refine g_iand hG X0 hx (hb hby at_15) (pc' := 16) rfl q15 ?_
  refine g_istore hG X0 hx (hb hby at_16) (pc' := 18) rfl (Ls' := #[.val (.int i0), .val (.int i1), .val (.int i2), .val (.int i3), .val (.int i4), .val (.int v3), .val (.int v9), .val (.int v15), .unset, .unset, .unset, .unset, .unset]) rfl ?_
  have b3 : 0 ≤ v3.toInt := by rw [← q3]; exact (c_and i0 15 (by decide)).1
  have b9 : 0 ≤ v9.toInt := by rw [← q9]; exact (c_and i1 15 (by decide)).1
  have b15 : 0 ≤ v15.toInt := by rw [← q15]; exact (c_and i2 31 (by decide)).1
  have z0 : (0 : Int32).toInt = 0 := by decide
  have z1 : (1 : Int32).toInt = 1 := by decide
  have z2 : (2 : Int32).toInt = 2 := by decide
  have z3 : (3 : Int32).toInt = 3 := by decide
  have hcase : (¬ v3 < v9) ∨ (v3 = 0 ∧ v3 < v9) ∨ (¬ v3 = 0 ∧ v3 < v9) := by
    by_cases q : v3 < v9
    · by_cases r : v3 = 0
      · exact Or.inr (Or.inl ⟨r, q⟩)
      · exact Or.inr (Or.inr ⟨r, q⟩)
    · exact Or.inl q
  rcases hcase with hab | ⟨rfl, hab⟩ | ⟨ha, hab⟩
  · skip
    refine g_iconst hG X0 hx (hb hby at_18) (pc' := 19) rfl (v := (1 : Int32)) rfl ?_
    refine g_newPE hG X0 hx hZ (wd hw 0 rfl) e0 (hb hby at_19) (by decide) 1 (by decide) (by decide) (by decide) (by decide) (ad := "[I") (by decide) (pc' := 21) rfl ?_
    intro T1 h1 cs gs1 X1 e1 E1 A1 B1
    have ge_cs : n0 ≤ cs := gs1 ▸ Zs
    have Zs := Nat.le_trans Zs E1.1
    have V_cs : AV Z h1 cs .int (1 : Int32) [(.int 0)] := A1
    have Ex_cs := B1
    refine g_dup hG X1 hx (hb hby at_21) (pc' := 22) rfl rfl ?_
    refine g_iconst hG X1 hx (hb hby at_22) (pc' := 23) rfl (v := (0 : Int32)) rfl ?_
    refine g_iload hG X1 hx (hb hby at_23) (pc' := 25) rfl rfl ?_
    refine g_iastore hG X1 hx hZ e1 V_cs (j := (0 : Int32)) (by decide) (show Int32.toNatClampNeg (0 : Int32) < 1 by decide) (hb hby at_25) (pc' := 26) rfl ?_
    intro T2 h2 X2 e2 W2 Vn2
    have V_cs : AV Z h2 cs .int (1 : Int32) [(.int i4)] := Vn2
    have Ex_cs := Ex_cs.wr W2
    have Zs := Nat.le_trans Zs (Wr.size W2)
    have NF2 := Fr.snoc X2 NF0 ge_cs
    refine g_astore hG X2 hx (hb hby at_26) (pc' := 28) rfl rfl (Ls' := #[.val (.int i0), .val (.int i1), .val (.int i2), .val (.int i3), .val (.int i4), .val (.int v3), .val (.int v9), .val (.int v15), .val (.ref cs), .unset, .unset, .unset, .unset]) rfl ?_
    refine g_iconst hG X2 hx (hb hby at_28) (pc' := 29) rfl (v := (1 : Int32)) rfl ?_
    refine g_newPE hG X2 hx hZ (wd hw 0 rfl) e2 (hb hby at_29) (by decide) 1 (by decide) (by decide) (by decide) (by decide) (ad := "[I") (by decide) (pc' := 31) rfl ?_
    intro T3 h3 am gs3 X3 e3 E3 A3 B3
    have ne_cs_am : cs ≠ am := Nat.ne_of_lt (gs3 ▸ V_cs.lt)
    have ge_am : n0 ≤ am := gs3 ▸ Zs
    have Zs := Nat.le_trans Zs E3.1
    have V_cs := V_cs.ext E3
    have Ex_cs := Ex_cs.ext E3
    have V_am : AV Z h3 am .int (1 : Int32) [(.int 0)] := A3
    have Ex_am := B3
    refine g_dup hG X3 hx (hb hby at_31) (pc' := 32) rfl rfl ?_
    refine g_iconst hG X3 hx (hb hby at_32) (pc' := 33) rfl (v := (0 : Int32)) rfl ?_
    refine g_iloadN hG X3 hx (hb hby at_33) (pc' := 34) rfl rfl ?_
    refine g_iastore hG X3 hx hZ e3 V_am (j := (0 : Int32)) (by decide) (show Int32.toNatClampNeg (0 : Int32) < 1 by decide) (hb hby at_34) (pc' := 35) rfl ?_
    intro T4 h4 X4 e4 W4 Vn4
    have V_am : AV Z h4 am .int (1 : Int32) [(.int i3)] := Vn4
    have V_cs := V_cs.other W4 ne_cs_am
    have Ex_cs := Ex_cs.wr W4
    have Ex_am := Ex_am.wr W4
    have Zs := Nat.le_trans Zs (Wr.size W4)
    have NF4 := Fr.snoc X4 NF2 ge_am
    refine g_astore hG X4 hx (hb hby at_35) (pc' := 37) rfl rfl (Ls' := #[.val (.int i0), .val (.int i1), .val (.int i2), .val (.int i3), .val (.int i4), .val (.int v3), .val (.int v9), .val (.int v15), .val (.ref cs), .val (.ref am), .unset, .unset, .unset]) rfl ?_
    refine g_newO hG X4 hx hZ hown (wd hw 1 rfl) (wd hw 2 rfl) (wd hw 3 rfl) e4 (hb hby at_37) (by decide) (by decide) (pc' := 40) rfl ?_
    intro T5 h5 a gs5 X5 e5 E5 Aq5 Dq5
    have ne_cs_a : cs ≠ a := Nat.ne_of_lt (gs5 ▸ V_cs.lt)
    have ne_am_a : am ≠ a := Nat.ne_of_lt (gs5 ▸ V_am.lt)
    have ge_a : n0 ≤ a := gs5 ▸ Zs
    have Zs := Nat.le_trans Zs E5.1
    have V_cs := V_cs.ext E5
    have Ex_cs := Ex_cs.ext E5
    have V_am := V_am.ext E5
    have Ex_am := Ex_am.ext E5
    have Ex_a := Aq5
    have F_times_a : Fld Z h5 a "com/example/ganttwright/ganttwright/ResourceProfile" "times" "[D" .null := Dq5 (Or.inl (wd hw 12 rfl)) (ty := (.array .double)) (by decide)
    have F_steps_a : Fld Z h5 a "com/example/ganttwright/ganttwright/ResourceProfile" "steps" "[[I" .null := Dq5 (Or.inl (wd hw 16 rfl)) (ty := (.array (.array .int))) (by decide)
    have F_count_a : Fld Z h5 a "com/example/ganttwright/ganttwright/ResourceProfile" "count" "I" (.int 0) := Dq5 (Or.inl (wd hw 18 rfl)) (ty := .int) (by decide)
    have F_capacities_a : Fld Z h5 a "com/example/ganttwright/ganttwright/ResourceProfile" "capacities" "[I" .null := Dq5 (Or.inr (wd hw 28 rfl)) (ty := (.array .int)) (by decide)
    refine g_dup hG X5 hx (hb hby at_40) (pc' := 41) rfl rfl ?_
    refine g_aload hG X5 hx (hb hby at_41) (pc' := 43) rfl rfl rfl ?_
    have lt_a := Ex_a.lt
    have lt_cs := V_cs.lt
    have lt_am := V_am.lt
    refine g_callI hG X5 hx hZ (y := (⟨"com/example/ganttwright/ganttwright/ResourceProfile", "<init>", "([I)V"⟩ : MethodName)) 1 rfl hown (wd hw 4 rfl) (wd hw 5 rfl) (wd hw 3 rfl) (wd hw 6 rfl) (by decide) (rmNew l Z a0 hw [] a cs i4 h5 n0 Zs ge_a (Ne.symm ne_cs_a) V_cs Ex_cs Ex_a F_times_a F_steps_a F_count_a F_capacities_a) (by decide) (by decide) (by rw [hml]; rfl) pd_5 rfl (argsL := [(.ref cs)]) (rest := [(.ref a)]) rfl rfl (Nat.le_of_eq rfl) (hb hby at_43) e5 (by decide) (by decide) (pc' := 46) rfl ?_
    intro T6 rv6 L6 X6 hQ6
    obtain ⟨ti, sp, s0, cA, rfl, Nq6, Kq6, sz_ti, sz_sp, sz_s0, n1, n2, n3, Ov, Ex_a, F_times_a, F_steps_a, F_count_a, V_ti, R_sp, V_s0, Ex_s0⟩ := hQ6
    have NF6 := Fr.app NF4 Nq6
    have g_ti : n0 ≤ ti := Nat.le_trans Zs sz_ti
    have n_a_ti : a ≠ ti := Nat.ne_of_lt (Nat.lt_of_lt_of_le lt_a sz_ti)
    have n_cs_ti : cs ≠ ti := Nat.ne_of_lt (Nat.lt_of_lt_of_le lt_cs sz_ti)
    have n_am_ti : am ≠ ti := Nat.ne_of_lt (Nat.lt_of_lt_of_le lt_am sz_ti)
    have g_sp : n0 ≤ sp := Nat.le_trans Zs sz_sp
    have n_a_sp : a ≠ sp := Nat.ne_of_lt (Nat.lt_of_lt_of_le lt_a sz_sp)
    have n_cs_sp : cs ≠ sp := Nat.ne_of_lt (Nat.lt_of_lt_of_le lt_cs sz_sp)
    have n_am_sp : am ≠ sp := Nat.ne_of_lt (Nat.lt_of_lt_of_le lt_am sz_sp)
    have g_s0 : n0 ≤ s0 := Nat.le_trans Zs sz_s0
    have n_a_s0 : a ≠ s0 := Nat.ne_of_lt (Nat.lt_of_lt_of_le lt_a sz_s0)
    have n_cs_s0 : cs ≠ s0 := Nat.ne_of_lt (Nat.lt_of_lt_of_le lt_cs sz_s0)
    have n_am_s0 : am ≠ s0 := Nat.ne_of_lt (Nat.lt_of_lt_of_le lt_am sz_s0)
    have g_a := ge_a
    have V_cs := V_cs.keep Kq6 (ninS ne_cs_a nin0)
    have Ex_cs := Ex_cs.keep Kq6
    have V_am := V_am.keep Kq6 (ninS ne_am_a nin0)
    have Ex_am := Ex_am.keep Kq6
    have Zs := Nat.le_trans Zs Kq6.1
    show G (T6.setTop (mkF m 46 _ [(.ref a)]))
    refine g_astore hG X6 hx (hb hby at_46) (pc' := 48) rfl rfl (Ls' := #[.val (.int i0), .val (.int i1), .val (.int i2), .val (.int i3), .val (.int i4), .val (.int v3), .val (.int v9), .val (.int v15), .val (.ref cs), .val (.ref am), .val (.ref a), .unset, .unset]) rfl ?_
    refine g_aload hG X6 hx (hb hby at_48) (pc' := 50) rfl rfl rfl ?_
    refine g_iload hG X6 hx (hb hby at_50) (pc' := 52) rfl rfl ?_
    obtain ⟨v52, q52⟩ : ∃ zz : UInt64, FP.i2d v3 = zz := ⟨_, rfl⟩
    refine g_i2d hG X6 hx (hb hby at_52) (pc' := 53) rfl q52 ?_
    refine g_iload hG X6 hx (hb hby at_53) (pc' := 55) rfl rfl ?_
    obtain ⟨v55, q55⟩ : ∃ zz : UInt64, FP.i2d v9 = zz := ⟨_, rfl⟩
    refine g_i2d hG X6 hx (hb hby at_55) (pc' := 56) rfl q55 ?_
    refine g_aload hG X6 hx (hb hby at_56) (pc' := 58) rfl rfl rfl ?_
    have D9 : OwnFl.DV v55 (v9.toInt : Rat) := by rw [← q55]; exact OwnFl.i2d_DV v9
    have D3 : OwnFl.DV v52 (v3.toInt : Rat) := by rw [← q52]; exact OwnFl.i2d_DV v3
    have cx : FP.dcmp v55 v52 = some .lt ∨ FP.dcmp v55 v52 = some .eq := OwnFl.dcmp_le D9 D3 (Rat.intCast_le_intCast.mpr (Int.not_lt.mp fun q => hab (Int32.lt_iff_toInt_lt.mpr q)))
    refine g_callV hG X6 hx hZ (y := (⟨"com/example/ganttwright/ganttwright/ResourceProfile", "place", "(DD[I)V"⟩ : MethodName)) 0 hown (wd hw 29 rfl) (wd hw 30 rfl) (wd hw 32 rfl) (wd hw 31 rfl) (wd hw 3 rfl) (wd hw 33 rfl) (by decide) (rmLcN l Z a0 hw [] a ti sp s0 cA (0 : Int32) am i3 v52 v55 T6.heap n0 Zs Ex_a F_times_a F_steps_a F_count_a V_ti R_sp V_s0 Ex_s0 n_a_ti n_a_sp n_a_s0 n1 n2 n3 g_a g_ti g_sp g_s0 Ov V_am (Ne.symm ne_am_a) (Ne.symm n_am_ti) (Ne.symm n_am_sp) (Ne.symm n_am_s0) cx) (by decide) (by decide) (by rw [hml]; rfl) pd_6 rfl (argsL := [(.double v52), (.double v55), (.ref am)]) (rest := []) rfl rfl (Nat.le_of_eq rfl) (hb hby at_58) rfl Ex_a (by decide) (by decide) (pc' := 61) rfl ?_
    intro T7 rv7 L7 X7 hQ7
    obtain ⟨rfl, Nq7, eh7⟩ := hQ7
    have NF7 := Fr.app NF6 Nq7
    show G (T7.setTop (mkF m 61 _ []))
    have hi : v15 = 0 ∨ (¬ v15 < (1 : Int32) ∧ ¬ v15 = (0 : Int32)) := by
      simp only [← Int32.toInt_inj, Int32.lt_iff_toInt_lt, z0, z1, z2, z3]
      omega
    rcases hi with rfl | hi
    · skip
      refine g_aload hG X7 hx (hb hby at_61) (pc' := 63) rfl rfl rfl ?_
      refine g_iload hG X7 hx (hb hby at_63) (pc' := 65) rfl rfl ?_
      refine g_callV hG X7 hx hZ (y := (⟨"com/example/ganttwright/ganttwright/ResourceProfile", "stepStart", "(I)D"⟩ : MethodName)) 0 hown (wd hw 67 rfl) (wd hw 68 rfl) (wd hw 70 rfl) (wd hw 69 rfl) (wd hw 3 rfl) (wd hw 71 rfl) (by decide) (rmSS1_0 l Z a0 hw [] a ti sp (0 : UInt64) (0 : UInt64) T6.heap n0 Zs Ex_a F_times_a F_steps_a F_count_a V_ti) (by decide) (by decide) (by rw [hml]; rfl) pd_7 rfl (argsL := [(.int 0)]) (rest := []) rfl rfl (Nat.le_of_eq rfl) (hb hby at_65) eh7 Ex_a (by decide) (by decide) (pc' := 68) rfl ?_
      intro T8 rv8 L8 X8 hQ8
      obtain ⟨rfl, Nq8, eh8⟩ := hQ8
      have NF8 := Fr.app NF7 Nq8
      show G (T8.setTop (mkF m 68 _ [(.double 0)]))
      refine g_dstore hG X8 hx (hb hby at_68) (pc' := 70) rfl (Ls' := #[.val (.int i0), .val (.int i1), .val (.int i2), .val (.int i3), .val (.int i4), .val (.int v3), .val (.int v9), .val (.int 0), .val (.ref cs), .val (.ref am), .val (.ref a), .val (.double 0), .second]) rfl ?_
      refine g_dload hG X8 hx (hb hby at_70) (pc' := 72) rfl rfl ?_
      refine g_iload hG X8 hx (hb hby at_72) (pc' := 74) rfl rfl ?_
      refine g_iload hG X8 hx (hb hby at_74) (pc' := 76) rfl rfl ?_
      refine g_iload hG X8 hx (hb hby at_76) (pc' := 78) rfl rfl ?_
      refine g_callS hG X8 hx hZ (y := (⟨"com/example/ganttwright/ganttwright/ResourceProfileStepStartPinLaw", "expected", "(III)D"⟩ : MethodName)) 2 hown (wd hw 73 rfl) (wd hw 74 rfl) (wd hw 75 rfl) (wd hw 76 rfl) (by decide) (rmEN0 l Z a0 hw [] v3 v9 T6.heap n0 Zs hab) (by decide) (by decide) (by rw [hml]; rfl) pd_8 rfl (argsL := [(.int v3), (.int v9), (.int 0)]) (rest := [(.double 0)]) rfl rfl (Nat.le_of_eq rfl) (hb hby at_78) eh8 (by decide) (by decide) (pc' := 81) rfl ?_
      intro T9 rv9 L9 X9 hQ9
      obtain ⟨rfl, Nq9, eh9⟩ := hQ9
      have NF9 := Fr.app NF8 Nq9
      show G (T9.setTop (mkF m 81 _ [(.double 0), (.double 0)]))
      obtain ⟨v81, q81⟩ : ∃ zz : Int32, cmpValue (FP.dcmp (0 : UInt64) (0 : UInt64)) .l = zz := ⟨_, rfl⟩
      refine g_dcmp hG X9 hx (hb hby at_81) (pc' := 82) rfl q81 ?_
      refine g_ifNo hG X9 hx (hb hby at_82) (pc' := 85) (by rw [← q81, own_zz]; rfl) rfl ?_
      refine g_iconst hG X9 hx (hb hby at_85) (pc' := 86) rfl (v := (1 : Int32)) rfl ?_
      refine g_goto hG X9 hx (hb hby at_86) (pc' := 90) (by decide) (by decide) ?_
      exact e_retZ hGe X9 hx hrt hlk (hb hby at_90) (Or.inr rfl) eh9 (by decide) (by decide) (⟨rfl, NF9⟩)
    · skip
      refine g_aload hG X7 hx (hb hby at_61) (pc' := 63) rfl rfl rfl ?_
      refine g_iload hG X7 hx (hb hby at_63) (pc' := 65) rfl rfl ?_
      refine g_callV hG X7 hx hZ (y := (⟨"com/example/ganttwright/ganttwright/ResourceProfile", "stepStart", "(I)D"⟩ : MethodName)) 0 hown (wd hw 67 rfl) (wd hw 68 rfl) (wd hw 70 rfl) (wd hw 69 rfl) (wd hw 3 rfl) (wd hw 71 rfl) (by decide) (rmSS1_x l Z a0 hw [] a ti sp (0 : UInt64) (0 : UInt64) v15 T6.heap n0 Zs Ex_a F_times_a F_steps_a F_count_a V_ti hi.1) (by decide) (by decide) (by rw [hml]; rfl) pd_7 rfl (argsL := [(.int v15)]) (rest := []) rfl rfl (Nat.le_of_eq rfl) (hb hby at_65) eh7 Ex_a (by decide) (by decide) (pc' := 68) rfl ?_
      intro T10 rv10 L10 X10 hQ10
      obtain ⟨rfl, Nq10, eh10⟩ := hQ10
      have NF10 := Fr.app NF7 Nq10
      show G (T10.setTop (mkF m 68 _ [(.double 9218868437227405312)]))
      refine g_dstore hG X10 hx (hb hby at_68) (pc' := 70) rfl (Ls' := #[.val (.int i0), .val (.int i1), .val (.int i2), .val (.int i3), .val (.int i4), .val (.int v3), .val (.int v9), .val (.int v15), .val (.ref cs), .val (.ref am), .val (.ref a), .val (.double 9218868437227405312), .second]) rfl ?_
      refine g_dload hG X10 hx (hb hby at_70) (pc' := 72) rfl rfl ?_
      refine g_iload hG X10 hx (hb hby at_72) (pc' := 74) rfl rfl ?_
      refine g_iload hG X10 hx (hb hby at_74) (pc' := 76) rfl rfl ?_
      refine g_iload hG X10 hx (hb hby at_76) (pc' := 78) rfl rfl ?_
      refine g_callS hG X10 hx hZ (y := (⟨"com/example/ganttwright/ganttwright/ResourceProfileStepStartPinLaw", "expected", "(III)D"⟩ : MethodName)) 2 hown (wd hw 73 rfl) (wd hw 74 rfl) (wd hw 75 rfl) (wd hw 76 rfl) (by decide) (rmENx l Z a0 hw [] v3 v9 v15 T6.heap n0 Zs hab hi.2) (by decide) (by decide) (by rw [hml]; rfl) pd_8 rfl (argsL := [(.int v3), (.int v9), (.int v15)]) (rest := [(.double 9218868437227405312)]) rfl rfl (Nat.le_of_eq rfl) (hb hby at_78) eh10 (by decide) (by decide) (pc' := 81) rfl ?_
      intro T11 rv11 L11 X11 hQ11
      obtain ⟨rfl, Nq11, eh11⟩ := hQ11
      have NF11 := Fr.app NF10 Nq11
      show G (T11.setTop (mkF m 81 _ [(.double 9218868437227405312), (.double 9218868437227405312)]))
      obtain ⟨v81, q81⟩ : ∃ zz : Int32, cmpValue (FP.dcmp (9218868437227405312 : UInt64) (9218868437227405312 : UInt64)) .l = zz := ⟨_, rfl⟩
      refine g_dcmp hG X11 hx (hb hby at_81) (pc' := 82) rfl q81 ?_
      refine g_ifNo hG X11 hx (hb hby at_82) (pc' := 85) (by rw [← q81, own_inf]; rfl) rfl ?_
      refine g_iconst hG X11 hx (hb hby at_85) (pc' := 86) rfl (v := (1 : Int32)) rfl ?_
      refine g_goto hG X11 hx (hb hby at_86) (pc' := 90) (by decide) (by decide) ?_
      exact e_retZ hGe X11 hx hrt hlk (hb hby at_90) (Or.inr rfl) eh11 (by decide) (by decide) (⟨rfl, NF11⟩)
  · skip
    refine g_iconst hG X0 hx (hb hby at_18) (pc' := 19) rfl (v := (1 : Int32)) rfl ?_
    refine g_newPE hG X0 hx hZ (wd hw 0 rfl) e0 (hb hby at_19) (by decide) 1 (by decide) (by decide) (by decide) (by decide) (ad := "[I") (by decide) (pc' := 21) rfl ?_
    intro T12 h12 cs gs12 X12 e12 E12 A12 B12
    have ge_cs : n0 ≤ cs := gs12 ▸ Zs
    have Zs := Nat.le_trans Zs E12.1
    have V_cs : AV Z h12 cs .int (1 : Int32) [(.int 0)] := A12
    have Ex_cs := B12
    refine g_dup hG X12 hx (hb hby at_21) (pc' := 22) rfl rfl ?_
    refine g_iconst hG X12 hx (hb hby at_22) (pc' := 23) rfl (v := (0 : Int32)) rfl ?_
    refine g_iload hG X12 hx (hb hby at_23) (pc' := 25) rfl rfl ?_
    refine g_iastore hG X12 hx hZ e12 V_cs (j := (0 : Int32)) (by decide) (show Int32.toNatClampNeg (0 : Int32) < 1 by decide) (hb hby at_25) (pc' := 26) rfl ?_
    intro T13 h13 X13 e13 W13 Vn13
    have V_cs : AV Z h13 cs .int (1 : Int32) [(.int i4)] := Vn13
    have Ex_cs := Ex_cs.wr W13
    have Zs := Nat.le_trans Zs (Wr.size W13)
    have NF13 := Fr.snoc X13 NF0 ge_cs
    refine g_astore hG X13 hx (hb hby at_26) (pc' := 28) rfl rfl (Ls' := #[.val (.int i0), .val (.int i1), .val (.int i2), .val (.int i3), .val (.int i4), .val (.int 0), .val (.int v9), .val (.int v15), .val (.ref cs), .unset, .unset, .unset, .unset]) rfl ?_
    refine g_iconst hG X13 hx (hb hby at_28) (pc' := 29) rfl (v := (1 : Int32)) rfl ?_
    refine g_newPE hG X13 hx hZ (wd hw 0 rfl) e13 (hb hby at_29) (by decide) 1 (by decide) (by decide) (by decide) (by decide) (ad := "[I") (by decide) (pc' := 31) rfl ?_
    intro T14 h14 am gs14 X14 e14 E14 A14 B14
    have ne_cs_am : cs ≠ am := Nat.ne_of_lt (gs14 ▸ V_cs.lt)
    have ge_am : n0 ≤ am := gs14 ▸ Zs
    have Zs := Nat.le_trans Zs E14.1
    have V_cs := V_cs.ext E14
    have Ex_cs := Ex_cs.ext E14
    have V_am : AV Z h14 am .int (1 : Int32) [(.int 0)] := A14
    have Ex_am := B14
    refine g_dup hG X14 hx (hb hby at_31) (pc' := 32) rfl rfl ?_
    refine g_iconst hG X14 hx (hb hby at_32) (pc' := 33) rfl (v := (0 : Int32)) rfl ?_
    refine g_iloadN hG X14 hx (hb hby at_33) (pc' := 34) rfl rfl ?_
    refine g_iastore hG X14 hx hZ e14 V_am (j := (0 : Int32)) (by decide) (show Int32.toNatClampNeg (0 : Int32) < 1 by decide) (hb hby at_34) (pc' := 35) rfl ?_
    intro T15 h15 X15 e15 W15 Vn15
    have V_am : AV Z h15 am .int (1 : Int32) [(.int i3)] := Vn15
    have V_cs := V_cs.other W15 ne_cs_am
    have Ex_cs := Ex_cs.wr W15
    have Ex_am := Ex_am.wr W15
    have Zs := Nat.le_trans Zs (Wr.size W15)
    have NF15 := Fr.snoc X15 NF13 ge_am
    refine g_astore hG X15 hx (hb hby at_35) (pc' := 37) rfl rfl (Ls' := #[.val (.int i0), .val (.int i1), .val (.int i2), .val (.int i3), .val (.int i4), .val (.int 0), .val (.int v9), .val (.int v15), .val (.ref cs), .val (.ref am), .unset, .unset, .unset]) rfl ?_
    refine g_newO hG X15 hx hZ hown (wd hw 1 rfl) (wd hw 2 rfl) (wd hw 3 rfl) e15 (hb hby at_37) (by decide) (by decide) (pc' := 40) rfl ?_
    intro T16 h16 a gs16 X16 e16 E16 Aq16 Dq16
    have ne_cs_a : cs ≠ a := Nat.ne_of_lt (gs16 ▸ V_cs.lt)
    have ne_am_a : am ≠ a := Nat.ne_of_lt (gs16 ▸ V_am.lt)
    have ge_a : n0 ≤ a := gs16 ▸ Zs
    have Zs := Nat.le_trans Zs E16.1
    have V_cs := V_cs.ext E16
    have Ex_cs := Ex_cs.ext E16
    have V_am := V_am.ext E16
    have Ex_am := Ex_am.ext E16
    have Ex_a := Aq16
    have F_times_a : Fld Z h16 a "com/example/ganttwright/ganttwright/ResourceProfile" "times" "[D" .null := Dq16 (Or.inl (wd hw 12 rfl)) (ty := (.array .double)) (by decide)
    have F_steps_a : Fld Z h16 a "com/example/ganttwright/ganttwright/ResourceProfile" "steps" "[[I" .null := Dq16 (Or.inl (wd hw 16 rfl)) (ty := (.array (.array .int))) (by decide)
    have F_count_a : Fld Z h16 a "com/example/ganttwright/ganttwright/ResourceProfile" "count" "I" (.int 0) := Dq16 (Or.inl (wd hw 18 rfl)) (ty := .int) (by decide)
    have F_capacities_a : Fld Z h16 a "com/example/ganttwright/ganttwright/ResourceProfile" "capacities" "[I" .null := Dq16 (Or.inr (wd hw 28 rfl)) (ty := (.array .int)) (by decide)
    refine g_dup hG X16 hx (hb hby at_40) (pc' := 41) rfl rfl ?_
    refine g_aload hG X16 hx (hb hby at_41) (pc' := 43) rfl rfl rfl ?_
    have lt_a := Ex_a.lt
    have lt_cs := V_cs.lt
    have lt_am := V_am.lt
    refine g_callI hG X16 hx hZ (y := (⟨"com/example/ganttwright/ganttwright/ResourceProfile", "<init>", "([I)V"⟩ : MethodName)) 1 rfl hown (wd hw 4 rfl) (wd hw 5 rfl) (wd hw 3 rfl) (wd hw 6 rfl) (by decide) (rmNew l Z a0 hw [] a cs i4 h16 n0 Zs ge_a (Ne.symm ne_cs_a) V_cs Ex_cs Ex_a F_times_a F_steps_a F_count_a F_capacities_a) (by decide) (by decide) (by rw [hml]; rfl) pd_5 rfl (argsL := [(.ref cs)]) (rest := [(.ref a)]) rfl rfl (Nat.le_of_eq rfl) (hb hby at_43) e16 (by decide) (by decide) (pc' := 46) rfl ?_
    intro T17 rv17 L17 X17 hQ17
    obtain ⟨ti, sp, s0, cA, rfl, Nq17, Kq17, sz_ti, sz_sp, sz_s0, n1, n2, n3, Ov, Ex_a, F_times_a, F_steps_a, F_count_a, V_ti, R_sp, V_s0, Ex_s0⟩ := hQ17
    have NF17 := Fr.app NF15 Nq17
    have g_ti : n0 ≤ ti := Nat.le_trans Zs sz_ti
    have n_a_ti : a ≠ ti := Nat.ne_of_lt (Nat.lt_of_lt_of_le lt_a sz_ti)
    have n_cs_ti : cs ≠ ti := Nat.ne_of_lt (Nat.lt_of_lt_of_le lt_cs sz_ti)
    have n_am_ti : am ≠ ti := Nat.ne_of_lt (Nat.lt_of_lt_of_le lt_am sz_ti)
    have g_sp : n0 ≤ sp := Nat.le_trans Zs sz_sp
    have n_a_sp : a ≠ sp := Nat.ne_of_lt (Nat.lt_of_lt_of_le lt_a sz_sp)
    have n_cs_sp : cs ≠ sp := Nat.ne_of_lt (Nat.lt_of_lt_of_le lt_cs sz_sp)
    have n_am_sp : am ≠ sp := Nat.ne_of_lt (Nat.lt_of_lt_of_le lt_am sz_sp)
    have g_s0 : n0 ≤ s0 := Nat.le_trans Zs sz_s0
    have n_a_s0 : a ≠ s0 := Nat.ne_of_lt (Nat.lt_of_lt_of_le lt_a sz_s0)
    have n_cs_s0 : cs ≠ s0 := Nat.ne_of_lt (Nat.lt_of_lt_of_le lt_cs sz_s0)
    have n_am_s0 : am ≠ s0 := Nat.ne_of_lt (Nat.lt_of_lt_of_le lt_am sz_s0)
    have g_a := ge_a
    have V_cs := V_cs.keep Kq17 (ninS ne_cs_a nin0)
    have Ex_cs := Ex_cs.keep Kq17
    have V_am := V_am.keep Kq17 (ninS ne_am_a nin0)
    have Ex_am := Ex_am.keep Kq17
    have Zs := Nat.le_trans Zs Kq17.1
    show G (T17.setTop (mkF m 46 _ [(.ref a)]))
    refine g_astore hG X17 hx (hb hby at_46) (pc' := 48) rfl rfl (Ls' := #[.val (.int i0), .val (.int i1), .val (.int i2), .val (.int i3), .val (.int i4), .val (.int 0), .val (.int v9), .val (.int v15), .val (.ref cs), .val (.ref am), .val (.ref a), .unset, .unset]) rfl ?_
    refine g_aload hG X17 hx (hb hby at_48) (pc' := 50) rfl rfl rfl ?_
    refine g_iload hG X17 hx (hb hby at_50) (pc' := 52) rfl rfl ?_
    refine g_i2d hG X17 hx (hb hby at_52) (pc' := 53) rfl own_i0 ?_
    refine g_iload hG X17 hx (hb hby at_53) (pc' := 55) rfl rfl ?_
    obtain ⟨v55, q55⟩ : ∃ zz : UInt64, FP.i2d v9 = zz := ⟨_, rfl⟩
    refine g_i2d hG X17 hx (hb hby at_55) (pc' := 56) rfl q55 ?_
    refine g_aload hG X17 hx (hb hby at_56) (pc' := 58) rfl rfl rfl ?_
    have D9 : OwnFl.DV v55 (v9.toInt : Rat) := by rw [← q55]; exact OwnFl.i2d_DV v9
    have hp : 0 < v9.toInt := by have := Int32.lt_iff_toInt_lt.mp hab; omega
    have cx : FP.dcmp v55 0 = some .gt := OwnFl.dcmp_gt D9 own_z (Rat.intCast_pos.mpr hp)
    have c0e : FP.dcmp 0 v55 = some .lt := OwnFl.dcmp_lt own_z D9 (Rat.intCast_pos.mpr hp)
    refine g_callV hG X17 hx hZ (y := (⟨"com/example/ganttwright/ganttwright/ResourceProfile", "place", "(DD[I)V"⟩ : MethodName)) 0 hown (wd hw 29 rfl) (wd hw 30 rfl) (wd hw 32 rfl) (wd hw 31 rfl) (wd hw 3 rfl) (wd hw 33 rfl) (by decide) (rmLc0 l Z a0 hw [] a ti sp s0 cA (0 : Int32) am i3 v55 T17.heap n0 Zs Ex_a F_times_a F_steps_a F_count_a V_ti R_sp V_s0 Ex_s0 n_a_ti n_a_sp n_a_s0 n1 n2 n3 g_a g_ti g_sp g_s0 Ov V_am (Ne.symm ne_am_a) (Ne.symm n_am_ti) (Ne.symm n_am_sp) (Ne.symm n_am_s0) cx c0e) (by decide) (by decide) (by rw [hml]; rfl) pd_6 rfl (argsL := [(.double 0), (.double v55), (.ref am)]) (rest := []) rfl rfl (Nat.le_of_eq rfl) (hb hby at_58) rfl Ex_a (by decide) (by decide) (pc' := 61) rfl ?_
    intro T18 rv18 L18 X18 hQ18
    obtain ⟨rfl, Nq18, Kq18, Ex_a, F_times_a, F_steps_a, F_count_a, V_ti⟩ := hQ18
    have NF18 := Fr.app NF17 Nq18
    have V_cs := V_cs.keep Kq18 (ninS ne_cs_a (ninS n_cs_ti (ninS n_cs_sp (ninS n_cs_s0 nin0))))
    have Ex_cs := Ex_cs.keep Kq18
    have V_am := V_am.keep Kq18 (ninS ne_am_a (ninS n_am_ti (ninS n_am_sp (ninS n_am_s0 nin0))))
    have Ex_am := Ex_am.keep Kq18
    have Zs := Nat.le_trans Zs Kq18.1
    show G (T18.setTop (mkF m 61 _ []))
    have hi : v15 = 0 ∨ v15 = 1 ∨ (¬ v15 < (2 : Int32) ∧ ¬ v15 = (0 : Int32) ∧ ¬ v15 = (1 : Int32)) := by
      simp only [← Int32.toInt_inj, Int32.lt_iff_toInt_lt, z0, z1, z2, z3]
      omega
    rcases hi with rfl | rfl | hi
    · skip
      refine g_aload hG X18 hx (hb hby at_61) (pc' := 63) rfl rfl rfl ?_
      refine g_iload hG X18 hx (hb hby at_63) (pc' := 65) rfl rfl ?_
      refine g_callV hG X18 hx hZ (y := (⟨"com/example/ganttwright/ganttwright/ResourceProfile", "stepStart", "(I)D"⟩ : MethodName)) 0 hown (wd hw 67 rfl) (wd hw 68 rfl) (wd hw 70 rfl) (wd hw 69 rfl) (wd hw 3 rfl) (wd hw 71 rfl) (by decide) (rmSS2_0 l Z a0 hw [] a ti sp v55 (0 : UInt64) T18.heap n0 Zs Ex_a F_times_a F_steps_a F_count_a V_ti) (by decide) (by decide) (by rw [hml]; rfl) pd_7 rfl (argsL := [(.int 0)]) (rest := []) rfl rfl (Nat.le_of_eq rfl) (hb hby at_65) rfl Ex_a (by decide) (by decide) (pc' := 68) rfl ?_
      intro T19 rv19 L19 X19 hQ19
      obtain ⟨rfl, Nq19, eh19⟩ := hQ19
      have NF19 := Fr.app NF18 Nq19
      show G (T19.setTop (mkF m 68 _ [(.double 0)]))
      refine g_dstore hG X19 hx (hb hby at_68) (pc' := 70) rfl (Ls' := #[.val (.int i0), .val (.int i1), .val (.int i2), .val (.int i3), .val (.int i4), .val (.int 0), .val (.int v9), .val (.int 0), .val (.ref cs), .val (.ref am), .val (.ref a), .val (.double 0), .second]) rfl ?_
      refine g_dload hG X19 hx (hb hby at_70) (pc' := 72) rfl rfl ?_
      refine g_iload hG X19 hx (hb hby at_72) (pc' := 74) rfl rfl ?_
      refine g_iload hG X19 hx (hb hby at_74) (pc' := 76) rfl rfl ?_
      refine g_iload hG X19 hx (hb hby at_76) (pc' := 78) rfl rfl ?_
      refine g_callS hG X19 hx hZ (y := (⟨"com/example/ganttwright/ganttwright/ResourceProfileStepStartPinLaw", "expected", "(III)D"⟩ : MethodName)) 2 hown (wd hw 73 rfl) (wd hw 74 rfl) (wd hw 75 rfl) (wd hw 76 rfl) (by decide) (rmE00 l Z a0 hw [] v9 T18.heap n0 Zs hab) (by decide) (by decide) (by rw [hml]; rfl) pd_8 rfl (argsL := [(.int 0), (.int v9), (.int 0)]) (rest := [(.double 0)]) rfl rfl (Nat.le_of_eq rfl) (hb hby at_78) eh19 (by decide) (by decide) (pc' := 81) rfl ?_
      intro T20 rv20 L20 X20 hQ20
      obtain ⟨rfl, Nq20, eh20⟩ := hQ20
      have NF20 := Fr.app NF19 Nq20
      show G (T20.setTop (mkF m 81 _ [(.double 0), (.double 0)]))
      obtain ⟨v81, q81⟩ : ∃ zz : Int32, cmpValue (FP.dcmp (0 : UInt64) (0 : UInt64)) .l = zz := ⟨_, rfl⟩
      refine g_dcmp hG X20 hx (hb hby at_81) (pc' := 82) rfl q81 ?_
      refine g_ifNo hG X20 hx (hb hby at_82) (pc' := 85) (by rw [← q81, own_zz]; rfl) rfl ?_
      refine g_iconst hG X20 hx (hb hby at_85) (pc' := 86) rfl (v := (1 : Int32)) rfl ?_
      refine g_goto hG X20 hx (hb hby at_86) (pc' := 90) (by decide) (by decide) ?_
      exact e_retZ hGe X20 hx hrt hlk (hb hby at_90) (Or.inr rfl) eh20 (by decide) (by decide) (⟨rfl, NF20⟩)
    · skip
      refine g_aload hG X18 hx (hb hby at_61) (pc' := 63) rfl rfl rfl ?_
      refine g_iload hG X18 hx (hb hby at_63) (pc' := 65) rfl rfl ?_
      refine g_callV hG X18 hx hZ (y := (⟨"com/example/ganttwright/ganttwright/ResourceProfile", "stepStart", "(I)D"⟩ : MethodName)) 0 hown (wd hw 67 rfl) (wd hw 68 rfl) (wd hw 70 rfl) (wd hw 69 rfl) (wd hw 3 rfl) (wd hw 71 rfl) (by decide) (rmSS2_1 l Z a0 hw [] a ti sp v55 (0 : UInt64) T18.heap n0 Zs Ex_a F_times_a F_steps_a F_count_a V_ti) (by decide) (by decide) (by rw [hml]; rfl) pd_7 rfl (argsL := [(.int 1)]) (rest := []) rfl rfl (Nat.le_of_eq rfl) (hb hby at_65) rfl Ex_a (by decide) (by decide) (pc' := 68) rfl ?_
      intro T21 rv21 L21 X21 hQ21
      obtain ⟨rfl, Nq21, eh21⟩ := hQ21
      have NF21 := Fr.app NF18 Nq21
      show G (T21.setTop (mkF m 68 _ [(.double v55)]))
      refine g_dstore hG X21 hx (hb hby at_68) (pc' := 70) rfl (Ls' := #[.val (.int i0), .val (.int i1), .val (.int i2), .val (.int i3), .val (.int i4), .val (.int 0), .val (.int v9), .val (.int 1), .val (.ref cs), .val (.ref am), .val (.ref a), .val (.double v55), .second]) rfl ?_
      refine g_dload hG X21 hx (hb hby at_70) (pc' := 72) rfl rfl ?_
      refine g_iload hG X21 hx (hb hby at_72) (pc' := 74) rfl rfl ?_
      refine g_iload hG X21 hx (hb hby at_74) (pc' := 76) rfl rfl ?_
      refine g_iload hG X21 hx (hb hby at_76) (pc' := 78) rfl rfl ?_
      refine g_callS hG X21 hx hZ (y := (⟨"com/example/ganttwright/ganttwright/ResourceProfileStepStartPinLaw", "expected", "(III)D"⟩ : MethodName)) 2 hown (wd hw 73 rfl) (wd hw 74 rfl) (wd hw 75 rfl) (wd hw 76 rfl) (by decide) (rmE01 l Z a0 hw [] v9 v55 T18.heap n0 Zs hab q55) (by decide) (by decide) (by rw [hml]; rfl) pd_8 rfl (argsL := [(.int 0), (.int v9), (.int 1)]) (rest := [(.double v55)]) rfl rfl (Nat.le_of_eq rfl) (hb hby at_78) eh21 (by decide) (by decide) (pc' := 81) rfl ?_
      intro T22 rv22 L22 X22 hQ22
      obtain ⟨rfl, Nq22, eh22⟩ := hQ22
      have NF22 := Fr.app NF21 Nq22
      show G (T22.setTop (mkF m 81 _ [(.double v55), (.double v55)]))
      obtain ⟨v81, q81⟩ : ∃ zz : Int32, cmpValue (FP.dcmp v55 v55) .l = zz := ⟨_, rfl⟩
      refine g_dcmp hG X22 hx (hb hby at_81) (pc' := 82) rfl q81 ?_
      refine g_ifNo hG X22 hx (hb hby at_82) (pc' := 85) (by rw [← q81, own_self D9]; rfl) rfl ?_
      refine g_iconst hG X22 hx (hb hby at_85) (pc' := 86) rfl (v := (1 : Int32)) rfl ?_
      refine g_goto hG X22 hx (hb hby at_86) (pc' := 90) (by decide) (by decide) ?_
      exact e_retZ hGe X22 hx hrt hlk (hb hby at_90) (Or.inr rfl) eh22 (by decide) (by decide) (⟨rfl, NF22⟩)
    · skip
      refine g_aload hG X18 hx (hb hby at_61) (pc' := 63) rfl rfl rfl ?_
      refine g_iload hG X18 hx (hb hby at_63) (pc' := 65) rfl rfl ?_
      refine g_callV hG X18 hx hZ (y := (⟨"com/example/ganttwright/ganttwright/ResourceProfile", "stepStart", "(I)D"⟩ : MethodName)) 0 hown (wd hw 67 rfl) (wd hw 68 rfl) (wd hw 70 rfl) (wd hw 69 rfl) (wd hw 3 rfl) (wd hw 71 rfl) (by decide) (rmSS2_x l Z a0 hw [] a ti sp v55 (0 : UInt64) v15 T18.heap n0 Zs Ex_a F_times_a F_steps_a F_count_a V_ti hi.1) (by decide) (by decide) (by rw [hml]; rfl) pd_7 rfl (argsL := [(.int v15)]) (rest := []) rfl rfl (Nat.le_of_eq rfl) (hb hby at_65) rfl Ex_a (by decide) (by decide) (pc' := 68) rfl ?_
      intro T23 rv23 L23 X23 hQ23
      obtain ⟨rfl, Nq23, eh23⟩ := hQ23
      have NF23 := Fr.app NF18 Nq23
      show G (T23.setTop (mkF m 68 _ [(.double 9218868437227405312)]))
      refine g_dstore hG X23 hx (hb hby at_68) (pc' := 70) rfl (Ls' := #[.val (.int i0), .val (.int i1), .val (.int i2), .val (.int i3), .val (.int i4), .val (.int 0), .val (.int v9), .val (.int v15), .val (.ref cs), .val (.ref am), .val (.ref a), .val (.double 9218868437227405312), .second]) rfl ?_
      refine g_dload hG X23 hx (hb hby at_70) (pc' := 72) rfl rfl ?_
      refine g_iload hG X23 hx (hb hby at_72) (pc' := 74) rfl rfl ?_
      refine g_iload hG X23 hx (hb hby at_74) (pc' := 76) rfl rfl ?_
      refine g_iload hG X23 hx (hb hby at_76) (pc' := 78) rfl rfl ?_
      refine g_callS hG X23 hx hZ (y := (⟨"com/example/ganttwright/ganttwright/ResourceProfileStepStartPinLaw", "expected", "(III)D"⟩ : MethodName)) 2 hown (wd hw 73 rfl) (wd hw 74 rfl) (wd hw 75 rfl) (wd hw 76 rfl) (by decide) (rmE0x l Z a0 hw [] v9 v15 T18.heap n0 Zs hab hi.2.1 hi.2.2) (by decide) (by decide) (by rw [hml]; rfl) pd_8 rfl (argsL := [(.int 0), (.int v9), (.int v15)]) (rest := [(.double 9218868437227405312)]) rfl rfl (Nat.le_of_eq rfl) (hb hby at_78) eh23 (by decide) (by decide) (pc' := 81) rfl ?_
      intro T24 rv24 L24 X24 hQ24
      obtain ⟨rfl, Nq24, eh24⟩ := hQ24
      have NF24 := Fr.app NF23 Nq24
      show G (T24.setTop (mkF m 81 _ [(.double 9218868437227405312), (.double 9218868437227405312)]))
      obtain ⟨v81, q81⟩ : ∃ zz : Int32, cmpValue (FP.dcmp (9218868437227405312 : UInt64) (9218868437227405312 : UInt64)) .l = zz := ⟨_, rfl⟩
      refine g_dcmp hG X24 hx (hb hby at_81) (pc' := 82) rfl q81 ?_
      refine g_ifNo hG X24 hx (hb hby at_82) (pc' := 85) (by rw [← q81, own_inf]; rfl) rfl ?_
      refine g_iconst hG X24 hx (hb hby at_85) (pc' := 86) rfl (v := (1 : Int32)) rfl ?_
      refine g_goto hG X24 hx (hb hby at_86) (pc' := 90) (by decide) (by decide) ?_
      exact e_retZ hGe X24 hx hrt hlk (hb hby at_90) (Or.inr rfl) eh24 (by decide) (by decide) (⟨rfl, NF24⟩)
  · skip
    refine g_iconst hG X0 hx (hb hby at_18) (pc' := 19) rfl (v := (1 : Int32)) rfl ?_
    refine g_newPE hG X0 hx hZ (wd hw 0 rfl) e0 (hb hby at_19) (by decide) 1 (by decide) (by decide) (by decide) (by decide) (ad := "[I") (by decide) (pc' := 21) rfl ?_
    intro T25 h25 cs gs25 X25 e25 E25 A25 B25
    have ge_cs : n0 ≤ cs := gs25 ▸ Zs
    have Zs := Nat.le_trans Zs E25.1
    have V_cs : AV Z h25 cs .int (1 : Int32) [(.int 0)] := A25
    have Ex_cs := B25
    refine g_dup hG X25 hx (hb hby at_21) (pc' := 22) rfl rfl ?_
    refine g_iconst hG X25 hx (hb hby at_22) (pc' := 23) rfl (v := (0 : Int32)) rfl ?_
    refine g_iload hG X25 hx (hb hby at_23) (pc' := 25) rfl rfl ?_
    refine g_iastore hG X25 hx hZ e25 V_cs (j := (0 : Int32)) (by decide) (show Int32.toNatClampNeg (0 : Int32) < 1 by decide) (hb hby at_25) (pc' := 26) rfl ?_
    intro T26 h26 X26 e26 W26 Vn26
    have V_cs : AV Z h26 cs .int (1 : Int32) [(.int i4)] := Vn26
    have Ex_cs := Ex_cs.wr W26
    have Zs := Nat.le_trans Zs (Wr.size W26)
    have NF26 := Fr.snoc X26 NF0 ge_cs
    refine g_astore hG X26 hx (hb hby at_26) (pc' := 28) rfl rfl (Ls' := #[.val (.int i0), .val (.int i1), .val (.int i2), .val (.int i3), .val (.int i4), .val (.int v3), .val (.int v9), .val (.int v15), .val (.ref cs), .unset, .unset, .unset, .unset]) rfl ?_
    refine g_iconst hG X26 hx (hb hby at_28) (pc' := 29) rfl (v := (1 : Int32)) rfl ?_
    refine g_newPE hG X26 hx hZ (wd hw 0 rfl) e26 (hb hby at_29) (by decide) 1 (by decide) (by decide) (by decide) (by decide) (ad := "[I") (by decide) (pc' := 31) rfl ?_
    intro T27 h27 am gs27 X27 e27 E27 A27 B27
    have ne_cs_am : cs ≠ am := Nat.ne_of_lt (gs27 ▸ V_cs.lt)
    have ge_am : n0 ≤ am := gs27 ▸ Zs
    have Zs := Nat.le_trans Zs E27.1
    have V_cs := V_cs.ext E27
    have Ex_cs := Ex_cs.ext E27
    have V_am : AV Z h27 am .int (1 : Int32) [(.int 0)] := A27
    have Ex_am := B27
    refine g_dup hG X27 hx (hb hby at_31) (pc' := 32) rfl rfl ?_
    refine g_iconst hG X27 hx (hb hby at_32) (pc' := 33) rfl (v := (0 : Int32)) rfl ?_
    refine g_iloadN hG X27 hx (hb hby at_33) (pc' := 34) rfl rfl ?_
    refine g_iastore hG X27 hx hZ e27 V_am (j := (0 : Int32)) (by decide) (show Int32.toNatClampNeg (0 : Int32) < 1 by decide) (hb hby at_34) (pc' := 35) rfl ?_
    intro T28 h28 X28 e28 W28 Vn28
    have V_am : AV Z h28 am .int (1 : Int32) [(.int i3)] := Vn28
    have V_cs := V_cs.other W28 ne_cs_am
    have Ex_cs := Ex_cs.wr W28
    have Ex_am := Ex_am.wr W28
    have Zs := Nat.le_trans Zs (Wr.size W28)
    have NF28 := Fr.snoc X28 NF26 ge_am
    refine g_astore hG X28 hx (hb hby at_35) (pc' := 37) rfl rfl (Ls' := #[.val (.int i0), .val (.int i1), .val (.int i2), .val (.int i3), .val (.int i4), .val (.int v3), .val (.int v9), .val (.int v15), .val (.ref cs), .val (.ref am), .unset, .unset, .unset]) rfl ?_
    refine g_newO hG X28 hx hZ hown (wd hw 1 rfl) (wd hw 2 rfl) (wd hw 3 rfl) e28 (hb hby at_37) (by decide) (by decide) (pc' := 40) rfl ?_
    intro T29 h29 a gs29 X29 e29 E29 Aq29 Dq29
    have ne_cs_a : cs ≠ a := Nat.ne_of_lt (gs29 ▸ V_cs.lt)
    have ne_am_a : am ≠ a := Nat.ne_of_lt (gs29 ▸ V_am.lt)
    have ge_a : n0 ≤ a := gs29 ▸ Zs
    have Zs := Nat.le_trans Zs E29.1
    have V_cs := V_cs.ext E29
    have Ex_cs := Ex_cs.ext E29
    have V_am := V_am.ext E29
    have Ex_am := Ex_am.ext E29
    have Ex_a := Aq29
    have F_times_a : Fld Z h29 a "com/example/ganttwright/ganttwright/ResourceProfile" "times" "[D" .null := Dq29 (Or.inl (wd hw 12 rfl)) (ty := (.array .double)) (by decide)
    have F_steps_a : Fld Z h29 a "com/example/ganttwright/ganttwright/ResourceProfile" "steps" "[[I" .null := Dq29 (Or.inl (wd hw 16 rfl)) (ty := (.array (.array .int))) (by decide)
    have F_count_a : Fld Z h29 a "com/example/ganttwright/ganttwright/ResourceProfile" "count" "I" (.int 0) := Dq29 (Or.inl (wd hw 18 rfl)) (ty := .int) (by decide)
    have F_capacities_a : Fld Z h29 a "com/example/ganttwright/ganttwright/ResourceProfile" "capacities" "[I" .null := Dq29 (Or.inr (wd hw 28 rfl)) (ty := (.array .int)) (by decide)
    refine g_dup hG X29 hx (hb hby at_40) (pc' := 41) rfl rfl ?_
    refine g_aload hG X29 hx (hb hby at_41) (pc' := 43) rfl rfl rfl ?_
    have lt_a := Ex_a.lt
    have lt_cs := V_cs.lt
    have lt_am := V_am.lt
    refine g_callI hG X29 hx hZ (y := (⟨"com/example/ganttwright/ganttwright/ResourceProfile", "<init>", "([I)V"⟩ : MethodName)) 1 rfl hown (wd hw 4 rfl) (wd hw 5 rfl) (wd hw 3 rfl) (wd hw 6 rfl) (by decide) (rmNew l Z a0 hw [] a cs i4 h29 n0 Zs ge_a (Ne.symm ne_cs_a) V_cs Ex_cs Ex_a F_times_a F_steps_a F_count_a F_capacities_a) (by decide) (by decide) (by rw [hml]; rfl) pd_5 rfl (argsL := [(.ref cs)]) (rest := [(.ref a)]) rfl rfl (Nat.le_of_eq rfl) (hb hby at_43) e29 (by decide) (by decide) (pc' := 46) rfl ?_
    intro T30 rv30 L30 X30 hQ30
    obtain ⟨ti, sp, s0, cA, rfl, Nq30, Kq30, sz_ti, sz_sp, sz_s0, n1, n2, n3, Ov, Ex_a, F_times_a, F_steps_a, F_count_a, V_ti, R_sp, V_s0, Ex_s0⟩ := hQ30
    have NF30 := Fr.app NF28 Nq30
    have g_ti : n0 ≤ ti := Nat.le_trans Zs sz_ti
    have n_a_ti : a ≠ ti := Nat.ne_of_lt (Nat.lt_of_lt_of_le lt_a sz_ti)
    have n_cs_ti : cs ≠ ti := Nat.ne_of_lt (Nat.lt_of_lt_of_le lt_cs sz_ti)
    have n_am_ti : am ≠ ti := Nat.ne_of_lt (Nat.lt_of_lt_of_le lt_am sz_ti)
    have g_sp : n0 ≤ sp := Nat.le_trans Zs sz_sp
    have n_a_sp : a ≠ sp := Nat.ne_of_lt (Nat.lt_of_lt_of_le lt_a sz_sp)
    have n_cs_sp : cs ≠ sp := Nat.ne_of_lt (Nat.lt_of_lt_of_le lt_cs sz_sp)
    have n_am_sp : am ≠ sp := Nat.ne_of_lt (Nat.lt_of_lt_of_le lt_am sz_sp)
    have g_s0 : n0 ≤ s0 := Nat.le_trans Zs sz_s0
    have n_a_s0 : a ≠ s0 := Nat.ne_of_lt (Nat.lt_of_lt_of_le lt_a sz_s0)
    have n_cs_s0 : cs ≠ s0 := Nat.ne_of_lt (Nat.lt_of_lt_of_le lt_cs sz_s0)
    have n_am_s0 : am ≠ s0 := Nat.ne_of_lt (Nat.lt_of_lt_of_le lt_am sz_s0)
    have g_a := ge_a
    have V_cs := V_cs.keep Kq30 (ninS ne_cs_a nin0)
    have Ex_cs := Ex_cs.keep Kq30
    have V_am := V_am.keep Kq30 (ninS ne_am_a nin0)
    have Ex_am := Ex_am.keep Kq30
    have Zs := Nat.le_trans Zs Kq30.1
    show G (T30.setTop (mkF m 46 _ [(.ref a)]))
    refine g_astore hG X30 hx (hb hby at_46) (pc' := 48) rfl rfl (Ls' := #[.val (.int i0), .val (.int i1), .val (.int i2), .val (.int i3), .val (.int i4), .val (.int v3), .val (.int v9), .val (.int v15), .val (.ref cs), .val (.ref am), .val (.ref a), .unset, .unset]) rfl ?_
    refine g_aload hG X30 hx (hb hby at_48) (pc' := 50) rfl rfl rfl ?_
    refine g_iload hG X30 hx (hb hby at_50) (pc' := 52) rfl rfl ?_
    obtain ⟨v52, q52⟩ : ∃ zz : UInt64, FP.i2d v3 = zz := ⟨_, rfl⟩
    refine g_i2d hG X30 hx (hb hby at_52) (pc' := 53) rfl q52 ?_
    refine g_iload hG X30 hx (hb hby at_53) (pc' := 55) rfl rfl ?_
    obtain ⟨v55, q55⟩ : ∃ zz : UInt64, FP.i2d v9 = zz := ⟨_, rfl⟩
    refine g_i2d hG X30 hx (hb hby at_55) (pc' := 56) rfl q55 ?_
    refine g_aload hG X30 hx (hb hby at_56) (pc' := 58) rfl rfl rfl ?_
    have D9 : OwnFl.DV v55 (v9.toInt : Rat) := by rw [← q55]; exact OwnFl.i2d_DV v9
    have D3 : OwnFl.DV v52 (v3.toInt : Rat) := by rw [← q52]; exact OwnFl.i2d_DV v3
    have hlt := Int32.lt_iff_toInt_lt.mp hab
    have hs : 0 < v3.toInt := by
      have : v3.toInt ≠ 0 := fun q => ha (Int32.toInt_inj.mp (by rw [q, z0]))
      omega
    have cx : FP.dcmp v55 v52 = some .gt := OwnFl.dcmp_gt D9 D3 (Rat.intCast_lt_intCast.mpr hlt)
    have cx' : FP.dcmp v52 v55 = some .lt := OwnFl.dcmp_lt D3 D9 (Rat.intCast_lt_intCast.mpr hlt)
    have c0s : FP.dcmp 0 v52 = some .lt := OwnFl.dcmp_lt own_z D3 (Rat.intCast_pos.mpr hs)
    have c0e : FP.dcmp 0 v55 = some .lt := OwnFl.dcmp_lt own_z D9 (Rat.intCast_pos.mpr (by omega))
    refine g_callV hG X30 hx hZ (y := (⟨"com/example/ganttwright/ganttwright/ResourceProfile", "place", "(DD[I)V"⟩ : MethodName)) 0 hown (wd hw 29 rfl) (wd hw 30 rfl) (wd hw 32 rfl) (wd hw 31 rfl) (wd hw 3 rfl) (wd hw 33 rfl) (by decide) (rmLc1 l Z a0 hw [] a ti sp s0 cA (0 : Int32) am i3 v52 v55 T30.heap n0 Zs Ex_a F_times_a F_steps_a F_count_a V_ti R_sp V_s0 Ex_s0 n_a_ti n_a_sp n_a_s0 n1 n2 n3 g_a g_ti g_sp g_s0 Ov V_am (Ne.symm ne_am_a) (Ne.symm n_am_ti) (Ne.symm n_am_sp) (Ne.symm n_am_s0) cx cx' c0s c0e) (by decide) (by decide) (by rw [hml]; rfl) pd_6 rfl (argsL := [(.double v52), (.double v55), (.ref am)]) (rest := []) rfl rfl (Nat.le_of_eq rfl) (hb hby at_58) rfl Ex_a (by decide) (by decide) (pc' := 61) rfl ?_
    intro T31 rv31 L31 X31 hQ31
    obtain ⟨rfl, Nq31, Kq31, Ex_a, F_times_a, F_steps_a, F_count_a, V_ti⟩ := hQ31
    have NF31 := Fr.app NF30 Nq31
    have V_cs := V_cs.keep Kq31 (ninS ne_cs_a (ninS n_cs_ti (ninS n_cs_sp (ninS n_cs_s0 nin0))))
    have Ex_cs := Ex_cs.keep Kq31
    have V_am := V_am.keep Kq31 (ninS ne_am_a (ninS n_am_ti (ninS n_am_sp (ninS n_am_s0 nin0))))
    have Ex_am := Ex_am.keep Kq31
    have Zs := Nat.le_trans Zs Kq31.1
    show G (T31.setTop (mkF m 61 _ []))
    have hi : v15 = 0 ∨ v15 = 1 ∨ v15 = 2 ∨ (¬ v15 < (3 : Int32) ∧ ¬ v15 = (0 : Int32) ∧ ¬ v15 = (1 : Int32) ∧ ¬ v15 = (2 : Int32)) := by
      simp only [← Int32.toInt_inj, Int32.lt_iff_toInt_lt, z0, z1, z2, z3]
      omega
    rcases hi with rfl | rfl | rfl | hi
    · skip
      refine g_aload hG X31 hx (hb hby at_61) (pc' := 63) rfl rfl rfl ?_
      refine g_iload hG X31 hx (hb hby at_63) (pc' := 65) rfl rfl ?_
      refine g_callV hG X31 hx hZ (y := (⟨"com/example/ganttwright/ganttwright/ResourceProfile", "stepStart", "(I)D"⟩ : MethodName)) 0 hown (wd hw 67 rfl) (wd hw 68 rfl) (wd hw 70 rfl) (wd hw 69 rfl) (wd hw 3 rfl) (wd hw 71 rfl) (by decide) (rmSS3_0 l Z a0 hw [] a ti sp v52 v55 T31.heap n0 Zs Ex_a F_times_a F_steps_a F_count_a V_ti) (by decide) (by decide) (by rw [hml]; rfl) pd_7 rfl (argsL := [(.int 0)]) (rest := []) rfl rfl (Nat.le_of_eq rfl) (hb hby at_65) rfl Ex_a (by decide) (by decide) (pc' := 68) rfl ?_
      intro T32 rv32 L32 X32 hQ32
      obtain ⟨rfl, Nq32, eh32⟩ := hQ32
      have NF32 := Fr.app NF31 Nq32
      show G (T32.setTop (mkF m 68 _ [(.double 0)]))
      refine g_dstore hG X32 hx (hb hby at_68) (pc' := 70) rfl (Ls' := #[.val (.int i0), .val (.int i1), .val (.int i2), .val (.int i3), .val (.int i4), .val (.int v3), .val (.int v9), .val (.int 0), .val (.ref cs), .val (.ref am), .val (.ref a), .val (.double 0), .second]) rfl ?_
      refine g_dload hG X32 hx (hb hby at_70) (pc' := 72) rfl rfl ?_
      refine g_iload hG X32 hx (hb hby at_72) (pc' := 74) rfl rfl ?_
      refine g_iload hG X32 hx (hb hby at_74) (pc' := 76) rfl rfl ?_
      refine g_iload hG X32 hx (hb hby at_76) (pc' := 78) rfl rfl ?_
      refine g_callS hG X32 hx hZ (y := (⟨"com/example/ganttwright/ganttwright/ResourceProfileStepStartPinLaw", "expected", "(III)D"⟩ : MethodName)) 2 hown (wd hw 73 rfl) (wd hw 74 rfl) (wd hw 75 rfl) (wd hw 76 rfl) (by decide) (rmE10 l Z a0 hw [] v3 v9 T31.heap n0 Zs hab ha) (by decide) (by decide) (by rw [hml]; rfl) pd_8 rfl (argsL := [(.int v3), (.int v9), (.int 0)]) (rest := [(.double 0)]) rfl rfl (Nat.le_of_eq rfl) (hb hby at_78) eh32 (by decide) (by decide) (pc' := 81) rfl ?_
      intro T33 rv33 L33 X33 hQ33
      obtain ⟨rfl, Nq33, eh33⟩ := hQ33
      have NF33 := Fr.app NF32 Nq33
      show G (T33.setTop (mkF m 81 _ [(.double 0), (.double 0)]))
      obtain ⟨v81, q81⟩ : ∃ zz : Int32, cmpValue (FP.dcmp (0 : UInt64) (0 : UInt64)) .l = zz := ⟨_, rfl⟩
      refine g_dcmp hG X33 hx (hb hby at_81) (pc' := 82) rfl q81 ?_
      refine g_ifNo hG X33 hx (hb hby at_82) (pc' := 85) (by rw [← q81, own_zz]; rfl) rfl ?_
      refine g_iconst hG X33 hx (hb hby at_85) (pc' := 86) rfl (v := (1 : Int32)) rfl ?_
      refine g_goto hG X33 hx (hb hby at_86) (pc' := 90) (by decide) (by decide) ?_
      exact e_retZ hGe X33 hx hrt hlk (hb hby at_90) (Or.inr rfl) eh33 (by decide) (by decide) (⟨rfl, NF33⟩)
    · skip
      refine g_aload hG X31 hx (hb hby at_61) (pc' := 63) rfl rfl rfl ?_
      refine g_iload hG X31 hx (hb hby at_63) (pc' := 65) rfl rfl ?_
      refine g_callV hG X31 hx hZ (y := (⟨"com/example/ganttwright/ganttwright/ResourceProfile", "stepStart", "(I)D"⟩ : MethodName)) 0 hown (wd hw 67 rfl) (wd hw 68 rfl) (wd hw 70 rfl) (wd hw 69 rfl) (wd hw 3 rfl) (wd hw 71 rfl) (by decide) (rmSS3_1 l Z a0 hw [] a ti sp v52 v55 T31.heap n0 Zs Ex_a F_times_a F_steps_a F_count_a V_ti) (by decide) (by decide) (by rw [hml]; rfl) pd_7 rfl (argsL := [(.int 1)]) (rest := []) rfl rfl (Nat.le_of_eq rfl) (hb hby at_65) rfl Ex_a (by decide) (by decide) (pc' := 68) rfl ?_
      intro T34 rv34 L34 X34 hQ34
      obtain ⟨rfl, Nq34, eh34⟩ := hQ34
      have NF34 := Fr.app NF31 Nq34
      show G (T34.setTop (mkF m 68 _ [(.double v52)]))
      refine g_dstore hG X34 hx (hb hby at_68) (pc' := 70) rfl (Ls' := #[.val (.int i0), .val (.int i1), .val (.int i2), .val (.int i3), .val (.int i4), .val (.int v3), .val (.int v9), .val (.int 1), .val (.ref cs), .val (.ref am), .val (.ref a), .val (.double v52), .second]) rfl ?_
      refine g_dload hG X34 hx (hb hby at_70) (pc' := 72) rfl rfl ?_
      refine g_iload hG X34 hx (hb hby at_72) (pc' := 74) rfl rfl ?_
      refine g_iload hG X34 hx (hb hby at_74) (pc' := 76) rfl rfl ?_
      refine g_iload hG X34 hx (hb hby at_76) (pc' := 78) rfl rfl ?_
      refine g_callS hG X34 hx hZ (y := (⟨"com/example/ganttwright/ganttwright/ResourceProfileStepStartPinLaw", "expected", "(III)D"⟩ : MethodName)) 2 hown (wd hw 73 rfl) (wd hw 74 rfl) (wd hw 75 rfl) (wd hw 76 rfl) (by decide) (rmE11 l Z a0 hw [] v3 v9 v52 T31.heap n0 Zs hab ha q52) (by decide) (by decide) (by rw [hml]; rfl) pd_8 rfl (argsL := [(.int v3), (.int v9), (.int 1)]) (rest := [(.double v52)]) rfl rfl (Nat.le_of_eq rfl) (hb hby at_78) eh34 (by decide) (by decide) (pc' := 81) rfl ?_
      intro T35 rv35 L35 X35 hQ35
      obtain ⟨rfl, Nq35, eh35⟩ := hQ35
      have NF35 := Fr.app NF34 Nq35
      show G (T35.setTop (mkF m 81 _ [(.double v52), (.double v52)]))
      obtain ⟨v81, q81⟩ : ∃ zz : Int32, cmpValue (FP.dcmp v52 v52) .l = zz := ⟨_, rfl⟩
      refine g_dcmp hG X35 hx (hb hby at_81) (pc' := 82) rfl q81 ?_
      refine g_ifNo hG X35 hx (hb hby at_82) (pc' := 85) (by rw [← q81, own_self D3]; rfl) rfl ?_
      refine g_iconst hG X35 hx (hb hby at_85) (pc' := 86) rfl (v := (1 : Int32)) rfl ?_
      refine g_goto hG X35 hx (hb hby at_86) (pc' := 90) (by decide) (by decide) ?_
      exact e_retZ hGe X35 hx hrt hlk (hb hby at_90) (Or.inr rfl) eh35 (by decide) (by decide) (⟨rfl, NF35⟩)
    · skip
      refine g_aload hG X31 hx (hb hby at_61) (pc' := 63) rfl rfl rfl ?_
      refine g_iload hG X31 hx (hb hby at_63) (pc' := 65) rfl rfl ?_
      refine g_callV hG X31 hx hZ (y := (⟨"com/example/ganttwright/ganttwright/ResourceProfile", "stepStart", "(I)D"⟩ : MethodName)) 0 hown (wd hw 67 rfl) (wd hw 68 rfl) (wd hw 70 rfl) (wd hw 69 rfl) (wd hw 3 rfl) (wd hw 71 rfl) (by decide) (rmSS3_2 l Z a0 hw [] a ti sp v52 v55 T31.heap n0 Zs Ex_a F_times_a F_steps_a F_count_a V_ti) (by decide) (by decide) (by rw [hml]; rfl) pd_7 rfl (argsL := [(.int 2)]) (rest := []) rfl rfl (Nat.le_of_eq rfl) (hb hby at_65) rfl Ex_a (by decide) (by decide) (pc' := 68) rfl ?_
      intro T36 rv36 L36 X36 hQ36
      obtain ⟨rfl, Nq36, eh36⟩ := hQ36
      have NF36 := Fr.app NF31 Nq36
      show G (T36.setTop (mkF m 68 _ [(.double v55)]))
      refine g_dstore hG X36 hx (hb hby at_68) (pc' := 70) rfl (Ls' := #[.val (.int i0), .val (.int i1), .val (.int i2), .val (.int i3), .val (.int i4), .val (.int v3), .val (.int v9), .val (.int 2), .val (.ref cs), .val (.ref am), .val (.ref a), .val (.double v55), .second]) rfl ?_
      refine g_dload hG X36 hx (hb hby at_70) (pc' := 72) rfl rfl ?_
      refine g_iload hG X36 hx (hb hby at_72) (pc' := 74) rfl rfl ?_
      refine g_iload hG X36 hx (hb hby at_74) (pc' := 76) rfl rfl ?_
      refine g_iload hG X36 hx (hb hby at_76) (pc' := 78) rfl rfl ?_
      refine g_callS hG X36 hx hZ (y := (⟨"com/example/ganttwright/ganttwright/ResourceProfileStepStartPinLaw", "expected", "(III)D"⟩ : MethodName)) 2 hown (wd hw 73 rfl) (wd hw 74 rfl) (wd hw 75 rfl) (wd hw 76 rfl) (by decide) (rmE12 l Z a0 hw [] v3 v9 v55 T31.heap n0 Zs hab ha q55) (by decide) (by decide) (by rw [hml]; rfl) pd_8 rfl (argsL := [(.int v3), (.int v9), (.int 2)]) (rest := [(.double v55)]) rfl rfl (Nat.le_of_eq rfl) (hb hby at_78) eh36 (by decide) (by decide) (pc' := 81) rfl ?_
      intro T37 rv37 L37 X37 hQ37
      obtain ⟨rfl, Nq37, eh37⟩ := hQ37
      have NF37 := Fr.app NF36 Nq37
      show G (T37.setTop (mkF m 81 _ [(.double v55), (.double v55)]))
      obtain ⟨v81, q81⟩ : ∃ zz : Int32, cmpValue (FP.dcmp v55 v55) .l = zz := ⟨_, rfl⟩
      refine g_dcmp hG X37 hx (hb hby at_81) (pc' := 82) rfl q81 ?_
      refine g_ifNo hG X37 hx (hb hby at_82) (pc' := 85) (by rw [← q81, own_self D9]; rfl) rfl ?_
      refine g_iconst hG X37 hx (hb hby at_85) (pc' := 86) rfl (v := (1 : Int32)) rfl ?_
      refine g_goto hG X37 hx (hb hby at_86) (pc' := 90) (by decide) (by decide) ?_
      exact e_retZ hGe X37 hx hrt hlk (hb hby at_90) (Or.inr rfl) eh37 (by decide) (by decide) (⟨rfl, NF37⟩)
    · skip
      refine g_aload hG X31 hx (hb hby at_61) (pc' := 63) rfl rfl rfl ?_
      refine g_iload hG X31 hx (hb hby at_63) (pc' := 65) rfl rfl ?_
      refine g_callV hG X31 hx hZ (y := (⟨"com/example/ganttwright/ganttwright/ResourceProfile", "stepStart", "(I)D"⟩ : MethodName)) 0 hown (wd hw 67 rfl) (wd hw 68 rfl) (wd hw 70 rfl) (wd hw 69 rfl) (wd hw 3 rfl) (wd hw 71 rfl) (by decide) (rmSS3_x l Z a0 hw [] a ti sp v52 v55 v15 T31.heap n0 Zs Ex_a F_times_a F_steps_a F_count_a V_ti hi.1) (by decide) (by decide) (by rw [hml]; rfl) pd_7 rfl (argsL := [(.int v15)]) (rest := []) rfl rfl (Nat.le_of_eq rfl) (hb hby at_65) rfl Ex_a (by decide) (by decide) (pc' := 68) rfl ?_
      intro T38 rv38 L38 X38 hQ38
      obtain ⟨rfl, Nq38, eh38⟩ := hQ38
      have NF38 := Fr.app NF31 Nq38
      show G (T38.setTop (mkF m 68 _ [(.double 9218868437227405312)]))
      refine g_dstore hG X38 hx (hb hby at_68) (pc' := 70) rfl (Ls' := #[.val (.int i0), .val (.int i1), .val (.int i2), .val (.int i3), .val (.int i4), .val (.int v3), .val (.int v9), .val (.int v15), .val (.ref cs), .val (.ref am), .val (.ref a), .val (.double 9218868437227405312), .second]) rfl ?_
      refine g_dload hG X38 hx (hb hby at_70) (pc' := 72) rfl rfl ?_
      refine g_iload hG X38 hx (hb hby at_72) (pc' := 74) rfl rfl ?_
      refine g_iload hG X38 hx (hb hby at_74) (pc' := 76) rfl rfl ?_
      refine g_iload hG X38 hx (hb hby at_76) (pc' := 78) rfl rfl ?_
      refine g_callS hG X38 hx hZ (y := (⟨"com/example/ganttwright/ganttwright/ResourceProfileStepStartPinLaw", "expected", "(III)D"⟩ : MethodName)) 2 hown (wd hw 73 rfl) (wd hw 74 rfl) (wd hw 75 rfl) (wd hw 76 rfl) (by decide) (rmE1x l Z a0 hw [] v3 v9 v15 T31.heap n0 Zs hab ha hi.2.1 hi.2.2.1 hi.2.2.2) (by decide) (by decide) (by rw [hml]; rfl) pd_8 rfl (argsL := [(.int v3), (.int v9), (.int v15)]) (rest := [(.double 9218868437227405312)]) rfl rfl (Nat.le_of_eq rfl) (hb hby at_78) eh38 (by decide) (by decide) (pc' := 81) rfl ?_
      intro T39 rv39 L39 X39 hQ39
      obtain ⟨rfl, Nq39, eh39⟩ := hQ39
      have NF39 := Fr.app NF38 Nq39
      show G (T39.setTop (mkF m 81 _ [(.double 9218868437227405312), (.double 9218868437227405312)]))
      obtain ⟨v81, q81⟩ : ∃ zz : Int32, cmpValue (FP.dcmp (9218868437227405312 : UInt64) (9218868437227405312 : UInt64)) .l = zz := ⟨_, rfl⟩
      refine g_dcmp hG X39 hx (hb hby at_81) (pc' := 82) rfl q81 ?_
      refine g_ifNo hG X39 hx (hb hby at_82) (pc' := 85) (by rw [← q81, own_inf]; rfl) rfl ?_
      refine g_iconst hG X39 hx (hb hby at_85) (pc' := 86) rfl (v := (1 : Int32)) rfl ?_
      refine g_goto hG X39 hx (hb hby at_86) (pc' := 90) (by decide) (by decide) ?_
      exact e_retZ hGe X39 hx hrt hlk (hb hby at_90) (Or.inr rfl) eh39 (by decide) (by decide) (⟨rfl, NF39⟩)
set_option maxRecDepth 65536 in
set_option maxHeartbeats 40000000 in
theorem comes_1 {Post : Tables → Env → Array Value → State → Outcome → State → Prop} (hpost : ∀ tb e args s v u, (limb_1_1.after args s (.returned v) u = true ∧ limb_1_2.after args s (.returned v) u = true ∧ True) → FrameEnd s (.returned v) u (Jvm.fieldLocs frame_1_writes args s ++ Jvm.arrayLocs frame_1_arrays args s ++ Jvm.staticLocs frame_1_statics s) 32 192 → Post tb e args s (.returned v) u) :
    ArmFor flags0 classFile x code maxLocals ret World_1 tables_1 room_1 Calls_1 rest_1 Pre_1 Post := by
  intro l hfl _ _ p e ha hc hk s m args below hf hA hF happ hP
  obtain ⟨hcalls, hrest, hpre⟩ := hP
  obtain ⟨-, -, -, hnamed, -, -, -, hat⟩ := (Spec.applies_iff hf).mp happ
  obtain ⟨hg, hn⟩ := and_e (Cond.before_iff.mp (show (Jvm.Cond.and given_1 narrow_1).before args s = true from hpre))
  obtain ⟨hcount, ha_0⟩ := and_e hg
  obtain ⟨hb_0, ha_1⟩ := and_e ha_0
  obtain ⟨hb_1, ha_2⟩ := and_e ha_1
  obtain ⟨hb_2, ha_3⟩ := and_e ha_2
  obtain ⟨hb_3, ha_4⟩ := and_e ha_3
  have hb_4 := ha_4
  obtain ⟨w0, w1, w2, w3, w4, rfl⟩ : ∃ w0 w1 w2 w3 w4 : Value, args = #[w0, w1, w2, w3, w4] := by
    have hs : args.size = 5 := by simpa [Cond.value, given_1] using hcount
    obtain ⟨L⟩ := args
    match L, hs with
    | [w0, w1, w2, w3, w4], _ => exact ⟨w0, w1, w2, w3, w4, rfl⟩
  have hw := fun d (hd : d ∈ tables_1) => atoms_spec (ws := Jvm.Cond.code x code maxLocals ret :: tables_1) hat d (List.mem_cons_of_mem _ hd)
  obtain ⟨i0, ei0⟩ := is_v hb_0
  obtain rfl : w0 = (.int i0) := Option.some.inj ei0
  obtain ⟨i1, ei1⟩ := is_v hb_1
  obtain rfl : w1 = (.int i1) := Option.some.inj ei1
  obtain ⟨i2, ei2⟩ := is_v hb_2
  obtain rfl : w2 = (.int i2) := Option.some.inj ei2
  obtain ⟨i3, ei3⟩ := is_v hb_3
  obtain rfl : w3 = (.int i3) := Option.some.inj ei3
  obtain ⟨i4, ei4⟩ := is_v hb_4
  obtain rfl : w4 = (.int i4) := Option.some.inj ei4
  obtain ⟨n, o, h1, h2, h3, _, L, rfl, ⟨rfl, N⟩, hq⟩ := rm0 l s _ hw tables_1 i0 i1 i2 i3 i4 s.heap s.heap.size (Nat.le_refl _)  p e ha hc hk s m _ below hf ((Spec.applies_iff_loose hf).mp happ).1 ⟨rfl, State.Warmed39.refl s, rfl⟩ trivial
  refine ⟨n, _, h1, h2, h3, hpost _ _ _ _ _ _ ⟨Cond.after_iff.mpr rfl, Cond.after_iff.mpr (eq_i res_at (Term.int_eval (1)) rfl), trivial⟩ ⟨hq.1, hq.2.1, (hq.2.2.sift fun y hy => Or.inr (N y hy)).mono (by decide) (by decide)⟩⟩
theorem main_1_1 : Claimed_1_1 := comes_1 fun _ _ _ _ _ _ h hF => ⟨h.1, hF⟩
theorem main_1_2 : Claimed_1_2 := comes_1 fun _ _ _ _ _ _ h hF => ⟨h.2.1, hF⟩
end Jvm.Pilot.@@N@@
namespace Jvm.Pilot.@@N@@
open Jvm Jvm.ClassFile Sem Op Lib Jvm.Free Jvm.Stand Jvm.Pilot.@@N@@.Jvm.D
/-! MADE BY PROGRAM (witnessworld.py) out of the Statement's table words and the real class files: 18 classes; the members and pool entries that the words name. The judged class is class 1, her method 2. -/
namespace start1
open Jvm.ClassFile
def u (s : String) : CpInfo := .utf8 (stringToUtf16 s)
/-- a pool by its gaps: so many unusable entries, then the entry; so many at the end -/
def gap : Nat → List CpInfo → List CpInfo
  | 0, r => r
  | n + 1, r => .unusable :: gap n r
def poolList (es : List (Nat × CpInfo)) (last : Nat) : List CpInfo := es.foldr (fun e r => gap e.1 (e.2 :: r)) (gap last [])
def pool (es : List (Nat × CpInfo)) (last : Nat) : Array CpInfo := ⟨poolList es last⟩
def fileOf (pool : Array CpInfo) (this : Nat) (attrs : Array Attribute := #[]) (ms : Array MethodInfo := #[]) (fl : Nat := 33) (sup : Nat := 0) (ifs : Array Nat := #[]) (fds : Array FieldInfo := #[]) : ClassFile where
  minorVersion := 0
  majorVersion := 65
  constantPool := pool
  accessFlags := fl
  thisClass := this
  superClass := sup
  interfaces := ifs
  fields := fds
  methods := ms
  attributes := attrs
def plain (name : String) (sup : Option ClassId) : Class where
  name := name
  kind := .ordinary
  loader := none
  accessFlags := 33
  super := sup
  interfaces := #[]
  cf := none
  fields := #[]
  methods := #[]
  instanceTypes := #[]
  staticTypes := #[]
  resolved := #[]
  callSites := []
  init := .initialized
  statics := none
  mirror := none

def pool0 : Array CpInfo := pool [(5, u "<init>"), (0, u "()V"), (1, .class_ 10), (1, u "java/lang/Object"), (85, u "clone"), (0, u "()Ljava/lang/Object;")] 26

def k0c0 : Code := { maxStack := 0, maxLocals := 1, code := object_method_1_code, exceptionTable := #[], attributes := #[] }
def k0m0 : Method := { name := "<init>", desc := "()V", sig := { parameters := [], returnType := none }, accessFlags := 1, code := some k0c0 }
def k0m1 : Method := { name := "clone", desc := "()Ljava/lang/Object;", sig := { parameters := [], returnType := some (.object "java/lang/Object") }, accessFlags := 260, code := none }
/-- java/lang/Object -/
def k0 : Class := { plain "java/lang/Object" none with
  accessFlags := 33
  interfaces := #[]
  cf := some (fileOf pool0 8 #[] #[{ accessFlags := 1, nameIndex := 5, descriptorIndex := 6, attributes := #[] }, { accessFlags := 260, nameIndex := 96, descriptorIndex := 97, attributes := #[] }] 33 0 #[] #[])
  fields := #[]
  methods := #[k0m0, k0m1]
  instanceTypes := #[]
  staticTypes := #[]
  resolved := Array.replicate 124 none
  statics := none }

def pool1 : Array CpInfo := pool [(2, .class_ 4), (1, u "java/lang/Object"), (0, u "<init>"), (0, u "()V"), (0, .double 9218868437227405312), (1, .class_ 10), (0, u "com/example/ganttwright/ganttwright/ResourceProfile"), (0, .methodref 9 12), (0, .nameAndType 5 13), (0, u "([I)V"), (0, .methodref 9 15), (0, .nameAndType 16 17), (0, u "place"), (0, u "(DD[I)V"), (0, .methodref 9 19), (0, .nameAndType 20 21), (0, u "stepStart"), (0, u "(I)D"), (0, .methodref 23 24), (0, .class_ 25), (0, .nameAndType 26 27), (0, u "com/example/ganttwright/ganttwright/ResourceProfileStepStartPinLaw"), (0, u "expected"), (0, u "(III)D"), (3, u "law"), (0, u "(IIIII)Z")] 4

def k1m0 : Method := { name := "<init>", desc := "()V", sig := { parameters := [], returnType := none }, accessFlags := 1, code := none }
def k1c1 : Code := { maxStack := 2, maxLocals := 5, code := method_2_code, exceptionTable := #[], attributes := #[] }
def k1m1 : Method := { name := "expected", desc := "(III)D", sig := { parameters := [.int, .int, .int], returnType := some .double }, accessFlags := 10, code := some k1c1 }
def k1c2 : Code := { maxStack := 6, maxLocals := 13, code := code, exceptionTable := #[], attributes := #[] }
def k1m2 : Method := { name := "law", desc := "(IIIII)Z", sig := { parameters := [.int, .int, .int, .int, .int], returnType := some .boolean }, accessFlags := 9, code := some k1c2 }
/-- com/example/ganttwright/ganttwright/ResourceProfileStepStartPinLaw -/
def k1 : Class := { plain "com/example/ganttwright/ganttwright/ResourceProfileStepStartPinLaw" (some 0) with
  accessFlags := 49
  interfaces := #[]
  cf := some (fileOf pool1 23 #[] #[{ accessFlags := 1, nameIndex := 5, descriptorIndex := 6, attributes := #[] }, { accessFlags := 10, nameIndex := 26, descriptorIndex := 27, attributes := #[] }, { accessFlags := 9, nameIndex := 31, descriptorIndex := 32, attributes := #[] }] 49 2 #[] #[])
  fields := #[]
  methods := #[k1m0, k1m1, k1m2]
  instanceTypes := #[]
  staticTypes := #[]
  resolved := Array.replicate 37 none
  statics := none }

def pool2 : Array CpInfo := pool [(1, .methodref 2 3), (0, .class_ 4), (0, .nameAndType 5 6), (0, u "java/lang/Object"), (0, u "<init>"), (0, u "()V"), (0, .fieldref 8 9), (0, .class_ 10), (0, .nameAndType 11 12), (0, u "com/example/ganttwright/ganttwright/ResourceProfile"), (0, u "times"), (0, u "[D"), (0, .class_ 14), (0, u "[I"), (0, .fieldref 8 16), (0, .nameAndType 17 18), (0, u "steps"), (0, u "[[I"), (0, .fieldref 8 20), (0, .nameAndType 21 22), (0, u "count"), (0, u "I"), (0, .methodref 13 24), (0, .nameAndType 25 26), (0, u "clone"), (0, u "()Ljava/lang/Object;"), (0, .fieldref 8 28), (0, .nameAndType 29 14), (0, u "capacities"), (0, .methodref 8 31), (0, .nameAndType 32 33), (0, u "stepAt"), (0, u "(D)I"), (4, .methodref 39 40), (0, .class_ 41), (0, .nameAndType 42 43), (0, u "java/util/Arrays"), (0, u "binarySearch"), (0, u "([DIID)I"), (2, .double 9218868437227405312), (7, .methodref 8 55), (0, .nameAndType 56 33), (0, u "split"), (8, .methodref 66 67), (0, .class_ 68), (0, .nameAndType 69 70), (0, u "java/lang/System"), (0, u "arraycopy"), (0, u "(Ljava/lang/Object;ILjava/lang/Object;II)V"), (0, u "([I)V"), (5, u "stepStart"), (0, u "(I)D"), (2, u "place"), (0, u "(DD[I)V")] 2

def k2c0 : Code := { maxStack := 3, maxLocals := 2, code := prog_23_method_1_code, exceptionTable := #[], attributes := #[] }
def k2m0 : Method := { name := "<init>", desc := "([I)V", sig := { parameters := [(.array .int)], returnType := none }, accessFlags := 0, code := some k2c0 }
def k2c1 : Code := { maxStack := 5, maxLocals := 4, code := prog_23_method_3_code, exceptionTable := #[], attributes := #[] }
def k2m1 : Method := { name := "stepAt", desc := "(D)I", sig := { parameters := [.double], returnType := some .int }, accessFlags := 0, code := some k2c1 }
def k2c2 : Code := { maxStack := 2, maxLocals := 2, code := prog_23_method_4_code, exceptionTable := #[], attributes := #[] }
def k2m2 : Method := { name := "stepStart", desc := "(I)D", sig := { parameters := [.int], returnType := some .double }, accessFlags := 0, code := some k2c2 }
def k2c3 : Code := { maxStack := 5, maxLocals := 10, code := prog_23_method_6_code, exceptionTable := #[], attributes := #[] }
def k2m3 : Method := { name := "place", desc := "(DD[I)V", sig := { parameters := [.double, .double, (.array .int)], returnType := none }, accessFlags := 0, code := some k2c3 }
def k2c4 : Code := { maxStack := 6, maxLocals := 5, code := prog_23_method_8_code, exceptionTable := #[], attributes := #[] }
def k2m4 : Method := { name := "split", desc := "(D)I", sig := { parameters := [.double], returnType := some .int }, accessFlags := 2, code := some k2c4 }
/-- com/example/ganttwright/ganttwright/ResourceProfile -/
def k2 : Class := { plain "com/example/ganttwright/ganttwright/ResourceProfile" (some 0) with
  accessFlags := 48
  interfaces := #[]
  cf := some (fileOf pool2 8 #[] #[{ accessFlags := 0, nameIndex := 5, descriptorIndex := 71, attributes := #[] }, { accessFlags := 0, nameIndex := 32, descriptorIndex := 33, attributes := #[] }, { accessFlags := 0, nameIndex := 77, descriptorIndex := 78, attributes := #[] }, { accessFlags := 0, nameIndex := 81, descriptorIndex := 82, attributes := #[] }, { accessFlags := 2, nameIndex := 56, descriptorIndex := 33, attributes := #[] }] 48 2 #[] #[{ accessFlags := 18, nameIndex := 29, descriptorIndex := 14, attributes := #[] }, { accessFlags := 2, nameIndex := 11, descriptorIndex := 12, attributes := #[] }, { accessFlags := 2, nameIndex := 17, descriptorIndex := 18, attributes := #[] }, { accessFlags := 2, nameIndex := 21, descriptorIndex := 22, attributes := #[] }])
  fields := #[{ name := "capacities", type := (.array .int), accessFlags := 18, slot := 0, constantValue := 0 }, { name := "times", type := (.array .double), accessFlags := 2, slot := 1, constantValue := 0 }, { name := "steps", type := (.array (.array .int)), accessFlags := 2, slot := 2, constantValue := 0 }, { name := "count", type := .int, accessFlags := 2, slot := 3, constantValue := 0 }]
  methods := #[k2m0, k2m1, k2m2, k2m3, k2m4]
  instanceTypes := #[(.array .int), (.array .double), (.array (.array .int)), .int]
  staticTypes := #[]
  resolved := Array.replicate 85 none
  statics := none }

def pool3 : Array CpInfo := pool [(1, .class_ 2), (0, u "java/lang/Cloneable"), (0, .class_ 4), (0, u "java/lang/Object")] 2

/-- java/lang/Cloneable -/
def k3 : Class := { plain "java/lang/Cloneable" (some 0) with
  accessFlags := 1537
  interfaces := #[]
  cf := some (fileOf pool3 1 #[] #[] 1537 3 #[] #[])
  fields := #[]
  methods := #[]
  instanceTypes := #[]
  staticTypes := #[]
  resolved := Array.replicate 7 none
  statics := none }

def pool4 : Array CpInfo := pool [(2, .class_ 4), (1, u "java/lang/Object"), (0, u "<init>"), (0, u "()V"), (6, .methodref 14 15), (0, .class_ 16), (0, .nameAndType 17 18), (0, u "java/util/Arrays"), (0, u "rangeCheck"), (0, u "(III)V"), (55, .class_ 76), (1, u "java/util/Arrays$NaturalOrder"), (36, .class_ 115), (1, u "java/util/Arrays$LegacyMergeSort"), (1, u "Z"), (89, u "binarySearch0"), (13, .methodref 14 222), (0, .nameAndType 207 223), (0, u "([DIID)I"), (0, .methodref 225 226), (0, .class_ 227), (0, .nameAndType 228 229), (0, u "java/lang/Double"), (0, u "doubleToLongBits"), (0, u "(D)J"), (145, .class_ 376), (0, u "java/util/Arrays$ArrayList"), (68, u "$assertionsDisabled"), (269, u "MIN_ARRAY_SORT_GRAN"), (0, u "I"), (2, u "INSERTIONSORT_THRESHOLD"), (74, u "binarySearch"), (180, .class_ 976), (0, u "java/util/Arrays$ArrayItr")] 52

def k4m0 : Method := { name := "<init>", desc := "()V", sig := { parameters := [], returnType := none }, accessFlags := 2, code := none }
def k4c1 : Code := { maxStack := 4, maxLocals := 3, code := jdk_65_method_30_code, exceptionTable := #[], attributes := #[] }
def k4m1 : Method := { name := "rangeCheck", desc := "(III)V", sig := { parameters := [.int, .int, .int], returnType := none }, accessFlags := 8, code := some k4c1 }
def k4c2 : Code := { maxStack := 5, maxLocals := 5, code := jdk_65_method_70_code, exceptionTable := #[], attributes := #[] }
def k4m2 : Method := { name := "binarySearch", desc := "([DIID)I", sig := { parameters := [(.array .double), .int, .int, .double], returnType := some .int }, accessFlags := 9, code := some k4c2 }
def k4c3 : Code := { maxStack := 4, maxLocals := 14, code := jdk_65_method_71_code, exceptionTable := #[], attributes := #[] }
def k4m3 : Method := { name := "binarySearch0", desc := "([DIID)I", sig := { parameters := [(.array .double), .int, .int, .double], returnType := some .int }, accessFlags := 10, code := some k4c3 }
/-- java/util/Arrays -/
def k4 : Class := { plain "java/util/Arrays" (some 0) with
  accessFlags := 49
  interfaces := #[]
  cf := some (fileOf pool4 14 #[.nestMembers #[975, 375, 113, 74]] #[{ accessFlags := 2, nameIndex := 5, descriptorIndex := 6, attributes := #[] }, { accessFlags := 8, nameIndex := 17, descriptorIndex := 18, attributes := #[] }, { accessFlags := 9, nameIndex := 794, descriptorIndex := 223, attributes := #[] }, { accessFlags := 10, nameIndex := 207, descriptorIndex := 223, attributes := #[] }] 49 2 #[] #[{ accessFlags := 26, nameIndex := 715, descriptorIndex := 716, attributes := #[] }, { accessFlags := 26, nameIndex := 719, descriptorIndex := 716, attributes := #[] }, { accessFlags := 4120, nameIndex := 445, descriptorIndex := 117, attributes := #[] }])
  fields := #[{ name := "MIN_ARRAY_SORT_GRAN", type := .int, accessFlags := 26, slot := 0, constantValue := 0 }, { name := "INSERTIONSORT_THRESHOLD", type := .int, accessFlags := 26, slot := 1, constantValue := 0 }, { name := "$assertionsDisabled", type := .boolean, accessFlags := 4120, slot := 2, constantValue := 0 }]
  methods := #[k4m0, k4m1, k4m2, k4m3]
  instanceTypes := #[]
  staticTypes := #[.int, .int, .boolean]
  resolved := Array.replicate 1029 none
  statics := none }

def pool5 : Array CpInfo := pool [(1, .class_ 2), (0, u "java/io/Serializable"), (0, .class_ 4), (0, u "java/lang/Object")] 2

/-- java/io/Serializable -/
def k5 : Class := { plain "java/io/Serializable" (some 0) with
  accessFlags := 1537
  interfaces := #[]
  cf := some (fileOf pool5 1 #[] #[] 1537 3 #[] #[])
  fields := #[]
  methods := #[]
  instanceTypes := #[]
  staticTypes := #[]
  resolved := Array.replicate 7 none
  statics := none }

def pool6 : Array CpInfo := pool [(2, .class_ 4), (1, u "java/lang/Object"), (0, u "<init>"), (0, u "()V"), (1, .class_ 10), (1, u "java/lang/Number"), (2, .class_ 14), (0, u "java/io/Serializable"), (0, u "serialVersionUID"), (0, u "J")] 20

def k6m0 : Method := { name := "<init>", desc := "()V", sig := { parameters := [], returnType := none }, accessFlags := 1, code := none }
/-- java/lang/Number -/
def k6 : Class := { plain "java/lang/Number" (some 0) with
  accessFlags := 1057
  interfaces := #[5]
  cf := some (fileOf pool6 8 #[] #[{ accessFlags := 1, nameIndex := 5, descriptorIndex := 6, attributes := #[] }] 1057 2 #[13] #[{ accessFlags := 26, nameIndex := 15, descriptorIndex := 16, attributes := #[] }])
  fields := #[{ name := "serialVersionUID", type := .long, accessFlags := 26, slot := 0, constantValue := 0 }]
  methods := #[k6m0]
  instanceTypes := #[]
  staticTypes := #[.long]
  resolved := Array.replicate 37 none
  statics := none }

def pool7 : Array CpInfo := pool [(1, .class_ 2), (0, u "java/lang/Comparable"), (0, .class_ 4), (0, u "java/lang/Object")] 7

/-- java/lang/Comparable -/
def k7 : Class := { plain "java/lang/Comparable" (some 0) with
  accessFlags := 1537
  interfaces := #[]
  cf := some (fileOf pool7 1 #[] #[] 1537 3 #[] #[])
  fields := #[]
  methods := #[]
  instanceTypes := #[]
  staticTypes := #[]
  resolved := Array.replicate 12 none
  statics := none }

def pool8 : Array CpInfo := pool [(1, .class_ 2), (0, u "java/lang/constant/Constable"), (0, .class_ 4), (0, u "java/lang/Object")] 6

/-- java/lang/constant/Constable -/
def k8 : Class := { plain "java/lang/constant/Constable" (some 0) with
  accessFlags := 1537
  interfaces := #[]
  cf := some (fileOf pool8 1 #[] #[] 1537 3 #[] #[])
  fields := #[]
  methods := #[]
  instanceTypes := #[]
  staticTypes := #[]
  resolved := Array.replicate 11 none
  statics := none }

def pool9 : Array CpInfo := pool [(1, .class_ 2), (0, u "java/lang/constant/ConstantDesc"), (0, .class_ 4), (0, u "java/lang/Object")] 32

/-- java/lang/constant/ConstantDesc -/
def k9 : Class := { plain "java/lang/constant/ConstantDesc" (some 0) with
  accessFlags := 1537
  interfaces := #[]
  cf := some (fileOf pool9 1 #[] #[] 1537 3 #[] #[])
  fields := #[]
  methods := #[]
  instanceTypes := #[]
  staticTypes := #[]
  resolved := Array.replicate 37 none
  statics := none }

def pool10 : Array CpInfo := pool [(1, .class_ 2), (0, u "java/lang/Double"), (11, u "(D)Z"), (33, u "doubleToLongBits"), (0, u "(D)J"), (64, .class_ 116), (1, u "java/lang/Number"), (3, u "value"), (0, u "D"), (0, .methodref 1 123), (0, .nameAndType 124 14), (0, u "isNaN"), (9, .methodref 1 135), (0, .nameAndType 136 49), (0, u "doubleToRawLongBits"), (36, u "TYPE"), (0, u "Ljava/lang/Class;"), (0, .class_ 176), (0, u "java/lang/Comparable"), (0, .class_ 178), (0, u "java/lang/constant/Constable"), (0, .class_ 180), (0, u "java/lang/constant/ConstantDesc"), (0, u "POSITIVE_INFINITY"), (3, u "NEGATIVE_INFINITY"), (2, u "NaN"), (2, u "MAX_VALUE"), (0, u "MIN_NORMAL"), (0, u "MIN_VALUE"), (2, u "SIZE"), (0, u "I"), (1, u "PRECISION"), (1, u "MAX_EXPONENT"), (1, u "MIN_EXPONENT"), (1, u "BYTES"), (3, u "serialVersionUID"), (0, u "J")] 79

def k10c0 : Code := { maxStack := 4, maxLocals := 2, code := jdk_117_method_6_code, exceptionTable := #[], attributes := #[] }
def k10m0 : Method := { name := "isNaN", desc := "(D)Z", sig := { parameters := [.double], returnType := some .boolean }, accessFlags := 9, code := some k10c0 }
def k10c1 : Code := { maxStack := 2, maxLocals := 2, code := jdk_117_method_23_code, exceptionTable := #[], attributes := #[] }
def k10m1 : Method := { name := "doubleToLongBits", desc := "(D)J", sig := { parameters := [.double], returnType := some .long }, accessFlags := 9, code := some k10c1 }
def k10m2 : Method := { name := "doubleToRawLongBits", desc := "(D)J", sig := { parameters := [.double], returnType := some .long }, accessFlags := 265, code := none }
/-- java/lang/Double -/
def k10 : Class := { plain "java/lang/Double" (some 6) with
  accessFlags := 49
  interfaces := #[7, 8, 9]
  cf := some (fileOf pool10 1 #[] #[{ accessFlags := 9, nameIndex := 124, descriptorIndex := 14, attributes := #[] }, { accessFlags := 9, nameIndex := 48, descriptorIndex := 49, attributes := #[] }, { accessFlags := 265, nameIndex := 136, descriptorIndex := 49, attributes := #[] }] 49 114 #[175, 177, 179] #[{ accessFlags := 25, nameIndex := 181, descriptorIndex := 121, attributes := #[] }, { accessFlags := 25, nameIndex := 185, descriptorIndex := 121, attributes := #[] }, { accessFlags := 25, nameIndex := 188, descriptorIndex := 121, attributes := #[] }, { accessFlags := 25, nameIndex := 191, descriptorIndex := 121, attributes := #[] }, { accessFlags := 25, nameIndex := 192, descriptorIndex := 121, attributes := #[] }, { accessFlags := 25, nameIndex := 193, descriptorIndex := 121, attributes := #[] }, { accessFlags := 25, nameIndex := 196, descriptorIndex := 197, attributes := #[] }, { accessFlags := 25, nameIndex := 199, descriptorIndex := 197, attributes := #[] }, { accessFlags := 25, nameIndex := 201, descriptorIndex := 197, attributes := #[] }, { accessFlags := 25, nameIndex := 203, descriptorIndex := 197, attributes := #[] }, { accessFlags := 25, nameIndex := 205, descriptorIndex := 197, attributes := #[] }, { accessFlags := 25, nameIndex := 173, descriptorIndex := 174, attributes := #[] }, { accessFlags := 18, nameIndex := 120, descriptorIndex := 121, attributes := #[] }, { accessFlags := 26, nameIndex := 209, descriptorIndex := 210, attributes := #[] }])
  fields := #[{ name := "POSITIVE_INFINITY", type := .double, accessFlags := 25, slot := 0, constantValue := 0 }, { name := "NEGATIVE_INFINITY", type := .double, accessFlags := 25, slot := 1, constantValue := 0 }, { name := "NaN", type := .double, accessFlags := 25, slot := 2, constantValue := 0 }, { name := "MAX_VALUE", type := .double, accessFlags := 25, slot := 3, constantValue := 0 }, { name := "MIN_NORMAL", type := .double, accessFlags := 25, slot := 4, constantValue := 0 }, { name := "MIN_VALUE", type := .double, accessFlags := 25, slot := 5, constantValue := 0 }, { name := "SIZE", type := .int, accessFlags := 25, slot := 6, constantValue := 0 }, { name := "PRECISION", type := .int, accessFlags := 25, slot := 7, constantValue := 0 }, { name := "MAX_EXPONENT", type := .int, accessFlags := 25, slot := 8, constantValue := 0 }, { name := "MIN_EXPONENT", type := .int, accessFlags := 25, slot := 9, constantValue := 0 }, { name := "BYTES", type := .int, accessFlags := 25, slot := 10, constantValue := 0 }, { name := "TYPE", type := (.object "java/lang/Class"), accessFlags := 25, slot := 11, constantValue := 0 }, { name := "value", type := .double, accessFlags := 18, slot := 0, constantValue := 0 }, { name := "serialVersionUID", type := .long, accessFlags := 26, slot := 12, constantValue := 0 }]
  methods := #[k10m0, k10m1, k10m2]
  instanceTypes := #[.double]
  staticTypes := #[.double, .double, .double, .double, .double, .double, .int, .int, .int, .int, .int, (.object "java/lang/Class"), .long]
  resolved := Array.replicate 290 none
  statics := none }

def pool11 : Array CpInfo := pool [(2, .class_ 4), (1, u "java/lang/Object"), (0, u "<init>"), (0, u "()V"), (1, .class_ 10), (1, u "java/lang/System"), (0, u "allowSecurityManager"), (0, u "I"), (16, u "cons"), (0, u "Ljava/io/Console;"), (77, .class_ 110), (1, u "java/lang/System$CallersHolder"), (43, u "initialErrStream"), (0, u "Ljava/io/PrintStream;"), (19, u "security"), (0, u "Ljava/lang/SecurityManager;"), (31, .class_ 209), (0, u "java/lang/System$1"), (7, u "props"), (0, u "Ljava/util/Properties;"), (2, u "lineSeparator"), (0, u "Ljava/lang/String;"), (96, .class_ 321), (1, u "java/lang/System$LoggerFinder"), (5, .class_ 328), (0, u "java/lang/System$Logger"), (67, u "err"), (2, u "out"), (91, u "notSupportedJnuEncoding"), (15, u "in"), (17, u "initialIn"), (0, u "Ljava/io/InputStream;"), (35, u "bootLayer"), (0, u "Ljava/lang/ModuleLayer;"), (99, .class_ 664), (0, u "java/lang/System$2"), (9, u "NEVER"), (2, u "MAYBE"), (49, u "arraycopy"), (0, u "(Ljava/lang/Object;ILjava/lang/Object;II)V"), (72, .class_ 802), (0, u "java/lang/System$Logger$Level")] 31

def k11m0 : Method := { name := "<init>", desc := "()V", sig := { parameters := [], returnType := none }, accessFlags := 2, code := none }
def k11m1 : Method := { name := "arraycopy", desc := "(Ljava/lang/Object;ILjava/lang/Object;II)V", sig := { parameters := [(.object "java/lang/Object"), .int, (.object "java/lang/Object"), .int, .int], returnType := none }, accessFlags := 265, code := none }
/-- java/lang/System -/
def k11 : Class := { plain "java/lang/System" (some 0) with
  accessFlags := 49
  interfaces := #[]
  cf := some (fileOf pool11 8 #[.nestMembers #[319, 327, 801, 108, 663, 208]] #[{ accessFlags := 2, nameIndex := 5, descriptorIndex := 6, attributes := #[] }, { accessFlags := 265, nameIndex := 727, descriptorIndex := 728, attributes := #[] }] 49 2 #[] #[{ accessFlags := 25, nameIndex := 507, descriptorIndex := 526, attributes := #[] }, { accessFlags := 25, nameIndex := 399, descriptorIndex := 155, attributes := #[] }, { accessFlags := 25, nameIndex := 396, descriptorIndex := 155, attributes := #[] }, { accessFlags := 10, nameIndex := 525, descriptorIndex := 526, attributes := #[] }, { accessFlags := 26, nameIndex := 674, descriptorIndex := 12, attributes := #[] }, { accessFlags := 26, nameIndex := 677, descriptorIndex := 12, attributes := #[] }, { accessFlags := 10, nameIndex := 11, descriptorIndex := 12, attributes := #[] }, { accessFlags := 74, nameIndex := 175, descriptorIndex := 176, attributes := #[] }, { accessFlags := 10, nameIndex := 491, descriptorIndex := 222, attributes := #[] }, { accessFlags := 74, nameIndex := 29, descriptorIndex := 30, attributes := #[] }, { accessFlags := 74, nameIndex := 154, descriptorIndex := 155, attributes := #[] }, { accessFlags := 10, nameIndex := 217, descriptorIndex := 218, attributes := #[] }, { accessFlags := 10, nameIndex := 221, descriptorIndex := 222, attributes := #[] }, { accessFlags := 8, nameIndex := 562, descriptorIndex := 563, attributes := #[] }])
  fields := #[{ name := "in", type := (.object "java/io/InputStream"), accessFlags := 25, slot := 0, constantValue := 0 }, { name := "out", type := (.object "java/io/PrintStream"), accessFlags := 25, slot := 1, constantValue := 0 }, { name := "err", type := (.object "java/io/PrintStream"), accessFlags := 25, slot := 2, constantValue := 0 }, { name := "initialIn", type := (.object "java/io/InputStream"), accessFlags := 10, slot := 3, constantValue := 0 }, { name := "NEVER", type := .int, accessFlags := 26, slot := 4, constantValue := 0 }, { name := "MAYBE", type := .int, accessFlags := 26, slot := 5, constantValue := 0 }, { name := "allowSecurityManager", type := .int, accessFlags := 10, slot := 6, constantValue := 0 }, { name := "security", type := (.object "java/lang/SecurityManager"), accessFlags := 74, slot := 7, constantValue := 0 }, { name := "notSupportedJnuEncoding", type := (.object "java/lang/String"), accessFlags := 10, slot := 8, constantValue := 0 }, { name := "cons", type := (.object "java/io/Console"), accessFlags := 74, slot := 9, constantValue := 0 }, { name := "initialErrStream", type := (.object "java/io/PrintStream"), accessFlags := 74, slot := 10, constantValue := 0 }, { name := "props", type := (.object "java/util/Properties"), accessFlags := 10, slot := 11, constantValue := 0 }, { name := "lineSeparator", type := (.object "java/lang/String"), accessFlags := 10, slot := 12, constantValue := 0 }, { name := "bootLayer", type := (.object "java/lang/ModuleLayer"), accessFlags := 8, slot := 13, constantValue := 0 }]
  methods := #[k11m0, k11m1]
  instanceTypes := #[]
  staticTypes := #[(.object "java/io/InputStream"), (.object "java/io/PrintStream"), (.object "java/io/PrintStream"), (.object "java/io/InputStream"), .int, .int, .int, (.object "java/lang/SecurityManager"), (.object "java/lang/String"), (.object "java/io/Console"), (.object "java/io/PrintStream"), (.object "java/util/Properties"), (.object "java/lang/String"), (.object "java/lang/ModuleLayer")]
  resolved := Array.replicate 834 none
  statics := none }

/-- the primitive byte -/
def k12 : Class := { plain "byte" none with kind := .primitive 'B', accessFlags := 0x411 }
/-- [B -/
def k13 : Class := { plain "[B" (some 0) with kind := .array 12 .byte, interfaces := #[3, 5], accessFlags := 1041 }

/-- the primitive double -/
def k14 : Class := { plain "double" none with kind := .primitive 'D', accessFlags := 0x411 }
/-- [D -/
def k15 : Class := { plain "[D" (some 0) with kind := .array 14 .double, interfaces := #[3, 5], accessFlags := 1041 }

/-- the primitive int -/
def k16 : Class := { plain "int" none with kind := .primitive 'I', accessFlags := 0x411 }
/-- [I -/
def k17 : Class := { plain "[I" (some 0) with kind := .array 16 .int, interfaces := #[3, 5], accessFlags := 1041 }
/-- [[I -/
def k18 : Class := { plain "[[I" (some 0) with kind := .array 17 (.array .int), interfaces := #[3, 5], accessFlags := 1041 }

def heap : Heap := #[]
def classes : Array Class := #[k0, k1, k2, k3, k4, k5, k6, k7, k8, k9, k10, k11, k12, k13, k14, k15, k16, k17, k18]
def interned : List (Array UInt16 × Addr) := []
def slotsUsed : Nat := 0
def theMethod : MethodId := ⟨1, 2⟩
def args0 : Array Value := #[.int 2, .int 9, .int 3, .int 7, .int 1]
def aboutOver (below : List Frame) : State where
  vm := { classes := classes, interned := interned.toArray }
  heap := heap
  slotsUsed := slotsUsed
  threads := #[{ frames := .invoking theMethod args0 :: below }]
def below0 : List Frame := [.native { method := ⟨0, 0⟩, args := #[] }]
def about1 : State := aboutOver below0
def p0 : Program := .bare "" "" ""
def e0 : Env := launch0.env 0 0 0
theorem w_frames : about1.frames = Frame.invoking theMethod args0 :: below0 := rfl
set_option maxRecDepth 65536 in
theorem w_args : argsFit about1.vm theMethod args0 = true := by decide +kernel
set_option maxRecDepth 65536 in
theorem w_heap : heapFits about1 = true := by decide +kernel
set_option maxRecDepth 65536 in
theorem w_runnable : about1.curStatus? = some .runnable := by decide +kernel
set_option maxRecDepth 65536 in
theorem w_alone : about1.alone = true := by decide +kernel
set_option maxRecDepth 65536 in
theorem w_named : about1.methodNamed? x = some theMethod := by decide +kernel
set_option maxRecDepth 65536 in
theorem w_hears : about1.hears theMethod below0 = true := by decide +kernel
set_option maxRecDepth 65536 in
theorem w_ripe : about1.ripe theMethod args0 below0 = true := by decide +kernel
theorem w_running : about1.status = .running := rfl
set_option maxRecDepth 65536 in
theorem w_room : about1.hasRoom e0.platform room_1 = true :=
  launch0.hasRoom_least _ room_1 (by decide +kernel) (by decide +kernel) (by decide +kernel) (by decide +kernel) (by decide +kernel) (by decide +kernel)
theorem allAtoms_all (ts : List Jvm.Cond) (a : Array Jvm.Value) (st : Jvm.State) : (allAtoms ts).before a st = ts.all (fun c => c.before a st) := by
  induction ts with
  | nil => rfl
  | cons c t ih =>
    show (Jvm.Cond.and c (allAtoms t)).before a st = _
    rw [Jvm.Cond.before_and, ih, List.all_cons]
def words1 : List Jvm.Cond := Jvm.Cond.code x code maxLocals ret :: tables_1
/-- a 'code' word, met by the world's own term for the bytes: nothing is compared byte by byte -/
theorem code_word {y : MethodName} {bytes : ByteArray} {mx : Nat} {rt : Option FieldType} {a : Array Value} {s : State} {m : MethodId} {meth : Method} {c : Code} (h1 : s.methodNamed? y = some m) (h2 : s.vm.method? m = some meth) (h3 : meth.code = some c) (h4 : c.code = bytes)
    (h5 : (c.maxLocals == mx && c.exceptionTable.isEmpty && decide (c.maxStack ≤ mostOperands) && decide (meth.sig.returnType = rt) && !meth.locks && decide (parseMethodDescriptor y.desc = some meth.sig)) = true) : (Jvm.Cond.code y bytes mx rt).before a s = true := by
  simp only [Bool.and_eq_true, beq_iff_eq, Bool.not_eq_true', decide_eq_true_eq] at h5
  obtain ⟨⟨⟨⟨⟨g1, g2⟩, g3⟩, g4⟩, g5⟩, g6⟩ := h5
  simp [Cond.before, Cond.holds, Cond.value, h1, h2, h3, h4, g1, g2, g3, g4, g5, g6]
def isCode : Jvm.Cond → Bool
  | .code _ _ _ _ => true
  | _ => false
theorem all_split {L : List Jvm.Cond} {P : Jvm.Cond → Bool} (h1 : L.all (fun c => isCode c || P c) = true) (h2 : ∀ c ∈ L.filter isCode, P c = true) : L.all P = true := by
  refine List.all_eq_true.mpr fun c hc => ?_
  have h := List.all_eq_true.mp h1 c hc
  rcases Bool.eq_false_or_eq_true (isCode c) with hi | hi
  · exact h2 c (List.mem_filter.mpr ⟨hc, hi⟩)
  · simpa [hi] using h
set_option maxRecDepth 65536 in
theorem w_c0 : (Jvm.Cond.code x code maxLocals ret).before args0 about1 = true := code_word (m := ⟨1, 2⟩) (meth := k1m2) (c := k1c2) (by decide +kernel) rfl rfl rfl (by decide +kernel)
set_option maxRecDepth 65536 in
theorem w_c1 : (Jvm.Cond.code ({ cls := "com/example/ganttwright/ganttwright/ResourceProfile", name := "<init>", desc := "([I)V" } : Jvm.MethodName) prog_23_method_1_code (2 : Nat) (Option.none : Option Jvm.ClassFile.FieldType)).before args0 about1 = true := code_word (m := ⟨2, 0⟩) (meth := k2m0) (c := k2c0) (by decide +kernel) rfl rfl rfl (by decide +kernel)
set_option maxRecDepth 65536 in
theorem w_c2 : (Jvm.Cond.code ({ cls := "java/lang/Object", name := "<init>", desc := "()V" } : Jvm.MethodName) object_method_1_code (1 : Nat) (Option.none : Option Jvm.ClassFile.FieldType)).before args0 about1 = true := code_word (m := ⟨0, 0⟩) (meth := k0m0) (c := k0c0) (by decide +kernel) rfl rfl rfl (by decide +kernel)
set_option maxRecDepth 65536 in
theorem w_c3 : (Jvm.Cond.code ({ cls := "com/example/ganttwright/ganttwright/ResourceProfile", name := "place", desc := "(DD[I)V" } : Jvm.MethodName) prog_23_method_6_code (10 : Nat) (Option.none : Option Jvm.ClassFile.FieldType)).before args0 about1 = true := code_word (m := ⟨2, 3⟩) (meth := k2m3) (c := k2c3) (by decide +kernel) rfl rfl rfl (by decide +kernel)
set_option maxRecDepth 65536 in
theorem w_c4 : (Jvm.Cond.code ({ cls := "com/example/ganttwright/ganttwright/ResourceProfile", name := "split", desc := "(D)I" } : Jvm.MethodName) prog_23_method_8_code (5 : Nat) (Option.some Jvm.ClassFile.FieldType.int)).before args0 about1 = true := code_word (m := ⟨2, 4⟩) (meth := k2m4) (c := k2c4) (by decide +kernel) rfl rfl rfl (by decide +kernel)
set_option maxRecDepth 65536 in
theorem w_c5 : (Jvm.Cond.code ({ cls := "com/example/ganttwright/ganttwright/ResourceProfile", name := "stepAt", desc := "(D)I" } : Jvm.MethodName) prog_23_method_3_code (4 : Nat) (Option.some Jvm.ClassFile.FieldType.int)).before args0 about1 = true := code_word (m := ⟨2, 1⟩) (meth := k2m1) (c := k2c1) (by decide +kernel) rfl rfl rfl (by decide +kernel)
set_option maxRecDepth 65536 in
theorem w_c6 : (Jvm.Cond.code ({ cls := "java/util/Arrays", name := "binarySearch", desc := "([DIID)I" } : Jvm.MethodName) jdk_65_method_70_code (5 : Nat) (Option.some Jvm.ClassFile.FieldType.int)).before args0 about1 = true := code_word (m := ⟨4, 2⟩) (meth := k4m2) (c := k4c2) (by decide +kernel) rfl rfl rfl (by decide +kernel)
set_option maxRecDepth 65536 in
theorem w_c7 : (Jvm.Cond.code ({ cls := "java/util/Arrays", name := "rangeCheck", desc := "(III)V" } : Jvm.MethodName) jdk_65_method_30_code (3 : Nat) (Option.none : Option Jvm.ClassFile.FieldType)).before args0 about1 = true := code_word (m := ⟨4, 1⟩) (meth := k4m1) (c := k4c1) (by decide +kernel) rfl rfl rfl (by decide +kernel)
set_option maxRecDepth 65536 in
theorem w_c8 : (Jvm.Cond.code ({ cls := "java/util/Arrays", name := "binarySearch0", desc := "([DIID)I" } : Jvm.MethodName) jdk_65_method_71_code (14 : Nat) (Option.some Jvm.ClassFile.FieldType.int)).before args0 about1 = true := code_word (m := ⟨4, 3⟩) (meth := k4m3) (c := k4c3) (by decide +kernel) rfl rfl rfl (by decide +kernel)
set_option maxRecDepth 65536 in
theorem w_c9 : (Jvm.Cond.code ({ cls := "java/lang/Double", name := "doubleToLongBits", desc := "(D)J" } : Jvm.MethodName) jdk_117_method_23_code (2 : Nat) (Option.some Jvm.ClassFile.FieldType.long)).before args0 about1 = true := code_word (m := ⟨10, 1⟩) (meth := k10m1) (c := k10c1) (by decide +kernel) rfl rfl rfl (by decide +kernel)
set_option maxRecDepth 65536 in
theorem w_c10 : (Jvm.Cond.code ({ cls := "java/lang/Double", name := "isNaN", desc := "(D)Z" } : Jvm.MethodName) jdk_117_method_6_code (2 : Nat) (Option.some Jvm.ClassFile.FieldType.boolean)).before args0 about1 = true := code_word (m := ⟨10, 0⟩) (meth := k10m0) (c := k10c0) (by decide +kernel) rfl rfl rfl (by decide +kernel)
set_option maxRecDepth 65536 in
theorem w_c11 : (Jvm.Cond.code ({ cls := "com/example/ganttwright/ganttwright/ResourceProfile", name := "stepStart", desc := "(I)D" } : Jvm.MethodName) prog_23_method_4_code (2 : Nat) (Option.some Jvm.ClassFile.FieldType.double)).before args0 about1 = true := code_word (m := ⟨2, 2⟩) (meth := k2m2) (c := k2c2) (by decide +kernel) rfl rfl rfl (by decide +kernel)
set_option maxRecDepth 65536 in
theorem w_c12 : (Jvm.Cond.code ({ cls := "com/example/ganttwright/ganttwright/ResourceProfileStepStartPinLaw", name := "expected", desc := "(III)D" } : Jvm.MethodName) method_2_code (5 : Nat) (Option.some Jvm.ClassFile.FieldType.double)).before args0 about1 = true := code_word (m := ⟨1, 1⟩) (meth := k1m1) (c := k1c1) (by decide +kernel) rfl rfl rfl (by decide +kernel)
def codes1 : List Jvm.Cond := [Jvm.Cond.code x code maxLocals ret, Jvm.Cond.code ({ cls := "com/example/ganttwright/ganttwright/ResourceProfile", name := "<init>", desc := "([I)V" } : Jvm.MethodName) prog_23_method_1_code (2 : Nat) (Option.none : Option Jvm.ClassFile.FieldType), Jvm.Cond.code ({ cls := "java/lang/Object", name := "<init>", desc := "()V" } : Jvm.MethodName) object_method_1_code (1 : Nat) (Option.none : Option Jvm.ClassFile.FieldType), Jvm.Cond.code ({ cls := "com/example/ganttwright/ganttwright/ResourceProfile", name := "place", desc := "(DD[I)V" } : Jvm.MethodName) prog_23_method_6_code (10 : Nat) (Option.none : Option Jvm.ClassFile.FieldType), Jvm.Cond.code ({ cls := "com/example/ganttwright/ganttwright/ResourceProfile", name := "split", desc := "(D)I" } : Jvm.MethodName) prog_23_method_8_code (5 : Nat) (Option.some Jvm.ClassFile.FieldType.int), Jvm.Cond.code ({ cls := "com/example/ganttwright/ganttwright/ResourceProfile", name := "stepAt", desc := "(D)I" } : Jvm.MethodName) prog_23_method_3_code (4 : Nat) (Option.some Jvm.ClassFile.FieldType.int), Jvm.Cond.code ({ cls := "java/util/Arrays", name := "binarySearch", desc := "([DIID)I" } : Jvm.MethodName) jdk_65_method_70_code (5 : Nat) (Option.some Jvm.ClassFile.FieldType.int), Jvm.Cond.code ({ cls := "java/util/Arrays", name := "rangeCheck", desc := "(III)V" } : Jvm.MethodName) jdk_65_method_30_code (3 : Nat) (Option.none : Option Jvm.ClassFile.FieldType), Jvm.Cond.code ({ cls := "java/util/Arrays", name := "binarySearch0", desc := "([DIID)I" } : Jvm.MethodName) jdk_65_method_71_code (14 : Nat) (Option.some Jvm.ClassFile.FieldType.int), Jvm.Cond.code ({ cls := "java/lang/Double", name := "doubleToLongBits", desc := "(D)J" } : Jvm.MethodName) jdk_117_method_23_code (2 : Nat) (Option.some Jvm.ClassFile.FieldType.long), Jvm.Cond.code ({ cls := "java/lang/Double", name := "isNaN", desc := "(D)Z" } : Jvm.MethodName) jdk_117_method_6_code (2 : Nat) (Option.some Jvm.ClassFile.FieldType.boolean), Jvm.Cond.code ({ cls := "com/example/ganttwright/ganttwright/ResourceProfile", name := "stepStart", desc := "(I)D" } : Jvm.MethodName) prog_23_method_4_code (2 : Nat) (Option.some Jvm.ClassFile.FieldType.double), Jvm.Cond.code ({ cls := "com/example/ganttwright/ganttwright/ResourceProfileStepStartPinLaw", name := "expected", desc := "(III)D" } : Jvm.MethodName) method_2_code (5 : Nat) (Option.some Jvm.ClassFile.FieldType.double)]
set_option maxRecDepth 65536 in
theorem codes_eq : words1.filter isCode = codes1 := rfl
theorem w_codes : ∀ c ∈ words1.filter isCode, c.before args0 about1 = true := by
  rw [codes_eq]
  intro c hc
  simp only [codes1, List.mem_cons, List.not_mem_nil, or_false] at hc
  rcases hc with rfl | rfl | rfl | rfl | rfl | rfl | rfl | rfl | rfl | rfl | rfl | rfl | rfl
  · exact w_c0
  · exact w_c1
  · exact w_c2
  · exact w_c3
  · exact w_c4
  · exact w_c5
  · exact w_c6
  · exact w_c7
  · exact w_c8
  · exact w_c9
  · exact w_c10
  · exact w_c11
  · exact w_c12
set_option maxRecDepth 65536 in
theorem w_t1 : (words1.take 24).all (fun c => isCode c || c.before args0 about1) = true := by decide +kernel
set_option maxRecDepth 65536 in
theorem w_t2 : ((words1.drop 24).take 24).all (fun c => isCode c || c.before args0 about1) = true := by decide +kernel
set_option maxRecDepth 65536 in
theorem w_t3 : (((words1.drop 24).drop 24).take 24).all (fun c => isCode c || c.before args0 about1) = true := by decide +kernel
set_option maxRecDepth 65536 in
theorem w_t4 : (((words1.drop 24).drop 24).drop 24).all (fun c => isCode c || c.before args0 about1) = true := by decide +kernel
theorem w_tables : (allAtoms (Jvm.Cond.code x code maxLocals ret :: tables_1)).before args0 about1 = true := by
  rw [allAtoms_all]
  show words1.all (fun c => c.before args0 about1) = true
  refine all_split ?_ w_codes
  rw [← List.take_append_drop 24 words1, List.all_append, w_t1, ← List.take_append_drop 24 (words1.drop 24), List.all_append, w_t2, ← List.take_append_drop 24 ((words1.drop 24).drop 24), List.all_append, w_t3, w_t4]
  rfl
set_option maxRecDepth 65536 in
theorem w_case : (Jvm.Cond.and given_1 narrow_1).before args0 about1 = true := by decide +kernel
theorem w_applies : (headSpec (Jvm.Cond.code x code maxLocals ret :: tables_1) room_1).applies x e0.platform about1 = true :=
  (Spec.applies_iff w_frames).mpr ⟨w_running, w_runnable, w_alone, w_named, w_hears, w_ripe, w_room, w_tables⟩
theorem atStart : AtStart classFile x code maxLocals ret World_1 tables_1 room_1 Calls_1 rest_1 Pre_1 launch0 p0 e0 about1 theMethod args0 below0 :=
  ⟨lists_1, trivial, launch0.admits_env _ _ _, launch0.least_env, fairChoices_fair.cas, fairChoices_fair.clock, w_frames, w_args, w_heap, w_applies, trivial, trivial, w_case⟩
end start1
theorem witness_1 : WitnessClaimed_1 := ⟨start1.p0, start1.e0, start1.about1, start1.theMethod, start1.args0, start1.below0, start1.atStart⟩
end Jvm.Pilot.@@N@@
