import JvmDerived
import JvmDerived.Pilot.@@N@@Statement
import JvmDerived.Pilot.@@N@@Code
set_option linter.unusedVariables false
set_option linter.unusedSimpArgs false
namespace Jvm.OwnKit
open Sem ClassFile Op Lib Jvm.Stand Jvm.Free Jvm.LawKit Jvm.RoadKit
/-- from S the run ends as wanted: it returns v, leaves a heap and has written the places L -/
def Goes (p : Program) (e : Env) (below : List Frame) (s : State) (K N : Nat) (Q : Option Value → Heap → List Loc → Prop) (S : State) : Prop :=
  ∃ s₂ o, Steps p.tables e below S s₂ ∧ s₂.status = .running ∧ Ended s₂ below o ∧ ∃ v L, o = .returned v ∧ Q v s₂.heap L ∧ FrameEnd s o s₂ L K N
def Cl (p : Program) (e : Env) (below : List Frame) (G : State → Prop) : Prop := ∀ S S', (∀ t, Steps p.tables e below S' t → Steps p.tables e below S t) → G S' → G S
theorem Goes.cl (p : Program) (e : Env) (below : List Frame) (s : State) (K N : Nat) (Q : Option Value → Heap → List Loc → Prop) : Cl p e below (Goes p e below s K N Q) := fun S S' h k => by
  obtain ⟨s₂, o, h1, r⟩ := k
  exact ⟨s₂, o, h _ h1, r⟩
/-- a body's contract -/
abbrev Con (l : Launch) (y : MethodName) (bytes : ByteArray) (maxL : Nat) (ret : Option FieldType) (ws : List Jvm.Cond) (rm : Room) (Z : State) (as : Array Value) (h0 : Heap) (K N : Nat) (Q : Option Value → Heap → List Loc → Prop) : Prop :=
  MetFree l y (head1 (Jvm.Cond.code y bytes maxL ret :: ws) rm) (fun a U => a = as ∧ Z.Warmed39 U.vm ∧ U.heap = h0) (fun _ _ _ _ _ => True) (fun _ U o U' => ∃ v L, o = .returned v ∧ Q v U'.heap L ∧ FrameEnd U o U' L K N)
theorem Con.of {l : Launch} {y : MethodName} {bytes : ByteArray} {maxL : Nat} {ret : Option FieldType} {ws : List Jvm.Cond} {rm : Room} {Z : State} {as : Array Value} {h0 : Heap} {K N : Nat} {Q : Option Value → Heap → List Loc → Prop} {Ls : Array Slot}
    (pl : plainFor y = true) (hef : ∀ m, entryFrame m as maxL = mkF m 0 Ls [])
    (H : ∀ (p : Program) (e : Env) (s : State) (m : MethodId) (below : List Frame) (meth : Method) (c : Code) (s₁ : State) (G : State → Prop), G = Goes p e below s K N Q → Cl p e below G → p.tables.exec = Jvm.exec → c.code = bytes → c.maxLocals = maxL → s.vm.findClass y.cls = some m.cls → meth.name = y.name → meth.sig.returnType = ret → meth.locks = false → Z.Warmed39 s.vm → Stand p l e rm s m as below meth c s₁ [] 0 0 → s₁.heap = h0 → G (s₁.setTop (mkF m 0 Ls []))) :
    Con l y bytes maxL ret ws rm Z as h0 K N Q := by
  refine MetFree.of_bodySF pl hisR ?_
  intro p e s m args below meth c s₁ Bd hml0 hP hK
  obtain ⟨rfl, hZ, hh⟩ := hP
  have X0 : Stand p l e rm s m args below meth c s₁ [] 0 0 := Stand.of_body Bd
  have e0 : s₁.heap = h0 := by rw [← hh, Bd.state]; rfl
  have g := H p e s m below meth c s₁ _ rfl (Goes.cl p e below s K N Q) Bd.exec Bd.bytes hml0 (findClass_of_methodNamed Bd.named) (name_of_methodNamed Bd.named Bd.method).1 Bd.returns Bd.notSynchronized hZ X0 e0
  rw [← hef m] at g
  exact g
theorem Wr.size {h h' : Heap} {a : Addr} {sl : Nat} {v : Value} (W : Wr h h' a sl v) : h.size ≤ h'.size := by
  obtain ⟨c, -, -, -, rfl⟩ := W
  simp
section New
variable {p : Program} {l : Launch} {e : Env} {R : Room} {s : State} {m : MethodId} {args : Array Value} {below : List Frame} {meth : Method} {c : Code} {T : State} {locs : List Loc} {cells slots : Nat} {Z : State} {a0 : Array Value} {h : Heap} {G : State → Prop} {pc pc' : Nat} {Ls Ls' : Array Slot} {rest : List Value} {K N : Nat} {Q : Option Value → Heap → List Loc → Prop}
/-! the ends -/
theorem e_ret (hGe : G = Goes p e below s K N Q) (X : Stand p l e R s m args below meth c T locs cells slots) (hx : p.tables.exec = Jvm.exec) {w : Value} {t : FieldType} {i : Instr} (hret : meth.sig.returnType = some t) (hlk : meth.locks = false) (hd : decode c.code pc = .ok (i, 1)) (hn : narrow t w = w)
    (hi : (i = .ireturn ∧ (t = .int ∨ t = .boolean ∨ t = .byte ∨ t = .char ∨ t = .short) ∧ ∃ z, w = .int z) ∨ (i = .lreturn ∧ t = .long ∧ ∃ z, w = .long z) ∨ (i = .dreturn ∧ t = .double ∧ ∃ z, w = .double z) ∨ (i = .freturn ∧ t = .float ∧ ∃ z, w = .float z) ∨ (i = .areturn ∧ t.isReference = true ∧ w.isRef = true))
    (eT : T.heap = h) (hk : cells ≤ K) (hs : slots ≤ N) (hQ : Q (some w) h locs) : G (T.setTop (mkF m pc Ls (w :: rest))) := by
  subst hGe
  obtain ⟨fs, hr, hrun, hended, hW, hsame⟩ := X.leave (v := some w) (fun h => by rw [hret] at h; cases h) hlk
  refine ⟨_, _, retOut X hx hret hn hi hd hr, hrun, hended, _, _, rfl, ?_, ⟨_, rfl⟩, hW, hsame.mono hk hs⟩
  show Q _ T.heap _
  rw [eT]; exact hQ
theorem e_retI (hGe : G = Goes p e below s K N Q) (X : Stand p l e R s m args below meth c T locs cells slots) (hx : p.tables.exec = Jvm.exec) {z : Int32} (hret : meth.sig.returnType = some .int) (hlk : meth.locks = false) (hd : decode c.code pc = .ok (.ireturn, 1)) (eT : T.heap = h) (hk : cells ≤ K) (hs : slots ≤ N) (hQ : Q (some (.int z)) h locs) : G (T.setTop (mkF m pc Ls (.int z :: rest))) :=
  e_ret hGe X hx hret hlk hd rfl (Or.inl ⟨rfl, Or.inl rfl, z, rfl⟩) eT hk hs hQ
theorem e_retJ (hGe : G = Goes p e below s K N Q) (X : Stand p l e R s m args below meth c T locs cells slots) (hx : p.tables.exec = Jvm.exec) {z : Int64} (hret : meth.sig.returnType = some .long) (hlk : meth.locks = false) (hd : decode c.code pc = .ok (.lreturn, 1)) (eT : T.heap = h) (hk : cells ≤ K) (hs : slots ≤ N) (hQ : Q (some (.long z)) h locs) : G (T.setTop (mkF m pc Ls (.long z :: rest))) :=
  e_ret hGe X hx hret hlk hd rfl (Or.inr (Or.inl ⟨rfl, rfl, z, rfl⟩)) eT hk hs hQ
theorem e_retD (hGe : G = Goes p e below s K N Q) (X : Stand p l e R s m args below meth c T locs cells slots) (hx : p.tables.exec = Jvm.exec) {z : UInt64} (hret : meth.sig.returnType = some .double) (hlk : meth.locks = false) (hd : decode c.code pc = .ok (.dreturn, 1)) (eT : T.heap = h) (hk : cells ≤ K) (hs : slots ≤ N) (hQ : Q (some (.double z)) h locs) : G (T.setTop (mkF m pc Ls (.double z :: rest))) :=
  e_ret hGe X hx hret hlk hd rfl (Or.inr (Or.inr (Or.inl ⟨rfl, rfl, z, rfl⟩))) eT hk hs hQ
theorem e_retA (hGe : G = Goes p e below s K N Q) (X : Stand p l e R s m args below meth c T locs cells slots) (hx : p.tables.exec = Jvm.exec) {a : Addr} {t : FieldType} (hret : meth.sig.returnType = some t) (ht : t.isReference = true) (hlk : meth.locks = false) (hd : decode c.code pc = .ok (.areturn, 1)) (eT : T.heap = h) (hk : cells ≤ K) (hs : slots ≤ N) (hQ : Q (some (.ref a)) h locs) : G (T.setTop (mkF m pc Ls (.ref a :: rest))) :=
  e_ret hGe X hx hret hlk hd (by cases t <;> first | rfl | (cases ht)) (Or.inr (Or.inr (Or.inr (Or.inr ⟨rfl, ht, rfl⟩)))) eT hk hs hQ
theorem e_retZ (hGe : G = Goes p e below s K N Q) (X : Stand p l e R s m args below meth c T locs cells slots) (hx : p.tables.exec = Jvm.exec) {z : Int32} (hret : meth.sig.returnType = some .boolean) (hlk : meth.locks = false) (hd : decode c.code pc = .ok (.ireturn, 1)) (hz : z = 0 ∨ z = 1) (eT : T.heap = h) (hk : cells ≤ K) (hs : slots ≤ N) (hQ : Q (some (.int z)) h locs) : G (T.setTop (mkF m pc Ls (.int z :: rest))) :=
  e_ret hGe X hx hret hlk hd (by rcases hz with rfl | rfl <;> rfl) (Or.inl ⟨rfl, Or.inr (Or.inl rfl), z, rfl⟩) eT hk hs hQ
theorem e_ret0 (hGe : G = Goes p e below s K N Q) (X : Stand p l e R s m args below meth c T locs cells slots) (hx : p.tables.exec = Jvm.exec) (hret : meth.sig.returnType = none) (hlk : meth.locks = false) (hd : decode c.code pc = .ok (.return_, 1)) (eT : T.heap = h) (hk : cells ≤ K) (hs : slots ≤ N) (hQ : Q none h locs) : G (T.setTop (mkF m pc Ls [])) := by
  subst hGe
  obtain ⟨fs, hr, hrun, hended, hW, hsame⟩ := X.leave (v := none) (fun _ => rfl) hlk
  refine ⟨_, _, X.returnOut hx hret hd hr, hrun, hended, _, _, rfl, ?_, ⟨_, rfl⟩, hW, hsame.mono hk hs⟩
  show Q _ T.heap _
  rw [eT]; exact hQ
/-! the plain steps -/
theorem g_iload (hG : Cl p e below G) (X : Stand p l e R s m args below meth c T locs cells slots) (hx : p.tables.exec = Jvm.exec) {i : Nat} {v : Int32} (hd : decode c.code pc = .ok (.iload i, 2)) (hp : pc' = pc + 2) (hl : Ls[i]? = some (.val (.int v))) (k : G (T.setTop (mkF m pc' Ls (.int v :: rest)))) : G (T.setTop (mkF m pc Ls (rest))) := by
  subst hp
  refine hG _ _ (fun t ht => ?_) k
  exact XS.iload X.here hx rfl hd hl ht
theorem g_iloadN (hG : Cl p e below G) (X : Stand p l e R s m args below meth c T locs cells slots) (hx : p.tables.exec = Jvm.exec) {i : Fin 4} {v : Int32} (hd : decode c.code pc = .ok (.iload_n i, 1)) (hp : pc' = pc + 1) (hl : Ls[i.val]? = some (.val (.int v))) (k : G (T.setTop (mkF m pc' Ls (.int v :: rest)))) : G (T.setTop (mkF m pc Ls (rest))) := by
  subst hp
  refine hG _ _ (fun t ht => ?_) k
  exact XS.iloadN X.here hx rfl hd hl ht
theorem g_istore (hG : Cl p e below G) (X : Stand p l e R s m args below meth c T locs cells slots) (hx : p.tables.exec = Jvm.exec) {i : Nat} {v : Int32} (hd : decode c.code pc = .ok (.istore i, 2)) (hp : pc' = pc + 2) (hl : storeLocals Ls i (.int v) = some Ls') (k : G (T.setTop (mkF m pc' Ls' (rest)))) : G (T.setTop (mkF m pc Ls (.int v :: rest))) := by
  subst hp
  refine hG _ _ (fun t ht => ?_) k
  exact XS.istore X.here hx rfl hd rfl hl ht
theorem g_istoreN (hG : Cl p e below G) (X : Stand p l e R s m args below meth c T locs cells slots) (hx : p.tables.exec = Jvm.exec) {i : Fin 4} {v : Int32} (hd : decode c.code pc = .ok (.istore_n i, 1)) (hp : pc' = pc + 1) (hl : storeLocals Ls i.val (.int v) = some Ls') (k : G (T.setTop (mkF m pc' Ls' (rest)))) : G (T.setTop (mkF m pc Ls (.int v :: rest))) := by
  subst hp
  refine hG _ _ (fun t ht => ?_) k
  exact XS.istoreN X.here hx rfl hd rfl hl ht
theorem g_lload (hG : Cl p e below G) (X : Stand p l e R s m args below meth c T locs cells slots) (hx : p.tables.exec = Jvm.exec) {i : Nat} {v : Int64} (hd : decode c.code pc = .ok (.lload i, 2)) (hp : pc' = pc + 2) (hl : Ls[i]? = some (.val (.long v))) (k : G (T.setTop (mkF m pc' Ls (.long v :: rest)))) : G (T.setTop (mkF m pc Ls (rest))) := by
  subst hp
  refine hG _ _ (fun t ht => ?_) k
  exact XS.lload X.here hx rfl hd hl ht
theorem g_lloadN (hG : Cl p e below G) (X : Stand p l e R s m args below meth c T locs cells slots) (hx : p.tables.exec = Jvm.exec) {i : Fin 4} {v : Int64} (hd : decode c.code pc = .ok (.lload_n i, 1)) (hp : pc' = pc + 1) (hl : Ls[i.val]? = some (.val (.long v))) (k : G (T.setTop (mkF m pc' Ls (.long v :: rest)))) : G (T.setTop (mkF m pc Ls (rest))) := by
  subst hp
  refine hG _ _ (fun t ht => ?_) k
  exact XS.lloadN X.here hx rfl hd hl ht
theorem g_lstore (hG : Cl p e below G) (X : Stand p l e R s m args below meth c T locs cells slots) (hx : p.tables.exec = Jvm.exec) {i : Nat} {v : Int64} (hd : decode c.code pc = .ok (.lstore i, 2)) (hp : pc' = pc + 2) (hl : storeLocals Ls i (.long v) = some Ls') (k : G (T.setTop (mkF m pc' Ls' (rest)))) : G (T.setTop (mkF m pc Ls (.long v :: rest))) := by
  subst hp
  refine hG _ _ (fun t ht => ?_) k
  exact XS.lstore X.here hx rfl hd rfl hl ht
theorem g_lstoreN (hG : Cl p e below G) (X : Stand p l e R s m args below meth c T locs cells slots) (hx : p.tables.exec = Jvm.exec) {i : Fin 4} {v : Int64} (hd : decode c.code pc = .ok (.lstore_n i, 1)) (hp : pc' = pc + 1) (hl : storeLocals Ls i.val (.long v) = some Ls') (k : G (T.setTop (mkF m pc' Ls' (rest)))) : G (T.setTop (mkF m pc Ls (.long v :: rest))) := by
  subst hp
  refine hG _ _ (fun t ht => ?_) k
  exact XS.lstoreN X.here hx rfl hd rfl hl ht
theorem g_dload (hG : Cl p e below G) (X : Stand p l e R s m args below meth c T locs cells slots) (hx : p.tables.exec = Jvm.exec) {i : Nat} {v : UInt64} (hd : decode c.code pc = .ok (.dload i, 2)) (hp : pc' = pc + 2) (hl : Ls[i]? = some (.val (.double v))) (k : G (T.setTop (mkF m pc' Ls (.double v :: rest)))) : G (T.setTop (mkF m pc Ls (rest))) := by
  subst hp
  refine hG _ _ (fun t ht => ?_) k
  exact XS.dload X.here hx rfl hd hl ht
theorem g_dloadN (hG : Cl p e below G) (X : Stand p l e R s m args below meth c T locs cells slots) (hx : p.tables.exec = Jvm.exec) {i : Fin 4} {v : UInt64} (hd : decode c.code pc = .ok (.dload_n i, 1)) (hp : pc' = pc + 1) (hl : Ls[i.val]? = some (.val (.double v))) (k : G (T.setTop (mkF m pc' Ls (.double v :: rest)))) : G (T.setTop (mkF m pc Ls (rest))) := by
  subst hp
  refine hG _ _ (fun t ht => ?_) k
  exact XS.dloadN X.here hx rfl hd hl ht
theorem g_dstore (hG : Cl p e below G) (X : Stand p l e R s m args below meth c T locs cells slots) (hx : p.tables.exec = Jvm.exec) {i : Nat} {v : UInt64} (hd : decode c.code pc = .ok (.dstore i, 2)) (hp : pc' = pc + 2) (hl : storeLocals Ls i (.double v) = some Ls') (k : G (T.setTop (mkF m pc' Ls' (rest)))) : G (T.setTop (mkF m pc Ls (.double v :: rest))) := by
  subst hp
  refine hG _ _ (fun t ht => ?_) k
  exact XS.dstore X.here hx rfl hd rfl hl ht
theorem g_dstoreN (hG : Cl p e below G) (X : Stand p l e R s m args below meth c T locs cells slots) (hx : p.tables.exec = Jvm.exec) {i : Fin 4} {v : UInt64} (hd : decode c.code pc = .ok (.dstore_n i, 1)) (hp : pc' = pc + 1) (hl : storeLocals Ls i.val (.double v) = some Ls') (k : G (T.setTop (mkF m pc' Ls' (rest)))) : G (T.setTop (mkF m pc Ls (.double v :: rest))) := by
  subst hp
  refine hG _ _ (fun t ht => ?_) k
  exact XS.dstoreN X.here hx rfl hd rfl hl ht
theorem g_aload (hG : Cl p e below G) (X : Stand p l e R s m args below meth c T locs cells slots) (hx : p.tables.exec = Jvm.exec) {i : Nat} {v : Value} (hd : decode c.code pc = .ok (.aload i, 2)) (hp : pc' = pc + 2) (hl : Ls[i]? = some (.val v)) (hv' : v.isRef = true) (k : G (T.setTop (mkF m pc' Ls (v :: rest)))) : G (T.setTop (mkF m pc Ls (rest))) := by
  subst hp
  refine hG _ _ (fun t ht => ?_) k
  exact XS.aload X.here hx rfl hd hl hv' ht
theorem g_aloadN (hG : Cl p e below G) (X : Stand p l e R s m args below meth c T locs cells slots) (hx : p.tables.exec = Jvm.exec) {i : Fin 4} {v : Value} (hd : decode c.code pc = .ok (.aload_n i, 1)) (hp : pc' = pc + 1) (hl : Ls[i.val]? = some (.val v)) (hv' : v.isRef = true) (k : G (T.setTop (mkF m pc' Ls (v :: rest)))) : G (T.setTop (mkF m pc Ls (rest))) := by
  subst hp
  refine hG _ _ (fun t ht => ?_) k
  exact XS.aloadN X.here hx rfl hd hl hv' ht
theorem g_astore (hG : Cl p e below G) (X : Stand p l e R s m args below meth c T locs cells slots) (hx : p.tables.exec = Jvm.exec) {i : Nat} {v : Value} (hd : decode c.code pc = .ok (.astore i, 2)) (hp : pc' = pc + 2) (hv' : v.isRef = true) (hl : storeLocals Ls i v = some Ls') (k : G (T.setTop (mkF m pc' Ls' (rest)))) : G (T.setTop (mkF m pc Ls (v :: rest))) := by
  subst hp
  refine hG _ _ (fun t ht => ?_) k
  exact XS.astore X.here hx rfl hd rfl hv' hl ht
theorem g_astoreN (hG : Cl p e below G) (X : Stand p l e R s m args below meth c T locs cells slots) (hx : p.tables.exec = Jvm.exec) {i : Fin 4} {v : Value} (hd : decode c.code pc = .ok (.astore_n i, 1)) (hp : pc' = pc + 1) (hv' : v.isRef = true) (hl : storeLocals Ls i.val v = some Ls') (k : G (T.setTop (mkF m pc' Ls' (rest)))) : G (T.setTop (mkF m pc Ls (v :: rest))) := by
  subst hp
  refine hG _ _ (fun t ht => ?_) k
  exact XS.astoreN X.here hx rfl hd rfl hv' hl ht
theorem g_iconst (hG : Cl p e below G) (X : Stand p l e R s m args below meth c T locs cells slots) (hx : p.tables.exec = Jvm.exec) {i : Int} {v : Int32} (hd : decode c.code pc = .ok (.iconst i, 1)) (hp : pc' = pc + 1) (hv : Int32.ofInt i = v) (k : G (T.setTop (mkF m pc' Ls (.int v :: rest)))) : G (T.setTop (mkF m pc Ls (rest))) := by
  subst hp
  subst hv
  refine hG _ _ (fun t ht => ?_) k
  exact XS.iconst X.here hx rfl hd ht
theorem g_bipush (hG : Cl p e below G) (X : Stand p l e R s m args below meth c T locs cells slots) (hx : p.tables.exec = Jvm.exec) {i : Int} {v : Int32} (hd : decode c.code pc = .ok (.bipush i, 2)) (hp : pc' = pc + 2) (hv : (Int8.ofInt i).toInt32 = v) (k : G (T.setTop (mkF m pc' Ls (.int v :: rest)))) : G (T.setTop (mkF m pc Ls (rest))) := by
  subst hp
  subst hv
  refine hG _ _ (fun t ht => ?_) k
  exact XS.bipush X.here hx rfl hd ht
theorem g_sipush (hG : Cl p e below G) (X : Stand p l e R s m args below meth c T locs cells slots) (hx : p.tables.exec = Jvm.exec) {i : Int} {v : Int32} (hd : decode c.code pc = .ok (.sipush i, 3)) (hp : pc' = pc + 3) (hv : (Int16.ofInt i).toInt32 = v) (k : G (T.setTop (mkF m pc' Ls (.int v :: rest)))) : G (T.setTop (mkF m pc Ls (rest))) := by
  subst hp
  subst hv
  refine hG _ _ (fun t ht => ?_) k
  exact XS.sipush X.here hx rfl hd ht
theorem g_lconst (hG : Cl p e below G) (X : Stand p l e R s m args below meth c T locs cells slots) (hx : p.tables.exec = Jvm.exec) {i : Fin 2} {v : Int64} (hd : decode c.code pc = .ok (.lconst i, 1)) (hp : pc' = pc + 1) (hv : Int64.ofNat i.val = v) (k : G (T.setTop (mkF m pc' Ls (.long v :: rest)))) : G (T.setTop (mkF m pc Ls (rest))) := by
  subst hp
  subst hv
  refine hG _ _ (fun t ht => ?_) k
  exact XS.lconst X.here hx rfl hd ht
theorem g_dconst0 (hG : Cl p e below G) (X : Stand p l e R s m args below meth c T locs cells slots) (hx : p.tables.exec = Jvm.exec) {v : UInt64} (hd : decode c.code pc = .ok (.dconst 0, 1)) (hp : pc' = pc + 1) (hv : FP.dconst0 = v) (k : G (T.setTop (mkF m pc' Ls (.double v :: rest)))) : G (T.setTop (mkF m pc Ls (rest))) := by
  subst hp
  subst hv
  refine hG _ _ (fun t ht => ?_) k
  exact XS.dconst0 X.here hx rfl hd rfl ht
theorem g_dconst1 (hG : Cl p e below G) (X : Stand p l e R s m args below meth c T locs cells slots) (hx : p.tables.exec = Jvm.exec) {v : UInt64} (hd : decode c.code pc = .ok (.dconst 1, 1)) (hp : pc' = pc + 1) (hv : FP.dconst1 = v) (k : G (T.setTop (mkF m pc' Ls (.double v :: rest)))) : G (T.setTop (mkF m pc Ls (rest))) := by
  subst hp
  subst hv
  refine hG _ _ (fun t ht => ?_) k
  exact XS.dconst1 X.here hx rfl hd rfl ht
theorem g_aconstNull (hG : Cl p e below G) (X : Stand p l e R s m args below meth c T locs cells slots) (hx : p.tables.exec = Jvm.exec)  (hd : decode c.code pc = .ok (.aconst_null, 1)) (hp : pc' = pc + 1) (k : G (T.setTop (mkF m pc' Ls (.null :: rest)))) : G (T.setTop (mkF m pc Ls (rest))) := by
  subst hp
  refine hG _ _ (fun t ht => ?_) k
  exact XS.aconstNull X.here hx rfl hd ht
theorem g_iadd (hG : Cl p e below G) (X : Stand p l e R s m args below meth c T locs cells slots) (hx : p.tables.exec = Jvm.exec) {x y v : Int32} (hd : decode c.code pc = .ok (.iadd, 1)) (hp : pc' = pc + 1) (hv : x + y = v) (k : G (T.setTop (mkF m pc' Ls (.int v :: rest)))) : G (T.setTop (mkF m pc Ls (.int y :: .int x :: rest))) := by
  subst hp
  subst hv
  refine hG _ _ (fun t ht => ?_) k
  exact XS.iadd X.here hx rfl hd rfl ht
theorem g_ladd (hG : Cl p e below G) (X : Stand p l e R s m args below meth c T locs cells slots) (hx : p.tables.exec = Jvm.exec) {x y v : Int64} (hd : decode c.code pc = .ok (.ladd, 1)) (hp : pc' = pc + 1) (hv : x + y = v) (k : G (T.setTop (mkF m pc' Ls (.long v :: rest)))) : G (T.setTop (mkF m pc Ls (.long y :: .long x :: rest))) := by
  subst hp
  subst hv
  refine hG _ _ (fun t ht => ?_) k
  exact XS.ladd X.here hx rfl hd rfl ht
theorem g_isub (hG : Cl p e below G) (X : Stand p l e R s m args below meth c T locs cells slots) (hx : p.tables.exec = Jvm.exec) {x y v : Int32} (hd : decode c.code pc = .ok (.isub, 1)) (hp : pc' = pc + 1) (hv : x - y = v) (k : G (T.setTop (mkF m pc' Ls (.int v :: rest)))) : G (T.setTop (mkF m pc Ls (.int y :: .int x :: rest))) := by
  subst hp
  subst hv
  refine hG _ _ (fun t ht => ?_) k
  exact XS.isub X.here hx rfl hd rfl ht
theorem g_lsub (hG : Cl p e below G) (X : Stand p l e R s m args below meth c T locs cells slots) (hx : p.tables.exec = Jvm.exec) {x y v : Int64} (hd : decode c.code pc = .ok (.lsub, 1)) (hp : pc' = pc + 1) (hv : x - y = v) (k : G (T.setTop (mkF m pc' Ls (.long v :: rest)))) : G (T.setTop (mkF m pc Ls (.long y :: .long x :: rest))) := by
  subst hp
  subst hv
  refine hG _ _ (fun t ht => ?_) k
  exact XS.lsub X.here hx rfl hd rfl ht
theorem g_imul (hG : Cl p e below G) (X : Stand p l e R s m args below meth c T locs cells slots) (hx : p.tables.exec = Jvm.exec) {x y v : Int32} (hd : decode c.code pc = .ok (.imul, 1)) (hp : pc' = pc + 1) (hv : x * y = v) (k : G (T.setTop (mkF m pc' Ls (.int v :: rest)))) : G (T.setTop (mkF m pc Ls (.int y :: .int x :: rest))) := by
  subst hp
  subst hv
  refine hG _ _ (fun t ht => ?_) k
  exact XS.imul X.here hx rfl hd rfl ht
theorem g_lmul (hG : Cl p e below G) (X : Stand p l e R s m args below meth c T locs cells slots) (hx : p.tables.exec = Jvm.exec) {x y v : Int64} (hd : decode c.code pc = .ok (.lmul, 1)) (hp : pc' = pc + 1) (hv : x * y = v) (k : G (T.setTop (mkF m pc' Ls (.long v :: rest)))) : G (T.setTop (mkF m pc Ls (.long y :: .long x :: rest))) := by
  subst hp
  subst hv
  refine hG _ _ (fun t ht => ?_) k
  exact XS.lmul X.here hx rfl hd rfl ht
theorem g_iand (hG : Cl p e below G) (X : Stand p l e R s m args below meth c T locs cells slots) (hx : p.tables.exec = Jvm.exec) {x y v : Int32} (hd : decode c.code pc = .ok (.iand, 1)) (hp : pc' = pc + 1) (hv : x &&& y = v) (k : G (T.setTop (mkF m pc' Ls (.int v :: rest)))) : G (T.setTop (mkF m pc Ls (.int y :: .int x :: rest))) := by
  subst hp
  subst hv
  refine hG _ _ (fun t ht => ?_) k
  exact XS.iand X.here hx rfl hd rfl ht
theorem g_land (hG : Cl p e below G) (X : Stand p l e R s m args below meth c T locs cells slots) (hx : p.tables.exec = Jvm.exec) {x y v : Int64} (hd : decode c.code pc = .ok (.land, 1)) (hp : pc' = pc + 1) (hv : x &&& y = v) (k : G (T.setTop (mkF m pc' Ls (.long v :: rest)))) : G (T.setTop (mkF m pc Ls (.long y :: .long x :: rest))) := by
  subst hp
  subst hv
  refine hG _ _ (fun t ht => ?_) k
  exact XS.land X.here hx rfl hd rfl ht
theorem g_ior (hG : Cl p e below G) (X : Stand p l e R s m args below meth c T locs cells slots) (hx : p.tables.exec = Jvm.exec) {x y v : Int32} (hd : decode c.code pc = .ok (.ior, 1)) (hp : pc' = pc + 1) (hv : x ||| y = v) (k : G (T.setTop (mkF m pc' Ls (.int v :: rest)))) : G (T.setTop (mkF m pc Ls (.int y :: .int x :: rest))) := by
  subst hp
  subst hv
  refine hG _ _ (fun t ht => ?_) k
  exact XS.ior X.here hx rfl hd rfl ht
theorem g_lor (hG : Cl p e below G) (X : Stand p l e R s m args below meth c T locs cells slots) (hx : p.tables.exec = Jvm.exec) {x y v : Int64} (hd : decode c.code pc = .ok (.lor, 1)) (hp : pc' = pc + 1) (hv : x ||| y = v) (k : G (T.setTop (mkF m pc' Ls (.long v :: rest)))) : G (T.setTop (mkF m pc Ls (.long y :: .long x :: rest))) := by
  subst hp
  subst hv
  refine hG _ _ (fun t ht => ?_) k
  exact XS.lor X.here hx rfl hd rfl ht
theorem g_ixor (hG : Cl p e below G) (X : Stand p l e R s m args below meth c T locs cells slots) (hx : p.tables.exec = Jvm.exec) {x y v : Int32} (hd : decode c.code pc = .ok (.ixor, 1)) (hp : pc' = pc + 1) (hv : x ^^^ y = v) (k : G (T.setTop (mkF m pc' Ls (.int v :: rest)))) : G (T.setTop (mkF m pc Ls (.int y :: .int x :: rest))) := by
  subst hp
  subst hv
  refine hG _ _ (fun t ht => ?_) k
  exact XS.ixor X.here hx rfl hd rfl ht
theorem g_lxor (hG : Cl p e below G) (X : Stand p l e R s m args below meth c T locs cells slots) (hx : p.tables.exec = Jvm.exec) {x y v : Int64} (hd : decode c.code pc = .ok (.lxor, 1)) (hp : pc' = pc + 1) (hv : x ^^^ y = v) (k : G (T.setTop (mkF m pc' Ls (.long v :: rest)))) : G (T.setTop (mkF m pc Ls (.long y :: .long x :: rest))) := by
  subst hp
  subst hv
  refine hG _ _ (fun t ht => ?_) k
  exact XS.lxor X.here hx rfl hd rfl ht
theorem g_ineg (hG : Cl p e below G) (X : Stand p l e R s m args below meth c T locs cells slots) (hx : p.tables.exec = Jvm.exec) {x v : Int32} (hd : decode c.code pc = .ok (.ineg, 1)) (hp : pc' = pc + 1) (hv : -x = v) (k : G (T.setTop (mkF m pc' Ls (.int v :: rest)))) : G (T.setTop (mkF m pc Ls (.int x :: rest))) := by
  subst hp
  subst hv
  refine hG _ _ (fun t ht => ?_) k
  exact XS.ineg X.here hx rfl hd rfl ht
theorem g_lneg (hG : Cl p e below G) (X : Stand p l e R s m args below meth c T locs cells slots) (hx : p.tables.exec = Jvm.exec) {x v : Int64} (hd : decode c.code pc = .ok (.lneg, 1)) (hp : pc' = pc + 1) (hv : -x = v) (k : G (T.setTop (mkF m pc' Ls (.long v :: rest)))) : G (T.setTop (mkF m pc Ls (.long x :: rest))) := by
  subst hp
  subst hv
  refine hG _ _ (fun t ht => ?_) k
  exact XS.lneg X.here hx rfl hd rfl ht
theorem g_i2l (hG : Cl p e below G) (X : Stand p l e R s m args below meth c T locs cells slots) (hx : p.tables.exec = Jvm.exec) {x : Int32} {v : Int64} (hd : decode c.code pc = .ok (.i2l, 1)) (hp : pc' = pc + 1) (hv : x.toInt64 = v) (k : G (T.setTop (mkF m pc' Ls (.long v :: rest)))) : G (T.setTop (mkF m pc Ls (.int x :: rest))) := by
  subst hp
  subst hv
  refine hG _ _ (fun t ht => ?_) k
  exact XS.i2l X.here hx rfl hd rfl ht
theorem g_l2i (hG : Cl p e below G) (X : Stand p l e R s m args below meth c T locs cells slots) (hx : p.tables.exec = Jvm.exec) {x : Int64} {v : Int32} (hd : decode c.code pc = .ok (.l2i, 1)) (hp : pc' = pc + 1) (hv : x.toInt32 = v) (k : G (T.setTop (mkF m pc' Ls (.int v :: rest)))) : G (T.setTop (mkF m pc Ls (.long x :: rest))) := by
  subst hp
  subst hv
  refine hG _ _ (fun t ht => ?_) k
  exact XS.l2i X.here hx rfl hd rfl ht
theorem g_i2c (hG : Cl p e below G) (X : Stand p l e R s m args below meth c T locs cells slots) (hx : p.tables.exec = Jvm.exec) {x v : Int32} (hd : decode c.code pc = .ok (.i2c, 1)) (hp : pc' = pc + 1) (hv : x.toUInt32.toUInt16.toUInt32.toInt32 = v) (k : G (T.setTop (mkF m pc' Ls (.int v :: rest)))) : G (T.setTop (mkF m pc Ls (.int x :: rest))) := by
  subst hp
  subst hv
  refine hG _ _ (fun t ht => ?_) k
  exact XS.i2c X.here hx rfl hd rfl ht
theorem g_i2b (hG : Cl p e below G) (X : Stand p l e R s m args below meth c T locs cells slots) (hx : p.tables.exec = Jvm.exec) {x v : Int32} (hd : decode c.code pc = .ok (.i2b, 1)) (hp : pc' = pc + 1) (hv : x.toInt8.toInt32 = v) (k : G (T.setTop (mkF m pc' Ls (.int v :: rest)))) : G (T.setTop (mkF m pc Ls (.int x :: rest))) := by
  subst hp
  subst hv
  refine hG _ _ (fun t ht => ?_) k
  exact XS.i2b X.here hx rfl hd rfl ht
theorem g_ishl (hG : Cl p e below G) (X : Stand p l e R s m args below meth c T locs cells slots) (hx : p.tables.exec = Jvm.exec) {x y v : Int32} (hd : decode c.code pc = .ok (.ishl, 1)) (hp : pc' = pc + 1) (hv : x <<< (y &&& 31) = v) (k : G (T.setTop (mkF m pc' Ls (.int v :: rest)))) : G (T.setTop (mkF m pc Ls (.int y :: .int x :: rest))) := by
  subst hp
  subst hv
  refine hG _ _ (fun t ht => ?_) k
  exact XS.ishl X.here hx rfl hd rfl ht
theorem g_ishr (hG : Cl p e below G) (X : Stand p l e R s m args below meth c T locs cells slots) (hx : p.tables.exec = Jvm.exec) {x y v : Int32} (hd : decode c.code pc = .ok (.ishr, 1)) (hp : pc' = pc + 1) (hv : x >>> (y &&& 31) = v) (k : G (T.setTop (mkF m pc' Ls (.int v :: rest)))) : G (T.setTop (mkF m pc Ls (.int y :: .int x :: rest))) := by
  subst hp
  subst hv
  refine hG _ _ (fun t ht => ?_) k
  exact XS.ishr X.here hx rfl hd rfl ht
theorem g_iushr (hG : Cl p e below G) (X : Stand p l e R s m args below meth c T locs cells slots) (hx : p.tables.exec = Jvm.exec) {x y v : Int32} (hd : decode c.code pc = .ok (.iushr, 1)) (hp : pc' = pc + 1) (hv : (x.toUInt32 >>> (y &&& 31).toUInt32).toInt32 = v) (k : G (T.setTop (mkF m pc' Ls (.int v :: rest)))) : G (T.setTop (mkF m pc Ls (.int y :: .int x :: rest))) := by
  subst hp
  subst hv
  refine hG _ _ (fun t ht => ?_) k
  exact XS.iushr X.here hx rfl hd rfl ht
theorem g_lshl (hG : Cl p e below G) (X : Stand p l e R s m args below meth c T locs cells slots) (hx : p.tables.exec = Jvm.exec) {x : Int64} {y : Int32} {v : Int64} (hd : decode c.code pc = .ok (.lshl, 1)) (hp : pc' = pc + 1) (hv : x <<< (y &&& 0x3f).toInt64 = v) (k : G (T.setTop (mkF m pc' Ls (.long v :: rest)))) : G (T.setTop (mkF m pc Ls (.int y :: .long x :: rest))) := by
  subst hp
  subst hv
  refine hG _ _ (fun t ht => ?_) k
  exact XS.lshl X.here hx rfl hd rfl ht
theorem g_lshr (hG : Cl p e below G) (X : Stand p l e R s m args below meth c T locs cells slots) (hx : p.tables.exec = Jvm.exec) {x : Int64} {y : Int32} {v : Int64} (hd : decode c.code pc = .ok (.lshr, 1)) (hp : pc' = pc + 1) (hv : x >>> (y &&& 0x3f).toInt64 = v) (k : G (T.setTop (mkF m pc' Ls (.long v :: rest)))) : G (T.setTop (mkF m pc Ls (.int y :: .long x :: rest))) := by
  subst hp
  subst hv
  refine hG _ _ (fun t ht => ?_) k
  exact XS.lshr X.here hx rfl hd rfl ht
theorem g_lcmp (hG : Cl p e below G) (X : Stand p l e R s m args below meth c T locs cells slots) (hx : p.tables.exec = Jvm.exec) {x y : Int64} {v : Int32} (hd : decode c.code pc = .ok (.lcmp, 1)) (hp : pc' = pc + 1) (hv : lcmpW x y = v) (k : G (T.setTop (mkF m pc' Ls (.int v :: rest)))) : G (T.setTop (mkF m pc Ls (.long y :: .long x :: rest))) := by
  subst hp
  subst hv
  refine hG _ _ (fun t ht => ?_) k
  exact XS.lcmp X.here hx rfl hd rfl ht
theorem g_irem (hG : Cl p e below G) (X : Stand p l e R s m args below meth c T locs cells slots) (hx : p.tables.exec = Jvm.exec) {x y v : Int32} (hd : decode c.code pc = .ok (.irem, 1)) (hp : pc' = pc + 1) (hy : y ≠ 0) (hv : x % y = v) (k : G (T.setTop (mkF m pc' Ls (.int v :: rest)))) : G (T.setTop (mkF m pc Ls (.int y :: .int x :: rest))) := by
  subst hp
  subst hv
  refine hG _ _ (fun t ht => ?_) k
  exact iremM X hx rfl hd rfl hy ht
theorem g_lrem (hG : Cl p e below G) (X : Stand p l e R s m args below meth c T locs cells slots) (hx : p.tables.exec = Jvm.exec) {x y v : Int64} (hd : decode c.code pc = .ok (.lrem, 1)) (hp : pc' = pc + 1) (hy : y ≠ 0) (hv : x % y = v) (k : G (T.setTop (mkF m pc' Ls (.long v :: rest)))) : G (T.setTop (mkF m pc Ls (.long y :: .long x :: rest))) := by
  subst hp hv
  rw [← lrem_mod] at k
  refine hG _ _ (fun t ht => ?_) k
  exact XS.lrem X.here hx rfl hd rfl hy ht
theorem g_idiv (hG : Cl p e below G) (X : Stand p l e R s m args below meth c T locs cells slots) (hx : p.tables.exec = Jvm.exec) {x y v : Int32} (hd : decode c.code pc = .ok (.idiv, 1)) (hp : pc' = pc + 1) (hy : y ≠ 0) (hv : x / y = v) (k : G (T.setTop (mkF m pc' Ls (.int v :: rest)))) : G (T.setTop (mkF m pc Ls (.int y :: .int x :: rest))) := by
  subst hp
  subst hv
  refine hG _ _ (fun t ht => ?_) k
  exact XS.idiv X.here hx rfl hd rfl hy ht
theorem g_dup (hG : Cl p e below G) (X : Stand p l e R s m args below meth c T locs cells slots) (hx : p.tables.exec = Jvm.exec) {x : Value} (hd : decode c.code pc = .ok (.dup, 1)) (hp : pc' = pc + 1) (hc : x.category = 1) (k : G (T.setTop (mkF m pc' Ls (x :: x :: rest)))) : G (T.setTop (mkF m pc Ls (x :: rest))) := by
  subst hp
  refine hG _ _ (fun t ht => ?_) k
  exact XS.dup X.here hx rfl hd rfl hc ht
theorem g_pop (hG : Cl p e below G) (X : Stand p l e R s m args below meth c T locs cells slots) (hx : p.tables.exec = Jvm.exec) {x : Value} (hd : decode c.code pc = .ok (.pop, 1)) (hp : pc' = pc + 1) (hc : x.category = 1) (k : G (T.setTop (mkF m pc' Ls (rest)))) : G (T.setTop (mkF m pc Ls (x :: rest))) := by
  subst hp
  refine hG _ _ (fun t ht => ?_) k
  exact XS.pop X.here hx rfl hd rfl hc ht
theorem g_dupX1 (hG : Cl p e below G) (X : Stand p l e R s m args below meth c T locs cells slots) (hx : p.tables.exec = Jvm.exec) {x y : Value} (hd : decode c.code pc = .ok (.dup_x1, 1)) (hp : pc' = pc + 1) (hc : x.category = 1) (hc' : y.category = 1) (k : G (T.setTop (mkF m pc' Ls (x :: y :: x :: rest)))) : G (T.setTop (mkF m pc Ls (x :: y :: rest))) := by
  subst hp
  refine hG _ _ (fun t ht => ?_) k
  exact XS.dupX1 X.here hx rfl hd rfl hc hc' ht
theorem g_dup2 (hG : Cl p e below G) (X : Stand p l e R s m args below meth c T locs cells slots) (hx : p.tables.exec = Jvm.exec) {x y : Value} (hd : decode c.code pc = .ok (.dup2, 1)) (hp : pc' = pc + 1) (hc : x.category = 1) (hc' : y.category = 1) (k : G (T.setTop (mkF m pc' Ls (x :: y :: x :: y :: rest)))) : G (T.setTop (mkF m pc Ls (x :: y :: rest))) := by
  subst hp
  refine hG _ _ (fun t ht => ?_) k
  exact Jvm.Free.XT.dup2 X.here hx rfl hd rfl hc hc' ht
theorem g_iinc (hG : Cl p e below G) (X : Stand p l e R s m args below meth c T locs cells slots) (hx : p.tables.exec = Jvm.exec) {i : Nat} {cst : Int} {x v : Int32} (hd : decode c.code pc = .ok (.iinc i cst, 3)) (hp : pc' = pc + 3) (hl : Ls[i]? = some (.val (.int x))) (hv : x + Int32.ofInt cst = v) (hl' : storeLocals Ls i (.int v) = some Ls') (k : G (T.setTop (mkF m pc' Ls' (rest)))) : G (T.setTop (mkF m pc Ls (rest))) := by
  subst hp
  subst hv
  refine hG _ _ (fun t ht => ?_) k
  exact XS.iinc X.here hx rfl hd hl hl' ht
theorem g_i2d (hG : Cl p e below G) (X : Stand p l e R s m args below meth c T locs cells slots) (hx : p.tables.exec = Jvm.exec) {x : Int32} {v : UInt64} (hd : decode c.code pc = .ok (.i2d, 1)) (hp : pc' = pc + 1) (hv : FP.i2d x = v) (k : G (T.setTop (mkF m pc' Ls (.double v :: rest)))) : G (T.setTop (mkF m pc Ls (.int x :: rest))) := by
  subst hp
  subst hv
  refine hG _ _ (fun t ht => ?_) k
  exact XS.i2dS X.here hx rfl hd rfl rfl ht
theorem g_l2d (hG : Cl p e below G) (X : Stand p l e R s m args below meth c T locs cells slots) (hx : p.tables.exec = Jvm.exec) {x : Int64} {v : UInt64} (hd : decode c.code pc = .ok (.l2d, 1)) (hp : pc' = pc + 1) (hv : FP.l2d x = v) (k : G (T.setTop (mkF m pc' Ls (.double v :: rest)))) : G (T.setTop (mkF m pc Ls (.long x :: rest))) := by
  subst hp
  subst hv
  refine hG _ _ (fun t ht => ?_) k
  exact XS.l2dS X.here hx rfl hd rfl rfl ht
theorem g_d2i (hG : Cl p e below G) (X : Stand p l e R s m args below meth c T locs cells slots) (hx : p.tables.exec = Jvm.exec) {x : UInt64} {v : Int32} (hd : decode c.code pc = .ok (.d2i, 1)) (hp : pc' = pc + 1) (hv : FP.d2i x = v) (k : G (T.setTop (mkF m pc' Ls (.int v :: rest)))) : G (T.setTop (mkF m pc Ls (.double x :: rest))) := by
  subst hp
  subst hv
  refine hG _ _ (fun t ht => ?_) k
  exact XS.d2iS X.here hx rfl hd rfl rfl ht
theorem g_d2l (hG : Cl p e below G) (X : Stand p l e R s m args below meth c T locs cells slots) (hx : p.tables.exec = Jvm.exec) {x : UInt64} {v : Int64} (hd : decode c.code pc = .ok (.d2l, 1)) (hp : pc' = pc + 1) (hv : FP.d2l x = v) (k : G (T.setTop (mkF m pc' Ls (.long v :: rest)))) : G (T.setTop (mkF m pc Ls (.double x :: rest))) := by
  subst hp
  subst hv
  refine hG _ _ (fun t ht => ?_) k
  exact XS.d2lS X.here hx rfl hd rfl rfl ht
theorem g_dneg (hG : Cl p e below G) (X : Stand p l e R s m args below meth c T locs cells slots) (hx : p.tables.exec = Jvm.exec) {x v : UInt64} (hd : decode c.code pc = .ok (.dneg, 1)) (hp : pc' = pc + 1) (hv : FP.dneg x = v) (k : G (T.setTop (mkF m pc' Ls (.double v :: rest)))) : G (T.setTop (mkF m pc Ls (.double x :: rest))) := by
  subst hp
  subst hv
  refine hG _ _ (fun t ht => ?_) k
  exact XS.dnegS X.here hx rfl hd rfl rfl ht
theorem g_dcmp (hG : Cl p e below G) (X : Stand p l e R s m args below meth c T locs cells slots) (hx : p.tables.exec = Jvm.exec) {x y : UInt64} {o : CmpOp} {v : Int32} (hd : decode c.code pc = .ok (.dcmp o, 1)) (hp : pc' = pc + 1) (hv : cmpValue (FP.dcmp x y) o = v) (k : G (T.setTop (mkF m pc' Ls (.int v :: rest)))) : G (T.setTop (mkF m pc Ls (.double y :: .double x :: rest))) := by
  subst hp
  subst hv
  refine hG _ _ (fun t ht => ?_) k
  exact XS.dcmpS X.here hx rfl hd rfl rfl ht
theorem g_dadd (hG : Cl p e below G) (X : Stand p l e R s m args below meth c T locs cells slots) (hx : p.tables.exec = Jvm.exec) {x y v : UInt64} (hd : decode c.code pc = .ok (.dadd, 1)) (hp : pc' = pc + 1) (hn : Jvm.Free.Fl.NoNaN64 (FP.dadd x y)) (hv : FP.dadd x y = v) (k : G (T.setTop (mkF m pc' Ls (.double v :: rest)))) : G (T.setTop (mkF m pc Ls (.double y :: .double x :: rest))) := by
  subst hp
  subst hv
  refine hG _ _ (fun t ht => ?_) k
  exact XS.daddS X.here hx rfl hd rfl hn rfl ht
theorem g_dsub (hG : Cl p e below G) (X : Stand p l e R s m args below meth c T locs cells slots) (hx : p.tables.exec = Jvm.exec) {x y v : UInt64} (hd : decode c.code pc = .ok (.dsub, 1)) (hp : pc' = pc + 1) (hn : Jvm.Free.Fl.NoNaN64 (FP.dsub x y)) (hv : FP.dsub x y = v) (k : G (T.setTop (mkF m pc' Ls (.double v :: rest)))) : G (T.setTop (mkF m pc Ls (.double y :: .double x :: rest))) := by
  subst hp
  subst hv
  refine hG _ _ (fun t ht => ?_) k
  exact XS.dsubS X.here hx rfl hd rfl hn rfl ht
theorem g_dmul (hG : Cl p e below G) (X : Stand p l e R s m args below meth c T locs cells slots) (hx : p.tables.exec = Jvm.exec) {x y v : UInt64} (hd : decode c.code pc = .ok (.dmul, 1)) (hp : pc' = pc + 1) (hn : Jvm.Free.Fl.NoNaN64 (FP.dmul x y)) (hv : FP.dmul x y = v) (k : G (T.setTop (mkF m pc' Ls (.double v :: rest)))) : G (T.setTop (mkF m pc Ls (.double y :: .double x :: rest))) := by
  subst hp
  subst hv
  refine hG _ _ (fun t ht => ?_) k
  exact XS.dmulS X.here hx rfl hd rfl hn rfl ht
theorem g_ddiv (hG : Cl p e below G) (X : Stand p l e R s m args below meth c T locs cells slots) (hx : p.tables.exec = Jvm.exec) {x y v : UInt64} (hd : decode c.code pc = .ok (.ddiv, 1)) (hp : pc' = pc + 1) (hn : Jvm.Free.Fl.NoNaN64 (FP.ddiv x y)) (hv : FP.ddiv x y = v) (k : G (T.setTop (mkF m pc' Ls (.double v :: rest)))) : G (T.setTop (mkF m pc Ls (.double y :: .double x :: rest))) := by
  subst hp
  subst hv
  refine hG _ _ (fun t ht => ?_) k
  exact XS.ddivS X.here hx rfl hd rfl hn rfl ht
theorem g_goto (hG : Cl p e below G) (X : Stand p l e R s m args below meth c T locs cells slots) (hx : p.tables.exec = Jvm.exec) {o : Int} (hd : decode c.code pc = .ok (.goto o, 3)) (ho : 0 ≤ (pc : Int) + o) (hp : ((pc : Int) + o).toNat = pc') (k : G (T.setTop (mkF m pc' Ls rest))) : G (T.setTop (mkF m pc Ls rest)) := by
  refine hG _ _ (fun t ht => ?_) k
  exact XS.goto X.here hx rfl (pc0 := pc) rfl hd ho hp ht
theorem g_ifYes (hG : Cl p e below G) (X : Stand p l e R s m args below meth c T locs cells slots) (hx : p.tables.exec = Jvm.exec) {cd : ClassFile.Cond} {x : Int32} {o : Int} (hd : decode c.code pc = .ok (.ifCond cd o, 3)) (hc : ifCond.holds cd x = true) (ho : 0 ≤ (pc : Int) + o) (hp : ((pc : Int) + o).toNat = pc') (k : G (T.setTop (mkF m pc' Ls rest))) : G (T.setTop (mkF m pc Ls (.int x :: rest))) := by
  refine hG _ _ (fun t ht => ?_) k
  exact XS.ifYes X.here hx rfl (pc0 := pc) rfl hd rfl hc ho hp ht
theorem g_ifNo (hG : Cl p e below G) (X : Stand p l e R s m args below meth c T locs cells slots) (hx : p.tables.exec = Jvm.exec) {cd : ClassFile.Cond} {x : Int32} {o : Int} (hd : decode c.code pc = .ok (.ifCond cd o, 3)) (hc : ifCond.holds cd x = false) (hp : pc' = pc + 3) (k : G (T.setTop (mkF m pc' Ls rest))) : G (T.setTop (mkF m pc Ls (.int x :: rest))) := by
  subst hp
  refine hG _ _ (fun t ht => ?_) k
  exact XS.ifNo X.here hx rfl hd rfl hc ht
theorem g_icmpYes (hG : Cl p e below G) (X : Stand p l e R s m args below meth c T locs cells slots) (hx : p.tables.exec = Jvm.exec) {cd : ClassFile.Cond} {x y : Int32} {o : Int} (hd : decode c.code pc = .ok (.if_icmp cd o, 3)) (hc : if_icmp.holds cd x y = true) (ho : 0 ≤ (pc : Int) + o) (hp : ((pc : Int) + o).toNat = pc') (k : G (T.setTop (mkF m pc' Ls rest))) : G (T.setTop (mkF m pc Ls (.int y :: .int x :: rest))) := by
  refine hG _ _ (fun t ht => ?_) k
  exact XS.icmpYes X.here hx rfl (pc0 := pc) rfl hd rfl hc ho hp ht
theorem g_icmpNo (hG : Cl p e below G) (X : Stand p l e R s m args below meth c T locs cells slots) (hx : p.tables.exec = Jvm.exec) {cd : ClassFile.Cond} {x y : Int32} {o : Int} (hd : decode c.code pc = .ok (.if_icmp cd o, 3)) (hc : if_icmp.holds cd x y = false) (hp : pc' = pc + 3) (k : G (T.setTop (mkF m pc' Ls rest))) : G (T.setTop (mkF m pc Ls (.int y :: .int x :: rest))) := by
  subst hp
  refine hG _ _ (fun t ht => ?_) k
  exact XS.icmpNo X.here hx rfl hd rfl hc ht
theorem g_ifnullYes (hG : Cl p e below G) (X : Stand p l e R s m args below meth c T locs cells slots) (hx : p.tables.exec = Jvm.exec) {o : Int} (hd : decode c.code pc = .ok (.ifnull o, 3)) (ho : 0 ≤ (pc : Int) + o) (hp : ((pc : Int) + o).toNat = pc') (k : G (T.setTop (mkF m pc' Ls rest))) : G (T.setTop (mkF m pc Ls (.null :: rest))) := by
  refine hG _ _ (fun t ht => ?_) k
  exact XS.ifnullYes X.here hx rfl (pc0 := pc) rfl hd rfl ho hp ht
theorem g_ifnullNo (hG : Cl p e below G) (X : Stand p l e R s m args below meth c T locs cells slots) (hx : p.tables.exec = Jvm.exec) {o : Int} {b : Addr} (hd : decode c.code pc = .ok (.ifnull o, 3)) (hp : pc' = pc + 3) (k : G (T.setTop (mkF m pc' Ls rest))) : G (T.setTop (mkF m pc Ls (.ref b :: rest))) := by
  subst hp
  refine hG _ _ (fun t ht => ?_) k
  exact XS.ifnullNo X.here hx rfl hd rfl ht
theorem g_ifnonnullYes (hG : Cl p e below G) (X : Stand p l e R s m args below meth c T locs cells slots) (hx : p.tables.exec = Jvm.exec) {o : Int} {b : Addr} (hd : decode c.code pc = .ok (.ifnonnull o, 3)) (ho : 0 ≤ (pc : Int) + o) (hp : ((pc : Int) + o).toNat = pc') (k : G (T.setTop (mkF m pc' Ls rest))) : G (T.setTop (mkF m pc Ls (.ref b :: rest))) := by
  refine hG _ _ (fun t ht => ?_) k
  exact XS.ifnonnullYes X.here hx rfl (pc0 := pc) rfl hd rfl ho hp ht
theorem g_ifnonnullNo (hG : Cl p e below G) (X : Stand p l e R s m args below meth c T locs cells slots) (hx : p.tables.exec = Jvm.exec) {o : Int} (hd : decode c.code pc = .ok (.ifnonnull o, 3)) (hp : pc' = pc + 3) (k : G (T.setTop (mkF m pc' Ls rest))) : G (T.setTop (mkF m pc Ls (.null :: rest))) := by
  subst hp
  refine hG _ _ (fun t ht => ?_) k
  exact XS.ifnonnullNo X.here hx rfl hd rfl ht
theorem g_acmp (hG : Cl p e below G) (X : Stand p l e R s m args below meth c T locs cells slots) (hx : p.tables.exec = Jvm.exec) {cd : ACond} {x y : Value} (h1 : x.isRef = true) (h2 : y.isRef = true) {o : Int} {same : Bool} (hd : decode c.code pc = .ok (.if_acmp cd o, 3)) (hq : decide (x = y) = same) (ho : 0 ≤ (pc : Int) + o) (hp : pc' = if acV cd same = true then ((pc : Int) + o).toNat else pc + 3) (k : G (T.setTop (mkF m pc' Ls rest))) : G (T.setTop (mkF m pc Ls (y :: x :: rest))) := by
  refine hG _ _ (fun t ht => ?_) k
  exact Jvm.RoadKit.acmp (g := mkF m pc Ls (y :: x :: rest)) X hx rfl h1 h2 (pc0 := pc) rfl hd rfl hq ho hp ht
/-! constants -/
theorem g_ldcInt (hG : Cl p e below G) (X : Stand p l e R s m args below meth c T locs cells slots) (hx : p.tables.exec = Jvm.exec) (hZ : Z.Warmed39 s.vm) {own : String} {index : Nat} {v : Int32} (hown : s.vm.findClass own = some m.cls) (w : (Jvm.Cond.constant own index v).before a0 Z = true) (hd : decode c.code pc = .ok (.ldc index, 2)) (hp : pc' = pc + 2) (k : G (T.setTop (mkF m pc' Ls (.int v :: rest)))) : G (T.setTop (mkF m pc Ls rest)) := by
  subst hp
  refine hG _ _ (fun t ht => ?_) k
  exact X.ldcInt hx hown (mvT hZ w) (g := mkF m pc Ls rest) rfl hd t ht
theorem g_ldcLong (hG : Cl p e below G) (X : Stand p l e R s m args below meth c T locs cells slots) (hx : p.tables.exec = Jvm.exec) (hZ : Z.Warmed39 s.vm) {own : String} {index : Nat} {v : Int64} (hown : s.vm.findClass own = some m.cls) (w : (Jvm.Cond.constantLong own index v).before a0 Z = true) (hd : decode c.code pc = .ok (.ldc2_w index, 3)) (hp : pc' = pc + 3) (k : G (T.setTop (mkF m pc' Ls (.long v :: rest)))) : G (T.setTop (mkF m pc Ls rest)) := by
  subst hp
  refine hG _ _ (fun t ht => ?_) k
  exact X.ldc2Long hx hown (mvT hZ w) (g := mkF m pc Ls rest) rfl hd t ht
theorem g_ldcDouble (hG : Cl p e below G) (X : Stand p l e R s m args below meth c T locs cells slots) (hx : p.tables.exec = Jvm.exec) (hZ : Z.Warmed39 s.vm) {own : String} {index : Nat} {v : UInt64} (hown : s.vm.findClass own = some m.cls) (w : (Jvm.Cond.constantDouble own index v).before a0 Z = true) (hd : decode c.code pc = .ok (.ldc2_w index, 3)) (hp : pc' = pc + 3) (k : G (T.setTop (mkF m pc' Ls (.double v :: rest)))) : G (T.setTop (mkF m pc Ls rest)) := by
  subst hp
  refine hG _ _ (fun t ht => ?_) k
  exact X.ldc2DoubleC hx hown (mvT hZ w) (g := mkF m pc Ls rest) rfl hd t ht
/-! fields -/
theorem g_getF (hG : Cl p e below G) (X : Stand p l e R s m args below meth c T locs cells slots) (hx : p.tables.exec = Jvm.exec) (hZ : Z.Warmed39 s.vm) {own R0 O n d : String} {index : Nat} (hown : s.vm.findClass own = some m.cls) (w : (Jvm.Cond.fieldLink own index R0 n d).before a0 Z = true) (via : Via Z R0 O n d) (eT : T.heap = h) {a : Addr} {v : Value} (F : Fld Z h a O n d v) (hd : decode c.code pc = .ok (.getfield index, 3)) (hp : pc' = pc + 3)
    (k : ∀ T', Stand p l e R s m args below meth c T' locs cells slots → T'.heap = h → G (T'.setTop (mkF m pc' Ls (v :: rest)))) : G (T.setTop (mkF m pc Ls (.ref a :: rest))) := by
  subst hp
  obtain ⟨T', X', e', st⟩ := getF X hx hZ hown (host := "") (Or.inl w) via eT F (g := mkF m pc Ls (.ref a :: rest)) rfl rfl hd
  exact hG _ _ st (k T' X' e')
theorem g_putF (hG : Cl p e below G) (X : Stand p l e R s m args below meth c T locs cells slots) (hx : p.tables.exec = Jvm.exec) (hZ : Z.Warmed39 s.vm) {own R0 O n d C : String} {index kk : Nat} {ty : FieldType} (hown : s.vm.findClass own = some m.cls) (w : (Jvm.Cond.fieldLink own index R0 n d).before a0 Z = true) (via : Via Z R0 O n d) (eT : T.heap = h) {a : Addr} {v v' old : Value} (F : Fld Z h a O n d old) (E : Exa Z h a C)
    (L : (Jvm.Cond.lays C O n d).before a0 Z = true ∨ ((Jvm.Cond.laysFinal C O n d).before a0 Z = true ∧ own = O ∧ meth.name = "<init>")) (wi : (Jvm.Cond.instantiable C kk).before a0 Z = true) (hty : parseFieldDescriptor d = some ty) (hn : narrow ty v = v') (hf : fits ty v' = true) (hd : decode c.code pc = .ok (.putfield index, 3)) (hp : pc' = pc + 3)
    (k : ∀ T' h', Stand p l e R s m args below meth c T' (locs ++ [⟨a, Jvm.RoadKit.slotOf Z O n d⟩]) cells slots → T'.heap = h' → Wr h h' a (Jvm.RoadKit.slotOf Z O n d) v' → G (T'.setTop (mkF m pc' Ls rest))) : G (T.setTop (mkF m pc Ls (v :: .ref a :: rest))) := by
  subst hp
  obtain ⟨T', h', X', e', W, st⟩ := putFN X hx hZ hown w via eT F E L wi hty hn hf (g := mkF m pc Ls (v :: .ref a :: rest)) rfl rfl hd
  exact hG _ _ st (k T' h' X' e' W)
theorem g_newO (hG : Cl p e below G) (X : Stand p l e R s m args below meth c T locs cells slots) (hx : p.tables.exec = Jvm.exec) (hZ : Z.Warmed39 s.vm) {own C : String} {index n : Nat} (hown : s.vm.findClass own = some m.cls) (w : (Jvm.Cond.classLink own index C).before a0 Z = true) (wi : (Jvm.Cond.instantiable C n).before a0 Z = true) (wz : (Jvm.Cond.initialized C).before a0 Z = true) (eT : T.heap = h) (hd : decode c.code pc = .ok (.new index, 3)) (hc : cells + 1 ≤ R.cells) (hl : slots + n ≤ R.slots) (hp : pc' = pc + 3)
    (k : ∀ T' h' b, b = h.size → Stand p l e R s m args below meth c T' locs (cells + 1) (slots + n) → T'.heap = h' → Ext h h' → Exa Z h' b C → (∀ {O nm d : String} {ty : FieldType}, Laid Z a0 C O nm d → parseFieldDescriptor d = some ty → Fld Z h' b O nm d (defaultValue ty)) → G (T'.setTop (mkF m pc' Ls (.ref b :: rest)))) : G (T.setTop (mkF m pc Ls rest)) := by
  subst hp
  obtain ⟨T', h', X', e', E, A, D, -, st⟩ := newO X hx hZ hown w wi wz eT (g := mkF m pc Ls rest) rfl hd hc hl
  exact hG _ _ st (k T' h' _ rfl X' e' E A D)
theorem g_initO (hG : Cl p e below G) (X : Stand p l e R s m args below meth c T locs cells slots) (hx : p.tables.exec = Jvm.exec) (hZ : Z.Warmed39 s.vm) {own : String} {index : Nat} (hown : s.vm.findClass own = some m.cls) (w1 : (Jvm.Cond.methodLink own index Lib.objectInit).before a0 Z = true) (w2 : (Jvm.Cond.instanceMethod Lib.objectInit).before a0 Z = true) (w3 : (Jvm.Cond.code Lib.objectInit ⟨#[0xb1]⟩ 1 none).before a0 Z = true) (eT : T.heap = h) {a : Addr}
    (hsz : Ls.size = c.maxLocals) (hd : decode c.code pc = .ok (.invokespecial index, 3)) (hfr : 1 ≤ R.frames) (hlo : (rest.map fun v => v.category).sum + 12 ≤ R.locals) (hp : pc' = pc + 3)
    (k : ∀ T', Stand p l e R s m args below meth c T' locs cells slots → T'.heap = h → G (T'.setTop (mkF m pc' Ls rest))) : G (T.setTop (mkF m pc Ls (.ref a :: rest))) := by
  subst hp
  obtain ⟨T', X', e', st⟩ := initO X hx hZ hown w1 w2 w3 eT (g := mkF m pc Ls (.ref a :: rest)) rfl hsz rfl hd hfr (W := (rest.map fun v => v.category).sum) (by show 2 * 0 + _ ≤ _; omega) hlo
  exact hG _ _ st (k T' X' e')
/-! arrays -/
theorem g_newP (hG : Cl p e below G) (X : Stand p l e R s m args below meth c T locs cells slots) (hx : p.tables.exec = Jvm.exec) (hZ : Z.Warmed39 s.vm) {aty : ArrayType} (w : (Jvm.Cond.arrayClass (newarray.typeOf aty)).before a0 Z = true) (eT : T.heap = h) {n : Int32} (hd : decode c.code pc = .ok (.newarray aty, 2)) (hn : ¬ n < 0) (cap : Nat) (hcap : n.toNatClampNeg ≤ cap) (hb : cap * 8 ≤ 536870912) (hc : cells + 1 ≤ R.cells) (hl : slots + cap ≤ R.slots) (hp : pc' = pc + 2)
    (k : ∀ T' h' b kA, b = h.size → Stand p l e R s m args below meth c T' locs (cells + 1) (slots + cap) → T'.heap = h' → Ext h h' → Arv Z h' b kA (newarray.typeOf aty) n [] (defaultValue (newarray.typeOf aty)) → G (T'.setTop (mkF m pc' Ls (.ref b :: rest)))) : G (T.setTop (mkF m pc Ls (.int n :: rest))) := by
  subst hp
  obtain ⟨T', h', kA, X', e', E, A, st⟩ := newP X hx hZ w eT (g := mkF m pc Ls (.int n :: rest)) rfl hd rfl hn hcap hb hc hl
  exact hG _ _ st (k T' h' _ kA rfl X' e' E (Arv.new A hn))

/-! arrays, with all that they hold -/
def AV (Z : State) (h : Heap) (a : Addr) (ty : FieldType) (n : Int32) (vs : List Value) : Prop := ∃ k, Arv Z h a k ty n vs (defaultValue ty) ∧ vs.length = n.toNatClampNeg
theorem AV.lt {a : Addr} {ty : FieldType} {n : Int32} {vs : List Value} (A : AV Z h a ty n vs) : a < h.size := by obtain ⟨k, A, -⟩ := A; exact A.lt
theorem AV.ext {h' : Heap} {a : Addr} {ty : FieldType} {n : Int32} {vs : List Value} (A : AV Z h a ty n vs) (E : Ext h h') : AV Z h' a ty n vs := by obtain ⟨k, A, q⟩ := A; exact ⟨k, A.ext E, q⟩
theorem AV.other {h' : Heap} {a b : Addr} {sl : Nat} {v : Value} {ty : FieldType} {n : Int32} {vs : List Value} (A : AV Z h a ty n vs) (W : Wr h h' b sl v) (q : a ≠ b) : AV Z h' a ty n vs := by obtain ⟨k, A, r⟩ := A; exact ⟨k, A.other W q, r⟩
theorem AV.keep {h' : Heap} {a : Addr} {ws : List Addr} {ty : FieldType} {n : Int32} {vs : List Value} (A : AV Z h a ty n vs) (K : Keep h h' ws) (q : a ∉ ws) : AV Z h' a ty n vs := by obtain ⟨k, A, r⟩ := A; exact ⟨k, A.keep K q, r⟩
theorem AV.new {a : Addr} {k : ClassId} {ty : FieldType} {n : Int32} (A : Arv Z h a k ty n [] (defaultValue ty)) : AV Z h a ty n (List.replicate n.toNatClampNeg (defaultValue ty)) := ⟨k, A.pad (fun i => by have q := pad_rep [] (defaultValue ty) n.toNatClampNeg i; simpa using q), by simp⟩
theorem AV.at {a : Addr} {ty : FieldType} {n : Int32} {vs : List Value} (A : AV Z h a ty n vs) {j : Int32} {v : Value} (hj : ¬ j < 0) (hv : vs[j.toNatClampNeg]? = some v) :
    ∃ c, Arr Z h a c ty ∧ ¬ (j < 0 ∨ c.slots.size ≤ j.toNatClampNeg) ∧ c.slots[j.toNatClampNeg]? = some v := by
  obtain ⟨k, ⟨c, A, q1, S, q3, H, Gf⟩, q⟩ := A
  have hl : j.toNatClampNeg < vs.length := (List.getElem?_eq_some_iff.mp hv).1
  have hin : ¬ (j < 0 ∨ c.slots.size ≤ j.toNatClampNeg) := fun z => z.elim hj (fun y => by omega)
  refine ⟨c, A, hin, Has.at H hin ?_⟩
  simp [List.getD, hv]
theorem AV.set {h' : Heap} {a : Addr} {ty : FieldType} {n : Int32} {vs : List Value} (A : AV Z h a ty n vs) {j : Int32} {v : Value} (W : Wr h h' a j.toNatClampNeg v) (hv : fits ty v = true) (hl : j.toNatClampNeg < vs.length) : AV Z h' a ty n (vs.set j.toNatClampNeg v) := by
  obtain ⟨k, ⟨c, A, q1, S, q3, H, Gf⟩, q⟩ := A
  exact ⟨k, Arv.set A q1 S q3 H Gf hv W _ rfl hl, by simpa using q⟩
theorem AV.inb {a : Addr} {ty : FieldType} {n : Int32} {vs : List Value} (A : AV Z h a ty n vs) {j : Int32} (hj : ¬ j < 0) (hl : j.toNatClampNeg < vs.length) : ∃ c, Arr Z h a c ty ∧ ¬ (j < 0 ∨ c.slots.size ≤ j.toNatClampNeg) := by
  obtain ⟨k, ⟨c, A, q1, S, q3, H, Gf⟩, q⟩ := A
  exact ⟨c, A, fun z => z.elim hj (fun y => by omega)⟩
theorem g_iaload (hG : Cl p e below G) (X : Stand p l e R s m args below meth c T locs cells slots) (hx : p.tables.exec = Jvm.exec) (hZ : Z.Warmed39 s.vm) (eT : T.heap = h) {a : Addr} {n : Int32} {vs : List Value} (A : AV Z h a .int n vs) {j : Int32} {v : Value} (hj : ¬ j < 0) (hv : vs[j.toNatClampNeg]? = some v) (hd : decode c.code pc = .ok (.iaload, 1)) (hp : pc' = pc + 1) (k : G (T.setTop (mkF m pc' Ls (v :: rest)))) : G (T.setTop (mkF m pc Ls (.int j :: .ref a :: rest))) := by
  subst hp
  obtain ⟨cl, Ar, hin, hat⟩ := A.at hj hv
  refine hG _ _ (fun t ht => ?_) k
  exact X.iaload hx (by rw [eT]; exact Ar.1) (State.isArrayOf_alike hZ.alike Ar.2.1) Ar.2.2 hin hat (g := mkF m pc Ls (.int j :: .ref a :: rest)) rfl rfl hd t ht
theorem g_daload (hG : Cl p e below G) (X : Stand p l e R s m args below meth c T locs cells slots) (hx : p.tables.exec = Jvm.exec) (hZ : Z.Warmed39 s.vm) (eT : T.heap = h) {a : Addr} {n : Int32} {vs : List Value} (A : AV Z h a .double n vs) {j : Int32} {v : Value} (hj : ¬ j < 0) (hv : vs[j.toNatClampNeg]? = some v) (hd : decode c.code pc = .ok (.daload, 1)) (hp : pc' = pc + 1) (k : G (T.setTop (mkF m pc' Ls (v :: rest)))) : G (T.setTop (mkF m pc Ls (.int j :: .ref a :: rest))) := by
  subst hp
  obtain ⟨cl, Ar, hin, hat⟩ := A.at hj hv
  refine hG _ _ (fun t ht => ?_) k
  exact X.daload hx (by rw [eT]; exact Ar.1) (State.isArrayOf_alike hZ.alike Ar.2.1) Ar.2.2 hin hat (g := mkF m pc Ls (.int j :: .ref a :: rest)) rfl rfl hd t ht
theorem g_laload (hG : Cl p e below G) (X : Stand p l e R s m args below meth c T locs cells slots) (hx : p.tables.exec = Jvm.exec) (hZ : Z.Warmed39 s.vm) (eT : T.heap = h) {a : Addr} {n : Int32} {vs : List Value} (A : AV Z h a .long n vs) {j : Int32} {v : Value} (hj : ¬ j < 0) (hv : vs[j.toNatClampNeg]? = some v) (hd : decode c.code pc = .ok (.laload, 1)) (hp : pc' = pc + 1) (k : G (T.setTop (mkF m pc' Ls (v :: rest)))) : G (T.setTop (mkF m pc Ls (.int j :: .ref a :: rest))) := by
  subst hp
  obtain ⟨cl, Ar, hin, hat⟩ := A.at hj hv
  refine hG _ _ (fun t ht => ?_) k
  exact X.laload hx (by rw [eT]; exact Ar.1) (State.isArrayOf_alike hZ.alike Ar.2.1) Ar.2.2 hin hat (g := mkF m pc Ls (.int j :: .ref a :: rest)) rfl rfl hd t ht
theorem g_zaload (hG : Cl p e below G) (X : Stand p l e R s m args below meth c T locs cells slots) (hx : p.tables.exec = Jvm.exec) (hZ : Z.Warmed39 s.vm) (eT : T.heap = h) {a : Addr} {n : Int32} {vs : List Value} (A : AV Z h a .boolean n vs) {j : Int32} {v : Value} (hj : ¬ j < 0) (hv : vs[j.toNatClampNeg]? = some v) (hd : decode c.code pc = .ok (.baload, 1)) (hp : pc' = pc + 1) (k : G (T.setTop (mkF m pc' Ls (v :: rest)))) : G (T.setTop (mkF m pc Ls (.int j :: .ref a :: rest))) := by
  subst hp
  obtain ⟨cl, Ar, hin, hat⟩ := A.at hj hv
  refine hG _ _ (fun t ht => ?_) k
  exact X.baloadBooleans hx (by rw [eT]; exact Ar.1) (State.isArrayOf_alike hZ.alike Ar.2.1) Ar.2.2 hin hat (g := mkF m pc Ls (.int j :: .ref a :: rest)) rfl rfl hd t ht
theorem g_iastore (hG : Cl p e below G) (X : Stand p l e R s m args below meth c T locs cells slots) (hx : p.tables.exec = Jvm.exec) (hZ : Z.Warmed39 s.vm) (eT : T.heap = h) {a : Addr} {n : Int32} {vs : List Value} (A : AV Z h a .int n vs) {j : Int32} {x : Int32} (hj : ¬ j < 0) (hl : j.toNatClampNeg < vs.length) (hd : decode c.code pc = .ok (.iastore, 1)) (hp : pc' = pc + 1)
    (k : ∀ T' h', Stand p l e R s m args below meth c T' (locs ++ [⟨a, j.toNatClampNeg⟩]) cells slots → T'.heap = h' → Wr h h' a j.toNatClampNeg (.int x) → AV Z h' a .int n (vs.set j.toNatClampNeg (.int x)) → G (T'.setTop (mkF m pc' Ls rest))) : G (T.setTop (mkF m pc Ls (.int x :: .int j :: .ref a :: rest))) := by
  subst hp
  obtain ⟨cl, Ar, hin⟩ := A.inb hj hl
  obtain ⟨T', h', X', e', W, st⟩ := stI X hx hZ eT Ar hin (g := mkF m pc Ls (.int x :: .int j :: .ref a :: rest)) rfl rfl hd
  exact hG _ _ st (k T' h' X' e' W (A.set W rfl hl))
theorem g_dastore (hG : Cl p e below G) (X : Stand p l e R s m args below meth c T locs cells slots) (hx : p.tables.exec = Jvm.exec) (hZ : Z.Warmed39 s.vm) (eT : T.heap = h) {a : Addr} {n : Int32} {vs : List Value} (A : AV Z h a .double n vs) {j : Int32} {x : UInt64} (hj : ¬ j < 0) (hl : j.toNatClampNeg < vs.length) (hd : decode c.code pc = .ok (.dastore, 1)) (hp : pc' = pc + 1)
    (k : ∀ T' h', Stand p l e R s m args below meth c T' (locs ++ [⟨a, j.toNatClampNeg⟩]) cells slots → T'.heap = h' → Wr h h' a j.toNatClampNeg (.double x) → AV Z h' a .double n (vs.set j.toNatClampNeg (.double x)) → G (T'.setTop (mkF m pc' Ls rest))) : G (T.setTop (mkF m pc Ls (.double x :: .int j :: .ref a :: rest))) := by
  subst hp
  obtain ⟨cl, Ar, hin⟩ := A.inb hj hl
  obtain ⟨T', h', X', e', W, st⟩ := stD X hx hZ eT Ar hin (g := mkF m pc Ls (.double x :: .int j :: .ref a :: rest)) rfl rfl hd
  exact hG _ _ st (k T' h' X' e' W (A.set W rfl hl))
theorem g_lastore (hG : Cl p e below G) (X : Stand p l e R s m args below meth c T locs cells slots) (hx : p.tables.exec = Jvm.exec) (hZ : Z.Warmed39 s.vm) (eT : T.heap = h) {a : Addr} {n : Int32} {vs : List Value} (A : AV Z h a .long n vs) {j : Int32} {x : Int64} (hj : ¬ j < 0) (hl : j.toNatClampNeg < vs.length) (hd : decode c.code pc = .ok (.lastore, 1)) (hp : pc' = pc + 1)
    (k : ∀ T' h', Stand p l e R s m args below meth c T' (locs ++ [⟨a, j.toNatClampNeg⟩]) cells slots → T'.heap = h' → Wr h h' a j.toNatClampNeg (.long x) → AV Z h' a .long n (vs.set j.toNatClampNeg (.long x)) → G (T'.setTop (mkF m pc' Ls rest))) : G (T.setTop (mkF m pc Ls (.long x :: .int j :: .ref a :: rest))) := by
  subst hp
  obtain ⟨cl, Ar, hin⟩ := A.inb hj hl
  obtain ⟨T', h', X', e', W, st⟩ := stJ X hx hZ eT Ar hin (g := mkF m pc Ls (.long x :: .int j :: .ref a :: rest)) rfl rfl hd
  exact hG _ _ st (k T' h' X' e' W (A.set W rfl hl))
theorem g_zastore (hG : Cl p e below G) (X : Stand p l e R s m args below meth c T locs cells slots) (hx : p.tables.exec = Jvm.exec) (hZ : Z.Warmed39 s.vm) (eT : T.heap = h) {a : Addr} {n : Int32} {vs : List Value} (A : AV Z h a .boolean n vs) {j : Int32} {x : Int32} (hj : ¬ j < 0) (hl : j.toNatClampNeg < vs.length) (hd : decode c.code pc = .ok (.bastore, 1)) (hp : pc' = pc + 1)
    (k : ∀ T' h', Stand p l e R s m args below meth c T' (locs ++ [⟨a, j.toNatClampNeg⟩]) cells slots → T'.heap = h' → Wr h h' a j.toNatClampNeg (.int (nar .boolean x)) → AV Z h' a .boolean n (vs.set j.toNatClampNeg (.int (nar .boolean x))) → G (T'.setTop (mkF m pc' Ls rest))) : G (T.setTop (mkF m pc Ls (.int x :: .int j :: .ref a :: rest))) := by
  subst hp
  obtain ⟨cl, Ar, hin⟩ := A.inb hj hl
  obtain ⟨T', h', X', e', W, st⟩ := stZ X hx hZ eT Ar hin (g := mkF m pc Ls (.int x :: .int j :: .ref a :: rest)) rfl rfl hd
  exact hG _ _ st (k T' h' X' e' W (A.set W (fits_nar_bool _) hl))
theorem g_bbastore (hG : Cl p e below G) (X : Stand p l e R s m args below meth c T locs cells slots) (hx : p.tables.exec = Jvm.exec) (hZ : Z.Warmed39 s.vm) (eT : T.heap = h) {a : Addr} {n : Int32} {vs : List Value} (A : AV Z h a .byte n vs) {j : Int32} {x : Int32} (hj : ¬ j < 0) (hl : j.toNatClampNeg < vs.length) (hd : decode c.code pc = .ok (.bastore, 1)) (hp : pc' = pc + 1)
    (k : ∀ T' h', Stand p l e R s m args below meth c T' (locs ++ [⟨a, j.toNatClampNeg⟩]) cells slots → T'.heap = h' → Wr h h' a j.toNatClampNeg (.int x.toInt8.toInt32) → AV Z h' a .byte n (vs.set j.toNatClampNeg (.int x.toInt8.toInt32)) → G (T'.setTop (mkF m pc' Ls rest))) : G (T.setTop (mkF m pc Ls (.int x :: .int j :: .ref a :: rest))) := by
  subst hp
  obtain ⟨cl, Ar, hin⟩ := A.inb hj hl
  obtain ⟨T', h', X', e', W, st⟩ := stB X hx hZ eT Ar hin (g := mkF m pc Ls (.int x :: .int j :: .ref a :: rest)) rfl rfl hd
  exact hG _ _ st (k T' h' X' e' W (A.set W (fits_nar_byte _) hl))
theorem g_arraylength (hG : Cl p e below G) (X : Stand p l e R s m args below meth c T locs cells slots) (hx : p.tables.exec = Jvm.exec) (hZ : Z.Warmed39 s.vm) (eT : T.heap = h) {a : Addr} {ty : FieldType} {n : Int32} {vs : List Value} (A : AV Z h a ty n vs) (hd : decode c.code pc = .ok (.arraylength, 1)) (hp : pc' = pc + 1) (k : G (T.setTop (mkF m pc' Ls (.int n :: rest)))) : G (T.setTop (mkF m pc Ls (.ref a :: rest))) := by
  subst hp
  obtain ⟨kA, ⟨cl, Ar, q1, S, q3, H, Gf⟩, q⟩ := A
  rw [← len_of S q3] at k
  refine hG _ _ (fun t ht => ?_) k
  exact X.arraylength hx (by rw [eT]; exact Ar.1) (State.isArrayOf_alike hZ.alike Ar.2.1) (g := mkF m pc Ls (.ref a :: rest)) rfl rfl hd t ht
/-! calls by a contract -/
theorem g_callS (hG : Cl p e below G) (X : Stand p l e R s m args below meth c T locs cells slots) (hx : p.tables.exec = Jvm.exec) (hZ : Z.Warmed39 s.vm) {own : String} {index : Nat} {y : MethodName} {bytes : ByteArray} {maxL : Nat} {ret : Option FieldType} {rm : Room} {as : Array Value} {Qc : Option Value → Heap → List Loc → Prop} {argsL stack : List Value} {ps : List FieldType} {rt : Option FieldType} (W : Nat)
    (hown : s.vm.findClass own = some m.cls) (w1 : (Jvm.Cond.methodLink own index y).before a0 Z = true) (w2 : (Jvm.Cond.static y).before a0 Z = true) (w3 : (Jvm.Cond.initialized y.cls).before a0 Z = true) (w4 : (Jvm.Cond.code y bytes maxL ret).before a0 Z = true) (hy : y.cls ≠ "java/lang/invoke/MethodHandle" ∧ y.cls ≠ "java/lang/invoke/VarHandle")
    (hM : Con l y bytes maxL ret [] rm Z as h rm.cells rm.slots Qc) (hfr : rm.frames + 1 ≤ R.frames) (hlo : W + (maxL + 11) + rm.locals ≤ R.locals) (hsz : Ls.size = c.maxLocals) (hpd : parseMethodDescriptor y.desc = some ⟨ps, rt⟩) (hln : argsL.length = ps.length) (hst : stack = argsL.reverse ++ rest) (has : argsL.toArray = as) (hW : (rest.map fun v => v.category).sum ≤ W)
    (hd : decode c.code pc = .ok (.invokestatic index, 3)) (eT : T.heap = h) (hc : cells + rm.cells ≤ R.cells) (hs : slots + rm.slots ≤ R.slots) (hp : pc' = pc + 3)
    (k : ∀ T' v L', Stand p l e R s m args below meth c T' (locs ++ L') (cells + rm.cells) (slots + rm.slots) → Qc v T'.heap L' → G (T'.setTop (mkF m pc' Ls (v.toList ++ rest)))) : G (T.setTop (mkF m pc Ls stack)) := by
  subst hp hst has
  obtain ⟨v, _, ⟨T1, L1, k1, n1⟩, -, X1, ⟨Lc, hQ, l1, y1, z1⟩, st⟩ := Jvm.LawKit.callS X hx (y := y) hown (mvT hZ w1) (mvT hZ w2) (mvT hZ w3) (mvT hZ w4) hy (backOf (W := W) hM hZ w4 w3 hfr hlo) (g := mkF m pc Ls (argsL.reverse ++ rest)) rfl hsz (argsL := argsL) (rest := rest) (lenOf hpd hln) rfl (by show 2 * 0 + _ ≤ _; omega) hd (fun _ _ => ⟨rfl, eT, hc, hs⟩)
  dsimp only [Pt.U, Pt.locs, Pt.cells, Pt.slots] at X1 l1 y1 z1 st hQ
  subst l1 y1 z1
  exact hG _ _ st (k T1 v Lc X1 hQ)
theorem g_callI (hG : Cl p e below G) (X : Stand p l e R s m args below meth c T locs cells slots) (hx : p.tables.exec = Jvm.exec) (hZ : Z.Warmed39 s.vm) {own : String} {index : Nat} {y : MethodName} {bytes : ByteArray} {maxL : Nat} {rm : Room} {as : Array Value} {Qc : Option Value → Heap → List Loc → Prop} {a : Addr} {argsL stack : List Value} {ps : List FieldType} {rt : Option FieldType} (W : Nat)
    (hy1 : y.name = "<init>") (hown : s.vm.findClass own = some m.cls) (w1 : (Jvm.Cond.methodLink own index y).before a0 Z = true) (w2 : (Jvm.Cond.instanceMethod y).before a0 Z = true) (w3 : (Jvm.Cond.initialized y.cls).before a0 Z = true) (w4 : (Jvm.Cond.code y bytes maxL none).before a0 Z = true) (hy : y.cls ≠ "java/lang/invoke/MethodHandle" ∧ y.cls ≠ "java/lang/invoke/VarHandle")
    (hM : Con l y bytes maxL none [] rm Z as h rm.cells rm.slots Qc) (hfr : rm.frames + 1 ≤ R.frames) (hlo : W + (maxL + 11) + rm.locals ≤ R.locals) (hsz : Ls.size = c.maxLocals) (hpd : parseMethodDescriptor y.desc = some ⟨ps, rt⟩) (hln : argsL.length = ps.length) (hst : stack = argsL.reverse ++ .ref a :: rest) (has : (.ref a :: argsL).toArray = as) (hW : (rest.map fun v => v.category).sum ≤ W)
    (hd : decode c.code pc = .ok (.invokespecial index, 3)) (eT : T.heap = h) (hc : cells + rm.cells ≤ R.cells) (hs : slots + rm.slots ≤ R.slots) (hp : pc' = pc + 3)
    (k : ∀ T' v L', Stand p l e R s m args below meth c T' (locs ++ L') (cells + rm.cells) (slots + rm.slots) → Qc v T'.heap L' → G (T'.setTop (mkF m pc' Ls (v.toList ++ rest)))) : G (T.setTop (mkF m pc Ls stack)) := by
  subst hp hst has
  obtain ⟨v, _, ⟨T1, L1, k1, n1⟩, -, X1, ⟨Lc, hQ, l1, y1, z1⟩, st⟩ := X.specialBack hx (y := y) hy1 hown (mvT hZ w1) (mvT hZ w2) (mvT hZ w4) hy (backOf (W := W) hM hZ w4 w3 hfr hlo) (g := mkF m pc Ls (argsL.reverse ++ .ref a :: rest)) rfl hsz (Steps.refl _) (a := a) (argsL := argsL) (rest := rest) (lenOf hpd hln) rfl (by show 2 * 0 + _ ≤ _; omega) hd (fun _ _ => ⟨rfl, eT, hc, hs⟩)
  dsimp only [Pt.U, Pt.locs, Pt.cells, Pt.slots] at X1 l1 y1 z1 st hQ
  subst l1 y1 z1
  exact hG _ _ (fun t ht => st.trans ht) (k T1 v Lc X1 hQ)
theorem g_callV (hG : Cl p e below G) (X : Stand p l e R s m args below meth c T locs cells slots) (hx : p.tables.exec = Jvm.exec) (hZ : Z.Warmed39 s.vm) {own C : String} {index : Nat} {y : MethodName} {bytes : ByteArray} {maxL : Nat} {ret : Option FieldType} {rm : Room} {as : Array Value} {Qc : Option Value → Heap → List Loc → Prop} {a : Addr} {argsL stack : List Value} {ps : List FieldType} {rt : Option FieldType} (W : Nat)
    (hown : s.vm.findClass own = some m.cls) (w1 : (Jvm.Cond.methodLink own index y).before a0 Z = true) (w2 : (Jvm.Cond.declares y).before a0 Z = true) (ws : (Jvm.Cond.selects C y y).before a0 Z = true) (wi : (Jvm.Cond.instanceMethod y).before a0 Z = true) (w3 : (Jvm.Cond.initialized y.cls).before a0 Z = true) (w4 : (Jvm.Cond.code y bytes maxL ret).before a0 Z = true) (hy : y.cls ≠ "java/lang/invoke/MethodHandle" ∧ y.cls ≠ "java/lang/invoke/VarHandle")
    (hM : Con l y bytes maxL ret [] rm Z as h rm.cells rm.slots Qc) (hfr : rm.frames + 1 ≤ R.frames) (hlo : W + (maxL + 11) + rm.locals ≤ R.locals) (hsz : Ls.size = c.maxLocals) (hpd : parseMethodDescriptor y.desc = some ⟨ps, rt⟩) (hln : argsL.length = ps.length) (hst : stack = argsL.reverse ++ .ref a :: rest) (has : (.ref a :: argsL).toArray = as) (hW : (rest.map fun v => v.category).sum ≤ W)
    (hd : decode c.code pc = .ok (.invokevirtual index, 3)) (eT : T.heap = h) (E : Exa Z h a C) (hc : cells + rm.cells ≤ R.cells) (hs : slots + rm.slots ≤ R.slots) (hp : pc' = pc + 3)
    (k : ∀ T' v L', Stand p l e R s m args below meth c T' (locs ++ L') (cells + rm.cells) (slots + rm.slots) → Qc v T'.heap L' → G (T'.setTop (mkF m pc' Ls (v.toList ++ rest)))) : G (T.setTop (mkF m pc Ls stack)) := by
  subst hp hst has
  obtain ⟨cq, kq, qa, qb, qc⟩ := isOf hZ eT E
  obtain ⟨v, _, ⟨T1, L1, k1, n1⟩, -, X1, ⟨Lc, hQ, l1, y1, z1⟩, st⟩ := X.virtualBack hx (y := y) (z := y) hown (mvT hZ w1) (mvT hZ w2) (notFace_of_selects (args := #[]) (mvT hZ ws)) (mvT hZ ws) (mvT hZ wi) hy (backOf (W := W) hM hZ w4 w3 hfr hlo) qa qc (g := mkF m pc Ls (argsL.reverse ++ .ref a :: rest)) rfl hsz (Steps.refl _) (argsL := argsL) (rest := rest) (lenOf hpd hln) rfl (by show 2 * 0 + _ ≤ _; omega) hd (fun _ _ => ⟨rfl, eT, hc, hs⟩)
  dsimp only [Pt.U, Pt.locs, Pt.cells, Pt.slots] at X1 l1 y1 z1 st hQ
  subst l1 y1 z1
  exact hG _ _ (fun t ht => st.trans ht) (k T1 v Lc X1 hQ)
theorem g_callP (hG : Cl p e below G) (X : Stand p l e R s m args below meth c T locs cells slots) (hx : p.tables.exec = Jvm.exec) (hZ : Z.Warmed39 s.vm) {own C : String} {index : Nat} {y : MethodName} {bytes : ByteArray} {maxL : Nat} {ret : Option FieldType} {rm : Room} {as : Array Value} {Qc : Option Value → Heap → List Loc → Prop} {a : Addr} {argsL stack : List Value} {ps : List FieldType} {rt : Option FieldType} (W : Nat)
    (hown : s.vm.findClass own = some m.cls) (w1 : (Jvm.Cond.methodLink own index y).before a0 Z = true) (wi : (Jvm.Cond.instanceMethod y).before a0 Z = true) {kk : Nat} (wk : (Jvm.Cond.instantiable y.cls kk).before a0 Z = true) (wp : (Jvm.Cond.privateMethod y).before a0 Z = true) (w3 : (Jvm.Cond.initialized y.cls).before a0 Z = true) (w4 : (Jvm.Cond.code y bytes maxL ret).before a0 Z = true) (hy : y.cls ≠ "java/lang/invoke/MethodHandle" ∧ y.cls ≠ "java/lang/invoke/VarHandle")
    (hM : Con l y bytes maxL ret [] rm Z as h rm.cells rm.slots Qc) (hfr : rm.frames + 1 ≤ R.frames) (hlo : W + (maxL + 11) + rm.locals ≤ R.locals) (hsz : Ls.size = c.maxLocals) (hpd : parseMethodDescriptor y.desc = some ⟨ps, rt⟩) (hln : argsL.length = ps.length) (hst : stack = argsL.reverse ++ .ref a :: rest) (has : (.ref a :: argsL).toArray = as) (hW : (rest.map fun v => v.category).sum ≤ W)
    (hd : decode c.code pc = .ok (.invokevirtual index, 3)) (eT : T.heap = h) (E : Exa Z h a C) (hc : cells + rm.cells ≤ R.cells) (hs : slots + rm.slots ≤ R.slots) (hp : pc' = pc + 3)
    (k : ∀ T' v L', Stand p l e R s m args below meth c T' (locs ++ L') (cells + rm.cells) (slots + rm.slots) → Qc v T'.heap L' → G (T'.setTop (mkF m pc' Ls (v.toList ++ rest)))) : G (T.setTop (mkF m pc Ls stack)) := by
  subst hp hst has
  obtain ⟨cq, q1, q2⟩ := E.cell
  have hpv : s.PrivateAt y := Jvm.Cond.privateMethod_at (mvP hZ wp (args := #[]))
  obtain ⟨ck, kk', j1, j2, -, j4, -⟩ := Jvm.Cond.instantiable_spec (mvT (args := args) hZ wk)
  have ws : (Jvm.Cond.selects y.cls y y).before args s = true := selects_self_of_private j1 j2 (by simp at j4; exact j4.1) hpv (mvT hZ wi) hy
  obtain ⟨v, _, ⟨T1, L1, k1, n1⟩, -, X1, ⟨Lc, hQ, l1, y1, z1⟩, st⟩ := X.privateBack hx (y := y) hown (mvT hZ w1) (mvT hZ wi) ws hpv (mvT hZ w4) hy (backOf (W := W) hM hZ w4 w3 hfr hlo) (g := mkF m pc Ls (argsL.reverse ++ .ref a :: rest)) rfl hsz (Steps.refl _) (a := a) (by rw [eT]; exact q1) q2 (argsL := argsL) (rest := rest) (lenOf hpd hln) rfl (by show 2 * 0 + _ ≤ _; omega) hd (fun _ _ => ⟨rfl, eT, hc, hs⟩)
  dsimp only [Pt.U, Pt.locs, Pt.cells, Pt.slots] at X1 l1 y1 z1 st hQ
  subst l1 y1 z1
  exact hG _ _ (fun t ht => st.trans ht) (k T1 v Lc X1 hQ)
theorem g_natS (hG : Cl p e below G) (X : Stand p l e R s m args below meth c T locs cells slots) (hx : p.tables.exec = Jvm.exec) (hZ : Z.Warmed39 s.vm) {own : String} {index : Nat} {y : MethodName} {by0 : ByteArray} {ml : Nat} {rt : Option FieldType} {F : Array Value → Prop} {val : Value} {argsL stack : List Value} {ps : List FieldType} {rt' : Option FieldType} (W : Nat)
    (hown : s.vm.findClass own = some m.cls) (w1 : (Jvm.Cond.methodLink own index y).before a0 Z = true) (w2 : (Jvm.Cond.static y).before a0 Z = true) (w3 : (Jvm.Cond.initialized y.cls).before a0 Z = true) (w4 : (Jvm.Cond.code y by0 ml rt).before a0 Z = true) (hy : y.cls ≠ "java/lang/invoke/MethodHandle" ∧ y.cls ≠ "java/lang/invoke/VarHandle")
    (hK : (Jvm.Cond.code y by0 ml rt).before args s = true → Back l R p e below s args y 3 W (fun A a' => A.cells ≤ R.cells ∧ A.slots ≤ R.slots ∧ F a') (fun A _ v B => v = some val ∧ B = A)) (hsz : Ls.size = c.maxLocals) (hpd : parseMethodDescriptor y.desc = some ⟨ps, rt'⟩) (hln : argsL.length = ps.length) (hst : stack = argsL.reverse ++ rest) (hW : (rest.map fun v => v.category).sum ≤ W)
    (hd : decode c.code pc = .ok (.invokestatic index, 3)) (eT : T.heap = h) (hc : cells ≤ R.cells) (hs : slots ≤ R.slots) (hF : F argsL.toArray) (hp : pc' = pc + 3)
    (k : ∀ T', Stand p l e R s m args below meth c T' locs cells slots → T'.heap = h → G (T'.setTop (mkF m pc' Ls (val :: rest)))) : G (T.setTop (mkF m pc Ls stack)) := by
  subst hp hst
  obtain ⟨T', X', e', st⟩ := natS X hx hZ hown w1 w2 w3 w4 hy eT hK (g := mkF m pc Ls (argsL.reverse ++ rest)) rfl hsz (argsL := argsL) (rest := rest) (lenOf hpd hln) rfl (by show 2 * 0 + _ ≤ _; omega) hd hc hs hF rfl
  exact hG _ _ st (k T' X' e')
theorem g_getS (hG : Cl p e below G) (X : Stand p l e R s m args below meth c T locs cells slots) (hx : p.tables.exec = Jvm.exec) (hZ : Z.Warmed39 s.vm) {own R0 O n d : String} {index : Nat} (hown : s.vm.findClass own = some m.cls) (w : (Jvm.Cond.fieldLink own index R0 n d).before a0 Z = true) (via : Via Z R0 O n d) (eT : T.heap = h) {v : Value} (F : Sta Z h O n d v) (hd : decode c.code pc = .ok (.getstatic index, 3)) (hp : pc' = pc + 3)
    (k : ∀ T', Stand p l e R s m args below meth c T' locs cells slots → T'.heap = h → G (T'.setTop (mkF m pc' Ls (v :: rest)))) : G (T.setTop (mkF m pc Ls rest)) := by
  subst hp
  obtain ⟨T', X', e', st⟩ := getS2 (host := "") X hx hZ hown (Or.inl w) via eT F (g := mkF m pc Ls rest) rfl hd
  exact hG _ _ st (k T' X' e')
theorem g_castY (hG : Cl p e below G) (X : Stand p l e R s m args below meth c T locs cells slots) (hx : p.tables.exec = Jvm.exec) (hZ : Z.Warmed39 s.vm) {own K0 : String} {index : Nat} (hown : s.vm.findClass own = some m.cls) (w : (Jvm.Cond.classLink own index K0).before a0 Z = true) (eT : T.heap = h) {a : Addr} (F : Ins Z h a K0 true) (hd : decode c.code pc = .ok (.checkcast index, 3)) (hp : pc' = pc + 3)
    (k : ∀ T', Stand p l e R s m args below meth c T' locs cells slots → T'.heap = h → G (T'.setTop (mkF m pc' Ls (.ref a :: rest)))) : G (T.setTop (mkF m pc Ls (.ref a :: rest))) := by
  subst hp
  obtain ⟨T', X', e', st⟩ := castY X hx hZ hown w eT F (g := mkF m pc Ls (.ref a :: rest)) rfl rfl hd
  exact hG _ _ st (k T' X' e')
theorem g_newPE (hG : Cl p e below G) (X : Stand p l e R s m args below meth c T locs cells slots) (hx : p.tables.exec = Jvm.exec) (hZ : Z.Warmed39 s.vm) {aty : ArrayType} (w : (Jvm.Cond.arrayClass (newarray.typeOf aty)).before a0 Z = true) (eT : T.heap = h) {n : Int32} (hd : decode c.code pc = .ok (.newarray aty, 2)) (hn : ¬ n < 0) (cap : Nat) (hcap : n.toNatClampNeg ≤ cap) (hb : cap * 8 ≤ 536870912) (hc : cells + 1 ≤ R.cells) (hl : slots + cap ≤ R.slots) {ad : String} (had : "[" ++ (newarray.typeOf aty).toString = ad) (hp : pc' = pc + 2)
    (k : ∀ T' h' b, b = h.size → Stand p l e R s m args below meth c T' locs (cells + 1) (slots + cap) → T'.heap = h' → Ext h h' → AV Z h' b (newarray.typeOf aty) n (List.replicate n.toNatClampNeg (defaultValue (newarray.typeOf aty))) → Exa Z h' b ad → G (T'.setTop (mkF m pc' Ls (.ref b :: rest)))) : G (T.setTop (mkF m pc Ls (.int n :: rest))) := by
  subst hp
  obtain ⟨T', h', kA, X', e', E, A, Ex, st⟩ := newPE X hx hZ w eT (g := mkF m pc Ls (.int n :: rest)) rfl hd rfl hn hcap hb hc hl had
  exact hG _ _ st (k T' h' _ rfl X' e' E (AV.new (Arv.new A hn)) Ex)
theorem g_clone (hG : Cl p e below G) (X : Stand p l e R s m args below meth c T locs cells slots) (hx : p.tables.exec = Jvm.exec) (hZ : Z.Warmed39 s.vm) {own ad : String} {index : Nat} (hown : s.vm.findClass own = some m.cls)
    (w1 : (Jvm.Cond.methodLink own index ⟨ad, "clone", "()Ljava/lang/Object;"⟩).before a0 Z = true) (w2 : (Jvm.Cond.sameMethod ad "java/lang/Object" "clone" "()Ljava/lang/Object;").before a0 Z = true) (w3 : (Jvm.Cond.native ⟨"java/lang/Object", "clone", "()Ljava/lang/Object;"⟩).before a0 Z = true)
    (w4 : (Jvm.Cond.instanceMethod ⟨"java/lang/Object", "clone", "()Ljava/lang/Object;"⟩).before a0 Z = true) (w5 : (Jvm.Cond.selects ad ⟨ad, "clone", "()Ljava/lang/Object;"⟩ ⟨"java/lang/Object", "clone", "()Ljava/lang/Object;"⟩).before a0 Z = true) (w6 : (Jvm.Cond.castable ad "java/lang/Cloneable").before a0 Z = true)
    (eT : T.heap = h) {a : Addr} {ty : FieldType} {n : Int32} {vs : List Value} (A : AV Z h a ty n vs) (E : Exa Z h a ad) (hsz : Ls.size = c.maxLocals) (hd : decode c.code pc = .ok (.invokevirtual index, 3)) (hfr : 1 ≤ R.frames) (W cap : Nat) (hW : (rest.map fun v => v.category).sum ≤ W) (hlo : W + 14 ≤ R.locals) (hcap : n.toNatClampNeg ≤ cap) (hc : cells + 1 ≤ R.cells) (hsl : slots + cap ≤ R.slots) (hp : pc' = pc + 3)
    (k : ∀ T' h' b, b = h.size → Stand p l e R s m args below meth c T' locs (cells + 1) (slots + cap) → T'.heap = h' → Ext h h' → AV Z h' b ty n vs → Exa Z h' b ad → G (T'.setTop (mkF m pc' Ls (.ref b :: rest)))) : G (T.setTop (mkF m pc Ls (.ref a :: rest))) := by
  subst hp
  obtain ⟨kA, A, q⟩ := A
  obtain ⟨T', h', X', e', E', A', Ex, st⟩ := cloneH X hx hZ hown w1 w2 w3 w4 w5 w6 eT A.arh E (g := mkF m pc Ls (.ref a :: rest)) rfl hsz rfl hd hfr (W := W) (by show 2 * 0 + _ ≤ _; omega) hlo hcap hc hsl
  exact hG _ _ st (k T' h' _ rfl X' e' E' ⟨kA, A', q⟩ Ex)
theorem g_callVU (hG : Cl p e below G) (X : Stand p l e R s m args below meth c T locs cells slots) (hx : p.tables.exec = Jvm.exec) (hZ : Z.Warmed39 s.vm) {own C owner : String} {index : Nat} {x y : MethodName} {bytes : ByteArray} {maxL : Nat} {ret : Option FieldType} {rm : Room} {as : Array Value} {Qc : Option Value → Heap → List Loc → Prop} {a : Addr} {argsL stack : List Value} {ps : List FieldType} {rt : Option FieldType} (W : Nat)
    (hown : s.vm.findClass own = some m.cls) (w1 : (Jvm.Cond.methodLink own index x).before a0 Z = true) (wm : (Jvm.Cond.sameMethod x.cls owner x.name x.desc).before a0 Z = true) (w2 : (Jvm.Cond.declares ⟨owner, x.name, x.desc⟩).before a0 Z = true) (ho : owner ≠ "java/lang/invoke/MethodHandle" ∧ owner ≠ "java/lang/invoke/VarHandle") (ws : (Jvm.Cond.selects C x y).before a0 Z = true) (wi : (Jvm.Cond.instanceMethod y).before a0 Z = true) (w3 : (Jvm.Cond.initialized y.cls).before a0 Z = true) (w4 : (Jvm.Cond.code y bytes maxL ret).before a0 Z = true)
    (hM : Con l y bytes maxL ret [] rm Z as h rm.cells rm.slots Qc) (hfr : rm.frames + 1 ≤ R.frames) (hlo : W + (maxL + 11) + rm.locals ≤ R.locals) (hsz : Ls.size = c.maxLocals) (hpd : parseMethodDescriptor x.desc = some ⟨ps, rt⟩) (hln : argsL.length = ps.length) (hst : stack = argsL.reverse ++ .ref a :: rest) (has : (.ref a :: argsL).toArray = as) (hW : (rest.map fun v => v.category).sum ≤ W)
    (hd : decode c.code pc = .ok (.invokevirtual index, 3)) (eT : T.heap = h) (E : Exa Z h a C) (hc : cells + rm.cells ≤ R.cells) (hs : slots + rm.slots ≤ R.slots) (hp : pc' = pc + 3)
    (k : ∀ T' v L', Stand p l e R s m args below meth c T' (locs ++ L') (cells + rm.cells) (slots + rm.slots) → Qc v T'.heap L' → G (T'.setTop (mkF m pc' Ls (v.toList ++ rest)))) : G (T.setTop (mkF m pc Ls stack)) := by
  subst hp hst has
  obtain ⟨cq, kq, qa, qb, qc⟩ := isOf hZ eT E
  obtain ⟨v, _, ⟨T1, L1, k1, n1⟩, -, X1, ⟨Lc, hQ, l1, y1, z1⟩, st⟩ := X.virtualBackUp hx (x := x) (y := y) hown (mvT hZ w1) (mvT hZ wm) (mvT hZ w2) ho (mvT hZ ws) (mvT hZ wi) (backOf (W := W) hM hZ w4 w3 hfr hlo) qa qc (g := mkF m pc Ls (argsL.reverse ++ .ref a :: rest)) rfl hsz (Steps.refl _) (argsL := argsL) (rest := rest) (lenOf hpd hln) rfl (by show 2 * 0 + _ ≤ _; omega) hd (fun _ _ => ⟨rfl, eT, hc, hs⟩)
  dsimp only [Pt.U, Pt.locs, Pt.cells, Pt.slots] at X1 l1 y1 z1 st hQ
  subst l1 y1 z1
  exact hG _ _ (fun t ht => st.trans ht) (k T1 v Lc X1 hQ)
theorem g_lookup (hG : Cl p e below G) (X : Stand p l e R s m args below meth c T locs cells slots) (hx : p.tables.exec = Jvm.exec) {kk : Int32} {dflt : Int} {pairs : Array (Int × Int)} {len : Nat} (hd : decode c.code pc = .ok (.lookupswitch dflt pairs, len)) (hs : (pairs.toList.zip (pairs.toList.drop 1)).all (fun (a, next) => a.1 < next.1) = true) {a off : Int} (hf : pairs.find? (·.1 == kk.toInt) = some (a, off)) (ho : 0 ≤ (pc : Int) + off) (hp : ((pc : Int) + off).toNat = pc') (k : G (T.setTop (mkF m pc' Ls rest))) : G (T.setTop (mkF m pc Ls (.int kk :: rest))) := by
  subst hp
  refine hG _ _ (fun t ht => ?_) k
  exact X.lookupswitchHit hx (g := mkF m pc Ls (.int kk :: rest)) rfl rfl hd hs hf ho t ht
theorem g_copy (hG : Cl p e below G) (X : Stand p l e R s m args below meth c T locs cells slots) (hx : p.tables.exec = Jvm.exec) (hZ : Z.Warmed39 s.vm) {own : String} {index : Nat} (hown : s.vm.findClass own = some m.cls)
    (w1 : (Jvm.Cond.methodLink own index Jvm.Stand.acN).before a0 Z = true) (w2 : (Jvm.Cond.native Jvm.Stand.acN).before a0 Z = true) (w3 : (Jvm.Cond.static Jvm.Stand.acN).before a0 Z = true) (w4 : (Jvm.Cond.initialized "java/lang/System").before a0 Z = true) (eT : T.heap = h)
    {a b : Addr} {ty : FieldType} {n z sp dp nn : Int32} {vs vd vr : List Value} (A : AV Z h a ty n vs) (B : AV Z h b ty z vd) (hr : refKind ty = false) (h1 : ¬ sp < 0) (h2 : ¬ dp < 0) (h3 : ¬ nn < 0) (h4 : sp.toNatClampNeg + nn.toNatClampNeg ≤ n.toNatClampNeg) (h5 : dp.toNatClampNeg + nn.toNatClampNeg ≤ z.toNatClampNeg)
    (hvr : vd.take dp.toNatClampNeg ++ ((List.range nn.toNatClampNeg).map fun i => vs.getD (sp.toNatClampNeg + i) (defaultValue ty)) ++ vd.drop (dp.toNatClampNeg + nn.toNatClampNeg) = vr) {n0 : Nat} (N0 : Fr n0 locs) (ge : n0 ≤ b) (hsz : Ls.size = c.maxLocals) (hd : decode c.code pc = .ok (.invokestatic index, 3)) (hfr : 1 ≤ R.frames) (W : Nat) (hW : (rest.map fun v => v.category).sum ≤ W) (hlo : W + (nativeFrameWords "java/lang/System" "arraycopy" 5 + 11) ≤ R.locals) (hp : pc' = pc + 3)
    (k : ∀ T' h' L, Stand p l e R s m args below meth c T' L cells slots → T'.heap = h' → Fr n0 L → Keep h h' [b] → AV Z h' b ty z vr → G (T'.setTop (mkF m pc' Ls rest))) : G (T.setTop (mkF m pc Ls (.int nn :: .int dp :: .ref b :: .int sp :: .ref a :: rest))) := by
  subst hp hvr
  obtain ⟨kA, A, qa⟩ := A
  obtain ⟨kB, B, qb⟩ := B
  obtain ⟨T', h', L', X', e', N', K', V', st⟩ := cpA X hx hZ hown w1 w2 w3 w4 eT A B (Or.inl ⟨rfl, hr⟩) h1 h2 h3 h4 h5 rfl (by omega) N0 ge (g := mkF m pc Ls (.int nn :: .int dp :: .ref b :: .int sp :: .ref a :: rest)) rfl hsz rfl hd hfr (W := W) (by show 2 * 0 + _ ≤ _; omega) hlo
  exact hG _ _ st (k T' h' L' X' e' N' K' ⟨kB, V', by simp only [List.length_append, List.length_take, List.length_map, List.length_range, List.length_drop]; omega⟩)
theorem Sta.keep0 {h' : Heap} {C n d : String} {v : Value} (F : Sta Z h C n d v) (K : Keep h h' []) : Sta Z h' C n d v := by
  obtain ⟨cf, i, k, f, st, cell, h1, h2, h3, h4, h5, r⟩ := F
  exact ⟨cf, i, k, f, st, cell, h1, h2, h3, h4, K.2.1 _ _ h5 (fun q => nomatch q), r⟩
end New
end Jvm.OwnKit
namespace Jvm.OwnFl
open Jvm.FP.Core
theorem two_ne : (2 : Rat) ≠ 0 := by decide
theorem p2pos (q : Int) : (0 : Rat) < (2 : Rat) ^ q := Rat.zpow_pos (by decide)
theorem p2add (a b : Int) : (2 : Rat) ^ (a + b) = (2 : Rat) ^ a * (2 : Rat) ^ b := Rat.zpow_add two_ne a b
theorem p2nat (n : Nat) : (2 : Rat) ^ (n : Int) = ((2 ^ n : Nat) : Rat) := by rw [Rat.zpow_natCast, Rat.natCast_pow]; rfl
theorem p2le {a b : Int} (h : a ≤ b) : (2 : Rat) ^ a ≤ (2 : Rat) ^ b := by
  obtain ⟨n, hn⟩ : ∃ n : Nat, b = a + n := ⟨(b - a).toNat, by omega⟩
  subst hn
  rw [p2add, p2nat]
  have h1 : (1 : Rat) ≤ ((2 ^ n : Nat) : Rat) := by
    have q : ((1 : Nat) : Rat) ≤ ((2 ^ n : Nat) : Rat) := Rat.natCast_le_natCast.mpr (Nat.two_pow_pos n)
    exact q
  have q := Rat.mul_le_mul_of_nonneg_left h1 (Rat.le_of_lt (p2pos a))
  rwa [Rat.mul_one] at q
theorem p2lt {a b : Int} (h : (2 : Rat) ^ a < (2 : Rat) ^ b) : a < b := by
  by_cases q : a < b
  · exact q
  · exact absurd (p2le (Int.not_lt.mp q)) (Rat.not_le.mpr h)
/-- the value of a datum (nought for what is no number) -/
def rvd : Datum → Rat
  | .fin s c q => ((signed s c : Int) : Rat) * (2 : Rat) ^ q
  | _ => 0
/-- v is a finite double, of the value x -/
def DV (v : UInt64) (x : Rat) : Prop := ∃ s c q, val64 v = .fin s c q ∧ rvd (.fin s c q) = x
theorem DV.fin {v : UInt64} {x : Rat} (h : DV v x) : Jvm.Free.Fl.Fin64 v := by
  obtain ⟨s, c, q, h, -⟩ := h
  exact Jvm.Free.Fl.fin64_core.mpr ⟨s, c, q, h⟩
theorem DV.noNaN {v : UInt64} {x : Rat} (h : DV v x) : Jvm.Free.Fl.NoNaN64 v := h.fin.noNaN
theorem DV.uniq {v : UInt64} {x y : Rat} (h : DV v x) (g : DV v y) : x = y := by
  obtain ⟨s, c, q, h1, h2⟩ := h
  obtain ⟨t, d, r, g1, g2⟩ := g
  cases h1.symm.trans g1
  exact h2.symm.trans g2
theorem units_val (s : Bool) (c : Nat) {q e : Int} (h : e ≤ q) : ((signed s (inUnits c q e) : Int) : Rat) * (2 : Rat) ^ e = ((signed s c : Int) : Rat) * (2 : Rat) ^ q := by
  obtain ⟨n, rfl⟩ : ∃ n : Nat, q = e + n := ⟨(q - e).toNat, by omega⟩
  unfold inUnits
  rw [signed_mul, Rat.intCast_mul, Rat.mul_assoc, show (e + (n : Int) - e).toNat = n by omega, p2add, p2nat, Rat.mul_comm ((2 : Rat) ^ e)]
  rfl
theorem dcmp_of {a b : UInt64} {x y : Rat} (ha : DV a x) (hb : DV b y) : dcmp a b = some (if x < y then .lt else if x = y then .eq else .gt) := by
  obtain ⟨s, c, q, h1, rfl⟩ := ha
  obtain ⟨t, d, r, h2, rfl⟩ := hb
  show order (val64 a) (val64 b) = _
  rw [h1, h2]
  show some (compare (signed s (inUnits c q (min q r))) (signed t (inUnits d r (min q r)))) = some (if ((signed s c : Int) : Rat) * (2 : Rat) ^ q < ((signed t d : Int) : Rat) * (2 : Rat) ^ r then .lt else if ((signed s c : Int) : Rat) * (2 : Rat) ^ q = ((signed t d : Int) : Rat) * (2 : Rat) ^ r then .eq else .gt)
  rw [compare_ite, ← units_val s c (Int.min_le_left q r), ← units_val t d (Int.min_le_right q r)]
  generalize signed s (inUnits c q (min q r)) = i
  generalize signed t (inUnits d r (min q r)) = j
  have hu := p2pos (min q r)
  generalize (2 : Rat) ^ (min q r) = u at hu
  have k1 : ∀ i j : Int, ((i : Rat) * u < (j : Rat) * u) ↔ i < j := fun i j => (Rat.mul_lt_mul_right hu).trans Rat.intCast_lt_intCast
  have k2 : ((i : Rat) * u = (j : Rat) * u) ↔ i = j := by
    constructor
    · intro h
      rcases Int.lt_trichotomy i j with g | g | g
      · have := (k1 i j).mpr g; rw [h] at this; exact absurd this Rat.lt_irrefl
      · exact g
      · have := (k1 j i).mpr g; rw [h] at this; exact absurd this Rat.lt_irrefl
    · intro h; rw [h]
  simp only [k1, k2]
theorem dcmp_lt {a b : UInt64} {x y : Rat} (ha : DV a x) (hb : DV b y) (h : x < y) : Jvm.FP.dcmp a b = some .lt := by
  show dcmp a b = _
  rw [dcmp_of ha hb, if_pos h]
theorem dcmp_eq {a b : UInt64} {x y : Rat} (ha : DV a x) (hb : DV b y) (h : x = y) : Jvm.FP.dcmp a b = some .eq := by
  show dcmp a b = _
  rw [dcmp_of ha hb, if_neg (by rw [h]; exact Rat.lt_irrefl), if_pos h]
theorem dcmp_gt {a b : UInt64} {x y : Rat} (ha : DV a x) (hb : DV b y) (h : y < x) : Jvm.FP.dcmp a b = some .gt := by
  show dcmp a b = _
  rw [dcmp_of ha hb, if_neg (by rw [Rat.not_lt]; exact Rat.le_of_lt h), if_neg (Rat.ne_of_gt h)]
theorem dcmp_le {a b : UInt64} {x y : Rat} (ha : DV a x) (hb : DV b y) (h : x ≤ y) : Jvm.FP.dcmp a b = some .lt ∨ Jvm.FP.dcmp a b = some .eq := by
  by_cases q : x = y
  · exact Or.inr (dcmp_eq ha hb q)
  · exact Or.inl (dcmp_lt ha hb (Rat.lt_of_le_of_ne h q))
theorem dcmp_ge {a b : UInt64} {x y : Rat} (ha : DV a x) (hb : DV b y) (h : y ≤ x) : Jvm.FP.dcmp a b = some .gt ∨ Jvm.FP.dcmp a b = some .eq := by
  by_cases q : x = y
  · exact Or.inr (dcmp_eq ha hb q)
  · exact Or.inl (dcmp_gt ha hb (Rat.lt_of_le_of_ne h (fun z => q z.symm)))
/-- the rounding of a positive ratio, in full -/
theorem rr_spec (s : Bool) {A B : Nat} (e : Int) (hA : 0 < A) (hB : 0 < B) {x : Rat} (hx : x * (B : Rat) = (A : Rat) * (2 : Rat) ^ e) (hlt : x < (2 : Rat) ^ (1023 : Int)) :
    ∃ c q, roundRatio b64 s A B e = .fin s c q ∧ ∃ (m : Nat) (r : Int), (c : Rat) * (2 : Rat) ^ q = (m : Rat) * (2 : Rat) ^ r ∧ -1074 ≤ r ∧ m ≤ 2 ^ 53 ∧ 2 * x ≤ (2 * (m : Rat) + 1) * (2 : Rat) ^ r ∧ 2 * (m : Rat) * (2 : Rat) ^ r ≤ 2 * x + (2 : Rat) ^ r ∧
      x < 9007199254740992 * (2 : Rat) ^ r ∧ (r = -1074 ∨ 4503599627370496 * (2 : Rat) ^ r ≤ x) := by
  have g1 := quantum_ge b64 A B e
  have g2 := nearest_units_le (f := b64) hA hB e
  have g3 := quantum_not_below (f := b64) hA hB e
  have g4 := quantum_below (f := b64) hA hB e
  unfold roundRatio
  rw [if_neg (by omega : ¬ A = 0)]
  generalize quantum b64 A B e = r at *
  unfold roundAt
  have hD := unitsDen_pos hB e r
  obtain ⟨n1, n2, -⟩ := nearest_spec (unitsNum A e r) (unitsDen B e r) hD
  have key : x * (unitsDen B e r : Rat) = (unitsNum A e r : Rat) * (2 : Rat) ^ r := by
    unfold unitsDen unitsNum
    rw [Rat.natCast_mul, Rat.natCast_mul, ← Rat.mul_assoc, hx, ← p2nat, ← p2nat, Rat.mul_assoc, Rat.mul_assoc, ← p2add, ← p2add, show e + ((r - e).toNat : Int) = ((e - r).toNat : Int) + r by omega]
  have b1 : unitsNum A e r < 2 ^ 53 * unitsDen B e r := (units_below A B e r 53).mpr g4
  have b2 : r = -1074 ∨ 2 ^ 52 * unitsDen B e r ≤ unitsNum A e r := by
    rcases g3 with g3 | g3
    · exact Or.inl g3
    · exact Or.inr (Nat.le_of_not_lt fun q => g3 ((units_below A B e r 52).mp q))
  have hr0 : -1074 ≤ r := g1
  have hm53 : nearest (unitsNum A e r) (unitsDen B e r) ≤ 2 ^ 53 := g2
  clear g1 g2 g3 g4
  generalize nearest (unitsNum A e r) (unitsDen B e r) = m at *
  generalize unitsNum A e r = N at *
  generalize unitsDen B e r = D at *
  have hu := p2pos r
  have hDp : (0 : Rat) < (D : Rat) := Rat.natCast_pos.mpr hD
  have n1' : 2 * (N : Rat) ≤ (2 * (m : Rat) + 1) * (D : Rat) := by
    have q := Rat.natCast_le_natCast.mpr n1
    simpa [Rat.natCast_mul, Rat.natCast_add] using q
  have n2' : 2 * (m : Rat) * (D : Rat) ≤ 2 * (N : Rat) + (D : Rat) := by
    have q := Rat.natCast_le_natCast.mpr n2
    simpa [Rat.natCast_mul, Rat.natCast_add] using q
  have b1' : (N : Rat) < 9007199254740992 * (D : Rat) := by
    have q := Rat.natCast_lt_natCast.mpr b1
    simpa [Rat.natCast_mul] using q
  have b2' : r = -1074 ∨ 4503599627370496 * (D : Rat) ≤ (N : Rat) := by
    rcases b2 with q | q
    · exact Or.inl q
    · right
      have q := Rat.natCast_le_natCast.mpr q
      simpa [Rat.natCast_mul] using q
  have f1 : 2 * x ≤ (2 * (m : Rat) + 1) * (2 : Rat) ^ r := by
    refine Rat.le_of_mul_le_mul_right (c := (D : Rat)) ?_ hDp
    have q := Rat.mul_le_mul_of_nonneg_right n1' (Rat.le_of_lt hu)
    generalize (2 : Rat) ^ r = u at *
    grind
  have f2 : 2 * (m : Rat) * (2 : Rat) ^ r ≤ 2 * x + (2 : Rat) ^ r := by
    refine Rat.le_of_mul_le_mul_right (c := (D : Rat)) ?_ hDp
    have q := Rat.mul_le_mul_of_nonneg_right n2' (Rat.le_of_lt hu)
    generalize (2 : Rat) ^ r = u at *
    grind
  have f3 : x < 9007199254740992 * (2 : Rat) ^ r := by
    refine Rat.lt_of_mul_lt_mul_right (c := (D : Rat)) ?_ (Rat.le_of_lt hDp)
    have q := Rat.mul_lt_mul_of_pos_right b1' hu
    generalize (2 : Rat) ^ r = u at *
    grind
  have f4 : r = -1074 ∨ 4503599627370496 * (2 : Rat) ^ r ≤ x := by
    rcases b2' with q | q
    · exact Or.inl q
    · right
      refine Rat.le_of_mul_le_mul_right (c := (D : Rat)) ?_ hDp
      have q := Rat.mul_le_mul_of_nonneg_right q (Rat.le_of_lt hu)
      generalize (2 : Rat) ^ r = u at *
      grind
  have hr : r ≤ 970 := by
    rcases f4 with q | q
    · omega
    · have q1 : (2 : Rat) ^ ((52 : Int) + r) < (2 : Rat) ^ (1023 : Int) := by
        rw [p2add, show (2 : Rat) ^ (52 : Int) = 4503599627370496 by decide +kernel]
        exact Std.lt_of_le_of_lt q hlt
      have := p2lt q1
      omega
  have hqm : b64.qmax = 971 := by decide
  by_cases hm : m < 2 ^ 53
  · refine ⟨m, r, ?_, m, r, rfl, hr0, hm53, f1, f2, f3, f4⟩
    show (if m < 2 ^ 53 then bound b64 s m r else _) = _
    rw [if_pos hm]
    unfold bound
    rw [if_pos (by omega)]
  · have hm : m = 2 ^ 53 := by omega
    refine ⟨2 ^ 52, r + 1, ?_, m, r, ?_, hr0, hm53, f1, f2, f3, f4⟩
    · show (if m < 2 ^ 53 then bound b64 s m r else bound b64 s b64.tails (r + 1)) = _
      rw [if_neg (by omega)]
      unfold bound
      rw [if_pos (by omega)]
      rfl
    · subst hm
      rw [p2add, Rat.zpow_one]
      generalize (2 : Rat) ^ r = u
      have e1 : ((2 ^ 52 : Nat) : Rat) = 4503599627370496 := by decide +kernel
      have e2 : ((2 ^ 53 : Nat) : Rat) = 9007199254740992 := by decide +kernel
      rw [e1, e2]
      grind
/-- the rounding of a rational number to a double's precision -/
def RR (x : Rat) : Rat := rvd (roundRatio b64 (decide (x < 0)) x.num.natAbs x.den 0)
theorem rat_num (x : Rat) : x * (x.den : Rat) = (x.num : Rat) := by
  have h : x = (x.num : Rat) / ((x.den : Int) : Rat) := by rw [← Rat.divInt_eq_div, Rat.num_divInt_den]
  have hd : (((x.den : Int)) : Rat) ≠ 0 := by
    intro q
    have := Rat.intCast_eq_zero_iff.mp q
    have := x.den_nz
    omega
  have q := Rat.div_mul_cancel (a := (x.num : Rat)) hd
  rw [← h] at q
  exact q
theorem signed_rat (s : Bool) (c : Nat) : ((signed s c : Int) : Rat) = if s then -(c : Rat) else (c : Rat) := by cases s <;> simp [signed, Rat.intCast_natCast]
/-- rounding goes by the value -/
theorem rr_congr {s : Bool} {A B : Nat} {e : Int} {x : Rat} (hB : 0 < B) (hx : x * (B : Rat) = ((signed s A : Int) : Rat) * (2 : Rat) ^ e) (hA : A ≠ 0) : roundRatio b64 s A B e = roundRatio b64 (decide (x < 0)) x.num.natAbs x.den 0 := by
  have hu := p2pos e
  have hBp : (0 : Rat) < (B : Rat) := Rat.natCast_pos.mpr hB
  have hAp : (0 : Rat) < (A : Rat) := Rat.natCast_pos.mpr (by omega)
  have hAu := Rat.mul_pos hAp hu
  have hs : decide (x < 0) = s := by
    rw [signed_rat] at hx
    cases s
    · simp only [Bool.false_eq_true, if_false] at hx
      rw [decide_eq_false_iff_not]
      intro q
      have := (Rat.mul_neg_iff_of_pos_right hBp).mpr q
      rw [hx] at this
      grind
    · simp only [if_true] at hx
      rw [decide_eq_true_iff]
      refine (Rat.mul_neg_iff_of_pos_right hBp).mp ?_
      rw [hx]
      grind
  rw [hs]
  refine roundRatio_congr hB x.den_pos ?_
  -- magnitudes
  have h1 := rat_num x
  have h2 : (x.num : Rat) * (B : Rat) = ((signed s A : Int) : Rat) * (2 : Rat) ^ e * (x.den : Rat) := by rw [← h1, ← hx]; grind
  have h3 : (x.num : Rat) * (B : Rat) * (2 : Rat) ^ (((0 - e).toNat : Nat) : Int) = ((signed s A : Int) : Rat) * (x.den : Rat) * (2 : Rat) ^ (((e - 0).toNat : Nat) : Int) := by
    rw [h2, Rat.mul_assoc, Rat.mul_assoc, Rat.mul_comm ((2 : Rat) ^ e), Rat.mul_assoc, ← p2add, ← Rat.mul_assoc]
    rw [show (((0 - e).toNat : Nat) : Int) + e = (((e - 0).toNat : Nat) : Int) by omega]
  rw [p2nat, p2nat] at h3
  have h4 : x.num * (B : Int) * ((2 ^ (0 - e).toNat : Nat) : Int) = signed s A * (x.den : Int) * ((2 ^ (e - 0).toNat : Nat) : Int) := by
    refine Rat.intCast_inj.mp ?_
    rw [Rat.intCast_mul, Rat.intCast_mul, Rat.intCast_mul, Rat.intCast_mul]
    exact h3
  have h5 := congrArg Int.natAbs h4
  simp only [Int.natAbs_mul, Int.natAbs_natCast, natAbs_signed] at h5
  exact h5.symm
theorem rvd_rr {s : Bool} {A B : Nat} {e : Int} {x : Rat} (hB : 0 < B) (hx : x * (B : Rat) = ((signed s A : Int) : Rat) * (2 : Rat) ^ e) : rvd (roundRatio b64 s A B e) = RR x := by
  by_cases hA : A = 0
  · subst hA
    have hx0 : x = 0 := by
      rw [signed_zero] at hx
      have hBp : (B : Rat) ≠ 0 := fun q => by have := Rat.natCast_eq_zero_iff.mp q; omega
      rcases Rat.mul_eq_zero.mp (hx.trans (by rw [show ((0 : Int) : Rat) = 0 from rfl, Rat.zero_mul])) with q | q
      · exact q
      · exact absurd q hBp
    subst hx0
    unfold RR roundRatio
    rw [if_pos rfl, if_pos (by decide)]
    show ((signed s 0 : Int) : Rat) * _ = ((signed _ 0 : Int) : Rat) * _
    rw [signed_zero, signed_zero]
  · rw [rr_congr hB hx hA]; rfl
theorem RR_neg (x : Rat) : RR (-x) = - RR x := by
  have h := rat_num x
  have h1 : rvd (roundRatio b64 (!decide (x < 0)) x.num.natAbs x.den 0) = RR (-x) := by
    refine rvd_rr x.den_pos ?_
    rw [Rat.zpow_zero, Rat.mul_one, Rat.neg_mul, h]
    have : (signed (!decide (x < 0)) x.num.natAbs : Int) = - x.num := by
      by_cases q : x < 0
      · have : x.num < 0 := by
          rw [← Int.not_le, Rat.num_nonneg, Rat.not_le]; exact q
        simp [signed, q]; omega
      · have : 0 ≤ x.num := by rw [Rat.num_nonneg]; exact Rat.not_lt.mp q
        simp [signed, q]; omega
    rw [this]; rfl
  rw [← h1, ← negate_roundRatio]
  unfold RR
  generalize roundRatio b64 (decide (x < 0)) x.num.natAbs x.den 0 = d
  cases d with
  | nan => simp [negate, rvd]
  | inf s => simp [negate, rvd]
  | fin s c q =>
    show ((signed (!s) c : Int) : Rat) * _ = -(((signed s c : Int) : Rat) * _)
    rw [← Rat.neg_mul]
    congr 1
    cases s <;> simp [signed]
/-- what is known of a rounding y of x -/
def Rsp (x y : Rat) : Prop := ∃ (m r : Int), y = (m : Rat) * (2 : Rat) ^ r ∧ -1074 ≤ r ∧ m.natAbs ≤ 2 ^ 53 ∧ 2 * x ≤ (2 * (m : Rat) + 1) * (2 : Rat) ^ r ∧ (2 * (m : Rat) - 1) * (2 : Rat) ^ r ≤ 2 * x ∧
    x < 9007199254740992 * (2 : Rat) ^ r ∧ -(9007199254740992 * (2 : Rat) ^ r) < x ∧ (r = -1074 ∨ 4503599627370496 * (2 : Rat) ^ r ≤ x ∨ x ≤ -(4503599627370496 * (2 : Rat) ^ r))
theorem Rsp.neg {x y : Rat} (h : Rsp x y) : Rsp (-x) (-y) := by
  obtain ⟨m, r, h1, h2, h3, h4, h5, h6, h7, h8⟩ := h
  have hu := p2pos r
  refine ⟨-m, r, ?_, h2, by omega, ?_, ?_, ?_, ?_, ?_⟩ <;> (try rw [Rat.intCast_neg]) <;> generalize (2 : Rat) ^ r = u at * <;> grind
theorem big_lt : (1267650600228229401496703205376 : Rat) < (2 : Rat) ^ (1023 : Int) := by
  have h : (2 : Rat) ^ (100 : Int) < (2 : Rat) ^ (1023 : Int) := by
    refine Rat.lt_of_le_of_ne (p2le (by decide)) fun q => ?_
    have h2 : (2 : Rat) ^ (1023 : Int) = (2 : Rat) ^ (100 : Int) * (2 : Rat) ^ (923 : Int) := by rw [← p2add]; rfl
    have h3 : (2 : Rat) ^ (1 : Int) ≤ (2 : Rat) ^ (923 : Int) := p2le (by decide)
    have h4 := p2pos 100
    rw [Rat.zpow_one] at h3
    have h5 := Rat.mul_le_mul_of_nonneg_left h3 (Rat.le_of_lt h4)
    grind
  have e : (2 : Rat) ^ (100 : Int) = 1267650600228229401496703205376 := by decide +kernel
  rw [← e]; exact h
theorem RR_pos {x : Rat} (h0 : 0 < x) (h : x ≤ 1267650600228229401496703205376) : Rsp x (RR x) ∧ ∃ c q, roundRatio b64 (decide (x < 0)) x.num.natAbs x.den 0 = .fin false c q := by
  have hn : 0 < x.num := by
    have : 0 ≤ x.num := by rw [Rat.num_nonneg]; exact Rat.le_of_lt h0
    have : x.num ≠ 0 := fun q => by rw [Rat.num_eq_zero] at q; rw [q] at h0; exact absurd h0 Rat.lt_irrefl
    omega
  have hd : decide (x < 0) = false := by rw [decide_eq_false_iff_not, Rat.not_lt]; exact Rat.le_of_lt h0
  have e1 : ((x.num.natAbs : Nat) : Rat) = (x.num : Rat) := by
    have : ((x.num.natAbs : Nat) : Int) = x.num := by omega
    rw [← Rat.intCast_natCast, this]
  obtain ⟨c, q, hr, m, r, f0, f1, f2, f3, f4, f5, f6⟩ := rr_spec false (A := x.num.natAbs) (B := x.den) 0 (by omega) x.den_pos (x := x) (by rw [Rat.zpow_zero, Rat.mul_one, e1]; exact rat_num x) (Std.lt_of_le_of_lt h big_lt)
  refine ⟨⟨m, r, ?_, f1, by omega, ?_, ?_, ?_, ?_, ?_⟩, c, q, by rw [hd]; exact hr⟩
  · unfold RR
    rw [hd, hr]
    show ((signed false c : Int) : Rat) * _ = _
    rw [← Rat.intCast_natCast] at f0
    exact f0
  all_goals
    have hu := p2pos r
    have e2 : ((m : Int) : Rat) = (m : Rat) := rfl
    rw [e2] at *
    generalize (2 : Rat) ^ r = u at *
    grind
theorem RR_zero : RR 0 = 0 := by
  unfold RR roundRatio
  rw [if_pos (by decide)]
  show ((signed _ 0 : Int) : Rat) * _ = 0
  rw [signed_zero]
  exact Rat.zero_mul _
theorem Rsp.zero : Rsp 0 0 := by
  have hu := p2pos (-1074)
  refine ⟨0, -1074, ?_, by decide, by decide, ?_, ?_, ?_, ?_, Or.inl rfl⟩ <;> generalize (2 : Rat) ^ (-1074 : Int) = u at * <;> (try rw [show ((0 : Int) : Rat) = 0 from rfl]) <;> grind
theorem RR_spec {x : Rat} (h1 : -1267650600228229401496703205376 ≤ x) (h2 : x ≤ 1267650600228229401496703205376) : Rsp x (RR x) := by
  by_cases q : 0 < x
  · exact (RR_pos q h2).1
  · by_cases q2 : x = 0
    · subst q2; rw [RR_zero]; exact Rsp.zero
    · have q3 : 0 < -x := by grind
      have g := (RR_pos q3 (by grind)).1.neg
      rw [RR_neg, Rat.neg_neg, Rat.neg_neg] at g
      exact g
theorem DV.of_rr {v : UInt64} {s : Bool} {A B : Nat} {e : Int} {x : Rat} (hv : val64 v = roundRatio b64 s A B e) (hB : 0 < B) (hx : x * (B : Rat) = ((signed s A : Int) : Rat) * (2 : Rat) ^ e) (h1 : -1267650600228229401496703205376 ≤ x) (h2 : x ≤ 1267650600228229401496703205376) : DV v (RR x) := by
  have hr := rvd_rr hB hx
  by_cases hA : A = 0
  · subst hA
    refine ⟨s, 0, b64.qmin, by rw [hv]; unfold roundRatio; rw [if_pos rfl], ?_⟩
    rw [← hr]; unfold roundRatio; rw [if_pos rfl]
  · obtain ⟨c, q, h, -⟩ := rr_spec s (A := A) (B := B) e (by omega) hB (x := if s then -x else x) (by rw [signed_rat] at hx; cases s <;> simp at hx ⊢ <;> grind) (Std.lt_of_le_of_lt (by cases s <;> simp <;> grind) big_lt)
    exact ⟨s, c, q, by rw [hv, h], by rw [← hr, h]⟩
theorem dadd_DV {a b : UInt64} {x y : Rat} (ha : DV a x) (hb : DV b y) (h1 : -1267650600228229401496703205376 ≤ x + y) (h2 : x + y ≤ 1267650600228229401496703205376) : DV (Jvm.FP.dadd a b) (RR (x + y)) := by
  obtain ⟨s, c, q, e1, rfl⟩ := ha
  obtain ⟨t, d, r, e2, rfl⟩ := hb
  refine DV.of_rr (s := sumSign s t (sumUnits s c q t d r (min q r))) (A := (sumUnits s c q t d r (min q r)).natAbs) (B := 1) (e := min q r) ?_ (by decide) ?_ h1 h2
  · show val64 (dadd a b) = _
    rw [val64_dadd, e1, e2]; rfl
  · rw [signed_sumSign, show ((1 : Nat) : Rat) = 1 from rfl, Rat.mul_one]
    unfold sumUnits
    rw [Rat.intCast_add, Rat.add_mul, units_val s c (Int.min_le_left q r), units_val t d (Int.min_le_right q r)]; rfl
theorem signed_not (t : Bool) (d : Nat) : (signed (!t) d : Int) = - signed t d := by cases t <;> simp [signed]
theorem dsub_DV {a b : UInt64} {x y : Rat} (ha : DV a x) (hb : DV b y) (h1 : -1267650600228229401496703205376 ≤ x - y) (h2 : x - y ≤ 1267650600228229401496703205376) : DV (Jvm.FP.dsub a b) (RR (x - y)) := by
  obtain ⟨s, c, q, e1, rfl⟩ := ha
  obtain ⟨t, d, r, e2, rfl⟩ := hb
  refine DV.of_rr (s := sumSign s (!t) (sumUnits s c q (!t) d r (min q r))) (A := (sumUnits s c q (!t) d r (min q r)).natAbs) (B := 1) (e := min q r) ?_ (by decide) ?_ h1 h2
  · show val64 (dsub a b) = _
    rw [val64_dsub, e1, e2]; rfl
  · rw [signed_sumSign, show ((1 : Nat) : Rat) = 1 from rfl, Rat.mul_one]
    unfold sumUnits
    rw [Rat.intCast_add, Rat.add_mul, units_val s c (Int.min_le_left q r), units_val (!t) d (Int.min_le_right q r), signed_not, Rat.intCast_neg, Rat.neg_mul, Rat.sub_eq_add_neg]; rfl
theorem dmul_DV {a b : UInt64} {x y : Rat} (ha : DV a x) (hb : DV b y) (h1 : -1267650600228229401496703205376 ≤ x * y) (h2 : x * y ≤ 1267650600228229401496703205376) : DV (Jvm.FP.dmul a b) (RR (x * y)) := by
  obtain ⟨s, c, q, e1, rfl⟩ := ha
  obtain ⟨t, d, r, e2, rfl⟩ := hb
  refine DV.of_rr (s := s != t) (A := c * d) (B := 1) (e := q + r) ?_ (by decide) ?_ h1 h2
  · show val64 (dmul a b) = _
    rw [val64_dmul, e1, e2]; rfl
  · rw [signed_xor, show ((1 : Nat) : Rat) = 1 from rfl, Rat.mul_one, Rat.intCast_mul, p2add]
    show (_ * _) * (_ * _) = _
    generalize (2 : Rat) ^ q = u
    generalize (2 : Rat) ^ r = w
    grind
theorem ddiv_DV {a b : UInt64} {x y : Rat} (ha : DV a x) (hb : DV b y) (hy : y ≠ 0) (h1 : -1267650600228229401496703205376 ≤ x / y) (h2 : x / y ≤ 1267650600228229401496703205376) : DV (Jvm.FP.ddiv a b) (RR (x / y)) := by
  obtain ⟨s, c, q, e1, rfl⟩ := ha
  obtain ⟨t, d, r, e2, rfl⟩ := hb
  have hd : d ≠ 0 := by
    rintro rfl
    apply hy
    show ((signed t 0 : Int) : Rat) * _ = 0
    rw [signed_zero]; exact Rat.zero_mul _
  refine DV.of_rr (s := s != t) (A := c) (B := d) (e := q - r) ?_ (by omega) ?_ h1 h2
  · show val64 (ddiv a b) = _
    rw [val64_ddiv, e1, e2]
    show (if d = 0 then _ else _) = _
    rw [if_neg hd]
  · have hq : (2 : Rat) ^ q = (2 : Rat) ^ (q - r) * (2 : Rat) ^ r := by rw [← p2add, show q - r + r = q by omega]
    have hS : ((signed s c : Int) : Rat) * (d : Rat) = ((signed (s != t) c : Int) : Rat) * ((signed t d : Int) : Rat) := by
      rw [signed_rat, signed_rat, signed_rat]
      cases s <;> cases t <;> simp <;> grind
    have hm := Rat.div_mul_cancel (a := rvd (.fin s c q)) hy
    have hyn := hy
    have hv1 : rvd (.fin s c q) = ((signed s c : Int) : Rat) * ((2 : Rat) ^ (q - r) * (2 : Rat) ^ r) := by rw [← hq]; rfl
    have hv2 : rvd (.fin t d r) = ((signed t d : Int) : Rat) * (2 : Rat) ^ r := rfl
    generalize rvd (.fin s c q) / rvd (.fin t d r) = z at *
    rw [hv1, hv2] at hm
    rw [hv2] at hyn
    have hst : ((signed t d : Int) : Rat) ≠ 0 := fun g => hyn (by rw [g]; exact Rat.zero_mul _)
    have hr := p2pos r
    generalize (2 : Rat) ^ (q - r) = u at *
    generalize (2 : Rat) ^ r = w at *
    generalize ((signed s c : Int) : Rat) = X at *
    generalize ((signed (s != t) c : Int) : Rat) = S at *
    generalize ((signed t d : Int) : Rat) = Y at *
    generalize (d : Rat) = D at *
    -- hm : z * (Y * w) = X * (u * w); hS : X * D = S * Y; goal : z * D = S * u
    have hw : w ≠ 0 := Rat.ne_of_gt hr
    have k1 : z * Y = X * u := by
      have : (z * Y - X * u) * w = 0 := by grind
      rcases Rat.mul_eq_zero.mp this with g | g
      · grind
      · exact absurd g hw
    have k2 : (z * D - S * u) * Y = 0 := by grind
    rcases Rat.mul_eq_zero.mp k2 with g | g
    · grind
    · exact absurd g hst
theorem i2d_RR (n : Int32) : DV (Jvm.FP.i2d n) (RR (n.toInt : Rat)) := by
  have h := n.le_toInt
  have h' := n.toInt_lt
  refine DV.of_rr (s := decide (n.toInt < 0)) (A := n.toInt.natAbs) (B := 1) (e := 0) ?_ (by decide) ?_ ?_ ?_
  · show val64 (i2d n) = _
    rw [val64_i2d]; rfl
  · rw [Rat.zpow_zero, Rat.mul_one, show ((1 : Nat) : Rat) = 1 from rfl, Rat.mul_one]
    congr 1
    by_cases q : n.toInt < 0 <;> simp [signed, q] <;> omega
  · have := Rat.intCast_le_intCast.mpr h; grind
  · have := Rat.intCast_le_intCast.mpr (Int.le_of_lt h'); grind
theorem l2d_RR (n : Int64) : DV (Jvm.FP.l2d n) (RR (n.toInt : Rat)) := by
  have h := n.le_toInt
  have h' := n.toInt_lt
  refine DV.of_rr (s := decide (n.toInt < 0)) (A := n.toInt.natAbs) (B := 1) (e := 0) ?_ (by decide) ?_ ?_ ?_
  · show val64 (l2d n) = _
    rw [val64_l2d]; rfl
  · rw [Rat.zpow_zero, Rat.mul_one, show ((1 : Nat) : Rat) = 1 from rfl, Rat.mul_one]
    congr 1
    by_cases q : n.toInt < 0 <;> simp [signed, q] <;> omega
  · have := Rat.intCast_le_intCast.mpr h; grind
  · have := Rat.intCast_le_intCast.mpr (Int.le_of_lt h'); grind
/-- a rational number that a double can hold (no overflow asked) -/
def Rp (z : Rat) : Prop := ∃ m k : Int, z = (m : Rat) * (2 : Rat) ^ k ∧ m.natAbs ≤ 2 ^ 53 ∧ -1074 ≤ k
theorem abs_le {m : Int} (h : m.natAbs ≤ 2 ^ 53) : -(9007199254740992 : Rat) ≤ (m : Rat) ∧ (m : Rat) ≤ 9007199254740992 := by
  have h1 : (-9007199254740992 : Int) ≤ m ∧ m ≤ 9007199254740992 := by omega
  exact ⟨by have := Rat.intCast_le_intCast.mpr h1.1; simpa using this, by have := Rat.intCast_le_intCast.mpr h1.2; simpa using this⟩
/-- a number that can be held is a multiple of the quantum, or no greater than the quantum's least -/
theorem rp_mul {z : Rat} {r : Int} (h : Rp z) : (∃ j : Int, z = (j : Rat) * (2 : Rat) ^ r) ∨ (-1074 < r ∧ z ≤ 4503599627370496 * (2 : Rat) ^ r ∧ -(4503599627370496 * (2 : Rat) ^ r) ≤ z) := by
  obtain ⟨m, k, hz, hm, hk⟩ := h
  by_cases hkr : r ≤ k
  · left
    obtain ⟨i, rfl⟩ : ∃ i : Nat, k = r + i := ⟨(k - r).toNat, by omega⟩
    refine ⟨m * ((2 ^ i : Nat) : Int), ?_⟩
    rw [hz, p2add, p2nat, Rat.intCast_mul, Rat.intCast_natCast]
    generalize (2 : Rat) ^ r = u
    generalize ((2 ^ i : Nat) : Rat) = w
    grind
  · right
    have h1 : (2 : Rat) ^ (k + 1) ≤ (2 : Rat) ^ r := p2le (by omega)
    rw [p2add, Rat.zpow_one] at h1
    obtain ⟨a1, a2⟩ := abs_le hm
    have hu := p2pos k
    have b1 := Rat.mul_le_mul_of_nonneg_right a1 (Rat.le_of_lt hu)
    have b2 := Rat.mul_le_mul_of_nonneg_right a2 (Rat.le_of_lt hu)
    rw [hz]
    refine ⟨by omega, ?_, ?_⟩ <;> generalize (2 : Rat) ^ r = w at * <;> generalize (2 : Rat) ^ k = u at * <;> grind
theorem icast_le {u : Rat} (hu : 0 < u) {i j : Int} (h : (i : Rat) * u ≤ (j : Rat) * u) : i ≤ j := Rat.intCast_le_intCast.mp (Rat.le_of_mul_le_mul_right h hu)
theorem icast_lt {u : Rat} (hu : 0 < u) {i j : Int} (h : (i : Rat) * u < (j : Rat) * u) : i < j := Rat.intCast_lt_intCast.mp (Rat.lt_of_mul_lt_mul_right h (Rat.le_of_lt hu))
/-- the nearest: whatever can be held is no nearer -/
theorem Rsp.near {x y z : Rat} (h : Rsp x y) (hz : Rp z) (t : Rat) (t1 : x - z ≤ t) (t2 : z - x ≤ t) : x - y ≤ t ∧ y - x ≤ t := by
  obtain ⟨n, r, rfl, h2, h3, h4, h5, h6, h7, h8⟩ := h
  have hu := p2pos r
  -- multiples of the quantum
  have main : ∀ (j : Int) (t : Rat), x - (j : Rat) * (2 : Rat) ^ r ≤ t → (j : Rat) * (2 : Rat) ^ r - x ≤ t → x - (n : Rat) * (2 : Rat) ^ r ≤ t ∧ (n : Rat) * (2 : Rat) ^ r - x ≤ t := by
    intro j t t1 t2
    rcases Int.lt_trichotomy j n with g | g | g
    · have g1 : (j : Rat) + 1 ≤ (n : Rat) := by have := Rat.intCast_le_intCast.mpr (show j + 1 ≤ n by omega); simpa using this
      have g2 := Rat.mul_le_mul_of_nonneg_right g1 (Rat.le_of_lt hu)
      generalize (2 : Rat) ^ r = u at *
      constructor <;> grind
    · subst g; exact ⟨t1, t2⟩
    · have g1 : (n : Rat) + 1 ≤ (j : Rat) := by have := Rat.intCast_le_intCast.mpr (show n + 1 ≤ j by omega); simpa using this
      have g2 := Rat.mul_le_mul_of_nonneg_right g1 (Rat.le_of_lt hu)
      generalize (2 : Rat) ^ r = u at *
      constructor <;> grind
  rcases rp_mul (r := r) hz with ⟨j, rfl⟩ | ⟨g0, g1, g2⟩
  · exact main j t t1 t2
  · rcases h8 with q | q | q
    · omega
    · refine main 4503599627370496 t ?_ ?_ <;> rw [show ((4503599627370496 : Int) : Rat) = 4503599627370496 from rfl] <;> generalize (2 : Rat) ^ r = u at * <;> grind
    · refine main (-4503599627370496) t ?_ ?_ <;> rw [show ((-4503599627370496 : Int) : Rat) = -4503599627370496 from rfl] <;> generalize (2 : Rat) ^ r = u at * <;> grind
theorem Rsp.exact {x y : Rat} (h : Rsp x y) (hx : Rp x) : y = x := by
  have := h.near hx 0 (by grind) (by grind)
  grind
theorem RR_exact {x : Rat} (hx : Rp x) (h1 : -1267650600228229401496703205376 ≤ x) (h2 : x ≤ 1267650600228229401496703205376) : RR x = x := (RR_spec h1 h2).exact hx
theorem Rsp.rp {x y : Rat} (h : Rsp x y) : Rp y := by
  obtain ⟨n, r, rfl, h2, h3, -⟩ := h
  exact ⟨n, r, rfl, h3, h2⟩
theorem Rsp.le {x y z : Rat} (h : Rsp x y) (hz : Rp z) (q : x ≤ z) : y ≤ z := by
  have := h.near hz (z - x) (by grind) (by grind)
  grind
theorem Rsp.ge {x y z : Rat} (h : Rsp x y) (hz : Rp z) (q : z ≤ x) : z ≤ y := by
  have := h.near hz (x - z) (by grind) (by grind)
  grind
theorem RR_mono {x y : Rat} (h : x ≤ y) (x1 : -1267650600228229401496703205376 ≤ x) (y2 : y ≤ 1267650600228229401496703205376) : RR x ≤ RR y := by
  by_cases q : x = y
  · rw [q]; exact Rat.le_refl
  · have hx := RR_spec x1 (by grind)
    have hy := RR_spec (by grind) y2
    by_cases g : RR x ≤ RR y
    · exact g
    · have g := Rat.not_le.mp g
      -- RR y < RR x
      have a := fun t => hx.near hy.rp t
      have b := fun t => hy.near hx.rp t
      generalize RR x = X at *
      generalize RR y = Y at *
      by_cases c1 : x ≤ Y
      · have := a (Y - x) (by grind) (by grind)
        grind
      · by_cases c2 : X ≤ y
        · have := b (y - X) (by grind) (by grind)
          grind
        · have k1 := a (x - Y) (by grind) (by grind)
          have k2 := b (X - y) (by grind) (by grind)
          grind
/-- the relative error, of what is not tiny -/
theorem Rsp.err {x y : Rat} (h : Rsp x y) (hx : 1 ≤ x * 1267650600228229401496703205376) : 9007199254740992 * (y - x) ≤ x ∧ 9007199254740992 * (x - y) ≤ x := by
  obtain ⟨n, r, rfl, h2, h3, h4, h5, h6, h7, h8⟩ := h
  have hu := p2pos r
  have k : 4503599627370496 * (2 : Rat) ^ r ≤ x := by
    rcases h8 with q | q | q
    · subst q
      have e1 : (2 : Rat) ^ (-1022 : Int) = 4503599627370496 * (2 : Rat) ^ (-1074 : Int) := by
        rw [show (-1022 : Int) = 52 + -1074 from rfl, p2add, show (2 : Rat) ^ (52 : Int) = 4503599627370496 by decide +kernel]
      have e2 : (2 : Rat) ^ (-1022 : Int) ≤ (2 : Rat) ^ (-100 : Int) := p2le (by decide)
      have e3 : (2 : Rat) ^ (-100 : Int) * (2 : Rat) ^ (100 : Int) = 1 := by rw [← p2add]; rfl
      have e4 : (2 : Rat) ^ (100 : Int) = 1267650600228229401496703205376 := by decide +kernel
      rw [e4] at e3
      rw [← e1]
      generalize (2 : Rat) ^ (-1022 : Int) = v at *
      generalize (2 : Rat) ^ (-100 : Int) = w at *
      grind
    · exact q
    · generalize (2 : Rat) ^ r = u at *
      grind
  generalize (2 : Rat) ^ r = u at *
  constructor <;> grind
/-- the error, of whatever size: relative, or below 2^-53 -/
theorem err_any {x : Rat} (h1 : -1267650600228229401496703205376 ≤ x) (h2 : x ≤ 1267650600228229401496703205376) (t : Rat) (t1 : x ≤ t) (t2 : -x ≤ t) : 9007199254740992 * (RR x - x) ≤ t + 1 ∧ 9007199254740992 * (x - RR x) ≤ t + 1 := by
  have h := RR_spec h1 h2
  generalize RR x = y at *
  obtain ⟨n, r, rfl, g2, g3, g4, g5, g6, g7, g8⟩ := h
  have hu := p2pos r
  have k : 4503599627370496 * (2 : Rat) ^ r ≤ t + 1 := by
    rcases g8 with q | q | q
    · subst q
      have e1 : (2 : Rat) ^ (-1022 : Int) = 4503599627370496 * (2 : Rat) ^ (-1074 : Int) := by
        rw [show (-1022 : Int) = 52 + -1074 from rfl, p2add, show (2 : Rat) ^ (52 : Int) = 4503599627370496 by decide +kernel]
      have e2 : (2 : Rat) ^ (-1022 : Int) ≤ (2 : Rat) ^ (0 : Int) := p2le (by decide)
      rw [Rat.zpow_zero] at e2
      rw [← e1]
      generalize (2 : Rat) ^ (-1022 : Int) = v at *
      grind
    · generalize (2 : Rat) ^ r = u at *
      grind
    · generalize (2 : Rat) ^ r = u at *
      grind
  generalize (2 : Rat) ^ r = u at *
  constructor <;> grind
theorem rp_int {n : Int} (h : n.natAbs ≤ 2 ^ 53) : Rp (n : Rat) := ⟨n, 0, by rw [Rat.zpow_zero, Rat.mul_one], h, by decide⟩
theorem rp_scale {z : Rat} (k : Int) {m : Int} (h : z = (m : Rat) * (2 : Rat) ^ k) (hm : m.natAbs ≤ 2 ^ 53) (hk : -1074 ≤ k) : Rp z := ⟨m, k, h, hm, hk⟩
theorem RR_int {n : Int} (h : n.natAbs ≤ 2 ^ 53) : RR (n : Rat) = (n : Rat) := by
  refine RR_exact (rp_int h) ?_ ?_
  · have := Rat.intCast_le_intCast.mpr (show (-9007199254740992 : Int) ≤ n by omega); grind
  · have := Rat.intCast_le_intCast.mpr (show n ≤ (9007199254740992 : Int) by omega); grind
theorem i2d_DV (n : Int32) : DV (Jvm.FP.i2d n) (n.toInt : Rat) := by
  have h := n.le_toInt
  have h' := n.toInt_lt
  have q := i2d_RR n
  rw [RR_int (by omega)] at q
  exact q
theorem l2d_DV {n : Int64} (h : n.toInt.natAbs ≤ 2 ^ 53) : DV (Jvm.FP.l2d n) (n.toInt : Rat) := by
  have q := l2d_RR n
  rw [RR_int h] at q
  exact q
/-- a written double, by its fields -/
theorem lit_DV {v : UInt64} {s : Bool} {c : Nat} {q : Int} {x : Rat} (h : val64 v = .fin s c q) (hx : ((signed s c : Int) : Rat) * (2 : Rat) ^ q = x) : DV v x := ⟨s, c, q, h, hx⟩
theorem dneg_DV {v : UInt64} {x : Rat} (h : DV v x) : DV (Jvm.FP.dneg v) (-x) := by
  obtain ⟨s, c, q, h1, rfl⟩ := h
  refine ⟨!s, c, q, by rw [Jvm.FP.val64_dneg, h1]; rfl, ?_⟩
  show ((signed (!s) c : Int) : Rat) * _ = -(((signed s c : Int) : Rat) * _)
  rw [signed_not, Rat.intCast_neg, Rat.neg_mul]
theorem DV.whole {v : UInt64} {n : Int} (h : DV v (n : Rat)) : DInt n v := by
  obtain ⟨s, c, q, h1, h2⟩ := h
  unfold DInt
  rw [h1]
  show signed s (c * 2 ^ q.toNat) = n * ((2 ^ (-q).toNat : Nat) : Int)
  refine Rat.intCast_inj.mp ?_
  have h3 : ((signed s c : Int) : Rat) * (2 : Rat) ^ q = (n : Rat) := h2
  rw [signed_mul, Rat.intCast_mul, Rat.intCast_mul, ← h3, Rat.mul_assoc, show (((2 ^ (-q).toNat : Nat) : Int) : Rat) = ((2 ^ (-q).toNat : Nat) : Rat) from rfl, show (((2 ^ q.toNat : Nat) : Int) : Rat) = ((2 ^ q.toNat : Nat) : Rat) from rfl, ← p2nat, ← p2nat, ← p2add, show q + ((-q).toNat : Int) = (q.toNat : Int) by omega]
theorem d2l_DV {v : UInt64} {n : Int64} (h : DV v (n.toInt : Rat)) : Jvm.FP.d2l v = n := d2l_int h.whole
theorem DV.cast {v : UInt64} {x y : Rat} (h : DV v x) (e : x = y) : DV v y := e ▸ h
end Jvm.OwnFl
namespace Jvm.Pilot.@@N@@
open Jvm Jvm.ClassFile Sem Op Lib Jvm.Free Jvm.Stand Jvm.LawKit Jvm.RoadKit Jvm.OwnKit Bundle Jvm.Pilot.@@N@@.Jvm.D
theorem wd {a0 : Array Value} {Z : State} {d : Jvm.Cond} (hw : ∀ d ∈ tables_1, d.before a0 Z = true) (i : Nat) (h : tables_1[i]? = some d) : d.before a0 Z = true := hw d (List.mem_of_getElem? h)
theorem d1_0 : decode prog_15_method_1_code 0 = .ok (.aload_n 0, 1) := by decide +kernel
theorem d1_1 : decode prog_15_method_1_code 1 = .ok (.invokespecial 1, 3) := by decide +kernel
theorem d1_4 : decode prog_15_method_1_code 4 = .ok (.dload_n 1, 1) := by decide +kernel
theorem d1_5 : decode prog_15_method_1_code 5 = .ok (.invokestatic 7, 3) := by decide +kernel
theorem d1_8 : decode prog_15_method_1_code 8 = .ok (.ifCond .eq 10, 3) := by decide +kernel
theorem d1_11 : decode prog_15_method_1_code 11 = .ok (.dload_n 3, 1) := by decide +kernel
theorem d1_12 : decode prog_15_method_1_code 12 = .ok (.invokestatic 7, 3) := by decide +kernel
theorem d1_15 : decode prog_15_method_1_code 15 = .ok (.ifCond .ne 13, 3) := by decide +kernel
theorem d1_28 : decode prog_15_method_1_code 28 = .ok (.dload_n 1, 1) := by decide +kernel
theorem d1_29 : decode prog_15_method_1_code 29 = .ok (.dconst 0, 1) := by decide +kernel
theorem d1_30 : decode prog_15_method_1_code 30 = .ok (.dcmp .g, 1) := by decide +kernel
theorem d1_31 : decode prog_15_method_1_code 31 = .ok (.ifCond .lt 9, 3) := by decide +kernel
theorem d1_34 : decode prog_15_method_1_code 34 = .ok (.dload_n 3, 1) := by decide +kernel
theorem d1_35 : decode prog_15_method_1_code 35 = .ok (.dconst 0, 1) := by decide +kernel
theorem d1_36 : decode prog_15_method_1_code 36 = .ok (.dcmp .g, 1) := by decide +kernel
theorem d1_37 : decode prog_15_method_1_code 37 = .ok (.ifCond .ge 13, 3) := by decide +kernel
theorem d1_50 : decode prog_15_method_1_code 50 = .ok (.dload_n 1, 1) := by decide +kernel
theorem d1_51 : decode prog_15_method_1_code 51 = .ok (.dconst 0, 1) := by decide +kernel
theorem d1_52 : decode prog_15_method_1_code 52 = .ok (.dcmp .l, 1) := by decide +kernel
theorem d1_53 : decode prog_15_method_1_code 53 = .ok (.ifCond .ne 19, 3) := by decide +kernel
theorem d1_56 : decode prog_15_method_1_code 56 = .ok (.dload_n 3, 1) := by decide +kernel
theorem d1_57 : decode prog_15_method_1_code 57 = .ok (.dconst 0, 1) := by decide +kernel
theorem d1_58 : decode prog_15_method_1_code 58 = .ok (.dcmp .l, 1) := by decide +kernel
theorem d1_59 : decode prog_15_method_1_code 59 = .ok (.ifCond .ne 13, 3) := by decide +kernel
theorem d1_72 : decode prog_15_method_1_code 72 = .ok (.dload_n 1, 1) := by decide +kernel
theorem d1_73 : decode prog_15_method_1_code 73 = .ok (.dload_n 3, 1) := by decide +kernel
theorem d1_74 : decode prog_15_method_1_code 74 = .ok (.invokestatic 24, 3) := by decide +kernel
theorem d1_77 : decode prog_15_method_1_code 77 = .ok (.dstore 5, 2) := by decide +kernel
theorem d1_79 : decode prog_15_method_1_code 79 = .ok (.dload_n 1, 1) := by decide +kernel
theorem d1_80 : decode prog_15_method_1_code 80 = .ok (.dload 5, 2) := by decide +kernel
theorem d1_82 : decode prog_15_method_1_code 82 = .ok (.ddiv, 1) := by decide +kernel
theorem d1_83 : decode prog_15_method_1_code 83 = .ok (.dstore_n 1, 1) := by decide +kernel
theorem d1_84 : decode prog_15_method_1_code 84 = .ok (.dload_n 3, 1) := by decide +kernel
theorem d1_85 : decode prog_15_method_1_code 85 = .ok (.dload 5, 2) := by decide +kernel
theorem d1_87 : decode prog_15_method_1_code 87 = .ok (.ddiv, 1) := by decide +kernel
theorem d1_88 : decode prog_15_method_1_code 88 = .ok (.dstore_n 3, 1) := by decide +kernel
theorem d1_89 : decode prog_15_method_1_code 89 = .ok (.aload_n 0, 1) := by decide +kernel
theorem d1_90 : decode prog_15_method_1_code 90 = .ok (.dload_n 1, 1) := by decide +kernel
theorem d1_91 : decode prog_15_method_1_code 91 = .ok (.putfield 30, 3) := by decide +kernel
theorem d1_94 : decode prog_15_method_1_code 94 = .ok (.aload_n 0, 1) := by decide +kernel
theorem d1_95 : decode prog_15_method_1_code 95 = .ok (.dload_n 3, 1) := by decide +kernel
theorem d1_96 : decode prog_15_method_1_code 96 = .ok (.putfield 36, 3) := by decide +kernel
theorem d1_99 : decode prog_15_method_1_code 99 = .ok (.return_, 1) := by decide +kernel
theorem d2_0 : decode jdk_30_method_1_code 0 = .ok (.aload_n 0, 1) := by decide +kernel
theorem d2_1 : decode jdk_30_method_1_code 1 = .ok (.invokespecial 1, 3) := by decide +kernel
theorem d2_4 : decode jdk_30_method_1_code 4 = .ok (.return_, 1) := by decide +kernel
theorem d4_0 : decode jdk_117_method_8_code 0 = .ok (.dload_n 0, 1) := by decide +kernel
theorem d4_1 : decode jdk_117_method_8_code 1 = .ok (.invokestatic 38, 3) := by decide +kernel
theorem d4_4 : decode jdk_117_method_8_code 4 = .ok (.ldc2_w 111, 3) := by decide +kernel
theorem d4_7 : decode jdk_117_method_8_code 7 = .ok (.dcmp .g, 1) := by decide +kernel
theorem d4_8 : decode jdk_117_method_8_code 8 = .ok (.ifCond .gt 7, 3) := by decide +kernel
theorem d4_11 : decode jdk_117_method_8_code 11 = .ok (.iconst 1, 1) := by decide +kernel
theorem d4_12 : decode jdk_117_method_8_code 12 = .ok (.goto 4, 3) := by decide +kernel
theorem d4_16 : decode jdk_117_method_8_code 16 = .ok (.ireturn, 1) := by decide +kernel
theorem d7_0 : decode prog_15_method_3_code 0 = .ok (.aload_n 0, 1) := by decide +kernel
theorem d7_1 : decode prog_15_method_3_code 1 = .ok (.dload_n 1, 1) := by decide +kernel
theorem d7_2 : decode prog_15_method_3_code 2 = .ok (.dload_n 3, 1) := by decide +kernel
theorem d7_3 : decode prog_15_method_3_code 3 = .ok (.invokevirtual 39, 3) := by decide +kernel
theorem d7_6 : decode prog_15_method_3_code 6 = .ok (.dstore 11, 2) := by decide +kernel
theorem d7_8 : decode prog_15_method_3_code 8 = .ok (.aload_n 0, 1) := by decide +kernel
theorem d7_9 : decode prog_15_method_3_code 9 = .ok (.dload 5, 2) := by decide +kernel
theorem d7_11 : decode prog_15_method_3_code 11 = .ok (.dload 7, 2) := by decide +kernel
theorem d7_13 : decode prog_15_method_3_code 13 = .ok (.invokevirtual 39, 3) := by decide +kernel
theorem d7_16 : decode prog_15_method_3_code 16 = .ok (.dstore 13, 2) := by decide +kernel
theorem d7_18 : decode prog_15_method_3_code 18 = .ok (.dload 9, 2) := by decide +kernel
theorem d7_20 : decode prog_15_method_3_code 20 = .ok (.dload 13, 2) := by decide +kernel
theorem d7_22 : decode prog_15_method_3_code 22 = .ok (.dmul, 1) := by decide +kernel
theorem d7_23 : decode prog_15_method_3_code 23 = .ok (.dstore 15, 2) := by decide +kernel
theorem d7_25 : decode prog_15_method_3_code 25 = .ok (.dload 9, 2) := by decide +kernel
theorem d7_27 : decode prog_15_method_3_code 27 = .ok (.dload 5, 2) := by decide +kernel
theorem d7_29 : decode prog_15_method_3_code 29 = .ok (.dmul, 1) := by decide +kernel
theorem d7_30 : decode prog_15_method_3_code 30 = .ok (.dstore 17, 2) := by decide +kernel
theorem d7_32 : decode prog_15_method_3_code 32 = .ok (.dload 11, 2) := by decide +kernel
theorem d7_34 : decode prog_15_method_3_code 34 = .ok (.dload 13, 2) := by decide +kernel
theorem d7_36 : decode prog_15_method_3_code 36 = .ok (.dload 15, 2) := by decide +kernel
theorem d7_38 : decode prog_15_method_3_code 38 = .ok (.dsub, 1) := by decide +kernel
theorem d7_39 : decode prog_15_method_3_code 39 = .ok (.dcmp .g, 1) := by decide +kernel
theorem d7_40 : decode prog_15_method_3_code 40 = .ok (.ifCond .lt 14, 3) := by decide +kernel
theorem d7_43 : decode prog_15_method_3_code 43 = .ok (.dload 11, 2) := by decide +kernel
theorem d7_45 : decode prog_15_method_3_code 45 = .ok (.dload 13, 2) := by decide +kernel
theorem d7_47 : decode prog_15_method_3_code 47 = .ok (.dload 15, 2) := by decide +kernel
theorem d7_49 : decode prog_15_method_3_code 49 = .ok (.dadd, 1) := by decide +kernel
theorem d7_50 : decode prog_15_method_3_code 50 = .ok (.dcmp .l, 1) := by decide +kernel
theorem d7_51 : decode prog_15_method_3_code 51 = .ok (.ifCond .le 21, 3) := by decide +kernel
theorem d7_54 : decode prog_15_method_3_code 54 = .ok (.dload 11, 2) := by decide +kernel
theorem d7_56 : decode prog_15_method_3_code 56 = .ok (.dload 13, 2) := by decide +kernel
theorem d7_58 : decode prog_15_method_3_code 58 = .ok (.dcmp .g, 1) := by decide +kernel
theorem d7_59 : decode prog_15_method_3_code 59 = .ok (.ifCond .ge 7, 3) := by decide +kernel
theorem d7_62 : decode prog_15_method_3_code 62 = .ok (.iconst 1, 1) := by decide +kernel
theorem d7_63 : decode prog_15_method_3_code 63 = .ok (.goto 4, 3) := by decide +kernel
theorem d7_66 : decode prog_15_method_3_code 66 = .ok (.iconst 0, 1) := by decide +kernel
theorem d7_67 : decode prog_15_method_3_code 67 = .ok (.istore 19, 2) := by decide +kernel
theorem d7_69 : decode prog_15_method_3_code 69 = .ok (.goto 54, 3) := by decide +kernel
theorem d7_72 : decode prog_15_method_3_code 72 = .ok (.dload_n 1, 1) := by decide +kernel
theorem d7_73 : decode prog_15_method_3_code 73 = .ok (.dload 5, 2) := by decide +kernel
theorem d7_75 : decode prog_15_method_3_code 75 = .ok (.dload 17, 2) := by decide +kernel
theorem d7_77 : decode prog_15_method_3_code 77 = .ok (.dsub, 1) := by decide +kernel
theorem d7_78 : decode prog_15_method_3_code 78 = .ok (.dcmp .g, 1) := by decide +kernel
theorem d7_79 : decode prog_15_method_3_code 79 = .ok (.ifCond .lt 13, 3) := by decide +kernel
theorem d7_82 : decode prog_15_method_3_code 82 = .ok (.dload_n 1, 1) := by decide +kernel
theorem d7_83 : decode prog_15_method_3_code 83 = .ok (.dload 5, 2) := by decide +kernel
theorem d7_85 : decode prog_15_method_3_code 85 = .ok (.dload 17, 2) := by decide +kernel
theorem d7_87 : decode prog_15_method_3_code 87 = .ok (.dadd, 1) := by decide +kernel
theorem d7_88 : decode prog_15_method_3_code 88 = .ok (.dcmp .l, 1) := by decide +kernel
theorem d7_89 : decode prog_15_method_3_code 89 = .ok (.ifCond .le 20, 3) := by decide +kernel
theorem d7_92 : decode prog_15_method_3_code 92 = .ok (.dload_n 1, 1) := by decide +kernel
theorem d7_93 : decode prog_15_method_3_code 93 = .ok (.dload 5, 2) := by decide +kernel
theorem d7_95 : decode prog_15_method_3_code 95 = .ok (.dcmp .g, 1) := by decide +kernel
theorem d7_96 : decode prog_15_method_3_code 96 = .ok (.ifCond .ge 7, 3) := by decide +kernel
theorem d7_99 : decode prog_15_method_3_code 99 = .ok (.iconst 1, 1) := by decide +kernel
theorem d7_100 : decode prog_15_method_3_code 100 = .ok (.goto 4, 3) := by decide +kernel
theorem d7_103 : decode prog_15_method_3_code 103 = .ok (.iconst 0, 1) := by decide +kernel
theorem d7_104 : decode prog_15_method_3_code 104 = .ok (.istore 19, 2) := by decide +kernel
theorem d7_106 : decode prog_15_method_3_code 106 = .ok (.goto 17, 3) := by decide +kernel
theorem d7_109 : decode prog_15_method_3_code 109 = .ok (.dload_n 3, 1) := by decide +kernel
theorem d7_110 : decode prog_15_method_3_code 110 = .ok (.dload 7, 2) := by decide +kernel
theorem d7_112 : decode prog_15_method_3_code 112 = .ok (.dcmp .g, 1) := by decide +kernel
theorem d7_113 : decode prog_15_method_3_code 113 = .ok (.ifCond .ge 7, 3) := by decide +kernel
theorem d7_116 : decode prog_15_method_3_code 116 = .ok (.iconst 1, 1) := by decide +kernel
theorem d7_117 : decode prog_15_method_3_code 117 = .ok (.goto 4, 3) := by decide +kernel
theorem d7_120 : decode prog_15_method_3_code 120 = .ok (.iconst 0, 1) := by decide +kernel
theorem d7_121 : decode prog_15_method_3_code 121 = .ok (.istore 19, 2) := by decide +kernel
theorem d7_123 : decode prog_15_method_3_code 123 = .ok (.iload 19, 2) := by decide +kernel
theorem d7_125 : decode prog_15_method_3_code 125 = .ok (.ireturn, 1) := by decide +kernel
theorem d8_0 : decode prog_15_method_2_code 0 = .ok (.aload_n 0, 1) := by decide +kernel
theorem d8_1 : decode prog_15_method_2_code 1 = .ok (.getfield 30, 3) := by decide +kernel
theorem d8_4 : decode prog_15_method_2_code 4 = .ok (.dload_n 1, 1) := by decide +kernel
theorem d8_5 : decode prog_15_method_2_code 5 = .ok (.dmul, 1) := by decide +kernel
theorem d8_6 : decode prog_15_method_2_code 6 = .ok (.aload_n 0, 1) := by decide +kernel
theorem d8_7 : decode prog_15_method_2_code 7 = .ok (.getfield 36, 3) := by decide +kernel
theorem d8_10 : decode prog_15_method_2_code 10 = .ok (.dload_n 3, 1) := by decide +kernel
theorem d8_11 : decode prog_15_method_2_code 11 = .ok (.dmul, 1) := by decide +kernel
theorem d8_12 : decode prog_15_method_2_code 12 = .ok (.dadd, 1) := by decide +kernel
theorem d8_13 : decode prog_15_method_2_code 13 = .ok (.dreturn, 1) := by decide +kernel
theorem d9_0 : decode jdk_29_method_61_code 0 = .ok (.lload_n 0, 1) := by decide +kernel
theorem d9_1 : decode jdk_29_method_61_code 1 = .ok (.lconst 0, 1) := by decide +kernel
theorem d9_2 : decode jdk_29_method_61_code 2 = .ok (.lcmp, 1) := by decide +kernel
theorem d9_3 : decode jdk_29_method_61_code 3 = .ok (.ifCond .ge 8, 3) := by decide +kernel
theorem d9_6 : decode jdk_29_method_61_code 6 = .ok (.lload_n 0, 1) := by decide +kernel
theorem d9_7 : decode jdk_29_method_61_code 7 = .ok (.lneg, 1) := by decide +kernel
theorem d9_8 : decode jdk_29_method_61_code 8 = .ok (.goto 4, 3) := by decide +kernel
theorem d9_11 : decode jdk_29_method_61_code 11 = .ok (.lload_n 0, 1) := by decide +kernel
theorem d9_12 : decode jdk_29_method_61_code 12 = .ok (.lreturn, 1) := by decide +kernel
theorem pd_0 : parseMethodDescriptor "(D)D" = some ⟨[.double], some .double⟩ := by decide +kernel
theorem pd_1 : parseMethodDescriptor "()V" = some ⟨[], none⟩ := by decide +kernel
theorem pd_2 : parseMethodDescriptor "(D)Z" = some ⟨[.double], some .boolean⟩ := by decide +kernel
theorem pd_3 : parseMethodDescriptor "(DD)D" = some ⟨[.double, .double], some .double⟩ := by decide +kernel
theorem pd_4 : parseMethodDescriptor "(DD)V" = some ⟨[.double, .double], none⟩ := by decide +kernel
theorem pd_5 : parseMethodDescriptor "(DDDDD)Z" = some ⟨[.double, .double, .double, .double, .double], some .boolean⟩ := by decide +kernel
theorem pd_6 : parseMethodDescriptor "(J)J" = some ⟨[.long], some .long⟩ := by decide +kernel
section OwnPlain0
open Jvm.OwnFl Jvm.Native.java_lang_Math.nans
theorem own_z : DV 0 0 := lit_DV (s := false) (c := 0) (q := -1074) (by decide +kernel) (by decide +kernel)
theorem own_1 : DV 4607182418800017408 1 := lit_DV (s := false) (c := 2 ^ 52) (q := -52) (by decide +kernel) (by decide +kernel)
theorem own_fin {g : UInt64} (h : Jvm.Free.Fl.Fin64 g) : FP.dcmp (g &&& 0x7fffffffffffffff) 9218868437227405311 = some .lt ∨ FP.dcmp (g &&& 0x7fffffffffffffff) 9218868437227405311 = some .eq := by
  have hf := Jvm.Free.Fl.fin64_core.mp h
  have hn : Jvm.FP.Core.dIsNaN g = false := by
    rw [Jvm.FP.Core.notNaN_iff]
    exact hf.ne_nan
  exact (Jvm.FP.Core.le_max hn).mpr hf
theorem own_max {a b : UInt64} {x y : Rat} (ha : DV a x) (hb : DV b y) (h : y ≤ x) : DV (pick64 true a b) x := by
  unfold pick64
  rcases dcmp_ge ha hb h with q | q
  · rw [q]; exact ha
  · have e : x = y := by
      have z := dcmp_of ha hb
      rw [show Jvm.FP.Core.dcmp a b = _ from q] at z
      by_cases c : x = y
      · exact c
      · rw [if_neg (by rw [Rat.not_lt]; exact h), if_neg c] at z; cases z
    rw [q]
    simp only
    split
    · rw [e]; exact hb
    · exact ha
theorem own_max' {a b : UInt64} {x y : Rat} (ha : DV a x) (hb : DV b y) (h : x ≤ y) : DV (pick64 true a b) y := by
  unfold pick64
  rcases dcmp_le ha hb h with q | q
  · rw [q]; exact hb
  · have e : x = y := by
      have z := dcmp_of ha hb
      rw [show Jvm.FP.Core.dcmp a b = _ from q] at z
      by_cases c : x = y
      · exact c
      · rw [if_neg c] at z; split at z <;> cases z
    rw [q]
    simp only
    split
    · exact hb
    · rw [← e]; exact ha
/-- weights in 128ths -/
theorem own_score {p q M C : Int} (p0 : 0 ≤ p) (p1 : p ≤ 128) (q0 : 0 ≤ q) (q1 : q ≤ 128) {t1 c1 mk ct : UInt64} (ht : DV t1 ((p : Rat) / 128)) (hc : DV c1 ((q : Rat) / 128)) (hm : DV mk (M : Rat)) (hk : DV ct (C : Rat)) (hm1 : -2147483648 ≤ M) (hm2 : M ≤ 2147483648) (hc1 : -2147483648 ≤ C) (hc2 : C ≤ 2147483648) :
    DV (FP.dmul t1 mk) (((p * M : Int) : Rat) / 128) ∧ DV (FP.dmul c1 ct) (((q * C : Int) : Rat) / 128) ∧ DV (FP.dadd (FP.dmul t1 mk) (FP.dmul c1 ct)) (((p * M + q * C : Int) : Rat) / 128) := by
  have r : ∀ n : Int, -9007199254740992 ≤ n → n ≤ 9007199254740992 → Rp ((n : Rat) / 128) ∧ -9007199254740992 ≤ (n : Rat) / 128 ∧ (n : Rat) / 128 ≤ 9007199254740992 := by
    intro n h1 h2
    have b1 : (-9007199254740992 : Rat) ≤ (n : Rat) := by have := Rat.intCast_le_intCast.mpr h1; simpa using this
    have b2 : (n : Rat) ≤ 9007199254740992 := by have := Rat.intCast_le_intCast.mpr h2; simpa using this
    have e : (n : Rat) / 128 = (n : Rat) * (1 / 128) := by rw [Rat.div_def, Rat.div_def, Rat.one_mul]
    refine ⟨⟨n, -7, by rw [e]; congr 1 <;> decide +kernel, by omega, by decide⟩, ?_, ?_⟩ <;> rw [e] <;> grind
  have bnd : ∀ p M : Int, 0 ≤ p → p ≤ 128 → -2147483648 ≤ M → M ≤ 2147483648 → -274877906944 ≤ p * M ∧ p * M ≤ 274877906944 := by
    intro p M a b c d
    have := mc (a := p) (b := M) (l1 := 0) (h1 := 128) (l2 := -2147483648) (h2 := 2147483648) a b c d
    omega
  obtain ⟨km1, km2⟩ := bnd p M p0 p1 hm1 hm2
  obtain ⟨kc1, kc2⟩ := bnd q C q0 q1 hc1 hc2
  obtain ⟨a1, a2, a3⟩ := r (p * M) (by omega) (by omega)
  obtain ⟨b1, b2, b3⟩ := r (q * C) (by omega) (by omega)
  obtain ⟨s1, s2, s3⟩ := r (p * M + q * C) (by omega) (by omega)
  have e1 : (p : Rat) / 128 * (M : Rat) = ((p * M : Int) : Rat) / 128 := by rw [Rat.intCast_mul, Rat.div_def, Rat.div_def]; grind
  have e2 : (q : Rat) / 128 * (C : Rat) = ((q * C : Int) : Rat) / 128 := by rw [Rat.intCast_mul, Rat.div_def, Rat.div_def]; grind
  have d1 := dmul_DV ht hm (by rw [e1]; grind) (by rw [e1]; grind)
  have d2 := dmul_DV hc hk (by rw [e2]; grind) (by rw [e2]; grind)
  rw [e1, RR_exact a1 (by grind) (by grind)] at d1
  rw [e2, RR_exact b1 (by grind) (by grind)] at d2
  have e3 : ((p * M : Int) : Rat) / 128 + ((q * C : Int) : Rat) / 128 = ((p * M + q * C : Int) : Rat) / 128 := by rw [Rat.intCast_add, Rat.div_def, Rat.div_def, Rat.div_def]; grind
  have d3 := dadd_DV d1 d2 (by rw [e3]; grind) (by rw [e3]; grind)
  rw [e3, RR_exact s1 (by grind) (by grind)] at d3
  exact ⟨d1, d2, d3⟩
/-- a quotient of two whole numbers in 128ths -/
theorem own_quot {a b : UInt64} {x y p : Int} (ha : DV a (x : Rat)) (hb : DV b (y : Rat)) (hy : 0 < y) (h : x * 128 = p * y) (p0 : 0 ≤ p) (p1 : p ≤ 128) : DV (FP.ddiv a b) ((p : Rat) / 128) := by
  have hyr : (0 : Rat) < (y : Rat) := Rat.intCast_pos.mpr hy
  have e : (x : Rat) / (y : Rat) = (p : Rat) / 128 := by
    have h' : (x : Rat) * 128 = (p : Rat) * (y : Rat) := by
      have := congrArg (fun z : Int => (z : Rat)) h
      simp only [Rat.intCast_mul] at this
      exact this
    have h2 := Rat.div_mul_cancel (a := (x : Rat)) (Rat.ne_of_gt hyr)
    have h3 := Rat.div_mul_cancel (a := (p : Rat)) (b := 128) (by decide)
    generalize (x : Rat) / (y : Rat) = u at *
    generalize (p : Rat) / 128 = w at *
    have z : (u - w) * (y : Rat) = 0 := by grind
    rcases Rat.mul_eq_zero.mp z with g | g
    · grind
    · exact absurd g (Rat.ne_of_gt hyr)
  have b1 : (0 : Rat) ≤ (p : Rat) := Rat.intCast_nonneg.mpr p0
  have b2 : (p : Rat) ≤ 128 := by have := Rat.intCast_le_intCast.mpr p1; simpa using this
  have e2 : (p : Rat) / 128 = (p : Rat) * (1 / 128) := by rw [Rat.div_def, Rat.div_def, Rat.one_mul]
  have d := ddiv_DV ha hb (Rat.ne_of_gt hyr) (by rw [e, e2]; grind) (by rw [e, e2]; grind)
  rw [e, RR_exact ⟨p, -7, by rw [e2]; congr 1 <;> decide +kernel, by omega, by decide⟩ (by rw [e2]; grind) (by rw [e2]; grind)] at d
  exact d
/-- what the law's four roads need of the weights -/
theorem own_weights {tw cw lg t1 c1 : UInt64} {x y g p q : Int} (ht : DV tw (x : Rat)) (hc : DV cw (y : Rat)) (x0 : 0 ≤ x) (y0 : 0 ≤ y) (hg : (x ≤ y ∧ g = y) ∨ (y ≤ x ∧ g = x)) (g0 : 0 < g) (hp : x * 128 = p * g) (hq : y * 128 = q * g) (p0 : 0 ≤ p) (p1 : p ≤ 128) (q0 : 0 ≤ q) (q1 : q ≤ 128)
    (hlg : pick64 true tw cw = lg) (ht1 : FP.ddiv tw lg = t1) (hc1 : FP.ddiv cw lg = c1) :
    Jvm.Free.Fl.Fin64 tw ∧ Jvm.Free.Fl.Fin64 cw ∧ (FP.dcmp tw 0 = some .gt ∨ FP.dcmp tw 0 = some .eq) ∧ (FP.dcmp cw 0 = some .gt ∨ FP.dcmp cw 0 = some .eq) ∧ (FP.dcmp tw 0 = some .gt ∨ FP.dcmp tw 0 = some .eq ∧ FP.dcmp cw 0 = some .gt) ∧ DV t1 ((p : Rat) / 128) ∧ DV c1 ((q : Rat) / 128) := by
  have xr : (0 : Rat) ≤ (x : Rat) := Rat.intCast_nonneg.mpr x0
  have yr : (0 : Rat) ≤ (y : Rat) := Rat.intCast_nonneg.mpr y0
  have dg : DV lg (g : Rat) := by
    rcases hg with ⟨h, rfl⟩ | ⟨h, rfl⟩
    · rw [← hlg]; exact own_max' ht hc (Rat.intCast_le_intCast.mpr h)
    · rw [← hlg]; exact own_max ht hc (Rat.intCast_le_intCast.mpr h)
  refine ⟨ht.fin, hc.fin, dcmp_ge ht own_z xr, dcmp_ge hc own_z yr, ?_, by rw [← ht1]; exact own_quot ht dg g0 hp p0 p1, by rw [← hc1]; exact own_quot hc dg g0 hq q0 q1⟩
  by_cases c : x = 0
  · right
    have : 0 < y := by omega
    exact ⟨dcmp_eq ht own_z (by rw [c]; rfl), dcmp_gt hc own_z (Rat.intCast_pos.mpr this)⟩
  · left
    exact dcmp_gt ht own_z (Rat.intCast_pos.mpr (by omega))
theorem own_128 (n : Int) : ((128 * n : Int) : Rat) / 128 = (n : Rat) := by
  rw [Rat.intCast_mul, Rat.div_def, show ((128 : Int) : Rat) = 128 from rfl]
  have : (128 : Rat) * (128 : Rat)⁻¹ = 1 := by decide +kernel
  grind
end OwnPlain0

section OwnPlain
open Jvm.OwnFl
theorem own_q : DV 4598175219545276416 (1 / 4) := lit_DV (s := false) (c := 2 ^ 52) (q := -54) (by decide +kernel) (by decide +kernel)
theorem own_cast {v : UInt64} {a b : Int} {m n : Int} (hm : 0 < m) (hn : 0 < n) (h : DV v ((a : Rat) / (m : Rat))) (e : a * n = b * m) : DV v ((b : Rat) / (n : Rat)) := by
  refine h.cast ?_
  have hm' : (0 : Rat) < (m : Rat) := Rat.intCast_pos.mpr hm
  have hn' : (0 : Rat) < (n : Rat) := Rat.intCast_pos.mpr hn
  have e' : (a : Rat) * (n : Rat) = (b : Rat) * (m : Rat) := by
    have := congrArg (fun z : Int => (z : Rat)) e
    simp only [Rat.intCast_mul] at this
    exact this
  have k1 := Rat.div_mul_cancel (a := (a : Rat)) (Rat.ne_of_gt hm')
  have k2 := Rat.div_mul_cancel (a := (b : Rat)) (Rat.ne_of_gt hn')
  generalize (a : Rat) / (m : Rat) = x at *
  generalize (b : Rat) / (n : Rat) = y at *
  have z : (x - y) * ((m : Rat) * (n : Rat)) = 0 := by grind
  rcases Rat.mul_eq_zero.mp z with g | g
  · grind
  · rcases Rat.mul_eq_zero.mp g with g | g
    · exact absurd g (Rat.ne_of_gt hm')
    · exact absurd g (Rat.ne_of_gt hn')
/-- everything in 16ths -/
theorem own_16 {n : Int} (h1 : -4294967296 ≤ n) (h2 : n ≤ 4294967296) : Rp ((n : Rat) / 16) ∧ (n : Rat) / 16 = (n : Rat) * (1 / 16) ∧ -4294967296 ≤ (n : Rat) ∧ (n : Rat) ≤ 4294967296 := by
  have e : (n : Rat) / 16 = (n : Rat) * (1 / 16) := by rw [Rat.div_def, Rat.div_def, Rat.one_mul]
  have b1 : (-4294967296 : Rat) ≤ (n : Rat) := by have := Rat.intCast_le_intCast.mpr h1; simpa using this
  have b2 : (n : Rat) ≤ 4294967296 := by have := Rat.intCast_le_intCast.mpr h2; simpa using this
  exact ⟨⟨n, -4, by rw [e]; congr 1 <;> decide +kernel, by omega, by decide⟩, e, b1, b2⟩
theorem own_add {x y : UInt64} {a b : Int} (hx : DV x ((a : Rat) / 16)) (hy : DV y ((b : Rat) / 16)) (h1 : -4294967296 ≤ a + b) (h2 : a + b ≤ 4294967296) : DV (FP.dadd x y) (((a + b : Int) : Rat) / 16) := by
  obtain ⟨r, e, b1, b2⟩ := own_16 h1 h2
  have e2 : (a : Rat) / 16 + (b : Rat) / 16 = ((a + b : Int) : Rat) / 16 := by rw [Rat.intCast_add, Rat.div_def, Rat.div_def, Rat.div_def]; grind
  have q := dadd_DV hx hy (by rw [e2, e]; grind) (by rw [e2, e]; grind)
  rwa [e2, RR_exact r (by rw [e]; grind) (by rw [e]; grind)] at q
theorem own_sub {x y : UInt64} {a b : Int} (hx : DV x ((a : Rat) / 16)) (hy : DV y ((b : Rat) / 16)) (h1 : -4294967296 ≤ a - b) (h2 : a - b ≤ 4294967296) : DV (FP.dsub x y) (((a - b : Int) : Rat) / 16) := by
  obtain ⟨r, e, b1, b2⟩ := own_16 h1 h2
  have e2 : (a : Rat) / 16 - (b : Rat) / 16 = ((a - b : Int) : Rat) / 16 := by rw [Rat.intCast_sub, Rat.div_def, Rat.div_def, Rat.div_def]; grind
  have q := dsub_DV hx hy (by rw [e2, e]; grind) (by rw [e2, e]; grind)
  rwa [e2, RR_exact r (by rw [e]; grind) (by rw [e]; grind)] at q
/-- a quarter-count times a quarter-count -/
theorem own_mul {x y : UInt64} {a b : Int} (hx : DV x ((a : Rat) / 4)) (hy : DV y ((b : Rat) / 4)) (h1 : -4294967296 ≤ a * b) (h2 : a * b ≤ 4294967296) : DV (FP.dmul x y) (((a * b : Int) : Rat) / 16) := by
  obtain ⟨r, e, b1, b2⟩ := own_16 h1 h2
  have e2 : (a : Rat) / 4 * ((b : Rat) / 4) = ((a * b : Int) : Rat) / 16 := by
    rw [Rat.intCast_mul, Rat.div_def, Rat.div_def, Rat.div_def]
    have : (4 : Rat)⁻¹ * 4⁻¹ = 16⁻¹ := by decide +kernel
    grind
  have q := dmul_DV hx hy (by rw [e2, e]; grind) (by rw [e2, e]; grind)
  rwa [e2, RR_exact r (by rw [e]; grind) (by rw [e]; grind)] at q
theorem own_lt {x y : UInt64} {a b : Int} (hx : DV x ((a : Rat) / 16)) (hy : DV y ((b : Rat) / 16)) : (a < b → FP.dcmp x y = some .lt) ∧ (¬ a < b → FP.dcmp x y = some .gt ∨ FP.dcmp x y = some .eq) ∧ (b < a → FP.dcmp x y = some .gt) ∧ (¬ b < a → FP.dcmp x y = some .lt ∨ FP.dcmp x y = some .eq) := by
  have m : ∀ a b : Int, a ≤ b → (a : Rat) / 16 ≤ (b : Rat) / 16 := by
    intro a b h
    have := Rat.intCast_le_intCast.mpr h
    rw [Rat.div_def, Rat.div_def]
    exact Rat.mul_le_mul_of_nonneg_right this (by decide +kernel)
  have s : ∀ a b : Int, a < b → (a : Rat) / 16 < (b : Rat) / 16 := by
    intro a b h
    have := Rat.intCast_lt_intCast.mpr h
    rw [Rat.div_def, Rat.div_def]
    exact Rat.mul_lt_mul_of_pos_right this (by decide +kernel)
  exact ⟨fun h => dcmp_lt hx hy (s _ _ h), fun h => dcmp_ge hx hy (m _ _ (by omega)), fun h => dcmp_gt hx hy (s _ _ h), fun h => dcmp_le hx hy (m _ _ (by omega))⟩
theorem own_d1 (n : Int) : (n : Rat) = (n : Rat) / ((1 : Int) : Rat) := by
  rw [show ((1 : Int) : Rat) = 1 from rfl, Rat.div_def, show (1 : Rat)⁻¹ = 1 by decide +kernel, Rat.mul_one]
theorem own_one {v : UInt64} {n : Int} (h : DV v (n : Rat)) : DV v (((16 * n : Int) : Rat) / 16) ∧ DV v (((4 * n : Int) : Rat) / 4) :=
  ⟨own_cast (a := n) (m := 1) (n := 16) (by decide) (by decide) (h.cast (own_d1 n)) (by omega), own_cast (a := n) (m := 1) (n := 4) (by decide) (by decide) (h.cast (own_d1 n)) (by omega)⟩
end OwnPlain
def Q_rmRec (Z : State) (a : Addr) (h0 : Heap) (n0 : Nat) (v : Option Value) (h : Heap) (L : List Loc) : Prop := v = none ∧ Fr n0 L ∧ h = h0
set_option maxRecDepth 65536 in
set_option maxHeartbeats 40000000 in
theorem rmRec (l : Launch) (Z : State) (a0 : Array Value) (hw : ∀ d ∈ tables_1, d.before a0 Z = true) (ws : List Jvm.Cond) (a : Addr) (h0 : Heap) (n0 : Nat) (Zs : n0 ≤ h0.size)  :
    Con l (⟨"java/lang/Record", "<init>", "()V"⟩ : MethodName) jdk_30_method_1_code 1 none ws ({ frames := 1, cells := 0, slots := 0, locals := 12 } : Room) Z #[(.ref a)] h0 ({ frames := 1, cells := 0, slots := 0, locals := 12 } : Room).cells ({ frames := 1, cells := 0, slots := 0, locals := 12 } : Room).slots (Q_rmRec Z a h0 n0) := by
  refine Con.of (Ls := #[.val (.ref a)]) (plainFor_of_name (by first | (simp [plainName, overriddenIn]; done) | decide +kernel)) (fun m => by first | (simp [entryFrame, mkF, argsToLocals, Value.category]; done) | rfl) ?_
  intro p e s m below meth c s₁ G hGe hG hx hby hml hown hnm hrt hlk hZ X0 e0
  have hown : s.vm.findClass "java/lang/Record" = some m.cls := hown
  have hnm : meth.name = "<init>" := hnm
  have NF0 := Fr.nil n0
  refine g_aloadN hG X0 hx (hb hby d2_0) (pc' := 1) rfl rfl rfl ?_
  show G (s₁.setTop (mkF m 1 #[.val (.ref a)] [(.ref a)]))
  refine g_initO hG X0 hx hZ hown (wd hw 13 rfl) (wd hw 14 rfl) (wd hw 15 rfl) e0 (by rw [hml]; rfl) (hb hby d2_1) (by decide) (by decide) (pc' := 4) rfl ?_
  intro T1 X1 e1
  show G (T1.setTop (mkF m 4 #[.val (.ref a)] []))
  exact e_ret0 hGe X1 hx hrt hlk (hb hby d2_4) e1 (by decide) (by decide) (⟨rfl, NF0, rfl⟩)

def Q_rmFin (Z : State) (g : UInt64) (h0 : Heap) (n0 : Nat) (v : Option Value) (h : Heap) (L : List Loc) : Prop := v = some (.int 1) ∧ Fr n0 L ∧ h = h0
set_option maxRecDepth 65536 in
set_option maxHeartbeats 40000000 in
theorem rmFin (l : Launch) (Z : State) (a0 : Array Value) (hw : ∀ d ∈ tables_1, d.before a0 Z = true) (ws : List Jvm.Cond) (g : UInt64) (h0 : Heap) (n0 : Nat) (Zs : n0 ≤ h0.size) (hf : Jvm.Free.Fl.Fin64 g) :
    Con l (⟨"java/lang/Double", "isFinite", "(D)Z"⟩ : MethodName) jdk_117_method_8_code 2 (some .boolean) ws ({ frames := 1, cells := 0, slots := 0, locals := 16 } : Room) Z #[(.double g)] h0 ({ frames := 1, cells := 0, slots := 0, locals := 16 } : Room).cells ({ frames := 1, cells := 0, slots := 0, locals := 16 } : Room).slots (Q_rmFin Z g h0 n0) := by
  refine Con.of (Ls := #[.val (.double g), .second]) (by decide +kernel) (fun m => by first | (simp [entryFrame, mkF, argsToLocals, Value.category]; done) | rfl) ?_
  intro p e s m below meth c s₁ G hGe hG hx hby hml hown hnm hrt hlk hZ X0 e0
  have hown : s.vm.findClass "java/lang/Double" = some m.cls := hown
  have hnm : meth.name = "isFinite" := hnm
  have NF0 := Fr.nil n0
  refine g_dloadN hG X0 hx (hb hby d4_0) (pc' := 1) rfl rfl ?_
  show G (s₁.setTop (mkF m 1 #[.val (.double g), .second] [(.double g)]))
  refine g_natS hG X0 hx hZ (y := (⟨"java/lang/Math", "abs", "(D)D"⟩ : MethodName)) (val := (.double (g &&& 0x7fffffffffffffff))) 0 hown (wd hw 20 rfl) (wd hw 21 rfl) (wd hw 22 rfl) (wd hw 23 rfl) (by decide) (fun hc => Jvm.Free.Fl.Abs.absD_pays g hc (by decide) (by decide)) (by rw [hml]; rfl) pd_0 rfl (argsL := [(.double g)]) (rest := []) rfl (Nat.le_of_eq rfl) (hb hby d4_1) e0 (by decide) (by decide) (⟨rfl, hf.noNaN⟩) (pc' := 4) rfl ?_
  intro T1 X1 e1
  show G (T1.setTop (mkF m 4 #[.val (.double g), .second] [(.double (g &&& 0x7fffffffffffffff))]))
  refine g_ldcDouble hG X1 hx hZ hown (wd hw 24 rfl) (hb hby d4_4) (pc' := 7) rfl ?_
  show G (T1.setTop (mkF m 7 #[.val (.double g), .second] [(.double 9218868437227405311), (.double (g &&& 0x7fffffffffffffff))]))
  obtain ⟨v7, q7⟩ : ∃ zz : Int32, cmpValue (FP.dcmp (g &&& 0x7fffffffffffffff) (9218868437227405311 : UInt64)) .g = zz := ⟨_, rfl⟩
  refine g_dcmp hG X1 hx (hb hby d4_7) (pc' := 8) rfl q7 ?_
  show G (T1.setTop (mkF m 8 #[.val (.double g), .second] [(.int v7)]))
  refine g_ifNo hG X1 hx (hb hby d4_8) (pc' := 11) (by rcases own_fin hf with q | q <;> rw [← q7, q] <;> rfl) rfl ?_
  show G (T1.setTop (mkF m 11 #[.val (.double g), .second] []))
  refine g_iconst hG X1 hx (hb hby d4_11) (pc' := 12) rfl (v := (1 : Int32)) rfl ?_
  show G (T1.setTop (mkF m 12 #[.val (.double g), .second] [(.int 1)]))
  refine g_goto hG X1 hx (hb hby d4_12) (pc' := 16) (by decide) (by decide) ?_
  show G (T1.setTop (mkF m 16 #[.val (.double g), .second] [(.int 1)]))
  exact e_retZ hGe X1 hx hrt hlk (hb hby d4_16) (Or.inr rfl) e1 (by decide) (by decide) (⟨rfl, NF0, rfl⟩)

def Q_rmObj (Z : State) (a : Addr) (tw cw lg t1 c1 : UInt64) (h0 : Heap) (n0 : Nat) (v : Option Value) (h : Heap) (L : List Loc) : Prop := v = none ∧ Fr n0 L ∧ Keep h0 h [a] ∧ Exa Z h a "com/example/ganttwright/ganttwright/Objective" ∧ Fld Z h a "com/example/ganttwright/ganttwright/Objective" "timeWeight" "D" (.double t1) ∧ Fld Z h a "com/example/ganttwright/ganttwright/Objective" "costWeight" "D" (.double c1)
set_option maxRecDepth 65536 in
set_option maxHeartbeats 40000000 in
theorem rmObj (l : Launch) (Z : State) (a0 : Array Value) (hw : ∀ d ∈ tables_1, d.before a0 Z = true) (ws : List Jvm.Cond) (a : Addr) (tw cw lg t1 c1 : UInt64) (h0 : Heap) (n0 : Nat) (Zs : n0 ≤ h0.size) (ga : n0 ≤ a) (f1 : Jvm.Free.Fl.Fin64 tw) (f2 : Jvm.Free.Fl.Fin64 cw) (g1 : FP.dcmp tw 0 = some .gt ∨ FP.dcmp tw 0 = some .eq) (g2 : FP.dcmp cw 0 = some .gt ∨ FP.dcmp cw 0 = some .eq) (g3 : FP.dcmp tw 0 = some .gt ∨ FP.dcmp tw 0 = some .eq ∧ FP.dcmp cw 0 = some .gt) (hlg : Jvm.Native.java_lang_Math.nans.pick64 true tw cw = lg) (ht1 : FP.ddiv tw lg = t1) (hc1 : FP.ddiv cw lg = c1) (n1 : Jvm.Free.Fl.NoNaN64 t1) (n2 : Jvm.Free.Fl.NoNaN64 c1) (Ex_a : Exa Z h0 a "com/example/ganttwright/ganttwright/Objective") (F_timeWeight_a : Fld Z h0 a "com/example/ganttwright/ganttwright/Objective" "timeWeight" "D" (.double (0 : UInt64))) (F_costWeight_a : Fld Z h0 a "com/example/ganttwright/ganttwright/Objective" "costWeight" "D" (.double (0 : UInt64))) :
    Con l (⟨"com/example/ganttwright/ganttwright/Objective", "<init>", "(DD)V"⟩ : MethodName) prog_15_method_1_code 7 none ws ({ frames := 2, cells := 0, slots := 0, locals := 40 } : Room) Z #[(.ref a), (.double tw), (.double cw)] h0 ({ frames := 2, cells := 0, slots := 0, locals := 40 } : Room).cells ({ frames := 2, cells := 0, slots := 0, locals := 40 } : Room).slots (Q_rmObj Z a tw cw lg t1 c1 h0 n0) := by
  refine Con.of (Ls := #[.val (.ref a), .val (.double tw), .second, .val (.double cw), .second, .unset, .unset]) (plainFor_of_name (by first | (simp [plainName, overriddenIn]; done) | decide +kernel)) (fun m => by first | (simp [entryFrame, mkF, argsToLocals, Value.category]; done) | rfl) ?_
  intro p e s m below meth c s₁ G hGe hG hx hby hml hown hnm hrt hlk hZ X0 e0
  have hown : s.vm.findClass "com/example/ganttwright/ganttwright/Objective" = some m.cls := hown
  have hnm : meth.name = "<init>" := hnm
  have NF0 := Fr.nil n0
  have K0 := Keep.refl h0 [a]
  subst hlg
  refine g_aloadN hG X0 hx (hb hby d1_0) (pc' := 1) rfl rfl rfl ?_
  show G (s₁.setTop (mkF m 1 #[.val (.ref a), .val (.double tw), .second, .val (.double cw), .second, .unset, .unset] [(.ref a)]))
  refine g_callI hG X0 hx hZ (y := (⟨"java/lang/Record", "<init>", "()V"⟩ : MethodName)) 0 rfl hown (wd hw 8 rfl) (wd hw 9 rfl) (wd hw 11 rfl) (wd hw 12 rfl) (by decide) (rmRec l Z a0 hw [] a h0 n0 Zs) (by decide) (by decide) (by rw [hml]; rfl) pd_1 rfl (argsL := []) (rest := []) rfl rfl (Nat.le_of_eq rfl) (hb hby d1_1) e0 (by decide) (by decide) (pc' := 4) rfl ?_
  intro T1 rv1 L1 X1 hQ1
  obtain ⟨rfl, Nq1, eh1⟩ := hQ1
  have NF1 := Fr.app NF0 Nq1
  show G (T1.setTop (mkF m 4 #[.val (.ref a), .val (.double tw), .second, .val (.double cw), .second, .unset, .unset] []))
  refine g_dloadN hG X1 hx (hb hby d1_4) (pc' := 5) rfl rfl ?_
  show G (T1.setTop (mkF m 5 #[.val (.ref a), .val (.double tw), .second, .val (.double cw), .second, .unset, .unset] [(.double tw)]))
  refine g_callS hG X1 hx hZ (y := (⟨"java/lang/Double", "isFinite", "(D)Z"⟩ : MethodName)) 0 hown (wd hw 16 rfl) (wd hw 17 rfl) (wd hw 18 rfl) (wd hw 19 rfl) (by decide) (rmFin l Z a0 hw [] tw h0 n0 Zs f1) (by decide) (by decide) (by rw [hml]; rfl) pd_2 rfl (argsL := [(.double tw)]) (rest := []) rfl rfl (Nat.le_of_eq rfl) (hb hby d1_5) eh1 (by decide) (by decide) (pc' := 8) rfl ?_
  intro T2 rv2 L2 X2 hQ2
  obtain ⟨rfl, Nq2, eh2⟩ := hQ2
  have NF2 := Fr.app NF1 Nq2
  show G (T2.setTop (mkF m 8 #[.val (.ref a), .val (.double tw), .second, .val (.double cw), .second, .unset, .unset] [(.int 1)]))
  refine g_ifNo hG X2 hx (hb hby d1_8) (pc' := 11) rfl rfl ?_
  show G (T2.setTop (mkF m 11 #[.val (.ref a), .val (.double tw), .second, .val (.double cw), .second, .unset, .unset] []))
  refine g_dloadN hG X2 hx (hb hby d1_11) (pc' := 12) rfl rfl ?_
  show G (T2.setTop (mkF m 12 #[.val (.ref a), .val (.double tw), .second, .val (.double cw), .second, .unset, .unset] [(.double cw)]))
  refine g_callS hG X2 hx hZ (y := (⟨"java/lang/Double", "isFinite", "(D)Z"⟩ : MethodName)) 0 hown (wd hw 16 rfl) (wd hw 17 rfl) (wd hw 18 rfl) (wd hw 19 rfl) (by decide) (rmFin l Z a0 hw [] cw h0 n0 Zs f2) (by decide) (by decide) (by rw [hml]; rfl) pd_2 rfl (argsL := [(.double cw)]) (rest := []) rfl rfl (Nat.le_of_eq rfl) (hb hby d1_12) eh2 (by decide) (by decide) (pc' := 15) rfl ?_
  intro T3 rv3 L3 X3 hQ3
  obtain ⟨rfl, Nq3, eh3⟩ := hQ3
  have NF3 := Fr.app NF2 Nq3
  show G (T3.setTop (mkF m 15 #[.val (.ref a), .val (.double tw), .second, .val (.double cw), .second, .unset, .unset] [(.int 1)]))
  refine g_ifYes hG X3 hx (hb hby d1_15) (pc' := 28) rfl (by decide) (by decide) ?_
  show G (T3.setTop (mkF m 28 #[.val (.ref a), .val (.double tw), .second, .val (.double cw), .second, .unset, .unset] []))
  refine g_dloadN hG X3 hx (hb hby d1_28) (pc' := 29) rfl rfl ?_
  show G (T3.setTop (mkF m 29 #[.val (.ref a), .val (.double tw), .second, .val (.double cw), .second, .unset, .unset] [(.double tw)]))
  refine g_dconst0 hG X3 hx (hb hby d1_29) (pc' := 30) rfl (v := (0 : UInt64)) rfl ?_
  show G (T3.setTop (mkF m 30 #[.val (.ref a), .val (.double tw), .second, .val (.double cw), .second, .unset, .unset] [(.double 0), (.double tw)]))
  obtain ⟨v30, q30⟩ : ∃ zz : Int32, cmpValue (FP.dcmp tw (0 : UInt64)) .g = zz := ⟨_, rfl⟩
  refine g_dcmp hG X3 hx (hb hby d1_30) (pc' := 31) rfl q30 ?_
  show G (T3.setTop (mkF m 31 #[.val (.ref a), .val (.double tw), .second, .val (.double cw), .second, .unset, .unset] [(.int v30)]))
  refine g_ifNo hG X3 hx (hb hby d1_31) (pc' := 34) (by rcases g1 with q | q <;> rw [← q30, q] <;> rfl) rfl ?_
  show G (T3.setTop (mkF m 34 #[.val (.ref a), .val (.double tw), .second, .val (.double cw), .second, .unset, .unset] []))
  refine g_dloadN hG X3 hx (hb hby d1_34) (pc' := 35) rfl rfl ?_
  show G (T3.setTop (mkF m 35 #[.val (.ref a), .val (.double tw), .second, .val (.double cw), .second, .unset, .unset] [(.double cw)]))
  refine g_dconst0 hG X3 hx (hb hby d1_35) (pc' := 36) rfl (v := (0 : UInt64)) rfl ?_
  show G (T3.setTop (mkF m 36 #[.val (.ref a), .val (.double tw), .second, .val (.double cw), .second, .unset, .unset] [(.double 0), (.double cw)]))
  obtain ⟨v36, q36⟩ : ∃ zz : Int32, cmpValue (FP.dcmp cw (0 : UInt64)) .g = zz := ⟨_, rfl⟩
  refine g_dcmp hG X3 hx (hb hby d1_36) (pc' := 37) rfl q36 ?_
  show G (T3.setTop (mkF m 37 #[.val (.ref a), .val (.double tw), .second, .val (.double cw), .second, .unset, .unset] [(.int v36)]))
  refine g_ifYes hG X3 hx (hb hby d1_37) (pc' := 50) (by rcases g2 with q | q <;> rw [← q36, q] <;> rfl) (by decide) (by decide) ?_
  show G (T3.setTop (mkF m 50 #[.val (.ref a), .val (.double tw), .second, .val (.double cw), .second, .unset, .unset] []))
  refine g_dloadN hG X3 hx (hb hby d1_50) (pc' := 51) rfl rfl ?_
  show G (T3.setTop (mkF m 51 #[.val (.ref a), .val (.double tw), .second, .val (.double cw), .second, .unset, .unset] [(.double tw)]))
  refine g_dconst0 hG X3 hx (hb hby d1_51) (pc' := 52) rfl (v := (0 : UInt64)) rfl ?_
  show G (T3.setTop (mkF m 52 #[.val (.ref a), .val (.double tw), .second, .val (.double cw), .second, .unset, .unset] [(.double 0), (.double tw)]))
  obtain ⟨v52, q52⟩ : ∃ zz : Int32, cmpValue (FP.dcmp tw (0 : UInt64)) .l = zz := ⟨_, rfl⟩
  refine g_dcmp hG X3 hx (hb hby d1_52) (pc' := 53) rfl q52 ?_
  show G (T3.setTop (mkF m 53 #[.val (.ref a), .val (.double tw), .second, .val (.double cw), .second, .unset, .unset] [(.int v52)]))
  have q52k := q52
  have cont : ∀ _u : Unit, G (T3.setTop (mkF m 72 #[.val (.ref a), .val (.double tw), .second, .val (.double cw), .second, .unset, .unset] [])) := by
    intro _u
    refine g_dloadN hG X3 hx (hb hby d1_72) (pc' := 73) rfl rfl ?_
    show G (T3.setTop (mkF m 73 #[.val (.ref a), .val (.double tw), .second, .val (.double cw), .second, .unset, .unset] [(.double tw)]))
    refine g_dloadN hG X3 hx (hb hby d1_73) (pc' := 74) rfl rfl ?_
    show G (T3.setTop (mkF m 74 #[.val (.ref a), .val (.double tw), .second, .val (.double cw), .second, .unset, .unset] [(.double cw), (.double tw)]))
    refine g_natS hG X3 hx hZ (y := (⟨"java/lang/Math", "max", "(DD)D"⟩ : MethodName)) (val := (.double (Jvm.Native.java_lang_Math.nans.pick64 true tw cw))) 0 hown (wd hw 25 rfl) (wd hw 26 rfl) (wd hw 22 rfl) (wd hw 27 rfl) (by decide) (fun hc => Jvm.Free.Fl.Abs.maxD_pays tw cw hc (by decide) (by decide)) (by rw [hml]; rfl) pd_3 rfl (argsL := [(.double tw), (.double cw)]) (rest := []) rfl (Nat.le_of_eq rfl) (hb hby d1_74) eh3 (by decide) (by decide) (⟨rfl, f1.noNaN, f2.noNaN⟩) (pc' := 77) rfl ?_
    intro T4 X4 e4
    show G (T4.setTop (mkF m 77 #[.val (.ref a), .val (.double tw), .second, .val (.double cw), .second, .unset, .unset] [(.double (Jvm.Native.java_lang_Math.nans.pick64 true tw cw))]))
    refine g_dstore hG X4 hx (hb hby d1_77) (pc' := 79) rfl (Ls' := #[.val (.ref a), .val (.double tw), .second, .val (.double cw), .second, .val (.double (Jvm.Native.java_lang_Math.nans.pick64 true tw cw)), .second]) rfl ?_
    show G (T4.setTop (mkF m 79 #[.val (.ref a), .val (.double tw), .second, .val (.double cw), .second, .val (.double (Jvm.Native.java_lang_Math.nans.pick64 true tw cw)), .second] []))
    refine g_dloadN hG X4 hx (hb hby d1_79) (pc' := 80) rfl rfl ?_
    show G (T4.setTop (mkF m 80 #[.val (.ref a), .val (.double tw), .second, .val (.double cw), .second, .val (.double (Jvm.Native.java_lang_Math.nans.pick64 true tw cw)), .second] [(.double tw)]))
    refine g_dload hG X4 hx (hb hby d1_80) (pc' := 82) rfl rfl ?_
    show G (T4.setTop (mkF m 82 #[.val (.ref a), .val (.double tw), .second, .val (.double cw), .second, .val (.double (Jvm.Native.java_lang_Math.nans.pick64 true tw cw)), .second] [(.double (Jvm.Native.java_lang_Math.nans.pick64 true tw cw)), (.double tw)]))
    obtain ⟨v82, q82⟩ : ∃ zz : UInt64, FP.ddiv tw (Jvm.Native.java_lang_Math.nans.pick64 true tw cw) = zz := ⟨_, rfl⟩
    refine g_ddiv hG X4 hx (hb hby d1_82) (pc' := 83) rfl (by rw [ht1]; exact n1) q82 ?_
    show G (T4.setTop (mkF m 83 #[.val (.ref a), .val (.double tw), .second, .val (.double cw), .second, .val (.double (Jvm.Native.java_lang_Math.nans.pick64 true tw cw)), .second] [(.double v82)]))
    refine g_dstoreN hG X4 hx (hb hby d1_83) (pc' := 84) rfl (Ls' := #[.val (.ref a), .val (.double v82), .second, .val (.double cw), .second, .val (.double (Jvm.Native.java_lang_Math.nans.pick64 true tw cw)), .second]) rfl ?_
    show G (T4.setTop (mkF m 84 #[.val (.ref a), .val (.double v82), .second, .val (.double cw), .second, .val (.double (Jvm.Native.java_lang_Math.nans.pick64 true tw cw)), .second] []))
    refine g_dloadN hG X4 hx (hb hby d1_84) (pc' := 85) rfl rfl ?_
    show G (T4.setTop (mkF m 85 #[.val (.ref a), .val (.double v82), .second, .val (.double cw), .second, .val (.double (Jvm.Native.java_lang_Math.nans.pick64 true tw cw)), .second] [(.double cw)]))
    refine g_dload hG X4 hx (hb hby d1_85) (pc' := 87) rfl rfl ?_
    show G (T4.setTop (mkF m 87 #[.val (.ref a), .val (.double v82), .second, .val (.double cw), .second, .val (.double (Jvm.Native.java_lang_Math.nans.pick64 true tw cw)), .second] [(.double (Jvm.Native.java_lang_Math.nans.pick64 true tw cw)), (.double cw)]))
    obtain ⟨v87, q87⟩ : ∃ zz : UInt64, FP.ddiv cw (Jvm.Native.java_lang_Math.nans.pick64 true tw cw) = zz := ⟨_, rfl⟩
    refine g_ddiv hG X4 hx (hb hby d1_87) (pc' := 88) rfl (by rw [hc1]; exact n2) q87 ?_
    show G (T4.setTop (mkF m 88 #[.val (.ref a), .val (.double v82), .second, .val (.double cw), .second, .val (.double (Jvm.Native.java_lang_Math.nans.pick64 true tw cw)), .second] [(.double v87)]))
    refine g_dstoreN hG X4 hx (hb hby d1_88) (pc' := 89) rfl (Ls' := #[.val (.ref a), .val (.double v82), .second, .val (.double v87), .second, .val (.double (Jvm.Native.java_lang_Math.nans.pick64 true tw cw)), .second]) rfl ?_
    show G (T4.setTop (mkF m 89 #[.val (.ref a), .val (.double v82), .second, .val (.double v87), .second, .val (.double (Jvm.Native.java_lang_Math.nans.pick64 true tw cw)), .second] []))
    refine g_aloadN hG X4 hx (hb hby d1_89) (pc' := 90) rfl rfl rfl ?_
    show G (T4.setTop (mkF m 90 #[.val (.ref a), .val (.double v82), .second, .val (.double v87), .second, .val (.double (Jvm.Native.java_lang_Math.nans.pick64 true tw cw)), .second] [(.ref a)]))
    refine g_dloadN hG X4 hx (hb hby d1_90) (pc' := 91) rfl rfl ?_
    show G (T4.setTop (mkF m 91 #[.val (.ref a), .val (.double v82), .second, .val (.double v87), .second, .val (.double (Jvm.Native.java_lang_Math.nans.pick64 true tw cw)), .second] [(.double v82), (.ref a)]))
    refine g_putF hG X4 hx hZ hown (wd hw 28 rfl) Via.refl e4 F_timeWeight_a Ex_a (Or.inr ⟨(wd hw 29 rfl), rfl, hnm⟩) (wd hw 3 rfl) (v' := (.double v82)) (ty := .double) (by decide) rfl rfl (hb hby d1_91) (pc' := 94) rfl ?_
    intro T5 h5 X5 e5 W5
    have Ex_a := Ex_a.wr W5
    have F_timeWeight_a := F_timeWeight_a.same W5
    have F_costWeight_a := F_costWeight_a.other W5 (Or.inr (slot_ne (Or.inr (wd hw 31 rfl)) (Or.inr (wd hw 29 rfl)) (by decide) (t := .double) (t' := .double) (by decide) (by decide)))
    have Zs := Nat.le_trans Zs (Wr.size W5)
    have NF5 := Fr.snoc X5 NF3 ga
    have K5 := K0.wr W5 (Or.inl (List.mem_of_getElem? (i := 0) rfl))
    show G (T5.setTop (mkF m 94 #[.val (.ref a), .val (.double v82), .second, .val (.double v87), .second, .val (.double (Jvm.Native.java_lang_Math.nans.pick64 true tw cw)), .second] []))
    refine g_aloadN hG X5 hx (hb hby d1_94) (pc' := 95) rfl rfl rfl ?_
    show G (T5.setTop (mkF m 95 #[.val (.ref a), .val (.double v82), .second, .val (.double v87), .second, .val (.double (Jvm.Native.java_lang_Math.nans.pick64 true tw cw)), .second] [(.ref a)]))
    refine g_dloadN hG X5 hx (hb hby d1_95) (pc' := 96) rfl rfl ?_
    show G (T5.setTop (mkF m 96 #[.val (.ref a), .val (.double v82), .second, .val (.double v87), .second, .val (.double (Jvm.Native.java_lang_Math.nans.pick64 true tw cw)), .second] [(.double v87), (.ref a)]))
    refine g_putF hG X5 hx hZ hown (wd hw 30 rfl) Via.refl e5 F_costWeight_a Ex_a (Or.inr ⟨(wd hw 31 rfl), rfl, hnm⟩) (wd hw 3 rfl) (v' := (.double v87)) (ty := .double) (by decide) rfl rfl (hb hby d1_96) (pc' := 99) rfl ?_
    intro T6 h6 X6 e6 W6
    have Ex_a := Ex_a.wr W6
    have F_timeWeight_a := F_timeWeight_a.other W6 (Or.inr (slot_ne (Or.inr (wd hw 29 rfl)) (Or.inr (wd hw 31 rfl)) (by decide) (t := .double) (t' := .double) (by decide) (by decide)))
    have F_costWeight_a := F_costWeight_a.same W6
    have Zs := Nat.le_trans Zs (Wr.size W6)
    have NF6 := Fr.snoc X6 NF5 ga
    have K6 := K5.wr W6 (Or.inl (List.mem_of_getElem? (i := 0) rfl))
    show G (T6.setTop (mkF m 99 #[.val (.ref a), .val (.double v82), .second, .val (.double v87), .second, .val (.double (Jvm.Native.java_lang_Math.nans.pick64 true tw cw)), .second] []))
    have e82 : v82 = t1 := q82.symm.trans ht1
    have e87 : v87 = c1 := q87.symm.trans hc1
    subst e82 e87
    exact e_ret0 hGe X6 hx hrt hlk (hb hby d1_99) e6 (by decide) (by decide) (⟨rfl, NF6, K6, Ex_a, F_timeWeight_a, F_costWeight_a⟩)
  rcases g3 with g3 | ⟨g3, g4⟩
  · skip
    refine g_ifYes hG X3 hx (hb hby d1_53) (pc' := 72) (by rw [← q52, g3]; rfl) (by decide) (by decide) ?_
    show G (T3.setTop (mkF m 72 #[.val (.ref a), .val (.double tw), .second, .val (.double cw), .second, .unset, .unset] []))
    exact cont ()
  · skip
    refine g_ifNo hG X3 hx (hb hby d1_53) (pc' := 56) (by rw [← q52, g3]; rfl) rfl ?_
    show G (T3.setTop (mkF m 56 #[.val (.ref a), .val (.double tw), .second, .val (.double cw), .second, .unset, .unset] []))
    refine g_dloadN hG X3 hx (hb hby d1_56) (pc' := 57) rfl rfl ?_
    show G (T3.setTop (mkF m 57 #[.val (.ref a), .val (.double tw), .second, .val (.double cw), .second, .unset, .unset] [(.double cw)]))
    refine g_dconst0 hG X3 hx (hb hby d1_57) (pc' := 58) rfl (v := (0 : UInt64)) rfl ?_
    show G (T3.setTop (mkF m 58 #[.val (.ref a), .val (.double tw), .second, .val (.double cw), .second, .unset, .unset] [(.double 0), (.double cw)]))
    obtain ⟨v58, q58⟩ : ∃ zz : Int32, cmpValue (FP.dcmp cw (0 : UInt64)) .l = zz := ⟨_, rfl⟩
    refine g_dcmp hG X3 hx (hb hby d1_58) (pc' := 59) rfl q58 ?_
    show G (T3.setTop (mkF m 59 #[.val (.ref a), .val (.double tw), .second, .val (.double cw), .second, .unset, .unset] [(.int v58)]))
    refine g_ifYes hG X3 hx (hb hby d1_59) (pc' := 72) (by rw [← q58, g4]; rfl) (by decide) (by decide) ?_
    show G (T3.setTop (mkF m 72 #[.val (.ref a), .val (.double tw), .second, .val (.double cw), .second, .unset, .unset] []))
    exact cont ()

def Q_rmScore (Z : State) (a : Addr) (t1 c1 mk ct p1 p2 sc : UInt64) (h0 : Heap) (n0 : Nat) (v : Option Value) (h : Heap) (L : List Loc) : Prop := v = some (.double sc) ∧ Fr n0 L ∧ h = h0
set_option maxRecDepth 65536 in
set_option maxHeartbeats 40000000 in
theorem rmScore (l : Launch) (Z : State) (a0 : Array Value) (hw : ∀ d ∈ tables_1, d.before a0 Z = true) (ws : List Jvm.Cond) (a : Addr) (t1 c1 mk ct p1 p2 sc : UInt64) (h0 : Heap) (n0 : Nat) (Zs : n0 ≤ h0.size) (hp1 : FP.dmul t1 mk = p1) (hp2 : FP.dmul c1 ct = p2) (hsc : FP.dadd p1 p2 = sc) (n1 : Jvm.Free.Fl.NoNaN64 p1) (n2 : Jvm.Free.Fl.NoNaN64 p2) (n3 : Jvm.Free.Fl.NoNaN64 sc) (Ex_a : Exa Z h0 a "com/example/ganttwright/ganttwright/Objective") (F_timeWeight_a : Fld Z h0 a "com/example/ganttwright/ganttwright/Objective" "timeWeight" "D" (.double t1)) (F_costWeight_a : Fld Z h0 a "com/example/ganttwright/ganttwright/Objective" "costWeight" "D" (.double c1)) :
    Con l (⟨"com/example/ganttwright/ganttwright/Objective", "score", "(DD)D"⟩ : MethodName) prog_15_method_2_code 5 (some .double) ws ({ frames := 0, cells := 0, slots := 0, locals := 0 } : Room) Z #[(.ref a), (.double mk), (.double ct)] h0 ({ frames := 0, cells := 0, slots := 0, locals := 0 } : Room).cells ({ frames := 0, cells := 0, slots := 0, locals := 0 } : Room).slots (Q_rmScore Z a t1 c1 mk ct p1 p2 sc h0 n0) := by
  refine Con.of (Ls := #[.val (.ref a), .val (.double mk), .second, .val (.double ct), .second]) (plainFor_of_name (by first | (simp [plainName, overriddenIn]; done) | decide +kernel)) (fun m => by first | (simp [entryFrame, mkF, argsToLocals, Value.category]; done) | rfl) ?_
  intro p e s m below meth c s₁ G hGe hG hx hby hml hown hnm hrt hlk hZ X0 e0
  have hown : s.vm.findClass "com/example/ganttwright/ganttwright/Objective" = some m.cls := hown
  have hnm : meth.name = "score" := hnm
  have NF0 := Fr.nil n0
  refine g_aloadN hG X0 hx (hb hby d8_0) (pc' := 1) rfl rfl rfl ?_
  show G (s₁.setTop (mkF m 1 #[.val (.ref a), .val (.double mk), .second, .val (.double ct), .second] [(.ref a)]))
  refine g_getF hG X0 hx hZ hown (wd hw 28 rfl) Via.refl e0 F_timeWeight_a (hb hby d8_1) (pc' := 4) rfl ?_
  intro T1 X1 e1
  show G (T1.setTop (mkF m 4 #[.val (.ref a), .val (.double mk), .second, .val (.double ct), .second] [(.double t1)]))
  refine g_dloadN hG X1 hx (hb hby d8_4) (pc' := 5) rfl rfl ?_
  show G (T1.setTop (mkF m 5 #[.val (.ref a), .val (.double mk), .second, .val (.double ct), .second] [(.double mk), (.double t1)]))
  obtain ⟨v5, q5⟩ : ∃ zz : UInt64, FP.dmul t1 mk = zz := ⟨_, rfl⟩
  refine g_dmul hG X1 hx (hb hby d8_5) (pc' := 6) rfl (by rw [hp1]; exact n1) q5 ?_
  show G (T1.setTop (mkF m 6 #[.val (.ref a), .val (.double mk), .second, .val (.double ct), .second] [(.double v5)]))
  refine g_aloadN hG X1 hx (hb hby d8_6) (pc' := 7) rfl rfl rfl ?_
  show G (T1.setTop (mkF m 7 #[.val (.ref a), .val (.double mk), .second, .val (.double ct), .second] [(.ref a), (.double v5)]))
  refine g_getF hG X1 hx hZ hown (wd hw 30 rfl) Via.refl e1 F_costWeight_a (hb hby d8_7) (pc' := 10) rfl ?_
  intro T2 X2 e2
  show G (T2.setTop (mkF m 10 #[.val (.ref a), .val (.double mk), .second, .val (.double ct), .second] [(.double c1), (.double v5)]))
  refine g_dloadN hG X2 hx (hb hby d8_10) (pc' := 11) rfl rfl ?_
  show G (T2.setTop (mkF m 11 #[.val (.ref a), .val (.double mk), .second, .val (.double ct), .second] [(.double ct), (.double c1), (.double v5)]))
  obtain ⟨v11, q11⟩ : ∃ zz : UInt64, FP.dmul c1 ct = zz := ⟨_, rfl⟩
  refine g_dmul hG X2 hx (hb hby d8_11) (pc' := 12) rfl (by rw [hp2]; exact n2) q11 ?_
  show G (T2.setTop (mkF m 12 #[.val (.ref a), .val (.double mk), .second, .val (.double ct), .second] [(.double v11), (.double v5)]))
  obtain ⟨v12, q12⟩ : ∃ zz : UInt64, FP.dadd v5 v11 = zz := ⟨_, rfl⟩
  refine g_dadd hG X2 hx (hb hby d8_12) (pc' := 13) rfl (by rw [← q5, ← q11, hp1, hp2, hsc]; exact n3) q12 ?_
  show G (T2.setTop (mkF m 13 #[.val (.ref a), .val (.double mk), .second, .val (.double ct), .second] [(.double v12)]))
  have e12 : v12 = sc := by rw [← q12, ← q5, ← q11, hp1, hp2, hsc]
  subst e12
  exact e_retD hGe X2 hx hrt hlk (hb hby d8_13) e2 (by decide) (by decide) (⟨rfl, NF0, rfl⟩)

def Q_rmBet (Z : State) (a : Addr) (t1 c1 m1 e1 m2 e2 tl p1 p2 sc p3 p4 sc2 sm sk lo hi lo2 hi2 : UInt64) (S S2 P M M2 R C C2 : Int) (rs : Int32) (h0 : Heap) (n0 : Nat) (v : Option Value) (h : Heap) (L : List Loc) : Prop := v = some (.int rs) ∧ Fr n0 L ∧ h = h0
set_option maxRecDepth 65536 in
set_option maxHeartbeats 40000000 in
theorem rmBet (l : Launch) (Z : State) (a0 : Array Value) (hw : ∀ d ∈ tables_1, d.before a0 Z = true) (ws : List Jvm.Cond) (a : Addr) (t1 c1 m1 e1 m2 e2 tl p1 p2 sc p3 p4 sc2 sm sk lo hi lo2 hi2 : UInt64) (S S2 P M M2 R C C2 : Int) (rs : Int32) (h0 : Heap) (n0 : Nat) (Zs : n0 ≤ h0.size) (hp1 : FP.dmul t1 m1 = p1) (hp2 : FP.dmul c1 e1 = p2) (hsc : FP.dadd p1 p2 = sc) (hp3 : FP.dmul t1 m2 = p3) (hp4 : FP.dmul c1 e2 = p4) (hsc2 : FP.dadd p3 p4 = sc2) (hsm : FP.dmul tl sc2 = sm) (hsk : FP.dmul tl m2 = sk) (hlo : FP.dsub sc2 sm = lo) (hhi : FP.dadd sc2 sm = hi) (hlo2 : FP.dsub m2 sk = lo2) (hhi2 : FP.dadd m2 sk = hi2) (n1 : Jvm.Free.Fl.NoNaN64 p1) (n2 : Jvm.Free.Fl.NoNaN64 p2) (n3 : Jvm.Free.Fl.NoNaN64 p3) (n4 : Jvm.Free.Fl.NoNaN64 p4) (nsm : Jvm.Free.Fl.NoNaN64 sm) (nsk : Jvm.Free.Fl.NoNaN64 sk) (D_sc : OwnFl.DV sc (((4 * S : Int) : Rat) / 16)) (D_sc2 : OwnFl.DV sc2 (((4 * S2 : Int) : Rat) / 16)) (D_lo : OwnFl.DV lo (((4 * S2 - P : Int) : Rat) / 16)) (D_hi : OwnFl.DV hi (((4 * S2 + P : Int) : Rat) / 16)) (D_m1 : OwnFl.DV m1 (((16 * M : Int) : Rat) / 16)) (D_m2 : OwnFl.DV m2 (((16 * M2 : Int) : Rat) / 16)) (D_lo2 : OwnFl.DV lo2 (((4 * (4 * M2 - R) : Int) : Rat) / 16)) (D_hi2 : OwnFl.DV hi2 (((4 * (4 * M2 + R) : Int) : Rat) / 16)) (D_e1 : OwnFl.DV e1 (((16 * C : Int) : Rat) / 16)) (D_e2 : OwnFl.DV e2 (((16 * C2 : Int) : Rat) / 16)) (hrs : rs = (if 4 * S < 4 * S2 - P ∨ 4 * S2 + P < 4 * S then (if S < S2 then (1 : Int32) else 0) else if 4 * M < 4 * M2 - R ∨ 4 * M2 + R < 4 * M then (if M < M2 then (1 : Int32) else 0) else if C < C2 then (1 : Int32) else 0)) (Ex_a : Exa Z h0 a "com/example/ganttwright/ganttwright/Objective") (F_timeWeight_a : Fld Z h0 a "com/example/ganttwright/ganttwright/Objective" "timeWeight" "D" (.double t1)) (F_costWeight_a : Fld Z h0 a "com/example/ganttwright/ganttwright/Objective" "costWeight" "D" (.double c1)) :
    Con l (⟨"com/example/ganttwright/ganttwright/Objective", "better", "(DDDDD)Z"⟩ : MethodName) prog_15_method_3_code 20 (some .boolean) ws ({ frames := 1, cells := 0, slots := 0, locals := 40 } : Room) Z #[(.ref a), (.double m1), (.double e1), (.double m2), (.double e2), (.double tl)] h0 ({ frames := 1, cells := 0, slots := 0, locals := 40 } : Room).cells ({ frames := 1, cells := 0, slots := 0, locals := 40 } : Room).slots (Q_rmBet Z a t1 c1 m1 e1 m2 e2 tl p1 p2 sc p3 p4 sc2 sm sk lo hi lo2 hi2 S S2 P M M2 R C C2 rs h0 n0) := by
  refine Con.of (Ls := #[.val (.ref a), .val (.double m1), .second, .val (.double e1), .second, .val (.double m2), .second, .val (.double e2), .second, .val (.double tl), .second, .unset, .unset, .unset, .unset, .unset, .unset, .unset, .unset, .unset]) (plainFor_of_name (by first | (simp [plainName, overriddenIn]; done) | decide +kernel)) (fun m => by first | (simp [entryFrame, mkF, argsToLocals, Value.category]; done) | rfl) ?_
  intro p e s m below meth c s₁ G hGe hG hx hby hml hown hnm hrt hlk hZ X0 e0
  have hown : s.vm.findClass "com/example/ganttwright/ganttwright/Objective" = some m.cls := hown
  have hnm : meth.name = "better" := hnm
  have NF0 := Fr.nil n0
  refine g_aloadN hG X0 hx (hb hby d7_0) (pc' := 1) rfl rfl rfl ?_
  show G (s₁.setTop (mkF m 1 #[.val (.ref a), .val (.double m1), .second, .val (.double e1), .second, .val (.double m2), .second, .val (.double e2), .second, .val (.double tl), .second, .unset, .unset, .unset, .unset, .unset, .unset, .unset, .unset, .unset] [(.ref a)]))
  refine g_dloadN hG X0 hx (hb hby d7_1) (pc' := 2) rfl rfl ?_
  show G (s₁.setTop (mkF m 2 #[.val (.ref a), .val (.double m1), .second, .val (.double e1), .second, .val (.double m2), .second, .val (.double e2), .second, .val (.double tl), .second, .unset, .unset, .unset, .unset, .unset, .unset, .unset, .unset, .unset] [(.double m1), (.ref a)]))
  refine g_dloadN hG X0 hx (hb hby d7_2) (pc' := 3) rfl rfl ?_
  show G (s₁.setTop (mkF m 3 #[.val (.ref a), .val (.double m1), .second, .val (.double e1), .second, .val (.double m2), .second, .val (.double e2), .second, .val (.double tl), .second, .unset, .unset, .unset, .unset, .unset, .unset, .unset, .unset, .unset] [(.double e1), (.double m1), (.ref a)]))
  refine g_callV hG X0 hx hZ (y := (⟨"com/example/ganttwright/ganttwright/Objective", "score", "(DD)D"⟩ : MethodName)) 0 hown (wd hw 38 rfl) (wd hw 39 rfl) (wd hw 41 rfl) (wd hw 40 rfl) (wd hw 4 rfl) (wd hw 42 rfl) (by decide) (rmScore l Z a0 hw [] a t1 c1 m1 e1 p1 p2 sc h0 n0 Zs hp1 hp2 hsc n1 n2 D_sc.noNaN Ex_a F_timeWeight_a F_costWeight_a) (by decide) (by decide) (by rw [hml]; rfl) pd_3 rfl (argsL := [(.double m1), (.double e1)]) (rest := []) rfl rfl (Nat.le_of_eq rfl) (hb hby d7_3) e0 Ex_a (by decide) (by decide) (pc' := 6) rfl ?_
  intro T1 rv1 L1 X1 hQ1
  obtain ⟨rfl, Nq1, eh1⟩ := hQ1
  have NF1 := Fr.app NF0 Nq1
  show G (T1.setTop (mkF m 6 #[.val (.ref a), .val (.double m1), .second, .val (.double e1), .second, .val (.double m2), .second, .val (.double e2), .second, .val (.double tl), .second, .unset, .unset, .unset, .unset, .unset, .unset, .unset, .unset, .unset] [(.double sc)]))
  refine g_dstore hG X1 hx (hb hby d7_6) (pc' := 8) rfl (Ls' := #[.val (.ref a), .val (.double m1), .second, .val (.double e1), .second, .val (.double m2), .second, .val (.double e2), .second, .val (.double tl), .second, .val (.double sc), .second, .unset, .unset, .unset, .unset, .unset, .unset, .unset]) rfl ?_
  show G (T1.setTop (mkF m 8 #[.val (.ref a), .val (.double m1), .second, .val (.double e1), .second, .val (.double m2), .second, .val (.double e2), .second, .val (.double tl), .second, .val (.double sc), .second, .unset, .unset, .unset, .unset, .unset, .unset, .unset] []))
  refine g_aloadN hG X1 hx (hb hby d7_8) (pc' := 9) rfl rfl rfl ?_
  show G (T1.setTop (mkF m 9 #[.val (.ref a), .val (.double m1), .second, .val (.double e1), .second, .val (.double m2), .second, .val (.double e2), .second, .val (.double tl), .second, .val (.double sc), .second, .unset, .unset, .unset, .unset, .unset, .unset, .unset] [(.ref a)]))
  refine g_dload hG X1 hx (hb hby d7_9) (pc' := 11) rfl rfl ?_
  show G (T1.setTop (mkF m 11 #[.val (.ref a), .val (.double m1), .second, .val (.double e1), .second, .val (.double m2), .second, .val (.double e2), .second, .val (.double tl), .second, .val (.double sc), .second, .unset, .unset, .unset, .unset, .unset, .unset, .unset] [(.double m2), (.ref a)]))
  refine g_dload hG X1 hx (hb hby d7_11) (pc' := 13) rfl rfl ?_
  show G (T1.setTop (mkF m 13 #[.val (.ref a), .val (.double m1), .second, .val (.double e1), .second, .val (.double m2), .second, .val (.double e2), .second, .val (.double tl), .second, .val (.double sc), .second, .unset, .unset, .unset, .unset, .unset, .unset, .unset] [(.double e2), (.double m2), (.ref a)]))
  refine g_callV hG X1 hx hZ (y := (⟨"com/example/ganttwright/ganttwright/Objective", "score", "(DD)D"⟩ : MethodName)) 0 hown (wd hw 38 rfl) (wd hw 39 rfl) (wd hw 41 rfl) (wd hw 40 rfl) (wd hw 4 rfl) (wd hw 42 rfl) (by decide) (rmScore l Z a0 hw [] a t1 c1 m2 e2 p3 p4 sc2 h0 n0 Zs hp3 hp4 hsc2 n3 n4 D_sc2.noNaN Ex_a F_timeWeight_a F_costWeight_a) (by decide) (by decide) (by rw [hml]; rfl) pd_3 rfl (argsL := [(.double m2), (.double e2)]) (rest := []) rfl rfl (Nat.le_of_eq rfl) (hb hby d7_13) eh1 Ex_a (by decide) (by decide) (pc' := 16) rfl ?_
  intro T2 rv2 L2 X2 hQ2
  obtain ⟨rfl, Nq2, eh2⟩ := hQ2
  have NF2 := Fr.app NF1 Nq2
  show G (T2.setTop (mkF m 16 #[.val (.ref a), .val (.double m1), .second, .val (.double e1), .second, .val (.double m2), .second, .val (.double e2), .second, .val (.double tl), .second, .val (.double sc), .second, .unset, .unset, .unset, .unset, .unset, .unset, .unset] [(.double sc2)]))
  refine g_dstore hG X2 hx (hb hby d7_16) (pc' := 18) rfl (Ls' := #[.val (.ref a), .val (.double m1), .second, .val (.double e1), .second, .val (.double m2), .second, .val (.double e2), .second, .val (.double tl), .second, .val (.double sc), .second, .val (.double sc2), .second, .unset, .unset, .unset, .unset, .unset]) rfl ?_
  show G (T2.setTop (mkF m 18 #[.val (.ref a), .val (.double m1), .second, .val (.double e1), .second, .val (.double m2), .second, .val (.double e2), .second, .val (.double tl), .second, .val (.double sc), .second, .val (.double sc2), .second, .unset, .unset, .unset, .unset, .unset] []))
  refine g_dload hG X2 hx (hb hby d7_18) (pc' := 20) rfl rfl ?_
  show G (T2.setTop (mkF m 20 #[.val (.ref a), .val (.double m1), .second, .val (.double e1), .second, .val (.double m2), .second, .val (.double e2), .second, .val (.double tl), .second, .val (.double sc), .second, .val (.double sc2), .second, .unset, .unset, .unset, .unset, .unset] [(.double tl)]))
  refine g_dload hG X2 hx (hb hby d7_20) (pc' := 22) rfl rfl ?_
  show G (T2.setTop (mkF m 22 #[.val (.ref a), .val (.double m1), .second, .val (.double e1), .second, .val (.double m2), .second, .val (.double e2), .second, .val (.double tl), .second, .val (.double sc), .second, .val (.double sc2), .second, .unset, .unset, .unset, .unset, .unset] [(.double sc2), (.double tl)]))
  refine g_dmul hG X2 hx (hb hby d7_22) (pc' := 23) rfl (by rw [hsm]; exact nsm) hsm ?_
  show G (T2.setTop (mkF m 23 #[.val (.ref a), .val (.double m1), .second, .val (.double e1), .second, .val (.double m2), .second, .val (.double e2), .second, .val (.double tl), .second, .val (.double sc), .second, .val (.double sc2), .second, .unset, .unset, .unset, .unset, .unset] [(.double sm)]))
  refine g_dstore hG X2 hx (hb hby d7_23) (pc' := 25) rfl (Ls' := #[.val (.ref a), .val (.double m1), .second, .val (.double e1), .second, .val (.double m2), .second, .val (.double e2), .second, .val (.double tl), .second, .val (.double sc), .second, .val (.double sc2), .second, .val (.double sm), .second, .unset, .unset, .unset]) rfl ?_
  show G (T2.setTop (mkF m 25 #[.val (.ref a), .val (.double m1), .second, .val (.double e1), .second, .val (.double m2), .second, .val (.double e2), .second, .val (.double tl), .second, .val (.double sc), .second, .val (.double sc2), .second, .val (.double sm), .second, .unset, .unset, .unset] []))
  refine g_dload hG X2 hx (hb hby d7_25) (pc' := 27) rfl rfl ?_
  show G (T2.setTop (mkF m 27 #[.val (.ref a), .val (.double m1), .second, .val (.double e1), .second, .val (.double m2), .second, .val (.double e2), .second, .val (.double tl), .second, .val (.double sc), .second, .val (.double sc2), .second, .val (.double sm), .second, .unset, .unset, .unset] [(.double tl)]))
  refine g_dload hG X2 hx (hb hby d7_27) (pc' := 29) rfl rfl ?_
  show G (T2.setTop (mkF m 29 #[.val (.ref a), .val (.double m1), .second, .val (.double e1), .second, .val (.double m2), .second, .val (.double e2), .second, .val (.double tl), .second, .val (.double sc), .second, .val (.double sc2), .second, .val (.double sm), .second, .unset, .unset, .unset] [(.double m2), (.double tl)]))
  refine g_dmul hG X2 hx (hb hby d7_29) (pc' := 30) rfl (by rw [hsk]; exact nsk) hsk ?_
  show G (T2.setTop (mkF m 30 #[.val (.ref a), .val (.double m1), .second, .val (.double e1), .second, .val (.double m2), .second, .val (.double e2), .second, .val (.double tl), .second, .val (.double sc), .second, .val (.double sc2), .second, .val (.double sm), .second, .unset, .unset, .unset] [(.double sk)]))
  refine g_dstore hG X2 hx (hb hby d7_30) (pc' := 32) rfl (Ls' := #[.val (.ref a), .val (.double m1), .second, .val (.double e1), .second, .val (.double m2), .second, .val (.double e2), .second, .val (.double tl), .second, .val (.double sc), .second, .val (.double sc2), .second, .val (.double sm), .second, .val (.double sk), .second, .unset]) rfl ?_
  show G (T2.setTop (mkF m 32 #[.val (.ref a), .val (.double m1), .second, .val (.double e1), .second, .val (.double m2), .second, .val (.double e2), .second, .val (.double tl), .second, .val (.double sc), .second, .val (.double sc2), .second, .val (.double sm), .second, .val (.double sk), .second, .unset] []))
  refine g_dload hG X2 hx (hb hby d7_32) (pc' := 34) rfl rfl ?_
  show G (T2.setTop (mkF m 34 #[.val (.ref a), .val (.double m1), .second, .val (.double e1), .second, .val (.double m2), .second, .val (.double e2), .second, .val (.double tl), .second, .val (.double sc), .second, .val (.double sc2), .second, .val (.double sm), .second, .val (.double sk), .second, .unset] [(.double sc)]))
  refine g_dload hG X2 hx (hb hby d7_34) (pc' := 36) rfl rfl ?_
  show G (T2.setTop (mkF m 36 #[.val (.ref a), .val (.double m1), .second, .val (.double e1), .second, .val (.double m2), .second, .val (.double e2), .second, .val (.double tl), .second, .val (.double sc), .second, .val (.double sc2), .second, .val (.double sm), .second, .val (.double sk), .second, .unset] [(.double sc2), (.double sc)]))
  refine g_dload hG X2 hx (hb hby d7_36) (pc' := 38) rfl rfl ?_
  show G (T2.setTop (mkF m 38 #[.val (.ref a), .val (.double m1), .second, .val (.double e1), .second, .val (.double m2), .second, .val (.double e2), .second, .val (.double tl), .second, .val (.double sc), .second, .val (.double sc2), .second, .val (.double sm), .second, .val (.double sk), .second, .unset] [(.double sm), (.double sc2), (.double sc)]))
  refine g_dsub hG X2 hx (hb hby d7_38) (pc' := 39) rfl (by rw [hlo]; exact D_lo.noNaN) hlo ?_
  show G (T2.setTop (mkF m 39 #[.val (.ref a), .val (.double m1), .second, .val (.double e1), .second, .val (.double m2), .second, .val (.double e2), .second, .val (.double tl), .second, .val (.double sc), .second, .val (.double sc2), .second, .val (.double sm), .second, .val (.double sk), .second, .unset] [(.double lo), (.double sc)]))
  obtain ⟨v39, q39⟩ : ∃ zz : Int32, cmpValue (FP.dcmp sc lo) .g = zz := ⟨_, rfl⟩
  refine g_dcmp hG X2 hx (hb hby d7_39) (pc' := 40) rfl q39 ?_
  show G (T2.setTop (mkF m 40 #[.val (.ref a), .val (.double m1), .second, .val (.double e1), .second, .val (.double m2), .second, .val (.double e2), .second, .val (.double tl), .second, .val (.double sc), .second, .val (.double sc2), .second, .val (.double sm), .second, .val (.double sk), .second, .unset] [(.int v39)]))
  by_cases ha : 4 * S < 4 * S2 - P
  · have _hh := ha
    refine g_ifYes hG X2 hx (hb hby d7_40) (pc' := 54) (by rw [← q39, ((own_lt D_sc D_lo).1 (by omega))]; rfl) (by decide) (by decide) ?_
    show G (T2.setTop (mkF m 54 #[.val (.ref a), .val (.double m1), .second, .val (.double e1), .second, .val (.double m2), .second, .val (.double e2), .second, .val (.double tl), .second, .val (.double sc), .second, .val (.double sc2), .second, .val (.double sm), .second, .val (.double sk), .second, .unset] []))
    refine g_dload hG X2 hx (hb hby d7_54) (pc' := 56) rfl rfl ?_
    show G (T2.setTop (mkF m 56 #[.val (.ref a), .val (.double m1), .second, .val (.double e1), .second, .val (.double m2), .second, .val (.double e2), .second, .val (.double tl), .second, .val (.double sc), .second, .val (.double sc2), .second, .val (.double sm), .second, .val (.double sk), .second, .unset] [(.double sc)]))
    refine g_dload hG X2 hx (hb hby d7_56) (pc' := 58) rfl rfl ?_
    show G (T2.setTop (mkF m 58 #[.val (.ref a), .val (.double m1), .second, .val (.double e1), .second, .val (.double m2), .second, .val (.double e2), .second, .val (.double tl), .second, .val (.double sc), .second, .val (.double sc2), .second, .val (.double sm), .second, .val (.double sk), .second, .unset] [(.double sc2), (.double sc)]))
    obtain ⟨v58, q58⟩ : ∃ zz : Int32, cmpValue (FP.dcmp sc sc2) .g = zz := ⟨_, rfl⟩
    refine g_dcmp hG X2 hx (hb hby d7_58) (pc' := 59) rfl q58 ?_
    show G (T2.setTop (mkF m 59 #[.val (.ref a), .val (.double m1), .second, .val (.double e1), .second, .val (.double m2), .second, .val (.double e2), .second, .val (.double tl), .second, .val (.double sc), .second, .val (.double sc2), .second, .val (.double sm), .second, .val (.double sk), .second, .unset] [(.int v58)]))
    by_cases hc : S < S2
    · have _hh := hc
      refine g_ifNo hG X2 hx (hb hby d7_59) (pc' := 62) (by rw [← q58, ((own_lt D_sc D_sc2).1 (by omega))]; rfl) rfl ?_
      show G (T2.setTop (mkF m 62 #[.val (.ref a), .val (.double m1), .second, .val (.double e1), .second, .val (.double m2), .second, .val (.double e2), .second, .val (.double tl), .second, .val (.double sc), .second, .val (.double sc2), .second, .val (.double sm), .second, .val (.double sk), .second, .unset] []))
      refine g_iconst hG X2 hx (hb hby d7_62) (pc' := 63) rfl (v := (1 : Int32)) rfl ?_
      show G (T2.setTop (mkF m 63 #[.val (.ref a), .val (.double m1), .second, .val (.double e1), .second, .val (.double m2), .second, .val (.double e2), .second, .val (.double tl), .second, .val (.double sc), .second, .val (.double sc2), .second, .val (.double sm), .second, .val (.double sk), .second, .unset] [(.int 1)]))
      refine g_goto hG X2 hx (hb hby d7_63) (pc' := 67) (by decide) (by decide) ?_
      show G (T2.setTop (mkF m 67 #[.val (.ref a), .val (.double m1), .second, .val (.double e1), .second, .val (.double m2), .second, .val (.double e2), .second, .val (.double tl), .second, .val (.double sc), .second, .val (.double sc2), .second, .val (.double sm), .second, .val (.double sk), .second, .unset] [(.int 1)]))
      refine g_istore hG X2 hx (hb hby d7_67) (pc' := 69) rfl (Ls' := #[.val (.ref a), .val (.double m1), .second, .val (.double e1), .second, .val (.double m2), .second, .val (.double e2), .second, .val (.double tl), .second, .val (.double sc), .second, .val (.double sc2), .second, .val (.double sm), .second, .val (.double sk), .second, .val (.int 1)]) rfl ?_
      show G (T2.setTop (mkF m 69 #[.val (.ref a), .val (.double m1), .second, .val (.double e1), .second, .val (.double m2), .second, .val (.double e2), .second, .val (.double tl), .second, .val (.double sc), .second, .val (.double sc2), .second, .val (.double sm), .second, .val (.double sk), .second, .val (.int 1)] []))
      refine g_goto hG X2 hx (hb hby d7_69) (pc' := 123) (by decide) (by decide) ?_
      show G (T2.setTop (mkF m 123 #[.val (.ref a), .val (.double m1), .second, .val (.double e1), .second, .val (.double m2), .second, .val (.double e2), .second, .val (.double tl), .second, .val (.double sc), .second, .val (.double sc2), .second, .val (.double sm), .second, .val (.double sk), .second, .val (.int 1)] []))
      refine g_iload hG X2 hx (hb hby d7_123) (pc' := 125) rfl rfl ?_
      show G (T2.setTop (mkF m 125 #[.val (.ref a), .val (.double m1), .second, .val (.double e1), .second, .val (.double m2), .second, .val (.double e2), .second, .val (.double tl), .second, .val (.double sc), .second, .val (.double sc2), .second, .val (.double sm), .second, .val (.double sk), .second, .val (.int 1)] [(.int 1)]))
      exact e_retZ hGe X2 hx hrt hlk (hb hby d7_125) (Or.inr rfl) eh2 (by decide) (by decide) (⟨by rw [hrs]; simp [*], NF2, rfl⟩)
    · have _hh := hc
      refine g_ifYes hG X2 hx (hb hby d7_59) (pc' := 66) (by rcases ((own_lt D_sc D_sc2).2.1 (by omega)) with g | g <;> rw [← q58, g] <;> rfl) (by decide) (by decide) ?_
      show G (T2.setTop (mkF m 66 #[.val (.ref a), .val (.double m1), .second, .val (.double e1), .second, .val (.double m2), .second, .val (.double e2), .second, .val (.double tl), .second, .val (.double sc), .second, .val (.double sc2), .second, .val (.double sm), .second, .val (.double sk), .second, .unset] []))
      refine g_iconst hG X2 hx (hb hby d7_66) (pc' := 67) rfl (v := (0 : Int32)) rfl ?_
      show G (T2.setTop (mkF m 67 #[.val (.ref a), .val (.double m1), .second, .val (.double e1), .second, .val (.double m2), .second, .val (.double e2), .second, .val (.double tl), .second, .val (.double sc), .second, .val (.double sc2), .second, .val (.double sm), .second, .val (.double sk), .second, .unset] [(.int 0)]))
      refine g_istore hG X2 hx (hb hby d7_67) (pc' := 69) rfl (Ls' := #[.val (.ref a), .val (.double m1), .second, .val (.double e1), .second, .val (.double m2), .second, .val (.double e2), .second, .val (.double tl), .second, .val (.double sc), .second, .val (.double sc2), .second, .val (.double sm), .second, .val (.double sk), .second, .val (.int 0)]) rfl ?_
      show G (T2.setTop (mkF m 69 #[.val (.ref a), .val (.double m1), .second, .val (.double e1), .second, .val (.double m2), .second, .val (.double e2), .second, .val (.double tl), .second, .val (.double sc), .second, .val (.double sc2), .second, .val (.double sm), .second, .val (.double sk), .second, .val (.int 0)] []))
      refine g_goto hG X2 hx (hb hby d7_69) (pc' := 123) (by decide) (by decide) ?_
      show G (T2.setTop (mkF m 123 #[.val (.ref a), .val (.double m1), .second, .val (.double e1), .second, .val (.double m2), .second, .val (.double e2), .second, .val (.double tl), .second, .val (.double sc), .second, .val (.double sc2), .second, .val (.double sm), .second, .val (.double sk), .second, .val (.int 0)] []))
      refine g_iload hG X2 hx (hb hby d7_123) (pc' := 125) rfl rfl ?_
      show G (T2.setTop (mkF m 125 #[.val (.ref a), .val (.double m1), .second, .val (.double e1), .second, .val (.double m2), .second, .val (.double e2), .second, .val (.double tl), .second, .val (.double sc), .second, .val (.double sc2), .second, .val (.double sm), .second, .val (.double sk), .second, .val (.int 0)] [(.int 0)]))
      exact e_retZ hGe X2 hx hrt hlk (hb hby d7_125) (Or.inl rfl) eh2 (by decide) (by decide) (⟨by rw [hrs]; simp [*], NF2, rfl⟩)
  · have _hh := ha
    refine g_ifNo hG X2 hx (hb hby d7_40) (pc' := 43) (by rcases ((own_lt D_sc D_lo).2.1 (by omega)) with g | g <;> rw [← q39, g] <;> rfl) rfl ?_
    show G (T2.setTop (mkF m 43 #[.val (.ref a), .val (.double m1), .second, .val (.double e1), .second, .val (.double m2), .second, .val (.double e2), .second, .val (.double tl), .second, .val (.double sc), .second, .val (.double sc2), .second, .val (.double sm), .second, .val (.double sk), .second, .unset] []))
    refine g_dload hG X2 hx (hb hby d7_43) (pc' := 45) rfl rfl ?_
    show G (T2.setTop (mkF m 45 #[.val (.ref a), .val (.double m1), .second, .val (.double e1), .second, .val (.double m2), .second, .val (.double e2), .second, .val (.double tl), .second, .val (.double sc), .second, .val (.double sc2), .second, .val (.double sm), .second, .val (.double sk), .second, .unset] [(.double sc)]))
    refine g_dload hG X2 hx (hb hby d7_45) (pc' := 47) rfl rfl ?_
    show G (T2.setTop (mkF m 47 #[.val (.ref a), .val (.double m1), .second, .val (.double e1), .second, .val (.double m2), .second, .val (.double e2), .second, .val (.double tl), .second, .val (.double sc), .second, .val (.double sc2), .second, .val (.double sm), .second, .val (.double sk), .second, .unset] [(.double sc2), (.double sc)]))
    refine g_dload hG X2 hx (hb hby d7_47) (pc' := 49) rfl rfl ?_
    show G (T2.setTop (mkF m 49 #[.val (.ref a), .val (.double m1), .second, .val (.double e1), .second, .val (.double m2), .second, .val (.double e2), .second, .val (.double tl), .second, .val (.double sc), .second, .val (.double sc2), .second, .val (.double sm), .second, .val (.double sk), .second, .unset] [(.double sm), (.double sc2), (.double sc)]))
    refine g_dadd hG X2 hx (hb hby d7_49) (pc' := 50) rfl (by rw [hhi]; exact D_hi.noNaN) hhi ?_
    show G (T2.setTop (mkF m 50 #[.val (.ref a), .val (.double m1), .second, .val (.double e1), .second, .val (.double m2), .second, .val (.double e2), .second, .val (.double tl), .second, .val (.double sc), .second, .val (.double sc2), .second, .val (.double sm), .second, .val (.double sk), .second, .unset] [(.double hi), (.double sc)]))
    obtain ⟨v50, q50⟩ : ∃ zz : Int32, cmpValue (FP.dcmp sc hi) .l = zz := ⟨_, rfl⟩
    refine g_dcmp hG X2 hx (hb hby d7_50) (pc' := 51) rfl q50 ?_
    show G (T2.setTop (mkF m 51 #[.val (.ref a), .val (.double m1), .second, .val (.double e1), .second, .val (.double m2), .second, .val (.double e2), .second, .val (.double tl), .second, .val (.double sc), .second, .val (.double sc2), .second, .val (.double sm), .second, .val (.double sk), .second, .unset] [(.int v50)]))
    by_cases hb' : 4 * S2 + P < 4 * S
    · have _hh := hb'
      refine g_ifNo hG X2 hx (hb hby d7_51) (pc' := 54) (by rw [← q50, ((own_lt D_sc D_hi).2.2.1 (by omega))]; rfl) rfl ?_
      show G (T2.setTop (mkF m 54 #[.val (.ref a), .val (.double m1), .second, .val (.double e1), .second, .val (.double m2), .second, .val (.double e2), .second, .val (.double tl), .second, .val (.double sc), .second, .val (.double sc2), .second, .val (.double sm), .second, .val (.double sk), .second, .unset] []))
      refine g_dload hG X2 hx (hb hby d7_54) (pc' := 56) rfl rfl ?_
      show G (T2.setTop (mkF m 56 #[.val (.ref a), .val (.double m1), .second, .val (.double e1), .second, .val (.double m2), .second, .val (.double e2), .second, .val (.double tl), .second, .val (.double sc), .second, .val (.double sc2), .second, .val (.double sm), .second, .val (.double sk), .second, .unset] [(.double sc)]))
      refine g_dload hG X2 hx (hb hby d7_56) (pc' := 58) rfl rfl ?_
      show G (T2.setTop (mkF m 58 #[.val (.ref a), .val (.double m1), .second, .val (.double e1), .second, .val (.double m2), .second, .val (.double e2), .second, .val (.double tl), .second, .val (.double sc), .second, .val (.double sc2), .second, .val (.double sm), .second, .val (.double sk), .second, .unset] [(.double sc2), (.double sc)]))
      obtain ⟨v58, q58⟩ : ∃ zz : Int32, cmpValue (FP.dcmp sc sc2) .g = zz := ⟨_, rfl⟩
      refine g_dcmp hG X2 hx (hb hby d7_58) (pc' := 59) rfl q58 ?_
      show G (T2.setTop (mkF m 59 #[.val (.ref a), .val (.double m1), .second, .val (.double e1), .second, .val (.double m2), .second, .val (.double e2), .second, .val (.double tl), .second, .val (.double sc), .second, .val (.double sc2), .second, .val (.double sm), .second, .val (.double sk), .second, .unset] [(.int v58)]))
      by_cases hc : S < S2
      · have _hh := hc
        refine g_ifNo hG X2 hx (hb hby d7_59) (pc' := 62) (by rw [← q58, ((own_lt D_sc D_sc2).1 (by omega))]; rfl) rfl ?_
        show G (T2.setTop (mkF m 62 #[.val (.ref a), .val (.double m1), .second, .val (.double e1), .second, .val (.double m2), .second, .val (.double e2), .second, .val (.double tl), .second, .val (.double sc), .second, .val (.double sc2), .second, .val (.double sm), .second, .val (.double sk), .second, .unset] []))
        refine g_iconst hG X2 hx (hb hby d7_62) (pc' := 63) rfl (v := (1 : Int32)) rfl ?_
        show G (T2.setTop (mkF m 63 #[.val (.ref a), .val (.double m1), .second, .val (.double e1), .second, .val (.double m2), .second, .val (.double e2), .second, .val (.double tl), .second, .val (.double sc), .second, .val (.double sc2), .second, .val (.double sm), .second, .val (.double sk), .second, .unset] [(.int 1)]))
        refine g_goto hG X2 hx (hb hby d7_63) (pc' := 67) (by decide) (by decide) ?_
        show G (T2.setTop (mkF m 67 #[.val (.ref a), .val (.double m1), .second, .val (.double e1), .second, .val (.double m2), .second, .val (.double e2), .second, .val (.double tl), .second, .val (.double sc), .second, .val (.double sc2), .second, .val (.double sm), .second, .val (.double sk), .second, .unset] [(.int 1)]))
        refine g_istore hG X2 hx (hb hby d7_67) (pc' := 69) rfl (Ls' := #[.val (.ref a), .val (.double m1), .second, .val (.double e1), .second, .val (.double m2), .second, .val (.double e2), .second, .val (.double tl), .second, .val (.double sc), .second, .val (.double sc2), .second, .val (.double sm), .second, .val (.double sk), .second, .val (.int 1)]) rfl ?_
        show G (T2.setTop (mkF m 69 #[.val (.ref a), .val (.double m1), .second, .val (.double e1), .second, .val (.double m2), .second, .val (.double e2), .second, .val (.double tl), .second, .val (.double sc), .second, .val (.double sc2), .second, .val (.double sm), .second, .val (.double sk), .second, .val (.int 1)] []))
        refine g_goto hG X2 hx (hb hby d7_69) (pc' := 123) (by decide) (by decide) ?_
        show G (T2.setTop (mkF m 123 #[.val (.ref a), .val (.double m1), .second, .val (.double e1), .second, .val (.double m2), .second, .val (.double e2), .second, .val (.double tl), .second, .val (.double sc), .second, .val (.double sc2), .second, .val (.double sm), .second, .val (.double sk), .second, .val (.int 1)] []))
        refine g_iload hG X2 hx (hb hby d7_123) (pc' := 125) rfl rfl ?_
        show G (T2.setTop (mkF m 125 #[.val (.ref a), .val (.double m1), .second, .val (.double e1), .second, .val (.double m2), .second, .val (.double e2), .second, .val (.double tl), .second, .val (.double sc), .second, .val (.double sc2), .second, .val (.double sm), .second, .val (.double sk), .second, .val (.int 1)] [(.int 1)]))
        exact e_retZ hGe X2 hx hrt hlk (hb hby d7_125) (Or.inr rfl) eh2 (by decide) (by decide) (⟨by rw [hrs]; simp [*], NF2, rfl⟩)
      · have _hh := hc
        refine g_ifYes hG X2 hx (hb hby d7_59) (pc' := 66) (by rcases ((own_lt D_sc D_sc2).2.1 (by omega)) with g | g <;> rw [← q58, g] <;> rfl) (by decide) (by decide) ?_
        show G (T2.setTop (mkF m 66 #[.val (.ref a), .val (.double m1), .second, .val (.double e1), .second, .val (.double m2), .second, .val (.double e2), .second, .val (.double tl), .second, .val (.double sc), .second, .val (.double sc2), .second, .val (.double sm), .second, .val (.double sk), .second, .unset] []))
        refine g_iconst hG X2 hx (hb hby d7_66) (pc' := 67) rfl (v := (0 : Int32)) rfl ?_
        show G (T2.setTop (mkF m 67 #[.val (.ref a), .val (.double m1), .second, .val (.double e1), .second, .val (.double m2), .second, .val (.double e2), .second, .val (.double tl), .second, .val (.double sc), .second, .val (.double sc2), .second, .val (.double sm), .second, .val (.double sk), .second, .unset] [(.int 0)]))
        refine g_istore hG X2 hx (hb hby d7_67) (pc' := 69) rfl (Ls' := #[.val (.ref a), .val (.double m1), .second, .val (.double e1), .second, .val (.double m2), .second, .val (.double e2), .second, .val (.double tl), .second, .val (.double sc), .second, .val (.double sc2), .second, .val (.double sm), .second, .val (.double sk), .second, .val (.int 0)]) rfl ?_
        show G (T2.setTop (mkF m 69 #[.val (.ref a), .val (.double m1), .second, .val (.double e1), .second, .val (.double m2), .second, .val (.double e2), .second, .val (.double tl), .second, .val (.double sc), .second, .val (.double sc2), .second, .val (.double sm), .second, .val (.double sk), .second, .val (.int 0)] []))
        refine g_goto hG X2 hx (hb hby d7_69) (pc' := 123) (by decide) (by decide) ?_
        show G (T2.setTop (mkF m 123 #[.val (.ref a), .val (.double m1), .second, .val (.double e1), .second, .val (.double m2), .second, .val (.double e2), .second, .val (.double tl), .second, .val (.double sc), .second, .val (.double sc2), .second, .val (.double sm), .second, .val (.double sk), .second, .val (.int 0)] []))
        refine g_iload hG X2 hx (hb hby d7_123) (pc' := 125) rfl rfl ?_
        show G (T2.setTop (mkF m 125 #[.val (.ref a), .val (.double m1), .second, .val (.double e1), .second, .val (.double m2), .second, .val (.double e2), .second, .val (.double tl), .second, .val (.double sc), .second, .val (.double sc2), .second, .val (.double sm), .second, .val (.double sk), .second, .val (.int 0)] [(.int 0)]))
        exact e_retZ hGe X2 hx hrt hlk (hb hby d7_125) (Or.inl rfl) eh2 (by decide) (by decide) (⟨by rw [hrs]; simp [*], NF2, rfl⟩)
    · have _hh := hb'
      refine g_ifYes hG X2 hx (hb hby d7_51) (pc' := 72) (by rcases ((own_lt D_sc D_hi).2.2.2 (by omega)) with g | g <;> rw [← q50, g] <;> rfl) (by decide) (by decide) ?_
      show G (T2.setTop (mkF m 72 #[.val (.ref a), .val (.double m1), .second, .val (.double e1), .second, .val (.double m2), .second, .val (.double e2), .second, .val (.double tl), .second, .val (.double sc), .second, .val (.double sc2), .second, .val (.double sm), .second, .val (.double sk), .second, .unset] []))
      refine g_dloadN hG X2 hx (hb hby d7_72) (pc' := 73) rfl rfl ?_
      show G (T2.setTop (mkF m 73 #[.val (.ref a), .val (.double m1), .second, .val (.double e1), .second, .val (.double m2), .second, .val (.double e2), .second, .val (.double tl), .second, .val (.double sc), .second, .val (.double sc2), .second, .val (.double sm), .second, .val (.double sk), .second, .unset] [(.double m1)]))
      refine g_dload hG X2 hx (hb hby d7_73) (pc' := 75) rfl rfl ?_
      show G (T2.setTop (mkF m 75 #[.val (.ref a), .val (.double m1), .second, .val (.double e1), .second, .val (.double m2), .second, .val (.double e2), .second, .val (.double tl), .second, .val (.double sc), .second, .val (.double sc2), .second, .val (.double sm), .second, .val (.double sk), .second, .unset] [(.double m2), (.double m1)]))
      refine g_dload hG X2 hx (hb hby d7_75) (pc' := 77) rfl rfl ?_
      show G (T2.setTop (mkF m 77 #[.val (.ref a), .val (.double m1), .second, .val (.double e1), .second, .val (.double m2), .second, .val (.double e2), .second, .val (.double tl), .second, .val (.double sc), .second, .val (.double sc2), .second, .val (.double sm), .second, .val (.double sk), .second, .unset] [(.double sk), (.double m2), (.double m1)]))
      refine g_dsub hG X2 hx (hb hby d7_77) (pc' := 78) rfl (by rw [hlo2]; exact D_lo2.noNaN) hlo2 ?_
      show G (T2.setTop (mkF m 78 #[.val (.ref a), .val (.double m1), .second, .val (.double e1), .second, .val (.double m2), .second, .val (.double e2), .second, .val (.double tl), .second, .val (.double sc), .second, .val (.double sc2), .second, .val (.double sm), .second, .val (.double sk), .second, .unset] [(.double lo2), (.double m1)]))
      obtain ⟨v78, q78⟩ : ∃ zz : Int32, cmpValue (FP.dcmp m1 lo2) .g = zz := ⟨_, rfl⟩
      refine g_dcmp hG X2 hx (hb hby d7_78) (pc' := 79) rfl q78 ?_
      show G (T2.setTop (mkF m 79 #[.val (.ref a), .val (.double m1), .second, .val (.double e1), .second, .val (.double m2), .second, .val (.double e2), .second, .val (.double tl), .second, .val (.double sc), .second, .val (.double sc2), .second, .val (.double sm), .second, .val (.double sk), .second, .unset] [(.int v78)]))
      by_cases hd : 4 * M < 4 * M2 - R
      · have _hh := hd
        refine g_ifYes hG X2 hx (hb hby d7_79) (pc' := 92) (by rw [← q78, ((own_lt D_m1 D_lo2).1 (by omega))]; rfl) (by decide) (by decide) ?_
        show G (T2.setTop (mkF m 92 #[.val (.ref a), .val (.double m1), .second, .val (.double e1), .second, .val (.double m2), .second, .val (.double e2), .second, .val (.double tl), .second, .val (.double sc), .second, .val (.double sc2), .second, .val (.double sm), .second, .val (.double sk), .second, .unset] []))
        refine g_dloadN hG X2 hx (hb hby d7_92) (pc' := 93) rfl rfl ?_
        show G (T2.setTop (mkF m 93 #[.val (.ref a), .val (.double m1), .second, .val (.double e1), .second, .val (.double m2), .second, .val (.double e2), .second, .val (.double tl), .second, .val (.double sc), .second, .val (.double sc2), .second, .val (.double sm), .second, .val (.double sk), .second, .unset] [(.double m1)]))
        refine g_dload hG X2 hx (hb hby d7_93) (pc' := 95) rfl rfl ?_
        show G (T2.setTop (mkF m 95 #[.val (.ref a), .val (.double m1), .second, .val (.double e1), .second, .val (.double m2), .second, .val (.double e2), .second, .val (.double tl), .second, .val (.double sc), .second, .val (.double sc2), .second, .val (.double sm), .second, .val (.double sk), .second, .unset] [(.double m2), (.double m1)]))
        obtain ⟨v95, q95⟩ : ∃ zz : Int32, cmpValue (FP.dcmp m1 m2) .g = zz := ⟨_, rfl⟩
        refine g_dcmp hG X2 hx (hb hby d7_95) (pc' := 96) rfl q95 ?_
        show G (T2.setTop (mkF m 96 #[.val (.ref a), .val (.double m1), .second, .val (.double e1), .second, .val (.double m2), .second, .val (.double e2), .second, .val (.double tl), .second, .val (.double sc), .second, .val (.double sc2), .second, .val (.double sm), .second, .val (.double sk), .second, .unset] [(.int v95)]))
        by_cases hf : M < M2
        · have _hh := hf
          refine g_ifNo hG X2 hx (hb hby d7_96) (pc' := 99) (by rw [← q95, ((own_lt D_m1 D_m2).1 (by omega))]; rfl) rfl ?_
          show G (T2.setTop (mkF m 99 #[.val (.ref a), .val (.double m1), .second, .val (.double e1), .second, .val (.double m2), .second, .val (.double e2), .second, .val (.double tl), .second, .val (.double sc), .second, .val (.double sc2), .second, .val (.double sm), .second, .val (.double sk), .second, .unset] []))
          refine g_iconst hG X2 hx (hb hby d7_99) (pc' := 100) rfl (v := (1 : Int32)) rfl ?_
          show G (T2.setTop (mkF m 100 #[.val (.ref a), .val (.double m1), .second, .val (.double e1), .second, .val (.double m2), .second, .val (.double e2), .second, .val (.double tl), .second, .val (.double sc), .second, .val (.double sc2), .second, .val (.double sm), .second, .val (.double sk), .second, .unset] [(.int 1)]))
          refine g_goto hG X2 hx (hb hby d7_100) (pc' := 104) (by decide) (by decide) ?_
          show G (T2.setTop (mkF m 104 #[.val (.ref a), .val (.double m1), .second, .val (.double e1), .second, .val (.double m2), .second, .val (.double e2), .second, .val (.double tl), .second, .val (.double sc), .second, .val (.double sc2), .second, .val (.double sm), .second, .val (.double sk), .second, .unset] [(.int 1)]))
          refine g_istore hG X2 hx (hb hby d7_104) (pc' := 106) rfl (Ls' := #[.val (.ref a), .val (.double m1), .second, .val (.double e1), .second, .val (.double m2), .second, .val (.double e2), .second, .val (.double tl), .second, .val (.double sc), .second, .val (.double sc2), .second, .val (.double sm), .second, .val (.double sk), .second, .val (.int 1)]) rfl ?_
          show G (T2.setTop (mkF m 106 #[.val (.ref a), .val (.double m1), .second, .val (.double e1), .second, .val (.double m2), .second, .val (.double e2), .second, .val (.double tl), .second, .val (.double sc), .second, .val (.double sc2), .second, .val (.double sm), .second, .val (.double sk), .second, .val (.int 1)] []))
          refine g_goto hG X2 hx (hb hby d7_106) (pc' := 123) (by decide) (by decide) ?_
          show G (T2.setTop (mkF m 123 #[.val (.ref a), .val (.double m1), .second, .val (.double e1), .second, .val (.double m2), .second, .val (.double e2), .second, .val (.double tl), .second, .val (.double sc), .second, .val (.double sc2), .second, .val (.double sm), .second, .val (.double sk), .second, .val (.int 1)] []))
          refine g_iload hG X2 hx (hb hby d7_123) (pc' := 125) rfl rfl ?_
          show G (T2.setTop (mkF m 125 #[.val (.ref a), .val (.double m1), .second, .val (.double e1), .second, .val (.double m2), .second, .val (.double e2), .second, .val (.double tl), .second, .val (.double sc), .second, .val (.double sc2), .second, .val (.double sm), .second, .val (.double sk), .second, .val (.int 1)] [(.int 1)]))
          exact e_retZ hGe X2 hx hrt hlk (hb hby d7_125) (Or.inr rfl) eh2 (by decide) (by decide) (⟨by rw [hrs]; simp [*], NF2, rfl⟩)
        · have _hh := hf
          refine g_ifYes hG X2 hx (hb hby d7_96) (pc' := 103) (by rcases ((own_lt D_m1 D_m2).2.1 (by omega)) with g | g <;> rw [← q95, g] <;> rfl) (by decide) (by decide) ?_
          show G (T2.setTop (mkF m 103 #[.val (.ref a), .val (.double m1), .second, .val (.double e1), .second, .val (.double m2), .second, .val (.double e2), .second, .val (.double tl), .second, .val (.double sc), .second, .val (.double sc2), .second, .val (.double sm), .second, .val (.double sk), .second, .unset] []))
          refine g_iconst hG X2 hx (hb hby d7_103) (pc' := 104) rfl (v := (0 : Int32)) rfl ?_
          show G (T2.setTop (mkF m 104 #[.val (.ref a), .val (.double m1), .second, .val (.double e1), .second, .val (.double m2), .second, .val (.double e2), .second, .val (.double tl), .second, .val (.double sc), .second, .val (.double sc2), .second, .val (.double sm), .second, .val (.double sk), .second, .unset] [(.int 0)]))
          refine g_istore hG X2 hx (hb hby d7_104) (pc' := 106) rfl (Ls' := #[.val (.ref a), .val (.double m1), .second, .val (.double e1), .second, .val (.double m2), .second, .val (.double e2), .second, .val (.double tl), .second, .val (.double sc), .second, .val (.double sc2), .second, .val (.double sm), .second, .val (.double sk), .second, .val (.int 0)]) rfl ?_
          show G (T2.setTop (mkF m 106 #[.val (.ref a), .val (.double m1), .second, .val (.double e1), .second, .val (.double m2), .second, .val (.double e2), .second, .val (.double tl), .second, .val (.double sc), .second, .val (.double sc2), .second, .val (.double sm), .second, .val (.double sk), .second, .val (.int 0)] []))
          refine g_goto hG X2 hx (hb hby d7_106) (pc' := 123) (by decide) (by decide) ?_
          show G (T2.setTop (mkF m 123 #[.val (.ref a), .val (.double m1), .second, .val (.double e1), .second, .val (.double m2), .second, .val (.double e2), .second, .val (.double tl), .second, .val (.double sc), .second, .val (.double sc2), .second, .val (.double sm), .second, .val (.double sk), .second, .val (.int 0)] []))
          refine g_iload hG X2 hx (hb hby d7_123) (pc' := 125) rfl rfl ?_
          show G (T2.setTop (mkF m 125 #[.val (.ref a), .val (.double m1), .second, .val (.double e1), .second, .val (.double m2), .second, .val (.double e2), .second, .val (.double tl), .second, .val (.double sc), .second, .val (.double sc2), .second, .val (.double sm), .second, .val (.double sk), .second, .val (.int 0)] [(.int 0)]))
          exact e_retZ hGe X2 hx hrt hlk (hb hby d7_125) (Or.inl rfl) eh2 (by decide) (by decide) (⟨by rw [hrs]; simp [*], NF2, rfl⟩)
      · have _hh := hd
        refine g_ifNo hG X2 hx (hb hby d7_79) (pc' := 82) (by rcases ((own_lt D_m1 D_lo2).2.1 (by omega)) with g | g <;> rw [← q78, g] <;> rfl) rfl ?_
        show G (T2.setTop (mkF m 82 #[.val (.ref a), .val (.double m1), .second, .val (.double e1), .second, .val (.double m2), .second, .val (.double e2), .second, .val (.double tl), .second, .val (.double sc), .second, .val (.double sc2), .second, .val (.double sm), .second, .val (.double sk), .second, .unset] []))
        refine g_dloadN hG X2 hx (hb hby d7_82) (pc' := 83) rfl rfl ?_
        show G (T2.setTop (mkF m 83 #[.val (.ref a), .val (.double m1), .second, .val (.double e1), .second, .val (.double m2), .second, .val (.double e2), .second, .val (.double tl), .second, .val (.double sc), .second, .val (.double sc2), .second, .val (.double sm), .second, .val (.double sk), .second, .unset] [(.double m1)]))
        refine g_dload hG X2 hx (hb hby d7_83) (pc' := 85) rfl rfl ?_
        show G (T2.setTop (mkF m 85 #[.val (.ref a), .val (.double m1), .second, .val (.double e1), .second, .val (.double m2), .second, .val (.double e2), .second, .val (.double tl), .second, .val (.double sc), .second, .val (.double sc2), .second, .val (.double sm), .second, .val (.double sk), .second, .unset] [(.double m2), (.double m1)]))
        refine g_dload hG X2 hx (hb hby d7_85) (pc' := 87) rfl rfl ?_
        show G (T2.setTop (mkF m 87 #[.val (.ref a), .val (.double m1), .second, .val (.double e1), .second, .val (.double m2), .second, .val (.double e2), .second, .val (.double tl), .second, .val (.double sc), .second, .val (.double sc2), .second, .val (.double sm), .second, .val (.double sk), .second, .unset] [(.double sk), (.double m2), (.double m1)]))
        refine g_dadd hG X2 hx (hb hby d7_87) (pc' := 88) rfl (by rw [hhi2]; exact D_hi2.noNaN) hhi2 ?_
        show G (T2.setTop (mkF m 88 #[.val (.ref a), .val (.double m1), .second, .val (.double e1), .second, .val (.double m2), .second, .val (.double e2), .second, .val (.double tl), .second, .val (.double sc), .second, .val (.double sc2), .second, .val (.double sm), .second, .val (.double sk), .second, .unset] [(.double hi2), (.double m1)]))
        obtain ⟨v88, q88⟩ : ∃ zz : Int32, cmpValue (FP.dcmp m1 hi2) .l = zz := ⟨_, rfl⟩
        refine g_dcmp hG X2 hx (hb hby d7_88) (pc' := 89) rfl q88 ?_
        show G (T2.setTop (mkF m 89 #[.val (.ref a), .val (.double m1), .second, .val (.double e1), .second, .val (.double m2), .second, .val (.double e2), .second, .val (.double tl), .second, .val (.double sc), .second, .val (.double sc2), .second, .val (.double sm), .second, .val (.double sk), .second, .unset] [(.int v88)]))
        by_cases he : 4 * M2 + R < 4 * M
        · have _hh := he
          refine g_ifNo hG X2 hx (hb hby d7_89) (pc' := 92) (by rw [← q88, ((own_lt D_m1 D_hi2).2.2.1 (by omega))]; rfl) rfl ?_
          show G (T2.setTop (mkF m 92 #[.val (.ref a), .val (.double m1), .second, .val (.double e1), .second, .val (.double m2), .second, .val (.double e2), .second, .val (.double tl), .second, .val (.double sc), .second, .val (.double sc2), .second, .val (.double sm), .second, .val (.double sk), .second, .unset] []))
          refine g_dloadN hG X2 hx (hb hby d7_92) (pc' := 93) rfl rfl ?_
          show G (T2.setTop (mkF m 93 #[.val (.ref a), .val (.double m1), .second, .val (.double e1), .second, .val (.double m2), .second, .val (.double e2), .second, .val (.double tl), .second, .val (.double sc), .second, .val (.double sc2), .second, .val (.double sm), .second, .val (.double sk), .second, .unset] [(.double m1)]))
          refine g_dload hG X2 hx (hb hby d7_93) (pc' := 95) rfl rfl ?_
          show G (T2.setTop (mkF m 95 #[.val (.ref a), .val (.double m1), .second, .val (.double e1), .second, .val (.double m2), .second, .val (.double e2), .second, .val (.double tl), .second, .val (.double sc), .second, .val (.double sc2), .second, .val (.double sm), .second, .val (.double sk), .second, .unset] [(.double m2), (.double m1)]))
          obtain ⟨v95, q95⟩ : ∃ zz : Int32, cmpValue (FP.dcmp m1 m2) .g = zz := ⟨_, rfl⟩
          refine g_dcmp hG X2 hx (hb hby d7_95) (pc' := 96) rfl q95 ?_
          show G (T2.setTop (mkF m 96 #[.val (.ref a), .val (.double m1), .second, .val (.double e1), .second, .val (.double m2), .second, .val (.double e2), .second, .val (.double tl), .second, .val (.double sc), .second, .val (.double sc2), .second, .val (.double sm), .second, .val (.double sk), .second, .unset] [(.int v95)]))
          by_cases hf : M < M2
          · have _hh := hf
            refine g_ifNo hG X2 hx (hb hby d7_96) (pc' := 99) (by rw [← q95, ((own_lt D_m1 D_m2).1 (by omega))]; rfl) rfl ?_
            show G (T2.setTop (mkF m 99 #[.val (.ref a), .val (.double m1), .second, .val (.double e1), .second, .val (.double m2), .second, .val (.double e2), .second, .val (.double tl), .second, .val (.double sc), .second, .val (.double sc2), .second, .val (.double sm), .second, .val (.double sk), .second, .unset] []))
            refine g_iconst hG X2 hx (hb hby d7_99) (pc' := 100) rfl (v := (1 : Int32)) rfl ?_
            show G (T2.setTop (mkF m 100 #[.val (.ref a), .val (.double m1), .second, .val (.double e1), .second, .val (.double m2), .second, .val (.double e2), .second, .val (.double tl), .second, .val (.double sc), .second, .val (.double sc2), .second, .val (.double sm), .second, .val (.double sk), .second, .unset] [(.int 1)]))
            refine g_goto hG X2 hx (hb hby d7_100) (pc' := 104) (by decide) (by decide) ?_
            show G (T2.setTop (mkF m 104 #[.val (.ref a), .val (.double m1), .second, .val (.double e1), .second, .val (.double m2), .second, .val (.double e2), .second, .val (.double tl), .second, .val (.double sc), .second, .val (.double sc2), .second, .val (.double sm), .second, .val (.double sk), .second, .unset] [(.int 1)]))
            refine g_istore hG X2 hx (hb hby d7_104) (pc' := 106) rfl (Ls' := #[.val (.ref a), .val (.double m1), .second, .val (.double e1), .second, .val (.double m2), .second, .val (.double e2), .second, .val (.double tl), .second, .val (.double sc), .second, .val (.double sc2), .second, .val (.double sm), .second, .val (.double sk), .second, .val (.int 1)]) rfl ?_
            show G (T2.setTop (mkF m 106 #[.val (.ref a), .val (.double m1), .second, .val (.double e1), .second, .val (.double m2), .second, .val (.double e2), .second, .val (.double tl), .second, .val (.double sc), .second, .val (.double sc2), .second, .val (.double sm), .second, .val (.double sk), .second, .val (.int 1)] []))
            refine g_goto hG X2 hx (hb hby d7_106) (pc' := 123) (by decide) (by decide) ?_
            show G (T2.setTop (mkF m 123 #[.val (.ref a), .val (.double m1), .second, .val (.double e1), .second, .val (.double m2), .second, .val (.double e2), .second, .val (.double tl), .second, .val (.double sc), .second, .val (.double sc2), .second, .val (.double sm), .second, .val (.double sk), .second, .val (.int 1)] []))
            refine g_iload hG X2 hx (hb hby d7_123) (pc' := 125) rfl rfl ?_
            show G (T2.setTop (mkF m 125 #[.val (.ref a), .val (.double m1), .second, .val (.double e1), .second, .val (.double m2), .second, .val (.double e2), .second, .val (.double tl), .second, .val (.double sc), .second, .val (.double sc2), .second, .val (.double sm), .second, .val (.double sk), .second, .val (.int 1)] [(.int 1)]))
            exact e_retZ hGe X2 hx hrt hlk (hb hby d7_125) (Or.inr rfl) eh2 (by decide) (by decide) (⟨by rw [hrs]; simp [*], NF2, rfl⟩)
          · have _hh := hf
            refine g_ifYes hG X2 hx (hb hby d7_96) (pc' := 103) (by rcases ((own_lt D_m1 D_m2).2.1 (by omega)) with g | g <;> rw [← q95, g] <;> rfl) (by decide) (by decide) ?_
            show G (T2.setTop (mkF m 103 #[.val (.ref a), .val (.double m1), .second, .val (.double e1), .second, .val (.double m2), .second, .val (.double e2), .second, .val (.double tl), .second, .val (.double sc), .second, .val (.double sc2), .second, .val (.double sm), .second, .val (.double sk), .second, .unset] []))
            refine g_iconst hG X2 hx (hb hby d7_103) (pc' := 104) rfl (v := (0 : Int32)) rfl ?_
            show G (T2.setTop (mkF m 104 #[.val (.ref a), .val (.double m1), .second, .val (.double e1), .second, .val (.double m2), .second, .val (.double e2), .second, .val (.double tl), .second, .val (.double sc), .second, .val (.double sc2), .second, .val (.double sm), .second, .val (.double sk), .second, .unset] [(.int 0)]))
            refine g_istore hG X2 hx (hb hby d7_104) (pc' := 106) rfl (Ls' := #[.val (.ref a), .val (.double m1), .second, .val (.double e1), .second, .val (.double m2), .second, .val (.double e2), .second, .val (.double tl), .second, .val (.double sc), .second, .val (.double sc2), .second, .val (.double sm), .second, .val (.double sk), .second, .val (.int 0)]) rfl ?_
            show G (T2.setTop (mkF m 106 #[.val (.ref a), .val (.double m1), .second, .val (.double e1), .second, .val (.double m2), .second, .val (.double e2), .second, .val (.double tl), .second, .val (.double sc), .second, .val (.double sc2), .second, .val (.double sm), .second, .val (.double sk), .second, .val (.int 0)] []))
            refine g_goto hG X2 hx (hb hby d7_106) (pc' := 123) (by decide) (by decide) ?_
            show G (T2.setTop (mkF m 123 #[.val (.ref a), .val (.double m1), .second, .val (.double e1), .second, .val (.double m2), .second, .val (.double e2), .second, .val (.double tl), .second, .val (.double sc), .second, .val (.double sc2), .second, .val (.double sm), .second, .val (.double sk), .second, .val (.int 0)] []))
            refine g_iload hG X2 hx (hb hby d7_123) (pc' := 125) rfl rfl ?_
            show G (T2.setTop (mkF m 125 #[.val (.ref a), .val (.double m1), .second, .val (.double e1), .second, .val (.double m2), .second, .val (.double e2), .second, .val (.double tl), .second, .val (.double sc), .second, .val (.double sc2), .second, .val (.double sm), .second, .val (.double sk), .second, .val (.int 0)] [(.int 0)]))
            exact e_retZ hGe X2 hx hrt hlk (hb hby d7_125) (Or.inl rfl) eh2 (by decide) (by decide) (⟨by rw [hrs]; simp [*], NF2, rfl⟩)
        · have _hh := he
          refine g_ifYes hG X2 hx (hb hby d7_89) (pc' := 109) (by rcases ((own_lt D_m1 D_hi2).2.2.2 (by omega)) with g | g <;> rw [← q88, g] <;> rfl) (by decide) (by decide) ?_
          show G (T2.setTop (mkF m 109 #[.val (.ref a), .val (.double m1), .second, .val (.double e1), .second, .val (.double m2), .second, .val (.double e2), .second, .val (.double tl), .second, .val (.double sc), .second, .val (.double sc2), .second, .val (.double sm), .second, .val (.double sk), .second, .unset] []))
          refine g_dloadN hG X2 hx (hb hby d7_109) (pc' := 110) rfl rfl ?_
          show G (T2.setTop (mkF m 110 #[.val (.ref a), .val (.double m1), .second, .val (.double e1), .second, .val (.double m2), .second, .val (.double e2), .second, .val (.double tl), .second, .val (.double sc), .second, .val (.double sc2), .second, .val (.double sm), .second, .val (.double sk), .second, .unset] [(.double e1)]))
          refine g_dload hG X2 hx (hb hby d7_110) (pc' := 112) rfl rfl ?_
          show G (T2.setTop (mkF m 112 #[.val (.ref a), .val (.double m1), .second, .val (.double e1), .second, .val (.double m2), .second, .val (.double e2), .second, .val (.double tl), .second, .val (.double sc), .second, .val (.double sc2), .second, .val (.double sm), .second, .val (.double sk), .second, .unset] [(.double e2), (.double e1)]))
          obtain ⟨v112, q112⟩ : ∃ zz : Int32, cmpValue (FP.dcmp e1 e2) .g = zz := ⟨_, rfl⟩
          refine g_dcmp hG X2 hx (hb hby d7_112) (pc' := 113) rfl q112 ?_
          show G (T2.setTop (mkF m 113 #[.val (.ref a), .val (.double m1), .second, .val (.double e1), .second, .val (.double m2), .second, .val (.double e2), .second, .val (.double tl), .second, .val (.double sc), .second, .val (.double sc2), .second, .val (.double sm), .second, .val (.double sk), .second, .unset] [(.int v112)]))
          by_cases hg : C < C2
          · have _hh := hg
            refine g_ifNo hG X2 hx (hb hby d7_113) (pc' := 116) (by rw [← q112, ((own_lt D_e1 D_e2).1 (by omega))]; rfl) rfl ?_
            show G (T2.setTop (mkF m 116 #[.val (.ref a), .val (.double m1), .second, .val (.double e1), .second, .val (.double m2), .second, .val (.double e2), .second, .val (.double tl), .second, .val (.double sc), .second, .val (.double sc2), .second, .val (.double sm), .second, .val (.double sk), .second, .unset] []))
            refine g_iconst hG X2 hx (hb hby d7_116) (pc' := 117) rfl (v := (1 : Int32)) rfl ?_
            show G (T2.setTop (mkF m 117 #[.val (.ref a), .val (.double m1), .second, .val (.double e1), .second, .val (.double m2), .second, .val (.double e2), .second, .val (.double tl), .second, .val (.double sc), .second, .val (.double sc2), .second, .val (.double sm), .second, .val (.double sk), .second, .unset] [(.int 1)]))
            refine g_goto hG X2 hx (hb hby d7_117) (pc' := 121) (by decide) (by decide) ?_
            show G (T2.setTop (mkF m 121 #[.val (.ref a), .val (.double m1), .second, .val (.double e1), .second, .val (.double m2), .second, .val (.double e2), .second, .val (.double tl), .second, .val (.double sc), .second, .val (.double sc2), .second, .val (.double sm), .second, .val (.double sk), .second, .unset] [(.int 1)]))
            refine g_istore hG X2 hx (hb hby d7_121) (pc' := 123) rfl (Ls' := #[.val (.ref a), .val (.double m1), .second, .val (.double e1), .second, .val (.double m2), .second, .val (.double e2), .second, .val (.double tl), .second, .val (.double sc), .second, .val (.double sc2), .second, .val (.double sm), .second, .val (.double sk), .second, .val (.int 1)]) rfl ?_
            show G (T2.setTop (mkF m 123 #[.val (.ref a), .val (.double m1), .second, .val (.double e1), .second, .val (.double m2), .second, .val (.double e2), .second, .val (.double tl), .second, .val (.double sc), .second, .val (.double sc2), .second, .val (.double sm), .second, .val (.double sk), .second, .val (.int 1)] []))
            refine g_iload hG X2 hx (hb hby d7_123) (pc' := 125) rfl rfl ?_
            show G (T2.setTop (mkF m 125 #[.val (.ref a), .val (.double m1), .second, .val (.double e1), .second, .val (.double m2), .second, .val (.double e2), .second, .val (.double tl), .second, .val (.double sc), .second, .val (.double sc2), .second, .val (.double sm), .second, .val (.double sk), .second, .val (.int 1)] [(.int 1)]))
            exact e_retZ hGe X2 hx hrt hlk (hb hby d7_125) (Or.inr rfl) eh2 (by decide) (by decide) (⟨by rw [hrs]; simp [*], NF2, rfl⟩)
          · have _hh := hg
            refine g_ifYes hG X2 hx (hb hby d7_113) (pc' := 120) (by rcases ((own_lt D_e1 D_e2).2.1 (by omega)) with g | g <;> rw [← q112, g] <;> rfl) (by decide) (by decide) ?_
            show G (T2.setTop (mkF m 120 #[.val (.ref a), .val (.double m1), .second, .val (.double e1), .second, .val (.double m2), .second, .val (.double e2), .second, .val (.double tl), .second, .val (.double sc), .second, .val (.double sc2), .second, .val (.double sm), .second, .val (.double sk), .second, .unset] []))
            refine g_iconst hG X2 hx (hb hby d7_120) (pc' := 121) rfl (v := (0 : Int32)) rfl ?_
            show G (T2.setTop (mkF m 121 #[.val (.ref a), .val (.double m1), .second, .val (.double e1), .second, .val (.double m2), .second, .val (.double e2), .second, .val (.double tl), .second, .val (.double sc), .second, .val (.double sc2), .second, .val (.double sm), .second, .val (.double sk), .second, .unset] [(.int 0)]))
            refine g_istore hG X2 hx (hb hby d7_121) (pc' := 123) rfl (Ls' := #[.val (.ref a), .val (.double m1), .second, .val (.double e1), .second, .val (.double m2), .second, .val (.double e2), .second, .val (.double tl), .second, .val (.double sc), .second, .val (.double sc2), .second, .val (.double sm), .second, .val (.double sk), .second, .val (.int 0)]) rfl ?_
            show G (T2.setTop (mkF m 123 #[.val (.ref a), .val (.double m1), .second, .val (.double e1), .second, .val (.double m2), .second, .val (.double e2), .second, .val (.double tl), .second, .val (.double sc), .second, .val (.double sc2), .second, .val (.double sm), .second, .val (.double sk), .second, .val (.int 0)] []))
            refine g_iload hG X2 hx (hb hby d7_123) (pc' := 125) rfl rfl ?_
            show G (T2.setTop (mkF m 125 #[.val (.ref a), .val (.double m1), .second, .val (.double e1), .second, .val (.double m2), .second, .val (.double e2), .second, .val (.double tl), .second, .val (.double sc), .second, .val (.double sc2), .second, .val (.double sm), .second, .val (.double sk), .second, .val (.int 0)] [(.int 0)]))
            exact e_retZ hGe X2 hx hrt hlk (hb hby d7_125) (Or.inl rfl) eh2 (by decide) (by decide) (⟨by rw [hrs]; simp [*], NF2, rfl⟩)

def Q_rmAbs (Z : State) (xx : Int64) (h0 : Heap) (n0 : Nat) (v : Option Value) (h : Heap) (L : List Loc) : Prop := v = some (.long (if xx < 0 then -xx else xx)) ∧ Fr n0 L ∧ h = h0
set_option maxRecDepth 65536 in
set_option maxHeartbeats 40000000 in
theorem rmAbs (l : Launch) (Z : State) (a0 : Array Value) (hw : ∀ d ∈ tables_1, d.before a0 Z = true) (ws : List Jvm.Cond) (xx : Int64) (h0 : Heap) (n0 : Nat) (Zs : n0 ≤ h0.size)  :
    Con l (⟨"java/lang/Math", "abs", "(J)J"⟩ : MethodName) jdk_29_method_61_code 2 (some .long) ws ({ frames := 0, cells := 0, slots := 0, locals := 0 } : Room) Z #[(.long xx)] h0 ({ frames := 0, cells := 0, slots := 0, locals := 0 } : Room).cells ({ frames := 0, cells := 0, slots := 0, locals := 0 } : Room).slots (Q_rmAbs Z xx h0 n0) := by
  refine Con.of (Ls := #[.val (.long xx), .second]) (Jvm.Free.JP.mathPlain rfl (by decide +kernel)) (fun m => by first | (simp [entryFrame, mkF, argsToLocals, Value.category]; done) | rfl) ?_
  intro p e s m below meth c s₁ G hGe hG hx hby hml hown hnm hrt hlk hZ X0 e0
  have hown : s.vm.findClass "java/lang/Math" = some m.cls := hown
  have hnm : meth.name = "abs" := hnm
  have NF0 := Fr.nil n0
  refine g_lloadN hG X0 hx (hb hby d9_0) (pc' := 1) rfl rfl ?_
  show G (s₁.setTop (mkF m 1 #[.val (.long xx), .second] [(.long xx)]))
  refine g_lconst hG X0 hx (hb hby d9_1) (pc' := 2) rfl (v := (0 : Int64)) rfl ?_
  show G (s₁.setTop (mkF m 2 #[.val (.long xx), .second] [(.long 0), (.long xx)]))
  obtain ⟨v2, q2⟩ : ∃ zz : Int32, lcmpW xx (0 : Int64) = zz := ⟨_, rfl⟩
  refine g_lcmp hG X0 hx (hb hby d9_2) (pc' := 3) rfl q2 ?_
  show G (s₁.setTop (mkF m 3 #[.val (.long xx), .second] [(.int v2)]))
  by_cases hn : v2 < (0 : Int32)
  · refine g_ifNo hG X0 hx (hb hby d9_3) (pc' := 6) ((if0 _ _).trans (tlt hn).2.1) rfl ?_
    refine g_lloadN hG X0 hx (hb hby d9_6) (pc' := 7) rfl rfl ?_
    show G (s₁.setTop (mkF m 7 #[.val (.long xx), .second] [(.long xx)]))
    obtain ⟨v7, q7⟩ : ∃ zz : Int64, -xx = zz := ⟨_, rfl⟩
    refine g_lneg hG X0 hx (hb hby d9_7) (pc' := 8) rfl q7 ?_
    show G (s₁.setTop (mkF m 8 #[.val (.long xx), .second] [(.long v7)]))
    refine g_goto hG X0 hx (hb hby d9_8) (pc' := 12) (by decide) (by decide) ?_
    show G (s₁.setTop (mkF m 12 #[.val (.long xx), .second] [(.long v7)]))
    skip
    exact e_retJ hGe X0 hx hrt hlk (hb hby d9_12) e0 (by decide) (by decide) (⟨by rw [if_pos ((lw_lt _ _).mp (by rw [q2]; exact hn)), ← q7], NF0, rfl⟩)
  · refine g_ifYes hG X0 hx (hb hby d9_3) (pc' := 11) ((if0 _ _).trans (flt hn).2.1) (by decide) (by decide) ?_
    refine g_lloadN hG X0 hx (hb hby d9_11) (pc' := 12) rfl rfl ?_
    show G (s₁.setTop (mkF m 12 #[.val (.long xx), .second] [(.long xx)]))
    exact e_retJ hGe X0 hx hrt hlk (hb hby d9_12) e0 (by decide) (by decide) (⟨by rw [if_neg (fun g => hn (by rw [← q2]; exact (lw_lt _ _).mpr g))], NF0, rfl⟩)

def Q_rm0 (Z : State) (aa bb cc dd sel : Int32) (h0 : Heap) (n0 : Nat) (v : Option Value) (h : Heap) (L : List Loc) : Prop := v = some (.int 1) ∧ Fr n0 L
set_option maxRecDepth 65536 in
set_option maxHeartbeats 40000000 in
theorem rm0 (l : Launch) (Z : State) (a0 : Array Value) (hw : ∀ d ∈ tables_1, d.before a0 Z = true) (ws : List Jvm.Cond) (aa bb cc dd sel : Int32) (h0 : Heap) (n0 : Nat) (Zs : n0 ≤ h0.size)  :
    Con l x code maxLocals ret ws room_1 Z #[(.int aa), (.int bb), (.int cc), (.int dd), (.int sel)] h0 room_1.cells room_1.slots (Q_rm0 Z aa bb cc dd sel h0 n0) := by
  refine Con.of (Ls := #[.val (.int aa), .val (.int bb), .val (.int cc), .val (.int dd), .val (.int sel), .unset, .unset, .unset, .unset, .unset, .unset, .unset, .unset, .unset, .unset, .unset, .unset, .unset, .unset, .unset, .unset, .unset, .unset, .unset, .unset, .unset, .unset, .unset]) (plainFor_of_name (by first | (simp [plainName, overriddenIn]; done) | decide +kernel)) (fun m => by first | (simp [entryFrame, mkF, argsToLocals, Value.category, maxLocals]; done) | rfl) ?_
  intro p e s m below meth c s₁ G hGe hG hx hby hml hown hnm hrt hlk hZ X0 e0
  have hml : c.maxLocals = 28 := hml
  have hown : s.vm.findClass "com/example/ganttwright/ganttwright/ObjectiveBetterPinLaw" = some m.cls := hown
  have hnm : meth.name = "law" := hnm
  have NF0 := Fr.nil n0
  refine g_iload hG X0 hx (hb hby at_0) (pc' := 2) rfl rfl ?_
  refine g_sipush hG X0 hx (hb hby at_2) (pc' := 5) rfl (v := (255 : Int32)) rfl ?_
  obtain ⟨v5, q5⟩ : ∃ zz : Int32, sel &&& (255 : Int32) = zz := ⟨_, rfl⟩
  refine g_iand hG X0 hx (hb hby at_5) (pc' := 6) rfl q5 ?_
  refine g_bipush hG X0 hx (hb hby at_6) (pc' := 8) rfl (v := (7 : Int32)) rfl ?_
  obtain ⟨v8, q8⟩ : ∃ zz : Int32, v5 % (7 : Int32) = zz := ⟨_, rfl⟩
  refine g_irem hG X0 hx (hb hby at_8) (pc' := 9) rfl (by decide) q8 ?_
  have c8 : v8 = 0 ∨ v8 = 1 ∨ v8 = 2 ∨ v8 = 3 ∨ v8 = 4 ∨ v8 = 5 ∨ v8 = 6 := by
    have h := c_and sel 255 (by decide)
    rw [q5] at h
    have h2 := (c_iremV v5 7).1 h.1 (by decide)
    rw [q8] at h2
    have c : (7 : Int32).toInt = 7 := by decide
    have : v8.toInt = 0 ∨ v8.toInt = 1 ∨ v8.toInt = 2 ∨ v8.toInt = 3 ∨ v8.toInt = 4 ∨ v8.toInt = 5 ∨ v8.toInt = 6 := by omega
    rcases this with g | g | g | g | g | g | g
    · exact Or.inl (Int32.toInt_inj.mp g)
    · exact Or.inr (Or.inl (Int32.toInt_inj.mp g))
    · exact Or.inr (Or.inr (Or.inl (Int32.toInt_inj.mp g)))
    · exact Or.inr (Or.inr (Or.inr (Or.inl (Int32.toInt_inj.mp g))))
    · exact Or.inr (Or.inr (Or.inr (Or.inr (Or.inl (Int32.toInt_inj.mp g)))))
    · exact Or.inr (Or.inr (Or.inr (Or.inr (Or.inr (Or.inl (Int32.toInt_inj.mp g))))))
    · exact Or.inr (Or.inr (Or.inr (Or.inr (Or.inr (Or.inr (Int32.toInt_inj.mp g))))))
  rcases c8 with rfl | rfl | rfl | rfl | rfl | rfl | rfl
  · skip
    show G (s₁.setTop (mkF m 9 _ [(.int 0)]))
    refine g_istore hG X0 hx (hb hby at_9) (pc' := 11) rfl (Ls' := #[.val (.int aa), .val (.int bb), .val (.int cc), .val (.int dd), .val (.int sel), .val (.int 0), .unset, .unset, .unset, .unset, .unset, .unset, .unset, .unset, .unset, .unset, .unset, .unset, .unset, .unset, .unset, .unset, .unset, .unset, .unset, .unset, .unset, .unset]) rfl ?_
    refine g_iload hG X0 hx (hb hby at_11) (pc' := 13) rfl rfl ?_
    refine g_bipush hG X0 hx (hb hby at_13) (pc' := 15) rfl (v := (8 : Int32)) rfl ?_
    obtain ⟨v15, q15⟩ : ∃ zz : Int32, (sel.toUInt32 >>> ((8 : Int32) &&& 31).toUInt32).toInt32 = zz := ⟨_, rfl⟩
    refine g_iushr hG X0 hx (hb hby at_15) (pc' := 16) rfl q15 ?_
    refine g_bipush hG X0 hx (hb hby at_16) (pc' := 18) rfl (v := (7 : Int32)) rfl ?_
    obtain ⟨v18, q18⟩ : ∃ zz : Int32, v15 &&& (7 : Int32) = zz := ⟨_, rfl⟩
    refine g_iand hG X0 hx (hb hby at_18) (pc' := 19) rfl q18 ?_
    have b18 : 0 ≤ v18.toInt ∧ v18.toInt ≤ 7 := by rw [← q18]; exact c_and v15 7 (by decide)
    refine g_istore hG X0 hx (hb hby at_19) (pc' := 21) rfl (Ls' := #[.val (.int aa), .val (.int bb), .val (.int cc), .val (.int dd), .val (.int sel), .val (.int 0), .val (.int v18), .unset, .unset, .unset, .unset, .unset, .unset, .unset, .unset, .unset, .unset, .unset, .unset, .unset, .unset, .unset, .unset, .unset, .unset, .unset, .unset, .unset]) rfl ?_
    refine g_bipush hG X0 hx (hb hby at_21) (pc' := 23) rfl (v := (7 : Int32)) rfl ?_
    refine g_newP hG X0 hx hZ (wd hw 0 rfl) e0 (hb hby at_23) (by decide) 7 (by decide) (by decide) (by decide) (by decide) (pc' := 25) rfl ?_
    intro T1 h1 ar kA1 gs1 X1 e1 E1 A1
    have ge_ar : n0 ≤ ar := gs1 ▸ Zs
    have Zs := Nat.le_trans Zs E1.1
    have V_ar : AV Z h1 ar .int (7 : Int32) [(.int 0), (.int 0), (.int 0), (.int 0), (.int 0), (.int 0), (.int 0)] := AV.new A1
    refine g_dup hG X1 hx (hb hby at_25) (pc' := 26) rfl rfl ?_
    refine g_iconst hG X1 hx (hb hby at_26) (pc' := 27) rfl (v := (0 : Int32)) rfl ?_
    refine g_iconst hG X1 hx (hb hby at_27) (pc' := 28) rfl (v := (1 : Int32)) rfl ?_
    refine g_iastore hG X1 hx hZ e1 V_ar (j := (0 : Int32)) (by decide) (show Int32.toNatClampNeg (0 : Int32) < 7 by decide) (hb hby at_28) (pc' := 29) rfl ?_
    intro T2 h2 X2 e2 W2 Vn2
    have V_ar : AV Z h2 ar .int (7 : Int32) [(.int 1), (.int 0), (.int 0), (.int 0), (.int 0), (.int 0), (.int 0)] := Vn2
    have Zs := Nat.le_trans Zs (Wr.size W2)
    have NF2 := Fr.snoc X2 NF0 ge_ar
    refine g_dup hG X2 hx (hb hby at_29) (pc' := 30) rfl rfl ?_
    refine g_iconst hG X2 hx (hb hby at_30) (pc' := 31) rfl (v := (1 : Int32)) rfl ?_
    refine g_iconst hG X2 hx (hb hby at_31) (pc' := 32) rfl (v := (0 : Int32)) rfl ?_
    refine g_iastore hG X2 hx hZ e2 V_ar (j := (1 : Int32)) (by decide) (show Int32.toNatClampNeg (1 : Int32) < 7 by decide) (hb hby at_32) (pc' := 33) rfl ?_
    intro T3 h3 X3 e3 W3 Vn3
    have V_ar : AV Z h3 ar .int (7 : Int32) [(.int 1), (.int 0), (.int 0), (.int 0), (.int 0), (.int 0), (.int 0)] := Vn3
    have Zs := Nat.le_trans Zs (Wr.size W3)
    have NF3 := Fr.snoc X3 NF2 ge_ar
    refine g_dup hG X3 hx (hb hby at_33) (pc' := 34) rfl rfl ?_
    refine g_iconst hG X3 hx (hb hby at_34) (pc' := 35) rfl (v := (2 : Int32)) rfl ?_
    refine g_iconst hG X3 hx (hb hby at_35) (pc' := 36) rfl (v := (3 : Int32)) rfl ?_
    refine g_iastore hG X3 hx hZ e3 V_ar (j := (2 : Int32)) (by decide) (show Int32.toNatClampNeg (2 : Int32) < 7 by decide) (hb hby at_36) (pc' := 37) rfl ?_
    intro T4 h4 X4 e4 W4 Vn4
    have V_ar : AV Z h4 ar .int (7 : Int32) [(.int 1), (.int 0), (.int 3), (.int 0), (.int 0), (.int 0), (.int 0)] := Vn4
    have Zs := Nat.le_trans Zs (Wr.size W4)
    have NF4 := Fr.snoc X4 NF3 ge_ar
    refine g_dup hG X4 hx (hb hby at_37) (pc' := 38) rfl rfl ?_
    refine g_iconst hG X4 hx (hb hby at_38) (pc' := 39) rfl (v := (3 : Int32)) rfl ?_
    refine g_iconst hG X4 hx (hb hby at_39) (pc' := 40) rfl (v := (1 : Int32)) rfl ?_
    refine g_iastore hG X4 hx hZ e4 V_ar (j := (3 : Int32)) (by decide) (show Int32.toNatClampNeg (3 : Int32) < 7 by decide) (hb hby at_40) (pc' := 41) rfl ?_
    intro T5 h5 X5 e5 W5 Vn5
    have V_ar : AV Z h5 ar .int (7 : Int32) [(.int 1), (.int 0), (.int 3), (.int 1), (.int 0), (.int 0), (.int 0)] := Vn5
    have Zs := Nat.le_trans Zs (Wr.size W5)
    have NF5 := Fr.snoc X5 NF4 ge_ar
    refine g_dup hG X5 hx (hb hby at_41) (pc' := 42) rfl rfl ?_
    refine g_iconst hG X5 hx (hb hby at_42) (pc' := 43) rfl (v := (4 : Int32)) rfl ?_
    refine g_bipush hG X5 hx (hb hby at_43) (pc' := 45) rfl (v := (8 : Int32)) rfl ?_
    refine g_iastore hG X5 hx hZ e5 V_ar (j := (4 : Int32)) (by decide) (show Int32.toNatClampNeg (4 : Int32) < 7 by decide) (hb hby at_45) (pc' := 46) rfl ?_
    intro T6 h6 X6 e6 W6 Vn6
    have V_ar : AV Z h6 ar .int (7 : Int32) [(.int 1), (.int 0), (.int 3), (.int 1), (.int 8), (.int 0), (.int 0)] := Vn6
    have Zs := Nat.le_trans Zs (Wr.size W6)
    have NF6 := Fr.snoc X6 NF5 ge_ar
    refine g_dup hG X6 hx (hb hby at_46) (pc' := 47) rfl rfl ?_
    refine g_iconst hG X6 hx (hb hby at_47) (pc' := 48) rfl (v := (5 : Int32)) rfl ?_
    refine g_iconst hG X6 hx (hb hby at_48) (pc' := 49) rfl (v := (1 : Int32)) rfl ?_
    refine g_iastore hG X6 hx hZ e6 V_ar (j := (5 : Int32)) (by decide) (show Int32.toNatClampNeg (5 : Int32) < 7 by decide) (hb hby at_49) (pc' := 50) rfl ?_
    intro T7 h7 X7 e7 W7 Vn7
    have V_ar : AV Z h7 ar .int (7 : Int32) [(.int 1), (.int 0), (.int 3), (.int 1), (.int 8), (.int 1), (.int 0)] := Vn7
    have Zs := Nat.le_trans Zs (Wr.size W7)
    have NF7 := Fr.snoc X7 NF6 ge_ar
    refine g_dup hG X7 hx (hb hby at_50) (pc' := 51) rfl rfl ?_
    refine g_bipush hG X7 hx (hb hby at_51) (pc' := 53) rfl (v := (6 : Int32)) rfl ?_
    refine g_iconst hG X7 hx (hb hby at_53) (pc' := 54) rfl (v := (4 : Int32)) rfl ?_
    refine g_iastore hG X7 hx hZ e7 V_ar (j := (6 : Int32)) (by decide) (show Int32.toNatClampNeg (6 : Int32) < 7 by decide) (hb hby at_54) (pc' := 55) rfl ?_
    intro T8 h8 X8 e8 W8 Vn8
    have V_ar : AV Z h8 ar .int (7 : Int32) [(.int 1), (.int 0), (.int 3), (.int 1), (.int 8), (.int 1), (.int 4)] := Vn8
    have Zs := Nat.le_trans Zs (Wr.size W8)
    have NF8 := Fr.snoc X8 NF7 ge_ar
    refine g_astore hG X8 hx (hb hby at_55) (pc' := 57) rfl rfl (Ls' := #[.val (.int aa), .val (.int bb), .val (.int cc), .val (.int dd), .val (.int sel), .val (.int 0), .val (.int v18), .val (.ref ar), .unset, .unset, .unset, .unset, .unset, .unset, .unset, .unset, .unset, .unset, .unset, .unset, .unset, .unset, .unset, .unset, .unset, .unset, .unset, .unset]) rfl ?_
    refine g_bipush hG X8 hx (hb hby at_57) (pc' := 59) rfl (v := (7 : Int32)) rfl ?_
    refine g_newP hG X8 hx hZ (wd hw 0 rfl) e8 (hb hby at_59) (by decide) 7 (by decide) (by decide) (by decide) (by decide) (pc' := 61) rfl ?_
    intro T9 h9 b9 kA9 gs9 X9 e9 E9 A9
    have ne_ar_b9 : ar ≠ b9 := Nat.ne_of_lt (gs9 ▸ V_ar.lt)
    have ge_b9 : n0 ≤ b9 := gs9 ▸ Zs
    have Zs := Nat.le_trans Zs E9.1
    have V_ar := V_ar.ext E9
    have V_b9 : AV Z h9 b9 .int (7 : Int32) [(.int 0), (.int 0), (.int 0), (.int 0), (.int 0), (.int 0), (.int 0)] := AV.new A9
    refine g_dup hG X9 hx (hb hby at_61) (pc' := 62) rfl rfl ?_
    refine g_iconst hG X9 hx (hb hby at_62) (pc' := 63) rfl (v := (0 : Int32)) rfl ?_
    refine g_iconst hG X9 hx (hb hby at_63) (pc' := 64) rfl (v := (0 : Int32)) rfl ?_
    refine g_iastore hG X9 hx hZ e9 V_b9 (j := (0 : Int32)) (by decide) (show Int32.toNatClampNeg (0 : Int32) < 7 by decide) (hb hby at_64) (pc' := 65) rfl ?_
    intro T10 h10 X10 e10 W10 Vn10
    have V_b9 : AV Z h10 b9 .int (7 : Int32) [(.int 0), (.int 0), (.int 0), (.int 0), (.int 0), (.int 0), (.int 0)] := Vn10
    have V_ar := V_ar.other W10 ne_ar_b9
    have Zs := Nat.le_trans Zs (Wr.size W10)
    have NF10 := Fr.snoc X10 NF8 ge_b9
    refine g_dup hG X10 hx (hb hby at_65) (pc' := 66) rfl rfl ?_
    refine g_iconst hG X10 hx (hb hby at_66) (pc' := 67) rfl (v := (1 : Int32)) rfl ?_
    refine g_iconst hG X10 hx (hb hby at_67) (pc' := 68) rfl (v := (2 : Int32)) rfl ?_
    refine g_iastore hG X10 hx hZ e10 V_b9 (j := (1 : Int32)) (by decide) (show Int32.toNatClampNeg (1 : Int32) < 7 by decide) (hb hby at_68) (pc' := 69) rfl ?_
    intro T11 h11 X11 e11 W11 Vn11
    have V_b9 : AV Z h11 b9 .int (7 : Int32) [(.int 0), (.int 2), (.int 0), (.int 0), (.int 0), (.int 0), (.int 0)] := Vn11
    have V_ar := V_ar.other W11 ne_ar_b9
    have Zs := Nat.le_trans Zs (Wr.size W11)
    have NF11 := Fr.snoc X11 NF10 ge_b9
    refine g_dup hG X11 hx (hb hby at_69) (pc' := 70) rfl rfl ?_
    refine g_iconst hG X11 hx (hb hby at_70) (pc' := 71) rfl (v := (2 : Int32)) rfl ?_
    refine g_iconst hG X11 hx (hb hby at_71) (pc' := 72) rfl (v := (3 : Int32)) rfl ?_
    refine g_iastore hG X11 hx hZ e11 V_b9 (j := (2 : Int32)) (by decide) (show Int32.toNatClampNeg (2 : Int32) < 7 by decide) (hb hby at_72) (pc' := 73) rfl ?_
    intro T12 h12 X12 e12 W12 Vn12
    have V_b9 : AV Z h12 b9 .int (7 : Int32) [(.int 0), (.int 2), (.int 3), (.int 0), (.int 0), (.int 0), (.int 0)] := Vn12
    have V_ar := V_ar.other W12 ne_ar_b9
    have Zs := Nat.le_trans Zs (Wr.size W12)
    have NF12 := Fr.snoc X12 NF11 ge_b9
    refine g_dup hG X12 hx (hb hby at_73) (pc' := 74) rfl rfl ?_
    refine g_iconst hG X12 hx (hb hby at_74) (pc' := 75) rfl (v := (3 : Int32)) rfl ?_
    refine g_iconst hG X12 hx (hb hby at_75) (pc' := 76) rfl (v := (2 : Int32)) rfl ?_
    refine g_iastore hG X12 hx hZ e12 V_b9 (j := (3 : Int32)) (by decide) (show Int32.toNatClampNeg (3 : Int32) < 7 by decide) (hb hby at_76) (pc' := 77) rfl ?_
    intro T13 h13 X13 e13 W13 Vn13
    have V_b9 : AV Z h13 b9 .int (7 : Int32) [(.int 0), (.int 2), (.int 3), (.int 2), (.int 0), (.int 0), (.int 0)] := Vn13
    have V_ar := V_ar.other W13 ne_ar_b9
    have Zs := Nat.le_trans Zs (Wr.size W13)
    have NF13 := Fr.snoc X13 NF12 ge_b9
    refine g_dup hG X13 hx (hb hby at_77) (pc' := 78) rfl rfl ?_
    refine g_iconst hG X13 hx (hb hby at_78) (pc' := 79) rfl (v := (4 : Int32)) rfl ?_
    refine g_iconst hG X13 hx (hb hby at_79) (pc' := 80) rfl (v := (4 : Int32)) rfl ?_
    refine g_iastore hG X13 hx hZ e13 V_b9 (j := (4 : Int32)) (by decide) (show Int32.toNatClampNeg (4 : Int32) < 7 by decide) (hb hby at_80) (pc' := 81) rfl ?_
    intro T14 h14 X14 e14 W14 Vn14
    have V_b9 : AV Z h14 b9 .int (7 : Int32) [(.int 0), (.int 2), (.int 3), (.int 2), (.int 4), (.int 0), (.int 0)] := Vn14
    have V_ar := V_ar.other W14 ne_ar_b9
    have Zs := Nat.le_trans Zs (Wr.size W14)
    have NF14 := Fr.snoc X14 NF13 ge_b9
    refine g_dup hG X14 hx (hb hby at_81) (pc' := 82) rfl rfl ?_
    refine g_iconst hG X14 hx (hb hby at_82) (pc' := 83) rfl (v := (5 : Int32)) rfl ?_
    refine g_iconst hG X14 hx (hb hby at_83) (pc' := 84) rfl (v := (4 : Int32)) rfl ?_
    refine g_iastore hG X14 hx hZ e14 V_b9 (j := (5 : Int32)) (by decide) (show Int32.toNatClampNeg (5 : Int32) < 7 by decide) (hb hby at_84) (pc' := 85) rfl ?_
    intro T15 h15 X15 e15 W15 Vn15
    have V_b9 : AV Z h15 b9 .int (7 : Int32) [(.int 0), (.int 2), (.int 3), (.int 2), (.int 4), (.int 4), (.int 0)] := Vn15
    have V_ar := V_ar.other W15 ne_ar_b9
    have Zs := Nat.le_trans Zs (Wr.size W15)
    have NF15 := Fr.snoc X15 NF14 ge_b9
    refine g_dup hG X15 hx (hb hby at_85) (pc' := 86) rfl rfl ?_
    refine g_bipush hG X15 hx (hb hby at_86) (pc' := 88) rfl (v := (6 : Int32)) rfl ?_
    refine g_iconst hG X15 hx (hb hby at_88) (pc' := 89) rfl (v := (1 : Int32)) rfl ?_
    refine g_iastore hG X15 hx hZ e15 V_b9 (j := (6 : Int32)) (by decide) (show Int32.toNatClampNeg (6 : Int32) < 7 by decide) (hb hby at_89) (pc' := 90) rfl ?_
    intro T16 h16 X16 e16 W16 Vn16
    have V_b9 : AV Z h16 b9 .int (7 : Int32) [(.int 0), (.int 2), (.int 3), (.int 2), (.int 4), (.int 4), (.int 1)] := Vn16
    have V_ar := V_ar.other W16 ne_ar_b9
    have Zs := Nat.le_trans Zs (Wr.size W16)
    have NF16 := Fr.snoc X16 NF15 ge_b9
    refine g_astore hG X16 hx (hb hby at_90) (pc' := 92) rfl rfl (Ls' := #[.val (.int aa), .val (.int bb), .val (.int cc), .val (.int dd), .val (.int sel), .val (.int 0), .val (.int v18), .val (.ref ar), .val (.ref b9), .unset, .unset, .unset, .unset, .unset, .unset, .unset, .unset, .unset, .unset, .unset, .unset, .unset, .unset, .unset, .unset, .unset, .unset, .unset]) rfl ?_
    refine g_bipush hG X16 hx (hb hby at_92) (pc' := 94) rfl (v := (7 : Int32)) rfl ?_
    refine g_newP hG X16 hx hZ (wd hw 0 rfl) e16 (hb hby at_94) (by decide) 7 (by decide) (by decide) (by decide) (by decide) (pc' := 96) rfl ?_
    intro T17 h17 b17 kA17 gs17 X17 e17 E17 A17
    have ne_ar_b17 : ar ≠ b17 := Nat.ne_of_lt (gs17 ▸ V_ar.lt)
    have ne_b9_b17 : b9 ≠ b17 := Nat.ne_of_lt (gs17 ▸ V_b9.lt)
    have ge_b17 : n0 ≤ b17 := gs17 ▸ Zs
    have Zs := Nat.le_trans Zs E17.1
    have V_ar := V_ar.ext E17
    have V_b9 := V_b9.ext E17
    have V_b17 : AV Z h17 b17 .int (7 : Int32) [(.int 0), (.int 0), (.int 0), (.int 0), (.int 0), (.int 0), (.int 0)] := AV.new A17
    refine g_dup hG X17 hx (hb hby at_96) (pc' := 97) rfl rfl ?_
    refine g_iconst hG X17 hx (hb hby at_97) (pc' := 98) rfl (v := (0 : Int32)) rfl ?_
    refine g_iconst hG X17 hx (hb hby at_98) (pc' := 99) rfl (v := (4 : Int32)) rfl ?_
    refine g_iastore hG X17 hx hZ e17 V_b17 (j := (0 : Int32)) (by decide) (show Int32.toNatClampNeg (0 : Int32) < 7 by decide) (hb hby at_99) (pc' := 100) rfl ?_
    intro T18 h18 X18 e18 W18 Vn18
    have V_b17 : AV Z h18 b17 .int (7 : Int32) [(.int 4), (.int 0), (.int 0), (.int 0), (.int 0), (.int 0), (.int 0)] := Vn18
    have V_ar := V_ar.other W18 ne_ar_b17
    have V_b9 := V_b9.other W18 ne_b9_b17
    have Zs := Nat.le_trans Zs (Wr.size W18)
    have NF18 := Fr.snoc X18 NF16 ge_b17
    refine g_dup hG X18 hx (hb hby at_100) (pc' := 101) rfl rfl ?_
    refine g_iconst hG X18 hx (hb hby at_101) (pc' := 102) rfl (v := (1 : Int32)) rfl ?_
    refine g_iconst hG X18 hx (hb hby at_102) (pc' := 103) rfl (v := (0 : Int32)) rfl ?_
    refine g_iastore hG X18 hx hZ e18 V_b17 (j := (1 : Int32)) (by decide) (show Int32.toNatClampNeg (1 : Int32) < 7 by decide) (hb hby at_103) (pc' := 104) rfl ?_
    intro T19 h19 X19 e19 W19 Vn19
    have V_b17 : AV Z h19 b17 .int (7 : Int32) [(.int 4), (.int 0), (.int 0), (.int 0), (.int 0), (.int 0), (.int 0)] := Vn19
    have V_ar := V_ar.other W19 ne_ar_b17
    have V_b9 := V_b9.other W19 ne_b9_b17
    have Zs := Nat.le_trans Zs (Wr.size W19)
    have NF19 := Fr.snoc X19 NF18 ge_b17
    refine g_dup hG X19 hx (hb hby at_104) (pc' := 105) rfl rfl ?_
    refine g_iconst hG X19 hx (hb hby at_105) (pc' := 106) rfl (v := (2 : Int32)) rfl ?_
    refine g_iconst hG X19 hx (hb hby at_106) (pc' := 107) rfl (v := (4 : Int32)) rfl ?_
    refine g_iastore hG X19 hx hZ e19 V_b17 (j := (2 : Int32)) (by decide) (show Int32.toNatClampNeg (2 : Int32) < 7 by decide) (hb hby at_107) (pc' := 108) rfl ?_
    intro T20 h20 X20 e20 W20 Vn20
    have V_b17 : AV Z h20 b17 .int (7 : Int32) [(.int 4), (.int 0), (.int 4), (.int 0), (.int 0), (.int 0), (.int 0)] := Vn20
    have V_ar := V_ar.other W20 ne_ar_b17
    have V_b9 := V_b9.other W20 ne_b9_b17
    have Zs := Nat.le_trans Zs (Wr.size W20)
    have NF20 := Fr.snoc X20 NF19 ge_b17
    refine g_dup hG X20 hx (hb hby at_108) (pc' := 109) rfl rfl ?_
    refine g_iconst hG X20 hx (hb hby at_109) (pc' := 110) rfl (v := (3 : Int32)) rfl ?_
    refine g_iconst hG X20 hx (hb hby at_110) (pc' := 111) rfl (v := (2 : Int32)) rfl ?_
    refine g_iastore hG X20 hx hZ e20 V_b17 (j := (3 : Int32)) (by decide) (show Int32.toNatClampNeg (3 : Int32) < 7 by decide) (hb hby at_111) (pc' := 112) rfl ?_
    intro T21 h21 X21 e21 W21 Vn21
    have V_b17 : AV Z h21 b17 .int (7 : Int32) [(.int 4), (.int 0), (.int 4), (.int 2), (.int 0), (.int 0), (.int 0)] := Vn21
    have V_ar := V_ar.other W21 ne_ar_b17
    have V_b9 := V_b9.other W21 ne_b9_b17
    have Zs := Nat.le_trans Zs (Wr.size W21)
    have NF21 := Fr.snoc X21 NF20 ge_b17
    refine g_dup hG X21 hx (hb hby at_112) (pc' := 113) rfl rfl ?_
    refine g_iconst hG X21 hx (hb hby at_113) (pc' := 114) rfl (v := (4 : Int32)) rfl ?_
    refine g_iconst hG X21 hx (hb hby at_114) (pc' := 115) rfl (v := (4 : Int32)) rfl ?_
    refine g_iastore hG X21 hx hZ e21 V_b17 (j := (4 : Int32)) (by decide) (show Int32.toNatClampNeg (4 : Int32) < 7 by decide) (hb hby at_115) (pc' := 116) rfl ?_
    intro T22 h22 X22 e22 W22 Vn22
    have V_b17 : AV Z h22 b17 .int (7 : Int32) [(.int 4), (.int 0), (.int 4), (.int 2), (.int 4), (.int 0), (.int 0)] := Vn22
    have V_ar := V_ar.other W22 ne_ar_b17
    have V_b9 := V_b9.other W22 ne_b9_b17
    have Zs := Nat.le_trans Zs (Wr.size W22)
    have NF22 := Fr.snoc X22 NF21 ge_b17
    refine g_dup hG X22 hx (hb hby at_116) (pc' := 117) rfl rfl ?_
    refine g_iconst hG X22 hx (hb hby at_117) (pc' := 118) rfl (v := (5 : Int32)) rfl ?_
    refine g_iconst hG X22 hx (hb hby at_118) (pc' := 119) rfl (v := (1 : Int32)) rfl ?_
    refine g_iastore hG X22 hx hZ e22 V_b17 (j := (5 : Int32)) (by decide) (show Int32.toNatClampNeg (5 : Int32) < 7 by decide) (hb hby at_119) (pc' := 120) rfl ?_
    intro T23 h23 X23 e23 W23 Vn23
    have V_b17 : AV Z h23 b17 .int (7 : Int32) [(.int 4), (.int 0), (.int 4), (.int 2), (.int 4), (.int 1), (.int 0)] := Vn23
    have V_ar := V_ar.other W23 ne_ar_b17
    have V_b9 := V_b9.other W23 ne_b9_b17
    have Zs := Nat.le_trans Zs (Wr.size W23)
    have NF23 := Fr.snoc X23 NF22 ge_b17
    refine g_dup hG X23 hx (hb hby at_120) (pc' := 121) rfl rfl ?_
    refine g_bipush hG X23 hx (hb hby at_121) (pc' := 123) rfl (v := (6 : Int32)) rfl ?_
    refine g_iconst hG X23 hx (hb hby at_123) (pc' := 124) rfl (v := (4 : Int32)) rfl ?_
    refine g_iastore hG X23 hx hZ e23 V_b17 (j := (6 : Int32)) (by decide) (show Int32.toNatClampNeg (6 : Int32) < 7 by decide) (hb hby at_124) (pc' := 125) rfl ?_
    intro T24 h24 X24 e24 W24 Vn24
    have V_b17 : AV Z h24 b17 .int (7 : Int32) [(.int 4), (.int 0), (.int 4), (.int 2), (.int 4), (.int 1), (.int 4)] := Vn24
    have V_ar := V_ar.other W24 ne_ar_b17
    have V_b9 := V_b9.other W24 ne_b9_b17
    have Zs := Nat.le_trans Zs (Wr.size W24)
    have NF24 := Fr.snoc X24 NF23 ge_b17
    refine g_astore hG X24 hx (hb hby at_125) (pc' := 127) rfl rfl (Ls' := #[.val (.int aa), .val (.int bb), .val (.int cc), .val (.int dd), .val (.int sel), .val (.int 0), .val (.int v18), .val (.ref ar), .val (.ref b9), .val (.ref b17), .unset, .unset, .unset, .unset, .unset, .unset, .unset, .unset, .unset, .unset, .unset, .unset, .unset, .unset, .unset, .unset, .unset, .unset]) rfl ?_
    refine g_bipush hG X24 hx (hb hby at_127) (pc' := 129) rfl (v := (7 : Int32)) rfl ?_
    refine g_newP hG X24 hx hZ (wd hw 0 rfl) e24 (hb hby at_129) (by decide) 7 (by decide) (by decide) (by decide) (by decide) (pc' := 131) rfl ?_
    intro T25 h25 dr kA25 gs25 X25 e25 E25 A25
    have ne_ar_dr : ar ≠ dr := Nat.ne_of_lt (gs25 ▸ V_ar.lt)
    have ne_b9_dr : b9 ≠ dr := Nat.ne_of_lt (gs25 ▸ V_b9.lt)
    have ne_b17_dr : b17 ≠ dr := Nat.ne_of_lt (gs25 ▸ V_b17.lt)
    have ge_dr : n0 ≤ dr := gs25 ▸ Zs
    have Zs := Nat.le_trans Zs E25.1
    have V_ar := V_ar.ext E25
    have V_b9 := V_b9.ext E25
    have V_b17 := V_b17.ext E25
    have V_dr : AV Z h25 dr .int (7 : Int32) [(.int 0), (.int 0), (.int 0), (.int 0), (.int 0), (.int 0), (.int 0)] := AV.new A25
    refine g_dup hG X25 hx (hb hby at_131) (pc' := 132) rfl rfl ?_
    refine g_iconst hG X25 hx (hb hby at_132) (pc' := 133) rfl (v := (0 : Int32)) rfl ?_
    refine g_iconst hG X25 hx (hb hby at_133) (pc' := 134) rfl (v := (0 : Int32)) rfl ?_
    refine g_iastore hG X25 hx hZ e25 V_dr (j := (0 : Int32)) (by decide) (show Int32.toNatClampNeg (0 : Int32) < 7 by decide) (hb hby at_134) (pc' := 135) rfl ?_
    intro T26 h26 X26 e26 W26 Vn26
    have V_dr : AV Z h26 dr .int (7 : Int32) [(.int 0), (.int 0), (.int 0), (.int 0), (.int 0), (.int 0), (.int 0)] := Vn26
    have V_ar := V_ar.other W26 ne_ar_dr
    have V_b9 := V_b9.other W26 ne_b9_dr
    have V_b17 := V_b17.other W26 ne_b17_dr
    have Zs := Nat.le_trans Zs (Wr.size W26)
    have NF26 := Fr.snoc X26 NF24 ge_dr
    refine g_dup hG X26 hx (hb hby at_135) (pc' := 136) rfl rfl ?_
    refine g_iconst hG X26 hx (hb hby at_136) (pc' := 137) rfl (v := (1 : Int32)) rfl ?_
    refine g_iconst hG X26 hx (hb hby at_137) (pc' := 138) rfl (v := (4 : Int32)) rfl ?_
    refine g_iastore hG X26 hx hZ e26 V_dr (j := (1 : Int32)) (by decide) (show Int32.toNatClampNeg (1 : Int32) < 7 by decide) (hb hby at_138) (pc' := 139) rfl ?_
    intro T27 h27 X27 e27 W27 Vn27
    have V_dr : AV Z h27 dr .int (7 : Int32) [(.int 0), (.int 4), (.int 0), (.int 0), (.int 0), (.int 0), (.int 0)] := Vn27
    have V_ar := V_ar.other W27 ne_ar_dr
    have V_b9 := V_b9.other W27 ne_b9_dr
    have V_b17 := V_b17.other W27 ne_b17_dr
    have Zs := Nat.le_trans Zs (Wr.size W27)
    have NF27 := Fr.snoc X27 NF26 ge_dr
    refine g_dup hG X27 hx (hb hby at_139) (pc' := 140) rfl rfl ?_
    refine g_iconst hG X27 hx (hb hby at_140) (pc' := 141) rfl (v := (2 : Int32)) rfl ?_
    refine g_iconst hG X27 hx (hb hby at_141) (pc' := 142) rfl (v := (4 : Int32)) rfl ?_
    refine g_iastore hG X27 hx hZ e27 V_dr (j := (2 : Int32)) (by decide) (show Int32.toNatClampNeg (2 : Int32) < 7 by decide) (hb hby at_142) (pc' := 143) rfl ?_
    intro T28 h28 X28 e28 W28 Vn28
    have V_dr : AV Z h28 dr .int (7 : Int32) [(.int 0), (.int 4), (.int 4), (.int 0), (.int 0), (.int 0), (.int 0)] := Vn28
    have V_ar := V_ar.other W28 ne_ar_dr
    have V_b9 := V_b9.other W28 ne_b9_dr
    have V_b17 := V_b17.other W28 ne_b17_dr
    have Zs := Nat.le_trans Zs (Wr.size W28)
    have NF28 := Fr.snoc X28 NF27 ge_dr
    refine g_dup hG X28 hx (hb hby at_143) (pc' := 144) rfl rfl ?_
    refine g_iconst hG X28 hx (hb hby at_144) (pc' := 145) rfl (v := (3 : Int32)) rfl ?_
    refine g_iconst hG X28 hx (hb hby at_145) (pc' := 146) rfl (v := (4 : Int32)) rfl ?_
    refine g_iastore hG X28 hx hZ e28 V_dr (j := (3 : Int32)) (by decide) (show Int32.toNatClampNeg (3 : Int32) < 7 by decide) (hb hby at_146) (pc' := 147) rfl ?_
    intro T29 h29 X29 e29 W29 Vn29
    have V_dr : AV Z h29 dr .int (7 : Int32) [(.int 0), (.int 4), (.int 4), (.int 4), (.int 0), (.int 0), (.int 0)] := Vn29
    have V_ar := V_ar.other W29 ne_ar_dr
    have V_b9 := V_b9.other W29 ne_b9_dr
    have V_b17 := V_b17.other W29 ne_b17_dr
    have Zs := Nat.le_trans Zs (Wr.size W29)
    have NF29 := Fr.snoc X29 NF28 ge_dr
    refine g_dup hG X29 hx (hb hby at_147) (pc' := 148) rfl rfl ?_
    refine g_iconst hG X29 hx (hb hby at_148) (pc' := 149) rfl (v := (4 : Int32)) rfl ?_
    refine g_iconst hG X29 hx (hb hby at_149) (pc' := 150) rfl (v := (2 : Int32)) rfl ?_
    refine g_iastore hG X29 hx hZ e29 V_dr (j := (4 : Int32)) (by decide) (show Int32.toNatClampNeg (4 : Int32) < 7 by decide) (hb hby at_150) (pc' := 151) rfl ?_
    intro T30 h30 X30 e30 W30 Vn30
    have V_dr : AV Z h30 dr .int (7 : Int32) [(.int 0), (.int 4), (.int 4), (.int 4), (.int 2), (.int 0), (.int 0)] := Vn30
    have V_ar := V_ar.other W30 ne_ar_dr
    have V_b9 := V_b9.other W30 ne_b9_dr
    have V_b17 := V_b17.other W30 ne_b17_dr
    have Zs := Nat.le_trans Zs (Wr.size W30)
    have NF30 := Fr.snoc X30 NF29 ge_dr
    refine g_dup hG X30 hx (hb hby at_151) (pc' := 152) rfl rfl ?_
    refine g_iconst hG X30 hx (hb hby at_152) (pc' := 153) rfl (v := (5 : Int32)) rfl ?_
    refine g_iconst hG X30 hx (hb hby at_153) (pc' := 154) rfl (v := (4 : Int32)) rfl ?_
    refine g_iastore hG X30 hx hZ e30 V_dr (j := (5 : Int32)) (by decide) (show Int32.toNatClampNeg (5 : Int32) < 7 by decide) (hb hby at_154) (pc' := 155) rfl ?_
    intro T31 h31 X31 e31 W31 Vn31
    have V_dr : AV Z h31 dr .int (7 : Int32) [(.int 0), (.int 4), (.int 4), (.int 4), (.int 2), (.int 4), (.int 0)] := Vn31
    have V_ar := V_ar.other W31 ne_ar_dr
    have V_b9 := V_b9.other W31 ne_b9_dr
    have V_b17 := V_b17.other W31 ne_b17_dr
    have Zs := Nat.le_trans Zs (Wr.size W31)
    have NF31 := Fr.snoc X31 NF30 ge_dr
    refine g_dup hG X31 hx (hb hby at_155) (pc' := 156) rfl rfl ?_
    refine g_bipush hG X31 hx (hb hby at_156) (pc' := 158) rfl (v := (6 : Int32)) rfl ?_
    refine g_iconst hG X31 hx (hb hby at_158) (pc' := 159) rfl (v := (1 : Int32)) rfl ?_
    refine g_iastore hG X31 hx hZ e31 V_dr (j := (6 : Int32)) (by decide) (show Int32.toNatClampNeg (6 : Int32) < 7 by decide) (hb hby at_159) (pc' := 160) rfl ?_
    intro T32 h32 X32 e32 W32 Vn32
    have V_dr : AV Z h32 dr .int (7 : Int32) [(.int 0), (.int 4), (.int 4), (.int 4), (.int 2), (.int 4), (.int 1)] := Vn32
    have V_ar := V_ar.other W32 ne_ar_dr
    have V_b9 := V_b9.other W32 ne_b9_dr
    have V_b17 := V_b17.other W32 ne_b17_dr
    have Zs := Nat.le_trans Zs (Wr.size W32)
    have NF32 := Fr.snoc X32 NF31 ge_dr
    refine g_astore hG X32 hx (hb hby at_160) (pc' := 162) rfl rfl (Ls' := #[.val (.int aa), .val (.int bb), .val (.int cc), .val (.int dd), .val (.int sel), .val (.int 0), .val (.int v18), .val (.ref ar), .val (.ref b9), .val (.ref b17), .val (.ref dr), .unset, .unset, .unset, .unset, .unset, .unset, .unset, .unset, .unset, .unset, .unset, .unset, .unset, .unset, .unset, .unset, .unset]) rfl ?_
    refine g_iloadN hG X32 hx (hb hby at_162) (pc' := 163) rfl rfl ?_
    refine g_ldcInt hG X32 hx hZ hown (wd hw 1 rfl) (hb hby at_163) (pc' := 165) rfl ?_
    obtain ⟨v165, q165⟩ : ∃ zz : Int32, aa &&& (65535 : Int32) = zz := ⟨_, rfl⟩
    refine g_iand hG X32 hx (hb hby at_165) (pc' := 166) rfl q165 ?_
    obtain ⟨v166, q166⟩ : ∃ zz : Int64, v165.toInt64 = zz := ⟨_, rfl⟩
    refine g_i2l hG X32 hx (hb hby at_166) (pc' := 167) rfl q166 ?_
    have b166 : 0 ≤ v166.toInt ∧ v166.toInt ≤ 65535 := by
      have a := c_and aa 65535 (by decide)
      rw [q165] at a
      have c : (65535 : Int32).toInt = 65535 := by decide
      have d : v166.toInt = v165.toInt := by rw [← q166]; exact c_i2l v165
      omega
    refine g_lstore hG X32 hx (hb hby at_167) (pc' := 169) rfl (Ls' := #[.val (.int aa), .val (.int bb), .val (.int cc), .val (.int dd), .val (.int sel), .val (.int 0), .val (.int v18), .val (.ref ar), .val (.ref b9), .val (.ref b17), .val (.ref dr), .val (.long v166), .second, .unset, .unset, .unset, .unset, .unset, .unset, .unset, .unset, .unset, .unset, .unset, .unset, .unset, .unset, .unset]) rfl ?_
    refine g_iloadN hG X32 hx (hb hby at_169) (pc' := 170) rfl rfl ?_
    refine g_ldcInt hG X32 hx hZ hown (wd hw 1 rfl) (hb hby at_170) (pc' := 172) rfl ?_
    obtain ⟨v172, q172⟩ : ∃ zz : Int32, bb &&& (65535 : Int32) = zz := ⟨_, rfl⟩
    refine g_iand hG X32 hx (hb hby at_172) (pc' := 173) rfl q172 ?_
    obtain ⟨v173, q173⟩ : ∃ zz : Int64, v172.toInt64 = zz := ⟨_, rfl⟩
    refine g_i2l hG X32 hx (hb hby at_173) (pc' := 174) rfl q173 ?_
    have b173 : 0 ≤ v173.toInt ∧ v173.toInt ≤ 65535 := by
      have a := c_and bb 65535 (by decide)
      rw [q172] at a
      have c : (65535 : Int32).toInt = 65535 := by decide
      have d : v173.toInt = v172.toInt := by rw [← q173]; exact c_i2l v172
      omega
    refine g_lstore hG X32 hx (hb hby at_174) (pc' := 176) rfl (Ls' := #[.val (.int aa), .val (.int bb), .val (.int cc), .val (.int dd), .val (.int sel), .val (.int 0), .val (.int v18), .val (.ref ar), .val (.ref b9), .val (.ref b17), .val (.ref dr), .val (.long v166), .second, .val (.long v173), .second, .unset, .unset, .unset, .unset, .unset, .unset, .unset, .unset, .unset, .unset, .unset, .unset, .unset]) rfl ?_
    refine g_iloadN hG X32 hx (hb hby at_176) (pc' := 177) rfl rfl ?_
    refine g_ldcInt hG X32 hx hZ hown (wd hw 1 rfl) (hb hby at_177) (pc' := 179) rfl ?_
    obtain ⟨v179, q179⟩ : ∃ zz : Int32, cc &&& (65535 : Int32) = zz := ⟨_, rfl⟩
    refine g_iand hG X32 hx (hb hby at_179) (pc' := 180) rfl q179 ?_
    obtain ⟨v180, q180⟩ : ∃ zz : Int64, v179.toInt64 = zz := ⟨_, rfl⟩
    refine g_i2l hG X32 hx (hb hby at_180) (pc' := 181) rfl q180 ?_
    have b180 : 0 ≤ v180.toInt ∧ v180.toInt ≤ 65535 := by
      have a := c_and cc 65535 (by decide)
      rw [q179] at a
      have c : (65535 : Int32).toInt = 65535 := by decide
      have d : v180.toInt = v179.toInt := by rw [← q180]; exact c_i2l v179
      omega
    refine g_lstore hG X32 hx (hb hby at_181) (pc' := 183) rfl (Ls' := #[.val (.int aa), .val (.int bb), .val (.int cc), .val (.int dd), .val (.int sel), .val (.int 0), .val (.int v18), .val (.ref ar), .val (.ref b9), .val (.ref b17), .val (.ref dr), .val (.long v166), .second, .val (.long v173), .second, .val (.long v180), .second, .unset, .unset, .unset, .unset, .unset, .unset, .unset, .unset, .unset, .unset, .unset]) rfl ?_
    refine g_iloadN hG X32 hx (hb hby at_183) (pc' := 184) rfl rfl ?_
    refine g_ldcInt hG X32 hx hZ hown (wd hw 1 rfl) (hb hby at_184) (pc' := 186) rfl ?_
    obtain ⟨v186, q186⟩ : ∃ zz : Int32, dd &&& (65535 : Int32) = zz := ⟨_, rfl⟩
    refine g_iand hG X32 hx (hb hby at_186) (pc' := 187) rfl q186 ?_
    obtain ⟨v187, q187⟩ : ∃ zz : Int64, v186.toInt64 = zz := ⟨_, rfl⟩
    refine g_i2l hG X32 hx (hb hby at_187) (pc' := 188) rfl q187 ?_
    have b187 : 0 ≤ v187.toInt ∧ v187.toInt ≤ 65535 := by
      have a := c_and dd 65535 (by decide)
      rw [q186] at a
      have c : (65535 : Int32).toInt = 65535 := by decide
      have d : v187.toInt = v186.toInt := by rw [← q187]; exact c_i2l v186
      omega
    refine g_lstore hG X32 hx (hb hby at_188) (pc' := 190) rfl (Ls' := #[.val (.int aa), .val (.int bb), .val (.int cc), .val (.int dd), .val (.int sel), .val (.int 0), .val (.int v18), .val (.ref ar), .val (.ref b9), .val (.ref b17), .val (.ref dr), .val (.long v166), .second, .val (.long v173), .second, .val (.long v180), .second, .val (.long v187), .second, .unset, .unset, .unset, .unset, .unset, .unset, .unset, .unset, .unset]) rfl ?_
    refine g_newO hG X32 hx hZ hown (wd hw 2 rfl) (wd hw 3 rfl) (wd hw 4 rfl) e32 (hb hby at_190) (by decide) (by decide) (pc' := 193) rfl ?_
    intro T33 h33 b gs33 X33 e33 E33 Aq33 Dq33
    have ne_ar_b : ar ≠ b := Nat.ne_of_lt (gs33 ▸ V_ar.lt)
    have ne_b9_b : b9 ≠ b := Nat.ne_of_lt (gs33 ▸ V_b9.lt)
    have ne_b17_b : b17 ≠ b := Nat.ne_of_lt (gs33 ▸ V_b17.lt)
    have ne_dr_b : dr ≠ b := Nat.ne_of_lt (gs33 ▸ V_dr.lt)
    have ge_b : n0 ≤ b := gs33 ▸ Zs
    have Zs := Nat.le_trans Zs E33.1
    have V_ar := V_ar.ext E33
    have V_b9 := V_b9.ext E33
    have V_b17 := V_b17.ext E33
    have V_dr := V_dr.ext E33
    have Ex_b := Aq33
    have F_timeWeight_b : Fld Z h33 b "com/example/ganttwright/ganttwright/Objective" "timeWeight" "D" (.double 0) := Dq33 (Or.inr (wd hw 29 rfl)) (ty := .double) (by decide)
    have F_costWeight_b : Fld Z h33 b "com/example/ganttwright/ganttwright/Objective" "costWeight" "D" (.double 0) := Dq33 (Or.inr (wd hw 31 rfl)) (ty := .double) (by decide)
    refine g_dup hG X33 hx (hb hby at_193) (pc' := 194) rfl rfl ?_
    refine g_aload hG X33 hx (hb hby at_194) (pc' := 196) rfl rfl rfl ?_
    refine g_iload hG X33 hx (hb hby at_196) (pc' := 198) rfl rfl ?_
    refine g_iaload hG X33 hx hZ e33 V_ar (j := (0 : Int32)) (v := (.int 1)) (by decide) rfl (hb hby at_198) (pc' := 199) rfl ?_
    obtain ⟨v199, q199⟩ : ∃ zz : UInt64, FP.i2d (1 : Int32) = zz := ⟨_, rfl⟩
    refine g_i2d hG X33 hx (hb hby at_199) (pc' := 200) rfl q199 ?_
    refine g_aload hG X33 hx (hb hby at_200) (pc' := 202) rfl rfl rfl ?_
    refine g_iload hG X33 hx (hb hby at_202) (pc' := 204) rfl rfl ?_
    refine g_iaload hG X33 hx hZ e33 V_b9 (j := (0 : Int32)) (v := (.int 0)) (by decide) rfl (hb hby at_204) (pc' := 205) rfl ?_
    obtain ⟨v205, q205⟩ : ∃ zz : UInt64, FP.i2d (0 : Int32) = zz := ⟨_, rfl⟩
    refine g_i2d hG X33 hx (hb hby at_205) (pc' := 206) rfl q205 ?_
    obtain ⟨lg, hlg⟩ : ∃ z, Jvm.Native.java_lang_Math.nans.pick64 true v199 v205 = z := ⟨_, rfl⟩
    obtain ⟨t1, ht1⟩ : ∃ z, FP.ddiv v199 lg = z := ⟨_, rfl⟩
    obtain ⟨c1, hc1⟩ : ∃ z, FP.ddiv v205 lg = z := ⟨_, rfl⟩
    obtain ⟨f1, f2, g1, g2, g3, D1, D2⟩ := own_weights (x := 1) (y := 0) (g := 1) (p := 128) (q := 0) (by rw [← q199]; exact OwnFl.i2d_DV (1 : Int32) : OwnFl.DV v199 ((1 : Int) : Rat)) (by rw [← q205]; exact OwnFl.i2d_DV (0 : Int32) : OwnFl.DV v205 ((0 : Int) : Rat)) (by decide) (by decide) (Or.inr ⟨by decide, rfl⟩) (by decide) (by decide) (by decide) (by decide) (by decide) (by decide) (by decide) hlg ht1 hc1
    refine g_callI hG X33 hx hZ (y := (⟨"com/example/ganttwright/ganttwright/Objective", "<init>", "(DD)V"⟩ : MethodName)) 1 rfl hown (wd hw 5 rfl) (wd hw 6 rfl) (wd hw 4 rfl) (wd hw 7 rfl) (by decide) (rmObj l Z a0 hw [] b v199 v205 lg t1 c1 h33 n0 Zs ge_b f1 f2 g1 g2 g3 hlg ht1 hc1 D1.noNaN D2.noNaN Ex_b F_timeWeight_b F_costWeight_b) (by decide) (by decide) (by rw [hml]; rfl) pd_4 rfl (argsL := [(.double v199), (.double v205)]) (rest := [(.ref b)]) rfl rfl (Nat.le_of_eq rfl) (hb hby at_206) e33 (by decide) (by decide) (pc' := 209) rfl ?_
    intro T34 rv34 L34 X34 hQ34
    obtain ⟨rfl, Nq34, Kq34, Ex_b, F_timeWeight_b, F_costWeight_b⟩ := hQ34
    have NF34 := Fr.app NF32 Nq34
    have V_ar := V_ar.keep Kq34 (ninS ne_ar_b nin0)
    have V_b9 := V_b9.keep Kq34 (ninS ne_b9_b nin0)
    have V_b17 := V_b17.keep Kq34 (ninS ne_b17_b nin0)
    have V_dr := V_dr.keep Kq34 (ninS ne_dr_b nin0)
    have Zs := Nat.le_trans Zs Kq34.1
    show G (T34.setTop (mkF m 209 _ [(.ref b)]))
    refine g_astore hG X34 hx (hb hby at_209) (pc' := 211) rfl rfl (Ls' := #[.val (.int aa), .val (.int bb), .val (.int cc), .val (.int dd), .val (.int sel), .val (.int 0), .val (.int v18), .val (.ref ar), .val (.ref b9), .val (.ref b17), .val (.ref dr), .val (.long v166), .second, .val (.long v173), .second, .val (.long v180), .second, .val (.long v187), .second, .val (.ref b), .unset, .unset, .unset, .unset, .unset, .unset, .unset, .unset]) rfl ?_
    refine g_iload hG X34 hx (hb hby at_211) (pc' := 213) rfl rfl ?_
    obtain ⟨v213, q213⟩ : ∃ zz : UInt64, FP.i2d v18 = zz := ⟨_, rfl⟩
    refine g_i2d hG X34 hx (hb hby at_213) (pc' := 214) rfl q213 ?_
    refine g_ldcDouble hG X34 hx hZ hown (wd hw 32 rfl) (hb hby at_214) (pc' := 217) rfl ?_
    obtain ⟨v217, q217⟩ : ∃ zz : UInt64, FP.dmul v213 (4598175219545276416 : UInt64) = zz := ⟨_, rfl⟩
    have D217 : OwnFl.DV v217 (((v18.toInt : Int) : Rat) / 4) := by
      have b1 : (0 : Rat) ≤ (v18.toInt : Rat) := Rat.intCast_nonneg.mpr b18.1
      have b2 : (v18.toInt : Rat) ≤ 7 := by have := Rat.intCast_le_intCast.mpr b18.2; simpa using this
      have e : (v18.toInt : Rat) / 4 = (v18.toInt : Rat) * (1 / 4) := by rw [Rat.div_def, Rat.div_def, Rat.one_mul]
      have z := OwnFl.dmul_DV (OwnFl.i2d_DV v18) own_q (by grind) (by grind)
      rw [q213, q217, OwnFl.RR_exact ⟨v18.toInt, -2, by congr 1; decide +kernel, by omega, by decide⟩ (by grind) (by grind)] at z
      rw [e]; exact z
    refine g_dmul hG X34 hx (hb hby at_217) (pc' := 218) rfl (by rw [q217]; exact D217.noNaN) q217 ?_
    refine g_dstore hG X34 hx (hb hby at_218) (pc' := 220) rfl (Ls' := #[.val (.int aa), .val (.int bb), .val (.int cc), .val (.int dd), .val (.int sel), .val (.int 0), .val (.int v18), .val (.ref ar), .val (.ref b9), .val (.ref b17), .val (.ref dr), .val (.long v166), .second, .val (.long v173), .second, .val (.long v180), .second, .val (.long v187), .second, .val (.ref b), .val (.double v217), .second, .unset, .unset, .unset, .unset, .unset, .unset]) rfl ?_
    refine g_aload hG X34 hx (hb hby at_220) (pc' := 222) rfl rfl rfl ?_
    refine g_lload hG X34 hx (hb hby at_222) (pc' := 224) rfl rfl ?_
    obtain ⟨v224, q224⟩ : ∃ zz : UInt64, FP.l2d v166 = zz := ⟨_, rfl⟩
    refine g_l2d hG X34 hx (hb hby at_224) (pc' := 225) rfl q224 ?_
    refine g_lload hG X34 hx (hb hby at_225) (pc' := 227) rfl rfl ?_
    obtain ⟨v227, q227⟩ : ∃ zz : UInt64, FP.l2d v173 = zz := ⟨_, rfl⟩
    refine g_l2d hG X34 hx (hb hby at_227) (pc' := 228) rfl q227 ?_
    refine g_lload hG X34 hx (hb hby at_228) (pc' := 230) rfl rfl ?_
    obtain ⟨v230, q230⟩ : ∃ zz : UInt64, FP.l2d v180 = zz := ⟨_, rfl⟩
    refine g_l2d hG X34 hx (hb hby at_230) (pc' := 231) rfl q230 ?_
    refine g_lload hG X34 hx (hb hby at_231) (pc' := 233) rfl rfl ?_
    obtain ⟨v233, q233⟩ : ∃ zz : UInt64, FP.l2d v187 = zz := ⟨_, rfl⟩
    refine g_l2d hG X34 hx (hb hby at_233) (pc' := 234) rfl q233 ?_
    refine g_dload hG X34 hx (hb hby at_234) (pc' := 236) rfl rfl ?_
    obtain ⟨p1, hp1⟩ : ∃ z, FP.dmul t1 v224 = z := ⟨_, rfl⟩
    obtain ⟨p2, hp2⟩ : ∃ z, FP.dmul c1 v227 = z := ⟨_, rfl⟩
    obtain ⟨sc, hsc⟩ : ∃ z, FP.dadd p1 p2 = z := ⟨_, rfl⟩
    obtain ⟨p3, hp3⟩ : ∃ z, FP.dmul t1 v230 = z := ⟨_, rfl⟩
    obtain ⟨p4, hp4⟩ : ∃ z, FP.dmul c1 v233 = z := ⟨_, rfl⟩
    obtain ⟨sc2, hsc2⟩ : ∃ z, FP.dadd p3 p4 = z := ⟨_, rfl⟩
    obtain ⟨sm, hsm⟩ : ∃ z, FP.dmul v217 sc2 = z := ⟨_, rfl⟩
    obtain ⟨sk, hsk⟩ : ∃ z, FP.dmul v217 v230 = z := ⟨_, rfl⟩
    obtain ⟨lo, hlo⟩ : ∃ z, FP.dsub sc2 sm = z := ⟨_, rfl⟩
    obtain ⟨hi, hhi⟩ : ∃ z, FP.dadd sc2 sm = z := ⟨_, rfl⟩
    obtain ⟨lo2, hlo2⟩ : ∃ z, FP.dsub v230 sk = z := ⟨_, rfl⟩
    obtain ⟨hi2, hhi2⟩ : ∃ z, FP.dadd v230 sk = z := ⟨_, rfl⟩
    have D_v224 : OwnFl.DV v224 ((v166.toInt : Int) : Rat) := by rw [← q224]; exact OwnFl.l2d_DV (by omega)
    have D_v227 : OwnFl.DV v227 ((v173.toInt : Int) : Rat) := by rw [← q227]; exact OwnFl.l2d_DV (by omega)
    have D_v230 : OwnFl.DV v230 ((v180.toInt : Int) : Rat) := by rw [← q230]; exact OwnFl.l2d_DV (by omega)
    have D_v233 : OwnFl.DV v233 ((v187.toInt : Int) : Rat) := by rw [← q233]; exact OwnFl.l2d_DV (by omega)
    obtain ⟨S1_sc, S2_sc, S3_sc⟩ := own_score (p := 128) (q := 0) (by decide) (by decide) (by decide) (by decide) D1 D2 D_v224 D_v227 (by omega) (by omega) (by omega) (by omega)
    rw [hp1, hp2, hsc] at S3_sc
    rw [hp1] at S1_sc
    rw [hp2] at S2_sc
    obtain ⟨S1_sc2, S2_sc2, S3_sc2⟩ := own_score (p := 128) (q := 0) (by decide) (by decide) (by decide) (by decide) D1 D2 D_v230 D_v233 (by omega) (by omega) (by omega) (by omega)
    rw [hp3, hp4, hsc2] at S3_sc2
    rw [hp3] at S1_sc2
    rw [hp4] at S2_sc2
    have E_sc : OwnFl.DV sc (((4 * (4 * v166.toInt + 0 * v173.toInt) : Int) : Rat) / 16) := own_cast (m := 128) (n := 16) (by decide) (by decide) S3_sc (by omega)
    have E_sc2 : OwnFl.DV sc2 (((4 * (4 * v180.toInt + 0 * v187.toInt) : Int) : Rat) / 16) := own_cast (m := 128) (n := 16) (by decide) (by decide) S3_sc2 (by omega)
    have Q_sc2 : OwnFl.DV sc2 ((((4 * v180.toInt + 0 * v187.toInt) : Int) : Rat) / 4) := own_cast (m := 128) (n := 4) (by decide) (by decide) S3_sc2 (by omega)
    have bS2 : 0 ≤ (4 * v180.toInt + 0 * v187.toInt) ∧ (4 * v180.toInt + 0 * v187.toInt) ≤ 524280 := by omega
    obtain ⟨P, hP⟩ : ∃ z : Int, v18.toInt * (4 * v180.toInt + 0 * v187.toInt) = z := ⟨_, rfl⟩
    obtain ⟨R, hR⟩ : ∃ z : Int, v18.toInt * v180.toInt = z := ⟨_, rfl⟩
    have bP : 0 ≤ P ∧ P ≤ 3669960 := by
      have := mc (a := v18.toInt) (b := (4 * v180.toInt + 0 * v187.toInt)) (l1 := 0) (h1 := 7) (l2 := 0) (h2 := 524280) b18.1 b18.2 bS2.1 bS2.2
      rw [hP] at this
      omega
    have bR : 0 ≤ R ∧ R ≤ 458745 := by
      have := mc (a := v18.toInt) (b := v180.toInt) (l1 := 0) (h1 := 7) (l2 := 0) (h2 := 65535) b18.1 b18.2 b180.1 b180.2
      rw [hR] at this
      omega
    have D_sm := own_mul D217 Q_sc2 (by rw [hP]; omega) (by rw [hP]; omega)
    rw [hsm, hP] at D_sm
    have D_sk := own_mul D217 (own_one D_v230).2 (by rw [show v18.toInt * (4 * v180.toInt) = 4 * (v18.toInt * v180.toInt) from Int.mul_left_comm _ _ _, hR]; omega) (by rw [show v18.toInt * (4 * v180.toInt) = 4 * (v18.toInt * v180.toInt) from Int.mul_left_comm _ _ _, hR]; omega)
    rw [hsk, show v18.toInt * (4 * v180.toInt) = 4 * (v18.toInt * v180.toInt) from Int.mul_left_comm _ _ _, hR] at D_sk
    have D_lo := own_sub E_sc2 D_sm (by omega) (by omega)
    rw [hlo] at D_lo
    have D_hi := own_add E_sc2 D_sm (by omega) (by omega)
    rw [hhi] at D_hi
    have D_lo2 := own_sub (own_one D_v230).1 D_sk (by omega) (by omega)
    rw [hlo2, show 16 * v180.toInt - 4 * R = 4 * (4 * v180.toInt - R) by omega] at D_lo2
    have D_hi2 := own_add (own_one D_v230).1 D_sk (by omega) (by omega)
    rw [hhi2, show 16 * v180.toInt + 4 * R = 4 * (4 * v180.toInt + R) by omega] at D_hi2
    obtain ⟨rs, hrs⟩ : ∃ z : Int32, z = (if 4 * (4 * v166.toInt + 0 * v173.toInt) < 4 * (4 * v180.toInt + 0 * v187.toInt) - P ∨ 4 * (4 * v180.toInt + 0 * v187.toInt) + P < 4 * (4 * v166.toInt + 0 * v173.toInt) then (if (4 * v166.toInt + 0 * v173.toInt) < (4 * v180.toInt + 0 * v187.toInt) then (1 : Int32) else 0) else if 4 * v166.toInt < 4 * v180.toInt - R ∨ 4 * v180.toInt + R < 4 * v166.toInt then (if v166.toInt < v180.toInt then (1 : Int32) else 0) else if v173.toInt < v187.toInt then (1 : Int32) else 0) := ⟨_, rfl⟩
    refine g_callV hG X34 hx hZ (y := (⟨"com/example/ganttwright/ganttwright/Objective", "better", "(DDDDD)Z"⟩ : MethodName)) 0 hown (wd hw 33 rfl) (wd hw 34 rfl) (wd hw 36 rfl) (wd hw 35 rfl) (wd hw 4 rfl) (wd hw 37 rfl) (by decide) (rmBet l Z a0 hw [] b t1 c1 v224 v227 v230 v233 v217 p1 p2 sc p3 p4 sc2 sm sk lo hi lo2 hi2 (4 * v166.toInt + 0 * v173.toInt) (4 * v180.toInt + 0 * v187.toInt) P v166.toInt v180.toInt R v173.toInt v187.toInt rs T34.heap n0 Zs hp1 hp2 hsc hp3 hp4 hsc2 hsm hsk hlo hhi hlo2 hhi2 S1_sc.noNaN S2_sc.noNaN S1_sc2.noNaN S2_sc2.noNaN D_sm.noNaN D_sk.noNaN E_sc E_sc2 D_lo D_hi (own_one D_v224).1 (own_one D_v230).1 D_lo2 D_hi2 (own_one D_v227).1 (own_one D_v233).1 hrs Ex_b F_timeWeight_b F_costWeight_b) (by decide) (by decide) (by rw [hml]; rfl) pd_5 rfl (argsL := [(.double v224), (.double v227), (.double v230), (.double v233), (.double v217)]) (rest := []) rfl rfl (Nat.le_of_eq rfl) (hb hby at_236) rfl Ex_b (by decide) (by decide) (pc' := 239) rfl ?_
    intro T35 rv35 L35 X35 hQ35
    obtain ⟨rfl, Nq35, eh35⟩ := hQ35
    have NF35 := Fr.app NF34 Nq35
    show G (T35.setTop (mkF m 239 _ [(.int rs)]))
    refine g_istore hG X35 hx (hb hby at_239) (pc' := 241) rfl (Ls' := #[.val (.int aa), .val (.int bb), .val (.int cc), .val (.int dd), .val (.int sel), .val (.int 0), .val (.int v18), .val (.ref ar), .val (.ref b9), .val (.ref b17), .val (.ref dr), .val (.long v166), .second, .val (.long v173), .second, .val (.long v180), .second, .val (.long v187), .second, .val (.ref b), .val (.double v217), .second, .val (.int rs), .unset, .unset, .unset, .unset, .unset]) rfl ?_
    refine g_aload hG X35 hx (hb hby at_241) (pc' := 243) rfl rfl rfl ?_
    refine g_iload hG X35 hx (hb hby at_243) (pc' := 245) rfl rfl ?_
    refine g_iaload hG X35 hx hZ eh35 V_b17 (j := (0 : Int32)) (v := (.int 4)) (by decide) rfl (hb hby at_245) (pc' := 246) rfl ?_
    refine g_i2l hG X35 hx (hb hby at_246) (pc' := 247) rfl (v := (4 : Int64)) (by decide) ?_
    refine g_lload hG X35 hx (hb hby at_247) (pc' := 249) rfl rfl ?_
    obtain ⟨v249, q249⟩ : ∃ zz : Int64, (4 : Int64) * v166 = zz := ⟨_, rfl⟩
    refine g_lmul hG X35 hx (hb hby at_249) (pc' := 250) rfl q249 ?_
    refine g_aload hG X35 hx (hb hby at_250) (pc' := 252) rfl rfl rfl ?_
    refine g_iload hG X35 hx (hb hby at_252) (pc' := 254) rfl rfl ?_
    refine g_iaload hG X35 hx hZ eh35 V_dr (j := (0 : Int32)) (v := (.int 0)) (by decide) rfl (hb hby at_254) (pc' := 255) rfl ?_
    refine g_i2l hG X35 hx (hb hby at_255) (pc' := 256) rfl (v := (0 : Int64)) (by decide) ?_
    refine g_lload hG X35 hx (hb hby at_256) (pc' := 258) rfl rfl ?_
    obtain ⟨v258, q258⟩ : ∃ zz : Int64, (0 : Int64) * v173 = zz := ⟨_, rfl⟩
    refine g_lmul hG X35 hx (hb hby at_258) (pc' := 259) rfl q258 ?_
    obtain ⟨v259, q259⟩ : ∃ zz : Int64, v249 + v258 = zz := ⟨_, rfl⟩
    refine g_ladd hG X35 hx (hb hby at_259) (pc' := 260) rfl q259 ?_
    have e259 : v259.toInt = 4 * v166.toInt + 0 * v173.toInt := by
      have a1 := c_lmul (4 : Int64) v166
      have a2 := c_lmul (0 : Int64) v173
      have c1 : (4 : Int64).toInt = 4 := by decide
      have c2 : (0 : Int64).toInt = 0 := by decide
      rw [q249, c1] at a1
      rw [q258, c2] at a2
      have a3 := c_ladd v249 v258
      rw [q259] at a3
      have a4 := rng64 v249
      have a5 := rng64 v258
      have a6 := rng64 v259
      omega
    refine g_lstore hG X35 hx (hb hby at_260) (pc' := 262) rfl (Ls' := #[.val (.int aa), .val (.int bb), .val (.int cc), .val (.int dd), .val (.int sel), .val (.int 0), .val (.int v18), .val (.ref ar), .val (.ref b9), .val (.ref b17), .val (.ref dr), .val (.long v166), .second, .val (.long v173), .second, .val (.long v180), .second, .val (.long v187), .second, .val (.ref b), .val (.double v217), .second, .val (.int rs), .val (.long v259), .second, .unset, .unset, .unset]) rfl ?_
    refine g_aload hG X35 hx (hb hby at_262) (pc' := 264) rfl rfl rfl ?_
    refine g_iload hG X35 hx (hb hby at_264) (pc' := 266) rfl rfl ?_
    refine g_iaload hG X35 hx hZ eh35 V_b17 (j := (0 : Int32)) (v := (.int 4)) (by decide) rfl (hb hby at_266) (pc' := 267) rfl ?_
    refine g_i2l hG X35 hx (hb hby at_267) (pc' := 268) rfl (v := (4 : Int64)) (by decide) ?_
    refine g_lload hG X35 hx (hb hby at_268) (pc' := 270) rfl rfl ?_
    obtain ⟨v270, q270⟩ : ∃ zz : Int64, (4 : Int64) * v180 = zz := ⟨_, rfl⟩
    refine g_lmul hG X35 hx (hb hby at_270) (pc' := 271) rfl q270 ?_
    refine g_aload hG X35 hx (hb hby at_271) (pc' := 273) rfl rfl rfl ?_
    refine g_iload hG X35 hx (hb hby at_273) (pc' := 275) rfl rfl ?_
    refine g_iaload hG X35 hx hZ eh35 V_dr (j := (0 : Int32)) (v := (.int 0)) (by decide) rfl (hb hby at_275) (pc' := 276) rfl ?_
    refine g_i2l hG X35 hx (hb hby at_276) (pc' := 277) rfl (v := (0 : Int64)) (by decide) ?_
    refine g_lload hG X35 hx (hb hby at_277) (pc' := 279) rfl rfl ?_
    obtain ⟨v279, q279⟩ : ∃ zz : Int64, (0 : Int64) * v187 = zz := ⟨_, rfl⟩
    refine g_lmul hG X35 hx (hb hby at_279) (pc' := 280) rfl q279 ?_
    obtain ⟨v280, q280⟩ : ∃ zz : Int64, v270 + v279 = zz := ⟨_, rfl⟩
    refine g_ladd hG X35 hx (hb hby at_280) (pc' := 281) rfl q280 ?_
    have e280 : v280.toInt = 4 * v180.toInt + 0 * v187.toInt := by
      have a1 := c_lmul (4 : Int64) v180
      have a2 := c_lmul (0 : Int64) v187
      have c1 : (4 : Int64).toInt = 4 := by decide
      have c2 : (0 : Int64).toInt = 0 := by decide
      rw [q270, c1] at a1
      rw [q279, c2] at a2
      have a3 := c_ladd v270 v279
      rw [q280] at a3
      have a4 := rng64 v270
      have a5 := rng64 v279
      have a6 := rng64 v280
      omega
    refine g_lstore hG X35 hx (hb hby at_281) (pc' := 283) rfl (Ls' := #[.val (.int aa), .val (.int bb), .val (.int cc), .val (.int dd), .val (.int sel), .val (.int 0), .val (.int v18), .val (.ref ar), .val (.ref b9), .val (.ref b17), .val (.ref dr), .val (.long v166), .second, .val (.long v173), .second, .val (.long v180), .second, .val (.long v187), .second, .val (.ref b), .val (.double v217), .second, .val (.int rs), .val (.long v259), .second, .val (.long v280), .second, .unset]) rfl ?_
    refine g_ldcLong hG X35 hx hZ hown (wd hw 43 rfl) (hb hby at_283) (pc' := 286) rfl ?_
    refine g_lload hG X35 hx (hb hby at_286) (pc' := 288) rfl rfl ?_
    refine g_lload hG X35 hx (hb hby at_288) (pc' := 290) rfl rfl ?_
    obtain ⟨v290, q290⟩ : ∃ zz : Int64, v259 - v280 = zz := ⟨_, rfl⟩
    refine g_lsub hG X35 hx (hb hby at_290) (pc' := 291) rfl q290 ?_
    obtain ⟨ab291, hab291⟩ : ∃ z : Int64, (if v290 < 0 then -v290 else v290) = z := ⟨_, rfl⟩
    have e_ab291 : (ab291.toInt = v259.toInt - v280.toInt ∧ v280.toInt ≤ v259.toInt) ∨ (ab291.toInt = v280.toInt - v259.toInt ∧ v259.toInt ≤ v280.toInt) := by
      have a := c_lsub v259 v280
      rw [q290] at a
      have b := rng64 v290
      have c := c_lneg v290
      have d := rng64 (-v290)
      have z : (0 : Int64).toInt = 0 := by decide
      by_cases g : v290 < 0
      · rw [← hab291, if_pos g]
        rw [Int64.lt_iff_toInt_lt, z] at g
        omega
      · rw [← hab291, if_neg g]
        rw [Int64.lt_iff_toInt_lt, z] at g
        omega
    refine g_callS hG X35 hx hZ (y := (⟨"java/lang/Math", "abs", "(J)J"⟩ : MethodName)) 2 hown (wd hw 44 rfl) (wd hw 45 rfl) (wd hw 22 rfl) (wd hw 46 rfl) (by decide) (rmAbs l Z a0 hw [] v290 T34.heap n0 Zs) (by decide) (by decide) (by rw [hml]; rfl) pd_6 rfl (argsL := [(.long v290)]) (rest := [(.long 4)]) rfl rfl (Nat.le_of_eq rfl) (hb hby at_291) eh35 (by decide) (by decide) (pc' := 294) rfl ?_
    intro T36 rv36 L36 X36 hQ36
    obtain ⟨rfl, Nq36, eh36⟩ := hQ36
    have NF36 := Fr.app NF35 Nq36
    rw [hab291]
    show G (T36.setTop (mkF m 294 _ [(.long ab291), (.long 4)]))
    obtain ⟨v294, q294⟩ : ∃ zz : Int64, (4 : Int64) * ab291 = zz := ⟨_, rfl⟩
    refine g_lmul hG X36 hx (hb hby at_294) (pc' := 295) rfl q294 ?_
    refine g_iload hG X36 hx (hb hby at_295) (pc' := 297) rfl rfl ?_
    obtain ⟨v297, q297⟩ : ∃ zz : Int64, v18.toInt64 = zz := ⟨_, rfl⟩
    refine g_i2l hG X36 hx (hb hby at_297) (pc' := 298) rfl q297 ?_
    refine g_lload hG X36 hx (hb hby at_298) (pc' := 300) rfl rfl ?_
    obtain ⟨v300, q300⟩ : ∃ zz : Int64, v297 * v280 = zz := ⟨_, rfl⟩
    refine g_lmul hG X36 hx (hb hby at_300) (pc' := 301) rfl q300 ?_
    have k294 : v294.toInt = 4 * ab291.toInt := by
      have a := c_lmul (4 : Int64) ab291
      have c : (4 : Int64).toInt = 4 := by decide
      rw [q294, c] at a
      have b := rng64 v294
      omega
    have k300 : v300.toInt = P := by
      have a := c_lmul v297 v280
      have c : v297.toInt = v18.toInt := by rw [← q297]; exact c_i2l v18
      rw [q300, c, e280, hP] at a
      have b := rng64 v300
      omega
    obtain ⟨v301, q301⟩ : ∃ zz : Int32, lcmpW v294 v300 = zz := ⟨_, rfl⟩
    refine g_lcmp hG X36 hx (hb hby at_301) (pc' := 302) rfl q301 ?_
    by_cases hc302 : (0 : Int32) < v301
    · refine g_ifNo hG X36 hx (hb hby at_302) (pc' := 305) ((if0 _ _).trans (tlt hc302).2.2.2) rfl ?_
      refine g_lload hG X36 hx (hb hby at_305) (pc' := 307) rfl rfl ?_
      refine g_lload hG X36 hx (hb hby at_307) (pc' := 309) rfl rfl ?_
      obtain ⟨v309, q309⟩ : ∃ zz : Int32, lcmpW v259 v280 = zz := ⟨_, rfl⟩
      refine g_lcmp hG X36 hx (hb hby at_309) (pc' := 310) rfl q309 ?_
      by_cases hc310 : v309 < (0 : Int32)
      · refine g_ifNo hG X36 hx (hb hby at_310) (pc' := 313) ((if0 _ _).trans (tlt hc310).2.1) rfl ?_
        refine g_iconst hG X36 hx (hb hby at_313) (pc' := 314) rfl (v := (1 : Int32)) rfl ?_
        refine g_goto hG X36 hx (hb hby at_314) (pc' := 318) (by decide) (by decide) ?_
        refine g_istore hG X36 hx (hb hby at_318) (pc' := 320) rfl (Ls' := #[.val (.int aa), .val (.int bb), .val (.int cc), .val (.int dd), .val (.int sel), .val (.int 0), .val (.int v18), .val (.ref ar), .val (.ref b9), .val (.ref b17), .val (.ref dr), .val (.long v166), .second, .val (.long v173), .second, .val (.long v180), .second, .val (.long v187), .second, .val (.ref b), .val (.double v217), .second, .val (.int rs), .val (.long v259), .second, .val (.long v280), .second, .val (.int 1)]) rfl ?_
        refine g_goto hG X36 hx (hb hby at_320) (pc' := 378) (by decide) (by decide) ?_
        refine g_iload hG X36 hx (hb hby at_378) (pc' := 380) rfl rfl ?_
        refine g_iload hG X36 hx (hb hby at_380) (pc' := 382) rfl rfl ?_
        have g302 : v300.toInt < v294.toInt := Int64.lt_iff_toInt_lt.mp ((lw_gt _ _).mp (by rw [q301]; exact hc302))
        have g310 : v259.toInt < v280.toInt := Int64.lt_iff_toInt_lt.mp ((lw_lt _ _).mp (by rw [q309]; exact hc310))
        have ers : rs = (1 : Int32) := by rw [hrs, if_pos (by omega), if_pos (by omega)]
        refine g_icmpNo hG X36 hx (hb hby at_382) (pc' := 385) ((teq ers).2) rfl ?_
        refine g_iconst hG X36 hx (hb hby at_385) (pc' := 386) rfl (v := (1 : Int32)) rfl ?_
        refine g_goto hG X36 hx (hb hby at_386) (pc' := 390) (by decide) (by decide) ?_
        exact e_retZ hGe X36 hx hrt hlk (hb hby at_390) (Or.inr rfl) eh36 (by decide) (by decide) (⟨rfl, NF36⟩)
      · refine g_ifYes hG X36 hx (hb hby at_310) (pc' := 317) ((if0 _ _).trans (flt hc310).2.1) (by decide) (by decide) ?_
        refine g_iconst hG X36 hx (hb hby at_317) (pc' := 318) rfl (v := (0 : Int32)) rfl ?_
        refine g_istore hG X36 hx (hb hby at_318) (pc' := 320) rfl (Ls' := #[.val (.int aa), .val (.int bb), .val (.int cc), .val (.int dd), .val (.int sel), .val (.int 0), .val (.int v18), .val (.ref ar), .val (.ref b9), .val (.ref b17), .val (.ref dr), .val (.long v166), .second, .val (.long v173), .second, .val (.long v180), .second, .val (.long v187), .second, .val (.ref b), .val (.double v217), .second, .val (.int rs), .val (.long v259), .second, .val (.long v280), .second, .val (.int 0)]) rfl ?_
        refine g_goto hG X36 hx (hb hby at_320) (pc' := 378) (by decide) (by decide) ?_
        refine g_iload hG X36 hx (hb hby at_378) (pc' := 380) rfl rfl ?_
        refine g_iload hG X36 hx (hb hby at_380) (pc' := 382) rfl rfl ?_
        have g302 : v300.toInt < v294.toInt := Int64.lt_iff_toInt_lt.mp ((lw_gt _ _).mp (by rw [q301]; exact hc302))
        have g310 : ¬ v259.toInt < v280.toInt := fun g => hc310 (by rw [← q309]; exact (lw_lt _ _).mpr (Int64.lt_iff_toInt_lt.mpr g))
        have ers : rs = (0 : Int32) := by rw [hrs, if_pos (by omega), if_neg (by omega)]
        refine g_icmpNo hG X36 hx (hb hby at_382) (pc' := 385) ((teq ers).2) rfl ?_
        refine g_iconst hG X36 hx (hb hby at_385) (pc' := 386) rfl (v := (1 : Int32)) rfl ?_
        refine g_goto hG X36 hx (hb hby at_386) (pc' := 390) (by decide) (by decide) ?_
        exact e_retZ hGe X36 hx hrt hlk (hb hby at_390) (Or.inr rfl) eh36 (by decide) (by decide) (⟨rfl, NF36⟩)
    · refine g_ifYes hG X36 hx (hb hby at_302) (pc' := 323) ((if0 _ _).trans (flt hc302).2.2.2) (by decide) (by decide) ?_
      refine g_ldcLong hG X36 hx hZ hown (wd hw 43 rfl) (hb hby at_323) (pc' := 326) rfl ?_
      refine g_lload hG X36 hx (hb hby at_326) (pc' := 328) rfl rfl ?_
      refine g_lload hG X36 hx (hb hby at_328) (pc' := 330) rfl rfl ?_
      obtain ⟨v330, q330⟩ : ∃ zz : Int64, v166 - v180 = zz := ⟨_, rfl⟩
      refine g_lsub hG X36 hx (hb hby at_330) (pc' := 331) rfl q330 ?_
      obtain ⟨ab331, hab331⟩ : ∃ z : Int64, (if v330 < 0 then -v330 else v330) = z := ⟨_, rfl⟩
      have e_ab331 : (ab331.toInt = v166.toInt - v180.toInt ∧ v180.toInt ≤ v166.toInt) ∨ (ab331.toInt = v180.toInt - v166.toInt ∧ v166.toInt ≤ v180.toInt) := by
        have a := c_lsub v166 v180
        rw [q330] at a
        have b := rng64 v330
        have c := c_lneg v330
        have d := rng64 (-v330)
        have z : (0 : Int64).toInt = 0 := by decide
        by_cases g : v330 < 0
        · rw [← hab331, if_pos g]
          rw [Int64.lt_iff_toInt_lt, z] at g
          omega
        · rw [← hab331, if_neg g]
          rw [Int64.lt_iff_toInt_lt, z] at g
          omega
      refine g_callS hG X36 hx hZ (y := (⟨"java/lang/Math", "abs", "(J)J"⟩ : MethodName)) 2 hown (wd hw 44 rfl) (wd hw 45 rfl) (wd hw 22 rfl) (wd hw 46 rfl) (by decide) (rmAbs l Z a0 hw [] v330 T34.heap n0 Zs) (by decide) (by decide) (by rw [hml]; rfl) pd_6 rfl (argsL := [(.long v330)]) (rest := [(.long 4)]) rfl rfl (Nat.le_of_eq rfl) (hb hby at_331) eh36 (by decide) (by decide) (pc' := 334) rfl ?_
      intro T37 rv37 L37 X37 hQ37
      obtain ⟨rfl, Nq37, eh37⟩ := hQ37
      have NF37 := Fr.app NF36 Nq37
      rw [hab331]
      show G (T37.setTop (mkF m 334 _ [(.long ab331), (.long 4)]))
      obtain ⟨v334, q334⟩ : ∃ zz : Int64, (4 : Int64) * ab331 = zz := ⟨_, rfl⟩
      refine g_lmul hG X37 hx (hb hby at_334) (pc' := 335) rfl q334 ?_
      refine g_iload hG X37 hx (hb hby at_335) (pc' := 337) rfl rfl ?_
      obtain ⟨v337, q337⟩ : ∃ zz : Int64, v18.toInt64 = zz := ⟨_, rfl⟩
      refine g_i2l hG X37 hx (hb hby at_337) (pc' := 338) rfl q337 ?_
      refine g_lload hG X37 hx (hb hby at_338) (pc' := 340) rfl rfl ?_
      obtain ⟨v340, q340⟩ : ∃ zz : Int64, v337 * v180 = zz := ⟨_, rfl⟩
      refine g_lmul hG X37 hx (hb hby at_340) (pc' := 341) rfl q340 ?_
      have k334 : v334.toInt = 4 * ab331.toInt := by
        have a := c_lmul (4 : Int64) ab331
        have c : (4 : Int64).toInt = 4 := by decide
        rw [q334, c] at a
        have b := rng64 v334
        omega
      have k340 : v340.toInt = R := by
        have a := c_lmul v337 v180
        have c : v337.toInt = v18.toInt := by rw [← q337]; exact c_i2l v18
        rw [q340, c, hR] at a
        have b := rng64 v340
        omega
      obtain ⟨v341, q341⟩ : ∃ zz : Int32, lcmpW v334 v340 = zz := ⟨_, rfl⟩
      refine g_lcmp hG X37 hx (hb hby at_341) (pc' := 342) rfl q341 ?_
      by_cases hc342 : (0 : Int32) < v341
      · refine g_ifNo hG X37 hx (hb hby at_342) (pc' := 345) ((if0 _ _).trans (tlt hc342).2.2.2) rfl ?_
        refine g_lload hG X37 hx (hb hby at_345) (pc' := 347) rfl rfl ?_
        refine g_lload hG X37 hx (hb hby at_347) (pc' := 349) rfl rfl ?_
        obtain ⟨v349, q349⟩ : ∃ zz : Int32, lcmpW v166 v180 = zz := ⟨_, rfl⟩
        refine g_lcmp hG X37 hx (hb hby at_349) (pc' := 350) rfl q349 ?_
        by_cases hc350 : v349 < (0 : Int32)
        · refine g_ifNo hG X37 hx (hb hby at_350) (pc' := 353) ((if0 _ _).trans (tlt hc350).2.1) rfl ?_
          refine g_iconst hG X37 hx (hb hby at_353) (pc' := 354) rfl (v := (1 : Int32)) rfl ?_
          refine g_goto hG X37 hx (hb hby at_354) (pc' := 358) (by decide) (by decide) ?_
          refine g_istore hG X37 hx (hb hby at_358) (pc' := 360) rfl (Ls' := #[.val (.int aa), .val (.int bb), .val (.int cc), .val (.int dd), .val (.int sel), .val (.int 0), .val (.int v18), .val (.ref ar), .val (.ref b9), .val (.ref b17), .val (.ref dr), .val (.long v166), .second, .val (.long v173), .second, .val (.long v180), .second, .val (.long v187), .second, .val (.ref b), .val (.double v217), .second, .val (.int rs), .val (.long v259), .second, .val (.long v280), .second, .val (.int 1)]) rfl ?_
          refine g_goto hG X37 hx (hb hby at_360) (pc' := 378) (by decide) (by decide) ?_
          refine g_iload hG X37 hx (hb hby at_378) (pc' := 380) rfl rfl ?_
          refine g_iload hG X37 hx (hb hby at_380) (pc' := 382) rfl rfl ?_
          have g302 : ¬ v300.toInt < v294.toInt := fun g => hc302 (by rw [← q301]; exact (lw_gt _ _).mpr (Int64.lt_iff_toInt_lt.mpr g))
          have g342 : v340.toInt < v334.toInt := Int64.lt_iff_toInt_lt.mp ((lw_gt _ _).mp (by rw [q341]; exact hc342))
          have g350 : v166.toInt < v180.toInt := Int64.lt_iff_toInt_lt.mp ((lw_lt _ _).mp (by rw [q349]; exact hc350))
          have ers : rs = (1 : Int32) := by rw [hrs, if_neg (by omega), if_pos (by omega), if_pos (by omega)]
          refine g_icmpNo hG X37 hx (hb hby at_382) (pc' := 385) ((teq ers).2) rfl ?_
          refine g_iconst hG X37 hx (hb hby at_385) (pc' := 386) rfl (v := (1 : Int32)) rfl ?_
          refine g_goto hG X37 hx (hb hby at_386) (pc' := 390) (by decide) (by decide) ?_
          exact e_retZ hGe X37 hx hrt hlk (hb hby at_390) (Or.inr rfl) eh37 (by decide) (by decide) (⟨rfl, NF37⟩)
        · refine g_ifYes hG X37 hx (hb hby at_350) (pc' := 357) ((if0 _ _).trans (flt hc350).2.1) (by decide) (by decide) ?_
          refine g_iconst hG X37 hx (hb hby at_357) (pc' := 358) rfl (v := (0 : Int32)) rfl ?_
          refine g_istore hG X37 hx (hb hby at_358) (pc' := 360) rfl (Ls' := #[.val (.int aa), .val (.int bb), .val (.int cc), .val (.int dd), .val (.int sel), .val (.int 0), .val (.int v18), .val (.ref ar), .val (.ref b9), .val (.ref b17), .val (.ref dr), .val (.long v166), .second, .val (.long v173), .second, .val (.long v180), .second, .val (.long v187), .second, .val (.ref b), .val (.double v217), .second, .val (.int rs), .val (.long v259), .second, .val (.long v280), .second, .val (.int 0)]) rfl ?_
          refine g_goto hG X37 hx (hb hby at_360) (pc' := 378) (by decide) (by decide) ?_
          refine g_iload hG X37 hx (hb hby at_378) (pc' := 380) rfl rfl ?_
          refine g_iload hG X37 hx (hb hby at_380) (pc' := 382) rfl rfl ?_
          have g302 : ¬ v300.toInt < v294.toInt := fun g => hc302 (by rw [← q301]; exact (lw_gt _ _).mpr (Int64.lt_iff_toInt_lt.mpr g))
          have g342 : v340.toInt < v334.toInt := Int64.lt_iff_toInt_lt.mp ((lw_gt _ _).mp (by rw [q341]; exact hc342))
          have g350 : ¬ v166.toInt < v180.toInt := fun g => hc350 (by rw [← q349]; exact (lw_lt _ _).mpr (Int64.lt_iff_toInt_lt.mpr g))
          have ers : rs = (0 : Int32) := by rw [hrs, if_neg (by omega), if_pos (by omega), if_neg (by omega)]
          refine g_icmpNo hG X37 hx (hb hby at_382) (pc' := 385) ((teq ers).2) rfl ?_
          refine g_iconst hG X37 hx (hb hby at_385) (pc' := 386) rfl (v := (1 : Int32)) rfl ?_
          refine g_goto hG X37 hx (hb hby at_386) (pc' := 390) (by decide) (by decide) ?_
          exact e_retZ hGe X37 hx hrt hlk (hb hby at_390) (Or.inr rfl) eh37 (by decide) (by decide) (⟨rfl, NF37⟩)
      · refine g_ifYes hG X37 hx (hb hby at_342) (pc' := 363) ((if0 _ _).trans (flt hc342).2.2.2) (by decide) (by decide) ?_
        refine g_lload hG X37 hx (hb hby at_363) (pc' := 365) rfl rfl ?_
        refine g_lload hG X37 hx (hb hby at_365) (pc' := 367) rfl rfl ?_
        obtain ⟨v367, q367⟩ : ∃ zz : Int32, lcmpW v173 v187 = zz := ⟨_, rfl⟩
        refine g_lcmp hG X37 hx (hb hby at_367) (pc' := 368) rfl q367 ?_
        by_cases hc368 : v367 < (0 : Int32)
        · refine g_ifNo hG X37 hx (hb hby at_368) (pc' := 371) ((if0 _ _).trans (tlt hc368).2.1) rfl ?_
          refine g_iconst hG X37 hx (hb hby at_371) (pc' := 372) rfl (v := (1 : Int32)) rfl ?_
          refine g_goto hG X37 hx (hb hby at_372) (pc' := 376) (by decide) (by decide) ?_
          refine g_istore hG X37 hx (hb hby at_376) (pc' := 378) rfl (Ls' := #[.val (.int aa), .val (.int bb), .val (.int cc), .val (.int dd), .val (.int sel), .val (.int 0), .val (.int v18), .val (.ref ar), .val (.ref b9), .val (.ref b17), .val (.ref dr), .val (.long v166), .second, .val (.long v173), .second, .val (.long v180), .second, .val (.long v187), .second, .val (.ref b), .val (.double v217), .second, .val (.int rs), .val (.long v259), .second, .val (.long v280), .second, .val (.int 1)]) rfl ?_
          refine g_iload hG X37 hx (hb hby at_378) (pc' := 380) rfl rfl ?_
          refine g_iload hG X37 hx (hb hby at_380) (pc' := 382) rfl rfl ?_
          have g302 : ¬ v300.toInt < v294.toInt := fun g => hc302 (by rw [← q301]; exact (lw_gt _ _).mpr (Int64.lt_iff_toInt_lt.mpr g))
          have g342 : ¬ v340.toInt < v334.toInt := fun g => hc342 (by rw [← q341]; exact (lw_gt _ _).mpr (Int64.lt_iff_toInt_lt.mpr g))
          have g368 : v173.toInt < v187.toInt := Int64.lt_iff_toInt_lt.mp ((lw_lt _ _).mp (by rw [q367]; exact hc368))
          have ers : rs = (1 : Int32) := by rw [hrs, if_neg (by omega), if_neg (by omega), if_pos (by omega)]
          refine g_icmpNo hG X37 hx (hb hby at_382) (pc' := 385) ((teq ers).2) rfl ?_
          refine g_iconst hG X37 hx (hb hby at_385) (pc' := 386) rfl (v := (1 : Int32)) rfl ?_
          refine g_goto hG X37 hx (hb hby at_386) (pc' := 390) (by decide) (by decide) ?_
          exact e_retZ hGe X37 hx hrt hlk (hb hby at_390) (Or.inr rfl) eh37 (by decide) (by decide) (⟨rfl, NF37⟩)
        · refine g_ifYes hG X37 hx (hb hby at_368) (pc' := 375) ((if0 _ _).trans (flt hc368).2.1) (by decide) (by decide) ?_
          refine g_iconst hG X37 hx (hb hby at_375) (pc' := 376) rfl (v := (0 : Int32)) rfl ?_
          refine g_istore hG X37 hx (hb hby at_376) (pc' := 378) rfl (Ls' := #[.val (.int aa), .val (.int bb), .val (.int cc), .val (.int dd), .val (.int sel), .val (.int 0), .val (.int v18), .val (.ref ar), .val (.ref b9), .val (.ref b17), .val (.ref dr), .val (.long v166), .second, .val (.long v173), .second, .val (.long v180), .second, .val (.long v187), .second, .val (.ref b), .val (.double v217), .second, .val (.int rs), .val (.long v259), .second, .val (.long v280), .second, .val (.int 0)]) rfl ?_
          refine g_iload hG X37 hx (hb hby at_378) (pc' := 380) rfl rfl ?_
          refine g_iload hG X37 hx (hb hby at_380) (pc' := 382) rfl rfl ?_
          have g302 : ¬ v300.toInt < v294.toInt := fun g => hc302 (by rw [← q301]; exact (lw_gt _ _).mpr (Int64.lt_iff_toInt_lt.mpr g))
          have g342 : ¬ v340.toInt < v334.toInt := fun g => hc342 (by rw [← q341]; exact (lw_gt _ _).mpr (Int64.lt_iff_toInt_lt.mpr g))
          have g368 : ¬ v173.toInt < v187.toInt := fun g => hc368 (by rw [← q367]; exact (lw_lt _ _).mpr (Int64.lt_iff_toInt_lt.mpr g))
          have ers : rs = (0 : Int32) := by rw [hrs, if_neg (by omega), if_neg (by omega), if_neg (by omega)]
          refine g_icmpNo hG X37 hx (hb hby at_382) (pc' := 385) ((teq ers).2) rfl ?_
          refine g_iconst hG X37 hx (hb hby at_385) (pc' := 386) rfl (v := (1 : Int32)) rfl ?_
          refine g_goto hG X37 hx (hb hby at_386) (pc' := 390) (by decide) (by decide) ?_
          exact e_retZ hGe X37 hx hrt hlk (hb hby at_390) (Or.inr rfl) eh37 (by decide) (by decide) (⟨rfl, NF37⟩)
  · skip
    show G (s₁.setTop (mkF m 9 _ [(.int 1)]))
    refine g_istore hG X0 hx (hb hby at_9) (pc' := 11) rfl (Ls' := #[.val (.int aa), .val (.int bb), .val (.int cc), .val (.int dd), .val (.int sel), .val (.int 1), .unset, .unset, .unset, .unset, .unset, .unset, .unset, .unset, .unset, .unset, .unset, .unset, .unset, .unset, .unset, .unset, .unset, .unset, .unset, .unset, .unset, .unset]) rfl ?_
    refine g_iload hG X0 hx (hb hby at_11) (pc' := 13) rfl rfl ?_
    refine g_bipush hG X0 hx (hb hby at_13) (pc' := 15) rfl (v := (8 : Int32)) rfl ?_
    obtain ⟨v15, q15⟩ : ∃ zz : Int32, (sel.toUInt32 >>> ((8 : Int32) &&& 31).toUInt32).toInt32 = zz := ⟨_, rfl⟩
    refine g_iushr hG X0 hx (hb hby at_15) (pc' := 16) rfl q15 ?_
    refine g_bipush hG X0 hx (hb hby at_16) (pc' := 18) rfl (v := (7 : Int32)) rfl ?_
    obtain ⟨v18, q18⟩ : ∃ zz : Int32, v15 &&& (7 : Int32) = zz := ⟨_, rfl⟩
    refine g_iand hG X0 hx (hb hby at_18) (pc' := 19) rfl q18 ?_
    have b18 : 0 ≤ v18.toInt ∧ v18.toInt ≤ 7 := by rw [← q18]; exact c_and v15 7 (by decide)
    refine g_istore hG X0 hx (hb hby at_19) (pc' := 21) rfl (Ls' := #[.val (.int aa), .val (.int bb), .val (.int cc), .val (.int dd), .val (.int sel), .val (.int 1), .val (.int v18), .unset, .unset, .unset, .unset, .unset, .unset, .unset, .unset, .unset, .unset, .unset, .unset, .unset, .unset, .unset, .unset, .unset, .unset, .unset, .unset, .unset]) rfl ?_
    refine g_bipush hG X0 hx (hb hby at_21) (pc' := 23) rfl (v := (7 : Int32)) rfl ?_
    refine g_newP hG X0 hx hZ (wd hw 0 rfl) e0 (hb hby at_23) (by decide) 7 (by decide) (by decide) (by decide) (by decide) (pc' := 25) rfl ?_
    intro T38 h38 ar kA38 gs38 X38 e38 E38 A38
    have ge_ar : n0 ≤ ar := gs38 ▸ Zs
    have Zs := Nat.le_trans Zs E38.1
    have V_ar : AV Z h38 ar .int (7 : Int32) [(.int 0), (.int 0), (.int 0), (.int 0), (.int 0), (.int 0), (.int 0)] := AV.new A38
    refine g_dup hG X38 hx (hb hby at_25) (pc' := 26) rfl rfl ?_
    refine g_iconst hG X38 hx (hb hby at_26) (pc' := 27) rfl (v := (0 : Int32)) rfl ?_
    refine g_iconst hG X38 hx (hb hby at_27) (pc' := 28) rfl (v := (1 : Int32)) rfl ?_
    refine g_iastore hG X38 hx hZ e38 V_ar (j := (0 : Int32)) (by decide) (show Int32.toNatClampNeg (0 : Int32) < 7 by decide) (hb hby at_28) (pc' := 29) rfl ?_
    intro T39 h39 X39 e39 W39 Vn39
    have V_ar : AV Z h39 ar .int (7 : Int32) [(.int 1), (.int 0), (.int 0), (.int 0), (.int 0), (.int 0), (.int 0)] := Vn39
    have Zs := Nat.le_trans Zs (Wr.size W39)
    have NF39 := Fr.snoc X39 NF0 ge_ar
    refine g_dup hG X39 hx (hb hby at_29) (pc' := 30) rfl rfl ?_
    refine g_iconst hG X39 hx (hb hby at_30) (pc' := 31) rfl (v := (1 : Int32)) rfl ?_
    refine g_iconst hG X39 hx (hb hby at_31) (pc' := 32) rfl (v := (0 : Int32)) rfl ?_
    refine g_iastore hG X39 hx hZ e39 V_ar (j := (1 : Int32)) (by decide) (show Int32.toNatClampNeg (1 : Int32) < 7 by decide) (hb hby at_32) (pc' := 33) rfl ?_
    intro T40 h40 X40 e40 W40 Vn40
    have V_ar : AV Z h40 ar .int (7 : Int32) [(.int 1), (.int 0), (.int 0), (.int 0), (.int 0), (.int 0), (.int 0)] := Vn40
    have Zs := Nat.le_trans Zs (Wr.size W40)
    have NF40 := Fr.snoc X40 NF39 ge_ar
    refine g_dup hG X40 hx (hb hby at_33) (pc' := 34) rfl rfl ?_
    refine g_iconst hG X40 hx (hb hby at_34) (pc' := 35) rfl (v := (2 : Int32)) rfl ?_
    refine g_iconst hG X40 hx (hb hby at_35) (pc' := 36) rfl (v := (3 : Int32)) rfl ?_
    refine g_iastore hG X40 hx hZ e40 V_ar (j := (2 : Int32)) (by decide) (show Int32.toNatClampNeg (2 : Int32) < 7 by decide) (hb hby at_36) (pc' := 37) rfl ?_
    intro T41 h41 X41 e41 W41 Vn41
    have V_ar : AV Z h41 ar .int (7 : Int32) [(.int 1), (.int 0), (.int 3), (.int 0), (.int 0), (.int 0), (.int 0)] := Vn41
    have Zs := Nat.le_trans Zs (Wr.size W41)
    have NF41 := Fr.snoc X41 NF40 ge_ar
    refine g_dup hG X41 hx (hb hby at_37) (pc' := 38) rfl rfl ?_
    refine g_iconst hG X41 hx (hb hby at_38) (pc' := 39) rfl (v := (3 : Int32)) rfl ?_
    refine g_iconst hG X41 hx (hb hby at_39) (pc' := 40) rfl (v := (1 : Int32)) rfl ?_
    refine g_iastore hG X41 hx hZ e41 V_ar (j := (3 : Int32)) (by decide) (show Int32.toNatClampNeg (3 : Int32) < 7 by decide) (hb hby at_40) (pc' := 41) rfl ?_
    intro T42 h42 X42 e42 W42 Vn42
    have V_ar : AV Z h42 ar .int (7 : Int32) [(.int 1), (.int 0), (.int 3), (.int 1), (.int 0), (.int 0), (.int 0)] := Vn42
    have Zs := Nat.le_trans Zs (Wr.size W42)
    have NF42 := Fr.snoc X42 NF41 ge_ar
    refine g_dup hG X42 hx (hb hby at_41) (pc' := 42) rfl rfl ?_
    refine g_iconst hG X42 hx (hb hby at_42) (pc' := 43) rfl (v := (4 : Int32)) rfl ?_
    refine g_bipush hG X42 hx (hb hby at_43) (pc' := 45) rfl (v := (8 : Int32)) rfl ?_
    refine g_iastore hG X42 hx hZ e42 V_ar (j := (4 : Int32)) (by decide) (show Int32.toNatClampNeg (4 : Int32) < 7 by decide) (hb hby at_45) (pc' := 46) rfl ?_
    intro T43 h43 X43 e43 W43 Vn43
    have V_ar : AV Z h43 ar .int (7 : Int32) [(.int 1), (.int 0), (.int 3), (.int 1), (.int 8), (.int 0), (.int 0)] := Vn43
    have Zs := Nat.le_trans Zs (Wr.size W43)
    have NF43 := Fr.snoc X43 NF42 ge_ar
    refine g_dup hG X43 hx (hb hby at_46) (pc' := 47) rfl rfl ?_
    refine g_iconst hG X43 hx (hb hby at_47) (pc' := 48) rfl (v := (5 : Int32)) rfl ?_
    refine g_iconst hG X43 hx (hb hby at_48) (pc' := 49) rfl (v := (1 : Int32)) rfl ?_
    refine g_iastore hG X43 hx hZ e43 V_ar (j := (5 : Int32)) (by decide) (show Int32.toNatClampNeg (5 : Int32) < 7 by decide) (hb hby at_49) (pc' := 50) rfl ?_
    intro T44 h44 X44 e44 W44 Vn44
    have V_ar : AV Z h44 ar .int (7 : Int32) [(.int 1), (.int 0), (.int 3), (.int 1), (.int 8), (.int 1), (.int 0)] := Vn44
    have Zs := Nat.le_trans Zs (Wr.size W44)
    have NF44 := Fr.snoc X44 NF43 ge_ar
    refine g_dup hG X44 hx (hb hby at_50) (pc' := 51) rfl rfl ?_
    refine g_bipush hG X44 hx (hb hby at_51) (pc' := 53) rfl (v := (6 : Int32)) rfl ?_
    refine g_iconst hG X44 hx (hb hby at_53) (pc' := 54) rfl (v := (4 : Int32)) rfl ?_
    refine g_iastore hG X44 hx hZ e44 V_ar (j := (6 : Int32)) (by decide) (show Int32.toNatClampNeg (6 : Int32) < 7 by decide) (hb hby at_54) (pc' := 55) rfl ?_
    intro T45 h45 X45 e45 W45 Vn45
    have V_ar : AV Z h45 ar .int (7 : Int32) [(.int 1), (.int 0), (.int 3), (.int 1), (.int 8), (.int 1), (.int 4)] := Vn45
    have Zs := Nat.le_trans Zs (Wr.size W45)
    have NF45 := Fr.snoc X45 NF44 ge_ar
    refine g_astore hG X45 hx (hb hby at_55) (pc' := 57) rfl rfl (Ls' := #[.val (.int aa), .val (.int bb), .val (.int cc), .val (.int dd), .val (.int sel), .val (.int 1), .val (.int v18), .val (.ref ar), .unset, .unset, .unset, .unset, .unset, .unset, .unset, .unset, .unset, .unset, .unset, .unset, .unset, .unset, .unset, .unset, .unset, .unset, .unset, .unset]) rfl ?_
    refine g_bipush hG X45 hx (hb hby at_57) (pc' := 59) rfl (v := (7 : Int32)) rfl ?_
    refine g_newP hG X45 hx hZ (wd hw 0 rfl) e45 (hb hby at_59) (by decide) 7 (by decide) (by decide) (by decide) (by decide) (pc' := 61) rfl ?_
    intro T46 h46 b46 kA46 gs46 X46 e46 E46 A46
    have ne_ar_b46 : ar ≠ b46 := Nat.ne_of_lt (gs46 ▸ V_ar.lt)
    have ge_b46 : n0 ≤ b46 := gs46 ▸ Zs
    have Zs := Nat.le_trans Zs E46.1
    have V_ar := V_ar.ext E46
    have V_b46 : AV Z h46 b46 .int (7 : Int32) [(.int 0), (.int 0), (.int 0), (.int 0), (.int 0), (.int 0), (.int 0)] := AV.new A46
    refine g_dup hG X46 hx (hb hby at_61) (pc' := 62) rfl rfl ?_
    refine g_iconst hG X46 hx (hb hby at_62) (pc' := 63) rfl (v := (0 : Int32)) rfl ?_
    refine g_iconst hG X46 hx (hb hby at_63) (pc' := 64) rfl (v := (0 : Int32)) rfl ?_
    refine g_iastore hG X46 hx hZ e46 V_b46 (j := (0 : Int32)) (by decide) (show Int32.toNatClampNeg (0 : Int32) < 7 by decide) (hb hby at_64) (pc' := 65) rfl ?_
    intro T47 h47 X47 e47 W47 Vn47
    have V_b46 : AV Z h47 b46 .int (7 : Int32) [(.int 0), (.int 0), (.int 0), (.int 0), (.int 0), (.int 0), (.int 0)] := Vn47
    have V_ar := V_ar.other W47 ne_ar_b46
    have Zs := Nat.le_trans Zs (Wr.size W47)
    have NF47 := Fr.snoc X47 NF45 ge_b46
    refine g_dup hG X47 hx (hb hby at_65) (pc' := 66) rfl rfl ?_
    refine g_iconst hG X47 hx (hb hby at_66) (pc' := 67) rfl (v := (1 : Int32)) rfl ?_
    refine g_iconst hG X47 hx (hb hby at_67) (pc' := 68) rfl (v := (2 : Int32)) rfl ?_
    refine g_iastore hG X47 hx hZ e47 V_b46 (j := (1 : Int32)) (by decide) (show Int32.toNatClampNeg (1 : Int32) < 7 by decide) (hb hby at_68) (pc' := 69) rfl ?_
    intro T48 h48 X48 e48 W48 Vn48
    have V_b46 : AV Z h48 b46 .int (7 : Int32) [(.int 0), (.int 2), (.int 0), (.int 0), (.int 0), (.int 0), (.int 0)] := Vn48
    have V_ar := V_ar.other W48 ne_ar_b46
    have Zs := Nat.le_trans Zs (Wr.size W48)
    have NF48 := Fr.snoc X48 NF47 ge_b46
    refine g_dup hG X48 hx (hb hby at_69) (pc' := 70) rfl rfl ?_
    refine g_iconst hG X48 hx (hb hby at_70) (pc' := 71) rfl (v := (2 : Int32)) rfl ?_
    refine g_iconst hG X48 hx (hb hby at_71) (pc' := 72) rfl (v := (3 : Int32)) rfl ?_
    refine g_iastore hG X48 hx hZ e48 V_b46 (j := (2 : Int32)) (by decide) (show Int32.toNatClampNeg (2 : Int32) < 7 by decide) (hb hby at_72) (pc' := 73) rfl ?_
    intro T49 h49 X49 e49 W49 Vn49
    have V_b46 : AV Z h49 b46 .int (7 : Int32) [(.int 0), (.int 2), (.int 3), (.int 0), (.int 0), (.int 0), (.int 0)] := Vn49
    have V_ar := V_ar.other W49 ne_ar_b46
    have Zs := Nat.le_trans Zs (Wr.size W49)
    have NF49 := Fr.snoc X49 NF48 ge_b46
    refine g_dup hG X49 hx (hb hby at_73) (pc' := 74) rfl rfl ?_
    refine g_iconst hG X49 hx (hb hby at_74) (pc' := 75) rfl (v := (3 : Int32)) rfl ?_
    refine g_iconst hG X49 hx (hb hby at_75) (pc' := 76) rfl (v := (2 : Int32)) rfl ?_
    refine g_iastore hG X49 hx hZ e49 V_b46 (j := (3 : Int32)) (by decide) (show Int32.toNatClampNeg (3 : Int32) < 7 by decide) (hb hby at_76) (pc' := 77) rfl ?_
    intro T50 h50 X50 e50 W50 Vn50
    have V_b46 : AV Z h50 b46 .int (7 : Int32) [(.int 0), (.int 2), (.int 3), (.int 2), (.int 0), (.int 0), (.int 0)] := Vn50
    have V_ar := V_ar.other W50 ne_ar_b46
    have Zs := Nat.le_trans Zs (Wr.size W50)
    have NF50 := Fr.snoc X50 NF49 ge_b46
    refine g_dup hG X50 hx (hb hby at_77) (pc' := 78) rfl rfl ?_
    refine g_iconst hG X50 hx (hb hby at_78) (pc' := 79) rfl (v := (4 : Int32)) rfl ?_
    refine g_iconst hG X50 hx (hb hby at_79) (pc' := 80) rfl (v := (4 : Int32)) rfl ?_
    refine g_iastore hG X50 hx hZ e50 V_b46 (j := (4 : Int32)) (by decide) (show Int32.toNatClampNeg (4 : Int32) < 7 by decide) (hb hby at_80) (pc' := 81) rfl ?_
    intro T51 h51 X51 e51 W51 Vn51
    have V_b46 : AV Z h51 b46 .int (7 : Int32) [(.int 0), (.int 2), (.int 3), (.int 2), (.int 4), (.int 0), (.int 0)] := Vn51
    have V_ar := V_ar.other W51 ne_ar_b46
    have Zs := Nat.le_trans Zs (Wr.size W51)
    have NF51 := Fr.snoc X51 NF50 ge_b46
    refine g_dup hG X51 hx (hb hby at_81) (pc' := 82) rfl rfl ?_
    refine g_iconst hG X51 hx (hb hby at_82) (pc' := 83) rfl (v := (5 : Int32)) rfl ?_
    refine g_iconst hG X51 hx (hb hby at_83) (pc' := 84) rfl (v := (4 : Int32)) rfl ?_
    refine g_iastore hG X51 hx hZ e51 V_b46 (j := (5 : Int32)) (by decide) (show Int32.toNatClampNeg (5 : Int32) < 7 by decide) (hb hby at_84) (pc' := 85) rfl ?_
    intro T52 h52 X52 e52 W52 Vn52
    have V_b46 : AV Z h52 b46 .int (7 : Int32) [(.int 0), (.int 2), (.int 3), (.int 2), (.int 4), (.int 4), (.int 0)] := Vn52
    have V_ar := V_ar.other W52 ne_ar_b46
    have Zs := Nat.le_trans Zs (Wr.size W52)
    have NF52 := Fr.snoc X52 NF51 ge_b46
    refine g_dup hG X52 hx (hb hby at_85) (pc' := 86) rfl rfl ?_
    refine g_bipush hG X52 hx (hb hby at_86) (pc' := 88) rfl (v := (6 : Int32)) rfl ?_
    refine g_iconst hG X52 hx (hb hby at_88) (pc' := 89) rfl (v := (1 : Int32)) rfl ?_
    refine g_iastore hG X52 hx hZ e52 V_b46 (j := (6 : Int32)) (by decide) (show Int32.toNatClampNeg (6 : Int32) < 7 by decide) (hb hby at_89) (pc' := 90) rfl ?_
    intro T53 h53 X53 e53 W53 Vn53
    have V_b46 : AV Z h53 b46 .int (7 : Int32) [(.int 0), (.int 2), (.int 3), (.int 2), (.int 4), (.int 4), (.int 1)] := Vn53
    have V_ar := V_ar.other W53 ne_ar_b46
    have Zs := Nat.le_trans Zs (Wr.size W53)
    have NF53 := Fr.snoc X53 NF52 ge_b46
    refine g_astore hG X53 hx (hb hby at_90) (pc' := 92) rfl rfl (Ls' := #[.val (.int aa), .val (.int bb), .val (.int cc), .val (.int dd), .val (.int sel), .val (.int 1), .val (.int v18), .val (.ref ar), .val (.ref b46), .unset, .unset, .unset, .unset, .unset, .unset, .unset, .unset, .unset, .unset, .unset, .unset, .unset, .unset, .unset, .unset, .unset, .unset, .unset]) rfl ?_
    refine g_bipush hG X53 hx (hb hby at_92) (pc' := 94) rfl (v := (7 : Int32)) rfl ?_
    refine g_newP hG X53 hx hZ (wd hw 0 rfl) e53 (hb hby at_94) (by decide) 7 (by decide) (by decide) (by decide) (by decide) (pc' := 96) rfl ?_
    intro T54 h54 b54 kA54 gs54 X54 e54 E54 A54
    have ne_ar_b54 : ar ≠ b54 := Nat.ne_of_lt (gs54 ▸ V_ar.lt)
    have ne_b46_b54 : b46 ≠ b54 := Nat.ne_of_lt (gs54 ▸ V_b46.lt)
    have ge_b54 : n0 ≤ b54 := gs54 ▸ Zs
    have Zs := Nat.le_trans Zs E54.1
    have V_ar := V_ar.ext E54
    have V_b46 := V_b46.ext E54
    have V_b54 : AV Z h54 b54 .int (7 : Int32) [(.int 0), (.int 0), (.int 0), (.int 0), (.int 0), (.int 0), (.int 0)] := AV.new A54
    refine g_dup hG X54 hx (hb hby at_96) (pc' := 97) rfl rfl ?_
    refine g_iconst hG X54 hx (hb hby at_97) (pc' := 98) rfl (v := (0 : Int32)) rfl ?_
    refine g_iconst hG X54 hx (hb hby at_98) (pc' := 99) rfl (v := (4 : Int32)) rfl ?_
    refine g_iastore hG X54 hx hZ e54 V_b54 (j := (0 : Int32)) (by decide) (show Int32.toNatClampNeg (0 : Int32) < 7 by decide) (hb hby at_99) (pc' := 100) rfl ?_
    intro T55 h55 X55 e55 W55 Vn55
    have V_b54 : AV Z h55 b54 .int (7 : Int32) [(.int 4), (.int 0), (.int 0), (.int 0), (.int 0), (.int 0), (.int 0)] := Vn55
    have V_ar := V_ar.other W55 ne_ar_b54
    have V_b46 := V_b46.other W55 ne_b46_b54
    have Zs := Nat.le_trans Zs (Wr.size W55)
    have NF55 := Fr.snoc X55 NF53 ge_b54
    refine g_dup hG X55 hx (hb hby at_100) (pc' := 101) rfl rfl ?_
    refine g_iconst hG X55 hx (hb hby at_101) (pc' := 102) rfl (v := (1 : Int32)) rfl ?_
    refine g_iconst hG X55 hx (hb hby at_102) (pc' := 103) rfl (v := (0 : Int32)) rfl ?_
    refine g_iastore hG X55 hx hZ e55 V_b54 (j := (1 : Int32)) (by decide) (show Int32.toNatClampNeg (1 : Int32) < 7 by decide) (hb hby at_103) (pc' := 104) rfl ?_
    intro T56 h56 X56 e56 W56 Vn56
    have V_b54 : AV Z h56 b54 .int (7 : Int32) [(.int 4), (.int 0), (.int 0), (.int 0), (.int 0), (.int 0), (.int 0)] := Vn56
    have V_ar := V_ar.other W56 ne_ar_b54
    have V_b46 := V_b46.other W56 ne_b46_b54
    have Zs := Nat.le_trans Zs (Wr.size W56)
    have NF56 := Fr.snoc X56 NF55 ge_b54
    refine g_dup hG X56 hx (hb hby at_104) (pc' := 105) rfl rfl ?_
    refine g_iconst hG X56 hx (hb hby at_105) (pc' := 106) rfl (v := (2 : Int32)) rfl ?_
    refine g_iconst hG X56 hx (hb hby at_106) (pc' := 107) rfl (v := (4 : Int32)) rfl ?_
    refine g_iastore hG X56 hx hZ e56 V_b54 (j := (2 : Int32)) (by decide) (show Int32.toNatClampNeg (2 : Int32) < 7 by decide) (hb hby at_107) (pc' := 108) rfl ?_
    intro T57 h57 X57 e57 W57 Vn57
    have V_b54 : AV Z h57 b54 .int (7 : Int32) [(.int 4), (.int 0), (.int 4), (.int 0), (.int 0), (.int 0), (.int 0)] := Vn57
    have V_ar := V_ar.other W57 ne_ar_b54
    have V_b46 := V_b46.other W57 ne_b46_b54
    have Zs := Nat.le_trans Zs (Wr.size W57)
    have NF57 := Fr.snoc X57 NF56 ge_b54
    refine g_dup hG X57 hx (hb hby at_108) (pc' := 109) rfl rfl ?_
    refine g_iconst hG X57 hx (hb hby at_109) (pc' := 110) rfl (v := (3 : Int32)) rfl ?_
    refine g_iconst hG X57 hx (hb hby at_110) (pc' := 111) rfl (v := (2 : Int32)) rfl ?_
    refine g_iastore hG X57 hx hZ e57 V_b54 (j := (3 : Int32)) (by decide) (show Int32.toNatClampNeg (3 : Int32) < 7 by decide) (hb hby at_111) (pc' := 112) rfl ?_
    intro T58 h58 X58 e58 W58 Vn58
    have V_b54 : AV Z h58 b54 .int (7 : Int32) [(.int 4), (.int 0), (.int 4), (.int 2), (.int 0), (.int 0), (.int 0)] := Vn58
    have V_ar := V_ar.other W58 ne_ar_b54
    have V_b46 := V_b46.other W58 ne_b46_b54
    have Zs := Nat.le_trans Zs (Wr.size W58)
    have NF58 := Fr.snoc X58 NF57 ge_b54
    refine g_dup hG X58 hx (hb hby at_112) (pc' := 113) rfl rfl ?_
    refine g_iconst hG X58 hx (hb hby at_113) (pc' := 114) rfl (v := (4 : Int32)) rfl ?_
    refine g_iconst hG X58 hx (hb hby at_114) (pc' := 115) rfl (v := (4 : Int32)) rfl ?_
    refine g_iastore hG X58 hx hZ e58 V_b54 (j := (4 : Int32)) (by decide) (show Int32.toNatClampNeg (4 : Int32) < 7 by decide) (hb hby at_115) (pc' := 116) rfl ?_
    intro T59 h59 X59 e59 W59 Vn59
    have V_b54 : AV Z h59 b54 .int (7 : Int32) [(.int 4), (.int 0), (.int 4), (.int 2), (.int 4), (.int 0), (.int 0)] := Vn59
    have V_ar := V_ar.other W59 ne_ar_b54
    have V_b46 := V_b46.other W59 ne_b46_b54
    have Zs := Nat.le_trans Zs (Wr.size W59)
    have NF59 := Fr.snoc X59 NF58 ge_b54
    refine g_dup hG X59 hx (hb hby at_116) (pc' := 117) rfl rfl ?_
    refine g_iconst hG X59 hx (hb hby at_117) (pc' := 118) rfl (v := (5 : Int32)) rfl ?_
    refine g_iconst hG X59 hx (hb hby at_118) (pc' := 119) rfl (v := (1 : Int32)) rfl ?_
    refine g_iastore hG X59 hx hZ e59 V_b54 (j := (5 : Int32)) (by decide) (show Int32.toNatClampNeg (5 : Int32) < 7 by decide) (hb hby at_119) (pc' := 120) rfl ?_
    intro T60 h60 X60 e60 W60 Vn60
    have V_b54 : AV Z h60 b54 .int (7 : Int32) [(.int 4), (.int 0), (.int 4), (.int 2), (.int 4), (.int 1), (.int 0)] := Vn60
    have V_ar := V_ar.other W60 ne_ar_b54
    have V_b46 := V_b46.other W60 ne_b46_b54
    have Zs := Nat.le_trans Zs (Wr.size W60)
    have NF60 := Fr.snoc X60 NF59 ge_b54
    refine g_dup hG X60 hx (hb hby at_120) (pc' := 121) rfl rfl ?_
    refine g_bipush hG X60 hx (hb hby at_121) (pc' := 123) rfl (v := (6 : Int32)) rfl ?_
    refine g_iconst hG X60 hx (hb hby at_123) (pc' := 124) rfl (v := (4 : Int32)) rfl ?_
    refine g_iastore hG X60 hx hZ e60 V_b54 (j := (6 : Int32)) (by decide) (show Int32.toNatClampNeg (6 : Int32) < 7 by decide) (hb hby at_124) (pc' := 125) rfl ?_
    intro T61 h61 X61 e61 W61 Vn61
    have V_b54 : AV Z h61 b54 .int (7 : Int32) [(.int 4), (.int 0), (.int 4), (.int 2), (.int 4), (.int 1), (.int 4)] := Vn61
    have V_ar := V_ar.other W61 ne_ar_b54
    have V_b46 := V_b46.other W61 ne_b46_b54
    have Zs := Nat.le_trans Zs (Wr.size W61)
    have NF61 := Fr.snoc X61 NF60 ge_b54
    refine g_astore hG X61 hx (hb hby at_125) (pc' := 127) rfl rfl (Ls' := #[.val (.int aa), .val (.int bb), .val (.int cc), .val (.int dd), .val (.int sel), .val (.int 1), .val (.int v18), .val (.ref ar), .val (.ref b46), .val (.ref b54), .unset, .unset, .unset, .unset, .unset, .unset, .unset, .unset, .unset, .unset, .unset, .unset, .unset, .unset, .unset, .unset, .unset, .unset]) rfl ?_
    refine g_bipush hG X61 hx (hb hby at_127) (pc' := 129) rfl (v := (7 : Int32)) rfl ?_
    refine g_newP hG X61 hx hZ (wd hw 0 rfl) e61 (hb hby at_129) (by decide) 7 (by decide) (by decide) (by decide) (by decide) (pc' := 131) rfl ?_
    intro T62 h62 dr kA62 gs62 X62 e62 E62 A62
    have ne_ar_dr : ar ≠ dr := Nat.ne_of_lt (gs62 ▸ V_ar.lt)
    have ne_b46_dr : b46 ≠ dr := Nat.ne_of_lt (gs62 ▸ V_b46.lt)
    have ne_b54_dr : b54 ≠ dr := Nat.ne_of_lt (gs62 ▸ V_b54.lt)
    have ge_dr : n0 ≤ dr := gs62 ▸ Zs
    have Zs := Nat.le_trans Zs E62.1
    have V_ar := V_ar.ext E62
    have V_b46 := V_b46.ext E62
    have V_b54 := V_b54.ext E62
    have V_dr : AV Z h62 dr .int (7 : Int32) [(.int 0), (.int 0), (.int 0), (.int 0), (.int 0), (.int 0), (.int 0)] := AV.new A62
    refine g_dup hG X62 hx (hb hby at_131) (pc' := 132) rfl rfl ?_
    refine g_iconst hG X62 hx (hb hby at_132) (pc' := 133) rfl (v := (0 : Int32)) rfl ?_
    refine g_iconst hG X62 hx (hb hby at_133) (pc' := 134) rfl (v := (0 : Int32)) rfl ?_
    refine g_iastore hG X62 hx hZ e62 V_dr (j := (0 : Int32)) (by decide) (show Int32.toNatClampNeg (0 : Int32) < 7 by decide) (hb hby at_134) (pc' := 135) rfl ?_
    intro T63 h63 X63 e63 W63 Vn63
    have V_dr : AV Z h63 dr .int (7 : Int32) [(.int 0), (.int 0), (.int 0), (.int 0), (.int 0), (.int 0), (.int 0)] := Vn63
    have V_ar := V_ar.other W63 ne_ar_dr
    have V_b46 := V_b46.other W63 ne_b46_dr
    have V_b54 := V_b54.other W63 ne_b54_dr
    have Zs := Nat.le_trans Zs (Wr.size W63)
    have NF63 := Fr.snoc X63 NF61 ge_dr
    refine g_dup hG X63 hx (hb hby at_135) (pc' := 136) rfl rfl ?_
    refine g_iconst hG X63 hx (hb hby at_136) (pc' := 137) rfl (v := (1 : Int32)) rfl ?_
    refine g_iconst hG X63 hx (hb hby at_137) (pc' := 138) rfl (v := (4 : Int32)) rfl ?_
    refine g_iastore hG X63 hx hZ e63 V_dr (j := (1 : Int32)) (by decide) (show Int32.toNatClampNeg (1 : Int32) < 7 by decide) (hb hby at_138) (pc' := 139) rfl ?_
    intro T64 h64 X64 e64 W64 Vn64
    have V_dr : AV Z h64 dr .int (7 : Int32) [(.int 0), (.int 4), (.int 0), (.int 0), (.int 0), (.int 0), (.int 0)] := Vn64
    have V_ar := V_ar.other W64 ne_ar_dr
    have V_b46 := V_b46.other W64 ne_b46_dr
    have V_b54 := V_b54.other W64 ne_b54_dr
    have Zs := Nat.le_trans Zs (Wr.size W64)
    have NF64 := Fr.snoc X64 NF63 ge_dr
    refine g_dup hG X64 hx (hb hby at_139) (pc' := 140) rfl rfl ?_
    refine g_iconst hG X64 hx (hb hby at_140) (pc' := 141) rfl (v := (2 : Int32)) rfl ?_
    refine g_iconst hG X64 hx (hb hby at_141) (pc' := 142) rfl (v := (4 : Int32)) rfl ?_
    refine g_iastore hG X64 hx hZ e64 V_dr (j := (2 : Int32)) (by decide) (show Int32.toNatClampNeg (2 : Int32) < 7 by decide) (hb hby at_142) (pc' := 143) rfl ?_
    intro T65 h65 X65 e65 W65 Vn65
    have V_dr : AV Z h65 dr .int (7 : Int32) [(.int 0), (.int 4), (.int 4), (.int 0), (.int 0), (.int 0), (.int 0)] := Vn65
    have V_ar := V_ar.other W65 ne_ar_dr
    have V_b46 := V_b46.other W65 ne_b46_dr
    have V_b54 := V_b54.other W65 ne_b54_dr
    have Zs := Nat.le_trans Zs (Wr.size W65)
    have NF65 := Fr.snoc X65 NF64 ge_dr
    refine g_dup hG X65 hx (hb hby at_143) (pc' := 144) rfl rfl ?_
    refine g_iconst hG X65 hx (hb hby at_144) (pc' := 145) rfl (v := (3 : Int32)) rfl ?_
    refine g_iconst hG X65 hx (hb hby at_145) (pc' := 146) rfl (v := (4 : Int32)) rfl ?_
    refine g_iastore hG X65 hx hZ e65 V_dr (j := (3 : Int32)) (by decide) (show Int32.toNatClampNeg (3 : Int32) < 7 by decide) (hb hby at_146) (pc' := 147) rfl ?_
    intro T66 h66 X66 e66 W66 Vn66
    have V_dr : AV Z h66 dr .int (7 : Int32) [(.int 0), (.int 4), (.int 4), (.int 4), (.int 0), (.int 0), (.int 0)] := Vn66
    have V_ar := V_ar.other W66 ne_ar_dr
    have V_b46 := V_b46.other W66 ne_b46_dr
    have V_b54 := V_b54.other W66 ne_b54_dr
    have Zs := Nat.le_trans Zs (Wr.size W66)
    have NF66 := Fr.snoc X66 NF65 ge_dr
    refine g_dup hG X66 hx (hb hby at_147) (pc' := 148) rfl rfl ?_
    refine g_iconst hG X66 hx (hb hby at_148) (pc' := 149) rfl (v := (4 : Int32)) rfl ?_
    refine g_iconst hG X66 hx (hb hby at_149) (pc' := 150) rfl (v := (2 : Int32)) rfl ?_
    refine g_iastore hG X66 hx hZ e66 V_dr (j := (4 : Int32)) (by decide) (show Int32.toNatClampNeg (4 : Int32) < 7 by decide) (hb hby at_150) (pc' := 151) rfl ?_
    intro T67 h67 X67 e67 W67 Vn67
    have V_dr : AV Z h67 dr .int (7 : Int32) [(.int 0), (.int 4), (.int 4), (.int 4), (.int 2), (.int 0), (.int 0)] := Vn67
    have V_ar := V_ar.other W67 ne_ar_dr
    have V_b46 := V_b46.other W67 ne_b46_dr
    have V_b54 := V_b54.other W67 ne_b54_dr
    have Zs := Nat.le_trans Zs (Wr.size W67)
    have NF67 := Fr.snoc X67 NF66 ge_dr
    refine g_dup hG X67 hx (hb hby at_151) (pc' := 152) rfl rfl ?_
    refine g_iconst hG X67 hx (hb hby at_152) (pc' := 153) rfl (v := (5 : Int32)) rfl ?_
    refine g_iconst hG X67 hx (hb hby at_153) (pc' := 154) rfl (v := (4 : Int32)) rfl ?_
    refine g_iastore hG X67 hx hZ e67 V_dr (j := (5 : Int32)) (by decide) (show Int32.toNatClampNeg (5 : Int32) < 7 by decide) (hb hby at_154) (pc' := 155) rfl ?_
    intro T68 h68 X68 e68 W68 Vn68
    have V_dr : AV Z h68 dr .int (7 : Int32) [(.int 0), (.int 4), (.int 4), (.int 4), (.int 2), (.int 4), (.int 0)] := Vn68
    have V_ar := V_ar.other W68 ne_ar_dr
    have V_b46 := V_b46.other W68 ne_b46_dr
    have V_b54 := V_b54.other W68 ne_b54_dr
    have Zs := Nat.le_trans Zs (Wr.size W68)
    have NF68 := Fr.snoc X68 NF67 ge_dr
    refine g_dup hG X68 hx (hb hby at_155) (pc' := 156) rfl rfl ?_
    refine g_bipush hG X68 hx (hb hby at_156) (pc' := 158) rfl (v := (6 : Int32)) rfl ?_
    refine g_iconst hG X68 hx (hb hby at_158) (pc' := 159) rfl (v := (1 : Int32)) rfl ?_
    refine g_iastore hG X68 hx hZ e68 V_dr (j := (6 : Int32)) (by decide) (show Int32.toNatClampNeg (6 : Int32) < 7 by decide) (hb hby at_159) (pc' := 160) rfl ?_
    intro T69 h69 X69 e69 W69 Vn69
    have V_dr : AV Z h69 dr .int (7 : Int32) [(.int 0), (.int 4), (.int 4), (.int 4), (.int 2), (.int 4), (.int 1)] := Vn69
    have V_ar := V_ar.other W69 ne_ar_dr
    have V_b46 := V_b46.other W69 ne_b46_dr
    have V_b54 := V_b54.other W69 ne_b54_dr
    have Zs := Nat.le_trans Zs (Wr.size W69)
    have NF69 := Fr.snoc X69 NF68 ge_dr
    refine g_astore hG X69 hx (hb hby at_160) (pc' := 162) rfl rfl (Ls' := #[.val (.int aa), .val (.int bb), .val (.int cc), .val (.int dd), .val (.int sel), .val (.int 1), .val (.int v18), .val (.ref ar), .val (.ref b46), .val (.ref b54), .val (.ref dr), .unset, .unset, .unset, .unset, .unset, .unset, .unset, .unset, .unset, .unset, .unset, .unset, .unset, .unset, .unset, .unset, .unset]) rfl ?_
    refine g_iloadN hG X69 hx (hb hby at_162) (pc' := 163) rfl rfl ?_
    refine g_ldcInt hG X69 hx hZ hown (wd hw 1 rfl) (hb hby at_163) (pc' := 165) rfl ?_
    obtain ⟨v165, q165⟩ : ∃ zz : Int32, aa &&& (65535 : Int32) = zz := ⟨_, rfl⟩
    refine g_iand hG X69 hx (hb hby at_165) (pc' := 166) rfl q165 ?_
    obtain ⟨v166, q166⟩ : ∃ zz : Int64, v165.toInt64 = zz := ⟨_, rfl⟩
    refine g_i2l hG X69 hx (hb hby at_166) (pc' := 167) rfl q166 ?_
    have b166 : 0 ≤ v166.toInt ∧ v166.toInt ≤ 65535 := by
      have a := c_and aa 65535 (by decide)
      rw [q165] at a
      have c : (65535 : Int32).toInt = 65535 := by decide
      have d : v166.toInt = v165.toInt := by rw [← q166]; exact c_i2l v165
      omega
    refine g_lstore hG X69 hx (hb hby at_167) (pc' := 169) rfl (Ls' := #[.val (.int aa), .val (.int bb), .val (.int cc), .val (.int dd), .val (.int sel), .val (.int 1), .val (.int v18), .val (.ref ar), .val (.ref b46), .val (.ref b54), .val (.ref dr), .val (.long v166), .second, .unset, .unset, .unset, .unset, .unset, .unset, .unset, .unset, .unset, .unset, .unset, .unset, .unset, .unset, .unset]) rfl ?_
    refine g_iloadN hG X69 hx (hb hby at_169) (pc' := 170) rfl rfl ?_
    refine g_ldcInt hG X69 hx hZ hown (wd hw 1 rfl) (hb hby at_170) (pc' := 172) rfl ?_
    obtain ⟨v172, q172⟩ : ∃ zz : Int32, bb &&& (65535 : Int32) = zz := ⟨_, rfl⟩
    refine g_iand hG X69 hx (hb hby at_172) (pc' := 173) rfl q172 ?_
    obtain ⟨v173, q173⟩ : ∃ zz : Int64, v172.toInt64 = zz := ⟨_, rfl⟩
    refine g_i2l hG X69 hx (hb hby at_173) (pc' := 174) rfl q173 ?_
    have b173 : 0 ≤ v173.toInt ∧ v173.toInt ≤ 65535 := by
      have a := c_and bb 65535 (by decide)
      rw [q172] at a
      have c : (65535 : Int32).toInt = 65535 := by decide
      have d : v173.toInt = v172.toInt := by rw [← q173]; exact c_i2l v172
      omega
    refine g_lstore hG X69 hx (hb hby at_174) (pc' := 176) rfl (Ls' := #[.val (.int aa), .val (.int bb), .val (.int cc), .val (.int dd), .val (.int sel), .val (.int 1), .val (.int v18), .val (.ref ar), .val (.ref b46), .val (.ref b54), .val (.ref dr), .val (.long v166), .second, .val (.long v173), .second, .unset, .unset, .unset, .unset, .unset, .unset, .unset, .unset, .unset, .unset, .unset, .unset, .unset]) rfl ?_
    refine g_iloadN hG X69 hx (hb hby at_176) (pc' := 177) rfl rfl ?_
    refine g_ldcInt hG X69 hx hZ hown (wd hw 1 rfl) (hb hby at_177) (pc' := 179) rfl ?_
    obtain ⟨v179, q179⟩ : ∃ zz : Int32, cc &&& (65535 : Int32) = zz := ⟨_, rfl⟩
    refine g_iand hG X69 hx (hb hby at_179) (pc' := 180) rfl q179 ?_
    obtain ⟨v180, q180⟩ : ∃ zz : Int64, v179.toInt64 = zz := ⟨_, rfl⟩
    refine g_i2l hG X69 hx (hb hby at_180) (pc' := 181) rfl q180 ?_
    have b180 : 0 ≤ v180.toInt ∧ v180.toInt ≤ 65535 := by
      have a := c_and cc 65535 (by decide)
      rw [q179] at a
      have c : (65535 : Int32).toInt = 65535 := by decide
      have d : v180.toInt = v179.toInt := by rw [← q180]; exact c_i2l v179
      omega
    refine g_lstore hG X69 hx (hb hby at_181) (pc' := 183) rfl (Ls' := #[.val (.int aa), .val (.int bb), .val (.int cc), .val (.int dd), .val (.int sel), .val (.int 1), .val (.int v18), .val (.ref ar), .val (.ref b46), .val (.ref b54), .val (.ref dr), .val (.long v166), .second, .val (.long v173), .second, .val (.long v180), .second, .unset, .unset, .unset, .unset, .unset, .unset, .unset, .unset, .unset, .unset, .unset]) rfl ?_
    refine g_iloadN hG X69 hx (hb hby at_183) (pc' := 184) rfl rfl ?_
    refine g_ldcInt hG X69 hx hZ hown (wd hw 1 rfl) (hb hby at_184) (pc' := 186) rfl ?_
    obtain ⟨v186, q186⟩ : ∃ zz : Int32, dd &&& (65535 : Int32) = zz := ⟨_, rfl⟩
    refine g_iand hG X69 hx (hb hby at_186) (pc' := 187) rfl q186 ?_
    obtain ⟨v187, q187⟩ : ∃ zz : Int64, v186.toInt64 = zz := ⟨_, rfl⟩
    refine g_i2l hG X69 hx (hb hby at_187) (pc' := 188) rfl q187 ?_
    have b187 : 0 ≤ v187.toInt ∧ v187.toInt ≤ 65535 := by
      have a := c_and dd 65535 (by decide)
      rw [q186] at a
      have c : (65535 : Int32).toInt = 65535 := by decide
      have d : v187.toInt = v186.toInt := by rw [← q187]; exact c_i2l v186
      omega
    refine g_lstore hG X69 hx (hb hby at_188) (pc' := 190) rfl (Ls' := #[.val (.int aa), .val (.int bb), .val (.int cc), .val (.int dd), .val (.int sel), .val (.int 1), .val (.int v18), .val (.ref ar), .val (.ref b46), .val (.ref b54), .val (.ref dr), .val (.long v166), .second, .val (.long v173), .second, .val (.long v180), .second, .val (.long v187), .second, .unset, .unset, .unset, .unset, .unset, .unset, .unset, .unset, .unset]) rfl ?_
    refine g_newO hG X69 hx hZ hown (wd hw 2 rfl) (wd hw 3 rfl) (wd hw 4 rfl) e69 (hb hby at_190) (by decide) (by decide) (pc' := 193) rfl ?_
    intro T70 h70 b gs70 X70 e70 E70 Aq70 Dq70
    have ne_ar_b : ar ≠ b := Nat.ne_of_lt (gs70 ▸ V_ar.lt)
    have ne_b46_b : b46 ≠ b := Nat.ne_of_lt (gs70 ▸ V_b46.lt)
    have ne_b54_b : b54 ≠ b := Nat.ne_of_lt (gs70 ▸ V_b54.lt)
    have ne_dr_b : dr ≠ b := Nat.ne_of_lt (gs70 ▸ V_dr.lt)
    have ge_b : n0 ≤ b := gs70 ▸ Zs
    have Zs := Nat.le_trans Zs E70.1
    have V_ar := V_ar.ext E70
    have V_b46 := V_b46.ext E70
    have V_b54 := V_b54.ext E70
    have V_dr := V_dr.ext E70
    have Ex_b := Aq70
    have F_timeWeight_b : Fld Z h70 b "com/example/ganttwright/ganttwright/Objective" "timeWeight" "D" (.double 0) := Dq70 (Or.inr (wd hw 29 rfl)) (ty := .double) (by decide)
    have F_costWeight_b : Fld Z h70 b "com/example/ganttwright/ganttwright/Objective" "costWeight" "D" (.double 0) := Dq70 (Or.inr (wd hw 31 rfl)) (ty := .double) (by decide)
    refine g_dup hG X70 hx (hb hby at_193) (pc' := 194) rfl rfl ?_
    refine g_aload hG X70 hx (hb hby at_194) (pc' := 196) rfl rfl rfl ?_
    refine g_iload hG X70 hx (hb hby at_196) (pc' := 198) rfl rfl ?_
    refine g_iaload hG X70 hx hZ e70 V_ar (j := (1 : Int32)) (v := (.int 0)) (by decide) rfl (hb hby at_198) (pc' := 199) rfl ?_
    obtain ⟨v199, q199⟩ : ∃ zz : UInt64, FP.i2d (0 : Int32) = zz := ⟨_, rfl⟩
    refine g_i2d hG X70 hx (hb hby at_199) (pc' := 200) rfl q199 ?_
    refine g_aload hG X70 hx (hb hby at_200) (pc' := 202) rfl rfl rfl ?_
    refine g_iload hG X70 hx (hb hby at_202) (pc' := 204) rfl rfl ?_
    refine g_iaload hG X70 hx hZ e70 V_b46 (j := (1 : Int32)) (v := (.int 2)) (by decide) rfl (hb hby at_204) (pc' := 205) rfl ?_
    obtain ⟨v205, q205⟩ : ∃ zz : UInt64, FP.i2d (2 : Int32) = zz := ⟨_, rfl⟩
    refine g_i2d hG X70 hx (hb hby at_205) (pc' := 206) rfl q205 ?_
    obtain ⟨lg, hlg⟩ : ∃ z, Jvm.Native.java_lang_Math.nans.pick64 true v199 v205 = z := ⟨_, rfl⟩
    obtain ⟨t1, ht1⟩ : ∃ z, FP.ddiv v199 lg = z := ⟨_, rfl⟩
    obtain ⟨c1, hc1⟩ : ∃ z, FP.ddiv v205 lg = z := ⟨_, rfl⟩
    obtain ⟨f1, f2, g1, g2, g3, D1, D2⟩ := own_weights (x := 0) (y := 2) (g := 2) (p := 0) (q := 128) (by rw [← q199]; exact OwnFl.i2d_DV (0 : Int32) : OwnFl.DV v199 ((0 : Int) : Rat)) (by rw [← q205]; exact OwnFl.i2d_DV (2 : Int32) : OwnFl.DV v205 ((2 : Int) : Rat)) (by decide) (by decide) (Or.inl ⟨by decide, rfl⟩) (by decide) (by decide) (by decide) (by decide) (by decide) (by decide) (by decide) hlg ht1 hc1
    refine g_callI hG X70 hx hZ (y := (⟨"com/example/ganttwright/ganttwright/Objective", "<init>", "(DD)V"⟩ : MethodName)) 1 rfl hown (wd hw 5 rfl) (wd hw 6 rfl) (wd hw 4 rfl) (wd hw 7 rfl) (by decide) (rmObj l Z a0 hw [] b v199 v205 lg t1 c1 h70 n0 Zs ge_b f1 f2 g1 g2 g3 hlg ht1 hc1 D1.noNaN D2.noNaN Ex_b F_timeWeight_b F_costWeight_b) (by decide) (by decide) (by rw [hml]; rfl) pd_4 rfl (argsL := [(.double v199), (.double v205)]) (rest := [(.ref b)]) rfl rfl (Nat.le_of_eq rfl) (hb hby at_206) e70 (by decide) (by decide) (pc' := 209) rfl ?_
    intro T71 rv71 L71 X71 hQ71
    obtain ⟨rfl, Nq71, Kq71, Ex_b, F_timeWeight_b, F_costWeight_b⟩ := hQ71
    have NF71 := Fr.app NF69 Nq71
    have V_ar := V_ar.keep Kq71 (ninS ne_ar_b nin0)
    have V_b46 := V_b46.keep Kq71 (ninS ne_b46_b nin0)
    have V_b54 := V_b54.keep Kq71 (ninS ne_b54_b nin0)
    have V_dr := V_dr.keep Kq71 (ninS ne_dr_b nin0)
    have Zs := Nat.le_trans Zs Kq71.1
    show G (T71.setTop (mkF m 209 _ [(.ref b)]))
    refine g_astore hG X71 hx (hb hby at_209) (pc' := 211) rfl rfl (Ls' := #[.val (.int aa), .val (.int bb), .val (.int cc), .val (.int dd), .val (.int sel), .val (.int 1), .val (.int v18), .val (.ref ar), .val (.ref b46), .val (.ref b54), .val (.ref dr), .val (.long v166), .second, .val (.long v173), .second, .val (.long v180), .second, .val (.long v187), .second, .val (.ref b), .unset, .unset, .unset, .unset, .unset, .unset, .unset, .unset]) rfl ?_
    refine g_iload hG X71 hx (hb hby at_211) (pc' := 213) rfl rfl ?_
    obtain ⟨v213, q213⟩ : ∃ zz : UInt64, FP.i2d v18 = zz := ⟨_, rfl⟩
    refine g_i2d hG X71 hx (hb hby at_213) (pc' := 214) rfl q213 ?_
    refine g_ldcDouble hG X71 hx hZ hown (wd hw 32 rfl) (hb hby at_214) (pc' := 217) rfl ?_
    obtain ⟨v217, q217⟩ : ∃ zz : UInt64, FP.dmul v213 (4598175219545276416 : UInt64) = zz := ⟨_, rfl⟩
    have D217 : OwnFl.DV v217 (((v18.toInt : Int) : Rat) / 4) := by
      have b1 : (0 : Rat) ≤ (v18.toInt : Rat) := Rat.intCast_nonneg.mpr b18.1
      have b2 : (v18.toInt : Rat) ≤ 7 := by have := Rat.intCast_le_intCast.mpr b18.2; simpa using this
      have e : (v18.toInt : Rat) / 4 = (v18.toInt : Rat) * (1 / 4) := by rw [Rat.div_def, Rat.div_def, Rat.one_mul]
      have z := OwnFl.dmul_DV (OwnFl.i2d_DV v18) own_q (by grind) (by grind)
      rw [q213, q217, OwnFl.RR_exact ⟨v18.toInt, -2, by congr 1; decide +kernel, by omega, by decide⟩ (by grind) (by grind)] at z
      rw [e]; exact z
    refine g_dmul hG X71 hx (hb hby at_217) (pc' := 218) rfl (by rw [q217]; exact D217.noNaN) q217 ?_
    refine g_dstore hG X71 hx (hb hby at_218) (pc' := 220) rfl (Ls' := #[.val (.int aa), .val (.int bb), .val (.int cc), .val (.int dd), .val (.int sel), .val (.int 1), .val (.int v18), .val (.ref ar), .val (.ref b46), .val (.ref b54), .val (.ref dr), .val (.long v166), .second, .val (.long v173), .second, .val (.long v180), .second, .val (.long v187), .second, .val (.ref b), .val (.double v217), .second, .unset, .unset, .unset, .unset, .unset, .unset]) rfl ?_
    refine g_aload hG X71 hx (hb hby at_220) (pc' := 222) rfl rfl rfl ?_
    refine g_lload hG X71 hx (hb hby at_222) (pc' := 224) rfl rfl ?_
    obtain ⟨v224, q224⟩ : ∃ zz : UInt64, FP.l2d v166 = zz := ⟨_, rfl⟩
    refine g_l2d hG X71 hx (hb hby at_224) (pc' := 225) rfl q224 ?_
    refine g_lload hG X71 hx (hb hby at_225) (pc' := 227) rfl rfl ?_
    obtain ⟨v227, q227⟩ : ∃ zz : UInt64, FP.l2d v173 = zz := ⟨_, rfl⟩
    refine g_l2d hG X71 hx (hb hby at_227) (pc' := 228) rfl q227 ?_
    refine g_lload hG X71 hx (hb hby at_228) (pc' := 230) rfl rfl ?_
    obtain ⟨v230, q230⟩ : ∃ zz : UInt64, FP.l2d v180 = zz := ⟨_, rfl⟩
    refine g_l2d hG X71 hx (hb hby at_230) (pc' := 231) rfl q230 ?_
    refine g_lload hG X71 hx (hb hby at_231) (pc' := 233) rfl rfl ?_
    obtain ⟨v233, q233⟩ : ∃ zz : UInt64, FP.l2d v187 = zz := ⟨_, rfl⟩
    refine g_l2d hG X71 hx (hb hby at_233) (pc' := 234) rfl q233 ?_
    refine g_dload hG X71 hx (hb hby at_234) (pc' := 236) rfl rfl ?_
    obtain ⟨p1, hp1⟩ : ∃ z, FP.dmul t1 v224 = z := ⟨_, rfl⟩
    obtain ⟨p2, hp2⟩ : ∃ z, FP.dmul c1 v227 = z := ⟨_, rfl⟩
    obtain ⟨sc, hsc⟩ : ∃ z, FP.dadd p1 p2 = z := ⟨_, rfl⟩
    obtain ⟨p3, hp3⟩ : ∃ z, FP.dmul t1 v230 = z := ⟨_, rfl⟩
    obtain ⟨p4, hp4⟩ : ∃ z, FP.dmul c1 v233 = z := ⟨_, rfl⟩
    obtain ⟨sc2, hsc2⟩ : ∃ z, FP.dadd p3 p4 = z := ⟨_, rfl⟩
    obtain ⟨sm, hsm⟩ : ∃ z, FP.dmul v217 sc2 = z := ⟨_, rfl⟩
    obtain ⟨sk, hsk⟩ : ∃ z, FP.dmul v217 v230 = z := ⟨_, rfl⟩
    obtain ⟨lo, hlo⟩ : ∃ z, FP.dsub sc2 sm = z := ⟨_, rfl⟩
    obtain ⟨hi, hhi⟩ : ∃ z, FP.dadd sc2 sm = z := ⟨_, rfl⟩
    obtain ⟨lo2, hlo2⟩ : ∃ z, FP.dsub v230 sk = z := ⟨_, rfl⟩
    obtain ⟨hi2, hhi2⟩ : ∃ z, FP.dadd v230 sk = z := ⟨_, rfl⟩
    have D_v224 : OwnFl.DV v224 ((v166.toInt : Int) : Rat) := by rw [← q224]; exact OwnFl.l2d_DV (by omega)
    have D_v227 : OwnFl.DV v227 ((v173.toInt : Int) : Rat) := by rw [← q227]; exact OwnFl.l2d_DV (by omega)
    have D_v230 : OwnFl.DV v230 ((v180.toInt : Int) : Rat) := by rw [← q230]; exact OwnFl.l2d_DV (by omega)
    have D_v233 : OwnFl.DV v233 ((v187.toInt : Int) : Rat) := by rw [← q233]; exact OwnFl.l2d_DV (by omega)
    obtain ⟨S1_sc, S2_sc, S3_sc⟩ := own_score (p := 0) (q := 128) (by decide) (by decide) (by decide) (by decide) D1 D2 D_v224 D_v227 (by omega) (by omega) (by omega) (by omega)
    rw [hp1, hp2, hsc] at S3_sc
    rw [hp1] at S1_sc
    rw [hp2] at S2_sc
    obtain ⟨S1_sc2, S2_sc2, S3_sc2⟩ := own_score (p := 0) (q := 128) (by decide) (by decide) (by decide) (by decide) D1 D2 D_v230 D_v233 (by omega) (by omega) (by omega) (by omega)
    rw [hp3, hp4, hsc2] at S3_sc2
    rw [hp3] at S1_sc2
    rw [hp4] at S2_sc2
    have E_sc : OwnFl.DV sc (((4 * (0 * v166.toInt + 4 * v173.toInt) : Int) : Rat) / 16) := own_cast (m := 128) (n := 16) (by decide) (by decide) S3_sc (by omega)
    have E_sc2 : OwnFl.DV sc2 (((4 * (0 * v180.toInt + 4 * v187.toInt) : Int) : Rat) / 16) := own_cast (m := 128) (n := 16) (by decide) (by decide) S3_sc2 (by omega)
    have Q_sc2 : OwnFl.DV sc2 ((((0 * v180.toInt + 4 * v187.toInt) : Int) : Rat) / 4) := own_cast (m := 128) (n := 4) (by decide) (by decide) S3_sc2 (by omega)
    have bS2 : 0 ≤ (0 * v180.toInt + 4 * v187.toInt) ∧ (0 * v180.toInt + 4 * v187.toInt) ≤ 524280 := by omega
    obtain ⟨P, hP⟩ : ∃ z : Int, v18.toInt * (0 * v180.toInt + 4 * v187.toInt) = z := ⟨_, rfl⟩
    obtain ⟨R, hR⟩ : ∃ z : Int, v18.toInt * v180.toInt = z := ⟨_, rfl⟩
    have bP : 0 ≤ P ∧ P ≤ 3669960 := by
      have := mc (a := v18.toInt) (b := (0 * v180.toInt + 4 * v187.toInt)) (l1 := 0) (h1 := 7) (l2 := 0) (h2 := 524280) b18.1 b18.2 bS2.1 bS2.2
      rw [hP] at this
      omega
    have bR : 0 ≤ R ∧ R ≤ 458745 := by
      have := mc (a := v18.toInt) (b := v180.toInt) (l1 := 0) (h1 := 7) (l2 := 0) (h2 := 65535) b18.1 b18.2 b180.1 b180.2
      rw [hR] at this
      omega
    have D_sm := own_mul D217 Q_sc2 (by rw [hP]; omega) (by rw [hP]; omega)
    rw [hsm, hP] at D_sm
    have D_sk := own_mul D217 (own_one D_v230).2 (by rw [show v18.toInt * (4 * v180.toInt) = 4 * (v18.toInt * v180.toInt) from Int.mul_left_comm _ _ _, hR]; omega) (by rw [show v18.toInt * (4 * v180.toInt) = 4 * (v18.toInt * v180.toInt) from Int.mul_left_comm _ _ _, hR]; omega)
    rw [hsk, show v18.toInt * (4 * v180.toInt) = 4 * (v18.toInt * v180.toInt) from Int.mul_left_comm _ _ _, hR] at D_sk
    have D_lo := own_sub E_sc2 D_sm (by omega) (by omega)
    rw [hlo] at D_lo
    have D_hi := own_add E_sc2 D_sm (by omega) (by omega)
    rw [hhi] at D_hi
    have D_lo2 := own_sub (own_one D_v230).1 D_sk (by omega) (by omega)
    rw [hlo2, show 16 * v180.toInt - 4 * R = 4 * (4 * v180.toInt - R) by omega] at D_lo2
    have D_hi2 := own_add (own_one D_v230).1 D_sk (by omega) (by omega)
    rw [hhi2, show 16 * v180.toInt + 4 * R = 4 * (4 * v180.toInt + R) by omega] at D_hi2
    obtain ⟨rs, hrs⟩ : ∃ z : Int32, z = (if 4 * (0 * v166.toInt + 4 * v173.toInt) < 4 * (0 * v180.toInt + 4 * v187.toInt) - P ∨ 4 * (0 * v180.toInt + 4 * v187.toInt) + P < 4 * (0 * v166.toInt + 4 * v173.toInt) then (if (0 * v166.toInt + 4 * v173.toInt) < (0 * v180.toInt + 4 * v187.toInt) then (1 : Int32) else 0) else if 4 * v166.toInt < 4 * v180.toInt - R ∨ 4 * v180.toInt + R < 4 * v166.toInt then (if v166.toInt < v180.toInt then (1 : Int32) else 0) else if v173.toInt < v187.toInt then (1 : Int32) else 0) := ⟨_, rfl⟩
    refine g_callV hG X71 hx hZ (y := (⟨"com/example/ganttwright/ganttwright/Objective", "better", "(DDDDD)Z"⟩ : MethodName)) 0 hown (wd hw 33 rfl) (wd hw 34 rfl) (wd hw 36 rfl) (wd hw 35 rfl) (wd hw 4 rfl) (wd hw 37 rfl) (by decide) (rmBet l Z a0 hw [] b t1 c1 v224 v227 v230 v233 v217 p1 p2 sc p3 p4 sc2 sm sk lo hi lo2 hi2 (0 * v166.toInt + 4 * v173.toInt) (0 * v180.toInt + 4 * v187.toInt) P v166.toInt v180.toInt R v173.toInt v187.toInt rs T71.heap n0 Zs hp1 hp2 hsc hp3 hp4 hsc2 hsm hsk hlo hhi hlo2 hhi2 S1_sc.noNaN S2_sc.noNaN S1_sc2.noNaN S2_sc2.noNaN D_sm.noNaN D_sk.noNaN E_sc E_sc2 D_lo D_hi (own_one D_v224).1 (own_one D_v230).1 D_lo2 D_hi2 (own_one D_v227).1 (own_one D_v233).1 hrs Ex_b F_timeWeight_b F_costWeight_b) (by decide) (by decide) (by rw [hml]; rfl) pd_5 rfl (argsL := [(.double v224), (.double v227), (.double v230), (.double v233), (.double v217)]) (rest := []) rfl rfl (Nat.le_of_eq rfl) (hb hby at_236) rfl Ex_b (by decide) (by decide) (pc' := 239) rfl ?_
    intro T72 rv72 L72 X72 hQ72
    obtain ⟨rfl, Nq72, eh72⟩ := hQ72
    have NF72 := Fr.app NF71 Nq72
    show G (T72.setTop (mkF m 239 _ [(.int rs)]))
    refine g_istore hG X72 hx (hb hby at_239) (pc' := 241) rfl (Ls' := #[.val (.int aa), .val (.int bb), .val (.int cc), .val (.int dd), .val (.int sel), .val (.int 1), .val (.int v18), .val (.ref ar), .val (.ref b46), .val (.ref b54), .val (.ref dr), .val (.long v166), .second, .val (.long v173), .second, .val (.long v180), .second, .val (.long v187), .second, .val (.ref b), .val (.double v217), .second, .val (.int rs), .unset, .unset, .unset, .unset, .unset]) rfl ?_
    refine g_aload hG X72 hx (hb hby at_241) (pc' := 243) rfl rfl rfl ?_
    refine g_iload hG X72 hx (hb hby at_243) (pc' := 245) rfl rfl ?_
    refine g_iaload hG X72 hx hZ eh72 V_b54 (j := (1 : Int32)) (v := (.int 0)) (by decide) rfl (hb hby at_245) (pc' := 246) rfl ?_
    refine g_i2l hG X72 hx (hb hby at_246) (pc' := 247) rfl (v := (0 : Int64)) (by decide) ?_
    refine g_lload hG X72 hx (hb hby at_247) (pc' := 249) rfl rfl ?_
    obtain ⟨v249, q249⟩ : ∃ zz : Int64, (0 : Int64) * v166 = zz := ⟨_, rfl⟩
    refine g_lmul hG X72 hx (hb hby at_249) (pc' := 250) rfl q249 ?_
    refine g_aload hG X72 hx (hb hby at_250) (pc' := 252) rfl rfl rfl ?_
    refine g_iload hG X72 hx (hb hby at_252) (pc' := 254) rfl rfl ?_
    refine g_iaload hG X72 hx hZ eh72 V_dr (j := (1 : Int32)) (v := (.int 4)) (by decide) rfl (hb hby at_254) (pc' := 255) rfl ?_
    refine g_i2l hG X72 hx (hb hby at_255) (pc' := 256) rfl (v := (4 : Int64)) (by decide) ?_
    refine g_lload hG X72 hx (hb hby at_256) (pc' := 258) rfl rfl ?_
    obtain ⟨v258, q258⟩ : ∃ zz : Int64, (4 : Int64) * v173 = zz := ⟨_, rfl⟩
    refine g_lmul hG X72 hx (hb hby at_258) (pc' := 259) rfl q258 ?_
    obtain ⟨v259, q259⟩ : ∃ zz : Int64, v249 + v258 = zz := ⟨_, rfl⟩
    refine g_ladd hG X72 hx (hb hby at_259) (pc' := 260) rfl q259 ?_
    have e259 : v259.toInt = 0 * v166.toInt + 4 * v173.toInt := by
      have a1 := c_lmul (0 : Int64) v166
      have a2 := c_lmul (4 : Int64) v173
      have c1 : (0 : Int64).toInt = 0 := by decide
      have c2 : (4 : Int64).toInt = 4 := by decide
      rw [q249, c1] at a1
      rw [q258, c2] at a2
      have a3 := c_ladd v249 v258
      rw [q259] at a3
      have a4 := rng64 v249
      have a5 := rng64 v258
      have a6 := rng64 v259
      omega
    refine g_lstore hG X72 hx (hb hby at_260) (pc' := 262) rfl (Ls' := #[.val (.int aa), .val (.int bb), .val (.int cc), .val (.int dd), .val (.int sel), .val (.int 1), .val (.int v18), .val (.ref ar), .val (.ref b46), .val (.ref b54), .val (.ref dr), .val (.long v166), .second, .val (.long v173), .second, .val (.long v180), .second, .val (.long v187), .second, .val (.ref b), .val (.double v217), .second, .val (.int rs), .val (.long v259), .second, .unset, .unset, .unset]) rfl ?_
    refine g_aload hG X72 hx (hb hby at_262) (pc' := 264) rfl rfl rfl ?_
    refine g_iload hG X72 hx (hb hby at_264) (pc' := 266) rfl rfl ?_
    refine g_iaload hG X72 hx hZ eh72 V_b54 (j := (1 : Int32)) (v := (.int 0)) (by decide) rfl (hb hby at_266) (pc' := 267) rfl ?_
    refine g_i2l hG X72 hx (hb hby at_267) (pc' := 268) rfl (v := (0 : Int64)) (by decide) ?_
    refine g_lload hG X72 hx (hb hby at_268) (pc' := 270) rfl rfl ?_
    obtain ⟨v270, q270⟩ : ∃ zz : Int64, (0 : Int64) * v180 = zz := ⟨_, rfl⟩
    refine g_lmul hG X72 hx (hb hby at_270) (pc' := 271) rfl q270 ?_
    refine g_aload hG X72 hx (hb hby at_271) (pc' := 273) rfl rfl rfl ?_
    refine g_iload hG X72 hx (hb hby at_273) (pc' := 275) rfl rfl ?_
    refine g_iaload hG X72 hx hZ eh72 V_dr (j := (1 : Int32)) (v := (.int 4)) (by decide) rfl (hb hby at_275) (pc' := 276) rfl ?_
    refine g_i2l hG X72 hx (hb hby at_276) (pc' := 277) rfl (v := (4 : Int64)) (by decide) ?_
    refine g_lload hG X72 hx (hb hby at_277) (pc' := 279) rfl rfl ?_
    obtain ⟨v279, q279⟩ : ∃ zz : Int64, (4 : Int64) * v187 = zz := ⟨_, rfl⟩
    refine g_lmul hG X72 hx (hb hby at_279) (pc' := 280) rfl q279 ?_
    obtain ⟨v280, q280⟩ : ∃ zz : Int64, v270 + v279 = zz := ⟨_, rfl⟩
    refine g_ladd hG X72 hx (hb hby at_280) (pc' := 281) rfl q280 ?_
    have e280 : v280.toInt = 0 * v180.toInt + 4 * v187.toInt := by
      have a1 := c_lmul (0 : Int64) v180
      have a2 := c_lmul (4 : Int64) v187
      have c1 : (0 : Int64).toInt = 0 := by decide
      have c2 : (4 : Int64).toInt = 4 := by decide
      rw [q270, c1] at a1
      rw [q279, c2] at a2
      have a3 := c_ladd v270 v279
      rw [q280] at a3
      have a4 := rng64 v270
      have a5 := rng64 v279
      have a6 := rng64 v280
      omega
    refine g_lstore hG X72 hx (hb hby at_281) (pc' := 283) rfl (Ls' := #[.val (.int aa), .val (.int bb), .val (.int cc), .val (.int dd), .val (.int sel), .val (.int 1), .val (.int v18), .val (.ref ar), .val (.ref b46), .val (.ref b54), .val (.ref dr), .val (.long v166), .second, .val (.long v173), .second, .val (.long v180), .second, .val (.long v187), .second, .val (.ref b), .val (.double v217), .second, .val (.int rs), .val (.long v259), .second, .val (.long v280), .second, .unset]) rfl ?_
    refine g_ldcLong hG X72 hx hZ hown (wd hw 43 rfl) (hb hby at_283) (pc' := 286) rfl ?_
    refine g_lload hG X72 hx (hb hby at_286) (pc' := 288) rfl rfl ?_
    refine g_lload hG X72 hx (hb hby at_288) (pc' := 290) rfl rfl ?_
    obtain ⟨v290, q290⟩ : ∃ zz : Int64, v259 - v280 = zz := ⟨_, rfl⟩
    refine g_lsub hG X72 hx (hb hby at_290) (pc' := 291) rfl q290 ?_
    obtain ⟨ab291, hab291⟩ : ∃ z : Int64, (if v290 < 0 then -v290 else v290) = z := ⟨_, rfl⟩
    have e_ab291 : (ab291.toInt = v259.toInt - v280.toInt ∧ v280.toInt ≤ v259.toInt) ∨ (ab291.toInt = v280.toInt - v259.toInt ∧ v259.toInt ≤ v280.toInt) := by
      have a := c_lsub v259 v280
      rw [q290] at a
      have b := rng64 v290
      have c := c_lneg v290
      have d := rng64 (-v290)
      have z : (0 : Int64).toInt = 0 := by decide
      by_cases g : v290 < 0
      · rw [← hab291, if_pos g]
        rw [Int64.lt_iff_toInt_lt, z] at g
        omega
      · rw [← hab291, if_neg g]
        rw [Int64.lt_iff_toInt_lt, z] at g
        omega
    refine g_callS hG X72 hx hZ (y := (⟨"java/lang/Math", "abs", "(J)J"⟩ : MethodName)) 2 hown (wd hw 44 rfl) (wd hw 45 rfl) (wd hw 22 rfl) (wd hw 46 rfl) (by decide) (rmAbs l Z a0 hw [] v290 T71.heap n0 Zs) (by decide) (by decide) (by rw [hml]; rfl) pd_6 rfl (argsL := [(.long v290)]) (rest := [(.long 4)]) rfl rfl (Nat.le_of_eq rfl) (hb hby at_291) eh72 (by decide) (by decide) (pc' := 294) rfl ?_
    intro T73 rv73 L73 X73 hQ73
    obtain ⟨rfl, Nq73, eh73⟩ := hQ73
    have NF73 := Fr.app NF72 Nq73
    rw [hab291]
    show G (T73.setTop (mkF m 294 _ [(.long ab291), (.long 4)]))
    obtain ⟨v294, q294⟩ : ∃ zz : Int64, (4 : Int64) * ab291 = zz := ⟨_, rfl⟩
    refine g_lmul hG X73 hx (hb hby at_294) (pc' := 295) rfl q294 ?_
    refine g_iload hG X73 hx (hb hby at_295) (pc' := 297) rfl rfl ?_
    obtain ⟨v297, q297⟩ : ∃ zz : Int64, v18.toInt64 = zz := ⟨_, rfl⟩
    refine g_i2l hG X73 hx (hb hby at_297) (pc' := 298) rfl q297 ?_
    refine g_lload hG X73 hx (hb hby at_298) (pc' := 300) rfl rfl ?_
    obtain ⟨v300, q300⟩ : ∃ zz : Int64, v297 * v280 = zz := ⟨_, rfl⟩
    refine g_lmul hG X73 hx (hb hby at_300) (pc' := 301) rfl q300 ?_
    have k294 : v294.toInt = 4 * ab291.toInt := by
      have a := c_lmul (4 : Int64) ab291
      have c : (4 : Int64).toInt = 4 := by decide
      rw [q294, c] at a
      have b := rng64 v294
      omega
    have k300 : v300.toInt = P := by
      have a := c_lmul v297 v280
      have c : v297.toInt = v18.toInt := by rw [← q297]; exact c_i2l v18
      rw [q300, c, e280, hP] at a
      have b := rng64 v300
      omega
    obtain ⟨v301, q301⟩ : ∃ zz : Int32, lcmpW v294 v300 = zz := ⟨_, rfl⟩
    refine g_lcmp hG X73 hx (hb hby at_301) (pc' := 302) rfl q301 ?_
    by_cases hc302 : (0 : Int32) < v301
    · refine g_ifNo hG X73 hx (hb hby at_302) (pc' := 305) ((if0 _ _).trans (tlt hc302).2.2.2) rfl ?_
      refine g_lload hG X73 hx (hb hby at_305) (pc' := 307) rfl rfl ?_
      refine g_lload hG X73 hx (hb hby at_307) (pc' := 309) rfl rfl ?_
      obtain ⟨v309, q309⟩ : ∃ zz : Int32, lcmpW v259 v280 = zz := ⟨_, rfl⟩
      refine g_lcmp hG X73 hx (hb hby at_309) (pc' := 310) rfl q309 ?_
      by_cases hc310 : v309 < (0 : Int32)
      · refine g_ifNo hG X73 hx (hb hby at_310) (pc' := 313) ((if0 _ _).trans (tlt hc310).2.1) rfl ?_
        refine g_iconst hG X73 hx (hb hby at_313) (pc' := 314) rfl (v := (1 : Int32)) rfl ?_
        refine g_goto hG X73 hx (hb hby at_314) (pc' := 318) (by decide) (by decide) ?_
        refine g_istore hG X73 hx (hb hby at_318) (pc' := 320) rfl (Ls' := #[.val (.int aa), .val (.int bb), .val (.int cc), .val (.int dd), .val (.int sel), .val (.int 1), .val (.int v18), .val (.ref ar), .val (.ref b46), .val (.ref b54), .val (.ref dr), .val (.long v166), .second, .val (.long v173), .second, .val (.long v180), .second, .val (.long v187), .second, .val (.ref b), .val (.double v217), .second, .val (.int rs), .val (.long v259), .second, .val (.long v280), .second, .val (.int 1)]) rfl ?_
        refine g_goto hG X73 hx (hb hby at_320) (pc' := 378) (by decide) (by decide) ?_
        refine g_iload hG X73 hx (hb hby at_378) (pc' := 380) rfl rfl ?_
        refine g_iload hG X73 hx (hb hby at_380) (pc' := 382) rfl rfl ?_
        have g302 : v300.toInt < v294.toInt := Int64.lt_iff_toInt_lt.mp ((lw_gt _ _).mp (by rw [q301]; exact hc302))
        have g310 : v259.toInt < v280.toInt := Int64.lt_iff_toInt_lt.mp ((lw_lt _ _).mp (by rw [q309]; exact hc310))
        have ers : rs = (1 : Int32) := by rw [hrs, if_pos (by omega), if_pos (by omega)]
        refine g_icmpNo hG X73 hx (hb hby at_382) (pc' := 385) ((teq ers).2) rfl ?_
        refine g_iconst hG X73 hx (hb hby at_385) (pc' := 386) rfl (v := (1 : Int32)) rfl ?_
        refine g_goto hG X73 hx (hb hby at_386) (pc' := 390) (by decide) (by decide) ?_
        exact e_retZ hGe X73 hx hrt hlk (hb hby at_390) (Or.inr rfl) eh73 (by decide) (by decide) (⟨rfl, NF73⟩)
      · refine g_ifYes hG X73 hx (hb hby at_310) (pc' := 317) ((if0 _ _).trans (flt hc310).2.1) (by decide) (by decide) ?_
        refine g_iconst hG X73 hx (hb hby at_317) (pc' := 318) rfl (v := (0 : Int32)) rfl ?_
        refine g_istore hG X73 hx (hb hby at_318) (pc' := 320) rfl (Ls' := #[.val (.int aa), .val (.int bb), .val (.int cc), .val (.int dd), .val (.int sel), .val (.int 1), .val (.int v18), .val (.ref ar), .val (.ref b46), .val (.ref b54), .val (.ref dr), .val (.long v166), .second, .val (.long v173), .second, .val (.long v180), .second, .val (.long v187), .second, .val (.ref b), .val (.double v217), .second, .val (.int rs), .val (.long v259), .second, .val (.long v280), .second, .val (.int 0)]) rfl ?_
        refine g_goto hG X73 hx (hb hby at_320) (pc' := 378) (by decide) (by decide) ?_
        refine g_iload hG X73 hx (hb hby at_378) (pc' := 380) rfl rfl ?_
        refine g_iload hG X73 hx (hb hby at_380) (pc' := 382) rfl rfl ?_
        have g302 : v300.toInt < v294.toInt := Int64.lt_iff_toInt_lt.mp ((lw_gt _ _).mp (by rw [q301]; exact hc302))
        have g310 : ¬ v259.toInt < v280.toInt := fun g => hc310 (by rw [← q309]; exact (lw_lt _ _).mpr (Int64.lt_iff_toInt_lt.mpr g))
        have ers : rs = (0 : Int32) := by rw [hrs, if_pos (by omega), if_neg (by omega)]
        refine g_icmpNo hG X73 hx (hb hby at_382) (pc' := 385) ((teq ers).2) rfl ?_
        refine g_iconst hG X73 hx (hb hby at_385) (pc' := 386) rfl (v := (1 : Int32)) rfl ?_
        refine g_goto hG X73 hx (hb hby at_386) (pc' := 390) (by decide) (by decide) ?_
        exact e_retZ hGe X73 hx hrt hlk (hb hby at_390) (Or.inr rfl) eh73 (by decide) (by decide) (⟨rfl, NF73⟩)
    · refine g_ifYes hG X73 hx (hb hby at_302) (pc' := 323) ((if0 _ _).trans (flt hc302).2.2.2) (by decide) (by decide) ?_
      refine g_ldcLong hG X73 hx hZ hown (wd hw 43 rfl) (hb hby at_323) (pc' := 326) rfl ?_
      refine g_lload hG X73 hx (hb hby at_326) (pc' := 328) rfl rfl ?_
      refine g_lload hG X73 hx (hb hby at_328) (pc' := 330) rfl rfl ?_
      obtain ⟨v330, q330⟩ : ∃ zz : Int64, v166 - v180 = zz := ⟨_, rfl⟩
      refine g_lsub hG X73 hx (hb hby at_330) (pc' := 331) rfl q330 ?_
      obtain ⟨ab331, hab331⟩ : ∃ z : Int64, (if v330 < 0 then -v330 else v330) = z := ⟨_, rfl⟩
      have e_ab331 : (ab331.toInt = v166.toInt - v180.toInt ∧ v180.toInt ≤ v166.toInt) ∨ (ab331.toInt = v180.toInt - v166.toInt ∧ v166.toInt ≤ v180.toInt) := by
        have a := c_lsub v166 v180
        rw [q330] at a
        have b := rng64 v330
        have c := c_lneg v330
        have d := rng64 (-v330)
        have z : (0 : Int64).toInt = 0 := by decide
        by_cases g : v330 < 0
        · rw [← hab331, if_pos g]
          rw [Int64.lt_iff_toInt_lt, z] at g
          omega
        · rw [← hab331, if_neg g]
          rw [Int64.lt_iff_toInt_lt, z] at g
          omega
      refine g_callS hG X73 hx hZ (y := (⟨"java/lang/Math", "abs", "(J)J"⟩ : MethodName)) 2 hown (wd hw 44 rfl) (wd hw 45 rfl) (wd hw 22 rfl) (wd hw 46 rfl) (by decide) (rmAbs l Z a0 hw [] v330 T71.heap n0 Zs) (by decide) (by decide) (by rw [hml]; rfl) pd_6 rfl (argsL := [(.long v330)]) (rest := [(.long 4)]) rfl rfl (Nat.le_of_eq rfl) (hb hby at_331) eh73 (by decide) (by decide) (pc' := 334) rfl ?_
      intro T74 rv74 L74 X74 hQ74
      obtain ⟨rfl, Nq74, eh74⟩ := hQ74
      have NF74 := Fr.app NF73 Nq74
      rw [hab331]
      show G (T74.setTop (mkF m 334 _ [(.long ab331), (.long 4)]))
      obtain ⟨v334, q334⟩ : ∃ zz : Int64, (4 : Int64) * ab331 = zz := ⟨_, rfl⟩
      refine g_lmul hG X74 hx (hb hby at_334) (pc' := 335) rfl q334 ?_
      refine g_iload hG X74 hx (hb hby at_335) (pc' := 337) rfl rfl ?_
      obtain ⟨v337, q337⟩ : ∃ zz : Int64, v18.toInt64 = zz := ⟨_, rfl⟩
      refine g_i2l hG X74 hx (hb hby at_337) (pc' := 338) rfl q337 ?_
      refine g_lload hG X74 hx (hb hby at_338) (pc' := 340) rfl rfl ?_
      obtain ⟨v340, q340⟩ : ∃ zz : Int64, v337 * v180 = zz := ⟨_, rfl⟩
      refine g_lmul hG X74 hx (hb hby at_340) (pc' := 341) rfl q340 ?_
      have k334 : v334.toInt = 4 * ab331.toInt := by
        have a := c_lmul (4 : Int64) ab331
        have c : (4 : Int64).toInt = 4 := by decide
        rw [q334, c] at a
        have b := rng64 v334
        omega
      have k340 : v340.toInt = R := by
        have a := c_lmul v337 v180
        have c : v337.toInt = v18.toInt := by rw [← q337]; exact c_i2l v18
        rw [q340, c, hR] at a
        have b := rng64 v340
        omega
      obtain ⟨v341, q341⟩ : ∃ zz : Int32, lcmpW v334 v340 = zz := ⟨_, rfl⟩
      refine g_lcmp hG X74 hx (hb hby at_341) (pc' := 342) rfl q341 ?_
      by_cases hc342 : (0 : Int32) < v341
      · refine g_ifNo hG X74 hx (hb hby at_342) (pc' := 345) ((if0 _ _).trans (tlt hc342).2.2.2) rfl ?_
        refine g_lload hG X74 hx (hb hby at_345) (pc' := 347) rfl rfl ?_
        refine g_lload hG X74 hx (hb hby at_347) (pc' := 349) rfl rfl ?_
        obtain ⟨v349, q349⟩ : ∃ zz : Int32, lcmpW v166 v180 = zz := ⟨_, rfl⟩
        refine g_lcmp hG X74 hx (hb hby at_349) (pc' := 350) rfl q349 ?_
        by_cases hc350 : v349 < (0 : Int32)
        · refine g_ifNo hG X74 hx (hb hby at_350) (pc' := 353) ((if0 _ _).trans (tlt hc350).2.1) rfl ?_
          refine g_iconst hG X74 hx (hb hby at_353) (pc' := 354) rfl (v := (1 : Int32)) rfl ?_
          refine g_goto hG X74 hx (hb hby at_354) (pc' := 358) (by decide) (by decide) ?_
          refine g_istore hG X74 hx (hb hby at_358) (pc' := 360) rfl (Ls' := #[.val (.int aa), .val (.int bb), .val (.int cc), .val (.int dd), .val (.int sel), .val (.int 1), .val (.int v18), .val (.ref ar), .val (.ref b46), .val (.ref b54), .val (.ref dr), .val (.long v166), .second, .val (.long v173), .second, .val (.long v180), .second, .val (.long v187), .second, .val (.ref b), .val (.double v217), .second, .val (.int rs), .val (.long v259), .second, .val (.long v280), .second, .val (.int 1)]) rfl ?_
          refine g_goto hG X74 hx (hb hby at_360) (pc' := 378) (by decide) (by decide) ?_
          refine g_iload hG X74 hx (hb hby at_378) (pc' := 380) rfl rfl ?_
          refine g_iload hG X74 hx (hb hby at_380) (pc' := 382) rfl rfl ?_
          have g302 : ¬ v300.toInt < v294.toInt := fun g => hc302 (by rw [← q301]; exact (lw_gt _ _).mpr (Int64.lt_iff_toInt_lt.mpr g))
          have g342 : v340.toInt < v334.toInt := Int64.lt_iff_toInt_lt.mp ((lw_gt _ _).mp (by rw [q341]; exact hc342))
          have g350 : v166.toInt < v180.toInt := Int64.lt_iff_toInt_lt.mp ((lw_lt _ _).mp (by rw [q349]; exact hc350))
          have ers : rs = (1 : Int32) := by rw [hrs, if_neg (by omega), if_pos (by omega), if_pos (by omega)]
          refine g_icmpNo hG X74 hx (hb hby at_382) (pc' := 385) ((teq ers).2) rfl ?_
          refine g_iconst hG X74 hx (hb hby at_385) (pc' := 386) rfl (v := (1 : Int32)) rfl ?_
          refine g_goto hG X74 hx (hb hby at_386) (pc' := 390) (by decide) (by decide) ?_
          exact e_retZ hGe X74 hx hrt hlk (hb hby at_390) (Or.inr rfl) eh74 (by decide) (by decide) (⟨rfl, NF74⟩)
        · refine g_ifYes hG X74 hx (hb hby at_350) (pc' := 357) ((if0 _ _).trans (flt hc350).2.1) (by decide) (by decide) ?_
          refine g_iconst hG X74 hx (hb hby at_357) (pc' := 358) rfl (v := (0 : Int32)) rfl ?_
          refine g_istore hG X74 hx (hb hby at_358) (pc' := 360) rfl (Ls' := #[.val (.int aa), .val (.int bb), .val (.int cc), .val (.int dd), .val (.int sel), .val (.int 1), .val (.int v18), .val (.ref ar), .val (.ref b46), .val (.ref b54), .val (.ref dr), .val (.long v166), .second, .val (.long v173), .second, .val (.long v180), .second, .val (.long v187), .second, .val (.ref b), .val (.double v217), .second, .val (.int rs), .val (.long v259), .second, .val (.long v280), .second, .val (.int 0)]) rfl ?_
          refine g_goto hG X74 hx (hb hby at_360) (pc' := 378) (by decide) (by decide) ?_
          refine g_iload hG X74 hx (hb hby at_378) (pc' := 380) rfl rfl ?_
          refine g_iload hG X74 hx (hb hby at_380) (pc' := 382) rfl rfl ?_
          have g302 : ¬ v300.toInt < v294.toInt := fun g => hc302 (by rw [← q301]; exact (lw_gt _ _).mpr (Int64.lt_iff_toInt_lt.mpr g))
          have g342 : v340.toInt < v334.toInt := Int64.lt_iff_toInt_lt.mp ((lw_gt _ _).mp (by rw [q341]; exact hc342))
          have g350 : ¬ v166.toInt < v180.toInt := fun g => hc350 (by rw [← q349]; exact (lw_lt _ _).mpr (Int64.lt_iff_toInt_lt.mpr g))
          have ers : rs = (0 : Int32) := by rw [hrs, if_neg (by omega), if_pos (by omega), if_neg (by omega)]
          refine g_icmpNo hG X74 hx (hb hby at_382) (pc' := 385) ((teq ers).2) rfl ?_
          refine g_iconst hG X74 hx (hb hby at_385) (pc' := 386) rfl (v := (1 : Int32)) rfl ?_
          refine g_goto hG X74 hx (hb hby at_386) (pc' := 390) (by decide) (by decide) ?_
          exact e_retZ hGe X74 hx hrt hlk (hb hby at_390) (Or.inr rfl) eh74 (by decide) (by decide) (⟨rfl, NF74⟩)
      · refine g_ifYes hG X74 hx (hb hby at_342) (pc' := 363) ((if0 _ _).trans (flt hc342).2.2.2) (by decide) (by decide) ?_
        refine g_lload hG X74 hx (hb hby at_363) (pc' := 365) rfl rfl ?_
        refine g_lload hG X74 hx (hb hby at_365) (pc' := 367) rfl rfl ?_
        obtain ⟨v367, q367⟩ : ∃ zz : Int32, lcmpW v173 v187 = zz := ⟨_, rfl⟩
        refine g_lcmp hG X74 hx (hb hby at_367) (pc' := 368) rfl q367 ?_
        by_cases hc368 : v367 < (0 : Int32)
        · refine g_ifNo hG X74 hx (hb hby at_368) (pc' := 371) ((if0 _ _).trans (tlt hc368).2.1) rfl ?_
          refine g_iconst hG X74 hx (hb hby at_371) (pc' := 372) rfl (v := (1 : Int32)) rfl ?_
          refine g_goto hG X74 hx (hb hby at_372) (pc' := 376) (by decide) (by decide) ?_
          refine g_istore hG X74 hx (hb hby at_376) (pc' := 378) rfl (Ls' := #[.val (.int aa), .val (.int bb), .val (.int cc), .val (.int dd), .val (.int sel), .val (.int 1), .val (.int v18), .val (.ref ar), .val (.ref b46), .val (.ref b54), .val (.ref dr), .val (.long v166), .second, .val (.long v173), .second, .val (.long v180), .second, .val (.long v187), .second, .val (.ref b), .val (.double v217), .second, .val (.int rs), .val (.long v259), .second, .val (.long v280), .second, .val (.int 1)]) rfl ?_
          refine g_iload hG X74 hx (hb hby at_378) (pc' := 380) rfl rfl ?_
          refine g_iload hG X74 hx (hb hby at_380) (pc' := 382) rfl rfl ?_
          have g302 : ¬ v300.toInt < v294.toInt := fun g => hc302 (by rw [← q301]; exact (lw_gt _ _).mpr (Int64.lt_iff_toInt_lt.mpr g))
          have g342 : ¬ v340.toInt < v334.toInt := fun g => hc342 (by rw [← q341]; exact (lw_gt _ _).mpr (Int64.lt_iff_toInt_lt.mpr g))
          have g368 : v173.toInt < v187.toInt := Int64.lt_iff_toInt_lt.mp ((lw_lt _ _).mp (by rw [q367]; exact hc368))
          have ers : rs = (1 : Int32) := by rw [hrs, if_neg (by omega), if_neg (by omega), if_pos (by omega)]
          refine g_icmpNo hG X74 hx (hb hby at_382) (pc' := 385) ((teq ers).2) rfl ?_
          refine g_iconst hG X74 hx (hb hby at_385) (pc' := 386) rfl (v := (1 : Int32)) rfl ?_
          refine g_goto hG X74 hx (hb hby at_386) (pc' := 390) (by decide) (by decide) ?_
          exact e_retZ hGe X74 hx hrt hlk (hb hby at_390) (Or.inr rfl) eh74 (by decide) (by decide) (⟨rfl, NF74⟩)
        · refine g_ifYes hG X74 hx (hb hby at_368) (pc' := 375) ((if0 _ _).trans (flt hc368).2.1) (by decide) (by decide) ?_
          refine g_iconst hG X74 hx (hb hby at_375) (pc' := 376) rfl (v := (0 : Int32)) rfl ?_
          refine g_istore hG X74 hx (hb hby at_376) (pc' := 378) rfl (Ls' := #[.val (.int aa), .val (.int bb), .val (.int cc), .val (.int dd), .val (.int sel), .val (.int 1), .val (.int v18), .val (.ref ar), .val (.ref b46), .val (.ref b54), .val (.ref dr), .val (.long v166), .second, .val (.long v173), .second, .val (.long v180), .second, .val (.long v187), .second, .val (.ref b), .val (.double v217), .second, .val (.int rs), .val (.long v259), .second, .val (.long v280), .second, .val (.int 0)]) rfl ?_
          refine g_iload hG X74 hx (hb hby at_378) (pc' := 380) rfl rfl ?_
          refine g_iload hG X74 hx (hb hby at_380) (pc' := 382) rfl rfl ?_
          have g302 : ¬ v300.toInt < v294.toInt := fun g => hc302 (by rw [← q301]; exact (lw_gt _ _).mpr (Int64.lt_iff_toInt_lt.mpr g))
          have g342 : ¬ v340.toInt < v334.toInt := fun g => hc342 (by rw [← q341]; exact (lw_gt _ _).mpr (Int64.lt_iff_toInt_lt.mpr g))
          have g368 : ¬ v173.toInt < v187.toInt := fun g => hc368 (by rw [← q367]; exact (lw_lt _ _).mpr (Int64.lt_iff_toInt_lt.mpr g))
          have ers : rs = (0 : Int32) := by rw [hrs, if_neg (by omega), if_neg (by omega), if_neg (by omega)]
          refine g_icmpNo hG X74 hx (hb hby at_382) (pc' := 385) ((teq ers).2) rfl ?_
          refine g_iconst hG X74 hx (hb hby at_385) (pc' := 386) rfl (v := (1 : Int32)) rfl ?_
          refine g_goto hG X74 hx (hb hby at_386) (pc' := 390) (by decide) (by decide) ?_
          exact e_retZ hGe X74 hx hrt hlk (hb hby at_390) (Or.inr rfl) eh74 (by decide) (by decide) (⟨rfl, NF74⟩)
  · skip
    show G (s₁.setTop (mkF m 9 _ [(.int 2)]))
    refine g_istore hG X0 hx (hb hby at_9) (pc' := 11) rfl (Ls' := #[.val (.int aa), .val (.int bb), .val (.int cc), .val (.int dd), .val (.int sel), .val (.int 2), .unset, .unset, .unset, .unset, .unset, .unset, .unset, .unset, .unset, .unset, .unset, .unset, .unset, .unset, .unset, .unset, .unset, .unset, .unset, .unset, .unset, .unset]) rfl ?_
    refine g_iload hG X0 hx (hb hby at_11) (pc' := 13) rfl rfl ?_
    refine g_bipush hG X0 hx (hb hby at_13) (pc' := 15) rfl (v := (8 : Int32)) rfl ?_
    obtain ⟨v15, q15⟩ : ∃ zz : Int32, (sel.toUInt32 >>> ((8 : Int32) &&& 31).toUInt32).toInt32 = zz := ⟨_, rfl⟩
    refine g_iushr hG X0 hx (hb hby at_15) (pc' := 16) rfl q15 ?_
    refine g_bipush hG X0 hx (hb hby at_16) (pc' := 18) rfl (v := (7 : Int32)) rfl ?_
    obtain ⟨v18, q18⟩ : ∃ zz : Int32, v15 &&& (7 : Int32) = zz := ⟨_, rfl⟩
    refine g_iand hG X0 hx (hb hby at_18) (pc' := 19) rfl q18 ?_
    have b18 : 0 ≤ v18.toInt ∧ v18.toInt ≤ 7 := by rw [← q18]; exact c_and v15 7 (by decide)
    refine g_istore hG X0 hx (hb hby at_19) (pc' := 21) rfl (Ls' := #[.val (.int aa), .val (.int bb), .val (.int cc), .val (.int dd), .val (.int sel), .val (.int 2), .val (.int v18), .unset, .unset, .unset, .unset, .unset, .unset, .unset, .unset, .unset, .unset, .unset, .unset, .unset, .unset, .unset, .unset, .unset, .unset, .unset, .unset, .unset]) rfl ?_
    refine g_bipush hG X0 hx (hb hby at_21) (pc' := 23) rfl (v := (7 : Int32)) rfl ?_
    refine g_newP hG X0 hx hZ (wd hw 0 rfl) e0 (hb hby at_23) (by decide) 7 (by decide) (by decide) (by decide) (by decide) (pc' := 25) rfl ?_
    intro T75 h75 ar kA75 gs75 X75 e75 E75 A75
    have ge_ar : n0 ≤ ar := gs75 ▸ Zs
    have Zs := Nat.le_trans Zs E75.1
    have V_ar : AV Z h75 ar .int (7 : Int32) [(.int 0), (.int 0), (.int 0), (.int 0), (.int 0), (.int 0), (.int 0)] := AV.new A75
    refine g_dup hG X75 hx (hb hby at_25) (pc' := 26) rfl rfl ?_
    refine g_iconst hG X75 hx (hb hby at_26) (pc' := 27) rfl (v := (0 : Int32)) rfl ?_
    refine g_iconst hG X75 hx (hb hby at_27) (pc' := 28) rfl (v := (1 : Int32)) rfl ?_
    refine g_iastore hG X75 hx hZ e75 V_ar (j := (0 : Int32)) (by decide) (show Int32.toNatClampNeg (0 : Int32) < 7 by decide) (hb hby at_28) (pc' := 29) rfl ?_
    intro T76 h76 X76 e76 W76 Vn76
    have V_ar : AV Z h76 ar .int (7 : Int32) [(.int 1), (.int 0), (.int 0), (.int 0), (.int 0), (.int 0), (.int 0)] := Vn76
    have Zs := Nat.le_trans Zs (Wr.size W76)
    have NF76 := Fr.snoc X76 NF0 ge_ar
    refine g_dup hG X76 hx (hb hby at_29) (pc' := 30) rfl rfl ?_
    refine g_iconst hG X76 hx (hb hby at_30) (pc' := 31) rfl (v := (1 : Int32)) rfl ?_
    refine g_iconst hG X76 hx (hb hby at_31) (pc' := 32) rfl (v := (0 : Int32)) rfl ?_
    refine g_iastore hG X76 hx hZ e76 V_ar (j := (1 : Int32)) (by decide) (show Int32.toNatClampNeg (1 : Int32) < 7 by decide) (hb hby at_32) (pc' := 33) rfl ?_
    intro T77 h77 X77 e77 W77 Vn77
    have V_ar : AV Z h77 ar .int (7 : Int32) [(.int 1), (.int 0), (.int 0), (.int 0), (.int 0), (.int 0), (.int 0)] := Vn77
    have Zs := Nat.le_trans Zs (Wr.size W77)
    have NF77 := Fr.snoc X77 NF76 ge_ar
    refine g_dup hG X77 hx (hb hby at_33) (pc' := 34) rfl rfl ?_
    refine g_iconst hG X77 hx (hb hby at_34) (pc' := 35) rfl (v := (2 : Int32)) rfl ?_
    refine g_iconst hG X77 hx (hb hby at_35) (pc' := 36) rfl (v := (3 : Int32)) rfl ?_
    refine g_iastore hG X77 hx hZ e77 V_ar (j := (2 : Int32)) (by decide) (show Int32.toNatClampNeg (2 : Int32) < 7 by decide) (hb hby at_36) (pc' := 37) rfl ?_
    intro T78 h78 X78 e78 W78 Vn78
    have V_ar : AV Z h78 ar .int (7 : Int32) [(.int 1), (.int 0), (.int 3), (.int 0), (.int 0), (.int 0), (.int 0)] := Vn78
    have Zs := Nat.le_trans Zs (Wr.size W78)
    have NF78 := Fr.snoc X78 NF77 ge_ar
    refine g_dup hG X78 hx (hb hby at_37) (pc' := 38) rfl rfl ?_
    refine g_iconst hG X78 hx (hb hby at_38) (pc' := 39) rfl (v := (3 : Int32)) rfl ?_
    refine g_iconst hG X78 hx (hb hby at_39) (pc' := 40) rfl (v := (1 : Int32)) rfl ?_
    refine g_iastore hG X78 hx hZ e78 V_ar (j := (3 : Int32)) (by decide) (show Int32.toNatClampNeg (3 : Int32) < 7 by decide) (hb hby at_40) (pc' := 41) rfl ?_
    intro T79 h79 X79 e79 W79 Vn79
    have V_ar : AV Z h79 ar .int (7 : Int32) [(.int 1), (.int 0), (.int 3), (.int 1), (.int 0), (.int 0), (.int 0)] := Vn79
    have Zs := Nat.le_trans Zs (Wr.size W79)
    have NF79 := Fr.snoc X79 NF78 ge_ar
    refine g_dup hG X79 hx (hb hby at_41) (pc' := 42) rfl rfl ?_
    refine g_iconst hG X79 hx (hb hby at_42) (pc' := 43) rfl (v := (4 : Int32)) rfl ?_
    refine g_bipush hG X79 hx (hb hby at_43) (pc' := 45) rfl (v := (8 : Int32)) rfl ?_
    refine g_iastore hG X79 hx hZ e79 V_ar (j := (4 : Int32)) (by decide) (show Int32.toNatClampNeg (4 : Int32) < 7 by decide) (hb hby at_45) (pc' := 46) rfl ?_
    intro T80 h80 X80 e80 W80 Vn80
    have V_ar : AV Z h80 ar .int (7 : Int32) [(.int 1), (.int 0), (.int 3), (.int 1), (.int 8), (.int 0), (.int 0)] := Vn80
    have Zs := Nat.le_trans Zs (Wr.size W80)
    have NF80 := Fr.snoc X80 NF79 ge_ar
    refine g_dup hG X80 hx (hb hby at_46) (pc' := 47) rfl rfl ?_
    refine g_iconst hG X80 hx (hb hby at_47) (pc' := 48) rfl (v := (5 : Int32)) rfl ?_
    refine g_iconst hG X80 hx (hb hby at_48) (pc' := 49) rfl (v := (1 : Int32)) rfl ?_
    refine g_iastore hG X80 hx hZ e80 V_ar (j := (5 : Int32)) (by decide) (show Int32.toNatClampNeg (5 : Int32) < 7 by decide) (hb hby at_49) (pc' := 50) rfl ?_
    intro T81 h81 X81 e81 W81 Vn81
    have V_ar : AV Z h81 ar .int (7 : Int32) [(.int 1), (.int 0), (.int 3), (.int 1), (.int 8), (.int 1), (.int 0)] := Vn81
    have Zs := Nat.le_trans Zs (Wr.size W81)
    have NF81 := Fr.snoc X81 NF80 ge_ar
    refine g_dup hG X81 hx (hb hby at_50) (pc' := 51) rfl rfl ?_
    refine g_bipush hG X81 hx (hb hby at_51) (pc' := 53) rfl (v := (6 : Int32)) rfl ?_
    refine g_iconst hG X81 hx (hb hby at_53) (pc' := 54) rfl (v := (4 : Int32)) rfl ?_
    refine g_iastore hG X81 hx hZ e81 V_ar (j := (6 : Int32)) (by decide) (show Int32.toNatClampNeg (6 : Int32) < 7 by decide) (hb hby at_54) (pc' := 55) rfl ?_
    intro T82 h82 X82 e82 W82 Vn82
    have V_ar : AV Z h82 ar .int (7 : Int32) [(.int 1), (.int 0), (.int 3), (.int 1), (.int 8), (.int 1), (.int 4)] := Vn82
    have Zs := Nat.le_trans Zs (Wr.size W82)
    have NF82 := Fr.snoc X82 NF81 ge_ar
    refine g_astore hG X82 hx (hb hby at_55) (pc' := 57) rfl rfl (Ls' := #[.val (.int aa), .val (.int bb), .val (.int cc), .val (.int dd), .val (.int sel), .val (.int 2), .val (.int v18), .val (.ref ar), .unset, .unset, .unset, .unset, .unset, .unset, .unset, .unset, .unset, .unset, .unset, .unset, .unset, .unset, .unset, .unset, .unset, .unset, .unset, .unset]) rfl ?_
    refine g_bipush hG X82 hx (hb hby at_57) (pc' := 59) rfl (v := (7 : Int32)) rfl ?_
    refine g_newP hG X82 hx hZ (wd hw 0 rfl) e82 (hb hby at_59) (by decide) 7 (by decide) (by decide) (by decide) (by decide) (pc' := 61) rfl ?_
    intro T83 h83 b83 kA83 gs83 X83 e83 E83 A83
    have ne_ar_b83 : ar ≠ b83 := Nat.ne_of_lt (gs83 ▸ V_ar.lt)
    have ge_b83 : n0 ≤ b83 := gs83 ▸ Zs
    have Zs := Nat.le_trans Zs E83.1
    have V_ar := V_ar.ext E83
    have V_b83 : AV Z h83 b83 .int (7 : Int32) [(.int 0), (.int 0), (.int 0), (.int 0), (.int 0), (.int 0), (.int 0)] := AV.new A83
    refine g_dup hG X83 hx (hb hby at_61) (pc' := 62) rfl rfl ?_
    refine g_iconst hG X83 hx (hb hby at_62) (pc' := 63) rfl (v := (0 : Int32)) rfl ?_
    refine g_iconst hG X83 hx (hb hby at_63) (pc' := 64) rfl (v := (0 : Int32)) rfl ?_
    refine g_iastore hG X83 hx hZ e83 V_b83 (j := (0 : Int32)) (by decide) (show Int32.toNatClampNeg (0 : Int32) < 7 by decide) (hb hby at_64) (pc' := 65) rfl ?_
    intro T84 h84 X84 e84 W84 Vn84
    have V_b83 : AV Z h84 b83 .int (7 : Int32) [(.int 0), (.int 0), (.int 0), (.int 0), (.int 0), (.int 0), (.int 0)] := Vn84
    have V_ar := V_ar.other W84 ne_ar_b83
    have Zs := Nat.le_trans Zs (Wr.size W84)
    have NF84 := Fr.snoc X84 NF82 ge_b83
    refine g_dup hG X84 hx (hb hby at_65) (pc' := 66) rfl rfl ?_
    refine g_iconst hG X84 hx (hb hby at_66) (pc' := 67) rfl (v := (1 : Int32)) rfl ?_
    refine g_iconst hG X84 hx (hb hby at_67) (pc' := 68) rfl (v := (2 : Int32)) rfl ?_
    refine g_iastore hG X84 hx hZ e84 V_b83 (j := (1 : Int32)) (by decide) (show Int32.toNatClampNeg (1 : Int32) < 7 by decide) (hb hby at_68) (pc' := 69) rfl ?_
    intro T85 h85 X85 e85 W85 Vn85
    have V_b83 : AV Z h85 b83 .int (7 : Int32) [(.int 0), (.int 2), (.int 0), (.int 0), (.int 0), (.int 0), (.int 0)] := Vn85
    have V_ar := V_ar.other W85 ne_ar_b83
    have Zs := Nat.le_trans Zs (Wr.size W85)
    have NF85 := Fr.snoc X85 NF84 ge_b83
    refine g_dup hG X85 hx (hb hby at_69) (pc' := 70) rfl rfl ?_
    refine g_iconst hG X85 hx (hb hby at_70) (pc' := 71) rfl (v := (2 : Int32)) rfl ?_
    refine g_iconst hG X85 hx (hb hby at_71) (pc' := 72) rfl (v := (3 : Int32)) rfl ?_
    refine g_iastore hG X85 hx hZ e85 V_b83 (j := (2 : Int32)) (by decide) (show Int32.toNatClampNeg (2 : Int32) < 7 by decide) (hb hby at_72) (pc' := 73) rfl ?_
    intro T86 h86 X86 e86 W86 Vn86
    have V_b83 : AV Z h86 b83 .int (7 : Int32) [(.int 0), (.int 2), (.int 3), (.int 0), (.int 0), (.int 0), (.int 0)] := Vn86
    have V_ar := V_ar.other W86 ne_ar_b83
    have Zs := Nat.le_trans Zs (Wr.size W86)
    have NF86 := Fr.snoc X86 NF85 ge_b83
    refine g_dup hG X86 hx (hb hby at_73) (pc' := 74) rfl rfl ?_
    refine g_iconst hG X86 hx (hb hby at_74) (pc' := 75) rfl (v := (3 : Int32)) rfl ?_
    refine g_iconst hG X86 hx (hb hby at_75) (pc' := 76) rfl (v := (2 : Int32)) rfl ?_
    refine g_iastore hG X86 hx hZ e86 V_b83 (j := (3 : Int32)) (by decide) (show Int32.toNatClampNeg (3 : Int32) < 7 by decide) (hb hby at_76) (pc' := 77) rfl ?_
    intro T87 h87 X87 e87 W87 Vn87
    have V_b83 : AV Z h87 b83 .int (7 : Int32) [(.int 0), (.int 2), (.int 3), (.int 2), (.int 0), (.int 0), (.int 0)] := Vn87
    have V_ar := V_ar.other W87 ne_ar_b83
    have Zs := Nat.le_trans Zs (Wr.size W87)
    have NF87 := Fr.snoc X87 NF86 ge_b83
    refine g_dup hG X87 hx (hb hby at_77) (pc' := 78) rfl rfl ?_
    refine g_iconst hG X87 hx (hb hby at_78) (pc' := 79) rfl (v := (4 : Int32)) rfl ?_
    refine g_iconst hG X87 hx (hb hby at_79) (pc' := 80) rfl (v := (4 : Int32)) rfl ?_
    refine g_iastore hG X87 hx hZ e87 V_b83 (j := (4 : Int32)) (by decide) (show Int32.toNatClampNeg (4 : Int32) < 7 by decide) (hb hby at_80) (pc' := 81) rfl ?_
    intro T88 h88 X88 e88 W88 Vn88
    have V_b83 : AV Z h88 b83 .int (7 : Int32) [(.int 0), (.int 2), (.int 3), (.int 2), (.int 4), (.int 0), (.int 0)] := Vn88
    have V_ar := V_ar.other W88 ne_ar_b83
    have Zs := Nat.le_trans Zs (Wr.size W88)
    have NF88 := Fr.snoc X88 NF87 ge_b83
    refine g_dup hG X88 hx (hb hby at_81) (pc' := 82) rfl rfl ?_
    refine g_iconst hG X88 hx (hb hby at_82) (pc' := 83) rfl (v := (5 : Int32)) rfl ?_
    refine g_iconst hG X88 hx (hb hby at_83) (pc' := 84) rfl (v := (4 : Int32)) rfl ?_
    refine g_iastore hG X88 hx hZ e88 V_b83 (j := (5 : Int32)) (by decide) (show Int32.toNatClampNeg (5 : Int32) < 7 by decide) (hb hby at_84) (pc' := 85) rfl ?_
    intro T89 h89 X89 e89 W89 Vn89
    have V_b83 : AV Z h89 b83 .int (7 : Int32) [(.int 0), (.int 2), (.int 3), (.int 2), (.int 4), (.int 4), (.int 0)] := Vn89
    have V_ar := V_ar.other W89 ne_ar_b83
    have Zs := Nat.le_trans Zs (Wr.size W89)
    have NF89 := Fr.snoc X89 NF88 ge_b83
    refine g_dup hG X89 hx (hb hby at_85) (pc' := 86) rfl rfl ?_
    refine g_bipush hG X89 hx (hb hby at_86) (pc' := 88) rfl (v := (6 : Int32)) rfl ?_
    refine g_iconst hG X89 hx (hb hby at_88) (pc' := 89) rfl (v := (1 : Int32)) rfl ?_
    refine g_iastore hG X89 hx hZ e89 V_b83 (j := (6 : Int32)) (by decide) (show Int32.toNatClampNeg (6 : Int32) < 7 by decide) (hb hby at_89) (pc' := 90) rfl ?_
    intro T90 h90 X90 e90 W90 Vn90
    have V_b83 : AV Z h90 b83 .int (7 : Int32) [(.int 0), (.int 2), (.int 3), (.int 2), (.int 4), (.int 4), (.int 1)] := Vn90
    have V_ar := V_ar.other W90 ne_ar_b83
    have Zs := Nat.le_trans Zs (Wr.size W90)
    have NF90 := Fr.snoc X90 NF89 ge_b83
    refine g_astore hG X90 hx (hb hby at_90) (pc' := 92) rfl rfl (Ls' := #[.val (.int aa), .val (.int bb), .val (.int cc), .val (.int dd), .val (.int sel), .val (.int 2), .val (.int v18), .val (.ref ar), .val (.ref b83), .unset, .unset, .unset, .unset, .unset, .unset, .unset, .unset, .unset, .unset, .unset, .unset, .unset, .unset, .unset, .unset, .unset, .unset, .unset]) rfl ?_
    refine g_bipush hG X90 hx (hb hby at_92) (pc' := 94) rfl (v := (7 : Int32)) rfl ?_
    refine g_newP hG X90 hx hZ (wd hw 0 rfl) e90 (hb hby at_94) (by decide) 7 (by decide) (by decide) (by decide) (by decide) (pc' := 96) rfl ?_
    intro T91 h91 b91 kA91 gs91 X91 e91 E91 A91
    have ne_ar_b91 : ar ≠ b91 := Nat.ne_of_lt (gs91 ▸ V_ar.lt)
    have ne_b83_b91 : b83 ≠ b91 := Nat.ne_of_lt (gs91 ▸ V_b83.lt)
    have ge_b91 : n0 ≤ b91 := gs91 ▸ Zs
    have Zs := Nat.le_trans Zs E91.1
    have V_ar := V_ar.ext E91
    have V_b83 := V_b83.ext E91
    have V_b91 : AV Z h91 b91 .int (7 : Int32) [(.int 0), (.int 0), (.int 0), (.int 0), (.int 0), (.int 0), (.int 0)] := AV.new A91
    refine g_dup hG X91 hx (hb hby at_96) (pc' := 97) rfl rfl ?_
    refine g_iconst hG X91 hx (hb hby at_97) (pc' := 98) rfl (v := (0 : Int32)) rfl ?_
    refine g_iconst hG X91 hx (hb hby at_98) (pc' := 99) rfl (v := (4 : Int32)) rfl ?_
    refine g_iastore hG X91 hx hZ e91 V_b91 (j := (0 : Int32)) (by decide) (show Int32.toNatClampNeg (0 : Int32) < 7 by decide) (hb hby at_99) (pc' := 100) rfl ?_
    intro T92 h92 X92 e92 W92 Vn92
    have V_b91 : AV Z h92 b91 .int (7 : Int32) [(.int 4), (.int 0), (.int 0), (.int 0), (.int 0), (.int 0), (.int 0)] := Vn92
    have V_ar := V_ar.other W92 ne_ar_b91
    have V_b83 := V_b83.other W92 ne_b83_b91
    have Zs := Nat.le_trans Zs (Wr.size W92)
    have NF92 := Fr.snoc X92 NF90 ge_b91
    refine g_dup hG X92 hx (hb hby at_100) (pc' := 101) rfl rfl ?_
    refine g_iconst hG X92 hx (hb hby at_101) (pc' := 102) rfl (v := (1 : Int32)) rfl ?_
    refine g_iconst hG X92 hx (hb hby at_102) (pc' := 103) rfl (v := (0 : Int32)) rfl ?_
    refine g_iastore hG X92 hx hZ e92 V_b91 (j := (1 : Int32)) (by decide) (show Int32.toNatClampNeg (1 : Int32) < 7 by decide) (hb hby at_103) (pc' := 104) rfl ?_
    intro T93 h93 X93 e93 W93 Vn93
    have V_b91 : AV Z h93 b91 .int (7 : Int32) [(.int 4), (.int 0), (.int 0), (.int 0), (.int 0), (.int 0), (.int 0)] := Vn93
    have V_ar := V_ar.other W93 ne_ar_b91
    have V_b83 := V_b83.other W93 ne_b83_b91
    have Zs := Nat.le_trans Zs (Wr.size W93)
    have NF93 := Fr.snoc X93 NF92 ge_b91
    refine g_dup hG X93 hx (hb hby at_104) (pc' := 105) rfl rfl ?_
    refine g_iconst hG X93 hx (hb hby at_105) (pc' := 106) rfl (v := (2 : Int32)) rfl ?_
    refine g_iconst hG X93 hx (hb hby at_106) (pc' := 107) rfl (v := (4 : Int32)) rfl ?_
    refine g_iastore hG X93 hx hZ e93 V_b91 (j := (2 : Int32)) (by decide) (show Int32.toNatClampNeg (2 : Int32) < 7 by decide) (hb hby at_107) (pc' := 108) rfl ?_
    intro T94 h94 X94 e94 W94 Vn94
    have V_b91 : AV Z h94 b91 .int (7 : Int32) [(.int 4), (.int 0), (.int 4), (.int 0), (.int 0), (.int 0), (.int 0)] := Vn94
    have V_ar := V_ar.other W94 ne_ar_b91
    have V_b83 := V_b83.other W94 ne_b83_b91
    have Zs := Nat.le_trans Zs (Wr.size W94)
    have NF94 := Fr.snoc X94 NF93 ge_b91
    refine g_dup hG X94 hx (hb hby at_108) (pc' := 109) rfl rfl ?_
    refine g_iconst hG X94 hx (hb hby at_109) (pc' := 110) rfl (v := (3 : Int32)) rfl ?_
    refine g_iconst hG X94 hx (hb hby at_110) (pc' := 111) rfl (v := (2 : Int32)) rfl ?_
    refine g_iastore hG X94 hx hZ e94 V_b91 (j := (3 : Int32)) (by decide) (show Int32.toNatClampNeg (3 : Int32) < 7 by decide) (hb hby at_111) (pc' := 112) rfl ?_
    intro T95 h95 X95 e95 W95 Vn95
    have V_b91 : AV Z h95 b91 .int (7 : Int32) [(.int 4), (.int 0), (.int 4), (.int 2), (.int 0), (.int 0), (.int 0)] := Vn95
    have V_ar := V_ar.other W95 ne_ar_b91
    have V_b83 := V_b83.other W95 ne_b83_b91
    have Zs := Nat.le_trans Zs (Wr.size W95)
    have NF95 := Fr.snoc X95 NF94 ge_b91
    refine g_dup hG X95 hx (hb hby at_112) (pc' := 113) rfl rfl ?_
    refine g_iconst hG X95 hx (hb hby at_113) (pc' := 114) rfl (v := (4 : Int32)) rfl ?_
    refine g_iconst hG X95 hx (hb hby at_114) (pc' := 115) rfl (v := (4 : Int32)) rfl ?_
    refine g_iastore hG X95 hx hZ e95 V_b91 (j := (4 : Int32)) (by decide) (show Int32.toNatClampNeg (4 : Int32) < 7 by decide) (hb hby at_115) (pc' := 116) rfl ?_
    intro T96 h96 X96 e96 W96 Vn96
    have V_b91 : AV Z h96 b91 .int (7 : Int32) [(.int 4), (.int 0), (.int 4), (.int 2), (.int 4), (.int 0), (.int 0)] := Vn96
    have V_ar := V_ar.other W96 ne_ar_b91
    have V_b83 := V_b83.other W96 ne_b83_b91
    have Zs := Nat.le_trans Zs (Wr.size W96)
    have NF96 := Fr.snoc X96 NF95 ge_b91
    refine g_dup hG X96 hx (hb hby at_116) (pc' := 117) rfl rfl ?_
    refine g_iconst hG X96 hx (hb hby at_117) (pc' := 118) rfl (v := (5 : Int32)) rfl ?_
    refine g_iconst hG X96 hx (hb hby at_118) (pc' := 119) rfl (v := (1 : Int32)) rfl ?_
    refine g_iastore hG X96 hx hZ e96 V_b91 (j := (5 : Int32)) (by decide) (show Int32.toNatClampNeg (5 : Int32) < 7 by decide) (hb hby at_119) (pc' := 120) rfl ?_
    intro T97 h97 X97 e97 W97 Vn97
    have V_b91 : AV Z h97 b91 .int (7 : Int32) [(.int 4), (.int 0), (.int 4), (.int 2), (.int 4), (.int 1), (.int 0)] := Vn97
    have V_ar := V_ar.other W97 ne_ar_b91
    have V_b83 := V_b83.other W97 ne_b83_b91
    have Zs := Nat.le_trans Zs (Wr.size W97)
    have NF97 := Fr.snoc X97 NF96 ge_b91
    refine g_dup hG X97 hx (hb hby at_120) (pc' := 121) rfl rfl ?_
    refine g_bipush hG X97 hx (hb hby at_121) (pc' := 123) rfl (v := (6 : Int32)) rfl ?_
    refine g_iconst hG X97 hx (hb hby at_123) (pc' := 124) rfl (v := (4 : Int32)) rfl ?_
    refine g_iastore hG X97 hx hZ e97 V_b91 (j := (6 : Int32)) (by decide) (show Int32.toNatClampNeg (6 : Int32) < 7 by decide) (hb hby at_124) (pc' := 125) rfl ?_
    intro T98 h98 X98 e98 W98 Vn98
    have V_b91 : AV Z h98 b91 .int (7 : Int32) [(.int 4), (.int 0), (.int 4), (.int 2), (.int 4), (.int 1), (.int 4)] := Vn98
    have V_ar := V_ar.other W98 ne_ar_b91
    have V_b83 := V_b83.other W98 ne_b83_b91
    have Zs := Nat.le_trans Zs (Wr.size W98)
    have NF98 := Fr.snoc X98 NF97 ge_b91
    refine g_astore hG X98 hx (hb hby at_125) (pc' := 127) rfl rfl (Ls' := #[.val (.int aa), .val (.int bb), .val (.int cc), .val (.int dd), .val (.int sel), .val (.int 2), .val (.int v18), .val (.ref ar), .val (.ref b83), .val (.ref b91), .unset, .unset, .unset, .unset, .unset, .unset, .unset, .unset, .unset, .unset, .unset, .unset, .unset, .unset, .unset, .unset, .unset, .unset]) rfl ?_
    refine g_bipush hG X98 hx (hb hby at_127) (pc' := 129) rfl (v := (7 : Int32)) rfl ?_
    refine g_newP hG X98 hx hZ (wd hw 0 rfl) e98 (hb hby at_129) (by decide) 7 (by decide) (by decide) (by decide) (by decide) (pc' := 131) rfl ?_
    intro T99 h99 dr kA99 gs99 X99 e99 E99 A99
    have ne_ar_dr : ar ≠ dr := Nat.ne_of_lt (gs99 ▸ V_ar.lt)
    have ne_b83_dr : b83 ≠ dr := Nat.ne_of_lt (gs99 ▸ V_b83.lt)
    have ne_b91_dr : b91 ≠ dr := Nat.ne_of_lt (gs99 ▸ V_b91.lt)
    have ge_dr : n0 ≤ dr := gs99 ▸ Zs
    have Zs := Nat.le_trans Zs E99.1
    have V_ar := V_ar.ext E99
    have V_b83 := V_b83.ext E99
    have V_b91 := V_b91.ext E99
    have V_dr : AV Z h99 dr .int (7 : Int32) [(.int 0), (.int 0), (.int 0), (.int 0), (.int 0), (.int 0), (.int 0)] := AV.new A99
    refine g_dup hG X99 hx (hb hby at_131) (pc' := 132) rfl rfl ?_
    refine g_iconst hG X99 hx (hb hby at_132) (pc' := 133) rfl (v := (0 : Int32)) rfl ?_
    refine g_iconst hG X99 hx (hb hby at_133) (pc' := 134) rfl (v := (0 : Int32)) rfl ?_
    refine g_iastore hG X99 hx hZ e99 V_dr (j := (0 : Int32)) (by decide) (show Int32.toNatClampNeg (0 : Int32) < 7 by decide) (hb hby at_134) (pc' := 135) rfl ?_
    intro T100 h100 X100 e100 W100 Vn100
    have V_dr : AV Z h100 dr .int (7 : Int32) [(.int 0), (.int 0), (.int 0), (.int 0), (.int 0), (.int 0), (.int 0)] := Vn100
    have V_ar := V_ar.other W100 ne_ar_dr
    have V_b83 := V_b83.other W100 ne_b83_dr
    have V_b91 := V_b91.other W100 ne_b91_dr
    have Zs := Nat.le_trans Zs (Wr.size W100)
    have NF100 := Fr.snoc X100 NF98 ge_dr
    refine g_dup hG X100 hx (hb hby at_135) (pc' := 136) rfl rfl ?_
    refine g_iconst hG X100 hx (hb hby at_136) (pc' := 137) rfl (v := (1 : Int32)) rfl ?_
    refine g_iconst hG X100 hx (hb hby at_137) (pc' := 138) rfl (v := (4 : Int32)) rfl ?_
    refine g_iastore hG X100 hx hZ e100 V_dr (j := (1 : Int32)) (by decide) (show Int32.toNatClampNeg (1 : Int32) < 7 by decide) (hb hby at_138) (pc' := 139) rfl ?_
    intro T101 h101 X101 e101 W101 Vn101
    have V_dr : AV Z h101 dr .int (7 : Int32) [(.int 0), (.int 4), (.int 0), (.int 0), (.int 0), (.int 0), (.int 0)] := Vn101
    have V_ar := V_ar.other W101 ne_ar_dr
    have V_b83 := V_b83.other W101 ne_b83_dr
    have V_b91 := V_b91.other W101 ne_b91_dr
    have Zs := Nat.le_trans Zs (Wr.size W101)
    have NF101 := Fr.snoc X101 NF100 ge_dr
    refine g_dup hG X101 hx (hb hby at_139) (pc' := 140) rfl rfl ?_
    refine g_iconst hG X101 hx (hb hby at_140) (pc' := 141) rfl (v := (2 : Int32)) rfl ?_
    refine g_iconst hG X101 hx (hb hby at_141) (pc' := 142) rfl (v := (4 : Int32)) rfl ?_
    refine g_iastore hG X101 hx hZ e101 V_dr (j := (2 : Int32)) (by decide) (show Int32.toNatClampNeg (2 : Int32) < 7 by decide) (hb hby at_142) (pc' := 143) rfl ?_
    intro T102 h102 X102 e102 W102 Vn102
    have V_dr : AV Z h102 dr .int (7 : Int32) [(.int 0), (.int 4), (.int 4), (.int 0), (.int 0), (.int 0), (.int 0)] := Vn102
    have V_ar := V_ar.other W102 ne_ar_dr
    have V_b83 := V_b83.other W102 ne_b83_dr
    have V_b91 := V_b91.other W102 ne_b91_dr
    have Zs := Nat.le_trans Zs (Wr.size W102)
    have NF102 := Fr.snoc X102 NF101 ge_dr
    refine g_dup hG X102 hx (hb hby at_143) (pc' := 144) rfl rfl ?_
    refine g_iconst hG X102 hx (hb hby at_144) (pc' := 145) rfl (v := (3 : Int32)) rfl ?_
    refine g_iconst hG X102 hx (hb hby at_145) (pc' := 146) rfl (v := (4 : Int32)) rfl ?_
    refine g_iastore hG X102 hx hZ e102 V_dr (j := (3 : Int32)) (by decide) (show Int32.toNatClampNeg (3 : Int32) < 7 by decide) (hb hby at_146) (pc' := 147) rfl ?_
    intro T103 h103 X103 e103 W103 Vn103
    have V_dr : AV Z h103 dr .int (7 : Int32) [(.int 0), (.int 4), (.int 4), (.int 4), (.int 0), (.int 0), (.int 0)] := Vn103
    have V_ar := V_ar.other W103 ne_ar_dr
    have V_b83 := V_b83.other W103 ne_b83_dr
    have V_b91 := V_b91.other W103 ne_b91_dr
    have Zs := Nat.le_trans Zs (Wr.size W103)
    have NF103 := Fr.snoc X103 NF102 ge_dr
    refine g_dup hG X103 hx (hb hby at_147) (pc' := 148) rfl rfl ?_
    refine g_iconst hG X103 hx (hb hby at_148) (pc' := 149) rfl (v := (4 : Int32)) rfl ?_
    refine g_iconst hG X103 hx (hb hby at_149) (pc' := 150) rfl (v := (2 : Int32)) rfl ?_
    refine g_iastore hG X103 hx hZ e103 V_dr (j := (4 : Int32)) (by decide) (show Int32.toNatClampNeg (4 : Int32) < 7 by decide) (hb hby at_150) (pc' := 151) rfl ?_
    intro T104 h104 X104 e104 W104 Vn104
    have V_dr : AV Z h104 dr .int (7 : Int32) [(.int 0), (.int 4), (.int 4), (.int 4), (.int 2), (.int 0), (.int 0)] := Vn104
    have V_ar := V_ar.other W104 ne_ar_dr
    have V_b83 := V_b83.other W104 ne_b83_dr
    have V_b91 := V_b91.other W104 ne_b91_dr
    have Zs := Nat.le_trans Zs (Wr.size W104)
    have NF104 := Fr.snoc X104 NF103 ge_dr
    refine g_dup hG X104 hx (hb hby at_151) (pc' := 152) rfl rfl ?_
    refine g_iconst hG X104 hx (hb hby at_152) (pc' := 153) rfl (v := (5 : Int32)) rfl ?_
    refine g_iconst hG X104 hx (hb hby at_153) (pc' := 154) rfl (v := (4 : Int32)) rfl ?_
    refine g_iastore hG X104 hx hZ e104 V_dr (j := (5 : Int32)) (by decide) (show Int32.toNatClampNeg (5 : Int32) < 7 by decide) (hb hby at_154) (pc' := 155) rfl ?_
    intro T105 h105 X105 e105 W105 Vn105
    have V_dr : AV Z h105 dr .int (7 : Int32) [(.int 0), (.int 4), (.int 4), (.int 4), (.int 2), (.int 4), (.int 0)] := Vn105
    have V_ar := V_ar.other W105 ne_ar_dr
    have V_b83 := V_b83.other W105 ne_b83_dr
    have V_b91 := V_b91.other W105 ne_b91_dr
    have Zs := Nat.le_trans Zs (Wr.size W105)
    have NF105 := Fr.snoc X105 NF104 ge_dr
    refine g_dup hG X105 hx (hb hby at_155) (pc' := 156) rfl rfl ?_
    refine g_bipush hG X105 hx (hb hby at_156) (pc' := 158) rfl (v := (6 : Int32)) rfl ?_
    refine g_iconst hG X105 hx (hb hby at_158) (pc' := 159) rfl (v := (1 : Int32)) rfl ?_
    refine g_iastore hG X105 hx hZ e105 V_dr (j := (6 : Int32)) (by decide) (show Int32.toNatClampNeg (6 : Int32) < 7 by decide) (hb hby at_159) (pc' := 160) rfl ?_
    intro T106 h106 X106 e106 W106 Vn106
    have V_dr : AV Z h106 dr .int (7 : Int32) [(.int 0), (.int 4), (.int 4), (.int 4), (.int 2), (.int 4), (.int 1)] := Vn106
    have V_ar := V_ar.other W106 ne_ar_dr
    have V_b83 := V_b83.other W106 ne_b83_dr
    have V_b91 := V_b91.other W106 ne_b91_dr
    have Zs := Nat.le_trans Zs (Wr.size W106)
    have NF106 := Fr.snoc X106 NF105 ge_dr
    refine g_astore hG X106 hx (hb hby at_160) (pc' := 162) rfl rfl (Ls' := #[.val (.int aa), .val (.int bb), .val (.int cc), .val (.int dd), .val (.int sel), .val (.int 2), .val (.int v18), .val (.ref ar), .val (.ref b83), .val (.ref b91), .val (.ref dr), .unset, .unset, .unset, .unset, .unset, .unset, .unset, .unset, .unset, .unset, .unset, .unset, .unset, .unset, .unset, .unset, .unset]) rfl ?_
    refine g_iloadN hG X106 hx (hb hby at_162) (pc' := 163) rfl rfl ?_
    refine g_ldcInt hG X106 hx hZ hown (wd hw 1 rfl) (hb hby at_163) (pc' := 165) rfl ?_
    obtain ⟨v165, q165⟩ : ∃ zz : Int32, aa &&& (65535 : Int32) = zz := ⟨_, rfl⟩
    refine g_iand hG X106 hx (hb hby at_165) (pc' := 166) rfl q165 ?_
    obtain ⟨v166, q166⟩ : ∃ zz : Int64, v165.toInt64 = zz := ⟨_, rfl⟩
    refine g_i2l hG X106 hx (hb hby at_166) (pc' := 167) rfl q166 ?_
    have b166 : 0 ≤ v166.toInt ∧ v166.toInt ≤ 65535 := by
      have a := c_and aa 65535 (by decide)
      rw [q165] at a
      have c : (65535 : Int32).toInt = 65535 := by decide
      have d : v166.toInt = v165.toInt := by rw [← q166]; exact c_i2l v165
      omega
    refine g_lstore hG X106 hx (hb hby at_167) (pc' := 169) rfl (Ls' := #[.val (.int aa), .val (.int bb), .val (.int cc), .val (.int dd), .val (.int sel), .val (.int 2), .val (.int v18), .val (.ref ar), .val (.ref b83), .val (.ref b91), .val (.ref dr), .val (.long v166), .second, .unset, .unset, .unset, .unset, .unset, .unset, .unset, .unset, .unset, .unset, .unset, .unset, .unset, .unset, .unset]) rfl ?_
    refine g_iloadN hG X106 hx (hb hby at_169) (pc' := 170) rfl rfl ?_
    refine g_ldcInt hG X106 hx hZ hown (wd hw 1 rfl) (hb hby at_170) (pc' := 172) rfl ?_
    obtain ⟨v172, q172⟩ : ∃ zz : Int32, bb &&& (65535 : Int32) = zz := ⟨_, rfl⟩
    refine g_iand hG X106 hx (hb hby at_172) (pc' := 173) rfl q172 ?_
    obtain ⟨v173, q173⟩ : ∃ zz : Int64, v172.toInt64 = zz := ⟨_, rfl⟩
    refine g_i2l hG X106 hx (hb hby at_173) (pc' := 174) rfl q173 ?_
    have b173 : 0 ≤ v173.toInt ∧ v173.toInt ≤ 65535 := by
      have a := c_and bb 65535 (by decide)
      rw [q172] at a
      have c : (65535 : Int32).toInt = 65535 := by decide
      have d : v173.toInt = v172.toInt := by rw [← q173]; exact c_i2l v172
      omega
    refine g_lstore hG X106 hx (hb hby at_174) (pc' := 176) rfl (Ls' := #[.val (.int aa), .val (.int bb), .val (.int cc), .val (.int dd), .val (.int sel), .val (.int 2), .val (.int v18), .val (.ref ar), .val (.ref b83), .val (.ref b91), .val (.ref dr), .val (.long v166), .second, .val (.long v173), .second, .unset, .unset, .unset, .unset, .unset, .unset, .unset, .unset, .unset, .unset, .unset, .unset, .unset]) rfl ?_
    refine g_iloadN hG X106 hx (hb hby at_176) (pc' := 177) rfl rfl ?_
    refine g_ldcInt hG X106 hx hZ hown (wd hw 1 rfl) (hb hby at_177) (pc' := 179) rfl ?_
    obtain ⟨v179, q179⟩ : ∃ zz : Int32, cc &&& (65535 : Int32) = zz := ⟨_, rfl⟩
    refine g_iand hG X106 hx (hb hby at_179) (pc' := 180) rfl q179 ?_
    obtain ⟨v180, q180⟩ : ∃ zz : Int64, v179.toInt64 = zz := ⟨_, rfl⟩
    refine g_i2l hG X106 hx (hb hby at_180) (pc' := 181) rfl q180 ?_
    have b180 : 0 ≤ v180.toInt ∧ v180.toInt ≤ 65535 := by
      have a := c_and cc 65535 (by decide)
      rw [q179] at a
      have c : (65535 : Int32).toInt = 65535 := by decide
      have d : v180.toInt = v179.toInt := by rw [← q180]; exact c_i2l v179
      omega
    refine g_lstore hG X106 hx (hb hby at_181) (pc' := 183) rfl (Ls' := #[.val (.int aa), .val (.int bb), .val (.int cc), .val (.int dd), .val (.int sel), .val (.int 2), .val (.int v18), .val (.ref ar), .val (.ref b83), .val (.ref b91), .val (.ref dr), .val (.long v166), .second, .val (.long v173), .second, .val (.long v180), .second, .unset, .unset, .unset, .unset, .unset, .unset, .unset, .unset, .unset, .unset, .unset]) rfl ?_
    refine g_iloadN hG X106 hx (hb hby at_183) (pc' := 184) rfl rfl ?_
    refine g_ldcInt hG X106 hx hZ hown (wd hw 1 rfl) (hb hby at_184) (pc' := 186) rfl ?_
    obtain ⟨v186, q186⟩ : ∃ zz : Int32, dd &&& (65535 : Int32) = zz := ⟨_, rfl⟩
    refine g_iand hG X106 hx (hb hby at_186) (pc' := 187) rfl q186 ?_
    obtain ⟨v187, q187⟩ : ∃ zz : Int64, v186.toInt64 = zz := ⟨_, rfl⟩
    refine g_i2l hG X106 hx (hb hby at_187) (pc' := 188) rfl q187 ?_
    have b187 : 0 ≤ v187.toInt ∧ v187.toInt ≤ 65535 := by
      have a := c_and dd 65535 (by decide)
      rw [q186] at a
      have c : (65535 : Int32).toInt = 65535 := by decide
      have d : v187.toInt = v186.toInt := by rw [← q187]; exact c_i2l v186
      omega
    refine g_lstore hG X106 hx (hb hby at_188) (pc' := 190) rfl (Ls' := #[.val (.int aa), .val (.int bb), .val (.int cc), .val (.int dd), .val (.int sel), .val (.int 2), .val (.int v18), .val (.ref ar), .val (.ref b83), .val (.ref b91), .val (.ref dr), .val (.long v166), .second, .val (.long v173), .second, .val (.long v180), .second, .val (.long v187), .second, .unset, .unset, .unset, .unset, .unset, .unset, .unset, .unset, .unset]) rfl ?_
    refine g_newO hG X106 hx hZ hown (wd hw 2 rfl) (wd hw 3 rfl) (wd hw 4 rfl) e106 (hb hby at_190) (by decide) (by decide) (pc' := 193) rfl ?_
    intro T107 h107 b gs107 X107 e107 E107 Aq107 Dq107
    have ne_ar_b : ar ≠ b := Nat.ne_of_lt (gs107 ▸ V_ar.lt)
    have ne_b83_b : b83 ≠ b := Nat.ne_of_lt (gs107 ▸ V_b83.lt)
    have ne_b91_b : b91 ≠ b := Nat.ne_of_lt (gs107 ▸ V_b91.lt)
    have ne_dr_b : dr ≠ b := Nat.ne_of_lt (gs107 ▸ V_dr.lt)
    have ge_b : n0 ≤ b := gs107 ▸ Zs
    have Zs := Nat.le_trans Zs E107.1
    have V_ar := V_ar.ext E107
    have V_b83 := V_b83.ext E107
    have V_b91 := V_b91.ext E107
    have V_dr := V_dr.ext E107
    have Ex_b := Aq107
    have F_timeWeight_b : Fld Z h107 b "com/example/ganttwright/ganttwright/Objective" "timeWeight" "D" (.double 0) := Dq107 (Or.inr (wd hw 29 rfl)) (ty := .double) (by decide)
    have F_costWeight_b : Fld Z h107 b "com/example/ganttwright/ganttwright/Objective" "costWeight" "D" (.double 0) := Dq107 (Or.inr (wd hw 31 rfl)) (ty := .double) (by decide)
    refine g_dup hG X107 hx (hb hby at_193) (pc' := 194) rfl rfl ?_
    refine g_aload hG X107 hx (hb hby at_194) (pc' := 196) rfl rfl rfl ?_
    refine g_iload hG X107 hx (hb hby at_196) (pc' := 198) rfl rfl ?_
    refine g_iaload hG X107 hx hZ e107 V_ar (j := (2 : Int32)) (v := (.int 3)) (by decide) rfl (hb hby at_198) (pc' := 199) rfl ?_
    obtain ⟨v199, q199⟩ : ∃ zz : UInt64, FP.i2d (3 : Int32) = zz := ⟨_, rfl⟩
    refine g_i2d hG X107 hx (hb hby at_199) (pc' := 200) rfl q199 ?_
    refine g_aload hG X107 hx (hb hby at_200) (pc' := 202) rfl rfl rfl ?_
    refine g_iload hG X107 hx (hb hby at_202) (pc' := 204) rfl rfl ?_
    refine g_iaload hG X107 hx hZ e107 V_b83 (j := (2 : Int32)) (v := (.int 3)) (by decide) rfl (hb hby at_204) (pc' := 205) rfl ?_
    obtain ⟨v205, q205⟩ : ∃ zz : UInt64, FP.i2d (3 : Int32) = zz := ⟨_, rfl⟩
    refine g_i2d hG X107 hx (hb hby at_205) (pc' := 206) rfl q205 ?_
    obtain ⟨lg, hlg⟩ : ∃ z, Jvm.Native.java_lang_Math.nans.pick64 true v199 v205 = z := ⟨_, rfl⟩
    obtain ⟨t1, ht1⟩ : ∃ z, FP.ddiv v199 lg = z := ⟨_, rfl⟩
    obtain ⟨c1, hc1⟩ : ∃ z, FP.ddiv v205 lg = z := ⟨_, rfl⟩
    obtain ⟨f1, f2, g1, g2, g3, D1, D2⟩ := own_weights (x := 3) (y := 3) (g := 3) (p := 128) (q := 128) (by rw [← q199]; exact OwnFl.i2d_DV (3 : Int32) : OwnFl.DV v199 ((3 : Int) : Rat)) (by rw [← q205]; exact OwnFl.i2d_DV (3 : Int32) : OwnFl.DV v205 ((3 : Int) : Rat)) (by decide) (by decide) (Or.inl ⟨by decide, rfl⟩) (by decide) (by decide) (by decide) (by decide) (by decide) (by decide) (by decide) hlg ht1 hc1
    refine g_callI hG X107 hx hZ (y := (⟨"com/example/ganttwright/ganttwright/Objective", "<init>", "(DD)V"⟩ : MethodName)) 1 rfl hown (wd hw 5 rfl) (wd hw 6 rfl) (wd hw 4 rfl) (wd hw 7 rfl) (by decide) (rmObj l Z a0 hw [] b v199 v205 lg t1 c1 h107 n0 Zs ge_b f1 f2 g1 g2 g3 hlg ht1 hc1 D1.noNaN D2.noNaN Ex_b F_timeWeight_b F_costWeight_b) (by decide) (by decide) (by rw [hml]; rfl) pd_4 rfl (argsL := [(.double v199), (.double v205)]) (rest := [(.ref b)]) rfl rfl (Nat.le_of_eq rfl) (hb hby at_206) e107 (by decide) (by decide) (pc' := 209) rfl ?_
    intro T108 rv108 L108 X108 hQ108
    obtain ⟨rfl, Nq108, Kq108, Ex_b, F_timeWeight_b, F_costWeight_b⟩ := hQ108
    have NF108 := Fr.app NF106 Nq108
    have V_ar := V_ar.keep Kq108 (ninS ne_ar_b nin0)
    have V_b83 := V_b83.keep Kq108 (ninS ne_b83_b nin0)
    have V_b91 := V_b91.keep Kq108 (ninS ne_b91_b nin0)
    have V_dr := V_dr.keep Kq108 (ninS ne_dr_b nin0)
    have Zs := Nat.le_trans Zs Kq108.1
    show G (T108.setTop (mkF m 209 _ [(.ref b)]))
    refine g_astore hG X108 hx (hb hby at_209) (pc' := 211) rfl rfl (Ls' := #[.val (.int aa), .val (.int bb), .val (.int cc), .val (.int dd), .val (.int sel), .val (.int 2), .val (.int v18), .val (.ref ar), .val (.ref b83), .val (.ref b91), .val (.ref dr), .val (.long v166), .second, .val (.long v173), .second, .val (.long v180), .second, .val (.long v187), .second, .val (.ref b), .unset, .unset, .unset, .unset, .unset, .unset, .unset, .unset]) rfl ?_
    refine g_iload hG X108 hx (hb hby at_211) (pc' := 213) rfl rfl ?_
    obtain ⟨v213, q213⟩ : ∃ zz : UInt64, FP.i2d v18 = zz := ⟨_, rfl⟩
    refine g_i2d hG X108 hx (hb hby at_213) (pc' := 214) rfl q213 ?_
    refine g_ldcDouble hG X108 hx hZ hown (wd hw 32 rfl) (hb hby at_214) (pc' := 217) rfl ?_
    obtain ⟨v217, q217⟩ : ∃ zz : UInt64, FP.dmul v213 (4598175219545276416 : UInt64) = zz := ⟨_, rfl⟩
    have D217 : OwnFl.DV v217 (((v18.toInt : Int) : Rat) / 4) := by
      have b1 : (0 : Rat) ≤ (v18.toInt : Rat) := Rat.intCast_nonneg.mpr b18.1
      have b2 : (v18.toInt : Rat) ≤ 7 := by have := Rat.intCast_le_intCast.mpr b18.2; simpa using this
      have e : (v18.toInt : Rat) / 4 = (v18.toInt : Rat) * (1 / 4) := by rw [Rat.div_def, Rat.div_def, Rat.one_mul]
      have z := OwnFl.dmul_DV (OwnFl.i2d_DV v18) own_q (by grind) (by grind)
      rw [q213, q217, OwnFl.RR_exact ⟨v18.toInt, -2, by congr 1; decide +kernel, by omega, by decide⟩ (by grind) (by grind)] at z
      rw [e]; exact z
    refine g_dmul hG X108 hx (hb hby at_217) (pc' := 218) rfl (by rw [q217]; exact D217.noNaN) q217 ?_
    refine g_dstore hG X108 hx (hb hby at_218) (pc' := 220) rfl (Ls' := #[.val (.int aa), .val (.int bb), .val (.int cc), .val (.int dd), .val (.int sel), .val (.int 2), .val (.int v18), .val (.ref ar), .val (.ref b83), .val (.ref b91), .val (.ref dr), .val (.long v166), .second, .val (.long v173), .second, .val (.long v180), .second, .val (.long v187), .second, .val (.ref b), .val (.double v217), .second, .unset, .unset, .unset, .unset, .unset, .unset]) rfl ?_
    refine g_aload hG X108 hx (hb hby at_220) (pc' := 222) rfl rfl rfl ?_
    refine g_lload hG X108 hx (hb hby at_222) (pc' := 224) rfl rfl ?_
    obtain ⟨v224, q224⟩ : ∃ zz : UInt64, FP.l2d v166 = zz := ⟨_, rfl⟩
    refine g_l2d hG X108 hx (hb hby at_224) (pc' := 225) rfl q224 ?_
    refine g_lload hG X108 hx (hb hby at_225) (pc' := 227) rfl rfl ?_
    obtain ⟨v227, q227⟩ : ∃ zz : UInt64, FP.l2d v173 = zz := ⟨_, rfl⟩
    refine g_l2d hG X108 hx (hb hby at_227) (pc' := 228) rfl q227 ?_
    refine g_lload hG X108 hx (hb hby at_228) (pc' := 230) rfl rfl ?_
    obtain ⟨v230, q230⟩ : ∃ zz : UInt64, FP.l2d v180 = zz := ⟨_, rfl⟩
    refine g_l2d hG X108 hx (hb hby at_230) (pc' := 231) rfl q230 ?_
    refine g_lload hG X108 hx (hb hby at_231) (pc' := 233) rfl rfl ?_
    obtain ⟨v233, q233⟩ : ∃ zz : UInt64, FP.l2d v187 = zz := ⟨_, rfl⟩
    refine g_l2d hG X108 hx (hb hby at_233) (pc' := 234) rfl q233 ?_
    refine g_dload hG X108 hx (hb hby at_234) (pc' := 236) rfl rfl ?_
    obtain ⟨p1, hp1⟩ : ∃ z, FP.dmul t1 v224 = z := ⟨_, rfl⟩
    obtain ⟨p2, hp2⟩ : ∃ z, FP.dmul c1 v227 = z := ⟨_, rfl⟩
    obtain ⟨sc, hsc⟩ : ∃ z, FP.dadd p1 p2 = z := ⟨_, rfl⟩
    obtain ⟨p3, hp3⟩ : ∃ z, FP.dmul t1 v230 = z := ⟨_, rfl⟩
    obtain ⟨p4, hp4⟩ : ∃ z, FP.dmul c1 v233 = z := ⟨_, rfl⟩
    obtain ⟨sc2, hsc2⟩ : ∃ z, FP.dadd p3 p4 = z := ⟨_, rfl⟩
    obtain ⟨sm, hsm⟩ : ∃ z, FP.dmul v217 sc2 = z := ⟨_, rfl⟩
    obtain ⟨sk, hsk⟩ : ∃ z, FP.dmul v217 v230 = z := ⟨_, rfl⟩
    obtain ⟨lo, hlo⟩ : ∃ z, FP.dsub sc2 sm = z := ⟨_, rfl⟩
    obtain ⟨hi, hhi⟩ : ∃ z, FP.dadd sc2 sm = z := ⟨_, rfl⟩
    obtain ⟨lo2, hlo2⟩ : ∃ z, FP.dsub v230 sk = z := ⟨_, rfl⟩
    obtain ⟨hi2, hhi2⟩ : ∃ z, FP.dadd v230 sk = z := ⟨_, rfl⟩
    have D_v224 : OwnFl.DV v224 ((v166.toInt : Int) : Rat) := by rw [← q224]; exact OwnFl.l2d_DV (by omega)
    have D_v227 : OwnFl.DV v227 ((v173.toInt : Int) : Rat) := by rw [← q227]; exact OwnFl.l2d_DV (by omega)
    have D_v230 : OwnFl.DV v230 ((v180.toInt : Int) : Rat) := by rw [← q230]; exact OwnFl.l2d_DV (by omega)
    have D_v233 : OwnFl.DV v233 ((v187.toInt : Int) : Rat) := by rw [← q233]; exact OwnFl.l2d_DV (by omega)
    obtain ⟨S1_sc, S2_sc, S3_sc⟩ := own_score (p := 128) (q := 128) (by decide) (by decide) (by decide) (by decide) D1 D2 D_v224 D_v227 (by omega) (by omega) (by omega) (by omega)
    rw [hp1, hp2, hsc] at S3_sc
    rw [hp1] at S1_sc
    rw [hp2] at S2_sc
    obtain ⟨S1_sc2, S2_sc2, S3_sc2⟩ := own_score (p := 128) (q := 128) (by decide) (by decide) (by decide) (by decide) D1 D2 D_v230 D_v233 (by omega) (by omega) (by omega) (by omega)
    rw [hp3, hp4, hsc2] at S3_sc2
    rw [hp3] at S1_sc2
    rw [hp4] at S2_sc2
    have E_sc : OwnFl.DV sc (((4 * (4 * v166.toInt + 4 * v173.toInt) : Int) : Rat) / 16) := own_cast (m := 128) (n := 16) (by decide) (by decide) S3_sc (by omega)
    have E_sc2 : OwnFl.DV sc2 (((4 * (4 * v180.toInt + 4 * v187.toInt) : Int) : Rat) / 16) := own_cast (m := 128) (n := 16) (by decide) (by decide) S3_sc2 (by omega)
    have Q_sc2 : OwnFl.DV sc2 ((((4 * v180.toInt + 4 * v187.toInt) : Int) : Rat) / 4) := own_cast (m := 128) (n := 4) (by decide) (by decide) S3_sc2 (by omega)
    have bS2 : 0 ≤ (4 * v180.toInt + 4 * v187.toInt) ∧ (4 * v180.toInt + 4 * v187.toInt) ≤ 524280 := by omega
    obtain ⟨P, hP⟩ : ∃ z : Int, v18.toInt * (4 * v180.toInt + 4 * v187.toInt) = z := ⟨_, rfl⟩
    obtain ⟨R, hR⟩ : ∃ z : Int, v18.toInt * v180.toInt = z := ⟨_, rfl⟩
    have bP : 0 ≤ P ∧ P ≤ 3669960 := by
      have := mc (a := v18.toInt) (b := (4 * v180.toInt + 4 * v187.toInt)) (l1 := 0) (h1 := 7) (l2 := 0) (h2 := 524280) b18.1 b18.2 bS2.1 bS2.2
      rw [hP] at this
      omega
    have bR : 0 ≤ R ∧ R ≤ 458745 := by
      have := mc (a := v18.toInt) (b := v180.toInt) (l1 := 0) (h1 := 7) (l2 := 0) (h2 := 65535) b18.1 b18.2 b180.1 b180.2
      rw [hR] at this
      omega
    have D_sm := own_mul D217 Q_sc2 (by rw [hP]; omega) (by rw [hP]; omega)
    rw [hsm, hP] at D_sm
    have D_sk := own_mul D217 (own_one D_v230).2 (by rw [show v18.toInt * (4 * v180.toInt) = 4 * (v18.toInt * v180.toInt) from Int.mul_left_comm _ _ _, hR]; omega) (by rw [show v18.toInt * (4 * v180.toInt) = 4 * (v18.toInt * v180.toInt) from Int.mul_left_comm _ _ _, hR]; omega)
    rw [hsk, show v18.toInt * (4 * v180.toInt) = 4 * (v18.toInt * v180.toInt) from Int.mul_left_comm _ _ _, hR] at D_sk
    have D_lo := own_sub E_sc2 D_sm (by omega) (by omega)
    rw [hlo] at D_lo
    have D_hi := own_add E_sc2 D_sm (by omega) (by omega)
    rw [hhi] at D_hi
    have D_lo2 := own_sub (own_one D_v230).1 D_sk (by omega) (by omega)
    rw [hlo2, show 16 * v180.toInt - 4 * R = 4 * (4 * v180.toInt - R) by omega] at D_lo2
    have D_hi2 := own_add (own_one D_v230).1 D_sk (by omega) (by omega)
    rw [hhi2, show 16 * v180.toInt + 4 * R = 4 * (4 * v180.toInt + R) by omega] at D_hi2
    obtain ⟨rs, hrs⟩ : ∃ z : Int32, z = (if 4 * (4 * v166.toInt + 4 * v173.toInt) < 4 * (4 * v180.toInt + 4 * v187.toInt) - P ∨ 4 * (4 * v180.toInt + 4 * v187.toInt) + P < 4 * (4 * v166.toInt + 4 * v173.toInt) then (if (4 * v166.toInt + 4 * v173.toInt) < (4 * v180.toInt + 4 * v187.toInt) then (1 : Int32) else 0) else if 4 * v166.toInt < 4 * v180.toInt - R ∨ 4 * v180.toInt + R < 4 * v166.toInt then (if v166.toInt < v180.toInt then (1 : Int32) else 0) else if v173.toInt < v187.toInt then (1 : Int32) else 0) := ⟨_, rfl⟩
    refine g_callV hG X108 hx hZ (y := (⟨"com/example/ganttwright/ganttwright/Objective", "better", "(DDDDD)Z"⟩ : MethodName)) 0 hown (wd hw 33 rfl) (wd hw 34 rfl) (wd hw 36 rfl) (wd hw 35 rfl) (wd hw 4 rfl) (wd hw 37 rfl) (by decide) (rmBet l Z a0 hw [] b t1 c1 v224 v227 v230 v233 v217 p1 p2 sc p3 p4 sc2 sm sk lo hi lo2 hi2 (4 * v166.toInt + 4 * v173.toInt) (4 * v180.toInt + 4 * v187.toInt) P v166.toInt v180.toInt R v173.toInt v187.toInt rs T108.heap n0 Zs hp1 hp2 hsc hp3 hp4 hsc2 hsm hsk hlo hhi hlo2 hhi2 S1_sc.noNaN S2_sc.noNaN S1_sc2.noNaN S2_sc2.noNaN D_sm.noNaN D_sk.noNaN E_sc E_sc2 D_lo D_hi (own_one D_v224).1 (own_one D_v230).1 D_lo2 D_hi2 (own_one D_v227).1 (own_one D_v233).1 hrs Ex_b F_timeWeight_b F_costWeight_b) (by decide) (by decide) (by rw [hml]; rfl) pd_5 rfl (argsL := [(.double v224), (.double v227), (.double v230), (.double v233), (.double v217)]) (rest := []) rfl rfl (Nat.le_of_eq rfl) (hb hby at_236) rfl Ex_b (by decide) (by decide) (pc' := 239) rfl ?_
    intro T109 rv109 L109 X109 hQ109
    obtain ⟨rfl, Nq109, eh109⟩ := hQ109
    have NF109 := Fr.app NF108 Nq109
    show G (T109.setTop (mkF m 239 _ [(.int rs)]))
    refine g_istore hG X109 hx (hb hby at_239) (pc' := 241) rfl (Ls' := #[.val (.int aa), .val (.int bb), .val (.int cc), .val (.int dd), .val (.int sel), .val (.int 2), .val (.int v18), .val (.ref ar), .val (.ref b83), .val (.ref b91), .val (.ref dr), .val (.long v166), .second, .val (.long v173), .second, .val (.long v180), .second, .val (.long v187), .second, .val (.ref b), .val (.double v217), .second, .val (.int rs), .unset, .unset, .unset, .unset, .unset]) rfl ?_
    refine g_aload hG X109 hx (hb hby at_241) (pc' := 243) rfl rfl rfl ?_
    refine g_iload hG X109 hx (hb hby at_243) (pc' := 245) rfl rfl ?_
    refine g_iaload hG X109 hx hZ eh109 V_b91 (j := (2 : Int32)) (v := (.int 4)) (by decide) rfl (hb hby at_245) (pc' := 246) rfl ?_
    refine g_i2l hG X109 hx (hb hby at_246) (pc' := 247) rfl (v := (4 : Int64)) (by decide) ?_
    refine g_lload hG X109 hx (hb hby at_247) (pc' := 249) rfl rfl ?_
    obtain ⟨v249, q249⟩ : ∃ zz : Int64, (4 : Int64) * v166 = zz := ⟨_, rfl⟩
    refine g_lmul hG X109 hx (hb hby at_249) (pc' := 250) rfl q249 ?_
    refine g_aload hG X109 hx (hb hby at_250) (pc' := 252) rfl rfl rfl ?_
    refine g_iload hG X109 hx (hb hby at_252) (pc' := 254) rfl rfl ?_
    refine g_iaload hG X109 hx hZ eh109 V_dr (j := (2 : Int32)) (v := (.int 4)) (by decide) rfl (hb hby at_254) (pc' := 255) rfl ?_
    refine g_i2l hG X109 hx (hb hby at_255) (pc' := 256) rfl (v := (4 : Int64)) (by decide) ?_
    refine g_lload hG X109 hx (hb hby at_256) (pc' := 258) rfl rfl ?_
    obtain ⟨v258, q258⟩ : ∃ zz : Int64, (4 : Int64) * v173 = zz := ⟨_, rfl⟩
    refine g_lmul hG X109 hx (hb hby at_258) (pc' := 259) rfl q258 ?_
    obtain ⟨v259, q259⟩ : ∃ zz : Int64, v249 + v258 = zz := ⟨_, rfl⟩
    refine g_ladd hG X109 hx (hb hby at_259) (pc' := 260) rfl q259 ?_
    have e259 : v259.toInt = 4 * v166.toInt + 4 * v173.toInt := by
      have a1 := c_lmul (4 : Int64) v166
      have a2 := c_lmul (4 : Int64) v173
      have c1 : (4 : Int64).toInt = 4 := by decide
      have c2 : (4 : Int64).toInt = 4 := by decide
      rw [q249, c1] at a1
      rw [q258, c2] at a2
      have a3 := c_ladd v249 v258
      rw [q259] at a3
      have a4 := rng64 v249
      have a5 := rng64 v258
      have a6 := rng64 v259
      omega
    refine g_lstore hG X109 hx (hb hby at_260) (pc' := 262) rfl (Ls' := #[.val (.int aa), .val (.int bb), .val (.int cc), .val (.int dd), .val (.int sel), .val (.int 2), .val (.int v18), .val (.ref ar), .val (.ref b83), .val (.ref b91), .val (.ref dr), .val (.long v166), .second, .val (.long v173), .second, .val (.long v180), .second, .val (.long v187), .second, .val (.ref b), .val (.double v217), .second, .val (.int rs), .val (.long v259), .second, .unset, .unset, .unset]) rfl ?_
    refine g_aload hG X109 hx (hb hby at_262) (pc' := 264) rfl rfl rfl ?_
    refine g_iload hG X109 hx (hb hby at_264) (pc' := 266) rfl rfl ?_
    refine g_iaload hG X109 hx hZ eh109 V_b91 (j := (2 : Int32)) (v := (.int 4)) (by decide) rfl (hb hby at_266) (pc' := 267) rfl ?_
    refine g_i2l hG X109 hx (hb hby at_267) (pc' := 268) rfl (v := (4 : Int64)) (by decide) ?_
    refine g_lload hG X109 hx (hb hby at_268) (pc' := 270) rfl rfl ?_
    obtain ⟨v270, q270⟩ : ∃ zz : Int64, (4 : Int64) * v180 = zz := ⟨_, rfl⟩
    refine g_lmul hG X109 hx (hb hby at_270) (pc' := 271) rfl q270 ?_
    refine g_aload hG X109 hx (hb hby at_271) (pc' := 273) rfl rfl rfl ?_
    refine g_iload hG X109 hx (hb hby at_273) (pc' := 275) rfl rfl ?_
    refine g_iaload hG X109 hx hZ eh109 V_dr (j := (2 : Int32)) (v := (.int 4)) (by decide) rfl (hb hby at_275) (pc' := 276) rfl ?_
    refine g_i2l hG X109 hx (hb hby at_276) (pc' := 277) rfl (v := (4 : Int64)) (by decide) ?_
    refine g_lload hG X109 hx (hb hby at_277) (pc' := 279) rfl rfl ?_
    obtain ⟨v279, q279⟩ : ∃ zz : Int64, (4 : Int64) * v187 = zz := ⟨_, rfl⟩
    refine g_lmul hG X109 hx (hb hby at_279) (pc' := 280) rfl q279 ?_
    obtain ⟨v280, q280⟩ : ∃ zz : Int64, v270 + v279 = zz := ⟨_, rfl⟩
    refine g_ladd hG X109 hx (hb hby at_280) (pc' := 281) rfl q280 ?_
    have e280 : v280.toInt = 4 * v180.toInt + 4 * v187.toInt := by
      have a1 := c_lmul (4 : Int64) v180
      have a2 := c_lmul (4 : Int64) v187
      have c1 : (4 : Int64).toInt = 4 := by decide
      have c2 : (4 : Int64).toInt = 4 := by decide
      rw [q270, c1] at a1
      rw [q279, c2] at a2
      have a3 := c_ladd v270 v279
      rw [q280] at a3
      have a4 := rng64 v270
      have a5 := rng64 v279
      have a6 := rng64 v280
      omega
    refine g_lstore hG X109 hx (hb hby at_281) (pc' := 283) rfl (Ls' := #[.val (.int aa), .val (.int bb), .val (.int cc), .val (.int dd), .val (.int sel), .val (.int 2), .val (.int v18), .val (.ref ar), .val (.ref b83), .val (.ref b91), .val (.ref dr), .val (.long v166), .second, .val (.long v173), .second, .val (.long v180), .second, .val (.long v187), .second, .val (.ref b), .val (.double v217), .second, .val (.int rs), .val (.long v259), .second, .val (.long v280), .second, .unset]) rfl ?_
    refine g_ldcLong hG X109 hx hZ hown (wd hw 43 rfl) (hb hby at_283) (pc' := 286) rfl ?_
    refine g_lload hG X109 hx (hb hby at_286) (pc' := 288) rfl rfl ?_
    refine g_lload hG X109 hx (hb hby at_288) (pc' := 290) rfl rfl ?_
    obtain ⟨v290, q290⟩ : ∃ zz : Int64, v259 - v280 = zz := ⟨_, rfl⟩
    refine g_lsub hG X109 hx (hb hby at_290) (pc' := 291) rfl q290 ?_
    obtain ⟨ab291, hab291⟩ : ∃ z : Int64, (if v290 < 0 then -v290 else v290) = z := ⟨_, rfl⟩
    have e_ab291 : (ab291.toInt = v259.toInt - v280.toInt ∧ v280.toInt ≤ v259.toInt) ∨ (ab291.toInt = v280.toInt - v259.toInt ∧ v259.toInt ≤ v280.toInt) := by
      have a := c_lsub v259 v280
      rw [q290] at a
      have b := rng64 v290
      have c := c_lneg v290
      have d := rng64 (-v290)
      have z : (0 : Int64).toInt = 0 := by decide
      by_cases g : v290 < 0
      · rw [← hab291, if_pos g]
        rw [Int64.lt_iff_toInt_lt, z] at g
        omega
      · rw [← hab291, if_neg g]
        rw [Int64.lt_iff_toInt_lt, z] at g
        omega
    refine g_callS hG X109 hx hZ (y := (⟨"java/lang/Math", "abs", "(J)J"⟩ : MethodName)) 2 hown (wd hw 44 rfl) (wd hw 45 rfl) (wd hw 22 rfl) (wd hw 46 rfl) (by decide) (rmAbs l Z a0 hw [] v290 T108.heap n0 Zs) (by decide) (by decide) (by rw [hml]; rfl) pd_6 rfl (argsL := [(.long v290)]) (rest := [(.long 4)]) rfl rfl (Nat.le_of_eq rfl) (hb hby at_291) eh109 (by decide) (by decide) (pc' := 294) rfl ?_
    intro T110 rv110 L110 X110 hQ110
    obtain ⟨rfl, Nq110, eh110⟩ := hQ110
    have NF110 := Fr.app NF109 Nq110
    rw [hab291]
    show G (T110.setTop (mkF m 294 _ [(.long ab291), (.long 4)]))
    obtain ⟨v294, q294⟩ : ∃ zz : Int64, (4 : Int64) * ab291 = zz := ⟨_, rfl⟩
    refine g_lmul hG X110 hx (hb hby at_294) (pc' := 295) rfl q294 ?_
    refine g_iload hG X110 hx (hb hby at_295) (pc' := 297) rfl rfl ?_
    obtain ⟨v297, q297⟩ : ∃ zz : Int64, v18.toInt64 = zz := ⟨_, rfl⟩
    refine g_i2l hG X110 hx (hb hby at_297) (pc' := 298) rfl q297 ?_
    refine g_lload hG X110 hx (hb hby at_298) (pc' := 300) rfl rfl ?_
    obtain ⟨v300, q300⟩ : ∃ zz : Int64, v297 * v280 = zz := ⟨_, rfl⟩
    refine g_lmul hG X110 hx (hb hby at_300) (pc' := 301) rfl q300 ?_
    have k294 : v294.toInt = 4 * ab291.toInt := by
      have a := c_lmul (4 : Int64) ab291
      have c : (4 : Int64).toInt = 4 := by decide
      rw [q294, c] at a
      have b := rng64 v294
      omega
    have k300 : v300.toInt = P := by
      have a := c_lmul v297 v280
      have c : v297.toInt = v18.toInt := by rw [← q297]; exact c_i2l v18
      rw [q300, c, e280, hP] at a
      have b := rng64 v300
      omega
    obtain ⟨v301, q301⟩ : ∃ zz : Int32, lcmpW v294 v300 = zz := ⟨_, rfl⟩
    refine g_lcmp hG X110 hx (hb hby at_301) (pc' := 302) rfl q301 ?_
    by_cases hc302 : (0 : Int32) < v301
    · refine g_ifNo hG X110 hx (hb hby at_302) (pc' := 305) ((if0 _ _).trans (tlt hc302).2.2.2) rfl ?_
      refine g_lload hG X110 hx (hb hby at_305) (pc' := 307) rfl rfl ?_
      refine g_lload hG X110 hx (hb hby at_307) (pc' := 309) rfl rfl ?_
      obtain ⟨v309, q309⟩ : ∃ zz : Int32, lcmpW v259 v280 = zz := ⟨_, rfl⟩
      refine g_lcmp hG X110 hx (hb hby at_309) (pc' := 310) rfl q309 ?_
      by_cases hc310 : v309 < (0 : Int32)
      · refine g_ifNo hG X110 hx (hb hby at_310) (pc' := 313) ((if0 _ _).trans (tlt hc310).2.1) rfl ?_
        refine g_iconst hG X110 hx (hb hby at_313) (pc' := 314) rfl (v := (1 : Int32)) rfl ?_
        refine g_goto hG X110 hx (hb hby at_314) (pc' := 318) (by decide) (by decide) ?_
        refine g_istore hG X110 hx (hb hby at_318) (pc' := 320) rfl (Ls' := #[.val (.int aa), .val (.int bb), .val (.int cc), .val (.int dd), .val (.int sel), .val (.int 2), .val (.int v18), .val (.ref ar), .val (.ref b83), .val (.ref b91), .val (.ref dr), .val (.long v166), .second, .val (.long v173), .second, .val (.long v180), .second, .val (.long v187), .second, .val (.ref b), .val (.double v217), .second, .val (.int rs), .val (.long v259), .second, .val (.long v280), .second, .val (.int 1)]) rfl ?_
        refine g_goto hG X110 hx (hb hby at_320) (pc' := 378) (by decide) (by decide) ?_
        refine g_iload hG X110 hx (hb hby at_378) (pc' := 380) rfl rfl ?_
        refine g_iload hG X110 hx (hb hby at_380) (pc' := 382) rfl rfl ?_
        have g302 : v300.toInt < v294.toInt := Int64.lt_iff_toInt_lt.mp ((lw_gt _ _).mp (by rw [q301]; exact hc302))
        have g310 : v259.toInt < v280.toInt := Int64.lt_iff_toInt_lt.mp ((lw_lt _ _).mp (by rw [q309]; exact hc310))
        have ers : rs = (1 : Int32) := by rw [hrs, if_pos (by omega), if_pos (by omega)]
        refine g_icmpNo hG X110 hx (hb hby at_382) (pc' := 385) ((teq ers).2) rfl ?_
        refine g_iconst hG X110 hx (hb hby at_385) (pc' := 386) rfl (v := (1 : Int32)) rfl ?_
        refine g_goto hG X110 hx (hb hby at_386) (pc' := 390) (by decide) (by decide) ?_
        exact e_retZ hGe X110 hx hrt hlk (hb hby at_390) (Or.inr rfl) eh110 (by decide) (by decide) (⟨rfl, NF110⟩)
      · refine g_ifYes hG X110 hx (hb hby at_310) (pc' := 317) ((if0 _ _).trans (flt hc310).2.1) (by decide) (by decide) ?_
        refine g_iconst hG X110 hx (hb hby at_317) (pc' := 318) rfl (v := (0 : Int32)) rfl ?_
        refine g_istore hG X110 hx (hb hby at_318) (pc' := 320) rfl (Ls' := #[.val (.int aa), .val (.int bb), .val (.int cc), .val (.int dd), .val (.int sel), .val (.int 2), .val (.int v18), .val (.ref ar), .val (.ref b83), .val (.ref b91), .val (.ref dr), .val (.long v166), .second, .val (.long v173), .second, .val (.long v180), .second, .val (.long v187), .second, .val (.ref b), .val (.double v217), .second, .val (.int rs), .val (.long v259), .second, .val (.long v280), .second, .val (.int 0)]) rfl ?_
        refine g_goto hG X110 hx (hb hby at_320) (pc' := 378) (by decide) (by decide) ?_
        refine g_iload hG X110 hx (hb hby at_378) (pc' := 380) rfl rfl ?_
        refine g_iload hG X110 hx (hb hby at_380) (pc' := 382) rfl rfl ?_
        have g302 : v300.toInt < v294.toInt := Int64.lt_iff_toInt_lt.mp ((lw_gt _ _).mp (by rw [q301]; exact hc302))
        have g310 : ¬ v259.toInt < v280.toInt := fun g => hc310 (by rw [← q309]; exact (lw_lt _ _).mpr (Int64.lt_iff_toInt_lt.mpr g))
        have ers : rs = (0 : Int32) := by rw [hrs, if_pos (by omega), if_neg (by omega)]
        refine g_icmpNo hG X110 hx (hb hby at_382) (pc' := 385) ((teq ers).2) rfl ?_
        refine g_iconst hG X110 hx (hb hby at_385) (pc' := 386) rfl (v := (1 : Int32)) rfl ?_
        refine g_goto hG X110 hx (hb hby at_386) (pc' := 390) (by decide) (by decide) ?_
        exact e_retZ hGe X110 hx hrt hlk (hb hby at_390) (Or.inr rfl) eh110 (by decide) (by decide) (⟨rfl, NF110⟩)
    · refine g_ifYes hG X110 hx (hb hby at_302) (pc' := 323) ((if0 _ _).trans (flt hc302).2.2.2) (by decide) (by decide) ?_
      refine g_ldcLong hG X110 hx hZ hown (wd hw 43 rfl) (hb hby at_323) (pc' := 326) rfl ?_
      refine g_lload hG X110 hx (hb hby at_326) (pc' := 328) rfl rfl ?_
      refine g_lload hG X110 hx (hb hby at_328) (pc' := 330) rfl rfl ?_
      obtain ⟨v330, q330⟩ : ∃ zz : Int64, v166 - v180 = zz := ⟨_, rfl⟩
      refine g_lsub hG X110 hx (hb hby at_330) (pc' := 331) rfl q330 ?_
      obtain ⟨ab331, hab331⟩ : ∃ z : Int64, (if v330 < 0 then -v330 else v330) = z := ⟨_, rfl⟩
      have e_ab331 : (ab331.toInt = v166.toInt - v180.toInt ∧ v180.toInt ≤ v166.toInt) ∨ (ab331.toInt = v180.toInt - v166.toInt ∧ v166.toInt ≤ v180.toInt) := by
        have a := c_lsub v166 v180
        rw [q330] at a
        have b := rng64 v330
        have c := c_lneg v330
        have d := rng64 (-v330)
        have z : (0 : Int64).toInt = 0 := by decide
        by_cases g : v330 < 0
        · rw [← hab331, if_pos g]
          rw [Int64.lt_iff_toInt_lt, z] at g
          omega
        · rw [← hab331, if_neg g]
          rw [Int64.lt_iff_toInt_lt, z] at g
          omega
      refine g_callS hG X110 hx hZ (y := (⟨"java/lang/Math", "abs", "(J)J"⟩ : MethodName)) 2 hown (wd hw 44 rfl) (wd hw 45 rfl) (wd hw 22 rfl) (wd hw 46 rfl) (by decide) (rmAbs l Z a0 hw [] v330 T108.heap n0 Zs) (by decide) (by decide) (by rw [hml]; rfl) pd_6 rfl (argsL := [(.long v330)]) (rest := [(.long 4)]) rfl rfl (Nat.le_of_eq rfl) (hb hby at_331) eh110 (by decide) (by decide) (pc' := 334) rfl ?_
      intro T111 rv111 L111 X111 hQ111
      obtain ⟨rfl, Nq111, eh111⟩ := hQ111
      have NF111 := Fr.app NF110 Nq111
      rw [hab331]
      show G (T111.setTop (mkF m 334 _ [(.long ab331), (.long 4)]))
      obtain ⟨v334, q334⟩ : ∃ zz : Int64, (4 : Int64) * ab331 = zz := ⟨_, rfl⟩
      refine g_lmul hG X111 hx (hb hby at_334) (pc' := 335) rfl q334 ?_
      refine g_iload hG X111 hx (hb hby at_335) (pc' := 337) rfl rfl ?_
      obtain ⟨v337, q337⟩ : ∃ zz : Int64, v18.toInt64 = zz := ⟨_, rfl⟩
      refine g_i2l hG X111 hx (hb hby at_337) (pc' := 338) rfl q337 ?_
      refine g_lload hG X111 hx (hb hby at_338) (pc' := 340) rfl rfl ?_
      obtain ⟨v340, q340⟩ : ∃ zz : Int64, v337 * v180 = zz := ⟨_, rfl⟩
      refine g_lmul hG X111 hx (hb hby at_340) (pc' := 341) rfl q340 ?_
      have k334 : v334.toInt = 4 * ab331.toInt := by
        have a := c_lmul (4 : Int64) ab331
        have c : (4 : Int64).toInt = 4 := by decide
        rw [q334, c] at a
        have b := rng64 v334
        omega
      have k340 : v340.toInt = R := by
        have a := c_lmul v337 v180
        have c : v337.toInt = v18.toInt := by rw [← q337]; exact c_i2l v18
        rw [q340, c, hR] at a
        have b := rng64 v340
        omega
      obtain ⟨v341, q341⟩ : ∃ zz : Int32, lcmpW v334 v340 = zz := ⟨_, rfl⟩
      refine g_lcmp hG X111 hx (hb hby at_341) (pc' := 342) rfl q341 ?_
      by_cases hc342 : (0 : Int32) < v341
      · refine g_ifNo hG X111 hx (hb hby at_342) (pc' := 345) ((if0 _ _).trans (tlt hc342).2.2.2) rfl ?_
        refine g_lload hG X111 hx (hb hby at_345) (pc' := 347) rfl rfl ?_
        refine g_lload hG X111 hx (hb hby at_347) (pc' := 349) rfl rfl ?_
        obtain ⟨v349, q349⟩ : ∃ zz : Int32, lcmpW v166 v180 = zz := ⟨_, rfl⟩
        refine g_lcmp hG X111 hx (hb hby at_349) (pc' := 350) rfl q349 ?_
        by_cases hc350 : v349 < (0 : Int32)
        · refine g_ifNo hG X111 hx (hb hby at_350) (pc' := 353) ((if0 _ _).trans (tlt hc350).2.1) rfl ?_
          refine g_iconst hG X111 hx (hb hby at_353) (pc' := 354) rfl (v := (1 : Int32)) rfl ?_
          refine g_goto hG X111 hx (hb hby at_354) (pc' := 358) (by decide) (by decide) ?_
          refine g_istore hG X111 hx (hb hby at_358) (pc' := 360) rfl (Ls' := #[.val (.int aa), .val (.int bb), .val (.int cc), .val (.int dd), .val (.int sel), .val (.int 2), .val (.int v18), .val (.ref ar), .val (.ref b83), .val (.ref b91), .val (.ref dr), .val (.long v166), .second, .val (.long v173), .second, .val (.long v180), .second, .val (.long v187), .second, .val (.ref b), .val (.double v217), .second, .val (.int rs), .val (.long v259), .second, .val (.long v280), .second, .val (.int 1)]) rfl ?_
          refine g_goto hG X111 hx (hb hby at_360) (pc' := 378) (by decide) (by decide) ?_
          refine g_iload hG X111 hx (hb hby at_378) (pc' := 380) rfl rfl ?_
          refine g_iload hG X111 hx (hb hby at_380) (pc' := 382) rfl rfl ?_
          have g302 : ¬ v300.toInt < v294.toInt := fun g => hc302 (by rw [← q301]; exact (lw_gt _ _).mpr (Int64.lt_iff_toInt_lt.mpr g))
          have g342 : v340.toInt < v334.toInt := Int64.lt_iff_toInt_lt.mp ((lw_gt _ _).mp (by rw [q341]; exact hc342))
          have g350 : v166.toInt < v180.toInt := Int64.lt_iff_toInt_lt.mp ((lw_lt _ _).mp (by rw [q349]; exact hc350))
          have ers : rs = (1 : Int32) := by rw [hrs, if_neg (by omega), if_pos (by omega), if_pos (by omega)]
          refine g_icmpNo hG X111 hx (hb hby at_382) (pc' := 385) ((teq ers).2) rfl ?_
          refine g_iconst hG X111 hx (hb hby at_385) (pc' := 386) rfl (v := (1 : Int32)) rfl ?_
          refine g_goto hG X111 hx (hb hby at_386) (pc' := 390) (by decide) (by decide) ?_
          exact e_retZ hGe X111 hx hrt hlk (hb hby at_390) (Or.inr rfl) eh111 (by decide) (by decide) (⟨rfl, NF111⟩)
        · refine g_ifYes hG X111 hx (hb hby at_350) (pc' := 357) ((if0 _ _).trans (flt hc350).2.1) (by decide) (by decide) ?_
          refine g_iconst hG X111 hx (hb hby at_357) (pc' := 358) rfl (v := (0 : Int32)) rfl ?_
          refine g_istore hG X111 hx (hb hby at_358) (pc' := 360) rfl (Ls' := #[.val (.int aa), .val (.int bb), .val (.int cc), .val (.int dd), .val (.int sel), .val (.int 2), .val (.int v18), .val (.ref ar), .val (.ref b83), .val (.ref b91), .val (.ref dr), .val (.long v166), .second, .val (.long v173), .second, .val (.long v180), .second, .val (.long v187), .second, .val (.ref b), .val (.double v217), .second, .val (.int rs), .val (.long v259), .second, .val (.long v280), .second, .val (.int 0)]) rfl ?_
          refine g_goto hG X111 hx (hb hby at_360) (pc' := 378) (by decide) (by decide) ?_
          refine g_iload hG X111 hx (hb hby at_378) (pc' := 380) rfl rfl ?_
          refine g_iload hG X111 hx (hb hby at_380) (pc' := 382) rfl rfl ?_
          have g302 : ¬ v300.toInt < v294.toInt := fun g => hc302 (by rw [← q301]; exact (lw_gt _ _).mpr (Int64.lt_iff_toInt_lt.mpr g))
          have g342 : v340.toInt < v334.toInt := Int64.lt_iff_toInt_lt.mp ((lw_gt _ _).mp (by rw [q341]; exact hc342))
          have g350 : ¬ v166.toInt < v180.toInt := fun g => hc350 (by rw [← q349]; exact (lw_lt _ _).mpr (Int64.lt_iff_toInt_lt.mpr g))
          have ers : rs = (0 : Int32) := by rw [hrs, if_neg (by omega), if_pos (by omega), if_neg (by omega)]
          refine g_icmpNo hG X111 hx (hb hby at_382) (pc' := 385) ((teq ers).2) rfl ?_
          refine g_iconst hG X111 hx (hb hby at_385) (pc' := 386) rfl (v := (1 : Int32)) rfl ?_
          refine g_goto hG X111 hx (hb hby at_386) (pc' := 390) (by decide) (by decide) ?_
          exact e_retZ hGe X111 hx hrt hlk (hb hby at_390) (Or.inr rfl) eh111 (by decide) (by decide) (⟨rfl, NF111⟩)
      · refine g_ifYes hG X111 hx (hb hby at_342) (pc' := 363) ((if0 _ _).trans (flt hc342).2.2.2) (by decide) (by decide) ?_
        refine g_lload hG X111 hx (hb hby at_363) (pc' := 365) rfl rfl ?_
        refine g_lload hG X111 hx (hb hby at_365) (pc' := 367) rfl rfl ?_
        obtain ⟨v367, q367⟩ : ∃ zz : Int32, lcmpW v173 v187 = zz := ⟨_, rfl⟩
        refine g_lcmp hG X111 hx (hb hby at_367) (pc' := 368) rfl q367 ?_
        by_cases hc368 : v367 < (0 : Int32)
        · refine g_ifNo hG X111 hx (hb hby at_368) (pc' := 371) ((if0 _ _).trans (tlt hc368).2.1) rfl ?_
          refine g_iconst hG X111 hx (hb hby at_371) (pc' := 372) rfl (v := (1 : Int32)) rfl ?_
          refine g_goto hG X111 hx (hb hby at_372) (pc' := 376) (by decide) (by decide) ?_
          refine g_istore hG X111 hx (hb hby at_376) (pc' := 378) rfl (Ls' := #[.val (.int aa), .val (.int bb), .val (.int cc), .val (.int dd), .val (.int sel), .val (.int 2), .val (.int v18), .val (.ref ar), .val (.ref b83), .val (.ref b91), .val (.ref dr), .val (.long v166), .second, .val (.long v173), .second, .val (.long v180), .second, .val (.long v187), .second, .val (.ref b), .val (.double v217), .second, .val (.int rs), .val (.long v259), .second, .val (.long v280), .second, .val (.int 1)]) rfl ?_
          refine g_iload hG X111 hx (hb hby at_378) (pc' := 380) rfl rfl ?_
          refine g_iload hG X111 hx (hb hby at_380) (pc' := 382) rfl rfl ?_
          have g302 : ¬ v300.toInt < v294.toInt := fun g => hc302 (by rw [← q301]; exact (lw_gt _ _).mpr (Int64.lt_iff_toInt_lt.mpr g))
          have g342 : ¬ v340.toInt < v334.toInt := fun g => hc342 (by rw [← q341]; exact (lw_gt _ _).mpr (Int64.lt_iff_toInt_lt.mpr g))
          have g368 : v173.toInt < v187.toInt := Int64.lt_iff_toInt_lt.mp ((lw_lt _ _).mp (by rw [q367]; exact hc368))
          have ers : rs = (1 : Int32) := by rw [hrs, if_neg (by omega), if_neg (by omega), if_pos (by omega)]
          refine g_icmpNo hG X111 hx (hb hby at_382) (pc' := 385) ((teq ers).2) rfl ?_
          refine g_iconst hG X111 hx (hb hby at_385) (pc' := 386) rfl (v := (1 : Int32)) rfl ?_
          refine g_goto hG X111 hx (hb hby at_386) (pc' := 390) (by decide) (by decide) ?_
          exact e_retZ hGe X111 hx hrt hlk (hb hby at_390) (Or.inr rfl) eh111 (by decide) (by decide) (⟨rfl, NF111⟩)
        · refine g_ifYes hG X111 hx (hb hby at_368) (pc' := 375) ((if0 _ _).trans (flt hc368).2.1) (by decide) (by decide) ?_
          refine g_iconst hG X111 hx (hb hby at_375) (pc' := 376) rfl (v := (0 : Int32)) rfl ?_
          refine g_istore hG X111 hx (hb hby at_376) (pc' := 378) rfl (Ls' := #[.val (.int aa), .val (.int bb), .val (.int cc), .val (.int dd), .val (.int sel), .val (.int 2), .val (.int v18), .val (.ref ar), .val (.ref b83), .val (.ref b91), .val (.ref dr), .val (.long v166), .second, .val (.long v173), .second, .val (.long v180), .second, .val (.long v187), .second, .val (.ref b), .val (.double v217), .second, .val (.int rs), .val (.long v259), .second, .val (.long v280), .second, .val (.int 0)]) rfl ?_
          refine g_iload hG X111 hx (hb hby at_378) (pc' := 380) rfl rfl ?_
          refine g_iload hG X111 hx (hb hby at_380) (pc' := 382) rfl rfl ?_
          have g302 : ¬ v300.toInt < v294.toInt := fun g => hc302 (by rw [← q301]; exact (lw_gt _ _).mpr (Int64.lt_iff_toInt_lt.mpr g))
          have g342 : ¬ v340.toInt < v334.toInt := fun g => hc342 (by rw [← q341]; exact (lw_gt _ _).mpr (Int64.lt_iff_toInt_lt.mpr g))
          have g368 : ¬ v173.toInt < v187.toInt := fun g => hc368 (by rw [← q367]; exact (lw_lt _ _).mpr (Int64.lt_iff_toInt_lt.mpr g))
          have ers : rs = (0 : Int32) := by rw [hrs, if_neg (by omega), if_neg (by omega), if_neg (by omega)]
          refine g_icmpNo hG X111 hx (hb hby at_382) (pc' := 385) ((teq ers).2) rfl ?_
          refine g_iconst hG X111 hx (hb hby at_385) (pc' := 386) rfl (v := (1 : Int32)) rfl ?_
          refine g_goto hG X111 hx (hb hby at_386) (pc' := 390) (by decide) (by decide) ?_
          exact e_retZ hGe X111 hx hrt hlk (hb hby at_390) (Or.inr rfl) eh111 (by decide) (by decide) (⟨rfl, NF111⟩)
  · skip
    show G (s₁.setTop (mkF m 9 _ [(.int 3)]))
    refine g_istore hG X0 hx (hb hby at_9) (pc' := 11) rfl (Ls' := #[.val (.int aa), .val (.int bb), .val (.int cc), .val (.int dd), .val (.int sel), .val (.int 3), .unset, .unset, .unset, .unset, .unset, .unset, .unset, .unset, .unset, .unset, .unset, .unset, .unset, .unset, .unset, .unset, .unset, .unset, .unset, .unset, .unset, .unset]) rfl ?_
    refine g_iload hG X0 hx (hb hby at_11) (pc' := 13) rfl rfl ?_
    refine g_bipush hG X0 hx (hb hby at_13) (pc' := 15) rfl (v := (8 : Int32)) rfl ?_
    obtain ⟨v15, q15⟩ : ∃ zz : Int32, (sel.toUInt32 >>> ((8 : Int32) &&& 31).toUInt32).toInt32 = zz := ⟨_, rfl⟩
    refine g_iushr hG X0 hx (hb hby at_15) (pc' := 16) rfl q15 ?_
    refine g_bipush hG X0 hx (hb hby at_16) (pc' := 18) rfl (v := (7 : Int32)) rfl ?_
    obtain ⟨v18, q18⟩ : ∃ zz : Int32, v15 &&& (7 : Int32) = zz := ⟨_, rfl⟩
    refine g_iand hG X0 hx (hb hby at_18) (pc' := 19) rfl q18 ?_
    have b18 : 0 ≤ v18.toInt ∧ v18.toInt ≤ 7 := by rw [← q18]; exact c_and v15 7 (by decide)
    refine g_istore hG X0 hx (hb hby at_19) (pc' := 21) rfl (Ls' := #[.val (.int aa), .val (.int bb), .val (.int cc), .val (.int dd), .val (.int sel), .val (.int 3), .val (.int v18), .unset, .unset, .unset, .unset, .unset, .unset, .unset, .unset, .unset, .unset, .unset, .unset, .unset, .unset, .unset, .unset, .unset, .unset, .unset, .unset, .unset]) rfl ?_
    refine g_bipush hG X0 hx (hb hby at_21) (pc' := 23) rfl (v := (7 : Int32)) rfl ?_
    refine g_newP hG X0 hx hZ (wd hw 0 rfl) e0 (hb hby at_23) (by decide) 7 (by decide) (by decide) (by decide) (by decide) (pc' := 25) rfl ?_
    intro T112 h112 ar kA112 gs112 X112 e112 E112 A112
    have ge_ar : n0 ≤ ar := gs112 ▸ Zs
    have Zs := Nat.le_trans Zs E112.1
    have V_ar : AV Z h112 ar .int (7 : Int32) [(.int 0), (.int 0), (.int 0), (.int 0), (.int 0), (.int 0), (.int 0)] := AV.new A112
    refine g_dup hG X112 hx (hb hby at_25) (pc' := 26) rfl rfl ?_
    refine g_iconst hG X112 hx (hb hby at_26) (pc' := 27) rfl (v := (0 : Int32)) rfl ?_
    refine g_iconst hG X112 hx (hb hby at_27) (pc' := 28) rfl (v := (1 : Int32)) rfl ?_
    refine g_iastore hG X112 hx hZ e112 V_ar (j := (0 : Int32)) (by decide) (show Int32.toNatClampNeg (0 : Int32) < 7 by decide) (hb hby at_28) (pc' := 29) rfl ?_
    intro T113 h113 X113 e113 W113 Vn113
    have V_ar : AV Z h113 ar .int (7 : Int32) [(.int 1), (.int 0), (.int 0), (.int 0), (.int 0), (.int 0), (.int 0)] := Vn113
    have Zs := Nat.le_trans Zs (Wr.size W113)
    have NF113 := Fr.snoc X113 NF0 ge_ar
    refine g_dup hG X113 hx (hb hby at_29) (pc' := 30) rfl rfl ?_
    refine g_iconst hG X113 hx (hb hby at_30) (pc' := 31) rfl (v := (1 : Int32)) rfl ?_
    refine g_iconst hG X113 hx (hb hby at_31) (pc' := 32) rfl (v := (0 : Int32)) rfl ?_
    refine g_iastore hG X113 hx hZ e113 V_ar (j := (1 : Int32)) (by decide) (show Int32.toNatClampNeg (1 : Int32) < 7 by decide) (hb hby at_32) (pc' := 33) rfl ?_
    intro T114 h114 X114 e114 W114 Vn114
    have V_ar : AV Z h114 ar .int (7 : Int32) [(.int 1), (.int 0), (.int 0), (.int 0), (.int 0), (.int 0), (.int 0)] := Vn114
    have Zs := Nat.le_trans Zs (Wr.size W114)
    have NF114 := Fr.snoc X114 NF113 ge_ar
    refine g_dup hG X114 hx (hb hby at_33) (pc' := 34) rfl rfl ?_
    refine g_iconst hG X114 hx (hb hby at_34) (pc' := 35) rfl (v := (2 : Int32)) rfl ?_
    refine g_iconst hG X114 hx (hb hby at_35) (pc' := 36) rfl (v := (3 : Int32)) rfl ?_
    refine g_iastore hG X114 hx hZ e114 V_ar (j := (2 : Int32)) (by decide) (show Int32.toNatClampNeg (2 : Int32) < 7 by decide) (hb hby at_36) (pc' := 37) rfl ?_
    intro T115 h115 X115 e115 W115 Vn115
    have V_ar : AV Z h115 ar .int (7 : Int32) [(.int 1), (.int 0), (.int 3), (.int 0), (.int 0), (.int 0), (.int 0)] := Vn115
    have Zs := Nat.le_trans Zs (Wr.size W115)
    have NF115 := Fr.snoc X115 NF114 ge_ar
    refine g_dup hG X115 hx (hb hby at_37) (pc' := 38) rfl rfl ?_
    refine g_iconst hG X115 hx (hb hby at_38) (pc' := 39) rfl (v := (3 : Int32)) rfl ?_
    refine g_iconst hG X115 hx (hb hby at_39) (pc' := 40) rfl (v := (1 : Int32)) rfl ?_
    refine g_iastore hG X115 hx hZ e115 V_ar (j := (3 : Int32)) (by decide) (show Int32.toNatClampNeg (3 : Int32) < 7 by decide) (hb hby at_40) (pc' := 41) rfl ?_
    intro T116 h116 X116 e116 W116 Vn116
    have V_ar : AV Z h116 ar .int (7 : Int32) [(.int 1), (.int 0), (.int 3), (.int 1), (.int 0), (.int 0), (.int 0)] := Vn116
    have Zs := Nat.le_trans Zs (Wr.size W116)
    have NF116 := Fr.snoc X116 NF115 ge_ar
    refine g_dup hG X116 hx (hb hby at_41) (pc' := 42) rfl rfl ?_
    refine g_iconst hG X116 hx (hb hby at_42) (pc' := 43) rfl (v := (4 : Int32)) rfl ?_
    refine g_bipush hG X116 hx (hb hby at_43) (pc' := 45) rfl (v := (8 : Int32)) rfl ?_
    refine g_iastore hG X116 hx hZ e116 V_ar (j := (4 : Int32)) (by decide) (show Int32.toNatClampNeg (4 : Int32) < 7 by decide) (hb hby at_45) (pc' := 46) rfl ?_
    intro T117 h117 X117 e117 W117 Vn117
    have V_ar : AV Z h117 ar .int (7 : Int32) [(.int 1), (.int 0), (.int 3), (.int 1), (.int 8), (.int 0), (.int 0)] := Vn117
    have Zs := Nat.le_trans Zs (Wr.size W117)
    have NF117 := Fr.snoc X117 NF116 ge_ar
    refine g_dup hG X117 hx (hb hby at_46) (pc' := 47) rfl rfl ?_
    refine g_iconst hG X117 hx (hb hby at_47) (pc' := 48) rfl (v := (5 : Int32)) rfl ?_
    refine g_iconst hG X117 hx (hb hby at_48) (pc' := 49) rfl (v := (1 : Int32)) rfl ?_
    refine g_iastore hG X117 hx hZ e117 V_ar (j := (5 : Int32)) (by decide) (show Int32.toNatClampNeg (5 : Int32) < 7 by decide) (hb hby at_49) (pc' := 50) rfl ?_
    intro T118 h118 X118 e118 W118 Vn118
    have V_ar : AV Z h118 ar .int (7 : Int32) [(.int 1), (.int 0), (.int 3), (.int 1), (.int 8), (.int 1), (.int 0)] := Vn118
    have Zs := Nat.le_trans Zs (Wr.size W118)
    have NF118 := Fr.snoc X118 NF117 ge_ar
    refine g_dup hG X118 hx (hb hby at_50) (pc' := 51) rfl rfl ?_
    refine g_bipush hG X118 hx (hb hby at_51) (pc' := 53) rfl (v := (6 : Int32)) rfl ?_
    refine g_iconst hG X118 hx (hb hby at_53) (pc' := 54) rfl (v := (4 : Int32)) rfl ?_
    refine g_iastore hG X118 hx hZ e118 V_ar (j := (6 : Int32)) (by decide) (show Int32.toNatClampNeg (6 : Int32) < 7 by decide) (hb hby at_54) (pc' := 55) rfl ?_
    intro T119 h119 X119 e119 W119 Vn119
    have V_ar : AV Z h119 ar .int (7 : Int32) [(.int 1), (.int 0), (.int 3), (.int 1), (.int 8), (.int 1), (.int 4)] := Vn119
    have Zs := Nat.le_trans Zs (Wr.size W119)
    have NF119 := Fr.snoc X119 NF118 ge_ar
    refine g_astore hG X119 hx (hb hby at_55) (pc' := 57) rfl rfl (Ls' := #[.val (.int aa), .val (.int bb), .val (.int cc), .val (.int dd), .val (.int sel), .val (.int 3), .val (.int v18), .val (.ref ar), .unset, .unset, .unset, .unset, .unset, .unset, .unset, .unset, .unset, .unset, .unset, .unset, .unset, .unset, .unset, .unset, .unset, .unset, .unset, .unset]) rfl ?_
    refine g_bipush hG X119 hx (hb hby at_57) (pc' := 59) rfl (v := (7 : Int32)) rfl ?_
    refine g_newP hG X119 hx hZ (wd hw 0 rfl) e119 (hb hby at_59) (by decide) 7 (by decide) (by decide) (by decide) (by decide) (pc' := 61) rfl ?_
    intro T120 h120 b120 kA120 gs120 X120 e120 E120 A120
    have ne_ar_b120 : ar ≠ b120 := Nat.ne_of_lt (gs120 ▸ V_ar.lt)
    have ge_b120 : n0 ≤ b120 := gs120 ▸ Zs
    have Zs := Nat.le_trans Zs E120.1
    have V_ar := V_ar.ext E120
    have V_b120 : AV Z h120 b120 .int (7 : Int32) [(.int 0), (.int 0), (.int 0), (.int 0), (.int 0), (.int 0), (.int 0)] := AV.new A120
    refine g_dup hG X120 hx (hb hby at_61) (pc' := 62) rfl rfl ?_
    refine g_iconst hG X120 hx (hb hby at_62) (pc' := 63) rfl (v := (0 : Int32)) rfl ?_
    refine g_iconst hG X120 hx (hb hby at_63) (pc' := 64) rfl (v := (0 : Int32)) rfl ?_
    refine g_iastore hG X120 hx hZ e120 V_b120 (j := (0 : Int32)) (by decide) (show Int32.toNatClampNeg (0 : Int32) < 7 by decide) (hb hby at_64) (pc' := 65) rfl ?_
    intro T121 h121 X121 e121 W121 Vn121
    have V_b120 : AV Z h121 b120 .int (7 : Int32) [(.int 0), (.int 0), (.int 0), (.int 0), (.int 0), (.int 0), (.int 0)] := Vn121
    have V_ar := V_ar.other W121 ne_ar_b120
    have Zs := Nat.le_trans Zs (Wr.size W121)
    have NF121 := Fr.snoc X121 NF119 ge_b120
    refine g_dup hG X121 hx (hb hby at_65) (pc' := 66) rfl rfl ?_
    refine g_iconst hG X121 hx (hb hby at_66) (pc' := 67) rfl (v := (1 : Int32)) rfl ?_
    refine g_iconst hG X121 hx (hb hby at_67) (pc' := 68) rfl (v := (2 : Int32)) rfl ?_
    refine g_iastore hG X121 hx hZ e121 V_b120 (j := (1 : Int32)) (by decide) (show Int32.toNatClampNeg (1 : Int32) < 7 by decide) (hb hby at_68) (pc' := 69) rfl ?_
    intro T122 h122 X122 e122 W122 Vn122
    have V_b120 : AV Z h122 b120 .int (7 : Int32) [(.int 0), (.int 2), (.int 0), (.int 0), (.int 0), (.int 0), (.int 0)] := Vn122
    have V_ar := V_ar.other W122 ne_ar_b120
    have Zs := Nat.le_trans Zs (Wr.size W122)
    have NF122 := Fr.snoc X122 NF121 ge_b120
    refine g_dup hG X122 hx (hb hby at_69) (pc' := 70) rfl rfl ?_
    refine g_iconst hG X122 hx (hb hby at_70) (pc' := 71) rfl (v := (2 : Int32)) rfl ?_
    refine g_iconst hG X122 hx (hb hby at_71) (pc' := 72) rfl (v := (3 : Int32)) rfl ?_
    refine g_iastore hG X122 hx hZ e122 V_b120 (j := (2 : Int32)) (by decide) (show Int32.toNatClampNeg (2 : Int32) < 7 by decide) (hb hby at_72) (pc' := 73) rfl ?_
    intro T123 h123 X123 e123 W123 Vn123
    have V_b120 : AV Z h123 b120 .int (7 : Int32) [(.int 0), (.int 2), (.int 3), (.int 0), (.int 0), (.int 0), (.int 0)] := Vn123
    have V_ar := V_ar.other W123 ne_ar_b120
    have Zs := Nat.le_trans Zs (Wr.size W123)
    have NF123 := Fr.snoc X123 NF122 ge_b120
    refine g_dup hG X123 hx (hb hby at_73) (pc' := 74) rfl rfl ?_
    refine g_iconst hG X123 hx (hb hby at_74) (pc' := 75) rfl (v := (3 : Int32)) rfl ?_
    refine g_iconst hG X123 hx (hb hby at_75) (pc' := 76) rfl (v := (2 : Int32)) rfl ?_
    refine g_iastore hG X123 hx hZ e123 V_b120 (j := (3 : Int32)) (by decide) (show Int32.toNatClampNeg (3 : Int32) < 7 by decide) (hb hby at_76) (pc' := 77) rfl ?_
    intro T124 h124 X124 e124 W124 Vn124
    have V_b120 : AV Z h124 b120 .int (7 : Int32) [(.int 0), (.int 2), (.int 3), (.int 2), (.int 0), (.int 0), (.int 0)] := Vn124
    have V_ar := V_ar.other W124 ne_ar_b120
    have Zs := Nat.le_trans Zs (Wr.size W124)
    have NF124 := Fr.snoc X124 NF123 ge_b120
    refine g_dup hG X124 hx (hb hby at_77) (pc' := 78) rfl rfl ?_
    refine g_iconst hG X124 hx (hb hby at_78) (pc' := 79) rfl (v := (4 : Int32)) rfl ?_
    refine g_iconst hG X124 hx (hb hby at_79) (pc' := 80) rfl (v := (4 : Int32)) rfl ?_
    refine g_iastore hG X124 hx hZ e124 V_b120 (j := (4 : Int32)) (by decide) (show Int32.toNatClampNeg (4 : Int32) < 7 by decide) (hb hby at_80) (pc' := 81) rfl ?_
    intro T125 h125 X125 e125 W125 Vn125
    have V_b120 : AV Z h125 b120 .int (7 : Int32) [(.int 0), (.int 2), (.int 3), (.int 2), (.int 4), (.int 0), (.int 0)] := Vn125
    have V_ar := V_ar.other W125 ne_ar_b120
    have Zs := Nat.le_trans Zs (Wr.size W125)
    have NF125 := Fr.snoc X125 NF124 ge_b120
    refine g_dup hG X125 hx (hb hby at_81) (pc' := 82) rfl rfl ?_
    refine g_iconst hG X125 hx (hb hby at_82) (pc' := 83) rfl (v := (5 : Int32)) rfl ?_
    refine g_iconst hG X125 hx (hb hby at_83) (pc' := 84) rfl (v := (4 : Int32)) rfl ?_
    refine g_iastore hG X125 hx hZ e125 V_b120 (j := (5 : Int32)) (by decide) (show Int32.toNatClampNeg (5 : Int32) < 7 by decide) (hb hby at_84) (pc' := 85) rfl ?_
    intro T126 h126 X126 e126 W126 Vn126
    have V_b120 : AV Z h126 b120 .int (7 : Int32) [(.int 0), (.int 2), (.int 3), (.int 2), (.int 4), (.int 4), (.int 0)] := Vn126
    have V_ar := V_ar.other W126 ne_ar_b120
    have Zs := Nat.le_trans Zs (Wr.size W126)
    have NF126 := Fr.snoc X126 NF125 ge_b120
    refine g_dup hG X126 hx (hb hby at_85) (pc' := 86) rfl rfl ?_
    refine g_bipush hG X126 hx (hb hby at_86) (pc' := 88) rfl (v := (6 : Int32)) rfl ?_
    refine g_iconst hG X126 hx (hb hby at_88) (pc' := 89) rfl (v := (1 : Int32)) rfl ?_
    refine g_iastore hG X126 hx hZ e126 V_b120 (j := (6 : Int32)) (by decide) (show Int32.toNatClampNeg (6 : Int32) < 7 by decide) (hb hby at_89) (pc' := 90) rfl ?_
    intro T127 h127 X127 e127 W127 Vn127
    have V_b120 : AV Z h127 b120 .int (7 : Int32) [(.int 0), (.int 2), (.int 3), (.int 2), (.int 4), (.int 4), (.int 1)] := Vn127
    have V_ar := V_ar.other W127 ne_ar_b120
    have Zs := Nat.le_trans Zs (Wr.size W127)
    have NF127 := Fr.snoc X127 NF126 ge_b120
    refine g_astore hG X127 hx (hb hby at_90) (pc' := 92) rfl rfl (Ls' := #[.val (.int aa), .val (.int bb), .val (.int cc), .val (.int dd), .val (.int sel), .val (.int 3), .val (.int v18), .val (.ref ar), .val (.ref b120), .unset, .unset, .unset, .unset, .unset, .unset, .unset, .unset, .unset, .unset, .unset, .unset, .unset, .unset, .unset, .unset, .unset, .unset, .unset]) rfl ?_
    refine g_bipush hG X127 hx (hb hby at_92) (pc' := 94) rfl (v := (7 : Int32)) rfl ?_
    refine g_newP hG X127 hx hZ (wd hw 0 rfl) e127 (hb hby at_94) (by decide) 7 (by decide) (by decide) (by decide) (by decide) (pc' := 96) rfl ?_
    intro T128 h128 b128 kA128 gs128 X128 e128 E128 A128
    have ne_ar_b128 : ar ≠ b128 := Nat.ne_of_lt (gs128 ▸ V_ar.lt)
    have ne_b120_b128 : b120 ≠ b128 := Nat.ne_of_lt (gs128 ▸ V_b120.lt)
    have ge_b128 : n0 ≤ b128 := gs128 ▸ Zs
    have Zs := Nat.le_trans Zs E128.1
    have V_ar := V_ar.ext E128
    have V_b120 := V_b120.ext E128
    have V_b128 : AV Z h128 b128 .int (7 : Int32) [(.int 0), (.int 0), (.int 0), (.int 0), (.int 0), (.int 0), (.int 0)] := AV.new A128
    refine g_dup hG X128 hx (hb hby at_96) (pc' := 97) rfl rfl ?_
    refine g_iconst hG X128 hx (hb hby at_97) (pc' := 98) rfl (v := (0 : Int32)) rfl ?_
    refine g_iconst hG X128 hx (hb hby at_98) (pc' := 99) rfl (v := (4 : Int32)) rfl ?_
    refine g_iastore hG X128 hx hZ e128 V_b128 (j := (0 : Int32)) (by decide) (show Int32.toNatClampNeg (0 : Int32) < 7 by decide) (hb hby at_99) (pc' := 100) rfl ?_
    intro T129 h129 X129 e129 W129 Vn129
    have V_b128 : AV Z h129 b128 .int (7 : Int32) [(.int 4), (.int 0), (.int 0), (.int 0), (.int 0), (.int 0), (.int 0)] := Vn129
    have V_ar := V_ar.other W129 ne_ar_b128
    have V_b120 := V_b120.other W129 ne_b120_b128
    have Zs := Nat.le_trans Zs (Wr.size W129)
    have NF129 := Fr.snoc X129 NF127 ge_b128
    refine g_dup hG X129 hx (hb hby at_100) (pc' := 101) rfl rfl ?_
    refine g_iconst hG X129 hx (hb hby at_101) (pc' := 102) rfl (v := (1 : Int32)) rfl ?_
    refine g_iconst hG X129 hx (hb hby at_102) (pc' := 103) rfl (v := (0 : Int32)) rfl ?_
    refine g_iastore hG X129 hx hZ e129 V_b128 (j := (1 : Int32)) (by decide) (show Int32.toNatClampNeg (1 : Int32) < 7 by decide) (hb hby at_103) (pc' := 104) rfl ?_
    intro T130 h130 X130 e130 W130 Vn130
    have V_b128 : AV Z h130 b128 .int (7 : Int32) [(.int 4), (.int 0), (.int 0), (.int 0), (.int 0), (.int 0), (.int 0)] := Vn130
    have V_ar := V_ar.other W130 ne_ar_b128
    have V_b120 := V_b120.other W130 ne_b120_b128
    have Zs := Nat.le_trans Zs (Wr.size W130)
    have NF130 := Fr.snoc X130 NF129 ge_b128
    refine g_dup hG X130 hx (hb hby at_104) (pc' := 105) rfl rfl ?_
    refine g_iconst hG X130 hx (hb hby at_105) (pc' := 106) rfl (v := (2 : Int32)) rfl ?_
    refine g_iconst hG X130 hx (hb hby at_106) (pc' := 107) rfl (v := (4 : Int32)) rfl ?_
    refine g_iastore hG X130 hx hZ e130 V_b128 (j := (2 : Int32)) (by decide) (show Int32.toNatClampNeg (2 : Int32) < 7 by decide) (hb hby at_107) (pc' := 108) rfl ?_
    intro T131 h131 X131 e131 W131 Vn131
    have V_b128 : AV Z h131 b128 .int (7 : Int32) [(.int 4), (.int 0), (.int 4), (.int 0), (.int 0), (.int 0), (.int 0)] := Vn131
    have V_ar := V_ar.other W131 ne_ar_b128
    have V_b120 := V_b120.other W131 ne_b120_b128
    have Zs := Nat.le_trans Zs (Wr.size W131)
    have NF131 := Fr.snoc X131 NF130 ge_b128
    refine g_dup hG X131 hx (hb hby at_108) (pc' := 109) rfl rfl ?_
    refine g_iconst hG X131 hx (hb hby at_109) (pc' := 110) rfl (v := (3 : Int32)) rfl ?_
    refine g_iconst hG X131 hx (hb hby at_110) (pc' := 111) rfl (v := (2 : Int32)) rfl ?_
    refine g_iastore hG X131 hx hZ e131 V_b128 (j := (3 : Int32)) (by decide) (show Int32.toNatClampNeg (3 : Int32) < 7 by decide) (hb hby at_111) (pc' := 112) rfl ?_
    intro T132 h132 X132 e132 W132 Vn132
    have V_b128 : AV Z h132 b128 .int (7 : Int32) [(.int 4), (.int 0), (.int 4), (.int 2), (.int 0), (.int 0), (.int 0)] := Vn132
    have V_ar := V_ar.other W132 ne_ar_b128
    have V_b120 := V_b120.other W132 ne_b120_b128
    have Zs := Nat.le_trans Zs (Wr.size W132)
    have NF132 := Fr.snoc X132 NF131 ge_b128
    refine g_dup hG X132 hx (hb hby at_112) (pc' := 113) rfl rfl ?_
    refine g_iconst hG X132 hx (hb hby at_113) (pc' := 114) rfl (v := (4 : Int32)) rfl ?_
    refine g_iconst hG X132 hx (hb hby at_114) (pc' := 115) rfl (v := (4 : Int32)) rfl ?_
    refine g_iastore hG X132 hx hZ e132 V_b128 (j := (4 : Int32)) (by decide) (show Int32.toNatClampNeg (4 : Int32) < 7 by decide) (hb hby at_115) (pc' := 116) rfl ?_
    intro T133 h133 X133 e133 W133 Vn133
    have V_b128 : AV Z h133 b128 .int (7 : Int32) [(.int 4), (.int 0), (.int 4), (.int 2), (.int 4), (.int 0), (.int 0)] := Vn133
    have V_ar := V_ar.other W133 ne_ar_b128
    have V_b120 := V_b120.other W133 ne_b120_b128
    have Zs := Nat.le_trans Zs (Wr.size W133)
    have NF133 := Fr.snoc X133 NF132 ge_b128
    refine g_dup hG X133 hx (hb hby at_116) (pc' := 117) rfl rfl ?_
    refine g_iconst hG X133 hx (hb hby at_117) (pc' := 118) rfl (v := (5 : Int32)) rfl ?_
    refine g_iconst hG X133 hx (hb hby at_118) (pc' := 119) rfl (v := (1 : Int32)) rfl ?_
    refine g_iastore hG X133 hx hZ e133 V_b128 (j := (5 : Int32)) (by decide) (show Int32.toNatClampNeg (5 : Int32) < 7 by decide) (hb hby at_119) (pc' := 120) rfl ?_
    intro T134 h134 X134 e134 W134 Vn134
    have V_b128 : AV Z h134 b128 .int (7 : Int32) [(.int 4), (.int 0), (.int 4), (.int 2), (.int 4), (.int 1), (.int 0)] := Vn134
    have V_ar := V_ar.other W134 ne_ar_b128
    have V_b120 := V_b120.other W134 ne_b120_b128
    have Zs := Nat.le_trans Zs (Wr.size W134)
    have NF134 := Fr.snoc X134 NF133 ge_b128
    refine g_dup hG X134 hx (hb hby at_120) (pc' := 121) rfl rfl ?_
    refine g_bipush hG X134 hx (hb hby at_121) (pc' := 123) rfl (v := (6 : Int32)) rfl ?_
    refine g_iconst hG X134 hx (hb hby at_123) (pc' := 124) rfl (v := (4 : Int32)) rfl ?_
    refine g_iastore hG X134 hx hZ e134 V_b128 (j := (6 : Int32)) (by decide) (show Int32.toNatClampNeg (6 : Int32) < 7 by decide) (hb hby at_124) (pc' := 125) rfl ?_
    intro T135 h135 X135 e135 W135 Vn135
    have V_b128 : AV Z h135 b128 .int (7 : Int32) [(.int 4), (.int 0), (.int 4), (.int 2), (.int 4), (.int 1), (.int 4)] := Vn135
    have V_ar := V_ar.other W135 ne_ar_b128
    have V_b120 := V_b120.other W135 ne_b120_b128
    have Zs := Nat.le_trans Zs (Wr.size W135)
    have NF135 := Fr.snoc X135 NF134 ge_b128
    refine g_astore hG X135 hx (hb hby at_125) (pc' := 127) rfl rfl (Ls' := #[.val (.int aa), .val (.int bb), .val (.int cc), .val (.int dd), .val (.int sel), .val (.int 3), .val (.int v18), .val (.ref ar), .val (.ref b120), .val (.ref b128), .unset, .unset, .unset, .unset, .unset, .unset, .unset, .unset, .unset, .unset, .unset, .unset, .unset, .unset, .unset, .unset, .unset, .unset]) rfl ?_
    refine g_bipush hG X135 hx (hb hby at_127) (pc' := 129) rfl (v := (7 : Int32)) rfl ?_
    refine g_newP hG X135 hx hZ (wd hw 0 rfl) e135 (hb hby at_129) (by decide) 7 (by decide) (by decide) (by decide) (by decide) (pc' := 131) rfl ?_
    intro T136 h136 dr kA136 gs136 X136 e136 E136 A136
    have ne_ar_dr : ar ≠ dr := Nat.ne_of_lt (gs136 ▸ V_ar.lt)
    have ne_b120_dr : b120 ≠ dr := Nat.ne_of_lt (gs136 ▸ V_b120.lt)
    have ne_b128_dr : b128 ≠ dr := Nat.ne_of_lt (gs136 ▸ V_b128.lt)
    have ge_dr : n0 ≤ dr := gs136 ▸ Zs
    have Zs := Nat.le_trans Zs E136.1
    have V_ar := V_ar.ext E136
    have V_b120 := V_b120.ext E136
    have V_b128 := V_b128.ext E136
    have V_dr : AV Z h136 dr .int (7 : Int32) [(.int 0), (.int 0), (.int 0), (.int 0), (.int 0), (.int 0), (.int 0)] := AV.new A136
    refine g_dup hG X136 hx (hb hby at_131) (pc' := 132) rfl rfl ?_
    refine g_iconst hG X136 hx (hb hby at_132) (pc' := 133) rfl (v := (0 : Int32)) rfl ?_
    refine g_iconst hG X136 hx (hb hby at_133) (pc' := 134) rfl (v := (0 : Int32)) rfl ?_
    refine g_iastore hG X136 hx hZ e136 V_dr (j := (0 : Int32)) (by decide) (show Int32.toNatClampNeg (0 : Int32) < 7 by decide) (hb hby at_134) (pc' := 135) rfl ?_
    intro T137 h137 X137 e137 W137 Vn137
    have V_dr : AV Z h137 dr .int (7 : Int32) [(.int 0), (.int 0), (.int 0), (.int 0), (.int 0), (.int 0), (.int 0)] := Vn137
    have V_ar := V_ar.other W137 ne_ar_dr
    have V_b120 := V_b120.other W137 ne_b120_dr
    have V_b128 := V_b128.other W137 ne_b128_dr
    have Zs := Nat.le_trans Zs (Wr.size W137)
    have NF137 := Fr.snoc X137 NF135 ge_dr
    refine g_dup hG X137 hx (hb hby at_135) (pc' := 136) rfl rfl ?_
    refine g_iconst hG X137 hx (hb hby at_136) (pc' := 137) rfl (v := (1 : Int32)) rfl ?_
    refine g_iconst hG X137 hx (hb hby at_137) (pc' := 138) rfl (v := (4 : Int32)) rfl ?_
    refine g_iastore hG X137 hx hZ e137 V_dr (j := (1 : Int32)) (by decide) (show Int32.toNatClampNeg (1 : Int32) < 7 by decide) (hb hby at_138) (pc' := 139) rfl ?_
    intro T138 h138 X138 e138 W138 Vn138
    have V_dr : AV Z h138 dr .int (7 : Int32) [(.int 0), (.int 4), (.int 0), (.int 0), (.int 0), (.int 0), (.int 0)] := Vn138
    have V_ar := V_ar.other W138 ne_ar_dr
    have V_b120 := V_b120.other W138 ne_b120_dr
    have V_b128 := V_b128.other W138 ne_b128_dr
    have Zs := Nat.le_trans Zs (Wr.size W138)
    have NF138 := Fr.snoc X138 NF137 ge_dr
    refine g_dup hG X138 hx (hb hby at_139) (pc' := 140) rfl rfl ?_
    refine g_iconst hG X138 hx (hb hby at_140) (pc' := 141) rfl (v := (2 : Int32)) rfl ?_
    refine g_iconst hG X138 hx (hb hby at_141) (pc' := 142) rfl (v := (4 : Int32)) rfl ?_
    refine g_iastore hG X138 hx hZ e138 V_dr (j := (2 : Int32)) (by decide) (show Int32.toNatClampNeg (2 : Int32) < 7 by decide) (hb hby at_142) (pc' := 143) rfl ?_
    intro T139 h139 X139 e139 W139 Vn139
    have V_dr : AV Z h139 dr .int (7 : Int32) [(.int 0), (.int 4), (.int 4), (.int 0), (.int 0), (.int 0), (.int 0)] := Vn139
    have V_ar := V_ar.other W139 ne_ar_dr
    have V_b120 := V_b120.other W139 ne_b120_dr
    have V_b128 := V_b128.other W139 ne_b128_dr
    have Zs := Nat.le_trans Zs (Wr.size W139)
    have NF139 := Fr.snoc X139 NF138 ge_dr
    refine g_dup hG X139 hx (hb hby at_143) (pc' := 144) rfl rfl ?_
    refine g_iconst hG X139 hx (hb hby at_144) (pc' := 145) rfl (v := (3 : Int32)) rfl ?_
    refine g_iconst hG X139 hx (hb hby at_145) (pc' := 146) rfl (v := (4 : Int32)) rfl ?_
    refine g_iastore hG X139 hx hZ e139 V_dr (j := (3 : Int32)) (by decide) (show Int32.toNatClampNeg (3 : Int32) < 7 by decide) (hb hby at_146) (pc' := 147) rfl ?_
    intro T140 h140 X140 e140 W140 Vn140
    have V_dr : AV Z h140 dr .int (7 : Int32) [(.int 0), (.int 4), (.int 4), (.int 4), (.int 0), (.int 0), (.int 0)] := Vn140
    have V_ar := V_ar.other W140 ne_ar_dr
    have V_b120 := V_b120.other W140 ne_b120_dr
    have V_b128 := V_b128.other W140 ne_b128_dr
    have Zs := Nat.le_trans Zs (Wr.size W140)
    have NF140 := Fr.snoc X140 NF139 ge_dr
    refine g_dup hG X140 hx (hb hby at_147) (pc' := 148) rfl rfl ?_
    refine g_iconst hG X140 hx (hb hby at_148) (pc' := 149) rfl (v := (4 : Int32)) rfl ?_
    refine g_iconst hG X140 hx (hb hby at_149) (pc' := 150) rfl (v := (2 : Int32)) rfl ?_
    refine g_iastore hG X140 hx hZ e140 V_dr (j := (4 : Int32)) (by decide) (show Int32.toNatClampNeg (4 : Int32) < 7 by decide) (hb hby at_150) (pc' := 151) rfl ?_
    intro T141 h141 X141 e141 W141 Vn141
    have V_dr : AV Z h141 dr .int (7 : Int32) [(.int 0), (.int 4), (.int 4), (.int 4), (.int 2), (.int 0), (.int 0)] := Vn141
    have V_ar := V_ar.other W141 ne_ar_dr
    have V_b120 := V_b120.other W141 ne_b120_dr
    have V_b128 := V_b128.other W141 ne_b128_dr
    have Zs := Nat.le_trans Zs (Wr.size W141)
    have NF141 := Fr.snoc X141 NF140 ge_dr
    refine g_dup hG X141 hx (hb hby at_151) (pc' := 152) rfl rfl ?_
    refine g_iconst hG X141 hx (hb hby at_152) (pc' := 153) rfl (v := (5 : Int32)) rfl ?_
    refine g_iconst hG X141 hx (hb hby at_153) (pc' := 154) rfl (v := (4 : Int32)) rfl ?_
    refine g_iastore hG X141 hx hZ e141 V_dr (j := (5 : Int32)) (by decide) (show Int32.toNatClampNeg (5 : Int32) < 7 by decide) (hb hby at_154) (pc' := 155) rfl ?_
    intro T142 h142 X142 e142 W142 Vn142
    have V_dr : AV Z h142 dr .int (7 : Int32) [(.int 0), (.int 4), (.int 4), (.int 4), (.int 2), (.int 4), (.int 0)] := Vn142
    have V_ar := V_ar.other W142 ne_ar_dr
    have V_b120 := V_b120.other W142 ne_b120_dr
    have V_b128 := V_b128.other W142 ne_b128_dr
    have Zs := Nat.le_trans Zs (Wr.size W142)
    have NF142 := Fr.snoc X142 NF141 ge_dr
    refine g_dup hG X142 hx (hb hby at_155) (pc' := 156) rfl rfl ?_
    refine g_bipush hG X142 hx (hb hby at_156) (pc' := 158) rfl (v := (6 : Int32)) rfl ?_
    refine g_iconst hG X142 hx (hb hby at_158) (pc' := 159) rfl (v := (1 : Int32)) rfl ?_
    refine g_iastore hG X142 hx hZ e142 V_dr (j := (6 : Int32)) (by decide) (show Int32.toNatClampNeg (6 : Int32) < 7 by decide) (hb hby at_159) (pc' := 160) rfl ?_
    intro T143 h143 X143 e143 W143 Vn143
    have V_dr : AV Z h143 dr .int (7 : Int32) [(.int 0), (.int 4), (.int 4), (.int 4), (.int 2), (.int 4), (.int 1)] := Vn143
    have V_ar := V_ar.other W143 ne_ar_dr
    have V_b120 := V_b120.other W143 ne_b120_dr
    have V_b128 := V_b128.other W143 ne_b128_dr
    have Zs := Nat.le_trans Zs (Wr.size W143)
    have NF143 := Fr.snoc X143 NF142 ge_dr
    refine g_astore hG X143 hx (hb hby at_160) (pc' := 162) rfl rfl (Ls' := #[.val (.int aa), .val (.int bb), .val (.int cc), .val (.int dd), .val (.int sel), .val (.int 3), .val (.int v18), .val (.ref ar), .val (.ref b120), .val (.ref b128), .val (.ref dr), .unset, .unset, .unset, .unset, .unset, .unset, .unset, .unset, .unset, .unset, .unset, .unset, .unset, .unset, .unset, .unset, .unset]) rfl ?_
    refine g_iloadN hG X143 hx (hb hby at_162) (pc' := 163) rfl rfl ?_
    refine g_ldcInt hG X143 hx hZ hown (wd hw 1 rfl) (hb hby at_163) (pc' := 165) rfl ?_
    obtain ⟨v165, q165⟩ : ∃ zz : Int32, aa &&& (65535 : Int32) = zz := ⟨_, rfl⟩
    refine g_iand hG X143 hx (hb hby at_165) (pc' := 166) rfl q165 ?_
    obtain ⟨v166, q166⟩ : ∃ zz : Int64, v165.toInt64 = zz := ⟨_, rfl⟩
    refine g_i2l hG X143 hx (hb hby at_166) (pc' := 167) rfl q166 ?_
    have b166 : 0 ≤ v166.toInt ∧ v166.toInt ≤ 65535 := by
      have a := c_and aa 65535 (by decide)
      rw [q165] at a
      have c : (65535 : Int32).toInt = 65535 := by decide
      have d : v166.toInt = v165.toInt := by rw [← q166]; exact c_i2l v165
      omega
    refine g_lstore hG X143 hx (hb hby at_167) (pc' := 169) rfl (Ls' := #[.val (.int aa), .val (.int bb), .val (.int cc), .val (.int dd), .val (.int sel), .val (.int 3), .val (.int v18), .val (.ref ar), .val (.ref b120), .val (.ref b128), .val (.ref dr), .val (.long v166), .second, .unset, .unset, .unset, .unset, .unset, .unset, .unset, .unset, .unset, .unset, .unset, .unset, .unset, .unset, .unset]) rfl ?_
    refine g_iloadN hG X143 hx (hb hby at_169) (pc' := 170) rfl rfl ?_
    refine g_ldcInt hG X143 hx hZ hown (wd hw 1 rfl) (hb hby at_170) (pc' := 172) rfl ?_
    obtain ⟨v172, q172⟩ : ∃ zz : Int32, bb &&& (65535 : Int32) = zz := ⟨_, rfl⟩
    refine g_iand hG X143 hx (hb hby at_172) (pc' := 173) rfl q172 ?_
    obtain ⟨v173, q173⟩ : ∃ zz : Int64, v172.toInt64 = zz := ⟨_, rfl⟩
    refine g_i2l hG X143 hx (hb hby at_173) (pc' := 174) rfl q173 ?_
    have b173 : 0 ≤ v173.toInt ∧ v173.toInt ≤ 65535 := by
      have a := c_and bb 65535 (by decide)
      rw [q172] at a
      have c : (65535 : Int32).toInt = 65535 := by decide
      have d : v173.toInt = v172.toInt := by rw [← q173]; exact c_i2l v172
      omega
    refine g_lstore hG X143 hx (hb hby at_174) (pc' := 176) rfl (Ls' := #[.val (.int aa), .val (.int bb), .val (.int cc), .val (.int dd), .val (.int sel), .val (.int 3), .val (.int v18), .val (.ref ar), .val (.ref b120), .val (.ref b128), .val (.ref dr), .val (.long v166), .second, .val (.long v173), .second, .unset, .unset, .unset, .unset, .unset, .unset, .unset, .unset, .unset, .unset, .unset, .unset, .unset]) rfl ?_
    refine g_iloadN hG X143 hx (hb hby at_176) (pc' := 177) rfl rfl ?_
    refine g_ldcInt hG X143 hx hZ hown (wd hw 1 rfl) (hb hby at_177) (pc' := 179) rfl ?_
    obtain ⟨v179, q179⟩ : ∃ zz : Int32, cc &&& (65535 : Int32) = zz := ⟨_, rfl⟩
    refine g_iand hG X143 hx (hb hby at_179) (pc' := 180) rfl q179 ?_
    obtain ⟨v180, q180⟩ : ∃ zz : Int64, v179.toInt64 = zz := ⟨_, rfl⟩
    refine g_i2l hG X143 hx (hb hby at_180) (pc' := 181) rfl q180 ?_
    have b180 : 0 ≤ v180.toInt ∧ v180.toInt ≤ 65535 := by
      have a := c_and cc 65535 (by decide)
      rw [q179] at a
      have c : (65535 : Int32).toInt = 65535 := by decide
      have d : v180.toInt = v179.toInt := by rw [← q180]; exact c_i2l v179
      omega
    refine g_lstore hG X143 hx (hb hby at_181) (pc' := 183) rfl (Ls' := #[.val (.int aa), .val (.int bb), .val (.int cc), .val (.int dd), .val (.int sel), .val (.int 3), .val (.int v18), .val (.ref ar), .val (.ref b120), .val (.ref b128), .val (.ref dr), .val (.long v166), .second, .val (.long v173), .second, .val (.long v180), .second, .unset, .unset, .unset, .unset, .unset, .unset, .unset, .unset, .unset, .unset, .unset]) rfl ?_
    refine g_iloadN hG X143 hx (hb hby at_183) (pc' := 184) rfl rfl ?_
    refine g_ldcInt hG X143 hx hZ hown (wd hw 1 rfl) (hb hby at_184) (pc' := 186) rfl ?_
    obtain ⟨v186, q186⟩ : ∃ zz : Int32, dd &&& (65535 : Int32) = zz := ⟨_, rfl⟩
    refine g_iand hG X143 hx (hb hby at_186) (pc' := 187) rfl q186 ?_
    obtain ⟨v187, q187⟩ : ∃ zz : Int64, v186.toInt64 = zz := ⟨_, rfl⟩
    refine g_i2l hG X143 hx (hb hby at_187) (pc' := 188) rfl q187 ?_
    have b187 : 0 ≤ v187.toInt ∧ v187.toInt ≤ 65535 := by
      have a := c_and dd 65535 (by decide)
      rw [q186] at a
      have c : (65535 : Int32).toInt = 65535 := by decide
      have d : v187.toInt = v186.toInt := by rw [← q187]; exact c_i2l v186
      omega
    refine g_lstore hG X143 hx (hb hby at_188) (pc' := 190) rfl (Ls' := #[.val (.int aa), .val (.int bb), .val (.int cc), .val (.int dd), .val (.int sel), .val (.int 3), .val (.int v18), .val (.ref ar), .val (.ref b120), .val (.ref b128), .val (.ref dr), .val (.long v166), .second, .val (.long v173), .second, .val (.long v180), .second, .val (.long v187), .second, .unset, .unset, .unset, .unset, .unset, .unset, .unset, .unset, .unset]) rfl ?_
    refine g_newO hG X143 hx hZ hown (wd hw 2 rfl) (wd hw 3 rfl) (wd hw 4 rfl) e143 (hb hby at_190) (by decide) (by decide) (pc' := 193) rfl ?_
    intro T144 h144 b gs144 X144 e144 E144 Aq144 Dq144
    have ne_ar_b : ar ≠ b := Nat.ne_of_lt (gs144 ▸ V_ar.lt)
    have ne_b120_b : b120 ≠ b := Nat.ne_of_lt (gs144 ▸ V_b120.lt)
    have ne_b128_b : b128 ≠ b := Nat.ne_of_lt (gs144 ▸ V_b128.lt)
    have ne_dr_b : dr ≠ b := Nat.ne_of_lt (gs144 ▸ V_dr.lt)
    have ge_b : n0 ≤ b := gs144 ▸ Zs
    have Zs := Nat.le_trans Zs E144.1
    have V_ar := V_ar.ext E144
    have V_b120 := V_b120.ext E144
    have V_b128 := V_b128.ext E144
    have V_dr := V_dr.ext E144
    have Ex_b := Aq144
    have F_timeWeight_b : Fld Z h144 b "com/example/ganttwright/ganttwright/Objective" "timeWeight" "D" (.double 0) := Dq144 (Or.inr (wd hw 29 rfl)) (ty := .double) (by decide)
    have F_costWeight_b : Fld Z h144 b "com/example/ganttwright/ganttwright/Objective" "costWeight" "D" (.double 0) := Dq144 (Or.inr (wd hw 31 rfl)) (ty := .double) (by decide)
    refine g_dup hG X144 hx (hb hby at_193) (pc' := 194) rfl rfl ?_
    refine g_aload hG X144 hx (hb hby at_194) (pc' := 196) rfl rfl rfl ?_
    refine g_iload hG X144 hx (hb hby at_196) (pc' := 198) rfl rfl ?_
    refine g_iaload hG X144 hx hZ e144 V_ar (j := (3 : Int32)) (v := (.int 1)) (by decide) rfl (hb hby at_198) (pc' := 199) rfl ?_
    obtain ⟨v199, q199⟩ : ∃ zz : UInt64, FP.i2d (1 : Int32) = zz := ⟨_, rfl⟩
    refine g_i2d hG X144 hx (hb hby at_199) (pc' := 200) rfl q199 ?_
    refine g_aload hG X144 hx (hb hby at_200) (pc' := 202) rfl rfl rfl ?_
    refine g_iload hG X144 hx (hb hby at_202) (pc' := 204) rfl rfl ?_
    refine g_iaload hG X144 hx hZ e144 V_b120 (j := (3 : Int32)) (v := (.int 2)) (by decide) rfl (hb hby at_204) (pc' := 205) rfl ?_
    obtain ⟨v205, q205⟩ : ∃ zz : UInt64, FP.i2d (2 : Int32) = zz := ⟨_, rfl⟩
    refine g_i2d hG X144 hx (hb hby at_205) (pc' := 206) rfl q205 ?_
    obtain ⟨lg, hlg⟩ : ∃ z, Jvm.Native.java_lang_Math.nans.pick64 true v199 v205 = z := ⟨_, rfl⟩
    obtain ⟨t1, ht1⟩ : ∃ z, FP.ddiv v199 lg = z := ⟨_, rfl⟩
    obtain ⟨c1, hc1⟩ : ∃ z, FP.ddiv v205 lg = z := ⟨_, rfl⟩
    obtain ⟨f1, f2, g1, g2, g3, D1, D2⟩ := own_weights (x := 1) (y := 2) (g := 2) (p := 64) (q := 128) (by rw [← q199]; exact OwnFl.i2d_DV (1 : Int32) : OwnFl.DV v199 ((1 : Int) : Rat)) (by rw [← q205]; exact OwnFl.i2d_DV (2 : Int32) : OwnFl.DV v205 ((2 : Int) : Rat)) (by decide) (by decide) (Or.inl ⟨by decide, rfl⟩) (by decide) (by decide) (by decide) (by decide) (by decide) (by decide) (by decide) hlg ht1 hc1
    refine g_callI hG X144 hx hZ (y := (⟨"com/example/ganttwright/ganttwright/Objective", "<init>", "(DD)V"⟩ : MethodName)) 1 rfl hown (wd hw 5 rfl) (wd hw 6 rfl) (wd hw 4 rfl) (wd hw 7 rfl) (by decide) (rmObj l Z a0 hw [] b v199 v205 lg t1 c1 h144 n0 Zs ge_b f1 f2 g1 g2 g3 hlg ht1 hc1 D1.noNaN D2.noNaN Ex_b F_timeWeight_b F_costWeight_b) (by decide) (by decide) (by rw [hml]; rfl) pd_4 rfl (argsL := [(.double v199), (.double v205)]) (rest := [(.ref b)]) rfl rfl (Nat.le_of_eq rfl) (hb hby at_206) e144 (by decide) (by decide) (pc' := 209) rfl ?_
    intro T145 rv145 L145 X145 hQ145
    obtain ⟨rfl, Nq145, Kq145, Ex_b, F_timeWeight_b, F_costWeight_b⟩ := hQ145
    have NF145 := Fr.app NF143 Nq145
    have V_ar := V_ar.keep Kq145 (ninS ne_ar_b nin0)
    have V_b120 := V_b120.keep Kq145 (ninS ne_b120_b nin0)
    have V_b128 := V_b128.keep Kq145 (ninS ne_b128_b nin0)
    have V_dr := V_dr.keep Kq145 (ninS ne_dr_b nin0)
    have Zs := Nat.le_trans Zs Kq145.1
    show G (T145.setTop (mkF m 209 _ [(.ref b)]))
    refine g_astore hG X145 hx (hb hby at_209) (pc' := 211) rfl rfl (Ls' := #[.val (.int aa), .val (.int bb), .val (.int cc), .val (.int dd), .val (.int sel), .val (.int 3), .val (.int v18), .val (.ref ar), .val (.ref b120), .val (.ref b128), .val (.ref dr), .val (.long v166), .second, .val (.long v173), .second, .val (.long v180), .second, .val (.long v187), .second, .val (.ref b), .unset, .unset, .unset, .unset, .unset, .unset, .unset, .unset]) rfl ?_
    refine g_iload hG X145 hx (hb hby at_211) (pc' := 213) rfl rfl ?_
    obtain ⟨v213, q213⟩ : ∃ zz : UInt64, FP.i2d v18 = zz := ⟨_, rfl⟩
    refine g_i2d hG X145 hx (hb hby at_213) (pc' := 214) rfl q213 ?_
    refine g_ldcDouble hG X145 hx hZ hown (wd hw 32 rfl) (hb hby at_214) (pc' := 217) rfl ?_
    obtain ⟨v217, q217⟩ : ∃ zz : UInt64, FP.dmul v213 (4598175219545276416 : UInt64) = zz := ⟨_, rfl⟩
    have D217 : OwnFl.DV v217 (((v18.toInt : Int) : Rat) / 4) := by
      have b1 : (0 : Rat) ≤ (v18.toInt : Rat) := Rat.intCast_nonneg.mpr b18.1
      have b2 : (v18.toInt : Rat) ≤ 7 := by have := Rat.intCast_le_intCast.mpr b18.2; simpa using this
      have e : (v18.toInt : Rat) / 4 = (v18.toInt : Rat) * (1 / 4) := by rw [Rat.div_def, Rat.div_def, Rat.one_mul]
      have z := OwnFl.dmul_DV (OwnFl.i2d_DV v18) own_q (by grind) (by grind)
      rw [q213, q217, OwnFl.RR_exact ⟨v18.toInt, -2, by congr 1; decide +kernel, by omega, by decide⟩ (by grind) (by grind)] at z
      rw [e]; exact z
    refine g_dmul hG X145 hx (hb hby at_217) (pc' := 218) rfl (by rw [q217]; exact D217.noNaN) q217 ?_
    refine g_dstore hG X145 hx (hb hby at_218) (pc' := 220) rfl (Ls' := #[.val (.int aa), .val (.int bb), .val (.int cc), .val (.int dd), .val (.int sel), .val (.int 3), .val (.int v18), .val (.ref ar), .val (.ref b120), .val (.ref b128), .val (.ref dr), .val (.long v166), .second, .val (.long v173), .second, .val (.long v180), .second, .val (.long v187), .second, .val (.ref b), .val (.double v217), .second, .unset, .unset, .unset, .unset, .unset, .unset]) rfl ?_
    refine g_aload hG X145 hx (hb hby at_220) (pc' := 222) rfl rfl rfl ?_
    refine g_lload hG X145 hx (hb hby at_222) (pc' := 224) rfl rfl ?_
    obtain ⟨v224, q224⟩ : ∃ zz : UInt64, FP.l2d v166 = zz := ⟨_, rfl⟩
    refine g_l2d hG X145 hx (hb hby at_224) (pc' := 225) rfl q224 ?_
    refine g_lload hG X145 hx (hb hby at_225) (pc' := 227) rfl rfl ?_
    obtain ⟨v227, q227⟩ : ∃ zz : UInt64, FP.l2d v173 = zz := ⟨_, rfl⟩
    refine g_l2d hG X145 hx (hb hby at_227) (pc' := 228) rfl q227 ?_
    refine g_lload hG X145 hx (hb hby at_228) (pc' := 230) rfl rfl ?_
    obtain ⟨v230, q230⟩ : ∃ zz : UInt64, FP.l2d v180 = zz := ⟨_, rfl⟩
    refine g_l2d hG X145 hx (hb hby at_230) (pc' := 231) rfl q230 ?_
    refine g_lload hG X145 hx (hb hby at_231) (pc' := 233) rfl rfl ?_
    obtain ⟨v233, q233⟩ : ∃ zz : UInt64, FP.l2d v187 = zz := ⟨_, rfl⟩
    refine g_l2d hG X145 hx (hb hby at_233) (pc' := 234) rfl q233 ?_
    refine g_dload hG X145 hx (hb hby at_234) (pc' := 236) rfl rfl ?_
    obtain ⟨p1, hp1⟩ : ∃ z, FP.dmul t1 v224 = z := ⟨_, rfl⟩
    obtain ⟨p2, hp2⟩ : ∃ z, FP.dmul c1 v227 = z := ⟨_, rfl⟩
    obtain ⟨sc, hsc⟩ : ∃ z, FP.dadd p1 p2 = z := ⟨_, rfl⟩
    obtain ⟨p3, hp3⟩ : ∃ z, FP.dmul t1 v230 = z := ⟨_, rfl⟩
    obtain ⟨p4, hp4⟩ : ∃ z, FP.dmul c1 v233 = z := ⟨_, rfl⟩
    obtain ⟨sc2, hsc2⟩ : ∃ z, FP.dadd p3 p4 = z := ⟨_, rfl⟩
    obtain ⟨sm, hsm⟩ : ∃ z, FP.dmul v217 sc2 = z := ⟨_, rfl⟩
    obtain ⟨sk, hsk⟩ : ∃ z, FP.dmul v217 v230 = z := ⟨_, rfl⟩
    obtain ⟨lo, hlo⟩ : ∃ z, FP.dsub sc2 sm = z := ⟨_, rfl⟩
    obtain ⟨hi, hhi⟩ : ∃ z, FP.dadd sc2 sm = z := ⟨_, rfl⟩
    obtain ⟨lo2, hlo2⟩ : ∃ z, FP.dsub v230 sk = z := ⟨_, rfl⟩
    obtain ⟨hi2, hhi2⟩ : ∃ z, FP.dadd v230 sk = z := ⟨_, rfl⟩
    have D_v224 : OwnFl.DV v224 ((v166.toInt : Int) : Rat) := by rw [← q224]; exact OwnFl.l2d_DV (by omega)
    have D_v227 : OwnFl.DV v227 ((v173.toInt : Int) : Rat) := by rw [← q227]; exact OwnFl.l2d_DV (by omega)
    have D_v230 : OwnFl.DV v230 ((v180.toInt : Int) : Rat) := by rw [← q230]; exact OwnFl.l2d_DV (by omega)
    have D_v233 : OwnFl.DV v233 ((v187.toInt : Int) : Rat) := by rw [← q233]; exact OwnFl.l2d_DV (by omega)
    obtain ⟨S1_sc, S2_sc, S3_sc⟩ := own_score (p := 64) (q := 128) (by decide) (by decide) (by decide) (by decide) D1 D2 D_v224 D_v227 (by omega) (by omega) (by omega) (by omega)
    rw [hp1, hp2, hsc] at S3_sc
    rw [hp1] at S1_sc
    rw [hp2] at S2_sc
    obtain ⟨S1_sc2, S2_sc2, S3_sc2⟩ := own_score (p := 64) (q := 128) (by decide) (by decide) (by decide) (by decide) D1 D2 D_v230 D_v233 (by omega) (by omega) (by omega) (by omega)
    rw [hp3, hp4, hsc2] at S3_sc2
    rw [hp3] at S1_sc2
    rw [hp4] at S2_sc2
    have E_sc : OwnFl.DV sc (((4 * (2 * v166.toInt + 4 * v173.toInt) : Int) : Rat) / 16) := own_cast (m := 128) (n := 16) (by decide) (by decide) S3_sc (by omega)
    have E_sc2 : OwnFl.DV sc2 (((4 * (2 * v180.toInt + 4 * v187.toInt) : Int) : Rat) / 16) := own_cast (m := 128) (n := 16) (by decide) (by decide) S3_sc2 (by omega)
    have Q_sc2 : OwnFl.DV sc2 ((((2 * v180.toInt + 4 * v187.toInt) : Int) : Rat) / 4) := own_cast (m := 128) (n := 4) (by decide) (by decide) S3_sc2 (by omega)
    have bS2 : 0 ≤ (2 * v180.toInt + 4 * v187.toInt) ∧ (2 * v180.toInt + 4 * v187.toInt) ≤ 524280 := by omega
    obtain ⟨P, hP⟩ : ∃ z : Int, v18.toInt * (2 * v180.toInt + 4 * v187.toInt) = z := ⟨_, rfl⟩
    obtain ⟨R, hR⟩ : ∃ z : Int, v18.toInt * v180.toInt = z := ⟨_, rfl⟩
    have bP : 0 ≤ P ∧ P ≤ 3669960 := by
      have := mc (a := v18.toInt) (b := (2 * v180.toInt + 4 * v187.toInt)) (l1 := 0) (h1 := 7) (l2 := 0) (h2 := 524280) b18.1 b18.2 bS2.1 bS2.2
      rw [hP] at this
      omega
    have bR : 0 ≤ R ∧ R ≤ 458745 := by
      have := mc (a := v18.toInt) (b := v180.toInt) (l1 := 0) (h1 := 7) (l2 := 0) (h2 := 65535) b18.1 b18.2 b180.1 b180.2
      rw [hR] at this
      omega
    have D_sm := own_mul D217 Q_sc2 (by rw [hP]; omega) (by rw [hP]; omega)
    rw [hsm, hP] at D_sm
    have D_sk := own_mul D217 (own_one D_v230).2 (by rw [show v18.toInt * (4 * v180.toInt) = 4 * (v18.toInt * v180.toInt) from Int.mul_left_comm _ _ _, hR]; omega) (by rw [show v18.toInt * (4 * v180.toInt) = 4 * (v18.toInt * v180.toInt) from Int.mul_left_comm _ _ _, hR]; omega)
    rw [hsk, show v18.toInt * (4 * v180.toInt) = 4 * (v18.toInt * v180.toInt) from Int.mul_left_comm _ _ _, hR] at D_sk
    have D_lo := own_sub E_sc2 D_sm (by omega) (by omega)
    rw [hlo] at D_lo
    have D_hi := own_add E_sc2 D_sm (by omega) (by omega)
    rw [hhi] at D_hi
    have D_lo2 := own_sub (own_one D_v230).1 D_sk (by omega) (by omega)
    rw [hlo2, show 16 * v180.toInt - 4 * R = 4 * (4 * v180.toInt - R) by omega] at D_lo2
    have D_hi2 := own_add (own_one D_v230).1 D_sk (by omega) (by omega)
    rw [hhi2, show 16 * v180.toInt + 4 * R = 4 * (4 * v180.toInt + R) by omega] at D_hi2
    obtain ⟨rs, hrs⟩ : ∃ z : Int32, z = (if 4 * (2 * v166.toInt + 4 * v173.toInt) < 4 * (2 * v180.toInt + 4 * v187.toInt) - P ∨ 4 * (2 * v180.toInt + 4 * v187.toInt) + P < 4 * (2 * v166.toInt + 4 * v173.toInt) then (if (2 * v166.toInt + 4 * v173.toInt) < (2 * v180.toInt + 4 * v187.toInt) then (1 : Int32) else 0) else if 4 * v166.toInt < 4 * v180.toInt - R ∨ 4 * v180.toInt + R < 4 * v166.toInt then (if v166.toInt < v180.toInt then (1 : Int32) else 0) else if v173.toInt < v187.toInt then (1 : Int32) else 0) := ⟨_, rfl⟩
    refine g_callV hG X145 hx hZ (y := (⟨"com/example/ganttwright/ganttwright/Objective", "better", "(DDDDD)Z"⟩ : MethodName)) 0 hown (wd hw 33 rfl) (wd hw 34 rfl) (wd hw 36 rfl) (wd hw 35 rfl) (wd hw 4 rfl) (wd hw 37 rfl) (by decide) (rmBet l Z a0 hw [] b t1 c1 v224 v227 v230 v233 v217 p1 p2 sc p3 p4 sc2 sm sk lo hi lo2 hi2 (2 * v166.toInt + 4 * v173.toInt) (2 * v180.toInt + 4 * v187.toInt) P v166.toInt v180.toInt R v173.toInt v187.toInt rs T145.heap n0 Zs hp1 hp2 hsc hp3 hp4 hsc2 hsm hsk hlo hhi hlo2 hhi2 S1_sc.noNaN S2_sc.noNaN S1_sc2.noNaN S2_sc2.noNaN D_sm.noNaN D_sk.noNaN E_sc E_sc2 D_lo D_hi (own_one D_v224).1 (own_one D_v230).1 D_lo2 D_hi2 (own_one D_v227).1 (own_one D_v233).1 hrs Ex_b F_timeWeight_b F_costWeight_b) (by decide) (by decide) (by rw [hml]; rfl) pd_5 rfl (argsL := [(.double v224), (.double v227), (.double v230), (.double v233), (.double v217)]) (rest := []) rfl rfl (Nat.le_of_eq rfl) (hb hby at_236) rfl Ex_b (by decide) (by decide) (pc' := 239) rfl ?_
    intro T146 rv146 L146 X146 hQ146
    obtain ⟨rfl, Nq146, eh146⟩ := hQ146
    have NF146 := Fr.app NF145 Nq146
    show G (T146.setTop (mkF m 239 _ [(.int rs)]))
    refine g_istore hG X146 hx (hb hby at_239) (pc' := 241) rfl (Ls' := #[.val (.int aa), .val (.int bb), .val (.int cc), .val (.int dd), .val (.int sel), .val (.int 3), .val (.int v18), .val (.ref ar), .val (.ref b120), .val (.ref b128), .val (.ref dr), .val (.long v166), .second, .val (.long v173), .second, .val (.long v180), .second, .val (.long v187), .second, .val (.ref b), .val (.double v217), .second, .val (.int rs), .unset, .unset, .unset, .unset, .unset]) rfl ?_
    refine g_aload hG X146 hx (hb hby at_241) (pc' := 243) rfl rfl rfl ?_
    refine g_iload hG X146 hx (hb hby at_243) (pc' := 245) rfl rfl ?_
    refine g_iaload hG X146 hx hZ eh146 V_b128 (j := (3 : Int32)) (v := (.int 2)) (by decide) rfl (hb hby at_245) (pc' := 246) rfl ?_
    refine g_i2l hG X146 hx (hb hby at_246) (pc' := 247) rfl (v := (2 : Int64)) (by decide) ?_
    refine g_lload hG X146 hx (hb hby at_247) (pc' := 249) rfl rfl ?_
    obtain ⟨v249, q249⟩ : ∃ zz : Int64, (2 : Int64) * v166 = zz := ⟨_, rfl⟩
    refine g_lmul hG X146 hx (hb hby at_249) (pc' := 250) rfl q249 ?_
    refine g_aload hG X146 hx (hb hby at_250) (pc' := 252) rfl rfl rfl ?_
    refine g_iload hG X146 hx (hb hby at_252) (pc' := 254) rfl rfl ?_
    refine g_iaload hG X146 hx hZ eh146 V_dr (j := (3 : Int32)) (v := (.int 4)) (by decide) rfl (hb hby at_254) (pc' := 255) rfl ?_
    refine g_i2l hG X146 hx (hb hby at_255) (pc' := 256) rfl (v := (4 : Int64)) (by decide) ?_
    refine g_lload hG X146 hx (hb hby at_256) (pc' := 258) rfl rfl ?_
    obtain ⟨v258, q258⟩ : ∃ zz : Int64, (4 : Int64) * v173 = zz := ⟨_, rfl⟩
    refine g_lmul hG X146 hx (hb hby at_258) (pc' := 259) rfl q258 ?_
    obtain ⟨v259, q259⟩ : ∃ zz : Int64, v249 + v258 = zz := ⟨_, rfl⟩
    refine g_ladd hG X146 hx (hb hby at_259) (pc' := 260) rfl q259 ?_
    have e259 : v259.toInt = 2 * v166.toInt + 4 * v173.toInt := by
      have a1 := c_lmul (2 : Int64) v166
      have a2 := c_lmul (4 : Int64) v173
      have c1 : (2 : Int64).toInt = 2 := by decide
      have c2 : (4 : Int64).toInt = 4 := by decide
      rw [q249, c1] at a1
      rw [q258, c2] at a2
      have a3 := c_ladd v249 v258
      rw [q259] at a3
      have a4 := rng64 v249
      have a5 := rng64 v258
      have a6 := rng64 v259
      omega
    refine g_lstore hG X146 hx (hb hby at_260) (pc' := 262) rfl (Ls' := #[.val (.int aa), .val (.int bb), .val (.int cc), .val (.int dd), .val (.int sel), .val (.int 3), .val (.int v18), .val (.ref ar), .val (.ref b120), .val (.ref b128), .val (.ref dr), .val (.long v166), .second, .val (.long v173), .second, .val (.long v180), .second, .val (.long v187), .second, .val (.ref b), .val (.double v217), .second, .val (.int rs), .val (.long v259), .second, .unset, .unset, .unset]) rfl ?_
    refine g_aload hG X146 hx (hb hby at_262) (pc' := 264) rfl rfl rfl ?_
    refine g_iload hG X146 hx (hb hby at_264) (pc' := 266) rfl rfl ?_
    refine g_iaload hG X146 hx hZ eh146 V_b128 (j := (3 : Int32)) (v := (.int 2)) (by decide) rfl (hb hby at_266) (pc' := 267) rfl ?_
    refine g_i2l hG X146 hx (hb hby at_267) (pc' := 268) rfl (v := (2 : Int64)) (by decide) ?_
    refine g_lload hG X146 hx (hb hby at_268) (pc' := 270) rfl rfl ?_
    obtain ⟨v270, q270⟩ : ∃ zz : Int64, (2 : Int64) * v180 = zz := ⟨_, rfl⟩
    refine g_lmul hG X146 hx (hb hby at_270) (pc' := 271) rfl q270 ?_
    refine g_aload hG X146 hx (hb hby at_271) (pc' := 273) rfl rfl rfl ?_
    refine g_iload hG X146 hx (hb hby at_273) (pc' := 275) rfl rfl ?_
    refine g_iaload hG X146 hx hZ eh146 V_dr (j := (3 : Int32)) (v := (.int 4)) (by decide) rfl (hb hby at_275) (pc' := 276) rfl ?_
    refine g_i2l hG X146 hx (hb hby at_276) (pc' := 277) rfl (v := (4 : Int64)) (by decide) ?_
    refine g_lload hG X146 hx (hb hby at_277) (pc' := 279) rfl rfl ?_
    obtain ⟨v279, q279⟩ : ∃ zz : Int64, (4 : Int64) * v187 = zz := ⟨_, rfl⟩
    refine g_lmul hG X146 hx (hb hby at_279) (pc' := 280) rfl q279 ?_
    obtain ⟨v280, q280⟩ : ∃ zz : Int64, v270 + v279 = zz := ⟨_, rfl⟩
    refine g_ladd hG X146 hx (hb hby at_280) (pc' := 281) rfl q280 ?_
    have e280 : v280.toInt = 2 * v180.toInt + 4 * v187.toInt := by
      have a1 := c_lmul (2 : Int64) v180
      have a2 := c_lmul (4 : Int64) v187
      have c1 : (2 : Int64).toInt = 2 := by decide
      have c2 : (4 : Int64).toInt = 4 := by decide
      rw [q270, c1] at a1
      rw [q279, c2] at a2
      have a3 := c_ladd v270 v279
      rw [q280] at a3
      have a4 := rng64 v270
      have a5 := rng64 v279
      have a6 := rng64 v280
      omega
    refine g_lstore hG X146 hx (hb hby at_281) (pc' := 283) rfl (Ls' := #[.val (.int aa), .val (.int bb), .val (.int cc), .val (.int dd), .val (.int sel), .val (.int 3), .val (.int v18), .val (.ref ar), .val (.ref b120), .val (.ref b128), .val (.ref dr), .val (.long v166), .second, .val (.long v173), .second, .val (.long v180), .second, .val (.long v187), .second, .val (.ref b), .val (.double v217), .second, .val (.int rs), .val (.long v259), .second, .val (.long v280), .second, .unset]) rfl ?_
    refine g_ldcLong hG X146 hx hZ hown (wd hw 43 rfl) (hb hby at_283) (pc' := 286) rfl ?_
    refine g_lload hG X146 hx (hb hby at_286) (pc' := 288) rfl rfl ?_
    refine g_lload hG X146 hx (hb hby at_288) (pc' := 290) rfl rfl ?_
    obtain ⟨v290, q290⟩ : ∃ zz : Int64, v259 - v280 = zz := ⟨_, rfl⟩
    refine g_lsub hG X146 hx (hb hby at_290) (pc' := 291) rfl q290 ?_
    obtain ⟨ab291, hab291⟩ : ∃ z : Int64, (if v290 < 0 then -v290 else v290) = z := ⟨_, rfl⟩
    have e_ab291 : (ab291.toInt = v259.toInt - v280.toInt ∧ v280.toInt ≤ v259.toInt) ∨ (ab291.toInt = v280.toInt - v259.toInt ∧ v259.toInt ≤ v280.toInt) := by
      have a := c_lsub v259 v280
      rw [q290] at a
      have b := rng64 v290
      have c := c_lneg v290
      have d := rng64 (-v290)
      have z : (0 : Int64).toInt = 0 := by decide
      by_cases g : v290 < 0
      · rw [← hab291, if_pos g]
        rw [Int64.lt_iff_toInt_lt, z] at g
        omega
      · rw [← hab291, if_neg g]
        rw [Int64.lt_iff_toInt_lt, z] at g
        omega
    refine g_callS hG X146 hx hZ (y := (⟨"java/lang/Math", "abs", "(J)J"⟩ : MethodName)) 2 hown (wd hw 44 rfl) (wd hw 45 rfl) (wd hw 22 rfl) (wd hw 46 rfl) (by decide) (rmAbs l Z a0 hw [] v290 T145.heap n0 Zs) (by decide) (by decide) (by rw [hml]; rfl) pd_6 rfl (argsL := [(.long v290)]) (rest := [(.long 4)]) rfl rfl (Nat.le_of_eq rfl) (hb hby at_291) eh146 (by decide) (by decide) (pc' := 294) rfl ?_
    intro T147 rv147 L147 X147 hQ147
    obtain ⟨rfl, Nq147, eh147⟩ := hQ147
    have NF147 := Fr.app NF146 Nq147
    rw [hab291]
    show G (T147.setTop (mkF m 294 _ [(.long ab291), (.long 4)]))
    obtain ⟨v294, q294⟩ : ∃ zz : Int64, (4 : Int64) * ab291 = zz := ⟨_, rfl⟩
    refine g_lmul hG X147 hx (hb hby at_294) (pc' := 295) rfl q294 ?_
    refine g_iload hG X147 hx (hb hby at_295) (pc' := 297) rfl rfl ?_
    obtain ⟨v297, q297⟩ : ∃ zz : Int64, v18.toInt64 = zz := ⟨_, rfl⟩
    refine g_i2l hG X147 hx (hb hby at_297) (pc' := 298) rfl q297 ?_
    refine g_lload hG X147 hx (hb hby at_298) (pc' := 300) rfl rfl ?_
    obtain ⟨v300, q300⟩ : ∃ zz : Int64, v297 * v280 = zz := ⟨_, rfl⟩
    refine g_lmul hG X147 hx (hb hby at_300) (pc' := 301) rfl q300 ?_
    have k294 : v294.toInt = 4 * ab291.toInt := by
      have a := c_lmul (4 : Int64) ab291
      have c : (4 : Int64).toInt = 4 := by decide
      rw [q294, c] at a
      have b := rng64 v294
      omega
    have k300 : v300.toInt = P := by
      have a := c_lmul v297 v280
      have c : v297.toInt = v18.toInt := by rw [← q297]; exact c_i2l v18
      rw [q300, c, e280, hP] at a
      have b := rng64 v300
      omega
    obtain ⟨v301, q301⟩ : ∃ zz : Int32, lcmpW v294 v300 = zz := ⟨_, rfl⟩
    refine g_lcmp hG X147 hx (hb hby at_301) (pc' := 302) rfl q301 ?_
    by_cases hc302 : (0 : Int32) < v301
    · refine g_ifNo hG X147 hx (hb hby at_302) (pc' := 305) ((if0 _ _).trans (tlt hc302).2.2.2) rfl ?_
      refine g_lload hG X147 hx (hb hby at_305) (pc' := 307) rfl rfl ?_
      refine g_lload hG X147 hx (hb hby at_307) (pc' := 309) rfl rfl ?_
      obtain ⟨v309, q309⟩ : ∃ zz : Int32, lcmpW v259 v280 = zz := ⟨_, rfl⟩
      refine g_lcmp hG X147 hx (hb hby at_309) (pc' := 310) rfl q309 ?_
      by_cases hc310 : v309 < (0 : Int32)
      · refine g_ifNo hG X147 hx (hb hby at_310) (pc' := 313) ((if0 _ _).trans (tlt hc310).2.1) rfl ?_
        refine g_iconst hG X147 hx (hb hby at_313) (pc' := 314) rfl (v := (1 : Int32)) rfl ?_
        refine g_goto hG X147 hx (hb hby at_314) (pc' := 318) (by decide) (by decide) ?_
        refine g_istore hG X147 hx (hb hby at_318) (pc' := 320) rfl (Ls' := #[.val (.int aa), .val (.int bb), .val (.int cc), .val (.int dd), .val (.int sel), .val (.int 3), .val (.int v18), .val (.ref ar), .val (.ref b120), .val (.ref b128), .val (.ref dr), .val (.long v166), .second, .val (.long v173), .second, .val (.long v180), .second, .val (.long v187), .second, .val (.ref b), .val (.double v217), .second, .val (.int rs), .val (.long v259), .second, .val (.long v280), .second, .val (.int 1)]) rfl ?_
        refine g_goto hG X147 hx (hb hby at_320) (pc' := 378) (by decide) (by decide) ?_
        refine g_iload hG X147 hx (hb hby at_378) (pc' := 380) rfl rfl ?_
        refine g_iload hG X147 hx (hb hby at_380) (pc' := 382) rfl rfl ?_
        have g302 : v300.toInt < v294.toInt := Int64.lt_iff_toInt_lt.mp ((lw_gt _ _).mp (by rw [q301]; exact hc302))
        have g310 : v259.toInt < v280.toInt := Int64.lt_iff_toInt_lt.mp ((lw_lt _ _).mp (by rw [q309]; exact hc310))
        have ers : rs = (1 : Int32) := by rw [hrs, if_pos (by omega), if_pos (by omega)]
        refine g_icmpNo hG X147 hx (hb hby at_382) (pc' := 385) ((teq ers).2) rfl ?_
        refine g_iconst hG X147 hx (hb hby at_385) (pc' := 386) rfl (v := (1 : Int32)) rfl ?_
        refine g_goto hG X147 hx (hb hby at_386) (pc' := 390) (by decide) (by decide) ?_
        exact e_retZ hGe X147 hx hrt hlk (hb hby at_390) (Or.inr rfl) eh147 (by decide) (by decide) (⟨rfl, NF147⟩)
      · refine g_ifYes hG X147 hx (hb hby at_310) (pc' := 317) ((if0 _ _).trans (flt hc310).2.1) (by decide) (by decide) ?_
        refine g_iconst hG X147 hx (hb hby at_317) (pc' := 318) rfl (v := (0 : Int32)) rfl ?_
        refine g_istore hG X147 hx (hb hby at_318) (pc' := 320) rfl (Ls' := #[.val (.int aa), .val (.int bb), .val (.int cc), .val (.int dd), .val (.int sel), .val (.int 3), .val (.int v18), .val (.ref ar), .val (.ref b120), .val (.ref b128), .val (.ref dr), .val (.long v166), .second, .val (.long v173), .second, .val (.long v180), .second, .val (.long v187), .second, .val (.ref b), .val (.double v217), .second, .val (.int rs), .val (.long v259), .second, .val (.long v280), .second, .val (.int 0)]) rfl ?_
        refine g_goto hG X147 hx (hb hby at_320) (pc' := 378) (by decide) (by decide) ?_
        refine g_iload hG X147 hx (hb hby at_378) (pc' := 380) rfl rfl ?_
        refine g_iload hG X147 hx (hb hby at_380) (pc' := 382) rfl rfl ?_
        have g302 : v300.toInt < v294.toInt := Int64.lt_iff_toInt_lt.mp ((lw_gt _ _).mp (by rw [q301]; exact hc302))
        have g310 : ¬ v259.toInt < v280.toInt := fun g => hc310 (by rw [← q309]; exact (lw_lt _ _).mpr (Int64.lt_iff_toInt_lt.mpr g))
        have ers : rs = (0 : Int32) := by rw [hrs, if_pos (by omega), if_neg (by omega)]
        refine g_icmpNo hG X147 hx (hb hby at_382) (pc' := 385) ((teq ers).2) rfl ?_
        refine g_iconst hG X147 hx (hb hby at_385) (pc' := 386) rfl (v := (1 : Int32)) rfl ?_
        refine g_goto hG X147 hx (hb hby at_386) (pc' := 390) (by decide) (by decide) ?_
        exact e_retZ hGe X147 hx hrt hlk (hb hby at_390) (Or.inr rfl) eh147 (by decide) (by decide) (⟨rfl, NF147⟩)
    · refine g_ifYes hG X147 hx (hb hby at_302) (pc' := 323) ((if0 _ _).trans (flt hc302).2.2.2) (by decide) (by decide) ?_
      refine g_ldcLong hG X147 hx hZ hown (wd hw 43 rfl) (hb hby at_323) (pc' := 326) rfl ?_
      refine g_lload hG X147 hx (hb hby at_326) (pc' := 328) rfl rfl ?_
      refine g_lload hG X147 hx (hb hby at_328) (pc' := 330) rfl rfl ?_
      obtain ⟨v330, q330⟩ : ∃ zz : Int64, v166 - v180 = zz := ⟨_, rfl⟩
      refine g_lsub hG X147 hx (hb hby at_330) (pc' := 331) rfl q330 ?_
      obtain ⟨ab331, hab331⟩ : ∃ z : Int64, (if v330 < 0 then -v330 else v330) = z := ⟨_, rfl⟩
      have e_ab331 : (ab331.toInt = v166.toInt - v180.toInt ∧ v180.toInt ≤ v166.toInt) ∨ (ab331.toInt = v180.toInt - v166.toInt ∧ v166.toInt ≤ v180.toInt) := by
        have a := c_lsub v166 v180
        rw [q330] at a
        have b := rng64 v330
        have c := c_lneg v330
        have d := rng64 (-v330)
        have z : (0 : Int64).toInt = 0 := by decide
        by_cases g : v330 < 0
        · rw [← hab331, if_pos g]
          rw [Int64.lt_iff_toInt_lt, z] at g
          omega
        · rw [← hab331, if_neg g]
          rw [Int64.lt_iff_toInt_lt, z] at g
          omega
      refine g_callS hG X147 hx hZ (y := (⟨"java/lang/Math", "abs", "(J)J"⟩ : MethodName)) 2 hown (wd hw 44 rfl) (wd hw 45 rfl) (wd hw 22 rfl) (wd hw 46 rfl) (by decide) (rmAbs l Z a0 hw [] v330 T145.heap n0 Zs) (by decide) (by decide) (by rw [hml]; rfl) pd_6 rfl (argsL := [(.long v330)]) (rest := [(.long 4)]) rfl rfl (Nat.le_of_eq rfl) (hb hby at_331) eh147 (by decide) (by decide) (pc' := 334) rfl ?_
      intro T148 rv148 L148 X148 hQ148
      obtain ⟨rfl, Nq148, eh148⟩ := hQ148
      have NF148 := Fr.app NF147 Nq148
      rw [hab331]
      show G (T148.setTop (mkF m 334 _ [(.long ab331), (.long 4)]))
      obtain ⟨v334, q334⟩ : ∃ zz : Int64, (4 : Int64) * ab331 = zz := ⟨_, rfl⟩
      refine g_lmul hG X148 hx (hb hby at_334) (pc' := 335) rfl q334 ?_
      refine g_iload hG X148 hx (hb hby at_335) (pc' := 337) rfl rfl ?_
      obtain ⟨v337, q337⟩ : ∃ zz : Int64, v18.toInt64 = zz := ⟨_, rfl⟩
      refine g_i2l hG X148 hx (hb hby at_337) (pc' := 338) rfl q337 ?_
      refine g_lload hG X148 hx (hb hby at_338) (pc' := 340) rfl rfl ?_
      obtain ⟨v340, q340⟩ : ∃ zz : Int64, v337 * v180 = zz := ⟨_, rfl⟩
      refine g_lmul hG X148 hx (hb hby at_340) (pc' := 341) rfl q340 ?_
      have k334 : v334.toInt = 4 * ab331.toInt := by
        have a := c_lmul (4 : Int64) ab331
        have c : (4 : Int64).toInt = 4 := by decide
        rw [q334, c] at a
        have b := rng64 v334
        omega
      have k340 : v340.toInt = R := by
        have a := c_lmul v337 v180
        have c : v337.toInt = v18.toInt := by rw [← q337]; exact c_i2l v18
        rw [q340, c, hR] at a
        have b := rng64 v340
        omega
      obtain ⟨v341, q341⟩ : ∃ zz : Int32, lcmpW v334 v340 = zz := ⟨_, rfl⟩
      refine g_lcmp hG X148 hx (hb hby at_341) (pc' := 342) rfl q341 ?_
      by_cases hc342 : (0 : Int32) < v341
      · refine g_ifNo hG X148 hx (hb hby at_342) (pc' := 345) ((if0 _ _).trans (tlt hc342).2.2.2) rfl ?_
        refine g_lload hG X148 hx (hb hby at_345) (pc' := 347) rfl rfl ?_
        refine g_lload hG X148 hx (hb hby at_347) (pc' := 349) rfl rfl ?_
        obtain ⟨v349, q349⟩ : ∃ zz : Int32, lcmpW v166 v180 = zz := ⟨_, rfl⟩
        refine g_lcmp hG X148 hx (hb hby at_349) (pc' := 350) rfl q349 ?_
        by_cases hc350 : v349 < (0 : Int32)
        · refine g_ifNo hG X148 hx (hb hby at_350) (pc' := 353) ((if0 _ _).trans (tlt hc350).2.1) rfl ?_
          refine g_iconst hG X148 hx (hb hby at_353) (pc' := 354) rfl (v := (1 : Int32)) rfl ?_
          refine g_goto hG X148 hx (hb hby at_354) (pc' := 358) (by decide) (by decide) ?_
          refine g_istore hG X148 hx (hb hby at_358) (pc' := 360) rfl (Ls' := #[.val (.int aa), .val (.int bb), .val (.int cc), .val (.int dd), .val (.int sel), .val (.int 3), .val (.int v18), .val (.ref ar), .val (.ref b120), .val (.ref b128), .val (.ref dr), .val (.long v166), .second, .val (.long v173), .second, .val (.long v180), .second, .val (.long v187), .second, .val (.ref b), .val (.double v217), .second, .val (.int rs), .val (.long v259), .second, .val (.long v280), .second, .val (.int 1)]) rfl ?_
          refine g_goto hG X148 hx (hb hby at_360) (pc' := 378) (by decide) (by decide) ?_
          refine g_iload hG X148 hx (hb hby at_378) (pc' := 380) rfl rfl ?_
          refine g_iload hG X148 hx (hb hby at_380) (pc' := 382) rfl rfl ?_
          have g302 : ¬ v300.toInt < v294.toInt := fun g => hc302 (by rw [← q301]; exact (lw_gt _ _).mpr (Int64.lt_iff_toInt_lt.mpr g))
          have g342 : v340.toInt < v334.toInt := Int64.lt_iff_toInt_lt.mp ((lw_gt _ _).mp (by rw [q341]; exact hc342))
          have g350 : v166.toInt < v180.toInt := Int64.lt_iff_toInt_lt.mp ((lw_lt _ _).mp (by rw [q349]; exact hc350))
          have ers : rs = (1 : Int32) := by rw [hrs, if_neg (by omega), if_pos (by omega), if_pos (by omega)]
          refine g_icmpNo hG X148 hx (hb hby at_382) (pc' := 385) ((teq ers).2) rfl ?_
          refine g_iconst hG X148 hx (hb hby at_385) (pc' := 386) rfl (v := (1 : Int32)) rfl ?_
          refine g_goto hG X148 hx (hb hby at_386) (pc' := 390) (by decide) (by decide) ?_
          exact e_retZ hGe X148 hx hrt hlk (hb hby at_390) (Or.inr rfl) eh148 (by decide) (by decide) (⟨rfl, NF148⟩)
        · refine g_ifYes hG X148 hx (hb hby at_350) (pc' := 357) ((if0 _ _).trans (flt hc350).2.1) (by decide) (by decide) ?_
          refine g_iconst hG X148 hx (hb hby at_357) (pc' := 358) rfl (v := (0 : Int32)) rfl ?_
          refine g_istore hG X148 hx (hb hby at_358) (pc' := 360) rfl (Ls' := #[.val (.int aa), .val (.int bb), .val (.int cc), .val (.int dd), .val (.int sel), .val (.int 3), .val (.int v18), .val (.ref ar), .val (.ref b120), .val (.ref b128), .val (.ref dr), .val (.long v166), .second, .val (.long v173), .second, .val (.long v180), .second, .val (.long v187), .second, .val (.ref b), .val (.double v217), .second, .val (.int rs), .val (.long v259), .second, .val (.long v280), .second, .val (.int 0)]) rfl ?_
          refine g_goto hG X148 hx (hb hby at_360) (pc' := 378) (by decide) (by decide) ?_
          refine g_iload hG X148 hx (hb hby at_378) (pc' := 380) rfl rfl ?_
          refine g_iload hG X148 hx (hb hby at_380) (pc' := 382) rfl rfl ?_
          have g302 : ¬ v300.toInt < v294.toInt := fun g => hc302 (by rw [← q301]; exact (lw_gt _ _).mpr (Int64.lt_iff_toInt_lt.mpr g))
          have g342 : v340.toInt < v334.toInt := Int64.lt_iff_toInt_lt.mp ((lw_gt _ _).mp (by rw [q341]; exact hc342))
          have g350 : ¬ v166.toInt < v180.toInt := fun g => hc350 (by rw [← q349]; exact (lw_lt _ _).mpr (Int64.lt_iff_toInt_lt.mpr g))
          have ers : rs = (0 : Int32) := by rw [hrs, if_neg (by omega), if_pos (by omega), if_neg (by omega)]
          refine g_icmpNo hG X148 hx (hb hby at_382) (pc' := 385) ((teq ers).2) rfl ?_
          refine g_iconst hG X148 hx (hb hby at_385) (pc' := 386) rfl (v := (1 : Int32)) rfl ?_
          refine g_goto hG X148 hx (hb hby at_386) (pc' := 390) (by decide) (by decide) ?_
          exact e_retZ hGe X148 hx hrt hlk (hb hby at_390) (Or.inr rfl) eh148 (by decide) (by decide) (⟨rfl, NF148⟩)
      · refine g_ifYes hG X148 hx (hb hby at_342) (pc' := 363) ((if0 _ _).trans (flt hc342).2.2.2) (by decide) (by decide) ?_
        refine g_lload hG X148 hx (hb hby at_363) (pc' := 365) rfl rfl ?_
        refine g_lload hG X148 hx (hb hby at_365) (pc' := 367) rfl rfl ?_
        obtain ⟨v367, q367⟩ : ∃ zz : Int32, lcmpW v173 v187 = zz := ⟨_, rfl⟩
        refine g_lcmp hG X148 hx (hb hby at_367) (pc' := 368) rfl q367 ?_
        by_cases hc368 : v367 < (0 : Int32)
        · refine g_ifNo hG X148 hx (hb hby at_368) (pc' := 371) ((if0 _ _).trans (tlt hc368).2.1) rfl ?_
          refine g_iconst hG X148 hx (hb hby at_371) (pc' := 372) rfl (v := (1 : Int32)) rfl ?_
          refine g_goto hG X148 hx (hb hby at_372) (pc' := 376) (by decide) (by decide) ?_
          refine g_istore hG X148 hx (hb hby at_376) (pc' := 378) rfl (Ls' := #[.val (.int aa), .val (.int bb), .val (.int cc), .val (.int dd), .val (.int sel), .val (.int 3), .val (.int v18), .val (.ref ar), .val (.ref b120), .val (.ref b128), .val (.ref dr), .val (.long v166), .second, .val (.long v173), .second, .val (.long v180), .second, .val (.long v187), .second, .val (.ref b), .val (.double v217), .second, .val (.int rs), .val (.long v259), .second, .val (.long v280), .second, .val (.int 1)]) rfl ?_
          refine g_iload hG X148 hx (hb hby at_378) (pc' := 380) rfl rfl ?_
          refine g_iload hG X148 hx (hb hby at_380) (pc' := 382) rfl rfl ?_
          have g302 : ¬ v300.toInt < v294.toInt := fun g => hc302 (by rw [← q301]; exact (lw_gt _ _).mpr (Int64.lt_iff_toInt_lt.mpr g))
          have g342 : ¬ v340.toInt < v334.toInt := fun g => hc342 (by rw [← q341]; exact (lw_gt _ _).mpr (Int64.lt_iff_toInt_lt.mpr g))
          have g368 : v173.toInt < v187.toInt := Int64.lt_iff_toInt_lt.mp ((lw_lt _ _).mp (by rw [q367]; exact hc368))
          have ers : rs = (1 : Int32) := by rw [hrs, if_neg (by omega), if_neg (by omega), if_pos (by omega)]
          refine g_icmpNo hG X148 hx (hb hby at_382) (pc' := 385) ((teq ers).2) rfl ?_
          refine g_iconst hG X148 hx (hb hby at_385) (pc' := 386) rfl (v := (1 : Int32)) rfl ?_
          refine g_goto hG X148 hx (hb hby at_386) (pc' := 390) (by decide) (by decide) ?_
          exact e_retZ hGe X148 hx hrt hlk (hb hby at_390) (Or.inr rfl) eh148 (by decide) (by decide) (⟨rfl, NF148⟩)
        · refine g_ifYes hG X148 hx (hb hby at_368) (pc' := 375) ((if0 _ _).trans (flt hc368).2.1) (by decide) (by decide) ?_
          refine g_iconst hG X148 hx (hb hby at_375) (pc' := 376) rfl (v := (0 : Int32)) rfl ?_
          refine g_istore hG X148 hx (hb hby at_376) (pc' := 378) rfl (Ls' := #[.val (.int aa), .val (.int bb), .val (.int cc), .val (.int dd), .val (.int sel), .val (.int 3), .val (.int v18), .val (.ref ar), .val (.ref b120), .val (.ref b128), .val (.ref dr), .val (.long v166), .second, .val (.long v173), .second, .val (.long v180), .second, .val (.long v187), .second, .val (.ref b), .val (.double v217), .second, .val (.int rs), .val (.long v259), .second, .val (.long v280), .second, .val (.int 0)]) rfl ?_
          refine g_iload hG X148 hx (hb hby at_378) (pc' := 380) rfl rfl ?_
          refine g_iload hG X148 hx (hb hby at_380) (pc' := 382) rfl rfl ?_
          have g302 : ¬ v300.toInt < v294.toInt := fun g => hc302 (by rw [← q301]; exact (lw_gt _ _).mpr (Int64.lt_iff_toInt_lt.mpr g))
          have g342 : ¬ v340.toInt < v334.toInt := fun g => hc342 (by rw [← q341]; exact (lw_gt _ _).mpr (Int64.lt_iff_toInt_lt.mpr g))
          have g368 : ¬ v173.toInt < v187.toInt := fun g => hc368 (by rw [← q367]; exact (lw_lt _ _).mpr (Int64.lt_iff_toInt_lt.mpr g))
          have ers : rs = (0 : Int32) := by rw [hrs, if_neg (by omega), if_neg (by omega), if_neg (by omega)]
          refine g_icmpNo hG X148 hx (hb hby at_382) (pc' := 385) ((teq ers).2) rfl ?_
          refine g_iconst hG X148 hx (hb hby at_385) (pc' := 386) rfl (v := (1 : Int32)) rfl ?_
          refine g_goto hG X148 hx (hb hby at_386) (pc' := 390) (by decide) (by decide) ?_
          exact e_retZ hGe X148 hx hrt hlk (hb hby at_390) (Or.inr rfl) eh148 (by decide) (by decide) (⟨rfl, NF148⟩)
  · skip
    show G (s₁.setTop (mkF m 9 _ [(.int 4)]))
    refine g_istore hG X0 hx (hb hby at_9) (pc' := 11) rfl (Ls' := #[.val (.int aa), .val (.int bb), .val (.int cc), .val (.int dd), .val (.int sel), .val (.int 4), .unset, .unset, .unset, .unset, .unset, .unset, .unset, .unset, .unset, .unset, .unset, .unset, .unset, .unset, .unset, .unset, .unset, .unset, .unset, .unset, .unset, .unset]) rfl ?_
    refine g_iload hG X0 hx (hb hby at_11) (pc' := 13) rfl rfl ?_
    refine g_bipush hG X0 hx (hb hby at_13) (pc' := 15) rfl (v := (8 : Int32)) rfl ?_
    obtain ⟨v15, q15⟩ : ∃ zz : Int32, (sel.toUInt32 >>> ((8 : Int32) &&& 31).toUInt32).toInt32 = zz := ⟨_, rfl⟩
    refine g_iushr hG X0 hx (hb hby at_15) (pc' := 16) rfl q15 ?_
    refine g_bipush hG X0 hx (hb hby at_16) (pc' := 18) rfl (v := (7 : Int32)) rfl ?_
    obtain ⟨v18, q18⟩ : ∃ zz : Int32, v15 &&& (7 : Int32) = zz := ⟨_, rfl⟩
    refine g_iand hG X0 hx (hb hby at_18) (pc' := 19) rfl q18 ?_
    have b18 : 0 ≤ v18.toInt ∧ v18.toInt ≤ 7 := by rw [← q18]; exact c_and v15 7 (by decide)
    refine g_istore hG X0 hx (hb hby at_19) (pc' := 21) rfl (Ls' := #[.val (.int aa), .val (.int bb), .val (.int cc), .val (.int dd), .val (.int sel), .val (.int 4), .val (.int v18), .unset, .unset, .unset, .unset, .unset, .unset, .unset, .unset, .unset, .unset, .unset, .unset, .unset, .unset, .unset, .unset, .unset, .unset, .unset, .unset, .unset]) rfl ?_
    refine g_bipush hG X0 hx (hb hby at_21) (pc' := 23) rfl (v := (7 : Int32)) rfl ?_
    refine g_newP hG X0 hx hZ (wd hw 0 rfl) e0 (hb hby at_23) (by decide) 7 (by decide) (by decide) (by decide) (by decide) (pc' := 25) rfl ?_
    intro T149 h149 ar kA149 gs149 X149 e149 E149 A149
    have ge_ar : n0 ≤ ar := gs149 ▸ Zs
    have Zs := Nat.le_trans Zs E149.1
    have V_ar : AV Z h149 ar .int (7 : Int32) [(.int 0), (.int 0), (.int 0), (.int 0), (.int 0), (.int 0), (.int 0)] := AV.new A149
    refine g_dup hG X149 hx (hb hby at_25) (pc' := 26) rfl rfl ?_
    refine g_iconst hG X149 hx (hb hby at_26) (pc' := 27) rfl (v := (0 : Int32)) rfl ?_
    refine g_iconst hG X149 hx (hb hby at_27) (pc' := 28) rfl (v := (1 : Int32)) rfl ?_
    refine g_iastore hG X149 hx hZ e149 V_ar (j := (0 : Int32)) (by decide) (show Int32.toNatClampNeg (0 : Int32) < 7 by decide) (hb hby at_28) (pc' := 29) rfl ?_
    intro T150 h150 X150 e150 W150 Vn150
    have V_ar : AV Z h150 ar .int (7 : Int32) [(.int 1), (.int 0), (.int 0), (.int 0), (.int 0), (.int 0), (.int 0)] := Vn150
    have Zs := Nat.le_trans Zs (Wr.size W150)
    have NF150 := Fr.snoc X150 NF0 ge_ar
    refine g_dup hG X150 hx (hb hby at_29) (pc' := 30) rfl rfl ?_
    refine g_iconst hG X150 hx (hb hby at_30) (pc' := 31) rfl (v := (1 : Int32)) rfl ?_
    refine g_iconst hG X150 hx (hb hby at_31) (pc' := 32) rfl (v := (0 : Int32)) rfl ?_
    refine g_iastore hG X150 hx hZ e150 V_ar (j := (1 : Int32)) (by decide) (show Int32.toNatClampNeg (1 : Int32) < 7 by decide) (hb hby at_32) (pc' := 33) rfl ?_
    intro T151 h151 X151 e151 W151 Vn151
    have V_ar : AV Z h151 ar .int (7 : Int32) [(.int 1), (.int 0), (.int 0), (.int 0), (.int 0), (.int 0), (.int 0)] := Vn151
    have Zs := Nat.le_trans Zs (Wr.size W151)
    have NF151 := Fr.snoc X151 NF150 ge_ar
    refine g_dup hG X151 hx (hb hby at_33) (pc' := 34) rfl rfl ?_
    refine g_iconst hG X151 hx (hb hby at_34) (pc' := 35) rfl (v := (2 : Int32)) rfl ?_
    refine g_iconst hG X151 hx (hb hby at_35) (pc' := 36) rfl (v := (3 : Int32)) rfl ?_
    refine g_iastore hG X151 hx hZ e151 V_ar (j := (2 : Int32)) (by decide) (show Int32.toNatClampNeg (2 : Int32) < 7 by decide) (hb hby at_36) (pc' := 37) rfl ?_
    intro T152 h152 X152 e152 W152 Vn152
    have V_ar : AV Z h152 ar .int (7 : Int32) [(.int 1), (.int 0), (.int 3), (.int 0), (.int 0), (.int 0), (.int 0)] := Vn152
    have Zs := Nat.le_trans Zs (Wr.size W152)
    have NF152 := Fr.snoc X152 NF151 ge_ar
    refine g_dup hG X152 hx (hb hby at_37) (pc' := 38) rfl rfl ?_
    refine g_iconst hG X152 hx (hb hby at_38) (pc' := 39) rfl (v := (3 : Int32)) rfl ?_
    refine g_iconst hG X152 hx (hb hby at_39) (pc' := 40) rfl (v := (1 : Int32)) rfl ?_
    refine g_iastore hG X152 hx hZ e152 V_ar (j := (3 : Int32)) (by decide) (show Int32.toNatClampNeg (3 : Int32) < 7 by decide) (hb hby at_40) (pc' := 41) rfl ?_
    intro T153 h153 X153 e153 W153 Vn153
    have V_ar : AV Z h153 ar .int (7 : Int32) [(.int 1), (.int 0), (.int 3), (.int 1), (.int 0), (.int 0), (.int 0)] := Vn153
    have Zs := Nat.le_trans Zs (Wr.size W153)
    have NF153 := Fr.snoc X153 NF152 ge_ar
    refine g_dup hG X153 hx (hb hby at_41) (pc' := 42) rfl rfl ?_
    refine g_iconst hG X153 hx (hb hby at_42) (pc' := 43) rfl (v := (4 : Int32)) rfl ?_
    refine g_bipush hG X153 hx (hb hby at_43) (pc' := 45) rfl (v := (8 : Int32)) rfl ?_
    refine g_iastore hG X153 hx hZ e153 V_ar (j := (4 : Int32)) (by decide) (show Int32.toNatClampNeg (4 : Int32) < 7 by decide) (hb hby at_45) (pc' := 46) rfl ?_
    intro T154 h154 X154 e154 W154 Vn154
    have V_ar : AV Z h154 ar .int (7 : Int32) [(.int 1), (.int 0), (.int 3), (.int 1), (.int 8), (.int 0), (.int 0)] := Vn154
    have Zs := Nat.le_trans Zs (Wr.size W154)
    have NF154 := Fr.snoc X154 NF153 ge_ar
    refine g_dup hG X154 hx (hb hby at_46) (pc' := 47) rfl rfl ?_
    refine g_iconst hG X154 hx (hb hby at_47) (pc' := 48) rfl (v := (5 : Int32)) rfl ?_
    refine g_iconst hG X154 hx (hb hby at_48) (pc' := 49) rfl (v := (1 : Int32)) rfl ?_
    refine g_iastore hG X154 hx hZ e154 V_ar (j := (5 : Int32)) (by decide) (show Int32.toNatClampNeg (5 : Int32) < 7 by decide) (hb hby at_49) (pc' := 50) rfl ?_
    intro T155 h155 X155 e155 W155 Vn155
    have V_ar : AV Z h155 ar .int (7 : Int32) [(.int 1), (.int 0), (.int 3), (.int 1), (.int 8), (.int 1), (.int 0)] := Vn155
    have Zs := Nat.le_trans Zs (Wr.size W155)
    have NF155 := Fr.snoc X155 NF154 ge_ar
    refine g_dup hG X155 hx (hb hby at_50) (pc' := 51) rfl rfl ?_
    refine g_bipush hG X155 hx (hb hby at_51) (pc' := 53) rfl (v := (6 : Int32)) rfl ?_
    refine g_iconst hG X155 hx (hb hby at_53) (pc' := 54) rfl (v := (4 : Int32)) rfl ?_
    refine g_iastore hG X155 hx hZ e155 V_ar (j := (6 : Int32)) (by decide) (show Int32.toNatClampNeg (6 : Int32) < 7 by decide) (hb hby at_54) (pc' := 55) rfl ?_
    intro T156 h156 X156 e156 W156 Vn156
    have V_ar : AV Z h156 ar .int (7 : Int32) [(.int 1), (.int 0), (.int 3), (.int 1), (.int 8), (.int 1), (.int 4)] := Vn156
    have Zs := Nat.le_trans Zs (Wr.size W156)
    have NF156 := Fr.snoc X156 NF155 ge_ar
    refine g_astore hG X156 hx (hb hby at_55) (pc' := 57) rfl rfl (Ls' := #[.val (.int aa), .val (.int bb), .val (.int cc), .val (.int dd), .val (.int sel), .val (.int 4), .val (.int v18), .val (.ref ar), .unset, .unset, .unset, .unset, .unset, .unset, .unset, .unset, .unset, .unset, .unset, .unset, .unset, .unset, .unset, .unset, .unset, .unset, .unset, .unset]) rfl ?_
    refine g_bipush hG X156 hx (hb hby at_57) (pc' := 59) rfl (v := (7 : Int32)) rfl ?_
    refine g_newP hG X156 hx hZ (wd hw 0 rfl) e156 (hb hby at_59) (by decide) 7 (by decide) (by decide) (by decide) (by decide) (pc' := 61) rfl ?_
    intro T157 h157 b157 kA157 gs157 X157 e157 E157 A157
    have ne_ar_b157 : ar ≠ b157 := Nat.ne_of_lt (gs157 ▸ V_ar.lt)
    have ge_b157 : n0 ≤ b157 := gs157 ▸ Zs
    have Zs := Nat.le_trans Zs E157.1
    have V_ar := V_ar.ext E157
    have V_b157 : AV Z h157 b157 .int (7 : Int32) [(.int 0), (.int 0), (.int 0), (.int 0), (.int 0), (.int 0), (.int 0)] := AV.new A157
    refine g_dup hG X157 hx (hb hby at_61) (pc' := 62) rfl rfl ?_
    refine g_iconst hG X157 hx (hb hby at_62) (pc' := 63) rfl (v := (0 : Int32)) rfl ?_
    refine g_iconst hG X157 hx (hb hby at_63) (pc' := 64) rfl (v := (0 : Int32)) rfl ?_
    refine g_iastore hG X157 hx hZ e157 V_b157 (j := (0 : Int32)) (by decide) (show Int32.toNatClampNeg (0 : Int32) < 7 by decide) (hb hby at_64) (pc' := 65) rfl ?_
    intro T158 h158 X158 e158 W158 Vn158
    have V_b157 : AV Z h158 b157 .int (7 : Int32) [(.int 0), (.int 0), (.int 0), (.int 0), (.int 0), (.int 0), (.int 0)] := Vn158
    have V_ar := V_ar.other W158 ne_ar_b157
    have Zs := Nat.le_trans Zs (Wr.size W158)
    have NF158 := Fr.snoc X158 NF156 ge_b157
    refine g_dup hG X158 hx (hb hby at_65) (pc' := 66) rfl rfl ?_
    refine g_iconst hG X158 hx (hb hby at_66) (pc' := 67) rfl (v := (1 : Int32)) rfl ?_
    refine g_iconst hG X158 hx (hb hby at_67) (pc' := 68) rfl (v := (2 : Int32)) rfl ?_
    refine g_iastore hG X158 hx hZ e158 V_b157 (j := (1 : Int32)) (by decide) (show Int32.toNatClampNeg (1 : Int32) < 7 by decide) (hb hby at_68) (pc' := 69) rfl ?_
    intro T159 h159 X159 e159 W159 Vn159
    have V_b157 : AV Z h159 b157 .int (7 : Int32) [(.int 0), (.int 2), (.int 0), (.int 0), (.int 0), (.int 0), (.int 0)] := Vn159
    have V_ar := V_ar.other W159 ne_ar_b157
    have Zs := Nat.le_trans Zs (Wr.size W159)
    have NF159 := Fr.snoc X159 NF158 ge_b157
    refine g_dup hG X159 hx (hb hby at_69) (pc' := 70) rfl rfl ?_
    refine g_iconst hG X159 hx (hb hby at_70) (pc' := 71) rfl (v := (2 : Int32)) rfl ?_
    refine g_iconst hG X159 hx (hb hby at_71) (pc' := 72) rfl (v := (3 : Int32)) rfl ?_
    refine g_iastore hG X159 hx hZ e159 V_b157 (j := (2 : Int32)) (by decide) (show Int32.toNatClampNeg (2 : Int32) < 7 by decide) (hb hby at_72) (pc' := 73) rfl ?_
    intro T160 h160 X160 e160 W160 Vn160
    have V_b157 : AV Z h160 b157 .int (7 : Int32) [(.int 0), (.int 2), (.int 3), (.int 0), (.int 0), (.int 0), (.int 0)] := Vn160
    have V_ar := V_ar.other W160 ne_ar_b157
    have Zs := Nat.le_trans Zs (Wr.size W160)
    have NF160 := Fr.snoc X160 NF159 ge_b157
    refine g_dup hG X160 hx (hb hby at_73) (pc' := 74) rfl rfl ?_
    refine g_iconst hG X160 hx (hb hby at_74) (pc' := 75) rfl (v := (3 : Int32)) rfl ?_
    refine g_iconst hG X160 hx (hb hby at_75) (pc' := 76) rfl (v := (2 : Int32)) rfl ?_
    refine g_iastore hG X160 hx hZ e160 V_b157 (j := (3 : Int32)) (by decide) (show Int32.toNatClampNeg (3 : Int32) < 7 by decide) (hb hby at_76) (pc' := 77) rfl ?_
    intro T161 h161 X161 e161 W161 Vn161
    have V_b157 : AV Z h161 b157 .int (7 : Int32) [(.int 0), (.int 2), (.int 3), (.int 2), (.int 0), (.int 0), (.int 0)] := Vn161
    have V_ar := V_ar.other W161 ne_ar_b157
    have Zs := Nat.le_trans Zs (Wr.size W161)
    have NF161 := Fr.snoc X161 NF160 ge_b157
    refine g_dup hG X161 hx (hb hby at_77) (pc' := 78) rfl rfl ?_
    refine g_iconst hG X161 hx (hb hby at_78) (pc' := 79) rfl (v := (4 : Int32)) rfl ?_
    refine g_iconst hG X161 hx (hb hby at_79) (pc' := 80) rfl (v := (4 : Int32)) rfl ?_
    refine g_iastore hG X161 hx hZ e161 V_b157 (j := (4 : Int32)) (by decide) (show Int32.toNatClampNeg (4 : Int32) < 7 by decide) (hb hby at_80) (pc' := 81) rfl ?_
    intro T162 h162 X162 e162 W162 Vn162
    have V_b157 : AV Z h162 b157 .int (7 : Int32) [(.int 0), (.int 2), (.int 3), (.int 2), (.int 4), (.int 0), (.int 0)] := Vn162
    have V_ar := V_ar.other W162 ne_ar_b157
    have Zs := Nat.le_trans Zs (Wr.size W162)
    have NF162 := Fr.snoc X162 NF161 ge_b157
    refine g_dup hG X162 hx (hb hby at_81) (pc' := 82) rfl rfl ?_
    refine g_iconst hG X162 hx (hb hby at_82) (pc' := 83) rfl (v := (5 : Int32)) rfl ?_
    refine g_iconst hG X162 hx (hb hby at_83) (pc' := 84) rfl (v := (4 : Int32)) rfl ?_
    refine g_iastore hG X162 hx hZ e162 V_b157 (j := (5 : Int32)) (by decide) (show Int32.toNatClampNeg (5 : Int32) < 7 by decide) (hb hby at_84) (pc' := 85) rfl ?_
    intro T163 h163 X163 e163 W163 Vn163
    have V_b157 : AV Z h163 b157 .int (7 : Int32) [(.int 0), (.int 2), (.int 3), (.int 2), (.int 4), (.int 4), (.int 0)] := Vn163
    have V_ar := V_ar.other W163 ne_ar_b157
    have Zs := Nat.le_trans Zs (Wr.size W163)
    have NF163 := Fr.snoc X163 NF162 ge_b157
    refine g_dup hG X163 hx (hb hby at_85) (pc' := 86) rfl rfl ?_
    refine g_bipush hG X163 hx (hb hby at_86) (pc' := 88) rfl (v := (6 : Int32)) rfl ?_
    refine g_iconst hG X163 hx (hb hby at_88) (pc' := 89) rfl (v := (1 : Int32)) rfl ?_
    refine g_iastore hG X163 hx hZ e163 V_b157 (j := (6 : Int32)) (by decide) (show Int32.toNatClampNeg (6 : Int32) < 7 by decide) (hb hby at_89) (pc' := 90) rfl ?_
    intro T164 h164 X164 e164 W164 Vn164
    have V_b157 : AV Z h164 b157 .int (7 : Int32) [(.int 0), (.int 2), (.int 3), (.int 2), (.int 4), (.int 4), (.int 1)] := Vn164
    have V_ar := V_ar.other W164 ne_ar_b157
    have Zs := Nat.le_trans Zs (Wr.size W164)
    have NF164 := Fr.snoc X164 NF163 ge_b157
    refine g_astore hG X164 hx (hb hby at_90) (pc' := 92) rfl rfl (Ls' := #[.val (.int aa), .val (.int bb), .val (.int cc), .val (.int dd), .val (.int sel), .val (.int 4), .val (.int v18), .val (.ref ar), .val (.ref b157), .unset, .unset, .unset, .unset, .unset, .unset, .unset, .unset, .unset, .unset, .unset, .unset, .unset, .unset, .unset, .unset, .unset, .unset, .unset]) rfl ?_
    refine g_bipush hG X164 hx (hb hby at_92) (pc' := 94) rfl (v := (7 : Int32)) rfl ?_
    refine g_newP hG X164 hx hZ (wd hw 0 rfl) e164 (hb hby at_94) (by decide) 7 (by decide) (by decide) (by decide) (by decide) (pc' := 96) rfl ?_
    intro T165 h165 b165 kA165 gs165 X165 e165 E165 A165
    have ne_ar_b165 : ar ≠ b165 := Nat.ne_of_lt (gs165 ▸ V_ar.lt)
    have ne_b157_b165 : b157 ≠ b165 := Nat.ne_of_lt (gs165 ▸ V_b157.lt)
    have ge_b165 : n0 ≤ b165 := gs165 ▸ Zs
    have Zs := Nat.le_trans Zs E165.1
    have V_ar := V_ar.ext E165
    have V_b157 := V_b157.ext E165
    have V_b165 : AV Z h165 b165 .int (7 : Int32) [(.int 0), (.int 0), (.int 0), (.int 0), (.int 0), (.int 0), (.int 0)] := AV.new A165
    refine g_dup hG X165 hx (hb hby at_96) (pc' := 97) rfl rfl ?_
    refine g_iconst hG X165 hx (hb hby at_97) (pc' := 98) rfl (v := (0 : Int32)) rfl ?_
    refine g_iconst hG X165 hx (hb hby at_98) (pc' := 99) rfl (v := (4 : Int32)) rfl ?_
    refine g_iastore hG X165 hx hZ e165 V_b165 (j := (0 : Int32)) (by decide) (show Int32.toNatClampNeg (0 : Int32) < 7 by decide) (hb hby at_99) (pc' := 100) rfl ?_
    intro T166 h166 X166 e166 W166 Vn166
    have V_b165 : AV Z h166 b165 .int (7 : Int32) [(.int 4), (.int 0), (.int 0), (.int 0), (.int 0), (.int 0), (.int 0)] := Vn166
    have V_ar := V_ar.other W166 ne_ar_b165
    have V_b157 := V_b157.other W166 ne_b157_b165
    have Zs := Nat.le_trans Zs (Wr.size W166)
    have NF166 := Fr.snoc X166 NF164 ge_b165
    refine g_dup hG X166 hx (hb hby at_100) (pc' := 101) rfl rfl ?_
    refine g_iconst hG X166 hx (hb hby at_101) (pc' := 102) rfl (v := (1 : Int32)) rfl ?_
    refine g_iconst hG X166 hx (hb hby at_102) (pc' := 103) rfl (v := (0 : Int32)) rfl ?_
    refine g_iastore hG X166 hx hZ e166 V_b165 (j := (1 : Int32)) (by decide) (show Int32.toNatClampNeg (1 : Int32) < 7 by decide) (hb hby at_103) (pc' := 104) rfl ?_
    intro T167 h167 X167 e167 W167 Vn167
    have V_b165 : AV Z h167 b165 .int (7 : Int32) [(.int 4), (.int 0), (.int 0), (.int 0), (.int 0), (.int 0), (.int 0)] := Vn167
    have V_ar := V_ar.other W167 ne_ar_b165
    have V_b157 := V_b157.other W167 ne_b157_b165
    have Zs := Nat.le_trans Zs (Wr.size W167)
    have NF167 := Fr.snoc X167 NF166 ge_b165
    refine g_dup hG X167 hx (hb hby at_104) (pc' := 105) rfl rfl ?_
    refine g_iconst hG X167 hx (hb hby at_105) (pc' := 106) rfl (v := (2 : Int32)) rfl ?_
    refine g_iconst hG X167 hx (hb hby at_106) (pc' := 107) rfl (v := (4 : Int32)) rfl ?_
    refine g_iastore hG X167 hx hZ e167 V_b165 (j := (2 : Int32)) (by decide) (show Int32.toNatClampNeg (2 : Int32) < 7 by decide) (hb hby at_107) (pc' := 108) rfl ?_
    intro T168 h168 X168 e168 W168 Vn168
    have V_b165 : AV Z h168 b165 .int (7 : Int32) [(.int 4), (.int 0), (.int 4), (.int 0), (.int 0), (.int 0), (.int 0)] := Vn168
    have V_ar := V_ar.other W168 ne_ar_b165
    have V_b157 := V_b157.other W168 ne_b157_b165
    have Zs := Nat.le_trans Zs (Wr.size W168)
    have NF168 := Fr.snoc X168 NF167 ge_b165
    refine g_dup hG X168 hx (hb hby at_108) (pc' := 109) rfl rfl ?_
    refine g_iconst hG X168 hx (hb hby at_109) (pc' := 110) rfl (v := (3 : Int32)) rfl ?_
    refine g_iconst hG X168 hx (hb hby at_110) (pc' := 111) rfl (v := (2 : Int32)) rfl ?_
    refine g_iastore hG X168 hx hZ e168 V_b165 (j := (3 : Int32)) (by decide) (show Int32.toNatClampNeg (3 : Int32) < 7 by decide) (hb hby at_111) (pc' := 112) rfl ?_
    intro T169 h169 X169 e169 W169 Vn169
    have V_b165 : AV Z h169 b165 .int (7 : Int32) [(.int 4), (.int 0), (.int 4), (.int 2), (.int 0), (.int 0), (.int 0)] := Vn169
    have V_ar := V_ar.other W169 ne_ar_b165
    have V_b157 := V_b157.other W169 ne_b157_b165
    have Zs := Nat.le_trans Zs (Wr.size W169)
    have NF169 := Fr.snoc X169 NF168 ge_b165
    refine g_dup hG X169 hx (hb hby at_112) (pc' := 113) rfl rfl ?_
    refine g_iconst hG X169 hx (hb hby at_113) (pc' := 114) rfl (v := (4 : Int32)) rfl ?_
    refine g_iconst hG X169 hx (hb hby at_114) (pc' := 115) rfl (v := (4 : Int32)) rfl ?_
    refine g_iastore hG X169 hx hZ e169 V_b165 (j := (4 : Int32)) (by decide) (show Int32.toNatClampNeg (4 : Int32) < 7 by decide) (hb hby at_115) (pc' := 116) rfl ?_
    intro T170 h170 X170 e170 W170 Vn170
    have V_b165 : AV Z h170 b165 .int (7 : Int32) [(.int 4), (.int 0), (.int 4), (.int 2), (.int 4), (.int 0), (.int 0)] := Vn170
    have V_ar := V_ar.other W170 ne_ar_b165
    have V_b157 := V_b157.other W170 ne_b157_b165
    have Zs := Nat.le_trans Zs (Wr.size W170)
    have NF170 := Fr.snoc X170 NF169 ge_b165
    refine g_dup hG X170 hx (hb hby at_116) (pc' := 117) rfl rfl ?_
    refine g_iconst hG X170 hx (hb hby at_117) (pc' := 118) rfl (v := (5 : Int32)) rfl ?_
    refine g_iconst hG X170 hx (hb hby at_118) (pc' := 119) rfl (v := (1 : Int32)) rfl ?_
    refine g_iastore hG X170 hx hZ e170 V_b165 (j := (5 : Int32)) (by decide) (show Int32.toNatClampNeg (5 : Int32) < 7 by decide) (hb hby at_119) (pc' := 120) rfl ?_
    intro T171 h171 X171 e171 W171 Vn171
    have V_b165 : AV Z h171 b165 .int (7 : Int32) [(.int 4), (.int 0), (.int 4), (.int 2), (.int 4), (.int 1), (.int 0)] := Vn171
    have V_ar := V_ar.other W171 ne_ar_b165
    have V_b157 := V_b157.other W171 ne_b157_b165
    have Zs := Nat.le_trans Zs (Wr.size W171)
    have NF171 := Fr.snoc X171 NF170 ge_b165
    refine g_dup hG X171 hx (hb hby at_120) (pc' := 121) rfl rfl ?_
    refine g_bipush hG X171 hx (hb hby at_121) (pc' := 123) rfl (v := (6 : Int32)) rfl ?_
    refine g_iconst hG X171 hx (hb hby at_123) (pc' := 124) rfl (v := (4 : Int32)) rfl ?_
    refine g_iastore hG X171 hx hZ e171 V_b165 (j := (6 : Int32)) (by decide) (show Int32.toNatClampNeg (6 : Int32) < 7 by decide) (hb hby at_124) (pc' := 125) rfl ?_
    intro T172 h172 X172 e172 W172 Vn172
    have V_b165 : AV Z h172 b165 .int (7 : Int32) [(.int 4), (.int 0), (.int 4), (.int 2), (.int 4), (.int 1), (.int 4)] := Vn172
    have V_ar := V_ar.other W172 ne_ar_b165
    have V_b157 := V_b157.other W172 ne_b157_b165
    have Zs := Nat.le_trans Zs (Wr.size W172)
    have NF172 := Fr.snoc X172 NF171 ge_b165
    refine g_astore hG X172 hx (hb hby at_125) (pc' := 127) rfl rfl (Ls' := #[.val (.int aa), .val (.int bb), .val (.int cc), .val (.int dd), .val (.int sel), .val (.int 4), .val (.int v18), .val (.ref ar), .val (.ref b157), .val (.ref b165), .unset, .unset, .unset, .unset, .unset, .unset, .unset, .unset, .unset, .unset, .unset, .unset, .unset, .unset, .unset, .unset, .unset, .unset]) rfl ?_
    refine g_bipush hG X172 hx (hb hby at_127) (pc' := 129) rfl (v := (7 : Int32)) rfl ?_
    refine g_newP hG X172 hx hZ (wd hw 0 rfl) e172 (hb hby at_129) (by decide) 7 (by decide) (by decide) (by decide) (by decide) (pc' := 131) rfl ?_
    intro T173 h173 dr kA173 gs173 X173 e173 E173 A173
    have ne_ar_dr : ar ≠ dr := Nat.ne_of_lt (gs173 ▸ V_ar.lt)
    have ne_b157_dr : b157 ≠ dr := Nat.ne_of_lt (gs173 ▸ V_b157.lt)
    have ne_b165_dr : b165 ≠ dr := Nat.ne_of_lt (gs173 ▸ V_b165.lt)
    have ge_dr : n0 ≤ dr := gs173 ▸ Zs
    have Zs := Nat.le_trans Zs E173.1
    have V_ar := V_ar.ext E173
    have V_b157 := V_b157.ext E173
    have V_b165 := V_b165.ext E173
    have V_dr : AV Z h173 dr .int (7 : Int32) [(.int 0), (.int 0), (.int 0), (.int 0), (.int 0), (.int 0), (.int 0)] := AV.new A173
    refine g_dup hG X173 hx (hb hby at_131) (pc' := 132) rfl rfl ?_
    refine g_iconst hG X173 hx (hb hby at_132) (pc' := 133) rfl (v := (0 : Int32)) rfl ?_
    refine g_iconst hG X173 hx (hb hby at_133) (pc' := 134) rfl (v := (0 : Int32)) rfl ?_
    refine g_iastore hG X173 hx hZ e173 V_dr (j := (0 : Int32)) (by decide) (show Int32.toNatClampNeg (0 : Int32) < 7 by decide) (hb hby at_134) (pc' := 135) rfl ?_
    intro T174 h174 X174 e174 W174 Vn174
    have V_dr : AV Z h174 dr .int (7 : Int32) [(.int 0), (.int 0), (.int 0), (.int 0), (.int 0), (.int 0), (.int 0)] := Vn174
    have V_ar := V_ar.other W174 ne_ar_dr
    have V_b157 := V_b157.other W174 ne_b157_dr
    have V_b165 := V_b165.other W174 ne_b165_dr
    have Zs := Nat.le_trans Zs (Wr.size W174)
    have NF174 := Fr.snoc X174 NF172 ge_dr
    refine g_dup hG X174 hx (hb hby at_135) (pc' := 136) rfl rfl ?_
    refine g_iconst hG X174 hx (hb hby at_136) (pc' := 137) rfl (v := (1 : Int32)) rfl ?_
    refine g_iconst hG X174 hx (hb hby at_137) (pc' := 138) rfl (v := (4 : Int32)) rfl ?_
    refine g_iastore hG X174 hx hZ e174 V_dr (j := (1 : Int32)) (by decide) (show Int32.toNatClampNeg (1 : Int32) < 7 by decide) (hb hby at_138) (pc' := 139) rfl ?_
    intro T175 h175 X175 e175 W175 Vn175
    have V_dr : AV Z h175 dr .int (7 : Int32) [(.int 0), (.int 4), (.int 0), (.int 0), (.int 0), (.int 0), (.int 0)] := Vn175
    have V_ar := V_ar.other W175 ne_ar_dr
    have V_b157 := V_b157.other W175 ne_b157_dr
    have V_b165 := V_b165.other W175 ne_b165_dr
    have Zs := Nat.le_trans Zs (Wr.size W175)
    have NF175 := Fr.snoc X175 NF174 ge_dr
    refine g_dup hG X175 hx (hb hby at_139) (pc' := 140) rfl rfl ?_
    refine g_iconst hG X175 hx (hb hby at_140) (pc' := 141) rfl (v := (2 : Int32)) rfl ?_
    refine g_iconst hG X175 hx (hb hby at_141) (pc' := 142) rfl (v := (4 : Int32)) rfl ?_
    refine g_iastore hG X175 hx hZ e175 V_dr (j := (2 : Int32)) (by decide) (show Int32.toNatClampNeg (2 : Int32) < 7 by decide) (hb hby at_142) (pc' := 143) rfl ?_
    intro T176 h176 X176 e176 W176 Vn176
    have V_dr : AV Z h176 dr .int (7 : Int32) [(.int 0), (.int 4), (.int 4), (.int 0), (.int 0), (.int 0), (.int 0)] := Vn176
    have V_ar := V_ar.other W176 ne_ar_dr
    have V_b157 := V_b157.other W176 ne_b157_dr
    have V_b165 := V_b165.other W176 ne_b165_dr
    have Zs := Nat.le_trans Zs (Wr.size W176)
    have NF176 := Fr.snoc X176 NF175 ge_dr
    refine g_dup hG X176 hx (hb hby at_143) (pc' := 144) rfl rfl ?_
    refine g_iconst hG X176 hx (hb hby at_144) (pc' := 145) rfl (v := (3 : Int32)) rfl ?_
    refine g_iconst hG X176 hx (hb hby at_145) (pc' := 146) rfl (v := (4 : Int32)) rfl ?_
    refine g_iastore hG X176 hx hZ e176 V_dr (j := (3 : Int32)) (by decide) (show Int32.toNatClampNeg (3 : Int32) < 7 by decide) (hb hby at_146) (pc' := 147) rfl ?_
    intro T177 h177 X177 e177 W177 Vn177
    have V_dr : AV Z h177 dr .int (7 : Int32) [(.int 0), (.int 4), (.int 4), (.int 4), (.int 0), (.int 0), (.int 0)] := Vn177
    have V_ar := V_ar.other W177 ne_ar_dr
    have V_b157 := V_b157.other W177 ne_b157_dr
    have V_b165 := V_b165.other W177 ne_b165_dr
    have Zs := Nat.le_trans Zs (Wr.size W177)
    have NF177 := Fr.snoc X177 NF176 ge_dr
    refine g_dup hG X177 hx (hb hby at_147) (pc' := 148) rfl rfl ?_
    refine g_iconst hG X177 hx (hb hby at_148) (pc' := 149) rfl (v := (4 : Int32)) rfl ?_
    refine g_iconst hG X177 hx (hb hby at_149) (pc' := 150) rfl (v := (2 : Int32)) rfl ?_
    refine g_iastore hG X177 hx hZ e177 V_dr (j := (4 : Int32)) (by decide) (show Int32.toNatClampNeg (4 : Int32) < 7 by decide) (hb hby at_150) (pc' := 151) rfl ?_
    intro T178 h178 X178 e178 W178 Vn178
    have V_dr : AV Z h178 dr .int (7 : Int32) [(.int 0), (.int 4), (.int 4), (.int 4), (.int 2), (.int 0), (.int 0)] := Vn178
    have V_ar := V_ar.other W178 ne_ar_dr
    have V_b157 := V_b157.other W178 ne_b157_dr
    have V_b165 := V_b165.other W178 ne_b165_dr
    have Zs := Nat.le_trans Zs (Wr.size W178)
    have NF178 := Fr.snoc X178 NF177 ge_dr
    refine g_dup hG X178 hx (hb hby at_151) (pc' := 152) rfl rfl ?_
    refine g_iconst hG X178 hx (hb hby at_152) (pc' := 153) rfl (v := (5 : Int32)) rfl ?_
    refine g_iconst hG X178 hx (hb hby at_153) (pc' := 154) rfl (v := (4 : Int32)) rfl ?_
    refine g_iastore hG X178 hx hZ e178 V_dr (j := (5 : Int32)) (by decide) (show Int32.toNatClampNeg (5 : Int32) < 7 by decide) (hb hby at_154) (pc' := 155) rfl ?_
    intro T179 h179 X179 e179 W179 Vn179
    have V_dr : AV Z h179 dr .int (7 : Int32) [(.int 0), (.int 4), (.int 4), (.int 4), (.int 2), (.int 4), (.int 0)] := Vn179
    have V_ar := V_ar.other W179 ne_ar_dr
    have V_b157 := V_b157.other W179 ne_b157_dr
    have V_b165 := V_b165.other W179 ne_b165_dr
    have Zs := Nat.le_trans Zs (Wr.size W179)
    have NF179 := Fr.snoc X179 NF178 ge_dr
    refine g_dup hG X179 hx (hb hby at_155) (pc' := 156) rfl rfl ?_
    refine g_bipush hG X179 hx (hb hby at_156) (pc' := 158) rfl (v := (6 : Int32)) rfl ?_
    refine g_iconst hG X179 hx (hb hby at_158) (pc' := 159) rfl (v := (1 : Int32)) rfl ?_
    refine g_iastore hG X179 hx hZ e179 V_dr (j := (6 : Int32)) (by decide) (show Int32.toNatClampNeg (6 : Int32) < 7 by decide) (hb hby at_159) (pc' := 160) rfl ?_
    intro T180 h180 X180 e180 W180 Vn180
    have V_dr : AV Z h180 dr .int (7 : Int32) [(.int 0), (.int 4), (.int 4), (.int 4), (.int 2), (.int 4), (.int 1)] := Vn180
    have V_ar := V_ar.other W180 ne_ar_dr
    have V_b157 := V_b157.other W180 ne_b157_dr
    have V_b165 := V_b165.other W180 ne_b165_dr
    have Zs := Nat.le_trans Zs (Wr.size W180)
    have NF180 := Fr.snoc X180 NF179 ge_dr
    refine g_astore hG X180 hx (hb hby at_160) (pc' := 162) rfl rfl (Ls' := #[.val (.int aa), .val (.int bb), .val (.int cc), .val (.int dd), .val (.int sel), .val (.int 4), .val (.int v18), .val (.ref ar), .val (.ref b157), .val (.ref b165), .val (.ref dr), .unset, .unset, .unset, .unset, .unset, .unset, .unset, .unset, .unset, .unset, .unset, .unset, .unset, .unset, .unset, .unset, .unset]) rfl ?_
    refine g_iloadN hG X180 hx (hb hby at_162) (pc' := 163) rfl rfl ?_
    refine g_ldcInt hG X180 hx hZ hown (wd hw 1 rfl) (hb hby at_163) (pc' := 165) rfl ?_
    obtain ⟨v165, q165⟩ : ∃ zz : Int32, aa &&& (65535 : Int32) = zz := ⟨_, rfl⟩
    refine g_iand hG X180 hx (hb hby at_165) (pc' := 166) rfl q165 ?_
    obtain ⟨v166, q166⟩ : ∃ zz : Int64, v165.toInt64 = zz := ⟨_, rfl⟩
    refine g_i2l hG X180 hx (hb hby at_166) (pc' := 167) rfl q166 ?_
    have b166 : 0 ≤ v166.toInt ∧ v166.toInt ≤ 65535 := by
      have a := c_and aa 65535 (by decide)
      rw [q165] at a
      have c : (65535 : Int32).toInt = 65535 := by decide
      have d : v166.toInt = v165.toInt := by rw [← q166]; exact c_i2l v165
      omega
    refine g_lstore hG X180 hx (hb hby at_167) (pc' := 169) rfl (Ls' := #[.val (.int aa), .val (.int bb), .val (.int cc), .val (.int dd), .val (.int sel), .val (.int 4), .val (.int v18), .val (.ref ar), .val (.ref b157), .val (.ref b165), .val (.ref dr), .val (.long v166), .second, .unset, .unset, .unset, .unset, .unset, .unset, .unset, .unset, .unset, .unset, .unset, .unset, .unset, .unset, .unset]) rfl ?_
    refine g_iloadN hG X180 hx (hb hby at_169) (pc' := 170) rfl rfl ?_
    refine g_ldcInt hG X180 hx hZ hown (wd hw 1 rfl) (hb hby at_170) (pc' := 172) rfl ?_
    obtain ⟨v172, q172⟩ : ∃ zz : Int32, bb &&& (65535 : Int32) = zz := ⟨_, rfl⟩
    refine g_iand hG X180 hx (hb hby at_172) (pc' := 173) rfl q172 ?_
    obtain ⟨v173, q173⟩ : ∃ zz : Int64, v172.toInt64 = zz := ⟨_, rfl⟩
    refine g_i2l hG X180 hx (hb hby at_173) (pc' := 174) rfl q173 ?_
    have b173 : 0 ≤ v173.toInt ∧ v173.toInt ≤ 65535 := by
      have a := c_and bb 65535 (by decide)
      rw [q172] at a
      have c : (65535 : Int32).toInt = 65535 := by decide
      have d : v173.toInt = v172.toInt := by rw [← q173]; exact c_i2l v172
      omega
    refine g_lstore hG X180 hx (hb hby at_174) (pc' := 176) rfl (Ls' := #[.val (.int aa), .val (.int bb), .val (.int cc), .val (.int dd), .val (.int sel), .val (.int 4), .val (.int v18), .val (.ref ar), .val (.ref b157), .val (.ref b165), .val (.ref dr), .val (.long v166), .second, .val (.long v173), .second, .unset, .unset, .unset, .unset, .unset, .unset, .unset, .unset, .unset, .unset, .unset, .unset, .unset]) rfl ?_
    refine g_iloadN hG X180 hx (hb hby at_176) (pc' := 177) rfl rfl ?_
    refine g_ldcInt hG X180 hx hZ hown (wd hw 1 rfl) (hb hby at_177) (pc' := 179) rfl ?_
    obtain ⟨v179, q179⟩ : ∃ zz : Int32, cc &&& (65535 : Int32) = zz := ⟨_, rfl⟩
    refine g_iand hG X180 hx (hb hby at_179) (pc' := 180) rfl q179 ?_
    obtain ⟨v180, q180⟩ : ∃ zz : Int64, v179.toInt64 = zz := ⟨_, rfl⟩
    refine g_i2l hG X180 hx (hb hby at_180) (pc' := 181) rfl q180 ?_
    have b180 : 0 ≤ v180.toInt ∧ v180.toInt ≤ 65535 := by
      have a := c_and cc 65535 (by decide)
      rw [q179] at a
      have c : (65535 : Int32).toInt = 65535 := by decide
      have d : v180.toInt = v179.toInt := by rw [← q180]; exact c_i2l v179
      omega
    refine g_lstore hG X180 hx (hb hby at_181) (pc' := 183) rfl (Ls' := #[.val (.int aa), .val (.int bb), .val (.int cc), .val (.int dd), .val (.int sel), .val (.int 4), .val (.int v18), .val (.ref ar), .val (.ref b157), .val (.ref b165), .val (.ref dr), .val (.long v166), .second, .val (.long v173), .second, .val (.long v180), .second, .unset, .unset, .unset, .unset, .unset, .unset, .unset, .unset, .unset, .unset, .unset]) rfl ?_
    refine g_iloadN hG X180 hx (hb hby at_183) (pc' := 184) rfl rfl ?_
    refine g_ldcInt hG X180 hx hZ hown (wd hw 1 rfl) (hb hby at_184) (pc' := 186) rfl ?_
    obtain ⟨v186, q186⟩ : ∃ zz : Int32, dd &&& (65535 : Int32) = zz := ⟨_, rfl⟩
    refine g_iand hG X180 hx (hb hby at_186) (pc' := 187) rfl q186 ?_
    obtain ⟨v187, q187⟩ : ∃ zz : Int64, v186.toInt64 = zz := ⟨_, rfl⟩
    refine g_i2l hG X180 hx (hb hby at_187) (pc' := 188) rfl q187 ?_
    have b187 : 0 ≤ v187.toInt ∧ v187.toInt ≤ 65535 := by
      have a := c_and dd 65535 (by decide)
      rw [q186] at a
      have c : (65535 : Int32).toInt = 65535 := by decide
      have d : v187.toInt = v186.toInt := by rw [← q187]; exact c_i2l v186
      omega
    refine g_lstore hG X180 hx (hb hby at_188) (pc' := 190) rfl (Ls' := #[.val (.int aa), .val (.int bb), .val (.int cc), .val (.int dd), .val (.int sel), .val (.int 4), .val (.int v18), .val (.ref ar), .val (.ref b157), .val (.ref b165), .val (.ref dr), .val (.long v166), .second, .val (.long v173), .second, .val (.long v180), .second, .val (.long v187), .second, .unset, .unset, .unset, .unset, .unset, .unset, .unset, .unset, .unset]) rfl ?_
    refine g_newO hG X180 hx hZ hown (wd hw 2 rfl) (wd hw 3 rfl) (wd hw 4 rfl) e180 (hb hby at_190) (by decide) (by decide) (pc' := 193) rfl ?_
    intro T181 h181 b gs181 X181 e181 E181 Aq181 Dq181
    have ne_ar_b : ar ≠ b := Nat.ne_of_lt (gs181 ▸ V_ar.lt)
    have ne_b157_b : b157 ≠ b := Nat.ne_of_lt (gs181 ▸ V_b157.lt)
    have ne_b165_b : b165 ≠ b := Nat.ne_of_lt (gs181 ▸ V_b165.lt)
    have ne_dr_b : dr ≠ b := Nat.ne_of_lt (gs181 ▸ V_dr.lt)
    have ge_b : n0 ≤ b := gs181 ▸ Zs
    have Zs := Nat.le_trans Zs E181.1
    have V_ar := V_ar.ext E181
    have V_b157 := V_b157.ext E181
    have V_b165 := V_b165.ext E181
    have V_dr := V_dr.ext E181
    have Ex_b := Aq181
    have F_timeWeight_b : Fld Z h181 b "com/example/ganttwright/ganttwright/Objective" "timeWeight" "D" (.double 0) := Dq181 (Or.inr (wd hw 29 rfl)) (ty := .double) (by decide)
    have F_costWeight_b : Fld Z h181 b "com/example/ganttwright/ganttwright/Objective" "costWeight" "D" (.double 0) := Dq181 (Or.inr (wd hw 31 rfl)) (ty := .double) (by decide)
    refine g_dup hG X181 hx (hb hby at_193) (pc' := 194) rfl rfl ?_
    refine g_aload hG X181 hx (hb hby at_194) (pc' := 196) rfl rfl rfl ?_
    refine g_iload hG X181 hx (hb hby at_196) (pc' := 198) rfl rfl ?_
    refine g_iaload hG X181 hx hZ e181 V_ar (j := (4 : Int32)) (v := (.int 8)) (by decide) rfl (hb hby at_198) (pc' := 199) rfl ?_
    obtain ⟨v199, q199⟩ : ∃ zz : UInt64, FP.i2d (8 : Int32) = zz := ⟨_, rfl⟩
    refine g_i2d hG X181 hx (hb hby at_199) (pc' := 200) rfl q199 ?_
    refine g_aload hG X181 hx (hb hby at_200) (pc' := 202) rfl rfl rfl ?_
    refine g_iload hG X181 hx (hb hby at_202) (pc' := 204) rfl rfl ?_
    refine g_iaload hG X181 hx hZ e181 V_b157 (j := (4 : Int32)) (v := (.int 4)) (by decide) rfl (hb hby at_204) (pc' := 205) rfl ?_
    obtain ⟨v205, q205⟩ : ∃ zz : UInt64, FP.i2d (4 : Int32) = zz := ⟨_, rfl⟩
    refine g_i2d hG X181 hx (hb hby at_205) (pc' := 206) rfl q205 ?_
    obtain ⟨lg, hlg⟩ : ∃ z, Jvm.Native.java_lang_Math.nans.pick64 true v199 v205 = z := ⟨_, rfl⟩
    obtain ⟨t1, ht1⟩ : ∃ z, FP.ddiv v199 lg = z := ⟨_, rfl⟩
    obtain ⟨c1, hc1⟩ : ∃ z, FP.ddiv v205 lg = z := ⟨_, rfl⟩
    obtain ⟨f1, f2, g1, g2, g3, D1, D2⟩ := own_weights (x := 8) (y := 4) (g := 8) (p := 128) (q := 64) (by rw [← q199]; exact OwnFl.i2d_DV (8 : Int32) : OwnFl.DV v199 ((8 : Int) : Rat)) (by rw [← q205]; exact OwnFl.i2d_DV (4 : Int32) : OwnFl.DV v205 ((4 : Int) : Rat)) (by decide) (by decide) (Or.inr ⟨by decide, rfl⟩) (by decide) (by decide) (by decide) (by decide) (by decide) (by decide) (by decide) hlg ht1 hc1
    refine g_callI hG X181 hx hZ (y := (⟨"com/example/ganttwright/ganttwright/Objective", "<init>", "(DD)V"⟩ : MethodName)) 1 rfl hown (wd hw 5 rfl) (wd hw 6 rfl) (wd hw 4 rfl) (wd hw 7 rfl) (by decide) (rmObj l Z a0 hw [] b v199 v205 lg t1 c1 h181 n0 Zs ge_b f1 f2 g1 g2 g3 hlg ht1 hc1 D1.noNaN D2.noNaN Ex_b F_timeWeight_b F_costWeight_b) (by decide) (by decide) (by rw [hml]; rfl) pd_4 rfl (argsL := [(.double v199), (.double v205)]) (rest := [(.ref b)]) rfl rfl (Nat.le_of_eq rfl) (hb hby at_206) e181 (by decide) (by decide) (pc' := 209) rfl ?_
    intro T182 rv182 L182 X182 hQ182
    obtain ⟨rfl, Nq182, Kq182, Ex_b, F_timeWeight_b, F_costWeight_b⟩ := hQ182
    have NF182 := Fr.app NF180 Nq182
    have V_ar := V_ar.keep Kq182 (ninS ne_ar_b nin0)
    have V_b157 := V_b157.keep Kq182 (ninS ne_b157_b nin0)
    have V_b165 := V_b165.keep Kq182 (ninS ne_b165_b nin0)
    have V_dr := V_dr.keep Kq182 (ninS ne_dr_b nin0)
    have Zs := Nat.le_trans Zs Kq182.1
    show G (T182.setTop (mkF m 209 _ [(.ref b)]))
    refine g_astore hG X182 hx (hb hby at_209) (pc' := 211) rfl rfl (Ls' := #[.val (.int aa), .val (.int bb), .val (.int cc), .val (.int dd), .val (.int sel), .val (.int 4), .val (.int v18), .val (.ref ar), .val (.ref b157), .val (.ref b165), .val (.ref dr), .val (.long v166), .second, .val (.long v173), .second, .val (.long v180), .second, .val (.long v187), .second, .val (.ref b), .unset, .unset, .unset, .unset, .unset, .unset, .unset, .unset]) rfl ?_
    refine g_iload hG X182 hx (hb hby at_211) (pc' := 213) rfl rfl ?_
    obtain ⟨v213, q213⟩ : ∃ zz : UInt64, FP.i2d v18 = zz := ⟨_, rfl⟩
    refine g_i2d hG X182 hx (hb hby at_213) (pc' := 214) rfl q213 ?_
    refine g_ldcDouble hG X182 hx hZ hown (wd hw 32 rfl) (hb hby at_214) (pc' := 217) rfl ?_
    obtain ⟨v217, q217⟩ : ∃ zz : UInt64, FP.dmul v213 (4598175219545276416 : UInt64) = zz := ⟨_, rfl⟩
    have D217 : OwnFl.DV v217 (((v18.toInt : Int) : Rat) / 4) := by
      have b1 : (0 : Rat) ≤ (v18.toInt : Rat) := Rat.intCast_nonneg.mpr b18.1
      have b2 : (v18.toInt : Rat) ≤ 7 := by have := Rat.intCast_le_intCast.mpr b18.2; simpa using this
      have e : (v18.toInt : Rat) / 4 = (v18.toInt : Rat) * (1 / 4) := by rw [Rat.div_def, Rat.div_def, Rat.one_mul]
      have z := OwnFl.dmul_DV (OwnFl.i2d_DV v18) own_q (by grind) (by grind)
      rw [q213, q217, OwnFl.RR_exact ⟨v18.toInt, -2, by congr 1; decide +kernel, by omega, by decide⟩ (by grind) (by grind)] at z
      rw [e]; exact z
    refine g_dmul hG X182 hx (hb hby at_217) (pc' := 218) rfl (by rw [q217]; exact D217.noNaN) q217 ?_
    refine g_dstore hG X182 hx (hb hby at_218) (pc' := 220) rfl (Ls' := #[.val (.int aa), .val (.int bb), .val (.int cc), .val (.int dd), .val (.int sel), .val (.int 4), .val (.int v18), .val (.ref ar), .val (.ref b157), .val (.ref b165), .val (.ref dr), .val (.long v166), .second, .val (.long v173), .second, .val (.long v180), .second, .val (.long v187), .second, .val (.ref b), .val (.double v217), .second, .unset, .unset, .unset, .unset, .unset, .unset]) rfl ?_
    refine g_aload hG X182 hx (hb hby at_220) (pc' := 222) rfl rfl rfl ?_
    refine g_lload hG X182 hx (hb hby at_222) (pc' := 224) rfl rfl ?_
    obtain ⟨v224, q224⟩ : ∃ zz : UInt64, FP.l2d v166 = zz := ⟨_, rfl⟩
    refine g_l2d hG X182 hx (hb hby at_224) (pc' := 225) rfl q224 ?_
    refine g_lload hG X182 hx (hb hby at_225) (pc' := 227) rfl rfl ?_
    obtain ⟨v227, q227⟩ : ∃ zz : UInt64, FP.l2d v173 = zz := ⟨_, rfl⟩
    refine g_l2d hG X182 hx (hb hby at_227) (pc' := 228) rfl q227 ?_
    refine g_lload hG X182 hx (hb hby at_228) (pc' := 230) rfl rfl ?_
    obtain ⟨v230, q230⟩ : ∃ zz : UInt64, FP.l2d v180 = zz := ⟨_, rfl⟩
    refine g_l2d hG X182 hx (hb hby at_230) (pc' := 231) rfl q230 ?_
    refine g_lload hG X182 hx (hb hby at_231) (pc' := 233) rfl rfl ?_
    obtain ⟨v233, q233⟩ : ∃ zz : UInt64, FP.l2d v187 = zz := ⟨_, rfl⟩
    refine g_l2d hG X182 hx (hb hby at_233) (pc' := 234) rfl q233 ?_
    refine g_dload hG X182 hx (hb hby at_234) (pc' := 236) rfl rfl ?_
    obtain ⟨p1, hp1⟩ : ∃ z, FP.dmul t1 v224 = z := ⟨_, rfl⟩
    obtain ⟨p2, hp2⟩ : ∃ z, FP.dmul c1 v227 = z := ⟨_, rfl⟩
    obtain ⟨sc, hsc⟩ : ∃ z, FP.dadd p1 p2 = z := ⟨_, rfl⟩
    obtain ⟨p3, hp3⟩ : ∃ z, FP.dmul t1 v230 = z := ⟨_, rfl⟩
    obtain ⟨p4, hp4⟩ : ∃ z, FP.dmul c1 v233 = z := ⟨_, rfl⟩
    obtain ⟨sc2, hsc2⟩ : ∃ z, FP.dadd p3 p4 = z := ⟨_, rfl⟩
    obtain ⟨sm, hsm⟩ : ∃ z, FP.dmul v217 sc2 = z := ⟨_, rfl⟩
    obtain ⟨sk, hsk⟩ : ∃ z, FP.dmul v217 v230 = z := ⟨_, rfl⟩
    obtain ⟨lo, hlo⟩ : ∃ z, FP.dsub sc2 sm = z := ⟨_, rfl⟩
    obtain ⟨hi, hhi⟩ : ∃ z, FP.dadd sc2 sm = z := ⟨_, rfl⟩
    obtain ⟨lo2, hlo2⟩ : ∃ z, FP.dsub v230 sk = z := ⟨_, rfl⟩
    obtain ⟨hi2, hhi2⟩ : ∃ z, FP.dadd v230 sk = z := ⟨_, rfl⟩
    have D_v224 : OwnFl.DV v224 ((v166.toInt : Int) : Rat) := by rw [← q224]; exact OwnFl.l2d_DV (by omega)
    have D_v227 : OwnFl.DV v227 ((v173.toInt : Int) : Rat) := by rw [← q227]; exact OwnFl.l2d_DV (by omega)
    have D_v230 : OwnFl.DV v230 ((v180.toInt : Int) : Rat) := by rw [← q230]; exact OwnFl.l2d_DV (by omega)
    have D_v233 : OwnFl.DV v233 ((v187.toInt : Int) : Rat) := by rw [← q233]; exact OwnFl.l2d_DV (by omega)
    obtain ⟨S1_sc, S2_sc, S3_sc⟩ := own_score (p := 128) (q := 64) (by decide) (by decide) (by decide) (by decide) D1 D2 D_v224 D_v227 (by omega) (by omega) (by omega) (by omega)
    rw [hp1, hp2, hsc] at S3_sc
    rw [hp1] at S1_sc
    rw [hp2] at S2_sc
    obtain ⟨S1_sc2, S2_sc2, S3_sc2⟩ := own_score (p := 128) (q := 64) (by decide) (by decide) (by decide) (by decide) D1 D2 D_v230 D_v233 (by omega) (by omega) (by omega) (by omega)
    rw [hp3, hp4, hsc2] at S3_sc2
    rw [hp3] at S1_sc2
    rw [hp4] at S2_sc2
    have E_sc : OwnFl.DV sc (((4 * (4 * v166.toInt + 2 * v173.toInt) : Int) : Rat) / 16) := own_cast (m := 128) (n := 16) (by decide) (by decide) S3_sc (by omega)
    have E_sc2 : OwnFl.DV sc2 (((4 * (4 * v180.toInt + 2 * v187.toInt) : Int) : Rat) / 16) := own_cast (m := 128) (n := 16) (by decide) (by decide) S3_sc2 (by omega)
    have Q_sc2 : OwnFl.DV sc2 ((((4 * v180.toInt + 2 * v187.toInt) : Int) : Rat) / 4) := own_cast (m := 128) (n := 4) (by decide) (by decide) S3_sc2 (by omega)
    have bS2 : 0 ≤ (4 * v180.toInt + 2 * v187.toInt) ∧ (4 * v180.toInt + 2 * v187.toInt) ≤ 524280 := by omega
    obtain ⟨P, hP⟩ : ∃ z : Int, v18.toInt * (4 * v180.toInt + 2 * v187.toInt) = z := ⟨_, rfl⟩
    obtain ⟨R, hR⟩ : ∃ z : Int, v18.toInt * v180.toInt = z := ⟨_, rfl⟩
    have bP : 0 ≤ P ∧ P ≤ 3669960 := by
      have := mc (a := v18.toInt) (b := (4 * v180.toInt + 2 * v187.toInt)) (l1 := 0) (h1 := 7) (l2 := 0) (h2 := 524280) b18.1 b18.2 bS2.1 bS2.2
      rw [hP] at this
      omega
    have bR : 0 ≤ R ∧ R ≤ 458745 := by
      have := mc (a := v18.toInt) (b := v180.toInt) (l1 := 0) (h1 := 7) (l2 := 0) (h2 := 65535) b18.1 b18.2 b180.1 b180.2
      rw [hR] at this
      omega
    have D_sm := own_mul D217 Q_sc2 (by rw [hP]; omega) (by rw [hP]; omega)
    rw [hsm, hP] at D_sm
    have D_sk := own_mul D217 (own_one D_v230).2 (by rw [show v18.toInt * (4 * v180.toInt) = 4 * (v18.toInt * v180.toInt) from Int.mul_left_comm _ _ _, hR]; omega) (by rw [show v18.toInt * (4 * v180.toInt) = 4 * (v18.toInt * v180.toInt) from Int.mul_left_comm _ _ _, hR]; omega)
    rw [hsk, show v18.toInt * (4 * v180.toInt) = 4 * (v18.toInt * v180.toInt) from Int.mul_left_comm _ _ _, hR] at D_sk
    have D_lo := own_sub E_sc2 D_sm (by omega) (by omega)
    rw [hlo] at D_lo
    have D_hi := own_add E_sc2 D_sm (by omega) (by omega)
    rw [hhi] at D_hi
    have D_lo2 := own_sub (own_one D_v230).1 D_sk (by omega) (by omega)
    rw [hlo2, show 16 * v180.toInt - 4 * R = 4 * (4 * v180.toInt - R) by omega] at D_lo2
    have D_hi2 := own_add (own_one D_v230).1 D_sk (by omega) (by omega)
    rw [hhi2, show 16 * v180.toInt + 4 * R = 4 * (4 * v180.toInt + R) by omega] at D_hi2
    obtain ⟨rs, hrs⟩ : ∃ z : Int32, z = (if 4 * (4 * v166.toInt + 2 * v173.toInt) < 4 * (4 * v180.toInt + 2 * v187.toInt) - P ∨ 4 * (4 * v180.toInt + 2 * v187.toInt) + P < 4 * (4 * v166.toInt + 2 * v173.toInt) then (if (4 * v166.toInt + 2 * v173.toInt) < (4 * v180.toInt + 2 * v187.toInt) then (1 : Int32) else 0) else if 4 * v166.toInt < 4 * v180.toInt - R ∨ 4 * v180.toInt + R < 4 * v166.toInt then (if v166.toInt < v180.toInt then (1 : Int32) else 0) else if v173.toInt < v187.toInt then (1 : Int32) else 0) := ⟨_, rfl⟩
    refine g_callV hG X182 hx hZ (y := (⟨"com/example/ganttwright/ganttwright/Objective", "better", "(DDDDD)Z"⟩ : MethodName)) 0 hown (wd hw 33 rfl) (wd hw 34 rfl) (wd hw 36 rfl) (wd hw 35 rfl) (wd hw 4 rfl) (wd hw 37 rfl) (by decide) (rmBet l Z a0 hw [] b t1 c1 v224 v227 v230 v233 v217 p1 p2 sc p3 p4 sc2 sm sk lo hi lo2 hi2 (4 * v166.toInt + 2 * v173.toInt) (4 * v180.toInt + 2 * v187.toInt) P v166.toInt v180.toInt R v173.toInt v187.toInt rs T182.heap n0 Zs hp1 hp2 hsc hp3 hp4 hsc2 hsm hsk hlo hhi hlo2 hhi2 S1_sc.noNaN S2_sc.noNaN S1_sc2.noNaN S2_sc2.noNaN D_sm.noNaN D_sk.noNaN E_sc E_sc2 D_lo D_hi (own_one D_v224).1 (own_one D_v230).1 D_lo2 D_hi2 (own_one D_v227).1 (own_one D_v233).1 hrs Ex_b F_timeWeight_b F_costWeight_b) (by decide) (by decide) (by rw [hml]; rfl) pd_5 rfl (argsL := [(.double v224), (.double v227), (.double v230), (.double v233), (.double v217)]) (rest := []) rfl rfl (Nat.le_of_eq rfl) (hb hby at_236) rfl Ex_b (by decide) (by decide) (pc' := 239) rfl ?_
    intro T183 rv183 L183 X183 hQ183
    obtain ⟨rfl, Nq183, eh183⟩ := hQ183
    have NF183 := Fr.app NF182 Nq183
    show G (T183.setTop (mkF m 239 _ [(.int rs)]))
    refine g_istore hG X183 hx (hb hby at_239) (pc' := 241) rfl (Ls' := #[.val (.int aa), .val (.int bb), .val (.int cc), .val (.int dd), .val (.int sel), .val (.int 4), .val (.int v18), .val (.ref ar), .val (.ref b157), .val (.ref b165), .val (.ref dr), .val (.long v166), .second, .val (.long v173), .second, .val (.long v180), .second, .val (.long v187), .second, .val (.ref b), .val (.double v217), .second, .val (.int rs), .unset, .unset, .unset, .unset, .unset]) rfl ?_
    refine g_aload hG X183 hx (hb hby at_241) (pc' := 243) rfl rfl rfl ?_
    refine g_iload hG X183 hx (hb hby at_243) (pc' := 245) rfl rfl ?_
    refine g_iaload hG X183 hx hZ eh183 V_b165 (j := (4 : Int32)) (v := (.int 4)) (by decide) rfl (hb hby at_245) (pc' := 246) rfl ?_
    refine g_i2l hG X183 hx (hb hby at_246) (pc' := 247) rfl (v := (4 : Int64)) (by decide) ?_
    refine g_lload hG X183 hx (hb hby at_247) (pc' := 249) rfl rfl ?_
    obtain ⟨v249, q249⟩ : ∃ zz : Int64, (4 : Int64) * v166 = zz := ⟨_, rfl⟩
    refine g_lmul hG X183 hx (hb hby at_249) (pc' := 250) rfl q249 ?_
    refine g_aload hG X183 hx (hb hby at_250) (pc' := 252) rfl rfl rfl ?_
    refine g_iload hG X183 hx (hb hby at_252) (pc' := 254) rfl rfl ?_
    refine g_iaload hG X183 hx hZ eh183 V_dr (j := (4 : Int32)) (v := (.int 2)) (by decide) rfl (hb hby at_254) (pc' := 255) rfl ?_
    refine g_i2l hG X183 hx (hb hby at_255) (pc' := 256) rfl (v := (2 : Int64)) (by decide) ?_
    refine g_lload hG X183 hx (hb hby at_256) (pc' := 258) rfl rfl ?_
    obtain ⟨v258, q258⟩ : ∃ zz : Int64, (2 : Int64) * v173 = zz := ⟨_, rfl⟩
    refine g_lmul hG X183 hx (hb hby at_258) (pc' := 259) rfl q258 ?_
    obtain ⟨v259, q259⟩ : ∃ zz : Int64, v249 + v258 = zz := ⟨_, rfl⟩
    refine g_ladd hG X183 hx (hb hby at_259) (pc' := 260) rfl q259 ?_
    have e259 : v259.toInt = 4 * v166.toInt + 2 * v173.toInt := by
      have a1 := c_lmul (4 : Int64) v166
      have a2 := c_lmul (2 : Int64) v173
      have c1 : (4 : Int64).toInt = 4 := by decide
      have c2 : (2 : Int64).toInt = 2 := by decide
      rw [q249, c1] at a1
      rw [q258, c2] at a2
      have a3 := c_ladd v249 v258
      rw [q259] at a3
      have a4 := rng64 v249
      have a5 := rng64 v258
      have a6 := rng64 v259
      omega
    refine g_lstore hG X183 hx (hb hby at_260) (pc' := 262) rfl (Ls' := #[.val (.int aa), .val (.int bb), .val (.int cc), .val (.int dd), .val (.int sel), .val (.int 4), .val (.int v18), .val (.ref ar), .val (.ref b157), .val (.ref b165), .val (.ref dr), .val (.long v166), .second, .val (.long v173), .second, .val (.long v180), .second, .val (.long v187), .second, .val (.ref b), .val (.double v217), .second, .val (.int rs), .val (.long v259), .second, .unset, .unset, .unset]) rfl ?_
    refine g_aload hG X183 hx (hb hby at_262) (pc' := 264) rfl rfl rfl ?_
    refine g_iload hG X183 hx (hb hby at_264) (pc' := 266) rfl rfl ?_
    refine g_iaload hG X183 hx hZ eh183 V_b165 (j := (4 : Int32)) (v := (.int 4)) (by decide) rfl (hb hby at_266) (pc' := 267) rfl ?_
    refine g_i2l hG X183 hx (hb hby at_267) (pc' := 268) rfl (v := (4 : Int64)) (by decide) ?_
    refine g_lload hG X183 hx (hb hby at_268) (pc' := 270) rfl rfl ?_
    obtain ⟨v270, q270⟩ : ∃ zz : Int64, (4 : Int64) * v180 = zz := ⟨_, rfl⟩
    refine g_lmul hG X183 hx (hb hby at_270) (pc' := 271) rfl q270 ?_
    refine g_aload hG X183 hx (hb hby at_271) (pc' := 273) rfl rfl rfl ?_
    refine g_iload hG X183 hx (hb hby at_273) (pc' := 275) rfl rfl ?_
    refine g_iaload hG X183 hx hZ eh183 V_dr (j := (4 : Int32)) (v := (.int 2)) (by decide) rfl (hb hby at_275) (pc' := 276) rfl ?_
    refine g_i2l hG X183 hx (hb hby at_276) (pc' := 277) rfl (v := (2 : Int64)) (by decide) ?_
    refine g_lload hG X183 hx (hb hby at_277) (pc' := 279) rfl rfl ?_
    obtain ⟨v279, q279⟩ : ∃ zz : Int64, (2 : Int64) * v187 = zz := ⟨_, rfl⟩
    refine g_lmul hG X183 hx (hb hby at_279) (pc' := 280) rfl q279 ?_
    obtain ⟨v280, q280⟩ : ∃ zz : Int64, v270 + v279 = zz := ⟨_, rfl⟩
    refine g_ladd hG X183 hx (hb hby at_280) (pc' := 281) rfl q280 ?_
    have e280 : v280.toInt = 4 * v180.toInt + 2 * v187.toInt := by
      have a1 := c_lmul (4 : Int64) v180
      have a2 := c_lmul (2 : Int64) v187
      have c1 : (4 : Int64).toInt = 4 := by decide
      have c2 : (2 : Int64).toInt = 2 := by decide
      rw [q270, c1] at a1
      rw [q279, c2] at a2
      have a3 := c_ladd v270 v279
      rw [q280] at a3
      have a4 := rng64 v270
      have a5 := rng64 v279
      have a6 := rng64 v280
      omega
    refine g_lstore hG X183 hx (hb hby at_281) (pc' := 283) rfl (Ls' := #[.val (.int aa), .val (.int bb), .val (.int cc), .val (.int dd), .val (.int sel), .val (.int 4), .val (.int v18), .val (.ref ar), .val (.ref b157), .val (.ref b165), .val (.ref dr), .val (.long v166), .second, .val (.long v173), .second, .val (.long v180), .second, .val (.long v187), .second, .val (.ref b), .val (.double v217), .second, .val (.int rs), .val (.long v259), .second, .val (.long v280), .second, .unset]) rfl ?_
    refine g_ldcLong hG X183 hx hZ hown (wd hw 43 rfl) (hb hby at_283) (pc' := 286) rfl ?_
    refine g_lload hG X183 hx (hb hby at_286) (pc' := 288) rfl rfl ?_
    refine g_lload hG X183 hx (hb hby at_288) (pc' := 290) rfl rfl ?_
    obtain ⟨v290, q290⟩ : ∃ zz : Int64, v259 - v280 = zz := ⟨_, rfl⟩
    refine g_lsub hG X183 hx (hb hby at_290) (pc' := 291) rfl q290 ?_
    obtain ⟨ab291, hab291⟩ : ∃ z : Int64, (if v290 < 0 then -v290 else v290) = z := ⟨_, rfl⟩
    have e_ab291 : (ab291.toInt = v259.toInt - v280.toInt ∧ v280.toInt ≤ v259.toInt) ∨ (ab291.toInt = v280.toInt - v259.toInt ∧ v259.toInt ≤ v280.toInt) := by
      have a := c_lsub v259 v280
      rw [q290] at a
      have b := rng64 v290
      have c := c_lneg v290
      have d := rng64 (-v290)
      have z : (0 : Int64).toInt = 0 := by decide
      by_cases g : v290 < 0
      · rw [← hab291, if_pos g]
        rw [Int64.lt_iff_toInt_lt, z] at g
        omega
      · rw [← hab291, if_neg g]
        rw [Int64.lt_iff_toInt_lt, z] at g
        omega
    refine g_callS hG X183 hx hZ (y := (⟨"java/lang/Math", "abs", "(J)J"⟩ : MethodName)) 2 hown (wd hw 44 rfl) (wd hw 45 rfl) (wd hw 22 rfl) (wd hw 46 rfl) (by decide) (rmAbs l Z a0 hw [] v290 T182.heap n0 Zs) (by decide) (by decide) (by rw [hml]; rfl) pd_6 rfl (argsL := [(.long v290)]) (rest := [(.long 4)]) rfl rfl (Nat.le_of_eq rfl) (hb hby at_291) eh183 (by decide) (by decide) (pc' := 294) rfl ?_
    intro T184 rv184 L184 X184 hQ184
    obtain ⟨rfl, Nq184, eh184⟩ := hQ184
    have NF184 := Fr.app NF183 Nq184
    rw [hab291]
    show G (T184.setTop (mkF m 294 _ [(.long ab291), (.long 4)]))
    obtain ⟨v294, q294⟩ : ∃ zz : Int64, (4 : Int64) * ab291 = zz := ⟨_, rfl⟩
    refine g_lmul hG X184 hx (hb hby at_294) (pc' := 295) rfl q294 ?_
    refine g_iload hG X184 hx (hb hby at_295) (pc' := 297) rfl rfl ?_
    obtain ⟨v297, q297⟩ : ∃ zz : Int64, v18.toInt64 = zz := ⟨_, rfl⟩
    refine g_i2l hG X184 hx (hb hby at_297) (pc' := 298) rfl q297 ?_
    refine g_lload hG X184 hx (hb hby at_298) (pc' := 300) rfl rfl ?_
    obtain ⟨v300, q300⟩ : ∃ zz : Int64, v297 * v280 = zz := ⟨_, rfl⟩
    refine g_lmul hG X184 hx (hb hby at_300) (pc' := 301) rfl q300 ?_
    have k294 : v294.toInt = 4 * ab291.toInt := by
      have a := c_lmul (4 : Int64) ab291
      have c : (4 : Int64).toInt = 4 := by decide
      rw [q294, c] at a
      have b := rng64 v294
      omega
    have k300 : v300.toInt = P := by
      have a := c_lmul v297 v280
      have c : v297.toInt = v18.toInt := by rw [← q297]; exact c_i2l v18
      rw [q300, c, e280, hP] at a
      have b := rng64 v300
      omega
    obtain ⟨v301, q301⟩ : ∃ zz : Int32, lcmpW v294 v300 = zz := ⟨_, rfl⟩
    refine g_lcmp hG X184 hx (hb hby at_301) (pc' := 302) rfl q301 ?_
    by_cases hc302 : (0 : Int32) < v301
    · refine g_ifNo hG X184 hx (hb hby at_302) (pc' := 305) ((if0 _ _).trans (tlt hc302).2.2.2) rfl ?_
      refine g_lload hG X184 hx (hb hby at_305) (pc' := 307) rfl rfl ?_
      refine g_lload hG X184 hx (hb hby at_307) (pc' := 309) rfl rfl ?_
      obtain ⟨v309, q309⟩ : ∃ zz : Int32, lcmpW v259 v280 = zz := ⟨_, rfl⟩
      refine g_lcmp hG X184 hx (hb hby at_309) (pc' := 310) rfl q309 ?_
      by_cases hc310 : v309 < (0 : Int32)
      · refine g_ifNo hG X184 hx (hb hby at_310) (pc' := 313) ((if0 _ _).trans (tlt hc310).2.1) rfl ?_
        refine g_iconst hG X184 hx (hb hby at_313) (pc' := 314) rfl (v := (1 : Int32)) rfl ?_
        refine g_goto hG X184 hx (hb hby at_314) (pc' := 318) (by decide) (by decide) ?_
        refine g_istore hG X184 hx (hb hby at_318) (pc' := 320) rfl (Ls' := #[.val (.int aa), .val (.int bb), .val (.int cc), .val (.int dd), .val (.int sel), .val (.int 4), .val (.int v18), .val (.ref ar), .val (.ref b157), .val (.ref b165), .val (.ref dr), .val (.long v166), .second, .val (.long v173), .second, .val (.long v180), .second, .val (.long v187), .second, .val (.ref b), .val (.double v217), .second, .val (.int rs), .val (.long v259), .second, .val (.long v280), .second, .val (.int 1)]) rfl ?_
        refine g_goto hG X184 hx (hb hby at_320) (pc' := 378) (by decide) (by decide) ?_
        refine g_iload hG X184 hx (hb hby at_378) (pc' := 380) rfl rfl ?_
        refine g_iload hG X184 hx (hb hby at_380) (pc' := 382) rfl rfl ?_
        have g302 : v300.toInt < v294.toInt := Int64.lt_iff_toInt_lt.mp ((lw_gt _ _).mp (by rw [q301]; exact hc302))
        have g310 : v259.toInt < v280.toInt := Int64.lt_iff_toInt_lt.mp ((lw_lt _ _).mp (by rw [q309]; exact hc310))
        have ers : rs = (1 : Int32) := by rw [hrs, if_pos (by omega), if_pos (by omega)]
        refine g_icmpNo hG X184 hx (hb hby at_382) (pc' := 385) ((teq ers).2) rfl ?_
        refine g_iconst hG X184 hx (hb hby at_385) (pc' := 386) rfl (v := (1 : Int32)) rfl ?_
        refine g_goto hG X184 hx (hb hby at_386) (pc' := 390) (by decide) (by decide) ?_
        exact e_retZ hGe X184 hx hrt hlk (hb hby at_390) (Or.inr rfl) eh184 (by decide) (by decide) (⟨rfl, NF184⟩)
      · refine g_ifYes hG X184 hx (hb hby at_310) (pc' := 317) ((if0 _ _).trans (flt hc310).2.1) (by decide) (by decide) ?_
        refine g_iconst hG X184 hx (hb hby at_317) (pc' := 318) rfl (v := (0 : Int32)) rfl ?_
        refine g_istore hG X184 hx (hb hby at_318) (pc' := 320) rfl (Ls' := #[.val (.int aa), .val (.int bb), .val (.int cc), .val (.int dd), .val (.int sel), .val (.int 4), .val (.int v18), .val (.ref ar), .val (.ref b157), .val (.ref b165), .val (.ref dr), .val (.long v166), .second, .val (.long v173), .second, .val (.long v180), .second, .val (.long v187), .second, .val (.ref b), .val (.double v217), .second, .val (.int rs), .val (.long v259), .second, .val (.long v280), .second, .val (.int 0)]) rfl ?_
        refine g_goto hG X184 hx (hb hby at_320) (pc' := 378) (by decide) (by decide) ?_
        refine g_iload hG X184 hx (hb hby at_378) (pc' := 380) rfl rfl ?_
        refine g_iload hG X184 hx (hb hby at_380) (pc' := 382) rfl rfl ?_
        have g302 : v300.toInt < v294.toInt := Int64.lt_iff_toInt_lt.mp ((lw_gt _ _).mp (by rw [q301]; exact hc302))
        have g310 : ¬ v259.toInt < v280.toInt := fun g => hc310 (by rw [← q309]; exact (lw_lt _ _).mpr (Int64.lt_iff_toInt_lt.mpr g))
        have ers : rs = (0 : Int32) := by rw [hrs, if_pos (by omega), if_neg (by omega)]
        refine g_icmpNo hG X184 hx (hb hby at_382) (pc' := 385) ((teq ers).2) rfl ?_
        refine g_iconst hG X184 hx (hb hby at_385) (pc' := 386) rfl (v := (1 : Int32)) rfl ?_
        refine g_goto hG X184 hx (hb hby at_386) (pc' := 390) (by decide) (by decide) ?_
        exact e_retZ hGe X184 hx hrt hlk (hb hby at_390) (Or.inr rfl) eh184 (by decide) (by decide) (⟨rfl, NF184⟩)
    · refine g_ifYes hG X184 hx (hb hby at_302) (pc' := 323) ((if0 _ _).trans (flt hc302).2.2.2) (by decide) (by decide) ?_
      refine g_ldcLong hG X184 hx hZ hown (wd hw 43 rfl) (hb hby at_323) (pc' := 326) rfl ?_
      refine g_lload hG X184 hx (hb hby at_326) (pc' := 328) rfl rfl ?_
      refine g_lload hG X184 hx (hb hby at_328) (pc' := 330) rfl rfl ?_
      obtain ⟨v330, q330⟩ : ∃ zz : Int64, v166 - v180 = zz := ⟨_, rfl⟩
      refine g_lsub hG X184 hx (hb hby at_330) (pc' := 331) rfl q330 ?_
      obtain ⟨ab331, hab331⟩ : ∃ z : Int64, (if v330 < 0 then -v330 else v330) = z := ⟨_, rfl⟩
      have e_ab331 : (ab331.toInt = v166.toInt - v180.toInt ∧ v180.toInt ≤ v166.toInt) ∨ (ab331.toInt = v180.toInt - v166.toInt ∧ v166.toInt ≤ v180.toInt) := by
        have a := c_lsub v166 v180
        rw [q330] at a
        have b := rng64 v330
        have c := c_lneg v330
        have d := rng64 (-v330)
        have z : (0 : Int64).toInt = 0 := by decide
        by_cases g : v330 < 0
        · rw [← hab331, if_pos g]
          rw [Int64.lt_iff_toInt_lt, z] at g
          omega
        · rw [← hab331, if_neg g]
          rw [Int64.lt_iff_toInt_lt, z] at g
          omega
      refine g_callS hG X184 hx hZ (y := (⟨"java/lang/Math", "abs", "(J)J"⟩ : MethodName)) 2 hown (wd hw 44 rfl) (wd hw 45 rfl) (wd hw 22 rfl) (wd hw 46 rfl) (by decide) (rmAbs l Z a0 hw [] v330 T182.heap n0 Zs) (by decide) (by decide) (by rw [hml]; rfl) pd_6 rfl (argsL := [(.long v330)]) (rest := [(.long 4)]) rfl rfl (Nat.le_of_eq rfl) (hb hby at_331) eh184 (by decide) (by decide) (pc' := 334) rfl ?_
      intro T185 rv185 L185 X185 hQ185
      obtain ⟨rfl, Nq185, eh185⟩ := hQ185
      have NF185 := Fr.app NF184 Nq185
      rw [hab331]
      show G (T185.setTop (mkF m 334 _ [(.long ab331), (.long 4)]))
      obtain ⟨v334, q334⟩ : ∃ zz : Int64, (4 : Int64) * ab331 = zz := ⟨_, rfl⟩
      refine g_lmul hG X185 hx (hb hby at_334) (pc' := 335) rfl q334 ?_
      refine g_iload hG X185 hx (hb hby at_335) (pc' := 337) rfl rfl ?_
      obtain ⟨v337, q337⟩ : ∃ zz : Int64, v18.toInt64 = zz := ⟨_, rfl⟩
      refine g_i2l hG X185 hx (hb hby at_337) (pc' := 338) rfl q337 ?_
      refine g_lload hG X185 hx (hb hby at_338) (pc' := 340) rfl rfl ?_
      obtain ⟨v340, q340⟩ : ∃ zz : Int64, v337 * v180 = zz := ⟨_, rfl⟩
      refine g_lmul hG X185 hx (hb hby at_340) (pc' := 341) rfl q340 ?_
      have k334 : v334.toInt = 4 * ab331.toInt := by
        have a := c_lmul (4 : Int64) ab331
        have c : (4 : Int64).toInt = 4 := by decide
        rw [q334, c] at a
        have b := rng64 v334
        omega
      have k340 : v340.toInt = R := by
        have a := c_lmul v337 v180
        have c : v337.toInt = v18.toInt := by rw [← q337]; exact c_i2l v18
        rw [q340, c, hR] at a
        have b := rng64 v340
        omega
      obtain ⟨v341, q341⟩ : ∃ zz : Int32, lcmpW v334 v340 = zz := ⟨_, rfl⟩
      refine g_lcmp hG X185 hx (hb hby at_341) (pc' := 342) rfl q341 ?_
      by_cases hc342 : (0 : Int32) < v341
      · refine g_ifNo hG X185 hx (hb hby at_342) (pc' := 345) ((if0 _ _).trans (tlt hc342).2.2.2) rfl ?_
        refine g_lload hG X185 hx (hb hby at_345) (pc' := 347) rfl rfl ?_
        refine g_lload hG X185 hx (hb hby at_347) (pc' := 349) rfl rfl ?_
        obtain ⟨v349, q349⟩ : ∃ zz : Int32, lcmpW v166 v180 = zz := ⟨_, rfl⟩
        refine g_lcmp hG X185 hx (hb hby at_349) (pc' := 350) rfl q349 ?_
        by_cases hc350 : v349 < (0 : Int32)
        · refine g_ifNo hG X185 hx (hb hby at_350) (pc' := 353) ((if0 _ _).trans (tlt hc350).2.1) rfl ?_
          refine g_iconst hG X185 hx (hb hby at_353) (pc' := 354) rfl (v := (1 : Int32)) rfl ?_
          refine g_goto hG X185 hx (hb hby at_354) (pc' := 358) (by decide) (by decide) ?_
          refine g_istore hG X185 hx (hb hby at_358) (pc' := 360) rfl (Ls' := #[.val (.int aa), .val (.int bb), .val (.int cc), .val (.int dd), .val (.int sel), .val (.int 4), .val (.int v18), .val (.ref ar), .val (.ref b157), .val (.ref b165), .val (.ref dr), .val (.long v166), .second, .val (.long v173), .second, .val (.long v180), .second, .val (.long v187), .second, .val (.ref b), .val (.double v217), .second, .val (.int rs), .val (.long v259), .second, .val (.long v280), .second, .val (.int 1)]) rfl ?_
          refine g_goto hG X185 hx (hb hby at_360) (pc' := 378) (by decide) (by decide) ?_
          refine g_iload hG X185 hx (hb hby at_378) (pc' := 380) rfl rfl ?_
          refine g_iload hG X185 hx (hb hby at_380) (pc' := 382) rfl rfl ?_
          have g302 : ¬ v300.toInt < v294.toInt := fun g => hc302 (by rw [← q301]; exact (lw_gt _ _).mpr (Int64.lt_iff_toInt_lt.mpr g))
          have g342 : v340.toInt < v334.toInt := Int64.lt_iff_toInt_lt.mp ((lw_gt _ _).mp (by rw [q341]; exact hc342))
          have g350 : v166.toInt < v180.toInt := Int64.lt_iff_toInt_lt.mp ((lw_lt _ _).mp (by rw [q349]; exact hc350))
          have ers : rs = (1 : Int32) := by rw [hrs, if_neg (by omega), if_pos (by omega), if_pos (by omega)]
          refine g_icmpNo hG X185 hx (hb hby at_382) (pc' := 385) ((teq ers).2) rfl ?_
          refine g_iconst hG X185 hx (hb hby at_385) (pc' := 386) rfl (v := (1 : Int32)) rfl ?_
          refine g_goto hG X185 hx (hb hby at_386) (pc' := 390) (by decide) (by decide) ?_
          exact e_retZ hGe X185 hx hrt hlk (hb hby at_390) (Or.inr rfl) eh185 (by decide) (by decide) (⟨rfl, NF185⟩)
        · refine g_ifYes hG X185 hx (hb hby at_350) (pc' := 357) ((if0 _ _).trans (flt hc350).2.1) (by decide) (by decide) ?_
          refine g_iconst hG X185 hx (hb hby at_357) (pc' := 358) rfl (v := (0 : Int32)) rfl ?_
          refine g_istore hG X185 hx (hb hby at_358) (pc' := 360) rfl (Ls' := #[.val (.int aa), .val (.int bb), .val (.int cc), .val (.int dd), .val (.int sel), .val (.int 4), .val (.int v18), .val (.ref ar), .val (.ref b157), .val (.ref b165), .val (.ref dr), .val (.long v166), .second, .val (.long v173), .second, .val (.long v180), .second, .val (.long v187), .second, .val (.ref b), .val (.double v217), .second, .val (.int rs), .val (.long v259), .second, .val (.long v280), .second, .val (.int 0)]) rfl ?_
          refine g_goto hG X185 hx (hb hby at_360) (pc' := 378) (by decide) (by decide) ?_
          refine g_iload hG X185 hx (hb hby at_378) (pc' := 380) rfl rfl ?_
          refine g_iload hG X185 hx (hb hby at_380) (pc' := 382) rfl rfl ?_
          have g302 : ¬ v300.toInt < v294.toInt := fun g => hc302 (by rw [← q301]; exact (lw_gt _ _).mpr (Int64.lt_iff_toInt_lt.mpr g))
          have g342 : v340.toInt < v334.toInt := Int64.lt_iff_toInt_lt.mp ((lw_gt _ _).mp (by rw [q341]; exact hc342))
          have g350 : ¬ v166.toInt < v180.toInt := fun g => hc350 (by rw [← q349]; exact (lw_lt _ _).mpr (Int64.lt_iff_toInt_lt.mpr g))
          have ers : rs = (0 : Int32) := by rw [hrs, if_neg (by omega), if_pos (by omega), if_neg (by omega)]
          refine g_icmpNo hG X185 hx (hb hby at_382) (pc' := 385) ((teq ers).2) rfl ?_
          refine g_iconst hG X185 hx (hb hby at_385) (pc' := 386) rfl (v := (1 : Int32)) rfl ?_
          refine g_goto hG X185 hx (hb hby at_386) (pc' := 390) (by decide) (by decide) ?_
          exact e_retZ hGe X185 hx hrt hlk (hb hby at_390) (Or.inr rfl) eh185 (by decide) (by decide) (⟨rfl, NF185⟩)
      · refine g_ifYes hG X185 hx (hb hby at_342) (pc' := 363) ((if0 _ _).trans (flt hc342).2.2.2) (by decide) (by decide) ?_
        refine g_lload hG X185 hx (hb hby at_363) (pc' := 365) rfl rfl ?_
        refine g_lload hG X185 hx (hb hby at_365) (pc' := 367) rfl rfl ?_
        obtain ⟨v367, q367⟩ : ∃ zz : Int32, lcmpW v173 v187 = zz := ⟨_, rfl⟩
        refine g_lcmp hG X185 hx (hb hby at_367) (pc' := 368) rfl q367 ?_
        by_cases hc368 : v367 < (0 : Int32)
        · refine g_ifNo hG X185 hx (hb hby at_368) (pc' := 371) ((if0 _ _).trans (tlt hc368).2.1) rfl ?_
          refine g_iconst hG X185 hx (hb hby at_371) (pc' := 372) rfl (v := (1 : Int32)) rfl ?_
          refine g_goto hG X185 hx (hb hby at_372) (pc' := 376) (by decide) (by decide) ?_
          refine g_istore hG X185 hx (hb hby at_376) (pc' := 378) rfl (Ls' := #[.val (.int aa), .val (.int bb), .val (.int cc), .val (.int dd), .val (.int sel), .val (.int 4), .val (.int v18), .val (.ref ar), .val (.ref b157), .val (.ref b165), .val (.ref dr), .val (.long v166), .second, .val (.long v173), .second, .val (.long v180), .second, .val (.long v187), .second, .val (.ref b), .val (.double v217), .second, .val (.int rs), .val (.long v259), .second, .val (.long v280), .second, .val (.int 1)]) rfl ?_
          refine g_iload hG X185 hx (hb hby at_378) (pc' := 380) rfl rfl ?_
          refine g_iload hG X185 hx (hb hby at_380) (pc' := 382) rfl rfl ?_
          have g302 : ¬ v300.toInt < v294.toInt := fun g => hc302 (by rw [← q301]; exact (lw_gt _ _).mpr (Int64.lt_iff_toInt_lt.mpr g))
          have g342 : ¬ v340.toInt < v334.toInt := fun g => hc342 (by rw [← q341]; exact (lw_gt _ _).mpr (Int64.lt_iff_toInt_lt.mpr g))
          have g368 : v173.toInt < v187.toInt := Int64.lt_iff_toInt_lt.mp ((lw_lt _ _).mp (by rw [q367]; exact hc368))
          have ers : rs = (1 : Int32) := by rw [hrs, if_neg (by omega), if_neg (by omega), if_pos (by omega)]
          refine g_icmpNo hG X185 hx (hb hby at_382) (pc' := 385) ((teq ers).2) rfl ?_
          refine g_iconst hG X185 hx (hb hby at_385) (pc' := 386) rfl (v := (1 : Int32)) rfl ?_
          refine g_goto hG X185 hx (hb hby at_386) (pc' := 390) (by decide) (by decide) ?_
          exact e_retZ hGe X185 hx hrt hlk (hb hby at_390) (Or.inr rfl) eh185 (by decide) (by decide) (⟨rfl, NF185⟩)
        · refine g_ifYes hG X185 hx (hb hby at_368) (pc' := 375) ((if0 _ _).trans (flt hc368).2.1) (by decide) (by decide) ?_
          refine g_iconst hG X185 hx (hb hby at_375) (pc' := 376) rfl (v := (0 : Int32)) rfl ?_
          refine g_istore hG X185 hx (hb hby at_376) (pc' := 378) rfl (Ls' := #[.val (.int aa), .val (.int bb), .val (.int cc), .val (.int dd), .val (.int sel), .val (.int 4), .val (.int v18), .val (.ref ar), .val (.ref b157), .val (.ref b165), .val (.ref dr), .val (.long v166), .second, .val (.long v173), .second, .val (.long v180), .second, .val (.long v187), .second, .val (.ref b), .val (.double v217), .second, .val (.int rs), .val (.long v259), .second, .val (.long v280), .second, .val (.int 0)]) rfl ?_
          refine g_iload hG X185 hx (hb hby at_378) (pc' := 380) rfl rfl ?_
          refine g_iload hG X185 hx (hb hby at_380) (pc' := 382) rfl rfl ?_
          have g302 : ¬ v300.toInt < v294.toInt := fun g => hc302 (by rw [← q301]; exact (lw_gt _ _).mpr (Int64.lt_iff_toInt_lt.mpr g))
          have g342 : ¬ v340.toInt < v334.toInt := fun g => hc342 (by rw [← q341]; exact (lw_gt _ _).mpr (Int64.lt_iff_toInt_lt.mpr g))
          have g368 : ¬ v173.toInt < v187.toInt := fun g => hc368 (by rw [← q367]; exact (lw_lt _ _).mpr (Int64.lt_iff_toInt_lt.mpr g))
          have ers : rs = (0 : Int32) := by rw [hrs, if_neg (by omega), if_neg (by omega), if_neg (by omega)]
          refine g_icmpNo hG X185 hx (hb hby at_382) (pc' := 385) ((teq ers).2) rfl ?_
          refine g_iconst hG X185 hx (hb hby at_385) (pc' := 386) rfl (v := (1 : Int32)) rfl ?_
          refine g_goto hG X185 hx (hb hby at_386) (pc' := 390) (by decide) (by decide) ?_
          exact e_retZ hGe X185 hx hrt hlk (hb hby at_390) (Or.inr rfl) eh185 (by decide) (by decide) (⟨rfl, NF185⟩)
  · skip
    show G (s₁.setTop (mkF m 9 _ [(.int 5)]))
    refine g_istore hG X0 hx (hb hby at_9) (pc' := 11) rfl (Ls' := #[.val (.int aa), .val (.int bb), .val (.int cc), .val (.int dd), .val (.int sel), .val (.int 5), .unset, .unset, .unset, .unset, .unset, .unset, .unset, .unset, .unset, .unset, .unset, .unset, .unset, .unset, .unset, .unset, .unset, .unset, .unset, .unset, .unset, .unset]) rfl ?_
    refine g_iload hG X0 hx (hb hby at_11) (pc' := 13) rfl rfl ?_
    refine g_bipush hG X0 hx (hb hby at_13) (pc' := 15) rfl (v := (8 : Int32)) rfl ?_
    obtain ⟨v15, q15⟩ : ∃ zz : Int32, (sel.toUInt32 >>> ((8 : Int32) &&& 31).toUInt32).toInt32 = zz := ⟨_, rfl⟩
    refine g_iushr hG X0 hx (hb hby at_15) (pc' := 16) rfl q15 ?_
    refine g_bipush hG X0 hx (hb hby at_16) (pc' := 18) rfl (v := (7 : Int32)) rfl ?_
    obtain ⟨v18, q18⟩ : ∃ zz : Int32, v15 &&& (7 : Int32) = zz := ⟨_, rfl⟩
    refine g_iand hG X0 hx (hb hby at_18) (pc' := 19) rfl q18 ?_
    have b18 : 0 ≤ v18.toInt ∧ v18.toInt ≤ 7 := by rw [← q18]; exact c_and v15 7 (by decide)
    refine g_istore hG X0 hx (hb hby at_19) (pc' := 21) rfl (Ls' := #[.val (.int aa), .val (.int bb), .val (.int cc), .val (.int dd), .val (.int sel), .val (.int 5), .val (.int v18), .unset, .unset, .unset, .unset, .unset, .unset, .unset, .unset, .unset, .unset, .unset, .unset, .unset, .unset, .unset, .unset, .unset, .unset, .unset, .unset, .unset]) rfl ?_
    refine g_bipush hG X0 hx (hb hby at_21) (pc' := 23) rfl (v := (7 : Int32)) rfl ?_
    refine g_newP hG X0 hx hZ (wd hw 0 rfl) e0 (hb hby at_23) (by decide) 7 (by decide) (by decide) (by decide) (by decide) (pc' := 25) rfl ?_
    intro T186 h186 ar kA186 gs186 X186 e186 E186 A186
    have ge_ar : n0 ≤ ar := gs186 ▸ Zs
    have Zs := Nat.le_trans Zs E186.1
    have V_ar : AV Z h186 ar .int (7 : Int32) [(.int 0), (.int 0), (.int 0), (.int 0), (.int 0), (.int 0), (.int 0)] := AV.new A186
    refine g_dup hG X186 hx (hb hby at_25) (pc' := 26) rfl rfl ?_
    refine g_iconst hG X186 hx (hb hby at_26) (pc' := 27) rfl (v := (0 : Int32)) rfl ?_
    refine g_iconst hG X186 hx (hb hby at_27) (pc' := 28) rfl (v := (1 : Int32)) rfl ?_
    refine g_iastore hG X186 hx hZ e186 V_ar (j := (0 : Int32)) (by decide) (show Int32.toNatClampNeg (0 : Int32) < 7 by decide) (hb hby at_28) (pc' := 29) rfl ?_
    intro T187 h187 X187 e187 W187 Vn187
    have V_ar : AV Z h187 ar .int (7 : Int32) [(.int 1), (.int 0), (.int 0), (.int 0), (.int 0), (.int 0), (.int 0)] := Vn187
    have Zs := Nat.le_trans Zs (Wr.size W187)
    have NF187 := Fr.snoc X187 NF0 ge_ar
    refine g_dup hG X187 hx (hb hby at_29) (pc' := 30) rfl rfl ?_
    refine g_iconst hG X187 hx (hb hby at_30) (pc' := 31) rfl (v := (1 : Int32)) rfl ?_
    refine g_iconst hG X187 hx (hb hby at_31) (pc' := 32) rfl (v := (0 : Int32)) rfl ?_
    refine g_iastore hG X187 hx hZ e187 V_ar (j := (1 : Int32)) (by decide) (show Int32.toNatClampNeg (1 : Int32) < 7 by decide) (hb hby at_32) (pc' := 33) rfl ?_
    intro T188 h188 X188 e188 W188 Vn188
    have V_ar : AV Z h188 ar .int (7 : Int32) [(.int 1), (.int 0), (.int 0), (.int 0), (.int 0), (.int 0), (.int 0)] := Vn188
    have Zs := Nat.le_trans Zs (Wr.size W188)
    have NF188 := Fr.snoc X188 NF187 ge_ar
    refine g_dup hG X188 hx (hb hby at_33) (pc' := 34) rfl rfl ?_
    refine g_iconst hG X188 hx (hb hby at_34) (pc' := 35) rfl (v := (2 : Int32)) rfl ?_
    refine g_iconst hG X188 hx (hb hby at_35) (pc' := 36) rfl (v := (3 : Int32)) rfl ?_
    refine g_iastore hG X188 hx hZ e188 V_ar (j := (2 : Int32)) (by decide) (show Int32.toNatClampNeg (2 : Int32) < 7 by decide) (hb hby at_36) (pc' := 37) rfl ?_
    intro T189 h189 X189 e189 W189 Vn189
    have V_ar : AV Z h189 ar .int (7 : Int32) [(.int 1), (.int 0), (.int 3), (.int 0), (.int 0), (.int 0), (.int 0)] := Vn189
    have Zs := Nat.le_trans Zs (Wr.size W189)
    have NF189 := Fr.snoc X189 NF188 ge_ar
    refine g_dup hG X189 hx (hb hby at_37) (pc' := 38) rfl rfl ?_
    refine g_iconst hG X189 hx (hb hby at_38) (pc' := 39) rfl (v := (3 : Int32)) rfl ?_
    refine g_iconst hG X189 hx (hb hby at_39) (pc' := 40) rfl (v := (1 : Int32)) rfl ?_
    refine g_iastore hG X189 hx hZ e189 V_ar (j := (3 : Int32)) (by decide) (show Int32.toNatClampNeg (3 : Int32) < 7 by decide) (hb hby at_40) (pc' := 41) rfl ?_
    intro T190 h190 X190 e190 W190 Vn190
    have V_ar : AV Z h190 ar .int (7 : Int32) [(.int 1), (.int 0), (.int 3), (.int 1), (.int 0), (.int 0), (.int 0)] := Vn190
    have Zs := Nat.le_trans Zs (Wr.size W190)
    have NF190 := Fr.snoc X190 NF189 ge_ar
    refine g_dup hG X190 hx (hb hby at_41) (pc' := 42) rfl rfl ?_
    refine g_iconst hG X190 hx (hb hby at_42) (pc' := 43) rfl (v := (4 : Int32)) rfl ?_
    refine g_bipush hG X190 hx (hb hby at_43) (pc' := 45) rfl (v := (8 : Int32)) rfl ?_
    refine g_iastore hG X190 hx hZ e190 V_ar (j := (4 : Int32)) (by decide) (show Int32.toNatClampNeg (4 : Int32) < 7 by decide) (hb hby at_45) (pc' := 46) rfl ?_
    intro T191 h191 X191 e191 W191 Vn191
    have V_ar : AV Z h191 ar .int (7 : Int32) [(.int 1), (.int 0), (.int 3), (.int 1), (.int 8), (.int 0), (.int 0)] := Vn191
    have Zs := Nat.le_trans Zs (Wr.size W191)
    have NF191 := Fr.snoc X191 NF190 ge_ar
    refine g_dup hG X191 hx (hb hby at_46) (pc' := 47) rfl rfl ?_
    refine g_iconst hG X191 hx (hb hby at_47) (pc' := 48) rfl (v := (5 : Int32)) rfl ?_
    refine g_iconst hG X191 hx (hb hby at_48) (pc' := 49) rfl (v := (1 : Int32)) rfl ?_
    refine g_iastore hG X191 hx hZ e191 V_ar (j := (5 : Int32)) (by decide) (show Int32.toNatClampNeg (5 : Int32) < 7 by decide) (hb hby at_49) (pc' := 50) rfl ?_
    intro T192 h192 X192 e192 W192 Vn192
    have V_ar : AV Z h192 ar .int (7 : Int32) [(.int 1), (.int 0), (.int 3), (.int 1), (.int 8), (.int 1), (.int 0)] := Vn192
    have Zs := Nat.le_trans Zs (Wr.size W192)
    have NF192 := Fr.snoc X192 NF191 ge_ar
    refine g_dup hG X192 hx (hb hby at_50) (pc' := 51) rfl rfl ?_
    refine g_bipush hG X192 hx (hb hby at_51) (pc' := 53) rfl (v := (6 : Int32)) rfl ?_
    refine g_iconst hG X192 hx (hb hby at_53) (pc' := 54) rfl (v := (4 : Int32)) rfl ?_
    refine g_iastore hG X192 hx hZ e192 V_ar (j := (6 : Int32)) (by decide) (show Int32.toNatClampNeg (6 : Int32) < 7 by decide) (hb hby at_54) (pc' := 55) rfl ?_
    intro T193 h193 X193 e193 W193 Vn193
    have V_ar : AV Z h193 ar .int (7 : Int32) [(.int 1), (.int 0), (.int 3), (.int 1), (.int 8), (.int 1), (.int 4)] := Vn193
    have Zs := Nat.le_trans Zs (Wr.size W193)
    have NF193 := Fr.snoc X193 NF192 ge_ar
    refine g_astore hG X193 hx (hb hby at_55) (pc' := 57) rfl rfl (Ls' := #[.val (.int aa), .val (.int bb), .val (.int cc), .val (.int dd), .val (.int sel), .val (.int 5), .val (.int v18), .val (.ref ar), .unset, .unset, .unset, .unset, .unset, .unset, .unset, .unset, .unset, .unset, .unset, .unset, .unset, .unset, .unset, .unset, .unset, .unset, .unset, .unset]) rfl ?_
    refine g_bipush hG X193 hx (hb hby at_57) (pc' := 59) rfl (v := (7 : Int32)) rfl ?_
    refine g_newP hG X193 hx hZ (wd hw 0 rfl) e193 (hb hby at_59) (by decide) 7 (by decide) (by decide) (by decide) (by decide) (pc' := 61) rfl ?_
    intro T194 h194 b194 kA194 gs194 X194 e194 E194 A194
    have ne_ar_b194 : ar ≠ b194 := Nat.ne_of_lt (gs194 ▸ V_ar.lt)
    have ge_b194 : n0 ≤ b194 := gs194 ▸ Zs
    have Zs := Nat.le_trans Zs E194.1
    have V_ar := V_ar.ext E194
    have V_b194 : AV Z h194 b194 .int (7 : Int32) [(.int 0), (.int 0), (.int 0), (.int 0), (.int 0), (.int 0), (.int 0)] := AV.new A194
    refine g_dup hG X194 hx (hb hby at_61) (pc' := 62) rfl rfl ?_
    refine g_iconst hG X194 hx (hb hby at_62) (pc' := 63) rfl (v := (0 : Int32)) rfl ?_
    refine g_iconst hG X194 hx (hb hby at_63) (pc' := 64) rfl (v := (0 : Int32)) rfl ?_
    refine g_iastore hG X194 hx hZ e194 V_b194 (j := (0 : Int32)) (by decide) (show Int32.toNatClampNeg (0 : Int32) < 7 by decide) (hb hby at_64) (pc' := 65) rfl ?_
    intro T195 h195 X195 e195 W195 Vn195
    have V_b194 : AV Z h195 b194 .int (7 : Int32) [(.int 0), (.int 0), (.int 0), (.int 0), (.int 0), (.int 0), (.int 0)] := Vn195
    have V_ar := V_ar.other W195 ne_ar_b194
    have Zs := Nat.le_trans Zs (Wr.size W195)
    have NF195 := Fr.snoc X195 NF193 ge_b194
    refine g_dup hG X195 hx (hb hby at_65) (pc' := 66) rfl rfl ?_
    refine g_iconst hG X195 hx (hb hby at_66) (pc' := 67) rfl (v := (1 : Int32)) rfl ?_
    refine g_iconst hG X195 hx (hb hby at_67) (pc' := 68) rfl (v := (2 : Int32)) rfl ?_
    refine g_iastore hG X195 hx hZ e195 V_b194 (j := (1 : Int32)) (by decide) (show Int32.toNatClampNeg (1 : Int32) < 7 by decide) (hb hby at_68) (pc' := 69) rfl ?_
    intro T196 h196 X196 e196 W196 Vn196
    have V_b194 : AV Z h196 b194 .int (7 : Int32) [(.int 0), (.int 2), (.int 0), (.int 0), (.int 0), (.int 0), (.int 0)] := Vn196
    have V_ar := V_ar.other W196 ne_ar_b194
    have Zs := Nat.le_trans Zs (Wr.size W196)
    have NF196 := Fr.snoc X196 NF195 ge_b194
    refine g_dup hG X196 hx (hb hby at_69) (pc' := 70) rfl rfl ?_
    refine g_iconst hG X196 hx (hb hby at_70) (pc' := 71) rfl (v := (2 : Int32)) rfl ?_
    refine g_iconst hG X196 hx (hb hby at_71) (pc' := 72) rfl (v := (3 : Int32)) rfl ?_
    refine g_iastore hG X196 hx hZ e196 V_b194 (j := (2 : Int32)) (by decide) (show Int32.toNatClampNeg (2 : Int32) < 7 by decide) (hb hby at_72) (pc' := 73) rfl ?_
    intro T197 h197 X197 e197 W197 Vn197
    have V_b194 : AV Z h197 b194 .int (7 : Int32) [(.int 0), (.int 2), (.int 3), (.int 0), (.int 0), (.int 0), (.int 0)] := Vn197
    have V_ar := V_ar.other W197 ne_ar_b194
    have Zs := Nat.le_trans Zs (Wr.size W197)
    have NF197 := Fr.snoc X197 NF196 ge_b194
    refine g_dup hG X197 hx (hb hby at_73) (pc' := 74) rfl rfl ?_
    refine g_iconst hG X197 hx (hb hby at_74) (pc' := 75) rfl (v := (3 : Int32)) rfl ?_
    refine g_iconst hG X197 hx (hb hby at_75) (pc' := 76) rfl (v := (2 : Int32)) rfl ?_
    refine g_iastore hG X197 hx hZ e197 V_b194 (j := (3 : Int32)) (by decide) (show Int32.toNatClampNeg (3 : Int32) < 7 by decide) (hb hby at_76) (pc' := 77) rfl ?_
    intro T198 h198 X198 e198 W198 Vn198
    have V_b194 : AV Z h198 b194 .int (7 : Int32) [(.int 0), (.int 2), (.int 3), (.int 2), (.int 0), (.int 0), (.int 0)] := Vn198
    have V_ar := V_ar.other W198 ne_ar_b194
    have Zs := Nat.le_trans Zs (Wr.size W198)
    have NF198 := Fr.snoc X198 NF197 ge_b194
    refine g_dup hG X198 hx (hb hby at_77) (pc' := 78) rfl rfl ?_
    refine g_iconst hG X198 hx (hb hby at_78) (pc' := 79) rfl (v := (4 : Int32)) rfl ?_
    refine g_iconst hG X198 hx (hb hby at_79) (pc' := 80) rfl (v := (4 : Int32)) rfl ?_
    refine g_iastore hG X198 hx hZ e198 V_b194 (j := (4 : Int32)) (by decide) (show Int32.toNatClampNeg (4 : Int32) < 7 by decide) (hb hby at_80) (pc' := 81) rfl ?_
    intro T199 h199 X199 e199 W199 Vn199
    have V_b194 : AV Z h199 b194 .int (7 : Int32) [(.int 0), (.int 2), (.int 3), (.int 2), (.int 4), (.int 0), (.int 0)] := Vn199
    have V_ar := V_ar.other W199 ne_ar_b194
    have Zs := Nat.le_trans Zs (Wr.size W199)
    have NF199 := Fr.snoc X199 NF198 ge_b194
    refine g_dup hG X199 hx (hb hby at_81) (pc' := 82) rfl rfl ?_
    refine g_iconst hG X199 hx (hb hby at_82) (pc' := 83) rfl (v := (5 : Int32)) rfl ?_
    refine g_iconst hG X199 hx (hb hby at_83) (pc' := 84) rfl (v := (4 : Int32)) rfl ?_
    refine g_iastore hG X199 hx hZ e199 V_b194 (j := (5 : Int32)) (by decide) (show Int32.toNatClampNeg (5 : Int32) < 7 by decide) (hb hby at_84) (pc' := 85) rfl ?_
    intro T200 h200 X200 e200 W200 Vn200
    have V_b194 : AV Z h200 b194 .int (7 : Int32) [(.int 0), (.int 2), (.int 3), (.int 2), (.int 4), (.int 4), (.int 0)] := Vn200
    have V_ar := V_ar.other W200 ne_ar_b194
    have Zs := Nat.le_trans Zs (Wr.size W200)
    have NF200 := Fr.snoc X200 NF199 ge_b194
    refine g_dup hG X200 hx (hb hby at_85) (pc' := 86) rfl rfl ?_
    refine g_bipush hG X200 hx (hb hby at_86) (pc' := 88) rfl (v := (6 : Int32)) rfl ?_
    refine g_iconst hG X200 hx (hb hby at_88) (pc' := 89) rfl (v := (1 : Int32)) rfl ?_
    refine g_iastore hG X200 hx hZ e200 V_b194 (j := (6 : Int32)) (by decide) (show Int32.toNatClampNeg (6 : Int32) < 7 by decide) (hb hby at_89) (pc' := 90) rfl ?_
    intro T201 h201 X201 e201 W201 Vn201
    have V_b194 : AV Z h201 b194 .int (7 : Int32) [(.int 0), (.int 2), (.int 3), (.int 2), (.int 4), (.int 4), (.int 1)] := Vn201
    have V_ar := V_ar.other W201 ne_ar_b194
    have Zs := Nat.le_trans Zs (Wr.size W201)
    have NF201 := Fr.snoc X201 NF200 ge_b194
    refine g_astore hG X201 hx (hb hby at_90) (pc' := 92) rfl rfl (Ls' := #[.val (.int aa), .val (.int bb), .val (.int cc), .val (.int dd), .val (.int sel), .val (.int 5), .val (.int v18), .val (.ref ar), .val (.ref b194), .unset, .unset, .unset, .unset, .unset, .unset, .unset, .unset, .unset, .unset, .unset, .unset, .unset, .unset, .unset, .unset, .unset, .unset, .unset]) rfl ?_
    refine g_bipush hG X201 hx (hb hby at_92) (pc' := 94) rfl (v := (7 : Int32)) rfl ?_
    refine g_newP hG X201 hx hZ (wd hw 0 rfl) e201 (hb hby at_94) (by decide) 7 (by decide) (by decide) (by decide) (by decide) (pc' := 96) rfl ?_
    intro T202 h202 b202 kA202 gs202 X202 e202 E202 A202
    have ne_ar_b202 : ar ≠ b202 := Nat.ne_of_lt (gs202 ▸ V_ar.lt)
    have ne_b194_b202 : b194 ≠ b202 := Nat.ne_of_lt (gs202 ▸ V_b194.lt)
    have ge_b202 : n0 ≤ b202 := gs202 ▸ Zs
    have Zs := Nat.le_trans Zs E202.1
    have V_ar := V_ar.ext E202
    have V_b194 := V_b194.ext E202
    have V_b202 : AV Z h202 b202 .int (7 : Int32) [(.int 0), (.int 0), (.int 0), (.int 0), (.int 0), (.int 0), (.int 0)] := AV.new A202
    refine g_dup hG X202 hx (hb hby at_96) (pc' := 97) rfl rfl ?_
    refine g_iconst hG X202 hx (hb hby at_97) (pc' := 98) rfl (v := (0 : Int32)) rfl ?_
    refine g_iconst hG X202 hx (hb hby at_98) (pc' := 99) rfl (v := (4 : Int32)) rfl ?_
    refine g_iastore hG X202 hx hZ e202 V_b202 (j := (0 : Int32)) (by decide) (show Int32.toNatClampNeg (0 : Int32) < 7 by decide) (hb hby at_99) (pc' := 100) rfl ?_
    intro T203 h203 X203 e203 W203 Vn203
    have V_b202 : AV Z h203 b202 .int (7 : Int32) [(.int 4), (.int 0), (.int 0), (.int 0), (.int 0), (.int 0), (.int 0)] := Vn203
    have V_ar := V_ar.other W203 ne_ar_b202
    have V_b194 := V_b194.other W203 ne_b194_b202
    have Zs := Nat.le_trans Zs (Wr.size W203)
    have NF203 := Fr.snoc X203 NF201 ge_b202
    refine g_dup hG X203 hx (hb hby at_100) (pc' := 101) rfl rfl ?_
    refine g_iconst hG X203 hx (hb hby at_101) (pc' := 102) rfl (v := (1 : Int32)) rfl ?_
    refine g_iconst hG X203 hx (hb hby at_102) (pc' := 103) rfl (v := (0 : Int32)) rfl ?_
    refine g_iastore hG X203 hx hZ e203 V_b202 (j := (1 : Int32)) (by decide) (show Int32.toNatClampNeg (1 : Int32) < 7 by decide) (hb hby at_103) (pc' := 104) rfl ?_
    intro T204 h204 X204 e204 W204 Vn204
    have V_b202 : AV Z h204 b202 .int (7 : Int32) [(.int 4), (.int 0), (.int 0), (.int 0), (.int 0), (.int 0), (.int 0)] := Vn204
    have V_ar := V_ar.other W204 ne_ar_b202
    have V_b194 := V_b194.other W204 ne_b194_b202
    have Zs := Nat.le_trans Zs (Wr.size W204)
    have NF204 := Fr.snoc X204 NF203 ge_b202
    refine g_dup hG X204 hx (hb hby at_104) (pc' := 105) rfl rfl ?_
    refine g_iconst hG X204 hx (hb hby at_105) (pc' := 106) rfl (v := (2 : Int32)) rfl ?_
    refine g_iconst hG X204 hx (hb hby at_106) (pc' := 107) rfl (v := (4 : Int32)) rfl ?_
    refine g_iastore hG X204 hx hZ e204 V_b202 (j := (2 : Int32)) (by decide) (show Int32.toNatClampNeg (2 : Int32) < 7 by decide) (hb hby at_107) (pc' := 108) rfl ?_
    intro T205 h205 X205 e205 W205 Vn205
    have V_b202 : AV Z h205 b202 .int (7 : Int32) [(.int 4), (.int 0), (.int 4), (.int 0), (.int 0), (.int 0), (.int 0)] := Vn205
    have V_ar := V_ar.other W205 ne_ar_b202
    have V_b194 := V_b194.other W205 ne_b194_b202
    have Zs := Nat.le_trans Zs (Wr.size W205)
    have NF205 := Fr.snoc X205 NF204 ge_b202
    refine g_dup hG X205 hx (hb hby at_108) (pc' := 109) rfl rfl ?_
    refine g_iconst hG X205 hx (hb hby at_109) (pc' := 110) rfl (v := (3 : Int32)) rfl ?_
    refine g_iconst hG X205 hx (hb hby at_110) (pc' := 111) rfl (v := (2 : Int32)) rfl ?_
    refine g_iastore hG X205 hx hZ e205 V_b202 (j := (3 : Int32)) (by decide) (show Int32.toNatClampNeg (3 : Int32) < 7 by decide) (hb hby at_111) (pc' := 112) rfl ?_
    intro T206 h206 X206 e206 W206 Vn206
    have V_b202 : AV Z h206 b202 .int (7 : Int32) [(.int 4), (.int 0), (.int 4), (.int 2), (.int 0), (.int 0), (.int 0)] := Vn206
    have V_ar := V_ar.other W206 ne_ar_b202
    have V_b194 := V_b194.other W206 ne_b194_b202
    have Zs := Nat.le_trans Zs (Wr.size W206)
    have NF206 := Fr.snoc X206 NF205 ge_b202
    refine g_dup hG X206 hx (hb hby at_112) (pc' := 113) rfl rfl ?_
    refine g_iconst hG X206 hx (hb hby at_113) (pc' := 114) rfl (v := (4 : Int32)) rfl ?_
    refine g_iconst hG X206 hx (hb hby at_114) (pc' := 115) rfl (v := (4 : Int32)) rfl ?_
    refine g_iastore hG X206 hx hZ e206 V_b202 (j := (4 : Int32)) (by decide) (show Int32.toNatClampNeg (4 : Int32) < 7 by decide) (hb hby at_115) (pc' := 116) rfl ?_
    intro T207 h207 X207 e207 W207 Vn207
    have V_b202 : AV Z h207 b202 .int (7 : Int32) [(.int 4), (.int 0), (.int 4), (.int 2), (.int 4), (.int 0), (.int 0)] := Vn207
    have V_ar := V_ar.other W207 ne_ar_b202
    have V_b194 := V_b194.other W207 ne_b194_b202
    have Zs := Nat.le_trans Zs (Wr.size W207)
    have NF207 := Fr.snoc X207 NF206 ge_b202
    refine g_dup hG X207 hx (hb hby at_116) (pc' := 117) rfl rfl ?_
    refine g_iconst hG X207 hx (hb hby at_117) (pc' := 118) rfl (v := (5 : Int32)) rfl ?_
    refine g_iconst hG X207 hx (hb hby at_118) (pc' := 119) rfl (v := (1 : Int32)) rfl ?_
    refine g_iastore hG X207 hx hZ e207 V_b202 (j := (5 : Int32)) (by decide) (show Int32.toNatClampNeg (5 : Int32) < 7 by decide) (hb hby at_119) (pc' := 120) rfl ?_
    intro T208 h208 X208 e208 W208 Vn208
    have V_b202 : AV Z h208 b202 .int (7 : Int32) [(.int 4), (.int 0), (.int 4), (.int 2), (.int 4), (.int 1), (.int 0)] := Vn208
    have V_ar := V_ar.other W208 ne_ar_b202
    have V_b194 := V_b194.other W208 ne_b194_b202
    have Zs := Nat.le_trans Zs (Wr.size W208)
    have NF208 := Fr.snoc X208 NF207 ge_b202
    refine g_dup hG X208 hx (hb hby at_120) (pc' := 121) rfl rfl ?_
    refine g_bipush hG X208 hx (hb hby at_121) (pc' := 123) rfl (v := (6 : Int32)) rfl ?_
    refine g_iconst hG X208 hx (hb hby at_123) (pc' := 124) rfl (v := (4 : Int32)) rfl ?_
    refine g_iastore hG X208 hx hZ e208 V_b202 (j := (6 : Int32)) (by decide) (show Int32.toNatClampNeg (6 : Int32) < 7 by decide) (hb hby at_124) (pc' := 125) rfl ?_
    intro T209 h209 X209 e209 W209 Vn209
    have V_b202 : AV Z h209 b202 .int (7 : Int32) [(.int 4), (.int 0), (.int 4), (.int 2), (.int 4), (.int 1), (.int 4)] := Vn209
    have V_ar := V_ar.other W209 ne_ar_b202
    have V_b194 := V_b194.other W209 ne_b194_b202
    have Zs := Nat.le_trans Zs (Wr.size W209)
    have NF209 := Fr.snoc X209 NF208 ge_b202
    refine g_astore hG X209 hx (hb hby at_125) (pc' := 127) rfl rfl (Ls' := #[.val (.int aa), .val (.int bb), .val (.int cc), .val (.int dd), .val (.int sel), .val (.int 5), .val (.int v18), .val (.ref ar), .val (.ref b194), .val (.ref b202), .unset, .unset, .unset, .unset, .unset, .unset, .unset, .unset, .unset, .unset, .unset, .unset, .unset, .unset, .unset, .unset, .unset, .unset]) rfl ?_
    refine g_bipush hG X209 hx (hb hby at_127) (pc' := 129) rfl (v := (7 : Int32)) rfl ?_
    refine g_newP hG X209 hx hZ (wd hw 0 rfl) e209 (hb hby at_129) (by decide) 7 (by decide) (by decide) (by decide) (by decide) (pc' := 131) rfl ?_
    intro T210 h210 dr kA210 gs210 X210 e210 E210 A210
    have ne_ar_dr : ar ≠ dr := Nat.ne_of_lt (gs210 ▸ V_ar.lt)
    have ne_b194_dr : b194 ≠ dr := Nat.ne_of_lt (gs210 ▸ V_b194.lt)
    have ne_b202_dr : b202 ≠ dr := Nat.ne_of_lt (gs210 ▸ V_b202.lt)
    have ge_dr : n0 ≤ dr := gs210 ▸ Zs
    have Zs := Nat.le_trans Zs E210.1
    have V_ar := V_ar.ext E210
    have V_b194 := V_b194.ext E210
    have V_b202 := V_b202.ext E210
    have V_dr : AV Z h210 dr .int (7 : Int32) [(.int 0), (.int 0), (.int 0), (.int 0), (.int 0), (.int 0), (.int 0)] := AV.new A210
    refine g_dup hG X210 hx (hb hby at_131) (pc' := 132) rfl rfl ?_
    refine g_iconst hG X210 hx (hb hby at_132) (pc' := 133) rfl (v := (0 : Int32)) rfl ?_
    refine g_iconst hG X210 hx (hb hby at_133) (pc' := 134) rfl (v := (0 : Int32)) rfl ?_
    refine g_iastore hG X210 hx hZ e210 V_dr (j := (0 : Int32)) (by decide) (show Int32.toNatClampNeg (0 : Int32) < 7 by decide) (hb hby at_134) (pc' := 135) rfl ?_
    intro T211 h211 X211 e211 W211 Vn211
    have V_dr : AV Z h211 dr .int (7 : Int32) [(.int 0), (.int 0), (.int 0), (.int 0), (.int 0), (.int 0), (.int 0)] := Vn211
    have V_ar := V_ar.other W211 ne_ar_dr
    have V_b194 := V_b194.other W211 ne_b194_dr
    have V_b202 := V_b202.other W211 ne_b202_dr
    have Zs := Nat.le_trans Zs (Wr.size W211)
    have NF211 := Fr.snoc X211 NF209 ge_dr
    refine g_dup hG X211 hx (hb hby at_135) (pc' := 136) rfl rfl ?_
    refine g_iconst hG X211 hx (hb hby at_136) (pc' := 137) rfl (v := (1 : Int32)) rfl ?_
    refine g_iconst hG X211 hx (hb hby at_137) (pc' := 138) rfl (v := (4 : Int32)) rfl ?_
    refine g_iastore hG X211 hx hZ e211 V_dr (j := (1 : Int32)) (by decide) (show Int32.toNatClampNeg (1 : Int32) < 7 by decide) (hb hby at_138) (pc' := 139) rfl ?_
    intro T212 h212 X212 e212 W212 Vn212
    have V_dr : AV Z h212 dr .int (7 : Int32) [(.int 0), (.int 4), (.int 0), (.int 0), (.int 0), (.int 0), (.int 0)] := Vn212
    have V_ar := V_ar.other W212 ne_ar_dr
    have V_b194 := V_b194.other W212 ne_b194_dr
    have V_b202 := V_b202.other W212 ne_b202_dr
    have Zs := Nat.le_trans Zs (Wr.size W212)
    have NF212 := Fr.snoc X212 NF211 ge_dr
    refine g_dup hG X212 hx (hb hby at_139) (pc' := 140) rfl rfl ?_
    refine g_iconst hG X212 hx (hb hby at_140) (pc' := 141) rfl (v := (2 : Int32)) rfl ?_
    refine g_iconst hG X212 hx (hb hby at_141) (pc' := 142) rfl (v := (4 : Int32)) rfl ?_
    refine g_iastore hG X212 hx hZ e212 V_dr (j := (2 : Int32)) (by decide) (show Int32.toNatClampNeg (2 : Int32) < 7 by decide) (hb hby at_142) (pc' := 143) rfl ?_
    intro T213 h213 X213 e213 W213 Vn213
    have V_dr : AV Z h213 dr .int (7 : Int32) [(.int 0), (.int 4), (.int 4), (.int 0), (.int 0), (.int 0), (.int 0)] := Vn213
    have V_ar := V_ar.other W213 ne_ar_dr
    have V_b194 := V_b194.other W213 ne_b194_dr
    have V_b202 := V_b202.other W213 ne_b202_dr
    have Zs := Nat.le_trans Zs (Wr.size W213)
    have NF213 := Fr.snoc X213 NF212 ge_dr
    refine g_dup hG X213 hx (hb hby at_143) (pc' := 144) rfl rfl ?_
    refine g_iconst hG X213 hx (hb hby at_144) (pc' := 145) rfl (v := (3 : Int32)) rfl ?_
    refine g_iconst hG X213 hx (hb hby at_145) (pc' := 146) rfl (v := (4 : Int32)) rfl ?_
    refine g_iastore hG X213 hx hZ e213 V_dr (j := (3 : Int32)) (by decide) (show Int32.toNatClampNeg (3 : Int32) < 7 by decide) (hb hby at_146) (pc' := 147) rfl ?_
    intro T214 h214 X214 e214 W214 Vn214
    have V_dr : AV Z h214 dr .int (7 : Int32) [(.int 0), (.int 4), (.int 4), (.int 4), (.int 0), (.int 0), (.int 0)] := Vn214
    have V_ar := V_ar.other W214 ne_ar_dr
    have V_b194 := V_b194.other W214 ne_b194_dr
    have V_b202 := V_b202.other W214 ne_b202_dr
    have Zs := Nat.le_trans Zs (Wr.size W214)
    have NF214 := Fr.snoc X214 NF213 ge_dr
    refine g_dup hG X214 hx (hb hby at_147) (pc' := 148) rfl rfl ?_
    refine g_iconst hG X214 hx (hb hby at_148) (pc' := 149) rfl (v := (4 : Int32)) rfl ?_
    refine g_iconst hG X214 hx (hb hby at_149) (pc' := 150) rfl (v := (2 : Int32)) rfl ?_
    refine g_iastore hG X214 hx hZ e214 V_dr (j := (4 : Int32)) (by decide) (show Int32.toNatClampNeg (4 : Int32) < 7 by decide) (hb hby at_150) (pc' := 151) rfl ?_
    intro T215 h215 X215 e215 W215 Vn215
    have V_dr : AV Z h215 dr .int (7 : Int32) [(.int 0), (.int 4), (.int 4), (.int 4), (.int 2), (.int 0), (.int 0)] := Vn215
    have V_ar := V_ar.other W215 ne_ar_dr
    have V_b194 := V_b194.other W215 ne_b194_dr
    have V_b202 := V_b202.other W215 ne_b202_dr
    have Zs := Nat.le_trans Zs (Wr.size W215)
    have NF215 := Fr.snoc X215 NF214 ge_dr
    refine g_dup hG X215 hx (hb hby at_151) (pc' := 152) rfl rfl ?_
    refine g_iconst hG X215 hx (hb hby at_152) (pc' := 153) rfl (v := (5 : Int32)) rfl ?_
    refine g_iconst hG X215 hx (hb hby at_153) (pc' := 154) rfl (v := (4 : Int32)) rfl ?_
    refine g_iastore hG X215 hx hZ e215 V_dr (j := (5 : Int32)) (by decide) (show Int32.toNatClampNeg (5 : Int32) < 7 by decide) (hb hby at_154) (pc' := 155) rfl ?_
    intro T216 h216 X216 e216 W216 Vn216
    have V_dr : AV Z h216 dr .int (7 : Int32) [(.int 0), (.int 4), (.int 4), (.int 4), (.int 2), (.int 4), (.int 0)] := Vn216
    have V_ar := V_ar.other W216 ne_ar_dr
    have V_b194 := V_b194.other W216 ne_b194_dr
    have V_b202 := V_b202.other W216 ne_b202_dr
    have Zs := Nat.le_trans Zs (Wr.size W216)
    have NF216 := Fr.snoc X216 NF215 ge_dr
    refine g_dup hG X216 hx (hb hby at_155) (pc' := 156) rfl rfl ?_
    refine g_bipush hG X216 hx (hb hby at_156) (pc' := 158) rfl (v := (6 : Int32)) rfl ?_
    refine g_iconst hG X216 hx (hb hby at_158) (pc' := 159) rfl (v := (1 : Int32)) rfl ?_
    refine g_iastore hG X216 hx hZ e216 V_dr (j := (6 : Int32)) (by decide) (show Int32.toNatClampNeg (6 : Int32) < 7 by decide) (hb hby at_159) (pc' := 160) rfl ?_
    intro T217 h217 X217 e217 W217 Vn217
    have V_dr : AV Z h217 dr .int (7 : Int32) [(.int 0), (.int 4), (.int 4), (.int 4), (.int 2), (.int 4), (.int 1)] := Vn217
    have V_ar := V_ar.other W217 ne_ar_dr
    have V_b194 := V_b194.other W217 ne_b194_dr
    have V_b202 := V_b202.other W217 ne_b202_dr
    have Zs := Nat.le_trans Zs (Wr.size W217)
    have NF217 := Fr.snoc X217 NF216 ge_dr
    refine g_astore hG X217 hx (hb hby at_160) (pc' := 162) rfl rfl (Ls' := #[.val (.int aa), .val (.int bb), .val (.int cc), .val (.int dd), .val (.int sel), .val (.int 5), .val (.int v18), .val (.ref ar), .val (.ref b194), .val (.ref b202), .val (.ref dr), .unset, .unset, .unset, .unset, .unset, .unset, .unset, .unset, .unset, .unset, .unset, .unset, .unset, .unset, .unset, .unset, .unset]) rfl ?_
    refine g_iloadN hG X217 hx (hb hby at_162) (pc' := 163) rfl rfl ?_
    refine g_ldcInt hG X217 hx hZ hown (wd hw 1 rfl) (hb hby at_163) (pc' := 165) rfl ?_
    obtain ⟨v165, q165⟩ : ∃ zz : Int32, aa &&& (65535 : Int32) = zz := ⟨_, rfl⟩
    refine g_iand hG X217 hx (hb hby at_165) (pc' := 166) rfl q165 ?_
    obtain ⟨v166, q166⟩ : ∃ zz : Int64, v165.toInt64 = zz := ⟨_, rfl⟩
    refine g_i2l hG X217 hx (hb hby at_166) (pc' := 167) rfl q166 ?_
    have b166 : 0 ≤ v166.toInt ∧ v166.toInt ≤ 65535 := by
      have a := c_and aa 65535 (by decide)
      rw [q165] at a
      have c : (65535 : Int32).toInt = 65535 := by decide
      have d : v166.toInt = v165.toInt := by rw [← q166]; exact c_i2l v165
      omega
    refine g_lstore hG X217 hx (hb hby at_167) (pc' := 169) rfl (Ls' := #[.val (.int aa), .val (.int bb), .val (.int cc), .val (.int dd), .val (.int sel), .val (.int 5), .val (.int v18), .val (.ref ar), .val (.ref b194), .val (.ref b202), .val (.ref dr), .val (.long v166), .second, .unset, .unset, .unset, .unset, .unset, .unset, .unset, .unset, .unset, .unset, .unset, .unset, .unset, .unset, .unset]) rfl ?_
    refine g_iloadN hG X217 hx (hb hby at_169) (pc' := 170) rfl rfl ?_
    refine g_ldcInt hG X217 hx hZ hown (wd hw 1 rfl) (hb hby at_170) (pc' := 172) rfl ?_
    obtain ⟨v172, q172⟩ : ∃ zz : Int32, bb &&& (65535 : Int32) = zz := ⟨_, rfl⟩
    refine g_iand hG X217 hx (hb hby at_172) (pc' := 173) rfl q172 ?_
    obtain ⟨v173, q173⟩ : ∃ zz : Int64, v172.toInt64 = zz := ⟨_, rfl⟩
    refine g_i2l hG X217 hx (hb hby at_173) (pc' := 174) rfl q173 ?_
    have b173 : 0 ≤ v173.toInt ∧ v173.toInt ≤ 65535 := by
      have a := c_and bb 65535 (by decide)
      rw [q172] at a
      have c : (65535 : Int32).toInt = 65535 := by decide
      have d : v173.toInt = v172.toInt := by rw [← q173]; exact c_i2l v172
      omega
    refine g_lstore hG X217 hx (hb hby at_174) (pc' := 176) rfl (Ls' := #[.val (.int aa), .val (.int bb), .val (.int cc), .val (.int dd), .val (.int sel), .val (.int 5), .val (.int v18), .val (.ref ar), .val (.ref b194), .val (.ref b202), .val (.ref dr), .val (.long v166), .second, .val (.long v173), .second, .unset, .unset, .unset, .unset, .unset, .unset, .unset, .unset, .unset, .unset, .unset, .unset, .unset]) rfl ?_
    refine g_iloadN hG X217 hx (hb hby at_176) (pc' := 177) rfl rfl ?_
    refine g_ldcInt hG X217 hx hZ hown (wd hw 1 rfl) (hb hby at_177) (pc' := 179) rfl ?_
    obtain ⟨v179, q179⟩ : ∃ zz : Int32, cc &&& (65535 : Int32) = zz := ⟨_, rfl⟩
    refine g_iand hG X217 hx (hb hby at_179) (pc' := 180) rfl q179 ?_
    obtain ⟨v180, q180⟩ : ∃ zz : Int64, v179.toInt64 = zz := ⟨_, rfl⟩
    refine g_i2l hG X217 hx (hb hby at_180) (pc' := 181) rfl q180 ?_
    have b180 : 0 ≤ v180.toInt ∧ v180.toInt ≤ 65535 := by
      have a := c_and cc 65535 (by decide)
      rw [q179] at a
      have c : (65535 : Int32).toInt = 65535 := by decide
      have d : v180.toInt = v179.toInt := by rw [← q180]; exact c_i2l v179
      omega
    refine g_lstore hG X217 hx (hb hby at_181) (pc' := 183) rfl (Ls' := #[.val (.int aa), .val (.int bb), .val (.int cc), .val (.int dd), .val (.int sel), .val (.int 5), .val (.int v18), .val (.ref ar), .val (.ref b194), .val (.ref b202), .val (.ref dr), .val (.long v166), .second, .val (.long v173), .second, .val (.long v180), .second, .unset, .unset, .unset, .unset, .unset, .unset, .unset, .unset, .unset, .unset, .unset]) rfl ?_
    refine g_iloadN hG X217 hx (hb hby at_183) (pc' := 184) rfl rfl ?_
    refine g_ldcInt hG X217 hx hZ hown (wd hw 1 rfl) (hb hby at_184) (pc' := 186) rfl ?_
    obtain ⟨v186, q186⟩ : ∃ zz : Int32, dd &&& (65535 : Int32) = zz := ⟨_, rfl⟩
    refine g_iand hG X217 hx (hb hby at_186) (pc' := 187) rfl q186 ?_
    obtain ⟨v187, q187⟩ : ∃ zz : Int64, v186.toInt64 = zz := ⟨_, rfl⟩
    refine g_i2l hG X217 hx (hb hby at_187) (pc' := 188) rfl q187 ?_
    have b187 : 0 ≤ v187.toInt ∧ v187.toInt ≤ 65535 := by
      have a := c_and dd 65535 (by decide)
      rw [q186] at a
      have c : (65535 : Int32).toInt = 65535 := by decide
      have d : v187.toInt = v186.toInt := by rw [← q187]; exact c_i2l v186
      omega
    refine g_lstore hG X217 hx (hb hby at_188) (pc' := 190) rfl (Ls' := #[.val (.int aa), .val (.int bb), .val (.int cc), .val (.int dd), .val (.int sel), .val (.int 5), .val (.int v18), .val (.ref ar), .val (.ref b194), .val (.ref b202), .val (.ref dr), .val (.long v166), .second, .val (.long v173), .second, .val (.long v180), .second, .val (.long v187), .second, .unset, .unset, .unset, .unset, .unset, .unset, .unset, .unset, .unset]) rfl ?_
    refine g_newO hG X217 hx hZ hown (wd hw 2 rfl) (wd hw 3 rfl) (wd hw 4 rfl) e217 (hb hby at_190) (by decide) (by decide) (pc' := 193) rfl ?_
    intro T218 h218 b gs218 X218 e218 E218 Aq218 Dq218
    have ne_ar_b : ar ≠ b := Nat.ne_of_lt (gs218 ▸ V_ar.lt)
    have ne_b194_b : b194 ≠ b := Nat.ne_of_lt (gs218 ▸ V_b194.lt)
    have ne_b202_b : b202 ≠ b := Nat.ne_of_lt (gs218 ▸ V_b202.lt)
    have ne_dr_b : dr ≠ b := Nat.ne_of_lt (gs218 ▸ V_dr.lt)
    have ge_b : n0 ≤ b := gs218 ▸ Zs
    have Zs := Nat.le_trans Zs E218.1
    have V_ar := V_ar.ext E218
    have V_b194 := V_b194.ext E218
    have V_b202 := V_b202.ext E218
    have V_dr := V_dr.ext E218
    have Ex_b := Aq218
    have F_timeWeight_b : Fld Z h218 b "com/example/ganttwright/ganttwright/Objective" "timeWeight" "D" (.double 0) := Dq218 (Or.inr (wd hw 29 rfl)) (ty := .double) (by decide)
    have F_costWeight_b : Fld Z h218 b "com/example/ganttwright/ganttwright/Objective" "costWeight" "D" (.double 0) := Dq218 (Or.inr (wd hw 31 rfl)) (ty := .double) (by decide)
    refine g_dup hG X218 hx (hb hby at_193) (pc' := 194) rfl rfl ?_
    refine g_aload hG X218 hx (hb hby at_194) (pc' := 196) rfl rfl rfl ?_
    refine g_iload hG X218 hx (hb hby at_196) (pc' := 198) rfl rfl ?_
    refine g_iaload hG X218 hx hZ e218 V_ar (j := (5 : Int32)) (v := (.int 1)) (by decide) rfl (hb hby at_198) (pc' := 199) rfl ?_
    obtain ⟨v199, q199⟩ : ∃ zz : UInt64, FP.i2d (1 : Int32) = zz := ⟨_, rfl⟩
    refine g_i2d hG X218 hx (hb hby at_199) (pc' := 200) rfl q199 ?_
    refine g_aload hG X218 hx (hb hby at_200) (pc' := 202) rfl rfl rfl ?_
    refine g_iload hG X218 hx (hb hby at_202) (pc' := 204) rfl rfl ?_
    refine g_iaload hG X218 hx hZ e218 V_b194 (j := (5 : Int32)) (v := (.int 4)) (by decide) rfl (hb hby at_204) (pc' := 205) rfl ?_
    obtain ⟨v205, q205⟩ : ∃ zz : UInt64, FP.i2d (4 : Int32) = zz := ⟨_, rfl⟩
    refine g_i2d hG X218 hx (hb hby at_205) (pc' := 206) rfl q205 ?_
    obtain ⟨lg, hlg⟩ : ∃ z, Jvm.Native.java_lang_Math.nans.pick64 true v199 v205 = z := ⟨_, rfl⟩
    obtain ⟨t1, ht1⟩ : ∃ z, FP.ddiv v199 lg = z := ⟨_, rfl⟩
    obtain ⟨c1, hc1⟩ : ∃ z, FP.ddiv v205 lg = z := ⟨_, rfl⟩
    obtain ⟨f1, f2, g1, g2, g3, D1, D2⟩ := own_weights (x := 1) (y := 4) (g := 4) (p := 32) (q := 128) (by rw [← q199]; exact OwnFl.i2d_DV (1 : Int32) : OwnFl.DV v199 ((1 : Int) : Rat)) (by rw [← q205]; exact OwnFl.i2d_DV (4 : Int32) : OwnFl.DV v205 ((4 : Int) : Rat)) (by decide) (by decide) (Or.inl ⟨by decide, rfl⟩) (by decide) (by decide) (by decide) (by decide) (by decide) (by decide) (by decide) hlg ht1 hc1
    refine g_callI hG X218 hx hZ (y := (⟨"com/example/ganttwright/ganttwright/Objective", "<init>", "(DD)V"⟩ : MethodName)) 1 rfl hown (wd hw 5 rfl) (wd hw 6 rfl) (wd hw 4 rfl) (wd hw 7 rfl) (by decide) (rmObj l Z a0 hw [] b v199 v205 lg t1 c1 h218 n0 Zs ge_b f1 f2 g1 g2 g3 hlg ht1 hc1 D1.noNaN D2.noNaN Ex_b F_timeWeight_b F_costWeight_b) (by decide) (by decide) (by rw [hml]; rfl) pd_4 rfl (argsL := [(.double v199), (.double v205)]) (rest := [(.ref b)]) rfl rfl (Nat.le_of_eq rfl) (hb hby at_206) e218 (by decide) (by decide) (pc' := 209) rfl ?_
    intro T219 rv219 L219 X219 hQ219
    obtain ⟨rfl, Nq219, Kq219, Ex_b, F_timeWeight_b, F_costWeight_b⟩ := hQ219
    have NF219 := Fr.app NF217 Nq219
    have V_ar := V_ar.keep Kq219 (ninS ne_ar_b nin0)
    have V_b194 := V_b194.keep Kq219 (ninS ne_b194_b nin0)
    have V_b202 := V_b202.keep Kq219 (ninS ne_b202_b nin0)
    have V_dr := V_dr.keep Kq219 (ninS ne_dr_b nin0)
    have Zs := Nat.le_trans Zs Kq219.1
    show G (T219.setTop (mkF m 209 _ [(.ref b)]))
    refine g_astore hG X219 hx (hb hby at_209) (pc' := 211) rfl rfl (Ls' := #[.val (.int aa), .val (.int bb), .val (.int cc), .val (.int dd), .val (.int sel), .val (.int 5), .val (.int v18), .val (.ref ar), .val (.ref b194), .val (.ref b202), .val (.ref dr), .val (.long v166), .second, .val (.long v173), .second, .val (.long v180), .second, .val (.long v187), .second, .val (.ref b), .unset, .unset, .unset, .unset, .unset, .unset, .unset, .unset]) rfl ?_
    refine g_iload hG X219 hx (hb hby at_211) (pc' := 213) rfl rfl ?_
    obtain ⟨v213, q213⟩ : ∃ zz : UInt64, FP.i2d v18 = zz := ⟨_, rfl⟩
    refine g_i2d hG X219 hx (hb hby at_213) (pc' := 214) rfl q213 ?_
    refine g_ldcDouble hG X219 hx hZ hown (wd hw 32 rfl) (hb hby at_214) (pc' := 217) rfl ?_
    obtain ⟨v217, q217⟩ : ∃ zz : UInt64, FP.dmul v213 (4598175219545276416 : UInt64) = zz := ⟨_, rfl⟩
    have D217 : OwnFl.DV v217 (((v18.toInt : Int) : Rat) / 4) := by
      have b1 : (0 : Rat) ≤ (v18.toInt : Rat) := Rat.intCast_nonneg.mpr b18.1
      have b2 : (v18.toInt : Rat) ≤ 7 := by have := Rat.intCast_le_intCast.mpr b18.2; simpa using this
      have e : (v18.toInt : Rat) / 4 = (v18.toInt : Rat) * (1 / 4) := by rw [Rat.div_def, Rat.div_def, Rat.one_mul]
      have z := OwnFl.dmul_DV (OwnFl.i2d_DV v18) own_q (by grind) (by grind)
      rw [q213, q217, OwnFl.RR_exact ⟨v18.toInt, -2, by congr 1; decide +kernel, by omega, by decide⟩ (by grind) (by grind)] at z
      rw [e]; exact z
    refine g_dmul hG X219 hx (hb hby at_217) (pc' := 218) rfl (by rw [q217]; exact D217.noNaN) q217 ?_
    refine g_dstore hG X219 hx (hb hby at_218) (pc' := 220) rfl (Ls' := #[.val (.int aa), .val (.int bb), .val (.int cc), .val (.int dd), .val (.int sel), .val (.int 5), .val (.int v18), .val (.ref ar), .val (.ref b194), .val (.ref b202), .val (.ref dr), .val (.long v166), .second, .val (.long v173), .second, .val (.long v180), .second, .val (.long v187), .second, .val (.ref b), .val (.double v217), .second, .unset, .unset, .unset, .unset, .unset, .unset]) rfl ?_
    refine g_aload hG X219 hx (hb hby at_220) (pc' := 222) rfl rfl rfl ?_
    refine g_lload hG X219 hx (hb hby at_222) (pc' := 224) rfl rfl ?_
    obtain ⟨v224, q224⟩ : ∃ zz : UInt64, FP.l2d v166 = zz := ⟨_, rfl⟩
    refine g_l2d hG X219 hx (hb hby at_224) (pc' := 225) rfl q224 ?_
    refine g_lload hG X219 hx (hb hby at_225) (pc' := 227) rfl rfl ?_
    obtain ⟨v227, q227⟩ : ∃ zz : UInt64, FP.l2d v173 = zz := ⟨_, rfl⟩
    refine g_l2d hG X219 hx (hb hby at_227) (pc' := 228) rfl q227 ?_
    refine g_lload hG X219 hx (hb hby at_228) (pc' := 230) rfl rfl ?_
    obtain ⟨v230, q230⟩ : ∃ zz : UInt64, FP.l2d v180 = zz := ⟨_, rfl⟩
    refine g_l2d hG X219 hx (hb hby at_230) (pc' := 231) rfl q230 ?_
    refine g_lload hG X219 hx (hb hby at_231) (pc' := 233) rfl rfl ?_
    obtain ⟨v233, q233⟩ : ∃ zz : UInt64, FP.l2d v187 = zz := ⟨_, rfl⟩
    refine g_l2d hG X219 hx (hb hby at_233) (pc' := 234) rfl q233 ?_
    refine g_dload hG X219 hx (hb hby at_234) (pc' := 236) rfl rfl ?_
    obtain ⟨p1, hp1⟩ : ∃ z, FP.dmul t1 v224 = z := ⟨_, rfl⟩
    obtain ⟨p2, hp2⟩ : ∃ z, FP.dmul c1 v227 = z := ⟨_, rfl⟩
    obtain ⟨sc, hsc⟩ : ∃ z, FP.dadd p1 p2 = z := ⟨_, rfl⟩
    obtain ⟨p3, hp3⟩ : ∃ z, FP.dmul t1 v230 = z := ⟨_, rfl⟩
    obtain ⟨p4, hp4⟩ : ∃ z, FP.dmul c1 v233 = z := ⟨_, rfl⟩
    obtain ⟨sc2, hsc2⟩ : ∃ z, FP.dadd p3 p4 = z := ⟨_, rfl⟩
    obtain ⟨sm, hsm⟩ : ∃ z, FP.dmul v217 sc2 = z := ⟨_, rfl⟩
    obtain ⟨sk, hsk⟩ : ∃ z, FP.dmul v217 v230 = z := ⟨_, rfl⟩
    obtain ⟨lo, hlo⟩ : ∃ z, FP.dsub sc2 sm = z := ⟨_, rfl⟩
    obtain ⟨hi, hhi⟩ : ∃ z, FP.dadd sc2 sm = z := ⟨_, rfl⟩
    obtain ⟨lo2, hlo2⟩ : ∃ z, FP.dsub v230 sk = z := ⟨_, rfl⟩
    obtain ⟨hi2, hhi2⟩ : ∃ z, FP.dadd v230 sk = z := ⟨_, rfl⟩
    have D_v224 : OwnFl.DV v224 ((v166.toInt : Int) : Rat) := by rw [← q224]; exact OwnFl.l2d_DV (by omega)
    have D_v227 : OwnFl.DV v227 ((v173.toInt : Int) : Rat) := by rw [← q227]; exact OwnFl.l2d_DV (by omega)
    have D_v230 : OwnFl.DV v230 ((v180.toInt : Int) : Rat) := by rw [← q230]; exact OwnFl.l2d_DV (by omega)
    have D_v233 : OwnFl.DV v233 ((v187.toInt : Int) : Rat) := by rw [← q233]; exact OwnFl.l2d_DV (by omega)
    obtain ⟨S1_sc, S2_sc, S3_sc⟩ := own_score (p := 32) (q := 128) (by decide) (by decide) (by decide) (by decide) D1 D2 D_v224 D_v227 (by omega) (by omega) (by omega) (by omega)
    rw [hp1, hp2, hsc] at S3_sc
    rw [hp1] at S1_sc
    rw [hp2] at S2_sc
    obtain ⟨S1_sc2, S2_sc2, S3_sc2⟩ := own_score (p := 32) (q := 128) (by decide) (by decide) (by decide) (by decide) D1 D2 D_v230 D_v233 (by omega) (by omega) (by omega) (by omega)
    rw [hp3, hp4, hsc2] at S3_sc2
    rw [hp3] at S1_sc2
    rw [hp4] at S2_sc2
    have E_sc : OwnFl.DV sc (((4 * (1 * v166.toInt + 4 * v173.toInt) : Int) : Rat) / 16) := own_cast (m := 128) (n := 16) (by decide) (by decide) S3_sc (by omega)
    have E_sc2 : OwnFl.DV sc2 (((4 * (1 * v180.toInt + 4 * v187.toInt) : Int) : Rat) / 16) := own_cast (m := 128) (n := 16) (by decide) (by decide) S3_sc2 (by omega)
    have Q_sc2 : OwnFl.DV sc2 ((((1 * v180.toInt + 4 * v187.toInt) : Int) : Rat) / 4) := own_cast (m := 128) (n := 4) (by decide) (by decide) S3_sc2 (by omega)
    have bS2 : 0 ≤ (1 * v180.toInt + 4 * v187.toInt) ∧ (1 * v180.toInt + 4 * v187.toInt) ≤ 524280 := by omega
    obtain ⟨P, hP⟩ : ∃ z : Int, v18.toInt * (1 * v180.toInt + 4 * v187.toInt) = z := ⟨_, rfl⟩
    obtain ⟨R, hR⟩ : ∃ z : Int, v18.toInt * v180.toInt = z := ⟨_, rfl⟩
    have bP : 0 ≤ P ∧ P ≤ 3669960 := by
      have := mc (a := v18.toInt) (b := (1 * v180.toInt + 4 * v187.toInt)) (l1 := 0) (h1 := 7) (l2 := 0) (h2 := 524280) b18.1 b18.2 bS2.1 bS2.2
      rw [hP] at this
      omega
    have bR : 0 ≤ R ∧ R ≤ 458745 := by
      have := mc (a := v18.toInt) (b := v180.toInt) (l1 := 0) (h1 := 7) (l2 := 0) (h2 := 65535) b18.1 b18.2 b180.1 b180.2
      rw [hR] at this
      omega
    have D_sm := own_mul D217 Q_sc2 (by rw [hP]; omega) (by rw [hP]; omega)
    rw [hsm, hP] at D_sm
    have D_sk := own_mul D217 (own_one D_v230).2 (by rw [show v18.toInt * (4 * v180.toInt) = 4 * (v18.toInt * v180.toInt) from Int.mul_left_comm _ _ _, hR]; omega) (by rw [show v18.toInt * (4 * v180.toInt) = 4 * (v18.toInt * v180.toInt) from Int.mul_left_comm _ _ _, hR]; omega)
    rw [hsk, show v18.toInt * (4 * v180.toInt) = 4 * (v18.toInt * v180.toInt) from Int.mul_left_comm _ _ _, hR] at D_sk
    have D_lo := own_sub E_sc2 D_sm (by omega) (by omega)
    rw [hlo] at D_lo
    have D_hi := own_add E_sc2 D_sm (by omega) (by omega)
    rw [hhi] at D_hi
    have D_lo2 := own_sub (own_one D_v230).1 D_sk (by omega) (by omega)
    rw [hlo2, show 16 * v180.toInt - 4 * R = 4 * (4 * v180.toInt - R) by omega] at D_lo2
    have D_hi2 := own_add (own_one D_v230).1 D_sk (by omega) (by omega)
    rw [hhi2, show 16 * v180.toInt + 4 * R = 4 * (4 * v180.toInt + R) by omega] at D_hi2
    obtain ⟨rs, hrs⟩ : ∃ z : Int32, z = (if 4 * (1 * v166.toInt + 4 * v173.toInt) < 4 * (1 * v180.toInt + 4 * v187.toInt) - P ∨ 4 * (1 * v180.toInt + 4 * v187.toInt) + P < 4 * (1 * v166.toInt + 4 * v173.toInt) then (if (1 * v166.toInt + 4 * v173.toInt) < (1 * v180.toInt + 4 * v187.toInt) then (1 : Int32) else 0) else if 4 * v166.toInt < 4 * v180.toInt - R ∨ 4 * v180.toInt + R < 4 * v166.toInt then (if v166.toInt < v180.toInt then (1 : Int32) else 0) else if v173.toInt < v187.toInt then (1 : Int32) else 0) := ⟨_, rfl⟩
    refine g_callV hG X219 hx hZ (y := (⟨"com/example/ganttwright/ganttwright/Objective", "better", "(DDDDD)Z"⟩ : MethodName)) 0 hown (wd hw 33 rfl) (wd hw 34 rfl) (wd hw 36 rfl) (wd hw 35 rfl) (wd hw 4 rfl) (wd hw 37 rfl) (by decide) (rmBet l Z a0 hw [] b t1 c1 v224 v227 v230 v233 v217 p1 p2 sc p3 p4 sc2 sm sk lo hi lo2 hi2 (1 * v166.toInt + 4 * v173.toInt) (1 * v180.toInt + 4 * v187.toInt) P v166.toInt v180.toInt R v173.toInt v187.toInt rs T219.heap n0 Zs hp1 hp2 hsc hp3 hp4 hsc2 hsm hsk hlo hhi hlo2 hhi2 S1_sc.noNaN S2_sc.noNaN S1_sc2.noNaN S2_sc2.noNaN D_sm.noNaN D_sk.noNaN E_sc E_sc2 D_lo D_hi (own_one D_v224).1 (own_one D_v230).1 D_lo2 D_hi2 (own_one D_v227).1 (own_one D_v233).1 hrs Ex_b F_timeWeight_b F_costWeight_b) (by decide) (by decide) (by rw [hml]; rfl) pd_5 rfl (argsL := [(.double v224), (.double v227), (.double v230), (.double v233), (.double v217)]) (rest := []) rfl rfl (Nat.le_of_eq rfl) (hb hby at_236) rfl Ex_b (by decide) (by decide) (pc' := 239) rfl ?_
    intro T220 rv220 L220 X220 hQ220
    obtain ⟨rfl, Nq220, eh220⟩ := hQ220
    have NF220 := Fr.app NF219 Nq220
    show G (T220.setTop (mkF m 239 _ [(.int rs)]))
    refine g_istore hG X220 hx (hb hby at_239) (pc' := 241) rfl (Ls' := #[.val (.int aa), .val (.int bb), .val (.int cc), .val (.int dd), .val (.int sel), .val (.int 5), .val (.int v18), .val (.ref ar), .val (.ref b194), .val (.ref b202), .val (.ref dr), .val (.long v166), .second, .val (.long v173), .second, .val (.long v180), .second, .val (.long v187), .second, .val (.ref b), .val (.double v217), .second, .val (.int rs), .unset, .unset, .unset, .unset, .unset]) rfl ?_
    refine g_aload hG X220 hx (hb hby at_241) (pc' := 243) rfl rfl rfl ?_
    refine g_iload hG X220 hx (hb hby at_243) (pc' := 245) rfl rfl ?_
    refine g_iaload hG X220 hx hZ eh220 V_b202 (j := (5 : Int32)) (v := (.int 1)) (by decide) rfl (hb hby at_245) (pc' := 246) rfl ?_
    refine g_i2l hG X220 hx (hb hby at_246) (pc' := 247) rfl (v := (1 : Int64)) (by decide) ?_
    refine g_lload hG X220 hx (hb hby at_247) (pc' := 249) rfl rfl ?_
    obtain ⟨v249, q249⟩ : ∃ zz : Int64, (1 : Int64) * v166 = zz := ⟨_, rfl⟩
    refine g_lmul hG X220 hx (hb hby at_249) (pc' := 250) rfl q249 ?_
    refine g_aload hG X220 hx (hb hby at_250) (pc' := 252) rfl rfl rfl ?_
    refine g_iload hG X220 hx (hb hby at_252) (pc' := 254) rfl rfl ?_
    refine g_iaload hG X220 hx hZ eh220 V_dr (j := (5 : Int32)) (v := (.int 4)) (by decide) rfl (hb hby at_254) (pc' := 255) rfl ?_
    refine g_i2l hG X220 hx (hb hby at_255) (pc' := 256) rfl (v := (4 : Int64)) (by decide) ?_
    refine g_lload hG X220 hx (hb hby at_256) (pc' := 258) rfl rfl ?_
    obtain ⟨v258, q258⟩ : ∃ zz : Int64, (4 : Int64) * v173 = zz := ⟨_, rfl⟩
    refine g_lmul hG X220 hx (hb hby at_258) (pc' := 259) rfl q258 ?_
    obtain ⟨v259, q259⟩ : ∃ zz : Int64, v249 + v258 = zz := ⟨_, rfl⟩
    refine g_ladd hG X220 hx (hb hby at_259) (pc' := 260) rfl q259 ?_
    have e259 : v259.toInt = 1 * v166.toInt + 4 * v173.toInt := by
      have a1 := c_lmul (1 : Int64) v166
      have a2 := c_lmul (4 : Int64) v173
      have c1 : (1 : Int64).toInt = 1 := by decide
      have c2 : (4 : Int64).toInt = 4 := by decide
      rw [q249, c1] at a1
      rw [q258, c2] at a2
      have a3 := c_ladd v249 v258
      rw [q259] at a3
      have a4 := rng64 v249
      have a5 := rng64 v258
      have a6 := rng64 v259
      omega
    refine g_lstore hG X220 hx (hb hby at_260) (pc' := 262) rfl (Ls' := #[.val (.int aa), .val (.int bb), .val (.int cc), .val (.int dd), .val (.int sel), .val (.int 5), .val (.int v18), .val (.ref ar), .val (.ref b194), .val (.ref b202), .val (.ref dr), .val (.long v166), .second, .val (.long v173), .second, .val (.long v180), .second, .val (.long v187), .second, .val (.ref b), .val (.double v217), .second, .val (.int rs), .val (.long v259), .second, .unset, .unset, .unset]) rfl ?_
    refine g_aload hG X220 hx (hb hby at_262) (pc' := 264) rfl rfl rfl ?_
    refine g_iload hG X220 hx (hb hby at_264) (pc' := 266) rfl rfl ?_
    refine g_iaload hG X220 hx hZ eh220 V_b202 (j := (5 : Int32)) (v := (.int 1)) (by decide) rfl (hb hby at_266) (pc' := 267) rfl ?_
    refine g_i2l hG X220 hx (hb hby at_267) (pc' := 268) rfl (v := (1 : Int64)) (by decide) ?_
    refine g_lload hG X220 hx (hb hby at_268) (pc' := 270) rfl rfl ?_
    obtain ⟨v270, q270⟩ : ∃ zz : Int64, (1 : Int64) * v180 = zz := ⟨_, rfl⟩
    refine g_lmul hG X220 hx (hb hby at_270) (pc' := 271) rfl q270 ?_
    refine g_aload hG X220 hx (hb hby at_271) (pc' := 273) rfl rfl rfl ?_
    refine g_iload hG X220 hx (hb hby at_273) (pc' := 275) rfl rfl ?_
    refine g_iaload hG X220 hx hZ eh220 V_dr (j := (5 : Int32)) (v := (.int 4)) (by decide) rfl (hb hby at_275) (pc' := 276) rfl ?_
    refine g_i2l hG X220 hx (hb hby at_276) (pc' := 277) rfl (v := (4 : Int64)) (by decide) ?_
    refine g_lload hG X220 hx (hb hby at_277) (pc' := 279) rfl rfl ?_
    obtain ⟨v279, q279⟩ : ∃ zz : Int64, (4 : Int64) * v187 = zz := ⟨_, rfl⟩
    refine g_lmul hG X220 hx (hb hby at_279) (pc' := 280) rfl q279 ?_
    obtain ⟨v280, q280⟩ : ∃ zz : Int64, v270 + v279 = zz := ⟨_, rfl⟩
    refine g_ladd hG X220 hx (hb hby at_280) (pc' := 281) rfl q280 ?_
    have e280 : v280.toInt = 1 * v180.toInt + 4 * v187.toInt := by
      have a1 := c_lmul (1 : Int64) v180
      have a2 := c_lmul (4 : Int64) v187
      have c1 : (1 : Int64).toInt = 1 := by decide
      have c2 : (4 : Int64).toInt = 4 := by decide
      rw [q270, c1] at a1
      rw [q279, c2] at a2
      have a3 := c_ladd v270 v279
      rw [q280] at a3
      have a4 := rng64 v270
      have a5 := rng64 v279
      have a6 := rng64 v280
      omega
    refine g_lstore hG X220 hx (hb hby at_281) (pc' := 283) rfl (Ls' := #[.val (.int aa), .val (.int bb), .val (.int cc), .val (.int dd), .val (.int sel), .val (.int 5), .val (.int v18), .val (.ref ar), .val (.ref b194), .val (.ref b202), .val (.ref dr), .val (.long v166), .second, .val (.long v173), .second, .val (.long v180), .second, .val (.long v187), .second, .val (.ref b), .val (.double v217), .second, .val (.int rs), .val (.long v259), .second, .val (.long v280), .second, .unset]) rfl ?_
    refine g_ldcLong hG X220 hx hZ hown (wd hw 43 rfl) (hb hby at_283) (pc' := 286) rfl ?_
    refine g_lload hG X220 hx (hb hby at_286) (pc' := 288) rfl rfl ?_
    refine g_lload hG X220 hx (hb hby at_288) (pc' := 290) rfl rfl ?_
    obtain ⟨v290, q290⟩ : ∃ zz : Int64, v259 - v280 = zz := ⟨_, rfl⟩
    refine g_lsub hG X220 hx (hb hby at_290) (pc' := 291) rfl q290 ?_
    obtain ⟨ab291, hab291⟩ : ∃ z : Int64, (if v290 < 0 then -v290 else v290) = z := ⟨_, rfl⟩
    have e_ab291 : (ab291.toInt = v259.toInt - v280.toInt ∧ v280.toInt ≤ v259.toInt) ∨ (ab291.toInt = v280.toInt - v259.toInt ∧ v259.toInt ≤ v280.toInt) := by
      have a := c_lsub v259 v280
      rw [q290] at a
      have b := rng64 v290
      have c := c_lneg v290
      have d := rng64 (-v290)
      have z : (0 : Int64).toInt = 0 := by decide
      by_cases g : v290 < 0
      · rw [← hab291, if_pos g]
        rw [Int64.lt_iff_toInt_lt, z] at g
        omega
      · rw [← hab291, if_neg g]
        rw [Int64.lt_iff_toInt_lt, z] at g
        omega
    refine g_callS hG X220 hx hZ (y := (⟨"java/lang/Math", "abs", "(J)J"⟩ : MethodName)) 2 hown (wd hw 44 rfl) (wd hw 45 rfl) (wd hw 22 rfl) (wd hw 46 rfl) (by decide) (rmAbs l Z a0 hw [] v290 T219.heap n0 Zs) (by decide) (by decide) (by rw [hml]; rfl) pd_6 rfl (argsL := [(.long v290)]) (rest := [(.long 4)]) rfl rfl (Nat.le_of_eq rfl) (hb hby at_291) eh220 (by decide) (by decide) (pc' := 294) rfl ?_
    intro T221 rv221 L221 X221 hQ221
    obtain ⟨rfl, Nq221, eh221⟩ := hQ221
    have NF221 := Fr.app NF220 Nq221
    rw [hab291]
    show G (T221.setTop (mkF m 294 _ [(.long ab291), (.long 4)]))
    obtain ⟨v294, q294⟩ : ∃ zz : Int64, (4 : Int64) * ab291 = zz := ⟨_, rfl⟩
    refine g_lmul hG X221 hx (hb hby at_294) (pc' := 295) rfl q294 ?_
    refine g_iload hG X221 hx (hb hby at_295) (pc' := 297) rfl rfl ?_
    obtain ⟨v297, q297⟩ : ∃ zz : Int64, v18.toInt64 = zz := ⟨_, rfl⟩
    refine g_i2l hG X221 hx (hb hby at_297) (pc' := 298) rfl q297 ?_
    refine g_lload hG X221 hx (hb hby at_298) (pc' := 300) rfl rfl ?_
    obtain ⟨v300, q300⟩ : ∃ zz : Int64, v297 * v280 = zz := ⟨_, rfl⟩
    refine g_lmul hG X221 hx (hb hby at_300) (pc' := 301) rfl q300 ?_
    have k294 : v294.toInt = 4 * ab291.toInt := by
      have a := c_lmul (4 : Int64) ab291
      have c : (4 : Int64).toInt = 4 := by decide
      rw [q294, c] at a
      have b := rng64 v294
      omega
    have k300 : v300.toInt = P := by
      have a := c_lmul v297 v280
      have c : v297.toInt = v18.toInt := by rw [← q297]; exact c_i2l v18
      rw [q300, c, e280, hP] at a
      have b := rng64 v300
      omega
    obtain ⟨v301, q301⟩ : ∃ zz : Int32, lcmpW v294 v300 = zz := ⟨_, rfl⟩
    refine g_lcmp hG X221 hx (hb hby at_301) (pc' := 302) rfl q301 ?_
    by_cases hc302 : (0 : Int32) < v301
    · refine g_ifNo hG X221 hx (hb hby at_302) (pc' := 305) ((if0 _ _).trans (tlt hc302).2.2.2) rfl ?_
      refine g_lload hG X221 hx (hb hby at_305) (pc' := 307) rfl rfl ?_
      refine g_lload hG X221 hx (hb hby at_307) (pc' := 309) rfl rfl ?_
      obtain ⟨v309, q309⟩ : ∃ zz : Int32, lcmpW v259 v280 = zz := ⟨_, rfl⟩
      refine g_lcmp hG X221 hx (hb hby at_309) (pc' := 310) rfl q309 ?_
      by_cases hc310 : v309 < (0 : Int32)
      · refine g_ifNo hG X221 hx (hb hby at_310) (pc' := 313) ((if0 _ _).trans (tlt hc310).2.1) rfl ?_
        refine g_iconst hG X221 hx (hb hby at_313) (pc' := 314) rfl (v := (1 : Int32)) rfl ?_
        refine g_goto hG X221 hx (hb hby at_314) (pc' := 318) (by decide) (by decide) ?_
        refine g_istore hG X221 hx (hb hby at_318) (pc' := 320) rfl (Ls' := #[.val (.int aa), .val (.int bb), .val (.int cc), .val (.int dd), .val (.int sel), .val (.int 5), .val (.int v18), .val (.ref ar), .val (.ref b194), .val (.ref b202), .val (.ref dr), .val (.long v166), .second, .val (.long v173), .second, .val (.long v180), .second, .val (.long v187), .second, .val (.ref b), .val (.double v217), .second, .val (.int rs), .val (.long v259), .second, .val (.long v280), .second, .val (.int 1)]) rfl ?_
        refine g_goto hG X221 hx (hb hby at_320) (pc' := 378) (by decide) (by decide) ?_
        refine g_iload hG X221 hx (hb hby at_378) (pc' := 380) rfl rfl ?_
        refine g_iload hG X221 hx (hb hby at_380) (pc' := 382) rfl rfl ?_
        have g302 : v300.toInt < v294.toInt := Int64.lt_iff_toInt_lt.mp ((lw_gt _ _).mp (by rw [q301]; exact hc302))
        have g310 : v259.toInt < v280.toInt := Int64.lt_iff_toInt_lt.mp ((lw_lt _ _).mp (by rw [q309]; exact hc310))
        have ers : rs = (1 : Int32) := by rw [hrs, if_pos (by omega), if_pos (by omega)]
        refine g_icmpNo hG X221 hx (hb hby at_382) (pc' := 385) ((teq ers).2) rfl ?_
        refine g_iconst hG X221 hx (hb hby at_385) (pc' := 386) rfl (v := (1 : Int32)) rfl ?_
        refine g_goto hG X221 hx (hb hby at_386) (pc' := 390) (by decide) (by decide) ?_
        exact e_retZ hGe X221 hx hrt hlk (hb hby at_390) (Or.inr rfl) eh221 (by decide) (by decide) (⟨rfl, NF221⟩)
      · refine g_ifYes hG X221 hx (hb hby at_310) (pc' := 317) ((if0 _ _).trans (flt hc310).2.1) (by decide) (by decide) ?_
        refine g_iconst hG X221 hx (hb hby at_317) (pc' := 318) rfl (v := (0 : Int32)) rfl ?_
        refine g_istore hG X221 hx (hb hby at_318) (pc' := 320) rfl (Ls' := #[.val (.int aa), .val (.int bb), .val (.int cc), .val (.int dd), .val (.int sel), .val (.int 5), .val (.int v18), .val (.ref ar), .val (.ref b194), .val (.ref b202), .val (.ref dr), .val (.long v166), .second, .val (.long v173), .second, .val (.long v180), .second, .val (.long v187), .second, .val (.ref b), .val (.double v217), .second, .val (.int rs), .val (.long v259), .second, .val (.long v280), .second, .val (.int 0)]) rfl ?_
        refine g_goto hG X221 hx (hb hby at_320) (pc' := 378) (by decide) (by decide) ?_
        refine g_iload hG X221 hx (hb hby at_378) (pc' := 380) rfl rfl ?_
        refine g_iload hG X221 hx (hb hby at_380) (pc' := 382) rfl rfl ?_
        have g302 : v300.toInt < v294.toInt := Int64.lt_iff_toInt_lt.mp ((lw_gt _ _).mp (by rw [q301]; exact hc302))
        have g310 : ¬ v259.toInt < v280.toInt := fun g => hc310 (by rw [← q309]; exact (lw_lt _ _).mpr (Int64.lt_iff_toInt_lt.mpr g))
        have ers : rs = (0 : Int32) := by rw [hrs, if_pos (by omega), if_neg (by omega)]
        refine g_icmpNo hG X221 hx (hb hby at_382) (pc' := 385) ((teq ers).2) rfl ?_
        refine g_iconst hG X221 hx (hb hby at_385) (pc' := 386) rfl (v := (1 : Int32)) rfl ?_
        refine g_goto hG X221 hx (hb hby at_386) (pc' := 390) (by decide) (by decide) ?_
        exact e_retZ hGe X221 hx hrt hlk (hb hby at_390) (Or.inr rfl) eh221 (by decide) (by decide) (⟨rfl, NF221⟩)
    · refine g_ifYes hG X221 hx (hb hby at_302) (pc' := 323) ((if0 _ _).trans (flt hc302).2.2.2) (by decide) (by decide) ?_
      refine g_ldcLong hG X221 hx hZ hown (wd hw 43 rfl) (hb hby at_323) (pc' := 326) rfl ?_
      refine g_lload hG X221 hx (hb hby at_326) (pc' := 328) rfl rfl ?_
      refine g_lload hG X221 hx (hb hby at_328) (pc' := 330) rfl rfl ?_
      obtain ⟨v330, q330⟩ : ∃ zz : Int64, v166 - v180 = zz := ⟨_, rfl⟩
      refine g_lsub hG X221 hx (hb hby at_330) (pc' := 331) rfl q330 ?_
      obtain ⟨ab331, hab331⟩ : ∃ z : Int64, (if v330 < 0 then -v330 else v330) = z := ⟨_, rfl⟩
      have e_ab331 : (ab331.toInt = v166.toInt - v180.toInt ∧ v180.toInt ≤ v166.toInt) ∨ (ab331.toInt = v180.toInt - v166.toInt ∧ v166.toInt ≤ v180.toInt) := by
        have a := c_lsub v166 v180
        rw [q330] at a
        have b := rng64 v330
        have c := c_lneg v330
        have d := rng64 (-v330)
        have z : (0 : Int64).toInt = 0 := by decide
        by_cases g : v330 < 0
        · rw [← hab331, if_pos g]
          rw [Int64.lt_iff_toInt_lt, z] at g
          omega
        · rw [← hab331, if_neg g]
          rw [Int64.lt_iff_toInt_lt, z] at g
          omega
      refine g_callS hG X221 hx hZ (y := (⟨"java/lang/Math", "abs", "(J)J"⟩ : MethodName)) 2 hown (wd hw 44 rfl) (wd hw 45 rfl) (wd hw 22 rfl) (wd hw 46 rfl) (by decide) (rmAbs l Z a0 hw [] v330 T219.heap n0 Zs) (by decide) (by decide) (by rw [hml]; rfl) pd_6 rfl (argsL := [(.long v330)]) (rest := [(.long 4)]) rfl rfl (Nat.le_of_eq rfl) (hb hby at_331) eh221 (by decide) (by decide) (pc' := 334) rfl ?_
      intro T222 rv222 L222 X222 hQ222
      obtain ⟨rfl, Nq222, eh222⟩ := hQ222
      have NF222 := Fr.app NF221 Nq222
      rw [hab331]
      show G (T222.setTop (mkF m 334 _ [(.long ab331), (.long 4)]))
      obtain ⟨v334, q334⟩ : ∃ zz : Int64, (4 : Int64) * ab331 = zz := ⟨_, rfl⟩
      refine g_lmul hG X222 hx (hb hby at_334) (pc' := 335) rfl q334 ?_
      refine g_iload hG X222 hx (hb hby at_335) (pc' := 337) rfl rfl ?_
      obtain ⟨v337, q337⟩ : ∃ zz : Int64, v18.toInt64 = zz := ⟨_, rfl⟩
      refine g_i2l hG X222 hx (hb hby at_337) (pc' := 338) rfl q337 ?_
      refine g_lload hG X222 hx (hb hby at_338) (pc' := 340) rfl rfl ?_
      obtain ⟨v340, q340⟩ : ∃ zz : Int64, v337 * v180 = zz := ⟨_, rfl⟩
      refine g_lmul hG X222 hx (hb hby at_340) (pc' := 341) rfl q340 ?_
      have k334 : v334.toInt = 4 * ab331.toInt := by
        have a := c_lmul (4 : Int64) ab331
        have c : (4 : Int64).toInt = 4 := by decide
        rw [q334, c] at a
        have b := rng64 v334
        omega
      have k340 : v340.toInt = R := by
        have a := c_lmul v337 v180
        have c : v337.toInt = v18.toInt := by rw [← q337]; exact c_i2l v18
        rw [q340, c, hR] at a
        have b := rng64 v340
        omega
      obtain ⟨v341, q341⟩ : ∃ zz : Int32, lcmpW v334 v340 = zz := ⟨_, rfl⟩
      refine g_lcmp hG X222 hx (hb hby at_341) (pc' := 342) rfl q341 ?_
      by_cases hc342 : (0 : Int32) < v341
      · refine g_ifNo hG X222 hx (hb hby at_342) (pc' := 345) ((if0 _ _).trans (tlt hc342).2.2.2) rfl ?_
        refine g_lload hG X222 hx (hb hby at_345) (pc' := 347) rfl rfl ?_
        refine g_lload hG X222 hx (hb hby at_347) (pc' := 349) rfl rfl ?_
        obtain ⟨v349, q349⟩ : ∃ zz : Int32, lcmpW v166 v180 = zz := ⟨_, rfl⟩
        refine g_lcmp hG X222 hx (hb hby at_349) (pc' := 350) rfl q349 ?_
        by_cases hc350 : v349 < (0 : Int32)
        · refine g_ifNo hG X222 hx (hb hby at_350) (pc' := 353) ((if0 _ _).trans (tlt hc350).2.1) rfl ?_
          refine g_iconst hG X222 hx (hb hby at_353) (pc' := 354) rfl (v := (1 : Int32)) rfl ?_
          refine g_goto hG X222 hx (hb hby at_354) (pc' := 358) (by decide) (by decide) ?_
          refine g_istore hG X222 hx (hb hby at_358) (pc' := 360) rfl (Ls' := #[.val (.int aa), .val (.int bb), .val (.int cc), .val (.int dd), .val (.int sel), .val (.int 5), .val (.int v18), .val (.ref ar), .val (.ref b194), .val (.ref b202), .val (.ref dr), .val (.long v166), .second, .val (.long v173), .second, .val (.long v180), .second, .val (.long v187), .second, .val (.ref b), .val (.double v217), .second, .val (.int rs), .val (.long v259), .second, .val (.long v280), .second, .val (.int 1)]) rfl ?_
          refine g_goto hG X222 hx (hb hby at_360) (pc' := 378) (by decide) (by decide) ?_
          refine g_iload hG X222 hx (hb hby at_378) (pc' := 380) rfl rfl ?_
          refine g_iload hG X222 hx (hb hby at_380) (pc' := 382) rfl rfl ?_
          have g302 : ¬ v300.toInt < v294.toInt := fun g => hc302 (by rw [← q301]; exact (lw_gt _ _).mpr (Int64.lt_iff_toInt_lt.mpr g))
          have g342 : v340.toInt < v334.toInt := Int64.lt_iff_toInt_lt.mp ((lw_gt _ _).mp (by rw [q341]; exact hc342))
          have g350 : v166.toInt < v180.toInt := Int64.lt_iff_toInt_lt.mp ((lw_lt _ _).mp (by rw [q349]; exact hc350))
          have ers : rs = (1 : Int32) := by rw [hrs, if_neg (by omega), if_pos (by omega), if_pos (by omega)]
          refine g_icmpNo hG X222 hx (hb hby at_382) (pc' := 385) ((teq ers).2) rfl ?_
          refine g_iconst hG X222 hx (hb hby at_385) (pc' := 386) rfl (v := (1 : Int32)) rfl ?_
          refine g_goto hG X222 hx (hb hby at_386) (pc' := 390) (by decide) (by decide) ?_
          exact e_retZ hGe X222 hx hrt hlk (hb hby at_390) (Or.inr rfl) eh222 (by decide) (by decide) (⟨rfl, NF222⟩)
        · refine g_ifYes hG X222 hx (hb hby at_350) (pc' := 357) ((if0 _ _).trans (flt hc350).2.1) (by decide) (by decide) ?_
          refine g_iconst hG X222 hx (hb hby at_357) (pc' := 358) rfl (v := (0 : Int32)) rfl ?_
          refine g_istore hG X222 hx (hb hby at_358) (pc' := 360) rfl (Ls' := #[.val (.int aa), .val (.int bb), .val (.int cc), .val (.int dd), .val (.int sel), .val (.int 5), .val (.int v18), .val (.ref ar), .val (.ref b194), .val (.ref b202), .val (.ref dr), .val (.long v166), .second, .val (.long v173), .second, .val (.long v180), .second, .val (.long v187), .second, .val (.ref b), .val (.double v217), .second, .val (.int rs), .val (.long v259), .second, .val (.long v280), .second, .val (.int 0)]) rfl ?_
          refine g_goto hG X222 hx (hb hby at_360) (pc' := 378) (by decide) (by decide) ?_
          refine g_iload hG X222 hx (hb hby at_378) (pc' := 380) rfl rfl ?_
          refine g_iload hG X222 hx (hb hby at_380) (pc' := 382) rfl rfl ?_
          have g302 : ¬ v300.toInt < v294.toInt := fun g => hc302 (by rw [← q301]; exact (lw_gt _ _).mpr (Int64.lt_iff_toInt_lt.mpr g))
          have g342 : v340.toInt < v334.toInt := Int64.lt_iff_toInt_lt.mp ((lw_gt _ _).mp (by rw [q341]; exact hc342))
          have g350 : ¬ v166.toInt < v180.toInt := fun g => hc350 (by rw [← q349]; exact (lw_lt _ _).mpr (Int64.lt_iff_toInt_lt.mpr g))
          have ers : rs = (0 : Int32) := by rw [hrs, if_neg (by omega), if_pos (by omega), if_neg (by omega)]
          refine g_icmpNo hG X222 hx (hb hby at_382) (pc' := 385) ((teq ers).2) rfl ?_
          refine g_iconst hG X222 hx (hb hby at_385) (pc' := 386) rfl (v := (1 : Int32)) rfl ?_
          refine g_goto hG X222 hx (hb hby at_386) (pc' := 390) (by decide) (by decide) ?_
          exact e_retZ hGe X222 hx hrt hlk (hb hby at_390) (Or.inr rfl) eh222 (by decide) (by decide) (⟨rfl, NF222⟩)
      · refine g_ifYes hG X222 hx (hb hby at_342) (pc' := 363) ((if0 _ _).trans (flt hc342).2.2.2) (by decide) (by decide) ?_
        refine g_lload hG X222 hx (hb hby at_363) (pc' := 365) rfl rfl ?_
        refine g_lload hG X222 hx (hb hby at_365) (pc' := 367) rfl rfl ?_
        obtain ⟨v367, q367⟩ : ∃ zz : Int32, lcmpW v173 v187 = zz := ⟨_, rfl⟩
        refine g_lcmp hG X222 hx (hb hby at_367) (pc' := 368) rfl q367 ?_
        by_cases hc368 : v367 < (0 : Int32)
        · refine g_ifNo hG X222 hx (hb hby at_368) (pc' := 371) ((if0 _ _).trans (tlt hc368).2.1) rfl ?_
          refine g_iconst hG X222 hx (hb hby at_371) (pc' := 372) rfl (v := (1 : Int32)) rfl ?_
          refine g_goto hG X222 hx (hb hby at_372) (pc' := 376) (by decide) (by decide) ?_
          refine g_istore hG X222 hx (hb hby at_376) (pc' := 378) rfl (Ls' := #[.val (.int aa), .val (.int bb), .val (.int cc), .val (.int dd), .val (.int sel), .val (.int 5), .val (.int v18), .val (.ref ar), .val (.ref b194), .val (.ref b202), .val (.ref dr), .val (.long v166), .second, .val (.long v173), .second, .val (.long v180), .second, .val (.long v187), .second, .val (.ref b), .val (.double v217), .second, .val (.int rs), .val (.long v259), .second, .val (.long v280), .second, .val (.int 1)]) rfl ?_
          refine g_iload hG X222 hx (hb hby at_378) (pc' := 380) rfl rfl ?_
          refine g_iload hG X222 hx (hb hby at_380) (pc' := 382) rfl rfl ?_
          have g302 : ¬ v300.toInt < v294.toInt := fun g => hc302 (by rw [← q301]; exact (lw_gt _ _).mpr (Int64.lt_iff_toInt_lt.mpr g))
          have g342 : ¬ v340.toInt < v334.toInt := fun g => hc342 (by rw [← q341]; exact (lw_gt _ _).mpr (Int64.lt_iff_toInt_lt.mpr g))
          have g368 : v173.toInt < v187.toInt := Int64.lt_iff_toInt_lt.mp ((lw_lt _ _).mp (by rw [q367]; exact hc368))
          have ers : rs = (1 : Int32) := by rw [hrs, if_neg (by omega), if_neg (by omega), if_pos (by omega)]
          refine g_icmpNo hG X222 hx (hb hby at_382) (pc' := 385) ((teq ers).2) rfl ?_
          refine g_iconst hG X222 hx (hb hby at_385) (pc' := 386) rfl (v := (1 : Int32)) rfl ?_
          refine g_goto hG X222 hx (hb hby at_386) (pc' := 390) (by decide) (by decide) ?_
          exact e_retZ hGe X222 hx hrt hlk (hb hby at_390) (Or.inr rfl) eh222 (by decide) (by decide) (⟨rfl, NF222⟩)
        · refine g_ifYes hG X222 hx (hb hby at_368) (pc' := 375) ((if0 _ _).trans (flt hc368).2.1) (by decide) (by decide) ?_
          refine g_iconst hG X222 hx (hb hby at_375) (pc' := 376) rfl (v := (0 : Int32)) rfl ?_
          refine g_istore hG X222 hx (hb hby at_376) (pc' := 378) rfl (Ls' := #[.val (.int aa), .val (.int bb), .val (.int cc), .val (.int dd), .val (.int sel), .val (.int 5), .val (.int v18), .val (.ref ar), .val (.ref b194), .val (.ref b202), .val (.ref dr), .val (.long v166), .second, .val (.long v173), .second, .val (.long v180), .second, .val (.long v187), .second, .val (.ref b), .val (.double v217), .second, .val (.int rs), .val (.long v259), .second, .val (.long v280), .second, .val (.int 0)]) rfl ?_
          refine g_iload hG X222 hx (hb hby at_378) (pc' := 380) rfl rfl ?_
          refine g_iload hG X222 hx (hb hby at_380) (pc' := 382) rfl rfl ?_
          have g302 : ¬ v300.toInt < v294.toInt := fun g => hc302 (by rw [← q301]; exact (lw_gt _ _).mpr (Int64.lt_iff_toInt_lt.mpr g))
          have g342 : ¬ v340.toInt < v334.toInt := fun g => hc342 (by rw [← q341]; exact (lw_gt _ _).mpr (Int64.lt_iff_toInt_lt.mpr g))
          have g368 : ¬ v173.toInt < v187.toInt := fun g => hc368 (by rw [← q367]; exact (lw_lt _ _).mpr (Int64.lt_iff_toInt_lt.mpr g))
          have ers : rs = (0 : Int32) := by rw [hrs, if_neg (by omega), if_neg (by omega), if_neg (by omega)]
          refine g_icmpNo hG X222 hx (hb hby at_382) (pc' := 385) ((teq ers).2) rfl ?_
          refine g_iconst hG X222 hx (hb hby at_385) (pc' := 386) rfl (v := (1 : Int32)) rfl ?_
          refine g_goto hG X222 hx (hb hby at_386) (pc' := 390) (by decide) (by decide) ?_
          exact e_retZ hGe X222 hx hrt hlk (hb hby at_390) (Or.inr rfl) eh222 (by decide) (by decide) (⟨rfl, NF222⟩)
  · skip
    show G (s₁.setTop (mkF m 9 _ [(.int 6)]))
    refine g_istore hG X0 hx (hb hby at_9) (pc' := 11) rfl (Ls' := #[.val (.int aa), .val (.int bb), .val (.int cc), .val (.int dd), .val (.int sel), .val (.int 6), .unset, .unset, .unset, .unset, .unset, .unset, .unset, .unset, .unset, .unset, .unset, .unset, .unset, .unset, .unset, .unset, .unset, .unset, .unset, .unset, .unset, .unset]) rfl ?_
    refine g_iload hG X0 hx (hb hby at_11) (pc' := 13) rfl rfl ?_
    refine g_bipush hG X0 hx (hb hby at_13) (pc' := 15) rfl (v := (8 : Int32)) rfl ?_
    obtain ⟨v15, q15⟩ : ∃ zz : Int32, (sel.toUInt32 >>> ((8 : Int32) &&& 31).toUInt32).toInt32 = zz := ⟨_, rfl⟩
    refine g_iushr hG X0 hx (hb hby at_15) (pc' := 16) rfl q15 ?_
    refine g_bipush hG X0 hx (hb hby at_16) (pc' := 18) rfl (v := (7 : Int32)) rfl ?_
    obtain ⟨v18, q18⟩ : ∃ zz : Int32, v15 &&& (7 : Int32) = zz := ⟨_, rfl⟩
    refine g_iand hG X0 hx (hb hby at_18) (pc' := 19) rfl q18 ?_
    have b18 : 0 ≤ v18.toInt ∧ v18.toInt ≤ 7 := by rw [← q18]; exact c_and v15 7 (by decide)
    refine g_istore hG X0 hx (hb hby at_19) (pc' := 21) rfl (Ls' := #[.val (.int aa), .val (.int bb), .val (.int cc), .val (.int dd), .val (.int sel), .val (.int 6), .val (.int v18), .unset, .unset, .unset, .unset, .unset, .unset, .unset, .unset, .unset, .unset, .unset, .unset, .unset, .unset, .unset, .unset, .unset, .unset, .unset, .unset, .unset]) rfl ?_
    refine g_bipush hG X0 hx (hb hby at_21) (pc' := 23) rfl (v := (7 : Int32)) rfl ?_
    refine g_newP hG X0 hx hZ (wd hw 0 rfl) e0 (hb hby at_23) (by decide) 7 (by decide) (by decide) (by decide) (by decide) (pc' := 25) rfl ?_
    intro T223 h223 ar kA223 gs223 X223 e223 E223 A223
    have ge_ar : n0 ≤ ar := gs223 ▸ Zs
    have Zs := Nat.le_trans Zs E223.1
    have V_ar : AV Z h223 ar .int (7 : Int32) [(.int 0), (.int 0), (.int 0), (.int 0), (.int 0), (.int 0), (.int 0)] := AV.new A223
    refine g_dup hG X223 hx (hb hby at_25) (pc' := 26) rfl rfl ?_
    refine g_iconst hG X223 hx (hb hby at_26) (pc' := 27) rfl (v := (0 : Int32)) rfl ?_
    refine g_iconst hG X223 hx (hb hby at_27) (pc' := 28) rfl (v := (1 : Int32)) rfl ?_
    refine g_iastore hG X223 hx hZ e223 V_ar (j := (0 : Int32)) (by decide) (show Int32.toNatClampNeg (0 : Int32) < 7 by decide) (hb hby at_28) (pc' := 29) rfl ?_
    intro T224 h224 X224 e224 W224 Vn224
    have V_ar : AV Z h224 ar .int (7 : Int32) [(.int 1), (.int 0), (.int 0), (.int 0), (.int 0), (.int 0), (.int 0)] := Vn224
    have Zs := Nat.le_trans Zs (Wr.size W224)
    have NF224 := Fr.snoc X224 NF0 ge_ar
    refine g_dup hG X224 hx (hb hby at_29) (pc' := 30) rfl rfl ?_
    refine g_iconst hG X224 hx (hb hby at_30) (pc' := 31) rfl (v := (1 : Int32)) rfl ?_
    refine g_iconst hG X224 hx (hb hby at_31) (pc' := 32) rfl (v := (0 : Int32)) rfl ?_
    refine g_iastore hG X224 hx hZ e224 V_ar (j := (1 : Int32)) (by decide) (show Int32.toNatClampNeg (1 : Int32) < 7 by decide) (hb hby at_32) (pc' := 33) rfl ?_
    intro T225 h225 X225 e225 W225 Vn225
    have V_ar : AV Z h225 ar .int (7 : Int32) [(.int 1), (.int 0), (.int 0), (.int 0), (.int 0), (.int 0), (.int 0)] := Vn225
    have Zs := Nat.le_trans Zs (Wr.size W225)
    have NF225 := Fr.snoc X225 NF224 ge_ar
    refine g_dup hG X225 hx (hb hby at_33) (pc' := 34) rfl rfl ?_
    refine g_iconst hG X225 hx (hb hby at_34) (pc' := 35) rfl (v := (2 : Int32)) rfl ?_
    refine g_iconst hG X225 hx (hb hby at_35) (pc' := 36) rfl (v := (3 : Int32)) rfl ?_
    refine g_iastore hG X225 hx hZ e225 V_ar (j := (2 : Int32)) (by decide) (show Int32.toNatClampNeg (2 : Int32) < 7 by decide) (hb hby at_36) (pc' := 37) rfl ?_
    intro T226 h226 X226 e226 W226 Vn226
    have V_ar : AV Z h226 ar .int (7 : Int32) [(.int 1), (.int 0), (.int 3), (.int 0), (.int 0), (.int 0), (.int 0)] := Vn226
    have Zs := Nat.le_trans Zs (Wr.size W226)
    have NF226 := Fr.snoc X226 NF225 ge_ar
    refine g_dup hG X226 hx (hb hby at_37) (pc' := 38) rfl rfl ?_
    refine g_iconst hG X226 hx (hb hby at_38) (pc' := 39) rfl (v := (3 : Int32)) rfl ?_
    refine g_iconst hG X226 hx (hb hby at_39) (pc' := 40) rfl (v := (1 : Int32)) rfl ?_
    refine g_iastore hG X226 hx hZ e226 V_ar (j := (3 : Int32)) (by decide) (show Int32.toNatClampNeg (3 : Int32) < 7 by decide) (hb hby at_40) (pc' := 41) rfl ?_
    intro T227 h227 X227 e227 W227 Vn227
    have V_ar : AV Z h227 ar .int (7 : Int32) [(.int 1), (.int 0), (.int 3), (.int 1), (.int 0), (.int 0), (.int 0)] := Vn227
    have Zs := Nat.le_trans Zs (Wr.size W227)
    have NF227 := Fr.snoc X227 NF226 ge_ar
    refine g_dup hG X227 hx (hb hby at_41) (pc' := 42) rfl rfl ?_
    refine g_iconst hG X227 hx (hb hby at_42) (pc' := 43) rfl (v := (4 : Int32)) rfl ?_
    refine g_bipush hG X227 hx (hb hby at_43) (pc' := 45) rfl (v := (8 : Int32)) rfl ?_
    refine g_iastore hG X227 hx hZ e227 V_ar (j := (4 : Int32)) (by decide) (show Int32.toNatClampNeg (4 : Int32) < 7 by decide) (hb hby at_45) (pc' := 46) rfl ?_
    intro T228 h228 X228 e228 W228 Vn228
    have V_ar : AV Z h228 ar .int (7 : Int32) [(.int 1), (.int 0), (.int 3), (.int 1), (.int 8), (.int 0), (.int 0)] := Vn228
    have Zs := Nat.le_trans Zs (Wr.size W228)
    have NF228 := Fr.snoc X228 NF227 ge_ar
    refine g_dup hG X228 hx (hb hby at_46) (pc' := 47) rfl rfl ?_
    refine g_iconst hG X228 hx (hb hby at_47) (pc' := 48) rfl (v := (5 : Int32)) rfl ?_
    refine g_iconst hG X228 hx (hb hby at_48) (pc' := 49) rfl (v := (1 : Int32)) rfl ?_
    refine g_iastore hG X228 hx hZ e228 V_ar (j := (5 : Int32)) (by decide) (show Int32.toNatClampNeg (5 : Int32) < 7 by decide) (hb hby at_49) (pc' := 50) rfl ?_
    intro T229 h229 X229 e229 W229 Vn229
    have V_ar : AV Z h229 ar .int (7 : Int32) [(.int 1), (.int 0), (.int 3), (.int 1), (.int 8), (.int 1), (.int 0)] := Vn229
    have Zs := Nat.le_trans Zs (Wr.size W229)
    have NF229 := Fr.snoc X229 NF228 ge_ar
    refine g_dup hG X229 hx (hb hby at_50) (pc' := 51) rfl rfl ?_
    refine g_bipush hG X229 hx (hb hby at_51) (pc' := 53) rfl (v := (6 : Int32)) rfl ?_
    refine g_iconst hG X229 hx (hb hby at_53) (pc' := 54) rfl (v := (4 : Int32)) rfl ?_
    refine g_iastore hG X229 hx hZ e229 V_ar (j := (6 : Int32)) (by decide) (show Int32.toNatClampNeg (6 : Int32) < 7 by decide) (hb hby at_54) (pc' := 55) rfl ?_
    intro T230 h230 X230 e230 W230 Vn230
    have V_ar : AV Z h230 ar .int (7 : Int32) [(.int 1), (.int 0), (.int 3), (.int 1), (.int 8), (.int 1), (.int 4)] := Vn230
    have Zs := Nat.le_trans Zs (Wr.size W230)
    have NF230 := Fr.snoc X230 NF229 ge_ar
    refine g_astore hG X230 hx (hb hby at_55) (pc' := 57) rfl rfl (Ls' := #[.val (.int aa), .val (.int bb), .val (.int cc), .val (.int dd), .val (.int sel), .val (.int 6), .val (.int v18), .val (.ref ar), .unset, .unset, .unset, .unset, .unset, .unset, .unset, .unset, .unset, .unset, .unset, .unset, .unset, .unset, .unset, .unset, .unset, .unset, .unset, .unset]) rfl ?_
    refine g_bipush hG X230 hx (hb hby at_57) (pc' := 59) rfl (v := (7 : Int32)) rfl ?_
    refine g_newP hG X230 hx hZ (wd hw 0 rfl) e230 (hb hby at_59) (by decide) 7 (by decide) (by decide) (by decide) (by decide) (pc' := 61) rfl ?_
    intro T231 h231 b231 kA231 gs231 X231 e231 E231 A231
    have ne_ar_b231 : ar ≠ b231 := Nat.ne_of_lt (gs231 ▸ V_ar.lt)
    have ge_b231 : n0 ≤ b231 := gs231 ▸ Zs
    have Zs := Nat.le_trans Zs E231.1
    have V_ar := V_ar.ext E231
    have V_b231 : AV Z h231 b231 .int (7 : Int32) [(.int 0), (.int 0), (.int 0), (.int 0), (.int 0), (.int 0), (.int 0)] := AV.new A231
    refine g_dup hG X231 hx (hb hby at_61) (pc' := 62) rfl rfl ?_
    refine g_iconst hG X231 hx (hb hby at_62) (pc' := 63) rfl (v := (0 : Int32)) rfl ?_
    refine g_iconst hG X231 hx (hb hby at_63) (pc' := 64) rfl (v := (0 : Int32)) rfl ?_
    refine g_iastore hG X231 hx hZ e231 V_b231 (j := (0 : Int32)) (by decide) (show Int32.toNatClampNeg (0 : Int32) < 7 by decide) (hb hby at_64) (pc' := 65) rfl ?_
    intro T232 h232 X232 e232 W232 Vn232
    have V_b231 : AV Z h232 b231 .int (7 : Int32) [(.int 0), (.int 0), (.int 0), (.int 0), (.int 0), (.int 0), (.int 0)] := Vn232
    have V_ar := V_ar.other W232 ne_ar_b231
    have Zs := Nat.le_trans Zs (Wr.size W232)
    have NF232 := Fr.snoc X232 NF230 ge_b231
    refine g_dup hG X232 hx (hb hby at_65) (pc' := 66) rfl rfl ?_
    refine g_iconst hG X232 hx (hb hby at_66) (pc' := 67) rfl (v := (1 : Int32)) rfl ?_
    refine g_iconst hG X232 hx (hb hby at_67) (pc' := 68) rfl (v := (2 : Int32)) rfl ?_
    refine g_iastore hG X232 hx hZ e232 V_b231 (j := (1 : Int32)) (by decide) (show Int32.toNatClampNeg (1 : Int32) < 7 by decide) (hb hby at_68) (pc' := 69) rfl ?_
    intro T233 h233 X233 e233 W233 Vn233
    have V_b231 : AV Z h233 b231 .int (7 : Int32) [(.int 0), (.int 2), (.int 0), (.int 0), (.int 0), (.int 0), (.int 0)] := Vn233
    have V_ar := V_ar.other W233 ne_ar_b231
    have Zs := Nat.le_trans Zs (Wr.size W233)
    have NF233 := Fr.snoc X233 NF232 ge_b231
    refine g_dup hG X233 hx (hb hby at_69) (pc' := 70) rfl rfl ?_
    refine g_iconst hG X233 hx (hb hby at_70) (pc' := 71) rfl (v := (2 : Int32)) rfl ?_
    refine g_iconst hG X233 hx (hb hby at_71) (pc' := 72) rfl (v := (3 : Int32)) rfl ?_
    refine g_iastore hG X233 hx hZ e233 V_b231 (j := (2 : Int32)) (by decide) (show Int32.toNatClampNeg (2 : Int32) < 7 by decide) (hb hby at_72) (pc' := 73) rfl ?_
    intro T234 h234 X234 e234 W234 Vn234
    have V_b231 : AV Z h234 b231 .int (7 : Int32) [(.int 0), (.int 2), (.int 3), (.int 0), (.int 0), (.int 0), (.int 0)] := Vn234
    have V_ar := V_ar.other W234 ne_ar_b231
    have Zs := Nat.le_trans Zs (Wr.size W234)
    have NF234 := Fr.snoc X234 NF233 ge_b231
    refine g_dup hG X234 hx (hb hby at_73) (pc' := 74) rfl rfl ?_
    refine g_iconst hG X234 hx (hb hby at_74) (pc' := 75) rfl (v := (3 : Int32)) rfl ?_
    refine g_iconst hG X234 hx (hb hby at_75) (pc' := 76) rfl (v := (2 : Int32)) rfl ?_
    refine g_iastore hG X234 hx hZ e234 V_b231 (j := (3 : Int32)) (by decide) (show Int32.toNatClampNeg (3 : Int32) < 7 by decide) (hb hby at_76) (pc' := 77) rfl ?_
    intro T235 h235 X235 e235 W235 Vn235
    have V_b231 : AV Z h235 b231 .int (7 : Int32) [(.int 0), (.int 2), (.int 3), (.int 2), (.int 0), (.int 0), (.int 0)] := Vn235
    have V_ar := V_ar.other W235 ne_ar_b231
    have Zs := Nat.le_trans Zs (Wr.size W235)
    have NF235 := Fr.snoc X235 NF234 ge_b231
    refine g_dup hG X235 hx (hb hby at_77) (pc' := 78) rfl rfl ?_
    refine g_iconst hG X235 hx (hb hby at_78) (pc' := 79) rfl (v := (4 : Int32)) rfl ?_
    refine g_iconst hG X235 hx (hb hby at_79) (pc' := 80) rfl (v := (4 : Int32)) rfl ?_
    refine g_iastore hG X235 hx hZ e235 V_b231 (j := (4 : Int32)) (by decide) (show Int32.toNatClampNeg (4 : Int32) < 7 by decide) (hb hby at_80) (pc' := 81) rfl ?_
    intro T236 h236 X236 e236 W236 Vn236
    have V_b231 : AV Z h236 b231 .int (7 : Int32) [(.int 0), (.int 2), (.int 3), (.int 2), (.int 4), (.int 0), (.int 0)] := Vn236
    have V_ar := V_ar.other W236 ne_ar_b231
    have Zs := Nat.le_trans Zs (Wr.size W236)
    have NF236 := Fr.snoc X236 NF235 ge_b231
    refine g_dup hG X236 hx (hb hby at_81) (pc' := 82) rfl rfl ?_
    refine g_iconst hG X236 hx (hb hby at_82) (pc' := 83) rfl (v := (5 : Int32)) rfl ?_
    refine g_iconst hG X236 hx (hb hby at_83) (pc' := 84) rfl (v := (4 : Int32)) rfl ?_
    refine g_iastore hG X236 hx hZ e236 V_b231 (j := (5 : Int32)) (by decide) (show Int32.toNatClampNeg (5 : Int32) < 7 by decide) (hb hby at_84) (pc' := 85) rfl ?_
    intro T237 h237 X237 e237 W237 Vn237
    have V_b231 : AV Z h237 b231 .int (7 : Int32) [(.int 0), (.int 2), (.int 3), (.int 2), (.int 4), (.int 4), (.int 0)] := Vn237
    have V_ar := V_ar.other W237 ne_ar_b231
    have Zs := Nat.le_trans Zs (Wr.size W237)
    have NF237 := Fr.snoc X237 NF236 ge_b231
    refine g_dup hG X237 hx (hb hby at_85) (pc' := 86) rfl rfl ?_
    refine g_bipush hG X237 hx (hb hby at_86) (pc' := 88) rfl (v := (6 : Int32)) rfl ?_
    refine g_iconst hG X237 hx (hb hby at_88) (pc' := 89) rfl (v := (1 : Int32)) rfl ?_
    refine g_iastore hG X237 hx hZ e237 V_b231 (j := (6 : Int32)) (by decide) (show Int32.toNatClampNeg (6 : Int32) < 7 by decide) (hb hby at_89) (pc' := 90) rfl ?_
    intro T238 h238 X238 e238 W238 Vn238
    have V_b231 : AV Z h238 b231 .int (7 : Int32) [(.int 0), (.int 2), (.int 3), (.int 2), (.int 4), (.int 4), (.int 1)] := Vn238
    have V_ar := V_ar.other W238 ne_ar_b231
    have Zs := Nat.le_trans Zs (Wr.size W238)
    have NF238 := Fr.snoc X238 NF237 ge_b231
    refine g_astore hG X238 hx (hb hby at_90) (pc' := 92) rfl rfl (Ls' := #[.val (.int aa), .val (.int bb), .val (.int cc), .val (.int dd), .val (.int sel), .val (.int 6), .val (.int v18), .val (.ref ar), .val (.ref b231), .unset, .unset, .unset, .unset, .unset, .unset, .unset, .unset, .unset, .unset, .unset, .unset, .unset, .unset, .unset, .unset, .unset, .unset, .unset]) rfl ?_
    refine g_bipush hG X238 hx (hb hby at_92) (pc' := 94) rfl (v := (7 : Int32)) rfl ?_
    refine g_newP hG X238 hx hZ (wd hw 0 rfl) e238 (hb hby at_94) (by decide) 7 (by decide) (by decide) (by decide) (by decide) (pc' := 96) rfl ?_
    intro T239 h239 b239 kA239 gs239 X239 e239 E239 A239
    have ne_ar_b239 : ar ≠ b239 := Nat.ne_of_lt (gs239 ▸ V_ar.lt)
    have ne_b231_b239 : b231 ≠ b239 := Nat.ne_of_lt (gs239 ▸ V_b231.lt)
    have ge_b239 : n0 ≤ b239 := gs239 ▸ Zs
    have Zs := Nat.le_trans Zs E239.1
    have V_ar := V_ar.ext E239
    have V_b231 := V_b231.ext E239
    have V_b239 : AV Z h239 b239 .int (7 : Int32) [(.int 0), (.int 0), (.int 0), (.int 0), (.int 0), (.int 0), (.int 0)] := AV.new A239
    refine g_dup hG X239 hx (hb hby at_96) (pc' := 97) rfl rfl ?_
    refine g_iconst hG X239 hx (hb hby at_97) (pc' := 98) rfl (v := (0 : Int32)) rfl ?_
    refine g_iconst hG X239 hx (hb hby at_98) (pc' := 99) rfl (v := (4 : Int32)) rfl ?_
    refine g_iastore hG X239 hx hZ e239 V_b239 (j := (0 : Int32)) (by decide) (show Int32.toNatClampNeg (0 : Int32) < 7 by decide) (hb hby at_99) (pc' := 100) rfl ?_
    intro T240 h240 X240 e240 W240 Vn240
    have V_b239 : AV Z h240 b239 .int (7 : Int32) [(.int 4), (.int 0), (.int 0), (.int 0), (.int 0), (.int 0), (.int 0)] := Vn240
    have V_ar := V_ar.other W240 ne_ar_b239
    have V_b231 := V_b231.other W240 ne_b231_b239
    have Zs := Nat.le_trans Zs (Wr.size W240)
    have NF240 := Fr.snoc X240 NF238 ge_b239
    refine g_dup hG X240 hx (hb hby at_100) (pc' := 101) rfl rfl ?_
    refine g_iconst hG X240 hx (hb hby at_101) (pc' := 102) rfl (v := (1 : Int32)) rfl ?_
    refine g_iconst hG X240 hx (hb hby at_102) (pc' := 103) rfl (v := (0 : Int32)) rfl ?_
    refine g_iastore hG X240 hx hZ e240 V_b239 (j := (1 : Int32)) (by decide) (show Int32.toNatClampNeg (1 : Int32) < 7 by decide) (hb hby at_103) (pc' := 104) rfl ?_
    intro T241 h241 X241 e241 W241 Vn241
    have V_b239 : AV Z h241 b239 .int (7 : Int32) [(.int 4), (.int 0), (.int 0), (.int 0), (.int 0), (.int 0), (.int 0)] := Vn241
    have V_ar := V_ar.other W241 ne_ar_b239
    have V_b231 := V_b231.other W241 ne_b231_b239
    have Zs := Nat.le_trans Zs (Wr.size W241)
    have NF241 := Fr.snoc X241 NF240 ge_b239
    refine g_dup hG X241 hx (hb hby at_104) (pc' := 105) rfl rfl ?_
    refine g_iconst hG X241 hx (hb hby at_105) (pc' := 106) rfl (v := (2 : Int32)) rfl ?_
    refine g_iconst hG X241 hx (hb hby at_106) (pc' := 107) rfl (v := (4 : Int32)) rfl ?_
    refine g_iastore hG X241 hx hZ e241 V_b239 (j := (2 : Int32)) (by decide) (show Int32.toNatClampNeg (2 : Int32) < 7 by decide) (hb hby at_107) (pc' := 108) rfl ?_
    intro T242 h242 X242 e242 W242 Vn242
    have V_b239 : AV Z h242 b239 .int (7 : Int32) [(.int 4), (.int 0), (.int 4), (.int 0), (.int 0), (.int 0), (.int 0)] := Vn242
    have V_ar := V_ar.other W242 ne_ar_b239
    have V_b231 := V_b231.other W242 ne_b231_b239
    have Zs := Nat.le_trans Zs (Wr.size W242)
    have NF242 := Fr.snoc X242 NF241 ge_b239
    refine g_dup hG X242 hx (hb hby at_108) (pc' := 109) rfl rfl ?_
    refine g_iconst hG X242 hx (hb hby at_109) (pc' := 110) rfl (v := (3 : Int32)) rfl ?_
    refine g_iconst hG X242 hx (hb hby at_110) (pc' := 111) rfl (v := (2 : Int32)) rfl ?_
    refine g_iastore hG X242 hx hZ e242 V_b239 (j := (3 : Int32)) (by decide) (show Int32.toNatClampNeg (3 : Int32) < 7 by decide) (hb hby at_111) (pc' := 112) rfl ?_
    intro T243 h243 X243 e243 W243 Vn243
    have V_b239 : AV Z h243 b239 .int (7 : Int32) [(.int 4), (.int 0), (.int 4), (.int 2), (.int 0), (.int 0), (.int 0)] := Vn243
    have V_ar := V_ar.other W243 ne_ar_b239
    have V_b231 := V_b231.other W243 ne_b231_b239
    have Zs := Nat.le_trans Zs (Wr.size W243)
    have NF243 := Fr.snoc X243 NF242 ge_b239
    refine g_dup hG X243 hx (hb hby at_112) (pc' := 113) rfl rfl ?_
    refine g_iconst hG X243 hx (hb hby at_113) (pc' := 114) rfl (v := (4 : Int32)) rfl ?_
    refine g_iconst hG X243 hx (hb hby at_114) (pc' := 115) rfl (v := (4 : Int32)) rfl ?_
    refine g_iastore hG X243 hx hZ e243 V_b239 (j := (4 : Int32)) (by decide) (show Int32.toNatClampNeg (4 : Int32) < 7 by decide) (hb hby at_115) (pc' := 116) rfl ?_
    intro T244 h244 X244 e244 W244 Vn244
    have V_b239 : AV Z h244 b239 .int (7 : Int32) [(.int 4), (.int 0), (.int 4), (.int 2), (.int 4), (.int 0), (.int 0)] := Vn244
    have V_ar := V_ar.other W244 ne_ar_b239
    have V_b231 := V_b231.other W244 ne_b231_b239
    have Zs := Nat.le_trans Zs (Wr.size W244)
    have NF244 := Fr.snoc X244 NF243 ge_b239
    refine g_dup hG X244 hx (hb hby at_116) (pc' := 117) rfl rfl ?_
    refine g_iconst hG X244 hx (hb hby at_117) (pc' := 118) rfl (v := (5 : Int32)) rfl ?_
    refine g_iconst hG X244 hx (hb hby at_118) (pc' := 119) rfl (v := (1 : Int32)) rfl ?_
    refine g_iastore hG X244 hx hZ e244 V_b239 (j := (5 : Int32)) (by decide) (show Int32.toNatClampNeg (5 : Int32) < 7 by decide) (hb hby at_119) (pc' := 120) rfl ?_
    intro T245 h245 X245 e245 W245 Vn245
    have V_b239 : AV Z h245 b239 .int (7 : Int32) [(.int 4), (.int 0), (.int 4), (.int 2), (.int 4), (.int 1), (.int 0)] := Vn245
    have V_ar := V_ar.other W245 ne_ar_b239
    have V_b231 := V_b231.other W245 ne_b231_b239
    have Zs := Nat.le_trans Zs (Wr.size W245)
    have NF245 := Fr.snoc X245 NF244 ge_b239
    refine g_dup hG X245 hx (hb hby at_120) (pc' := 121) rfl rfl ?_
    refine g_bipush hG X245 hx (hb hby at_121) (pc' := 123) rfl (v := (6 : Int32)) rfl ?_
    refine g_iconst hG X245 hx (hb hby at_123) (pc' := 124) rfl (v := (4 : Int32)) rfl ?_
    refine g_iastore hG X245 hx hZ e245 V_b239 (j := (6 : Int32)) (by decide) (show Int32.toNatClampNeg (6 : Int32) < 7 by decide) (hb hby at_124) (pc' := 125) rfl ?_
    intro T246 h246 X246 e246 W246 Vn246
    have V_b239 : AV Z h246 b239 .int (7 : Int32) [(.int 4), (.int 0), (.int 4), (.int 2), (.int 4), (.int 1), (.int 4)] := Vn246
    have V_ar := V_ar.other W246 ne_ar_b239
    have V_b231 := V_b231.other W246 ne_b231_b239
    have Zs := Nat.le_trans Zs (Wr.size W246)
    have NF246 := Fr.snoc X246 NF245 ge_b239
    refine g_astore hG X246 hx (hb hby at_125) (pc' := 127) rfl rfl (Ls' := #[.val (.int aa), .val (.int bb), .val (.int cc), .val (.int dd), .val (.int sel), .val (.int 6), .val (.int v18), .val (.ref ar), .val (.ref b231), .val (.ref b239), .unset, .unset, .unset, .unset, .unset, .unset, .unset, .unset, .unset, .unset, .unset, .unset, .unset, .unset, .unset, .unset, .unset, .unset]) rfl ?_
    refine g_bipush hG X246 hx (hb hby at_127) (pc' := 129) rfl (v := (7 : Int32)) rfl ?_
    refine g_newP hG X246 hx hZ (wd hw 0 rfl) e246 (hb hby at_129) (by decide) 7 (by decide) (by decide) (by decide) (by decide) (pc' := 131) rfl ?_
    intro T247 h247 dr kA247 gs247 X247 e247 E247 A247
    have ne_ar_dr : ar ≠ dr := Nat.ne_of_lt (gs247 ▸ V_ar.lt)
    have ne_b231_dr : b231 ≠ dr := Nat.ne_of_lt (gs247 ▸ V_b231.lt)
    have ne_b239_dr : b239 ≠ dr := Nat.ne_of_lt (gs247 ▸ V_b239.lt)
    have ge_dr : n0 ≤ dr := gs247 ▸ Zs
    have Zs := Nat.le_trans Zs E247.1
    have V_ar := V_ar.ext E247
    have V_b231 := V_b231.ext E247
    have V_b239 := V_b239.ext E247
    have V_dr : AV Z h247 dr .int (7 : Int32) [(.int 0), (.int 0), (.int 0), (.int 0), (.int 0), (.int 0), (.int 0)] := AV.new A247
    refine g_dup hG X247 hx (hb hby at_131) (pc' := 132) rfl rfl ?_
    refine g_iconst hG X247 hx (hb hby at_132) (pc' := 133) rfl (v := (0 : Int32)) rfl ?_
    refine g_iconst hG X247 hx (hb hby at_133) (pc' := 134) rfl (v := (0 : Int32)) rfl ?_
    refine g_iastore hG X247 hx hZ e247 V_dr (j := (0 : Int32)) (by decide) (show Int32.toNatClampNeg (0 : Int32) < 7 by decide) (hb hby at_134) (pc' := 135) rfl ?_
    intro T248 h248 X248 e248 W248 Vn248
    have V_dr : AV Z h248 dr .int (7 : Int32) [(.int 0), (.int 0), (.int 0), (.int 0), (.int 0), (.int 0), (.int 0)] := Vn248
    have V_ar := V_ar.other W248 ne_ar_dr
    have V_b231 := V_b231.other W248 ne_b231_dr
    have V_b239 := V_b239.other W248 ne_b239_dr
    have Zs := Nat.le_trans Zs (Wr.size W248)
    have NF248 := Fr.snoc X248 NF246 ge_dr
    refine g_dup hG X248 hx (hb hby at_135) (pc' := 136) rfl rfl ?_
    refine g_iconst hG X248 hx (hb hby at_136) (pc' := 137) rfl (v := (1 : Int32)) rfl ?_
    refine g_iconst hG X248 hx (hb hby at_137) (pc' := 138) rfl (v := (4 : Int32)) rfl ?_
    refine g_iastore hG X248 hx hZ e248 V_dr (j := (1 : Int32)) (by decide) (show Int32.toNatClampNeg (1 : Int32) < 7 by decide) (hb hby at_138) (pc' := 139) rfl ?_
    intro T249 h249 X249 e249 W249 Vn249
    have V_dr : AV Z h249 dr .int (7 : Int32) [(.int 0), (.int 4), (.int 0), (.int 0), (.int 0), (.int 0), (.int 0)] := Vn249
    have V_ar := V_ar.other W249 ne_ar_dr
    have V_b231 := V_b231.other W249 ne_b231_dr
    have V_b239 := V_b239.other W249 ne_b239_dr
    have Zs := Nat.le_trans Zs (Wr.size W249)
    have NF249 := Fr.snoc X249 NF248 ge_dr
    refine g_dup hG X249 hx (hb hby at_139) (pc' := 140) rfl rfl ?_
    refine g_iconst hG X249 hx (hb hby at_140) (pc' := 141) rfl (v := (2 : Int32)) rfl ?_
    refine g_iconst hG X249 hx (hb hby at_141) (pc' := 142) rfl (v := (4 : Int32)) rfl ?_
    refine g_iastore hG X249 hx hZ e249 V_dr (j := (2 : Int32)) (by decide) (show Int32.toNatClampNeg (2 : Int32) < 7 by decide) (hb hby at_142) (pc' := 143) rfl ?_
    intro T250 h250 X250 e250 W250 Vn250
    have V_dr : AV Z h250 dr .int (7 : Int32) [(.int 0), (.int 4), (.int 4), (.int 0), (.int 0), (.int 0), (.int 0)] := Vn250
    have V_ar := V_ar.other W250 ne_ar_dr
    have V_b231 := V_b231.other W250 ne_b231_dr
    have V_b239 := V_b239.other W250 ne_b239_dr
    have Zs := Nat.le_trans Zs (Wr.size W250)
    have NF250 := Fr.snoc X250 NF249 ge_dr
    refine g_dup hG X250 hx (hb hby at_143) (pc' := 144) rfl rfl ?_
    refine g_iconst hG X250 hx (hb hby at_144) (pc' := 145) rfl (v := (3 : Int32)) rfl ?_
    refine g_iconst hG X250 hx (hb hby at_145) (pc' := 146) rfl (v := (4 : Int32)) rfl ?_
    refine g_iastore hG X250 hx hZ e250 V_dr (j := (3 : Int32)) (by decide) (show Int32.toNatClampNeg (3 : Int32) < 7 by decide) (hb hby at_146) (pc' := 147) rfl ?_
    intro T251 h251 X251 e251 W251 Vn251
    have V_dr : AV Z h251 dr .int (7 : Int32) [(.int 0), (.int 4), (.int 4), (.int 4), (.int 0), (.int 0), (.int 0)] := Vn251
    have V_ar := V_ar.other W251 ne_ar_dr
    have V_b231 := V_b231.other W251 ne_b231_dr
    have V_b239 := V_b239.other W251 ne_b239_dr
    have Zs := Nat.le_trans Zs (Wr.size W251)
    have NF251 := Fr.snoc X251 NF250 ge_dr
    refine g_dup hG X251 hx (hb hby at_147) (pc' := 148) rfl rfl ?_
    refine g_iconst hG X251 hx (hb hby at_148) (pc' := 149) rfl (v := (4 : Int32)) rfl ?_
    refine g_iconst hG X251 hx (hb hby at_149) (pc' := 150) rfl (v := (2 : Int32)) rfl ?_
    refine g_iastore hG X251 hx hZ e251 V_dr (j := (4 : Int32)) (by decide) (show Int32.toNatClampNeg (4 : Int32) < 7 by decide) (hb hby at_150) (pc' := 151) rfl ?_
    intro T252 h252 X252 e252 W252 Vn252
    have V_dr : AV Z h252 dr .int (7 : Int32) [(.int 0), (.int 4), (.int 4), (.int 4), (.int 2), (.int 0), (.int 0)] := Vn252
    have V_ar := V_ar.other W252 ne_ar_dr
    have V_b231 := V_b231.other W252 ne_b231_dr
    have V_b239 := V_b239.other W252 ne_b239_dr
    have Zs := Nat.le_trans Zs (Wr.size W252)
    have NF252 := Fr.snoc X252 NF251 ge_dr
    refine g_dup hG X252 hx (hb hby at_151) (pc' := 152) rfl rfl ?_
    refine g_iconst hG X252 hx (hb hby at_152) (pc' := 153) rfl (v := (5 : Int32)) rfl ?_
    refine g_iconst hG X252 hx (hb hby at_153) (pc' := 154) rfl (v := (4 : Int32)) rfl ?_
    refine g_iastore hG X252 hx hZ e252 V_dr (j := (5 : Int32)) (by decide) (show Int32.toNatClampNeg (5 : Int32) < 7 by decide) (hb hby at_154) (pc' := 155) rfl ?_
    intro T253 h253 X253 e253 W253 Vn253
    have V_dr : AV Z h253 dr .int (7 : Int32) [(.int 0), (.int 4), (.int 4), (.int 4), (.int 2), (.int 4), (.int 0)] := Vn253
    have V_ar := V_ar.other W253 ne_ar_dr
    have V_b231 := V_b231.other W253 ne_b231_dr
    have V_b239 := V_b239.other W253 ne_b239_dr
    have Zs := Nat.le_trans Zs (Wr.size W253)
    have NF253 := Fr.snoc X253 NF252 ge_dr
    refine g_dup hG X253 hx (hb hby at_155) (pc' := 156) rfl rfl ?_
    refine g_bipush hG X253 hx (hb hby at_156) (pc' := 158) rfl (v := (6 : Int32)) rfl ?_
    refine g_iconst hG X253 hx (hb hby at_158) (pc' := 159) rfl (v := (1 : Int32)) rfl ?_
    refine g_iastore hG X253 hx hZ e253 V_dr (j := (6 : Int32)) (by decide) (show Int32.toNatClampNeg (6 : Int32) < 7 by decide) (hb hby at_159) (pc' := 160) rfl ?_
    intro T254 h254 X254 e254 W254 Vn254
    have V_dr : AV Z h254 dr .int (7 : Int32) [(.int 0), (.int 4), (.int 4), (.int 4), (.int 2), (.int 4), (.int 1)] := Vn254
    have V_ar := V_ar.other W254 ne_ar_dr
    have V_b231 := V_b231.other W254 ne_b231_dr
    have V_b239 := V_b239.other W254 ne_b239_dr
    have Zs := Nat.le_trans Zs (Wr.size W254)
    have NF254 := Fr.snoc X254 NF253 ge_dr
    refine g_astore hG X254 hx (hb hby at_160) (pc' := 162) rfl rfl (Ls' := #[.val (.int aa), .val (.int bb), .val (.int cc), .val (.int dd), .val (.int sel), .val (.int 6), .val (.int v18), .val (.ref ar), .val (.ref b231), .val (.ref b239), .val (.ref dr), .unset, .unset, .unset, .unset, .unset, .unset, .unset, .unset, .unset, .unset, .unset, .unset, .unset, .unset, .unset, .unset, .unset]) rfl ?_
    refine g_iloadN hG X254 hx (hb hby at_162) (pc' := 163) rfl rfl ?_
    refine g_ldcInt hG X254 hx hZ hown (wd hw 1 rfl) (hb hby at_163) (pc' := 165) rfl ?_
    obtain ⟨v165, q165⟩ : ∃ zz : Int32, aa &&& (65535 : Int32) = zz := ⟨_, rfl⟩
    refine g_iand hG X254 hx (hb hby at_165) (pc' := 166) rfl q165 ?_
    obtain ⟨v166, q166⟩ : ∃ zz : Int64, v165.toInt64 = zz := ⟨_, rfl⟩
    refine g_i2l hG X254 hx (hb hby at_166) (pc' := 167) rfl q166 ?_
    have b166 : 0 ≤ v166.toInt ∧ v166.toInt ≤ 65535 := by
      have a := c_and aa 65535 (by decide)
      rw [q165] at a
      have c : (65535 : Int32).toInt = 65535 := by decide
      have d : v166.toInt = v165.toInt := by rw [← q166]; exact c_i2l v165
      omega
    refine g_lstore hG X254 hx (hb hby at_167) (pc' := 169) rfl (Ls' := #[.val (.int aa), .val (.int bb), .val (.int cc), .val (.int dd), .val (.int sel), .val (.int 6), .val (.int v18), .val (.ref ar), .val (.ref b231), .val (.ref b239), .val (.ref dr), .val (.long v166), .second, .unset, .unset, .unset, .unset, .unset, .unset, .unset, .unset, .unset, .unset, .unset, .unset, .unset, .unset, .unset]) rfl ?_
    refine g_iloadN hG X254 hx (hb hby at_169) (pc' := 170) rfl rfl ?_
    refine g_ldcInt hG X254 hx hZ hown (wd hw 1 rfl) (hb hby at_170) (pc' := 172) rfl ?_
    obtain ⟨v172, q172⟩ : ∃ zz : Int32, bb &&& (65535 : Int32) = zz := ⟨_, rfl⟩
    refine g_iand hG X254 hx (hb hby at_172) (pc' := 173) rfl q172 ?_
    obtain ⟨v173, q173⟩ : ∃ zz : Int64, v172.toInt64 = zz := ⟨_, rfl⟩
    refine g_i2l hG X254 hx (hb hby at_173) (pc' := 174) rfl q173 ?_
    have b173 : 0 ≤ v173.toInt ∧ v173.toInt ≤ 65535 := by
      have a := c_and bb 65535 (by decide)
      rw [q172] at a
      have c : (65535 : Int32).toInt = 65535 := by decide
      have d : v173.toInt = v172.toInt := by rw [← q173]; exact c_i2l v172
      omega
    refine g_lstore hG X254 hx (hb hby at_174) (pc' := 176) rfl (Ls' := #[.val (.int aa), .val (.int bb), .val (.int cc), .val (.int dd), .val (.int sel), .val (.int 6), .val (.int v18), .val (.ref ar), .val (.ref b231), .val (.ref b239), .val (.ref dr), .val (.long v166), .second, .val (.long v173), .second, .unset, .unset, .unset, .unset, .unset, .unset, .unset, .unset, .unset, .unset, .unset, .unset, .unset]) rfl ?_
    refine g_iloadN hG X254 hx (hb hby at_176) (pc' := 177) rfl rfl ?_
    refine g_ldcInt hG X254 hx hZ hown (wd hw 1 rfl) (hb hby at_177) (pc' := 179) rfl ?_
    obtain ⟨v179, q179⟩ : ∃ zz : Int32, cc &&& (65535 : Int32) = zz := ⟨_, rfl⟩
    refine g_iand hG X254 hx (hb hby at_179) (pc' := 180) rfl q179 ?_
    obtain ⟨v180, q180⟩ : ∃ zz : Int64, v179.toInt64 = zz := ⟨_, rfl⟩
    refine g_i2l hG X254 hx (hb hby at_180) (pc' := 181) rfl q180 ?_
    have b180 : 0 ≤ v180.toInt ∧ v180.toInt ≤ 65535 := by
      have a := c_and cc 65535 (by decide)
      rw [q179] at a
      have c : (65535 : Int32).toInt = 65535 := by decide
      have d : v180.toInt = v179.toInt := by rw [← q180]; exact c_i2l v179
      omega
    refine g_lstore hG X254 hx (hb hby at_181) (pc' := 183) rfl (Ls' := #[.val (.int aa), .val (.int bb), .val (.int cc), .val (.int dd), .val (.int sel), .val (.int 6), .val (.int v18), .val (.ref ar), .val (.ref b231), .val (.ref b239), .val (.ref dr), .val (.long v166), .second, .val (.long v173), .second, .val (.long v180), .second, .unset, .unset, .unset, .unset, .unset, .unset, .unset, .unset, .unset, .unset, .unset]) rfl ?_
    refine g_iloadN hG X254 hx (hb hby at_183) (pc' := 184) rfl rfl ?_
    refine g_ldcInt hG X254 hx hZ hown (wd hw 1 rfl) (hb hby at_184) (pc' := 186) rfl ?_
    obtain ⟨v186, q186⟩ : ∃ zz : Int32, dd &&& (65535 : Int32) = zz := ⟨_, rfl⟩
    refine g_iand hG X254 hx (hb hby at_186) (pc' := 187) rfl q186 ?_
    obtain ⟨v187, q187⟩ : ∃ zz : Int64, v186.toInt64 = zz := ⟨_, rfl⟩
    refine g_i2l hG X254 hx (hb hby at_187) (pc' := 188) rfl q187 ?_
    have b187 : 0 ≤ v187.toInt ∧ v187.toInt ≤ 65535 := by
      have a := c_and dd 65535 (by decide)
      rw [q186] at a
      have c : (65535 : Int32).toInt = 65535 := by decide
      have d : v187.toInt = v186.toInt := by rw [← q187]; exact c_i2l v186
      omega
    refine g_lstore hG X254 hx (hb hby at_188) (pc' := 190) rfl (Ls' := #[.val (.int aa), .val (.int bb), .val (.int cc), .val (.int dd), .val (.int sel), .val (.int 6), .val (.int v18), .val (.ref ar), .val (.ref b231), .val (.ref b239), .val (.ref dr), .val (.long v166), .second, .val (.long v173), .second, .val (.long v180), .second, .val (.long v187), .second, .unset, .unset, .unset, .unset, .unset, .unset, .unset, .unset, .unset]) rfl ?_
    refine g_newO hG X254 hx hZ hown (wd hw 2 rfl) (wd hw 3 rfl) (wd hw 4 rfl) e254 (hb hby at_190) (by decide) (by decide) (pc' := 193) rfl ?_
    intro T255 h255 b gs255 X255 e255 E255 Aq255 Dq255
    have ne_ar_b : ar ≠ b := Nat.ne_of_lt (gs255 ▸ V_ar.lt)
    have ne_b231_b : b231 ≠ b := Nat.ne_of_lt (gs255 ▸ V_b231.lt)
    have ne_b239_b : b239 ≠ b := Nat.ne_of_lt (gs255 ▸ V_b239.lt)
    have ne_dr_b : dr ≠ b := Nat.ne_of_lt (gs255 ▸ V_dr.lt)
    have ge_b : n0 ≤ b := gs255 ▸ Zs
    have Zs := Nat.le_trans Zs E255.1
    have V_ar := V_ar.ext E255
    have V_b231 := V_b231.ext E255
    have V_b239 := V_b239.ext E255
    have V_dr := V_dr.ext E255
    have Ex_b := Aq255
    have F_timeWeight_b : Fld Z h255 b "com/example/ganttwright/ganttwright/Objective" "timeWeight" "D" (.double 0) := Dq255 (Or.inr (wd hw 29 rfl)) (ty := .double) (by decide)
    have F_costWeight_b : Fld Z h255 b "com/example/ganttwright/ganttwright/Objective" "costWeight" "D" (.double 0) := Dq255 (Or.inr (wd hw 31 rfl)) (ty := .double) (by decide)
    refine g_dup hG X255 hx (hb hby at_193) (pc' := 194) rfl rfl ?_
    refine g_aload hG X255 hx (hb hby at_194) (pc' := 196) rfl rfl rfl ?_
    refine g_iload hG X255 hx (hb hby at_196) (pc' := 198) rfl rfl ?_
    refine g_iaload hG X255 hx hZ e255 V_ar (j := (6 : Int32)) (v := (.int 4)) (by decide) rfl (hb hby at_198) (pc' := 199) rfl ?_
    obtain ⟨v199, q199⟩ : ∃ zz : UInt64, FP.i2d (4 : Int32) = zz := ⟨_, rfl⟩
    refine g_i2d hG X255 hx (hb hby at_199) (pc' := 200) rfl q199 ?_
    refine g_aload hG X255 hx (hb hby at_200) (pc' := 202) rfl rfl rfl ?_
    refine g_iload hG X255 hx (hb hby at_202) (pc' := 204) rfl rfl ?_
    refine g_iaload hG X255 hx hZ e255 V_b231 (j := (6 : Int32)) (v := (.int 1)) (by decide) rfl (hb hby at_204) (pc' := 205) rfl ?_
    obtain ⟨v205, q205⟩ : ∃ zz : UInt64, FP.i2d (1 : Int32) = zz := ⟨_, rfl⟩
    refine g_i2d hG X255 hx (hb hby at_205) (pc' := 206) rfl q205 ?_
    obtain ⟨lg, hlg⟩ : ∃ z, Jvm.Native.java_lang_Math.nans.pick64 true v199 v205 = z := ⟨_, rfl⟩
    obtain ⟨t1, ht1⟩ : ∃ z, FP.ddiv v199 lg = z := ⟨_, rfl⟩
    obtain ⟨c1, hc1⟩ : ∃ z, FP.ddiv v205 lg = z := ⟨_, rfl⟩
    obtain ⟨f1, f2, g1, g2, g3, D1, D2⟩ := own_weights (x := 4) (y := 1) (g := 4) (p := 128) (q := 32) (by rw [← q199]; exact OwnFl.i2d_DV (4 : Int32) : OwnFl.DV v199 ((4 : Int) : Rat)) (by rw [← q205]; exact OwnFl.i2d_DV (1 : Int32) : OwnFl.DV v205 ((1 : Int) : Rat)) (by decide) (by decide) (Or.inr ⟨by decide, rfl⟩) (by decide) (by decide) (by decide) (by decide) (by decide) (by decide) (by decide) hlg ht1 hc1
    refine g_callI hG X255 hx hZ (y := (⟨"com/example/ganttwright/ganttwright/Objective", "<init>", "(DD)V"⟩ : MethodName)) 1 rfl hown (wd hw 5 rfl) (wd hw 6 rfl) (wd hw 4 rfl) (wd hw 7 rfl) (by decide) (rmObj l Z a0 hw [] b v199 v205 lg t1 c1 h255 n0 Zs ge_b f1 f2 g1 g2 g3 hlg ht1 hc1 D1.noNaN D2.noNaN Ex_b F_timeWeight_b F_costWeight_b) (by decide) (by decide) (by rw [hml]; rfl) pd_4 rfl (argsL := [(.double v199), (.double v205)]) (rest := [(.ref b)]) rfl rfl (Nat.le_of_eq rfl) (hb hby at_206) e255 (by decide) (by decide) (pc' := 209) rfl ?_
    intro T256 rv256 L256 X256 hQ256
    obtain ⟨rfl, Nq256, Kq256, Ex_b, F_timeWeight_b, F_costWeight_b⟩ := hQ256
    have NF256 := Fr.app NF254 Nq256
    have V_ar := V_ar.keep Kq256 (ninS ne_ar_b nin0)
    have V_b231 := V_b231.keep Kq256 (ninS ne_b231_b nin0)
    have V_b239 := V_b239.keep Kq256 (ninS ne_b239_b nin0)
    have V_dr := V_dr.keep Kq256 (ninS ne_dr_b nin0)
    have Zs := Nat.le_trans Zs Kq256.1
    show G (T256.setTop (mkF m 209 _ [(.ref b)]))
    refine g_astore hG X256 hx (hb hby at_209) (pc' := 211) rfl rfl (Ls' := #[.val (.int aa), .val (.int bb), .val (.int cc), .val (.int dd), .val (.int sel), .val (.int 6), .val (.int v18), .val (.ref ar), .val (.ref b231), .val (.ref b239), .val (.ref dr), .val (.long v166), .second, .val (.long v173), .second, .val (.long v180), .second, .val (.long v187), .second, .val (.ref b), .unset, .unset, .unset, .unset, .unset, .unset, .unset, .unset]) rfl ?_
    refine g_iload hG X256 hx (hb hby at_211) (pc' := 213) rfl rfl ?_
    obtain ⟨v213, q213⟩ : ∃ zz : UInt64, FP.i2d v18 = zz := ⟨_, rfl⟩
    refine g_i2d hG X256 hx (hb hby at_213) (pc' := 214) rfl q213 ?_
    refine g_ldcDouble hG X256 hx hZ hown (wd hw 32 rfl) (hb hby at_214) (pc' := 217) rfl ?_
    obtain ⟨v217, q217⟩ : ∃ zz : UInt64, FP.dmul v213 (4598175219545276416 : UInt64) = zz := ⟨_, rfl⟩
    have D217 : OwnFl.DV v217 (((v18.toInt : Int) : Rat) / 4) := by
      have b1 : (0 : Rat) ≤ (v18.toInt : Rat) := Rat.intCast_nonneg.mpr b18.1
      have b2 : (v18.toInt : Rat) ≤ 7 := by have := Rat.intCast_le_intCast.mpr b18.2; simpa using this
      have e : (v18.toInt : Rat) / 4 = (v18.toInt : Rat) * (1 / 4) := by rw [Rat.div_def, Rat.div_def, Rat.one_mul]
      have z := OwnFl.dmul_DV (OwnFl.i2d_DV v18) own_q (by grind) (by grind)
      rw [q213, q217, OwnFl.RR_exact ⟨v18.toInt, -2, by congr 1; decide +kernel, by omega, by decide⟩ (by grind) (by grind)] at z
      rw [e]; exact z
    refine g_dmul hG X256 hx (hb hby at_217) (pc' := 218) rfl (by rw [q217]; exact D217.noNaN) q217 ?_
    refine g_dstore hG X256 hx (hb hby at_218) (pc' := 220) rfl (Ls' := #[.val (.int aa), .val (.int bb), .val (.int cc), .val (.int dd), .val (.int sel), .val (.int 6), .val (.int v18), .val (.ref ar), .val (.ref b231), .val (.ref b239), .val (.ref dr), .val (.long v166), .second, .val (.long v173), .second, .val (.long v180), .second, .val (.long v187), .second, .val (.ref b), .val (.double v217), .second, .unset, .unset, .unset, .unset, .unset, .unset]) rfl ?_
    refine g_aload hG X256 hx (hb hby at_220) (pc' := 222) rfl rfl rfl ?_
    refine g_lload hG X256 hx (hb hby at_222) (pc' := 224) rfl rfl ?_
    obtain ⟨v224, q224⟩ : ∃ zz : UInt64, FP.l2d v166 = zz := ⟨_, rfl⟩
    refine g_l2d hG X256 hx (hb hby at_224) (pc' := 225) rfl q224 ?_
    refine g_lload hG X256 hx (hb hby at_225) (pc' := 227) rfl rfl ?_
    obtain ⟨v227, q227⟩ : ∃ zz : UInt64, FP.l2d v173 = zz := ⟨_, rfl⟩
    refine g_l2d hG X256 hx (hb hby at_227) (pc' := 228) rfl q227 ?_
    refine g_lload hG X256 hx (hb hby at_228) (pc' := 230) rfl rfl ?_
    obtain ⟨v230, q230⟩ : ∃ zz : UInt64, FP.l2d v180 = zz := ⟨_, rfl⟩
    refine g_l2d hG X256 hx (hb hby at_230) (pc' := 231) rfl q230 ?_
    refine g_lload hG X256 hx (hb hby at_231) (pc' := 233) rfl rfl ?_
    obtain ⟨v233, q233⟩ : ∃ zz : UInt64, FP.l2d v187 = zz := ⟨_, rfl⟩
    refine g_l2d hG X256 hx (hb hby at_233) (pc' := 234) rfl q233 ?_
    refine g_dload hG X256 hx (hb hby at_234) (pc' := 236) rfl rfl ?_
    obtain ⟨p1, hp1⟩ : ∃ z, FP.dmul t1 v224 = z := ⟨_, rfl⟩
    obtain ⟨p2, hp2⟩ : ∃ z, FP.dmul c1 v227 = z := ⟨_, rfl⟩
    obtain ⟨sc, hsc⟩ : ∃ z, FP.dadd p1 p2 = z := ⟨_, rfl⟩
    obtain ⟨p3, hp3⟩ : ∃ z, FP.dmul t1 v230 = z := ⟨_, rfl⟩
    obtain ⟨p4, hp4⟩ : ∃ z, FP.dmul c1 v233 = z := ⟨_, rfl⟩
    obtain ⟨sc2, hsc2⟩ : ∃ z, FP.dadd p3 p4 = z := ⟨_, rfl⟩
    obtain ⟨sm, hsm⟩ : ∃ z, FP.dmul v217 sc2 = z := ⟨_, rfl⟩
    obtain ⟨sk, hsk⟩ : ∃ z, FP.dmul v217 v230 = z := ⟨_, rfl⟩
    obtain ⟨lo, hlo⟩ : ∃ z, FP.dsub sc2 sm = z := ⟨_, rfl⟩
    obtain ⟨hi, hhi⟩ : ∃ z, FP.dadd sc2 sm = z := ⟨_, rfl⟩
    obtain ⟨lo2, hlo2⟩ : ∃ z, FP.dsub v230 sk = z := ⟨_, rfl⟩
    obtain ⟨hi2, hhi2⟩ : ∃ z, FP.dadd v230 sk = z := ⟨_, rfl⟩
    have D_v224 : OwnFl.DV v224 ((v166.toInt : Int) : Rat) := by rw [← q224]; exact OwnFl.l2d_DV (by omega)
    have D_v227 : OwnFl.DV v227 ((v173.toInt : Int) : Rat) := by rw [← q227]; exact OwnFl.l2d_DV (by omega)
    have D_v230 : OwnFl.DV v230 ((v180.toInt : Int) : Rat) := by rw [← q230]; exact OwnFl.l2d_DV (by omega)
    have D_v233 : OwnFl.DV v233 ((v187.toInt : Int) : Rat) := by rw [← q233]; exact OwnFl.l2d_DV (by omega)
    obtain ⟨S1_sc, S2_sc, S3_sc⟩ := own_score (p := 128) (q := 32) (by decide) (by decide) (by decide) (by decide) D1 D2 D_v224 D_v227 (by omega) (by omega) (by omega) (by omega)
    rw [hp1, hp2, hsc] at S3_sc
    rw [hp1] at S1_sc
    rw [hp2] at S2_sc
    obtain ⟨S1_sc2, S2_sc2, S3_sc2⟩ := own_score (p := 128) (q := 32) (by decide) (by decide) (by decide) (by decide) D1 D2 D_v230 D_v233 (by omega) (by omega) (by omega) (by omega)
    rw [hp3, hp4, hsc2] at S3_sc2
    rw [hp3] at S1_sc2
    rw [hp4] at S2_sc2
    have E_sc : OwnFl.DV sc (((4 * (4 * v166.toInt + 1 * v173.toInt) : Int) : Rat) / 16) := own_cast (m := 128) (n := 16) (by decide) (by decide) S3_sc (by omega)
    have E_sc2 : OwnFl.DV sc2 (((4 * (4 * v180.toInt + 1 * v187.toInt) : Int) : Rat) / 16) := own_cast (m := 128) (n := 16) (by decide) (by decide) S3_sc2 (by omega)
    have Q_sc2 : OwnFl.DV sc2 ((((4 * v180.toInt + 1 * v187.toInt) : Int) : Rat) / 4) := own_cast (m := 128) (n := 4) (by decide) (by decide) S3_sc2 (by omega)
    have bS2 : 0 ≤ (4 * v180.toInt + 1 * v187.toInt) ∧ (4 * v180.toInt + 1 * v187.toInt) ≤ 524280 := by omega
    obtain ⟨P, hP⟩ : ∃ z : Int, v18.toInt * (4 * v180.toInt + 1 * v187.toInt) = z := ⟨_, rfl⟩
    obtain ⟨R, hR⟩ : ∃ z : Int, v18.toInt * v180.toInt = z := ⟨_, rfl⟩
    have bP : 0 ≤ P ∧ P ≤ 3669960 := by
      have := mc (a := v18.toInt) (b := (4 * v180.toInt + 1 * v187.toInt)) (l1 := 0) (h1 := 7) (l2 := 0) (h2 := 524280) b18.1 b18.2 bS2.1 bS2.2
      rw [hP] at this
      omega
    have bR : 0 ≤ R ∧ R ≤ 458745 := by
      have := mc (a := v18.toInt) (b := v180.toInt) (l1 := 0) (h1 := 7) (l2 := 0) (h2 := 65535) b18.1 b18.2 b180.1 b180.2
      rw [hR] at this
      omega
    have D_sm := own_mul D217 Q_sc2 (by rw [hP]; omega) (by rw [hP]; omega)
    rw [hsm, hP] at D_sm
    have D_sk := own_mul D217 (own_one D_v230).2 (by rw [show v18.toInt * (4 * v180.toInt) = 4 * (v18.toInt * v180.toInt) from Int.mul_left_comm _ _ _, hR]; omega) (by rw [show v18.toInt * (4 * v180.toInt) = 4 * (v18.toInt * v180.toInt) from Int.mul_left_comm _ _ _, hR]; omega)
    rw [hsk, show v18.toInt * (4 * v180.toInt) = 4 * (v18.toInt * v180.toInt) from Int.mul_left_comm _ _ _, hR] at D_sk
    have D_lo := own_sub E_sc2 D_sm (by omega) (by omega)
    rw [hlo] at D_lo
    have D_hi := own_add E_sc2 D_sm (by omega) (by omega)
    rw [hhi] at D_hi
    have D_lo2 := own_sub (own_one D_v230).1 D_sk (by omega) (by omega)
    rw [hlo2, show 16 * v180.toInt - 4 * R = 4 * (4 * v180.toInt - R) by omega] at D_lo2
    have D_hi2 := own_add (own_one D_v230).1 D_sk (by omega) (by omega)
    rw [hhi2, show 16 * v180.toInt + 4 * R = 4 * (4 * v180.toInt + R) by omega] at D_hi2
    obtain ⟨rs, hrs⟩ : ∃ z : Int32, z = (if 4 * (4 * v166.toInt + 1 * v173.toInt) < 4 * (4 * v180.toInt + 1 * v187.toInt) - P ∨ 4 * (4 * v180.toInt + 1 * v187.toInt) + P < 4 * (4 * v166.toInt + 1 * v173.toInt) then (if (4 * v166.toInt + 1 * v173.toInt) < (4 * v180.toInt + 1 * v187.toInt) then (1 : Int32) else 0) else if 4 * v166.toInt < 4 * v180.toInt - R ∨ 4 * v180.toInt + R < 4 * v166.toInt then (if v166.toInt < v180.toInt then (1 : Int32) else 0) else if v173.toInt < v187.toInt then (1 : Int32) else 0) := ⟨_, rfl⟩
    refine g_callV hG X256 hx hZ (y := (⟨"com/example/ganttwright/ganttwright/Objective", "better", "(DDDDD)Z"⟩ : MethodName)) 0 hown (wd hw 33 rfl) (wd hw 34 rfl) (wd hw 36 rfl) (wd hw 35 rfl) (wd hw 4 rfl) (wd hw 37 rfl) (by decide) (rmBet l Z a0 hw [] b t1 c1 v224 v227 v230 v233 v217 p1 p2 sc p3 p4 sc2 sm sk lo hi lo2 hi2 (4 * v166.toInt + 1 * v173.toInt) (4 * v180.toInt + 1 * v187.toInt) P v166.toInt v180.toInt R v173.toInt v187.toInt rs T256.heap n0 Zs hp1 hp2 hsc hp3 hp4 hsc2 hsm hsk hlo hhi hlo2 hhi2 S1_sc.noNaN S2_sc.noNaN S1_sc2.noNaN S2_sc2.noNaN D_sm.noNaN D_sk.noNaN E_sc E_sc2 D_lo D_hi (own_one D_v224).1 (own_one D_v230).1 D_lo2 D_hi2 (own_one D_v227).1 (own_one D_v233).1 hrs Ex_b F_timeWeight_b F_costWeight_b) (by decide) (by decide) (by rw [hml]; rfl) pd_5 rfl (argsL := [(.double v224), (.double v227), (.double v230), (.double v233), (.double v217)]) (rest := []) rfl rfl (Nat.le_of_eq rfl) (hb hby at_236) rfl Ex_b (by decide) (by decide) (pc' := 239) rfl ?_
    intro T257 rv257 L257 X257 hQ257
    obtain ⟨rfl, Nq257, eh257⟩ := hQ257
    have NF257 := Fr.app NF256 Nq257
    show G (T257.setTop (mkF m 239 _ [(.int rs)]))
    refine g_istore hG X257 hx (hb hby at_239) (pc' := 241) rfl (Ls' := #[.val (.int aa), .val (.int bb), .val (.int cc), .val (.int dd), .val (.int sel), .val (.int 6), .val (.int v18), .val (.ref ar), .val (.ref b231), .val (.ref b239), .val (.ref dr), .val (.long v166), .second, .val (.long v173), .second, .val (.long v180), .second, .val (.long v187), .second, .val (.ref b), .val (.double v217), .second, .val (.int rs), .unset, .unset, .unset, .unset, .unset]) rfl ?_
    refine g_aload hG X257 hx (hb hby at_241) (pc' := 243) rfl rfl rfl ?_
    refine g_iload hG X257 hx (hb hby at_243) (pc' := 245) rfl rfl ?_
    refine g_iaload hG X257 hx hZ eh257 V_b239 (j := (6 : Int32)) (v := (.int 4)) (by decide) rfl (hb hby at_245) (pc' := 246) rfl ?_
    refine g_i2l hG X257 hx (hb hby at_246) (pc' := 247) rfl (v := (4 : Int64)) (by decide) ?_
    refine g_lload hG X257 hx (hb hby at_247) (pc' := 249) rfl rfl ?_
    obtain ⟨v249, q249⟩ : ∃ zz : Int64, (4 : Int64) * v166 = zz := ⟨_, rfl⟩
    refine g_lmul hG X257 hx (hb hby at_249) (pc' := 250) rfl q249 ?_
    refine g_aload hG X257 hx (hb hby at_250) (pc' := 252) rfl rfl rfl ?_
    refine g_iload hG X257 hx (hb hby at_252) (pc' := 254) rfl rfl ?_
    refine g_iaload hG X257 hx hZ eh257 V_dr (j := (6 : Int32)) (v := (.int 1)) (by decide) rfl (hb hby at_254) (pc' := 255) rfl ?_
    refine g_i2l hG X257 hx (hb hby at_255) (pc' := 256) rfl (v := (1 : Int64)) (by decide) ?_
    refine g_lload hG X257 hx (hb hby at_256) (pc' := 258) rfl rfl ?_
    obtain ⟨v258, q258⟩ : ∃ zz : Int64, (1 : Int64) * v173 = zz := ⟨_, rfl⟩
    refine g_lmul hG X257 hx (hb hby at_258) (pc' := 259) rfl q258 ?_
    obtain ⟨v259, q259⟩ : ∃ zz : Int64, v249 + v258 = zz := ⟨_, rfl⟩
    refine g_ladd hG X257 hx (hb hby at_259) (pc' := 260) rfl q259 ?_
    have e259 : v259.toInt = 4 * v166.toInt + 1 * v173.toInt := by
      have a1 := c_lmul (4 : Int64) v166
      have a2 := c_lmul (1 : Int64) v173
      have c1 : (4 : Int64).toInt = 4 := by decide
      have c2 : (1 : Int64).toInt = 1 := by decide
      rw [q249, c1] at a1
      rw [q258, c2] at a2
      have a3 := c_ladd v249 v258
      rw [q259] at a3
      have a4 := rng64 v249
      have a5 := rng64 v258
      have a6 := rng64 v259
      omega
    refine g_lstore hG X257 hx (hb hby at_260) (pc' := 262) rfl (Ls' := #[.val (.int aa), .val (.int bb), .val (.int cc), .val (.int dd), .val (.int sel), .val (.int 6), .val (.int v18), .val (.ref ar), .val (.ref b231), .val (.ref b239), .val (.ref dr), .val (.long v166), .second, .val (.long v173), .second, .val (.long v180), .second, .val (.long v187), .second, .val (.ref b), .val (.double v217), .second, .val (.int rs), .val (.long v259), .second, .unset, .unset, .unset]) rfl ?_
    refine g_aload hG X257 hx (hb hby at_262) (pc' := 264) rfl rfl rfl ?_
    refine g_iload hG X257 hx (hb hby at_264) (pc' := 266) rfl rfl ?_
    refine g_iaload hG X257 hx hZ eh257 V_b239 (j := (6 : Int32)) (v := (.int 4)) (by decide) rfl (hb hby at_266) (pc' := 267) rfl ?_
    refine g_i2l hG X257 hx (hb hby at_267) (pc' := 268) rfl (v := (4 : Int64)) (by decide) ?_
    refine g_lload hG X257 hx (hb hby at_268) (pc' := 270) rfl rfl ?_
    obtain ⟨v270, q270⟩ : ∃ zz : Int64, (4 : Int64) * v180 = zz := ⟨_, rfl⟩
    refine g_lmul hG X257 hx (hb hby at_270) (pc' := 271) rfl q270 ?_
    refine g_aload hG X257 hx (hb hby at_271) (pc' := 273) rfl rfl rfl ?_
    refine g_iload hG X257 hx (hb hby at_273) (pc' := 275) rfl rfl ?_
    refine g_iaload hG X257 hx hZ eh257 V_dr (j := (6 : Int32)) (v := (.int 1)) (by decide) rfl (hb hby at_275) (pc' := 276) rfl ?_
    refine g_i2l hG X257 hx (hb hby at_276) (pc' := 277) rfl (v := (1 : Int64)) (by decide) ?_
    refine g_lload hG X257 hx (hb hby at_277) (pc' := 279) rfl rfl ?_
    obtain ⟨v279, q279⟩ : ∃ zz : Int64, (1 : Int64) * v187 = zz := ⟨_, rfl⟩
    refine g_lmul hG X257 hx (hb hby at_279) (pc' := 280) rfl q279 ?_
    obtain ⟨v280, q280⟩ : ∃ zz : Int64, v270 + v279 = zz := ⟨_, rfl⟩
    refine g_ladd hG X257 hx (hb hby at_280) (pc' := 281) rfl q280 ?_
    have e280 : v280.toInt = 4 * v180.toInt + 1 * v187.toInt := by
      have a1 := c_lmul (4 : Int64) v180
      have a2 := c_lmul (1 : Int64) v187
      have c1 : (4 : Int64).toInt = 4 := by decide
      have c2 : (1 : Int64).toInt = 1 := by decide
      rw [q270, c1] at a1
      rw [q279, c2] at a2
      have a3 := c_ladd v270 v279
      rw [q280] at a3
      have a4 := rng64 v270
      have a5 := rng64 v279
      have a6 := rng64 v280
      omega
    refine g_lstore hG X257 hx (hb hby at_281) (pc' := 283) rfl (Ls' := #[.val (.int aa), .val (.int bb), .val (.int cc), .val (.int dd), .val (.int sel), .val (.int 6), .val (.int v18), .val (.ref ar), .val (.ref b231), .val (.ref b239), .val (.ref dr), .val (.long v166), .second, .val (.long v173), .second, .val (.long v180), .second, .val (.long v187), .second, .val (.ref b), .val (.double v217), .second, .val (.int rs), .val (.long v259), .second, .val (.long v280), .second, .unset]) rfl ?_
    refine g_ldcLong hG X257 hx hZ hown (wd hw 43 rfl) (hb hby at_283) (pc' := 286) rfl ?_
    refine g_lload hG X257 hx (hb hby at_286) (pc' := 288) rfl rfl ?_
    refine g_lload hG X257 hx (hb hby at_288) (pc' := 290) rfl rfl ?_
    obtain ⟨v290, q290⟩ : ∃ zz : Int64, v259 - v280 = zz := ⟨_, rfl⟩
    refine g_lsub hG X257 hx (hb hby at_290) (pc' := 291) rfl q290 ?_
    obtain ⟨ab291, hab291⟩ : ∃ z : Int64, (if v290 < 0 then -v290 else v290) = z := ⟨_, rfl⟩
    have e_ab291 : (ab291.toInt = v259.toInt - v280.toInt ∧ v280.toInt ≤ v259.toInt) ∨ (ab291.toInt = v280.toInt - v259.toInt ∧ v259.toInt ≤ v280.toInt) := by
      have a := c_lsub v259 v280
      rw [q290] at a
      have b := rng64 v290
      have c := c_lneg v290
      have d := rng64 (-v290)
      have z : (0 : Int64).toInt = 0 := by decide
      by_cases g : v290 < 0
      · rw [← hab291, if_pos g]
        rw [Int64.lt_iff_toInt_lt, z] at g
        omega
      · rw [← hab291, if_neg g]
        rw [Int64.lt_iff_toInt_lt, z] at g
        omega
    refine g_callS hG X257 hx hZ (y := (⟨"java/lang/Math", "abs", "(J)J"⟩ : MethodName)) 2 hown (wd hw 44 rfl) (wd hw 45 rfl) (wd hw 22 rfl) (wd hw 46 rfl) (by decide) (rmAbs l Z a0 hw [] v290 T256.heap n0 Zs) (by decide) (by decide) (by rw [hml]; rfl) pd_6 rfl (argsL := [(.long v290)]) (rest := [(.long 4)]) rfl rfl (Nat.le_of_eq rfl) (hb hby at_291) eh257 (by decide) (by decide) (pc' := 294) rfl ?_
    intro T258 rv258 L258 X258 hQ258
    obtain ⟨rfl, Nq258, eh258⟩ := hQ258
    have NF258 := Fr.app NF257 Nq258
    rw [hab291]
    show G (T258.setTop (mkF m 294 _ [(.long ab291), (.long 4)]))
    obtain ⟨v294, q294⟩ : ∃ zz : Int64, (4 : Int64) * ab291 = zz := ⟨_, rfl⟩
    refine g_lmul hG X258 hx (hb hby at_294) (pc' := 295) rfl q294 ?_
    refine g_iload hG X258 hx (hb hby at_295) (pc' := 297) rfl rfl ?_
    obtain ⟨v297, q297⟩ : ∃ zz : Int64, v18.toInt64 = zz := ⟨_, rfl⟩
    refine g_i2l hG X258 hx (hb hby at_297) (pc' := 298) rfl q297 ?_
    refine g_lload hG X258 hx (hb hby at_298) (pc' := 300) rfl rfl ?_
    obtain ⟨v300, q300⟩ : ∃ zz : Int64, v297 * v280 = zz := ⟨_, rfl⟩
    refine g_lmul hG X258 hx (hb hby at_300) (pc' := 301) rfl q300 ?_
    have k294 : v294.toInt = 4 * ab291.toInt := by
      have a := c_lmul (4 : Int64) ab291
      have c : (4 : Int64).toInt = 4 := by decide
      rw [q294, c] at a
      have b := rng64 v294
      omega
    have k300 : v300.toInt = P := by
      have a := c_lmul v297 v280
      have c : v297.toInt = v18.toInt := by rw [← q297]; exact c_i2l v18
      rw [q300, c, e280, hP] at a
      have b := rng64 v300
      omega
    obtain ⟨v301, q301⟩ : ∃ zz : Int32, lcmpW v294 v300 = zz := ⟨_, rfl⟩
    refine g_lcmp hG X258 hx (hb hby at_301) (pc' := 302) rfl q301 ?_
    by_cases hc302 : (0 : Int32) < v301
    · refine g_ifNo hG X258 hx (hb hby at_302) (pc' := 305) ((if0 _ _).trans (tlt hc302).2.2.2) rfl ?_
      refine g_lload hG X258 hx (hb hby at_305) (pc' := 307) rfl rfl ?_
      refine g_lload hG X258 hx (hb hby at_307) (pc' := 309) rfl rfl ?_
      obtain ⟨v309, q309⟩ : ∃ zz : Int32, lcmpW v259 v280 = zz := ⟨_, rfl⟩
      refine g_lcmp hG X258 hx (hb hby at_309) (pc' := 310) rfl q309 ?_
      by_cases hc310 : v309 < (0 : Int32)
      · refine g_ifNo hG X258 hx (hb hby at_310) (pc' := 313) ((if0 _ _).trans (tlt hc310).2.1) rfl ?_
        refine g_iconst hG X258 hx (hb hby at_313) (pc' := 314) rfl (v := (1 : Int32)) rfl ?_
        refine g_goto hG X258 hx (hb hby at_314) (pc' := 318) (by decide) (by decide) ?_
        refine g_istore hG X258 hx (hb hby at_318) (pc' := 320) rfl (Ls' := #[.val (.int aa), .val (.int bb), .val (.int cc), .val (.int dd), .val (.int sel), .val (.int 6), .val (.int v18), .val (.ref ar), .val (.ref b231), .val (.ref b239), .val (.ref dr), .val (.long v166), .second, .val (.long v173), .second, .val (.long v180), .second, .val (.long v187), .second, .val (.ref b), .val (.double v217), .second, .val (.int rs), .val (.long v259), .second, .val (.long v280), .second, .val (.int 1)]) rfl ?_
        refine g_goto hG X258 hx (hb hby at_320) (pc' := 378) (by decide) (by decide) ?_
        refine g_iload hG X258 hx (hb hby at_378) (pc' := 380) rfl rfl ?_
        refine g_iload hG X258 hx (hb hby at_380) (pc' := 382) rfl rfl ?_
        have g302 : v300.toInt < v294.toInt := Int64.lt_iff_toInt_lt.mp ((lw_gt _ _).mp (by rw [q301]; exact hc302))
        have g310 : v259.toInt < v280.toInt := Int64.lt_iff_toInt_lt.mp ((lw_lt _ _).mp (by rw [q309]; exact hc310))
        have ers : rs = (1 : Int32) := by rw [hrs, if_pos (by omega), if_pos (by omega)]
        refine g_icmpNo hG X258 hx (hb hby at_382) (pc' := 385) ((teq ers).2) rfl ?_
        refine g_iconst hG X258 hx (hb hby at_385) (pc' := 386) rfl (v := (1 : Int32)) rfl ?_
        refine g_goto hG X258 hx (hb hby at_386) (pc' := 390) (by decide) (by decide) ?_
        exact e_retZ hGe X258 hx hrt hlk (hb hby at_390) (Or.inr rfl) eh258 (by decide) (by decide) (⟨rfl, NF258⟩)
      · refine g_ifYes hG X258 hx (hb hby at_310) (pc' := 317) ((if0 _ _).trans (flt hc310).2.1) (by decide) (by decide) ?_
        refine g_iconst hG X258 hx (hb hby at_317) (pc' := 318) rfl (v := (0 : Int32)) rfl ?_
        refine g_istore hG X258 hx (hb hby at_318) (pc' := 320) rfl (Ls' := #[.val (.int aa), .val (.int bb), .val (.int cc), .val (.int dd), .val (.int sel), .val (.int 6), .val (.int v18), .val (.ref ar), .val (.ref b231), .val (.ref b239), .val (.ref dr), .val (.long v166), .second, .val (.long v173), .second, .val (.long v180), .second, .val (.long v187), .second, .val (.ref b), .val (.double v217), .second, .val (.int rs), .val (.long v259), .second, .val (.long v280), .second, .val (.int 0)]) rfl ?_
        refine g_goto hG X258 hx (hb hby at_320) (pc' := 378) (by decide) (by decide) ?_
        refine g_iload hG X258 hx (hb hby at_378) (pc' := 380) rfl rfl ?_
        refine g_iload hG X258 hx (hb hby at_380) (pc' := 382) rfl rfl ?_
        have g302 : v300.toInt < v294.toInt := Int64.lt_iff_toInt_lt.mp ((lw_gt _ _).mp (by rw [q301]; exact hc302))
        have g310 : ¬ v259.toInt < v280.toInt := fun g => hc310 (by rw [← q309]; exact (lw_lt _ _).mpr (Int64.lt_iff_toInt_lt.mpr g))
        have ers : rs = (0 : Int32) := by rw [hrs, if_pos (by omega), if_neg (by omega)]
        refine g_icmpNo hG X258 hx (hb hby at_382) (pc' := 385) ((teq ers).2) rfl ?_
        refine g_iconst hG X258 hx (hb hby at_385) (pc' := 386) rfl (v := (1 : Int32)) rfl ?_
        refine g_goto hG X258 hx (hb hby at_386) (pc' := 390) (by decide) (by decide) ?_
        exact e_retZ hGe X258 hx hrt hlk (hb hby at_390) (Or.inr rfl) eh258 (by decide) (by decide) (⟨rfl, NF258⟩)
    · refine g_ifYes hG X258 hx (hb hby at_302) (pc' := 323) ((if0 _ _).trans (flt hc302).2.2.2) (by decide) (by decide) ?_
      refine g_ldcLong hG X258 hx hZ hown (wd hw 43 rfl) (hb hby at_323) (pc' := 326) rfl ?_
      refine g_lload hG X258 hx (hb hby at_326) (pc' := 328) rfl rfl ?_
      refine g_lload hG X258 hx (hb hby at_328) (pc' := 330) rfl rfl ?_
      obtain ⟨v330, q330⟩ : ∃ zz : Int64, v166 - v180 = zz := ⟨_, rfl⟩
      refine g_lsub hG X258 hx (hb hby at_330) (pc' := 331) rfl q330 ?_
      obtain ⟨ab331, hab331⟩ : ∃ z : Int64, (if v330 < 0 then -v330 else v330) = z := ⟨_, rfl⟩
      have e_ab331 : (ab331.toInt = v166.toInt - v180.toInt ∧ v180.toInt ≤ v166.toInt) ∨ (ab331.toInt = v180.toInt - v166.toInt ∧ v166.toInt ≤ v180.toInt) := by
        have a := c_lsub v166 v180
        rw [q330] at a
        have b := rng64 v330
        have c := c_lneg v330
        have d := rng64 (-v330)
        have z : (0 : Int64).toInt = 0 := by decide
        by_cases g : v330 < 0
        · rw [← hab331, if_pos g]
          rw [Int64.lt_iff_toInt_lt, z] at g
          omega
        · rw [← hab331, if_neg g]
          rw [Int64.lt_iff_toInt_lt, z] at g
          omega
      refine g_callS hG X258 hx hZ (y := (⟨"java/lang/Math", "abs", "(J)J"⟩ : MethodName)) 2 hown (wd hw 44 rfl) (wd hw 45 rfl) (wd hw 22 rfl) (wd hw 46 rfl) (by decide) (rmAbs l Z a0 hw [] v330 T256.heap n0 Zs) (by decide) (by decide) (by rw [hml]; rfl) pd_6 rfl (argsL := [(.long v330)]) (rest := [(.long 4)]) rfl rfl (Nat.le_of_eq rfl) (hb hby at_331) eh258 (by decide) (by decide) (pc' := 334) rfl ?_
      intro T259 rv259 L259 X259 hQ259
      obtain ⟨rfl, Nq259, eh259⟩ := hQ259
      have NF259 := Fr.app NF258 Nq259
      rw [hab331]
      show G (T259.setTop (mkF m 334 _ [(.long ab331), (.long 4)]))
      obtain ⟨v334, q334⟩ : ∃ zz : Int64, (4 : Int64) * ab331 = zz := ⟨_, rfl⟩
      refine g_lmul hG X259 hx (hb hby at_334) (pc' := 335) rfl q334 ?_
      refine g_iload hG X259 hx (hb hby at_335) (pc' := 337) rfl rfl ?_
      obtain ⟨v337, q337⟩ : ∃ zz : Int64, v18.toInt64 = zz := ⟨_, rfl⟩
      refine g_i2l hG X259 hx (hb hby at_337) (pc' := 338) rfl q337 ?_
      refine g_lload hG X259 hx (hb hby at_338) (pc' := 340) rfl rfl ?_
      obtain ⟨v340, q340⟩ : ∃ zz : Int64, v337 * v180 = zz := ⟨_, rfl⟩
      refine g_lmul hG X259 hx (hb hby at_340) (pc' := 341) rfl q340 ?_
      have k334 : v334.toInt = 4 * ab331.toInt := by
        have a := c_lmul (4 : Int64) ab331
        have c : (4 : Int64).toInt = 4 := by decide
        rw [q334, c] at a
        have b := rng64 v334
        omega
      have k340 : v340.toInt = R := by
        have a := c_lmul v337 v180
        have c : v337.toInt = v18.toInt := by rw [← q337]; exact c_i2l v18
        rw [q340, c, hR] at a
        have b := rng64 v340
        omega
      obtain ⟨v341, q341⟩ : ∃ zz : Int32, lcmpW v334 v340 = zz := ⟨_, rfl⟩
      refine g_lcmp hG X259 hx (hb hby at_341) (pc' := 342) rfl q341 ?_
      by_cases hc342 : (0 : Int32) < v341
      · refine g_ifNo hG X259 hx (hb hby at_342) (pc' := 345) ((if0 _ _).trans (tlt hc342).2.2.2) rfl ?_
        refine g_lload hG X259 hx (hb hby at_345) (pc' := 347) rfl rfl ?_
        refine g_lload hG X259 hx (hb hby at_347) (pc' := 349) rfl rfl ?_
        obtain ⟨v349, q349⟩ : ∃ zz : Int32, lcmpW v166 v180 = zz := ⟨_, rfl⟩
        refine g_lcmp hG X259 hx (hb hby at_349) (pc' := 350) rfl q349 ?_
        by_cases hc350 : v349 < (0 : Int32)
        · refine g_ifNo hG X259 hx (hb hby at_350) (pc' := 353) ((if0 _ _).trans (tlt hc350).2.1) rfl ?_
          refine g_iconst hG X259 hx (hb hby at_353) (pc' := 354) rfl (v := (1 : Int32)) rfl ?_
          refine g_goto hG X259 hx (hb hby at_354) (pc' := 358) (by decide) (by decide) ?_
          refine g_istore hG X259 hx (hb hby at_358) (pc' := 360) rfl (Ls' := #[.val (.int aa), .val (.int bb), .val (.int cc), .val (.int dd), .val (.int sel), .val (.int 6), .val (.int v18), .val (.ref ar), .val (.ref b231), .val (.ref b239), .val (.ref dr), .val (.long v166), .second, .val (.long v173), .second, .val (.long v180), .second, .val (.long v187), .second, .val (.ref b), .val (.double v217), .second, .val (.int rs), .val (.long v259), .second, .val (.long v280), .second, .val (.int 1)]) rfl ?_
          refine g_goto hG X259 hx (hb hby at_360) (pc' := 378) (by decide) (by decide) ?_
          refine g_iload hG X259 hx (hb hby at_378) (pc' := 380) rfl rfl ?_
          refine g_iload hG X259 hx (hb hby at_380) (pc' := 382) rfl rfl ?_
          have g302 : ¬ v300.toInt < v294.toInt := fun g => hc302 (by rw [← q301]; exact (lw_gt _ _).mpr (Int64.lt_iff_toInt_lt.mpr g))
          have g342 : v340.toInt < v334.toInt := Int64.lt_iff_toInt_lt.mp ((lw_gt _ _).mp (by rw [q341]; exact hc342))
          have g350 : v166.toInt < v180.toInt := Int64.lt_iff_toInt_lt.mp ((lw_lt _ _).mp (by rw [q349]; exact hc350))
          have ers : rs = (1 : Int32) := by rw [hrs, if_neg (by omega), if_pos (by omega), if_pos (by omega)]
          refine g_icmpNo hG X259 hx (hb hby at_382) (pc' := 385) ((teq ers).2) rfl ?_
          refine g_iconst hG X259 hx (hb hby at_385) (pc' := 386) rfl (v := (1 : Int32)) rfl ?_
          refine g_goto hG X259 hx (hb hby at_386) (pc' := 390) (by decide) (by decide) ?_
          exact e_retZ hGe X259 hx hrt hlk (hb hby at_390) (Or.inr rfl) eh259 (by decide) (by decide) (⟨rfl, NF259⟩)
        · refine g_ifYes hG X259 hx (hb hby at_350) (pc' := 357) ((if0 _ _).trans (flt hc350).2.1) (by decide) (by decide) ?_
          refine g_iconst hG X259 hx (hb hby at_357) (pc' := 358) rfl (v := (0 : Int32)) rfl ?_
          refine g_istore hG X259 hx (hb hby at_358) (pc' := 360) rfl (Ls' := #[.val (.int aa), .val (.int bb), .val (.int cc), .val (.int dd), .val (.int sel), .val (.int 6), .val (.int v18), .val (.ref ar), .val (.ref b231), .val (.ref b239), .val (.ref dr), .val (.long v166), .second, .val (.long v173), .second, .val (.long v180), .second, .val (.long v187), .second, .val (.ref b), .val (.double v217), .second, .val (.int rs), .val (.long v259), .second, .val (.long v280), .second, .val (.int 0)]) rfl ?_
          refine g_goto hG X259 hx (hb hby at_360) (pc' := 378) (by decide) (by decide) ?_
          refine g_iload hG X259 hx (hb hby at_378) (pc' := 380) rfl rfl ?_
          refine g_iload hG X259 hx (hb hby at_380) (pc' := 382) rfl rfl ?_
          have g302 : ¬ v300.toInt < v294.toInt := fun g => hc302 (by rw [← q301]; exact (lw_gt _ _).mpr (Int64.lt_iff_toInt_lt.mpr g))
          have g342 : v340.toInt < v334.toInt := Int64.lt_iff_toInt_lt.mp ((lw_gt _ _).mp (by rw [q341]; exact hc342))
          have g350 : ¬ v166.toInt < v180.toInt := fun g => hc350 (by rw [← q349]; exact (lw_lt _ _).mpr (Int64.lt_iff_toInt_lt.mpr g))
          have ers : rs = (0 : Int32) := by rw [hrs, if_neg (by omega), if_pos (by omega), if_neg (by omega)]
          refine g_icmpNo hG X259 hx (hb hby at_382) (pc' := 385) ((teq ers).2) rfl ?_
          refine g_iconst hG X259 hx (hb hby at_385) (pc' := 386) rfl (v := (1 : Int32)) rfl ?_
          refine g_goto hG X259 hx (hb hby at_386) (pc' := 390) (by decide) (by decide) ?_
          exact e_retZ hGe X259 hx hrt hlk (hb hby at_390) (Or.inr rfl) eh259 (by decide) (by decide) (⟨rfl, NF259⟩)
      · refine g_ifYes hG X259 hx (hb hby at_342) (pc' := 363) ((if0 _ _).trans (flt hc342).2.2.2) (by decide) (by decide) ?_
        refine g_lload hG X259 hx (hb hby at_363) (pc' := 365) rfl rfl ?_
        refine g_lload hG X259 hx (hb hby at_365) (pc' := 367) rfl rfl ?_
        obtain ⟨v367, q367⟩ : ∃ zz : Int32, lcmpW v173 v187 = zz := ⟨_, rfl⟩
        refine g_lcmp hG X259 hx (hb hby at_367) (pc' := 368) rfl q367 ?_
        by_cases hc368 : v367 < (0 : Int32)
        · refine g_ifNo hG X259 hx (hb hby at_368) (pc' := 371) ((if0 _ _).trans (tlt hc368).2.1) rfl ?_
          refine g_iconst hG X259 hx (hb hby at_371) (pc' := 372) rfl (v := (1 : Int32)) rfl ?_
          refine g_goto hG X259 hx (hb hby at_372) (pc' := 376) (by decide) (by decide) ?_
          refine g_istore hG X259 hx (hb hby at_376) (pc' := 378) rfl (Ls' := #[.val (.int aa), .val (.int bb), .val (.int cc), .val (.int dd), .val (.int sel), .val (.int 6), .val (.int v18), .val (.ref ar), .val (.ref b231), .val (.ref b239), .val (.ref dr), .val (.long v166), .second, .val (.long v173), .second, .val (.long v180), .second, .val (.long v187), .second, .val (.ref b), .val (.double v217), .second, .val (.int rs), .val (.long v259), .second, .val (.long v280), .second, .val (.int 1)]) rfl ?_
          refine g_iload hG X259 hx (hb hby at_378) (pc' := 380) rfl rfl ?_
          refine g_iload hG X259 hx (hb hby at_380) (pc' := 382) rfl rfl ?_
          have g302 : ¬ v300.toInt < v294.toInt := fun g => hc302 (by rw [← q301]; exact (lw_gt _ _).mpr (Int64.lt_iff_toInt_lt.mpr g))
          have g342 : ¬ v340.toInt < v334.toInt := fun g => hc342 (by rw [← q341]; exact (lw_gt _ _).mpr (Int64.lt_iff_toInt_lt.mpr g))
          have g368 : v173.toInt < v187.toInt := Int64.lt_iff_toInt_lt.mp ((lw_lt _ _).mp (by rw [q367]; exact hc368))
          have ers : rs = (1 : Int32) := by rw [hrs, if_neg (by omega), if_neg (by omega), if_pos (by omega)]
          refine g_icmpNo hG X259 hx (hb hby at_382) (pc' := 385) ((teq ers).2) rfl ?_
          refine g_iconst hG X259 hx (hb hby at_385) (pc' := 386) rfl (v := (1 : Int32)) rfl ?_
          refine g_goto hG X259 hx (hb hby at_386) (pc' := 390) (by decide) (by decide) ?_
          exact e_retZ hGe X259 hx hrt hlk (hb hby at_390) (Or.inr rfl) eh259 (by decide) (by decide) (⟨rfl, NF259⟩)
        · refine g_ifYes hG X259 hx (hb hby at_368) (pc' := 375) ((if0 _ _).trans (flt hc368).2.1) (by decide) (by decide) ?_
          refine g_iconst hG X259 hx (hb hby at_375) (pc' := 376) rfl (v := (0 : Int32)) rfl ?_
          refine g_istore hG X259 hx (hb hby at_376) (pc' := 378) rfl (Ls' := #[.val (.int aa), .val (.int bb), .val (.int cc), .val (.int dd), .val (.int sel), .val (.int 6), .val (.int v18), .val (.ref ar), .val (.ref b231), .val (.ref b239), .val (.ref dr), .val (.long v166), .second, .val (.long v173), .second, .val (.long v180), .second, .val (.long v187), .second, .val (.ref b), .val (.double v217), .second, .val (.int rs), .val (.long v259), .second, .val (.long v280), .second, .val (.int 0)]) rfl ?_
          refine g_iload hG X259 hx (hb hby at_378) (pc' := 380) rfl rfl ?_
          refine g_iload hG X259 hx (hb hby at_380) (pc' := 382) rfl rfl ?_
          have g302 : ¬ v300.toInt < v294.toInt := fun g => hc302 (by rw [← q301]; exact (lw_gt _ _).mpr (Int64.lt_iff_toInt_lt.mpr g))
          have g342 : ¬ v340.toInt < v334.toInt := fun g => hc342 (by rw [← q341]; exact (lw_gt _ _).mpr (Int64.lt_iff_toInt_lt.mpr g))
          have g368 : ¬ v173.toInt < v187.toInt := fun g => hc368 (by rw [← q367]; exact (lw_lt _ _).mpr (Int64.lt_iff_toInt_lt.mpr g))
          have ers : rs = (0 : Int32) := by rw [hrs, if_neg (by omega), if_neg (by omega), if_neg (by omega)]
          refine g_icmpNo hG X259 hx (hb hby at_382) (pc' := 385) ((teq ers).2) rfl ?_
          refine g_iconst hG X259 hx (hb hby at_385) (pc' := 386) rfl (v := (1 : Int32)) rfl ?_
          refine g_goto hG X259 hx (hb hby at_386) (pc' := 390) (by decide) (by decide) ?_
          exact e_retZ hGe X259 hx hrt hlk (hb hby at_390) (Or.inr rfl) eh259 (by decide) (by decide) (⟨rfl, NF259⟩)
set_option maxRecDepth 65536 in
set_option maxHeartbeats 40000000 in
theorem comes_1 {Post : Tables → Env → Array Value → State → Outcome → State → Prop} (hpost : ∀ tb e args s v u, (limb_1_1.after args s (.returned v) u = true ∧ limb_1_2.after args s (.returned v) u = true ∧ True) → FrameEnd s (.returned v) u (Jvm.fieldLocs frame_1_writes args s ++ Jvm.arrayLocs frame_1_arrays args s ++ Jvm.staticLocs frame_1_statics s) 24 128 → Post tb e args s (.returned v) u) :
    ArmFor flags0 classFile x code maxLocals ret World_1 tables_1 room_1 Calls_1 rest_1 Pre_1 Post := by
  intro l hfl _ _ p e ha hc hk s m args below hf hA hF happ hP
  obtain ⟨hcalls, hrest, hpre⟩ := hP
  obtain ⟨-, -, -, hnamed, -, -, -, hat⟩ := (Spec.applies_iff hf).mp happ
  obtain ⟨hg, hn⟩ := and_e (Cond.before_iff.mp (show (Jvm.Cond.and given_1 narrow_1).before args s = true from hpre))
  obtain ⟨hcount, ha_0⟩ := and_e hg
  obtain ⟨hb_0, ha_1⟩ := and_e ha_0
  obtain ⟨hb_1, ha_2⟩ := and_e ha_1
  obtain ⟨hb_2, ha_3⟩ := and_e ha_2
  obtain ⟨hb_3, ha_4⟩ := and_e ha_3
  have hb_4 := ha_4
  obtain ⟨w0, w1, w2, w3, w4, rfl⟩ : ∃ w0 w1 w2 w3 w4 : Value, args = #[w0, w1, w2, w3, w4] := by
    have hs : args.size = 5 := by simpa [Cond.value, given_1] using hcount
    obtain ⟨L⟩ := args
    match L, hs with
    | [w0, w1, w2, w3, w4], _ => exact ⟨w0, w1, w2, w3, w4, rfl⟩
  have hw := fun d (hd : d ∈ tables_1) => atoms_spec (ws := Jvm.Cond.code x code maxLocals ret :: tables_1) hat d (List.mem_cons_of_mem _ hd)
  obtain ⟨i0, ei0⟩ := is_v hb_0
  obtain rfl : w0 = (.int i0) := Option.some.inj ei0
  obtain ⟨i1, ei1⟩ := is_v hb_1
  obtain rfl : w1 = (.int i1) := Option.some.inj ei1
  obtain ⟨i2, ei2⟩ := is_v hb_2
  obtain rfl : w2 = (.int i2) := Option.some.inj ei2
  obtain ⟨i3, ei3⟩ := is_v hb_3
  obtain rfl : w3 = (.int i3) := Option.some.inj ei3
  obtain ⟨i4, ei4⟩ := is_v hb_4
  obtain rfl : w4 = (.int i4) := Option.some.inj ei4
  obtain ⟨n, o, h1, h2, h3, _, L, rfl, ⟨rfl, N⟩, hq⟩ := rm0 l s _ hw tables_1 i0 i1 i2 i3 i4 s.heap s.heap.size (Nat.le_refl _)  p e ha hc hk s m _ below hf ((Spec.applies_iff_loose hf).mp happ).1 ⟨rfl, State.Warmed39.refl s, rfl⟩ trivial
  refine ⟨n, _, h1, h2, h3, hpost _ _ _ _ _ _ ⟨Cond.after_iff.mpr rfl, Cond.after_iff.mpr (eq_i res_at (Term.int_eval (1)) rfl), trivial⟩ ⟨hq.1, hq.2.1, (hq.2.2.sift fun y hy => Or.inr (N y hy)).mono (by decide) (by decide)⟩⟩
theorem main_1_1 : Claimed_1_1 := comes_1 fun _ _ _ _ _ _ h hF => ⟨h.1, hF⟩
theorem main_1_2 : Claimed_1_2 := comes_1 fun _ _ _ _ _ _ h hF => ⟨h.2.1, hF⟩
end Jvm.Pilot.@@N@@
namespace Jvm.Pilot.@@N@@
open Jvm Jvm.ClassFile Sem Op Lib Jvm.Free Jvm.Stand Jvm.Pilot.@@N@@.Jvm.D
/-! MADE BY PROGRAM (witnessworld.py) out of the Statement's table words and the real class files: 16 classes; the members and pool entries that the words name. The judged class is class 1, her method 1. -/
namespace start1
open Jvm.ClassFile
def u (s : String) : CpInfo := .utf8 (stringToUtf16 s)
/-- a pool by its gaps: so many unusable entries, then the entry; so many at the end -/
def gap : Nat → List CpInfo → List CpInfo
  | 0, r => r
  | n + 1, r => .unusable :: gap n r
def poolList (es : List (Nat × CpInfo)) (last : Nat) : List CpInfo := es.foldr (fun e r => gap e.1 (e.2 :: r)) (gap last [])
def pool (es : List (Nat × CpInfo)) (last : Nat) : Array CpInfo := ⟨poolList es last⟩
def fileOf (pool : Array CpInfo) (this : Nat) (attrs : Array Attribute := #[]) (ms : Array MethodInfo := #[]) (fl : Nat := 33) (sup : Nat := 0) (ifs : Array Nat := #[]) (fds : Array FieldInfo := #[]) : ClassFile where
  minorVersion := 0
  majorVersion := 65
  constantPool := pool
  accessFlags := fl
  thisClass := this
  superClass := sup
  interfaces := ifs
  fields := fds
  methods := ms
  attributes := attrs
def plain (name : String) (sup : Option ClassId) : Class where
  name := name
  kind := .ordinary
  loader := none
  accessFlags := 33
  super := sup
  interfaces := #[]
  cf := none
  fields := #[]
  methods := #[]
  instanceTypes := #[]
  staticTypes := #[]
  resolved := #[]
  callSites := []
  init := .initialized
  statics := none
  mirror := none

def pool0 : Array CpInfo := pool [(5, u "<init>"), (0, u "()V"), (1, .class_ 10), (1, u "java/lang/Object")] 113

def k0c0 : Code := { maxStack := 0, maxLocals := 1, code := object_method_1_code, exceptionTable := #[], attributes := #[] }
def k0m0 : Method := { name := "<init>", desc := "()V", sig := { parameters := [], returnType := none }, accessFlags := 1, code := some k0c0 }
/-- java/lang/Object -/
def k0 : Class := { plain "java/lang/Object" none with
  accessFlags := 33
  interfaces := #[]
  cf := some (fileOf pool0 8 #[] #[{ accessFlags := 1, nameIndex := 5, descriptorIndex := 6, attributes := #[] }] 33 0 #[] #[])
  fields := #[]
  methods := #[k0m0]
  instanceTypes := #[]
  staticTypes := #[]
  resolved := Array.replicate 124 none
  statics := none }

def pool1 : Array CpInfo := pool [(2, .class_ 4), (1, u "java/lang/Object"), (0, u "<init>"), (0, u "()V"), (0, .integer 65535), (0, .class_ 9), (0, u "com/example/ganttwright/ganttwright/Objective"), (0, .methodref 8 11), (0, .nameAndType 5 12), (0, u "(DD)V"), (0, .double 4598175219545276416), (1, .methodref 8 16), (0, .nameAndType 17 18), (0, u "better"), (0, u "(DDDDD)Z"), (0, .long 4), (1, .methodref 22 23), (0, .class_ 24), (0, .nameAndType 25 26), (0, u "java/lang/Math"), (0, u "abs"), (0, u "(J)J"), (0, .class_ 28), (0, u "com/example/ganttwright/ganttwright/ObjectiveBetterPinLaw"), (2, u "law"), (0, u "(IIIII)Z")] 5

def k1m0 : Method := { name := "<init>", desc := "()V", sig := { parameters := [], returnType := none }, accessFlags := 1, code := none }
def k1c1 : Code := { maxStack := 11, maxLocals := 28, code := code, exceptionTable := #[], attributes := #[] }
def k1m1 : Method := { name := "law", desc := "(IIIII)Z", sig := { parameters := [.int, .int, .int, .int, .int], returnType := some .boolean }, accessFlags := 9, code := some k1c1 }
/-- com/example/ganttwright/ganttwright/ObjectiveBetterPinLaw -/
def k1 : Class := { plain "com/example/ganttwright/ganttwright/ObjectiveBetterPinLaw" (some 0) with
  accessFlags := 49
  interfaces := #[]
  cf := some (fileOf pool1 27 #[] #[{ accessFlags := 1, nameIndex := 5, descriptorIndex := 6, attributes := #[] }, { accessFlags := 9, nameIndex := 31, descriptorIndex := 32, attributes := #[] }] 49 2 #[] #[])
  fields := #[]
  methods := #[k1m0, k1m1]
  instanceTypes := #[]
  staticTypes := #[]
  resolved := Array.replicate 38 none
  statics := none }

def pool2 : Array CpInfo := pool [(1, .methodref 2 3), (0, .class_ 4), (0, .nameAndType 5 6), (0, u "java/lang/Object"), (0, u "<init>"), (0, u "()V"), (0, .class_ 8), (0, u "java/lang/Record")] 13

def k2c0 : Code := { maxStack := 1, maxLocals := 1, code := jdk_30_method_1_code, exceptionTable := #[], attributes := #[] }
def k2m0 : Method := { name := "<init>", desc := "()V", sig := { parameters := [], returnType := none }, accessFlags := 4, code := some k2c0 }
/-- java/lang/Record -/
def k2 : Class := { plain "java/lang/Record" (some 0) with
  accessFlags := 1057
  interfaces := #[]
  cf := some (fileOf pool2 7 #[] #[{ accessFlags := 4, nameIndex := 5, descriptorIndex := 6, attributes := #[] }] 1057 2 #[] #[])
  fields := #[]
  methods := #[k2m0]
  instanceTypes := #[]
  staticTypes := #[]
  resolved := Array.replicate 22 none
  statics := none }

def pool3 : Array CpInfo := pool [(1, .methodref 2 3), (0, .class_ 4), (0, .nameAndType 5 6), (0, u "java/lang/Record"), (0, u "<init>"), (0, u "()V"), (0, .methodref 8 9), (0, .class_ 10), (0, .nameAndType 11 12), (0, u "java/lang/Double"), (0, u "isFinite"), (0, u "(D)Z"), (11, .methodref 25 26), (0, .class_ 27), (0, .nameAndType 28 29), (0, u "java/lang/Math"), (0, u "max"), (0, u "(DD)D"), (0, .fieldref 31 32), (0, .class_ 33), (0, .nameAndType 34 35), (0, u "com/example/ganttwright/ganttwright/Objective"), (0, u "timeWeight"), (0, u "D"), (0, .fieldref 31 37), (0, .nameAndType 38 35), (0, u "costWeight"), (0, .methodref 31 40), (0, .nameAndType 41 29), (0, u "score"), (2, u "better"), (0, u "(DDDDD)Z"), (2, u "TIME"), (0, u "Lcom/example/ganttwright/ganttwright/Objective;"), (14, u "(DD)V"), (2, u "COST")] 31

def k3c0 : Code := { maxStack := 4, maxLocals := 7, code := prog_15_method_1_code, exceptionTable := #[], attributes := #[] }
def k3m0 : Method := { name := "<init>", desc := "(DD)V", sig := { parameters := [.double, .double], returnType := none }, accessFlags := 1, code := some k3c0 }
def k3c1 : Code := { maxStack := 6, maxLocals := 5, code := prog_15_method_2_code, exceptionTable := #[], attributes := #[] }
def k3m1 : Method := { name := "score", desc := "(DD)D", sig := { parameters := [.double, .double], returnType := some .double }, accessFlags := 1, code := some k3c1 }
def k3c2 : Code := { maxStack := 6, maxLocals := 20, code := prog_15_method_3_code, exceptionTable := #[], attributes := #[] }
def k3m2 : Method := { name := "better", desc := "(DDDDD)Z", sig := { parameters := [.double, .double, .double, .double, .double], returnType := some .boolean }, accessFlags := 0, code := some k3c2 }
/-- com/example/ganttwright/ganttwright/Objective -/
def k3 : Class := { plain "com/example/ganttwright/ganttwright/Objective" (some 2) with
  accessFlags := 49
  interfaces := #[]
  cf := some (fileOf pool3 31 #[] #[{ accessFlags := 1, nameIndex := 5, descriptorIndex := 64, attributes := #[] }, { accessFlags := 1, nameIndex := 41, descriptorIndex := 29, attributes := #[] }, { accessFlags := 0, nameIndex := 44, descriptorIndex := 45, attributes := #[] }] 49 2 #[] #[{ accessFlags := 18, nameIndex := 34, descriptorIndex := 35, attributes := #[] }, { accessFlags := 18, nameIndex := 38, descriptorIndex := 35, attributes := #[] }, { accessFlags := 25, nameIndex := 48, descriptorIndex := 49, attributes := #[] }, { accessFlags := 25, nameIndex := 67, descriptorIndex := 49, attributes := #[] }])
  fields := #[{ name := "timeWeight", type := .double, accessFlags := 18, slot := 0, constantValue := 0 }, { name := "costWeight", type := .double, accessFlags := 18, slot := 1, constantValue := 0 }, { name := "TIME", type := (.object "com/example/ganttwright/ganttwright/Objective"), accessFlags := 25, slot := 0, constantValue := 0 }, { name := "COST", type := (.object "com/example/ganttwright/ganttwright/Objective"), accessFlags := 25, slot := 1, constantValue := 0 }]
  methods := #[k3m0, k3m1, k3m2]
  instanceTypes := #[.double, .double]
  staticTypes := #[(.object "com/example/ganttwright/ganttwright/Objective"), (.object "com/example/ganttwright/ganttwright/Objective")]
  resolved := Array.replicate 99 none
  statics := none }

def pool4 : Array CpInfo := pool [(1, .class_ 2), (0, u "java/io/Serializable"), (0, .class_ 4), (0, u "java/lang/Object")] 2

/-- java/io/Serializable -/
def k4 : Class := { plain "java/io/Serializable" (some 0) with
  accessFlags := 1537
  interfaces := #[]
  cf := some (fileOf pool4 1 #[] #[] 1537 3 #[] #[])
  fields := #[]
  methods := #[]
  instanceTypes := #[]
  staticTypes := #[]
  resolved := Array.replicate 7 none
  statics := none }

def pool5 : Array CpInfo := pool [(2, .class_ 4), (1, u "java/lang/Object"), (0, u "<init>"), (0, u "()V"), (1, .class_ 10), (1, u "java/lang/Number"), (2, .class_ 14), (0, u "java/io/Serializable"), (0, u "serialVersionUID"), (0, u "J")] 20

def k5m0 : Method := { name := "<init>", desc := "()V", sig := { parameters := [], returnType := none }, accessFlags := 1, code := none }
/-- java/lang/Number -/
def k5 : Class := { plain "java/lang/Number" (some 0) with
  accessFlags := 1057
  interfaces := #[4]
  cf := some (fileOf pool5 8 #[] #[{ accessFlags := 1, nameIndex := 5, descriptorIndex := 6, attributes := #[] }] 1057 2 #[13] #[{ accessFlags := 26, nameIndex := 15, descriptorIndex := 16, attributes := #[] }])
  fields := #[{ name := "serialVersionUID", type := .long, accessFlags := 26, slot := 0, constantValue := 0 }]
  methods := #[k5m0]
  instanceTypes := #[]
  staticTypes := #[.long]
  resolved := Array.replicate 37 none
  statics := none }

def pool6 : Array CpInfo := pool [(1, .class_ 2), (0, u "java/lang/Comparable"), (0, .class_ 4), (0, u "java/lang/Object")] 7

/-- java/lang/Comparable -/
def k6 : Class := { plain "java/lang/Comparable" (some 0) with
  accessFlags := 1537
  interfaces := #[]
  cf := some (fileOf pool6 1 #[] #[] 1537 3 #[] #[])
  fields := #[]
  methods := #[]
  instanceTypes := #[]
  staticTypes := #[]
  resolved := Array.replicate 12 none
  statics := none }

def pool7 : Array CpInfo := pool [(1, .class_ 2), (0, u "java/lang/constant/Constable"), (0, .class_ 4), (0, u "java/lang/Object")] 6

/-- java/lang/constant/Constable -/
def k7 : Class := { plain "java/lang/constant/Constable" (some 0) with
  accessFlags := 1537
  interfaces := #[]
  cf := some (fileOf pool7 1 #[] #[] 1537 3 #[] #[])
  fields := #[]
  methods := #[]
  instanceTypes := #[]
  staticTypes := #[]
  resolved := Array.replicate 11 none
  statics := none }

def pool8 : Array CpInfo := pool [(1, .class_ 2), (0, u "java/lang/constant/ConstantDesc"), (0, .class_ 4), (0, u "java/lang/Object")] 32

/-- java/lang/constant/ConstantDesc -/
def k8 : Class := { plain "java/lang/constant/ConstantDesc" (some 0) with
  accessFlags := 1537
  interfaces := #[]
  cf := some (fileOf pool8 1 #[] #[] 1537 3 #[] #[])
  fields := #[]
  methods := #[]
  instanceTypes := #[]
  staticTypes := #[]
  resolved := Array.replicate 37 none
  statics := none }

def pool9 : Array CpInfo := pool [(1, .class_ 2), (0, u "java/lang/Double"), (10, u "isFinite"), (0, u "(D)Z"), (8, .class_ 25), (1, u "java/lang/Math"), (12, .methodref 23 39), (0, .nameAndType 40 41), (0, u "abs"), (0, u "(D)D"), (69, .double 9218868437227405311), (2, .class_ 116), (1, u "java/lang/Number"), (3, u "value"), (0, u "D"), (51, u "TYPE"), (0, u "Ljava/lang/Class;"), (0, .class_ 176), (0, u "java/lang/Comparable"), (0, .class_ 178), (0, u "java/lang/constant/Constable"), (0, .class_ 180), (0, u "java/lang/constant/ConstantDesc"), (0, u "POSITIVE_INFINITY"), (3, u "NEGATIVE_INFINITY"), (2, u "NaN"), (2, u "MAX_VALUE"), (0, u "MIN_NORMAL"), (0, u "MIN_VALUE"), (2, u "SIZE"), (0, u "I"), (1, u "PRECISION"), (1, u "MAX_EXPONENT"), (1, u "MIN_EXPONENT"), (1, u "BYTES"), (3, u "serialVersionUID"), (0, u "J")] 79

def k9c0 : Code := { maxStack := 4, maxLocals := 2, code := jdk_117_method_8_code, exceptionTable := #[], attributes := #[] }
def k9m0 : Method := { name := "isFinite", desc := "(D)Z", sig := { parameters := [.double], returnType := some .boolean }, accessFlags := 9, code := some k9c0 }
/-- java/lang/Double -/
def k9 : Class := { plain "java/lang/Double" (some 5) with
  accessFlags := 49
  interfaces := #[6, 7, 8]
  cf := some (fileOf pool9 1 #[] #[{ accessFlags := 9, nameIndex := 13, descriptorIndex := 14, attributes := #[] }] 49 114 #[175, 177, 179] #[{ accessFlags := 25, nameIndex := 181, descriptorIndex := 121, attributes := #[] }, { accessFlags := 25, nameIndex := 185, descriptorIndex := 121, attributes := #[] }, { accessFlags := 25, nameIndex := 188, descriptorIndex := 121, attributes := #[] }, { accessFlags := 25, nameIndex := 191, descriptorIndex := 121, attributes := #[] }, { accessFlags := 25, nameIndex := 192, descriptorIndex := 121, attributes := #[] }, { accessFlags := 25, nameIndex := 193, descriptorIndex := 121, attributes := #[] }, { accessFlags := 25, nameIndex := 196, descriptorIndex := 197, attributes := #[] }, { accessFlags := 25, nameIndex := 199, descriptorIndex := 197, attributes := #[] }, { accessFlags := 25, nameIndex := 201, descriptorIndex := 197, attributes := #[] }, { accessFlags := 25, nameIndex := 203, descriptorIndex := 197, attributes := #[] }, { accessFlags := 25, nameIndex := 205, descriptorIndex := 197, attributes := #[] }, { accessFlags := 25, nameIndex := 173, descriptorIndex := 174, attributes := #[] }, { accessFlags := 18, nameIndex := 120, descriptorIndex := 121, attributes := #[] }, { accessFlags := 26, nameIndex := 209, descriptorIndex := 210, attributes := #[] }])
  fields := #[{ name := "POSITIVE_INFINITY", type := .double, accessFlags := 25, slot := 0, constantValue := 0 }, { name := "NEGATIVE_INFINITY", type := .double, accessFlags := 25, slot := 1, constantValue := 0 }, { name := "NaN", type := .double, accessFlags := 25, slot := 2, constantValue := 0 }, { name := "MAX_VALUE", type := .double, accessFlags := 25, slot := 3, constantValue := 0 }, { name := "MIN_NORMAL", type := .double, accessFlags := 25, slot := 4, constantValue := 0 }, { name := "MIN_VALUE", type := .double, accessFlags := 25, slot := 5, constantValue := 0 }, { name := "SIZE", type := .int, accessFlags := 25, slot := 6, constantValue := 0 }, { name := "PRECISION", type := .int, accessFlags := 25, slot := 7, constantValue := 0 }, { name := "MAX_EXPONENT", type := .int, accessFlags := 25, slot := 8, constantValue := 0 }, { name := "MIN_EXPONENT", type := .int, accessFlags := 25, slot := 9, constantValue := 0 }, { name := "BYTES", type := .int, accessFlags := 25, slot := 10, constantValue := 0 }, { name := "TYPE", type := (.object "java/lang/Class"), accessFlags := 25, slot := 11, constantValue := 0 }, { name := "value", type := .double, accessFlags := 18, slot := 0, constantValue := 0 }, { name := "serialVersionUID", type := .long, accessFlags := 26, slot := 12, constantValue := 0 }]
  methods := #[k9m0]
  instanceTypes := #[.double]
  staticTypes := #[.double, .double, .double, .double, .double, .double, .int, .int, .int, .int, .int, (.object "java/lang/Class"), .long]
  resolved := Array.replicate 290 none
  statics := none }

def pool10 : Array CpInfo := pool [(1, .class_ 2), (0, u "java/lang/Math"), (1, .class_ 6), (1, u "java/lang/Object"), (0, u "<init>"), (0, u "()V"), (5, u "(D)D"), (37, u "(DD)D"), (45, .class_ 100), (1, u "java/lang/Math$RandomNumberGeneratorHolder"), (23, u "abs"), (0, u "(J)J"), (46, u "negativeZeroFloatBits"), (0, u "J"), (2, u "negativeZeroDoubleBits"), (21, u "max"), (46, u "$assertionsDisabled"), (0, u "Z"), (91, u "twoToTheDoubleScaleDown"), (0, u "D"), (4, u "twoToTheDoubleScaleUp"), (9, u "E"), (3, u "PI"), (2, u "TAU"), (2, u "DEGREES_TO_RADIANS"), (0, u "RADIANS_TO_DEGREES")] 94

def k10m0 : Method := { name := "<init>", desc := "()V", sig := { parameters := [], returnType := none }, accessFlags := 2, code := none }
def k10c1 : Code := { maxStack := 4, maxLocals := 2, code := jdk_29_method_61_code, exceptionTable := #[], attributes := #[] }
def k10m1 : Method := { name := "abs", desc := "(J)J", sig := { parameters := [.long], returnType := some .long }, accessFlags := 9, code := some k10c1 }
def k10c2 : Code := { maxStack := 4, maxLocals := 2, code := jdk_29_method_64_code, exceptionTable := #[], attributes := #[] }
def k10m2 : Method := { name := "abs", desc := "(D)D", sig := { parameters := [.double], returnType := some .double }, accessFlags := 9, code := some k10c2 }
def k10c3 : Code := { maxStack := 4, maxLocals := 4, code := jdk_29_method_68_code, exceptionTable := #[], attributes := #[] }
def k10m3 : Method := { name := "max", desc := "(DD)D", sig := { parameters := [.double, .double], returnType := some .double }, accessFlags := 9, code := some k10c3 }
/-- java/lang/Math -/
def k10 : Class := { plain "java/lang/Math" (some 0) with
  accessFlags := 49
  interfaces := #[]
  cf := some (fileOf pool10 1 #[.nestMembers #[98]] #[{ accessFlags := 2, nameIndex := 7, descriptorIndex := 8, attributes := #[] }, { accessFlags := 9, nameIndex := 124, descriptorIndex := 125, attributes := #[] }, { accessFlags := 9, nameIndex := 124, descriptorIndex := 14, attributes := #[] }, { accessFlags := 9, nameIndex := 198, descriptorIndex := 52, attributes := #[] }] 49 4 #[] #[{ accessFlags := 25, nameIndex := 354, descriptorIndex := 339, attributes := #[] }, { accessFlags := 25, nameIndex := 358, descriptorIndex := 339, attributes := #[] }, { accessFlags := 25, nameIndex := 361, descriptorIndex := 339, attributes := #[] }, { accessFlags := 26, nameIndex := 364, descriptorIndex := 339, attributes := #[] }, { accessFlags := 26, nameIndex := 365, descriptorIndex := 339, attributes := #[] }, { accessFlags := 26, nameIndex := 172, descriptorIndex := 173, attributes := #[] }, { accessFlags := 26, nameIndex := 176, descriptorIndex := 173, attributes := #[] }, { accessFlags := 8, nameIndex := 344, descriptorIndex := 339, attributes := #[] }, { accessFlags := 8, nameIndex := 338, descriptorIndex := 339, attributes := #[] }, { accessFlags := 4120, nameIndex := 245, descriptorIndex := 246, attributes := #[] }])
  fields := #[{ name := "E", type := .double, accessFlags := 25, slot := 0, constantValue := 0 }, { name := "PI", type := .double, accessFlags := 25, slot := 1, constantValue := 0 }, { name := "TAU", type := .double, accessFlags := 25, slot := 2, constantValue := 0 }, { name := "DEGREES_TO_RADIANS", type := .double, accessFlags := 26, slot := 3, constantValue := 0 }, { name := "RADIANS_TO_DEGREES", type := .double, accessFlags := 26, slot := 4, constantValue := 0 }, { name := "negativeZeroFloatBits", type := .long, accessFlags := 26, slot := 5, constantValue := 0 }, { name := "negativeZeroDoubleBits", type := .long, accessFlags := 26, slot := 6, constantValue := 0 }, { name := "twoToTheDoubleScaleUp", type := .double, accessFlags := 8, slot := 7, constantValue := 0 }, { name := "twoToTheDoubleScaleDown", type := .double, accessFlags := 8, slot := 8, constantValue := 0 }, { name := "$assertionsDisabled", type := .boolean, accessFlags := 4120, slot := 9, constantValue := 0 }]
  methods := #[k10m0, k10m1, k10m2, k10m3]
  instanceTypes := #[]
  staticTypes := #[.double, .double, .double, .double, .double, .long, .long, .double, .double, .boolean]
  resolved := Array.replicate 460 none
  statics := none }

def pool11 : Array CpInfo := pool [(1, u "java/lang/Cloneable"), (0, .class_ 1), (0, u "java/lang/Object"), (0, .class_ 3)] 3

/-- java/lang/Cloneable -/
def k11 : Class := { plain "java/lang/Cloneable" (some 0) with
  accessFlags := 1537
  interfaces := #[]
  cf := some (fileOf pool11 2 #[] #[] 1537 4 #[] #[])
  fields := #[]
  methods := #[]
  instanceTypes := #[]
  staticTypes := #[]
  resolved := Array.replicate 8 none
  statics := none }

/-- the primitive byte -/
def k12 : Class := { plain "byte" none with kind := .primitive 'B', accessFlags := 0x411 }
/-- [B -/
def k13 : Class := { plain "[B" (some 0) with kind := .array 12 .byte, interfaces := #[11, 4], accessFlags := 1041 }

/-- the primitive int -/
def k14 : Class := { plain "int" none with kind := .primitive 'I', accessFlags := 0x411 }
/-- [I -/
def k15 : Class := { plain "[I" (some 0) with kind := .array 14 .int, interfaces := #[11, 4], accessFlags := 1041 }

def heap : Heap := #[]
def classes : Array Class := #[k0, k1, k2, k3, k4, k5, k6, k7, k8, k9, k10, k11, k12, k13, k14, k15]
def interned : List (Array UInt16 × Addr) := []
def slotsUsed : Nat := 0
def theMethod : MethodId := ⟨1, 1⟩
def args0 : Array Value := #[.int 5, .int 9, .int 3, .int 7, .int 4]
def aboutOver (below : List Frame) : State where
  vm := { classes := classes, interned := interned.toArray }
  heap := heap
  slotsUsed := slotsUsed
  threads := #[{ frames := .invoking theMethod args0 :: below }]
def below0 : List Frame := [.native { method := ⟨0, 0⟩, args := #[] }]
def about1 : State := aboutOver below0
def p0 : Program := .bare "" "" ""
def e0 : Env := launch0.env 0 0 0
theorem w_frames : about1.frames = Frame.invoking theMethod args0 :: below0 := rfl
set_option maxRecDepth 65536 in
theorem w_args : argsFit about1.vm theMethod args0 = true := by decide +kernel
set_option maxRecDepth 65536 in
theorem w_heap : heapFits about1 = true := by decide +kernel
set_option maxRecDepth 65536 in
theorem w_runnable : about1.curStatus? = some .runnable := by decide +kernel
set_option maxRecDepth 65536 in
theorem w_alone : about1.alone = true := by decide +kernel
set_option maxRecDepth 65536 in
theorem w_named : about1.methodNamed? x = some theMethod := by decide +kernel
set_option maxRecDepth 65536 in
theorem w_hears : about1.hears theMethod below0 = true := by decide +kernel
set_option maxRecDepth 65536 in
theorem w_ripe : about1.ripe theMethod args0 below0 = true := by decide +kernel
theorem w_running : about1.status = .running := rfl
set_option maxRecDepth 65536 in
theorem w_room : about1.hasRoom e0.platform room_1 = true :=
  launch0.hasRoom_least _ room_1 (by decide +kernel) (by decide +kernel) (by decide +kernel) (by decide +kernel) (by decide +kernel) (by decide +kernel)
theorem allAtoms_all (ts : List Jvm.Cond) (a : Array Jvm.Value) (st : Jvm.State) : (allAtoms ts).before a st = ts.all (fun c => c.before a st) := by
  induction ts with
  | nil => rfl
  | cons c t ih =>
    show (Jvm.Cond.and c (allAtoms t)).before a st = _
    rw [Jvm.Cond.before_and, ih, List.all_cons]
def words1 : List Jvm.Cond := Jvm.Cond.code x code maxLocals ret :: tables_1
/-- a 'code' word, met by the world's own term for the bytes: nothing is compared byte by byte -/
theorem code_word {y : MethodName} {bytes : ByteArray} {mx : Nat} {rt : Option FieldType} {a : Array Value} {s : State} {m : MethodId} {meth : Method} {c : Code} (h1 : s.methodNamed? y = some m) (h2 : s.vm.method? m = some meth) (h3 : meth.code = some c) (h4 : c.code = bytes)
    (h5 : (c.maxLocals == mx && c.exceptionTable.isEmpty && decide (c.maxStack ≤ mostOperands) && decide (meth.sig.returnType = rt) && !meth.locks && decide (parseMethodDescriptor y.desc = some meth.sig)) = true) : (Jvm.Cond.code y bytes mx rt).before a s = true := by
  simp only [Bool.and_eq_true, beq_iff_eq, Bool.not_eq_true', decide_eq_true_eq] at h5
  obtain ⟨⟨⟨⟨⟨g1, g2⟩, g3⟩, g4⟩, g5⟩, g6⟩ := h5
  simp [Cond.before, Cond.holds, Cond.value, h1, h2, h3, h4, g1, g2, g3, g4, g5, g6]
def isCode : Jvm.Cond → Bool
  | .code _ _ _ _ => true
  | _ => false
theorem all_split {L : List Jvm.Cond} {P : Jvm.Cond → Bool} (h1 : L.all (fun c => isCode c || P c) = true) (h2 : ∀ c ∈ L.filter isCode, P c = true) : L.all P = true := by
  refine List.all_eq_true.mpr fun c hc => ?_
  have h := List.all_eq_true.mp h1 c hc
  rcases Bool.eq_false_or_eq_true (isCode c) with hi | hi
  · exact h2 c (List.mem_filter.mpr ⟨hc, hi⟩)
  · simpa [hi] using h
set_option maxRecDepth 65536 in
theorem w_c0 : (Jvm.Cond.code x code maxLocals ret).before args0 about1 = true := code_word (m := ⟨1, 1⟩) (meth := k1m1) (c := k1c1) (by decide +kernel) rfl rfl rfl (by decide +kernel)
set_option maxRecDepth 65536 in
theorem w_c1 : (Jvm.Cond.code ({ cls := "com/example/ganttwright/ganttwright/Objective", name := "<init>", desc := "(DD)V" } : Jvm.MethodName) prog_15_method_1_code (7 : Nat) (Option.none : Option Jvm.ClassFile.FieldType)).before args0 about1 = true := code_word (m := ⟨3, 0⟩) (meth := k3m0) (c := k3c0) (by decide +kernel) rfl rfl rfl (by decide +kernel)
set_option maxRecDepth 65536 in
theorem w_c2 : (Jvm.Cond.code ({ cls := "java/lang/Record", name := "<init>", desc := "()V" } : Jvm.MethodName) jdk_30_method_1_code (1 : Nat) (Option.none : Option Jvm.ClassFile.FieldType)).before args0 about1 = true := code_word (m := ⟨2, 0⟩) (meth := k2m0) (c := k2c0) (by decide +kernel) rfl rfl rfl (by decide +kernel)
set_option maxRecDepth 65536 in
theorem w_c3 : (Jvm.Cond.code ({ cls := "java/lang/Object", name := "<init>", desc := "()V" } : Jvm.MethodName) object_method_1_code (1 : Nat) (Option.none : Option Jvm.ClassFile.FieldType)).before args0 about1 = true := code_word (m := ⟨0, 0⟩) (meth := k0m0) (c := k0c0) (by decide +kernel) rfl rfl rfl (by decide +kernel)
set_option maxRecDepth 65536 in
theorem w_c4 : (Jvm.Cond.code ({ cls := "java/lang/Double", name := "isFinite", desc := "(D)Z" } : Jvm.MethodName) jdk_117_method_8_code (2 : Nat) (Option.some Jvm.ClassFile.FieldType.boolean)).before args0 about1 = true := code_word (m := ⟨9, 0⟩) (meth := k9m0) (c := k9c0) (by decide +kernel) rfl rfl rfl (by decide +kernel)
set_option maxRecDepth 65536 in
theorem w_c5 : (Jvm.Cond.code ({ cls := "java/lang/Math", name := "abs", desc := "(D)D" } : Jvm.MethodName) jdk_29_method_64_code (2 : Nat) (Option.some Jvm.ClassFile.FieldType.double)).before args0 about1 = true := code_word (m := ⟨10, 2⟩) (meth := k10m2) (c := k10c2) (by decide +kernel) rfl rfl rfl (by decide +kernel)
set_option maxRecDepth 65536 in
theorem w_c6 : (Jvm.Cond.code ({ cls := "java/lang/Math", name := "max", desc := "(DD)D" } : Jvm.MethodName) jdk_29_method_68_code (4 : Nat) (Option.some Jvm.ClassFile.FieldType.double)).before args0 about1 = true := code_word (m := ⟨10, 3⟩) (meth := k10m3) (c := k10c3) (by decide +kernel) rfl rfl rfl (by decide +kernel)
set_option maxRecDepth 65536 in
theorem w_c7 : (Jvm.Cond.code ({ cls := "com/example/ganttwright/ganttwright/Objective", name := "better", desc := "(DDDDD)Z" } : Jvm.MethodName) prog_15_method_3_code (20 : Nat) (Option.some Jvm.ClassFile.FieldType.boolean)).before args0 about1 = true := code_word (m := ⟨3, 2⟩) (meth := k3m2) (c := k3c2) (by decide +kernel) rfl rfl rfl (by decide +kernel)
set_option maxRecDepth 65536 in
theorem w_c8 : (Jvm.Cond.code ({ cls := "com/example/ganttwright/ganttwright/Objective", name := "score", desc := "(DD)D" } : Jvm.MethodName) prog_15_method_2_code (5 : Nat) (Option.some Jvm.ClassFile.FieldType.double)).before args0 about1 = true := code_word (m := ⟨3, 1⟩) (meth := k3m1) (c := k3c1) (by decide +kernel) rfl rfl rfl (by decide +kernel)
set_option maxRecDepth 65536 in
theorem w_c9 : (Jvm.Cond.code ({ cls := "java/lang/Math", name := "abs", desc := "(J)J" } : Jvm.MethodName) jdk_29_method_61_code (2 : Nat) (Option.some Jvm.ClassFile.FieldType.long)).before args0 about1 = true := code_word (m := ⟨10, 1⟩) (meth := k10m1) (c := k10c1) (by decide +kernel) rfl rfl rfl (by decide +kernel)
def codes1 : List Jvm.Cond := [Jvm.Cond.code x code maxLocals ret, Jvm.Cond.code ({ cls := "com/example/ganttwright/ganttwright/Objective", name := "<init>", desc := "(DD)V" } : Jvm.MethodName) prog_15_method_1_code (7 : Nat) (Option.none : Option Jvm.ClassFile.FieldType), Jvm.Cond.code ({ cls := "java/lang/Record", name := "<init>", desc := "()V" } : Jvm.MethodName) jdk_30_method_1_code (1 : Nat) (Option.none : Option Jvm.ClassFile.FieldType), Jvm.Cond.code ({ cls := "java/lang/Object", name := "<init>", desc := "()V" } : Jvm.MethodName) object_method_1_code (1 : Nat) (Option.none : Option Jvm.ClassFile.FieldType), Jvm.Cond.code ({ cls := "java/lang/Double", name := "isFinite", desc := "(D)Z" } : Jvm.MethodName) jdk_117_method_8_code (2 : Nat) (Option.some Jvm.ClassFile.FieldType.boolean), Jvm.Cond.code ({ cls := "java/lang/Math", name := "abs", desc := "(D)D" } : Jvm.MethodName) jdk_29_method_64_code (2 : Nat) (Option.some Jvm.ClassFile.FieldType.double), Jvm.Cond.code ({ cls := "java/lang/Math", name := "max", desc := "(DD)D" } : Jvm.MethodName) jdk_29_method_68_code (4 : Nat) (Option.some Jvm.ClassFile.FieldType.double), Jvm.Cond.code ({ cls := "com/example/ganttwright/ganttwright/Objective", name := "better", desc := "(DDDDD)Z" } : Jvm.MethodName) prog_15_method_3_code (20 : Nat) (Option.some Jvm.ClassFile.FieldType.boolean), Jvm.Cond.code ({ cls := "com/example/ganttwright/ganttwright/Objective", name := "score", desc := "(DD)D" } : Jvm.MethodName) prog_15_method_2_code (5 : Nat) (Option.some Jvm.ClassFile.FieldType.double), Jvm.Cond.code ({ cls := "java/lang/Math", name := "abs", desc := "(J)J" } : Jvm.MethodName) jdk_29_method_61_code (2 : Nat) (Option.some Jvm.ClassFile.FieldType.long)]
set_option maxRecDepth 65536 in
theorem codes_eq : words1.filter isCode = codes1 := rfl
theorem w_codes : ∀ c ∈ words1.filter isCode, c.before args0 about1 = true := by
  rw [codes_eq]
  intro c hc
  simp only [codes1, List.mem_cons, List.not_mem_nil, or_false] at hc
  rcases hc with rfl | rfl | rfl | rfl | rfl | rfl | rfl | rfl | rfl | rfl
  · exact w_c0
  · exact w_c1
  · exact w_c2
  · exact w_c3
  · exact w_c4
  · exact w_c5
  · exact w_c6
  · exact w_c7
  · exact w_c8
  · exact w_c9
set_option maxRecDepth 65536 in
theorem w_t1 : (words1.take 24).all (fun c => isCode c || c.before args0 about1) = true := by decide +kernel
set_option maxRecDepth 65536 in
theorem w_t2 : (words1.drop 24).all (fun c => isCode c || c.before args0 about1) = true := by decide +kernel
theorem w_tables : (allAtoms (Jvm.Cond.code x code maxLocals ret :: tables_1)).before args0 about1 = true := by
  rw [allAtoms_all]
  show words1.all (fun c => c.before args0 about1) = true
  refine all_split ?_ w_codes
  rw [← List.take_append_drop 24 words1, List.all_append, w_t1, w_t2]
  rfl
set_option maxRecDepth 65536 in
theorem w_case : (Jvm.Cond.and given_1 narrow_1).before args0 about1 = true := by decide +kernel
theorem w_applies : (headSpec (Jvm.Cond.code x code maxLocals ret :: tables_1) room_1).applies x e0.platform about1 = true :=
  (Spec.applies_iff w_frames).mpr ⟨w_running, w_runnable, w_alone, w_named, w_hears, w_ripe, w_room, w_tables⟩
theorem atStart : AtStart classFile x code maxLocals ret World_1 tables_1 room_1 Calls_1 rest_1 Pre_1 launch0 p0 e0 about1 theMethod args0 below0 :=
  ⟨lists_1, trivial, launch0.admits_env _ _ _, launch0.least_env, fairChoices_fair.cas, fairChoices_fair.clock, w_frames, w_args, w_heap, w_applies, trivial, trivial, w_case⟩
end start1
theorem witness_1 : WitnessClaimed_1 := ⟨start1.p0, start1.e0, start1.about1, start1.theMethod, start1.args0, start1.below0, start1.atStart⟩
end Jvm.Pilot.@@N@@
