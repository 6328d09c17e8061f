import JvmDerived
import JvmDerived.Pilot.@@N@@Statement
import JvmDerived.Pilot.@@N@@Code
set_option linter.unusedVariables false
set_option linter.unusedSimpArgs false
namespace Jvm.OwnKit
open Sem ClassFile Op Lib Jvm.Stand Jvm.Free Jvm.LawKit Jvm.RoadKit
def Goes (p : Program) (e : Env) (below : List Frame) (s : State) (K N : Nat) (Q : Option Value → Heap → List Loc → Prop) (S : State) : Prop :=
  ∃ s₂ o, Steps p.tables e below S s₂ ∧ s₂.status = .running ∧ Ended s₂ below o ∧ ∃ v L, o = .returned v ∧ Q v s₂.heap L ∧ FrameEnd s o s₂ L K N
def Cl (p : Program) (e : Env) (below : List Frame) (G : State → Prop) : Prop := ∀ S S', (∀ t, Steps p.tables e below S' t → Steps p.tables e below S t) → G S' → G S
theorem Goes.cl (p : Program) (e : Env) (below : List Frame) (s : State) (K N : Nat) (Q : Option Value → Heap → List Loc → Prop) : Cl p e below (Goes p e below s K N Q) := fun S S' h k => by
  obtain ⟨s₂, o, h1, r⟩ := k
  exact ⟨s₂, o, h _ h1, r⟩
abbrev Con (l : Launch) (y : MethodName) (bytes : ByteArray) (maxL : Nat) (ret : Option FieldType) (ws : List Jvm.Cond) (rm : Room) (Z : State) (as : Array Value) (h0 : Heap) (K N : Nat) (Q : Option Value → Heap → List Loc → Prop) : Prop :=
  MetFree l y (head1 (Jvm.Cond.code y bytes maxL ret :: ws) rm) (fun a U => a = as ∧ Z.Warmed39 U.vm ∧ U.heap = h0) (fun _ _ _ _ _ => True) (fun _ U o U' => ∃ v L, o = .returned v ∧ Q v U'.heap L ∧ FrameEnd U o U' L K N)
theorem Con.of {l : Launch} {y : MethodName} {bytes : ByteArray} {maxL : Nat} {ret : Option FieldType} {ws : List Jvm.Cond} {rm : Room} {Z : State} {as : Array Value} {h0 : Heap} {K N : Nat} {Q : Option Value → Heap → List Loc → Prop} {Ls : Array Slot}
    (pl : plainFor y = true) (hef : ∀ m, entryFrame m as maxL = mkF m 0 Ls [])
    (H : ∀ (p : Program) (e : Env) (s : State) (m : MethodId) (below : List Frame) (meth : Method) (c : Code) (s₁ : State) (G : State → Prop), G = Goes p e below s K N Q → Cl p e below G → p.tables.exec = Jvm.exec → c.code = bytes → c.maxLocals = maxL → s.vm.findClass y.cls = some m.cls → meth.name = y.name → meth.sig.returnType = ret → meth.locks = false → Z.Warmed39 s.vm → Stand p l e rm s m as below meth c s₁ [] 0 0 → s₁.heap = h0 → G (s₁.setTop (mkF m 0 Ls []))) :
    Con l y bytes maxL ret ws rm Z as h0 K N Q := by
  refine MetFree.of_bodySF pl hisR ?_
  intro p e s m args below meth c s₁ Bd hml0 hP hK
  obtain ⟨rfl, hZ, hh⟩ := hP
  have X0 : Stand p l e rm s m args below meth c s₁ [] 0 0 := Stand.of_body Bd
  have e0 : s₁.heap = h0 := by rw [← hh, Bd.state]; rfl
  have g := H p e s m below meth c s₁ _ rfl (Goes.cl p e below s K N Q) Bd.exec Bd.bytes hml0 (findClass_of_methodNamed Bd.named) (name_of_methodNamed Bd.named Bd.method).1 Bd.returns Bd.notSynchronized hZ X0 e0
  rw [← hef m] at g
  exact g
theorem Wr.size {h h' : Heap} {a : Addr} {sl : Nat} {v : Value} (W : Wr h h' a sl v) : h.size ≤ h'.size := by
  obtain ⟨c, -, -, -, rfl⟩ := W
  simp
section New
variable {p : Program} {l : Launch} {e : Env} {R : Room} {s : State} {m : MethodId} {args : Array Value} {below : List Frame} {meth : Method} {c : Code} {T : State} {locs : List Loc} {cells slots : Nat} {Z : State} {a0 : Array Value} {h : Heap} {G : State → Prop} {pc pc' : Nat} {Ls Ls' : Array Slot} {rest : List Value} {K N : Nat} {Q : Option Value → Heap → List Loc → Prop}
/-! the ends -/
theorem e_ret (hGe : G = Goes p e below s K N Q) (X : Stand p l e R s m args below meth c T locs cells slots) (hx : p.tables.exec = Jvm.exec) {w : Value} {t : FieldType} {i : Instr} (hret : meth.sig.returnType = some t) (hlk : meth.locks = false) (hd : decode c.code pc = .ok (i, 1)) (hn : narrow t w = w)
    (hi : (i = .ireturn ∧ (t = .int ∨ t = .boolean ∨ t = .byte ∨ t = .char ∨ t = .short) ∧ ∃ z, w = .int z) ∨ (i = .lreturn ∧ t = .long ∧ ∃ z, w = .long z) ∨ (i = .dreturn ∧ t = .double ∧ ∃ z, w = .double z) ∨ (i = .freturn ∧ t = .float ∧ ∃ z, w = .float z) ∨ (i = .areturn ∧ t.isReference = true ∧ w.isRef = true))
    (eT : T.heap = h) (hk : cells ≤ K) (hs : slots ≤ N) (hQ : Q (some w) h locs) : G (T.setTop (mkF m pc Ls (w :: rest))) := by
  subst hGe
  obtain ⟨fs, hr, hrun, hended, hW, hsame⟩ := X.leave (v := some w) (fun h => by rw [hret] at h; cases h) hlk
  refine ⟨_, _, retOut X hx hret hn hi hd hr, hrun, hended, _, _, rfl, ?_, ⟨_, rfl⟩, hW, hsame.mono hk hs⟩
  show Q _ T.heap _
  rw [eT]; exact hQ
theorem e_retI (hGe : G = Goes p e below s K N Q) (X : Stand p l e R s m args below meth c T locs cells slots) (hx : p.tables.exec = Jvm.exec) {z : Int32} (hret : meth.sig.returnType = some .int) (hlk : meth.locks = false) (hd : decode c.code pc = .ok (.ireturn, 1)) (eT : T.heap = h) (hk : cells ≤ K) (hs : slots ≤ N) (hQ : Q (some (.int z)) h locs) : G (T.setTop (mkF m pc Ls (.int z :: rest))) :=
  e_ret hGe X hx hret hlk hd rfl (Or.inl ⟨rfl, Or.inl rfl, z, rfl⟩) eT hk hs hQ
theorem e_retJ (hGe : G = Goes p e below s K N Q) (X : Stand p l e R s m args below meth c T locs cells slots) (hx : p.tables.exec = Jvm.exec) {z : Int64} (hret : meth.sig.returnType = some .long) (hlk : meth.locks = false) (hd : decode c.code pc = .ok (.lreturn, 1)) (eT : T.heap = h) (hk : cells ≤ K) (hs : slots ≤ N) (hQ : Q (some (.long z)) h locs) : G (T.setTop (mkF m pc Ls (.long z :: rest))) :=
  e_ret hGe X hx hret hlk hd rfl (Or.inr (Or.inl ⟨rfl, rfl, z, rfl⟩)) eT hk hs hQ
theorem e_retA (hGe : G = Goes p e below s K N Q) (X : Stand p l e R s m args below meth c T locs cells slots) (hx : p.tables.exec = Jvm.exec) {a : Addr} {t : FieldType} (hret : meth.sig.returnType = some t) (ht : t.isReference = true) (hlk : meth.locks = false) (hd : decode c.code pc = .ok (.areturn, 1)) (eT : T.heap = h) (hk : cells ≤ K) (hs : slots ≤ N) (hQ : Q (some (.ref a)) h locs) : G (T.setTop (mkF m pc Ls (.ref a :: rest))) :=
  e_ret hGe X hx hret hlk hd (by cases t <;> first | rfl | (cases ht)) (Or.inr (Or.inr (Or.inr (Or.inr ⟨rfl, ht, rfl⟩)))) eT hk hs hQ
theorem e_retZ (hGe : G = Goes p e below s K N Q) (X : Stand p l e R s m args below meth c T locs cells slots) (hx : p.tables.exec = Jvm.exec) {z : Int32} (hret : meth.sig.returnType = some .boolean) (hlk : meth.locks = false) (hd : decode c.code pc = .ok (.ireturn, 1)) (hz : z = 0 ∨ z = 1) (eT : T.heap = h) (hk : cells ≤ K) (hs : slots ≤ N) (hQ : Q (some (.int z)) h locs) : G (T.setTop (mkF m pc Ls (.int z :: rest))) :=
  e_ret hGe X hx hret hlk hd (by rcases hz with rfl | rfl <;> rfl) (Or.inl ⟨rfl, Or.inr (Or.inl rfl), z, rfl⟩) eT hk hs hQ
/-! the plain steps -/
theorem g_iload (hG : Cl p e below G) (X : Stand p l e R s m args below meth c T locs cells slots) (hx : p.tables.exec = Jvm.exec) {i : Nat} {v : Int32} (hd : decode c.code pc = .ok (.iload i, 2)) (hp : pc' = pc + 2) (hl : Ls[i]? = some (.val (.int v))) (k : G (T.setTop (mkF m pc' Ls (.int v :: rest)))) : G (T.setTop (mkF m pc Ls (rest))) := by
  subst hp
  refine hG _ _ (fun t ht => ?_) k
  exact XS.iload X.here hx rfl hd hl ht
theorem g_iloadN (hG : Cl p e below G) (X : Stand p l e R s m args below meth c T locs cells slots) (hx : p.tables.exec = Jvm.exec) {i : Fin 4} {v : Int32} (hd : decode c.code pc = .ok (.iload_n i, 1)) (hp : pc' = pc + 1) (hl : Ls[i.val]? = some (.val (.int v))) (k : G (T.setTop (mkF m pc' Ls (.int v :: rest)))) : G (T.setTop (mkF m pc Ls (rest))) := by
  subst hp
  refine hG _ _ (fun t ht => ?_) k
  exact XS.iloadN X.here hx rfl hd hl ht
theorem g_istore (hG : Cl p e below G) (X : Stand p l e R s m args below meth c T locs cells slots) (hx : p.tables.exec = Jvm.exec) {i : Nat} {v : Int32} (hd : decode c.code pc = .ok (.istore i, 2)) (hp : pc' = pc + 2) (hl : storeLocals Ls i (.int v) = some Ls') (k : G (T.setTop (mkF m pc' Ls' (rest)))) : G (T.setTop (mkF m pc Ls (.int v :: rest))) := by
  subst hp
  refine hG _ _ (fun t ht => ?_) k
  exact XS.istore X.here hx rfl hd rfl hl ht
theorem g_istoreN (hG : Cl p e below G) (X : Stand p l e R s m args below meth c T locs cells slots) (hx : p.tables.exec = Jvm.exec) {i : Fin 4} {v : Int32} (hd : decode c.code pc = .ok (.istore_n i, 1)) (hp : pc' = pc + 1) (hl : storeLocals Ls i.val (.int v) = some Ls') (k : G (T.setTop (mkF m pc' Ls' (rest)))) : G (T.setTop (mkF m pc Ls (.int v :: rest))) := by
  subst hp
  refine hG _ _ (fun t ht => ?_) k
  exact XS.istoreN X.here hx rfl hd rfl hl ht
theorem g_lload (hG : Cl p e below G) (X : Stand p l e R s m args below meth c T locs cells slots) (hx : p.tables.exec = Jvm.exec) {i : Nat} {v : Int64} (hd : decode c.code pc = .ok (.lload i, 2)) (hp : pc' = pc + 2) (hl : Ls[i]? = some (.val (.long v))) (k : G (T.setTop (mkF m pc' Ls (.long v :: rest)))) : G (T.setTop (mkF m pc Ls (rest))) := by
  subst hp
  refine hG _ _ (fun t ht => ?_) k
  exact XS.lload X.here hx rfl hd hl ht
theorem g_lloadN (hG : Cl p e below G) (X : Stand p l e R s m args below meth c T locs cells slots) (hx : p.tables.exec = Jvm.exec) {i : Fin 4} {v : Int64} (hd : decode c.code pc = .ok (.lload_n i, 1)) (hp : pc' = pc + 1) (hl : Ls[i.val]? = some (.val (.long v))) (k : G (T.setTop (mkF m pc' Ls (.long v :: rest)))) : G (T.setTop (mkF m pc Ls (rest))) := by
  subst hp
  refine hG _ _ (fun t ht => ?_) k
  exact XS.lloadN X.here hx rfl hd hl ht
theorem g_lstore (hG : Cl p e below G) (X : Stand p l e R s m args below meth c T locs cells slots) (hx : p.tables.exec = Jvm.exec) {i : Nat} {v : Int64} (hd : decode c.code pc = .ok (.lstore i, 2)) (hp : pc' = pc + 2) (hl : storeLocals Ls i (.long v) = some Ls') (k : G (T.setTop (mkF m pc' Ls' (rest)))) : G (T.setTop (mkF m pc Ls (.long v :: rest))) := by
  subst hp
  refine hG _ _ (fun t ht => ?_) k
  exact XS.lstore X.here hx rfl hd rfl hl ht
theorem g_dload (hG : Cl p e below G) (X : Stand p l e R s m args below meth c T locs cells slots) (hx : p.tables.exec = Jvm.exec) {i : Nat} {v : UInt64} (hd : decode c.code pc = .ok (.dload i, 2)) (hp : pc' = pc + 2) (hl : Ls[i]? = some (.val (.double v))) (k : G (T.setTop (mkF m pc' Ls (.double v :: rest)))) : G (T.setTop (mkF m pc Ls (rest))) := by
  subst hp
  refine hG _ _ (fun t ht => ?_) k
  exact XS.dload X.here hx rfl hd hl ht
theorem g_dloadN (hG : Cl p e below G) (X : Stand p l e R s m args below meth c T locs cells slots) (hx : p.tables.exec = Jvm.exec) {i : Fin 4} {v : UInt64} (hd : decode c.code pc = .ok (.dload_n i, 1)) (hp : pc' = pc + 1) (hl : Ls[i.val]? = some (.val (.double v))) (k : G (T.setTop (mkF m pc' Ls (.double v :: rest)))) : G (T.setTop (mkF m pc Ls (rest))) := by
  subst hp
  refine hG _ _ (fun t ht => ?_) k
  exact XS.dloadN X.here hx rfl hd hl ht
theorem g_dstore (hG : Cl p e below G) (X : Stand p l e R s m args below meth c T locs cells slots) (hx : p.tables.exec = Jvm.exec) {i : Nat} {v : UInt64} (hd : decode c.code pc = .ok (.dstore i, 2)) (hp : pc' = pc + 2) (hl : storeLocals Ls i (.double v) = some Ls') (k : G (T.setTop (mkF m pc' Ls' (rest)))) : G (T.setTop (mkF m pc Ls (.double v :: rest))) := by
  subst hp
  refine hG _ _ (fun t ht => ?_) k
  exact XS.dstore X.here hx rfl hd rfl hl ht
theorem g_aload (hG : Cl p e below G) (X : Stand p l e R s m args below meth c T locs cells slots) (hx : p.tables.exec = Jvm.exec) {i : Nat} {v : Value} (hd : decode c.code pc = .ok (.aload i, 2)) (hp : pc' = pc + 2) (hl : Ls[i]? = some (.val v)) (hv' : v.isRef = true) (k : G (T.setTop (mkF m pc' Ls (v :: rest)))) : G (T.setTop (mkF m pc Ls (rest))) := by
  subst hp
  refine hG _ _ (fun t ht => ?_) k
  exact XS.aload X.here hx rfl hd hl hv' ht
theorem g_aloadN (hG : Cl p e below G) (X : Stand p l e R s m args below meth c T locs cells slots) (hx : p.tables.exec = Jvm.exec) {i : Fin 4} {v : Value} (hd : decode c.code pc = .ok (.aload_n i, 1)) (hp : pc' = pc + 1) (hl : Ls[i.val]? = some (.val v)) (hv' : v.isRef = true) (k : G (T.setTop (mkF m pc' Ls (v :: rest)))) : G (T.setTop (mkF m pc Ls (rest))) := by
  subst hp
  refine hG _ _ (fun t ht => ?_) k
  exact XS.aloadN X.here hx rfl hd hl hv' ht
theorem g_astore (hG : Cl p e below G) (X : Stand p l e R s m args below meth c T locs cells slots) (hx : p.tables.exec = Jvm.exec) {i : Nat} {v : Value} (hd : decode c.code pc = .ok (.astore i, 2)) (hp : pc' = pc + 2) (hv' : v.isRef = true) (hl : storeLocals Ls i v = some Ls') (k : G (T.setTop (mkF m pc' Ls' (rest)))) : G (T.setTop (mkF m pc Ls (v :: rest))) := by
  subst hp
  refine hG _ _ (fun t ht => ?_) k
  exact XS.astore X.here hx rfl hd rfl hv' hl ht
theorem g_astoreN (hG : Cl p e below G) (X : Stand p l e R s m args below meth c T locs cells slots) (hx : p.tables.exec = Jvm.exec) {i : Fin 4} {v : Value} (hd : decode c.code pc = .ok (.astore_n i, 1)) (hp : pc' = pc + 1) (hv' : v.isRef = true) (hl : storeLocals Ls i.val v = some Ls') (k : G (T.setTop (mkF m pc' Ls' (rest)))) : G (T.setTop (mkF m pc Ls (v :: rest))) := by
  subst hp
  refine hG _ _ (fun t ht => ?_) k
  exact XS.astoreN X.here hx rfl hd rfl hv' hl ht
theorem g_iconst (hG : Cl p e below G) (X : Stand p l e R s m args below meth c T locs cells slots) (hx : p.tables.exec = Jvm.exec) {i : Int} {v : Int32} (hd : decode c.code pc = .ok (.iconst i, 1)) (hp : pc' = pc + 1) (hv : Int32.ofInt i = v) (k : G (T.setTop (mkF m pc' Ls (.int v :: rest)))) : G (T.setTop (mkF m pc Ls (rest))) := by
  subst hp
  subst hv
  refine hG _ _ (fun t ht => ?_) k
  exact XS.iconst X.here hx rfl hd ht
theorem g_bipush (hG : Cl p e below G) (X : Stand p l e R s m args below meth c T locs cells slots) (hx : p.tables.exec = Jvm.exec) {i : Int} {v : Int32} (hd : decode c.code pc = .ok (.bipush i, 2)) (hp : pc' = pc + 2) (hv : (Int8.ofInt i).toInt32 = v) (k : G (T.setTop (mkF m pc' Ls (.int v :: rest)))) : G (T.setTop (mkF m pc Ls (rest))) := by
  subst hp
  subst hv
  refine hG _ _ (fun t ht => ?_) k
  exact XS.bipush X.here hx rfl hd ht
theorem g_sipush (hG : Cl p e below G) (X : Stand p l e R s m args below meth c T locs cells slots) (hx : p.tables.exec = Jvm.exec) {i : Int} {v : Int32} (hd : decode c.code pc = .ok (.sipush i, 3)) (hp : pc' = pc + 3) (hv : (Int16.ofInt i).toInt32 = v) (k : G (T.setTop (mkF m pc' Ls (.int v :: rest)))) : G (T.setTop (mkF m pc Ls (rest))) := by
  subst hp
  subst hv
  refine hG _ _ (fun t ht => ?_) k
  exact XS.sipush X.here hx rfl hd ht
theorem g_iadd (hG : Cl p e below G) (X : Stand p l e R s m args below meth c T locs cells slots) (hx : p.tables.exec = Jvm.exec) {x y v : Int32} (hd : decode c.code pc = .ok (.iadd, 1)) (hp : pc' = pc + 1) (hv : x + y = v) (k : G (T.setTop (mkF m pc' Ls (.int v :: rest)))) : G (T.setTop (mkF m pc Ls (.int y :: .int x :: rest))) := by
  subst hp
  subst hv
  refine hG _ _ (fun t ht => ?_) k
  exact XS.iadd X.here hx rfl hd rfl ht
theorem g_isub (hG : Cl p e below G) (X : Stand p l e R s m args below meth c T locs cells slots) (hx : p.tables.exec = Jvm.exec) {x y v : Int32} (hd : decode c.code pc = .ok (.isub, 1)) (hp : pc' = pc + 1) (hv : x - y = v) (k : G (T.setTop (mkF m pc' Ls (.int v :: rest)))) : G (T.setTop (mkF m pc Ls (.int y :: .int x :: rest))) := by
  subst hp
  subst hv
  refine hG _ _ (fun t ht => ?_) k
  exact XS.isub X.here hx rfl hd rfl ht
theorem g_iand (hG : Cl p e below G) (X : Stand p l e R s m args below meth c T locs cells slots) (hx : p.tables.exec = Jvm.exec) {x y v : Int32} (hd : decode c.code pc = .ok (.iand, 1)) (hp : pc' = pc + 1) (hv : x &&& y = v) (k : G (T.setTop (mkF m pc' Ls (.int v :: rest)))) : G (T.setTop (mkF m pc Ls (.int y :: .int x :: rest))) := by
  subst hp
  subst hv
  refine hG _ _ (fun t ht => ?_) k
  exact XS.iand X.here hx rfl hd rfl ht
theorem g_land (hG : Cl p e below G) (X : Stand p l e R s m args below meth c T locs cells slots) (hx : p.tables.exec = Jvm.exec) {x y v : Int64} (hd : decode c.code pc = .ok (.land, 1)) (hp : pc' = pc + 1) (hv : x &&& y = v) (k : G (T.setTop (mkF m pc' Ls (.long v :: rest)))) : G (T.setTop (mkF m pc Ls (.long y :: .long x :: rest))) := by
  subst hp
  subst hv
  refine hG _ _ (fun t ht => ?_) k
  exact XS.land X.here hx rfl hd rfl ht
theorem g_i2l (hG : Cl p e below G) (X : Stand p l e R s m args below meth c T locs cells slots) (hx : p.tables.exec = Jvm.exec) {x : Int32} {v : Int64} (hd : decode c.code pc = .ok (.i2l, 1)) (hp : pc' = pc + 1) (hv : x.toInt64 = v) (k : G (T.setTop (mkF m pc' Ls (.long v :: rest)))) : G (T.setTop (mkF m pc Ls (.int x :: rest))) := by
  subst hp
  subst hv
  refine hG _ _ (fun t ht => ?_) k
  exact XS.i2l X.here hx rfl hd rfl ht
theorem g_l2i (hG : Cl p e below G) (X : Stand p l e R s m args below meth c T locs cells slots) (hx : p.tables.exec = Jvm.exec) {x : Int64} {v : Int32} (hd : decode c.code pc = .ok (.l2i, 1)) (hp : pc' = pc + 1) (hv : x.toInt32 = v) (k : G (T.setTop (mkF m pc' Ls (.int v :: rest)))) : G (T.setTop (mkF m pc Ls (.long x :: rest))) := by
  subst hp
  subst hv
  refine hG _ _ (fun t ht => ?_) k
  exact XS.l2i X.here hx rfl hd rfl ht
theorem g_ishr (hG : Cl p e below G) (X : Stand p l e R s m args below meth c T locs cells slots) (hx : p.tables.exec = Jvm.exec) {x y v : Int32} (hd : decode c.code pc = .ok (.ishr, 1)) (hp : pc' = pc + 1) (hv : x >>> (y &&& 31) = v) (k : G (T.setTop (mkF m pc' Ls (.int v :: rest)))) : G (T.setTop (mkF m pc Ls (.int y :: .int x :: rest))) := by
  subst hp
  subst hv
  refine hG _ _ (fun t ht => ?_) k
  exact XS.ishr X.here hx rfl hd rfl ht
theorem g_lcmp (hG : Cl p e below G) (X : Stand p l e R s m args below meth c T locs cells slots) (hx : p.tables.exec = Jvm.exec) {x y : Int64} {v : Int32} (hd : decode c.code pc = .ok (.lcmp, 1)) (hp : pc' = pc + 1) (hv : lcmpW x y = v) (k : G (T.setTop (mkF m pc' Ls (.int v :: rest)))) : G (T.setTop (mkF m pc Ls (.long y :: .long x :: rest))) := by
  subst hp
  subst hv
  refine hG _ _ (fun t ht => ?_) k
  exact XS.lcmp X.here hx rfl hd rfl ht
theorem g_irem (hG : Cl p e below G) (X : Stand p l e R s m args below meth c T locs cells slots) (hx : p.tables.exec = Jvm.exec) {x y v : Int32} (hd : decode c.code pc = .ok (.irem, 1)) (hp : pc' = pc + 1) (hy : y ≠ 0) (hv : x % y = v) (k : G (T.setTop (mkF m pc' Ls (.int v :: rest)))) : G (T.setTop (mkF m pc Ls (.int y :: .int x :: rest))) := by
  subst hp
  subst hv
  refine hG _ _ (fun t ht => ?_) k
  exact iremM X hx rfl hd rfl hy ht
theorem g_dup (hG : Cl p e below G) (X : Stand p l e R s m args below meth c T locs cells slots) (hx : p.tables.exec = Jvm.exec) {x : Value} (hd : decode c.code pc = .ok (.dup, 1)) (hp : pc' = pc + 1) (hc : x.category = 1) (k : G (T.setTop (mkF m pc' Ls (x :: x :: rest)))) : G (T.setTop (mkF m pc Ls (x :: rest))) := by
  subst hp
  refine hG _ _ (fun t ht => ?_) k
  exact XS.dup X.here hx rfl hd rfl hc ht
theorem g_iinc (hG : Cl p e below G) (X : Stand p l e R s m args below meth c T locs cells slots) (hx : p.tables.exec = Jvm.exec) {i : Nat} {cst : Int} {x v : Int32} (hd : decode c.code pc = .ok (.iinc i cst, 3)) (hp : pc' = pc + 3) (hl : Ls[i]? = some (.val (.int x))) (hv : x + Int32.ofInt cst = v) (hl' : storeLocals Ls i (.int v) = some Ls') (k : G (T.setTop (mkF m pc' Ls' (rest)))) : G (T.setTop (mkF m pc Ls (rest))) := by
  subst hp
  subst hv
  refine hG _ _ (fun t ht => ?_) k
  exact XS.iinc X.here hx rfl hd hl hl' ht
theorem g_i2d (hG : Cl p e below G) (X : Stand p l e R s m args below meth c T locs cells slots) (hx : p.tables.exec = Jvm.exec) {x : Int32} {v : UInt64} (hd : decode c.code pc = .ok (.i2d, 1)) (hp : pc' = pc + 1) (hv : FP.i2d x = v) (k : G (T.setTop (mkF m pc' Ls (.double v :: rest)))) : G (T.setTop (mkF m pc Ls (.int x :: rest))) := by
  subst hp
  subst hv
  refine hG _ _ (fun t ht => ?_) k
  exact XS.i2dS X.here hx rfl hd rfl rfl ht
theorem g_dcmp (hG : Cl p e below G) (X : Stand p l e R s m args below meth c T locs cells slots) (hx : p.tables.exec = Jvm.exec) {x y : UInt64} {o : CmpOp} {v : Int32} (hd : decode c.code pc = .ok (.dcmp o, 1)) (hp : pc' = pc + 1) (hv : cmpValue (FP.dcmp x y) o = v) (k : G (T.setTop (mkF m pc' Ls (.int v :: rest)))) : G (T.setTop (mkF m pc Ls (.double y :: .double x :: rest))) := by
  subst hp
  subst hv
  refine hG _ _ (fun t ht => ?_) k
  exact XS.dcmpS X.here hx rfl hd rfl rfl ht
theorem g_goto (hG : Cl p e below G) (X : Stand p l e R s m args below meth c T locs cells slots) (hx : p.tables.exec = Jvm.exec) {o : Int} (hd : decode c.code pc = .ok (.goto o, 3)) (ho : 0 ≤ (pc : Int) + o) (hp : ((pc : Int) + o).toNat = pc') (k : G (T.setTop (mkF m pc' Ls rest))) : G (T.setTop (mkF m pc Ls rest)) := by
  refine hG _ _ (fun t ht => ?_) k
  exact XS.goto X.here hx rfl (pc0 := pc) rfl hd ho hp ht
theorem g_ifYes (hG : Cl p e below G) (X : Stand p l e R s m args below meth c T locs cells slots) (hx : p.tables.exec = Jvm.exec) {cd : ClassFile.Cond} {x : Int32} {o : Int} (hd : decode c.code pc = .ok (.ifCond cd o, 3)) (hc : ifCond.holds cd x = true) (ho : 0 ≤ (pc : Int) + o) (hp : ((pc : Int) + o).toNat = pc') (k : G (T.setTop (mkF m pc' Ls rest))) : G (T.setTop (mkF m pc Ls (.int x :: rest))) := by
  refine hG _ _ (fun t ht => ?_) k
  exact XS.ifYes X.here hx rfl (pc0 := pc) rfl hd rfl hc ho hp ht
theorem g_ifNo (hG : Cl p e below G) (X : Stand p l e R s m args below meth c T locs cells slots) (hx : p.tables.exec = Jvm.exec) {cd : ClassFile.Cond} {x : Int32} {o : Int} (hd : decode c.code pc = .ok (.ifCond cd o, 3)) (hc : ifCond.holds cd x = false) (hp : pc' = pc + 3) (k : G (T.setTop (mkF m pc' Ls rest))) : G (T.setTop (mkF m pc Ls (.int x :: rest))) := by
  subst hp
  refine hG _ _ (fun t ht => ?_) k
  exact XS.ifNo X.here hx rfl hd rfl hc ht
theorem g_icmpYes (hG : Cl p e below G) (X : Stand p l e R s m args below meth c T locs cells slots) (hx : p.tables.exec = Jvm.exec) {cd : ClassFile.Cond} {x y : Int32} {o : Int} (hd : decode c.code pc = .ok (.if_icmp cd o, 3)) (hc : if_icmp.holds cd x y = true) (ho : 0 ≤ (pc : Int) + o) (hp : ((pc : Int) + o).toNat = pc') (k : G (T.setTop (mkF m pc' Ls rest))) : G (T.setTop (mkF m pc Ls (.int y :: .int x :: rest))) := by
  refine hG _ _ (fun t ht => ?_) k
  exact XS.icmpYes X.here hx rfl (pc0 := pc) rfl hd rfl hc ho hp ht
theorem g_icmpNo (hG : Cl p e below G) (X : Stand p l e R s m args below meth c T locs cells slots) (hx : p.tables.exec = Jvm.exec) {cd : ClassFile.Cond} {x y : Int32} {o : Int} (hd : decode c.code pc = .ok (.if_icmp cd o, 3)) (hc : if_icmp.holds cd x y = false) (hp : pc' = pc + 3) (k : G (T.setTop (mkF m pc' Ls rest))) : G (T.setTop (mkF m pc Ls (.int y :: .int x :: rest))) := by
  subst hp
  refine hG _ _ (fun t ht => ?_) k
  exact XS.icmpNo X.here hx rfl hd rfl hc ht
theorem g_ifnonnullYes (hG : Cl p e below G) (X : Stand p l e R s m args below meth c T locs cells slots) (hx : p.tables.exec = Jvm.exec) {o : Int} {b : Addr} (hd : decode c.code pc = .ok (.ifnonnull o, 3)) (ho : 0 ≤ (pc : Int) + o) (hp : ((pc : Int) + o).toNat = pc') (k : G (T.setTop (mkF m pc' Ls rest))) : G (T.setTop (mkF m pc Ls (.ref b :: rest))) := by
  refine hG _ _ (fun t ht => ?_) k
  exact XS.ifnonnullYes X.here hx rfl (pc0 := pc) rfl hd rfl ho hp ht
/-! constants -/
theorem g_ldcLong (hG : Cl p e below G) (X : Stand p l e R s m args below meth c T locs cells slots) (hx : p.tables.exec = Jvm.exec) (hZ : Z.Warmed39 s.vm) {own : String} {index : Nat} {v : Int64} (hown : s.vm.findClass own = some m.cls) (w : (Jvm.Cond.constantLong own index v).before a0 Z = true) (hd : decode c.code pc = .ok (.ldc2_w index, 3)) (hp : pc' = pc + 3) (k : G (T.setTop (mkF m pc' Ls (.long v :: rest)))) : G (T.setTop (mkF m pc Ls rest)) := by
  subst hp
  refine hG _ _ (fun t ht => ?_) k
  exact X.ldc2Long hx hown (mvT hZ w) (g := mkF m pc Ls rest) rfl hd t ht
/-! fields -/
/-! arrays -/
theorem g_newP (hG : Cl p e below G) (X : Stand p l e R s m args below meth c T locs cells slots) (hx : p.tables.exec = Jvm.exec) (hZ : Z.Warmed39 s.vm) {aty : ArrayType} (w : (Jvm.Cond.arrayClass (newarray.typeOf aty)).before a0 Z = true) (eT : T.heap = h) {n : Int32} (hd : decode c.code pc = .ok (.newarray aty, 2)) (hn : ¬ n < 0) (cap : Nat) (hcap : n.toNatClampNeg ≤ cap) (hb : cap * 8 ≤ 536870912) (hc : cells + 1 ≤ R.cells) (hl : slots + cap ≤ R.slots) (hp : pc' = pc + 2)
    (k : ∀ T' h' b kA, b = h.size → Stand p l e R s m args below meth c T' locs (cells + 1) (slots + cap) → T'.heap = h' → Ext h h' → Arv Z h' b kA (newarray.typeOf aty) n [] (defaultValue (newarray.typeOf aty)) → G (T'.setTop (mkF m pc' Ls (.ref b :: rest)))) : G (T.setTop (mkF m pc Ls (.int n :: rest))) := by
  subst hp
  obtain ⟨T', h', kA, X', e', E, A, st⟩ := newP X hx hZ w eT (g := mkF m pc Ls (.int n :: rest)) rfl hd rfl hn hcap hb hc hl
  exact hG _ _ st (k T' h' _ kA rfl X' e' E (Arv.new A hn))

/-! arrays, with all that they hold -/
def AV (Z : State) (h : Heap) (a : Addr) (ty : FieldType) (n : Int32) (vs : List Value) : Prop := ∃ k, Arv Z h a k ty n vs (defaultValue ty) ∧ vs.length = n.toNatClampNeg
theorem AV.lt {a : Addr} {ty : FieldType} {n : Int32} {vs : List Value} (A : AV Z h a ty n vs) : a < h.size := by obtain ⟨k, A, -⟩ := A; exact A.lt
theorem AV.ext {h' : Heap} {a : Addr} {ty : FieldType} {n : Int32} {vs : List Value} (A : AV Z h a ty n vs) (E : Ext h h') : AV Z h' a ty n vs := by obtain ⟨k, A, q⟩ := A; exact ⟨k, A.ext E, q⟩
theorem AV.other {h' : Heap} {a b : Addr} {sl : Nat} {v : Value} {ty : FieldType} {n : Int32} {vs : List Value} (A : AV Z h a ty n vs) (W : Wr h h' b sl v) (q : a ≠ b) : AV Z h' a ty n vs := by obtain ⟨k, A, r⟩ := A; exact ⟨k, A.other W q, r⟩
theorem AV.keep {h' : Heap} {a : Addr} {ws : List Addr} {ty : FieldType} {n : Int32} {vs : List Value} (A : AV Z h a ty n vs) (K : Keep h h' ws) (q : a ∉ ws) : AV Z h' a ty n vs := by obtain ⟨k, A, r⟩ := A; exact ⟨k, A.keep K q, r⟩
theorem AV.new {a : Addr} {k : ClassId} {ty : FieldType} {n : Int32} (A : Arv Z h a k ty n [] (defaultValue ty)) : AV Z h a ty n (List.replicate n.toNatClampNeg (defaultValue ty)) := ⟨k, A.pad (fun i => by have q := pad_rep [] (defaultValue ty) n.toNatClampNeg i; simpa using q), by simp⟩
theorem AV.at {a : Addr} {ty : FieldType} {n : Int32} {vs : List Value} (A : AV Z h a ty n vs) {j : Int32} {v : Value} (hj : ¬ j < 0) (hv : vs[j.toNatClampNeg]? = some v) :
    ∃ c, Arr Z h a c ty ∧ ¬ (j < 0 ∨ c.slots.size ≤ j.toNatClampNeg) ∧ c.slots[j.toNatClampNeg]? = some v := by
  obtain ⟨k, ⟨c, A, q1, S, q3, H, Gf⟩, q⟩ := A
  have hl : j.toNatClampNeg < vs.length := (List.getElem?_eq_some_iff.mp hv).1
  have hin : ¬ (j < 0 ∨ c.slots.size ≤ j.toNatClampNeg) := fun z => z.elim hj (fun y => by omega)
  refine ⟨c, A, hin, Has.at H hin ?_⟩
  simp [List.getD, hv]
theorem AV.set {h' : Heap} {a : Addr} {ty : FieldType} {n : Int32} {vs : List Value} (A : AV Z h a ty n vs) {j : Int32} {v : Value} (W : Wr h h' a j.toNatClampNeg v) (hv : fits ty v = true) (hl : j.toNatClampNeg < vs.length) : AV Z h' a ty n (vs.set j.toNatClampNeg v) := by
  obtain ⟨k, ⟨c, A, q1, S, q3, H, Gf⟩, q⟩ := A
  exact ⟨k, Arv.set A q1 S q3 H Gf hv W _ rfl hl, by simpa using q⟩
theorem AV.inb {a : Addr} {ty : FieldType} {n : Int32} {vs : List Value} (A : AV Z h a ty n vs) {j : Int32} (hj : ¬ j < 0) (hl : j.toNatClampNeg < vs.length) : ∃ c, Arr Z h a c ty ∧ ¬ (j < 0 ∨ c.slots.size ≤ j.toNatClampNeg) := by
  obtain ⟨k, ⟨c, A, q1, S, q3, H, Gf⟩, q⟩ := A
  exact ⟨c, A, fun z => z.elim hj (fun y => by omega)⟩
theorem g_iaload (hG : Cl p e below G) (X : Stand p l e R s m args below meth c T locs cells slots) (hx : p.tables.exec = Jvm.exec) (hZ : Z.Warmed39 s.vm) (eT : T.heap = h) {a : Addr} {n : Int32} {vs : List Value} (A : AV Z h a .int n vs) {j : Int32} {v : Value} (hj : ¬ j < 0) (hv : vs[j.toNatClampNeg]? = some v) (hd : decode c.code pc = .ok (.iaload, 1)) (hp : pc' = pc + 1) (k : G (T.setTop (mkF m pc' Ls (v :: rest)))) : G (T.setTop (mkF m pc Ls (.int j :: .ref a :: rest))) := by
  subst hp
  obtain ⟨cl, Ar, hin, hat⟩ := A.at hj hv
  refine hG _ _ (fun t ht => ?_) k
  exact X.iaload hx (by rw [eT]; exact Ar.1) (State.isArrayOf_alike hZ.alike Ar.2.1) Ar.2.2 hin hat (g := mkF m pc Ls (.int j :: .ref a :: rest)) rfl rfl hd t ht
theorem g_daload (hG : Cl p e below G) (X : Stand p l e R s m args below meth c T locs cells slots) (hx : p.tables.exec = Jvm.exec) (hZ : Z.Warmed39 s.vm) (eT : T.heap = h) {a : Addr} {n : Int32} {vs : List Value} (A : AV Z h a .double n vs) {j : Int32} {v : Value} (hj : ¬ j < 0) (hv : vs[j.toNatClampNeg]? = some v) (hd : decode c.code pc = .ok (.daload, 1)) (hp : pc' = pc + 1) (k : G (T.setTop (mkF m pc' Ls (v :: rest)))) : G (T.setTop (mkF m pc Ls (.int j :: .ref a :: rest))) := by
  subst hp
  obtain ⟨cl, Ar, hin, hat⟩ := A.at hj hv
  refine hG _ _ (fun t ht => ?_) k
  exact X.daload hx (by rw [eT]; exact Ar.1) (State.isArrayOf_alike hZ.alike Ar.2.1) Ar.2.2 hin hat (g := mkF m pc Ls (.int j :: .ref a :: rest)) rfl rfl hd t ht
theorem g_iastore (hG : Cl p e below G) (X : Stand p l e R s m args below meth c T locs cells slots) (hx : p.tables.exec = Jvm.exec) (hZ : Z.Warmed39 s.vm) (eT : T.heap = h) {a : Addr} {n : Int32} {vs : List Value} (A : AV Z h a .int n vs) {j : Int32} {x : Int32} (hj : ¬ j < 0) (hl : j.toNatClampNeg < vs.length) (hd : decode c.code pc = .ok (.iastore, 1)) (hp : pc' = pc + 1)
    (k : ∀ T' h', Stand p l e R s m args below meth c T' (locs ++ [⟨a, j.toNatClampNeg⟩]) cells slots → T'.heap = h' → Wr h h' a j.toNatClampNeg (.int x) → AV Z h' a .int n (vs.set j.toNatClampNeg (.int x)) → G (T'.setTop (mkF m pc' Ls rest))) : G (T.setTop (mkF m pc Ls (.int x :: .int j :: .ref a :: rest))) := by
  subst hp
  obtain ⟨cl, Ar, hin⟩ := A.inb hj hl
  obtain ⟨T', h', X', e', W, st⟩ := stI X hx hZ eT Ar hin (g := mkF m pc Ls (.int x :: .int j :: .ref a :: rest)) rfl rfl hd
  exact hG _ _ st (k T' h' X' e' W (A.set W rfl hl))
theorem g_dastore (hG : Cl p e below G) (X : Stand p l e R s m args below meth c T locs cells slots) (hx : p.tables.exec = Jvm.exec) (hZ : Z.Warmed39 s.vm) (eT : T.heap = h) {a : Addr} {n : Int32} {vs : List Value} (A : AV Z h a .double n vs) {j : Int32} {x : UInt64} (hj : ¬ j < 0) (hl : j.toNatClampNeg < vs.length) (hd : decode c.code pc = .ok (.dastore, 1)) (hp : pc' = pc + 1)
    (k : ∀ T' h', Stand p l e R s m args below meth c T' (locs ++ [⟨a, j.toNatClampNeg⟩]) cells slots → T'.heap = h' → Wr h h' a j.toNatClampNeg (.double x) → AV Z h' a .double n (vs.set j.toNatClampNeg (.double x)) → G (T'.setTop (mkF m pc' Ls rest))) : G (T.setTop (mkF m pc Ls (.double x :: .int j :: .ref a :: rest))) := by
  subst hp
  obtain ⟨cl, Ar, hin⟩ := A.inb hj hl
  obtain ⟨T', h', X', e', W, st⟩ := stD X hx hZ eT Ar hin (g := mkF m pc Ls (.double x :: .int j :: .ref a :: rest)) rfl rfl hd
  exact hG _ _ st (k T' h' X' e' W (A.set W rfl hl))
theorem g_arraylength (hG : Cl p e below G) (X : Stand p l e R s m args below meth c T locs cells slots) (hx : p.tables.exec = Jvm.exec) (hZ : Z.Warmed39 s.vm) (eT : T.heap = h) {a : Addr} {ty : FieldType} {n : Int32} {vs : List Value} (A : AV Z h a ty n vs) (hd : decode c.code pc = .ok (.arraylength, 1)) (hp : pc' = pc + 1) (k : G (T.setTop (mkF m pc' Ls (.int n :: rest)))) : G (T.setTop (mkF m pc Ls (.ref a :: rest))) := by
  subst hp
  obtain ⟨kA, ⟨cl, Ar, q1, S, q3, H, Gf⟩, q⟩ := A
  rw [← len_of S q3] at k
  refine hG _ _ (fun t ht => ?_) k
  exact X.arraylength hx (by rw [eT]; exact Ar.1) (State.isArrayOf_alike hZ.alike Ar.2.1) (g := mkF m pc Ls (.ref a :: rest)) rfl rfl hd t ht
/-! calls by a contract -/
theorem g_callS (hG : Cl p e below G) (X : Stand p l e R s m args below meth c T locs cells slots) (hx : p.tables.exec = Jvm.exec) (hZ : Z.Warmed39 s.vm) {own : String} {index : Nat} {y : MethodName} {bytes : ByteArray} {maxL : Nat} {ret : Option FieldType} {rm : Room} {as : Array Value} {Qc : Option Value → Heap → List Loc → Prop} {argsL stack : List Value} {ps : List FieldType} {rt : Option FieldType} (W : Nat)
    (hown : s.vm.findClass own = some m.cls) (w1 : (Jvm.Cond.methodLink own index y).before a0 Z = true) (w2 : (Jvm.Cond.static y).before a0 Z = true) (w3 : (Jvm.Cond.initialized y.cls).before a0 Z = true) (w4 : (Jvm.Cond.code y bytes maxL ret).before a0 Z = true) (hy : y.cls ≠ "java/lang/invoke/MethodHandle" ∧ y.cls ≠ "java/lang/invoke/VarHandle")
    (hM : Con l y bytes maxL ret [] rm Z as h rm.cells rm.slots Qc) (hfr : rm.frames + 1 ≤ R.frames) (hlo : W + (maxL + 11) + rm.locals ≤ R.locals) (hsz : Ls.size = c.maxLocals) (hpd : parseMethodDescriptor y.desc = some ⟨ps, rt⟩) (hln : argsL.length = ps.length) (hst : stack = argsL.reverse ++ rest) (has : argsL.toArray = as) (hW : (rest.map fun v => v.category).sum ≤ W)
    (hd : decode c.code pc = .ok (.invokestatic index, 3)) (eT : T.heap = h) (hc : cells + rm.cells ≤ R.cells) (hs : slots + rm.slots ≤ R.slots) (hp : pc' = pc + 3)
    (k : ∀ T' v L', Stand p l e R s m args below meth c T' (locs ++ L') (cells + rm.cells) (slots + rm.slots) → Qc v T'.heap L' → G (T'.setTop (mkF m pc' Ls (v.toList ++ rest)))) : G (T.setTop (mkF m pc Ls stack)) := by
  subst hp hst has
  obtain ⟨v, _, ⟨T1, L1, k1, n1⟩, -, X1, ⟨Lc, hQ, l1, y1, z1⟩, st⟩ := Jvm.LawKit.callS X hx (y := y) hown (mvT hZ w1) (mvT hZ w2) (mvT hZ w3) (mvT hZ w4) hy (backOf (W := W) hM hZ w4 w3 hfr hlo) (g := mkF m pc Ls (argsL.reverse ++ rest)) rfl hsz (argsL := argsL) (rest := rest) (lenOf hpd hln) rfl (by show 2 * 0 + _ ≤ _; omega) hd (fun _ _ => ⟨rfl, eT, hc, hs⟩)
  dsimp only [Pt.U, Pt.locs, Pt.cells, Pt.slots] at X1 l1 y1 z1 st hQ
  subst l1 y1 z1
  exact hG _ _ st (k T1 v Lc X1 hQ)
theorem g_copy (hG : Cl p e below G) (X : Stand p l e R s m args below meth c T locs cells slots) (hx : p.tables.exec = Jvm.exec) (hZ : Z.Warmed39 s.vm) {own : String} {index : Nat} (hown : s.vm.findClass own = some m.cls)
    (w1 : (Jvm.Cond.methodLink own index Jvm.Stand.acN).before a0 Z = true) (w2 : (Jvm.Cond.native Jvm.Stand.acN).before a0 Z = true) (w3 : (Jvm.Cond.static Jvm.Stand.acN).before a0 Z = true) (w4 : (Jvm.Cond.initialized "java/lang/System").before a0 Z = true) (eT : T.heap = h)
    {a b : Addr} {ty : FieldType} {n z sp dp nn : Int32} {vs vd vr : List Value} (A : AV Z h a ty n vs) (B : AV Z h b ty z vd) (hr : refKind ty = false) (h1 : ¬ sp < 0) (h2 : ¬ dp < 0) (h3 : ¬ nn < 0) (h4 : sp.toNatClampNeg + nn.toNatClampNeg ≤ n.toNatClampNeg) (h5 : dp.toNatClampNeg + nn.toNatClampNeg ≤ z.toNatClampNeg)
    (hvr : vd.take dp.toNatClampNeg ++ ((List.range nn.toNatClampNeg).map fun i => vs.getD (sp.toNatClampNeg + i) (defaultValue ty)) ++ vd.drop (dp.toNatClampNeg + nn.toNatClampNeg) = vr) {n0 : Nat} (N0 : Fr n0 locs) (ge : n0 ≤ b) (hsz : Ls.size = c.maxLocals) (hd : decode c.code pc = .ok (.invokestatic index, 3)) (hfr : 1 ≤ R.frames) (W : Nat) (hW : (rest.map fun v => v.category).sum ≤ W) (hlo : W + (nativeFrameWords "java/lang/System" "arraycopy" 5 + 11) ≤ R.locals) (hp : pc' = pc + 3)
    (k : ∀ T' h' L, Stand p l e R s m args below meth c T' L cells slots → T'.heap = h' → Fr n0 L → Keep h h' [b] → AV Z h' b ty z vr → G (T'.setTop (mkF m pc' Ls rest))) : G (T.setTop (mkF m pc Ls (.int nn :: .int dp :: .ref b :: .int sp :: .ref a :: rest))) := by
  subst hp hvr
  obtain ⟨kA, A, qa⟩ := A
  obtain ⟨kB, B, qb⟩ := B
  obtain ⟨T', h', L', X', e', N', K', V', st⟩ := cpA X hx hZ hown w1 w2 w3 w4 eT A B (Or.inl ⟨rfl, hr⟩) h1 h2 h3 h4 h5 rfl (by omega) N0 ge (g := mkF m pc Ls (.int nn :: .int dp :: .ref b :: .int sp :: .ref a :: rest)) rfl hsz rfl hd hfr (W := W) (by show 2 * 0 + _ ≤ _; omega) hlo
  exact hG _ _ st (k T' h' L' X' e' N' K' ⟨kB, V', by simp only [List.length_append, List.length_take, List.length_map, List.length_range, List.length_drop]; omega⟩)
end New
end Jvm.OwnKit
namespace Jvm.OwnFl
open Jvm.FP.Core
theorem two_ne : (2 : Rat) ≠ 0 := by decide
theorem p2pos (q : Int) : (0 : Rat) < (2 : Rat) ^ q := Rat.zpow_pos (by decide)
theorem p2add (a b : Int) : (2 : Rat) ^ (a + b) = (2 : Rat) ^ a * (2 : Rat) ^ b := Rat.zpow_add two_ne a b
theorem p2nat (n : Nat) : (2 : Rat) ^ (n : Int) = ((2 ^ n : Nat) : Rat) := by rw [Rat.zpow_natCast, Rat.natCast_pow]; rfl
theorem p2le {a b : Int} (h : a ≤ b) : (2 : Rat) ^ a ≤ (2 : Rat) ^ b := by
  obtain ⟨n, hn⟩ : ∃ n : Nat, b = a + n := ⟨(b - a).toNat, by omega⟩
  subst hn
  rw [p2add, p2nat]
  have h1 : (1 : Rat) ≤ ((2 ^ n : Nat) : Rat) := by
    have q : ((1 : Nat) : Rat) ≤ ((2 ^ n : Nat) : Rat) := Rat.natCast_le_natCast.mpr (Nat.two_pow_pos n)
    exact q
  have q := Rat.mul_le_mul_of_nonneg_left h1 (Rat.le_of_lt (p2pos a))
  rwa [Rat.mul_one] at q
theorem p2lt {a b : Int} (h : (2 : Rat) ^ a < (2 : Rat) ^ b) : a < b := by
  by_cases q : a < b
  · exact q
  · exact absurd (p2le (Int.not_lt.mp q)) (Rat.not_le.mpr h)
def rvd : Datum → Rat
  | .fin s c q => ((signed s c : Int) : Rat) * (2 : Rat) ^ q
  | _ => 0
def DV (v : UInt64) (x : Rat) : Prop := ∃ s c q, val64 v = .fin s c q ∧ rvd (.fin s c q) = x
theorem DV.fin {v : UInt64} {x : Rat} (h : DV v x) : Jvm.Free.Fl.Fin64 v := by
  obtain ⟨s, c, q, h, -⟩ := h
  exact Jvm.Free.Fl.fin64_core.mpr ⟨s, c, q, h⟩
theorem units_val (s : Bool) (c : Nat) {q e : Int} (h : e ≤ q) : ((signed s (inUnits c q e) : Int) : Rat) * (2 : Rat) ^ e = ((signed s c : Int) : Rat) * (2 : Rat) ^ q := by
  obtain ⟨n, rfl⟩ : ∃ n : Nat, q = e + n := ⟨(q - e).toNat, by omega⟩
  unfold inUnits
  rw [signed_mul, Rat.intCast_mul, Rat.mul_assoc, show (e + (n : Int) - e).toNat = n by omega, p2add, p2nat, Rat.mul_comm ((2 : Rat) ^ e)]
  rfl
theorem dcmp_of {a b : UInt64} {x y : Rat} (ha : DV a x) (hb : DV b y) : dcmp a b = some (if x < y then .lt else if x = y then .eq else .gt) := by
  obtain ⟨s, c, q, h1, rfl⟩ := ha
  obtain ⟨t, d, r, h2, rfl⟩ := hb
  show order (val64 a) (val64 b) = _
  rw [h1, h2]
  show some (compare (signed s (inUnits c q (min q r))) (signed t (inUnits d r (min q r)))) = some (if ((signed s c : Int) : Rat) * (2 : Rat) ^ q < ((signed t d : Int) : Rat) * (2 : Rat) ^ r then .lt else if ((signed s c : Int) : Rat) * (2 : Rat) ^ q = ((signed t d : Int) : Rat) * (2 : Rat) ^ r then .eq else .gt)
  rw [compare_ite, ← units_val s c (Int.min_le_left q r), ← units_val t d (Int.min_le_right q r)]
  generalize signed s (inUnits c q (min q r)) = i
  generalize signed t (inUnits d r (min q r)) = j
  have hu := p2pos (min q r)
  generalize (2 : Rat) ^ (min q r) = u at hu
  have k1 : ∀ i j : Int, ((i : Rat) * u < (j : Rat) * u) ↔ i < j := fun i j => (Rat.mul_lt_mul_right hu).trans Rat.intCast_lt_intCast
  have k2 : ((i : Rat) * u = (j : Rat) * u) ↔ i = j := by
    constructor
    · intro h
      rcases Int.lt_trichotomy i j with g | g | g
      · have := (k1 i j).mpr g; rw [h] at this; exact absurd this Rat.lt_irrefl
      · exact g
      · have := (k1 j i).mpr g; rw [h] at this; exact absurd this Rat.lt_irrefl
    · intro h; rw [h]
  simp only [k1, k2]
theorem dcmp_lt {a b : UInt64} {x y : Rat} (ha : DV a x) (hb : DV b y) (h : x < y) : Jvm.FP.dcmp a b = some .lt := by
  show dcmp a b = _
  rw [dcmp_of ha hb, if_pos h]
theorem dcmp_eq {a b : UInt64} {x y : Rat} (ha : DV a x) (hb : DV b y) (h : x = y) : Jvm.FP.dcmp a b = some .eq := by
  show dcmp a b = _
  rw [dcmp_of ha hb, if_neg (by rw [h]; exact Rat.lt_irrefl), if_pos h]
theorem dcmp_gt {a b : UInt64} {x y : Rat} (ha : DV a x) (hb : DV b y) (h : y < x) : Jvm.FP.dcmp a b = some .gt := by
  show dcmp a b = _
  rw [dcmp_of ha hb, if_neg (by rw [Rat.not_lt]; exact Rat.le_of_lt h), if_neg (Rat.ne_of_gt h)]
theorem rr_spec (s : Bool) {A B : Nat} (e : Int) (hA : 0 < A) (hB : 0 < B) {x : Rat} (hx : x * (B : Rat) = (A : Rat) * (2 : Rat) ^ e) (hlt : x < (2 : Rat) ^ (1023 : Int)) :
    ∃ c q, roundRatio b64 s A B e = .fin s c q ∧ ∃ (m : Nat) (r : Int), (c : Rat) * (2 : Rat) ^ q = (m : Rat) * (2 : Rat) ^ r ∧ -1074 ≤ r ∧ m ≤ 2 ^ 53 ∧ 2 * x ≤ (2 * (m : Rat) + 1) * (2 : Rat) ^ r ∧ 2 * (m : Rat) * (2 : Rat) ^ r ≤ 2 * x + (2 : Rat) ^ r ∧
      x < 9007199254740992 * (2 : Rat) ^ r ∧ (r = -1074 ∨ 4503599627370496 * (2 : Rat) ^ r ≤ x) := by
  have g1 := quantum_ge b64 A B e
  have g2 := nearest_units_le (f := b64) hA hB e
  have g3 := quantum_not_below (f := b64) hA hB e
  have g4 := quantum_below (f := b64) hA hB e
  unfold roundRatio
  rw [if_neg (by omega : ¬ A = 0)]
  generalize quantum b64 A B e = r at *
  unfold roundAt
  have hD := unitsDen_pos hB e r
  obtain ⟨n1, n2, -⟩ := nearest_spec (unitsNum A e r) (unitsDen B e r) hD
  have key : x * (unitsDen B e r : Rat) = (unitsNum A e r : Rat) * (2 : Rat) ^ r := by
    unfold unitsDen unitsNum
    rw [Rat.natCast_mul, Rat.natCast_mul, ← Rat.mul_assoc, hx, ← p2nat, ← p2nat, Rat.mul_assoc, Rat.mul_assoc, ← p2add, ← p2add, show e + ((r - e).toNat : Int) = ((e - r).toNat : Int) + r by omega]
  have b1 : unitsNum A e r < 2 ^ 53 * unitsDen B e r := (units_below A B e r 53).mpr g4
  have b2 : r = -1074 ∨ 2 ^ 52 * unitsDen B e r ≤ unitsNum A e r := by
    rcases g3 with g3 | g3
    · exact Or.inl g3
    · exact Or.inr (Nat.le_of_not_lt fun q => g3 ((units_below A B e r 52).mp q))
  have hr0 : -1074 ≤ r := g1
  have hm53 : nearest (unitsNum A e r) (unitsDen B e r) ≤ 2 ^ 53 := g2
  clear g1 g2 g3 g4
  generalize nearest (unitsNum A e r) (unitsDen B e r) = m at *
  generalize unitsNum A e r = N at *
  generalize unitsDen B e r = D at *
  have hu := p2pos r
  have hDp : (0 : Rat) < (D : Rat) := Rat.natCast_pos.mpr hD
  have n1' : 2 * (N : Rat) ≤ (2 * (m : Rat) + 1) * (D : Rat) := by
    have q := Rat.natCast_le_natCast.mpr n1
    simpa [Rat.natCast_mul, Rat.natCast_add] using q
  have n2' : 2 * (m : Rat) * (D : Rat) ≤ 2 * (N : Rat) + (D : Rat) := by
    have q := Rat.natCast_le_natCast.mpr n2
    simpa [Rat.natCast_mul, Rat.natCast_add] using q
  have b1' : (N : Rat) < 9007199254740992 * (D : Rat) := by
    have q := Rat.natCast_lt_natCast.mpr b1
    simpa [Rat.natCast_mul] using q
  have b2' : r = -1074 ∨ 4503599627370496 * (D : Rat) ≤ (N : Rat) := by
    rcases b2 with q | q
    · exact Or.inl q
    · right
      have q := Rat.natCast_le_natCast.mpr q
      simpa [Rat.natCast_mul] using q
  have f1 : 2 * x ≤ (2 * (m : Rat) + 1) * (2 : Rat) ^ r := by
    refine Rat.le_of_mul_le_mul_right (c := (D : Rat)) ?_ hDp
    have q := Rat.mul_le_mul_of_nonneg_right n1' (Rat.le_of_lt hu)
    generalize (2 : Rat) ^ r = u at *
    grind
  have f2 : 2 * (m : Rat) * (2 : Rat) ^ r ≤ 2 * x + (2 : Rat) ^ r := by
    refine Rat.le_of_mul_le_mul_right (c := (D : Rat)) ?_ hDp
    have q := Rat.mul_le_mul_of_nonneg_right n2' (Rat.le_of_lt hu)
    generalize (2 : Rat) ^ r = u at *
    grind
  have f3 : x < 9007199254740992 * (2 : Rat) ^ r := by
    refine Rat.lt_of_mul_lt_mul_right (c := (D : Rat)) ?_ (Rat.le_of_lt hDp)
    have q := Rat.mul_lt_mul_of_pos_right b1' hu
    generalize (2 : Rat) ^ r = u at *
    grind
  have f4 : r = -1074 ∨ 4503599627370496 * (2 : Rat) ^ r ≤ x := by
    rcases b2' with q | q
    · exact Or.inl q
    · right
      refine Rat.le_of_mul_le_mul_right (c := (D : Rat)) ?_ hDp
      have q := Rat.mul_le_mul_of_nonneg_right q (Rat.le_of_lt hu)
      generalize (2 : Rat) ^ r = u at *
      grind
  have hr : r ≤ 970 := by
    rcases f4 with q | q
    · omega
    · have q1 : (2 : Rat) ^ ((52 : Int) + r) < (2 : Rat) ^ (1023 : Int) := by
        rw [p2add, show (2 : Rat) ^ (52 : Int) = 4503599627370496 by decide +kernel]
        exact Std.lt_of_le_of_lt q hlt
      have := p2lt q1
      omega
  have hqm : b64.qmax = 971 := by decide
  by_cases hm : m < 2 ^ 53
  · refine ⟨m, r, ?_, m, r, rfl, hr0, hm53, f1, f2, f3, f4⟩
    show (if m < 2 ^ 53 then bound b64 s m r else _) = _
    rw [if_pos hm]
    unfold bound
    rw [if_pos (by omega)]
  · have hm : m = 2 ^ 53 := by omega
    refine ⟨2 ^ 52, r + 1, ?_, m, r, ?_, hr0, hm53, f1, f2, f3, f4⟩
    · show (if m < 2 ^ 53 then bound b64 s m r else bound b64 s b64.tails (r + 1)) = _
      rw [if_neg (by omega)]
      unfold bound
      rw [if_pos (by omega)]
      rfl
    · subst hm
      rw [p2add, Rat.zpow_one]
      generalize (2 : Rat) ^ r = u
      have e1 : ((2 ^ 52 : Nat) : Rat) = 4503599627370496 := by decide +kernel
      have e2 : ((2 ^ 53 : Nat) : Rat) = 9007199254740992 := by decide +kernel
      rw [e1, e2]
      grind
def RR (x : Rat) : Rat := rvd (roundRatio b64 (decide (x < 0)) x.num.natAbs x.den 0)
theorem rat_num (x : Rat) : x * (x.den : Rat) = (x.num : Rat) := by
  have h : x = (x.num : Rat) / ((x.den : Int) : Rat) := by rw [← Rat.divInt_eq_div, Rat.num_divInt_den]
  have hd : (((x.den : Int)) : Rat) ≠ 0 := by
    intro q
    have := Rat.intCast_eq_zero_iff.mp q
    have := x.den_nz
    omega
  have q := Rat.div_mul_cancel (a := (x.num : Rat)) hd
  rw [← h] at q
  exact q
theorem signed_rat (s : Bool) (c : Nat) : ((signed s c : Int) : Rat) = if s then -(c : Rat) else (c : Rat) := by cases s <;> simp [signed, Rat.intCast_natCast]
theorem rr_congr {s : Bool} {A B : Nat} {e : Int} {x : Rat} (hB : 0 < B) (hx : x * (B : Rat) = ((signed s A : Int) : Rat) * (2 : Rat) ^ e) (hA : A ≠ 0) : roundRatio b64 s A B e = roundRatio b64 (decide (x < 0)) x.num.natAbs x.den 0 := by
  have hu := p2pos e
  have hBp : (0 : Rat) < (B : Rat) := Rat.natCast_pos.mpr hB
  have hAp : (0 : Rat) < (A : Rat) := Rat.natCast_pos.mpr (by omega)
  have hAu := Rat.mul_pos hAp hu
  have hs : decide (x < 0) = s := by
    rw [signed_rat] at hx
    cases s
    · simp only [Bool.false_eq_true, if_false] at hx
      rw [decide_eq_false_iff_not]
      intro q
      have := (Rat.mul_neg_iff_of_pos_right hBp).mpr q
      rw [hx] at this
      grind
    · simp only [if_true] at hx
      rw [decide_eq_true_iff]
      refine (Rat.mul_neg_iff_of_pos_right hBp).mp ?_
      rw [hx]
      grind
  rw [hs]
  refine roundRatio_congr hB x.den_pos ?_
  -- magnitudes
  have h1 := rat_num x
  have h2 : (x.num : Rat) * (B : Rat) = ((signed s A : Int) : Rat) * (2 : Rat) ^ e * (x.den : Rat) := by rw [← h1, ← hx]; grind
  have h3 : (x.num : Rat) * (B : Rat) * (2 : Rat) ^ (((0 - e).toNat : Nat) : Int) = ((signed s A : Int) : Rat) * (x.den : Rat) * (2 : Rat) ^ (((e - 0).toNat : Nat) : Int) := by
    rw [h2, Rat.mul_assoc, Rat.mul_assoc, Rat.mul_comm ((2 : Rat) ^ e), Rat.mul_assoc, ← p2add, ← Rat.mul_assoc]
    rw [show (((0 - e).toNat : Nat) : Int) + e = (((e - 0).toNat : Nat) : Int) by omega]
  rw [p2nat, p2nat] at h3
  have h4 : x.num * (B : Int) * ((2 ^ (0 - e).toNat : Nat) : Int) = signed s A * (x.den : Int) * ((2 ^ (e - 0).toNat : Nat) : Int) := by
    refine Rat.intCast_inj.mp ?_
    rw [Rat.intCast_mul, Rat.intCast_mul, Rat.intCast_mul, Rat.intCast_mul]
    exact h3
  have h5 := congrArg Int.natAbs h4
  simp only [Int.natAbs_mul, Int.natAbs_natCast, natAbs_signed] at h5
  exact h5.symm
theorem rvd_rr {s : Bool} {A B : Nat} {e : Int} {x : Rat} (hB : 0 < B) (hx : x * (B : Rat) = ((signed s A : Int) : Rat) * (2 : Rat) ^ e) : rvd (roundRatio b64 s A B e) = RR x := by
  by_cases hA : A = 0
  · subst hA
    have hx0 : x = 0 := by
      rw [signed_zero] at hx
      have hBp : (B : Rat) ≠ 0 := fun q => by have := Rat.natCast_eq_zero_iff.mp q; omega
      rcases Rat.mul_eq_zero.mp (hx.trans (by rw [show ((0 : Int) : Rat) = 0 from rfl, Rat.zero_mul])) with q | q
      · exact q
      · exact absurd q hBp
    subst hx0
    unfold RR roundRatio
    rw [if_pos rfl, if_pos (by decide)]
    show ((signed s 0 : Int) : Rat) * _ = ((signed _ 0 : Int) : Rat) * _
    rw [signed_zero, signed_zero]
  · rw [rr_congr hB hx hA]; rfl
theorem RR_neg (x : Rat) : RR (-x) = - RR x := by
  have h := rat_num x
  have h1 : rvd (roundRatio b64 (!decide (x < 0)) x.num.natAbs x.den 0) = RR (-x) := by
    refine rvd_rr x.den_pos ?_
    rw [Rat.zpow_zero, Rat.mul_one, Rat.neg_mul, h]
    have : (signed (!decide (x < 0)) x.num.natAbs : Int) = - x.num := by
      by_cases q : x < 0
      · have : x.num < 0 := by
          rw [← Int.not_le, Rat.num_nonneg, Rat.not_le]; exact q
        simp [signed, q]; omega
      · have : 0 ≤ x.num := by rw [Rat.num_nonneg]; exact Rat.not_lt.mp q
        simp [signed, q]; omega
    rw [this]; rfl
  rw [← h1, ← negate_roundRatio]
  unfold RR
  generalize roundRatio b64 (decide (x < 0)) x.num.natAbs x.den 0 = d
  cases d with
  | nan => simp [negate, rvd]
  | inf s => simp [negate, rvd]
  | fin s c q =>
    show ((signed (!s) c : Int) : Rat) * _ = -(((signed s c : Int) : Rat) * _)
    rw [← Rat.neg_mul]
    congr 1
    cases s <;> simp [signed]
def Rsp (x y : Rat) : Prop := ∃ (m r : Int), y = (m : Rat) * (2 : Rat) ^ r ∧ -1074 ≤ r ∧ m.natAbs ≤ 2 ^ 53 ∧ 2 * x ≤ (2 * (m : Rat) + 1) * (2 : Rat) ^ r ∧ (2 * (m : Rat) - 1) * (2 : Rat) ^ r ≤ 2 * x ∧
    x < 9007199254740992 * (2 : Rat) ^ r ∧ -(9007199254740992 * (2 : Rat) ^ r) < x ∧ (r = -1074 ∨ 4503599627370496 * (2 : Rat) ^ r ≤ x ∨ x ≤ -(4503599627370496 * (2 : Rat) ^ r))
theorem Rsp.neg {x y : Rat} (h : Rsp x y) : Rsp (-x) (-y) := by
  obtain ⟨m, r, h1, h2, h3, h4, h5, h6, h7, h8⟩ := h
  have hu := p2pos r
  refine ⟨-m, r, ?_, h2, by omega, ?_, ?_, ?_, ?_, ?_⟩ <;> (try rw [Rat.intCast_neg]) <;> generalize (2 : Rat) ^ r = u at * <;> grind
theorem big_lt : (1267650600228229401496703205376 : Rat) < (2 : Rat) ^ (1023 : Int) := by
  have h : (2 : Rat) ^ (100 : Int) < (2 : Rat) ^ (1023 : Int) := by
    refine Rat.lt_of_le_of_ne (p2le (by decide)) fun q => ?_
    have h2 : (2 : Rat) ^ (1023 : Int) = (2 : Rat) ^ (100 : Int) * (2 : Rat) ^ (923 : Int) := by rw [← p2add]; rfl
    have h3 : (2 : Rat) ^ (1 : Int) ≤ (2 : Rat) ^ (923 : Int) := p2le (by decide)
    have h4 := p2pos 100
    rw [Rat.zpow_one] at h3
    have h5 := Rat.mul_le_mul_of_nonneg_left h3 (Rat.le_of_lt h4)
    grind
  have e : (2 : Rat) ^ (100 : Int) = 1267650600228229401496703205376 := by decide +kernel
  rw [← e]; exact h
theorem RR_pos {x : Rat} (h0 : 0 < x) (h : x ≤ 1267650600228229401496703205376) : Rsp x (RR x) ∧ ∃ c q, roundRatio b64 (decide (x < 0)) x.num.natAbs x.den 0 = .fin false c q := by
  have hn : 0 < x.num := by
    have : 0 ≤ x.num := by rw [Rat.num_nonneg]; exact Rat.le_of_lt h0
    have : x.num ≠ 0 := fun q => by rw [Rat.num_eq_zero] at q; rw [q] at h0; exact absurd h0 Rat.lt_irrefl
    omega
  have hd : decide (x < 0) = false := by rw [decide_eq_false_iff_not, Rat.not_lt]; exact Rat.le_of_lt h0
  have e1 : ((x.num.natAbs : Nat) : Rat) = (x.num : Rat) := by
    have : ((x.num.natAbs : Nat) : Int) = x.num := by omega
    rw [← Rat.intCast_natCast, this]
  obtain ⟨c, q, hr, m, r, f0, f1, f2, f3, f4, f5, f6⟩ := rr_spec false (A := x.num.natAbs) (B := x.den) 0 (by omega) x.den_pos (x := x) (by rw [Rat.zpow_zero, Rat.mul_one, e1]; exact rat_num x) (Std.lt_of_le_of_lt h big_lt)
  refine ⟨⟨m, r, ?_, f1, by omega, ?_, ?_, ?_, ?_, ?_⟩, c, q, by rw [hd]; exact hr⟩
  · unfold RR
    rw [hd, hr]
    show ((signed false c : Int) : Rat) * _ = _
    rw [← Rat.intCast_natCast] at f0
    exact f0
  all_goals
    have hu := p2pos r
    have e2 : ((m : Int) : Rat) = (m : Rat) := rfl
    rw [e2] at *
    generalize (2 : Rat) ^ r = u at *
    grind
theorem RR_zero : RR 0 = 0 := by
  unfold RR roundRatio
  rw [if_pos (by decide)]
  show ((signed _ 0 : Int) : Rat) * _ = 0
  rw [signed_zero]
  exact Rat.zero_mul _
theorem Rsp.zero : Rsp 0 0 := by
  have hu := p2pos (-1074)
  refine ⟨0, -1074, ?_, by decide, by decide, ?_, ?_, ?_, ?_, Or.inl rfl⟩ <;> generalize (2 : Rat) ^ (-1074 : Int) = u at * <;> (try rw [show ((0 : Int) : Rat) = 0 from rfl]) <;> grind
theorem RR_spec {x : Rat} (h1 : -1267650600228229401496703205376 ≤ x) (h2 : x ≤ 1267650600228229401496703205376) : Rsp x (RR x) := by
  by_cases q : 0 < x
  · exact (RR_pos q h2).1
  · by_cases q2 : x = 0
    · subst q2; rw [RR_zero]; exact Rsp.zero
    · have q3 : 0 < -x := by grind
      have g := (RR_pos q3 (by grind)).1.neg
      rw [RR_neg, Rat.neg_neg, Rat.neg_neg] at g
      exact g
theorem DV.of_rr {v : UInt64} {s : Bool} {A B : Nat} {e : Int} {x : Rat} (hv : val64 v = roundRatio b64 s A B e) (hB : 0 < B) (hx : x * (B : Rat) = ((signed s A : Int) : Rat) * (2 : Rat) ^ e) (h1 : -1267650600228229401496703205376 ≤ x) (h2 : x ≤ 1267650600228229401496703205376) : DV v (RR x) := by
  have hr := rvd_rr hB hx
  by_cases hA : A = 0
  · subst hA
    refine ⟨s, 0, b64.qmin, by rw [hv]; unfold roundRatio; rw [if_pos rfl], ?_⟩
    rw [← hr]; unfold roundRatio; rw [if_pos rfl]
  · obtain ⟨c, q, h, -⟩ := rr_spec s (A := A) (B := B) e (by omega) hB (x := if s then -x else x) (by rw [signed_rat] at hx; cases s <;> simp at hx ⊢ <;> grind) (Std.lt_of_le_of_lt (by cases s <;> simp <;> grind) big_lt)
    exact ⟨s, c, q, by rw [hv, h], by rw [← hr, h]⟩
theorem i2d_RR (n : Int32) : DV (Jvm.FP.i2d n) (RR (n.toInt : Rat)) := by
  have h := n.le_toInt
  have h' := n.toInt_lt
  refine DV.of_rr (s := decide (n.toInt < 0)) (A := n.toInt.natAbs) (B := 1) (e := 0) ?_ (by decide) ?_ ?_ ?_
  · show val64 (i2d n) = _
    rw [val64_i2d]; rfl
  · rw [Rat.zpow_zero, Rat.mul_one, show ((1 : Nat) : Rat) = 1 from rfl, Rat.mul_one]
    congr 1
    by_cases q : n.toInt < 0 <;> simp [signed, q] <;> omega
  · have := Rat.intCast_le_intCast.mpr h; grind
  · have := Rat.intCast_le_intCast.mpr (Int.le_of_lt h'); grind
def Rp (z : Rat) : Prop := ∃ m k : Int, z = (m : Rat) * (2 : Rat) ^ k ∧ m.natAbs ≤ 2 ^ 53 ∧ -1074 ≤ k
theorem abs_le {m : Int} (h : m.natAbs ≤ 2 ^ 53) : -(9007199254740992 : Rat) ≤ (m : Rat) ∧ (m : Rat) ≤ 9007199254740992 := by
  have h1 : (-9007199254740992 : Int) ≤ m ∧ m ≤ 9007199254740992 := by omega
  exact ⟨by have := Rat.intCast_le_intCast.mpr h1.1; simpa using this, by have := Rat.intCast_le_intCast.mpr h1.2; simpa using this⟩
theorem rp_mul {z : Rat} {r : Int} (h : Rp z) : (∃ j : Int, z = (j : Rat) * (2 : Rat) ^ r) ∨ (-1074 < r ∧ z ≤ 4503599627370496 * (2 : Rat) ^ r ∧ -(4503599627370496 * (2 : Rat) ^ r) ≤ z) := by
  obtain ⟨m, k, hz, hm, hk⟩ := h
  by_cases hkr : r ≤ k
  · left
    obtain ⟨i, rfl⟩ : ∃ i : Nat, k = r + i := ⟨(k - r).toNat, by omega⟩
    refine ⟨m * ((2 ^ i : Nat) : Int), ?_⟩
    rw [hz, p2add, p2nat, Rat.intCast_mul, Rat.intCast_natCast]
    generalize (2 : Rat) ^ r = u
    generalize ((2 ^ i : Nat) : Rat) = w
    grind
  · right
    have h1 : (2 : Rat) ^ (k + 1) ≤ (2 : Rat) ^ r := p2le (by omega)
    rw [p2add, Rat.zpow_one] at h1
    obtain ⟨a1, a2⟩ := abs_le hm
    have hu := p2pos k
    have b1 := Rat.mul_le_mul_of_nonneg_right a1 (Rat.le_of_lt hu)
    have b2 := Rat.mul_le_mul_of_nonneg_right a2 (Rat.le_of_lt hu)
    rw [hz]
    refine ⟨by omega, ?_, ?_⟩ <;> generalize (2 : Rat) ^ r = w at * <;> generalize (2 : Rat) ^ k = u at * <;> grind
theorem Rsp.near {x y z : Rat} (h : Rsp x y) (hz : Rp z) (t : Rat) (t1 : x - z ≤ t) (t2 : z - x ≤ t) : x - y ≤ t ∧ y - x ≤ t := by
  obtain ⟨n, r, rfl, h2, h3, h4, h5, h6, h7, h8⟩ := h
  have hu := p2pos r
  -- multiples of the quantum
  have main : ∀ (j : Int) (t : Rat), x - (j : Rat) * (2 : Rat) ^ r ≤ t → (j : Rat) * (2 : Rat) ^ r - x ≤ t → x - (n : Rat) * (2 : Rat) ^ r ≤ t ∧ (n : Rat) * (2 : Rat) ^ r - x ≤ t := by
    intro j t t1 t2
    rcases Int.lt_trichotomy j n with g | g | g
    · have g1 : (j : Rat) + 1 ≤ (n : Rat) := by have := Rat.intCast_le_intCast.mpr (show j + 1 ≤ n by omega); simpa using this
      have g2 := Rat.mul_le_mul_of_nonneg_right g1 (Rat.le_of_lt hu)
      generalize (2 : Rat) ^ r = u at *
      constructor <;> grind
    · subst g; exact ⟨t1, t2⟩
    · have g1 : (n : Rat) + 1 ≤ (j : Rat) := by have := Rat.intCast_le_intCast.mpr (show n + 1 ≤ j by omega); simpa using this
      have g2 := Rat.mul_le_mul_of_nonneg_right g1 (Rat.le_of_lt hu)
      generalize (2 : Rat) ^ r = u at *
      constructor <;> grind
  rcases rp_mul (r := r) hz with ⟨j, rfl⟩ | ⟨g0, g1, g2⟩
  · exact main j t t1 t2
  · rcases h8 with q | q | q
    · omega
    · refine main 4503599627370496 t ?_ ?_ <;> rw [show ((4503599627370496 : Int) : Rat) = 4503599627370496 from rfl] <;> generalize (2 : Rat) ^ r = u at * <;> grind
    · refine main (-4503599627370496) t ?_ ?_ <;> rw [show ((-4503599627370496 : Int) : Rat) = -4503599627370496 from rfl] <;> generalize (2 : Rat) ^ r = u at * <;> grind
theorem Rsp.exact {x y : Rat} (h : Rsp x y) (hx : Rp x) : y = x := by
  have := h.near hx 0 (by grind) (by grind)
  grind
theorem RR_exact {x : Rat} (hx : Rp x) (h1 : -1267650600228229401496703205376 ≤ x) (h2 : x ≤ 1267650600228229401496703205376) : RR x = x := (RR_spec h1 h2).exact hx
theorem Rsp.le {x y z : Rat} (h : Rsp x y) (hz : Rp z) (q : x ≤ z) : y ≤ z := by
  have := h.near hz (z - x) (by grind) (by grind)
  grind
theorem Rsp.ge {x y z : Rat} (h : Rsp x y) (hz : Rp z) (q : z ≤ x) : z ≤ y := by
  have := h.near hz (x - z) (by grind) (by grind)
  grind
theorem Rsp.err {x y : Rat} (h : Rsp x y) (hx : 1 ≤ x * 1267650600228229401496703205376) : 9007199254740992 * (y - x) ≤ x ∧ 9007199254740992 * (x - y) ≤ x := by
  obtain ⟨n, r, rfl, h2, h3, h4, h5, h6, h7, h8⟩ := h
  have hu := p2pos r
  have k : 4503599627370496 * (2 : Rat) ^ r ≤ x := by
    rcases h8 with q | q | q
    · subst q
      have e1 : (2 : Rat) ^ (-1022 : Int) = 4503599627370496 * (2 : Rat) ^ (-1074 : Int) := by
        rw [show (-1022 : Int) = 52 + -1074 from rfl, p2add, show (2 : Rat) ^ (52 : Int) = 4503599627370496 by decide +kernel]
      have e2 : (2 : Rat) ^ (-1022 : Int) ≤ (2 : Rat) ^ (-100 : Int) := p2le (by decide)
      have e3 : (2 : Rat) ^ (-100 : Int) * (2 : Rat) ^ (100 : Int) = 1 := by rw [← p2add]; rfl
      have e4 : (2 : Rat) ^ (100 : Int) = 1267650600228229401496703205376 := by decide +kernel
      rw [e4] at e3
      rw [← e1]
      generalize (2 : Rat) ^ (-1022 : Int) = v at *
      generalize (2 : Rat) ^ (-100 : Int) = w at *
      grind
    · exact q
    · generalize (2 : Rat) ^ r = u at *
      grind
  generalize (2 : Rat) ^ r = u at *
  constructor <;> grind
theorem rp_int {n : Int} (h : n.natAbs ≤ 2 ^ 53) : Rp (n : Rat) := ⟨n, 0, by rw [Rat.zpow_zero, Rat.mul_one], h, by decide⟩
theorem RR_int {n : Int} (h : n.natAbs ≤ 2 ^ 53) : RR (n : Rat) = (n : Rat) := by
  refine RR_exact (rp_int h) ?_ ?_
  · have := Rat.intCast_le_intCast.mpr (show (-9007199254740992 : Int) ≤ n by omega); grind
  · have := Rat.intCast_le_intCast.mpr (show n ≤ (9007199254740992 : Int) by omega); grind
theorem i2d_DV (n : Int32) : DV (Jvm.FP.i2d n) (n.toInt : Rat) := by
  have h := n.le_toInt
  have h' := n.toInt_lt
  have q := i2d_RR n
  rw [RR_int (by omega)] at q
  exact q
end Jvm.OwnFl
namespace Jvm.Pilot.@@N@@
open Jvm Jvm.ClassFile Sem Op Lib Jvm.Free Jvm.Stand Jvm.LawKit Jvm.RoadKit Jvm.OwnKit Bundle Jvm.Pilot.@@N@@.Jvm.D
theorem wd {a0 : Array Value} {Z : State} {d : Jvm.Cond} (hw : ∀ d ∈ tables_1, d.before a0 Z = true) (i : Nat) (h : tables_1[i]? = some d) : d.before a0 Z = true := hw d (List.mem_of_getElem? h)
theorem d1_0 : decode method_2_code 0 = .ok (.iload_n 0, 1) := by decide +kernel
theorem d1_1 : decode method_2_code 1 = .ok (.ifCond .ne 7, 3) := by decide +kernel
theorem d1_4 : decode method_2_code 4 = .ok (.iconst 0, 1) := by decide +kernel
theorem d1_5 : decode method_2_code 5 = .ok (.newarray .double, 2) := by decide +kernel
theorem d1_7 : decode method_2_code 7 = .ok (.areturn, 1) := by decide +kernel
theorem d1_8 : decode method_2_code 8 = .ok (.iload_n 0, 1) := by decide +kernel
theorem d1_9 : decode method_2_code 9 = .ok (.iconst 1, 1) := by decide +kernel
theorem d1_10 : decode method_2_code 10 = .ok (.if_icmp .ne 11, 3) := by decide +kernel
theorem d1_13 : decode method_2_code 13 = .ok (.iconst 1, 1) := by decide +kernel
theorem d1_14 : decode method_2_code 14 = .ok (.newarray .double, 2) := by decide +kernel
theorem d1_16 : decode method_2_code 16 = .ok (.dup, 1) := by decide +kernel
theorem d1_17 : decode method_2_code 17 = .ok (.iconst 0, 1) := by decide +kernel
theorem d1_18 : decode method_2_code 18 = .ok (.dload_n 1, 1) := by decide +kernel
theorem d1_19 : decode method_2_code 19 = .ok (.dastore, 1) := by decide +kernel
theorem d1_20 : decode method_2_code 20 = .ok (.areturn, 1) := by decide +kernel
theorem d1_21 : decode method_2_code 21 = .ok (.iload_n 0, 1) := by decide +kernel
theorem d1_22 : decode method_2_code 22 = .ok (.iconst 2, 1) := by decide +kernel
theorem d1_23 : decode method_2_code 23 = .ok (.if_icmp .ne 15, 3) := by decide +kernel
theorem d1_26 : decode method_2_code 26 = .ok (.iconst 2, 1) := by decide +kernel
theorem d1_27 : decode method_2_code 27 = .ok (.newarray .double, 2) := by decide +kernel
theorem d1_29 : decode method_2_code 29 = .ok (.dup, 1) := by decide +kernel
theorem d1_30 : decode method_2_code 30 = .ok (.iconst 0, 1) := by decide +kernel
theorem d1_31 : decode method_2_code 31 = .ok (.dload_n 1, 1) := by decide +kernel
theorem d1_32 : decode method_2_code 32 = .ok (.dastore, 1) := by decide +kernel
theorem d1_33 : decode method_2_code 33 = .ok (.dup, 1) := by decide +kernel
theorem d1_34 : decode method_2_code 34 = .ok (.iconst 1, 1) := by decide +kernel
theorem d1_35 : decode method_2_code 35 = .ok (.dload_n 3, 1) := by decide +kernel
theorem d1_36 : decode method_2_code 36 = .ok (.dastore, 1) := by decide +kernel
theorem d1_37 : decode method_2_code 37 = .ok (.areturn, 1) := by decide +kernel
theorem d1_38 : decode method_2_code 38 = .ok (.iload_n 0, 1) := by decide +kernel
theorem d1_39 : decode method_2_code 39 = .ok (.iconst 3, 1) := by decide +kernel
theorem d1_40 : decode method_2_code 40 = .ok (.if_icmp .ne 20, 3) := by decide +kernel
theorem d1_43 : decode method_2_code 43 = .ok (.iconst 3, 1) := by decide +kernel
theorem d1_44 : decode method_2_code 44 = .ok (.newarray .double, 2) := by decide +kernel
theorem d1_46 : decode method_2_code 46 = .ok (.dup, 1) := by decide +kernel
theorem d1_47 : decode method_2_code 47 = .ok (.iconst 0, 1) := by decide +kernel
theorem d1_48 : decode method_2_code 48 = .ok (.dload_n 1, 1) := by decide +kernel
theorem d1_49 : decode method_2_code 49 = .ok (.dastore, 1) := by decide +kernel
theorem d1_50 : decode method_2_code 50 = .ok (.dup, 1) := by decide +kernel
theorem d1_51 : decode method_2_code 51 = .ok (.iconst 1, 1) := by decide +kernel
theorem d1_52 : decode method_2_code 52 = .ok (.dload_n 3, 1) := by decide +kernel
theorem d1_53 : decode method_2_code 53 = .ok (.dastore, 1) := by decide +kernel
theorem d1_54 : decode method_2_code 54 = .ok (.dup, 1) := by decide +kernel
theorem d1_55 : decode method_2_code 55 = .ok (.iconst 2, 1) := by decide +kernel
theorem d1_56 : decode method_2_code 56 = .ok (.dload 5, 2) := by decide +kernel
theorem d1_58 : decode method_2_code 58 = .ok (.dastore, 1) := by decide +kernel
theorem d1_59 : decode method_2_code 59 = .ok (.areturn, 1) := by decide +kernel
theorem d1_60 : decode method_2_code 60 = .ok (.iconst 4, 1) := by decide +kernel
theorem d1_61 : decode method_2_code 61 = .ok (.newarray .double, 2) := by decide +kernel
theorem d1_63 : decode method_2_code 63 = .ok (.dup, 1) := by decide +kernel
theorem d1_64 : decode method_2_code 64 = .ok (.iconst 0, 1) := by decide +kernel
theorem d1_65 : decode method_2_code 65 = .ok (.dload_n 1, 1) := by decide +kernel
theorem d1_66 : decode method_2_code 66 = .ok (.dastore, 1) := by decide +kernel
theorem d1_67 : decode method_2_code 67 = .ok (.dup, 1) := by decide +kernel
theorem d1_68 : decode method_2_code 68 = .ok (.iconst 1, 1) := by decide +kernel
theorem d1_69 : decode method_2_code 69 = .ok (.dload_n 3, 1) := by decide +kernel
theorem d1_70 : decode method_2_code 70 = .ok (.dastore, 1) := by decide +kernel
theorem d1_71 : decode method_2_code 71 = .ok (.dup, 1) := by decide +kernel
theorem d1_72 : decode method_2_code 72 = .ok (.iconst 2, 1) := by decide +kernel
theorem d1_73 : decode method_2_code 73 = .ok (.dload 5, 2) := by decide +kernel
theorem d1_75 : decode method_2_code 75 = .ok (.dastore, 1) := by decide +kernel
theorem d1_76 : decode method_2_code 76 = .ok (.dup, 1) := by decide +kernel
theorem d1_77 : decode method_2_code 77 = .ok (.iconst 3, 1) := by decide +kernel
theorem d1_78 : decode method_2_code 78 = .ok (.dload 7, 2) := by decide +kernel
theorem d1_80 : decode method_2_code 80 = .ok (.dastore, 1) := by decide +kernel
theorem d1_81 : decode method_2_code 81 = .ok (.areturn, 1) := by decide +kernel
theorem d2_0 : decode jdk_29_method_70_code 0 = .ok (.lload_n 0, 1) := by decide +kernel
theorem d2_1 : decode jdk_29_method_70_code 1 = .ok (.lload_n 2, 1) := by decide +kernel
theorem d2_2 : decode jdk_29_method_70_code 2 = .ok (.lcmp, 1) := by decide +kernel
theorem d2_3 : decode jdk_29_method_70_code 3 = .ok (.ifCond .gt 7, 3) := by decide +kernel
theorem d2_6 : decode jdk_29_method_70_code 6 = .ok (.lload_n 0, 1) := by decide +kernel
theorem d2_7 : decode jdk_29_method_70_code 7 = .ok (.goto 4, 3) := by decide +kernel
theorem d2_10 : decode jdk_29_method_70_code 10 = .ok (.lload_n 2, 1) := by decide +kernel
theorem d2_11 : decode jdk_29_method_70_code 11 = .ok (.lreturn, 1) := by decide +kernel
theorem d3_0 : decode prog_3_method_2_code 0 = .ok (.lload_n 1, 1) := by decide +kernel
theorem d3_1 : decode prog_3_method_2_code 1 = .ok (.aload_n 0, 1) := by decide +kernel
theorem d3_2 : decode prog_3_method_2_code 2 = .ok (.arraylength, 1) := by decide +kernel
theorem d3_3 : decode prog_3_method_2_code 3 = .ok (.i2l, 1) := by decide +kernel
theorem d3_4 : decode prog_3_method_2_code 4 = .ok (.invokestatic 7, 3) := by decide +kernel
theorem d3_7 : decode prog_3_method_2_code 7 = .ok (.l2i, 1) := by decide +kernel
theorem d3_8 : decode prog_3_method_2_code 8 = .ok (.newarray .int, 2) := by decide +kernel
theorem d3_10 : decode prog_3_method_2_code 10 = .ok (.astore_n 3, 1) := by decide +kernel
theorem d3_11 : decode prog_3_method_2_code 11 = .ok (.iconst 0, 1) := by decide +kernel
theorem d3_12 : decode prog_3_method_2_code 12 = .ok (.istore 4, 2) := by decide +kernel
theorem d3_14 : decode prog_3_method_2_code 14 = .ok (.iconst 0, 1) := by decide +kernel
theorem d3_15 : decode prog_3_method_2_code 15 = .ok (.istore 5, 2) := by decide +kernel
theorem d3_17 : decode prog_3_method_2_code 17 = .ok (.iload 5, 2) := by decide +kernel
theorem d3_19 : decode prog_3_method_2_code 19 = .ok (.aload_n 0, 1) := by decide +kernel
theorem d3_20 : decode prog_3_method_2_code 20 = .ok (.arraylength, 1) := by decide +kernel
theorem d3_21 : decode prog_3_method_2_code 21 = .ok (.if_icmp .ge 91, 3) := by decide +kernel
theorem d3_24 : decode prog_3_method_2_code 24 = .ok (.iload 4, 2) := by decide +kernel
theorem d3_26 : decode prog_3_method_2_code 26 = .ok (.istore 6, 2) := by decide +kernel
theorem d3_28 : decode prog_3_method_2_code 28 = .ok (.iload 6, 2) := by decide +kernel
theorem d3_30 : decode prog_3_method_2_code 30 = .ok (.ifCond .le 25, 3) := by decide +kernel
theorem d3_33 : decode prog_3_method_2_code 33 = .ok (.aload_n 0, 1) := by decide +kernel
theorem d3_34 : decode prog_3_method_2_code 34 = .ok (.iload 5, 2) := by decide +kernel
theorem d3_36 : decode prog_3_method_2_code 36 = .ok (.daload, 1) := by decide +kernel
theorem d3_37 : decode prog_3_method_2_code 37 = .ok (.aload_n 0, 1) := by decide +kernel
theorem d3_38 : decode prog_3_method_2_code 38 = .ok (.aload_n 3, 1) := by decide +kernel
theorem d3_39 : decode prog_3_method_2_code 39 = .ok (.iload 6, 2) := by decide +kernel
theorem d3_41 : decode prog_3_method_2_code 41 = .ok (.iconst 1, 1) := by decide +kernel
theorem d3_42 : decode prog_3_method_2_code 42 = .ok (.isub, 1) := by decide +kernel
theorem d3_43 : decode prog_3_method_2_code 43 = .ok (.iaload, 1) := by decide +kernel
theorem d3_44 : decode prog_3_method_2_code 44 = .ok (.daload, 1) := by decide +kernel
theorem d3_45 : decode prog_3_method_2_code 45 = .ok (.dcmp .l, 1) := by decide +kernel
theorem d3_46 : decode prog_3_method_2_code 46 = .ok (.ifCond .le 9, 3) := by decide +kernel
theorem d3_49 : decode prog_3_method_2_code 49 = .ok (.iinc 6 (-1), 3) := by decide +kernel
theorem d3_52 : decode prog_3_method_2_code 52 = .ok (.goto (-24), 3) := by decide +kernel
theorem d3_55 : decode prog_3_method_2_code 55 = .ok (.iload 6, 2) := by decide +kernel
theorem d3_57 : decode prog_3_method_2_code 57 = .ok (.aload_n 3, 1) := by decide +kernel
theorem d3_58 : decode prog_3_method_2_code 58 = .ok (.arraylength, 1) := by decide +kernel
theorem d3_59 : decode prog_3_method_2_code 59 = .ok (.if_icmp .ge 47, 3) := by decide +kernel
theorem d3_62 : decode prog_3_method_2_code 62 = .ok (.iload 4, 2) := by decide +kernel
theorem d3_64 : decode prog_3_method_2_code 64 = .ok (.aload_n 3, 1) := by decide +kernel
theorem d3_65 : decode prog_3_method_2_code 65 = .ok (.arraylength, 1) := by decide +kernel
theorem d3_66 : decode prog_3_method_2_code 66 = .ok (.iconst 1, 1) := by decide +kernel
theorem d3_67 : decode prog_3_method_2_code 67 = .ok (.isub, 1) := by decide +kernel
theorem d3_68 : decode prog_3_method_2_code 68 = .ok (.invokestatic 13, 3) := by decide +kernel
theorem d3_71 : decode prog_3_method_2_code 71 = .ok (.istore 7, 2) := by decide +kernel
theorem d3_73 : decode prog_3_method_2_code 73 = .ok (.aload_n 3, 1) := by decide +kernel
theorem d3_74 : decode prog_3_method_2_code 74 = .ok (.iload 6, 2) := by decide +kernel
theorem d3_76 : decode prog_3_method_2_code 76 = .ok (.aload_n 3, 1) := by decide +kernel
theorem d3_77 : decode prog_3_method_2_code 77 = .ok (.iload 6, 2) := by decide +kernel
theorem d3_79 : decode prog_3_method_2_code 79 = .ok (.iconst 1, 1) := by decide +kernel
theorem d3_80 : decode prog_3_method_2_code 80 = .ok (.iadd, 1) := by decide +kernel
theorem d3_81 : decode prog_3_method_2_code 81 = .ok (.iload 7, 2) := by decide +kernel
theorem d3_83 : decode prog_3_method_2_code 83 = .ok (.iload 6, 2) := by decide +kernel
theorem d3_85 : decode prog_3_method_2_code 85 = .ok (.isub, 1) := by decide +kernel
theorem d3_86 : decode prog_3_method_2_code 86 = .ok (.invokestatic 16, 3) := by decide +kernel
theorem d3_89 : decode prog_3_method_2_code 89 = .ok (.aload_n 3, 1) := by decide +kernel
theorem d3_90 : decode prog_3_method_2_code 90 = .ok (.iload 6, 2) := by decide +kernel
theorem d3_92 : decode prog_3_method_2_code 92 = .ok (.iload 5, 2) := by decide +kernel
theorem d3_94 : decode prog_3_method_2_code 94 = .ok (.iastore, 1) := by decide +kernel
theorem d3_95 : decode prog_3_method_2_code 95 = .ok (.iload 4, 2) := by decide +kernel
theorem d3_97 : decode prog_3_method_2_code 97 = .ok (.iconst 1, 1) := by decide +kernel
theorem d3_98 : decode prog_3_method_2_code 98 = .ok (.iadd, 1) := by decide +kernel
theorem d3_99 : decode prog_3_method_2_code 99 = .ok (.aload_n 3, 1) := by decide +kernel
theorem d3_100 : decode prog_3_method_2_code 100 = .ok (.arraylength, 1) := by decide +kernel
theorem d3_101 : decode prog_3_method_2_code 101 = .ok (.invokestatic 13, 3) := by decide +kernel
theorem d3_104 : decode prog_3_method_2_code 104 = .ok (.istore 4, 2) := by decide +kernel
theorem d3_106 : decode prog_3_method_2_code 106 = .ok (.iinc 5 1, 3) := by decide +kernel
theorem d3_109 : decode prog_3_method_2_code 109 = .ok (.goto (-92), 3) := by decide +kernel
theorem d3_112 : decode prog_3_method_2_code 112 = .ok (.aload_n 3, 1) := by decide +kernel
theorem d3_113 : decode prog_3_method_2_code 113 = .ok (.areturn, 1) := by decide +kernel
theorem d4_0 : decode jdk_29_method_69_code 0 = .ok (.iload_n 0, 1) := by decide +kernel
theorem d4_1 : decode jdk_29_method_69_code 1 = .ok (.iload_n 1, 1) := by decide +kernel
theorem d4_2 : decode jdk_29_method_69_code 2 = .ok (.if_icmp .gt 7, 3) := by decide +kernel
theorem d4_5 : decode jdk_29_method_69_code 5 = .ok (.iload_n 0, 1) := by decide +kernel
theorem d4_6 : decode jdk_29_method_69_code 6 = .ok (.goto 4, 3) := by decide +kernel
theorem d4_9 : decode jdk_29_method_69_code 9 = .ok (.iload_n 1, 1) := by decide +kernel
theorem d4_10 : decode jdk_29_method_69_code 10 = .ok (.ireturn, 1) := by decide +kernel
theorem d5_0 : decode method_5_code 0 = .ok (.iload_n 2, 1) := by decide +kernel
theorem d5_1 : decode method_5_code 1 = .ok (.aload_n 1, 1) := by decide +kernel
theorem d5_2 : decode method_5_code 2 = .ok (.arraylength, 1) := by decide +kernel
theorem d5_3 : decode method_5_code 3 = .ok (.if_icmp .lt 5, 3) := by decide +kernel
theorem d5_6 : decode method_5_code 6 = .ok (.iconst 1, 1) := by decide +kernel
theorem d5_7 : decode method_5_code 7 = .ok (.ireturn, 1) := by decide +kernel
theorem d5_8 : decode method_5_code 8 = .ok (.aload_n 1, 1) := by decide +kernel
theorem d5_9 : decode method_5_code 9 = .ok (.iload_n 2, 1) := by decide +kernel
theorem d5_10 : decode method_5_code 10 = .ok (.iaload, 1) := by decide +kernel
theorem d5_11 : decode method_5_code 11 = .ok (.istore_n 3, 1) := by decide +kernel
theorem d5_12 : decode method_5_code 12 = .ok (.iload_n 3, 1) := by decide +kernel
theorem d5_13 : decode method_5_code 13 = .ok (.ifCond .lt 9, 3) := by decide +kernel
theorem d5_16 : decode method_5_code 16 = .ok (.iload_n 3, 1) := by decide +kernel
theorem d5_17 : decode method_5_code 17 = .ok (.aload_n 0, 1) := by decide +kernel
theorem d5_18 : decode method_5_code 18 = .ok (.arraylength, 1) := by decide +kernel
theorem d5_19 : decode method_5_code 19 = .ok (.if_icmp .lt 5, 3) := by decide +kernel
theorem d5_24 : decode method_5_code 24 = .ok (.aload_n 0, 1) := by decide +kernel
theorem d5_25 : decode method_5_code 25 = .ok (.iload_n 3, 1) := by decide +kernel
theorem d5_26 : decode method_5_code 26 = .ok (.invokestatic 13, 3) := by decide +kernel
theorem d5_29 : decode method_5_code 29 = .ok (.iload_n 2, 1) := by decide +kernel
theorem d5_30 : decode method_5_code 30 = .ok (.if_icmp .ne 7, 3) := by decide +kernel
theorem d5_33 : decode method_5_code 33 = .ok (.iconst 1, 1) := by decide +kernel
theorem d5_34 : decode method_5_code 34 = .ok (.goto 4, 3) := by decide +kernel
theorem d5_38 : decode method_5_code 38 = .ok (.ireturn, 1) := by decide +kernel
theorem d6_0 : decode method_4_code 0 = .ok (.aload_n 0, 1) := by decide +kernel
theorem d6_1 : decode method_4_code 1 = .ok (.iconst 0, 1) := by decide +kernel
theorem d6_2 : decode method_4_code 2 = .ok (.iload_n 1, 1) := by decide +kernel
theorem d6_3 : decode method_4_code 3 = .ok (.invokestatic 7, 3) := by decide +kernel
theorem d6_6 : decode method_4_code 6 = .ok (.aload_n 0, 1) := by decide +kernel
theorem d6_7 : decode method_4_code 7 = .ok (.iconst 1, 1) := by decide +kernel
theorem d6_8 : decode method_4_code 8 = .ok (.iload_n 1, 1) := by decide +kernel
theorem d6_9 : decode method_4_code 9 = .ok (.invokestatic 7, 3) := by decide +kernel
theorem d6_12 : decode method_4_code 12 = .ok (.iadd, 1) := by decide +kernel
theorem d6_13 : decode method_4_code 13 = .ok (.aload_n 0, 1) := by decide +kernel
theorem d6_14 : decode method_4_code 14 = .ok (.iconst 2, 1) := by decide +kernel
theorem d6_15 : decode method_4_code 15 = .ok (.iload_n 1, 1) := by decide +kernel
theorem d6_16 : decode method_4_code 16 = .ok (.invokestatic 7, 3) := by decide +kernel
theorem d6_19 : decode method_4_code 19 = .ok (.iadd, 1) := by decide +kernel
theorem d6_20 : decode method_4_code 20 = .ok (.aload_n 0, 1) := by decide +kernel
theorem d6_21 : decode method_4_code 21 = .ok (.iconst 3, 1) := by decide +kernel
theorem d6_22 : decode method_4_code 22 = .ok (.iload_n 1, 1) := by decide +kernel
theorem d6_23 : decode method_4_code 23 = .ok (.invokestatic 7, 3) := by decide +kernel
theorem d6_26 : decode method_4_code 26 = .ok (.iadd, 1) := by decide +kernel
theorem d6_27 : decode method_4_code 27 = .ok (.ireturn, 1) := by decide +kernel
theorem d7_0 : decode method_3_code 0 = .ok (.iload_n 1, 1) := by decide +kernel
theorem d7_1 : decode method_3_code 1 = .ok (.aload_n 0, 1) := by decide +kernel
theorem d7_2 : decode method_3_code 2 = .ok (.arraylength, 1) := by decide +kernel
theorem d7_3 : decode method_3_code 3 = .ok (.if_icmp .lt 5, 3) := by decide +kernel
theorem d7_6 : decode method_3_code 6 = .ok (.iconst 0, 1) := by decide +kernel
theorem d7_7 : decode method_3_code 7 = .ok (.ireturn, 1) := by decide +kernel
theorem d7_8 : decode method_3_code 8 = .ok (.aload_n 0, 1) := by decide +kernel
theorem d7_9 : decode method_3_code 9 = .ok (.iload_n 1, 1) := by decide +kernel
theorem d7_10 : decode method_3_code 10 = .ok (.daload, 1) := by decide +kernel
theorem d7_11 : decode method_3_code 11 = .ok (.aload_n 0, 1) := by decide +kernel
theorem d7_12 : decode method_3_code 12 = .ok (.iload_n 2, 1) := by decide +kernel
theorem d7_13 : decode method_3_code 13 = .ok (.daload, 1) := by decide +kernel
theorem d7_14 : decode method_3_code 14 = .ok (.dcmp .l, 1) := by decide +kernel
theorem d7_15 : decode method_3_code 15 = .ok (.ifCond .le 5, 3) := by decide +kernel
theorem d7_18 : decode method_3_code 18 = .ok (.iconst 1, 1) := by decide +kernel
theorem d7_19 : decode method_3_code 19 = .ok (.ireturn, 1) := by decide +kernel
theorem d7_20 : decode method_3_code 20 = .ok (.aload_n 0, 1) := by decide +kernel
theorem d7_21 : decode method_3_code 21 = .ok (.iload_n 1, 1) := by decide +kernel
theorem d7_22 : decode method_3_code 22 = .ok (.daload, 1) := by decide +kernel
theorem d7_23 : decode method_3_code 23 = .ok (.aload_n 0, 1) := by decide +kernel
theorem d7_24 : decode method_3_code 24 = .ok (.iload_n 2, 1) := by decide +kernel
theorem d7_25 : decode method_3_code 25 = .ok (.daload, 1) := by decide +kernel
theorem d7_26 : decode method_3_code 26 = .ok (.dcmp .l, 1) := by decide +kernel
theorem d7_27 : decode method_3_code 27 = .ok (.ifCond .ne 10, 3) := by decide +kernel
theorem d7_30 : decode method_3_code 30 = .ok (.iload_n 1, 1) := by decide +kernel
theorem d7_31 : decode method_3_code 31 = .ok (.iload_n 2, 1) := by decide +kernel
theorem d7_32 : decode method_3_code 32 = .ok (.if_icmp .ge 5, 3) := by decide +kernel
theorem d7_35 : decode method_3_code 35 = .ok (.iconst 1, 1) := by decide +kernel
theorem d7_36 : decode method_3_code 36 = .ok (.ireturn, 1) := by decide +kernel
theorem d7_37 : decode method_3_code 37 = .ok (.iconst 0, 1) := by decide +kernel
theorem d7_38 : decode method_3_code 38 = .ok (.ireturn, 1) := by decide +kernel
theorem pd_0 : parseMethodDescriptor "(JJ)J" = some ⟨[.long, .long], some .long⟩ := by decide +kernel
theorem pd_1 : parseMethodDescriptor "([DII)I" = some ⟨[(.array .double), .int, .int], some .int⟩ := by decide +kernel
theorem pd_2 : parseMethodDescriptor "([DI)I" = some ⟨[(.array .double), .int], some .int⟩ := by decide +kernel
theorem pd_3 : parseMethodDescriptor "(II)I" = some ⟨[.int, .int], some .int⟩ := by decide +kernel
theorem pd_4 : parseMethodDescriptor "(IDDDD)[D" = some ⟨[.int, .double, .double, .double, .double], some (.array .double)⟩ := by decide +kernel
theorem pd_5 : parseMethodDescriptor "([DJ)[I" = some ⟨[(.array .double), .long], some (.array .int)⟩ := by decide +kernel
theorem pd_6 : parseMethodDescriptor "([D[II)Z" = some ⟨[(.array .double), (.array .int), .int], some .boolean⟩ := by decide +kernel
section OwnLaw
open Jvm.OwnFl
def btB (b01 b02 b03 b12 b13 b23 : Bool) (x y : Int32) : Bool :=
  if x = 0 then (if y = 1 then b01 else if y = 2 then b02 else if y = 3 then b03 else false)
  else if x = 1 then (if y = 0 then !b01 else if y = 2 then b12 else if y = 3 then b13 else false)
  else if x = 2 then (if y = 0 then !b02 else if y = 1 then !b12 else if y = 3 then b23 else false)
  else if x = 3 then (if y = 0 then !b03 else if y = 1 then !b13 else if y = 2 then !b23 else false) else false
def trB (b01 b02 b03 b12 b13 b23 : Bool) : Bool := (!(b01 && b12) || b02) && (!(!b01 && !b12) || !b02) && (!(b01 && b13) || b03) && (!(!b01 && !b13) || !b03) && (!(b02 && b23) || b03) && (!(!b02 && !b23) || !b03) && (!(b12 && b23) || b13) && (!(!b12 && !b23) || !b13)
theorem own_tr (k0 k1 k2 k3 : Int) : trB (decide (k1 ≤ k0)) (decide (k2 ≤ k0)) (decide (k3 ≤ k0)) (decide (k2 ≤ k1)) (decide (k3 ≤ k1)) (decide (k3 ≤ k2)) = true := by
  by_cases a : k1 ≤ k0 <;> by_cases b : k2 ≤ k0 <;> by_cases c : k3 ≤ k0 <;> by_cases d : k2 ≤ k1 <;> by_cases e : k3 ≤ k1 <;> by_cases f : k3 ≤ k2 <;> simp only [a, b, c, d, e, f, decide_true, decide_false] <;> first | rfl | (exfalso; omega)
abbrev In1 (j : Int32) : Prop := j = 0
abbrev In2 (j : Int32) : Prop := j = 0 ∨ j = 1
abbrev In3 (j : Int32) : Prop := j = 0 ∨ j = 1 ∨ j = 2
abbrev In4 (j : Int32) : Prop := j = 0 ∨ j = 1 ∨ j = 2 ∨ j = 3
/-- what beats says: 1 or 0 -/
def BtR (al : Int32 → UInt64) (q p r : Int32) : Prop := (FP.dcmp (al q) (al p) = some .gt ∧ r = 1) ∨ (FP.dcmp (al q) (al p) = some .eq ∧ q < p ∧ r = 1) ∨ (FP.dcmp (al q) (al p) = some .eq ∧ ¬ q < p ∧ r = 0) ∨ (FP.dcmp (al q) (al p) = some .lt ∧ r = 0)
def bi (bt : Int32 → Int32 → Bool) (q p : Int32) : Int32 := if bt q p = true then 1 else 0
def rk0 (bt : Int32 → Int32 → Bool) (p : Int32) : Int32 := 0 + 0 + 0 + 0
def rk1 (bt : Int32 → Int32 → Bool) (p : Int32) : Int32 := bi bt 0 p + 0 + 0 + 0
def rk2 (bt : Int32 → Int32 → Bool) (p : Int32) : Int32 := bi bt 0 p + bi bt 1 p + 0 + 0
def rk3 (bt : Int32 → Int32 → Bool) (p : Int32) : Int32 := bi bt 0 p + bi bt 1 p + bi bt 2 p + 0
def rk4 (bt : Int32 → Int32 → Bool) (p : Int32) : Int32 := bi bt 0 p + bi bt 1 p + bi bt 2 p + bi bt 3 p
def rkI (bt : Int32 → Int32 → Bool) (i : Nat) (p : Int32) : Int32 := match i with | 0 => rk0 bt p | 1 => rk1 bt p | 2 => rk2 bt p | 3 => rk3 bt p | _ => rk4 bt p
def tops (bt : Int32 → Int32 → Bool) (i : Nat) : Nat → List Int32 → Bool
  | _, [] => true
  | j, p :: r => decide (0 ≤ p.toInt ∧ p.toInt < (i : Int)) && decide (rkI bt i p = Int32.ofNat j) && tops bt i (j + 1) r
theorem tops_b {bt : Int32 → Int32 → Bool} {i : Nat} : ∀ {l : List Int32} {j : Nat}, tops bt i j l = true → ∀ p ∈ l, 0 ≤ p.toInt ∧ p.toInt < (i : Int)
  | [], _, _, _, hp => nomatch hp
  | q :: r, j, h, p, hp => by
    simp only [tops, Bool.and_eq_true] at h
    rcases List.mem_cons.mp hp with e | e
    · rw [e]; exact of_decide_eq_true h.1.1
    · exact tops_b h.2 p e
theorem tops_r {bt : Int32 → Int32 → Bool} {i : Nat} : ∀ {l : List Int32} {j : Nat}, tops bt i j l = true → ∀ k p, l[k]? = some p → rkI bt i p = Int32.ofNat (j + k)
  | [], _, _, _, _, hp => by simp at hp
  | q :: r, j, h, 0, p, hp => by
    simp only [tops, Bool.and_eq_true] at h
    have e : q = p := by simpa using hp
    rw [← e]; exact of_decide_eq_true h.1.2
  | q :: r, j, h, k + 1, p, hp => by
    simp only [tops, Bool.and_eq_true] at h
    have := tops_r h.2 k p (by simpa using hp)
    rw [this]; congr 1; omega
theorem in4_of {p : Int32} (h : 0 ≤ p.toInt) (g : p.toInt < 4) : In4 p := by
  have e0 : (0 : Int32).toInt = 0 := by decide
  have e1 : (1 : Int32).toInt = 1 := by decide
  have e2 : (2 : Int32).toInt = 2 := by decide
  have e3 : (3 : Int32).toInt = 3 := by decide
  unfold In4
  rw [← Int32.toInt_inj, ← Int32.toInt_inj, ← Int32.toInt_inj, ← Int32.toInt_inj]
  omega
theorem in3_of {p : Int32} (h : 0 ≤ p.toInt) (g : p.toInt < 3) : In3 p := by
  have e0 : (0 : Int32).toInt = 0 := by decide
  have e1 : (1 : Int32).toInt = 1 := by decide
  have e2 : (2 : Int32).toInt = 2 := by decide
  unfold In3
  rw [← Int32.toInt_inj, ← Int32.toInt_inj, ← Int32.toInt_inj]
  omega
theorem in2_of {p : Int32} (h : 0 ≤ p.toInt) (g : p.toInt < 2) : In2 p := by
  have e0 : (0 : Int32).toInt = 0 := by decide
  have e1 : (1 : Int32).toInt = 1 := by decide
  unfold In2
  rw [← Int32.toInt_inj, ← Int32.toInt_inj]
  omega
theorem in1_of {p : Int32} (h : 0 ≤ p.toInt) (g : p.toInt < 1) : In1 p := by
  have e0 : (0 : Int32).toInt = 0 := by decide
  unfold In1
  rw [← Int32.toInt_inj]
  omega
theorem fin_of {p : Int32} (h : In4 p) : ∃ f : Fin 4, p = Int32.ofNat f.val := by
  rcases h with rfl | rfl | rfl | rfl
  · exact ⟨0, rfl⟩
  · exact ⟨1, rfl⟩
  · exact ⟨2, rfl⟩
  · exact ⟨3, rfl⟩
theorem nn_of {p : Int32} (h : 0 ≤ p.toInt) : ¬ p < 0 := fun g => by
  have := Int32.lt_iff_toInt_lt.mp g
  have e0 : (0 : Int32).toInt = 0 := by decide
  omega
theorem al_at1 {al : Int32 → UInt64} {p : Int32} (h : In1 p) : ([(.double (al (0 : Int32)))] : List Value)[p.toNatClampNeg]? = some (.double (al p)) := by
  rcases h with rfl <;> rfl
theorem al_at2 {al : Int32 → UInt64} {p : Int32} (h : In2 p) : ([(.double (al (0 : Int32))), (.double (al (1 : Int32)))] : List Value)[p.toNatClampNeg]? = some (.double (al p)) := by
  rcases h with rfl | rfl <;> rfl
theorem al_at3 {al : Int32 → UInt64} {p : Int32} (h : In3 p) : ([(.double (al (0 : Int32))), (.double (al (1 : Int32))), (.double (al (2 : Int32)))] : List Value)[p.toNatClampNeg]? = some (.double (al p)) := by
  rcases h with rfl | rfl | rfl <;> rfl
theorem al_at4 {al : Int32 → UInt64} {p : Int32} (h : In4 p) : ([(.double (al (0 : Int32))), (.double (al (1 : Int32))), (.double (al (2 : Int32))), (.double (al (3 : Int32)))] : List Value)[p.toNatClampNeg]? = some (.double (al p)) := by
  rcases h with rfl | rfl | rfl | rfl <;> rfl
theorem bt_lt {al : Int32 → UInt64} {x y : Int32} {i j : Int} (hx : DV (al x) (i : Rat)) (hy : DV (al y) (j : Rat)) (h : x < y) : BtR al x y (if decide (j ≤ i) = true then 1 else 0) := by
  by_cases g : j ≤ i
  · rw [if_pos (decide_eq_true g)]
    by_cases e : i = j
    · exact Or.inr (Or.inl ⟨dcmp_eq hx hy (by rw [e]), h, rfl⟩)
    · exact Or.inl ⟨dcmp_gt hx hy (Rat.intCast_lt_intCast.mpr (by omega)), rfl⟩
  · rw [if_neg (fun q => g (of_decide_eq_true q))]
    exact Or.inr (Or.inr (Or.inr ⟨dcmp_lt hx hy (Rat.intCast_lt_intCast.mpr (by omega)), rfl⟩))
theorem bt_gt {al : Int32 → UInt64} {x y : Int32} {i j : Int} (hx : DV (al x) (i : Rat)) (hy : DV (al y) (j : Rat)) (h : ¬ x < y) : BtR al x y (if (!decide (i ≤ j)) = true then 1 else 0) := by
  by_cases g : i ≤ j
  · rw [decide_eq_true g, if_neg (by decide)]
    by_cases e : i = j
    · exact Or.inr (Or.inr (Or.inl ⟨dcmp_eq hx hy (by rw [e]), h, rfl⟩))
    · exact Or.inr (Or.inr (Or.inr ⟨dcmp_lt hx hy (Rat.intCast_lt_intCast.mpr (by omega)), rfl⟩))
  · rw [decide_eq_false g, if_pos (by decide)]
    exact Or.inl ⟨dcmp_gt hx hy (Rat.intCast_lt_intCast.mpr (by omega)), rfl⟩
theorem bt_eq {al : Int32 → UInt64} {x : Int32} {i : Int} (hx : DV (al x) (i : Rat)) (h : ¬ x < x) : BtR al x x (if false = true then 1 else 0) := Or.inr (Or.inr (Or.inl ⟨dcmp_eq hx hx rfl, h, rfl⟩))
theorem own_bt {al : Int32 → UInt64} {k0 k1 k2 k3 : Int} (D0 : DV (al 0) (k0 : Rat)) (D1 : DV (al 1) (k1 : Rat)) (D2 : DV (al 2) (k2 : Rat)) (D3 : DV (al 3) (k3 : Rat)) (x y : Int32) (hx : In4 x) (hy : In4 y) : BtR al x y (bi (btB (decide (k1 ≤ k0)) (decide (k2 ≤ k0)) (decide (k3 ≤ k0)) (decide (k2 ≤ k1)) (decide (k3 ≤ k1)) (decide (k3 ≤ k2))) x y) := by
  rcases hx with rfl | rfl | rfl | rfl <;> rcases hy with rfl | rfl | rfl | rfl
  · exact bt_eq D0 (by decide)
  · exact bt_lt D0 D1 (by decide)
  · exact bt_lt D0 D2 (by decide)
  · exact bt_lt D0 D3 (by decide)
  · exact bt_gt D1 D0 (by decide)
  · exact bt_eq D1 (by decide)
  · exact bt_lt D1 D2 (by decide)
  · exact bt_lt D1 D3 (by decide)
  · exact bt_gt D2 D0 (by decide)
  · exact bt_gt D2 D1 (by decide)
  · exact bt_eq D2 (by decide)
  · exact bt_lt D2 D3 (by decide)
  · exact bt_gt D3 D0 (by decide)
  · exact bt_gt D3 D1 (by decide)
  · exact bt_gt D3 D2 (by decide)
  · exact bt_eq D3 (by decide)
theorem gt_yes {al : Int32 → UInt64} {bt : Int32 → Int32 → Bool} {x y : Int32} (h : BtR al x y (bi bt x y)) (hl : ¬ x < y) (g : bt x y = true) : FP.dcmp (al x) (al y) = some .gt := by
  unfold bi at h
  rw [if_pos g] at h
  rcases h with ⟨a, -⟩ | ⟨-, b, -⟩ | ⟨-, -, b⟩ | ⟨-, b⟩
  · exact a
  · exact absurd b hl
  · exact absurd b (by decide)
  · exact absurd b (by decide)
theorem gt_no {al : Int32 → UInt64} {bt : Int32 → Int32 → Bool} {x y : Int32} (h : BtR al x y (bi bt x y)) (g : ¬ bt x y = true) : FP.dcmp (al x) (al y) = some .lt ∨ FP.dcmp (al x) (al y) = some .eq := by
  unfold bi at h
  rw [if_neg g] at h
  rcases h with ⟨-, b⟩ | ⟨-, -, b⟩ | ⟨a, -, -⟩ | ⟨a, -⟩
  · exact absurd b (by decide)
  · exact absurd b (by decide)
  · exact Or.inr a
  · exact Or.inl a
theorem own_min (x y : Int64) : ∃ r : Int64, ((¬ y < x ∧ r = x) ∨ (y < x ∧ r = y)) ∧ r.toInt = min x.toInt y.toInt := by
  by_cases g : y < x
  · exact ⟨y, Or.inr ⟨g, rfl⟩, (Int.min_eq_right (Int.le_of_lt (Int64.lt_iff_toInt_lt.mp g))).symm⟩
  · exact ⟨x, Or.inl ⟨g, rfl⟩, (Int.min_eq_left (Int.not_lt.mp fun q => g (Int64.lt_iff_toInt_lt.mpr q))).symm⟩
theorem own_rem5 (x : Int32) (h : 0 ≤ x.toInt) : 0 ≤ (x % 5).toInt ∧ (x % 5).toInt ≤ 4 := by
  rw [Int32.toInt_mod, show (5 : Int32).toInt = 5 by decide]
  have a := Int.tmod_lt_of_pos x.toInt (show (0 : Int) < 5 by decide)
  have b := Int.tmod_nonneg (5 : Int) h
  omega
theorem own_big (x : Int64) : 0 ≤ (x &&& 9223372036854775807).toInt := by
  rw [c_maskL x 9223372036854775807 63 (by decide) (by decide)]
  have : (0 : Int) < ((2 ^ 63 : Nat) : Int) := by decide
  exact Int.emod_nonneg _ (by omega)
set_option maxRecDepth 65536 in
theorem st_0_0_0_0_f : ∀ (b01 b02 b03 b12 b13 b23 : Bool), (trB b01 b02 b03 b12 b13 b23 && tops (btB b01 b02 b03 b12 b13 b23) 0 0 []) = true → tops (btB b01 b02 b03 b12 b13 b23) 1 0 [] = true := by decide +kernel
theorem st_0_0_0_0 (b01 b02 b03 b12 b13 b23 : Bool) (TR : trB b01 b02 b03 b12 b13 b23 = true) (HT : tops (btB b01 b02 b03 b12 b13 b23) 0 0 [] = true)  : tops (btB b01 b02 b03 b12 b13 b23) 1 0 [] = true := by
  exact st_0_0_0_0_f b01 b02 b03 b12 b13 b23  (by rw [TR, HT]; rfl)
set_option maxRecDepth 65536 in
theorem st_0_0_1_0_f : ∀ (b01 b02 b03 b12 b13 b23 : Bool), (trB b01 b02 b03 b12 b13 b23 && tops (btB b01 b02 b03 b12 b13 b23) 0 0 []) = true → tops (btB b01 b02 b03 b12 b13 b23) 1 0 [(0 : Int32)] = true := by decide +kernel
theorem st_0_0_1_0 (b01 b02 b03 b12 b13 b23 : Bool) (TR : trB b01 b02 b03 b12 b13 b23 = true) (HT : tops (btB b01 b02 b03 b12 b13 b23) 0 0 [] = true)  : tops (btB b01 b02 b03 b12 b13 b23) 1 0 [(0 : Int32)] = true := by
  exact st_0_0_1_0_f b01 b02 b03 b12 b13 b23  (by rw [TR, HT]; rfl)
set_option maxRecDepth 65536 in
theorem st_1_0_0_0_f : ∀ (b01 b02 b03 b12 b13 b23 : Bool), (trB b01 b02 b03 b12 b13 b23 && tops (btB b01 b02 b03 b12 b13 b23) 1 0 []) = true → tops (btB b01 b02 b03 b12 b13 b23) 2 0 [] = true := by decide +kernel
theorem st_1_0_0_0 (b01 b02 b03 b12 b13 b23 : Bool) (TR : trB b01 b02 b03 b12 b13 b23 = true) (HT : tops (btB b01 b02 b03 b12 b13 b23) 1 0 [] = true)  : tops (btB b01 b02 b03 b12 b13 b23) 2 0 [] = true := by
  exact st_1_0_0_0_f b01 b02 b03 b12 b13 b23  (by rw [TR, HT]; rfl)
set_option maxRecDepth 65536 in
theorem st_1_1_1_0_f : ∀ (b01 b02 b03 b12 b13 b23 : Bool) (f0 : Fin 4), (trB b01 b02 b03 b12 b13 b23 && tops (btB b01 b02 b03 b12 b13 b23) 1 0 [(Int32.ofNat f0.val)] && ((btB b01 b02 b03 b12 b13 b23) (1 : Int32) (Int32.ofNat f0.val))) = true → tops (btB b01 b02 b03 b12 b13 b23) 2 0 [(1 : Int32)] = true := by decide +kernel
theorem st_1_1_1_0 (b01 b02 b03 b12 b13 b23 : Bool) (p0 : Int32) (TR : trB b01 b02 b03 b12 b13 b23 = true) (HT : tops (btB b01 b02 b03 b12 b13 b23) 1 0 [p0] = true) (c0 : (btB b01 b02 b03 b12 b13 b23) (1 : Int32) p0 = true) : tops (btB b01 b02 b03 b12 b13 b23) 2 0 [(1 : Int32)] = true := by
  obtain ⟨f0, rfl⟩ := fin_of (let q := tops_b HT p0 (by simp); in4_of q.1 (by omega))
  exact st_1_1_1_0_f b01 b02 b03 b12 b13 b23 f0 (by rw [TR, HT, c0]; rfl)
set_option maxRecDepth 65536 in
theorem st_1_1_1_1_f : ∀ (b01 b02 b03 b12 b13 b23 : Bool) (f0 : Fin 4), (trB b01 b02 b03 b12 b13 b23 && tops (btB b01 b02 b03 b12 b13 b23) 1 0 [(Int32.ofNat f0.val)] && !((btB b01 b02 b03 b12 b13 b23) (1 : Int32) (Int32.ofNat f0.val))) = true → tops (btB b01 b02 b03 b12 b13 b23) 2 0 [(Int32.ofNat f0.val)] = true := by decide +kernel
theorem st_1_1_1_1 (b01 b02 b03 b12 b13 b23 : Bool) (p0 : Int32) (TR : trB b01 b02 b03 b12 b13 b23 = true) (HT : tops (btB b01 b02 b03 b12 b13 b23) 1 0 [p0] = true) (c0 : ¬ (btB b01 b02 b03 b12 b13 b23) (1 : Int32) p0 = true) : tops (btB b01 b02 b03 b12 b13 b23) 2 0 [p0] = true := by
  obtain ⟨f0, rfl⟩ := fin_of (let q := tops_b HT p0 (by simp); in4_of q.1 (by omega))
  exact st_1_1_1_1_f b01 b02 b03 b12 b13 b23 f0 (by rw [TR, HT, Bool.eq_false_iff.mpr c0]; rfl)
set_option maxRecDepth 65536 in
theorem st_1_1_2_0_f : ∀ (b01 b02 b03 b12 b13 b23 : Bool) (f0 : Fin 4), (trB b01 b02 b03 b12 b13 b23 && tops (btB b01 b02 b03 b12 b13 b23) 1 0 [(Int32.ofNat f0.val)] && ((btB b01 b02 b03 b12 b13 b23) (1 : Int32) (Int32.ofNat f0.val))) = true → tops (btB b01 b02 b03 b12 b13 b23) 2 0 [(1 : Int32), (Int32.ofNat f0.val)] = true := by decide +kernel
theorem st_1_1_2_0 (b01 b02 b03 b12 b13 b23 : Bool) (p0 : Int32) (TR : trB b01 b02 b03 b12 b13 b23 = true) (HT : tops (btB b01 b02 b03 b12 b13 b23) 1 0 [p0] = true) (c0 : (btB b01 b02 b03 b12 b13 b23) (1 : Int32) p0 = true) : tops (btB b01 b02 b03 b12 b13 b23) 2 0 [(1 : Int32), p0] = true := by
  obtain ⟨f0, rfl⟩ := fin_of (let q := tops_b HT p0 (by simp); in4_of q.1 (by omega))
  exact st_1_1_2_0_f b01 b02 b03 b12 b13 b23 f0 (by rw [TR, HT, c0]; rfl)
set_option maxRecDepth 65536 in
theorem st_1_1_2_1_f : ∀ (b01 b02 b03 b12 b13 b23 : Bool) (f0 : Fin 4), (trB b01 b02 b03 b12 b13 b23 && tops (btB b01 b02 b03 b12 b13 b23) 1 0 [(Int32.ofNat f0.val)] && !((btB b01 b02 b03 b12 b13 b23) (1 : Int32) (Int32.ofNat f0.val))) = true → tops (btB b01 b02 b03 b12 b13 b23) 2 0 [(Int32.ofNat f0.val), (1 : Int32)] = true := by decide +kernel
theorem st_1_1_2_1 (b01 b02 b03 b12 b13 b23 : Bool) (p0 : Int32) (TR : trB b01 b02 b03 b12 b13 b23 = true) (HT : tops (btB b01 b02 b03 b12 b13 b23) 1 0 [p0] = true) (c0 : ¬ (btB b01 b02 b03 b12 b13 b23) (1 : Int32) p0 = true) : tops (btB b01 b02 b03 b12 b13 b23) 2 0 [p0, (1 : Int32)] = true := by
  obtain ⟨f0, rfl⟩ := fin_of (let q := tops_b HT p0 (by simp); in4_of q.1 (by omega))
  exact st_1_1_2_1_f b01 b02 b03 b12 b13 b23 f0 (by rw [TR, HT, Bool.eq_false_iff.mpr c0]; rfl)
set_option maxRecDepth 65536 in
theorem st_0_0_2_0_f : ∀ (b01 b02 b03 b12 b13 b23 : Bool), (trB b01 b02 b03 b12 b13 b23 && tops (btB b01 b02 b03 b12 b13 b23) 0 0 []) = true → tops (btB b01 b02 b03 b12 b13 b23) 1 0 [(0 : Int32)] = true := by decide +kernel
theorem st_0_0_2_0 (b01 b02 b03 b12 b13 b23 : Bool) (TR : trB b01 b02 b03 b12 b13 b23 = true) (HT : tops (btB b01 b02 b03 b12 b13 b23) 0 0 [] = true)  : tops (btB b01 b02 b03 b12 b13 b23) 1 0 [(0 : Int32)] = true := by
  exact st_0_0_2_0_f b01 b02 b03 b12 b13 b23  (by rw [TR, HT]; rfl)
set_option maxRecDepth 65536 in
theorem st_2_0_0_0_f : ∀ (b01 b02 b03 b12 b13 b23 : Bool), (trB b01 b02 b03 b12 b13 b23 && tops (btB b01 b02 b03 b12 b13 b23) 2 0 []) = true → tops (btB b01 b02 b03 b12 b13 b23) 3 0 [] = true := by decide +kernel
theorem st_2_0_0_0 (b01 b02 b03 b12 b13 b23 : Bool) (TR : trB b01 b02 b03 b12 b13 b23 = true) (HT : tops (btB b01 b02 b03 b12 b13 b23) 2 0 [] = true)  : tops (btB b01 b02 b03 b12 b13 b23) 3 0 [] = true := by
  exact st_2_0_0_0_f b01 b02 b03 b12 b13 b23  (by rw [TR, HT]; rfl)
set_option maxRecDepth 65536 in
theorem st_2_1_1_0_f : ∀ (b01 b02 b03 b12 b13 b23 : Bool) (f0 : Fin 4), (trB b01 b02 b03 b12 b13 b23 && tops (btB b01 b02 b03 b12 b13 b23) 2 0 [(Int32.ofNat f0.val)] && ((btB b01 b02 b03 b12 b13 b23) (2 : Int32) (Int32.ofNat f0.val))) = true → tops (btB b01 b02 b03 b12 b13 b23) 3 0 [(2 : Int32)] = true := by decide +kernel
theorem st_2_1_1_0 (b01 b02 b03 b12 b13 b23 : Bool) (p0 : Int32) (TR : trB b01 b02 b03 b12 b13 b23 = true) (HT : tops (btB b01 b02 b03 b12 b13 b23) 2 0 [p0] = true) (c0 : (btB b01 b02 b03 b12 b13 b23) (2 : Int32) p0 = true) : tops (btB b01 b02 b03 b12 b13 b23) 3 0 [(2 : Int32)] = true := by
  obtain ⟨f0, rfl⟩ := fin_of (let q := tops_b HT p0 (by simp); in4_of q.1 (by omega))
  exact st_2_1_1_0_f b01 b02 b03 b12 b13 b23 f0 (by rw [TR, HT, c0]; rfl)
set_option maxRecDepth 65536 in
theorem st_2_1_1_1_f : ∀ (b01 b02 b03 b12 b13 b23 : Bool) (f0 : Fin 4), (trB b01 b02 b03 b12 b13 b23 && tops (btB b01 b02 b03 b12 b13 b23) 2 0 [(Int32.ofNat f0.val)] && !((btB b01 b02 b03 b12 b13 b23) (2 : Int32) (Int32.ofNat f0.val))) = true → tops (btB b01 b02 b03 b12 b13 b23) 3 0 [(Int32.ofNat f0.val)] = true := by decide +kernel
theorem st_2_1_1_1 (b01 b02 b03 b12 b13 b23 : Bool) (p0 : Int32) (TR : trB b01 b02 b03 b12 b13 b23 = true) (HT : tops (btB b01 b02 b03 b12 b13 b23) 2 0 [p0] = true) (c0 : ¬ (btB b01 b02 b03 b12 b13 b23) (2 : Int32) p0 = true) : tops (btB b01 b02 b03 b12 b13 b23) 3 0 [p0] = true := by
  obtain ⟨f0, rfl⟩ := fin_of (let q := tops_b HT p0 (by simp); in4_of q.1 (by omega))
  exact st_2_1_1_1_f b01 b02 b03 b12 b13 b23 f0 (by rw [TR, HT, Bool.eq_false_iff.mpr c0]; rfl)
set_option maxRecDepth 65536 in
theorem st_2_2_2_0_f : ∀ (b01 b02 b03 b12 b13 b23 : Bool) (f0 f1 : Fin 4), (trB b01 b02 b03 b12 b13 b23 && tops (btB b01 b02 b03 b12 b13 b23) 2 0 [(Int32.ofNat f0.val), (Int32.ofNat f1.val)] && ((btB b01 b02 b03 b12 b13 b23) (2 : Int32) (Int32.ofNat f1.val)) && ((btB b01 b02 b03 b12 b13 b23) (2 : Int32) (Int32.ofNat f0.val))) = true → tops (btB b01 b02 b03 b12 b13 b23) 3 0 [(2 : Int32), (Int32.ofNat f0.val)] = true := by decide +kernel
theorem st_2_2_2_0 (b01 b02 b03 b12 b13 b23 : Bool) (p0 p1 : Int32) (TR : trB b01 b02 b03 b12 b13 b23 = true) (HT : tops (btB b01 b02 b03 b12 b13 b23) 2 0 [p0, p1] = true) (c1 : (btB b01 b02 b03 b12 b13 b23) (2 : Int32) p1 = true) (c0 : (btB b01 b02 b03 b12 b13 b23) (2 : Int32) p0 = true) : tops (btB b01 b02 b03 b12 b13 b23) 3 0 [(2 : Int32), p0] = true := by
  obtain ⟨f0, rfl⟩ := fin_of (let q := tops_b HT p0 (by simp); in4_of q.1 (by omega))
  obtain ⟨f1, rfl⟩ := fin_of (let q := tops_b HT p1 (by simp); in4_of q.1 (by omega))
  exact st_2_2_2_0_f b01 b02 b03 b12 b13 b23 f0 f1 (by rw [TR, HT, c1, c0]; rfl)
set_option maxRecDepth 65536 in
theorem st_2_2_2_1_f : ∀ (b01 b02 b03 b12 b13 b23 : Bool) (f0 f1 : Fin 4), (trB b01 b02 b03 b12 b13 b23 && tops (btB b01 b02 b03 b12 b13 b23) 2 0 [(Int32.ofNat f0.val), (Int32.ofNat f1.val)] && ((btB b01 b02 b03 b12 b13 b23) (2 : Int32) (Int32.ofNat f1.val)) && !((btB b01 b02 b03 b12 b13 b23) (2 : Int32) (Int32.ofNat f0.val))) = true → tops (btB b01 b02 b03 b12 b13 b23) 3 0 [(Int32.ofNat f0.val), (2 : Int32)] = true := by decide +kernel
theorem st_2_2_2_1 (b01 b02 b03 b12 b13 b23 : Bool) (p0 p1 : Int32) (TR : trB b01 b02 b03 b12 b13 b23 = true) (HT : tops (btB b01 b02 b03 b12 b13 b23) 2 0 [p0, p1] = true) (c1 : (btB b01 b02 b03 b12 b13 b23) (2 : Int32) p1 = true) (c0 : ¬ (btB b01 b02 b03 b12 b13 b23) (2 : Int32) p0 = true) : tops (btB b01 b02 b03 b12 b13 b23) 3 0 [p0, (2 : Int32)] = true := by
  obtain ⟨f0, rfl⟩ := fin_of (let q := tops_b HT p0 (by simp); in4_of q.1 (by omega))
  obtain ⟨f1, rfl⟩ := fin_of (let q := tops_b HT p1 (by simp); in4_of q.1 (by omega))
  exact st_2_2_2_1_f b01 b02 b03 b12 b13 b23 f0 f1 (by rw [TR, HT, c1, Bool.eq_false_iff.mpr c0]; rfl)
set_option maxRecDepth 65536 in
theorem st_2_2_2_2_f : ∀ (b01 b02 b03 b12 b13 b23 : Bool) (f0 f1 : Fin 4), (trB b01 b02 b03 b12 b13 b23 && tops (btB b01 b02 b03 b12 b13 b23) 2 0 [(Int32.ofNat f0.val), (Int32.ofNat f1.val)] && !((btB b01 b02 b03 b12 b13 b23) (2 : Int32) (Int32.ofNat f1.val))) = true → tops (btB b01 b02 b03 b12 b13 b23) 3 0 [(Int32.ofNat f0.val), (Int32.ofNat f1.val)] = true := by decide +kernel
theorem st_2_2_2_2 (b01 b02 b03 b12 b13 b23 : Bool) (p0 p1 : Int32) (TR : trB b01 b02 b03 b12 b13 b23 = true) (HT : tops (btB b01 b02 b03 b12 b13 b23) 2 0 [p0, p1] = true) (c1 : ¬ (btB b01 b02 b03 b12 b13 b23) (2 : Int32) p1 = true) : tops (btB b01 b02 b03 b12 b13 b23) 3 0 [p0, p1] = true := by
  obtain ⟨f0, rfl⟩ := fin_of (let q := tops_b HT p0 (by simp); in4_of q.1 (by omega))
  obtain ⟨f1, rfl⟩ := fin_of (let q := tops_b HT p1 (by simp); in4_of q.1 (by omega))
  exact st_2_2_2_2_f b01 b02 b03 b12 b13 b23 f0 f1 (by rw [TR, HT, Bool.eq_false_iff.mpr c1]; rfl)
set_option maxRecDepth 65536 in
theorem st_2_2_3_0_f : ∀ (b01 b02 b03 b12 b13 b23 : Bool) (f0 f1 : Fin 4), (trB b01 b02 b03 b12 b13 b23 && tops (btB b01 b02 b03 b12 b13 b23) 2 0 [(Int32.ofNat f0.val), (Int32.ofNat f1.val)] && ((btB b01 b02 b03 b12 b13 b23) (2 : Int32) (Int32.ofNat f1.val)) && ((btB b01 b02 b03 b12 b13 b23) (2 : Int32) (Int32.ofNat f0.val))) = true → tops (btB b01 b02 b03 b12 b13 b23) 3 0 [(2 : Int32), (Int32.ofNat f0.val), (Int32.ofNat f1.val)] = true := by decide +kernel
theorem st_2_2_3_0 (b01 b02 b03 b12 b13 b23 : Bool) (p0 p1 : Int32) (TR : trB b01 b02 b03 b12 b13 b23 = true) (HT : tops (btB b01 b02 b03 b12 b13 b23) 2 0 [p0, p1] = true) (c1 : (btB b01 b02 b03 b12 b13 b23) (2 : Int32) p1 = true) (c0 : (btB b01 b02 b03 b12 b13 b23) (2 : Int32) p0 = true) : tops (btB b01 b02 b03 b12 b13 b23) 3 0 [(2 : Int32), p0, p1] = true := by
  obtain ⟨f0, rfl⟩ := fin_of (let q := tops_b HT p0 (by simp); in4_of q.1 (by omega))
  obtain ⟨f1, rfl⟩ := fin_of (let q := tops_b HT p1 (by simp); in4_of q.1 (by omega))
  exact st_2_2_3_0_f b01 b02 b03 b12 b13 b23 f0 f1 (by rw [TR, HT, c1, c0]; rfl)
set_option maxRecDepth 65536 in
theorem st_2_2_3_1_f : ∀ (b01 b02 b03 b12 b13 b23 : Bool) (f0 f1 : Fin 4), (trB b01 b02 b03 b12 b13 b23 && tops (btB b01 b02 b03 b12 b13 b23) 2 0 [(Int32.ofNat f0.val), (Int32.ofNat f1.val)] && ((btB b01 b02 b03 b12 b13 b23) (2 : Int32) (Int32.ofNat f1.val)) && !((btB b01 b02 b03 b12 b13 b23) (2 : Int32) (Int32.ofNat f0.val))) = true → tops (btB b01 b02 b03 b12 b13 b23) 3 0 [(Int32.ofNat f0.val), (2 : Int32), (Int32.ofNat f1.val)] = true := by decide +kernel
theorem st_2_2_3_1 (b01 b02 b03 b12 b13 b23 : Bool) (p0 p1 : Int32) (TR : trB b01 b02 b03 b12 b13 b23 = true) (HT : tops (btB b01 b02 b03 b12 b13 b23) 2 0 [p0, p1] = true) (c1 : (btB b01 b02 b03 b12 b13 b23) (2 : Int32) p1 = true) (c0 : ¬ (btB b01 b02 b03 b12 b13 b23) (2 : Int32) p0 = true) : tops (btB b01 b02 b03 b12 b13 b23) 3 0 [p0, (2 : Int32), p1] = true := by
  obtain ⟨f0, rfl⟩ := fin_of (let q := tops_b HT p0 (by simp); in4_of q.1 (by omega))
  obtain ⟨f1, rfl⟩ := fin_of (let q := tops_b HT p1 (by simp); in4_of q.1 (by omega))
  exact st_2_2_3_1_f b01 b02 b03 b12 b13 b23 f0 f1 (by rw [TR, HT, c1, Bool.eq_false_iff.mpr c0]; rfl)
set_option maxRecDepth 65536 in
theorem st_2_2_3_2_f : ∀ (b01 b02 b03 b12 b13 b23 : Bool) (f0 f1 : Fin 4), (trB b01 b02 b03 b12 b13 b23 && tops (btB b01 b02 b03 b12 b13 b23) 2 0 [(Int32.ofNat f0.val), (Int32.ofNat f1.val)] && !((btB b01 b02 b03 b12 b13 b23) (2 : Int32) (Int32.ofNat f1.val))) = true → tops (btB b01 b02 b03 b12 b13 b23) 3 0 [(Int32.ofNat f0.val), (Int32.ofNat f1.val), (2 : Int32)] = true := by decide +kernel
theorem st_2_2_3_2 (b01 b02 b03 b12 b13 b23 : Bool) (p0 p1 : Int32) (TR : trB b01 b02 b03 b12 b13 b23 = true) (HT : tops (btB b01 b02 b03 b12 b13 b23) 2 0 [p0, p1] = true) (c1 : ¬ (btB b01 b02 b03 b12 b13 b23) (2 : Int32) p1 = true) : tops (btB b01 b02 b03 b12 b13 b23) 3 0 [p0, p1, (2 : Int32)] = true := by
  obtain ⟨f0, rfl⟩ := fin_of (let q := tops_b HT p0 (by simp); in4_of q.1 (by omega))
  obtain ⟨f1, rfl⟩ := fin_of (let q := tops_b HT p1 (by simp); in4_of q.1 (by omega))
  exact st_2_2_3_2_f b01 b02 b03 b12 b13 b23 f0 f1 (by rw [TR, HT, Bool.eq_false_iff.mpr c1]; rfl)
set_option maxRecDepth 65536 in
theorem st_1_1_3_0_f : ∀ (b01 b02 b03 b12 b13 b23 : Bool) (f0 : Fin 4), (trB b01 b02 b03 b12 b13 b23 && tops (btB b01 b02 b03 b12 b13 b23) 1 0 [(Int32.ofNat f0.val)] && ((btB b01 b02 b03 b12 b13 b23) (1 : Int32) (Int32.ofNat f0.val))) = true → tops (btB b01 b02 b03 b12 b13 b23) 2 0 [(1 : Int32), (Int32.ofNat f0.val)] = true := by decide +kernel
theorem st_1_1_3_0 (b01 b02 b03 b12 b13 b23 : Bool) (p0 : Int32) (TR : trB b01 b02 b03 b12 b13 b23 = true) (HT : tops (btB b01 b02 b03 b12 b13 b23) 1 0 [p0] = true) (c0 : (btB b01 b02 b03 b12 b13 b23) (1 : Int32) p0 = true) : tops (btB b01 b02 b03 b12 b13 b23) 2 0 [(1 : Int32), p0] = true := by
  obtain ⟨f0, rfl⟩ := fin_of (let q := tops_b HT p0 (by simp); in4_of q.1 (by omega))
  exact st_1_1_3_0_f b01 b02 b03 b12 b13 b23 f0 (by rw [TR, HT, c0]; rfl)
set_option maxRecDepth 65536 in
theorem st_1_1_3_1_f : ∀ (b01 b02 b03 b12 b13 b23 : Bool) (f0 : Fin 4), (trB b01 b02 b03 b12 b13 b23 && tops (btB b01 b02 b03 b12 b13 b23) 1 0 [(Int32.ofNat f0.val)] && !((btB b01 b02 b03 b12 b13 b23) (1 : Int32) (Int32.ofNat f0.val))) = true → tops (btB b01 b02 b03 b12 b13 b23) 2 0 [(Int32.ofNat f0.val), (1 : Int32)] = true := by decide +kernel
theorem st_1_1_3_1 (b01 b02 b03 b12 b13 b23 : Bool) (p0 : Int32) (TR : trB b01 b02 b03 b12 b13 b23 = true) (HT : tops (btB b01 b02 b03 b12 b13 b23) 1 0 [p0] = true) (c0 : ¬ (btB b01 b02 b03 b12 b13 b23) (1 : Int32) p0 = true) : tops (btB b01 b02 b03 b12 b13 b23) 2 0 [p0, (1 : Int32)] = true := by
  obtain ⟨f0, rfl⟩ := fin_of (let q := tops_b HT p0 (by simp); in4_of q.1 (by omega))
  exact st_1_1_3_1_f b01 b02 b03 b12 b13 b23 f0 (by rw [TR, HT, Bool.eq_false_iff.mpr c0]; rfl)
set_option maxRecDepth 65536 in
theorem st_0_0_3_0_f : ∀ (b01 b02 b03 b12 b13 b23 : Bool), (trB b01 b02 b03 b12 b13 b23 && tops (btB b01 b02 b03 b12 b13 b23) 0 0 []) = true → tops (btB b01 b02 b03 b12 b13 b23) 1 0 [(0 : Int32)] = true := by decide +kernel
theorem st_0_0_3_0 (b01 b02 b03 b12 b13 b23 : Bool) (TR : trB b01 b02 b03 b12 b13 b23 = true) (HT : tops (btB b01 b02 b03 b12 b13 b23) 0 0 [] = true)  : tops (btB b01 b02 b03 b12 b13 b23) 1 0 [(0 : Int32)] = true := by
  exact st_0_0_3_0_f b01 b02 b03 b12 b13 b23  (by rw [TR, HT]; rfl)
set_option maxRecDepth 65536 in
theorem st_3_0_0_0_f : ∀ (b01 b02 b03 b12 b13 b23 : Bool), (trB b01 b02 b03 b12 b13 b23 && tops (btB b01 b02 b03 b12 b13 b23) 3 0 []) = true → tops (btB b01 b02 b03 b12 b13 b23) 4 0 [] = true := by decide +kernel
theorem st_3_0_0_0 (b01 b02 b03 b12 b13 b23 : Bool) (TR : trB b01 b02 b03 b12 b13 b23 = true) (HT : tops (btB b01 b02 b03 b12 b13 b23) 3 0 [] = true)  : tops (btB b01 b02 b03 b12 b13 b23) 4 0 [] = true := by
  exact st_3_0_0_0_f b01 b02 b03 b12 b13 b23  (by rw [TR, HT]; rfl)
set_option maxRecDepth 65536 in
theorem st_3_1_1_0_f : ∀ (b01 b02 b03 b12 b13 b23 : Bool) (f0 : Fin 4), (trB b01 b02 b03 b12 b13 b23 && tops (btB b01 b02 b03 b12 b13 b23) 3 0 [(Int32.ofNat f0.val)] && ((btB b01 b02 b03 b12 b13 b23) (3 : Int32) (Int32.ofNat f0.val))) = true → tops (btB b01 b02 b03 b12 b13 b23) 4 0 [(3 : Int32)] = true := by decide +kernel
theorem st_3_1_1_0 (b01 b02 b03 b12 b13 b23 : Bool) (p0 : Int32) (TR : trB b01 b02 b03 b12 b13 b23 = true) (HT : tops (btB b01 b02 b03 b12 b13 b23) 3 0 [p0] = true) (c0 : (btB b01 b02 b03 b12 b13 b23) (3 : Int32) p0 = true) : tops (btB b01 b02 b03 b12 b13 b23) 4 0 [(3 : Int32)] = true := by
  obtain ⟨f0, rfl⟩ := fin_of (let q := tops_b HT p0 (by simp); in4_of q.1 (by omega))
  exact st_3_1_1_0_f b01 b02 b03 b12 b13 b23 f0 (by rw [TR, HT, c0]; rfl)
set_option maxRecDepth 65536 in
theorem st_3_1_1_1_f : ∀ (b01 b02 b03 b12 b13 b23 : Bool) (f0 : Fin 4), (trB b01 b02 b03 b12 b13 b23 && tops (btB b01 b02 b03 b12 b13 b23) 3 0 [(Int32.ofNat f0.val)] && !((btB b01 b02 b03 b12 b13 b23) (3 : Int32) (Int32.ofNat f0.val))) = true → tops (btB b01 b02 b03 b12 b13 b23) 4 0 [(Int32.ofNat f0.val)] = true := by decide +kernel
theorem st_3_1_1_1 (b01 b02 b03 b12 b13 b23 : Bool) (p0 : Int32) (TR : trB b01 b02 b03 b12 b13 b23 = true) (HT : tops (btB b01 b02 b03 b12 b13 b23) 3 0 [p0] = true) (c0 : ¬ (btB b01 b02 b03 b12 b13 b23) (3 : Int32) p0 = true) : tops (btB b01 b02 b03 b12 b13 b23) 4 0 [p0] = true := by
  obtain ⟨f0, rfl⟩ := fin_of (let q := tops_b HT p0 (by simp); in4_of q.1 (by omega))
  exact st_3_1_1_1_f b01 b02 b03 b12 b13 b23 f0 (by rw [TR, HT, Bool.eq_false_iff.mpr c0]; rfl)
set_option maxRecDepth 65536 in
theorem st_3_2_2_0_f : ∀ (b01 b02 b03 b12 b13 b23 : Bool) (f0 f1 : Fin 4), (trB b01 b02 b03 b12 b13 b23 && tops (btB b01 b02 b03 b12 b13 b23) 3 0 [(Int32.ofNat f0.val), (Int32.ofNat f1.val)] && ((btB b01 b02 b03 b12 b13 b23) (3 : Int32) (Int32.ofNat f1.val)) && ((btB b01 b02 b03 b12 b13 b23) (3 : Int32) (Int32.ofNat f0.val))) = true → tops (btB b01 b02 b03 b12 b13 b23) 4 0 [(3 : Int32), (Int32.ofNat f0.val)] = true := by decide +kernel
theorem st_3_2_2_0 (b01 b02 b03 b12 b13 b23 : Bool) (p0 p1 : Int32) (TR : trB b01 b02 b03 b12 b13 b23 = true) (HT : tops (btB b01 b02 b03 b12 b13 b23) 3 0 [p0, p1] = true) (c1 : (btB b01 b02 b03 b12 b13 b23) (3 : Int32) p1 = true) (c0 : (btB b01 b02 b03 b12 b13 b23) (3 : Int32) p0 = true) : tops (btB b01 b02 b03 b12 b13 b23) 4 0 [(3 : Int32), p0] = true := by
  obtain ⟨f0, rfl⟩ := fin_of (let q := tops_b HT p0 (by simp); in4_of q.1 (by omega))
  obtain ⟨f1, rfl⟩ := fin_of (let q := tops_b HT p1 (by simp); in4_of q.1 (by omega))
  exact st_3_2_2_0_f b01 b02 b03 b12 b13 b23 f0 f1 (by rw [TR, HT, c1, c0]; rfl)
set_option maxRecDepth 65536 in
theorem st_3_2_2_1_f : ∀ (b01 b02 b03 b12 b13 b23 : Bool) (f0 f1 : Fin 4), (trB b01 b02 b03 b12 b13 b23 && tops (btB b01 b02 b03 b12 b13 b23) 3 0 [(Int32.ofNat f0.val), (Int32.ofNat f1.val)] && ((btB b01 b02 b03 b12 b13 b23) (3 : Int32) (Int32.ofNat f1.val)) && !((btB b01 b02 b03 b12 b13 b23) (3 : Int32) (Int32.ofNat f0.val))) = true → tops (btB b01 b02 b03 b12 b13 b23) 4 0 [(Int32.ofNat f0.val), (3 : Int32)] = true := by decide +kernel
theorem st_3_2_2_1 (b01 b02 b03 b12 b13 b23 : Bool) (p0 p1 : Int32) (TR : trB b01 b02 b03 b12 b13 b23 = true) (HT : tops (btB b01 b02 b03 b12 b13 b23) 3 0 [p0, p1] = true) (c1 : (btB b01 b02 b03 b12 b13 b23) (3 : Int32) p1 = true) (c0 : ¬ (btB b01 b02 b03 b12 b13 b23) (3 : Int32) p0 = true) : tops (btB b01 b02 b03 b12 b13 b23) 4 0 [p0, (3 : Int32)] = true := by
  obtain ⟨f0, rfl⟩ := fin_of (let q := tops_b HT p0 (by simp); in4_of q.1 (by omega))
  obtain ⟨f1, rfl⟩ := fin_of (let q := tops_b HT p1 (by simp); in4_of q.1 (by omega))
  exact st_3_2_2_1_f b01 b02 b03 b12 b13 b23 f0 f1 (by rw [TR, HT, c1, Bool.eq_false_iff.mpr c0]; rfl)
set_option maxRecDepth 65536 in
theorem st_3_2_2_2_f : ∀ (b01 b02 b03 b12 b13 b23 : Bool) (f0 f1 : Fin 4), (trB b01 b02 b03 b12 b13 b23 && tops (btB b01 b02 b03 b12 b13 b23) 3 0 [(Int32.ofNat f0.val), (Int32.ofNat f1.val)] && !((btB b01 b02 b03 b12 b13 b23) (3 : Int32) (Int32.ofNat f1.val))) = true → tops (btB b01 b02 b03 b12 b13 b23) 4 0 [(Int32.ofNat f0.val), (Int32.ofNat f1.val)] = true := by decide +kernel
theorem st_3_2_2_2 (b01 b02 b03 b12 b13 b23 : Bool) (p0 p1 : Int32) (TR : trB b01 b02 b03 b12 b13 b23 = true) (HT : tops (btB b01 b02 b03 b12 b13 b23) 3 0 [p0, p1] = true) (c1 : ¬ (btB b01 b02 b03 b12 b13 b23) (3 : Int32) p1 = true) : tops (btB b01 b02 b03 b12 b13 b23) 4 0 [p0, p1] = true := by
  obtain ⟨f0, rfl⟩ := fin_of (let q := tops_b HT p0 (by simp); in4_of q.1 (by omega))
  obtain ⟨f1, rfl⟩ := fin_of (let q := tops_b HT p1 (by simp); in4_of q.1 (by omega))
  exact st_3_2_2_2_f b01 b02 b03 b12 b13 b23 f0 f1 (by rw [TR, HT, Bool.eq_false_iff.mpr c1]; rfl)
set_option maxRecDepth 65536 in
theorem st_3_3_3_0_f : ∀ (b01 b02 b03 b12 b13 b23 : Bool) (f0 f1 f2 : Fin 4), (trB b01 b02 b03 b12 b13 b23 && tops (btB b01 b02 b03 b12 b13 b23) 3 0 [(Int32.ofNat f0.val), (Int32.ofNat f1.val), (Int32.ofNat f2.val)] && ((btB b01 b02 b03 b12 b13 b23) (3 : Int32) (Int32.ofNat f2.val)) && ((btB b01 b02 b03 b12 b13 b23) (3 : Int32) (Int32.ofNat f1.val)) && ((btB b01 b02 b03 b12 b13 b23) (3 : Int32) (Int32.ofNat f0.val))) = true → tops (btB b01 b02 b03 b12 b13 b23) 4 0 [(3 : Int32), (Int32.ofNat f0.val), (Int32.ofNat f1.val)] = true := by decide +kernel
theorem st_3_3_3_0 (b01 b02 b03 b12 b13 b23 : Bool) (p0 p1 p2 : Int32) (TR : trB b01 b02 b03 b12 b13 b23 = true) (HT : tops (btB b01 b02 b03 b12 b13 b23) 3 0 [p0, p1, p2] = true) (c2 : (btB b01 b02 b03 b12 b13 b23) (3 : Int32) p2 = true) (c1 : (btB b01 b02 b03 b12 b13 b23) (3 : Int32) p1 = true) (c0 : (btB b01 b02 b03 b12 b13 b23) (3 : Int32) p0 = true) : tops (btB b01 b02 b03 b12 b13 b23) 4 0 [(3 : Int32), p0, p1] = true := by
  obtain ⟨f0, rfl⟩ := fin_of (let q := tops_b HT p0 (by simp); in4_of q.1 (by omega))
  obtain ⟨f1, rfl⟩ := fin_of (let q := tops_b HT p1 (by simp); in4_of q.1 (by omega))
  obtain ⟨f2, rfl⟩ := fin_of (let q := tops_b HT p2 (by simp); in4_of q.1 (by omega))
  exact st_3_3_3_0_f b01 b02 b03 b12 b13 b23 f0 f1 f2 (by rw [TR, HT, c2, c1, c0]; rfl)
set_option maxRecDepth 65536 in
theorem st_3_3_3_1_f : ∀ (b01 b02 b03 b12 b13 b23 : Bool) (f0 f1 f2 : Fin 4), (trB b01 b02 b03 b12 b13 b23 && tops (btB b01 b02 b03 b12 b13 b23) 3 0 [(Int32.ofNat f0.val), (Int32.ofNat f1.val), (Int32.ofNat f2.val)] && ((btB b01 b02 b03 b12 b13 b23) (3 : Int32) (Int32.ofNat f2.val)) && ((btB b01 b02 b03 b12 b13 b23) (3 : Int32) (Int32.ofNat f1.val)) && !((btB b01 b02 b03 b12 b13 b23) (3 : Int32) (Int32.ofNat f0.val))) = true → tops (btB b01 b02 b03 b12 b13 b23) 4 0 [(Int32.ofNat f0.val), (3 : Int32), (Int32.ofNat f1.val)] = true := by decide +kernel
theorem st_3_3_3_1 (b01 b02 b03 b12 b13 b23 : Bool) (p0 p1 p2 : Int32) (TR : trB b01 b02 b03 b12 b13 b23 = true) (HT : tops (btB b01 b02 b03 b12 b13 b23) 3 0 [p0, p1, p2] = true) (c2 : (btB b01 b02 b03 b12 b13 b23) (3 : Int32) p2 = true) (c1 : (btB b01 b02 b03 b12 b13 b23) (3 : Int32) p1 = true) (c0 : ¬ (btB b01 b02 b03 b12 b13 b23) (3 : Int32) p0 = true) : tops (btB b01 b02 b03 b12 b13 b23) 4 0 [p0, (3 : Int32), p1] = true := by
  obtain ⟨f0, rfl⟩ := fin_of (let q := tops_b HT p0 (by simp); in4_of q.1 (by omega))
  obtain ⟨f1, rfl⟩ := fin_of (let q := tops_b HT p1 (by simp); in4_of q.1 (by omega))
  obtain ⟨f2, rfl⟩ := fin_of (let q := tops_b HT p2 (by simp); in4_of q.1 (by omega))
  exact st_3_3_3_1_f b01 b02 b03 b12 b13 b23 f0 f1 f2 (by rw [TR, HT, c2, c1, Bool.eq_false_iff.mpr c0]; rfl)
set_option maxRecDepth 65536 in
theorem st_3_3_3_2_f : ∀ (b01 b02 b03 b12 b13 b23 : Bool) (f0 f1 f2 : Fin 4), (trB b01 b02 b03 b12 b13 b23 && tops (btB b01 b02 b03 b12 b13 b23) 3 0 [(Int32.ofNat f0.val), (Int32.ofNat f1.val), (Int32.ofNat f2.val)] && ((btB b01 b02 b03 b12 b13 b23) (3 : Int32) (Int32.ofNat f2.val)) && !((btB b01 b02 b03 b12 b13 b23) (3 : Int32) (Int32.ofNat f1.val))) = true → tops (btB b01 b02 b03 b12 b13 b23) 4 0 [(Int32.ofNat f0.val), (Int32.ofNat f1.val), (3 : Int32)] = true := by decide +kernel
theorem st_3_3_3_2 (b01 b02 b03 b12 b13 b23 : Bool) (p0 p1 p2 : Int32) (TR : trB b01 b02 b03 b12 b13 b23 = true) (HT : tops (btB b01 b02 b03 b12 b13 b23) 3 0 [p0, p1, p2] = true) (c2 : (btB b01 b02 b03 b12 b13 b23) (3 : Int32) p2 = true) (c1 : ¬ (btB b01 b02 b03 b12 b13 b23) (3 : Int32) p1 = true) : tops (btB b01 b02 b03 b12 b13 b23) 4 0 [p0, p1, (3 : Int32)] = true := by
  obtain ⟨f0, rfl⟩ := fin_of (let q := tops_b HT p0 (by simp); in4_of q.1 (by omega))
  obtain ⟨f1, rfl⟩ := fin_of (let q := tops_b HT p1 (by simp); in4_of q.1 (by omega))
  obtain ⟨f2, rfl⟩ := fin_of (let q := tops_b HT p2 (by simp); in4_of q.1 (by omega))
  exact st_3_3_3_2_f b01 b02 b03 b12 b13 b23 f0 f1 f2 (by rw [TR, HT, c2, Bool.eq_false_iff.mpr c1]; rfl)
set_option maxRecDepth 65536 in
theorem st_3_3_3_3_f : ∀ (b01 b02 b03 b12 b13 b23 : Bool) (f0 f1 f2 : Fin 4), (trB b01 b02 b03 b12 b13 b23 && tops (btB b01 b02 b03 b12 b13 b23) 3 0 [(Int32.ofNat f0.val), (Int32.ofNat f1.val), (Int32.ofNat f2.val)] && !((btB b01 b02 b03 b12 b13 b23) (3 : Int32) (Int32.ofNat f2.val))) = true → tops (btB b01 b02 b03 b12 b13 b23) 4 0 [(Int32.ofNat f0.val), (Int32.ofNat f1.val), (Int32.ofNat f2.val)] = true := by decide +kernel
theorem st_3_3_3_3 (b01 b02 b03 b12 b13 b23 : Bool) (p0 p1 p2 : Int32) (TR : trB b01 b02 b03 b12 b13 b23 = true) (HT : tops (btB b01 b02 b03 b12 b13 b23) 3 0 [p0, p1, p2] = true) (c2 : ¬ (btB b01 b02 b03 b12 b13 b23) (3 : Int32) p2 = true) : tops (btB b01 b02 b03 b12 b13 b23) 4 0 [p0, p1, p2] = true := by
  obtain ⟨f0, rfl⟩ := fin_of (let q := tops_b HT p0 (by simp); in4_of q.1 (by omega))
  obtain ⟨f1, rfl⟩ := fin_of (let q := tops_b HT p1 (by simp); in4_of q.1 (by omega))
  obtain ⟨f2, rfl⟩ := fin_of (let q := tops_b HT p2 (by simp); in4_of q.1 (by omega))
  exact st_3_3_3_3_f b01 b02 b03 b12 b13 b23 f0 f1 f2 (by rw [TR, HT, Bool.eq_false_iff.mpr c2]; rfl)
set_option maxRecDepth 65536 in
theorem st_3_3_4_0_f : ∀ (b01 b02 b03 b12 b13 b23 : Bool) (f0 f1 f2 : Fin 4), (trB b01 b02 b03 b12 b13 b23 && tops (btB b01 b02 b03 b12 b13 b23) 3 0 [(Int32.ofNat f0.val), (Int32.ofNat f1.val), (Int32.ofNat f2.val)] && ((btB b01 b02 b03 b12 b13 b23) (3 : Int32) (Int32.ofNat f2.val)) && ((btB b01 b02 b03 b12 b13 b23) (3 : Int32) (Int32.ofNat f1.val)) && ((btB b01 b02 b03 b12 b13 b23) (3 : Int32) (Int32.ofNat f0.val))) = true → tops (btB b01 b02 b03 b12 b13 b23) 4 0 [(3 : Int32), (Int32.ofNat f0.val), (Int32.ofNat f1.val), (Int32.ofNat f2.val)] = true := by decide +kernel
theorem st_3_3_4_0 (b01 b02 b03 b12 b13 b23 : Bool) (p0 p1 p2 : Int32) (TR : trB b01 b02 b03 b12 b13 b23 = true) (HT : tops (btB b01 b02 b03 b12 b13 b23) 3 0 [p0, p1, p2] = true) (c2 : (btB b01 b02 b03 b12 b13 b23) (3 : Int32) p2 = true) (c1 : (btB b01 b02 b03 b12 b13 b23) (3 : Int32) p1 = true) (c0 : (btB b01 b02 b03 b12 b13 b23) (3 : Int32) p0 = true) : tops (btB b01 b02 b03 b12 b13 b23) 4 0 [(3 : Int32), p0, p1, p2] = true := by
  obtain ⟨f0, rfl⟩ := fin_of (let q := tops_b HT p0 (by simp); in4_of q.1 (by omega))
  obtain ⟨f1, rfl⟩ := fin_of (let q := tops_b HT p1 (by simp); in4_of q.1 (by omega))
  obtain ⟨f2, rfl⟩ := fin_of (let q := tops_b HT p2 (by simp); in4_of q.1 (by omega))
  exact st_3_3_4_0_f b01 b02 b03 b12 b13 b23 f0 f1 f2 (by rw [TR, HT, c2, c1, c0]; rfl)
set_option maxRecDepth 65536 in
theorem st_3_3_4_1_f : ∀ (b01 b02 b03 b12 b13 b23 : Bool) (f0 f1 f2 : Fin 4), (trB b01 b02 b03 b12 b13 b23 && tops (btB b01 b02 b03 b12 b13 b23) 3 0 [(Int32.ofNat f0.val), (Int32.ofNat f1.val), (Int32.ofNat f2.val)] && ((btB b01 b02 b03 b12 b13 b23) (3 : Int32) (Int32.ofNat f2.val)) && ((btB b01 b02 b03 b12 b13 b23) (3 : Int32) (Int32.ofNat f1.val)) && !((btB b01 b02 b03 b12 b13 b23) (3 : Int32) (Int32.ofNat f0.val))) = true → tops (btB b01 b02 b03 b12 b13 b23) 4 0 [(Int32.ofNat f0.val), (3 : Int32), (Int32.ofNat f1.val), (Int32.ofNat f2.val)] = true := by decide +kernel
theorem st_3_3_4_1 (b01 b02 b03 b12 b13 b23 : Bool) (p0 p1 p2 : Int32) (TR : trB b01 b02 b03 b12 b13 b23 = true) (HT : tops (btB b01 b02 b03 b12 b13 b23) 3 0 [p0, p1, p2] = true) (c2 : (btB b01 b02 b03 b12 b13 b23) (3 : Int32) p2 = true) (c1 : (btB b01 b02 b03 b12 b13 b23) (3 : Int32) p1 = true) (c0 : ¬ (btB b01 b02 b03 b12 b13 b23) (3 : Int32) p0 = true) : tops (btB b01 b02 b03 b12 b13 b23) 4 0 [p0, (3 : Int32), p1, p2] = true := by
  obtain ⟨f0, rfl⟩ := fin_of (let q := tops_b HT p0 (by simp); in4_of q.1 (by omega))
  obtain ⟨f1, rfl⟩ := fin_of (let q := tops_b HT p1 (by simp); in4_of q.1 (by omega))
  obtain ⟨f2, rfl⟩ := fin_of (let q := tops_b HT p2 (by simp); in4_of q.1 (by omega))
  exact st_3_3_4_1_f b01 b02 b03 b12 b13 b23 f0 f1 f2 (by rw [TR, HT, c2, c1, Bool.eq_false_iff.mpr c0]; rfl)
set_option maxRecDepth 65536 in
theorem st_3_3_4_2_f : ∀ (b01 b02 b03 b12 b13 b23 : Bool) (f0 f1 f2 : Fin 4), (trB b01 b02 b03 b12 b13 b23 && tops (btB b01 b02 b03 b12 b13 b23) 3 0 [(Int32.ofNat f0.val), (Int32.ofNat f1.val), (Int32.ofNat f2.val)] && ((btB b01 b02 b03 b12 b13 b23) (3 : Int32) (Int32.ofNat f2.val)) && !((btB b01 b02 b03 b12 b13 b23) (3 : Int32) (Int32.ofNat f1.val))) = true → tops (btB b01 b02 b03 b12 b13 b23) 4 0 [(Int32.ofNat f0.val), (Int32.ofNat f1.val), (3 : Int32), (Int32.ofNat f2.val)] = true := by decide +kernel
theorem st_3_3_4_2 (b01 b02 b03 b12 b13 b23 : Bool) (p0 p1 p2 : Int32) (TR : trB b01 b02 b03 b12 b13 b23 = true) (HT : tops (btB b01 b02 b03 b12 b13 b23) 3 0 [p0, p1, p2] = true) (c2 : (btB b01 b02 b03 b12 b13 b23) (3 : Int32) p2 = true) (c1 : ¬ (btB b01 b02 b03 b12 b13 b23) (3 : Int32) p1 = true) : tops (btB b01 b02 b03 b12 b13 b23) 4 0 [p0, p1, (3 : Int32), p2] = true := by
  obtain ⟨f0, rfl⟩ := fin_of (let q := tops_b HT p0 (by simp); in4_of q.1 (by omega))
  obtain ⟨f1, rfl⟩ := fin_of (let q := tops_b HT p1 (by simp); in4_of q.1 (by omega))
  obtain ⟨f2, rfl⟩ := fin_of (let q := tops_b HT p2 (by simp); in4_of q.1 (by omega))
  exact st_3_3_4_2_f b01 b02 b03 b12 b13 b23 f0 f1 f2 (by rw [TR, HT, c2, Bool.eq_false_iff.mpr c1]; rfl)
set_option maxRecDepth 65536 in
theorem st_3_3_4_3_f : ∀ (b01 b02 b03 b12 b13 b23 : Bool) (f0 f1 f2 : Fin 4), (trB b01 b02 b03 b12 b13 b23 && tops (btB b01 b02 b03 b12 b13 b23) 3 0 [(Int32.ofNat f0.val), (Int32.ofNat f1.val), (Int32.ofNat f2.val)] && !((btB b01 b02 b03 b12 b13 b23) (3 : Int32) (Int32.ofNat f2.val))) = true → tops (btB b01 b02 b03 b12 b13 b23) 4 0 [(Int32.ofNat f0.val), (Int32.ofNat f1.val), (Int32.ofNat f2.val), (3 : Int32)] = true := by decide +kernel
theorem st_3_3_4_3 (b01 b02 b03 b12 b13 b23 : Bool) (p0 p1 p2 : Int32) (TR : trB b01 b02 b03 b12 b13 b23 = true) (HT : tops (btB b01 b02 b03 b12 b13 b23) 3 0 [p0, p1, p2] = true) (c2 : ¬ (btB b01 b02 b03 b12 b13 b23) (3 : Int32) p2 = true) : tops (btB b01 b02 b03 b12 b13 b23) 4 0 [p0, p1, p2, (3 : Int32)] = true := by
  obtain ⟨f0, rfl⟩ := fin_of (let q := tops_b HT p0 (by simp); in4_of q.1 (by omega))
  obtain ⟨f1, rfl⟩ := fin_of (let q := tops_b HT p1 (by simp); in4_of q.1 (by omega))
  obtain ⟨f2, rfl⟩ := fin_of (let q := tops_b HT p2 (by simp); in4_of q.1 (by omega))
  exact st_3_3_4_3_f b01 b02 b03 b12 b13 b23 f0 f1 f2 (by rw [TR, HT, Bool.eq_false_iff.mpr c2]; rfl)
set_option maxRecDepth 65536 in
theorem st_2_2_4_0_f : ∀ (b01 b02 b03 b12 b13 b23 : Bool) (f0 f1 : Fin 4), (trB b01 b02 b03 b12 b13 b23 && tops (btB b01 b02 b03 b12 b13 b23) 2 0 [(Int32.ofNat f0.val), (Int32.ofNat f1.val)] && ((btB b01 b02 b03 b12 b13 b23) (2 : Int32) (Int32.ofNat f1.val)) && ((btB b01 b02 b03 b12 b13 b23) (2 : Int32) (Int32.ofNat f0.val))) = true → tops (btB b01 b02 b03 b12 b13 b23) 3 0 [(2 : Int32), (Int32.ofNat f0.val), (Int32.ofNat f1.val)] = true := by decide +kernel
theorem st_2_2_4_0 (b01 b02 b03 b12 b13 b23 : Bool) (p0 p1 : Int32) (TR : trB b01 b02 b03 b12 b13 b23 = true) (HT : tops (btB b01 b02 b03 b12 b13 b23) 2 0 [p0, p1] = true) (c1 : (btB b01 b02 b03 b12 b13 b23) (2 : Int32) p1 = true) (c0 : (btB b01 b02 b03 b12 b13 b23) (2 : Int32) p0 = true) : tops (btB b01 b02 b03 b12 b13 b23) 3 0 [(2 : Int32), p0, p1] = true := by
  obtain ⟨f0, rfl⟩ := fin_of (let q := tops_b HT p0 (by simp); in4_of q.1 (by omega))
  obtain ⟨f1, rfl⟩ := fin_of (let q := tops_b HT p1 (by simp); in4_of q.1 (by omega))
  exact st_2_2_4_0_f b01 b02 b03 b12 b13 b23 f0 f1 (by rw [TR, HT, c1, c0]; rfl)
set_option maxRecDepth 65536 in
theorem st_2_2_4_1_f : ∀ (b01 b02 b03 b12 b13 b23 : Bool) (f0 f1 : Fin 4), (trB b01 b02 b03 b12 b13 b23 && tops (btB b01 b02 b03 b12 b13 b23) 2 0 [(Int32.ofNat f0.val), (Int32.ofNat f1.val)] && ((btB b01 b02 b03 b12 b13 b23) (2 : Int32) (Int32.ofNat f1.val)) && !((btB b01 b02 b03 b12 b13 b23) (2 : Int32) (Int32.ofNat f0.val))) = true → tops (btB b01 b02 b03 b12 b13 b23) 3 0 [(Int32.ofNat f0.val), (2 : Int32), (Int32.ofNat f1.val)] = true := by decide +kernel
theorem st_2_2_4_1 (b01 b02 b03 b12 b13 b23 : Bool) (p0 p1 : Int32) (TR : trB b01 b02 b03 b12 b13 b23 = true) (HT : tops (btB b01 b02 b03 b12 b13 b23) 2 0 [p0, p1] = true) (c1 : (btB b01 b02 b03 b12 b13 b23) (2 : Int32) p1 = true) (c0 : ¬ (btB b01 b02 b03 b12 b13 b23) (2 : Int32) p0 = true) : tops (btB b01 b02 b03 b12 b13 b23) 3 0 [p0, (2 : Int32), p1] = true := by
  obtain ⟨f0, rfl⟩ := fin_of (let q := tops_b HT p0 (by simp); in4_of q.1 (by omega))
  obtain ⟨f1, rfl⟩ := fin_of (let q := tops_b HT p1 (by simp); in4_of q.1 (by omega))
  exact st_2_2_4_1_f b01 b02 b03 b12 b13 b23 f0 f1 (by rw [TR, HT, c1, Bool.eq_false_iff.mpr c0]; rfl)
set_option maxRecDepth 65536 in
theorem st_2_2_4_2_f : ∀ (b01 b02 b03 b12 b13 b23 : Bool) (f0 f1 : Fin 4), (trB b01 b02 b03 b12 b13 b23 && tops (btB b01 b02 b03 b12 b13 b23) 2 0 [(Int32.ofNat f0.val), (Int32.ofNat f1.val)] && !((btB b01 b02 b03 b12 b13 b23) (2 : Int32) (Int32.ofNat f1.val))) = true → tops (btB b01 b02 b03 b12 b13 b23) 3 0 [(Int32.ofNat f0.val), (Int32.ofNat f1.val), (2 : Int32)] = true := by decide +kernel
theorem st_2_2_4_2 (b01 b02 b03 b12 b13 b23 : Bool) (p0 p1 : Int32) (TR : trB b01 b02 b03 b12 b13 b23 = true) (HT : tops (btB b01 b02 b03 b12 b13 b23) 2 0 [p0, p1] = true) (c1 : ¬ (btB b01 b02 b03 b12 b13 b23) (2 : Int32) p1 = true) : tops (btB b01 b02 b03 b12 b13 b23) 3 0 [p0, p1, (2 : Int32)] = true := by
  obtain ⟨f0, rfl⟩ := fin_of (let q := tops_b HT p0 (by simp); in4_of q.1 (by omega))
  obtain ⟨f1, rfl⟩ := fin_of (let q := tops_b HT p1 (by simp); in4_of q.1 (by omega))
  exact st_2_2_4_2_f b01 b02 b03 b12 b13 b23 f0 f1 (by rw [TR, HT, Bool.eq_false_iff.mpr c1]; rfl)
set_option maxRecDepth 65536 in
theorem st_1_1_4_0_f : ∀ (b01 b02 b03 b12 b13 b23 : Bool) (f0 : Fin 4), (trB b01 b02 b03 b12 b13 b23 && tops (btB b01 b02 b03 b12 b13 b23) 1 0 [(Int32.ofNat f0.val)] && ((btB b01 b02 b03 b12 b13 b23) (1 : Int32) (Int32.ofNat f0.val))) = true → tops (btB b01 b02 b03 b12 b13 b23) 2 0 [(1 : Int32), (Int32.ofNat f0.val)] = true := by decide +kernel
theorem st_1_1_4_0 (b01 b02 b03 b12 b13 b23 : Bool) (p0 : Int32) (TR : trB b01 b02 b03 b12 b13 b23 = true) (HT : tops (btB b01 b02 b03 b12 b13 b23) 1 0 [p0] = true) (c0 : (btB b01 b02 b03 b12 b13 b23) (1 : Int32) p0 = true) : tops (btB b01 b02 b03 b12 b13 b23) 2 0 [(1 : Int32), p0] = true := by
  obtain ⟨f0, rfl⟩ := fin_of (let q := tops_b HT p0 (by simp); in4_of q.1 (by omega))
  exact st_1_1_4_0_f b01 b02 b03 b12 b13 b23 f0 (by rw [TR, HT, c0]; rfl)
set_option maxRecDepth 65536 in
theorem st_1_1_4_1_f : ∀ (b01 b02 b03 b12 b13 b23 : Bool) (f0 : Fin 4), (trB b01 b02 b03 b12 b13 b23 && tops (btB b01 b02 b03 b12 b13 b23) 1 0 [(Int32.ofNat f0.val)] && !((btB b01 b02 b03 b12 b13 b23) (1 : Int32) (Int32.ofNat f0.val))) = true → tops (btB b01 b02 b03 b12 b13 b23) 2 0 [(Int32.ofNat f0.val), (1 : Int32)] = true := by decide +kernel
theorem st_1_1_4_1 (b01 b02 b03 b12 b13 b23 : Bool) (p0 : Int32) (TR : trB b01 b02 b03 b12 b13 b23 = true) (HT : tops (btB b01 b02 b03 b12 b13 b23) 1 0 [p0] = true) (c0 : ¬ (btB b01 b02 b03 b12 b13 b23) (1 : Int32) p0 = true) : tops (btB b01 b02 b03 b12 b13 b23) 2 0 [p0, (1 : Int32)] = true := by
  obtain ⟨f0, rfl⟩ := fin_of (let q := tops_b HT p0 (by simp); in4_of q.1 (by omega))
  exact st_1_1_4_1_f b01 b02 b03 b12 b13 b23 f0 (by rw [TR, HT, Bool.eq_false_iff.mpr c0]; rfl)
set_option maxRecDepth 65536 in
theorem st_0_0_4_0_f : ∀ (b01 b02 b03 b12 b13 b23 : Bool), (trB b01 b02 b03 b12 b13 b23 && tops (btB b01 b02 b03 b12 b13 b23) 0 0 []) = true → tops (btB b01 b02 b03 b12 b13 b23) 1 0 [(0 : Int32)] = true := by decide +kernel
theorem st_0_0_4_0 (b01 b02 b03 b12 b13 b23 : Bool) (TR : trB b01 b02 b03 b12 b13 b23 = true) (HT : tops (btB b01 b02 b03 b12 b13 b23) 0 0 [] = true)  : tops (btB b01 b02 b03 b12 b13 b23) 1 0 [(0 : Int32)] = true := by
  exact st_0_0_4_0_f b01 b02 b03 b12 b13 b23  (by rw [TR, HT]; rfl)
end OwnLaw
def Q_rmMJ (Z : State) (x y r : Int64) (h0 : Heap) (n0 : Nat) (v : Option Value) (h : Heap) (L : List Loc) : Prop := v = some (.long r) ∧ Fr n0 L ∧ h = h0
set_option maxRecDepth 65536 in
set_option maxHeartbeats 40000000 in
theorem rmMJ (l : Launch) (Z : State) (a0 : Array Value) (hw : ∀ d ∈ tables_1, d.before a0 Z = true) (ws : List Jvm.Cond) (x y r : Int64) (h0 : Heap) (n0 : Nat) (Zs : n0 ≤ h0.size) (hm : (¬ y < x ∧ r = x) ∨ (y < x ∧ r = y)) :
    Con l (⟨"java/lang/Math", "min", "(JJ)J"⟩ : MethodName) jdk_29_method_70_code 4 (some .long) ws ({ frames := 0, cells := 0, slots := 0, locals := 0 } : Room) Z #[(.long x), (.long y)] h0 ({ frames := 0, cells := 0, slots := 0, locals := 0 } : Room).cells ({ frames := 0, cells := 0, slots := 0, locals := 0 } : Room).slots (Q_rmMJ Z x y r h0 n0) := by
  refine Con.of (Ls := #[.val (.long x), .second, .val (.long y), .second]) (Jvm.Free.JP.mathPlain rfl (by decide +kernel)) (fun m => by first | (simp [entryFrame, mkF, argsToLocals, Value.category]; done) | rfl) ?_
  intro p e s m below meth c s₁ G hGe hG hx hby hml hown hnm hrt hlk hZ X0 e0
  have hown : s.vm.findClass "java/lang/Math" = some m.cls := hown
  have hnm : meth.name = "min" := hnm
  have NF0 := Fr.nil n0
  rcases hm with ⟨c1, hr⟩ | ⟨c1, hr⟩
  · skip
    refine g_lloadN hG X0 hx (hb hby d2_0) (pc' := 1) rfl rfl ?_
    show G (s₁.setTop (mkF m 1 #[.val (.long x), .second, .val (.long y), .second] [(.long x)]))
    refine g_lloadN hG X0 hx (hb hby d2_1) (pc' := 2) rfl rfl ?_
    show G (s₁.setTop (mkF m 2 #[.val (.long x), .second, .val (.long y), .second] [(.long y), (.long x)]))
    obtain ⟨v2, q2⟩ : ∃ zz : Int32, lcmpW x y = zz := ⟨_, rfl⟩
    refine g_lcmp hG X0 hx (hb hby d2_2) (pc' := 3) rfl q2 ?_
    show G (s₁.setTop (mkF m 3 #[.val (.long x), .second, .val (.long y), .second] [(.int v2)]))
    refine g_ifNo hG X0 hx (hb hby d2_3) (pc' := 6) ((if0 _ _).trans (flt (show ¬ (0 : Int32) < v2 by rw [← q2]; exact fun g => c1 ((lw_gt _ _).mp g))).2.2.1) rfl ?_
    show G (s₁.setTop (mkF m 6 #[.val (.long x), .second, .val (.long y), .second] []))
    refine g_lloadN hG X0 hx (hb hby d2_6) (pc' := 7) rfl rfl ?_
    show G (s₁.setTop (mkF m 7 #[.val (.long x), .second, .val (.long y), .second] [(.long x)]))
    refine g_goto hG X0 hx (hb hby d2_7) (pc' := 11) (by decide) (by decide) ?_
    show G (s₁.setTop (mkF m 11 #[.val (.long x), .second, .val (.long y), .second] [(.long x)]))
    exact e_retJ hGe X0 hx hrt hlk (hb hby d2_11) e0 (by decide) (by decide) (⟨by rw [hr], NF0, rfl⟩)
  · skip
    refine g_lloadN hG X0 hx (hb hby d2_0) (pc' := 1) rfl rfl ?_
    show G (s₁.setTop (mkF m 1 #[.val (.long x), .second, .val (.long y), .second] [(.long x)]))
    refine g_lloadN hG X0 hx (hb hby d2_1) (pc' := 2) rfl rfl ?_
    show G (s₁.setTop (mkF m 2 #[.val (.long x), .second, .val (.long y), .second] [(.long y), (.long x)]))
    obtain ⟨v2, q2⟩ : ∃ zz : Int32, lcmpW x y = zz := ⟨_, rfl⟩
    refine g_lcmp hG X0 hx (hb hby d2_2) (pc' := 3) rfl q2 ?_
    show G (s₁.setTop (mkF m 3 #[.val (.long x), .second, .val (.long y), .second] [(.int v2)]))
    refine g_ifYes hG X0 hx (hb hby d2_3) (pc' := 10) ((if0 _ _).trans (tlt (show (0 : Int32) < v2 by rw [← q2]; exact (lw_gt _ _).mpr c1)).2.2.1) (by decide) (by decide) ?_
    show G (s₁.setTop (mkF m 10 #[.val (.long x), .second, .val (.long y), .second] []))
    refine g_lloadN hG X0 hx (hb hby d2_10) (pc' := 11) rfl rfl ?_
    show G (s₁.setTop (mkF m 11 #[.val (.long x), .second, .val (.long y), .second] [(.long y)]))
    exact e_retJ hGe X0 hx hrt hlk (hb hby d2_11) e0 (by decide) (by decide) (⟨by rw [hr], NF0, rfl⟩)

def Q_rmMI (Z : State) (x y r : Int32) (h0 : Heap) (n0 : Nat) (v : Option Value) (h : Heap) (L : List Loc) : Prop := v = some (.int r) ∧ Fr n0 L ∧ h = h0
set_option maxRecDepth 65536 in
set_option maxHeartbeats 40000000 in
theorem rmMI (l : Launch) (Z : State) (a0 : Array Value) (hw : ∀ d ∈ tables_1, d.before a0 Z = true) (ws : List Jvm.Cond) (x y r : Int32) (h0 : Heap) (n0 : Nat) (Zs : n0 ≤ h0.size) (hm : (¬ y < x ∧ r = x) ∨ (y < x ∧ r = y)) :
    Con l (⟨"java/lang/Math", "min", "(II)I"⟩ : MethodName) jdk_29_method_69_code 2 (some .int) ws ({ frames := 0, cells := 0, slots := 0, locals := 0 } : Room) Z #[(.int x), (.int y)] h0 ({ frames := 0, cells := 0, slots := 0, locals := 0 } : Room).cells ({ frames := 0, cells := 0, slots := 0, locals := 0 } : Room).slots (Q_rmMI Z x y r h0 n0) := by
  refine Con.of (Ls := #[.val (.int x), .val (.int y)]) (Jvm.Free.JP.mathPlain rfl (by decide +kernel)) (fun m => by first | (simp [entryFrame, mkF, argsToLocals, Value.category]; done) | rfl) ?_
  intro p e s m below meth c s₁ G hGe hG hx hby hml hown hnm hrt hlk hZ X0 e0
  have hown : s.vm.findClass "java/lang/Math" = some m.cls := hown
  have hnm : meth.name = "min" := hnm
  have NF0 := Fr.nil n0
  rcases hm with ⟨c1, hr⟩ | ⟨c1, hr⟩
  · skip
    refine g_iloadN hG X0 hx (hb hby d4_0) (pc' := 1) rfl rfl ?_
    show G (s₁.setTop (mkF m 1 #[.val (.int x), .val (.int y)] [(.int x)]))
    refine g_iloadN hG X0 hx (hb hby d4_1) (pc' := 2) rfl rfl ?_
    show G (s₁.setTop (mkF m 2 #[.val (.int x), .val (.int y)] [(.int y), (.int x)]))
    refine g_icmpNo hG X0 hx (hb hby d4_2) (pc' := 5) ((flt c1).2.2.1) rfl ?_
    show G (s₁.setTop (mkF m 5 #[.val (.int x), .val (.int y)] []))
    refine g_iloadN hG X0 hx (hb hby d4_5) (pc' := 6) rfl rfl ?_
    show G (s₁.setTop (mkF m 6 #[.val (.int x), .val (.int y)] [(.int x)]))
    refine g_goto hG X0 hx (hb hby d4_6) (pc' := 10) (by decide) (by decide) ?_
    show G (s₁.setTop (mkF m 10 #[.val (.int x), .val (.int y)] [(.int x)]))
    exact e_retI hGe X0 hx hrt hlk (hb hby d4_10) e0 (by decide) (by decide) (⟨by rw [hr], NF0, rfl⟩)
  · skip
    refine g_iloadN hG X0 hx (hb hby d4_0) (pc' := 1) rfl rfl ?_
    show G (s₁.setTop (mkF m 1 #[.val (.int x), .val (.int y)] [(.int x)]))
    refine g_iloadN hG X0 hx (hb hby d4_1) (pc' := 2) rfl rfl ?_
    show G (s₁.setTop (mkF m 2 #[.val (.int x), .val (.int y)] [(.int y), (.int x)]))
    refine g_icmpYes hG X0 hx (hb hby d4_2) (pc' := 9) ((tlt c1).2.2.1) (by decide) (by decide) ?_
    show G (s₁.setTop (mkF m 9 #[.val (.int x), .val (.int y)] []))
    refine g_iloadN hG X0 hx (hb hby d4_9) (pc' := 10) rfl rfl ?_
    show G (s₁.setTop (mkF m 10 #[.val (.int x), .val (.int y)] [(.int y)]))
    exact e_retI hGe X0 hx hrt hlk (hb hby d4_10) e0 (by decide) (by decide) (⟨by rw [hr], NF0, rfl⟩)

def Q_rmBu0 (Z : State) (al : Int32 → UInt64) (h0 : Heap) (n0 : Nat) (v : Option Value) (h : Heap) (L : List Loc) : Prop := ∃ b : Addr, v = some (.ref b) ∧ Fr n0 L ∧ Keep h0 h [] ∧ h0.size ≤ b ∧ AV Z h b .double (0 : Int32) []
set_option maxRecDepth 65536 in
set_option maxHeartbeats 40000000 in
theorem rmBu0 (l : Launch) (Z : State) (a0 : Array Value) (hw : ∀ d ∈ tables_1, d.before a0 Z = true) (ws : List Jvm.Cond) (al : Int32 → UInt64) (h0 : Heap) (n0 : Nat) (Zs : n0 ≤ h0.size)  :
    Con l (⟨"com/example/gauge_terms/gaugeterms/TopValuesPositionsPinLaw", "build", "(IDDDD)[D"⟩ : MethodName) method_2_code 9 (some (.array .double)) ws ({ frames := 0, cells := 1, slots := 0, locals := 0 } : Room) Z #[(.int 0), (.double (al (0 : Int32))), (.double (al (1 : Int32))), (.double (al (2 : Int32))), (.double (al (3 : Int32)))] h0 ({ frames := 0, cells := 1, slots := 0, locals := 0 } : Room).cells ({ frames := 0, cells := 1, slots := 0, locals := 0 } : Room).slots (Q_rmBu0 Z al h0 n0) := by
  refine Con.of (Ls := #[.val (.int 0), .val (.double (al (0 : Int32))), .second, .val (.double (al (1 : Int32))), .second, .val (.double (al (2 : Int32))), .second, .val (.double (al (3 : Int32))), .second]) (plainFor_of_name (by first | (simp [plainName, overriddenIn]; done) | decide +kernel)) (fun m => by first | (simp [entryFrame, mkF, argsToLocals, Value.category]; done) | rfl) ?_
  intro p e s m below meth c s₁ G hGe hG hx hby hml hown hnm hrt hlk hZ X0 e0
  have hown : s.vm.findClass "com/example/gauge_terms/gaugeterms/TopValuesPositionsPinLaw" = some m.cls := hown
  have hnm : meth.name = "build" := hnm
  have NF0 := Fr.nil n0
  have K0 := Keep.refl h0 ([] : List Addr)
  refine g_iloadN hG X0 hx (hb hby d1_0) (pc' := 1) rfl rfl ?_
  refine g_ifNo hG X0 hx (hb hby d1_1) (pc' := 4) (by decide) rfl ?_
  refine g_iconst hG X0 hx (hb hby d1_4) (pc' := 5) rfl (v := (0 : Int32)) rfl ?_
  refine g_newP hG X0 hx hZ (wd hw 5 rfl) e0 (hb hby d1_5) (by decide) 0 (by decide) (by decide) (by decide) (by decide) (pc' := 7) rfl ?_
  intro T1 h1 b kA1 gs1 X1 e1 E1 A1
  have ge_b : n0 ≤ b := gs1 ▸ Zs
  have sz_b : h0.size ≤ b := gs1 ▸ K0.1
  have Zs := Nat.le_trans Zs E1.1
  have K1 := K0.ext E1
  have V_b : AV Z h1 b .double (0 : Int32) [] := AV.new A1
  exact e_retA hGe X1 hx hrt rfl hlk (hb hby d1_7) e1 (by decide) (by decide) (⟨b, rfl, NF0, K1, sz_b, V_b⟩)

def Q_rmCz0_0 (Z : State) (a ids : Addr) (h0 : Heap) (n0 : Nat) (v : Option Value) (h : Heap) (L : List Loc) : Prop := v = some (.int 1) ∧ Fr n0 L ∧ h = h0
set_option maxRecDepth 65536 in
set_option maxHeartbeats 40000000 in
theorem rmCz0_0 (l : Launch) (Z : State) (a0 : Array Value) (hw : ∀ d ∈ tables_1, d.before a0 Z = true) (ws : List Jvm.Cond) (a ids : Addr) (h0 : Heap) (n0 : Nat) (Zs : n0 ≤ h0.size) (V_ids : AV Z h0 ids .int (0 : Int32) []) :
    Con l (⟨"com/example/gauge_terms/gaugeterms/TopValuesPositionsPinLaw", "check", "([D[II)Z"⟩ : MethodName) method_5_code 4 (some .boolean) ws ({ frames := 2, cells := 0, slots := 0, locals := 56 } : Room) Z #[(.ref a), (.ref ids), (.int 0)] h0 ({ frames := 2, cells := 0, slots := 0, locals := 56 } : Room).cells ({ frames := 2, cells := 0, slots := 0, locals := 56 } : Room).slots (Q_rmCz0_0 Z a ids  h0 n0) := by
  refine Con.of (Ls := #[.val (.ref a), .val (.ref ids), .val (.int 0), .unset]) (plainFor_of_name (by first | (simp [plainName, overriddenIn]; done) | decide +kernel)) (fun m => by first | (simp [entryFrame, mkF, argsToLocals, Value.category]; done) | rfl) ?_
  intro p e s m below meth c s₁ G hGe hG hx hby hml hown hnm hrt hlk hZ X0 e0
  have hown : s.vm.findClass "com/example/gauge_terms/gaugeterms/TopValuesPositionsPinLaw" = some m.cls := hown
  have hnm : meth.name = "check" := hnm
  have NF0 := Fr.nil n0
  refine g_iloadN hG X0 hx (hb hby d5_0) (pc' := 1) rfl rfl ?_
  show G (s₁.setTop (mkF m 1 #[.val (.ref a), .val (.ref ids), .val (.int 0), .unset] [(.int 0)]))
  refine g_aloadN hG X0 hx (hb hby d5_1) (pc' := 2) rfl rfl rfl ?_
  show G (s₁.setTop (mkF m 2 #[.val (.ref a), .val (.ref ids), .val (.int 0), .unset] [(.ref ids), (.int 0)]))
  refine g_arraylength hG X0 hx hZ e0 V_ids (hb hby d5_2) (pc' := 3) rfl ?_
  show G (s₁.setTop (mkF m 3 #[.val (.ref a), .val (.ref ids), .val (.int 0), .unset] [(.int 0), (.int 0)]))
  refine g_icmpNo hG X0 hx (hb hby d5_3) (pc' := 6) (by decide) rfl ?_
  show G (s₁.setTop (mkF m 6 #[.val (.ref a), .val (.ref ids), .val (.int 0), .unset] []))
  refine g_iconst hG X0 hx (hb hby d5_6) (pc' := 7) rfl (v := (1 : Int32)) rfl ?_
  show G (s₁.setTop (mkF m 7 #[.val (.ref a), .val (.ref ids), .val (.int 0), .unset] [(.int 1)]))
  exact e_retZ hGe X0 hx hrt hlk (hb hby d5_7) (Or.inr rfl) e0 (by decide) (by decide) (⟨rfl, NF0, rfl⟩)

def Q_rmCz0_1 (Z : State) (a ids : Addr) (h0 : Heap) (n0 : Nat) (v : Option Value) (h : Heap) (L : List Loc) : Prop := v = some (.int 1) ∧ Fr n0 L ∧ h = h0
set_option maxRecDepth 65536 in
set_option maxHeartbeats 40000000 in
theorem rmCz0_1 (l : Launch) (Z : State) (a0 : Array Value) (hw : ∀ d ∈ tables_1, d.before a0 Z = true) (ws : List Jvm.Cond) (a ids : Addr) (h0 : Heap) (n0 : Nat) (Zs : n0 ≤ h0.size) (V_ids : AV Z h0 ids .int (0 : Int32) []) :
    Con l (⟨"com/example/gauge_terms/gaugeterms/TopValuesPositionsPinLaw", "check", "([D[II)Z"⟩ : MethodName) method_5_code 4 (some .boolean) ws ({ frames := 2, cells := 0, slots := 0, locals := 56 } : Room) Z #[(.ref a), (.ref ids), (.int 1)] h0 ({ frames := 2, cells := 0, slots := 0, locals := 56 } : Room).cells ({ frames := 2, cells := 0, slots := 0, locals := 56 } : Room).slots (Q_rmCz0_1 Z a ids  h0 n0) := by
  refine Con.of (Ls := #[.val (.ref a), .val (.ref ids), .val (.int 1), .unset]) (plainFor_of_name (by first | (simp [plainName, overriddenIn]; done) | decide +kernel)) (fun m => by first | (simp [entryFrame, mkF, argsToLocals, Value.category]; done) | rfl) ?_
  intro p e s m below meth c s₁ G hGe hG hx hby hml hown hnm hrt hlk hZ X0 e0
  have hown : s.vm.findClass "com/example/gauge_terms/gaugeterms/TopValuesPositionsPinLaw" = some m.cls := hown
  have hnm : meth.name = "check" := hnm
  have NF0 := Fr.nil n0
  refine g_iloadN hG X0 hx (hb hby d5_0) (pc' := 1) rfl rfl ?_
  show G (s₁.setTop (mkF m 1 #[.val (.ref a), .val (.ref ids), .val (.int 1), .unset] [(.int 1)]))
  refine g_aloadN hG X0 hx (hb hby d5_1) (pc' := 2) rfl rfl rfl ?_
  show G (s₁.setTop (mkF m 2 #[.val (.ref a), .val (.ref ids), .val (.int 1), .unset] [(.ref ids), (.int 1)]))
  refine g_arraylength hG X0 hx hZ e0 V_ids (hb hby d5_2) (pc' := 3) rfl ?_
  show G (s₁.setTop (mkF m 3 #[.val (.ref a), .val (.ref ids), .val (.int 1), .unset] [(.int 0), (.int 1)]))
  refine g_icmpNo hG X0 hx (hb hby d5_3) (pc' := 6) (by decide) rfl ?_
  show G (s₁.setTop (mkF m 6 #[.val (.ref a), .val (.ref ids), .val (.int 1), .unset] []))
  refine g_iconst hG X0 hx (hb hby d5_6) (pc' := 7) rfl (v := (1 : Int32)) rfl ?_
  show G (s₁.setTop (mkF m 7 #[.val (.ref a), .val (.ref ids), .val (.int 1), .unset] [(.int 1)]))
  exact e_retZ hGe X0 hx hrt hlk (hb hby d5_7) (Or.inr rfl) e0 (by decide) (by decide) (⟨rfl, NF0, rfl⟩)

def Q_rmCz0_2 (Z : State) (a ids : Addr) (h0 : Heap) (n0 : Nat) (v : Option Value) (h : Heap) (L : List Loc) : Prop := v = some (.int 1) ∧ Fr n0 L ∧ h = h0
set_option maxRecDepth 65536 in
set_option maxHeartbeats 40000000 in
theorem rmCz0_2 (l : Launch) (Z : State) (a0 : Array Value) (hw : ∀ d ∈ tables_1, d.before a0 Z = true) (ws : List Jvm.Cond) (a ids : Addr) (h0 : Heap) (n0 : Nat) (Zs : n0 ≤ h0.size) (V_ids : AV Z h0 ids .int (0 : Int32) []) :
    Con l (⟨"com/example/gauge_terms/gaugeterms/TopValuesPositionsPinLaw", "check", "([D[II)Z"⟩ : MethodName) method_5_code 4 (some .boolean) ws ({ frames := 2, cells := 0, slots := 0, locals := 56 } : Room) Z #[(.ref a), (.ref ids), (.int 2)] h0 ({ frames := 2, cells := 0, slots := 0, locals := 56 } : Room).cells ({ frames := 2, cells := 0, slots := 0, locals := 56 } : Room).slots (Q_rmCz0_2 Z a ids  h0 n0) := by
  refine Con.of (Ls := #[.val (.ref a), .val (.ref ids), .val (.int 2), .unset]) (plainFor_of_name (by first | (simp [plainName, overriddenIn]; done) | decide +kernel)) (fun m => by first | (simp [entryFrame, mkF, argsToLocals, Value.category]; done) | rfl) ?_
  intro p e s m below meth c s₁ G hGe hG hx hby hml hown hnm hrt hlk hZ X0 e0
  have hown : s.vm.findClass "com/example/gauge_terms/gaugeterms/TopValuesPositionsPinLaw" = some m.cls := hown
  have hnm : meth.name = "check" := hnm
  have NF0 := Fr.nil n0
  refine g_iloadN hG X0 hx (hb hby d5_0) (pc' := 1) rfl rfl ?_
  show G (s₁.setTop (mkF m 1 #[.val (.ref a), .val (.ref ids), .val (.int 2), .unset] [(.int 2)]))
  refine g_aloadN hG X0 hx (hb hby d5_1) (pc' := 2) rfl rfl rfl ?_
  show G (s₁.setTop (mkF m 2 #[.val (.ref a), .val (.ref ids), .val (.int 2), .unset] [(.ref ids), (.int 2)]))
  refine g_arraylength hG X0 hx hZ e0 V_ids (hb hby d5_2) (pc' := 3) rfl ?_
  show G (s₁.setTop (mkF m 3 #[.val (.ref a), .val (.ref ids), .val (.int 2), .unset] [(.int 0), (.int 2)]))
  refine g_icmpNo hG X0 hx (hb hby d5_3) (pc' := 6) (by decide) rfl ?_
  show G (s₁.setTop (mkF m 6 #[.val (.ref a), .val (.ref ids), .val (.int 2), .unset] []))
  refine g_iconst hG X0 hx (hb hby d5_6) (pc' := 7) rfl (v := (1 : Int32)) rfl ?_
  show G (s₁.setTop (mkF m 7 #[.val (.ref a), .val (.ref ids), .val (.int 2), .unset] [(.int 1)]))
  exact e_retZ hGe X0 hx hrt hlk (hb hby d5_7) (Or.inr rfl) e0 (by decide) (by decide) (⟨rfl, NF0, rfl⟩)

def Q_rmCz0_3 (Z : State) (a ids : Addr) (h0 : Heap) (n0 : Nat) (v : Option Value) (h : Heap) (L : List Loc) : Prop := v = some (.int 1) ∧ Fr n0 L ∧ h = h0
set_option maxRecDepth 65536 in
set_option maxHeartbeats 40000000 in
theorem rmCz0_3 (l : Launch) (Z : State) (a0 : Array Value) (hw : ∀ d ∈ tables_1, d.before a0 Z = true) (ws : List Jvm.Cond) (a ids : Addr) (h0 : Heap) (n0 : Nat) (Zs : n0 ≤ h0.size) (V_ids : AV Z h0 ids .int (0 : Int32) []) :
    Con l (⟨"com/example/gauge_terms/gaugeterms/TopValuesPositionsPinLaw", "check", "([D[II)Z"⟩ : MethodName) method_5_code 4 (some .boolean) ws ({ frames := 2, cells := 0, slots := 0, locals := 56 } : Room) Z #[(.ref a), (.ref ids), (.int 3)] h0 ({ frames := 2, cells := 0, slots := 0, locals := 56 } : Room).cells ({ frames := 2, cells := 0, slots := 0, locals := 56 } : Room).slots (Q_rmCz0_3 Z a ids  h0 n0) := by
  refine Con.of (Ls := #[.val (.ref a), .val (.ref ids), .val (.int 3), .unset]) (plainFor_of_name (by first | (simp [plainName, overriddenIn]; done) | decide +kernel)) (fun m => by first | (simp [entryFrame, mkF, argsToLocals, Value.category]; done) | rfl) ?_
  intro p e s m below meth c s₁ G hGe hG hx hby hml hown hnm hrt hlk hZ X0 e0
  have hown : s.vm.findClass "com/example/gauge_terms/gaugeterms/TopValuesPositionsPinLaw" = some m.cls := hown
  have hnm : meth.name = "check" := hnm
  have NF0 := Fr.nil n0
  refine g_iloadN hG X0 hx (hb hby d5_0) (pc' := 1) rfl rfl ?_
  show G (s₁.setTop (mkF m 1 #[.val (.ref a), .val (.ref ids), .val (.int 3), .unset] [(.int 3)]))
  refine g_aloadN hG X0 hx (hb hby d5_1) (pc' := 2) rfl rfl rfl ?_
  show G (s₁.setTop (mkF m 2 #[.val (.ref a), .val (.ref ids), .val (.int 3), .unset] [(.ref ids), (.int 3)]))
  refine g_arraylength hG X0 hx hZ e0 V_ids (hb hby d5_2) (pc' := 3) rfl ?_
  show G (s₁.setTop (mkF m 3 #[.val (.ref a), .val (.ref ids), .val (.int 3), .unset] [(.int 0), (.int 3)]))
  refine g_icmpNo hG X0 hx (hb hby d5_3) (pc' := 6) (by decide) rfl ?_
  show G (s₁.setTop (mkF m 6 #[.val (.ref a), .val (.ref ids), .val (.int 3), .unset] []))
  refine g_iconst hG X0 hx (hb hby d5_6) (pc' := 7) rfl (v := (1 : Int32)) rfl ?_
  show G (s₁.setTop (mkF m 7 #[.val (.ref a), .val (.ref ids), .val (.int 3), .unset] [(.int 1)]))
  exact e_retZ hGe X0 hx hrt hlk (hb hby d5_7) (Or.inr rfl) e0 (by decide) (by decide) (⟨rfl, NF0, rfl⟩)

def Q_rmPos0_0 (Z : State) (a : Addr) (al : Int32 → UInt64) (b01 b02 b03 b12 b13 b23 : Bool) (lim r : Int64) (h0 : Heap) (n0 : Nat) (v : Option Value) (h : Heap) (L : List Loc) : Prop := ∃ (b : Addr), v = some (.ref b) ∧ Fr n0 L ∧ Keep h0 h [] ∧ h0.size ≤ b ∧ (AV Z h b .int (0 : Int32) []) ∧ tops (btB b01 b02 b03 b12 b13 b23) 0 0 [] = true
set_option maxRecDepth 65536 in
set_option maxHeartbeats 40000000 in
theorem rmPos0_0 (l : Launch) (Z : State) (a0 : Array Value) (hw : ∀ d ∈ tables_1, d.before a0 Z = true) (ws : List Jvm.Cond) (a : Addr) (al : Int32 → UInt64) (b01 b02 b03 b12 b13 b23 : Bool) (lim r : Int64) (h0 : Heap) (n0 : Nat) (Zs : n0 ≤ h0.size) (V_a : AV Z h0 a .double (0 : Int32) []) (TR : trB b01 b02 b03 b12 b13 b23 = true) (BT : ∀ x y, In4 x → In4 y → BtR al x y (bi (btB b01 b02 b03 b12 b13 b23) x y)) (hm : (¬ (0 : Int32).toInt64 < lim ∧ r = lim) ∨ ((0 : Int32).toInt64 < lim ∧ r = (0 : Int32).toInt64)) (hk : r.toInt32 = (0 : Int32)) :
    Con l (⟨"com/example/gauge_terms/gaugeterms/TopValues", "positions", "([DJ)[I"⟩ : MethodName) prog_3_method_2_code 8 (some (.array .int)) ws ({ frames := 1, cells := 1, slots := 0, locals := 40 } : Room) Z #[(.ref a), (.long lim)] h0 ({ frames := 1, cells := 1, slots := 0, locals := 40 } : Room).cells ({ frames := 1, cells := 1, slots := 0, locals := 40 } : Room).slots (Q_rmPos0_0 Z a al b01 b02 b03 b12 b13 b23 lim r h0 n0) := by
  refine Con.of (Ls := #[.val (.ref a), .val (.long lim), .second, .unset, .unset, .unset, .unset, .unset]) (plainFor_of_name (by first | (simp [plainName, overriddenIn]; done) | decide +kernel)) (fun m => by first | (simp [entryFrame, mkF, argsToLocals, Value.category]; done) | rfl) ?_
  intro p e s m below meth c s₁ G hGe hG hx hby hml hown hnm hrt hlk hZ X0 e0
  have hown : s.vm.findClass "com/example/gauge_terms/gaugeterms/TopValues" = some m.cls := hown
  have hnm : meth.name = "positions" := hnm
  have NF0 := Fr.nil n0
  have K0 := Keep.refl h0 ([] : List Addr)
  have HT0 : tops (btB b01 b02 b03 b12 b13 b23) 0 0 [] = true := rfl
  refine g_lloadN hG X0 hx (hb hby d3_0) (pc' := 1) rfl rfl ?_
  refine g_aloadN hG X0 hx (hb hby d3_1) (pc' := 2) rfl rfl rfl ?_
  refine g_arraylength hG X0 hx hZ e0 V_a (hb hby d3_2) (pc' := 3) rfl ?_
  obtain ⟨v3, q3⟩ : ∃ zz : Int64, (0 : Int32).toInt64 = zz := ⟨_, rfl⟩
  refine g_i2l hG X0 hx (hb hby d3_3) (pc' := 4) rfl q3 ?_
  refine g_callS hG X0 hx hZ (y := (⟨"java/lang/Math", "min", "(JJ)J"⟩ : MethodName)) 0 hown (wd hw 14 rfl) (wd hw 7 rfl) (wd hw 8 rfl) (wd hw 9 rfl) (by decide) (rmMJ l Z a0 hw [] lim v3 r h0 n0 Zs (q3 ▸ hm)) (by decide) (by decide) (by rw [hml]; rfl) pd_0 rfl (argsL := [(.long lim), (.long v3)]) (rest := []) rfl rfl (Nat.le_of_eq rfl) (hb hby d3_4) e0 (by decide) (by decide) (pc' := 7) rfl ?_
  intro T1 rv1 L1 X1 hQ1
  obtain ⟨rfl, Nq1, eh1⟩ := hQ1
  have NF1 := Fr.app NF0 Nq1
  show G (T1.setTop (mkF m 7 _ [(.long r)]))
  refine g_l2i hG X1 hx (hb hby d3_7) (pc' := 8) rfl hk ?_
  refine g_newP hG X1 hx hZ (wd hw 15 rfl) eh1 (hb hby d3_8) (by decide) 0 (by decide) (by decide) (by decide) (by decide) (pc' := 10) rfl ?_
  intro T2 h2 ids kA2 gs2 X2 e2 E2 A2
  have ne_a_ids : a ≠ ids := Nat.ne_of_lt (gs2 ▸ V_a.lt)
  have ge_ids : n0 ≤ ids := gs2 ▸ Zs
  have sz_ids : h0.size ≤ ids := gs2 ▸ K0.1
  have Zs := Nat.le_trans Zs E2.1
  have V_a := V_a.ext E2
  have K2 := K0.ext E2
  have V_ids : AV Z h2 ids .int (0 : Int32) [] := AV.new A2
  refine g_astoreN hG X2 hx (hb hby d3_10) (pc' := 11) rfl rfl (Ls' := #[.val (.ref a), .val (.long lim), .second, .val (.ref ids), .unset, .unset, .unset, .unset]) rfl ?_
  refine g_iconst hG X2 hx (hb hby d3_11) (pc' := 12) rfl (v := (0 : Int32)) rfl ?_
  refine g_istore hG X2 hx (hb hby d3_12) (pc' := 14) rfl (Ls' := #[.val (.ref a), .val (.long lim), .second, .val (.ref ids), .val (.int 0), .unset, .unset, .unset]) rfl ?_
  refine g_iconst hG X2 hx (hb hby d3_14) (pc' := 15) rfl (v := (0 : Int32)) rfl ?_
  refine g_istore hG X2 hx (hb hby d3_15) (pc' := 17) rfl (Ls' := #[.val (.ref a), .val (.long lim), .second, .val (.ref ids), .val (.int 0), .val (.int 0), .unset, .unset]) rfl ?_
  refine g_iload hG X2 hx (hb hby d3_17) (pc' := 19) rfl rfl ?_
  refine g_aloadN hG X2 hx (hb hby d3_19) (pc' := 20) rfl rfl rfl ?_
  refine g_arraylength hG X2 hx hZ e2 V_a (hb hby d3_20) (pc' := 21) rfl ?_
  refine g_icmpYes hG X2 hx (hb hby d3_21) (pc' := 112) (by decide) (by decide) (by decide) ?_
  refine g_aloadN hG X2 hx (hb hby d3_112) (pc' := 113) rfl rfl rfl ?_
  exact e_retA hGe X2 hx hrt rfl hlk (hb hby d3_113) e2 (by decide) (by decide) (⟨ids,  rfl, NF1, K2, sz_ids, V_ids, HT0⟩)

def Q_rmBu1 (Z : State) (al : Int32 → UInt64) (h0 : Heap) (n0 : Nat) (v : Option Value) (h : Heap) (L : List Loc) : Prop := ∃ b : Addr, v = some (.ref b) ∧ Fr n0 L ∧ Keep h0 h [] ∧ h0.size ≤ b ∧ AV Z h b .double (1 : Int32) [(.double (al (0 : Int32)))]
set_option maxRecDepth 65536 in
set_option maxHeartbeats 40000000 in
theorem rmBu1 (l : Launch) (Z : State) (a0 : Array Value) (hw : ∀ d ∈ tables_1, d.before a0 Z = true) (ws : List Jvm.Cond) (al : Int32 → UInt64) (h0 : Heap) (n0 : Nat) (Zs : n0 ≤ h0.size)  :
    Con l (⟨"com/example/gauge_terms/gaugeterms/TopValuesPositionsPinLaw", "build", "(IDDDD)[D"⟩ : MethodName) method_2_code 9 (some (.array .double)) ws ({ frames := 0, cells := 1, slots := 1, locals := 0 } : Room) Z #[(.int 1), (.double (al (0 : Int32))), (.double (al (1 : Int32))), (.double (al (2 : Int32))), (.double (al (3 : Int32)))] h0 ({ frames := 0, cells := 1, slots := 1, locals := 0 } : Room).cells ({ frames := 0, cells := 1, slots := 1, locals := 0 } : Room).slots (Q_rmBu1 Z al h0 n0) := by
  refine Con.of (Ls := #[.val (.int 1), .val (.double (al (0 : Int32))), .second, .val (.double (al (1 : Int32))), .second, .val (.double (al (2 : Int32))), .second, .val (.double (al (3 : Int32))), .second]) (plainFor_of_name (by first | (simp [plainName, overriddenIn]; done) | decide +kernel)) (fun m => by first | (simp [entryFrame, mkF, argsToLocals, Value.category]; done) | rfl) ?_
  intro p e s m below meth c s₁ G hGe hG hx hby hml hown hnm hrt hlk hZ X0 e0
  have hown : s.vm.findClass "com/example/gauge_terms/gaugeterms/TopValuesPositionsPinLaw" = some m.cls := hown
  have hnm : meth.name = "build" := hnm
  have NF0 := Fr.nil n0
  have K0 := Keep.refl h0 ([] : List Addr)
  refine g_iloadN hG X0 hx (hb hby d1_0) (pc' := 1) rfl rfl ?_
  refine g_ifYes hG X0 hx (hb hby d1_1) (pc' := 8) (by decide) (by decide) (by decide) ?_
  refine g_iloadN hG X0 hx (hb hby d1_8) (pc' := 9) rfl rfl ?_
  refine g_iconst hG X0 hx (hb hby d1_9) (pc' := 10) rfl (v := (1 : Int32)) rfl ?_
  refine g_icmpNo hG X0 hx (hb hby d1_10) (pc' := 13) (by decide) rfl ?_
  refine g_iconst hG X0 hx (hb hby d1_13) (pc' := 14) rfl (v := (1 : Int32)) rfl ?_
  refine g_newP hG X0 hx hZ (wd hw 5 rfl) e0 (hb hby d1_14) (by decide) 1 (by decide) (by decide) (by decide) (by decide) (pc' := 16) rfl ?_
  intro T1 h1 b kA1 gs1 X1 e1 E1 A1
  have ge_b : n0 ≤ b := gs1 ▸ Zs
  have sz_b : h0.size ≤ b := gs1 ▸ K0.1
  have Zs := Nat.le_trans Zs E1.1
  have K1 := K0.ext E1
  have V_b : AV Z h1 b .double (1 : Int32) [(.double 0)] := AV.new A1
  refine g_dup hG X1 hx (hb hby d1_16) (pc' := 17) rfl rfl ?_
  refine g_iconst hG X1 hx (hb hby d1_17) (pc' := 18) rfl (v := (0 : Int32)) rfl ?_
  refine g_dloadN hG X1 hx (hb hby d1_18) (pc' := 19) rfl rfl ?_
  refine g_dastore hG X1 hx hZ e1 V_b (j := (0 : Int32)) (by decide) (show Int32.toNatClampNeg (0 : Int32) < 1 by decide) (hb hby d1_19) (pc' := 20) rfl ?_
  intro T2 h2 X2 e2 W2 Vn2
  have V_b : AV Z h2 b .double (1 : Int32) [(.double (al (0 : Int32)))] := Vn2
  have Zs := Nat.le_trans Zs (Wr.size W2)
  have NF2 := Fr.snoc X2 NF0 ge_b
  have K2 := K1.wr W2 (Or.inr sz_b)
  exact e_retA hGe X2 hx hrt rfl hlk (hb hby d1_20) e2 (by decide) (by decide) (⟨b, rfl, NF2, K2, sz_b, V_b⟩)

def Q_rmBe1 (Z : State) (a : Addr) (al : Int32 → UInt64) (q pj r : Int32) (h0 : Heap) (n0 : Nat) (v : Option Value) (h : Heap) (L : List Loc) : Prop := v = some (.int r) ∧ Fr n0 L ∧ h = h0
set_option maxRecDepth 65536 in
set_option maxHeartbeats 40000000 in
theorem rmBe1 (l : Launch) (Z : State) (a0 : Array Value) (hw : ∀ d ∈ tables_1, d.before a0 Z = true) (ws : List Jvm.Cond) (a : Addr) (al : Int32 → UInt64) (q pj r : Int32) (h0 : Heap) (n0 : Nat) (Zs : n0 ≤ h0.size) (V_a : AV Z h0 a .double (1 : Int32) [(.double (al (0 : Int32)))]) (bq : 0 ≤ q.toInt ∧ q.toInt < 1) (bpj : 0 ≤ pj.toInt ∧ pj.toInt < 1) (hb : BtR al q pj r) :
    Con l (⟨"com/example/gauge_terms/gaugeterms/TopValuesPositionsPinLaw", "beats", "([DII)I"⟩ : MethodName) method_3_code 3 (some .int) ws ({ frames := 0, cells := 0, slots := 0, locals := 0 } : Room) Z #[(.ref a), (.int q), (.int pj)] h0 ({ frames := 0, cells := 0, slots := 0, locals := 0 } : Room).cells ({ frames := 0, cells := 0, slots := 0, locals := 0 } : Room).slots (Q_rmBe1 Z a al q pj r h0 n0) := by
  refine Con.of (Ls := #[.val (.ref a), .val (.int q), .val (.int pj)]) (plainFor_of_name (by first | (simp [plainName, overriddenIn]; done) | decide +kernel)) (fun m => by first | (simp [entryFrame, mkF, argsToLocals, Value.category]; done) | rfl) ?_
  intro p e s m below meth c s₁ G hGe hG hx hby hml hown hnm hrt hlk hZ X0 e0
  have hown : s.vm.findClass "com/example/gauge_terms/gaugeterms/TopValuesPositionsPinLaw" = some m.cls := hown
  have hnm : meth.name = "beats" := hnm
  have NF0 := Fr.nil n0
  rcases hb with ⟨c1, hr⟩ | ⟨c1, c2, hr⟩ | ⟨c1, c2, hr⟩ | ⟨c1, hr⟩
  · skip
    refine g_iloadN hG X0 hx (hb hby d7_0) (pc' := 1) rfl rfl ?_
    refine g_aloadN hG X0 hx (hb hby d7_1) (pc' := 2) rfl rfl rfl ?_
    refine g_arraylength hG X0 hx hZ e0 V_a (hb hby d7_2) (pc' := 3) rfl ?_
    refine g_icmpYes hG X0 hx (hb hby d7_3) (pc' := 8) ((tlt (Int32.lt_iff_toInt_lt.mpr (by rw [show (1 : Int32).toInt = 1 by decide]; exact bq.2))).1) (by decide) (by decide) ?_
    refine g_aloadN hG X0 hx (hb hby d7_8) (pc' := 9) rfl rfl rfl ?_
    refine g_iloadN hG X0 hx (hb hby d7_9) (pc' := 10) rfl rfl ?_
    refine g_daload hG X0 hx hZ e0 V_a (j := q) (v := (.double (al q))) (nn_of bq.1) (al_at1 (in1_of bq.1 bq.2)) (hb hby d7_10) (pc' := 11) rfl ?_
    refine g_aloadN hG X0 hx (hb hby d7_11) (pc' := 12) rfl rfl rfl ?_
    refine g_iloadN hG X0 hx (hb hby d7_12) (pc' := 13) rfl rfl ?_
    refine g_daload hG X0 hx hZ e0 V_a (j := pj) (v := (.double (al pj))) (nn_of bpj.1) (al_at1 (in1_of bpj.1 bpj.2)) (hb hby d7_13) (pc' := 14) rfl ?_
    obtain ⟨v14, q14⟩ : ∃ zz : Int32, cmpValue (FP.dcmp (al q) (al pj)) .l = zz := ⟨_, rfl⟩
    refine g_dcmp hG X0 hx (hb hby d7_14) (pc' := 15) rfl q14 ?_
    refine g_ifNo hG X0 hx (hb hby d7_15) (pc' := 18) (by rw [← q14, c1]; rfl) rfl ?_
    refine g_iconst hG X0 hx (hb hby d7_18) (pc' := 19) rfl (v := (1 : Int32)) rfl ?_
    exact e_retI hGe X0 hx hrt hlk (hb hby d7_19) e0 (by decide) (by decide) (⟨by rw [hr], NF0, rfl⟩)
  · skip
    refine g_iloadN hG X0 hx (hb hby d7_0) (pc' := 1) rfl rfl ?_
    refine g_aloadN hG X0 hx (hb hby d7_1) (pc' := 2) rfl rfl rfl ?_
    refine g_arraylength hG X0 hx hZ e0 V_a (hb hby d7_2) (pc' := 3) rfl ?_
    refine g_icmpYes hG X0 hx (hb hby d7_3) (pc' := 8) ((tlt (Int32.lt_iff_toInt_lt.mpr (by rw [show (1 : Int32).toInt = 1 by decide]; exact bq.2))).1) (by decide) (by decide) ?_
    refine g_aloadN hG X0 hx (hb hby d7_8) (pc' := 9) rfl rfl rfl ?_
    refine g_iloadN hG X0 hx (hb hby d7_9) (pc' := 10) rfl rfl ?_
    refine g_daload hG X0 hx hZ e0 V_a (j := q) (v := (.double (al q))) (nn_of bq.1) (al_at1 (in1_of bq.1 bq.2)) (hb hby d7_10) (pc' := 11) rfl ?_
    refine g_aloadN hG X0 hx (hb hby d7_11) (pc' := 12) rfl rfl rfl ?_
    refine g_iloadN hG X0 hx (hb hby d7_12) (pc' := 13) rfl rfl ?_
    refine g_daload hG X0 hx hZ e0 V_a (j := pj) (v := (.double (al pj))) (nn_of bpj.1) (al_at1 (in1_of bpj.1 bpj.2)) (hb hby d7_13) (pc' := 14) rfl ?_
    obtain ⟨v14, q14⟩ : ∃ zz : Int32, cmpValue (FP.dcmp (al q) (al pj)) .l = zz := ⟨_, rfl⟩
    refine g_dcmp hG X0 hx (hb hby d7_14) (pc' := 15) rfl q14 ?_
    refine g_ifYes hG X0 hx (hb hby d7_15) (pc' := 20) (by rw [← q14, c1]; rfl) (by decide) (by decide) ?_
    refine g_aloadN hG X0 hx (hb hby d7_20) (pc' := 21) rfl rfl rfl ?_
    refine g_iloadN hG X0 hx (hb hby d7_21) (pc' := 22) rfl rfl ?_
    refine g_daload hG X0 hx hZ e0 V_a (j := q) (v := (.double (al q))) (nn_of bq.1) (al_at1 (in1_of bq.1 bq.2)) (hb hby d7_22) (pc' := 23) rfl ?_
    refine g_aloadN hG X0 hx (hb hby d7_23) (pc' := 24) rfl rfl rfl ?_
    refine g_iloadN hG X0 hx (hb hby d7_24) (pc' := 25) rfl rfl ?_
    refine g_daload hG X0 hx hZ e0 V_a (j := pj) (v := (.double (al pj))) (nn_of bpj.1) (al_at1 (in1_of bpj.1 bpj.2)) (hb hby d7_25) (pc' := 26) rfl ?_
    obtain ⟨v26, q26⟩ : ∃ zz : Int32, cmpValue (FP.dcmp (al q) (al pj)) .l = zz := ⟨_, rfl⟩
    refine g_dcmp hG X0 hx (hb hby d7_26) (pc' := 27) rfl q26 ?_
    refine g_ifNo hG X0 hx (hb hby d7_27) (pc' := 30) (by rw [← q26, c1]; rfl) rfl ?_
    refine g_iloadN hG X0 hx (hb hby d7_30) (pc' := 31) rfl rfl ?_
    refine g_iloadN hG X0 hx (hb hby d7_31) (pc' := 32) rfl rfl ?_
    refine g_icmpNo hG X0 hx (hb hby d7_32) (pc' := 35) ((tlt c2).2.1) rfl ?_
    refine g_iconst hG X0 hx (hb hby d7_35) (pc' := 36) rfl (v := (1 : Int32)) rfl ?_
    exact e_retI hGe X0 hx hrt hlk (hb hby d7_36) e0 (by decide) (by decide) (⟨by rw [hr], NF0, rfl⟩)
  · skip
    refine g_iloadN hG X0 hx (hb hby d7_0) (pc' := 1) rfl rfl ?_
    refine g_aloadN hG X0 hx (hb hby d7_1) (pc' := 2) rfl rfl rfl ?_
    refine g_arraylength hG X0 hx hZ e0 V_a (hb hby d7_2) (pc' := 3) rfl ?_
    refine g_icmpYes hG X0 hx (hb hby d7_3) (pc' := 8) ((tlt (Int32.lt_iff_toInt_lt.mpr (by rw [show (1 : Int32).toInt = 1 by decide]; exact bq.2))).1) (by decide) (by decide) ?_
    refine g_aloadN hG X0 hx (hb hby d7_8) (pc' := 9) rfl rfl rfl ?_
    refine g_iloadN hG X0 hx (hb hby d7_9) (pc' := 10) rfl rfl ?_
    refine g_daload hG X0 hx hZ e0 V_a (j := q) (v := (.double (al q))) (nn_of bq.1) (al_at1 (in1_of bq.1 bq.2)) (hb hby d7_10) (pc' := 11) rfl ?_
    refine g_aloadN hG X0 hx (hb hby d7_11) (pc' := 12) rfl rfl rfl ?_
    refine g_iloadN hG X0 hx (hb hby d7_12) (pc' := 13) rfl rfl ?_
    refine g_daload hG X0 hx hZ e0 V_a (j := pj) (v := (.double (al pj))) (nn_of bpj.1) (al_at1 (in1_of bpj.1 bpj.2)) (hb hby d7_13) (pc' := 14) rfl ?_
    obtain ⟨v14, q14⟩ : ∃ zz : Int32, cmpValue (FP.dcmp (al q) (al pj)) .l = zz := ⟨_, rfl⟩
    refine g_dcmp hG X0 hx (hb hby d7_14) (pc' := 15) rfl q14 ?_
    refine g_ifYes hG X0 hx (hb hby d7_15) (pc' := 20) (by rw [← q14, c1]; rfl) (by decide) (by decide) ?_
    refine g_aloadN hG X0 hx (hb hby d7_20) (pc' := 21) rfl rfl rfl ?_
    refine g_iloadN hG X0 hx (hb hby d7_21) (pc' := 22) rfl rfl ?_
    refine g_daload hG X0 hx hZ e0 V_a (j := q) (v := (.double (al q))) (nn_of bq.1) (al_at1 (in1_of bq.1 bq.2)) (hb hby d7_22) (pc' := 23) rfl ?_
    refine g_aloadN hG X0 hx (hb hby d7_23) (pc' := 24) rfl rfl rfl ?_
    refine g_iloadN hG X0 hx (hb hby d7_24) (pc' := 25) rfl rfl ?_
    refine g_daload hG X0 hx hZ e0 V_a (j := pj) (v := (.double (al pj))) (nn_of bpj.1) (al_at1 (in1_of bpj.1 bpj.2)) (hb hby d7_25) (pc' := 26) rfl ?_
    obtain ⟨v26, q26⟩ : ∃ zz : Int32, cmpValue (FP.dcmp (al q) (al pj)) .l = zz := ⟨_, rfl⟩
    refine g_dcmp hG X0 hx (hb hby d7_26) (pc' := 27) rfl q26 ?_
    refine g_ifNo hG X0 hx (hb hby d7_27) (pc' := 30) (by rw [← q26, c1]; rfl) rfl ?_
    refine g_iloadN hG X0 hx (hb hby d7_30) (pc' := 31) rfl rfl ?_
    refine g_iloadN hG X0 hx (hb hby d7_31) (pc' := 32) rfl rfl ?_
    refine g_icmpYes hG X0 hx (hb hby d7_32) (pc' := 37) ((flt c2).2.1) (by decide) (by decide) ?_
    refine g_iconst hG X0 hx (hb hby d7_37) (pc' := 38) rfl (v := (0 : Int32)) rfl ?_
    exact e_retI hGe X0 hx hrt hlk (hb hby d7_38) e0 (by decide) (by decide) (⟨by rw [hr], NF0, rfl⟩)
  · skip
    refine g_iloadN hG X0 hx (hb hby d7_0) (pc' := 1) rfl rfl ?_
    refine g_aloadN hG X0 hx (hb hby d7_1) (pc' := 2) rfl rfl rfl ?_
    refine g_arraylength hG X0 hx hZ e0 V_a (hb hby d7_2) (pc' := 3) rfl ?_
    refine g_icmpYes hG X0 hx (hb hby d7_3) (pc' := 8) ((tlt (Int32.lt_iff_toInt_lt.mpr (by rw [show (1 : Int32).toInt = 1 by decide]; exact bq.2))).1) (by decide) (by decide) ?_
    refine g_aloadN hG X0 hx (hb hby d7_8) (pc' := 9) rfl rfl rfl ?_
    refine g_iloadN hG X0 hx (hb hby d7_9) (pc' := 10) rfl rfl ?_
    refine g_daload hG X0 hx hZ e0 V_a (j := q) (v := (.double (al q))) (nn_of bq.1) (al_at1 (in1_of bq.1 bq.2)) (hb hby d7_10) (pc' := 11) rfl ?_
    refine g_aloadN hG X0 hx (hb hby d7_11) (pc' := 12) rfl rfl rfl ?_
    refine g_iloadN hG X0 hx (hb hby d7_12) (pc' := 13) rfl rfl ?_
    refine g_daload hG X0 hx hZ e0 V_a (j := pj) (v := (.double (al pj))) (nn_of bpj.1) (al_at1 (in1_of bpj.1 bpj.2)) (hb hby d7_13) (pc' := 14) rfl ?_
    obtain ⟨v14, q14⟩ : ∃ zz : Int32, cmpValue (FP.dcmp (al q) (al pj)) .l = zz := ⟨_, rfl⟩
    refine g_dcmp hG X0 hx (hb hby d7_14) (pc' := 15) rfl q14 ?_
    refine g_ifYes hG X0 hx (hb hby d7_15) (pc' := 20) (by rw [← q14, c1]; rfl) (by decide) (by decide) ?_
    refine g_aloadN hG X0 hx (hb hby d7_20) (pc' := 21) rfl rfl rfl ?_
    refine g_iloadN hG X0 hx (hb hby d7_21) (pc' := 22) rfl rfl ?_
    refine g_daload hG X0 hx hZ e0 V_a (j := q) (v := (.double (al q))) (nn_of bq.1) (al_at1 (in1_of bq.1 bq.2)) (hb hby d7_22) (pc' := 23) rfl ?_
    refine g_aloadN hG X0 hx (hb hby d7_23) (pc' := 24) rfl rfl rfl ?_
    refine g_iloadN hG X0 hx (hb hby d7_24) (pc' := 25) rfl rfl ?_
    refine g_daload hG X0 hx hZ e0 V_a (j := pj) (v := (.double (al pj))) (nn_of bpj.1) (al_at1 (in1_of bpj.1 bpj.2)) (hb hby d7_25) (pc' := 26) rfl ?_
    obtain ⟨v26, q26⟩ : ∃ zz : Int32, cmpValue (FP.dcmp (al q) (al pj)) .l = zz := ⟨_, rfl⟩
    refine g_dcmp hG X0 hx (hb hby d7_26) (pc' := 27) rfl q26 ?_
    refine g_ifYes hG X0 hx (hb hby d7_27) (pc' := 37) (by rw [← q26, c1]; rfl) (by decide) (by decide) ?_
    refine g_iconst hG X0 hx (hb hby d7_37) (pc' := 38) rfl (v := (0 : Int32)) rfl ?_
    exact e_retI hGe X0 hx hrt hlk (hb hby d7_38) e0 (by decide) (by decide) (⟨by rw [hr], NF0, rfl⟩)

def Q_rmBz1 (Z : State) (a : Addr) (al : Int32 → UInt64) (q pj : Int32) (h0 : Heap) (n0 : Nat) (v : Option Value) (h : Heap) (L : List Loc) : Prop := v = some (.int 0) ∧ Fr n0 L ∧ h = h0
set_option maxRecDepth 65536 in
set_option maxHeartbeats 40000000 in
theorem rmBz1 (l : Launch) (Z : State) (a0 : Array Value) (hw : ∀ d ∈ tables_1, d.before a0 Z = true) (ws : List Jvm.Cond) (a : Addr) (al : Int32 → UInt64) (q pj : Int32) (h0 : Heap) (n0 : Nat) (Zs : n0 ≤ h0.size) (V_a : AV Z h0 a .double (1 : Int32) [(.double (al (0 : Int32)))]) (hq : ¬ q < (1 : Int32)) :
    Con l (⟨"com/example/gauge_terms/gaugeterms/TopValuesPositionsPinLaw", "beats", "([DII)I"⟩ : MethodName) method_3_code 3 (some .int) ws ({ frames := 0, cells := 0, slots := 0, locals := 0 } : Room) Z #[(.ref a), (.int q), (.int pj)] h0 ({ frames := 0, cells := 0, slots := 0, locals := 0 } : Room).cells ({ frames := 0, cells := 0, slots := 0, locals := 0 } : Room).slots (Q_rmBz1 Z a al q pj h0 n0) := by
  refine Con.of (Ls := #[.val (.ref a), .val (.int q), .val (.int pj)]) (plainFor_of_name (by first | (simp [plainName, overriddenIn]; done) | decide +kernel)) (fun m => by first | (simp [entryFrame, mkF, argsToLocals, Value.category]; done) | rfl) ?_
  intro p e s m below meth c s₁ G hGe hG hx hby hml hown hnm hrt hlk hZ X0 e0
  have hown : s.vm.findClass "com/example/gauge_terms/gaugeterms/TopValuesPositionsPinLaw" = some m.cls := hown
  have hnm : meth.name = "beats" := hnm
  have NF0 := Fr.nil n0
  refine g_iloadN hG X0 hx (hb hby d7_0) (pc' := 1) rfl rfl ?_
  show G (s₁.setTop (mkF m 1 #[.val (.ref a), .val (.int q), .val (.int pj)] [(.int q)]))
  refine g_aloadN hG X0 hx (hb hby d7_1) (pc' := 2) rfl rfl rfl ?_
  show G (s₁.setTop (mkF m 2 #[.val (.ref a), .val (.int q), .val (.int pj)] [(.ref a), (.int q)]))
  refine g_arraylength hG X0 hx hZ e0 V_a (hb hby d7_2) (pc' := 3) rfl ?_
  show G (s₁.setTop (mkF m 3 #[.val (.ref a), .val (.int q), .val (.int pj)] [(.int 1), (.int q)]))
  refine g_icmpNo hG X0 hx (hb hby d7_3) (pc' := 6) ((flt hq).1) rfl ?_
  show G (s₁.setTop (mkF m 6 #[.val (.ref a), .val (.int q), .val (.int pj)] []))
  refine g_iconst hG X0 hx (hb hby d7_6) (pc' := 7) rfl (v := (0 : Int32)) rfl ?_
  show G (s₁.setTop (mkF m 7 #[.val (.ref a), .val (.int q), .val (.int pj)] [(.int 0)]))
  exact e_retI hGe X0 hx hrt hlk (hb hby d7_7) e0 (by decide) (by decide) (⟨rfl, NF0, rfl⟩)

def Q_rmRk1 (Z : State) (a : Addr) (al : Int32 → UInt64) (bt : Int32 → Int32 → Bool) (pj z : Int32) (h0 : Heap) (n0 : Nat) (v : Option Value) (h : Heap) (L : List Loc) : Prop := v = some (.int z) ∧ Fr n0 L ∧ h = h0
set_option maxRecDepth 65536 in
set_option maxHeartbeats 40000000 in
theorem rmRk1 (l : Launch) (Z : State) (a0 : Array Value) (hw : ∀ d ∈ tables_1, d.before a0 Z = true) (ws : List Jvm.Cond) (a : Addr) (al : Int32 → UInt64) (bt : Int32 → Int32 → Bool) (pj z : Int32) (h0 : Heap) (n0 : Nat) (Zs : n0 ≤ h0.size) (V_a : AV Z h0 a .double (1 : Int32) [(.double (al (0 : Int32)))]) (bpj : 0 ≤ pj.toInt ∧ pj.toInt < 1) (BT : ∀ x y, In4 x → In4 y → BtR al x y (bi bt x y)) (hz : rk1 bt pj = z) :
    Con l (⟨"com/example/gauge_terms/gaugeterms/TopValuesPositionsPinLaw", "rank", "([DI)I"⟩ : MethodName) method_4_code 2 (some .int) ws ({ frames := 1, cells := 0, slots := 0, locals := 24 } : Room) Z #[(.ref a), (.int pj)] h0 ({ frames := 1, cells := 0, slots := 0, locals := 24 } : Room).cells ({ frames := 1, cells := 0, slots := 0, locals := 24 } : Room).slots (Q_rmRk1 Z a al bt pj z h0 n0) := by
  refine Con.of (Ls := #[.val (.ref a), .val (.int pj)]) (plainFor_of_name (by first | (simp [plainName, overriddenIn]; done) | decide +kernel)) (fun m => by first | (simp [entryFrame, mkF, argsToLocals, Value.category]; done) | rfl) ?_
  intro p e s m below meth c s₁ G hGe hG hx hby hml hown hnm hrt hlk hZ X0 e0
  have hown : s.vm.findClass "com/example/gauge_terms/gaugeterms/TopValuesPositionsPinLaw" = some m.cls := hown
  have hnm : meth.name = "rank" := hnm
  have NF0 := Fr.nil n0
  refine g_aloadN hG X0 hx (hb hby d6_0) (pc' := 1) rfl rfl rfl ?_
  refine g_iconst hG X0 hx (hb hby d6_1) (pc' := 2) rfl (v := (0 : Int32)) rfl ?_
  refine g_iloadN hG X0 hx (hb hby d6_2) (pc' := 3) rfl rfl ?_
  refine g_callS hG X0 hx hZ (y := (⟨"com/example/gauge_terms/gaugeterms/TopValuesPositionsPinLaw", "beats", "([DII)I"⟩ : MethodName)) 0 hown (wd hw 29 rfl) (wd hw 30 rfl) (wd hw 3 rfl) (wd hw 31 rfl) (by decide) (rmBe1 l Z a0 hw [] a al (0 : Int32) pj (bi bt (0 : Int32) pj) h0 n0 Zs V_a (by decide) bpj (BT (0 : Int32) pj (by decide) (in4_of bpj.1 (by omega)))) (by decide) (by decide) (by rw [hml]; rfl) pd_1 rfl (argsL := [(.ref a), (.int 0), (.int pj)]) (rest := []) rfl rfl (Nat.le_of_eq rfl) (hb hby d6_3) e0 (by decide) (by decide) (pc' := 6) rfl ?_
  intro T1 rv1 L1 X1 hQ1
  obtain ⟨rfl, Nq1, eh1⟩ := hQ1
  have NF1 := Fr.app NF0 Nq1
  show G (T1.setTop (mkF m 6 _ [(.int (bi bt (0 : Int32) pj))]))
  refine g_aloadN hG X1 hx (hb hby d6_6) (pc' := 7) rfl rfl rfl ?_
  refine g_iconst hG X1 hx (hb hby d6_7) (pc' := 8) rfl (v := (1 : Int32)) rfl ?_
  refine g_iloadN hG X1 hx (hb hby d6_8) (pc' := 9) rfl rfl ?_
  refine g_callS hG X1 hx hZ (y := (⟨"com/example/gauge_terms/gaugeterms/TopValuesPositionsPinLaw", "beats", "([DII)I"⟩ : MethodName)) 1 hown (wd hw 29 rfl) (wd hw 30 rfl) (wd hw 3 rfl) (wd hw 31 rfl) (by decide) (rmBz1 l Z a0 hw [] a al (1 : Int32) pj h0 n0 Zs V_a (by decide)) (by decide) (by decide) (by rw [hml]; rfl) pd_1 rfl (argsL := [(.ref a), (.int 1), (.int pj)]) (rest := [(.int (bi bt (0 : Int32) pj))]) rfl rfl (Nat.le_of_eq rfl) (hb hby d6_9) eh1 (by decide) (by decide) (pc' := 12) rfl ?_
  intro T2 rv2 L2 X2 hQ2
  obtain ⟨rfl, Nq2, eh2⟩ := hQ2
  have NF2 := Fr.app NF1 Nq2
  show G (T2.setTop (mkF m 12 _ [(.int 0), (.int (bi bt (0 : Int32) pj))]))
  obtain ⟨v12, q12⟩ : ∃ zz : Int32, (bi bt (0 : Int32) pj) + (0 : Int32) = zz := ⟨_, rfl⟩
  refine g_iadd hG X2 hx (hb hby d6_12) (pc' := 13) rfl q12 ?_
  refine g_aloadN hG X2 hx (hb hby d6_13) (pc' := 14) rfl rfl rfl ?_
  refine g_iconst hG X2 hx (hb hby d6_14) (pc' := 15) rfl (v := (2 : Int32)) rfl ?_
  refine g_iloadN hG X2 hx (hb hby d6_15) (pc' := 16) rfl rfl ?_
  refine g_callS hG X2 hx hZ (y := (⟨"com/example/gauge_terms/gaugeterms/TopValuesPositionsPinLaw", "beats", "([DII)I"⟩ : MethodName)) 1 hown (wd hw 29 rfl) (wd hw 30 rfl) (wd hw 3 rfl) (wd hw 31 rfl) (by decide) (rmBz1 l Z a0 hw [] a al (2 : Int32) pj h0 n0 Zs V_a (by decide)) (by decide) (by decide) (by rw [hml]; rfl) pd_1 rfl (argsL := [(.ref a), (.int 2), (.int pj)]) (rest := [(.int v12)]) rfl rfl (Nat.le_of_eq rfl) (hb hby d6_16) eh2 (by decide) (by decide) (pc' := 19) rfl ?_
  intro T3 rv3 L3 X3 hQ3
  obtain ⟨rfl, Nq3, eh3⟩ := hQ3
  have NF3 := Fr.app NF2 Nq3
  show G (T3.setTop (mkF m 19 _ [(.int 0), (.int v12)]))
  obtain ⟨v19, q19⟩ : ∃ zz : Int32, v12 + (0 : Int32) = zz := ⟨_, rfl⟩
  refine g_iadd hG X3 hx (hb hby d6_19) (pc' := 20) rfl q19 ?_
  refine g_aloadN hG X3 hx (hb hby d6_20) (pc' := 21) rfl rfl rfl ?_
  refine g_iconst hG X3 hx (hb hby d6_21) (pc' := 22) rfl (v := (3 : Int32)) rfl ?_
  refine g_iloadN hG X3 hx (hb hby d6_22) (pc' := 23) rfl rfl ?_
  refine g_callS hG X3 hx hZ (y := (⟨"com/example/gauge_terms/gaugeterms/TopValuesPositionsPinLaw", "beats", "([DII)I"⟩ : MethodName)) 1 hown (wd hw 29 rfl) (wd hw 30 rfl) (wd hw 3 rfl) (wd hw 31 rfl) (by decide) (rmBz1 l Z a0 hw [] a al (3 : Int32) pj h0 n0 Zs V_a (by decide)) (by decide) (by decide) (by rw [hml]; rfl) pd_1 rfl (argsL := [(.ref a), (.int 3), (.int pj)]) (rest := [(.int v19)]) rfl rfl (Nat.le_of_eq rfl) (hb hby d6_23) eh3 (by decide) (by decide) (pc' := 26) rfl ?_
  intro T4 rv4 L4 X4 hQ4
  obtain ⟨rfl, Nq4, eh4⟩ := hQ4
  have NF4 := Fr.app NF3 Nq4
  show G (T4.setTop (mkF m 26 _ [(.int 0), (.int v19)]))
  obtain ⟨v26, q26⟩ : ∃ zz : Int32, v19 + (0 : Int32) = zz := ⟨_, rfl⟩
  refine g_iadd hG X4 hx (hb hby d6_26) (pc' := 27) rfl q26 ?_
  exact e_retI hGe X4 hx hrt hlk (hb hby d6_27) eh4 (by decide) (by decide) (⟨by rw [← hz]; unfold rk1; rw [q12, q19, q26], NF4, rfl⟩)

def Q_rmPos1_0 (Z : State) (a : Addr) (al : Int32 → UInt64) (b01 b02 b03 b12 b13 b23 : Bool) (lim r : Int64) (h0 : Heap) (n0 : Nat) (v : Option Value) (h : Heap) (L : List Loc) : Prop := ∃ (b : Addr), v = some (.ref b) ∧ Fr n0 L ∧ Keep h0 h [] ∧ h0.size ≤ b ∧ (AV Z h b .int (0 : Int32) []) ∧ tops (btB b01 b02 b03 b12 b13 b23) 1 0 [] = true
set_option maxRecDepth 65536 in
set_option maxHeartbeats 40000000 in
theorem rmPos1_0 (l : Launch) (Z : State) (a0 : Array Value) (hw : ∀ d ∈ tables_1, d.before a0 Z = true) (ws : List Jvm.Cond) (a : Addr) (al : Int32 → UInt64) (b01 b02 b03 b12 b13 b23 : Bool) (lim r : Int64) (h0 : Heap) (n0 : Nat) (Zs : n0 ≤ h0.size) (V_a : AV Z h0 a .double (1 : Int32) [(.double (al (0 : Int32)))]) (TR : trB b01 b02 b03 b12 b13 b23 = true) (BT : ∀ x y, In4 x → In4 y → BtR al x y (bi (btB b01 b02 b03 b12 b13 b23) x y)) (hm : (¬ (1 : Int32).toInt64 < lim ∧ r = lim) ∨ ((1 : Int32).toInt64 < lim ∧ r = (1 : Int32).toInt64)) (hk : r.toInt32 = (0 : Int32)) :
    Con l (⟨"com/example/gauge_terms/gaugeterms/TopValues", "positions", "([DJ)[I"⟩ : MethodName) prog_3_method_2_code 8 (some (.array .int)) ws ({ frames := 1, cells := 1, slots := 0, locals := 40 } : Room) Z #[(.ref a), (.long lim)] h0 ({ frames := 1, cells := 1, slots := 0, locals := 40 } : Room).cells ({ frames := 1, cells := 1, slots := 0, locals := 40 } : Room).slots (Q_rmPos1_0 Z a al b01 b02 b03 b12 b13 b23 lim r h0 n0) := by
  refine Con.of (Ls := #[.val (.ref a), .val (.long lim), .second, .unset, .unset, .unset, .unset, .unset]) (plainFor_of_name (by first | (simp [plainName, overriddenIn]; done) | decide +kernel)) (fun m => by first | (simp [entryFrame, mkF, argsToLocals, Value.category]; done) | rfl) ?_
  intro p e s m below meth c s₁ G hGe hG hx hby hml hown hnm hrt hlk hZ X0 e0
  have hown : s.vm.findClass "com/example/gauge_terms/gaugeterms/TopValues" = some m.cls := hown
  have hnm : meth.name = "positions" := hnm
  have NF0 := Fr.nil n0
  have K0 := Keep.refl h0 ([] : List Addr)
  have HT0 : tops (btB b01 b02 b03 b12 b13 b23) 0 0 [] = true := rfl
  refine g_lloadN hG X0 hx (hb hby d3_0) (pc' := 1) rfl rfl ?_
  refine g_aloadN hG X0 hx (hb hby d3_1) (pc' := 2) rfl rfl rfl ?_
  refine g_arraylength hG X0 hx hZ e0 V_a (hb hby d3_2) (pc' := 3) rfl ?_
  obtain ⟨v3, q3⟩ : ∃ zz : Int64, (1 : Int32).toInt64 = zz := ⟨_, rfl⟩
  refine g_i2l hG X0 hx (hb hby d3_3) (pc' := 4) rfl q3 ?_
  refine g_callS hG X0 hx hZ (y := (⟨"java/lang/Math", "min", "(JJ)J"⟩ : MethodName)) 0 hown (wd hw 14 rfl) (wd hw 7 rfl) (wd hw 8 rfl) (wd hw 9 rfl) (by decide) (rmMJ l Z a0 hw [] lim v3 r h0 n0 Zs (q3 ▸ hm)) (by decide) (by decide) (by rw [hml]; rfl) pd_0 rfl (argsL := [(.long lim), (.long v3)]) (rest := []) rfl rfl (Nat.le_of_eq rfl) (hb hby d3_4) e0 (by decide) (by decide) (pc' := 7) rfl ?_
  intro T1 rv1 L1 X1 hQ1
  obtain ⟨rfl, Nq1, eh1⟩ := hQ1
  have NF1 := Fr.app NF0 Nq1
  show G (T1.setTop (mkF m 7 _ [(.long r)]))
  refine g_l2i hG X1 hx (hb hby d3_7) (pc' := 8) rfl hk ?_
  refine g_newP hG X1 hx hZ (wd hw 15 rfl) eh1 (hb hby d3_8) (by decide) 0 (by decide) (by decide) (by decide) (by decide) (pc' := 10) rfl ?_
  intro T2 h2 ids kA2 gs2 X2 e2 E2 A2
  have ne_a_ids : a ≠ ids := Nat.ne_of_lt (gs2 ▸ V_a.lt)
  have ge_ids : n0 ≤ ids := gs2 ▸ Zs
  have sz_ids : h0.size ≤ ids := gs2 ▸ K0.1
  have Zs := Nat.le_trans Zs E2.1
  have V_a := V_a.ext E2
  have K2 := K0.ext E2
  have V_ids : AV Z h2 ids .int (0 : Int32) [] := AV.new A2
  refine g_astoreN hG X2 hx (hb hby d3_10) (pc' := 11) rfl rfl (Ls' := #[.val (.ref a), .val (.long lim), .second, .val (.ref ids), .unset, .unset, .unset, .unset]) rfl ?_
  refine g_iconst hG X2 hx (hb hby d3_11) (pc' := 12) rfl (v := (0 : Int32)) rfl ?_
  refine g_istore hG X2 hx (hb hby d3_12) (pc' := 14) rfl (Ls' := #[.val (.ref a), .val (.long lim), .second, .val (.ref ids), .val (.int 0), .unset, .unset, .unset]) rfl ?_
  refine g_iconst hG X2 hx (hb hby d3_14) (pc' := 15) rfl (v := (0 : Int32)) rfl ?_
  refine g_istore hG X2 hx (hb hby d3_15) (pc' := 17) rfl (Ls' := #[.val (.ref a), .val (.long lim), .second, .val (.ref ids), .val (.int 0), .val (.int 0), .unset, .unset]) rfl ?_
  have J1 : ∀ (Tj3 : State) (hj3 : Heap) (Lj3 : List Loc)  (w6 : Int32), Stand p l e ({ frames := 1, cells := 1, slots := 0, locals := 40 } : Room) s m #[(.ref a), (.long lim)] below meth c Tj3 Lj3 1 0 → Tj3.heap = hj3 → Fr n0 Lj3 → n0 ≤ hj3.size → Keep h0 hj3 [] → AV Z hj3 a .double (1 : Int32) [(.double (al (0 : Int32)))] → AV Z hj3 ids .int (0 : Int32) [] → tops (btB b01 b02 b03 b12 b13 b23) 1 0 [] = true → G (Tj3.setTop (mkF m 17 #[.val (.ref a), .val (.long lim), .second, .val (.ref ids), .val (.int 0), .val (.int 1), .val (.int w6), .unset] [])) := by
    intro Tj3 hj3 Lj3  w6  Xj3 ej3 NFj3 Zs Kj3 V_a V_ids HT1
    refine g_iload hG Xj3 hx (hb hby d3_17) (pc' := 19) rfl rfl ?_
    refine g_aloadN hG Xj3 hx (hb hby d3_19) (pc' := 20) rfl rfl rfl ?_
    refine g_arraylength hG Xj3 hx hZ ej3 V_a (hb hby d3_20) (pc' := 21) rfl ?_
    refine g_icmpYes hG Xj3 hx (hb hby d3_21) (pc' := 112) (by decide) (by decide) (by decide) ?_
    refine g_aloadN hG Xj3 hx (hb hby d3_112) (pc' := 113) rfl rfl rfl ?_
    exact e_retA hGe Xj3 hx hrt rfl hlk (hb hby d3_113) ej3 (by decide) (by decide) (⟨ids,  rfl, NFj3, Kj3, sz_ids, V_ids, HT1⟩)
  refine g_iload hG X2 hx (hb hby d3_17) (pc' := 19) rfl rfl ?_
  refine g_aloadN hG X2 hx (hb hby d3_19) (pc' := 20) rfl rfl rfl ?_
  refine g_arraylength hG X2 hx hZ e2 V_a (hb hby d3_20) (pc' := 21) rfl ?_
  refine g_icmpNo hG X2 hx (hb hby d3_21) (pc' := 24) (by decide) rfl ?_
  refine g_iload hG X2 hx (hb hby d3_24) (pc' := 26) rfl rfl ?_
  refine g_istore hG X2 hx (hb hby d3_26) (pc' := 28) rfl (Ls' := #[.val (.ref a), .val (.long lim), .second, .val (.ref ids), .val (.int 0), .val (.int 0), .val (.int 0), .unset]) rfl ?_
  refine g_iload hG X2 hx (hb hby d3_28) (pc' := 30) rfl rfl ?_
  refine g_ifYes hG X2 hx (hb hby d3_30) (pc' := 55) (by decide) (by decide) (by decide) ?_
  refine g_iload hG X2 hx (hb hby d3_55) (pc' := 57) rfl rfl ?_
  refine g_aloadN hG X2 hx (hb hby d3_57) (pc' := 58) rfl rfl rfl ?_
  refine g_arraylength hG X2 hx hZ e2 V_ids (hb hby d3_58) (pc' := 59) rfl ?_
  refine g_icmpYes hG X2 hx (hb hby d3_59) (pc' := 106) (by decide) (by decide) (by decide) ?_
  refine g_iinc hG X2 hx (hb hby d3_106) (pc' := 109) rfl rfl (v := (1 : Int32)) (by decide) (Ls' := #[.val (.ref a), .val (.long lim), .second, .val (.ref ids), .val (.int 0), .val (.int 1), .val (.int 0), .unset]) rfl ?_
  refine g_goto hG X2 hx (hb hby d3_109) (pc' := 17) (by decide) (by decide) ?_
  exact J1 _ _ _ (0 : Int32) X2 e2 NF1 Zs K2 V_a V_ids (st_0_0_0_0 b01 b02 b03 b12 b13 b23  TR HT0 )

def Q_rmCk1_1_0 (Z : State) (a ids : Addr) (al : Int32 → UInt64) (bt : Int32 → Int32 → Bool) (p0 : Int32) (h0 : Heap) (n0 : Nat) (v : Option Value) (h : Heap) (L : List Loc) : Prop := v = some (.int 1) ∧ Fr n0 L ∧ h = h0
set_option maxRecDepth 65536 in
set_option maxHeartbeats 40000000 in
theorem rmCk1_1_0 (l : Launch) (Z : State) (a0 : Array Value) (hw : ∀ d ∈ tables_1, d.before a0 Z = true) (ws : List Jvm.Cond) (a ids : Addr) (al : Int32 → UInt64) (bt : Int32 → Int32 → Bool) (p0 : Int32) (h0 : Heap) (n0 : Nat) (Zs : n0 ≤ h0.size) (V_a : AV Z h0 a .double (1 : Int32) [(.double (al (0 : Int32)))]) (V_ids : AV Z h0 ids .int (1 : Int32) [(.int p0)]) (HT : tops bt 1 0 [p0] = true) (BT : ∀ x y, In4 x → In4 y → BtR al x y (bi bt x y)) :
    Con l (⟨"com/example/gauge_terms/gaugeterms/TopValuesPositionsPinLaw", "check", "([D[II)Z"⟩ : MethodName) method_5_code 4 (some .boolean) ws ({ frames := 2, cells := 0, slots := 0, locals := 56 } : Room) Z #[(.ref a), (.ref ids), (.int 0)] h0 ({ frames := 2, cells := 0, slots := 0, locals := 56 } : Room).cells ({ frames := 2, cells := 0, slots := 0, locals := 56 } : Room).slots (Q_rmCk1_1_0 Z a ids al bt p0 h0 n0) := by
  refine Con.of (Ls := #[.val (.ref a), .val (.ref ids), .val (.int 0), .unset]) (plainFor_of_name (by first | (simp [plainName, overriddenIn]; done) | decide +kernel)) (fun m => by first | (simp [entryFrame, mkF, argsToLocals, Value.category]; done) | rfl) ?_
  intro p e s m below meth c s₁ G hGe hG hx hby hml hown hnm hrt hlk hZ X0 e0
  have hown : s.vm.findClass "com/example/gauge_terms/gaugeterms/TopValuesPositionsPinLaw" = some m.cls := hown
  have hnm : meth.name = "check" := hnm
  have NF0 := Fr.nil n0
  have bj : 0 ≤ p0.toInt ∧ p0.toInt < 1 := tops_b HT p0 (by simp)
  have rj : rk1 bt p0 = (0 : Int32) := tops_r HT 0 p0 rfl
  refine g_iloadN hG X0 hx (hb hby d5_0) (pc' := 1) rfl rfl ?_
  refine g_aloadN hG X0 hx (hb hby d5_1) (pc' := 2) rfl rfl rfl ?_
  refine g_arraylength hG X0 hx hZ e0 V_ids (hb hby d5_2) (pc' := 3) rfl ?_
  refine g_icmpYes hG X0 hx (hb hby d5_3) (pc' := 8) (by decide) (by decide) (by decide) ?_
  refine g_aloadN hG X0 hx (hb hby d5_8) (pc' := 9) rfl rfl rfl ?_
  refine g_iloadN hG X0 hx (hb hby d5_9) (pc' := 10) rfl rfl ?_
  refine g_iaload hG X0 hx hZ e0 V_ids (j := (0 : Int32)) (v := (.int p0)) (by decide) rfl (hb hby d5_10) (pc' := 11) rfl ?_
  refine g_istoreN hG X0 hx (hb hby d5_11) (pc' := 12) rfl (Ls' := #[.val (.ref a), .val (.ref ids), .val (.int 0), .val (.int p0)]) rfl ?_
  refine g_iloadN hG X0 hx (hb hby d5_12) (pc' := 13) rfl rfl ?_
  refine g_ifNo hG X0 hx (hb hby d5_13) (pc' := 16) ((if0 _ _).trans (flt (nn_of bj.1)).1) rfl ?_
  refine g_iloadN hG X0 hx (hb hby d5_16) (pc' := 17) rfl rfl ?_
  refine g_aloadN hG X0 hx (hb hby d5_17) (pc' := 18) rfl rfl rfl ?_
  refine g_arraylength hG X0 hx hZ e0 V_a (hb hby d5_18) (pc' := 19) rfl ?_
  refine g_icmpYes hG X0 hx (hb hby d5_19) (pc' := 24) ((tlt (Int32.lt_iff_toInt_lt.mpr (by rw [show (1 : Int32).toInt = 1 by decide]; exact bj.2))).1) (by decide) (by decide) ?_
  refine g_aloadN hG X0 hx (hb hby d5_24) (pc' := 25) rfl rfl rfl ?_
  refine g_iloadN hG X0 hx (hb hby d5_25) (pc' := 26) rfl rfl ?_
  refine g_callS hG X0 hx hZ (y := (⟨"com/example/gauge_terms/gaugeterms/TopValuesPositionsPinLaw", "rank", "([DI)I"⟩ : MethodName)) 0 hown (wd hw 26 rfl) (wd hw 27 rfl) (wd hw 3 rfl) (wd hw 28 rfl) (by decide) (rmRk1 l Z a0 hw [] a al bt p0 (0 : Int32) h0 n0 Zs V_a bj BT rj) (by decide) (by decide) (by rw [hml]; rfl) pd_2 rfl (argsL := [(.ref a), (.int p0)]) (rest := []) rfl rfl (Nat.le_of_eq rfl) (hb hby d5_26) e0 (by decide) (by decide) (pc' := 29) rfl ?_
  intro T1 rv1 L1 X1 hQ1
  obtain ⟨rfl, Nq1, eh1⟩ := hQ1
  have NF1 := Fr.app NF0 Nq1
  show G (T1.setTop (mkF m 29 _ [(.int 0)]))
  refine g_iloadN hG X1 hx (hb hby d5_29) (pc' := 30) rfl rfl ?_
  refine g_icmpNo hG X1 hx (hb hby d5_30) (pc' := 33) (by decide) rfl ?_
  refine g_iconst hG X1 hx (hb hby d5_33) (pc' := 34) rfl (v := (1 : Int32)) rfl ?_
  refine g_goto hG X1 hx (hb hby d5_34) (pc' := 38) (by decide) (by decide) ?_
  exact e_retZ hGe X1 hx hrt hlk (hb hby d5_38) (Or.inr rfl) eh1 (by decide) (by decide) (⟨rfl, NF1, rfl⟩)

def Q_rmCz1_1 (Z : State) (a ids : Addr) (p0 : Int32) (h0 : Heap) (n0 : Nat) (v : Option Value) (h : Heap) (L : List Loc) : Prop := v = some (.int 1) ∧ Fr n0 L ∧ h = h0
set_option maxRecDepth 65536 in
set_option maxHeartbeats 40000000 in
theorem rmCz1_1 (l : Launch) (Z : State) (a0 : Array Value) (hw : ∀ d ∈ tables_1, d.before a0 Z = true) (ws : List Jvm.Cond) (a ids : Addr) (p0 : Int32) (h0 : Heap) (n0 : Nat) (Zs : n0 ≤ h0.size) (V_ids : AV Z h0 ids .int (1 : Int32) [(.int p0)]) :
    Con l (⟨"com/example/gauge_terms/gaugeterms/TopValuesPositionsPinLaw", "check", "([D[II)Z"⟩ : MethodName) method_5_code 4 (some .boolean) ws ({ frames := 2, cells := 0, slots := 0, locals := 56 } : Room) Z #[(.ref a), (.ref ids), (.int 1)] h0 ({ frames := 2, cells := 0, slots := 0, locals := 56 } : Room).cells ({ frames := 2, cells := 0, slots := 0, locals := 56 } : Room).slots (Q_rmCz1_1 Z a ids p0 h0 n0) := by
  refine Con.of (Ls := #[.val (.ref a), .val (.ref ids), .val (.int 1), .unset]) (plainFor_of_name (by first | (simp [plainName, overriddenIn]; done) | decide +kernel)) (fun m => by first | (simp [entryFrame, mkF, argsToLocals, Value.category]; done) | rfl) ?_
  intro p e s m below meth c s₁ G hGe hG hx hby hml hown hnm hrt hlk hZ X0 e0
  have hown : s.vm.findClass "com/example/gauge_terms/gaugeterms/TopValuesPositionsPinLaw" = some m.cls := hown
  have hnm : meth.name = "check" := hnm
  have NF0 := Fr.nil n0
  refine g_iloadN hG X0 hx (hb hby d5_0) (pc' := 1) rfl rfl ?_
  show G (s₁.setTop (mkF m 1 #[.val (.ref a), .val (.ref ids), .val (.int 1), .unset] [(.int 1)]))
  refine g_aloadN hG X0 hx (hb hby d5_1) (pc' := 2) rfl rfl rfl ?_
  show G (s₁.setTop (mkF m 2 #[.val (.ref a), .val (.ref ids), .val (.int 1), .unset] [(.ref ids), (.int 1)]))
  refine g_arraylength hG X0 hx hZ e0 V_ids (hb hby d5_2) (pc' := 3) rfl ?_
  show G (s₁.setTop (mkF m 3 #[.val (.ref a), .val (.ref ids), .val (.int 1), .unset] [(.int 1), (.int 1)]))
  refine g_icmpNo hG X0 hx (hb hby d5_3) (pc' := 6) (by decide) rfl ?_
  show G (s₁.setTop (mkF m 6 #[.val (.ref a), .val (.ref ids), .val (.int 1), .unset] []))
  refine g_iconst hG X0 hx (hb hby d5_6) (pc' := 7) rfl (v := (1 : Int32)) rfl ?_
  show G (s₁.setTop (mkF m 7 #[.val (.ref a), .val (.ref ids), .val (.int 1), .unset] [(.int 1)]))
  exact e_retZ hGe X0 hx hrt hlk (hb hby d5_7) (Or.inr rfl) e0 (by decide) (by decide) (⟨rfl, NF0, rfl⟩)

def Q_rmCz1_2 (Z : State) (a ids : Addr) (p0 : Int32) (h0 : Heap) (n0 : Nat) (v : Option Value) (h : Heap) (L : List Loc) : Prop := v = some (.int 1) ∧ Fr n0 L ∧ h = h0
set_option maxRecDepth 65536 in
set_option maxHeartbeats 40000000 in
theorem rmCz1_2 (l : Launch) (Z : State) (a0 : Array Value) (hw : ∀ d ∈ tables_1, d.before a0 Z = true) (ws : List Jvm.Cond) (a ids : Addr) (p0 : Int32) (h0 : Heap) (n0 : Nat) (Zs : n0 ≤ h0.size) (V_ids : AV Z h0 ids .int (1 : Int32) [(.int p0)]) :
    Con l (⟨"com/example/gauge_terms/gaugeterms/TopValuesPositionsPinLaw", "check", "([D[II)Z"⟩ : MethodName) method_5_code 4 (some .boolean) ws ({ frames := 2, cells := 0, slots := 0, locals := 56 } : Room) Z #[(.ref a), (.ref ids), (.int 2)] h0 ({ frames := 2, cells := 0, slots := 0, locals := 56 } : Room).cells ({ frames := 2, cells := 0, slots := 0, locals := 56 } : Room).slots (Q_rmCz1_2 Z a ids p0 h0 n0) := by
  refine Con.of (Ls := #[.val (.ref a), .val (.ref ids), .val (.int 2), .unset]) (plainFor_of_name (by first | (simp [plainName, overriddenIn]; done) | decide +kernel)) (fun m => by first | (simp [entryFrame, mkF, argsToLocals, Value.category]; done) | rfl) ?_
  intro p e s m below meth c s₁ G hGe hG hx hby hml hown hnm hrt hlk hZ X0 e0
  have hown : s.vm.findClass "com/example/gauge_terms/gaugeterms/TopValuesPositionsPinLaw" = some m.cls := hown
  have hnm : meth.name = "check" := hnm
  have NF0 := Fr.nil n0
  refine g_iloadN hG X0 hx (hb hby d5_0) (pc' := 1) rfl rfl ?_
  show G (s₁.setTop (mkF m 1 #[.val (.ref a), .val (.ref ids), .val (.int 2), .unset] [(.int 2)]))
  refine g_aloadN hG X0 hx (hb hby d5_1) (pc' := 2) rfl rfl rfl ?_
  show G (s₁.setTop (mkF m 2 #[.val (.ref a), .val (.ref ids), .val (.int 2), .unset] [(.ref ids), (.int 2)]))
  refine g_arraylength hG X0 hx hZ e0 V_ids (hb hby d5_2) (pc' := 3) rfl ?_
  show G (s₁.setTop (mkF m 3 #[.val (.ref a), .val (.ref ids), .val (.int 2), .unset] [(.int 1), (.int 2)]))
  refine g_icmpNo hG X0 hx (hb hby d5_3) (pc' := 6) (by decide) rfl ?_
  show G (s₁.setTop (mkF m 6 #[.val (.ref a), .val (.ref ids), .val (.int 2), .unset] []))
  refine g_iconst hG X0 hx (hb hby d5_6) (pc' := 7) rfl (v := (1 : Int32)) rfl ?_
  show G (s₁.setTop (mkF m 7 #[.val (.ref a), .val (.ref ids), .val (.int 2), .unset] [(.int 1)]))
  exact e_retZ hGe X0 hx hrt hlk (hb hby d5_7) (Or.inr rfl) e0 (by decide) (by decide) (⟨rfl, NF0, rfl⟩)

def Q_rmCz1_3 (Z : State) (a ids : Addr) (p0 : Int32) (h0 : Heap) (n0 : Nat) (v : Option Value) (h : Heap) (L : List Loc) : Prop := v = some (.int 1) ∧ Fr n0 L ∧ h = h0
set_option maxRecDepth 65536 in
set_option maxHeartbeats 40000000 in
theorem rmCz1_3 (l : Launch) (Z : State) (a0 : Array Value) (hw : ∀ d ∈ tables_1, d.before a0 Z = true) (ws : List Jvm.Cond) (a ids : Addr) (p0 : Int32) (h0 : Heap) (n0 : Nat) (Zs : n0 ≤ h0.size) (V_ids : AV Z h0 ids .int (1 : Int32) [(.int p0)]) :
    Con l (⟨"com/example/gauge_terms/gaugeterms/TopValuesPositionsPinLaw", "check", "([D[II)Z"⟩ : MethodName) method_5_code 4 (some .boolean) ws ({ frames := 2, cells := 0, slots := 0, locals := 56 } : Room) Z #[(.ref a), (.ref ids), (.int 3)] h0 ({ frames := 2, cells := 0, slots := 0, locals := 56 } : Room).cells ({ frames := 2, cells := 0, slots := 0, locals := 56 } : Room).slots (Q_rmCz1_3 Z a ids p0 h0 n0) := by
  refine Con.of (Ls := #[.val (.ref a), .val (.ref ids), .val (.int 3), .unset]) (plainFor_of_name (by first | (simp [plainName, overriddenIn]; done) | decide +kernel)) (fun m => by first | (simp [entryFrame, mkF, argsToLocals, Value.category]; done) | rfl) ?_
  intro p e s m below meth c s₁ G hGe hG hx hby hml hown hnm hrt hlk hZ X0 e0
  have hown : s.vm.findClass "com/example/gauge_terms/gaugeterms/TopValuesPositionsPinLaw" = some m.cls := hown
  have hnm : meth.name = "check" := hnm
  have NF0 := Fr.nil n0
  refine g_iloadN hG X0 hx (hb hby d5_0) (pc' := 1) rfl rfl ?_
  show G (s₁.setTop (mkF m 1 #[.val (.ref a), .val (.ref ids), .val (.int 3), .unset] [(.int 3)]))
  refine g_aloadN hG X0 hx (hb hby d5_1) (pc' := 2) rfl rfl rfl ?_
  show G (s₁.setTop (mkF m 2 #[.val (.ref a), .val (.ref ids), .val (.int 3), .unset] [(.ref ids), (.int 3)]))
  refine g_arraylength hG X0 hx hZ e0 V_ids (hb hby d5_2) (pc' := 3) rfl ?_
  show G (s₁.setTop (mkF m 3 #[.val (.ref a), .val (.ref ids), .val (.int 3), .unset] [(.int 1), (.int 3)]))
  refine g_icmpNo hG X0 hx (hb hby d5_3) (pc' := 6) (by decide) rfl ?_
  show G (s₁.setTop (mkF m 6 #[.val (.ref a), .val (.ref ids), .val (.int 3), .unset] []))
  refine g_iconst hG X0 hx (hb hby d5_6) (pc' := 7) rfl (v := (1 : Int32)) rfl ?_
  show G (s₁.setTop (mkF m 7 #[.val (.ref a), .val (.ref ids), .val (.int 3), .unset] [(.int 1)]))
  exact e_retZ hGe X0 hx hrt hlk (hb hby d5_7) (Or.inr rfl) e0 (by decide) (by decide) (⟨rfl, NF0, rfl⟩)

def Q_rmPos1_1 (Z : State) (a : Addr) (al : Int32 → UInt64) (b01 b02 b03 b12 b13 b23 : Bool) (lim r : Int64) (h0 : Heap) (n0 : Nat) (v : Option Value) (h : Heap) (L : List Loc) : Prop := ∃ (b : Addr) (p0 : Int32), v = some (.ref b) ∧ Fr n0 L ∧ Keep h0 h [] ∧ h0.size ≤ b ∧ (AV Z h b .int (1 : Int32) [(.int p0)]) ∧ tops (btB b01 b02 b03 b12 b13 b23) 1 0 [p0] = true
set_option maxRecDepth 65536 in
set_option maxHeartbeats 40000000 in
theorem rmPos1_1 (l : Launch) (Z : State) (a0 : Array Value) (hw : ∀ d ∈ tables_1, d.before a0 Z = true) (ws : List Jvm.Cond) (a : Addr) (al : Int32 → UInt64) (b01 b02 b03 b12 b13 b23 : Bool) (lim r : Int64) (h0 : Heap) (n0 : Nat) (Zs : n0 ≤ h0.size) (V_a : AV Z h0 a .double (1 : Int32) [(.double (al (0 : Int32)))]) (TR : trB b01 b02 b03 b12 b13 b23 = true) (BT : ∀ x y, In4 x → In4 y → BtR al x y (bi (btB b01 b02 b03 b12 b13 b23) x y)) (hm : (¬ (1 : Int32).toInt64 < lim ∧ r = lim) ∨ ((1 : Int32).toInt64 < lim ∧ r = (1 : Int32).toInt64)) (hk : r.toInt32 = (1 : Int32)) :
    Con l (⟨"com/example/gauge_terms/gaugeterms/TopValues", "positions", "([DJ)[I"⟩ : MethodName) prog_3_method_2_code 8 (some (.array .int)) ws ({ frames := 1, cells := 1, slots := 1, locals := 40 } : Room) Z #[(.ref a), (.long lim)] h0 ({ frames := 1, cells := 1, slots := 1, locals := 40 } : Room).cells ({ frames := 1, cells := 1, slots := 1, locals := 40 } : Room).slots (Q_rmPos1_1 Z a al b01 b02 b03 b12 b13 b23 lim r h0 n0) := by
  refine Con.of (Ls := #[.val (.ref a), .val (.long lim), .second, .unset, .unset, .unset, .unset, .unset]) (plainFor_of_name (by first | (simp [plainName, overriddenIn]; done) | decide +kernel)) (fun m => by first | (simp [entryFrame, mkF, argsToLocals, Value.category]; done) | rfl) ?_
  intro p e s m below meth c s₁ G hGe hG hx hby hml hown hnm hrt hlk hZ X0 e0
  have hown : s.vm.findClass "com/example/gauge_terms/gaugeterms/TopValues" = some m.cls := hown
  have hnm : meth.name = "positions" := hnm
  have NF0 := Fr.nil n0
  have K0 := Keep.refl h0 ([] : List Addr)
  have HT0 : tops (btB b01 b02 b03 b12 b13 b23) 0 0 [] = true := rfl
  refine g_lloadN hG X0 hx (hb hby d3_0) (pc' := 1) rfl rfl ?_
  refine g_aloadN hG X0 hx (hb hby d3_1) (pc' := 2) rfl rfl rfl ?_
  refine g_arraylength hG X0 hx hZ e0 V_a (hb hby d3_2) (pc' := 3) rfl ?_
  obtain ⟨v3, q3⟩ : ∃ zz : Int64, (1 : Int32).toInt64 = zz := ⟨_, rfl⟩
  refine g_i2l hG X0 hx (hb hby d3_3) (pc' := 4) rfl q3 ?_
  refine g_callS hG X0 hx hZ (y := (⟨"java/lang/Math", "min", "(JJ)J"⟩ : MethodName)) 0 hown (wd hw 14 rfl) (wd hw 7 rfl) (wd hw 8 rfl) (wd hw 9 rfl) (by decide) (rmMJ l Z a0 hw [] lim v3 r h0 n0 Zs (q3 ▸ hm)) (by decide) (by decide) (by rw [hml]; rfl) pd_0 rfl (argsL := [(.long lim), (.long v3)]) (rest := []) rfl rfl (Nat.le_of_eq rfl) (hb hby d3_4) e0 (by decide) (by decide) (pc' := 7) rfl ?_
  intro T1 rv1 L1 X1 hQ1
  obtain ⟨rfl, Nq1, eh1⟩ := hQ1
  have NF1 := Fr.app NF0 Nq1
  show G (T1.setTop (mkF m 7 _ [(.long r)]))
  refine g_l2i hG X1 hx (hb hby d3_7) (pc' := 8) rfl hk ?_
  refine g_newP hG X1 hx hZ (wd hw 15 rfl) eh1 (hb hby d3_8) (by decide) 1 (by decide) (by decide) (by decide) (by decide) (pc' := 10) rfl ?_
  intro T2 h2 ids kA2 gs2 X2 e2 E2 A2
  have ne_a_ids : a ≠ ids := Nat.ne_of_lt (gs2 ▸ V_a.lt)
  have ge_ids : n0 ≤ ids := gs2 ▸ Zs
  have sz_ids : h0.size ≤ ids := gs2 ▸ K0.1
  have Zs := Nat.le_trans Zs E2.1
  have V_a := V_a.ext E2
  have K2 := K0.ext E2
  have V_ids : AV Z h2 ids .int (1 : Int32) [(.int 0)] := AV.new A2
  refine g_astoreN hG X2 hx (hb hby d3_10) (pc' := 11) rfl rfl (Ls' := #[.val (.ref a), .val (.long lim), .second, .val (.ref ids), .unset, .unset, .unset, .unset]) rfl ?_
  refine g_iconst hG X2 hx (hb hby d3_11) (pc' := 12) rfl (v := (0 : Int32)) rfl ?_
  refine g_istore hG X2 hx (hb hby d3_12) (pc' := 14) rfl (Ls' := #[.val (.ref a), .val (.long lim), .second, .val (.ref ids), .val (.int 0), .unset, .unset, .unset]) rfl ?_
  refine g_iconst hG X2 hx (hb hby d3_14) (pc' := 15) rfl (v := (0 : Int32)) rfl ?_
  refine g_istore hG X2 hx (hb hby d3_15) (pc' := 17) rfl (Ls' := #[.val (.ref a), .val (.long lim), .second, .val (.ref ids), .val (.int 0), .val (.int 0), .unset, .unset]) rfl ?_
  have J1 : ∀ (Tj3 : State) (hj3 : Heap) (Lj3 : List Loc) (p0 : Int32) (w6 w7 : Int32), Stand p l e ({ frames := 1, cells := 1, slots := 1, locals := 40 } : Room) s m #[(.ref a), (.long lim)] below meth c Tj3 Lj3 1 1 → Tj3.heap = hj3 → Fr n0 Lj3 → n0 ≤ hj3.size → Keep h0 hj3 [] → AV Z hj3 a .double (1 : Int32) [(.double (al (0 : Int32)))] → AV Z hj3 ids .int (1 : Int32) [(.int p0)] → tops (btB b01 b02 b03 b12 b13 b23) 1 0 [p0] = true → G (Tj3.setTop (mkF m 17 #[.val (.ref a), .val (.long lim), .second, .val (.ref ids), .val (.int 1), .val (.int 1), .val (.int w6), .val (.int w7)] [])) := by
    intro Tj3 hj3 Lj3 p0 w6 w7 Xj3 ej3 NFj3 Zs Kj3 V_a V_ids HT1
    have bp0 : 0 ≤ p0.toInt ∧ p0.toInt < 1 := tops_b HT1 p0 (by simp)
    refine g_iload hG Xj3 hx (hb hby d3_17) (pc' := 19) rfl rfl ?_
    refine g_aloadN hG Xj3 hx (hb hby d3_19) (pc' := 20) rfl rfl rfl ?_
    refine g_arraylength hG Xj3 hx hZ ej3 V_a (hb hby d3_20) (pc' := 21) rfl ?_
    refine g_icmpYes hG Xj3 hx (hb hby d3_21) (pc' := 112) (by decide) (by decide) (by decide) ?_
    refine g_aloadN hG Xj3 hx (hb hby d3_112) (pc' := 113) rfl rfl rfl ?_
    exact e_retA hGe Xj3 hx hrt rfl hlk (hb hby d3_113) ej3 (by decide) (by decide) (⟨ids, p0,  rfl, NFj3, Kj3, sz_ids, V_ids, HT1⟩)
  refine g_iload hG X2 hx (hb hby d3_17) (pc' := 19) rfl rfl ?_
  refine g_aloadN hG X2 hx (hb hby d3_19) (pc' := 20) rfl rfl rfl ?_
  refine g_arraylength hG X2 hx hZ e2 V_a (hb hby d3_20) (pc' := 21) rfl ?_
  refine g_icmpNo hG X2 hx (hb hby d3_21) (pc' := 24) (by decide) rfl ?_
  refine g_iload hG X2 hx (hb hby d3_24) (pc' := 26) rfl rfl ?_
  refine g_istore hG X2 hx (hb hby d3_26) (pc' := 28) rfl (Ls' := #[.val (.ref a), .val (.long lim), .second, .val (.ref ids), .val (.int 0), .val (.int 0), .val (.int 0), .unset]) rfl ?_
  refine g_iload hG X2 hx (hb hby d3_28) (pc' := 30) rfl rfl ?_
  refine g_ifYes hG X2 hx (hb hby d3_30) (pc' := 55) (by decide) (by decide) (by decide) ?_
  refine g_iload hG X2 hx (hb hby d3_55) (pc' := 57) rfl rfl ?_
  refine g_aloadN hG X2 hx (hb hby d3_57) (pc' := 58) rfl rfl rfl ?_
  refine g_arraylength hG X2 hx hZ e2 V_ids (hb hby d3_58) (pc' := 59) rfl ?_
  refine g_icmpNo hG X2 hx (hb hby d3_59) (pc' := 62) (by decide) rfl ?_
  refine g_iload hG X2 hx (hb hby d3_62) (pc' := 64) rfl rfl ?_
  refine g_aloadN hG X2 hx (hb hby d3_64) (pc' := 65) rfl rfl rfl ?_
  refine g_arraylength hG X2 hx hZ e2 V_ids (hb hby d3_65) (pc' := 66) rfl ?_
  refine g_iconst hG X2 hx (hb hby d3_66) (pc' := 67) rfl (v := (1 : Int32)) rfl ?_
  refine g_isub hG X2 hx (hb hby d3_67) (pc' := 68) rfl (v := (0 : Int32)) (by decide) ?_
  refine g_callS hG X2 hx hZ (y := (⟨"java/lang/Math", "min", "(II)I"⟩ : MethodName)) 0 hown (wd hw 16 rfl) (wd hw 17 rfl) (wd hw 8 rfl) (wd hw 18 rfl) (by decide) (rmMI l Z a0 hw [] (0 : Int32) (0 : Int32) (0 : Int32) h2 n0 Zs (by decide)) (by decide) (by decide) (by rw [hml]; rfl) pd_3 rfl (argsL := [(.int 0), (.int 0)]) (rest := []) rfl rfl (Nat.le_of_eq rfl) (hb hby d3_68) e2 (by decide) (by decide) (pc' := 71) rfl ?_
  intro T4 rv4 L4 X4 hQ4
  obtain ⟨rfl, Nq4, eh4⟩ := hQ4
  have NF4 := Fr.app NF1 Nq4
  show G (T4.setTop (mkF m 71 _ [(.int 0)]))
  refine g_istore hG X4 hx (hb hby d3_71) (pc' := 73) rfl (Ls' := #[.val (.ref a), .val (.long lim), .second, .val (.ref ids), .val (.int 0), .val (.int 0), .val (.int 0), .val (.int 0)]) rfl ?_
  refine g_aloadN hG X4 hx (hb hby d3_73) (pc' := 74) rfl rfl rfl ?_
  refine g_iload hG X4 hx (hb hby d3_74) (pc' := 76) rfl rfl ?_
  refine g_aloadN hG X4 hx (hb hby d3_76) (pc' := 77) rfl rfl rfl ?_
  refine g_iload hG X4 hx (hb hby d3_77) (pc' := 79) rfl rfl ?_
  refine g_iconst hG X4 hx (hb hby d3_79) (pc' := 80) rfl (v := (1 : Int32)) rfl ?_
  refine g_iadd hG X4 hx (hb hby d3_80) (pc' := 81) rfl (v := (1 : Int32)) (by decide) ?_
  refine g_iload hG X4 hx (hb hby d3_81) (pc' := 83) rfl rfl ?_
  refine g_iload hG X4 hx (hb hby d3_83) (pc' := 85) rfl rfl ?_
  refine g_isub hG X4 hx (hb hby d3_85) (pc' := 86) rfl (v := (0 : Int32)) (by decide) ?_
  refine g_copy hG X4 hx hZ hown (wd hw 19 rfl) (wd hw 22 rfl) (wd hw 20 rfl) (wd hw 21 rfl) eh4 V_ids V_ids rfl (by decide) (by decide) (by decide) (by decide) (by decide) (vr := [(.int 0)]) rfl NF4 ge_ids (by rw [hml]; rfl) (hb hby d3_86) (by decide) 0 (Nat.le_of_eq rfl) (by decide) (pc' := 89) rfl ?_
  intro T5 h5 L5 X5 e5 NF5 Kq5 Vn5
  have V_ids := Vn5
  have V_a := V_a.keep Kq5 (ninS ne_a_ids nin0)
  have Zs := Nat.le_trans Zs Kq5.1
  have K5 := K2.trans Kq5 (allS (Or.inr sz_ids) all0)
  show G (T5.setTop (mkF m 89 _ []))
  refine g_aloadN hG X5 hx (hb hby d3_89) (pc' := 90) rfl rfl rfl ?_
  refine g_iload hG X5 hx (hb hby d3_90) (pc' := 92) rfl rfl ?_
  refine g_iload hG X5 hx (hb hby d3_92) (pc' := 94) rfl rfl ?_
  refine g_iastore hG X5 hx hZ e5 V_ids (j := (0 : Int32)) (by decide) (show Int32.toNatClampNeg (0 : Int32) < 1 by decide) (hb hby d3_94) (pc' := 95) rfl ?_
  intro T6 h6 X6 e6 W6 Vn6
  have V_ids : AV Z h6 ids .int (1 : Int32) [(.int 0)] := Vn6
  have V_a := V_a.other W6 ne_a_ids
  have Zs := Nat.le_trans Zs (Wr.size W6)
  have NF6 := Fr.snoc X6 NF5 ge_ids
  have K6 := K5.wr W6 (Or.inr sz_ids)
  refine g_iload hG X6 hx (hb hby d3_95) (pc' := 97) rfl rfl ?_
  refine g_iconst hG X6 hx (hb hby d3_97) (pc' := 98) rfl (v := (1 : Int32)) rfl ?_
  refine g_iadd hG X6 hx (hb hby d3_98) (pc' := 99) rfl (v := (1 : Int32)) (by decide) ?_
  refine g_aloadN hG X6 hx (hb hby d3_99) (pc' := 100) rfl rfl rfl ?_
  refine g_arraylength hG X6 hx hZ e6 V_ids (hb hby d3_100) (pc' := 101) rfl ?_
  refine g_callS hG X6 hx hZ (y := (⟨"java/lang/Math", "min", "(II)I"⟩ : MethodName)) 0 hown (wd hw 16 rfl) (wd hw 17 rfl) (wd hw 8 rfl) (wd hw 18 rfl) (by decide) (rmMI l Z a0 hw [] (1 : Int32) (1 : Int32) (1 : Int32) h6 n0 Zs (by decide)) (by decide) (by decide) (by rw [hml]; rfl) pd_3 rfl (argsL := [(.int 1), (.int 1)]) (rest := []) rfl rfl (Nat.le_of_eq rfl) (hb hby d3_101) e6 (by decide) (by decide) (pc' := 104) rfl ?_
  intro T7 rv7 L7 X7 hQ7
  obtain ⟨rfl, Nq7, eh7⟩ := hQ7
  have NF7 := Fr.app NF6 Nq7
  show G (T7.setTop (mkF m 104 _ [(.int 1)]))
  refine g_istore hG X7 hx (hb hby d3_104) (pc' := 106) rfl (Ls' := #[.val (.ref a), .val (.long lim), .second, .val (.ref ids), .val (.int 1), .val (.int 0), .val (.int 0), .val (.int 0)]) rfl ?_
  refine g_iinc hG X7 hx (hb hby d3_106) (pc' := 109) rfl rfl (v := (1 : Int32)) (by decide) (Ls' := #[.val (.ref a), .val (.long lim), .second, .val (.ref ids), .val (.int 1), .val (.int 1), .val (.int 0), .val (.int 0)]) rfl ?_
  refine g_goto hG X7 hx (hb hby d3_109) (pc' := 17) (by decide) (by decide) ?_
  exact J1 _ _ _ (0 : Int32) (0 : Int32) (0 : Int32) X7 eh7 NF7 Zs K6 V_a V_ids (st_0_0_1_0 b01 b02 b03 b12 b13 b23  TR HT0 )

def Q_rmBu2 (Z : State) (al : Int32 → UInt64) (h0 : Heap) (n0 : Nat) (v : Option Value) (h : Heap) (L : List Loc) : Prop := ∃ b : Addr, v = some (.ref b) ∧ Fr n0 L ∧ Keep h0 h [] ∧ h0.size ≤ b ∧ AV Z h b .double (2 : Int32) [(.double (al (0 : Int32))), (.double (al (1 : Int32)))]
set_option maxRecDepth 65536 in
set_option maxHeartbeats 40000000 in
theorem rmBu2 (l : Launch) (Z : State) (a0 : Array Value) (hw : ∀ d ∈ tables_1, d.before a0 Z = true) (ws : List Jvm.Cond) (al : Int32 → UInt64) (h0 : Heap) (n0 : Nat) (Zs : n0 ≤ h0.size)  :
    Con l (⟨"com/example/gauge_terms/gaugeterms/TopValuesPositionsPinLaw", "build", "(IDDDD)[D"⟩ : MethodName) method_2_code 9 (some (.array .double)) ws ({ frames := 0, cells := 1, slots := 2, locals := 0 } : Room) Z #[(.int 2), (.double (al (0 : Int32))), (.double (al (1 : Int32))), (.double (al (2 : Int32))), (.double (al (3 : Int32)))] h0 ({ frames := 0, cells := 1, slots := 2, locals := 0 } : Room).cells ({ frames := 0, cells := 1, slots := 2, locals := 0 } : Room).slots (Q_rmBu2 Z al h0 n0) := by
  refine Con.of (Ls := #[.val (.int 2), .val (.double (al (0 : Int32))), .second, .val (.double (al (1 : Int32))), .second, .val (.double (al (2 : Int32))), .second, .val (.double (al (3 : Int32))), .second]) (plainFor_of_name (by first | (simp [plainName, overriddenIn]; done) | decide +kernel)) (fun m => by first | (simp [entryFrame, mkF, argsToLocals, Value.category]; done) | rfl) ?_
  intro p e s m below meth c s₁ G hGe hG hx hby hml hown hnm hrt hlk hZ X0 e0
  have hown : s.vm.findClass "com/example/gauge_terms/gaugeterms/TopValuesPositionsPinLaw" = some m.cls := hown
  have hnm : meth.name = "build" := hnm
  have NF0 := Fr.nil n0
  have K0 := Keep.refl h0 ([] : List Addr)
  refine g_iloadN hG X0 hx (hb hby d1_0) (pc' := 1) rfl rfl ?_
  refine g_ifYes hG X0 hx (hb hby d1_1) (pc' := 8) (by decide) (by decide) (by decide) ?_
  refine g_iloadN hG X0 hx (hb hby d1_8) (pc' := 9) rfl rfl ?_
  refine g_iconst hG X0 hx (hb hby d1_9) (pc' := 10) rfl (v := (1 : Int32)) rfl ?_
  refine g_icmpYes hG X0 hx (hb hby d1_10) (pc' := 21) (by decide) (by decide) (by decide) ?_
  refine g_iloadN hG X0 hx (hb hby d1_21) (pc' := 22) rfl rfl ?_
  refine g_iconst hG X0 hx (hb hby d1_22) (pc' := 23) rfl (v := (2 : Int32)) rfl ?_
  refine g_icmpNo hG X0 hx (hb hby d1_23) (pc' := 26) (by decide) rfl ?_
  refine g_iconst hG X0 hx (hb hby d1_26) (pc' := 27) rfl (v := (2 : Int32)) rfl ?_
  refine g_newP hG X0 hx hZ (wd hw 5 rfl) e0 (hb hby d1_27) (by decide) 2 (by decide) (by decide) (by decide) (by decide) (pc' := 29) rfl ?_
  intro T1 h1 b kA1 gs1 X1 e1 E1 A1
  have ge_b : n0 ≤ b := gs1 ▸ Zs
  have sz_b : h0.size ≤ b := gs1 ▸ K0.1
  have Zs := Nat.le_trans Zs E1.1
  have K1 := K0.ext E1
  have V_b : AV Z h1 b .double (2 : Int32) [(.double 0), (.double 0)] := AV.new A1
  refine g_dup hG X1 hx (hb hby d1_29) (pc' := 30) rfl rfl ?_
  refine g_iconst hG X1 hx (hb hby d1_30) (pc' := 31) rfl (v := (0 : Int32)) rfl ?_
  refine g_dloadN hG X1 hx (hb hby d1_31) (pc' := 32) rfl rfl ?_
  refine g_dastore hG X1 hx hZ e1 V_b (j := (0 : Int32)) (by decide) (show Int32.toNatClampNeg (0 : Int32) < 2 by decide) (hb hby d1_32) (pc' := 33) rfl ?_
  intro T2 h2 X2 e2 W2 Vn2
  have V_b : AV Z h2 b .double (2 : Int32) [(.double (al (0 : Int32))), (.double 0)] := Vn2
  have Zs := Nat.le_trans Zs (Wr.size W2)
  have NF2 := Fr.snoc X2 NF0 ge_b
  have K2 := K1.wr W2 (Or.inr sz_b)
  refine g_dup hG X2 hx (hb hby d1_33) (pc' := 34) rfl rfl ?_
  refine g_iconst hG X2 hx (hb hby d1_34) (pc' := 35) rfl (v := (1 : Int32)) rfl ?_
  refine g_dloadN hG X2 hx (hb hby d1_35) (pc' := 36) rfl rfl ?_
  refine g_dastore hG X2 hx hZ e2 V_b (j := (1 : Int32)) (by decide) (show Int32.toNatClampNeg (1 : Int32) < 2 by decide) (hb hby d1_36) (pc' := 37) rfl ?_
  intro T3 h3 X3 e3 W3 Vn3
  have V_b : AV Z h3 b .double (2 : Int32) [(.double (al (0 : Int32))), (.double (al (1 : Int32)))] := Vn3
  have Zs := Nat.le_trans Zs (Wr.size W3)
  have NF3 := Fr.snoc X3 NF2 ge_b
  have K3 := K2.wr W3 (Or.inr sz_b)
  exact e_retA hGe X3 hx hrt rfl hlk (hb hby d1_37) e3 (by decide) (by decide) (⟨b, rfl, NF3, K3, sz_b, V_b⟩)

def Q_rmBe2 (Z : State) (a : Addr) (al : Int32 → UInt64) (q pj r : Int32) (h0 : Heap) (n0 : Nat) (v : Option Value) (h : Heap) (L : List Loc) : Prop := v = some (.int r) ∧ Fr n0 L ∧ h = h0
set_option maxRecDepth 65536 in
set_option maxHeartbeats 40000000 in
theorem rmBe2 (l : Launch) (Z : State) (a0 : Array Value) (hw : ∀ d ∈ tables_1, d.before a0 Z = true) (ws : List Jvm.Cond) (a : Addr) (al : Int32 → UInt64) (q pj r : Int32) (h0 : Heap) (n0 : Nat) (Zs : n0 ≤ h0.size) (V_a : AV Z h0 a .double (2 : Int32) [(.double (al (0 : Int32))), (.double (al (1 : Int32)))]) (bq : 0 ≤ q.toInt ∧ q.toInt < 2) (bpj : 0 ≤ pj.toInt ∧ pj.toInt < 2) (hb : BtR al q pj r) :
    Con l (⟨"com/example/gauge_terms/gaugeterms/TopValuesPositionsPinLaw", "beats", "([DII)I"⟩ : MethodName) method_3_code 3 (some .int) ws ({ frames := 0, cells := 0, slots := 0, locals := 0 } : Room) Z #[(.ref a), (.int q), (.int pj)] h0 ({ frames := 0, cells := 0, slots := 0, locals := 0 } : Room).cells ({ frames := 0, cells := 0, slots := 0, locals := 0 } : Room).slots (Q_rmBe2 Z a al q pj r h0 n0) := by
  refine Con.of (Ls := #[.val (.ref a), .val (.int q), .val (.int pj)]) (plainFor_of_name (by first | (simp [plainName, overriddenIn]; done) | decide +kernel)) (fun m => by first | (simp [entryFrame, mkF, argsToLocals, Value.category]; done) | rfl) ?_
  intro p e s m below meth c s₁ G hGe hG hx hby hml hown hnm hrt hlk hZ X0 e0
  have hown : s.vm.findClass "com/example/gauge_terms/gaugeterms/TopValuesPositionsPinLaw" = some m.cls := hown
  have hnm : meth.name = "beats" := hnm
  have NF0 := Fr.nil n0
  rcases hb with ⟨c1, hr⟩ | ⟨c1, c2, hr⟩ | ⟨c1, c2, hr⟩ | ⟨c1, hr⟩
  · skip
    refine g_iloadN hG X0 hx (hb hby d7_0) (pc' := 1) rfl rfl ?_
    refine g_aloadN hG X0 hx (hb hby d7_1) (pc' := 2) rfl rfl rfl ?_
    refine g_arraylength hG X0 hx hZ e0 V_a (hb hby d7_2) (pc' := 3) rfl ?_
    refine g_icmpYes hG X0 hx (hb hby d7_3) (pc' := 8) ((tlt (Int32.lt_iff_toInt_lt.mpr (by rw [show (2 : Int32).toInt = 2 by decide]; exact bq.2))).1) (by decide) (by decide) ?_
    refine g_aloadN hG X0 hx (hb hby d7_8) (pc' := 9) rfl rfl rfl ?_
    refine g_iloadN hG X0 hx (hb hby d7_9) (pc' := 10) rfl rfl ?_
    refine g_daload hG X0 hx hZ e0 V_a (j := q) (v := (.double (al q))) (nn_of bq.1) (al_at2 (in2_of bq.1 bq.2)) (hb hby d7_10) (pc' := 11) rfl ?_
    refine g_aloadN hG X0 hx (hb hby d7_11) (pc' := 12) rfl rfl rfl ?_
    refine g_iloadN hG X0 hx (hb hby d7_12) (pc' := 13) rfl rfl ?_
    refine g_daload hG X0 hx hZ e0 V_a (j := pj) (v := (.double (al pj))) (nn_of bpj.1) (al_at2 (in2_of bpj.1 bpj.2)) (hb hby d7_13) (pc' := 14) rfl ?_
    obtain ⟨v14, q14⟩ : ∃ zz : Int32, cmpValue (FP.dcmp (al q) (al pj)) .l = zz := ⟨_, rfl⟩
    refine g_dcmp hG X0 hx (hb hby d7_14) (pc' := 15) rfl q14 ?_
    refine g_ifNo hG X0 hx (hb hby d7_15) (pc' := 18) (by rw [← q14, c1]; rfl) rfl ?_
    refine g_iconst hG X0 hx (hb hby d7_18) (pc' := 19) rfl (v := (1 : Int32)) rfl ?_
    exact e_retI hGe X0 hx hrt hlk (hb hby d7_19) e0 (by decide) (by decide) (⟨by rw [hr], NF0, rfl⟩)
  · skip
    refine g_iloadN hG X0 hx (hb hby d7_0) (pc' := 1) rfl rfl ?_
    refine g_aloadN hG X0 hx (hb hby d7_1) (pc' := 2) rfl rfl rfl ?_
    refine g_arraylength hG X0 hx hZ e0 V_a (hb hby d7_2) (pc' := 3) rfl ?_
    refine g_icmpYes hG X0 hx (hb hby d7_3) (pc' := 8) ((tlt (Int32.lt_iff_toInt_lt.mpr (by rw [show (2 : Int32).toInt = 2 by decide]; exact bq.2))).1) (by decide) (by decide) ?_
    refine g_aloadN hG X0 hx (hb hby d7_8) (pc' := 9) rfl rfl rfl ?_
    refine g_iloadN hG X0 hx (hb hby d7_9) (pc' := 10) rfl rfl ?_
    refine g_daload hG X0 hx hZ e0 V_a (j := q) (v := (.double (al q))) (nn_of bq.1) (al_at2 (in2_of bq.1 bq.2)) (hb hby d7_10) (pc' := 11) rfl ?_
    refine g_aloadN hG X0 hx (hb hby d7_11) (pc' := 12) rfl rfl rfl ?_
    refine g_iloadN hG X0 hx (hb hby d7_12) (pc' := 13) rfl rfl ?_
    refine g_daload hG X0 hx hZ e0 V_a (j := pj) (v := (.double (al pj))) (nn_of bpj.1) (al_at2 (in2_of bpj.1 bpj.2)) (hb hby d7_13) (pc' := 14) rfl ?_
    obtain ⟨v14, q14⟩ : ∃ zz : Int32, cmpValue (FP.dcmp (al q) (al pj)) .l = zz := ⟨_, rfl⟩
    refine g_dcmp hG X0 hx (hb hby d7_14) (pc' := 15) rfl q14 ?_
    refine g_ifYes hG X0 hx (hb hby d7_15) (pc' := 20) (by rw [← q14, c1]; rfl) (by decide) (by decide) ?_
    refine g_aloadN hG X0 hx (hb hby d7_20) (pc' := 21) rfl rfl rfl ?_
    refine g_iloadN hG X0 hx (hb hby d7_21) (pc' := 22) rfl rfl ?_
    refine g_daload hG X0 hx hZ e0 V_a (j := q) (v := (.double (al q))) (nn_of bq.1) (al_at2 (in2_of bq.1 bq.2)) (hb hby d7_22) (pc' := 23) rfl ?_
    refine g_aloadN hG X0 hx (hb hby d7_23) (pc' := 24) rfl rfl rfl ?_
    refine g_iloadN hG X0 hx (hb hby d7_24) (pc' := 25) rfl rfl ?_
    refine g_daload hG X0 hx hZ e0 V_a (j := pj) (v := (.double (al pj))) (nn_of bpj.1) (al_at2 (in2_of bpj.1 bpj.2)) (hb hby d7_25) (pc' := 26) rfl ?_
    obtain ⟨v26, q26⟩ : ∃ zz : Int32, cmpValue (FP.dcmp (al q) (al pj)) .l = zz := ⟨_, rfl⟩
    refine g_dcmp hG X0 hx (hb hby d7_26) (pc' := 27) rfl q26 ?_
    refine g_ifNo hG X0 hx (hb hby d7_27) (pc' := 30) (by rw [← q26, c1]; rfl) rfl ?_
    refine g_iloadN hG X0 hx (hb hby d7_30) (pc' := 31) rfl rfl ?_
    refine g_iloadN hG X0 hx (hb hby d7_31) (pc' := 32) rfl rfl ?_
    refine g_icmpNo hG X0 hx (hb hby d7_32) (pc' := 35) ((tlt c2).2.1) rfl ?_
    refine g_iconst hG X0 hx (hb hby d7_35) (pc' := 36) rfl (v := (1 : Int32)) rfl ?_
    exact e_retI hGe X0 hx hrt hlk (hb hby d7_36) e0 (by decide) (by decide) (⟨by rw [hr], NF0, rfl⟩)
  · skip
    refine g_iloadN hG X0 hx (hb hby d7_0) (pc' := 1) rfl rfl ?_
    refine g_aloadN hG X0 hx (hb hby d7_1) (pc' := 2) rfl rfl rfl ?_
    refine g_arraylength hG X0 hx hZ e0 V_a (hb hby d7_2) (pc' := 3) rfl ?_
    refine g_icmpYes hG X0 hx (hb hby d7_3) (pc' := 8) ((tlt (Int32.lt_iff_toInt_lt.mpr (by rw [show (2 : Int32).toInt = 2 by decide]; exact bq.2))).1) (by decide) (by decide) ?_
    refine g_aloadN hG X0 hx (hb hby d7_8) (pc' := 9) rfl rfl rfl ?_
    refine g_iloadN hG X0 hx (hb hby d7_9) (pc' := 10) rfl rfl ?_
    refine g_daload hG X0 hx hZ e0 V_a (j := q) (v := (.double (al q))) (nn_of bq.1) (al_at2 (in2_of bq.1 bq.2)) (hb hby d7_10) (pc' := 11) rfl ?_
    refine g_aloadN hG X0 hx (hb hby d7_11) (pc' := 12) rfl rfl rfl ?_
    refine g_iloadN hG X0 hx (hb hby d7_12) (pc' := 13) rfl rfl ?_
    refine g_daload hG X0 hx hZ e0 V_a (j := pj) (v := (.double (al pj))) (nn_of bpj.1) (al_at2 (in2_of bpj.1 bpj.2)) (hb hby d7_13) (pc' := 14) rfl ?_
    obtain ⟨v14, q14⟩ : ∃ zz : Int32, cmpValue (FP.dcmp (al q) (al pj)) .l = zz := ⟨_, rfl⟩
    refine g_dcmp hG X0 hx (hb hby d7_14) (pc' := 15) rfl q14 ?_
    refine g_ifYes hG X0 hx (hb hby d7_15) (pc' := 20) (by rw [← q14, c1]; rfl) (by decide) (by decide) ?_
    refine g_aloadN hG X0 hx (hb hby d7_20) (pc' := 21) rfl rfl rfl ?_
    refine g_iloadN hG X0 hx (hb hby d7_21) (pc' := 22) rfl rfl ?_
    refine g_daload hG X0 hx hZ e0 V_a (j := q) (v := (.double (al q))) (nn_of bq.1) (al_at2 (in2_of bq.1 bq.2)) (hb hby d7_22) (pc' := 23) rfl ?_
    refine g_aloadN hG X0 hx (hb hby d7_23) (pc' := 24) rfl rfl rfl ?_
    refine g_iloadN hG X0 hx (hb hby d7_24) (pc' := 25) rfl rfl ?_
    refine g_daload hG X0 hx hZ e0 V_a (j := pj) (v := (.double (al pj))) (nn_of bpj.1) (al_at2 (in2_of bpj.1 bpj.2)) (hb hby d7_25) (pc' := 26) rfl ?_
    obtain ⟨v26, q26⟩ : ∃ zz : Int32, cmpValue (FP.dcmp (al q) (al pj)) .l = zz := ⟨_, rfl⟩
    refine g_dcmp hG X0 hx (hb hby d7_26) (pc' := 27) rfl q26 ?_
    refine g_ifNo hG X0 hx (hb hby d7_27) (pc' := 30) (by rw [← q26, c1]; rfl) rfl ?_
    refine g_iloadN hG X0 hx (hb hby d7_30) (pc' := 31) rfl rfl ?_
    refine g_iloadN hG X0 hx (hb hby d7_31) (pc' := 32) rfl rfl ?_
    refine g_icmpYes hG X0 hx (hb hby d7_32) (pc' := 37) ((flt c2).2.1) (by decide) (by decide) ?_
    refine g_iconst hG X0 hx (hb hby d7_37) (pc' := 38) rfl (v := (0 : Int32)) rfl ?_
    exact e_retI hGe X0 hx hrt hlk (hb hby d7_38) e0 (by decide) (by decide) (⟨by rw [hr], NF0, rfl⟩)
  · skip
    refine g_iloadN hG X0 hx (hb hby d7_0) (pc' := 1) rfl rfl ?_
    refine g_aloadN hG X0 hx (hb hby d7_1) (pc' := 2) rfl rfl rfl ?_
    refine g_arraylength hG X0 hx hZ e0 V_a (hb hby d7_2) (pc' := 3) rfl ?_
    refine g_icmpYes hG X0 hx (hb hby d7_3) (pc' := 8) ((tlt (Int32.lt_iff_toInt_lt.mpr (by rw [show (2 : Int32).toInt = 2 by decide]; exact bq.2))).1) (by decide) (by decide) ?_
    refine g_aloadN hG X0 hx (hb hby d7_8) (pc' := 9) rfl rfl rfl ?_
    refine g_iloadN hG X0 hx (hb hby d7_9) (pc' := 10) rfl rfl ?_
    refine g_daload hG X0 hx hZ e0 V_a (j := q) (v := (.double (al q))) (nn_of bq.1) (al_at2 (in2_of bq.1 bq.2)) (hb hby d7_10) (pc' := 11) rfl ?_
    refine g_aloadN hG X0 hx (hb hby d7_11) (pc' := 12) rfl rfl rfl ?_
    refine g_iloadN hG X0 hx (hb hby d7_12) (pc' := 13) rfl rfl ?_
    refine g_daload hG X0 hx hZ e0 V_a (j := pj) (v := (.double (al pj))) (nn_of bpj.1) (al_at2 (in2_of bpj.1 bpj.2)) (hb hby d7_13) (pc' := 14) rfl ?_
    obtain ⟨v14, q14⟩ : ∃ zz : Int32, cmpValue (FP.dcmp (al q) (al pj)) .l = zz := ⟨_, rfl⟩
    refine g_dcmp hG X0 hx (hb hby d7_14) (pc' := 15) rfl q14 ?_
    refine g_ifYes hG X0 hx (hb hby d7_15) (pc' := 20) (by rw [← q14, c1]; rfl) (by decide) (by decide) ?_
    refine g_aloadN hG X0 hx (hb hby d7_20) (pc' := 21) rfl rfl rfl ?_
    refine g_iloadN hG X0 hx (hb hby d7_21) (pc' := 22) rfl rfl ?_
    refine g_daload hG X0 hx hZ e0 V_a (j := q) (v := (.double (al q))) (nn_of bq.1) (al_at2 (in2_of bq.1 bq.2)) (hb hby d7_22) (pc' := 23) rfl ?_
    refine g_aloadN hG X0 hx (hb hby d7_23) (pc' := 24) rfl rfl rfl ?_
    refine g_iloadN hG X0 hx (hb hby d7_24) (pc' := 25) rfl rfl ?_
    refine g_daload hG X0 hx hZ e0 V_a (j := pj) (v := (.double (al pj))) (nn_of bpj.1) (al_at2 (in2_of bpj.1 bpj.2)) (hb hby d7_25) (pc' := 26) rfl ?_
    obtain ⟨v26, q26⟩ : ∃ zz : Int32, cmpValue (FP.dcmp (al q) (al pj)) .l = zz := ⟨_, rfl⟩
    refine g_dcmp hG X0 hx (hb hby d7_26) (pc' := 27) rfl q26 ?_
    refine g_ifYes hG X0 hx (hb hby d7_27) (pc' := 37) (by rw [← q26, c1]; rfl) (by decide) (by decide) ?_
    refine g_iconst hG X0 hx (hb hby d7_37) (pc' := 38) rfl (v := (0 : Int32)) rfl ?_
    exact e_retI hGe X0 hx hrt hlk (hb hby d7_38) e0 (by decide) (by decide) (⟨by rw [hr], NF0, rfl⟩)

def Q_rmBz2 (Z : State) (a : Addr) (al : Int32 → UInt64) (q pj : Int32) (h0 : Heap) (n0 : Nat) (v : Option Value) (h : Heap) (L : List Loc) : Prop := v = some (.int 0) ∧ Fr n0 L ∧ h = h0
set_option maxRecDepth 65536 in
set_option maxHeartbeats 40000000 in
theorem rmBz2 (l : Launch) (Z : State) (a0 : Array Value) (hw : ∀ d ∈ tables_1, d.before a0 Z = true) (ws : List Jvm.Cond) (a : Addr) (al : Int32 → UInt64) (q pj : Int32) (h0 : Heap) (n0 : Nat) (Zs : n0 ≤ h0.size) (V_a : AV Z h0 a .double (2 : Int32) [(.double (al (0 : Int32))), (.double (al (1 : Int32)))]) (hq : ¬ q < (2 : Int32)) :
    Con l (⟨"com/example/gauge_terms/gaugeterms/TopValuesPositionsPinLaw", "beats", "([DII)I"⟩ : MethodName) method_3_code 3 (some .int) ws ({ frames := 0, cells := 0, slots := 0, locals := 0 } : Room) Z #[(.ref a), (.int q), (.int pj)] h0 ({ frames := 0, cells := 0, slots := 0, locals := 0 } : Room).cells ({ frames := 0, cells := 0, slots := 0, locals := 0 } : Room).slots (Q_rmBz2 Z a al q pj h0 n0) := by
  refine Con.of (Ls := #[.val (.ref a), .val (.int q), .val (.int pj)]) (plainFor_of_name (by first | (simp [plainName, overriddenIn]; done) | decide +kernel)) (fun m => by first | (simp [entryFrame, mkF, argsToLocals, Value.category]; done) | rfl) ?_
  intro p e s m below meth c s₁ G hGe hG hx hby hml hown hnm hrt hlk hZ X0 e0
  have hown : s.vm.findClass "com/example/gauge_terms/gaugeterms/TopValuesPositionsPinLaw" = some m.cls := hown
  have hnm : meth.name = "beats" := hnm
  have NF0 := Fr.nil n0
  refine g_iloadN hG X0 hx (hb hby d7_0) (pc' := 1) rfl rfl ?_
  show G (s₁.setTop (mkF m 1 #[.val (.ref a), .val (.int q), .val (.int pj)] [(.int q)]))
  refine g_aloadN hG X0 hx (hb hby d7_1) (pc' := 2) rfl rfl rfl ?_
  show G (s₁.setTop (mkF m 2 #[.val (.ref a), .val (.int q), .val (.int pj)] [(.ref a), (.int q)]))
  refine g_arraylength hG X0 hx hZ e0 V_a (hb hby d7_2) (pc' := 3) rfl ?_
  show G (s₁.setTop (mkF m 3 #[.val (.ref a), .val (.int q), .val (.int pj)] [(.int 2), (.int q)]))
  refine g_icmpNo hG X0 hx (hb hby d7_3) (pc' := 6) ((flt hq).1) rfl ?_
  show G (s₁.setTop (mkF m 6 #[.val (.ref a), .val (.int q), .val (.int pj)] []))
  refine g_iconst hG X0 hx (hb hby d7_6) (pc' := 7) rfl (v := (0 : Int32)) rfl ?_
  show G (s₁.setTop (mkF m 7 #[.val (.ref a), .val (.int q), .val (.int pj)] [(.int 0)]))
  exact e_retI hGe X0 hx hrt hlk (hb hby d7_7) e0 (by decide) (by decide) (⟨rfl, NF0, rfl⟩)

def Q_rmRk2 (Z : State) (a : Addr) (al : Int32 → UInt64) (bt : Int32 → Int32 → Bool) (pj z : Int32) (h0 : Heap) (n0 : Nat) (v : Option Value) (h : Heap) (L : List Loc) : Prop := v = some (.int z) ∧ Fr n0 L ∧ h = h0
set_option maxRecDepth 65536 in
set_option maxHeartbeats 40000000 in
theorem rmRk2 (l : Launch) (Z : State) (a0 : Array Value) (hw : ∀ d ∈ tables_1, d.before a0 Z = true) (ws : List Jvm.Cond) (a : Addr) (al : Int32 → UInt64) (bt : Int32 → Int32 → Bool) (pj z : Int32) (h0 : Heap) (n0 : Nat) (Zs : n0 ≤ h0.size) (V_a : AV Z h0 a .double (2 : Int32) [(.double (al (0 : Int32))), (.double (al (1 : Int32)))]) (bpj : 0 ≤ pj.toInt ∧ pj.toInt < 2) (BT : ∀ x y, In4 x → In4 y → BtR al x y (bi bt x y)) (hz : rk2 bt pj = z) :
    Con l (⟨"com/example/gauge_terms/gaugeterms/TopValuesPositionsPinLaw", "rank", "([DI)I"⟩ : MethodName) method_4_code 2 (some .int) ws ({ frames := 1, cells := 0, slots := 0, locals := 24 } : Room) Z #[(.ref a), (.int pj)] h0 ({ frames := 1, cells := 0, slots := 0, locals := 24 } : Room).cells ({ frames := 1, cells := 0, slots := 0, locals := 24 } : Room).slots (Q_rmRk2 Z a al bt pj z h0 n0) := by
  refine Con.of (Ls := #[.val (.ref a), .val (.int pj)]) (plainFor_of_name (by first | (simp [plainName, overriddenIn]; done) | decide +kernel)) (fun m => by first | (simp [entryFrame, mkF, argsToLocals, Value.category]; done) | rfl) ?_
  intro p e s m below meth c s₁ G hGe hG hx hby hml hown hnm hrt hlk hZ X0 e0
  have hown : s.vm.findClass "com/example/gauge_terms/gaugeterms/TopValuesPositionsPinLaw" = some m.cls := hown
  have hnm : meth.name = "rank" := hnm
  have NF0 := Fr.nil n0
  refine g_aloadN hG X0 hx (hb hby d6_0) (pc' := 1) rfl rfl rfl ?_
  refine g_iconst hG X0 hx (hb hby d6_1) (pc' := 2) rfl (v := (0 : Int32)) rfl ?_
  refine g_iloadN hG X0 hx (hb hby d6_2) (pc' := 3) rfl rfl ?_
  refine g_callS hG X0 hx hZ (y := (⟨"com/example/gauge_terms/gaugeterms/TopValuesPositionsPinLaw", "beats", "([DII)I"⟩ : MethodName)) 0 hown (wd hw 29 rfl) (wd hw 30 rfl) (wd hw 3 rfl) (wd hw 31 rfl) (by decide) (rmBe2 l Z a0 hw [] a al (0 : Int32) pj (bi bt (0 : Int32) pj) h0 n0 Zs V_a (by decide) bpj (BT (0 : Int32) pj (by decide) (in4_of bpj.1 (by omega)))) (by decide) (by decide) (by rw [hml]; rfl) pd_1 rfl (argsL := [(.ref a), (.int 0), (.int pj)]) (rest := []) rfl rfl (Nat.le_of_eq rfl) (hb hby d6_3) e0 (by decide) (by decide) (pc' := 6) rfl ?_
  intro T1 rv1 L1 X1 hQ1
  obtain ⟨rfl, Nq1, eh1⟩ := hQ1
  have NF1 := Fr.app NF0 Nq1
  show G (T1.setTop (mkF m 6 _ [(.int (bi bt (0 : Int32) pj))]))
  refine g_aloadN hG X1 hx (hb hby d6_6) (pc' := 7) rfl rfl rfl ?_
  refine g_iconst hG X1 hx (hb hby d6_7) (pc' := 8) rfl (v := (1 : Int32)) rfl ?_
  refine g_iloadN hG X1 hx (hb hby d6_8) (pc' := 9) rfl rfl ?_
  refine g_callS hG X1 hx hZ (y := (⟨"com/example/gauge_terms/gaugeterms/TopValuesPositionsPinLaw", "beats", "([DII)I"⟩ : MethodName)) 1 hown (wd hw 29 rfl) (wd hw 30 rfl) (wd hw 3 rfl) (wd hw 31 rfl) (by decide) (rmBe2 l Z a0 hw [] a al (1 : Int32) pj (bi bt (1 : Int32) pj) h0 n0 Zs V_a (by decide) bpj (BT (1 : Int32) pj (by decide) (in4_of bpj.1 (by omega)))) (by decide) (by decide) (by rw [hml]; rfl) pd_1 rfl (argsL := [(.ref a), (.int 1), (.int pj)]) (rest := [(.int (bi bt (0 : Int32) pj))]) rfl rfl (Nat.le_of_eq rfl) (hb hby d6_9) eh1 (by decide) (by decide) (pc' := 12) rfl ?_
  intro T2 rv2 L2 X2 hQ2
  obtain ⟨rfl, Nq2, eh2⟩ := hQ2
  have NF2 := Fr.app NF1 Nq2
  show G (T2.setTop (mkF m 12 _ [(.int (bi bt (1 : Int32) pj)), (.int (bi bt (0 : Int32) pj))]))
  obtain ⟨v12, q12⟩ : ∃ zz : Int32, (bi bt (0 : Int32) pj) + (bi bt (1 : Int32) pj) = zz := ⟨_, rfl⟩
  refine g_iadd hG X2 hx (hb hby d6_12) (pc' := 13) rfl q12 ?_
  refine g_aloadN hG X2 hx (hb hby d6_13) (pc' := 14) rfl rfl rfl ?_
  refine g_iconst hG X2 hx (hb hby d6_14) (pc' := 15) rfl (v := (2 : Int32)) rfl ?_
  refine g_iloadN hG X2 hx (hb hby d6_15) (pc' := 16) rfl rfl ?_
  refine g_callS hG X2 hx hZ (y := (⟨"com/example/gauge_terms/gaugeterms/TopValuesPositionsPinLaw", "beats", "([DII)I"⟩ : MethodName)) 1 hown (wd hw 29 rfl) (wd hw 30 rfl) (wd hw 3 rfl) (wd hw 31 rfl) (by decide) (rmBz2 l Z a0 hw [] a al (2 : Int32) pj h0 n0 Zs V_a (by decide)) (by decide) (by decide) (by rw [hml]; rfl) pd_1 rfl (argsL := [(.ref a), (.int 2), (.int pj)]) (rest := [(.int v12)]) rfl rfl (Nat.le_of_eq rfl) (hb hby d6_16) eh2 (by decide) (by decide) (pc' := 19) rfl ?_
  intro T3 rv3 L3 X3 hQ3
  obtain ⟨rfl, Nq3, eh3⟩ := hQ3
  have NF3 := Fr.app NF2 Nq3
  show G (T3.setTop (mkF m 19 _ [(.int 0), (.int v12)]))
  obtain ⟨v19, q19⟩ : ∃ zz : Int32, v12 + (0 : Int32) = zz := ⟨_, rfl⟩
  refine g_iadd hG X3 hx (hb hby d6_19) (pc' := 20) rfl q19 ?_
  refine g_aloadN hG X3 hx (hb hby d6_20) (pc' := 21) rfl rfl rfl ?_
  refine g_iconst hG X3 hx (hb hby d6_21) (pc' := 22) rfl (v := (3 : Int32)) rfl ?_
  refine g_iloadN hG X3 hx (hb hby d6_22) (pc' := 23) rfl rfl ?_
  refine g_callS hG X3 hx hZ (y := (⟨"com/example/gauge_terms/gaugeterms/TopValuesPositionsPinLaw", "beats", "([DII)I"⟩ : MethodName)) 1 hown (wd hw 29 rfl) (wd hw 30 rfl) (wd hw 3 rfl) (wd hw 31 rfl) (by decide) (rmBz2 l Z a0 hw [] a al (3 : Int32) pj h0 n0 Zs V_a (by decide)) (by decide) (by decide) (by rw [hml]; rfl) pd_1 rfl (argsL := [(.ref a), (.int 3), (.int pj)]) (rest := [(.int v19)]) rfl rfl (Nat.le_of_eq rfl) (hb hby d6_23) eh3 (by decide) (by decide) (pc' := 26) rfl ?_
  intro T4 rv4 L4 X4 hQ4
  obtain ⟨rfl, Nq4, eh4⟩ := hQ4
  have NF4 := Fr.app NF3 Nq4
  show G (T4.setTop (mkF m 26 _ [(.int 0), (.int v19)]))
  obtain ⟨v26, q26⟩ : ∃ zz : Int32, v19 + (0 : Int32) = zz := ⟨_, rfl⟩
  refine g_iadd hG X4 hx (hb hby d6_26) (pc' := 27) rfl q26 ?_
  exact e_retI hGe X4 hx hrt hlk (hb hby d6_27) eh4 (by decide) (by decide) (⟨by rw [← hz]; unfold rk2; rw [q12, q19, q26], NF4, rfl⟩)

def Q_rmPos2_0 (Z : State) (a : Addr) (al : Int32 → UInt64) (b01 b02 b03 b12 b13 b23 : Bool) (lim r : Int64) (h0 : Heap) (n0 : Nat) (v : Option Value) (h : Heap) (L : List Loc) : Prop := ∃ (b : Addr), v = some (.ref b) ∧ Fr n0 L ∧ Keep h0 h [] ∧ h0.size ≤ b ∧ (AV Z h b .int (0 : Int32) []) ∧ tops (btB b01 b02 b03 b12 b13 b23) 2 0 [] = true
set_option maxRecDepth 65536 in
set_option maxHeartbeats 40000000 in
theorem rmPos2_0 (l : Launch) (Z : State) (a0 : Array Value) (hw : ∀ d ∈ tables_1, d.before a0 Z = true) (ws : List Jvm.Cond) (a : Addr) (al : Int32 → UInt64) (b01 b02 b03 b12 b13 b23 : Bool) (lim r : Int64) (h0 : Heap) (n0 : Nat) (Zs : n0 ≤ h0.size) (V_a : AV Z h0 a .double (2 : Int32) [(.double (al (0 : Int32))), (.double (al (1 : Int32)))]) (TR : trB b01 b02 b03 b12 b13 b23 = true) (BT : ∀ x y, In4 x → In4 y → BtR al x y (bi (btB b01 b02 b03 b12 b13 b23) x y)) (hm : (¬ (2 : Int32).toInt64 < lim ∧ r = lim) ∨ ((2 : Int32).toInt64 < lim ∧ r = (2 : Int32).toInt64)) (hk : r.toInt32 = (0 : Int32)) :
    Con l (⟨"com/example/gauge_terms/gaugeterms/TopValues", "positions", "([DJ)[I"⟩ : MethodName) prog_3_method_2_code 8 (some (.array .int)) ws ({ frames := 1, cells := 1, slots := 0, locals := 40 } : Room) Z #[(.ref a), (.long lim)] h0 ({ frames := 1, cells := 1, slots := 0, locals := 40 } : Room).cells ({ frames := 1, cells := 1, slots := 0, locals := 40 } : Room).slots (Q_rmPos2_0 Z a al b01 b02 b03 b12 b13 b23 lim r h0 n0) := by
  refine Con.of (Ls := #[.val (.ref a), .val (.long lim), .second, .unset, .unset, .unset, .unset, .unset]) (plainFor_of_name (by first | (simp [plainName, overriddenIn]; done) | decide +kernel)) (fun m => by first | (simp [entryFrame, mkF, argsToLocals, Value.category]; done) | rfl) ?_
  intro p e s m below meth c s₁ G hGe hG hx hby hml hown hnm hrt hlk hZ X0 e0
  have hown : s.vm.findClass "com/example/gauge_terms/gaugeterms/TopValues" = some m.cls := hown
  have hnm : meth.name = "positions" := hnm
  have NF0 := Fr.nil n0
  have K0 := Keep.refl h0 ([] : List Addr)
  have HT0 : tops (btB b01 b02 b03 b12 b13 b23) 0 0 [] = true := rfl
  refine g_lloadN hG X0 hx (hb hby d3_0) (pc' := 1) rfl rfl ?_
  refine g_aloadN hG X0 hx (hb hby d3_1) (pc' := 2) rfl rfl rfl ?_
  refine g_arraylength hG X0 hx hZ e0 V_a (hb hby d3_2) (pc' := 3) rfl ?_
  obtain ⟨v3, q3⟩ : ∃ zz : Int64, (2 : Int32).toInt64 = zz := ⟨_, rfl⟩
  refine g_i2l hG X0 hx (hb hby d3_3) (pc' := 4) rfl q3 ?_
  refine g_callS hG X0 hx hZ (y := (⟨"java/lang/Math", "min", "(JJ)J"⟩ : MethodName)) 0 hown (wd hw 14 rfl) (wd hw 7 rfl) (wd hw 8 rfl) (wd hw 9 rfl) (by decide) (rmMJ l Z a0 hw [] lim v3 r h0 n0 Zs (q3 ▸ hm)) (by decide) (by decide) (by rw [hml]; rfl) pd_0 rfl (argsL := [(.long lim), (.long v3)]) (rest := []) rfl rfl (Nat.le_of_eq rfl) (hb hby d3_4) e0 (by decide) (by decide) (pc' := 7) rfl ?_
  intro T1 rv1 L1 X1 hQ1
  obtain ⟨rfl, Nq1, eh1⟩ := hQ1
  have NF1 := Fr.app NF0 Nq1
  show G (T1.setTop (mkF m 7 _ [(.long r)]))
  refine g_l2i hG X1 hx (hb hby d3_7) (pc' := 8) rfl hk ?_
  refine g_newP hG X1 hx hZ (wd hw 15 rfl) eh1 (hb hby d3_8) (by decide) 0 (by decide) (by decide) (by decide) (by decide) (pc' := 10) rfl ?_
  intro T2 h2 ids kA2 gs2 X2 e2 E2 A2
  have ne_a_ids : a ≠ ids := Nat.ne_of_lt (gs2 ▸ V_a.lt)
  have ge_ids : n0 ≤ ids := gs2 ▸ Zs
  have sz_ids : h0.size ≤ ids := gs2 ▸ K0.1
  have Zs := Nat.le_trans Zs E2.1
  have V_a := V_a.ext E2
  have K2 := K0.ext E2
  have V_ids : AV Z h2 ids .int (0 : Int32) [] := AV.new A2
  refine g_astoreN hG X2 hx (hb hby d3_10) (pc' := 11) rfl rfl (Ls' := #[.val (.ref a), .val (.long lim), .second, .val (.ref ids), .unset, .unset, .unset, .unset]) rfl ?_
  refine g_iconst hG X2 hx (hb hby d3_11) (pc' := 12) rfl (v := (0 : Int32)) rfl ?_
  refine g_istore hG X2 hx (hb hby d3_12) (pc' := 14) rfl (Ls' := #[.val (.ref a), .val (.long lim), .second, .val (.ref ids), .val (.int 0), .unset, .unset, .unset]) rfl ?_
  refine g_iconst hG X2 hx (hb hby d3_14) (pc' := 15) rfl (v := (0 : Int32)) rfl ?_
  refine g_istore hG X2 hx (hb hby d3_15) (pc' := 17) rfl (Ls' := #[.val (.ref a), .val (.long lim), .second, .val (.ref ids), .val (.int 0), .val (.int 0), .unset, .unset]) rfl ?_
  have J1 : ∀ (Tj3 : State) (hj3 : Heap) (Lj3 : List Loc)  (w6 : Int32), Stand p l e ({ frames := 1, cells := 1, slots := 0, locals := 40 } : Room) s m #[(.ref a), (.long lim)] below meth c Tj3 Lj3 1 0 → Tj3.heap = hj3 → Fr n0 Lj3 → n0 ≤ hj3.size → Keep h0 hj3 [] → AV Z hj3 a .double (2 : Int32) [(.double (al (0 : Int32))), (.double (al (1 : Int32)))] → AV Z hj3 ids .int (0 : Int32) [] → tops (btB b01 b02 b03 b12 b13 b23) 1 0 [] = true → G (Tj3.setTop (mkF m 17 #[.val (.ref a), .val (.long lim), .second, .val (.ref ids), .val (.int 0), .val (.int 1), .val (.int w6), .unset] [])) := by
    intro Tj3 hj3 Lj3  w6  Xj3 ej3 NFj3 Zs Kj3 V_a V_ids HT1
    have J2 : ∀ (Tj4 : State) (hj4 : Heap) (Lj4 : List Loc)  (w6 : Int32), Stand p l e ({ frames := 1, cells := 1, slots := 0, locals := 40 } : Room) s m #[(.ref a), (.long lim)] below meth c Tj4 Lj4 1 0 → Tj4.heap = hj4 → Fr n0 Lj4 → n0 ≤ hj4.size → Keep h0 hj4 [] → AV Z hj4 a .double (2 : Int32) [(.double (al (0 : Int32))), (.double (al (1 : Int32)))] → AV Z hj4 ids .int (0 : Int32) [] → tops (btB b01 b02 b03 b12 b13 b23) 2 0 [] = true → G (Tj4.setTop (mkF m 17 #[.val (.ref a), .val (.long lim), .second, .val (.ref ids), .val (.int 0), .val (.int 2), .val (.int w6), .unset] [])) := by
      intro Tj4 hj4 Lj4  w6  Xj4 ej4 NFj4 Zs Kj4 V_a V_ids HT2
      refine g_iload hG Xj4 hx (hb hby d3_17) (pc' := 19) rfl rfl ?_
      refine g_aloadN hG Xj4 hx (hb hby d3_19) (pc' := 20) rfl rfl rfl ?_
      refine g_arraylength hG Xj4 hx hZ ej4 V_a (hb hby d3_20) (pc' := 21) rfl ?_
      refine g_icmpYes hG Xj4 hx (hb hby d3_21) (pc' := 112) (by decide) (by decide) (by decide) ?_
      refine g_aloadN hG Xj4 hx (hb hby d3_112) (pc' := 113) rfl rfl rfl ?_
      exact e_retA hGe Xj4 hx hrt rfl hlk (hb hby d3_113) ej4 (by decide) (by decide) (⟨ids,  rfl, NFj4, Kj4, sz_ids, V_ids, HT2⟩)
    refine g_iload hG Xj3 hx (hb hby d3_17) (pc' := 19) rfl rfl ?_
    refine g_aloadN hG Xj3 hx (hb hby d3_19) (pc' := 20) rfl rfl rfl ?_
    refine g_arraylength hG Xj3 hx hZ ej3 V_a (hb hby d3_20) (pc' := 21) rfl ?_
    refine g_icmpNo hG Xj3 hx (hb hby d3_21) (pc' := 24) (by decide) rfl ?_
    refine g_iload hG Xj3 hx (hb hby d3_24) (pc' := 26) rfl rfl ?_
    refine g_istore hG Xj3 hx (hb hby d3_26) (pc' := 28) rfl (Ls' := #[.val (.ref a), .val (.long lim), .second, .val (.ref ids), .val (.int 0), .val (.int 1), .val (.int 0), .unset]) rfl ?_
    refine g_iload hG Xj3 hx (hb hby d3_28) (pc' := 30) rfl rfl ?_
    refine g_ifYes hG Xj3 hx (hb hby d3_30) (pc' := 55) (by decide) (by decide) (by decide) ?_
    refine g_iload hG Xj3 hx (hb hby d3_55) (pc' := 57) rfl rfl ?_
    refine g_aloadN hG Xj3 hx (hb hby d3_57) (pc' := 58) rfl rfl rfl ?_
    refine g_arraylength hG Xj3 hx hZ ej3 V_ids (hb hby d3_58) (pc' := 59) rfl ?_
    refine g_icmpYes hG Xj3 hx (hb hby d3_59) (pc' := 106) (by decide) (by decide) (by decide) ?_
    refine g_iinc hG Xj3 hx (hb hby d3_106) (pc' := 109) rfl rfl (v := (2 : Int32)) (by decide) (Ls' := #[.val (.ref a), .val (.long lim), .second, .val (.ref ids), .val (.int 0), .val (.int 2), .val (.int 0), .unset]) rfl ?_
    refine g_goto hG Xj3 hx (hb hby d3_109) (pc' := 17) (by decide) (by decide) ?_
    exact J2 _ _ _ (0 : Int32) Xj3 ej3 NFj3 Zs Kj3 V_a V_ids (st_1_0_0_0 b01 b02 b03 b12 b13 b23  TR HT1 )
  refine g_iload hG X2 hx (hb hby d3_17) (pc' := 19) rfl rfl ?_
  refine g_aloadN hG X2 hx (hb hby d3_19) (pc' := 20) rfl rfl rfl ?_
  refine g_arraylength hG X2 hx hZ e2 V_a (hb hby d3_20) (pc' := 21) rfl ?_
  refine g_icmpNo hG X2 hx (hb hby d3_21) (pc' := 24) (by decide) rfl ?_
  refine g_iload hG X2 hx (hb hby d3_24) (pc' := 26) rfl rfl ?_
  refine g_istore hG X2 hx (hb hby d3_26) (pc' := 28) rfl (Ls' := #[.val (.ref a), .val (.long lim), .second, .val (.ref ids), .val (.int 0), .val (.int 0), .val (.int 0), .unset]) rfl ?_
  refine g_iload hG X2 hx (hb hby d3_28) (pc' := 30) rfl rfl ?_
  refine g_ifYes hG X2 hx (hb hby d3_30) (pc' := 55) (by decide) (by decide) (by decide) ?_
  refine g_iload hG X2 hx (hb hby d3_55) (pc' := 57) rfl rfl ?_
  refine g_aloadN hG X2 hx (hb hby d3_57) (pc' := 58) rfl rfl rfl ?_
  refine g_arraylength hG X2 hx hZ e2 V_ids (hb hby d3_58) (pc' := 59) rfl ?_
  refine g_icmpYes hG X2 hx (hb hby d3_59) (pc' := 106) (by decide) (by decide) (by decide) ?_
  refine g_iinc hG X2 hx (hb hby d3_106) (pc' := 109) rfl rfl (v := (1 : Int32)) (by decide) (Ls' := #[.val (.ref a), .val (.long lim), .second, .val (.ref ids), .val (.int 0), .val (.int 1), .val (.int 0), .unset]) rfl ?_
  refine g_goto hG X2 hx (hb hby d3_109) (pc' := 17) (by decide) (by decide) ?_
  exact J1 _ _ _ (0 : Int32) X2 e2 NF1 Zs K2 V_a V_ids (st_0_0_0_0 b01 b02 b03 b12 b13 b23  TR HT0 )

def Q_rmCk2_1_0 (Z : State) (a ids : Addr) (al : Int32 → UInt64) (bt : Int32 → Int32 → Bool) (p0 : Int32) (h0 : Heap) (n0 : Nat) (v : Option Value) (h : Heap) (L : List Loc) : Prop := v = some (.int 1) ∧ Fr n0 L ∧ h = h0
set_option maxRecDepth 65536 in
set_option maxHeartbeats 40000000 in
theorem rmCk2_1_0 (l : Launch) (Z : State) (a0 : Array Value) (hw : ∀ d ∈ tables_1, d.before a0 Z = true) (ws : List Jvm.Cond) (a ids : Addr) (al : Int32 → UInt64) (bt : Int32 → Int32 → Bool) (p0 : Int32) (h0 : Heap) (n0 : Nat) (Zs : n0 ≤ h0.size) (V_a : AV Z h0 a .double (2 : Int32) [(.double (al (0 : Int32))), (.double (al (1 : Int32)))]) (V_ids : AV Z h0 ids .int (1 : Int32) [(.int p0)]) (HT : tops bt 2 0 [p0] = true) (BT : ∀ x y, In4 x → In4 y → BtR al x y (bi bt x y)) :
    Con l (⟨"com/example/gauge_terms/gaugeterms/TopValuesPositionsPinLaw", "check", "([D[II)Z"⟩ : MethodName) method_5_code 4 (some .boolean) ws ({ frames := 2, cells := 0, slots := 0, locals := 56 } : Room) Z #[(.ref a), (.ref ids), (.int 0)] h0 ({ frames := 2, cells := 0, slots := 0, locals := 56 } : Room).cells ({ frames := 2, cells := 0, slots := 0, locals := 56 } : Room).slots (Q_rmCk2_1_0 Z a ids al bt p0 h0 n0) := by
  refine Con.of (Ls := #[.val (.ref a), .val (.ref ids), .val (.int 0), .unset]) (plainFor_of_name (by first | (simp [plainName, overriddenIn]; done) | decide +kernel)) (fun m => by first | (simp [entryFrame, mkF, argsToLocals, Value.category]; done) | rfl) ?_
  intro p e s m below meth c s₁ G hGe hG hx hby hml hown hnm hrt hlk hZ X0 e0
  have hown : s.vm.findClass "com/example/gauge_terms/gaugeterms/TopValuesPositionsPinLaw" = some m.cls := hown
  have hnm : meth.name = "check" := hnm
  have NF0 := Fr.nil n0
  have bj : 0 ≤ p0.toInt ∧ p0.toInt < 2 := tops_b HT p0 (by simp)
  have rj : rk2 bt p0 = (0 : Int32) := tops_r HT 0 p0 rfl
  refine g_iloadN hG X0 hx (hb hby d5_0) (pc' := 1) rfl rfl ?_
  refine g_aloadN hG X0 hx (hb hby d5_1) (pc' := 2) rfl rfl rfl ?_
  refine g_arraylength hG X0 hx hZ e0 V_ids (hb hby d5_2) (pc' := 3) rfl ?_
  refine g_icmpYes hG X0 hx (hb hby d5_3) (pc' := 8) (by decide) (by decide) (by decide) ?_
  refine g_aloadN hG X0 hx (hb hby d5_8) (pc' := 9) rfl rfl rfl ?_
  refine g_iloadN hG X0 hx (hb hby d5_9) (pc' := 10) rfl rfl ?_
  refine g_iaload hG X0 hx hZ e0 V_ids (j := (0 : Int32)) (v := (.int p0)) (by decide) rfl (hb hby d5_10) (pc' := 11) rfl ?_
  refine g_istoreN hG X0 hx (hb hby d5_11) (pc' := 12) rfl (Ls' := #[.val (.ref a), .val (.ref ids), .val (.int 0), .val (.int p0)]) rfl ?_
  refine g_iloadN hG X0 hx (hb hby d5_12) (pc' := 13) rfl rfl ?_
  refine g_ifNo hG X0 hx (hb hby d5_13) (pc' := 16) ((if0 _ _).trans (flt (nn_of bj.1)).1) rfl ?_
  refine g_iloadN hG X0 hx (hb hby d5_16) (pc' := 17) rfl rfl ?_
  refine g_aloadN hG X0 hx (hb hby d5_17) (pc' := 18) rfl rfl rfl ?_
  refine g_arraylength hG X0 hx hZ e0 V_a (hb hby d5_18) (pc' := 19) rfl ?_
  refine g_icmpYes hG X0 hx (hb hby d5_19) (pc' := 24) ((tlt (Int32.lt_iff_toInt_lt.mpr (by rw [show (2 : Int32).toInt = 2 by decide]; exact bj.2))).1) (by decide) (by decide) ?_
  refine g_aloadN hG X0 hx (hb hby d5_24) (pc' := 25) rfl rfl rfl ?_
  refine g_iloadN hG X0 hx (hb hby d5_25) (pc' := 26) rfl rfl ?_
  refine g_callS hG X0 hx hZ (y := (⟨"com/example/gauge_terms/gaugeterms/TopValuesPositionsPinLaw", "rank", "([DI)I"⟩ : MethodName)) 0 hown (wd hw 26 rfl) (wd hw 27 rfl) (wd hw 3 rfl) (wd hw 28 rfl) (by decide) (rmRk2 l Z a0 hw [] a al bt p0 (0 : Int32) h0 n0 Zs V_a bj BT rj) (by decide) (by decide) (by rw [hml]; rfl) pd_2 rfl (argsL := [(.ref a), (.int p0)]) (rest := []) rfl rfl (Nat.le_of_eq rfl) (hb hby d5_26) e0 (by decide) (by decide) (pc' := 29) rfl ?_
  intro T1 rv1 L1 X1 hQ1
  obtain ⟨rfl, Nq1, eh1⟩ := hQ1
  have NF1 := Fr.app NF0 Nq1
  show G (T1.setTop (mkF m 29 _ [(.int 0)]))
  refine g_iloadN hG X1 hx (hb hby d5_29) (pc' := 30) rfl rfl ?_
  refine g_icmpNo hG X1 hx (hb hby d5_30) (pc' := 33) (by decide) rfl ?_
  refine g_iconst hG X1 hx (hb hby d5_33) (pc' := 34) rfl (v := (1 : Int32)) rfl ?_
  refine g_goto hG X1 hx (hb hby d5_34) (pc' := 38) (by decide) (by decide) ?_
  exact e_retZ hGe X1 hx hrt hlk (hb hby d5_38) (Or.inr rfl) eh1 (by decide) (by decide) (⟨rfl, NF1, rfl⟩)

def Q_rmPos2_1 (Z : State) (a : Addr) (al : Int32 → UInt64) (b01 b02 b03 b12 b13 b23 : Bool) (lim r : Int64) (h0 : Heap) (n0 : Nat) (v : Option Value) (h : Heap) (L : List Loc) : Prop := ∃ (b : Addr) (p0 : Int32), v = some (.ref b) ∧ Fr n0 L ∧ Keep h0 h [] ∧ h0.size ≤ b ∧ (AV Z h b .int (1 : Int32) [(.int p0)]) ∧ tops (btB b01 b02 b03 b12 b13 b23) 2 0 [p0] = true
set_option maxRecDepth 65536 in
set_option maxHeartbeats 40000000 in
theorem rmPos2_1 (l : Launch) (Z : State) (a0 : Array Value) (hw : ∀ d ∈ tables_1, d.before a0 Z = true) (ws : List Jvm.Cond) (a : Addr) (al : Int32 → UInt64) (b01 b02 b03 b12 b13 b23 : Bool) (lim r : Int64) (h0 : Heap) (n0 : Nat) (Zs : n0 ≤ h0.size) (V_a : AV Z h0 a .double (2 : Int32) [(.double (al (0 : Int32))), (.double (al (1 : Int32)))]) (TR : trB b01 b02 b03 b12 b13 b23 = true) (BT : ∀ x y, In4 x → In4 y → BtR al x y (bi (btB b01 b02 b03 b12 b13 b23) x y)) (hm : (¬ (2 : Int32).toInt64 < lim ∧ r = lim) ∨ ((2 : Int32).toInt64 < lim ∧ r = (2 : Int32).toInt64)) (hk : r.toInt32 = (1 : Int32)) :
    Con l (⟨"com/example/gauge_terms/gaugeterms/TopValues", "positions", "([DJ)[I"⟩ : MethodName) prog_3_method_2_code 8 (some (.array .int)) ws ({ frames := 1, cells := 1, slots := 1, locals := 40 } : Room) Z #[(.ref a), (.long lim)] h0 ({ frames := 1, cells := 1, slots := 1, locals := 40 } : Room).cells ({ frames := 1, cells := 1, slots := 1, locals := 40 } : Room).slots (Q_rmPos2_1 Z a al b01 b02 b03 b12 b13 b23 lim r h0 n0) := by
  refine Con.of (Ls := #[.val (.ref a), .val (.long lim), .second, .unset, .unset, .unset, .unset, .unset]) (plainFor_of_name (by first | (simp [plainName, overriddenIn]; done) | decide +kernel)) (fun m => by first | (simp [entryFrame, mkF, argsToLocals, Value.category]; done) | rfl) ?_
  intro p e s m below meth c s₁ G hGe hG hx hby hml hown hnm hrt hlk hZ X0 e0
  have hown : s.vm.findClass "com/example/gauge_terms/gaugeterms/TopValues" = some m.cls := hown
  have hnm : meth.name = "positions" := hnm
  have NF0 := Fr.nil n0
  have K0 := Keep.refl h0 ([] : List Addr)
  have HT0 : tops (btB b01 b02 b03 b12 b13 b23) 0 0 [] = true := rfl
  refine g_lloadN hG X0 hx (hb hby d3_0) (pc' := 1) rfl rfl ?_
  refine g_aloadN hG X0 hx (hb hby d3_1) (pc' := 2) rfl rfl rfl ?_
  refine g_arraylength hG X0 hx hZ e0 V_a (hb hby d3_2) (pc' := 3) rfl ?_
  obtain ⟨v3, q3⟩ : ∃ zz : Int64, (2 : Int32).toInt64 = zz := ⟨_, rfl⟩
  refine g_i2l hG X0 hx (hb hby d3_3) (pc' := 4) rfl q3 ?_
  refine g_callS hG X0 hx hZ (y := (⟨"java/lang/Math", "min", "(JJ)J"⟩ : MethodName)) 0 hown (wd hw 14 rfl) (wd hw 7 rfl) (wd hw 8 rfl) (wd hw 9 rfl) (by decide) (rmMJ l Z a0 hw [] lim v3 r h0 n0 Zs (q3 ▸ hm)) (by decide) (by decide) (by rw [hml]; rfl) pd_0 rfl (argsL := [(.long lim), (.long v3)]) (rest := []) rfl rfl (Nat.le_of_eq rfl) (hb hby d3_4) e0 (by decide) (by decide) (pc' := 7) rfl ?_
  intro T1 rv1 L1 X1 hQ1
  obtain ⟨rfl, Nq1, eh1⟩ := hQ1
  have NF1 := Fr.app NF0 Nq1
  show G (T1.setTop (mkF m 7 _ [(.long r)]))
  refine g_l2i hG X1 hx (hb hby d3_7) (pc' := 8) rfl hk ?_
  refine g_newP hG X1 hx hZ (wd hw 15 rfl) eh1 (hb hby d3_8) (by decide) 1 (by decide) (by decide) (by decide) (by decide) (pc' := 10) rfl ?_
  intro T2 h2 ids kA2 gs2 X2 e2 E2 A2
  have ne_a_ids : a ≠ ids := Nat.ne_of_lt (gs2 ▸ V_a.lt)
  have ge_ids : n0 ≤ ids := gs2 ▸ Zs
  have sz_ids : h0.size ≤ ids := gs2 ▸ K0.1
  have Zs := Nat.le_trans Zs E2.1
  have V_a := V_a.ext E2
  have K2 := K0.ext E2
  have V_ids : AV Z h2 ids .int (1 : Int32) [(.int 0)] := AV.new A2
  refine g_astoreN hG X2 hx (hb hby d3_10) (pc' := 11) rfl rfl (Ls' := #[.val (.ref a), .val (.long lim), .second, .val (.ref ids), .unset, .unset, .unset, .unset]) rfl ?_
  refine g_iconst hG X2 hx (hb hby d3_11) (pc' := 12) rfl (v := (0 : Int32)) rfl ?_
  refine g_istore hG X2 hx (hb hby d3_12) (pc' := 14) rfl (Ls' := #[.val (.ref a), .val (.long lim), .second, .val (.ref ids), .val (.int 0), .unset, .unset, .unset]) rfl ?_
  refine g_iconst hG X2 hx (hb hby d3_14) (pc' := 15) rfl (v := (0 : Int32)) rfl ?_
  refine g_istore hG X2 hx (hb hby d3_15) (pc' := 17) rfl (Ls' := #[.val (.ref a), .val (.long lim), .second, .val (.ref ids), .val (.int 0), .val (.int 0), .unset, .unset]) rfl ?_
  have J1 : ∀ (Tj3 : State) (hj3 : Heap) (Lj3 : List Loc) (p0 : Int32) (w6 w7 : Int32), Stand p l e ({ frames := 1, cells := 1, slots := 1, locals := 40 } : Room) s m #[(.ref a), (.long lim)] below meth c Tj3 Lj3 1 1 → Tj3.heap = hj3 → Fr n0 Lj3 → n0 ≤ hj3.size → Keep h0 hj3 [] → AV Z hj3 a .double (2 : Int32) [(.double (al (0 : Int32))), (.double (al (1 : Int32)))] → AV Z hj3 ids .int (1 : Int32) [(.int p0)] → tops (btB b01 b02 b03 b12 b13 b23) 1 0 [p0] = true → G (Tj3.setTop (mkF m 17 #[.val (.ref a), .val (.long lim), .second, .val (.ref ids), .val (.int 1), .val (.int 1), .val (.int w6), .val (.int w7)] [])) := by
    intro Tj3 hj3 Lj3 p0 w6 w7 Xj3 ej3 NFj3 Zs Kj3 V_a V_ids HT1
    have bp0 : 0 ≤ p0.toInt ∧ p0.toInt < 1 := tops_b HT1 p0 (by simp)
    have J2 : ∀ (Tj4 : State) (hj4 : Heap) (Lj4 : List Loc) (p0 : Int32) (w6 w7 : Int32), Stand p l e ({ frames := 1, cells := 1, slots := 1, locals := 40 } : Room) s m #[(.ref a), (.long lim)] below meth c Tj4 Lj4 1 1 → Tj4.heap = hj4 → Fr n0 Lj4 → n0 ≤ hj4.size → Keep h0 hj4 [] → AV Z hj4 a .double (2 : Int32) [(.double (al (0 : Int32))), (.double (al (1 : Int32)))] → AV Z hj4 ids .int (1 : Int32) [(.int p0)] → tops (btB b01 b02 b03 b12 b13 b23) 2 0 [p0] = true → G (Tj4.setTop (mkF m 17 #[.val (.ref a), .val (.long lim), .second, .val (.ref ids), .val (.int 1), .val (.int 2), .val (.int w6), .val (.int w7)] [])) := by
      intro Tj4 hj4 Lj4 p0 w6 w7 Xj4 ej4 NFj4 Zs Kj4 V_a V_ids HT2
      have bp0 : 0 ≤ p0.toInt ∧ p0.toInt < 2 := tops_b HT2 p0 (by simp)
      refine g_iload hG Xj4 hx (hb hby d3_17) (pc' := 19) rfl rfl ?_
      refine g_aloadN hG Xj4 hx (hb hby d3_19) (pc' := 20) rfl rfl rfl ?_
      refine g_arraylength hG Xj4 hx hZ ej4 V_a (hb hby d3_20) (pc' := 21) rfl ?_
      refine g_icmpYes hG Xj4 hx (hb hby d3_21) (pc' := 112) (by decide) (by decide) (by decide) ?_
      refine g_aloadN hG Xj4 hx (hb hby d3_112) (pc' := 113) rfl rfl rfl ?_
      exact e_retA hGe Xj4 hx hrt rfl hlk (hb hby d3_113) ej4 (by decide) (by decide) (⟨ids, p0,  rfl, NFj4, Kj4, sz_ids, V_ids, HT2⟩)
    refine g_iload hG Xj3 hx (hb hby d3_17) (pc' := 19) rfl rfl ?_
    refine g_aloadN hG Xj3 hx (hb hby d3_19) (pc' := 20) rfl rfl rfl ?_
    refine g_arraylength hG Xj3 hx hZ ej3 V_a (hb hby d3_20) (pc' := 21) rfl ?_
    refine g_icmpNo hG Xj3 hx (hb hby d3_21) (pc' := 24) (by decide) rfl ?_
    refine g_iload hG Xj3 hx (hb hby d3_24) (pc' := 26) rfl rfl ?_
    refine g_istore hG Xj3 hx (hb hby d3_26) (pc' := 28) rfl (Ls' := #[.val (.ref a), .val (.long lim), .second, .val (.ref ids), .val (.int 1), .val (.int 1), .val (.int 1), .val (.int w7)]) rfl ?_
    refine g_iload hG Xj3 hx (hb hby d3_28) (pc' := 30) rfl rfl ?_
    refine g_ifNo hG Xj3 hx (hb hby d3_30) (pc' := 33) (by decide) rfl ?_
    refine g_aloadN hG Xj3 hx (hb hby d3_33) (pc' := 34) rfl rfl rfl ?_
    refine g_iload hG Xj3 hx (hb hby d3_34) (pc' := 36) rfl rfl ?_
    refine g_daload hG Xj3 hx hZ ej3 V_a (j := (1 : Int32)) (v := (.double (al (1 : Int32)))) (by decide) rfl (hb hby d3_36) (pc' := 37) rfl ?_
    refine g_aloadN hG Xj3 hx (hb hby d3_37) (pc' := 38) rfl rfl rfl ?_
    refine g_aloadN hG Xj3 hx (hb hby d3_38) (pc' := 39) rfl rfl rfl ?_
    refine g_iload hG Xj3 hx (hb hby d3_39) (pc' := 41) rfl rfl ?_
    refine g_iconst hG Xj3 hx (hb hby d3_41) (pc' := 42) rfl (v := (1 : Int32)) rfl ?_
    refine g_isub hG Xj3 hx (hb hby d3_42) (pc' := 43) rfl (v := (0 : Int32)) (by decide) ?_
    refine g_iaload hG Xj3 hx hZ ej3 V_ids (j := (0 : Int32)) (v := (.int p0)) (by decide) rfl (hb hby d3_43) (pc' := 44) rfl ?_
    refine g_daload hG Xj3 hx hZ ej3 V_a (j := p0) (v := (.double (al p0))) (nn_of bp0.1) (al_at2 (in2_of bp0.1 (by omega))) (hb hby d3_44) (pc' := 45) rfl ?_
    obtain ⟨v45, q45⟩ : ∃ zz : Int32, cmpValue (FP.dcmp (al (1 : Int32)) (al p0)) .l = zz := ⟨_, rfl⟩
    refine g_dcmp hG Xj3 hx (hb hby d3_45) (pc' := 46) rfl q45 ?_
    by_cases g1_0 : (btB b01 b02 b03 b12 b13 b23) (1 : Int32) p0 = true
    · skip
      refine g_ifNo hG Xj3 hx (hb hby d3_46) (pc' := 49) (by rw [← q45, gt_yes (BT (1 : Int32) p0 (by decide) (in4_of bp0.1 (by omega))) (fun g => by have := Int32.lt_iff_toInt_lt.mp g; rw [show (1 : Int32).toInt = 1 by decide] at this; omega) g1_0]; rfl) rfl ?_
      refine g_iinc hG Xj3 hx (hb hby d3_49) (pc' := 52) rfl rfl (v := (0 : Int32)) (by decide) (Ls' := #[.val (.ref a), .val (.long lim), .second, .val (.ref ids), .val (.int 1), .val (.int 1), .val (.int 0), .val (.int w7)]) rfl ?_
      refine g_goto hG Xj3 hx (hb hby d3_52) (pc' := 28) (by decide) (by decide) ?_
      refine g_iload hG Xj3 hx (hb hby d3_28) (pc' := 30) rfl rfl ?_
      refine g_ifYes hG Xj3 hx (hb hby d3_30) (pc' := 55) (by decide) (by decide) (by decide) ?_
      refine g_iload hG Xj3 hx (hb hby d3_55) (pc' := 57) rfl rfl ?_
      refine g_aloadN hG Xj3 hx (hb hby d3_57) (pc' := 58) rfl rfl rfl ?_
      refine g_arraylength hG Xj3 hx hZ ej3 V_ids (hb hby d3_58) (pc' := 59) rfl ?_
      refine g_icmpNo hG Xj3 hx (hb hby d3_59) (pc' := 62) (by decide) rfl ?_
      refine g_iload hG Xj3 hx (hb hby d3_62) (pc' := 64) rfl rfl ?_
      refine g_aloadN hG Xj3 hx (hb hby d3_64) (pc' := 65) rfl rfl rfl ?_
      refine g_arraylength hG Xj3 hx hZ ej3 V_ids (hb hby d3_65) (pc' := 66) rfl ?_
      refine g_iconst hG Xj3 hx (hb hby d3_66) (pc' := 67) rfl (v := (1 : Int32)) rfl ?_
      refine g_isub hG Xj3 hx (hb hby d3_67) (pc' := 68) rfl (v := (0 : Int32)) (by decide) ?_
      refine g_callS hG Xj3 hx hZ (y := (⟨"java/lang/Math", "min", "(II)I"⟩ : MethodName)) 0 hown (wd hw 16 rfl) (wd hw 17 rfl) (wd hw 8 rfl) (wd hw 18 rfl) (by decide) (rmMI l Z a0 hw [] (1 : Int32) (0 : Int32) (0 : Int32) hj3 n0 Zs (by decide)) (by decide) (by decide) (by rw [hml]; rfl) pd_3 rfl (argsL := [(.int 1), (.int 0)]) (rest := []) rfl rfl (Nat.le_of_eq rfl) (hb hby d3_68) ej3 (by decide) (by decide) (pc' := 71) rfl ?_
      intro T5 rv5 L5 X5 hQ5
      obtain ⟨rfl, Nq5, eh5⟩ := hQ5
      have NF5 := Fr.app NFj3 Nq5
      show G (T5.setTop (mkF m 71 _ [(.int 0)]))
      refine g_istore hG X5 hx (hb hby d3_71) (pc' := 73) rfl (Ls' := #[.val (.ref a), .val (.long lim), .second, .val (.ref ids), .val (.int 1), .val (.int 1), .val (.int 0), .val (.int 0)]) rfl ?_
      refine g_aloadN hG X5 hx (hb hby d3_73) (pc' := 74) rfl rfl rfl ?_
      refine g_iload hG X5 hx (hb hby d3_74) (pc' := 76) rfl rfl ?_
      refine g_aloadN hG X5 hx (hb hby d3_76) (pc' := 77) rfl rfl rfl ?_
      refine g_iload hG X5 hx (hb hby d3_77) (pc' := 79) rfl rfl ?_
      refine g_iconst hG X5 hx (hb hby d3_79) (pc' := 80) rfl (v := (1 : Int32)) rfl ?_
      refine g_iadd hG X5 hx (hb hby d3_80) (pc' := 81) rfl (v := (1 : Int32)) (by decide) ?_
      refine g_iload hG X5 hx (hb hby d3_81) (pc' := 83) rfl rfl ?_
      refine g_iload hG X5 hx (hb hby d3_83) (pc' := 85) rfl rfl ?_
      refine g_isub hG X5 hx (hb hby d3_85) (pc' := 86) rfl (v := (0 : Int32)) (by decide) ?_
      refine g_copy hG X5 hx hZ hown (wd hw 19 rfl) (wd hw 22 rfl) (wd hw 20 rfl) (wd hw 21 rfl) eh5 V_ids V_ids rfl (by decide) (by decide) (by decide) (by decide) (by decide) (vr := [(.int p0)]) rfl NF5 ge_ids (by rw [hml]; rfl) (hb hby d3_86) (by decide) 0 (Nat.le_of_eq rfl) (by decide) (pc' := 89) rfl ?_
      intro T6 h6 L6 X6 e6 NF6 Kq6 Vn6
      have V_ids := Vn6
      have V_a := V_a.keep Kq6 (ninS ne_a_ids nin0)
      have Zs := Nat.le_trans Zs Kq6.1
      have K6 := Kj3.trans Kq6 (allS (Or.inr sz_ids) all0)
      show G (T6.setTop (mkF m 89 _ []))
      refine g_aloadN hG X6 hx (hb hby d3_89) (pc' := 90) rfl rfl rfl ?_
      refine g_iload hG X6 hx (hb hby d3_90) (pc' := 92) rfl rfl ?_
      refine g_iload hG X6 hx (hb hby d3_92) (pc' := 94) rfl rfl ?_
      refine g_iastore hG X6 hx hZ e6 V_ids (j := (0 : Int32)) (by decide) (show Int32.toNatClampNeg (0 : Int32) < 1 by decide) (hb hby d3_94) (pc' := 95) rfl ?_
      intro T7 h7 X7 e7 W7 Vn7
      have V_ids : AV Z h7 ids .int (1 : Int32) [(.int 1)] := Vn7
      have V_a := V_a.other W7 ne_a_ids
      have Zs := Nat.le_trans Zs (Wr.size W7)
      have NF7 := Fr.snoc X7 NF6 ge_ids
      have K7 := K6.wr W7 (Or.inr sz_ids)
      refine g_iload hG X7 hx (hb hby d3_95) (pc' := 97) rfl rfl ?_
      refine g_iconst hG X7 hx (hb hby d3_97) (pc' := 98) rfl (v := (1 : Int32)) rfl ?_
      refine g_iadd hG X7 hx (hb hby d3_98) (pc' := 99) rfl (v := (2 : Int32)) (by decide) ?_
      refine g_aloadN hG X7 hx (hb hby d3_99) (pc' := 100) rfl rfl rfl ?_
      refine g_arraylength hG X7 hx hZ e7 V_ids (hb hby d3_100) (pc' := 101) rfl ?_
      refine g_callS hG X7 hx hZ (y := (⟨"java/lang/Math", "min", "(II)I"⟩ : MethodName)) 0 hown (wd hw 16 rfl) (wd hw 17 rfl) (wd hw 8 rfl) (wd hw 18 rfl) (by decide) (rmMI l Z a0 hw [] (2 : Int32) (1 : Int32) (1 : Int32) h7 n0 Zs (by decide)) (by decide) (by decide) (by rw [hml]; rfl) pd_3 rfl (argsL := [(.int 2), (.int 1)]) (rest := []) rfl rfl (Nat.le_of_eq rfl) (hb hby d3_101) e7 (by decide) (by decide) (pc' := 104) rfl ?_
      intro T8 rv8 L8 X8 hQ8
      obtain ⟨rfl, Nq8, eh8⟩ := hQ8
      have NF8 := Fr.app NF7 Nq8
      show G (T8.setTop (mkF m 104 _ [(.int 1)]))
      refine g_istore hG X8 hx (hb hby d3_104) (pc' := 106) rfl (Ls' := #[.val (.ref a), .val (.long lim), .second, .val (.ref ids), .val (.int 1), .val (.int 1), .val (.int 0), .val (.int 0)]) rfl ?_
      refine g_iinc hG X8 hx (hb hby d3_106) (pc' := 109) rfl rfl (v := (2 : Int32)) (by decide) (Ls' := #[.val (.ref a), .val (.long lim), .second, .val (.ref ids), .val (.int 1), .val (.int 2), .val (.int 0), .val (.int 0)]) rfl ?_
      refine g_goto hG X8 hx (hb hby d3_109) (pc' := 17) (by decide) (by decide) ?_
      exact J2 _ _ _ (1 : Int32) (0 : Int32) (0 : Int32) X8 eh8 NF8 Zs K7 V_a V_ids (st_1_1_1_0 b01 b02 b03 b12 b13 b23 p0 TR HT1 g1_0)
    · skip
      refine g_ifYes hG Xj3 hx (hb hby d3_46) (pc' := 55) (by rcases gt_no (BT (1 : Int32) p0 (by decide) (in4_of bp0.1 (by omega))) g1_0 with z | z <;> rw [← q45, z] <;> rfl) (by decide) (by decide) ?_
      refine g_iload hG Xj3 hx (hb hby d3_55) (pc' := 57) rfl rfl ?_
      refine g_aloadN hG Xj3 hx (hb hby d3_57) (pc' := 58) rfl rfl rfl ?_
      refine g_arraylength hG Xj3 hx hZ ej3 V_ids (hb hby d3_58) (pc' := 59) rfl ?_
      refine g_icmpYes hG Xj3 hx (hb hby d3_59) (pc' := 106) (by decide) (by decide) (by decide) ?_
      refine g_iinc hG Xj3 hx (hb hby d3_106) (pc' := 109) rfl rfl (v := (2 : Int32)) (by decide) (Ls' := #[.val (.ref a), .val (.long lim), .second, .val (.ref ids), .val (.int 1), .val (.int 2), .val (.int 1), .val (.int w7)]) rfl ?_
      refine g_goto hG Xj3 hx (hb hby d3_109) (pc' := 17) (by decide) (by decide) ?_
      exact J2 _ _ _ p0 (1 : Int32) w7 Xj3 ej3 NFj3 Zs Kj3 V_a V_ids (st_1_1_1_1 b01 b02 b03 b12 b13 b23 p0 TR HT1 g1_0)
  refine g_iload hG X2 hx (hb hby d3_17) (pc' := 19) rfl rfl ?_
  refine g_aloadN hG X2 hx (hb hby d3_19) (pc' := 20) rfl rfl rfl ?_
  refine g_arraylength hG X2 hx hZ e2 V_a (hb hby d3_20) (pc' := 21) rfl ?_
  refine g_icmpNo hG X2 hx (hb hby d3_21) (pc' := 24) (by decide) rfl ?_
  refine g_iload hG X2 hx (hb hby d3_24) (pc' := 26) rfl rfl ?_
  refine g_istore hG X2 hx (hb hby d3_26) (pc' := 28) rfl (Ls' := #[.val (.ref a), .val (.long lim), .second, .val (.ref ids), .val (.int 0), .val (.int 0), .val (.int 0), .unset]) rfl ?_
  refine g_iload hG X2 hx (hb hby d3_28) (pc' := 30) rfl rfl ?_
  refine g_ifYes hG X2 hx (hb hby d3_30) (pc' := 55) (by decide) (by decide) (by decide) ?_
  refine g_iload hG X2 hx (hb hby d3_55) (pc' := 57) rfl rfl ?_
  refine g_aloadN hG X2 hx (hb hby d3_57) (pc' := 58) rfl rfl rfl ?_
  refine g_arraylength hG X2 hx hZ e2 V_ids (hb hby d3_58) (pc' := 59) rfl ?_
  refine g_icmpNo hG X2 hx (hb hby d3_59) (pc' := 62) (by decide) rfl ?_
  refine g_iload hG X2 hx (hb hby d3_62) (pc' := 64) rfl rfl ?_
  refine g_aloadN hG X2 hx (hb hby d3_64) (pc' := 65) rfl rfl rfl ?_
  refine g_arraylength hG X2 hx hZ e2 V_ids (hb hby d3_65) (pc' := 66) rfl ?_
  refine g_iconst hG X2 hx (hb hby d3_66) (pc' := 67) rfl (v := (1 : Int32)) rfl ?_
  refine g_isub hG X2 hx (hb hby d3_67) (pc' := 68) rfl (v := (0 : Int32)) (by decide) ?_
  refine g_callS hG X2 hx hZ (y := (⟨"java/lang/Math", "min", "(II)I"⟩ : MethodName)) 0 hown (wd hw 16 rfl) (wd hw 17 rfl) (wd hw 8 rfl) (wd hw 18 rfl) (by decide) (rmMI l Z a0 hw [] (0 : Int32) (0 : Int32) (0 : Int32) h2 n0 Zs (by decide)) (by decide) (by decide) (by rw [hml]; rfl) pd_3 rfl (argsL := [(.int 0), (.int 0)]) (rest := []) rfl rfl (Nat.le_of_eq rfl) (hb hby d3_68) e2 (by decide) (by decide) (pc' := 71) rfl ?_
  intro T9 rv9 L9 X9 hQ9
  obtain ⟨rfl, Nq9, eh9⟩ := hQ9
  have NF9 := Fr.app NF1 Nq9
  show G (T9.setTop (mkF m 71 _ [(.int 0)]))
  refine g_istore hG X9 hx (hb hby d3_71) (pc' := 73) rfl (Ls' := #[.val (.ref a), .val (.long lim), .second, .val (.ref ids), .val (.int 0), .val (.int 0), .val (.int 0), .val (.int 0)]) rfl ?_
  refine g_aloadN hG X9 hx (hb hby d3_73) (pc' := 74) rfl rfl rfl ?_
  refine g_iload hG X9 hx (hb hby d3_74) (pc' := 76) rfl rfl ?_
  refine g_aloadN hG X9 hx (hb hby d3_76) (pc' := 77) rfl rfl rfl ?_
  refine g_iload hG X9 hx (hb hby d3_77) (pc' := 79) rfl rfl ?_
  refine g_iconst hG X9 hx (hb hby d3_79) (pc' := 80) rfl (v := (1 : Int32)) rfl ?_
  refine g_iadd hG X9 hx (hb hby d3_80) (pc' := 81) rfl (v := (1 : Int32)) (by decide) ?_
  refine g_iload hG X9 hx (hb hby d3_81) (pc' := 83) rfl rfl ?_
  refine g_iload hG X9 hx (hb hby d3_83) (pc' := 85) rfl rfl ?_
  refine g_isub hG X9 hx (hb hby d3_85) (pc' := 86) rfl (v := (0 : Int32)) (by decide) ?_
  refine g_copy hG X9 hx hZ hown (wd hw 19 rfl) (wd hw 22 rfl) (wd hw 20 rfl) (wd hw 21 rfl) eh9 V_ids V_ids rfl (by decide) (by decide) (by decide) (by decide) (by decide) (vr := [(.int 0)]) rfl NF9 ge_ids (by rw [hml]; rfl) (hb hby d3_86) (by decide) 0 (Nat.le_of_eq rfl) (by decide) (pc' := 89) rfl ?_
  intro T10 h10 L10 X10 e10 NF10 Kq10 Vn10
  have V_ids := Vn10
  have V_a := V_a.keep Kq10 (ninS ne_a_ids nin0)
  have Zs := Nat.le_trans Zs Kq10.1
  have K10 := K2.trans Kq10 (allS (Or.inr sz_ids) all0)
  show G (T10.setTop (mkF m 89 _ []))
  refine g_aloadN hG X10 hx (hb hby d3_89) (pc' := 90) rfl rfl rfl ?_
  refine g_iload hG X10 hx (hb hby d3_90) (pc' := 92) rfl rfl ?_
  refine g_iload hG X10 hx (hb hby d3_92) (pc' := 94) rfl rfl ?_
  refine g_iastore hG X10 hx hZ e10 V_ids (j := (0 : Int32)) (by decide) (show Int32.toNatClampNeg (0 : Int32) < 1 by decide) (hb hby d3_94) (pc' := 95) rfl ?_
  intro T11 h11 X11 e11 W11 Vn11
  have V_ids : AV Z h11 ids .int (1 : Int32) [(.int 0)] := Vn11
  have V_a := V_a.other W11 ne_a_ids
  have Zs := Nat.le_trans Zs (Wr.size W11)
  have NF11 := Fr.snoc X11 NF10 ge_ids
  have K11 := K10.wr W11 (Or.inr sz_ids)
  refine g_iload hG X11 hx (hb hby d3_95) (pc' := 97) rfl rfl ?_
  refine g_iconst hG X11 hx (hb hby d3_97) (pc' := 98) rfl (v := (1 : Int32)) rfl ?_
  refine g_iadd hG X11 hx (hb hby d3_98) (pc' := 99) rfl (v := (1 : Int32)) (by decide) ?_
  refine g_aloadN hG X11 hx (hb hby d3_99) (pc' := 100) rfl rfl rfl ?_
  refine g_arraylength hG X11 hx hZ e11 V_ids (hb hby d3_100) (pc' := 101) rfl ?_
  refine g_callS hG X11 hx hZ (y := (⟨"java/lang/Math", "min", "(II)I"⟩ : MethodName)) 0 hown (wd hw 16 rfl) (wd hw 17 rfl) (wd hw 8 rfl) (wd hw 18 rfl) (by decide) (rmMI l Z a0 hw [] (1 : Int32) (1 : Int32) (1 : Int32) h11 n0 Zs (by decide)) (by decide) (by decide) (by rw [hml]; rfl) pd_3 rfl (argsL := [(.int 1), (.int 1)]) (rest := []) rfl rfl (Nat.le_of_eq rfl) (hb hby d3_101) e11 (by decide) (by decide) (pc' := 104) rfl ?_
  intro T12 rv12 L12 X12 hQ12
  obtain ⟨rfl, Nq12, eh12⟩ := hQ12
  have NF12 := Fr.app NF11 Nq12
  show G (T12.setTop (mkF m 104 _ [(.int 1)]))
  refine g_istore hG X12 hx (hb hby d3_104) (pc' := 106) rfl (Ls' := #[.val (.ref a), .val (.long lim), .second, .val (.ref ids), .val (.int 1), .val (.int 0), .val (.int 0), .val (.int 0)]) rfl ?_
  refine g_iinc hG X12 hx (hb hby d3_106) (pc' := 109) rfl rfl (v := (1 : Int32)) (by decide) (Ls' := #[.val (.ref a), .val (.long lim), .second, .val (.ref ids), .val (.int 1), .val (.int 1), .val (.int 0), .val (.int 0)]) rfl ?_
  refine g_goto hG X12 hx (hb hby d3_109) (pc' := 17) (by decide) (by decide) ?_
  exact J1 _ _ _ (0 : Int32) (0 : Int32) (0 : Int32) X12 eh12 NF12 Zs K11 V_a V_ids (st_0_0_1_0 b01 b02 b03 b12 b13 b23  TR HT0 )

def Q_rmCk2_2_0 (Z : State) (a ids : Addr) (al : Int32 → UInt64) (bt : Int32 → Int32 → Bool) (p0 p1 : Int32) (h0 : Heap) (n0 : Nat) (v : Option Value) (h : Heap) (L : List Loc) : Prop := v = some (.int 1) ∧ Fr n0 L ∧ h = h0
set_option maxRecDepth 65536 in
set_option maxHeartbeats 40000000 in
theorem rmCk2_2_0 (l : Launch) (Z : State) (a0 : Array Value) (hw : ∀ d ∈ tables_1, d.before a0 Z = true) (ws : List Jvm.Cond) (a ids : Addr) (al : Int32 → UInt64) (bt : Int32 → Int32 → Bool) (p0 p1 : Int32) (h0 : Heap) (n0 : Nat) (Zs : n0 ≤ h0.size) (V_a : AV Z h0 a .double (2 : Int32) [(.double (al (0 : Int32))), (.double (al (1 : Int32)))]) (V_ids : AV Z h0 ids .int (2 : Int32) [(.int p0), (.int p1)]) (HT : tops bt 2 0 [p0, p1] = true) (BT : ∀ x y, In4 x → In4 y → BtR al x y (bi bt x y)) :
    Con l (⟨"com/example/gauge_terms/gaugeterms/TopValuesPositionsPinLaw", "check", "([D[II)Z"⟩ : MethodName) method_5_code 4 (some .boolean) ws ({ frames := 2, cells := 0, slots := 0, locals := 56 } : Room) Z #[(.ref a), (.ref ids), (.int 0)] h0 ({ frames := 2, cells := 0, slots := 0, locals := 56 } : Room).cells ({ frames := 2, cells := 0, slots := 0, locals := 56 } : Room).slots (Q_rmCk2_2_0 Z a ids al bt p0 p1 h0 n0) := by
  refine Con.of (Ls := #[.val (.ref a), .val (.ref ids), .val (.int 0), .unset]) (plainFor_of_name (by first | (simp [plainName, overriddenIn]; done) | decide +kernel)) (fun m => by first | (simp [entryFrame, mkF, argsToLocals, Value.category]; done) | rfl) ?_
  intro p e s m below meth c s₁ G hGe hG hx hby hml hown hnm hrt hlk hZ X0 e0
  have hown : s.vm.findClass "com/example/gauge_terms/gaugeterms/TopValuesPositionsPinLaw" = some m.cls := hown
  have hnm : meth.name = "check" := hnm
  have NF0 := Fr.nil n0
  have bj : 0 ≤ p0.toInt ∧ p0.toInt < 2 := tops_b HT p0 (by simp)
  have rj : rk2 bt p0 = (0 : Int32) := tops_r HT 0 p0 rfl
  refine g_iloadN hG X0 hx (hb hby d5_0) (pc' := 1) rfl rfl ?_
  refine g_aloadN hG X0 hx (hb hby d5_1) (pc' := 2) rfl rfl rfl ?_
  refine g_arraylength hG X0 hx hZ e0 V_ids (hb hby d5_2) (pc' := 3) rfl ?_
  refine g_icmpYes hG X0 hx (hb hby d5_3) (pc' := 8) (by decide) (by decide) (by decide) ?_
  refine g_aloadN hG X0 hx (hb hby d5_8) (pc' := 9) rfl rfl rfl ?_
  refine g_iloadN hG X0 hx (hb hby d5_9) (pc' := 10) rfl rfl ?_
  refine g_iaload hG X0 hx hZ e0 V_ids (j := (0 : Int32)) (v := (.int p0)) (by decide) rfl (hb hby d5_10) (pc' := 11) rfl ?_
  refine g_istoreN hG X0 hx (hb hby d5_11) (pc' := 12) rfl (Ls' := #[.val (.ref a), .val (.ref ids), .val (.int 0), .val (.int p0)]) rfl ?_
  refine g_iloadN hG X0 hx (hb hby d5_12) (pc' := 13) rfl rfl ?_
  refine g_ifNo hG X0 hx (hb hby d5_13) (pc' := 16) ((if0 _ _).trans (flt (nn_of bj.1)).1) rfl ?_
  refine g_iloadN hG X0 hx (hb hby d5_16) (pc' := 17) rfl rfl ?_
  refine g_aloadN hG X0 hx (hb hby d5_17) (pc' := 18) rfl rfl rfl ?_
  refine g_arraylength hG X0 hx hZ e0 V_a (hb hby d5_18) (pc' := 19) rfl ?_
  refine g_icmpYes hG X0 hx (hb hby d5_19) (pc' := 24) ((tlt (Int32.lt_iff_toInt_lt.mpr (by rw [show (2 : Int32).toInt = 2 by decide]; exact bj.2))).1) (by decide) (by decide) ?_
  refine g_aloadN hG X0 hx (hb hby d5_24) (pc' := 25) rfl rfl rfl ?_
  refine g_iloadN hG X0 hx (hb hby d5_25) (pc' := 26) rfl rfl ?_
  refine g_callS hG X0 hx hZ (y := (⟨"com/example/gauge_terms/gaugeterms/TopValuesPositionsPinLaw", "rank", "([DI)I"⟩ : MethodName)) 0 hown (wd hw 26 rfl) (wd hw 27 rfl) (wd hw 3 rfl) (wd hw 28 rfl) (by decide) (rmRk2 l Z a0 hw [] a al bt p0 (0 : Int32) h0 n0 Zs V_a bj BT rj) (by decide) (by decide) (by rw [hml]; rfl) pd_2 rfl (argsL := [(.ref a), (.int p0)]) (rest := []) rfl rfl (Nat.le_of_eq rfl) (hb hby d5_26) e0 (by decide) (by decide) (pc' := 29) rfl ?_
  intro T1 rv1 L1 X1 hQ1
  obtain ⟨rfl, Nq1, eh1⟩ := hQ1
  have NF1 := Fr.app NF0 Nq1
  show G (T1.setTop (mkF m 29 _ [(.int 0)]))
  refine g_iloadN hG X1 hx (hb hby d5_29) (pc' := 30) rfl rfl ?_
  refine g_icmpNo hG X1 hx (hb hby d5_30) (pc' := 33) (by decide) rfl ?_
  refine g_iconst hG X1 hx (hb hby d5_33) (pc' := 34) rfl (v := (1 : Int32)) rfl ?_
  refine g_goto hG X1 hx (hb hby d5_34) (pc' := 38) (by decide) (by decide) ?_
  exact e_retZ hGe X1 hx hrt hlk (hb hby d5_38) (Or.inr rfl) eh1 (by decide) (by decide) (⟨rfl, NF1, rfl⟩)

def Q_rmCk2_2_1 (Z : State) (a ids : Addr) (al : Int32 → UInt64) (bt : Int32 → Int32 → Bool) (p0 p1 : Int32) (h0 : Heap) (n0 : Nat) (v : Option Value) (h : Heap) (L : List Loc) : Prop := v = some (.int 1) ∧ Fr n0 L ∧ h = h0
set_option maxRecDepth 65536 in
set_option maxHeartbeats 40000000 in
theorem rmCk2_2_1 (l : Launch) (Z : State) (a0 : Array Value) (hw : ∀ d ∈ tables_1, d.before a0 Z = true) (ws : List Jvm.Cond) (a ids : Addr) (al : Int32 → UInt64) (bt : Int32 → Int32 → Bool) (p0 p1 : Int32) (h0 : Heap) (n0 : Nat) (Zs : n0 ≤ h0.size) (V_a : AV Z h0 a .double (2 : Int32) [(.double (al (0 : Int32))), (.double (al (1 : Int32)))]) (V_ids : AV Z h0 ids .int (2 : Int32) [(.int p0), (.int p1)]) (HT : tops bt 2 0 [p0, p1] = true) (BT : ∀ x y, In4 x → In4 y → BtR al x y (bi bt x y)) :
    Con l (⟨"com/example/gauge_terms/gaugeterms/TopValuesPositionsPinLaw", "check", "([D[II)Z"⟩ : MethodName) method_5_code 4 (some .boolean) ws ({ frames := 2, cells := 0, slots := 0, locals := 56 } : Room) Z #[(.ref a), (.ref ids), (.int 1)] h0 ({ frames := 2, cells := 0, slots := 0, locals := 56 } : Room).cells ({ frames := 2, cells := 0, slots := 0, locals := 56 } : Room).slots (Q_rmCk2_2_1 Z a ids al bt p0 p1 h0 n0) := by
  refine Con.of (Ls := #[.val (.ref a), .val (.ref ids), .val (.int 1), .unset]) (plainFor_of_name (by first | (simp [plainName, overriddenIn]; done) | decide +kernel)) (fun m => by first | (simp [entryFrame, mkF, argsToLocals, Value.category]; done) | rfl) ?_
  intro p e s m below meth c s₁ G hGe hG hx hby hml hown hnm hrt hlk hZ X0 e0
  have hown : s.vm.findClass "com/example/gauge_terms/gaugeterms/TopValuesPositionsPinLaw" = some m.cls := hown
  have hnm : meth.name = "check" := hnm
  have NF0 := Fr.nil n0
  have bj : 0 ≤ p1.toInt ∧ p1.toInt < 2 := tops_b HT p1 (by simp)
  have rj : rk2 bt p1 = (1 : Int32) := tops_r HT 1 p1 rfl
  refine g_iloadN hG X0 hx (hb hby d5_0) (pc' := 1) rfl rfl ?_
  refine g_aloadN hG X0 hx (hb hby d5_1) (pc' := 2) rfl rfl rfl ?_
  refine g_arraylength hG X0 hx hZ e0 V_ids (hb hby d5_2) (pc' := 3) rfl ?_
  refine g_icmpYes hG X0 hx (hb hby d5_3) (pc' := 8) (by decide) (by decide) (by decide) ?_
  refine g_aloadN hG X0 hx (hb hby d5_8) (pc' := 9) rfl rfl rfl ?_
  refine g_iloadN hG X0 hx (hb hby d5_9) (pc' := 10) rfl rfl ?_
  refine g_iaload hG X0 hx hZ e0 V_ids (j := (1 : Int32)) (v := (.int p1)) (by decide) rfl (hb hby d5_10) (pc' := 11) rfl ?_
  refine g_istoreN hG X0 hx (hb hby d5_11) (pc' := 12) rfl (Ls' := #[.val (.ref a), .val (.ref ids), .val (.int 1), .val (.int p1)]) rfl ?_
  refine g_iloadN hG X0 hx (hb hby d5_12) (pc' := 13) rfl rfl ?_
  refine g_ifNo hG X0 hx (hb hby d5_13) (pc' := 16) ((if0 _ _).trans (flt (nn_of bj.1)).1) rfl ?_
  refine g_iloadN hG X0 hx (hb hby d5_16) (pc' := 17) rfl rfl ?_
  refine g_aloadN hG X0 hx (hb hby d5_17) (pc' := 18) rfl rfl rfl ?_
  refine g_arraylength hG X0 hx hZ e0 V_a (hb hby d5_18) (pc' := 19) rfl ?_
  refine g_icmpYes hG X0 hx (hb hby d5_19) (pc' := 24) ((tlt (Int32.lt_iff_toInt_lt.mpr (by rw [show (2 : Int32).toInt = 2 by decide]; exact bj.2))).1) (by decide) (by decide) ?_
  refine g_aloadN hG X0 hx (hb hby d5_24) (pc' := 25) rfl rfl rfl ?_
  refine g_iloadN hG X0 hx (hb hby d5_25) (pc' := 26) rfl rfl ?_
  refine g_callS hG X0 hx hZ (y := (⟨"com/example/gauge_terms/gaugeterms/TopValuesPositionsPinLaw", "rank", "([DI)I"⟩ : MethodName)) 0 hown (wd hw 26 rfl) (wd hw 27 rfl) (wd hw 3 rfl) (wd hw 28 rfl) (by decide) (rmRk2 l Z a0 hw [] a al bt p1 (1 : Int32) h0 n0 Zs V_a bj BT rj) (by decide) (by decide) (by rw [hml]; rfl) pd_2 rfl (argsL := [(.ref a), (.int p1)]) (rest := []) rfl rfl (Nat.le_of_eq rfl) (hb hby d5_26) e0 (by decide) (by decide) (pc' := 29) rfl ?_
  intro T1 rv1 L1 X1 hQ1
  obtain ⟨rfl, Nq1, eh1⟩ := hQ1
  have NF1 := Fr.app NF0 Nq1
  show G (T1.setTop (mkF m 29 _ [(.int 1)]))
  refine g_iloadN hG X1 hx (hb hby d5_29) (pc' := 30) rfl rfl ?_
  refine g_icmpNo hG X1 hx (hb hby d5_30) (pc' := 33) (by decide) rfl ?_
  refine g_iconst hG X1 hx (hb hby d5_33) (pc' := 34) rfl (v := (1 : Int32)) rfl ?_
  refine g_goto hG X1 hx (hb hby d5_34) (pc' := 38) (by decide) (by decide) ?_
  exact e_retZ hGe X1 hx hrt hlk (hb hby d5_38) (Or.inr rfl) eh1 (by decide) (by decide) (⟨rfl, NF1, rfl⟩)

def Q_rmCz2_2 (Z : State) (a ids : Addr) (p0 p1 : Int32) (h0 : Heap) (n0 : Nat) (v : Option Value) (h : Heap) (L : List Loc) : Prop := v = some (.int 1) ∧ Fr n0 L ∧ h = h0
set_option maxRecDepth 65536 in
set_option maxHeartbeats 40000000 in
theorem rmCz2_2 (l : Launch) (Z : State) (a0 : Array Value) (hw : ∀ d ∈ tables_1, d.before a0 Z = true) (ws : List Jvm.Cond) (a ids : Addr) (p0 p1 : Int32) (h0 : Heap) (n0 : Nat) (Zs : n0 ≤ h0.size) (V_ids : AV Z h0 ids .int (2 : Int32) [(.int p0), (.int p1)]) :
    Con l (⟨"com/example/gauge_terms/gaugeterms/TopValuesPositionsPinLaw", "check", "([D[II)Z"⟩ : MethodName) method_5_code 4 (some .boolean) ws ({ frames := 2, cells := 0, slots := 0, locals := 56 } : Room) Z #[(.ref a), (.ref ids), (.int 2)] h0 ({ frames := 2, cells := 0, slots := 0, locals := 56 } : Room).cells ({ frames := 2, cells := 0, slots := 0, locals := 56 } : Room).slots (Q_rmCz2_2 Z a ids p0 p1 h0 n0) := by
  refine Con.of (Ls := #[.val (.ref a), .val (.ref ids), .val (.int 2), .unset]) (plainFor_of_name (by first | (simp [plainName, overriddenIn]; done) | decide +kernel)) (fun m => by first | (simp [entryFrame, mkF, argsToLocals, Value.category]; done) | rfl) ?_
  intro p e s m below meth c s₁ G hGe hG hx hby hml hown hnm hrt hlk hZ X0 e0
  have hown : s.vm.findClass "com/example/gauge_terms/gaugeterms/TopValuesPositionsPinLaw" = some m.cls := hown
  have hnm : meth.name = "check" := hnm
  have NF0 := Fr.nil n0
  refine g_iloadN hG X0 hx (hb hby d5_0) (pc' := 1) rfl rfl ?_
  show G (s₁.setTop (mkF m 1 #[.val (.ref a), .val (.ref ids), .val (.int 2), .unset] [(.int 2)]))
  refine g_aloadN hG X0 hx (hb hby d5_1) (pc' := 2) rfl rfl rfl ?_
  show G (s₁.setTop (mkF m 2 #[.val (.ref a), .val (.ref ids), .val (.int 2), .unset] [(.ref ids), (.int 2)]))
  refine g_arraylength hG X0 hx hZ e0 V_ids (hb hby d5_2) (pc' := 3) rfl ?_
  show G (s₁.setTop (mkF m 3 #[.val (.ref a), .val (.ref ids), .val (.int 2), .unset] [(.int 2), (.int 2)]))
  refine g_icmpNo hG X0 hx (hb hby d5_3) (pc' := 6) (by decide) rfl ?_
  show G (s₁.setTop (mkF m 6 #[.val (.ref a), .val (.ref ids), .val (.int 2), .unset] []))
  refine g_iconst hG X0 hx (hb hby d5_6) (pc' := 7) rfl (v := (1 : Int32)) rfl ?_
  show G (s₁.setTop (mkF m 7 #[.val (.ref a), .val (.ref ids), .val (.int 2), .unset] [(.int 1)]))
  exact e_retZ hGe X0 hx hrt hlk (hb hby d5_7) (Or.inr rfl) e0 (by decide) (by decide) (⟨rfl, NF0, rfl⟩)

def Q_rmCz2_3 (Z : State) (a ids : Addr) (p0 p1 : Int32) (h0 : Heap) (n0 : Nat) (v : Option Value) (h : Heap) (L : List Loc) : Prop := v = some (.int 1) ∧ Fr n0 L ∧ h = h0
set_option maxRecDepth 65536 in
set_option maxHeartbeats 40000000 in
theorem rmCz2_3 (l : Launch) (Z : State) (a0 : Array Value) (hw : ∀ d ∈ tables_1, d.before a0 Z = true) (ws : List Jvm.Cond) (a ids : Addr) (p0 p1 : Int32) (h0 : Heap) (n0 : Nat) (Zs : n0 ≤ h0.size) (V_ids : AV Z h0 ids .int (2 : Int32) [(.int p0), (.int p1)]) :
    Con l (⟨"com/example/gauge_terms/gaugeterms/TopValuesPositionsPinLaw", "check", "([D[II)Z"⟩ : MethodName) method_5_code 4 (some .boolean) ws ({ frames := 2, cells := 0, slots := 0, locals := 56 } : Room) Z #[(.ref a), (.ref ids), (.int 3)] h0 ({ frames := 2, cells := 0, slots := 0, locals := 56 } : Room).cells ({ frames := 2, cells := 0, slots := 0, locals := 56 } : Room).slots (Q_rmCz2_3 Z a ids p0 p1 h0 n0) := by
  refine Con.of (Ls := #[.val (.ref a), .val (.ref ids), .val (.int 3), .unset]) (plainFor_of_name (by first | (simp [plainName, overriddenIn]; done) | decide +kernel)) (fun m => by first | (simp [entryFrame, mkF, argsToLocals, Value.category]; done) | rfl) ?_
  intro p e s m below meth c s₁ G hGe hG hx hby hml hown hnm hrt hlk hZ X0 e0
  have hown : s.vm.findClass "com/example/gauge_terms/gaugeterms/TopValuesPositionsPinLaw" = some m.cls := hown
  have hnm : meth.name = "check" := hnm
  have NF0 := Fr.nil n0
  refine g_iloadN hG X0 hx (hb hby d5_0) (pc' := 1) rfl rfl ?_
  show G (s₁.setTop (mkF m 1 #[.val (.ref a), .val (.ref ids), .val (.int 3), .unset] [(.int 3)]))
  refine g_aloadN hG X0 hx (hb hby d5_1) (pc' := 2) rfl rfl rfl ?_
  show G (s₁.setTop (mkF m 2 #[.val (.ref a), .val (.ref ids), .val (.int 3), .unset] [(.ref ids), (.int 3)]))
  refine g_arraylength hG X0 hx hZ e0 V_ids (hb hby d5_2) (pc' := 3) rfl ?_
  show G (s₁.setTop (mkF m 3 #[.val (.ref a), .val (.ref ids), .val (.int 3), .unset] [(.int 2), (.int 3)]))
  refine g_icmpNo hG X0 hx (hb hby d5_3) (pc' := 6) (by decide) rfl ?_
  show G (s₁.setTop (mkF m 6 #[.val (.ref a), .val (.ref ids), .val (.int 3), .unset] []))
  refine g_iconst hG X0 hx (hb hby d5_6) (pc' := 7) rfl (v := (1 : Int32)) rfl ?_
  show G (s₁.setTop (mkF m 7 #[.val (.ref a), .val (.ref ids), .val (.int 3), .unset] [(.int 1)]))
  exact e_retZ hGe X0 hx hrt hlk (hb hby d5_7) (Or.inr rfl) e0 (by decide) (by decide) (⟨rfl, NF0, rfl⟩)

def Q_rmPos2_2 (Z : State) (a : Addr) (al : Int32 → UInt64) (b01 b02 b03 b12 b13 b23 : Bool) (lim r : Int64) (h0 : Heap) (n0 : Nat) (v : Option Value) (h : Heap) (L : List Loc) : Prop := ∃ (b : Addr) (p0 p1 : Int32), v = some (.ref b) ∧ Fr n0 L ∧ Keep h0 h [] ∧ h0.size ≤ b ∧ (AV Z h b .int (2 : Int32) [(.int p0), (.int p1)]) ∧ tops (btB b01 b02 b03 b12 b13 b23) 2 0 [p0, p1] = true
set_option maxRecDepth 65536 in
set_option maxHeartbeats 40000000 in
theorem rmPos2_2 (l : Launch) (Z : State) (a0 : Array Value) (hw : ∀ d ∈ tables_1, d.before a0 Z = true) (ws : List Jvm.Cond) (a : Addr) (al : Int32 → UInt64) (b01 b02 b03 b12 b13 b23 : Bool) (lim r : Int64) (h0 : Heap) (n0 : Nat) (Zs : n0 ≤ h0.size) (V_a : AV Z h0 a .double (2 : Int32) [(.double (al (0 : Int32))), (.double (al (1 : Int32)))]) (TR : trB b01 b02 b03 b12 b13 b23 = true) (BT : ∀ x y, In4 x → In4 y → BtR al x y (bi (btB b01 b02 b03 b12 b13 b23) x y)) (hm : (¬ (2 : Int32).toInt64 < lim ∧ r = lim) ∨ ((2 : Int32).toInt64 < lim ∧ r = (2 : Int32).toInt64)) (hk : r.toInt32 = (2 : Int32)) :
    Con l (⟨"com/example/gauge_terms/gaugeterms/TopValues", "positions", "([DJ)[I"⟩ : MethodName) prog_3_method_2_code 8 (some (.array .int)) ws ({ frames := 1, cells := 1, slots := 2, locals := 40 } : Room) Z #[(.ref a), (.long lim)] h0 ({ frames := 1, cells := 1, slots := 2, locals := 40 } : Room).cells ({ frames := 1, cells := 1, slots := 2, locals := 40 } : Room).slots (Q_rmPos2_2 Z a al b01 b02 b03 b12 b13 b23 lim r h0 n0) := by
  refine Con.of (Ls := #[.val (.ref a), .val (.long lim), .second, .unset, .unset, .unset, .unset, .unset]) (plainFor_of_name (by first | (simp [plainName, overriddenIn]; done) | decide +kernel)) (fun m => by first | (simp [entryFrame, mkF, argsToLocals, Value.category]; done) | rfl) ?_
  intro p e s m below meth c s₁ G hGe hG hx hby hml hown hnm hrt hlk hZ X0 e0
  have hown : s.vm.findClass "com/example/gauge_terms/gaugeterms/TopValues" = some m.cls := hown
  have hnm : meth.name = "positions" := hnm
  have NF0 := Fr.nil n0
  have K0 := Keep.refl h0 ([] : List Addr)
  have HT0 : tops (btB b01 b02 b03 b12 b13 b23) 0 0 [] = true := rfl
  refine g_lloadN hG X0 hx (hb hby d3_0) (pc' := 1) rfl rfl ?_
  refine g_aloadN hG X0 hx (hb hby d3_1) (pc' := 2) rfl rfl rfl ?_
  refine g_arraylength hG X0 hx hZ e0 V_a (hb hby d3_2) (pc' := 3) rfl ?_
  obtain ⟨v3, q3⟩ : ∃ zz : Int64, (2 : Int32).toInt64 = zz := ⟨_, rfl⟩
  refine g_i2l hG X0 hx (hb hby d3_3) (pc' := 4) rfl q3 ?_
  refine g_callS hG X0 hx hZ (y := (⟨"java/lang/Math", "min", "(JJ)J"⟩ : MethodName)) 0 hown (wd hw 14 rfl) (wd hw 7 rfl) (wd hw 8 rfl) (wd hw 9 rfl) (by decide) (rmMJ l Z a0 hw [] lim v3 r h0 n0 Zs (q3 ▸ hm)) (by decide) (by decide) (by rw [hml]; rfl) pd_0 rfl (argsL := [(.long lim), (.long v3)]) (rest := []) rfl rfl (Nat.le_of_eq rfl) (hb hby d3_4) e0 (by decide) (by decide) (pc' := 7) rfl ?_
  intro T1 rv1 L1 X1 hQ1
  obtain ⟨rfl, Nq1, eh1⟩ := hQ1
  have NF1 := Fr.app NF0 Nq1
  show G (T1.setTop (mkF m 7 _ [(.long r)]))
  refine g_l2i hG X1 hx (hb hby d3_7) (pc' := 8) rfl hk ?_
  refine g_newP hG X1 hx hZ (wd hw 15 rfl) eh1 (hb hby d3_8) (by decide) 2 (by decide) (by decide) (by decide) (by decide) (pc' := 10) rfl ?_
  intro T2 h2 ids kA2 gs2 X2 e2 E2 A2
  have ne_a_ids : a ≠ ids := Nat.ne_of_lt (gs2 ▸ V_a.lt)
  have ge_ids : n0 ≤ ids := gs2 ▸ Zs
  have sz_ids : h0.size ≤ ids := gs2 ▸ K0.1
  have Zs := Nat.le_trans Zs E2.1
  have V_a := V_a.ext E2
  have K2 := K0.ext E2
  have V_ids : AV Z h2 ids .int (2 : Int32) [(.int 0), (.int 0)] := AV.new A2
  refine g_astoreN hG X2 hx (hb hby d3_10) (pc' := 11) rfl rfl (Ls' := #[.val (.ref a), .val (.long lim), .second, .val (.ref ids), .unset, .unset, .unset, .unset]) rfl ?_
  refine g_iconst hG X2 hx (hb hby d3_11) (pc' := 12) rfl (v := (0 : Int32)) rfl ?_
  refine g_istore hG X2 hx (hb hby d3_12) (pc' := 14) rfl (Ls' := #[.val (.ref a), .val (.long lim), .second, .val (.ref ids), .val (.int 0), .unset, .unset, .unset]) rfl ?_
  refine g_iconst hG X2 hx (hb hby d3_14) (pc' := 15) rfl (v := (0 : Int32)) rfl ?_
  refine g_istore hG X2 hx (hb hby d3_15) (pc' := 17) rfl (Ls' := #[.val (.ref a), .val (.long lim), .second, .val (.ref ids), .val (.int 0), .val (.int 0), .unset, .unset]) rfl ?_
  have J1 : ∀ (Tj3 : State) (hj3 : Heap) (Lj3 : List Loc) (p0 : Int32) (w6 w7 : Int32), Stand p l e ({ frames := 1, cells := 1, slots := 2, locals := 40 } : Room) s m #[(.ref a), (.long lim)] below meth c Tj3 Lj3 1 2 → Tj3.heap = hj3 → Fr n0 Lj3 → n0 ≤ hj3.size → Keep h0 hj3 [] → AV Z hj3 a .double (2 : Int32) [(.double (al (0 : Int32))), (.double (al (1 : Int32)))] → AV Z hj3 ids .int (2 : Int32) [(.int p0), (.int 0)] → tops (btB b01 b02 b03 b12 b13 b23) 1 0 [p0] = true → G (Tj3.setTop (mkF m 17 #[.val (.ref a), .val (.long lim), .second, .val (.ref ids), .val (.int 1), .val (.int 1), .val (.int w6), .val (.int w7)] [])) := by
    intro Tj3 hj3 Lj3 p0 w6 w7 Xj3 ej3 NFj3 Zs Kj3 V_a V_ids HT1
    have bp0 : 0 ≤ p0.toInt ∧ p0.toInt < 1 := tops_b HT1 p0 (by simp)
    have J2 : ∀ (Tj4 : State) (hj4 : Heap) (Lj4 : List Loc) (p0 p1 : Int32) (w6 w7 : Int32), Stand p l e ({ frames := 1, cells := 1, slots := 2, locals := 40 } : Room) s m #[(.ref a), (.long lim)] below meth c Tj4 Lj4 1 2 → Tj4.heap = hj4 → Fr n0 Lj4 → n0 ≤ hj4.size → Keep h0 hj4 [] → AV Z hj4 a .double (2 : Int32) [(.double (al (0 : Int32))), (.double (al (1 : Int32)))] → AV Z hj4 ids .int (2 : Int32) [(.int p0), (.int p1)] → tops (btB b01 b02 b03 b12 b13 b23) 2 0 [p0, p1] = true → G (Tj4.setTop (mkF m 17 #[.val (.ref a), .val (.long lim), .second, .val (.ref ids), .val (.int 2), .val (.int 2), .val (.int w6), .val (.int w7)] [])) := by
      intro Tj4 hj4 Lj4 p0 p1 w6 w7 Xj4 ej4 NFj4 Zs Kj4 V_a V_ids HT2
      have bp0 : 0 ≤ p0.toInt ∧ p0.toInt < 2 := tops_b HT2 p0 (by simp)
      have bp1 : 0 ≤ p1.toInt ∧ p1.toInt < 2 := tops_b HT2 p1 (by simp)
      refine g_iload hG Xj4 hx (hb hby d3_17) (pc' := 19) rfl rfl ?_
      refine g_aloadN hG Xj4 hx (hb hby d3_19) (pc' := 20) rfl rfl rfl ?_
      refine g_arraylength hG Xj4 hx hZ ej4 V_a (hb hby d3_20) (pc' := 21) rfl ?_
      refine g_icmpYes hG Xj4 hx (hb hby d3_21) (pc' := 112) (by decide) (by decide) (by decide) ?_
      refine g_aloadN hG Xj4 hx (hb hby d3_112) (pc' := 113) rfl rfl rfl ?_
      exact e_retA hGe Xj4 hx hrt rfl hlk (hb hby d3_113) ej4 (by decide) (by decide) (⟨ids, p0, p1,  rfl, NFj4, Kj4, sz_ids, V_ids, HT2⟩)
    refine g_iload hG Xj3 hx (hb hby d3_17) (pc' := 19) rfl rfl ?_
    refine g_aloadN hG Xj3 hx (hb hby d3_19) (pc' := 20) rfl rfl rfl ?_
    refine g_arraylength hG Xj3 hx hZ ej3 V_a (hb hby d3_20) (pc' := 21) rfl ?_
    refine g_icmpNo hG Xj3 hx (hb hby d3_21) (pc' := 24) (by decide) rfl ?_
    refine g_iload hG Xj3 hx (hb hby d3_24) (pc' := 26) rfl rfl ?_
    refine g_istore hG Xj3 hx (hb hby d3_26) (pc' := 28) rfl (Ls' := #[.val (.ref a), .val (.long lim), .second, .val (.ref ids), .val (.int 1), .val (.int 1), .val (.int 1), .val (.int w7)]) rfl ?_
    refine g_iload hG Xj3 hx (hb hby d3_28) (pc' := 30) rfl rfl ?_
    refine g_ifNo hG Xj3 hx (hb hby d3_30) (pc' := 33) (by decide) rfl ?_
    refine g_aloadN hG Xj3 hx (hb hby d3_33) (pc' := 34) rfl rfl rfl ?_
    refine g_iload hG Xj3 hx (hb hby d3_34) (pc' := 36) rfl rfl ?_
    refine g_daload hG Xj3 hx hZ ej3 V_a (j := (1 : Int32)) (v := (.double (al (1 : Int32)))) (by decide) rfl (hb hby d3_36) (pc' := 37) rfl ?_
    refine g_aloadN hG Xj3 hx (hb hby d3_37) (pc' := 38) rfl rfl rfl ?_
    refine g_aloadN hG Xj3 hx (hb hby d3_38) (pc' := 39) rfl rfl rfl ?_
    refine g_iload hG Xj3 hx (hb hby d3_39) (pc' := 41) rfl rfl ?_
    refine g_iconst hG Xj3 hx (hb hby d3_41) (pc' := 42) rfl (v := (1 : Int32)) rfl ?_
    refine g_isub hG Xj3 hx (hb hby d3_42) (pc' := 43) rfl (v := (0 : Int32)) (by decide) ?_
    refine g_iaload hG Xj3 hx hZ ej3 V_ids (j := (0 : Int32)) (v := (.int p0)) (by decide) rfl (hb hby d3_43) (pc' := 44) rfl ?_
    refine g_daload hG Xj3 hx hZ ej3 V_a (j := p0) (v := (.double (al p0))) (nn_of bp0.1) (al_at2 (in2_of bp0.1 (by omega))) (hb hby d3_44) (pc' := 45) rfl ?_
    obtain ⟨v45, q45⟩ : ∃ zz : Int32, cmpValue (FP.dcmp (al (1 : Int32)) (al p0)) .l = zz := ⟨_, rfl⟩
    refine g_dcmp hG Xj3 hx (hb hby d3_45) (pc' := 46) rfl q45 ?_
    by_cases g1_0 : (btB b01 b02 b03 b12 b13 b23) (1 : Int32) p0 = true
    · skip
      refine g_ifNo hG Xj3 hx (hb hby d3_46) (pc' := 49) (by rw [← q45, gt_yes (BT (1 : Int32) p0 (by decide) (in4_of bp0.1 (by omega))) (fun g => by have := Int32.lt_iff_toInt_lt.mp g; rw [show (1 : Int32).toInt = 1 by decide] at this; omega) g1_0]; rfl) rfl ?_
      refine g_iinc hG Xj3 hx (hb hby d3_49) (pc' := 52) rfl rfl (v := (0 : Int32)) (by decide) (Ls' := #[.val (.ref a), .val (.long lim), .second, .val (.ref ids), .val (.int 1), .val (.int 1), .val (.int 0), .val (.int w7)]) rfl ?_
      refine g_goto hG Xj3 hx (hb hby d3_52) (pc' := 28) (by decide) (by decide) ?_
      refine g_iload hG Xj3 hx (hb hby d3_28) (pc' := 30) rfl rfl ?_
      refine g_ifYes hG Xj3 hx (hb hby d3_30) (pc' := 55) (by decide) (by decide) (by decide) ?_
      refine g_iload hG Xj3 hx (hb hby d3_55) (pc' := 57) rfl rfl ?_
      refine g_aloadN hG Xj3 hx (hb hby d3_57) (pc' := 58) rfl rfl rfl ?_
      refine g_arraylength hG Xj3 hx hZ ej3 V_ids (hb hby d3_58) (pc' := 59) rfl ?_
      refine g_icmpNo hG Xj3 hx (hb hby d3_59) (pc' := 62) (by decide) rfl ?_
      refine g_iload hG Xj3 hx (hb hby d3_62) (pc' := 64) rfl rfl ?_
      refine g_aloadN hG Xj3 hx (hb hby d3_64) (pc' := 65) rfl rfl rfl ?_
      refine g_arraylength hG Xj3 hx hZ ej3 V_ids (hb hby d3_65) (pc' := 66) rfl ?_
      refine g_iconst hG Xj3 hx (hb hby d3_66) (pc' := 67) rfl (v := (1 : Int32)) rfl ?_
      refine g_isub hG Xj3 hx (hb hby d3_67) (pc' := 68) rfl (v := (1 : Int32)) (by decide) ?_
      refine g_callS hG Xj3 hx hZ (y := (⟨"java/lang/Math", "min", "(II)I"⟩ : MethodName)) 0 hown (wd hw 16 rfl) (wd hw 17 rfl) (wd hw 8 rfl) (wd hw 18 rfl) (by decide) (rmMI l Z a0 hw [] (1 : Int32) (1 : Int32) (1 : Int32) hj3 n0 Zs (by decide)) (by decide) (by decide) (by rw [hml]; rfl) pd_3 rfl (argsL := [(.int 1), (.int 1)]) (rest := []) rfl rfl (Nat.le_of_eq rfl) (hb hby d3_68) ej3 (by decide) (by decide) (pc' := 71) rfl ?_
      intro T5 rv5 L5 X5 hQ5
      obtain ⟨rfl, Nq5, eh5⟩ := hQ5
      have NF5 := Fr.app NFj3 Nq5
      show G (T5.setTop (mkF m 71 _ [(.int 1)]))
      refine g_istore hG X5 hx (hb hby d3_71) (pc' := 73) rfl (Ls' := #[.val (.ref a), .val (.long lim), .second, .val (.ref ids), .val (.int 1), .val (.int 1), .val (.int 0), .val (.int 1)]) rfl ?_
      refine g_aloadN hG X5 hx (hb hby d3_73) (pc' := 74) rfl rfl rfl ?_
      refine g_iload hG X5 hx (hb hby d3_74) (pc' := 76) rfl rfl ?_
      refine g_aloadN hG X5 hx (hb hby d3_76) (pc' := 77) rfl rfl rfl ?_
      refine g_iload hG X5 hx (hb hby d3_77) (pc' := 79) rfl rfl ?_
      refine g_iconst hG X5 hx (hb hby d3_79) (pc' := 80) rfl (v := (1 : Int32)) rfl ?_
      refine g_iadd hG X5 hx (hb hby d3_80) (pc' := 81) rfl (v := (1 : Int32)) (by decide) ?_
      refine g_iload hG X5 hx (hb hby d3_81) (pc' := 83) rfl rfl ?_
      refine g_iload hG X5 hx (hb hby d3_83) (pc' := 85) rfl rfl ?_
      refine g_isub hG X5 hx (hb hby d3_85) (pc' := 86) rfl (v := (1 : Int32)) (by decide) ?_
      refine g_copy hG X5 hx hZ hown (wd hw 19 rfl) (wd hw 22 rfl) (wd hw 20 rfl) (wd hw 21 rfl) eh5 V_ids V_ids rfl (by decide) (by decide) (by decide) (by decide) (by decide) (vr := [(.int p0), (.int p0)]) rfl NF5 ge_ids (by rw [hml]; rfl) (hb hby d3_86) (by decide) 0 (Nat.le_of_eq rfl) (by decide) (pc' := 89) rfl ?_
      intro T6 h6 L6 X6 e6 NF6 Kq6 Vn6
      have V_ids := Vn6
      have V_a := V_a.keep Kq6 (ninS ne_a_ids nin0)
      have Zs := Nat.le_trans Zs Kq6.1
      have K6 := Kj3.trans Kq6 (allS (Or.inr sz_ids) all0)
      show G (T6.setTop (mkF m 89 _ []))
      refine g_aloadN hG X6 hx (hb hby d3_89) (pc' := 90) rfl rfl rfl ?_
      refine g_iload hG X6 hx (hb hby d3_90) (pc' := 92) rfl rfl ?_
      refine g_iload hG X6 hx (hb hby d3_92) (pc' := 94) rfl rfl ?_
      refine g_iastore hG X6 hx hZ e6 V_ids (j := (0 : Int32)) (by decide) (show Int32.toNatClampNeg (0 : Int32) < 2 by decide) (hb hby d3_94) (pc' := 95) rfl ?_
      intro T7 h7 X7 e7 W7 Vn7
      have V_ids : AV Z h7 ids .int (2 : Int32) [(.int 1), (.int p0)] := Vn7
      have V_a := V_a.other W7 ne_a_ids
      have Zs := Nat.le_trans Zs (Wr.size W7)
      have NF7 := Fr.snoc X7 NF6 ge_ids
      have K7 := K6.wr W7 (Or.inr sz_ids)
      refine g_iload hG X7 hx (hb hby d3_95) (pc' := 97) rfl rfl ?_
      refine g_iconst hG X7 hx (hb hby d3_97) (pc' := 98) rfl (v := (1 : Int32)) rfl ?_
      refine g_iadd hG X7 hx (hb hby d3_98) (pc' := 99) rfl (v := (2 : Int32)) (by decide) ?_
      refine g_aloadN hG X7 hx (hb hby d3_99) (pc' := 100) rfl rfl rfl ?_
      refine g_arraylength hG X7 hx hZ e7 V_ids (hb hby d3_100) (pc' := 101) rfl ?_
      refine g_callS hG X7 hx hZ (y := (⟨"java/lang/Math", "min", "(II)I"⟩ : MethodName)) 0 hown (wd hw 16 rfl) (wd hw 17 rfl) (wd hw 8 rfl) (wd hw 18 rfl) (by decide) (rmMI l Z a0 hw [] (2 : Int32) (2 : Int32) (2 : Int32) h7 n0 Zs (by decide)) (by decide) (by decide) (by rw [hml]; rfl) pd_3 rfl (argsL := [(.int 2), (.int 2)]) (rest := []) rfl rfl (Nat.le_of_eq rfl) (hb hby d3_101) e7 (by decide) (by decide) (pc' := 104) rfl ?_
      intro T8 rv8 L8 X8 hQ8
      obtain ⟨rfl, Nq8, eh8⟩ := hQ8
      have NF8 := Fr.app NF7 Nq8
      show G (T8.setTop (mkF m 104 _ [(.int 2)]))
      refine g_istore hG X8 hx (hb hby d3_104) (pc' := 106) rfl (Ls' := #[.val (.ref a), .val (.long lim), .second, .val (.ref ids), .val (.int 2), .val (.int 1), .val (.int 0), .val (.int 1)]) rfl ?_
      refine g_iinc hG X8 hx (hb hby d3_106) (pc' := 109) rfl rfl (v := (2 : Int32)) (by decide) (Ls' := #[.val (.ref a), .val (.long lim), .second, .val (.ref ids), .val (.int 2), .val (.int 2), .val (.int 0), .val (.int 1)]) rfl ?_
      refine g_goto hG X8 hx (hb hby d3_109) (pc' := 17) (by decide) (by decide) ?_
      exact J2 _ _ _ (1 : Int32) p0 (0 : Int32) (1 : Int32) X8 eh8 NF8 Zs K7 V_a V_ids (st_1_1_2_0 b01 b02 b03 b12 b13 b23 p0 TR HT1 g1_0)
    · skip
      refine g_ifYes hG Xj3 hx (hb hby d3_46) (pc' := 55) (by rcases gt_no (BT (1 : Int32) p0 (by decide) (in4_of bp0.1 (by omega))) g1_0 with z | z <;> rw [← q45, z] <;> rfl) (by decide) (by decide) ?_
      refine g_iload hG Xj3 hx (hb hby d3_55) (pc' := 57) rfl rfl ?_
      refine g_aloadN hG Xj3 hx (hb hby d3_57) (pc' := 58) rfl rfl rfl ?_
      refine g_arraylength hG Xj3 hx hZ ej3 V_ids (hb hby d3_58) (pc' := 59) rfl ?_
      refine g_icmpNo hG Xj3 hx (hb hby d3_59) (pc' := 62) (by decide) rfl ?_
      refine g_iload hG Xj3 hx (hb hby d3_62) (pc' := 64) rfl rfl ?_
      refine g_aloadN hG Xj3 hx (hb hby d3_64) (pc' := 65) rfl rfl rfl ?_
      refine g_arraylength hG Xj3 hx hZ ej3 V_ids (hb hby d3_65) (pc' := 66) rfl ?_
      refine g_iconst hG Xj3 hx (hb hby d3_66) (pc' := 67) rfl (v := (1 : Int32)) rfl ?_
      refine g_isub hG Xj3 hx (hb hby d3_67) (pc' := 68) rfl (v := (1 : Int32)) (by decide) ?_
      refine g_callS hG Xj3 hx hZ (y := (⟨"java/lang/Math", "min", "(II)I"⟩ : MethodName)) 0 hown (wd hw 16 rfl) (wd hw 17 rfl) (wd hw 8 rfl) (wd hw 18 rfl) (by decide) (rmMI l Z a0 hw [] (1 : Int32) (1 : Int32) (1 : Int32) hj3 n0 Zs (by decide)) (by decide) (by decide) (by rw [hml]; rfl) pd_3 rfl (argsL := [(.int 1), (.int 1)]) (rest := []) rfl rfl (Nat.le_of_eq rfl) (hb hby d3_68) ej3 (by decide) (by decide) (pc' := 71) rfl ?_
      intro T9 rv9 L9 X9 hQ9
      obtain ⟨rfl, Nq9, eh9⟩ := hQ9
      have NF9 := Fr.app NFj3 Nq9
      show G (T9.setTop (mkF m 71 _ [(.int 1)]))
      refine g_istore hG X9 hx (hb hby d3_71) (pc' := 73) rfl (Ls' := #[.val (.ref a), .val (.long lim), .second, .val (.ref ids), .val (.int 1), .val (.int 1), .val (.int 1), .val (.int 1)]) rfl ?_
      refine g_aloadN hG X9 hx (hb hby d3_73) (pc' := 74) rfl rfl rfl ?_
      refine g_iload hG X9 hx (hb hby d3_74) (pc' := 76) rfl rfl ?_
      refine g_aloadN hG X9 hx (hb hby d3_76) (pc' := 77) rfl rfl rfl ?_
      refine g_iload hG X9 hx (hb hby d3_77) (pc' := 79) rfl rfl ?_
      refine g_iconst hG X9 hx (hb hby d3_79) (pc' := 80) rfl (v := (1 : Int32)) rfl ?_
      refine g_iadd hG X9 hx (hb hby d3_80) (pc' := 81) rfl (v := (2 : Int32)) (by decide) ?_
      refine g_iload hG X9 hx (hb hby d3_81) (pc' := 83) rfl rfl ?_
      refine g_iload hG X9 hx (hb hby d3_83) (pc' := 85) rfl rfl ?_
      refine g_isub hG X9 hx (hb hby d3_85) (pc' := 86) rfl (v := (0 : Int32)) (by decide) ?_
      refine g_copy hG X9 hx hZ hown (wd hw 19 rfl) (wd hw 22 rfl) (wd hw 20 rfl) (wd hw 21 rfl) eh9 V_ids V_ids rfl (by decide) (by decide) (by decide) (by decide) (by decide) (vr := [(.int p0), (.int 0)]) rfl NF9 ge_ids (by rw [hml]; rfl) (hb hby d3_86) (by decide) 0 (Nat.le_of_eq rfl) (by decide) (pc' := 89) rfl ?_
      intro T10 h10 L10 X10 e10 NF10 Kq10 Vn10
      have V_ids := Vn10
      have V_a := V_a.keep Kq10 (ninS ne_a_ids nin0)
      have Zs := Nat.le_trans Zs Kq10.1
      have K10 := Kj3.trans Kq10 (allS (Or.inr sz_ids) all0)
      show G (T10.setTop (mkF m 89 _ []))
      refine g_aloadN hG X10 hx (hb hby d3_89) (pc' := 90) rfl rfl rfl ?_
      refine g_iload hG X10 hx (hb hby d3_90) (pc' := 92) rfl rfl ?_
      refine g_iload hG X10 hx (hb hby d3_92) (pc' := 94) rfl rfl ?_
      refine g_iastore hG X10 hx hZ e10 V_ids (j := (1 : Int32)) (by decide) (show Int32.toNatClampNeg (1 : Int32) < 2 by decide) (hb hby d3_94) (pc' := 95) rfl ?_
      intro T11 h11 X11 e11 W11 Vn11
      have V_ids : AV Z h11 ids .int (2 : Int32) [(.int p0), (.int 1)] := Vn11
      have V_a := V_a.other W11 ne_a_ids
      have Zs := Nat.le_trans Zs (Wr.size W11)
      have NF11 := Fr.snoc X11 NF10 ge_ids
      have K11 := K10.wr W11 (Or.inr sz_ids)
      refine g_iload hG X11 hx (hb hby d3_95) (pc' := 97) rfl rfl ?_
      refine g_iconst hG X11 hx (hb hby d3_97) (pc' := 98) rfl (v := (1 : Int32)) rfl ?_
      refine g_iadd hG X11 hx (hb hby d3_98) (pc' := 99) rfl (v := (2 : Int32)) (by decide) ?_
      refine g_aloadN hG X11 hx (hb hby d3_99) (pc' := 100) rfl rfl rfl ?_
      refine g_arraylength hG X11 hx hZ e11 V_ids (hb hby d3_100) (pc' := 101) rfl ?_
      refine g_callS hG X11 hx hZ (y := (⟨"java/lang/Math", "min", "(II)I"⟩ : MethodName)) 0 hown (wd hw 16 rfl) (wd hw 17 rfl) (wd hw 8 rfl) (wd hw 18 rfl) (by decide) (rmMI l Z a0 hw [] (2 : Int32) (2 : Int32) (2 : Int32) h11 n0 Zs (by decide)) (by decide) (by decide) (by rw [hml]; rfl) pd_3 rfl (argsL := [(.int 2), (.int 2)]) (rest := []) rfl rfl (Nat.le_of_eq rfl) (hb hby d3_101) e11 (by decide) (by decide) (pc' := 104) rfl ?_
      intro T12 rv12 L12 X12 hQ12
      obtain ⟨rfl, Nq12, eh12⟩ := hQ12
      have NF12 := Fr.app NF11 Nq12
      show G (T12.setTop (mkF m 104 _ [(.int 2)]))
      refine g_istore hG X12 hx (hb hby d3_104) (pc' := 106) rfl (Ls' := #[.val (.ref a), .val (.long lim), .second, .val (.ref ids), .val (.int 2), .val (.int 1), .val (.int 1), .val (.int 1)]) rfl ?_
      refine g_iinc hG X12 hx (hb hby d3_106) (pc' := 109) rfl rfl (v := (2 : Int32)) (by decide) (Ls' := #[.val (.ref a), .val (.long lim), .second, .val (.ref ids), .val (.int 2), .val (.int 2), .val (.int 1), .val (.int 1)]) rfl ?_
      refine g_goto hG X12 hx (hb hby d3_109) (pc' := 17) (by decide) (by decide) ?_
      exact J2 _ _ _ p0 (1 : Int32) (1 : Int32) (1 : Int32) X12 eh12 NF12 Zs K11 V_a V_ids (st_1_1_2_1 b01 b02 b03 b12 b13 b23 p0 TR HT1 g1_0)
  refine g_iload hG X2 hx (hb hby d3_17) (pc' := 19) rfl rfl ?_
  refine g_aloadN hG X2 hx (hb hby d3_19) (pc' := 20) rfl rfl rfl ?_
  refine g_arraylength hG X2 hx hZ e2 V_a (hb hby d3_20) (pc' := 21) rfl ?_
  refine g_icmpNo hG X2 hx (hb hby d3_21) (pc' := 24) (by decide) rfl ?_
  refine g_iload hG X2 hx (hb hby d3_24) (pc' := 26) rfl rfl ?_
  refine g_istore hG X2 hx (hb hby d3_26) (pc' := 28) rfl (Ls' := #[.val (.ref a), .val (.long lim), .second, .val (.ref ids), .val (.int 0), .val (.int 0), .val (.int 0), .unset]) rfl ?_
  refine g_iload hG X2 hx (hb hby d3_28) (pc' := 30) rfl rfl ?_
  refine g_ifYes hG X2 hx (hb hby d3_30) (pc' := 55) (by decide) (by decide) (by decide) ?_
  refine g_iload hG X2 hx (hb hby d3_55) (pc' := 57) rfl rfl ?_
  refine g_aloadN hG X2 hx (hb hby d3_57) (pc' := 58) rfl rfl rfl ?_
  refine g_arraylength hG X2 hx hZ e2 V_ids (hb hby d3_58) (pc' := 59) rfl ?_
  refine g_icmpNo hG X2 hx (hb hby d3_59) (pc' := 62) (by decide) rfl ?_
  refine g_iload hG X2 hx (hb hby d3_62) (pc' := 64) rfl rfl ?_
  refine g_aloadN hG X2 hx (hb hby d3_64) (pc' := 65) rfl rfl rfl ?_
  refine g_arraylength hG X2 hx hZ e2 V_ids (hb hby d3_65) (pc' := 66) rfl ?_
  refine g_iconst hG X2 hx (hb hby d3_66) (pc' := 67) rfl (v := (1 : Int32)) rfl ?_
  refine g_isub hG X2 hx (hb hby d3_67) (pc' := 68) rfl (v := (1 : Int32)) (by decide) ?_
  refine g_callS hG X2 hx hZ (y := (⟨"java/lang/Math", "min", "(II)I"⟩ : MethodName)) 0 hown (wd hw 16 rfl) (wd hw 17 rfl) (wd hw 8 rfl) (wd hw 18 rfl) (by decide) (rmMI l Z a0 hw [] (0 : Int32) (1 : Int32) (0 : Int32) h2 n0 Zs (by decide)) (by decide) (by decide) (by rw [hml]; rfl) pd_3 rfl (argsL := [(.int 0), (.int 1)]) (rest := []) rfl rfl (Nat.le_of_eq rfl) (hb hby d3_68) e2 (by decide) (by decide) (pc' := 71) rfl ?_
  intro T13 rv13 L13 X13 hQ13
  obtain ⟨rfl, Nq13, eh13⟩ := hQ13
  have NF13 := Fr.app NF1 Nq13
  show G (T13.setTop (mkF m 71 _ [(.int 0)]))
  refine g_istore hG X13 hx (hb hby d3_71) (pc' := 73) rfl (Ls' := #[.val (.ref a), .val (.long lim), .second, .val (.ref ids), .val (.int 0), .val (.int 0), .val (.int 0), .val (.int 0)]) rfl ?_
  refine g_aloadN hG X13 hx (hb hby d3_73) (pc' := 74) rfl rfl rfl ?_
  refine g_iload hG X13 hx (hb hby d3_74) (pc' := 76) rfl rfl ?_
  refine g_aloadN hG X13 hx (hb hby d3_76) (pc' := 77) rfl rfl rfl ?_
  refine g_iload hG X13 hx (hb hby d3_77) (pc' := 79) rfl rfl ?_
  refine g_iconst hG X13 hx (hb hby d3_79) (pc' := 80) rfl (v := (1 : Int32)) rfl ?_
  refine g_iadd hG X13 hx (hb hby d3_80) (pc' := 81) rfl (v := (1 : Int32)) (by decide) ?_
  refine g_iload hG X13 hx (hb hby d3_81) (pc' := 83) rfl rfl ?_
  refine g_iload hG X13 hx (hb hby d3_83) (pc' := 85) rfl rfl ?_
  refine g_isub hG X13 hx (hb hby d3_85) (pc' := 86) rfl (v := (0 : Int32)) (by decide) ?_
  refine g_copy hG X13 hx hZ hown (wd hw 19 rfl) (wd hw 22 rfl) (wd hw 20 rfl) (wd hw 21 rfl) eh13 V_ids V_ids rfl (by decide) (by decide) (by decide) (by decide) (by decide) (vr := [(.int 0), (.int 0)]) rfl NF13 ge_ids (by rw [hml]; rfl) (hb hby d3_86) (by decide) 0 (Nat.le_of_eq rfl) (by decide) (pc' := 89) rfl ?_
  intro T14 h14 L14 X14 e14 NF14 Kq14 Vn14
  have V_ids := Vn14
  have V_a := V_a.keep Kq14 (ninS ne_a_ids nin0)
  have Zs := Nat.le_trans Zs Kq14.1
  have K14 := K2.trans Kq14 (allS (Or.inr sz_ids) all0)
  show G (T14.setTop (mkF m 89 _ []))
  refine g_aloadN hG X14 hx (hb hby d3_89) (pc' := 90) rfl rfl rfl ?_
  refine g_iload hG X14 hx (hb hby d3_90) (pc' := 92) rfl rfl ?_
  refine g_iload hG X14 hx (hb hby d3_92) (pc' := 94) rfl rfl ?_
  refine g_iastore hG X14 hx hZ e14 V_ids (j := (0 : Int32)) (by decide) (show Int32.toNatClampNeg (0 : Int32) < 2 by decide) (hb hby d3_94) (pc' := 95) rfl ?_
  intro T15 h15 X15 e15 W15 Vn15
  have V_ids : AV Z h15 ids .int (2 : Int32) [(.int 0), (.int 0)] := Vn15
  have V_a := V_a.other W15 ne_a_ids
  have Zs := Nat.le_trans Zs (Wr.size W15)
  have NF15 := Fr.snoc X15 NF14 ge_ids
  have K15 := K14.wr W15 (Or.inr sz_ids)
  refine g_iload hG X15 hx (hb hby d3_95) (pc' := 97) rfl rfl ?_
  refine g_iconst hG X15 hx (hb hby d3_97) (pc' := 98) rfl (v := (1 : Int32)) rfl ?_
  refine g_iadd hG X15 hx (hb hby d3_98) (pc' := 99) rfl (v := (1 : Int32)) (by decide) ?_
  refine g_aloadN hG X15 hx (hb hby d3_99) (pc' := 100) rfl rfl rfl ?_
  refine g_arraylength hG X15 hx hZ e15 V_ids (hb hby d3_100) (pc' := 101) rfl ?_
  refine g_callS hG X15 hx hZ (y := (⟨"java/lang/Math", "min", "(II)I"⟩ : MethodName)) 0 hown (wd hw 16 rfl) (wd hw 17 rfl) (wd hw 8 rfl) (wd hw 18 rfl) (by decide) (rmMI l Z a0 hw [] (1 : Int32) (2 : Int32) (1 : Int32) h15 n0 Zs (by decide)) (by decide) (by decide) (by rw [hml]; rfl) pd_3 rfl (argsL := [(.int 1), (.int 2)]) (rest := []) rfl rfl (Nat.le_of_eq rfl) (hb hby d3_101) e15 (by decide) (by decide) (pc' := 104) rfl ?_
  intro T16 rv16 L16 X16 hQ16
  obtain ⟨rfl, Nq16, eh16⟩ := hQ16
  have NF16 := Fr.app NF15 Nq16
  show G (T16.setTop (mkF m 104 _ [(.int 1)]))
  refine g_istore hG X16 hx (hb hby d3_104) (pc' := 106) rfl (Ls' := #[.val (.ref a), .val (.long lim), .second, .val (.ref ids), .val (.int 1), .val (.int 0), .val (.int 0), .val (.int 0)]) rfl ?_
  refine g_iinc hG X16 hx (hb hby d3_106) (pc' := 109) rfl rfl (v := (1 : Int32)) (by decide) (Ls' := #[.val (.ref a), .val (.long lim), .second, .val (.ref ids), .val (.int 1), .val (.int 1), .val (.int 0), .val (.int 0)]) rfl ?_
  refine g_goto hG X16 hx (hb hby d3_109) (pc' := 17) (by decide) (by decide) ?_
  exact J1 _ _ _ (0 : Int32) (0 : Int32) (0 : Int32) X16 eh16 NF16 Zs K15 V_a V_ids (st_0_0_2_0 b01 b02 b03 b12 b13 b23  TR HT0 )

def Q_rmBu3 (Z : State) (al : Int32 → UInt64) (h0 : Heap) (n0 : Nat) (v : Option Value) (h : Heap) (L : List Loc) : Prop := ∃ b : Addr, v = some (.ref b) ∧ Fr n0 L ∧ Keep h0 h [] ∧ h0.size ≤ b ∧ AV Z h b .double (3 : Int32) [(.double (al (0 : Int32))), (.double (al (1 : Int32))), (.double (al (2 : Int32)))]
set_option maxRecDepth 65536 in
set_option maxHeartbeats 40000000 in
theorem rmBu3 (l : Launch) (Z : State) (a0 : Array Value) (hw : ∀ d ∈ tables_1, d.before a0 Z = true) (ws : List Jvm.Cond) (al : Int32 → UInt64) (h0 : Heap) (n0 : Nat) (Zs : n0 ≤ h0.size)  :
    Con l (⟨"com/example/gauge_terms/gaugeterms/TopValuesPositionsPinLaw", "build", "(IDDDD)[D"⟩ : MethodName) method_2_code 9 (some (.array .double)) ws ({ frames := 0, cells := 1, slots := 3, locals := 0 } : Room) Z #[(.int 3), (.double (al (0 : Int32))), (.double (al (1 : Int32))), (.double (al (2 : Int32))), (.double (al (3 : Int32)))] h0 ({ frames := 0, cells := 1, slots := 3, locals := 0 } : Room).cells ({ frames := 0, cells := 1, slots := 3, locals := 0 } : Room).slots (Q_rmBu3 Z al h0 n0) := by
  refine Con.of (Ls := #[.val (.int 3), .val (.double (al (0 : Int32))), .second, .val (.double (al (1 : Int32))), .second, .val (.double (al (2 : Int32))), .second, .val (.double (al (3 : Int32))), .second]) (plainFor_of_name (by first | (simp [plainName, overriddenIn]; done) | decide +kernel)) (fun m => by first | (simp [entryFrame, mkF, argsToLocals, Value.category]; done) | rfl) ?_
  intro p e s m below meth c s₁ G hGe hG hx hby hml hown hnm hrt hlk hZ X0 e0
  have hown : s.vm.findClass "com/example/gauge_terms/gaugeterms/TopValuesPositionsPinLaw" = some m.cls := hown
  have hnm : meth.name = "build" := hnm
  have NF0 := Fr.nil n0
  have K0 := Keep.refl h0 ([] : List Addr)
  refine g_iloadN hG X0 hx (hb hby d1_0) (pc' := 1) rfl rfl ?_
  refine g_ifYes hG X0 hx (hb hby d1_1) (pc' := 8) (by decide) (by decide) (by decide) ?_
  refine g_iloadN hG X0 hx (hb hby d1_8) (pc' := 9) rfl rfl ?_
  refine g_iconst hG X0 hx (hb hby d1_9) (pc' := 10) rfl (v := (1 : Int32)) rfl ?_
  refine g_icmpYes hG X0 hx (hb hby d1_10) (pc' := 21) (by decide) (by decide) (by decide) ?_
  refine g_iloadN hG X0 hx (hb hby d1_21) (pc' := 22) rfl rfl ?_
  refine g_iconst hG X0 hx (hb hby d1_22) (pc' := 23) rfl (v := (2 : Int32)) rfl ?_
  refine g_icmpYes hG X0 hx (hb hby d1_23) (pc' := 38) (by decide) (by decide) (by decide) ?_
  refine g_iloadN hG X0 hx (hb hby d1_38) (pc' := 39) rfl rfl ?_
  refine g_iconst hG X0 hx (hb hby d1_39) (pc' := 40) rfl (v := (3 : Int32)) rfl ?_
  refine g_icmpNo hG X0 hx (hb hby d1_40) (pc' := 43) (by decide) rfl ?_
  refine g_iconst hG X0 hx (hb hby d1_43) (pc' := 44) rfl (v := (3 : Int32)) rfl ?_
  refine g_newP hG X0 hx hZ (wd hw 5 rfl) e0 (hb hby d1_44) (by decide) 3 (by decide) (by decide) (by decide) (by decide) (pc' := 46) rfl ?_
  intro T1 h1 b kA1 gs1 X1 e1 E1 A1
  have ge_b : n0 ≤ b := gs1 ▸ Zs
  have sz_b : h0.size ≤ b := gs1 ▸ K0.1
  have Zs := Nat.le_trans Zs E1.1
  have K1 := K0.ext E1
  have V_b : AV Z h1 b .double (3 : Int32) [(.double 0), (.double 0), (.double 0)] := AV.new A1
  refine g_dup hG X1 hx (hb hby d1_46) (pc' := 47) rfl rfl ?_
  refine g_iconst hG X1 hx (hb hby d1_47) (pc' := 48) rfl (v := (0 : Int32)) rfl ?_
  refine g_dloadN hG X1 hx (hb hby d1_48) (pc' := 49) rfl rfl ?_
  refine g_dastore hG X1 hx hZ e1 V_b (j := (0 : Int32)) (by decide) (show Int32.toNatClampNeg (0 : Int32) < 3 by decide) (hb hby d1_49) (pc' := 50) rfl ?_
  intro T2 h2 X2 e2 W2 Vn2
  have V_b : AV Z h2 b .double (3 : Int32) [(.double (al (0 : Int32))), (.double 0), (.double 0)] := Vn2
  have Zs := Nat.le_trans Zs (Wr.size W2)
  have NF2 := Fr.snoc X2 NF0 ge_b
  have K2 := K1.wr W2 (Or.inr sz_b)
  refine g_dup hG X2 hx (hb hby d1_50) (pc' := 51) rfl rfl ?_
  refine g_iconst hG X2 hx (hb hby d1_51) (pc' := 52) rfl (v := (1 : Int32)) rfl ?_
  refine g_dloadN hG X2 hx (hb hby d1_52) (pc' := 53) rfl rfl ?_
  refine g_dastore hG X2 hx hZ e2 V_b (j := (1 : Int32)) (by decide) (show Int32.toNatClampNeg (1 : Int32) < 3 by decide) (hb hby d1_53) (pc' := 54) rfl ?_
  intro T3 h3 X3 e3 W3 Vn3
  have V_b : AV Z h3 b .double (3 : Int32) [(.double (al (0 : Int32))), (.double (al (1 : Int32))), (.double 0)] := Vn3
  have Zs := Nat.le_trans Zs (Wr.size W3)
  have NF3 := Fr.snoc X3 NF2 ge_b
  have K3 := K2.wr W3 (Or.inr sz_b)
  refine g_dup hG X3 hx (hb hby d1_54) (pc' := 55) rfl rfl ?_
  refine g_iconst hG X3 hx (hb hby d1_55) (pc' := 56) rfl (v := (2 : Int32)) rfl ?_
  refine g_dload hG X3 hx (hb hby d1_56) (pc' := 58) rfl rfl ?_
  refine g_dastore hG X3 hx hZ e3 V_b (j := (2 : Int32)) (by decide) (show Int32.toNatClampNeg (2 : Int32) < 3 by decide) (hb hby d1_58) (pc' := 59) rfl ?_
  intro T4 h4 X4 e4 W4 Vn4
  have V_b : AV Z h4 b .double (3 : Int32) [(.double (al (0 : Int32))), (.double (al (1 : Int32))), (.double (al (2 : Int32)))] := Vn4
  have Zs := Nat.le_trans Zs (Wr.size W4)
  have NF4 := Fr.snoc X4 NF3 ge_b
  have K4 := K3.wr W4 (Or.inr sz_b)
  exact e_retA hGe X4 hx hrt rfl hlk (hb hby d1_59) e4 (by decide) (by decide) (⟨b, rfl, NF4, K4, sz_b, V_b⟩)

def Q_rmBe3 (Z : State) (a : Addr) (al : Int32 → UInt64) (q pj r : Int32) (h0 : Heap) (n0 : Nat) (v : Option Value) (h : Heap) (L : List Loc) : Prop := v = some (.int r) ∧ Fr n0 L ∧ h = h0
set_option maxRecDepth 65536 in
set_option maxHeartbeats 40000000 in
theorem rmBe3 (l : Launch) (Z : State) (a0 : Array Value) (hw : ∀ d ∈ tables_1, d.before a0 Z = true) (ws : List Jvm.Cond) (a : Addr) (al : Int32 → UInt64) (q pj r : Int32) (h0 : Heap) (n0 : Nat) (Zs : n0 ≤ h0.size) (V_a : AV Z h0 a .double (3 : Int32) [(.double (al (0 : Int32))), (.double (al (1 : Int32))), (.double (al (2 : Int32)))]) (bq : 0 ≤ q.toInt ∧ q.toInt < 3) (bpj : 0 ≤ pj.toInt ∧ pj.toInt < 3) (hb : BtR al q pj r) :
    Con l (⟨"com/example/gauge_terms/gaugeterms/TopValuesPositionsPinLaw", "beats", "([DII)I"⟩ : MethodName) method_3_code 3 (some .int) ws ({ frames := 0, cells := 0, slots := 0, locals := 0 } : Room) Z #[(.ref a), (.int q), (.int pj)] h0 ({ frames := 0, cells := 0, slots := 0, locals := 0 } : Room).cells ({ frames := 0, cells := 0, slots := 0, locals := 0 } : Room).slots (Q_rmBe3 Z a al q pj r h0 n0) := by
  refine Con.of (Ls := #[.val (.ref a), .val (.int q), .val (.int pj)]) (plainFor_of_name (by first | (simp [plainName, overriddenIn]; done) | decide +kernel)) (fun m => by first | (simp [entryFrame, mkF, argsToLocals, Value.category]; done) | rfl) ?_
  intro p e s m below meth c s₁ G hGe hG hx hby hml hown hnm hrt hlk hZ X0 e0
  have hown : s.vm.findClass "com/example/gauge_terms/gaugeterms/TopValuesPositionsPinLaw" = some m.cls := hown
  have hnm : meth.name = "beats" := hnm
  have NF0 := Fr.nil n0
  rcases hb with ⟨c1, hr⟩ | ⟨c1, c2, hr⟩ | ⟨c1, c2, hr⟩ | ⟨c1, hr⟩
  · skip
    refine g_iloadN hG X0 hx (hb hby d7_0) (pc' := 1) rfl rfl ?_
    refine g_aloadN hG X0 hx (hb hby d7_1) (pc' := 2) rfl rfl rfl ?_
    refine g_arraylength hG X0 hx hZ e0 V_a (hb hby d7_2) (pc' := 3) rfl ?_
    refine g_icmpYes hG X0 hx (hb hby d7_3) (pc' := 8) ((tlt (Int32.lt_iff_toInt_lt.mpr (by rw [show (3 : Int32).toInt = 3 by decide]; exact bq.2))).1) (by decide) (by decide) ?_
    refine g_aloadN hG X0 hx (hb hby d7_8) (pc' := 9) rfl rfl rfl ?_
    refine g_iloadN hG X0 hx (hb hby d7_9) (pc' := 10) rfl rfl ?_
    refine g_daload hG X0 hx hZ e0 V_a (j := q) (v := (.double (al q))) (nn_of bq.1) (al_at3 (in3_of bq.1 bq.2)) (hb hby d7_10) (pc' := 11) rfl ?_
    refine g_aloadN hG X0 hx (hb hby d7_11) (pc' := 12) rfl rfl rfl ?_
    refine g_iloadN hG X0 hx (hb hby d7_12) (pc' := 13) rfl rfl ?_
    refine g_daload hG X0 hx hZ e0 V_a (j := pj) (v := (.double (al pj))) (nn_of bpj.1) (al_at3 (in3_of bpj.1 bpj.2)) (hb hby d7_13) (pc' := 14) rfl ?_
    obtain ⟨v14, q14⟩ : ∃ zz : Int32, cmpValue (FP.dcmp (al q) (al pj)) .l = zz := ⟨_, rfl⟩
    refine g_dcmp hG X0 hx (hb hby d7_14) (pc' := 15) rfl q14 ?_
    refine g_ifNo hG X0 hx (hb hby d7_15) (pc' := 18) (by rw [← q14, c1]; rfl) rfl ?_
    refine g_iconst hG X0 hx (hb hby d7_18) (pc' := 19) rfl (v := (1 : Int32)) rfl ?_
    exact e_retI hGe X0 hx hrt hlk (hb hby d7_19) e0 (by decide) (by decide) (⟨by rw [hr], NF0, rfl⟩)
  · skip
    refine g_iloadN hG X0 hx (hb hby d7_0) (pc' := 1) rfl rfl ?_
    refine g_aloadN hG X0 hx (hb hby d7_1) (pc' := 2) rfl rfl rfl ?_
    refine g_arraylength hG X0 hx hZ e0 V_a (hb hby d7_2) (pc' := 3) rfl ?_
    refine g_icmpYes hG X0 hx (hb hby d7_3) (pc' := 8) ((tlt (Int32.lt_iff_toInt_lt.mpr (by rw [show (3 : Int32).toInt = 3 by decide]; exact bq.2))).1) (by decide) (by decide) ?_
    refine g_aloadN hG X0 hx (hb hby d7_8) (pc' := 9) rfl rfl rfl ?_
    refine g_iloadN hG X0 hx (hb hby d7_9) (pc' := 10) rfl rfl ?_
    refine g_daload hG X0 hx hZ e0 V_a (j := q) (v := (.double (al q))) (nn_of bq.1) (al_at3 (in3_of bq.1 bq.2)) (hb hby d7_10) (pc' := 11) rfl ?_
    refine g_aloadN hG X0 hx (hb hby d7_11) (pc' := 12) rfl rfl rfl ?_
    refine g_iloadN hG X0 hx (hb hby d7_12) (pc' := 13) rfl rfl ?_
    refine g_daload hG X0 hx hZ e0 V_a (j := pj) (v := (.double (al pj))) (nn_of bpj.1) (al_at3 (in3_of bpj.1 bpj.2)) (hb hby d7_13) (pc' := 14) rfl ?_
    obtain ⟨v14, q14⟩ : ∃ zz : Int32, cmpValue (FP.dcmp (al q) (al pj)) .l = zz := ⟨_, rfl⟩
    refine g_dcmp hG X0 hx (hb hby d7_14) (pc' := 15) rfl q14 ?_
    refine g_ifYes hG X0 hx (hb hby d7_15) (pc' := 20) (by rw [← q14, c1]; rfl) (by decide) (by decide) ?_
    refine g_aloadN hG X0 hx (hb hby d7_20) (pc' := 21) rfl rfl rfl ?_
    refine g_iloadN hG X0 hx (hb hby d7_21) (pc' := 22) rfl rfl ?_
    refine g_daload hG X0 hx hZ e0 V_a (j := q) (v := (.double (al q))) (nn_of bq.1) (al_at3 (in3_of bq.1 bq.2)) (hb hby d7_22) (pc' := 23) rfl ?_
    refine g_aloadN hG X0 hx (hb hby d7_23) (pc' := 24) rfl rfl rfl ?_
    refine g_iloadN hG X0 hx (hb hby d7_24) (pc' := 25) rfl rfl ?_
    refine g_daload hG X0 hx hZ e0 V_a (j := pj) (v := (.double (al pj))) (nn_of bpj.1) (al_at3 (in3_of bpj.1 bpj.2)) (hb hby d7_25) (pc' := 26) rfl ?_
    obtain ⟨v26, q26⟩ : ∃ zz : Int32, cmpValue (FP.dcmp (al q) (al pj)) .l = zz := ⟨_, rfl⟩
    refine g_dcmp hG X0 hx (hb hby d7_26) (pc' := 27) rfl q26 ?_
    refine g_ifNo hG X0 hx (hb hby d7_27) (pc' := 30) (by rw [← q26, c1]; rfl) rfl ?_
    refine g_iloadN hG X0 hx (hb hby d7_30) (pc' := 31) rfl rfl ?_
    refine g_iloadN hG X0 hx (hb hby d7_31) (pc' := 32) rfl rfl ?_
    refine g_icmpNo hG X0 hx (hb hby d7_32) (pc' := 35) ((tlt c2).2.1) rfl ?_
    refine g_iconst hG X0 hx (hb hby d7_35) (pc' := 36) rfl (v := (1 : Int32)) rfl ?_
    exact e_retI hGe X0 hx hrt hlk (hb hby d7_36) e0 (by decide) (by decide) (⟨by rw [hr], NF0, rfl⟩)
  · skip
    refine g_iloadN hG X0 hx (hb hby d7_0) (pc' := 1) rfl rfl ?_
    refine g_aloadN hG X0 hx (hb hby d7_1) (pc' := 2) rfl rfl rfl ?_
    refine g_arraylength hG X0 hx hZ e0 V_a (hb hby d7_2) (pc' := 3) rfl ?_
    refine g_icmpYes hG X0 hx (hb hby d7_3) (pc' := 8) ((tlt (Int32.lt_iff_toInt_lt.mpr (by rw [show (3 : Int32).toInt = 3 by decide]; exact bq.2))).1) (by decide) (by decide) ?_
    refine g_aloadN hG X0 hx (hb hby d7_8) (pc' := 9) rfl rfl rfl ?_
    refine g_iloadN hG X0 hx (hb hby d7_9) (pc' := 10) rfl rfl ?_
    refine g_daload hG X0 hx hZ e0 V_a (j := q) (v := (.double (al q))) (nn_of bq.1) (al_at3 (in3_of bq.1 bq.2)) (hb hby d7_10) (pc' := 11) rfl ?_
    refine g_aloadN hG X0 hx (hb hby d7_11) (pc' := 12) rfl rfl rfl ?_
    refine g_iloadN hG X0 hx (hb hby d7_12) (pc' := 13) rfl rfl ?_
    refine g_daload hG X0 hx hZ e0 V_a (j := pj) (v := (.double (al pj))) (nn_of bpj.1) (al_at3 (in3_of bpj.1 bpj.2)) (hb hby d7_13) (pc' := 14) rfl ?_
    obtain ⟨v14, q14⟩ : ∃ zz : Int32, cmpValue (FP.dcmp (al q) (al pj)) .l = zz := ⟨_, rfl⟩
    refine g_dcmp hG X0 hx (hb hby d7_14) (pc' := 15) rfl q14 ?_
    refine g_ifYes hG X0 hx (hb hby d7_15) (pc' := 20) (by rw [← q14, c1]; rfl) (by decide) (by decide) ?_
    refine g_aloadN hG X0 hx (hb hby d7_20) (pc' := 21) rfl rfl rfl ?_
    refine g_iloadN hG X0 hx (hb hby d7_21) (pc' := 22) rfl rfl ?_
    refine g_daload hG X0 hx hZ e0 V_a (j := q) (v := (.double (al q))) (nn_of bq.1) (al_at3 (in3_of bq.1 bq.2)) (hb hby d7_22) (pc' := 23) rfl ?_
    refine g_aloadN hG X0 hx (hb hby d7_23) (pc' := 24) rfl rfl rfl ?_
    refine g_iloadN hG X0 hx (hb hby d7_24) (pc' := 25) rfl rfl ?_
    refine g_daload hG X0 hx hZ e0 V_a (j := pj) (v := (.double (al pj))) (nn_of bpj.1) (al_at3 (in3_of bpj.1 bpj.2)) (hb hby d7_25) (pc' := 26) rfl ?_
    obtain ⟨v26, q26⟩ : ∃ zz : Int32, cmpValue (FP.dcmp (al q) (al pj)) .l = zz := ⟨_, rfl⟩
    refine g_dcmp hG X0 hx (hb hby d7_26) (pc' := 27) rfl q26 ?_
    refine g_ifNo hG X0 hx (hb hby d7_27) (pc' := 30) (by rw [← q26, c1]; rfl) rfl ?_
    refine g_iloadN hG X0 hx (hb hby d7_30) (pc' := 31) rfl rfl ?_
    refine g_iloadN hG X0 hx (hb hby d7_31) (pc' := 32) rfl rfl ?_
    refine g_icmpYes hG X0 hx (hb hby d7_32) (pc' := 37) ((flt c2).2.1) (by decide) (by decide) ?_
    refine g_iconst hG X0 hx (hb hby d7_37) (pc' := 38) rfl (v := (0 : Int32)) rfl ?_
    exact e_retI hGe X0 hx hrt hlk (hb hby d7_38) e0 (by decide) (by decide) (⟨by rw [hr], NF0, rfl⟩)
  · skip
    refine g_iloadN hG X0 hx (hb hby d7_0) (pc' := 1) rfl rfl ?_
    refine g_aloadN hG X0 hx (hb hby d7_1) (pc' := 2) rfl rfl rfl ?_
    refine g_arraylength hG X0 hx hZ e0 V_a (hb hby d7_2) (pc' := 3) rfl ?_
    refine g_icmpYes hG X0 hx (hb hby d7_3) (pc' := 8) ((tlt (Int32.lt_iff_toInt_lt.mpr (by rw [show (3 : Int32).toInt = 3 by decide]; exact bq.2))).1) (by decide) (by decide) ?_
    refine g_aloadN hG X0 hx (hb hby d7_8) (pc' := 9) rfl rfl rfl ?_
    refine g_iloadN hG X0 hx (hb hby d7_9) (pc' := 10) rfl rfl ?_
    refine g_daload hG X0 hx hZ e0 V_a (j := q) (v := (.double (al q))) (nn_of bq.1) (al_at3 (in3_of bq.1 bq.2)) (hb hby d7_10) (pc' := 11) rfl ?_
    refine g_aloadN hG X0 hx (hb hby d7_11) (pc' := 12) rfl rfl rfl ?_
    refine g_iloadN hG X0 hx (hb hby d7_12) (pc' := 13) rfl rfl ?_
    refine g_daload hG X0 hx hZ e0 V_a (j := pj) (v := (.double (al pj))) (nn_of bpj.1) (al_at3 (in3_of bpj.1 bpj.2)) (hb hby d7_13) (pc' := 14) rfl ?_
    obtain ⟨v14, q14⟩ : ∃ zz : Int32, cmpValue (FP.dcmp (al q) (al pj)) .l = zz := ⟨_, rfl⟩
    refine g_dcmp hG X0 hx (hb hby d7_14) (pc' := 15) rfl q14 ?_
    refine g_ifYes hG X0 hx (hb hby d7_15) (pc' := 20) (by rw [← q14, c1]; rfl) (by decide) (by decide) ?_
    refine g_aloadN hG X0 hx (hb hby d7_20) (pc' := 21) rfl rfl rfl ?_
    refine g_iloadN hG X0 hx (hb hby d7_21) (pc' := 22) rfl rfl ?_
    refine g_daload hG X0 hx hZ e0 V_a (j := q) (v := (.double (al q))) (nn_of bq.1) (al_at3 (in3_of bq.1 bq.2)) (hb hby d7_22) (pc' := 23) rfl ?_
    refine g_aloadN hG X0 hx (hb hby d7_23) (pc' := 24) rfl rfl rfl ?_
    refine g_iloadN hG X0 hx (hb hby d7_24) (pc' := 25) rfl rfl ?_
    refine g_daload hG X0 hx hZ e0 V_a (j := pj) (v := (.double (al pj))) (nn_of bpj.1) (al_at3 (in3_of bpj.1 bpj.2)) (hb hby d7_25) (pc' := 26) rfl ?_
    obtain ⟨v26, q26⟩ : ∃ zz : Int32, cmpValue (FP.dcmp (al q) (al pj)) .l = zz := ⟨_, rfl⟩
    refine g_dcmp hG X0 hx (hb hby d7_26) (pc' := 27) rfl q26 ?_
    refine g_ifYes hG X0 hx (hb hby d7_27) (pc' := 37) (by rw [← q26, c1]; rfl) (by decide) (by decide) ?_
    refine g_iconst hG X0 hx (hb hby d7_37) (pc' := 38) rfl (v := (0 : Int32)) rfl ?_
    exact e_retI hGe X0 hx hrt hlk (hb hby d7_38) e0 (by decide) (by decide) (⟨by rw [hr], NF0, rfl⟩)

def Q_rmBz3 (Z : State) (a : Addr) (al : Int32 → UInt64) (q pj : Int32) (h0 : Heap) (n0 : Nat) (v : Option Value) (h : Heap) (L : List Loc) : Prop := v = some (.int 0) ∧ Fr n0 L ∧ h = h0
set_option maxRecDepth 65536 in
set_option maxHeartbeats 40000000 in
theorem rmBz3 (l : Launch) (Z : State) (a0 : Array Value) (hw : ∀ d ∈ tables_1, d.before a0 Z = true) (ws : List Jvm.Cond) (a : Addr) (al : Int32 → UInt64) (q pj : Int32) (h0 : Heap) (n0 : Nat) (Zs : n0 ≤ h0.size) (V_a : AV Z h0 a .double (3 : Int32) [(.double (al (0 : Int32))), (.double (al (1 : Int32))), (.double (al (2 : Int32)))]) (hq : ¬ q < (3 : Int32)) :
    Con l (⟨"com/example/gauge_terms/gaugeterms/TopValuesPositionsPinLaw", "beats", "([DII)I"⟩ : MethodName) method_3_code 3 (some .int) ws ({ frames := 0, cells := 0, slots := 0, locals := 0 } : Room) Z #[(.ref a), (.int q), (.int pj)] h0 ({ frames := 0, cells := 0, slots := 0, locals := 0 } : Room).cells ({ frames := 0, cells := 0, slots := 0, locals := 0 } : Room).slots (Q_rmBz3 Z a al q pj h0 n0) := by
  refine Con.of (Ls := #[.val (.ref a), .val (.int q), .val (.int pj)]) (plainFor_of_name (by first | (simp [plainName, overriddenIn]; done) | decide +kernel)) (fun m => by first | (simp [entryFrame, mkF, argsToLocals, Value.category]; done) | rfl) ?_
  intro p e s m below meth c s₁ G hGe hG hx hby hml hown hnm hrt hlk hZ X0 e0
  have hown : s.vm.findClass "com/example/gauge_terms/gaugeterms/TopValuesPositionsPinLaw" = some m.cls := hown
  have hnm : meth.name = "beats" := hnm
  have NF0 := Fr.nil n0
  refine g_iloadN hG X0 hx (hb hby d7_0) (pc' := 1) rfl rfl ?_
  show G (s₁.setTop (mkF m 1 #[.val (.ref a), .val (.int q), .val (.int pj)] [(.int q)]))
  refine g_aloadN hG X0 hx (hb hby d7_1) (pc' := 2) rfl rfl rfl ?_
  show G (s₁.setTop (mkF m 2 #[.val (.ref a), .val (.int q), .val (.int pj)] [(.ref a), (.int q)]))
  refine g_arraylength hG X0 hx hZ e0 V_a (hb hby d7_2) (pc' := 3) rfl ?_
  show G (s₁.setTop (mkF m 3 #[.val (.ref a), .val (.int q), .val (.int pj)] [(.int 3), (.int q)]))
  refine g_icmpNo hG X0 hx (hb hby d7_3) (pc' := 6) ((flt hq).1) rfl ?_
  show G (s₁.setTop (mkF m 6 #[.val (.ref a), .val (.int q), .val (.int pj)] []))
  refine g_iconst hG X0 hx (hb hby d7_6) (pc' := 7) rfl (v := (0 : Int32)) rfl ?_
  show G (s₁.setTop (mkF m 7 #[.val (.ref a), .val (.int q), .val (.int pj)] [(.int 0)]))
  exact e_retI hGe X0 hx hrt hlk (hb hby d7_7) e0 (by decide) (by decide) (⟨rfl, NF0, rfl⟩)

def Q_rmRk3 (Z : State) (a : Addr) (al : Int32 → UInt64) (bt : Int32 → Int32 → Bool) (pj z : Int32) (h0 : Heap) (n0 : Nat) (v : Option Value) (h : Heap) (L : List Loc) : Prop := v = some (.int z) ∧ Fr n0 L ∧ h = h0
set_option maxRecDepth 65536 in
set_option maxHeartbeats 40000000 in
theorem rmRk3 (l : Launch) (Z : State) (a0 : Array Value) (hw : ∀ d ∈ tables_1, d.before a0 Z = true) (ws : List Jvm.Cond) (a : Addr) (al : Int32 → UInt64) (bt : Int32 → Int32 → Bool) (pj z : Int32) (h0 : Heap) (n0 : Nat) (Zs : n0 ≤ h0.size) (V_a : AV Z h0 a .double (3 : Int32) [(.double (al (0 : Int32))), (.double (al (1 : Int32))), (.double (al (2 : Int32)))]) (bpj : 0 ≤ pj.toInt ∧ pj.toInt < 3) (BT : ∀ x y, In4 x → In4 y → BtR al x y (bi bt x y)) (hz : rk3 bt pj = z) :
    Con l (⟨"com/example/gauge_terms/gaugeterms/TopValuesPositionsPinLaw", "rank", "([DI)I"⟩ : MethodName) method_4_code 2 (some .int) ws ({ frames := 1, cells := 0, slots := 0, locals := 24 } : Room) Z #[(.ref a), (.int pj)] h0 ({ frames := 1, cells := 0, slots := 0, locals := 24 } : Room).cells ({ frames := 1, cells := 0, slots := 0, locals := 24 } : Room).slots (Q_rmRk3 Z a al bt pj z h0 n0) := by
  refine Con.of (Ls := #[.val (.ref a), .val (.int pj)]) (plainFor_of_name (by first | (simp [plainName, overriddenIn]; done) | decide +kernel)) (fun m => by first | (simp [entryFrame, mkF, argsToLocals, Value.category]; done) | rfl) ?_
  intro p e s m below meth c s₁ G hGe hG hx hby hml hown hnm hrt hlk hZ X0 e0
  have hown : s.vm.findClass "com/example/gauge_terms/gaugeterms/TopValuesPositionsPinLaw" = some m.cls := hown
  have hnm : meth.name = "rank" := hnm
  have NF0 := Fr.nil n0
  refine g_aloadN hG X0 hx (hb hby d6_0) (pc' := 1) rfl rfl rfl ?_
  refine g_iconst hG X0 hx (hb hby d6_1) (pc' := 2) rfl (v := (0 : Int32)) rfl ?_
  refine g_iloadN hG X0 hx (hb hby d6_2) (pc' := 3) rfl rfl ?_
  refine g_callS hG X0 hx hZ (y := (⟨"com/example/gauge_terms/gaugeterms/TopValuesPositionsPinLaw", "beats", "([DII)I"⟩ : MethodName)) 0 hown (wd hw 29 rfl) (wd hw 30 rfl) (wd hw 3 rfl) (wd hw 31 rfl) (by decide) (rmBe3 l Z a0 hw [] a al (0 : Int32) pj (bi bt (0 : Int32) pj) h0 n0 Zs V_a (by decide) bpj (BT (0 : Int32) pj (by decide) (in4_of bpj.1 (by omega)))) (by decide) (by decide) (by rw [hml]; rfl) pd_1 rfl (argsL := [(.ref a), (.int 0), (.int pj)]) (rest := []) rfl rfl (Nat.le_of_eq rfl) (hb hby d6_3) e0 (by decide) (by decide) (pc' := 6) rfl ?_
  intro T1 rv1 L1 X1 hQ1
  obtain ⟨rfl, Nq1, eh1⟩ := hQ1
  have NF1 := Fr.app NF0 Nq1
  show G (T1.setTop (mkF m 6 _ [(.int (bi bt (0 : Int32) pj))]))
  refine g_aloadN hG X1 hx (hb hby d6_6) (pc' := 7) rfl rfl rfl ?_
  refine g_iconst hG X1 hx (hb hby d6_7) (pc' := 8) rfl (v := (1 : Int32)) rfl ?_
  refine g_iloadN hG X1 hx (hb hby d6_8) (pc' := 9) rfl rfl ?_
  refine g_callS hG X1 hx hZ (y := (⟨"com/example/gauge_terms/gaugeterms/TopValuesPositionsPinLaw", "beats", "([DII)I"⟩ : MethodName)) 1 hown (wd hw 29 rfl) (wd hw 30 rfl) (wd hw 3 rfl) (wd hw 31 rfl) (by decide) (rmBe3 l Z a0 hw [] a al (1 : Int32) pj (bi bt (1 : Int32) pj) h0 n0 Zs V_a (by decide) bpj (BT (1 : Int32) pj (by decide) (in4_of bpj.1 (by omega)))) (by decide) (by decide) (by rw [hml]; rfl) pd_1 rfl (argsL := [(.ref a), (.int 1), (.int pj)]) (rest := [(.int (bi bt (0 : Int32) pj))]) rfl rfl (Nat.le_of_eq rfl) (hb hby d6_9) eh1 (by decide) (by decide) (pc' := 12) rfl ?_
  intro T2 rv2 L2 X2 hQ2
  obtain ⟨rfl, Nq2, eh2⟩ := hQ2
  have NF2 := Fr.app NF1 Nq2
  show G (T2.setTop (mkF m 12 _ [(.int (bi bt (1 : Int32) pj)), (.int (bi bt (0 : Int32) pj))]))
  obtain ⟨v12, q12⟩ : ∃ zz : Int32, (bi bt (0 : Int32) pj) + (bi bt (1 : Int32) pj) = zz := ⟨_, rfl⟩
  refine g_iadd hG X2 hx (hb hby d6_12) (pc' := 13) rfl q12 ?_
  refine g_aloadN hG X2 hx (hb hby d6_13) (pc' := 14) rfl rfl rfl ?_
  refine g_iconst hG X2 hx (hb hby d6_14) (pc' := 15) rfl (v := (2 : Int32)) rfl ?_
  refine g_iloadN hG X2 hx (hb hby d6_15) (pc' := 16) rfl rfl ?_
  refine g_callS hG X2 hx hZ (y := (⟨"com/example/gauge_terms/gaugeterms/TopValuesPositionsPinLaw", "beats", "([DII)I"⟩ : MethodName)) 1 hown (wd hw 29 rfl) (wd hw 30 rfl) (wd hw 3 rfl) (wd hw 31 rfl) (by decide) (rmBe3 l Z a0 hw [] a al (2 : Int32) pj (bi bt (2 : Int32) pj) h0 n0 Zs V_a (by decide) bpj (BT (2 : Int32) pj (by decide) (in4_of bpj.1 (by omega)))) (by decide) (by decide) (by rw [hml]; rfl) pd_1 rfl (argsL := [(.ref a), (.int 2), (.int pj)]) (rest := [(.int v12)]) rfl rfl (Nat.le_of_eq rfl) (hb hby d6_16) eh2 (by decide) (by decide) (pc' := 19) rfl ?_
  intro T3 rv3 L3 X3 hQ3
  obtain ⟨rfl, Nq3, eh3⟩ := hQ3
  have NF3 := Fr.app NF2 Nq3
  show G (T3.setTop (mkF m 19 _ [(.int (bi bt (2 : Int32) pj)), (.int v12)]))
  obtain ⟨v19, q19⟩ : ∃ zz : Int32, v12 + (bi bt (2 : Int32) pj) = zz := ⟨_, rfl⟩
  refine g_iadd hG X3 hx (hb hby d6_19) (pc' := 20) rfl q19 ?_
  refine g_aloadN hG X3 hx (hb hby d6_20) (pc' := 21) rfl rfl rfl ?_
  refine g_iconst hG X3 hx (hb hby d6_21) (pc' := 22) rfl (v := (3 : Int32)) rfl ?_
  refine g_iloadN hG X3 hx (hb hby d6_22) (pc' := 23) rfl rfl ?_
  refine g_callS hG X3 hx hZ (y := (⟨"com/example/gauge_terms/gaugeterms/TopValuesPositionsPinLaw", "beats", "([DII)I"⟩ : MethodName)) 1 hown (wd hw 29 rfl) (wd hw 30 rfl) (wd hw 3 rfl) (wd hw 31 rfl) (by decide) (rmBz3 l Z a0 hw [] a al (3 : Int32) pj h0 n0 Zs V_a (by decide)) (by decide) (by decide) (by rw [hml]; rfl) pd_1 rfl (argsL := [(.ref a), (.int 3), (.int pj)]) (rest := [(.int v19)]) rfl rfl (Nat.le_of_eq rfl) (hb hby d6_23) eh3 (by decide) (by decide) (pc' := 26) rfl ?_
  intro T4 rv4 L4 X4 hQ4
  obtain ⟨rfl, Nq4, eh4⟩ := hQ4
  have NF4 := Fr.app NF3 Nq4
  show G (T4.setTop (mkF m 26 _ [(.int 0), (.int v19)]))
  obtain ⟨v26, q26⟩ : ∃ zz : Int32, v19 + (0 : Int32) = zz := ⟨_, rfl⟩
  refine g_iadd hG X4 hx (hb hby d6_26) (pc' := 27) rfl q26 ?_
  exact e_retI hGe X4 hx hrt hlk (hb hby d6_27) eh4 (by decide) (by decide) (⟨by rw [← hz]; unfold rk3; rw [q12, q19, q26], NF4, rfl⟩)

def Q_rmPos3_0 (Z : State) (a : Addr) (al : Int32 → UInt64) (b01 b02 b03 b12 b13 b23 : Bool) (lim r : Int64) (h0 : Heap) (n0 : Nat) (v : Option Value) (h : Heap) (L : List Loc) : Prop := ∃ (b : Addr), v = some (.ref b) ∧ Fr n0 L ∧ Keep h0 h [] ∧ h0.size ≤ b ∧ (AV Z h b .int (0 : Int32) []) ∧ tops (btB b01 b02 b03 b12 b13 b23) 3 0 [] = true
set_option maxRecDepth 65536 in
set_option maxHeartbeats 40000000 in
theorem rmPos3_0 (l : Launch) (Z : State) (a0 : Array Value) (hw : ∀ d ∈ tables_1, d.before a0 Z = true) (ws : List Jvm.Cond) (a : Addr) (al : Int32 → UInt64) (b01 b02 b03 b12 b13 b23 : Bool) (lim r : Int64) (h0 : Heap) (n0 : Nat) (Zs : n0 ≤ h0.size) (V_a : AV Z h0 a .double (3 : Int32) [(.double (al (0 : Int32))), (.double (al (1 : Int32))), (.double (al (2 : Int32)))]) (TR : trB b01 b02 b03 b12 b13 b23 = true) (BT : ∀ x y, In4 x → In4 y → BtR al x y (bi (btB b01 b02 b03 b12 b13 b23) x y)) (hm : (¬ (3 : Int32).toInt64 < lim ∧ r = lim) ∨ ((3 : Int32).toInt64 < lim ∧ r = (3 : Int32).toInt64)) (hk : r.toInt32 = (0 : Int32)) :
    Con l (⟨"com/example/gauge_terms/gaugeterms/TopValues", "positions", "([DJ)[I"⟩ : MethodName) prog_3_method_2_code 8 (some (.array .int)) ws ({ frames := 1, cells := 1, slots := 0, locals := 40 } : Room) Z #[(.ref a), (.long lim)] h0 ({ frames := 1, cells := 1, slots := 0, locals := 40 } : Room).cells ({ frames := 1, cells := 1, slots := 0, locals := 40 } : Room).slots (Q_rmPos3_0 Z a al b01 b02 b03 b12 b13 b23 lim r h0 n0) := by
  refine Con.of (Ls := #[.val (.ref a), .val (.long lim), .second, .unset, .unset, .unset, .unset, .unset]) (plainFor_of_name (by first | (simp [plainName, overriddenIn]; done) | decide +kernel)) (fun m => by first | (simp [entryFrame, mkF, argsToLocals, Value.category]; done) | rfl) ?_
  intro p e s m below meth c s₁ G hGe hG hx hby hml hown hnm hrt hlk hZ X0 e0
  have hown : s.vm.findClass "com/example/gauge_terms/gaugeterms/TopValues" = some m.cls := hown
  have hnm : meth.name = "positions" := hnm
  have NF0 := Fr.nil n0
  have K0 := Keep.refl h0 ([] : List Addr)
  have HT0 : tops (btB b01 b02 b03 b12 b13 b23) 0 0 [] = true := rfl
  refine g_lloadN hG X0 hx (hb hby d3_0) (pc' := 1) rfl rfl ?_
  refine g_aloadN hG X0 hx (hb hby d3_1) (pc' := 2) rfl rfl rfl ?_
  refine g_arraylength hG X0 hx hZ e0 V_a (hb hby d3_2) (pc' := 3) rfl ?_
  obtain ⟨v3, q3⟩ : ∃ zz : Int64, (3 : Int32).toInt64 = zz := ⟨_, rfl⟩
  refine g_i2l hG X0 hx (hb hby d3_3) (pc' := 4) rfl q3 ?_
  refine g_callS hG X0 hx hZ (y := (⟨"java/lang/Math", "min", "(JJ)J"⟩ : MethodName)) 0 hown (wd hw 14 rfl) (wd hw 7 rfl) (wd hw 8 rfl) (wd hw 9 rfl) (by decide) (rmMJ l Z a0 hw [] lim v3 r h0 n0 Zs (q3 ▸ hm)) (by decide) (by decide) (by rw [hml]; rfl) pd_0 rfl (argsL := [(.long lim), (.long v3)]) (rest := []) rfl rfl (Nat.le_of_eq rfl) (hb hby d3_4) e0 (by decide) (by decide) (pc' := 7) rfl ?_
  intro T1 rv1 L1 X1 hQ1
  obtain ⟨rfl, Nq1, eh1⟩ := hQ1
  have NF1 := Fr.app NF0 Nq1
  show G (T1.setTop (mkF m 7 _ [(.long r)]))
  refine g_l2i hG X1 hx (hb hby d3_7) (pc' := 8) rfl hk ?_
  refine g_newP hG X1 hx hZ (wd hw 15 rfl) eh1 (hb hby d3_8) (by decide) 0 (by decide) (by decide) (by decide) (by decide) (pc' := 10) rfl ?_
  intro T2 h2 ids kA2 gs2 X2 e2 E2 A2
  have ne_a_ids : a ≠ ids := Nat.ne_of_lt (gs2 ▸ V_a.lt)
  have ge_ids : n0 ≤ ids := gs2 ▸ Zs
  have sz_ids : h0.size ≤ ids := gs2 ▸ K0.1
  have Zs := Nat.le_trans Zs E2.1
  have V_a := V_a.ext E2
  have K2 := K0.ext E2
  have V_ids : AV Z h2 ids .int (0 : Int32) [] := AV.new A2
  refine g_astoreN hG X2 hx (hb hby d3_10) (pc' := 11) rfl rfl (Ls' := #[.val (.ref a), .val (.long lim), .second, .val (.ref ids), .unset, .unset, .unset, .unset]) rfl ?_
  refine g_iconst hG X2 hx (hb hby d3_11) (pc' := 12) rfl (v := (0 : Int32)) rfl ?_
  refine g_istore hG X2 hx (hb hby d3_12) (pc' := 14) rfl (Ls' := #[.val (.ref a), .val (.long lim), .second, .val (.ref ids), .val (.int 0), .unset, .unset, .unset]) rfl ?_
  refine g_iconst hG X2 hx (hb hby d3_14) (pc' := 15) rfl (v := (0 : Int32)) rfl ?_
  refine g_istore hG X2 hx (hb hby d3_15) (pc' := 17) rfl (Ls' := #[.val (.ref a), .val (.long lim), .second, .val (.ref ids), .val (.int 0), .val (.int 0), .unset, .unset]) rfl ?_
  have J1 : ∀ (Tj3 : State) (hj3 : Heap) (Lj3 : List Loc)  (w6 : Int32), Stand p l e ({ frames := 1, cells := 1, slots := 0, locals := 40 } : Room) s m #[(.ref a), (.long lim)] below meth c Tj3 Lj3 1 0 → Tj3.heap = hj3 → Fr n0 Lj3 → n0 ≤ hj3.size → Keep h0 hj3 [] → AV Z hj3 a .double (3 : Int32) [(.double (al (0 : Int32))), (.double (al (1 : Int32))), (.double (al (2 : Int32)))] → AV Z hj3 ids .int (0 : Int32) [] → tops (btB b01 b02 b03 b12 b13 b23) 1 0 [] = true → G (Tj3.setTop (mkF m 17 #[.val (.ref a), .val (.long lim), .second, .val (.ref ids), .val (.int 0), .val (.int 1), .val (.int w6), .unset] [])) := by
    intro Tj3 hj3 Lj3  w6  Xj3 ej3 NFj3 Zs Kj3 V_a V_ids HT1
    have J2 : ∀ (Tj4 : State) (hj4 : Heap) (Lj4 : List Loc)  (w6 : Int32), Stand p l e ({ frames := 1, cells := 1, slots := 0, locals := 40 } : Room) s m #[(.ref a), (.long lim)] below meth c Tj4 Lj4 1 0 → Tj4.heap = hj4 → Fr n0 Lj4 → n0 ≤ hj4.size → Keep h0 hj4 [] → AV Z hj4 a .double (3 : Int32) [(.double (al (0 : Int32))), (.double (al (1 : Int32))), (.double (al (2 : Int32)))] → AV Z hj4 ids .int (0 : Int32) [] → tops (btB b01 b02 b03 b12 b13 b23) 2 0 [] = true → G (Tj4.setTop (mkF m 17 #[.val (.ref a), .val (.long lim), .second, .val (.ref ids), .val (.int 0), .val (.int 2), .val (.int w6), .unset] [])) := by
      intro Tj4 hj4 Lj4  w6  Xj4 ej4 NFj4 Zs Kj4 V_a V_ids HT2
      have J3 : ∀ (Tj5 : State) (hj5 : Heap) (Lj5 : List Loc)  (w6 : Int32), Stand p l e ({ frames := 1, cells := 1, slots := 0, locals := 40 } : Room) s m #[(.ref a), (.long lim)] below meth c Tj5 Lj5 1 0 → Tj5.heap = hj5 → Fr n0 Lj5 → n0 ≤ hj5.size → Keep h0 hj5 [] → AV Z hj5 a .double (3 : Int32) [(.double (al (0 : Int32))), (.double (al (1 : Int32))), (.double (al (2 : Int32)))] → AV Z hj5 ids .int (0 : Int32) [] → tops (btB b01 b02 b03 b12 b13 b23) 3 0 [] = true → G (Tj5.setTop (mkF m 17 #[.val (.ref a), .val (.long lim), .second, .val (.ref ids), .val (.int 0), .val (.int 3), .val (.int w6), .unset] [])) := by
        intro Tj5 hj5 Lj5  w6  Xj5 ej5 NFj5 Zs Kj5 V_a V_ids HT3
        refine g_iload hG Xj5 hx (hb hby d3_17) (pc' := 19) rfl rfl ?_
        refine g_aloadN hG Xj5 hx (hb hby d3_19) (pc' := 20) rfl rfl rfl ?_
        refine g_arraylength hG Xj5 hx hZ ej5 V_a (hb hby d3_20) (pc' := 21) rfl ?_
        refine g_icmpYes hG Xj5 hx (hb hby d3_21) (pc' := 112) (by decide) (by decide) (by decide) ?_
        refine g_aloadN hG Xj5 hx (hb hby d3_112) (pc' := 113) rfl rfl rfl ?_
        exact e_retA hGe Xj5 hx hrt rfl hlk (hb hby d3_113) ej5 (by decide) (by decide) (⟨ids,  rfl, NFj5, Kj5, sz_ids, V_ids, HT3⟩)
      refine g_iload hG Xj4 hx (hb hby d3_17) (pc' := 19) rfl rfl ?_
      refine g_aloadN hG Xj4 hx (hb hby d3_19) (pc' := 20) rfl rfl rfl ?_
      refine g_arraylength hG Xj4 hx hZ ej4 V_a (hb hby d3_20) (pc' := 21) rfl ?_
      refine g_icmpNo hG Xj4 hx (hb hby d3_21) (pc' := 24) (by decide) rfl ?_
      refine g_iload hG Xj4 hx (hb hby d3_24) (pc' := 26) rfl rfl ?_
      refine g_istore hG Xj4 hx (hb hby d3_26) (pc' := 28) rfl (Ls' := #[.val (.ref a), .val (.long lim), .second, .val (.ref ids), .val (.int 0), .val (.int 2), .val (.int 0), .unset]) rfl ?_
      refine g_iload hG Xj4 hx (hb hby d3_28) (pc' := 30) rfl rfl ?_
      refine g_ifYes hG Xj4 hx (hb hby d3_30) (pc' := 55) (by decide) (by decide) (by decide) ?_
      refine g_iload hG Xj4 hx (hb hby d3_55) (pc' := 57) rfl rfl ?_
      refine g_aloadN hG Xj4 hx (hb hby d3_57) (pc' := 58) rfl rfl rfl ?_
      refine g_arraylength hG Xj4 hx hZ ej4 V_ids (hb hby d3_58) (pc' := 59) rfl ?_
      refine g_icmpYes hG Xj4 hx (hb hby d3_59) (pc' := 106) (by decide) (by decide) (by decide) ?_
      refine g_iinc hG Xj4 hx (hb hby d3_106) (pc' := 109) rfl rfl (v := (3 : Int32)) (by decide) (Ls' := #[.val (.ref a), .val (.long lim), .second, .val (.ref ids), .val (.int 0), .val (.int 3), .val (.int 0), .unset]) rfl ?_
      refine g_goto hG Xj4 hx (hb hby d3_109) (pc' := 17) (by decide) (by decide) ?_
      exact J3 _ _ _ (0 : Int32) Xj4 ej4 NFj4 Zs Kj4 V_a V_ids (st_2_0_0_0 b01 b02 b03 b12 b13 b23  TR HT2 )
    refine g_iload hG Xj3 hx (hb hby d3_17) (pc' := 19) rfl rfl ?_
    refine g_aloadN hG Xj3 hx (hb hby d3_19) (pc' := 20) rfl rfl rfl ?_
    refine g_arraylength hG Xj3 hx hZ ej3 V_a (hb hby d3_20) (pc' := 21) rfl ?_
    refine g_icmpNo hG Xj3 hx (hb hby d3_21) (pc' := 24) (by decide) rfl ?_
    refine g_iload hG Xj3 hx (hb hby d3_24) (pc' := 26) rfl rfl ?_
    refine g_istore hG Xj3 hx (hb hby d3_26) (pc' := 28) rfl (Ls' := #[.val (.ref a), .val (.long lim), .second, .val (.ref ids), .val (.int 0), .val (.int 1), .val (.int 0), .unset]) rfl ?_
    refine g_iload hG Xj3 hx (hb hby d3_28) (pc' := 30) rfl rfl ?_
    refine g_ifYes hG Xj3 hx (hb hby d3_30) (pc' := 55) (by decide) (by decide) (by decide) ?_
    refine g_iload hG Xj3 hx (hb hby d3_55) (pc' := 57) rfl rfl ?_
    refine g_aloadN hG Xj3 hx (hb hby d3_57) (pc' := 58) rfl rfl rfl ?_
    refine g_arraylength hG Xj3 hx hZ ej3 V_ids (hb hby d3_58) (pc' := 59) rfl ?_
    refine g_icmpYes hG Xj3 hx (hb hby d3_59) (pc' := 106) (by decide) (by decide) (by decide) ?_
    refine g_iinc hG Xj3 hx (hb hby d3_106) (pc' := 109) rfl rfl (v := (2 : Int32)) (by decide) (Ls' := #[.val (.ref a), .val (.long lim), .second, .val (.ref ids), .val (.int 0), .val (.int 2), .val (.int 0), .unset]) rfl ?_
    refine g_goto hG Xj3 hx (hb hby d3_109) (pc' := 17) (by decide) (by decide) ?_
    exact J2 _ _ _ (0 : Int32) Xj3 ej3 NFj3 Zs Kj3 V_a V_ids (st_1_0_0_0 b01 b02 b03 b12 b13 b23  TR HT1 )
  refine g_iload hG X2 hx (hb hby d3_17) (pc' := 19) rfl rfl ?_
  refine g_aloadN hG X2 hx (hb hby d3_19) (pc' := 20) rfl rfl rfl ?_
  refine g_arraylength hG X2 hx hZ e2 V_a (hb hby d3_20) (pc' := 21) rfl ?_
  refine g_icmpNo hG X2 hx (hb hby d3_21) (pc' := 24) (by decide) rfl ?_
  refine g_iload hG X2 hx (hb hby d3_24) (pc' := 26) rfl rfl ?_
  refine g_istore hG X2 hx (hb hby d3_26) (pc' := 28) rfl (Ls' := #[.val (.ref a), .val (.long lim), .second, .val (.ref ids), .val (.int 0), .val (.int 0), .val (.int 0), .unset]) rfl ?_
  refine g_iload hG X2 hx (hb hby d3_28) (pc' := 30) rfl rfl ?_
  refine g_ifYes hG X2 hx (hb hby d3_30) (pc' := 55) (by decide) (by decide) (by decide) ?_
  refine g_iload hG X2 hx (hb hby d3_55) (pc' := 57) rfl rfl ?_
  refine g_aloadN hG X2 hx (hb hby d3_57) (pc' := 58) rfl rfl rfl ?_
  refine g_arraylength hG X2 hx hZ e2 V_ids (hb hby d3_58) (pc' := 59) rfl ?_
  refine g_icmpYes hG X2 hx (hb hby d3_59) (pc' := 106) (by decide) (by decide) (by decide) ?_
  refine g_iinc hG X2 hx (hb hby d3_106) (pc' := 109) rfl rfl (v := (1 : Int32)) (by decide) (Ls' := #[.val (.ref a), .val (.long lim), .second, .val (.ref ids), .val (.int 0), .val (.int 1), .val (.int 0), .unset]) rfl ?_
  refine g_goto hG X2 hx (hb hby d3_109) (pc' := 17) (by decide) (by decide) ?_
  exact J1 _ _ _ (0 : Int32) X2 e2 NF1 Zs K2 V_a V_ids (st_0_0_0_0 b01 b02 b03 b12 b13 b23  TR HT0 )

def Q_rmCk3_1_0 (Z : State) (a ids : Addr) (al : Int32 → UInt64) (bt : Int32 → Int32 → Bool) (p0 : Int32) (h0 : Heap) (n0 : Nat) (v : Option Value) (h : Heap) (L : List Loc) : Prop := v = some (.int 1) ∧ Fr n0 L ∧ h = h0
set_option maxRecDepth 65536 in
set_option maxHeartbeats 40000000 in
theorem rmCk3_1_0 (l : Launch) (Z : State) (a0 : Array Value) (hw : ∀ d ∈ tables_1, d.before a0 Z = true) (ws : List Jvm.Cond) (a ids : Addr) (al : Int32 → UInt64) (bt : Int32 → Int32 → Bool) (p0 : Int32) (h0 : Heap) (n0 : Nat) (Zs : n0 ≤ h0.size) (V_a : AV Z h0 a .double (3 : Int32) [(.double (al (0 : Int32))), (.double (al (1 : Int32))), (.double (al (2 : Int32)))]) (V_ids : AV Z h0 ids .int (1 : Int32) [(.int p0)]) (HT : tops bt 3 0 [p0] = true) (BT : ∀ x y, In4 x → In4 y → BtR al x y (bi bt x y)) :
    Con l (⟨"com/example/gauge_terms/gaugeterms/TopValuesPositionsPinLaw", "check", "([D[II)Z"⟩ : MethodName) method_5_code 4 (some .boolean) ws ({ frames := 2, cells := 0, slots := 0, locals := 56 } : Room) Z #[(.ref a), (.ref ids), (.int 0)] h0 ({ frames := 2, cells := 0, slots := 0, locals := 56 } : Room).cells ({ frames := 2, cells := 0, slots := 0, locals := 56 } : Room).slots (Q_rmCk3_1_0 Z a ids al bt p0 h0 n0) := by
  refine Con.of (Ls := #[.val (.ref a), .val (.ref ids), .val (.int 0), .unset]) (plainFor_of_name (by first | (simp [plainName, overriddenIn]; done) | decide +kernel)) (fun m => by first | (simp [entryFrame, mkF, argsToLocals, Value.category]; done) | rfl) ?_
  intro p e s m below meth c s₁ G hGe hG hx hby hml hown hnm hrt hlk hZ X0 e0
  have hown : s.vm.findClass "com/example/gauge_terms/gaugeterms/TopValuesPositionsPinLaw" = some m.cls := hown
  have hnm : meth.name = "check" := hnm
  have NF0 := Fr.nil n0
  have bj : 0 ≤ p0.toInt ∧ p0.toInt < 3 := tops_b HT p0 (by simp)
  have rj : rk3 bt p0 = (0 : Int32) := tops_r HT 0 p0 rfl
  refine g_iloadN hG X0 hx (hb hby d5_0) (pc' := 1) rfl rfl ?_
  refine g_aloadN hG X0 hx (hb hby d5_1) (pc' := 2) rfl rfl rfl ?_
  refine g_arraylength hG X0 hx hZ e0 V_ids (hb hby d5_2) (pc' := 3) rfl ?_
  refine g_icmpYes hG X0 hx (hb hby d5_3) (pc' := 8) (by decide) (by decide) (by decide) ?_
  refine g_aloadN hG X0 hx (hb hby d5_8) (pc' := 9) rfl rfl rfl ?_
  refine g_iloadN hG X0 hx (hb hby d5_9) (pc' := 10) rfl rfl ?_
  refine g_iaload hG X0 hx hZ e0 V_ids (j := (0 : Int32)) (v := (.int p0)) (by decide) rfl (hb hby d5_10) (pc' := 11) rfl ?_
  refine g_istoreN hG X0 hx (hb hby d5_11) (pc' := 12) rfl (Ls' := #[.val (.ref a), .val (.ref ids), .val (.int 0), .val (.int p0)]) rfl ?_
  refine g_iloadN hG X0 hx (hb hby d5_12) (pc' := 13) rfl rfl ?_
  refine g_ifNo hG X0 hx (hb hby d5_13) (pc' := 16) ((if0 _ _).trans (flt (nn_of bj.1)).1) rfl ?_
  refine g_iloadN hG X0 hx (hb hby d5_16) (pc' := 17) rfl rfl ?_
  refine g_aloadN hG X0 hx (hb hby d5_17) (pc' := 18) rfl rfl rfl ?_
  refine g_arraylength hG X0 hx hZ e0 V_a (hb hby d5_18) (pc' := 19) rfl ?_
  refine g_icmpYes hG X0 hx (hb hby d5_19) (pc' := 24) ((tlt (Int32.lt_iff_toInt_lt.mpr (by rw [show (3 : Int32).toInt = 3 by decide]; exact bj.2))).1) (by decide) (by decide) ?_
  refine g_aloadN hG X0 hx (hb hby d5_24) (pc' := 25) rfl rfl rfl ?_
  refine g_iloadN hG X0 hx (hb hby d5_25) (pc' := 26) rfl rfl ?_
  refine g_callS hG X0 hx hZ (y := (⟨"com/example/gauge_terms/gaugeterms/TopValuesPositionsPinLaw", "rank", "([DI)I"⟩ : MethodName)) 0 hown (wd hw 26 rfl) (wd hw 27 rfl) (wd hw 3 rfl) (wd hw 28 rfl) (by decide) (rmRk3 l Z a0 hw [] a al bt p0 (0 : Int32) h0 n0 Zs V_a bj BT rj) (by decide) (by decide) (by rw [hml]; rfl) pd_2 rfl (argsL := [(.ref a), (.int p0)]) (rest := []) rfl rfl (Nat.le_of_eq rfl) (hb hby d5_26) e0 (by decide) (by decide) (pc' := 29) rfl ?_
  intro T1 rv1 L1 X1 hQ1
  obtain ⟨rfl, Nq1, eh1⟩ := hQ1
  have NF1 := Fr.app NF0 Nq1
  show G (T1.setTop (mkF m 29 _ [(.int 0)]))
  refine g_iloadN hG X1 hx (hb hby d5_29) (pc' := 30) rfl rfl ?_
  refine g_icmpNo hG X1 hx (hb hby d5_30) (pc' := 33) (by decide) rfl ?_
  refine g_iconst hG X1 hx (hb hby d5_33) (pc' := 34) rfl (v := (1 : Int32)) rfl ?_
  refine g_goto hG X1 hx (hb hby d5_34) (pc' := 38) (by decide) (by decide) ?_
  exact e_retZ hGe X1 hx hrt hlk (hb hby d5_38) (Or.inr rfl) eh1 (by decide) (by decide) (⟨rfl, NF1, rfl⟩)

def Q_rmPos3_1 (Z : State) (a : Addr) (al : Int32 → UInt64) (b01 b02 b03 b12 b13 b23 : Bool) (lim r : Int64) (h0 : Heap) (n0 : Nat) (v : Option Value) (h : Heap) (L : List Loc) : Prop := ∃ (b : Addr) (p0 : Int32), v = some (.ref b) ∧ Fr n0 L ∧ Keep h0 h [] ∧ h0.size ≤ b ∧ (AV Z h b .int (1 : Int32) [(.int p0)]) ∧ tops (btB b01 b02 b03 b12 b13 b23) 3 0 [p0] = true
set_option maxRecDepth 65536 in
set_option maxHeartbeats 40000000 in
theorem rmPos3_1 (l : Launch) (Z : State) (a0 : Array Value) (hw : ∀ d ∈ tables_1, d.before a0 Z = true) (ws : List Jvm.Cond) (a : Addr) (al : Int32 → UInt64) (b01 b02 b03 b12 b13 b23 : Bool) (lim r : Int64) (h0 : Heap) (n0 : Nat) (Zs : n0 ≤ h0.size) (V_a : AV Z h0 a .double (3 : Int32) [(.double (al (0 : Int32))), (.double (al (1 : Int32))), (.double (al (2 : Int32)))]) (TR : trB b01 b02 b03 b12 b13 b23 = true) (BT : ∀ x y, In4 x → In4 y → BtR al x y (bi (btB b01 b02 b03 b12 b13 b23) x y)) (hm : (¬ (3 : Int32).toInt64 < lim ∧ r = lim) ∨ ((3 : Int32).toInt64 < lim ∧ r = (3 : Int32).toInt64)) (hk : r.toInt32 = (1 : Int32)) :
    Con l (⟨"com/example/gauge_terms/gaugeterms/TopValues", "positions", "([DJ)[I"⟩ : MethodName) prog_3_method_2_code 8 (some (.array .int)) ws ({ frames := 1, cells := 1, slots := 1, locals := 40 } : Room) Z #[(.ref a), (.long lim)] h0 ({ frames := 1, cells := 1, slots := 1, locals := 40 } : Room).cells ({ frames := 1, cells := 1, slots := 1, locals := 40 } : Room).slots (Q_rmPos3_1 Z a al b01 b02 b03 b12 b13 b23 lim r h0 n0) := by
  refine Con.of (Ls := #[.val (.ref a), .val (.long lim), .second, .unset, .unset, .unset, .unset, .unset]) (plainFor_of_name (by first | (simp [plainName, overriddenIn]; done) | decide +kernel)) (fun m => by first | (simp [entryFrame, mkF, argsToLocals, Value.category]; done) | rfl) ?_
  intro p e s m below meth c s₁ G hGe hG hx hby hml hown hnm hrt hlk hZ X0 e0
  have hown : s.vm.findClass "com/example/gauge_terms/gaugeterms/TopValues" = some m.cls := hown
  have hnm : meth.name = "positions" := hnm
  have NF0 := Fr.nil n0
  have K0 := Keep.refl h0 ([] : List Addr)
  have HT0 : tops (btB b01 b02 b03 b12 b13 b23) 0 0 [] = true := rfl
  refine g_lloadN hG X0 hx (hb hby d3_0) (pc' := 1) rfl rfl ?_
  refine g_aloadN hG X0 hx (hb hby d3_1) (pc' := 2) rfl rfl rfl ?_
  refine g_arraylength hG X0 hx hZ e0 V_a (hb hby d3_2) (pc' := 3) rfl ?_
  obtain ⟨v3, q3⟩ : ∃ zz : Int64, (3 : Int32).toInt64 = zz := ⟨_, rfl⟩
  refine g_i2l hG X0 hx (hb hby d3_3) (pc' := 4) rfl q3 ?_
  refine g_callS hG X0 hx hZ (y := (⟨"java/lang/Math", "min", "(JJ)J"⟩ : MethodName)) 0 hown (wd hw 14 rfl) (wd hw 7 rfl) (wd hw 8 rfl) (wd hw 9 rfl) (by decide) (rmMJ l Z a0 hw [] lim v3 r h0 n0 Zs (q3 ▸ hm)) (by decide) (by decide) (by rw [hml]; rfl) pd_0 rfl (argsL := [(.long lim), (.long v3)]) (rest := []) rfl rfl (Nat.le_of_eq rfl) (hb hby d3_4) e0 (by decide) (by decide) (pc' := 7) rfl ?_
  intro T1 rv1 L1 X1 hQ1
  obtain ⟨rfl, Nq1, eh1⟩ := hQ1
  have NF1 := Fr.app NF0 Nq1
  show G (T1.setTop (mkF m 7 _ [(.long r)]))
  refine g_l2i hG X1 hx (hb hby d3_7) (pc' := 8) rfl hk ?_
  refine g_newP hG X1 hx hZ (wd hw 15 rfl) eh1 (hb hby d3_8) (by decide) 1 (by decide) (by decide) (by decide) (by decide) (pc' := 10) rfl ?_
  intro T2 h2 ids kA2 gs2 X2 e2 E2 A2
  have ne_a_ids : a ≠ ids := Nat.ne_of_lt (gs2 ▸ V_a.lt)
  have ge_ids : n0 ≤ ids := gs2 ▸ Zs
  have sz_ids : h0.size ≤ ids := gs2 ▸ K0.1
  have Zs := Nat.le_trans Zs E2.1
  have V_a := V_a.ext E2
  have K2 := K0.ext E2
  have V_ids : AV Z h2 ids .int (1 : Int32) [(.int 0)] := AV.new A2
  refine g_astoreN hG X2 hx (hb hby d3_10) (pc' := 11) rfl rfl (Ls' := #[.val (.ref a), .val (.long lim), .second, .val (.ref ids), .unset, .unset, .unset, .unset]) rfl ?_
  refine g_iconst hG X2 hx (hb hby d3_11) (pc' := 12) rfl (v := (0 : Int32)) rfl ?_
  refine g_istore hG X2 hx (hb hby d3_12) (pc' := 14) rfl (Ls' := #[.val (.ref a), .val (.long lim), .second, .val (.ref ids), .val (.int 0), .unset, .unset, .unset]) rfl ?_
  refine g_iconst hG X2 hx (hb hby d3_14) (pc' := 15) rfl (v := (0 : Int32)) rfl ?_
  refine g_istore hG X2 hx (hb hby d3_15) (pc' := 17) rfl (Ls' := #[.val (.ref a), .val (.long lim), .second, .val (.ref ids), .val (.int 0), .val (.int 0), .unset, .unset]) rfl ?_
  have J1 : ∀ (Tj3 : State) (hj3 : Heap) (Lj3 : List Loc) (p0 : Int32) (w6 w7 : Int32), Stand p l e ({ frames := 1, cells := 1, slots := 1, locals := 40 } : Room) s m #[(.ref a), (.long lim)] below meth c Tj3 Lj3 1 1 → Tj3.heap = hj3 → Fr n0 Lj3 → n0 ≤ hj3.size → Keep h0 hj3 [] → AV Z hj3 a .double (3 : Int32) [(.double (al (0 : Int32))), (.double (al (1 : Int32))), (.double (al (2 : Int32)))] → AV Z hj3 ids .int (1 : Int32) [(.int p0)] → tops (btB b01 b02 b03 b12 b13 b23) 1 0 [p0] = true → G (Tj3.setTop (mkF m 17 #[.val (.ref a), .val (.long lim), .second, .val (.ref ids), .val (.int 1), .val (.int 1), .val (.int w6), .val (.int w7)] [])) := by
    intro Tj3 hj3 Lj3 p0 w6 w7 Xj3 ej3 NFj3 Zs Kj3 V_a V_ids HT1
    have bp0 : 0 ≤ p0.toInt ∧ p0.toInt < 1 := tops_b HT1 p0 (by simp)
    have J2 : ∀ (Tj4 : State) (hj4 : Heap) (Lj4 : List Loc) (p0 : Int32) (w6 w7 : Int32), Stand p l e ({ frames := 1, cells := 1, slots := 1, locals := 40 } : Room) s m #[(.ref a), (.long lim)] below meth c Tj4 Lj4 1 1 → Tj4.heap = hj4 → Fr n0 Lj4 → n0 ≤ hj4.size → Keep h0 hj4 [] → AV Z hj4 a .double (3 : Int32) [(.double (al (0 : Int32))), (.double (al (1 : Int32))), (.double (al (2 : Int32)))] → AV Z hj4 ids .int (1 : Int32) [(.int p0)] → tops (btB b01 b02 b03 b12 b13 b23) 2 0 [p0] = true → G (Tj4.setTop (mkF m 17 #[.val (.ref a), .val (.long lim), .second, .val (.ref ids), .val (.int 1), .val (.int 2), .val (.int w6), .val (.int w7)] [])) := by
      intro Tj4 hj4 Lj4 p0 w6 w7 Xj4 ej4 NFj4 Zs Kj4 V_a V_ids HT2
      have bp0 : 0 ≤ p0.toInt ∧ p0.toInt < 2 := tops_b HT2 p0 (by simp)
      have J3 : ∀ (Tj5 : State) (hj5 : Heap) (Lj5 : List Loc) (p0 : Int32) (w6 w7 : Int32), Stand p l e ({ frames := 1, cells := 1, slots := 1, locals := 40 } : Room) s m #[(.ref a), (.long lim)] below meth c Tj5 Lj5 1 1 → Tj5.heap = hj5 → Fr n0 Lj5 → n0 ≤ hj5.size → Keep h0 hj5 [] → AV Z hj5 a .double (3 : Int32) [(.double (al (0 : Int32))), (.double (al (1 : Int32))), (.double (al (2 : Int32)))] → AV Z hj5 ids .int (1 : Int32) [(.int p0)] → tops (btB b01 b02 b03 b12 b13 b23) 3 0 [p0] = true → G (Tj5.setTop (mkF m 17 #[.val (.ref a), .val (.long lim), .second, .val (.ref ids), .val (.int 1), .val (.int 3), .val (.int w6), .val (.int w7)] [])) := by
        intro Tj5 hj5 Lj5 p0 w6 w7 Xj5 ej5 NFj5 Zs Kj5 V_a V_ids HT3
        have bp0 : 0 ≤ p0.toInt ∧ p0.toInt < 3 := tops_b HT3 p0 (by simp)
        refine g_iload hG Xj5 hx (hb hby d3_17) (pc' := 19) rfl rfl ?_
        refine g_aloadN hG Xj5 hx (hb hby d3_19) (pc' := 20) rfl rfl rfl ?_
        refine g_arraylength hG Xj5 hx hZ ej5 V_a (hb hby d3_20) (pc' := 21) rfl ?_
        refine g_icmpYes hG Xj5 hx (hb hby d3_21) (pc' := 112) (by decide) (by decide) (by decide) ?_
        refine g_aloadN hG Xj5 hx (hb hby d3_112) (pc' := 113) rfl rfl rfl ?_
        exact e_retA hGe Xj5 hx hrt rfl hlk (hb hby d3_113) ej5 (by decide) (by decide) (⟨ids, p0,  rfl, NFj5, Kj5, sz_ids, V_ids, HT3⟩)
      refine g_iload hG Xj4 hx (hb hby d3_17) (pc' := 19) rfl rfl ?_
      refine g_aloadN hG Xj4 hx (hb hby d3_19) (pc' := 20) rfl rfl rfl ?_
      refine g_arraylength hG Xj4 hx hZ ej4 V_a (hb hby d3_20) (pc' := 21) rfl ?_
      refine g_icmpNo hG Xj4 hx (hb hby d3_21) (pc' := 24) (by decide) rfl ?_
      refine g_iload hG Xj4 hx (hb hby d3_24) (pc' := 26) rfl rfl ?_
      refine g_istore hG Xj4 hx (hb hby d3_26) (pc' := 28) rfl (Ls' := #[.val (.ref a), .val (.long lim), .second, .val (.ref ids), .val (.int 1), .val (.int 2), .val (.int 1), .val (.int w7)]) rfl ?_
      refine g_iload hG Xj4 hx (hb hby d3_28) (pc' := 30) rfl rfl ?_
      refine g_ifNo hG Xj4 hx (hb hby d3_30) (pc' := 33) (by decide) rfl ?_
      refine g_aloadN hG Xj4 hx (hb hby d3_33) (pc' := 34) rfl rfl rfl ?_
      refine g_iload hG Xj4 hx (hb hby d3_34) (pc' := 36) rfl rfl ?_
      refine g_daload hG Xj4 hx hZ ej4 V_a (j := (2 : Int32)) (v := (.double (al (2 : Int32)))) (by decide) rfl (hb hby d3_36) (pc' := 37) rfl ?_
      refine g_aloadN hG Xj4 hx (hb hby d3_37) (pc' := 38) rfl rfl rfl ?_
      refine g_aloadN hG Xj4 hx (hb hby d3_38) (pc' := 39) rfl rfl rfl ?_
      refine g_iload hG Xj4 hx (hb hby d3_39) (pc' := 41) rfl rfl ?_
      refine g_iconst hG Xj4 hx (hb hby d3_41) (pc' := 42) rfl (v := (1 : Int32)) rfl ?_
      refine g_isub hG Xj4 hx (hb hby d3_42) (pc' := 43) rfl (v := (0 : Int32)) (by decide) ?_
      refine g_iaload hG Xj4 hx hZ ej4 V_ids (j := (0 : Int32)) (v := (.int p0)) (by decide) rfl (hb hby d3_43) (pc' := 44) rfl ?_
      refine g_daload hG Xj4 hx hZ ej4 V_a (j := p0) (v := (.double (al p0))) (nn_of bp0.1) (al_at3 (in3_of bp0.1 (by omega))) (hb hby d3_44) (pc' := 45) rfl ?_
      obtain ⟨v45, q45⟩ : ∃ zz : Int32, cmpValue (FP.dcmp (al (2 : Int32)) (al p0)) .l = zz := ⟨_, rfl⟩
      refine g_dcmp hG Xj4 hx (hb hby d3_45) (pc' := 46) rfl q45 ?_
      by_cases g2_0 : (btB b01 b02 b03 b12 b13 b23) (2 : Int32) p0 = true
      · skip
        refine g_ifNo hG Xj4 hx (hb hby d3_46) (pc' := 49) (by rw [← q45, gt_yes (BT (2 : Int32) p0 (by decide) (in4_of bp0.1 (by omega))) (fun g => by have := Int32.lt_iff_toInt_lt.mp g; rw [show (2 : Int32).toInt = 2 by decide] at this; omega) g2_0]; rfl) rfl ?_
        refine g_iinc hG Xj4 hx (hb hby d3_49) (pc' := 52) rfl rfl (v := (0 : Int32)) (by decide) (Ls' := #[.val (.ref a), .val (.long lim), .second, .val (.ref ids), .val (.int 1), .val (.int 2), .val (.int 0), .val (.int w7)]) rfl ?_
        refine g_goto hG Xj4 hx (hb hby d3_52) (pc' := 28) (by decide) (by decide) ?_
        refine g_iload hG Xj4 hx (hb hby d3_28) (pc' := 30) rfl rfl ?_
        refine g_ifYes hG Xj4 hx (hb hby d3_30) (pc' := 55) (by decide) (by decide) (by decide) ?_
        refine g_iload hG Xj4 hx (hb hby d3_55) (pc' := 57) rfl rfl ?_
        refine g_aloadN hG Xj4 hx (hb hby d3_57) (pc' := 58) rfl rfl rfl ?_
        refine g_arraylength hG Xj4 hx hZ ej4 V_ids (hb hby d3_58) (pc' := 59) rfl ?_
        refine g_icmpNo hG Xj4 hx (hb hby d3_59) (pc' := 62) (by decide) rfl ?_
        refine g_iload hG Xj4 hx (hb hby d3_62) (pc' := 64) rfl rfl ?_
        refine g_aloadN hG Xj4 hx (hb hby d3_64) (pc' := 65) rfl rfl rfl ?_
        refine g_arraylength hG Xj4 hx hZ ej4 V_ids (hb hby d3_65) (pc' := 66) rfl ?_
        refine g_iconst hG Xj4 hx (hb hby d3_66) (pc' := 67) rfl (v := (1 : Int32)) rfl ?_
        refine g_isub hG Xj4 hx (hb hby d3_67) (pc' := 68) rfl (v := (0 : Int32)) (by decide) ?_
        refine g_callS hG Xj4 hx hZ (y := (⟨"java/lang/Math", "min", "(II)I"⟩ : MethodName)) 0 hown (wd hw 16 rfl) (wd hw 17 rfl) (wd hw 8 rfl) (wd hw 18 rfl) (by decide) (rmMI l Z a0 hw [] (1 : Int32) (0 : Int32) (0 : Int32) hj4 n0 Zs (by decide)) (by decide) (by decide) (by rw [hml]; rfl) pd_3 rfl (argsL := [(.int 1), (.int 0)]) (rest := []) rfl rfl (Nat.le_of_eq rfl) (hb hby d3_68) ej4 (by decide) (by decide) (pc' := 71) rfl ?_
        intro T6 rv6 L6 X6 hQ6
        obtain ⟨rfl, Nq6, eh6⟩ := hQ6
        have NF6 := Fr.app NFj4 Nq6
        show G (T6.setTop (mkF m 71 _ [(.int 0)]))
        refine g_istore hG X6 hx (hb hby d3_71) (pc' := 73) rfl (Ls' := #[.val (.ref a), .val (.long lim), .second, .val (.ref ids), .val (.int 1), .val (.int 2), .val (.int 0), .val (.int 0)]) rfl ?_
        refine g_aloadN hG X6 hx (hb hby d3_73) (pc' := 74) rfl rfl rfl ?_
        refine g_iload hG X6 hx (hb hby d3_74) (pc' := 76) rfl rfl ?_
        refine g_aloadN hG X6 hx (hb hby d3_76) (pc' := 77) rfl rfl rfl ?_
        refine g_iload hG X6 hx (hb hby d3_77) (pc' := 79) rfl rfl ?_
        refine g_iconst hG X6 hx (hb hby d3_79) (pc' := 80) rfl (v := (1 : Int32)) rfl ?_
        refine g_iadd hG X6 hx (hb hby d3_80) (pc' := 81) rfl (v := (1 : Int32)) (by decide) ?_
        refine g_iload hG X6 hx (hb hby d3_81) (pc' := 83) rfl rfl ?_
        refine g_iload hG X6 hx (hb hby d3_83) (pc' := 85) rfl rfl ?_
        refine g_isub hG X6 hx (hb hby d3_85) (pc' := 86) rfl (v := (0 : Int32)) (by decide) ?_
        refine g_copy hG X6 hx hZ hown (wd hw 19 rfl) (wd hw 22 rfl) (wd hw 20 rfl) (wd hw 21 rfl) eh6 V_ids V_ids rfl (by decide) (by decide) (by decide) (by decide) (by decide) (vr := [(.int p0)]) rfl NF6 ge_ids (by rw [hml]; rfl) (hb hby d3_86) (by decide) 0 (Nat.le_of_eq rfl) (by decide) (pc' := 89) rfl ?_
        intro T7 h7 L7 X7 e7 NF7 Kq7 Vn7
        have V_ids := Vn7
        have V_a := V_a.keep Kq7 (ninS ne_a_ids nin0)
        have Zs := Nat.le_trans Zs Kq7.1
        have K7 := Kj4.trans Kq7 (allS (Or.inr sz_ids) all0)
        show G (T7.setTop (mkF m 89 _ []))
        refine g_aloadN hG X7 hx (hb hby d3_89) (pc' := 90) rfl rfl rfl ?_
        refine g_iload hG X7 hx (hb hby d3_90) (pc' := 92) rfl rfl ?_
        refine g_iload hG X7 hx (hb hby d3_92) (pc' := 94) rfl rfl ?_
        refine g_iastore hG X7 hx hZ e7 V_ids (j := (0 : Int32)) (by decide) (show Int32.toNatClampNeg (0 : Int32) < 1 by decide) (hb hby d3_94) (pc' := 95) rfl ?_
        intro T8 h8 X8 e8 W8 Vn8
        have V_ids : AV Z h8 ids .int (1 : Int32) [(.int 2)] := Vn8
        have V_a := V_a.other W8 ne_a_ids
        have Zs := Nat.le_trans Zs (Wr.size W8)
        have NF8 := Fr.snoc X8 NF7 ge_ids
        have K8 := K7.wr W8 (Or.inr sz_ids)
        refine g_iload hG X8 hx (hb hby d3_95) (pc' := 97) rfl rfl ?_
        refine g_iconst hG X8 hx (hb hby d3_97) (pc' := 98) rfl (v := (1 : Int32)) rfl ?_
        refine g_iadd hG X8 hx (hb hby d3_98) (pc' := 99) rfl (v := (2 : Int32)) (by decide) ?_
        refine g_aloadN hG X8 hx (hb hby d3_99) (pc' := 100) rfl rfl rfl ?_
        refine g_arraylength hG X8 hx hZ e8 V_ids (hb hby d3_100) (pc' := 101) rfl ?_
        refine g_callS hG X8 hx hZ (y := (⟨"java/lang/Math", "min", "(II)I"⟩ : MethodName)) 0 hown (wd hw 16 rfl) (wd hw 17 rfl) (wd hw 8 rfl) (wd hw 18 rfl) (by decide) (rmMI l Z a0 hw [] (2 : Int32) (1 : Int32) (1 : Int32) h8 n0 Zs (by decide)) (by decide) (by decide) (by rw [hml]; rfl) pd_3 rfl (argsL := [(.int 2), (.int 1)]) (rest := []) rfl rfl (Nat.le_of_eq rfl) (hb hby d3_101) e8 (by decide) (by decide) (pc' := 104) rfl ?_
        intro T9 rv9 L9 X9 hQ9
        obtain ⟨rfl, Nq9, eh9⟩ := hQ9
        have NF9 := Fr.app NF8 Nq9
        show G (T9.setTop (mkF m 104 _ [(.int 1)]))
        refine g_istore hG X9 hx (hb hby d3_104) (pc' := 106) rfl (Ls' := #[.val (.ref a), .val (.long lim), .second, .val (.ref ids), .val (.int 1), .val (.int 2), .val (.int 0), .val (.int 0)]) rfl ?_
        refine g_iinc hG X9 hx (hb hby d3_106) (pc' := 109) rfl rfl (v := (3 : Int32)) (by decide) (Ls' := #[.val (.ref a), .val (.long lim), .second, .val (.ref ids), .val (.int 1), .val (.int 3), .val (.int 0), .val (.int 0)]) rfl ?_
        refine g_goto hG X9 hx (hb hby d3_109) (pc' := 17) (by decide) (by decide) ?_
        exact J3 _ _ _ (2 : Int32) (0 : Int32) (0 : Int32) X9 eh9 NF9 Zs K8 V_a V_ids (st_2_1_1_0 b01 b02 b03 b12 b13 b23 p0 TR HT2 g2_0)
      · skip
        refine g_ifYes hG Xj4 hx (hb hby d3_46) (pc' := 55) (by rcases gt_no (BT (2 : Int32) p0 (by decide) (in4_of bp0.1 (by omega))) g2_0 with z | z <;> rw [← q45, z] <;> rfl) (by decide) (by decide) ?_
        refine g_iload hG Xj4 hx (hb hby d3_55) (pc' := 57) rfl rfl ?_
        refine g_aloadN hG Xj4 hx (hb hby d3_57) (pc' := 58) rfl rfl rfl ?_
        refine g_arraylength hG Xj4 hx hZ ej4 V_ids (hb hby d3_58) (pc' := 59) rfl ?_
        refine g_icmpYes hG Xj4 hx (hb hby d3_59) (pc' := 106) (by decide) (by decide) (by decide) ?_
        refine g_iinc hG Xj4 hx (hb hby d3_106) (pc' := 109) rfl rfl (v := (3 : Int32)) (by decide) (Ls' := #[.val (.ref a), .val (.long lim), .second, .val (.ref ids), .val (.int 1), .val (.int 3), .val (.int 1), .val (.int w7)]) rfl ?_
        refine g_goto hG Xj4 hx (hb hby d3_109) (pc' := 17) (by decide) (by decide) ?_
        exact J3 _ _ _ p0 (1 : Int32) w7 Xj4 ej4 NFj4 Zs Kj4 V_a V_ids (st_2_1_1_1 b01 b02 b03 b12 b13 b23 p0 TR HT2 g2_0)
    refine g_iload hG Xj3 hx (hb hby d3_17) (pc' := 19) rfl rfl ?_
    refine g_aloadN hG Xj3 hx (hb hby d3_19) (pc' := 20) rfl rfl rfl ?_
    refine g_arraylength hG Xj3 hx hZ ej3 V_a (hb hby d3_20) (pc' := 21) rfl ?_
    refine g_icmpNo hG Xj3 hx (hb hby d3_21) (pc' := 24) (by decide) rfl ?_
    refine g_iload hG Xj3 hx (hb hby d3_24) (pc' := 26) rfl rfl ?_
    refine g_istore hG Xj3 hx (hb hby d3_26) (pc' := 28) rfl (Ls' := #[.val (.ref a), .val (.long lim), .second, .val (.ref ids), .val (.int 1), .val (.int 1), .val (.int 1), .val (.int w7)]) rfl ?_
    refine g_iload hG Xj3 hx (hb hby d3_28) (pc' := 30) rfl rfl ?_
    refine g_ifNo hG Xj3 hx (hb hby d3_30) (pc' := 33) (by decide) rfl ?_
    refine g_aloadN hG Xj3 hx (hb hby d3_33) (pc' := 34) rfl rfl rfl ?_
    refine g_iload hG Xj3 hx (hb hby d3_34) (pc' := 36) rfl rfl ?_
    refine g_daload hG Xj3 hx hZ ej3 V_a (j := (1 : Int32)) (v := (.double (al (1 : Int32)))) (by decide) rfl (hb hby d3_36) (pc' := 37) rfl ?_
    refine g_aloadN hG Xj3 hx (hb hby d3_37) (pc' := 38) rfl rfl rfl ?_
    refine g_aloadN hG Xj3 hx (hb hby d3_38) (pc' := 39) rfl rfl rfl ?_
    refine g_iload hG Xj3 hx (hb hby d3_39) (pc' := 41) rfl rfl ?_
    refine g_iconst hG Xj3 hx (hb hby d3_41) (pc' := 42) rfl (v := (1 : Int32)) rfl ?_
    refine g_isub hG Xj3 hx (hb hby d3_42) (pc' := 43) rfl (v := (0 : Int32)) (by decide) ?_
    refine g_iaload hG Xj3 hx hZ ej3 V_ids (j := (0 : Int32)) (v := (.int p0)) (by decide) rfl (hb hby d3_43) (pc' := 44) rfl ?_
    refine g_daload hG Xj3 hx hZ ej3 V_a (j := p0) (v := (.double (al p0))) (nn_of bp0.1) (al_at3 (in3_of bp0.1 (by omega))) (hb hby d3_44) (pc' := 45) rfl ?_
    obtain ⟨v45, q45⟩ : ∃ zz : Int32, cmpValue (FP.dcmp (al (1 : Int32)) (al p0)) .l = zz := ⟨_, rfl⟩
    refine g_dcmp hG Xj3 hx (hb hby d3_45) (pc' := 46) rfl q45 ?_
    by_cases g1_0 : (btB b01 b02 b03 b12 b13 b23) (1 : Int32) p0 = true
    · skip
      refine g_ifNo hG Xj3 hx (hb hby d3_46) (pc' := 49) (by rw [← q45, gt_yes (BT (1 : Int32) p0 (by decide) (in4_of bp0.1 (by omega))) (fun g => by have := Int32.lt_iff_toInt_lt.mp g; rw [show (1 : Int32).toInt = 1 by decide] at this; omega) g1_0]; rfl) rfl ?_
      refine g_iinc hG Xj3 hx (hb hby d3_49) (pc' := 52) rfl rfl (v := (0 : Int32)) (by decide) (Ls' := #[.val (.ref a), .val (.long lim), .second, .val (.ref ids), .val (.int 1), .val (.int 1), .val (.int 0), .val (.int w7)]) rfl ?_
      refine g_goto hG Xj3 hx (hb hby d3_52) (pc' := 28) (by decide) (by decide) ?_
      refine g_iload hG Xj3 hx (hb hby d3_28) (pc' := 30) rfl rfl ?_
      refine g_ifYes hG Xj3 hx (hb hby d3_30) (pc' := 55) (by decide) (by decide) (by decide) ?_
      refine g_iload hG Xj3 hx (hb hby d3_55) (pc' := 57) rfl rfl ?_
      refine g_aloadN hG Xj3 hx (hb hby d3_57) (pc' := 58) rfl rfl rfl ?_
      refine g_arraylength hG Xj3 hx hZ ej3 V_ids (hb hby d3_58) (pc' := 59) rfl ?_
      refine g_icmpNo hG Xj3 hx (hb hby d3_59) (pc' := 62) (by decide) rfl ?_
      refine g_iload hG Xj3 hx (hb hby d3_62) (pc' := 64) rfl rfl ?_
      refine g_aloadN hG Xj3 hx (hb hby d3_64) (pc' := 65) rfl rfl rfl ?_
      refine g_arraylength hG Xj3 hx hZ ej3 V_ids (hb hby d3_65) (pc' := 66) rfl ?_
      refine g_iconst hG Xj3 hx (hb hby d3_66) (pc' := 67) rfl (v := (1 : Int32)) rfl ?_
      refine g_isub hG Xj3 hx (hb hby d3_67) (pc' := 68) rfl (v := (0 : Int32)) (by decide) ?_
      refine g_callS hG Xj3 hx hZ (y := (⟨"java/lang/Math", "min", "(II)I"⟩ : MethodName)) 0 hown (wd hw 16 rfl) (wd hw 17 rfl) (wd hw 8 rfl) (wd hw 18 rfl) (by decide) (rmMI l Z a0 hw [] (1 : Int32) (0 : Int32) (0 : Int32) hj3 n0 Zs (by decide)) (by decide) (by decide) (by rw [hml]; rfl) pd_3 rfl (argsL := [(.int 1), (.int 0)]) (rest := []) rfl rfl (Nat.le_of_eq rfl) (hb hby d3_68) ej3 (by decide) (by decide) (pc' := 71) rfl ?_
      intro T10 rv10 L10 X10 hQ10
      obtain ⟨rfl, Nq10, eh10⟩ := hQ10
      have NF10 := Fr.app NFj3 Nq10
      show G (T10.setTop (mkF m 71 _ [(.int 0)]))
      refine g_istore hG X10 hx (hb hby d3_71) (pc' := 73) rfl (Ls' := #[.val (.ref a), .val (.long lim), .second, .val (.ref ids), .val (.int 1), .val (.int 1), .val (.int 0), .val (.int 0)]) rfl ?_
      refine g_aloadN hG X10 hx (hb hby d3_73) (pc' := 74) rfl rfl rfl ?_
      refine g_iload hG X10 hx (hb hby d3_74) (pc' := 76) rfl rfl ?_
      refine g_aloadN hG X10 hx (hb hby d3_76) (pc' := 77) rfl rfl rfl ?_
      refine g_iload hG X10 hx (hb hby d3_77) (pc' := 79) rfl rfl ?_
      refine g_iconst hG X10 hx (hb hby d3_79) (pc' := 80) rfl (v := (1 : Int32)) rfl ?_
      refine g_iadd hG X10 hx (hb hby d3_80) (pc' := 81) rfl (v := (1 : Int32)) (by decide) ?_
      refine g_iload hG X10 hx (hb hby d3_81) (pc' := 83) rfl rfl ?_
      refine g_iload hG X10 hx (hb hby d3_83) (pc' := 85) rfl rfl ?_
      refine g_isub hG X10 hx (hb hby d3_85) (pc' := 86) rfl (v := (0 : Int32)) (by decide) ?_
      refine g_copy hG X10 hx hZ hown (wd hw 19 rfl) (wd hw 22 rfl) (wd hw 20 rfl) (wd hw 21 rfl) eh10 V_ids V_ids rfl (by decide) (by decide) (by decide) (by decide) (by decide) (vr := [(.int p0)]) rfl NF10 ge_ids (by rw [hml]; rfl) (hb hby d3_86) (by decide) 0 (Nat.le_of_eq rfl) (by decide) (pc' := 89) rfl ?_
      intro T11 h11 L11 X11 e11 NF11 Kq11 Vn11
      have V_ids := Vn11
      have V_a := V_a.keep Kq11 (ninS ne_a_ids nin0)
      have Zs := Nat.le_trans Zs Kq11.1
      have K11 := Kj3.trans Kq11 (allS (Or.inr sz_ids) all0)
      show G (T11.setTop (mkF m 89 _ []))
      refine g_aloadN hG X11 hx (hb hby d3_89) (pc' := 90) rfl rfl rfl ?_
      refine g_iload hG X11 hx (hb hby d3_90) (pc' := 92) rfl rfl ?_
      refine g_iload hG X11 hx (hb hby d3_92) (pc' := 94) rfl rfl ?_
      refine g_iastore hG X11 hx hZ e11 V_ids (j := (0 : Int32)) (by decide) (show Int32.toNatClampNeg (0 : Int32) < 1 by decide) (hb hby d3_94) (pc' := 95) rfl ?_
      intro T12 h12 X12 e12 W12 Vn12
      have V_ids : AV Z h12 ids .int (1 : Int32) [(.int 1)] := Vn12
      have V_a := V_a.other W12 ne_a_ids
      have Zs := Nat.le_trans Zs (Wr.size W12)
      have NF12 := Fr.snoc X12 NF11 ge_ids
      have K12 := K11.wr W12 (Or.inr sz_ids)
      refine g_iload hG X12 hx (hb hby d3_95) (pc' := 97) rfl rfl ?_
      refine g_iconst hG X12 hx (hb hby d3_97) (pc' := 98) rfl (v := (1 : Int32)) rfl ?_
      refine g_iadd hG X12 hx (hb hby d3_98) (pc' := 99) rfl (v := (2 : Int32)) (by decide) ?_
      refine g_aloadN hG X12 hx (hb hby d3_99) (pc' := 100) rfl rfl rfl ?_
      refine g_arraylength hG X12 hx hZ e12 V_ids (hb hby d3_100) (pc' := 101) rfl ?_
      refine g_callS hG X12 hx hZ (y := (⟨"java/lang/Math", "min", "(II)I"⟩ : MethodName)) 0 hown (wd hw 16 rfl) (wd hw 17 rfl) (wd hw 8 rfl) (wd hw 18 rfl) (by decide) (rmMI l Z a0 hw [] (2 : Int32) (1 : Int32) (1 : Int32) h12 n0 Zs (by decide)) (by decide) (by decide) (by rw [hml]; rfl) pd_3 rfl (argsL := [(.int 2), (.int 1)]) (rest := []) rfl rfl (Nat.le_of_eq rfl) (hb hby d3_101) e12 (by decide) (by decide) (pc' := 104) rfl ?_
      intro T13 rv13 L13 X13 hQ13
      obtain ⟨rfl, Nq13, eh13⟩ := hQ13
      have NF13 := Fr.app NF12 Nq13
      show G (T13.setTop (mkF m 104 _ [(.int 1)]))
      refine g_istore hG X13 hx (hb hby d3_104) (pc' := 106) rfl (Ls' := #[.val (.ref a), .val (.long lim), .second, .val (.ref ids), .val (.int 1), .val (.int 1), .val (.int 0), .val (.int 0)]) rfl ?_
      refine g_iinc hG X13 hx (hb hby d3_106) (pc' := 109) rfl rfl (v := (2 : Int32)) (by decide) (Ls' := #[.val (.ref a), .val (.long lim), .second, .val (.ref ids), .val (.int 1), .val (.int 2), .val (.int 0), .val (.int 0)]) rfl ?_
      refine g_goto hG X13 hx (hb hby d3_109) (pc' := 17) (by decide) (by decide) ?_
      exact J2 _ _ _ (1 : Int32) (0 : Int32) (0 : Int32) X13 eh13 NF13 Zs K12 V_a V_ids (st_1_1_1_0 b01 b02 b03 b12 b13 b23 p0 TR HT1 g1_0)
    · skip
      refine g_ifYes hG Xj3 hx (hb hby d3_46) (pc' := 55) (by rcases gt_no (BT (1 : Int32) p0 (by decide) (in4_of bp0.1 (by omega))) g1_0 with z | z <;> rw [← q45, z] <;> rfl) (by decide) (by decide) ?_
      refine g_iload hG Xj3 hx (hb hby d3_55) (pc' := 57) rfl rfl ?_
      refine g_aloadN hG Xj3 hx (hb hby d3_57) (pc' := 58) rfl rfl rfl ?_
      refine g_arraylength hG Xj3 hx hZ ej3 V_ids (hb hby d3_58) (pc' := 59) rfl ?_
      refine g_icmpYes hG Xj3 hx (hb hby d3_59) (pc' := 106) (by decide) (by decide) (by decide) ?_
      refine g_iinc hG Xj3 hx (hb hby d3_106) (pc' := 109) rfl rfl (v := (2 : Int32)) (by decide) (Ls' := #[.val (.ref a), .val (.long lim), .second, .val (.ref ids), .val (.int 1), .val (.int 2), .val (.int 1), .val (.int w7)]) rfl ?_
      refine g_goto hG Xj3 hx (hb hby d3_109) (pc' := 17) (by decide) (by decide) ?_
      exact J2 _ _ _ p0 (1 : Int32) w7 Xj3 ej3 NFj3 Zs Kj3 V_a V_ids (st_1_1_1_1 b01 b02 b03 b12 b13 b23 p0 TR HT1 g1_0)
  refine g_iload hG X2 hx (hb hby d3_17) (pc' := 19) rfl rfl ?_
  refine g_aloadN hG X2 hx (hb hby d3_19) (pc' := 20) rfl rfl rfl ?_
  refine g_arraylength hG X2 hx hZ e2 V_a (hb hby d3_20) (pc' := 21) rfl ?_
  refine g_icmpNo hG X2 hx (hb hby d3_21) (pc' := 24) (by decide) rfl ?_
  refine g_iload hG X2 hx (hb hby d3_24) (pc' := 26) rfl rfl ?_
  refine g_istore hG X2 hx (hb hby d3_26) (pc' := 28) rfl (Ls' := #[.val (.ref a), .val (.long lim), .second, .val (.ref ids), .val (.int 0), .val (.int 0), .val (.int 0), .unset]) rfl ?_
  refine g_iload hG X2 hx (hb hby d3_28) (pc' := 30) rfl rfl ?_
  refine g_ifYes hG X2 hx (hb hby d3_30) (pc' := 55) (by decide) (by decide) (by decide) ?_
  refine g_iload hG X2 hx (hb hby d3_55) (pc' := 57) rfl rfl ?_
  refine g_aloadN hG X2 hx (hb hby d3_57) (pc' := 58) rfl rfl rfl ?_
  refine g_arraylength hG X2 hx hZ e2 V_ids (hb hby d3_58) (pc' := 59) rfl ?_
  refine g_icmpNo hG X2 hx (hb hby d3_59) (pc' := 62) (by decide) rfl ?_
  refine g_iload hG X2 hx (hb hby d3_62) (pc' := 64) rfl rfl ?_
  refine g_aloadN hG X2 hx (hb hby d3_64) (pc' := 65) rfl rfl rfl ?_
  refine g_arraylength hG X2 hx hZ e2 V_ids (hb hby d3_65) (pc' := 66) rfl ?_
  refine g_iconst hG X2 hx (hb hby d3_66) (pc' := 67) rfl (v := (1 : Int32)) rfl ?_
  refine g_isub hG X2 hx (hb hby d3_67) (pc' := 68) rfl (v := (0 : Int32)) (by decide) ?_
  refine g_callS hG X2 hx hZ (y := (⟨"java/lang/Math", "min", "(II)I"⟩ : MethodName)) 0 hown (wd hw 16 rfl) (wd hw 17 rfl) (wd hw 8 rfl) (wd hw 18 rfl) (by decide) (rmMI l Z a0 hw [] (0 : Int32) (0 : Int32) (0 : Int32) h2 n0 Zs (by decide)) (by decide) (by decide) (by rw [hml]; rfl) pd_3 rfl (argsL := [(.int 0), (.int 0)]) (rest := []) rfl rfl (Nat.le_of_eq rfl) (hb hby d3_68) e2 (by decide) (by decide) (pc' := 71) rfl ?_
  intro T14 rv14 L14 X14 hQ14
  obtain ⟨rfl, Nq14, eh14⟩ := hQ14
  have NF14 := Fr.app NF1 Nq14
  show G (T14.setTop (mkF m 71 _ [(.int 0)]))
  refine g_istore hG X14 hx (hb hby d3_71) (pc' := 73) rfl (Ls' := #[.val (.ref a), .val (.long lim), .second, .val (.ref ids), .val (.int 0), .val (.int 0), .val (.int 0), .val (.int 0)]) rfl ?_
  refine g_aloadN hG X14 hx (hb hby d3_73) (pc' := 74) rfl rfl rfl ?_
  refine g_iload hG X14 hx (hb hby d3_74) (pc' := 76) rfl rfl ?_
  refine g_aloadN hG X14 hx (hb hby d3_76) (pc' := 77) rfl rfl rfl ?_
  refine g_iload hG X14 hx (hb hby d3_77) (pc' := 79) rfl rfl ?_
  refine g_iconst hG X14 hx (hb hby d3_79) (pc' := 80) rfl (v := (1 : Int32)) rfl ?_
  refine g_iadd hG X14 hx (hb hby d3_80) (pc' := 81) rfl (v := (1 : Int32)) (by decide) ?_
  refine g_iload hG X14 hx (hb hby d3_81) (pc' := 83) rfl rfl ?_
  refine g_iload hG X14 hx (hb hby d3_83) (pc' := 85) rfl rfl ?_
  refine g_isub hG X14 hx (hb hby d3_85) (pc' := 86) rfl (v := (0 : Int32)) (by decide) ?_
  refine g_copy hG X14 hx hZ hown (wd hw 19 rfl) (wd hw 22 rfl) (wd hw 20 rfl) (wd hw 21 rfl) eh14 V_ids V_ids rfl (by decide) (by decide) (by decide) (by decide) (by decide) (vr := [(.int 0)]) rfl NF14 ge_ids (by rw [hml]; rfl) (hb hby d3_86) (by decide) 0 (Nat.le_of_eq rfl) (by decide) (pc' := 89) rfl ?_
  intro T15 h15 L15 X15 e15 NF15 Kq15 Vn15
  have V_ids := Vn15
  have V_a := V_a.keep Kq15 (ninS ne_a_ids nin0)
  have Zs := Nat.le_trans Zs Kq15.1
  have K15 := K2.trans Kq15 (allS (Or.inr sz_ids) all0)
  show G (T15.setTop (mkF m 89 _ []))
  refine g_aloadN hG X15 hx (hb hby d3_89) (pc' := 90) rfl rfl rfl ?_
  refine g_iload hG X15 hx (hb hby d3_90) (pc' := 92) rfl rfl ?_
  refine g_iload hG X15 hx (hb hby d3_92) (pc' := 94) rfl rfl ?_
  refine g_iastore hG X15 hx hZ e15 V_ids (j := (0 : Int32)) (by decide) (show Int32.toNatClampNeg (0 : Int32) < 1 by decide) (hb hby d3_94) (pc' := 95) rfl ?_
  intro T16 h16 X16 e16 W16 Vn16
  have V_ids : AV Z h16 ids .int (1 : Int32) [(.int 0)] := Vn16
  have V_a := V_a.other W16 ne_a_ids
  have Zs := Nat.le_trans Zs (Wr.size W16)
  have NF16 := Fr.snoc X16 NF15 ge_ids
  have K16 := K15.wr W16 (Or.inr sz_ids)
  refine g_iload hG X16 hx (hb hby d3_95) (pc' := 97) rfl rfl ?_
  refine g_iconst hG X16 hx (hb hby d3_97) (pc' := 98) rfl (v := (1 : Int32)) rfl ?_
  refine g_iadd hG X16 hx (hb hby d3_98) (pc' := 99) rfl (v := (1 : Int32)) (by decide) ?_
  refine g_aloadN hG X16 hx (hb hby d3_99) (pc' := 100) rfl rfl rfl ?_
  refine g_arraylength hG X16 hx hZ e16 V_ids (hb hby d3_100) (pc' := 101) rfl ?_
  refine g_callS hG X16 hx hZ (y := (⟨"java/lang/Math", "min", "(II)I"⟩ : MethodName)) 0 hown (wd hw 16 rfl) (wd hw 17 rfl) (wd hw 8 rfl) (wd hw 18 rfl) (by decide) (rmMI l Z a0 hw [] (1 : Int32) (1 : Int32) (1 : Int32) h16 n0 Zs (by decide)) (by decide) (by decide) (by rw [hml]; rfl) pd_3 rfl (argsL := [(.int 1), (.int 1)]) (rest := []) rfl rfl (Nat.le_of_eq rfl) (hb hby d3_101) e16 (by decide) (by decide) (pc' := 104) rfl ?_
  intro T17 rv17 L17 X17 hQ17
  obtain ⟨rfl, Nq17, eh17⟩ := hQ17
  have NF17 := Fr.app NF16 Nq17
  show G (T17.setTop (mkF m 104 _ [(.int 1)]))
  refine g_istore hG X17 hx (hb hby d3_104) (pc' := 106) rfl (Ls' := #[.val (.ref a), .val (.long lim), .second, .val (.ref ids), .val (.int 1), .val (.int 0), .val (.int 0), .val (.int 0)]) rfl ?_
  refine g_iinc hG X17 hx (hb hby d3_106) (pc' := 109) rfl rfl (v := (1 : Int32)) (by decide) (Ls' := #[.val (.ref a), .val (.long lim), .second, .val (.ref ids), .val (.int 1), .val (.int 1), .val (.int 0), .val (.int 0)]) rfl ?_
  refine g_goto hG X17 hx (hb hby d3_109) (pc' := 17) (by decide) (by decide) ?_
  exact J1 _ _ _ (0 : Int32) (0 : Int32) (0 : Int32) X17 eh17 NF17 Zs K16 V_a V_ids (st_0_0_1_0 b01 b02 b03 b12 b13 b23  TR HT0 )

def Q_rmCk3_2_0 (Z : State) (a ids : Addr) (al : Int32 → UInt64) (bt : Int32 → Int32 → Bool) (p0 p1 : Int32) (h0 : Heap) (n0 : Nat) (v : Option Value) (h : Heap) (L : List Loc) : Prop := v = some (.int 1) ∧ Fr n0 L ∧ h = h0
set_option maxRecDepth 65536 in
set_option maxHeartbeats 40000000 in
theorem rmCk3_2_0 (l : Launch) (Z : State) (a0 : Array Value) (hw : ∀ d ∈ tables_1, d.before a0 Z = true) (ws : List Jvm.Cond) (a ids : Addr) (al : Int32 → UInt64) (bt : Int32 → Int32 → Bool) (p0 p1 : Int32) (h0 : Heap) (n0 : Nat) (Zs : n0 ≤ h0.size) (V_a : AV Z h0 a .double (3 : Int32) [(.double (al (0 : Int32))), (.double (al (1 : Int32))), (.double (al (2 : Int32)))]) (V_ids : AV Z h0 ids .int (2 : Int32) [(.int p0), (.int p1)]) (HT : tops bt 3 0 [p0, p1] = true) (BT : ∀ x y, In4 x → In4 y → BtR al x y (bi bt x y)) :
    Con l (⟨"com/example/gauge_terms/gaugeterms/TopValuesPositionsPinLaw", "check", "([D[II)Z"⟩ : MethodName) method_5_code 4 (some .boolean) ws ({ frames := 2, cells := 0, slots := 0, locals := 56 } : Room) Z #[(.ref a), (.ref ids), (.int 0)] h0 ({ frames := 2, cells := 0, slots := 0, locals := 56 } : Room).cells ({ frames := 2, cells := 0, slots := 0, locals := 56 } : Room).slots (Q_rmCk3_2_0 Z a ids al bt p0 p1 h0 n0) := by
  refine Con.of (Ls := #[.val (.ref a), .val (.ref ids), .val (.int 0), .unset]) (plainFor_of_name (by first | (simp [plainName, overriddenIn]; done) | decide +kernel)) (fun m => by first | (simp [entryFrame, mkF, argsToLocals, Value.category]; done) | rfl) ?_
  intro p e s m below meth c s₁ G hGe hG hx hby hml hown hnm hrt hlk hZ X0 e0
  have hown : s.vm.findClass "com/example/gauge_terms/gaugeterms/TopValuesPositionsPinLaw" = some m.cls := hown
  have hnm : meth.name = "check" := hnm
  have NF0 := Fr.nil n0
  have bj : 0 ≤ p0.toInt ∧ p0.toInt < 3 := tops_b HT p0 (by simp)
  have rj : rk3 bt p0 = (0 : Int32) := tops_r HT 0 p0 rfl
  refine g_iloadN hG X0 hx (hb hby d5_0) (pc' := 1) rfl rfl ?_
  refine g_aloadN hG X0 hx (hb hby d5_1) (pc' := 2) rfl rfl rfl ?_
  refine g_arraylength hG X0 hx hZ e0 V_ids (hb hby d5_2) (pc' := 3) rfl ?_
  refine g_icmpYes hG X0 hx (hb hby d5_3) (pc' := 8) (by decide) (by decide) (by decide) ?_
  refine g_aloadN hG X0 hx (hb hby d5_8) (pc' := 9) rfl rfl rfl ?_
  refine g_iloadN hG X0 hx (hb hby d5_9) (pc' := 10) rfl rfl ?_
  refine g_iaload hG X0 hx hZ e0 V_ids (j := (0 : Int32)) (v := (.int p0)) (by decide) rfl (hb hby d5_10) (pc' := 11) rfl ?_
  refine g_istoreN hG X0 hx (hb hby d5_11) (pc' := 12) rfl (Ls' := #[.val (.ref a), .val (.ref ids), .val (.int 0), .val (.int p0)]) rfl ?_
  refine g_iloadN hG X0 hx (hb hby d5_12) (pc' := 13) rfl rfl ?_
  refine g_ifNo hG X0 hx (hb hby d5_13) (pc' := 16) ((if0 _ _).trans (flt (nn_of bj.1)).1) rfl ?_
  refine g_iloadN hG X0 hx (hb hby d5_16) (pc' := 17) rfl rfl ?_
  refine g_aloadN hG X0 hx (hb hby d5_17) (pc' := 18) rfl rfl rfl ?_
  refine g_arraylength hG X0 hx hZ e0 V_a (hb hby d5_18) (pc' := 19) rfl ?_
  refine g_icmpYes hG X0 hx (hb hby d5_19) (pc' := 24) ((tlt (Int32.lt_iff_toInt_lt.mpr (by rw [show (3 : Int32).toInt = 3 by decide]; exact bj.2))).1) (by decide) (by decide) ?_
  refine g_aloadN hG X0 hx (hb hby d5_24) (pc' := 25) rfl rfl rfl ?_
  refine g_iloadN hG X0 hx (hb hby d5_25) (pc' := 26) rfl rfl ?_
  refine g_callS hG X0 hx hZ (y := (⟨"com/example/gauge_terms/gaugeterms/TopValuesPositionsPinLaw", "rank", "([DI)I"⟩ : MethodName)) 0 hown (wd hw 26 rfl) (wd hw 27 rfl) (wd hw 3 rfl) (wd hw 28 rfl) (by decide) (rmRk3 l Z a0 hw [] a al bt p0 (0 : Int32) h0 n0 Zs V_a bj BT rj) (by decide) (by decide) (by rw [hml]; rfl) pd_2 rfl (argsL := [(.ref a), (.int p0)]) (rest := []) rfl rfl (Nat.le_of_eq rfl) (hb hby d5_26) e0 (by decide) (by decide) (pc' := 29) rfl ?_
  intro T1 rv1 L1 X1 hQ1
  obtain ⟨rfl, Nq1, eh1⟩ := hQ1
  have NF1 := Fr.app NF0 Nq1
  show G (T1.setTop (mkF m 29 _ [(.int 0)]))
  refine g_iloadN hG X1 hx (hb hby d5_29) (pc' := 30) rfl rfl ?_
  refine g_icmpNo hG X1 hx (hb hby d5_30) (pc' := 33) (by decide) rfl ?_
  refine g_iconst hG X1 hx (hb hby d5_33) (pc' := 34) rfl (v := (1 : Int32)) rfl ?_
  refine g_goto hG X1 hx (hb hby d5_34) (pc' := 38) (by decide) (by decide) ?_
  exact e_retZ hGe X1 hx hrt hlk (hb hby d5_38) (Or.inr rfl) eh1 (by decide) (by decide) (⟨rfl, NF1, rfl⟩)

def Q_rmCk3_2_1 (Z : State) (a ids : Addr) (al : Int32 → UInt64) (bt : Int32 → Int32 → Bool) (p0 p1 : Int32) (h0 : Heap) (n0 : Nat) (v : Option Value) (h : Heap) (L : List Loc) : Prop := v = some (.int 1) ∧ Fr n0 L ∧ h = h0
set_option maxRecDepth 65536 in
set_option maxHeartbeats 40000000 in
theorem rmCk3_2_1 (l : Launch) (Z : State) (a0 : Array Value) (hw : ∀ d ∈ tables_1, d.before a0 Z = true) (ws : List Jvm.Cond) (a ids : Addr) (al : Int32 → UInt64) (bt : Int32 → Int32 → Bool) (p0 p1 : Int32) (h0 : Heap) (n0 : Nat) (Zs : n0 ≤ h0.size) (V_a : AV Z h0 a .double (3 : Int32) [(.double (al (0 : Int32))), (.double (al (1 : Int32))), (.double (al (2 : Int32)))]) (V_ids : AV Z h0 ids .int (2 : Int32) [(.int p0), (.int p1)]) (HT : tops bt 3 0 [p0, p1] = true) (BT : ∀ x y, In4 x → In4 y → BtR al x y (bi bt x y)) :
    Con l (⟨"com/example/gauge_terms/gaugeterms/TopValuesPositionsPinLaw", "check", "([D[II)Z"⟩ : MethodName) method_5_code 4 (some .boolean) ws ({ frames := 2, cells := 0, slots := 0, locals := 56 } : Room) Z #[(.ref a), (.ref ids), (.int 1)] h0 ({ frames := 2, cells := 0, slots := 0, locals := 56 } : Room).cells ({ frames := 2, cells := 0, slots := 0, locals := 56 } : Room).slots (Q_rmCk3_2_1 Z a ids al bt p0 p1 h0 n0) := by
  refine Con.of (Ls := #[.val (.ref a), .val (.ref ids), .val (.int 1), .unset]) (plainFor_of_name (by first | (simp [plainName, overriddenIn]; done) | decide +kernel)) (fun m => by first | (simp [entryFrame, mkF, argsToLocals, Value.category]; done) | rfl) ?_
  intro p e s m below meth c s₁ G hGe hG hx hby hml hown hnm hrt hlk hZ X0 e0
  have hown : s.vm.findClass "com/example/gauge_terms/gaugeterms/TopValuesPositionsPinLaw" = some m.cls := hown
  have hnm : meth.name = "check" := hnm
  have NF0 := Fr.nil n0
  have bj : 0 ≤ p1.toInt ∧ p1.toInt < 3 := tops_b HT p1 (by simp)
  have rj : rk3 bt p1 = (1 : Int32) := tops_r HT 1 p1 rfl
  refine g_iloadN hG X0 hx (hb hby d5_0) (pc' := 1) rfl rfl ?_
  refine g_aloadN hG X0 hx (hb hby d5_1) (pc' := 2) rfl rfl rfl ?_
  refine g_arraylength hG X0 hx hZ e0 V_ids (hb hby d5_2) (pc' := 3) rfl ?_
  refine g_icmpYes hG X0 hx (hb hby d5_3) (pc' := 8) (by decide) (by decide) (by decide) ?_
  refine g_aloadN hG X0 hx (hb hby d5_8) (pc' := 9) rfl rfl rfl ?_
  refine g_iloadN hG X0 hx (hb hby d5_9) (pc' := 10) rfl rfl ?_
  refine g_iaload hG X0 hx hZ e0 V_ids (j := (1 : Int32)) (v := (.int p1)) (by decide) rfl (hb hby d5_10) (pc' := 11) rfl ?_
  refine g_istoreN hG X0 hx (hb hby d5_11) (pc' := 12) rfl (Ls' := #[.val (.ref a), .val (.ref ids), .val (.int 1), .val (.int p1)]) rfl ?_
  refine g_iloadN hG X0 hx (hb hby d5_12) (pc' := 13) rfl rfl ?_
  refine g_ifNo hG X0 hx (hb hby d5_13) (pc' := 16) ((if0 _ _).trans (flt (nn_of bj.1)).1) rfl ?_
  refine g_iloadN hG X0 hx (hb hby d5_16) (pc' := 17) rfl rfl ?_
  refine g_aloadN hG X0 hx (hb hby d5_17) (pc' := 18) rfl rfl rfl ?_
  refine g_arraylength hG X0 hx hZ e0 V_a (hb hby d5_18) (pc' := 19) rfl ?_
  refine g_icmpYes hG X0 hx (hb hby d5_19) (pc' := 24) ((tlt (Int32.lt_iff_toInt_lt.mpr (by rw [show (3 : Int32).toInt = 3 by decide]; exact bj.2))).1) (by decide) (by decide) ?_
  refine g_aloadN hG X0 hx (hb hby d5_24) (pc' := 25) rfl rfl rfl ?_
  refine g_iloadN hG X0 hx (hb hby d5_25) (pc' := 26) rfl rfl ?_
  refine g_callS hG X0 hx hZ (y := (⟨"com/example/gauge_terms/gaugeterms/TopValuesPositionsPinLaw", "rank", "([DI)I"⟩ : MethodName)) 0 hown (wd hw 26 rfl) (wd hw 27 rfl) (wd hw 3 rfl) (wd hw 28 rfl) (by decide) (rmRk3 l Z a0 hw [] a al bt p1 (1 : Int32) h0 n0 Zs V_a bj BT rj) (by decide) (by decide) (by rw [hml]; rfl) pd_2 rfl (argsL := [(.ref a), (.int p1)]) (rest := []) rfl rfl (Nat.le_of_eq rfl) (hb hby d5_26) e0 (by decide) (by decide) (pc' := 29) rfl ?_
  intro T1 rv1 L1 X1 hQ1
  obtain ⟨rfl, Nq1, eh1⟩ := hQ1
  have NF1 := Fr.app NF0 Nq1
  show G (T1.setTop (mkF m 29 _ [(.int 1)]))
  refine g_iloadN hG X1 hx (hb hby d5_29) (pc' := 30) rfl rfl ?_
  refine g_icmpNo hG X1 hx (hb hby d5_30) (pc' := 33) (by decide) rfl ?_
  refine g_iconst hG X1 hx (hb hby d5_33) (pc' := 34) rfl (v := (1 : Int32)) rfl ?_
  refine g_goto hG X1 hx (hb hby d5_34) (pc' := 38) (by decide) (by decide) ?_
  exact e_retZ hGe X1 hx hrt hlk (hb hby d5_38) (Or.inr rfl) eh1 (by decide) (by decide) (⟨rfl, NF1, rfl⟩)

def Q_rmPos3_2 (Z : State) (a : Addr) (al : Int32 → UInt64) (b01 b02 b03 b12 b13 b23 : Bool) (lim r : Int64) (h0 : Heap) (n0 : Nat) (v : Option Value) (h : Heap) (L : List Loc) : Prop := ∃ (b : Addr) (p0 p1 : Int32), v = some (.ref b) ∧ Fr n0 L ∧ Keep h0 h [] ∧ h0.size ≤ b ∧ (AV Z h b .int (2 : Int32) [(.int p0), (.int p1)]) ∧ tops (btB b01 b02 b03 b12 b13 b23) 3 0 [p0, p1] = true
set_option maxRecDepth 65536 in
set_option maxHeartbeats 40000000 in
theorem rmPos3_2 (l : Launch) (Z : State) (a0 : Array Value) (hw : ∀ d ∈ tables_1, d.before a0 Z = true) (ws : List Jvm.Cond) (a : Addr) (al : Int32 → UInt64) (b01 b02 b03 b12 b13 b23 : Bool) (lim r : Int64) (h0 : Heap) (n0 : Nat) (Zs : n0 ≤ h0.size) (V_a : AV Z h0 a .double (3 : Int32) [(.double (al (0 : Int32))), (.double (al (1 : Int32))), (.double (al (2 : Int32)))]) (TR : trB b01 b02 b03 b12 b13 b23 = true) (BT : ∀ x y, In4 x → In4 y → BtR al x y (bi (btB b01 b02 b03 b12 b13 b23) x y)) (hm : (¬ (3 : Int32).toInt64 < lim ∧ r = lim) ∨ ((3 : Int32).toInt64 < lim ∧ r = (3 : Int32).toInt64)) (hk : r.toInt32 = (2 : Int32)) :
    Con l (⟨"com/example/gauge_terms/gaugeterms/TopValues", "positions", "([DJ)[I"⟩ : MethodName) prog_3_method_2_code 8 (some (.array .int)) ws ({ frames := 1, cells := 1, slots := 2, locals := 40 } : Room) Z #[(.ref a), (.long lim)] h0 ({ frames := 1, cells := 1, slots := 2, locals := 40 } : Room).cells ({ frames := 1, cells := 1, slots := 2, locals := 40 } : Room).slots (Q_rmPos3_2 Z a al b01 b02 b03 b12 b13 b23 lim r h0 n0) := by
  refine Con.of (Ls := #[.val (.ref a), .val (.long lim), .second, .unset, .unset, .unset, .unset, .unset]) (plainFor_of_name (by first | (simp [plainName, overriddenIn]; done) | decide +kernel)) (fun m => by first | (simp [entryFrame, mkF, argsToLocals, Value.category]; done) | rfl) ?_
  intro p e s m below meth c s₁ G hGe hG hx hby hml hown hnm hrt hlk hZ X0 e0
  have hown : s.vm.findClass "com/example/gauge_terms/gaugeterms/TopValues" = some m.cls := hown
  have hnm : meth.name = "positions" := hnm
  have NF0 := Fr.nil n0
  have K0 := Keep.refl h0 ([] : List Addr)
  have HT0 : tops (btB b01 b02 b03 b12 b13 b23) 0 0 [] = true := rfl
  refine g_lloadN hG X0 hx (hb hby d3_0) (pc' := 1) rfl rfl ?_
  refine g_aloadN hG X0 hx (hb hby d3_1) (pc' := 2) rfl rfl rfl ?_
  refine g_arraylength hG X0 hx hZ e0 V_a (hb hby d3_2) (pc' := 3) rfl ?_
  obtain ⟨v3, q3⟩ : ∃ zz : Int64, (3 : Int32).toInt64 = zz := ⟨_, rfl⟩
  refine g_i2l hG X0 hx (hb hby d3_3) (pc' := 4) rfl q3 ?_
  refine g_callS hG X0 hx hZ (y := (⟨"java/lang/Math", "min", "(JJ)J"⟩ : MethodName)) 0 hown (wd hw 14 rfl) (wd hw 7 rfl) (wd hw 8 rfl) (wd hw 9 rfl) (by decide) (rmMJ l Z a0 hw [] lim v3 r h0 n0 Zs (q3 ▸ hm)) (by decide) (by decide) (by rw [hml]; rfl) pd_0 rfl (argsL := [(.long lim), (.long v3)]) (rest := []) rfl rfl (Nat.le_of_eq rfl) (hb hby d3_4) e0 (by decide) (by decide) (pc' := 7) rfl ?_
  intro T1 rv1 L1 X1 hQ1
  obtain ⟨rfl, Nq1, eh1⟩ := hQ1
  have NF1 := Fr.app NF0 Nq1
  show G (T1.setTop (mkF m 7 _ [(.long r)]))
  refine g_l2i hG X1 hx (hb hby d3_7) (pc' := 8) rfl hk ?_
  refine g_newP hG X1 hx hZ (wd hw 15 rfl) eh1 (hb hby d3_8) (by decide) 2 (by decide) (by decide) (by decide) (by decide) (pc' := 10) rfl ?_
  intro T2 h2 ids kA2 gs2 X2 e2 E2 A2
  have ne_a_ids : a ≠ ids := Nat.ne_of_lt (gs2 ▸ V_a.lt)
  have ge_ids : n0 ≤ ids := gs2 ▸ Zs
  have sz_ids : h0.size ≤ ids := gs2 ▸ K0.1
  have Zs := Nat.le_trans Zs E2.1
  have V_a := V_a.ext E2
  have K2 := K0.ext E2
  have V_ids : AV Z h2 ids .int (2 : Int32) [(.int 0), (.int 0)] := AV.new A2
  refine g_astoreN hG X2 hx (hb hby d3_10) (pc' := 11) rfl rfl (Ls' := #[.val (.ref a), .val (.long lim), .second, .val (.ref ids), .unset, .unset, .unset, .unset]) rfl ?_
  refine g_iconst hG X2 hx (hb hby d3_11) (pc' := 12) rfl (v := (0 : Int32)) rfl ?_
  refine g_istore hG X2 hx (hb hby d3_12) (pc' := 14) rfl (Ls' := #[.val (.ref a), .val (.long lim), .second, .val (.ref ids), .val (.int 0), .unset, .unset, .unset]) rfl ?_
  refine g_iconst hG X2 hx (hb hby d3_14) (pc' := 15) rfl (v := (0 : Int32)) rfl ?_
  refine g_istore hG X2 hx (hb hby d3_15) (pc' := 17) rfl (Ls' := #[.val (.ref a), .val (.long lim), .second, .val (.ref ids), .val (.int 0), .val (.int 0), .unset, .unset]) rfl ?_
  have J1 : ∀ (Tj3 : State) (hj3 : Heap) (Lj3 : List Loc) (p0 : Int32) (w6 w7 : Int32), Stand p l e ({ frames := 1, cells := 1, slots := 2, locals := 40 } : Room) s m #[(.ref a), (.long lim)] below meth c Tj3 Lj3 1 2 → Tj3.heap = hj3 → Fr n0 Lj3 → n0 ≤ hj3.size → Keep h0 hj3 [] → AV Z hj3 a .double (3 : Int32) [(.double (al (0 : Int32))), (.double (al (1 : Int32))), (.double (al (2 : Int32)))] → AV Z hj3 ids .int (2 : Int32) [(.int p0), (.int 0)] → tops (btB b01 b02 b03 b12 b13 b23) 1 0 [p0] = true → G (Tj3.setTop (mkF m 17 #[.val (.ref a), .val (.long lim), .second, .val (.ref ids), .val (.int 1), .val (.int 1), .val (.int w6), .val (.int w7)] [])) := by
    intro Tj3 hj3 Lj3 p0 w6 w7 Xj3 ej3 NFj3 Zs Kj3 V_a V_ids HT1
    have bp0 : 0 ≤ p0.toInt ∧ p0.toInt < 1 := tops_b HT1 p0 (by simp)
    have J2 : ∀ (Tj4 : State) (hj4 : Heap) (Lj4 : List Loc) (p0 p1 : Int32) (w6 w7 : Int32), Stand p l e ({ frames := 1, cells := 1, slots := 2, locals := 40 } : Room) s m #[(.ref a), (.long lim)] below meth c Tj4 Lj4 1 2 → Tj4.heap = hj4 → Fr n0 Lj4 → n0 ≤ hj4.size → Keep h0 hj4 [] → AV Z hj4 a .double (3 : Int32) [(.double (al (0 : Int32))), (.double (al (1 : Int32))), (.double (al (2 : Int32)))] → AV Z hj4 ids .int (2 : Int32) [(.int p0), (.int p1)] → tops (btB b01 b02 b03 b12 b13 b23) 2 0 [p0, p1] = true → G (Tj4.setTop (mkF m 17 #[.val (.ref a), .val (.long lim), .second, .val (.ref ids), .val (.int 2), .val (.int 2), .val (.int w6), .val (.int w7)] [])) := by
      intro Tj4 hj4 Lj4 p0 p1 w6 w7 Xj4 ej4 NFj4 Zs Kj4 V_a V_ids HT2
      have bp0 : 0 ≤ p0.toInt ∧ p0.toInt < 2 := tops_b HT2 p0 (by simp)
      have bp1 : 0 ≤ p1.toInt ∧ p1.toInt < 2 := tops_b HT2 p1 (by simp)
      have J3 : ∀ (Tj5 : State) (hj5 : Heap) (Lj5 : List Loc) (p0 p1 : Int32) (w6 w7 : Int32), Stand p l e ({ frames := 1, cells := 1, slots := 2, locals := 40 } : Room) s m #[(.ref a), (.long lim)] below meth c Tj5 Lj5 1 2 → Tj5.heap = hj5 → Fr n0 Lj5 → n0 ≤ hj5.size → Keep h0 hj5 [] → AV Z hj5 a .double (3 : Int32) [(.double (al (0 : Int32))), (.double (al (1 : Int32))), (.double (al (2 : Int32)))] → AV Z hj5 ids .int (2 : Int32) [(.int p0), (.int p1)] → tops (btB b01 b02 b03 b12 b13 b23) 3 0 [p0, p1] = true → G (Tj5.setTop (mkF m 17 #[.val (.ref a), .val (.long lim), .second, .val (.ref ids), .val (.int 2), .val (.int 3), .val (.int w6), .val (.int w7)] [])) := by
        intro Tj5 hj5 Lj5 p0 p1 w6 w7 Xj5 ej5 NFj5 Zs Kj5 V_a V_ids HT3
        have bp0 : 0 ≤ p0.toInt ∧ p0.toInt < 3 := tops_b HT3 p0 (by simp)
        have bp1 : 0 ≤ p1.toInt ∧ p1.toInt < 3 := tops_b HT3 p1 (by simp)
        refine g_iload hG Xj5 hx (hb hby d3_17) (pc' := 19) rfl rfl ?_
        refine g_aloadN hG Xj5 hx (hb hby d3_19) (pc' := 20) rfl rfl rfl ?_
        refine g_arraylength hG Xj5 hx hZ ej5 V_a (hb hby d3_20) (pc' := 21) rfl ?_
        refine g_icmpYes hG Xj5 hx (hb hby d3_21) (pc' := 112) (by decide) (by decide) (by decide) ?_
        refine g_aloadN hG Xj5 hx (hb hby d3_112) (pc' := 113) rfl rfl rfl ?_
        exact e_retA hGe Xj5 hx hrt rfl hlk (hb hby d3_113) ej5 (by decide) (by decide) (⟨ids, p0, p1,  rfl, NFj5, Kj5, sz_ids, V_ids, HT3⟩)
      refine g_iload hG Xj4 hx (hb hby d3_17) (pc' := 19) rfl rfl ?_
      refine g_aloadN hG Xj4 hx (hb hby d3_19) (pc' := 20) rfl rfl rfl ?_
      refine g_arraylength hG Xj4 hx hZ ej4 V_a (hb hby d3_20) (pc' := 21) rfl ?_
      refine g_icmpNo hG Xj4 hx (hb hby d3_21) (pc' := 24) (by decide) rfl ?_
      refine g_iload hG Xj4 hx (hb hby d3_24) (pc' := 26) rfl rfl ?_
      refine g_istore hG Xj4 hx (hb hby d3_26) (pc' := 28) rfl (Ls' := #[.val (.ref a), .val (.long lim), .second, .val (.ref ids), .val (.int 2), .val (.int 2), .val (.int 2), .val (.int w7)]) rfl ?_
      refine g_iload hG Xj4 hx (hb hby d3_28) (pc' := 30) rfl rfl ?_
      refine g_ifNo hG Xj4 hx (hb hby d3_30) (pc' := 33) (by decide) rfl ?_
      refine g_aloadN hG Xj4 hx (hb hby d3_33) (pc' := 34) rfl rfl rfl ?_
      refine g_iload hG Xj4 hx (hb hby d3_34) (pc' := 36) rfl rfl ?_
      refine g_daload hG Xj4 hx hZ ej4 V_a (j := (2 : Int32)) (v := (.double (al (2 : Int32)))) (by decide) rfl (hb hby d3_36) (pc' := 37) rfl ?_
      refine g_aloadN hG Xj4 hx (hb hby d3_37) (pc' := 38) rfl rfl rfl ?_
      refine g_aloadN hG Xj4 hx (hb hby d3_38) (pc' := 39) rfl rfl rfl ?_
      refine g_iload hG Xj4 hx (hb hby d3_39) (pc' := 41) rfl rfl ?_
      refine g_iconst hG Xj4 hx (hb hby d3_41) (pc' := 42) rfl (v := (1 : Int32)) rfl ?_
      refine g_isub hG Xj4 hx (hb hby d3_42) (pc' := 43) rfl (v := (1 : Int32)) (by decide) ?_
      refine g_iaload hG Xj4 hx hZ ej4 V_ids (j := (1 : Int32)) (v := (.int p1)) (by decide) rfl (hb hby d3_43) (pc' := 44) rfl ?_
      refine g_daload hG Xj4 hx hZ ej4 V_a (j := p1) (v := (.double (al p1))) (nn_of bp1.1) (al_at3 (in3_of bp1.1 (by omega))) (hb hby d3_44) (pc' := 45) rfl ?_
      obtain ⟨v45, q45⟩ : ∃ zz : Int32, cmpValue (FP.dcmp (al (2 : Int32)) (al p1)) .l = zz := ⟨_, rfl⟩
      refine g_dcmp hG Xj4 hx (hb hby d3_45) (pc' := 46) rfl q45 ?_
      by_cases g2_1 : (btB b01 b02 b03 b12 b13 b23) (2 : Int32) p1 = true
      · skip
        refine g_ifNo hG Xj4 hx (hb hby d3_46) (pc' := 49) (by rw [← q45, gt_yes (BT (2 : Int32) p1 (by decide) (in4_of bp1.1 (by omega))) (fun g => by have := Int32.lt_iff_toInt_lt.mp g; rw [show (2 : Int32).toInt = 2 by decide] at this; omega) g2_1]; rfl) rfl ?_
        refine g_iinc hG Xj4 hx (hb hby d3_49) (pc' := 52) rfl rfl (v := (1 : Int32)) (by decide) (Ls' := #[.val (.ref a), .val (.long lim), .second, .val (.ref ids), .val (.int 2), .val (.int 2), .val (.int 1), .val (.int w7)]) rfl ?_
        refine g_goto hG Xj4 hx (hb hby d3_52) (pc' := 28) (by decide) (by decide) ?_
        refine g_iload hG Xj4 hx (hb hby d3_28) (pc' := 30) rfl rfl ?_
        refine g_ifNo hG Xj4 hx (hb hby d3_30) (pc' := 33) (by decide) rfl ?_
        refine g_aloadN hG Xj4 hx (hb hby d3_33) (pc' := 34) rfl rfl rfl ?_
        refine g_iload hG Xj4 hx (hb hby d3_34) (pc' := 36) rfl rfl ?_
        refine g_daload hG Xj4 hx hZ ej4 V_a (j := (2 : Int32)) (v := (.double (al (2 : Int32)))) (by decide) rfl (hb hby d3_36) (pc' := 37) rfl ?_
        refine g_aloadN hG Xj4 hx (hb hby d3_37) (pc' := 38) rfl rfl rfl ?_
        refine g_aloadN hG Xj4 hx (hb hby d3_38) (pc' := 39) rfl rfl rfl ?_
        refine g_iload hG Xj4 hx (hb hby d3_39) (pc' := 41) rfl rfl ?_
        refine g_iconst hG Xj4 hx (hb hby d3_41) (pc' := 42) rfl (v := (1 : Int32)) rfl ?_
        refine g_isub hG Xj4 hx (hb hby d3_42) (pc' := 43) rfl (v := (0 : Int32)) (by decide) ?_
        refine g_iaload hG Xj4 hx hZ ej4 V_ids (j := (0 : Int32)) (v := (.int p0)) (by decide) rfl (hb hby d3_43) (pc' := 44) rfl ?_
        refine g_daload hG Xj4 hx hZ ej4 V_a (j := p0) (v := (.double (al p0))) (nn_of bp0.1) (al_at3 (in3_of bp0.1 (by omega))) (hb hby d3_44) (pc' := 45) rfl ?_
        obtain ⟨v45_1, q45_1⟩ : ∃ zz : Int32, cmpValue (FP.dcmp (al (2 : Int32)) (al p0)) .l = zz := ⟨_, rfl⟩
        refine g_dcmp hG Xj4 hx (hb hby d3_45) (pc' := 46) rfl q45_1 ?_
        by_cases g2_0 : (btB b01 b02 b03 b12 b13 b23) (2 : Int32) p0 = true
        · skip
          refine g_ifNo hG Xj4 hx (hb hby d3_46) (pc' := 49) (by rw [← q45_1, gt_yes (BT (2 : Int32) p0 (by decide) (in4_of bp0.1 (by omega))) (fun g => by have := Int32.lt_iff_toInt_lt.mp g; rw [show (2 : Int32).toInt = 2 by decide] at this; omega) g2_0]; rfl) rfl ?_
          refine g_iinc hG Xj4 hx (hb hby d3_49) (pc' := 52) rfl rfl (v := (0 : Int32)) (by decide) (Ls' := #[.val (.ref a), .val (.long lim), .second, .val (.ref ids), .val (.int 2), .val (.int 2), .val (.int 0), .val (.int w7)]) rfl ?_
          refine g_goto hG Xj4 hx (hb hby d3_52) (pc' := 28) (by decide) (by decide) ?_
          refine g_iload hG Xj4 hx (hb hby d3_28) (pc' := 30) rfl rfl ?_
          refine g_ifYes hG Xj4 hx (hb hby d3_30) (pc' := 55) (by decide) (by decide) (by decide) ?_
          refine g_iload hG Xj4 hx (hb hby d3_55) (pc' := 57) rfl rfl ?_
          refine g_aloadN hG Xj4 hx (hb hby d3_57) (pc' := 58) rfl rfl rfl ?_
          refine g_arraylength hG Xj4 hx hZ ej4 V_ids (hb hby d3_58) (pc' := 59) rfl ?_
          refine g_icmpNo hG Xj4 hx (hb hby d3_59) (pc' := 62) (by decide) rfl ?_
          refine g_iload hG Xj4 hx (hb hby d3_62) (pc' := 64) rfl rfl ?_
          refine g_aloadN hG Xj4 hx (hb hby d3_64) (pc' := 65) rfl rfl rfl ?_
          refine g_arraylength hG Xj4 hx hZ ej4 V_ids (hb hby d3_65) (pc' := 66) rfl ?_
          refine g_iconst hG Xj4 hx (hb hby d3_66) (pc' := 67) rfl (v := (1 : Int32)) rfl ?_
          refine g_isub hG Xj4 hx (hb hby d3_67) (pc' := 68) rfl (v := (1 : Int32)) (by decide) ?_
          refine g_callS hG Xj4 hx hZ (y := (⟨"java/lang/Math", "min", "(II)I"⟩ : MethodName)) 0 hown (wd hw 16 rfl) (wd hw 17 rfl) (wd hw 8 rfl) (wd hw 18 rfl) (by decide) (rmMI l Z a0 hw [] (2 : Int32) (1 : Int32) (1 : Int32) hj4 n0 Zs (by decide)) (by decide) (by decide) (by rw [hml]; rfl) pd_3 rfl (argsL := [(.int 2), (.int 1)]) (rest := []) rfl rfl (Nat.le_of_eq rfl) (hb hby d3_68) ej4 (by decide) (by decide) (pc' := 71) rfl ?_
          intro T6 rv6 L6 X6 hQ6
          obtain ⟨rfl, Nq6, eh6⟩ := hQ6
          have NF6 := Fr.app NFj4 Nq6
          show G (T6.setTop (mkF m 71 _ [(.int 1)]))
          refine g_istore hG X6 hx (hb hby d3_71) (pc' := 73) rfl (Ls' := #[.val (.ref a), .val (.long lim), .second, .val (.ref ids), .val (.int 2), .val (.int 2), .val (.int 0), .val (.int 1)]) rfl ?_
          refine g_aloadN hG X6 hx (hb hby d3_73) (pc' := 74) rfl rfl rfl ?_
          refine g_iload hG X6 hx (hb hby d3_74) (pc' := 76) rfl rfl ?_
          refine g_aloadN hG X6 hx (hb hby d3_76) (pc' := 77) rfl rfl rfl ?_
          refine g_iload hG X6 hx (hb hby d3_77) (pc' := 79) rfl rfl ?_
          refine g_iconst hG X6 hx (hb hby d3_79) (pc' := 80) rfl (v := (1 : Int32)) rfl ?_
          refine g_iadd hG X6 hx (hb hby d3_80) (pc' := 81) rfl (v := (1 : Int32)) (by decide) ?_
          refine g_iload hG X6 hx (hb hby d3_81) (pc' := 83) rfl rfl ?_
          refine g_iload hG X6 hx (hb hby d3_83) (pc' := 85) rfl rfl ?_
          refine g_isub hG X6 hx (hb hby d3_85) (pc' := 86) rfl (v := (1 : Int32)) (by decide) ?_
          refine g_copy hG X6 hx hZ hown (wd hw 19 rfl) (wd hw 22 rfl) (wd hw 20 rfl) (wd hw 21 rfl) eh6 V_ids V_ids rfl (by decide) (by decide) (by decide) (by decide) (by decide) (vr := [(.int p0), (.int p0)]) rfl NF6 ge_ids (by rw [hml]; rfl) (hb hby d3_86) (by decide) 0 (Nat.le_of_eq rfl) (by decide) (pc' := 89) rfl ?_
          intro T7 h7 L7 X7 e7 NF7 Kq7 Vn7
          have V_ids := Vn7
          have V_a := V_a.keep Kq7 (ninS ne_a_ids nin0)
          have Zs := Nat.le_trans Zs Kq7.1
          have K7 := Kj4.trans Kq7 (allS (Or.inr sz_ids) all0)
          show G (T7.setTop (mkF m 89 _ []))
          refine g_aloadN hG X7 hx (hb hby d3_89) (pc' := 90) rfl rfl rfl ?_
          refine g_iload hG X7 hx (hb hby d3_90) (pc' := 92) rfl rfl ?_
          refine g_iload hG X7 hx (hb hby d3_92) (pc' := 94) rfl rfl ?_
          refine g_iastore hG X7 hx hZ e7 V_ids (j := (0 : Int32)) (by decide) (show Int32.toNatClampNeg (0 : Int32) < 2 by decide) (hb hby d3_94) (pc' := 95) rfl ?_
          intro T8 h8 X8 e8 W8 Vn8
          have V_ids : AV Z h8 ids .int (2 : Int32) [(.int 2), (.int p0)] := Vn8
          have V_a := V_a.other W8 ne_a_ids
          have Zs := Nat.le_trans Zs (Wr.size W8)
          have NF8 := Fr.snoc X8 NF7 ge_ids
          have K8 := K7.wr W8 (Or.inr sz_ids)
          refine g_iload hG X8 hx (hb hby d3_95) (pc' := 97) rfl rfl ?_
          refine g_iconst hG X8 hx (hb hby d3_97) (pc' := 98) rfl (v := (1 : Int32)) rfl ?_
          refine g_iadd hG X8 hx (hb hby d3_98) (pc' := 99) rfl (v := (3 : Int32)) (by decide) ?_
          refine g_aloadN hG X8 hx (hb hby d3_99) (pc' := 100) rfl rfl rfl ?_
          refine g_arraylength hG X8 hx hZ e8 V_ids (hb hby d3_100) (pc' := 101) rfl ?_
          refine g_callS hG X8 hx hZ (y := (⟨"java/lang/Math", "min", "(II)I"⟩ : MethodName)) 0 hown (wd hw 16 rfl) (wd hw 17 rfl) (wd hw 8 rfl) (wd hw 18 rfl) (by decide) (rmMI l Z a0 hw [] (3 : Int32) (2 : Int32) (2 : Int32) h8 n0 Zs (by decide)) (by decide) (by decide) (by rw [hml]; rfl) pd_3 rfl (argsL := [(.int 3), (.int 2)]) (rest := []) rfl rfl (Nat.le_of_eq rfl) (hb hby d3_101) e8 (by decide) (by decide) (pc' := 104) rfl ?_
          intro T9 rv9 L9 X9 hQ9
          obtain ⟨rfl, Nq9, eh9⟩ := hQ9
          have NF9 := Fr.app NF8 Nq9
          show G (T9.setTop (mkF m 104 _ [(.int 2)]))
          refine g_istore hG X9 hx (hb hby d3_104) (pc' := 106) rfl (Ls' := #[.val (.ref a), .val (.long lim), .second, .val (.ref ids), .val (.int 2), .val (.int 2), .val (.int 0), .val (.int 1)]) rfl ?_
          refine g_iinc hG X9 hx (hb hby d3_106) (pc' := 109) rfl rfl (v := (3 : Int32)) (by decide) (Ls' := #[.val (.ref a), .val (.long lim), .second, .val (.ref ids), .val (.int 2), .val (.int 3), .val (.int 0), .val (.int 1)]) rfl ?_
          refine g_goto hG X9 hx (hb hby d3_109) (pc' := 17) (by decide) (by decide) ?_
          exact J3 _ _ _ (2 : Int32) p0 (0 : Int32) (1 : Int32) X9 eh9 NF9 Zs K8 V_a V_ids (st_2_2_2_0 b01 b02 b03 b12 b13 b23 p0 p1 TR HT2 g2_1 g2_0)
        · skip
          refine g_ifYes hG Xj4 hx (hb hby d3_46) (pc' := 55) (by rcases gt_no (BT (2 : Int32) p0 (by decide) (in4_of bp0.1 (by omega))) g2_0 with z | z <;> rw [← q45_1, z] <;> rfl) (by decide) (by decide) ?_
          refine g_iload hG Xj4 hx (hb hby d3_55) (pc' := 57) rfl rfl ?_
          refine g_aloadN hG Xj4 hx (hb hby d3_57) (pc' := 58) rfl rfl rfl ?_
          refine g_arraylength hG Xj4 hx hZ ej4 V_ids (hb hby d3_58) (pc' := 59) rfl ?_
          refine g_icmpNo hG Xj4 hx (hb hby d3_59) (pc' := 62) (by decide) rfl ?_
          refine g_iload hG Xj4 hx (hb hby d3_62) (pc' := 64) rfl rfl ?_
          refine g_aloadN hG Xj4 hx (hb hby d3_64) (pc' := 65) rfl rfl rfl ?_
          refine g_arraylength hG Xj4 hx hZ ej4 V_ids (hb hby d3_65) (pc' := 66) rfl ?_
          refine g_iconst hG Xj4 hx (hb hby d3_66) (pc' := 67) rfl (v := (1 : Int32)) rfl ?_
          refine g_isub hG Xj4 hx (hb hby d3_67) (pc' := 68) rfl (v := (1 : Int32)) (by decide) ?_
          refine g_callS hG Xj4 hx hZ (y := (⟨"java/lang/Math", "min", "(II)I"⟩ : MethodName)) 0 hown (wd hw 16 rfl) (wd hw 17 rfl) (wd hw 8 rfl) (wd hw 18 rfl) (by decide) (rmMI l Z a0 hw [] (2 : Int32) (1 : Int32) (1 : Int32) hj4 n0 Zs (by decide)) (by decide) (by decide) (by rw [hml]; rfl) pd_3 rfl (argsL := [(.int 2), (.int 1)]) (rest := []) rfl rfl (Nat.le_of_eq rfl) (hb hby d3_68) ej4 (by decide) (by decide) (pc' := 71) rfl ?_
          intro T10 rv10 L10 X10 hQ10
          obtain ⟨rfl, Nq10, eh10⟩ := hQ10
          have NF10 := Fr.app NFj4 Nq10
          show G (T10.setTop (mkF m 71 _ [(.int 1)]))
          refine g_istore hG X10 hx (hb hby d3_71) (pc' := 73) rfl (Ls' := #[.val (.ref a), .val (.long lim), .second, .val (.ref ids), .val (.int 2), .val (.int 2), .val (.int 1), .val (.int 1)]) rfl ?_
          refine g_aloadN hG X10 hx (hb hby d3_73) (pc' := 74) rfl rfl rfl ?_
          refine g_iload hG X10 hx (hb hby d3_74) (pc' := 76) rfl rfl ?_
          refine g_aloadN hG X10 hx (hb hby d3_76) (pc' := 77) rfl rfl rfl ?_
          refine g_iload hG X10 hx (hb hby d3_77) (pc' := 79) rfl rfl ?_
          refine g_iconst hG X10 hx (hb hby d3_79) (pc' := 80) rfl (v := (1 : Int32)) rfl ?_
          refine g_iadd hG X10 hx (hb hby d3_80) (pc' := 81) rfl (v := (2 : Int32)) (by decide) ?_
          refine g_iload hG X10 hx (hb hby d3_81) (pc' := 83) rfl rfl ?_
          refine g_iload hG X10 hx (hb hby d3_83) (pc' := 85) rfl rfl ?_
          refine g_isub hG X10 hx (hb hby d3_85) (pc' := 86) rfl (v := (0 : Int32)) (by decide) ?_
          refine g_copy hG X10 hx hZ hown (wd hw 19 rfl) (wd hw 22 rfl) (wd hw 20 rfl) (wd hw 21 rfl) eh10 V_ids V_ids rfl (by decide) (by decide) (by decide) (by decide) (by decide) (vr := [(.int p0), (.int p1)]) rfl NF10 ge_ids (by rw [hml]; rfl) (hb hby d3_86) (by decide) 0 (Nat.le_of_eq rfl) (by decide) (pc' := 89) rfl ?_
          intro T11 h11 L11 X11 e11 NF11 Kq11 Vn11
          have V_ids := Vn11
          have V_a := V_a.keep Kq11 (ninS ne_a_ids nin0)
          have Zs := Nat.le_trans Zs Kq11.1
          have K11 := Kj4.trans Kq11 (allS (Or.inr sz_ids) all0)
          show G (T11.setTop (mkF m 89 _ []))
          refine g_aloadN hG X11 hx (hb hby d3_89) (pc' := 90) rfl rfl rfl ?_
          refine g_iload hG X11 hx (hb hby d3_90) (pc' := 92) rfl rfl ?_
          refine g_iload hG X11 hx (hb hby d3_92) (pc' := 94) rfl rfl ?_
          refine g_iastore hG X11 hx hZ e11 V_ids (j := (1 : Int32)) (by decide) (show Int32.toNatClampNeg (1 : Int32) < 2 by decide) (hb hby d3_94) (pc' := 95) rfl ?_
          intro T12 h12 X12 e12 W12 Vn12
          have V_ids : AV Z h12 ids .int (2 : Int32) [(.int p0), (.int 2)] := Vn12
          have V_a := V_a.other W12 ne_a_ids
          have Zs := Nat.le_trans Zs (Wr.size W12)
          have NF12 := Fr.snoc X12 NF11 ge_ids
          have K12 := K11.wr W12 (Or.inr sz_ids)
          refine g_iload hG X12 hx (hb hby d3_95) (pc' := 97) rfl rfl ?_
          refine g_iconst hG X12 hx (hb hby d3_97) (pc' := 98) rfl (v := (1 : Int32)) rfl ?_
          refine g_iadd hG X12 hx (hb hby d3_98) (pc' := 99) rfl (v := (3 : Int32)) (by decide) ?_
          refine g_aloadN hG X12 hx (hb hby d3_99) (pc' := 100) rfl rfl rfl ?_
          refine g_arraylength hG X12 hx hZ e12 V_ids (hb hby d3_100) (pc' := 101) rfl ?_
          refine g_callS hG X12 hx hZ (y := (⟨"java/lang/Math", "min", "(II)I"⟩ : MethodName)) 0 hown (wd hw 16 rfl) (wd hw 17 rfl) (wd hw 8 rfl) (wd hw 18 rfl) (by decide) (rmMI l Z a0 hw [] (3 : Int32) (2 : Int32) (2 : Int32) h12 n0 Zs (by decide)) (by decide) (by decide) (by rw [hml]; rfl) pd_3 rfl (argsL := [(.int 3), (.int 2)]) (rest := []) rfl rfl (Nat.le_of_eq rfl) (hb hby d3_101) e12 (by decide) (by decide) (pc' := 104) rfl ?_
          intro T13 rv13 L13 X13 hQ13
          obtain ⟨rfl, Nq13, eh13⟩ := hQ13
          have NF13 := Fr.app NF12 Nq13
          show G (T13.setTop (mkF m 104 _ [(.int 2)]))
          refine g_istore hG X13 hx (hb hby d3_104) (pc' := 106) rfl (Ls' := #[.val (.ref a), .val (.long lim), .second, .val (.ref ids), .val (.int 2), .val (.int 2), .val (.int 1), .val (.int 1)]) rfl ?_
          refine g_iinc hG X13 hx (hb hby d3_106) (pc' := 109) rfl rfl (v := (3 : Int32)) (by decide) (Ls' := #[.val (.ref a), .val (.long lim), .second, .val (.ref ids), .val (.int 2), .val (.int 3), .val (.int 1), .val (.int 1)]) rfl ?_
          refine g_goto hG X13 hx (hb hby d3_109) (pc' := 17) (by decide) (by decide) ?_
          exact J3 _ _ _ p0 (2 : Int32) (1 : Int32) (1 : Int32) X13 eh13 NF13 Zs K12 V_a V_ids (st_2_2_2_1 b01 b02 b03 b12 b13 b23 p0 p1 TR HT2 g2_1 g2_0)
      · skip
        refine g_ifYes hG Xj4 hx (hb hby d3_46) (pc' := 55) (by rcases gt_no (BT (2 : Int32) p1 (by decide) (in4_of bp1.1 (by omega))) g2_1 with z | z <;> rw [← q45, z] <;> rfl) (by decide) (by decide) ?_
        refine g_iload hG Xj4 hx (hb hby d3_55) (pc' := 57) rfl rfl ?_
        refine g_aloadN hG Xj4 hx (hb hby d3_57) (pc' := 58) rfl rfl rfl ?_
        refine g_arraylength hG Xj4 hx hZ ej4 V_ids (hb hby d3_58) (pc' := 59) rfl ?_
        refine g_icmpYes hG Xj4 hx (hb hby d3_59) (pc' := 106) (by decide) (by decide) (by decide) ?_
        refine g_iinc hG Xj4 hx (hb hby d3_106) (pc' := 109) rfl rfl (v := (3 : Int32)) (by decide) (Ls' := #[.val (.ref a), .val (.long lim), .second, .val (.ref ids), .val (.int 2), .val (.int 3), .val (.int 2), .val (.int w7)]) rfl ?_
        refine g_goto hG Xj4 hx (hb hby d3_109) (pc' := 17) (by decide) (by decide) ?_
        exact J3 _ _ _ p0 p1 (2 : Int32) w7 Xj4 ej4 NFj4 Zs Kj4 V_a V_ids (st_2_2_2_2 b01 b02 b03 b12 b13 b23 p0 p1 TR HT2 g2_1)
    refine g_iload hG Xj3 hx (hb hby d3_17) (pc' := 19) rfl rfl ?_
    refine g_aloadN hG Xj3 hx (hb hby d3_19) (pc' := 20) rfl rfl rfl ?_
    refine g_arraylength hG Xj3 hx hZ ej3 V_a (hb hby d3_20) (pc' := 21) rfl ?_
    refine g_icmpNo hG Xj3 hx (hb hby d3_21) (pc' := 24) (by decide) rfl ?_
    refine g_iload hG Xj3 hx (hb hby d3_24) (pc' := 26) rfl rfl ?_
    refine g_istore hG Xj3 hx (hb hby d3_26) (pc' := 28) rfl (Ls' := #[.val (.ref a), .val (.long lim), .second, .val (.ref ids), .val (.int 1), .val (.int 1), .val (.int 1), .val (.int w7)]) rfl ?_
    refine g_iload hG Xj3 hx (hb hby d3_28) (pc' := 30) rfl rfl ?_
    refine g_ifNo hG Xj3 hx (hb hby d3_30) (pc' := 33) (by decide) rfl ?_
    refine g_aloadN hG Xj3 hx (hb hby d3_33) (pc' := 34) rfl rfl rfl ?_
    refine g_iload hG Xj3 hx (hb hby d3_34) (pc' := 36) rfl rfl ?_
    refine g_daload hG Xj3 hx hZ ej3 V_a (j := (1 : Int32)) (v := (.double (al (1 : Int32)))) (by decide) rfl (hb hby d3_36) (pc' := 37) rfl ?_
    refine g_aloadN hG Xj3 hx (hb hby d3_37) (pc' := 38) rfl rfl rfl ?_
    refine g_aloadN hG Xj3 hx (hb hby d3_38) (pc' := 39) rfl rfl rfl ?_
    refine g_iload hG Xj3 hx (hb hby d3_39) (pc' := 41) rfl rfl ?_
    refine g_iconst hG Xj3 hx (hb hby d3_41) (pc' := 42) rfl (v := (1 : Int32)) rfl ?_
    refine g_isub hG Xj3 hx (hb hby d3_42) (pc' := 43) rfl (v := (0 : Int32)) (by decide) ?_
    refine g_iaload hG Xj3 hx hZ ej3 V_ids (j := (0 : Int32)) (v := (.int p0)) (by decide) rfl (hb hby d3_43) (pc' := 44) rfl ?_
    refine g_daload hG Xj3 hx hZ ej3 V_a (j := p0) (v := (.double (al p0))) (nn_of bp0.1) (al_at3 (in3_of bp0.1 (by omega))) (hb hby d3_44) (pc' := 45) rfl ?_
    obtain ⟨v45, q45⟩ : ∃ zz : Int32, cmpValue (FP.dcmp (al (1 : Int32)) (al p0)) .l = zz := ⟨_, rfl⟩
    refine g_dcmp hG Xj3 hx (hb hby d3_45) (pc' := 46) rfl q45 ?_
    by_cases g1_0 : (btB b01 b02 b03 b12 b13 b23) (1 : Int32) p0 = true
    · skip
      refine g_ifNo hG Xj3 hx (hb hby d3_46) (pc' := 49) (by rw [← q45, gt_yes (BT (1 : Int32) p0 (by decide) (in4_of bp0.1 (by omega))) (fun g => by have := Int32.lt_iff_toInt_lt.mp g; rw [show (1 : Int32).toInt = 1 by decide] at this; omega) g1_0]; rfl) rfl ?_
      refine g_iinc hG Xj3 hx (hb hby d3_49) (pc' := 52) rfl rfl (v := (0 : Int32)) (by decide) (Ls' := #[.val (.ref a), .val (.long lim), .second, .val (.ref ids), .val (.int 1), .val (.int 1), .val (.int 0), .val (.int w7)]) rfl ?_
      refine g_goto hG Xj3 hx (hb hby d3_52) (pc' := 28) (by decide) (by decide) ?_
      refine g_iload hG Xj3 hx (hb hby d3_28) (pc' := 30) rfl rfl ?_
      refine g_ifYes hG Xj3 hx (hb hby d3_30) (pc' := 55) (by decide) (by decide) (by decide) ?_
      refine g_iload hG Xj3 hx (hb hby d3_55) (pc' := 57) rfl rfl ?_
      refine g_aloadN hG Xj3 hx (hb hby d3_57) (pc' := 58) rfl rfl rfl ?_
      refine g_arraylength hG Xj3 hx hZ ej3 V_ids (hb hby d3_58) (pc' := 59) rfl ?_
      refine g_icmpNo hG Xj3 hx (hb hby d3_59) (pc' := 62) (by decide) rfl ?_
      refine g_iload hG Xj3 hx (hb hby d3_62) (pc' := 64) rfl rfl ?_
      refine g_aloadN hG Xj3 hx (hb hby d3_64) (pc' := 65) rfl rfl rfl ?_
      refine g_arraylength hG Xj3 hx hZ ej3 V_ids (hb hby d3_65) (pc' := 66) rfl ?_
      refine g_iconst hG Xj3 hx (hb hby d3_66) (pc' := 67) rfl (v := (1 : Int32)) rfl ?_
      refine g_isub hG Xj3 hx (hb hby d3_67) (pc' := 68) rfl (v := (1 : Int32)) (by decide) ?_
      refine g_callS hG Xj3 hx hZ (y := (⟨"java/lang/Math", "min", "(II)I"⟩ : MethodName)) 0 hown (wd hw 16 rfl) (wd hw 17 rfl) (wd hw 8 rfl) (wd hw 18 rfl) (by decide) (rmMI l Z a0 hw [] (1 : Int32) (1 : Int32) (1 : Int32) hj3 n0 Zs (by decide)) (by decide) (by decide) (by rw [hml]; rfl) pd_3 rfl (argsL := [(.int 1), (.int 1)]) (rest := []) rfl rfl (Nat.le_of_eq rfl) (hb hby d3_68) ej3 (by decide) (by decide) (pc' := 71) rfl ?_
      intro T14 rv14 L14 X14 hQ14
      obtain ⟨rfl, Nq14, eh14⟩ := hQ14
      have NF14 := Fr.app NFj3 Nq14
      show G (T14.setTop (mkF m 71 _ [(.int 1)]))
      refine g_istore hG X14 hx (hb hby d3_71) (pc' := 73) rfl (Ls' := #[.val (.ref a), .val (.long lim), .second, .val (.ref ids), .val (.int 1), .val (.int 1), .val (.int 0), .val (.int 1)]) rfl ?_
      refine g_aloadN hG X14 hx (hb hby d3_73) (pc' := 74) rfl rfl rfl ?_
      refine g_iload hG X14 hx (hb hby d3_74) (pc' := 76) rfl rfl ?_
      refine g_aloadN hG X14 hx (hb hby d3_76) (pc' := 77) rfl rfl rfl ?_
      refine g_iload hG X14 hx (hb hby d3_77) (pc' := 79) rfl rfl ?_
      refine g_iconst hG X14 hx (hb hby d3_79) (pc' := 80) rfl (v := (1 : Int32)) rfl ?_
      refine g_iadd hG X14 hx (hb hby d3_80) (pc' := 81) rfl (v := (1 : Int32)) (by decide) ?_
      refine g_iload hG X14 hx (hb hby d3_81) (pc' := 83) rfl rfl ?_
      refine g_iload hG X14 hx (hb hby d3_83) (pc' := 85) rfl rfl ?_
      refine g_isub hG X14 hx (hb hby d3_85) (pc' := 86) rfl (v := (1 : Int32)) (by decide) ?_
      refine g_copy hG X14 hx hZ hown (wd hw 19 rfl) (wd hw 22 rfl) (wd hw 20 rfl) (wd hw 21 rfl) eh14 V_ids V_ids rfl (by decide) (by decide) (by decide) (by decide) (by decide) (vr := [(.int p0), (.int p0)]) rfl NF14 ge_ids (by rw [hml]; rfl) (hb hby d3_86) (by decide) 0 (Nat.le_of_eq rfl) (by decide) (pc' := 89) rfl ?_
      intro T15 h15 L15 X15 e15 NF15 Kq15 Vn15
      have V_ids := Vn15
      have V_a := V_a.keep Kq15 (ninS ne_a_ids nin0)
      have Zs := Nat.le_trans Zs Kq15.1
      have K15 := Kj3.trans Kq15 (allS (Or.inr sz_ids) all0)
      show G (T15.setTop (mkF m 89 _ []))
      refine g_aloadN hG X15 hx (hb hby d3_89) (pc' := 90) rfl rfl rfl ?_
      refine g_iload hG X15 hx (hb hby d3_90) (pc' := 92) rfl rfl ?_
      refine g_iload hG X15 hx (hb hby d3_92) (pc' := 94) rfl rfl ?_
      refine g_iastore hG X15 hx hZ e15 V_ids (j := (0 : Int32)) (by decide) (show Int32.toNatClampNeg (0 : Int32) < 2 by decide) (hb hby d3_94) (pc' := 95) rfl ?_
      intro T16 h16 X16 e16 W16 Vn16
      have V_ids : AV Z h16 ids .int (2 : Int32) [(.int 1), (.int p0)] := Vn16
      have V_a := V_a.other W16 ne_a_ids
      have Zs := Nat.le_trans Zs (Wr.size W16)
      have NF16 := Fr.snoc X16 NF15 ge_ids
      have K16 := K15.wr W16 (Or.inr sz_ids)
      refine g_iload hG X16 hx (hb hby d3_95) (pc' := 97) rfl rfl ?_
      refine g_iconst hG X16 hx (hb hby d3_97) (pc' := 98) rfl (v := (1 : Int32)) rfl ?_
      refine g_iadd hG X16 hx (hb hby d3_98) (pc' := 99) rfl (v := (2 : Int32)) (by decide) ?_
      refine g_aloadN hG X16 hx (hb hby d3_99) (pc' := 100) rfl rfl rfl ?_
      refine g_arraylength hG X16 hx hZ e16 V_ids (hb hby d3_100) (pc' := 101) rfl ?_
      refine g_callS hG X16 hx hZ (y := (⟨"java/lang/Math", "min", "(II)I"⟩ : MethodName)) 0 hown (wd hw 16 rfl) (wd hw 17 rfl) (wd hw 8 rfl) (wd hw 18 rfl) (by decide) (rmMI l Z a0 hw [] (2 : Int32) (2 : Int32) (2 : Int32) h16 n0 Zs (by decide)) (by decide) (by decide) (by rw [hml]; rfl) pd_3 rfl (argsL := [(.int 2), (.int 2)]) (rest := []) rfl rfl (Nat.le_of_eq rfl) (hb hby d3_101) e16 (by decide) (by decide) (pc' := 104) rfl ?_
      intro T17 rv17 L17 X17 hQ17
      obtain ⟨rfl, Nq17, eh17⟩ := hQ17
      have NF17 := Fr.app NF16 Nq17
      show G (T17.setTop (mkF m 104 _ [(.int 2)]))
      refine g_istore hG X17 hx (hb hby d3_104) (pc' := 106) rfl (Ls' := #[.val (.ref a), .val (.long lim), .second, .val (.ref ids), .val (.int 2), .val (.int 1), .val (.int 0), .val (.int 1)]) rfl ?_
      refine g_iinc hG X17 hx (hb hby d3_106) (pc' := 109) rfl rfl (v := (2 : Int32)) (by decide) (Ls' := #[.val (.ref a), .val (.long lim), .second, .val (.ref ids), .val (.int 2), .val (.int 2), .val (.int 0), .val (.int 1)]) rfl ?_
      refine g_goto hG X17 hx (hb hby d3_109) (pc' := 17) (by decide) (by decide) ?_
      exact J2 _ _ _ (1 : Int32) p0 (0 : Int32) (1 : Int32) X17 eh17 NF17 Zs K16 V_a V_ids (st_1_1_2_0 b01 b02 b03 b12 b13 b23 p0 TR HT1 g1_0)
    · skip
      refine g_ifYes hG Xj3 hx (hb hby d3_46) (pc' := 55) (by rcases gt_no (BT (1 : Int32) p0 (by decide) (in4_of bp0.1 (by omega))) g1_0 with z | z <;> rw [← q45, z] <;> rfl) (by decide) (by decide) ?_
      refine g_iload hG Xj3 hx (hb hby d3_55) (pc' := 57) rfl rfl ?_
      refine g_aloadN hG Xj3 hx (hb hby d3_57) (pc' := 58) rfl rfl rfl ?_
      refine g_arraylength hG Xj3 hx hZ ej3 V_ids (hb hby d3_58) (pc' := 59) rfl ?_
      refine g_icmpNo hG Xj3 hx (hb hby d3_59) (pc' := 62) (by decide) rfl ?_
      refine g_iload hG Xj3 hx (hb hby d3_62) (pc' := 64) rfl rfl ?_
      refine g_aloadN hG Xj3 hx (hb hby d3_64) (pc' := 65) rfl rfl rfl ?_
      refine g_arraylength hG Xj3 hx hZ ej3 V_ids (hb hby d3_65) (pc' := 66) rfl ?_
      refine g_iconst hG Xj3 hx (hb hby d3_66) (pc' := 67) rfl (v := (1 : Int32)) rfl ?_
      refine g_isub hG Xj3 hx (hb hby d3_67) (pc' := 68) rfl (v := (1 : Int32)) (by decide) ?_
      refine g_callS hG Xj3 hx hZ (y := (⟨"java/lang/Math", "min", "(II)I"⟩ : MethodName)) 0 hown (wd hw 16 rfl) (wd hw 17 rfl) (wd hw 8 rfl) (wd hw 18 rfl) (by decide) (rmMI l Z a0 hw [] (1 : Int32) (1 : Int32) (1 : Int32) hj3 n0 Zs (by decide)) (by decide) (by decide) (by rw [hml]; rfl) pd_3 rfl (argsL := [(.int 1), (.int 1)]) (rest := []) rfl rfl (Nat.le_of_eq rfl) (hb hby d3_68) ej3 (by decide) (by decide) (pc' := 71) rfl ?_
      intro T18 rv18 L18 X18 hQ18
      obtain ⟨rfl, Nq18, eh18⟩ := hQ18
      have NF18 := Fr.app NFj3 Nq18
      show G (T18.setTop (mkF m 71 _ [(.int 1)]))
      refine g_istore hG X18 hx (hb hby d3_71) (pc' := 73) rfl (Ls' := #[.val (.ref a), .val (.long lim), .second, .val (.ref ids), .val (.int 1), .val (.int 1), .val (.int 1), .val (.int 1)]) rfl ?_
      refine g_aloadN hG X18 hx (hb hby d3_73) (pc' := 74) rfl rfl rfl ?_
      refine g_iload hG X18 hx (hb hby d3_74) (pc' := 76) rfl rfl ?_
      refine g_aloadN hG X18 hx (hb hby d3_76) (pc' := 77) rfl rfl rfl ?_
      refine g_iload hG X18 hx (hb hby d3_77) (pc' := 79) rfl rfl ?_
      refine g_iconst hG X18 hx (hb hby d3_79) (pc' := 80) rfl (v := (1 : Int32)) rfl ?_
      refine g_iadd hG X18 hx (hb hby d3_80) (pc' := 81) rfl (v := (2 : Int32)) (by decide) ?_
      refine g_iload hG X18 hx (hb hby d3_81) (pc' := 83) rfl rfl ?_
      refine g_iload hG X18 hx (hb hby d3_83) (pc' := 85) rfl rfl ?_
      refine g_isub hG X18 hx (hb hby d3_85) (pc' := 86) rfl (v := (0 : Int32)) (by decide) ?_
      refine g_copy hG X18 hx hZ hown (wd hw 19 rfl) (wd hw 22 rfl) (wd hw 20 rfl) (wd hw 21 rfl) eh18 V_ids V_ids rfl (by decide) (by decide) (by decide) (by decide) (by decide) (vr := [(.int p0), (.int 0)]) rfl NF18 ge_ids (by rw [hml]; rfl) (hb hby d3_86) (by decide) 0 (Nat.le_of_eq rfl) (by decide) (pc' := 89) rfl ?_
      intro T19 h19 L19 X19 e19 NF19 Kq19 Vn19
      have V_ids := Vn19
      have V_a := V_a.keep Kq19 (ninS ne_a_ids nin0)
      have Zs := Nat.le_trans Zs Kq19.1
      have K19 := Kj3.trans Kq19 (allS (Or.inr sz_ids) all0)
      show G (T19.setTop (mkF m 89 _ []))
      refine g_aloadN hG X19 hx (hb hby d3_89) (pc' := 90) rfl rfl rfl ?_
      refine g_iload hG X19 hx (hb hby d3_90) (pc' := 92) rfl rfl ?_
      refine g_iload hG X19 hx (hb hby d3_92) (pc' := 94) rfl rfl ?_
      refine g_iastore hG X19 hx hZ e19 V_ids (j := (1 : Int32)) (by decide) (show Int32.toNatClampNeg (1 : Int32) < 2 by decide) (hb hby d3_94) (pc' := 95) rfl ?_
      intro T20 h20 X20 e20 W20 Vn20
      have V_ids : AV Z h20 ids .int (2 : Int32) [(.int p0), (.int 1)] := Vn20
      have V_a := V_a.other W20 ne_a_ids
      have Zs := Nat.le_trans Zs (Wr.size W20)
      have NF20 := Fr.snoc X20 NF19 ge_ids
      have K20 := K19.wr W20 (Or.inr sz_ids)
      refine g_iload hG X20 hx (hb hby d3_95) (pc' := 97) rfl rfl ?_
      refine g_iconst hG X20 hx (hb hby d3_97) (pc' := 98) rfl (v := (1 : Int32)) rfl ?_
      refine g_iadd hG X20 hx (hb hby d3_98) (pc' := 99) rfl (v := (2 : Int32)) (by decide) ?_
      refine g_aloadN hG X20 hx (hb hby d3_99) (pc' := 100) rfl rfl rfl ?_
      refine g_arraylength hG X20 hx hZ e20 V_ids (hb hby d3_100) (pc' := 101) rfl ?_
      refine g_callS hG X20 hx hZ (y := (⟨"java/lang/Math", "min", "(II)I"⟩ : MethodName)) 0 hown (wd hw 16 rfl) (wd hw 17 rfl) (wd hw 8 rfl) (wd hw 18 rfl) (by decide) (rmMI l Z a0 hw [] (2 : Int32) (2 : Int32) (2 : Int32) h20 n0 Zs (by decide)) (by decide) (by decide) (by rw [hml]; rfl) pd_3 rfl (argsL := [(.int 2), (.int 2)]) (rest := []) rfl rfl (Nat.le_of_eq rfl) (hb hby d3_101) e20 (by decide) (by decide) (pc' := 104) rfl ?_
      intro T21 rv21 L21 X21 hQ21
      obtain ⟨rfl, Nq21, eh21⟩ := hQ21
      have NF21 := Fr.app NF20 Nq21
      show G (T21.setTop (mkF m 104 _ [(.int 2)]))
      refine g_istore hG X21 hx (hb hby d3_104) (pc' := 106) rfl (Ls' := #[.val (.ref a), .val (.long lim), .second, .val (.ref ids), .val (.int 2), .val (.int 1), .val (.int 1), .val (.int 1)]) rfl ?_
      refine g_iinc hG X21 hx (hb hby d3_106) (pc' := 109) rfl rfl (v := (2 : Int32)) (by decide) (Ls' := #[.val (.ref a), .val (.long lim), .second, .val (.ref ids), .val (.int 2), .val (.int 2), .val (.int 1), .val (.int 1)]) rfl ?_
      refine g_goto hG X21 hx (hb hby d3_109) (pc' := 17) (by decide) (by decide) ?_
      exact J2 _ _ _ p0 (1 : Int32) (1 : Int32) (1 : Int32) X21 eh21 NF21 Zs K20 V_a V_ids (st_1_1_2_1 b01 b02 b03 b12 b13 b23 p0 TR HT1 g1_0)
  refine g_iload hG X2 hx (hb hby d3_17) (pc' := 19) rfl rfl ?_
  refine g_aloadN hG X2 hx (hb hby d3_19) (pc' := 20) rfl rfl rfl ?_
  refine g_arraylength hG X2 hx hZ e2 V_a (hb hby d3_20) (pc' := 21) rfl ?_
  refine g_icmpNo hG X2 hx (hb hby d3_21) (pc' := 24) (by decide) rfl ?_
  refine g_iload hG X2 hx (hb hby d3_24) (pc' := 26) rfl rfl ?_
  refine g_istore hG X2 hx (hb hby d3_26) (pc' := 28) rfl (Ls' := #[.val (.ref a), .val (.long lim), .second, .val (.ref ids), .val (.int 0), .val (.int 0), .val (.int 0), .unset]) rfl ?_
  refine g_iload hG X2 hx (hb hby d3_28) (pc' := 30) rfl rfl ?_
  refine g_ifYes hG X2 hx (hb hby d3_30) (pc' := 55) (by decide) (by decide) (by decide) ?_
  refine g_iload hG X2 hx (hb hby d3_55) (pc' := 57) rfl rfl ?_
  refine g_aloadN hG X2 hx (hb hby d3_57) (pc' := 58) rfl rfl rfl ?_
  refine g_arraylength hG X2 hx hZ e2 V_ids (hb hby d3_58) (pc' := 59) rfl ?_
  refine g_icmpNo hG X2 hx (hb hby d3_59) (pc' := 62) (by decide) rfl ?_
  refine g_iload hG X2 hx (hb hby d3_62) (pc' := 64) rfl rfl ?_
  refine g_aloadN hG X2 hx (hb hby d3_64) (pc' := 65) rfl rfl rfl ?_
  refine g_arraylength hG X2 hx hZ e2 V_ids (hb hby d3_65) (pc' := 66) rfl ?_
  refine g_iconst hG X2 hx (hb hby d3_66) (pc' := 67) rfl (v := (1 : Int32)) rfl ?_
  refine g_isub hG X2 hx (hb hby d3_67) (pc' := 68) rfl (v := (1 : Int32)) (by decide) ?_
  refine g_callS hG X2 hx hZ (y := (⟨"java/lang/Math", "min", "(II)I"⟩ : MethodName)) 0 hown (wd hw 16 rfl) (wd hw 17 rfl) (wd hw 8 rfl) (wd hw 18 rfl) (by decide) (rmMI l Z a0 hw [] (0 : Int32) (1 : Int32) (0 : Int32) h2 n0 Zs (by decide)) (by decide) (by decide) (by rw [hml]; rfl) pd_3 rfl (argsL := [(.int 0), (.int 1)]) (rest := []) rfl rfl (Nat.le_of_eq rfl) (hb hby d3_68) e2 (by decide) (by decide) (pc' := 71) rfl ?_
  intro T22 rv22 L22 X22 hQ22
  obtain ⟨rfl, Nq22, eh22⟩ := hQ22
  have NF22 := Fr.app NF1 Nq22
  show G (T22.setTop (mkF m 71 _ [(.int 0)]))
  refine g_istore hG X22 hx (hb hby d3_71) (pc' := 73) rfl (Ls' := #[.val (.ref a), .val (.long lim), .second, .val (.ref ids), .val (.int 0), .val (.int 0), .val (.int 0), .val (.int 0)]) rfl ?_
  refine g_aloadN hG X22 hx (hb hby d3_73) (pc' := 74) rfl rfl rfl ?_
  refine g_iload hG X22 hx (hb hby d3_74) (pc' := 76) rfl rfl ?_
  refine g_aloadN hG X22 hx (hb hby d3_76) (pc' := 77) rfl rfl rfl ?_
  refine g_iload hG X22 hx (hb hby d3_77) (pc' := 79) rfl rfl ?_
  refine g_iconst hG X22 hx (hb hby d3_79) (pc' := 80) rfl (v := (1 : Int32)) rfl ?_
  refine g_iadd hG X22 hx (hb hby d3_80) (pc' := 81) rfl (v := (1 : Int32)) (by decide) ?_
  refine g_iload hG X22 hx (hb hby d3_81) (pc' := 83) rfl rfl ?_
  refine g_iload hG X22 hx (hb hby d3_83) (pc' := 85) rfl rfl ?_
  refine g_isub hG X22 hx (hb hby d3_85) (pc' := 86) rfl (v := (0 : Int32)) (by decide) ?_
  refine g_copy hG X22 hx hZ hown (wd hw 19 rfl) (wd hw 22 rfl) (wd hw 20 rfl) (wd hw 21 rfl) eh22 V_ids V_ids rfl (by decide) (by decide) (by decide) (by decide) (by decide) (vr := [(.int 0), (.int 0)]) rfl NF22 ge_ids (by rw [hml]; rfl) (hb hby d3_86) (by decide) 0 (Nat.le_of_eq rfl) (by decide) (pc' := 89) rfl ?_
  intro T23 h23 L23 X23 e23 NF23 Kq23 Vn23
  have V_ids := Vn23
  have V_a := V_a.keep Kq23 (ninS ne_a_ids nin0)
  have Zs := Nat.le_trans Zs Kq23.1
  have K23 := K2.trans Kq23 (allS (Or.inr sz_ids) all0)
  show G (T23.setTop (mkF m 89 _ []))
  refine g_aloadN hG X23 hx (hb hby d3_89) (pc' := 90) rfl rfl rfl ?_
  refine g_iload hG X23 hx (hb hby d3_90) (pc' := 92) rfl rfl ?_
  refine g_iload hG X23 hx (hb hby d3_92) (pc' := 94) rfl rfl ?_
  refine g_iastore hG X23 hx hZ e23 V_ids (j := (0 : Int32)) (by decide) (show Int32.toNatClampNeg (0 : Int32) < 2 by decide) (hb hby d3_94) (pc' := 95) rfl ?_
  intro T24 h24 X24 e24 W24 Vn24
  have V_ids : AV Z h24 ids .int (2 : Int32) [(.int 0), (.int 0)] := Vn24
  have V_a := V_a.other W24 ne_a_ids
  have Zs := Nat.le_trans Zs (Wr.size W24)
  have NF24 := Fr.snoc X24 NF23 ge_ids
  have K24 := K23.wr W24 (Or.inr sz_ids)
  refine g_iload hG X24 hx (hb hby d3_95) (pc' := 97) rfl rfl ?_
  refine g_iconst hG X24 hx (hb hby d3_97) (pc' := 98) rfl (v := (1 : Int32)) rfl ?_
  refine g_iadd hG X24 hx (hb hby d3_98) (pc' := 99) rfl (v := (1 : Int32)) (by decide) ?_
  refine g_aloadN hG X24 hx (hb hby d3_99) (pc' := 100) rfl rfl rfl ?_
  refine g_arraylength hG X24 hx hZ e24 V_ids (hb hby d3_100) (pc' := 101) rfl ?_
  refine g_callS hG X24 hx hZ (y := (⟨"java/lang/Math", "min", "(II)I"⟩ : MethodName)) 0 hown (wd hw 16 rfl) (wd hw 17 rfl) (wd hw 8 rfl) (wd hw 18 rfl) (by decide) (rmMI l Z a0 hw [] (1 : Int32) (2 : Int32) (1 : Int32) h24 n0 Zs (by decide)) (by decide) (by decide) (by rw [hml]; rfl) pd_3 rfl (argsL := [(.int 1), (.int 2)]) (rest := []) rfl rfl (Nat.le_of_eq rfl) (hb hby d3_101) e24 (by decide) (by decide) (pc' := 104) rfl ?_
  intro T25 rv25 L25 X25 hQ25
  obtain ⟨rfl, Nq25, eh25⟩ := hQ25
  have NF25 := Fr.app NF24 Nq25
  show G (T25.setTop (mkF m 104 _ [(.int 1)]))
  refine g_istore hG X25 hx (hb hby d3_104) (pc' := 106) rfl (Ls' := #[.val (.ref a), .val (.long lim), .second, .val (.ref ids), .val (.int 1), .val (.int 0), .val (.int 0), .val (.int 0)]) rfl ?_
  refine g_iinc hG X25 hx (hb hby d3_106) (pc' := 109) rfl rfl (v := (1 : Int32)) (by decide) (Ls' := #[.val (.ref a), .val (.long lim), .second, .val (.ref ids), .val (.int 1), .val (.int 1), .val (.int 0), .val (.int 0)]) rfl ?_
  refine g_goto hG X25 hx (hb hby d3_109) (pc' := 17) (by decide) (by decide) ?_
  exact J1 _ _ _ (0 : Int32) (0 : Int32) (0 : Int32) X25 eh25 NF25 Zs K24 V_a V_ids (st_0_0_2_0 b01 b02 b03 b12 b13 b23  TR HT0 )

def Q_rmCk3_3_0 (Z : State) (a ids : Addr) (al : Int32 → UInt64) (bt : Int32 → Int32 → Bool) (p0 p1 p2 : Int32) (h0 : Heap) (n0 : Nat) (v : Option Value) (h : Heap) (L : List Loc) : Prop := v = some (.int 1) ∧ Fr n0 L ∧ h = h0
set_option maxRecDepth 65536 in
set_option maxHeartbeats 40000000 in
theorem rmCk3_3_0 (l : Launch) (Z : State) (a0 : Array Value) (hw : ∀ d ∈ tables_1, d.before a0 Z = true) (ws : List Jvm.Cond) (a ids : Addr) (al : Int32 → UInt64) (bt : Int32 → Int32 → Bool) (p0 p1 p2 : Int32) (h0 : Heap) (n0 : Nat) (Zs : n0 ≤ h0.size) (V_a : AV Z h0 a .double (3 : Int32) [(.double (al (0 : Int32))), (.double (al (1 : Int32))), (.double (al (2 : Int32)))]) (V_ids : AV Z h0 ids .int (3 : Int32) [(.int p0), (.int p1), (.int p2)]) (HT : tops bt 3 0 [p0, p1, p2] = true) (BT : ∀ x y, In4 x → In4 y → BtR al x y (bi bt x y)) :
    Con l (⟨"com/example/gauge_terms/gaugeterms/TopValuesPositionsPinLaw", "check", "([D[II)Z"⟩ : MethodName) method_5_code 4 (some .boolean) ws ({ frames := 2, cells := 0, slots := 0, locals := 56 } : Room) Z #[(.ref a), (.ref ids), (.int 0)] h0 ({ frames := 2, cells := 0, slots := 0, locals := 56 } : Room).cells ({ frames := 2, cells := 0, slots := 0, locals := 56 } : Room).slots (Q_rmCk3_3_0 Z a ids al bt p0 p1 p2 h0 n0) := by
  refine Con.of (Ls := #[.val (.ref a), .val (.ref ids), .val (.int 0), .unset]) (plainFor_of_name (by first | (simp [plainName, overriddenIn]; done) | decide +kernel)) (fun m => by first | (simp [entryFrame, mkF, argsToLocals, Value.category]; done) | rfl) ?_
  intro p e s m below meth c s₁ G hGe hG hx hby hml hown hnm hrt hlk hZ X0 e0
  have hown : s.vm.findClass "com/example/gauge_terms/gaugeterms/TopValuesPositionsPinLaw" = some m.cls := hown
  have hnm : meth.name = "check" := hnm
  have NF0 := Fr.nil n0
  have bj : 0 ≤ p0.toInt ∧ p0.toInt < 3 := tops_b HT p0 (by simp)
  have rj : rk3 bt p0 = (0 : Int32) := tops_r HT 0 p0 rfl
  refine g_iloadN hG X0 hx (hb hby d5_0) (pc' := 1) rfl rfl ?_
  refine g_aloadN hG X0 hx (hb hby d5_1) (pc' := 2) rfl rfl rfl ?_
  refine g_arraylength hG X0 hx hZ e0 V_ids (hb hby d5_2) (pc' := 3) rfl ?_
  refine g_icmpYes hG X0 hx (hb hby d5_3) (pc' := 8) (by decide) (by decide) (by decide) ?_
  refine g_aloadN hG X0 hx (hb hby d5_8) (pc' := 9) rfl rfl rfl ?_
  refine g_iloadN hG X0 hx (hb hby d5_9) (pc' := 10) rfl rfl ?_
  refine g_iaload hG X0 hx hZ e0 V_ids (j := (0 : Int32)) (v := (.int p0)) (by decide) rfl (hb hby d5_10) (pc' := 11) rfl ?_
  refine g_istoreN hG X0 hx (hb hby d5_11) (pc' := 12) rfl (Ls' := #[.val (.ref a), .val (.ref ids), .val (.int 0), .val (.int p0)]) rfl ?_
  refine g_iloadN hG X0 hx (hb hby d5_12) (pc' := 13) rfl rfl ?_
  refine g_ifNo hG X0 hx (hb hby d5_13) (pc' := 16) ((if0 _ _).trans (flt (nn_of bj.1)).1) rfl ?_
  refine g_iloadN hG X0 hx (hb hby d5_16) (pc' := 17) rfl rfl ?_
  refine g_aloadN hG X0 hx (hb hby d5_17) (pc' := 18) rfl rfl rfl ?_
  refine g_arraylength hG X0 hx hZ e0 V_a (hb hby d5_18) (pc' := 19) rfl ?_
  refine g_icmpYes hG X0 hx (hb hby d5_19) (pc' := 24) ((tlt (Int32.lt_iff_toInt_lt.mpr (by rw [show (3 : Int32).toInt = 3 by decide]; exact bj.2))).1) (by decide) (by decide) ?_
  refine g_aloadN hG X0 hx (hb hby d5_24) (pc' := 25) rfl rfl rfl ?_
  refine g_iloadN hG X0 hx (hb hby d5_25) (pc' := 26) rfl rfl ?_
  refine g_callS hG X0 hx hZ (y := (⟨"com/example/gauge_terms/gaugeterms/TopValuesPositionsPinLaw", "rank", "([DI)I"⟩ : MethodName)) 0 hown (wd hw 26 rfl) (wd hw 27 rfl) (wd hw 3 rfl) (wd hw 28 rfl) (by decide) (rmRk3 l Z a0 hw [] a al bt p0 (0 : Int32) h0 n0 Zs V_a bj BT rj) (by decide) (by decide) (by rw [hml]; rfl) pd_2 rfl (argsL := [(.ref a), (.int p0)]) (rest := []) rfl rfl (Nat.le_of_eq rfl) (hb hby d5_26) e0 (by decide) (by decide) (pc' := 29) rfl ?_
  intro T1 rv1 L1 X1 hQ1
  obtain ⟨rfl, Nq1, eh1⟩ := hQ1
  have NF1 := Fr.app NF0 Nq1
  show G (T1.setTop (mkF m 29 _ [(.int 0)]))
  refine g_iloadN hG X1 hx (hb hby d5_29) (pc' := 30) rfl rfl ?_
  refine g_icmpNo hG X1 hx (hb hby d5_30) (pc' := 33) (by decide) rfl ?_
  refine g_iconst hG X1 hx (hb hby d5_33) (pc' := 34) rfl (v := (1 : Int32)) rfl ?_
  refine g_goto hG X1 hx (hb hby d5_34) (pc' := 38) (by decide) (by decide) ?_
  exact e_retZ hGe X1 hx hrt hlk (hb hby d5_38) (Or.inr rfl) eh1 (by decide) (by decide) (⟨rfl, NF1, rfl⟩)

def Q_rmCk3_3_1 (Z : State) (a ids : Addr) (al : Int32 → UInt64) (bt : Int32 → Int32 → Bool) (p0 p1 p2 : Int32) (h0 : Heap) (n0 : Nat) (v : Option Value) (h : Heap) (L : List Loc) : Prop := v = some (.int 1) ∧ Fr n0 L ∧ h = h0
set_option maxRecDepth 65536 in
set_option maxHeartbeats 40000000 in
theorem rmCk3_3_1 (l : Launch) (Z : State) (a0 : Array Value) (hw : ∀ d ∈ tables_1, d.before a0 Z = true) (ws : List Jvm.Cond) (a ids : Addr) (al : Int32 → UInt64) (bt : Int32 → Int32 → Bool) (p0 p1 p2 : Int32) (h0 : Heap) (n0 : Nat) (Zs : n0 ≤ h0.size) (V_a : AV Z h0 a .double (3 : Int32) [(.double (al (0 : Int32))), (.double (al (1 : Int32))), (.double (al (2 : Int32)))]) (V_ids : AV Z h0 ids .int (3 : Int32) [(.int p0), (.int p1), (.int p2)]) (HT : tops bt 3 0 [p0, p1, p2] = true) (BT : ∀ x y, In4 x → In4 y → BtR al x y (bi bt x y)) :
    Con l (⟨"com/example/gauge_terms/gaugeterms/TopValuesPositionsPinLaw", "check", "([D[II)Z"⟩ : MethodName) method_5_code 4 (some .boolean) ws ({ frames := 2, cells := 0, slots := 0, locals := 56 } : Room) Z #[(.ref a), (.ref ids), (.int 1)] h0 ({ frames := 2, cells := 0, slots := 0, locals := 56 } : Room).cells ({ frames := 2, cells := 0, slots := 0, locals := 56 } : Room).slots (Q_rmCk3_3_1 Z a ids al bt p0 p1 p2 h0 n0) := by
  refine Con.of (Ls := #[.val (.ref a), .val (.ref ids), .val (.int 1), .unset]) (plainFor_of_name (by first | (simp [plainName, overriddenIn]; done) | decide +kernel)) (fun m => by first | (simp [entryFrame, mkF, argsToLocals, Value.category]; done) | rfl) ?_
  intro p e s m below meth c s₁ G hGe hG hx hby hml hown hnm hrt hlk hZ X0 e0
  have hown : s.vm.findClass "com/example/gauge_terms/gaugeterms/TopValuesPositionsPinLaw" = some m.cls := hown
  have hnm : meth.name = "check" := hnm
  have NF0 := Fr.nil n0
  have bj : 0 ≤ p1.toInt ∧ p1.toInt < 3 := tops_b HT p1 (by simp)
  have rj : rk3 bt p1 = (1 : Int32) := tops_r HT 1 p1 rfl
  refine g_iloadN hG X0 hx (hb hby d5_0) (pc' := 1) rfl rfl ?_
  refine g_aloadN hG X0 hx (hb hby d5_1) (pc' := 2) rfl rfl rfl ?_
  refine g_arraylength hG X0 hx hZ e0 V_ids (hb hby d5_2) (pc' := 3) rfl ?_
  refine g_icmpYes hG X0 hx (hb hby d5_3) (pc' := 8) (by decide) (by decide) (by decide) ?_
  refine g_aloadN hG X0 hx (hb hby d5_8) (pc' := 9) rfl rfl rfl ?_
  refine g_iloadN hG X0 hx (hb hby d5_9) (pc' := 10) rfl rfl ?_
  refine g_iaload hG X0 hx hZ e0 V_ids (j := (1 : Int32)) (v := (.int p1)) (by decide) rfl (hb hby d5_10) (pc' := 11) rfl ?_
  refine g_istoreN hG X0 hx (hb hby d5_11) (pc' := 12) rfl (Ls' := #[.val (.ref a), .val (.ref ids), .val (.int 1), .val (.int p1)]) rfl ?_
  refine g_iloadN hG X0 hx (hb hby d5_12) (pc' := 13) rfl rfl ?_
  refine g_ifNo hG X0 hx (hb hby d5_13) (pc' := 16) ((if0 _ _).trans (flt (nn_of bj.1)).1) rfl ?_
  refine g_iloadN hG X0 hx (hb hby d5_16) (pc' := 17) rfl rfl ?_
  refine g_aloadN hG X0 hx (hb hby d5_17) (pc' := 18) rfl rfl rfl ?_
  refine g_arraylength hG X0 hx hZ e0 V_a (hb hby d5_18) (pc' := 19) rfl ?_
  refine g_icmpYes hG X0 hx (hb hby d5_19) (pc' := 24) ((tlt (Int32.lt_iff_toInt_lt.mpr (by rw [show (3 : Int32).toInt = 3 by decide]; exact bj.2))).1) (by decide) (by decide) ?_
  refine g_aloadN hG X0 hx (hb hby d5_24) (pc' := 25) rfl rfl rfl ?_
  refine g_iloadN hG X0 hx (hb hby d5_25) (pc' := 26) rfl rfl ?_
  refine g_callS hG X0 hx hZ (y := (⟨"com/example/gauge_terms/gaugeterms/TopValuesPositionsPinLaw", "rank", "([DI)I"⟩ : MethodName)) 0 hown (wd hw 26 rfl) (wd hw 27 rfl) (wd hw 3 rfl) (wd hw 28 rfl) (by decide) (rmRk3 l Z a0 hw [] a al bt p1 (1 : Int32) h0 n0 Zs V_a bj BT rj) (by decide) (by decide) (by rw [hml]; rfl) pd_2 rfl (argsL := [(.ref a), (.int p1)]) (rest := []) rfl rfl (Nat.le_of_eq rfl) (hb hby d5_26) e0 (by decide) (by decide) (pc' := 29) rfl ?_
  intro T1 rv1 L1 X1 hQ1
  obtain ⟨rfl, Nq1, eh1⟩ := hQ1
  have NF1 := Fr.app NF0 Nq1
  show G (T1.setTop (mkF m 29 _ [(.int 1)]))
  refine g_iloadN hG X1 hx (hb hby d5_29) (pc' := 30) rfl rfl ?_
  refine g_icmpNo hG X1 hx (hb hby d5_30) (pc' := 33) (by decide) rfl ?_
  refine g_iconst hG X1 hx (hb hby d5_33) (pc' := 34) rfl (v := (1 : Int32)) rfl ?_
  refine g_goto hG X1 hx (hb hby d5_34) (pc' := 38) (by decide) (by decide) ?_
  exact e_retZ hGe X1 hx hrt hlk (hb hby d5_38) (Or.inr rfl) eh1 (by decide) (by decide) (⟨rfl, NF1, rfl⟩)

def Q_rmCk3_3_2 (Z : State) (a ids : Addr) (al : Int32 → UInt64) (bt : Int32 → Int32 → Bool) (p0 p1 p2 : Int32) (h0 : Heap) (n0 : Nat) (v : Option Value) (h : Heap) (L : List Loc) : Prop := v = some (.int 1) ∧ Fr n0 L ∧ h = h0
set_option maxRecDepth 65536 in
set_option maxHeartbeats 40000000 in
theorem rmCk3_3_2 (l : Launch) (Z : State) (a0 : Array Value) (hw : ∀ d ∈ tables_1, d.before a0 Z = true) (ws : List Jvm.Cond) (a ids : Addr) (al : Int32 → UInt64) (bt : Int32 → Int32 → Bool) (p0 p1 p2 : Int32) (h0 : Heap) (n0 : Nat) (Zs : n0 ≤ h0.size) (V_a : AV Z h0 a .double (3 : Int32) [(.double (al (0 : Int32))), (.double (al (1 : Int32))), (.double (al (2 : Int32)))]) (V_ids : AV Z h0 ids .int (3 : Int32) [(.int p0), (.int p1), (.int p2)]) (HT : tops bt 3 0 [p0, p1, p2] = true) (BT : ∀ x y, In4 x → In4 y → BtR al x y (bi bt x y)) :
    Con l (⟨"com/example/gauge_terms/gaugeterms/TopValuesPositionsPinLaw", "check", "([D[II)Z"⟩ : MethodName) method_5_code 4 (some .boolean) ws ({ frames := 2, cells := 0, slots := 0, locals := 56 } : Room) Z #[(.ref a), (.ref ids), (.int 2)] h0 ({ frames := 2, cells := 0, slots := 0, locals := 56 } : Room).cells ({ frames := 2, cells := 0, slots := 0, locals := 56 } : Room).slots (Q_rmCk3_3_2 Z a ids al bt p0 p1 p2 h0 n0) := by
  refine Con.of (Ls := #[.val (.ref a), .val (.ref ids), .val (.int 2), .unset]) (plainFor_of_name (by first | (simp [plainName, overriddenIn]; done) | decide +kernel)) (fun m => by first | (simp [entryFrame, mkF, argsToLocals, Value.category]; done) | rfl) ?_
  intro p e s m below meth c s₁ G hGe hG hx hby hml hown hnm hrt hlk hZ X0 e0
  have hown : s.vm.findClass "com/example/gauge_terms/gaugeterms/TopValuesPositionsPinLaw" = some m.cls := hown
  have hnm : meth.name = "check" := hnm
  have NF0 := Fr.nil n0
  have bj : 0 ≤ p2.toInt ∧ p2.toInt < 3 := tops_b HT p2 (by simp)
  have rj : rk3 bt p2 = (2 : Int32) := tops_r HT 2 p2 rfl
  refine g_iloadN hG X0 hx (hb hby d5_0) (pc' := 1) rfl rfl ?_
  refine g_aloadN hG X0 hx (hb hby d5_1) (pc' := 2) rfl rfl rfl ?_
  refine g_arraylength hG X0 hx hZ e0 V_ids (hb hby d5_2) (pc' := 3) rfl ?_
  refine g_icmpYes hG X0 hx (hb hby d5_3) (pc' := 8) (by decide) (by decide) (by decide) ?_
  refine g_aloadN hG X0 hx (hb hby d5_8) (pc' := 9) rfl rfl rfl ?_
  refine g_iloadN hG X0 hx (hb hby d5_9) (pc' := 10) rfl rfl ?_
  refine g_iaload hG X0 hx hZ e0 V_ids (j := (2 : Int32)) (v := (.int p2)) (by decide) rfl (hb hby d5_10) (pc' := 11) rfl ?_
  refine g_istoreN hG X0 hx (hb hby d5_11) (pc' := 12) rfl (Ls' := #[.val (.ref a), .val (.ref ids), .val (.int 2), .val (.int p2)]) rfl ?_
  refine g_iloadN hG X0 hx (hb hby d5_12) (pc' := 13) rfl rfl ?_
  refine g_ifNo hG X0 hx (hb hby d5_13) (pc' := 16) ((if0 _ _).trans (flt (nn_of bj.1)).1) rfl ?_
  refine g_iloadN hG X0 hx (hb hby d5_16) (pc' := 17) rfl rfl ?_
  refine g_aloadN hG X0 hx (hb hby d5_17) (pc' := 18) rfl rfl rfl ?_
  refine g_arraylength hG X0 hx hZ e0 V_a (hb hby d5_18) (pc' := 19) rfl ?_
  refine g_icmpYes hG X0 hx (hb hby d5_19) (pc' := 24) ((tlt (Int32.lt_iff_toInt_lt.mpr (by rw [show (3 : Int32).toInt = 3 by decide]; exact bj.2))).1) (by decide) (by decide) ?_
  refine g_aloadN hG X0 hx (hb hby d5_24) (pc' := 25) rfl rfl rfl ?_
  refine g_iloadN hG X0 hx (hb hby d5_25) (pc' := 26) rfl rfl ?_
  refine g_callS hG X0 hx hZ (y := (⟨"com/example/gauge_terms/gaugeterms/TopValuesPositionsPinLaw", "rank", "([DI)I"⟩ : MethodName)) 0 hown (wd hw 26 rfl) (wd hw 27 rfl) (wd hw 3 rfl) (wd hw 28 rfl) (by decide) (rmRk3 l Z a0 hw [] a al bt p2 (2 : Int32) h0 n0 Zs V_a bj BT rj) (by decide) (by decide) (by rw [hml]; rfl) pd_2 rfl (argsL := [(.ref a), (.int p2)]) (rest := []) rfl rfl (Nat.le_of_eq rfl) (hb hby d5_26) e0 (by decide) (by decide) (pc' := 29) rfl ?_
  intro T1 rv1 L1 X1 hQ1
  obtain ⟨rfl, Nq1, eh1⟩ := hQ1
  have NF1 := Fr.app NF0 Nq1
  show G (T1.setTop (mkF m 29 _ [(.int 2)]))
  refine g_iloadN hG X1 hx (hb hby d5_29) (pc' := 30) rfl rfl ?_
  refine g_icmpNo hG X1 hx (hb hby d5_30) (pc' := 33) (by decide) rfl ?_
  refine g_iconst hG X1 hx (hb hby d5_33) (pc' := 34) rfl (v := (1 : Int32)) rfl ?_
  refine g_goto hG X1 hx (hb hby d5_34) (pc' := 38) (by decide) (by decide) ?_
  exact e_retZ hGe X1 hx hrt hlk (hb hby d5_38) (Or.inr rfl) eh1 (by decide) (by decide) (⟨rfl, NF1, rfl⟩)

def Q_rmCz3_3 (Z : State) (a ids : Addr) (p0 p1 p2 : Int32) (h0 : Heap) (n0 : Nat) (v : Option Value) (h : Heap) (L : List Loc) : Prop := v = some (.int 1) ∧ Fr n0 L ∧ h = h0
set_option maxRecDepth 65536 in
set_option maxHeartbeats 40000000 in
theorem rmCz3_3 (l : Launch) (Z : State) (a0 : Array Value) (hw : ∀ d ∈ tables_1, d.before a0 Z = true) (ws : List Jvm.Cond) (a ids : Addr) (p0 p1 p2 : Int32) (h0 : Heap) (n0 : Nat) (Zs : n0 ≤ h0.size) (V_ids : AV Z h0 ids .int (3 : Int32) [(.int p0), (.int p1), (.int p2)]) :
    Con l (⟨"com/example/gauge_terms/gaugeterms/TopValuesPositionsPinLaw", "check", "([D[II)Z"⟩ : MethodName) method_5_code 4 (some .boolean) ws ({ frames := 2, cells := 0, slots := 0, locals := 56 } : Room) Z #[(.ref a), (.ref ids), (.int 3)] h0 ({ frames := 2, cells := 0, slots := 0, locals := 56 } : Room).cells ({ frames := 2, cells := 0, slots := 0, locals := 56 } : Room).slots (Q_rmCz3_3 Z a ids p0 p1 p2 h0 n0) := by
  refine Con.of (Ls := #[.val (.ref a), .val (.ref ids), .val (.int 3), .unset]) (plainFor_of_name (by first | (simp [plainName, overriddenIn]; done) | decide +kernel)) (fun m => by first | (simp [entryFrame, mkF, argsToLocals, Value.category]; done) | rfl) ?_
  intro p e s m below meth c s₁ G hGe hG hx hby hml hown hnm hrt hlk hZ X0 e0
  have hown : s.vm.findClass "com/example/gauge_terms/gaugeterms/TopValuesPositionsPinLaw" = some m.cls := hown
  have hnm : meth.name = "check" := hnm
  have NF0 := Fr.nil n0
  refine g_iloadN hG X0 hx (hb hby d5_0) (pc' := 1) rfl rfl ?_
  show G (s₁.setTop (mkF m 1 #[.val (.ref a), .val (.ref ids), .val (.int 3), .unset] [(.int 3)]))
  refine g_aloadN hG X0 hx (hb hby d5_1) (pc' := 2) rfl rfl rfl ?_
  show G (s₁.setTop (mkF m 2 #[.val (.ref a), .val (.ref ids), .val (.int 3), .unset] [(.ref ids), (.int 3)]))
  refine g_arraylength hG X0 hx hZ e0 V_ids (hb hby d5_2) (pc' := 3) rfl ?_
  show G (s₁.setTop (mkF m 3 #[.val (.ref a), .val (.ref ids), .val (.int 3), .unset] [(.int 3), (.int 3)]))
  refine g_icmpNo hG X0 hx (hb hby d5_3) (pc' := 6) (by decide) rfl ?_
  show G (s₁.setTop (mkF m 6 #[.val (.ref a), .val (.ref ids), .val (.int 3), .unset] []))
  refine g_iconst hG X0 hx (hb hby d5_6) (pc' := 7) rfl (v := (1 : Int32)) rfl ?_
  show G (s₁.setTop (mkF m 7 #[.val (.ref a), .val (.ref ids), .val (.int 3), .unset] [(.int 1)]))
  exact e_retZ hGe X0 hx hrt hlk (hb hby d5_7) (Or.inr rfl) e0 (by decide) (by decide) (⟨rfl, NF0, rfl⟩)

def Q_rmPos3_3 (Z : State) (a : Addr) (al : Int32 → UInt64) (b01 b02 b03 b12 b13 b23 : Bool) (lim r : Int64) (h0 : Heap) (n0 : Nat) (v : Option Value) (h : Heap) (L : List Loc) : Prop := ∃ (b : Addr) (p0 p1 p2 : Int32), v = some (.ref b) ∧ Fr n0 L ∧ Keep h0 h [] ∧ h0.size ≤ b ∧ (AV Z h b .int (3 : Int32) [(.int p0), (.int p1), (.int p2)]) ∧ tops (btB b01 b02 b03 b12 b13 b23) 3 0 [p0, p1, p2] = true
set_option maxRecDepth 65536 in
set_option maxHeartbeats 40000000 in
theorem rmPos3_3 (l : Launch) (Z : State) (a0 : Array Value) (hw : ∀ d ∈ tables_1, d.before a0 Z = true) (ws : List Jvm.Cond) (a : Addr) (al : Int32 → UInt64) (b01 b02 b03 b12 b13 b23 : Bool) (lim r : Int64) (h0 : Heap) (n0 : Nat) (Zs : n0 ≤ h0.size) (V_a : AV Z h0 a .double (3 : Int32) [(.double (al (0 : Int32))), (.double (al (1 : Int32))), (.double (al (2 : Int32)))]) (TR : trB b01 b02 b03 b12 b13 b23 = true) (BT : ∀ x y, In4 x → In4 y → BtR al x y (bi (btB b01 b02 b03 b12 b13 b23) x y)) (hm : (¬ (3 : Int32).toInt64 < lim ∧ r = lim) ∨ ((3 : Int32).toInt64 < lim ∧ r = (3 : Int32).toInt64)) (hk : r.toInt32 = (3 : Int32)) :
    Con l (⟨"com/example/gauge_terms/gaugeterms/TopValues", "positions", "([DJ)[I"⟩ : MethodName) prog_3_method_2_code 8 (some (.array .int)) ws ({ frames := 1, cells := 1, slots := 3, locals := 40 } : Room) Z #[(.ref a), (.long lim)] h0 ({ frames := 1, cells := 1, slots := 3, locals := 40 } : Room).cells ({ frames := 1, cells := 1, slots := 3, locals := 40 } : Room).slots (Q_rmPos3_3 Z a al b01 b02 b03 b12 b13 b23 lim r h0 n0) := by
  refine Con.of (Ls := #[.val (.ref a), .val (.long lim), .second, .unset, .unset, .unset, .unset, .unset]) (plainFor_of_name (by first | (simp [plainName, overriddenIn]; done) | decide +kernel)) (fun m => by first | (simp [entryFrame, mkF, argsToLocals, Value.category]; done) | rfl) ?_
  intro p e s m below meth c s₁ G hGe hG hx hby hml hown hnm hrt hlk hZ X0 e0
  have hown : s.vm.findClass "com/example/gauge_terms/gaugeterms/TopValues" = some m.cls := hown
  have hnm : meth.name = "positions" := hnm
  have NF0 := Fr.nil n0
  have K0 := Keep.refl h0 ([] : List Addr)
  have HT0 : tops (btB b01 b02 b03 b12 b13 b23) 0 0 [] = true := rfl
  refine g_lloadN hG X0 hx (hb hby d3_0) (pc' := 1) rfl rfl ?_
  refine g_aloadN hG X0 hx (hb hby d3_1) (pc' := 2) rfl rfl rfl ?_
  refine g_arraylength hG X0 hx hZ e0 V_a (hb hby d3_2) (pc' := 3) rfl ?_
  obtain ⟨v3, q3⟩ : ∃ zz : Int64, (3 : Int32).toInt64 = zz := ⟨_, rfl⟩
  refine g_i2l hG X0 hx (hb hby d3_3) (pc' := 4) rfl q3 ?_
  refine g_callS hG X0 hx hZ (y := (⟨"java/lang/Math", "min", "(JJ)J"⟩ : MethodName)) 0 hown (wd hw 14 rfl) (wd hw 7 rfl) (wd hw 8 rfl) (wd hw 9 rfl) (by decide) (rmMJ l Z a0 hw [] lim v3 r h0 n0 Zs (q3 ▸ hm)) (by decide) (by decide) (by rw [hml]; rfl) pd_0 rfl (argsL := [(.long lim), (.long v3)]) (rest := []) rfl rfl (Nat.le_of_eq rfl) (hb hby d3_4) e0 (by decide) (by decide) (pc' := 7) rfl ?_
  intro T1 rv1 L1 X1 hQ1
  obtain ⟨rfl, Nq1, eh1⟩ := hQ1
  have NF1 := Fr.app NF0 Nq1
  show G (T1.setTop (mkF m 7 _ [(.long r)]))
  refine g_l2i hG X1 hx (hb hby d3_7) (pc' := 8) rfl hk ?_
  refine g_newP hG X1 hx hZ (wd hw 15 rfl) eh1 (hb hby d3_8) (by decide) 3 (by decide) (by decide) (by decide) (by decide) (pc' := 10) rfl ?_
  intro T2 h2 ids kA2 gs2 X2 e2 E2 A2
  have ne_a_ids : a ≠ ids := Nat.ne_of_lt (gs2 ▸ V_a.lt)
  have ge_ids : n0 ≤ ids := gs2 ▸ Zs
  have sz_ids : h0.size ≤ ids := gs2 ▸ K0.1
  have Zs := Nat.le_trans Zs E2.1
  have V_a := V_a.ext E2
  have K2 := K0.ext E2
  have V_ids : AV Z h2 ids .int (3 : Int32) [(.int 0), (.int 0), (.int 0)] := AV.new A2
  refine g_astoreN hG X2 hx (hb hby d3_10) (pc' := 11) rfl rfl (Ls' := #[.val (.ref a), .val (.long lim), .second, .val (.ref ids), .unset, .unset, .unset, .unset]) rfl ?_
  refine g_iconst hG X2 hx (hb hby d3_11) (pc' := 12) rfl (v := (0 : Int32)) rfl ?_
  refine g_istore hG X2 hx (hb hby d3_12) (pc' := 14) rfl (Ls' := #[.val (.ref a), .val (.long lim), .second, .val (.ref ids), .val (.int 0), .unset, .unset, .unset]) rfl ?_
  refine g_iconst hG X2 hx (hb hby d3_14) (pc' := 15) rfl (v := (0 : Int32)) rfl ?_
  refine g_istore hG X2 hx (hb hby d3_15) (pc' := 17) rfl (Ls' := #[.val (.ref a), .val (.long lim), .second, .val (.ref ids), .val (.int 0), .val (.int 0), .unset, .unset]) rfl ?_
  have J1 : ∀ (Tj3 : State) (hj3 : Heap) (Lj3 : List Loc) (p0 : Int32) (w6 w7 : Int32), Stand p l e ({ frames := 1, cells := 1, slots := 3, locals := 40 } : Room) s m #[(.ref a), (.long lim)] below meth c Tj3 Lj3 1 3 → Tj3.heap = hj3 → Fr n0 Lj3 → n0 ≤ hj3.size → Keep h0 hj3 [] → AV Z hj3 a .double (3 : Int32) [(.double (al (0 : Int32))), (.double (al (1 : Int32))), (.double (al (2 : Int32)))] → AV Z hj3 ids .int (3 : Int32) [(.int p0), (.int 0), (.int 0)] → tops (btB b01 b02 b03 b12 b13 b23) 1 0 [p0] = true → G (Tj3.setTop (mkF m 17 #[.val (.ref a), .val (.long lim), .second, .val (.ref ids), .val (.int 1), .val (.int 1), .val (.int w6), .val (.int w7)] [])) := by
    intro Tj3 hj3 Lj3 p0 w6 w7 Xj3 ej3 NFj3 Zs Kj3 V_a V_ids HT1
    have bp0 : 0 ≤ p0.toInt ∧ p0.toInt < 1 := tops_b HT1 p0 (by simp)
    have J2 : ∀ (Tj4 : State) (hj4 : Heap) (Lj4 : List Loc) (p0 p1 : Int32) (w6 w7 : Int32), Stand p l e ({ frames := 1, cells := 1, slots := 3, locals := 40 } : Room) s m #[(.ref a), (.long lim)] below meth c Tj4 Lj4 1 3 → Tj4.heap = hj4 → Fr n0 Lj4 → n0 ≤ hj4.size → Keep h0 hj4 [] → AV Z hj4 a .double (3 : Int32) [(.double (al (0 : Int32))), (.double (al (1 : Int32))), (.double (al (2 : Int32)))] → AV Z hj4 ids .int (3 : Int32) [(.int p0), (.int p1), (.int 0)] → tops (btB b01 b02 b03 b12 b13 b23) 2 0 [p0, p1] = true → G (Tj4.setTop (mkF m 17 #[.val (.ref a), .val (.long lim), .second, .val (.ref ids), .val (.int 2), .val (.int 2), .val (.int w6), .val (.int w7)] [])) := by
      intro Tj4 hj4 Lj4 p0 p1 w6 w7 Xj4 ej4 NFj4 Zs Kj4 V_a V_ids HT2
      have bp0 : 0 ≤ p0.toInt ∧ p0.toInt < 2 := tops_b HT2 p0 (by simp)
      have bp1 : 0 ≤ p1.toInt ∧ p1.toInt < 2 := tops_b HT2 p1 (by simp)
      have J3 : ∀ (Tj5 : State) (hj5 : Heap) (Lj5 : List Loc) (p0 p1 p2 : Int32) (w6 w7 : Int32), Stand p l e ({ frames := 1, cells := 1, slots := 3, locals := 40 } : Room) s m #[(.ref a), (.long lim)] below meth c Tj5 Lj5 1 3 → Tj5.heap = hj5 → Fr n0 Lj5 → n0 ≤ hj5.size → Keep h0 hj5 [] → AV Z hj5 a .double (3 : Int32) [(.double (al (0 : Int32))), (.double (al (1 : Int32))), (.double (al (2 : Int32)))] → AV Z hj5 ids .int (3 : Int32) [(.int p0), (.int p1), (.int p2)] → tops (btB b01 b02 b03 b12 b13 b23) 3 0 [p0, p1, p2] = true → G (Tj5.setTop (mkF m 17 #[.val (.ref a), .val (.long lim), .second, .val (.ref ids), .val (.int 3), .val (.int 3), .val (.int w6), .val (.int w7)] [])) := by
        intro Tj5 hj5 Lj5 p0 p1 p2 w6 w7 Xj5 ej5 NFj5 Zs Kj5 V_a V_ids HT3
        have bp0 : 0 ≤ p0.toInt ∧ p0.toInt < 3 := tops_b HT3 p0 (by simp)
        have bp1 : 0 ≤ p1.toInt ∧ p1.toInt < 3 := tops_b HT3 p1 (by simp)
        have bp2 : 0 ≤ p2.toInt ∧ p2.toInt < 3 := tops_b HT3 p2 (by simp)
        refine g_iload hG Xj5 hx (hb hby d3_17) (pc' := 19) rfl rfl ?_
        refine g_aloadN hG Xj5 hx (hb hby d3_19) (pc' := 20) rfl rfl rfl ?_
        refine g_arraylength hG Xj5 hx hZ ej5 V_a (hb hby d3_20) (pc' := 21) rfl ?_
        refine g_icmpYes hG Xj5 hx (hb hby d3_21) (pc' := 112) (by decide) (by decide) (by decide) ?_
        refine g_aloadN hG Xj5 hx (hb hby d3_112) (pc' := 113) rfl rfl rfl ?_
        exact e_retA hGe Xj5 hx hrt rfl hlk (hb hby d3_113) ej5 (by decide) (by decide) (⟨ids, p0, p1, p2,  rfl, NFj5, Kj5, sz_ids, V_ids, HT3⟩)
      refine g_iload hG Xj4 hx (hb hby d3_17) (pc' := 19) rfl rfl ?_
      refine g_aloadN hG Xj4 hx (hb hby d3_19) (pc' := 20) rfl rfl rfl ?_
      refine g_arraylength hG Xj4 hx hZ ej4 V_a (hb hby d3_20) (pc' := 21) rfl ?_
      refine g_icmpNo hG Xj4 hx (hb hby d3_21) (pc' := 24) (by decide) rfl ?_
      refine g_iload hG Xj4 hx (hb hby d3_24) (pc' := 26) rfl rfl ?_
      refine g_istore hG Xj4 hx (hb hby d3_26) (pc' := 28) rfl (Ls' := #[.val (.ref a), .val (.long lim), .second, .val (.ref ids), .val (.int 2), .val (.int 2), .val (.int 2), .val (.int w7)]) rfl ?_
      refine g_iload hG Xj4 hx (hb hby d3_28) (pc' := 30) rfl rfl ?_
      refine g_ifNo hG Xj4 hx (hb hby d3_30) (pc' := 33) (by decide) rfl ?_
      refine g_aloadN hG Xj4 hx (hb hby d3_33) (pc' := 34) rfl rfl rfl ?_
      refine g_iload hG Xj4 hx (hb hby d3_34) (pc' := 36) rfl rfl ?_
      refine g_daload hG Xj4 hx hZ ej4 V_a (j := (2 : Int32)) (v := (.double (al (2 : Int32)))) (by decide) rfl (hb hby d3_36) (pc' := 37) rfl ?_
      refine g_aloadN hG Xj4 hx (hb hby d3_37) (pc' := 38) rfl rfl rfl ?_
      refine g_aloadN hG Xj4 hx (hb hby d3_38) (pc' := 39) rfl rfl rfl ?_
      refine g_iload hG Xj4 hx (hb hby d3_39) (pc' := 41) rfl rfl ?_
      refine g_iconst hG Xj4 hx (hb hby d3_41) (pc' := 42) rfl (v := (1 : Int32)) rfl ?_
      refine g_isub hG Xj4 hx (hb hby d3_42) (pc' := 43) rfl (v := (1 : Int32)) (by decide) ?_
      refine g_iaload hG Xj4 hx hZ ej4 V_ids (j := (1 : Int32)) (v := (.int p1)) (by decide) rfl (hb hby d3_43) (pc' := 44) rfl ?_
      refine g_daload hG Xj4 hx hZ ej4 V_a (j := p1) (v := (.double (al p1))) (nn_of bp1.1) (al_at3 (in3_of bp1.1 (by omega))) (hb hby d3_44) (pc' := 45) rfl ?_
      obtain ⟨v45, q45⟩ : ∃ zz : Int32, cmpValue (FP.dcmp (al (2 : Int32)) (al p1)) .l = zz := ⟨_, rfl⟩
      refine g_dcmp hG Xj4 hx (hb hby d3_45) (pc' := 46) rfl q45 ?_
      by_cases g2_1 : (btB b01 b02 b03 b12 b13 b23) (2 : Int32) p1 = true
      · skip
        refine g_ifNo hG Xj4 hx (hb hby d3_46) (pc' := 49) (by rw [← q45, gt_yes (BT (2 : Int32) p1 (by decide) (in4_of bp1.1 (by omega))) (fun g => by have := Int32.lt_iff_toInt_lt.mp g; rw [show (2 : Int32).toInt = 2 by decide] at this; omega) g2_1]; rfl) rfl ?_
        refine g_iinc hG Xj4 hx (hb hby d3_49) (pc' := 52) rfl rfl (v := (1 : Int32)) (by decide) (Ls' := #[.val (.ref a), .val (.long lim), .second, .val (.ref ids), .val (.int 2), .val (.int 2), .val (.int 1), .val (.int w7)]) rfl ?_
        refine g_goto hG Xj4 hx (hb hby d3_52) (pc' := 28) (by decide) (by decide) ?_
        refine g_iload hG Xj4 hx (hb hby d3_28) (pc' := 30) rfl rfl ?_
        refine g_ifNo hG Xj4 hx (hb hby d3_30) (pc' := 33) (by decide) rfl ?_
        refine g_aloadN hG Xj4 hx (hb hby d3_33) (pc' := 34) rfl rfl rfl ?_
        refine g_iload hG Xj4 hx (hb hby d3_34) (pc' := 36) rfl rfl ?_
        refine g_daload hG Xj4 hx hZ ej4 V_a (j := (2 : Int32)) (v := (.double (al (2 : Int32)))) (by decide) rfl (hb hby d3_36) (pc' := 37) rfl ?_
        refine g_aloadN hG Xj4 hx (hb hby d3_37) (pc' := 38) rfl rfl rfl ?_
        refine g_aloadN hG Xj4 hx (hb hby d3_38) (pc' := 39) rfl rfl rfl ?_
        refine g_iload hG Xj4 hx (hb hby d3_39) (pc' := 41) rfl rfl ?_
        refine g_iconst hG Xj4 hx (hb hby d3_41) (pc' := 42) rfl (v := (1 : Int32)) rfl ?_
        refine g_isub hG Xj4 hx (hb hby d3_42) (pc' := 43) rfl (v := (0 : Int32)) (by decide) ?_
        refine g_iaload hG Xj4 hx hZ ej4 V_ids (j := (0 : Int32)) (v := (.int p0)) (by decide) rfl (hb hby d3_43) (pc' := 44) rfl ?_
        refine g_daload hG Xj4 hx hZ ej4 V_a (j := p0) (v := (.double (al p0))) (nn_of bp0.1) (al_at3 (in3_of bp0.1 (by omega))) (hb hby d3_44) (pc' := 45) rfl ?_
        obtain ⟨v45_1, q45_1⟩ : ∃ zz : Int32, cmpValue (FP.dcmp (al (2 : Int32)) (al p0)) .l = zz := ⟨_, rfl⟩
        refine g_dcmp hG Xj4 hx (hb hby d3_45) (pc' := 46) rfl q45_1 ?_
        by_cases g2_0 : (btB b01 b02 b03 b12 b13 b23) (2 : Int32) p0 = true
        · skip
          refine g_ifNo hG Xj4 hx (hb hby d3_46) (pc' := 49) (by rw [← q45_1, gt_yes (BT (2 : Int32) p0 (by decide) (in4_of bp0.1 (by omega))) (fun g => by have := Int32.lt_iff_toInt_lt.mp g; rw [show (2 : Int32).toInt = 2 by decide] at this; omega) g2_0]; rfl) rfl ?_
          refine g_iinc hG Xj4 hx (hb hby d3_49) (pc' := 52) rfl rfl (v := (0 : Int32)) (by decide) (Ls' := #[.val (.ref a), .val (.long lim), .second, .val (.ref ids), .val (.int 2), .val (.int 2), .val (.int 0), .val (.int w7)]) rfl ?_
          refine g_goto hG Xj4 hx (hb hby d3_52) (pc' := 28) (by decide) (by decide) ?_
          refine g_iload hG Xj4 hx (hb hby d3_28) (pc' := 30) rfl rfl ?_
          refine g_ifYes hG Xj4 hx (hb hby d3_30) (pc' := 55) (by decide) (by decide) (by decide) ?_
          refine g_iload hG Xj4 hx (hb hby d3_55) (pc' := 57) rfl rfl ?_
          refine g_aloadN hG Xj4 hx (hb hby d3_57) (pc' := 58) rfl rfl rfl ?_
          refine g_arraylength hG Xj4 hx hZ ej4 V_ids (hb hby d3_58) (pc' := 59) rfl ?_
          refine g_icmpNo hG Xj4 hx (hb hby d3_59) (pc' := 62) (by decide) rfl ?_
          refine g_iload hG Xj4 hx (hb hby d3_62) (pc' := 64) rfl rfl ?_
          refine g_aloadN hG Xj4 hx (hb hby d3_64) (pc' := 65) rfl rfl rfl ?_
          refine g_arraylength hG Xj4 hx hZ ej4 V_ids (hb hby d3_65) (pc' := 66) rfl ?_
          refine g_iconst hG Xj4 hx (hb hby d3_66) (pc' := 67) rfl (v := (1 : Int32)) rfl ?_
          refine g_isub hG Xj4 hx (hb hby d3_67) (pc' := 68) rfl (v := (2 : Int32)) (by decide) ?_
          refine g_callS hG Xj4 hx hZ (y := (⟨"java/lang/Math", "min", "(II)I"⟩ : MethodName)) 0 hown (wd hw 16 rfl) (wd hw 17 rfl) (wd hw 8 rfl) (wd hw 18 rfl) (by decide) (rmMI l Z a0 hw [] (2 : Int32) (2 : Int32) (2 : Int32) hj4 n0 Zs (by decide)) (by decide) (by decide) (by rw [hml]; rfl) pd_3 rfl (argsL := [(.int 2), (.int 2)]) (rest := []) rfl rfl (Nat.le_of_eq rfl) (hb hby d3_68) ej4 (by decide) (by decide) (pc' := 71) rfl ?_
          intro T6 rv6 L6 X6 hQ6
          obtain ⟨rfl, Nq6, eh6⟩ := hQ6
          have NF6 := Fr.app NFj4 Nq6
          show G (T6.setTop (mkF m 71 _ [(.int 2)]))
          refine g_istore hG X6 hx (hb hby d3_71) (pc' := 73) rfl (Ls' := #[.val (.ref a), .val (.long lim), .second, .val (.ref ids), .val (.int 2), .val (.int 2), .val (.int 0), .val (.int 2)]) rfl ?_
          refine g_aloadN hG X6 hx (hb hby d3_73) (pc' := 74) rfl rfl rfl ?_
          refine g_iload hG X6 hx (hb hby d3_74) (pc' := 76) rfl rfl ?_
          refine g_aloadN hG X6 hx (hb hby d3_76) (pc' := 77) rfl rfl rfl ?_
          refine g_iload hG X6 hx (hb hby d3_77) (pc' := 79) rfl rfl ?_
          refine g_iconst hG X6 hx (hb hby d3_79) (pc' := 80) rfl (v := (1 : Int32)) rfl ?_
          refine g_iadd hG X6 hx (hb hby d3_80) (pc' := 81) rfl (v := (1 : Int32)) (by decide) ?_
          refine g_iload hG X6 hx (hb hby d3_81) (pc' := 83) rfl rfl ?_
          refine g_iload hG X6 hx (hb hby d3_83) (pc' := 85) rfl rfl ?_
          refine g_isub hG X6 hx (hb hby d3_85) (pc' := 86) rfl (v := (2 : Int32)) (by decide) ?_
          refine g_copy hG X6 hx hZ hown (wd hw 19 rfl) (wd hw 22 rfl) (wd hw 20 rfl) (wd hw 21 rfl) eh6 V_ids V_ids rfl (by decide) (by decide) (by decide) (by decide) (by decide) (vr := [(.int p0), (.int p0), (.int p1)]) rfl NF6 ge_ids (by rw [hml]; rfl) (hb hby d3_86) (by decide) 0 (Nat.le_of_eq rfl) (by decide) (pc' := 89) rfl ?_
          intro T7 h7 L7 X7 e7 NF7 Kq7 Vn7
          have V_ids := Vn7
          have V_a := V_a.keep Kq7 (ninS ne_a_ids nin0)
          have Zs := Nat.le_trans Zs Kq7.1
          have K7 := Kj4.trans Kq7 (allS (Or.inr sz_ids) all0)
          show G (T7.setTop (mkF m 89 _ []))
          refine g_aloadN hG X7 hx (hb hby d3_89) (pc' := 90) rfl rfl rfl ?_
          refine g_iload hG X7 hx (hb hby d3_90) (pc' := 92) rfl rfl ?_
          refine g_iload hG X7 hx (hb hby d3_92) (pc' := 94) rfl rfl ?_
          refine g_iastore hG X7 hx hZ e7 V_ids (j := (0 : Int32)) (by decide) (show Int32.toNatClampNeg (0 : Int32) < 3 by decide) (hb hby d3_94) (pc' := 95) rfl ?_
          intro T8 h8 X8 e8 W8 Vn8
          have V_ids : AV Z h8 ids .int (3 : Int32) [(.int 2), (.int p0), (.int p1)] := Vn8
          have V_a := V_a.other W8 ne_a_ids
          have Zs := Nat.le_trans Zs (Wr.size W8)
          have NF8 := Fr.snoc X8 NF7 ge_ids
          have K8 := K7.wr W8 (Or.inr sz_ids)
          refine g_iload hG X8 hx (hb hby d3_95) (pc' := 97) rfl rfl ?_
          refine g_iconst hG X8 hx (hb hby d3_97) (pc' := 98) rfl (v := (1 : Int32)) rfl ?_
          refine g_iadd hG X8 hx (hb hby d3_98) (pc' := 99) rfl (v := (3 : Int32)) (by decide) ?_
          refine g_aloadN hG X8 hx (hb hby d3_99) (pc' := 100) rfl rfl rfl ?_
          refine g_arraylength hG X8 hx hZ e8 V_ids (hb hby d3_100) (pc' := 101) rfl ?_
          refine g_callS hG X8 hx hZ (y := (⟨"java/lang/Math", "min", "(II)I"⟩ : MethodName)) 0 hown (wd hw 16 rfl) (wd hw 17 rfl) (wd hw 8 rfl) (wd hw 18 rfl) (by decide) (rmMI l Z a0 hw [] (3 : Int32) (3 : Int32) (3 : Int32) h8 n0 Zs (by decide)) (by decide) (by decide) (by rw [hml]; rfl) pd_3 rfl (argsL := [(.int 3), (.int 3)]) (rest := []) rfl rfl (Nat.le_of_eq rfl) (hb hby d3_101) e8 (by decide) (by decide) (pc' := 104) rfl ?_
          intro T9 rv9 L9 X9 hQ9
          obtain ⟨rfl, Nq9, eh9⟩ := hQ9
          have NF9 := Fr.app NF8 Nq9
          show G (T9.setTop (mkF m 104 _ [(.int 3)]))
          refine g_istore hG X9 hx (hb hby d3_104) (pc' := 106) rfl (Ls' := #[.val (.ref a), .val (.long lim), .second, .val (.ref ids), .val (.int 3), .val (.int 2), .val (.int 0), .val (.int 2)]) rfl ?_
          refine g_iinc hG X9 hx (hb hby d3_106) (pc' := 109) rfl rfl (v := (3 : Int32)) (by decide) (Ls' := #[.val (.ref a), .val (.long lim), .second, .val (.ref ids), .val (.int 3), .val (.int 3), .val (.int 0), .val (.int 2)]) rfl ?_
          refine g_goto hG X9 hx (hb hby d3_109) (pc' := 17) (by decide) (by decide) ?_
          exact J3 _ _ _ (2 : Int32) p0 p1 (0 : Int32) (2 : Int32) X9 eh9 NF9 Zs K8 V_a V_ids (st_2_2_3_0 b01 b02 b03 b12 b13 b23 p0 p1 TR HT2 g2_1 g2_0)
        · skip
          refine g_ifYes hG Xj4 hx (hb hby d3_46) (pc' := 55) (by rcases gt_no (BT (2 : Int32) p0 (by decide) (in4_of bp0.1 (by omega))) g2_0 with z | z <;> rw [← q45_1, z] <;> rfl) (by decide) (by decide) ?_
          refine g_iload hG Xj4 hx (hb hby d3_55) (pc' := 57) rfl rfl ?_
          refine g_aloadN hG Xj4 hx (hb hby d3_57) (pc' := 58) rfl rfl rfl ?_
          refine g_arraylength hG Xj4 hx hZ ej4 V_ids (hb hby d3_58) (pc' := 59) rfl ?_
          refine g_icmpNo hG Xj4 hx (hb hby d3_59) (pc' := 62) (by decide) rfl ?_
          refine g_iload hG Xj4 hx (hb hby d3_62) (pc' := 64) rfl rfl ?_
          refine g_aloadN hG Xj4 hx (hb hby d3_64) (pc' := 65) rfl rfl rfl ?_
          refine g_arraylength hG Xj4 hx hZ ej4 V_ids (hb hby d3_65) (pc' := 66) rfl ?_
          refine g_iconst hG Xj4 hx (hb hby d3_66) (pc' := 67) rfl (v := (1 : Int32)) rfl ?_
          refine g_isub hG Xj4 hx (hb hby d3_67) (pc' := 68) rfl (v := (2 : Int32)) (by decide) ?_
          refine g_callS hG Xj4 hx hZ (y := (⟨"java/lang/Math", "min", "(II)I"⟩ : MethodName)) 0 hown (wd hw 16 rfl) (wd hw 17 rfl) (wd hw 8 rfl) (wd hw 18 rfl) (by decide) (rmMI l Z a0 hw [] (2 : Int32) (2 : Int32) (2 : Int32) hj4 n0 Zs (by decide)) (by decide) (by decide) (by rw [hml]; rfl) pd_3 rfl (argsL := [(.int 2), (.int 2)]) (rest := []) rfl rfl (Nat.le_of_eq rfl) (hb hby d3_68) ej4 (by decide) (by decide) (pc' := 71) rfl ?_
          intro T10 rv10 L10 X10 hQ10
          obtain ⟨rfl, Nq10, eh10⟩ := hQ10
          have NF10 := Fr.app NFj4 Nq10
          show G (T10.setTop (mkF m 71 _ [(.int 2)]))
          refine g_istore hG X10 hx (hb hby d3_71) (pc' := 73) rfl (Ls' := #[.val (.ref a), .val (.long lim), .second, .val (.ref ids), .val (.int 2), .val (.int 2), .val (.int 1), .val (.int 2)]) rfl ?_
          refine g_aloadN hG X10 hx (hb hby d3_73) (pc' := 74) rfl rfl rfl ?_
          refine g_iload hG X10 hx (hb hby d3_74) (pc' := 76) rfl rfl ?_
          refine g_aloadN hG X10 hx (hb hby d3_76) (pc' := 77) rfl rfl rfl ?_
          refine g_iload hG X10 hx (hb hby d3_77) (pc' := 79) rfl rfl ?_
          refine g_iconst hG X10 hx (hb hby d3_79) (pc' := 80) rfl (v := (1 : Int32)) rfl ?_
          refine g_iadd hG X10 hx (hb hby d3_80) (pc' := 81) rfl (v := (2 : Int32)) (by decide) ?_
          refine g_iload hG X10 hx (hb hby d3_81) (pc' := 83) rfl rfl ?_
          refine g_iload hG X10 hx (hb hby d3_83) (pc' := 85) rfl rfl ?_
          refine g_isub hG X10 hx (hb hby d3_85) (pc' := 86) rfl (v := (1 : Int32)) (by decide) ?_
          refine g_copy hG X10 hx hZ hown (wd hw 19 rfl) (wd hw 22 rfl) (wd hw 20 rfl) (wd hw 21 rfl) eh10 V_ids V_ids rfl (by decide) (by decide) (by decide) (by decide) (by decide) (vr := [(.int p0), (.int p1), (.int p1)]) rfl NF10 ge_ids (by rw [hml]; rfl) (hb hby d3_86) (by decide) 0 (Nat.le_of_eq rfl) (by decide) (pc' := 89) rfl ?_
          intro T11 h11 L11 X11 e11 NF11 Kq11 Vn11
          have V_ids := Vn11
          have V_a := V_a.keep Kq11 (ninS ne_a_ids nin0)
          have Zs := Nat.le_trans Zs Kq11.1
          have K11 := Kj4.trans Kq11 (allS (Or.inr sz_ids) all0)
          show G (T11.setTop (mkF m 89 _ []))
          refine g_aloadN hG X11 hx (hb hby d3_89) (pc' := 90) rfl rfl rfl ?_
          refine g_iload hG X11 hx (hb hby d3_90) (pc' := 92) rfl rfl ?_
          refine g_iload hG X11 hx (hb hby d3_92) (pc' := 94) rfl rfl ?_
          refine g_iastore hG X11 hx hZ e11 V_ids (j := (1 : Int32)) (by decide) (show Int32.toNatClampNeg (1 : Int32) < 3 by decide) (hb hby d3_94) (pc' := 95) rfl ?_
          intro T12 h12 X12 e12 W12 Vn12
          have V_ids : AV Z h12 ids .int (3 : Int32) [(.int p0), (.int 2), (.int p1)] := Vn12
          have V_a := V_a.other W12 ne_a_ids
          have Zs := Nat.le_trans Zs (Wr.size W12)
          have NF12 := Fr.snoc X12 NF11 ge_ids
          have K12 := K11.wr W12 (Or.inr sz_ids)
          refine g_iload hG X12 hx (hb hby d3_95) (pc' := 97) rfl rfl ?_
          refine g_iconst hG X12 hx (hb hby d3_97) (pc' := 98) rfl (v := (1 : Int32)) rfl ?_
          refine g_iadd hG X12 hx (hb hby d3_98) (pc' := 99) rfl (v := (3 : Int32)) (by decide) ?_
          refine g_aloadN hG X12 hx (hb hby d3_99) (pc' := 100) rfl rfl rfl ?_
          refine g_arraylength hG X12 hx hZ e12 V_ids (hb hby d3_100) (pc' := 101) rfl ?_
          refine g_callS hG X12 hx hZ (y := (⟨"java/lang/Math", "min", "(II)I"⟩ : MethodName)) 0 hown (wd hw 16 rfl) (wd hw 17 rfl) (wd hw 8 rfl) (wd hw 18 rfl) (by decide) (rmMI l Z a0 hw [] (3 : Int32) (3 : Int32) (3 : Int32) h12 n0 Zs (by decide)) (by decide) (by decide) (by rw [hml]; rfl) pd_3 rfl (argsL := [(.int 3), (.int 3)]) (rest := []) rfl rfl (Nat.le_of_eq rfl) (hb hby d3_101) e12 (by decide) (by decide) (pc' := 104) rfl ?_
          intro T13 rv13 L13 X13 hQ13
          obtain ⟨rfl, Nq13, eh13⟩ := hQ13
          have NF13 := Fr.app NF12 Nq13
          show G (T13.setTop (mkF m 104 _ [(.int 3)]))
          refine g_istore hG X13 hx (hb hby d3_104) (pc' := 106) rfl (Ls' := #[.val (.ref a), .val (.long lim), .second, .val (.ref ids), .val (.int 3), .val (.int 2), .val (.int 1), .val (.int 2)]) rfl ?_
          refine g_iinc hG X13 hx (hb hby d3_106) (pc' := 109) rfl rfl (v := (3 : Int32)) (by decide) (Ls' := #[.val (.ref a), .val (.long lim), .second, .val (.ref ids), .val (.int 3), .val (.int 3), .val (.int 1), .val (.int 2)]) rfl ?_
          refine g_goto hG X13 hx (hb hby d3_109) (pc' := 17) (by decide) (by decide) ?_
          exact J3 _ _ _ p0 (2 : Int32) p1 (1 : Int32) (2 : Int32) X13 eh13 NF13 Zs K12 V_a V_ids (st_2_2_3_1 b01 b02 b03 b12 b13 b23 p0 p1 TR HT2 g2_1 g2_0)
      · skip
        refine g_ifYes hG Xj4 hx (hb hby d3_46) (pc' := 55) (by rcases gt_no (BT (2 : Int32) p1 (by decide) (in4_of bp1.1 (by omega))) g2_1 with z | z <;> rw [← q45, z] <;> rfl) (by decide) (by decide) ?_
        refine g_iload hG Xj4 hx (hb hby d3_55) (pc' := 57) rfl rfl ?_
        refine g_aloadN hG Xj4 hx (hb hby d3_57) (pc' := 58) rfl rfl rfl ?_
        refine g_arraylength hG Xj4 hx hZ ej4 V_ids (hb hby d3_58) (pc' := 59) rfl ?_
        refine g_icmpNo hG Xj4 hx (hb hby d3_59) (pc' := 62) (by decide) rfl ?_
        refine g_iload hG Xj4 hx (hb hby d3_62) (pc' := 64) rfl rfl ?_
        refine g_aloadN hG Xj4 hx (hb hby d3_64) (pc' := 65) rfl rfl rfl ?_
        refine g_arraylength hG Xj4 hx hZ ej4 V_ids (hb hby d3_65) (pc' := 66) rfl ?_
        refine g_iconst hG Xj4 hx (hb hby d3_66) (pc' := 67) rfl (v := (1 : Int32)) rfl ?_
        refine g_isub hG Xj4 hx (hb hby d3_67) (pc' := 68) rfl (v := (2 : Int32)) (by decide) ?_
        refine g_callS hG Xj4 hx hZ (y := (⟨"java/lang/Math", "min", "(II)I"⟩ : MethodName)) 0 hown (wd hw 16 rfl) (wd hw 17 rfl) (wd hw 8 rfl) (wd hw 18 rfl) (by decide) (rmMI l Z a0 hw [] (2 : Int32) (2 : Int32) (2 : Int32) hj4 n0 Zs (by decide)) (by decide) (by decide) (by rw [hml]; rfl) pd_3 rfl (argsL := [(.int 2), (.int 2)]) (rest := []) rfl rfl (Nat.le_of_eq rfl) (hb hby d3_68) ej4 (by decide) (by decide) (pc' := 71) rfl ?_
        intro T14 rv14 L14 X14 hQ14
        obtain ⟨rfl, Nq14, eh14⟩ := hQ14
        have NF14 := Fr.app NFj4 Nq14
        show G (T14.setTop (mkF m 71 _ [(.int 2)]))
        refine g_istore hG X14 hx (hb hby d3_71) (pc' := 73) rfl (Ls' := #[.val (.ref a), .val (.long lim), .second, .val (.ref ids), .val (.int 2), .val (.int 2), .val (.int 2), .val (.int 2)]) rfl ?_
        refine g_aloadN hG X14 hx (hb hby d3_73) (pc' := 74) rfl rfl rfl ?_
        refine g_iload hG X14 hx (hb hby d3_74) (pc' := 76) rfl rfl ?_
        refine g_aloadN hG X14 hx (hb hby d3_76) (pc' := 77) rfl rfl rfl ?_
        refine g_iload hG X14 hx (hb hby d3_77) (pc' := 79) rfl rfl ?_
        refine g_iconst hG X14 hx (hb hby d3_79) (pc' := 80) rfl (v := (1 : Int32)) rfl ?_
        refine g_iadd hG X14 hx (hb hby d3_80) (pc' := 81) rfl (v := (3 : Int32)) (by decide) ?_
        refine g_iload hG X14 hx (hb hby d3_81) (pc' := 83) rfl rfl ?_
        refine g_iload hG X14 hx (hb hby d3_83) (pc' := 85) rfl rfl ?_
        refine g_isub hG X14 hx (hb hby d3_85) (pc' := 86) rfl (v := (0 : Int32)) (by decide) ?_
        refine g_copy hG X14 hx hZ hown (wd hw 19 rfl) (wd hw 22 rfl) (wd hw 20 rfl) (wd hw 21 rfl) eh14 V_ids V_ids rfl (by decide) (by decide) (by decide) (by decide) (by decide) (vr := [(.int p0), (.int p1), (.int 0)]) rfl NF14 ge_ids (by rw [hml]; rfl) (hb hby d3_86) (by decide) 0 (Nat.le_of_eq rfl) (by decide) (pc' := 89) rfl ?_
        intro T15 h15 L15 X15 e15 NF15 Kq15 Vn15
        have V_ids := Vn15
        have V_a := V_a.keep Kq15 (ninS ne_a_ids nin0)
        have Zs := Nat.le_trans Zs Kq15.1
        have K15 := Kj4.trans Kq15 (allS (Or.inr sz_ids) all0)
        show G (T15.setTop (mkF m 89 _ []))
        refine g_aloadN hG X15 hx (hb hby d3_89) (pc' := 90) rfl rfl rfl ?_
        refine g_iload hG X15 hx (hb hby d3_90) (pc' := 92) rfl rfl ?_
        refine g_iload hG X15 hx (hb hby d3_92) (pc' := 94) rfl rfl ?_
        refine g_iastore hG X15 hx hZ e15 V_ids (j := (2 : Int32)) (by decide) (show Int32.toNatClampNeg (2 : Int32) < 3 by decide) (hb hby d3_94) (pc' := 95) rfl ?_
        intro T16 h16 X16 e16 W16 Vn16
        have V_ids : AV Z h16 ids .int (3 : Int32) [(.int p0), (.int p1), (.int 2)] := Vn16
        have V_a := V_a.other W16 ne_a_ids
        have Zs := Nat.le_trans Zs (Wr.size W16)
        have NF16 := Fr.snoc X16 NF15 ge_ids
        have K16 := K15.wr W16 (Or.inr sz_ids)
        refine g_iload hG X16 hx (hb hby d3_95) (pc' := 97) rfl rfl ?_
        refine g_iconst hG X16 hx (hb hby d3_97) (pc' := 98) rfl (v := (1 : Int32)) rfl ?_
        refine g_iadd hG X16 hx (hb hby d3_98) (pc' := 99) rfl (v := (3 : Int32)) (by decide) ?_
        refine g_aloadN hG X16 hx (hb hby d3_99) (pc' := 100) rfl rfl rfl ?_
        refine g_arraylength hG X16 hx hZ e16 V_ids (hb hby d3_100) (pc' := 101) rfl ?_
        refine g_callS hG X16 hx hZ (y := (⟨"java/lang/Math", "min", "(II)I"⟩ : MethodName)) 0 hown (wd hw 16 rfl) (wd hw 17 rfl) (wd hw 8 rfl) (wd hw 18 rfl) (by decide) (rmMI l Z a0 hw [] (3 : Int32) (3 : Int32) (3 : Int32) h16 n0 Zs (by decide)) (by decide) (by decide) (by rw [hml]; rfl) pd_3 rfl (argsL := [(.int 3), (.int 3)]) (rest := []) rfl rfl (Nat.le_of_eq rfl) (hb hby d3_101) e16 (by decide) (by decide) (pc' := 104) rfl ?_
        intro T17 rv17 L17 X17 hQ17
        obtain ⟨rfl, Nq17, eh17⟩ := hQ17
        have NF17 := Fr.app NF16 Nq17
        show G (T17.setTop (mkF m 104 _ [(.int 3)]))
        refine g_istore hG X17 hx (hb hby d3_104) (pc' := 106) rfl (Ls' := #[.val (.ref a), .val (.long lim), .second, .val (.ref ids), .val (.int 3), .val (.int 2), .val (.int 2), .val (.int 2)]) rfl ?_
        refine g_iinc hG X17 hx (hb hby d3_106) (pc' := 109) rfl rfl (v := (3 : Int32)) (by decide) (Ls' := #[.val (.ref a), .val (.long lim), .second, .val (.ref ids), .val (.int 3), .val (.int 3), .val (.int 2), .val (.int 2)]) rfl ?_
        refine g_goto hG X17 hx (hb hby d3_109) (pc' := 17) (by decide) (by decide) ?_
        exact J3 _ _ _ p0 p1 (2 : Int32) (2 : Int32) (2 : Int32) X17 eh17 NF17 Zs K16 V_a V_ids (st_2_2_3_2 b01 b02 b03 b12 b13 b23 p0 p1 TR HT2 g2_1)
    refine g_iload hG Xj3 hx (hb hby d3_17) (pc' := 19) rfl rfl ?_
    refine g_aloadN hG Xj3 hx (hb hby d3_19) (pc' := 20) rfl rfl rfl ?_
    refine g_arraylength hG Xj3 hx hZ ej3 V_a (hb hby d3_20) (pc' := 21) rfl ?_
    refine g_icmpNo hG Xj3 hx (hb hby d3_21) (pc' := 24) (by decide) rfl ?_
    refine g_iload hG Xj3 hx (hb hby d3_24) (pc' := 26) rfl rfl ?_
    refine g_istore hG Xj3 hx (hb hby d3_26) (pc' := 28) rfl (Ls' := #[.val (.ref a), .val (.long lim), .second, .val (.ref ids), .val (.int 1), .val (.int 1), .val (.int 1), .val (.int w7)]) rfl ?_
    refine g_iload hG Xj3 hx (hb hby d3_28) (pc' := 30) rfl rfl ?_
    refine g_ifNo hG Xj3 hx (hb hby d3_30) (pc' := 33) (by decide) rfl ?_
    refine g_aloadN hG Xj3 hx (hb hby d3_33) (pc' := 34) rfl rfl rfl ?_
    refine g_iload hG Xj3 hx (hb hby d3_34) (pc' := 36) rfl rfl ?_
    refine g_daload hG Xj3 hx hZ ej3 V_a (j := (1 : Int32)) (v := (.double (al (1 : Int32)))) (by decide) rfl (hb hby d3_36) (pc' := 37) rfl ?_
    refine g_aloadN hG Xj3 hx (hb hby d3_37) (pc' := 38) rfl rfl rfl ?_
    refine g_aloadN hG Xj3 hx (hb hby d3_38) (pc' := 39) rfl rfl rfl ?_
    refine g_iload hG Xj3 hx (hb hby d3_39) (pc' := 41) rfl rfl ?_
    refine g_iconst hG Xj3 hx (hb hby d3_41) (pc' := 42) rfl (v := (1 : Int32)) rfl ?_
    refine g_isub hG Xj3 hx (hb hby d3_42) (pc' := 43) rfl (v := (0 : Int32)) (by decide) ?_
    refine g_iaload hG Xj3 hx hZ ej3 V_ids (j := (0 : Int32)) (v := (.int p0)) (by decide) rfl (hb hby d3_43) (pc' := 44) rfl ?_
    refine g_daload hG Xj3 hx hZ ej3 V_a (j := p0) (v := (.double (al p0))) (nn_of bp0.1) (al_at3 (in3_of bp0.1 (by omega))) (hb hby d3_44) (pc' := 45) rfl ?_
    obtain ⟨v45, q45⟩ : ∃ zz : Int32, cmpValue (FP.dcmp (al (1 : Int32)) (al p0)) .l = zz := ⟨_, rfl⟩
    refine g_dcmp hG Xj3 hx (hb hby d3_45) (pc' := 46) rfl q45 ?_
    by_cases g1_0 : (btB b01 b02 b03 b12 b13 b23) (1 : Int32) p0 = true
    · skip
      refine g_ifNo hG Xj3 hx (hb hby d3_46) (pc' := 49) (by rw [← q45, gt_yes (BT (1 : Int32) p0 (by decide) (in4_of bp0.1 (by omega))) (fun g => by have := Int32.lt_iff_toInt_lt.mp g; rw [show (1 : Int32).toInt = 1 by decide] at this; omega) g1_0]; rfl) rfl ?_
      refine g_iinc hG Xj3 hx (hb hby d3_49) (pc' := 52) rfl rfl (v := (0 : Int32)) (by decide) (Ls' := #[.val (.ref a), .val (.long lim), .second, .val (.ref ids), .val (.int 1), .val (.int 1), .val (.int 0), .val (.int w7)]) rfl ?_
      refine g_goto hG Xj3 hx (hb hby d3_52) (pc' := 28) (by decide) (by decide) ?_
      refine g_iload hG Xj3 hx (hb hby d3_28) (pc' := 30) rfl rfl ?_
      refine g_ifYes hG Xj3 hx (hb hby d3_30) (pc' := 55) (by decide) (by decide) (by decide) ?_
      refine g_iload hG Xj3 hx (hb hby d3_55) (pc' := 57) rfl rfl ?_
      refine g_aloadN hG Xj3 hx (hb hby d3_57) (pc' := 58) rfl rfl rfl ?_
      refine g_arraylength hG Xj3 hx hZ ej3 V_ids (hb hby d3_58) (pc' := 59) rfl ?_
      refine g_icmpNo hG Xj3 hx (hb hby d3_59) (pc' := 62) (by decide) rfl ?_
      refine g_iload hG Xj3 hx (hb hby d3_62) (pc' := 64) rfl rfl ?_
      refine g_aloadN hG Xj3 hx (hb hby d3_64) (pc' := 65) rfl rfl rfl ?_
      refine g_arraylength hG Xj3 hx hZ ej3 V_ids (hb hby d3_65) (pc' := 66) rfl ?_
      refine g_iconst hG Xj3 hx (hb hby d3_66) (pc' := 67) rfl (v := (1 : Int32)) rfl ?_
      refine g_isub hG Xj3 hx (hb hby d3_67) (pc' := 68) rfl (v := (2 : Int32)) (by decide) ?_
      refine g_callS hG Xj3 hx hZ (y := (⟨"java/lang/Math", "min", "(II)I"⟩ : MethodName)) 0 hown (wd hw 16 rfl) (wd hw 17 rfl) (wd hw 8 rfl) (wd hw 18 rfl) (by decide) (rmMI l Z a0 hw [] (1 : Int32) (2 : Int32) (1 : Int32) hj3 n0 Zs (by decide)) (by decide) (by decide) (by rw [hml]; rfl) pd_3 rfl (argsL := [(.int 1), (.int 2)]) (rest := []) rfl rfl (Nat.le_of_eq rfl) (hb hby d3_68) ej3 (by decide) (by decide) (pc' := 71) rfl ?_
      intro T18 rv18 L18 X18 hQ18
      obtain ⟨rfl, Nq18, eh18⟩ := hQ18
      have NF18 := Fr.app NFj3 Nq18
      show G (T18.setTop (mkF m 71 _ [(.int 1)]))
      refine g_istore hG X18 hx (hb hby d3_71) (pc' := 73) rfl (Ls' := #[.val (.ref a), .val (.long lim), .second, .val (.ref ids), .val (.int 1), .val (.int 1), .val (.int 0), .val (.int 1)]) rfl ?_
      refine g_aloadN hG X18 hx (hb hby d3_73) (pc' := 74) rfl rfl rfl ?_
      refine g_iload hG X18 hx (hb hby d3_74) (pc' := 76) rfl rfl ?_
      refine g_aloadN hG X18 hx (hb hby d3_76) (pc' := 77) rfl rfl rfl ?_
      refine g_iload hG X18 hx (hb hby d3_77) (pc' := 79) rfl rfl ?_
      refine g_iconst hG X18 hx (hb hby d3_79) (pc' := 80) rfl (v := (1 : Int32)) rfl ?_
      refine g_iadd hG X18 hx (hb hby d3_80) (pc' := 81) rfl (v := (1 : Int32)) (by decide) ?_
      refine g_iload hG X18 hx (hb hby d3_81) (pc' := 83) rfl rfl ?_
      refine g_iload hG X18 hx (hb hby d3_83) (pc' := 85) rfl rfl ?_
      refine g_isub hG X18 hx (hb hby d3_85) (pc' := 86) rfl (v := (1 : Int32)) (by decide) ?_
      refine g_copy hG X18 hx hZ hown (wd hw 19 rfl) (wd hw 22 rfl) (wd hw 20 rfl) (wd hw 21 rfl) eh18 V_ids V_ids rfl (by decide) (by decide) (by decide) (by decide) (by decide) (vr := [(.int p0), (.int p0), (.int 0)]) rfl NF18 ge_ids (by rw [hml]; rfl) (hb hby d3_86) (by decide) 0 (Nat.le_of_eq rfl) (by decide) (pc' := 89) rfl ?_
      intro T19 h19 L19 X19 e19 NF19 Kq19 Vn19
      have V_ids := Vn19
      have V_a := V_a.keep Kq19 (ninS ne_a_ids nin0)
      have Zs := Nat.le_trans Zs Kq19.1
      have K19 := Kj3.trans Kq19 (allS (Or.inr sz_ids) all0)
      show G (T19.setTop (mkF m 89 _ []))
      refine g_aloadN hG X19 hx (hb hby d3_89) (pc' := 90) rfl rfl rfl ?_
      refine g_iload hG X19 hx (hb hby d3_90) (pc' := 92) rfl rfl ?_
      refine g_iload hG X19 hx (hb hby d3_92) (pc' := 94) rfl rfl ?_
      refine g_iastore hG X19 hx hZ e19 V_ids (j := (0 : Int32)) (by decide) (show Int32.toNatClampNeg (0 : Int32) < 3 by decide) (hb hby d3_94) (pc' := 95) rfl ?_
      intro T20 h20 X20 e20 W20 Vn20
      have V_ids : AV Z h20 ids .int (3 : Int32) [(.int 1), (.int p0), (.int 0)] := Vn20
      have V_a := V_a.other W20 ne_a_ids
      have Zs := Nat.le_trans Zs (Wr.size W20)
      have NF20 := Fr.snoc X20 NF19 ge_ids
      have K20 := K19.wr W20 (Or.inr sz_ids)
      refine g_iload hG X20 hx (hb hby d3_95) (pc' := 97) rfl rfl ?_
      refine g_iconst hG X20 hx (hb hby d3_97) (pc' := 98) rfl (v := (1 : Int32)) rfl ?_
      refine g_iadd hG X20 hx (hb hby d3_98) (pc' := 99) rfl (v := (2 : Int32)) (by decide) ?_
      refine g_aloadN hG X20 hx (hb hby d3_99) (pc' := 100) rfl rfl rfl ?_
      refine g_arraylength hG X20 hx hZ e20 V_ids (hb hby d3_100) (pc' := 101) rfl ?_
      refine g_callS hG X20 hx hZ (y := (⟨"java/lang/Math", "min", "(II)I"⟩ : MethodName)) 0 hown (wd hw 16 rfl) (wd hw 17 rfl) (wd hw 8 rfl) (wd hw 18 rfl) (by decide) (rmMI l Z a0 hw [] (2 : Int32) (3 : Int32) (2 : Int32) h20 n0 Zs (by decide)) (by decide) (by decide) (by rw [hml]; rfl) pd_3 rfl (argsL := [(.int 2), (.int 3)]) (rest := []) rfl rfl (Nat.le_of_eq rfl) (hb hby d3_101) e20 (by decide) (by decide) (pc' := 104) rfl ?_
      intro T21 rv21 L21 X21 hQ21
      obtain ⟨rfl, Nq21, eh21⟩ := hQ21
      have NF21 := Fr.app NF20 Nq21
      show G (T21.setTop (mkF m 104 _ [(.int 2)]))
      refine g_istore hG X21 hx (hb hby d3_104) (pc' := 106) rfl (Ls' := #[.val (.ref a), .val (.long lim), .second, .val (.ref ids), .val (.int 2), .val (.int 1), .val (.int 0), .val (.int 1)]) rfl ?_
      refine g_iinc hG X21 hx (hb hby d3_106) (pc' := 109) rfl rfl (v := (2 : Int32)) (by decide) (Ls' := #[.val (.ref a), .val (.long lim), .second, .val (.ref ids), .val (.int 2), .val (.int 2), .val (.int 0), .val (.int 1)]) rfl ?_
      refine g_goto hG X21 hx (hb hby d3_109) (pc' := 17) (by decide) (by decide) ?_
      exact J2 _ _ _ (1 : Int32) p0 (0 : Int32) (1 : Int32) X21 eh21 NF21 Zs K20 V_a V_ids (st_1_1_3_0 b01 b02 b03 b12 b13 b23 p0 TR HT1 g1_0)
    · skip
      refine g_ifYes hG Xj3 hx (hb hby d3_46) (pc' := 55) (by rcases gt_no (BT (1 : Int32) p0 (by decide) (in4_of bp0.1 (by omega))) g1_0 with z | z <;> rw [← q45, z] <;> rfl) (by decide) (by decide) ?_
      refine g_iload hG Xj3 hx (hb hby d3_55) (pc' := 57) rfl rfl ?_
      refine g_aloadN hG Xj3 hx (hb hby d3_57) (pc' := 58) rfl rfl rfl ?_
      refine g_arraylength hG Xj3 hx hZ ej3 V_ids (hb hby d3_58) (pc' := 59) rfl ?_
      refine g_icmpNo hG Xj3 hx (hb hby d3_59) (pc' := 62) (by decide) rfl ?_
      refine g_iload hG Xj3 hx (hb hby d3_62) (pc' := 64) rfl rfl ?_
      refine g_aloadN hG Xj3 hx (hb hby d3_64) (pc' := 65) rfl rfl rfl ?_
      refine g_arraylength hG Xj3 hx hZ ej3 V_ids (hb hby d3_65) (pc' := 66) rfl ?_
      refine g_iconst hG Xj3 hx (hb hby d3_66) (pc' := 67) rfl (v := (1 : Int32)) rfl ?_
      refine g_isub hG Xj3 hx (hb hby d3_67) (pc' := 68) rfl (v := (2 : Int32)) (by decide) ?_
      refine g_callS hG Xj3 hx hZ (y := (⟨"java/lang/Math", "min", "(II)I"⟩ : MethodName)) 0 hown (wd hw 16 rfl) (wd hw 17 rfl) (wd hw 8 rfl) (wd hw 18 rfl) (by decide) (rmMI l Z a0 hw [] (1 : Int32) (2 : Int32) (1 : Int32) hj3 n0 Zs (by decide)) (by decide) (by decide) (by rw [hml]; rfl) pd_3 rfl (argsL := [(.int 1), (.int 2)]) (rest := []) rfl rfl (Nat.le_of_eq rfl) (hb hby d3_68) ej3 (by decide) (by decide) (pc' := 71) rfl ?_
      intro T22 rv22 L22 X22 hQ22
      obtain ⟨rfl, Nq22, eh22⟩ := hQ22
      have NF22 := Fr.app NFj3 Nq22
      show G (T22.setTop (mkF m 71 _ [(.int 1)]))
      refine g_istore hG X22 hx (hb hby d3_71) (pc' := 73) rfl (Ls' := #[.val (.ref a), .val (.long lim), .second, .val (.ref ids), .val (.int 1), .val (.int 1), .val (.int 1), .val (.int 1)]) rfl ?_
      refine g_aloadN hG X22 hx (hb hby d3_73) (pc' := 74) rfl rfl rfl ?_
      refine g_iload hG X22 hx (hb hby d3_74) (pc' := 76) rfl rfl ?_
      refine g_aloadN hG X22 hx (hb hby d3_76) (pc' := 77) rfl rfl rfl ?_
      refine g_iload hG X22 hx (hb hby d3_77) (pc' := 79) rfl rfl ?_
      refine g_iconst hG X22 hx (hb hby d3_79) (pc' := 80) rfl (v := (1 : Int32)) rfl ?_
      refine g_iadd hG X22 hx (hb hby d3_80) (pc' := 81) rfl (v := (2 : Int32)) (by decide) ?_
      refine g_iload hG X22 hx (hb hby d3_81) (pc' := 83) rfl rfl ?_
      refine g_iload hG X22 hx (hb hby d3_83) (pc' := 85) rfl rfl ?_
      refine g_isub hG X22 hx (hb hby d3_85) (pc' := 86) rfl (v := (0 : Int32)) (by decide) ?_
      refine g_copy hG X22 hx hZ hown (wd hw 19 rfl) (wd hw 22 rfl) (wd hw 20 rfl) (wd hw 21 rfl) eh22 V_ids V_ids rfl (by decide) (by decide) (by decide) (by decide) (by decide) (vr := [(.int p0), (.int 0), (.int 0)]) rfl NF22 ge_ids (by rw [hml]; rfl) (hb hby d3_86) (by decide) 0 (Nat.le_of_eq rfl) (by decide) (pc' := 89) rfl ?_
      intro T23 h23 L23 X23 e23 NF23 Kq23 Vn23
      have V_ids := Vn23
      have V_a := V_a.keep Kq23 (ninS ne_a_ids nin0)
      have Zs := Nat.le_trans Zs Kq23.1
      have K23 := Kj3.trans Kq23 (allS (Or.inr sz_ids) all0)
      show G (T23.setTop (mkF m 89 _ []))
      refine g_aloadN hG X23 hx (hb hby d3_89) (pc' := 90) rfl rfl rfl ?_
      refine g_iload hG X23 hx (hb hby d3_90) (pc' := 92) rfl rfl ?_
      refine g_iload hG X23 hx (hb hby d3_92) (pc' := 94) rfl rfl ?_
      refine g_iastore hG X23 hx hZ e23 V_ids (j := (1 : Int32)) (by decide) (show Int32.toNatClampNeg (1 : Int32) < 3 by decide) (hb hby d3_94) (pc' := 95) rfl ?_
      intro T24 h24 X24 e24 W24 Vn24
      have V_ids : AV Z h24 ids .int (3 : Int32) [(.int p0), (.int 1), (.int 0)] := Vn24
      have V_a := V_a.other W24 ne_a_ids
      have Zs := Nat.le_trans Zs (Wr.size W24)
      have NF24 := Fr.snoc X24 NF23 ge_ids
      have K24 := K23.wr W24 (Or.inr sz_ids)
      refine g_iload hG X24 hx (hb hby d3_95) (pc' := 97) rfl rfl ?_
      refine g_iconst hG X24 hx (hb hby d3_97) (pc' := 98) rfl (v := (1 : Int32)) rfl ?_
      refine g_iadd hG X24 hx (hb hby d3_98) (pc' := 99) rfl (v := (2 : Int32)) (by decide) ?_
      refine g_aloadN hG X24 hx (hb hby d3_99) (pc' := 100) rfl rfl rfl ?_
      refine g_arraylength hG X24 hx hZ e24 V_ids (hb hby d3_100) (pc' := 101) rfl ?_
      refine g_callS hG X24 hx hZ (y := (⟨"java/lang/Math", "min", "(II)I"⟩ : MethodName)) 0 hown (wd hw 16 rfl) (wd hw 17 rfl) (wd hw 8 rfl) (wd hw 18 rfl) (by decide) (rmMI l Z a0 hw [] (2 : Int32) (3 : Int32) (2 : Int32) h24 n0 Zs (by decide)) (by decide) (by decide) (by rw [hml]; rfl) pd_3 rfl (argsL := [(.int 2), (.int 3)]) (rest := []) rfl rfl (Nat.le_of_eq rfl) (hb hby d3_101) e24 (by decide) (by decide) (pc' := 104) rfl ?_
      intro T25 rv25 L25 X25 hQ25
      obtain ⟨rfl, Nq25, eh25⟩ := hQ25
      have NF25 := Fr.app NF24 Nq25
      show G (T25.setTop (mkF m 104 _ [(.int 2)]))
      refine g_istore hG X25 hx (hb hby d3_104) (pc' := 106) rfl (Ls' := #[.val (.ref a), .val (.long lim), .second, .val (.ref ids), .val (.int 2), .val (.int 1), .val (.int 1), .val (.int 1)]) rfl ?_
      refine g_iinc hG X25 hx (hb hby d3_106) (pc' := 109) rfl rfl (v := (2 : Int32)) (by decide) (Ls' := #[.val (.ref a), .val (.long lim), .second, .val (.ref ids), .val (.int 2), .val (.int 2), .val (.int 1), .val (.int 1)]) rfl ?_
      refine g_goto hG X25 hx (hb hby d3_109) (pc' := 17) (by decide) (by decide) ?_
      exact J2 _ _ _ p0 (1 : Int32) (1 : Int32) (1 : Int32) X25 eh25 NF25 Zs K24 V_a V_ids (st_1_1_3_1 b01 b02 b03 b12 b13 b23 p0 TR HT1 g1_0)
  refine g_iload hG X2 hx (hb hby d3_17) (pc' := 19) rfl rfl ?_
  refine g_aloadN hG X2 hx (hb hby d3_19) (pc' := 20) rfl rfl rfl ?_
  refine g_arraylength hG X2 hx hZ e2 V_a (hb hby d3_20) (pc' := 21) rfl ?_
  refine g_icmpNo hG X2 hx (hb hby d3_21) (pc' := 24) (by decide) rfl ?_
  refine g_iload hG X2 hx (hb hby d3_24) (pc' := 26) rfl rfl ?_
  refine g_istore hG X2 hx (hb hby d3_26) (pc' := 28) rfl (Ls' := #[.val (.ref a), .val (.long lim), .second, .val (.ref ids), .val (.int 0), .val (.int 0), .val (.int 0), .unset]) rfl ?_
  refine g_iload hG X2 hx (hb hby d3_28) (pc' := 30) rfl rfl ?_
  refine g_ifYes hG X2 hx (hb hby d3_30) (pc' := 55) (by decide) (by decide) (by decide) ?_
  refine g_iload hG X2 hx (hb hby d3_55) (pc' := 57) rfl rfl ?_
  refine g_aloadN hG X2 hx (hb hby d3_57) (pc' := 58) rfl rfl rfl ?_
  refine g_arraylength hG X2 hx hZ e2 V_ids (hb hby d3_58) (pc' := 59) rfl ?_
  refine g_icmpNo hG X2 hx (hb hby d3_59) (pc' := 62) (by decide) rfl ?_
  refine g_iload hG X2 hx (hb hby d3_62) (pc' := 64) rfl rfl ?_
  refine g_aloadN hG X2 hx (hb hby d3_64) (pc' := 65) rfl rfl rfl ?_
  refine g_arraylength hG X2 hx hZ e2 V_ids (hb hby d3_65) (pc' := 66) rfl ?_
  refine g_iconst hG X2 hx (hb hby d3_66) (pc' := 67) rfl (v := (1 : Int32)) rfl ?_
  refine g_isub hG X2 hx (hb hby d3_67) (pc' := 68) rfl (v := (2 : Int32)) (by decide) ?_
  refine g_callS hG X2 hx hZ (y := (⟨"java/lang/Math", "min", "(II)I"⟩ : MethodName)) 0 hown (wd hw 16 rfl) (wd hw 17 rfl) (wd hw 8 rfl) (wd hw 18 rfl) (by decide) (rmMI l Z a0 hw [] (0 : Int32) (2 : Int32) (0 : Int32) h2 n0 Zs (by decide)) (by decide) (by decide) (by rw [hml]; rfl) pd_3 rfl (argsL := [(.int 0), (.int 2)]) (rest := []) rfl rfl (Nat.le_of_eq rfl) (hb hby d3_68) e2 (by decide) (by decide) (pc' := 71) rfl ?_
  intro T26 rv26 L26 X26 hQ26
  obtain ⟨rfl, Nq26, eh26⟩ := hQ26
  have NF26 := Fr.app NF1 Nq26
  show G (T26.setTop (mkF m 71 _ [(.int 0)]))
  refine g_istore hG X26 hx (hb hby d3_71) (pc' := 73) rfl (Ls' := #[.val (.ref a), .val (.long lim), .second, .val (.ref ids), .val (.int 0), .val (.int 0), .val (.int 0), .val (.int 0)]) rfl ?_
  refine g_aloadN hG X26 hx (hb hby d3_73) (pc' := 74) rfl rfl rfl ?_
  refine g_iload hG X26 hx (hb hby d3_74) (pc' := 76) rfl rfl ?_
  refine g_aloadN hG X26 hx (hb hby d3_76) (pc' := 77) rfl rfl rfl ?_
  refine g_iload hG X26 hx (hb hby d3_77) (pc' := 79) rfl rfl ?_
  refine g_iconst hG X26 hx (hb hby d3_79) (pc' := 80) rfl (v := (1 : Int32)) rfl ?_
  refine g_iadd hG X26 hx (hb hby d3_80) (pc' := 81) rfl (v := (1 : Int32)) (by decide) ?_
  refine g_iload hG X26 hx (hb hby d3_81) (pc' := 83) rfl rfl ?_
  refine g_iload hG X26 hx (hb hby d3_83) (pc' := 85) rfl rfl ?_
  refine g_isub hG X26 hx (hb hby d3_85) (pc' := 86) rfl (v := (0 : Int32)) (by decide) ?_
  refine g_copy hG X26 hx hZ hown (wd hw 19 rfl) (wd hw 22 rfl) (wd hw 20 rfl) (wd hw 21 rfl) eh26 V_ids V_ids rfl (by decide) (by decide) (by decide) (by decide) (by decide) (vr := [(.int 0), (.int 0), (.int 0)]) rfl NF26 ge_ids (by rw [hml]; rfl) (hb hby d3_86) (by decide) 0 (Nat.le_of_eq rfl) (by decide) (pc' := 89) rfl ?_
  intro T27 h27 L27 X27 e27 NF27 Kq27 Vn27
  have V_ids := Vn27
  have V_a := V_a.keep Kq27 (ninS ne_a_ids nin0)
  have Zs := Nat.le_trans Zs Kq27.1
  have K27 := K2.trans Kq27 (allS (Or.inr sz_ids) all0)
  show G (T27.setTop (mkF m 89 _ []))
  refine g_aloadN hG X27 hx (hb hby d3_89) (pc' := 90) rfl rfl rfl ?_
  refine g_iload hG X27 hx (hb hby d3_90) (pc' := 92) rfl rfl ?_
  refine g_iload hG X27 hx (hb hby d3_92) (pc' := 94) rfl rfl ?_
  refine g_iastore hG X27 hx hZ e27 V_ids (j := (0 : Int32)) (by decide) (show Int32.toNatClampNeg (0 : Int32) < 3 by decide) (hb hby d3_94) (pc' := 95) rfl ?_
  intro T28 h28 X28 e28 W28 Vn28
  have V_ids : AV Z h28 ids .int (3 : Int32) [(.int 0), (.int 0), (.int 0)] := Vn28
  have V_a := V_a.other W28 ne_a_ids
  have Zs := Nat.le_trans Zs (Wr.size W28)
  have NF28 := Fr.snoc X28 NF27 ge_ids
  have K28 := K27.wr W28 (Or.inr sz_ids)
  refine g_iload hG X28 hx (hb hby d3_95) (pc' := 97) rfl rfl ?_
  refine g_iconst hG X28 hx (hb hby d3_97) (pc' := 98) rfl (v := (1 : Int32)) rfl ?_
  refine g_iadd hG X28 hx (hb hby d3_98) (pc' := 99) rfl (v := (1 : Int32)) (by decide) ?_
  refine g_aloadN hG X28 hx (hb hby d3_99) (pc' := 100) rfl rfl rfl ?_
  refine g_arraylength hG X28 hx hZ e28 V_ids (hb hby d3_100) (pc' := 101) rfl ?_
  refine g_callS hG X28 hx hZ (y := (⟨"java/lang/Math", "min", "(II)I"⟩ : MethodName)) 0 hown (wd hw 16 rfl) (wd hw 17 rfl) (wd hw 8 rfl) (wd hw 18 rfl) (by decide) (rmMI l Z a0 hw [] (1 : Int32) (3 : Int32) (1 : Int32) h28 n0 Zs (by decide)) (by decide) (by decide) (by rw [hml]; rfl) pd_3 rfl (argsL := [(.int 1), (.int 3)]) (rest := []) rfl rfl (Nat.le_of_eq rfl) (hb hby d3_101) e28 (by decide) (by decide) (pc' := 104) rfl ?_
  intro T29 rv29 L29 X29 hQ29
  obtain ⟨rfl, Nq29, eh29⟩ := hQ29
  have NF29 := Fr.app NF28 Nq29
  show G (T29.setTop (mkF m 104 _ [(.int 1)]))
  refine g_istore hG X29 hx (hb hby d3_104) (pc' := 106) rfl (Ls' := #[.val (.ref a), .val (.long lim), .second, .val (.ref ids), .val (.int 1), .val (.int 0), .val (.int 0), .val (.int 0)]) rfl ?_
  refine g_iinc hG X29 hx (hb hby d3_106) (pc' := 109) rfl rfl (v := (1 : Int32)) (by decide) (Ls' := #[.val (.ref a), .val (.long lim), .second, .val (.ref ids), .val (.int 1), .val (.int 1), .val (.int 0), .val (.int 0)]) rfl ?_
  refine g_goto hG X29 hx (hb hby d3_109) (pc' := 17) (by decide) (by decide) ?_
  exact J1 _ _ _ (0 : Int32) (0 : Int32) (0 : Int32) X29 eh29 NF29 Zs K28 V_a V_ids (st_0_0_3_0 b01 b02 b03 b12 b13 b23  TR HT0 )

def Q_rmBu4 (Z : State) (al : Int32 → UInt64) (h0 : Heap) (n0 : Nat) (v : Option Value) (h : Heap) (L : List Loc) : Prop := ∃ b : Addr, v = some (.ref b) ∧ Fr n0 L ∧ Keep h0 h [] ∧ h0.size ≤ b ∧ AV Z h b .double (4 : Int32) [(.double (al (0 : Int32))), (.double (al (1 : Int32))), (.double (al (2 : Int32))), (.double (al (3 : Int32)))]
set_option maxRecDepth 65536 in
set_option maxHeartbeats 40000000 in
theorem rmBu4 (l : Launch) (Z : State) (a0 : Array Value) (hw : ∀ d ∈ tables_1, d.before a0 Z = true) (ws : List Jvm.Cond) (al : Int32 → UInt64) (h0 : Heap) (n0 : Nat) (Zs : n0 ≤ h0.size)  :
    Con l (⟨"com/example/gauge_terms/gaugeterms/TopValuesPositionsPinLaw", "build", "(IDDDD)[D"⟩ : MethodName) method_2_code 9 (some (.array .double)) ws ({ frames := 0, cells := 1, slots := 4, locals := 0 } : Room) Z #[(.int 4), (.double (al (0 : Int32))), (.double (al (1 : Int32))), (.double (al (2 : Int32))), (.double (al (3 : Int32)))] h0 ({ frames := 0, cells := 1, slots := 4, locals := 0 } : Room).cells ({ frames := 0, cells := 1, slots := 4, locals := 0 } : Room).slots (Q_rmBu4 Z al h0 n0) := by
  refine Con.of (Ls := #[.val (.int 4), .val (.double (al (0 : Int32))), .second, .val (.double (al (1 : Int32))), .second, .val (.double (al (2 : Int32))), .second, .val (.double (al (3 : Int32))), .second]) (plainFor_of_name (by first | (simp [plainName, overriddenIn]; done) | decide +kernel)) (fun m => by first | (simp [entryFrame, mkF, argsToLocals, Value.category]; done) | rfl) ?_
  intro p e s m below meth c s₁ G hGe hG hx hby hml hown hnm hrt hlk hZ X0 e0
  have hown : s.vm.findClass "com/example/gauge_terms/gaugeterms/TopValuesPositionsPinLaw" = some m.cls := hown
  have hnm : meth.name = "build" := hnm
  have NF0 := Fr.nil n0
  have K0 := Keep.refl h0 ([] : List Addr)
  refine g_iloadN hG X0 hx (hb hby d1_0) (pc' := 1) rfl rfl ?_
  refine g_ifYes hG X0 hx (hb hby d1_1) (pc' := 8) (by decide) (by decide) (by decide) ?_
  refine g_iloadN hG X0 hx (hb hby d1_8) (pc' := 9) rfl rfl ?_
  refine g_iconst hG X0 hx (hb hby d1_9) (pc' := 10) rfl (v := (1 : Int32)) rfl ?_
  refine g_icmpYes hG X0 hx (hb hby d1_10) (pc' := 21) (by decide) (by decide) (by decide) ?_
  refine g_iloadN hG X0 hx (hb hby d1_21) (pc' := 22) rfl rfl ?_
  refine g_iconst hG X0 hx (hb hby d1_22) (pc' := 23) rfl (v := (2 : Int32)) rfl ?_
  refine g_icmpYes hG X0 hx (hb hby d1_23) (pc' := 38) (by decide) (by decide) (by decide) ?_
  refine g_iloadN hG X0 hx (hb hby d1_38) (pc' := 39) rfl rfl ?_
  refine g_iconst hG X0 hx (hb hby d1_39) (pc' := 40) rfl (v := (3 : Int32)) rfl ?_
  refine g_icmpYes hG X0 hx (hb hby d1_40) (pc' := 60) (by decide) (by decide) (by decide) ?_
  refine g_iconst hG X0 hx (hb hby d1_60) (pc' := 61) rfl (v := (4 : Int32)) rfl ?_
  refine g_newP hG X0 hx hZ (wd hw 5 rfl) e0 (hb hby d1_61) (by decide) 4 (by decide) (by decide) (by decide) (by decide) (pc' := 63) rfl ?_
  intro T1 h1 b kA1 gs1 X1 e1 E1 A1
  have ge_b : n0 ≤ b := gs1 ▸ Zs
  have sz_b : h0.size ≤ b := gs1 ▸ K0.1
  have Zs := Nat.le_trans Zs E1.1
  have K1 := K0.ext E1
  have V_b : AV Z h1 b .double (4 : Int32) [(.double 0), (.double 0), (.double 0), (.double 0)] := AV.new A1
  refine g_dup hG X1 hx (hb hby d1_63) (pc' := 64) rfl rfl ?_
  refine g_iconst hG X1 hx (hb hby d1_64) (pc' := 65) rfl (v := (0 : Int32)) rfl ?_
  refine g_dloadN hG X1 hx (hb hby d1_65) (pc' := 66) rfl rfl ?_
  refine g_dastore hG X1 hx hZ e1 V_b (j := (0 : Int32)) (by decide) (show Int32.toNatClampNeg (0 : Int32) < 4 by decide) (hb hby d1_66) (pc' := 67) rfl ?_
  intro T2 h2 X2 e2 W2 Vn2
  have V_b : AV Z h2 b .double (4 : Int32) [(.double (al (0 : Int32))), (.double 0), (.double 0), (.double 0)] := Vn2
  have Zs := Nat.le_trans Zs (Wr.size W2)
  have NF2 := Fr.snoc X2 NF0 ge_b
  have K2 := K1.wr W2 (Or.inr sz_b)
  refine g_dup hG X2 hx (hb hby d1_67) (pc' := 68) rfl rfl ?_
  refine g_iconst hG X2 hx (hb hby d1_68) (pc' := 69) rfl (v := (1 : Int32)) rfl ?_
  refine g_dloadN hG X2 hx (hb hby d1_69) (pc' := 70) rfl rfl ?_
  refine g_dastore hG X2 hx hZ e2 V_b (j := (1 : Int32)) (by decide) (show Int32.toNatClampNeg (1 : Int32) < 4 by decide) (hb hby d1_70) (pc' := 71) rfl ?_
  intro T3 h3 X3 e3 W3 Vn3
  have V_b : AV Z h3 b .double (4 : Int32) [(.double (al (0 : Int32))), (.double (al (1 : Int32))), (.double 0), (.double 0)] := Vn3
  have Zs := Nat.le_trans Zs (Wr.size W3)
  have NF3 := Fr.snoc X3 NF2 ge_b
  have K3 := K2.wr W3 (Or.inr sz_b)
  refine g_dup hG X3 hx (hb hby d1_71) (pc' := 72) rfl rfl ?_
  refine g_iconst hG X3 hx (hb hby d1_72) (pc' := 73) rfl (v := (2 : Int32)) rfl ?_
  refine g_dload hG X3 hx (hb hby d1_73) (pc' := 75) rfl rfl ?_
  refine g_dastore hG X3 hx hZ e3 V_b (j := (2 : Int32)) (by decide) (show Int32.toNatClampNeg (2 : Int32) < 4 by decide) (hb hby d1_75) (pc' := 76) rfl ?_
  intro T4 h4 X4 e4 W4 Vn4
  have V_b : AV Z h4 b .double (4 : Int32) [(.double (al (0 : Int32))), (.double (al (1 : Int32))), (.double (al (2 : Int32))), (.double 0)] := Vn4
  have Zs := Nat.le_trans Zs (Wr.size W4)
  have NF4 := Fr.snoc X4 NF3 ge_b
  have K4 := K3.wr W4 (Or.inr sz_b)
  refine g_dup hG X4 hx (hb hby d1_76) (pc' := 77) rfl rfl ?_
  refine g_iconst hG X4 hx (hb hby d1_77) (pc' := 78) rfl (v := (3 : Int32)) rfl ?_
  refine g_dload hG X4 hx (hb hby d1_78) (pc' := 80) rfl rfl ?_
  refine g_dastore hG X4 hx hZ e4 V_b (j := (3 : Int32)) (by decide) (show Int32.toNatClampNeg (3 : Int32) < 4 by decide) (hb hby d1_80) (pc' := 81) rfl ?_
  intro T5 h5 X5 e5 W5 Vn5
  have V_b : AV Z h5 b .double (4 : Int32) [(.double (al (0 : Int32))), (.double (al (1 : Int32))), (.double (al (2 : Int32))), (.double (al (3 : Int32)))] := Vn5
  have Zs := Nat.le_trans Zs (Wr.size W5)
  have NF5 := Fr.snoc X5 NF4 ge_b
  have K5 := K4.wr W5 (Or.inr sz_b)
  exact e_retA hGe X5 hx hrt rfl hlk (hb hby d1_81) e5 (by decide) (by decide) (⟨b, rfl, NF5, K5, sz_b, V_b⟩)

def Q_rmBe4 (Z : State) (a : Addr) (al : Int32 → UInt64) (q pj r : Int32) (h0 : Heap) (n0 : Nat) (v : Option Value) (h : Heap) (L : List Loc) : Prop := v = some (.int r) ∧ Fr n0 L ∧ h = h0
set_option maxRecDepth 65536 in
set_option maxHeartbeats 40000000 in
theorem rmBe4 (l : Launch) (Z : State) (a0 : Array Value) (hw : ∀ d ∈ tables_1, d.before a0 Z = true) (ws : List Jvm.Cond) (a : Addr) (al : Int32 → UInt64) (q pj r : Int32) (h0 : Heap) (n0 : Nat) (Zs : n0 ≤ h0.size) (V_a : AV Z h0 a .double (4 : Int32) [(.double (al (0 : Int32))), (.double (al (1 : Int32))), (.double (al (2 : Int32))), (.double (al (3 : Int32)))]) (bq : 0 ≤ q.toInt ∧ q.toInt < 4) (bpj : 0 ≤ pj.toInt ∧ pj.toInt < 4) (hb : BtR al q pj r) :
    Con l (⟨"com/example/gauge_terms/gaugeterms/TopValuesPositionsPinLaw", "beats", "([DII)I"⟩ : MethodName) method_3_code 3 (some .int) ws ({ frames := 0, cells := 0, slots := 0, locals := 0 } : Room) Z #[(.ref a), (.int q), (.int pj)] h0 ({ frames := 0, cells := 0, slots := 0, locals := 0 } : Room).cells ({ frames := 0, cells := 0, slots := 0, locals := 0 } : Room).slots (Q_rmBe4 Z a al q pj r h0 n0) := by
  refine Con.of (Ls := #[.val (.ref a), .val (.int q), .val (.int pj)]) (plainFor_of_name (by first | (simp [plainName, overriddenIn]; done) | decide +kernel)) (fun m => by first | (simp [entryFrame, mkF, argsToLocals, Value.category]; done) | rfl) ?_
  intro p e s m below meth c s₁ G hGe hG hx hby hml hown hnm hrt hlk hZ X0 e0
  have hown : s.vm.findClass "com/example/gauge_terms/gaugeterms/TopValuesPositionsPinLaw" = some m.cls := hown
  have hnm : meth.name = "beats" := hnm
  have NF0 := Fr.nil n0
  rcases hb with ⟨c1, hr⟩ | ⟨c1, c2, hr⟩ | ⟨c1, c2, hr⟩ | ⟨c1, hr⟩
  · skip
    refine g_iloadN hG X0 hx (hb hby d7_0) (pc' := 1) rfl rfl ?_
    refine g_aloadN hG X0 hx (hb hby d7_1) (pc' := 2) rfl rfl rfl ?_
    refine g_arraylength hG X0 hx hZ e0 V_a (hb hby d7_2) (pc' := 3) rfl ?_
    refine g_icmpYes hG X0 hx (hb hby d7_3) (pc' := 8) ((tlt (Int32.lt_iff_toInt_lt.mpr (by rw [show (4 : Int32).toInt = 4 by decide]; exact bq.2))).1) (by decide) (by decide) ?_
    refine g_aloadN hG X0 hx (hb hby d7_8) (pc' := 9) rfl rfl rfl ?_
    refine g_iloadN hG X0 hx (hb hby d7_9) (pc' := 10) rfl rfl ?_
    refine g_daload hG X0 hx hZ e0 V_a (j := q) (v := (.double (al q))) (nn_of bq.1) (al_at4 (in4_of bq.1 bq.2)) (hb hby d7_10) (pc' := 11) rfl ?_
    refine g_aloadN hG X0 hx (hb hby d7_11) (pc' := 12) rfl rfl rfl ?_
    refine g_iloadN hG X0 hx (hb hby d7_12) (pc' := 13) rfl rfl ?_
    refine g_daload hG X0 hx hZ e0 V_a (j := pj) (v := (.double (al pj))) (nn_of bpj.1) (al_at4 (in4_of bpj.1 bpj.2)) (hb hby d7_13) (pc' := 14) rfl ?_
    obtain ⟨v14, q14⟩ : ∃ zz : Int32, cmpValue (FP.dcmp (al q) (al pj)) .l = zz := ⟨_, rfl⟩
    refine g_dcmp hG X0 hx (hb hby d7_14) (pc' := 15) rfl q14 ?_
    refine g_ifNo hG X0 hx (hb hby d7_15) (pc' := 18) (by rw [← q14, c1]; rfl) rfl ?_
    refine g_iconst hG X0 hx (hb hby d7_18) (pc' := 19) rfl (v := (1 : Int32)) rfl ?_
    exact e_retI hGe X0 hx hrt hlk (hb hby d7_19) e0 (by decide) (by decide) (⟨by rw [hr], NF0, rfl⟩)
  · skip
    refine g_iloadN hG X0 hx (hb hby d7_0) (pc' := 1) rfl rfl ?_
    refine g_aloadN hG X0 hx (hb hby d7_1) (pc' := 2) rfl rfl rfl ?_
    refine g_arraylength hG X0 hx hZ e0 V_a (hb hby d7_2) (pc' := 3) rfl ?_
    refine g_icmpYes hG X0 hx (hb hby d7_3) (pc' := 8) ((tlt (Int32.lt_iff_toInt_lt.mpr (by rw [show (4 : Int32).toInt = 4 by decide]; exact bq.2))).1) (by decide) (by decide) ?_
    refine g_aloadN hG X0 hx (hb hby d7_8) (pc' := 9) rfl rfl rfl ?_
    refine g_iloadN hG X0 hx (hb hby d7_9) (pc' := 10) rfl rfl ?_
    refine g_daload hG X0 hx hZ e0 V_a (j := q) (v := (.double (al q))) (nn_of bq.1) (al_at4 (in4_of bq.1 bq.2)) (hb hby d7_10) (pc' := 11) rfl ?_
    refine g_aloadN hG X0 hx (hb hby d7_11) (pc' := 12) rfl rfl rfl ?_
    refine g_iloadN hG X0 hx (hb hby d7_12) (pc' := 13) rfl rfl ?_
    refine g_daload hG X0 hx hZ e0 V_a (j := pj) (v := (.double (al pj))) (nn_of bpj.1) (al_at4 (in4_of bpj.1 bpj.2)) (hb hby d7_13) (pc' := 14) rfl ?_
    obtain ⟨v14, q14⟩ : ∃ zz : Int32, cmpValue (FP.dcmp (al q) (al pj)) .l = zz := ⟨_, rfl⟩
    refine g_dcmp hG X0 hx (hb hby d7_14) (pc' := 15) rfl q14 ?_
    refine g_ifYes hG X0 hx (hb hby d7_15) (pc' := 20) (by rw [← q14, c1]; rfl) (by decide) (by decide) ?_
    refine g_aloadN hG X0 hx (hb hby d7_20) (pc' := 21) rfl rfl rfl ?_
    refine g_iloadN hG X0 hx (hb hby d7_21) (pc' := 22) rfl rfl ?_
    refine g_daload hG X0 hx hZ e0 V_a (j := q) (v := (.double (al q))) (nn_of bq.1) (al_at4 (in4_of bq.1 bq.2)) (hb hby d7_22) (pc' := 23) rfl ?_
    refine g_aloadN hG X0 hx (hb hby d7_23) (pc' := 24) rfl rfl rfl ?_
    refine g_iloadN hG X0 hx (hb hby d7_24) (pc' := 25) rfl rfl ?_
    refine g_daload hG X0 hx hZ e0 V_a (j := pj) (v := (.double (al pj))) (nn_of bpj.1) (al_at4 (in4_of bpj.1 bpj.2)) (hb hby d7_25) (pc' := 26) rfl ?_
    obtain ⟨v26, q26⟩ : ∃ zz : Int32, cmpValue (FP.dcmp (al q) (al pj)) .l = zz := ⟨_, rfl⟩
    refine g_dcmp hG X0 hx (hb hby d7_26) (pc' := 27) rfl q26 ?_
    refine g_ifNo hG X0 hx (hb hby d7_27) (pc' := 30) (by rw [← q26, c1]; rfl) rfl ?_
    refine g_iloadN hG X0 hx (hb hby d7_30) (pc' := 31) rfl rfl ?_
    refine g_iloadN hG X0 hx (hb hby d7_31) (pc' := 32) rfl rfl ?_
    refine g_icmpNo hG X0 hx (hb hby d7_32) (pc' := 35) ((tlt c2).2.1) rfl ?_
    refine g_iconst hG X0 hx (hb hby d7_35) (pc' := 36) rfl (v := (1 : Int32)) rfl ?_
    exact e_retI hGe X0 hx hrt hlk (hb hby d7_36) e0 (by decide) (by decide) (⟨by rw [hr], NF0, rfl⟩)
  · skip
    refine g_iloadN hG X0 hx (hb hby d7_0) (pc' := 1) rfl rfl ?_
    refine g_aloadN hG X0 hx (hb hby d7_1) (pc' := 2) rfl rfl rfl ?_
    refine g_arraylength hG X0 hx hZ e0 V_a (hb hby d7_2) (pc' := 3) rfl ?_
    refine g_icmpYes hG X0 hx (hb hby d7_3) (pc' := 8) ((tlt (Int32.lt_iff_toInt_lt.mpr (by rw [show (4 : Int32).toInt = 4 by decide]; exact bq.2))).1) (by decide) (by decide) ?_
    refine g_aloadN hG X0 hx (hb hby d7_8) (pc' := 9) rfl rfl rfl ?_
    refine g_iloadN hG X0 hx (hb hby d7_9) (pc' := 10) rfl rfl ?_
    refine g_daload hG X0 hx hZ e0 V_a (j := q) (v := (.double (al q))) (nn_of bq.1) (al_at4 (in4_of bq.1 bq.2)) (hb hby d7_10) (pc' := 11) rfl ?_
    refine g_aloadN hG X0 hx (hb hby d7_11) (pc' := 12) rfl rfl rfl ?_
    refine g_iloadN hG X0 hx (hb hby d7_12) (pc' := 13) rfl rfl ?_
    refine g_daload hG X0 hx hZ e0 V_a (j := pj) (v := (.double (al pj))) (nn_of bpj.1) (al_at4 (in4_of bpj.1 bpj.2)) (hb hby d7_13) (pc' := 14) rfl ?_
    obtain ⟨v14, q14⟩ : ∃ zz : Int32, cmpValue (FP.dcmp (al q) (al pj)) .l = zz := ⟨_, rfl⟩
    refine g_dcmp hG X0 hx (hb hby d7_14) (pc' := 15) rfl q14 ?_
    refine g_ifYes hG X0 hx (hb hby d7_15) (pc' := 20) (by rw [← q14, c1]; rfl) (by decide) (by decide) ?_
    refine g_aloadN hG X0 hx (hb hby d7_20) (pc' := 21) rfl rfl rfl ?_
    refine g_iloadN hG X0 hx (hb hby d7_21) (pc' := 22) rfl rfl ?_
    refine g_daload hG X0 hx hZ e0 V_a (j := q) (v := (.double (al q))) (nn_of bq.1) (al_at4 (in4_of bq.1 bq.2)) (hb hby d7_22) (pc' := 23) rfl ?_
    refine g_aloadN hG X0 hx (hb hby d7_23) (pc' := 24) rfl rfl rfl ?_
    refine g_iloadN hG X0 hx (hb hby d7_24) (pc' := 25) rfl rfl ?_
    refine g_daload hG X0 hx hZ e0 V_a (j := pj) (v := (.double (al pj))) (nn_of bpj.1) (al_at4 (in4_of bpj.1 bpj.2)) (hb hby d7_25) (pc' := 26) rfl ?_
    obtain ⟨v26, q26⟩ : ∃ zz : Int32, cmpValue (FP.dcmp (al q) (al pj)) .l = zz := ⟨_, rfl⟩
    refine g_dcmp hG X0 hx (hb hby d7_26) (pc' := 27) rfl q26 ?_
    refine g_ifNo hG X0 hx (hb hby d7_27) (pc' := 30) (by rw [← q26, c1]; rfl) rfl ?_
    refine g_iloadN hG X0 hx (hb hby d7_30) (pc' := 31) rfl rfl ?_
    refine g_iloadN hG X0 hx (hb hby d7_31) (pc' := 32) rfl rfl ?_
    refine g_icmpYes hG X0 hx (hb hby d7_32) (pc' := 37) ((flt c2).2.1) (by decide) (by decide) ?_
    refine g_iconst hG X0 hx (hb hby d7_37) (pc' := 38) rfl (v := (0 : Int32)) rfl ?_
    exact e_retI hGe X0 hx hrt hlk (hb hby d7_38) e0 (by decide) (by decide) (⟨by rw [hr], NF0, rfl⟩)
  · skip
    refine g_iloadN hG X0 hx (hb hby d7_0) (pc' := 1) rfl rfl ?_
    refine g_aloadN hG X0 hx (hb hby d7_1) (pc' := 2) rfl rfl rfl ?_
    refine g_arraylength hG X0 hx hZ e0 V_a (hb hby d7_2) (pc' := 3) rfl ?_
    refine g_icmpYes hG X0 hx (hb hby d7_3) (pc' := 8) ((tlt (Int32.lt_iff_toInt_lt.mpr (by rw [show (4 : Int32).toInt = 4 by decide]; exact bq.2))).1) (by decide) (by decide) ?_
    refine g_aloadN hG X0 hx (hb hby d7_8) (pc' := 9) rfl rfl rfl ?_
    refine g_iloadN hG X0 hx (hb hby d7_9) (pc' := 10) rfl rfl ?_
    refine g_daload hG X0 hx hZ e0 V_a (j := q) (v := (.double (al q))) (nn_of bq.1) (al_at4 (in4_of bq.1 bq.2)) (hb hby d7_10) (pc' := 11) rfl ?_
    refine g_aloadN hG X0 hx (hb hby d7_11) (pc' := 12) rfl rfl rfl ?_
    refine g_iloadN hG X0 hx (hb hby d7_12) (pc' := 13) rfl rfl ?_
    refine g_daload hG X0 hx hZ e0 V_a (j := pj) (v := (.double (al pj))) (nn_of bpj.1) (al_at4 (in4_of bpj.1 bpj.2)) (hb hby d7_13) (pc' := 14) rfl ?_
    obtain ⟨v14, q14⟩ : ∃ zz : Int32, cmpValue (FP.dcmp (al q) (al pj)) .l = zz := ⟨_, rfl⟩
    refine g_dcmp hG X0 hx (hb hby d7_14) (pc' := 15) rfl q14 ?_
    refine g_ifYes hG X0 hx (hb hby d7_15) (pc' := 20) (by rw [← q14, c1]; rfl) (by decide) (by decide) ?_
    refine g_aloadN hG X0 hx (hb hby d7_20) (pc' := 21) rfl rfl rfl ?_
    refine g_iloadN hG X0 hx (hb hby d7_21) (pc' := 22) rfl rfl ?_
    refine g_daload hG X0 hx hZ e0 V_a (j := q) (v := (.double (al q))) (nn_of bq.1) (al_at4 (in4_of bq.1 bq.2)) (hb hby d7_22) (pc' := 23) rfl ?_
    refine g_aloadN hG X0 hx (hb hby d7_23) (pc' := 24) rfl rfl rfl ?_
    refine g_iloadN hG X0 hx (hb hby d7_24) (pc' := 25) rfl rfl ?_
    refine g_daload hG X0 hx hZ e0 V_a (j := pj) (v := (.double (al pj))) (nn_of bpj.1) (al_at4 (in4_of bpj.1 bpj.2)) (hb hby d7_25) (pc' := 26) rfl ?_
    obtain ⟨v26, q26⟩ : ∃ zz : Int32, cmpValue (FP.dcmp (al q) (al pj)) .l = zz := ⟨_, rfl⟩
    refine g_dcmp hG X0 hx (hb hby d7_26) (pc' := 27) rfl q26 ?_
    refine g_ifYes hG X0 hx (hb hby d7_27) (pc' := 37) (by rw [← q26, c1]; rfl) (by decide) (by decide) ?_
    refine g_iconst hG X0 hx (hb hby d7_37) (pc' := 38) rfl (v := (0 : Int32)) rfl ?_
    exact e_retI hGe X0 hx hrt hlk (hb hby d7_38) e0 (by decide) (by decide) (⟨by rw [hr], NF0, rfl⟩)

def Q_rmRk4 (Z : State) (a : Addr) (al : Int32 → UInt64) (bt : Int32 → Int32 → Bool) (pj z : Int32) (h0 : Heap) (n0 : Nat) (v : Option Value) (h : Heap) (L : List Loc) : Prop := v = some (.int z) ∧ Fr n0 L ∧ h = h0
set_option maxRecDepth 65536 in
set_option maxHeartbeats 40000000 in
theorem rmRk4 (l : Launch) (Z : State) (a0 : Array Value) (hw : ∀ d ∈ tables_1, d.before a0 Z = true) (ws : List Jvm.Cond) (a : Addr) (al : Int32 → UInt64) (bt : Int32 → Int32 → Bool) (pj z : Int32) (h0 : Heap) (n0 : Nat) (Zs : n0 ≤ h0.size) (V_a : AV Z h0 a .double (4 : Int32) [(.double (al (0 : Int32))), (.double (al (1 : Int32))), (.double (al (2 : Int32))), (.double (al (3 : Int32)))]) (bpj : 0 ≤ pj.toInt ∧ pj.toInt < 4) (BT : ∀ x y, In4 x → In4 y → BtR al x y (bi bt x y)) (hz : rk4 bt pj = z) :
    Con l (⟨"com/example/gauge_terms/gaugeterms/TopValuesPositionsPinLaw", "rank", "([DI)I"⟩ : MethodName) method_4_code 2 (some .int) ws ({ frames := 1, cells := 0, slots := 0, locals := 24 } : Room) Z #[(.ref a), (.int pj)] h0 ({ frames := 1, cells := 0, slots := 0, locals := 24 } : Room).cells ({ frames := 1, cells := 0, slots := 0, locals := 24 } : Room).slots (Q_rmRk4 Z a al bt pj z h0 n0) := by
  refine Con.of (Ls := #[.val (.ref a), .val (.int pj)]) (plainFor_of_name (by first | (simp [plainName, overriddenIn]; done) | decide +kernel)) (fun m => by first | (simp [entryFrame, mkF, argsToLocals, Value.category]; done) | rfl) ?_
  intro p e s m below meth c s₁ G hGe hG hx hby hml hown hnm hrt hlk hZ X0 e0
  have hown : s.vm.findClass "com/example/gauge_terms/gaugeterms/TopValuesPositionsPinLaw" = some m.cls := hown
  have hnm : meth.name = "rank" := hnm
  have NF0 := Fr.nil n0
  refine g_aloadN hG X0 hx (hb hby d6_0) (pc' := 1) rfl rfl rfl ?_
  refine g_iconst hG X0 hx (hb hby d6_1) (pc' := 2) rfl (v := (0 : Int32)) rfl ?_
  refine g_iloadN hG X0 hx (hb hby d6_2) (pc' := 3) rfl rfl ?_
  refine g_callS hG X0 hx hZ (y := (⟨"com/example/gauge_terms/gaugeterms/TopValuesPositionsPinLaw", "beats", "([DII)I"⟩ : MethodName)) 0 hown (wd hw 29 rfl) (wd hw 30 rfl) (wd hw 3 rfl) (wd hw 31 rfl) (by decide) (rmBe4 l Z a0 hw [] a al (0 : Int32) pj (bi bt (0 : Int32) pj) h0 n0 Zs V_a (by decide) bpj (BT (0 : Int32) pj (by decide) (in4_of bpj.1 (by omega)))) (by decide) (by decide) (by rw [hml]; rfl) pd_1 rfl (argsL := [(.ref a), (.int 0), (.int pj)]) (rest := []) rfl rfl (Nat.le_of_eq rfl) (hb hby d6_3) e0 (by decide) (by decide) (pc' := 6) rfl ?_
  intro T1 rv1 L1 X1 hQ1
  obtain ⟨rfl, Nq1, eh1⟩ := hQ1
  have NF1 := Fr.app NF0 Nq1
  show G (T1.setTop (mkF m 6 _ [(.int (bi bt (0 : Int32) pj))]))
  refine g_aloadN hG X1 hx (hb hby d6_6) (pc' := 7) rfl rfl rfl ?_
  refine g_iconst hG X1 hx (hb hby d6_7) (pc' := 8) rfl (v := (1 : Int32)) rfl ?_
  refine g_iloadN hG X1 hx (hb hby d6_8) (pc' := 9) rfl rfl ?_
  refine g_callS hG X1 hx hZ (y := (⟨"com/example/gauge_terms/gaugeterms/TopValuesPositionsPinLaw", "beats", "([DII)I"⟩ : MethodName)) 1 hown (wd hw 29 rfl) (wd hw 30 rfl) (wd hw 3 rfl) (wd hw 31 rfl) (by decide) (rmBe4 l Z a0 hw [] a al (1 : Int32) pj (bi bt (1 : Int32) pj) h0 n0 Zs V_a (by decide) bpj (BT (1 : Int32) pj (by decide) (in4_of bpj.1 (by omega)))) (by decide) (by decide) (by rw [hml]; rfl) pd_1 rfl (argsL := [(.ref a), (.int 1), (.int pj)]) (rest := [(.int (bi bt (0 : Int32) pj))]) rfl rfl (Nat.le_of_eq rfl) (hb hby d6_9) eh1 (by decide) (by decide) (pc' := 12) rfl ?_
  intro T2 rv2 L2 X2 hQ2
  obtain ⟨rfl, Nq2, eh2⟩ := hQ2
  have NF2 := Fr.app NF1 Nq2
  show G (T2.setTop (mkF m 12 _ [(.int (bi bt (1 : Int32) pj)), (.int (bi bt (0 : Int32) pj))]))
  obtain ⟨v12, q12⟩ : ∃ zz : Int32, (bi bt (0 : Int32) pj) + (bi bt (1 : Int32) pj) = zz := ⟨_, rfl⟩
  refine g_iadd hG X2 hx (hb hby d6_12) (pc' := 13) rfl q12 ?_
  refine g_aloadN hG X2 hx (hb hby d6_13) (pc' := 14) rfl rfl rfl ?_
  refine g_iconst hG X2 hx (hb hby d6_14) (pc' := 15) rfl (v := (2 : Int32)) rfl ?_
  refine g_iloadN hG X2 hx (hb hby d6_15) (pc' := 16) rfl rfl ?_
  refine g_callS hG X2 hx hZ (y := (⟨"com/example/gauge_terms/gaugeterms/TopValuesPositionsPinLaw", "beats", "([DII)I"⟩ : MethodName)) 1 hown (wd hw 29 rfl) (wd hw 30 rfl) (wd hw 3 rfl) (wd hw 31 rfl) (by decide) (rmBe4 l Z a0 hw [] a al (2 : Int32) pj (bi bt (2 : Int32) pj) h0 n0 Zs V_a (by decide) bpj (BT (2 : Int32) pj (by decide) (in4_of bpj.1 (by omega)))) (by decide) (by decide) (by rw [hml]; rfl) pd_1 rfl (argsL := [(.ref a), (.int 2), (.int pj)]) (rest := [(.int v12)]) rfl rfl (Nat.le_of_eq rfl) (hb hby d6_16) eh2 (by decide) (by decide) (pc' := 19) rfl ?_
  intro T3 rv3 L3 X3 hQ3
  obtain ⟨rfl, Nq3, eh3⟩ := hQ3
  have NF3 := Fr.app NF2 Nq3
  show G (T3.setTop (mkF m 19 _ [(.int (bi bt (2 : Int32) pj)), (.int v12)]))
  obtain ⟨v19, q19⟩ : ∃ zz : Int32, v12 + (bi bt (2 : Int32) pj) = zz := ⟨_, rfl⟩
  refine g_iadd hG X3 hx (hb hby d6_19) (pc' := 20) rfl q19 ?_
  refine g_aloadN hG X3 hx (hb hby d6_20) (pc' := 21) rfl rfl rfl ?_
  refine g_iconst hG X3 hx (hb hby d6_21) (pc' := 22) rfl (v := (3 : Int32)) rfl ?_
  refine g_iloadN hG X3 hx (hb hby d6_22) (pc' := 23) rfl rfl ?_
  refine g_callS hG X3 hx hZ (y := (⟨"com/example/gauge_terms/gaugeterms/TopValuesPositionsPinLaw", "beats", "([DII)I"⟩ : MethodName)) 1 hown (wd hw 29 rfl) (wd hw 30 rfl) (wd hw 3 rfl) (wd hw 31 rfl) (by decide) (rmBe4 l Z a0 hw [] a al (3 : Int32) pj (bi bt (3 : Int32) pj) h0 n0 Zs V_a (by decide) bpj (BT (3 : Int32) pj (by decide) (in4_of bpj.1 (by omega)))) (by decide) (by decide) (by rw [hml]; rfl) pd_1 rfl (argsL := [(.ref a), (.int 3), (.int pj)]) (rest := [(.int v19)]) rfl rfl (Nat.le_of_eq rfl) (hb hby d6_23) eh3 (by decide) (by decide) (pc' := 26) rfl ?_
  intro T4 rv4 L4 X4 hQ4
  obtain ⟨rfl, Nq4, eh4⟩ := hQ4
  have NF4 := Fr.app NF3 Nq4
  show G (T4.setTop (mkF m 26 _ [(.int (bi bt (3 : Int32) pj)), (.int v19)]))
  obtain ⟨v26, q26⟩ : ∃ zz : Int32, v19 + (bi bt (3 : Int32) pj) = zz := ⟨_, rfl⟩
  refine g_iadd hG X4 hx (hb hby d6_26) (pc' := 27) rfl q26 ?_
  exact e_retI hGe X4 hx hrt hlk (hb hby d6_27) eh4 (by decide) (by decide) (⟨by rw [← hz]; unfold rk4; rw [q12, q19, q26], NF4, rfl⟩)

def Q_rmPos4_0 (Z : State) (a : Addr) (al : Int32 → UInt64) (b01 b02 b03 b12 b13 b23 : Bool) (lim r : Int64) (h0 : Heap) (n0 : Nat) (v : Option Value) (h : Heap) (L : List Loc) : Prop := ∃ (b : Addr), v = some (.ref b) ∧ Fr n0 L ∧ Keep h0 h [] ∧ h0.size ≤ b ∧ (AV Z h b .int (0 : Int32) []) ∧ tops (btB b01 b02 b03 b12 b13 b23) 4 0 [] = true
set_option maxRecDepth 65536 in
set_option maxHeartbeats 40000000 in
theorem rmPos4_0 (l : Launch) (Z : State) (a0 : Array Value) (hw : ∀ d ∈ tables_1, d.before a0 Z = true) (ws : List Jvm.Cond) (a : Addr) (al : Int32 → UInt64) (b01 b02 b03 b12 b13 b23 : Bool) (lim r : Int64) (h0 : Heap) (n0 : Nat) (Zs : n0 ≤ h0.size) (V_a : AV Z h0 a .double (4 : Int32) [(.double (al (0 : Int32))), (.double (al (1 : Int32))), (.double (al (2 : Int32))), (.double (al (3 : Int32)))]) (TR : trB b01 b02 b03 b12 b13 b23 = true) (BT : ∀ x y, In4 x → In4 y → BtR al x y (bi (btB b01 b02 b03 b12 b13 b23) x y)) (hm : (¬ (4 : Int32).toInt64 < lim ∧ r = lim) ∨ ((4 : Int32).toInt64 < lim ∧ r = (4 : Int32).toInt64)) (hk : r.toInt32 = (0 : Int32)) :
    Con l (⟨"com/example/gauge_terms/gaugeterms/TopValues", "positions", "([DJ)[I"⟩ : MethodName) prog_3_method_2_code 8 (some (.array .int)) ws ({ frames := 1, cells := 1, slots := 0, locals := 40 } : Room) Z #[(.ref a), (.long lim)] h0 ({ frames := 1, cells := 1, slots := 0, locals := 40 } : Room).cells ({ frames := 1, cells := 1, slots := 0, locals := 40 } : Room).slots (Q_rmPos4_0 Z a al b01 b02 b03 b12 b13 b23 lim r h0 n0) := by
  refine Con.of (Ls := #[.val (.ref a), .val (.long lim), .second, .unset, .unset, .unset, .unset, .unset]) (plainFor_of_name (by first | (simp [plainName, overriddenIn]; done) | decide +kernel)) (fun m => by first | (simp [entryFrame, mkF, argsToLocals, Value.category]; done) | rfl) ?_
  intro p e s m below meth c s₁ G hGe hG hx hby hml hown hnm hrt hlk hZ X0 e0
  have hown : s.vm.findClass "com/example/gauge_terms/gaugeterms/TopValues" = some m.cls := hown
  have hnm : meth.name = "positions" := hnm
  have NF0 := Fr.nil n0
  have K0 := Keep.refl h0 ([] : List Addr)
  have HT0 : tops (btB b01 b02 b03 b12 b13 b23) 0 0 [] = true := rfl
  refine g_lloadN hG X0 hx (hb hby d3_0) (pc' := 1) rfl rfl ?_
  refine g_aloadN hG X0 hx (hb hby d3_1) (pc' := 2) rfl rfl rfl ?_
  refine g_arraylength hG X0 hx hZ e0 V_a (hb hby d3_2) (pc' := 3) rfl ?_
  obtain ⟨v3, q3⟩ : ∃ zz : Int64, (4 : Int32).toInt64 = zz := ⟨_, rfl⟩
  refine g_i2l hG X0 hx (hb hby d3_3) (pc' := 4) rfl q3 ?_
  refine g_callS hG X0 hx hZ (y := (⟨"java/lang/Math", "min", "(JJ)J"⟩ : MethodName)) 0 hown (wd hw 14 rfl) (wd hw 7 rfl) (wd hw 8 rfl) (wd hw 9 rfl) (by decide) (rmMJ l Z a0 hw [] lim v3 r h0 n0 Zs (q3 ▸ hm)) (by decide) (by decide) (by rw [hml]; rfl) pd_0 rfl (argsL := [(.long lim), (.long v3)]) (rest := []) rfl rfl (Nat.le_of_eq rfl) (hb hby d3_4) e0 (by decide) (by decide) (pc' := 7) rfl ?_
  intro T1 rv1 L1 X1 hQ1
  obtain ⟨rfl, Nq1, eh1⟩ := hQ1
  have NF1 := Fr.app NF0 Nq1
  show G (T1.setTop (mkF m 7 _ [(.long r)]))
  refine g_l2i hG X1 hx (hb hby d3_7) (pc' := 8) rfl hk ?_
  refine g_newP hG X1 hx hZ (wd hw 15 rfl) eh1 (hb hby d3_8) (by decide) 0 (by decide) (by decide) (by decide) (by decide) (pc' := 10) rfl ?_
  intro T2 h2 ids kA2 gs2 X2 e2 E2 A2
  have ne_a_ids : a ≠ ids := Nat.ne_of_lt (gs2 ▸ V_a.lt)
  have ge_ids : n0 ≤ ids := gs2 ▸ Zs
  have sz_ids : h0.size ≤ ids := gs2 ▸ K0.1
  have Zs := Nat.le_trans Zs E2.1
  have V_a := V_a.ext E2
  have K2 := K0.ext E2
  have V_ids : AV Z h2 ids .int (0 : Int32) [] := AV.new A2
  refine g_astoreN hG X2 hx (hb hby d3_10) (pc' := 11) rfl rfl (Ls' := #[.val (.ref a), .val (.long lim), .second, .val (.ref ids), .unset, .unset, .unset, .unset]) rfl ?_
  refine g_iconst hG X2 hx (hb hby d3_11) (pc' := 12) rfl (v := (0 : Int32)) rfl ?_
  refine g_istore hG X2 hx (hb hby d3_12) (pc' := 14) rfl (Ls' := #[.val (.ref a), .val (.long lim), .second, .val (.ref ids), .val (.int 0), .unset, .unset, .unset]) rfl ?_
  refine g_iconst hG X2 hx (hb hby d3_14) (pc' := 15) rfl (v := (0 : Int32)) rfl ?_
  refine g_istore hG X2 hx (hb hby d3_15) (pc' := 17) rfl (Ls' := #[.val (.ref a), .val (.long lim), .second, .val (.ref ids), .val (.int 0), .val (.int 0), .unset, .unset]) rfl ?_
  have J1 : ∀ (Tj3 : State) (hj3 : Heap) (Lj3 : List Loc)  (w6 : Int32), Stand p l e ({ frames := 1, cells := 1, slots := 0, locals := 40 } : Room) s m #[(.ref a), (.long lim)] below meth c Tj3 Lj3 1 0 → Tj3.heap = hj3 → Fr n0 Lj3 → n0 ≤ hj3.size → Keep h0 hj3 [] → AV Z hj3 a .double (4 : Int32) [(.double (al (0 : Int32))), (.double (al (1 : Int32))), (.double (al (2 : Int32))), (.double (al (3 : Int32)))] → AV Z hj3 ids .int (0 : Int32) [] → tops (btB b01 b02 b03 b12 b13 b23) 1 0 [] = true → G (Tj3.setTop (mkF m 17 #[.val (.ref a), .val (.long lim), .second, .val (.ref ids), .val (.int 0), .val (.int 1), .val (.int w6), .unset] [])) := by
    intro Tj3 hj3 Lj3  w6  Xj3 ej3 NFj3 Zs Kj3 V_a V_ids HT1
    have J2 : ∀ (Tj4 : State) (hj4 : Heap) (Lj4 : List Loc)  (w6 : Int32), Stand p l e ({ frames := 1, cells := 1, slots := 0, locals := 40 } : Room) s m #[(.ref a), (.long lim)] below meth c Tj4 Lj4 1 0 → Tj4.heap = hj4 → Fr n0 Lj4 → n0 ≤ hj4.size → Keep h0 hj4 [] → AV Z hj4 a .double (4 : Int32) [(.double (al (0 : Int32))), (.double (al (1 : Int32))), (.double (al (2 : Int32))), (.double (al (3 : Int32)))] → AV Z hj4 ids .int (0 : Int32) [] → tops (btB b01 b02 b03 b12 b13 b23) 2 0 [] = true → G (Tj4.setTop (mkF m 17 #[.val (.ref a), .val (.long lim), .second, .val (.ref ids), .val (.int 0), .val (.int 2), .val (.int w6), .unset] [])) := by
      intro Tj4 hj4 Lj4  w6  Xj4 ej4 NFj4 Zs Kj4 V_a V_ids HT2
      have J3 : ∀ (Tj5 : State) (hj5 : Heap) (Lj5 : List Loc)  (w6 : Int32), Stand p l e ({ frames := 1, cells := 1, slots := 0, locals := 40 } : Room) s m #[(.ref a), (.long lim)] below meth c Tj5 Lj5 1 0 → Tj5.heap = hj5 → Fr n0 Lj5 → n0 ≤ hj5.size → Keep h0 hj5 [] → AV Z hj5 a .double (4 : Int32) [(.double (al (0 : Int32))), (.double (al (1 : Int32))), (.double (al (2 : Int32))), (.double (al (3 : Int32)))] → AV Z hj5 ids .int (0 : Int32) [] → tops (btB b01 b02 b03 b12 b13 b23) 3 0 [] = true → G (Tj5.setTop (mkF m 17 #[.val (.ref a), .val (.long lim), .second, .val (.ref ids), .val (.int 0), .val (.int 3), .val (.int w6), .unset] [])) := by
        intro Tj5 hj5 Lj5  w6  Xj5 ej5 NFj5 Zs Kj5 V_a V_ids HT3
        have J4 : ∀ (Tj6 : State) (hj6 : Heap) (Lj6 : List Loc)  (w6 : Int32), Stand p l e ({ frames := 1, cells := 1, slots := 0, locals := 40 } : Room) s m #[(.ref a), (.long lim)] below meth c Tj6 Lj6 1 0 → Tj6.heap = hj6 → Fr n0 Lj6 → n0 ≤ hj6.size → Keep h0 hj6 [] → AV Z hj6 a .double (4 : Int32) [(.double (al (0 : Int32))), (.double (al (1 : Int32))), (.double (al (2 : Int32))), (.double (al (3 : Int32)))] → AV Z hj6 ids .int (0 : Int32) [] → tops (btB b01 b02 b03 b12 b13 b23) 4 0 [] = true → G (Tj6.setTop (mkF m 17 #[.val (.ref a), .val (.long lim), .second, .val (.ref ids), .val (.int 0), .val (.int 4), .val (.int w6), .unset] [])) := by
          intro Tj6 hj6 Lj6  w6  Xj6 ej6 NFj6 Zs Kj6 V_a V_ids HT4
          refine g_iload hG Xj6 hx (hb hby d3_17) (pc' := 19) rfl rfl ?_
          refine g_aloadN hG Xj6 hx (hb hby d3_19) (pc' := 20) rfl rfl rfl ?_
          refine g_arraylength hG Xj6 hx hZ ej6 V_a (hb hby d3_20) (pc' := 21) rfl ?_
          refine g_icmpYes hG Xj6 hx (hb hby d3_21) (pc' := 112) (by decide) (by decide) (by decide) ?_
          refine g_aloadN hG Xj6 hx (hb hby d3_112) (pc' := 113) rfl rfl rfl ?_
          exact e_retA hGe Xj6 hx hrt rfl hlk (hb hby d3_113) ej6 (by decide) (by decide) (⟨ids,  rfl, NFj6, Kj6, sz_ids, V_ids, HT4⟩)
        refine g_iload hG Xj5 hx (hb hby d3_17) (pc' := 19) rfl rfl ?_
        refine g_aloadN hG Xj5 hx (hb hby d3_19) (pc' := 20) rfl rfl rfl ?_
        refine g_arraylength hG Xj5 hx hZ ej5 V_a (hb hby d3_20) (pc' := 21) rfl ?_
        refine g_icmpNo hG Xj5 hx (hb hby d3_21) (pc' := 24) (by decide) rfl ?_
        refine g_iload hG Xj5 hx (hb hby d3_24) (pc' := 26) rfl rfl ?_
        refine g_istore hG Xj5 hx (hb hby d3_26) (pc' := 28) rfl (Ls' := #[.val (.ref a), .val (.long lim), .second, .val (.ref ids), .val (.int 0), .val (.int 3), .val (.int 0), .unset]) rfl ?_
        refine g_iload hG Xj5 hx (hb hby d3_28) (pc' := 30) rfl rfl ?_
        refine g_ifYes hG Xj5 hx (hb hby d3_30) (pc' := 55) (by decide) (by decide) (by decide) ?_
        refine g_iload hG Xj5 hx (hb hby d3_55) (pc' := 57) rfl rfl ?_
        refine g_aloadN hG Xj5 hx (hb hby d3_57) (pc' := 58) rfl rfl rfl ?_
        refine g_arraylength hG Xj5 hx hZ ej5 V_ids (hb hby d3_58) (pc' := 59) rfl ?_
        refine g_icmpYes hG Xj5 hx (hb hby d3_59) (pc' := 106) (by decide) (by decide) (by decide) ?_
        refine g_iinc hG Xj5 hx (hb hby d3_106) (pc' := 109) rfl rfl (v := (4 : Int32)) (by decide) (Ls' := #[.val (.ref a), .val (.long lim), .second, .val (.ref ids), .val (.int 0), .val (.int 4), .val (.int 0), .unset]) rfl ?_
        refine g_goto hG Xj5 hx (hb hby d3_109) (pc' := 17) (by decide) (by decide) ?_
        exact J4 _ _ _ (0 : Int32) Xj5 ej5 NFj5 Zs Kj5 V_a V_ids (st_3_0_0_0 b01 b02 b03 b12 b13 b23  TR HT3 )
      refine g_iload hG Xj4 hx (hb hby d3_17) (pc' := 19) rfl rfl ?_
      refine g_aloadN hG Xj4 hx (hb hby d3_19) (pc' := 20) rfl rfl rfl ?_
      refine g_arraylength hG Xj4 hx hZ ej4 V_a (hb hby d3_20) (pc' := 21) rfl ?_
      refine g_icmpNo hG Xj4 hx (hb hby d3_21) (pc' := 24) (by decide) rfl ?_
      refine g_iload hG Xj4 hx (hb hby d3_24) (pc' := 26) rfl rfl ?_
      refine g_istore hG Xj4 hx (hb hby d3_26) (pc' := 28) rfl (Ls' := #[.val (.ref a), .val (.long lim), .second, .val (.ref ids), .val (.int 0), .val (.int 2), .val (.int 0), .unset]) rfl ?_
      refine g_iload hG Xj4 hx (hb hby d3_28) (pc' := 30) rfl rfl ?_
      refine g_ifYes hG Xj4 hx (hb hby d3_30) (pc' := 55) (by decide) (by decide) (by decide) ?_
      refine g_iload hG Xj4 hx (hb hby d3_55) (pc' := 57) rfl rfl ?_
      refine g_aloadN hG Xj4 hx (hb hby d3_57) (pc' := 58) rfl rfl rfl ?_
      refine g_arraylength hG Xj4 hx hZ ej4 V_ids (hb hby d3_58) (pc' := 59) rfl ?_
      refine g_icmpYes hG Xj4 hx (hb hby d3_59) (pc' := 106) (by decide) (by decide) (by decide) ?_
      refine g_iinc hG Xj4 hx (hb hby d3_106) (pc' := 109) rfl rfl (v := (3 : Int32)) (by decide) (Ls' := #[.val (.ref a), .val (.long lim), .second, .val (.ref ids), .val (.int 0), .val (.int 3), .val (.int 0), .unset]) rfl ?_
      refine g_goto hG Xj4 hx (hb hby d3_109) (pc' := 17) (by decide) (by decide) ?_
      exact J3 _ _ _ (0 : Int32) Xj4 ej4 NFj4 Zs Kj4 V_a V_ids (st_2_0_0_0 b01 b02 b03 b12 b13 b23  TR HT2 )
    refine g_iload hG Xj3 hx (hb hby d3_17) (pc' := 19) rfl rfl ?_
    refine g_aloadN hG Xj3 hx (hb hby d3_19) (pc' := 20) rfl rfl rfl ?_
    refine g_arraylength hG Xj3 hx hZ ej3 V_a (hb hby d3_20) (pc' := 21) rfl ?_
    refine g_icmpNo hG Xj3 hx (hb hby d3_21) (pc' := 24) (by decide) rfl ?_
    refine g_iload hG Xj3 hx (hb hby d3_24) (pc' := 26) rfl rfl ?_
    refine g_istore hG Xj3 hx (hb hby d3_26) (pc' := 28) rfl (Ls' := #[.val (.ref a), .val (.long lim), .second, .val (.ref ids), .val (.int 0), .val (.int 1), .val (.int 0), .unset]) rfl ?_
    refine g_iload hG Xj3 hx (hb hby d3_28) (pc' := 30) rfl rfl ?_
    refine g_ifYes hG Xj3 hx (hb hby d3_30) (pc' := 55) (by decide) (by decide) (by decide) ?_
    refine g_iload hG Xj3 hx (hb hby d3_55) (pc' := 57) rfl rfl ?_
    refine g_aloadN hG Xj3 hx (hb hby d3_57) (pc' := 58) rfl rfl rfl ?_
    refine g_arraylength hG Xj3 hx hZ ej3 V_ids (hb hby d3_58) (pc' := 59) rfl ?_
    refine g_icmpYes hG Xj3 hx (hb hby d3_59) (pc' := 106) (by decide) (by decide) (by decide) ?_
    refine g_iinc hG Xj3 hx (hb hby d3_106) (pc' := 109) rfl rfl (v := (2 : Int32)) (by decide) (Ls' := #[.val (.ref a), .val (.long lim), .second, .val (.ref ids), .val (.int 0), .val (.int 2), .val (.int 0), .unset]) rfl ?_
    refine g_goto hG Xj3 hx (hb hby d3_109) (pc' := 17) (by decide) (by decide) ?_
    exact J2 _ _ _ (0 : Int32) Xj3 ej3 NFj3 Zs Kj3 V_a V_ids (st_1_0_0_0 b01 b02 b03 b12 b13 b23  TR HT1 )
  refine g_iload hG X2 hx (hb hby d3_17) (pc' := 19) rfl rfl ?_
  refine g_aloadN hG X2 hx (hb hby d3_19) (pc' := 20) rfl rfl rfl ?_
  refine g_arraylength hG X2 hx hZ e2 V_a (hb hby d3_20) (pc' := 21) rfl ?_
  refine g_icmpNo hG X2 hx (hb hby d3_21) (pc' := 24) (by decide) rfl ?_
  refine g_iload hG X2 hx (hb hby d3_24) (pc' := 26) rfl rfl ?_
  refine g_istore hG X2 hx (hb hby d3_26) (pc' := 28) rfl (Ls' := #[.val (.ref a), .val (.long lim), .second, .val (.ref ids), .val (.int 0), .val (.int 0), .val (.int 0), .unset]) rfl ?_
  refine g_iload hG X2 hx (hb hby d3_28) (pc' := 30) rfl rfl ?_
  refine g_ifYes hG X2 hx (hb hby d3_30) (pc' := 55) (by decide) (by decide) (by decide) ?_
  refine g_iload hG X2 hx (hb hby d3_55) (pc' := 57) rfl rfl ?_
  refine g_aloadN hG X2 hx (hb hby d3_57) (pc' := 58) rfl rfl rfl ?_
  refine g_arraylength hG X2 hx hZ e2 V_ids (hb hby d3_58) (pc' := 59) rfl ?_
  refine g_icmpYes hG X2 hx (hb hby d3_59) (pc' := 106) (by decide) (by decide) (by decide) ?_
  refine g_iinc hG X2 hx (hb hby d3_106) (pc' := 109) rfl rfl (v := (1 : Int32)) (by decide) (Ls' := #[.val (.ref a), .val (.long lim), .second, .val (.ref ids), .val (.int 0), .val (.int 1), .val (.int 0), .unset]) rfl ?_
  refine g_goto hG X2 hx (hb hby d3_109) (pc' := 17) (by decide) (by decide) ?_
  exact J1 _ _ _ (0 : Int32) X2 e2 NF1 Zs K2 V_a V_ids (st_0_0_0_0 b01 b02 b03 b12 b13 b23  TR HT0 )

def Q_rmCk4_1_0 (Z : State) (a ids : Addr) (al : Int32 → UInt64) (bt : Int32 → Int32 → Bool) (p0 : Int32) (h0 : Heap) (n0 : Nat) (v : Option Value) (h : Heap) (L : List Loc) : Prop := v = some (.int 1) ∧ Fr n0 L ∧ h = h0
set_option maxRecDepth 65536 in
set_option maxHeartbeats 40000000 in
theorem rmCk4_1_0 (l : Launch) (Z : State) (a0 : Array Value) (hw : ∀ d ∈ tables_1, d.before a0 Z = true) (ws : List Jvm.Cond) (a ids : Addr) (al : Int32 → UInt64) (bt : Int32 → Int32 → Bool) (p0 : Int32) (h0 : Heap) (n0 : Nat) (Zs : n0 ≤ h0.size) (V_a : AV Z h0 a .double (4 : Int32) [(.double (al (0 : Int32))), (.double (al (1 : Int32))), (.double (al (2 : Int32))), (.double (al (3 : Int32)))]) (V_ids : AV Z h0 ids .int (1 : Int32) [(.int p0)]) (HT : tops bt 4 0 [p0] = true) (BT : ∀ x y, In4 x → In4 y → BtR al x y (bi bt x y)) :
    Con l (⟨"com/example/gauge_terms/gaugeterms/TopValuesPositionsPinLaw", "check", "([D[II)Z"⟩ : MethodName) method_5_code 4 (some .boolean) ws ({ frames := 2, cells := 0, slots := 0, locals := 56 } : Room) Z #[(.ref a), (.ref ids), (.int 0)] h0 ({ frames := 2, cells := 0, slots := 0, locals := 56 } : Room).cells ({ frames := 2, cells := 0, slots := 0, locals := 56 } : Room).slots (Q_rmCk4_1_0 Z a ids al bt p0 h0 n0) := by
  refine Con.of (Ls := #[.val (.ref a), .val (.ref ids), .val (.int 0), .unset]) (plainFor_of_name (by first | (simp [plainName, overriddenIn]; done) | decide +kernel)) (fun m => by first | (simp [entryFrame, mkF, argsToLocals, Value.category]; done) | rfl) ?_
  intro p e s m below meth c s₁ G hGe hG hx hby hml hown hnm hrt hlk hZ X0 e0
  have hown : s.vm.findClass "com/example/gauge_terms/gaugeterms/TopValuesPositionsPinLaw" = some m.cls := hown
  have hnm : meth.name = "check" := hnm
  have NF0 := Fr.nil n0
  have bj : 0 ≤ p0.toInt ∧ p0.toInt < 4 := tops_b HT p0 (by simp)
  have rj : rk4 bt p0 = (0 : Int32) := tops_r HT 0 p0 rfl
  refine g_iloadN hG X0 hx (hb hby d5_0) (pc' := 1) rfl rfl ?_
  refine g_aloadN hG X0 hx (hb hby d5_1) (pc' := 2) rfl rfl rfl ?_
  refine g_arraylength hG X0 hx hZ e0 V_ids (hb hby d5_2) (pc' := 3) rfl ?_
  refine g_icmpYes hG X0 hx (hb hby d5_3) (pc' := 8) (by decide) (by decide) (by decide) ?_
  refine g_aloadN hG X0 hx (hb hby d5_8) (pc' := 9) rfl rfl rfl ?_
  refine g_iloadN hG X0 hx (hb hby d5_9) (pc' := 10) rfl rfl ?_
  refine g_iaload hG X0 hx hZ e0 V_ids (j := (0 : Int32)) (v := (.int p0)) (by decide) rfl (hb hby d5_10) (pc' := 11) rfl ?_
  refine g_istoreN hG X0 hx (hb hby d5_11) (pc' := 12) rfl (Ls' := #[.val (.ref a), .val (.ref ids), .val (.int 0), .val (.int p0)]) rfl ?_
  refine g_iloadN hG X0 hx (hb hby d5_12) (pc' := 13) rfl rfl ?_
  refine g_ifNo hG X0 hx (hb hby d5_13) (pc' := 16) ((if0 _ _).trans (flt (nn_of bj.1)).1) rfl ?_
  refine g_iloadN hG X0 hx (hb hby d5_16) (pc' := 17) rfl rfl ?_
  refine g_aloadN hG X0 hx (hb hby d5_17) (pc' := 18) rfl rfl rfl ?_
  refine g_arraylength hG X0 hx hZ e0 V_a (hb hby d5_18) (pc' := 19) rfl ?_
  refine g_icmpYes hG X0 hx (hb hby d5_19) (pc' := 24) ((tlt (Int32.lt_iff_toInt_lt.mpr (by rw [show (4 : Int32).toInt = 4 by decide]; exact bj.2))).1) (by decide) (by decide) ?_
  refine g_aloadN hG X0 hx (hb hby d5_24) (pc' := 25) rfl rfl rfl ?_
  refine g_iloadN hG X0 hx (hb hby d5_25) (pc' := 26) rfl rfl ?_
  refine g_callS hG X0 hx hZ (y := (⟨"com/example/gauge_terms/gaugeterms/TopValuesPositionsPinLaw", "rank", "([DI)I"⟩ : MethodName)) 0 hown (wd hw 26 rfl) (wd hw 27 rfl) (wd hw 3 rfl) (wd hw 28 rfl) (by decide) (rmRk4 l Z a0 hw [] a al bt p0 (0 : Int32) h0 n0 Zs V_a bj BT rj) (by decide) (by decide) (by rw [hml]; rfl) pd_2 rfl (argsL := [(.ref a), (.int p0)]) (rest := []) rfl rfl (Nat.le_of_eq rfl) (hb hby d5_26) e0 (by decide) (by decide) (pc' := 29) rfl ?_
  intro T1 rv1 L1 X1 hQ1
  obtain ⟨rfl, Nq1, eh1⟩ := hQ1
  have NF1 := Fr.app NF0 Nq1
  show G (T1.setTop (mkF m 29 _ [(.int 0)]))
  refine g_iloadN hG X1 hx (hb hby d5_29) (pc' := 30) rfl rfl ?_
  refine g_icmpNo hG X1 hx (hb hby d5_30) (pc' := 33) (by decide) rfl ?_
  refine g_iconst hG X1 hx (hb hby d5_33) (pc' := 34) rfl (v := (1 : Int32)) rfl ?_
  refine g_goto hG X1 hx (hb hby d5_34) (pc' := 38) (by decide) (by decide) ?_
  exact e_retZ hGe X1 hx hrt hlk (hb hby d5_38) (Or.inr rfl) eh1 (by decide) (by decide) (⟨rfl, NF1, rfl⟩)

def Q_rmPos4_1 (Z : State) (a : Addr) (al : Int32 → UInt64) (b01 b02 b03 b12 b13 b23 : Bool) (lim r : Int64) (h0 : Heap) (n0 : Nat) (v : Option Value) (h : Heap) (L : List Loc) : Prop := ∃ (b : Addr) (p0 : Int32), v = some (.ref b) ∧ Fr n0 L ∧ Keep h0 h [] ∧ h0.size ≤ b ∧ (AV Z h b .int (1 : Int32) [(.int p0)]) ∧ tops (btB b01 b02 b03 b12 b13 b23) 4 0 [p0] = true
set_option maxRecDepth 65536 in
set_option maxHeartbeats 40000000 in
theorem rmPos4_1 (l : Launch) (Z : State) (a0 : Array Value) (hw : ∀ d ∈ tables_1, d.before a0 Z = true) (ws : List Jvm.Cond) (a : Addr) (al : Int32 → UInt64) (b01 b02 b03 b12 b13 b23 : Bool) (lim r : Int64) (h0 : Heap) (n0 : Nat) (Zs : n0 ≤ h0.size) (V_a : AV Z h0 a .double (4 : Int32) [(.double (al (0 : Int32))), (.double (al (1 : Int32))), (.double (al (2 : Int32))), (.double (al (3 : Int32)))]) (TR : trB b01 b02 b03 b12 b13 b23 = true) (BT : ∀ x y, In4 x → In4 y → BtR al x y (bi (btB b01 b02 b03 b12 b13 b23) x y)) (hm : (¬ (4 : Int32).toInt64 < lim ∧ r = lim) ∨ ((4 : Int32).toInt64 < lim ∧ r = (4 : Int32).toInt64)) (hk : r.toInt32 = (1 : Int32)) :
    Con l (⟨"com/example/gauge_terms/gaugeterms/TopValues", "positions", "([DJ)[I"⟩ : MethodName) prog_3_method_2_code 8 (some (.array .int)) ws ({ frames := 1, cells := 1, slots := 1, locals := 40 } : Room) Z #[(.ref a), (.long lim)] h0 ({ frames := 1, cells := 1, slots := 1, locals := 40 } : Room).cells ({ frames := 1, cells := 1, slots := 1, locals := 40 } : Room).slots (Q_rmPos4_1 Z a al b01 b02 b03 b12 b13 b23 lim r h0 n0) := by
  refine Con.of (Ls := #[.val (.ref a), .val (.long lim), .second, .unset, .unset, .unset, .unset, .unset]) (plainFor_of_name (by first | (simp [plainName, overriddenIn]; done) | decide +kernel)) (fun m => by first | (simp [entryFrame, mkF, argsToLocals, Value.category]; done) | rfl) ?_
  intro p e s m below meth c s₁ G hGe hG hx hby hml hown hnm hrt hlk hZ X0 e0
  have hown : s.vm.findClass "com/example/gauge_terms/gaugeterms/TopValues" = some m.cls := hown
  have hnm : meth.name = "positions" := hnm
  have NF0 := Fr.nil n0
  have K0 := Keep.refl h0 ([] : List Addr)
  have HT0 : tops (btB b01 b02 b03 b12 b13 b23) 0 0 [] = true := rfl
  refine g_lloadN hG X0 hx (hb hby d3_0) (pc' := 1) rfl rfl ?_
  refine g_aloadN hG X0 hx (hb hby d3_1) (pc' := 2) rfl rfl rfl ?_
  refine g_arraylength hG X0 hx hZ e0 V_a (hb hby d3_2) (pc' := 3) rfl ?_
  obtain ⟨v3, q3⟩ : ∃ zz : Int64, (4 : Int32).toInt64 = zz := ⟨_, rfl⟩
  refine g_i2l hG X0 hx (hb hby d3_3) (pc' := 4) rfl q3 ?_
  refine g_callS hG X0 hx hZ (y := (⟨"java/lang/Math", "min", "(JJ)J"⟩ : MethodName)) 0 hown (wd hw 14 rfl) (wd hw 7 rfl) (wd hw 8 rfl) (wd hw 9 rfl) (by decide) (rmMJ l Z a0 hw [] lim v3 r h0 n0 Zs (q3 ▸ hm)) (by decide) (by decide) (by rw [hml]; rfl) pd_0 rfl (argsL := [(.long lim), (.long v3)]) (rest := []) rfl rfl (Nat.le_of_eq rfl) (hb hby d3_4) e0 (by decide) (by decide) (pc' := 7) rfl ?_
  intro T1 rv1 L1 X1 hQ1
  obtain ⟨rfl, Nq1, eh1⟩ := hQ1
  have NF1 := Fr.app NF0 Nq1
  show G (T1.setTop (mkF m 7 _ [(.long r)]))
  refine g_l2i hG X1 hx (hb hby d3_7) (pc' := 8) rfl hk ?_
  refine g_newP hG X1 hx hZ (wd hw 15 rfl) eh1 (hb hby d3_8) (by decide) 1 (by decide) (by decide) (by decide) (by decide) (pc' := 10) rfl ?_
  intro T2 h2 ids kA2 gs2 X2 e2 E2 A2
  have ne_a_ids : a ≠ ids := Nat.ne_of_lt (gs2 ▸ V_a.lt)
  have ge_ids : n0 ≤ ids := gs2 ▸ Zs
  have sz_ids : h0.size ≤ ids := gs2 ▸ K0.1
  have Zs := Nat.le_trans Zs E2.1
  have V_a := V_a.ext E2
  have K2 := K0.ext E2
  have V_ids : AV Z h2 ids .int (1 : Int32) [(.int 0)] := AV.new A2
  refine g_astoreN hG X2 hx (hb hby d3_10) (pc' := 11) rfl rfl (Ls' := #[.val (.ref a), .val (.long lim), .second, .val (.ref ids), .unset, .unset, .unset, .unset]) rfl ?_
  refine g_iconst hG X2 hx (hb hby d3_11) (pc' := 12) rfl (v := (0 : Int32)) rfl ?_
  refine g_istore hG X2 hx (hb hby d3_12) (pc' := 14) rfl (Ls' := #[.val (.ref a), .val (.long lim), .second, .val (.ref ids), .val (.int 0), .unset, .unset, .unset]) rfl ?_
  refine g_iconst hG X2 hx (hb hby d3_14) (pc' := 15) rfl (v := (0 : Int32)) rfl ?_
  refine g_istore hG X2 hx (hb hby d3_15) (pc' := 17) rfl (Ls' := #[.val (.ref a), .val (.long lim), .second, .val (.ref ids), .val (.int 0), .val (.int 0), .unset, .unset]) rfl ?_
  have J1 : ∀ (Tj3 : State) (hj3 : Heap) (Lj3 : List Loc) (p0 : Int32) (w6 w7 : Int32), Stand p l e ({ frames := 1, cells := 1, slots := 1, locals := 40 } : Room) s m #[(.ref a), (.long lim)] below meth c Tj3 Lj3 1 1 → Tj3.heap = hj3 → Fr n0 Lj3 → n0 ≤ hj3.size → Keep h0 hj3 [] → AV Z hj3 a .double (4 : Int32) [(.double (al (0 : Int32))), (.double (al (1 : Int32))), (.double (al (2 : Int32))), (.double (al (3 : Int32)))] → AV Z hj3 ids .int (1 : Int32) [(.int p0)] → tops (btB b01 b02 b03 b12 b13 b23) 1 0 [p0] = true → G (Tj3.setTop (mkF m 17 #[.val (.ref a), .val (.long lim), .second, .val (.ref ids), .val (.int 1), .val (.int 1), .val (.int w6), .val (.int w7)] [])) := by
    intro Tj3 hj3 Lj3 p0 w6 w7 Xj3 ej3 NFj3 Zs Kj3 V_a V_ids HT1
    have bp0 : 0 ≤ p0.toInt ∧ p0.toInt < 1 := tops_b HT1 p0 (by simp)
    have J2 : ∀ (Tj4 : State) (hj4 : Heap) (Lj4 : List Loc) (p0 : Int32) (w6 w7 : Int32), Stand p l e ({ frames := 1, cells := 1, slots := 1, locals := 40 } : Room) s m #[(.ref a), (.long lim)] below meth c Tj4 Lj4 1 1 → Tj4.heap = hj4 → Fr n0 Lj4 → n0 ≤ hj4.size → Keep h0 hj4 [] → AV Z hj4 a .double (4 : Int32) [(.double (al (0 : Int32))), (.double (al (1 : Int32))), (.double (al (2 : Int32))), (.double (al (3 : Int32)))] → AV Z hj4 ids .int (1 : Int32) [(.int p0)] → tops (btB b01 b02 b03 b12 b13 b23) 2 0 [p0] = true → G (Tj4.setTop (mkF m 17 #[.val (.ref a), .val (.long lim), .second, .val (.ref ids), .val (.int 1), .val (.int 2), .val (.int w6), .val (.int w7)] [])) := by
      intro Tj4 hj4 Lj4 p0 w6 w7 Xj4 ej4 NFj4 Zs Kj4 V_a V_ids HT2
      have bp0 : 0 ≤ p0.toInt ∧ p0.toInt < 2 := tops_b HT2 p0 (by simp)
      have J3 : ∀ (Tj5 : State) (hj5 : Heap) (Lj5 : List Loc) (p0 : Int32) (w6 w7 : Int32), Stand p l e ({ frames := 1, cells := 1, slots := 1, locals := 40 } : Room) s m #[(.ref a), (.long lim)] below meth c Tj5 Lj5 1 1 → Tj5.heap = hj5 → Fr n0 Lj5 → n0 ≤ hj5.size → Keep h0 hj5 [] → AV Z hj5 a .double (4 : Int32) [(.double (al (0 : Int32))), (.double (al (1 : Int32))), (.double (al (2 : Int32))), (.double (al (3 : Int32)))] → AV Z hj5 ids .int (1 : Int32) [(.int p0)] → tops (btB b01 b02 b03 b12 b13 b23) 3 0 [p0] = true → G (Tj5.setTop (mkF m 17 #[.val (.ref a), .val (.long lim), .second, .val (.ref ids), .val (.int 1), .val (.int 3), .val (.int w6), .val (.int w7)] [])) := by
        intro Tj5 hj5 Lj5 p0 w6 w7 Xj5 ej5 NFj5 Zs Kj5 V_a V_ids HT3
        have bp0 : 0 ≤ p0.toInt ∧ p0.toInt < 3 := tops_b HT3 p0 (by simp)
        have J4 : ∀ (Tj6 : State) (hj6 : Heap) (Lj6 : List Loc) (p0 : Int32) (w6 w7 : Int32), Stand p l e ({ frames := 1, cells := 1, slots := 1, locals := 40 } : Room) s m #[(.ref a), (.long lim)] below meth c Tj6 Lj6 1 1 → Tj6.heap = hj6 → Fr n0 Lj6 → n0 ≤ hj6.size → Keep h0 hj6 [] → AV Z hj6 a .double (4 : Int32) [(.double (al (0 : Int32))), (.double (al (1 : Int32))), (.double (al (2 : Int32))), (.double (al (3 : Int32)))] → AV Z hj6 ids .int (1 : Int32) [(.int p0)] → tops (btB b01 b02 b03 b12 b13 b23) 4 0 [p0] = true → G (Tj6.setTop (mkF m 17 #[.val (.ref a), .val (.long lim), .second, .val (.ref ids), .val (.int 1), .val (.int 4), .val (.int w6), .val (.int w7)] [])) := by
          intro Tj6 hj6 Lj6 p0 w6 w7 Xj6 ej6 NFj6 Zs Kj6 V_a V_ids HT4
          have bp0 : 0 ≤ p0.toInt ∧ p0.toInt < 4 := tops_b HT4 p0 (by simp)
          refine g_iload hG Xj6 hx (hb hby d3_17) (pc' := 19) rfl rfl ?_
          refine g_aloadN hG Xj6 hx (hb hby d3_19) (pc' := 20) rfl rfl rfl ?_
          refine g_arraylength hG Xj6 hx hZ ej6 V_a (hb hby d3_20) (pc' := 21) rfl ?_
          refine g_icmpYes hG Xj6 hx (hb hby d3_21) (pc' := 112) (by decide) (by decide) (by decide) ?_
          refine g_aloadN hG Xj6 hx (hb hby d3_112) (pc' := 113) rfl rfl rfl ?_
          exact e_retA hGe Xj6 hx hrt rfl hlk (hb hby d3_113) ej6 (by decide) (by decide) (⟨ids, p0,  rfl, NFj6, Kj6, sz_ids, V_ids, HT4⟩)
        refine g_iload hG Xj5 hx (hb hby d3_17) (pc' := 19) rfl rfl ?_
        refine g_aloadN hG Xj5 hx (hb hby d3_19) (pc' := 20) rfl rfl rfl ?_
        refine g_arraylength hG Xj5 hx hZ ej5 V_a (hb hby d3_20) (pc' := 21) rfl ?_
        refine g_icmpNo hG Xj5 hx (hb hby d3_21) (pc' := 24) (by decide) rfl ?_
        refine g_iload hG Xj5 hx (hb hby d3_24) (pc' := 26) rfl rfl ?_
        refine g_istore hG Xj5 hx (hb hby d3_26) (pc' := 28) rfl (Ls' := #[.val (.ref a), .val (.long lim), .second, .val (.ref ids), .val (.int 1), .val (.int 3), .val (.int 1), .val (.int w7)]) rfl ?_
        refine g_iload hG Xj5 hx (hb hby d3_28) (pc' := 30) rfl rfl ?_
        refine g_ifNo hG Xj5 hx (hb hby d3_30) (pc' := 33) (by decide) rfl ?_
        refine g_aloadN hG Xj5 hx (hb hby d3_33) (pc' := 34) rfl rfl rfl ?_
        refine g_iload hG Xj5 hx (hb hby d3_34) (pc' := 36) rfl rfl ?_
        refine g_daload hG Xj5 hx hZ ej5 V_a (j := (3 : Int32)) (v := (.double (al (3 : Int32)))) (by decide) rfl (hb hby d3_36) (pc' := 37) rfl ?_
        refine g_aloadN hG Xj5 hx (hb hby d3_37) (pc' := 38) rfl rfl rfl ?_
        refine g_aloadN hG Xj5 hx (hb hby d3_38) (pc' := 39) rfl rfl rfl ?_
        refine g_iload hG Xj5 hx (hb hby d3_39) (pc' := 41) rfl rfl ?_
        refine g_iconst hG Xj5 hx (hb hby d3_41) (pc' := 42) rfl (v := (1 : Int32)) rfl ?_
        refine g_isub hG Xj5 hx (hb hby d3_42) (pc' := 43) rfl (v := (0 : Int32)) (by decide) ?_
        refine g_iaload hG Xj5 hx hZ ej5 V_ids (j := (0 : Int32)) (v := (.int p0)) (by decide) rfl (hb hby d3_43) (pc' := 44) rfl ?_
        refine g_daload hG Xj5 hx hZ ej5 V_a (j := p0) (v := (.double (al p0))) (nn_of bp0.1) (al_at4 (in4_of bp0.1 (by omega))) (hb hby d3_44) (pc' := 45) rfl ?_
        obtain ⟨v45, q45⟩ : ∃ zz : Int32, cmpValue (FP.dcmp (al (3 : Int32)) (al p0)) .l = zz := ⟨_, rfl⟩
        refine g_dcmp hG Xj5 hx (hb hby d3_45) (pc' := 46) rfl q45 ?_
        by_cases g3_0 : (btB b01 b02 b03 b12 b13 b23) (3 : Int32) p0 = true
        · skip
          refine g_ifNo hG Xj5 hx (hb hby d3_46) (pc' := 49) (by rw [← q45, gt_yes (BT (3 : Int32) p0 (by decide) (in4_of bp0.1 (by omega))) (fun g => by have := Int32.lt_iff_toInt_lt.mp g; rw [show (3 : Int32).toInt = 3 by decide] at this; omega) g3_0]; rfl) rfl ?_
          refine g_iinc hG Xj5 hx (hb hby d3_49) (pc' := 52) rfl rfl (v := (0 : Int32)) (by decide) (Ls' := #[.val (.ref a), .val (.long lim), .second, .val (.ref ids), .val (.int 1), .val (.int 3), .val (.int 0), .val (.int w7)]) rfl ?_
          refine g_goto hG Xj5 hx (hb hby d3_52) (pc' := 28) (by decide) (by decide) ?_
          refine g_iload hG Xj5 hx (hb hby d3_28) (pc' := 30) rfl rfl ?_
          refine g_ifYes hG Xj5 hx (hb hby d3_30) (pc' := 55) (by decide) (by decide) (by decide) ?_
          refine g_iload hG Xj5 hx (hb hby d3_55) (pc' := 57) rfl rfl ?_
          refine g_aloadN hG Xj5 hx (hb hby d3_57) (pc' := 58) rfl rfl rfl ?_
          refine g_arraylength hG Xj5 hx hZ ej5 V_ids (hb hby d3_58) (pc' := 59) rfl ?_
          refine g_icmpNo hG Xj5 hx (hb hby d3_59) (pc' := 62) (by decide) rfl ?_
          refine g_iload hG Xj5 hx (hb hby d3_62) (pc' := 64) rfl rfl ?_
          refine g_aloadN hG Xj5 hx (hb hby d3_64) (pc' := 65) rfl rfl rfl ?_
          refine g_arraylength hG Xj5 hx hZ ej5 V_ids (hb hby d3_65) (pc' := 66) rfl ?_
          refine g_iconst hG Xj5 hx (hb hby d3_66) (pc' := 67) rfl (v := (1 : Int32)) rfl ?_
          refine g_isub hG Xj5 hx (hb hby d3_67) (pc' := 68) rfl (v := (0 : Int32)) (by decide) ?_
          refine g_callS hG Xj5 hx hZ (y := (⟨"java/lang/Math", "min", "(II)I"⟩ : MethodName)) 0 hown (wd hw 16 rfl) (wd hw 17 rfl) (wd hw 8 rfl) (wd hw 18 rfl) (by decide) (rmMI l Z a0 hw [] (1 : Int32) (0 : Int32) (0 : Int32) hj5 n0 Zs (by decide)) (by decide) (by decide) (by rw [hml]; rfl) pd_3 rfl (argsL := [(.int 1), (.int 0)]) (rest := []) rfl rfl (Nat.le_of_eq rfl) (hb hby d3_68) ej5 (by decide) (by decide) (pc' := 71) rfl ?_
          intro T7 rv7 L7 X7 hQ7
          obtain ⟨rfl, Nq7, eh7⟩ := hQ7
          have NF7 := Fr.app NFj5 Nq7
          show G (T7.setTop (mkF m 71 _ [(.int 0)]))
          refine g_istore hG X7 hx (hb hby d3_71) (pc' := 73) rfl (Ls' := #[.val (.ref a), .val (.long lim), .second, .val (.ref ids), .val (.int 1), .val (.int 3), .val (.int 0), .val (.int 0)]) rfl ?_
          refine g_aloadN hG X7 hx (hb hby d3_73) (pc' := 74) rfl rfl rfl ?_
          refine g_iload hG X7 hx (hb hby d3_74) (pc' := 76) rfl rfl ?_
          refine g_aloadN hG X7 hx (hb hby d3_76) (pc' := 77) rfl rfl rfl ?_
          refine g_iload hG X7 hx (hb hby d3_77) (pc' := 79) rfl rfl ?_
          refine g_iconst hG X7 hx (hb hby d3_79) (pc' := 80) rfl (v := (1 : Int32)) rfl ?_
          refine g_iadd hG X7 hx (hb hby d3_80) (pc' := 81) rfl (v := (1 : Int32)) (by decide) ?_
          refine g_iload hG X7 hx (hb hby d3_81) (pc' := 83) rfl rfl ?_
          refine g_iload hG X7 hx (hb hby d3_83) (pc' := 85) rfl rfl ?_
          refine g_isub hG X7 hx (hb hby d3_85) (pc' := 86) rfl (v := (0 : Int32)) (by decide) ?_
          refine g_copy hG X7 hx hZ hown (wd hw 19 rfl) (wd hw 22 rfl) (wd hw 20 rfl) (wd hw 21 rfl) eh7 V_ids V_ids rfl (by decide) (by decide) (by decide) (by decide) (by decide) (vr := [(.int p0)]) rfl NF7 ge_ids (by rw [hml]; rfl) (hb hby d3_86) (by decide) 0 (Nat.le_of_eq rfl) (by decide) (pc' := 89) rfl ?_
          intro T8 h8 L8 X8 e8 NF8 Kq8 Vn8
          have V_ids := Vn8
          have V_a := V_a.keep Kq8 (ninS ne_a_ids nin0)
          have Zs := Nat.le_trans Zs Kq8.1
          have K8 := Kj5.trans Kq8 (allS (Or.inr sz_ids) all0)
          show G (T8.setTop (mkF m 89 _ []))
          refine g_aloadN hG X8 hx (hb hby d3_89) (pc' := 90) rfl rfl rfl ?_
          refine g_iload hG X8 hx (hb hby d3_90) (pc' := 92) rfl rfl ?_
          refine g_iload hG X8 hx (hb hby d3_92) (pc' := 94) rfl rfl ?_
          refine g_iastore hG X8 hx hZ e8 V_ids (j := (0 : Int32)) (by decide) (show Int32.toNatClampNeg (0 : Int32) < 1 by decide) (hb hby d3_94) (pc' := 95) rfl ?_
          intro T9 h9 X9 e9 W9 Vn9
          have V_ids : AV Z h9 ids .int (1 : Int32) [(.int 3)] := Vn9
          have V_a := V_a.other W9 ne_a_ids
          have Zs := Nat.le_trans Zs (Wr.size W9)
          have NF9 := Fr.snoc X9 NF8 ge_ids
          have K9 := K8.wr W9 (Or.inr sz_ids)
          refine g_iload hG X9 hx (hb hby d3_95) (pc' := 97) rfl rfl ?_
          refine g_iconst hG X9 hx (hb hby d3_97) (pc' := 98) rfl (v := (1 : Int32)) rfl ?_
          refine g_iadd hG X9 hx (hb hby d3_98) (pc' := 99) rfl (v := (2 : Int32)) (by decide) ?_
          refine g_aloadN hG X9 hx (hb hby d3_99) (pc' := 100) rfl rfl rfl ?_
          refine g_arraylength hG X9 hx hZ e9 V_ids (hb hby d3_100) (pc' := 101) rfl ?_
          refine g_callS hG X9 hx hZ (y := (⟨"java/lang/Math", "min", "(II)I"⟩ : MethodName)) 0 hown (wd hw 16 rfl) (wd hw 17 rfl) (wd hw 8 rfl) (wd hw 18 rfl) (by decide) (rmMI l Z a0 hw [] (2 : Int32) (1 : Int32) (1 : Int32) h9 n0 Zs (by decide)) (by decide) (by decide) (by rw [hml]; rfl) pd_3 rfl (argsL := [(.int 2), (.int 1)]) (rest := []) rfl rfl (Nat.le_of_eq rfl) (hb hby d3_101) e9 (by decide) (by decide) (pc' := 104) rfl ?_
          intro T10 rv10 L10 X10 hQ10
          obtain ⟨rfl, Nq10, eh10⟩ := hQ10
          have NF10 := Fr.app NF9 Nq10
          show G (T10.setTop (mkF m 104 _ [(.int 1)]))
          refine g_istore hG X10 hx (hb hby d3_104) (pc' := 106) rfl (Ls' := #[.val (.ref a), .val (.long lim), .second, .val (.ref ids), .val (.int 1), .val (.int 3), .val (.int 0), .val (.int 0)]) rfl ?_
          refine g_iinc hG X10 hx (hb hby d3_106) (pc' := 109) rfl rfl (v := (4 : Int32)) (by decide) (Ls' := #[.val (.ref a), .val (.long lim), .second, .val (.ref ids), .val (.int 1), .val (.int 4), .val (.int 0), .val (.int 0)]) rfl ?_
          refine g_goto hG X10 hx (hb hby d3_109) (pc' := 17) (by decide) (by decide) ?_
          exact J4 _ _ _ (3 : Int32) (0 : Int32) (0 : Int32) X10 eh10 NF10 Zs K9 V_a V_ids (st_3_1_1_0 b01 b02 b03 b12 b13 b23 p0 TR HT3 g3_0)
        · skip
          refine g_ifYes hG Xj5 hx (hb hby d3_46) (pc' := 55) (by rcases gt_no (BT (3 : Int32) p0 (by decide) (in4_of bp0.1 (by omega))) g3_0 with z | z <;> rw [← q45, z] <;> rfl) (by decide) (by decide) ?_
          refine g_iload hG Xj5 hx (hb hby d3_55) (pc' := 57) rfl rfl ?_
          refine g_aloadN hG Xj5 hx (hb hby d3_57) (pc' := 58) rfl rfl rfl ?_
          refine g_arraylength hG Xj5 hx hZ ej5 V_ids (hb hby d3_58) (pc' := 59) rfl ?_
          refine g_icmpYes hG Xj5 hx (hb hby d3_59) (pc' := 106) (by decide) (by decide) (by decide) ?_
          refine g_iinc hG Xj5 hx (hb hby d3_106) (pc' := 109) rfl rfl (v := (4 : Int32)) (by decide) (Ls' := #[.val (.ref a), .val (.long lim), .second, .val (.ref ids), .val (.int 1), .val (.int 4), .val (.int 1), .val (.int w7)]) rfl ?_
          refine g_goto hG Xj5 hx (hb hby d3_109) (pc' := 17) (by decide) (by decide) ?_
          exact J4 _ _ _ p0 (1 : Int32) w7 Xj5 ej5 NFj5 Zs Kj5 V_a V_ids (st_3_1_1_1 b01 b02 b03 b12 b13 b23 p0 TR HT3 g3_0)
      refine g_iload hG Xj4 hx (hb hby d3_17) (pc' := 19) rfl rfl ?_
      refine g_aloadN hG Xj4 hx (hb hby d3_19) (pc' := 20) rfl rfl rfl ?_
      refine g_arraylength hG Xj4 hx hZ ej4 V_a (hb hby d3_20) (pc' := 21) rfl ?_
      refine g_icmpNo hG Xj4 hx (hb hby d3_21) (pc' := 24) (by decide) rfl ?_
      refine g_iload hG Xj4 hx (hb hby d3_24) (pc' := 26) rfl rfl ?_
      refine g_istore hG Xj4 hx (hb hby d3_26) (pc' := 28) rfl (Ls' := #[.val (.ref a), .val (.long lim), .second, .val (.ref ids), .val (.int 1), .val (.int 2), .val (.int 1), .val (.int w7)]) rfl ?_
      refine g_iload hG Xj4 hx (hb hby d3_28) (pc' := 30) rfl rfl ?_
      refine g_ifNo hG Xj4 hx (hb hby d3_30) (pc' := 33) (by decide) rfl ?_
      refine g_aloadN hG Xj4 hx (hb hby d3_33) (pc' := 34) rfl rfl rfl ?_
      refine g_iload hG Xj4 hx (hb hby d3_34) (pc' := 36) rfl rfl ?_
      refine g_daload hG Xj4 hx hZ ej4 V_a (j := (2 : Int32)) (v := (.double (al (2 : Int32)))) (by decide) rfl (hb hby d3_36) (pc' := 37) rfl ?_
      refine g_aloadN hG Xj4 hx (hb hby d3_37) (pc' := 38) rfl rfl rfl ?_
      refine g_aloadN hG Xj4 hx (hb hby d3_38) (pc' := 39) rfl rfl rfl ?_
      refine g_iload hG Xj4 hx (hb hby d3_39) (pc' := 41) rfl rfl ?_
      refine g_iconst hG Xj4 hx (hb hby d3_41) (pc' := 42) rfl (v := (1 : Int32)) rfl ?_
      refine g_isub hG Xj4 hx (hb hby d3_42) (pc' := 43) rfl (v := (0 : Int32)) (by decide) ?_
      refine g_iaload hG Xj4 hx hZ ej4 V_ids (j := (0 : Int32)) (v := (.int p0)) (by decide) rfl (hb hby d3_43) (pc' := 44) rfl ?_
      refine g_daload hG Xj4 hx hZ ej4 V_a (j := p0) (v := (.double (al p0))) (nn_of bp0.1) (al_at4 (in4_of bp0.1 (by omega))) (hb hby d3_44) (pc' := 45) rfl ?_
      obtain ⟨v45, q45⟩ : ∃ zz : Int32, cmpValue (FP.dcmp (al (2 : Int32)) (al p0)) .l = zz := ⟨_, rfl⟩
      refine g_dcmp hG Xj4 hx (hb hby d3_45) (pc' := 46) rfl q45 ?_
      by_cases g2_0 : (btB b01 b02 b03 b12 b13 b23) (2 : Int32) p0 = true
      · skip
        refine g_ifNo hG Xj4 hx (hb hby d3_46) (pc' := 49) (by rw [← q45, gt_yes (BT (2 : Int32) p0 (by decide) (in4_of bp0.1 (by omega))) (fun g => by have := Int32.lt_iff_toInt_lt.mp g; rw [show (2 : Int32).toInt = 2 by decide] at this; omega) g2_0]; rfl) rfl ?_
        refine g_iinc hG Xj4 hx (hb hby d3_49) (pc' := 52) rfl rfl (v := (0 : Int32)) (by decide) (Ls' := #[.val (.ref a), .val (.long lim), .second, .val (.ref ids), .val (.int 1), .val (.int 2), .val (.int 0), .val (.int w7)]) rfl ?_
        refine g_goto hG Xj4 hx (hb hby d3_52) (pc' := 28) (by decide) (by decide) ?_
        refine g_iload hG Xj4 hx (hb hby d3_28) (pc' := 30) rfl rfl ?_
        refine g_ifYes hG Xj4 hx (hb hby d3_30) (pc' := 55) (by decide) (by decide) (by decide) ?_
        refine g_iload hG Xj4 hx (hb hby d3_55) (pc' := 57) rfl rfl ?_
        refine g_aloadN hG Xj4 hx (hb hby d3_57) (pc' := 58) rfl rfl rfl ?_
        refine g_arraylength hG Xj4 hx hZ ej4 V_ids (hb hby d3_58) (pc' := 59) rfl ?_
        refine g_icmpNo hG Xj4 hx (hb hby d3_59) (pc' := 62) (by decide) rfl ?_
        refine g_iload hG Xj4 hx (hb hby d3_62) (pc' := 64) rfl rfl ?_
        refine g_aloadN hG Xj4 hx (hb hby d3_64) (pc' := 65) rfl rfl rfl ?_
        refine g_arraylength hG Xj4 hx hZ ej4 V_ids (hb hby d3_65) (pc' := 66) rfl ?_
        refine g_iconst hG Xj4 hx (hb hby d3_66) (pc' := 67) rfl (v := (1 : Int32)) rfl ?_
        refine g_isub hG Xj4 hx (hb hby d3_67) (pc' := 68) rfl (v := (0 : Int32)) (by decide) ?_
        refine g_callS hG Xj4 hx hZ (y := (⟨"java/lang/Math", "min", "(II)I"⟩ : MethodName)) 0 hown (wd hw 16 rfl) (wd hw 17 rfl) (wd hw 8 rfl) (wd hw 18 rfl) (by decide) (rmMI l Z a0 hw [] (1 : Int32) (0 : Int32) (0 : Int32) hj4 n0 Zs (by decide)) (by decide) (by decide) (by rw [hml]; rfl) pd_3 rfl (argsL := [(.int 1), (.int 0)]) (rest := []) rfl rfl (Nat.le_of_eq rfl) (hb hby d3_68) ej4 (by decide) (by decide) (pc' := 71) rfl ?_
        intro T11 rv11 L11 X11 hQ11
        obtain ⟨rfl, Nq11, eh11⟩ := hQ11
        have NF11 := Fr.app NFj4 Nq11
        show G (T11.setTop (mkF m 71 _ [(.int 0)]))
        refine g_istore hG X11 hx (hb hby d3_71) (pc' := 73) rfl (Ls' := #[.val (.ref a), .val (.long lim), .second, .val (.ref ids), .val (.int 1), .val (.int 2), .val (.int 0), .val (.int 0)]) rfl ?_
        refine g_aloadN hG X11 hx (hb hby d3_73) (pc' := 74) rfl rfl rfl ?_
        refine g_iload hG X11 hx (hb hby d3_74) (pc' := 76) rfl rfl ?_
        refine g_aloadN hG X11 hx (hb hby d3_76) (pc' := 77) rfl rfl rfl ?_
        refine g_iload hG X11 hx (hb hby d3_77) (pc' := 79) rfl rfl ?_
        refine g_iconst hG X11 hx (hb hby d3_79) (pc' := 80) rfl (v := (1 : Int32)) rfl ?_
        refine g_iadd hG X11 hx (hb hby d3_80) (pc' := 81) rfl (v := (1 : Int32)) (by decide) ?_
        refine g_iload hG X11 hx (hb hby d3_81) (pc' := 83) rfl rfl ?_
        refine g_iload hG X11 hx (hb hby d3_83) (pc' := 85) rfl rfl ?_
        refine g_isub hG X11 hx (hb hby d3_85) (pc' := 86) rfl (v := (0 : Int32)) (by decide) ?_
        refine g_copy hG X11 hx hZ hown (wd hw 19 rfl) (wd hw 22 rfl) (wd hw 20 rfl) (wd hw 21 rfl) eh11 V_ids V_ids rfl (by decide) (by decide) (by decide) (by decide) (by decide) (vr := [(.int p0)]) rfl NF11 ge_ids (by rw [hml]; rfl) (hb hby d3_86) (by decide) 0 (Nat.le_of_eq rfl) (by decide) (pc' := 89) rfl ?_
        intro T12 h12 L12 X12 e12 NF12 Kq12 Vn12
        have V_ids := Vn12
        have V_a := V_a.keep Kq12 (ninS ne_a_ids nin0)
        have Zs := Nat.le_trans Zs Kq12.1
        have K12 := Kj4.trans Kq12 (allS (Or.inr sz_ids) all0)
        show G (T12.setTop (mkF m 89 _ []))
        refine g_aloadN hG X12 hx (hb hby d3_89) (pc' := 90) rfl rfl rfl ?_
        refine g_iload hG X12 hx (hb hby d3_90) (pc' := 92) rfl rfl ?_
        refine g_iload hG X12 hx (hb hby d3_92) (pc' := 94) rfl rfl ?_
        refine g_iastore hG X12 hx hZ e12 V_ids (j := (0 : Int32)) (by decide) (show Int32.toNatClampNeg (0 : Int32) < 1 by decide) (hb hby d3_94) (pc' := 95) rfl ?_
        intro T13 h13 X13 e13 W13 Vn13
        have V_ids : AV Z h13 ids .int (1 : Int32) [(.int 2)] := Vn13
        have V_a := V_a.other W13 ne_a_ids
        have Zs := Nat.le_trans Zs (Wr.size W13)
        have NF13 := Fr.snoc X13 NF12 ge_ids
        have K13 := K12.wr W13 (Or.inr sz_ids)
        refine g_iload hG X13 hx (hb hby d3_95) (pc' := 97) rfl rfl ?_
        refine g_iconst hG X13 hx (hb hby d3_97) (pc' := 98) rfl (v := (1 : Int32)) rfl ?_
        refine g_iadd hG X13 hx (hb hby d3_98) (pc' := 99) rfl (v := (2 : Int32)) (by decide) ?_
        refine g_aloadN hG X13 hx (hb hby d3_99) (pc' := 100) rfl rfl rfl ?_
        refine g_arraylength hG X13 hx hZ e13 V_ids (hb hby d3_100) (pc' := 101) rfl ?_
        refine g_callS hG X13 hx hZ (y := (⟨"java/lang/Math", "min", "(II)I"⟩ : MethodName)) 0 hown (wd hw 16 rfl) (wd hw 17 rfl) (wd hw 8 rfl) (wd hw 18 rfl) (by decide) (rmMI l Z a0 hw [] (2 : Int32) (1 : Int32) (1 : Int32) h13 n0 Zs (by decide)) (by decide) (by decide) (by rw [hml]; rfl) pd_3 rfl (argsL := [(.int 2), (.int 1)]) (rest := []) rfl rfl (Nat.le_of_eq rfl) (hb hby d3_101) e13 (by decide) (by decide) (pc' := 104) rfl ?_
        intro T14 rv14 L14 X14 hQ14
        obtain ⟨rfl, Nq14, eh14⟩ := hQ14
        have NF14 := Fr.app NF13 Nq14
        show G (T14.setTop (mkF m 104 _ [(.int 1)]))
        refine g_istore hG X14 hx (hb hby d3_104) (pc' := 106) rfl (Ls' := #[.val (.ref a), .val (.long lim), .second, .val (.ref ids), .val (.int 1), .val (.int 2), .val (.int 0), .val (.int 0)]) rfl ?_
        refine g_iinc hG X14 hx (hb hby d3_106) (pc' := 109) rfl rfl (v := (3 : Int32)) (by decide) (Ls' := #[.val (.ref a), .val (.long lim), .second, .val (.ref ids), .val (.int 1), .val (.int 3), .val (.int 0), .val (.int 0)]) rfl ?_
        refine g_goto hG X14 hx (hb hby d3_109) (pc' := 17) (by decide) (by decide) ?_
        exact J3 _ _ _ (2 : Int32) (0 : Int32) (0 : Int32) X14 eh14 NF14 Zs K13 V_a V_ids (st_2_1_1_0 b01 b02 b03 b12 b13 b23 p0 TR HT2 g2_0)
      · skip
        refine g_ifYes hG Xj4 hx (hb hby d3_46) (pc' := 55) (by rcases gt_no (BT (2 : Int32) p0 (by decide) (in4_of bp0.1 (by omega))) g2_0 with z | z <;> rw [← q45, z] <;> rfl) (by decide) (by decide) ?_
        refine g_iload hG Xj4 hx (hb hby d3_55) (pc' := 57) rfl rfl ?_
        refine g_aloadN hG Xj4 hx (hb hby d3_57) (pc' := 58) rfl rfl rfl ?_
        refine g_arraylength hG Xj4 hx hZ ej4 V_ids (hb hby d3_58) (pc' := 59) rfl ?_
        refine g_icmpYes hG Xj4 hx (hb hby d3_59) (pc' := 106) (by decide) (by decide) (by decide) ?_
        refine g_iinc hG Xj4 hx (hb hby d3_106) (pc' := 109) rfl rfl (v := (3 : Int32)) (by decide) (Ls' := #[.val (.ref a), .val (.long lim), .second, .val (.ref ids), .val (.int 1), .val (.int 3), .val (.int 1), .val (.int w7)]) rfl ?_
        refine g_goto hG Xj4 hx (hb hby d3_109) (pc' := 17) (by decide) (by decide) ?_
        exact J3 _ _ _ p0 (1 : Int32) w7 Xj4 ej4 NFj4 Zs Kj4 V_a V_ids (st_2_1_1_1 b01 b02 b03 b12 b13 b23 p0 TR HT2 g2_0)
    refine g_iload hG Xj3 hx (hb hby d3_17) (pc' := 19) rfl rfl ?_
    refine g_aloadN hG Xj3 hx (hb hby d3_19) (pc' := 20) rfl rfl rfl ?_
    refine g_arraylength hG Xj3 hx hZ ej3 V_a (hb hby d3_20) (pc' := 21) rfl ?_
    refine g_icmpNo hG Xj3 hx (hb hby d3_21) (pc' := 24) (by decide) rfl ?_
    refine g_iload hG Xj3 hx (hb hby d3_24) (pc' := 26) rfl rfl ?_
    refine g_istore hG Xj3 hx (hb hby d3_26) (pc' := 28) rfl (Ls' := #[.val (.ref a), .val (.long lim), .second, .val (.ref ids), .val (.int 1), .val (.int 1), .val (.int 1), .val (.int w7)]) rfl ?_
    refine g_iload hG Xj3 hx (hb hby d3_28) (pc' := 30) rfl rfl ?_
    refine g_ifNo hG Xj3 hx (hb hby d3_30) (pc' := 33) (by decide) rfl ?_
    refine g_aloadN hG Xj3 hx (hb hby d3_33) (pc' := 34) rfl rfl rfl ?_
    refine g_iload hG Xj3 hx (hb hby d3_34) (pc' := 36) rfl rfl ?_
    refine g_daload hG Xj3 hx hZ ej3 V_a (j := (1 : Int32)) (v := (.double (al (1 : Int32)))) (by decide) rfl (hb hby d3_36) (pc' := 37) rfl ?_
    refine g_aloadN hG Xj3 hx (hb hby d3_37) (pc' := 38) rfl rfl rfl ?_
    refine g_aloadN hG Xj3 hx (hb hby d3_38) (pc' := 39) rfl rfl rfl ?_
    refine g_iload hG Xj3 hx (hb hby d3_39) (pc' := 41) rfl rfl ?_
    refine g_iconst hG Xj3 hx (hb hby d3_41) (pc' := 42) rfl (v := (1 : Int32)) rfl ?_
    refine g_isub hG Xj3 hx (hb hby d3_42) (pc' := 43) rfl (v := (0 : Int32)) (by decide) ?_
    refine g_iaload hG Xj3 hx hZ ej3 V_ids (j := (0 : Int32)) (v := (.int p0)) (by decide) rfl (hb hby d3_43) (pc' := 44) rfl ?_
    refine g_daload hG Xj3 hx hZ ej3 V_a (j := p0) (v := (.double (al p0))) (nn_of bp0.1) (al_at4 (in4_of bp0.1 (by omega))) (hb hby d3_44) (pc' := 45) rfl ?_
    obtain ⟨v45, q45⟩ : ∃ zz : Int32, cmpValue (FP.dcmp (al (1 : Int32)) (al p0)) .l = zz := ⟨_, rfl⟩
    refine g_dcmp hG Xj3 hx (hb hby d3_45) (pc' := 46) rfl q45 ?_
    by_cases g1_0 : (btB b01 b02 b03 b12 b13 b23) (1 : Int32) p0 = true
    · skip
      refine g_ifNo hG Xj3 hx (hb hby d3_46) (pc' := 49) (by rw [← q45, gt_yes (BT (1 : Int32) p0 (by decide) (in4_of bp0.1 (by omega))) (fun g => by have := Int32.lt_iff_toInt_lt.mp g; rw [show (1 : Int32).toInt = 1 by decide] at this; omega) g1_0]; rfl) rfl ?_
      refine g_iinc hG Xj3 hx (hb hby d3_49) (pc' := 52) rfl rfl (v := (0 : Int32)) (by decide) (Ls' := #[.val (.ref a), .val (.long lim), .second, .val (.ref ids), .val (.int 1), .val (.int 1), .val (.int 0), .val (.int w7)]) rfl ?_
      refine g_goto hG Xj3 hx (hb hby d3_52) (pc' := 28) (by decide) (by decide) ?_
      refine g_iload hG Xj3 hx (hb hby d3_28) (pc' := 30) rfl rfl ?_
      refine g_ifYes hG Xj3 hx (hb hby d3_30) (pc' := 55) (by decide) (by decide) (by decide) ?_
      refine g_iload hG Xj3 hx (hb hby d3_55) (pc' := 57) rfl rfl ?_
      refine g_aloadN hG Xj3 hx (hb hby d3_57) (pc' := 58) rfl rfl rfl ?_
      refine g_arraylength hG Xj3 hx hZ ej3 V_ids (hb hby d3_58) (pc' := 59) rfl ?_
      refine g_icmpNo hG Xj3 hx (hb hby d3_59) (pc' := 62) (by decide) rfl ?_
      refine g_iload hG Xj3 hx (hb hby d3_62) (pc' := 64) rfl rfl ?_
      refine g_aloadN hG Xj3 hx (hb hby d3_64) (pc' := 65) rfl rfl rfl ?_
      refine g_arraylength hG Xj3 hx hZ ej3 V_ids (hb hby d3_65) (pc' := 66) rfl ?_
      refine g_iconst hG Xj3 hx (hb hby d3_66) (pc' := 67) rfl (v := (1 : Int32)) rfl ?_
      refine g_isub hG Xj3 hx (hb hby d3_67) (pc' := 68) rfl (v := (0 : Int32)) (by decide) ?_
      refine g_callS hG Xj3 hx hZ (y := (⟨"java/lang/Math", "min", "(II)I"⟩ : MethodName)) 0 hown (wd hw 16 rfl) (wd hw 17 rfl) (wd hw 8 rfl) (wd hw 18 rfl) (by decide) (rmMI l Z a0 hw [] (1 : Int32) (0 : Int32) (0 : Int32) hj3 n0 Zs (by decide)) (by decide) (by decide) (by rw [hml]; rfl) pd_3 rfl (argsL := [(.int 1), (.int 0)]) (rest := []) rfl rfl (Nat.le_of_eq rfl) (hb hby d3_68) ej3 (by decide) (by decide) (pc' := 71) rfl ?_
      intro T15 rv15 L15 X15 hQ15
      obtain ⟨rfl, Nq15, eh15⟩ := hQ15
      have NF15 := Fr.app NFj3 Nq15
      show G (T15.setTop (mkF m 71 _ [(.int 0)]))
      refine g_istore hG X15 hx (hb hby d3_71) (pc' := 73) rfl (Ls' := #[.val (.ref a), .val (.long lim), .second, .val (.ref ids), .val (.int 1), .val (.int 1), .val (.int 0), .val (.int 0)]) rfl ?_
      refine g_aloadN hG X15 hx (hb hby d3_73) (pc' := 74) rfl rfl rfl ?_
      refine g_iload hG X15 hx (hb hby d3_74) (pc' := 76) rfl rfl ?_
      refine g_aloadN hG X15 hx (hb hby d3_76) (pc' := 77) rfl rfl rfl ?_
      refine g_iload hG X15 hx (hb hby d3_77) (pc' := 79) rfl rfl ?_
      refine g_iconst hG X15 hx (hb hby d3_79) (pc' := 80) rfl (v := (1 : Int32)) rfl ?_
      refine g_iadd hG X15 hx (hb hby d3_80) (pc' := 81) rfl (v := (1 : Int32)) (by decide) ?_
      refine g_iload hG X15 hx (hb hby d3_81) (pc' := 83) rfl rfl ?_
      refine g_iload hG X15 hx (hb hby d3_83) (pc' := 85) rfl rfl ?_
      refine g_isub hG X15 hx (hb hby d3_85) (pc' := 86) rfl (v := (0 : Int32)) (by decide) ?_
      refine g_copy hG X15 hx hZ hown (wd hw 19 rfl) (wd hw 22 rfl) (wd hw 20 rfl) (wd hw 21 rfl) eh15 V_ids V_ids rfl (by decide) (by decide) (by decide) (by decide) (by decide) (vr := [(.int p0)]) rfl NF15 ge_ids (by rw [hml]; rfl) (hb hby d3_86) (by decide) 0 (Nat.le_of_eq rfl) (by decide) (pc' := 89) rfl ?_
      intro T16 h16 L16 X16 e16 NF16 Kq16 Vn16
      have V_ids := Vn16
      have V_a := V_a.keep Kq16 (ninS ne_a_ids nin0)
      have Zs := Nat.le_trans Zs Kq16.1
      have K16 := Kj3.trans Kq16 (allS (Or.inr sz_ids) all0)
      show G (T16.setTop (mkF m 89 _ []))
      refine g_aloadN hG X16 hx (hb hby d3_89) (pc' := 90) rfl rfl rfl ?_
      refine g_iload hG X16 hx (hb hby d3_90) (pc' := 92) rfl rfl ?_
      refine g_iload hG X16 hx (hb hby d3_92) (pc' := 94) rfl rfl ?_
      refine g_iastore hG X16 hx hZ e16 V_ids (j := (0 : Int32)) (by decide) (show Int32.toNatClampNeg (0 : Int32) < 1 by decide) (hb hby d3_94) (pc' := 95) rfl ?_
      intro T17 h17 X17 e17 W17 Vn17
      have V_ids : AV Z h17 ids .int (1 : Int32) [(.int 1)] := Vn17
      have V_a := V_a.other W17 ne_a_ids
      have Zs := Nat.le_trans Zs (Wr.size W17)
      have NF17 := Fr.snoc X17 NF16 ge_ids
      have K17 := K16.wr W17 (Or.inr sz_ids)
      refine g_iload hG X17 hx (hb hby d3_95) (pc' := 97) rfl rfl ?_
      refine g_iconst hG X17 hx (hb hby d3_97) (pc' := 98) rfl (v := (1 : Int32)) rfl ?_
      refine g_iadd hG X17 hx (hb hby d3_98) (pc' := 99) rfl (v := (2 : Int32)) (by decide) ?_
      refine g_aloadN hG X17 hx (hb hby d3_99) (pc' := 100) rfl rfl rfl ?_
      refine g_arraylength hG X17 hx hZ e17 V_ids (hb hby d3_100) (pc' := 101) rfl ?_
      refine g_callS hG X17 hx hZ (y := (⟨"java/lang/Math", "min", "(II)I"⟩ : MethodName)) 0 hown (wd hw 16 rfl) (wd hw 17 rfl) (wd hw 8 rfl) (wd hw 18 rfl) (by decide) (rmMI l Z a0 hw [] (2 : Int32) (1 : Int32) (1 : Int32) h17 n0 Zs (by decide)) (by decide) (by decide) (by rw [hml]; rfl) pd_3 rfl (argsL := [(.int 2), (.int 1)]) (rest := []) rfl rfl (Nat.le_of_eq rfl) (hb hby d3_101) e17 (by decide) (by decide) (pc' := 104) rfl ?_
      intro T18 rv18 L18 X18 hQ18
      obtain ⟨rfl, Nq18, eh18⟩ := hQ18
      have NF18 := Fr.app NF17 Nq18
      show G (T18.setTop (mkF m 104 _ [(.int 1)]))
      refine g_istore hG X18 hx (hb hby d3_104) (pc' := 106) rfl (Ls' := #[.val (.ref a), .val (.long lim), .second, .val (.ref ids), .val (.int 1), .val (.int 1), .val (.int 0), .val (.int 0)]) rfl ?_
      refine g_iinc hG X18 hx (hb hby d3_106) (pc' := 109) rfl rfl (v := (2 : Int32)) (by decide) (Ls' := #[.val (.ref a), .val (.long lim), .second, .val (.ref ids), .val (.int 1), .val (.int 2), .val (.int 0), .val (.int 0)]) rfl ?_
      refine g_goto hG X18 hx (hb hby d3_109) (pc' := 17) (by decide) (by decide) ?_
      exact J2 _ _ _ (1 : Int32) (0 : Int32) (0 : Int32) X18 eh18 NF18 Zs K17 V_a V_ids (st_1_1_1_0 b01 b02 b03 b12 b13 b23 p0 TR HT1 g1_0)
    · skip
      refine g_ifYes hG Xj3 hx (hb hby d3_46) (pc' := 55) (by rcases gt_no (BT (1 : Int32) p0 (by decide) (in4_of bp0.1 (by omega))) g1_0 with z | z <;> rw [← q45, z] <;> rfl) (by decide) (by decide) ?_
      refine g_iload hG Xj3 hx (hb hby d3_55) (pc' := 57) rfl rfl ?_
      refine g_aloadN hG Xj3 hx (hb hby d3_57) (pc' := 58) rfl rfl rfl ?_
      refine g_arraylength hG Xj3 hx hZ ej3 V_ids (hb hby d3_58) (pc' := 59) rfl ?_
      refine g_icmpYes hG Xj3 hx (hb hby d3_59) (pc' := 106) (by decide) (by decide) (by decide) ?_
      refine g_iinc hG Xj3 hx (hb hby d3_106) (pc' := 109) rfl rfl (v := (2 : Int32)) (by decide) (Ls' := #[.val (.ref a), .val (.long lim), .second, .val (.ref ids), .val (.int 1), .val (.int 2), .val (.int 1), .val (.int w7)]) rfl ?_
      refine g_goto hG Xj3 hx (hb hby d3_109) (pc' := 17) (by decide) (by decide) ?_
      exact J2 _ _ _ p0 (1 : Int32) w7 Xj3 ej3 NFj3 Zs Kj3 V_a V_ids (st_1_1_1_1 b01 b02 b03 b12 b13 b23 p0 TR HT1 g1_0)
  refine g_iload hG X2 hx (hb hby d3_17) (pc' := 19) rfl rfl ?_
  refine g_aloadN hG X2 hx (hb hby d3_19) (pc' := 20) rfl rfl rfl ?_
  refine g_arraylength hG X2 hx hZ e2 V_a (hb hby d3_20) (pc' := 21) rfl ?_
  refine g_icmpNo hG X2 hx (hb hby d3_21) (pc' := 24) (by decide) rfl ?_
  refine g_iload hG X2 hx (hb hby d3_24) (pc' := 26) rfl rfl ?_
  refine g_istore hG X2 hx (hb hby d3_26) (pc' := 28) rfl (Ls' := #[.val (.ref a), .val (.long lim), .second, .val (.ref ids), .val (.int 0), .val (.int 0), .val (.int 0), .unset]) rfl ?_
  refine g_iload hG X2 hx (hb hby d3_28) (pc' := 30) rfl rfl ?_
  refine g_ifYes hG X2 hx (hb hby d3_30) (pc' := 55) (by decide) (by decide) (by decide) ?_
  refine g_iload hG X2 hx (hb hby d3_55) (pc' := 57) rfl rfl ?_
  refine g_aloadN hG X2 hx (hb hby d3_57) (pc' := 58) rfl rfl rfl ?_
  refine g_arraylength hG X2 hx hZ e2 V_ids (hb hby d3_58) (pc' := 59) rfl ?_
  refine g_icmpNo hG X2 hx (hb hby d3_59) (pc' := 62) (by decide) rfl ?_
  refine g_iload hG X2 hx (hb hby d3_62) (pc' := 64) rfl rfl ?_
  refine g_aloadN hG X2 hx (hb hby d3_64) (pc' := 65) rfl rfl rfl ?_
  refine g_arraylength hG X2 hx hZ e2 V_ids (hb hby d3_65) (pc' := 66) rfl ?_
  refine g_iconst hG X2 hx (hb hby d3_66) (pc' := 67) rfl (v := (1 : Int32)) rfl ?_
  refine g_isub hG X2 hx (hb hby d3_67) (pc' := 68) rfl (v := (0 : Int32)) (by decide) ?_
  refine g_callS hG X2 hx hZ (y := (⟨"java/lang/Math", "min", "(II)I"⟩ : MethodName)) 0 hown (wd hw 16 rfl) (wd hw 17 rfl) (wd hw 8 rfl) (wd hw 18 rfl) (by decide) (rmMI l Z a0 hw [] (0 : Int32) (0 : Int32) (0 : Int32) h2 n0 Zs (by decide)) (by decide) (by decide) (by rw [hml]; rfl) pd_3 rfl (argsL := [(.int 0), (.int 0)]) (rest := []) rfl rfl (Nat.le_of_eq rfl) (hb hby d3_68) e2 (by decide) (by decide) (pc' := 71) rfl ?_
  intro T19 rv19 L19 X19 hQ19
  obtain ⟨rfl, Nq19, eh19⟩ := hQ19
  have NF19 := Fr.app NF1 Nq19
  show G (T19.setTop (mkF m 71 _ [(.int 0)]))
  refine g_istore hG X19 hx (hb hby d3_71) (pc' := 73) rfl (Ls' := #[.val (.ref a), .val (.long lim), .second, .val (.ref ids), .val (.int 0), .val (.int 0), .val (.int 0), .val (.int 0)]) rfl ?_
  refine g_aloadN hG X19 hx (hb hby d3_73) (pc' := 74) rfl rfl rfl ?_
  refine g_iload hG X19 hx (hb hby d3_74) (pc' := 76) rfl rfl ?_
  refine g_aloadN hG X19 hx (hb hby d3_76) (pc' := 77) rfl rfl rfl ?_
  refine g_iload hG X19 hx (hb hby d3_77) (pc' := 79) rfl rfl ?_
  refine g_iconst hG X19 hx (hb hby d3_79) (pc' := 80) rfl (v := (1 : Int32)) rfl ?_
  refine g_iadd hG X19 hx (hb hby d3_80) (pc' := 81) rfl (v := (1 : Int32)) (by decide) ?_
  refine g_iload hG X19 hx (hb hby d3_81) (pc' := 83) rfl rfl ?_
  refine g_iload hG X19 hx (hb hby d3_83) (pc' := 85) rfl rfl ?_
  refine g_isub hG X19 hx (hb hby d3_85) (pc' := 86) rfl (v := (0 : Int32)) (by decide) ?_
  refine g_copy hG X19 hx hZ hown (wd hw 19 rfl) (wd hw 22 rfl) (wd hw 20 rfl) (wd hw 21 rfl) eh19 V_ids V_ids rfl (by decide) (by decide) (by decide) (by decide) (by decide) (vr := [(.int 0)]) rfl NF19 ge_ids (by rw [hml]; rfl) (hb hby d3_86) (by decide) 0 (Nat.le_of_eq rfl) (by decide) (pc' := 89) rfl ?_
  intro T20 h20 L20 X20 e20 NF20 Kq20 Vn20
  have V_ids := Vn20
  have V_a := V_a.keep Kq20 (ninS ne_a_ids nin0)
  have Zs := Nat.le_trans Zs Kq20.1
  have K20 := K2.trans Kq20 (allS (Or.inr sz_ids) all0)
  show G (T20.setTop (mkF m 89 _ []))
  refine g_aloadN hG X20 hx (hb hby d3_89) (pc' := 90) rfl rfl rfl ?_
  refine g_iload hG X20 hx (hb hby d3_90) (pc' := 92) rfl rfl ?_
  refine g_iload hG X20 hx (hb hby d3_92) (pc' := 94) rfl rfl ?_
  refine g_iastore hG X20 hx hZ e20 V_ids (j := (0 : Int32)) (by decide) (show Int32.toNatClampNeg (0 : Int32) < 1 by decide) (hb hby d3_94) (pc' := 95) rfl ?_
  intro T21 h21 X21 e21 W21 Vn21
  have V_ids : AV Z h21 ids .int (1 : Int32) [(.int 0)] := Vn21
  have V_a := V_a.other W21 ne_a_ids
  have Zs := Nat.le_trans Zs (Wr.size W21)
  have NF21 := Fr.snoc X21 NF20 ge_ids
  have K21 := K20.wr W21 (Or.inr sz_ids)
  refine g_iload hG X21 hx (hb hby d3_95) (pc' := 97) rfl rfl ?_
  refine g_iconst hG X21 hx (hb hby d3_97) (pc' := 98) rfl (v := (1 : Int32)) rfl ?_
  refine g_iadd hG X21 hx (hb hby d3_98) (pc' := 99) rfl (v := (1 : Int32)) (by decide) ?_
  refine g_aloadN hG X21 hx (hb hby d3_99) (pc' := 100) rfl rfl rfl ?_
  refine g_arraylength hG X21 hx hZ e21 V_ids (hb hby d3_100) (pc' := 101) rfl ?_
  refine g_callS hG X21 hx hZ (y := (⟨"java/lang/Math", "min", "(II)I"⟩ : MethodName)) 0 hown (wd hw 16 rfl) (wd hw 17 rfl) (wd hw 8 rfl) (wd hw 18 rfl) (by decide) (rmMI l Z a0 hw [] (1 : Int32) (1 : Int32) (1 : Int32) h21 n0 Zs (by decide)) (by decide) (by decide) (by rw [hml]; rfl) pd_3 rfl (argsL := [(.int 1), (.int 1)]) (rest := []) rfl rfl (Nat.le_of_eq rfl) (hb hby d3_101) e21 (by decide) (by decide) (pc' := 104) rfl ?_
  intro T22 rv22 L22 X22 hQ22
  obtain ⟨rfl, Nq22, eh22⟩ := hQ22
  have NF22 := Fr.app NF21 Nq22
  show G (T22.setTop (mkF m 104 _ [(.int 1)]))
  refine g_istore hG X22 hx (hb hby d3_104) (pc' := 106) rfl (Ls' := #[.val (.ref a), .val (.long lim), .second, .val (.ref ids), .val (.int 1), .val (.int 0), .val (.int 0), .val (.int 0)]) rfl ?_
  refine g_iinc hG X22 hx (hb hby d3_106) (pc' := 109) rfl rfl (v := (1 : Int32)) (by decide) (Ls' := #[.val (.ref a), .val (.long lim), .second, .val (.ref ids), .val (.int 1), .val (.int 1), .val (.int 0), .val (.int 0)]) rfl ?_
  refine g_goto hG X22 hx (hb hby d3_109) (pc' := 17) (by decide) (by decide) ?_
  exact J1 _ _ _ (0 : Int32) (0 : Int32) (0 : Int32) X22 eh22 NF22 Zs K21 V_a V_ids (st_0_0_1_0 b01 b02 b03 b12 b13 b23  TR HT0 )

def Q_rmCk4_2_0 (Z : State) (a ids : Addr) (al : Int32 → UInt64) (bt : Int32 → Int32 → Bool) (p0 p1 : Int32) (h0 : Heap) (n0 : Nat) (v : Option Value) (h : Heap) (L : List Loc) : Prop := v = some (.int 1) ∧ Fr n0 L ∧ h = h0
set_option maxRecDepth 65536 in
set_option maxHeartbeats 40000000 in
theorem rmCk4_2_0 (l : Launch) (Z : State) (a0 : Array Value) (hw : ∀ d ∈ tables_1, d.before a0 Z = true) (ws : List Jvm.Cond) (a ids : Addr) (al : Int32 → UInt64) (bt : Int32 → Int32 → Bool) (p0 p1 : Int32) (h0 : Heap) (n0 : Nat) (Zs : n0 ≤ h0.size) (V_a : AV Z h0 a .double (4 : Int32) [(.double (al (0 : Int32))), (.double (al (1 : Int32))), (.double (al (2 : Int32))), (.double (al (3 : Int32)))]) (V_ids : AV Z h0 ids .int (2 : Int32) [(.int p0), (.int p1)]) (HT : tops bt 4 0 [p0, p1] = true) (BT : ∀ x y, In4 x → In4 y → BtR al x y (bi bt x y)) :
    Con l (⟨"com/example/gauge_terms/gaugeterms/TopValuesPositionsPinLaw", "check", "([D[II)Z"⟩ : MethodName) method_5_code 4 (some .boolean) ws ({ frames := 2, cells := 0, slots := 0, locals := 56 } : Room) Z #[(.ref a), (.ref ids), (.int 0)] h0 ({ frames := 2, cells := 0, slots := 0, locals := 56 } : Room).cells ({ frames := 2, cells := 0, slots := 0, locals := 56 } : Room).slots (Q_rmCk4_2_0 Z a ids al bt p0 p1 h0 n0) := by
  refine Con.of (Ls := #[.val (.ref a), .val (.ref ids), .val (.int 0), .unset]) (plainFor_of_name (by first | (simp [plainName, overriddenIn]; done) | decide +kernel)) (fun m => by first | (simp [entryFrame, mkF, argsToLocals, Value.category]; done) | rfl) ?_
  intro p e s m below meth c s₁ G hGe hG hx hby hml hown hnm hrt hlk hZ X0 e0
  have hown : s.vm.findClass "com/example/gauge_terms/gaugeterms/TopValuesPositionsPinLaw" = some m.cls := hown
  have hnm : meth.name = "check" := hnm
  have NF0 := Fr.nil n0
  have bj : 0 ≤ p0.toInt ∧ p0.toInt < 4 := tops_b HT p0 (by simp)
  have rj : rk4 bt p0 = (0 : Int32) := tops_r HT 0 p0 rfl
  refine g_iloadN hG X0 hx (hb hby d5_0) (pc' := 1) rfl rfl ?_
  refine g_aloadN hG X0 hx (hb hby d5_1) (pc' := 2) rfl rfl rfl ?_
  refine g_arraylength hG X0 hx hZ e0 V_ids (hb hby d5_2) (pc' := 3) rfl ?_
  refine g_icmpYes hG X0 hx (hb hby d5_3) (pc' := 8) (by decide) (by decide) (by decide) ?_
  refine g_aloadN hG X0 hx (hb hby d5_8) (pc' := 9) rfl rfl rfl ?_
  refine g_iloadN hG X0 hx (hb hby d5_9) (pc' := 10) rfl rfl ?_
  refine g_iaload hG X0 hx hZ e0 V_ids (j := (0 : Int32)) (v := (.int p0)) (by decide) rfl (hb hby d5_10) (pc' := 11) rfl ?_
  refine g_istoreN hG X0 hx (hb hby d5_11) (pc' := 12) rfl (Ls' := #[.val (.ref a), .val (.ref ids), .val (.int 0), .val (.int p0)]) rfl ?_
  refine g_iloadN hG X0 hx (hb hby d5_12) (pc' := 13) rfl rfl ?_
  refine g_ifNo hG X0 hx (hb hby d5_13) (pc' := 16) ((if0 _ _).trans (flt (nn_of bj.1)).1) rfl ?_
  refine g_iloadN hG X0 hx (hb hby d5_16) (pc' := 17) rfl rfl ?_
  refine g_aloadN hG X0 hx (hb hby d5_17) (pc' := 18) rfl rfl rfl ?_
  refine g_arraylength hG X0 hx hZ e0 V_a (hb hby d5_18) (pc' := 19) rfl ?_
  refine g_icmpYes hG X0 hx (hb hby d5_19) (pc' := 24) ((tlt (Int32.lt_iff_toInt_lt.mpr (by rw [show (4 : Int32).toInt = 4 by decide]; exact bj.2))).1) (by decide) (by decide) ?_
  refine g_aloadN hG X0 hx (hb hby d5_24) (pc' := 25) rfl rfl rfl ?_
  refine g_iloadN hG X0 hx (hb hby d5_25) (pc' := 26) rfl rfl ?_
  refine g_callS hG X0 hx hZ (y := (⟨"com/example/gauge_terms/gaugeterms/TopValuesPositionsPinLaw", "rank", "([DI)I"⟩ : MethodName)) 0 hown (wd hw 26 rfl) (wd hw 27 rfl) (wd hw 3 rfl) (wd hw 28 rfl) (by decide) (rmRk4 l Z a0 hw [] a al bt p0 (0 : Int32) h0 n0 Zs V_a bj BT rj) (by decide) (by decide) (by rw [hml]; rfl) pd_2 rfl (argsL := [(.ref a), (.int p0)]) (rest := []) rfl rfl (Nat.le_of_eq rfl) (hb hby d5_26) e0 (by decide) (by decide) (pc' := 29) rfl ?_
  intro T1 rv1 L1 X1 hQ1
  obtain ⟨rfl, Nq1, eh1⟩ := hQ1
  have NF1 := Fr.app NF0 Nq1
  show G (T1.setTop (mkF m 29 _ [(.int 0)]))
  refine g_iloadN hG X1 hx (hb hby d5_29) (pc' := 30) rfl rfl ?_
  refine g_icmpNo hG X1 hx (hb hby d5_30) (pc' := 33) (by decide) rfl ?_
  refine g_iconst hG X1 hx (hb hby d5_33) (pc' := 34) rfl (v := (1 : Int32)) rfl ?_
  refine g_goto hG X1 hx (hb hby d5_34) (pc' := 38) (by decide) (by decide) ?_
  exact e_retZ hGe X1 hx hrt hlk (hb hby d5_38) (Or.inr rfl) eh1 (by decide) (by decide) (⟨rfl, NF1, rfl⟩)

def Q_rmCk4_2_1 (Z : State) (a ids : Addr) (al : Int32 → UInt64) (bt : Int32 → Int32 → Bool) (p0 p1 : Int32) (h0 : Heap) (n0 : Nat) (v : Option Value) (h : Heap) (L : List Loc) : Prop := v = some (.int 1) ∧ Fr n0 L ∧ h = h0
set_option maxRecDepth 65536 in
set_option maxHeartbeats 40000000 in
theorem rmCk4_2_1 (l : Launch) (Z : State) (a0 : Array Value) (hw : ∀ d ∈ tables_1, d.before a0 Z = true) (ws : List Jvm.Cond) (a ids : Addr) (al : Int32 → UInt64) (bt : Int32 → Int32 → Bool) (p0 p1 : Int32) (h0 : Heap) (n0 : Nat) (Zs : n0 ≤ h0.size) (V_a : AV Z h0 a .double (4 : Int32) [(.double (al (0 : Int32))), (.double (al (1 : Int32))), (.double (al (2 : Int32))), (.double (al (3 : Int32)))]) (V_ids : AV Z h0 ids .int (2 : Int32) [(.int p0), (.int p1)]) (HT : tops bt 4 0 [p0, p1] = true) (BT : ∀ x y, In4 x → In4 y → BtR al x y (bi bt x y)) :
    Con l (⟨"com/example/gauge_terms/gaugeterms/TopValuesPositionsPinLaw", "check", "([D[II)Z"⟩ : MethodName) method_5_code 4 (some .boolean) ws ({ frames := 2, cells := 0, slots := 0, locals := 56 } : Room) Z #[(.ref a), (.ref ids), (.int 1)] h0 ({ frames := 2, cells := 0, slots := 0, locals := 56 } : Room).cells ({ frames := 2, cells := 0, slots := 0, locals := 56 } : Room).slots (Q_rmCk4_2_1 Z a ids al bt p0 p1 h0 n0) := by
  refine Con.of (Ls := #[.val (.ref a), .val (.ref ids), .val (.int 1), .unset]) (plainFor_of_name (by first | (simp [plainName, overriddenIn]; done) | decide +kernel)) (fun m => by first | (simp [entryFrame, mkF, argsToLocals, Value.category]; done) | rfl) ?_
  intro p e s m below meth c s₁ G hGe hG hx hby hml hown hnm hrt hlk hZ X0 e0
  have hown : s.vm.findClass "com/example/gauge_terms/gaugeterms/TopValuesPositionsPinLaw" = some m.cls := hown
  have hnm : meth.name = "check" := hnm
  have NF0 := Fr.nil n0
  have bj : 0 ≤ p1.toInt ∧ p1.toInt < 4 := tops_b HT p1 (by simp)
  have rj : rk4 bt p1 = (1 : Int32) := tops_r HT 1 p1 rfl
  refine g_iloadN hG X0 hx (hb hby d5_0) (pc' := 1) rfl rfl ?_
  refine g_aloadN hG X0 hx (hb hby d5_1) (pc' := 2) rfl rfl rfl ?_
  refine g_arraylength hG X0 hx hZ e0 V_ids (hb hby d5_2) (pc' := 3) rfl ?_
  refine g_icmpYes hG X0 hx (hb hby d5_3) (pc' := 8) (by decide) (by decide) (by decide) ?_
  refine g_aloadN hG X0 hx (hb hby d5_8) (pc' := 9) rfl rfl rfl ?_
  refine g_iloadN hG X0 hx (hb hby d5_9) (pc' := 10) rfl rfl ?_
  refine g_iaload hG X0 hx hZ e0 V_ids (j := (1 : Int32)) (v := (.int p1)) (by decide) rfl (hb hby d5_10) (pc' := 11) rfl ?_
  refine g_istoreN hG X0 hx (hb hby d5_11) (pc' := 12) rfl (Ls' := #[.val (.ref a), .val (.ref ids), .val (.int 1), .val (.int p1)]) rfl ?_
  refine g_iloadN hG X0 hx (hb hby d5_12) (pc' := 13) rfl rfl ?_
  refine g_ifNo hG X0 hx (hb hby d5_13) (pc' := 16) ((if0 _ _).trans (flt (nn_of bj.1)).1) rfl ?_
  refine g_iloadN hG X0 hx (hb hby d5_16) (pc' := 17) rfl rfl ?_
  refine g_aloadN hG X0 hx (hb hby d5_17) (pc' := 18) rfl rfl rfl ?_
  refine g_arraylength hG X0 hx hZ e0 V_a (hb hby d5_18) (pc' := 19) rfl ?_
  refine g_icmpYes hG X0 hx (hb hby d5_19) (pc' := 24) ((tlt (Int32.lt_iff_toInt_lt.mpr (by rw [show (4 : Int32).toInt = 4 by decide]; exact bj.2))).1) (by decide) (by decide) ?_
  refine g_aloadN hG X0 hx (hb hby d5_24) (pc' := 25) rfl rfl rfl ?_
  refine g_iloadN hG X0 hx (hb hby d5_25) (pc' := 26) rfl rfl ?_
  refine g_callS hG X0 hx hZ (y := (⟨"com/example/gauge_terms/gaugeterms/TopValuesPositionsPinLaw", "rank", "([DI)I"⟩ : MethodName)) 0 hown (wd hw 26 rfl) (wd hw 27 rfl) (wd hw 3 rfl) (wd hw 28 rfl) (by decide) (rmRk4 l Z a0 hw [] a al bt p1 (1 : Int32) h0 n0 Zs V_a bj BT rj) (by decide) (by decide) (by rw [hml]; rfl) pd_2 rfl (argsL := [(.ref a), (.int p1)]) (rest := []) rfl rfl (Nat.le_of_eq rfl) (hb hby d5_26) e0 (by decide) (by decide) (pc' := 29) rfl ?_
  intro T1 rv1 L1 X1 hQ1
  obtain ⟨rfl, Nq1, eh1⟩ := hQ1
  have NF1 := Fr.app NF0 Nq1
  show G (T1.setTop (mkF m 29 _ [(.int 1)]))
  refine g_iloadN hG X1 hx (hb hby d5_29) (pc' := 30) rfl rfl ?_
  refine g_icmpNo hG X1 hx (hb hby d5_30) (pc' := 33) (by decide) rfl ?_
  refine g_iconst hG X1 hx (hb hby d5_33) (pc' := 34) rfl (v := (1 : Int32)) rfl ?_
  refine g_goto hG X1 hx (hb hby d5_34) (pc' := 38) (by decide) (by decide) ?_
  exact e_retZ hGe X1 hx hrt hlk (hb hby d5_38) (Or.inr rfl) eh1 (by decide) (by decide) (⟨rfl, NF1, rfl⟩)

def Q_rmPos4_2 (Z : State) (a : Addr) (al : Int32 → UInt64) (b01 b02 b03 b12 b13 b23 : Bool) (lim r : Int64) (h0 : Heap) (n0 : Nat) (v : Option Value) (h : Heap) (L : List Loc) : Prop := ∃ (b : Addr) (p0 p1 : Int32), v = some (.ref b) ∧ Fr n0 L ∧ Keep h0 h [] ∧ h0.size ≤ b ∧ (AV Z h b .int (2 : Int32) [(.int p0), (.int p1)]) ∧ tops (btB b01 b02 b03 b12 b13 b23) 4 0 [p0, p1] = true
set_option maxRecDepth 65536 in
set_option maxHeartbeats 40000000 in
theorem rmPos4_2 (l : Launch) (Z : State) (a0 : Array Value) (hw : ∀ d ∈ tables_1, d.before a0 Z = true) (ws : List Jvm.Cond) (a : Addr) (al : Int32 → UInt64) (b01 b02 b03 b12 b13 b23 : Bool) (lim r : Int64) (h0 : Heap) (n0 : Nat) (Zs : n0 ≤ h0.size) (V_a : AV Z h0 a .double (4 : Int32) [(.double (al (0 : Int32))), (.double (al (1 : Int32))), (.double (al (2 : Int32))), (.double (al (3 : Int32)))]) (TR : trB b01 b02 b03 b12 b13 b23 = true) (BT : ∀ x y, In4 x → In4 y → BtR al x y (bi (btB b01 b02 b03 b12 b13 b23) x y)) (hm : (¬ (4 : Int32).toInt64 < lim ∧ r = lim) ∨ ((4 : Int32).toInt64 < lim ∧ r = (4 : Int32).toInt64)) (hk : r.toInt32 = (2 : Int32)) :
    Con l (⟨"com/example/gauge_terms/gaugeterms/TopValues", "positions", "([DJ)[I"⟩ : MethodName) prog_3_method_2_code 8 (some (.array .int)) ws ({ frames := 1, cells := 1, slots := 2, locals := 40 } : Room) Z #[(.ref a), (.long lim)] h0 ({ frames := 1, cells := 1, slots := 2, locals := 40 } : Room).cells ({ frames := 1, cells := 1, slots := 2, locals := 40 } : Room).slots (Q_rmPos4_2 Z a al b01 b02 b03 b12 b13 b23 lim r h0 n0) := by
  refine Con.of (Ls := #[.val (.ref a), .val (.long lim), .second, .unset, .unset, .unset, .unset, .unset]) (plainFor_of_name (by first | (simp [plainName, overriddenIn]; done) | decide +kernel)) (fun m => by first | (simp [entryFrame, mkF, argsToLocals, Value.category]; done) | rfl) ?_
  intro p e s m below meth c s₁ G hGe hG hx hby hml hown hnm hrt hlk hZ X0 e0
  have hown : s.vm.findClass "com/example/gauge_terms/gaugeterms/TopValues" = some m.cls := hown
  have hnm : meth.name = "positions" := hnm
  have NF0 := Fr.nil n0
  have K0 := Keep.refl h0 ([] : List Addr)
  have HT0 : tops (btB b01 b02 b03 b12 b13 b23) 0 0 [] = true := rfl
  refine g_lloadN hG X0 hx (hb hby d3_0) (pc' := 1) rfl rfl ?_
  refine g_aloadN hG X0 hx (hb hby d3_1) (pc' := 2) rfl rfl rfl ?_
  refine g_arraylength hG X0 hx hZ e0 V_a (hb hby d3_2) (pc' := 3) rfl ?_
  obtain ⟨v3, q3⟩ : ∃ zz : Int64, (4 : Int32).toInt64 = zz := ⟨_, rfl⟩
  refine g_i2l hG X0 hx (hb hby d3_3) (pc' := 4) rfl q3 ?_
  refine g_callS hG X0 hx hZ (y := (⟨"java/lang/Math", "min", "(JJ)J"⟩ : MethodName)) 0 hown (wd hw 14 rfl) (wd hw 7 rfl) (wd hw 8 rfl) (wd hw 9 rfl) (by decide) (rmMJ l Z a0 hw [] lim v3 r h0 n0 Zs (q3 ▸ hm)) (by decide) (by decide) (by rw [hml]; rfl) pd_0 rfl (argsL := [(.long lim), (.long v3)]) (rest := []) rfl rfl (Nat.le_of_eq rfl) (hb hby d3_4) e0 (by decide) (by decide) (pc' := 7) rfl ?_
  intro T1 rv1 L1 X1 hQ1
  obtain ⟨rfl, Nq1, eh1⟩ := hQ1
  have NF1 := Fr.app NF0 Nq1
  show G (T1.setTop (mkF m 7 _ [(.long r)]))
  refine g_l2i hG X1 hx (hb hby d3_7) (pc' := 8) rfl hk ?_
  refine g_newP hG X1 hx hZ (wd hw 15 rfl) eh1 (hb hby d3_8) (by decide) 2 (by decide) (by decide) (by decide) (by decide) (pc' := 10) rfl ?_
  intro T2 h2 ids kA2 gs2 X2 e2 E2 A2
  have ne_a_ids : a ≠ ids := Nat.ne_of_lt (gs2 ▸ V_a.lt)
  have ge_ids : n0 ≤ ids := gs2 ▸ Zs
  have sz_ids : h0.size ≤ ids := gs2 ▸ K0.1
  have Zs := Nat.le_trans Zs E2.1
  have V_a := V_a.ext E2
  have K2 := K0.ext E2
  have V_ids : AV Z h2 ids .int (2 : Int32) [(.int 0), (.int 0)] := AV.new A2
  refine g_astoreN hG X2 hx (hb hby d3_10) (pc' := 11) rfl rfl (Ls' := #[.val (.ref a), .val (.long lim), .second, .val (.ref ids), .unset, .unset, .unset, .unset]) rfl ?_
  refine g_iconst hG X2 hx (hb hby d3_11) (pc' := 12) rfl (v := (0 : Int32)) rfl ?_
  refine g_istore hG X2 hx (hb hby d3_12) (pc' := 14) rfl (Ls' := #[.val (.ref a), .val (.long lim), .second, .val (.ref ids), .val (.int 0), .unset, .unset, .unset]) rfl ?_
  refine g_iconst hG X2 hx (hb hby d3_14) (pc' := 15) rfl (v := (0 : Int32)) rfl ?_
  refine g_istore hG X2 hx (hb hby d3_15) (pc' := 17) rfl (Ls' := #[.val (.ref a), .val (.long lim), .second, .val (.ref ids), .val (.int 0), .val (.int 0), .unset, .unset]) rfl ?_
  have J1 : ∀ (Tj3 : State) (hj3 : Heap) (Lj3 : List Loc) (p0 : Int32) (w6 w7 : Int32), Stand p l e ({ frames := 1, cells := 1, slots := 2, locals := 40 } : Room) s m #[(.ref a), (.long lim)] below meth c Tj3 Lj3 1 2 → Tj3.heap = hj3 → Fr n0 Lj3 → n0 ≤ hj3.size → Keep h0 hj3 [] → AV Z hj3 a .double (4 : Int32) [(.double (al (0 : Int32))), (.double (al (1 : Int32))), (.double (al (2 : Int32))), (.double (al (3 : Int32)))] → AV Z hj3 ids .int (2 : Int32) [(.int p0), (.int 0)] → tops (btB b01 b02 b03 b12 b13 b23) 1 0 [p0] = true → G (Tj3.setTop (mkF m 17 #[.val (.ref a), .val (.long lim), .second, .val (.ref ids), .val (.int 1), .val (.int 1), .val (.int w6), .val (.int w7)] [])) := by
    intro Tj3 hj3 Lj3 p0 w6 w7 Xj3 ej3 NFj3 Zs Kj3 V_a V_ids HT1
    have bp0 : 0 ≤ p0.toInt ∧ p0.toInt < 1 := tops_b HT1 p0 (by simp)
    have J2 : ∀ (Tj4 : State) (hj4 : Heap) (Lj4 : List Loc) (p0 p1 : Int32) (w6 w7 : Int32), Stand p l e ({ frames := 1, cells := 1, slots := 2, locals := 40 } : Room) s m #[(.ref a), (.long lim)] below meth c Tj4 Lj4 1 2 → Tj4.heap = hj4 → Fr n0 Lj4 → n0 ≤ hj4.size → Keep h0 hj4 [] → AV Z hj4 a .double (4 : Int32) [(.double (al (0 : Int32))), (.double (al (1 : Int32))), (.double (al (2 : Int32))), (.double (al (3 : Int32)))] → AV Z hj4 ids .int (2 : Int32) [(.int p0), (.int p1)] → tops (btB b01 b02 b03 b12 b13 b23) 2 0 [p0, p1] = true → G (Tj4.setTop (mkF m 17 #[.val (.ref a), .val (.long lim), .second, .val (.ref ids), .val (.int 2), .val (.int 2), .val (.int w6), .val (.int w7)] [])) := by
      intro Tj4 hj4 Lj4 p0 p1 w6 w7 Xj4 ej4 NFj4 Zs Kj4 V_a V_ids HT2
      have bp0 : 0 ≤ p0.toInt ∧ p0.toInt < 2 := tops_b HT2 p0 (by simp)
      have bp1 : 0 ≤ p1.toInt ∧ p1.toInt < 2 := tops_b HT2 p1 (by simp)
      have J3 : ∀ (Tj5 : State) (hj5 : Heap) (Lj5 : List Loc) (p0 p1 : Int32) (w6 w7 : Int32), Stand p l e ({ frames := 1, cells := 1, slots := 2, locals := 40 } : Room) s m #[(.ref a), (.long lim)] below meth c Tj5 Lj5 1 2 → Tj5.heap = hj5 → Fr n0 Lj5 → n0 ≤ hj5.size → Keep h0 hj5 [] → AV Z hj5 a .double (4 : Int32) [(.double (al (0 : Int32))), (.double (al (1 : Int32))), (.double (al (2 : Int32))), (.double (al (3 : Int32)))] → AV Z hj5 ids .int (2 : Int32) [(.int p0), (.int p1)] → tops (btB b01 b02 b03 b12 b13 b23) 3 0 [p0, p1] = true → G (Tj5.setTop (mkF m 17 #[.val (.ref a), .val (.long lim), .second, .val (.ref ids), .val (.int 2), .val (.int 3), .val (.int w6), .val (.int w7)] [])) := by
        intro Tj5 hj5 Lj5 p0 p1 w6 w7 Xj5 ej5 NFj5 Zs Kj5 V_a V_ids HT3
        have bp0 : 0 ≤ p0.toInt ∧ p0.toInt < 3 := tops_b HT3 p0 (by simp)
        have bp1 : 0 ≤ p1.toInt ∧ p1.toInt < 3 := tops_b HT3 p1 (by simp)
        have J4 : ∀ (Tj6 : State) (hj6 : Heap) (Lj6 : List Loc) (p0 p1 : Int32) (w6 w7 : Int32), Stand p l e ({ frames := 1, cells := 1, slots := 2, locals := 40 } : Room) s m #[(.ref a), (.long lim)] below meth c Tj6 Lj6 1 2 → Tj6.heap = hj6 → Fr n0 Lj6 → n0 ≤ hj6.size → Keep h0 hj6 [] → AV Z hj6 a .double (4 : Int32) [(.double (al (0 : Int32))), (.double (al (1 : Int32))), (.double (al (2 : Int32))), (.double (al (3 : Int32)))] → AV Z hj6 ids .int (2 : Int32) [(.int p0), (.int p1)] → tops (btB b01 b02 b03 b12 b13 b23) 4 0 [p0, p1] = true → G (Tj6.setTop (mkF m 17 #[.val (.ref a), .val (.long lim), .second, .val (.ref ids), .val (.int 2), .val (.int 4), .val (.int w6), .val (.int w7)] [])) := by
          intro Tj6 hj6 Lj6 p0 p1 w6 w7 Xj6 ej6 NFj6 Zs Kj6 V_a V_ids HT4
          have bp0 : 0 ≤ p0.toInt ∧ p0.toInt < 4 := tops_b HT4 p0 (by simp)
          have bp1 : 0 ≤ p1.toInt ∧ p1.toInt < 4 := tops_b HT4 p1 (by simp)
          refine g_iload hG Xj6 hx (hb hby d3_17) (pc' := 19) rfl rfl ?_
          refine g_aloadN hG Xj6 hx (hb hby d3_19) (pc' := 20) rfl rfl rfl ?_
          refine g_arraylength hG Xj6 hx hZ ej6 V_a (hb hby d3_20) (pc' := 21) rfl ?_
          refine g_icmpYes hG Xj6 hx (hb hby d3_21) (pc' := 112) (by decide) (by decide) (by decide) ?_
          refine g_aloadN hG Xj6 hx (hb hby d3_112) (pc' := 113) rfl rfl rfl ?_
          exact e_retA hGe Xj6 hx hrt rfl hlk (hb hby d3_113) ej6 (by decide) (by decide) (⟨ids, p0, p1,  rfl, NFj6, Kj6, sz_ids, V_ids, HT4⟩)
        refine g_iload hG Xj5 hx (hb hby d3_17) (pc' := 19) rfl rfl ?_
        refine g_aloadN hG Xj5 hx (hb hby d3_19) (pc' := 20) rfl rfl rfl ?_
        refine g_arraylength hG Xj5 hx hZ ej5 V_a (hb hby d3_20) (pc' := 21) rfl ?_
        refine g_icmpNo hG Xj5 hx (hb hby d3_21) (pc' := 24) (by decide) rfl ?_
        refine g_iload hG Xj5 hx (hb hby d3_24) (pc' := 26) rfl rfl ?_
        refine g_istore hG Xj5 hx (hb hby d3_26) (pc' := 28) rfl (Ls' := #[.val (.ref a), .val (.long lim), .second, .val (.ref ids), .val (.int 2), .val (.int 3), .val (.int 2), .val (.int w7)]) rfl ?_
        refine g_iload hG Xj5 hx (hb hby d3_28) (pc' := 30) rfl rfl ?_
        refine g_ifNo hG Xj5 hx (hb hby d3_30) (pc' := 33) (by decide) rfl ?_
        refine g_aloadN hG Xj5 hx (hb hby d3_33) (pc' := 34) rfl rfl rfl ?_
        refine g_iload hG Xj5 hx (hb hby d3_34) (pc' := 36) rfl rfl ?_
        refine g_daload hG Xj5 hx hZ ej5 V_a (j := (3 : Int32)) (v := (.double (al (3 : Int32)))) (by decide) rfl (hb hby d3_36) (pc' := 37) rfl ?_
        refine g_aloadN hG Xj5 hx (hb hby d3_37) (pc' := 38) rfl rfl rfl ?_
        refine g_aloadN hG Xj5 hx (hb hby d3_38) (pc' := 39) rfl rfl rfl ?_
        refine g_iload hG Xj5 hx (hb hby d3_39) (pc' := 41) rfl rfl ?_
        refine g_iconst hG Xj5 hx (hb hby d3_41) (pc' := 42) rfl (v := (1 : Int32)) rfl ?_
        refine g_isub hG Xj5 hx (hb hby d3_42) (pc' := 43) rfl (v := (1 : Int32)) (by decide) ?_
        refine g_iaload hG Xj5 hx hZ ej5 V_ids (j := (1 : Int32)) (v := (.int p1)) (by decide) rfl (hb hby d3_43) (pc' := 44) rfl ?_
        refine g_daload hG Xj5 hx hZ ej5 V_a (j := p1) (v := (.double (al p1))) (nn_of bp1.1) (al_at4 (in4_of bp1.1 (by omega))) (hb hby d3_44) (pc' := 45) rfl ?_
        obtain ⟨v45, q45⟩ : ∃ zz : Int32, cmpValue (FP.dcmp (al (3 : Int32)) (al p1)) .l = zz := ⟨_, rfl⟩
        refine g_dcmp hG Xj5 hx (hb hby d3_45) (pc' := 46) rfl q45 ?_
        by_cases g3_1 : (btB b01 b02 b03 b12 b13 b23) (3 : Int32) p1 = true
        · skip
          refine g_ifNo hG Xj5 hx (hb hby d3_46) (pc' := 49) (by rw [← q45, gt_yes (BT (3 : Int32) p1 (by decide) (in4_of bp1.1 (by omega))) (fun g => by have := Int32.lt_iff_toInt_lt.mp g; rw [show (3 : Int32).toInt = 3 by decide] at this; omega) g3_1]; rfl) rfl ?_
          refine g_iinc hG Xj5 hx (hb hby d3_49) (pc' := 52) rfl rfl (v := (1 : Int32)) (by decide) (Ls' := #[.val (.ref a), .val (.long lim), .second, .val (.ref ids), .val (.int 2), .val (.int 3), .val (.int 1), .val (.int w7)]) rfl ?_
          refine g_goto hG Xj5 hx (hb hby d3_52) (pc' := 28) (by decide) (by decide) ?_
          refine g_iload hG Xj5 hx (hb hby d3_28) (pc' := 30) rfl rfl ?_
          refine g_ifNo hG Xj5 hx (hb hby d3_30) (pc' := 33) (by decide) rfl ?_
          refine g_aloadN hG Xj5 hx (hb hby d3_33) (pc' := 34) rfl rfl rfl ?_
          refine g_iload hG Xj5 hx (hb hby d3_34) (pc' := 36) rfl rfl ?_
          refine g_daload hG Xj5 hx hZ ej5 V_a (j := (3 : Int32)) (v := (.double (al (3 : Int32)))) (by decide) rfl (hb hby d3_36) (pc' := 37) rfl ?_
          refine g_aloadN hG Xj5 hx (hb hby d3_37) (pc' := 38) rfl rfl rfl ?_
          refine g_aloadN hG Xj5 hx (hb hby d3_38) (pc' := 39) rfl rfl rfl ?_
          refine g_iload hG Xj5 hx (hb hby d3_39) (pc' := 41) rfl rfl ?_
          refine g_iconst hG Xj5 hx (hb hby d3_41) (pc' := 42) rfl (v := (1 : Int32)) rfl ?_
          refine g_isub hG Xj5 hx (hb hby d3_42) (pc' := 43) rfl (v := (0 : Int32)) (by decide) ?_
          refine g_iaload hG Xj5 hx hZ ej5 V_ids (j := (0 : Int32)) (v := (.int p0)) (by decide) rfl (hb hby d3_43) (pc' := 44) rfl ?_
          refine g_daload hG Xj5 hx hZ ej5 V_a (j := p0) (v := (.double (al p0))) (nn_of bp0.1) (al_at4 (in4_of bp0.1 (by omega))) (hb hby d3_44) (pc' := 45) rfl ?_
          obtain ⟨v45_1, q45_1⟩ : ∃ zz : Int32, cmpValue (FP.dcmp (al (3 : Int32)) (al p0)) .l = zz := ⟨_, rfl⟩
          refine g_dcmp hG Xj5 hx (hb hby d3_45) (pc' := 46) rfl q45_1 ?_
          by_cases g3_0 : (btB b01 b02 b03 b12 b13 b23) (3 : Int32) p0 = true
          · skip
            refine g_ifNo hG Xj5 hx (hb hby d3_46) (pc' := 49) (by rw [← q45_1, gt_yes (BT (3 : Int32) p0 (by decide) (in4_of bp0.1 (by omega))) (fun g => by have := Int32.lt_iff_toInt_lt.mp g; rw [show (3 : Int32).toInt = 3 by decide] at this; omega) g3_0]; rfl) rfl ?_
            refine g_iinc hG Xj5 hx (hb hby d3_49) (pc' := 52) rfl rfl (v := (0 : Int32)) (by decide) (Ls' := #[.val (.ref a), .val (.long lim), .second, .val (.ref ids), .val (.int 2), .val (.int 3), .val (.int 0), .val (.int w7)]) rfl ?_
            refine g_goto hG Xj5 hx (hb hby d3_52) (pc' := 28) (by decide) (by decide) ?_
            refine g_iload hG Xj5 hx (hb hby d3_28) (pc' := 30) rfl rfl ?_
            refine g_ifYes hG Xj5 hx (hb hby d3_30) (pc' := 55) (by decide) (by decide) (by decide) ?_
            refine g_iload hG Xj5 hx (hb hby d3_55) (pc' := 57) rfl rfl ?_
            refine g_aloadN hG Xj5 hx (hb hby d3_57) (pc' := 58) rfl rfl rfl ?_
            refine g_arraylength hG Xj5 hx hZ ej5 V_ids (hb hby d3_58) (pc' := 59) rfl ?_
            refine g_icmpNo hG Xj5 hx (hb hby d3_59) (pc' := 62) (by decide) rfl ?_
            refine g_iload hG Xj5 hx (hb hby d3_62) (pc' := 64) rfl rfl ?_
            refine g_aloadN hG Xj5 hx (hb hby d3_64) (pc' := 65) rfl rfl rfl ?_
            refine g_arraylength hG Xj5 hx hZ ej5 V_ids (hb hby d3_65) (pc' := 66) rfl ?_
            refine g_iconst hG Xj5 hx (hb hby d3_66) (pc' := 67) rfl (v := (1 : Int32)) rfl ?_
            refine g_isub hG Xj5 hx (hb hby d3_67) (pc' := 68) rfl (v := (1 : Int32)) (by decide) ?_
            refine g_callS hG Xj5 hx hZ (y := (⟨"java/lang/Math", "min", "(II)I"⟩ : MethodName)) 0 hown (wd hw 16 rfl) (wd hw 17 rfl) (wd hw 8 rfl) (wd hw 18 rfl) (by decide) (rmMI l Z a0 hw [] (2 : Int32) (1 : Int32) (1 : Int32) hj5 n0 Zs (by decide)) (by decide) (by decide) (by rw [hml]; rfl) pd_3 rfl (argsL := [(.int 2), (.int 1)]) (rest := []) rfl rfl (Nat.le_of_eq rfl) (hb hby d3_68) ej5 (by decide) (by decide) (pc' := 71) rfl ?_
            intro T7 rv7 L7 X7 hQ7
            obtain ⟨rfl, Nq7, eh7⟩ := hQ7
            have NF7 := Fr.app NFj5 Nq7
            show G (T7.setTop (mkF m 71 _ [(.int 1)]))
            refine g_istore hG X7 hx (hb hby d3_71) (pc' := 73) rfl (Ls' := #[.val (.ref a), .val (.long lim), .second, .val (.ref ids), .val (.int 2), .val (.int 3), .val (.int 0), .val (.int 1)]) rfl ?_
            refine g_aloadN hG X7 hx (hb hby d3_73) (pc' := 74) rfl rfl rfl ?_
            refine g_iload hG X7 hx (hb hby d3_74) (pc' := 76) rfl rfl ?_
            refine g_aloadN hG X7 hx (hb hby d3_76) (pc' := 77) rfl rfl rfl ?_
            refine g_iload hG X7 hx (hb hby d3_77) (pc' := 79) rfl rfl ?_
            refine g_iconst hG X7 hx (hb hby d3_79) (pc' := 80) rfl (v := (1 : Int32)) rfl ?_
            refine g_iadd hG X7 hx (hb hby d3_80) (pc' := 81) rfl (v := (1 : Int32)) (by decide) ?_
            refine g_iload hG X7 hx (hb hby d3_81) (pc' := 83) rfl rfl ?_
            refine g_iload hG X7 hx (hb hby d3_83) (pc' := 85) rfl rfl ?_
            refine g_isub hG X7 hx (hb hby d3_85) (pc' := 86) rfl (v := (1 : Int32)) (by decide) ?_
            refine g_copy hG X7 hx hZ hown (wd hw 19 rfl) (wd hw 22 rfl) (wd hw 20 rfl) (wd hw 21 rfl) eh7 V_ids V_ids rfl (by decide) (by decide) (by decide) (by decide) (by decide) (vr := [(.int p0), (.int p0)]) rfl NF7 ge_ids (by rw [hml]; rfl) (hb hby d3_86) (by decide) 0 (Nat.le_of_eq rfl) (by decide) (pc' := 89) rfl ?_
            intro T8 h8 L8 X8 e8 NF8 Kq8 Vn8
            have V_ids := Vn8
            have V_a := V_a.keep Kq8 (ninS ne_a_ids nin0)
            have Zs := Nat.le_trans Zs Kq8.1
            have K8 := Kj5.trans Kq8 (allS (Or.inr sz_ids) all0)
            show G (T8.setTop (mkF m 89 _ []))
            refine g_aloadN hG X8 hx (hb hby d3_89) (pc' := 90) rfl rfl rfl ?_
            refine g_iload hG X8 hx (hb hby d3_90) (pc' := 92) rfl rfl ?_
            refine g_iload hG X8 hx (hb hby d3_92) (pc' := 94) rfl rfl ?_
            refine g_iastore hG X8 hx hZ e8 V_ids (j := (0 : Int32)) (by decide) (show Int32.toNatClampNeg (0 : Int32) < 2 by decide) (hb hby d3_94) (pc' := 95) rfl ?_
            intro T9 h9 X9 e9 W9 Vn9
            have V_ids : AV Z h9 ids .int (2 : Int32) [(.int 3), (.int p0)] := Vn9
            have V_a := V_a.other W9 ne_a_ids
            have Zs := Nat.le_trans Zs (Wr.size W9)
            have NF9 := Fr.snoc X9 NF8 ge_ids
            have K9 := K8.wr W9 (Or.inr sz_ids)
            refine g_iload hG X9 hx (hb hby d3_95) (pc' := 97) rfl rfl ?_
            refine g_iconst hG X9 hx (hb hby d3_97) (pc' := 98) rfl (v := (1 : Int32)) rfl ?_
            refine g_iadd hG X9 hx (hb hby d3_98) (pc' := 99) rfl (v := (3 : Int32)) (by decide) ?_
            refine g_aloadN hG X9 hx (hb hby d3_99) (pc' := 100) rfl rfl rfl ?_
            refine g_arraylength hG X9 hx hZ e9 V_ids (hb hby d3_100) (pc' := 101) rfl ?_
            refine g_callS hG X9 hx hZ (y := (⟨"java/lang/Math", "min", "(II)I"⟩ : MethodName)) 0 hown (wd hw 16 rfl) (wd hw 17 rfl) (wd hw 8 rfl) (wd hw 18 rfl) (by decide) (rmMI l Z a0 hw [] (3 : Int32) (2 : Int32) (2 : Int32) h9 n0 Zs (by decide)) (by decide) (by decide) (by rw [hml]; rfl) pd_3 rfl (argsL := [(.int 3), (.int 2)]) (rest := []) rfl rfl (Nat.le_of_eq rfl) (hb hby d3_101) e9 (by decide) (by decide) (pc' := 104) rfl ?_
            intro T10 rv10 L10 X10 hQ10
            obtain ⟨rfl, Nq10, eh10⟩ := hQ10
            have NF10 := Fr.app NF9 Nq10
            show G (T10.setTop (mkF m 104 _ [(.int 2)]))
            refine g_istore hG X10 hx (hb hby d3_104) (pc' := 106) rfl (Ls' := #[.val (.ref a), .val (.long lim), .second, .val (.ref ids), .val (.int 2), .val (.int 3), .val (.int 0), .val (.int 1)]) rfl ?_
            refine g_iinc hG X10 hx (hb hby d3_106) (pc' := 109) rfl rfl (v := (4 : Int32)) (by decide) (Ls' := #[.val (.ref a), .val (.long lim), .second, .val (.ref ids), .val (.int 2), .val (.int 4), .val (.int 0), .val (.int 1)]) rfl ?_
            refine g_goto hG X10 hx (hb hby d3_109) (pc' := 17) (by decide) (by decide) ?_
            exact J4 _ _ _ (3 : Int32) p0 (0 : Int32) (1 : Int32) X10 eh10 NF10 Zs K9 V_a V_ids (st_3_2_2_0 b01 b02 b03 b12 b13 b23 p0 p1 TR HT3 g3_1 g3_0)
          · skip
            refine g_ifYes hG Xj5 hx (hb hby d3_46) (pc' := 55) (by rcases gt_no (BT (3 : Int32) p0 (by decide) (in4_of bp0.1 (by omega))) g3_0 with z | z <;> rw [← q45_1, z] <;> rfl) (by decide) (by decide) ?_
            refine g_iload hG Xj5 hx (hb hby d3_55) (pc' := 57) rfl rfl ?_
            refine g_aloadN hG Xj5 hx (hb hby d3_57) (pc' := 58) rfl rfl rfl ?_
            refine g_arraylength hG Xj5 hx hZ ej5 V_ids (hb hby d3_58) (pc' := 59) rfl ?_
            refine g_icmpNo hG Xj5 hx (hb hby d3_59) (pc' := 62) (by decide) rfl ?_
            refine g_iload hG Xj5 hx (hb hby d3_62) (pc' := 64) rfl rfl ?_
            refine g_aloadN hG Xj5 hx (hb hby d3_64) (pc' := 65) rfl rfl rfl ?_
            refine g_arraylength hG Xj5 hx hZ ej5 V_ids (hb hby d3_65) (pc' := 66) rfl ?_
            refine g_iconst hG Xj5 hx (hb hby d3_66) (pc' := 67) rfl (v := (1 : Int32)) rfl ?_
            refine g_isub hG Xj5 hx (hb hby d3_67) (pc' := 68) rfl (v := (1 : Int32)) (by decide) ?_
            refine g_callS hG Xj5 hx hZ (y := (⟨"java/lang/Math", "min", "(II)I"⟩ : MethodName)) 0 hown (wd hw 16 rfl) (wd hw 17 rfl) (wd hw 8 rfl) (wd hw 18 rfl) (by decide) (rmMI l Z a0 hw [] (2 : Int32) (1 : Int32) (1 : Int32) hj5 n0 Zs (by decide)) (by decide) (by decide) (by rw [hml]; rfl) pd_3 rfl (argsL := [(.int 2), (.int 1)]) (rest := []) rfl rfl (Nat.le_of_eq rfl) (hb hby d3_68) ej5 (by decide) (by decide) (pc' := 71) rfl ?_
            intro T11 rv11 L11 X11 hQ11
            obtain ⟨rfl, Nq11, eh11⟩ := hQ11
            have NF11 := Fr.app NFj5 Nq11
            show G (T11.setTop (mkF m 71 _ [(.int 1)]))
            refine g_istore hG X11 hx (hb hby d3_71) (pc' := 73) rfl (Ls' := #[.val (.ref a), .val (.long lim), .second, .val (.ref ids), .val (.int 2), .val (.int 3), .val (.int 1), .val (.int 1)]) rfl ?_
            refine g_aloadN hG X11 hx (hb hby d3_73) (pc' := 74) rfl rfl rfl ?_
            refine g_iload hG X11 hx (hb hby d3_74) (pc' := 76) rfl rfl ?_
            refine g_aloadN hG X11 hx (hb hby d3_76) (pc' := 77) rfl rfl rfl ?_
            refine g_iload hG X11 hx (hb hby d3_77) (pc' := 79) rfl rfl ?_
            refine g_iconst hG X11 hx (hb hby d3_79) (pc' := 80) rfl (v := (1 : Int32)) rfl ?_
            refine g_iadd hG X11 hx (hb hby d3_80) (pc' := 81) rfl (v := (2 : Int32)) (by decide) ?_
            refine g_iload hG X11 hx (hb hby d3_81) (pc' := 83) rfl rfl ?_
            refine g_iload hG X11 hx (hb hby d3_83) (pc' := 85) rfl rfl ?_
            refine g_isub hG X11 hx (hb hby d3_85) (pc' := 86) rfl (v := (0 : Int32)) (by decide) ?_
            refine g_copy hG X11 hx hZ hown (wd hw 19 rfl) (wd hw 22 rfl) (wd hw 20 rfl) (wd hw 21 rfl) eh11 V_ids V_ids rfl (by decide) (by decide) (by decide) (by decide) (by decide) (vr := [(.int p0), (.int p1)]) rfl NF11 ge_ids (by rw [hml]; rfl) (hb hby d3_86) (by decide) 0 (Nat.le_of_eq rfl) (by decide) (pc' := 89) rfl ?_
            intro T12 h12 L12 X12 e12 NF12 Kq12 Vn12
            have V_ids := Vn12
            have V_a := V_a.keep Kq12 (ninS ne_a_ids nin0)
            have Zs := Nat.le_trans Zs Kq12.1
            have K12 := Kj5.trans Kq12 (allS (Or.inr sz_ids) all0)
            show G (T12.setTop (mkF m 89 _ []))
            refine g_aloadN hG X12 hx (hb hby d3_89) (pc' := 90) rfl rfl rfl ?_
            refine g_iload hG X12 hx (hb hby d3_90) (pc' := 92) rfl rfl ?_
            refine g_iload hG X12 hx (hb hby d3_92) (pc' := 94) rfl rfl ?_
            refine g_iastore hG X12 hx hZ e12 V_ids (j := (1 : Int32)) (by decide) (show Int32.toNatClampNeg (1 : Int32) < 2 by decide) (hb hby d3_94) (pc' := 95) rfl ?_
            intro T13 h13 X13 e13 W13 Vn13
            have V_ids : AV Z h13 ids .int (2 : Int32) [(.int p0), (.int 3)] := Vn13
            have V_a := V_a.other W13 ne_a_ids
            have Zs := Nat.le_trans Zs (Wr.size W13)
            have NF13 := Fr.snoc X13 NF12 ge_ids
            have K13 := K12.wr W13 (Or.inr sz_ids)
            refine g_iload hG X13 hx (hb hby d3_95) (pc' := 97) rfl rfl ?_
            refine g_iconst hG X13 hx (hb hby d3_97) (pc' := 98) rfl (v := (1 : Int32)) rfl ?_
            refine g_iadd hG X13 hx (hb hby d3_98) (pc' := 99) rfl (v := (3 : Int32)) (by decide) ?_
            refine g_aloadN hG X13 hx (hb hby d3_99) (pc' := 100) rfl rfl rfl ?_
            refine g_arraylength hG X13 hx hZ e13 V_ids (hb hby d3_100) (pc' := 101) rfl ?_
            refine g_callS hG X13 hx hZ (y := (⟨"java/lang/Math", "min", "(II)I"⟩ : MethodName)) 0 hown (wd hw 16 rfl) (wd hw 17 rfl) (wd hw 8 rfl) (wd hw 18 rfl) (by decide) (rmMI l Z a0 hw [] (3 : Int32) (2 : Int32) (2 : Int32) h13 n0 Zs (by decide)) (by decide) (by decide) (by rw [hml]; rfl) pd_3 rfl (argsL := [(.int 3), (.int 2)]) (rest := []) rfl rfl (Nat.le_of_eq rfl) (hb hby d3_101) e13 (by decide) (by decide) (pc' := 104) rfl ?_
            intro T14 rv14 L14 X14 hQ14
            obtain ⟨rfl, Nq14, eh14⟩ := hQ14
            have NF14 := Fr.app NF13 Nq14
            show G (T14.setTop (mkF m 104 _ [(.int 2)]))
            refine g_istore hG X14 hx (hb hby d3_104) (pc' := 106) rfl (Ls' := #[.val (.ref a), .val (.long lim), .second, .val (.ref ids), .val (.int 2), .val (.int 3), .val (.int 1), .val (.int 1)]) rfl ?_
            refine g_iinc hG X14 hx (hb hby d3_106) (pc' := 109) rfl rfl (v := (4 : Int32)) (by decide) (Ls' := #[.val (.ref a), .val (.long lim), .second, .val (.ref ids), .val (.int 2), .val (.int 4), .val (.int 1), .val (.int 1)]) rfl ?_
            refine g_goto hG X14 hx (hb hby d3_109) (pc' := 17) (by decide) (by decide) ?_
            exact J4 _ _ _ p0 (3 : Int32) (1 : Int32) (1 : Int32) X14 eh14 NF14 Zs K13 V_a V_ids (st_3_2_2_1 b01 b02 b03 b12 b13 b23 p0 p1 TR HT3 g3_1 g3_0)
        · skip
          refine g_ifYes hG Xj5 hx (hb hby d3_46) (pc' := 55) (by rcases gt_no (BT (3 : Int32) p1 (by decide) (in4_of bp1.1 (by omega))) g3_1 with z | z <;> rw [← q45, z] <;> rfl) (by decide) (by decide) ?_
          refine g_iload hG Xj5 hx (hb hby d3_55) (pc' := 57) rfl rfl ?_
          refine g_aloadN hG Xj5 hx (hb hby d3_57) (pc' := 58) rfl rfl rfl ?_
          refine g_arraylength hG Xj5 hx hZ ej5 V_ids (hb hby d3_58) (pc' := 59) rfl ?_
          refine g_icmpYes hG Xj5 hx (hb hby d3_59) (pc' := 106) (by decide) (by decide) (by decide) ?_
          refine g_iinc hG Xj5 hx (hb hby d3_106) (pc' := 109) rfl rfl (v := (4 : Int32)) (by decide) (Ls' := #[.val (.ref a), .val (.long lim), .second, .val (.ref ids), .val (.int 2), .val (.int 4), .val (.int 2), .val (.int w7)]) rfl ?_
          refine g_goto hG Xj5 hx (hb hby d3_109) (pc' := 17) (by decide) (by decide) ?_
          exact J4 _ _ _ p0 p1 (2 : Int32) w7 Xj5 ej5 NFj5 Zs Kj5 V_a V_ids (st_3_2_2_2 b01 b02 b03 b12 b13 b23 p0 p1 TR HT3 g3_1)
      refine g_iload hG Xj4 hx (hb hby d3_17) (pc' := 19) rfl rfl ?_
      refine g_aloadN hG Xj4 hx (hb hby d3_19) (pc' := 20) rfl rfl rfl ?_
      refine g_arraylength hG Xj4 hx hZ ej4 V_a (hb hby d3_20) (pc' := 21) rfl ?_
      refine g_icmpNo hG Xj4 hx (hb hby d3_21) (pc' := 24) (by decide) rfl ?_
      refine g_iload hG Xj4 hx (hb hby d3_24) (pc' := 26) rfl rfl ?_
      refine g_istore hG Xj4 hx (hb hby d3_26) (pc' := 28) rfl (Ls' := #[.val (.ref a), .val (.long lim), .second, .val (.ref ids), .val (.int 2), .val (.int 2), .val (.int 2), .val (.int w7)]) rfl ?_
      refine g_iload hG Xj4 hx (hb hby d3_28) (pc' := 30) rfl rfl ?_
      refine g_ifNo hG Xj4 hx (hb hby d3_30) (pc' := 33) (by decide) rfl ?_
      refine g_aloadN hG Xj4 hx (hb hby d3_33) (pc' := 34) rfl rfl rfl ?_
      refine g_iload hG Xj4 hx (hb hby d3_34) (pc' := 36) rfl rfl ?_
      refine g_daload hG Xj4 hx hZ ej4 V_a (j := (2 : Int32)) (v := (.double (al (2 : Int32)))) (by decide) rfl (hb hby d3_36) (pc' := 37) rfl ?_
      refine g_aloadN hG Xj4 hx (hb hby d3_37) (pc' := 38) rfl rfl rfl ?_
      refine g_aloadN hG Xj4 hx (hb hby d3_38) (pc' := 39) rfl rfl rfl ?_
      refine g_iload hG Xj4 hx (hb hby d3_39) (pc' := 41) rfl rfl ?_
      refine g_iconst hG Xj4 hx (hb hby d3_41) (pc' := 42) rfl (v := (1 : Int32)) rfl ?_
      refine g_isub hG Xj4 hx (hb hby d3_42) (pc' := 43) rfl (v := (1 : Int32)) (by decide) ?_
      refine g_iaload hG Xj4 hx hZ ej4 V_ids (j := (1 : Int32)) (v := (.int p1)) (by decide) rfl (hb hby d3_43) (pc' := 44) rfl ?_
      refine g_daload hG Xj4 hx hZ ej4 V_a (j := p1) (v := (.double (al p1))) (nn_of bp1.1) (al_at4 (in4_of bp1.1 (by omega))) (hb hby d3_44) (pc' := 45) rfl ?_
      obtain ⟨v45, q45⟩ : ∃ zz : Int32, cmpValue (FP.dcmp (al (2 : Int32)) (al p1)) .l = zz := ⟨_, rfl⟩
      refine g_dcmp hG Xj4 hx (hb hby d3_45) (pc' := 46) rfl q45 ?_
      by_cases g2_1 : (btB b01 b02 b03 b12 b13 b23) (2 : Int32) p1 = true
      · skip
        refine g_ifNo hG Xj4 hx (hb hby d3_46) (pc' := 49) (by rw [← q45, gt_yes (BT (2 : Int32) p1 (by decide) (in4_of bp1.1 (by omega))) (fun g => by have := Int32.lt_iff_toInt_lt.mp g; rw [show (2 : Int32).toInt = 2 by decide] at this; omega) g2_1]; rfl) rfl ?_
        refine g_iinc hG Xj4 hx (hb hby d3_49) (pc' := 52) rfl rfl (v := (1 : Int32)) (by decide) (Ls' := #[.val (.ref a), .val (.long lim), .second, .val (.ref ids), .val (.int 2), .val (.int 2), .val (.int 1), .val (.int w7)]) rfl ?_
        refine g_goto hG Xj4 hx (hb hby d3_52) (pc' := 28) (by decide) (by decide) ?_
        refine g_iload hG Xj4 hx (hb hby d3_28) (pc' := 30) rfl rfl ?_
        refine g_ifNo hG Xj4 hx (hb hby d3_30) (pc' := 33) (by decide) rfl ?_
        refine g_aloadN hG Xj4 hx (hb hby d3_33) (pc' := 34) rfl rfl rfl ?_
        refine g_iload hG Xj4 hx (hb hby d3_34) (pc' := 36) rfl rfl ?_
        refine g_daload hG Xj4 hx hZ ej4 V_a (j := (2 : Int32)) (v := (.double (al (2 : Int32)))) (by decide) rfl (hb hby d3_36) (pc' := 37) rfl ?_
        refine g_aloadN hG Xj4 hx (hb hby d3_37) (pc' := 38) rfl rfl rfl ?_
        refine g_aloadN hG Xj4 hx (hb hby d3_38) (pc' := 39) rfl rfl rfl ?_
        refine g_iload hG Xj4 hx (hb hby d3_39) (pc' := 41) rfl rfl ?_
        refine g_iconst hG Xj4 hx (hb hby d3_41) (pc' := 42) rfl (v := (1 : Int32)) rfl ?_
        refine g_isub hG Xj4 hx (hb hby d3_42) (pc' := 43) rfl (v := (0 : Int32)) (by decide) ?_
        refine g_iaload hG Xj4 hx hZ ej4 V_ids (j := (0 : Int32)) (v := (.int p0)) (by decide) rfl (hb hby d3_43) (pc' := 44) rfl ?_
        refine g_daload hG Xj4 hx hZ ej4 V_a (j := p0) (v := (.double (al p0))) (nn_of bp0.1) (al_at4 (in4_of bp0.1 (by omega))) (hb hby d3_44) (pc' := 45) rfl ?_
        obtain ⟨v45_1, q45_1⟩ : ∃ zz : Int32, cmpValue (FP.dcmp (al (2 : Int32)) (al p0)) .l = zz := ⟨_, rfl⟩
        refine g_dcmp hG Xj4 hx (hb hby d3_45) (pc' := 46) rfl q45_1 ?_
        by_cases g2_0 : (btB b01 b02 b03 b12 b13 b23) (2 : Int32) p0 = true
        · skip
          refine g_ifNo hG Xj4 hx (hb hby d3_46) (pc' := 49) (by rw [← q45_1, gt_yes (BT (2 : Int32) p0 (by decide) (in4_of bp0.1 (by omega))) (fun g => by have := Int32.lt_iff_toInt_lt.mp g; rw [show (2 : Int32).toInt = 2 by decide] at this; omega) g2_0]; rfl) rfl ?_
          refine g_iinc hG Xj4 hx (hb hby d3_49) (pc' := 52) rfl rfl (v := (0 : Int32)) (by decide) (Ls' := #[.val (.ref a), .val (.long lim), .second, .val (.ref ids), .val (.int 2), .val (.int 2), .val (.int 0), .val (.int w7)]) rfl ?_
          refine g_goto hG Xj4 hx (hb hby d3_52) (pc' := 28) (by decide) (by decide) ?_
          refine g_iload hG Xj4 hx (hb hby d3_28) (pc' := 30) rfl rfl ?_
          refine g_ifYes hG Xj4 hx (hb hby d3_30) (pc' := 55) (by decide) (by decide) (by decide) ?_
          refine g_iload hG Xj4 hx (hb hby d3_55) (pc' := 57) rfl rfl ?_
          refine g_aloadN hG Xj4 hx (hb hby d3_57) (pc' := 58) rfl rfl rfl ?_
          refine g_arraylength hG Xj4 hx hZ ej4 V_ids (hb hby d3_58) (pc' := 59) rfl ?_
          refine g_icmpNo hG Xj4 hx (hb hby d3_59) (pc' := 62) (by decide) rfl ?_
          refine g_iload hG Xj4 hx (hb hby d3_62) (pc' := 64) rfl rfl ?_
          refine g_aloadN hG Xj4 hx (hb hby d3_64) (pc' := 65) rfl rfl rfl ?_
          refine g_arraylength hG Xj4 hx hZ ej4 V_ids (hb hby d3_65) (pc' := 66) rfl ?_
          refine g_iconst hG Xj4 hx (hb hby d3_66) (pc' := 67) rfl (v := (1 : Int32)) rfl ?_
          refine g_isub hG Xj4 hx (hb hby d3_67) (pc' := 68) rfl (v := (1 : Int32)) (by decide) ?_
          refine g_callS hG Xj4 hx hZ (y := (⟨"java/lang/Math", "min", "(II)I"⟩ : MethodName)) 0 hown (wd hw 16 rfl) (wd hw 17 rfl) (wd hw 8 rfl) (wd hw 18 rfl) (by decide) (rmMI l Z a0 hw [] (2 : Int32) (1 : Int32) (1 : Int32) hj4 n0 Zs (by decide)) (by decide) (by decide) (by rw [hml]; rfl) pd_3 rfl (argsL := [(.int 2), (.int 1)]) (rest := []) rfl rfl (Nat.le_of_eq rfl) (hb hby d3_68) ej4 (by decide) (by decide) (pc' := 71) rfl ?_
          intro T15 rv15 L15 X15 hQ15
          obtain ⟨rfl, Nq15, eh15⟩ := hQ15
          have NF15 := Fr.app NFj4 Nq15
          show G (T15.setTop (mkF m 71 _ [(.int 1)]))
          refine g_istore hG X15 hx (hb hby d3_71) (pc' := 73) rfl (Ls' := #[.val (.ref a), .val (.long lim), .second, .val (.ref ids), .val (.int 2), .val (.int 2), .val (.int 0), .val (.int 1)]) rfl ?_
          refine g_aloadN hG X15 hx (hb hby d3_73) (pc' := 74) rfl rfl rfl ?_
          refine g_iload hG X15 hx (hb hby d3_74) (pc' := 76) rfl rfl ?_
          refine g_aloadN hG X15 hx (hb hby d3_76) (pc' := 77) rfl rfl rfl ?_
          refine g_iload hG X15 hx (hb hby d3_77) (pc' := 79) rfl rfl ?_
          refine g_iconst hG X15 hx (hb hby d3_79) (pc' := 80) rfl (v := (1 : Int32)) rfl ?_
          refine g_iadd hG X15 hx (hb hby d3_80) (pc' := 81) rfl (v := (1 : Int32)) (by decide) ?_
          refine g_iload hG X15 hx (hb hby d3_81) (pc' := 83) rfl rfl ?_
          refine g_iload hG X15 hx (hb hby d3_83) (pc' := 85) rfl rfl ?_
          refine g_isub hG X15 hx (hb hby d3_85) (pc' := 86) rfl (v := (1 : Int32)) (by decide) ?_
          refine g_copy hG X15 hx hZ hown (wd hw 19 rfl) (wd hw 22 rfl) (wd hw 20 rfl) (wd hw 21 rfl) eh15 V_ids V_ids rfl (by decide) (by decide) (by decide) (by decide) (by decide) (vr := [(.int p0), (.int p0)]) rfl NF15 ge_ids (by rw [hml]; rfl) (hb hby d3_86) (by decide) 0 (Nat.le_of_eq rfl) (by decide) (pc' := 89) rfl ?_
          intro T16 h16 L16 X16 e16 NF16 Kq16 Vn16
          have V_ids := Vn16
          have V_a := V_a.keep Kq16 (ninS ne_a_ids nin0)
          have Zs := Nat.le_trans Zs Kq16.1
          have K16 := Kj4.trans Kq16 (allS (Or.inr sz_ids) all0)
          show G (T16.setTop (mkF m 89 _ []))
          refine g_aloadN hG X16 hx (hb hby d3_89) (pc' := 90) rfl rfl rfl ?_
          refine g_iload hG X16 hx (hb hby d3_90) (pc' := 92) rfl rfl ?_
          refine g_iload hG X16 hx (hb hby d3_92) (pc' := 94) rfl rfl ?_
          refine g_iastore hG X16 hx hZ e16 V_ids (j := (0 : Int32)) (by decide) (show Int32.toNatClampNeg (0 : Int32) < 2 by decide) (hb hby d3_94) (pc' := 95) rfl ?_
          intro T17 h17 X17 e17 W17 Vn17
          have V_ids : AV Z h17 ids .int (2 : Int32) [(.int 2), (.int p0)] := Vn17
          have V_a := V_a.other W17 ne_a_ids
          have Zs := Nat.le_trans Zs (Wr.size W17)
          have NF17 := Fr.snoc X17 NF16 ge_ids
          have K17 := K16.wr W17 (Or.inr sz_ids)
          refine g_iload hG X17 hx (hb hby d3_95) (pc' := 97) rfl rfl ?_
          refine g_iconst hG X17 hx (hb hby d3_97) (pc' := 98) rfl (v := (1 : Int32)) rfl ?_
          refine g_iadd hG X17 hx (hb hby d3_98) (pc' := 99) rfl (v := (3 : Int32)) (by decide) ?_
          refine g_aloadN hG X17 hx (hb hby d3_99) (pc' := 100) rfl rfl rfl ?_
          refine g_arraylength hG X17 hx hZ e17 V_ids (hb hby d3_100) (pc' := 101) rfl ?_
          refine g_callS hG X17 hx hZ (y := (⟨"java/lang/Math", "min", "(II)I"⟩ : MethodName)) 0 hown (wd hw 16 rfl) (wd hw 17 rfl) (wd hw 8 rfl) (wd hw 18 rfl) (by decide) (rmMI l Z a0 hw [] (3 : Int32) (2 : Int32) (2 : Int32) h17 n0 Zs (by decide)) (by decide) (by decide) (by rw [hml]; rfl) pd_3 rfl (argsL := [(.int 3), (.int 2)]) (rest := []) rfl rfl (Nat.le_of_eq rfl) (hb hby d3_101) e17 (by decide) (by decide) (pc' := 104) rfl ?_
          intro T18 rv18 L18 X18 hQ18
          obtain ⟨rfl, Nq18, eh18⟩ := hQ18
          have NF18 := Fr.app NF17 Nq18
          show G (T18.setTop (mkF m 104 _ [(.int 2)]))
          refine g_istore hG X18 hx (hb hby d3_104) (pc' := 106) rfl (Ls' := #[.val (.ref a), .val (.long lim), .second, .val (.ref ids), .val (.int 2), .val (.int 2), .val (.int 0), .val (.int 1)]) rfl ?_
          refine g_iinc hG X18 hx (hb hby d3_106) (pc' := 109) rfl rfl (v := (3 : Int32)) (by decide) (Ls' := #[.val (.ref a), .val (.long lim), .second, .val (.ref ids), .val (.int 2), .val (.int 3), .val (.int 0), .val (.int 1)]) rfl ?_
          refine g_goto hG X18 hx (hb hby d3_109) (pc' := 17) (by decide) (by decide) ?_
          exact J3 _ _ _ (2 : Int32) p0 (0 : Int32) (1 : Int32) X18 eh18 NF18 Zs K17 V_a V_ids (st_2_2_2_0 b01 b02 b03 b12 b13 b23 p0 p1 TR HT2 g2_1 g2_0)
        · skip
          refine g_ifYes hG Xj4 hx (hb hby d3_46) (pc' := 55) (by rcases gt_no (BT (2 : Int32) p0 (by decide) (in4_of bp0.1 (by omega))) g2_0 with z | z <;> rw [← q45_1, z] <;> rfl) (by decide) (by decide) ?_
          refine g_iload hG Xj4 hx (hb hby d3_55) (pc' := 57) rfl rfl ?_
          refine g_aloadN hG Xj4 hx (hb hby d3_57) (pc' := 58) rfl rfl rfl ?_
          refine g_arraylength hG Xj4 hx hZ ej4 V_ids (hb hby d3_58) (pc' := 59) rfl ?_
          refine g_icmpNo hG Xj4 hx (hb hby d3_59) (pc' := 62) (by decide) rfl ?_
          refine g_iload hG Xj4 hx (hb hby d3_62) (pc' := 64) rfl rfl ?_
          refine g_aloadN hG Xj4 hx (hb hby d3_64) (pc' := 65) rfl rfl rfl ?_
          refine g_arraylength hG Xj4 hx hZ ej4 V_ids (hb hby d3_65) (pc' := 66) rfl ?_
          refine g_iconst hG Xj4 hx (hb hby d3_66) (pc' := 67) rfl (v := (1 : Int32)) rfl ?_
          refine g_isub hG Xj4 hx (hb hby d3_67) (pc' := 68) rfl (v := (1 : Int32)) (by decide) ?_
          refine g_callS hG Xj4 hx hZ (y := (⟨"java/lang/Math", "min", "(II)I"⟩ : MethodName)) 0 hown (wd hw 16 rfl) (wd hw 17 rfl) (wd hw 8 rfl) (wd hw 18 rfl) (by decide) (rmMI l Z a0 hw [] (2 : Int32) (1 : Int32) (1 : Int32) hj4 n0 Zs (by decide)) (by decide) (by decide) (by rw [hml]; rfl) pd_3 rfl (argsL := [(.int 2), (.int 1)]) (rest := []) rfl rfl (Nat.le_of_eq rfl) (hb hby d3_68) ej4 (by decide) (by decide) (pc' := 71) rfl ?_
          intro T19 rv19 L19 X19 hQ19
          obtain ⟨rfl, Nq19, eh19⟩ := hQ19
          have NF19 := Fr.app NFj4 Nq19
          show G (T19.setTop (mkF m 71 _ [(.int 1)]))
          refine g_istore hG X19 hx (hb hby d3_71) (pc' := 73) rfl (Ls' := #[.val (.ref a), .val (.long lim), .second, .val (.ref ids), .val (.int 2), .val (.int 2), .val (.int 1), .val (.int 1)]) rfl ?_
          refine g_aloadN hG X19 hx (hb hby d3_73) (pc' := 74) rfl rfl rfl ?_
          refine g_iload hG X19 hx (hb hby d3_74) (pc' := 76) rfl rfl ?_
          refine g_aloadN hG X19 hx (hb hby d3_76) (pc' := 77) rfl rfl rfl ?_
          refine g_iload hG X19 hx (hb hby d3_77) (pc' := 79) rfl rfl ?_
          refine g_iconst hG X19 hx (hb hby d3_79) (pc' := 80) rfl (v := (1 : Int32)) rfl ?_
          refine g_iadd hG X19 hx (hb hby d3_80) (pc' := 81) rfl (v := (2 : Int32)) (by decide) ?_
          refine g_iload hG X19 hx (hb hby d3_81) (pc' := 83) rfl rfl ?_
          refine g_iload hG X19 hx (hb hby d3_83) (pc' := 85) rfl rfl ?_
          refine g_isub hG X19 hx (hb hby d3_85) (pc' := 86) rfl (v := (0 : Int32)) (by decide) ?_
          refine g_copy hG X19 hx hZ hown (wd hw 19 rfl) (wd hw 22 rfl) (wd hw 20 rfl) (wd hw 21 rfl) eh19 V_ids V_ids rfl (by decide) (by decide) (by decide) (by decide) (by decide) (vr := [(.int p0), (.int p1)]) rfl NF19 ge_ids (by rw [hml]; rfl) (hb hby d3_86) (by decide) 0 (Nat.le_of_eq rfl) (by decide) (pc' := 89) rfl ?_
          intro T20 h20 L20 X20 e20 NF20 Kq20 Vn20
          have V_ids := Vn20
          have V_a := V_a.keep Kq20 (ninS ne_a_ids nin0)
          have Zs := Nat.le_trans Zs Kq20.1
          have K20 := Kj4.trans Kq20 (allS (Or.inr sz_ids) all0)
          show G (T20.setTop (mkF m 89 _ []))
          refine g_aloadN hG X20 hx (hb hby d3_89) (pc' := 90) rfl rfl rfl ?_
          refine g_iload hG X20 hx (hb hby d3_90) (pc' := 92) rfl rfl ?_
          refine g_iload hG X20 hx (hb hby d3_92) (pc' := 94) rfl rfl ?_
          refine g_iastore hG X20 hx hZ e20 V_ids (j := (1 : Int32)) (by decide) (show Int32.toNatClampNeg (1 : Int32) < 2 by decide) (hb hby d3_94) (pc' := 95) rfl ?_
          intro T21 h21 X21 e21 W21 Vn21
          have V_ids : AV Z h21 ids .int (2 : Int32) [(.int p0), (.int 2)] := Vn21
          have V_a := V_a.other W21 ne_a_ids
          have Zs := Nat.le_trans Zs (Wr.size W21)
          have NF21 := Fr.snoc X21 NF20 ge_ids
          have K21 := K20.wr W21 (Or.inr sz_ids)
          refine g_iload hG X21 hx (hb hby d3_95) (pc' := 97) rfl rfl ?_
          refine g_iconst hG X21 hx (hb hby d3_97) (pc' := 98) rfl (v := (1 : Int32)) rfl ?_
          refine g_iadd hG X21 hx (hb hby d3_98) (pc' := 99) rfl (v := (3 : Int32)) (by decide) ?_
          refine g_aloadN hG X21 hx (hb hby d3_99) (pc' := 100) rfl rfl rfl ?_
          refine g_arraylength hG X21 hx hZ e21 V_ids (hb hby d3_100) (pc' := 101) rfl ?_
          refine g_callS hG X21 hx hZ (y := (⟨"java/lang/Math", "min", "(II)I"⟩ : MethodName)) 0 hown (wd hw 16 rfl) (wd hw 17 rfl) (wd hw 8 rfl) (wd hw 18 rfl) (by decide) (rmMI l Z a0 hw [] (3 : Int32) (2 : Int32) (2 : Int32) h21 n0 Zs (by decide)) (by decide) (by decide) (by rw [hml]; rfl) pd_3 rfl (argsL := [(.int 3), (.int 2)]) (rest := []) rfl rfl (Nat.le_of_eq rfl) (hb hby d3_101) e21 (by decide) (by decide) (pc' := 104) rfl ?_
          intro T22 rv22 L22 X22 hQ22
          obtain ⟨rfl, Nq22, eh22⟩ := hQ22
          have NF22 := Fr.app NF21 Nq22
          show G (T22.setTop (mkF m 104 _ [(.int 2)]))
          refine g_istore hG X22 hx (hb hby d3_104) (pc' := 106) rfl (Ls' := #[.val (.ref a), .val (.long lim), .second, .val (.ref ids), .val (.int 2), .val (.int 2), .val (.int 1), .val (.int 1)]) rfl ?_
          refine g_iinc hG X22 hx (hb hby d3_106) (pc' := 109) rfl rfl (v := (3 : Int32)) (by decide) (Ls' := #[.val (.ref a), .val (.long lim), .second, .val (.ref ids), .val (.int 2), .val (.int 3), .val (.int 1), .val (.int 1)]) rfl ?_
          refine g_goto hG X22 hx (hb hby d3_109) (pc' := 17) (by decide) (by decide) ?_
          exact J3 _ _ _ p0 (2 : Int32) (1 : Int32) (1 : Int32) X22 eh22 NF22 Zs K21 V_a V_ids (st_2_2_2_1 b01 b02 b03 b12 b13 b23 p0 p1 TR HT2 g2_1 g2_0)
      · skip
        refine g_ifYes hG Xj4 hx (hb hby d3_46) (pc' := 55) (by rcases gt_no (BT (2 : Int32) p1 (by decide) (in4_of bp1.1 (by omega))) g2_1 with z | z <;> rw [← q45, z] <;> rfl) (by decide) (by decide) ?_
        refine g_iload hG Xj4 hx (hb hby d3_55) (pc' := 57) rfl rfl ?_
        refine g_aloadN hG Xj4 hx (hb hby d3_57) (pc' := 58) rfl rfl rfl ?_
        refine g_arraylength hG Xj4 hx hZ ej4 V_ids (hb hby d3_58) (pc' := 59) rfl ?_
        refine g_icmpYes hG Xj4 hx (hb hby d3_59) (pc' := 106) (by decide) (by decide) (by decide) ?_
        refine g_iinc hG Xj4 hx (hb hby d3_106) (pc' := 109) rfl rfl (v := (3 : Int32)) (by decide) (Ls' := #[.val (.ref a), .val (.long lim), .second, .val (.ref ids), .val (.int 2), .val (.int 3), .val (.int 2), .val (.int w7)]) rfl ?_
        refine g_goto hG Xj4 hx (hb hby d3_109) (pc' := 17) (by decide) (by decide) ?_
        exact J3 _ _ _ p0 p1 (2 : Int32) w7 Xj4 ej4 NFj4 Zs Kj4 V_a V_ids (st_2_2_2_2 b01 b02 b03 b12 b13 b23 p0 p1 TR HT2 g2_1)
    refine g_iload hG Xj3 hx (hb hby d3_17) (pc' := 19) rfl rfl ?_
    refine g_aloadN hG Xj3 hx (hb hby d3_19) (pc' := 20) rfl rfl rfl ?_
    refine g_arraylength hG Xj3 hx hZ ej3 V_a (hb hby d3_20) (pc' := 21) rfl ?_
    refine g_icmpNo hG Xj3 hx (hb hby d3_21) (pc' := 24) (by decide) rfl ?_
    refine g_iload hG Xj3 hx (hb hby d3_24) (pc' := 26) rfl rfl ?_
    refine g_istore hG Xj3 hx (hb hby d3_26) (pc' := 28) rfl (Ls' := #[.val (.ref a), .val (.long lim), .second, .val (.ref ids), .val (.int 1), .val (.int 1), .val (.int 1), .val (.int w7)]) rfl ?_
    refine g_iload hG Xj3 hx (hb hby d3_28) (pc' := 30) rfl rfl ?_
    refine g_ifNo hG Xj3 hx (hb hby d3_30) (pc' := 33) (by decide) rfl ?_
    refine g_aloadN hG Xj3 hx (hb hby d3_33) (pc' := 34) rfl rfl rfl ?_
    refine g_iload hG Xj3 hx (hb hby d3_34) (pc' := 36) rfl rfl ?_
    refine g_daload hG Xj3 hx hZ ej3 V_a (j := (1 : Int32)) (v := (.double (al (1 : Int32)))) (by decide) rfl (hb hby d3_36) (pc' := 37) rfl ?_
    refine g_aloadN hG Xj3 hx (hb hby d3_37) (pc' := 38) rfl rfl rfl ?_
    refine g_aloadN hG Xj3 hx (hb hby d3_38) (pc' := 39) rfl rfl rfl ?_
    refine g_iload hG Xj3 hx (hb hby d3_39) (pc' := 41) rfl rfl ?_
    refine g_iconst hG Xj3 hx (hb hby d3_41) (pc' := 42) rfl (v := (1 : Int32)) rfl ?_
    refine g_isub hG Xj3 hx (hb hby d3_42) (pc' := 43) rfl (v := (0 : Int32)) (by decide) ?_
    refine g_iaload hG Xj3 hx hZ ej3 V_ids (j := (0 : Int32)) (v := (.int p0)) (by decide) rfl (hb hby d3_43) (pc' := 44) rfl ?_
    refine g_daload hG Xj3 hx hZ ej3 V_a (j := p0) (v := (.double (al p0))) (nn_of bp0.1) (al_at4 (in4_of bp0.1 (by omega))) (hb hby d3_44) (pc' := 45) rfl ?_
    obtain ⟨v45, q45⟩ : ∃ zz : Int32, cmpValue (FP.dcmp (al (1 : Int32)) (al p0)) .l = zz := ⟨_, rfl⟩
    refine g_dcmp hG Xj3 hx (hb hby d3_45) (pc' := 46) rfl q45 ?_
    by_cases g1_0 : (btB b01 b02 b03 b12 b13 b23) (1 : Int32) p0 = true
    · skip
      refine g_ifNo hG Xj3 hx (hb hby d3_46) (pc' := 49) (by rw [← q45, gt_yes (BT (1 : Int32) p0 (by decide) (in4_of bp0.1 (by omega))) (fun g => by have := Int32.lt_iff_toInt_lt.mp g; rw [show (1 : Int32).toInt = 1 by decide] at this; omega) g1_0]; rfl) rfl ?_
      refine g_iinc hG Xj3 hx (hb hby d3_49) (pc' := 52) rfl rfl (v := (0 : Int32)) (by decide) (Ls' := #[.val (.ref a), .val (.long lim), .second, .val (.ref ids), .val (.int 1), .val (.int 1), .val (.int 0), .val (.int w7)]) rfl ?_
      refine g_goto hG Xj3 hx (hb hby d3_52) (pc' := 28) (by decide) (by decide) ?_
      refine g_iload hG Xj3 hx (hb hby d3_28) (pc' := 30) rfl rfl ?_
      refine g_ifYes hG Xj3 hx (hb hby d3_30) (pc' := 55) (by decide) (by decide) (by decide) ?_
      refine g_iload hG Xj3 hx (hb hby d3_55) (pc' := 57) rfl rfl ?_
      refine g_aloadN hG Xj3 hx (hb hby d3_57) (pc' := 58) rfl rfl rfl ?_
      refine g_arraylength hG Xj3 hx hZ ej3 V_ids (hb hby d3_58) (pc' := 59) rfl ?_
      refine g_icmpNo hG Xj3 hx (hb hby d3_59) (pc' := 62) (by decide) rfl ?_
      refine g_iload hG Xj3 hx (hb hby d3_62) (pc' := 64) rfl rfl ?_
      refine g_aloadN hG Xj3 hx (hb hby d3_64) (pc' := 65) rfl rfl rfl ?_
      refine g_arraylength hG Xj3 hx hZ ej3 V_ids (hb hby d3_65) (pc' := 66) rfl ?_
      refine g_iconst hG Xj3 hx (hb hby d3_66) (pc' := 67) rfl (v := (1 : Int32)) rfl ?_
      refine g_isub hG Xj3 hx (hb hby d3_67) (pc' := 68) rfl (v := (1 : Int32)) (by decide) ?_
      refine g_callS hG Xj3 hx hZ (y := (⟨"java/lang/Math", "min", "(II)I"⟩ : MethodName)) 0 hown (wd hw 16 rfl) (wd hw 17 rfl) (wd hw 8 rfl) (wd hw 18 rfl) (by decide) (rmMI l Z a0 hw [] (1 : Int32) (1 : Int32) (1 : Int32) hj3 n0 Zs (by decide)) (by decide) (by decide) (by rw [hml]; rfl) pd_3 rfl (argsL := [(.int 1), (.int 1)]) (rest := []) rfl rfl (Nat.le_of_eq rfl) (hb hby d3_68) ej3 (by decide) (by decide) (pc' := 71) rfl ?_
      intro T23 rv23 L23 X23 hQ23
      obtain ⟨rfl, Nq23, eh23⟩ := hQ23
      have NF23 := Fr.app NFj3 Nq23
      show G (T23.setTop (mkF m 71 _ [(.int 1)]))
      refine g_istore hG X23 hx (hb hby d3_71) (pc' := 73) rfl (Ls' := #[.val (.ref a), .val (.long lim), .second, .val (.ref ids), .val (.int 1), .val (.int 1), .val (.int 0), .val (.int 1)]) rfl ?_
      refine g_aloadN hG X23 hx (hb hby d3_73) (pc' := 74) rfl rfl rfl ?_
      refine g_iload hG X23 hx (hb hby d3_74) (pc' := 76) rfl rfl ?_
      refine g_aloadN hG X23 hx (hb hby d3_76) (pc' := 77) rfl rfl rfl ?_
      refine g_iload hG X23 hx (hb hby d3_77) (pc' := 79) rfl rfl ?_
      refine g_iconst hG X23 hx (hb hby d3_79) (pc' := 80) rfl (v := (1 : Int32)) rfl ?_
      refine g_iadd hG X23 hx (hb hby d3_80) (pc' := 81) rfl (v := (1 : Int32)) (by decide) ?_
      refine g_iload hG X23 hx (hb hby d3_81) (pc' := 83) rfl rfl ?_
      refine g_iload hG X23 hx (hb hby d3_83) (pc' := 85) rfl rfl ?_
      refine g_isub hG X23 hx (hb hby d3_85) (pc' := 86) rfl (v := (1 : Int32)) (by decide) ?_
      refine g_copy hG X23 hx hZ hown (wd hw 19 rfl) (wd hw 22 rfl) (wd hw 20 rfl) (wd hw 21 rfl) eh23 V_ids V_ids rfl (by decide) (by decide) (by decide) (by decide) (by decide) (vr := [(.int p0), (.int p0)]) rfl NF23 ge_ids (by rw [hml]; rfl) (hb hby d3_86) (by decide) 0 (Nat.le_of_eq rfl) (by decide) (pc' := 89) rfl ?_
      intro T24 h24 L24 X24 e24 NF24 Kq24 Vn24
      have V_ids := Vn24
      have V_a := V_a.keep Kq24 (ninS ne_a_ids nin0)
      have Zs := Nat.le_trans Zs Kq24.1
      have K24 := Kj3.trans Kq24 (allS (Or.inr sz_ids) all0)
      show G (T24.setTop (mkF m 89 _ []))
      refine g_aloadN hG X24 hx (hb hby d3_89) (pc' := 90) rfl rfl rfl ?_
      refine g_iload hG X24 hx (hb hby d3_90) (pc' := 92) rfl rfl ?_
      refine g_iload hG X24 hx (hb hby d3_92) (pc' := 94) rfl rfl ?_
      refine g_iastore hG X24 hx hZ e24 V_ids (j := (0 : Int32)) (by decide) (show Int32.toNatClampNeg (0 : Int32) < 2 by decide) (hb hby d3_94) (pc' := 95) rfl ?_
      intro T25 h25 X25 e25 W25 Vn25
      have V_ids : AV Z h25 ids .int (2 : Int32) [(.int 1), (.int p0)] := Vn25
      have V_a := V_a.other W25 ne_a_ids
      have Zs := Nat.le_trans Zs (Wr.size W25)
      have NF25 := Fr.snoc X25 NF24 ge_ids
      have K25 := K24.wr W25 (Or.inr sz_ids)
      refine g_iload hG X25 hx (hb hby d3_95) (pc' := 97) rfl rfl ?_
      refine g_iconst hG X25 hx (hb hby d3_97) (pc' := 98) rfl (v := (1 : Int32)) rfl ?_
      refine g_iadd hG X25 hx (hb hby d3_98) (pc' := 99) rfl (v := (2 : Int32)) (by decide) ?_
      refine g_aloadN hG X25 hx (hb hby d3_99) (pc' := 100) rfl rfl rfl ?_
      refine g_arraylength hG X25 hx hZ e25 V_ids (hb hby d3_100) (pc' := 101) rfl ?_
      refine g_callS hG X25 hx hZ (y := (⟨"java/lang/Math", "min", "(II)I"⟩ : MethodName)) 0 hown (wd hw 16 rfl) (wd hw 17 rfl) (wd hw 8 rfl) (wd hw 18 rfl) (by decide) (rmMI l Z a0 hw [] (2 : Int32) (2 : Int32) (2 : Int32) h25 n0 Zs (by decide)) (by decide) (by decide) (by rw [hml]; rfl) pd_3 rfl (argsL := [(.int 2), (.int 2)]) (rest := []) rfl rfl (Nat.le_of_eq rfl) (hb hby d3_101) e25 (by decide) (by decide) (pc' := 104) rfl ?_
      intro T26 rv26 L26 X26 hQ26
      obtain ⟨rfl, Nq26, eh26⟩ := hQ26
      have NF26 := Fr.app NF25 Nq26
      show G (T26.setTop (mkF m 104 _ [(.int 2)]))
      refine g_istore hG X26 hx (hb hby d3_104) (pc' := 106) rfl (Ls' := #[.val (.ref a), .val (.long lim), .second, .val (.ref ids), .val (.int 2), .val (.int 1), .val (.int 0), .val (.int 1)]) rfl ?_
      refine g_iinc hG X26 hx (hb hby d3_106) (pc' := 109) rfl rfl (v := (2 : Int32)) (by decide) (Ls' := #[.val (.ref a), .val (.long lim), .second, .val (.ref ids), .val (.int 2), .val (.int 2), .val (.int 0), .val (.int 1)]) rfl ?_
      refine g_goto hG X26 hx (hb hby d3_109) (pc' := 17) (by decide) (by decide) ?_
      exact J2 _ _ _ (1 : Int32) p0 (0 : Int32) (1 : Int32) X26 eh26 NF26 Zs K25 V_a V_ids (st_1_1_2_0 b01 b02 b03 b12 b13 b23 p0 TR HT1 g1_0)
    · skip
      refine g_ifYes hG Xj3 hx (hb hby d3_46) (pc' := 55) (by rcases gt_no (BT (1 : Int32) p0 (by decide) (in4_of bp0.1 (by omega))) g1_0 with z | z <;> rw [← q45, z] <;> rfl) (by decide) (by decide) ?_
      refine g_iload hG Xj3 hx (hb hby d3_55) (pc' := 57) rfl rfl ?_
      refine g_aloadN hG Xj3 hx (hb hby d3_57) (pc' := 58) rfl rfl rfl ?_
      refine g_arraylength hG Xj3 hx hZ ej3 V_ids (hb hby d3_58) (pc' := 59) rfl ?_
      refine g_icmpNo hG Xj3 hx (hb hby d3_59) (pc' := 62) (by decide) rfl ?_
      refine g_iload hG Xj3 hx (hb hby d3_62) (pc' := 64) rfl rfl ?_
      refine g_aloadN hG Xj3 hx (hb hby d3_64) (pc' := 65) rfl rfl rfl ?_
      refine g_arraylength hG Xj3 hx hZ ej3 V_ids (hb hby d3_65) (pc' := 66) rfl ?_
      refine g_iconst hG Xj3 hx (hb hby d3_66) (pc' := 67) rfl (v := (1 : Int32)) rfl ?_
      refine g_isub hG Xj3 hx (hb hby d3_67) (pc' := 68) rfl (v := (1 : Int32)) (by decide) ?_
      refine g_callS hG Xj3 hx hZ (y := (⟨"java/lang/Math", "min", "(II)I"⟩ : MethodName)) 0 hown (wd hw 16 rfl) (wd hw 17 rfl) (wd hw 8 rfl) (wd hw 18 rfl) (by decide) (rmMI l Z a0 hw [] (1 : Int32) (1 : Int32) (1 : Int32) hj3 n0 Zs (by decide)) (by decide) (by decide) (by rw [hml]; rfl) pd_3 rfl (argsL := [(.int 1), (.int 1)]) (rest := []) rfl rfl (Nat.le_of_eq rfl) (hb hby d3_68) ej3 (by decide) (by decide) (pc' := 71) rfl ?_
      intro T27 rv27 L27 X27 hQ27
      obtain ⟨rfl, Nq27, eh27⟩ := hQ27
      have NF27 := Fr.app NFj3 Nq27
      show G (T27.setTop (mkF m 71 _ [(.int 1)]))
      refine g_istore hG X27 hx (hb hby d3_71) (pc' := 73) rfl (Ls' := #[.val (.ref a), .val (.long lim), .second, .val (.ref ids), .val (.int 1), .val (.int 1), .val (.int 1), .val (.int 1)]) rfl ?_
      refine g_aloadN hG X27 hx (hb hby d3_73) (pc' := 74) rfl rfl rfl ?_
      refine g_iload hG X27 hx (hb hby d3_74) (pc' := 76) rfl rfl ?_
      refine g_aloadN hG X27 hx (hb hby d3_76) (pc' := 77) rfl rfl rfl ?_
      refine g_iload hG X27 hx (hb hby d3_77) (pc' := 79) rfl rfl ?_
      refine g_iconst hG X27 hx (hb hby d3_79) (pc' := 80) rfl (v := (1 : Int32)) rfl ?_
      refine g_iadd hG X27 hx (hb hby d3_80) (pc' := 81) rfl (v := (2 : Int32)) (by decide) ?_
      refine g_iload hG X27 hx (hb hby d3_81) (pc' := 83) rfl rfl ?_
      refine g_iload hG X27 hx (hb hby d3_83) (pc' := 85) rfl rfl ?_
      refine g_isub hG X27 hx (hb hby d3_85) (pc' := 86) rfl (v := (0 : Int32)) (by decide) ?_
      refine g_copy hG X27 hx hZ hown (wd hw 19 rfl) (wd hw 22 rfl) (wd hw 20 rfl) (wd hw 21 rfl) eh27 V_ids V_ids rfl (by decide) (by decide) (by decide) (by decide) (by decide) (vr := [(.int p0), (.int 0)]) rfl NF27 ge_ids (by rw [hml]; rfl) (hb hby d3_86) (by decide) 0 (Nat.le_of_eq rfl) (by decide) (pc' := 89) rfl ?_
      intro T28 h28 L28 X28 e28 NF28 Kq28 Vn28
      have V_ids := Vn28
      have V_a := V_a.keep Kq28 (ninS ne_a_ids nin0)
      have Zs := Nat.le_trans Zs Kq28.1
      have K28 := Kj3.trans Kq28 (allS (Or.inr sz_ids) all0)
      show G (T28.setTop (mkF m 89 _ []))
      refine g_aloadN hG X28 hx (hb hby d3_89) (pc' := 90) rfl rfl rfl ?_
      refine g_iload hG X28 hx (hb hby d3_90) (pc' := 92) rfl rfl ?_
      refine g_iload hG X28 hx (hb hby d3_92) (pc' := 94) rfl rfl ?_
      refine g_iastore hG X28 hx hZ e28 V_ids (j := (1 : Int32)) (by decide) (show Int32.toNatClampNeg (1 : Int32) < 2 by decide) (hb hby d3_94) (pc' := 95) rfl ?_
      intro T29 h29 X29 e29 W29 Vn29
      have V_ids : AV Z h29 ids .int (2 : Int32) [(.int p0), (.int 1)] := Vn29
      have V_a := V_a.other W29 ne_a_ids
      have Zs := Nat.le_trans Zs (Wr.size W29)
      have NF29 := Fr.snoc X29 NF28 ge_ids
      have K29 := K28.wr W29 (Or.inr sz_ids)
      refine g_iload hG X29 hx (hb hby d3_95) (pc' := 97) rfl rfl ?_
      refine g_iconst hG X29 hx (hb hby d3_97) (pc' := 98) rfl (v := (1 : Int32)) rfl ?_
      refine g_iadd hG X29 hx (hb hby d3_98) (pc' := 99) rfl (v := (2 : Int32)) (by decide) ?_
      refine g_aloadN hG X29 hx (hb hby d3_99) (pc' := 100) rfl rfl rfl ?_
      refine g_arraylength hG X29 hx hZ e29 V_ids (hb hby d3_100) (pc' := 101) rfl ?_
      refine g_callS hG X29 hx hZ (y := (⟨"java/lang/Math", "min", "(II)I"⟩ : MethodName)) 0 hown (wd hw 16 rfl) (wd hw 17 rfl) (wd hw 8 rfl) (wd hw 18 rfl) (by decide) (rmMI l Z a0 hw [] (2 : Int32) (2 : Int32) (2 : Int32) h29 n0 Zs (by decide)) (by decide) (by decide) (by rw [hml]; rfl) pd_3 rfl (argsL := [(.int 2), (.int 2)]) (rest := []) rfl rfl (Nat.le_of_eq rfl) (hb hby d3_101) e29 (by decide) (by decide) (pc' := 104) rfl ?_
      intro T30 rv30 L30 X30 hQ30
      obtain ⟨rfl, Nq30, eh30⟩ := hQ30
      have NF30 := Fr.app NF29 Nq30
      show G (T30.setTop (mkF m 104 _ [(.int 2)]))
      refine g_istore hG X30 hx (hb hby d3_104) (pc' := 106) rfl (Ls' := #[.val (.ref a), .val (.long lim), .second, .val (.ref ids), .val (.int 2), .val (.int 1), .val (.int 1), .val (.int 1)]) rfl ?_
      refine g_iinc hG X30 hx (hb hby d3_106) (pc' := 109) rfl rfl (v := (2 : Int32)) (by decide) (Ls' := #[.val (.ref a), .val (.long lim), .second, .val (.ref ids), .val (.int 2), .val (.int 2), .val (.int 1), .val (.int 1)]) rfl ?_
      refine g_goto hG X30 hx (hb hby d3_109) (pc' := 17) (by decide) (by decide) ?_
      exact J2 _ _ _ p0 (1 : Int32) (1 : Int32) (1 : Int32) X30 eh30 NF30 Zs K29 V_a V_ids (st_1_1_2_1 b01 b02 b03 b12 b13 b23 p0 TR HT1 g1_0)
  refine g_iload hG X2 hx (hb hby d3_17) (pc' := 19) rfl rfl ?_
  refine g_aloadN hG X2 hx (hb hby d3_19) (pc' := 20) rfl rfl rfl ?_
  refine g_arraylength hG X2 hx hZ e2 V_a (hb hby d3_20) (pc' := 21) rfl ?_
  refine g_icmpNo hG X2 hx (hb hby d3_21) (pc' := 24) (by decide) rfl ?_
  refine g_iload hG X2 hx (hb hby d3_24) (pc' := 26) rfl rfl ?_
  refine g_istore hG X2 hx (hb hby d3_26) (pc' := 28) rfl (Ls' := #[.val (.ref a), .val (.long lim), .second, .val (.ref ids), .val (.int 0), .val (.int 0), .val (.int 0), .unset]) rfl ?_
  refine g_iload hG X2 hx (hb hby d3_28) (pc' := 30) rfl rfl ?_
  refine g_ifYes hG X2 hx (hb hby d3_30) (pc' := 55) (by decide) (by decide) (by decide) ?_
  refine g_iload hG X2 hx (hb hby d3_55) (pc' := 57) rfl rfl ?_
  refine g_aloadN hG X2 hx (hb hby d3_57) (pc' := 58) rfl rfl rfl ?_
  refine g_arraylength hG X2 hx hZ e2 V_ids (hb hby d3_58) (pc' := 59) rfl ?_
  refine g_icmpNo hG X2 hx (hb hby d3_59) (pc' := 62) (by decide) rfl ?_
  refine g_iload hG X2 hx (hb hby d3_62) (pc' := 64) rfl rfl ?_
  refine g_aloadN hG X2 hx (hb hby d3_64) (pc' := 65) rfl rfl rfl ?_
  refine g_arraylength hG X2 hx hZ e2 V_ids (hb hby d3_65) (pc' := 66) rfl ?_
  refine g_iconst hG X2 hx (hb hby d3_66) (pc' := 67) rfl (v := (1 : Int32)) rfl ?_
  refine g_isub hG X2 hx (hb hby d3_67) (pc' := 68) rfl (v := (1 : Int32)) (by decide) ?_
  refine g_callS hG X2 hx hZ (y := (⟨"java/lang/Math", "min", "(II)I"⟩ : MethodName)) 0 hown (wd hw 16 rfl) (wd hw 17 rfl) (wd hw 8 rfl) (wd hw 18 rfl) (by decide) (rmMI l Z a0 hw [] (0 : Int32) (1 : Int32) (0 : Int32) h2 n0 Zs (by decide)) (by decide) (by decide) (by rw [hml]; rfl) pd_3 rfl (argsL := [(.int 0), (.int 1)]) (rest := []) rfl rfl (Nat.le_of_eq rfl) (hb hby d3_68) e2 (by decide) (by decide) (pc' := 71) rfl ?_
  intro T31 rv31 L31 X31 hQ31
  obtain ⟨rfl, Nq31, eh31⟩ := hQ31
  have NF31 := Fr.app NF1 Nq31
  show G (T31.setTop (mkF m 71 _ [(.int 0)]))
  refine g_istore hG X31 hx (hb hby d3_71) (pc' := 73) rfl (Ls' := #[.val (.ref a), .val (.long lim), .second, .val (.ref ids), .val (.int 0), .val (.int 0), .val (.int 0), .val (.int 0)]) rfl ?_
  refine g_aloadN hG X31 hx (hb hby d3_73) (pc' := 74) rfl rfl rfl ?_
  refine g_iload hG X31 hx (hb hby d3_74) (pc' := 76) rfl rfl ?_
  refine g_aloadN hG X31 hx (hb hby d3_76) (pc' := 77) rfl rfl rfl ?_
  refine g_iload hG X31 hx (hb hby d3_77) (pc' := 79) rfl rfl ?_
  refine g_iconst hG X31 hx (hb hby d3_79) (pc' := 80) rfl (v := (1 : Int32)) rfl ?_
  refine g_iadd hG X31 hx (hb hby d3_80) (pc' := 81) rfl (v := (1 : Int32)) (by decide) ?_
  refine g_iload hG X31 hx (hb hby d3_81) (pc' := 83) rfl rfl ?_
  refine g_iload hG X31 hx (hb hby d3_83) (pc' := 85) rfl rfl ?_
  refine g_isub hG X31 hx (hb hby d3_85) (pc' := 86) rfl (v := (0 : Int32)) (by decide) ?_
  refine g_copy hG X31 hx hZ hown (wd hw 19 rfl) (wd hw 22 rfl) (wd hw 20 rfl) (wd hw 21 rfl) eh31 V_ids V_ids rfl (by decide) (by decide) (by decide) (by decide) (by decide) (vr := [(.int 0), (.int 0)]) rfl NF31 ge_ids (by rw [hml]; rfl) (hb hby d3_86) (by decide) 0 (Nat.le_of_eq rfl) (by decide) (pc' := 89) rfl ?_
  intro T32 h32 L32 X32 e32 NF32 Kq32 Vn32
  have V_ids := Vn32
  have V_a := V_a.keep Kq32 (ninS ne_a_ids nin0)
  have Zs := Nat.le_trans Zs Kq32.1
  have K32 := K2.trans Kq32 (allS (Or.inr sz_ids) all0)
  show G (T32.setTop (mkF m 89 _ []))
  refine g_aloadN hG X32 hx (hb hby d3_89) (pc' := 90) rfl rfl rfl ?_
  refine g_iload hG X32 hx (hb hby d3_90) (pc' := 92) rfl rfl ?_
  refine g_iload hG X32 hx (hb hby d3_92) (pc' := 94) rfl rfl ?_
  refine g_iastore hG X32 hx hZ e32 V_ids (j := (0 : Int32)) (by decide) (show Int32.toNatClampNeg (0 : Int32) < 2 by decide) (hb hby d3_94) (pc' := 95) rfl ?_
  intro T33 h33 X33 e33 W33 Vn33
  have V_ids : AV Z h33 ids .int (2 : Int32) [(.int 0), (.int 0)] := Vn33
  have V_a := V_a.other W33 ne_a_ids
  have Zs := Nat.le_trans Zs (Wr.size W33)
  have NF33 := Fr.snoc X33 NF32 ge_ids
  have K33 := K32.wr W33 (Or.inr sz_ids)
  refine g_iload hG X33 hx (hb hby d3_95) (pc' := 97) rfl rfl ?_
  refine g_iconst hG X33 hx (hb hby d3_97) (pc' := 98) rfl (v := (1 : Int32)) rfl ?_
  refine g_iadd hG X33 hx (hb hby d3_98) (pc' := 99) rfl (v := (1 : Int32)) (by decide) ?_
  refine g_aloadN hG X33 hx (hb hby d3_99) (pc' := 100) rfl rfl rfl ?_
  refine g_arraylength hG X33 hx hZ e33 V_ids (hb hby d3_100) (pc' := 101) rfl ?_
  refine g_callS hG X33 hx hZ (y := (⟨"java/lang/Math", "min", "(II)I"⟩ : MethodName)) 0 hown (wd hw 16 rfl) (wd hw 17 rfl) (wd hw 8 rfl) (wd hw 18 rfl) (by decide) (rmMI l Z a0 hw [] (1 : Int32) (2 : Int32) (1 : Int32) h33 n0 Zs (by decide)) (by decide) (by decide) (by rw [hml]; rfl) pd_3 rfl (argsL := [(.int 1), (.int 2)]) (rest := []) rfl rfl (Nat.le_of_eq rfl) (hb hby d3_101) e33 (by decide) (by decide) (pc' := 104) rfl ?_
  intro T34 rv34 L34 X34 hQ34
  obtain ⟨rfl, Nq34, eh34⟩ := hQ34
  have NF34 := Fr.app NF33 Nq34
  show G (T34.setTop (mkF m 104 _ [(.int 1)]))
  refine g_istore hG X34 hx (hb hby d3_104) (pc' := 106) rfl (Ls' := #[.val (.ref a), .val (.long lim), .second, .val (.ref ids), .val (.int 1), .val (.int 0), .val (.int 0), .val (.int 0)]) rfl ?_
  refine g_iinc hG X34 hx (hb hby d3_106) (pc' := 109) rfl rfl (v := (1 : Int32)) (by decide) (Ls' := #[.val (.ref a), .val (.long lim), .second, .val (.ref ids), .val (.int 1), .val (.int 1), .val (.int 0), .val (.int 0)]) rfl ?_
  refine g_goto hG X34 hx (hb hby d3_109) (pc' := 17) (by decide) (by decide) ?_
  exact J1 _ _ _ (0 : Int32) (0 : Int32) (0 : Int32) X34 eh34 NF34 Zs K33 V_a V_ids (st_0_0_2_0 b01 b02 b03 b12 b13 b23  TR HT0 )

def Q_rmCk4_3_0 (Z : State) (a ids : Addr) (al : Int32 → UInt64) (bt : Int32 → Int32 → Bool) (p0 p1 p2 : Int32) (h0 : Heap) (n0 : Nat) (v : Option Value) (h : Heap) (L : List Loc) : Prop := v = some (.int 1) ∧ Fr n0 L ∧ h = h0
set_option maxRecDepth 65536 in
set_option maxHeartbeats 40000000 in
theorem rmCk4_3_0 (l : Launch) (Z : State) (a0 : Array Value) (hw : ∀ d ∈ tables_1, d.before a0 Z = true) (ws : List Jvm.Cond) (a ids : Addr) (al : Int32 → UInt64) (bt : Int32 → Int32 → Bool) (p0 p1 p2 : Int32) (h0 : Heap) (n0 : Nat) (Zs : n0 ≤ h0.size) (V_a : AV Z h0 a .double (4 : Int32) [(.double (al (0 : Int32))), (.double (al (1 : Int32))), (.double (al (2 : Int32))), (.double (al (3 : Int32)))]) (V_ids : AV Z h0 ids .int (3 : Int32) [(.int p0), (.int p1), (.int p2)]) (HT : tops bt 4 0 [p0, p1, p2] = true) (BT : ∀ x y, In4 x → In4 y → BtR al x y (bi bt x y)) :
    Con l (⟨"com/example/gauge_terms/gaugeterms/TopValuesPositionsPinLaw", "check", "([D[II)Z"⟩ : MethodName) method_5_code 4 (some .boolean) ws ({ frames := 2, cells := 0, slots := 0, locals := 56 } : Room) Z #[(.ref a), (.ref ids), (.int 0)] h0 ({ frames := 2, cells := 0, slots := 0, locals := 56 } : Room).cells ({ frames := 2, cells := 0, slots := 0, locals := 56 } : Room).slots (Q_rmCk4_3_0 Z a ids al bt p0 p1 p2 h0 n0) := by
  refine Con.of (Ls := #[.val (.ref a), .val (.ref ids), .val (.int 0), .unset]) (plainFor_of_name (by first | (simp [plainName, overriddenIn]; done) | decide +kernel)) (fun m => by first | (simp [entryFrame, mkF, argsToLocals, Value.category]; done) | rfl) ?_
  intro p e s m below meth c s₁ G hGe hG hx hby hml hown hnm hrt hlk hZ X0 e0
  have hown : s.vm.findClass "com/example/gauge_terms/gaugeterms/TopValuesPositionsPinLaw" = some m.cls := hown
  have hnm : meth.name = "check" := hnm
  have NF0 := Fr.nil n0
  have bj : 0 ≤ p0.toInt ∧ p0.toInt < 4 := tops_b HT p0 (by simp)
  have rj : rk4 bt p0 = (0 : Int32) := tops_r HT 0 p0 rfl
  refine g_iloadN hG X0 hx (hb hby d5_0) (pc' := 1) rfl rfl ?_
  refine g_aloadN hG X0 hx (hb hby d5_1) (pc' := 2) rfl rfl rfl ?_
  refine g_arraylength hG X0 hx hZ e0 V_ids (hb hby d5_2) (pc' := 3) rfl ?_
  refine g_icmpYes hG X0 hx (hb hby d5_3) (pc' := 8) (by decide) (by decide) (by decide) ?_
  refine g_aloadN hG X0 hx (hb hby d5_8) (pc' := 9) rfl rfl rfl ?_
  refine g_iloadN hG X0 hx (hb hby d5_9) (pc' := 10) rfl rfl ?_
  refine g_iaload hG X0 hx hZ e0 V_ids (j := (0 : Int32)) (v := (.int p0)) (by decide) rfl (hb hby d5_10) (pc' := 11) rfl ?_
  refine g_istoreN hG X0 hx (hb hby d5_11) (pc' := 12) rfl (Ls' := #[.val (.ref a), .val (.ref ids), .val (.int 0), .val (.int p0)]) rfl ?_
  refine g_iloadN hG X0 hx (hb hby d5_12) (pc' := 13) rfl rfl ?_
  refine g_ifNo hG X0 hx (hb hby d5_13) (pc' := 16) ((if0 _ _).trans (flt (nn_of bj.1)).1) rfl ?_
  refine g_iloadN hG X0 hx (hb hby d5_16) (pc' := 17) rfl rfl ?_
  refine g_aloadN hG X0 hx (hb hby d5_17) (pc' := 18) rfl rfl rfl ?_
  refine g_arraylength hG X0 hx hZ e0 V_a (hb hby d5_18) (pc' := 19) rfl ?_
  refine g_icmpYes hG X0 hx (hb hby d5_19) (pc' := 24) ((tlt (Int32.lt_iff_toInt_lt.mpr (by rw [show (4 : Int32).toInt = 4 by decide]; exact bj.2))).1) (by decide) (by decide) ?_
  refine g_aloadN hG X0 hx (hb hby d5_24) (pc' := 25) rfl rfl rfl ?_
  refine g_iloadN hG X0 hx (hb hby d5_25) (pc' := 26) rfl rfl ?_
  refine g_callS hG X0 hx hZ (y := (⟨"com/example/gauge_terms/gaugeterms/TopValuesPositionsPinLaw", "rank", "([DI)I"⟩ : MethodName)) 0 hown (wd hw 26 rfl) (wd hw 27 rfl) (wd hw 3 rfl) (wd hw 28 rfl) (by decide) (rmRk4 l Z a0 hw [] a al bt p0 (0 : Int32) h0 n0 Zs V_a bj BT rj) (by decide) (by decide) (by rw [hml]; rfl) pd_2 rfl (argsL := [(.ref a), (.int p0)]) (rest := []) rfl rfl (Nat.le_of_eq rfl) (hb hby d5_26) e0 (by decide) (by decide) (pc' := 29) rfl ?_
  intro T1 rv1 L1 X1 hQ1
  obtain ⟨rfl, Nq1, eh1⟩ := hQ1
  have NF1 := Fr.app NF0 Nq1
  show G (T1.setTop (mkF m 29 _ [(.int 0)]))
  refine g_iloadN hG X1 hx (hb hby d5_29) (pc' := 30) rfl rfl ?_
  refine g_icmpNo hG X1 hx (hb hby d5_30) (pc' := 33) (by decide) rfl ?_
  refine g_iconst hG X1 hx (hb hby d5_33) (pc' := 34) rfl (v := (1 : Int32)) rfl ?_
  refine g_goto hG X1 hx (hb hby d5_34) (pc' := 38) (by decide) (by decide) ?_
  exact e_retZ hGe X1 hx hrt hlk (hb hby d5_38) (Or.inr rfl) eh1 (by decide) (by decide) (⟨rfl, NF1, rfl⟩)

def Q_rmCk4_3_1 (Z : State) (a ids : Addr) (al : Int32 → UInt64) (bt : Int32 → Int32 → Bool) (p0 p1 p2 : Int32) (h0 : Heap) (n0 : Nat) (v : Option Value) (h : Heap) (L : List Loc) : Prop := v = some (.int 1) ∧ Fr n0 L ∧ h = h0
set_option maxRecDepth 65536 in
set_option maxHeartbeats 40000000 in
theorem rmCk4_3_1 (l : Launch) (Z : State) (a0 : Array Value) (hw : ∀ d ∈ tables_1, d.before a0 Z = true) (ws : List Jvm.Cond) (a ids : Addr) (al : Int32 → UInt64) (bt : Int32 → Int32 → Bool) (p0 p1 p2 : Int32) (h0 : Heap) (n0 : Nat) (Zs : n0 ≤ h0.size) (V_a : AV Z h0 a .double (4 : Int32) [(.double (al (0 : Int32))), (.double (al (1 : Int32))), (.double (al (2 : Int32))), (.double (al (3 : Int32)))]) (V_ids : AV Z h0 ids .int (3 : Int32) [(.int p0), (.int p1), (.int p2)]) (HT : tops bt 4 0 [p0, p1, p2] = true) (BT : ∀ x y, In4 x → In4 y → BtR al x y (bi bt x y)) :
    Con l (⟨"com/example/gauge_terms/gaugeterms/TopValuesPositionsPinLaw", "check", "([D[II)Z"⟩ : MethodName) method_5_code 4 (some .boolean) ws ({ frames := 2, cells := 0, slots := 0, locals := 56 } : Room) Z #[(.ref a), (.ref ids), (.int 1)] h0 ({ frames := 2, cells := 0, slots := 0, locals := 56 } : Room).cells ({ frames := 2, cells := 0, slots := 0, locals := 56 } : Room).slots (Q_rmCk4_3_1 Z a ids al bt p0 p1 p2 h0 n0) := by
  refine Con.of (Ls := #[.val (.ref a), .val (.ref ids), .val (.int 1), .unset]) (plainFor_of_name (by first | (simp [plainName, overriddenIn]; done) | decide +kernel)) (fun m => by first | (simp [entryFrame, mkF, argsToLocals, Value.category]; done) | rfl) ?_
  intro p e s m below meth c s₁ G hGe hG hx hby hml hown hnm hrt hlk hZ X0 e0
  have hown : s.vm.findClass "com/example/gauge_terms/gaugeterms/TopValuesPositionsPinLaw" = some m.cls := hown
  have hnm : meth.name = "check" := hnm
  have NF0 := Fr.nil n0
  have bj : 0 ≤ p1.toInt ∧ p1.toInt < 4 := tops_b HT p1 (by simp)
  have rj : rk4 bt p1 = (1 : Int32) := tops_r HT 1 p1 rfl
  refine g_iloadN hG X0 hx (hb hby d5_0) (pc' := 1) rfl rfl ?_
  refine g_aloadN hG X0 hx (hb hby d5_1) (pc' := 2) rfl rfl rfl ?_
  refine g_arraylength hG X0 hx hZ e0 V_ids (hb hby d5_2) (pc' := 3) rfl ?_
  refine g_icmpYes hG X0 hx (hb hby d5_3) (pc' := 8) (by decide) (by decide) (by decide) ?_
  refine g_aloadN hG X0 hx (hb hby d5_8) (pc' := 9) rfl rfl rfl ?_
  refine g_iloadN hG X0 hx (hb hby d5_9) (pc' := 10) rfl rfl ?_
  refine g_iaload hG X0 hx hZ e0 V_ids (j := (1 : Int32)) (v := (.int p1)) (by decide) rfl (hb hby d5_10) (pc' := 11) rfl ?_
  refine g_istoreN hG X0 hx (hb hby d5_11) (pc' := 12) rfl (Ls' := #[.val (.ref a), .val (.ref ids), .val (.int 1), .val (.int p1)]) rfl ?_
  refine g_iloadN hG X0 hx (hb hby d5_12) (pc' := 13) rfl rfl ?_
  refine g_ifNo hG X0 hx (hb hby d5_13) (pc' := 16) ((if0 _ _).trans (flt (nn_of bj.1)).1) rfl ?_
  refine g_iloadN hG X0 hx (hb hby d5_16) (pc' := 17) rfl rfl ?_
  refine g_aloadN hG X0 hx (hb hby d5_17) (pc' := 18) rfl rfl rfl ?_
  refine g_arraylength hG X0 hx hZ e0 V_a (hb hby d5_18) (pc' := 19) rfl ?_
  refine g_icmpYes hG X0 hx (hb hby d5_19) (pc' := 24) ((tlt (Int32.lt_iff_toInt_lt.mpr (by rw [show (4 : Int32).toInt = 4 by decide]; exact bj.2))).1) (by decide) (by decide) ?_
  refine g_aloadN hG X0 hx (hb hby d5_24) (pc' := 25) rfl rfl rfl ?_
  refine g_iloadN hG X0 hx (hb hby d5_25) (pc' := 26) rfl rfl ?_
  refine g_callS hG X0 hx hZ (y := (⟨"com/example/gauge_terms/gaugeterms/TopValuesPositionsPinLaw", "rank", "([DI)I"⟩ : MethodName)) 0 hown (wd hw 26 rfl) (wd hw 27 rfl) (wd hw 3 rfl) (wd hw 28 rfl) (by decide) (rmRk4 l Z a0 hw [] a al bt p1 (1 : Int32) h0 n0 Zs V_a bj BT rj) (by decide) (by decide) (by rw [hml]; rfl) pd_2 rfl (argsL := [(.ref a), (.int p1)]) (rest := []) rfl rfl (Nat.le_of_eq rfl) (hb hby d5_26) e0 (by decide) (by decide) (pc' := 29) rfl ?_
  intro T1 rv1 L1 X1 hQ1
  obtain ⟨rfl, Nq1, eh1⟩ := hQ1
  have NF1 := Fr.app NF0 Nq1
  show G (T1.setTop (mkF m 29 _ [(.int 1)]))
  refine g_iloadN hG X1 hx (hb hby d5_29) (pc' := 30) rfl rfl ?_
  refine g_icmpNo hG X1 hx (hb hby d5_30) (pc' := 33) (by decide) rfl ?_
  refine g_iconst hG X1 hx (hb hby d5_33) (pc' := 34) rfl (v := (1 : Int32)) rfl ?_
  refine g_goto hG X1 hx (hb hby d5_34) (pc' := 38) (by decide) (by decide) ?_
  exact e_retZ hGe X1 hx hrt hlk (hb hby d5_38) (Or.inr rfl) eh1 (by decide) (by decide) (⟨rfl, NF1, rfl⟩)

def Q_rmCk4_3_2 (Z : State) (a ids : Addr) (al : Int32 → UInt64) (bt : Int32 → Int32 → Bool) (p0 p1 p2 : Int32) (h0 : Heap) (n0 : Nat) (v : Option Value) (h : Heap) (L : List Loc) : Prop := v = some (.int 1) ∧ Fr n0 L ∧ h = h0
set_option maxRecDepth 65536 in
set_option maxHeartbeats 40000000 in
theorem rmCk4_3_2 (l : Launch) (Z : State) (a0 : Array Value) (hw : ∀ d ∈ tables_1, d.before a0 Z = true) (ws : List Jvm.Cond) (a ids : Addr) (al : Int32 → UInt64) (bt : Int32 → Int32 → Bool) (p0 p1 p2 : Int32) (h0 : Heap) (n0 : Nat) (Zs : n0 ≤ h0.size) (V_a : AV Z h0 a .double (4 : Int32) [(.double (al (0 : Int32))), (.double (al (1 : Int32))), (.double (al (2 : Int32))), (.double (al (3 : Int32)))]) (V_ids : AV Z h0 ids .int (3 : Int32) [(.int p0), (.int p1), (.int p2)]) (HT : tops bt 4 0 [p0, p1, p2] = true) (BT : ∀ x y, In4 x → In4 y → BtR al x y (bi bt x y)) :
    Con l (⟨"com/example/gauge_terms/gaugeterms/TopValuesPositionsPinLaw", "check", "([D[II)Z"⟩ : MethodName) method_5_code 4 (some .boolean) ws ({ frames := 2, cells := 0, slots := 0, locals := 56 } : Room) Z #[(.ref a), (.ref ids), (.int 2)] h0 ({ frames := 2, cells := 0, slots := 0, locals := 56 } : Room).cells ({ frames := 2, cells := 0, slots := 0, locals := 56 } : Room).slots (Q_rmCk4_3_2 Z a ids al bt p0 p1 p2 h0 n0) := by
  refine Con.of (Ls := #[.val (.ref a), .val (.ref ids), .val (.int 2), .unset]) (plainFor_of_name (by first | (simp [plainName, overriddenIn]; done) | decide +kernel)) (fun m => by first | (simp [entryFrame, mkF, argsToLocals, Value.category]; done) | rfl) ?_
  intro p e s m below meth c s₁ G hGe hG hx hby hml hown hnm hrt hlk hZ X0 e0
  have hown : s.vm.findClass "com/example/gauge_terms/gaugeterms/TopValuesPositionsPinLaw" = some m.cls := hown
  have hnm : meth.name = "check" := hnm
  have NF0 := Fr.nil n0
  have bj : 0 ≤ p2.toInt ∧ p2.toInt < 4 := tops_b HT p2 (by simp)
  have rj : rk4 bt p2 = (2 : Int32) := tops_r HT 2 p2 rfl
  refine g_iloadN hG X0 hx (hb hby d5_0) (pc' := 1) rfl rfl ?_
  refine g_aloadN hG X0 hx (hb hby d5_1) (pc' := 2) rfl rfl rfl ?_
  refine g_arraylength hG X0 hx hZ e0 V_ids (hb hby d5_2) (pc' := 3) rfl ?_
  refine g_icmpYes hG X0 hx (hb hby d5_3) (pc' := 8) (by decide) (by decide) (by decide) ?_
  refine g_aloadN hG X0 hx (hb hby d5_8) (pc' := 9) rfl rfl rfl ?_
  refine g_iloadN hG X0 hx (hb hby d5_9) (pc' := 10) rfl rfl ?_
  refine g_iaload hG X0 hx hZ e0 V_ids (j := (2 : Int32)) (v := (.int p2)) (by decide) rfl (hb hby d5_10) (pc' := 11) rfl ?_
  refine g_istoreN hG X0 hx (hb hby d5_11) (pc' := 12) rfl (Ls' := #[.val (.ref a), .val (.ref ids), .val (.int 2), .val (.int p2)]) rfl ?_
  refine g_iloadN hG X0 hx (hb hby d5_12) (pc' := 13) rfl rfl ?_
  refine g_ifNo hG X0 hx (hb hby d5_13) (pc' := 16) ((if0 _ _).trans (flt (nn_of bj.1)).1) rfl ?_
  refine g_iloadN hG X0 hx (hb hby d5_16) (pc' := 17) rfl rfl ?_
  refine g_aloadN hG X0 hx (hb hby d5_17) (pc' := 18) rfl rfl rfl ?_
  refine g_arraylength hG X0 hx hZ e0 V_a (hb hby d5_18) (pc' := 19) rfl ?_
  refine g_icmpYes hG X0 hx (hb hby d5_19) (pc' := 24) ((tlt (Int32.lt_iff_toInt_lt.mpr (by rw [show (4 : Int32).toInt = 4 by decide]; exact bj.2))).1) (by decide) (by decide) ?_
  refine g_aloadN hG X0 hx (hb hby d5_24) (pc' := 25) rfl rfl rfl ?_
  refine g_iloadN hG X0 hx (hb hby d5_25) (pc' := 26) rfl rfl ?_
  refine g_callS hG X0 hx hZ (y := (⟨"com/example/gauge_terms/gaugeterms/TopValuesPositionsPinLaw", "rank", "([DI)I"⟩ : MethodName)) 0 hown (wd hw 26 rfl) (wd hw 27 rfl) (wd hw 3 rfl) (wd hw 28 rfl) (by decide) (rmRk4 l Z a0 hw [] a al bt p2 (2 : Int32) h0 n0 Zs V_a bj BT rj) (by decide) (by decide) (by rw [hml]; rfl) pd_2 rfl (argsL := [(.ref a), (.int p2)]) (rest := []) rfl rfl (Nat.le_of_eq rfl) (hb hby d5_26) e0 (by decide) (by decide) (pc' := 29) rfl ?_
  intro T1 rv1 L1 X1 hQ1
  obtain ⟨rfl, Nq1, eh1⟩ := hQ1
  have NF1 := Fr.app NF0 Nq1
  show G (T1.setTop (mkF m 29 _ [(.int 2)]))
  refine g_iloadN hG X1 hx (hb hby d5_29) (pc' := 30) rfl rfl ?_
  refine g_icmpNo hG X1 hx (hb hby d5_30) (pc' := 33) (by decide) rfl ?_
  refine g_iconst hG X1 hx (hb hby d5_33) (pc' := 34) rfl (v := (1 : Int32)) rfl ?_
  refine g_goto hG X1 hx (hb hby d5_34) (pc' := 38) (by decide) (by decide) ?_
  exact e_retZ hGe X1 hx hrt hlk (hb hby d5_38) (Or.inr rfl) eh1 (by decide) (by decide) (⟨rfl, NF1, rfl⟩)

def Q_rmPos4_3 (Z : State) (a : Addr) (al : Int32 → UInt64) (b01 b02 b03 b12 b13 b23 : Bool) (lim r : Int64) (h0 : Heap) (n0 : Nat) (v : Option Value) (h : Heap) (L : List Loc) : Prop := ∃ (b : Addr) (p0 p1 p2 : Int32), v = some (.ref b) ∧ Fr n0 L ∧ Keep h0 h [] ∧ h0.size ≤ b ∧ (AV Z h b .int (3 : Int32) [(.int p0), (.int p1), (.int p2)]) ∧ tops (btB b01 b02 b03 b12 b13 b23) 4 0 [p0, p1, p2] = true
set_option maxRecDepth 65536 in
set_option maxHeartbeats 40000000 in
theorem rmPos4_3 (l : Launch) (Z : State) (a0 : Array Value) (hw : ∀ d ∈ tables_1, d.before a0 Z = true) (ws : List Jvm.Cond) (a : Addr) (al : Int32 → UInt64) (b01 b02 b03 b12 b13 b23 : Bool) (lim r : Int64) (h0 : Heap) (n0 : Nat) (Zs : n0 ≤ h0.size) (V_a : AV Z h0 a .double (4 : Int32) [(.double (al (0 : Int32))), (.double (al (1 : Int32))), (.double (al (2 : Int32))), (.double (al (3 : Int32)))]) (TR : trB b01 b02 b03 b12 b13 b23 = true) (BT : ∀ x y, In4 x → In4 y → BtR al x y (bi (btB b01 b02 b03 b12 b13 b23) x y)) (hm : (¬ (4 : Int32).toInt64 < lim ∧ r = lim) ∨ ((4 : Int32).toInt64 < lim ∧ r = (4 : Int32).toInt64)) (hk : r.toInt32 = (3 : Int32)) :
    Con l (⟨"com/example/gauge_terms/gaugeterms/TopValues", "positions", "([DJ)[I"⟩ : MethodName) prog_3_method_2_code 8 (some (.array .int)) ws ({ frames := 1, cells := 1, slots := 3, locals := 40 } : Room) Z #[(.ref a), (.long lim)] h0 ({ frames := 1, cells := 1, slots := 3, locals := 40 } : Room).cells ({ frames := 1, cells := 1, slots := 3, locals := 40 } : Room).slots (Q_rmPos4_3 Z a al b01 b02 b03 b12 b13 b23 lim r h0 n0) := by
  refine Con.of (Ls := #[.val (.ref a), .val (.long lim), .second, .unset, .unset, .unset, .unset, .unset]) (plainFor_of_name (by first | (simp [plainName, overriddenIn]; done) | decide +kernel)) (fun m => by first | (simp [entryFrame, mkF, argsToLocals, Value.category]; done) | rfl) ?_
  intro p e s m below meth c s₁ G hGe hG hx hby hml hown hnm hrt hlk hZ X0 e0
  have hown : s.vm.findClass "com/example/gauge_terms/gaugeterms/TopValues" = some m.cls := hown
  have hnm : meth.name = "positions" := hnm
  have NF0 := Fr.nil n0
  have K0 := Keep.refl h0 ([] : List Addr)
  have HT0 : tops (btB b01 b02 b03 b12 b13 b23) 0 0 [] = true := rfl
  refine g_lloadN hG X0 hx (hb hby d3_0) (pc' := 1) rfl rfl ?_
  refine g_aloadN hG X0 hx (hb hby d3_1) (pc' := 2) rfl rfl rfl ?_
  refine g_arraylength hG X0 hx hZ e0 V_a (hb hby d3_2) (pc' := 3) rfl ?_
  obtain ⟨v3, q3⟩ : ∃ zz : Int64, (4 : Int32).toInt64 = zz := ⟨_, rfl⟩
  refine g_i2l hG X0 hx (hb hby d3_3) (pc' := 4) rfl q3 ?_
  refine g_callS hG X0 hx hZ (y := (⟨"java/lang/Math", "min", "(JJ)J"⟩ : MethodName)) 0 hown (wd hw 14 rfl) (wd hw 7 rfl) (wd hw 8 rfl) (wd hw 9 rfl) (by decide) (rmMJ l Z a0 hw [] lim v3 r h0 n0 Zs (q3 ▸ hm)) (by decide) (by decide) (by rw [hml]; rfl) pd_0 rfl (argsL := [(.long lim), (.long v3)]) (rest := []) rfl rfl (Nat.le_of_eq rfl) (hb hby d3_4) e0 (by decide) (by decide) (pc' := 7) rfl ?_
  intro T1 rv1 L1 X1 hQ1
  obtain ⟨rfl, Nq1, eh1⟩ := hQ1
  have NF1 := Fr.app NF0 Nq1
  show G (T1.setTop (mkF m 7 _ [(.long r)]))
  refine g_l2i hG X1 hx (hb hby d3_7) (pc' := 8) rfl hk ?_
  refine g_newP hG X1 hx hZ (wd hw 15 rfl) eh1 (hb hby d3_8) (by decide) 3 (by decide) (by decide) (by decide) (by decide) (pc' := 10) rfl ?_
  intro T2 h2 ids kA2 gs2 X2 e2 E2 A2
  have ne_a_ids : a ≠ ids := Nat.ne_of_lt (gs2 ▸ V_a.lt)
  have ge_ids : n0 ≤ ids := gs2 ▸ Zs
  have sz_ids : h0.size ≤ ids := gs2 ▸ K0.1
  have Zs := Nat.le_trans Zs E2.1
  have V_a := V_a.ext E2
  have K2 := K0.ext E2
  have V_ids : AV Z h2 ids .int (3 : Int32) [(.int 0), (.int 0), (.int 0)] := AV.new A2
  refine g_astoreN hG X2 hx (hb hby d3_10) (pc' := 11) rfl rfl (Ls' := #[.val (.ref a), .val (.long lim), .second, .val (.ref ids), .unset, .unset, .unset, .unset]) rfl ?_
  refine g_iconst hG X2 hx (hb hby d3_11) (pc' := 12) rfl (v := (0 : Int32)) rfl ?_
  refine g_istore hG X2 hx (hb hby d3_12) (pc' := 14) rfl (Ls' := #[.val (.ref a), .val (.long lim), .second, .val (.ref ids), .val (.int 0), .unset, .unset, .unset]) rfl ?_
  refine g_iconst hG X2 hx (hb hby d3_14) (pc' := 15) rfl (v := (0 : Int32)) rfl ?_
  refine g_istore hG X2 hx (hb hby d3_15) (pc' := 17) rfl (Ls' := #[.val (.ref a), .val (.long lim), .second, .val (.ref ids), .val (.int 0), .val (.int 0), .unset, .unset]) rfl ?_
  have J1 : ∀ (Tj3 : State) (hj3 : Heap) (Lj3 : List Loc) (p0 : Int32) (w6 w7 : Int32), Stand p l e ({ frames := 1, cells := 1, slots := 3, locals := 40 } : Room) s m #[(.ref a), (.long lim)] below meth c Tj3 Lj3 1 3 → Tj3.heap = hj3 → Fr n0 Lj3 → n0 ≤ hj3.size → Keep h0 hj3 [] → AV Z hj3 a .double (4 : Int32) [(.double (al (0 : Int32))), (.double (al (1 : Int32))), (.double (al (2 : Int32))), (.double (al (3 : Int32)))] → AV Z hj3 ids .int (3 : Int32) [(.int p0), (.int 0), (.int 0)] → tops (btB b01 b02 b03 b12 b13 b23) 1 0 [p0] = true → G (Tj3.setTop (mkF m 17 #[.val (.ref a), .val (.long lim), .second, .val (.ref ids), .val (.int 1), .val (.int 1), .val (.int w6), .val (.int w7)] [])) := by
    intro Tj3 hj3 Lj3 p0 w6 w7 Xj3 ej3 NFj3 Zs Kj3 V_a V_ids HT1
    have bp0 : 0 ≤ p0.toInt ∧ p0.toInt < 1 := tops_b HT1 p0 (by simp)
    have J2 : ∀ (Tj4 : State) (hj4 : Heap) (Lj4 : List Loc) (p0 p1 : Int32) (w6 w7 : Int32), Stand p l e ({ frames := 1, cells := 1, slots := 3, locals := 40 } : Room) s m #[(.ref a), (.long lim)] below meth c Tj4 Lj4 1 3 → Tj4.heap = hj4 → Fr n0 Lj4 → n0 ≤ hj4.size → Keep h0 hj4 [] → AV Z hj4 a .double (4 : Int32) [(.double (al (0 : Int32))), (.double (al (1 : Int32))), (.double (al (2 : Int32))), (.double (al (3 : Int32)))] → AV Z hj4 ids .int (3 : Int32) [(.int p0), (.int p1), (.int 0)] → tops (btB b01 b02 b03 b12 b13 b23) 2 0 [p0, p1] = true → G (Tj4.setTop (mkF m 17 #[.val (.ref a), .val (.long lim), .second, .val (.ref ids), .val (.int 2), .val (.int 2), .val (.int w6), .val (.int w7)] [])) := by
      intro Tj4 hj4 Lj4 p0 p1 w6 w7 Xj4 ej4 NFj4 Zs Kj4 V_a V_ids HT2
      have bp0 : 0 ≤ p0.toInt ∧ p0.toInt < 2 := tops_b HT2 p0 (by simp)
      have bp1 : 0 ≤ p1.toInt ∧ p1.toInt < 2 := tops_b HT2 p1 (by simp)
      have J3 : ∀ (Tj5 : State) (hj5 : Heap) (Lj5 : List Loc) (p0 p1 p2 : Int32) (w6 w7 : Int32), Stand p l e ({ frames := 1, cells := 1, slots := 3, locals := 40 } : Room) s m #[(.ref a), (.long lim)] below meth c Tj5 Lj5 1 3 → Tj5.heap = hj5 → Fr n0 Lj5 → n0 ≤ hj5.size → Keep h0 hj5 [] → AV Z hj5 a .double (4 : Int32) [(.double (al (0 : Int32))), (.double (al (1 : Int32))), (.double (al (2 : Int32))), (.double (al (3 : Int32)))] → AV Z hj5 ids .int (3 : Int32) [(.int p0), (.int p1), (.int p2)] → tops (btB b01 b02 b03 b12 b13 b23) 3 0 [p0, p1, p2] = true → G (Tj5.setTop (mkF m 17 #[.val (.ref a), .val (.long lim), .second, .val (.ref ids), .val (.int 3), .val (.int 3), .val (.int w6), .val (.int w7)] [])) := by
        intro Tj5 hj5 Lj5 p0 p1 p2 w6 w7 Xj5 ej5 NFj5 Zs Kj5 V_a V_ids HT3
        have bp0 : 0 ≤ p0.toInt ∧ p0.toInt < 3 := tops_b HT3 p0 (by simp)
        have bp1 : 0 ≤ p1.toInt ∧ p1.toInt < 3 := tops_b HT3 p1 (by simp)
        have bp2 : 0 ≤ p2.toInt ∧ p2.toInt < 3 := tops_b HT3 p2 (by simp)
        have J4 : ∀ (Tj6 : State) (hj6 : Heap) (Lj6 : List Loc) (p0 p1 p2 : Int32) (w6 w7 : Int32), Stand p l e ({ frames := 1, cells := 1, slots := 3, locals := 40 } : Room) s m #[(.ref a), (.long lim)] below meth c Tj6 Lj6 1 3 → Tj6.heap = hj6 → Fr n0 Lj6 → n0 ≤ hj6.size → Keep h0 hj6 [] → AV Z hj6 a .double (4 : Int32) [(.double (al (0 : Int32))), (.double (al (1 : Int32))), (.double (al (2 : Int32))), (.double (al (3 : Int32)))] → AV Z hj6 ids .int (3 : Int32) [(.int p0), (.int p1), (.int p2)] → tops (btB b01 b02 b03 b12 b13 b23) 4 0 [p0, p1, p2] = true → G (Tj6.setTop (mkF m 17 #[.val (.ref a), .val (.long lim), .second, .val (.ref ids), .val (.int 3), .val (.int 4), .val (.int w6), .val (.int w7)] [])) := by
          intro Tj6 hj6 Lj6 p0 p1 p2 w6 w7 Xj6 ej6 NFj6 Zs Kj6 V_a V_ids HT4
          have bp0 : 0 ≤ p0.toInt ∧ p0.toInt < 4 := tops_b HT4 p0 (by simp)
          have bp1 : 0 ≤ p1.toInt ∧ p1.toInt < 4 := tops_b HT4 p1 (by simp)
          have bp2 : 0 ≤ p2.toInt ∧ p2.toInt < 4 := tops_b HT4 p2 (by simp)
          refine g_iload hG Xj6 hx (hb hby d3_17) (pc' := 19) rfl rfl ?_
          refine g_aloadN hG Xj6 hx (hb hby d3_19) (pc' := 20) rfl rfl rfl ?_
          refine g_arraylength hG Xj6 hx hZ ej6 V_a (hb hby d3_20) (pc' := 21) rfl ?_
          refine g_icmpYes hG Xj6 hx (hb hby d3_21) (pc' := 112) (by decide) (by decide) (by decide) ?_
          refine g_aloadN hG Xj6 hx (hb hby d3_112) (pc' := 113) rfl rfl rfl ?_
          exact e_retA hGe Xj6 hx hrt rfl hlk (hb hby d3_113) ej6 (by decide) (by decide) (⟨ids, p0, p1, p2,  rfl, NFj6, Kj6, sz_ids, V_ids, HT4⟩)
        refine g_iload hG Xj5 hx (hb hby d3_17) (pc' := 19) rfl rfl ?_
        refine g_aloadN hG Xj5 hx (hb hby d3_19) (pc' := 20) rfl rfl rfl ?_
        refine g_arraylength hG Xj5 hx hZ ej5 V_a (hb hby d3_20) (pc' := 21) rfl ?_
        refine g_icmpNo hG Xj5 hx (hb hby d3_21) (pc' := 24) (by decide) rfl ?_
        refine g_iload hG Xj5 hx (hb hby d3_24) (pc' := 26) rfl rfl ?_
        refine g_istore hG Xj5 hx (hb hby d3_26) (pc' := 28) rfl (Ls' := #[.val (.ref a), .val (.long lim), .second, .val (.ref ids), .val (.int 3), .val (.int 3), .val (.int 3), .val (.int w7)]) rfl ?_
        refine g_iload hG Xj5 hx (hb hby d3_28) (pc' := 30) rfl rfl ?_
        refine g_ifNo hG Xj5 hx (hb hby d3_30) (pc' := 33) (by decide) rfl ?_
        refine g_aloadN hG Xj5 hx (hb hby d3_33) (pc' := 34) rfl rfl rfl ?_
        refine g_iload hG Xj5 hx (hb hby d3_34) (pc' := 36) rfl rfl ?_
        refine g_daload hG Xj5 hx hZ ej5 V_a (j := (3 : Int32)) (v := (.double (al (3 : Int32)))) (by decide) rfl (hb hby d3_36) (pc' := 37) rfl ?_
        refine g_aloadN hG Xj5 hx (hb hby d3_37) (pc' := 38) rfl rfl rfl ?_
        refine g_aloadN hG Xj5 hx (hb hby d3_38) (pc' := 39) rfl rfl rfl ?_
        refine g_iload hG Xj5 hx (hb hby d3_39) (pc' := 41) rfl rfl ?_
        refine g_iconst hG Xj5 hx (hb hby d3_41) (pc' := 42) rfl (v := (1 : Int32)) rfl ?_
        refine g_isub hG Xj5 hx (hb hby d3_42) (pc' := 43) rfl (v := (2 : Int32)) (by decide) ?_
        refine g_iaload hG Xj5 hx hZ ej5 V_ids (j := (2 : Int32)) (v := (.int p2)) (by decide) rfl (hb hby d3_43) (pc' := 44) rfl ?_
        refine g_daload hG Xj5 hx hZ ej5 V_a (j := p2) (v := (.double (al p2))) (nn_of bp2.1) (al_at4 (in4_of bp2.1 (by omega))) (hb hby d3_44) (pc' := 45) rfl ?_
        obtain ⟨v45, q45⟩ : ∃ zz : Int32, cmpValue (FP.dcmp (al (3 : Int32)) (al p2)) .l = zz := ⟨_, rfl⟩
        refine g_dcmp hG Xj5 hx (hb hby d3_45) (pc' := 46) rfl q45 ?_
        by_cases g3_2 : (btB b01 b02 b03 b12 b13 b23) (3 : Int32) p2 = true
        · skip
          refine g_ifNo hG Xj5 hx (hb hby d3_46) (pc' := 49) (by rw [← q45, gt_yes (BT (3 : Int32) p2 (by decide) (in4_of bp2.1 (by omega))) (fun g => by have := Int32.lt_iff_toInt_lt.mp g; rw [show (3 : Int32).toInt = 3 by decide] at this; omega) g3_2]; rfl) rfl ?_
          refine g_iinc hG Xj5 hx (hb hby d3_49) (pc' := 52) rfl rfl (v := (2 : Int32)) (by decide) (Ls' := #[.val (.ref a), .val (.long lim), .second, .val (.ref ids), .val (.int 3), .val (.int 3), .val (.int 2), .val (.int w7)]) rfl ?_
          refine g_goto hG Xj5 hx (hb hby d3_52) (pc' := 28) (by decide) (by decide) ?_
          refine g_iload hG Xj5 hx (hb hby d3_28) (pc' := 30) rfl rfl ?_
          refine g_ifNo hG Xj5 hx (hb hby d3_30) (pc' := 33) (by decide) rfl ?_
          refine g_aloadN hG Xj5 hx (hb hby d3_33) (pc' := 34) rfl rfl rfl ?_
          refine g_iload hG Xj5 hx (hb hby d3_34) (pc' := 36) rfl rfl ?_
          refine g_daload hG Xj5 hx hZ ej5 V_a (j := (3 : Int32)) (v := (.double (al (3 : Int32)))) (by decide) rfl (hb hby d3_36) (pc' := 37) rfl ?_
          refine g_aloadN hG Xj5 hx (hb hby d3_37) (pc' := 38) rfl rfl rfl ?_
          refine g_aloadN hG Xj5 hx (hb hby d3_38) (pc' := 39) rfl rfl rfl ?_
          refine g_iload hG Xj5 hx (hb hby d3_39) (pc' := 41) rfl rfl ?_
          refine g_iconst hG Xj5 hx (hb hby d3_41) (pc' := 42) rfl (v := (1 : Int32)) rfl ?_
          refine g_isub hG Xj5 hx (hb hby d3_42) (pc' := 43) rfl (v := (1 : Int32)) (by decide) ?_
          refine g_iaload hG Xj5 hx hZ ej5 V_ids (j := (1 : Int32)) (v := (.int p1)) (by decide) rfl (hb hby d3_43) (pc' := 44) rfl ?_
          refine g_daload hG Xj5 hx hZ ej5 V_a (j := p1) (v := (.double (al p1))) (nn_of bp1.1) (al_at4 (in4_of bp1.1 (by omega))) (hb hby d3_44) (pc' := 45) rfl ?_
          obtain ⟨v45_1, q45_1⟩ : ∃ zz : Int32, cmpValue (FP.dcmp (al (3 : Int32)) (al p1)) .l = zz := ⟨_, rfl⟩
          refine g_dcmp hG Xj5 hx (hb hby d3_45) (pc' := 46) rfl q45_1 ?_
          by_cases g3_1 : (btB b01 b02 b03 b12 b13 b23) (3 : Int32) p1 = true
          · skip
            refine g_ifNo hG Xj5 hx (hb hby d3_46) (pc' := 49) (by rw [← q45_1, gt_yes (BT (3 : Int32) p1 (by decide) (in4_of bp1.1 (by omega))) (fun g => by have := Int32.lt_iff_toInt_lt.mp g; rw [show (3 : Int32).toInt = 3 by decide] at this; omega) g3_1]; rfl) rfl ?_
            refine g_iinc hG Xj5 hx (hb hby d3_49) (pc' := 52) rfl rfl (v := (1 : Int32)) (by decide) (Ls' := #[.val (.ref a), .val (.long lim), .second, .val (.ref ids), .val (.int 3), .val (.int 3), .val (.int 1), .val (.int w7)]) rfl ?_
            refine g_goto hG Xj5 hx (hb hby d3_52) (pc' := 28) (by decide) (by decide) ?_
            refine g_iload hG Xj5 hx (hb hby d3_28) (pc' := 30) rfl rfl ?_
            refine g_ifNo hG Xj5 hx (hb hby d3_30) (pc' := 33) (by decide) rfl ?_
            refine g_aloadN hG Xj5 hx (hb hby d3_33) (pc' := 34) rfl rfl rfl ?_
            refine g_iload hG Xj5 hx (hb hby d3_34) (pc' := 36) rfl rfl ?_
            refine g_daload hG Xj5 hx hZ ej5 V_a (j := (3 : Int32)) (v := (.double (al (3 : Int32)))) (by decide) rfl (hb hby d3_36) (pc' := 37) rfl ?_
            refine g_aloadN hG Xj5 hx (hb hby d3_37) (pc' := 38) rfl rfl rfl ?_
            refine g_aloadN hG Xj5 hx (hb hby d3_38) (pc' := 39) rfl rfl rfl ?_
            refine g_iload hG Xj5 hx (hb hby d3_39) (pc' := 41) rfl rfl ?_
            refine g_iconst hG Xj5 hx (hb hby d3_41) (pc' := 42) rfl (v := (1 : Int32)) rfl ?_
            refine g_isub hG Xj5 hx (hb hby d3_42) (pc' := 43) rfl (v := (0 : Int32)) (by decide) ?_
            refine g_iaload hG Xj5 hx hZ ej5 V_ids (j := (0 : Int32)) (v := (.int p0)) (by decide) rfl (hb hby d3_43) (pc' := 44) rfl ?_
            refine g_daload hG Xj5 hx hZ ej5 V_a (j := p0) (v := (.double (al p0))) (nn_of bp0.1) (al_at4 (in4_of bp0.1 (by omega))) (hb hby d3_44) (pc' := 45) rfl ?_
            obtain ⟨v45_2, q45_2⟩ : ∃ zz : Int32, cmpValue (FP.dcmp (al (3 : Int32)) (al p0)) .l = zz := ⟨_, rfl⟩
            refine g_dcmp hG Xj5 hx (hb hby d3_45) (pc' := 46) rfl q45_2 ?_
            by_cases g3_0 : (btB b01 b02 b03 b12 b13 b23) (3 : Int32) p0 = true
            · skip
              refine g_ifNo hG Xj5 hx (hb hby d3_46) (pc' := 49) (by rw [← q45_2, gt_yes (BT (3 : Int32) p0 (by decide) (in4_of bp0.1 (by omega))) (fun g => by have := Int32.lt_iff_toInt_lt.mp g; rw [show (3 : Int32).toInt = 3 by decide] at this; omega) g3_0]; rfl) rfl ?_
              refine g_iinc hG Xj5 hx (hb hby d3_49) (pc' := 52) rfl rfl (v := (0 : Int32)) (by decide) (Ls' := #[.val (.ref a), .val (.long lim), .second, .val (.ref ids), .val (.int 3), .val (.int 3), .val (.int 0), .val (.int w7)]) rfl ?_
              refine g_goto hG Xj5 hx (hb hby d3_52) (pc' := 28) (by decide) (by decide) ?_
              refine g_iload hG Xj5 hx (hb hby d3_28) (pc' := 30) rfl rfl ?_
              refine g_ifYes hG Xj5 hx (hb hby d3_30) (pc' := 55) (by decide) (by decide) (by decide) ?_
              refine g_iload hG Xj5 hx (hb hby d3_55) (pc' := 57) rfl rfl ?_
              refine g_aloadN hG Xj5 hx (hb hby d3_57) (pc' := 58) rfl rfl rfl ?_
              refine g_arraylength hG Xj5 hx hZ ej5 V_ids (hb hby d3_58) (pc' := 59) rfl ?_
              refine g_icmpNo hG Xj5 hx (hb hby d3_59) (pc' := 62) (by decide) rfl ?_
              refine g_iload hG Xj5 hx (hb hby d3_62) (pc' := 64) rfl rfl ?_
              refine g_aloadN hG Xj5 hx (hb hby d3_64) (pc' := 65) rfl rfl rfl ?_
              refine g_arraylength hG Xj5 hx hZ ej5 V_ids (hb hby d3_65) (pc' := 66) rfl ?_
              refine g_iconst hG Xj5 hx (hb hby d3_66) (pc' := 67) rfl (v := (1 : Int32)) rfl ?_
              refine g_isub hG Xj5 hx (hb hby d3_67) (pc' := 68) rfl (v := (2 : Int32)) (by decide) ?_
              refine g_callS hG Xj5 hx hZ (y := (⟨"java/lang/Math", "min", "(II)I"⟩ : MethodName)) 0 hown (wd hw 16 rfl) (wd hw 17 rfl) (wd hw 8 rfl) (wd hw 18 rfl) (by decide) (rmMI l Z a0 hw [] (3 : Int32) (2 : Int32) (2 : Int32) hj5 n0 Zs (by decide)) (by decide) (by decide) (by rw [hml]; rfl) pd_3 rfl (argsL := [(.int 3), (.int 2)]) (rest := []) rfl rfl (Nat.le_of_eq rfl) (hb hby d3_68) ej5 (by decide) (by decide) (pc' := 71) rfl ?_
              intro T7 rv7 L7 X7 hQ7
              obtain ⟨rfl, Nq7, eh7⟩ := hQ7
              have NF7 := Fr.app NFj5 Nq7
              show G (T7.setTop (mkF m 71 _ [(.int 2)]))
              refine g_istore hG X7 hx (hb hby d3_71) (pc' := 73) rfl (Ls' := #[.val (.ref a), .val (.long lim), .second, .val (.ref ids), .val (.int 3), .val (.int 3), .val (.int 0), .val (.int 2)]) rfl ?_
              refine g_aloadN hG X7 hx (hb hby d3_73) (pc' := 74) rfl rfl rfl ?_
              refine g_iload hG X7 hx (hb hby d3_74) (pc' := 76) rfl rfl ?_
              refine g_aloadN hG X7 hx (hb hby d3_76) (pc' := 77) rfl rfl rfl ?_
              refine g_iload hG X7 hx (hb hby d3_77) (pc' := 79) rfl rfl ?_
              refine g_iconst hG X7 hx (hb hby d3_79) (pc' := 80) rfl (v := (1 : Int32)) rfl ?_
              refine g_iadd hG X7 hx (hb hby d3_80) (pc' := 81) rfl (v := (1 : Int32)) (by decide) ?_
              refine g_iload hG X7 hx (hb hby d3_81) (pc' := 83) rfl rfl ?_
              refine g_iload hG X7 hx (hb hby d3_83) (pc' := 85) rfl rfl ?_
              refine g_isub hG X7 hx (hb hby d3_85) (pc' := 86) rfl (v := (2 : Int32)) (by decide) ?_
              refine g_copy hG X7 hx hZ hown (wd hw 19 rfl) (wd hw 22 rfl) (wd hw 20 rfl) (wd hw 21 rfl) eh7 V_ids V_ids rfl (by decide) (by decide) (by decide) (by decide) (by decide) (vr := [(.int p0), (.int p0), (.int p1)]) rfl NF7 ge_ids (by rw [hml]; rfl) (hb hby d3_86) (by decide) 0 (Nat.le_of_eq rfl) (by decide) (pc' := 89) rfl ?_
              intro T8 h8 L8 X8 e8 NF8 Kq8 Vn8
              have V_ids := Vn8
              have V_a := V_a.keep Kq8 (ninS ne_a_ids nin0)
              have Zs := Nat.le_trans Zs Kq8.1
              have K8 := Kj5.trans Kq8 (allS (Or.inr sz_ids) all0)
              show G (T8.setTop (mkF m 89 _ []))
              refine g_aloadN hG X8 hx (hb hby d3_89) (pc' := 90) rfl rfl rfl ?_
              refine g_iload hG X8 hx (hb hby d3_90) (pc' := 92) rfl rfl ?_
              refine g_iload hG X8 hx (hb hby d3_92) (pc' := 94) rfl rfl ?_
              refine g_iastore hG X8 hx hZ e8 V_ids (j := (0 : Int32)) (by decide) (show Int32.toNatClampNeg (0 : Int32) < 3 by decide) (hb hby d3_94) (pc' := 95) rfl ?_
              intro T9 h9 X9 e9 W9 Vn9
              have V_ids : AV Z h9 ids .int (3 : Int32) [(.int 3), (.int p0), (.int p1)] := Vn9
              have V_a := V_a.other W9 ne_a_ids
              have Zs := Nat.le_trans Zs (Wr.size W9)
              have NF9 := Fr.snoc X9 NF8 ge_ids
              have K9 := K8.wr W9 (Or.inr sz_ids)
              refine g_iload hG X9 hx (hb hby d3_95) (pc' := 97) rfl rfl ?_
              refine g_iconst hG X9 hx (hb hby d3_97) (pc' := 98) rfl (v := (1 : Int32)) rfl ?_
              refine g_iadd hG X9 hx (hb hby d3_98) (pc' := 99) rfl (v := (4 : Int32)) (by decide) ?_
              refine g_aloadN hG X9 hx (hb hby d3_99) (pc' := 100) rfl rfl rfl ?_
              refine g_arraylength hG X9 hx hZ e9 V_ids (hb hby d3_100) (pc' := 101) rfl ?_
              refine g_callS hG X9 hx hZ (y := (⟨"java/lang/Math", "min", "(II)I"⟩ : MethodName)) 0 hown (wd hw 16 rfl) (wd hw 17 rfl) (wd hw 8 rfl) (wd hw 18 rfl) (by decide) (rmMI l Z a0 hw [] (4 : Int32) (3 : Int32) (3 : Int32) h9 n0 Zs (by decide)) (by decide) (by decide) (by rw [hml]; rfl) pd_3 rfl (argsL := [(.int 4), (.int 3)]) (rest := []) rfl rfl (Nat.le_of_eq rfl) (hb hby d3_101) e9 (by decide) (by decide) (pc' := 104) rfl ?_
              intro T10 rv10 L10 X10 hQ10
              obtain ⟨rfl, Nq10, eh10⟩ := hQ10
              have NF10 := Fr.app NF9 Nq10
              show G (T10.setTop (mkF m 104 _ [(.int 3)]))
              refine g_istore hG X10 hx (hb hby d3_104) (pc' := 106) rfl (Ls' := #[.val (.ref a), .val (.long lim), .second, .val (.ref ids), .val (.int 3), .val (.int 3), .val (.int 0), .val (.int 2)]) rfl ?_
              refine g_iinc hG X10 hx (hb hby d3_106) (pc' := 109) rfl rfl (v := (4 : Int32)) (by decide) (Ls' := #[.val (.ref a), .val (.long lim), .second, .val (.ref ids), .val (.int 3), .val (.int 4), .val (.int 0), .val (.int 2)]) rfl ?_
              refine g_goto hG X10 hx (hb hby d3_109) (pc' := 17) (by decide) (by decide) ?_
              exact J4 _ _ _ (3 : Int32) p0 p1 (0 : Int32) (2 : Int32) X10 eh10 NF10 Zs K9 V_a V_ids (st_3_3_3_0 b01 b02 b03 b12 b13 b23 p0 p1 p2 TR HT3 g3_2 g3_1 g3_0)
            · skip
              refine g_ifYes hG Xj5 hx (hb hby d3_46) (pc' := 55) (by rcases gt_no (BT (3 : Int32) p0 (by decide) (in4_of bp0.1 (by omega))) g3_0 with z | z <;> rw [← q45_2, z] <;> rfl) (by decide) (by decide) ?_
              refine g_iload hG Xj5 hx (hb hby d3_55) (pc' := 57) rfl rfl ?_
              refine g_aloadN hG Xj5 hx (hb hby d3_57) (pc' := 58) rfl rfl rfl ?_
              refine g_arraylength hG Xj5 hx hZ ej5 V_ids (hb hby d3_58) (pc' := 59) rfl ?_
              refine g_icmpNo hG Xj5 hx (hb hby d3_59) (pc' := 62) (by decide) rfl ?_
              refine g_iload hG Xj5 hx (hb hby d3_62) (pc' := 64) rfl rfl ?_
              refine g_aloadN hG Xj5 hx (hb hby d3_64) (pc' := 65) rfl rfl rfl ?_
              refine g_arraylength hG Xj5 hx hZ ej5 V_ids (hb hby d3_65) (pc' := 66) rfl ?_
              refine g_iconst hG Xj5 hx (hb hby d3_66) (pc' := 67) rfl (v := (1 : Int32)) rfl ?_
              refine g_isub hG Xj5 hx (hb hby d3_67) (pc' := 68) rfl (v := (2 : Int32)) (by decide) ?_
              refine g_callS hG Xj5 hx hZ (y := (⟨"java/lang/Math", "min", "(II)I"⟩ : MethodName)) 0 hown (wd hw 16 rfl) (wd hw 17 rfl) (wd hw 8 rfl) (wd hw 18 rfl) (by decide) (rmMI l Z a0 hw [] (3 : Int32) (2 : Int32) (2 : Int32) hj5 n0 Zs (by decide)) (by decide) (by decide) (by rw [hml]; rfl) pd_3 rfl (argsL := [(.int 3), (.int 2)]) (rest := []) rfl rfl (Nat.le_of_eq rfl) (hb hby d3_68) ej5 (by decide) (by decide) (pc' := 71) rfl ?_
              intro T11 rv11 L11 X11 hQ11
              obtain ⟨rfl, Nq11, eh11⟩ := hQ11
              have NF11 := Fr.app NFj5 Nq11
              show G (T11.setTop (mkF m 71 _ [(.int 2)]))
              refine g_istore hG X11 hx (hb hby d3_71) (pc' := 73) rfl (Ls' := #[.val (.ref a), .val (.long lim), .second, .val (.ref ids), .val (.int 3), .val (.int 3), .val (.int 1), .val (.int 2)]) rfl ?_
              refine g_aloadN hG X11 hx (hb hby d3_73) (pc' := 74) rfl rfl rfl ?_
              refine g_iload hG X11 hx (hb hby d3_74) (pc' := 76) rfl rfl ?_
              refine g_aloadN hG X11 hx (hb hby d3_76) (pc' := 77) rfl rfl rfl ?_
              refine g_iload hG X11 hx (hb hby d3_77) (pc' := 79) rfl rfl ?_
              refine g_iconst hG X11 hx (hb hby d3_79) (pc' := 80) rfl (v := (1 : Int32)) rfl ?_
              refine g_iadd hG X11 hx (hb hby d3_80) (pc' := 81) rfl (v := (2 : Int32)) (by decide) ?_
              refine g_iload hG X11 hx (hb hby d3_81) (pc' := 83) rfl rfl ?_
              refine g_iload hG X11 hx (hb hby d3_83) (pc' := 85) rfl rfl ?_
              refine g_isub hG X11 hx (hb hby d3_85) (pc' := 86) rfl (v := (1 : Int32)) (by decide) ?_
              refine g_copy hG X11 hx hZ hown (wd hw 19 rfl) (wd hw 22 rfl) (wd hw 20 rfl) (wd hw 21 rfl) eh11 V_ids V_ids rfl (by decide) (by decide) (by decide) (by decide) (by decide) (vr := [(.int p0), (.int p1), (.int p1)]) rfl NF11 ge_ids (by rw [hml]; rfl) (hb hby d3_86) (by decide) 0 (Nat.le_of_eq rfl) (by decide) (pc' := 89) rfl ?_
              intro T12 h12 L12 X12 e12 NF12 Kq12 Vn12
              have V_ids := Vn12
              have V_a := V_a.keep Kq12 (ninS ne_a_ids nin0)
              have Zs := Nat.le_trans Zs Kq12.1
              have K12 := Kj5.trans Kq12 (allS (Or.inr sz_ids) all0)
              show G (T12.setTop (mkF m 89 _ []))
              refine g_aloadN hG X12 hx (hb hby d3_89) (pc' := 90) rfl rfl rfl ?_
              refine g_iload hG X12 hx (hb hby d3_90) (pc' := 92) rfl rfl ?_
              refine g_iload hG X12 hx (hb hby d3_92) (pc' := 94) rfl rfl ?_
              refine g_iastore hG X12 hx hZ e12 V_ids (j := (1 : Int32)) (by decide) (show Int32.toNatClampNeg (1 : Int32) < 3 by decide) (hb hby d3_94) (pc' := 95) rfl ?_
              intro T13 h13 X13 e13 W13 Vn13
              have V_ids : AV Z h13 ids .int (3 : Int32) [(.int p0), (.int 3), (.int p1)] := Vn13
              have V_a := V_a.other W13 ne_a_ids
              have Zs := Nat.le_trans Zs (Wr.size W13)
              have NF13 := Fr.snoc X13 NF12 ge_ids
              have K13 := K12.wr W13 (Or.inr sz_ids)
              refine g_iload hG X13 hx (hb hby d3_95) (pc' := 97) rfl rfl ?_
              refine g_iconst hG X13 hx (hb hby d3_97) (pc' := 98) rfl (v := (1 : Int32)) rfl ?_
              refine g_iadd hG X13 hx (hb hby d3_98) (pc' := 99) rfl (v := (4 : Int32)) (by decide) ?_
              refine g_aloadN hG X13 hx (hb hby d3_99) (pc' := 100) rfl rfl rfl ?_
              refine g_arraylength hG X13 hx hZ e13 V_ids (hb hby d3_100) (pc' := 101) rfl ?_
              refine g_callS hG X13 hx hZ (y := (⟨"java/lang/Math", "min", "(II)I"⟩ : MethodName)) 0 hown (wd hw 16 rfl) (wd hw 17 rfl) (wd hw 8 rfl) (wd hw 18 rfl) (by decide) (rmMI l Z a0 hw [] (4 : Int32) (3 : Int32) (3 : Int32) h13 n0 Zs (by decide)) (by decide) (by decide) (by rw [hml]; rfl) pd_3 rfl (argsL := [(.int 4), (.int 3)]) (rest := []) rfl rfl (Nat.le_of_eq rfl) (hb hby d3_101) e13 (by decide) (by decide) (pc' := 104) rfl ?_
              intro T14 rv14 L14 X14 hQ14
              obtain ⟨rfl, Nq14, eh14⟩ := hQ14
              have NF14 := Fr.app NF13 Nq14
              show G (T14.setTop (mkF m 104 _ [(.int 3)]))
              refine g_istore hG X14 hx (hb hby d3_104) (pc' := 106) rfl (Ls' := #[.val (.ref a), .val (.long lim), .second, .val (.ref ids), .val (.int 3), .val (.int 3), .val (.int 1), .val (.int 2)]) rfl ?_
              refine g_iinc hG X14 hx (hb hby d3_106) (pc' := 109) rfl rfl (v := (4 : Int32)) (by decide) (Ls' := #[.val (.ref a), .val (.long lim), .second, .val (.ref ids), .val (.int 3), .val (.int 4), .val (.int 1), .val (.int 2)]) rfl ?_
              refine g_goto hG X14 hx (hb hby d3_109) (pc' := 17) (by decide) (by decide) ?_
              exact J4 _ _ _ p0 (3 : Int32) p1 (1 : Int32) (2 : Int32) X14 eh14 NF14 Zs K13 V_a V_ids (st_3_3_3_1 b01 b02 b03 b12 b13 b23 p0 p1 p2 TR HT3 g3_2 g3_1 g3_0)
          · skip
            refine g_ifYes hG Xj5 hx (hb hby d3_46) (pc' := 55) (by rcases gt_no (BT (3 : Int32) p1 (by decide) (in4_of bp1.1 (by omega))) g3_1 with z | z <;> rw [← q45_1, z] <;> rfl) (by decide) (by decide) ?_
            refine g_iload hG Xj5 hx (hb hby d3_55) (pc' := 57) rfl rfl ?_
            refine g_aloadN hG Xj5 hx (hb hby d3_57) (pc' := 58) rfl rfl rfl ?_
            refine g_arraylength hG Xj5 hx hZ ej5 V_ids (hb hby d3_58) (pc' := 59) rfl ?_
            refine g_icmpNo hG Xj5 hx (hb hby d3_59) (pc' := 62) (by decide) rfl ?_
            refine g_iload hG Xj5 hx (hb hby d3_62) (pc' := 64) rfl rfl ?_
            refine g_aloadN hG Xj5 hx (hb hby d3_64) (pc' := 65) rfl rfl rfl ?_
            refine g_arraylength hG Xj5 hx hZ ej5 V_ids (hb hby d3_65) (pc' := 66) rfl ?_
            refine g_iconst hG Xj5 hx (hb hby d3_66) (pc' := 67) rfl (v := (1 : Int32)) rfl ?_
            refine g_isub hG Xj5 hx (hb hby d3_67) (pc' := 68) rfl (v := (2 : Int32)) (by decide) ?_
            refine g_callS hG Xj5 hx hZ (y := (⟨"java/lang/Math", "min", "(II)I"⟩ : MethodName)) 0 hown (wd hw 16 rfl) (wd hw 17 rfl) (wd hw 8 rfl) (wd hw 18 rfl) (by decide) (rmMI l Z a0 hw [] (3 : Int32) (2 : Int32) (2 : Int32) hj5 n0 Zs (by decide)) (by decide) (by decide) (by rw [hml]; rfl) pd_3 rfl (argsL := [(.int 3), (.int 2)]) (rest := []) rfl rfl (Nat.le_of_eq rfl) (hb hby d3_68) ej5 (by decide) (by decide) (pc' := 71) rfl ?_
            intro T15 rv15 L15 X15 hQ15
            obtain ⟨rfl, Nq15, eh15⟩ := hQ15
            have NF15 := Fr.app NFj5 Nq15
            show G (T15.setTop (mkF m 71 _ [(.int 2)]))
            refine g_istore hG X15 hx (hb hby d3_71) (pc' := 73) rfl (Ls' := #[.val (.ref a), .val (.long lim), .second, .val (.ref ids), .val (.int 3), .val (.int 3), .val (.int 2), .val (.int 2)]) rfl ?_
            refine g_aloadN hG X15 hx (hb hby d3_73) (pc' := 74) rfl rfl rfl ?_
            refine g_iload hG X15 hx (hb hby d3_74) (pc' := 76) rfl rfl ?_
            refine g_aloadN hG X15 hx (hb hby d3_76) (pc' := 77) rfl rfl rfl ?_
            refine g_iload hG X15 hx (hb hby d3_77) (pc' := 79) rfl rfl ?_
            refine g_iconst hG X15 hx (hb hby d3_79) (pc' := 80) rfl (v := (1 : Int32)) rfl ?_
            refine g_iadd hG X15 hx (hb hby d3_80) (pc' := 81) rfl (v := (3 : Int32)) (by decide) ?_
            refine g_iload hG X15 hx (hb hby d3_81) (pc' := 83) rfl rfl ?_
            refine g_iload hG X15 hx (hb hby d3_83) (pc' := 85) rfl rfl ?_
            refine g_isub hG X15 hx (hb hby d3_85) (pc' := 86) rfl (v := (0 : Int32)) (by decide) ?_
            refine g_copy hG X15 hx hZ hown (wd hw 19 rfl) (wd hw 22 rfl) (wd hw 20 rfl) (wd hw 21 rfl) eh15 V_ids V_ids rfl (by decide) (by decide) (by decide) (by decide) (by decide) (vr := [(.int p0), (.int p1), (.int p2)]) rfl NF15 ge_ids (by rw [hml]; rfl) (hb hby d3_86) (by decide) 0 (Nat.le_of_eq rfl) (by decide) (pc' := 89) rfl ?_
            intro T16 h16 L16 X16 e16 NF16 Kq16 Vn16
            have V_ids := Vn16
            have V_a := V_a.keep Kq16 (ninS ne_a_ids nin0)
            have Zs := Nat.le_trans Zs Kq16.1
            have K16 := Kj5.trans Kq16 (allS (Or.inr sz_ids) all0)
            show G (T16.setTop (mkF m 89 _ []))
            refine g_aloadN hG X16 hx (hb hby d3_89) (pc' := 90) rfl rfl rfl ?_
            refine g_iload hG X16 hx (hb hby d3_90) (pc' := 92) rfl rfl ?_
            refine g_iload hG X16 hx (hb hby d3_92) (pc' := 94) rfl rfl ?_
            refine g_iastore hG X16 hx hZ e16 V_ids (j := (2 : Int32)) (by decide) (show Int32.toNatClampNeg (2 : Int32) < 3 by decide) (hb hby d3_94) (pc' := 95) rfl ?_
            intro T17 h17 X17 e17 W17 Vn17
            have V_ids : AV Z h17 ids .int (3 : Int32) [(.int p0), (.int p1), (.int 3)] := Vn17
            have V_a := V_a.other W17 ne_a_ids
            have Zs := Nat.le_trans Zs (Wr.size W17)
            have NF17 := Fr.snoc X17 NF16 ge_ids
            have K17 := K16.wr W17 (Or.inr sz_ids)
            refine g_iload hG X17 hx (hb hby d3_95) (pc' := 97) rfl rfl ?_
            refine g_iconst hG X17 hx (hb hby d3_97) (pc' := 98) rfl (v := (1 : Int32)) rfl ?_
            refine g_iadd hG X17 hx (hb hby d3_98) (pc' := 99) rfl (v := (4 : Int32)) (by decide) ?_
            refine g_aloadN hG X17 hx (hb hby d3_99) (pc' := 100) rfl rfl rfl ?_
            refine g_arraylength hG X17 hx hZ e17 V_ids (hb hby d3_100) (pc' := 101) rfl ?_
            refine g_callS hG X17 hx hZ (y := (⟨"java/lang/Math", "min", "(II)I"⟩ : MethodName)) 0 hown (wd hw 16 rfl) (wd hw 17 rfl) (wd hw 8 rfl) (wd hw 18 rfl) (by decide) (rmMI l Z a0 hw [] (4 : Int32) (3 : Int32) (3 : Int32) h17 n0 Zs (by decide)) (by decide) (by decide) (by rw [hml]; rfl) pd_3 rfl (argsL := [(.int 4), (.int 3)]) (rest := []) rfl rfl (Nat.le_of_eq rfl) (hb hby d3_101) e17 (by decide) (by decide) (pc' := 104) rfl ?_
            intro T18 rv18 L18 X18 hQ18
            obtain ⟨rfl, Nq18, eh18⟩ := hQ18
            have NF18 := Fr.app NF17 Nq18
            show G (T18.setTop (mkF m 104 _ [(.int 3)]))
            refine g_istore hG X18 hx (hb hby d3_104) (pc' := 106) rfl (Ls' := #[.val (.ref a), .val (.long lim), .second, .val (.ref ids), .val (.int 3), .val (.int 3), .val (.int 2), .val (.int 2)]) rfl ?_
            refine g_iinc hG X18 hx (hb hby d3_106) (pc' := 109) rfl rfl (v := (4 : Int32)) (by decide) (Ls' := #[.val (.ref a), .val (.long lim), .second, .val (.ref ids), .val (.int 3), .val (.int 4), .val (.int 2), .val (.int 2)]) rfl ?_
            refine g_goto hG X18 hx (hb hby d3_109) (pc' := 17) (by decide) (by decide) ?_
            exact J4 _ _ _ p0 p1 (3 : Int32) (2 : Int32) (2 : Int32) X18 eh18 NF18 Zs K17 V_a V_ids (st_3_3_3_2 b01 b02 b03 b12 b13 b23 p0 p1 p2 TR HT3 g3_2 g3_1)
        · skip
          refine g_ifYes hG Xj5 hx (hb hby d3_46) (pc' := 55) (by rcases gt_no (BT (3 : Int32) p2 (by decide) (in4_of bp2.1 (by omega))) g3_2 with z | z <;> rw [← q45, z] <;> rfl) (by decide) (by decide) ?_
          refine g_iload hG Xj5 hx (hb hby d3_55) (pc' := 57) rfl rfl ?_
          refine g_aloadN hG Xj5 hx (hb hby d3_57) (pc' := 58) rfl rfl rfl ?_
          refine g_arraylength hG Xj5 hx hZ ej5 V_ids (hb hby d3_58) (pc' := 59) rfl ?_
          refine g_icmpYes hG Xj5 hx (hb hby d3_59) (pc' := 106) (by decide) (by decide) (by decide) ?_
          refine g_iinc hG Xj5 hx (hb hby d3_106) (pc' := 109) rfl rfl (v := (4 : Int32)) (by decide) (Ls' := #[.val (.ref a), .val (.long lim), .second, .val (.ref ids), .val (.int 3), .val (.int 4), .val (.int 3), .val (.int w7)]) rfl ?_
          refine g_goto hG Xj5 hx (hb hby d3_109) (pc' := 17) (by decide) (by decide) ?_
          exact J4 _ _ _ p0 p1 p2 (3 : Int32) w7 Xj5 ej5 NFj5 Zs Kj5 V_a V_ids (st_3_3_3_3 b01 b02 b03 b12 b13 b23 p0 p1 p2 TR HT3 g3_2)
      refine g_iload hG Xj4 hx (hb hby d3_17) (pc' := 19) rfl rfl ?_
      refine g_aloadN hG Xj4 hx (hb hby d3_19) (pc' := 20) rfl rfl rfl ?_
      refine g_arraylength hG Xj4 hx hZ ej4 V_a (hb hby d3_20) (pc' := 21) rfl ?_
      refine g_icmpNo hG Xj4 hx (hb hby d3_21) (pc' := 24) (by decide) rfl ?_
      refine g_iload hG Xj4 hx (hb hby d3_24) (pc' := 26) rfl rfl ?_
      refine g_istore hG Xj4 hx (hb hby d3_26) (pc' := 28) rfl (Ls' := #[.val (.ref a), .val (.long lim), .second, .val (.ref ids), .val (.int 2), .val (.int 2), .val (.int 2), .val (.int w7)]) rfl ?_
      refine g_iload hG Xj4 hx (hb hby d3_28) (pc' := 30) rfl rfl ?_
      refine g_ifNo hG Xj4 hx (hb hby d3_30) (pc' := 33) (by decide) rfl ?_
      refine g_aloadN hG Xj4 hx (hb hby d3_33) (pc' := 34) rfl rfl rfl ?_
      refine g_iload hG Xj4 hx (hb hby d3_34) (pc' := 36) rfl rfl ?_
      refine g_daload hG Xj4 hx hZ ej4 V_a (j := (2 : Int32)) (v := (.double (al (2 : Int32)))) (by decide) rfl (hb hby d3_36) (pc' := 37) rfl ?_
      refine g_aloadN hG Xj4 hx (hb hby d3_37) (pc' := 38) rfl rfl rfl ?_
      refine g_aloadN hG Xj4 hx (hb hby d3_38) (pc' := 39) rfl rfl rfl ?_
      refine g_iload hG Xj4 hx (hb hby d3_39) (pc' := 41) rfl rfl ?_
      refine g_iconst hG Xj4 hx (hb hby d3_41) (pc' := 42) rfl (v := (1 : Int32)) rfl ?_
      refine g_isub hG Xj4 hx (hb hby d3_42) (pc' := 43) rfl (v := (1 : Int32)) (by decide) ?_
      refine g_iaload hG Xj4 hx hZ ej4 V_ids (j := (1 : Int32)) (v := (.int p1)) (by decide) rfl (hb hby d3_43) (pc' := 44) rfl ?_
      refine g_daload hG Xj4 hx hZ ej4 V_a (j := p1) (v := (.double (al p1))) (nn_of bp1.1) (al_at4 (in4_of bp1.1 (by omega))) (hb hby d3_44) (pc' := 45) rfl ?_
      obtain ⟨v45, q45⟩ : ∃ zz : Int32, cmpValue (FP.dcmp (al (2 : Int32)) (al p1)) .l = zz := ⟨_, rfl⟩
      refine g_dcmp hG Xj4 hx (hb hby d3_45) (pc' := 46) rfl q45 ?_
      by_cases g2_1 : (btB b01 b02 b03 b12 b13 b23) (2 : Int32) p1 = true
      · skip
        refine g_ifNo hG Xj4 hx (hb hby d3_46) (pc' := 49) (by rw [← q45, gt_yes (BT (2 : Int32) p1 (by decide) (in4_of bp1.1 (by omega))) (fun g => by have := Int32.lt_iff_toInt_lt.mp g; rw [show (2 : Int32).toInt = 2 by decide] at this; omega) g2_1]; rfl) rfl ?_
        refine g_iinc hG Xj4 hx (hb hby d3_49) (pc' := 52) rfl rfl (v := (1 : Int32)) (by decide) (Ls' := #[.val (.ref a), .val (.long lim), .second, .val (.ref ids), .val (.int 2), .val (.int 2), .val (.int 1), .val (.int w7)]) rfl ?_
        refine g_goto hG Xj4 hx (hb hby d3_52) (pc' := 28) (by decide) (by decide) ?_
        refine g_iload hG Xj4 hx (hb hby d3_28) (pc' := 30) rfl rfl ?_
        refine g_ifNo hG Xj4 hx (hb hby d3_30) (pc' := 33) (by decide) rfl ?_
        refine g_aloadN hG Xj4 hx (hb hby d3_33) (pc' := 34) rfl rfl rfl ?_
        refine g_iload hG Xj4 hx (hb hby d3_34) (pc' := 36) rfl rfl ?_
        refine g_daload hG Xj4 hx hZ ej4 V_a (j := (2 : Int32)) (v := (.double (al (2 : Int32)))) (by decide) rfl (hb hby d3_36) (pc' := 37) rfl ?_
        refine g_aloadN hG Xj4 hx (hb hby d3_37) (pc' := 38) rfl rfl rfl ?_
        refine g_aloadN hG Xj4 hx (hb hby d3_38) (pc' := 39) rfl rfl rfl ?_
        refine g_iload hG Xj4 hx (hb hby d3_39) (pc' := 41) rfl rfl ?_
        refine g_iconst hG Xj4 hx (hb hby d3_41) (pc' := 42) rfl (v := (1 : Int32)) rfl ?_
        refine g_isub hG Xj4 hx (hb hby d3_42) (pc' := 43) rfl (v := (0 : Int32)) (by decide) ?_
        refine g_iaload hG Xj4 hx hZ ej4 V_ids (j := (0 : Int32)) (v := (.int p0)) (by decide) rfl (hb hby d3_43) (pc' := 44) rfl ?_
        refine g_daload hG Xj4 hx hZ ej4 V_a (j := p0) (v := (.double (al p0))) (nn_of bp0.1) (al_at4 (in4_of bp0.1 (by omega))) (hb hby d3_44) (pc' := 45) rfl ?_
        obtain ⟨v45_1, q45_1⟩ : ∃ zz : Int32, cmpValue (FP.dcmp (al (2 : Int32)) (al p0)) .l = zz := ⟨_, rfl⟩
        refine g_dcmp hG Xj4 hx (hb hby d3_45) (pc' := 46) rfl q45_1 ?_
        by_cases g2_0 : (btB b01 b02 b03 b12 b13 b23) (2 : Int32) p0 = true
        · skip
          refine g_ifNo hG Xj4 hx (hb hby d3_46) (pc' := 49) (by rw [← q45_1, gt_yes (BT (2 : Int32) p0 (by decide) (in4_of bp0.1 (by omega))) (fun g => by have := Int32.lt_iff_toInt_lt.mp g; rw [show (2 : Int32).toInt = 2 by decide] at this; omega) g2_0]; rfl) rfl ?_
          refine g_iinc hG Xj4 hx (hb hby d3_49) (pc' := 52) rfl rfl (v := (0 : Int32)) (by decide) (Ls' := #[.val (.ref a), .val (.long lim), .second, .val (.ref ids), .val (.int 2), .val (.int 2), .val (.int 0), .val (.int w7)]) rfl ?_
          refine g_goto hG Xj4 hx (hb hby d3_52) (pc' := 28) (by decide) (by decide) ?_
          refine g_iload hG Xj4 hx (hb hby d3_28) (pc' := 30) rfl rfl ?_
          refine g_ifYes hG Xj4 hx (hb hby d3_30) (pc' := 55) (by decide) (by decide) (by decide) ?_
          refine g_iload hG Xj4 hx (hb hby d3_55) (pc' := 57) rfl rfl ?_
          refine g_aloadN hG Xj4 hx (hb hby d3_57) (pc' := 58) rfl rfl rfl ?_
          refine g_arraylength hG Xj4 hx hZ ej4 V_ids (hb hby d3_58) (pc' := 59) rfl ?_
          refine g_icmpNo hG Xj4 hx (hb hby d3_59) (pc' := 62) (by decide) rfl ?_
          refine g_iload hG Xj4 hx (hb hby d3_62) (pc' := 64) rfl rfl ?_
          refine g_aloadN hG Xj4 hx (hb hby d3_64) (pc' := 65) rfl rfl rfl ?_
          refine g_arraylength hG Xj4 hx hZ ej4 V_ids (hb hby d3_65) (pc' := 66) rfl ?_
          refine g_iconst hG Xj4 hx (hb hby d3_66) (pc' := 67) rfl (v := (1 : Int32)) rfl ?_
          refine g_isub hG Xj4 hx (hb hby d3_67) (pc' := 68) rfl (v := (2 : Int32)) (by decide) ?_
          refine g_callS hG Xj4 hx hZ (y := (⟨"java/lang/Math", "min", "(II)I"⟩ : MethodName)) 0 hown (wd hw 16 rfl) (wd hw 17 rfl) (wd hw 8 rfl) (wd hw 18 rfl) (by decide) (rmMI l Z a0 hw [] (2 : Int32) (2 : Int32) (2 : Int32) hj4 n0 Zs (by decide)) (by decide) (by decide) (by rw [hml]; rfl) pd_3 rfl (argsL := [(.int 2), (.int 2)]) (rest := []) rfl rfl (Nat.le_of_eq rfl) (hb hby d3_68) ej4 (by decide) (by decide) (pc' := 71) rfl ?_
          intro T19 rv19 L19 X19 hQ19
          obtain ⟨rfl, Nq19, eh19⟩ := hQ19
          have NF19 := Fr.app NFj4 Nq19
          show G (T19.setTop (mkF m 71 _ [(.int 2)]))
          refine g_istore hG X19 hx (hb hby d3_71) (pc' := 73) rfl (Ls' := #[.val (.ref a), .val (.long lim), .second, .val (.ref ids), .val (.int 2), .val (.int 2), .val (.int 0), .val (.int 2)]) rfl ?_
          refine g_aloadN hG X19 hx (hb hby d3_73) (pc' := 74) rfl rfl rfl ?_
          refine g_iload hG X19 hx (hb hby d3_74) (pc' := 76) rfl rfl ?_
          refine g_aloadN hG X19 hx (hb hby d3_76) (pc' := 77) rfl rfl rfl ?_
          refine g_iload hG X19 hx (hb hby d3_77) (pc' := 79) rfl rfl ?_
          refine g_iconst hG X19 hx (hb hby d3_79) (pc' := 80) rfl (v := (1 : Int32)) rfl ?_
          refine g_iadd hG X19 hx (hb hby d3_80) (pc' := 81) rfl (v := (1 : Int32)) (by decide) ?_
          refine g_iload hG X19 hx (hb hby d3_81) (pc' := 83) rfl rfl ?_
          refine g_iload hG X19 hx (hb hby d3_83) (pc' := 85) rfl rfl ?_
          refine g_isub hG X19 hx (hb hby d3_85) (pc' := 86) rfl (v := (2 : Int32)) (by decide) ?_
          refine g_copy hG X19 hx hZ hown (wd hw 19 rfl) (wd hw 22 rfl) (wd hw 20 rfl) (wd hw 21 rfl) eh19 V_ids V_ids rfl (by decide) (by decide) (by decide) (by decide) (by decide) (vr := [(.int p0), (.int p0), (.int p1)]) rfl NF19 ge_ids (by rw [hml]; rfl) (hb hby d3_86) (by decide) 0 (Nat.le_of_eq rfl) (by decide) (pc' := 89) rfl ?_
          intro T20 h20 L20 X20 e20 NF20 Kq20 Vn20
          have V_ids := Vn20
          have V_a := V_a.keep Kq20 (ninS ne_a_ids nin0)
          have Zs := Nat.le_trans Zs Kq20.1
          have K20 := Kj4.trans Kq20 (allS (Or.inr sz_ids) all0)
          show G (T20.setTop (mkF m 89 _ []))
          refine g_aloadN hG X20 hx (hb hby d3_89) (pc' := 90) rfl rfl rfl ?_
          refine g_iload hG X20 hx (hb hby d3_90) (pc' := 92) rfl rfl ?_
          refine g_iload hG X20 hx (hb hby d3_92) (pc' := 94) rfl rfl ?_
          refine g_iastore hG X20 hx hZ e20 V_ids (j := (0 : Int32)) (by decide) (show Int32.toNatClampNeg (0 : Int32) < 3 by decide) (hb hby d3_94) (pc' := 95) rfl ?_
          intro T21 h21 X21 e21 W21 Vn21
          have V_ids : AV Z h21 ids .int (3 : Int32) [(.int 2), (.int p0), (.int p1)] := Vn21
          have V_a := V_a.other W21 ne_a_ids
          have Zs := Nat.le_trans Zs (Wr.size W21)
          have NF21 := Fr.snoc X21 NF20 ge_ids
          have K21 := K20.wr W21 (Or.inr sz_ids)
          refine g_iload hG X21 hx (hb hby d3_95) (pc' := 97) rfl rfl ?_
          refine g_iconst hG X21 hx (hb hby d3_97) (pc' := 98) rfl (v := (1 : Int32)) rfl ?_
          refine g_iadd hG X21 hx (hb hby d3_98) (pc' := 99) rfl (v := (3 : Int32)) (by decide) ?_
          refine g_aloadN hG X21 hx (hb hby d3_99) (pc' := 100) rfl rfl rfl ?_
          refine g_arraylength hG X21 hx hZ e21 V_ids (hb hby d3_100) (pc' := 101) rfl ?_
          refine g_callS hG X21 hx hZ (y := (⟨"java/lang/Math", "min", "(II)I"⟩ : MethodName)) 0 hown (wd hw 16 rfl) (wd hw 17 rfl) (wd hw 8 rfl) (wd hw 18 rfl) (by decide) (rmMI l Z a0 hw [] (3 : Int32) (3 : Int32) (3 : Int32) h21 n0 Zs (by decide)) (by decide) (by decide) (by rw [hml]; rfl) pd_3 rfl (argsL := [(.int 3), (.int 3)]) (rest := []) rfl rfl (Nat.le_of_eq rfl) (hb hby d3_101) e21 (by decide) (by decide) (pc' := 104) rfl ?_
          intro T22 rv22 L22 X22 hQ22
          obtain ⟨rfl, Nq22, eh22⟩ := hQ22
          have NF22 := Fr.app NF21 Nq22
          show G (T22.setTop (mkF m 104 _ [(.int 3)]))
          refine g_istore hG X22 hx (hb hby d3_104) (pc' := 106) rfl (Ls' := #[.val (.ref a), .val (.long lim), .second, .val (.ref ids), .val (.int 3), .val (.int 2), .val (.int 0), .val (.int 2)]) rfl ?_
          refine g_iinc hG X22 hx (hb hby d3_106) (pc' := 109) rfl rfl (v := (3 : Int32)) (by decide) (Ls' := #[.val (.ref a), .val (.long lim), .second, .val (.ref ids), .val (.int 3), .val (.int 3), .val (.int 0), .val (.int 2)]) rfl ?_
          refine g_goto hG X22 hx (hb hby d3_109) (pc' := 17) (by decide) (by decide) ?_
          exact J3 _ _ _ (2 : Int32) p0 p1 (0 : Int32) (2 : Int32) X22 eh22 NF22 Zs K21 V_a V_ids (st_2_2_3_0 b01 b02 b03 b12 b13 b23 p0 p1 TR HT2 g2_1 g2_0)
        · skip
          refine g_ifYes hG Xj4 hx (hb hby d3_46) (pc' := 55) (by rcases gt_no (BT (2 : Int32) p0 (by decide) (in4_of bp0.1 (by omega))) g2_0 with z | z <;> rw [← q45_1, z] <;> rfl) (by decide) (by decide) ?_
          refine g_iload hG Xj4 hx (hb hby d3_55) (pc' := 57) rfl rfl ?_
          refine g_aloadN hG Xj4 hx (hb hby d3_57) (pc' := 58) rfl rfl rfl ?_
          refine g_arraylength hG Xj4 hx hZ ej4 V_ids (hb hby d3_58) (pc' := 59) rfl ?_
          refine g_icmpNo hG Xj4 hx (hb hby d3_59) (pc' := 62) (by decide) rfl ?_
          refine g_iload hG Xj4 hx (hb hby d3_62) (pc' := 64) rfl rfl ?_
          refine g_aloadN hG Xj4 hx (hb hby d3_64) (pc' := 65) rfl rfl rfl ?_
          refine g_arraylength hG Xj4 hx hZ ej4 V_ids (hb hby d3_65) (pc' := 66) rfl ?_
          refine g_iconst hG Xj4 hx (hb hby d3_66) (pc' := 67) rfl (v := (1 : Int32)) rfl ?_
          refine g_isub hG Xj4 hx (hb hby d3_67) (pc' := 68) rfl (v := (2 : Int32)) (by decide) ?_
          refine g_callS hG Xj4 hx hZ (y := (⟨"java/lang/Math", "min", "(II)I"⟩ : MethodName)) 0 hown (wd hw 16 rfl) (wd hw 17 rfl) (wd hw 8 rfl) (wd hw 18 rfl) (by decide) (rmMI l Z a0 hw [] (2 : Int32) (2 : Int32) (2 : Int32) hj4 n0 Zs (by decide)) (by decide) (by decide) (by rw [hml]; rfl) pd_3 rfl (argsL := [(.int 2), (.int 2)]) (rest := []) rfl rfl (Nat.le_of_eq rfl) (hb hby d3_68) ej4 (by decide) (by decide) (pc' := 71) rfl ?_
          intro T23 rv23 L23 X23 hQ23
          obtain ⟨rfl, Nq23, eh23⟩ := hQ23
          have NF23 := Fr.app NFj4 Nq23
          show G (T23.setTop (mkF m 71 _ [(.int 2)]))
          refine g_istore hG X23 hx (hb hby d3_71) (pc' := 73) rfl (Ls' := #[.val (.ref a), .val (.long lim), .second, .val (.ref ids), .val (.int 2), .val (.int 2), .val (.int 1), .val (.int 2)]) rfl ?_
          refine g_aloadN hG X23 hx (hb hby d3_73) (pc' := 74) rfl rfl rfl ?_
          refine g_iload hG X23 hx (hb hby d3_74) (pc' := 76) rfl rfl ?_
          refine g_aloadN hG X23 hx (hb hby d3_76) (pc' := 77) rfl rfl rfl ?_
          refine g_iload hG X23 hx (hb hby d3_77) (pc' := 79) rfl rfl ?_
          refine g_iconst hG X23 hx (hb hby d3_79) (pc' := 80) rfl (v := (1 : Int32)) rfl ?_
          refine g_iadd hG X23 hx (hb hby d3_80) (pc' := 81) rfl (v := (2 : Int32)) (by decide) ?_
          refine g_iload hG X23 hx (hb hby d3_81) (pc' := 83) rfl rfl ?_
          refine g_iload hG X23 hx (hb hby d3_83) (pc' := 85) rfl rfl ?_
          refine g_isub hG X23 hx (hb hby d3_85) (pc' := 86) rfl (v := (1 : Int32)) (by decide) ?_
          refine g_copy hG X23 hx hZ hown (wd hw 19 rfl) (wd hw 22 rfl) (wd hw 20 rfl) (wd hw 21 rfl) eh23 V_ids V_ids rfl (by decide) (by decide) (by decide) (by decide) (by decide) (vr := [(.int p0), (.int p1), (.int p1)]) rfl NF23 ge_ids (by rw [hml]; rfl) (hb hby d3_86) (by decide) 0 (Nat.le_of_eq rfl) (by decide) (pc' := 89) rfl ?_
          intro T24 h24 L24 X24 e24 NF24 Kq24 Vn24
          have V_ids := Vn24
          have V_a := V_a.keep Kq24 (ninS ne_a_ids nin0)
          have Zs := Nat.le_trans Zs Kq24.1
          have K24 := Kj4.trans Kq24 (allS (Or.inr sz_ids) all0)
          show G (T24.setTop (mkF m 89 _ []))
          refine g_aloadN hG X24 hx (hb hby d3_89) (pc' := 90) rfl rfl rfl ?_
          refine g_iload hG X24 hx (hb hby d3_90) (pc' := 92) rfl rfl ?_
          refine g_iload hG X24 hx (hb hby d3_92) (pc' := 94) rfl rfl ?_
          refine g_iastore hG X24 hx hZ e24 V_ids (j := (1 : Int32)) (by decide) (show Int32.toNatClampNeg (1 : Int32) < 3 by decide) (hb hby d3_94) (pc' := 95) rfl ?_
          intro T25 h25 X25 e25 W25 Vn25
          have V_ids : AV Z h25 ids .int (3 : Int32) [(.int p0), (.int 2), (.int p1)] := Vn25
          have V_a := V_a.other W25 ne_a_ids
          have Zs := Nat.le_trans Zs (Wr.size W25)
          have NF25 := Fr.snoc X25 NF24 ge_ids
          have K25 := K24.wr W25 (Or.inr sz_ids)
          refine g_iload hG X25 hx (hb hby d3_95) (pc' := 97) rfl rfl ?_
          refine g_iconst hG X25 hx (hb hby d3_97) (pc' := 98) rfl (v := (1 : Int32)) rfl ?_
          refine g_iadd hG X25 hx (hb hby d3_98) (pc' := 99) rfl (v := (3 : Int32)) (by decide) ?_
          refine g_aloadN hG X25 hx (hb hby d3_99) (pc' := 100) rfl rfl rfl ?_
          refine g_arraylength hG X25 hx hZ e25 V_ids (hb hby d3_100) (pc' := 101) rfl ?_
          refine g_callS hG X25 hx hZ (y := (⟨"java/lang/Math", "min", "(II)I"⟩ : MethodName)) 0 hown (wd hw 16 rfl) (wd hw 17 rfl) (wd hw 8 rfl) (wd hw 18 rfl) (by decide) (rmMI l Z a0 hw [] (3 : Int32) (3 : Int32) (3 : Int32) h25 n0 Zs (by decide)) (by decide) (by decide) (by rw [hml]; rfl) pd_3 rfl (argsL := [(.int 3), (.int 3)]) (rest := []) rfl rfl (Nat.le_of_eq rfl) (hb hby d3_101) e25 (by decide) (by decide) (pc' := 104) rfl ?_
          intro T26 rv26 L26 X26 hQ26
          obtain ⟨rfl, Nq26, eh26⟩ := hQ26
          have NF26 := Fr.app NF25 Nq26
          show G (T26.setTop (mkF m 104 _ [(.int 3)]))
          refine g_istore hG X26 hx (hb hby d3_104) (pc' := 106) rfl (Ls' := #[.val (.ref a), .val (.long lim), .second, .val (.ref ids), .val (.int 3), .val (.int 2), .val (.int 1), .val (.int 2)]) rfl ?_
          refine g_iinc hG X26 hx (hb hby d3_106) (pc' := 109) rfl rfl (v := (3 : Int32)) (by decide) (Ls' := #[.val (.ref a), .val (.long lim), .second, .val (.ref ids), .val (.int 3), .val (.int 3), .val (.int 1), .val (.int 2)]) rfl ?_
          refine g_goto hG X26 hx (hb hby d3_109) (pc' := 17) (by decide) (by decide) ?_
          exact J3 _ _ _ p0 (2 : Int32) p1 (1 : Int32) (2 : Int32) X26 eh26 NF26 Zs K25 V_a V_ids (st_2_2_3_1 b01 b02 b03 b12 b13 b23 p0 p1 TR HT2 g2_1 g2_0)
      · skip
        refine g_ifYes hG Xj4 hx (hb hby d3_46) (pc' := 55) (by rcases gt_no (BT (2 : Int32) p1 (by decide) (in4_of bp1.1 (by omega))) g2_1 with z | z <;> rw [← q45, z] <;> rfl) (by decide) (by decide) ?_
        refine g_iload hG Xj4 hx (hb hby d3_55) (pc' := 57) rfl rfl ?_
        refine g_aloadN hG Xj4 hx (hb hby d3_57) (pc' := 58) rfl rfl rfl ?_
        refine g_arraylength hG Xj4 hx hZ ej4 V_ids (hb hby d3_58) (pc' := 59) rfl ?_
        refine g_icmpNo hG Xj4 hx (hb hby d3_59) (pc' := 62) (by decide) rfl ?_
        refine g_iload hG Xj4 hx (hb hby d3_62) (pc' := 64) rfl rfl ?_
        refine g_aloadN hG Xj4 hx (hb hby d3_64) (pc' := 65) rfl rfl rfl ?_
        refine g_arraylength hG Xj4 hx hZ ej4 V_ids (hb hby d3_65) (pc' := 66) rfl ?_
        refine g_iconst hG Xj4 hx (hb hby d3_66) (pc' := 67) rfl (v := (1 : Int32)) rfl ?_
        refine g_isub hG Xj4 hx (hb hby d3_67) (pc' := 68) rfl (v := (2 : Int32)) (by decide) ?_
        refine g_callS hG Xj4 hx hZ (y := (⟨"java/lang/Math", "min", "(II)I"⟩ : MethodName)) 0 hown (wd hw 16 rfl) (wd hw 17 rfl) (wd hw 8 rfl) (wd hw 18 rfl) (by decide) (rmMI l Z a0 hw [] (2 : Int32) (2 : Int32) (2 : Int32) hj4 n0 Zs (by decide)) (by decide) (by decide) (by rw [hml]; rfl) pd_3 rfl (argsL := [(.int 2), (.int 2)]) (rest := []) rfl rfl (Nat.le_of_eq rfl) (hb hby d3_68) ej4 (by decide) (by decide) (pc' := 71) rfl ?_
        intro T27 rv27 L27 X27 hQ27
        obtain ⟨rfl, Nq27, eh27⟩ := hQ27
        have NF27 := Fr.app NFj4 Nq27
        show G (T27.setTop (mkF m 71 _ [(.int 2)]))
        refine g_istore hG X27 hx (hb hby d3_71) (pc' := 73) rfl (Ls' := #[.val (.ref a), .val (.long lim), .second, .val (.ref ids), .val (.int 2), .val (.int 2), .val (.int 2), .val (.int 2)]) rfl ?_
        refine g_aloadN hG X27 hx (hb hby d3_73) (pc' := 74) rfl rfl rfl ?_
        refine g_iload hG X27 hx (hb hby d3_74) (pc' := 76) rfl rfl ?_
        refine g_aloadN hG X27 hx (hb hby d3_76) (pc' := 77) rfl rfl rfl ?_
        refine g_iload hG X27 hx (hb hby d3_77) (pc' := 79) rfl rfl ?_
        refine g_iconst hG X27 hx (hb hby d3_79) (pc' := 80) rfl (v := (1 : Int32)) rfl ?_
        refine g_iadd hG X27 hx (hb hby d3_80) (pc' := 81) rfl (v := (3 : Int32)) (by decide) ?_
        refine g_iload hG X27 hx (hb hby d3_81) (pc' := 83) rfl rfl ?_
        refine g_iload hG X27 hx (hb hby d3_83) (pc' := 85) rfl rfl ?_
        refine g_isub hG X27 hx (hb hby d3_85) (pc' := 86) rfl (v := (0 : Int32)) (by decide) ?_
        refine g_copy hG X27 hx hZ hown (wd hw 19 rfl) (wd hw 22 rfl) (wd hw 20 rfl) (wd hw 21 rfl) eh27 V_ids V_ids rfl (by decide) (by decide) (by decide) (by decide) (by decide) (vr := [(.int p0), (.int p1), (.int 0)]) rfl NF27 ge_ids (by rw [hml]; rfl) (hb hby d3_86) (by decide) 0 (Nat.le_of_eq rfl) (by decide) (pc' := 89) rfl ?_
        intro T28 h28 L28 X28 e28 NF28 Kq28 Vn28
        have V_ids := Vn28
        have V_a := V_a.keep Kq28 (ninS ne_a_ids nin0)
        have Zs := Nat.le_trans Zs Kq28.1
        have K28 := Kj4.trans Kq28 (allS (Or.inr sz_ids) all0)
        show G (T28.setTop (mkF m 89 _ []))
        refine g_aloadN hG X28 hx (hb hby d3_89) (pc' := 90) rfl rfl rfl ?_
        refine g_iload hG X28 hx (hb hby d3_90) (pc' := 92) rfl rfl ?_
        refine g_iload hG X28 hx (hb hby d3_92) (pc' := 94) rfl rfl ?_
        refine g_iastore hG X28 hx hZ e28 V_ids (j := (2 : Int32)) (by decide) (show Int32.toNatClampNeg (2 : Int32) < 3 by decide) (hb hby d3_94) (pc' := 95) rfl ?_
        intro T29 h29 X29 e29 W29 Vn29
        have V_ids : AV Z h29 ids .int (3 : Int32) [(.int p0), (.int p1), (.int 2)] := Vn29
        have V_a := V_a.other W29 ne_a_ids
        have Zs := Nat.le_trans Zs (Wr.size W29)
        have NF29 := Fr.snoc X29 NF28 ge_ids
        have K29 := K28.wr W29 (Or.inr sz_ids)
        refine g_iload hG X29 hx (hb hby d3_95) (pc' := 97) rfl rfl ?_
        refine g_iconst hG X29 hx (hb hby d3_97) (pc' := 98) rfl (v := (1 : Int32)) rfl ?_
        refine g_iadd hG X29 hx (hb hby d3_98) (pc' := 99) rfl (v := (3 : Int32)) (by decide) ?_
        refine g_aloadN hG X29 hx (hb hby d3_99) (pc' := 100) rfl rfl rfl ?_
        refine g_arraylength hG X29 hx hZ e29 V_ids (hb hby d3_100) (pc' := 101) rfl ?_
        refine g_callS hG X29 hx hZ (y := (⟨"java/lang/Math", "min", "(II)I"⟩ : MethodName)) 0 hown (wd hw 16 rfl) (wd hw 17 rfl) (wd hw 8 rfl) (wd hw 18 rfl) (by decide) (rmMI l Z a0 hw [] (3 : Int32) (3 : Int32) (3 : Int32) h29 n0 Zs (by decide)) (by decide) (by decide) (by rw [hml]; rfl) pd_3 rfl (argsL := [(.int 3), (.int 3)]) (rest := []) rfl rfl (Nat.le_of_eq rfl) (hb hby d3_101) e29 (by decide) (by decide) (pc' := 104) rfl ?_
        intro T30 rv30 L30 X30 hQ30
        obtain ⟨rfl, Nq30, eh30⟩ := hQ30
        have NF30 := Fr.app NF29 Nq30
        show G (T30.setTop (mkF m 104 _ [(.int 3)]))
        refine g_istore hG X30 hx (hb hby d3_104) (pc' := 106) rfl (Ls' := #[.val (.ref a), .val (.long lim), .second, .val (.ref ids), .val (.int 3), .val (.int 2), .val (.int 2), .val (.int 2)]) rfl ?_
        refine g_iinc hG X30 hx (hb hby d3_106) (pc' := 109) rfl rfl (v := (3 : Int32)) (by decide) (Ls' := #[.val (.ref a), .val (.long lim), .second, .val (.ref ids), .val (.int 3), .val (.int 3), .val (.int 2), .val (.int 2)]) rfl ?_
        refine g_goto hG X30 hx (hb hby d3_109) (pc' := 17) (by decide) (by decide) ?_
        exact J3 _ _ _ p0 p1 (2 : Int32) (2 : Int32) (2 : Int32) X30 eh30 NF30 Zs K29 V_a V_ids (st_2_2_3_2 b01 b02 b03 b12 b13 b23 p0 p1 TR HT2 g2_1)
    refine g_iload hG Xj3 hx (hb hby d3_17) (pc' := 19) rfl rfl ?_
    refine g_aloadN hG Xj3 hx (hb hby d3_19) (pc' := 20) rfl rfl rfl ?_
    refine g_arraylength hG Xj3 hx hZ ej3 V_a (hb hby d3_20) (pc' := 21) rfl ?_
    refine g_icmpNo hG Xj3 hx (hb hby d3_21) (pc' := 24) (by decide) rfl ?_
    refine g_iload hG Xj3 hx (hb hby d3_24) (pc' := 26) rfl rfl ?_
    refine g_istore hG Xj3 hx (hb hby d3_26) (pc' := 28) rfl (Ls' := #[.val (.ref a), .val (.long lim), .second, .val (.ref ids), .val (.int 1), .val (.int 1), .val (.int 1), .val (.int w7)]) rfl ?_
    refine g_iload hG Xj3 hx (hb hby d3_28) (pc' := 30) rfl rfl ?_
    refine g_ifNo hG Xj3 hx (hb hby d3_30) (pc' := 33) (by decide) rfl ?_
    refine g_aloadN hG Xj3 hx (hb hby d3_33) (pc' := 34) rfl rfl rfl ?_
    refine g_iload hG Xj3 hx (hb hby d3_34) (pc' := 36) rfl rfl ?_
    refine g_daload hG Xj3 hx hZ ej3 V_a (j := (1 : Int32)) (v := (.double (al (1 : Int32)))) (by decide) rfl (hb hby d3_36) (pc' := 37) rfl ?_
    refine g_aloadN hG Xj3 hx (hb hby d3_37) (pc' := 38) rfl rfl rfl ?_
    refine g_aloadN hG Xj3 hx (hb hby d3_38) (pc' := 39) rfl rfl rfl ?_
    refine g_iload hG Xj3 hx (hb hby d3_39) (pc' := 41) rfl rfl ?_
    refine g_iconst hG Xj3 hx (hb hby d3_41) (pc' := 42) rfl (v := (1 : Int32)) rfl ?_
    refine g_isub hG Xj3 hx (hb hby d3_42) (pc' := 43) rfl (v := (0 : Int32)) (by decide) ?_
    refine g_iaload hG Xj3 hx hZ ej3 V_ids (j := (0 : Int32)) (v := (.int p0)) (by decide) rfl (hb hby d3_43) (pc' := 44) rfl ?_
    refine g_daload hG Xj3 hx hZ ej3 V_a (j := p0) (v := (.double (al p0))) (nn_of bp0.1) (al_at4 (in4_of bp0.1 (by omega))) (hb hby d3_44) (pc' := 45) rfl ?_
    obtain ⟨v45, q45⟩ : ∃ zz : Int32, cmpValue (FP.dcmp (al (1 : Int32)) (al p0)) .l = zz := ⟨_, rfl⟩
    refine g_dcmp hG Xj3 hx (hb hby d3_45) (pc' := 46) rfl q45 ?_
    by_cases g1_0 : (btB b01 b02 b03 b12 b13 b23) (1 : Int32) p0 = true
    · skip
      refine g_ifNo hG Xj3 hx (hb hby d3_46) (pc' := 49) (by rw [← q45, gt_yes (BT (1 : Int32) p0 (by decide) (in4_of bp0.1 (by omega))) (fun g => by have := Int32.lt_iff_toInt_lt.mp g; rw [show (1 : Int32).toInt = 1 by decide] at this; omega) g1_0]; rfl) rfl ?_
      refine g_iinc hG Xj3 hx (hb hby d3_49) (pc' := 52) rfl rfl (v := (0 : Int32)) (by decide) (Ls' := #[.val (.ref a), .val (.long lim), .second, .val (.ref ids), .val (.int 1), .val (.int 1), .val (.int 0), .val (.int w7)]) rfl ?_
      refine g_goto hG Xj3 hx (hb hby d3_52) (pc' := 28) (by decide) (by decide) ?_
      refine g_iload hG Xj3 hx (hb hby d3_28) (pc' := 30) rfl rfl ?_
      refine g_ifYes hG Xj3 hx (hb hby d3_30) (pc' := 55) (by decide) (by decide) (by decide) ?_
      refine g_iload hG Xj3 hx (hb hby d3_55) (pc' := 57) rfl rfl ?_
      refine g_aloadN hG Xj3 hx (hb hby d3_57) (pc' := 58) rfl rfl rfl ?_
      refine g_arraylength hG Xj3 hx hZ ej3 V_ids (hb hby d3_58) (pc' := 59) rfl ?_
      refine g_icmpNo hG Xj3 hx (hb hby d3_59) (pc' := 62) (by decide) rfl ?_
      refine g_iload hG Xj3 hx (hb hby d3_62) (pc' := 64) rfl rfl ?_
      refine g_aloadN hG Xj3 hx (hb hby d3_64) (pc' := 65) rfl rfl rfl ?_
      refine g_arraylength hG Xj3 hx hZ ej3 V_ids (hb hby d3_65) (pc' := 66) rfl ?_
      refine g_iconst hG Xj3 hx (hb hby d3_66) (pc' := 67) rfl (v := (1 : Int32)) rfl ?_
      refine g_isub hG Xj3 hx (hb hby d3_67) (pc' := 68) rfl (v := (2 : Int32)) (by decide) ?_
      refine g_callS hG Xj3 hx hZ (y := (⟨"java/lang/Math", "min", "(II)I"⟩ : MethodName)) 0 hown (wd hw 16 rfl) (wd hw 17 rfl) (wd hw 8 rfl) (wd hw 18 rfl) (by decide) (rmMI l Z a0 hw [] (1 : Int32) (2 : Int32) (1 : Int32) hj3 n0 Zs (by decide)) (by decide) (by decide) (by rw [hml]; rfl) pd_3 rfl (argsL := [(.int 1), (.int 2)]) (rest := []) rfl rfl (Nat.le_of_eq rfl) (hb hby d3_68) ej3 (by decide) (by decide) (pc' := 71) rfl ?_
      intro T31 rv31 L31 X31 hQ31
      obtain ⟨rfl, Nq31, eh31⟩ := hQ31
      have NF31 := Fr.app NFj3 Nq31
      show G (T31.setTop (mkF m 71 _ [(.int 1)]))
      refine g_istore hG X31 hx (hb hby d3_71) (pc' := 73) rfl (Ls' := #[.val (.ref a), .val (.long lim), .second, .val (.ref ids), .val (.int 1), .val (.int 1), .val (.int 0), .val (.int 1)]) rfl ?_
      refine g_aloadN hG X31 hx (hb hby d3_73) (pc' := 74) rfl rfl rfl ?_
      refine g_iload hG X31 hx (hb hby d3_74) (pc' := 76) rfl rfl ?_
      refine g_aloadN hG X31 hx (hb hby d3_76) (pc' := 77) rfl rfl rfl ?_
      refine g_iload hG X31 hx (hb hby d3_77) (pc' := 79) rfl rfl ?_
      refine g_iconst hG X31 hx (hb hby d3_79) (pc' := 80) rfl (v := (1 : Int32)) rfl ?_
      refine g_iadd hG X31 hx (hb hby d3_80) (pc' := 81) rfl (v := (1 : Int32)) (by decide) ?_
      refine g_iload hG X31 hx (hb hby d3_81) (pc' := 83) rfl rfl ?_
      refine g_iload hG X31 hx (hb hby d3_83) (pc' := 85) rfl rfl ?_
      refine g_isub hG X31 hx (hb hby d3_85) (pc' := 86) rfl (v := (1 : Int32)) (by decide) ?_
      refine g_copy hG X31 hx hZ hown (wd hw 19 rfl) (wd hw 22 rfl) (wd hw 20 rfl) (wd hw 21 rfl) eh31 V_ids V_ids rfl (by decide) (by decide) (by decide) (by decide) (by decide) (vr := [(.int p0), (.int p0), (.int 0)]) rfl NF31 ge_ids (by rw [hml]; rfl) (hb hby d3_86) (by decide) 0 (Nat.le_of_eq rfl) (by decide) (pc' := 89) rfl ?_
      intro T32 h32 L32 X32 e32 NF32 Kq32 Vn32
      have V_ids := Vn32
      have V_a := V_a.keep Kq32 (ninS ne_a_ids nin0)
      have Zs := Nat.le_trans Zs Kq32.1
      have K32 := Kj3.trans Kq32 (allS (Or.inr sz_ids) all0)
      show G (T32.setTop (mkF m 89 _ []))
      refine g_aloadN hG X32 hx (hb hby d3_89) (pc' := 90) rfl rfl rfl ?_
      refine g_iload hG X32 hx (hb hby d3_90) (pc' := 92) rfl rfl ?_
      refine g_iload hG X32 hx (hb hby d3_92) (pc' := 94) rfl rfl ?_
      refine g_iastore hG X32 hx hZ e32 V_ids (j := (0 : Int32)) (by decide) (show Int32.toNatClampNeg (0 : Int32) < 3 by decide) (hb hby d3_94) (pc' := 95) rfl ?_
      intro T33 h33 X33 e33 W33 Vn33
      have V_ids : AV Z h33 ids .int (3 : Int32) [(.int 1), (.int p0), (.int 0)] := Vn33
      have V_a := V_a.other W33 ne_a_ids
      have Zs := Nat.le_trans Zs (Wr.size W33)
      have NF33 := Fr.snoc X33 NF32 ge_ids
      have K33 := K32.wr W33 (Or.inr sz_ids)
      refine g_iload hG X33 hx (hb hby d3_95) (pc' := 97) rfl rfl ?_
      refine g_iconst hG X33 hx (hb hby d3_97) (pc' := 98) rfl (v := (1 : Int32)) rfl ?_
      refine g_iadd hG X33 hx (hb hby d3_98) (pc' := 99) rfl (v := (2 : Int32)) (by decide) ?_
      refine g_aloadN hG X33 hx (hb hby d3_99) (pc' := 100) rfl rfl rfl ?_
      refine g_arraylength hG X33 hx hZ e33 V_ids (hb hby d3_100) (pc' := 101) rfl ?_
      refine g_callS hG X33 hx hZ (y := (⟨"java/lang/Math", "min", "(II)I"⟩ : MethodName)) 0 hown (wd hw 16 rfl) (wd hw 17 rfl) (wd hw 8 rfl) (wd hw 18 rfl) (by decide) (rmMI l Z a0 hw [] (2 : Int32) (3 : Int32) (2 : Int32) h33 n0 Zs (by decide)) (by decide) (by decide) (by rw [hml]; rfl) pd_3 rfl (argsL := [(.int 2), (.int 3)]) (rest := []) rfl rfl (Nat.le_of_eq rfl) (hb hby d3_101) e33 (by decide) (by decide) (pc' := 104) rfl ?_
      intro T34 rv34 L34 X34 hQ34
      obtain ⟨rfl, Nq34, eh34⟩ := hQ34
      have NF34 := Fr.app NF33 Nq34
      show G (T34.setTop (mkF m 104 _ [(.int 2)]))
      refine g_istore hG X34 hx (hb hby d3_104) (pc' := 106) rfl (Ls' := #[.val (.ref a), .val (.long lim), .second, .val (.ref ids), .val (.int 2), .val (.int 1), .val (.int 0), .val (.int 1)]) rfl ?_
      refine g_iinc hG X34 hx (hb hby d3_106) (pc' := 109) rfl rfl (v := (2 : Int32)) (by decide) (Ls' := #[.val (.ref a), .val (.long lim), .second, .val (.ref ids), .val (.int 2), .val (.int 2), .val (.int 0), .val (.int 1)]) rfl ?_
      refine g_goto hG X34 hx (hb hby d3_109) (pc' := 17) (by decide) (by decide) ?_
      exact J2 _ _ _ (1 : Int32) p0 (0 : Int32) (1 : Int32) X34 eh34 NF34 Zs K33 V_a V_ids (st_1_1_3_0 b01 b02 b03 b12 b13 b23 p0 TR HT1 g1_0)
    · skip
      refine g_ifYes hG Xj3 hx (hb hby d3_46) (pc' := 55) (by rcases gt_no (BT (1 : Int32) p0 (by decide) (in4_of bp0.1 (by omega))) g1_0 with z | z <;> rw [← q45, z] <;> rfl) (by decide) (by decide) ?_
      refine g_iload hG Xj3 hx (hb hby d3_55) (pc' := 57) rfl rfl ?_
      refine g_aloadN hG Xj3 hx (hb hby d3_57) (pc' := 58) rfl rfl rfl ?_
      refine g_arraylength hG Xj3 hx hZ ej3 V_ids (hb hby d3_58) (pc' := 59) rfl ?_
      refine g_icmpNo hG Xj3 hx (hb hby d3_59) (pc' := 62) (by decide) rfl ?_
      refine g_iload hG Xj3 hx (hb hby d3_62) (pc' := 64) rfl rfl ?_
      refine g_aloadN hG Xj3 hx (hb hby d3_64) (pc' := 65) rfl rfl rfl ?_
      refine g_arraylength hG Xj3 hx hZ ej3 V_ids (hb hby d3_65) (pc' := 66) rfl ?_
      refine g_iconst hG Xj3 hx (hb hby d3_66) (pc' := 67) rfl (v := (1 : Int32)) rfl ?_
      refine g_isub hG Xj3 hx (hb hby d3_67) (pc' := 68) rfl (v := (2 : Int32)) (by decide) ?_
      refine g_callS hG Xj3 hx hZ (y := (⟨"java/lang/Math", "min", "(II)I"⟩ : MethodName)) 0 hown (wd hw 16 rfl) (wd hw 17 rfl) (wd hw 8 rfl) (wd hw 18 rfl) (by decide) (rmMI l Z a0 hw [] (1 : Int32) (2 : Int32) (1 : Int32) hj3 n0 Zs (by decide)) (by decide) (by decide) (by rw [hml]; rfl) pd_3 rfl (argsL := [(.int 1), (.int 2)]) (rest := []) rfl rfl (Nat.le_of_eq rfl) (hb hby d3_68) ej3 (by decide) (by decide) (pc' := 71) rfl ?_
      intro T35 rv35 L35 X35 hQ35
      obtain ⟨rfl, Nq35, eh35⟩ := hQ35
      have NF35 := Fr.app NFj3 Nq35
      show G (T35.setTop (mkF m 71 _ [(.int 1)]))
      refine g_istore hG X35 hx (hb hby d3_71) (pc' := 73) rfl (Ls' := #[.val (.ref a), .val (.long lim), .second, .val (.ref ids), .val (.int 1), .val (.int 1), .val (.int 1), .val (.int 1)]) rfl ?_
      refine g_aloadN hG X35 hx (hb hby d3_73) (pc' := 74) rfl rfl rfl ?_
      refine g_iload hG X35 hx (hb hby d3_74) (pc' := 76) rfl rfl ?_
      refine g_aloadN hG X35 hx (hb hby d3_76) (pc' := 77) rfl rfl rfl ?_
      refine g_iload hG X35 hx (hb hby d3_77) (pc' := 79) rfl rfl ?_
      refine g_iconst hG X35 hx (hb hby d3_79) (pc' := 80) rfl (v := (1 : Int32)) rfl ?_
      refine g_iadd hG X35 hx (hb hby d3_80) (pc' := 81) rfl (v := (2 : Int32)) (by decide) ?_
      refine g_iload hG X35 hx (hb hby d3_81) (pc' := 83) rfl rfl ?_
      refine g_iload hG X35 hx (hb hby d3_83) (pc' := 85) rfl rfl ?_
      refine g_isub hG X35 hx (hb hby d3_85) (pc' := 86) rfl (v := (0 : Int32)) (by decide) ?_
      refine g_copy hG X35 hx hZ hown (wd hw 19 rfl) (wd hw 22 rfl) (wd hw 20 rfl) (wd hw 21 rfl) eh35 V_ids V_ids rfl (by decide) (by decide) (by decide) (by decide) (by decide) (vr := [(.int p0), (.int 0), (.int 0)]) rfl NF35 ge_ids (by rw [hml]; rfl) (hb hby d3_86) (by decide) 0 (Nat.le_of_eq rfl) (by decide) (pc' := 89) rfl ?_
      intro T36 h36 L36 X36 e36 NF36 Kq36 Vn36
      have V_ids := Vn36
      have V_a := V_a.keep Kq36 (ninS ne_a_ids nin0)
      have Zs := Nat.le_trans Zs Kq36.1
      have K36 := Kj3.trans Kq36 (allS (Or.inr sz_ids) all0)
      show G (T36.setTop (mkF m 89 _ []))
      refine g_aloadN hG X36 hx (hb hby d3_89) (pc' := 90) rfl rfl rfl ?_
      refine g_iload hG X36 hx (hb hby d3_90) (pc' := 92) rfl rfl ?_
      refine g_iload hG X36 hx (hb hby d3_92) (pc' := 94) rfl rfl ?_
      refine g_iastore hG X36 hx hZ e36 V_ids (j := (1 : Int32)) (by decide) (show Int32.toNatClampNeg (1 : Int32) < 3 by decide) (hb hby d3_94) (pc' := 95) rfl ?_
      intro T37 h37 X37 e37 W37 Vn37
      have V_ids : AV Z h37 ids .int (3 : Int32) [(.int p0), (.int 1), (.int 0)] := Vn37
      have V_a := V_a.other W37 ne_a_ids
      have Zs := Nat.le_trans Zs (Wr.size W37)
      have NF37 := Fr.snoc X37 NF36 ge_ids
      have K37 := K36.wr W37 (Or.inr sz_ids)
      refine g_iload hG X37 hx (hb hby d3_95) (pc' := 97) rfl rfl ?_
      refine g_iconst hG X37 hx (hb hby d3_97) (pc' := 98) rfl (v := (1 : Int32)) rfl ?_
      refine g_iadd hG X37 hx (hb hby d3_98) (pc' := 99) rfl (v := (2 : Int32)) (by decide) ?_
      refine g_aloadN hG X37 hx (hb hby d3_99) (pc' := 100) rfl rfl rfl ?_
      refine g_arraylength hG X37 hx hZ e37 V_ids (hb hby d3_100) (pc' := 101) rfl ?_
      refine g_callS hG X37 hx hZ (y := (⟨"java/lang/Math", "min", "(II)I"⟩ : MethodName)) 0 hown (wd hw 16 rfl) (wd hw 17 rfl) (wd hw 8 rfl) (wd hw 18 rfl) (by decide) (rmMI l Z a0 hw [] (2 : Int32) (3 : Int32) (2 : Int32) h37 n0 Zs (by decide)) (by decide) (by decide) (by rw [hml]; rfl) pd_3 rfl (argsL := [(.int 2), (.int 3)]) (rest := []) rfl rfl (Nat.le_of_eq rfl) (hb hby d3_101) e37 (by decide) (by decide) (pc' := 104) rfl ?_
      intro T38 rv38 L38 X38 hQ38
      obtain ⟨rfl, Nq38, eh38⟩ := hQ38
      have NF38 := Fr.app NF37 Nq38
      show G (T38.setTop (mkF m 104 _ [(.int 2)]))
      refine g_istore hG X38 hx (hb hby d3_104) (pc' := 106) rfl (Ls' := #[.val (.ref a), .val (.long lim), .second, .val (.ref ids), .val (.int 2), .val (.int 1), .val (.int 1), .val (.int 1)]) rfl ?_
      refine g_iinc hG X38 hx (hb hby d3_106) (pc' := 109) rfl rfl (v := (2 : Int32)) (by decide) (Ls' := #[.val (.ref a), .val (.long lim), .second, .val (.ref ids), .val (.int 2), .val (.int 2), .val (.int 1), .val (.int 1)]) rfl ?_
      refine g_goto hG X38 hx (hb hby d3_109) (pc' := 17) (by decide) (by decide) ?_
      exact J2 _ _ _ p0 (1 : Int32) (1 : Int32) (1 : Int32) X38 eh38 NF38 Zs K37 V_a V_ids (st_1_1_3_1 b01 b02 b03 b12 b13 b23 p0 TR HT1 g1_0)
  refine g_iload hG X2 hx (hb hby d3_17) (pc' := 19) rfl rfl ?_
  refine g_aloadN hG X2 hx (hb hby d3_19) (pc' := 20) rfl rfl rfl ?_
  refine g_arraylength hG X2 hx hZ e2 V_a (hb hby d3_20) (pc' := 21) rfl ?_
  refine g_icmpNo hG X2 hx (hb hby d3_21) (pc' := 24) (by decide) rfl ?_
  refine g_iload hG X2 hx (hb hby d3_24) (pc' := 26) rfl rfl ?_
  refine g_istore hG X2 hx (hb hby d3_26) (pc' := 28) rfl (Ls' := #[.val (.ref a), .val (.long lim), .second, .val (.ref ids), .val (.int 0), .val (.int 0), .val (.int 0), .unset]) rfl ?_
  refine g_iload hG X2 hx (hb hby d3_28) (pc' := 30) rfl rfl ?_
  refine g_ifYes hG X2 hx (hb hby d3_30) (pc' := 55) (by decide) (by decide) (by decide) ?_
  refine g_iload hG X2 hx (hb hby d3_55) (pc' := 57) rfl rfl ?_
  refine g_aloadN hG X2 hx (hb hby d3_57) (pc' := 58) rfl rfl rfl ?_
  refine g_arraylength hG X2 hx hZ e2 V_ids (hb hby d3_58) (pc' := 59) rfl ?_
  refine g_icmpNo hG X2 hx (hb hby d3_59) (pc' := 62) (by decide) rfl ?_
  refine g_iload hG X2 hx (hb hby d3_62) (pc' := 64) rfl rfl ?_
  refine g_aloadN hG X2 hx (hb hby d3_64) (pc' := 65) rfl rfl rfl ?_
  refine g_arraylength hG X2 hx hZ e2 V_ids (hb hby d3_65) (pc' := 66) rfl ?_
  refine g_iconst hG X2 hx (hb hby d3_66) (pc' := 67) rfl (v := (1 : Int32)) rfl ?_
  refine g_isub hG X2 hx (hb hby d3_67) (pc' := 68) rfl (v := (2 : Int32)) (by decide) ?_
  refine g_callS hG X2 hx hZ (y := (⟨"java/lang/Math", "min", "(II)I"⟩ : MethodName)) 0 hown (wd hw 16 rfl) (wd hw 17 rfl) (wd hw 8 rfl) (wd hw 18 rfl) (by decide) (rmMI l Z a0 hw [] (0 : Int32) (2 : Int32) (0 : Int32) h2 n0 Zs (by decide)) (by decide) (by decide) (by rw [hml]; rfl) pd_3 rfl (argsL := [(.int 0), (.int 2)]) (rest := []) rfl rfl (Nat.le_of_eq rfl) (hb hby d3_68) e2 (by decide) (by decide) (pc' := 71) rfl ?_
  intro T39 rv39 L39 X39 hQ39
  obtain ⟨rfl, Nq39, eh39⟩ := hQ39
  have NF39 := Fr.app NF1 Nq39
  show G (T39.setTop (mkF m 71 _ [(.int 0)]))
  refine g_istore hG X39 hx (hb hby d3_71) (pc' := 73) rfl (Ls' := #[.val (.ref a), .val (.long lim), .second, .val (.ref ids), .val (.int 0), .val (.int 0), .val (.int 0), .val (.int 0)]) rfl ?_
  refine g_aloadN hG X39 hx (hb hby d3_73) (pc' := 74) rfl rfl rfl ?_
  refine g_iload hG X39 hx (hb hby d3_74) (pc' := 76) rfl rfl ?_
  refine g_aloadN hG X39 hx (hb hby d3_76) (pc' := 77) rfl rfl rfl ?_
  refine g_iload hG X39 hx (hb hby d3_77) (pc' := 79) rfl rfl ?_
  refine g_iconst hG X39 hx (hb hby d3_79) (pc' := 80) rfl (v := (1 : Int32)) rfl ?_
  refine g_iadd hG X39 hx (hb hby d3_80) (pc' := 81) rfl (v := (1 : Int32)) (by decide) ?_
  refine g_iload hG X39 hx (hb hby d3_81) (pc' := 83) rfl rfl ?_
  refine g_iload hG X39 hx (hb hby d3_83) (pc' := 85) rfl rfl ?_
  refine g_isub hG X39 hx (hb hby d3_85) (pc' := 86) rfl (v := (0 : Int32)) (by decide) ?_
  refine g_copy hG X39 hx hZ hown (wd hw 19 rfl) (wd hw 22 rfl) (wd hw 20 rfl) (wd hw 21 rfl) eh39 V_ids V_ids rfl (by decide) (by decide) (by decide) (by decide) (by decide) (vr := [(.int 0), (.int 0), (.int 0)]) rfl NF39 ge_ids (by rw [hml]; rfl) (hb hby d3_86) (by decide) 0 (Nat.le_of_eq rfl) (by decide) (pc' := 89) rfl ?_
  intro T40 h40 L40 X40 e40 NF40 Kq40 Vn40
  have V_ids := Vn40
  have V_a := V_a.keep Kq40 (ninS ne_a_ids nin0)
  have Zs := Nat.le_trans Zs Kq40.1
  have K40 := K2.trans Kq40 (allS (Or.inr sz_ids) all0)
  show G (T40.setTop (mkF m 89 _ []))
  refine g_aloadN hG X40 hx (hb hby d3_89) (pc' := 90) rfl rfl rfl ?_
  refine g_iload hG X40 hx (hb hby d3_90) (pc' := 92) rfl rfl ?_
  refine g_iload hG X40 hx (hb hby d3_92) (pc' := 94) rfl rfl ?_
  refine g_iastore hG X40 hx hZ e40 V_ids (j := (0 : Int32)) (by decide) (show Int32.toNatClampNeg (0 : Int32) < 3 by decide) (hb hby d3_94) (pc' := 95) rfl ?_
  intro T41 h41 X41 e41 W41 Vn41
  have V_ids : AV Z h41 ids .int (3 : Int32) [(.int 0), (.int 0), (.int 0)] := Vn41
  have V_a := V_a.other W41 ne_a_ids
  have Zs := Nat.le_trans Zs (Wr.size W41)
  have NF41 := Fr.snoc X41 NF40 ge_ids
  have K41 := K40.wr W41 (Or.inr sz_ids)
  refine g_iload hG X41 hx (hb hby d3_95) (pc' := 97) rfl rfl ?_
  refine g_iconst hG X41 hx (hb hby d3_97) (pc' := 98) rfl (v := (1 : Int32)) rfl ?_
  refine g_iadd hG X41 hx (hb hby d3_98) (pc' := 99) rfl (v := (1 : Int32)) (by decide) ?_
  refine g_aloadN hG X41 hx (hb hby d3_99) (pc' := 100) rfl rfl rfl ?_
  refine g_arraylength hG X41 hx hZ e41 V_ids (hb hby d3_100) (pc' := 101) rfl ?_
  refine g_callS hG X41 hx hZ (y := (⟨"java/lang/Math", "min", "(II)I"⟩ : MethodName)) 0 hown (wd hw 16 rfl) (wd hw 17 rfl) (wd hw 8 rfl) (wd hw 18 rfl) (by decide) (rmMI l Z a0 hw [] (1 : Int32) (3 : Int32) (1 : Int32) h41 n0 Zs (by decide)) (by decide) (by decide) (by rw [hml]; rfl) pd_3 rfl (argsL := [(.int 1), (.int 3)]) (rest := []) rfl rfl (Nat.le_of_eq rfl) (hb hby d3_101) e41 (by decide) (by decide) (pc' := 104) rfl ?_
  intro T42 rv42 L42 X42 hQ42
  obtain ⟨rfl, Nq42, eh42⟩ := hQ42
  have NF42 := Fr.app NF41 Nq42
  show G (T42.setTop (mkF m 104 _ [(.int 1)]))
  refine g_istore hG X42 hx (hb hby d3_104) (pc' := 106) rfl (Ls' := #[.val (.ref a), .val (.long lim), .second, .val (.ref ids), .val (.int 1), .val (.int 0), .val (.int 0), .val (.int 0)]) rfl ?_
  refine g_iinc hG X42 hx (hb hby d3_106) (pc' := 109) rfl rfl (v := (1 : Int32)) (by decide) (Ls' := #[.val (.ref a), .val (.long lim), .second, .val (.ref ids), .val (.int 1), .val (.int 1), .val (.int 0), .val (.int 0)]) rfl ?_
  refine g_goto hG X42 hx (hb hby d3_109) (pc' := 17) (by decide) (by decide) ?_
  exact J1 _ _ _ (0 : Int32) (0 : Int32) (0 : Int32) X42 eh42 NF42 Zs K41 V_a V_ids (st_0_0_3_0 b01 b02 b03 b12 b13 b23  TR HT0 )

def Q_rmCk4_4_0 (Z : State) (a ids : Addr) (al : Int32 → UInt64) (bt : Int32 → Int32 → Bool) (p0 p1 p2 p3 : Int32) (h0 : Heap) (n0 : Nat) (v : Option Value) (h : Heap) (L : List Loc) : Prop := v = some (.int 1) ∧ Fr n0 L ∧ h = h0
set_option maxRecDepth 65536 in
set_option maxHeartbeats 40000000 in
theorem rmCk4_4_0 (l : Launch) (Z : State) (a0 : Array Value) (hw : ∀ d ∈ tables_1, d.before a0 Z = true) (ws : List Jvm.Cond) (a ids : Addr) (al : Int32 → UInt64) (bt : Int32 → Int32 → Bool) (p0 p1 p2 p3 : Int32) (h0 : Heap) (n0 : Nat) (Zs : n0 ≤ h0.size) (V_a : AV Z h0 a .double (4 : Int32) [(.double (al (0 : Int32))), (.double (al (1 : Int32))), (.double (al (2 : Int32))), (.double (al (3 : Int32)))]) (V_ids : AV Z h0 ids .int (4 : Int32) [(.int p0), (.int p1), (.int p2), (.int p3)]) (HT : tops bt 4 0 [p0, p1, p2, p3] = true) (BT : ∀ x y, In4 x → In4 y → BtR al x y (bi bt x y)) :
    Con l (⟨"com/example/gauge_terms/gaugeterms/TopValuesPositionsPinLaw", "check", "([D[II)Z"⟩ : MethodName) method_5_code 4 (some .boolean) ws ({ frames := 2, cells := 0, slots := 0, locals := 56 } : Room) Z #[(.ref a), (.ref ids), (.int 0)] h0 ({ frames := 2, cells := 0, slots := 0, locals := 56 } : Room).cells ({ frames := 2, cells := 0, slots := 0, locals := 56 } : Room).slots (Q_rmCk4_4_0 Z a ids al bt p0 p1 p2 p3 h0 n0) := by
  refine Con.of (Ls := #[.val (.ref a), .val (.ref ids), .val (.int 0), .unset]) (plainFor_of_name (by first | (simp [plainName, overriddenIn]; done) | decide +kernel)) (fun m => by first | (simp [entryFrame, mkF, argsToLocals, Value.category]; done) | rfl) ?_
  intro p e s m below meth c s₁ G hGe hG hx hby hml hown hnm hrt hlk hZ X0 e0
  have hown : s.vm.findClass "com/example/gauge_terms/gaugeterms/TopValuesPositionsPinLaw" = some m.cls := hown
  have hnm : meth.name = "check" := hnm
  have NF0 := Fr.nil n0
  have bj : 0 ≤ p0.toInt ∧ p0.toInt < 4 := tops_b HT p0 (by simp)
  have rj : rk4 bt p0 = (0 : Int32) := tops_r HT 0 p0 rfl
  refine g_iloadN hG X0 hx (hb hby d5_0) (pc' := 1) rfl rfl ?_
  refine g_aloadN hG X0 hx (hb hby d5_1) (pc' := 2) rfl rfl rfl ?_
  refine g_arraylength hG X0 hx hZ e0 V_ids (hb hby d5_2) (pc' := 3) rfl ?_
  refine g_icmpYes hG X0 hx (hb hby d5_3) (pc' := 8) (by decide) (by decide) (by decide) ?_
  refine g_aloadN hG X0 hx (hb hby d5_8) (pc' := 9) rfl rfl rfl ?_
  refine g_iloadN hG X0 hx (hb hby d5_9) (pc' := 10) rfl rfl ?_
  refine g_iaload hG X0 hx hZ e0 V_ids (j := (0 : Int32)) (v := (.int p0)) (by decide) rfl (hb hby d5_10) (pc' := 11) rfl ?_
  refine g_istoreN hG X0 hx (hb hby d5_11) (pc' := 12) rfl (Ls' := #[.val (.ref a), .val (.ref ids), .val (.int 0), .val (.int p0)]) rfl ?_
  refine g_iloadN hG X0 hx (hb hby d5_12) (pc' := 13) rfl rfl ?_
  refine g_ifNo hG X0 hx (hb hby d5_13) (pc' := 16) ((if0 _ _).trans (flt (nn_of bj.1)).1) rfl ?_
  refine g_iloadN hG X0 hx (hb hby d5_16) (pc' := 17) rfl rfl ?_
  refine g_aloadN hG X0 hx (hb hby d5_17) (pc' := 18) rfl rfl rfl ?_
  refine g_arraylength hG X0 hx hZ e0 V_a (hb hby d5_18) (pc' := 19) rfl ?_
  refine g_icmpYes hG X0 hx (hb hby d5_19) (pc' := 24) ((tlt (Int32.lt_iff_toInt_lt.mpr (by rw [show (4 : Int32).toInt = 4 by decide]; exact bj.2))).1) (by decide) (by decide) ?_
  refine g_aloadN hG X0 hx (hb hby d5_24) (pc' := 25) rfl rfl rfl ?_
  refine g_iloadN hG X0 hx (hb hby d5_25) (pc' := 26) rfl rfl ?_
  refine g_callS hG X0 hx hZ (y := (⟨"com/example/gauge_terms/gaugeterms/TopValuesPositionsPinLaw", "rank", "([DI)I"⟩ : MethodName)) 0 hown (wd hw 26 rfl) (wd hw 27 rfl) (wd hw 3 rfl) (wd hw 28 rfl) (by decide) (rmRk4 l Z a0 hw [] a al bt p0 (0 : Int32) h0 n0 Zs V_a bj BT rj) (by decide) (by decide) (by rw [hml]; rfl) pd_2 rfl (argsL := [(.ref a), (.int p0)]) (rest := []) rfl rfl (Nat.le_of_eq rfl) (hb hby d5_26) e0 (by decide) (by decide) (pc' := 29) rfl ?_
  intro T1 rv1 L1 X1 hQ1
  obtain ⟨rfl, Nq1, eh1⟩ := hQ1
  have NF1 := Fr.app NF0 Nq1
  show G (T1.setTop (mkF m 29 _ [(.int 0)]))
  refine g_iloadN hG X1 hx (hb hby d5_29) (pc' := 30) rfl rfl ?_
  refine g_icmpNo hG X1 hx (hb hby d5_30) (pc' := 33) (by decide) rfl ?_
  refine g_iconst hG X1 hx (hb hby d5_33) (pc' := 34) rfl (v := (1 : Int32)) rfl ?_
  refine g_goto hG X1 hx (hb hby d5_34) (pc' := 38) (by decide) (by decide) ?_
  exact e_retZ hGe X1 hx hrt hlk (hb hby d5_38) (Or.inr rfl) eh1 (by decide) (by decide) (⟨rfl, NF1, rfl⟩)

def Q_rmCk4_4_1 (Z : State) (a ids : Addr) (al : Int32 → UInt64) (bt : Int32 → Int32 → Bool) (p0 p1 p2 p3 : Int32) (h0 : Heap) (n0 : Nat) (v : Option Value) (h : Heap) (L : List Loc) : Prop := v = some (.int 1) ∧ Fr n0 L ∧ h = h0
set_option maxRecDepth 65536 in
set_option maxHeartbeats 40000000 in
theorem rmCk4_4_1 (l : Launch) (Z : State) (a0 : Array Value) (hw : ∀ d ∈ tables_1, d.before a0 Z = true) (ws : List Jvm.Cond) (a ids : Addr) (al : Int32 → UInt64) (bt : Int32 → Int32 → Bool) (p0 p1 p2 p3 : Int32) (h0 : Heap) (n0 : Nat) (Zs : n0 ≤ h0.size) (V_a : AV Z h0 a .double (4 : Int32) [(.double (al (0 : Int32))), (.double (al (1 : Int32))), (.double (al (2 : Int32))), (.double (al (3 : Int32)))]) (V_ids : AV Z h0 ids .int (4 : Int32) [(.int p0), (.int p1), (.int p2), (.int p3)]) (HT : tops bt 4 0 [p0, p1, p2, p3] = true) (BT : ∀ x y, In4 x → In4 y → BtR al x y (bi bt x y)) :
    Con l (⟨"com/example/gauge_terms/gaugeterms/TopValuesPositionsPinLaw", "check", "([D[II)Z"⟩ : MethodName) method_5_code 4 (some .boolean) ws ({ frames := 2, cells := 0, slots := 0, locals := 56 } : Room) Z #[(.ref a), (.ref ids), (.int 1)] h0 ({ frames := 2, cells := 0, slots := 0, locals := 56 } : Room).cells ({ frames := 2, cells := 0, slots := 0, locals := 56 } : Room).slots (Q_rmCk4_4_1 Z a ids al bt p0 p1 p2 p3 h0 n0) := by
  refine Con.of (Ls := #[.val (.ref a), .val (.ref ids), .val (.int 1), .unset]) (plainFor_of_name (by first | (simp [plainName, overriddenIn]; done) | decide +kernel)) (fun m => by first | (simp [entryFrame, mkF, argsToLocals, Value.category]; done) | rfl) ?_
  intro p e s m below meth c s₁ G hGe hG hx hby hml hown hnm hrt hlk hZ X0 e0
  have hown : s.vm.findClass "com/example/gauge_terms/gaugeterms/TopValuesPositionsPinLaw" = some m.cls := hown
  have hnm : meth.name = "check" := hnm
  have NF0 := Fr.nil n0
  have bj : 0 ≤ p1.toInt ∧ p1.toInt < 4 := tops_b HT p1 (by simp)
  have rj : rk4 bt p1 = (1 : Int32) := tops_r HT 1 p1 rfl
  refine g_iloadN hG X0 hx (hb hby d5_0) (pc' := 1) rfl rfl ?_
  refine g_aloadN hG X0 hx (hb hby d5_1) (pc' := 2) rfl rfl rfl ?_
  refine g_arraylength hG X0 hx hZ e0 V_ids (hb hby d5_2) (pc' := 3) rfl ?_
  refine g_icmpYes hG X0 hx (hb hby d5_3) (pc' := 8) (by decide) (by decide) (by decide) ?_
  refine g_aloadN hG X0 hx (hb hby d5_8) (pc' := 9) rfl rfl rfl ?_
  refine g_iloadN hG X0 hx (hb hby d5_9) (pc' := 10) rfl rfl ?_
  refine g_iaload hG X0 hx hZ e0 V_ids (j := (1 : Int32)) (v := (.int p1)) (by decide) rfl (hb hby d5_10) (pc' := 11) rfl ?_
  refine g_istoreN hG X0 hx (hb hby d5_11) (pc' := 12) rfl (Ls' := #[.val (.ref a), .val (.ref ids), .val (.int 1), .val (.int p1)]) rfl ?_
  refine g_iloadN hG X0 hx (hb hby d5_12) (pc' := 13) rfl rfl ?_
  refine g_ifNo hG X0 hx (hb hby d5_13) (pc' := 16) ((if0 _ _).trans (flt (nn_of bj.1)).1) rfl ?_
  refine g_iloadN hG X0 hx (hb hby d5_16) (pc' := 17) rfl rfl ?_
  refine g_aloadN hG X0 hx (hb hby d5_17) (pc' := 18) rfl rfl rfl ?_
  refine g_arraylength hG X0 hx hZ e0 V_a (hb hby d5_18) (pc' := 19) rfl ?_
  refine g_icmpYes hG X0 hx (hb hby d5_19) (pc' := 24) ((tlt (Int32.lt_iff_toInt_lt.mpr (by rw [show (4 : Int32).toInt = 4 by decide]; exact bj.2))).1) (by decide) (by decide) ?_
  refine g_aloadN hG X0 hx (hb hby d5_24) (pc' := 25) rfl rfl rfl ?_
  refine g_iloadN hG X0 hx (hb hby d5_25) (pc' := 26) rfl rfl ?_
  refine g_callS hG X0 hx hZ (y := (⟨"com/example/gauge_terms/gaugeterms/TopValuesPositionsPinLaw", "rank", "([DI)I"⟩ : MethodName)) 0 hown (wd hw 26 rfl) (wd hw 27 rfl) (wd hw 3 rfl) (wd hw 28 rfl) (by decide) (rmRk4 l Z a0 hw [] a al bt p1 (1 : Int32) h0 n0 Zs V_a bj BT rj) (by decide) (by decide) (by rw [hml]; rfl) pd_2 rfl (argsL := [(.ref a), (.int p1)]) (rest := []) rfl rfl (Nat.le_of_eq rfl) (hb hby d5_26) e0 (by decide) (by decide) (pc' := 29) rfl ?_
  intro T1 rv1 L1 X1 hQ1
  obtain ⟨rfl, Nq1, eh1⟩ := hQ1
  have NF1 := Fr.app NF0 Nq1
  show G (T1.setTop (mkF m 29 _ [(.int 1)]))
  refine g_iloadN hG X1 hx (hb hby d5_29) (pc' := 30) rfl rfl ?_
  refine g_icmpNo hG X1 hx (hb hby d5_30) (pc' := 33) (by decide) rfl ?_
  refine g_iconst hG X1 hx (hb hby d5_33) (pc' := 34) rfl (v := (1 : Int32)) rfl ?_
  refine g_goto hG X1 hx (hb hby d5_34) (pc' := 38) (by decide) (by decide) ?_
  exact e_retZ hGe X1 hx hrt hlk (hb hby d5_38) (Or.inr rfl) eh1 (by decide) (by decide) (⟨rfl, NF1, rfl⟩)

def Q_rmCk4_4_2 (Z : State) (a ids : Addr) (al : Int32 → UInt64) (bt : Int32 → Int32 → Bool) (p0 p1 p2 p3 : Int32) (h0 : Heap) (n0 : Nat) (v : Option Value) (h : Heap) (L : List Loc) : Prop := v = some (.int 1) ∧ Fr n0 L ∧ h = h0
set_option maxRecDepth 65536 in
set_option maxHeartbeats 40000000 in
theorem rmCk4_4_2 (l : Launch) (Z : State) (a0 : Array Value) (hw : ∀ d ∈ tables_1, d.before a0 Z = true) (ws : List Jvm.Cond) (a ids : Addr) (al : Int32 → UInt64) (bt : Int32 → Int32 → Bool) (p0 p1 p2 p3 : Int32) (h0 : Heap) (n0 : Nat) (Zs : n0 ≤ h0.size) (V_a : AV Z h0 a .double (4 : Int32) [(.double (al (0 : Int32))), (.double (al (1 : Int32))), (.double (al (2 : Int32))), (.double (al (3 : Int32)))]) (V_ids : AV Z h0 ids .int (4 : Int32) [(.int p0), (.int p1), (.int p2), (.int p3)]) (HT : tops bt 4 0 [p0, p1, p2, p3] = true) (BT : ∀ x y, In4 x → In4 y → BtR al x y (bi bt x y)) :
    Con l (⟨"com/example/gauge_terms/gaugeterms/TopValuesPositionsPinLaw", "check", "([D[II)Z"⟩ : MethodName) method_5_code 4 (some .boolean) ws ({ frames := 2, cells := 0, slots := 0, locals := 56 } : Room) Z #[(.ref a), (.ref ids), (.int 2)] h0 ({ frames := 2, cells := 0, slots := 0, locals := 56 } : Room).cells ({ frames := 2, cells := 0, slots := 0, locals := 56 } : Room).slots (Q_rmCk4_4_2 Z a ids al bt p0 p1 p2 p3 h0 n0) := by
  refine Con.of (Ls := #[.val (.ref a), .val (.ref ids), .val (.int 2), .unset]) (plainFor_of_name (by first | (simp [plainName, overriddenIn]; done) | decide +kernel)) (fun m => by first | (simp [entryFrame, mkF, argsToLocals, Value.category]; done) | rfl) ?_
  intro p e s m below meth c s₁ G hGe hG hx hby hml hown hnm hrt hlk hZ X0 e0
  have hown : s.vm.findClass "com/example/gauge_terms/gaugeterms/TopValuesPositionsPinLaw" = some m.cls := hown
  have hnm : meth.name = "check" := hnm
  have NF0 := Fr.nil n0
  have bj : 0 ≤ p2.toInt ∧ p2.toInt < 4 := tops_b HT p2 (by simp)
  have rj : rk4 bt p2 = (2 : Int32) := tops_r HT 2 p2 rfl
  refine g_iloadN hG X0 hx (hb hby d5_0) (pc' := 1) rfl rfl ?_
  refine g_aloadN hG X0 hx (hb hby d5_1) (pc' := 2) rfl rfl rfl ?_
  refine g_arraylength hG X0 hx hZ e0 V_ids (hb hby d5_2) (pc' := 3) rfl ?_
  refine g_icmpYes hG X0 hx (hb hby d5_3) (pc' := 8) (by decide) (by decide) (by decide) ?_
  refine g_aloadN hG X0 hx (hb hby d5_8) (pc' := 9) rfl rfl rfl ?_
  refine g_iloadN hG X0 hx (hb hby d5_9) (pc' := 10) rfl rfl ?_
  refine g_iaload hG X0 hx hZ e0 V_ids (j := (2 : Int32)) (v := (.int p2)) (by decide) rfl (hb hby d5_10) (pc' := 11) rfl ?_
  refine g_istoreN hG X0 hx (hb hby d5_11) (pc' := 12) rfl (Ls' := #[.val (.ref a), .val (.ref ids), .val (.int 2), .val (.int p2)]) rfl ?_
  refine g_iloadN hG X0 hx (hb hby d5_12) (pc' := 13) rfl rfl ?_
  refine g_ifNo hG X0 hx (hb hby d5_13) (pc' := 16) ((if0 _ _).trans (flt (nn_of bj.1)).1) rfl ?_
  refine g_iloadN hG X0 hx (hb hby d5_16) (pc' := 17) rfl rfl ?_
  refine g_aloadN hG X0 hx (hb hby d5_17) (pc' := 18) rfl rfl rfl ?_
  refine g_arraylength hG X0 hx hZ e0 V_a (hb hby d5_18) (pc' := 19) rfl ?_
  refine g_icmpYes hG X0 hx (hb hby d5_19) (pc' := 24) ((tlt (Int32.lt_iff_toInt_lt.mpr (by rw [show (4 : Int32).toInt = 4 by decide]; exact bj.2))).1) (by decide) (by decide) ?_
  refine g_aloadN hG X0 hx (hb hby d5_24) (pc' := 25) rfl rfl rfl ?_
  refine g_iloadN hG X0 hx (hb hby d5_25) (pc' := 26) rfl rfl ?_
  refine g_callS hG X0 hx hZ (y := (⟨"com/example/gauge_terms/gaugeterms/TopValuesPositionsPinLaw", "rank", "([DI)I"⟩ : MethodName)) 0 hown (wd hw 26 rfl) (wd hw 27 rfl) (wd hw 3 rfl) (wd hw 28 rfl) (by decide) (rmRk4 l Z a0 hw [] a al bt p2 (2 : Int32) h0 n0 Zs V_a bj BT rj) (by decide) (by decide) (by rw [hml]; rfl) pd_2 rfl (argsL := [(.ref a), (.int p2)]) (rest := []) rfl rfl (Nat.le_of_eq rfl) (hb hby d5_26) e0 (by decide) (by decide) (pc' := 29) rfl ?_
  intro T1 rv1 L1 X1 hQ1
  obtain ⟨rfl, Nq1, eh1⟩ := hQ1
  have NF1 := Fr.app NF0 Nq1
  show G (T1.setTop (mkF m 29 _ [(.int 2)]))
  refine g_iloadN hG X1 hx (hb hby d5_29) (pc' := 30) rfl rfl ?_
  refine g_icmpNo hG X1 hx (hb hby d5_30) (pc' := 33) (by decide) rfl ?_
  refine g_iconst hG X1 hx (hb hby d5_33) (pc' := 34) rfl (v := (1 : Int32)) rfl ?_
  refine g_goto hG X1 hx (hb hby d5_34) (pc' := 38) (by decide) (by decide) ?_
  exact e_retZ hGe X1 hx hrt hlk (hb hby d5_38) (Or.inr rfl) eh1 (by decide) (by decide) (⟨rfl, NF1, rfl⟩)

def Q_rmCk4_4_3 (Z : State) (a ids : Addr) (al : Int32 → UInt64) (bt : Int32 → Int32 → Bool) (p0 p1 p2 p3 : Int32) (h0 : Heap) (n0 : Nat) (v : Option Value) (h : Heap) (L : List Loc) : Prop := v = some (.int 1) ∧ Fr n0 L ∧ h = h0
set_option maxRecDepth 65536 in
set_option maxHeartbeats 40000000 in
theorem rmCk4_4_3 (l : Launch) (Z : State) (a0 : Array Value) (hw : ∀ d ∈ tables_1, d.before a0 Z = true) (ws : List Jvm.Cond) (a ids : Addr) (al : Int32 → UInt64) (bt : Int32 → Int32 → Bool) (p0 p1 p2 p3 : Int32) (h0 : Heap) (n0 : Nat) (Zs : n0 ≤ h0.size) (V_a : AV Z h0 a .double (4 : Int32) [(.double (al (0 : Int32))), (.double (al (1 : Int32))), (.double (al (2 : Int32))), (.double (al (3 : Int32)))]) (V_ids : AV Z h0 ids .int (4 : Int32) [(.int p0), (.int p1), (.int p2), (.int p3)]) (HT : tops bt 4 0 [p0, p1, p2, p3] = true) (BT : ∀ x y, In4 x → In4 y → BtR al x y (bi bt x y)) :
    Con l (⟨"com/example/gauge_terms/gaugeterms/TopValuesPositionsPinLaw", "check", "([D[II)Z"⟩ : MethodName) method_5_code 4 (some .boolean) ws ({ frames := 2, cells := 0, slots := 0, locals := 56 } : Room) Z #[(.ref a), (.ref ids), (.int 3)] h0 ({ frames := 2, cells := 0, slots := 0, locals := 56 } : Room).cells ({ frames := 2, cells := 0, slots := 0, locals := 56 } : Room).slots (Q_rmCk4_4_3 Z a ids al bt p0 p1 p2 p3 h0 n0) := by
  refine Con.of (Ls := #[.val (.ref a), .val (.ref ids), .val (.int 3), .unset]) (plainFor_of_name (by first | (simp [plainName, overriddenIn]; done) | decide +kernel)) (fun m => by first | (simp [entryFrame, mkF, argsToLocals, Value.category]; done) | rfl) ?_
  intro p e s m below meth c s₁ G hGe hG hx hby hml hown hnm hrt hlk hZ X0 e0
  have hown : s.vm.findClass "com/example/gauge_terms/gaugeterms/TopValuesPositionsPinLaw" = some m.cls := hown
  have hnm : meth.name = "check" := hnm
  have NF0 := Fr.nil n0
  have bj : 0 ≤ p3.toInt ∧ p3.toInt < 4 := tops_b HT p3 (by simp)
  have rj : rk4 bt p3 = (3 : Int32) := tops_r HT 3 p3 rfl
  refine g_iloadN hG X0 hx (hb hby d5_0) (pc' := 1) rfl rfl ?_
  refine g_aloadN hG X0 hx (hb hby d5_1) (pc' := 2) rfl rfl rfl ?_
  refine g_arraylength hG X0 hx hZ e0 V_ids (hb hby d5_2) (pc' := 3) rfl ?_
  refine g_icmpYes hG X0 hx (hb hby d5_3) (pc' := 8) (by decide) (by decide) (by decide) ?_
  refine g_aloadN hG X0 hx (hb hby d5_8) (pc' := 9) rfl rfl rfl ?_
  refine g_iloadN hG X0 hx (hb hby d5_9) (pc' := 10) rfl rfl ?_
  refine g_iaload hG X0 hx hZ e0 V_ids (j := (3 : Int32)) (v := (.int p3)) (by decide) rfl (hb hby d5_10) (pc' := 11) rfl ?_
  refine g_istoreN hG X0 hx (hb hby d5_11) (pc' := 12) rfl (Ls' := #[.val (.ref a), .val (.ref ids), .val (.int 3), .val (.int p3)]) rfl ?_
  refine g_iloadN hG X0 hx (hb hby d5_12) (pc' := 13) rfl rfl ?_
  refine g_ifNo hG X0 hx (hb hby d5_13) (pc' := 16) ((if0 _ _).trans (flt (nn_of bj.1)).1) rfl ?_
  refine g_iloadN hG X0 hx (hb hby d5_16) (pc' := 17) rfl rfl ?_
  refine g_aloadN hG X0 hx (hb hby d5_17) (pc' := 18) rfl rfl rfl ?_
  refine g_arraylength hG X0 hx hZ e0 V_a (hb hby d5_18) (pc' := 19) rfl ?_
  refine g_icmpYes hG X0 hx (hb hby d5_19) (pc' := 24) ((tlt (Int32.lt_iff_toInt_lt.mpr (by rw [show (4 : Int32).toInt = 4 by decide]; exact bj.2))).1) (by decide) (by decide) ?_
  refine g_aloadN hG X0 hx (hb hby d5_24) (pc' := 25) rfl rfl rfl ?_
  refine g_iloadN hG X0 hx (hb hby d5_25) (pc' := 26) rfl rfl ?_
  refine g_callS hG X0 hx hZ (y := (⟨"com/example/gauge_terms/gaugeterms/TopValuesPositionsPinLaw", "rank", "([DI)I"⟩ : MethodName)) 0 hown (wd hw 26 rfl) (wd hw 27 rfl) (wd hw 3 rfl) (wd hw 28 rfl) (by decide) (rmRk4 l Z a0 hw [] a al bt p3 (3 : Int32) h0 n0 Zs V_a bj BT rj) (by decide) (by decide) (by rw [hml]; rfl) pd_2 rfl (argsL := [(.ref a), (.int p3)]) (rest := []) rfl rfl (Nat.le_of_eq rfl) (hb hby d5_26) e0 (by decide) (by decide) (pc' := 29) rfl ?_
  intro T1 rv1 L1 X1 hQ1
  obtain ⟨rfl, Nq1, eh1⟩ := hQ1
  have NF1 := Fr.app NF0 Nq1
  show G (T1.setTop (mkF m 29 _ [(.int 3)]))
  refine g_iloadN hG X1 hx (hb hby d5_29) (pc' := 30) rfl rfl ?_
  refine g_icmpNo hG X1 hx (hb hby d5_30) (pc' := 33) (by decide) rfl ?_
  refine g_iconst hG X1 hx (hb hby d5_33) (pc' := 34) rfl (v := (1 : Int32)) rfl ?_
  refine g_goto hG X1 hx (hb hby d5_34) (pc' := 38) (by decide) (by decide) ?_
  exact e_retZ hGe X1 hx hrt hlk (hb hby d5_38) (Or.inr rfl) eh1 (by decide) (by decide) (⟨rfl, NF1, rfl⟩)

def Q_rmPos4_4 (Z : State) (a : Addr) (al : Int32 → UInt64) (b01 b02 b03 b12 b13 b23 : Bool) (lim r : Int64) (h0 : Heap) (n0 : Nat) (v : Option Value) (h : Heap) (L : List Loc) : Prop := ∃ (b : Addr) (p0 p1 p2 p3 : Int32), v = some (.ref b) ∧ Fr n0 L ∧ Keep h0 h [] ∧ h0.size ≤ b ∧ (AV Z h b .int (4 : Int32) [(.int p0), (.int p1), (.int p2), (.int p3)]) ∧ tops (btB b01 b02 b03 b12 b13 b23) 4 0 [p0, p1, p2, p3] = true
set_option maxRecDepth 65536 in
set_option maxHeartbeats 40000000 in
theorem rmPos4_4 (l : Launch) (Z : State) (a0 : Array Value) (hw : ∀ d ∈ tables_1, d.before a0 Z = true) (ws : List Jvm.Cond) (a : Addr) (al : Int32 → UInt64) (b01 b02 b03 b12 b13 b23 : Bool) (lim r : Int64) (h0 : Heap) (n0 : Nat) (Zs : n0 ≤ h0.size) (V_a : AV Z h0 a .double (4 : Int32) [(.double (al (0 : Int32))), (.double (al (1 : Int32))), (.double (al (2 : Int32))), (.double (al (3 : Int32)))]) (TR : trB b01 b02 b03 b12 b13 b23 = true) (BT : ∀ x y, In4 x → In4 y → BtR al x y (bi (btB b01 b02 b03 b12 b13 b23) x y)) (hm : (¬ (4 : Int32).toInt64 < lim ∧ r = lim) ∨ ((4 : Int32).toInt64 < lim ∧ r = (4 : Int32).toInt64)) (hk : r.toInt32 = (4 : Int32)) :
    Con l (⟨"com/example/gauge_terms/gaugeterms/TopValues", "positions", "([DJ)[I"⟩ : MethodName) prog_3_method_2_code 8 (some (.array .int)) ws ({ frames := 1, cells := 1, slots := 4, locals := 40 } : Room) Z #[(.ref a), (.long lim)] h0 ({ frames := 1, cells := 1, slots := 4, locals := 40 } : Room).cells ({ frames := 1, cells := 1, slots := 4, locals := 40 } : Room).slots (Q_rmPos4_4 Z a al b01 b02 b03 b12 b13 b23 lim r h0 n0) := by
  refine Con.of (Ls := #[.val (.ref a), .val (.long lim), .second, .unset, .unset, .unset, .unset, .unset]) (plainFor_of_name (by first | (simp [plainName, overriddenIn]; done) | decide +kernel)) (fun m => by first | (simp [entryFrame, mkF, argsToLocals, Value.category]; done) | rfl) ?_
  intro p e s m below meth c s₁ G hGe hG hx hby hml hown hnm hrt hlk hZ X0 e0
  have hown : s.vm.findClass "com/example/gauge_terms/gaugeterms/TopValues" = some m.cls := hown
  have hnm : meth.name = "positions" := hnm
  have NF0 := Fr.nil n0
  have K0 := Keep.refl h0 ([] : List Addr)
  have HT0 : tops (btB b01 b02 b03 b12 b13 b23) 0 0 [] = true := rfl
  refine g_lloadN hG X0 hx (hb hby d3_0) (pc' := 1) rfl rfl ?_
  refine g_aloadN hG X0 hx (hb hby d3_1) (pc' := 2) rfl rfl rfl ?_
  refine g_arraylength hG X0 hx hZ e0 V_a (hb hby d3_2) (pc' := 3) rfl ?_
  obtain ⟨v3, q3⟩ : ∃ zz : Int64, (4 : Int32).toInt64 = zz := ⟨_, rfl⟩
  refine g_i2l hG X0 hx (hb hby d3_3) (pc' := 4) rfl q3 ?_
  refine g_callS hG X0 hx hZ (y := (⟨"java/lang/Math", "min", "(JJ)J"⟩ : MethodName)) 0 hown (wd hw 14 rfl) (wd hw 7 rfl) (wd hw 8 rfl) (wd hw 9 rfl) (by decide) (rmMJ l Z a0 hw [] lim v3 r h0 n0 Zs (q3 ▸ hm)) (by decide) (by decide) (by rw [hml]; rfl) pd_0 rfl (argsL := [(.long lim), (.long v3)]) (rest := []) rfl rfl (Nat.le_of_eq rfl) (hb hby d3_4) e0 (by decide) (by decide) (pc' := 7) rfl ?_
  intro T1 rv1 L1 X1 hQ1
  obtain ⟨rfl, Nq1, eh1⟩ := hQ1
  have NF1 := Fr.app NF0 Nq1
  show G (T1.setTop (mkF m 7 _ [(.long r)]))
  refine g_l2i hG X1 hx (hb hby d3_7) (pc' := 8) rfl hk ?_
  refine g_newP hG X1 hx hZ (wd hw 15 rfl) eh1 (hb hby d3_8) (by decide) 4 (by decide) (by decide) (by decide) (by decide) (pc' := 10) rfl ?_
  intro T2 h2 ids kA2 gs2 X2 e2 E2 A2
  have ne_a_ids : a ≠ ids := Nat.ne_of_lt (gs2 ▸ V_a.lt)
  have ge_ids : n0 ≤ ids := gs2 ▸ Zs
  have sz_ids : h0.size ≤ ids := gs2 ▸ K0.1
  have Zs := Nat.le_trans Zs E2.1
  have V_a := V_a.ext E2
  have K2 := K0.ext E2
  have V_ids : AV Z h2 ids .int (4 : Int32) [(.int 0), (.int 0), (.int 0), (.int 0)] := AV.new A2
  refine g_astoreN hG X2 hx (hb hby d3_10) (pc' := 11) rfl rfl (Ls' := #[.val (.ref a), .val (.long lim), .second, .val (.ref ids), .unset, .unset, .unset, .unset]) rfl ?_
  refine g_iconst hG X2 hx (hb hby d3_11) (pc' := 12) rfl (v := (0 : Int32)) rfl ?_
  refine g_istore hG X2 hx (hb hby d3_12) (pc' := 14) rfl (Ls' := #[.val (.ref a), .val (.long lim), .second, .val (.ref ids), .val (.int 0), .unset, .unset, .unset]) rfl ?_
  refine g_iconst hG X2 hx (hb hby d3_14) (pc' := 15) rfl (v := (0 : Int32)) rfl ?_
  refine g_istore hG X2 hx (hb hby d3_15) (pc' := 17) rfl (Ls' := #[.val (.ref a), .val (.long lim), .second, .val (.ref ids), .val (.int 0), .val (.int 0), .unset, .unset]) rfl ?_
  have J1 : ∀ (Tj3 : State) (hj3 : Heap) (Lj3 : List Loc) (p0 : Int32) (w6 w7 : Int32), Stand p l e ({ frames := 1, cells := 1, slots := 4, locals := 40 } : Room) s m #[(.ref a), (.long lim)] below meth c Tj3 Lj3 1 4 → Tj3.heap = hj3 → Fr n0 Lj3 → n0 ≤ hj3.size → Keep h0 hj3 [] → AV Z hj3 a .double (4 : Int32) [(.double (al (0 : Int32))), (.double (al (1 : Int32))), (.double (al (2 : Int32))), (.double (al (3 : Int32)))] → AV Z hj3 ids .int (4 : Int32) [(.int p0), (.int 0), (.int 0), (.int 0)] → tops (btB b01 b02 b03 b12 b13 b23) 1 0 [p0] = true → G (Tj3.setTop (mkF m 17 #[.val (.ref a), .val (.long lim), .second, .val (.ref ids), .val (.int 1), .val (.int 1), .val (.int w6), .val (.int w7)] [])) := by
    intro Tj3 hj3 Lj3 p0 w6 w7 Xj3 ej3 NFj3 Zs Kj3 V_a V_ids HT1
    have bp0 : 0 ≤ p0.toInt ∧ p0.toInt < 1 := tops_b HT1 p0 (by simp)
    have J2 : ∀ (Tj4 : State) (hj4 : Heap) (Lj4 : List Loc) (p0 p1 : Int32) (w6 w7 : Int32), Stand p l e ({ frames := 1, cells := 1, slots := 4, locals := 40 } : Room) s m #[(.ref a), (.long lim)] below meth c Tj4 Lj4 1 4 → Tj4.heap = hj4 → Fr n0 Lj4 → n0 ≤ hj4.size → Keep h0 hj4 [] → AV Z hj4 a .double (4 : Int32) [(.double (al (0 : Int32))), (.double (al (1 : Int32))), (.double (al (2 : Int32))), (.double (al (3 : Int32)))] → AV Z hj4 ids .int (4 : Int32) [(.int p0), (.int p1), (.int 0), (.int 0)] → tops (btB b01 b02 b03 b12 b13 b23) 2 0 [p0, p1] = true → G (Tj4.setTop (mkF m 17 #[.val (.ref a), .val (.long lim), .second, .val (.ref ids), .val (.int 2), .val (.int 2), .val (.int w6), .val (.int w7)] [])) := by
      intro Tj4 hj4 Lj4 p0 p1 w6 w7 Xj4 ej4 NFj4 Zs Kj4 V_a V_ids HT2
      have bp0 : 0 ≤ p0.toInt ∧ p0.toInt < 2 := tops_b HT2 p0 (by simp)
      have bp1 : 0 ≤ p1.toInt ∧ p1.toInt < 2 := tops_b HT2 p1 (by simp)
      have J3 : ∀ (Tj5 : State) (hj5 : Heap) (Lj5 : List Loc) (p0 p1 p2 : Int32) (w6 w7 : Int32), Stand p l e ({ frames := 1, cells := 1, slots := 4, locals := 40 } : Room) s m #[(.ref a), (.long lim)] below meth c Tj5 Lj5 1 4 → Tj5.heap = hj5 → Fr n0 Lj5 → n0 ≤ hj5.size → Keep h0 hj5 [] → AV Z hj5 a .double (4 : Int32) [(.double (al (0 : Int32))), (.double (al (1 : Int32))), (.double (al (2 : Int32))), (.double (al (3 : Int32)))] → AV Z hj5 ids .int (4 : Int32) [(.int p0), (.int p1), (.int p2), (.int 0)] → tops (btB b01 b02 b03 b12 b13 b23) 3 0 [p0, p1, p2] = true → G (Tj5.setTop (mkF m 17 #[.val (.ref a), .val (.long lim), .second, .val (.ref ids), .val (.int 3), .val (.int 3), .val (.int w6), .val (.int w7)] [])) := by
        intro Tj5 hj5 Lj5 p0 p1 p2 w6 w7 Xj5 ej5 NFj5 Zs Kj5 V_a V_ids HT3
        have bp0 : 0 ≤ p0.toInt ∧ p0.toInt < 3 := tops_b HT3 p0 (by simp)
        have bp1 : 0 ≤ p1.toInt ∧ p1.toInt < 3 := tops_b HT3 p1 (by simp)
        have bp2 : 0 ≤ p2.toInt ∧ p2.toInt < 3 := tops_b HT3 p2 (by simp)
        have J4 : ∀ (Tj6 : State) (hj6 : Heap) (Lj6 : List Loc) (p0 p1 p2 p3 : Int32) (w6 w7 : Int32), Stand p l e ({ frames := 1, cells := 1, slots := 4, locals := 40 } : Room) s m #[(.ref a), (.long lim)] below meth c Tj6 Lj6 1 4 → Tj6.heap = hj6 → Fr n0 Lj6 → n0 ≤ hj6.size → Keep h0 hj6 [] → AV Z hj6 a .double (4 : Int32) [(.double (al (0 : Int32))), (.double (al (1 : Int32))), (.double (al (2 : Int32))), (.double (al (3 : Int32)))] → AV Z hj6 ids .int (4 : Int32) [(.int p0), (.int p1), (.int p2), (.int p3)] → tops (btB b01 b02 b03 b12 b13 b23) 4 0 [p0, p1, p2, p3] = true → G (Tj6.setTop (mkF m 17 #[.val (.ref a), .val (.long lim), .second, .val (.ref ids), .val (.int 4), .val (.int 4), .val (.int w6), .val (.int w7)] [])) := by
          intro Tj6 hj6 Lj6 p0 p1 p2 p3 w6 w7 Xj6 ej6 NFj6 Zs Kj6 V_a V_ids HT4
          have bp0 : 0 ≤ p0.toInt ∧ p0.toInt < 4 := tops_b HT4 p0 (by simp)
          have bp1 : 0 ≤ p1.toInt ∧ p1.toInt < 4 := tops_b HT4 p1 (by simp)
          have bp2 : 0 ≤ p2.toInt ∧ p2.toInt < 4 := tops_b HT4 p2 (by simp)
          have bp3 : 0 ≤ p3.toInt ∧ p3.toInt < 4 := tops_b HT4 p3 (by simp)
          refine g_iload hG Xj6 hx (hb hby d3_17) (pc' := 19) rfl rfl ?_
          refine g_aloadN hG Xj6 hx (hb hby d3_19) (pc' := 20) rfl rfl rfl ?_
          refine g_arraylength hG Xj6 hx hZ ej6 V_a (hb hby d3_20) (pc' := 21) rfl ?_
          refine g_icmpYes hG Xj6 hx (hb hby d3_21) (pc' := 112) (by decide) (by decide) (by decide) ?_
          refine g_aloadN hG Xj6 hx (hb hby d3_112) (pc' := 113) rfl rfl rfl ?_
          exact e_retA hGe Xj6 hx hrt rfl hlk (hb hby d3_113) ej6 (by decide) (by decide) (⟨ids, p0, p1, p2, p3,  rfl, NFj6, Kj6, sz_ids, V_ids, HT4⟩)
        refine g_iload hG Xj5 hx (hb hby d3_17) (pc' := 19) rfl rfl ?_
        refine g_aloadN hG Xj5 hx (hb hby d3_19) (pc' := 20) rfl rfl rfl ?_
        refine g_arraylength hG Xj5 hx hZ ej5 V_a (hb hby d3_20) (pc' := 21) rfl ?_
        refine g_icmpNo hG Xj5 hx (hb hby d3_21) (pc' := 24) (by decide) rfl ?_
        refine g_iload hG Xj5 hx (hb hby d3_24) (pc' := 26) rfl rfl ?_
        refine g_istore hG Xj5 hx (hb hby d3_26) (pc' := 28) rfl (Ls' := #[.val (.ref a), .val (.long lim), .second, .val (.ref ids), .val (.int 3), .val (.int 3), .val (.int 3), .val (.int w7)]) rfl ?_
        refine g_iload hG Xj5 hx (hb hby d3_28) (pc' := 30) rfl rfl ?_
        refine g_ifNo hG Xj5 hx (hb hby d3_30) (pc' := 33) (by decide) rfl ?_
        refine g_aloadN hG Xj5 hx (hb hby d3_33) (pc' := 34) rfl rfl rfl ?_
        refine g_iload hG Xj5 hx (hb hby d3_34) (pc' := 36) rfl rfl ?_
        refine g_daload hG Xj5 hx hZ ej5 V_a (j := (3 : Int32)) (v := (.double (al (3 : Int32)))) (by decide) rfl (hb hby d3_36) (pc' := 37) rfl ?_
        refine g_aloadN hG Xj5 hx (hb hby d3_37) (pc' := 38) rfl rfl rfl ?_
        refine g_aloadN hG Xj5 hx (hb hby d3_38) (pc' := 39) rfl rfl rfl ?_
        refine g_iload hG Xj5 hx (hb hby d3_39) (pc' := 41) rfl rfl ?_
        refine g_iconst hG Xj5 hx (hb hby d3_41) (pc' := 42) rfl (v := (1 : Int32)) rfl ?_
        refine g_isub hG Xj5 hx (hb hby d3_42) (pc' := 43) rfl (v := (2 : Int32)) (by decide) ?_
        refine g_iaload hG Xj5 hx hZ ej5 V_ids (j := (2 : Int32)) (v := (.int p2)) (by decide) rfl (hb hby d3_43) (pc' := 44) rfl ?_
        refine g_daload hG Xj5 hx hZ ej5 V_a (j := p2) (v := (.double (al p2))) (nn_of bp2.1) (al_at4 (in4_of bp2.1 (by omega))) (hb hby d3_44) (pc' := 45) rfl ?_
        obtain ⟨v45, q45⟩ : ∃ zz : Int32, cmpValue (FP.dcmp (al (3 : Int32)) (al p2)) .l = zz := ⟨_, rfl⟩
        refine g_dcmp hG Xj5 hx (hb hby d3_45) (pc' := 46) rfl q45 ?_
        by_cases g3_2 : (btB b01 b02 b03 b12 b13 b23) (3 : Int32) p2 = true
        · skip
          refine g_ifNo hG Xj5 hx (hb hby d3_46) (pc' := 49) (by rw [← q45, gt_yes (BT (3 : Int32) p2 (by decide) (in4_of bp2.1 (by omega))) (fun g => by have := Int32.lt_iff_toInt_lt.mp g; rw [show (3 : Int32).toInt = 3 by decide] at this; omega) g3_2]; rfl) rfl ?_
          refine g_iinc hG Xj5 hx (hb hby d3_49) (pc' := 52) rfl rfl (v := (2 : Int32)) (by decide) (Ls' := #[.val (.ref a), .val (.long lim), .second, .val (.ref ids), .val (.int 3), .val (.int 3), .val (.int 2), .val (.int w7)]) rfl ?_
          refine g_goto hG Xj5 hx (hb hby d3_52) (pc' := 28) (by decide) (by decide) ?_
          refine g_iload hG Xj5 hx (hb hby d3_28) (pc' := 30) rfl rfl ?_
          refine g_ifNo hG Xj5 hx (hb hby d3_30) (pc' := 33) (by decide) rfl ?_
          refine g_aloadN hG Xj5 hx (hb hby d3_33) (pc' := 34) rfl rfl rfl ?_
          refine g_iload hG Xj5 hx (hb hby d3_34) (pc' := 36) rfl rfl ?_
          refine g_daload hG Xj5 hx hZ ej5 V_a (j := (3 : Int32)) (v := (.double (al (3 : Int32)))) (by decide) rfl (hb hby d3_36) (pc' := 37) rfl ?_
          refine g_aloadN hG Xj5 hx (hb hby d3_37) (pc' := 38) rfl rfl rfl ?_
          refine g_aloadN hG Xj5 hx (hb hby d3_38) (pc' := 39) rfl rfl rfl ?_
          refine g_iload hG Xj5 hx (hb hby d3_39) (pc' := 41) rfl rfl ?_
          refine g_iconst hG Xj5 hx (hb hby d3_41) (pc' := 42) rfl (v := (1 : Int32)) rfl ?_
          refine g_isub hG Xj5 hx (hb hby d3_42) (pc' := 43) rfl (v := (1 : Int32)) (by decide) ?_
          refine g_iaload hG Xj5 hx hZ ej5 V_ids (j := (1 : Int32)) (v := (.int p1)) (by decide) rfl (hb hby d3_43) (pc' := 44) rfl ?_
          refine g_daload hG Xj5 hx hZ ej5 V_a (j := p1) (v := (.double (al p1))) (nn_of bp1.1) (al_at4 (in4_of bp1.1 (by omega))) (hb hby d3_44) (pc' := 45) rfl ?_
          obtain ⟨v45_1, q45_1⟩ : ∃ zz : Int32, cmpValue (FP.dcmp (al (3 : Int32)) (al p1)) .l = zz := ⟨_, rfl⟩
          refine g_dcmp hG Xj5 hx (hb hby d3_45) (pc' := 46) rfl q45_1 ?_
          by_cases g3_1 : (btB b01 b02 b03 b12 b13 b23) (3 : Int32) p1 = true
          · skip
            refine g_ifNo hG Xj5 hx (hb hby d3_46) (pc' := 49) (by rw [← q45_1, gt_yes (BT (3 : Int32) p1 (by decide) (in4_of bp1.1 (by omega))) (fun g => by have := Int32.lt_iff_toInt_lt.mp g; rw [show (3 : Int32).toInt = 3 by decide] at this; omega) g3_1]; rfl) rfl ?_
            refine g_iinc hG Xj5 hx (hb hby d3_49) (pc' := 52) rfl rfl (v := (1 : Int32)) (by decide) (Ls' := #[.val (.ref a), .val (.long lim), .second, .val (.ref ids), .val (.int 3), .val (.int 3), .val (.int 1), .val (.int w7)]) rfl ?_
            refine g_goto hG Xj5 hx (hb hby d3_52) (pc' := 28) (by decide) (by decide) ?_
            refine g_iload hG Xj5 hx (hb hby d3_28) (pc' := 30) rfl rfl ?_
            refine g_ifNo hG Xj5 hx (hb hby d3_30) (pc' := 33) (by decide) rfl ?_
            refine g_aloadN hG Xj5 hx (hb hby d3_33) (pc' := 34) rfl rfl rfl ?_
            refine g_iload hG Xj5 hx (hb hby d3_34) (pc' := 36) rfl rfl ?_
            refine g_daload hG Xj5 hx hZ ej5 V_a (j := (3 : Int32)) (v := (.double (al (3 : Int32)))) (by decide) rfl (hb hby d3_36) (pc' := 37) rfl ?_
            refine g_aloadN hG Xj5 hx (hb hby d3_37) (pc' := 38) rfl rfl rfl ?_
            refine g_aloadN hG Xj5 hx (hb hby d3_38) (pc' := 39) rfl rfl rfl ?_
            refine g_iload hG Xj5 hx (hb hby d3_39) (pc' := 41) rfl rfl ?_
            refine g_iconst hG Xj5 hx (hb hby d3_41) (pc' := 42) rfl (v := (1 : Int32)) rfl ?_
            refine g_isub hG Xj5 hx (hb hby d3_42) (pc' := 43) rfl (v := (0 : Int32)) (by decide) ?_
            refine g_iaload hG Xj5 hx hZ ej5 V_ids (j := (0 : Int32)) (v := (.int p0)) (by decide) rfl (hb hby d3_43) (pc' := 44) rfl ?_
            refine g_daload hG Xj5 hx hZ ej5 V_a (j := p0) (v := (.double (al p0))) (nn_of bp0.1) (al_at4 (in4_of bp0.1 (by omega))) (hb hby d3_44) (pc' := 45) rfl ?_
            obtain ⟨v45_2, q45_2⟩ : ∃ zz : Int32, cmpValue (FP.dcmp (al (3 : Int32)) (al p0)) .l = zz := ⟨_, rfl⟩
            refine g_dcmp hG Xj5 hx (hb hby d3_45) (pc' := 46) rfl q45_2 ?_
            by_cases g3_0 : (btB b01 b02 b03 b12 b13 b23) (3 : Int32) p0 = true
            · skip
              refine g_ifNo hG Xj5 hx (hb hby d3_46) (pc' := 49) (by rw [← q45_2, gt_yes (BT (3 : Int32) p0 (by decide) (in4_of bp0.1 (by omega))) (fun g => by have := Int32.lt_iff_toInt_lt.mp g; rw [show (3 : Int32).toInt = 3 by decide] at this; omega) g3_0]; rfl) rfl ?_
              refine g_iinc hG Xj5 hx (hb hby d3_49) (pc' := 52) rfl rfl (v := (0 : Int32)) (by decide) (Ls' := #[.val (.ref a), .val (.long lim), .second, .val (.ref ids), .val (.int 3), .val (.int 3), .val (.int 0), .val (.int w7)]) rfl ?_
              refine g_goto hG Xj5 hx (hb hby d3_52) (pc' := 28) (by decide) (by decide) ?_
              refine g_iload hG Xj5 hx (hb hby d3_28) (pc' := 30) rfl rfl ?_
              refine g_ifYes hG Xj5 hx (hb hby d3_30) (pc' := 55) (by decide) (by decide) (by decide) ?_
              refine g_iload hG Xj5 hx (hb hby d3_55) (pc' := 57) rfl rfl ?_
              refine g_aloadN hG Xj5 hx (hb hby d3_57) (pc' := 58) rfl rfl rfl ?_
              refine g_arraylength hG Xj5 hx hZ ej5 V_ids (hb hby d3_58) (pc' := 59) rfl ?_
              refine g_icmpNo hG Xj5 hx (hb hby d3_59) (pc' := 62) (by decide) rfl ?_
              refine g_iload hG Xj5 hx (hb hby d3_62) (pc' := 64) rfl rfl ?_
              refine g_aloadN hG Xj5 hx (hb hby d3_64) (pc' := 65) rfl rfl rfl ?_
              refine g_arraylength hG Xj5 hx hZ ej5 V_ids (hb hby d3_65) (pc' := 66) rfl ?_
              refine g_iconst hG Xj5 hx (hb hby d3_66) (pc' := 67) rfl (v := (1 : Int32)) rfl ?_
              refine g_isub hG Xj5 hx (hb hby d3_67) (pc' := 68) rfl (v := (3 : Int32)) (by decide) ?_
              refine g_callS hG Xj5 hx hZ (y := (⟨"java/lang/Math", "min", "(II)I"⟩ : MethodName)) 0 hown (wd hw 16 rfl) (wd hw 17 rfl) (wd hw 8 rfl) (wd hw 18 rfl) (by decide) (rmMI l Z a0 hw [] (3 : Int32) (3 : Int32) (3 : Int32) hj5 n0 Zs (by decide)) (by decide) (by decide) (by rw [hml]; rfl) pd_3 rfl (argsL := [(.int 3), (.int 3)]) (rest := []) rfl rfl (Nat.le_of_eq rfl) (hb hby d3_68) ej5 (by decide) (by decide) (pc' := 71) rfl ?_
              intro T7 rv7 L7 X7 hQ7
              obtain ⟨rfl, Nq7, eh7⟩ := hQ7
              have NF7 := Fr.app NFj5 Nq7
              show G (T7.setTop (mkF m 71 _ [(.int 3)]))
              refine g_istore hG X7 hx (hb hby d3_71) (pc' := 73) rfl (Ls' := #[.val (.ref a), .val (.long lim), .second, .val (.ref ids), .val (.int 3), .val (.int 3), .val (.int 0), .val (.int 3)]) rfl ?_
              refine g_aloadN hG X7 hx (hb hby d3_73) (pc' := 74) rfl rfl rfl ?_
              refine g_iload hG X7 hx (hb hby d3_74) (pc' := 76) rfl rfl ?_
              refine g_aloadN hG X7 hx (hb hby d3_76) (pc' := 77) rfl rfl rfl ?_
              refine g_iload hG X7 hx (hb hby d3_77) (pc' := 79) rfl rfl ?_
              refine g_iconst hG X7 hx (hb hby d3_79) (pc' := 80) rfl (v := (1 : Int32)) rfl ?_
              refine g_iadd hG X7 hx (hb hby d3_80) (pc' := 81) rfl (v := (1 : Int32)) (by decide) ?_
              refine g_iload hG X7 hx (hb hby d3_81) (pc' := 83) rfl rfl ?_
              refine g_iload hG X7 hx (hb hby d3_83) (pc' := 85) rfl rfl ?_
              refine g_isub hG X7 hx (hb hby d3_85) (pc' := 86) rfl (v := (3 : Int32)) (by decide) ?_
              refine g_copy hG X7 hx hZ hown (wd hw 19 rfl) (wd hw 22 rfl) (wd hw 20 rfl) (wd hw 21 rfl) eh7 V_ids V_ids rfl (by decide) (by decide) (by decide) (by decide) (by decide) (vr := [(.int p0), (.int p0), (.int p1), (.int p2)]) rfl NF7 ge_ids (by rw [hml]; rfl) (hb hby d3_86) (by decide) 0 (Nat.le_of_eq rfl) (by decide) (pc' := 89) rfl ?_
              intro T8 h8 L8 X8 e8 NF8 Kq8 Vn8
              have V_ids := Vn8
              have V_a := V_a.keep Kq8 (ninS ne_a_ids nin0)
              have Zs := Nat.le_trans Zs Kq8.1
              have K8 := Kj5.trans Kq8 (allS (Or.inr sz_ids) all0)
              show G (T8.setTop (mkF m 89 _ []))
              refine g_aloadN hG X8 hx (hb hby d3_89) (pc' := 90) rfl rfl rfl ?_
              refine g_iload hG X8 hx (hb hby d3_90) (pc' := 92) rfl rfl ?_
              refine g_iload hG X8 hx (hb hby d3_92) (pc' := 94) rfl rfl ?_
              refine g_iastore hG X8 hx hZ e8 V_ids (j := (0 : Int32)) (by decide) (show Int32.toNatClampNeg (0 : Int32) < 4 by decide) (hb hby d3_94) (pc' := 95) rfl ?_
              intro T9 h9 X9 e9 W9 Vn9
              have V_ids : AV Z h9 ids .int (4 : Int32) [(.int 3), (.int p0), (.int p1), (.int p2)] := Vn9
              have V_a := V_a.other W9 ne_a_ids
              have Zs := Nat.le_trans Zs (Wr.size W9)
              have NF9 := Fr.snoc X9 NF8 ge_ids
              have K9 := K8.wr W9 (Or.inr sz_ids)
              refine g_iload hG X9 hx (hb hby d3_95) (pc' := 97) rfl rfl ?_
              refine g_iconst hG X9 hx (hb hby d3_97) (pc' := 98) rfl (v := (1 : Int32)) rfl ?_
              refine g_iadd hG X9 hx (hb hby d3_98) (pc' := 99) rfl (v := (4 : Int32)) (by decide) ?_
              refine g_aloadN hG X9 hx (hb hby d3_99) (pc' := 100) rfl rfl rfl ?_
              refine g_arraylength hG X9 hx hZ e9 V_ids (hb hby d3_100) (pc' := 101) rfl ?_
              refine g_callS hG X9 hx hZ (y := (⟨"java/lang/Math", "min", "(II)I"⟩ : MethodName)) 0 hown (wd hw 16 rfl) (wd hw 17 rfl) (wd hw 8 rfl) (wd hw 18 rfl) (by decide) (rmMI l Z a0 hw [] (4 : Int32) (4 : Int32) (4 : Int32) h9 n0 Zs (by decide)) (by decide) (by decide) (by rw [hml]; rfl) pd_3 rfl (argsL := [(.int 4), (.int 4)]) (rest := []) rfl rfl (Nat.le_of_eq rfl) (hb hby d3_101) e9 (by decide) (by decide) (pc' := 104) rfl ?_
              intro T10 rv10 L10 X10 hQ10
              obtain ⟨rfl, Nq10, eh10⟩ := hQ10
              have NF10 := Fr.app NF9 Nq10
              show G (T10.setTop (mkF m 104 _ [(.int 4)]))
              refine g_istore hG X10 hx (hb hby d3_104) (pc' := 106) rfl (Ls' := #[.val (.ref a), .val (.long lim), .second, .val (.ref ids), .val (.int 4), .val (.int 3), .val (.int 0), .val (.int 3)]) rfl ?_
              refine g_iinc hG X10 hx (hb hby d3_106) (pc' := 109) rfl rfl (v := (4 : Int32)) (by decide) (Ls' := #[.val (.ref a), .val (.long lim), .second, .val (.ref ids), .val (.int 4), .val (.int 4), .val (.int 0), .val (.int 3)]) rfl ?_
              refine g_goto hG X10 hx (hb hby d3_109) (pc' := 17) (by decide) (by decide) ?_
              exact J4 _ _ _ (3 : Int32) p0 p1 p2 (0 : Int32) (3 : Int32) X10 eh10 NF10 Zs K9 V_a V_ids (st_3_3_4_0 b01 b02 b03 b12 b13 b23 p0 p1 p2 TR HT3 g3_2 g3_1 g3_0)
            · skip
              refine g_ifYes hG Xj5 hx (hb hby d3_46) (pc' := 55) (by rcases gt_no (BT (3 : Int32) p0 (by decide) (in4_of bp0.1 (by omega))) g3_0 with z | z <;> rw [← q45_2, z] <;> rfl) (by decide) (by decide) ?_
              refine g_iload hG Xj5 hx (hb hby d3_55) (pc' := 57) rfl rfl ?_
              refine g_aloadN hG Xj5 hx (hb hby d3_57) (pc' := 58) rfl rfl rfl ?_
              refine g_arraylength hG Xj5 hx hZ ej5 V_ids (hb hby d3_58) (pc' := 59) rfl ?_
              refine g_icmpNo hG Xj5 hx (hb hby d3_59) (pc' := 62) (by decide) rfl ?_
              refine g_iload hG Xj5 hx (hb hby d3_62) (pc' := 64) rfl rfl ?_
              refine g_aloadN hG Xj5 hx (hb hby d3_64) (pc' := 65) rfl rfl rfl ?_
              refine g_arraylength hG Xj5 hx hZ ej5 V_ids (hb hby d3_65) (pc' := 66) rfl ?_
              refine g_iconst hG Xj5 hx (hb hby d3_66) (pc' := 67) rfl (v := (1 : Int32)) rfl ?_
              refine g_isub hG Xj5 hx (hb hby d3_67) (pc' := 68) rfl (v := (3 : Int32)) (by decide) ?_
              refine g_callS hG Xj5 hx hZ (y := (⟨"java/lang/Math", "min", "(II)I"⟩ : MethodName)) 0 hown (wd hw 16 rfl) (wd hw 17 rfl) (wd hw 8 rfl) (wd hw 18 rfl) (by decide) (rmMI l Z a0 hw [] (3 : Int32) (3 : Int32) (3 : Int32) hj5 n0 Zs (by decide)) (by decide) (by decide) (by rw [hml]; rfl) pd_3 rfl (argsL := [(.int 3), (.int 3)]) (rest := []) rfl rfl (Nat.le_of_eq rfl) (hb hby d3_68) ej5 (by decide) (by decide) (pc' := 71) rfl ?_
              intro T11 rv11 L11 X11 hQ11
              obtain ⟨rfl, Nq11, eh11⟩ := hQ11
              have NF11 := Fr.app NFj5 Nq11
              show G (T11.setTop (mkF m 71 _ [(.int 3)]))
              refine g_istore hG X11 hx (hb hby d3_71) (pc' := 73) rfl (Ls' := #[.val (.ref a), .val (.long lim), .second, .val (.ref ids), .val (.int 3), .val (.int 3), .val (.int 1), .val (.int 3)]) rfl ?_
              refine g_aloadN hG X11 hx (hb hby d3_73) (pc' := 74) rfl rfl rfl ?_
              refine g_iload hG X11 hx (hb hby d3_74) (pc' := 76) rfl rfl ?_
              refine g_aloadN hG X11 hx (hb hby d3_76) (pc' := 77) rfl rfl rfl ?_
              refine g_iload hG X11 hx (hb hby d3_77) (pc' := 79) rfl rfl ?_
              refine g_iconst hG X11 hx (hb hby d3_79) (pc' := 80) rfl (v := (1 : Int32)) rfl ?_
              refine g_iadd hG X11 hx (hb hby d3_80) (pc' := 81) rfl (v := (2 : Int32)) (by decide) ?_
              refine g_iload hG X11 hx (hb hby d3_81) (pc' := 83) rfl rfl ?_
              refine g_iload hG X11 hx (hb hby d3_83) (pc' := 85) rfl rfl ?_
              refine g_isub hG X11 hx (hb hby d3_85) (pc' := 86) rfl (v := (2 : Int32)) (by decide) ?_
              refine g_copy hG X11 hx hZ hown (wd hw 19 rfl) (wd hw 22 rfl) (wd hw 20 rfl) (wd hw 21 rfl) eh11 V_ids V_ids rfl (by decide) (by decide) (by decide) (by decide) (by decide) (vr := [(.int p0), (.int p1), (.int p1), (.int p2)]) rfl NF11 ge_ids (by rw [hml]; rfl) (hb hby d3_86) (by decide) 0 (Nat.le_of_eq rfl) (by decide) (pc' := 89) rfl ?_
              intro T12 h12 L12 X12 e12 NF12 Kq12 Vn12
              have V_ids := Vn12
              have V_a := V_a.keep Kq12 (ninS ne_a_ids nin0)
              have Zs := Nat.le_trans Zs Kq12.1
              have K12 := Kj5.trans Kq12 (allS (Or.inr sz_ids) all0)
              show G (T12.setTop (mkF m 89 _ []))
              refine g_aloadN hG X12 hx (hb hby d3_89) (pc' := 90) rfl rfl rfl ?_
              refine g_iload hG X12 hx (hb hby d3_90) (pc' := 92) rfl rfl ?_
              refine g_iload hG X12 hx (hb hby d3_92) (pc' := 94) rfl rfl ?_
              refine g_iastore hG X12 hx hZ e12 V_ids (j := (1 : Int32)) (by decide) (show Int32.toNatClampNeg (1 : Int32) < 4 by decide) (hb hby d3_94) (pc' := 95) rfl ?_
              intro T13 h13 X13 e13 W13 Vn13
              have V_ids : AV Z h13 ids .int (4 : Int32) [(.int p0), (.int 3), (.int p1), (.int p2)] := Vn13
              have V_a := V_a.other W13 ne_a_ids
              have Zs := Nat.le_trans Zs (Wr.size W13)
              have NF13 := Fr.snoc X13 NF12 ge_ids
              have K13 := K12.wr W13 (Or.inr sz_ids)
              refine g_iload hG X13 hx (hb hby d3_95) (pc' := 97) rfl rfl ?_
              refine g_iconst hG X13 hx (hb hby d3_97) (pc' := 98) rfl (v := (1 : Int32)) rfl ?_
              refine g_iadd hG X13 hx (hb hby d3_98) (pc' := 99) rfl (v := (4 : Int32)) (by decide) ?_
              refine g_aloadN hG X13 hx (hb hby d3_99) (pc' := 100) rfl rfl rfl ?_
              refine g_arraylength hG X13 hx hZ e13 V_ids (hb hby d3_100) (pc' := 101) rfl ?_
              refine g_callS hG X13 hx hZ (y := (⟨"java/lang/Math", "min", "(II)I"⟩ : MethodName)) 0 hown (wd hw 16 rfl) (wd hw 17 rfl) (wd hw 8 rfl) (wd hw 18 rfl) (by decide) (rmMI l Z a0 hw [] (4 : Int32) (4 : Int32) (4 : Int32) h13 n0 Zs (by decide)) (by decide) (by decide) (by rw [hml]; rfl) pd_3 rfl (argsL := [(.int 4), (.int 4)]) (rest := []) rfl rfl (Nat.le_of_eq rfl) (hb hby d3_101) e13 (by decide) (by decide) (pc' := 104) rfl ?_
              intro T14 rv14 L14 X14 hQ14
              obtain ⟨rfl, Nq14, eh14⟩ := hQ14
              have NF14 := Fr.app NF13 Nq14
              show G (T14.setTop (mkF m 104 _ [(.int 4)]))
              refine g_istore hG X14 hx (hb hby d3_104) (pc' := 106) rfl (Ls' := #[.val (.ref a), .val (.long lim), .second, .val (.ref ids), .val (.int 4), .val (.int 3), .val (.int 1), .val (.int 3)]) rfl ?_
              refine g_iinc hG X14 hx (hb hby d3_106) (pc' := 109) rfl rfl (v := (4 : Int32)) (by decide) (Ls' := #[.val (.ref a), .val (.long lim), .second, .val (.ref ids), .val (.int 4), .val (.int 4), .val (.int 1), .val (.int 3)]) rfl ?_
              refine g_goto hG X14 hx (hb hby d3_109) (pc' := 17) (by decide) (by decide) ?_
              exact J4 _ _ _ p0 (3 : Int32) p1 p2 (1 : Int32) (3 : Int32) X14 eh14 NF14 Zs K13 V_a V_ids (st_3_3_4_1 b01 b02 b03 b12 b13 b23 p0 p1 p2 TR HT3 g3_2 g3_1 g3_0)
          · skip
            refine g_ifYes hG Xj5 hx (hb hby d3_46) (pc' := 55) (by rcases gt_no (BT (3 : Int32) p1 (by decide) (in4_of bp1.1 (by omega))) g3_1 with z | z <;> rw [← q45_1, z] <;> rfl) (by decide) (by decide) ?_
            refine g_iload hG Xj5 hx (hb hby d3_55) (pc' := 57) rfl rfl ?_
            refine g_aloadN hG Xj5 hx (hb hby d3_57) (pc' := 58) rfl rfl rfl ?_
            refine g_arraylength hG Xj5 hx hZ ej5 V_ids (hb hby d3_58) (pc' := 59) rfl ?_
            refine g_icmpNo hG Xj5 hx (hb hby d3_59) (pc' := 62) (by decide) rfl ?_
            refine g_iload hG Xj5 hx (hb hby d3_62) (pc' := 64) rfl rfl ?_
            refine g_aloadN hG Xj5 hx (hb hby d3_64) (pc' := 65) rfl rfl rfl ?_
            refine g_arraylength hG Xj5 hx hZ ej5 V_ids (hb hby d3_65) (pc' := 66) rfl ?_
            refine g_iconst hG Xj5 hx (hb hby d3_66) (pc' := 67) rfl (v := (1 : Int32)) rfl ?_
            refine g_isub hG Xj5 hx (hb hby d3_67) (pc' := 68) rfl (v := (3 : Int32)) (by decide) ?_
            refine g_callS hG Xj5 hx hZ (y := (⟨"java/lang/Math", "min", "(II)I"⟩ : MethodName)) 0 hown (wd hw 16 rfl) (wd hw 17 rfl) (wd hw 8 rfl) (wd hw 18 rfl) (by decide) (rmMI l Z a0 hw [] (3 : Int32) (3 : Int32) (3 : Int32) hj5 n0 Zs (by decide)) (by decide) (by decide) (by rw [hml]; rfl) pd_3 rfl (argsL := [(.int 3), (.int 3)]) (rest := []) rfl rfl (Nat.le_of_eq rfl) (hb hby d3_68) ej5 (by decide) (by decide) (pc' := 71) rfl ?_
            intro T15 rv15 L15 X15 hQ15
            obtain ⟨rfl, Nq15, eh15⟩ := hQ15
            have NF15 := Fr.app NFj5 Nq15
            show G (T15.setTop (mkF m 71 _ [(.int 3)]))
            refine g_istore hG X15 hx (hb hby d3_71) (pc' := 73) rfl (Ls' := #[.val (.ref a), .val (.long lim), .second, .val (.ref ids), .val (.int 3), .val (.int 3), .val (.int 2), .val (.int 3)]) rfl ?_
            refine g_aloadN hG X15 hx (hb hby d3_73) (pc' := 74) rfl rfl rfl ?_
            refine g_iload hG X15 hx (hb hby d3_74) (pc' := 76) rfl rfl ?_
            refine g_aloadN hG X15 hx (hb hby d3_76) (pc' := 77) rfl rfl rfl ?_
            refine g_iload hG X15 hx (hb hby d3_77) (pc' := 79) rfl rfl ?_
            refine g_iconst hG X15 hx (hb hby d3_79) (pc' := 80) rfl (v := (1 : Int32)) rfl ?_
            refine g_iadd hG X15 hx (hb hby d3_80) (pc' := 81) rfl (v := (3 : Int32)) (by decide) ?_
            refine g_iload hG X15 hx (hb hby d3_81) (pc' := 83) rfl rfl ?_
            refine g_iload hG X15 hx (hb hby d3_83) (pc' := 85) rfl rfl ?_
            refine g_isub hG X15 hx (hb hby d3_85) (pc' := 86) rfl (v := (1 : Int32)) (by decide) ?_
            refine g_copy hG X15 hx hZ hown (wd hw 19 rfl) (wd hw 22 rfl) (wd hw 20 rfl) (wd hw 21 rfl) eh15 V_ids V_ids rfl (by decide) (by decide) (by decide) (by decide) (by decide) (vr := [(.int p0), (.int p1), (.int p2), (.int p2)]) rfl NF15 ge_ids (by rw [hml]; rfl) (hb hby d3_86) (by decide) 0 (Nat.le_of_eq rfl) (by decide) (pc' := 89) rfl ?_
            intro T16 h16 L16 X16 e16 NF16 Kq16 Vn16
            have V_ids := Vn16
            have V_a := V_a.keep Kq16 (ninS ne_a_ids nin0)
            have Zs := Nat.le_trans Zs Kq16.1
            have K16 := Kj5.trans Kq16 (allS (Or.inr sz_ids) all0)
            show G (T16.setTop (mkF m 89 _ []))
            refine g_aloadN hG X16 hx (hb hby d3_89) (pc' := 90) rfl rfl rfl ?_
            refine g_iload hG X16 hx (hb hby d3_90) (pc' := 92) rfl rfl ?_
            refine g_iload hG X16 hx (hb hby d3_92) (pc' := 94) rfl rfl ?_
            refine g_iastore hG X16 hx hZ e16 V_ids (j := (2 : Int32)) (by decide) (show Int32.toNatClampNeg (2 : Int32) < 4 by decide) (hb hby d3_94) (pc' := 95) rfl ?_
            intro T17 h17 X17 e17 W17 Vn17
            have V_ids : AV Z h17 ids .int (4 : Int32) [(.int p0), (.int p1), (.int 3), (.int p2)] := Vn17
            have V_a := V_a.other W17 ne_a_ids
            have Zs := Nat.le_trans Zs (Wr.size W17)
            have NF17 := Fr.snoc X17 NF16 ge_ids
            have K17 := K16.wr W17 (Or.inr sz_ids)
            refine g_iload hG X17 hx (hb hby d3_95) (pc' := 97) rfl rfl ?_
            refine g_iconst hG X17 hx (hb hby d3_97) (pc' := 98) rfl (v := (1 : Int32)) rfl ?_
            refine g_iadd hG X17 hx (hb hby d3_98) (pc' := 99) rfl (v := (4 : Int32)) (by decide) ?_
            refine g_aloadN hG X17 hx (hb hby d3_99) (pc' := 100) rfl rfl rfl ?_
            refine g_arraylength hG X17 hx hZ e17 V_ids (hb hby d3_100) (pc' := 101) rfl ?_
            refine g_callS hG X17 hx hZ (y := (⟨"java/lang/Math", "min", "(II)I"⟩ : MethodName)) 0 hown (wd hw 16 rfl) (wd hw 17 rfl) (wd hw 8 rfl) (wd hw 18 rfl) (by decide) (rmMI l Z a0 hw [] (4 : Int32) (4 : Int32) (4 : Int32) h17 n0 Zs (by decide)) (by decide) (by decide) (by rw [hml]; rfl) pd_3 rfl (argsL := [(.int 4), (.int 4)]) (rest := []) rfl rfl (Nat.le_of_eq rfl) (hb hby d3_101) e17 (by decide) (by decide) (pc' := 104) rfl ?_
            intro T18 rv18 L18 X18 hQ18
            obtain ⟨rfl, Nq18, eh18⟩ := hQ18
            have NF18 := Fr.app NF17 Nq18
            show G (T18.setTop (mkF m 104 _ [(.int 4)]))
            refine g_istore hG X18 hx (hb hby d3_104) (pc' := 106) rfl (Ls' := #[.val (.ref a), .val (.long lim), .second, .val (.ref ids), .val (.int 4), .val (.int 3), .val (.int 2), .val (.int 3)]) rfl ?_
            refine g_iinc hG X18 hx (hb hby d3_106) (pc' := 109) rfl rfl (v := (4 : Int32)) (by decide) (Ls' := #[.val (.ref a), .val (.long lim), .second, .val (.ref ids), .val (.int 4), .val (.int 4), .val (.int 2), .val (.int 3)]) rfl ?_
            refine g_goto hG X18 hx (hb hby d3_109) (pc' := 17) (by decide) (by decide) ?_
            exact J4 _ _ _ p0 p1 (3 : Int32) p2 (2 : Int32) (3 : Int32) X18 eh18 NF18 Zs K17 V_a V_ids (st_3_3_4_2 b01 b02 b03 b12 b13 b23 p0 p1 p2 TR HT3 g3_2 g3_1)
        · skip
          refine g_ifYes hG Xj5 hx (hb hby d3_46) (pc' := 55) (by rcases gt_no (BT (3 : Int32) p2 (by decide) (in4_of bp2.1 (by omega))) g3_2 with z | z <;> rw [← q45, z] <;> rfl) (by decide) (by decide) ?_
          refine g_iload hG Xj5 hx (hb hby d3_55) (pc' := 57) rfl rfl ?_
          refine g_aloadN hG Xj5 hx (hb hby d3_57) (pc' := 58) rfl rfl rfl ?_
          refine g_arraylength hG Xj5 hx hZ ej5 V_ids (hb hby d3_58) (pc' := 59) rfl ?_
          refine g_icmpNo hG Xj5 hx (hb hby d3_59) (pc' := 62) (by decide) rfl ?_
          refine g_iload hG Xj5 hx (hb hby d3_62) (pc' := 64) rfl rfl ?_
          refine g_aloadN hG Xj5 hx (hb hby d3_64) (pc' := 65) rfl rfl rfl ?_
          refine g_arraylength hG Xj5 hx hZ ej5 V_ids (hb hby d3_65) (pc' := 66) rfl ?_
          refine g_iconst hG Xj5 hx (hb hby d3_66) (pc' := 67) rfl (v := (1 : Int32)) rfl ?_
          refine g_isub hG Xj5 hx (hb hby d3_67) (pc' := 68) rfl (v := (3 : Int32)) (by decide) ?_
          refine g_callS hG Xj5 hx hZ (y := (⟨"java/lang/Math", "min", "(II)I"⟩ : MethodName)) 0 hown (wd hw 16 rfl) (wd hw 17 rfl) (wd hw 8 rfl) (wd hw 18 rfl) (by decide) (rmMI l Z a0 hw [] (3 : Int32) (3 : Int32) (3 : Int32) hj5 n0 Zs (by decide)) (by decide) (by decide) (by rw [hml]; rfl) pd_3 rfl (argsL := [(.int 3), (.int 3)]) (rest := []) rfl rfl (Nat.le_of_eq rfl) (hb hby d3_68) ej5 (by decide) (by decide) (pc' := 71) rfl ?_
          intro T19 rv19 L19 X19 hQ19
          obtain ⟨rfl, Nq19, eh19⟩ := hQ19
          have NF19 := Fr.app NFj5 Nq19
          show G (T19.setTop (mkF m 71 _ [(.int 3)]))
          refine g_istore hG X19 hx (hb hby d3_71) (pc' := 73) rfl (Ls' := #[.val (.ref a), .val (.long lim), .second, .val (.ref ids), .val (.int 3), .val (.int 3), .val (.int 3), .val (.int 3)]) rfl ?_
          refine g_aloadN hG X19 hx (hb hby d3_73) (pc' := 74) rfl rfl rfl ?_
          refine g_iload hG X19 hx (hb hby d3_74) (pc' := 76) rfl rfl ?_
          refine g_aloadN hG X19 hx (hb hby d3_76) (pc' := 77) rfl rfl rfl ?_
          refine g_iload hG X19 hx (hb hby d3_77) (pc' := 79) rfl rfl ?_
          refine g_iconst hG X19 hx (hb hby d3_79) (pc' := 80) rfl (v := (1 : Int32)) rfl ?_
          refine g_iadd hG X19 hx (hb hby d3_80) (pc' := 81) rfl (v := (4 : Int32)) (by decide) ?_
          refine g_iload hG X19 hx (hb hby d3_81) (pc' := 83) rfl rfl ?_
          refine g_iload hG X19 hx (hb hby d3_83) (pc' := 85) rfl rfl ?_
          refine g_isub hG X19 hx (hb hby d3_85) (pc' := 86) rfl (v := (0 : Int32)) (by decide) ?_
          refine g_copy hG X19 hx hZ hown (wd hw 19 rfl) (wd hw 22 rfl) (wd hw 20 rfl) (wd hw 21 rfl) eh19 V_ids V_ids rfl (by decide) (by decide) (by decide) (by decide) (by decide) (vr := [(.int p0), (.int p1), (.int p2), (.int 0)]) rfl NF19 ge_ids (by rw [hml]; rfl) (hb hby d3_86) (by decide) 0 (Nat.le_of_eq rfl) (by decide) (pc' := 89) rfl ?_
          intro T20 h20 L20 X20 e20 NF20 Kq20 Vn20
          have V_ids := Vn20
          have V_a := V_a.keep Kq20 (ninS ne_a_ids nin0)
          have Zs := Nat.le_trans Zs Kq20.1
          have K20 := Kj5.trans Kq20 (allS (Or.inr sz_ids) all0)
          show G (T20.setTop (mkF m 89 _ []))
          refine g_aloadN hG X20 hx (hb hby d3_89) (pc' := 90) rfl rfl rfl ?_
          refine g_iload hG X20 hx (hb hby d3_90) (pc' := 92) rfl rfl ?_
          refine g_iload hG X20 hx (hb hby d3_92) (pc' := 94) rfl rfl ?_
          refine g_iastore hG X20 hx hZ e20 V_ids (j := (3 : Int32)) (by decide) (show Int32.toNatClampNeg (3 : Int32) < 4 by decide) (hb hby d3_94) (pc' := 95) rfl ?_
          intro T21 h21 X21 e21 W21 Vn21
          have V_ids : AV Z h21 ids .int (4 : Int32) [(.int p0), (.int p1), (.int p2), (.int 3)] := Vn21
          have V_a := V_a.other W21 ne_a_ids
          have Zs := Nat.le_trans Zs (Wr.size W21)
          have NF21 := Fr.snoc X21 NF20 ge_ids
          have K21 := K20.wr W21 (Or.inr sz_ids)
          refine g_iload hG X21 hx (hb hby d3_95) (pc' := 97) rfl rfl ?_
          refine g_iconst hG X21 hx (hb hby d3_97) (pc' := 98) rfl (v := (1 : Int32)) rfl ?_
          refine g_iadd hG X21 hx (hb hby d3_98) (pc' := 99) rfl (v := (4 : Int32)) (by decide) ?_
          refine g_aloadN hG X21 hx (hb hby d3_99) (pc' := 100) rfl rfl rfl ?_
          refine g_arraylength hG X21 hx hZ e21 V_ids (hb hby d3_100) (pc' := 101) rfl ?_
          refine g_callS hG X21 hx hZ (y := (⟨"java/lang/Math", "min", "(II)I"⟩ : MethodName)) 0 hown (wd hw 16 rfl) (wd hw 17 rfl) (wd hw 8 rfl) (wd hw 18 rfl) (by decide) (rmMI l Z a0 hw [] (4 : Int32) (4 : Int32) (4 : Int32) h21 n0 Zs (by decide)) (by decide) (by decide) (by rw [hml]; rfl) pd_3 rfl (argsL := [(.int 4), (.int 4)]) (rest := []) rfl rfl (Nat.le_of_eq rfl) (hb hby d3_101) e21 (by decide) (by decide) (pc' := 104) rfl ?_
          intro T22 rv22 L22 X22 hQ22
          obtain ⟨rfl, Nq22, eh22⟩ := hQ22
          have NF22 := Fr.app NF21 Nq22
          show G (T22.setTop (mkF m 104 _ [(.int 4)]))
          refine g_istore hG X22 hx (hb hby d3_104) (pc' := 106) rfl (Ls' := #[.val (.ref a), .val (.long lim), .second, .val (.ref ids), .val (.int 4), .val (.int 3), .val (.int 3), .val (.int 3)]) rfl ?_
          refine g_iinc hG X22 hx (hb hby d3_106) (pc' := 109) rfl rfl (v := (4 : Int32)) (by decide) (Ls' := #[.val (.ref a), .val (.long lim), .second, .val (.ref ids), .val (.int 4), .val (.int 4), .val (.int 3), .val (.int 3)]) rfl ?_
          refine g_goto hG X22 hx (hb hby d3_109) (pc' := 17) (by decide) (by decide) ?_
          exact J4 _ _ _ p0 p1 p2 (3 : Int32) (3 : Int32) (3 : Int32) X22 eh22 NF22 Zs K21 V_a V_ids (st_3_3_4_3 b01 b02 b03 b12 b13 b23 p0 p1 p2 TR HT3 g3_2)
      refine g_iload hG Xj4 hx (hb hby d3_17) (pc' := 19) rfl rfl ?_
      refine g_aloadN hG Xj4 hx (hb hby d3_19) (pc' := 20) rfl rfl rfl ?_
      refine g_arraylength hG Xj4 hx hZ ej4 V_a (hb hby d3_20) (pc' := 21) rfl ?_
      refine g_icmpNo hG Xj4 hx (hb hby d3_21) (pc' := 24) (by decide) rfl ?_
      refine g_iload hG Xj4 hx (hb hby d3_24) (pc' := 26) rfl rfl ?_
      refine g_istore hG Xj4 hx (hb hby d3_26) (pc' := 28) rfl (Ls' := #[.val (.ref a), .val (.long lim), .second, .val (.ref ids), .val (.int 2), .val (.int 2), .val (.int 2), .val (.int w7)]) rfl ?_
      refine g_iload hG Xj4 hx (hb hby d3_28) (pc' := 30) rfl rfl ?_
      refine g_ifNo hG Xj4 hx (hb hby d3_30) (pc' := 33) (by decide) rfl ?_
      refine g_aloadN hG Xj4 hx (hb hby d3_33) (pc' := 34) rfl rfl rfl ?_
      refine g_iload hG Xj4 hx (hb hby d3_34) (pc' := 36) rfl rfl ?_
      refine g_daload hG Xj4 hx hZ ej4 V_a (j := (2 : Int32)) (v := (.double (al (2 : Int32)))) (by decide) rfl (hb hby d3_36) (pc' := 37) rfl ?_
      refine g_aloadN hG Xj4 hx (hb hby d3_37) (pc' := 38) rfl rfl rfl ?_
      refine g_aloadN hG Xj4 hx (hb hby d3_38) (pc' := 39) rfl rfl rfl ?_
      refine g_iload hG Xj4 hx (hb hby d3_39) (pc' := 41) rfl rfl ?_
      refine g_iconst hG Xj4 hx (hb hby d3_41) (pc' := 42) rfl (v := (1 : Int32)) rfl ?_
      refine g_isub hG Xj4 hx (hb hby d3_42) (pc' := 43) rfl (v := (1 : Int32)) (by decide) ?_
      refine g_iaload hG Xj4 hx hZ ej4 V_ids (j := (1 : Int32)) (v := (.int p1)) (by decide) rfl (hb hby d3_43) (pc' := 44) rfl ?_
      refine g_daload hG Xj4 hx hZ ej4 V_a (j := p1) (v := (.double (al p1))) (nn_of bp1.1) (al_at4 (in4_of bp1.1 (by omega))) (hb hby d3_44) (pc' := 45) rfl ?_
      obtain ⟨v45, q45⟩ : ∃ zz : Int32, cmpValue (FP.dcmp (al (2 : Int32)) (al p1)) .l = zz := ⟨_, rfl⟩
      refine g_dcmp hG Xj4 hx (hb hby d3_45) (pc' := 46) rfl q45 ?_
      by_cases g2_1 : (btB b01 b02 b03 b12 b13 b23) (2 : Int32) p1 = true
      · skip
        refine g_ifNo hG Xj4 hx (hb hby d3_46) (pc' := 49) (by rw [← q45, gt_yes (BT (2 : Int32) p1 (by decide) (in4_of bp1.1 (by omega))) (fun g => by have := Int32.lt_iff_toInt_lt.mp g; rw [show (2 : Int32).toInt = 2 by decide] at this; omega) g2_1]; rfl) rfl ?_
        refine g_iinc hG Xj4 hx (hb hby d3_49) (pc' := 52) rfl rfl (v := (1 : Int32)) (by decide) (Ls' := #[.val (.ref a), .val (.long lim), .second, .val (.ref ids), .val (.int 2), .val (.int 2), .val (.int 1), .val (.int w7)]) rfl ?_
        refine g_goto hG Xj4 hx (hb hby d3_52) (pc' := 28) (by decide) (by decide) ?_
        refine g_iload hG Xj4 hx (hb hby d3_28) (pc' := 30) rfl rfl ?_
        refine g_ifNo hG Xj4 hx (hb hby d3_30) (pc' := 33) (by decide) rfl ?_
        refine g_aloadN hG Xj4 hx (hb hby d3_33) (pc' := 34) rfl rfl rfl ?_
        refine g_iload hG Xj4 hx (hb hby d3_34) (pc' := 36) rfl rfl ?_
        refine g_daload hG Xj4 hx hZ ej4 V_a (j := (2 : Int32)) (v := (.double (al (2 : Int32)))) (by decide) rfl (hb hby d3_36) (pc' := 37) rfl ?_
        refine g_aloadN hG Xj4 hx (hb hby d3_37) (pc' := 38) rfl rfl rfl ?_
        refine g_aloadN hG Xj4 hx (hb hby d3_38) (pc' := 39) rfl rfl rfl ?_
        refine g_iload hG Xj4 hx (hb hby d3_39) (pc' := 41) rfl rfl ?_
        refine g_iconst hG Xj4 hx (hb hby d3_41) (pc' := 42) rfl (v := (1 : Int32)) rfl ?_
        refine g_isub hG Xj4 hx (hb hby d3_42) (pc' := 43) rfl (v := (0 : Int32)) (by decide) ?_
        refine g_iaload hG Xj4 hx hZ ej4 V_ids (j := (0 : Int32)) (v := (.int p0)) (by decide) rfl (hb hby d3_43) (pc' := 44) rfl ?_
        refine g_daload hG Xj4 hx hZ ej4 V_a (j := p0) (v := (.double (al p0))) (nn_of bp0.1) (al_at4 (in4_of bp0.1 (by omega))) (hb hby d3_44) (pc' := 45) rfl ?_
        obtain ⟨v45_1, q45_1⟩ : ∃ zz : Int32, cmpValue (FP.dcmp (al (2 : Int32)) (al p0)) .l = zz := ⟨_, rfl⟩
        refine g_dcmp hG Xj4 hx (hb hby d3_45) (pc' := 46) rfl q45_1 ?_
        by_cases g2_0 : (btB b01 b02 b03 b12 b13 b23) (2 : Int32) p0 = true
        · skip
          refine g_ifNo hG Xj4 hx (hb hby d3_46) (pc' := 49) (by rw [← q45_1, gt_yes (BT (2 : Int32) p0 (by decide) (in4_of bp0.1 (by omega))) (fun g => by have := Int32.lt_iff_toInt_lt.mp g; rw [show (2 : Int32).toInt = 2 by decide] at this; omega) g2_0]; rfl) rfl ?_
          refine g_iinc hG Xj4 hx (hb hby d3_49) (pc' := 52) rfl rfl (v := (0 : Int32)) (by decide) (Ls' := #[.val (.ref a), .val (.long lim), .second, .val (.ref ids), .val (.int 2), .val (.int 2), .val (.int 0), .val (.int w7)]) rfl ?_
          refine g_goto hG Xj4 hx (hb hby d3_52) (pc' := 28) (by decide) (by decide) ?_
          refine g_iload hG Xj4 hx (hb hby d3_28) (pc' := 30) rfl rfl ?_
          refine g_ifYes hG Xj4 hx (hb hby d3_30) (pc' := 55) (by decide) (by decide) (by decide) ?_
          refine g_iload hG Xj4 hx (hb hby d3_55) (pc' := 57) rfl rfl ?_
          refine g_aloadN hG Xj4 hx (hb hby d3_57) (pc' := 58) rfl rfl rfl ?_
          refine g_arraylength hG Xj4 hx hZ ej4 V_ids (hb hby d3_58) (pc' := 59) rfl ?_
          refine g_icmpNo hG Xj4 hx (hb hby d3_59) (pc' := 62) (by decide) rfl ?_
          refine g_iload hG Xj4 hx (hb hby d3_62) (pc' := 64) rfl rfl ?_
          refine g_aloadN hG Xj4 hx (hb hby d3_64) (pc' := 65) rfl rfl rfl ?_
          refine g_arraylength hG Xj4 hx hZ ej4 V_ids (hb hby d3_65) (pc' := 66) rfl ?_
          refine g_iconst hG Xj4 hx (hb hby d3_66) (pc' := 67) rfl (v := (1 : Int32)) rfl ?_
          refine g_isub hG Xj4 hx (hb hby d3_67) (pc' := 68) rfl (v := (3 : Int32)) (by decide) ?_
          refine g_callS hG Xj4 hx hZ (y := (⟨"java/lang/Math", "min", "(II)I"⟩ : MethodName)) 0 hown (wd hw 16 rfl) (wd hw 17 rfl) (wd hw 8 rfl) (wd hw 18 rfl) (by decide) (rmMI l Z a0 hw [] (2 : Int32) (3 : Int32) (2 : Int32) hj4 n0 Zs (by decide)) (by decide) (by decide) (by rw [hml]; rfl) pd_3 rfl (argsL := [(.int 2), (.int 3)]) (rest := []) rfl rfl (Nat.le_of_eq rfl) (hb hby d3_68) ej4 (by decide) (by decide) (pc' := 71) rfl ?_
          intro T23 rv23 L23 X23 hQ23
          obtain ⟨rfl, Nq23, eh23⟩ := hQ23
          have NF23 := Fr.app NFj4 Nq23
          show G (T23.setTop (mkF m 71 _ [(.int 2)]))
          refine g_istore hG X23 hx (hb hby d3_71) (pc' := 73) rfl (Ls' := #[.val (.ref a), .val (.long lim), .second, .val (.ref ids), .val (.int 2), .val (.int 2), .val (.int 0), .val (.int 2)]) rfl ?_
          refine g_aloadN hG X23 hx (hb hby d3_73) (pc' := 74) rfl rfl rfl ?_
          refine g_iload hG X23 hx (hb hby d3_74) (pc' := 76) rfl rfl ?_
          refine g_aloadN hG X23 hx (hb hby d3_76) (pc' := 77) rfl rfl rfl ?_
          refine g_iload hG X23 hx (hb hby d3_77) (pc' := 79) rfl rfl ?_
          refine g_iconst hG X23 hx (hb hby d3_79) (pc' := 80) rfl (v := (1 : Int32)) rfl ?_
          refine g_iadd hG X23 hx (hb hby d3_80) (pc' := 81) rfl (v := (1 : Int32)) (by decide) ?_
          refine g_iload hG X23 hx (hb hby d3_81) (pc' := 83) rfl rfl ?_
          refine g_iload hG X23 hx (hb hby d3_83) (pc' := 85) rfl rfl ?_
          refine g_isub hG X23 hx (hb hby d3_85) (pc' := 86) rfl (v := (2 : Int32)) (by decide) ?_
          refine g_copy hG X23 hx hZ hown (wd hw 19 rfl) (wd hw 22 rfl) (wd hw 20 rfl) (wd hw 21 rfl) eh23 V_ids V_ids rfl (by decide) (by decide) (by decide) (by decide) (by decide) (vr := [(.int p0), (.int p0), (.int p1), (.int 0)]) rfl NF23 ge_ids (by rw [hml]; rfl) (hb hby d3_86) (by decide) 0 (Nat.le_of_eq rfl) (by decide) (pc' := 89) rfl ?_
          intro T24 h24 L24 X24 e24 NF24 Kq24 Vn24
          have V_ids := Vn24
          have V_a := V_a.keep Kq24 (ninS ne_a_ids nin0)
          have Zs := Nat.le_trans Zs Kq24.1
          have K24 := Kj4.trans Kq24 (allS (Or.inr sz_ids) all0)
          show G (T24.setTop (mkF m 89 _ []))
          refine g_aloadN hG X24 hx (hb hby d3_89) (pc' := 90) rfl rfl rfl ?_
          refine g_iload hG X24 hx (hb hby d3_90) (pc' := 92) rfl rfl ?_
          refine g_iload hG X24 hx (hb hby d3_92) (pc' := 94) rfl rfl ?_
          refine g_iastore hG X24 hx hZ e24 V_ids (j := (0 : Int32)) (by decide) (show Int32.toNatClampNeg (0 : Int32) < 4 by decide) (hb hby d3_94) (pc' := 95) rfl ?_
          intro T25 h25 X25 e25 W25 Vn25
          have V_ids : AV Z h25 ids .int (4 : Int32) [(.int 2), (.int p0), (.int p1), (.int 0)] := Vn25
          have V_a := V_a.other W25 ne_a_ids
          have Zs := Nat.le_trans Zs (Wr.size W25)
          have NF25 := Fr.snoc X25 NF24 ge_ids
          have K25 := K24.wr W25 (Or.inr sz_ids)
          refine g_iload hG X25 hx (hb hby d3_95) (pc' := 97) rfl rfl ?_
          refine g_iconst hG X25 hx (hb hby d3_97) (pc' := 98) rfl (v := (1 : Int32)) rfl ?_
          refine g_iadd hG X25 hx (hb hby d3_98) (pc' := 99) rfl (v := (3 : Int32)) (by decide) ?_
          refine g_aloadN hG X25 hx (hb hby d3_99) (pc' := 100) rfl rfl rfl ?_
          refine g_arraylength hG X25 hx hZ e25 V_ids (hb hby d3_100) (pc' := 101) rfl ?_
          refine g_callS hG X25 hx hZ (y := (⟨"java/lang/Math", "min", "(II)I"⟩ : MethodName)) 0 hown (wd hw 16 rfl) (wd hw 17 rfl) (wd hw 8 rfl) (wd hw 18 rfl) (by decide) (rmMI l Z a0 hw [] (3 : Int32) (4 : Int32) (3 : Int32) h25 n0 Zs (by decide)) (by decide) (by decide) (by rw [hml]; rfl) pd_3 rfl (argsL := [(.int 3), (.int 4)]) (rest := []) rfl rfl (Nat.le_of_eq rfl) (hb hby d3_101) e25 (by decide) (by decide) (pc' := 104) rfl ?_
          intro T26 rv26 L26 X26 hQ26
          obtain ⟨rfl, Nq26, eh26⟩ := hQ26
          have NF26 := Fr.app NF25 Nq26
          show G (T26.setTop (mkF m 104 _ [(.int 3)]))
          refine g_istore hG X26 hx (hb hby d3_104) (pc' := 106) rfl (Ls' := #[.val (.ref a), .val (.long lim), .second, .val (.ref ids), .val (.int 3), .val (.int 2), .val (.int 0), .val (.int 2)]) rfl ?_
          refine g_iinc hG X26 hx (hb hby d3_106) (pc' := 109) rfl rfl (v := (3 : Int32)) (by decide) (Ls' := #[.val (.ref a), .val (.long lim), .second, .val (.ref ids), .val (.int 3), .val (.int 3), .val (.int 0), .val (.int 2)]) rfl ?_
          refine g_goto hG X26 hx (hb hby d3_109) (pc' := 17) (by decide) (by decide) ?_
          exact J3 _ _ _ (2 : Int32) p0 p1 (0 : Int32) (2 : Int32) X26 eh26 NF26 Zs K25 V_a V_ids (st_2_2_4_0 b01 b02 b03 b12 b13 b23 p0 p1 TR HT2 g2_1 g2_0)
        · skip
          refine g_ifYes hG Xj4 hx (hb hby d3_46) (pc' := 55) (by rcases gt_no (BT (2 : Int32) p0 (by decide) (in4_of bp0.1 (by omega))) g2_0 with z | z <;> rw [← q45_1, z] <;> rfl) (by decide) (by decide) ?_
          refine g_iload hG Xj4 hx (hb hby d3_55) (pc' := 57) rfl rfl ?_
          refine g_aloadN hG Xj4 hx (hb hby d3_57) (pc' := 58) rfl rfl rfl ?_
          refine g_arraylength hG Xj4 hx hZ ej4 V_ids (hb hby d3_58) (pc' := 59) rfl ?_
          refine g_icmpNo hG Xj4 hx (hb hby d3_59) (pc' := 62) (by decide) rfl ?_
          refine g_iload hG Xj4 hx (hb hby d3_62) (pc' := 64) rfl rfl ?_
          refine g_aloadN hG Xj4 hx (hb hby d3_64) (pc' := 65) rfl rfl rfl ?_
          refine g_arraylength hG Xj4 hx hZ ej4 V_ids (hb hby d3_65) (pc' := 66) rfl ?_
          refine g_iconst hG Xj4 hx (hb hby d3_66) (pc' := 67) rfl (v := (1 : Int32)) rfl ?_
          refine g_isub hG Xj4 hx (hb hby d3_67) (pc' := 68) rfl (v := (3 : Int32)) (by decide) ?_
          refine g_callS hG Xj4 hx hZ (y := (⟨"java/lang/Math", "min", "(II)I"⟩ : MethodName)) 0 hown (wd hw 16 rfl) (wd hw 17 rfl) (wd hw 8 rfl) (wd hw 18 rfl) (by decide) (rmMI l Z a0 hw [] (2 : Int32) (3 : Int32) (2 : Int32) hj4 n0 Zs (by decide)) (by decide) (by decide) (by rw [hml]; rfl) pd_3 rfl (argsL := [(.int 2), (.int 3)]) (rest := []) rfl rfl (Nat.le_of_eq rfl) (hb hby d3_68) ej4 (by decide) (by decide) (pc' := 71) rfl ?_
          intro T27 rv27 L27 X27 hQ27
          obtain ⟨rfl, Nq27, eh27⟩ := hQ27
          have NF27 := Fr.app NFj4 Nq27
          show G (T27.setTop (mkF m 71 _ [(.int 2)]))
          refine g_istore hG X27 hx (hb hby d3_71) (pc' := 73) rfl (Ls' := #[.val (.ref a), .val (.long lim), .second, .val (.ref ids), .val (.int 2), .val (.int 2), .val (.int 1), .val (.int 2)]) rfl ?_
          refine g_aloadN hG X27 hx (hb hby d3_73) (pc' := 74) rfl rfl rfl ?_
          refine g_iload hG X27 hx (hb hby d3_74) (pc' := 76) rfl rfl ?_
          refine g_aloadN hG X27 hx (hb hby d3_76) (pc' := 77) rfl rfl rfl ?_
          refine g_iload hG X27 hx (hb hby d3_77) (pc' := 79) rfl rfl ?_
          refine g_iconst hG X27 hx (hb hby d3_79) (pc' := 80) rfl (v := (1 : Int32)) rfl ?_
          refine g_iadd hG X27 hx (hb hby d3_80) (pc' := 81) rfl (v := (2 : Int32)) (by decide) ?_
          refine g_iload hG X27 hx (hb hby d3_81) (pc' := 83) rfl rfl ?_
          refine g_iload hG X27 hx (hb hby d3_83) (pc' := 85) rfl rfl ?_
          refine g_isub hG X27 hx (hb hby d3_85) (pc' := 86) rfl (v := (1 : Int32)) (by decide) ?_
          refine g_copy hG X27 hx hZ hown (wd hw 19 rfl) (wd hw 22 rfl) (wd hw 20 rfl) (wd hw 21 rfl) eh27 V_ids V_ids rfl (by decide) (by decide) (by decide) (by decide) (by decide) (vr := [(.int p0), (.int p1), (.int p1), (.int 0)]) rfl NF27 ge_ids (by rw [hml]; rfl) (hb hby d3_86) (by decide) 0 (Nat.le_of_eq rfl) (by decide) (pc' := 89) rfl ?_
          intro T28 h28 L28 X28 e28 NF28 Kq28 Vn28
          have V_ids := Vn28
          have V_a := V_a.keep Kq28 (ninS ne_a_ids nin0)
          have Zs := Nat.le_trans Zs Kq28.1
          have K28 := Kj4.trans Kq28 (allS (Or.inr sz_ids) all0)
          show G (T28.setTop (mkF m 89 _ []))
          refine g_aloadN hG X28 hx (hb hby d3_89) (pc' := 90) rfl rfl rfl ?_
          refine g_iload hG X28 hx (hb hby d3_90) (pc' := 92) rfl rfl ?_
          refine g_iload hG X28 hx (hb hby d3_92) (pc' := 94) rfl rfl ?_
          refine g_iastore hG X28 hx hZ e28 V_ids (j := (1 : Int32)) (by decide) (show Int32.toNatClampNeg (1 : Int32) < 4 by decide) (hb hby d3_94) (pc' := 95) rfl ?_
          intro T29 h29 X29 e29 W29 Vn29
          have V_ids : AV Z h29 ids .int (4 : Int32) [(.int p0), (.int 2), (.int p1), (.int 0)] := Vn29
          have V_a := V_a.other W29 ne_a_ids
          have Zs := Nat.le_trans Zs (Wr.size W29)
          have NF29 := Fr.snoc X29 NF28 ge_ids
          have K29 := K28.wr W29 (Or.inr sz_ids)
          refine g_iload hG X29 hx (hb hby d3_95) (pc' := 97) rfl rfl ?_
          refine g_iconst hG X29 hx (hb hby d3_97) (pc' := 98) rfl (v := (1 : Int32)) rfl ?_
          refine g_iadd hG X29 hx (hb hby d3_98) (pc' := 99) rfl (v := (3 : Int32)) (by decide) ?_
          refine g_aloadN hG X29 hx (hb hby d3_99) (pc' := 100) rfl rfl rfl ?_
          refine g_arraylength hG X29 hx hZ e29 V_ids (hb hby d3_100) (pc' := 101) rfl ?_
          refine g_callS hG X29 hx hZ (y := (⟨"java/lang/Math", "min", "(II)I"⟩ : MethodName)) 0 hown (wd hw 16 rfl) (wd hw 17 rfl) (wd hw 8 rfl) (wd hw 18 rfl) (by decide) (rmMI l Z a0 hw [] (3 : Int32) (4 : Int32) (3 : Int32) h29 n0 Zs (by decide)) (by decide) (by decide) (by rw [hml]; rfl) pd_3 rfl (argsL := [(.int 3), (.int 4)]) (rest := []) rfl rfl (Nat.le_of_eq rfl) (hb hby d3_101) e29 (by decide) (by decide) (pc' := 104) rfl ?_
          intro T30 rv30 L30 X30 hQ30
          obtain ⟨rfl, Nq30, eh30⟩ := hQ30
          have NF30 := Fr.app NF29 Nq30
          show G (T30.setTop (mkF m 104 _ [(.int 3)]))
          refine g_istore hG X30 hx (hb hby d3_104) (pc' := 106) rfl (Ls' := #[.val (.ref a), .val (.long lim), .second, .val (.ref ids), .val (.int 3), .val (.int 2), .val (.int 1), .val (.int 2)]) rfl ?_
          refine g_iinc hG X30 hx (hb hby d3_106) (pc' := 109) rfl rfl (v := (3 : Int32)) (by decide) (Ls' := #[.val (.ref a), .val (.long lim), .second, .val (.ref ids), .val (.int 3), .val (.int 3), .val (.int 1), .val (.int 2)]) rfl ?_
          refine g_goto hG X30 hx (hb hby d3_109) (pc' := 17) (by decide) (by decide) ?_
          exact J3 _ _ _ p0 (2 : Int32) p1 (1 : Int32) (2 : Int32) X30 eh30 NF30 Zs K29 V_a V_ids (st_2_2_4_1 b01 b02 b03 b12 b13 b23 p0 p1 TR HT2 g2_1 g2_0)
      · skip
        refine g_ifYes hG Xj4 hx (hb hby d3_46) (pc' := 55) (by rcases gt_no (BT (2 : Int32) p1 (by decide) (in4_of bp1.1 (by omega))) g2_1 with z | z <;> rw [← q45, z] <;> rfl) (by decide) (by decide) ?_
        refine g_iload hG Xj4 hx (hb hby d3_55) (pc' := 57) rfl rfl ?_
        refine g_aloadN hG Xj4 hx (hb hby d3_57) (pc' := 58) rfl rfl rfl ?_
        refine g_arraylength hG Xj4 hx hZ ej4 V_ids (hb hby d3_58) (pc' := 59) rfl ?_
        refine g_icmpNo hG Xj4 hx (hb hby d3_59) (pc' := 62) (by decide) rfl ?_
        refine g_iload hG Xj4 hx (hb hby d3_62) (pc' := 64) rfl rfl ?_
        refine g_aloadN hG Xj4 hx (hb hby d3_64) (pc' := 65) rfl rfl rfl ?_
        refine g_arraylength hG Xj4 hx hZ ej4 V_ids (hb hby d3_65) (pc' := 66) rfl ?_
        refine g_iconst hG Xj4 hx (hb hby d3_66) (pc' := 67) rfl (v := (1 : Int32)) rfl ?_
        refine g_isub hG Xj4 hx (hb hby d3_67) (pc' := 68) rfl (v := (3 : Int32)) (by decide) ?_
        refine g_callS hG Xj4 hx hZ (y := (⟨"java/lang/Math", "min", "(II)I"⟩ : MethodName)) 0 hown (wd hw 16 rfl) (wd hw 17 rfl) (wd hw 8 rfl) (wd hw 18 rfl) (by decide) (rmMI l Z a0 hw [] (2 : Int32) (3 : Int32) (2 : Int32) hj4 n0 Zs (by decide)) (by decide) (by decide) (by rw [hml]; rfl) pd_3 rfl (argsL := [(.int 2), (.int 3)]) (rest := []) rfl rfl (Nat.le_of_eq rfl) (hb hby d3_68) ej4 (by decide) (by decide) (pc' := 71) rfl ?_
        intro T31 rv31 L31 X31 hQ31
        obtain ⟨rfl, Nq31, eh31⟩ := hQ31
        have NF31 := Fr.app NFj4 Nq31
        show G (T31.setTop (mkF m 71 _ [(.int 2)]))
        refine g_istore hG X31 hx (hb hby d3_71) (pc' := 73) rfl (Ls' := #[.val (.ref a), .val (.long lim), .second, .val (.ref ids), .val (.int 2), .val (.int 2), .val (.int 2), .val (.int 2)]) rfl ?_
        refine g_aloadN hG X31 hx (hb hby d3_73) (pc' := 74) rfl rfl rfl ?_
        refine g_iload hG X31 hx (hb hby d3_74) (pc' := 76) rfl rfl ?_
        refine g_aloadN hG X31 hx (hb hby d3_76) (pc' := 77) rfl rfl rfl ?_
        refine g_iload hG X31 hx (hb hby d3_77) (pc' := 79) rfl rfl ?_
        refine g_iconst hG X31 hx (hb hby d3_79) (pc' := 80) rfl (v := (1 : Int32)) rfl ?_
        refine g_iadd hG X31 hx (hb hby d3_80) (pc' := 81) rfl (v := (3 : Int32)) (by decide) ?_
        refine g_iload hG X31 hx (hb hby d3_81) (pc' := 83) rfl rfl ?_
        refine g_iload hG X31 hx (hb hby d3_83) (pc' := 85) rfl rfl ?_
        refine g_isub hG X31 hx (hb hby d3_85) (pc' := 86) rfl (v := (0 : Int32)) (by decide) ?_
        refine g_copy hG X31 hx hZ hown (wd hw 19 rfl) (wd hw 22 rfl) (wd hw 20 rfl) (wd hw 21 rfl) eh31 V_ids V_ids rfl (by decide) (by decide) (by decide) (by decide) (by decide) (vr := [(.int p0), (.int p1), (.int 0), (.int 0)]) rfl NF31 ge_ids (by rw [hml]; rfl) (hb hby d3_86) (by decide) 0 (Nat.le_of_eq rfl) (by decide) (pc' := 89) rfl ?_
        intro T32 h32 L32 X32 e32 NF32 Kq32 Vn32
        have V_ids := Vn32
        have V_a := V_a.keep Kq32 (ninS ne_a_ids nin0)
        have Zs := Nat.le_trans Zs Kq32.1
        have K32 := Kj4.trans Kq32 (allS (Or.inr sz_ids) all0)
        show G (T32.setTop (mkF m 89 _ []))
        refine g_aloadN hG X32 hx (hb hby d3_89) (pc' := 90) rfl rfl rfl ?_
        refine g_iload hG X32 hx (hb hby d3_90) (pc' := 92) rfl rfl ?_
        refine g_iload hG X32 hx (hb hby d3_92) (pc' := 94) rfl rfl ?_
        refine g_iastore hG X32 hx hZ e32 V_ids (j := (2 : Int32)) (by decide) (show Int32.toNatClampNeg (2 : Int32) < 4 by decide) (hb hby d3_94) (pc' := 95) rfl ?_
        intro T33 h33 X33 e33 W33 Vn33
        have V_ids : AV Z h33 ids .int (4 : Int32) [(.int p0), (.int p1), (.int 2), (.int 0)] := Vn33
        have V_a := V_a.other W33 ne_a_ids
        have Zs := Nat.le_trans Zs (Wr.size W33)
        have NF33 := Fr.snoc X33 NF32 ge_ids
        have K33 := K32.wr W33 (Or.inr sz_ids)
        refine g_iload hG X33 hx (hb hby d3_95) (pc' := 97) rfl rfl ?_
        refine g_iconst hG X33 hx (hb hby d3_97) (pc' := 98) rfl (v := (1 : Int32)) rfl ?_
        refine g_iadd hG X33 hx (hb hby d3_98) (pc' := 99) rfl (v := (3 : Int32)) (by decide) ?_
        refine g_aloadN hG X33 hx (hb hby d3_99) (pc' := 100) rfl rfl rfl ?_
        refine g_arraylength hG X33 hx hZ e33 V_ids (hb hby d3_100) (pc' := 101) rfl ?_
        refine g_callS hG X33 hx hZ (y := (⟨"java/lang/Math", "min", "(II)I"⟩ : MethodName)) 0 hown (wd hw 16 rfl) (wd hw 17 rfl) (wd hw 8 rfl) (wd hw 18 rfl) (by decide) (rmMI l Z a0 hw [] (3 : Int32) (4 : Int32) (3 : Int32) h33 n0 Zs (by decide)) (by decide) (by decide) (by rw [hml]; rfl) pd_3 rfl (argsL := [(.int 3), (.int 4)]) (rest := []) rfl rfl (Nat.le_of_eq rfl) (hb hby d3_101) e33 (by decide) (by decide) (pc' := 104) rfl ?_
        intro T34 rv34 L34 X34 hQ34
        obtain ⟨rfl, Nq34, eh34⟩ := hQ34
        have NF34 := Fr.app NF33 Nq34
        show G (T34.setTop (mkF m 104 _ [(.int 3)]))
        refine g_istore hG X34 hx (hb hby d3_104) (pc' := 106) rfl (Ls' := #[.val (.ref a), .val (.long lim), .second, .val (.ref ids), .val (.int 3), .val (.int 2), .val (.int 2), .val (.int 2)]) rfl ?_
        refine g_iinc hG X34 hx (hb hby d3_106) (pc' := 109) rfl rfl (v := (3 : Int32)) (by decide) (Ls' := #[.val (.ref a), .val (.long lim), .second, .val (.ref ids), .val (.int 3), .val (.int 3), .val (.int 2), .val (.int 2)]) rfl ?_
        refine g_goto hG X34 hx (hb hby d3_109) (pc' := 17) (by decide) (by decide) ?_
        exact J3 _ _ _ p0 p1 (2 : Int32) (2 : Int32) (2 : Int32) X34 eh34 NF34 Zs K33 V_a V_ids (st_2_2_4_2 b01 b02 b03 b12 b13 b23 p0 p1 TR HT2 g2_1)
    refine g_iload hG Xj3 hx (hb hby d3_17) (pc' := 19) rfl rfl ?_
    refine g_aloadN hG Xj3 hx (hb hby d3_19) (pc' := 20) rfl rfl rfl ?_
    refine g_arraylength hG Xj3 hx hZ ej3 V_a (hb hby d3_20) (pc' := 21) rfl ?_
    refine g_icmpNo hG Xj3 hx (hb hby d3_21) (pc' := 24) (by decide) rfl ?_
    refine g_iload hG Xj3 hx (hb hby d3_24) (pc' := 26) rfl rfl ?_
    refine g_istore hG Xj3 hx (hb hby d3_26) (pc' := 28) rfl (Ls' := #[.val (.ref a), .val (.long lim), .second, .val (.ref ids), .val (.int 1), .val (.int 1), .val (.int 1), .val (.int w7)]) rfl ?_
    refine g_iload hG Xj3 hx (hb hby d3_28) (pc' := 30) rfl rfl ?_
    refine g_ifNo hG Xj3 hx (hb hby d3_30) (pc' := 33) (by decide) rfl ?_
    refine g_aloadN hG Xj3 hx (hb hby d3_33) (pc' := 34) rfl rfl rfl ?_
    refine g_iload hG Xj3 hx (hb hby d3_34) (pc' := 36) rfl rfl ?_
    refine g_daload hG Xj3 hx hZ ej3 V_a (j := (1 : Int32)) (v := (.double (al (1 : Int32)))) (by decide) rfl (hb hby d3_36) (pc' := 37) rfl ?_
    refine g_aloadN hG Xj3 hx (hb hby d3_37) (pc' := 38) rfl rfl rfl ?_
    refine g_aloadN hG Xj3 hx (hb hby d3_38) (pc' := 39) rfl rfl rfl ?_
    refine g_iload hG Xj3 hx (hb hby d3_39) (pc' := 41) rfl rfl ?_
    refine g_iconst hG Xj3 hx (hb hby d3_41) (pc' := 42) rfl (v := (1 : Int32)) rfl ?_
    refine g_isub hG Xj3 hx (hb hby d3_42) (pc' := 43) rfl (v := (0 : Int32)) (by decide) ?_
    refine g_iaload hG Xj3 hx hZ ej3 V_ids (j := (0 : Int32)) (v := (.int p0)) (by decide) rfl (hb hby d3_43) (pc' := 44) rfl ?_
    refine g_daload hG Xj3 hx hZ ej3 V_a (j := p0) (v := (.double (al p0))) (nn_of bp0.1) (al_at4 (in4_of bp0.1 (by omega))) (hb hby d3_44) (pc' := 45) rfl ?_
    obtain ⟨v45, q45⟩ : ∃ zz : Int32, cmpValue (FP.dcmp (al (1 : Int32)) (al p0)) .l = zz := ⟨_, rfl⟩
    refine g_dcmp hG Xj3 hx (hb hby d3_45) (pc' := 46) rfl q45 ?_
    by_cases g1_0 : (btB b01 b02 b03 b12 b13 b23) (1 : Int32) p0 = true
    · skip
      refine g_ifNo hG Xj3 hx (hb hby d3_46) (pc' := 49) (by rw [← q45, gt_yes (BT (1 : Int32) p0 (by decide) (in4_of bp0.1 (by omega))) (fun g => by have := Int32.lt_iff_toInt_lt.mp g; rw [show (1 : Int32).toInt = 1 by decide] at this; omega) g1_0]; rfl) rfl ?_
      refine g_iinc hG Xj3 hx (hb hby d3_49) (pc' := 52) rfl rfl (v := (0 : Int32)) (by decide) (Ls' := #[.val (.ref a), .val (.long lim), .second, .val (.ref ids), .val (.int 1), .val (.int 1), .val (.int 0), .val (.int w7)]) rfl ?_
      refine g_goto hG Xj3 hx (hb hby d3_52) (pc' := 28) (by decide) (by decide) ?_
      refine g_iload hG Xj3 hx (hb hby d3_28) (pc' := 30) rfl rfl ?_
      refine g_ifYes hG Xj3 hx (hb hby d3_30) (pc' := 55) (by decide) (by decide) (by decide) ?_
      refine g_iload hG Xj3 hx (hb hby d3_55) (pc' := 57) rfl rfl ?_
      refine g_aloadN hG Xj3 hx (hb hby d3_57) (pc' := 58) rfl rfl rfl ?_
      refine g_arraylength hG Xj3 hx hZ ej3 V_ids (hb hby d3_58) (pc' := 59) rfl ?_
      refine g_icmpNo hG Xj3 hx (hb hby d3_59) (pc' := 62) (by decide) rfl ?_
      refine g_iload hG Xj3 hx (hb hby d3_62) (pc' := 64) rfl rfl ?_
      refine g_aloadN hG Xj3 hx (hb hby d3_64) (pc' := 65) rfl rfl rfl ?_
      refine g_arraylength hG Xj3 hx hZ ej3 V_ids (hb hby d3_65) (pc' := 66) rfl ?_
      refine g_iconst hG Xj3 hx (hb hby d3_66) (pc' := 67) rfl (v := (1 : Int32)) rfl ?_
      refine g_isub hG Xj3 hx (hb hby d3_67) (pc' := 68) rfl (v := (3 : Int32)) (by decide) ?_
      refine g_callS hG Xj3 hx hZ (y := (⟨"java/lang/Math", "min", "(II)I"⟩ : MethodName)) 0 hown (wd hw 16 rfl) (wd hw 17 rfl) (wd hw 8 rfl) (wd hw 18 rfl) (by decide) (rmMI l Z a0 hw [] (1 : Int32) (3 : Int32) (1 : Int32) hj3 n0 Zs (by decide)) (by decide) (by decide) (by rw [hml]; rfl) pd_3 rfl (argsL := [(.int 1), (.int 3)]) (rest := []) rfl rfl (Nat.le_of_eq rfl) (hb hby d3_68) ej3 (by decide) (by decide) (pc' := 71) rfl ?_
      intro T35 rv35 L35 X35 hQ35
      obtain ⟨rfl, Nq35, eh35⟩ := hQ35
      have NF35 := Fr.app NFj3 Nq35
      show G (T35.setTop (mkF m 71 _ [(.int 1)]))
      refine g_istore hG X35 hx (hb hby d3_71) (pc' := 73) rfl (Ls' := #[.val (.ref a), .val (.long lim), .second, .val (.ref ids), .val (.int 1), .val (.int 1), .val (.int 0), .val (.int 1)]) rfl ?_
      refine g_aloadN hG X35 hx (hb hby d3_73) (pc' := 74) rfl rfl rfl ?_
      refine g_iload hG X35 hx (hb hby d3_74) (pc' := 76) rfl rfl ?_
      refine g_aloadN hG X35 hx (hb hby d3_76) (pc' := 77) rfl rfl rfl ?_
      refine g_iload hG X35 hx (hb hby d3_77) (pc' := 79) rfl rfl ?_
      refine g_iconst hG X35 hx (hb hby d3_79) (pc' := 80) rfl (v := (1 : Int32)) rfl ?_
      refine g_iadd hG X35 hx (hb hby d3_80) (pc' := 81) rfl (v := (1 : Int32)) (by decide) ?_
      refine g_iload hG X35 hx (hb hby d3_81) (pc' := 83) rfl rfl ?_
      refine g_iload hG X35 hx (hb hby d3_83) (pc' := 85) rfl rfl ?_
      refine g_isub hG X35 hx (hb hby d3_85) (pc' := 86) rfl (v := (1 : Int32)) (by decide) ?_
      refine g_copy hG X35 hx hZ hown (wd hw 19 rfl) (wd hw 22 rfl) (wd hw 20 rfl) (wd hw 21 rfl) eh35 V_ids V_ids rfl (by decide) (by decide) (by decide) (by decide) (by decide) (vr := [(.int p0), (.int p0), (.int 0), (.int 0)]) rfl NF35 ge_ids (by rw [hml]; rfl) (hb hby d3_86) (by decide) 0 (Nat.le_of_eq rfl) (by decide) (pc' := 89) rfl ?_
      intro T36 h36 L36 X36 e36 NF36 Kq36 Vn36
      have V_ids := Vn36
      have V_a := V_a.keep Kq36 (ninS ne_a_ids nin0)
      have Zs := Nat.le_trans Zs Kq36.1
      have K36 := Kj3.trans Kq36 (allS (Or.inr sz_ids) all0)
      show G (T36.setTop (mkF m 89 _ []))
      refine g_aloadN hG X36 hx (hb hby d3_89) (pc' := 90) rfl rfl rfl ?_
      refine g_iload hG X36 hx (hb hby d3_90) (pc' := 92) rfl rfl ?_
      refine g_iload hG X36 hx (hb hby d3_92) (pc' := 94) rfl rfl ?_
      refine g_iastore hG X36 hx hZ e36 V_ids (j := (0 : Int32)) (by decide) (show Int32.toNatClampNeg (0 : Int32) < 4 by decide) (hb hby d3_94) (pc' := 95) rfl ?_
      intro T37 h37 X37 e37 W37 Vn37
      have V_ids : AV Z h37 ids .int (4 : Int32) [(.int 1), (.int p0), (.int 0), (.int 0)] := Vn37
      have V_a := V_a.other W37 ne_a_ids
      have Zs := Nat.le_trans Zs (Wr.size W37)
      have NF37 := Fr.snoc X37 NF36 ge_ids
      have K37 := K36.wr W37 (Or.inr sz_ids)
      refine g_iload hG X37 hx (hb hby d3_95) (pc' := 97) rfl rfl ?_
      refine g_iconst hG X37 hx (hb hby d3_97) (pc' := 98) rfl (v := (1 : Int32)) rfl ?_
      refine g_iadd hG X37 hx (hb hby d3_98) (pc' := 99) rfl (v := (2 : Int32)) (by decide) ?_
      refine g_aloadN hG X37 hx (hb hby d3_99) (pc' := 100) rfl rfl rfl ?_
      refine g_arraylength hG X37 hx hZ e37 V_ids (hb hby d3_100) (pc' := 101) rfl ?_
      refine g_callS hG X37 hx hZ (y := (⟨"java/lang/Math", "min", "(II)I"⟩ : MethodName)) 0 hown (wd hw 16 rfl) (wd hw 17 rfl) (wd hw 8 rfl) (wd hw 18 rfl) (by decide) (rmMI l Z a0 hw [] (2 : Int32) (4 : Int32) (2 : Int32) h37 n0 Zs (by decide)) (by decide) (by decide) (by rw [hml]; rfl) pd_3 rfl (argsL := [(.int 2), (.int 4)]) (rest := []) rfl rfl (Nat.le_of_eq rfl) (hb hby d3_101) e37 (by decide) (by decide) (pc' := 104) rfl ?_
      intro T38 rv38 L38 X38 hQ38
      obtain ⟨rfl, Nq38, eh38⟩ := hQ38
      have NF38 := Fr.app NF37 Nq38
      show G (T38.setTop (mkF m 104 _ [(.int 2)]))
      refine g_istore hG X38 hx (hb hby d3_104) (pc' := 106) rfl (Ls' := #[.val (.ref a), .val (.long lim), .second, .val (.ref ids), .val (.int 2), .val (.int 1), .val (.int 0), .val (.int 1)]) rfl ?_
      refine g_iinc hG X38 hx (hb hby d3_106) (pc' := 109) rfl rfl (v := (2 : Int32)) (by decide) (Ls' := #[.val (.ref a), .val (.long lim), .second, .val (.ref ids), .val (.int 2), .val (.int 2), .val (.int 0), .val (.int 1)]) rfl ?_
      refine g_goto hG X38 hx (hb hby d3_109) (pc' := 17) (by decide) (by decide) ?_
      exact J2 _ _ _ (1 : Int32) p0 (0 : Int32) (1 : Int32) X38 eh38 NF38 Zs K37 V_a V_ids (st_1_1_4_0 b01 b02 b03 b12 b13 b23 p0 TR HT1 g1_0)
    · skip
      refine g_ifYes hG Xj3 hx (hb hby d3_46) (pc' := 55) (by rcases gt_no (BT (1 : Int32) p0 (by decide) (in4_of bp0.1 (by omega))) g1_0 with z | z <;> rw [← q45, z] <;> rfl) (by decide) (by decide) ?_
      refine g_iload hG Xj3 hx (hb hby d3_55) (pc' := 57) rfl rfl ?_
      refine g_aloadN hG Xj3 hx (hb hby d3_57) (pc' := 58) rfl rfl rfl ?_
      refine g_arraylength hG Xj3 hx hZ ej3 V_ids (hb hby d3_58) (pc' := 59) rfl ?_
      refine g_icmpNo hG Xj3 hx (hb hby d3_59) (pc' := 62) (by decide) rfl ?_
      refine g_iload hG Xj3 hx (hb hby d3_62) (pc' := 64) rfl rfl ?_
      refine g_aloadN hG Xj3 hx (hb hby d3_64) (pc' := 65) rfl rfl rfl ?_
      refine g_arraylength hG Xj3 hx hZ ej3 V_ids (hb hby d3_65) (pc' := 66) rfl ?_
      refine g_iconst hG Xj3 hx (hb hby d3_66) (pc' := 67) rfl (v := (1 : Int32)) rfl ?_
      refine g_isub hG Xj3 hx (hb hby d3_67) (pc' := 68) rfl (v := (3 : Int32)) (by decide) ?_
      refine g_callS hG Xj3 hx hZ (y := (⟨"java/lang/Math", "min", "(II)I"⟩ : MethodName)) 0 hown (wd hw 16 rfl) (wd hw 17 rfl) (wd hw 8 rfl) (wd hw 18 rfl) (by decide) (rmMI l Z a0 hw [] (1 : Int32) (3 : Int32) (1 : Int32) hj3 n0 Zs (by decide)) (by decide) (by decide) (by rw [hml]; rfl) pd_3 rfl (argsL := [(.int 1), (.int 3)]) (rest := []) rfl rfl (Nat.le_of_eq rfl) (hb hby d3_68) ej3 (by decide) (by decide) (pc' := 71) rfl ?_
      intro T39 rv39 L39 X39 hQ39
      obtain ⟨rfl, Nq39, eh39⟩ := hQ39
      have NF39 := Fr.app NFj3 Nq39
      show G (T39.setTop (mkF m 71 _ [(.int 1)]))
      refine g_istore hG X39 hx (hb hby d3_71) (pc' := 73) rfl (Ls' := #[.val (.ref a), .val (.long lim), .second, .val (.ref ids), .val (.int 1), .val (.int 1), .val (.int 1), .val (.int 1)]) rfl ?_
      refine g_aloadN hG X39 hx (hb hby d3_73) (pc' := 74) rfl rfl rfl ?_
      refine g_iload hG X39 hx (hb hby d3_74) (pc' := 76) rfl rfl ?_
      refine g_aloadN hG X39 hx (hb hby d3_76) (pc' := 77) rfl rfl rfl ?_
      refine g_iload hG X39 hx (hb hby d3_77) (pc' := 79) rfl rfl ?_
      refine g_iconst hG X39 hx (hb hby d3_79) (pc' := 80) rfl (v := (1 : Int32)) rfl ?_
      refine g_iadd hG X39 hx (hb hby d3_80) (pc' := 81) rfl (v := (2 : Int32)) (by decide) ?_
      refine g_iload hG X39 hx (hb hby d3_81) (pc' := 83) rfl rfl ?_
      refine g_iload hG X39 hx (hb hby d3_83) (pc' := 85) rfl rfl ?_
      refine g_isub hG X39 hx (hb hby d3_85) (pc' := 86) rfl (v := (0 : Int32)) (by decide) ?_
      refine g_copy hG X39 hx hZ hown (wd hw 19 rfl) (wd hw 22 rfl) (wd hw 20 rfl) (wd hw 21 rfl) eh39 V_ids V_ids rfl (by decide) (by decide) (by decide) (by decide) (by decide) (vr := [(.int p0), (.int 0), (.int 0), (.int 0)]) rfl NF39 ge_ids (by rw [hml]; rfl) (hb hby d3_86) (by decide) 0 (Nat.le_of_eq rfl) (by decide) (pc' := 89) rfl ?_
      intro T40 h40 L40 X40 e40 NF40 Kq40 Vn40
      have V_ids := Vn40
      have V_a := V_a.keep Kq40 (ninS ne_a_ids nin0)
      have Zs := Nat.le_trans Zs Kq40.1
      have K40 := Kj3.trans Kq40 (allS (Or.inr sz_ids) all0)
      show G (T40.setTop (mkF m 89 _ []))
      refine g_aloadN hG X40 hx (hb hby d3_89) (pc' := 90) rfl rfl rfl ?_
      refine g_iload hG X40 hx (hb hby d3_90) (pc' := 92) rfl rfl ?_
      refine g_iload hG X40 hx (hb hby d3_92) (pc' := 94) rfl rfl ?_
      refine g_iastore hG X40 hx hZ e40 V_ids (j := (1 : Int32)) (by decide) (show Int32.toNatClampNeg (1 : Int32) < 4 by decide) (hb hby d3_94) (pc' := 95) rfl ?_
      intro T41 h41 X41 e41 W41 Vn41
      have V_ids : AV Z h41 ids .int (4 : Int32) [(.int p0), (.int 1), (.int 0), (.int 0)] := Vn41
      have V_a := V_a.other W41 ne_a_ids
      have Zs := Nat.le_trans Zs (Wr.size W41)
      have NF41 := Fr.snoc X41 NF40 ge_ids
      have K41 := K40.wr W41 (Or.inr sz_ids)
      refine g_iload hG X41 hx (hb hby d3_95) (pc' := 97) rfl rfl ?_
      refine g_iconst hG X41 hx (hb hby d3_97) (pc' := 98) rfl (v := (1 : Int32)) rfl ?_
      refine g_iadd hG X41 hx (hb hby d3_98) (pc' := 99) rfl (v := (2 : Int32)) (by decide) ?_
      refine g_aloadN hG X41 hx (hb hby d3_99) (pc' := 100) rfl rfl rfl ?_
      refine g_arraylength hG X41 hx hZ e41 V_ids (hb hby d3_100) (pc' := 101) rfl ?_
      refine g_callS hG X41 hx hZ (y := (⟨"java/lang/Math", "min", "(II)I"⟩ : MethodName)) 0 hown (wd hw 16 rfl) (wd hw 17 rfl) (wd hw 8 rfl) (wd hw 18 rfl) (by decide) (rmMI l Z a0 hw [] (2 : Int32) (4 : Int32) (2 : Int32) h41 n0 Zs (by decide)) (by decide) (by decide) (by rw [hml]; rfl) pd_3 rfl (argsL := [(.int 2), (.int 4)]) (rest := []) rfl rfl (Nat.le_of_eq rfl) (hb hby d3_101) e41 (by decide) (by decide) (pc' := 104) rfl ?_
      intro T42 rv42 L42 X42 hQ42
      obtain ⟨rfl, Nq42, eh42⟩ := hQ42
      have NF42 := Fr.app NF41 Nq42
      show G (T42.setTop (mkF m 104 _ [(.int 2)]))
      refine g_istore hG X42 hx (hb hby d3_104) (pc' := 106) rfl (Ls' := #[.val (.ref a), .val (.long lim), .second, .val (.ref ids), .val (.int 2), .val (.int 1), .val (.int 1), .val (.int 1)]) rfl ?_
      refine g_iinc hG X42 hx (hb hby d3_106) (pc' := 109) rfl rfl (v := (2 : Int32)) (by decide) (Ls' := #[.val (.ref a), .val (.long lim), .second, .val (.ref ids), .val (.int 2), .val (.int 2), .val (.int 1), .val (.int 1)]) rfl ?_
      refine g_goto hG X42 hx (hb hby d3_109) (pc' := 17) (by decide) (by decide) ?_
      exact J2 _ _ _ p0 (1 : Int32) (1 : Int32) (1 : Int32) X42 eh42 NF42 Zs K41 V_a V_ids (st_1_1_4_1 b01 b02 b03 b12 b13 b23 p0 TR HT1 g1_0)
  refine g_iload hG X2 hx (hb hby d3_17) (pc' := 19) rfl rfl ?_
  refine g_aloadN hG X2 hx (hb hby d3_19) (pc' := 20) rfl rfl rfl ?_
  refine g_arraylength hG X2 hx hZ e2 V_a (hb hby d3_20) (pc' := 21) rfl ?_
  refine g_icmpNo hG X2 hx (hb hby d3_21) (pc' := 24) (by decide) rfl ?_
  refine g_iload hG X2 hx (hb hby d3_24) (pc' := 26) rfl rfl ?_
  refine g_istore hG X2 hx (hb hby d3_26) (pc' := 28) rfl (Ls' := #[.val (.ref a), .val (.long lim), .second, .val (.ref ids), .val (.int 0), .val (.int 0), .val (.int 0), .unset]) rfl ?_
  refine g_iload hG X2 hx (hb hby d3_28) (pc' := 30) rfl rfl ?_
  refine g_ifYes hG X2 hx (hb hby d3_30) (pc' := 55) (by decide) (by decide) (by decide) ?_
  refine g_iload hG X2 hx (hb hby d3_55) (pc' := 57) rfl rfl ?_
  refine g_aloadN hG X2 hx (hb hby d3_57) (pc' := 58) rfl rfl rfl ?_
  refine g_arraylength hG X2 hx hZ e2 V_ids (hb hby d3_58) (pc' := 59) rfl ?_
  refine g_icmpNo hG X2 hx (hb hby d3_59) (pc' := 62) (by decide) rfl ?_
  refine g_iload hG X2 hx (hb hby d3_62) (pc' := 64) rfl rfl ?_
  refine g_aloadN hG X2 hx (hb hby d3_64) (pc' := 65) rfl rfl rfl ?_
  refine g_arraylength hG X2 hx hZ e2 V_ids (hb hby d3_65) (pc' := 66) rfl ?_
  refine g_iconst hG X2 hx (hb hby d3_66) (pc' := 67) rfl (v := (1 : Int32)) rfl ?_
  refine g_isub hG X2 hx (hb hby d3_67) (pc' := 68) rfl (v := (3 : Int32)) (by decide) ?_
  refine g_callS hG X2 hx hZ (y := (⟨"java/lang/Math", "min", "(II)I"⟩ : MethodName)) 0 hown (wd hw 16 rfl) (wd hw 17 rfl) (wd hw 8 rfl) (wd hw 18 rfl) (by decide) (rmMI l Z a0 hw [] (0 : Int32) (3 : Int32) (0 : Int32) h2 n0 Zs (by decide)) (by decide) (by decide) (by rw [hml]; rfl) pd_3 rfl (argsL := [(.int 0), (.int 3)]) (rest := []) rfl rfl (Nat.le_of_eq rfl) (hb hby d3_68) e2 (by decide) (by decide) (pc' := 71) rfl ?_
  intro T43 rv43 L43 X43 hQ43
  obtain ⟨rfl, Nq43, eh43⟩ := hQ43
  have NF43 := Fr.app NF1 Nq43
  show G (T43.setTop (mkF m 71 _ [(.int 0)]))
  refine g_istore hG X43 hx (hb hby d3_71) (pc' := 73) rfl (Ls' := #[.val (.ref a), .val (.long lim), .second, .val (.ref ids), .val (.int 0), .val (.int 0), .val (.int 0), .val (.int 0)]) rfl ?_
  refine g_aloadN hG X43 hx (hb hby d3_73) (pc' := 74) rfl rfl rfl ?_
  refine g_iload hG X43 hx (hb hby d3_74) (pc' := 76) rfl rfl ?_
  refine g_aloadN hG X43 hx (hb hby d3_76) (pc' := 77) rfl rfl rfl ?_
  refine g_iload hG X43 hx (hb hby d3_77) (pc' := 79) rfl rfl ?_
  refine g_iconst hG X43 hx (hb hby d3_79) (pc' := 80) rfl (v := (1 : Int32)) rfl ?_
  refine g_iadd hG X43 hx (hb hby d3_80) (pc' := 81) rfl (v := (1 : Int32)) (by decide) ?_
  refine g_iload hG X43 hx (hb hby d3_81) (pc' := 83) rfl rfl ?_
  refine g_iload hG X43 hx (hb hby d3_83) (pc' := 85) rfl rfl ?_
  refine g_isub hG X43 hx (hb hby d3_85) (pc' := 86) rfl (v := (0 : Int32)) (by decide) ?_
  refine g_copy hG X43 hx hZ hown (wd hw 19 rfl) (wd hw 22 rfl) (wd hw 20 rfl) (wd hw 21 rfl) eh43 V_ids V_ids rfl (by decide) (by decide) (by decide) (by decide) (by decide) (vr := [(.int 0), (.int 0), (.int 0), (.int 0)]) rfl NF43 ge_ids (by rw [hml]; rfl) (hb hby d3_86) (by decide) 0 (Nat.le_of_eq rfl) (by decide) (pc' := 89) rfl ?_
  intro T44 h44 L44 X44 e44 NF44 Kq44 Vn44
  have V_ids := Vn44
  have V_a := V_a.keep Kq44 (ninS ne_a_ids nin0)
  have Zs := Nat.le_trans Zs Kq44.1
  have K44 := K2.trans Kq44 (allS (Or.inr sz_ids) all0)
  show G (T44.setTop (mkF m 89 _ []))
  refine g_aloadN hG X44 hx (hb hby d3_89) (pc' := 90) rfl rfl rfl ?_
  refine g_iload hG X44 hx (hb hby d3_90) (pc' := 92) rfl rfl ?_
  refine g_iload hG X44 hx (hb hby d3_92) (pc' := 94) rfl rfl ?_
  refine g_iastore hG X44 hx hZ e44 V_ids (j := (0 : Int32)) (by decide) (show Int32.toNatClampNeg (0 : Int32) < 4 by decide) (hb hby d3_94) (pc' := 95) rfl ?_
  intro T45 h45 X45 e45 W45 Vn45
  have V_ids : AV Z h45 ids .int (4 : Int32) [(.int 0), (.int 0), (.int 0), (.int 0)] := Vn45
  have V_a := V_a.other W45 ne_a_ids
  have Zs := Nat.le_trans Zs (Wr.size W45)
  have NF45 := Fr.snoc X45 NF44 ge_ids
  have K45 := K44.wr W45 (Or.inr sz_ids)
  refine g_iload hG X45 hx (hb hby d3_95) (pc' := 97) rfl rfl ?_
  refine g_iconst hG X45 hx (hb hby d3_97) (pc' := 98) rfl (v := (1 : Int32)) rfl ?_
  refine g_iadd hG X45 hx (hb hby d3_98) (pc' := 99) rfl (v := (1 : Int32)) (by decide) ?_
  refine g_aloadN hG X45 hx (hb hby d3_99) (pc' := 100) rfl rfl rfl ?_
  refine g_arraylength hG X45 hx hZ e45 V_ids (hb hby d3_100) (pc' := 101) rfl ?_
  refine g_callS hG X45 hx hZ (y := (⟨"java/lang/Math", "min", "(II)I"⟩ : MethodName)) 0 hown (wd hw 16 rfl) (wd hw 17 rfl) (wd hw 8 rfl) (wd hw 18 rfl) (by decide) (rmMI l Z a0 hw [] (1 : Int32) (4 : Int32) (1 : Int32) h45 n0 Zs (by decide)) (by decide) (by decide) (by rw [hml]; rfl) pd_3 rfl (argsL := [(.int 1), (.int 4)]) (rest := []) rfl rfl (Nat.le_of_eq rfl) (hb hby d3_101) e45 (by decide) (by decide) (pc' := 104) rfl ?_
  intro T46 rv46 L46 X46 hQ46
  obtain ⟨rfl, Nq46, eh46⟩ := hQ46
  have NF46 := Fr.app NF45 Nq46
  show G (T46.setTop (mkF m 104 _ [(.int 1)]))
  refine g_istore hG X46 hx (hb hby d3_104) (pc' := 106) rfl (Ls' := #[.val (.ref a), .val (.long lim), .second, .val (.ref ids), .val (.int 1), .val (.int 0), .val (.int 0), .val (.int 0)]) rfl ?_
  refine g_iinc hG X46 hx (hb hby d3_106) (pc' := 109) rfl rfl (v := (1 : Int32)) (by decide) (Ls' := #[.val (.ref a), .val (.long lim), .second, .val (.ref ids), .val (.int 1), .val (.int 1), .val (.int 0), .val (.int 0)]) rfl ?_
  refine g_goto hG X46 hx (hb hby d3_109) (pc' := 17) (by decide) (by decide) ?_
  exact J1 _ _ _ (0 : Int32) (0 : Int32) (0 : Int32) X46 eh46 NF46 Zs K45 V_a V_ids (st_0_0_4_0 b01 b02 b03 b12 b13 b23  TR HT0 )

def Q_rm0 (Z : State) (i0 i1 : Int32) (i2 : Int64) (h0 : Heap) (n0 : Nat) (v : Option Value) (h : Heap) (L : List Loc) : Prop := v = some (.int 1) ∧ Fr n0 L
set_option maxRecDepth 65536 in
set_option maxHeartbeats 40000000 in
theorem rm0 (l : Launch) (Z : State) (a0 : Array Value) (hw : ∀ d ∈ tables_1, d.before a0 Z = true) (ws : List Jvm.Cond) (i0 i1 : Int32) (i2 : Int64) (h0 : Heap) (n0 : Nat) (Zs : n0 ≤ h0.size)  :
    Con l x code maxLocals ret ws room_1 Z #[(.int i0), (.int i1), (.long i2)] h0 room_1.cells room_1.slots (Q_rm0 Z i0 i1 i2 h0 n0) := by
  refine Con.of (Ls := #[.val (.int i0), .val (.int i1), .val (.long i2), .second, .unset, .unset, .unset, .unset, .unset, .unset, .unset, .unset, .unset, .unset, .unset, .unset, .unset, .unset, .unset]) (plainFor_of_name (by first | (simp [plainName, overriddenIn]; done) | decide +kernel)) (fun m => by first | (simp [entryFrame, mkF, argsToLocals, Value.category, maxLocals]; done) | rfl) ?_
  intro p e s m below meth c s₁ G hGe hG hx hby hml hown hnm hrt hlk hZ X0 e0
  have hml : c.maxLocals = 19 := hml
  have hown : s.vm.findClass "com/example/gauge_terms/gaugeterms/TopValuesPositionsPinLaw" = some m.cls := hown
  have hnm : meth.name = "law" := hnm
  have NF0 := Fr.nil n0
  refine g_iloadN hG X0 hx (hb hby at_0) (pc' := 1) rfl rfl ?_
  refine g_sipush hG X0 hx (hb hby at_1) (pc' := 4) rfl (v := (255 : Int32)) rfl ?_
  obtain ⟨v4, q4⟩ : ∃ zz : Int32, i1 &&& (255 : Int32) = zz := ⟨_, rfl⟩
  refine g_iand hG X0 hx (hb hby at_4) (pc' := 5) rfl q4 ?_
  refine g_iconst hG X0 hx (hb hby at_5) (pc' := 6) rfl (v := (5 : Int32)) rfl ?_
  obtain ⟨nn, q_nn⟩ : ∃ zz : Int32, v4 % (5 : Int32) = zz := ⟨_, rfl⟩
  refine g_irem hG X0 hx (hb hby at_6) (pc' := 7) rfl (by decide) q_nn ?_
  refine g_istore hG X0 hx (hb hby at_7) (pc' := 9) rfl (Ls' := #[.val (.int i0), .val (.int i1), .val (.long i2), .second, .val (.int nn), .unset, .unset, .unset, .unset, .unset, .unset, .unset, .unset, .unset, .unset, .unset, .unset, .unset, .unset]) rfl ?_
  refine g_iloadN hG X0 hx (hb hby at_9) (pc' := 10) rfl rfl ?_
  refine g_sipush hG X0 hx (hb hby at_10) (pc' := 13) rfl (v := (256 : Int32)) rfl ?_
  obtain ⟨v13, q13⟩ : ∃ zz : Int32, i1 &&& (256 : Int32) = zz := ⟨_, rfl⟩
  refine g_iand hG X0 hx (hb hby at_13) (pc' := 14) rfl q13 ?_
  have c22 : ∀ (fg : Int32), G (s₁.setTop (mkF m 22 #[.val (.int i0), .val (.int i1), .val (.long i2), .second, .val (.int nn), .unset, .unset, .unset, .unset, .unset, .unset, .unset, .unset, .unset, .unset, .unset, .unset, .unset, .unset] [(.int fg)])) := by
    intro fg
    refine g_istore hG X0 hx (hb hby at_22) (pc' := 24) rfl (Ls' := #[.val (.int i0), .val (.int i1), .val (.long i2), .second, .val (.int nn), .val (.int fg), .unset, .unset, .unset, .unset, .unset, .unset, .unset, .unset, .unset, .unset, .unset, .unset, .unset]) rfl ?_
    refine g_iload hG X0 hx (hb hby at_24) (pc' := 26) rfl rfl ?_
    have c42 : ∀ (lim : Int64), 0 ≤ lim.toInt → G (s₁.setTop (mkF m 42 #[.val (.int i0), .val (.int i1), .val (.long i2), .second, .val (.int nn), .val (.int fg), .unset, .unset, .unset, .unset, .unset, .unset, .unset, .unset, .unset, .unset, .unset, .unset, .unset] [(.long lim)])) := by
      intro lim hlim
      refine g_lstore hG X0 hx (hb hby at_42) (pc' := 44) rfl (Ls' := #[.val (.int i0), .val (.int i1), .val (.long i2), .second, .val (.int nn), .val (.int fg), .val (.long lim), .second, .unset, .unset, .unset, .unset, .unset, .unset, .unset, .unset, .unset, .unset, .unset]) rfl ?_
      refine g_iloadN hG X0 hx (hb hby at_44) (pc' := 45) rfl rfl ?_
      refine g_bipush hG X0 hx (hb hby at_45) (pc' := 47) rfl (v := (15 : Int32)) rfl ?_
      obtain ⟨v47, q47⟩ : ∃ zz : Int32, i0 &&& (15 : Int32) = zz := ⟨_, rfl⟩
      refine g_iand hG X0 hx (hb hby at_47) (pc' := 48) rfl q47 ?_
      refine g_bipush hG X0 hx (hb hby at_48) (pc' := 50) rfl (v := (8 : Int32)) rfl ?_
      obtain ⟨v50, q50⟩ : ∃ zz : Int32, v47 - (8 : Int32) = zz := ⟨_, rfl⟩
      refine g_isub hG X0 hx (hb hby at_50) (pc' := 51) rfl q50 ?_
      obtain ⟨v51, q51⟩ : ∃ zz : UInt64, FP.i2d v50 = zz := ⟨_, rfl⟩
      refine g_i2d hG X0 hx (hb hby at_51) (pc' := 52) rfl q51 ?_
      refine g_dstore hG X0 hx (hb hby at_52) (pc' := 54) rfl (Ls' := #[.val (.int i0), .val (.int i1), .val (.long i2), .second, .val (.int nn), .val (.int fg), .val (.long lim), .second, .val (.double v51), .second, .unset, .unset, .unset, .unset, .unset, .unset, .unset, .unset, .unset]) rfl ?_
      refine g_iloadN hG X0 hx (hb hby at_54) (pc' := 55) rfl rfl ?_
      refine g_iconst hG X0 hx (hb hby at_55) (pc' := 56) rfl (v := (4 : Int32)) rfl ?_
      obtain ⟨v56, q56⟩ : ∃ zz : Int32, i0 >>> ((4 : Int32) &&& 31) = zz := ⟨_, rfl⟩
      refine g_ishr hG X0 hx (hb hby at_56) (pc' := 57) rfl q56 ?_
      refine g_bipush hG X0 hx (hb hby at_57) (pc' := 59) rfl (v := (15 : Int32)) rfl ?_
      obtain ⟨v59, q59⟩ : ∃ zz : Int32, v56 &&& (15 : Int32) = zz := ⟨_, rfl⟩
      refine g_iand hG X0 hx (hb hby at_59) (pc' := 60) rfl q59 ?_
      refine g_bipush hG X0 hx (hb hby at_60) (pc' := 62) rfl (v := (8 : Int32)) rfl ?_
      obtain ⟨v62, q62⟩ : ∃ zz : Int32, v59 - (8 : Int32) = zz := ⟨_, rfl⟩
      refine g_isub hG X0 hx (hb hby at_62) (pc' := 63) rfl q62 ?_
      obtain ⟨v63, q63⟩ : ∃ zz : UInt64, FP.i2d v62 = zz := ⟨_, rfl⟩
      refine g_i2d hG X0 hx (hb hby at_63) (pc' := 64) rfl q63 ?_
      refine g_dstore hG X0 hx (hb hby at_64) (pc' := 66) rfl (Ls' := #[.val (.int i0), .val (.int i1), .val (.long i2), .second, .val (.int nn), .val (.int fg), .val (.long lim), .second, .val (.double v51), .second, .val (.double v63), .second, .unset, .unset, .unset, .unset, .unset, .unset, .unset]) rfl ?_
      refine g_iloadN hG X0 hx (hb hby at_66) (pc' := 67) rfl rfl ?_
      refine g_bipush hG X0 hx (hb hby at_67) (pc' := 69) rfl (v := (8 : Int32)) rfl ?_
      obtain ⟨v69, q69⟩ : ∃ zz : Int32, i0 >>> ((8 : Int32) &&& 31) = zz := ⟨_, rfl⟩
      refine g_ishr hG X0 hx (hb hby at_69) (pc' := 70) rfl q69 ?_
      refine g_bipush hG X0 hx (hb hby at_70) (pc' := 72) rfl (v := (15 : Int32)) rfl ?_
      obtain ⟨v72, q72⟩ : ∃ zz : Int32, v69 &&& (15 : Int32) = zz := ⟨_, rfl⟩
      refine g_iand hG X0 hx (hb hby at_72) (pc' := 73) rfl q72 ?_
      refine g_bipush hG X0 hx (hb hby at_73) (pc' := 75) rfl (v := (8 : Int32)) rfl ?_
      obtain ⟨v75, q75⟩ : ∃ zz : Int32, v72 - (8 : Int32) = zz := ⟨_, rfl⟩
      refine g_isub hG X0 hx (hb hby at_75) (pc' := 76) rfl q75 ?_
      obtain ⟨v76, q76⟩ : ∃ zz : UInt64, FP.i2d v75 = zz := ⟨_, rfl⟩
      refine g_i2d hG X0 hx (hb hby at_76) (pc' := 77) rfl q76 ?_
      refine g_dstore hG X0 hx (hb hby at_77) (pc' := 79) rfl (Ls' := #[.val (.int i0), .val (.int i1), .val (.long i2), .second, .val (.int nn), .val (.int fg), .val (.long lim), .second, .val (.double v51), .second, .val (.double v63), .second, .val (.double v76), .second, .unset, .unset, .unset, .unset, .unset]) rfl ?_
      refine g_iloadN hG X0 hx (hb hby at_79) (pc' := 80) rfl rfl ?_
      refine g_bipush hG X0 hx (hb hby at_80) (pc' := 82) rfl (v := (12 : Int32)) rfl ?_
      obtain ⟨v82, q82⟩ : ∃ zz : Int32, i0 >>> ((12 : Int32) &&& 31) = zz := ⟨_, rfl⟩
      refine g_ishr hG X0 hx (hb hby at_82) (pc' := 83) rfl q82 ?_
      refine g_bipush hG X0 hx (hb hby at_83) (pc' := 85) rfl (v := (15 : Int32)) rfl ?_
      obtain ⟨v85, q85⟩ : ∃ zz : Int32, v82 &&& (15 : Int32) = zz := ⟨_, rfl⟩
      refine g_iand hG X0 hx (hb hby at_85) (pc' := 86) rfl q85 ?_
      refine g_bipush hG X0 hx (hb hby at_86) (pc' := 88) rfl (v := (8 : Int32)) rfl ?_
      obtain ⟨v88, q88⟩ : ∃ zz : Int32, v85 - (8 : Int32) = zz := ⟨_, rfl⟩
      refine g_isub hG X0 hx (hb hby at_88) (pc' := 89) rfl q88 ?_
      obtain ⟨v89, q89⟩ : ∃ zz : UInt64, FP.i2d v88 = zz := ⟨_, rfl⟩
      refine g_i2d hG X0 hx (hb hby at_89) (pc' := 90) rfl q89 ?_
      refine g_dstore hG X0 hx (hb hby at_90) (pc' := 92) rfl (Ls' := #[.val (.int i0), .val (.int i1), .val (.long i2), .second, .val (.int nn), .val (.int fg), .val (.long lim), .second, .val (.double v51), .second, .val (.double v63), .second, .val (.double v76), .second, .val (.double v89), .second, .unset, .unset, .unset]) rfl ?_
      have b4 : 0 ≤ v4.toInt := by rw [← q4]; exact (c_and i1 255 (by decide)).1
      have b6 := own_rem5 v4 b4
      rw [q_nn] at b6
      have E0 : OwnFl.DV v51 (v50.toInt : Rat) := by rw [← q51]; exact OwnFl.i2d_DV v50
      have E1 : OwnFl.DV v63 (v62.toInt : Rat) := by rw [← q63]; exact OwnFl.i2d_DV v62
      have E2 : OwnFl.DV v76 (v75.toInt : Rat) := by rw [← q76]; exact OwnFl.i2d_DV v75
      have E3 : OwnFl.DV v89 (v88.toInt : Rat) := by rw [← q89]; exact OwnFl.i2d_DV v88
      obtain ⟨al, ha0, ha1, ha2, ha3⟩ : ∃ al : Int32 → UInt64, v51 = al 0 ∧ v63 = al 1 ∧ v76 = al 2 ∧ v89 = al 3 := ⟨fun i => if i = 0 then v51 else if i = 1 then v63 else if i = 2 then v76 else v89, rfl, rfl, rfl, rfl⟩
      subst ha0 ha1 ha2 ha3
      have BT := own_bt E0 E1 E2 E3
      have TR := own_tr v50.toInt v62.toInt v75.toInt v88.toInt
      generalize decide (v62.toInt ≤ v50.toInt) = b01 at BT TR
      generalize decide (v75.toInt ≤ v50.toInt) = b02 at BT TR
      generalize decide (v88.toInt ≤ v50.toInt) = b03 at BT TR
      generalize decide (v75.toInt ≤ v62.toInt) = b12 at BT TR
      generalize decide (v88.toInt ≤ v62.toInt) = b13 at BT TR
      generalize decide (v88.toInt ≤ v75.toInt) = b23 at BT TR
      obtain ⟨r, hm, hr⟩ := own_min lim nn.toInt64
      rw [c_i2l] at hr
      have hrk : r.toInt32.toInt = r.toInt := by
        have a := c_l2i r
        have b := rng32 r.toInt32
        omega
      have hcase : (nn = 0 ∧ r.toInt32 = 0) ∨ (nn = 1 ∧ r.toInt32 = 0) ∨ (nn = 1 ∧ r.toInt32 = 1) ∨ (nn = 2 ∧ r.toInt32 = 0) ∨ (nn = 2 ∧ r.toInt32 = 1) ∨ (nn = 2 ∧ r.toInt32 = 2) ∨ (nn = 3 ∧ r.toInt32 = 0) ∨ (nn = 3 ∧ r.toInt32 = 1) ∨ (nn = 3 ∧ r.toInt32 = 2) ∨ (nn = 3 ∧ r.toInt32 = 3) ∨ (nn = 4 ∧ r.toInt32 = 0) ∨ (nn = 4 ∧ r.toInt32 = 1) ∨ (nn = 4 ∧ r.toInt32 = 2) ∨ (nn = 4 ∧ r.toInt32 = 3) ∨ (nn = 4 ∧ r.toInt32 = 4) := by
        have e : ∀ k : Int32, r.toInt32 = k ↔ r.toInt = k.toInt := fun k => by rw [← Int32.toInt_inj, hrk]
        have e' : ∀ k : Int32, nn = k ↔ nn.toInt = k.toInt := fun k => by rw [← Int32.toInt_inj]
        have hn : nn.toInt = 0 ∨ nn.toInt = 1 ∨ nn.toInt = 2 ∨ nn.toInt = 3 ∨ nn.toInt = 4 := by omega
        have hq : r.toInt = 0 ∨ r.toInt = 1 ∨ r.toInt = 2 ∨ r.toInt = 3 ∨ r.toInt = 4 := by omega
        have hl : r.toInt ≤ nn.toInt := by omega
        simp only [e, e', show (0 : Int32).toInt = 0 by decide, show (1 : Int32).toInt = 1 by decide, show (2 : Int32).toInt = 2 by decide, show (3 : Int32).toInt = 3 by decide, show (4 : Int32).toInt = 4 by decide]
        clear e e' hm hr hrk
        rcases hn with h | h | h | h | h <;> rcases hq with g | g | g | g | g <;> first | (exfalso; omega) | simp [h, g]
      rcases hcase with ⟨rfl, hk⟩ | ⟨rfl, hk⟩ | ⟨rfl, hk⟩ | ⟨rfl, hk⟩ | ⟨rfl, hk⟩ | ⟨rfl, hk⟩ | ⟨rfl, hk⟩ | ⟨rfl, hk⟩ | ⟨rfl, hk⟩ | ⟨rfl, hk⟩ | ⟨rfl, hk⟩ | ⟨rfl, hk⟩ | ⟨rfl, hk⟩ | ⟨rfl, hk⟩ | ⟨rfl, hk⟩
      · skip
        refine g_iload hG X0 hx (hb hby at_92) (pc' := 94) rfl rfl ?_
        refine g_dload hG X0 hx (hb hby at_94) (pc' := 96) rfl rfl ?_
        refine g_dload hG X0 hx (hb hby at_96) (pc' := 98) rfl rfl ?_
        refine g_dload hG X0 hx (hb hby at_98) (pc' := 100) rfl rfl ?_
        refine g_dload hG X0 hx (hb hby at_100) (pc' := 102) rfl rfl ?_
        refine g_callS hG X0 hx hZ (y := (⟨"com/example/gauge_terms/gaugeterms/TopValuesPositionsPinLaw", "build", "(IDDDD)[D"⟩ : MethodName)) 0 hown (wd hw 1 rfl) (wd hw 2 rfl) (wd hw 3 rfl) (wd hw 4 rfl) (by decide) (rmBu0 l Z a0 hw [] al h0 n0 Zs) (by decide) (by decide) (by rw [hml]; rfl) pd_4 rfl (argsL := [(.int 0), (.double (al (0 : Int32))), (.double (al (1 : Int32))), (.double (al (2 : Int32))), (.double (al (3 : Int32)))]) (rest := []) rfl rfl (Nat.le_of_eq rfl) (hb hby at_102) e0 (by decide) (by decide) (pc' := 105) rfl ?_
        intro T1 rv1 L1 X1 hQ1
        obtain ⟨a, rfl, Nq1, Kq1, szq1, V_a⟩ := hQ1
        have NF1 := Fr.app NF0 Nq1
        have ge_a : n0 ≤ a := Nat.le_trans Zs szq1
        have Zs := Nat.le_trans Zs Kq1.1
        show G (T1.setTop (mkF m 105 _ [(.ref a)]))
        refine g_astore hG X1 hx (hb hby at_105) (pc' := 107) rfl rfl (Ls' := #[.val (.int i0), .val (.int i1), .val (.long i2), .second, .val (.int 0), .val (.int fg), .val (.long lim), .second, .val (.double (al (0 : Int32))), .second, .val (.double (al (1 : Int32))), .second, .val (.double (al (2 : Int32))), .second, .val (.double (al (3 : Int32))), .second, .val (.ref a), .unset, .unset]) rfl ?_
        refine g_lload hG X1 hx (hb hby at_107) (pc' := 109) rfl rfl ?_
        refine g_iload hG X1 hx (hb hby at_109) (pc' := 111) rfl rfl ?_
        obtain ⟨v111, q111⟩ : ∃ zz : Int64, (0 : Int32).toInt64 = zz := ⟨_, rfl⟩
        refine g_i2l hG X1 hx (hb hby at_111) (pc' := 112) rfl q111 ?_
        refine g_callS hG X1 hx hZ (y := (⟨"java/lang/Math", "min", "(JJ)J"⟩ : MethodName)) 0 hown (wd hw 6 rfl) (wd hw 7 rfl) (wd hw 8 rfl) (wd hw 9 rfl) (by decide) (rmMJ l Z a0 hw [] lim v111 r T1.heap n0 Zs (q111 ▸ hm)) (by decide) (by decide) (by rw [hml]; rfl) pd_0 rfl (argsL := [(.long lim), (.long v111)]) (rest := []) rfl rfl (Nat.le_of_eq rfl) (hb hby at_112) rfl (by decide) (by decide) (pc' := 115) rfl ?_
        intro T2 rv2 L2 X2 hQ2
        obtain ⟨rfl, Nq2, eh2⟩ := hQ2
        have NF2 := Fr.app NF1 Nq2
        show G (T2.setTop (mkF m 115 _ [(.long r)]))
        refine g_l2i hG X2 hx (hb hby at_115) (pc' := 116) rfl hk ?_
        refine g_istore hG X2 hx (hb hby at_116) (pc' := 118) rfl (Ls' := #[.val (.int i0), .val (.int i1), .val (.long i2), .second, .val (.int 0), .val (.int fg), .val (.long lim), .second, .val (.double (al (0 : Int32))), .second, .val (.double (al (1 : Int32))), .second, .val (.double (al (2 : Int32))), .second, .val (.double (al (3 : Int32))), .second, .val (.ref a), .val (.int 0), .unset]) rfl ?_
        refine g_aload hG X2 hx (hb hby at_118) (pc' := 120) rfl rfl rfl ?_
        refine g_lload hG X2 hx (hb hby at_120) (pc' := 122) rfl rfl ?_
        refine g_callS hG X2 hx hZ (y := (⟨"com/example/gauge_terms/gaugeterms/TopValues", "positions", "([DJ)[I"⟩ : MethodName)) 0 hown (wd hw 10 rfl) (wd hw 11 rfl) (wd hw 12 rfl) (wd hw 13 rfl) (by decide) (rmPos0_0 l Z a0 hw [] a al b01 b02 b03 b12 b13 b23 lim r T1.heap n0 Zs V_a TR BT hm hk) (by decide) (by decide) (by rw [hml]; rfl) pd_5 rfl (argsL := [(.ref a), (.long lim)]) (rest := []) rfl rfl (Nat.le_of_eq rfl) (hb hby at_122) eh2 (by decide) (by decide) (pc' := 125) rfl ?_
        intro T3 rv3 L3 X3 hQ3
        obtain ⟨ids, rfl, Nq3, Kq3, szq3, V_ids, HT⟩ := hQ3
        have NF3 := Fr.app NF2 Nq3
        have ne_a_ids : a ≠ ids := Nat.ne_of_lt (Nat.lt_of_lt_of_le V_a.lt szq3)
        have ge_ids : n0 ≤ ids := Nat.le_trans Zs szq3
        have V_a := V_a.keep Kq3 nin0
        have Zs := Nat.le_trans Zs Kq3.1
        show G (T3.setTop (mkF m 125 _ [(.ref ids)]))
        refine g_astore hG X3 hx (hb hby at_125) (pc' := 127) rfl rfl (Ls' := #[.val (.int i0), .val (.int i1), .val (.long i2), .second, .val (.int 0), .val (.int fg), .val (.long lim), .second, .val (.double (al (0 : Int32))), .second, .val (.double (al (1 : Int32))), .second, .val (.double (al (2 : Int32))), .second, .val (.double (al (3 : Int32))), .second, .val (.ref a), .val (.int 0), .val (.ref ids)]) rfl ?_
        refine g_aload hG X3 hx (hb hby at_127) (pc' := 129) rfl rfl rfl ?_
        refine g_ifnonnullYes hG X3 hx (hb hby at_129) (pc' := 134) (by decide) (by decide) ?_
        refine g_aload hG X3 hx (hb hby at_134) (pc' := 136) rfl rfl rfl ?_
        refine g_arraylength hG X3 hx hZ rfl V_ids (hb hby at_136) (pc' := 137) rfl ?_
        refine g_iload hG X3 hx (hb hby at_137) (pc' := 139) rfl rfl ?_
        refine g_icmpYes hG X3 hx (hb hby at_139) (pc' := 144) (by decide) (by decide) (by decide) ?_
        refine g_aload hG X3 hx (hb hby at_144) (pc' := 146) rfl rfl rfl ?_
        refine g_aload hG X3 hx (hb hby at_146) (pc' := 148) rfl rfl rfl ?_
        refine g_iconst hG X3 hx (hb hby at_148) (pc' := 149) rfl (v := (0 : Int32)) rfl ?_
        refine g_callS hG X3 hx hZ (y := (⟨"com/example/gauge_terms/gaugeterms/TopValuesPositionsPinLaw", "check", "([D[II)Z"⟩ : MethodName)) 0 hown (wd hw 23 rfl) (wd hw 24 rfl) (wd hw 3 rfl) (wd hw 25 rfl) (by decide) (rmCz0_0 l Z a0 hw [] a ids  T3.heap n0 Zs V_ids) (by decide) (by decide) (by rw [hml]; rfl) pd_6 rfl (argsL := [(.ref a), (.ref ids), (.int 0)]) (rest := []) rfl rfl (Nat.le_of_eq rfl) (hb hby at_149) rfl (by decide) (by decide) (pc' := 152) rfl ?_
        intro T4 rv4 L4 X4 hQ4
        obtain ⟨rfl, Nq4, eh4⟩ := hQ4
        have NF4 := Fr.app NF3 Nq4
        show G (T4.setTop (mkF m 152 _ [(.int 1)]))
        refine g_ifNo hG X4 hx (hb hby at_152) (pc' := 155) (by decide) rfl ?_
        refine g_aload hG X4 hx (hb hby at_155) (pc' := 157) rfl rfl rfl ?_
        refine g_aload hG X4 hx (hb hby at_157) (pc' := 159) rfl rfl rfl ?_
        refine g_iconst hG X4 hx (hb hby at_159) (pc' := 160) rfl (v := (1 : Int32)) rfl ?_
        refine g_callS hG X4 hx hZ (y := (⟨"com/example/gauge_terms/gaugeterms/TopValuesPositionsPinLaw", "check", "([D[II)Z"⟩ : MethodName)) 0 hown (wd hw 23 rfl) (wd hw 24 rfl) (wd hw 3 rfl) (wd hw 25 rfl) (by decide) (rmCz0_1 l Z a0 hw [] a ids  T3.heap n0 Zs V_ids) (by decide) (by decide) (by rw [hml]; rfl) pd_6 rfl (argsL := [(.ref a), (.ref ids), (.int 1)]) (rest := []) rfl rfl (Nat.le_of_eq rfl) (hb hby at_160) eh4 (by decide) (by decide) (pc' := 163) rfl ?_
        intro T5 rv5 L5 X5 hQ5
        obtain ⟨rfl, Nq5, eh5⟩ := hQ5
        have NF5 := Fr.app NF4 Nq5
        show G (T5.setTop (mkF m 163 _ [(.int 1)]))
        refine g_ifNo hG X5 hx (hb hby at_163) (pc' := 166) (by decide) rfl ?_
        refine g_aload hG X5 hx (hb hby at_166) (pc' := 168) rfl rfl rfl ?_
        refine g_aload hG X5 hx (hb hby at_168) (pc' := 170) rfl rfl rfl ?_
        refine g_iconst hG X5 hx (hb hby at_170) (pc' := 171) rfl (v := (2 : Int32)) rfl ?_
        refine g_callS hG X5 hx hZ (y := (⟨"com/example/gauge_terms/gaugeterms/TopValuesPositionsPinLaw", "check", "([D[II)Z"⟩ : MethodName)) 0 hown (wd hw 23 rfl) (wd hw 24 rfl) (wd hw 3 rfl) (wd hw 25 rfl) (by decide) (rmCz0_2 l Z a0 hw [] a ids  T3.heap n0 Zs V_ids) (by decide) (by decide) (by rw [hml]; rfl) pd_6 rfl (argsL := [(.ref a), (.ref ids), (.int 2)]) (rest := []) rfl rfl (Nat.le_of_eq rfl) (hb hby at_171) eh5 (by decide) (by decide) (pc' := 174) rfl ?_
        intro T6 rv6 L6 X6 hQ6
        obtain ⟨rfl, Nq6, eh6⟩ := hQ6
        have NF6 := Fr.app NF5 Nq6
        show G (T6.setTop (mkF m 174 _ [(.int 1)]))
        refine g_ifNo hG X6 hx (hb hby at_174) (pc' := 177) (by decide) rfl ?_
        refine g_aload hG X6 hx (hb hby at_177) (pc' := 179) rfl rfl rfl ?_
        refine g_aload hG X6 hx (hb hby at_179) (pc' := 181) rfl rfl rfl ?_
        refine g_iconst hG X6 hx (hb hby at_181) (pc' := 182) rfl (v := (3 : Int32)) rfl ?_
        refine g_callS hG X6 hx hZ (y := (⟨"com/example/gauge_terms/gaugeterms/TopValuesPositionsPinLaw", "check", "([D[II)Z"⟩ : MethodName)) 0 hown (wd hw 23 rfl) (wd hw 24 rfl) (wd hw 3 rfl) (wd hw 25 rfl) (by decide) (rmCz0_3 l Z a0 hw [] a ids  T3.heap n0 Zs V_ids) (by decide) (by decide) (by rw [hml]; rfl) pd_6 rfl (argsL := [(.ref a), (.ref ids), (.int 3)]) (rest := []) rfl rfl (Nat.le_of_eq rfl) (hb hby at_182) eh6 (by decide) (by decide) (pc' := 185) rfl ?_
        intro T7 rv7 L7 X7 hQ7
        obtain ⟨rfl, Nq7, eh7⟩ := hQ7
        have NF7 := Fr.app NF6 Nq7
        show G (T7.setTop (mkF m 185 _ [(.int 1)]))
        refine g_ifNo hG X7 hx (hb hby at_185) (pc' := 188) (by decide) rfl ?_
        refine g_iconst hG X7 hx (hb hby at_188) (pc' := 189) rfl (v := (1 : Int32)) rfl ?_
        refine g_goto hG X7 hx (hb hby at_189) (pc' := 193) (by decide) (by decide) ?_
        exact e_retZ hGe X7 hx hrt hlk (hb hby at_193) (Or.inr rfl) eh7 (by decide) (by decide) (⟨rfl, NF7⟩)
      · skip
        refine g_iload hG X0 hx (hb hby at_92) (pc' := 94) rfl rfl ?_
        refine g_dload hG X0 hx (hb hby at_94) (pc' := 96) rfl rfl ?_
        refine g_dload hG X0 hx (hb hby at_96) (pc' := 98) rfl rfl ?_
        refine g_dload hG X0 hx (hb hby at_98) (pc' := 100) rfl rfl ?_
        refine g_dload hG X0 hx (hb hby at_100) (pc' := 102) rfl rfl ?_
        refine g_callS hG X0 hx hZ (y := (⟨"com/example/gauge_terms/gaugeterms/TopValuesPositionsPinLaw", "build", "(IDDDD)[D"⟩ : MethodName)) 0 hown (wd hw 1 rfl) (wd hw 2 rfl) (wd hw 3 rfl) (wd hw 4 rfl) (by decide) (rmBu1 l Z a0 hw [] al h0 n0 Zs) (by decide) (by decide) (by rw [hml]; rfl) pd_4 rfl (argsL := [(.int 1), (.double (al (0 : Int32))), (.double (al (1 : Int32))), (.double (al (2 : Int32))), (.double (al (3 : Int32)))]) (rest := []) rfl rfl (Nat.le_of_eq rfl) (hb hby at_102) e0 (by decide) (by decide) (pc' := 105) rfl ?_
        intro T8 rv8 L8 X8 hQ8
        obtain ⟨a, rfl, Nq8, Kq8, szq8, V_a⟩ := hQ8
        have NF8 := Fr.app NF0 Nq8
        have ge_a : n0 ≤ a := Nat.le_trans Zs szq8
        have Zs := Nat.le_trans Zs Kq8.1
        show G (T8.setTop (mkF m 105 _ [(.ref a)]))
        refine g_astore hG X8 hx (hb hby at_105) (pc' := 107) rfl rfl (Ls' := #[.val (.int i0), .val (.int i1), .val (.long i2), .second, .val (.int 1), .val (.int fg), .val (.long lim), .second, .val (.double (al (0 : Int32))), .second, .val (.double (al (1 : Int32))), .second, .val (.double (al (2 : Int32))), .second, .val (.double (al (3 : Int32))), .second, .val (.ref a), .unset, .unset]) rfl ?_
        refine g_lload hG X8 hx (hb hby at_107) (pc' := 109) rfl rfl ?_
        refine g_iload hG X8 hx (hb hby at_109) (pc' := 111) rfl rfl ?_
        obtain ⟨v111, q111⟩ : ∃ zz : Int64, (1 : Int32).toInt64 = zz := ⟨_, rfl⟩
        refine g_i2l hG X8 hx (hb hby at_111) (pc' := 112) rfl q111 ?_
        refine g_callS hG X8 hx hZ (y := (⟨"java/lang/Math", "min", "(JJ)J"⟩ : MethodName)) 0 hown (wd hw 6 rfl) (wd hw 7 rfl) (wd hw 8 rfl) (wd hw 9 rfl) (by decide) (rmMJ l Z a0 hw [] lim v111 r T8.heap n0 Zs (q111 ▸ hm)) (by decide) (by decide) (by rw [hml]; rfl) pd_0 rfl (argsL := [(.long lim), (.long v111)]) (rest := []) rfl rfl (Nat.le_of_eq rfl) (hb hby at_112) rfl (by decide) (by decide) (pc' := 115) rfl ?_
        intro T9 rv9 L9 X9 hQ9
        obtain ⟨rfl, Nq9, eh9⟩ := hQ9
        have NF9 := Fr.app NF8 Nq9
        show G (T9.setTop (mkF m 115 _ [(.long r)]))
        refine g_l2i hG X9 hx (hb hby at_115) (pc' := 116) rfl hk ?_
        refine g_istore hG X9 hx (hb hby at_116) (pc' := 118) rfl (Ls' := #[.val (.int i0), .val (.int i1), .val (.long i2), .second, .val (.int 1), .val (.int fg), .val (.long lim), .second, .val (.double (al (0 : Int32))), .second, .val (.double (al (1 : Int32))), .second, .val (.double (al (2 : Int32))), .second, .val (.double (al (3 : Int32))), .second, .val (.ref a), .val (.int 0), .unset]) rfl ?_
        refine g_aload hG X9 hx (hb hby at_118) (pc' := 120) rfl rfl rfl ?_
        refine g_lload hG X9 hx (hb hby at_120) (pc' := 122) rfl rfl ?_
        refine g_callS hG X9 hx hZ (y := (⟨"com/example/gauge_terms/gaugeterms/TopValues", "positions", "([DJ)[I"⟩ : MethodName)) 0 hown (wd hw 10 rfl) (wd hw 11 rfl) (wd hw 12 rfl) (wd hw 13 rfl) (by decide) (rmPos1_0 l Z a0 hw [] a al b01 b02 b03 b12 b13 b23 lim r T8.heap n0 Zs V_a TR BT hm hk) (by decide) (by decide) (by rw [hml]; rfl) pd_5 rfl (argsL := [(.ref a), (.long lim)]) (rest := []) rfl rfl (Nat.le_of_eq rfl) (hb hby at_122) eh9 (by decide) (by decide) (pc' := 125) rfl ?_
        intro T10 rv10 L10 X10 hQ10
        obtain ⟨ids, rfl, Nq10, Kq10, szq10, V_ids, HT⟩ := hQ10
        have NF10 := Fr.app NF9 Nq10
        have ne_a_ids : a ≠ ids := Nat.ne_of_lt (Nat.lt_of_lt_of_le V_a.lt szq10)
        have ge_ids : n0 ≤ ids := Nat.le_trans Zs szq10
        have V_a := V_a.keep Kq10 nin0
        have Zs := Nat.le_trans Zs Kq10.1
        show G (T10.setTop (mkF m 125 _ [(.ref ids)]))
        refine g_astore hG X10 hx (hb hby at_125) (pc' := 127) rfl rfl (Ls' := #[.val (.int i0), .val (.int i1), .val (.long i2), .second, .val (.int 1), .val (.int fg), .val (.long lim), .second, .val (.double (al (0 : Int32))), .second, .val (.double (al (1 : Int32))), .second, .val (.double (al (2 : Int32))), .second, .val (.double (al (3 : Int32))), .second, .val (.ref a), .val (.int 0), .val (.ref ids)]) rfl ?_
        refine g_aload hG X10 hx (hb hby at_127) (pc' := 129) rfl rfl rfl ?_
        refine g_ifnonnullYes hG X10 hx (hb hby at_129) (pc' := 134) (by decide) (by decide) ?_
        refine g_aload hG X10 hx (hb hby at_134) (pc' := 136) rfl rfl rfl ?_
        refine g_arraylength hG X10 hx hZ rfl V_ids (hb hby at_136) (pc' := 137) rfl ?_
        refine g_iload hG X10 hx (hb hby at_137) (pc' := 139) rfl rfl ?_
        refine g_icmpYes hG X10 hx (hb hby at_139) (pc' := 144) (by decide) (by decide) (by decide) ?_
        refine g_aload hG X10 hx (hb hby at_144) (pc' := 146) rfl rfl rfl ?_
        refine g_aload hG X10 hx (hb hby at_146) (pc' := 148) rfl rfl rfl ?_
        refine g_iconst hG X10 hx (hb hby at_148) (pc' := 149) rfl (v := (0 : Int32)) rfl ?_
        refine g_callS hG X10 hx hZ (y := (⟨"com/example/gauge_terms/gaugeterms/TopValuesPositionsPinLaw", "check", "([D[II)Z"⟩ : MethodName)) 0 hown (wd hw 23 rfl) (wd hw 24 rfl) (wd hw 3 rfl) (wd hw 25 rfl) (by decide) (rmCz0_0 l Z a0 hw [] a ids  T10.heap n0 Zs V_ids) (by decide) (by decide) (by rw [hml]; rfl) pd_6 rfl (argsL := [(.ref a), (.ref ids), (.int 0)]) (rest := []) rfl rfl (Nat.le_of_eq rfl) (hb hby at_149) rfl (by decide) (by decide) (pc' := 152) rfl ?_
        intro T11 rv11 L11 X11 hQ11
        obtain ⟨rfl, Nq11, eh11⟩ := hQ11
        have NF11 := Fr.app NF10 Nq11
        show G (T11.setTop (mkF m 152 _ [(.int 1)]))
        refine g_ifNo hG X11 hx (hb hby at_152) (pc' := 155) (by decide) rfl ?_
        refine g_aload hG X11 hx (hb hby at_155) (pc' := 157) rfl rfl rfl ?_
        refine g_aload hG X11 hx (hb hby at_157) (pc' := 159) rfl rfl rfl ?_
        refine g_iconst hG X11 hx (hb hby at_159) (pc' := 160) rfl (v := (1 : Int32)) rfl ?_
        refine g_callS hG X11 hx hZ (y := (⟨"com/example/gauge_terms/gaugeterms/TopValuesPositionsPinLaw", "check", "([D[II)Z"⟩ : MethodName)) 0 hown (wd hw 23 rfl) (wd hw 24 rfl) (wd hw 3 rfl) (wd hw 25 rfl) (by decide) (rmCz0_1 l Z a0 hw [] a ids  T10.heap n0 Zs V_ids) (by decide) (by decide) (by rw [hml]; rfl) pd_6 rfl (argsL := [(.ref a), (.ref ids), (.int 1)]) (rest := []) rfl rfl (Nat.le_of_eq rfl) (hb hby at_160) eh11 (by decide) (by decide) (pc' := 163) rfl ?_
        intro T12 rv12 L12 X12 hQ12
        obtain ⟨rfl, Nq12, eh12⟩ := hQ12
        have NF12 := Fr.app NF11 Nq12
        show G (T12.setTop (mkF m 163 _ [(.int 1)]))
        refine g_ifNo hG X12 hx (hb hby at_163) (pc' := 166) (by decide) rfl ?_
        refine g_aload hG X12 hx (hb hby at_166) (pc' := 168) rfl rfl rfl ?_
        refine g_aload hG X12 hx (hb hby at_168) (pc' := 170) rfl rfl rfl ?_
        refine g_iconst hG X12 hx (hb hby at_170) (pc' := 171) rfl (v := (2 : Int32)) rfl ?_
        refine g_callS hG X12 hx hZ (y := (⟨"com/example/gauge_terms/gaugeterms/TopValuesPositionsPinLaw", "check", "([D[II)Z"⟩ : MethodName)) 0 hown (wd hw 23 rfl) (wd hw 24 rfl) (wd hw 3 rfl) (wd hw 25 rfl) (by decide) (rmCz0_2 l Z a0 hw [] a ids  T10.heap n0 Zs V_ids) (by decide) (by decide) (by rw [hml]; rfl) pd_6 rfl (argsL := [(.ref a), (.ref ids), (.int 2)]) (rest := []) rfl rfl (Nat.le_of_eq rfl) (hb hby at_171) eh12 (by decide) (by decide) (pc' := 174) rfl ?_
        intro T13 rv13 L13 X13 hQ13
        obtain ⟨rfl, Nq13, eh13⟩ := hQ13
        have NF13 := Fr.app NF12 Nq13
        show G (T13.setTop (mkF m 174 _ [(.int 1)]))
        refine g_ifNo hG X13 hx (hb hby at_174) (pc' := 177) (by decide) rfl ?_
        refine g_aload hG X13 hx (hb hby at_177) (pc' := 179) rfl rfl rfl ?_
        refine g_aload hG X13 hx (hb hby at_179) (pc' := 181) rfl rfl rfl ?_
        refine g_iconst hG X13 hx (hb hby at_181) (pc' := 182) rfl (v := (3 : Int32)) rfl ?_
        refine g_callS hG X13 hx hZ (y := (⟨"com/example/gauge_terms/gaugeterms/TopValuesPositionsPinLaw", "check", "([D[II)Z"⟩ : MethodName)) 0 hown (wd hw 23 rfl) (wd hw 24 rfl) (wd hw 3 rfl) (wd hw 25 rfl) (by decide) (rmCz0_3 l Z a0 hw [] a ids  T10.heap n0 Zs V_ids) (by decide) (by decide) (by rw [hml]; rfl) pd_6 rfl (argsL := [(.ref a), (.ref ids), (.int 3)]) (rest := []) rfl rfl (Nat.le_of_eq rfl) (hb hby at_182) eh13 (by decide) (by decide) (pc' := 185) rfl ?_
        intro T14 rv14 L14 X14 hQ14
        obtain ⟨rfl, Nq14, eh14⟩ := hQ14
        have NF14 := Fr.app NF13 Nq14
        show G (T14.setTop (mkF m 185 _ [(.int 1)]))
        refine g_ifNo hG X14 hx (hb hby at_185) (pc' := 188) (by decide) rfl ?_
        refine g_iconst hG X14 hx (hb hby at_188) (pc' := 189) rfl (v := (1 : Int32)) rfl ?_
        refine g_goto hG X14 hx (hb hby at_189) (pc' := 193) (by decide) (by decide) ?_
        exact e_retZ hGe X14 hx hrt hlk (hb hby at_193) (Or.inr rfl) eh14 (by decide) (by decide) (⟨rfl, NF14⟩)
      · skip
        refine g_iload hG X0 hx (hb hby at_92) (pc' := 94) rfl rfl ?_
        refine g_dload hG X0 hx (hb hby at_94) (pc' := 96) rfl rfl ?_
        refine g_dload hG X0 hx (hb hby at_96) (pc' := 98) rfl rfl ?_
        refine g_dload hG X0 hx (hb hby at_98) (pc' := 100) rfl rfl ?_
        refine g_dload hG X0 hx (hb hby at_100) (pc' := 102) rfl rfl ?_
        refine g_callS hG X0 hx hZ (y := (⟨"com/example/gauge_terms/gaugeterms/TopValuesPositionsPinLaw", "build", "(IDDDD)[D"⟩ : MethodName)) 0 hown (wd hw 1 rfl) (wd hw 2 rfl) (wd hw 3 rfl) (wd hw 4 rfl) (by decide) (rmBu1 l Z a0 hw [] al h0 n0 Zs) (by decide) (by decide) (by rw [hml]; rfl) pd_4 rfl (argsL := [(.int 1), (.double (al (0 : Int32))), (.double (al (1 : Int32))), (.double (al (2 : Int32))), (.double (al (3 : Int32)))]) (rest := []) rfl rfl (Nat.le_of_eq rfl) (hb hby at_102) e0 (by decide) (by decide) (pc' := 105) rfl ?_
        intro T15 rv15 L15 X15 hQ15
        obtain ⟨a, rfl, Nq15, Kq15, szq15, V_a⟩ := hQ15
        have NF15 := Fr.app NF0 Nq15
        have ge_a : n0 ≤ a := Nat.le_trans Zs szq15
        have Zs := Nat.le_trans Zs Kq15.1
        show G (T15.setTop (mkF m 105 _ [(.ref a)]))
        refine g_astore hG X15 hx (hb hby at_105) (pc' := 107) rfl rfl (Ls' := #[.val (.int i0), .val (.int i1), .val (.long i2), .second, .val (.int 1), .val (.int fg), .val (.long lim), .second, .val (.double (al (0 : Int32))), .second, .val (.double (al (1 : Int32))), .second, .val (.double (al (2 : Int32))), .second, .val (.double (al (3 : Int32))), .second, .val (.ref a), .unset, .unset]) rfl ?_
        refine g_lload hG X15 hx (hb hby at_107) (pc' := 109) rfl rfl ?_
        refine g_iload hG X15 hx (hb hby at_109) (pc' := 111) rfl rfl ?_
        obtain ⟨v111, q111⟩ : ∃ zz : Int64, (1 : Int32).toInt64 = zz := ⟨_, rfl⟩
        refine g_i2l hG X15 hx (hb hby at_111) (pc' := 112) rfl q111 ?_
        refine g_callS hG X15 hx hZ (y := (⟨"java/lang/Math", "min", "(JJ)J"⟩ : MethodName)) 0 hown (wd hw 6 rfl) (wd hw 7 rfl) (wd hw 8 rfl) (wd hw 9 rfl) (by decide) (rmMJ l Z a0 hw [] lim v111 r T15.heap n0 Zs (q111 ▸ hm)) (by decide) (by decide) (by rw [hml]; rfl) pd_0 rfl (argsL := [(.long lim), (.long v111)]) (rest := []) rfl rfl (Nat.le_of_eq rfl) (hb hby at_112) rfl (by decide) (by decide) (pc' := 115) rfl ?_
        intro T16 rv16 L16 X16 hQ16
        obtain ⟨rfl, Nq16, eh16⟩ := hQ16
        have NF16 := Fr.app NF15 Nq16
        show G (T16.setTop (mkF m 115 _ [(.long r)]))
        refine g_l2i hG X16 hx (hb hby at_115) (pc' := 116) rfl hk ?_
        refine g_istore hG X16 hx (hb hby at_116) (pc' := 118) rfl (Ls' := #[.val (.int i0), .val (.int i1), .val (.long i2), .second, .val (.int 1), .val (.int fg), .val (.long lim), .second, .val (.double (al (0 : Int32))), .second, .val (.double (al (1 : Int32))), .second, .val (.double (al (2 : Int32))), .second, .val (.double (al (3 : Int32))), .second, .val (.ref a), .val (.int 1), .unset]) rfl ?_
        refine g_aload hG X16 hx (hb hby at_118) (pc' := 120) rfl rfl rfl ?_
        refine g_lload hG X16 hx (hb hby at_120) (pc' := 122) rfl rfl ?_
        refine g_callS hG X16 hx hZ (y := (⟨"com/example/gauge_terms/gaugeterms/TopValues", "positions", "([DJ)[I"⟩ : MethodName)) 0 hown (wd hw 10 rfl) (wd hw 11 rfl) (wd hw 12 rfl) (wd hw 13 rfl) (by decide) (rmPos1_1 l Z a0 hw [] a al b01 b02 b03 b12 b13 b23 lim r T15.heap n0 Zs V_a TR BT hm hk) (by decide) (by decide) (by rw [hml]; rfl) pd_5 rfl (argsL := [(.ref a), (.long lim)]) (rest := []) rfl rfl (Nat.le_of_eq rfl) (hb hby at_122) eh16 (by decide) (by decide) (pc' := 125) rfl ?_
        intro T17 rv17 L17 X17 hQ17
        obtain ⟨ids, p0, rfl, Nq17, Kq17, szq17, V_ids, HT⟩ := hQ17
        have NF17 := Fr.app NF16 Nq17
        have ne_a_ids : a ≠ ids := Nat.ne_of_lt (Nat.lt_of_lt_of_le V_a.lt szq17)
        have ge_ids : n0 ≤ ids := Nat.le_trans Zs szq17
        have V_a := V_a.keep Kq17 nin0
        have Zs := Nat.le_trans Zs Kq17.1
        show G (T17.setTop (mkF m 125 _ [(.ref ids)]))
        refine g_astore hG X17 hx (hb hby at_125) (pc' := 127) rfl rfl (Ls' := #[.val (.int i0), .val (.int i1), .val (.long i2), .second, .val (.int 1), .val (.int fg), .val (.long lim), .second, .val (.double (al (0 : Int32))), .second, .val (.double (al (1 : Int32))), .second, .val (.double (al (2 : Int32))), .second, .val (.double (al (3 : Int32))), .second, .val (.ref a), .val (.int 1), .val (.ref ids)]) rfl ?_
        refine g_aload hG X17 hx (hb hby at_127) (pc' := 129) rfl rfl rfl ?_
        refine g_ifnonnullYes hG X17 hx (hb hby at_129) (pc' := 134) (by decide) (by decide) ?_
        refine g_aload hG X17 hx (hb hby at_134) (pc' := 136) rfl rfl rfl ?_
        refine g_arraylength hG X17 hx hZ rfl V_ids (hb hby at_136) (pc' := 137) rfl ?_
        refine g_iload hG X17 hx (hb hby at_137) (pc' := 139) rfl rfl ?_
        refine g_icmpYes hG X17 hx (hb hby at_139) (pc' := 144) (by decide) (by decide) (by decide) ?_
        refine g_aload hG X17 hx (hb hby at_144) (pc' := 146) rfl rfl rfl ?_
        refine g_aload hG X17 hx (hb hby at_146) (pc' := 148) rfl rfl rfl ?_
        refine g_iconst hG X17 hx (hb hby at_148) (pc' := 149) rfl (v := (0 : Int32)) rfl ?_
        refine g_callS hG X17 hx hZ (y := (⟨"com/example/gauge_terms/gaugeterms/TopValuesPositionsPinLaw", "check", "([D[II)Z"⟩ : MethodName)) 0 hown (wd hw 23 rfl) (wd hw 24 rfl) (wd hw 3 rfl) (wd hw 25 rfl) (by decide) (rmCk1_1_0 l Z a0 hw [] a ids al (btB b01 b02 b03 b12 b13 b23) p0 T17.heap n0 Zs V_a V_ids HT BT) (by decide) (by decide) (by rw [hml]; rfl) pd_6 rfl (argsL := [(.ref a), (.ref ids), (.int 0)]) (rest := []) rfl rfl (Nat.le_of_eq rfl) (hb hby at_149) rfl (by decide) (by decide) (pc' := 152) rfl ?_
        intro T18 rv18 L18 X18 hQ18
        obtain ⟨rfl, Nq18, eh18⟩ := hQ18
        have NF18 := Fr.app NF17 Nq18
        show G (T18.setTop (mkF m 152 _ [(.int 1)]))
        refine g_ifNo hG X18 hx (hb hby at_152) (pc' := 155) (by decide) rfl ?_
        refine g_aload hG X18 hx (hb hby at_155) (pc' := 157) rfl rfl rfl ?_
        refine g_aload hG X18 hx (hb hby at_157) (pc' := 159) rfl rfl rfl ?_
        refine g_iconst hG X18 hx (hb hby at_159) (pc' := 160) rfl (v := (1 : Int32)) rfl ?_
        refine g_callS hG X18 hx hZ (y := (⟨"com/example/gauge_terms/gaugeterms/TopValuesPositionsPinLaw", "check", "([D[II)Z"⟩ : MethodName)) 0 hown (wd hw 23 rfl) (wd hw 24 rfl) (wd hw 3 rfl) (wd hw 25 rfl) (by decide) (rmCz1_1 l Z a0 hw [] a ids p0 T17.heap n0 Zs V_ids) (by decide) (by decide) (by rw [hml]; rfl) pd_6 rfl (argsL := [(.ref a), (.ref ids), (.int 1)]) (rest := []) rfl rfl (Nat.le_of_eq rfl) (hb hby at_160) eh18 (by decide) (by decide) (pc' := 163) rfl ?_
        intro T19 rv19 L19 X19 hQ19
        obtain ⟨rfl, Nq19, eh19⟩ := hQ19
        have NF19 := Fr.app NF18 Nq19
        show G (T19.setTop (mkF m 163 _ [(.int 1)]))
        refine g_ifNo hG X19 hx (hb hby at_163) (pc' := 166) (by decide) rfl ?_
        refine g_aload hG X19 hx (hb hby at_166) (pc' := 168) rfl rfl rfl ?_
        refine g_aload hG X19 hx (hb hby at_168) (pc' := 170) rfl rfl rfl ?_
        refine g_iconst hG X19 hx (hb hby at_170) (pc' := 171) rfl (v := (2 : Int32)) rfl ?_
        refine g_callS hG X19 hx hZ (y := (⟨"com/example/gauge_terms/gaugeterms/TopValuesPositionsPinLaw", "check", "([D[II)Z"⟩ : MethodName)) 0 hown (wd hw 23 rfl) (wd hw 24 rfl) (wd hw 3 rfl) (wd hw 25 rfl) (by decide) (rmCz1_2 l Z a0 hw [] a ids p0 T17.heap n0 Zs V_ids) (by decide) (by decide) (by rw [hml]; rfl) pd_6 rfl (argsL := [(.ref a), (.ref ids), (.int 2)]) (rest := []) rfl rfl (Nat.le_of_eq rfl) (hb hby at_171) eh19 (by decide) (by decide) (pc' := 174) rfl ?_
        intro T20 rv20 L20 X20 hQ20
        obtain ⟨rfl, Nq20, eh20⟩ := hQ20
        have NF20 := Fr.app NF19 Nq20
        show G (T20.setTop (mkF m 174 _ [(.int 1)]))
        refine g_ifNo hG X20 hx (hb hby at_174) (pc' := 177) (by decide) rfl ?_
        refine g_aload hG X20 hx (hb hby at_177) (pc' := 179) rfl rfl rfl ?_
        refine g_aload hG X20 hx (hb hby at_179) (pc' := 181) rfl rfl rfl ?_
        refine g_iconst hG X20 hx (hb hby at_181) (pc' := 182) rfl (v := (3 : Int32)) rfl ?_
        refine g_callS hG X20 hx hZ (y := (⟨"com/example/gauge_terms/gaugeterms/TopValuesPositionsPinLaw", "check", "([D[II)Z"⟩ : MethodName)) 0 hown (wd hw 23 rfl) (wd hw 24 rfl) (wd hw 3 rfl) (wd hw 25 rfl) (by decide) (rmCz1_3 l Z a0 hw [] a ids p0 T17.heap n0 Zs V_ids) (by decide) (by decide) (by rw [hml]; rfl) pd_6 rfl (argsL := [(.ref a), (.ref ids), (.int 3)]) (rest := []) rfl rfl (Nat.le_of_eq rfl) (hb hby at_182) eh20 (by decide) (by decide) (pc' := 185) rfl ?_
        intro T21 rv21 L21 X21 hQ21
        obtain ⟨rfl, Nq21, eh21⟩ := hQ21
        have NF21 := Fr.app NF20 Nq21
        show G (T21.setTop (mkF m 185 _ [(.int 1)]))
        refine g_ifNo hG X21 hx (hb hby at_185) (pc' := 188) (by decide) rfl ?_
        refine g_iconst hG X21 hx (hb hby at_188) (pc' := 189) rfl (v := (1 : Int32)) rfl ?_
        refine g_goto hG X21 hx (hb hby at_189) (pc' := 193) (by decide) (by decide) ?_
        exact e_retZ hGe X21 hx hrt hlk (hb hby at_193) (Or.inr rfl) eh21 (by decide) (by decide) (⟨rfl, NF21⟩)
      · skip
        refine g_iload hG X0 hx (hb hby at_92) (pc' := 94) rfl rfl ?_
        refine g_dload hG X0 hx (hb hby at_94) (pc' := 96) rfl rfl ?_
        refine g_dload hG X0 hx (hb hby at_96) (pc' := 98) rfl rfl ?_
        refine g_dload hG X0 hx (hb hby at_98) (pc' := 100) rfl rfl ?_
        refine g_dload hG X0 hx (hb hby at_100) (pc' := 102) rfl rfl ?_
        refine g_callS hG X0 hx hZ (y := (⟨"com/example/gauge_terms/gaugeterms/TopValuesPositionsPinLaw", "build", "(IDDDD)[D"⟩ : MethodName)) 0 hown (wd hw 1 rfl) (wd hw 2 rfl) (wd hw 3 rfl) (wd hw 4 rfl) (by decide) (rmBu2 l Z a0 hw [] al h0 n0 Zs) (by decide) (by decide) (by rw [hml]; rfl) pd_4 rfl (argsL := [(.int 2), (.double (al (0 : Int32))), (.double (al (1 : Int32))), (.double (al (2 : Int32))), (.double (al (3 : Int32)))]) (rest := []) rfl rfl (Nat.le_of_eq rfl) (hb hby at_102) e0 (by decide) (by decide) (pc' := 105) rfl ?_
        intro T22 rv22 L22 X22 hQ22
        obtain ⟨a, rfl, Nq22, Kq22, szq22, V_a⟩ := hQ22
        have NF22 := Fr.app NF0 Nq22
        have ge_a : n0 ≤ a := Nat.le_trans Zs szq22
        have Zs := Nat.le_trans Zs Kq22.1
        show G (T22.setTop (mkF m 105 _ [(.ref a)]))
        refine g_astore hG X22 hx (hb hby at_105) (pc' := 107) rfl rfl (Ls' := #[.val (.int i0), .val (.int i1), .val (.long i2), .second, .val (.int 2), .val (.int fg), .val (.long lim), .second, .val (.double (al (0 : Int32))), .second, .val (.double (al (1 : Int32))), .second, .val (.double (al (2 : Int32))), .second, .val (.double (al (3 : Int32))), .second, .val (.ref a), .unset, .unset]) rfl ?_
        refine g_lload hG X22 hx (hb hby at_107) (pc' := 109) rfl rfl ?_
        refine g_iload hG X22 hx (hb hby at_109) (pc' := 111) rfl rfl ?_
        obtain ⟨v111, q111⟩ : ∃ zz : Int64, (2 : Int32).toInt64 = zz := ⟨_, rfl⟩
        refine g_i2l hG X22 hx (hb hby at_111) (pc' := 112) rfl q111 ?_
        refine g_callS hG X22 hx hZ (y := (⟨"java/lang/Math", "min", "(JJ)J"⟩ : MethodName)) 0 hown (wd hw 6 rfl) (wd hw 7 rfl) (wd hw 8 rfl) (wd hw 9 rfl) (by decide) (rmMJ l Z a0 hw [] lim v111 r T22.heap n0 Zs (q111 ▸ hm)) (by decide) (by decide) (by rw [hml]; rfl) pd_0 rfl (argsL := [(.long lim), (.long v111)]) (rest := []) rfl rfl (Nat.le_of_eq rfl) (hb hby at_112) rfl (by decide) (by decide) (pc' := 115) rfl ?_
        intro T23 rv23 L23 X23 hQ23
        obtain ⟨rfl, Nq23, eh23⟩ := hQ23
        have NF23 := Fr.app NF22 Nq23
        show G (T23.setTop (mkF m 115 _ [(.long r)]))
        refine g_l2i hG X23 hx (hb hby at_115) (pc' := 116) rfl hk ?_
        refine g_istore hG X23 hx (hb hby at_116) (pc' := 118) rfl (Ls' := #[.val (.int i0), .val (.int i1), .val (.long i2), .second, .val (.int 2), .val (.int fg), .val (.long lim), .second, .val (.double (al (0 : Int32))), .second, .val (.double (al (1 : Int32))), .second, .val (.double (al (2 : Int32))), .second, .val (.double (al (3 : Int32))), .second, .val (.ref a), .val (.int 0), .unset]) rfl ?_
        refine g_aload hG X23 hx (hb hby at_118) (pc' := 120) rfl rfl rfl ?_
        refine g_lload hG X23 hx (hb hby at_120) (pc' := 122) rfl rfl ?_
        refine g_callS hG X23 hx hZ (y := (⟨"com/example/gauge_terms/gaugeterms/TopValues", "positions", "([DJ)[I"⟩ : MethodName)) 0 hown (wd hw 10 rfl) (wd hw 11 rfl) (wd hw 12 rfl) (wd hw 13 rfl) (by decide) (rmPos2_0 l Z a0 hw [] a al b01 b02 b03 b12 b13 b23 lim r T22.heap n0 Zs V_a TR BT hm hk) (by decide) (by decide) (by rw [hml]; rfl) pd_5 rfl (argsL := [(.ref a), (.long lim)]) (rest := []) rfl rfl (Nat.le_of_eq rfl) (hb hby at_122) eh23 (by decide) (by decide) (pc' := 125) rfl ?_
        intro T24 rv24 L24 X24 hQ24
        obtain ⟨ids, rfl, Nq24, Kq24, szq24, V_ids, HT⟩ := hQ24
        have NF24 := Fr.app NF23 Nq24
        have ne_a_ids : a ≠ ids := Nat.ne_of_lt (Nat.lt_of_lt_of_le V_a.lt szq24)
        have ge_ids : n0 ≤ ids := Nat.le_trans Zs szq24
        have V_a := V_a.keep Kq24 nin0
        have Zs := Nat.le_trans Zs Kq24.1
        show G (T24.setTop (mkF m 125 _ [(.ref ids)]))
        refine g_astore hG X24 hx (hb hby at_125) (pc' := 127) rfl rfl (Ls' := #[.val (.int i0), .val (.int i1), .val (.long i2), .second, .val (.int 2), .val (.int fg), .val (.long lim), .second, .val (.double (al (0 : Int32))), .second, .val (.double (al (1 : Int32))), .second, .val (.double (al (2 : Int32))), .second, .val (.double (al (3 : Int32))), .second, .val (.ref a), .val (.int 0), .val (.ref ids)]) rfl ?_
        refine g_aload hG X24 hx (hb hby at_127) (pc' := 129) rfl rfl rfl ?_
        refine g_ifnonnullYes hG X24 hx (hb hby at_129) (pc' := 134) (by decide) (by decide) ?_
        refine g_aload hG X24 hx (hb hby at_134) (pc' := 136) rfl rfl rfl ?_
        refine g_arraylength hG X24 hx hZ rfl V_ids (hb hby at_136) (pc' := 137) rfl ?_
        refine g_iload hG X24 hx (hb hby at_137) (pc' := 139) rfl rfl ?_
        refine g_icmpYes hG X24 hx (hb hby at_139) (pc' := 144) (by decide) (by decide) (by decide) ?_
        refine g_aload hG X24 hx (hb hby at_144) (pc' := 146) rfl rfl rfl ?_
        refine g_aload hG X24 hx (hb hby at_146) (pc' := 148) rfl rfl rfl ?_
        refine g_iconst hG X24 hx (hb hby at_148) (pc' := 149) rfl (v := (0 : Int32)) rfl ?_
        refine g_callS hG X24 hx hZ (y := (⟨"com/example/gauge_terms/gaugeterms/TopValuesPositionsPinLaw", "check", "([D[II)Z"⟩ : MethodName)) 0 hown (wd hw 23 rfl) (wd hw 24 rfl) (wd hw 3 rfl) (wd hw 25 rfl) (by decide) (rmCz0_0 l Z a0 hw [] a ids  T24.heap n0 Zs V_ids) (by decide) (by decide) (by rw [hml]; rfl) pd_6 rfl (argsL := [(.ref a), (.ref ids), (.int 0)]) (rest := []) rfl rfl (Nat.le_of_eq rfl) (hb hby at_149) rfl (by decide) (by decide) (pc' := 152) rfl ?_
        intro T25 rv25 L25 X25 hQ25
        obtain ⟨rfl, Nq25, eh25⟩ := hQ25
        have NF25 := Fr.app NF24 Nq25
        show G (T25.setTop (mkF m 152 _ [(.int 1)]))
        refine g_ifNo hG X25 hx (hb hby at_152) (pc' := 155) (by decide) rfl ?_
        refine g_aload hG X25 hx (hb hby at_155) (pc' := 157) rfl rfl rfl ?_
        refine g_aload hG X25 hx (hb hby at_157) (pc' := 159) rfl rfl rfl ?_
        refine g_iconst hG X25 hx (hb hby at_159) (pc' := 160) rfl (v := (1 : Int32)) rfl ?_
        refine g_callS hG X25 hx hZ (y := (⟨"com/example/gauge_terms/gaugeterms/TopValuesPositionsPinLaw", "check", "([D[II)Z"⟩ : MethodName)) 0 hown (wd hw 23 rfl) (wd hw 24 rfl) (wd hw 3 rfl) (wd hw 25 rfl) (by decide) (rmCz0_1 l Z a0 hw [] a ids  T24.heap n0 Zs V_ids) (by decide) (by decide) (by rw [hml]; rfl) pd_6 rfl (argsL := [(.ref a), (.ref ids), (.int 1)]) (rest := []) rfl rfl (Nat.le_of_eq rfl) (hb hby at_160) eh25 (by decide) (by decide) (pc' := 163) rfl ?_
        intro T26 rv26 L26 X26 hQ26
        obtain ⟨rfl, Nq26, eh26⟩ := hQ26
        have NF26 := Fr.app NF25 Nq26
        show G (T26.setTop (mkF m 163 _ [(.int 1)]))
        refine g_ifNo hG X26 hx (hb hby at_163) (pc' := 166) (by decide) rfl ?_
        refine g_aload hG X26 hx (hb hby at_166) (pc' := 168) rfl rfl rfl ?_
        refine g_aload hG X26 hx (hb hby at_168) (pc' := 170) rfl rfl rfl ?_
        refine g_iconst hG X26 hx (hb hby at_170) (pc' := 171) rfl (v := (2 : Int32)) rfl ?_
        refine g_callS hG X26 hx hZ (y := (⟨"com/example/gauge_terms/gaugeterms/TopValuesPositionsPinLaw", "check", "([D[II)Z"⟩ : MethodName)) 0 hown (wd hw 23 rfl) (wd hw 24 rfl) (wd hw 3 rfl) (wd hw 25 rfl) (by decide) (rmCz0_2 l Z a0 hw [] a ids  T24.heap n0 Zs V_ids) (by decide) (by decide) (by rw [hml]; rfl) pd_6 rfl (argsL := [(.ref a), (.ref ids), (.int 2)]) (rest := []) rfl rfl (Nat.le_of_eq rfl) (hb hby at_171) eh26 (by decide) (by decide) (pc' := 174) rfl ?_
        intro T27 rv27 L27 X27 hQ27
        obtain ⟨rfl, Nq27, eh27⟩ := hQ27
        have NF27 := Fr.app NF26 Nq27
        show G (T27.setTop (mkF m 174 _ [(.int 1)]))
        refine g_ifNo hG X27 hx (hb hby at_174) (pc' := 177) (by decide) rfl ?_
        refine g_aload hG X27 hx (hb hby at_177) (pc' := 179) rfl rfl rfl ?_
        refine g_aload hG X27 hx (hb hby at_179) (pc' := 181) rfl rfl rfl ?_
        refine g_iconst hG X27 hx (hb hby at_181) (pc' := 182) rfl (v := (3 : Int32)) rfl ?_
        refine g_callS hG X27 hx hZ (y := (⟨"com/example/gauge_terms/gaugeterms/TopValuesPositionsPinLaw", "check", "([D[II)Z"⟩ : MethodName)) 0 hown (wd hw 23 rfl) (wd hw 24 rfl) (wd hw 3 rfl) (wd hw 25 rfl) (by decide) (rmCz0_3 l Z a0 hw [] a ids  T24.heap n0 Zs V_ids) (by decide) (by decide) (by rw [hml]; rfl) pd_6 rfl (argsL := [(.ref a), (.ref ids), (.int 3)]) (rest := []) rfl rfl (Nat.le_of_eq rfl) (hb hby at_182) eh27 (by decide) (by decide) (pc' := 185) rfl ?_
        intro T28 rv28 L28 X28 hQ28
        obtain ⟨rfl, Nq28, eh28⟩ := hQ28
        have NF28 := Fr.app NF27 Nq28
        show G (T28.setTop (mkF m 185 _ [(.int 1)]))
        refine g_ifNo hG X28 hx (hb hby at_185) (pc' := 188) (by decide) rfl ?_
        refine g_iconst hG X28 hx (hb hby at_188) (pc' := 189) rfl (v := (1 : Int32)) rfl ?_
        refine g_goto hG X28 hx (hb hby at_189) (pc' := 193) (by decide) (by decide) ?_
        exact e_retZ hGe X28 hx hrt hlk (hb hby at_193) (Or.inr rfl) eh28 (by decide) (by decide) (⟨rfl, NF28⟩)
      · skip
        refine g_iload hG X0 hx (hb hby at_92) (pc' := 94) rfl rfl ?_
        refine g_dload hG X0 hx (hb hby at_94) (pc' := 96) rfl rfl ?_
        refine g_dload hG X0 hx (hb hby at_96) (pc' := 98) rfl rfl ?_
        refine g_dload hG X0 hx (hb hby at_98) (pc' := 100) rfl rfl ?_
        refine g_dload hG X0 hx (hb hby at_100) (pc' := 102) rfl rfl ?_
        refine g_callS hG X0 hx hZ (y := (⟨"com/example/gauge_terms/gaugeterms/TopValuesPositionsPinLaw", "build", "(IDDDD)[D"⟩ : MethodName)) 0 hown (wd hw 1 rfl) (wd hw 2 rfl) (wd hw 3 rfl) (wd hw 4 rfl) (by decide) (rmBu2 l Z a0 hw [] al h0 n0 Zs) (by decide) (by decide) (by rw [hml]; rfl) pd_4 rfl (argsL := [(.int 2), (.double (al (0 : Int32))), (.double (al (1 : Int32))), (.double (al (2 : Int32))), (.double (al (3 : Int32)))]) (rest := []) rfl rfl (Nat.le_of_eq rfl) (hb hby at_102) e0 (by decide) (by decide) (pc' := 105) rfl ?_
        intro T29 rv29 L29 X29 hQ29
        obtain ⟨a, rfl, Nq29, Kq29, szq29, V_a⟩ := hQ29
        have NF29 := Fr.app NF0 Nq29
        have ge_a : n0 ≤ a := Nat.le_trans Zs szq29
        have Zs := Nat.le_trans Zs Kq29.1
        show G (T29.setTop (mkF m 105 _ [(.ref a)]))
        refine g_astore hG X29 hx (hb hby at_105) (pc' := 107) rfl rfl (Ls' := #[.val (.int i0), .val (.int i1), .val (.long i2), .second, .val (.int 2), .val (.int fg), .val (.long lim), .second, .val (.double (al (0 : Int32))), .second, .val (.double (al (1 : Int32))), .second, .val (.double (al (2 : Int32))), .second, .val (.double (al (3 : Int32))), .second, .val (.ref a), .unset, .unset]) rfl ?_
        refine g_lload hG X29 hx (hb hby at_107) (pc' := 109) rfl rfl ?_
        refine g_iload hG X29 hx (hb hby at_109) (pc' := 111) rfl rfl ?_
        obtain ⟨v111, q111⟩ : ∃ zz : Int64, (2 : Int32).toInt64 = zz := ⟨_, rfl⟩
        refine g_i2l hG X29 hx (hb hby at_111) (pc' := 112) rfl q111 ?_
        refine g_callS hG X29 hx hZ (y := (⟨"java/lang/Math", "min", "(JJ)J"⟩ : MethodName)) 0 hown (wd hw 6 rfl) (wd hw 7 rfl) (wd hw 8 rfl) (wd hw 9 rfl) (by decide) (rmMJ l Z a0 hw [] lim v111 r T29.heap n0 Zs (q111 ▸ hm)) (by decide) (by decide) (by rw [hml]; rfl) pd_0 rfl (argsL := [(.long lim), (.long v111)]) (rest := []) rfl rfl (Nat.le_of_eq rfl) (hb hby at_112) rfl (by decide) (by decide) (pc' := 115) rfl ?_
        intro T30 rv30 L30 X30 hQ30
        obtain ⟨rfl, Nq30, eh30⟩ := hQ30
        have NF30 := Fr.app NF29 Nq30
        show G (T30.setTop (mkF m 115 _ [(.long r)]))
        refine g_l2i hG X30 hx (hb hby at_115) (pc' := 116) rfl hk ?_
        refine g_istore hG X30 hx (hb hby at_116) (pc' := 118) rfl (Ls' := #[.val (.int i0), .val (.int i1), .val (.long i2), .second, .val (.int 2), .val (.int fg), .val (.long lim), .second, .val (.double (al (0 : Int32))), .second, .val (.double (al (1 : Int32))), .second, .val (.double (al (2 : Int32))), .second, .val (.double (al (3 : Int32))), .second, .val (.ref a), .val (.int 1), .unset]) rfl ?_
        refine g_aload hG X30 hx (hb hby at_118) (pc' := 120) rfl rfl rfl ?_
        refine g_lload hG X30 hx (hb hby at_120) (pc' := 122) rfl rfl ?_
        refine g_callS hG X30 hx hZ (y := (⟨"com/example/gauge_terms/gaugeterms/TopValues", "positions", "([DJ)[I"⟩ : MethodName)) 0 hown (wd hw 10 rfl) (wd hw 11 rfl) (wd hw 12 rfl) (wd hw 13 rfl) (by decide) (rmPos2_1 l Z a0 hw [] a al b01 b02 b03 b12 b13 b23 lim r T29.heap n0 Zs V_a TR BT hm hk) (by decide) (by decide) (by rw [hml]; rfl) pd_5 rfl (argsL := [(.ref a), (.long lim)]) (rest := []) rfl rfl (Nat.le_of_eq rfl) (hb hby at_122) eh30 (by decide) (by decide) (pc' := 125) rfl ?_
        intro T31 rv31 L31 X31 hQ31
        obtain ⟨ids, p0, rfl, Nq31, Kq31, szq31, V_ids, HT⟩ := hQ31
        have NF31 := Fr.app NF30 Nq31
        have ne_a_ids : a ≠ ids := Nat.ne_of_lt (Nat.lt_of_lt_of_le V_a.lt szq31)
        have ge_ids : n0 ≤ ids := Nat.le_trans Zs szq31
        have V_a := V_a.keep Kq31 nin0
        have Zs := Nat.le_trans Zs Kq31.1
        show G (T31.setTop (mkF m 125 _ [(.ref ids)]))
        refine g_astore hG X31 hx (hb hby at_125) (pc' := 127) rfl rfl (Ls' := #[.val (.int i0), .val (.int i1), .val (.long i2), .second, .val (.int 2), .val (.int fg), .val (.long lim), .second, .val (.double (al (0 : Int32))), .second, .val (.double (al (1 : Int32))), .second, .val (.double (al (2 : Int32))), .second, .val (.double (al (3 : Int32))), .second, .val (.ref a), .val (.int 1), .val (.ref ids)]) rfl ?_
        refine g_aload hG X31 hx (hb hby at_127) (pc' := 129) rfl rfl rfl ?_
        refine g_ifnonnullYes hG X31 hx (hb hby at_129) (pc' := 134) (by decide) (by decide) ?_
        refine g_aload hG X31 hx (hb hby at_134) (pc' := 136) rfl rfl rfl ?_
        refine g_arraylength hG X31 hx hZ rfl V_ids (hb hby at_136) (pc' := 137) rfl ?_
        refine g_iload hG X31 hx (hb hby at_137) (pc' := 139) rfl rfl ?_
        refine g_icmpYes hG X31 hx (hb hby at_139) (pc' := 144) (by decide) (by decide) (by decide) ?_
        refine g_aload hG X31 hx (hb hby at_144) (pc' := 146) rfl rfl rfl ?_
        refine g_aload hG X31 hx (hb hby at_146) (pc' := 148) rfl rfl rfl ?_
        refine g_iconst hG X31 hx (hb hby at_148) (pc' := 149) rfl (v := (0 : Int32)) rfl ?_
        refine g_callS hG X31 hx hZ (y := (⟨"com/example/gauge_terms/gaugeterms/TopValuesPositionsPinLaw", "check", "([D[II)Z"⟩ : MethodName)) 0 hown (wd hw 23 rfl) (wd hw 24 rfl) (wd hw 3 rfl) (wd hw 25 rfl) (by decide) (rmCk2_1_0 l Z a0 hw [] a ids al (btB b01 b02 b03 b12 b13 b23) p0 T31.heap n0 Zs V_a V_ids HT BT) (by decide) (by decide) (by rw [hml]; rfl) pd_6 rfl (argsL := [(.ref a), (.ref ids), (.int 0)]) (rest := []) rfl rfl (Nat.le_of_eq rfl) (hb hby at_149) rfl (by decide) (by decide) (pc' := 152) rfl ?_
        intro T32 rv32 L32 X32 hQ32
        obtain ⟨rfl, Nq32, eh32⟩ := hQ32
        have NF32 := Fr.app NF31 Nq32
        show G (T32.setTop (mkF m 152 _ [(.int 1)]))
        refine g_ifNo hG X32 hx (hb hby at_152) (pc' := 155) (by decide) rfl ?_
        refine g_aload hG X32 hx (hb hby at_155) (pc' := 157) rfl rfl rfl ?_
        refine g_aload hG X32 hx (hb hby at_157) (pc' := 159) rfl rfl rfl ?_
        refine g_iconst hG X32 hx (hb hby at_159) (pc' := 160) rfl (v := (1 : Int32)) rfl ?_
        refine g_callS hG X32 hx hZ (y := (⟨"com/example/gauge_terms/gaugeterms/TopValuesPositionsPinLaw", "check", "([D[II)Z"⟩ : MethodName)) 0 hown (wd hw 23 rfl) (wd hw 24 rfl) (wd hw 3 rfl) (wd hw 25 rfl) (by decide) (rmCz1_1 l Z a0 hw [] a ids p0 T31.heap n0 Zs V_ids) (by decide) (by decide) (by rw [hml]; rfl) pd_6 rfl (argsL := [(.ref a), (.ref ids), (.int 1)]) (rest := []) rfl rfl (Nat.le_of_eq rfl) (hb hby at_160) eh32 (by decide) (by decide) (pc' := 163) rfl ?_
        intro T33 rv33 L33 X33 hQ33
        obtain ⟨rfl, Nq33, eh33⟩ := hQ33
        have NF33 := Fr.app NF32 Nq33
        show G (T33.setTop (mkF m 163 _ [(.int 1)]))
        refine g_ifNo hG X33 hx (hb hby at_163) (pc' := 166) (by decide) rfl ?_
        refine g_aload hG X33 hx (hb hby at_166) (pc' := 168) rfl rfl rfl ?_
        refine g_aload hG X33 hx (hb hby at_168) (pc' := 170) rfl rfl rfl ?_
        refine g_iconst hG X33 hx (hb hby at_170) (pc' := 171) rfl (v := (2 : Int32)) rfl ?_
        refine g_callS hG X33 hx hZ (y := (⟨"com/example/gauge_terms/gaugeterms/TopValuesPositionsPinLaw", "check", "([D[II)Z"⟩ : MethodName)) 0 hown (wd hw 23 rfl) (wd hw 24 rfl) (wd hw 3 rfl) (wd hw 25 rfl) (by decide) (rmCz1_2 l Z a0 hw [] a ids p0 T31.heap n0 Zs V_ids) (by decide) (by decide) (by rw [hml]; rfl) pd_6 rfl (argsL := [(.ref a), (.ref ids), (.int 2)]) (rest := []) rfl rfl (Nat.le_of_eq rfl) (hb hby at_171) eh33 (by decide) (by decide) (pc' := 174) rfl ?_
        intro T34 rv34 L34 X34 hQ34
        obtain ⟨rfl, Nq34, eh34⟩ := hQ34
        have NF34 := Fr.app NF33 Nq34
        show G (T34.setTop (mkF m 174 _ [(.int 1)]))
        refine g_ifNo hG X34 hx (hb hby at_174) (pc' := 177) (by decide) rfl ?_
        refine g_aload hG X34 hx (hb hby at_177) (pc' := 179) rfl rfl rfl ?_
        refine g_aload hG X34 hx (hb hby at_179) (pc' := 181) rfl rfl rfl ?_
        refine g_iconst hG X34 hx (hb hby at_181) (pc' := 182) rfl (v := (3 : Int32)) rfl ?_
        refine g_callS hG X34 hx hZ (y := (⟨"com/example/gauge_terms/gaugeterms/TopValuesPositionsPinLaw", "check", "([D[II)Z"⟩ : MethodName)) 0 hown (wd hw 23 rfl) (wd hw 24 rfl) (wd hw 3 rfl) (wd hw 25 rfl) (by decide) (rmCz1_3 l Z a0 hw [] a ids p0 T31.heap n0 Zs V_ids) (by decide) (by decide) (by rw [hml]; rfl) pd_6 rfl (argsL := [(.ref a), (.ref ids), (.int 3)]) (rest := []) rfl rfl (Nat.le_of_eq rfl) (hb hby at_182) eh34 (by decide) (by decide) (pc' := 185) rfl ?_
        intro T35 rv35 L35 X35 hQ35
        obtain ⟨rfl, Nq35, eh35⟩ := hQ35
        have NF35 := Fr.app NF34 Nq35
        show G (T35.setTop (mkF m 185 _ [(.int 1)]))
        refine g_ifNo hG X35 hx (hb hby at_185) (pc' := 188) (by decide) rfl ?_
        refine g_iconst hG X35 hx (hb hby at_188) (pc' := 189) rfl (v := (1 : Int32)) rfl ?_
        refine g_goto hG X35 hx (hb hby at_189) (pc' := 193) (by decide) (by decide) ?_
        exact e_retZ hGe X35 hx hrt hlk (hb hby at_193) (Or.inr rfl) eh35 (by decide) (by decide) (⟨rfl, NF35⟩)
      · skip
        refine g_iload hG X0 hx (hb hby at_92) (pc' := 94) rfl rfl ?_
        refine g_dload hG X0 hx (hb hby at_94) (pc' := 96) rfl rfl ?_
        refine g_dload hG X0 hx (hb hby at_96) (pc' := 98) rfl rfl ?_
        refine g_dload hG X0 hx (hb hby at_98) (pc' := 100) rfl rfl ?_
        refine g_dload hG X0 hx (hb hby at_100) (pc' := 102) rfl rfl ?_
        refine g_callS hG X0 hx hZ (y := (⟨"com/example/gauge_terms/gaugeterms/TopValuesPositionsPinLaw", "build", "(IDDDD)[D"⟩ : MethodName)) 0 hown (wd hw 1 rfl) (wd hw 2 rfl) (wd hw 3 rfl) (wd hw 4 rfl) (by decide) (rmBu2 l Z a0 hw [] al h0 n0 Zs) (by decide) (by decide) (by rw [hml]; rfl) pd_4 rfl (argsL := [(.int 2), (.double (al (0 : Int32))), (.double (al (1 : Int32))), (.double (al (2 : Int32))), (.double (al (3 : Int32)))]) (rest := []) rfl rfl (Nat.le_of_eq rfl) (hb hby at_102) e0 (by decide) (by decide) (pc' := 105) rfl ?_
        intro T36 rv36 L36 X36 hQ36
        obtain ⟨a, rfl, Nq36, Kq36, szq36, V_a⟩ := hQ36
        have NF36 := Fr.app NF0 Nq36
        have ge_a : n0 ≤ a := Nat.le_trans Zs szq36
        have Zs := Nat.le_trans Zs Kq36.1
        show G (T36.setTop (mkF m 105 _ [(.ref a)]))
        refine g_astore hG X36 hx (hb hby at_105) (pc' := 107) rfl rfl (Ls' := #[.val (.int i0), .val (.int i1), .val (.long i2), .second, .val (.int 2), .val (.int fg), .val (.long lim), .second, .val (.double (al (0 : Int32))), .second, .val (.double (al (1 : Int32))), .second, .val (.double (al (2 : Int32))), .second, .val (.double (al (3 : Int32))), .second, .val (.ref a), .unset, .unset]) rfl ?_
        refine g_lload hG X36 hx (hb hby at_107) (pc' := 109) rfl rfl ?_
        refine g_iload hG X36 hx (hb hby at_109) (pc' := 111) rfl rfl ?_
        obtain ⟨v111, q111⟩ : ∃ zz : Int64, (2 : Int32).toInt64 = zz := ⟨_, rfl⟩
        refine g_i2l hG X36 hx (hb hby at_111) (pc' := 112) rfl q111 ?_
        refine g_callS hG X36 hx hZ (y := (⟨"java/lang/Math", "min", "(JJ)J"⟩ : MethodName)) 0 hown (wd hw 6 rfl) (wd hw 7 rfl) (wd hw 8 rfl) (wd hw 9 rfl) (by decide) (rmMJ l Z a0 hw [] lim v111 r T36.heap n0 Zs (q111 ▸ hm)) (by decide) (by decide) (by rw [hml]; rfl) pd_0 rfl (argsL := [(.long lim), (.long v111)]) (rest := []) rfl rfl (Nat.le_of_eq rfl) (hb hby at_112) rfl (by decide) (by decide) (pc' := 115) rfl ?_
        intro T37 rv37 L37 X37 hQ37
        obtain ⟨rfl, Nq37, eh37⟩ := hQ37
        have NF37 := Fr.app NF36 Nq37
        show G (T37.setTop (mkF m 115 _ [(.long r)]))
        refine g_l2i hG X37 hx (hb hby at_115) (pc' := 116) rfl hk ?_
        refine g_istore hG X37 hx (hb hby at_116) (pc' := 118) rfl (Ls' := #[.val (.int i0), .val (.int i1), .val (.long i2), .second, .val (.int 2), .val (.int fg), .val (.long lim), .second, .val (.double (al (0 : Int32))), .second, .val (.double (al (1 : Int32))), .second, .val (.double (al (2 : Int32))), .second, .val (.double (al (3 : Int32))), .second, .val (.ref a), .val (.int 2), .unset]) rfl ?_
        refine g_aload hG X37 hx (hb hby at_118) (pc' := 120) rfl rfl rfl ?_
        refine g_lload hG X37 hx (hb hby at_120) (pc' := 122) rfl rfl ?_
        refine g_callS hG X37 hx hZ (y := (⟨"com/example/gauge_terms/gaugeterms/TopValues", "positions", "([DJ)[I"⟩ : MethodName)) 0 hown (wd hw 10 rfl) (wd hw 11 rfl) (wd hw 12 rfl) (wd hw 13 rfl) (by decide) (rmPos2_2 l Z a0 hw [] a al b01 b02 b03 b12 b13 b23 lim r T36.heap n0 Zs V_a TR BT hm hk) (by decide) (by decide) (by rw [hml]; rfl) pd_5 rfl (argsL := [(.ref a), (.long lim)]) (rest := []) rfl rfl (Nat.le_of_eq rfl) (hb hby at_122) eh37 (by decide) (by decide) (pc' := 125) rfl ?_
        intro T38 rv38 L38 X38 hQ38
        obtain ⟨ids, p0, p1, rfl, Nq38, Kq38, szq38, V_ids, HT⟩ := hQ38
        have NF38 := Fr.app NF37 Nq38
        have ne_a_ids : a ≠ ids := Nat.ne_of_lt (Nat.lt_of_lt_of_le V_a.lt szq38)
        have ge_ids : n0 ≤ ids := Nat.le_trans Zs szq38
        have V_a := V_a.keep Kq38 nin0
        have Zs := Nat.le_trans Zs Kq38.1
        show G (T38.setTop (mkF m 125 _ [(.ref ids)]))
        refine g_astore hG X38 hx (hb hby at_125) (pc' := 127) rfl rfl (Ls' := #[.val (.int i0), .val (.int i1), .val (.long i2), .second, .val (.int 2), .val (.int fg), .val (.long lim), .second, .val (.double (al (0 : Int32))), .second, .val (.double (al (1 : Int32))), .second, .val (.double (al (2 : Int32))), .second, .val (.double (al (3 : Int32))), .second, .val (.ref a), .val (.int 2), .val (.ref ids)]) rfl ?_
        refine g_aload hG X38 hx (hb hby at_127) (pc' := 129) rfl rfl rfl ?_
        refine g_ifnonnullYes hG X38 hx (hb hby at_129) (pc' := 134) (by decide) (by decide) ?_
        refine g_aload hG X38 hx (hb hby at_134) (pc' := 136) rfl rfl rfl ?_
        refine g_arraylength hG X38 hx hZ rfl V_ids (hb hby at_136) (pc' := 137) rfl ?_
        refine g_iload hG X38 hx (hb hby at_137) (pc' := 139) rfl rfl ?_
        refine g_icmpYes hG X38 hx (hb hby at_139) (pc' := 144) (by decide) (by decide) (by decide) ?_
        refine g_aload hG X38 hx (hb hby at_144) (pc' := 146) rfl rfl rfl ?_
        refine g_aload hG X38 hx (hb hby at_146) (pc' := 148) rfl rfl rfl ?_
        refine g_iconst hG X38 hx (hb hby at_148) (pc' := 149) rfl (v := (0 : Int32)) rfl ?_
        refine g_callS hG X38 hx hZ (y := (⟨"com/example/gauge_terms/gaugeterms/TopValuesPositionsPinLaw", "check", "([D[II)Z"⟩ : MethodName)) 0 hown (wd hw 23 rfl) (wd hw 24 rfl) (wd hw 3 rfl) (wd hw 25 rfl) (by decide) (rmCk2_2_0 l Z a0 hw [] a ids al (btB b01 b02 b03 b12 b13 b23) p0 p1 T38.heap n0 Zs V_a V_ids HT BT) (by decide) (by decide) (by rw [hml]; rfl) pd_6 rfl (argsL := [(.ref a), (.ref ids), (.int 0)]) (rest := []) rfl rfl (Nat.le_of_eq rfl) (hb hby at_149) rfl (by decide) (by decide) (pc' := 152) rfl ?_
        intro T39 rv39 L39 X39 hQ39
        obtain ⟨rfl, Nq39, eh39⟩ := hQ39
        have NF39 := Fr.app NF38 Nq39
        show G (T39.setTop (mkF m 152 _ [(.int 1)]))
        refine g_ifNo hG X39 hx (hb hby at_152) (pc' := 155) (by decide) rfl ?_
        refine g_aload hG X39 hx (hb hby at_155) (pc' := 157) rfl rfl rfl ?_
        refine g_aload hG X39 hx (hb hby at_157) (pc' := 159) rfl rfl rfl ?_
        refine g_iconst hG X39 hx (hb hby at_159) (pc' := 160) rfl (v := (1 : Int32)) rfl ?_
        refine g_callS hG X39 hx hZ (y := (⟨"com/example/gauge_terms/gaugeterms/TopValuesPositionsPinLaw", "check", "([D[II)Z"⟩ : MethodName)) 0 hown (wd hw 23 rfl) (wd hw 24 rfl) (wd hw 3 rfl) (wd hw 25 rfl) (by decide) (rmCk2_2_1 l Z a0 hw [] a ids al (btB b01 b02 b03 b12 b13 b23) p0 p1 T38.heap n0 Zs V_a V_ids HT BT) (by decide) (by decide) (by rw [hml]; rfl) pd_6 rfl (argsL := [(.ref a), (.ref ids), (.int 1)]) (rest := []) rfl rfl (Nat.le_of_eq rfl) (hb hby at_160) eh39 (by decide) (by decide) (pc' := 163) rfl ?_
        intro T40 rv40 L40 X40 hQ40
        obtain ⟨rfl, Nq40, eh40⟩ := hQ40
        have NF40 := Fr.app NF39 Nq40
        show G (T40.setTop (mkF m 163 _ [(.int 1)]))
        refine g_ifNo hG X40 hx (hb hby at_163) (pc' := 166) (by decide) rfl ?_
        refine g_aload hG X40 hx (hb hby at_166) (pc' := 168) rfl rfl rfl ?_
        refine g_aload hG X40 hx (hb hby at_168) (pc' := 170) rfl rfl rfl ?_
        refine g_iconst hG X40 hx (hb hby at_170) (pc' := 171) rfl (v := (2 : Int32)) rfl ?_
        refine g_callS hG X40 hx hZ (y := (⟨"com/example/gauge_terms/gaugeterms/TopValuesPositionsPinLaw", "check", "([D[II)Z"⟩ : MethodName)) 0 hown (wd hw 23 rfl) (wd hw 24 rfl) (wd hw 3 rfl) (wd hw 25 rfl) (by decide) (rmCz2_2 l Z a0 hw [] a ids p0 p1 T38.heap n0 Zs V_ids) (by decide) (by decide) (by rw [hml]; rfl) pd_6 rfl (argsL := [(.ref a), (.ref ids), (.int 2)]) (rest := []) rfl rfl (Nat.le_of_eq rfl) (hb hby at_171) eh40 (by decide) (by decide) (pc' := 174) rfl ?_
        intro T41 rv41 L41 X41 hQ41
        obtain ⟨rfl, Nq41, eh41⟩ := hQ41
        have NF41 := Fr.app NF40 Nq41
        show G (T41.setTop (mkF m 174 _ [(.int 1)]))
        refine g_ifNo hG X41 hx (hb hby at_174) (pc' := 177) (by decide) rfl ?_
        refine g_aload hG X41 hx (hb hby at_177) (pc' := 179) rfl rfl rfl ?_
        refine g_aload hG X41 hx (hb hby at_179) (pc' := 181) rfl rfl rfl ?_
        refine g_iconst hG X41 hx (hb hby at_181) (pc' := 182) rfl (v := (3 : Int32)) rfl ?_
        refine g_callS hG X41 hx hZ (y := (⟨"com/example/gauge_terms/gaugeterms/TopValuesPositionsPinLaw", "check", "([D[II)Z"⟩ : MethodName)) 0 hown (wd hw 23 rfl) (wd hw 24 rfl) (wd hw 3 rfl) (wd hw 25 rfl) (by decide) (rmCz2_3 l Z a0 hw [] a ids p0 p1 T38.heap n0 Zs V_ids) (by decide) (by decide) (by rw [hml]; rfl) pd_6 rfl (argsL := [(.ref a), (.ref ids), (.int 3)]) (rest := []) rfl rfl (Nat.le_of_eq rfl) (hb hby at_182) eh41 (by decide) (by decide) (pc' := 185) rfl ?_
        intro T42 rv42 L42 X42 hQ42
        obtain ⟨rfl, Nq42, eh42⟩ := hQ42
        have NF42 := Fr.app NF41 Nq42
        show G (T42.setTop (mkF m 185 _ [(.int 1)]))
        refine g_ifNo hG X42 hx (hb hby at_185) (pc' := 188) (by decide) rfl ?_
        refine g_iconst hG X42 hx (hb hby at_188) (pc' := 189) rfl (v := (1 : Int32)) rfl ?_
        refine g_goto hG X42 hx (hb hby at_189) (pc' := 193) (by decide) (by decide) ?_
        exact e_retZ hGe X42 hx hrt hlk (hb hby at_193) (Or.inr rfl) eh42 (by decide) (by decide) (⟨rfl, NF42⟩)
      · skip
        refine g_iload hG X0 hx (hb hby at_92) (pc' := 94) rfl rfl ?_
        refine g_dload hG X0 hx (hb hby at_94) (pc' := 96) rfl rfl ?_
        refine g_dload hG X0 hx (hb hby at_96) (pc' := 98) rfl rfl ?_
        refine g_dload hG X0 hx (hb hby at_98) (pc' := 100) rfl rfl ?_
        refine g_dload hG X0 hx (hb hby at_100) (pc' := 102) rfl rfl ?_
        refine g_callS hG X0 hx hZ (y := (⟨"com/example/gauge_terms/gaugeterms/TopValuesPositionsPinLaw", "build", "(IDDDD)[D"⟩ : MethodName)) 0 hown (wd hw 1 rfl) (wd hw 2 rfl) (wd hw 3 rfl) (wd hw 4 rfl) (by decide) (rmBu3 l Z a0 hw [] al h0 n0 Zs) (by decide) (by decide) (by rw [hml]; rfl) pd_4 rfl (argsL := [(.int 3), (.double (al (0 : Int32))), (.double (al (1 : Int32))), (.double (al (2 : Int32))), (.double (al (3 : Int32)))]) (rest := []) rfl rfl (Nat.le_of_eq rfl) (hb hby at_102) e0 (by decide) (by decide) (pc' := 105) rfl ?_
        intro T43 rv43 L43 X43 hQ43
        obtain ⟨a, rfl, Nq43, Kq43, szq43, V_a⟩ := hQ43
        have NF43 := Fr.app NF0 Nq43
        have ge_a : n0 ≤ a := Nat.le_trans Zs szq43
        have Zs := Nat.le_trans Zs Kq43.1
        show G (T43.setTop (mkF m 105 _ [(.ref a)]))
        refine g_astore hG X43 hx (hb hby at_105) (pc' := 107) rfl rfl (Ls' := #[.val (.int i0), .val (.int i1), .val (.long i2), .second, .val (.int 3), .val (.int fg), .val (.long lim), .second, .val (.double (al (0 : Int32))), .second, .val (.double (al (1 : Int32))), .second, .val (.double (al (2 : Int32))), .second, .val (.double (al (3 : Int32))), .second, .val (.ref a), .unset, .unset]) rfl ?_
        refine g_lload hG X43 hx (hb hby at_107) (pc' := 109) rfl rfl ?_
        refine g_iload hG X43 hx (hb hby at_109) (pc' := 111) rfl rfl ?_
        obtain ⟨v111, q111⟩ : ∃ zz : Int64, (3 : Int32).toInt64 = zz := ⟨_, rfl⟩
        refine g_i2l hG X43 hx (hb hby at_111) (pc' := 112) rfl q111 ?_
        refine g_callS hG X43 hx hZ (y := (⟨"java/lang/Math", "min", "(JJ)J"⟩ : MethodName)) 0 hown (wd hw 6 rfl) (wd hw 7 rfl) (wd hw 8 rfl) (wd hw 9 rfl) (by decide) (rmMJ l Z a0 hw [] lim v111 r T43.heap n0 Zs (q111 ▸ hm)) (by decide) (by decide) (by rw [hml]; rfl) pd_0 rfl (argsL := [(.long lim), (.long v111)]) (rest := []) rfl rfl (Nat.le_of_eq rfl) (hb hby at_112) rfl (by decide) (by decide) (pc' := 115) rfl ?_
        intro T44 rv44 L44 X44 hQ44
        obtain ⟨rfl, Nq44, eh44⟩ := hQ44
        have NF44 := Fr.app NF43 Nq44
        show G (T44.setTop (mkF m 115 _ [(.long r)]))
        refine g_l2i hG X44 hx (hb hby at_115) (pc' := 116) rfl hk ?_
        refine g_istore hG X44 hx (hb hby at_116) (pc' := 118) rfl (Ls' := #[.val (.int i0), .val (.int i1), .val (.long i2), .second, .val (.int 3), .val (.int fg), .val (.long lim), .second, .val (.double (al (0 : Int32))), .second, .val (.double (al (1 : Int32))), .second, .val (.double (al (2 : Int32))), .second, .val (.double (al (3 : Int32))), .second, .val (.ref a), .val (.int 0), .unset]) rfl ?_
        refine g_aload hG X44 hx (hb hby at_118) (pc' := 120) rfl rfl rfl ?_
        refine g_lload hG X44 hx (hb hby at_120) (pc' := 122) rfl rfl ?_
        refine g_callS hG X44 hx hZ (y := (⟨"com/example/gauge_terms/gaugeterms/TopValues", "positions", "([DJ)[I"⟩ : MethodName)) 0 hown (wd hw 10 rfl) (wd hw 11 rfl) (wd hw 12 rfl) (wd hw 13 rfl) (by decide) (rmPos3_0 l Z a0 hw [] a al b01 b02 b03 b12 b13 b23 lim r T43.heap n0 Zs V_a TR BT hm hk) (by decide) (by decide) (by rw [hml]; rfl) pd_5 rfl (argsL := [(.ref a), (.long lim)]) (rest := []) rfl rfl (Nat.le_of_eq rfl) (hb hby at_122) eh44 (by decide) (by decide) (pc' := 125) rfl ?_
        intro T45 rv45 L45 X45 hQ45
        obtain ⟨ids, rfl, Nq45, Kq45, szq45, V_ids, HT⟩ := hQ45
        have NF45 := Fr.app NF44 Nq45
        have ne_a_ids : a ≠ ids := Nat.ne_of_lt (Nat.lt_of_lt_of_le V_a.lt szq45)
        have ge_ids : n0 ≤ ids := Nat.le_trans Zs szq45
        have V_a := V_a.keep Kq45 nin0
        have Zs := Nat.le_trans Zs Kq45.1
        show G (T45.setTop (mkF m 125 _ [(.ref ids)]))
        refine g_astore hG X45 hx (hb hby at_125) (pc' := 127) rfl rfl (Ls' := #[.val (.int i0), .val (.int i1), .val (.long i2), .second, .val (.int 3), .val (.int fg), .val (.long lim), .second, .val (.double (al (0 : Int32))), .second, .val (.double (al (1 : Int32))), .second, .val (.double (al (2 : Int32))), .second, .val (.double (al (3 : Int32))), .second, .val (.ref a), .val (.int 0), .val (.ref ids)]) rfl ?_
        refine g_aload hG X45 hx (hb hby at_127) (pc' := 129) rfl rfl rfl ?_
        refine g_ifnonnullYes hG X45 hx (hb hby at_129) (pc' := 134) (by decide) (by decide) ?_
        refine g_aload hG X45 hx (hb hby at_134) (pc' := 136) rfl rfl rfl ?_
        refine g_arraylength hG X45 hx hZ rfl V_ids (hb hby at_136) (pc' := 137) rfl ?_
        refine g_iload hG X45 hx (hb hby at_137) (pc' := 139) rfl rfl ?_
        refine g_icmpYes hG X45 hx (hb hby at_139) (pc' := 144) (by decide) (by decide) (by decide) ?_
        refine g_aload hG X45 hx (hb hby at_144) (pc' := 146) rfl rfl rfl ?_
        refine g_aload hG X45 hx (hb hby at_146) (pc' := 148) rfl rfl rfl ?_
        refine g_iconst hG X45 hx (hb hby at_148) (pc' := 149) rfl (v := (0 : Int32)) rfl ?_
        refine g_callS hG X45 hx hZ (y := (⟨"com/example/gauge_terms/gaugeterms/TopValuesPositionsPinLaw", "check", "([D[II)Z"⟩ : MethodName)) 0 hown (wd hw 23 rfl) (wd hw 24 rfl) (wd hw 3 rfl) (wd hw 25 rfl) (by decide) (rmCz0_0 l Z a0 hw [] a ids  T45.heap n0 Zs V_ids) (by decide) (by decide) (by rw [hml]; rfl) pd_6 rfl (argsL := [(.ref a), (.ref ids), (.int 0)]) (rest := []) rfl rfl (Nat.le_of_eq rfl) (hb hby at_149) rfl (by decide) (by decide) (pc' := 152) rfl ?_
        intro T46 rv46 L46 X46 hQ46
        obtain ⟨rfl, Nq46, eh46⟩ := hQ46
        have NF46 := Fr.app NF45 Nq46
        show G (T46.setTop (mkF m 152 _ [(.int 1)]))
        refine g_ifNo hG X46 hx (hb hby at_152) (pc' := 155) (by decide) rfl ?_
        refine g_aload hG X46 hx (hb hby at_155) (pc' := 157) rfl rfl rfl ?_
        refine g_aload hG X46 hx (hb hby at_157) (pc' := 159) rfl rfl rfl ?_
        refine g_iconst hG X46 hx (hb hby at_159) (pc' := 160) rfl (v := (1 : Int32)) rfl ?_
        refine g_callS hG X46 hx hZ (y := (⟨"com/example/gauge_terms/gaugeterms/TopValuesPositionsPinLaw", "check", "([D[II)Z"⟩ : MethodName)) 0 hown (wd hw 23 rfl) (wd hw 24 rfl) (wd hw 3 rfl) (wd hw 25 rfl) (by decide) (rmCz0_1 l Z a0 hw [] a ids  T45.heap n0 Zs V_ids) (by decide) (by decide) (by rw [hml]; rfl) pd_6 rfl (argsL := [(.ref a), (.ref ids), (.int 1)]) (rest := []) rfl rfl (Nat.le_of_eq rfl) (hb hby at_160) eh46 (by decide) (by decide) (pc' := 163) rfl ?_
        intro T47 rv47 L47 X47 hQ47
        obtain ⟨rfl, Nq47, eh47⟩ := hQ47
        have NF47 := Fr.app NF46 Nq47
        show G (T47.setTop (mkF m 163 _ [(.int 1)]))
        refine g_ifNo hG X47 hx (hb hby at_163) (pc' := 166) (by decide) rfl ?_
        refine g_aload hG X47 hx (hb hby at_166) (pc' := 168) rfl rfl rfl ?_
        refine g_aload hG X47 hx (hb hby at_168) (pc' := 170) rfl rfl rfl ?_
        refine g_iconst hG X47 hx (hb hby at_170) (pc' := 171) rfl (v := (2 : Int32)) rfl ?_
        refine g_callS hG X47 hx hZ (y := (⟨"com/example/gauge_terms/gaugeterms/TopValuesPositionsPinLaw", "check", "([D[II)Z"⟩ : MethodName)) 0 hown (wd hw 23 rfl) (wd hw 24 rfl) (wd hw 3 rfl) (wd hw 25 rfl) (by decide) (rmCz0_2 l Z a0 hw [] a ids  T45.heap n0 Zs V_ids) (by decide) (by decide) (by rw [hml]; rfl) pd_6 rfl (argsL := [(.ref a), (.ref ids), (.int 2)]) (rest := []) rfl rfl (Nat.le_of_eq rfl) (hb hby at_171) eh47 (by decide) (by decide) (pc' := 174) rfl ?_
        intro T48 rv48 L48 X48 hQ48
        obtain ⟨rfl, Nq48, eh48⟩ := hQ48
        have NF48 := Fr.app NF47 Nq48
        show G (T48.setTop (mkF m 174 _ [(.int 1)]))
        refine g_ifNo hG X48 hx (hb hby at_174) (pc' := 177) (by decide) rfl ?_
        refine g_aload hG X48 hx (hb hby at_177) (pc' := 179) rfl rfl rfl ?_
        refine g_aload hG X48 hx (hb hby at_179) (pc' := 181) rfl rfl rfl ?_
        refine g_iconst hG X48 hx (hb hby at_181) (pc' := 182) rfl (v := (3 : Int32)) rfl ?_
        refine g_callS hG X48 hx hZ (y := (⟨"com/example/gauge_terms/gaugeterms/TopValuesPositionsPinLaw", "check", "([D[II)Z"⟩ : MethodName)) 0 hown (wd hw 23 rfl) (wd hw 24 rfl) (wd hw 3 rfl) (wd hw 25 rfl) (by decide) (rmCz0_3 l Z a0 hw [] a ids  T45.heap n0 Zs V_ids) (by decide) (by decide) (by rw [hml]; rfl) pd_6 rfl (argsL := [(.ref a), (.ref ids), (.int 3)]) (rest := []) rfl rfl (Nat.le_of_eq rfl) (hb hby at_182) eh48 (by decide) (by decide) (pc' := 185) rfl ?_
        intro T49 rv49 L49 X49 hQ49
        obtain ⟨rfl, Nq49, eh49⟩ := hQ49
        have NF49 := Fr.app NF48 Nq49
        show G (T49.setTop (mkF m 185 _ [(.int 1)]))
        refine g_ifNo hG X49 hx (hb hby at_185) (pc' := 188) (by decide) rfl ?_
        refine g_iconst hG X49 hx (hb hby at_188) (pc' := 189) rfl (v := (1 : Int32)) rfl ?_
        refine g_goto hG X49 hx (hb hby at_189) (pc' := 193) (by decide) (by decide) ?_
        exact e_retZ hGe X49 hx hrt hlk (hb hby at_193) (Or.inr rfl) eh49 (by decide) (by decide) (⟨rfl, NF49⟩)
      · skip
        refine g_iload hG X0 hx (hb hby at_92) (pc' := 94) rfl rfl ?_
        refine g_dload hG X0 hx (hb hby at_94) (pc' := 96) rfl rfl ?_
        refine g_dload hG X0 hx (hb hby at_96) (pc' := 98) rfl rfl ?_
        refine g_dload hG X0 hx (hb hby at_98) (pc' := 100) rfl rfl ?_
        refine g_dload hG X0 hx (hb hby at_100) (pc' := 102) rfl rfl ?_
        refine g_callS hG X0 hx hZ (y := (⟨"com/example/gauge_terms/gaugeterms/TopValuesPositionsPinLaw", "build", "(IDDDD)[D"⟩ : MethodName)) 0 hown (wd hw 1 rfl) (wd hw 2 rfl) (wd hw 3 rfl) (wd hw 4 rfl) (by decide) (rmBu3 l Z a0 hw [] al h0 n0 Zs) (by decide) (by decide) (by rw [hml]; rfl) pd_4 rfl (argsL := [(.int 3), (.double (al (0 : Int32))), (.double (al (1 : Int32))), (.double (al (2 : Int32))), (.double (al (3 : Int32)))]) (rest := []) rfl rfl (Nat.le_of_eq rfl) (hb hby at_102) e0 (by decide) (by decide) (pc' := 105) rfl ?_
        intro T50 rv50 L50 X50 hQ50
        obtain ⟨a, rfl, Nq50, Kq50, szq50, V_a⟩ := hQ50
        have NF50 := Fr.app NF0 Nq50
        have ge_a : n0 ≤ a := Nat.le_trans Zs szq50
        have Zs := Nat.le_trans Zs Kq50.1
        show G (T50.setTop (mkF m 105 _ [(.ref a)]))
        refine g_astore hG X50 hx (hb hby at_105) (pc' := 107) rfl rfl (Ls' := #[.val (.int i0), .val (.int i1), .val (.long i2), .second, .val (.int 3), .val (.int fg), .val (.long lim), .second, .val (.double (al (0 : Int32))), .second, .val (.double (al (1 : Int32))), .second, .val (.double (al (2 : Int32))), .second, .val (.double (al (3 : Int32))), .second, .val (.ref a), .unset, .unset]) rfl ?_
        refine g_lload hG X50 hx (hb hby at_107) (pc' := 109) rfl rfl ?_
        refine g_iload hG X50 hx (hb hby at_109) (pc' := 111) rfl rfl ?_
        obtain ⟨v111, q111⟩ : ∃ zz : Int64, (3 : Int32).toInt64 = zz := ⟨_, rfl⟩
        refine g_i2l hG X50 hx (hb hby at_111) (pc' := 112) rfl q111 ?_
        refine g_callS hG X50 hx hZ (y := (⟨"java/lang/Math", "min", "(JJ)J"⟩ : MethodName)) 0 hown (wd hw 6 rfl) (wd hw 7 rfl) (wd hw 8 rfl) (wd hw 9 rfl) (by decide) (rmMJ l Z a0 hw [] lim v111 r T50.heap n0 Zs (q111 ▸ hm)) (by decide) (by decide) (by rw [hml]; rfl) pd_0 rfl (argsL := [(.long lim), (.long v111)]) (rest := []) rfl rfl (Nat.le_of_eq rfl) (hb hby at_112) rfl (by decide) (by decide) (pc' := 115) rfl ?_
        intro T51 rv51 L51 X51 hQ51
        obtain ⟨rfl, Nq51, eh51⟩ := hQ51
        have NF51 := Fr.app NF50 Nq51
        show G (T51.setTop (mkF m 115 _ [(.long r)]))
        refine g_l2i hG X51 hx (hb hby at_115) (pc' := 116) rfl hk ?_
        refine g_istore hG X51 hx (hb hby at_116) (pc' := 118) rfl (Ls' := #[.val (.int i0), .val (.int i1), .val (.long i2), .second, .val (.int 3), .val (.int fg), .val (.long lim), .second, .val (.double (al (0 : Int32))), .second, .val (.double (al (1 : Int32))), .second, .val (.double (al (2 : Int32))), .second, .val (.double (al (3 : Int32))), .second, .val (.ref a), .val (.int 1), .unset]) rfl ?_
        refine g_aload hG X51 hx (hb hby at_118) (pc' := 120) rfl rfl rfl ?_
        refine g_lload hG X51 hx (hb hby at_120) (pc' := 122) rfl rfl ?_
        refine g_callS hG X51 hx hZ (y := (⟨"com/example/gauge_terms/gaugeterms/TopValues", "positions", "([DJ)[I"⟩ : MethodName)) 0 hown (wd hw 10 rfl) (wd hw 11 rfl) (wd hw 12 rfl) (wd hw 13 rfl) (by decide) (rmPos3_1 l Z a0 hw [] a al b01 b02 b03 b12 b13 b23 lim r T50.heap n0 Zs V_a TR BT hm hk) (by decide) (by decide) (by rw [hml]; rfl) pd_5 rfl (argsL := [(.ref a), (.long lim)]) (rest := []) rfl rfl (Nat.le_of_eq rfl) (hb hby at_122) eh51 (by decide) (by decide) (pc' := 125) rfl ?_
        intro T52 rv52 L52 X52 hQ52
        obtain ⟨ids, p0, rfl, Nq52, Kq52, szq52, V_ids, HT⟩ := hQ52
        have NF52 := Fr.app NF51 Nq52
        have ne_a_ids : a ≠ ids := Nat.ne_of_lt (Nat.lt_of_lt_of_le V_a.lt szq52)
        have ge_ids : n0 ≤ ids := Nat.le_trans Zs szq52
        have V_a := V_a.keep Kq52 nin0
        have Zs := Nat.le_trans Zs Kq52.1
        show G (T52.setTop (mkF m 125 _ [(.ref ids)]))
        refine g_astore hG X52 hx (hb hby at_125) (pc' := 127) rfl rfl (Ls' := #[.val (.int i0), .val (.int i1), .val (.long i2), .second, .val (.int 3), .val (.int fg), .val (.long lim), .second, .val (.double (al (0 : Int32))), .second, .val (.double (al (1 : Int32))), .second, .val (.double (al (2 : Int32))), .second, .val (.double (al (3 : Int32))), .second, .val (.ref a), .val (.int 1), .val (.ref ids)]) rfl ?_
        refine g_aload hG X52 hx (hb hby at_127) (pc' := 129) rfl rfl rfl ?_
        refine g_ifnonnullYes hG X52 hx (hb hby at_129) (pc' := 134) (by decide) (by decide) ?_
        refine g_aload hG X52 hx (hb hby at_134) (pc' := 136) rfl rfl rfl ?_
        refine g_arraylength hG X52 hx hZ rfl V_ids (hb hby at_136) (pc' := 137) rfl ?_
        refine g_iload hG X52 hx (hb hby at_137) (pc' := 139) rfl rfl ?_
        refine g_icmpYes hG X52 hx (hb hby at_139) (pc' := 144) (by decide) (by decide) (by decide) ?_
        refine g_aload hG X52 hx (hb hby at_144) (pc' := 146) rfl rfl rfl ?_
        refine g_aload hG X52 hx (hb hby at_146) (pc' := 148) rfl rfl rfl ?_
        refine g_iconst hG X52 hx (hb hby at_148) (pc' := 149) rfl (v := (0 : Int32)) rfl ?_
        refine g_callS hG X52 hx hZ (y := (⟨"com/example/gauge_terms/gaugeterms/TopValuesPositionsPinLaw", "check", "([D[II)Z"⟩ : MethodName)) 0 hown (wd hw 23 rfl) (wd hw 24 rfl) (wd hw 3 rfl) (wd hw 25 rfl) (by decide) (rmCk3_1_0 l Z a0 hw [] a ids al (btB b01 b02 b03 b12 b13 b23) p0 T52.heap n0 Zs V_a V_ids HT BT) (by decide) (by decide) (by rw [hml]; rfl) pd_6 rfl (argsL := [(.ref a), (.ref ids), (.int 0)]) (rest := []) rfl rfl (Nat.le_of_eq rfl) (hb hby at_149) rfl (by decide) (by decide) (pc' := 152) rfl ?_
        intro T53 rv53 L53 X53 hQ53
        obtain ⟨rfl, Nq53, eh53⟩ := hQ53
        have NF53 := Fr.app NF52 Nq53
        show G (T53.setTop (mkF m 152 _ [(.int 1)]))
        refine g_ifNo hG X53 hx (hb hby at_152) (pc' := 155) (by decide) rfl ?_
        refine g_aload hG X53 hx (hb hby at_155) (pc' := 157) rfl rfl rfl ?_
        refine g_aload hG X53 hx (hb hby at_157) (pc' := 159) rfl rfl rfl ?_
        refine g_iconst hG X53 hx (hb hby at_159) (pc' := 160) rfl (v := (1 : Int32)) rfl ?_
        refine g_callS hG X53 hx hZ (y := (⟨"com/example/gauge_terms/gaugeterms/TopValuesPositionsPinLaw", "check", "([D[II)Z"⟩ : MethodName)) 0 hown (wd hw 23 rfl) (wd hw 24 rfl) (wd hw 3 rfl) (wd hw 25 rfl) (by decide) (rmCz1_1 l Z a0 hw [] a ids p0 T52.heap n0 Zs V_ids) (by decide) (by decide) (by rw [hml]; rfl) pd_6 rfl (argsL := [(.ref a), (.ref ids), (.int 1)]) (rest := []) rfl rfl (Nat.le_of_eq rfl) (hb hby at_160) eh53 (by decide) (by decide) (pc' := 163) rfl ?_
        intro T54 rv54 L54 X54 hQ54
        obtain ⟨rfl, Nq54, eh54⟩ := hQ54
        have NF54 := Fr.app NF53 Nq54
        show G (T54.setTop (mkF m 163 _ [(.int 1)]))
        refine g_ifNo hG X54 hx (hb hby at_163) (pc' := 166) (by decide) rfl ?_
        refine g_aload hG X54 hx (hb hby at_166) (pc' := 168) rfl rfl rfl ?_
        refine g_aload hG X54 hx (hb hby at_168) (pc' := 170) rfl rfl rfl ?_
        refine g_iconst hG X54 hx (hb hby at_170) (pc' := 171) rfl (v := (2 : Int32)) rfl ?_
        refine g_callS hG X54 hx hZ (y := (⟨"com/example/gauge_terms/gaugeterms/TopValuesPositionsPinLaw", "check", "([D[II)Z"⟩ : MethodName)) 0 hown (wd hw 23 rfl) (wd hw 24 rfl) (wd hw 3 rfl) (wd hw 25 rfl) (by decide) (rmCz1_2 l Z a0 hw [] a ids p0 T52.heap n0 Zs V_ids) (by decide) (by decide) (by rw [hml]; rfl) pd_6 rfl (argsL := [(.ref a), (.ref ids), (.int 2)]) (rest := []) rfl rfl (Nat.le_of_eq rfl) (hb hby at_171) eh54 (by decide) (by decide) (pc' := 174) rfl ?_
        intro T55 rv55 L55 X55 hQ55
        obtain ⟨rfl, Nq55, eh55⟩ := hQ55
        have NF55 := Fr.app NF54 Nq55
        show G (T55.setTop (mkF m 174 _ [(.int 1)]))
        refine g_ifNo hG X55 hx (hb hby at_174) (pc' := 177) (by decide) rfl ?_
        refine g_aload hG X55 hx (hb hby at_177) (pc' := 179) rfl rfl rfl ?_
        refine g_aload hG X55 hx (hb hby at_179) (pc' := 181) rfl rfl rfl ?_
        refine g_iconst hG X55 hx (hb hby at_181) (pc' := 182) rfl (v := (3 : Int32)) rfl ?_
        refine g_callS hG X55 hx hZ (y := (⟨"com/example/gauge_terms/gaugeterms/TopValuesPositionsPinLaw", "check", "([D[II)Z"⟩ : MethodName)) 0 hown (wd hw 23 rfl) (wd hw 24 rfl) (wd hw 3 rfl) (wd hw 25 rfl) (by decide) (rmCz1_3 l Z a0 hw [] a ids p0 T52.heap n0 Zs V_ids) (by decide) (by decide) (by rw [hml]; rfl) pd_6 rfl (argsL := [(.ref a), (.ref ids), (.int 3)]) (rest := []) rfl rfl (Nat.le_of_eq rfl) (hb hby at_182) eh55 (by decide) (by decide) (pc' := 185) rfl ?_
        intro T56 rv56 L56 X56 hQ56
        obtain ⟨rfl, Nq56, eh56⟩ := hQ56
        have NF56 := Fr.app NF55 Nq56
        show G (T56.setTop (mkF m 185 _ [(.int 1)]))
        refine g_ifNo hG X56 hx (hb hby at_185) (pc' := 188) (by decide) rfl ?_
        refine g_iconst hG X56 hx (hb hby at_188) (pc' := 189) rfl (v := (1 : Int32)) rfl ?_
        refine g_goto hG X56 hx (hb hby at_189) (pc' := 193) (by decide) (by decide) ?_
        exact e_retZ hGe X56 hx hrt hlk (hb hby at_193) (Or.inr rfl) eh56 (by decide) (by decide) (⟨rfl, NF56⟩)
      · skip
        refine g_iload hG X0 hx (hb hby at_92) (pc' := 94) rfl rfl ?_
        refine g_dload hG X0 hx (hb hby at_94) (pc' := 96) rfl rfl ?_
        refine g_dload hG X0 hx (hb hby at_96) (pc' := 98) rfl rfl ?_
        refine g_dload hG X0 hx (hb hby at_98) (pc' := 100) rfl rfl ?_
        refine g_dload hG X0 hx (hb hby at_100) (pc' := 102) rfl rfl ?_
        refine g_callS hG X0 hx hZ (y := (⟨"com/example/gauge_terms/gaugeterms/TopValuesPositionsPinLaw", "build", "(IDDDD)[D"⟩ : MethodName)) 0 hown (wd hw 1 rfl) (wd hw 2 rfl) (wd hw 3 rfl) (wd hw 4 rfl) (by decide) (rmBu3 l Z a0 hw [] al h0 n0 Zs) (by decide) (by decide) (by rw [hml]; rfl) pd_4 rfl (argsL := [(.int 3), (.double (al (0 : Int32))), (.double (al (1 : Int32))), (.double (al (2 : Int32))), (.double (al (3 : Int32)))]) (rest := []) rfl rfl (Nat.le_of_eq rfl) (hb hby at_102) e0 (by decide) (by decide) (pc' := 105) rfl ?_
        intro T57 rv57 L57 X57 hQ57
        obtain ⟨a, rfl, Nq57, Kq57, szq57, V_a⟩ := hQ57
        have NF57 := Fr.app NF0 Nq57
        have ge_a : n0 ≤ a := Nat.le_trans Zs szq57
        have Zs := Nat.le_trans Zs Kq57.1
        show G (T57.setTop (mkF m 105 _ [(.ref a)]))
        refine g_astore hG X57 hx (hb hby at_105) (pc' := 107) rfl rfl (Ls' := #[.val (.int i0), .val (.int i1), .val (.long i2), .second, .val (.int 3), .val (.int fg), .val (.long lim), .second, .val (.double (al (0 : Int32))), .second, .val (.double (al (1 : Int32))), .second, .val (.double (al (2 : Int32))), .second, .val (.double (al (3 : Int32))), .second, .val (.ref a), .unset, .unset]) rfl ?_
        refine g_lload hG X57 hx (hb hby at_107) (pc' := 109) rfl rfl ?_
        refine g_iload hG X57 hx (hb hby at_109) (pc' := 111) rfl rfl ?_
        obtain ⟨v111, q111⟩ : ∃ zz : Int64, (3 : Int32).toInt64 = zz := ⟨_, rfl⟩
        refine g_i2l hG X57 hx (hb hby at_111) (pc' := 112) rfl q111 ?_
        refine g_callS hG X57 hx hZ (y := (⟨"java/lang/Math", "min", "(JJ)J"⟩ : MethodName)) 0 hown (wd hw 6 rfl) (wd hw 7 rfl) (wd hw 8 rfl) (wd hw 9 rfl) (by decide) (rmMJ l Z a0 hw [] lim v111 r T57.heap n0 Zs (q111 ▸ hm)) (by decide) (by decide) (by rw [hml]; rfl) pd_0 rfl (argsL := [(.long lim), (.long v111)]) (rest := []) rfl rfl (Nat.le_of_eq rfl) (hb hby at_112) rfl (by decide) (by decide) (pc' := 115) rfl ?_
        intro T58 rv58 L58 X58 hQ58
        obtain ⟨rfl, Nq58, eh58⟩ := hQ58
        have NF58 := Fr.app NF57 Nq58
        show G (T58.setTop (mkF m 115 _ [(.long r)]))
        refine g_l2i hG X58 hx (hb hby at_115) (pc' := 116) rfl hk ?_
        refine g_istore hG X58 hx (hb hby at_116) (pc' := 118) rfl (Ls' := #[.val (.int i0), .val (.int i1), .val (.long i2), .second, .val (.int 3), .val (.int fg), .val (.long lim), .second, .val (.double (al (0 : Int32))), .second, .val (.double (al (1 : Int32))), .second, .val (.double (al (2 : Int32))), .second, .val (.double (al (3 : Int32))), .second, .val (.ref a), .val (.int 2), .unset]) rfl ?_
        refine g_aload hG X58 hx (hb hby at_118) (pc' := 120) rfl rfl rfl ?_
        refine g_lload hG X58 hx (hb hby at_120) (pc' := 122) rfl rfl ?_
        refine g_callS hG X58 hx hZ (y := (⟨"com/example/gauge_terms/gaugeterms/TopValues", "positions", "([DJ)[I"⟩ : MethodName)) 0 hown (wd hw 10 rfl) (wd hw 11 rfl) (wd hw 12 rfl) (wd hw 13 rfl) (by decide) (rmPos3_2 l Z a0 hw [] a al b01 b02 b03 b12 b13 b23 lim r T57.heap n0 Zs V_a TR BT hm hk) (by decide) (by decide) (by rw [hml]; rfl) pd_5 rfl (argsL := [(.ref a), (.long lim)]) (rest := []) rfl rfl (Nat.le_of_eq rfl) (hb hby at_122) eh58 (by decide) (by decide) (pc' := 125) rfl ?_
        intro T59 rv59 L59 X59 hQ59
        obtain ⟨ids, p0, p1, rfl, Nq59, Kq59, szq59, V_ids, HT⟩ := hQ59
        have NF59 := Fr.app NF58 Nq59
        have ne_a_ids : a ≠ ids := Nat.ne_of_lt (Nat.lt_of_lt_of_le V_a.lt szq59)
        have ge_ids : n0 ≤ ids := Nat.le_trans Zs szq59
        have V_a := V_a.keep Kq59 nin0
        have Zs := Nat.le_trans Zs Kq59.1
        show G (T59.setTop (mkF m 125 _ [(.ref ids)]))
        refine g_astore hG X59 hx (hb hby at_125) (pc' := 127) rfl rfl (Ls' := #[.val (.int i0), .val (.int i1), .val (.long i2), .second, .val (.int 3), .val (.int fg), .val (.long lim), .second, .val (.double (al (0 : Int32))), .second, .val (.double (al (1 : Int32))), .second, .val (.double (al (2 : Int32))), .second, .val (.double (al (3 : Int32))), .second, .val (.ref a), .val (.int 2), .val (.ref ids)]) rfl ?_
        refine g_aload hG X59 hx (hb hby at_127) (pc' := 129) rfl rfl rfl ?_
        refine g_ifnonnullYes hG X59 hx (hb hby at_129) (pc' := 134) (by decide) (by decide) ?_
        refine g_aload hG X59 hx (hb hby at_134) (pc' := 136) rfl rfl rfl ?_
        refine g_arraylength hG X59 hx hZ rfl V_ids (hb hby at_136) (pc' := 137) rfl ?_
        refine g_iload hG X59 hx (hb hby at_137) (pc' := 139) rfl rfl ?_
        refine g_icmpYes hG X59 hx (hb hby at_139) (pc' := 144) (by decide) (by decide) (by decide) ?_
        refine g_aload hG X59 hx (hb hby at_144) (pc' := 146) rfl rfl rfl ?_
        refine g_aload hG X59 hx (hb hby at_146) (pc' := 148) rfl rfl rfl ?_
        refine g_iconst hG X59 hx (hb hby at_148) (pc' := 149) rfl (v := (0 : Int32)) rfl ?_
        refine g_callS hG X59 hx hZ (y := (⟨"com/example/gauge_terms/gaugeterms/TopValuesPositionsPinLaw", "check", "([D[II)Z"⟩ : MethodName)) 0 hown (wd hw 23 rfl) (wd hw 24 rfl) (wd hw 3 rfl) (wd hw 25 rfl) (by decide) (rmCk3_2_0 l Z a0 hw [] a ids al (btB b01 b02 b03 b12 b13 b23) p0 p1 T59.heap n0 Zs V_a V_ids HT BT) (by decide) (by decide) (by rw [hml]; rfl) pd_6 rfl (argsL := [(.ref a), (.ref ids), (.int 0)]) (rest := []) rfl rfl (Nat.le_of_eq rfl) (hb hby at_149) rfl (by decide) (by decide) (pc' := 152) rfl ?_
        intro T60 rv60 L60 X60 hQ60
        obtain ⟨rfl, Nq60, eh60⟩ := hQ60
        have NF60 := Fr.app NF59 Nq60
        show G (T60.setTop (mkF m 152 _ [(.int 1)]))
        refine g_ifNo hG X60 hx (hb hby at_152) (pc' := 155) (by decide) rfl ?_
        refine g_aload hG X60 hx (hb hby at_155) (pc' := 157) rfl rfl rfl ?_
        refine g_aload hG X60 hx (hb hby at_157) (pc' := 159) rfl rfl rfl ?_
        refine g_iconst hG X60 hx (hb hby at_159) (pc' := 160) rfl (v := (1 : Int32)) rfl ?_
        refine g_callS hG X60 hx hZ (y := (⟨"com/example/gauge_terms/gaugeterms/TopValuesPositionsPinLaw", "check", "([D[II)Z"⟩ : MethodName)) 0 hown (wd hw 23 rfl) (wd hw 24 rfl) (wd hw 3 rfl) (wd hw 25 rfl) (by decide) (rmCk3_2_1 l Z a0 hw [] a ids al (btB b01 b02 b03 b12 b13 b23) p0 p1 T59.heap n0 Zs V_a V_ids HT BT) (by decide) (by decide) (by rw [hml]; rfl) pd_6 rfl (argsL := [(.ref a), (.ref ids), (.int 1)]) (rest := []) rfl rfl (Nat.le_of_eq rfl) (hb hby at_160) eh60 (by decide) (by decide) (pc' := 163) rfl ?_
        intro T61 rv61 L61 X61 hQ61
        obtain ⟨rfl, Nq61, eh61⟩ := hQ61
        have NF61 := Fr.app NF60 Nq61
        show G (T61.setTop (mkF m 163 _ [(.int 1)]))
        refine g_ifNo hG X61 hx (hb hby at_163) (pc' := 166) (by decide) rfl ?_
        refine g_aload hG X61 hx (hb hby at_166) (pc' := 168) rfl rfl rfl ?_
        refine g_aload hG X61 hx (hb hby at_168) (pc' := 170) rfl rfl rfl ?_
        refine g_iconst hG X61 hx (hb hby at_170) (pc' := 171) rfl (v := (2 : Int32)) rfl ?_
        refine g_callS hG X61 hx hZ (y := (⟨"com/example/gauge_terms/gaugeterms/TopValuesPositionsPinLaw", "check", "([D[II)Z"⟩ : MethodName)) 0 hown (wd hw 23 rfl) (wd hw 24 rfl) (wd hw 3 rfl) (wd hw 25 rfl) (by decide) (rmCz2_2 l Z a0 hw [] a ids p0 p1 T59.heap n0 Zs V_ids) (by decide) (by decide) (by rw [hml]; rfl) pd_6 rfl (argsL := [(.ref a), (.ref ids), (.int 2)]) (rest := []) rfl rfl (Nat.le_of_eq rfl) (hb hby at_171) eh61 (by decide) (by decide) (pc' := 174) rfl ?_
        intro T62 rv62 L62 X62 hQ62
        obtain ⟨rfl, Nq62, eh62⟩ := hQ62
        have NF62 := Fr.app NF61 Nq62
        show G (T62.setTop (mkF m 174 _ [(.int 1)]))
        refine g_ifNo hG X62 hx (hb hby at_174) (pc' := 177) (by decide) rfl ?_
        refine g_aload hG X62 hx (hb hby at_177) (pc' := 179) rfl rfl rfl ?_
        refine g_aload hG X62 hx (hb hby at_179) (pc' := 181) rfl rfl rfl ?_
        refine g_iconst hG X62 hx (hb hby at_181) (pc' := 182) rfl (v := (3 : Int32)) rfl ?_
        refine g_callS hG X62 hx hZ (y := (⟨"com/example/gauge_terms/gaugeterms/TopValuesPositionsPinLaw", "check", "([D[II)Z"⟩ : MethodName)) 0 hown (wd hw 23 rfl) (wd hw 24 rfl) (wd hw 3 rfl) (wd hw 25 rfl) (by decide) (rmCz2_3 l Z a0 hw [] a ids p0 p1 T59.heap n0 Zs V_ids) (by decide) (by decide) (by rw [hml]; rfl) pd_6 rfl (argsL := [(.ref a), (.ref ids), (.int 3)]) (rest := []) rfl rfl (Nat.le_of_eq rfl) (hb hby at_182) eh62 (by decide) (by decide) (pc' := 185) rfl ?_
        intro T63 rv63 L63 X63 hQ63
        obtain ⟨rfl, Nq63, eh63⟩ := hQ63
        have NF63 := Fr.app NF62 Nq63
        show G (T63.setTop (mkF m 185 _ [(.int 1)]))
        refine g_ifNo hG X63 hx (hb hby at_185) (pc' := 188) (by decide) rfl ?_
        refine g_iconst hG X63 hx (hb hby at_188) (pc' := 189) rfl (v := (1 : Int32)) rfl ?_
        refine g_goto hG X63 hx (hb hby at_189) (pc' := 193) (by decide) (by decide) ?_
        exact e_retZ hGe X63 hx hrt hlk (hb hby at_193) (Or.inr rfl) eh63 (by decide) (by decide) (⟨rfl, NF63⟩)
      · skip
        refine g_iload hG X0 hx (hb hby at_92) (pc' := 94) rfl rfl ?_
        refine g_dload hG X0 hx (hb hby at_94) (pc' := 96) rfl rfl ?_
        refine g_dload hG X0 hx (hb hby at_96) (pc' := 98) rfl rfl ?_
        refine g_dload hG X0 hx (hb hby at_98) (pc' := 100) rfl rfl ?_
        refine g_dload hG X0 hx (hb hby at_100) (pc' := 102) rfl rfl ?_
        refine g_callS hG X0 hx hZ (y := (⟨"com/example/gauge_terms/gaugeterms/TopValuesPositionsPinLaw", "build", "(IDDDD)[D"⟩ : MethodName)) 0 hown (wd hw 1 rfl) (wd hw 2 rfl) (wd hw 3 rfl) (wd hw 4 rfl) (by decide) (rmBu3 l Z a0 hw [] al h0 n0 Zs) (by decide) (by decide) (by rw [hml]; rfl) pd_4 rfl (argsL := [(.int 3), (.double (al (0 : Int32))), (.double (al (1 : Int32))), (.double (al (2 : Int32))), (.double (al (3 : Int32)))]) (rest := []) rfl rfl (Nat.le_of_eq rfl) (hb hby at_102) e0 (by decide) (by decide) (pc' := 105) rfl ?_
        intro T64 rv64 L64 X64 hQ64
        obtain ⟨a, rfl, Nq64, Kq64, szq64, V_a⟩ := hQ64
        have NF64 := Fr.app NF0 Nq64
        have ge_a : n0 ≤ a := Nat.le_trans Zs szq64
        have Zs := Nat.le_trans Zs Kq64.1
        show G (T64.setTop (mkF m 105 _ [(.ref a)]))
        refine g_astore hG X64 hx (hb hby at_105) (pc' := 107) rfl rfl (Ls' := #[.val (.int i0), .val (.int i1), .val (.long i2), .second, .val (.int 3), .val (.int fg), .val (.long lim), .second, .val (.double (al (0 : Int32))), .second, .val (.double (al (1 : Int32))), .second, .val (.double (al (2 : Int32))), .second, .val (.double (al (3 : Int32))), .second, .val (.ref a), .unset, .unset]) rfl ?_
        refine g_lload hG X64 hx (hb hby at_107) (pc' := 109) rfl rfl ?_
        refine g_iload hG X64 hx (hb hby at_109) (pc' := 111) rfl rfl ?_
        obtain ⟨v111, q111⟩ : ∃ zz : Int64, (3 : Int32).toInt64 = zz := ⟨_, rfl⟩
        refine g_i2l hG X64 hx (hb hby at_111) (pc' := 112) rfl q111 ?_
        refine g_callS hG X64 hx hZ (y := (⟨"java/lang/Math", "min", "(JJ)J"⟩ : MethodName)) 0 hown (wd hw 6 rfl) (wd hw 7 rfl) (wd hw 8 rfl) (wd hw 9 rfl) (by decide) (rmMJ l Z a0 hw [] lim v111 r T64.heap n0 Zs (q111 ▸ hm)) (by decide) (by decide) (by rw [hml]; rfl) pd_0 rfl (argsL := [(.long lim), (.long v111)]) (rest := []) rfl rfl (Nat.le_of_eq rfl) (hb hby at_112) rfl (by decide) (by decide) (pc' := 115) rfl ?_
        intro T65 rv65 L65 X65 hQ65
        obtain ⟨rfl, Nq65, eh65⟩ := hQ65
        have NF65 := Fr.app NF64 Nq65
        show G (T65.setTop (mkF m 115 _ [(.long r)]))
        refine g_l2i hG X65 hx (hb hby at_115) (pc' := 116) rfl hk ?_
        refine g_istore hG X65 hx (hb hby at_116) (pc' := 118) rfl (Ls' := #[.val (.int i0), .val (.int i1), .val (.long i2), .second, .val (.int 3), .val (.int fg), .val (.long lim), .second, .val (.double (al (0 : Int32))), .second, .val (.double (al (1 : Int32))), .second, .val (.double (al (2 : Int32))), .second, .val (.double (al (3 : Int32))), .second, .val (.ref a), .val (.int 3), .unset]) rfl ?_
        refine g_aload hG X65 hx (hb hby at_118) (pc' := 120) rfl rfl rfl ?_
        refine g_lload hG X65 hx (hb hby at_120) (pc' := 122) rfl rfl ?_
        refine g_callS hG X65 hx hZ (y := (⟨"com/example/gauge_terms/gaugeterms/TopValues", "positions", "([DJ)[I"⟩ : MethodName)) 0 hown (wd hw 10 rfl) (wd hw 11 rfl) (wd hw 12 rfl) (wd hw 13 rfl) (by decide) (rmPos3_3 l Z a0 hw [] a al b01 b02 b03 b12 b13 b23 lim r T64.heap n0 Zs V_a TR BT hm hk) (by decide) (by decide) (by rw [hml]; rfl) pd_5 rfl (argsL := [(.ref a), (.long lim)]) (rest := []) rfl rfl (Nat.le_of_eq rfl) (hb hby at_122) eh65 (by decide) (by decide) (pc' := 125) rfl ?_
        intro T66 rv66 L66 X66 hQ66
        obtain ⟨ids, p0, p1, p2, rfl, Nq66, Kq66, szq66, V_ids, HT⟩ := hQ66
        have NF66 := Fr.app NF65 Nq66
        have ne_a_ids : a ≠ ids := Nat.ne_of_lt (Nat.lt_of_lt_of_le V_a.lt szq66)
        have ge_ids : n0 ≤ ids := Nat.le_trans Zs szq66
        have V_a := V_a.keep Kq66 nin0
        have Zs := Nat.le_trans Zs Kq66.1
        show G (T66.setTop (mkF m 125 _ [(.ref ids)]))
        refine g_astore hG X66 hx (hb hby at_125) (pc' := 127) rfl rfl (Ls' := #[.val (.int i0), .val (.int i1), .val (.long i2), .second, .val (.int 3), .val (.int fg), .val (.long lim), .second, .val (.double (al (0 : Int32))), .second, .val (.double (al (1 : Int32))), .second, .val (.double (al (2 : Int32))), .second, .val (.double (al (3 : Int32))), .second, .val (.ref a), .val (.int 3), .val (.ref ids)]) rfl ?_
        refine g_aload hG X66 hx (hb hby at_127) (pc' := 129) rfl rfl rfl ?_
        refine g_ifnonnullYes hG X66 hx (hb hby at_129) (pc' := 134) (by decide) (by decide) ?_
        refine g_aload hG X66 hx (hb hby at_134) (pc' := 136) rfl rfl rfl ?_
        refine g_arraylength hG X66 hx hZ rfl V_ids (hb hby at_136) (pc' := 137) rfl ?_
        refine g_iload hG X66 hx (hb hby at_137) (pc' := 139) rfl rfl ?_
        refine g_icmpYes hG X66 hx (hb hby at_139) (pc' := 144) (by decide) (by decide) (by decide) ?_
        refine g_aload hG X66 hx (hb hby at_144) (pc' := 146) rfl rfl rfl ?_
        refine g_aload hG X66 hx (hb hby at_146) (pc' := 148) rfl rfl rfl ?_
        refine g_iconst hG X66 hx (hb hby at_148) (pc' := 149) rfl (v := (0 : Int32)) rfl ?_
        refine g_callS hG X66 hx hZ (y := (⟨"com/example/gauge_terms/gaugeterms/TopValuesPositionsPinLaw", "check", "([D[II)Z"⟩ : MethodName)) 0 hown (wd hw 23 rfl) (wd hw 24 rfl) (wd hw 3 rfl) (wd hw 25 rfl) (by decide) (rmCk3_3_0 l Z a0 hw [] a ids al (btB b01 b02 b03 b12 b13 b23) p0 p1 p2 T66.heap n0 Zs V_a V_ids HT BT) (by decide) (by decide) (by rw [hml]; rfl) pd_6 rfl (argsL := [(.ref a), (.ref ids), (.int 0)]) (rest := []) rfl rfl (Nat.le_of_eq rfl) (hb hby at_149) rfl (by decide) (by decide) (pc' := 152) rfl ?_
        intro T67 rv67 L67 X67 hQ67
        obtain ⟨rfl, Nq67, eh67⟩ := hQ67
        have NF67 := Fr.app NF66 Nq67
        show G (T67.setTop (mkF m 152 _ [(.int 1)]))
        refine g_ifNo hG X67 hx (hb hby at_152) (pc' := 155) (by decide) rfl ?_
        refine g_aload hG X67 hx (hb hby at_155) (pc' := 157) rfl rfl rfl ?_
        refine g_aload hG X67 hx (hb hby at_157) (pc' := 159) rfl rfl rfl ?_
        refine g_iconst hG X67 hx (hb hby at_159) (pc' := 160) rfl (v := (1 : Int32)) rfl ?_
        refine g_callS hG X67 hx hZ (y := (⟨"com/example/gauge_terms/gaugeterms/TopValuesPositionsPinLaw", "check", "([D[II)Z"⟩ : MethodName)) 0 hown (wd hw 23 rfl) (wd hw 24 rfl) (wd hw 3 rfl) (wd hw 25 rfl) (by decide) (rmCk3_3_1 l Z a0 hw [] a ids al (btB b01 b02 b03 b12 b13 b23) p0 p1 p2 T66.heap n0 Zs V_a V_ids HT BT) (by decide) (by decide) (by rw [hml]; rfl) pd_6 rfl (argsL := [(.ref a), (.ref ids), (.int 1)]) (rest := []) rfl rfl (Nat.le_of_eq rfl) (hb hby at_160) eh67 (by decide) (by decide) (pc' := 163) rfl ?_
        intro T68 rv68 L68 X68 hQ68
        obtain ⟨rfl, Nq68, eh68⟩ := hQ68
        have NF68 := Fr.app NF67 Nq68
        show G (T68.setTop (mkF m 163 _ [(.int 1)]))
        refine g_ifNo hG X68 hx (hb hby at_163) (pc' := 166) (by decide) rfl ?_
        refine g_aload hG X68 hx (hb hby at_166) (pc' := 168) rfl rfl rfl ?_
        refine g_aload hG X68 hx (hb hby at_168) (pc' := 170) rfl rfl rfl ?_
        refine g_iconst hG X68 hx (hb hby at_170) (pc' := 171) rfl (v := (2 : Int32)) rfl ?_
        refine g_callS hG X68 hx hZ (y := (⟨"com/example/gauge_terms/gaugeterms/TopValuesPositionsPinLaw", "check", "([D[II)Z"⟩ : MethodName)) 0 hown (wd hw 23 rfl) (wd hw 24 rfl) (wd hw 3 rfl) (wd hw 25 rfl) (by decide) (rmCk3_3_2 l Z a0 hw [] a ids al (btB b01 b02 b03 b12 b13 b23) p0 p1 p2 T66.heap n0 Zs V_a V_ids HT BT) (by decide) (by decide) (by rw [hml]; rfl) pd_6 rfl (argsL := [(.ref a), (.ref ids), (.int 2)]) (rest := []) rfl rfl (Nat.le_of_eq rfl) (hb hby at_171) eh68 (by decide) (by decide) (pc' := 174) rfl ?_
        intro T69 rv69 L69 X69 hQ69
        obtain ⟨rfl, Nq69, eh69⟩ := hQ69
        have NF69 := Fr.app NF68 Nq69
        show G (T69.setTop (mkF m 174 _ [(.int 1)]))
        refine g_ifNo hG X69 hx (hb hby at_174) (pc' := 177) (by decide) rfl ?_
        refine g_aload hG X69 hx (hb hby at_177) (pc' := 179) rfl rfl rfl ?_
        refine g_aload hG X69 hx (hb hby at_179) (pc' := 181) rfl rfl rfl ?_
        refine g_iconst hG X69 hx (hb hby at_181) (pc' := 182) rfl (v := (3 : Int32)) rfl ?_
        refine g_callS hG X69 hx hZ (y := (⟨"com/example/gauge_terms/gaugeterms/TopValuesPositionsPinLaw", "check", "([D[II)Z"⟩ : MethodName)) 0 hown (wd hw 23 rfl) (wd hw 24 rfl) (wd hw 3 rfl) (wd hw 25 rfl) (by decide) (rmCz3_3 l Z a0 hw [] a ids p0 p1 p2 T66.heap n0 Zs V_ids) (by decide) (by decide) (by rw [hml]; rfl) pd_6 rfl (argsL := [(.ref a), (.ref ids), (.int 3)]) (rest := []) rfl rfl (Nat.le_of_eq rfl) (hb hby at_182) eh69 (by decide) (by decide) (pc' := 185) rfl ?_
        intro T70 rv70 L70 X70 hQ70
        obtain ⟨rfl, Nq70, eh70⟩ := hQ70
        have NF70 := Fr.app NF69 Nq70
        show G (T70.setTop (mkF m 185 _ [(.int 1)]))
        refine g_ifNo hG X70 hx (hb hby at_185) (pc' := 188) (by decide) rfl ?_
        refine g_iconst hG X70 hx (hb hby at_188) (pc' := 189) rfl (v := (1 : Int32)) rfl ?_
        refine g_goto hG X70 hx (hb hby at_189) (pc' := 193) (by decide) (by decide) ?_
        exact e_retZ hGe X70 hx hrt hlk (hb hby at_193) (Or.inr rfl) eh70 (by decide) (by decide) (⟨rfl, NF70⟩)
      · skip
        refine g_iload hG X0 hx (hb hby at_92) (pc' := 94) rfl rfl ?_
        refine g_dload hG X0 hx (hb hby at_94) (pc' := 96) rfl rfl ?_
        refine g_dload hG X0 hx (hb hby at_96) (pc' := 98) rfl rfl ?_
        refine g_dload hG X0 hx (hb hby at_98) (pc' := 100) rfl rfl ?_
        refine g_dload hG X0 hx (hb hby at_100) (pc' := 102) rfl rfl ?_
        refine g_callS hG X0 hx hZ (y := (⟨"com/example/gauge_terms/gaugeterms/TopValuesPositionsPinLaw", "build", "(IDDDD)[D"⟩ : MethodName)) 0 hown (wd hw 1 rfl) (wd hw 2 rfl) (wd hw 3 rfl) (wd hw 4 rfl) (by decide) (rmBu4 l Z a0 hw [] al h0 n0 Zs) (by decide) (by decide) (by rw [hml]; rfl) pd_4 rfl (argsL := [(.int 4), (.double (al (0 : Int32))), (.double (al (1 : Int32))), (.double (al (2 : Int32))), (.double (al (3 : Int32)))]) (rest := []) rfl rfl (Nat.le_of_eq rfl) (hb hby at_102) e0 (by decide) (by decide) (pc' := 105) rfl ?_
        intro T71 rv71 L71 X71 hQ71
        obtain ⟨a, rfl, Nq71, Kq71, szq71, V_a⟩ := hQ71
        have NF71 := Fr.app NF0 Nq71
        have ge_a : n0 ≤ a := Nat.le_trans Zs szq71
        have Zs := Nat.le_trans Zs Kq71.1
        show G (T71.setTop (mkF m 105 _ [(.ref a)]))
        refine g_astore hG X71 hx (hb hby at_105) (pc' := 107) rfl rfl (Ls' := #[.val (.int i0), .val (.int i1), .val (.long i2), .second, .val (.int 4), .val (.int fg), .val (.long lim), .second, .val (.double (al (0 : Int32))), .second, .val (.double (al (1 : Int32))), .second, .val (.double (al (2 : Int32))), .second, .val (.double (al (3 : Int32))), .second, .val (.ref a), .unset, .unset]) rfl ?_
        refine g_lload hG X71 hx (hb hby at_107) (pc' := 109) rfl rfl ?_
        refine g_iload hG X71 hx (hb hby at_109) (pc' := 111) rfl rfl ?_
        obtain ⟨v111, q111⟩ : ∃ zz : Int64, (4 : Int32).toInt64 = zz := ⟨_, rfl⟩
        refine g_i2l hG X71 hx (hb hby at_111) (pc' := 112) rfl q111 ?_
        refine g_callS hG X71 hx hZ (y := (⟨"java/lang/Math", "min", "(JJ)J"⟩ : MethodName)) 0 hown (wd hw 6 rfl) (wd hw 7 rfl) (wd hw 8 rfl) (wd hw 9 rfl) (by decide) (rmMJ l Z a0 hw [] lim v111 r T71.heap n0 Zs (q111 ▸ hm)) (by decide) (by decide) (by rw [hml]; rfl) pd_0 rfl (argsL := [(.long lim), (.long v111)]) (rest := []) rfl rfl (Nat.le_of_eq rfl) (hb hby at_112) rfl (by decide) (by decide) (pc' := 115) rfl ?_
        intro T72 rv72 L72 X72 hQ72
        obtain ⟨rfl, Nq72, eh72⟩ := hQ72
        have NF72 := Fr.app NF71 Nq72
        show G (T72.setTop (mkF m 115 _ [(.long r)]))
        refine g_l2i hG X72 hx (hb hby at_115) (pc' := 116) rfl hk ?_
        refine g_istore hG X72 hx (hb hby at_116) (pc' := 118) rfl (Ls' := #[.val (.int i0), .val (.int i1), .val (.long i2), .second, .val (.int 4), .val (.int fg), .val (.long lim), .second, .val (.double (al (0 : Int32))), .second, .val (.double (al (1 : Int32))), .second, .val (.double (al (2 : Int32))), .second, .val (.double (al (3 : Int32))), .second, .val (.ref a), .val (.int 0), .unset]) rfl ?_
        refine g_aload hG X72 hx (hb hby at_118) (pc' := 120) rfl rfl rfl ?_
        refine g_lload hG X72 hx (hb hby at_120) (pc' := 122) rfl rfl ?_
        refine g_callS hG X72 hx hZ (y := (⟨"com/example/gauge_terms/gaugeterms/TopValues", "positions", "([DJ)[I"⟩ : MethodName)) 0 hown (wd hw 10 rfl) (wd hw 11 rfl) (wd hw 12 rfl) (wd hw 13 rfl) (by decide) (rmPos4_0 l Z a0 hw [] a al b01 b02 b03 b12 b13 b23 lim r T71.heap n0 Zs V_a TR BT hm hk) (by decide) (by decide) (by rw [hml]; rfl) pd_5 rfl (argsL := [(.ref a), (.long lim)]) (rest := []) rfl rfl (Nat.le_of_eq rfl) (hb hby at_122) eh72 (by decide) (by decide) (pc' := 125) rfl ?_
        intro T73 rv73 L73 X73 hQ73
        obtain ⟨ids, rfl, Nq73, Kq73, szq73, V_ids, HT⟩ := hQ73
        have NF73 := Fr.app NF72 Nq73
        have ne_a_ids : a ≠ ids := Nat.ne_of_lt (Nat.lt_of_lt_of_le V_a.lt szq73)
        have ge_ids : n0 ≤ ids := Nat.le_trans Zs szq73
        have V_a := V_a.keep Kq73 nin0
        have Zs := Nat.le_trans Zs Kq73.1
        show G (T73.setTop (mkF m 125 _ [(.ref ids)]))
        refine g_astore hG X73 hx (hb hby at_125) (pc' := 127) rfl rfl (Ls' := #[.val (.int i0), .val (.int i1), .val (.long i2), .second, .val (.int 4), .val (.int fg), .val (.long lim), .second, .val (.double (al (0 : Int32))), .second, .val (.double (al (1 : Int32))), .second, .val (.double (al (2 : Int32))), .second, .val (.double (al (3 : Int32))), .second, .val (.ref a), .val (.int 0), .val (.ref ids)]) rfl ?_
        refine g_aload hG X73 hx (hb hby at_127) (pc' := 129) rfl rfl rfl ?_
        refine g_ifnonnullYes hG X73 hx (hb hby at_129) (pc' := 134) (by decide) (by decide) ?_
        refine g_aload hG X73 hx (hb hby at_134) (pc' := 136) rfl rfl rfl ?_
        refine g_arraylength hG X73 hx hZ rfl V_ids (hb hby at_136) (pc' := 137) rfl ?_
        refine g_iload hG X73 hx (hb hby at_137) (pc' := 139) rfl rfl ?_
        refine g_icmpYes hG X73 hx (hb hby at_139) (pc' := 144) (by decide) (by decide) (by decide) ?_
        refine g_aload hG X73 hx (hb hby at_144) (pc' := 146) rfl rfl rfl ?_
        refine g_aload hG X73 hx (hb hby at_146) (pc' := 148) rfl rfl rfl ?_
        refine g_iconst hG X73 hx (hb hby at_148) (pc' := 149) rfl (v := (0 : Int32)) rfl ?_
        refine g_callS hG X73 hx hZ (y := (⟨"com/example/gauge_terms/gaugeterms/TopValuesPositionsPinLaw", "check", "([D[II)Z"⟩ : MethodName)) 0 hown (wd hw 23 rfl) (wd hw 24 rfl) (wd hw 3 rfl) (wd hw 25 rfl) (by decide) (rmCz0_0 l Z a0 hw [] a ids  T73.heap n0 Zs V_ids) (by decide) (by decide) (by rw [hml]; rfl) pd_6 rfl (argsL := [(.ref a), (.ref ids), (.int 0)]) (rest := []) rfl rfl (Nat.le_of_eq rfl) (hb hby at_149) rfl (by decide) (by decide) (pc' := 152) rfl ?_
        intro T74 rv74 L74 X74 hQ74
        obtain ⟨rfl, Nq74, eh74⟩ := hQ74
        have NF74 := Fr.app NF73 Nq74
        show G (T74.setTop (mkF m 152 _ [(.int 1)]))
        refine g_ifNo hG X74 hx (hb hby at_152) (pc' := 155) (by decide) rfl ?_
        refine g_aload hG X74 hx (hb hby at_155) (pc' := 157) rfl rfl rfl ?_
        refine g_aload hG X74 hx (hb hby at_157) (pc' := 159) rfl rfl rfl ?_
        refine g_iconst hG X74 hx (hb hby at_159) (pc' := 160) rfl (v := (1 : Int32)) rfl ?_
        refine g_callS hG X74 hx hZ (y := (⟨"com/example/gauge_terms/gaugeterms/TopValuesPositionsPinLaw", "check", "([D[II)Z"⟩ : MethodName)) 0 hown (wd hw 23 rfl) (wd hw 24 rfl) (wd hw 3 rfl) (wd hw 25 rfl) (by decide) (rmCz0_1 l Z a0 hw [] a ids  T73.heap n0 Zs V_ids) (by decide) (by decide) (by rw [hml]; rfl) pd_6 rfl (argsL := [(.ref a), (.ref ids), (.int 1)]) (rest := []) rfl rfl (Nat.le_of_eq rfl) (hb hby at_160) eh74 (by decide) (by decide) (pc' := 163) rfl ?_
        intro T75 rv75 L75 X75 hQ75
        obtain ⟨rfl, Nq75, eh75⟩ := hQ75
        have NF75 := Fr.app NF74 Nq75
        show G (T75.setTop (mkF m 163 _ [(.int 1)]))
        refine g_ifNo hG X75 hx (hb hby at_163) (pc' := 166) (by decide) rfl ?_
        refine g_aload hG X75 hx (hb hby at_166) (pc' := 168) rfl rfl rfl ?_
        refine g_aload hG X75 hx (hb hby at_168) (pc' := 170) rfl rfl rfl ?_
        refine g_iconst hG X75 hx (hb hby at_170) (pc' := 171) rfl (v := (2 : Int32)) rfl ?_
        refine g_callS hG X75 hx hZ (y := (⟨"com/example/gauge_terms/gaugeterms/TopValuesPositionsPinLaw", "check", "([D[II)Z"⟩ : MethodName)) 0 hown (wd hw 23 rfl) (wd hw 24 rfl) (wd hw 3 rfl) (wd hw 25 rfl) (by decide) (rmCz0_2 l Z a0 hw [] a ids  T73.heap n0 Zs V_ids) (by decide) (by decide) (by rw [hml]; rfl) pd_6 rfl (argsL := [(.ref a), (.ref ids), (.int 2)]) (rest := []) rfl rfl (Nat.le_of_eq rfl) (hb hby at_171) eh75 (by decide) (by decide) (pc' := 174) rfl ?_
        intro T76 rv76 L76 X76 hQ76
        obtain ⟨rfl, Nq76, eh76⟩ := hQ76
        have NF76 := Fr.app NF75 Nq76
        show G (T76.setTop (mkF m 174 _ [(.int 1)]))
        refine g_ifNo hG X76 hx (hb hby at_174) (pc' := 177) (by decide) rfl ?_
        refine g_aload hG X76 hx (hb hby at_177) (pc' := 179) rfl rfl rfl ?_
        refine g_aload hG X76 hx (hb hby at_179) (pc' := 181) rfl rfl rfl ?_
        refine g_iconst hG X76 hx (hb hby at_181) (pc' := 182) rfl (v := (3 : Int32)) rfl ?_
        refine g_callS hG X76 hx hZ (y := (⟨"com/example/gauge_terms/gaugeterms/TopValuesPositionsPinLaw", "check", "([D[II)Z"⟩ : MethodName)) 0 hown (wd hw 23 rfl) (wd hw 24 rfl) (wd hw 3 rfl) (wd hw 25 rfl) (by decide) (rmCz0_3 l Z a0 hw [] a ids  T73.heap n0 Zs V_ids) (by decide) (by decide) (by rw [hml]; rfl) pd_6 rfl (argsL := [(.ref a), (.ref ids), (.int 3)]) (rest := []) rfl rfl (Nat.le_of_eq rfl) (hb hby at_182) eh76 (by decide) (by decide) (pc' := 185) rfl ?_
        intro T77 rv77 L77 X77 hQ77
        obtain ⟨rfl, Nq77, eh77⟩ := hQ77
        have NF77 := Fr.app NF76 Nq77
        show G (T77.setTop (mkF m 185 _ [(.int 1)]))
        refine g_ifNo hG X77 hx (hb hby at_185) (pc' := 188) (by decide) rfl ?_
        refine g_iconst hG X77 hx (hb hby at_188) (pc' := 189) rfl (v := (1 : Int32)) rfl ?_
        refine g_goto hG X77 hx (hb hby at_189) (pc' := 193) (by decide) (by decide) ?_
        exact e_retZ hGe X77 hx hrt hlk (hb hby at_193) (Or.inr rfl) eh77 (by decide) (by decide) (⟨rfl, NF77⟩)
      · skip
        refine g_iload hG X0 hx (hb hby at_92) (pc' := 94) rfl rfl ?_
        refine g_dload hG X0 hx (hb hby at_94) (pc' := 96) rfl rfl ?_
        refine g_dload hG X0 hx (hb hby at_96) (pc' := 98) rfl rfl ?_
        refine g_dload hG X0 hx (hb hby at_98) (pc' := 100) rfl rfl ?_
        refine g_dload hG X0 hx (hb hby at_100) (pc' := 102) rfl rfl ?_
        refine g_callS hG X0 hx hZ (y := (⟨"com/example/gauge_terms/gaugeterms/TopValuesPositionsPinLaw", "build", "(IDDDD)[D"⟩ : MethodName)) 0 hown (wd hw 1 rfl) (wd hw 2 rfl) (wd hw 3 rfl) (wd hw 4 rfl) (by decide) (rmBu4 l Z a0 hw [] al h0 n0 Zs) (by decide) (by decide) (by rw [hml]; rfl) pd_4 rfl (argsL := [(.int 4), (.double (al (0 : Int32))), (.double (al (1 : Int32))), (.double (al (2 : Int32))), (.double (al (3 : Int32)))]) (rest := []) rfl rfl (Nat.le_of_eq rfl) (hb hby at_102) e0 (by decide) (by decide) (pc' := 105) rfl ?_
        intro T78 rv78 L78 X78 hQ78
        obtain ⟨a, rfl, Nq78, Kq78, szq78, V_a⟩ := hQ78
        have NF78 := Fr.app NF0 Nq78
        have ge_a : n0 ≤ a := Nat.le_trans Zs szq78
        have Zs := Nat.le_trans Zs Kq78.1
        show G (T78.setTop (mkF m 105 _ [(.ref a)]))
        refine g_astore hG X78 hx (hb hby at_105) (pc' := 107) rfl rfl (Ls' := #[.val (.int i0), .val (.int i1), .val (.long i2), .second, .val (.int 4), .val (.int fg), .val (.long lim), .second, .val (.double (al (0 : Int32))), .second, .val (.double (al (1 : Int32))), .second, .val (.double (al (2 : Int32))), .second, .val (.double (al (3 : Int32))), .second, .val (.ref a), .unset, .unset]) rfl ?_
        refine g_lload hG X78 hx (hb hby at_107) (pc' := 109) rfl rfl ?_
        refine g_iload hG X78 hx (hb hby at_109) (pc' := 111) rfl rfl ?_
        obtain ⟨v111, q111⟩ : ∃ zz : Int64, (4 : Int32).toInt64 = zz := ⟨_, rfl⟩
        refine g_i2l hG X78 hx (hb hby at_111) (pc' := 112) rfl q111 ?_
        refine g_callS hG X78 hx hZ (y := (⟨"java/lang/Math", "min", "(JJ)J"⟩ : MethodName)) 0 hown (wd hw 6 rfl) (wd hw 7 rfl) (wd hw 8 rfl) (wd hw 9 rfl) (by decide) (rmMJ l Z a0 hw [] lim v111 r T78.heap n0 Zs (q111 ▸ hm)) (by decide) (by decide) (by rw [hml]; rfl) pd_0 rfl (argsL := [(.long lim), (.long v111)]) (rest := []) rfl rfl (Nat.le_of_eq rfl) (hb hby at_112) rfl (by decide) (by decide) (pc' := 115) rfl ?_
        intro T79 rv79 L79 X79 hQ79
        obtain ⟨rfl, Nq79, eh79⟩ := hQ79
        have NF79 := Fr.app NF78 Nq79
        show G (T79.setTop (mkF m 115 _ [(.long r)]))
        refine g_l2i hG X79 hx (hb hby at_115) (pc' := 116) rfl hk ?_
        refine g_istore hG X79 hx (hb hby at_116) (pc' := 118) rfl (Ls' := #[.val (.int i0), .val (.int i1), .val (.long i2), .second, .val (.int 4), .val (.int fg), .val (.long lim), .second, .val (.double (al (0 : Int32))), .second, .val (.double (al (1 : Int32))), .second, .val (.double (al (2 : Int32))), .second, .val (.double (al (3 : Int32))), .second, .val (.ref a), .val (.int 1), .unset]) rfl ?_
        refine g_aload hG X79 hx (hb hby at_118) (pc' := 120) rfl rfl rfl ?_
        refine g_lload hG X79 hx (hb hby at_120) (pc' := 122) rfl rfl ?_
        refine g_callS hG X79 hx hZ (y := (⟨"com/example/gauge_terms/gaugeterms/TopValues", "positions", "([DJ)[I"⟩ : MethodName)) 0 hown (wd hw 10 rfl) (wd hw 11 rfl) (wd hw 12 rfl) (wd hw 13 rfl) (by decide) (rmPos4_1 l Z a0 hw [] a al b01 b02 b03 b12 b13 b23 lim r T78.heap n0 Zs V_a TR BT hm hk) (by decide) (by decide) (by rw [hml]; rfl) pd_5 rfl (argsL := [(.ref a), (.long lim)]) (rest := []) rfl rfl (Nat.le_of_eq rfl) (hb hby at_122) eh79 (by decide) (by decide) (pc' := 125) rfl ?_
        intro T80 rv80 L80 X80 hQ80
        obtain ⟨ids, p0, rfl, Nq80, Kq80, szq80, V_ids, HT⟩ := hQ80
        have NF80 := Fr.app NF79 Nq80
        have ne_a_ids : a ≠ ids := Nat.ne_of_lt (Nat.lt_of_lt_of_le V_a.lt szq80)
        have ge_ids : n0 ≤ ids := Nat.le_trans Zs szq80
        have V_a := V_a.keep Kq80 nin0
        have Zs := Nat.le_trans Zs Kq80.1
        show G (T80.setTop (mkF m 125 _ [(.ref ids)]))
        refine g_astore hG X80 hx (hb hby at_125) (pc' := 127) rfl rfl (Ls' := #[.val (.int i0), .val (.int i1), .val (.long i2), .second, .val (.int 4), .val (.int fg), .val (.long lim), .second, .val (.double (al (0 : Int32))), .second, .val (.double (al (1 : Int32))), .second, .val (.double (al (2 : Int32))), .second, .val (.double (al (3 : Int32))), .second, .val (.ref a), .val (.int 1), .val (.ref ids)]) rfl ?_
        refine g_aload hG X80 hx (hb hby at_127) (pc' := 129) rfl rfl rfl ?_
        refine g_ifnonnullYes hG X80 hx (hb hby at_129) (pc' := 134) (by decide) (by decide) ?_
        refine g_aload hG X80 hx (hb hby at_134) (pc' := 136) rfl rfl rfl ?_
        refine g_arraylength hG X80 hx hZ rfl V_ids (hb hby at_136) (pc' := 137) rfl ?_
        refine g_iload hG X80 hx (hb hby at_137) (pc' := 139) rfl rfl ?_
        refine g_icmpYes hG X80 hx (hb hby at_139) (pc' := 144) (by decide) (by decide) (by decide) ?_
        refine g_aload hG X80 hx (hb hby at_144) (pc' := 146) rfl rfl rfl ?_
        refine g_aload hG X80 hx (hb hby at_146) (pc' := 148) rfl rfl rfl ?_
        refine g_iconst hG X80 hx (hb hby at_148) (pc' := 149) rfl (v := (0 : Int32)) rfl ?_
        refine g_callS hG X80 hx hZ (y := (⟨"com/example/gauge_terms/gaugeterms/TopValuesPositionsPinLaw", "check", "([D[II)Z"⟩ : MethodName)) 0 hown (wd hw 23 rfl) (wd hw 24 rfl) (wd hw 3 rfl) (wd hw 25 rfl) (by decide) (rmCk4_1_0 l Z a0 hw [] a ids al (btB b01 b02 b03 b12 b13 b23) p0 T80.heap n0 Zs V_a V_ids HT BT) (by decide) (by decide) (by rw [hml]; rfl) pd_6 rfl (argsL := [(.ref a), (.ref ids), (.int 0)]) (rest := []) rfl rfl (Nat.le_of_eq rfl) (hb hby at_149) rfl (by decide) (by decide) (pc' := 152) rfl ?_
        intro T81 rv81 L81 X81 hQ81
        obtain ⟨rfl, Nq81, eh81⟩ := hQ81
        have NF81 := Fr.app NF80 Nq81
        show G (T81.setTop (mkF m 152 _ [(.int 1)]))
        refine g_ifNo hG X81 hx (hb hby at_152) (pc' := 155) (by decide) rfl ?_
        refine g_aload hG X81 hx (hb hby at_155) (pc' := 157) rfl rfl rfl ?_
        refine g_aload hG X81 hx (hb hby at_157) (pc' := 159) rfl rfl rfl ?_
        refine g_iconst hG X81 hx (hb hby at_159) (pc' := 160) rfl (v := (1 : Int32)) rfl ?_
        refine g_callS hG X81 hx hZ (y := (⟨"com/example/gauge_terms/gaugeterms/TopValuesPositionsPinLaw", "check", "([D[II)Z"⟩ : MethodName)) 0 hown (wd hw 23 rfl) (wd hw 24 rfl) (wd hw 3 rfl) (wd hw 25 rfl) (by decide) (rmCz1_1 l Z a0 hw [] a ids p0 T80.heap n0 Zs V_ids) (by decide) (by decide) (by rw [hml]; rfl) pd_6 rfl (argsL := [(.ref a), (.ref ids), (.int 1)]) (rest := []) rfl rfl (Nat.le_of_eq rfl) (hb hby at_160) eh81 (by decide) (by decide) (pc' := 163) rfl ?_
        intro T82 rv82 L82 X82 hQ82
        obtain ⟨rfl, Nq82, eh82⟩ := hQ82
        have NF82 := Fr.app NF81 Nq82
        show G (T82.setTop (mkF m 163 _ [(.int 1)]))
        refine g_ifNo hG X82 hx (hb hby at_163) (pc' := 166) (by decide) rfl ?_
        refine g_aload hG X82 hx (hb hby at_166) (pc' := 168) rfl rfl rfl ?_
        refine g_aload hG X82 hx (hb hby at_168) (pc' := 170) rfl rfl rfl ?_
        refine g_iconst hG X82 hx (hb hby at_170) (pc' := 171) rfl (v := (2 : Int32)) rfl ?_
        refine g_callS hG X82 hx hZ (y := (⟨"com/example/gauge_terms/gaugeterms/TopValuesPositionsPinLaw", "check", "([D[II)Z"⟩ : MethodName)) 0 hown (wd hw 23 rfl) (wd hw 24 rfl) (wd hw 3 rfl) (wd hw 25 rfl) (by decide) (rmCz1_2 l Z a0 hw [] a ids p0 T80.heap n0 Zs V_ids) (by decide) (by decide) (by rw [hml]; rfl) pd_6 rfl (argsL := [(.ref a), (.ref ids), (.int 2)]) (rest := []) rfl rfl (Nat.le_of_eq rfl) (hb hby at_171) eh82 (by decide) (by decide) (pc' := 174) rfl ?_
        intro T83 rv83 L83 X83 hQ83
        obtain ⟨rfl, Nq83, eh83⟩ := hQ83
        have NF83 := Fr.app NF82 Nq83
        show G (T83.setTop (mkF m 174 _ [(.int 1)]))
        refine g_ifNo hG X83 hx (hb hby at_174) (pc' := 177) (by decide) rfl ?_
        refine g_aload hG X83 hx (hb hby at_177) (pc' := 179) rfl rfl rfl ?_
        refine g_aload hG X83 hx (hb hby at_179) (pc' := 181) rfl rfl rfl ?_
        refine g_iconst hG X83 hx (hb hby at_181) (pc' := 182) rfl (v := (3 : Int32)) rfl ?_
        refine g_callS hG X83 hx hZ (y := (⟨"com/example/gauge_terms/gaugeterms/TopValuesPositionsPinLaw", "check", "([D[II)Z"⟩ : MethodName)) 0 hown (wd hw 23 rfl) (wd hw 24 rfl) (wd hw 3 rfl) (wd hw 25 rfl) (by decide) (rmCz1_3 l Z a0 hw [] a ids p0 T80.heap n0 Zs V_ids) (by decide) (by decide) (by rw [hml]; rfl) pd_6 rfl (argsL := [(.ref a), (.ref ids), (.int 3)]) (rest := []) rfl rfl (Nat.le_of_eq rfl) (hb hby at_182) eh83 (by decide) (by decide) (pc' := 185) rfl ?_
        intro T84 rv84 L84 X84 hQ84
        obtain ⟨rfl, Nq84, eh84⟩ := hQ84
        have NF84 := Fr.app NF83 Nq84
        show G (T84.setTop (mkF m 185 _ [(.int 1)]))
        refine g_ifNo hG X84 hx (hb hby at_185) (pc' := 188) (by decide) rfl ?_
        refine g_iconst hG X84 hx (hb hby at_188) (pc' := 189) rfl (v := (1 : Int32)) rfl ?_
        refine g_goto hG X84 hx (hb hby at_189) (pc' := 193) (by decide) (by decide) ?_
        exact e_retZ hGe X84 hx hrt hlk (hb hby at_193) (Or.inr rfl) eh84 (by decide) (by decide) (⟨rfl, NF84⟩)
      · skip
        refine g_iload hG X0 hx (hb hby at_92) (pc' := 94) rfl rfl ?_
        refine g_dload hG X0 hx (hb hby at_94) (pc' := 96) rfl rfl ?_
        refine g_dload hG X0 hx (hb hby at_96) (pc' := 98) rfl rfl ?_
        refine g_dload hG X0 hx (hb hby at_98) (pc' := 100) rfl rfl ?_
        refine g_dload hG X0 hx (hb hby at_100) (pc' := 102) rfl rfl ?_
        refine g_callS hG X0 hx hZ (y := (⟨"com/example/gauge_terms/gaugeterms/TopValuesPositionsPinLaw", "build", "(IDDDD)[D"⟩ : MethodName)) 0 hown (wd hw 1 rfl) (wd hw 2 rfl) (wd hw 3 rfl) (wd hw 4 rfl) (by decide) (rmBu4 l Z a0 hw [] al h0 n0 Zs) (by decide) (by decide) (by rw [hml]; rfl) pd_4 rfl (argsL := [(.int 4), (.double (al (0 : Int32))), (.double (al (1 : Int32))), (.double (al (2 : Int32))), (.double (al (3 : Int32)))]) (rest := []) rfl rfl (Nat.le_of_eq rfl) (hb hby at_102) e0 (by decide) (by decide) (pc' := 105) rfl ?_
        intro T85 rv85 L85 X85 hQ85
        obtain ⟨a, rfl, Nq85, Kq85, szq85, V_a⟩ := hQ85
        have NF85 := Fr.app NF0 Nq85
        have ge_a : n0 ≤ a := Nat.le_trans Zs szq85
        have Zs := Nat.le_trans Zs Kq85.1
        show G (T85.setTop (mkF m 105 _ [(.ref a)]))
        refine g_astore hG X85 hx (hb hby at_105) (pc' := 107) rfl rfl (Ls' := #[.val (.int i0), .val (.int i1), .val (.long i2), .second, .val (.int 4), .val (.int fg), .val (.long lim), .second, .val (.double (al (0 : Int32))), .second, .val (.double (al (1 : Int32))), .second, .val (.double (al (2 : Int32))), .second, .val (.double (al (3 : Int32))), .second, .val (.ref a), .unset, .unset]) rfl ?_
        refine g_lload hG X85 hx (hb hby at_107) (pc' := 109) rfl rfl ?_
        refine g_iload hG X85 hx (hb hby at_109) (pc' := 111) rfl rfl ?_
        obtain ⟨v111, q111⟩ : ∃ zz : Int64, (4 : Int32).toInt64 = zz := ⟨_, rfl⟩
        refine g_i2l hG X85 hx (hb hby at_111) (pc' := 112) rfl q111 ?_
        refine g_callS hG X85 hx hZ (y := (⟨"java/lang/Math", "min", "(JJ)J"⟩ : MethodName)) 0 hown (wd hw 6 rfl) (wd hw 7 rfl) (wd hw 8 rfl) (wd hw 9 rfl) (by decide) (rmMJ l Z a0 hw [] lim v111 r T85.heap n0 Zs (q111 ▸ hm)) (by decide) (by decide) (by rw [hml]; rfl) pd_0 rfl (argsL := [(.long lim), (.long v111)]) (rest := []) rfl rfl (Nat.le_of_eq rfl) (hb hby at_112) rfl (by decide) (by decide) (pc' := 115) rfl ?_
        intro T86 rv86 L86 X86 hQ86
        obtain ⟨rfl, Nq86, eh86⟩ := hQ86
        have NF86 := Fr.app NF85 Nq86
        show G (T86.setTop (mkF m 115 _ [(.long r)]))
        refine g_l2i hG X86 hx (hb hby at_115) (pc' := 116) rfl hk ?_
        refine g_istore hG X86 hx (hb hby at_116) (pc' := 118) rfl (Ls' := #[.val (.int i0), .val (.int i1), .val (.long i2), .second, .val (.int 4), .val (.int fg), .val (.long lim), .second, .val (.double (al (0 : Int32))), .second, .val (.double (al (1 : Int32))), .second, .val (.double (al (2 : Int32))), .second, .val (.double (al (3 : Int32))), .second, .val (.ref a), .val (.int 2), .unset]) rfl ?_
        refine g_aload hG X86 hx (hb hby at_118) (pc' := 120) rfl rfl rfl ?_
        refine g_lload hG X86 hx (hb hby at_120) (pc' := 122) rfl rfl ?_
        refine g_callS hG X86 hx hZ (y := (⟨"com/example/gauge_terms/gaugeterms/TopValues", "positions", "([DJ)[I"⟩ : MethodName)) 0 hown (wd hw 10 rfl) (wd hw 11 rfl) (wd hw 12 rfl) (wd hw 13 rfl) (by decide) (rmPos4_2 l Z a0 hw [] a al b01 b02 b03 b12 b13 b23 lim r T85.heap n0 Zs V_a TR BT hm hk) (by decide) (by decide) (by rw [hml]; rfl) pd_5 rfl (argsL := [(.ref a), (.long lim)]) (rest := []) rfl rfl (Nat.le_of_eq rfl) (hb hby at_122) eh86 (by decide) (by decide) (pc' := 125) rfl ?_
        intro T87 rv87 L87 X87 hQ87
        obtain ⟨ids, p0, p1, rfl, Nq87, Kq87, szq87, V_ids, HT⟩ := hQ87
        have NF87 := Fr.app NF86 Nq87
        have ne_a_ids : a ≠ ids := Nat.ne_of_lt (Nat.lt_of_lt_of_le V_a.lt szq87)
        have ge_ids : n0 ≤ ids := Nat.le_trans Zs szq87
        have V_a := V_a.keep Kq87 nin0
        have Zs := Nat.le_trans Zs Kq87.1
        show G (T87.setTop (mkF m 125 _ [(.ref ids)]))
        refine g_astore hG X87 hx (hb hby at_125) (pc' := 127) rfl rfl (Ls' := #[.val (.int i0), .val (.int i1), .val (.long i2), .second, .val (.int 4), .val (.int fg), .val (.long lim), .second, .val (.double (al (0 : Int32))), .second, .val (.double (al (1 : Int32))), .second, .val (.double (al (2 : Int32))), .second, .val (.double (al (3 : Int32))), .second, .val (.ref a), .val (.int 2), .val (.ref ids)]) rfl ?_
        refine g_aload hG X87 hx (hb hby at_127) (pc' := 129) rfl rfl rfl ?_
        refine g_ifnonnullYes hG X87 hx (hb hby at_129) (pc' := 134) (by decide) (by decide) ?_
        refine g_aload hG X87 hx (hb hby at_134) (pc' := 136) rfl rfl rfl ?_
        refine g_arraylength hG X87 hx hZ rfl V_ids (hb hby at_136) (pc' := 137) rfl ?_
        refine g_iload hG X87 hx (hb hby at_137) (pc' := 139) rfl rfl ?_
        refine g_icmpYes hG X87 hx (hb hby at_139) (pc' := 144) (by decide) (by decide) (by decide) ?_
        refine g_aload hG X87 hx (hb hby at_144) (pc' := 146) rfl rfl rfl ?_
        refine g_aload hG X87 hx (hb hby at_146) (pc' := 148) rfl rfl rfl ?_
        refine g_iconst hG X87 hx (hb hby at_148) (pc' := 149) rfl (v := (0 : Int32)) rfl ?_
        refine g_callS hG X87 hx hZ (y := (⟨"com/example/gauge_terms/gaugeterms/TopValuesPositionsPinLaw", "check", "([D[II)Z"⟩ : MethodName)) 0 hown (wd hw 23 rfl) (wd hw 24 rfl) (wd hw 3 rfl) (wd hw 25 rfl) (by decide) (rmCk4_2_0 l Z a0 hw [] a ids al (btB b01 b02 b03 b12 b13 b23) p0 p1 T87.heap n0 Zs V_a V_ids HT BT) (by decide) (by decide) (by rw [hml]; rfl) pd_6 rfl (argsL := [(.ref a), (.ref ids), (.int 0)]) (rest := []) rfl rfl (Nat.le_of_eq rfl) (hb hby at_149) rfl (by decide) (by decide) (pc' := 152) rfl ?_
        intro T88 rv88 L88 X88 hQ88
        obtain ⟨rfl, Nq88, eh88⟩ := hQ88
        have NF88 := Fr.app NF87 Nq88
        show G (T88.setTop (mkF m 152 _ [(.int 1)]))
        refine g_ifNo hG X88 hx (hb hby at_152) (pc' := 155) (by decide) rfl ?_
        refine g_aload hG X88 hx (hb hby at_155) (pc' := 157) rfl rfl rfl ?_
        refine g_aload hG X88 hx (hb hby at_157) (pc' := 159) rfl rfl rfl ?_
        refine g_iconst hG X88 hx (hb hby at_159) (pc' := 160) rfl (v := (1 : Int32)) rfl ?_
        refine g_callS hG X88 hx hZ (y := (⟨"com/example/gauge_terms/gaugeterms/TopValuesPositionsPinLaw", "check", "([D[II)Z"⟩ : MethodName)) 0 hown (wd hw 23 rfl) (wd hw 24 rfl) (wd hw 3 rfl) (wd hw 25 rfl) (by decide) (rmCk4_2_1 l Z a0 hw [] a ids al (btB b01 b02 b03 b12 b13 b23) p0 p1 T87.heap n0 Zs V_a V_ids HT BT) (by decide) (by decide) (by rw [hml]; rfl) pd_6 rfl (argsL := [(.ref a), (.ref ids), (.int 1)]) (rest := []) rfl rfl (Nat.le_of_eq rfl) (hb hby at_160) eh88 (by decide) (by decide) (pc' := 163) rfl ?_
        intro T89 rv89 L89 X89 hQ89
        obtain ⟨rfl, Nq89, eh89⟩ := hQ89
        have NF89 := Fr.app NF88 Nq89
        show G (T89.setTop (mkF m 163 _ [(.int 1)]))
        refine g_ifNo hG X89 hx (hb hby at_163) (pc' := 166) (by decide) rfl ?_
        refine g_aload hG X89 hx (hb hby at_166) (pc' := 168) rfl rfl rfl ?_
        refine g_aload hG X89 hx (hb hby at_168) (pc' := 170) rfl rfl rfl ?_
        refine g_iconst hG X89 hx (hb hby at_170) (pc' := 171) rfl (v := (2 : Int32)) rfl ?_
        refine g_callS hG X89 hx hZ (y := (⟨"com/example/gauge_terms/gaugeterms/TopValuesPositionsPinLaw", "check", "([D[II)Z"⟩ : MethodName)) 0 hown (wd hw 23 rfl) (wd hw 24 rfl) (wd hw 3 rfl) (wd hw 25 rfl) (by decide) (rmCz2_2 l Z a0 hw [] a ids p0 p1 T87.heap n0 Zs V_ids) (by decide) (by decide) (by rw [hml]; rfl) pd_6 rfl (argsL := [(.ref a), (.ref ids), (.int 2)]) (rest := []) rfl rfl (Nat.le_of_eq rfl) (hb hby at_171) eh89 (by decide) (by decide) (pc' := 174) rfl ?_
        intro T90 rv90 L90 X90 hQ90
        obtain ⟨rfl, Nq90, eh90⟩ := hQ90
        have NF90 := Fr.app NF89 Nq90
        show G (T90.setTop (mkF m 174 _ [(.int 1)]))
        refine g_ifNo hG X90 hx (hb hby at_174) (pc' := 177) (by decide) rfl ?_
        refine g_aload hG X90 hx (hb hby at_177) (pc' := 179) rfl rfl rfl ?_
        refine g_aload hG X90 hx (hb hby at_179) (pc' := 181) rfl rfl rfl ?_
        refine g_iconst hG X90 hx (hb hby at_181) (pc' := 182) rfl (v := (3 : Int32)) rfl ?_
        refine g_callS hG X90 hx hZ (y := (⟨"com/example/gauge_terms/gaugeterms/TopValuesPositionsPinLaw", "check", "([D[II)Z"⟩ : MethodName)) 0 hown (wd hw 23 rfl) (wd hw 24 rfl) (wd hw 3 rfl) (wd hw 25 rfl) (by decide) (rmCz2_3 l Z a0 hw [] a ids p0 p1 T87.heap n0 Zs V_ids) (by decide) (by decide) (by rw [hml]; rfl) pd_6 rfl (argsL := [(.ref a), (.ref ids), (.int 3)]) (rest := []) rfl rfl (Nat.le_of_eq rfl) (hb hby at_182) eh90 (by decide) (by decide) (pc' := 185) rfl ?_
        intro T91 rv91 L91 X91 hQ91
        obtain ⟨rfl, Nq91, eh91⟩ := hQ91
        have NF91 := Fr.app NF90 Nq91
        show G (T91.setTop (mkF m 185 _ [(.int 1)]))
        refine g_ifNo hG X91 hx (hb hby at_185) (pc' := 188) (by decide) rfl ?_
        refine g_iconst hG X91 hx (hb hby at_188) (pc' := 189) rfl (v := (1 : Int32)) rfl ?_
        refine g_goto hG X91 hx (hb hby at_189) (pc' := 193) (by decide) (by decide) ?_
        exact e_retZ hGe X91 hx hrt hlk (hb hby at_193) (Or.inr rfl) eh91 (by decide) (by decide) (⟨rfl, NF91⟩)
      · skip
        refine g_iload hG X0 hx (hb hby at_92) (pc' := 94) rfl rfl ?_
        refine g_dload hG X0 hx (hb hby at_94) (pc' := 96) rfl rfl ?_
        refine g_dload hG X0 hx (hb hby at_96) (pc' := 98) rfl rfl ?_
        refine g_dload hG X0 hx (hb hby at_98) (pc' := 100) rfl rfl ?_
        refine g_dload hG X0 hx (hb hby at_100) (pc' := 102) rfl rfl ?_
        refine g_callS hG X0 hx hZ (y := (⟨"com/example/gauge_terms/gaugeterms/TopValuesPositionsPinLaw", "build", "(IDDDD)[D"⟩ : MethodName)) 0 hown (wd hw 1 rfl) (wd hw 2 rfl) (wd hw 3 rfl) (wd hw 4 rfl) (by decide) (rmBu4 l Z a0 hw [] al h0 n0 Zs) (by decide) (by decide) (by rw [hml]; rfl) pd_4 rfl (argsL := [(.int 4), (.double (al (0 : Int32))), (.double (al (1 : Int32))), (.double (al (2 : Int32))), (.double (al (3 : Int32)))]) (rest := []) rfl rfl (Nat.le_of_eq rfl) (hb hby at_102) e0 (by decide) (by decide) (pc' := 105) rfl ?_
        intro T92 rv92 L92 X92 hQ92
        obtain ⟨a, rfl, Nq92, Kq92, szq92, V_a⟩ := hQ92
        have NF92 := Fr.app NF0 Nq92
        have ge_a : n0 ≤ a := Nat.le_trans Zs szq92
        have Zs := Nat.le_trans Zs Kq92.1
        show G (T92.setTop (mkF m 105 _ [(.ref a)]))
        refine g_astore hG X92 hx (hb hby at_105) (pc' := 107) rfl rfl (Ls' := #[.val (.int i0), .val (.int i1), .val (.long i2), .second, .val (.int 4), .val (.int fg), .val (.long lim), .second, .val (.double (al (0 : Int32))), .second, .val (.double (al (1 : Int32))), .second, .val (.double (al (2 : Int32))), .second, .val (.double (al (3 : Int32))), .second, .val (.ref a), .unset, .unset]) rfl ?_
        refine g_lload hG X92 hx (hb hby at_107) (pc' := 109) rfl rfl ?_
        refine g_iload hG X92 hx (hb hby at_109) (pc' := 111) rfl rfl ?_
        obtain ⟨v111, q111⟩ : ∃ zz : Int64, (4 : Int32).toInt64 = zz := ⟨_, rfl⟩
        refine g_i2l hG X92 hx (hb hby at_111) (pc' := 112) rfl q111 ?_
        refine g_callS hG X92 hx hZ (y := (⟨"java/lang/Math", "min", "(JJ)J"⟩ : MethodName)) 0 hown (wd hw 6 rfl) (wd hw 7 rfl) (wd hw 8 rfl) (wd hw 9 rfl) (by decide) (rmMJ l Z a0 hw [] lim v111 r T92.heap n0 Zs (q111 ▸ hm)) (by decide) (by decide) (by rw [hml]; rfl) pd_0 rfl (argsL := [(.long lim), (.long v111)]) (rest := []) rfl rfl (Nat.le_of_eq rfl) (hb hby at_112) rfl (by decide) (by decide) (pc' := 115) rfl ?_
        intro T93 rv93 L93 X93 hQ93
        obtain ⟨rfl, Nq93, eh93⟩ := hQ93
        have NF93 := Fr.app NF92 Nq93
        show G (T93.setTop (mkF m 115 _ [(.long r)]))
        refine g_l2i hG X93 hx (hb hby at_115) (pc' := 116) rfl hk ?_
        refine g_istore hG X93 hx (hb hby at_116) (pc' := 118) rfl (Ls' := #[.val (.int i0), .val (.int i1), .val (.long i2), .second, .val (.int 4), .val (.int fg), .val (.long lim), .second, .val (.double (al (0 : Int32))), .second, .val (.double (al (1 : Int32))), .second, .val (.double (al (2 : Int32))), .second, .val (.double (al (3 : Int32))), .second, .val (.ref a), .val (.int 3), .unset]) rfl ?_
        refine g_aload hG X93 hx (hb hby at_118) (pc' := 120) rfl rfl rfl ?_
        refine g_lload hG X93 hx (hb hby at_120) (pc' := 122) rfl rfl ?_
        refine g_callS hG X93 hx hZ (y := (⟨"com/example/gauge_terms/gaugeterms/TopValues", "positions", "([DJ)[I"⟩ : MethodName)) 0 hown (wd hw 10 rfl) (wd hw 11 rfl) (wd hw 12 rfl) (wd hw 13 rfl) (by decide) (rmPos4_3 l Z a0 hw [] a al b01 b02 b03 b12 b13 b23 lim r T92.heap n0 Zs V_a TR BT hm hk) (by decide) (by decide) (by rw [hml]; rfl) pd_5 rfl (argsL := [(.ref a), (.long lim)]) (rest := []) rfl rfl (Nat.le_of_eq rfl) (hb hby at_122) eh93 (by decide) (by decide) (pc' := 125) rfl ?_
        intro T94 rv94 L94 X94 hQ94
        obtain ⟨ids, p0, p1, p2, rfl, Nq94, Kq94, szq94, V_ids, HT⟩ := hQ94
        have NF94 := Fr.app NF93 Nq94
        have ne_a_ids : a ≠ ids := Nat.ne_of_lt (Nat.lt_of_lt_of_le V_a.lt szq94)
        have ge_ids : n0 ≤ ids := Nat.le_trans Zs szq94
        have V_a := V_a.keep Kq94 nin0
        have Zs := Nat.le_trans Zs Kq94.1
        show G (T94.setTop (mkF m 125 _ [(.ref ids)]))
        refine g_astore hG X94 hx (hb hby at_125) (pc' := 127) rfl rfl (Ls' := #[.val (.int i0), .val (.int i1), .val (.long i2), .second, .val (.int 4), .val (.int fg), .val (.long lim), .second, .val (.double (al (0 : Int32))), .second, .val (.double (al (1 : Int32))), .second, .val (.double (al (2 : Int32))), .second, .val (.double (al (3 : Int32))), .second, .val (.ref a), .val (.int 3), .val (.ref ids)]) rfl ?_
        refine g_aload hG X94 hx (hb hby at_127) (pc' := 129) rfl rfl rfl ?_
        refine g_ifnonnullYes hG X94 hx (hb hby at_129) (pc' := 134) (by decide) (by decide) ?_
        refine g_aload hG X94 hx (hb hby at_134) (pc' := 136) rfl rfl rfl ?_
        refine g_arraylength hG X94 hx hZ rfl V_ids (hb hby at_136) (pc' := 137) rfl ?_
        refine g_iload hG X94 hx (hb hby at_137) (pc' := 139) rfl rfl ?_
        refine g_icmpYes hG X94 hx (hb hby at_139) (pc' := 144) (by decide) (by decide) (by decide) ?_
        refine g_aload hG X94 hx (hb hby at_144) (pc' := 146) rfl rfl rfl ?_
        refine g_aload hG X94 hx (hb hby at_146) (pc' := 148) rfl rfl rfl ?_
        refine g_iconst hG X94 hx (hb hby at_148) (pc' := 149) rfl (v := (0 : Int32)) rfl ?_
        refine g_callS hG X94 hx hZ (y := (⟨"com/example/gauge_terms/gaugeterms/TopValuesPositionsPinLaw", "check", "([D[II)Z"⟩ : MethodName)) 0 hown (wd hw 23 rfl) (wd hw 24 rfl) (wd hw 3 rfl) (wd hw 25 rfl) (by decide) (rmCk4_3_0 l Z a0 hw [] a ids al (btB b01 b02 b03 b12 b13 b23) p0 p1 p2 T94.heap n0 Zs V_a V_ids HT BT) (by decide) (by decide) (by rw [hml]; rfl) pd_6 rfl (argsL := [(.ref a), (.ref ids), (.int 0)]) (rest := []) rfl rfl (Nat.le_of_eq rfl) (hb hby at_149) rfl (by decide) (by decide) (pc' := 152) rfl ?_
        intro T95 rv95 L95 X95 hQ95
        obtain ⟨rfl, Nq95, eh95⟩ := hQ95
        have NF95 := Fr.app NF94 Nq95
        show G (T95.setTop (mkF m 152 _ [(.int 1)]))
        refine g_ifNo hG X95 hx (hb hby at_152) (pc' := 155) (by decide) rfl ?_
        refine g_aload hG X95 hx (hb hby at_155) (pc' := 157) rfl rfl rfl ?_
        refine g_aload hG X95 hx (hb hby at_157) (pc' := 159) rfl rfl rfl ?_
        refine g_iconst hG X95 hx (hb hby at_159) (pc' := 160) rfl (v := (1 : Int32)) rfl ?_
        refine g_callS hG X95 hx hZ (y := (⟨"com/example/gauge_terms/gaugeterms/TopValuesPositionsPinLaw", "check", "([D[II)Z"⟩ : MethodName)) 0 hown (wd hw 23 rfl) (wd hw 24 rfl) (wd hw 3 rfl) (wd hw 25 rfl) (by decide) (rmCk4_3_1 l Z a0 hw [] a ids al (btB b01 b02 b03 b12 b13 b23) p0 p1 p2 T94.heap n0 Zs V_a V_ids HT BT) (by decide) (by decide) (by rw [hml]; rfl) pd_6 rfl (argsL := [(.ref a), (.ref ids), (.int 1)]) (rest := []) rfl rfl (Nat.le_of_eq rfl) (hb hby at_160) eh95 (by decide) (by decide) (pc' := 163) rfl ?_
        intro T96 rv96 L96 X96 hQ96
        obtain ⟨rfl, Nq96, eh96⟩ := hQ96
        have NF96 := Fr.app NF95 Nq96
        show G (T96.setTop (mkF m 163 _ [(.int 1)]))
        refine g_ifNo hG X96 hx (hb hby at_163) (pc' := 166) (by decide) rfl ?_
        refine g_aload hG X96 hx (hb hby at_166) (pc' := 168) rfl rfl rfl ?_
        refine g_aload hG X96 hx (hb hby at_168) (pc' := 170) rfl rfl rfl ?_
        refine g_iconst hG X96 hx (hb hby at_170) (pc' := 171) rfl (v := (2 : Int32)) rfl ?_
        refine g_callS hG X96 hx hZ (y := (⟨"com/example/gauge_terms/gaugeterms/TopValuesPositionsPinLaw", "check", "([D[II)Z"⟩ : MethodName)) 0 hown (wd hw 23 rfl) (wd hw 24 rfl) (wd hw 3 rfl) (wd hw 25 rfl) (by decide) (rmCk4_3_2 l Z a0 hw [] a ids al (btB b01 b02 b03 b12 b13 b23) p0 p1 p2 T94.heap n0 Zs V_a V_ids HT BT) (by decide) (by decide) (by rw [hml]; rfl) pd_6 rfl (argsL := [(.ref a), (.ref ids), (.int 2)]) (rest := []) rfl rfl (Nat.le_of_eq rfl) (hb hby at_171) eh96 (by decide) (by decide) (pc' := 174) rfl ?_
        intro T97 rv97 L97 X97 hQ97
        obtain ⟨rfl, Nq97, eh97⟩ := hQ97
        have NF97 := Fr.app NF96 Nq97
        show G (T97.setTop (mkF m 174 _ [(.int 1)]))
        refine g_ifNo hG X97 hx (hb hby at_174) (pc' := 177) (by decide) rfl ?_
        refine g_aload hG X97 hx (hb hby at_177) (pc' := 179) rfl rfl rfl ?_
        refine g_aload hG X97 hx (hb hby at_179) (pc' := 181) rfl rfl rfl ?_
        refine g_iconst hG X97 hx (hb hby at_181) (pc' := 182) rfl (v := (3 : Int32)) rfl ?_
        refine g_callS hG X97 hx hZ (y := (⟨"com/example/gauge_terms/gaugeterms/TopValuesPositionsPinLaw", "check", "([D[II)Z"⟩ : MethodName)) 0 hown (wd hw 23 rfl) (wd hw 24 rfl) (wd hw 3 rfl) (wd hw 25 rfl) (by decide) (rmCz3_3 l Z a0 hw [] a ids p0 p1 p2 T94.heap n0 Zs V_ids) (by decide) (by decide) (by rw [hml]; rfl) pd_6 rfl (argsL := [(.ref a), (.ref ids), (.int 3)]) (rest := []) rfl rfl (Nat.le_of_eq rfl) (hb hby at_182) eh97 (by decide) (by decide) (pc' := 185) rfl ?_
        intro T98 rv98 L98 X98 hQ98
        obtain ⟨rfl, Nq98, eh98⟩ := hQ98
        have NF98 := Fr.app NF97 Nq98
        show G (T98.setTop (mkF m 185 _ [(.int 1)]))
        refine g_ifNo hG X98 hx (hb hby at_185) (pc' := 188) (by decide) rfl ?_
        refine g_iconst hG X98 hx (hb hby at_188) (pc' := 189) rfl (v := (1 : Int32)) rfl ?_
        refine g_goto hG X98 hx (hb hby at_189) (pc' := 193) (by decide) (by decide) ?_
        exact e_retZ hGe X98 hx hrt hlk (hb hby at_193) (Or.inr rfl) eh98 (by decide) (by decide) (⟨rfl, NF98⟩)
      · skip
        refine g_iload hG X0 hx (hb hby at_92) (pc' := 94) rfl rfl ?_
        refine g_dload hG X0 hx (hb hby at_94) (pc' := 96) rfl rfl ?_
        refine g_dload hG X0 hx (hb hby at_96) (pc' := 98) rfl rfl ?_
        refine g_dload hG X0 hx (hb hby at_98) (pc' := 100) rfl rfl ?_
        refine g_dload hG X0 hx (hb hby at_100) (pc' := 102) rfl rfl ?_
        refine g_callS hG X0 hx hZ (y := (⟨"com/example/gauge_terms/gaugeterms/TopValuesPositionsPinLaw", "build", "(IDDDD)[D"⟩ : MethodName)) 0 hown (wd hw 1 rfl) (wd hw 2 rfl) (wd hw 3 rfl) (wd hw 4 rfl) (by decide) (rmBu4 l Z a0 hw [] al h0 n0 Zs) (by decide) (by decide) (by rw [hml]; rfl) pd_4 rfl (argsL := [(.int 4), (.double (al (0 : Int32))), (.double (al (1 : Int32))), (.double (al (2 : Int32))), (.double (al (3 : Int32)))]) (rest := []) rfl rfl (Nat.le_of_eq rfl) (hb hby at_102) e0 (by decide) (by decide) (pc' := 105) rfl ?_
        intro T99 rv99 L99 X99 hQ99
        obtain ⟨a, rfl, Nq99, Kq99, szq99, V_a⟩ := hQ99
        have NF99 := Fr.app NF0 Nq99
        have ge_a : n0 ≤ a := Nat.le_trans Zs szq99
        have Zs := Nat.le_trans Zs Kq99.1
        show G (T99.setTop (mkF m 105 _ [(.ref a)]))
        refine g_astore hG X99 hx (hb hby at_105) (pc' := 107) rfl rfl (Ls' := #[.val (.int i0), .val (.int i1), .val (.long i2), .second, .val (.int 4), .val (.int fg), .val (.long lim), .second, .val (.double (al (0 : Int32))), .second, .val (.double (al (1 : Int32))), .second, .val (.double (al (2 : Int32))), .second, .val (.double (al (3 : Int32))), .second, .val (.ref a), .unset, .unset]) rfl ?_
        refine g_lload hG X99 hx (hb hby at_107) (pc' := 109) rfl rfl ?_
        refine g_iload hG X99 hx (hb hby at_109) (pc' := 111) rfl rfl ?_
        obtain ⟨v111, q111⟩ : ∃ zz : Int64, (4 : Int32).toInt64 = zz := ⟨_, rfl⟩
        refine g_i2l hG X99 hx (hb hby at_111) (pc' := 112) rfl q111 ?_
        refine g_callS hG X99 hx hZ (y := (⟨"java/lang/Math", "min", "(JJ)J"⟩ : MethodName)) 0 hown (wd hw 6 rfl) (wd hw 7 rfl) (wd hw 8 rfl) (wd hw 9 rfl) (by decide) (rmMJ l Z a0 hw [] lim v111 r T99.heap n0 Zs (q111 ▸ hm)) (by decide) (by decide) (by rw [hml]; rfl) pd_0 rfl (argsL := [(.long lim), (.long v111)]) (rest := []) rfl rfl (Nat.le_of_eq rfl) (hb hby at_112) rfl (by decide) (by decide) (pc' := 115) rfl ?_
        intro T100 rv100 L100 X100 hQ100
        obtain ⟨rfl, Nq100, eh100⟩ := hQ100
        have NF100 := Fr.app NF99 Nq100
        show G (T100.setTop (mkF m 115 _ [(.long r)]))
        refine g_l2i hG X100 hx (hb hby at_115) (pc' := 116) rfl hk ?_
        refine g_istore hG X100 hx (hb hby at_116) (pc' := 118) rfl (Ls' := #[.val (.int i0), .val (.int i1), .val (.long i2), .second, .val (.int 4), .val (.int fg), .val (.long lim), .second, .val (.double (al (0 : Int32))), .second, .val (.double (al (1 : Int32))), .second, .val (.double (al (2 : Int32))), .second, .val (.double (al (3 : Int32))), .second, .val (.ref a), .val (.int 4), .unset]) rfl ?_
        refine g_aload hG X100 hx (hb hby at_118) (pc' := 120) rfl rfl rfl ?_
        refine g_lload hG X100 hx (hb hby at_120) (pc' := 122) rfl rfl ?_
        refine g_callS hG X100 hx hZ (y := (⟨"com/example/gauge_terms/gaugeterms/TopValues", "positions", "([DJ)[I"⟩ : MethodName)) 0 hown (wd hw 10 rfl) (wd hw 11 rfl) (wd hw 12 rfl) (wd hw 13 rfl) (by decide) (rmPos4_4 l Z a0 hw [] a al b01 b02 b03 b12 b13 b23 lim r T99.heap n0 Zs V_a TR BT hm hk) (by decide) (by decide) (by rw [hml]; rfl) pd_5 rfl (argsL := [(.ref a), (.long lim)]) (rest := []) rfl rfl (Nat.le_of_eq rfl) (hb hby at_122) eh100 (by decide) (by decide) (pc' := 125) rfl ?_
        intro T101 rv101 L101 X101 hQ101
        obtain ⟨ids, p0, p1, p2, p3, rfl, Nq101, Kq101, szq101, V_ids, HT⟩ := hQ101
        have NF101 := Fr.app NF100 Nq101
        have ne_a_ids : a ≠ ids := Nat.ne_of_lt (Nat.lt_of_lt_of_le V_a.lt szq101)
        have ge_ids : n0 ≤ ids := Nat.le_trans Zs szq101
        have V_a := V_a.keep Kq101 nin0
        have Zs := Nat.le_trans Zs Kq101.1
        show G (T101.setTop (mkF m 125 _ [(.ref ids)]))
        refine g_astore hG X101 hx (hb hby at_125) (pc' := 127) rfl rfl (Ls' := #[.val (.int i0), .val (.int i1), .val (.long i2), .second, .val (.int 4), .val (.int fg), .val (.long lim), .second, .val (.double (al (0 : Int32))), .second, .val (.double (al (1 : Int32))), .second, .val (.double (al (2 : Int32))), .second, .val (.double (al (3 : Int32))), .second, .val (.ref a), .val (.int 4), .val (.ref ids)]) rfl ?_
        refine g_aload hG X101 hx (hb hby at_127) (pc' := 129) rfl rfl rfl ?_
        refine g_ifnonnullYes hG X101 hx (hb hby at_129) (pc' := 134) (by decide) (by decide) ?_
        refine g_aload hG X101 hx (hb hby at_134) (pc' := 136) rfl rfl rfl ?_
        refine g_arraylength hG X101 hx hZ rfl V_ids (hb hby at_136) (pc' := 137) rfl ?_
        refine g_iload hG X101 hx (hb hby at_137) (pc' := 139) rfl rfl ?_
        refine g_icmpYes hG X101 hx (hb hby at_139) (pc' := 144) (by decide) (by decide) (by decide) ?_
        refine g_aload hG X101 hx (hb hby at_144) (pc' := 146) rfl rfl rfl ?_
        refine g_aload hG X101 hx (hb hby at_146) (pc' := 148) rfl rfl rfl ?_
        refine g_iconst hG X101 hx (hb hby at_148) (pc' := 149) rfl (v := (0 : Int32)) rfl ?_
        refine g_callS hG X101 hx hZ (y := (⟨"com/example/gauge_terms/gaugeterms/TopValuesPositionsPinLaw", "check", "([D[II)Z"⟩ : MethodName)) 0 hown (wd hw 23 rfl) (wd hw 24 rfl) (wd hw 3 rfl) (wd hw 25 rfl) (by decide) (rmCk4_4_0 l Z a0 hw [] a ids al (btB b01 b02 b03 b12 b13 b23) p0 p1 p2 p3 T101.heap n0 Zs V_a V_ids HT BT) (by decide) (by decide) (by rw [hml]; rfl) pd_6 rfl (argsL := [(.ref a), (.ref ids), (.int 0)]) (rest := []) rfl rfl (Nat.le_of_eq rfl) (hb hby at_149) rfl (by decide) (by decide) (pc' := 152) rfl ?_
        intro T102 rv102 L102 X102 hQ102
        obtain ⟨rfl, Nq102, eh102⟩ := hQ102
        have NF102 := Fr.app NF101 Nq102
        show G (T102.setTop (mkF m 152 _ [(.int 1)]))
        refine g_ifNo hG X102 hx (hb hby at_152) (pc' := 155) (by decide) rfl ?_
        refine g_aload hG X102 hx (hb hby at_155) (pc' := 157) rfl rfl rfl ?_
        refine g_aload hG X102 hx (hb hby at_157) (pc' := 159) rfl rfl rfl ?_
        refine g_iconst hG X102 hx (hb hby at_159) (pc' := 160) rfl (v := (1 : Int32)) rfl ?_
        refine g_callS hG X102 hx hZ (y := (⟨"com/example/gauge_terms/gaugeterms/TopValuesPositionsPinLaw", "check", "([D[II)Z"⟩ : MethodName)) 0 hown (wd hw 23 rfl) (wd hw 24 rfl) (wd hw 3 rfl) (wd hw 25 rfl) (by decide) (rmCk4_4_1 l Z a0 hw [] a ids al (btB b01 b02 b03 b12 b13 b23) p0 p1 p2 p3 T101.heap n0 Zs V_a V_ids HT BT) (by decide) (by decide) (by rw [hml]; rfl) pd_6 rfl (argsL := [(.ref a), (.ref ids), (.int 1)]) (rest := []) rfl rfl (Nat.le_of_eq rfl) (hb hby at_160) eh102 (by decide) (by decide) (pc' := 163) rfl ?_
        intro T103 rv103 L103 X103 hQ103
        obtain ⟨rfl, Nq103, eh103⟩ := hQ103
        have NF103 := Fr.app NF102 Nq103
        show G (T103.setTop (mkF m 163 _ [(.int 1)]))
        refine g_ifNo hG X103 hx (hb hby at_163) (pc' := 166) (by decide) rfl ?_
        refine g_aload hG X103 hx (hb hby at_166) (pc' := 168) rfl rfl rfl ?_
        refine g_aload hG X103 hx (hb hby at_168) (pc' := 170) rfl rfl rfl ?_
        refine g_iconst hG X103 hx (hb hby at_170) (pc' := 171) rfl (v := (2 : Int32)) rfl ?_
        refine g_callS hG X103 hx hZ (y := (⟨"com/example/gauge_terms/gaugeterms/TopValuesPositionsPinLaw", "check", "([D[II)Z"⟩ : MethodName)) 0 hown (wd hw 23 rfl) (wd hw 24 rfl) (wd hw 3 rfl) (wd hw 25 rfl) (by decide) (rmCk4_4_2 l Z a0 hw [] a ids al (btB b01 b02 b03 b12 b13 b23) p0 p1 p2 p3 T101.heap n0 Zs V_a V_ids HT BT) (by decide) (by decide) (by rw [hml]; rfl) pd_6 rfl (argsL := [(.ref a), (.ref ids), (.int 2)]) (rest := []) rfl rfl (Nat.le_of_eq rfl) (hb hby at_171) eh103 (by decide) (by decide) (pc' := 174) rfl ?_
        intro T104 rv104 L104 X104 hQ104
        obtain ⟨rfl, Nq104, eh104⟩ := hQ104
        have NF104 := Fr.app NF103 Nq104
        show G (T104.setTop (mkF m 174 _ [(.int 1)]))
        refine g_ifNo hG X104 hx (hb hby at_174) (pc' := 177) (by decide) rfl ?_
        refine g_aload hG X104 hx (hb hby at_177) (pc' := 179) rfl rfl rfl ?_
        refine g_aload hG X104 hx (hb hby at_179) (pc' := 181) rfl rfl rfl ?_
        refine g_iconst hG X104 hx (hb hby at_181) (pc' := 182) rfl (v := (3 : Int32)) rfl ?_
        refine g_callS hG X104 hx hZ (y := (⟨"com/example/gauge_terms/gaugeterms/TopValuesPositionsPinLaw", "check", "([D[II)Z"⟩ : MethodName)) 0 hown (wd hw 23 rfl) (wd hw 24 rfl) (wd hw 3 rfl) (wd hw 25 rfl) (by decide) (rmCk4_4_3 l Z a0 hw [] a ids al (btB b01 b02 b03 b12 b13 b23) p0 p1 p2 p3 T101.heap n0 Zs V_a V_ids HT BT) (by decide) (by decide) (by rw [hml]; rfl) pd_6 rfl (argsL := [(.ref a), (.ref ids), (.int 3)]) (rest := []) rfl rfl (Nat.le_of_eq rfl) (hb hby at_182) eh104 (by decide) (by decide) (pc' := 185) rfl ?_
        intro T105 rv105 L105 X105 hQ105
        obtain ⟨rfl, Nq105, eh105⟩ := hQ105
        have NF105 := Fr.app NF104 Nq105
        show G (T105.setTop (mkF m 185 _ [(.int 1)]))
        refine g_ifNo hG X105 hx (hb hby at_185) (pc' := 188) (by decide) rfl ?_
        refine g_iconst hG X105 hx (hb hby at_188) (pc' := 189) rfl (v := (1 : Int32)) rfl ?_
        refine g_goto hG X105 hx (hb hby at_189) (pc' := 193) (by decide) (by decide) ?_
        exact e_retZ hGe X105 hx hrt hlk (hb hby at_193) (Or.inr rfl) eh105 (by decide) (by decide) (⟨rfl, NF105⟩)
    by_cases hc26 : fg = (0 : Int32)
    · refine g_ifYes hG X0 hx (hb hby at_26) (pc' := 37) ((if0 _ _).trans (teq hc26).1) (by decide) (by decide) ?_
      refine g_lloadN hG X0 hx (hb hby at_37) (pc' := 38) rfl rfl ?_
      refine g_ldcLong hG X0 hx hZ hown (wd hw 0 rfl) (hb hby at_38) (pc' := 41) rfl ?_
      obtain ⟨v41, q41⟩ : ∃ zz : Int64, i2 &&& (7 : Int64) = zz := ⟨_, rfl⟩
      refine g_land hG X0 hx (hb hby at_41) (pc' := 42) rfl q41 ?_
      exact c42 v41 (by rw [← q41, c_maskL i2 7 3 (by decide) (by decide)]; omega)
    · refine g_ifNo hG X0 hx (hb hby at_26) (pc' := 29) ((if0 _ _).trans (feq hc26).1) rfl ?_
      refine g_lloadN hG X0 hx (hb hby at_29) (pc' := 30) rfl rfl ?_
      refine g_ldcLong hG X0 hx hZ hown (wd hw 32 rfl) (hb hby at_30) (pc' := 33) rfl ?_
      obtain ⟨v33, q33⟩ : ∃ zz : Int64, i2 &&& (9223372036854775807 : Int64) = zz := ⟨_, rfl⟩
      refine g_land hG X0 hx (hb hby at_33) (pc' := 34) rfl q33 ?_
      refine g_goto hG X0 hx (hb hby at_34) (pc' := 42) (by decide) (by decide) ?_
      exact c42 v33 (by rw [← q33]; exact own_big i2)
  by_cases hc14 : v13 = (0 : Int32)
  · refine g_ifYes hG X0 hx (hb hby at_14) (pc' := 21) ((if0 _ _).trans (teq hc14).1) (by decide) (by decide) ?_
    refine g_iconst hG X0 hx (hb hby at_21) (pc' := 22) rfl (v := (0 : Int32)) rfl ?_
    exact c22 (0 : Int32)
  · refine g_ifNo hG X0 hx (hb hby at_14) (pc' := 17) ((if0 _ _).trans (feq hc14).1) rfl ?_
    refine g_iconst hG X0 hx (hb hby at_17) (pc' := 18) rfl (v := (1 : Int32)) rfl ?_
    refine g_goto hG X0 hx (hb hby at_18) (pc' := 22) (by decide) (by decide) ?_
    exact c22 (1 : Int32)
set_option maxRecDepth 65536 in
set_option maxHeartbeats 40000000 in
theorem comes_1 {Post : Tables → Env → Array Value → State → Outcome → State → Prop} (hpost : ∀ tb e args s v u, (limb_1_1.after args s (.returned v) u = true ∧ limb_1_2.after args s (.returned v) u = true ∧ True) → FrameEnd s (.returned v) u (Jvm.fieldLocs frame_1_writes args s ++ Jvm.arrayLocs frame_1_arrays args s ++ Jvm.staticLocs frame_1_statics s) 16 128 → Post tb e args s (.returned v) u) :
    ArmFor flags0 classFile x code maxLocals ret World_1 tables_1 room_1 Calls_1 rest_1 Pre_1 Post := by
  intro l hfl _ _ p e ha hc hk s m args below hf hA hF happ hP
  obtain ⟨hcalls, hrest, hpre⟩ := hP
  obtain ⟨-, -, -, hnamed, -, -, -, hat⟩ := (Spec.applies_iff hf).mp happ
  obtain ⟨hg, hn⟩ := and_e (Cond.before_iff.mp (show (Jvm.Cond.and given_1 narrow_1).before args s = true from hpre))
  obtain ⟨hcount, ha_0⟩ := and_e hg
  obtain ⟨hb_0, ha_1⟩ := and_e ha_0
  obtain ⟨hb_1, ha_2⟩ := and_e ha_1
  have hb_2 := ha_2
  obtain ⟨w0, w1, w2, rfl⟩ : ∃ w0 w1 w2 : Value, args = #[w0, w1, w2] := by
    have hs : args.size = 3 := by simpa [Cond.value, given_1] using hcount
    obtain ⟨L⟩ := args
    match L, hs with
    | [w0, w1, w2], _ => exact ⟨w0, w1, w2, rfl⟩
  have hw := fun d (hd : d ∈ tables_1) => atoms_spec (ws := Jvm.Cond.code x code maxLocals ret :: tables_1) hat d (List.mem_cons_of_mem _ hd)
  obtain ⟨i0, ei0⟩ := is_v hb_0
  obtain rfl : w0 = (.int i0) := Option.some.inj ei0
  obtain ⟨i1, ei1⟩ := is_v hb_1
  obtain rfl : w1 = (.int i1) := Option.some.inj ei1
  obtain ⟨i2, ei2⟩ := isL_v hb_2
  obtain rfl : w2 = (.long i2) := Option.some.inj ei2
  obtain ⟨n, o, h1, h2, h3, _, L, rfl, ⟨rfl, N⟩, hq⟩ := rm0 l s _ hw tables_1 i0 i1 i2 s.heap s.heap.size (Nat.le_refl _)  p e ha hc hk s m _ below hf ((Spec.applies_iff_loose hf).mp happ).1 ⟨rfl, State.Warmed39.refl s, rfl⟩ trivial
  refine ⟨n, _, h1, h2, h3, hpost _ _ _ _ _ _ ⟨Cond.after_iff.mpr rfl, Cond.after_iff.mpr (eq_i res_at (Term.int_eval (1)) rfl), trivial⟩ ⟨hq.1, hq.2.1, (hq.2.2.sift fun y hy => Or.inr (N y hy)).mono (by decide) (by decide)⟩⟩
theorem main_1_1 : Claimed_1_1 := comes_1 fun _ _ _ _ _ _ h hF => ⟨h.1, hF⟩
theorem main_1_2 : Claimed_1_2 := comes_1 fun _ _ _ _ _ _ h hF => ⟨h.2.1, hF⟩
end Jvm.Pilot.@@N@@
namespace Jvm.Pilot.@@N@@
open Jvm Jvm.ClassFile Sem Op Lib Jvm.Free Jvm.Stand Jvm.Pilot.@@N@@.Jvm.D
/-! MADE BY PROGRAM (witnessworld.py) out of the Statement's table words and the real class files: 13 classes; the members and pool entries that the words name. The judged class is class 1, her method 5. -/
namespace start1
open Jvm.ClassFile
def u (s : String) : CpInfo := .utf8 (stringToUtf16 s)
/-- a pool by its gaps: so many unusable entries, then the entry; so many at the end -/
def gap : Nat → List CpInfo → List CpInfo
  | 0, r => r
  | n + 1, r => .unusable :: gap n r
def poolList (es : List (Nat × CpInfo)) (last : Nat) : List CpInfo := es.foldr (fun e r => gap e.1 (e.2 :: r)) (gap last [])
def pool (es : List (Nat × CpInfo)) (last : Nat) : Array CpInfo := ⟨poolList es last⟩
def fileOf (pool : Array CpInfo) (this : Nat) (attrs : Array Attribute := #[]) (ms : Array MethodInfo := #[]) (fl : Nat := 33) (sup : Nat := 0) (ifs : Array Nat := #[]) (fds : Array FieldInfo := #[]) : ClassFile where
  minorVersion := 0
  majorVersion := 65
  constantPool := pool
  accessFlags := fl
  thisClass := this
  superClass := sup
  interfaces := ifs
  fields := fds
  methods := ms
  attributes := attrs
def plain (name : String) (sup : Option ClassId) : Class where
  name := name
  kind := .ordinary
  loader := none
  accessFlags := 33
  super := sup
  interfaces := #[]
  cf := none
  fields := #[]
  methods := #[]
  instanceTypes := #[]
  staticTypes := #[]
  resolved := #[]
  callSites := []
  init := .initialized
  statics := none
  mirror := none

def pool0 : Array CpInfo := pool [(5, u "<init>"), (0, u "()V"), (1, .class_ 10), (1, u "java/lang/Object")] 113

def k0m0 : Method := { name := "<init>", desc := "()V", sig := { parameters := [], returnType := none }, accessFlags := 1, code := none }
/-- java/lang/Object -/
def k0 : Class := { plain "java/lang/Object" none with
  accessFlags := 33
  interfaces := #[]
  cf := some (fileOf pool0 8 #[] #[{ accessFlags := 1, nameIndex := 5, descriptorIndex := 6, attributes := #[] }] 33 0 #[] #[])
  fields := #[]
  methods := #[k0m0]
  instanceTypes := #[]
  staticTypes := #[]
  resolved := Array.replicate 124 none
  statics := none }

def pool1 : Array CpInfo := pool [(2, .class_ 4), (1, u "java/lang/Object"), (0, u "<init>"), (0, u "()V"), (0, .methodref 8 9), (0, .class_ 10), (0, .nameAndType 11 12), (0, u "com/example/gauge_terms/gaugeterms/TopValuesPositionsPinLaw"), (0, u "beats"), (0, u "([DII)I"), (0, .methodref 8 14), (0, .nameAndType 15 16), (0, u "rank"), (0, u "([DI)I"), (2, .long 9223372036854775807), (1, .long 7), (1, .methodref 8 24), (0, .nameAndType 25 26), (0, u "build"), (0, u "(IDDDD)[D"), (0, .methodref 28 29), (0, .class_ 30), (0, .nameAndType 31 32), (0, u "java/lang/Math"), (0, u "min"), (0, u "(JJ)J"), (0, .methodref 34 35), (0, .class_ 36), (0, .nameAndType 37 38), (0, u "com/example/gauge_terms/gaugeterms/TopValues"), (0, u "positions"), (0, u "([DJ)[I"), (0, .methodref 8 40), (0, .nameAndType 41 42), (0, u "check"), (0, u "([D[II)Z"), (3, u "law"), (0, u "(IIJ)Z")] 6

def k1m0 : Method := { name := "<init>", desc := "()V", sig := { parameters := [], returnType := none }, accessFlags := 2, code := none }
def k1c1 : Code := { maxStack := 5, maxLocals := 9, code := method_2_code, exceptionTable := #[], attributes := #[] }
def k1m1 : Method := { name := "build", desc := "(IDDDD)[D", sig := { parameters := [.int, .double, .double, .double, .double], returnType := some (.array .double) }, accessFlags := 10, code := some k1c1 }
def k1c2 : Code := { maxStack := 4, maxLocals := 3, code := method_3_code, exceptionTable := #[], attributes := #[] }
def k1m2 : Method := { name := "beats", desc := "([DII)I", sig := { parameters := [(.array .double), .int, .int], returnType := some .int }, accessFlags := 10, code := some k1c2 }
def k1c3 : Code := { maxStack := 4, maxLocals := 2, code := method_4_code, exceptionTable := #[], attributes := #[] }
def k1m3 : Method := { name := "rank", desc := "([DI)I", sig := { parameters := [(.array .double), .int], returnType := some .int }, accessFlags := 10, code := some k1c3 }
def k1c4 : Code := { maxStack := 2, maxLocals := 4, code := method_5_code, exceptionTable := #[], attributes := #[] }
def k1m4 : Method := { name := "check", desc := "([D[II)Z", sig := { parameters := [(.array .double), (.array .int), .int], returnType := some .boolean }, accessFlags := 10, code := some k1c4 }
def k1c5 : Code := { maxStack := 9, maxLocals := 19, code := code, exceptionTable := #[], attributes := #[] }
def k1m5 : Method := { name := "law", desc := "(IIJ)Z", sig := { parameters := [.int, .int, .long], returnType := some .boolean }, accessFlags := 9, code := some k1c5 }
/-- com/example/gauge_terms/gaugeterms/TopValuesPositionsPinLaw -/
def k1 : Class := { plain "com/example/gauge_terms/gaugeterms/TopValuesPositionsPinLaw" (some 0) with
  accessFlags := 49
  interfaces := #[]
  cf := some (fileOf pool1 8 #[] #[{ accessFlags := 2, nameIndex := 5, descriptorIndex := 6, attributes := #[] }, { accessFlags := 10, nameIndex := 25, descriptorIndex := 26, attributes := #[] }, { accessFlags := 10, nameIndex := 11, descriptorIndex := 12, attributes := #[] }, { accessFlags := 10, nameIndex := 15, descriptorIndex := 16, attributes := #[] }, { accessFlags := 10, nameIndex := 41, descriptorIndex := 42, attributes := #[] }, { accessFlags := 9, nameIndex := 46, descriptorIndex := 47, attributes := #[] }] 49 2 #[] #[])
  fields := #[]
  methods := #[k1m0, k1m1, k1m2, k1m3, k1m4, k1m5]
  instanceTypes := #[]
  staticTypes := #[]
  resolved := Array.replicate 54 none
  statics := none }

def pool2 : Array CpInfo := pool [(1, .class_ 2), (0, u "java/lang/Math"), (1, .class_ 6), (1, u "java/lang/Object"), (0, u "<init>"), (0, u "()V"), (89, .class_ 100), (1, u "java/lang/Math$RandomNumberGeneratorHolder"), (20, u "(JJ)J"), (50, u "negativeZeroFloatBits"), (0, u "J"), (2, u "negativeZeroDoubleBits"), (24, u "min"), (43, u "$assertionsDisabled"), (0, u "Z"), (88, u "(II)I"), (2, u "twoToTheDoubleScaleDown"), (0, u "D"), (4, u "twoToTheDoubleScaleUp"), (9, u "E"), (3, u "PI"), (2, u "TAU"), (2, u "DEGREES_TO_RADIANS"), (0, u "RADIANS_TO_DEGREES")] 94

def k2m0 : Method := { name := "<init>", desc := "()V", sig := { parameters := [], returnType := none }, accessFlags := 2, code := none }
def k2c1 : Code := { maxStack := 2, maxLocals := 2, code := jdk_29_method_69_code, exceptionTable := #[], attributes := #[] }
def k2m1 : Method := { name := "min", desc := "(II)I", sig := { parameters := [.int, .int], returnType := some .int }, accessFlags := 9, code := some k2c1 }
def k2c2 : Code := { maxStack := 4, maxLocals := 4, code := jdk_29_method_70_code, exceptionTable := #[], attributes := #[] }
def k2m2 : Method := { name := "min", desc := "(JJ)J", sig := { parameters := [.long, .long], returnType := some .long }, accessFlags := 9, code := some k2c2 }
/-- java/lang/Math -/
def k2 : Class := { plain "java/lang/Math" (some 0) with
  accessFlags := 49
  interfaces := #[]
  cf := some (fileOf pool2 1 #[.nestMembers #[98]] #[{ accessFlags := 2, nameIndex := 7, descriptorIndex := 8, attributes := #[] }, { accessFlags := 9, nameIndex := 201, descriptorIndex := 335, attributes := #[] }, { accessFlags := 9, nameIndex := 201, descriptorIndex := 121, attributes := #[] }] 49 4 #[] #[{ accessFlags := 25, nameIndex := 354, descriptorIndex := 339, attributes := #[] }, { accessFlags := 25, nameIndex := 358, descriptorIndex := 339, attributes := #[] }, { accessFlags := 25, nameIndex := 361, descriptorIndex := 339, attributes := #[] }, { accessFlags := 26, nameIndex := 364, descriptorIndex := 339, attributes := #[] }, { accessFlags := 26, nameIndex := 365, descriptorIndex := 339, attributes := #[] }, { accessFlags := 26, nameIndex := 172, descriptorIndex := 173, attributes := #[] }, { accessFlags := 26, nameIndex := 176, descriptorIndex := 173, attributes := #[] }, { accessFlags := 8, nameIndex := 344, descriptorIndex := 339, attributes := #[] }, { accessFlags := 8, nameIndex := 338, descriptorIndex := 339, attributes := #[] }, { accessFlags := 4120, nameIndex := 245, descriptorIndex := 246, attributes := #[] }])
  fields := #[{ name := "E", type := .double, accessFlags := 25, slot := 0, constantValue := 0 }, { name := "PI", type := .double, accessFlags := 25, slot := 1, constantValue := 0 }, { name := "TAU", type := .double, accessFlags := 25, slot := 2, constantValue := 0 }, { name := "DEGREES_TO_RADIANS", type := .double, accessFlags := 26, slot := 3, constantValue := 0 }, { name := "RADIANS_TO_DEGREES", type := .double, accessFlags := 26, slot := 4, constantValue := 0 }, { name := "negativeZeroFloatBits", type := .long, accessFlags := 26, slot := 5, constantValue := 0 }, { name := "negativeZeroDoubleBits", type := .long, accessFlags := 26, slot := 6, constantValue := 0 }, { name := "twoToTheDoubleScaleUp", type := .double, accessFlags := 8, slot := 7, constantValue := 0 }, { name := "twoToTheDoubleScaleDown", type := .double, accessFlags := 8, slot := 8, constantValue := 0 }, { name := "$assertionsDisabled", type := .boolean, accessFlags := 4120, slot := 9, constantValue := 0 }]
  methods := #[k2m0, k2m1, k2m2]
  instanceTypes := #[]
  staticTypes := #[.double, .double, .double, .double, .double, .long, .long, .double, .double, .boolean]
  resolved := Array.replicate 460 none
  statics := none }

def pool3 : Array CpInfo := pool [(2, .class_ 4), (1, u "java/lang/Object"), (0, u "<init>"), (0, u "()V"), (0, .methodref 8 9), (0, .class_ 10), (0, .nameAndType 11 12), (0, u "java/lang/Math"), (0, u "min"), (0, u "(JJ)J"), (0, .methodref 8 14), (0, .nameAndType 11 15), (0, u "(II)I"), (0, .methodref 17 18), (0, .class_ 19), (0, .nameAndType 20 21), (0, u "java/lang/System"), (0, u "arraycopy"), (0, u "(Ljava/lang/Object;ILjava/lang/Object;II)V"), (0, .class_ 23), (0, u "com/example/gauge_terms/gaugeterms/TopValues"), (2, u "positions"), (0, u "([DJ)[I")] 5

def k3m0 : Method := { name := "<init>", desc := "()V", sig := { parameters := [], returnType := none }, accessFlags := 2, code := none }
def k3c1 : Code := { maxStack := 6, maxLocals := 8, code := prog_3_method_2_code, exceptionTable := #[], attributes := #[] }
def k3m1 : Method := { name := "positions", desc := "([DJ)[I", sig := { parameters := [(.array .double), .long], returnType := some (.array .int) }, accessFlags := 9, code := some k3c1 }
/-- com/example/gauge_terms/gaugeterms/TopValues -/
def k3 : Class := { plain "com/example/gauge_terms/gaugeterms/TopValues" (some 0) with
  accessFlags := 33
  interfaces := #[]
  cf := some (fileOf pool3 22 #[] #[{ accessFlags := 2, nameIndex := 5, descriptorIndex := 6, attributes := #[] }, { accessFlags := 9, nameIndex := 26, descriptorIndex := 27, attributes := #[] }] 33 2 #[] #[])
  fields := #[]
  methods := #[k3m0, k3m1]
  instanceTypes := #[]
  staticTypes := #[]
  resolved := Array.replicate 33 none
  statics := none }

def pool4 : Array CpInfo := pool [(2, .class_ 4), (1, u "java/lang/Object"), (0, u "<init>"), (0, u "()V"), (1, .class_ 10), (1, u "java/lang/System"), (0, u "allowSecurityManager"), (0, u "I"), (16, u "cons"), (0, u "Ljava/io/Console;"), (77, .class_ 110), (1, u "java/lang/System$CallersHolder"), (43, u "initialErrStream"), (0, u "Ljava/io/PrintStream;"), (19, u "security"), (0, u "Ljava/lang/SecurityManager;"), (31, .class_ 209), (0, u "java/lang/System$1"), (7, u "props"), (0, u "Ljava/util/Properties;"), (2, u "lineSeparator"), (0, u "Ljava/lang/String;"), (96, .class_ 321), (1, u "java/lang/System$LoggerFinder"), (5, .class_ 328), (0, u "java/lang/System$Logger"), (67, u "err"), (2, u "out"), (91, u "notSupportedJnuEncoding"), (15, u "in"), (17, u "initialIn"), (0, u "Ljava/io/InputStream;"), (35, u "bootLayer"), (0, u "Ljava/lang/ModuleLayer;"), (99, .class_ 664), (0, u "java/lang/System$2"), (9, u "NEVER"), (2, u "MAYBE"), (49, u "arraycopy"), (0, u "(Ljava/lang/Object;ILjava/lang/Object;II)V"), (72, .class_ 802), (0, u "java/lang/System$Logger$Level")] 31

def k4m0 : Method := { name := "<init>", desc := "()V", sig := { parameters := [], returnType := none }, accessFlags := 2, code := none }
def k4m1 : Method := { name := "arraycopy", desc := "(Ljava/lang/Object;ILjava/lang/Object;II)V", sig := { parameters := [(.object "java/lang/Object"), .int, (.object "java/lang/Object"), .int, .int], returnType := none }, accessFlags := 265, code := none }
/-- java/lang/System -/
def k4 : Class := { plain "java/lang/System" (some 0) with
  accessFlags := 49
  interfaces := #[]
  cf := some (fileOf pool4 8 #[.nestMembers #[319, 327, 801, 108, 663, 208]] #[{ accessFlags := 2, nameIndex := 5, descriptorIndex := 6, attributes := #[] }, { accessFlags := 265, nameIndex := 727, descriptorIndex := 728, attributes := #[] }] 49 2 #[] #[{ accessFlags := 25, nameIndex := 507, descriptorIndex := 526, attributes := #[] }, { accessFlags := 25, nameIndex := 399, descriptorIndex := 155, attributes := #[] }, { accessFlags := 25, nameIndex := 396, descriptorIndex := 155, attributes := #[] }, { accessFlags := 10, nameIndex := 525, descriptorIndex := 526, attributes := #[] }, { accessFlags := 26, nameIndex := 674, descriptorIndex := 12, attributes := #[] }, { accessFlags := 26, nameIndex := 677, descriptorIndex := 12, attributes := #[] }, { accessFlags := 10, nameIndex := 11, descriptorIndex := 12, attributes := #[] }, { accessFlags := 74, nameIndex := 175, descriptorIndex := 176, attributes := #[] }, { accessFlags := 10, nameIndex := 491, descriptorIndex := 222, attributes := #[] }, { accessFlags := 74, nameIndex := 29, descriptorIndex := 30, attributes := #[] }, { accessFlags := 74, nameIndex := 154, descriptorIndex := 155, attributes := #[] }, { accessFlags := 10, nameIndex := 217, descriptorIndex := 218, attributes := #[] }, { accessFlags := 10, nameIndex := 221, descriptorIndex := 222, attributes := #[] }, { accessFlags := 8, nameIndex := 562, descriptorIndex := 563, attributes := #[] }])
  fields := #[{ name := "in", type := (.object "java/io/InputStream"), accessFlags := 25, slot := 0, constantValue := 0 }, { name := "out", type := (.object "java/io/PrintStream"), accessFlags := 25, slot := 1, constantValue := 0 }, { name := "err", type := (.object "java/io/PrintStream"), accessFlags := 25, slot := 2, constantValue := 0 }, { name := "initialIn", type := (.object "java/io/InputStream"), accessFlags := 10, slot := 3, constantValue := 0 }, { name := "NEVER", type := .int, accessFlags := 26, slot := 4, constantValue := 0 }, { name := "MAYBE", type := .int, accessFlags := 26, slot := 5, constantValue := 0 }, { name := "allowSecurityManager", type := .int, accessFlags := 10, slot := 6, constantValue := 0 }, { name := "security", type := (.object "java/lang/SecurityManager"), accessFlags := 74, slot := 7, constantValue := 0 }, { name := "notSupportedJnuEncoding", type := (.object "java/lang/String"), accessFlags := 10, slot := 8, constantValue := 0 }, { name := "cons", type := (.object "java/io/Console"), accessFlags := 74, slot := 9, constantValue := 0 }, { name := "initialErrStream", type := (.object "java/io/PrintStream"), accessFlags := 74, slot := 10, constantValue := 0 }, { name := "props", type := (.object "java/util/Properties"), accessFlags := 10, slot := 11, constantValue := 0 }, { name := "lineSeparator", type := (.object "java/lang/String"), accessFlags := 10, slot := 12, constantValue := 0 }, { name := "bootLayer", type := (.object "java/lang/ModuleLayer"), accessFlags := 8, slot := 13, constantValue := 0 }]
  methods := #[k4m0, k4m1]
  instanceTypes := #[]
  staticTypes := #[(.object "java/io/InputStream"), (.object "java/io/PrintStream"), (.object "java/io/PrintStream"), (.object "java/io/InputStream"), .int, .int, .int, (.object "java/lang/SecurityManager"), (.object "java/lang/String"), (.object "java/io/Console"), (.object "java/io/PrintStream"), (.object "java/util/Properties"), (.object "java/lang/String"), (.object "java/lang/ModuleLayer")]
  resolved := Array.replicate 834 none
  statics := none }

def pool5 : Array CpInfo := pool [(1, u "java/lang/Cloneable"), (0, .class_ 1), (0, u "java/lang/Object"), (0, .class_ 3)] 3

/-- java/lang/Cloneable -/
def k5 : Class := { plain "java/lang/Cloneable" (some 0) with
  accessFlags := 1537
  interfaces := #[]
  cf := some (fileOf pool5 2 #[] #[] 1537 4 #[] #[])
  fields := #[]
  methods := #[]
  instanceTypes := #[]
  staticTypes := #[]
  resolved := Array.replicate 8 none
  statics := none }

def pool6 : Array CpInfo := pool [(1, u "java/io/Serializable"), (0, .class_ 1), (0, u "java/lang/Object"), (0, .class_ 3)] 3

/-- java/io/Serializable -/
def k6 : Class := { plain "java/io/Serializable" (some 0) with
  accessFlags := 1537
  interfaces := #[]
  cf := some (fileOf pool6 2 #[] #[] 1537 4 #[] #[])
  fields := #[]
  methods := #[]
  instanceTypes := #[]
  staticTypes := #[]
  resolved := Array.replicate 8 none
  statics := none }

/-- the primitive byte -/
def k7 : Class := { plain "byte" none with kind := .primitive 'B', accessFlags := 0x411 }
/-- [B -/
def k8 : Class := { plain "[B" (some 0) with kind := .array 7 .byte, interfaces := #[5, 6], accessFlags := 1041 }

/-- the primitive double -/
def k9 : Class := { plain "double" none with kind := .primitive 'D', accessFlags := 0x411 }
/-- [D -/
def k10 : Class := { plain "[D" (some 0) with kind := .array 9 .double, interfaces := #[5, 6], accessFlags := 1041 }

/-- the primitive int -/
def k11 : Class := { plain "int" none with kind := .primitive 'I', accessFlags := 0x411 }
/-- [I -/
def k12 : Class := { plain "[I" (some 0) with kind := .array 11 .int, interfaces := #[5, 6], accessFlags := 1041 }

def heap : Heap := #[]
def classes : Array Class := #[k0, k1, k2, k3, k4, k5, k6, k7, k8, k9, k10, k11, k12]
def interned : List (Array UInt16 × Addr) := []
def slotsUsed : Nat := 0
def theMethod : MethodId := ⟨1, 5⟩
def args0 : Array Value := #[.int 2, .int 9, .long 3]
def aboutOver (below : List Frame) : State where
  vm := { classes := classes, interned := interned.toArray }
  heap := heap
  slotsUsed := slotsUsed
  threads := #[{ frames := .invoking theMethod args0 :: below }]
def below0 : List Frame := [.native { method := ⟨0, 0⟩, args := #[] }]
def about1 : State := aboutOver below0
def p0 : Program := .bare "" "" ""
def e0 : Env := launch0.env 0 0 0
theorem w_frames : about1.frames = Frame.invoking theMethod args0 :: below0 := rfl
set_option maxRecDepth 65536 in
theorem w_args : argsFit about1.vm theMethod args0 = true := by decide +kernel
set_option maxRecDepth 65536 in
theorem w_heap : heapFits about1 = true := by decide +kernel
set_option maxRecDepth 65536 in
theorem w_runnable : about1.curStatus? = some .runnable := by decide +kernel
set_option maxRecDepth 65536 in
theorem w_alone : about1.alone = true := by decide +kernel
set_option maxRecDepth 65536 in
theorem w_named : about1.methodNamed? x = some theMethod := by decide +kernel
set_option maxRecDepth 65536 in
theorem w_hears : about1.hears theMethod below0 = true := by decide +kernel
set_option maxRecDepth 65536 in
theorem w_ripe : about1.ripe theMethod args0 below0 = true := by decide +kernel
theorem w_running : about1.status = .running := rfl
set_option maxRecDepth 65536 in
theorem w_room : about1.hasRoom e0.platform room_1 = true :=
  launch0.hasRoom_least _ room_1 (by decide +kernel) (by decide +kernel) (by decide +kernel) (by decide +kernel) (by decide +kernel) (by decide +kernel)
theorem allAtoms_all (ts : List Jvm.Cond) (a : Array Jvm.Value) (st : Jvm.State) : (allAtoms ts).before a st = ts.all (fun c => c.before a st) := by
  induction ts with
  | nil => rfl
  | cons c t ih =>
    show (Jvm.Cond.and c (allAtoms t)).before a st = _
    rw [Jvm.Cond.before_and, ih, List.all_cons]
def words1 : List Jvm.Cond := Jvm.Cond.code x code maxLocals ret :: tables_1
/-- a 'code' word, met by the world's own term for the bytes: nothing is compared byte by byte -/
theorem code_word {y : MethodName} {bytes : ByteArray} {mx : Nat} {rt : Option FieldType} {a : Array Value} {s : State} {m : MethodId} {meth : Method} {c : Code} (h1 : s.methodNamed? y = some m) (h2 : s.vm.method? m = some meth) (h3 : meth.code = some c) (h4 : c.code = bytes)
    (h5 : (c.maxLocals == mx && c.exceptionTable.isEmpty && decide (c.maxStack ≤ mostOperands) && decide (meth.sig.returnType = rt) && !meth.locks && decide (parseMethodDescriptor y.desc = some meth.sig)) = true) : (Jvm.Cond.code y bytes mx rt).before a s = true := by
  simp only [Bool.and_eq_true, beq_iff_eq, Bool.not_eq_true', decide_eq_true_eq] at h5
  obtain ⟨⟨⟨⟨⟨g1, g2⟩, g3⟩, g4⟩, g5⟩, g6⟩ := h5
  simp [Cond.before, Cond.holds, Cond.value, h1, h2, h3, h4, g1, g2, g3, g4, g5, g6]
def isCode : Jvm.Cond → Bool
  | .code _ _ _ _ => true
  | _ => false
theorem all_split {L : List Jvm.Cond} {P : Jvm.Cond → Bool} (h1 : L.all (fun c => isCode c || P c) = true) (h2 : ∀ c ∈ L.filter isCode, P c = true) : L.all P = true := by
  refine List.all_eq_true.mpr fun c hc => ?_
  have h := List.all_eq_true.mp h1 c hc
  rcases Bool.eq_false_or_eq_true (isCode c) with hi | hi
  · exact h2 c (List.mem_filter.mpr ⟨hc, hi⟩)
  · simpa [hi] using h
set_option maxRecDepth 65536 in
theorem w_c0 : (Jvm.Cond.code x code maxLocals ret).before args0 about1 = true := code_word (m := ⟨1, 5⟩) (meth := k1m5) (c := k1c5) (by decide +kernel) rfl rfl rfl (by decide +kernel)
set_option maxRecDepth 65536 in
theorem w_c1 : (Jvm.Cond.code ({ cls := "com/example/gauge_terms/gaugeterms/TopValuesPositionsPinLaw", name := "build", desc := "(IDDDD)[D" } : Jvm.MethodName) method_2_code (9 : Nat) (Option.some (Jvm.ClassFile.FieldType.array Jvm.ClassFile.FieldType.double))).before args0 about1 = true := code_word (m := ⟨1, 1⟩) (meth := k1m1) (c := k1c1) (by decide +kernel) rfl rfl rfl (by decide +kernel)
set_option maxRecDepth 65536 in
theorem w_c2 : (Jvm.Cond.code ({ cls := "java/lang/Math", name := "min", desc := "(JJ)J" } : Jvm.MethodName) jdk_29_method_70_code (4 : Nat) (Option.some Jvm.ClassFile.FieldType.long)).before args0 about1 = true := code_word (m := ⟨2, 2⟩) (meth := k2m2) (c := k2c2) (by decide +kernel) rfl rfl rfl (by decide +kernel)
set_option maxRecDepth 65536 in
theorem w_c3 : (Jvm.Cond.code ({ cls := "com/example/gauge_terms/gaugeterms/TopValues", name := "positions", desc := "([DJ)[I" } : Jvm.MethodName) prog_3_method_2_code (8 : Nat) (Option.some (Jvm.ClassFile.FieldType.array Jvm.ClassFile.FieldType.int))).before args0 about1 = true := code_word (m := ⟨3, 1⟩) (meth := k3m1) (c := k3c1) (by decide +kernel) rfl rfl rfl (by decide +kernel)
set_option maxRecDepth 65536 in
theorem w_c4 : (Jvm.Cond.code ({ cls := "java/lang/Math", name := "min", desc := "(II)I" } : Jvm.MethodName) jdk_29_method_69_code (2 : Nat) (Option.some Jvm.ClassFile.FieldType.int)).before args0 about1 = true := code_word (m := ⟨2, 1⟩) (meth := k2m1) (c := k2c1) (by decide +kernel) rfl rfl rfl (by decide +kernel)
set_option maxRecDepth 65536 in
theorem w_c5 : (Jvm.Cond.code ({ cls := "com/example/gauge_terms/gaugeterms/TopValuesPositionsPinLaw", name := "check", desc := "([D[II)Z" } : Jvm.MethodName) method_5_code (4 : Nat) (Option.some Jvm.ClassFile.FieldType.boolean)).before args0 about1 = true := code_word (m := ⟨1, 4⟩) (meth := k1m4) (c := k1c4) (by decide +kernel) rfl rfl rfl (by decide +kernel)
set_option maxRecDepth 65536 in
theorem w_c6 : (Jvm.Cond.code ({ cls := "com/example/gauge_terms/gaugeterms/TopValuesPositionsPinLaw", name := "rank", desc := "([DI)I" } : Jvm.MethodName) method_4_code (2 : Nat) (Option.some Jvm.ClassFile.FieldType.int)).before args0 about1 = true := code_word (m := ⟨1, 3⟩) (meth := k1m3) (c := k1c3) (by decide +kernel) rfl rfl rfl (by decide +kernel)
set_option maxRecDepth 65536 in
theorem w_c7 : (Jvm.Cond.code ({ cls := "com/example/gauge_terms/gaugeterms/TopValuesPositionsPinLaw", name := "beats", desc := "([DII)I" } : Jvm.MethodName) method_3_code (3 : Nat) (Option.some Jvm.ClassFile.FieldType.int)).before args0 about1 = true := code_word (m := ⟨1, 2⟩) (meth := k1m2) (c := k1c2) (by decide +kernel) rfl rfl rfl (by decide +kernel)
def codes1 : List Jvm.Cond := [Jvm.Cond.code x code maxLocals ret, Jvm.Cond.code ({ cls := "com/example/gauge_terms/gaugeterms/TopValuesPositionsPinLaw", name := "build", desc := "(IDDDD)[D" } : Jvm.MethodName) method_2_code (9 : Nat) (Option.some (Jvm.ClassFile.FieldType.array Jvm.ClassFile.FieldType.double)), Jvm.Cond.code ({ cls := "java/lang/Math", name := "min", desc := "(JJ)J" } : Jvm.MethodName) jdk_29_method_70_code (4 : Nat) (Option.some Jvm.ClassFile.FieldType.long), Jvm.Cond.code ({ cls := "com/example/gauge_terms/gaugeterms/TopValues", name := "positions", desc := "([DJ)[I" } : Jvm.MethodName) prog_3_method_2_code (8 : Nat) (Option.some (Jvm.ClassFile.FieldType.array Jvm.ClassFile.FieldType.int)), Jvm.Cond.code ({ cls := "java/lang/Math", name := "min", desc := "(II)I" } : Jvm.MethodName) jdk_29_method_69_code (2 : Nat) (Option.some Jvm.ClassFile.FieldType.int), Jvm.Cond.code ({ cls := "com/example/gauge_terms/gaugeterms/TopValuesPositionsPinLaw", name := "check", desc := "([D[II)Z" } : Jvm.MethodName) method_5_code (4 : Nat) (Option.some Jvm.ClassFile.FieldType.boolean), Jvm.Cond.code ({ cls := "com/example/gauge_terms/gaugeterms/TopValuesPositionsPinLaw", name := "rank", desc := "([DI)I" } : Jvm.MethodName) method_4_code (2 : Nat) (Option.some Jvm.ClassFile.FieldType.int), Jvm.Cond.code ({ cls := "com/example/gauge_terms/gaugeterms/TopValuesPositionsPinLaw", name := "beats", desc := "([DII)I" } : Jvm.MethodName) method_3_code (3 : Nat) (Option.some Jvm.ClassFile.FieldType.int)]
set_option maxRecDepth 65536 in
theorem codes_eq : words1.filter isCode = codes1 := rfl
theorem w_codes : ∀ c ∈ words1.filter isCode, c.before args0 about1 = true := by
  rw [codes_eq]
  intro c hc
  simp only [codes1, List.mem_cons, List.not_mem_nil, or_false] at hc
  rcases hc with rfl | rfl | rfl | rfl | rfl | rfl | rfl | rfl
  · exact w_c0
  · exact w_c1
  · exact w_c2
  · exact w_c3
  · exact w_c4
  · exact w_c5
  · exact w_c6
  · exact w_c7
set_option maxRecDepth 65536 in
theorem w_t1 : (words1.take 24).all (fun c => isCode c || c.before args0 about1) = true := by decide +kernel
set_option maxRecDepth 65536 in
theorem w_t2 : (words1.drop 24).all (fun c => isCode c || c.before args0 about1) = true := by decide +kernel
theorem w_tables : (allAtoms (Jvm.Cond.code x code maxLocals ret :: tables_1)).before args0 about1 = true := by
  rw [allAtoms_all]
  show words1.all (fun c => c.before args0 about1) = true
  refine all_split ?_ w_codes
  rw [← List.take_append_drop 24 words1, List.all_append, w_t1, w_t2]
  rfl
set_option maxRecDepth 65536 in
theorem w_case : (Jvm.Cond.and given_1 narrow_1).before args0 about1 = true := by decide +kernel
theorem w_applies : (headSpec (Jvm.Cond.code x code maxLocals ret :: tables_1) room_1).applies x e0.platform about1 = true :=
  (Spec.applies_iff w_frames).mpr ⟨w_running, w_runnable, w_alone, w_named, w_hears, w_ripe, w_room, w_tables⟩
theorem atStart : AtStart classFile x code maxLocals ret World_1 tables_1 room_1 Calls_1 rest_1 Pre_1 launch0 p0 e0 about1 theMethod args0 below0 :=
  ⟨lists_1, trivial, launch0.admits_env _ _ _, launch0.least_env, fairChoices_fair.cas, fairChoices_fair.clock, w_frames, w_args, w_heap, w_applies, trivial, trivial, w_case⟩
end start1
theorem witness_1 : WitnessClaimed_1 := ⟨start1.p0, start1.e0, start1.about1, start1.theMethod, start1.args0, start1.below0, start1.atStart⟩
end Jvm.Pilot.@@N@@
