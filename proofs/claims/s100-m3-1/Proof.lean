import JvmDerived
import JvmDerived.Pilot.@@N@@Statement
import JvmDerived.Pilot.@@N@@Code
set_option linter.unusedVariables false
set_option linter.unusedSimpArgs false
namespace Jvm.Pilot.@@N@@
open Jvm Jvm.ClassFile Sem Op Lib Jvm.Free Jvm.Stand Jvm.LawKit Jvm.RoadKit Bundle Jvm.Pilot.@@N@@.Jvm.D
theorem tw {Z : State} {a0 : Array Value} (hw : ∀ d ∈ tables_1, d.before a0 Z = true) (i : Nat) {d : Jvm.Cond} (hd : tables_1[i]? = some d := by rfl) : d.before a0 Z = true := hw d (List.mem_of_getElem? hd)
abbrev own_Nar : Prop := False
abbrev own_EL : List (String × Nat) := [("com/example/gatewarden/gatewarden/access/Assignee", 49), ("com/example/gatewarden/gatewarden/access/AssigneeViaPinLaw", 40), ("java/lang/String", 7), ("java/lang/StringLatin1", 168), ("java/lang/StringLatin1", 170), ("java/lang/StringLatin1", 172)]
section Own
variable {p : Program} {l : Launch} {e : Env} {R : Room} {s : State} {m : MethodId} {args : Array Value} {below : List Frame} {meth : Method} {c : Code} {Z : State} {a0 : Array Value} {y : MethodName} {bytes : ByteArray} {maxL : Nat} {ret : Option FieldType} {T : State} {h : Heap} {ce sl : Nat} {sf : List Addr} {G : State → Prop} {pc : Nat} {L : Array Slot} {S : List Value}
/-- where a walk stands: the state T, its heap h, what has been made, the cells that no constant books -/
def Wk (p : Program) (l : Launch) (e : Env) (R : Room) (s : State) (m : MethodId) (args : Array Value) (below : List Frame) (meth : Method) (c : Code) (Z : State) (y : MethodName) (bytes : ByteArray) (maxL : Nat) (ret : Option FieldType) (T : State) (h : Heap) (ce sl : Nat) (sf : List Addr) : Prop :=
  ∃ (vm0 : Vm) (k0 : Nat) (locs : List Loc), Stand p l e R (s.setVm vm0) m args below meth c T locs ce sl ∧ T.heap = h ∧ s.Since vm0 k0 ∧ k0 ≤ h.size ∧ Z.Warmed39 (s.setVm vm0).vm ∧ (s.setVm vm0).vm.findClass y.cls = some m.cls ∧ Fr Z.heap.size locs ∧ (own_Nar → s.WarmedH vm0) ∧ CHr Z own_EL s.vm s.heap vm0 h ∧ (∀ x ∈ sf, x < h.size ∧ Safe Z own_EL vm0 h x) ∧ Ext Z.heap h ∧ (∃ a1, EW Z a1 own_EL) ∧ p.tables.exec = Jvm.exec ∧ c.code = bytes ∧ c.maxLocals = maxL ∧ meth.name = y.name ∧ meth.sig.returnType = ret ∧ meth.locks = false
def Go (p : Program) (e : Env) (below : List Frame) (G : State → Prop) (T : State) (g : JFrame) : Prop := ∃ u, Steps p.tables e below (T.setTop g) u ∧ G u
theorem Go.st {T' : State} {g g' : JFrame} (K : Go p e below G T' g') (f : ∀ u, Steps p.tables e below (T'.setTop g') u → Steps p.tables e below (T.setTop g) u) : Go p e below G T g := by
  obtain ⟨u, k, q⟩ := K
  exact ⟨u, f u k, q⟩
theorem Go.cut {g g' : JFrame} (A : Go p e below G T g' → Go p e below G T g) (B : Go p e below G T g') : Go p e below G T g := A B
theorem Go.eq {g g' : JFrame} (K : Go p e below G T g') (q : g' = g) : Go p e below G T g := q ▸ K
theorem Go.cutW {g g' : JFrame} (W : Wk p l e R s m args below meth c Z y bytes maxL ret T h ce sl sf) (A : (∀ T', Wk p l e R s m args below meth c Z y bytes maxL ret T' h ce sl sf → Go p e below G T' g') → Go p e below G T g) (B : ∀ T', Wk p l e R s m args below meth c Z y bytes maxL ret T' h ce sl sf → Go p e below G T' g') : Go p e below G T g := A B
theorem own_ext_refl (h : Heap) : Ext h h := ⟨Nat.le_refl _, fun _ _ q => q⟩
theorem own_ext_trans {h h' h2 : Heap} (A : Ext h h') (B : Ext h' h2) : Ext h h2 := ⟨Nat.le_trans A.1 B.1, fun x c q => B.2 x c (A.2 x c q)⟩
theorem own_ext_wr {h0 h h' : Heap} {a : Addr} {i : Nat} {v : Value} (E : Ext h0 h) (W : Wr h h' a i v) (q : h0.size ≤ a) : Ext h0 h' := by
  refine ⟨Nat.le_trans E.1 (Nat.le_of_eq W.size.symm), fun x cc r => ?_⟩
  obtain ⟨c', e1, -, -, -, e5, -⟩ := wr_at W (E.2 x cc r)
  have hlt := (Array.getElem?_eq_some_iff.mp r).1
  rw [e1, e5 (Nat.ne_of_lt (Nat.lt_of_lt_of_le hlt q))]
theorem own_ext_keep {h0 h h' : Heap} {a : Addr} (E : Ext h0 h) (K : Keep h h' [a]) (q : h0.size ≤ a) : Ext h0 h' := ⟨Nat.le_trans E.1 K.1, fun x cc r => K.2.1 x cc (E.2 x cc r) fun z => by
  have hlt := (Array.getElem?_eq_some_iff.mp r).1
  rw [List.mem_singleton.mp z] at hlt; omega⟩
theorem own_ns_root {O K : String} {n : Nat} (w : (Jvm.Cond.noSuperclass O).before a0 Z = true) (wk : (Jvm.Cond.instantiable K n).before a0 Z = true) (hn : O ≠ K) : NS Z O K := by
  obtain ⟨c, k, h1, h2, h3, -, -⟩ := Cond.noSuperclass_spec w
  obtain ⟨t, kt, g1, -⟩ := Cond.instantiable_spec wk
  have ne := ids_ne h1 g1 hn
  refine ⟨c, t, h1, g1, fun fuel => ?_⟩
  cases fuel with
  | zero => rfl
  | succ f => simp [Vm.isSubclassAux, ne, h2, h3]
theorem own_ns_no {C S' K : String} {n : Nat} (w : (Jvm.Cond.superclass C S').before a0 Z = true) (wk : (Jvm.Cond.instantiable K n).before a0 Z = true) (N : NS Z C K) (hn : C ≠ K) : ∃ c t, Z.vm.findClass C = some c ∧ Z.vm.findClass K = some t ∧ Z.vm.assignable c t = false := by
  obtain ⟨c, t, h0, g0, n3⟩ := N
  obtain ⟨p, k, kp, h1, h2, h3, h4, h5, -, h7⟩ := Cond.superclass_spec h0 w
  obtain ⟨t', kt, g1, g2, g3, g4, -⟩ := Cond.instantiable_spec wk
  cases g0.symm.trans g1
  have g7 : kt.isInterface = false := by cases q : kt.isInterface <;> simp_all
  have ne := ids_ne h0 g0 hn
  refine ⟨c, t, h0, g0, ?_⟩
  show Z.vm.assignableAux (255 + 1) c t = false
  simp [Vm.assignableAux, ne, h2, g2, h5, g3, g7, Vm.isSubclass, n3]
theorem Wk.old (W : Wk p l e R s m args below meth c Z y bytes maxL ret T h ce sl sf) : Ext Z.heap h := by obtain ⟨vm0, k0, locs, X, eT, hS, hk, hZ, hown, hF, hN, hC, hsf, hE, ⟨a1, hEL⟩, hx, hby, hml, hnm, hrt, hlk⟩ := W; exact hE
theorem Wk.mono (W : Wk p l e R s m args below meth c Z y bytes maxL ret T h ce sl sf) {ce' sl' : Nat} (q : ce ≤ ce') (r : sl ≤ sl') : Wk p l e R s m args below meth c Z y bytes maxL ret T h ce' sl' sf := by
  obtain ⟨vm0, k0, locs, X, eT, hS, hk, hZ, hown, hF, hN, hC, hsf, hE, ⟨a1, hEL⟩, hx, hby, hml, hnm, hrt, hlk⟩ := W
  exact ⟨vm0, k0, locs, X.mono q r, eT, hS, hk, hZ, hown, hF, hN, hC, hsf, hE, ⟨a1, hEL⟩, hx, hby, hml, hnm, hrt, hlk⟩
theorem Wk.drop (W : Wk p l e R s m args below meth c Z y bytes maxL ret T h ce sl sf) {sf' : List Addr} (q : ∀ x ∈ sf', x ∈ sf) : Wk p l e R s m args below meth c Z y bytes maxL ret T h ce sl sf' := by
  obtain ⟨vm0, k0, locs, X, eT, hS, hk, hZ, hown, hF, hN, hC, hsf, hE, ⟨a1, hEL⟩, hx, hby, hml, hnm, hrt, hlk⟩ := W
  exact ⟨vm0, k0, locs, X, eT, hS, hk, hZ, hown, hF, hN, hC, fun x hx => hsf x (q x hx), hE, ⟨a1, hEL⟩, hx, hby, hml, hnm, hrt, hlk⟩
theorem o_iloadN (pc' : Nat) (W : Wk p l e R s m args below meth c Z y bytes maxL ret T h ce sl sf) {k : Fin 4} {v : Int32} (hd : decode bytes pc = .ok (.iload_n k, 1)) (hl : L[k.val]? = some (.val (.int v))) (K : Go p e below G T (mkF m pc' L (.int v :: S))) (hp : pc + 1 = pc' := by rfl) : Go p e below G T (mkF m pc L (S)) := by
  subst hp
  obtain ⟨vm0, k0, locs, X, eT, hS, hk, hZ, hown, hF, hN, hC, hsf, hE, ⟨a1, hEL⟩, hx, hby, hml, hnm, hrt, hlk⟩ := W
  subst hby
  exact K.st fun u k => XS.iloadN X.here hx rfl hd hl k
theorem o_iload (pc' : Nat) (W : Wk p l e R s m args below meth c Z y bytes maxL ret T h ce sl sf) {k : Nat} {v : Int32} (hd : decode bytes pc = .ok (.iload k, 2)) (hl : L[k]? = some (.val (.int v))) (K : Go p e below G T (mkF m pc' L (.int v :: S))) (hp : pc + 2 = pc' := by rfl) : Go p e below G T (mkF m pc L (S)) := by
  subst hp
  obtain ⟨vm0, k0, locs, X, eT, hS, hk, hZ, hown, hF, hN, hC, hsf, hE, ⟨a1, hEL⟩, hx, hby, hml, hnm, hrt, hlk⟩ := W
  subst hby
  exact K.st fun u k => XS.iload X.here hx rfl hd hl k
theorem o_lloadN (pc' : Nat) (W : Wk p l e R s m args below meth c Z y bytes maxL ret T h ce sl sf) {k : Fin 4} {v : Int64} (hd : decode bytes pc = .ok (.lload_n k, 1)) (hl : L[k.val]? = some (.val (.long v))) (K : Go p e below G T (mkF m pc' L (.long v :: S))) (hp : pc + 1 = pc' := by rfl) : Go p e below G T (mkF m pc L (S)) := by
  subst hp
  obtain ⟨vm0, k0, locs, X, eT, hS, hk, hZ, hown, hF, hN, hC, hsf, hE, ⟨a1, hEL⟩, hx, hby, hml, hnm, hrt, hlk⟩ := W
  subst hby
  exact K.st fun u k => XT.lloadN X.here hx rfl hd hl k
theorem o_lload (pc' : Nat) (W : Wk p l e R s m args below meth c Z y bytes maxL ret T h ce sl sf) {k : Nat} {v : Int64} (hd : decode bytes pc = .ok (.lload k, 2)) (hl : L[k]? = some (.val (.long v))) (K : Go p e below G T (mkF m pc' L (.long v :: S))) (hp : pc + 2 = pc' := by rfl) : Go p e below G T (mkF m pc L (S)) := by
  subst hp
  obtain ⟨vm0, k0, locs, X, eT, hS, hk, hZ, hown, hF, hN, hC, hsf, hE, ⟨a1, hEL⟩, hx, hby, hml, hnm, hrt, hlk⟩ := W
  subst hby
  exact K.st fun u k => XT.lload X.here hx rfl hd hl k
theorem o_aloadN (pc' : Nat) (W : Wk p l e R s m args below meth c Z y bytes maxL ret T h ce sl sf) {k : Fin 4} {v : Value} (hd : decode bytes pc = .ok (.aload_n k, 1)) (hl : L[k.val]? = some (.val v)) (hv : v.isRef = true) (K : Go p e below G T (mkF m pc' L (v :: S))) (hp : pc + 1 = pc' := by rfl) : Go p e below G T (mkF m pc L (S)) := by
  subst hp
  obtain ⟨vm0, k0, locs, X, eT, hS, hk, hZ, hown, hF, hN, hC, hsf, hE, ⟨a1, hEL⟩, hx, hby, hml, hnm, hrt, hlk⟩ := W
  subst hby
  exact K.st fun u k => XS.aloadN X.here hx rfl hd hl hv k
theorem o_aload (pc' : Nat) (W : Wk p l e R s m args below meth c Z y bytes maxL ret T h ce sl sf) {k : Nat} {v : Value} (hd : decode bytes pc = .ok (.aload k, 2)) (hl : L[k]? = some (.val v)) (hv : v.isRef = true) (K : Go p e below G T (mkF m pc' L (v :: S))) (hp : pc + 2 = pc' := by rfl) : Go p e below G T (mkF m pc L (S)) := by
  subst hp
  obtain ⟨vm0, k0, locs, X, eT, hS, hk, hZ, hown, hF, hN, hC, hsf, hE, ⟨a1, hEL⟩, hx, hby, hml, hnm, hrt, hlk⟩ := W
  subst hby
  exact K.st fun u k => XS.aload X.here hx rfl hd hl hv k
theorem o_istoreN (pc' : Nat) (W : Wk p l e R s m args below meth c Z y bytes maxL ret T h ce sl sf) {k : Fin 4} {v : Int32} (L' : Array Slot) (hd : decode bytes pc = .ok (.istore_n k, 1)) (hl : storeLocals L k.val (.int v) = some L') (K : Go p e below G T (mkF m pc' L' (S))) (hp : pc + 1 = pc' := by rfl) : Go p e below G T (mkF m pc L (.int v :: S)) := by
  subst hp
  obtain ⟨vm0, k0, locs, X, eT, hS, hk, hZ, hown, hF, hN, hC, hsf, hE, ⟨a1, hEL⟩, hx, hby, hml, hnm, hrt, hlk⟩ := W
  subst hby
  exact K.st fun u k => XS.istoreN X.here hx rfl hd rfl hl k
theorem o_istore (pc' : Nat) (W : Wk p l e R s m args below meth c Z y bytes maxL ret T h ce sl sf) {k : Nat} {v : Int32} (L' : Array Slot) (hd : decode bytes pc = .ok (.istore k, 2)) (hl : storeLocals L k (.int v) = some L') (K : Go p e below G T (mkF m pc' L' (S))) (hp : pc + 2 = pc' := by rfl) : Go p e below G T (mkF m pc L (.int v :: S)) := by
  subst hp
  obtain ⟨vm0, k0, locs, X, eT, hS, hk, hZ, hown, hF, hN, hC, hsf, hE, ⟨a1, hEL⟩, hx, hby, hml, hnm, hrt, hlk⟩ := W
  subst hby
  exact K.st fun u k => XS.istore X.here hx rfl hd rfl hl k
theorem o_lstoreN (pc' : Nat) (W : Wk p l e R s m args below meth c Z y bytes maxL ret T h ce sl sf) {k : Fin 4} {v : Int64} (L' : Array Slot) (hd : decode bytes pc = .ok (.lstore_n k, 1)) (hl : storeLocals L k.val (.long v) = some L') (K : Go p e below G T (mkF m pc' L' (S))) (hp : pc + 1 = pc' := by rfl) : Go p e below G T (mkF m pc L (.long v :: S)) := by
  subst hp
  obtain ⟨vm0, k0, locs, X, eT, hS, hk, hZ, hown, hF, hN, hC, hsf, hE, ⟨a1, hEL⟩, hx, hby, hml, hnm, hrt, hlk⟩ := W
  subst hby
  exact K.st fun u k => XT.lstoreN X.here hx rfl hd rfl hl k
theorem o_lstore (pc' : Nat) (W : Wk p l e R s m args below meth c Z y bytes maxL ret T h ce sl sf) {k : Nat} {v : Int64} (L' : Array Slot) (hd : decode bytes pc = .ok (.lstore k, 2)) (hl : storeLocals L k (.long v) = some L') (K : Go p e below G T (mkF m pc' L' (S))) (hp : pc + 2 = pc' := by rfl) : Go p e below G T (mkF m pc L (.long v :: S)) := by
  subst hp
  obtain ⟨vm0, k0, locs, X, eT, hS, hk, hZ, hown, hF, hN, hC, hsf, hE, ⟨a1, hEL⟩, hx, hby, hml, hnm, hrt, hlk⟩ := W
  subst hby
  exact K.st fun u k => XT.lstore X.here hx rfl hd rfl hl k
theorem o_astoreN (pc' : Nat) (W : Wk p l e R s m args below meth c Z y bytes maxL ret T h ce sl sf) {k : Fin 4} {v : Value} (L' : Array Slot) (hd : decode bytes pc = .ok (.astore_n k, 1)) (hv : v.isRef = true) (hl : storeLocals L k.val v = some L') (K : Go p e below G T (mkF m pc' L' (S))) (hp : pc + 1 = pc' := by rfl) : Go p e below G T (mkF m pc L (v :: S)) := by
  subst hp
  obtain ⟨vm0, k0, locs, X, eT, hS, hk, hZ, hown, hF, hN, hC, hsf, hE, ⟨a1, hEL⟩, hx, hby, hml, hnm, hrt, hlk⟩ := W
  subst hby
  exact K.st fun u k => XS.astoreN X.here hx rfl hd rfl hv hl k
theorem o_astore (pc' : Nat) (W : Wk p l e R s m args below meth c Z y bytes maxL ret T h ce sl sf) {k : Nat} {v : Value} (L' : Array Slot) (hd : decode bytes pc = .ok (.astore k, 2)) (hv : v.isRef = true) (hl : storeLocals L k v = some L') (K : Go p e below G T (mkF m pc' L' (S))) (hp : pc + 2 = pc' := by rfl) : Go p e below G T (mkF m pc L (v :: S)) := by
  subst hp
  obtain ⟨vm0, k0, locs, X, eT, hS, hk, hZ, hown, hF, hN, hC, hsf, hE, ⟨a1, hEL⟩, hx, hby, hml, hnm, hrt, hlk⟩ := W
  subst hby
  exact K.st fun u k => XS.astore X.here hx rfl hd rfl hv hl k
theorem o_iconst (pc' : Nat) (W : Wk p l e R s m args below meth c Z y bytes maxL ret T h ce sl sf) {i : Int} (v : Int32) (hd : decode bytes pc = .ok (.iconst i, 1)) (hv : Int32.ofInt i = v) (K : Go p e below G T (mkF m pc' L (.int v :: S))) (hp : pc + 1 = pc' := by rfl) : Go p e below G T (mkF m pc L (S)) := by
  subst hp
  obtain ⟨vm0, k0, locs, X, eT, hS, hk, hZ, hown, hF, hN, hC, hsf, hE, ⟨a1, hEL⟩, hx, hby, hml, hnm, hrt, hlk⟩ := W
  subst hby
  exact K.st fun u k => XT.iconstV X.here hx rfl v hd hv k
theorem o_bipush (pc' : Nat) (W : Wk p l e R s m args below meth c Z y bytes maxL ret T h ce sl sf) {i : Int} (v : Int32) (hd : decode bytes pc = .ok (.bipush i, 2)) (hv : (Int8.ofInt i).toInt32 = v) (K : Go p e below G T (mkF m pc' L (.int v :: S))) (hp : pc + 2 = pc' := by rfl) : Go p e below G T (mkF m pc L (S)) := by
  subst hp
  obtain ⟨vm0, k0, locs, X, eT, hS, hk, hZ, hown, hF, hN, hC, hsf, hE, ⟨a1, hEL⟩, hx, hby, hml, hnm, hrt, hlk⟩ := W
  subst hby
  exact K.st fun u k => XT.bipushV X.here hx rfl v hd hv k
theorem o_sipush (pc' : Nat) (W : Wk p l e R s m args below meth c Z y bytes maxL ret T h ce sl sf) {i : Int} (v : Int32) (hd : decode bytes pc = .ok (.sipush i, 3)) (hv : (Int16.ofInt i).toInt32 = v) (K : Go p e below G T (mkF m pc' L (.int v :: S))) (hp : pc + 3 = pc' := by rfl) : Go p e below G T (mkF m pc L (S)) := by
  subst hp
  obtain ⟨vm0, k0, locs, X, eT, hS, hk, hZ, hown, hF, hN, hC, hsf, hE, ⟨a1, hEL⟩, hx, hby, hml, hnm, hrt, hlk⟩ := W
  subst hby
  exact K.st fun u k => XT.sipushV X.here hx rfl v hd hv k
theorem o_lconst (pc' : Nat) (W : Wk p l e R s m args below meth c Z y bytes maxL ret T h ce sl sf) {i : Fin 2} (v : Int64) (hd : decode bytes pc = .ok (.lconst i, 1)) (hv : Int64.ofNat i = v) (K : Go p e below G T (mkF m pc' L (.long v :: S))) (hp : pc + 1 = pc' := by rfl) : Go p e below G T (mkF m pc L (S)) := by
  subst hp
  obtain ⟨vm0, k0, locs, X, eT, hS, hk, hZ, hown, hF, hN, hC, hsf, hE, ⟨a1, hEL⟩, hx, hby, hml, hnm, hrt, hlk⟩ := W
  subst hby
  exact K.st fun u k => XT.lconstV X.here hx rfl v hd hv k
theorem o_null (pc' : Nat) (W : Wk p l e R s m args below meth c Z y bytes maxL ret T h ce sl sf)  (hd : decode bytes pc = .ok (.aconst_null, 1))  (K : Go p e below G T (mkF m pc' L (.null :: S))) (hp : pc + 1 = pc' := by rfl) : Go p e below G T (mkF m pc L (S)) := by
  subst hp
  obtain ⟨vm0, k0, locs, X, eT, hS, hk, hZ, hown, hF, hN, hC, hsf, hE, ⟨a1, hEL⟩, hx, hby, hml, hnm, hrt, hlk⟩ := W
  subst hby
  exact K.st fun u k => XS.aconstNull X.here hx rfl hd  k
theorem o_iadd (pc' : Nat) (W : Wk p l e R s m args below meth c Z y bytes maxL ret T h ce sl sf) {x z : Int32} (hd : decode bytes pc = .ok (.iadd, 1))  (K : Go p e below G T (mkF m pc' L (.int (x + z) :: S))) (hp : pc + 1 = pc' := by rfl) : Go p e below G T (mkF m pc L (.int z :: .int x :: S)) := by
  subst hp
  obtain ⟨vm0, k0, locs, X, eT, hS, hk, hZ, hown, hF, hN, hC, hsf, hE, ⟨a1, hEL⟩, hx, hby, hml, hnm, hrt, hlk⟩ := W
  subst hby
  exact K.st fun u k => XS.iadd X.here hx rfl hd rfl k
theorem o_isub (pc' : Nat) (W : Wk p l e R s m args below meth c Z y bytes maxL ret T h ce sl sf) {x z : Int32} (hd : decode bytes pc = .ok (.isub, 1))  (K : Go p e below G T (mkF m pc' L (.int (x - z) :: S))) (hp : pc + 1 = pc' := by rfl) : Go p e below G T (mkF m pc L (.int z :: .int x :: S)) := by
  subst hp
  obtain ⟨vm0, k0, locs, X, eT, hS, hk, hZ, hown, hF, hN, hC, hsf, hE, ⟨a1, hEL⟩, hx, hby, hml, hnm, hrt, hlk⟩ := W
  subst hby
  exact K.st fun u k => XS.isub X.here hx rfl hd rfl k
theorem o_iand (pc' : Nat) (W : Wk p l e R s m args below meth c Z y bytes maxL ret T h ce sl sf) {x z : Int32} (hd : decode bytes pc = .ok (.iand, 1))  (K : Go p e below G T (mkF m pc' L (.int (x &&& z) :: S))) (hp : pc + 1 = pc' := by rfl) : Go p e below G T (mkF m pc L (.int z :: .int x :: S)) := by
  subst hp
  obtain ⟨vm0, k0, locs, X, eT, hS, hk, hZ, hown, hF, hN, hC, hsf, hE, ⟨a1, hEL⟩, hx, hby, hml, hnm, hrt, hlk⟩ := W
  subst hby
  exact K.st fun u k => XS.iand X.here hx rfl hd rfl k
theorem o_imul (pc' : Nat) (W : Wk p l e R s m args below meth c Z y bytes maxL ret T h ce sl sf) {x z : Int32} (hd : decode bytes pc = .ok (.imul, 1))  (K : Go p e below G T (mkF m pc' L (.int (x * z) :: S))) (hp : pc + 1 = pc' := by rfl) : Go p e below G T (mkF m pc L (.int z :: .int x :: S)) := by
  subst hp
  obtain ⟨vm0, k0, locs, X, eT, hS, hk, hZ, hown, hF, hN, hC, hsf, hE, ⟨a1, hEL⟩, hx, hby, hml, hnm, hrt, hlk⟩ := W
  subst hby
  exact K.st fun u k => XS.imul X.here hx rfl hd rfl k
theorem o_ior (pc' : Nat) (W : Wk p l e R s m args below meth c Z y bytes maxL ret T h ce sl sf) {x z : Int32} (hd : decode bytes pc = .ok (.ior, 1))  (K : Go p e below G T (mkF m pc' L (.int (x ||| z) :: S))) (hp : pc + 1 = pc' := by rfl) : Go p e below G T (mkF m pc L (.int z :: .int x :: S)) := by
  subst hp
  obtain ⟨vm0, k0, locs, X, eT, hS, hk, hZ, hown, hF, hN, hC, hsf, hE, ⟨a1, hEL⟩, hx, hby, hml, hnm, hrt, hlk⟩ := W
  subst hby
  exact K.st fun u k => XT.ior X.here hx rfl hd rfl k
theorem o_ishl (pc' : Nat) (W : Wk p l e R s m args below meth c Z y bytes maxL ret T h ce sl sf) {x z : Int32} (hd : decode bytes pc = .ok (.ishl, 1))  (K : Go p e below G T (mkF m pc' L (.int (x <<< (z &&& 31)) :: S))) (hp : pc + 1 = pc' := by rfl) : Go p e below G T (mkF m pc L (.int z :: .int x :: S)) := by
  subst hp
  obtain ⟨vm0, k0, locs, X, eT, hS, hk, hZ, hown, hF, hN, hC, hsf, hE, ⟨a1, hEL⟩, hx, hby, hml, hnm, hrt, hlk⟩ := W
  subst hby
  exact K.st fun u k => XT.ishl X.here hx rfl hd rfl k
theorem o_iushr (pc' : Nat) (W : Wk p l e R s m args below meth c Z y bytes maxL ret T h ce sl sf) {x z : Int32} (hd : decode bytes pc = .ok (.iushr, 1))  (K : Go p e below G T (mkF m pc' L (.int (XT.ushr x z) :: S))) (hp : pc + 1 = pc' := by rfl) : Go p e below G T (mkF m pc L (.int z :: .int x :: S)) := by
  subst hp
  obtain ⟨vm0, k0, locs, X, eT, hS, hk, hZ, hown, hF, hN, hC, hsf, hE, ⟨a1, hEL⟩, hx, hby, hml, hnm, hrt, hlk⟩ := W
  subst hby
  exact K.st fun u k => XT.iushr X.here hx rfl hd rfl k
theorem o_ishr (pc' : Nat) (W : Wk p l e R s m args below meth c Z y bytes maxL ret T h ce sl sf) {x z : Int32} (hd : decode bytes pc = .ok (.ishr, 1))  (K : Go p e below G T (mkF m pc' L (.int (x >>> (z &&& 31)) :: S))) (hp : pc + 1 = pc' := by rfl) : Go p e below G T (mkF m pc L (.int z :: .int x :: S)) := by
  subst hp
  obtain ⟨vm0, k0, locs, X, eT, hS, hk, hZ, hown, hF, hN, hC, hsf, hE, ⟨a1, hEL⟩, hx, hby, hml, hnm, hrt, hlk⟩ := W
  subst hby
  exact K.st fun u k => XT.ishr X.here hx rfl hd rfl k
theorem o_ladd (pc' : Nat) (W : Wk p l e R s m args below meth c Z y bytes maxL ret T h ce sl sf) {x z : Int64} (hd : decode bytes pc = .ok (.ladd, 1))  (K : Go p e below G T (mkF m pc' L (.long (x + z) :: S))) (hp : pc + 1 = pc' := by rfl) : Go p e below G T (mkF m pc L (.long z :: .long x :: S)) := by
  subst hp
  obtain ⟨vm0, k0, locs, X, eT, hS, hk, hZ, hown, hF, hN, hC, hsf, hE, ⟨a1, hEL⟩, hx, hby, hml, hnm, hrt, hlk⟩ := W
  subst hby
  exact K.st fun u k => XT.ladd X.here hx rfl hd rfl k
theorem o_land (pc' : Nat) (W : Wk p l e R s m args below meth c Z y bytes maxL ret T h ce sl sf) {x z : Int64} (hd : decode bytes pc = .ok (.land, 1))  (K : Go p e below G T (mkF m pc' L (.long (x &&& z) :: S))) (hp : pc + 1 = pc' := by rfl) : Go p e below G T (mkF m pc L (.long z :: .long x :: S)) := by
  subst hp
  obtain ⟨vm0, k0, locs, X, eT, hS, hk, hZ, hown, hF, hN, hC, hsf, hE, ⟨a1, hEL⟩, hx, hby, hml, hnm, hrt, hlk⟩ := W
  subst hby
  exact K.st fun u k => XT.land X.here hx rfl hd rfl k
theorem o_lushr (pc' : Nat) (W : Wk p l e R s m args below meth c Z y bytes maxL ret T h ce sl sf) {x : Int64} {z : Int32} (hd : decode bytes pc = .ok (.lushr, 1))  (K : Go p e below G T (mkF m pc' L (.long (XT.ushrL x z) :: S))) (hp : pc + 1 = pc' := by rfl) : Go p e below G T (mkF m pc L (.int z :: .long x :: S)) := by
  subst hp
  obtain ⟨vm0, k0, locs, X, eT, hS, hk, hZ, hown, hF, hN, hC, hsf, hE, ⟨a1, hEL⟩, hx, hby, hml, hnm, hrt, hlk⟩ := W
  subst hby
  exact K.st fun u k => XT.lushr X.here hx rfl hd rfl k
theorem o_lcmp (pc' : Nat) (W : Wk p l e R s m args below meth c Z y bytes maxL ret T h ce sl sf) {x z : Int64} (hd : decode bytes pc = .ok (.lcmp, 1))  (K : Go p e below G T (mkF m pc' L (.int (XT.cmpL x z) :: S))) (hp : pc + 1 = pc' := by rfl) : Go p e below G T (mkF m pc L (.long z :: .long x :: S)) := by
  subst hp
  obtain ⟨vm0, k0, locs, X, eT, hS, hk, hZ, hown, hF, hN, hC, hsf, hE, ⟨a1, hEL⟩, hx, hby, hml, hnm, hrt, hlk⟩ := W
  subst hby
  exact K.st fun u k => XT.lcmp X.here hx rfl hd rfl k
theorem o_i2c (pc' : Nat) (W : Wk p l e R s m args below meth c Z y bytes maxL ret T h ce sl sf) {x : Int32} (hd : decode bytes pc = .ok (.i2c, 1))  (K : Go p e below G T (mkF m pc' L (.int x.toUInt32.toUInt16.toUInt32.toInt32 :: S))) (hp : pc + 1 = pc' := by rfl) : Go p e below G T (mkF m pc L (.int x :: S)) := by
  subst hp
  obtain ⟨vm0, k0, locs, X, eT, hS, hk, hZ, hown, hF, hN, hC, hsf, hE, ⟨a1, hEL⟩, hx, hby, hml, hnm, hrt, hlk⟩ := W
  subst hby
  exact K.st fun u k => XT.i2c X.here hx rfl hd rfl k
theorem o_i2b (pc' : Nat) (W : Wk p l e R s m args below meth c Z y bytes maxL ret T h ce sl sf) {x : Int32} (hd : decode bytes pc = .ok (.i2b, 1))  (K : Go p e below G T (mkF m pc' L (.int x.toInt8.toInt32 :: S))) (hp : pc + 1 = pc' := by rfl) : Go p e below G T (mkF m pc L (.int x :: S)) := by
  subst hp
  obtain ⟨vm0, k0, locs, X, eT, hS, hk, hZ, hown, hF, hN, hC, hsf, hE, ⟨a1, hEL⟩, hx, hby, hml, hnm, hrt, hlk⟩ := W
  subst hby
  exact K.st fun u k => XT.i2b X.here hx rfl hd rfl k
theorem o_i2l (pc' : Nat) (W : Wk p l e R s m args below meth c Z y bytes maxL ret T h ce sl sf) {x : Int32} (hd : decode bytes pc = .ok (.i2l, 1))  (K : Go p e below G T (mkF m pc' L (.long x.toInt64 :: S))) (hp : pc + 1 = pc' := by rfl) : Go p e below G T (mkF m pc L (.int x :: S)) := by
  subst hp
  obtain ⟨vm0, k0, locs, X, eT, hS, hk, hZ, hown, hF, hN, hC, hsf, hE, ⟨a1, hEL⟩, hx, hby, hml, hnm, hrt, hlk⟩ := W
  subst hby
  exact K.st fun u k => XT.i2l X.here hx rfl hd rfl k
theorem o_l2i (pc' : Nat) (W : Wk p l e R s m args below meth c Z y bytes maxL ret T h ce sl sf) {x : Int64} (hd : decode bytes pc = .ok (.l2i, 1))  (K : Go p e below G T (mkF m pc' L (.int x.toInt32 :: S))) (hp : pc + 1 = pc' := by rfl) : Go p e below G T (mkF m pc L (.long x :: S)) := by
  subst hp
  obtain ⟨vm0, k0, locs, X, eT, hS, hk, hZ, hown, hF, hN, hC, hsf, hE, ⟨a1, hEL⟩, hx, hby, hml, hnm, hrt, hlk⟩ := W
  subst hby
  exact K.st fun u k => XT.l2i X.here hx rfl hd rfl k
theorem o_dup (pc' : Nat) (W : Wk p l e R s m args below meth c Z y bytes maxL ret T h ce sl sf) {v : Value} (hd : decode bytes pc = .ok (.dup, 1)) (hc : v.category = 1) (K : Go p e below G T (mkF m pc' L (v :: v :: S))) (hp : pc + 1 = pc' := by rfl) : Go p e below G T (mkF m pc L (v :: S)) := by
  subst hp
  obtain ⟨vm0, k0, locs, X, eT, hS, hk, hZ, hown, hF, hN, hC, hsf, hE, ⟨a1, hEL⟩, hx, hby, hml, hnm, hrt, hlk⟩ := W
  subst hby
  exact K.st fun u k => XS.dup X.here hx rfl hd rfl hc k
theorem o_pop (pc' : Nat) (W : Wk p l e R s m args below meth c Z y bytes maxL ret T h ce sl sf) {v : Value} (hd : decode bytes pc = .ok (.pop, 1)) (hc : v.category = 1) (K : Go p e below G T (mkF m pc' L (S))) (hp : pc + 1 = pc' := by rfl) : Go p e below G T (mkF m pc L (v :: S)) := by
  subst hp
  obtain ⟨vm0, k0, locs, X, eT, hS, hk, hZ, hown, hF, hN, hC, hsf, hE, ⟨a1, hEL⟩, hx, hby, hml, hnm, hrt, hlk⟩ := W
  subst hby
  exact K.st fun u k => XT.pop X.here hx rfl hd rfl hc k
theorem o_iinc (pc' : Nat) (W : Wk p l e R s m args below meth c Z y bytes maxL ret T h ce sl sf) {k : Nat} {i : Int} {x : Int32} (v : Int32) (L' : Array Slot) (hd : decode bytes pc = .ok (.iinc k i, 3)) (hl : L[k]? = some (.val (.int x))) (hv : x + Int32.ofInt i = v) (hl' : storeLocals L k (.int v) = some L') (K : Go p e below G T (mkF m pc' L' (S))) (hp : pc + 3 = pc' := by rfl) : Go p e below G T (mkF m pc L (S)) := by
  subst hp
  obtain ⟨vm0, k0, locs, X, eT, hS, hk, hZ, hown, hF, hN, hC, hsf, hE, ⟨a1, hEL⟩, hx, hby, hml, hnm, hrt, hlk⟩ := W
  subst hby
  exact K.st fun u k => XS.iinc X.here hx rfl hd hl (hv ▸ hl') k
theorem o_irem (pc' : Nat) (W : Wk p l e R s m args below meth c Z y bytes maxL ret T h ce sl sf) {x z : Int32} (hd : decode bytes pc = .ok (.irem, 1)) (hz : z ≠ 0) (K : Go p e below G T (mkF m pc' L (.int (x % z) :: S))) (hp : pc + 1 = pc' := by rfl) : Go p e below G T (mkF m pc L (.int z :: .int x :: S)) := by
  subst hp
  obtain ⟨vm0, k0, locs, X, eT, hS, hk, hZ, hown, hF, hN, hC, hsf, hE, ⟨a1, hEL⟩, hx, hby, hml, hnm, hrt, hlk⟩ := W
  subst hby
  exact K.st fun u k => iremM X hx (g := mkF m pc L (.int z :: .int x :: S)) rfl hd rfl hz k
theorem o_goto (pc' : Nat) (W : Wk p l e R s m args below meth c Z y bytes maxL ret T h ce sl sf)  {o : Int} (hd : decode bytes pc = .ok (.goto o, 3))  (K : Go p e below G T (mkF m pc' L (S))) (ho : 0 ≤ (pc : Int) + o := by decide) (hp : ((pc : Int) + o).toNat = pc' := by decide) : Go p e below G T (mkF m pc L (S)) := by
  obtain ⟨vm0, k0, locs, X, eT, hS, hk, hZ, hown, hF, hN, hC, hsf, hE, ⟨a1, hEL⟩, hx, hby, hml, hnm, hrt, hlk⟩ := W
  subst hby
  exact K.st fun u k => XS.goto X.here hx rfl (pc0 := pc) rfl hd ho hp k
theorem o_ifeq (pt pf : Nat) (W : Wk p l e R s m args below meth c Z y bytes maxL ret T h ce sl sf) {x : Int32} {o : Int} (hd : decode bytes pc = .ok (.ifCond .eq o, 3)) (K1 : x = 0 → Go p e below G T (mkF m pt L S)) (K2 : ¬ x = 0 → Go p e below G T (mkF m pf L S)) (ho : 0 ≤ (pc : Int) + o := by decide) (hp : ((pc : Int) + o).toNat = pt := by decide) (hq : pc + 3 = pf := by rfl) : Go p e below G T (mkF m pc L (.int x :: S)) := by
  subst hq
  obtain ⟨vm0, k0, locs, X, eT, hS, hk, hZ, hown, hF, hN, hC, hsf, hE, ⟨a1, hEL⟩, hx, hby, hml, hnm, hrt, hlk⟩ := W
  subst hby
  by_cases q : x = 0
  · exact (K1 q).st fun u k => XS.ifYes X.here hx rfl (pc0 := pc) rfl hd rfl (XT.i0_eq_t q) ho hp k
  · exact (K2 q).st fun u k => XS.ifNo X.here hx rfl hd rfl (XT.i0_eq_f q) k
theorem o_ifne (pt pf : Nat) (W : Wk p l e R s m args below meth c Z y bytes maxL ret T h ce sl sf) {x : Int32} {o : Int} (hd : decode bytes pc = .ok (.ifCond .ne o, 3)) (K1 : ¬ x = 0 → Go p e below G T (mkF m pt L S)) (K2 : x = 0 → Go p e below G T (mkF m pf L S)) (ho : 0 ≤ (pc : Int) + o := by decide) (hp : ((pc : Int) + o).toNat = pt := by decide) (hq : pc + 3 = pf := by rfl) : Go p e below G T (mkF m pc L (.int x :: S)) := by
  subst hq
  obtain ⟨vm0, k0, locs, X, eT, hS, hk, hZ, hown, hF, hN, hC, hsf, hE, ⟨a1, hEL⟩, hx, hby, hml, hnm, hrt, hlk⟩ := W
  subst hby
  by_cases q : x = 0
  · exact (K2 q).st fun u k => XS.ifNo X.here hx rfl hd rfl (XT.i0_ne_f q) k
  · exact (K1 q).st fun u k => XS.ifYes X.here hx rfl (pc0 := pc) rfl hd rfl (XT.i0_ne_t q) ho hp k
theorem o_iflt (pt pf : Nat) (W : Wk p l e R s m args below meth c Z y bytes maxL ret T h ce sl sf) {x : Int32} {o : Int} (hd : decode bytes pc = .ok (.ifCond .lt o, 3)) (K1 : x < 0 → Go p e below G T (mkF m pt L S)) (K2 : ¬ x < 0 → Go p e below G T (mkF m pf L S)) (ho : 0 ≤ (pc : Int) + o := by decide) (hp : ((pc : Int) + o).toNat = pt := by decide) (hq : pc + 3 = pf := by rfl) : Go p e below G T (mkF m pc L (.int x :: S)) := by
  subst hq
  obtain ⟨vm0, k0, locs, X, eT, hS, hk, hZ, hown, hF, hN, hC, hsf, hE, ⟨a1, hEL⟩, hx, hby, hml, hnm, hrt, hlk⟩ := W
  subst hby
  by_cases q : x < 0
  · exact (K1 q).st fun u k => XS.ifYes X.here hx rfl (pc0 := pc) rfl hd rfl (XT.i0_lt_t q) ho hp k
  · exact (K2 q).st fun u k => XS.ifNo X.here hx rfl hd rfl (XT.i0_lt_f q) k
theorem o_ifge (pt pf : Nat) (W : Wk p l e R s m args below meth c Z y bytes maxL ret T h ce sl sf) {x : Int32} {o : Int} (hd : decode bytes pc = .ok (.ifCond .ge o, 3)) (K1 : ¬ x < 0 → Go p e below G T (mkF m pt L S)) (K2 : x < 0 → Go p e below G T (mkF m pf L S)) (ho : 0 ≤ (pc : Int) + o := by decide) (hp : ((pc : Int) + o).toNat = pt := by decide) (hq : pc + 3 = pf := by rfl) : Go p e below G T (mkF m pc L (.int x :: S)) := by
  subst hq
  obtain ⟨vm0, k0, locs, X, eT, hS, hk, hZ, hown, hF, hN, hC, hsf, hE, ⟨a1, hEL⟩, hx, hby, hml, hnm, hrt, hlk⟩ := W
  subst hby
  by_cases q : x < 0
  · exact (K2 q).st fun u k => XS.ifNo X.here hx rfl hd rfl (XT.i0_ge_f q) k
  · exact (K1 q).st fun u k => XS.ifYes X.here hx rfl (pc0 := pc) rfl hd rfl (XT.i0_ge_t q) ho hp k
theorem o_ifgt (pt pf : Nat) (W : Wk p l e R s m args below meth c Z y bytes maxL ret T h ce sl sf) {x : Int32} {o : Int} (hd : decode bytes pc = .ok (.ifCond .gt o, 3)) (K1 : 0 < x → Go p e below G T (mkF m pt L S)) (K2 : ¬ 0 < x → Go p e below G T (mkF m pf L S)) (ho : 0 ≤ (pc : Int) + o := by decide) (hp : ((pc : Int) + o).toNat = pt := by decide) (hq : pc + 3 = pf := by rfl) : Go p e below G T (mkF m pc L (.int x :: S)) := by
  subst hq
  obtain ⟨vm0, k0, locs, X, eT, hS, hk, hZ, hown, hF, hN, hC, hsf, hE, ⟨a1, hEL⟩, hx, hby, hml, hnm, hrt, hlk⟩ := W
  subst hby
  by_cases q : 0 < x
  · exact (K1 q).st fun u k => XS.ifYes X.here hx rfl (pc0 := pc) rfl hd rfl (XT.i0_gt_t q) ho hp k
  · exact (K2 q).st fun u k => XS.ifNo X.here hx rfl hd rfl (XT.i0_gt_f q) k
theorem o_ifle (pt pf : Nat) (W : Wk p l e R s m args below meth c Z y bytes maxL ret T h ce sl sf) {x : Int32} {o : Int} (hd : decode bytes pc = .ok (.ifCond .le o, 3)) (K1 : ¬ 0 < x → Go p e below G T (mkF m pt L S)) (K2 : 0 < x → Go p e below G T (mkF m pf L S)) (ho : 0 ≤ (pc : Int) + o := by decide) (hp : ((pc : Int) + o).toNat = pt := by decide) (hq : pc + 3 = pf := by rfl) : Go p e below G T (mkF m pc L (.int x :: S)) := by
  subst hq
  obtain ⟨vm0, k0, locs, X, eT, hS, hk, hZ, hown, hF, hN, hC, hsf, hE, ⟨a1, hEL⟩, hx, hby, hml, hnm, hrt, hlk⟩ := W
  subst hby
  by_cases q : 0 < x
  · exact (K2 q).st fun u k => XS.ifNo X.here hx rfl hd rfl (XT.i0_le_f q) k
  · exact (K1 q).st fun u k => XS.ifYes X.here hx rfl (pc0 := pc) rfl hd rfl (XT.i0_le_t q) ho hp k
theorem o_iceq (pt pf : Nat) (W : Wk p l e R s m args below meth c Z y bytes maxL ret T h ce sl sf) {x z : Int32} {o : Int} (hd : decode bytes pc = .ok (.if_icmp .eq o, 3)) (K1 : x = z → Go p e below G T (mkF m pt L S)) (K2 : ¬ x = z → Go p e below G T (mkF m pf L S)) (ho : 0 ≤ (pc : Int) + o := by decide) (hp : ((pc : Int) + o).toNat = pt := by decide) (hq : pc + 3 = pf := by rfl) : Go p e below G T (mkF m pc L (.int z :: .int x :: S)) := by
  subst hq
  obtain ⟨vm0, k0, locs, X, eT, hS, hk, hZ, hown, hF, hN, hC, hsf, hE, ⟨a1, hEL⟩, hx, hby, hml, hnm, hrt, hlk⟩ := W
  subst hby
  by_cases q : x = z
  · exact (K1 q).st fun u k => XS.icmpYes X.here hx rfl (pc0 := pc) rfl hd rfl (XT.ii_eq_t q) ho hp k
  · exact (K2 q).st fun u k => XS.icmpNo X.here hx rfl hd rfl (XT.ii_eq_f q) k
theorem o_icne (pt pf : Nat) (W : Wk p l e R s m args below meth c Z y bytes maxL ret T h ce sl sf) {x z : Int32} {o : Int} (hd : decode bytes pc = .ok (.if_icmp .ne o, 3)) (K1 : ¬ x = z → Go p e below G T (mkF m pt L S)) (K2 : x = z → Go p e below G T (mkF m pf L S)) (ho : 0 ≤ (pc : Int) + o := by decide) (hp : ((pc : Int) + o).toNat = pt := by decide) (hq : pc + 3 = pf := by rfl) : Go p e below G T (mkF m pc L (.int z :: .int x :: S)) := by
  subst hq
  obtain ⟨vm0, k0, locs, X, eT, hS, hk, hZ, hown, hF, hN, hC, hsf, hE, ⟨a1, hEL⟩, hx, hby, hml, hnm, hrt, hlk⟩ := W
  subst hby
  by_cases q : x = z
  · exact (K2 q).st fun u k => XS.icmpNo X.here hx rfl hd rfl (XT.ii_ne_f q) k
  · exact (K1 q).st fun u k => XS.icmpYes X.here hx rfl (pc0 := pc) rfl hd rfl (XT.ii_ne_t q) ho hp k
theorem o_iclt (pt pf : Nat) (W : Wk p l e R s m args below meth c Z y bytes maxL ret T h ce sl sf) {x z : Int32} {o : Int} (hd : decode bytes pc = .ok (.if_icmp .lt o, 3)) (K1 : x < z → Go p e below G T (mkF m pt L S)) (K2 : ¬ x < z → Go p e below G T (mkF m pf L S)) (ho : 0 ≤ (pc : Int) + o := by decide) (hp : ((pc : Int) + o).toNat = pt := by decide) (hq : pc + 3 = pf := by rfl) : Go p e below G T (mkF m pc L (.int z :: .int x :: S)) := by
  subst hq
  obtain ⟨vm0, k0, locs, X, eT, hS, hk, hZ, hown, hF, hN, hC, hsf, hE, ⟨a1, hEL⟩, hx, hby, hml, hnm, hrt, hlk⟩ := W
  subst hby
  by_cases q : x < z
  · exact (K1 q).st fun u k => XS.icmpYes X.here hx rfl (pc0 := pc) rfl hd rfl (XT.ii_lt_t q) ho hp k
  · exact (K2 q).st fun u k => XS.icmpNo X.here hx rfl hd rfl (XT.ii_lt_f q) k
theorem o_icge (pt pf : Nat) (W : Wk p l e R s m args below meth c Z y bytes maxL ret T h ce sl sf) {x z : Int32} {o : Int} (hd : decode bytes pc = .ok (.if_icmp .ge o, 3)) (K1 : ¬ x < z → Go p e below G T (mkF m pt L S)) (K2 : x < z → Go p e below G T (mkF m pf L S)) (ho : 0 ≤ (pc : Int) + o := by decide) (hp : ((pc : Int) + o).toNat = pt := by decide) (hq : pc + 3 = pf := by rfl) : Go p e below G T (mkF m pc L (.int z :: .int x :: S)) := by
  subst hq
  obtain ⟨vm0, k0, locs, X, eT, hS, hk, hZ, hown, hF, hN, hC, hsf, hE, ⟨a1, hEL⟩, hx, hby, hml, hnm, hrt, hlk⟩ := W
  subst hby
  by_cases q : x < z
  · exact (K2 q).st fun u k => XS.icmpNo X.here hx rfl hd rfl (XT.ii_ge_f q) k
  · exact (K1 q).st fun u k => XS.icmpYes X.here hx rfl (pc0 := pc) rfl hd rfl (XT.ii_ge_t q) ho hp k
theorem o_icgt (pt pf : Nat) (W : Wk p l e R s m args below meth c Z y bytes maxL ret T h ce sl sf) {x z : Int32} {o : Int} (hd : decode bytes pc = .ok (.if_icmp .gt o, 3)) (K1 : z < x → Go p e below G T (mkF m pt L S)) (K2 : ¬ z < x → Go p e below G T (mkF m pf L S)) (ho : 0 ≤ (pc : Int) + o := by decide) (hp : ((pc : Int) + o).toNat = pt := by decide) (hq : pc + 3 = pf := by rfl) : Go p e below G T (mkF m pc L (.int z :: .int x :: S)) := by
  subst hq
  obtain ⟨vm0, k0, locs, X, eT, hS, hk, hZ, hown, hF, hN, hC, hsf, hE, ⟨a1, hEL⟩, hx, hby, hml, hnm, hrt, hlk⟩ := W
  subst hby
  by_cases q : z < x
  · exact (K1 q).st fun u k => XS.icmpYes X.here hx rfl (pc0 := pc) rfl hd rfl (XT.ii_gt_t q) ho hp k
  · exact (K2 q).st fun u k => XS.icmpNo X.here hx rfl hd rfl (XT.ii_gt_f q) k
theorem o_icle (pt pf : Nat) (W : Wk p l e R s m args below meth c Z y bytes maxL ret T h ce sl sf) {x z : Int32} {o : Int} (hd : decode bytes pc = .ok (.if_icmp .le o, 3)) (K1 : ¬ z < x → Go p e below G T (mkF m pt L S)) (K2 : z < x → Go p e below G T (mkF m pf L S)) (ho : 0 ≤ (pc : Int) + o := by decide) (hp : ((pc : Int) + o).toNat = pt := by decide) (hq : pc + 3 = pf := by rfl) : Go p e below G T (mkF m pc L (.int z :: .int x :: S)) := by
  subst hq
  obtain ⟨vm0, k0, locs, X, eT, hS, hk, hZ, hown, hF, hN, hC, hsf, hE, ⟨a1, hEL⟩, hx, hby, hml, hnm, hrt, hlk⟩ := W
  subst hby
  by_cases q : z < x
  · exact (K2 q).st fun u k => XS.icmpNo X.here hx rfl hd rfl (XT.ii_le_f q) k
  · exact (K1 q).st fun u k => XS.icmpYes X.here hx rfl (pc0 := pc) rfl hd rfl (XT.ii_le_t q) ho hp k
theorem o_lceq (pt pf : Nat) (W : Wk p l e R s m args below meth c Z y bytes maxL ret T h ce sl sf) {x z : Int64} {o : Int} (hd : decode bytes pc = .ok (.ifCond .eq o, 3)) (K1 : x = z → Go p e below G T (mkF m pt L S)) (K2 : ¬ x = z → Go p e below G T (mkF m pf L S)) (ho : 0 ≤ (pc : Int) + o := by decide) (hp : ((pc : Int) + o).toNat = pt := by decide) (hq : pc + 3 = pf := by rfl) : Go p e below G T (mkF m pc L (.int (XT.cmpL x z) :: S)) := by
  subst hq
  obtain ⟨vm0, k0, locs, X, eT, hS, hk, hZ, hown, hF, hN, hC, hsf, hE, ⟨a1, hEL⟩, hx, hby, hml, hnm, hrt, hlk⟩ := W
  subst hby
  by_cases q : x = z
  · exact (K1 q).st fun u k => XS.ifYes X.here hx rfl (pc0 := pc) rfl hd rfl (XT.ll_eq_t q) ho hp k
  · exact (K2 q).st fun u k => XS.ifNo X.here hx rfl hd rfl (XT.ll_eq_f q) k
theorem o_lcne (pt pf : Nat) (W : Wk p l e R s m args below meth c Z y bytes maxL ret T h ce sl sf) {x z : Int64} {o : Int} (hd : decode bytes pc = .ok (.ifCond .ne o, 3)) (K1 : ¬ x = z → Go p e below G T (mkF m pt L S)) (K2 : x = z → Go p e below G T (mkF m pf L S)) (ho : 0 ≤ (pc : Int) + o := by decide) (hp : ((pc : Int) + o).toNat = pt := by decide) (hq : pc + 3 = pf := by rfl) : Go p e below G T (mkF m pc L (.int (XT.cmpL x z) :: S)) := by
  subst hq
  obtain ⟨vm0, k0, locs, X, eT, hS, hk, hZ, hown, hF, hN, hC, hsf, hE, ⟨a1, hEL⟩, hx, hby, hml, hnm, hrt, hlk⟩ := W
  subst hby
  by_cases q : x = z
  · exact (K2 q).st fun u k => XS.ifNo X.here hx rfl hd rfl (XT.ll_ne_f q) k
  · exact (K1 q).st fun u k => XS.ifYes X.here hx rfl (pc0 := pc) rfl hd rfl (XT.ll_ne_t q) ho hp k
theorem o_lclt (pt pf : Nat) (W : Wk p l e R s m args below meth c Z y bytes maxL ret T h ce sl sf) {x z : Int64} {o : Int} (hd : decode bytes pc = .ok (.ifCond .lt o, 3)) (K1 : x < z → Go p e below G T (mkF m pt L S)) (K2 : ¬ x < z → Go p e below G T (mkF m pf L S)) (ho : 0 ≤ (pc : Int) + o := by decide) (hp : ((pc : Int) + o).toNat = pt := by decide) (hq : pc + 3 = pf := by rfl) : Go p e below G T (mkF m pc L (.int (XT.cmpL x z) :: S)) := by
  subst hq
  obtain ⟨vm0, k0, locs, X, eT, hS, hk, hZ, hown, hF, hN, hC, hsf, hE, ⟨a1, hEL⟩, hx, hby, hml, hnm, hrt, hlk⟩ := W
  subst hby
  by_cases q : x < z
  · exact (K1 q).st fun u k => XS.ifYes X.here hx rfl (pc0 := pc) rfl hd rfl (XT.ll_lt_t q) ho hp k
  · exact (K2 q).st fun u k => XS.ifNo X.here hx rfl hd rfl (XT.ll_lt_f q) k
theorem o_lcge (pt pf : Nat) (W : Wk p l e R s m args below meth c Z y bytes maxL ret T h ce sl sf) {x z : Int64} {o : Int} (hd : decode bytes pc = .ok (.ifCond .ge o, 3)) (K1 : ¬ x < z → Go p e below G T (mkF m pt L S)) (K2 : x < z → Go p e below G T (mkF m pf L S)) (ho : 0 ≤ (pc : Int) + o := by decide) (hp : ((pc : Int) + o).toNat = pt := by decide) (hq : pc + 3 = pf := by rfl) : Go p e below G T (mkF m pc L (.int (XT.cmpL x z) :: S)) := by
  subst hq
  obtain ⟨vm0, k0, locs, X, eT, hS, hk, hZ, hown, hF, hN, hC, hsf, hE, ⟨a1, hEL⟩, hx, hby, hml, hnm, hrt, hlk⟩ := W
  subst hby
  by_cases q : x < z
  · exact (K2 q).st fun u k => XS.ifNo X.here hx rfl hd rfl (XT.ll_ge_f q) k
  · exact (K1 q).st fun u k => XS.ifYes X.here hx rfl (pc0 := pc) rfl hd rfl (XT.ll_ge_t q) ho hp k
theorem o_lcgt (pt pf : Nat) (W : Wk p l e R s m args below meth c Z y bytes maxL ret T h ce sl sf) {x z : Int64} {o : Int} (hd : decode bytes pc = .ok (.ifCond .gt o, 3)) (K1 : z < x → Go p e below G T (mkF m pt L S)) (K2 : ¬ z < x → Go p e below G T (mkF m pf L S)) (ho : 0 ≤ (pc : Int) + o := by decide) (hp : ((pc : Int) + o).toNat = pt := by decide) (hq : pc + 3 = pf := by rfl) : Go p e below G T (mkF m pc L (.int (XT.cmpL x z) :: S)) := by
  subst hq
  obtain ⟨vm0, k0, locs, X, eT, hS, hk, hZ, hown, hF, hN, hC, hsf, hE, ⟨a1, hEL⟩, hx, hby, hml, hnm, hrt, hlk⟩ := W
  subst hby
  by_cases q : z < x
  · exact (K1 q).st fun u k => XS.ifYes X.here hx rfl (pc0 := pc) rfl hd rfl (XT.ll_gt_t q) ho hp k
  · exact (K2 q).st fun u k => XS.ifNo X.here hx rfl hd rfl (XT.ll_gt_f q) k
theorem o_lcle (pt pf : Nat) (W : Wk p l e R s m args below meth c Z y bytes maxL ret T h ce sl sf) {x z : Int64} {o : Int} (hd : decode bytes pc = .ok (.ifCond .le o, 3)) (K1 : ¬ z < x → Go p e below G T (mkF m pt L S)) (K2 : z < x → Go p e below G T (mkF m pf L S)) (ho : 0 ≤ (pc : Int) + o := by decide) (hp : ((pc : Int) + o).toNat = pt := by decide) (hq : pc + 3 = pf := by rfl) : Go p e below G T (mkF m pc L (.int (XT.cmpL x z) :: S)) := by
  subst hq
  obtain ⟨vm0, k0, locs, X, eT, hS, hk, hZ, hown, hF, hN, hC, hsf, hE, ⟨a1, hEL⟩, hx, hby, hml, hnm, hrt, hlk⟩ := W
  subst hby
  by_cases q : z < x
  · exact (K2 q).st fun u k => XS.ifNo X.here hx rfl hd rfl (XT.ll_le_f q) k
  · exact (K1 q).st fun u k => XS.ifYes X.here hx rfl (pc0 := pc) rfl hd rfl (XT.ll_le_t q) ho hp k
theorem o_ifY (pc' : Nat) (W : Wk p l e R s m args below meth c Z y bytes maxL ret T h ce sl sf) {cd : ClassFile.Cond} {x : Int32} {o : Int} (hd : decode bytes pc = .ok (.ifCond cd o, 3)) (hc : ifCond.holds cd x = true) (K : Go p e below G T (mkF m pc' L (S))) (ho : 0 ≤ (pc : Int) + o := by decide) (hp : ((pc : Int) + o).toNat = pc' := by decide) : Go p e below G T (mkF m pc L (.int x :: S)) := by
  obtain ⟨vm0, k0, locs, X, eT, hS, hk, hZ, hown, hF, hN, hC, hsf, hE, ⟨a1, hEL⟩, hx, hby, hml, hnm, hrt, hlk⟩ := W
  subst hby
  exact K.st fun u k => XS.ifYes X.here hx rfl (pc0 := pc) rfl hd rfl hc ho hp k
theorem o_ifN (pc' : Nat) (W : Wk p l e R s m args below meth c Z y bytes maxL ret T h ce sl sf) {cd : ClassFile.Cond} {o : Int} {x : Int32} (hd : decode bytes pc = .ok (.ifCond cd o, 3)) (hc : ifCond.holds cd x = false) (K : Go p e below G T (mkF m pc' L (S))) (hp : pc + 3 = pc' := by rfl) : Go p e below G T (mkF m pc L (.int x :: S)) := by
  subst hp
  obtain ⟨vm0, k0, locs, X, eT, hS, hk, hZ, hown, hF, hN, hC, hsf, hE, ⟨a1, hEL⟩, hx, hby, hml, hnm, hrt, hlk⟩ := W
  subst hby
  exact K.st fun u k => XS.ifNo X.here hx rfl hd rfl hc k
theorem o_icY (pc' : Nat) (W : Wk p l e R s m args below meth c Z y bytes maxL ret T h ce sl sf) {cd : ClassFile.Cond} {x z : Int32} {o : Int} (hd : decode bytes pc = .ok (.if_icmp cd o, 3)) (hc : if_icmp.holds cd x z = true) (K : Go p e below G T (mkF m pc' L (S))) (ho : 0 ≤ (pc : Int) + o := by decide) (hp : ((pc : Int) + o).toNat = pc' := by decide) : Go p e below G T (mkF m pc L (.int z :: .int x :: S)) := by
  obtain ⟨vm0, k0, locs, X, eT, hS, hk, hZ, hown, hF, hN, hC, hsf, hE, ⟨a1, hEL⟩, hx, hby, hml, hnm, hrt, hlk⟩ := W
  subst hby
  exact K.st fun u k => XS.icmpYes X.here hx rfl (pc0 := pc) rfl hd rfl hc ho hp k
theorem o_icN (pc' : Nat) (W : Wk p l e R s m args below meth c Z y bytes maxL ret T h ce sl sf) {cd : ClassFile.Cond} {o : Int} {x z : Int32} (hd : decode bytes pc = .ok (.if_icmp cd o, 3)) (hc : if_icmp.holds cd x z = false) (K : Go p e below G T (mkF m pc' L (S))) (hp : pc + 3 = pc' := by rfl) : Go p e below G T (mkF m pc L (.int z :: .int x :: S)) := by
  subst hp
  obtain ⟨vm0, k0, locs, X, eT, hS, hk, hZ, hown, hF, hN, hC, hsf, hE, ⟨a1, hEL⟩, hx, hby, hml, hnm, hrt, hlk⟩ := W
  subst hby
  exact K.st fun u k => XS.icmpNo X.here hx rfl hd rfl hc k
theorem o_nullY (pc' : Nat) (W : Wk p l e R s m args below meth c Z y bytes maxL ret T h ce sl sf)  {o : Int} (hd : decode bytes pc = .ok (.ifnull o, 3))  (K : Go p e below G T (mkF m pc' L (S))) (ho : 0 ≤ (pc : Int) + o := by decide) (hp : ((pc : Int) + o).toNat = pc' := by decide) : Go p e below G T (mkF m pc L (.null :: S)) := by
  obtain ⟨vm0, k0, locs, X, eT, hS, hk, hZ, hown, hF, hN, hC, hsf, hE, ⟨a1, hEL⟩, hx, hby, hml, hnm, hrt, hlk⟩ := W
  subst hby
  exact K.st fun u k => XS.ifnullYes X.here hx rfl (pc0 := pc) rfl hd rfl ho hp k
theorem o_nullN (pc' : Nat) (W : Wk p l e R s m args below meth c Z y bytes maxL ret T h ce sl sf) {o : Int} {a : Addr} (hd : decode bytes pc = .ok (.ifnull o, 3))  (K : Go p e below G T (mkF m pc' L (S))) (hp : pc + 3 = pc' := by rfl) : Go p e below G T (mkF m pc L (.ref a :: S)) := by
  subst hp
  obtain ⟨vm0, k0, locs, X, eT, hS, hk, hZ, hown, hF, hN, hC, hsf, hE, ⟨a1, hEL⟩, hx, hby, hml, hnm, hrt, hlk⟩ := W
  subst hby
  exact K.st fun u k => XS.ifnullNo X.here hx rfl hd rfl k
theorem o_nnY (pc' : Nat) (W : Wk p l e R s m args below meth c Z y bytes maxL ret T h ce sl sf) {a : Addr} {o : Int} (hd : decode bytes pc = .ok (.ifnonnull o, 3))  (K : Go p e below G T (mkF m pc' L (S))) (ho : 0 ≤ (pc : Int) + o := by decide) (hp : ((pc : Int) + o).toNat = pc' := by decide) : Go p e below G T (mkF m pc L (.ref a :: S)) := by
  obtain ⟨vm0, k0, locs, X, eT, hS, hk, hZ, hown, hF, hN, hC, hsf, hE, ⟨a1, hEL⟩, hx, hby, hml, hnm, hrt, hlk⟩ := W
  subst hby
  exact K.st fun u k => XT.ifnonnullYes X.here hx rfl (pc0 := pc) rfl hd rfl ho hp k
theorem o_nnN (pc' : Nat) (W : Wk p l e R s m args below meth c Z y bytes maxL ret T h ce sl sf) {o : Int} (hd : decode bytes pc = .ok (.ifnonnull o, 3))  (K : Go p e below G T (mkF m pc' L (S))) (hp : pc + 3 = pc' := by rfl) : Go p e below G T (mkF m pc L (.null :: S)) := by
  subst hp
  obtain ⟨vm0, k0, locs, X, eT, hS, hk, hZ, hown, hF, hN, hC, hsf, hE, ⟨a1, hEL⟩, hx, hby, hml, hnm, hrt, hlk⟩ := W
  subst hby
  exact K.st fun u k => XT.ifnonnullNo X.here hx rfl hd rfl k
theorem o_aceq (pt pf : Nat) (W : Wk p l e R s m args below meth c Z y bytes maxL ret T h ce sl sf) {x z : Value} (h1 : x.isRef = true) (h2 : z.isRef = true) {o : Int} (hd : decode bytes pc = .ok (.if_acmp .eq o, 3)) (K1 : x = z → Go p e below G T (mkF m pt L S)) (K2 : ¬ x = z → Go p e below G T (mkF m pf L S)) (ho : 0 ≤ (pc : Int) + o := by decide) (hp : ((pc : Int) + o).toNat = pt := by decide) (hq : pc + 3 = pf := by rfl) : Go p e below G T (mkF m pc L (z :: x :: S)) := by
  subst hq hp
  obtain ⟨vm0, k0, locs, X, eT, hS, hk, hZ, hown, hF, hN, hC, hsf, hE, ⟨a1, hEL⟩, hx, hby, hml, hnm, hrt, hlk⟩ := W
  subst hby
  by_cases q : x = z
  · exact (K1 q).st fun u k => acmp X hx (g := mkF m pc L (z :: x :: S)) rfl h1 h2 (same := true) rfl hd rfl (by simp [q]) ho (by rfl) k
  · exact (K2 q).st fun u k => acmp X hx (g := mkF m pc L (z :: x :: S)) rfl h1 h2 (same := false) rfl hd rfl (by simp [q]) ho (by rfl) k
theorem o_acne (pt pf : Nat) (W : Wk p l e R s m args below meth c Z y bytes maxL ret T h ce sl sf) {x z : Value} (h1 : x.isRef = true) (h2 : z.isRef = true) {o : Int} (hd : decode bytes pc = .ok (.if_acmp .ne o, 3)) (K1 : ¬ x = z → Go p e below G T (mkF m pt L S)) (K2 : x = z → Go p e below G T (mkF m pf L S)) (ho : 0 ≤ (pc : Int) + o := by decide) (hp : ((pc : Int) + o).toNat = pt := by decide) (hq : pc + 3 = pf := by rfl) : Go p e below G T (mkF m pc L (z :: x :: S)) := by
  subst hq hp
  obtain ⟨vm0, k0, locs, X, eT, hS, hk, hZ, hown, hF, hN, hC, hsf, hE, ⟨a1, hEL⟩, hx, hby, hml, hnm, hrt, hlk⟩ := W
  subst hby
  by_cases q : x = z
  · exact (K2 q).st fun u k => acmp X hx (g := mkF m pc L (z :: x :: S)) rfl h1 h2 (same := true) rfl hd rfl (by simp [q]) ho (by rfl) k
  · exact (K1 q).st fun u k => acmp X hx (g := mkF m pc L (z :: x :: S)) rfl h1 h2 (same := false) rfl hd rfl (by simp [q]) ho (by rfl) k
theorem o_ldcI (pc' : Nat) (W : Wk p l e R s m args below meth c Z y bytes maxL ret T h ce sl sf) {i : Nat} {v : Int32} (w : (Jvm.Cond.constant y.cls i v).before a0 Z = true) (hd : decode bytes pc = .ok (.ldc i, 2)) (K : Go p e below G T (mkF m pc' L (.int v :: S))) (hp : pc + 2 = pc' := by rfl) : Go p e below G T (mkF m pc L S) := by
  subst hp
  obtain ⟨vm0, k0, locs, X, eT, hS, hk, hZ, hown, hF, hN, hC, hsf, hE, ⟨a1, hEL⟩, hx, hby, hml, hnm, hrt, hlk⟩ := W
  subst hby
  exact K.st fun u k => X.ldcI hx hown (mv hZ w) (g := mkF m pc L S) rfl hd k
theorem o_ldc2J (pc' : Nat) (W : Wk p l e R s m args below meth c Z y bytes maxL ret T h ce sl sf) {i : Nat} {v : Int64} (w : (Jvm.Cond.constantLong y.cls i v).before a0 Z = true) (hd : decode bytes pc = .ok (.ldc2_w i, 3)) (K : Go p e below G T (mkF m pc' L (.long v :: S))) (hp : pc + 3 = pc' := by rfl) : Go p e below G T (mkF m pc L S) := by
  subst hp
  obtain ⟨vm0, k0, locs, X, eT, hS, hk, hZ, hown, hF, hN, hC, hsf, hE, ⟨a1, hEL⟩, hx, hby, hml, hnm, hrt, hlk⟩ := W
  subst hby
  exact K.st fun u k => X.ldc2J hx hown (mv hZ w) (g := mkF m pc L S) rfl hd k
theorem o_getF (pc' : Nat) (W : Wk p l e R s m args below meth c Z y bytes maxL ret T h ce sl sf) {i : Nat} {R0 O n d : String} {a : Addr} {v : Value} (w : (Jvm.Cond.fieldLink y.cls i R0 n d).before a0 Z = true) (F : Fld Z h a O n d v) (hd : decode bytes pc = .ok (.getfield i, 3)) (K : ∀ T', Wk p l e R s m args below meth c Z y bytes maxL ret T' h ce sl sf → Go p e below G T' (mkF m pc' L (v :: S))) (via : Via Z R0 O n d := by exact Via.refl) (hp : pc + 3 = pc' := by rfl) : Go p e below G T (mkF m pc L (.ref a :: S)) := by
  subst hp
  obtain ⟨vm0, k0, locs, X, eT, hS, hk, hZ, hown, hF, hN, hC, hsf, hE, ⟨a1, hEL⟩, hx, hby, hml, hnm, hrt, hlk⟩ := W
  subst hby
  obtain ⟨T', X', e', st⟩ := getF X hx hZ hown (host := "") (Or.inl w) via eT F (g := mkF m pc L (.ref a :: S)) rfl rfl hd
  exact (K T' ⟨vm0, k0, locs, X', e', hS, hk, hZ, hown, hF, hN, hC, hsf, hE, ⟨a1, hEL⟩, hx, rfl, hml, hnm, hrt, hlk⟩).st st
theorem o_getS (pc' : Nat) (W : Wk p l e R s m args below meth c Z y bytes maxL ret T h ce sl sf) {i : Nat} {R0 O n d : String} {v : Value} (w : (Jvm.Cond.fieldLink y.cls i R0 n d).before a0 Z = true) (F : Sta Z Z.heap O n d v) (hd : decode bytes pc = .ok (.getstatic i, 3)) (K : ∀ T', Wk p l e R s m args below meth c Z y bytes maxL ret T' h ce sl sf → Go p e below G T' (mkF m pc' L (v :: S))) (via : Via Z R0 O n d := by exact Via.refl) (hp : pc + 3 = pc' := by rfl) : Go p e below G T (mkF m pc L S) := by
  subst hp
  obtain ⟨vm0, k0, locs, X, eT, hS, hk, hZ, hown, hF, hN, hC, hsf, hE, ⟨a1, hEL⟩, hx, hby, hml, hnm, hrt, hlk⟩ := W
  subst hby
  obtain ⟨T', X', e', st⟩ := getS X hx hZ hown w via eT (Sta.ext hE F) (g := mkF m pc L S) rfl hd (host := "")
  exact (K T' ⟨vm0, k0, locs, X', e', hS, hk, hZ, hown, hF, hN, hC, hsf, hE, ⟨a1, hEL⟩, hx, rfl, hml, hnm, hrt, hlk⟩).st st
theorem o_cast (pc' : Nat) (W : Wk p l e R s m args below meth c Z y bytes maxL ret T h ce sl sf) {i : Nat} {K0 : String} {a : Addr} (w : (Jvm.Cond.classLink y.cls i K0).before a0 Z = true) (F : Ins Z h a K0 true) (hd : decode bytes pc = .ok (.checkcast i, 3)) (K : ∀ T', Wk p l e R s m args below meth c Z y bytes maxL ret T' h ce sl sf → Go p e below G T' (mkF m pc' L (.ref a :: S))) (hp : pc + 3 = pc' := by rfl) : Go p e below G T (mkF m pc L (.ref a :: S)) := by
  subst hp
  obtain ⟨vm0, k0, locs, X, eT, hS, hk, hZ, hown, hF, hN, hC, hsf, hE, ⟨a1, hEL⟩, hx, hby, hml, hnm, hrt, hlk⟩ := W
  subst hby
  obtain ⟨T', X', e', st⟩ := castY X hx hZ hown w eT F (g := mkF m pc L (.ref a :: S)) rfl rfl hd
  exact (K T' ⟨vm0, k0, locs, X', e', hS, hk, hZ, hown, hF, hN, hC, hsf, hE, ⟨a1, hEL⟩, hx, rfl, hml, hnm, hrt, hlk⟩).st st
theorem o_instY (pc' : Nat) (W : Wk p l e R s m args below meth c Z y bytes maxL ret T h ce sl sf) {i : Nat} {K0 : String} {a : Addr} (w : (Jvm.Cond.classLink y.cls i K0).before a0 Z = true) (F : Ins Z h a K0 true) (hd : decode bytes pc = .ok (.instanceof i, 3)) (K : ∀ T', Wk p l e R s m args below meth c Z y bytes maxL ret T' h ce sl sf → Go p e below G T' (mkF m pc' L (.int 1 :: S))) (hp : pc + 3 = pc' := by rfl) : Go p e below G T (mkF m pc L (.ref a :: S)) := by
  subst hp
  obtain ⟨vm0, k0, locs, X, eT, hS, hk, hZ, hown, hF, hN, hC, hsf, hE, ⟨a1, hEL⟩, hx, hby, hml, hnm, hrt, hlk⟩ := W
  subst hby
  obtain ⟨T', X', e', st⟩ := instY X hx hZ hown w eT F (g := mkF m pc L (.ref a :: S)) rfl rfl hd
  exact (K T' ⟨vm0, k0, locs, X', e', hS, hk, hZ, hown, hF, hN, hC, hsf, hE, ⟨a1, hEL⟩, hx, rfl, hml, hnm, hrt, hlk⟩).st st
theorem o_instN (pc' : Nat) (W : Wk p l e R s m args below meth c Z y bytes maxL ret T h ce sl sf) {i : Nat} {K0 C : String} {a : Addr} (w : (Jvm.Cond.classLink y.cls i K0).before a0 Z = true) (E : Exa Z h a C) (F : ∃ c t, Z.vm.findClass C = some c ∧ Z.vm.findClass K0 = some t ∧ Z.vm.assignable c t = false) (hd : decode bytes pc = .ok (.instanceof i, 3)) (K : ∀ T', Wk p l e R s m args below meth c Z y bytes maxL ret T' h ce sl sf → Go p e below G T' (mkF m pc' L (.int 0 :: S))) (hp : pc + 3 = pc' := by rfl) : Go p e below G T (mkF m pc L (.ref a :: S)) := by
  subst hp
  obtain ⟨vm0, k0, locs, X, eT, hS, hk, hZ, hown, hF, hN, hC, hsf, hE, ⟨a1, hEL⟩, hx, hby, hml, hnm, hrt, hlk⟩ := W
  subst hby
  obtain ⟨T', X', e', st⟩ := instNo X hx hZ hown w eT E F (g := mkF m pc L (.ref a :: S)) rfl rfl hd
  exact (K T' ⟨vm0, k0, locs, X', e', hS, hk, hZ, hown, hF, hN, hC, hsf, hE, ⟨a1, hEL⟩, hx, rfl, hml, hnm, hrt, hlk⟩).st st
theorem o_instNull (pc' : Nat) (W : Wk p l e R s m args below meth c Z y bytes maxL ret T h ce sl sf) {i : Nat} (hd : decode bytes pc = .ok (.instanceof i, 3)) (K : Go p e below G T (mkF m pc' L (.int 0 :: S))) (hp : pc + 3 = pc' := by rfl) : Go p e below G T (mkF m pc L (.null :: S)) := by
  subst hp
  obtain ⟨vm0, k0, locs, X, eT, hS, hk, hZ, hown, hF, hN, hC, hsf, hE, ⟨a1, hEL⟩, hx, hby, hml, hnm, hrt, hlk⟩ := W
  subst hby
  exact K.st fun u k => X.instanceofNull hx (g := mkF m pc L (.null :: S)) rfl rfl hd u k
theorem o_castNull (pc' : Nat) (W : Wk p l e R s m args below meth c Z y bytes maxL ret T h ce sl sf) {i : Nat} (hd : decode bytes pc = .ok (.checkcast i, 3)) (K : Go p e below G T (mkF m pc' L (.null :: S))) (hp : pc + 3 = pc' := by rfl) : Go p e below G T (mkF m pc L (.null :: S)) := by
  subst hp
  obtain ⟨vm0, k0, locs, X, eT, hS, hk, hZ, hown, hF, hN, hC, hsf, hE, ⟨a1, hEL⟩, hx, hby, hml, hnm, hrt, hlk⟩ := W
  subst hby
  exact K.st fun u k => X.checkcastNull hx (g := mkF m pc L (.null :: S)) rfl rfl hd u k
theorem o_iaload (pc' : Nat) (W : Wk p l e R s m args below meth c Z y bytes maxL ret T h ce sl sf) {a : Addr} {cl : Cell} {j : Int32} {v : Value} (A : Arr Z h a cl .int) (hj : ¬ (j < 0 ∨ cl.slots.size ≤ j.toNatClampNeg)) (hv : cl.slots[j.toNatClampNeg]? = some v) (hd : decode bytes pc = .ok (.iaload, 1)) (K : Go p e below G T (mkF m pc' L (v :: S))) (hp : pc + 1 = pc' := by rfl) : Go p e below G T (mkF m pc L (.int j :: .ref a :: S)) := by
  subst hp
  obtain ⟨vm0, k0, locs, X, eT, hS, hk, hZ, hown, hF, hN, hC, hsf, hE, ⟨a1, hEL⟩, hx, hby, hml, hnm, hrt, hlk⟩ := W
  subst hby
  exact K.st fun u k => X.iaload hx (by rw [eT]; exact A.1) (State.isArrayOf_alike hZ.alike A.2.1) A.2.2 hj hv (g := mkF m pc L (.int j :: .ref a :: S)) rfl rfl hd u k
theorem o_caload (pc' : Nat) (W : Wk p l e R s m args below meth c Z y bytes maxL ret T h ce sl sf) {a : Addr} {cl : Cell} {j : Int32} {v : Value} (A : Arr Z h a cl .char) (hj : ¬ (j < 0 ∨ cl.slots.size ≤ j.toNatClampNeg)) (hv : cl.slots[j.toNatClampNeg]? = some v) (hd : decode bytes pc = .ok (.caload, 1)) (K : Go p e below G T (mkF m pc' L (v :: S))) (hp : pc + 1 = pc' := by rfl) : Go p e below G T (mkF m pc L (.int j :: .ref a :: S)) := by
  subst hp
  obtain ⟨vm0, k0, locs, X, eT, hS, hk, hZ, hown, hF, hN, hC, hsf, hE, ⟨a1, hEL⟩, hx, hby, hml, hnm, hrt, hlk⟩ := W
  subst hby
  exact K.st fun u k => X.caload hx (by rw [eT]; exact A.1) (State.isArrayOf_alike hZ.alike A.2.1) A.2.2 hj hv (g := mkF m pc L (.int j :: .ref a :: S)) rfl rfl hd u k
theorem o_baload (pc' : Nat) (W : Wk p l e R s m args below meth c Z y bytes maxL ret T h ce sl sf) {a : Addr} {cl : Cell} {j : Int32} {v : Value} (A : Arr Z h a cl .byte) (hj : ¬ (j < 0 ∨ cl.slots.size ≤ j.toNatClampNeg)) (hv : cl.slots[j.toNatClampNeg]? = some v) (hd : decode bytes pc = .ok (.baload, 1)) (K : Go p e below G T (mkF m pc' L (v :: S))) (hp : pc + 1 = pc' := by rfl) : Go p e below G T (mkF m pc L (.int j :: .ref a :: S)) := by
  subst hp
  obtain ⟨vm0, k0, locs, X, eT, hS, hk, hZ, hown, hF, hN, hC, hsf, hE, ⟨a1, hEL⟩, hx, hby, hml, hnm, hrt, hlk⟩ := W
  subst hby
  exact K.st fun u k => X.baloadBytes hx (by rw [eT]; exact A.1) (State.isArrayOf_alike hZ.alike A.2.1) A.2.2 hj hv (g := mkF m pc L (.int j :: .ref a :: S)) rfl rfl hd u k
theorem o_laload (pc' : Nat) (W : Wk p l e R s m args below meth c Z y bytes maxL ret T h ce sl sf) {a : Addr} {cl : Cell} {j : Int32} {v : Value} (A : Arr Z h a cl .long) (hj : ¬ (j < 0 ∨ cl.slots.size ≤ j.toNatClampNeg)) (hv : cl.slots[j.toNatClampNeg]? = some v) (hd : decode bytes pc = .ok (.laload, 1)) (K : Go p e below G T (mkF m pc' L (v :: S))) (hp : pc + 1 = pc' := by rfl) : Go p e below G T (mkF m pc L (.int j :: .ref a :: S)) := by
  subst hp
  obtain ⟨vm0, k0, locs, X, eT, hS, hk, hZ, hown, hF, hN, hC, hsf, hE, ⟨a1, hEL⟩, hx, hby, hml, hnm, hrt, hlk⟩ := W
  subst hby
  exact K.st fun u k => X.laload hx (by rw [eT]; exact A.1) (State.isArrayOf_alike hZ.alike A.2.1) A.2.2 hj hv (g := mkF m pc L (.int j :: .ref a :: S)) rfl rfl hd u k
theorem o_aaload (pc' : Nat) (W : Wk p l e R s m args below meth c Z y bytes maxL ret T h ce sl sf) {a : Addr} {cl : Cell} {j : Int32} {v : Value} {ty : FieldType} (A : Arr Z h a cl ty) (hty : ty.isReference = true) (hj : ¬ (j < 0 ∨ cl.slots.size ≤ j.toNatClampNeg)) (hv : cl.slots[j.toNatClampNeg]? = some v) (hd : decode bytes pc = .ok (.aaload, 1)) (K : Go p e below G T (mkF m pc' L (v :: S))) (hp : pc + 1 = pc' := by rfl) : Go p e below G T (mkF m pc L (.int j :: .ref a :: S)) := by
  subst hp
  obtain ⟨vm0, k0, locs, X, eT, hS, hk, hZ, hown, hF, hN, hC, hsf, hE, ⟨a1, hEL⟩, hx, hby, hml, hnm, hrt, hlk⟩ := W
  subst hby
  exact K.st fun u k => X.aaload hx (by rw [eT]; exact A.1) (State.isArrayOf_alike hZ.alike A.2.1) hty A.2.2 hj hv (g := mkF m pc L (.int j :: .ref a :: S)) rfl rfl hd u k
theorem o_alen (pc' : Nat) (W : Wk p l e R s m args below meth c Z y bytes maxL ret T h ce sl sf) {a : Addr} {cl : Cell} {ty : FieldType} (n : Int32) (A : Arr Z h a cl ty) (hn : cl.slots.size.toInt32 = n) (hd : decode bytes pc = .ok (.arraylength, 1)) (K : Go p e below G T (mkF m pc' L (.int n :: S))) (hp : pc + 1 = pc' := by rfl) : Go p e below G T (mkF m pc L (.ref a :: S)) := by
  subst hp hn
  obtain ⟨vm0, k0, locs, X, eT, hS, hk, hZ, hown, hF, hN, hC, hsf, hE, ⟨a1, hEL⟩, hx, hby, hml, hnm, hrt, hlk⟩ := W
  subst hby
  exact K.st fun u k => X.arraylength hx (by rw [eT]; exact A.1) (State.isArrayOf_alike hZ.alike A.2.1) (g := mkF m pc L (.ref a :: S)) rfl rfl hd u k
theorem o_ialoadV (pc' : Nat) (W : Wk p l e R s m args below meth c Z y bytes maxL ret T h ce sl sf) {a : Addr} {k : ClassId} {z j : Int32} {vs : List Value} {dv v : Value} (A : Arv Z h a k .int z vs dv) (hj : ¬ j < 0 ∧ j < z) (hv : vs.getD j.toNatClampNeg dv = v) (hd : decode bytes pc = .ok (.iaload, 1)) (K : Go p e below G T (mkF m pc' L (v :: S))) (hp : pc + 1 = pc' := by rfl) : Go p e below G T (mkF m pc L (.int j :: .ref a :: S)) := by
  obtain ⟨cl, A1, A2, A3, A4, A5, A6⟩ := A
  exact o_iaload pc' W A1 (inb_of A3 hj) (Has.at A5 (inb_of A3 hj) hv) hd K hp
theorem o_caloadV (pc' : Nat) (W : Wk p l e R s m args below meth c Z y bytes maxL ret T h ce sl sf) {a : Addr} {k : ClassId} {z j : Int32} {vs : List Value} {dv v : Value} (A : Arv Z h a k .char z vs dv) (hj : ¬ j < 0 ∧ j < z) (hv : vs.getD j.toNatClampNeg dv = v) (hd : decode bytes pc = .ok (.caload, 1)) (K : Go p e below G T (mkF m pc' L (v :: S))) (hp : pc + 1 = pc' := by rfl) : Go p e below G T (mkF m pc L (.int j :: .ref a :: S)) := by
  obtain ⟨cl, A1, A2, A3, A4, A5, A6⟩ := A
  exact o_caload pc' W A1 (inb_of A3 hj) (Has.at A5 (inb_of A3 hj) hv) hd K hp
theorem o_baloadV (pc' : Nat) (W : Wk p l e R s m args below meth c Z y bytes maxL ret T h ce sl sf) {a : Addr} {k : ClassId} {z j : Int32} {vs : List Value} {dv v : Value} (A : Arv Z h a k .byte z vs dv) (hj : ¬ j < 0 ∧ j < z) (hv : vs.getD j.toNatClampNeg dv = v) (hd : decode bytes pc = .ok (.baload, 1)) (K : Go p e below G T (mkF m pc' L (v :: S))) (hp : pc + 1 = pc' := by rfl) : Go p e below G T (mkF m pc L (.int j :: .ref a :: S)) := by
  obtain ⟨cl, A1, A2, A3, A4, A5, A6⟩ := A
  exact o_baload pc' W A1 (inb_of A3 hj) (Has.at A5 (inb_of A3 hj) hv) hd K hp
theorem o_alenV (pc' : Nat) (W : Wk p l e R s m args below meth c Z y bytes maxL ret T h ce sl sf) {a : Addr} {k : ClassId} {z : Int32} {ty : FieldType} {vs : List Value} {dv : Value} (A : Arv Z h a k ty z vs dv) (hd : decode bytes pc = .ok (.arraylength, 1)) (K : Go p e below G T (mkF m pc' L (.int z :: S))) (hp : pc + 1 = pc' := by rfl) : Go p e below G T (mkF m pc L (.ref a :: S)) := by
  obtain ⟨cl, A1, A2, A3, A4, A5, A6⟩ := A
  exact o_alen pc' W z A1 (len_of A3 A4) hd K hp
theorem o_new (pc' : Nat) (W : Wk p l e R s m args below meth c Z y bytes maxL ret T h ce sl sf) {C : String} {i n : Nat} (w : (Jvm.Cond.classLink y.cls i C).before a0 Z = true) (wi : (Jvm.Cond.instantiable C n).before a0 Z = true) (wz : (Jvm.Cond.initialized C).before a0 Z = true) (hd : decode bytes pc = .ok (.new i, 3))
    (K : ∀ T' h' a, Wk p l e R s m args below meth c Z y bytes maxL ret T' h' (ce + 1) (sl + n) (a :: sf) → Ext h h' → Exa Z h' a C → (∀ {O nm d : String} {ty : FieldType}, Laid Z a0 C O nm d → parseFieldDescriptor d = some ty → Fld Z h' a O nm d (defaultValue ty)) → h.size ≤ a → Z.heap.size ≤ a → Go p e below G T' (mkF m pc' L (.ref a :: S)))
    (hc : ce + 1 ≤ R.cells := by decide) (hs : sl + n ≤ R.slots := by decide) (hp : pc + 3 = pc' := by rfl) : Go p e below G T (mkF m pc L S) := by
  subst hp
  obtain ⟨vm0, k0, locs, X, eT, hS, hk, hZ, hown, hF, hN, hC, hsf, hE, ⟨a1, hEL⟩, hx, hby, hml, hnm, hrt, hlk⟩ := W
  subst hby
  obtain ⟨T', h', X', e', E, A, D, -, st⟩ := newO X hx hZ hown w wi wz eT (g := mkF m pc L S) rfl hd hc hs
  refine (K T' h' h.size ⟨vm0, k0, locs, X', e', hS, Nat.le_trans hk E.1, hZ, hown, hF, hN, hC.trans (CHr.ext E hC.1), fun x q => ?_, own_ext_trans hE E, ⟨a1, hEL⟩, hx, rfl, hml, hnm, hrt, hlk⟩ E A D (Nat.le_refl _) hE.1).st st
  rcases List.mem_cons.mp q with rfl | q
  · exact ⟨A.lt, Safe.ext E hC.1 (Safe.new (Nat.le_refl _))⟩
  · exact ⟨Nat.lt_of_lt_of_le (hsf x q).1 E.1, Safe.ext E hC.1 (hsf x q).2⟩
theorem own_pad {a : Addr} {k : ClassId} {ty : FieldType} {z : Int32} {dv : Value} (n : Nat) (A : Arv Z h a k ty z [] dv) : Arv Z h a k ty z (List.replicate n dv) dv := A.pad fun i => by
  rw [List.getD_eq_getElem?_getD, List.getElem?_replicate]; split <;> simp
theorem o_newarray (pc' : Nat) (cap : Nat) (W : Wk p l e R s m args below meth c Z y bytes maxL ret T h ce sl sf) {aty : ArrayType} {n : Int32} (w : (Jvm.Cond.arrayClass (newarray.typeOf aty)).before a0 Z = true) (hd : decode bytes pc = .ok (.newarray aty, 2)) (hn : ¬ n < 0) (hcap : n.toNatClampNeg ≤ cap)
    (K : ∀ T' h' a k, Wk p l e R s m args below meth c Z y bytes maxL ret T' h' (ce + 1) (sl + cap) (a :: sf) → Ext h h' → Arv Z h' a k (newarray.typeOf aty) n [] (defaultValue (newarray.typeOf aty)) → h.size ≤ a → Z.heap.size ≤ a → Go p e below G T' (mkF m pc' L (.ref a :: S)))
    (hb : cap * 8 ≤ 536870912 := by decide) (hc : ce + 1 ≤ R.cells := by decide) (hs : sl + cap ≤ R.slots := by decide) (hp : pc + 2 = pc' := by rfl) : Go p e below G T (mkF m pc L (.int n :: S)) := by
  subst hp
  obtain ⟨vm0, k0, locs, X, eT, hS, hk, hZ, hown, hF, hN, hC, hsf, hE, ⟨a1, hEL⟩, hx, hby, hml, hnm, hrt, hlk⟩ := W
  subst hby
  obtain ⟨T', h', cA, X', e', E, A, st⟩ := newP X hx hZ w eT (g := mkF m pc L (.int n :: S)) rfl hd rfl hn hcap hb hc hs
  refine (K T' h' h.size cA ⟨vm0, k0, locs, X', e', hS, Nat.le_trans hk E.1, hZ, hown, hF, hN, hC.trans (CHr.ext E hC.1), fun x q => ?_, own_ext_trans hE E, ⟨a1, hEL⟩, hx, rfl, hml, hnm, hrt, hlk⟩ E (Arv.new A hn) (Nat.le_refl _) hE.1).st st
  rcases List.mem_cons.mp q with rfl | q
  · exact ⟨A.lt, Safe.ext E hC.1 (Safe.new (Nat.le_refl _))⟩
  · exact ⟨Nat.lt_of_lt_of_le (hsf x q).1 E.1, Safe.ext E hC.1 (hsf x q).2⟩
theorem o_putF (pc' : Nat) (W : Wk p l e R s m args below meth c Z y bytes maxL ret T h ce sl sf) {i kk : Nat} {R0 O n d C : String} {ty : FieldType} {a : Addr} {v old : Value} (w : (Jvm.Cond.fieldLink y.cls i R0 n d).before a0 Z = true) (F : Fld Z h a O n d old) (E : Exa Z h a C) (Lz : (Jvm.Cond.lays C O n d).before a0 Z = true ∨ ((Jvm.Cond.laysFinal C O n d).before a0 Z = true ∧ y.cls = O ∧ y.name = "<init>")) (wi : (Jvm.Cond.instantiable C kk).before a0 Z = true) (hty : parseFieldDescriptor d = some ty) (hn : narrow ty v = v) (hf : fits ty v = true) (hsafe : a ∈ sf ∨ (C ≠ "java/lang/String" ∧ C ≠ "[B")) (ha : Z.heap.size ≤ a) (hd : decode bytes pc = .ok (.putfield i, 3))
    (K : ∀ T' h', Wk p l e R s m args below meth c Z y bytes maxL ret T' h' ce sl sf → Wr h h' a (Jvm.RoadKit.slotOf Z O n d) v → Go p e below G T' (mkF m pc' L S)) (via : Via Z R0 O n d := by exact Via.refl) (hp : pc + 3 = pc' := by rfl) : Go p e below G T (mkF m pc L (v :: .ref a :: S)) := by
  subst hp
  obtain ⟨vm0, k0, locs, X, eT, hS, hk, hZ, hown, hF, hN, hC, hsf, hE, ⟨a1, hEL⟩, hx, hby, hml, hnm, hrt, hlk⟩ := W
  subst hby
  have hsa : Safe Z own_EL vm0 h a := hsafe.elim (fun q => (hsf a q).2) fun q => Safe.exa hZ.alike E q.1 q.2
  obtain ⟨T', h', X', e', Wr0, st⟩ := putF X hx hZ hown (host := "") (Or.inl w) via eT F E (Lz.imp id fun q => ⟨q.1, q.2.1, hnm.trans q.2.2⟩) wi hty hn hf (g := mkF m pc L (v :: .ref a :: S)) rfl rfl hd
  exact (K T' h' ⟨vm0, k0, _, X', e', hS, Nat.le_trans hk (Nat.le_of_eq Wr0.size.symm), hZ, hown, Fr.snoc X' hF ha, hN, hC.trans (CHr.wr Wr0 hsa hC.1), fun x q => ⟨Nat.lt_of_lt_of_le (hsf x q).1 (Nat.le_of_eq Wr0.size.symm), Safe.wr Wr0 hsa hC.1 (hsf x q).2⟩, own_ext_wr hE Wr0 ha, ⟨a1, hEL⟩, hx, rfl, hml, hnm, hrt, hlk⟩ Wr0).st st
theorem o_initO (pc' : Nat) (W : Wk p l e R s m args below meth c Z y bytes maxL ret T h ce sl sf) {i : Nat} {a : Addr} (w1 : (Jvm.Cond.methodLink y.cls i Lib.objectInit).before a0 Z = true) (w2 : (Jvm.Cond.instanceMethod Lib.objectInit).before a0 Z = true) (w3 : (Jvm.Cond.code Lib.objectInit ⟨#[0xb1]⟩ 1 none).before a0 Z = true) (hd : decode bytes pc = .ok (.invokespecial i, 3)) (K : ∀ T', Wk p l e R s m args below meth c Z y bytes maxL ret T' h ce sl sf → Go p e below G T' (mkF m pc' L S)) (hsz : L.size = maxL := by rfl) (hf : 1 ≤ R.frames := by decide) (hl : (S.map fun v => v.category).sum + 12 ≤ R.locals := by first | decide | exact Nat.le_of_ble_eq_true rfl) (hp : pc + 3 = pc' := by rfl) : Go p e below G T (mkF m pc L (.ref a :: S)) := by
  subst hp
  obtain ⟨vm0, k0, locs, X, eT, hS, hk, hZ, hown, hF, hN, hC, hsf, hE, ⟨a1, hEL⟩, hx, hby, hml, hnm, hrt, hlk⟩ := W
  subst hby
  obtain ⟨T', X', e', st⟩ := initO X hx hZ hown w1 w2 w3 eT (g := mkF m pc L (.ref a :: S)) rfl (by rw [hml]; exact hsz) rfl hd hf (W := (S.map fun v => v.category).sum) (by show 2 * 0 + _ ≤ _; omega) hl
  exact (K T' ⟨vm0, k0, locs, X', e', hS, hk, hZ, hown, hF, hN, hC, hsf, hE, ⟨a1, hEL⟩, hx, rfl, hml, hnm, hrt, hlk⟩).st st
theorem o_castore (pc' : Nat) (i : Nat) (W : Wk p l e R s m args below meth c Z y bytes maxL ret T h ce sl sf) {a : Addr} {k : ClassId} {z j x : Int32} {vs : List Value} {dv : Value} (A : Arv Z h a k .char z vs dv) (hj : ¬ j < 0 ∧ j < z) (hi : j.toNatClampNeg = i) (hlt : i < vs.length)  (ha : Z.heap.size ≤ a) (hd : decode bytes pc = .ok (.castore, 1))
    (K : ∀ T' h', Wk p l e R s m args below meth c Z y bytes maxL ret T' h' ce sl sf → Wr h h' a j.toNatClampNeg (.int (nar .char x)) → Arv Z h' a k .char z (vs.set i (.int (nar .char x))) dv → Go p e below G T' (mkF m pc' L S)) (hp : pc + 1 = pc' := by rfl) : Go p e below G T (mkF m pc L (.int x :: .int j :: .ref a :: S)) := by
  subst hp
  obtain ⟨vm0, k0, locs, X, eT, hS, hk, hZ, hown, hF, hN, hC, hsf, hE, ⟨a1, hEL⟩, hx, hby, hml, hnm, hrt, hlk⟩ := W
  subst hby
  obtain ⟨cl, A1, A2, A3, A4, A5, A6⟩ := A
  have hsa : Safe Z own_EL vm0 h a := Safe.arr hZ.alike A1 (by decide)
  obtain ⟨T', h', X', e', Wr0, st⟩ := stC X hx hZ eT A1 (inb_of A3 hj) (g := mkF m pc L (.int x :: .int j :: .ref a :: S)) rfl rfl hd
  exact (K T' h' ⟨vm0, k0, _, X', e', hS, Nat.le_trans hk (Nat.le_of_eq Wr0.size.symm), hZ, hown, Fr.snoc X' hF ha, hN, hC.trans (CHr.wr Wr0 hsa hC.1), fun x q => ⟨Nat.lt_of_lt_of_le (hsf x q).1 (Nat.le_of_eq Wr0.size.symm), Safe.wr Wr0 hsa hC.1 (hsf x q).2⟩, own_ext_wr hE Wr0 ha, ⟨a1, hEL⟩, hx, rfl, hml, hnm, hrt, hlk⟩ Wr0 (Arv.set A1 A2 A3 A4 A5 A6 (fits_nar_char x) Wr0 i hi hlt)).st st
theorem o_bastore (pc' : Nat) (i : Nat) (W : Wk p l e R s m args below meth c Z y bytes maxL ret T h ce sl sf) {a : Addr} {k : ClassId} {z j x : Int32} {vs : List Value} {dv : Value} (A : Arv Z h a k .byte z vs dv) (hj : ¬ j < 0 ∧ j < z) (hi : j.toNatClampNeg = i) (hlt : i < vs.length) (hsafe : a ∈ sf) (ha : Z.heap.size ≤ a) (hd : decode bytes pc = .ok (.bastore, 1))
    (K : ∀ T' h', Wk p l e R s m args below meth c Z y bytes maxL ret T' h' ce sl sf → Wr h h' a j.toNatClampNeg (.int (nar .byte x)) → Arv Z h' a k .byte z (vs.set i (.int (nar .byte x))) dv → Go p e below G T' (mkF m pc' L S)) (hp : pc + 1 = pc' := by rfl) : Go p e below G T (mkF m pc L (.int x :: .int j :: .ref a :: S)) := by
  subst hp
  obtain ⟨vm0, k0, locs, X, eT, hS, hk, hZ, hown, hF, hN, hC, hsf, hE, ⟨a1, hEL⟩, hx, hby, hml, hnm, hrt, hlk⟩ := W
  subst hby
  obtain ⟨cl, A1, A2, A3, A4, A5, A6⟩ := A
  have hsa : Safe Z own_EL vm0 h a := (hsf a hsafe).2
  obtain ⟨T', h', X', e', Wr0, st⟩ := stB X hx hZ eT A1 (inb_of A3 hj) (g := mkF m pc L (.int x :: .int j :: .ref a :: S)) rfl rfl hd
  exact (K T' h' ⟨vm0, k0, _, X', e', hS, Nat.le_trans hk (Nat.le_of_eq Wr0.size.symm), hZ, hown, Fr.snoc X' hF ha, hN, hC.trans (CHr.wr Wr0 hsa hC.1), fun x q => ⟨Nat.lt_of_lt_of_le (hsf x q).1 (Nat.le_of_eq Wr0.size.symm), Safe.wr Wr0 hsa hC.1 (hsf x q).2⟩, own_ext_wr hE Wr0 ha, ⟨a1, hEL⟩, hx, rfl, hml, hnm, hrt, hlk⟩ Wr0 (Arv.set A1 A2 A3 A4 A5 A6 (fits_nar_byte x) Wr0 i hi hlt)).st st
theorem o_iastore (pc' : Nat) (i : Nat) (W : Wk p l e R s m args below meth c Z y bytes maxL ret T h ce sl sf) {a : Addr} {k : ClassId} {z j x : Int32} {vs : List Value} {dv : Value} (A : Arv Z h a k .int z vs dv) (hj : ¬ j < 0 ∧ j < z) (hi : j.toNatClampNeg = i) (hlt : i < vs.length)  (ha : Z.heap.size ≤ a) (hd : decode bytes pc = .ok (.iastore, 1))
    (K : ∀ T' h', Wk p l e R s m args below meth c Z y bytes maxL ret T' h' ce sl sf → Wr h h' a j.toNatClampNeg (.int x) → Arv Z h' a k .int z (vs.set i (.int x)) dv → Go p e below G T' (mkF m pc' L S)) (hp : pc + 1 = pc' := by rfl) : Go p e below G T (mkF m pc L (.int x :: .int j :: .ref a :: S)) := by
  subst hp
  obtain ⟨vm0, k0, locs, X, eT, hS, hk, hZ, hown, hF, hN, hC, hsf, hE, ⟨a1, hEL⟩, hx, hby, hml, hnm, hrt, hlk⟩ := W
  subst hby
  obtain ⟨cl, A1, A2, A3, A4, A5, A6⟩ := A
  have hsa : Safe Z own_EL vm0 h a := Safe.arr hZ.alike A1 (by decide)
  obtain ⟨T', h', X', e', Wr0, st⟩ := stI X hx hZ eT A1 (inb_of A3 hj) (g := mkF m pc L (.int x :: .int j :: .ref a :: S)) rfl rfl hd
  exact (K T' h' ⟨vm0, k0, _, X', e', hS, Nat.le_trans hk (Nat.le_of_eq Wr0.size.symm), hZ, hown, Fr.snoc X' hF ha, hN, hC.trans (CHr.wr Wr0 hsa hC.1), fun x q => ⟨Nat.lt_of_lt_of_le (hsf x q).1 (Nat.le_of_eq Wr0.size.symm), Safe.wr Wr0 hsa hC.1 (hsf x q).2⟩, own_ext_wr hE Wr0 ha, ⟨a1, hEL⟩, hx, rfl, hml, hnm, hrt, hlk⟩ Wr0 (Arv.set A1 A2 A3 A4 A5 A6 (rfl) Wr0 i hi hlt)).st st
theorem o_arraycopy (pc' : Nat) (W : Wk p l e R s m args below meth c Z y bytes maxL ret T h ce sl sf) {i : Nat} {a b : Addr} {k k' : ClassId} {z z' sp dp nn : Int32} {vs vd us : List Value} {dv dd : Value} {ty : FieldType} (w1 : (Jvm.Cond.methodLink y.cls i Jvm.Stand.acN).before a0 Z = true) (w2 : (Jvm.Cond.native Jvm.Stand.acN).before a0 Z = true) (w3 : (Jvm.Cond.static Jvm.Stand.acN).before a0 Z = true) (w4 : (Jvm.Cond.initialized "java/lang/System").before a0 Z = true) (A : Arv Z h a k ty z vs dv) (B : Arv Z h b k' ty z' vd dd) (hty : refKind ty = false)
    (h1 : ¬ sp < 0) (h2 : ¬ dp < 0) (h3 : ¬ nn < 0) (h4 : sp.toNatClampNeg + nn.toNatClampNeg ≤ z.toNatClampNeg) (h5 : dp.toNatClampNeg + nn.toNatClampNeg ≤ z'.toNatClampNeg) (hus : us = (List.range nn.toNatClampNeg).map fun i => vs.getD (sp.toNatClampNeg + i) dv) (hlv : dp.toNatClampNeg + nn.toNatClampNeg ≤ vd.length) (hsafe : b ∈ sf) (hb : Z.heap.size ≤ b) (hd : decode bytes pc = .ok (.invokestatic i, 3))
    (K : ∀ T' h', Wk p l e R s m args below meth c Z y bytes maxL ret T' h' ce sl sf → Keep h h' [b] → Arv Z h' b k' ty z' (vd.take dp.toNatClampNeg ++ us ++ vd.drop (dp.toNatClampNeg + nn.toNatClampNeg)) dd → Go p e below G T' (mkF m pc' L S)) (hsz : L.size = maxL := by rfl) (hf : 1 ≤ R.frames := by decide) (hl : (S.map fun v => v.category).sum + (nativeFrameWords "java/lang/System" "arraycopy" 5 + 11) ≤ R.locals := by first | decide | exact Nat.le_of_ble_eq_true rfl) (hp : pc + 3 = pc' := by rfl) : Go p e below G T (mkF m pc L (.int nn :: .int dp :: .ref b :: .int sp :: .ref a :: S)) := by
  subst hp
  obtain ⟨vm0, k0, locs, X, eT, hS, hk, hZ, hown, hF, hN, hC, hsf, hE, ⟨a1, hEL⟩, hx, hby, hml, hnm, hrt, hlk⟩ := W
  subst hby
  obtain ⟨T', h', L', X', e', N', Kp, A', st⟩ := cpA X hx hZ hown w1 w2 w3 w4 eT A B (Or.inl ⟨rfl, hty⟩) h1 h2 h3 h4 h5 hus hlv hF hb (g := mkF m pc L (.int nn :: .int dp :: .ref b :: .int sp :: .ref a :: S)) rfl (by rw [hml]; exact hsz) rfl hd hf (W := (S.map fun v => v.category).sum) (by show 2 * 0 + _ ≤ _; omega) hl
  have hs1 : ∀ x ∈ [b], Safe Z own_EL vm0 h x := fun x q => by rw [List.mem_singleton.mp q]; exact (hsf b hsafe).2
  have hE' : Ext Z.heap h' := ⟨Nat.le_trans hE.1 Kp.1, fun x cc r => Kp.2.1 x cc (hE.2 x cc r) fun q => by
    have hlt := (Array.getElem?_eq_some_iff.mp r).1
    rw [List.mem_singleton.mp q] at hlt; omega⟩
  exact (K T' h' ⟨vm0, k0, L', X', e', hS, Nat.le_trans hk Kp.1, hZ, hown, N', hN, hC.trans (CHr.keep Kp hs1 hC.1), fun x q => ⟨Nat.lt_of_lt_of_le (hsf x q).1 Kp.1, Safe.keep Kp hs1 hC.1 (hsf x q).2⟩, hE', ⟨a1, hEL⟩, hx, rfl, hml, hnm, hrt, hlk⟩ Kp A').st st
theorem o_clone (pc' : Nat) (cap : Nat) (W : Wk p l e R s m args below meth c Z y bytes maxL ret T h ce sl sf) {i : Nat} {ad : String} {a : Addr} {k : ClassId} {ty : FieldType} {z : Int32} {vs : List Value} {dv : Value} (w1 : (Jvm.Cond.methodLink y.cls i ⟨ad, "clone", "()Ljava/lang/Object;"⟩).before a0 Z = true) (w2 : (Jvm.Cond.sameMethod ad "java/lang/Object" "clone" "()Ljava/lang/Object;").before a0 Z = true) (w3 : (Jvm.Cond.native ⟨"java/lang/Object", "clone", "()Ljava/lang/Object;"⟩).before a0 Z = true) (w4 : (Jvm.Cond.instanceMethod ⟨"java/lang/Object", "clone", "()Ljava/lang/Object;"⟩).before a0 Z = true) (w5 : (Jvm.Cond.selects ad ⟨ad, "clone", "()Ljava/lang/Object;"⟩ ⟨"java/lang/Object", "clone", "()Ljava/lang/Object;"⟩).before a0 Z = true) (w6 : (Jvm.Cond.castable ad "java/lang/Cloneable").before a0 Z = true) (F : Arv Z h a k ty z vs dv) (E : Exa Z h a ad) (hd : decode bytes pc = .ok (.invokevirtual i, 3)) (hcap : z.toNatClampNeg ≤ cap)
    (K : ∀ T' h' b, Wk p l e R s m args below meth c Z y bytes maxL ret T' h' (ce + 1) (sl + cap) (b :: sf) → Ext h h' → Arv Z h' b k ty z vs dv → Exa Z h' b ad → h.size ≤ b → Z.heap.size ≤ b → Go p e below G T' (mkF m pc' L (.ref b :: S))) (hsz : L.size = maxL := by rfl) (hf : 1 ≤ R.frames := by decide) (hl : (S.map fun v => v.category).sum + 14 ≤ R.locals := by first | decide | exact Nat.le_of_ble_eq_true rfl) (hc : ce + 1 ≤ R.cells := by decide) (hs : sl + cap ≤ R.slots := by decide) (hp : pc + 3 = pc' := by rfl) : Go p e below G T (mkF m pc L (.ref a :: S)) := by
  subst hp
  obtain ⟨vm0, k0, locs, X, eT, hS, hk, hZ, hown, hF, hN, hC, hsf, hE, ⟨a1, hEL⟩, hx, hby, hml, hnm, hrt, hlk⟩ := W
  subst hby
  obtain ⟨T', h', X', e', Ee, A, Ex, st⟩ := cloneH X hx hZ hown w1 w2 w3 w4 w5 w6 eT (hs := []) F E (g := mkF m pc L (.ref a :: S)) rfl (by rw [hml]; exact hsz) rfl hd hf (W := (S.map fun v => v.category).sum) (by show 2 * 0 + _ ≤ _; omega) hl hcap hc hs
  refine (K T' h' h.size ⟨vm0, k0, locs, X', e', hS, Nat.le_trans hk Ee.1, hZ, hown, hF, hN, hC.trans (CHr.ext Ee hC.1), fun x q => ?_, own_ext_trans hE Ee, ⟨a1, hEL⟩, hx, rfl, hml, hnm, hrt, hlk⟩ Ee A Ex (Nat.le_refl _) hE.1).st st
  rcases List.mem_cons.mp q with rfl | q
  · exact ⟨Ex.lt, Safe.ext Ee hC.1 (Safe.new (Nat.le_refl _))⟩
  · exact ⟨Nat.lt_of_lt_of_le (hsf x q).1 Ee.1, Safe.ext Ee hC.1 (hsf x q).2⟩
theorem own_ew {a1 a2 : Array Value} (E : EW Z a1 own_EL) : EW Z a2 own_EL := fun q hq => by
  obtain ⟨t, h1, h2⟩ := E q hq
  exact ⟨t, mvS (s := Z) (vm0 := Z.vm) (State.Warmed39.refl Z) h1, h2⟩
theorem o_ldcS (pc' : Nat) (n : Nat) (W : Wk p l e R s m args below meth c Z y bytes maxL ret T h ce sl sf) {i : Nat} {text : String} (hnar : ¬ own_Nar) (w : (Jvm.Cond.stringLink y.cls i text).before a0 Z = true) (wS : ∀ a ∈ Bundle.stringAtoms, a.before a0 Z = true) (hd : decode bytes pc = .ok (.ldc i, 2)) (hn : 4 * text.toList.length ≤ n)
    (K : ∀ T' h' a, Wk p l e R s m args below meth c Z y bytes maxL ret T' h' (ce + 2) (sl + (n + 4)) sf → Ext h h' → Go p e below G T' (mkF m pc' L (.ref a :: S))) (hbig : n ≤ 536870912 := by decide) (hc : ce + 2 ≤ R.cells := by decide) (hs : sl + (n + 4) ≤ R.slots := by decide) (hp : pc + 2 = pc' := by rfl) : Go p e below G T (mkF m pc L S) := by
  subst hp
  obtain ⟨vm0, k0, locs, X, eT, hS, hk, hZ, hown, hF, hN, hC, hsf, hE, ⟨a1, hEL⟩, hx, hby, hml, hnm, hrt, hlk⟩ := W
  subst hby
  obtain ⟨a, T', h', k1, X', e', E, hS', hk', hZ', hown', hC', -, st⟩ := ldcOH X hx hZ hown w wS eT hS hk (own_ew hEL) hC.1 (g := mkF m pc L S) rfl hd hn hbig hc hs
  exact (K T' h' a ⟨T'.vm, k1, locs, X', e', hS', hk', hZ', hown', hF, fun q => absurd q hnar, hC.trans hC', fun x q => ⟨Nat.lt_of_lt_of_le (hsf x q).1 E.1, hC'.safe (hsf x q).1 (hsf x q).2⟩, own_ext_trans hE E, ⟨a1, hEL⟩, hx, rfl, hml, hnm, hrt, hlk⟩ E).st st
theorem o_ldcC (pc' : Nat) (n : Nat) (W : Wk p l e R s m args below meth c Z y bytes maxL ret T h ce sl sf) {i : Nat} {text : String} {vs : List Value} {z : Int32} (hnar : ¬ own_Nar) (w : (Jvm.Cond.stringLink y.cls i text).before a0 Z = true) (wS : ∀ a ∈ Bundle.stringAtoms, a.before a0 Z = true) (hmem : (y.cls, i) ∈ own_EL) (ht : (∀ c ∈ text.toList, c.toNat < 256) ∧ text.toList.map (fun c => Value.int (Jvm.Lit.byteI c.toNat.toUInt16)) = vs) (hz : ¬ z < 0) (hzl : z.toNatClampNeg = vs.length) (hd : decode bytes pc = .ok (.ldc i, 2)) (hn : 4 * text.toList.length ≤ n)
    (K : ∀ T' h' a b k, Wk p l e R s m args below meth c Z y bytes maxL ret T' h' (ce + 2) (sl + (n + 4)) sf → Ext h h' → Exa Z h' a "java/lang/String" → Fld Z h' a "java/lang/String" "coder" "B" (.int 0) → Fld Z h' a "java/lang/String" "value" "[B" (.ref b) → Arv Z h' b k .byte z vs (.int 0) → (∀ x ∈ sf, x ≠ a ∧ x ≠ b) → Go p e below G T' (mkF m pc' L (.ref a :: S))) (hbig : n ≤ 536870912 := by decide) (hc : ce + 2 ≤ R.cells := by decide) (hs : sl + (n + 4) ≤ R.slots := by decide) (hp : pc + 2 = pc' := by rfl) : Go p e below G T (mkF m pc L S) := by
  subst hp
  obtain ⟨vm0, k0, locs, X, eT, hS, hk, hZ, hown, hF, hN, hC, hsf, hE, ⟨a1, hEL⟩, hx, hby, hml, hnm, hrt, hlk⟩ := W
  subst hby
  obtain ⟨a, T', h', k1, b, k, X', e', E, hS', hk', hZ', hown', q1, q2, q3, q4, q5, q6, hC', -, hsaf, st⟩ := ldcCH X hx hZ hown w wS eT hS hk (own_ew hEL) hmem hC.1 ht hz hzl (g := mkF m pc L S) rfl hd hn hbig hc hs
  exact (K T' h' a b k ⟨T'.vm, k1, locs, X', e', hS', hk', hZ', hown', hF, fun q => absurd q hnar, hC.trans hC', fun x q => ⟨Nat.lt_of_lt_of_le (hsf x q).1 E.1, hC'.safe (hsf x q).1 (hsf x q).2⟩, own_ext_trans hE E, ⟨a1, hEL⟩, hx, rfl, hml, hnm, hrt, hlk⟩ E q1 q2 q3 q4 fun x q => hsaf x (hC'.safe (hsf x q).1 (hsf x q).2)).st st
/-- what a body's end leaves -/
def Gd (s : State) (below : List Frame) (Z : State) (Q : Option Value → Heap → Prop) (kc ks : Nat) (u : State) : Prop := u.status = .running ∧ ∃ (v : Option Value) (Lc : List Loc), Ended u below (.returned v) ∧ Q v u.heap ∧ Fr Z.heap.size Lc ∧ CHr Z own_EL s.vm s.heap u.vm u.heap ∧ Ext Z.heap u.heap ∧ (own_Nar → s.WarmedH u.vm) ∧ ReturnedEndW s (.returned v) u Lc kc ks
/-- a body's contract: from the heap h0, with the arguments as', it returns and leaves Q -/
def Con (l : Launch) (Z : State) (y : MethodName) (bytes : ByteArray) (maxL : Nat) (ret : Option FieldType) (rm : Room) (as' : Array Value) (h0 : Heap) (sf0 : List Addr) (Q : Option Value → Heap → Prop) : Prop :=
  ∀ ws : List Jvm.Cond, MetFree l y (head1 (Jvm.Cond.code y bytes maxL ret :: ws) rm) (fun a U => a = as' ∧ Z.Warmed39 U.vm ∧ U.heap = h0 ∧ CHv Z own_EL U.vm h0 ∧ ∀ x ∈ sf0, Safe Z own_EL U.vm h0 x) (fun _ _ _ _ _ => True)
    (fun _ U o U' => ∃ v Lc, o = .returned v ∧ Q v U'.heap ∧ Fr Z.heap.size Lc ∧ CHr Z own_EL U.vm U.heap U'.vm U'.heap ∧ Ext Z.heap U'.heap ∧ (own_Nar → U.WarmedH U'.vm) ∧ ReturnedEndW U o U' Lc rm.cells rm.slots)
/-- a value is returned -/
abbrev QV (Q : Value → Heap → Prop) (v : Option Value) (h : Heap) : Prop := ∃ w, v = some w ∧ Q w h
/-- nothing is returned -/
abbrev Q0 (Q : Heap → Prop) (v : Option Value) (h : Heap) : Prop := v = none ∧ Q h
theorem Con.of {rm : Room} {as' : Array Value} {h0 : Heap} {sf0 : List Addr} {Q : Option Value → Heap → Prop} {L0 : Array Slot} (hp : plainFor y = true) (hE : Ext Z.heap h0) (hEL : ∃ a1, EW Z a1 own_EL) (hsf : ∀ x ∈ sf0, x < h0.size)
    (hent : ∀ m : MethodId, entryFrame m as' maxL = mkF m 0 L0 [])
    (body : ∀ (p : Program) (e : Env) (s : State) (m : MethodId) (args : Array Value) (below : List Frame) (meth : Method) (c : Code) (T : State), Wk p l e rm s m args below meth c Z y bytes maxL ret T h0 0 0 sf0 → Go p e below (Gd s below Z Q rm.cells rm.slots) T (mkF m 0 L0 [])) :
    Con l Z y bytes maxL ret rm as' h0 sf0 Q := by
  intro ws
  refine MetFree.of_bodySF hp hisR ?_
  intro p e s m args below meth c s₁ Bd hml hP hK
  obtain ⟨rfl, hZ, hh, hCH, hsaf⟩ := hP
  have X0 : Stand p l e rm (s.setVm s.vm) m args below meth c s₁ [] 0 0 := Stand.of_body Bd
  have e0 : s₁.heap = h0 := by rw [← hh, Bd.state]; rfl
  have hlk : meth.locks = false := by first | exact Bd.notSynchronized | exact BodyLoose.notSynchronized Bd
  have W : Wk p l e rm s m args below meth c Z y bytes maxL ret s₁ h0 0 0 sf0 :=
    ⟨s.vm, 0, [], X0, e0, (State.WarmedH.refl s).since 0, Nat.zero_le _, hZ, findClass_of_methodNamed Bd.named, Fr.nil _, fun _ => State.WarmedH.refl s, by rw [hh]; exact CHr.refl hCH, fun x hx => ⟨hsf x hx, hsaf x hx⟩, hE, hEL, Bd.exec, Bd.bytes, hml, (name_of_methodNamed Bd.named Bd.method).1, Bd.returns, hlk⟩
  obtain ⟨u, k, g1, v, Lc, g2, g3, g4, g5, g6, g7, g8⟩ := body p e s m args below meth c s₁ W
  exact ⟨u, _, castTop (hent m) k, g1, g2, v, Lc, rfl, g3, g4, g5, g6, g7, g8⟩
theorem o_end {Q : Option Value → Heap → Prop} {kc ks : Nat} (W : Wk p l e R s m args below meth c Z y bytes maxL ret T h ce sl sf) {v : Option Value} {g : JFrame} (hv : meth.sig.returnType = none → v = none) (hq : Q v h) (hc : ce ≤ kc) (hs : sl ≤ ks)
    (K : ∀ fs : List Frame, (∀ (f : JFrame) (acts : List Action), f.method = m → f.locked = none → f.entered = [] → (doReturn e (T.setTop f) acts v).1 = T.setFrames fs) → Steps p.tables e below (T.setTop g) (T.setFrames fs)) : Go p e below (Gd s below Z Q kc ks) T g := by
  obtain ⟨vm0, k0, locs, X, eT, hS, hk, hZ, hown, hF, hN, hC, hsf, hE, ⟨a1, hEL⟩, hx, hby, hml, hnm, hrt, hlk⟩ := W
  subst eT
  obtain ⟨fs, hr, hrun, hended, hW⟩ := (X.mono hc hs).leaveW hS hk (v := v) hv hlk
  have hC2 := hC.trans (CHv.at X hZ hEL hC.1)
  refine ⟨T.setFrames fs, K fs hr, hrun, v, locs, hended, hq, hF, hC2, hE, fun q => ?_, hW⟩
  exact State.WarmedH.trans (t := s.setVm vm0) (hN q) X.warmed
theorem o_iret {Q : Value → Heap → Prop} {kc ks : Nat} (W : Wk p l e R s m args below meth c Z y bytes maxL (some .int) T h ce sl sf) {x : Int32} (hd : decode bytes pc = .ok (.ireturn, 1)) (hq : Q (.int x) h) (hc : ce ≤ kc := by decide) (hs : sl ≤ ks := by decide) : Go p e below (Gd s below Z (QV Q) kc ks) T (mkF m pc L (.int x :: S)) := by
  have W2 := W
  obtain ⟨vm0, k0, locs, X, eT, hS, hk, hZ, hown, hF, hN, hC, hsf, hE, ⟨a1, hEL⟩, hx, hby, hml, hnm, hrt, hlk⟩ := W2
  subst hby
  exact o_end W (v := some (.int x)) (fun q => by rw [hrt] at q; cases q) ⟨_, rfl, hq⟩ hc hs fun fs hr => retOut X hx hrt rfl (Or.inl ⟨rfl, Or.inl rfl, x, rfl⟩) hd hr
theorem o_nret {Q : Value → Heap → Prop} {kc ks : Nat} {t : FieldType} (W : Wk p l e R s m args below meth c Z y bytes maxL (some t) T h ce sl sf) {x : Int32} (x' : Int32) (ht : t = .boolean ∨ t = .byte ∨ t = .char ∨ t = .short) (hn : nar t x = x') (hd : decode bytes pc = .ok (.ireturn, 1)) (hq : Q (.int x') h) (hc : ce ≤ kc := by decide) (hs : sl ≤ ks := by decide) : Go p e below (Gd s below Z (QV Q) kc ks) T (mkF m pc L (.int x :: S)) := by
  have W2 := W
  obtain ⟨vm0, k0, locs, X, eT, hS, hk, hZ, hown, hF, hN, hC, hsf, hE, ⟨a1, hEL⟩, hx, hby, hml, hnm, hrt, hlk⟩ := W2
  subst hby hn
  exact o_end W (v := some (.int (nar t x))) (fun q => by rw [hrt] at q; cases q) ⟨_, rfl, hq⟩ hc hs fun fs hr => retN X hx hrt ht hd hr
theorem o_aret {Q : Value → Heap → Prop} {kc ks : Nat} {t : FieldType} (W : Wk p l e R s m args below meth c Z y bytes maxL (some t) T h ce sl sf) {x : Value} (ht : t.isReference = true) (hv : x.isRef = true) (hn : narrow t x = x) (hd : decode bytes pc = .ok (.areturn, 1)) (hq : Q x h) (hc : ce ≤ kc := by decide) (hs : sl ≤ ks := by decide) : Go p e below (Gd s below Z (QV Q) kc ks) T (mkF m pc L (x :: S)) := by
  have W2 := W
  obtain ⟨vm0, k0, locs, X, eT, hS, hk, hZ, hown, hF, hN, hC, hsf, hE, ⟨a1, hEL⟩, hx, hby, hml, hnm, hrt, hlk⟩ := W2
  subst hby
  exact o_end W (v := some x) (fun q => by rw [hrt] at q; cases q) ⟨_, rfl, hq⟩ hc hs fun fs hr => retOut X hx hrt hn (Or.inr (Or.inr (Or.inr (Or.inr ⟨rfl, ht, hv⟩)))) hd hr
theorem o_ret {Q : Heap → Prop} {kc ks : Nat} (W : Wk p l e R s m args below meth c Z y bytes maxL none T h ce sl sf) (hd : decode bytes pc = .ok (.return_, 1)) (hq : Q h) (hc : ce ≤ kc := by decide) (hs : sl ≤ ks := by decide) : Go p e below (Gd s below Z (Q0 Q) kc ks) T (mkF m pc L []) := by
  have W2 := W
  obtain ⟨vm0, k0, locs, X, eT, hS, hk, hZ, hown, hF, hN, hC, hsf, hE, ⟨a1, hEL⟩, hx, hby, hml, hnm, hrt, hlk⟩ := W2
  subst hby
  exact o_end W (v := none) (fun _ => rfl) ⟨rfl, hq⟩ hc hs fun fs hr => X.returnOut hx hrt hd hr
theorem own_back {vm0 : Vm} {y' : MethodName} {bytes' : ByteArray} {maxL' : Nat} {ret' : Option FieldType} {rm : Room} {as' : Array Value} {sf' : List Addr} {Q : Option Value → Heap → Prop} {len Wd : Nat} {a1 : Array Value} (C : Con l Z y' bytes' maxL' ret' rm as' h sf' Q) (hZ : Z.Warmed39 (s.setVm vm0).vm) (wc : (Jvm.Cond.code y' bytes' maxL' ret').before a0 Z = true) (wz : (Jvm.Cond.initialized y'.cls).before a0 Z = true)
    (hf : rm.frames + 1 ≤ R.frames) (hl : Wd + (maxL' + 11) + rm.locals ≤ R.locals) (hEL : EW Z a1 own_EL) (H : CHv Z own_EL vm0 h) (hsf : ∀ x ∈ sf', x < h.size ∧ Safe Z own_EL vm0 h x) :
    BackS l R p e below (s.setVm vm0) args y' len Wd (fun A a => a = as' ∧ A.U.heap = h ∧ A.cells + rm.cells ≤ R.cells ∧ A.slots + rm.slots ≤ R.slots)
      (fun A _ v B => ∃ Lc, Q v B.U.heap ∧ Fr Z.heap.size Lc ∧ B.locs = A.locs ++ Lc ∧ B.cells = A.cells + rm.cells ∧ B.slots = A.slots + rm.slots ∧ CHr Z own_EL vm0 h B.U.vm B.U.heap ∧ Ext Z.heap B.U.heap ∧ (own_Nar → A.U.WarmedH B.U.vm)) :=
  BackS.of_freeW (bytes := bytes') (maxL := maxL') (ret := ret') (E := fun _ first o t Lc k n => k = rm.cells ∧ n = rm.slots ∧ (∃ v, o = .returned v ∧ Q v t.heap) ∧ Fr Z.heap.size Lc ∧ CHr Z own_EL first.vm first.heap t.vm t.heap ∧ Ext Z.heap t.heap ∧ (own_Nar → first.WarmedH t.vm)) (C []) hf hl
    (fun m meth c A a Y hp => have hU : Z.Warmed39 A.U.vm := wtrans (s := s.setVm vm0) hZ Y.warmed
      ⟨by show (Jvm.Cond.and _ .tt).before a A.U = true; rw [Cond.before_and, mv hU wc]; rfl, mv hU wc, mv hU wz, hp.2.2.1, hp.2.2.2⟩)
    (fun m meth c A a g mk Y hp => ⟨hp.1, wtrans (s := s.setVm vm0) hZ Y.warmed, hp.2.1, (CHv.at Y hZ hEL H).1, fun x hx => (CHv.at Y hZ hEL H).safe (hsf x hx).1 (hsf x hx).2⟩) (fun _ _ _ _ _ _ _ _ _ => trivial)
    (fun _ _ _ _ ⟨v, Lc, h1, h2, h3, h4, h5, h6, h7⟩ => ⟨Lc, _, _, h7, rfl, rfl, ⟨v, h1, h2⟩, h3, h4, h5, h6⟩)
    (fun m meth c A a g mk v t Lc k n Y hp _ _ ⟨e1, e2, ⟨v', e3, e4⟩, e5, e6, e7, e8⟩ => by
      cases e3; subst e1 e2
      refine ⟨Lc, e4, e5, rfl, rfl, rfl, (CHv.at Y hZ hEL H).trans ?_, e7, fun q => ?_⟩
      · rw [← hp.2.1]; exact e6
      · exact e8 q)
theorem o_static (pc' : Nat) (A : List Value) (W : Wk p l e R s m args below meth c Z y bytes maxL ret T h ce sl sf) {y' : MethodName} {bytes' : ByteArray} {maxL' : Nat} {ret' : Option FieldType} {rm : Room} {sf' : List Addr} {Q : Option Value → Heap → Prop} {stk : List Value} {i : Nat} (w1 : (Jvm.Cond.methodLink y.cls i y').before a0 Z = true) (w2 : (Jvm.Cond.static y').before a0 Z = true) (wz : (Jvm.Cond.initialized y'.cls).before a0 Z = true) (wc : (Jvm.Cond.code y' bytes' maxL' ret').before a0 Z = true) (C : Con l Z y' bytes' maxL' ret' rm A.toArray h sf' Q) {ps : List FieldType} {rt : Option FieldType} (hpd : parseMethodDescriptor y'.desc = some ⟨ps, rt⟩) (hd : decode bytes pc = .ok (.invokestatic i, 3)) (hst : stk = A.reverse ++ S) (hsub : ∀ x ∈ sf', x ∈ sf) (K : ∀ T' h' v, Wk p l e R s m args below meth c Z y bytes maxL ret T' h' (ce + rm.cells) (sl + rm.slots) sf → Q v h' → h.size ≤ h'.size → Go p e below G T' (mkF m pc' L (v.toList ++ S))) (hsz : L.size = maxL := by rfl) (hln : A.length = ps.length := by rfl) (hy : y'.cls ≠ "java/lang/invoke/MethodHandle" ∧ y'.cls ≠ "java/lang/invoke/VarHandle" := by decide) (hf : rm.frames + 1 ≤ R.frames := by decide) (hl : (S.map fun v => v.category).sum + (maxL' + 11) + rm.locals ≤ R.locals := by first | decide | exact Nat.le_of_ble_eq_true rfl) (hc : ce + rm.cells ≤ R.cells := by decide) (hs : sl + rm.slots ≤ R.slots := by decide) (hp : pc + 3 = pc' := by rfl) : Go p e below G T (mkF m pc L stk) := by
  subst hp
  obtain ⟨vm0, k0, locs, X, eT, hS, hk, hZ, hown, hF, hN, hC, hsf, hE, ⟨a1, hEL⟩, hx, hby, hml, hnm, hrt, hlk⟩ := W
  subst hby
  obtain ⟨v, vm₁, ⟨T', locs', ce', sl'⟩, hW1, X', hS', hge, ⟨Lc, hQ, hFr, e1, e2, e3, hC', hE', hN'⟩, st⟩ := callSS X hx (y := y') hown (mvT hZ w1) (mvT hZ w2) (mvT hZ wz) (mvT hZ wc) hy (own_back (Wd := (S.map fun v => v.category).sum) C hZ wc wz hf hl hEL hC.1 fun x hx => hsf x (hsub x hx)) (g := mkF m pc L stk) rfl (by rw [hml]; exact hsz) (argsL := A) (rest := S) (lenOf hpd hln) hst (by show 2 * 0 + _ ≤ _; omega) hd (fun _ _ => ⟨rfl, eT, hc, hs⟩)
  dsimp only [Pt.U, Pt.locs, Pt.cells, Pt.slots] at X' hS' hge hQ e1 e2 e3 hC' hE' hN' st
  subst e1 e2 e3 eT
  refine (K T' T'.heap v ⟨T'.vm, T'.heap.size, locs ++ Lc, X', rfl, hS.trans hS' (Nat.le_trans hk hge), Nat.le_refl _, State.Warmed39.trans (t := s.setVm vm0) hZ hS'.1, by rw [show (s.setVm T'.vm).vm = T'.vm from rfl, hS'.1.alike.findClass]; exact hown, hF.app hFr, fun q => ?_, hC.trans hC', fun x hx => ⟨Nat.lt_of_lt_of_le (hsf x hx).1 hge, hC'.safe (hsf x hx).1 (hsf x hx).2⟩, hE', ⟨a1, hEL⟩, hx, rfl, hml, hnm, hrt, hlk⟩ hQ hge).st fun u k => st.trans k
  exact State.WarmedH.trans (t := s.setVm vm0) (hN q) (State.WarmedH.trans (s := s.setVm vm0) (t := T.setVm vm₁) hW1 (hN' q))
theorem o_special (pc' : Nat) (A : List Value) (W : Wk p l e R s m args below meth c Z y bytes maxL ret T h ce sl sf) {y' : MethodName} {bytes' : ByteArray} {maxL' : Nat} {rm : Room} {sf' : List Addr} {Q : Option Value → Heap → Prop} {stk : List Value} {i : Nat} {a : Addr} (w1 : (Jvm.Cond.methodLink y.cls i y').before a0 Z = true) (w2 : (Jvm.Cond.instanceMethod y').before a0 Z = true) (wz : (Jvm.Cond.initialized y'.cls).before a0 Z = true) (wc : (Jvm.Cond.code y' bytes' maxL' none).before a0 Z = true) (C : Con l Z y' bytes' maxL' none rm (.ref a :: A).toArray h sf' Q) {ps : List FieldType} {rt : Option FieldType} (hpd : parseMethodDescriptor y'.desc = some ⟨ps, rt⟩) (hd : decode bytes pc = .ok (.invokespecial i, 3)) (hst : stk = A.reverse ++ .ref a :: S) (hsub : ∀ x ∈ sf', x ∈ sf) (K : ∀ T' h' v, Wk p l e R s m args below meth c Z y bytes maxL ret T' h' (ce + rm.cells) (sl + rm.slots) sf → Q v h' → h.size ≤ h'.size → Go p e below G T' (mkF m pc' L (v.toList ++ S))) (hin : y'.name = "<init>" := by rfl) (hsz : L.size = maxL := by rfl) (hln : A.length = ps.length := by rfl) (hy : y'.cls ≠ "java/lang/invoke/MethodHandle" ∧ y'.cls ≠ "java/lang/invoke/VarHandle" := by decide) (hf : rm.frames + 1 ≤ R.frames := by decide) (hl : (S.map fun v => v.category).sum + (maxL' + 11) + rm.locals ≤ R.locals := by first | decide | exact Nat.le_of_ble_eq_true rfl) (hc : ce + rm.cells ≤ R.cells := by decide) (hs : sl + rm.slots ≤ R.slots := by decide) (hp : pc + 3 = pc' := by rfl) : Go p e below G T (mkF m pc L stk) := by
  subst hp
  obtain ⟨vm0, k0, locs, X, eT, hS, hk, hZ, hown, hF, hN, hC, hsf, hE, ⟨a1, hEL⟩, hx, hby, hml, hnm, hrt, hlk⟩ := W
  subst hby
  obtain ⟨v, vm₁, ⟨T', locs', ce', sl'⟩, hW1, X', hS', hge, ⟨Lc, hQ, hFr, e1, e2, e3, hC', hE', hN'⟩, st⟩ := X.specialBackS hx (y := y') hin hown (mvT hZ w1) (mvT hZ w2) (mvT hZ wc) hy (own_back (Wd := (S.map fun v => v.category).sum) C hZ wc wz hf hl hEL hC.1 fun x hx => hsf x (hsub x hx)) (g := mkF m pc L stk) rfl (by rw [hml]; exact hsz) (Steps.refl _) (a := a) (argsL := A) (rest := S) (lenOf hpd hln) hst (by show 2 * 0 + _ ≤ _; omega) hd (fun _ _ => ⟨rfl, eT, hc, hs⟩)
  dsimp only [Pt.U, Pt.locs, Pt.cells, Pt.slots] at X' hS' hge hQ e1 e2 e3 hC' hE' hN' st
  subst e1 e2 e3 eT
  refine (K T' T'.heap v ⟨T'.vm, T'.heap.size, locs ++ Lc, X', rfl, hS.trans hS' (Nat.le_trans hk hge), Nat.le_refl _, State.Warmed39.trans (t := s.setVm vm0) hZ hS'.1, by rw [show (s.setVm T'.vm).vm = T'.vm from rfl, hS'.1.alike.findClass]; exact hown, hF.app hFr, fun q => ?_, hC.trans hC', fun x hx => ⟨Nat.lt_of_lt_of_le (hsf x hx).1 hge, hC'.safe (hsf x hx).1 (hsf x hx).2⟩, hE', ⟨a1, hEL⟩, hx, rfl, hml, hnm, hrt, hlk⟩ hQ hge).st fun u k => st.trans k
  exact State.WarmedH.trans (t := s.setVm vm0) (hN q) (State.WarmedH.trans (s := s.setVm vm0) (t := T.setVm vm₁) hW1 (hN' q))
theorem o_virtual (pc' : Nat) (A : List Value) (W : Wk p l e R s m args below meth c Z y bytes maxL ret T h ce sl sf) {y' : MethodName} {bytes' : ByteArray} {maxL' : Nat} {ret' : Option FieldType} {rm : Room} {sf' : List Addr} {Q : Option Value → Heap → Prop} {stk : List Value} {i : Nat} {a : Addr} {C0 : String} (w1 : (Jvm.Cond.methodLink y.cls i y').before a0 Z = true) (w2 : (Jvm.Cond.declares y').before a0 Z = true) (w3 : (Jvm.Cond.selects C0 y' y').before a0 Z = true) (w4 : (Jvm.Cond.instanceMethod y').before a0 Z = true) (wz : (Jvm.Cond.initialized y'.cls).before a0 Z = true) (wc : (Jvm.Cond.code y' bytes' maxL' ret').before a0 Z = true) (E : Exa Z h a C0) (C : Con l Z y' bytes' maxL' ret' rm (.ref a :: A).toArray h sf' Q) {ps : List FieldType} {rt : Option FieldType} (hpd : parseMethodDescriptor y'.desc = some ⟨ps, rt⟩) (hd : decode bytes pc = .ok (.invokevirtual i, 3)) (hst : stk = A.reverse ++ .ref a :: S) (hsub : ∀ x ∈ sf', x ∈ sf) (K : ∀ T' h' v, Wk p l e R s m args below meth c Z y bytes maxL ret T' h' (ce + rm.cells) (sl + rm.slots) sf → Q v h' → h.size ≤ h'.size → Go p e below G T' (mkF m pc' L (v.toList ++ S))) (hsz : L.size = maxL := by rfl) (hln : A.length = ps.length := by rfl) (hy : y'.cls ≠ "java/lang/invoke/MethodHandle" ∧ y'.cls ≠ "java/lang/invoke/VarHandle" := by decide) (hf : rm.frames + 1 ≤ R.frames := by decide) (hl : (S.map fun v => v.category).sum + (maxL' + 11) + rm.locals ≤ R.locals := by first | decide | exact Nat.le_of_ble_eq_true rfl) (hc : ce + rm.cells ≤ R.cells := by decide) (hs : sl + rm.slots ≤ R.slots := by decide) (hp : pc + 3 = pc' := by rfl) : Go p e below G T (mkF m pc L stk) := by
  subst hp
  obtain ⟨vm0, k0, locs, X, eT, hS, hk, hZ, hown, hF, hN, hC, hsf, hE, ⟨a1, hEL⟩, hx, hby, hml, hnm, hrt, hlk⟩ := W
  subst hby
  obtain ⟨cB, kB, qa, qb, qc⟩ := isOf (T := T) hZ eT E
  obtain ⟨v, vm₁, ⟨T', locs', ce', sl'⟩, hW1, X', hS', hge, ⟨Lc, hQ, hFr, e1, e2, e3, hC', hE', hN'⟩, st⟩ := X.virtualBackS hx (y := y') (z := y') hown (mvT hZ w1) (mvT hZ w2) (notFace_of_selects (args := args) (mvT hZ w3)) (mvT hZ w3) (mvT hZ w4) hy (own_back (Wd := (S.map fun v => v.category).sum) C hZ wc wz hf hl hEL hC.1 fun x hx => hsf x (hsub x hx)) qa qc (g := mkF m pc L stk) rfl (by rw [hml]; exact hsz) (Steps.refl _) (argsL := A) (rest := S) (lenOf hpd hln) hst (by show 2 * 0 + _ ≤ _; omega) hd (fun _ _ => ⟨rfl, eT, hc, hs⟩)
  dsimp only [Pt.U, Pt.locs, Pt.cells, Pt.slots] at X' hS' hge hQ e1 e2 e3 hC' hE' hN' st
  subst e1 e2 e3 eT
  refine (K T' T'.heap v ⟨T'.vm, T'.heap.size, locs ++ Lc, X', rfl, hS.trans hS' (Nat.le_trans hk hge), Nat.le_refl _, State.Warmed39.trans (t := s.setVm vm0) hZ hS'.1, by rw [show (s.setVm T'.vm).vm = T'.vm from rfl, hS'.1.alike.findClass]; exact hown, hF.app hFr, fun q => ?_, hC.trans hC', fun x hx => ⟨Nat.lt_of_lt_of_le (hsf x hx).1 hge, hC'.safe (hsf x hx).1 (hsf x hx).2⟩, hE', ⟨a1, hEL⟩, hx, rfl, hml, hnm, hrt, hlk⟩ hQ hge).st fun u k => st.trans k
  exact State.WarmedH.trans (t := s.setVm vm0) (hN q) (State.WarmedH.trans (s := s.setVm vm0) (t := T.setVm vm₁) hW1 (hN' q))
theorem o_virtualUp (pc' : Nat) (A : List Value) (W : Wk p l e R s m args below meth c Z y bytes maxL ret T h ce sl sf) {y' : MethodName} {bytes' : ByteArray} {maxL' : Nat} {ret' : Option FieldType} {rm : Room} {sf' : List Addr} {Q : Option Value → Heap → Prop} {stk : List Value} {i : Nat} {a : Addr} {C0 owner : String} {x' : MethodName} (w1 : (Jvm.Cond.methodLink y.cls i x').before a0 Z = true) (w2 : (Jvm.Cond.sameMethod x'.cls owner x'.name x'.desc).before a0 Z = true) (w5 : (Jvm.Cond.declares ⟨owner, x'.name, x'.desc⟩).before a0 Z = true) (w3 : (Jvm.Cond.selects C0 x' y').before a0 Z = true) (w4 : (Jvm.Cond.instanceMethod y').before a0 Z = true) (wz : (Jvm.Cond.initialized y'.cls).before a0 Z = true) (wc : (Jvm.Cond.code y' bytes' maxL' ret').before a0 Z = true) (E : Exa Z h a C0) (C : Con l Z y' bytes' maxL' ret' rm (.ref a :: A).toArray h sf' Q) {ps : List FieldType} {rt : Option FieldType} (hpd : parseMethodDescriptor x'.desc = some ⟨ps, rt⟩) (hd : decode bytes pc = .ok (.invokevirtual i, 3)) (hst : stk = A.reverse ++ .ref a :: S) (hsub : ∀ x ∈ sf', x ∈ sf) (K : ∀ T' h' v, Wk p l e R s m args below meth c Z y bytes maxL ret T' h' (ce + rm.cells) (sl + rm.slots) sf → Q v h' → h.size ≤ h'.size → Go p e below G T' (mkF m pc' L (v.toList ++ S))) (hsz : L.size = maxL := by rfl) (hln : A.length = ps.length := by rfl) (hy : owner ≠ "java/lang/invoke/MethodHandle" ∧ owner ≠ "java/lang/invoke/VarHandle" := by decide) (hf : rm.frames + 1 ≤ R.frames := by decide) (hl : (S.map fun v => v.category).sum + (maxL' + 11) + rm.locals ≤ R.locals := by first | decide | exact Nat.le_of_ble_eq_true rfl) (hc : ce + rm.cells ≤ R.cells := by decide) (hs : sl + rm.slots ≤ R.slots := by decide) (hp : pc + 3 = pc' := by rfl) : Go p e below G T (mkF m pc L stk) := by
  subst hp
  obtain ⟨vm0, k0, locs, X, eT, hS, hk, hZ, hown, hF, hN, hC, hsf, hE, ⟨a1, hEL⟩, hx, hby, hml, hnm, hrt, hlk⟩ := W
  subst hby
  obtain ⟨cB, kB, qa, qb, qc⟩ := isOf (T := T) hZ eT E
  obtain ⟨v, vm₁, ⟨T', locs', ce', sl'⟩, hW1, X', hS', hge, ⟨Lc, hQ, hFr, e1, e2, e3, hC', hE', hN'⟩, st⟩ := X.virtualBackUpS hx (x := x') (y := y') (owner := owner) hown (mvT hZ w1) (mvT hZ w2) (mvT hZ w5) hy (mvT hZ w3) (mvT hZ w4) (own_back (Wd := (S.map fun v => v.category).sum) C hZ wc wz hf hl hEL hC.1 fun x hx => hsf x (hsub x hx)) qa qc (g := mkF m pc L stk) rfl (by rw [hml]; exact hsz) (Steps.refl _) (argsL := A) (rest := S) (lenOf hpd hln) hst (by show 2 * 0 + _ ≤ _; omega) hd (fun _ _ => ⟨rfl, eT, hc, hs⟩)
  dsimp only [Pt.U, Pt.locs, Pt.cells, Pt.slots] at X' hS' hge hQ e1 e2 e3 hC' hE' hN' st
  subst e1 e2 e3 eT
  refine (K T' T'.heap v ⟨T'.vm, T'.heap.size, locs ++ Lc, X', rfl, hS.trans hS' (Nat.le_trans hk hge), Nat.le_refl _, State.Warmed39.trans (t := s.setVm vm0) hZ hS'.1, by rw [show (s.setVm T'.vm).vm = T'.vm from rfl, hS'.1.alike.findClass]; exact hown, hF.app hFr, fun q => ?_, hC.trans hC', fun x hx => ⟨Nat.lt_of_lt_of_le (hsf x hx).1 hge, hC'.safe (hsf x hx).1 (hsf x hx).2⟩, hE', ⟨a1, hEL⟩, hx, rfl, hml, hnm, hrt, hlk⟩ hQ hge).st fun u k => st.trans k
  exact State.WarmedH.trans (t := s.setVm vm0) (hN q) (State.WarmedH.trans (s := s.setVm vm0) (t := T.setVm vm₁) hW1 (hN' q))
end Own
theorem own_sx {Z : State} {args a0 : Array Value} {C n d K : String} (hx : (Jvm.Cond.exactly (Jvm.Term.static C n d) K).value args Z none Z [] = some true) (hi : (Jvm.Cond.initialized C).before a0 Z = true) (hl : (Jvm.Cond.laysStatic C n d).before a0 Z = true) : ∃ a, Sta Z Z.heap C n d (.ref a) ∧ Exa Z Z.heap a K ∧ (Jvm.Term.static C n d).eval args Z none [] Z = some (.ref a) := by
  obtain ⟨a', c', cell, k, e1, -⟩ := Cond.exactly_spec (Cond.before_iff.mpr hx)
  exact ⟨a', Sta.start (args := a0) e1 (Or.inr ⟨hi, hl⟩), Exa.start e1 hx, e1⟩
theorem own_fx {Z : State} {args : Array Value} {t : Jvm.Term} {a : Addr} {O n d : String} {v : Value} {u : Jvm.Term} (e : t.eval args Z none [] Z = some (.ref a)) (hu : u.eval args Z none [] Z = some v) (hx : (Jvm.Cond.eq (Jvm.Term.field t O n d) u).value args Z none Z [] = some true) (hk : ∀ w, Kin v w → Kin w v → (Jvm.Cond.eq (Jvm.Term.field t O n d) u).value args Z none Z [] = some true → (Jvm.Term.field t O n d).eval args Z none [] Z = some w → w = v) : Fld Z Z.heap a O n d v := by
  obtain ⟨x, y, e1, e2, k1, k2⟩ := cmp_v (Or.inl hx)
  cases hu.symm.trans e2
  have q := hk x k2 k1 hx e1
  subst q
  refine Fld.start ?_
  have e3 := e1
  simp only [Jvm.Term.eval, e, Option.bind_eq_bind, Option.bind_some] at e3
  exact e3
theorem own_fi {Z : State} {args : Array Value} {t : Jvm.Term} {a : Addr} {O n d : String} {k : Int32} (e : t.eval args Z none [] Z = some (.ref a)) (hx : (Jvm.Cond.eq (Jvm.Term.field t O n d) (Jvm.Term.int k)).value args Z none Z [] = some true) : Fld Z Z.heap a O n d (.int k) := by
  refine own_fx e (Jvm.Term.int_eval k) hx fun w k1 k2 h1 h2 => ?_
  obtain ⟨z, rfl⟩ := k1
  simp [Jvm.Cond.value, h2, Jvm.Term.int_eval] at h1
  rw [h1]
theorem d7_0 : decode method_3_code 0 = .ok (.iload_n 0, 1) := by decide +kernel
theorem d7_1 : decode method_3_code 1 = .ok (.bipush 65, 2) := by decide +kernel
theorem d7_3 : decode method_3_code 3 = .ok (.if_icmp .lt 15, 3) := by decide +kernel
theorem d7_6 : decode method_3_code 6 = .ok (.iload_n 0, 1) := by decide +kernel
theorem d7_7 : decode method_3_code 7 = .ok (.bipush 90, 2) := by decide +kernel
theorem d7_9 : decode method_3_code 9 = .ok (.if_icmp .gt 9, 3) := by decide +kernel
theorem d7_12 : decode method_3_code 12 = .ok (.iload_n 0, 1) := by decide +kernel
theorem d7_13 : decode method_3_code 13 = .ok (.bipush 32, 2) := by decide +kernel
theorem d7_15 : decode method_3_code 15 = .ok (.iadd, 1) := by decide +kernel
theorem d7_16 : decode method_3_code 16 = .ok (.i2c, 1) := by decide +kernel
theorem d7_17 : decode method_3_code 17 = .ok (.ireturn, 1) := by decide +kernel
theorem d7_18 : decode method_3_code 18 = .ok (.iload_n 0, 1) := by decide +kernel
theorem d7_19 : decode method_3_code 19 = .ok (.sipush 192, 3) := by decide +kernel
theorem d7_22 : decode method_3_code 22 = .ok (.if_icmp .lt 23, 3) := by decide +kernel
theorem d7_25 : decode method_3_code 25 = .ok (.iload_n 0, 1) := by decide +kernel
theorem d7_26 : decode method_3_code 26 = .ok (.sipush 222, 3) := by decide +kernel
theorem d7_29 : decode method_3_code 29 = .ok (.if_icmp .gt 16, 3) := by decide +kernel
theorem d7_32 : decode method_3_code 32 = .ok (.iload_n 0, 1) := by decide +kernel
theorem d7_33 : decode method_3_code 33 = .ok (.sipush 215, 3) := by decide +kernel
theorem d7_36 : decode method_3_code 36 = .ok (.if_icmp .eq 9, 3) := by decide +kernel
theorem d7_39 : decode method_3_code 39 = .ok (.iload_n 0, 1) := by decide +kernel
theorem d7_40 : decode method_3_code 40 = .ok (.bipush 32, 2) := by decide +kernel
theorem d7_42 : decode method_3_code 42 = .ok (.iadd, 1) := by decide +kernel
theorem d7_43 : decode method_3_code 43 = .ok (.i2c, 1) := by decide +kernel
theorem d7_44 : decode method_3_code 44 = .ok (.ireturn, 1) := by decide +kernel
theorem d7_45 : decode method_3_code 45 = .ok (.iload_n 0, 1) := by decide +kernel
theorem d7_46 : decode method_3_code 46 = .ok (.ireturn, 1) := by decide +kernel
theorem d8_0 : decode prog_1_method_1_code 0 = .ok (.aload_n 0, 1) := by decide +kernel
theorem d8_1 : decode prog_1_method_1_code 1 = .ok (.invokespecial 1, 3) := by decide +kernel
theorem d8_4 : decode prog_1_method_1_code 4 = .ok (.aload_n 2, 1) := by decide +kernel
theorem d8_5 : decode prog_1_method_1_code 5 = .ok (.getstatic 7, 3) := by decide +kernel
theorem d8_8 : decode prog_1_method_1_code 8 = .ok (.invokevirtual 13, 3) := by decide +kernel
theorem d8_11 : decode prog_1_method_1_code 11 = .ok (.astore_n 2, 1) := by decide +kernel
theorem d8_12 : decode prog_1_method_1_code 12 = .ok (.aload_n 0, 1) := by decide +kernel
theorem d8_13 : decode prog_1_method_1_code 13 = .ok (.aload_n 1, 1) := by decide +kernel
theorem d8_14 : decode prog_1_method_1_code 14 = .ok (.putfield 19, 3) := by decide +kernel
theorem d8_17 : decode prog_1_method_1_code 17 = .ok (.aload_n 0, 1) := by decide +kernel
theorem d8_18 : decode prog_1_method_1_code 18 = .ok (.aload_n 2, 1) := by decide +kernel
theorem d8_19 : decode prog_1_method_1_code 19 = .ok (.putfield 25, 3) := by decide +kernel
theorem d8_22 : decode prog_1_method_1_code 22 = .ok (.return_, 1) := by decide +kernel
theorem d9_0 : decode jdk_30_method_1_code 0 = .ok (.aload_n 0, 1) := by decide +kernel
theorem d9_1 : decode jdk_30_method_1_code 1 = .ok (.invokespecial 1, 3) := by decide +kernel
theorem d9_4 : decode jdk_30_method_1_code 4 = .ok (.return_, 1) := by decide +kernel
theorem d10_0 : decode jdk_42_method_109_code 0 = .ok (.aload_n 0, 1) := by decide +kernel
theorem d10_1 : decode jdk_42_method_109_code 1 = .ok (.invokevirtual 492, 3) := by decide +kernel
theorem d10_4 : decode jdk_42_method_109_code 4 = .ok (.ifCond .eq 15, 3) := by decide +kernel
theorem d10_7 : decode jdk_42_method_109_code 7 = .ok (.aload_n 0, 1) := by decide +kernel
theorem d10_8 : decode jdk_42_method_109_code 8 = .ok (.aload_n 0, 1) := by decide +kernel
theorem d10_9 : decode jdk_42_method_109_code 9 = .ok (.getfield 9, 3) := by decide +kernel
theorem d10_12 : decode jdk_42_method_109_code 12 = .ok (.aload_n 1, 1) := by decide +kernel
theorem d10_13 : decode jdk_42_method_109_code 13 = .ok (.invokestatic 839, 3) := by decide +kernel
theorem d10_16 : decode jdk_42_method_109_code 16 = .ok (.goto 12, 3) := by decide +kernel
theorem d10_19 : decode jdk_42_method_109_code 19 = .ok (.aload_n 0, 1) := by decide +kernel
theorem d10_20 : decode jdk_42_method_109_code 20 = .ok (.aload_n 0, 1) := by decide +kernel
theorem d10_21 : decode jdk_42_method_109_code 21 = .ok (.getfield 9, 3) := by decide +kernel
theorem d10_24 : decode jdk_42_method_109_code 24 = .ok (.aload_n 1, 1) := by decide +kernel
theorem d10_25 : decode jdk_42_method_109_code 25 = .ok (.invokestatic 843, 3) := by decide +kernel
theorem d10_28 : decode jdk_42_method_109_code 28 = .ok (.areturn, 1) := by decide +kernel
theorem d12_0 : decode jdk_43_method_32_code 0 = .ok (.aload_n 2, 1) := by decide +kernel
theorem d12_1 : decode jdk_43_method_32_code 1 = .ok (.ifnonnull 11, 3) := by decide +kernel
theorem d12_4 : decode jdk_43_method_32_code 4 = .ok (.new 157, 3) := by decide +kernel
theorem d12_7 : decode jdk_43_method_32_code 7 = .ok (.dup, 1) := by decide +kernel
theorem d12_8 : decode jdk_43_method_32_code 8 = .ok (.invokespecial 159, 3) := by decide +kernel
theorem d12_11 : decode jdk_43_method_32_code 11 = .ok (.athrow, 1) := by decide +kernel
theorem d12_12 : decode jdk_43_method_32_code 12 = .ok (.aload_n 1, 1) := by decide +kernel
theorem d12_13 : decode jdk_43_method_32_code 13 = .ok (.arraylength, 1) := by decide +kernel
theorem d12_14 : decode jdk_43_method_32_code 14 = .ok (.istore 4, 2) := by decide +kernel
theorem d12_16 : decode jdk_43_method_32_code 16 = .ok (.iconst 0, 1) := by decide +kernel
theorem d12_17 : decode jdk_43_method_32_code 17 = .ok (.istore_n 3, 1) := by decide +kernel
theorem d12_18 : decode jdk_43_method_32_code 18 = .ok (.iload_n 3, 1) := by decide +kernel
theorem d12_19 : decode jdk_43_method_32_code 19 = .ok (.iload 4, 2) := by decide +kernel
theorem d12_21 : decode jdk_43_method_32_code 21 = .ok (.if_icmp .ge 34, 3) := by decide +kernel
theorem d12_24 : decode jdk_43_method_32_code 24 = .ok (.aload_n 1, 1) := by decide +kernel
theorem d12_25 : decode jdk_43_method_32_code 25 = .ok (.iload_n 3, 1) := by decide +kernel
theorem d12_26 : decode jdk_43_method_32_code 26 = .ok (.baload, 1) := by decide +kernel
theorem d12_27 : decode jdk_43_method_32_code 27 = .ok (.sipush 255, 3) := by decide +kernel
theorem d12_30 : decode jdk_43_method_32_code 30 = .ok (.iand, 1) := by decide +kernel
theorem d12_31 : decode jdk_43_method_32_code 31 = .ok (.istore 5, 2) := by decide +kernel
theorem d12_33 : decode jdk_43_method_32_code 33 = .ok (.iload 5, 2) := by decide +kernel
theorem d12_35 : decode jdk_43_method_32_code 35 = .ok (.getstatic 66, 3) := by decide +kernel
theorem d12_38 : decode jdk_43_method_32_code 38 = .ok (.iload 5, 2) := by decide +kernel
theorem d12_40 : decode jdk_43_method_32_code 40 = .ok (.invokevirtual 160, 3) := by decide +kernel
theorem d12_43 : decode jdk_43_method_32_code 43 = .ok (.if_icmp .eq 6, 3) := by decide +kernel
theorem d12_46 : decode jdk_43_method_32_code 46 = .ok (.goto 9, 3) := by decide +kernel
theorem d12_49 : decode jdk_43_method_32_code 49 = .ok (.iinc 3 1, 3) := by decide +kernel
theorem d12_52 : decode jdk_43_method_32_code 52 = .ok (.goto (-34), 3) := by decide +kernel
theorem d12_55 : decode jdk_43_method_32_code 55 = .ok (.iload_n 3, 1) := by decide +kernel
theorem d12_56 : decode jdk_43_method_32_code 56 = .ok (.iload 4, 2) := by decide +kernel
theorem d12_58 : decode jdk_43_method_32_code 58 = .ok (.if_icmp .ne 5, 3) := by decide +kernel
theorem d12_61 : decode jdk_43_method_32_code 61 = .ok (.aload_n 0, 1) := by decide +kernel
theorem d12_62 : decode jdk_43_method_32_code 62 = .ok (.areturn, 1) := by decide +kernel
theorem d12_63 : decode jdk_43_method_32_code 63 = .ok (.aload_n 2, 1) := by decide +kernel
theorem d12_64 : decode jdk_43_method_32_code 64 = .ok (.invokevirtual 162, 3) := by decide +kernel
theorem d12_67 : decode jdk_43_method_32_code 67 = .ok (.astore 5, 2) := by decide +kernel
theorem d12_69 : decode jdk_43_method_32_code 69 = .ok (.aload 5, 2) := by decide +kernel
theorem d12_71 : decode jdk_43_method_32_code 71 = .ok (.ldc 168, 2) := by decide +kernel
theorem d12_73 : decode jdk_43_method_32_code 73 = .ok (.if_acmp .eq 17, 3) := by decide +kernel
theorem d12_76 : decode jdk_43_method_32_code 76 = .ok (.aload 5, 2) := by decide +kernel
theorem d12_78 : decode jdk_43_method_32_code 78 = .ok (.ldc 170, 2) := by decide +kernel
theorem d12_80 : decode jdk_43_method_32_code 80 = .ok (.if_acmp .eq 10, 3) := by decide +kernel
theorem d12_83 : decode jdk_43_method_32_code 83 = .ok (.aload 5, 2) := by decide +kernel
theorem d12_85 : decode jdk_43_method_32_code 85 = .ok (.ldc 172, 2) := by decide +kernel
theorem d12_87 : decode jdk_43_method_32_code 87 = .ok (.if_acmp .ne 12, 3) := by decide +kernel
theorem d12_90 : decode jdk_43_method_32_code 90 = .ok (.aload_n 0, 1) := by decide +kernel
theorem d12_91 : decode jdk_43_method_32_code 91 = .ok (.aload_n 1, 1) := by decide +kernel
theorem d12_92 : decode jdk_43_method_32_code 92 = .ok (.iload_n 3, 1) := by decide +kernel
theorem d12_93 : decode jdk_43_method_32_code 93 = .ok (.aload_n 2, 1) := by decide +kernel
theorem d12_94 : decode jdk_43_method_32_code 94 = .ok (.iconst 1, 1) := by decide +kernel
theorem d12_95 : decode jdk_43_method_32_code 95 = .ok (.invokestatic 174, 3) := by decide +kernel
theorem d12_98 : decode jdk_43_method_32_code 98 = .ok (.areturn, 1) := by decide +kernel
theorem d12_99 : decode jdk_43_method_32_code 99 = .ok (.iload 4, 2) := by decide +kernel
theorem d12_101 : decode jdk_43_method_32_code 101 = .ok (.newarray .byte, 2) := by decide +kernel
theorem d12_103 : decode jdk_43_method_32_code 103 = .ok (.astore 6, 2) := by decide +kernel
theorem d12_105 : decode jdk_43_method_32_code 105 = .ok (.aload_n 1, 1) := by decide +kernel
theorem d12_106 : decode jdk_43_method_32_code 106 = .ok (.iconst 0, 1) := by decide +kernel
theorem d12_107 : decode jdk_43_method_32_code 107 = .ok (.aload 6, 2) := by decide +kernel
theorem d12_109 : decode jdk_43_method_32_code 109 = .ok (.iconst 0, 1) := by decide +kernel
theorem d12_110 : decode jdk_43_method_32_code 110 = .ok (.iload_n 3, 1) := by decide +kernel
theorem d12_111 : decode jdk_43_method_32_code 111 = .ok (.invokestatic 28, 3) := by decide +kernel
theorem d12_114 : decode jdk_43_method_32_code 114 = .ok (.iload_n 3, 1) := by decide +kernel
theorem d12_115 : decode jdk_43_method_32_code 115 = .ok (.istore 7, 2) := by decide +kernel
theorem d12_117 : decode jdk_43_method_32_code 117 = .ok (.iload 7, 2) := by decide +kernel
theorem d12_119 : decode jdk_43_method_32_code 119 = .ok (.iload 4, 2) := by decide +kernel
theorem d12_121 : decode jdk_43_method_32_code 121 = .ok (.if_icmp .ge 54, 3) := by decide +kernel
theorem d12_124 : decode jdk_43_method_32_code 124 = .ok (.aload_n 1, 1) := by decide +kernel
theorem d12_125 : decode jdk_43_method_32_code 125 = .ok (.iload 7, 2) := by decide +kernel
theorem d12_127 : decode jdk_43_method_32_code 127 = .ok (.baload, 1) := by decide +kernel
theorem d12_128 : decode jdk_43_method_32_code 128 = .ok (.sipush 255, 3) := by decide +kernel
theorem d12_131 : decode jdk_43_method_32_code 131 = .ok (.iand, 1) := by decide +kernel
theorem d12_132 : decode jdk_43_method_32_code 132 = .ok (.istore 8, 2) := by decide +kernel
theorem d12_134 : decode jdk_43_method_32_code 134 = .ok (.getstatic 66, 3) := by decide +kernel
theorem d12_137 : decode jdk_43_method_32_code 137 = .ok (.iload 8, 2) := by decide +kernel
theorem d12_139 : decode jdk_43_method_32_code 139 = .ok (.invokevirtual 160, 3) := by decide +kernel
theorem d12_142 : decode jdk_43_method_32_code 142 = .ok (.istore 8, 2) := by decide +kernel
theorem d12_144 : decode jdk_43_method_32_code 144 = .ok (.iload 8, 2) := by decide +kernel
theorem d12_146 : decode jdk_43_method_32_code 146 = .ok (.invokestatic 88, 3) := by decide +kernel
theorem d12_149 : decode jdk_43_method_32_code 149 = .ok (.ifCond .ne 12, 3) := by decide +kernel
theorem d12_152 : decode jdk_43_method_32_code 152 = .ok (.aload_n 0, 1) := by decide +kernel
theorem d12_153 : decode jdk_43_method_32_code 153 = .ok (.aload_n 1, 1) := by decide +kernel
theorem d12_154 : decode jdk_43_method_32_code 154 = .ok (.iload_n 3, 1) := by decide +kernel
theorem d12_155 : decode jdk_43_method_32_code 155 = .ok (.aload_n 2, 1) := by decide +kernel
theorem d12_156 : decode jdk_43_method_32_code 156 = .ok (.iconst 0, 1) := by decide +kernel
theorem d12_157 : decode jdk_43_method_32_code 157 = .ok (.invokestatic 174, 3) := by decide +kernel
theorem d12_160 : decode jdk_43_method_32_code 160 = .ok (.areturn, 1) := by decide +kernel
theorem d12_161 : decode jdk_43_method_32_code 161 = .ok (.aload 6, 2) := by decide +kernel
theorem d12_163 : decode jdk_43_method_32_code 163 = .ok (.iload 7, 2) := by decide +kernel
theorem d12_165 : decode jdk_43_method_32_code 165 = .ok (.iload 8, 2) := by decide +kernel
theorem d12_167 : decode jdk_43_method_32_code 167 = .ok (.i2b, 1) := by decide +kernel
theorem d12_168 : decode jdk_43_method_32_code 168 = .ok (.bastore, 1) := by decide +kernel
theorem d12_169 : decode jdk_43_method_32_code 169 = .ok (.iinc 7 1, 3) := by decide +kernel
theorem d12_172 : decode jdk_43_method_32_code 172 = .ok (.goto (-55), 3) := by decide +kernel
theorem d12_175 : decode jdk_43_method_32_code 175 = .ok (.new 1, 3) := by decide +kernel
theorem d12_178 : decode jdk_43_method_32_code 178 = .ok (.dup, 1) := by decide +kernel
theorem d12_179 : decode jdk_43_method_32_code 179 = .ok (.aload 6, 2) := by decide +kernel
theorem d12_181 : decode jdk_43_method_32_code 181 = .ok (.iconst 0, 1) := by decide +kernel
theorem d12_182 : decode jdk_43_method_32_code 182 = .ok (.invokespecial 112, 3) := by decide +kernel
theorem d12_185 : decode jdk_43_method_32_code 185 = .ok (.areturn, 1) := by decide +kernel
theorem d13_0 : decode jdk_116_method_20_code 0 = .ok (.iload_n 1, 1) := by decide +kernel
theorem d13_1 : decode jdk_116_method_20_code 1 = .ok (.bipush 65, 2) := by decide +kernel
theorem d13_3 : decode jdk_116_method_20_code 3 = .ok (.if_icmp .ge 5, 3) := by decide +kernel
theorem d13_6 : decode jdk_116_method_20_code 6 = .ok (.iload_n 1, 1) := by decide +kernel
theorem d13_7 : decode jdk_116_method_20_code 7 = .ok (.ireturn, 1) := by decide +kernel
theorem d13_8 : decode jdk_116_method_20_code 8 = .ok (.iload_n 1, 1) := by decide +kernel
theorem d13_9 : decode jdk_116_method_20_code 9 = .ok (.bipush 32, 2) := by decide +kernel
theorem d13_11 : decode jdk_116_method_20_code 11 = .ok (.ior, 1) := by decide +kernel
theorem d13_12 : decode jdk_116_method_20_code 12 = .ok (.istore_n 2, 1) := by decide +kernel
theorem d13_13 : decode jdk_116_method_20_code 13 = .ok (.iload_n 2, 1) := by decide +kernel
theorem d13_14 : decode jdk_116_method_20_code 14 = .ok (.bipush 122, 2) := by decide +kernel
theorem d13_16 : decode jdk_116_method_20_code 16 = .ok (.if_icmp .le 24, 3) := by decide +kernel
theorem d13_19 : decode jdk_116_method_20_code 19 = .ok (.iload_n 2, 1) := by decide +kernel
theorem d13_20 : decode jdk_116_method_20_code 20 = .ok (.sipush 224, 3) := by decide +kernel
theorem d13_23 : decode jdk_116_method_20_code 23 = .ok (.if_icmp .lt 19, 3) := by decide +kernel
theorem d13_26 : decode jdk_116_method_20_code 26 = .ok (.iload_n 2, 1) := by decide +kernel
theorem d13_27 : decode jdk_116_method_20_code 27 = .ok (.sipush 254, 3) := by decide +kernel
theorem d13_30 : decode jdk_116_method_20_code 30 = .ok (.if_icmp .gt 12, 3) := by decide +kernel
theorem d13_33 : decode jdk_116_method_20_code 33 = .ok (.iload_n 2, 1) := by decide +kernel
theorem d13_34 : decode jdk_116_method_20_code 34 = .ok (.sipush 247, 3) := by decide +kernel
theorem d13_37 : decode jdk_116_method_20_code 37 = .ok (.if_icmp .eq 5, 3) := by decide +kernel
theorem d13_40 : decode jdk_116_method_20_code 40 = .ok (.iload_n 2, 1) := by decide +kernel
theorem d13_41 : decode jdk_116_method_20_code 41 = .ok (.ireturn, 1) := by decide +kernel
theorem d13_42 : decode jdk_116_method_20_code 42 = .ok (.iload_n 1, 1) := by decide +kernel
theorem d13_43 : decode jdk_116_method_20_code 43 = .ok (.ireturn, 1) := by decide +kernel
theorem d14_0 : decode prog_1_method_5_code 0 = .ok (.aload_n 0, 1) := by decide +kernel
theorem d14_1 : decode prog_1_method_5_code 1 = .ok (.getfield 19, 3) := by decide +kernel
theorem d14_4 : decode prog_1_method_5_code 4 = .ok (.getstatic 29, 3) := by decide +kernel
theorem d14_7 : decode prog_1_method_5_code 7 = .ok (.if_acmp .ne 8, 3) := by decide +kernel
theorem d14_10 : decode prog_1_method_5_code 10 = .ok (.ldc 49, 2) := by decide +kernel
theorem d14_12 : decode prog_1_method_5_code 12 = .ok (.goto 7, 3) := by decide +kernel
theorem d14_15 : decode prog_1_method_5_code 15 = .ok (.aload_n 0, 1) := by decide +kernel
theorem d14_16 : decode prog_1_method_5_code 16 = .ok (.getfield 25, 3) := by decide +kernel
theorem d14_19 : decode prog_1_method_5_code 19 = .ok (.areturn, 1) := by decide +kernel
theorem d17_0 : decode jdk_2628_method_27_code 0 = .ok (.aload_n 0, 1) := by decide +kernel
theorem d17_1 : decode jdk_2628_method_27_code 1 = .ok (.getfield 28, 3) := by decide +kernel
theorem d17_4 : decode jdk_2628_method_27_code 4 = .ok (.invokevirtual 293, 3) := by decide +kernel
theorem d17_7 : decode jdk_2628_method_27_code 7 = .ok (.areturn, 1) := by decide +kernel
theorem d18_0 : decode jdk_3003_method_5_code 0 = .ok (.aload_n 0, 1) := by decide +kernel
theorem d18_1 : decode jdk_3003_method_5_code 1 = .ok (.getfield 19, 3) := by decide +kernel
theorem d18_4 : decode jdk_3003_method_5_code 4 = .ok (.areturn, 1) := by decide +kernel
theorem d19_0 : decode jdk_43_method_4_code 0 = .ok (.iload_n 0, 1) := by decide +kernel
theorem d19_1 : decode jdk_43_method_4_code 1 = .ok (.ifCond .lt 14, 3) := by decide +kernel
theorem d19_4 : decode jdk_43_method_4_code 4 = .ok (.iload_n 0, 1) := by decide +kernel
theorem d19_5 : decode jdk_43_method_4_code 5 = .ok (.sipush 255, 3) := by decide +kernel
theorem d19_8 : decode jdk_43_method_4_code 8 = .ok (.if_icmp .gt 7, 3) := by decide +kernel
theorem d19_11 : decode jdk_43_method_4_code 11 = .ok (.iconst 1, 1) := by decide +kernel
theorem d19_12 : decode jdk_43_method_4_code 12 = .ok (.goto 4, 3) := by decide +kernel
theorem d19_15 : decode jdk_43_method_4_code 15 = .ok (.iconst 0, 1) := by decide +kernel
theorem d19_16 : decode jdk_43_method_4_code 16 = .ok (.ireturn, 1) := by decide +kernel
theorem d5_0 : decode jdk_52_method_21_code 0 = .ok (.iconst 0, 1) := by decide +kernel
theorem d5_1 : decode jdk_52_method_21_code 1 = .ok (.istore 5, 2) := by decide +kernel
theorem d5_3 : decode jdk_52_method_21_code 3 = .ok (.iload 5, 2) := by decide +kernel
theorem d5_5 : decode jdk_52_method_21_code 5 = .ok (.iload 4, 2) := by decide +kernel
theorem d5_7 : decode jdk_52_method_21_code 7 = .ok (.if_icmp .ge 37, 3) := by decide +kernel
theorem d5_10 : decode jdk_52_method_21_code 10 = .ok (.aload_n 0, 1) := by decide +kernel
theorem d5_11 : decode jdk_52_method_21_code 11 = .ok (.iload_n 1, 1) := by decide +kernel
theorem d5_12 : decode jdk_52_method_21_code 12 = .ok (.caload, 1) := by decide +kernel
theorem d5_13 : decode jdk_52_method_21_code 13 = .ok (.istore 6, 2) := by decide +kernel
theorem d5_15 : decode jdk_52_method_21_code 15 = .ok (.iload 6, 2) := by decide +kernel
theorem d5_17 : decode jdk_52_method_21_code 17 = .ok (.sipush 255, 3) := by decide +kernel
theorem d5_20 : decode jdk_52_method_21_code 20 = .ok (.if_icmp .le 6, 3) := by decide +kernel
theorem d5_23 : decode jdk_52_method_21_code 23 = .ok (.iload 5, 2) := by decide +kernel
theorem d5_25 : decode jdk_52_method_21_code 25 = .ok (.ireturn, 1) := by decide +kernel
theorem d5_26 : decode jdk_52_method_21_code 26 = .ok (.aload_n 2, 1) := by decide +kernel
theorem d5_27 : decode jdk_52_method_21_code 27 = .ok (.iload_n 3, 1) := by decide +kernel
theorem d5_28 : decode jdk_52_method_21_code 28 = .ok (.iload 6, 2) := by decide +kernel
theorem d5_30 : decode jdk_52_method_21_code 30 = .ok (.i2b, 1) := by decide +kernel
theorem d5_31 : decode jdk_52_method_21_code 31 = .ok (.bastore, 1) := by decide +kernel
theorem d5_32 : decode jdk_52_method_21_code 32 = .ok (.iinc 1 1, 3) := by decide +kernel
theorem d5_35 : decode jdk_52_method_21_code 35 = .ok (.iinc 3 1, 3) := by decide +kernel
theorem d5_38 : decode jdk_52_method_21_code 38 = .ok (.iinc 5 1, 3) := by decide +kernel
theorem d5_41 : decode jdk_52_method_21_code 41 = .ok (.goto (-38), 3) := by decide +kernel
theorem d5_44 : decode jdk_52_method_21_code 44 = .ok (.iload 4, 2) := by decide +kernel
theorem d5_46 : decode jdk_52_method_21_code 46 = .ok (.ireturn, 1) := by decide +kernel
theorem pn0 : plainName "java/lang/StringUTF16" = true := by first | (simp [plainName, overriddenIn]; done) | decide +kernel
theorem d4_0 : decode jdk_52_method_16_code 0 = .ok (.iload_n 2, 1) := by decide +kernel
theorem d4_1 : decode jdk_52_method_16_code 1 = .ok (.newarray .byte, 2) := by decide +kernel
theorem d4_3 : decode jdk_52_method_16_code 3 = .ok (.astore_n 3, 1) := by decide +kernel
theorem d4_4 : decode jdk_52_method_16_code 4 = .ok (.aload_n 0, 1) := by decide +kernel
theorem d4_5 : decode jdk_52_method_16_code 5 = .ok (.iload_n 1, 1) := by decide +kernel
theorem d4_6 : decode jdk_52_method_16_code 6 = .ok (.aload_n 3, 1) := by decide +kernel
theorem d4_7 : decode jdk_52_method_16_code 7 = .ok (.iconst 0, 1) := by decide +kernel
theorem d4_8 : decode jdk_52_method_16_code 8 = .ok (.iload_n 2, 1) := by decide +kernel
theorem d4_9 : decode jdk_52_method_16_code 9 = .ok (.invokestatic 115, 3) := by decide +kernel
theorem d4_12 : decode jdk_52_method_16_code 12 = .ok (.istore 4, 2) := by decide +kernel
theorem d4_14 : decode jdk_52_method_16_code 14 = .ok (.iload 4, 2) := by decide +kernel
theorem d4_16 : decode jdk_52_method_16_code 16 = .ok (.iload_n 2, 1) := by decide +kernel
theorem d4_17 : decode jdk_52_method_16_code 17 = .ok (.if_icmp .eq 40, 3) := by decide +kernel
theorem d4_20 : decode jdk_52_method_16_code 20 = .ok (.aload_n 0, 1) := by decide +kernel
theorem d4_21 : decode jdk_52_method_16_code 21 = .ok (.iload_n 1, 1) := by decide +kernel
theorem d4_22 : decode jdk_52_method_16_code 22 = .ok (.iload_n 2, 1) := by decide +kernel
theorem d4_23 : decode jdk_52_method_16_code 23 = .ok (.invokestatic 119, 3) := by decide +kernel
theorem d4_26 : decode jdk_52_method_16_code 26 = .ok (.astore 5, 2) := by decide +kernel
theorem d4_28 : decode jdk_52_method_16_code 28 = .ok (.aload 5, 2) := by decide +kernel
theorem d4_30 : decode jdk_52_method_16_code 30 = .ok (.iload 4, 2) := by decide +kernel
theorem d4_32 : decode jdk_52_method_16_code 32 = .ok (.invokestatic 71, 3) := by decide +kernel
theorem d4_35 : decode jdk_52_method_16_code 35 = .ok (.sipush 255, 3) := by decide +kernel
theorem d4_38 : decode jdk_52_method_16_code 38 = .ok (.if_icmp .gt 16, 3) := by decide +kernel
theorem d4_41 : decode jdk_52_method_16_code 41 = .ok (.aload 5, 2) := by decide +kernel
theorem d4_43 : decode jdk_52_method_16_code 43 = .ok (.iconst 0, 1) := by decide +kernel
theorem d4_44 : decode jdk_52_method_16_code 44 = .ok (.aload_n 3, 1) := by decide +kernel
theorem d4_45 : decode jdk_52_method_16_code 45 = .ok (.iconst 0, 1) := by decide +kernel
theorem d4_46 : decode jdk_52_method_16_code 46 = .ok (.iload_n 2, 1) := by decide +kernel
theorem d4_47 : decode jdk_52_method_16_code 47 = .ok (.invokestatic 123, 3) := by decide +kernel
theorem d4_50 : decode jdk_52_method_16_code 50 = .ok (.iload_n 2, 1) := by decide +kernel
theorem d4_51 : decode jdk_52_method_16_code 51 = .ok (.if_icmp .eq 6, 3) := by decide +kernel
theorem d4_54 : decode jdk_52_method_16_code 54 = .ok (.aload 5, 2) := by decide +kernel
theorem d4_56 : decode jdk_52_method_16_code 56 = .ok (.areturn, 1) := by decide +kernel
theorem d4_57 : decode jdk_52_method_16_code 57 = .ok (.aload_n 3, 1) := by decide +kernel
theorem d4_58 : decode jdk_52_method_16_code 58 = .ok (.areturn, 1) := by decide +kernel
theorem pd0 : parseMethodDescriptor "([CI[BII)I" = some ⟨[(.array .char), .int, (.array .byte), .int, .int], some .int⟩ := by decide +kernel
theorem d6_0 : decode jdk_52_method_15_code 0 = .ok (.iload_n 1, 1) := by decide +kernel
theorem d6_1 : decode jdk_52_method_15_code 1 = .ok (.aload_n 0, 1) := by decide +kernel
theorem d6_2 : decode jdk_52_method_15_code 2 = .ok (.arraylength, 1) := by decide +kernel
theorem d6_3 : decode jdk_52_method_15_code 3 = .ok (.isub, 1) := by decide +kernel
theorem d6_4 : decode jdk_52_method_15_code 4 = .ok (.bipush 31, 2) := by decide +kernel
theorem d6_6 : decode jdk_52_method_15_code 6 = .ok (.iushr, 1) := by decide +kernel
theorem d6_7 : decode jdk_52_method_15_code 7 = .ok (.i2b, 1) := by decide +kernel
theorem d6_8 : decode jdk_52_method_15_code 8 = .ok (.ireturn, 1) := by decide +kernel
theorem d2_0 : decode jdk_42_method_149_code 0 = .ok (.aload_n 0, 1) := by decide +kernel
theorem d2_1 : decode jdk_42_method_149_code 1 = .ok (.invokespecial 1, 3) := by decide +kernel
theorem d2_4 : decode jdk_42_method_149_code 4 = .ok (.iload_n 3, 1) := by decide +kernel
theorem d2_5 : decode jdk_42_method_149_code 5 = .ok (.ifCond .ne 22, 3) := by decide +kernel
theorem d2_8 : decode jdk_42_method_149_code 8 = .ok (.aload_n 0, 1) := by decide +kernel
theorem d2_9 : decode jdk_42_method_149_code 9 = .ok (.ldc 7, 2) := by decide +kernel
theorem d2_11 : decode jdk_42_method_149_code 11 = .ok (.getfield 9, 3) := by decide +kernel
theorem d2_14 : decode jdk_42_method_149_code 14 = .ok (.putfield 9, 3) := by decide +kernel
theorem d2_17 : decode jdk_42_method_149_code 17 = .ok (.aload_n 0, 1) := by decide +kernel
theorem d2_18 : decode jdk_42_method_149_code 18 = .ok (.ldc 7, 2) := by decide +kernel
theorem d2_20 : decode jdk_42_method_149_code 20 = .ok (.getfield 15, 3) := by decide +kernel
theorem d2_23 : decode jdk_42_method_149_code 23 = .ok (.putfield 15, 3) := by decide +kernel
theorem d2_26 : decode jdk_42_method_149_code 26 = .ok (.return_, 1) := by decide +kernel
theorem d2_27 : decode jdk_42_method_149_code 27 = .ok (.getstatic 38, 3) := by decide +kernel
theorem d2_30 : decode jdk_42_method_149_code 30 = .ok (.ifCond .eq 28, 3) := by decide +kernel
theorem d2_33 : decode jdk_42_method_149_code 33 = .ok (.aload_n 1, 1) := by decide +kernel
theorem d2_34 : decode jdk_42_method_149_code 34 = .ok (.iload_n 2, 1) := by decide +kernel
theorem d2_35 : decode jdk_42_method_149_code 35 = .ok (.iload_n 3, 1) := by decide +kernel
theorem d2_36 : decode jdk_42_method_149_code 36 = .ok (.invokestatic 177, 3) := by decide +kernel
theorem d2_39 : decode jdk_42_method_149_code 39 = .ok (.astore 5, 2) := by decide +kernel
theorem d2_41 : decode jdk_42_method_149_code 41 = .ok (.aload_n 0, 1) := by decide +kernel
theorem d2_42 : decode jdk_42_method_149_code 42 = .ok (.aload 5, 2) := by decide +kernel
theorem d2_44 : decode jdk_42_method_149_code 44 = .ok (.iload_n 3, 1) := by decide +kernel
theorem d2_45 : decode jdk_42_method_149_code 45 = .ok (.invokestatic 47, 3) := by decide +kernel
theorem d2_48 : decode jdk_42_method_149_code 48 = .ok (.putfield 15, 3) := by decide +kernel
theorem d2_51 : decode jdk_42_method_149_code 51 = .ok (.aload_n 0, 1) := by decide +kernel
theorem d2_52 : decode jdk_42_method_149_code 52 = .ok (.aload 5, 2) := by decide +kernel
theorem d2_54 : decode jdk_42_method_149_code 54 = .ok (.putfield 9, 3) := by decide +kernel
theorem d2_57 : decode jdk_42_method_149_code 57 = .ok (.return_, 1) := by decide +kernel
theorem d2_58 : decode jdk_42_method_149_code 58 = .ok (.aload_n 0, 1) := by decide +kernel
theorem d2_59 : decode jdk_42_method_149_code 59 = .ok (.iconst 1, 1) := by decide +kernel
theorem d2_60 : decode jdk_42_method_149_code 60 = .ok (.putfield 15, 3) := by decide +kernel
theorem d2_63 : decode jdk_42_method_149_code 63 = .ok (.aload_n 0, 1) := by decide +kernel
theorem d2_64 : decode jdk_42_method_149_code 64 = .ok (.aload_n 1, 1) := by decide +kernel
theorem d2_65 : decode jdk_42_method_149_code 65 = .ok (.iload_n 2, 1) := by decide +kernel
theorem d2_66 : decode jdk_42_method_149_code 66 = .ok (.iload_n 3, 1) := by decide +kernel
theorem d2_67 : decode jdk_42_method_149_code 67 = .ok (.invokestatic 180, 3) := by decide +kernel
theorem d2_70 : decode jdk_42_method_149_code 70 = .ok (.putfield 9, 3) := by decide +kernel
theorem d2_73 : decode jdk_42_method_149_code 73 = .ok (.return_, 1) := by decide +kernel
theorem pn1 : plainName "java/lang/String" = true := by first | (simp [plainName, overriddenIn]; done) | decide +kernel
theorem pd1 : parseMethodDescriptor "([CII)[B" = some ⟨[(.array .char), .int, .int], some (.array .byte)⟩ := by decide +kernel
theorem pd2 : parseMethodDescriptor "([BI)B" = some ⟨[(.array .byte), .int], some .byte⟩ := by decide +kernel
theorem d1_0 : decode jdk_42_method_3_code 0 = .ok (.aload_n 0, 1) := by decide +kernel
theorem d1_1 : decode jdk_42_method_3_code 1 = .ok (.aload_n 1, 1) := by decide +kernel
theorem d1_2 : decode jdk_42_method_3_code 2 = .ok (.iconst 0, 1) := by decide +kernel
theorem d1_3 : decode jdk_42_method_3_code 3 = .ok (.aload_n 1, 1) := by decide +kernel
theorem d1_4 : decode jdk_42_method_3_code 4 = .ok (.arraylength, 1) := by decide +kernel
theorem d1_5 : decode jdk_42_method_3_code 5 = .ok (.aconst_null, 1) := by decide +kernel
theorem d1_6 : decode jdk_42_method_3_code 6 = .ok (.invokespecial 27, 3) := by decide +kernel
theorem d1_9 : decode jdk_42_method_3_code 9 = .ok (.return_, 1) := by decide +kernel
theorem pd3 : parseMethodDescriptor "([CIILjava/lang/Void;)V" = some ⟨[(.array .char), .int, .int, (.object "java/lang/Void")], none⟩ := by decide +kernel
theorem d16_0 : decode jdk_43_method_13_code 0 = .ok (.aload_n 0, 1) := by decide +kernel
theorem d16_1 : decode jdk_43_method_13_code 1 = .ok (.arraylength, 1) := by decide +kernel
theorem d16_2 : decode jdk_43_method_13_code 2 = .ok (.aload_n 1, 1) := by decide +kernel
theorem d16_3 : decode jdk_43_method_13_code 3 = .ok (.arraylength, 1) := by decide +kernel
theorem d16_4 : decode jdk_43_method_13_code 4 = .ok (.if_icmp .ne 30, 3) := by decide +kernel
theorem d16_7 : decode jdk_43_method_13_code 7 = .ok (.iconst 0, 1) := by decide +kernel
theorem d16_8 : decode jdk_43_method_13_code 8 = .ok (.istore_n 2, 1) := by decide +kernel
theorem d16_9 : decode jdk_43_method_13_code 9 = .ok (.iload_n 2, 1) := by decide +kernel
theorem d16_10 : decode jdk_43_method_13_code 10 = .ok (.aload_n 0, 1) := by decide +kernel
theorem d16_11 : decode jdk_43_method_13_code 11 = .ok (.arraylength, 1) := by decide +kernel
theorem d16_12 : decode jdk_43_method_13_code 12 = .ok (.if_icmp .ge 20, 3) := by decide +kernel
theorem d16_15 : decode jdk_43_method_13_code 15 = .ok (.aload_n 0, 1) := by decide +kernel
theorem d16_16 : decode jdk_43_method_13_code 16 = .ok (.iload_n 2, 1) := by decide +kernel
theorem d16_17 : decode jdk_43_method_13_code 17 = .ok (.baload, 1) := by decide +kernel
theorem d16_18 : decode jdk_43_method_13_code 18 = .ok (.aload_n 1, 1) := by decide +kernel
theorem d16_19 : decode jdk_43_method_13_code 19 = .ok (.iload_n 2, 1) := by decide +kernel
theorem d16_20 : decode jdk_43_method_13_code 20 = .ok (.baload, 1) := by decide +kernel
theorem d16_21 : decode jdk_43_method_13_code 21 = .ok (.if_icmp .eq 5, 3) := by decide +kernel
theorem d16_24 : decode jdk_43_method_13_code 24 = .ok (.iconst 0, 1) := by decide +kernel
theorem d16_25 : decode jdk_43_method_13_code 25 = .ok (.ireturn, 1) := by decide +kernel
theorem d16_26 : decode jdk_43_method_13_code 26 = .ok (.iinc 2 1, 3) := by decide +kernel
theorem d16_29 : decode jdk_43_method_13_code 29 = .ok (.goto (-20), 3) := by decide +kernel
theorem d16_32 : decode jdk_43_method_13_code 32 = .ok (.iconst 1, 1) := by decide +kernel
theorem d16_33 : decode jdk_43_method_13_code 33 = .ok (.ireturn, 1) := by decide +kernel
theorem d16_34 : decode jdk_43_method_13_code 34 = .ok (.iconst 0, 1) := by decide +kernel
theorem d16_35 : decode jdk_43_method_13_code 35 = .ok (.ireturn, 1) := by decide +kernel
theorem pn2 : plainName "java/lang/StringLatin1" = true := by first | (simp [plainName, overriddenIn]; done) | decide +kernel
theorem d15_0 : decode jdk_42_method_66_code 0 = .ok (.aload_n 0, 1) := by decide +kernel
theorem d15_1 : decode jdk_42_method_66_code 1 = .ok (.aload_n 1, 1) := by decide +kernel
theorem d15_2 : decode jdk_42_method_66_code 2 = .ok (.if_acmp .ne 5, 3) := by decide +kernel
theorem d15_5 : decode jdk_42_method_66_code 5 = .ok (.iconst 1, 1) := by decide +kernel
theorem d15_6 : decode jdk_42_method_66_code 6 = .ok (.ireturn, 1) := by decide +kernel
theorem d15_7 : decode jdk_42_method_66_code 7 = .ok (.aload_n 1, 1) := by decide +kernel
theorem d15_8 : decode jdk_42_method_66_code 8 = .ok (.instanceof 10, 3) := by decide +kernel
theorem d15_11 : decode jdk_42_method_66_code 11 = .ok (.ifCond .eq 43, 3) := by decide +kernel
theorem d15_14 : decode jdk_42_method_66_code 14 = .ok (.aload_n 1, 1) := by decide +kernel
theorem d15_15 : decode jdk_42_method_66_code 15 = .ok (.checkcast 10, 3) := by decide +kernel
theorem d15_18 : decode jdk_42_method_66_code 18 = .ok (.astore_n 2, 1) := by decide +kernel
theorem d15_19 : decode jdk_42_method_66_code 19 = .ok (.getstatic 38, 3) := by decide +kernel
theorem d15_22 : decode jdk_42_method_66_code 22 = .ok (.ifCond .eq 14, 3) := by decide +kernel
theorem d15_25 : decode jdk_42_method_66_code 25 = .ok (.aload_n 0, 1) := by decide +kernel
theorem d15_26 : decode jdk_42_method_66_code 26 = .ok (.getfield 15, 3) := by decide +kernel
theorem d15_29 : decode jdk_42_method_66_code 29 = .ok (.aload_n 2, 1) := by decide +kernel
theorem d15_30 : decode jdk_42_method_66_code 30 = .ok (.getfield 15, 3) := by decide +kernel
theorem d15_33 : decode jdk_42_method_66_code 33 = .ok (.if_icmp .ne 21, 3) := by decide +kernel
theorem d15_36 : decode jdk_42_method_66_code 36 = .ok (.aload_n 0, 1) := by decide +kernel
theorem d15_37 : decode jdk_42_method_66_code 37 = .ok (.getfield 9, 3) := by decide +kernel
theorem d15_40 : decode jdk_42_method_66_code 40 = .ok (.aload_n 2, 1) := by decide +kernel
theorem d15_41 : decode jdk_42_method_66_code 41 = .ok (.getfield 9, 3) := by decide +kernel
theorem d15_44 : decode jdk_42_method_66_code 44 = .ok (.invokestatic 541, 3) := by decide +kernel
theorem d15_47 : decode jdk_42_method_66_code 47 = .ok (.ifCond .eq 7, 3) := by decide +kernel
theorem d15_50 : decode jdk_42_method_66_code 50 = .ok (.iconst 1, 1) := by decide +kernel
theorem d15_51 : decode jdk_42_method_66_code 51 = .ok (.goto 4, 3) := by decide +kernel
theorem d15_54 : decode jdk_42_method_66_code 54 = .ok (.iconst 0, 1) := by decide +kernel
theorem d15_55 : decode jdk_42_method_66_code 55 = .ok (.ireturn, 1) := by decide +kernel
theorem pd4 : parseMethodDescriptor "([B[B)Z" = some ⟨[(.array .byte), (.array .byte)], some .boolean⟩ := by decide +kernel
theorem d11_0 : decode jdk_42_method_154_code 0 = .ok (.getstatic 38, 3) := by decide +kernel
theorem d11_3 : decode jdk_42_method_154_code 3 = .ok (.ifCond .eq 14, 3) := by decide +kernel
theorem d11_6 : decode jdk_42_method_154_code 6 = .ok (.aload_n 0, 1) := by decide +kernel
theorem d11_7 : decode jdk_42_method_154_code 7 = .ok (.getfield 15, 3) := by decide +kernel
theorem d11_10 : decode jdk_42_method_154_code 10 = .ok (.ifCond .ne 7, 3) := by decide +kernel
theorem d11_13 : decode jdk_42_method_154_code 13 = .ok (.iconst 1, 1) := by decide +kernel
theorem d11_14 : decode jdk_42_method_154_code 14 = .ok (.goto 4, 3) := by decide +kernel
theorem d11_17 : decode jdk_42_method_154_code 17 = .ok (.iconst 0, 1) := by decide +kernel
theorem d11_18 : decode jdk_42_method_154_code 18 = .ok (.ireturn, 1) := by decide +kernel
theorem d20_0 : decode jdk_42_method_151_code 0 = .ok (.aload_n 0, 1) := by decide +kernel
theorem d20_1 : decode jdk_42_method_151_code 1 = .ok (.invokespecial 1, 3) := by decide +kernel
theorem d20_4 : decode jdk_42_method_151_code 4 = .ok (.aload_n 0, 1) := by decide +kernel
theorem d20_5 : decode jdk_42_method_151_code 5 = .ok (.aload_n 1, 1) := by decide +kernel
theorem d20_6 : decode jdk_42_method_151_code 6 = .ok (.putfield 9, 3) := by decide +kernel
theorem d20_9 : decode jdk_42_method_151_code 9 = .ok (.aload_n 0, 1) := by decide +kernel
theorem d20_10 : decode jdk_42_method_151_code 10 = .ok (.iload_n 2, 1) := by decide +kernel
theorem d20_11 : decode jdk_42_method_151_code 11 = .ok (.putfield 15, 3) := by decide +kernel
theorem d20_14 : decode jdk_42_method_151_code 14 = .ok (.return_, 1) := by decide +kernel
theorem pn3 : plainName "com/example/gatewarden/gatewarden/access/AssigneeViaPinLaw" = true := by first | (simp [plainName, overriddenIn]; done) | decide +kernel
theorem pn4 : plainName "java/lang/CharacterDataLatin1" = true := by first | (simp [plainName, overriddenIn]; done) | decide +kernel
theorem pn5 : plainName "sun/util/locale/BaseLocale" = true := by first | (simp [plainName, overriddenIn]; done) | decide +kernel
theorem pn6 : plainName "java/util/Locale" = true := by first | (simp [plainName, overriddenIn]; done) | decide +kernel
theorem pd5 : parseMethodDescriptor "()Ljava/lang/String;" = some ⟨[], some (.object "java/lang/String")⟩ := by decide +kernel
theorem pd6 : parseMethodDescriptor "([BB)V" = some ⟨[(.array .byte), .byte], none⟩ := by decide +kernel
theorem pd7 : parseMethodDescriptor "(I)I" = some ⟨[.int], some .int⟩ := by decide +kernel
theorem pd8 : parseMethodDescriptor "(I)Z" = some ⟨[.int], some .boolean⟩ := by decide +kernel
theorem pd9 : parseMethodDescriptor "()Z" = some ⟨[], some .boolean⟩ := by decide +kernel
theorem pd10 : parseMethodDescriptor "(Ljava/lang/String;[BLjava/util/Locale;)Ljava/lang/String;" = some ⟨[(.object "java/lang/String"), (.array .byte), (.object "java/util/Locale")], some (.object "java/lang/String")⟩ := by decide +kernel
theorem pn7 : plainName "java/lang/Record" = true := by first | (simp [plainName, overriddenIn]; done) | decide +kernel
theorem pn8 : plainName "com/example/gatewarden/gatewarden/access/Assignee" = true := by first | (simp [plainName, overriddenIn]; done) | decide +kernel
theorem pd11 : parseMethodDescriptor "()V" = some ⟨[], none⟩ := by decide +kernel
theorem pd12 : parseMethodDescriptor "(Ljava/util/Locale;)Ljava/lang/String;" = some ⟨[(.object "java/util/Locale")], some (.object "java/lang/String")⟩ := by decide +kernel
theorem pd13 : parseMethodDescriptor "([C)V" = some ⟨[(.array .char)], none⟩ := by decide +kernel
theorem pd14 : parseMethodDescriptor "(C)C" = some ⟨[.char], some .char⟩ := by decide +kernel
theorem pd15 : parseMethodDescriptor "(Lcom/example/gatewarden/gatewarden/access/Assignee$Kind;Ljava/lang/String;)V" = some ⟨[(.object "com/example/gatewarden/gatewarden/access/Assignee$Kind"), (.object "java/lang/String")], none⟩ := by decide +kernel
theorem pd16 : parseMethodDescriptor "(Ljava/lang/Object;)Z" = some ⟨[(.object "java/lang/Object")], some .boolean⟩ := by decide +kernel
def own_b (c : Int32) : Int32 := c.toInt8.toInt32
theorem own_bb (c : Int32) : nar .byte (own_b c) = own_b c := by simp [nar, own_b]
def own_ch (cs : List Int32) : Prop := ∀ c ∈ cs, ¬ c < 0 ∧ ¬ (255 : Int32) < c
def own_bl : List Int32 → Nat → List Value
  | [], _ => []
  | _ :: cs, 0 => .int 0 :: own_bl cs 0
  | c :: cs, i + 1 => .int (own_b c) :: own_bl cs i
theorem own_bl_len : ∀ (cs : List Int32) (i : Nat), (own_bl cs i).length = cs.length
  | [], _ => rfl
  | _ :: cs, 0 => by simp [own_bl, own_bl_len cs 0]
  | _ :: cs, i + 1 => by simp [own_bl, own_bl_len cs i]
theorem own_bl_set : ∀ (cs : List Int32) (i : Nat), i < cs.length → (own_bl cs i).set i (.int (own_b (cs.getD i 0))) = own_bl cs (i + 1)
  | [], _, h => absurd h (Nat.not_lt_zero _)
  | c :: cs, 0, _ => by simp [own_bl]
  | c :: cs, i + 1, h => by
    have q := own_bl_set cs i (by simpa using h)
    simp only [own_bl, List.set_cons_succ, List.getD_cons_succ, q]
theorem own_bl_all : ∀ (cs : List Int32), own_bl cs cs.length = cs.map fun c => .int (own_b c)
  | [] => rfl
  | c :: cs => by simp [own_bl, own_bl_all cs]
theorem own_bl_0 : ∀ (cs : List Int32) (i : Nat), (own_bl cs 0).getD i (.int 0) = .int 0
  | [], i => by simp [own_bl]
  | c :: cs, 0 => by simp [own_bl]
  | c :: cs, i + 1 => by simp only [own_bl, List.getD_cons_succ]; exact own_bl_0 cs i
theorem own_gd (cs : List Int32) (i : Nat) : (cs.map Value.int).getD i (.int 0) = .int (cs.getD i 0) := by
  simp only [List.getD_eq_getElem?_getD, List.getElem?_map]
  cases cs[i]? <;> rfl
theorem own_gb (cs : List Int32) (i : Nat) : (cs.map fun c => Value.int (own_b c)).getD i (.int 0) = .int (own_b (cs.getD i 0)) := by
  simp only [List.getD_eq_getElem?_getD, List.getElem?_map]
  cases cs[i]? <;> rfl
theorem own_gm (cs : List Int32) (i : Nat) (h : i < cs.length) : cs.getD i 0 ∈ cs := by
  rw [List.getD_eq_getElem?_getD, List.getElem?_eq_getElem h]; exact List.getElem_mem h
theorem own_b_and : ∀ k : Fin 256, own_b (Int32.ofNat k.val) &&& 255 = Int32.ofNat k.val := by decide +kernel
theorem own_b_back {c : Int32} (h : ¬ c < 0 ∧ ¬ (255 : Int32) < c) : own_b c &&& 255 = c := by
  have q := nat_of h.1
  have h2 := h.2
  rw [Int32.lt_iff_toInt_lt] at h2
  have e : (255 : Int32).toInt = 255 := rfl
  have z := own_b_and ⟨c.toNatClampNeg, by omega⟩
  have e2 : Int32.ofNat c.toNatClampNeg = c := (back32 h.1).1
  simp only [e2] at z
  exact z
theorem own_b_inj {c d : Int32} (h : ¬ c < 0 ∧ ¬ (255 : Int32) < c) (h' : ¬ d < 0 ∧ ¬ (255 : Int32) < d) (e : own_b c = own_b d) : c = d := by
  rw [← own_b_back h, ← own_b_back h', e]
theorem own_list {a b : List Int32} (hl : a.length = b.length) (h : ∀ k, k < a.length → a.getD k 0 = b.getD k 0) : a = b := by
  apply List.ext_getElem hl
  intro i h1 h2
  have q := h i h1
  rw [List.getD_eq_getElem?_getD, List.getD_eq_getElem?_getD, List.getElem?_eq_getElem h1, List.getElem?_eq_getElem h2] at q
  exact q
def own_bi (b : Bool) : Int32 := if b = true then 1 else 0
theorem own_bi0 (b : Bool) : own_bi b = 0 ↔ b = false := by cases b <;> decide
theorem own_bin (b : Bool) : nar .boolean (own_bi b) = own_bi b := by cases b <;> decide
/-- the String at a spells cs (Latin-1) -/
def Str (Z : State) (h : Heap) (a : Addr) (cs : List Int32) : Prop := Exa Z h a "java/lang/String" ∧ Fld Z h a "java/lang/String" "coder" "B" (.int 0) ∧ ∃ (b : Addr) (k : ClassId) (n : Int32), Fld Z h a "java/lang/String" "value" "[B" (.ref b) ∧ Arv Z h b k .byte n (cs.map fun c => .int (own_b c)) (.int 0) ∧ n.toNatClampNeg = cs.length
theorem Str.ext {Z : State} {h h' : Heap} {a : Addr} {cs : List Int32} (X : Str Z h a cs) (E : Ext h h') : Str Z h' a cs := by
  obtain ⟨h1, h2, b, k, n, h3, h4, h5⟩ := X
  exact ⟨h1.ext E, h2.ext E, b, k, n, h3.ext E, h4.ext E, h5⟩
theorem own_fldinj {Z : State} {h : Heap} {a : Addr} {C n d : String} {v w : Value} (F : Fld Z h a C n d v) (G : Fld Z h a C n d w) : v = w := by
  obtain ⟨c1, _, _, _, _, h1, h2, -, -, -, -, h7⟩ := F
  obtain ⟨c2, _, _, _, _, g1, g2, -, -, -, -, g7⟩ := G
  cases h1.symm.trans g1; cases h2.symm.trans g2; exact Option.some.inj (h7.symm.trans g7)
theorem Str.inj {Z : State} {h : Heap} {a : Addr} {cs cs' : List Int32} (X : Str Z h a cs) (Y : Str Z h a cs') (hc : own_ch cs) (hc' : own_ch cs') : cs = cs' := by
  obtain ⟨-, -, b, k, n, h3, h4, h5⟩ := X
  obtain ⟨-, -, b', k', n', g3, g4, g5⟩ := Y
  cases own_fldinj h3 g3
  obtain ⟨c1, A1, -, S1, -, H1, -⟩ := h4
  obtain ⟨c2, A2, -, S2, -, H2, -⟩ := g4
  cases A1.1.symm.trans A2.1
  have hl : cs.length = cs'.length := by omega
  refine own_list hl fun i hi => ?_
  have e1 := H1 i (by omega)
  have e2 := H2 i (by omega)
  rw [own_gb] at e1 e2
  have e := Option.some.inj (e1.symm.trans e2)
  injection e with e
  exact own_b_inj (hc _ (own_gm cs i hi)) (hc' _ (own_gm cs' i (by omega))) e
theorem own_n {n : Int32} {k : Nat} (h0 : ¬ n < 0) (h : n.toNatClampNeg = k) : n.toInt = k := by rw [nat_of h0, h]
theorem own_ltI {x n : Int32} {i k : Nat} (h1 : x.toInt = i) (h2 : n.toInt = k) (h : i < k) : x < n := by rw [Int32.lt_iff_toInt_lt]; omega
theorem own_geI {x n : Int32} {i k : Nat} (h1 : x.toInt = i) (h2 : n.toInt = k) (h : k ≤ i) : ¬ x < n := by rw [Int32.lt_iff_toInt_lt]; omega
theorem own_inc1 {x : Int32} {i : Nat} (h1 : x.toInt = i) (h : i < 100000) : (x + 1).toInt = ((i + 1 : Nat) : Int) := by
  have e3 : (1 : Int32).toInt = 1 := rfl
  rw [XT.add32 ⟨by omega, by omega⟩]; omega
theorem own_nn {x : Int32} {i : Nat} (h1 : x.toInt = i) : ¬ x < 0 := by rw [XT.negI32]; omega
theorem own_cl {x : Int32} {i : Nat} (h1 : x.toInt = i) : x.toNatClampNeg = i := by
  have := nat_of (own_nn h1); omega
theorem own_nar256 : ∀ k : Fin 256, nar .char (Int32.ofNat k.val) = Int32.ofNat k.val := by decide +kernel
theorem own_rng256 {P : Int32 → Prop} (H : ∀ k : Fin 256, P (Int32.ofNat k.val)) {c : Int32} (h : ¬ c < 0 ∧ ¬ (255 : Int32) < c) : P c := by
  have q := nat_of h.1
  have h2 := h.2
  rw [Int32.lt_iff_toInt_lt] at h2
  have e : (255 : Int32).toInt = 255 := rfl
  have z := H ⟨c.toNatClampNeg, by omega⟩
  have e2 : Int32.ofNat c.toNatClampNeg = c := (back32 h.1).1
  simp only [e2] at z
  exact z
theorem own_nar {c : Int32} (h : ¬ c < 0 ∧ ¬ (255 : Int32) < c) : nar .char c = c := own_rng256 (P := fun c => nar .char c = c) own_nar256 h
theorem own_ch0 : own_ch [] := fun _ h => nomatch h
theorem own_chS {c : Int32} {cs : List Int32} (h : ¬ c < 0 ∧ ¬ (255 : Int32) < c) (t : own_ch cs) : own_ch (c :: cs) := fun x hx => (List.mem_cons.mp hx).elim (fun e => e ▸ h) (t x)
theorem own_u16 (t : UInt32) (h : t.toNat < 65536) : t.toUInt16.toUInt32 = t := by
  apply UInt32.toNat_inj.mp
  rw [UInt16.toNat_toUInt32, UInt32.toNat_toUInt16]
  exact Nat.mod_eq_of_lt h
theorem own_nc' (x : Int32) : x.toUInt32.toUInt16.toUInt32.toInt32.toUInt32.toUInt16.toUInt32.toInt32 = x.toUInt32.toUInt16.toUInt32.toInt32 := by
  have : x.toUInt32.toUInt16.toUInt32.toInt32.toUInt32 = x.toUInt32.toUInt16.toUInt32 := rfl
  rw [this, own_u16 x.toUInt32.toUInt16.toUInt32 (by rw [UInt16.toNat_toUInt32]; exact UInt16.toNat_lt _)]
theorem own_nc (x : Int32) : nar .char x.toUInt32.toUInt16.toUInt32.toInt32 = x.toUInt32.toUInt16.toUInt32.toInt32 := own_nc' x
theorem own_m255 (x : Int32) : (x &&& 255).toUInt32.toNat ≤ 255 := by
  have q : (x &&& 255).toUInt32.toNat = x.toBitVec.toNat &&& 255 := by
    show (x &&& 255).toBitVec.toNat = _
    simp
  rw [q]; exact Nat.and_le_right
theorem own_c255 (x : Int32) : ¬ (x &&& 255).toUInt32.toUInt16.toUInt32.toInt32 < 0 ∧ ¬ (255 : Int32) < (x &&& 255).toUInt32.toUInt16.toUInt32.toInt32 := by
  have h2 := own_m255 x
  rw [own_u16 _ (by omega)]
  have e : (x &&& 255).toUInt32.toInt32.toInt = (x &&& 255).toUInt32.toNat := by
    show ((x &&& 255).toUInt32).toBitVec.toInt = _
    rw [BitVec.toInt_eq_toNat_of_lt]
    · rfl
    · show 2 * (x &&& 255).toUInt32.toNat < 2 ^ 32
      omega
  constructor
  · rw [XT.negI32]; omega
  · rw [Int32.lt_iff_toInt_lt]; have : (255 : Int32).toInt = 255 := rfl; omega
theorem own_rf {v : Value} {t : FieldType} (h : v.isRef = true) (ht : t.isReference = true) : fits t v = true ∧ narrow t v = v := by
  rcases ref_cases h with rfl | ⟨a, rfl⟩ <;> cases t <;> simp_all [FieldType.isReference, fits, narrow]
theorem own_comp {s : State} {args a0 : Array Value} (hw1 : (Jvm.Cond.initializedFor "java/lang/String" "COMPACT_STRINGS" "Z").before args s = true) (h1 : (Jvm.Cond.isInt (Jvm.Term.static "java/lang/String" "COMPACT_STRINGS" "Z")).before args s = true) (h2 : (Jvm.Cond.not (Jvm.Cond.eq (Jvm.Term.static "java/lang/String" "COMPACT_STRINGS" "Z") (Jvm.Term.int 0))).before args s = true) : ∃ cz : Int32, ¬ cz = 0 ∧ Sta s s.heap "java/lang/String" "COMPACT_STRINGS" "Z" (.int cz) := by
  obtain ⟨cz, ev⟩ := is_v (Cond.before_iff.mp h1)
  refine ⟨cz, fun e => ?_, Sta.start ev (Or.inl hw1)⟩
  have q := not_v (Cond.before_iff.mp h2)
  simp [Jvm.Cond.value, ev, Jvm.Term.int_eval, e] at q
theorem own_modm (x k n : Int32) (hk : ¬ k < 0) (hn : 0 < n.toInt) : 0 ≤ ((x &&& k) % n).toInt ∧ ((x &&& k) % n).toInt < n.toInt := by
  have h0 : ¬ (x &&& k) < 0 := fun q => absurd ((XT.and_neg32 x k).mp q).2 hk
  rw [XT.negI32] at h0
  rw [Int32.toInt_mod]
  exact ⟨Int.tmod_nonneg _ (by omega), Int.tmod_lt_of_pos _ hn⟩
theorem own_mod (x n : Int32) (hn : 0 < n.toInt) : 0 ≤ ((x &&& 2147483647) % n).toInt ∧ ((x &&& 2147483647) % n).toInt < n.toInt := by
  have h0 : ¬ (x &&& 2147483647) < 0 := fun q => absurd ((XT.and_neg32 x 2147483647).mp q).2 (by decide)
  rw [XT.negI32] at h0
  rw [Int32.toInt_mod]
  exact ⟨Int.tmod_nonneg _ (by omega), Int.tmod_lt_of_pos _ hn⟩
set_option maxRecDepth 65536
set_option maxHeartbeats 4000000
theorem own_wS {Z : State} {b0 : Array Value} (hw : ∀ d ∈ tables_1, d.before b0 Z = true) : ∀ a ∈ Bundle.stringAtoms, a.before b0 Z = true := by
  intro a ha
  simp only [Bundle.stringAtoms, List.mem_cons, List.not_mem_nil, or_false] at ha
  rcases ha with rfl | rfl | rfl | rfl | rfl | rfl | rfl
  · exact tw hw 6
  · exact tw hw 5
  · exact tw hw 23
  · exact tw hw 33
  · exact tw hw 31
  · exact tw hw 84
  · exact tw hw 85
theorem own_ew0 {Z : State} {b0 : Array Value} (hw : ∀ d ∈ tables_1, d.before b0 Z = true) : EW Z b0 own_EL := (EW.cons (tw hw 83) (by decide) (EW.cons (tw hw 86) (by decide) (EW.cons (tw hw 92) (by decide) (EW.cons (tw hw 116) (by decide) (EW.cons (tw hw 117) (by decide) (EW.cons (tw hw 118) (by decide) EW.nil))))))
theorem con_cmpL (l : Launch) (Z : State) (b0 : Array Value) (hw : ∀ d ∈ tables_1, d.before b0 Z = true) (src dst : Addr) (ks kd : ClassId) (n : Int32) (cs : List Int32) (hn : n.toNatClampNeg = cs.length) (hbig : cs.length < 5000) (hcs : own_ch cs) (h0 : Heap) (hE : Ext Z.heap h0) (As : Arv Z h0 src ks .char n (cs.map Value.int) (.int 0)) (Ad : Arv Z h0 dst kd .byte n (own_bl cs 0) (.int 0)) (hne : src ≠ dst) (zd : Z.heap.size ≤ dst) : Con l Z (⟨"java/lang/StringUTF16", "compress", "([CI[BII)I"⟩ : MethodName) jdk_52_method_21_code 7 (some .int) ({ frames := 0, cells := 0, slots := 0, locals := 0 } : Room) #[(.ref src), (.int 0), (.ref dst), (.int 0), (.int n)] h0 [dst] (QV fun w h => w = .int n ∧ Keep h0 h [dst] ∧ Arv Z h dst kd .byte n (cs.map fun c => .int (own_b c)) (.int 0)) := by
  refine Con.of (plainFor_of_name pn0) hE ⟨b0, own_ew0 hw⟩ (fun x hx => by rw [List.mem_singleton.mp hx]; exact Ad.lt) (L0 := #[.val (.ref src), .val (.int 0), .val (.ref dst), .val (.int 0), .val (.int n), .unset, .unset]) (fun m => by first | (simp [entryFrame, mkF, argsToLocals, Value.category]; done) | rfl) ?_
  intro p e s m args below meth c T W
  have hn0 : ¬ n < 0 := by obtain ⟨cl, A1, A2, A3, A4, A5, A6⟩ := As; exact A4
  have hnI := own_n hn0 hn
  have loop : ∀ (r i : Nat) (x : Int32) (T : State) (h : Heap) (s6 : Slot), i + r = cs.length → x.toInt = i → (s6 = .unset ∨ ∃ w, s6 = .val w ∧ w.category = 1) → Wk p l e ({ frames := 0, cells := 0, slots := 0, locals := 0 } : Room) s m args below meth c Z (⟨"java/lang/StringUTF16", "compress", "([CI[BII)I"⟩ : MethodName) jdk_52_method_21_code 7 (some .int) T h 0 0 [dst] → Arv Z h src ks .char n (cs.map Value.int) (.int 0) → Arv Z h dst kd .byte n (own_bl cs i) (.int 0) → Keep h0 h [dst] → Go p e below (Gd s below Z (QV fun w h => w = .int n ∧ Keep h0 h [dst] ∧ Arv Z h dst kd .byte n (cs.map fun c => .int (own_b c)) (.int 0)) (({ frames := 0, cells := 0, slots := 0, locals := 0 } : Room)).cells (({ frames := 0, cells := 0, slots := 0, locals := 0 } : Room)).slots) T (mkF m 3 #[.val (.ref src), .val (.int x), .val (.ref dst), .val (.int x), .val (.int n), .val (.int x), s6] []) := by
    intro r
    induction r with
    | zero =>
      intro i x T h s6 hi hx h6 W As Ad K
      refine o_iload 5 W d5_3 rfl ?_
      refine o_iload 7 W d5_5 rfl ?_
      refine o_icY 44 W d5_7 (XT.ii_ge_t (own_geI hx hnI (by omega))) ?_
      refine o_iload 46 W d5_44 rfl ?_
      have e : i = cs.length := by omega
      rw [e, own_bl_all] at Ad
      exact o_iret W d5_46 (⟨rfl, K, Ad⟩)
    | succ r ih =>
      intro i x T h s6 hi hx h6 W As Ad K
      have hlt : i < cs.length := by omega
      have hj := And.intro (own_nn hx) (own_ltI hx hnI hlt)
      have hc := hcs _ (own_gm cs i hlt)
      refine o_iload 5 W d5_3 rfl ?_
      refine o_iload 7 W d5_5 rfl ?_
      refine o_icN 10 W d5_7 (XT.ii_ge_f (own_ltI hx hnI hlt)) ?_
      refine o_aloadN 11 W d5_10 rfl rfl ?_
      refine o_iloadN 12 W d5_11 rfl ?_
      refine o_caloadV 13 W As hj ((congrArg (fun z => (cs.map Value.int).getD z (.int 0)) (own_cl hx)).trans (own_gd cs i)) d5_12 ?_
      refine o_istore 15 W #[.val (.ref src), .val (.int x), .val (.ref dst), .val (.int x), .val (.int n), .val (.int x), .val (.int (cs.getD i 0))] d5_13 (by first | exact XS.store1 rfl h6 rfl | (rcases h6 with rfl | ⟨w, rfl, hw6⟩ <;> first | rfl | simp [storeLocals, storeSelf, setAt, hw6])) ?_
      refine o_iload 17 W d5_15 rfl ?_
      refine o_sipush 20 W (255) d5_17 (by first | rfl | decide) ?_
      refine o_icY 26 W d5_20 (XT.ii_le_t hc.2) ?_
      refine o_aloadN 27 W d5_26 rfl rfl ?_
      refine o_iloadN 28 W d5_27 rfl ?_
      refine o_iload 30 W d5_28 rfl ?_
      refine o_i2b 31 W d5_30 ?_
      refine o_bastore 32 i W Ad hj (own_cl hx) (by rw [own_bl_len]; exact hlt) (List.mem_singleton.mpr rfl) zd d5_31 (fun T h W w1 Ad => ?_)
      have Ad : Arv Z h dst kd .byte n (own_bl cs (i + 1)) (.int 0) := by rw [← own_bl_set cs i hlt, ← own_bb]; exact Ad
      refine o_iinc 35 W (x + (1 : Int32)) #[.val (.ref src), .val (.int (x + (1 : Int32))), .val (.ref dst), .val (.int x), .val (.int n), .val (.int x), .val (.int (cs.getD i 0))] d5_32 rfl rfl rfl ?_
      refine o_iinc 38 W (x + (1 : Int32)) #[.val (.ref src), .val (.int (x + (1 : Int32))), .val (.ref dst), .val (.int (x + (1 : Int32))), .val (.int n), .val (.int x), .val (.int (cs.getD i 0))] d5_35 rfl rfl rfl ?_
      refine o_iinc 41 W (x + (1 : Int32)) #[.val (.ref src), .val (.int (x + (1 : Int32))), .val (.ref dst), .val (.int (x + (1 : Int32))), .val (.int n), .val (.int (x + (1 : Int32))), .val (.int (cs.getD i 0))] d5_38 rfl rfl rfl ?_
      refine o_goto 3 W d5_41 ?_
      exact ih (i + 1) (x + 1) T h _ (by omega) (own_inc1 hx (by omega)) (Or.inr ⟨_, rfl, rfl⟩) W (As.other w1 hne) Ad (K.wr w1 (Or.inl (List.mem_singleton.mpr rfl)))
  refine o_iconst 1 W (0) d5_0 (by first | rfl | decide) ?_
  refine o_istore 3 W #[.val (.ref src), .val (.int 0), .val (.ref dst), .val (.int 0), .val (.int n), .val (.int (0 : Int32)), .unset] d5_1 rfl ?_
  exact loop cs.length 0 0 T h0 _ (by omega) rfl (Or.inl rfl) W As Ad (Keep.refl _ _)
theorem con_cmp (l : Launch) (Z : State) (b0 : Array Value) (hw : ∀ d ∈ tables_1, d.before b0 Z = true) (src : Addr) (ks : ClassId) (n : Int32) (cs : List Int32) (hn : n.toNatClampNeg = cs.length) (hbig : cs.length ≤ 16) (hcs : own_ch cs) (h0 : Heap) (hE : Ext Z.heap h0) (As : Arv Z h0 src ks .char n (cs.map Value.int) (.int 0)) : Con l Z (⟨"java/lang/StringUTF16", "compress", "([CII)[B"⟩ : MethodName) jdk_52_method_16_code 6 (some (.array .byte)) ({ frames := 1, cells := 1, slots := 16, locals := 40 } : Room) #[(.ref src), (.int 0), (.int n)] h0 [] (QV fun w h => ∃ d kd, w = .ref d ∧ h0.size ≤ d ∧ Ext h0 h ∧ Arv Z h d kd .byte n (cs.map fun c => .int (own_b c)) (.int 0)) := by
  refine Con.of (plainFor_of_name pn0) hE ⟨b0, own_ew0 hw⟩ all0 (L0 := #[.val (.ref src), .val (.int 0), .val (.int n), .unset, .unset, .unset]) (fun m => by first | (simp [entryFrame, mkF, argsToLocals, Value.category]; done) | rfl) ?_
  intro p e s m args below meth c T W
  have hn0 : ¬ n < 0 := by obtain ⟨cl, A1, A2, A3, A4, A5, A6⟩ := As; exact A4
  refine o_iloadN 1 W d4_0 rfl ?_
  refine o_newarray 3 16 W (tw hw 23) d4_1 hn0 (by omega) (fun T h d kd W Ed Ad gd zd => ?_)
  have hlt := As.lt
  have As := As.ext Ed
  have Ad : Arv Z h d kd .byte n (own_bl cs 0) (.int 0) := Arv.pad Ad fun i => by rw [own_bl_0]; rfl
  refine o_astoreN 4 W #[.val (.ref src), .val (.int 0), .val (.int n), .val (.ref d), .unset, .unset] d4_3 rfl rfl ?_
  refine o_aloadN 5 W d4_4 rfl rfl ?_
  refine o_iloadN 6 W d4_5 rfl ?_
  refine o_aloadN 7 W d4_6 rfl rfl ?_
  refine o_iconst 8 W (0) d4_7 (by first | rfl | decide) ?_
  refine o_iloadN 9 W d4_8 rfl ?_
  refine o_static 12 [(.ref src), (.int 0), (.ref d), (.int (0 : Int32)), (.int n)] W (tw hw 24) (tw hw 25) (tw hw 21) (tw hw 26) (con_cmpL l Z b0 hw src d ks kd n cs hn (by omega) hcs _ W.old As Ad (Nat.ne_of_lt (Nat.lt_of_lt_of_le hlt gd)) zd) pd0 d4_9 rfl (fun x hx => hx) (fun T h v W qq gg => ?_)
  obtain ⟨_, rfl, rfl, K, Ad⟩ := qq
  show Go p e below _ _ (mkF m 12 #[.val (.ref src), .val (.int 0), .val (.int n), .val (.ref d), .unset, .unset] [(.int n)])
  refine o_istore 14 W #[.val (.ref src), .val (.int 0), .val (.int n), .val (.ref d), .val (.int n), .unset] d4_12 rfl ?_
  refine o_iload 16 W d4_14 rfl ?_
  refine o_iloadN 17 W d4_16 rfl ?_
  refine o_icY 57 W d4_17 (XT.ii_eq_t rfl) ?_
  refine o_aloadN 58 W d4_57 rfl rfl ?_
  exact o_aret W rfl rfl rfl d4_58 (⟨d, kd, rfl, gd, own_ext_keep Ed K gd, Ad⟩)
theorem con_cod (l : Launch) (Z : State) (b0 : Array Value) (hw : ∀ d ∈ tables_1, d.before b0 Z = true) (d : Addr) (kd : ClassId) (n : Int32) (vs : List Value) (h0 : Heap) (hE : Ext Z.heap h0) (Ad : Arv Z h0 d kd .byte n vs (.int 0)) : Con l Z (⟨"java/lang/StringUTF16", "coderFromArrayLen", "([BI)B"⟩ : MethodName) jdk_52_method_15_code 2 (some .byte) ({ frames := 0, cells := 0, slots := 0, locals := 0 } : Room) #[(.ref d), (.int n)] h0 [] (QV fun w h => w = .int 0 ∧ h0 = h) := by
  refine Con.of (plainFor_of_name pn0) hE ⟨b0, own_ew0 hw⟩ all0 (L0 := #[.val (.ref d), .val (.int n)]) (fun m => by first | (simp [entryFrame, mkF, argsToLocals, Value.category]; done) | rfl) ?_
  intro p e s m args below meth c T W
  refine o_iloadN 1 W d6_0 rfl ?_
  refine o_aloadN 2 W d6_1 rfl rfl ?_
  refine o_alenV 3 W Ad d6_2 ?_
  refine o_isub 4 W d6_3 ?_
  refine o_bipush 6 W (31) d6_4 (by first | rfl | decide) ?_
  refine o_iushr 7 W d6_6 ?_
  refine o_i2b 8 W d6_7 ?_
  exact o_nret W 0 (by simp) (by rw [Int32.sub_self]; rfl) d6_8 (⟨rfl, rfl⟩)
theorem con_sin2 (l : Launch) (Z : State) (b0 : Array Value) (hw : ∀ d ∈ tables_1, d.before b0 Z = true) (a src : Addr) (ks : ClassId) (n : Int32) (cs : List Int32) (hn : n.toNatClampNeg = cs.length) (hbig : cs.length ≤ 16) (hcs : own_ch cs) (h0 : Heap) (hE : Ext Z.heap h0) (As : Arv Z h0 src ks .char n (cs.map Value.int) (.int 0)) (A : Exa Z h0 a "java/lang/String") (F1 : Fld Z h0 a "java/lang/String" "value" "[B" .null) (F2 : Fld Z h0 a "java/lang/String" "coder" "B" (.int 0)) (za : Z.heap.size ≤ a) (cz : Int32) (hcz : ¬ cz = 0) (SC : Sta Z Z.heap "java/lang/String" "COMPACT_STRINGS" "Z" (.int cz)) : Con l Z (⟨"java/lang/String", "<init>", "([CIILjava/lang/Void;)V"⟩ : MethodName) jdk_42_method_149_code 6 none ({ frames := 2, cells := 5, slots := 24, locals := 64 } : Room) #[(.ref a), (.ref src), (.int 0), (.int n), .null] h0 [a] (Q0 fun h => Keep h0 h [a] ∧ Str Z h a cs) := by
  refine Con.of (plainFor_of_name pn1) hE ⟨b0, own_ew0 hw⟩ (fun x hx => by rw [List.mem_singleton.mp hx]; exact A.lt) (L0 := #[.val (.ref a), .val (.ref src), .val (.int 0), .val (.int n), .val (.null), .unset]) (fun m => by first | (simp [entryFrame, mkF, argsToLocals, Value.category]; done) | rfl) ?_
  intro p e s m args below meth c T W
  have hn0 : ¬ n < 0 := by obtain ⟨cl, A1, A2, A3, A4, A5, A6⟩ := As; exact A4
  have hnI := own_n hn0 hn
  refine o_aloadN 1 W d2_0 rfl rfl ?_
  refine o_initO 4 W (tw hw 15) (tw hw 16) (tw hw 17) d2_1 (fun T W => ?_)
  refine o_iloadN 5 W d2_4 rfl ?_
  have F0 := A
  refine o_ifne 27 8 W d2_5 (fun c5 => ?_) (fun c5 => ?_)
  · refine o_getS 30 W (tw hw 18) SC d2_27 fun T W => ?_
    refine o_ifN 33 W d2_30 (XT.i0_eq_f hcz) ?_
    refine o_aloadN 34 W d2_33 rfl rfl ?_
    refine o_iloadN 35 W d2_34 rfl ?_
    refine o_iloadN 36 W d2_35 rfl ?_
    refine o_static 39 [(.ref src), (.int 0), (.int n)] W (tw hw 19) (tw hw 20) (tw hw 21) (tw hw 22) (con_cmp l Z b0 hw src ks n cs hn hbig hcs _ W.old As) pd1 d2_36 rfl all0 (fun T h v W qq gg => ?_)
    obtain ⟨_, rfl, d, kd, rfl, gd, Ed, Ad⟩ := qq
    show Go p e below _ _ (mkF m 39 #[.val (.ref a), .val (.ref src), .val (.int 0), .val (.int n), .val (.null), .unset] [(.ref d)])
    have A := A.ext Ed
    have F1 := F1.ext Ed
    have F2 := F2.ext Ed
    have K0 := (Keep.refl h0 [a]).ext Ed
    have had : d ≠ a := Nat.ne_of_gt (Nat.lt_of_lt_of_le F0.lt gd)
    refine o_astore 41 W #[.val (.ref a), .val (.ref src), .val (.int 0), .val (.int n), .val (.null), .val (.ref d)] d2_39 rfl rfl ?_
    refine o_aloadN 42 W d2_41 rfl rfl ?_
    refine o_aload 44 W d2_42 rfl rfl ?_
    refine o_iloadN 45 W d2_44 rfl ?_
    refine o_static 48 [(.ref d), (.int n)] W (tw hw 27) (tw hw 28) (tw hw 21) (tw hw 29) (con_cod l Z b0 hw d kd n _ _ W.old Ad) pd2 d2_45 rfl all0 (fun T h v W qq gg => ?_)
    obtain ⟨_, rfl, rfl, rfl⟩ := qq
    show Go p e below _ _ (mkF m 48 #[.val (.ref a), .val (.ref src), .val (.int 0), .val (.int n), .val (.null), .val (.ref d)] [(.int 0), (.ref a)])
    refine o_putF 51 W (tw hw 30) F2 A (Or.inr ⟨(tw hw 31), rfl, rfl⟩) (tw hw 5) (ty := .byte) (by decide) rfl rfl (Or.inl (List.mem_singleton.mpr rfl)) za d2_48 (fun T h W w1 => ?_)
    have K0 := K0.wr w1 (Or.inl (List.mem_singleton.mpr rfl))
    have A := A.wr w1
    have F2 := F2.same w1
    have F1 := F1.other w1 (Or.inr (slot_ne (C := "java/lang/String") (Or.inr (tw hw 33)) (Or.inr (tw hw 31)) (by decide) (t := (.array .byte)) (t' := .byte) (by decide) (by decide)))
    have Ad := Ad.other w1 had
    refine o_aloadN 52 W d2_51 rfl rfl ?_
    refine o_aload 54 W d2_52 rfl rfl ?_
    refine o_putF 57 W (tw hw 32) F1 A (Or.inr ⟨(tw hw 33), rfl, rfl⟩) (tw hw 5) (ty := (.array .byte)) (by decide) rfl rfl (Or.inl (List.mem_singleton.mpr rfl)) za d2_54 (fun T h W w2 => ?_)
    have K0 := K0.wr w2 (Or.inl (List.mem_singleton.mpr rfl))
    have A := A.wr w2
    have F1 := F1.same w2
    have F2 := F2.other w2 (Or.inr (slot_ne (C := "java/lang/String") (Or.inr (tw hw 31)) (Or.inr (tw hw 33)) (by decide) (t := .byte) (t' := (.array .byte)) (by decide) (by decide)))
    have Ad := Ad.other w2 had
    exact o_ret W d2_57 (⟨K0, A, F2, d, kd, n, F1, Ad, hn⟩)
  · obtain rfl : cs = [] := List.eq_nil_of_length_eq_zero (by rw [c5] at hnI; have : (0 : Int32).toInt = 0 := rfl; omega)
    refine o_aloadN 9 W d2_8 rfl rfl ?_
    refine o_ldcC 11 0 W (vs := []) (z := 0) (fun q => q) (tw hw 92) (own_wS hw) (by first | (simp [own_EL]; done) | simp [own_EL, x]) (by decide) (by decide) rfl d2_9 (by decide) (fun T h t bt kt W Et Xt Ct Vt At nt => ?_)
    have A := A.ext Et
    have F1 := F1.ext Et
    have F2 := F2.ext Et
    have K0 := (Keep.refl h0 [a]).ext Et
    have nt := nt a (List.mem_singleton.mpr rfl)
    refine o_getF 14 W (tw hw 32) Vt d2_11 (fun T W => ?_)
    refine o_putF 17 W (tw hw 32) F1 A (Or.inr ⟨(tw hw 33), rfl, rfl⟩) (tw hw 5) (ty := (.array .byte)) (by decide) rfl rfl (Or.inl (List.mem_singleton.mpr rfl)) za d2_14 (fun T h W w1 => ?_)
    have K0 := K0.wr w1 (Or.inl (List.mem_singleton.mpr rfl))
    have A := A.wr w1
    have F1 := F1.same w1
    have F2 := F2.other w1 (Or.inr (slot_ne (C := "java/lang/String") (Or.inr (tw hw 31)) (Or.inr (tw hw 33)) (by decide) (t := .byte) (t' := (.array .byte)) (by decide) (by decide)))
    have At := At.other w1 nt.2.symm
    refine o_aloadN 18 W d2_17 rfl rfl ?_
    refine o_ldcC 20 0 W (vs := []) (z := 0) (fun q => q) (tw hw 92) (own_wS hw) (by first | (simp [own_EL]; done) | simp [own_EL, x]) (by decide) (by decide) rfl d2_18 (by decide) (fun T h u bu ku W Eu Xu Cu Vu Au nu => ?_)
    have A := A.ext Eu
    have F1 := F1.ext Eu
    have F2 := F2.ext Eu
    have At := At.ext Eu
    have K0 := K0.ext Eu
    refine o_getF 23 W (tw hw 30) Cu d2_20 (fun T W => ?_)
    refine o_putF 26 W (tw hw 30) F2 A (Or.inr ⟨(tw hw 31), rfl, rfl⟩) (tw hw 5) (ty := .byte) (by decide) rfl rfl (Or.inl (List.mem_singleton.mpr rfl)) za d2_23 (fun T h W w2 => ?_)
    have K0 := K0.wr w2 (Or.inl (List.mem_singleton.mpr rfl))
    have A := A.wr w2
    have F2 := F2.same w2
    have F1 := F1.other w2 (Or.inr (slot_ne (C := "java/lang/String") (Or.inr (tw hw 33)) (Or.inr (tw hw 31)) (by decide) (t := (.array .byte)) (t' := .byte) (by decide) (by decide)))
    have At := At.other w2 nt.2.symm
    exact o_ret W d2_26 (⟨K0, A, F2, bt, kt, 0, F1, At, rfl⟩)
theorem con_sin (l : Launch) (Z : State) (b0 : Array Value) (hw : ∀ d ∈ tables_1, d.before b0 Z = true) (a src : Addr) (ks : ClassId) (n : Int32) (cs : List Int32) (hn : n.toNatClampNeg = cs.length) (hbig : cs.length ≤ 16) (hcs : own_ch cs) (h0 : Heap) (hE : Ext Z.heap h0) (As : Arv Z h0 src ks .char n (cs.map Value.int) (.int 0)) (A : Exa Z h0 a "java/lang/String") (F1 : Fld Z h0 a "java/lang/String" "value" "[B" .null) (F2 : Fld Z h0 a "java/lang/String" "coder" "B" (.int 0)) (za : Z.heap.size ≤ a) (cz : Int32) (hcz : ¬ cz = 0) (SC : Sta Z Z.heap "java/lang/String" "COMPACT_STRINGS" "Z" (.int cz)) : Con l Z (⟨"java/lang/String", "<init>", "([C)V"⟩ : MethodName) jdk_42_method_3_code 2 none ({ frames := 3, cells := 5, slots := 24, locals := 96 } : Room) #[(.ref a), (.ref src)] h0 [a] (Q0 fun h => Keep h0 h [a] ∧ Str Z h a cs) := by
  refine Con.of (plainFor_of_name pn1) hE ⟨b0, own_ew0 hw⟩ (fun x hx => by rw [List.mem_singleton.mp hx]; exact A.lt) (L0 := #[.val (.ref a), .val (.ref src)]) (fun m => by first | (simp [entryFrame, mkF, argsToLocals, Value.category]; done) | rfl) ?_
  intro p e s m args below meth c T W
  refine o_aloadN 1 W d1_0 rfl rfl ?_
  refine o_aloadN 2 W d1_1 rfl rfl ?_
  refine o_iconst 3 W (0) d1_2 (by first | rfl | decide) ?_
  refine o_aloadN 4 W d1_3 rfl rfl ?_
  refine o_alenV 5 W As d1_4 ?_
  refine o_null 6 W d1_5 ?_
  refine o_special 9 [(.ref src), (.int (0 : Int32)), (.int n), (.null)] W (tw hw 11) (tw hw 12) (tw hw 6) (tw hw 14) (con_sin2 l Z b0 hw a src ks n cs hn hbig hcs _ W.old As A F1 F2 za cz hcz SC) pd3 d1_6 rfl (fun x hx => hx) (fun T h v W qq gg => ?_)
  obtain ⟨rfl, K0, X⟩ := qq
  show Go p e below _ _ (mkF m 9 #[.val (.ref a), .val (.ref src)] [])
  exact o_ret W d1_9 (⟨K0, X⟩)
theorem con_leq (l : Launch) (Z : State) (b0 : Array Value) (hw : ∀ d ∈ tables_1, d.before b0 Z = true) (d1 : Addr) (k1 : ClassId) (n1 : Int32) (cs1 : List Int32) (hn1 : n1.toNatClampNeg = cs1.length) (hb1 : cs1.length < 5000) (hc1 : own_ch cs1) (d2 : Addr) (k2 : ClassId) (n2 : Int32) (cs2 : List Int32) (hn2 : n2.toNatClampNeg = cs2.length) (hb2 : cs2.length < 5000) (hc2 : own_ch cs2) (h0 : Heap) (hE : Ext Z.heap h0) (A1 : Arv Z h0 d1 k1 .byte n1 (cs1.map fun c => .int (own_b c)) (.int 0)) (A2 : Arv Z h0 d2 k2 .byte n2 (cs2.map fun c => .int (own_b c)) (.int 0)) : Con l Z (⟨"java/lang/StringLatin1", "equals", "([B[B)Z"⟩ : MethodName) jdk_43_method_13_code 3 (some .boolean) ({ frames := 0, cells := 0, slots := 0, locals := 0 } : Room) #[(.ref d1), (.ref d2)] h0 [] (QV fun w h => w = .int (own_bi (decide (cs1 = cs2))) ∧ h0 = h) := by
  refine Con.of (plainFor_of_name pn2) hE ⟨b0, own_ew0 hw⟩ all0 (L0 := #[.val (.ref d1), .val (.ref d2), .unset]) (fun m => by first | (simp [entryFrame, mkF, argsToLocals, Value.category]; done) | rfl) ?_
  intro p e s m args below meth c T W
  have m1 : ¬ n1 < 0 := by obtain ⟨cl, B1, B2, B3, B4, B5, B6⟩ := A1; exact B4
  have i1 := own_n m1 hn1
  have m2 : ¬ n2 < 0 := by obtain ⟨cl, B1, B2, B3, B4, B5, B6⟩ := A2; exact B4
  have i2 := own_n m2 hn2
  refine o_aloadN 1 W d16_0 rfl rfl ?_
  refine o_alenV 2 W A1 d16_1 ?_
  refine o_aloadN 3 W d16_2 rfl rfl ?_
  refine o_alenV 4 W A2 d16_3 ?_
  refine o_icne 34 7 W d16_4 (fun c4 => ?_) (fun c4 => ?_)
  · refine o_iconst 35 W (0) d16_34 (by first | rfl | decide) ?_
    exact o_nret W (0 : Int32) (by simp) (by decide) d16_35 (⟨by rw [decide_eq_false (fun e => c4 (Int32.toInt_inj.mp (by rw [i1, i2, e])))]; rfl, rfl⟩)
  · have hl : cs1.length = cs2.length := by rw [c4] at i1; omega
    have loop : ∀ (r i : Nat) (x : Int32) (T : State), i + r = cs1.length → x.toInt = i → (∀ k, k < i → cs1.getD k 0 = cs2.getD k 0) → Wk p l e ({ frames := 0, cells := 0, slots := 0, locals := 0 } : Room) s m args below meth c Z (⟨"java/lang/StringLatin1", "equals", "([B[B)Z"⟩ : MethodName) jdk_43_method_13_code 3 (some .boolean) T h0 0 0 [] → Go p e below (Gd s below Z (QV fun w h => w = .int (own_bi (decide (cs1 = cs2))) ∧ h0 = h) (({ frames := 0, cells := 0, slots := 0, locals := 0 } : Room)).cells (({ frames := 0, cells := 0, slots := 0, locals := 0 } : Room)).slots) T (mkF m 9 #[.val (.ref d1), .val (.ref d2), .val (.int x)] []) := by
      intro r
      induction r with
      | zero =>
        intro i x T hi hx he W
        refine o_iloadN 10 W d16_9 rfl ?_
        refine o_aloadN 11 W d16_10 rfl rfl ?_
        refine o_alenV 12 W A1 d16_11 ?_
        refine o_icY 32 W d16_12 (XT.ii_ge_t (own_geI hx i1 (by omega))) ?_
        refine o_iconst 33 W (1) d16_32 (by first | rfl | decide) ?_
        exact o_nret W (1 : Int32) (by simp) (by decide) d16_33 (⟨by rw [decide_eq_true (own_list hl fun k hk => he k (by omega))]; rfl, rfl⟩)
      | succ r ih =>
        intro i x T hi hx he W
        have hlt : i < cs1.length := by omega
        refine o_iloadN 10 W d16_9 rfl ?_
        refine o_aloadN 11 W d16_10 rfl rfl ?_
        refine o_alenV 12 W A1 d16_11 ?_
        refine o_icN 15 W d16_12 (XT.ii_ge_f (own_ltI hx i1 hlt)) ?_
        refine o_aloadN 16 W d16_15 rfl rfl ?_
        refine o_iloadN 17 W d16_16 rfl ?_
        refine o_baloadV 18 W A1 ⟨own_nn hx, own_ltI hx i1 (by omega)⟩ ((congrArg (fun z => (cs1.map fun c => Value.int (own_b c)).getD z (.int 0)) (own_cl hx)).trans (own_gb cs1 i)) d16_17 ?_
        refine o_aloadN 19 W d16_18 rfl rfl ?_
        refine o_iloadN 20 W d16_19 rfl ?_
        refine o_baloadV 21 W A2 ⟨own_nn hx, own_ltI hx i2 (by omega)⟩ ((congrArg (fun z => (cs2.map fun c => Value.int (own_b c)).getD z (.int 0)) (own_cl hx)).trans (own_gb cs2 i)) d16_20 ?_
        refine o_iceq 26 24 W d16_21 (fun c21 => ?_) (fun c21 => ?_)
        · have he2 := own_b_inj (hc1 _ (own_gm cs1 i hlt)) (hc2 _ (own_gm cs2 i (by omega))) c21
          refine o_iinc 29 W (x + (1 : Int32)) #[.val (.ref d1), .val (.ref d2), .val (.int (x + (1 : Int32)))] d16_26 rfl rfl rfl ?_
          refine o_goto 9 W d16_29 ?_
          exact ih (i + 1) (x + 1) T (by omega) (own_inc1 hx (by omega)) (fun k hk => if z : k < i then he k z else (by obtain rfl : k = i := (by omega); exact he2)) W
        · refine o_iconst 25 W (0) d16_24 (by first | rfl | decide) ?_
          exact o_nret W (0 : Int32) (by simp) (by decide) d16_25 (⟨by rw [decide_eq_false (fun e => c21 (by rw [e]))]; rfl, rfl⟩)
    refine o_iconst 8 W (0) d16_7 (by first | rfl | decide) ?_
    refine o_istoreN 9 W #[.val (.ref d1), .val (.ref d2), .val (.int (0 : Int32))] d16_8 rfl ?_
    exact loop cs1.length 0 0 T (by omega) rfl (fun k hk => absurd hk (Nat.not_lt_zero _)) W
theorem con_seq (l : Launch) (Z : State) (b0 : Array Value) (hw : ∀ d ∈ tables_1, d.before b0 Z = true) (a o : Addr) (cs1 cs2 : List Int32) (hb1 : cs1.length < 5000) (hc1 : own_ch cs1) (hb2 : cs2.length < 5000) (hc2 : own_ch cs2) (h0 : Heap) (hE : Ext Z.heap h0) (X1 : Str Z h0 a cs1) (X2 : Str Z h0 o cs2) (cz : Int32) (hcz : ¬ cz = 0) (SC : Sta Z Z.heap "java/lang/String" "COMPACT_STRINGS" "Z" (.int cz)) : Con l Z (⟨"java/lang/String", "equals", "(Ljava/lang/Object;)Z"⟩ : MethodName) jdk_42_method_66_code 3 (some .boolean) ({ frames := 1, cells := 0, slots := 0, locals := 16 } : Room) #[(.ref a), (.ref o)] h0 [] (QV fun w h => w = .int (own_bi (decide (cs1 = cs2))) ∧ h0 = h) := by
  refine Con.of (plainFor_of_name pn1) hE ⟨b0, own_ew0 hw⟩ all0 (L0 := #[.val (.ref a), .val (.ref o), .unset]) (fun m => by first | (simp [entryFrame, mkF, argsToLocals, Value.category]; done) | rfl) ?_
  intro p e s m args below meth c T W
  refine o_aloadN 1 W d15_0 rfl rfl ?_
  refine o_aloadN 2 W d15_1 rfl rfl ?_
  refine o_acne 7 5 W rfl rfl d15_2 (fun c2 => ?_) (fun c2 => ?_)
  · obtain ⟨E1, C1, d1, k1, n1, V1, A1, l1⟩ := X1
    obtain ⟨E2, C2, d2, k2, n2, V2, A2, l2⟩ := X2
    refine o_aloadN 8 W d15_7 rfl rfl ?_
    refine o_instY 11 W (tw hw 95) (Ins.self E2) d15_8 (fun T W => ?_)
    refine o_ifN 14 W d15_11 (by decide) ?_
    refine o_aloadN 15 W d15_14 rfl rfl ?_
    refine o_cast 18 W (tw hw 95) (Ins.self E2) d15_15 (fun T W => ?_)
    refine o_astoreN 19 W #[.val (.ref a), .val (.ref o), .val (.ref o)] d15_18 rfl rfl ?_
    refine o_getS 22 W (tw hw 18) SC d15_19 fun T W => ?_
    refine o_ifN 25 W d15_22 (XT.i0_eq_f hcz) ?_
    refine o_aloadN 26 W d15_25 rfl rfl ?_
    refine o_getF 29 W (tw hw 30) C1 d15_26 (fun T W => ?_)
    refine o_aloadN 30 W d15_29 rfl rfl ?_
    refine o_getF 33 W (tw hw 30) C2 d15_30 (fun T W => ?_)
    refine o_icN 36 W d15_33 (by decide) ?_
    refine o_aloadN 37 W d15_36 rfl rfl ?_
    refine o_getF 40 W (tw hw 32) V1 d15_37 (fun T W => ?_)
    refine o_aloadN 41 W d15_40 rfl rfl ?_
    refine o_getF 44 W (tw hw 32) V2 d15_41 (fun T W => ?_)
    refine o_static 47 [(.ref d1), (.ref d2)] W (tw hw 96) (tw hw 97) (tw hw 64) (tw hw 98) (con_leq l Z b0 hw d1 k1 n1 cs1 l1 hb1 hc1 d2 k2 n2 cs2 l2 hb2 hc2 _ W.old A1 A2) pd4 d15_44 rfl all0 (fun T h v W qq gg => ?_)
    obtain ⟨_, rfl, rfl, rfl⟩ := qq
    show Go p e below _ _ (mkF m 47 #[.val (.ref a), .val (.ref o), .val (.ref o)] [(.int (own_bi (decide (cs1 = cs2))))])
    refine o_ifeq 54 50 W d15_47 (fun c47 => ?_) (fun c47 => ?_)
    · refine o_iconst 55 W (0) d15_54 (by first | rfl | decide) ?_
      exact o_nret W (0 : Int32) (by simp) (by decide) d15_55 (⟨by rw [(own_bi0 _).mp c47]; rfl, rfl⟩)
    · refine o_iconst 51 W (1) d15_50 (by first | rfl | decide) ?_
      refine o_goto 55 W d15_51 ?_
      exact o_nret W (1 : Int32) (by simp) (by decide) d15_55 (⟨by cases q : decide (cs1 = cs2); exact absurd ((own_bi0 _).mpr q) c47; rfl, rfl⟩)
  · refine o_iconst 6 W (1) d15_5 (by first | rfl | decide) ?_
    simp only [Value.ref.injEq] at c2
    exact o_nret W (1 : Int32) (by simp) (by decide) d15_6 (⟨by rw [decide_eq_true (X1.inj (c2 ▸ X2) hc1 hc2)]; rfl, rfl⟩)
theorem con_seqI (l : Launch) (Z : State) (b0 : Array Value) (hw : ∀ d ∈ tables_1, d.before b0 Z = true) (a : Addr) (h0 : Heap) (hE : Ext Z.heap h0) : Con l Z (⟨"java/lang/String", "equals", "(Ljava/lang/Object;)Z"⟩ : MethodName) jdk_42_method_66_code 3 (some .boolean) ({ frames := 1, cells := 0, slots := 0, locals := 16 } : Room) #[(.ref a), (.ref a)] h0 [] (QV fun w h => w = .int 1 ∧ h0 = h) := by
  refine Con.of (plainFor_of_name pn1) hE ⟨b0, own_ew0 hw⟩ all0 (L0 := #[.val (.ref a), .val (.ref a), .unset]) (fun m => by first | (simp [entryFrame, mkF, argsToLocals, Value.category]; done) | rfl) ?_
  intro p e s m args below meth c T W
  refine o_aloadN 1 W d15_0 rfl rfl ?_
  refine o_aloadN 2 W d15_1 rfl rfl ?_
  refine o_acne 7 5 W rfl rfl d15_2 (fun c2 => ?_) (fun c2 => ?_)
  · exact absurd rfl c2
  · refine o_iconst 6 W (1) d15_5 (by first | rfl | decide) ?_
    exact o_nret W (1 : Int32) (by simp) (by decide) d15_6 (⟨rfl, rfl⟩)
theorem con_lat (l : Launch) (Z : State) (b0 : Array Value) (hw : ∀ d ∈ tables_1, d.before b0 Z = true) (a : Addr) (h0 : Heap) (hE : Ext Z.heap h0) (F : Fld Z h0 a "java/lang/String" "coder" "B" (.int 0)) (cz : Int32) (hcz : ¬ cz = 0) (SC : Sta Z Z.heap "java/lang/String" "COMPACT_STRINGS" "Z" (.int cz)) : Con l Z (⟨"java/lang/String", "isLatin1", "()Z"⟩ : MethodName) jdk_42_method_154_code 1 (some .boolean) ({ frames := 0, cells := 0, slots := 0, locals := 0 } : Room) #[(.ref a)] h0 [] (QV fun w h => w = .int 1 ∧ h0 = h) := by
  refine Con.of (plainFor_of_name pn1) hE ⟨b0, own_ew0 hw⟩ all0 (L0 := #[.val (.ref a)]) (fun m => by first | (simp [entryFrame, mkF, argsToLocals, Value.category]; done) | rfl) ?_
  intro p e s m args below meth c T W
  refine o_getS 3 W (tw hw 18) SC d11_0 fun T W => ?_
  refine o_ifN 6 W d11_3 (XT.i0_eq_f hcz) ?_
  refine o_aloadN 7 W d11_6 rfl rfl ?_
  refine o_getF 10 W (tw hw 30) F d11_7 (fun T W => ?_)
  refine o_ifN 13 W d11_10 (by decide) ?_
  refine o_iconst 14 W (1) d11_13 (by first | rfl | decide) ?_
  refine o_goto 18 W d11_14 ?_
  exact o_nret W (1 : Int32) (by simp) (by decide) d11_18 (⟨rfl, rfl⟩)
theorem con_sbb (l : Launch) (Z : State) (b0 : Array Value) (hw : ∀ d ∈ tables_1, d.before b0 Z = true) (a d : Addr) (k : ClassId) (n : Int32) (cs : List Int32) (l1 : n.toNatClampNeg = cs.length) (h0 : Heap) (hE : Ext Z.heap h0) (A1 : Arv Z h0 d k .byte n (cs.map fun c => .int (own_b c)) (.int 0)) (hne : d ≠ a) (A : Exa Z h0 a "java/lang/String") (F1 : Fld Z h0 a "java/lang/String" "value" "[B" .null) (F2 : Fld Z h0 a "java/lang/String" "coder" "B" (.int 0)) (za : Z.heap.size ≤ a) : Con l Z (⟨"java/lang/String", "<init>", "([BB)V"⟩ : MethodName) jdk_42_method_151_code 3 none ({ frames := 1, cells := 0, slots := 0, locals := 16 } : Room) #[(.ref a), (.ref d), (.int 0)] h0 [a] (Q0 fun h => Keep h0 h [a] ∧ Str Z h a cs) := by
  refine Con.of (plainFor_of_name pn1) hE ⟨b0, own_ew0 hw⟩ (fun x hx => by rw [List.mem_singleton.mp hx]; exact A.lt) (L0 := #[.val (.ref a), .val (.ref d), .val (.int 0)]) (fun m => by first | (simp [entryFrame, mkF, argsToLocals, Value.category]; done) | rfl) ?_
  intro p e s m args below meth c T W
  have K0 := Keep.refl h0 [a]
  refine o_aloadN 1 W d20_0 rfl rfl ?_
  refine o_initO 4 W (tw hw 15) (tw hw 16) (tw hw 17) d20_1 (fun T W => ?_)
  refine o_aloadN 5 W d20_4 rfl rfl ?_
  refine o_aloadN 6 W d20_5 rfl rfl ?_
  refine o_putF 9 W (tw hw 32) F1 A (Or.inr ⟨(tw hw 33), rfl, rfl⟩) (tw hw 5) (ty := (.array .byte)) (by decide) rfl rfl (Or.inl (List.mem_singleton.mpr rfl)) za d20_6 (fun T h W w1 => ?_)
  have K0 := K0.wr w1 (Or.inl (List.mem_singleton.mpr rfl))
  have A := A.wr w1
  have F1 := F1.same w1
  have F2 := F2.other w1 (Or.inr (slot_ne (C := "java/lang/String") (Or.inr (tw hw 31)) (Or.inr (tw hw 33)) (by decide) (t := .byte) (t' := (.array .byte)) (by decide) (by decide)))
  have A1 := A1.other w1 hne
  refine o_aloadN 10 W d20_9 rfl rfl ?_
  refine o_iloadN 11 W d20_10 rfl ?_
  refine o_putF 14 W (tw hw 30) F2 A (Or.inr ⟨(tw hw 31), rfl, rfl⟩) (tw hw 5) (ty := .byte) (by decide) rfl rfl (Or.inl (List.mem_singleton.mpr rfl)) za d20_11 (fun T h W w2 => ?_)
  have K0 := K0.wr w2 (Or.inl (List.mem_singleton.mpr rfl))
  have A := A.wr w2
  have F2 := F2.same w2
  have F1 := F1.other w2 (Or.inr (slot_ne (C := "java/lang/String") (Or.inr (tw hw 33)) (Or.inr (tw hw 31)) (by decide) (t := (.array .byte)) (t' := .byte) (by decide) (by decide)))
  have A1 := A1.other w2 hne
  exact o_ret W d20_14 (⟨K0, A, F2, d, k, n, F1, A1, l1⟩)
def own_low (c : Int32) : Int32 := if c < 65 then c else if ¬ (122 : Int32) < (c ||| 32) then c ||| 32 else if (c ||| 32) < 224 then c else if (254 : Int32) < (c ||| 32) then c else if (c ||| 32) = 247 then c else c ||| 32
def own_lw (c : Int32) : Int32 := if c < 65 then (if c < 192 then c else if (222 : Int32) < c then c else if c = 215 then c else c + 32) else if (90 : Int32) < c then (if c < 192 then c else if (222 : Int32) < c then c else if c = 215 then c else c + 32) else c + 32
theorem own_low256 : ∀ k : Fin 256, own_lw (Int32.ofNat k.val) = own_low (Int32.ofNat k.val) ∧ (¬ own_low (Int32.ofNat k.val) < 0 ∧ ¬ (255 : Int32) < own_low (Int32.ofNat k.val)) := by decide +kernel
theorem own_lowr {c : Int32} (h : ¬ c < 0 ∧ ¬ (255 : Int32) < c) : ¬ own_low c < 0 ∧ ¬ (255 : Int32) < own_low c := (own_rng256 (P := fun c => own_lw c = own_low c ∧ (¬ own_low c < 0 ∧ ¬ (255 : Int32) < own_low c)) own_low256 h).2
theorem own_lwe {c : Int32} (h : ¬ c < 0 ∧ ¬ (255 : Int32) < c) : own_lw c = own_low c := (own_rng256 (P := fun c => own_lw c = own_low c ∧ (¬ own_low c < 0 ∧ ¬ (255 : Int32) < own_low c)) own_low256 h).1
theorem own_lowch {cs : List Int32} (h : own_ch cs) : own_ch (cs.map own_low) := fun c hc => by
  obtain ⟨d, hd, rfl⟩ := List.mem_map.mp hc
  exact own_lowr (h d hd)
/-- the first i chars lowered -/
def own_ll : List Int32 → Nat → List Int32
  | [], _ => []
  | c :: cs, 0 => c :: cs
  | c :: cs, i + 1 => own_low c :: own_ll cs i
theorem con_low (l : Launch) (Z : State) (b0 : Array Value) (hw : ∀ d ∈ tables_1, d.before b0 Z = true) (ch : Int32) (rc : ¬ ch < 0 ∧ ¬ (255 : Int32) < ch) (h0 : Heap) (hE : Ext Z.heap h0) : Con l Z (⟨"com/example/gatewarden/gatewarden/access/AssigneeViaPinLaw", "low", "(C)C"⟩ : MethodName) method_3_code 1 (some .char) ({ frames := 0, cells := 0, slots := 0, locals := 0 } : Room) #[(.int ch)] h0 [] (QV fun w h => w = .int (own_low ch) ∧ h0 = h) := by
  refine Con.of (plainFor_of_name pn3) hE ⟨b0, own_ew0 hw⟩ all0 (L0 := #[.val (.int ch)]) (fun m => by first | (simp [entryFrame, mkF, argsToLocals, Value.category]; done) | rfl) ?_
  intro p e s m args below meth c T W
  have hl := own_lwe rc
  have hr := own_lowr rc
  refine o_iloadN 1 W d7_0 rfl ?_
  refine o_bipush 3 W (65) d7_1 (by first | rfl | decide) ?_
  refine o_iclt 18 6 W d7_3 (fun c3 => ?_) (fun c3 => ?_)
  · refine o_iloadN 19 W d7_18 rfl ?_
    refine o_sipush 22 W (192) d7_19 (by first | rfl | decide) ?_
    refine o_iclt 45 25 W d7_22 (fun c22 => ?_) (fun c22 => ?_)
    · refine o_iloadN 46 W d7_45 rfl ?_
      have e : own_low ch = ch := by rw [← hl]; simp [own_lw, c3, c22]
      exact o_nret W _ (by simp) (by have q := own_nar hr; rw [e] at q ⊢; exact q) d7_46 (⟨rfl, rfl⟩)
    · refine o_iloadN 26 W d7_25 rfl ?_
      refine o_sipush 29 W (222) d7_26 (by first | rfl | decide) ?_
      refine o_icgt 45 32 W d7_29 (fun c29 => ?_) (fun c29 => ?_)
      · refine o_iloadN 46 W d7_45 rfl ?_
        have e : own_low ch = ch := by rw [← hl]; simp [own_lw, c3, c22, c29]
        exact o_nret W _ (by simp) (by have q := own_nar hr; rw [e] at q ⊢; exact q) d7_46 (⟨rfl, rfl⟩)
      · refine o_iloadN 33 W d7_32 rfl ?_
        refine o_sipush 36 W (215) d7_33 (by first | rfl | decide) ?_
        refine o_iceq 45 39 W d7_36 (fun c36 => ?_) (fun c36 => ?_)
        · refine o_iloadN 46 W d7_45 rfl ?_
          have e : own_low ch = ch := by rw [← hl]; simp [own_lw, c3, c22, c29, c36]
          exact o_nret W _ (by simp) (by have q := own_nar hr; rw [e] at q ⊢; exact q) d7_46 (⟨rfl, rfl⟩)
        · refine o_iloadN 40 W d7_39 rfl ?_
          refine o_bipush 42 W (32) d7_40 (by first | rfl | decide) ?_
          refine o_iadd 43 W d7_42 ?_
          refine o_i2c 44 W d7_43 ?_
          have e : own_low ch = ch + 32 := by rw [← hl]; simp [own_lw, c3, c22, c29, c36]
          exact o_nret W _ (by simp) (by rw [← e]; exact (own_nc _).trans (own_nar hr)) d7_44 (⟨rfl, rfl⟩)
  · refine o_iloadN 7 W d7_6 rfl ?_
    refine o_bipush 9 W (90) d7_7 (by first | rfl | decide) ?_
    refine o_icgt 18 12 W d7_9 (fun c9 => ?_) (fun c9 => ?_)
    · refine o_iloadN 19 W d7_18 rfl ?_
      refine o_sipush 22 W (192) d7_19 (by first | rfl | decide) ?_
      refine o_iclt 45 25 W d7_22 (fun c22 => ?_) (fun c22 => ?_)
      · refine o_iloadN 46 W d7_45 rfl ?_
        have e : own_low ch = ch := by rw [← hl]; simp [own_lw, c3, c9, c22]
        exact o_nret W _ (by simp) (by have q := own_nar hr; rw [e] at q ⊢; exact q) d7_46 (⟨rfl, rfl⟩)
      · refine o_iloadN 26 W d7_25 rfl ?_
        refine o_sipush 29 W (222) d7_26 (by first | rfl | decide) ?_
        refine o_icgt 45 32 W d7_29 (fun c29 => ?_) (fun c29 => ?_)
        · refine o_iloadN 46 W d7_45 rfl ?_
          have e : own_low ch = ch := by rw [← hl]; simp [own_lw, c3, c9, c22, c29]
          exact o_nret W _ (by simp) (by have q := own_nar hr; rw [e] at q ⊢; exact q) d7_46 (⟨rfl, rfl⟩)
        · refine o_iloadN 33 W d7_32 rfl ?_
          refine o_sipush 36 W (215) d7_33 (by first | rfl | decide) ?_
          refine o_iceq 45 39 W d7_36 (fun c36 => ?_) (fun c36 => ?_)
          · refine o_iloadN 46 W d7_45 rfl ?_
            have e : own_low ch = ch := by rw [← hl]; simp [own_lw, c3, c9, c22, c29, c36]
            exact o_nret W _ (by simp) (by have q := own_nar hr; rw [e] at q ⊢; exact q) d7_46 (⟨rfl, rfl⟩)
          · refine o_iloadN 40 W d7_39 rfl ?_
            refine o_bipush 42 W (32) d7_40 (by first | rfl | decide) ?_
            refine o_iadd 43 W d7_42 ?_
            refine o_i2c 44 W d7_43 ?_
            have e : own_low ch = ch + 32 := by rw [← hl]; simp [own_lw, c3, c9, c22, c29, c36]
            exact o_nret W _ (by simp) (by rw [← e]; exact (own_nc _).trans (own_nar hr)) d7_44 (⟨rfl, rfl⟩)
    · refine o_iloadN 13 W d7_12 rfl ?_
      refine o_bipush 15 W (32) d7_13 (by first | rfl | decide) ?_
      refine o_iadd 16 W d7_15 ?_
      refine o_i2c 17 W d7_16 ?_
      have e : own_low ch = ch + 32 := by rw [← hl]; simp [own_lw, c3, c9]
      exact o_nret W _ (by simp) (by rw [← e]; exact (own_nc _).trans (own_nar hr)) d7_17 (⟨rfl, rfl⟩)
theorem con_cdl (l : Launch) (Z : State) (b0 : Array Value) (hw : ∀ d ∈ tables_1, d.before b0 Z = true) (q : Addr) (ch : Int32) (h0 : Heap) (hE : Ext Z.heap h0) : Con l Z (⟨"java/lang/CharacterDataLatin1", "toLowerCase", "(I)I"⟩ : MethodName) jdk_116_method_20_code 3 (some .int) ({ frames := 0, cells := 0, slots := 0, locals := 0 } : Room) #[(.ref q), (.int ch)] h0 [] (QV fun w h => w = .int (own_low ch) ∧ h0 = h) := by
  refine Con.of (plainFor_of_name pn4) hE ⟨b0, own_ew0 hw⟩ all0 (L0 := #[.val (.ref q), .val (.int ch), .unset]) (fun m => by first | (simp [entryFrame, mkF, argsToLocals, Value.category]; done) | rfl) ?_
  intro p e s m args below meth c T W
  refine o_iloadN 1 W d13_0 rfl ?_
  refine o_bipush 3 W (65) d13_1 (by first | rfl | decide) ?_
  refine o_icge 8 6 W d13_3 (fun c3 => ?_) (fun c3 => ?_)
  · refine o_iloadN 9 W d13_8 rfl ?_
    refine o_bipush 11 W (32) d13_9 (by first | rfl | decide) ?_
    refine o_ior 12 W d13_11 ?_
    refine o_istoreN 13 W #[.val (.ref q), .val (.int ch), .val (.int (ch ||| (32 : Int32)))] d13_12 rfl ?_
    refine o_iloadN 14 W d13_13 rfl ?_
    refine o_bipush 16 W (122) d13_14 (by first | rfl | decide) ?_
    refine o_icle 40 19 W d13_16 (fun c16 => ?_) (fun c16 => ?_)
    · refine o_iloadN 41 W d13_40 rfl ?_
      exact o_iret W d13_41 (⟨by simp [own_low, c3, c16], rfl⟩)
    · refine o_iloadN 20 W d13_19 rfl ?_
      refine o_sipush 23 W (224) d13_20 (by first | rfl | decide) ?_
      refine o_iclt 42 26 W d13_23 (fun c23 => ?_) (fun c23 => ?_)
      · refine o_iloadN 43 W d13_42 rfl ?_
        exact o_iret W d13_43 (⟨by simp [own_low, c3, c16, c23], rfl⟩)
      · refine o_iloadN 27 W d13_26 rfl ?_
        refine o_sipush 30 W (254) d13_27 (by first | rfl | decide) ?_
        refine o_icgt 42 33 W d13_30 (fun c30 => ?_) (fun c30 => ?_)
        · refine o_iloadN 43 W d13_42 rfl ?_
          exact o_iret W d13_43 (⟨by simp [own_low, c3, c16, c23, c30], rfl⟩)
        · refine o_iloadN 34 W d13_33 rfl ?_
          refine o_sipush 37 W (247) d13_34 (by first | rfl | decide) ?_
          refine o_iceq 42 40 W d13_37 (fun c37 => ?_) (fun c37 => ?_)
          · refine o_iloadN 43 W d13_42 rfl ?_
            exact o_iret W d13_43 (⟨by simp [own_low, c3, c16, c23, c30, c37], rfl⟩)
          · refine o_iloadN 41 W d13_40 rfl ?_
            exact o_iret W d13_41 (⟨by simp [own_low, c3, c16, c23, c30, c37], rfl⟩)
  · refine o_iloadN 7 W d13_6 rfl ?_
    exact o_iret W d13_7 (⟨by simp [own_low, c3], rfl⟩)
theorem con_cen (l : Launch) (Z : State) (b0 : Array Value) (hw : ∀ d ∈ tables_1, d.before b0 Z = true) (ch : Int32) (rc : ¬ ch < 0 ∧ ¬ (255 : Int32) < ch) (h0 : Heap) (hE : Ext Z.heap h0) : Con l Z (⟨"java/lang/StringLatin1", "canEncode", "(I)Z"⟩ : MethodName) jdk_43_method_4_code 1 (some .boolean) ({ frames := 0, cells := 0, slots := 0, locals := 0 } : Room) #[(.int ch)] h0 [] (QV fun w h => w = .int 1 ∧ h0 = h) := by
  refine Con.of (plainFor_of_name pn2) hE ⟨b0, own_ew0 hw⟩ all0 (L0 := #[.val (.int ch)]) (fun m => by first | (simp [entryFrame, mkF, argsToLocals, Value.category]; done) | rfl) ?_
  intro p e s m args below meth c T W
  refine o_iloadN 1 W d19_0 rfl ?_
  refine o_ifN 4 W d19_1 (XT.i0_lt_f rc.1) ?_
  refine o_iloadN 5 W d19_4 rfl ?_
  refine o_sipush 8 W (255) d19_5 (by first | rfl | decide) ?_
  refine o_icN 11 W d19_8 (XT.ii_gt_f rc.2) ?_
  refine o_iconst 12 W (1) d19_11 (by first | rfl | decide) ?_
  refine o_goto 16 W d19_12 ?_
  exact o_nret W (1 : Int32) (by simp) (by decide) d19_16 (⟨rfl, rfl⟩)
theorem con_bgl (l : Launch) (Z : State) (b0 : Array Value) (hw : ∀ d ∈ tables_1, d.before b0 Z = true) (bl lg : Addr) (h0 : Heap) (hE : Ext Z.heap h0) (F : Fld Z h0 bl "sun/util/locale/BaseLocale" "language" "Ljava/lang/String;" (.ref lg)) : Con l Z (⟨"sun/util/locale/BaseLocale", "getLanguage", "()Ljava/lang/String;"⟩ : MethodName) jdk_3003_method_5_code 1 (some (.object "java/lang/String")) ({ frames := 0, cells := 0, slots := 0, locals := 0 } : Room) #[(.ref bl)] h0 [] (QV fun w h => w = .ref lg ∧ h0 = h) := by
  refine Con.of (plainFor_of_name pn5) hE ⟨b0, own_ew0 hw⟩ all0 (L0 := #[.val (.ref bl)]) (fun m => by first | (simp [entryFrame, mkF, argsToLocals, Value.category]; done) | rfl) ?_
  intro p e s m args below meth c T W
  refine o_aloadN 1 W d18_0 rfl rfl ?_
  refine o_getF 4 W (tw hw 114) F d18_1 (fun T W => ?_)
  exact o_aret W rfl rfl rfl d18_4 (⟨rfl, rfl⟩)
theorem con_lgl (l : Launch) (Z : State) (b0 : Array Value) (hw : ∀ d ∈ tables_1, d.before b0 Z = true) (lo bl lg : Addr) (h0 : Heap) (hE : Ext Z.heap h0) (F : Fld Z h0 lo "java/util/Locale" "baseLocale" "Lsun/util/locale/BaseLocale;" (.ref bl)) (G : Fld Z h0 bl "sun/util/locale/BaseLocale" "language" "Ljava/lang/String;" (.ref lg)) (EB : Exa Z h0 bl "sun/util/locale/BaseLocale") : Con l Z (⟨"java/util/Locale", "getLanguage", "()Ljava/lang/String;"⟩ : MethodName) jdk_2628_method_27_code 1 (some (.object "java/lang/String")) ({ frames := 1, cells := 0, slots := 0, locals := 16 } : Room) #[(.ref lo)] h0 [] (QV fun w h => w = .ref lg ∧ h0 = h) := by
  refine Con.of (plainFor_of_name pn6) hE ⟨b0, own_ew0 hw⟩ all0 (L0 := #[.val (.ref lo)]) (fun m => by first | (simp [entryFrame, mkF, argsToLocals, Value.category]; done) | rfl) ?_
  intro p e s m args below meth c T W
  refine o_aloadN 1 W d17_0 rfl rfl ?_
  refine o_getF 4 W (tw hw 106) F d17_1 (fun T W => ?_)
  refine o_virtual 7 [] W (tw hw 108) (tw hw 109) (tw hw 111) (tw hw 110) (tw hw 112) (tw hw 113) (EB) (con_bgl l Z b0 hw bl lg _ W.old G) pd5 d17_4 rfl all0 (fun T h v W qq gg => ?_)
  obtain ⟨_, rfl, rfl, rfl⟩ := qq
  show Go p e below _ _ (mkF m 7 #[.val (.ref lo)] [(.ref lg)])
  exact o_aret W rfl rfl rfl d17_7 (⟨rfl, rfl⟩)
theorem own_lbz : True := trivial
theorem own_ll_len : ∀ (cs : List Int32) (i : Nat), (own_ll cs i).length = cs.length
  | [], _ => rfl
  | _ :: _, 0 => rfl
  | c :: cs, i + 1 => by simp [own_ll, own_ll_len cs i]
theorem own_ll_all : ∀ (cs : List Int32), own_ll cs cs.length = cs.map own_low
  | [] => rfl
  | c :: cs => by simp [own_ll, own_ll_all cs]
theorem own_low_id {cs : List Int32} (h : ∀ k, k < cs.length → own_low (cs.getD k 0) = cs.getD k 0) : cs.map own_low = cs := by
  apply List.ext_getElem (by simp)
  intro i h1 h2
  have q := h i h2
  rw [List.getD_eq_getElem?_getD, List.getElem?_eq_getElem h2] at q
  simpa using q
/-- the byte list: the first i lowered, the others still 0 -/
def own_lb : List Int32 → Nat → List Value
  | [], _ => []
  | _ :: cs, 0 => .int 0 :: own_lb cs 0
  | c :: cs, i + 1 => .int (own_b (own_low c)) :: own_lb cs i
theorem own_lb_len : ∀ (cs : List Int32) (i : Nat), (own_lb cs i).length = cs.length
  | [], _ => rfl
  | _ :: cs, 0 => by simp [own_lb, own_lb_len cs 0]
  | _ :: cs, i + 1 => by simp [own_lb, own_lb_len cs i]
theorem own_lb_set : ∀ (cs : List Int32) (i : Nat), i < cs.length → (own_lb cs i).set i (.int (own_b (own_low (cs.getD i 0)))) = own_lb cs (i + 1)
  | [], _, h => absurd h (Nat.not_lt_zero _)
  | c :: cs, 0, _ => by simp [own_lb]
  | c :: cs, i + 1, h => by
    have q := own_lb_set cs i (by simpa using h)
    simp only [own_lb, List.set_cons_succ, List.getD_cons_succ, q]
theorem own_lb_all : ∀ (cs : List Int32), own_lb cs cs.length = (cs.map own_low).map fun c => .int (own_b c)
  | [] => rfl
  | c :: cs => by simp [own_lb, own_lb_all cs]
theorem own_lb_rep : ∀ (cs : List Int32), own_lb cs 0 = List.replicate cs.length (.int 0)
  | [] => rfl
  | c :: cs => by simp [own_lb, own_lb_rep cs, List.replicate_succ]
theorem own_lb_lo : ∀ (cs : List Int32) (f i : Nat), i < f → i < cs.length → (own_lb cs f)[i]? = some (.int (own_b (own_low (cs.getD i 0))))
  | [], _, _, _, h => absurd h (Nat.not_lt_zero _)
  | c :: cs, 0, _, h, _ => absurd h (Nat.not_lt_zero _)
  | c :: cs, f + 1, 0, _, _ => by simp [own_lb]
  | c :: cs, f + 1, i + 1, h, h' => by
    have q := own_lb_lo cs f i (by omega) (by simpa using h')
    simp only [own_lb, List.getElem?_cons_succ, List.getD_cons_succ]; exact q
theorem own_lb_hi : ∀ (cs : List Int32) (f i : Nat), f ≤ i → (own_lb cs f)[i]? = if i < cs.length then some (.int 0) else none
  | [], _, i, _ => by simp [own_lb]
  | c :: cs, 0, 0, _ => by simp [own_lb]
  | c :: cs, 0, i + 1, _ => by
    have q := own_lb_hi cs 0 i (Nat.zero_le _)
    simp only [own_lb, List.getElem?_cons_succ, List.length_cons, Nat.add_lt_add_iff_right]; exact q
  | c :: cs, f + 1, 0, h => absurd h (by omega)
  | c :: cs, f + 1, i + 1, h => by
    have q := own_lb_hi cs f i (by omega)
    simp only [own_lb, List.getElem?_cons_succ, List.length_cons, Nat.add_lt_add_iff_right]; exact q
theorem own_lb_copy : ∀ (cs : List Int32) (f : Nat), f ≤ cs.length → (∀ k, k < f → own_low (cs.getD k 0) = cs.getD k 0) → ((List.range f).map fun i => (cs.map fun c => Value.int (own_b c)).getD (0 + i) (.int 0)) ++ (own_lb cs 0).drop f = own_lb cs f := by
  intro cs f hf h
  apply List.ext_getElem?
  intro i
  by_cases hi : i < f
  · rw [List.getElem?_append_left (by simpa using hi)]
    have e : (own_lb cs f)[i]? = some (.int (own_b (own_low (cs.getD i 0)))) := own_lb_lo cs f i hi (by omega)
    rw [e, h i hi]
    simp only [List.getElem?_map, List.getElem?_range hi, Option.map_some, Nat.zero_add]
    rw [own_gb]
  · rw [List.getElem?_append_right (by simpa using Nat.le_of_not_lt hi)]
    simp only [List.length_map, List.length_range, List.getElem?_drop]
    rw [show f + (i - f) = i by omega, own_lb_hi cs 0 i (Nat.zero_le _), own_lb_hi cs f i (by omega)]
theorem con_ltl (l : Launch) (Z : State) (b0 : Array Value) (hw : ∀ d ∈ tables_1, d.before b0 Z = true) (a : Addr) (d : Addr) (k : ClassId) (n : Int32) (cs : List Int32) (l1 : n.toNatClampNeg = cs.length) (hbig : cs.length ≤ 16) (hc : own_ch cs) (lo bl lg : Addr) (EL0 : Exa Z Z.heap lo "java/util/Locale") (EB : Exa Z Z.heap bl "sun/util/locale/BaseLocale") (GB : Fld Z Z.heap lo "java/util/Locale" "baseLocale" "Lsun/util/locale/BaseLocale;" (.ref bl)) (GL : Fld Z Z.heap bl "sun/util/locale/BaseLocale" "language" "Ljava/lang/String;" (.ref lg)) (XL : Str Z Z.heap lg []) (qi : Addr) (SQ : Sta Z Z.heap "java/lang/CharacterDataLatin1" "instance" "Ljava/lang/CharacterDataLatin1;" (.ref qi)) (EQ : Exa Z Z.heap qi "java/lang/CharacterDataLatin1") (h0 : Heap) (hE : Ext Z.heap h0) (X : Str Z h0 a cs) (A1 : Arv Z h0 d k .byte n (cs.map fun c => .int (own_b c)) (.int 0)) : Con l Z (⟨"java/lang/StringLatin1", "toLowerCase", "(Ljava/lang/String;[BLjava/util/Locale;)Ljava/lang/String;"⟩ : MethodName) jdk_43_method_32_code 9 (some (.object "java/lang/String")) ({ frames := 3, cells := 8, slots := 64, locals := 120 } : Room) #[(.ref a), (.ref d), (.ref lo)] h0 [] (QV fun w h => ∃ o, w = .ref o ∧ Str Z h o (cs.map own_low) ∧ Ext h0 h) := by
  refine Con.of (plainFor_of_name pn2) hE ⟨b0, own_ew0 hw⟩ all0 (L0 := #[.val (.ref a), .val (.ref d), .val (.ref lo), .unset, .unset, .unset, .unset, .unset, .unset]) (fun m => by first | (simp [entryFrame, mkF, argsToLocals, Value.category]; done) | rfl) ?_
  intro p e s m args below meth c T W
  have hn0 : ¬ n < 0 := by obtain ⟨cl, B1, B2, B3, B4, B5, B6⟩ := A1; exact B4
  have hnI := own_n hn0 l1
  refine o_aloadN 1 W d12_0 rfl rfl ?_
  refine o_nnY 12 W d12_1 ?_
  refine o_aloadN 13 W d12_12 rfl rfl ?_
  refine o_alenV 14 W A1 d12_13 ?_
  refine o_istore 16 W #[.val (.ref a), .val (.ref d), .val (.ref lo), .unset, .val (.int n), .unset, .unset, .unset, .unset] d12_14 rfl ?_
  refine o_iconst 17 W (0) d12_16 (by first | rfl | decide) ?_
  refine o_istoreN 18 W #[.val (.ref a), .val (.ref d), .val (.ref lo), .val (.int (0 : Int32)), .val (.int n), .unset, .unset, .unset, .unset] d12_17 rfl ?_
  have tail : ∀ (i : Nat) (x : Int32) (T : State) (s5 : Slot), x.toInt = i → i ≤ cs.length → (∀ k, k < i → own_low (cs.getD k 0) = cs.getD k 0) → (s5 = .unset ∨ ∃ w, s5 = .val w ∧ w.category = 1) → Wk p l e ({ frames := 3, cells := 8, slots := 64, locals := 120 } : Room) s m args below meth c Z (⟨"java/lang/StringLatin1", "toLowerCase", "(Ljava/lang/String;[BLjava/util/Locale;)Ljava/lang/String;"⟩ : MethodName) jdk_43_method_32_code 9 (some (.object "java/lang/String")) T h0 0 0 [] → Go p e below (Gd s below Z (QV fun w h => ∃ o, w = .ref o ∧ Str Z h o (cs.map own_low) ∧ Ext h0 h) (({ frames := 3, cells := 8, slots := 64, locals := 120 } : Room)).cells (({ frames := 3, cells := 8, slots := 64, locals := 120 } : Room)).slots) T (mkF m 55 #[.val (.ref a), .val (.ref d), .val (.ref lo), .val (.int x), .val (.int n), s5, .unset, .unset, .unset] []) := by
    intro i x T s5 hx hi hk h5 W
    refine o_iloadN 56 W d12_55 rfl ?_
    refine o_iload 58 W d12_56 rfl ?_
    refine o_icne 63 61 W d12_58 (fun c58 => ?_) (fun c58 => ?_)
    · have hlt : i < cs.length := Nat.lt_of_le_of_ne hi (fun ei => c58 (Int32.toInt_inj.mp (show x.toInt = n.toInt by rw [hx, hnI, ei])))
      refine o_aloadN 64 W d12_63 rfl rfl ?_
      refine o_virtual 67 [] W (tw hw 101) (tw hw 102) (tw hw 104) (tw hw 103) (tw hw 51) (tw hw 105) ((EL0.ext W.old)) (con_lgl l Z b0 hw lo bl lg _ W.old (GB.ext W.old) (GL.ext W.old) (EB.ext W.old)) pd5 d12_64 rfl all0 (fun T h v W qq gg => ?_)
      obtain ⟨_, rfl, rfl, rfl⟩ := qq
      show Go p e below _ _ (mkF m 67 #[.val (.ref a), .val (.ref d), .val (.ref lo), .val (.int x), .val (.int n), s5, .unset, .unset, .unset] [(.ref lg)])
      refine o_astore 69 W #[.val (.ref a), .val (.ref d), .val (.ref lo), .val (.int x), .val (.int n), .val (.ref lg), .unset, .unset, .unset] d12_67 rfl (by first | exact XS.store1 rfl h5 rfl | (rcases h5 with rfl | ⟨w, rfl, hw5⟩ <;> first | rfl | simp [storeLocals, storeSelf, setAt, hw5])) ?_
      have EA := own_ext_refl h0
      refine o_aload 71 W d12_69 rfl rfl ?_
      refine o_ldcC 73 8 W (vs := [.int 116, .int 114]) (z := 2) (fun q => q) (tw hw 116) (own_wS hw) (by first | (simp [own_EL]; done) | simp [own_EL, x]) (by decide) (by decide) rfl d12_71 (by decide) (fun T h t bt kt W Et Xt Ct Vt At nt => ?_)
      have Yt : Str Z h t [116, 114] := ⟨Xt, Ct, bt, kt, 2, Vt, by exact At, rfl⟩
      have EA := own_ext_trans EA Et
      have net : ¬ (Value.ref lg = Value.ref t) := fun e => by injection e with e; subst e; exact absurd ((XL.ext W.old).inj Yt own_ch0 (own_chS (by decide) (own_chS (by decide) own_ch0))) (by decide)
      refine o_aceq 90 76 W rfl rfl d12_73 (fun c73 => ?_) (fun c73 => ?_)
      · exact absurd c73 net
      · refine o_aload 78 W d12_76 rfl rfl ?_
        refine o_ldcC 80 8 W (vs := [.int 97, .int 122]) (z := 2) (fun q => q) (tw hw 117) (own_wS hw) (by first | (simp [own_EL]; done) | simp [own_EL, x]) (by decide) (by decide) rfl d12_78 (by decide) (fun T h z bz kz W Ez Xz Cz Vz Az nz => ?_)
        have Yz : Str Z h z [97, 122] := ⟨Xz, Cz, bz, kz, 2, Vz, by exact Az, rfl⟩
        have EA := own_ext_trans EA Ez
        have nez : ¬ (Value.ref lg = Value.ref z) := fun e => by injection e with e; subst e; exact absurd ((XL.ext W.old).inj Yz own_ch0 (own_chS (by decide) (own_chS (by decide) own_ch0))) (by decide)
        refine o_aceq 90 83 W rfl rfl d12_80 (fun c80 => ?_) (fun c80 => ?_)
        · exact absurd c80 nez
        · refine o_aload 85 W d12_83 rfl rfl ?_
          refine o_ldcC 87 8 W (vs := [.int 108, .int 116]) (z := 2) (fun q => q) (tw hw 118) (own_wS hw) (by first | (simp [own_EL]; done) | simp [own_EL, x]) (by decide) (by decide) rfl d12_85 (by decide) (fun T h u bu ku W Eu Xu Cu Vu Au nu => ?_)
          have Yu : Str Z h u [108, 116] := ⟨Xu, Cu, bu, ku, 2, Vu, by exact Au, rfl⟩
          have EA := own_ext_trans EA Eu
          have neu : ¬ (Value.ref lg = Value.ref u) := fun e => by injection e with e; subst e; exact absurd ((XL.ext W.old).inj Yu own_ch0 (own_chS (by decide) (own_chS (by decide) own_ch0))) (by decide)
          refine o_acne 99 90 W rfl rfl d12_87 (fun c87 => ?_) (fun c87 => ?_)
          · have A1 := A1.ext EA
            have X := X.ext EA
            refine o_iload 101 W d12_99 rfl ?_
            refine o_newarray 103 16 W (tw hw 23) d12_101 hn0 (by omega) (fun T h o ko W Eo Ao go zo => ?_)
            have hdo : d ≠ o := Nat.ne_of_lt (Nat.lt_of_lt_of_le A1.lt go)
            have h0o : h0.size ≤ o := Nat.le_trans EA.1 go
            have A1 := A1.ext Eo
            have Ao := own_pad cs.length Ao
            have EA := own_ext_trans EA Eo
            refine o_astore 105 W #[.val (.ref a), .val (.ref d), .val (.ref lo), .val (.int x), .val (.int n), .val (.ref lg), .val (.ref o), .unset, .unset] d12_103 rfl rfl ?_
            refine o_aloadN 106 W d12_105 rfl rfl ?_
            refine o_iconst 107 W (0) d12_106 (by first | rfl | decide) ?_
            refine o_aload 109 W d12_107 rfl rfl ?_
            refine o_iconst 110 W (0) d12_109 (by first | rfl | decide) ?_
            refine o_iloadN 111 W d12_110 rfl ?_
            refine o_arraycopy 114 W (tw hw 119) (tw hw 122) (tw hw 120) (tw hw 121) A1 Ao rfl (by decide) (by decide) (own_nn hx) (by rw [own_cl hx, l1]; show 0 + _ ≤ _; omega) (by rw [own_cl hx, l1]; show 0 + _ ≤ _; omega) rfl (by rw [own_cl hx]; simp; exact hi) (by simp) zo d12_111 (fun T h W Kc Ac => ?_)
            have e0 : (0 : Int32).toNatClampNeg = 0 := rfl
            have Ac : Arv Z h o ko .byte n (own_lb cs i) (.int 0) := by rw [own_cl hx, e0, List.take_zero, List.nil_append, Nat.zero_add, show List.replicate cs.length (defaultValue (newarray.typeOf .byte)) = own_lb cs 0 from (own_lb_rep cs).symm, own_lb_copy cs i hi hk] at Ac; exact Ac
            have A1 := A1.keep Kc (ninS hdo nin0)
            have EA3 := own_ext_keep EA Kc h0o
            refine o_iloadN 115 W d12_114 rfl ?_
            refine o_istore 117 W #[.val (.ref a), .val (.ref d), .val (.ref lo), .val (.int x), .val (.int n), .val (.ref lg), .val (.ref o), .val (.int x), .unset] d12_115 rfl ?_
            have loop : ∀ (r j : Nat) (y : Int32) (T : State) (h : Heap) (s8 : Slot), j + r = cs.length → y.toInt = j → (s8 = .unset ∨ ∃ w, s8 = .val w ∧ w.category = 1) → Wk p l e ({ frames := 3, cells := 8, slots := 64, locals := 120 } : Room) s m args below meth c Z (⟨"java/lang/StringLatin1", "toLowerCase", "(Ljava/lang/String;[BLjava/util/Locale;)Ljava/lang/String;"⟩ : MethodName) jdk_43_method_32_code 9 (some (.object "java/lang/String")) T h (0 + 2 + 2 + 2 + 1) (0 + (8 + 4) + (8 + 4) + (8 + 4) + 16) [o] → Arv Z h d k .byte n (cs.map fun c => .int (own_b c)) (.int 0) → Arv Z h o ko .byte n (own_lb cs j) (.int 0) → Ext h0 h → Go p e below (Gd s below Z (QV fun w h => ∃ o, w = .ref o ∧ Str Z h o (cs.map own_low) ∧ Ext h0 h) (({ frames := 3, cells := 8, slots := 64, locals := 120 } : Room)).cells (({ frames := 3, cells := 8, slots := 64, locals := 120 } : Room)).slots) T (mkF m 117 #[.val (.ref a), .val (.ref d), .val (.ref lo), .val (.int x), .val (.int n), .val (.ref lg), .val (.ref o), .val (.int y), s8] []) := by
              intro r
              induction r with
              | zero =>
                intro j y T h s8 hj hy h8 W A1 Ac EA
                refine o_iload 119 W d12_117 rfl ?_
                refine o_iload 121 W d12_119 rfl ?_
                refine o_icY 175 W d12_121 (XT.ii_ge_t (own_geI hy hnI (by omega))) ?_
                rw [show j = cs.length by omega, own_lb_all] at Ac
                refine o_new 178 W (tw hw 126) (tw hw 5) (tw hw 6) d12_175 (fun T h q W Eq Aq Dq gq zq => ?_)
                have Pq := Dq (Or.inr (tw hw 33)) (ty := .array .byte) (by decide)
                have Cq := Dq (Or.inr (tw hw 31)) (ty := .byte) (by decide)
                have Ac1 := Ac.ext Eq
                refine o_dup 179 W d12_178 rfl ?_
                refine o_aload 181 W d12_179 rfl rfl ?_
                refine o_iconst 182 W (0) d12_181 (by first | rfl | decide) ?_
                refine o_special 185 [(.ref o), (.int (0 : Int32))] W (tw hw 127) (tw hw 128) (tw hw 6) (tw hw 129) (con_sbb l Z b0 hw q o ko n _ (by rw [l1]; simp) _ W.old Ac1 (Nat.ne_of_lt (Nat.lt_of_lt_of_le Ac.lt gq)) Aq Pq Cq zq) pd6 d12_182 rfl (by simp) (fun T h v W qq gg => ?_)
                obtain ⟨rfl, Kq, Xq⟩ := qq
                show Go p e below _ _ (mkF m 185 #[.val (.ref a), .val (.ref d), .val (.ref lo), .val (.int x), .val (.int n), .val (.ref lg), .val (.ref o), .val (.int y), s8] [(.ref q)])
                exact o_aret W rfl rfl rfl d12_185 (⟨q, rfl, Xq, own_ext_keep (own_ext_trans EA Eq) Kq (Nat.le_trans EA.1 gq)⟩)
              | succ r ih =>
                intro j y T h s8 hj hy h8 W A1 Ac EA
                have hlt2 : j < cs.length := by omega
                have hr := hc _ (own_gm cs j hlt2)
                have hin := And.intro (own_nn hy) (own_ltI hy hnI hlt2)
                refine o_iload 119 W d12_117 rfl ?_
                refine o_iload 121 W d12_119 rfl ?_
                refine o_icN 124 W d12_121 (XT.ii_ge_f (own_ltI hy hnI hlt2)) ?_
                refine o_aloadN 125 W d12_124 rfl rfl ?_
                refine o_iload 127 W d12_125 rfl ?_
                refine o_baloadV 128 W A1 hin ((congrArg (fun z => (cs.map fun c => Value.int (own_b c)).getD z (.int 0)) (own_cl hy)).trans (own_gb cs j)) d12_127 ?_
                refine o_sipush 131 W (255) d12_128 (by first | rfl | decide) ?_
                refine o_iand 132 W d12_131 ?_
                rw [own_b_back hr]
                show Go p e below _ _ (mkF m 132 #[.val (.ref a), .val (.ref d), .val (.ref lo), .val (.int x), .val (.int n), .val (.ref lg), .val (.ref o), .val (.int y), s8] [(.int (cs.getD j 0))])
                refine o_istore 134 W #[.val (.ref a), .val (.ref d), .val (.ref lo), .val (.int x), .val (.int n), .val (.ref lg), .val (.ref o), .val (.int y), .val (.int (cs.getD j 0))] d12_132 (by first | exact XS.store1 rfl h8 rfl | (rcases h8 with rfl | ⟨w, rfl, hw8⟩ <;> first | rfl | simp [storeLocals, storeSelf, setAt, hw8])) ?_
                refine o_getS 137 W (tw hw 66) SQ d12_134 fun T W => ?_
                refine o_iload 139 W d12_137 rfl ?_
                refine o_virtual 142 [(.int (cs.getD j 0))] W (tw hw 68) (tw hw 69) (tw hw 71) (tw hw 70) (tw hw 67) (tw hw 72) ((EQ.ext W.old)) (con_cdl l Z b0 hw qi _ _ W.old) pd7 d12_139 rfl all0 (fun T h v W qq gg => ?_)
                obtain ⟨_, rfl, rfl, rfl⟩ := qq
                show Go p e below _ _ (mkF m 142 #[.val (.ref a), .val (.ref d), .val (.ref lo), .val (.int x), .val (.int n), .val (.ref lg), .val (.ref o), .val (.int y), .val (.int (cs.getD j 0))] [(.int (own_low (cs.getD j 0)))])
                refine o_istore 144 W #[.val (.ref a), .val (.ref d), .val (.ref lo), .val (.int x), .val (.int n), .val (.ref lg), .val (.ref o), .val (.int y), .val (.int (own_low (cs.getD j 0)))] d12_142 rfl ?_
                refine o_iload 146 W d12_144 rfl ?_
                refine o_static 149 [(.int (own_low (cs.getD j 0)))] W (tw hw 123) (tw hw 124) (tw hw 64) (tw hw 125) (con_cen l Z b0 hw _ (own_lowr hr) _ W.old) pd8 d12_146 rfl all0 (fun T h v W qq gg => ?_)
                obtain ⟨_, rfl, rfl, rfl⟩ := qq
                show Go p e below _ _ (mkF m 149 #[.val (.ref a), .val (.ref d), .val (.ref lo), .val (.int x), .val (.int n), .val (.ref lg), .val (.ref o), .val (.int y), .val (.int (own_low (cs.getD j 0)))] [(.int (1 : Int32))])
                refine o_ifY 161 W d12_149 (by decide) ?_
                refine o_aload 163 W d12_161 rfl rfl ?_
                refine o_iload 165 W d12_163 rfl ?_
                refine o_iload 167 W d12_165 rfl ?_
                refine o_i2b 168 W d12_167 ?_
                refine o_bastore 169 j W Ac hin (own_cl hy) (by rw [own_lb_len]; exact hlt2) (List.mem_singleton.mpr rfl) zo d12_168 (fun T h W w1 Ac => ?_)
                have Ac : Arv Z h o ko .byte n (own_lb cs (j + 1)) (.int 0) := by rw [← own_lb_set cs j hlt2, ← own_bb]; exact Ac
                refine o_iinc 172 W (y + (1 : Int32)) #[.val (.ref a), .val (.ref d), .val (.ref lo), .val (.int x), .val (.int n), .val (.ref lg), .val (.ref o), .val (.int (y + (1 : Int32))), .val (.int (own_low (cs.getD j 0)))] d12_169 rfl rfl rfl ?_
                refine o_goto 117 W d12_172 ?_
                exact ih (j + 1) (y + 1) T h _ (by omega) (own_inc1 hy (by omega)) (Or.inr ⟨_, rfl, rfl⟩) W (A1.other w1 hdo) Ac (own_ext_wr EA w1 h0o)
            exact loop (cs.length - i) i x T h _ (by omega) hx (Or.inl rfl) (W.drop (by simp)) A1 Ac EA3
          · exact absurd c87 neu
    · refine o_aloadN 62 W d12_61 rfl rfl ?_
      have e : i = cs.length := by rw [c58] at hx; omega
      subst e
      exact o_aret W rfl rfl rfl d12_62 (⟨a, rfl, by rw [own_low_id hk]; exact X, own_ext_refl _⟩)
  have scan : ∀ (r i : Nat) (x : Int32) (T : State) (s5 : Slot), i + r = cs.length → x.toInt = i → (∀ k, k < i → own_low (cs.getD k 0) = cs.getD k 0) → (s5 = .unset ∨ ∃ w, s5 = .val w ∧ w.category = 1) → Wk p l e ({ frames := 3, cells := 8, slots := 64, locals := 120 } : Room) s m args below meth c Z (⟨"java/lang/StringLatin1", "toLowerCase", "(Ljava/lang/String;[BLjava/util/Locale;)Ljava/lang/String;"⟩ : MethodName) jdk_43_method_32_code 9 (some (.object "java/lang/String")) T h0 0 0 [] → Go p e below (Gd s below Z (QV fun w h => ∃ o, w = .ref o ∧ Str Z h o (cs.map own_low) ∧ Ext h0 h) (({ frames := 3, cells := 8, slots := 64, locals := 120 } : Room)).cells (({ frames := 3, cells := 8, slots := 64, locals := 120 } : Room)).slots) T (mkF m 18 #[.val (.ref a), .val (.ref d), .val (.ref lo), .val (.int x), .val (.int n), s5, .unset, .unset, .unset] []) := by
    intro r
    induction r with
    | zero =>
      intro i x T s5 hi hx hk h5 W
      refine o_iloadN 19 W d12_18 rfl ?_
      refine o_iload 21 W d12_19 rfl ?_
      refine o_icY 55 W d12_21 (XT.ii_ge_t (own_geI hx hnI (by omega))) ?_
      exact tail i x T s5 hx (by omega) hk h5 W
    | succ r ih =>
      intro i x T s5 hi hx hk h5 W
      have hlt : i < cs.length := by omega
      have hr := hc _ (own_gm cs i hlt)
      refine o_iloadN 19 W d12_18 rfl ?_
      refine o_iload 21 W d12_19 rfl ?_
      refine o_icN 24 W d12_21 (XT.ii_ge_f (own_ltI hx hnI hlt)) ?_
      refine o_aloadN 25 W d12_24 rfl rfl ?_
      refine o_iloadN 26 W d12_25 rfl ?_
      refine o_baloadV 27 W A1 ⟨own_nn hx, own_ltI hx hnI hlt⟩ ((congrArg (fun z => (cs.map fun c => Value.int (own_b c)).getD z (.int 0)) (own_cl hx)).trans (own_gb cs i)) d12_26 ?_
      refine o_sipush 30 W (255) d12_27 (by first | rfl | decide) ?_
      refine o_iand 31 W d12_30 ?_
      rw [own_b_back hr]
      show Go p e below _ _ (mkF m 31 #[.val (.ref a), .val (.ref d), .val (.ref lo), .val (.int x), .val (.int n), s5, .unset, .unset, .unset] [(.int (cs.getD i 0))])
      refine o_istore 33 W #[.val (.ref a), .val (.ref d), .val (.ref lo), .val (.int x), .val (.int n), .val (.int (cs.getD i 0)), .unset, .unset, .unset] d12_31 (by first | exact XS.store1 rfl h5 rfl | (rcases h5 with rfl | ⟨w, rfl, hw5⟩ <;> first | rfl | simp [storeLocals, storeSelf, setAt, hw5])) ?_
      refine o_iload 35 W d12_33 rfl ?_
      refine o_getS 38 W (tw hw 66) SQ d12_35 fun T W => ?_
      refine o_iload 40 W d12_38 rfl ?_
      refine o_virtual 43 [(.int (cs.getD i 0))] W (tw hw 68) (tw hw 69) (tw hw 71) (tw hw 70) (tw hw 67) (tw hw 72) ((EQ.ext W.old)) (con_cdl l Z b0 hw qi _ _ W.old) pd7 d12_40 rfl all0 (fun T h v W qq gg => ?_)
      obtain ⟨_, rfl, rfl, rfl⟩ := qq
      show Go p e below _ _ (mkF m 43 #[.val (.ref a), .val (.ref d), .val (.ref lo), .val (.int x), .val (.int n), .val (.int (cs.getD i 0)), .unset, .unset, .unset] [(.int (own_low (cs.getD i 0))), (.int (cs.getD i 0))])
      refine o_iceq 49 46 W d12_43 (fun c43 => ?_) (fun c43 => ?_)
      · refine o_iinc 52 W (x + (1 : Int32)) #[.val (.ref a), .val (.ref d), .val (.ref lo), .val (.int (x + (1 : Int32))), .val (.int n), .val (.int (cs.getD i 0)), .unset, .unset, .unset] d12_49 rfl rfl rfl ?_
        refine o_goto 18 W d12_52 ?_
        exact ih (i + 1) (x + 1) T _ (by omega) (own_inc1 hx (by omega)) (fun k hk2 => if z : k < i then hk k z else (by obtain rfl : k = i := (by omega); exact c43.symm)) (Or.inr ⟨_, rfl, rfl⟩) W
      · refine o_goto 55 W d12_46 ?_
        exact tail i x T _ hx (by omega) hk (Or.inr ⟨_, rfl, rfl⟩) W
  exact scan cs.length 0 0 T _ (by omega) rfl (fun k hk => absurd hk (Nat.not_lt_zero _)) (Or.inl rfl) W
theorem con_stl (l : Launch) (Z : State) (b0 : Array Value) (hw : ∀ d ∈ tables_1, d.before b0 Z = true) (a : Addr) (cs : List Int32) (hbig : cs.length ≤ 16) (hc : own_ch cs) (lo bl lg : Addr) (EL0 : Exa Z Z.heap lo "java/util/Locale") (EB : Exa Z Z.heap bl "sun/util/locale/BaseLocale") (GB : Fld Z Z.heap lo "java/util/Locale" "baseLocale" "Lsun/util/locale/BaseLocale;" (.ref bl)) (GL : Fld Z Z.heap bl "sun/util/locale/BaseLocale" "language" "Ljava/lang/String;" (.ref lg)) (XL : Str Z Z.heap lg []) (qi : Addr) (SQ : Sta Z Z.heap "java/lang/CharacterDataLatin1" "instance" "Ljava/lang/CharacterDataLatin1;" (.ref qi)) (EQ : Exa Z Z.heap qi "java/lang/CharacterDataLatin1") (h0 : Heap) (hE : Ext Z.heap h0) (X : Str Z h0 a cs) (cz : Int32) (hcz : ¬ cz = 0) (SC : Sta Z Z.heap "java/lang/String" "COMPACT_STRINGS" "Z" (.int cz)) : Con l Z (⟨"java/lang/String", "toLowerCase", "(Ljava/util/Locale;)Ljava/lang/String;"⟩ : MethodName) jdk_42_method_109_code 2 (some (.object "java/lang/String")) ({ frames := 4, cells := 8, slots := 64, locals := 144 } : Room) #[(.ref a), (.ref lo)] h0 [] (QV fun w h => ∃ o, w = .ref o ∧ Str Z h o (cs.map own_low) ∧ Ext h0 h) := by
  refine Con.of (plainFor_of_name pn1) hE ⟨b0, own_ew0 hw⟩ all0 (L0 := #[.val (.ref a), .val (.ref lo)]) (fun m => by first | (simp [entryFrame, mkF, argsToLocals, Value.category]; done) | rfl) ?_
  intro p e s m args below meth c T W
  have X2 := X
  obtain ⟨E1, C1, d, k, n, V1, A1, l1⟩ := X2
  refine o_aloadN 1 W d10_0 rfl rfl ?_
  refine o_virtual 4 [] W (tw hw 57) (tw hw 58) (tw hw 60) (tw hw 59) (tw hw 6) (tw hw 61) (E1) (con_lat l Z b0 hw a _ W.old C1 cz hcz SC) pd9 d10_1 rfl all0 (fun T h v W qq gg => ?_)
  obtain ⟨_, rfl, rfl, rfl⟩ := qq
  show Go p e below _ _ (mkF m 4 #[.val (.ref a), .val (.ref lo)] [(.int (1 : Int32))])
  refine o_ifN 7 W d10_4 (by decide) ?_
  refine o_aloadN 8 W d10_7 rfl rfl ?_
  refine o_aloadN 9 W d10_8 rfl rfl ?_
  refine o_getF 12 W (tw hw 32) V1 d10_9 (fun T W => ?_)
  refine o_aloadN 13 W d10_12 rfl rfl ?_
  refine o_static 16 [(.ref a), (.ref d), (.ref lo)] W (tw hw 62) (tw hw 63) (tw hw 64) (tw hw 65) (con_ltl l Z b0 hw a d k n cs l1 hbig hc lo bl lg EL0 EB GB GL XL qi SQ EQ _ W.old X A1) pd10 d10_13 rfl all0 (fun T h v W qq gg => ?_)
  obtain ⟨_, rfl, o, rfl, Xo, Eo⟩ := qq
  show Go p e below _ _ (mkF m 16 #[.val (.ref a), .val (.ref lo)] [(.ref o)])
  refine o_goto 28 W d10_16 ?_
  exact o_aret W rfl rfl rfl d10_28 (⟨o, rfl, Xo, Eo⟩)
theorem con_rin (l : Launch) (Z : State) (b0 : Array Value) (hw : ∀ d ∈ tables_1, d.before b0 Z = true) (a : Addr) (h0 : Heap) (hE : Ext Z.heap h0) : Con l Z (⟨"java/lang/Record", "<init>", "()V"⟩ : MethodName) jdk_30_method_1_code 1 none ({ frames := 1, cells := 0, slots := 0, locals := 12 } : Room) #[(.ref a)] h0 [] (Q0 fun h => h0 = h) := by
  refine Con.of (plainFor_of_name pn7) hE ⟨b0, own_ew0 hw⟩ all0 (L0 := #[.val (.ref a)]) (fun m => by first | (simp [entryFrame, mkF, argsToLocals, Value.category]; done) | rfl) ?_
  intro p e s m args below meth c T W
  refine o_aloadN 1 W d9_0 rfl rfl ?_
  refine o_initO 4 W (tw hw 49) (tw hw 16) (tw hw 17) d9_1 (fun T W => ?_)
  exact o_ret W d9_4 (rfl)
theorem own_strwr {Z : State} {h h' : Heap} {a f : Addr} {cs : List Int32} {C : String} {sl : Nat} {v : Value} {b0 : Array Value} {k : Nat} (X : Str Z h f cs) (A : Exa Z h a C) (W : Wr h h' a sl v) (wi : (Jvm.Cond.instantiable C k).before b0 Z = true) (hne : C ≠ "java/lang/String") : Str Z h' f cs := by
  obtain ⟨h1, h2, b, kb, n, h3, h4, h5⟩ := X
  have ne : f ≠ a := ne_exa h1 A (Ne.symm hne)
  have nb : b ≠ a := fun e => by
    obtain ⟨c, A1, -⟩ := h4
    exact ne_arr A wi A1 e.symm
  exact ⟨h1.wr W, h2.other W (Or.inl ne), b, kb, n, h3.other W (Or.inl ne), h4.other W nb, h5⟩
theorem con_ain (l : Launch) (Z : State) (b0 : Array Value) (hw : ∀ d ∈ tables_1, d.before b0 Z = true) (a kd t : Addr) (cs : List Int32) (hbig : cs.length ≤ 16) (hc : own_ch cs) (lo bl lg : Addr) (EL0 : Exa Z Z.heap lo "java/util/Locale") (EB : Exa Z Z.heap bl "sun/util/locale/BaseLocale") (GB : Fld Z Z.heap lo "java/util/Locale" "baseLocale" "Lsun/util/locale/BaseLocale;" (.ref bl)) (GL : Fld Z Z.heap bl "sun/util/locale/BaseLocale" "language" "Ljava/lang/String;" (.ref lg)) (XL : Str Z Z.heap lg []) (qi : Addr) (SQ : Sta Z Z.heap "java/lang/CharacterDataLatin1" "instance" "Ljava/lang/CharacterDataLatin1;" (.ref qi)) (EQ : Exa Z Z.heap qi "java/lang/CharacterDataLatin1") (SR : Sta Z Z.heap "java/util/Locale" "ROOT" "Ljava/util/Locale;" (.ref lo)) (h0 : Heap) (hE : Ext Z.heap h0) (X : Str Z h0 t cs) (A : Exa Z h0 a "com/example/gatewarden/gatewarden/access/Assignee") (F1 : Fld Z h0 a "com/example/gatewarden/gatewarden/access/Assignee" "kind" "Lcom/example/gatewarden/gatewarden/access/Assignee$Kind;" .null) (F2 : Fld Z h0 a "com/example/gatewarden/gatewarden/access/Assignee" "name" "Ljava/lang/String;" .null) (za : Z.heap.size ≤ a) (cz : Int32) (hcz : ¬ cz = 0) (SC : Sta Z Z.heap "java/lang/String" "COMPACT_STRINGS" "Z" (.int cz)) : Con l Z (⟨"com/example/gatewarden/gatewarden/access/Assignee", "<init>", "(Lcom/example/gatewarden/gatewarden/access/Assignee$Kind;Ljava/lang/String;)V"⟩ : MethodName) prog_1_method_1_code 3 none ({ frames := 5, cells := 8, slots := 64, locals := 160 } : Room) #[(.ref a), (.ref kd), (.ref t)] h0 [] (Q0 fun h => Keep h0 h [a] ∧ Exa Z h a "com/example/gatewarden/gatewarden/access/Assignee" ∧ Fld Z h a "com/example/gatewarden/gatewarden/access/Assignee" "kind" "Lcom/example/gatewarden/gatewarden/access/Assignee$Kind;" (.ref kd) ∧ ∃ o, Fld Z h a "com/example/gatewarden/gatewarden/access/Assignee" "name" "Ljava/lang/String;" (.ref o) ∧ Str Z h o (cs.map own_low)) := by
  refine Con.of (plainFor_of_name pn8) hE ⟨b0, own_ew0 hw⟩ all0 (L0 := #[.val (.ref a), .val (.ref kd), .val (.ref t)]) (fun m => by first | (simp [entryFrame, mkF, argsToLocals, Value.category]; done) | rfl) ?_
  intro p e s m args below meth c T W
  refine o_aloadN 1 W d8_0 rfl rfl ?_
  refine o_special 4 [] W (tw hw 44) (tw hw 45) (tw hw 47) (tw hw 48) (con_rin l Z b0 hw a _ W.old) pd11 d8_1 rfl all0 (fun T h v W qq gg => ?_)
  obtain ⟨rfl, rfl⟩ := qq
  show Go p e below _ _ (mkF m 4 #[.val (.ref a), .val (.ref kd), .val (.ref t)] [])
  refine o_aloadN 5 W d8_4 rfl rfl ?_
  refine o_getS 8 W (tw hw 50) SR d8_5 fun T W => ?_
  refine o_virtual 11 [(.ref lo)] W (tw hw 52) (tw hw 53) (tw hw 55) (tw hw 54) (tw hw 6) (tw hw 56) (X.1) (con_stl l Z b0 hw t cs hbig hc lo bl lg EL0 EB GB GL XL qi SQ EQ _ W.old X cz hcz SC) pd12 d8_8 rfl all0 (fun T h v W qq gg => ?_)
  obtain ⟨_, rfl, o, rfl, Xo, Eo⟩ := qq
  show Go p e below _ _ (mkF m 11 #[.val (.ref a), .val (.ref kd), .val (.ref t)] [(.ref o)])
  have K0 := (Keep.refl h0 [a]).ext Eo
  have A := A.ext Eo
  have F1 := F1.ext Eo
  have F2 := F2.ext Eo
  refine o_astoreN 12 W #[.val (.ref a), .val (.ref kd), .val (.ref o)] d8_11 rfl rfl ?_
  refine o_aloadN 13 W d8_12 rfl rfl ?_
  refine o_aloadN 14 W d8_13 rfl rfl ?_
  refine o_putF 17 W (tw hw 73) F1 A (Or.inr ⟨(tw hw 74), rfl, rfl⟩) (tw hw 39) (ty := (.object "com/example/gatewarden/gatewarden/access/Assignee$Kind")) (by decide) rfl rfl (Or.inr (by decide)) za d8_14 (fun T h W w1 => ?_)
  have K0 := K0.wr w1 (Or.inl (List.mem_singleton.mpr rfl))
  have Xo := own_strwr Xo A w1 (tw hw 39) (by decide)
  have A := A.wr w1
  have F1 := F1.same w1
  have F2 := F2.other w1 (Or.inr (slot_ne (C := "com/example/gatewarden/gatewarden/access/Assignee") (Or.inr (tw hw 76)) (Or.inr (tw hw 74)) (by decide) (t := (.object "java/lang/String")) (t' := (.object "com/example/gatewarden/gatewarden/access/Assignee$Kind")) (by decide) (by decide)))
  refine o_aloadN 18 W d8_17 rfl rfl ?_
  refine o_aloadN 19 W d8_18 rfl rfl ?_
  refine o_putF 22 W (tw hw 75) F2 A (Or.inr ⟨(tw hw 76), rfl, rfl⟩) (tw hw 39) (ty := (.object "java/lang/String")) (by decide) rfl rfl (Or.inr (by decide)) za d8_19 (fun T h W w2 => ?_)
  have K0 := K0.wr w2 (Or.inl (List.mem_singleton.mpr rfl))
  have Xo := own_strwr Xo A w2 (tw hw 39) (by decide)
  have A := A.wr w2
  have F2 := F2.same w2
  have F1 := F1.other w2 (Or.inr (slot_ne (C := "com/example/gatewarden/gatewarden/access/Assignee") (Or.inr (tw hw 74)) (Or.inr (tw hw 76)) (by decide) (t := (.object "com/example/gatewarden/gatewarden/access/Assignee$Kind")) (t' := (.object "java/lang/String")) (by decide) (by decide)))
  exact o_ret W d8_22 (⟨K0, A, F1, o, F2, Xo⟩)
theorem con_viaU (l : Launch) (Z : State) (b0 : Array Value) (hw : ∀ d ∈ tables_1, d.before b0 Z = true) (a : Addr) (u0 : Addr) (SU : Sta Z Z.heap "com/example/gatewarden/gatewarden/access/Assignee$Kind" "USER" "Lcom/example/gatewarden/gatewarden/access/Assignee$Kind;" (.ref u0)) (h0 : Heap) (hE : Ext Z.heap h0) (F1 : Fld Z h0 a "com/example/gatewarden/gatewarden/access/Assignee" "kind" "Lcom/example/gatewarden/gatewarden/access/Assignee$Kind;" (.ref u0)) : Con l Z (⟨"com/example/gatewarden/gatewarden/access/Assignee", "via", "()Ljava/lang/String;"⟩ : MethodName) prog_1_method_5_code 1 (some (.object "java/lang/String")) ({ frames := 0, cells := 2, slots := 20, locals := 0 } : Room) #[(.ref a)] h0 [] (QV fun w h => ∃ o, w = .ref o ∧ Str Z h o [117, 115, 101, 114] ∧ Ext h0 h) := by
  refine Con.of (plainFor_of_name pn8) hE ⟨b0, own_ew0 hw⟩ all0 (L0 := #[.val (.ref a)]) (fun m => by first | (simp [entryFrame, mkF, argsToLocals, Value.category]; done) | rfl) ?_
  intro p e s m args below meth c T W
  refine o_aloadN 1 W d14_0 rfl rfl ?_
  refine o_getF 4 W (tw hw 73) F1 d14_1 (fun T W => ?_)
  refine o_getS 7 W (tw hw 82) SU d14_4 fun T W => ?_
  refine o_acne 15 10 W rfl rfl d14_7 (fun c7 => ?_) (fun c7 => ?_)
  · exact absurd rfl c7
  · refine o_ldcC 12 16 W (vs := [.int 117, .int 115, .int 101, .int 114]) (z := 4) (fun q => q) (tw hw 83) (own_wS hw) (by first | (simp [own_EL]; done) | simp [own_EL, x]) (by decide) (by decide) rfl d14_10 (by decide) (fun T h t bt kt W Et Xt Ct Vt At nt => ?_)
    refine o_goto 19 W d14_12 ?_
    exact o_aret W rfl rfl rfl d14_19 (⟨t, rfl, ⟨Xt, Ct, bt, kt, 4, Vt, by exact At, rfl⟩, Et⟩)
theorem con_viaN (l : Launch) (Z : State) (b0 : Array Value) (hw : ∀ d ∈ tables_1, d.before b0 Z = true) (a kd o : Addr) (u0 : Addr) (SU : Sta Z Z.heap "com/example/gatewarden/gatewarden/access/Assignee$Kind" "USER" "Lcom/example/gatewarden/gatewarden/access/Assignee$Kind;" (.ref u0)) (h0 : Heap) (hE : Ext Z.heap h0) (hne : kd ≠ u0) (F1 : Fld Z h0 a "com/example/gatewarden/gatewarden/access/Assignee" "kind" "Lcom/example/gatewarden/gatewarden/access/Assignee$Kind;" (.ref kd)) (F2 : Fld Z h0 a "com/example/gatewarden/gatewarden/access/Assignee" "name" "Ljava/lang/String;" (.ref o)) : Con l Z (⟨"com/example/gatewarden/gatewarden/access/Assignee", "via", "()Ljava/lang/String;"⟩ : MethodName) prog_1_method_5_code 1 (some (.object "java/lang/String")) ({ frames := 0, cells := 0, slots := 0, locals := 0 } : Room) #[(.ref a)] h0 [] (QV fun w h => w = .ref o ∧ h0 = h) := by
  refine Con.of (plainFor_of_name pn8) hE ⟨b0, own_ew0 hw⟩ all0 (L0 := #[.val (.ref a)]) (fun m => by first | (simp [entryFrame, mkF, argsToLocals, Value.category]; done) | rfl) ?_
  intro p e s m args below meth c T W
  refine o_aloadN 1 W d14_0 rfl rfl ?_
  refine o_getF 4 W (tw hw 73) F1 d14_1 (fun T W => ?_)
  refine o_getS 7 W (tw hw 82) SU d14_4 fun T W => ?_
  refine o_acne 15 10 W rfl rfl d14_7 (fun c7 => ?_) (fun c7 => ?_)
  · refine o_aloadN 16 W d14_15 rfl rfl ?_
    refine o_getF 19 W (tw hw 75) F2 d14_16 (fun T W => ?_)
    exact o_aret W rfl rfl rfl d14_19 (⟨rfl, rfl⟩)
  · exact absurd (by injection c7) hne
theorem con_law (l : Launch) (Z : State) (b0 : Array Value) (hw : ∀ d ∈ tables_1, d.before b0 Z = true) (x0 x1 x2 x3 x4 : Int32) (u0 : Addr) (S0 : Sta Z Z.heap "com/example/gatewarden/gatewarden/access/Assignee$Kind" "USER" "Lcom/example/gatewarden/gatewarden/access/Assignee$Kind;" (.ref u0)) (u1 : Addr) (S1 : Sta Z Z.heap "com/example/gatewarden/gatewarden/access/Assignee$Kind" "GROUP" "Lcom/example/gatewarden/gatewarden/access/Assignee$Kind;" (.ref u1)) (u2 : Addr) (S2 : Sta Z Z.heap "com/example/gatewarden/gatewarden/access/Assignee$Kind" "PRINCIPAL" "Lcom/example/gatewarden/gatewarden/access/Assignee$Kind;" (.ref u2)) (n10 : u1 ≠ u0) (n20 : u2 ≠ u0) (lo bl lg : Addr) (EL0 : Exa Z Z.heap lo "java/util/Locale") (EB : Exa Z Z.heap bl "sun/util/locale/BaseLocale") (GB : Fld Z Z.heap lo "java/util/Locale" "baseLocale" "Lsun/util/locale/BaseLocale;" (.ref bl)) (GL : Fld Z Z.heap bl "sun/util/locale/BaseLocale" "language" "Ljava/lang/String;" (.ref lg)) (XL : Str Z Z.heap lg []) (qi : Addr) (SQ : Sta Z Z.heap "java/lang/CharacterDataLatin1" "instance" "Ljava/lang/CharacterDataLatin1;" (.ref qi)) (EQ : Exa Z Z.heap qi "java/lang/CharacterDataLatin1") (SR : Sta Z Z.heap "java/util/Locale" "ROOT" "Ljava/util/Locale;" (.ref lo)) (cz : Int32) (hcz : ¬ cz = 0) (SC : Sta Z Z.heap "java/lang/String" "COMPACT_STRINGS" "Z" (.int cz)) : Con l Z x code maxLocals ret room_1 #[(.int x0), (.int x1), (.int x2), (.int x3), (.int x4)] Z.heap [] (QV fun w h => w = .int 1) := by
  refine Con.of (plainFor_of_name pn3) (own_ext_refl _) ⟨b0, own_ew0 hw⟩ all0 (L0 := #[.val (.int x0), .val (.int x1), .val (.int x2), .val (.int x3), .val (.int x4), .unset, .unset, .unset, .unset, .unset, .unset, .unset, .unset, .unset]) (fun m => by first | (simp [entryFrame, mkF, argsToLocals, Value.category, maxLocals]; done) | rfl) ?_
  intro p e s m args below meth c T W
  refine o_iloadN 1 W at_0 rfl ?_
  refine o_ldcI 3 W (tw hw 0) at_1 ?_
  refine o_iand 4 W at_3 ?_
  refine o_iconst 5 W (3) at_4 (by first | rfl | decide) ?_
  refine o_irem 6 W at_5 (by decide) ?_
  refine o_istore 8 W #[.val (.int x0), .val (.int x1), .val (.int x2), .val (.int x3), .val (.int x4), .val (.int ((x0 &&& (2147483647 : Int32)) % (3 : Int32))), .unset, .unset, .unset, .unset, .unset, .unset, .unset, .unset] at_6 rfl ?_
  generalize ((x0 &&& (2147483647 : Int32)) % (3 : Int32)) = sel
  show Go p e below _ _ (mkF m 8 #[.val (.int x0), .val (.int x1), .val (.int x2), .val (.int x3), .val (.int x4), .val (.int sel), .unset, .unset, .unset, .unset, .unset, .unset, .unset, .unset] [])
  refine o_iload 10 W at_8 rfl ?_
  refine o_ifne 19 13 W at_10 (fun cse => ?_) (fun cse => ?_)
  · refine o_iload 21 W at_19 rfl ?_
    refine o_iconst 22 W (1) at_21 (by first | rfl | decide) ?_
    refine o_icne 31 25 W at_22 (fun c22 => ?_) (fun c22 => ?_)
    · refine o_getS 34 W (tw hw 93) S2 at_31 fun T W => ?_
      refine o_astore 36 W #[.val (.int x0), .val (.int x1), .val (.int x2), .val (.int x3), .val (.int x4), .val (.int sel), .val (.ref u2), .unset, .unset, .unset, .unset, .unset, .unset, .unset] at_34 rfl rfl ?_
      refine o_iloadN 37 W at_36 rfl ?_
      refine o_sipush 40 W (255) at_37 (by first | rfl | decide) ?_
      refine o_iand 41 W at_40 ?_
      refine o_i2c 42 W at_41 ?_
      refine o_istore 44 W #[.val (.int x0), .val (.int x1), .val (.int x2), .val (.int x3), .val (.int x4), .val (.int sel), .val (.ref u2), .val (.int ((x2 &&& (255 : Int32)).toUInt32.toUInt16.toUInt32.toInt32)), .unset, .unset, .unset, .unset, .unset, .unset] at_42 rfl ?_
      refine o_iloadN 45 W at_44 rfl ?_
      refine o_sipush 48 W (255) at_45 (by first | rfl | decide) ?_
      refine o_iand 49 W at_48 ?_
      refine o_i2c 50 W at_49 ?_
      refine o_istore 52 W #[.val (.int x0), .val (.int x1), .val (.int x2), .val (.int x3), .val (.int x4), .val (.int sel), .val (.ref u2), .val (.int ((x2 &&& (255 : Int32)).toUInt32.toUInt16.toUInt32.toInt32)), .val (.int ((x3 &&& (255 : Int32)).toUInt32.toUInt16.toUInt32.toInt32)), .unset, .unset, .unset, .unset, .unset] at_50 rfl ?_
      refine o_iload 54 W at_52 rfl ?_
      refine o_sipush 57 W (255) at_54 (by first | rfl | decide) ?_
      refine o_iand 58 W at_57 ?_
      refine o_i2c 59 W at_58 ?_
      refine o_istore 61 W #[.val (.int x0), .val (.int x1), .val (.int x2), .val (.int x3), .val (.int x4), .val (.int sel), .val (.ref u2), .val (.int ((x2 &&& (255 : Int32)).toUInt32.toUInt16.toUInt32.toInt32)), .val (.int ((x3 &&& (255 : Int32)).toUInt32.toUInt16.toUInt32.toInt32)), .val (.int ((x4 &&& (255 : Int32)).toUInt32.toUInt16.toUInt32.toInt32)), .unset, .unset, .unset, .unset] at_59 rfl ?_
      refine o_iloadN 62 W at_61 rfl ?_
      refine o_iconst 63 W (3) at_62 (by first | rfl | decide) ?_
      refine o_iand 64 W at_63 ?_
      refine o_istore 66 W #[.val (.int x0), .val (.int x1), .val (.int x2), .val (.int x3), .val (.int x4), .val (.int sel), .val (.ref u2), .val (.int ((x2 &&& (255 : Int32)).toUInt32.toUInt16.toUInt32.toInt32)), .val (.int ((x3 &&& (255 : Int32)).toUInt32.toUInt16.toUInt32.toInt32)), .val (.int ((x4 &&& (255 : Int32)).toUInt32.toUInt16.toUInt32.toInt32)), .val (.int (x1 &&& (3 : Int32))), .unset, .unset, .unset] at_64 rfl ?_
      have r0 := own_c255 x2
      generalize ((x2 &&& (255 : Int32)).toUInt32.toUInt16.toUInt32.toInt32) = c0 at r0 ⊢
      have r1 := own_c255 x3
      generalize ((x3 &&& (255 : Int32)).toUInt32.toUInt16.toUInt32.toInt32) = c1 at r1 ⊢
      have r2 := own_c255 x4
      generalize ((x4 &&& (255 : Int32)).toUInt32.toUInt16.toUInt32.toInt32) = c2 at r2 ⊢
      show Go p e below _ _ (mkF m 66 #[.val (.int x0), .val (.int x1), .val (.int x2), .val (.int x3), .val (.int x4), .val (.int sel), .val (.ref u2), .val (.int c0), .val (.int c1), .val (.int c2), .val (.int (x1 &&& (3 : Int32))), .unset, .unset, .unset] [])
      generalize (x1 &&& (3 : Int32)) = ln
      show Go p e below _ _ (mkF m 66 #[.val (.int x0), .val (.int x1), .val (.int x2), .val (.int x3), .val (.int x4), .val (.int sel), .val (.ref u2), .val (.int c0), .val (.int c1), .val (.int c2), .val (.int ln), .unset, .unset, .unset] [])
      refine o_iload 68 W at_66 rfl ?_
      refine o_ifne 98 71 W at_68 (fun cz_ => ?_) (fun cz_ => ?_)
      · refine o_iload 100 W at_98 rfl ?_
        refine o_iconst 101 W (1) at_100 (by first | rfl | decide) ?_
        refine o_icne 144 104 W at_101 (fun ca => ?_) (fun ca => ?_)
        · refine o_iload 146 W at_144 rfl ?_
          refine o_iconst 147 W (2) at_146 (by first | rfl | decide) ?_
          refine o_icne 203 150 W at_147 (fun cb => ?_) (fun cb => ?_)
          · refine o_new 206 W (tw hw 4) (tw hw 5) (tw hw 6) at_203 (fun T h o W Eo Ao Do go zo => ?_)
            have Po := Do (Or.inr (tw hw 33)) (ty := .array .byte) (by decide)
            have Co := Do (Or.inr (tw hw 31)) (ty := .byte) (by decide)
            refine o_dup 207 W at_206 rfl ?_
            refine o_iconst 208 W (3) at_207 (by first | rfl | decide) ?_
            refine o_newarray 210 3 W (tw hw 7) at_208 (by decide) (by decide) (fun T h d kd W Ed Ad gd zd => ?_)
            have Ad := own_pad 3 Ad
            refine o_dup 211 W at_210 rfl ?_
            refine o_iconst 212 W (0) at_211 (by first | rfl | decide) ?_
            refine o_iload 214 W at_212 rfl ?_
            refine o_castore 215 0 W Ad (by decide) rfl (by first | decide | simp) zd at_214 (fun T h W w0 Ad => ?_)
            have Ed := own_ext_wr Ed w0 gd
            refine o_dup 216 W at_215 rfl ?_
            refine o_iconst 217 W (1) at_216 (by first | rfl | decide) ?_
            refine o_iload 219 W at_217 rfl ?_
            refine o_castore 220 1 W Ad (by decide) rfl (by first | decide | simp) zd at_219 (fun T h W w1 Ad => ?_)
            have Ed := own_ext_wr Ed w1 gd
            refine o_dup 221 W at_220 rfl ?_
            refine o_iconst 222 W (2) at_221 (by first | rfl | decide) ?_
            refine o_iload 224 W at_222 rfl ?_
            refine o_castore 225 2 W Ad (by decide) rfl (by first | decide | simp) zd at_224 (fun T h W w2 Ad => ?_)
            have Ed := own_ext_wr Ed w2 gd
            simp only [own_nar r0, own_nar r1, own_nar r2] at Ad
            have Ad : Arv Z h d kd .char 3 ([c0, c1, c2].map Value.int) (.int 0) := Ad
            have Ao := Ao.ext Ed
            have Po := Po.ext Ed
            have Co := Co.ext Ed
            refine o_special 228 [(.ref d)] W (tw hw 8) (tw hw 9) (tw hw 6) (tw hw 10) (con_sin l Z b0 hw o d kd 3 [c0, c1, c2] rfl (by first | decide | simp) (own_chS r0 (own_chS r1 (own_chS r2 own_ch0))) _ W.old Ad Ao Po Co zo cz hcz SC) pd13 at_225 rfl (by simp) (fun T h v W qq gg => ?_)
            obtain ⟨rfl, Ko, Xo⟩ := qq
            show Go p e below _ _ (mkF m 228 #[.val (.int x0), .val (.int x1), .val (.int x2), .val (.int x3), .val (.int x4), .val (.int sel), .val (.ref u2), .val (.int c0), .val (.int c1), .val (.int c2), .val (.int ln), .unset, .unset, .unset] [(.ref o)])
            refine o_astore 230 W #[.val (.int x0), .val (.int x1), .val (.int x2), .val (.int x3), .val (.int x4), .val (.int sel), .val (.ref u2), .val (.int c0), .val (.int c1), .val (.int c2), .val (.int ln), .val (.ref o), .unset, .unset] at_228 rfl rfl ?_
            refine o_new 233 W (tw hw 4) (tw hw 5) (tw hw 6) at_230 (fun T h q W Eq Aq Dq gq zq => ?_)
            have Pq := Dq (Or.inr (tw hw 33)) (ty := .array .byte) (by decide)
            have Cq := Dq (Or.inr (tw hw 31)) (ty := .byte) (by decide)
            refine o_dup 234 W at_233 rfl ?_
            refine o_iconst 235 W (3) at_234 (by first | rfl | decide) ?_
            refine o_newarray 237 3 W (tw hw 7) at_235 (by decide) (by decide) (fun T h ea kea W Eea Aea gea zea => ?_)
            have Aea := own_pad 3 Aea
            refine o_dup 238 W at_237 rfl ?_
            refine o_iconst 239 W (0) at_238 (by first | rfl | decide) ?_
            refine o_iload 241 W at_239 rfl ?_
            refine o_static 244 [(.int c0)] W (tw hw 34) (tw hw 35) (tw hw 36) (tw hw 37) (con_low l Z b0 hw c0 r0 _ W.old) pd14 at_241 rfl all0 (fun T h v W qq gg => ?_)
            obtain ⟨_, rfl, rfl, rfl⟩ := qq
            show Go p e below _ _ (mkF m 244 #[.val (.int x0), .val (.int x1), .val (.int x2), .val (.int x3), .val (.int x4), .val (.int sel), .val (.ref u2), .val (.int c0), .val (.int c1), .val (.int c2), .val (.int ln), .val (.ref o), .unset, .unset] [(.int (own_low c0)), (.int (0 : Int32)), (.ref ea), (.ref ea), (.ref q), (.ref q)])
            refine o_castore 245 0 W Aea (by decide) rfl (by first | decide | simp) zea at_244 (fun T h W w0 Aea => ?_)
            have Eea := own_ext_wr Eea w0 gea
            refine o_dup 246 W at_245 rfl ?_
            refine o_iconst 247 W (1) at_246 (by first | rfl | decide) ?_
            refine o_iload 249 W at_247 rfl ?_
            refine o_static 252 [(.int c1)] W (tw hw 34) (tw hw 35) (tw hw 36) (tw hw 37) (con_low l Z b0 hw c1 r1 _ W.old) pd14 at_249 rfl all0 (fun T h v W qq gg => ?_)
            obtain ⟨_, rfl, rfl, rfl⟩ := qq
            show Go p e below _ _ (mkF m 252 #[.val (.int x0), .val (.int x1), .val (.int x2), .val (.int x3), .val (.int x4), .val (.int sel), .val (.ref u2), .val (.int c0), .val (.int c1), .val (.int c2), .val (.int ln), .val (.ref o), .unset, .unset] [(.int (own_low c1)), (.int (1 : Int32)), (.ref ea), (.ref ea), (.ref q), (.ref q)])
            refine o_castore 253 1 W Aea (by decide) rfl (by first | decide | simp) zea at_252 (fun T h W w1 Aea => ?_)
            have Eea := own_ext_wr Eea w1 gea
            refine o_dup 254 W at_253 rfl ?_
            refine o_iconst 255 W (2) at_254 (by first | rfl | decide) ?_
            refine o_iload 257 W at_255 rfl ?_
            refine o_static 260 [(.int c2)] W (tw hw 34) (tw hw 35) (tw hw 36) (tw hw 37) (con_low l Z b0 hw c2 r2 _ W.old) pd14 at_257 rfl all0 (fun T h v W qq gg => ?_)
            obtain ⟨_, rfl, rfl, rfl⟩ := qq
            show Go p e below _ _ (mkF m 260 #[.val (.int x0), .val (.int x1), .val (.int x2), .val (.int x3), .val (.int x4), .val (.int sel), .val (.ref u2), .val (.int c0), .val (.int c1), .val (.int c2), .val (.int ln), .val (.ref o), .unset, .unset] [(.int (own_low c2)), (.int (2 : Int32)), (.ref ea), (.ref ea), (.ref q), (.ref q)])
            refine o_castore 261 2 W Aea (by decide) rfl (by first | decide | simp) zea at_260 (fun T h W w2 Aea => ?_)
            have Eea := own_ext_wr Eea w2 gea
            simp only [own_nar (own_lowr r0), own_nar (own_lowr r1), own_nar (own_lowr r2)] at Aea
            have Aea : Arv Z h ea kea .char 3 ([(own_low c0), (own_low c1), (own_low c2)].map Value.int) (.int 0) := Aea
            have Aq := Aq.ext Eea
            have Pq := Pq.ext Eea
            have Cq := Cq.ext Eea
            refine o_special 264 [(.ref ea)] W (tw hw 8) (tw hw 9) (tw hw 6) (tw hw 10) (con_sin l Z b0 hw q ea kea 3 [(own_low c0), (own_low c1), (own_low c2)] rfl (by first | decide | simp) (own_chS (own_lowr r0) (own_chS (own_lowr r1) (own_chS (own_lowr r2) own_ch0))) _ W.old Aea Aq Pq Cq zq cz hcz SC) pd13 at_261 rfl (by simp) (fun T h v W qq gg => ?_)
            obtain ⟨rfl, Kq, Xq⟩ := qq
            show Go p e below _ _ (mkF m 264 #[.val (.int x0), .val (.int x1), .val (.int x2), .val (.int x3), .val (.int x4), .val (.int sel), .val (.ref u2), .val (.int c0), .val (.int c1), .val (.int c2), .val (.int ln), .val (.ref o), .unset, .unset] [(.ref q)])
            have Xo := Xo.ext (own_ext_keep (own_ext_trans Eq Eea) Kq gq)
            refine o_astore 266 W #[.val (.int x0), .val (.int x1), .val (.int x2), .val (.int x3), .val (.int x4), .val (.int sel), .val (.ref u2), .val (.int c0), .val (.int c1), .val (.int c2), .val (.int ln), .val (.ref o), .val (.ref q), .unset] at_264 rfl rfl ?_
            refine o_new 269 W (tw hw 38) (tw hw 39) (tw hw 40) at_266 (fun T h b W Eb Ab Db gb zb => ?_)
            have Fb := Db (Or.inr (tw hw 74)) (ty := (.object "com/example/gatewarden/gatewarden/access/Assignee$Kind")) (by decide)
            have Gb := Db (Or.inr (tw hw 76)) (ty := (.object "java/lang/String")) (by decide)
            refine o_dup 270 W at_269 rfl ?_
            refine o_aload 272 W at_270 rfl rfl ?_
            refine o_aload 274 W at_272 rfl rfl ?_
            have Xq0 := Xq
            have Xo := Xo.ext Eb
            refine o_special 277 [(.ref u2), (.ref o)] W (tw hw 41) (tw hw 42) (tw hw 40) (tw hw 43) (con_ain l Z b0 hw b u2 o [c0, c1, c2] (by first | decide | simp) (own_chS r0 (own_chS r1 (own_chS r2 own_ch0))) lo bl lg EL0 EB GB GL XL qi SQ EQ SR _ W.old Xo Ab Fb Gb zb cz hcz SC) pd15 at_274 rfl all0 (fun T h v W qq gg => ?_)
            obtain ⟨rfl, Kb, Ab, Fb, t, Gb, Xt⟩ := qq
            show Go p e below _ _ (mkF m 277 #[.val (.int x0), .val (.int x1), .val (.int x2), .val (.int x3), .val (.int x4), .val (.int sel), .val (.ref u2), .val (.int c0), .val (.int c1), .val (.int c2), .val (.int ln), .val (.ref o), .val (.ref q), .unset] [(.ref b)])
            have Xq := Xq0.ext (own_ext_keep Eb Kb gb)
            refine o_virtual 280 [] W (tw hw 77) (tw hw 78) (tw hw 80) (tw hw 79) (tw hw 40) (tw hw 81) (Ab) (con_viaN l Z b0 hw b u2 t u0 S0 _ W.old n20 Fb Gb) pd5 at_277 rfl all0 (fun T h v W qq gg => ?_)
            obtain ⟨_, rfl, rfl, rfl⟩ := qq
            show Go p e below _ _ (mkF m 280 #[.val (.int x0), .val (.int x1), .val (.int x2), .val (.int x3), .val (.int x4), .val (.int sel), .val (.ref u2), .val (.int c0), .val (.int c1), .val (.int c2), .val (.int ln), .val (.ref o), .val (.ref q), .unset] [(.ref t)])
            refine o_astore 282 W #[.val (.int x0), .val (.int x1), .val (.int x2), .val (.int x3), .val (.int x4), .val (.int sel), .val (.ref u2), .val (.int c0), .val (.int c1), .val (.int c2), .val (.int ln), .val (.ref o), .val (.ref q), .val (.ref t)] at_280 rfl rfl ?_
            refine o_iload 284 W at_282 rfl ?_
            refine o_ifY 295 W at_284 (XT.i0_ne_t cse) ?_
            refine o_aload 297 W at_295 rfl rfl ?_
            refine o_aload 299 W at_297 rfl rfl ?_
            refine o_virtual 302 [(.ref t)] W (tw hw 87) (tw hw 88) (tw hw 90) (tw hw 89) (tw hw 6) (tw hw 91) (Xq.1) (con_seq l Z b0 hw q t [(own_low c0), (own_low c1), (own_low c2)] ([c0, c1, c2].map own_low) (by first | decide | simp) (own_chS (own_lowr r0) (own_chS (own_lowr r1) (own_chS (own_lowr r2) own_ch0))) (by first | decide | simp) (own_lowch (own_chS r0 (own_chS r1 (own_chS r2 own_ch0)))) _ W.old Xq Xt cz hcz SC) pd16 at_299 rfl all0 (fun T h v W qq gg => ?_)
            obtain ⟨_, rfl, rfl, rfl⟩ := qq
            show Go p e below _ _ (mkF m 302 #[.val (.int x0), .val (.int x1), .val (.int x2), .val (.int x3), .val (.int x4), .val (.int sel), .val (.ref u2), .val (.int c0), .val (.int c1), .val (.int c2), .val (.int ln), .val (.ref o), .val (.ref q), .val (.ref t)] [(.int (own_bi (decide ([(own_low c0), (own_low c1), (own_low c2)] = [c0, c1, c2].map own_low))))])
            exact o_nret W 1 (by simp) (by rw [decide_eq_true (by rfl)]; decide) at_302 (rfl)
          · refine o_new 153 W (tw hw 4) (tw hw 5) (tw hw 6) at_150 (fun T h o W Eo Ao Do go zo => ?_)
            have Po := Do (Or.inr (tw hw 33)) (ty := .array .byte) (by decide)
            have Co := Do (Or.inr (tw hw 31)) (ty := .byte) (by decide)
            refine o_dup 154 W at_153 rfl ?_
            refine o_iconst 155 W (2) at_154 (by first | rfl | decide) ?_
            refine o_newarray 157 2 W (tw hw 7) at_155 (by decide) (by decide) (fun T h d kd W Ed Ad gd zd => ?_)
            have Ad := own_pad 2 Ad
            refine o_dup 158 W at_157 rfl ?_
            refine o_iconst 159 W (0) at_158 (by first | rfl | decide) ?_
            refine o_iload 161 W at_159 rfl ?_
            refine o_castore 162 0 W Ad (by decide) rfl (by first | decide | simp) zd at_161 (fun T h W w0 Ad => ?_)
            have Ed := own_ext_wr Ed w0 gd
            refine o_dup 163 W at_162 rfl ?_
            refine o_iconst 164 W (1) at_163 (by first | rfl | decide) ?_
            refine o_iload 166 W at_164 rfl ?_
            refine o_castore 167 1 W Ad (by decide) rfl (by first | decide | simp) zd at_166 (fun T h W w1 Ad => ?_)
            have Ed := own_ext_wr Ed w1 gd
            simp only [own_nar r0, own_nar r1] at Ad
            have Ad : Arv Z h d kd .char 2 ([c0, c1].map Value.int) (.int 0) := Ad
            have Ao := Ao.ext Ed
            have Po := Po.ext Ed
            have Co := Co.ext Ed
            refine o_special 170 [(.ref d)] W (tw hw 8) (tw hw 9) (tw hw 6) (tw hw 10) (con_sin l Z b0 hw o d kd 2 [c0, c1] rfl (by first | decide | simp) (own_chS r0 (own_chS r1 own_ch0)) _ W.old Ad Ao Po Co zo cz hcz SC) pd13 at_167 rfl (by simp) (fun T h v W qq gg => ?_)
            obtain ⟨rfl, Ko, Xo⟩ := qq
            show Go p e below _ _ (mkF m 170 #[.val (.int x0), .val (.int x1), .val (.int x2), .val (.int x3), .val (.int x4), .val (.int sel), .val (.ref u2), .val (.int c0), .val (.int c1), .val (.int c2), .val (.int ln), .unset, .unset, .unset] [(.ref o)])
            refine o_astore 172 W #[.val (.int x0), .val (.int x1), .val (.int x2), .val (.int x3), .val (.int x4), .val (.int sel), .val (.ref u2), .val (.int c0), .val (.int c1), .val (.int c2), .val (.int ln), .val (.ref o), .unset, .unset] at_170 rfl rfl ?_
            refine o_new 175 W (tw hw 4) (tw hw 5) (tw hw 6) at_172 (fun T h q W Eq Aq Dq gq zq => ?_)
            have Pq := Dq (Or.inr (tw hw 33)) (ty := .array .byte) (by decide)
            have Cq := Dq (Or.inr (tw hw 31)) (ty := .byte) (by decide)
            refine o_dup 176 W at_175 rfl ?_
            refine o_iconst 177 W (2) at_176 (by first | rfl | decide) ?_
            refine o_newarray 179 2 W (tw hw 7) at_177 (by decide) (by decide) (fun T h ea kea W Eea Aea gea zea => ?_)
            have Aea := own_pad 2 Aea
            refine o_dup 180 W at_179 rfl ?_
            refine o_iconst 181 W (0) at_180 (by first | rfl | decide) ?_
            refine o_iload 183 W at_181 rfl ?_
            refine o_static 186 [(.int c0)] W (tw hw 34) (tw hw 35) (tw hw 36) (tw hw 37) (con_low l Z b0 hw c0 r0 _ W.old) pd14 at_183 rfl all0 (fun T h v W qq gg => ?_)
            obtain ⟨_, rfl, rfl, rfl⟩ := qq
            show Go p e below _ _ (mkF m 186 #[.val (.int x0), .val (.int x1), .val (.int x2), .val (.int x3), .val (.int x4), .val (.int sel), .val (.ref u2), .val (.int c0), .val (.int c1), .val (.int c2), .val (.int ln), .val (.ref o), .unset, .unset] [(.int (own_low c0)), (.int (0 : Int32)), (.ref ea), (.ref ea), (.ref q), (.ref q)])
            refine o_castore 187 0 W Aea (by decide) rfl (by first | decide | simp) zea at_186 (fun T h W w0 Aea => ?_)
            have Eea := own_ext_wr Eea w0 gea
            refine o_dup 188 W at_187 rfl ?_
            refine o_iconst 189 W (1) at_188 (by first | rfl | decide) ?_
            refine o_iload 191 W at_189 rfl ?_
            refine o_static 194 [(.int c1)] W (tw hw 34) (tw hw 35) (tw hw 36) (tw hw 37) (con_low l Z b0 hw c1 r1 _ W.old) pd14 at_191 rfl all0 (fun T h v W qq gg => ?_)
            obtain ⟨_, rfl, rfl, rfl⟩ := qq
            show Go p e below _ _ (mkF m 194 #[.val (.int x0), .val (.int x1), .val (.int x2), .val (.int x3), .val (.int x4), .val (.int sel), .val (.ref u2), .val (.int c0), .val (.int c1), .val (.int c2), .val (.int ln), .val (.ref o), .unset, .unset] [(.int (own_low c1)), (.int (1 : Int32)), (.ref ea), (.ref ea), (.ref q), (.ref q)])
            refine o_castore 195 1 W Aea (by decide) rfl (by first | decide | simp) zea at_194 (fun T h W w1 Aea => ?_)
            have Eea := own_ext_wr Eea w1 gea
            simp only [own_nar (own_lowr r0), own_nar (own_lowr r1)] at Aea
            have Aea : Arv Z h ea kea .char 2 ([(own_low c0), (own_low c1)].map Value.int) (.int 0) := Aea
            have Aq := Aq.ext Eea
            have Pq := Pq.ext Eea
            have Cq := Cq.ext Eea
            refine o_special 198 [(.ref ea)] W (tw hw 8) (tw hw 9) (tw hw 6) (tw hw 10) (con_sin l Z b0 hw q ea kea 2 [(own_low c0), (own_low c1)] rfl (by first | decide | simp) (own_chS (own_lowr r0) (own_chS (own_lowr r1) own_ch0)) _ W.old Aea Aq Pq Cq zq cz hcz SC) pd13 at_195 rfl (by simp) (fun T h v W qq gg => ?_)
            obtain ⟨rfl, Kq, Xq⟩ := qq
            show Go p e below _ _ (mkF m 198 #[.val (.int x0), .val (.int x1), .val (.int x2), .val (.int x3), .val (.int x4), .val (.int sel), .val (.ref u2), .val (.int c0), .val (.int c1), .val (.int c2), .val (.int ln), .val (.ref o), .unset, .unset] [(.ref q)])
            have Xo := Xo.ext (own_ext_keep (own_ext_trans Eq Eea) Kq gq)
            refine o_astore 200 W #[.val (.int x0), .val (.int x1), .val (.int x2), .val (.int x3), .val (.int x4), .val (.int sel), .val (.ref u2), .val (.int c0), .val (.int c1), .val (.int c2), .val (.int ln), .val (.ref o), .val (.ref q), .unset] at_198 rfl rfl ?_
            refine o_goto 266 W at_200 ?_
            refine o_new 269 W (tw hw 38) (tw hw 39) (tw hw 40) at_266 (fun T h b W Eb Ab Db gb zb => ?_)
            have Fb := Db (Or.inr (tw hw 74)) (ty := (.object "com/example/gatewarden/gatewarden/access/Assignee$Kind")) (by decide)
            have Gb := Db (Or.inr (tw hw 76)) (ty := (.object "java/lang/String")) (by decide)
            refine o_dup 270 W at_269 rfl ?_
            refine o_aload 272 W at_270 rfl rfl ?_
            refine o_aload 274 W at_272 rfl rfl ?_
            have Xq0 := Xq
            have Xo := Xo.ext Eb
            refine o_special 277 [(.ref u2), (.ref o)] W (tw hw 41) (tw hw 42) (tw hw 40) (tw hw 43) (con_ain l Z b0 hw b u2 o [c0, c1] (by first | decide | simp) (own_chS r0 (own_chS r1 own_ch0)) lo bl lg EL0 EB GB GL XL qi SQ EQ SR _ W.old Xo Ab Fb Gb zb cz hcz SC) pd15 at_274 rfl all0 (fun T h v W qq gg => ?_)
            obtain ⟨rfl, Kb, Ab, Fb, t, Gb, Xt⟩ := qq
            show Go p e below _ _ (mkF m 277 #[.val (.int x0), .val (.int x1), .val (.int x2), .val (.int x3), .val (.int x4), .val (.int sel), .val (.ref u2), .val (.int c0), .val (.int c1), .val (.int c2), .val (.int ln), .val (.ref o), .val (.ref q), .unset] [(.ref b)])
            have Xq := Xq0.ext (own_ext_keep Eb Kb gb)
            refine o_virtual 280 [] W (tw hw 77) (tw hw 78) (tw hw 80) (tw hw 79) (tw hw 40) (tw hw 81) (Ab) (con_viaN l Z b0 hw b u2 t u0 S0 _ W.old n20 Fb Gb) pd5 at_277 rfl all0 (fun T h v W qq gg => ?_)
            obtain ⟨_, rfl, rfl, rfl⟩ := qq
            show Go p e below _ _ (mkF m 280 #[.val (.int x0), .val (.int x1), .val (.int x2), .val (.int x3), .val (.int x4), .val (.int sel), .val (.ref u2), .val (.int c0), .val (.int c1), .val (.int c2), .val (.int ln), .val (.ref o), .val (.ref q), .unset] [(.ref t)])
            refine o_astore 282 W #[.val (.int x0), .val (.int x1), .val (.int x2), .val (.int x3), .val (.int x4), .val (.int sel), .val (.ref u2), .val (.int c0), .val (.int c1), .val (.int c2), .val (.int ln), .val (.ref o), .val (.ref q), .val (.ref t)] at_280 rfl rfl ?_
            refine o_iload 284 W at_282 rfl ?_
            refine o_ifY 295 W at_284 (XT.i0_ne_t cse) ?_
            refine o_aload 297 W at_295 rfl rfl ?_
            refine o_aload 299 W at_297 rfl rfl ?_
            refine o_virtual 302 [(.ref t)] W (tw hw 87) (tw hw 88) (tw hw 90) (tw hw 89) (tw hw 6) (tw hw 91) (Xq.1) (con_seq l Z b0 hw q t [(own_low c0), (own_low c1)] ([c0, c1].map own_low) (by first | decide | simp) (own_chS (own_lowr r0) (own_chS (own_lowr r1) own_ch0)) (by first | decide | simp) (own_lowch (own_chS r0 (own_chS r1 own_ch0))) _ W.old Xq Xt cz hcz SC) pd16 at_299 rfl all0 (fun T h v W qq gg => ?_)
            obtain ⟨_, rfl, rfl, rfl⟩ := qq
            show Go p e below _ _ (mkF m 302 #[.val (.int x0), .val (.int x1), .val (.int x2), .val (.int x3), .val (.int x4), .val (.int sel), .val (.ref u2), .val (.int c0), .val (.int c1), .val (.int c2), .val (.int ln), .val (.ref o), .val (.ref q), .val (.ref t)] [(.int (own_bi (decide ([(own_low c0), (own_low c1)] = [c0, c1].map own_low))))])
            exact o_nret W 1 (by simp) (by rw [decide_eq_true (by rfl)]; decide) at_302 (rfl)
        · refine o_new 107 W (tw hw 4) (tw hw 5) (tw hw 6) at_104 (fun T h o W Eo Ao Do go zo => ?_)
          have Po := Do (Or.inr (tw hw 33)) (ty := .array .byte) (by decide)
          have Co := Do (Or.inr (tw hw 31)) (ty := .byte) (by decide)
          refine o_dup 108 W at_107 rfl ?_
          refine o_iconst 109 W (1) at_108 (by first | rfl | decide) ?_
          refine o_newarray 111 1 W (tw hw 7) at_109 (by decide) (by decide) (fun T h d kd W Ed Ad gd zd => ?_)
          have Ad := own_pad 1 Ad
          refine o_dup 112 W at_111 rfl ?_
          refine o_iconst 113 W (0) at_112 (by first | rfl | decide) ?_
          refine o_iload 115 W at_113 rfl ?_
          refine o_castore 116 0 W Ad (by decide) rfl (by first | decide | simp) zd at_115 (fun T h W w0 Ad => ?_)
          have Ed := own_ext_wr Ed w0 gd
          simp only [own_nar r0] at Ad
          have Ad : Arv Z h d kd .char 1 ([c0].map Value.int) (.int 0) := Ad
          have Ao := Ao.ext Ed
          have Po := Po.ext Ed
          have Co := Co.ext Ed
          refine o_special 119 [(.ref d)] W (tw hw 8) (tw hw 9) (tw hw 6) (tw hw 10) (con_sin l Z b0 hw o d kd 1 [c0] rfl (by first | decide | simp) (own_chS r0 own_ch0) _ W.old Ad Ao Po Co zo cz hcz SC) pd13 at_116 rfl (by simp) (fun T h v W qq gg => ?_)
          obtain ⟨rfl, Ko, Xo⟩ := qq
          show Go p e below _ _ (mkF m 119 #[.val (.int x0), .val (.int x1), .val (.int x2), .val (.int x3), .val (.int x4), .val (.int sel), .val (.ref u2), .val (.int c0), .val (.int c1), .val (.int c2), .val (.int ln), .unset, .unset, .unset] [(.ref o)])
          refine o_astore 121 W #[.val (.int x0), .val (.int x1), .val (.int x2), .val (.int x3), .val (.int x4), .val (.int sel), .val (.ref u2), .val (.int c0), .val (.int c1), .val (.int c2), .val (.int ln), .val (.ref o), .unset, .unset] at_119 rfl rfl ?_
          refine o_new 124 W (tw hw 4) (tw hw 5) (tw hw 6) at_121 (fun T h q W Eq Aq Dq gq zq => ?_)
          have Pq := Dq (Or.inr (tw hw 33)) (ty := .array .byte) (by decide)
          have Cq := Dq (Or.inr (tw hw 31)) (ty := .byte) (by decide)
          refine o_dup 125 W at_124 rfl ?_
          refine o_iconst 126 W (1) at_125 (by first | rfl | decide) ?_
          refine o_newarray 128 1 W (tw hw 7) at_126 (by decide) (by decide) (fun T h ea kea W Eea Aea gea zea => ?_)
          have Aea := own_pad 1 Aea
          refine o_dup 129 W at_128 rfl ?_
          refine o_iconst 130 W (0) at_129 (by first | rfl | decide) ?_
          refine o_iload 132 W at_130 rfl ?_
          refine o_static 135 [(.int c0)] W (tw hw 34) (tw hw 35) (tw hw 36) (tw hw 37) (con_low l Z b0 hw c0 r0 _ W.old) pd14 at_132 rfl all0 (fun T h v W qq gg => ?_)
          obtain ⟨_, rfl, rfl, rfl⟩ := qq
          show Go p e below _ _ (mkF m 135 #[.val (.int x0), .val (.int x1), .val (.int x2), .val (.int x3), .val (.int x4), .val (.int sel), .val (.ref u2), .val (.int c0), .val (.int c1), .val (.int c2), .val (.int ln), .val (.ref o), .unset, .unset] [(.int (own_low c0)), (.int (0 : Int32)), (.ref ea), (.ref ea), (.ref q), (.ref q)])
          refine o_castore 136 0 W Aea (by decide) rfl (by first | decide | simp) zea at_135 (fun T h W w0 Aea => ?_)
          have Eea := own_ext_wr Eea w0 gea
          simp only [own_nar (own_lowr r0)] at Aea
          have Aea : Arv Z h ea kea .char 1 ([(own_low c0)].map Value.int) (.int 0) := Aea
          have Aq := Aq.ext Eea
          have Pq := Pq.ext Eea
          have Cq := Cq.ext Eea
          refine o_special 139 [(.ref ea)] W (tw hw 8) (tw hw 9) (tw hw 6) (tw hw 10) (con_sin l Z b0 hw q ea kea 1 [(own_low c0)] rfl (by first | decide | simp) (own_chS (own_lowr r0) own_ch0) _ W.old Aea Aq Pq Cq zq cz hcz SC) pd13 at_136 rfl (by simp) (fun T h v W qq gg => ?_)
          obtain ⟨rfl, Kq, Xq⟩ := qq
          show Go p e below _ _ (mkF m 139 #[.val (.int x0), .val (.int x1), .val (.int x2), .val (.int x3), .val (.int x4), .val (.int sel), .val (.ref u2), .val (.int c0), .val (.int c1), .val (.int c2), .val (.int ln), .val (.ref o), .unset, .unset] [(.ref q)])
          have Xo := Xo.ext (own_ext_keep (own_ext_trans Eq Eea) Kq gq)
          refine o_astore 141 W #[.val (.int x0), .val (.int x1), .val (.int x2), .val (.int x3), .val (.int x4), .val (.int sel), .val (.ref u2), .val (.int c0), .val (.int c1), .val (.int c2), .val (.int ln), .val (.ref o), .val (.ref q), .unset] at_139 rfl rfl ?_
          refine o_goto 266 W at_141 ?_
          refine o_new 269 W (tw hw 38) (tw hw 39) (tw hw 40) at_266 (fun T h b W Eb Ab Db gb zb => ?_)
          have Fb := Db (Or.inr (tw hw 74)) (ty := (.object "com/example/gatewarden/gatewarden/access/Assignee$Kind")) (by decide)
          have Gb := Db (Or.inr (tw hw 76)) (ty := (.object "java/lang/String")) (by decide)
          refine o_dup 270 W at_269 rfl ?_
          refine o_aload 272 W at_270 rfl rfl ?_
          refine o_aload 274 W at_272 rfl rfl ?_
          have Xq0 := Xq
          have Xo := Xo.ext Eb
          refine o_special 277 [(.ref u2), (.ref o)] W (tw hw 41) (tw hw 42) (tw hw 40) (tw hw 43) (con_ain l Z b0 hw b u2 o [c0] (by first | decide | simp) (own_chS r0 own_ch0) lo bl lg EL0 EB GB GL XL qi SQ EQ SR _ W.old Xo Ab Fb Gb zb cz hcz SC) pd15 at_274 rfl all0 (fun T h v W qq gg => ?_)
          obtain ⟨rfl, Kb, Ab, Fb, t, Gb, Xt⟩ := qq
          show Go p e below _ _ (mkF m 277 #[.val (.int x0), .val (.int x1), .val (.int x2), .val (.int x3), .val (.int x4), .val (.int sel), .val (.ref u2), .val (.int c0), .val (.int c1), .val (.int c2), .val (.int ln), .val (.ref o), .val (.ref q), .unset] [(.ref b)])
          have Xq := Xq0.ext (own_ext_keep Eb Kb gb)
          refine o_virtual 280 [] W (tw hw 77) (tw hw 78) (tw hw 80) (tw hw 79) (tw hw 40) (tw hw 81) (Ab) (con_viaN l Z b0 hw b u2 t u0 S0 _ W.old n20 Fb Gb) pd5 at_277 rfl all0 (fun T h v W qq gg => ?_)
          obtain ⟨_, rfl, rfl, rfl⟩ := qq
          show Go p e below _ _ (mkF m 280 #[.val (.int x0), .val (.int x1), .val (.int x2), .val (.int x3), .val (.int x4), .val (.int sel), .val (.ref u2), .val (.int c0), .val (.int c1), .val (.int c2), .val (.int ln), .val (.ref o), .val (.ref q), .unset] [(.ref t)])
          refine o_astore 282 W #[.val (.int x0), .val (.int x1), .val (.int x2), .val (.int x3), .val (.int x4), .val (.int sel), .val (.ref u2), .val (.int c0), .val (.int c1), .val (.int c2), .val (.int ln), .val (.ref o), .val (.ref q), .val (.ref t)] at_280 rfl rfl ?_
          refine o_iload 284 W at_282 rfl ?_
          refine o_ifY 295 W at_284 (XT.i0_ne_t cse) ?_
          refine o_aload 297 W at_295 rfl rfl ?_
          refine o_aload 299 W at_297 rfl rfl ?_
          refine o_virtual 302 [(.ref t)] W (tw hw 87) (tw hw 88) (tw hw 90) (tw hw 89) (tw hw 6) (tw hw 91) (Xq.1) (con_seq l Z b0 hw q t [(own_low c0)] ([c0].map own_low) (by first | decide | simp) (own_chS (own_lowr r0) own_ch0) (by first | decide | simp) (own_lowch (own_chS r0 own_ch0)) _ W.old Xq Xt cz hcz SC) pd16 at_299 rfl all0 (fun T h v W qq gg => ?_)
          obtain ⟨_, rfl, rfl, rfl⟩ := qq
          show Go p e below _ _ (mkF m 302 #[.val (.int x0), .val (.int x1), .val (.int x2), .val (.int x3), .val (.int x4), .val (.int sel), .val (.ref u2), .val (.int c0), .val (.int c1), .val (.int c2), .val (.int ln), .val (.ref o), .val (.ref q), .val (.ref t)] [(.int (own_bi (decide ([(own_low c0)] = [c0].map own_low))))])
          exact o_nret W 1 (by simp) (by rw [decide_eq_true (by rfl)]; decide) at_302 (rfl)
      · refine o_new 74 W (tw hw 4) (tw hw 5) (tw hw 6) at_71 (fun T h o W Eo Ao Do go zo => ?_)
        have Po := Do (Or.inr (tw hw 33)) (ty := .array .byte) (by decide)
        have Co := Do (Or.inr (tw hw 31)) (ty := .byte) (by decide)
        refine o_dup 75 W at_74 rfl ?_
        refine o_iconst 76 W (0) at_75 (by first | rfl | decide) ?_
        refine o_newarray 78 0 W (tw hw 7) at_76 (by decide) (by decide) (fun T h d kd W Ed Ad gd zd => ?_)
        have Ad := own_pad 0 Ad
        have Ad : Arv Z h d kd .char 0 ([].map Value.int) (.int 0) := Ad
        have Ao := Ao.ext Ed
        have Po := Po.ext Ed
        have Co := Co.ext Ed
        refine o_special 81 [(.ref d)] W (tw hw 8) (tw hw 9) (tw hw 6) (tw hw 10) (con_sin l Z b0 hw o d kd 0 [] rfl (by first | decide | simp) own_ch0 _ W.old Ad Ao Po Co zo cz hcz SC) pd13 at_78 rfl (by simp) (fun T h v W qq gg => ?_)
        obtain ⟨rfl, Ko, Xo⟩ := qq
        show Go p e below _ _ (mkF m 81 #[.val (.int x0), .val (.int x1), .val (.int x2), .val (.int x3), .val (.int x4), .val (.int sel), .val (.ref u2), .val (.int c0), .val (.int c1), .val (.int c2), .val (.int ln), .unset, .unset, .unset] [(.ref o)])
        refine o_astore 83 W #[.val (.int x0), .val (.int x1), .val (.int x2), .val (.int x3), .val (.int x4), .val (.int sel), .val (.ref u2), .val (.int c0), .val (.int c1), .val (.int c2), .val (.int ln), .val (.ref o), .unset, .unset] at_81 rfl rfl ?_
        refine o_new 86 W (tw hw 4) (tw hw 5) (tw hw 6) at_83 (fun T h q W Eq Aq Dq gq zq => ?_)
        have Pq := Dq (Or.inr (tw hw 33)) (ty := .array .byte) (by decide)
        have Cq := Dq (Or.inr (tw hw 31)) (ty := .byte) (by decide)
        refine o_dup 87 W at_86 rfl ?_
        refine o_iconst 88 W (0) at_87 (by first | rfl | decide) ?_
        refine o_newarray 90 0 W (tw hw 7) at_88 (by decide) (by decide) (fun T h ea kea W Eea Aea gea zea => ?_)
        have Aea := own_pad 0 Aea
        have Aea : Arv Z h ea kea .char 0 ([].map Value.int) (.int 0) := Aea
        have Aq := Aq.ext Eea
        have Pq := Pq.ext Eea
        have Cq := Cq.ext Eea
        refine o_special 93 [(.ref ea)] W (tw hw 8) (tw hw 9) (tw hw 6) (tw hw 10) (con_sin l Z b0 hw q ea kea 0 [] rfl (by first | decide | simp) own_ch0 _ W.old Aea Aq Pq Cq zq cz hcz SC) pd13 at_90 rfl (by simp) (fun T h v W qq gg => ?_)
        obtain ⟨rfl, Kq, Xq⟩ := qq
        show Go p e below _ _ (mkF m 93 #[.val (.int x0), .val (.int x1), .val (.int x2), .val (.int x3), .val (.int x4), .val (.int sel), .val (.ref u2), .val (.int c0), .val (.int c1), .val (.int c2), .val (.int ln), .val (.ref o), .unset, .unset] [(.ref q)])
        have Xo := Xo.ext (own_ext_keep (own_ext_trans Eq Eea) Kq gq)
        refine o_astore 95 W #[.val (.int x0), .val (.int x1), .val (.int x2), .val (.int x3), .val (.int x4), .val (.int sel), .val (.ref u2), .val (.int c0), .val (.int c1), .val (.int c2), .val (.int ln), .val (.ref o), .val (.ref q), .unset] at_93 rfl rfl ?_
        refine o_goto 266 W at_95 ?_
        refine o_new 269 W (tw hw 38) (tw hw 39) (tw hw 40) at_266 (fun T h b W Eb Ab Db gb zb => ?_)
        have Fb := Db (Or.inr (tw hw 74)) (ty := (.object "com/example/gatewarden/gatewarden/access/Assignee$Kind")) (by decide)
        have Gb := Db (Or.inr (tw hw 76)) (ty := (.object "java/lang/String")) (by decide)
        refine o_dup 270 W at_269 rfl ?_
        refine o_aload 272 W at_270 rfl rfl ?_
        refine o_aload 274 W at_272 rfl rfl ?_
        have Xq0 := Xq
        have Xo := Xo.ext Eb
        refine o_special 277 [(.ref u2), (.ref o)] W (tw hw 41) (tw hw 42) (tw hw 40) (tw hw 43) (con_ain l Z b0 hw b u2 o [] (by first | decide | simp) own_ch0 lo bl lg EL0 EB GB GL XL qi SQ EQ SR _ W.old Xo Ab Fb Gb zb cz hcz SC) pd15 at_274 rfl all0 (fun T h v W qq gg => ?_)
        obtain ⟨rfl, Kb, Ab, Fb, t, Gb, Xt⟩ := qq
        show Go p e below _ _ (mkF m 277 #[.val (.int x0), .val (.int x1), .val (.int x2), .val (.int x3), .val (.int x4), .val (.int sel), .val (.ref u2), .val (.int c0), .val (.int c1), .val (.int c2), .val (.int ln), .val (.ref o), .val (.ref q), .unset] [(.ref b)])
        have Xq := Xq0.ext (own_ext_keep Eb Kb gb)
        refine o_virtual 280 [] W (tw hw 77) (tw hw 78) (tw hw 80) (tw hw 79) (tw hw 40) (tw hw 81) (Ab) (con_viaN l Z b0 hw b u2 t u0 S0 _ W.old n20 Fb Gb) pd5 at_277 rfl all0 (fun T h v W qq gg => ?_)
        obtain ⟨_, rfl, rfl, rfl⟩ := qq
        show Go p e below _ _ (mkF m 280 #[.val (.int x0), .val (.int x1), .val (.int x2), .val (.int x3), .val (.int x4), .val (.int sel), .val (.ref u2), .val (.int c0), .val (.int c1), .val (.int c2), .val (.int ln), .val (.ref o), .val (.ref q), .unset] [(.ref t)])
        refine o_astore 282 W #[.val (.int x0), .val (.int x1), .val (.int x2), .val (.int x3), .val (.int x4), .val (.int sel), .val (.ref u2), .val (.int c0), .val (.int c1), .val (.int c2), .val (.int ln), .val (.ref o), .val (.ref q), .val (.ref t)] at_280 rfl rfl ?_
        refine o_iload 284 W at_282 rfl ?_
        refine o_ifY 295 W at_284 (XT.i0_ne_t cse) ?_
        refine o_aload 297 W at_295 rfl rfl ?_
        refine o_aload 299 W at_297 rfl rfl ?_
        refine o_virtual 302 [(.ref t)] W (tw hw 87) (tw hw 88) (tw hw 90) (tw hw 89) (tw hw 6) (tw hw 91) (Xq.1) (con_seq l Z b0 hw q t [] ([].map own_low) (by first | decide | simp) own_ch0 (by first | decide | simp) (own_lowch own_ch0) _ W.old Xq Xt cz hcz SC) pd16 at_299 rfl all0 (fun T h v W qq gg => ?_)
        obtain ⟨_, rfl, rfl, rfl⟩ := qq
        show Go p e below _ _ (mkF m 302 #[.val (.int x0), .val (.int x1), .val (.int x2), .val (.int x3), .val (.int x4), .val (.int sel), .val (.ref u2), .val (.int c0), .val (.int c1), .val (.int c2), .val (.int ln), .val (.ref o), .val (.ref q), .val (.ref t)] [(.int (own_bi (decide ([] = [].map own_low))))])
        exact o_nret W 1 (by simp) (by rw [decide_eq_true (by rfl)]; decide) at_302 (rfl)
    · refine o_getS 28 W (tw hw 99) S1 at_25 fun T W => ?_
      refine o_goto 34 W at_28 ?_
      refine o_astore 36 W #[.val (.int x0), .val (.int x1), .val (.int x2), .val (.int x3), .val (.int x4), .val (.int sel), .val (.ref u1), .unset, .unset, .unset, .unset, .unset, .unset, .unset] at_34 rfl rfl ?_
      refine o_iloadN 37 W at_36 rfl ?_
      refine o_sipush 40 W (255) at_37 (by first | rfl | decide) ?_
      refine o_iand 41 W at_40 ?_
      refine o_i2c 42 W at_41 ?_
      refine o_istore 44 W #[.val (.int x0), .val (.int x1), .val (.int x2), .val (.int x3), .val (.int x4), .val (.int sel), .val (.ref u1), .val (.int ((x2 &&& (255 : Int32)).toUInt32.toUInt16.toUInt32.toInt32)), .unset, .unset, .unset, .unset, .unset, .unset] at_42 rfl ?_
      refine o_iloadN 45 W at_44 rfl ?_
      refine o_sipush 48 W (255) at_45 (by first | rfl | decide) ?_
      refine o_iand 49 W at_48 ?_
      refine o_i2c 50 W at_49 ?_
      refine o_istore 52 W #[.val (.int x0), .val (.int x1), .val (.int x2), .val (.int x3), .val (.int x4), .val (.int sel), .val (.ref u1), .val (.int ((x2 &&& (255 : Int32)).toUInt32.toUInt16.toUInt32.toInt32)), .val (.int ((x3 &&& (255 : Int32)).toUInt32.toUInt16.toUInt32.toInt32)), .unset, .unset, .unset, .unset, .unset] at_50 rfl ?_
      refine o_iload 54 W at_52 rfl ?_
      refine o_sipush 57 W (255) at_54 (by first | rfl | decide) ?_
      refine o_iand 58 W at_57 ?_
      refine o_i2c 59 W at_58 ?_
      refine o_istore 61 W #[.val (.int x0), .val (.int x1), .val (.int x2), .val (.int x3), .val (.int x4), .val (.int sel), .val (.ref u1), .val (.int ((x2 &&& (255 : Int32)).toUInt32.toUInt16.toUInt32.toInt32)), .val (.int ((x3 &&& (255 : Int32)).toUInt32.toUInt16.toUInt32.toInt32)), .val (.int ((x4 &&& (255 : Int32)).toUInt32.toUInt16.toUInt32.toInt32)), .unset, .unset, .unset, .unset] at_59 rfl ?_
      refine o_iloadN 62 W at_61 rfl ?_
      refine o_iconst 63 W (3) at_62 (by first | rfl | decide) ?_
      refine o_iand 64 W at_63 ?_
      refine o_istore 66 W #[.val (.int x0), .val (.int x1), .val (.int x2), .val (.int x3), .val (.int x4), .val (.int sel), .val (.ref u1), .val (.int ((x2 &&& (255 : Int32)).toUInt32.toUInt16.toUInt32.toInt32)), .val (.int ((x3 &&& (255 : Int32)).toUInt32.toUInt16.toUInt32.toInt32)), .val (.int ((x4 &&& (255 : Int32)).toUInt32.toUInt16.toUInt32.toInt32)), .val (.int (x1 &&& (3 : Int32))), .unset, .unset, .unset] at_64 rfl ?_
      have r0 := own_c255 x2
      generalize ((x2 &&& (255 : Int32)).toUInt32.toUInt16.toUInt32.toInt32) = c0 at r0 ⊢
      have r1 := own_c255 x3
      generalize ((x3 &&& (255 : Int32)).toUInt32.toUInt16.toUInt32.toInt32) = c1 at r1 ⊢
      have r2 := own_c255 x4
      generalize ((x4 &&& (255 : Int32)).toUInt32.toUInt16.toUInt32.toInt32) = c2 at r2 ⊢
      show Go p e below _ _ (mkF m 66 #[.val (.int x0), .val (.int x1), .val (.int x2), .val (.int x3), .val (.int x4), .val (.int sel), .val (.ref u1), .val (.int c0), .val (.int c1), .val (.int c2), .val (.int (x1 &&& (3 : Int32))), .unset, .unset, .unset] [])
      generalize (x1 &&& (3 : Int32)) = ln
      show Go p e below _ _ (mkF m 66 #[.val (.int x0), .val (.int x1), .val (.int x2), .val (.int x3), .val (.int x4), .val (.int sel), .val (.ref u1), .val (.int c0), .val (.int c1), .val (.int c2), .val (.int ln), .unset, .unset, .unset] [])
      refine o_iload 68 W at_66 rfl ?_
      refine o_ifne 98 71 W at_68 (fun cz_ => ?_) (fun cz_ => ?_)
      · refine o_iload 100 W at_98 rfl ?_
        refine o_iconst 101 W (1) at_100 (by first | rfl | decide) ?_
        refine o_icne 144 104 W at_101 (fun ca => ?_) (fun ca => ?_)
        · refine o_iload 146 W at_144 rfl ?_
          refine o_iconst 147 W (2) at_146 (by first | rfl | decide) ?_
          refine o_icne 203 150 W at_147 (fun cb => ?_) (fun cb => ?_)
          · refine o_new 206 W (tw hw 4) (tw hw 5) (tw hw 6) at_203 (fun T h o W Eo Ao Do go zo => ?_)
            have Po := Do (Or.inr (tw hw 33)) (ty := .array .byte) (by decide)
            have Co := Do (Or.inr (tw hw 31)) (ty := .byte) (by decide)
            refine o_dup 207 W at_206 rfl ?_
            refine o_iconst 208 W (3) at_207 (by first | rfl | decide) ?_
            refine o_newarray 210 3 W (tw hw 7) at_208 (by decide) (by decide) (fun T h d kd W Ed Ad gd zd => ?_)
            have Ad := own_pad 3 Ad
            refine o_dup 211 W at_210 rfl ?_
            refine o_iconst 212 W (0) at_211 (by first | rfl | decide) ?_
            refine o_iload 214 W at_212 rfl ?_
            refine o_castore 215 0 W Ad (by decide) rfl (by first | decide | simp) zd at_214 (fun T h W w0 Ad => ?_)
            have Ed := own_ext_wr Ed w0 gd
            refine o_dup 216 W at_215 rfl ?_
            refine o_iconst 217 W (1) at_216 (by first | rfl | decide) ?_
            refine o_iload 219 W at_217 rfl ?_
            refine o_castore 220 1 W Ad (by decide) rfl (by first | decide | simp) zd at_219 (fun T h W w1 Ad => ?_)
            have Ed := own_ext_wr Ed w1 gd
            refine o_dup 221 W at_220 rfl ?_
            refine o_iconst 222 W (2) at_221 (by first | rfl | decide) ?_
            refine o_iload 224 W at_222 rfl ?_
            refine o_castore 225 2 W Ad (by decide) rfl (by first | decide | simp) zd at_224 (fun T h W w2 Ad => ?_)
            have Ed := own_ext_wr Ed w2 gd
            simp only [own_nar r0, own_nar r1, own_nar r2] at Ad
            have Ad : Arv Z h d kd .char 3 ([c0, c1, c2].map Value.int) (.int 0) := Ad
            have Ao := Ao.ext Ed
            have Po := Po.ext Ed
            have Co := Co.ext Ed
            refine o_special 228 [(.ref d)] W (tw hw 8) (tw hw 9) (tw hw 6) (tw hw 10) (con_sin l Z b0 hw o d kd 3 [c0, c1, c2] rfl (by first | decide | simp) (own_chS r0 (own_chS r1 (own_chS r2 own_ch0))) _ W.old Ad Ao Po Co zo cz hcz SC) pd13 at_225 rfl (by simp) (fun T h v W qq gg => ?_)
            obtain ⟨rfl, Ko, Xo⟩ := qq
            show Go p e below _ _ (mkF m 228 #[.val (.int x0), .val (.int x1), .val (.int x2), .val (.int x3), .val (.int x4), .val (.int sel), .val (.ref u1), .val (.int c0), .val (.int c1), .val (.int c2), .val (.int ln), .unset, .unset, .unset] [(.ref o)])
            refine o_astore 230 W #[.val (.int x0), .val (.int x1), .val (.int x2), .val (.int x3), .val (.int x4), .val (.int sel), .val (.ref u1), .val (.int c0), .val (.int c1), .val (.int c2), .val (.int ln), .val (.ref o), .unset, .unset] at_228 rfl rfl ?_
            refine o_new 233 W (tw hw 4) (tw hw 5) (tw hw 6) at_230 (fun T h q W Eq Aq Dq gq zq => ?_)
            have Pq := Dq (Or.inr (tw hw 33)) (ty := .array .byte) (by decide)
            have Cq := Dq (Or.inr (tw hw 31)) (ty := .byte) (by decide)
            refine o_dup 234 W at_233 rfl ?_
            refine o_iconst 235 W (3) at_234 (by first | rfl | decide) ?_
            refine o_newarray 237 3 W (tw hw 7) at_235 (by decide) (by decide) (fun T h ea kea W Eea Aea gea zea => ?_)
            have Aea := own_pad 3 Aea
            refine o_dup 238 W at_237 rfl ?_
            refine o_iconst 239 W (0) at_238 (by first | rfl | decide) ?_
            refine o_iload 241 W at_239 rfl ?_
            refine o_static 244 [(.int c0)] W (tw hw 34) (tw hw 35) (tw hw 36) (tw hw 37) (con_low l Z b0 hw c0 r0 _ W.old) pd14 at_241 rfl all0 (fun T h v W qq gg => ?_)
            obtain ⟨_, rfl, rfl, rfl⟩ := qq
            show Go p e below _ _ (mkF m 244 #[.val (.int x0), .val (.int x1), .val (.int x2), .val (.int x3), .val (.int x4), .val (.int sel), .val (.ref u1), .val (.int c0), .val (.int c1), .val (.int c2), .val (.int ln), .val (.ref o), .unset, .unset] [(.int (own_low c0)), (.int (0 : Int32)), (.ref ea), (.ref ea), (.ref q), (.ref q)])
            refine o_castore 245 0 W Aea (by decide) rfl (by first | decide | simp) zea at_244 (fun T h W w0 Aea => ?_)
            have Eea := own_ext_wr Eea w0 gea
            refine o_dup 246 W at_245 rfl ?_
            refine o_iconst 247 W (1) at_246 (by first | rfl | decide) ?_
            refine o_iload 249 W at_247 rfl ?_
            refine o_static 252 [(.int c1)] W (tw hw 34) (tw hw 35) (tw hw 36) (tw hw 37) (con_low l Z b0 hw c1 r1 _ W.old) pd14 at_249 rfl all0 (fun T h v W qq gg => ?_)
            obtain ⟨_, rfl, rfl, rfl⟩ := qq
            show Go p e below _ _ (mkF m 252 #[.val (.int x0), .val (.int x1), .val (.int x2), .val (.int x3), .val (.int x4), .val (.int sel), .val (.ref u1), .val (.int c0), .val (.int c1), .val (.int c2), .val (.int ln), .val (.ref o), .unset, .unset] [(.int (own_low c1)), (.int (1 : Int32)), (.ref ea), (.ref ea), (.ref q), (.ref q)])
            refine o_castore 253 1 W Aea (by decide) rfl (by first | decide | simp) zea at_252 (fun T h W w1 Aea => ?_)
            have Eea := own_ext_wr Eea w1 gea
            refine o_dup 254 W at_253 rfl ?_
            refine o_iconst 255 W (2) at_254 (by first | rfl | decide) ?_
            refine o_iload 257 W at_255 rfl ?_
            refine o_static 260 [(.int c2)] W (tw hw 34) (tw hw 35) (tw hw 36) (tw hw 37) (con_low l Z b0 hw c2 r2 _ W.old) pd14 at_257 rfl all0 (fun T h v W qq gg => ?_)
            obtain ⟨_, rfl, rfl, rfl⟩ := qq
            show Go p e below _ _ (mkF m 260 #[.val (.int x0), .val (.int x1), .val (.int x2), .val (.int x3), .val (.int x4), .val (.int sel), .val (.ref u1), .val (.int c0), .val (.int c1), .val (.int c2), .val (.int ln), .val (.ref o), .unset, .unset] [(.int (own_low c2)), (.int (2 : Int32)), (.ref ea), (.ref ea), (.ref q), (.ref q)])
            refine o_castore 261 2 W Aea (by decide) rfl (by first | decide | simp) zea at_260 (fun T h W w2 Aea => ?_)
            have Eea := own_ext_wr Eea w2 gea
            simp only [own_nar (own_lowr r0), own_nar (own_lowr r1), own_nar (own_lowr r2)] at Aea
            have Aea : Arv Z h ea kea .char 3 ([(own_low c0), (own_low c1), (own_low c2)].map Value.int) (.int 0) := Aea
            have Aq := Aq.ext Eea
            have Pq := Pq.ext Eea
            have Cq := Cq.ext Eea
            refine o_special 264 [(.ref ea)] W (tw hw 8) (tw hw 9) (tw hw 6) (tw hw 10) (con_sin l Z b0 hw q ea kea 3 [(own_low c0), (own_low c1), (own_low c2)] rfl (by first | decide | simp) (own_chS (own_lowr r0) (own_chS (own_lowr r1) (own_chS (own_lowr r2) own_ch0))) _ W.old Aea Aq Pq Cq zq cz hcz SC) pd13 at_261 rfl (by simp) (fun T h v W qq gg => ?_)
            obtain ⟨rfl, Kq, Xq⟩ := qq
            show Go p e below _ _ (mkF m 264 #[.val (.int x0), .val (.int x1), .val (.int x2), .val (.int x3), .val (.int x4), .val (.int sel), .val (.ref u1), .val (.int c0), .val (.int c1), .val (.int c2), .val (.int ln), .val (.ref o), .unset, .unset] [(.ref q)])
            have Xo := Xo.ext (own_ext_keep (own_ext_trans Eq Eea) Kq gq)
            refine o_astore 266 W #[.val (.int x0), .val (.int x1), .val (.int x2), .val (.int x3), .val (.int x4), .val (.int sel), .val (.ref u1), .val (.int c0), .val (.int c1), .val (.int c2), .val (.int ln), .val (.ref o), .val (.ref q), .unset] at_264 rfl rfl ?_
            refine o_new 269 W (tw hw 38) (tw hw 39) (tw hw 40) at_266 (fun T h b W Eb Ab Db gb zb => ?_)
            have Fb := Db (Or.inr (tw hw 74)) (ty := (.object "com/example/gatewarden/gatewarden/access/Assignee$Kind")) (by decide)
            have Gb := Db (Or.inr (tw hw 76)) (ty := (.object "java/lang/String")) (by decide)
            refine o_dup 270 W at_269 rfl ?_
            refine o_aload 272 W at_270 rfl rfl ?_
            refine o_aload 274 W at_272 rfl rfl ?_
            have Xq0 := Xq
            have Xo := Xo.ext Eb
            refine o_special 277 [(.ref u1), (.ref o)] W (tw hw 41) (tw hw 42) (tw hw 40) (tw hw 43) (con_ain l Z b0 hw b u1 o [c0, c1, c2] (by first | decide | simp) (own_chS r0 (own_chS r1 (own_chS r2 own_ch0))) lo bl lg EL0 EB GB GL XL qi SQ EQ SR _ W.old Xo Ab Fb Gb zb cz hcz SC) pd15 at_274 rfl all0 (fun T h v W qq gg => ?_)
            obtain ⟨rfl, Kb, Ab, Fb, t, Gb, Xt⟩ := qq
            show Go p e below _ _ (mkF m 277 #[.val (.int x0), .val (.int x1), .val (.int x2), .val (.int x3), .val (.int x4), .val (.int sel), .val (.ref u1), .val (.int c0), .val (.int c1), .val (.int c2), .val (.int ln), .val (.ref o), .val (.ref q), .unset] [(.ref b)])
            have Xq := Xq0.ext (own_ext_keep Eb Kb gb)
            refine o_virtual 280 [] W (tw hw 77) (tw hw 78) (tw hw 80) (tw hw 79) (tw hw 40) (tw hw 81) (Ab) (con_viaN l Z b0 hw b u1 t u0 S0 _ W.old n10 Fb Gb) pd5 at_277 rfl all0 (fun T h v W qq gg => ?_)
            obtain ⟨_, rfl, rfl, rfl⟩ := qq
            show Go p e below _ _ (mkF m 280 #[.val (.int x0), .val (.int x1), .val (.int x2), .val (.int x3), .val (.int x4), .val (.int sel), .val (.ref u1), .val (.int c0), .val (.int c1), .val (.int c2), .val (.int ln), .val (.ref o), .val (.ref q), .unset] [(.ref t)])
            refine o_astore 282 W #[.val (.int x0), .val (.int x1), .val (.int x2), .val (.int x3), .val (.int x4), .val (.int sel), .val (.ref u1), .val (.int c0), .val (.int c1), .val (.int c2), .val (.int ln), .val (.ref o), .val (.ref q), .val (.ref t)] at_280 rfl rfl ?_
            refine o_iload 284 W at_282 rfl ?_
            refine o_ifY 295 W at_284 (XT.i0_ne_t cse) ?_
            refine o_aload 297 W at_295 rfl rfl ?_
            refine o_aload 299 W at_297 rfl rfl ?_
            refine o_virtual 302 [(.ref t)] W (tw hw 87) (tw hw 88) (tw hw 90) (tw hw 89) (tw hw 6) (tw hw 91) (Xq.1) (con_seq l Z b0 hw q t [(own_low c0), (own_low c1), (own_low c2)] ([c0, c1, c2].map own_low) (by first | decide | simp) (own_chS (own_lowr r0) (own_chS (own_lowr r1) (own_chS (own_lowr r2) own_ch0))) (by first | decide | simp) (own_lowch (own_chS r0 (own_chS r1 (own_chS r2 own_ch0)))) _ W.old Xq Xt cz hcz SC) pd16 at_299 rfl all0 (fun T h v W qq gg => ?_)
            obtain ⟨_, rfl, rfl, rfl⟩ := qq
            show Go p e below _ _ (mkF m 302 #[.val (.int x0), .val (.int x1), .val (.int x2), .val (.int x3), .val (.int x4), .val (.int sel), .val (.ref u1), .val (.int c0), .val (.int c1), .val (.int c2), .val (.int ln), .val (.ref o), .val (.ref q), .val (.ref t)] [(.int (own_bi (decide ([(own_low c0), (own_low c1), (own_low c2)] = [c0, c1, c2].map own_low))))])
            exact o_nret W 1 (by simp) (by rw [decide_eq_true (by rfl)]; decide) at_302 (rfl)
          · refine o_new 153 W (tw hw 4) (tw hw 5) (tw hw 6) at_150 (fun T h o W Eo Ao Do go zo => ?_)
            have Po := Do (Or.inr (tw hw 33)) (ty := .array .byte) (by decide)
            have Co := Do (Or.inr (tw hw 31)) (ty := .byte) (by decide)
            refine o_dup 154 W at_153 rfl ?_
            refine o_iconst 155 W (2) at_154 (by first | rfl | decide) ?_
            refine o_newarray 157 2 W (tw hw 7) at_155 (by decide) (by decide) (fun T h d kd W Ed Ad gd zd => ?_)
            have Ad := own_pad 2 Ad
            refine o_dup 158 W at_157 rfl ?_
            refine o_iconst 159 W (0) at_158 (by first | rfl | decide) ?_
            refine o_iload 161 W at_159 rfl ?_
            refine o_castore 162 0 W Ad (by decide) rfl (by first | decide | simp) zd at_161 (fun T h W w0 Ad => ?_)
            have Ed := own_ext_wr Ed w0 gd
            refine o_dup 163 W at_162 rfl ?_
            refine o_iconst 164 W (1) at_163 (by first | rfl | decide) ?_
            refine o_iload 166 W at_164 rfl ?_
            refine o_castore 167 1 W Ad (by decide) rfl (by first | decide | simp) zd at_166 (fun T h W w1 Ad => ?_)
            have Ed := own_ext_wr Ed w1 gd
            simp only [own_nar r0, own_nar r1] at Ad
            have Ad : Arv Z h d kd .char 2 ([c0, c1].map Value.int) (.int 0) := Ad
            have Ao := Ao.ext Ed
            have Po := Po.ext Ed
            have Co := Co.ext Ed
            refine o_special 170 [(.ref d)] W (tw hw 8) (tw hw 9) (tw hw 6) (tw hw 10) (con_sin l Z b0 hw o d kd 2 [c0, c1] rfl (by first | decide | simp) (own_chS r0 (own_chS r1 own_ch0)) _ W.old Ad Ao Po Co zo cz hcz SC) pd13 at_167 rfl (by simp) (fun T h v W qq gg => ?_)
            obtain ⟨rfl, Ko, Xo⟩ := qq
            show Go p e below _ _ (mkF m 170 #[.val (.int x0), .val (.int x1), .val (.int x2), .val (.int x3), .val (.int x4), .val (.int sel), .val (.ref u1), .val (.int c0), .val (.int c1), .val (.int c2), .val (.int ln), .unset, .unset, .unset] [(.ref o)])
            refine o_astore 172 W #[.val (.int x0), .val (.int x1), .val (.int x2), .val (.int x3), .val (.int x4), .val (.int sel), .val (.ref u1), .val (.int c0), .val (.int c1), .val (.int c2), .val (.int ln), .val (.ref o), .unset, .unset] at_170 rfl rfl ?_
            refine o_new 175 W (tw hw 4) (tw hw 5) (tw hw 6) at_172 (fun T h q W Eq Aq Dq gq zq => ?_)
            have Pq := Dq (Or.inr (tw hw 33)) (ty := .array .byte) (by decide)
            have Cq := Dq (Or.inr (tw hw 31)) (ty := .byte) (by decide)
            refine o_dup 176 W at_175 rfl ?_
            refine o_iconst 177 W (2) at_176 (by first | rfl | decide) ?_
            refine o_newarray 179 2 W (tw hw 7) at_177 (by decide) (by decide) (fun T h ea kea W Eea Aea gea zea => ?_)
            have Aea := own_pad 2 Aea
            refine o_dup 180 W at_179 rfl ?_
            refine o_iconst 181 W (0) at_180 (by first | rfl | decide) ?_
            refine o_iload 183 W at_181 rfl ?_
            refine o_static 186 [(.int c0)] W (tw hw 34) (tw hw 35) (tw hw 36) (tw hw 37) (con_low l Z b0 hw c0 r0 _ W.old) pd14 at_183 rfl all0 (fun T h v W qq gg => ?_)
            obtain ⟨_, rfl, rfl, rfl⟩ := qq
            show Go p e below _ _ (mkF m 186 #[.val (.int x0), .val (.int x1), .val (.int x2), .val (.int x3), .val (.int x4), .val (.int sel), .val (.ref u1), .val (.int c0), .val (.int c1), .val (.int c2), .val (.int ln), .val (.ref o), .unset, .unset] [(.int (own_low c0)), (.int (0 : Int32)), (.ref ea), (.ref ea), (.ref q), (.ref q)])
            refine o_castore 187 0 W Aea (by decide) rfl (by first | decide | simp) zea at_186 (fun T h W w0 Aea => ?_)
            have Eea := own_ext_wr Eea w0 gea
            refine o_dup 188 W at_187 rfl ?_
            refine o_iconst 189 W (1) at_188 (by first | rfl | decide) ?_
            refine o_iload 191 W at_189 rfl ?_
            refine o_static 194 [(.int c1)] W (tw hw 34) (tw hw 35) (tw hw 36) (tw hw 37) (con_low l Z b0 hw c1 r1 _ W.old) pd14 at_191 rfl all0 (fun T h v W qq gg => ?_)
            obtain ⟨_, rfl, rfl, rfl⟩ := qq
            show Go p e below _ _ (mkF m 194 #[.val (.int x0), .val (.int x1), .val (.int x2), .val (.int x3), .val (.int x4), .val (.int sel), .val (.ref u1), .val (.int c0), .val (.int c1), .val (.int c2), .val (.int ln), .val (.ref o), .unset, .unset] [(.int (own_low c1)), (.int (1 : Int32)), (.ref ea), (.ref ea), (.ref q), (.ref q)])
            refine o_castore 195 1 W Aea (by decide) rfl (by first | decide | simp) zea at_194 (fun T h W w1 Aea => ?_)
            have Eea := own_ext_wr Eea w1 gea
            simp only [own_nar (own_lowr r0), own_nar (own_lowr r1)] at Aea
            have Aea : Arv Z h ea kea .char 2 ([(own_low c0), (own_low c1)].map Value.int) (.int 0) := Aea
            have Aq := Aq.ext Eea
            have Pq := Pq.ext Eea
            have Cq := Cq.ext Eea
            refine o_special 198 [(.ref ea)] W (tw hw 8) (tw hw 9) (tw hw 6) (tw hw 10) (con_sin l Z b0 hw q ea kea 2 [(own_low c0), (own_low c1)] rfl (by first | decide | simp) (own_chS (own_lowr r0) (own_chS (own_lowr r1) own_ch0)) _ W.old Aea Aq Pq Cq zq cz hcz SC) pd13 at_195 rfl (by simp) (fun T h v W qq gg => ?_)
            obtain ⟨rfl, Kq, Xq⟩ := qq
            show Go p e below _ _ (mkF m 198 #[.val (.int x0), .val (.int x1), .val (.int x2), .val (.int x3), .val (.int x4), .val (.int sel), .val (.ref u1), .val (.int c0), .val (.int c1), .val (.int c2), .val (.int ln), .val (.ref o), .unset, .unset] [(.ref q)])
            have Xo := Xo.ext (own_ext_keep (own_ext_trans Eq Eea) Kq gq)
            refine o_astore 200 W #[.val (.int x0), .val (.int x1), .val (.int x2), .val (.int x3), .val (.int x4), .val (.int sel), .val (.ref u1), .val (.int c0), .val (.int c1), .val (.int c2), .val (.int ln), .val (.ref o), .val (.ref q), .unset] at_198 rfl rfl ?_
            refine o_goto 266 W at_200 ?_
            refine o_new 269 W (tw hw 38) (tw hw 39) (tw hw 40) at_266 (fun T h b W Eb Ab Db gb zb => ?_)
            have Fb := Db (Or.inr (tw hw 74)) (ty := (.object "com/example/gatewarden/gatewarden/access/Assignee$Kind")) (by decide)
            have Gb := Db (Or.inr (tw hw 76)) (ty := (.object "java/lang/String")) (by decide)
            refine o_dup 270 W at_269 rfl ?_
            refine o_aload 272 W at_270 rfl rfl ?_
            refine o_aload 274 W at_272 rfl rfl ?_
            have Xq0 := Xq
            have Xo := Xo.ext Eb
            refine o_special 277 [(.ref u1), (.ref o)] W (tw hw 41) (tw hw 42) (tw hw 40) (tw hw 43) (con_ain l Z b0 hw b u1 o [c0, c1] (by first | decide | simp) (own_chS r0 (own_chS r1 own_ch0)) lo bl lg EL0 EB GB GL XL qi SQ EQ SR _ W.old Xo Ab Fb Gb zb cz hcz SC) pd15 at_274 rfl all0 (fun T h v W qq gg => ?_)
            obtain ⟨rfl, Kb, Ab, Fb, t, Gb, Xt⟩ := qq
            show Go p e below _ _ (mkF m 277 #[.val (.int x0), .val (.int x1), .val (.int x2), .val (.int x3), .val (.int x4), .val (.int sel), .val (.ref u1), .val (.int c0), .val (.int c1), .val (.int c2), .val (.int ln), .val (.ref o), .val (.ref q), .unset] [(.ref b)])
            have Xq := Xq0.ext (own_ext_keep Eb Kb gb)
            refine o_virtual 280 [] W (tw hw 77) (tw hw 78) (tw hw 80) (tw hw 79) (tw hw 40) (tw hw 81) (Ab) (con_viaN l Z b0 hw b u1 t u0 S0 _ W.old n10 Fb Gb) pd5 at_277 rfl all0 (fun T h v W qq gg => ?_)
            obtain ⟨_, rfl, rfl, rfl⟩ := qq
            show Go p e below _ _ (mkF m 280 #[.val (.int x0), .val (.int x1), .val (.int x2), .val (.int x3), .val (.int x4), .val (.int sel), .val (.ref u1), .val (.int c0), .val (.int c1), .val (.int c2), .val (.int ln), .val (.ref o), .val (.ref q), .unset] [(.ref t)])
            refine o_astore 282 W #[.val (.int x0), .val (.int x1), .val (.int x2), .val (.int x3), .val (.int x4), .val (.int sel), .val (.ref u1), .val (.int c0), .val (.int c1), .val (.int c2), .val (.int ln), .val (.ref o), .val (.ref q), .val (.ref t)] at_280 rfl rfl ?_
            refine o_iload 284 W at_282 rfl ?_
            refine o_ifY 295 W at_284 (XT.i0_ne_t cse) ?_
            refine o_aload 297 W at_295 rfl rfl ?_
            refine o_aload 299 W at_297 rfl rfl ?_
            refine o_virtual 302 [(.ref t)] W (tw hw 87) (tw hw 88) (tw hw 90) (tw hw 89) (tw hw 6) (tw hw 91) (Xq.1) (con_seq l Z b0 hw q t [(own_low c0), (own_low c1)] ([c0, c1].map own_low) (by first | decide | simp) (own_chS (own_lowr r0) (own_chS (own_lowr r1) own_ch0)) (by first | decide | simp) (own_lowch (own_chS r0 (own_chS r1 own_ch0))) _ W.old Xq Xt cz hcz SC) pd16 at_299 rfl all0 (fun T h v W qq gg => ?_)
            obtain ⟨_, rfl, rfl, rfl⟩ := qq
            show Go p e below _ _ (mkF m 302 #[.val (.int x0), .val (.int x1), .val (.int x2), .val (.int x3), .val (.int x4), .val (.int sel), .val (.ref u1), .val (.int c0), .val (.int c1), .val (.int c2), .val (.int ln), .val (.ref o), .val (.ref q), .val (.ref t)] [(.int (own_bi (decide ([(own_low c0), (own_low c1)] = [c0, c1].map own_low))))])
            exact o_nret W 1 (by simp) (by rw [decide_eq_true (by rfl)]; decide) at_302 (rfl)
        · refine o_new 107 W (tw hw 4) (tw hw 5) (tw hw 6) at_104 (fun T h o W Eo Ao Do go zo => ?_)
          have Po := Do (Or.inr (tw hw 33)) (ty := .array .byte) (by decide)
          have Co := Do (Or.inr (tw hw 31)) (ty := .byte) (by decide)
          refine o_dup 108 W at_107 rfl ?_
          refine o_iconst 109 W (1) at_108 (by first | rfl | decide) ?_
          refine o_newarray 111 1 W (tw hw 7) at_109 (by decide) (by decide) (fun T h d kd W Ed Ad gd zd => ?_)
          have Ad := own_pad 1 Ad
          refine o_dup 112 W at_111 rfl ?_
          refine o_iconst 113 W (0) at_112 (by first | rfl | decide) ?_
          refine o_iload 115 W at_113 rfl ?_
          refine o_castore 116 0 W Ad (by decide) rfl (by first | decide | simp) zd at_115 (fun T h W w0 Ad => ?_)
          have Ed := own_ext_wr Ed w0 gd
          simp only [own_nar r0] at Ad
          have Ad : Arv Z h d kd .char 1 ([c0].map Value.int) (.int 0) := Ad
          have Ao := Ao.ext Ed
          have Po := Po.ext Ed
          have Co := Co.ext Ed
          refine o_special 119 [(.ref d)] W (tw hw 8) (tw hw 9) (tw hw 6) (tw hw 10) (con_sin l Z b0 hw o d kd 1 [c0] rfl (by first | decide | simp) (own_chS r0 own_ch0) _ W.old Ad Ao Po Co zo cz hcz SC) pd13 at_116 rfl (by simp) (fun T h v W qq gg => ?_)
          obtain ⟨rfl, Ko, Xo⟩ := qq
          show Go p e below _ _ (mkF m 119 #[.val (.int x0), .val (.int x1), .val (.int x2), .val (.int x3), .val (.int x4), .val (.int sel), .val (.ref u1), .val (.int c0), .val (.int c1), .val (.int c2), .val (.int ln), .unset, .unset, .unset] [(.ref o)])
          refine o_astore 121 W #[.val (.int x0), .val (.int x1), .val (.int x2), .val (.int x3), .val (.int x4), .val (.int sel), .val (.ref u1), .val (.int c0), .val (.int c1), .val (.int c2), .val (.int ln), .val (.ref o), .unset, .unset] at_119 rfl rfl ?_
          refine o_new 124 W (tw hw 4) (tw hw 5) (tw hw 6) at_121 (fun T h q W Eq Aq Dq gq zq => ?_)
          have Pq := Dq (Or.inr (tw hw 33)) (ty := .array .byte) (by decide)
          have Cq := Dq (Or.inr (tw hw 31)) (ty := .byte) (by decide)
          refine o_dup 125 W at_124 rfl ?_
          refine o_iconst 126 W (1) at_125 (by first | rfl | decide) ?_
          refine o_newarray 128 1 W (tw hw 7) at_126 (by decide) (by decide) (fun T h ea kea W Eea Aea gea zea => ?_)
          have Aea := own_pad 1 Aea
          refine o_dup 129 W at_128 rfl ?_
          refine o_iconst 130 W (0) at_129 (by first | rfl | decide) ?_
          refine o_iload 132 W at_130 rfl ?_
          refine o_static 135 [(.int c0)] W (tw hw 34) (tw hw 35) (tw hw 36) (tw hw 37) (con_low l Z b0 hw c0 r0 _ W.old) pd14 at_132 rfl all0 (fun T h v W qq gg => ?_)
          obtain ⟨_, rfl, rfl, rfl⟩ := qq
          show Go p e below _ _ (mkF m 135 #[.val (.int x0), .val (.int x1), .val (.int x2), .val (.int x3), .val (.int x4), .val (.int sel), .val (.ref u1), .val (.int c0), .val (.int c1), .val (.int c2), .val (.int ln), .val (.ref o), .unset, .unset] [(.int (own_low c0)), (.int (0 : Int32)), (.ref ea), (.ref ea), (.ref q), (.ref q)])
          refine o_castore 136 0 W Aea (by decide) rfl (by first | decide | simp) zea at_135 (fun T h W w0 Aea => ?_)
          have Eea := own_ext_wr Eea w0 gea
          simp only [own_nar (own_lowr r0)] at Aea
          have Aea : Arv Z h ea kea .char 1 ([(own_low c0)].map Value.int) (.int 0) := Aea
          have Aq := Aq.ext Eea
          have Pq := Pq.ext Eea
          have Cq := Cq.ext Eea
          refine o_special 139 [(.ref ea)] W (tw hw 8) (tw hw 9) (tw hw 6) (tw hw 10) (con_sin l Z b0 hw q ea kea 1 [(own_low c0)] rfl (by first | decide | simp) (own_chS (own_lowr r0) own_ch0) _ W.old Aea Aq Pq Cq zq cz hcz SC) pd13 at_136 rfl (by simp) (fun T h v W qq gg => ?_)
          obtain ⟨rfl, Kq, Xq⟩ := qq
          show Go p e below _ _ (mkF m 139 #[.val (.int x0), .val (.int x1), .val (.int x2), .val (.int x3), .val (.int x4), .val (.int sel), .val (.ref u1), .val (.int c0), .val (.int c1), .val (.int c2), .val (.int ln), .val (.ref o), .unset, .unset] [(.ref q)])
          have Xo := Xo.ext (own_ext_keep (own_ext_trans Eq Eea) Kq gq)
          refine o_astore 141 W #[.val (.int x0), .val (.int x1), .val (.int x2), .val (.int x3), .val (.int x4), .val (.int sel), .val (.ref u1), .val (.int c0), .val (.int c1), .val (.int c2), .val (.int ln), .val (.ref o), .val (.ref q), .unset] at_139 rfl rfl ?_
          refine o_goto 266 W at_141 ?_
          refine o_new 269 W (tw hw 38) (tw hw 39) (tw hw 40) at_266 (fun T h b W Eb Ab Db gb zb => ?_)
          have Fb := Db (Or.inr (tw hw 74)) (ty := (.object "com/example/gatewarden/gatewarden/access/Assignee$Kind")) (by decide)
          have Gb := Db (Or.inr (tw hw 76)) (ty := (.object "java/lang/String")) (by decide)
          refine o_dup 270 W at_269 rfl ?_
          refine o_aload 272 W at_270 rfl rfl ?_
          refine o_aload 274 W at_272 rfl rfl ?_
          have Xq0 := Xq
          have Xo := Xo.ext Eb
          refine o_special 277 [(.ref u1), (.ref o)] W (tw hw 41) (tw hw 42) (tw hw 40) (tw hw 43) (con_ain l Z b0 hw b u1 o [c0] (by first | decide | simp) (own_chS r0 own_ch0) lo bl lg EL0 EB GB GL XL qi SQ EQ SR _ W.old Xo Ab Fb Gb zb cz hcz SC) pd15 at_274 rfl all0 (fun T h v W qq gg => ?_)
          obtain ⟨rfl, Kb, Ab, Fb, t, Gb, Xt⟩ := qq
          show Go p e below _ _ (mkF m 277 #[.val (.int x0), .val (.int x1), .val (.int x2), .val (.int x3), .val (.int x4), .val (.int sel), .val (.ref u1), .val (.int c0), .val (.int c1), .val (.int c2), .val (.int ln), .val (.ref o), .val (.ref q), .unset] [(.ref b)])
          have Xq := Xq0.ext (own_ext_keep Eb Kb gb)
          refine o_virtual 280 [] W (tw hw 77) (tw hw 78) (tw hw 80) (tw hw 79) (tw hw 40) (tw hw 81) (Ab) (con_viaN l Z b0 hw b u1 t u0 S0 _ W.old n10 Fb Gb) pd5 at_277 rfl all0 (fun T h v W qq gg => ?_)
          obtain ⟨_, rfl, rfl, rfl⟩ := qq
          show Go p e below _ _ (mkF m 280 #[.val (.int x0), .val (.int x1), .val (.int x2), .val (.int x3), .val (.int x4), .val (.int sel), .val (.ref u1), .val (.int c0), .val (.int c1), .val (.int c2), .val (.int ln), .val (.ref o), .val (.ref q), .unset] [(.ref t)])
          refine o_astore 282 W #[.val (.int x0), .val (.int x1), .val (.int x2), .val (.int x3), .val (.int x4), .val (.int sel), .val (.ref u1), .val (.int c0), .val (.int c1), .val (.int c2), .val (.int ln), .val (.ref o), .val (.ref q), .val (.ref t)] at_280 rfl rfl ?_
          refine o_iload 284 W at_282 rfl ?_
          refine o_ifY 295 W at_284 (XT.i0_ne_t cse) ?_
          refine o_aload 297 W at_295 rfl rfl ?_
          refine o_aload 299 W at_297 rfl rfl ?_
          refine o_virtual 302 [(.ref t)] W (tw hw 87) (tw hw 88) (tw hw 90) (tw hw 89) (tw hw 6) (tw hw 91) (Xq.1) (con_seq l Z b0 hw q t [(own_low c0)] ([c0].map own_low) (by first | decide | simp) (own_chS (own_lowr r0) own_ch0) (by first | decide | simp) (own_lowch (own_chS r0 own_ch0)) _ W.old Xq Xt cz hcz SC) pd16 at_299 rfl all0 (fun T h v W qq gg => ?_)
          obtain ⟨_, rfl, rfl, rfl⟩ := qq
          show Go p e below _ _ (mkF m 302 #[.val (.int x0), .val (.int x1), .val (.int x2), .val (.int x3), .val (.int x4), .val (.int sel), .val (.ref u1), .val (.int c0), .val (.int c1), .val (.int c2), .val (.int ln), .val (.ref o), .val (.ref q), .val (.ref t)] [(.int (own_bi (decide ([(own_low c0)] = [c0].map own_low))))])
          exact o_nret W 1 (by simp) (by rw [decide_eq_true (by rfl)]; decide) at_302 (rfl)
      · refine o_new 74 W (tw hw 4) (tw hw 5) (tw hw 6) at_71 (fun T h o W Eo Ao Do go zo => ?_)
        have Po := Do (Or.inr (tw hw 33)) (ty := .array .byte) (by decide)
        have Co := Do (Or.inr (tw hw 31)) (ty := .byte) (by decide)
        refine o_dup 75 W at_74 rfl ?_
        refine o_iconst 76 W (0) at_75 (by first | rfl | decide) ?_
        refine o_newarray 78 0 W (tw hw 7) at_76 (by decide) (by decide) (fun T h d kd W Ed Ad gd zd => ?_)
        have Ad := own_pad 0 Ad
        have Ad : Arv Z h d kd .char 0 ([].map Value.int) (.int 0) := Ad
        have Ao := Ao.ext Ed
        have Po := Po.ext Ed
        have Co := Co.ext Ed
        refine o_special 81 [(.ref d)] W (tw hw 8) (tw hw 9) (tw hw 6) (tw hw 10) (con_sin l Z b0 hw o d kd 0 [] rfl (by first | decide | simp) own_ch0 _ W.old Ad Ao Po Co zo cz hcz SC) pd13 at_78 rfl (by simp) (fun T h v W qq gg => ?_)
        obtain ⟨rfl, Ko, Xo⟩ := qq
        show Go p e below _ _ (mkF m 81 #[.val (.int x0), .val (.int x1), .val (.int x2), .val (.int x3), .val (.int x4), .val (.int sel), .val (.ref u1), .val (.int c0), .val (.int c1), .val (.int c2), .val (.int ln), .unset, .unset, .unset] [(.ref o)])
        refine o_astore 83 W #[.val (.int x0), .val (.int x1), .val (.int x2), .val (.int x3), .val (.int x4), .val (.int sel), .val (.ref u1), .val (.int c0), .val (.int c1), .val (.int c2), .val (.int ln), .val (.ref o), .unset, .unset] at_81 rfl rfl ?_
        refine o_new 86 W (tw hw 4) (tw hw 5) (tw hw 6) at_83 (fun T h q W Eq Aq Dq gq zq => ?_)
        have Pq := Dq (Or.inr (tw hw 33)) (ty := .array .byte) (by decide)
        have Cq := Dq (Or.inr (tw hw 31)) (ty := .byte) (by decide)
        refine o_dup 87 W at_86 rfl ?_
        refine o_iconst 88 W (0) at_87 (by first | rfl | decide) ?_
        refine o_newarray 90 0 W (tw hw 7) at_88 (by decide) (by decide) (fun T h ea kea W Eea Aea gea zea => ?_)
        have Aea := own_pad 0 Aea
        have Aea : Arv Z h ea kea .char 0 ([].map Value.int) (.int 0) := Aea
        have Aq := Aq.ext Eea
        have Pq := Pq.ext Eea
        have Cq := Cq.ext Eea
        refine o_special 93 [(.ref ea)] W (tw hw 8) (tw hw 9) (tw hw 6) (tw hw 10) (con_sin l Z b0 hw q ea kea 0 [] rfl (by first | decide | simp) own_ch0 _ W.old Aea Aq Pq Cq zq cz hcz SC) pd13 at_90 rfl (by simp) (fun T h v W qq gg => ?_)
        obtain ⟨rfl, Kq, Xq⟩ := qq
        show Go p e below _ _ (mkF m 93 #[.val (.int x0), .val (.int x1), .val (.int x2), .val (.int x3), .val (.int x4), .val (.int sel), .val (.ref u1), .val (.int c0), .val (.int c1), .val (.int c2), .val (.int ln), .val (.ref o), .unset, .unset] [(.ref q)])
        have Xo := Xo.ext (own_ext_keep (own_ext_trans Eq Eea) Kq gq)
        refine o_astore 95 W #[.val (.int x0), .val (.int x1), .val (.int x2), .val (.int x3), .val (.int x4), .val (.int sel), .val (.ref u1), .val (.int c0), .val (.int c1), .val (.int c2), .val (.int ln), .val (.ref o), .val (.ref q), .unset] at_93 rfl rfl ?_
        refine o_goto 266 W at_95 ?_
        refine o_new 269 W (tw hw 38) (tw hw 39) (tw hw 40) at_266 (fun T h b W Eb Ab Db gb zb => ?_)
        have Fb := Db (Or.inr (tw hw 74)) (ty := (.object "com/example/gatewarden/gatewarden/access/Assignee$Kind")) (by decide)
        have Gb := Db (Or.inr (tw hw 76)) (ty := (.object "java/lang/String")) (by decide)
        refine o_dup 270 W at_269 rfl ?_
        refine o_aload 272 W at_270 rfl rfl ?_
        refine o_aload 274 W at_272 rfl rfl ?_
        have Xq0 := Xq
        have Xo := Xo.ext Eb
        refine o_special 277 [(.ref u1), (.ref o)] W (tw hw 41) (tw hw 42) (tw hw 40) (tw hw 43) (con_ain l Z b0 hw b u1 o [] (by first | decide | simp) own_ch0 lo bl lg EL0 EB GB GL XL qi SQ EQ SR _ W.old Xo Ab Fb Gb zb cz hcz SC) pd15 at_274 rfl all0 (fun T h v W qq gg => ?_)
        obtain ⟨rfl, Kb, Ab, Fb, t, Gb, Xt⟩ := qq
        show Go p e below _ _ (mkF m 277 #[.val (.int x0), .val (.int x1), .val (.int x2), .val (.int x3), .val (.int x4), .val (.int sel), .val (.ref u1), .val (.int c0), .val (.int c1), .val (.int c2), .val (.int ln), .val (.ref o), .val (.ref q), .unset] [(.ref b)])
        have Xq := Xq0.ext (own_ext_keep Eb Kb gb)
        refine o_virtual 280 [] W (tw hw 77) (tw hw 78) (tw hw 80) (tw hw 79) (tw hw 40) (tw hw 81) (Ab) (con_viaN l Z b0 hw b u1 t u0 S0 _ W.old n10 Fb Gb) pd5 at_277 rfl all0 (fun T h v W qq gg => ?_)
        obtain ⟨_, rfl, rfl, rfl⟩ := qq
        show Go p e below _ _ (mkF m 280 #[.val (.int x0), .val (.int x1), .val (.int x2), .val (.int x3), .val (.int x4), .val (.int sel), .val (.ref u1), .val (.int c0), .val (.int c1), .val (.int c2), .val (.int ln), .val (.ref o), .val (.ref q), .unset] [(.ref t)])
        refine o_astore 282 W #[.val (.int x0), .val (.int x1), .val (.int x2), .val (.int x3), .val (.int x4), .val (.int sel), .val (.ref u1), .val (.int c0), .val (.int c1), .val (.int c2), .val (.int ln), .val (.ref o), .val (.ref q), .val (.ref t)] at_280 rfl rfl ?_
        refine o_iload 284 W at_282 rfl ?_
        refine o_ifY 295 W at_284 (XT.i0_ne_t cse) ?_
        refine o_aload 297 W at_295 rfl rfl ?_
        refine o_aload 299 W at_297 rfl rfl ?_
        refine o_virtual 302 [(.ref t)] W (tw hw 87) (tw hw 88) (tw hw 90) (tw hw 89) (tw hw 6) (tw hw 91) (Xq.1) (con_seq l Z b0 hw q t [] ([].map own_low) (by first | decide | simp) own_ch0 (by first | decide | simp) (own_lowch own_ch0) _ W.old Xq Xt cz hcz SC) pd16 at_299 rfl all0 (fun T h v W qq gg => ?_)
        obtain ⟨_, rfl, rfl, rfl⟩ := qq
        show Go p e below _ _ (mkF m 302 #[.val (.int x0), .val (.int x1), .val (.int x2), .val (.int x3), .val (.int x4), .val (.int sel), .val (.ref u1), .val (.int c0), .val (.int c1), .val (.int c2), .val (.int ln), .val (.ref o), .val (.ref q), .val (.ref t)] [(.int (own_bi (decide ([] = [].map own_low))))])
        exact o_nret W 1 (by simp) (by rw [decide_eq_true (by rfl)]; decide) at_302 (rfl)
  · refine o_getS 16 W (tw hw 1) S0 at_13 fun T W => ?_
    refine o_goto 34 W at_16 ?_
    refine o_astore 36 W #[.val (.int x0), .val (.int x1), .val (.int x2), .val (.int x3), .val (.int x4), .val (.int sel), .val (.ref u0), .unset, .unset, .unset, .unset, .unset, .unset, .unset] at_34 rfl rfl ?_
    refine o_iloadN 37 W at_36 rfl ?_
    refine o_sipush 40 W (255) at_37 (by first | rfl | decide) ?_
    refine o_iand 41 W at_40 ?_
    refine o_i2c 42 W at_41 ?_
    refine o_istore 44 W #[.val (.int x0), .val (.int x1), .val (.int x2), .val (.int x3), .val (.int x4), .val (.int sel), .val (.ref u0), .val (.int ((x2 &&& (255 : Int32)).toUInt32.toUInt16.toUInt32.toInt32)), .unset, .unset, .unset, .unset, .unset, .unset] at_42 rfl ?_
    refine o_iloadN 45 W at_44 rfl ?_
    refine o_sipush 48 W (255) at_45 (by first | rfl | decide) ?_
    refine o_iand 49 W at_48 ?_
    refine o_i2c 50 W at_49 ?_
    refine o_istore 52 W #[.val (.int x0), .val (.int x1), .val (.int x2), .val (.int x3), .val (.int x4), .val (.int sel), .val (.ref u0), .val (.int ((x2 &&& (255 : Int32)).toUInt32.toUInt16.toUInt32.toInt32)), .val (.int ((x3 &&& (255 : Int32)).toUInt32.toUInt16.toUInt32.toInt32)), .unset, .unset, .unset, .unset, .unset] at_50 rfl ?_
    refine o_iload 54 W at_52 rfl ?_
    refine o_sipush 57 W (255) at_54 (by first | rfl | decide) ?_
    refine o_iand 58 W at_57 ?_
    refine o_i2c 59 W at_58 ?_
    refine o_istore 61 W #[.val (.int x0), .val (.int x1), .val (.int x2), .val (.int x3), .val (.int x4), .val (.int sel), .val (.ref u0), .val (.int ((x2 &&& (255 : Int32)).toUInt32.toUInt16.toUInt32.toInt32)), .val (.int ((x3 &&& (255 : Int32)).toUInt32.toUInt16.toUInt32.toInt32)), .val (.int ((x4 &&& (255 : Int32)).toUInt32.toUInt16.toUInt32.toInt32)), .unset, .unset, .unset, .unset] at_59 rfl ?_
    refine o_iloadN 62 W at_61 rfl ?_
    refine o_iconst 63 W (3) at_62 (by first | rfl | decide) ?_
    refine o_iand 64 W at_63 ?_
    refine o_istore 66 W #[.val (.int x0), .val (.int x1), .val (.int x2), .val (.int x3), .val (.int x4), .val (.int sel), .val (.ref u0), .val (.int ((x2 &&& (255 : Int32)).toUInt32.toUInt16.toUInt32.toInt32)), .val (.int ((x3 &&& (255 : Int32)).toUInt32.toUInt16.toUInt32.toInt32)), .val (.int ((x4 &&& (255 : Int32)).toUInt32.toUInt16.toUInt32.toInt32)), .val (.int (x1 &&& (3 : Int32))), .unset, .unset, .unset] at_64 rfl ?_
    have r0 := own_c255 x2
    generalize ((x2 &&& (255 : Int32)).toUInt32.toUInt16.toUInt32.toInt32) = c0 at r0 ⊢
    have r1 := own_c255 x3
    generalize ((x3 &&& (255 : Int32)).toUInt32.toUInt16.toUInt32.toInt32) = c1 at r1 ⊢
    have r2 := own_c255 x4
    generalize ((x4 &&& (255 : Int32)).toUInt32.toUInt16.toUInt32.toInt32) = c2 at r2 ⊢
    show Go p e below _ _ (mkF m 66 #[.val (.int x0), .val (.int x1), .val (.int x2), .val (.int x3), .val (.int x4), .val (.int sel), .val (.ref u0), .val (.int c0), .val (.int c1), .val (.int c2), .val (.int (x1 &&& (3 : Int32))), .unset, .unset, .unset] [])
    generalize (x1 &&& (3 : Int32)) = ln
    show Go p e below _ _ (mkF m 66 #[.val (.int x0), .val (.int x1), .val (.int x2), .val (.int x3), .val (.int x4), .val (.int sel), .val (.ref u0), .val (.int c0), .val (.int c1), .val (.int c2), .val (.int ln), .unset, .unset, .unset] [])
    refine o_iload 68 W at_66 rfl ?_
    refine o_ifne 98 71 W at_68 (fun cz_ => ?_) (fun cz_ => ?_)
    · refine o_iload 100 W at_98 rfl ?_
      refine o_iconst 101 W (1) at_100 (by first | rfl | decide) ?_
      refine o_icne 144 104 W at_101 (fun ca => ?_) (fun ca => ?_)
      · refine o_iload 146 W at_144 rfl ?_
        refine o_iconst 147 W (2) at_146 (by first | rfl | decide) ?_
        refine o_icne 203 150 W at_147 (fun cb => ?_) (fun cb => ?_)
        · refine o_new 206 W (tw hw 4) (tw hw 5) (tw hw 6) at_203 (fun T h o W Eo Ao Do go zo => ?_)
          have Po := Do (Or.inr (tw hw 33)) (ty := .array .byte) (by decide)
          have Co := Do (Or.inr (tw hw 31)) (ty := .byte) (by decide)
          refine o_dup 207 W at_206 rfl ?_
          refine o_iconst 208 W (3) at_207 (by first | rfl | decide) ?_
          refine o_newarray 210 3 W (tw hw 7) at_208 (by decide) (by decide) (fun T h d kd W Ed Ad gd zd => ?_)
          have Ad := own_pad 3 Ad
          refine o_dup 211 W at_210 rfl ?_
          refine o_iconst 212 W (0) at_211 (by first | rfl | decide) ?_
          refine o_iload 214 W at_212 rfl ?_
          refine o_castore 215 0 W Ad (by decide) rfl (by first | decide | simp) zd at_214 (fun T h W w0 Ad => ?_)
          have Ed := own_ext_wr Ed w0 gd
          refine o_dup 216 W at_215 rfl ?_
          refine o_iconst 217 W (1) at_216 (by first | rfl | decide) ?_
          refine o_iload 219 W at_217 rfl ?_
          refine o_castore 220 1 W Ad (by decide) rfl (by first | decide | simp) zd at_219 (fun T h W w1 Ad => ?_)
          have Ed := own_ext_wr Ed w1 gd
          refine o_dup 221 W at_220 rfl ?_
          refine o_iconst 222 W (2) at_221 (by first | rfl | decide) ?_
          refine o_iload 224 W at_222 rfl ?_
          refine o_castore 225 2 W Ad (by decide) rfl (by first | decide | simp) zd at_224 (fun T h W w2 Ad => ?_)
          have Ed := own_ext_wr Ed w2 gd
          simp only [own_nar r0, own_nar r1, own_nar r2] at Ad
          have Ad : Arv Z h d kd .char 3 ([c0, c1, c2].map Value.int) (.int 0) := Ad
          have Ao := Ao.ext Ed
          have Po := Po.ext Ed
          have Co := Co.ext Ed
          refine o_special 228 [(.ref d)] W (tw hw 8) (tw hw 9) (tw hw 6) (tw hw 10) (con_sin l Z b0 hw o d kd 3 [c0, c1, c2] rfl (by first | decide | simp) (own_chS r0 (own_chS r1 (own_chS r2 own_ch0))) _ W.old Ad Ao Po Co zo cz hcz SC) pd13 at_225 rfl (by simp) (fun T h v W qq gg => ?_)
          obtain ⟨rfl, Ko, Xo⟩ := qq
          show Go p e below _ _ (mkF m 228 #[.val (.int x0), .val (.int x1), .val (.int x2), .val (.int x3), .val (.int x4), .val (.int sel), .val (.ref u0), .val (.int c0), .val (.int c1), .val (.int c2), .val (.int ln), .unset, .unset, .unset] [(.ref o)])
          refine o_astore 230 W #[.val (.int x0), .val (.int x1), .val (.int x2), .val (.int x3), .val (.int x4), .val (.int sel), .val (.ref u0), .val (.int c0), .val (.int c1), .val (.int c2), .val (.int ln), .val (.ref o), .unset, .unset] at_228 rfl rfl ?_
          refine o_new 233 W (tw hw 4) (tw hw 5) (tw hw 6) at_230 (fun T h q W Eq Aq Dq gq zq => ?_)
          have Pq := Dq (Or.inr (tw hw 33)) (ty := .array .byte) (by decide)
          have Cq := Dq (Or.inr (tw hw 31)) (ty := .byte) (by decide)
          refine o_dup 234 W at_233 rfl ?_
          refine o_iconst 235 W (3) at_234 (by first | rfl | decide) ?_
          refine o_newarray 237 3 W (tw hw 7) at_235 (by decide) (by decide) (fun T h ea kea W Eea Aea gea zea => ?_)
          have Aea := own_pad 3 Aea
          refine o_dup 238 W at_237 rfl ?_
          refine o_iconst 239 W (0) at_238 (by first | rfl | decide) ?_
          refine o_iload 241 W at_239 rfl ?_
          refine o_static 244 [(.int c0)] W (tw hw 34) (tw hw 35) (tw hw 36) (tw hw 37) (con_low l Z b0 hw c0 r0 _ W.old) pd14 at_241 rfl all0 (fun T h v W qq gg => ?_)
          obtain ⟨_, rfl, rfl, rfl⟩ := qq
          show Go p e below _ _ (mkF m 244 #[.val (.int x0), .val (.int x1), .val (.int x2), .val (.int x3), .val (.int x4), .val (.int sel), .val (.ref u0), .val (.int c0), .val (.int c1), .val (.int c2), .val (.int ln), .val (.ref o), .unset, .unset] [(.int (own_low c0)), (.int (0 : Int32)), (.ref ea), (.ref ea), (.ref q), (.ref q)])
          refine o_castore 245 0 W Aea (by decide) rfl (by first | decide | simp) zea at_244 (fun T h W w0 Aea => ?_)
          have Eea := own_ext_wr Eea w0 gea
          refine o_dup 246 W at_245 rfl ?_
          refine o_iconst 247 W (1) at_246 (by first | rfl | decide) ?_
          refine o_iload 249 W at_247 rfl ?_
          refine o_static 252 [(.int c1)] W (tw hw 34) (tw hw 35) (tw hw 36) (tw hw 37) (con_low l Z b0 hw c1 r1 _ W.old) pd14 at_249 rfl all0 (fun T h v W qq gg => ?_)
          obtain ⟨_, rfl, rfl, rfl⟩ := qq
          show Go p e below _ _ (mkF m 252 #[.val (.int x0), .val (.int x1), .val (.int x2), .val (.int x3), .val (.int x4), .val (.int sel), .val (.ref u0), .val (.int c0), .val (.int c1), .val (.int c2), .val (.int ln), .val (.ref o), .unset, .unset] [(.int (own_low c1)), (.int (1 : Int32)), (.ref ea), (.ref ea), (.ref q), (.ref q)])
          refine o_castore 253 1 W Aea (by decide) rfl (by first | decide | simp) zea at_252 (fun T h W w1 Aea => ?_)
          have Eea := own_ext_wr Eea w1 gea
          refine o_dup 254 W at_253 rfl ?_
          refine o_iconst 255 W (2) at_254 (by first | rfl | decide) ?_
          refine o_iload 257 W at_255 rfl ?_
          refine o_static 260 [(.int c2)] W (tw hw 34) (tw hw 35) (tw hw 36) (tw hw 37) (con_low l Z b0 hw c2 r2 _ W.old) pd14 at_257 rfl all0 (fun T h v W qq gg => ?_)
          obtain ⟨_, rfl, rfl, rfl⟩ := qq
          show Go p e below _ _ (mkF m 260 #[.val (.int x0), .val (.int x1), .val (.int x2), .val (.int x3), .val (.int x4), .val (.int sel), .val (.ref u0), .val (.int c0), .val (.int c1), .val (.int c2), .val (.int ln), .val (.ref o), .unset, .unset] [(.int (own_low c2)), (.int (2 : Int32)), (.ref ea), (.ref ea), (.ref q), (.ref q)])
          refine o_castore 261 2 W Aea (by decide) rfl (by first | decide | simp) zea at_260 (fun T h W w2 Aea => ?_)
          have Eea := own_ext_wr Eea w2 gea
          simp only [own_nar (own_lowr r0), own_nar (own_lowr r1), own_nar (own_lowr r2)] at Aea
          have Aea : Arv Z h ea kea .char 3 ([(own_low c0), (own_low c1), (own_low c2)].map Value.int) (.int 0) := Aea
          have Aq := Aq.ext Eea
          have Pq := Pq.ext Eea
          have Cq := Cq.ext Eea
          refine o_special 264 [(.ref ea)] W (tw hw 8) (tw hw 9) (tw hw 6) (tw hw 10) (con_sin l Z b0 hw q ea kea 3 [(own_low c0), (own_low c1), (own_low c2)] rfl (by first | decide | simp) (own_chS (own_lowr r0) (own_chS (own_lowr r1) (own_chS (own_lowr r2) own_ch0))) _ W.old Aea Aq Pq Cq zq cz hcz SC) pd13 at_261 rfl (by simp) (fun T h v W qq gg => ?_)
          obtain ⟨rfl, Kq, Xq⟩ := qq
          show Go p e below _ _ (mkF m 264 #[.val (.int x0), .val (.int x1), .val (.int x2), .val (.int x3), .val (.int x4), .val (.int sel), .val (.ref u0), .val (.int c0), .val (.int c1), .val (.int c2), .val (.int ln), .val (.ref o), .unset, .unset] [(.ref q)])
          have Xo := Xo.ext (own_ext_keep (own_ext_trans Eq Eea) Kq gq)
          refine o_astore 266 W #[.val (.int x0), .val (.int x1), .val (.int x2), .val (.int x3), .val (.int x4), .val (.int sel), .val (.ref u0), .val (.int c0), .val (.int c1), .val (.int c2), .val (.int ln), .val (.ref o), .val (.ref q), .unset] at_264 rfl rfl ?_
          refine o_new 269 W (tw hw 38) (tw hw 39) (tw hw 40) at_266 (fun T h b W Eb Ab Db gb zb => ?_)
          have Fb := Db (Or.inr (tw hw 74)) (ty := (.object "com/example/gatewarden/gatewarden/access/Assignee$Kind")) (by decide)
          have Gb := Db (Or.inr (tw hw 76)) (ty := (.object "java/lang/String")) (by decide)
          refine o_dup 270 W at_269 rfl ?_
          refine o_aload 272 W at_270 rfl rfl ?_
          refine o_aload 274 W at_272 rfl rfl ?_
          have Xq0 := Xq
          have Xo := Xo.ext Eb
          refine o_special 277 [(.ref u0), (.ref o)] W (tw hw 41) (tw hw 42) (tw hw 40) (tw hw 43) (con_ain l Z b0 hw b u0 o [c0, c1, c2] (by first | decide | simp) (own_chS r0 (own_chS r1 (own_chS r2 own_ch0))) lo bl lg EL0 EB GB GL XL qi SQ EQ SR _ W.old Xo Ab Fb Gb zb cz hcz SC) pd15 at_274 rfl all0 (fun T h v W qq gg => ?_)
          obtain ⟨rfl, Kb, Ab, Fb, t, Gb, Xt⟩ := qq
          show Go p e below _ _ (mkF m 277 #[.val (.int x0), .val (.int x1), .val (.int x2), .val (.int x3), .val (.int x4), .val (.int sel), .val (.ref u0), .val (.int c0), .val (.int c1), .val (.int c2), .val (.int ln), .val (.ref o), .val (.ref q), .unset] [(.ref b)])
          have Xq := Xq0.ext (own_ext_keep Eb Kb gb)
          refine o_virtual 280 [] W (tw hw 77) (tw hw 78) (tw hw 80) (tw hw 79) (tw hw 40) (tw hw 81) (Ab) (con_viaU l Z b0 hw b u0 S0 _ W.old Fb) pd5 at_277 rfl all0 (fun T h v W qq gg => ?_)
          obtain ⟨_, rfl, v, rfl, Xv, Ev⟩ := qq
          show Go p e below _ _ (mkF m 280 #[.val (.int x0), .val (.int x1), .val (.int x2), .val (.int x3), .val (.int x4), .val (.int sel), .val (.ref u0), .val (.int c0), .val (.int c1), .val (.int c2), .val (.int ln), .val (.ref o), .val (.ref q), .unset] [(.ref v)])
          refine o_astore 282 W #[.val (.int x0), .val (.int x1), .val (.int x2), .val (.int x3), .val (.int x4), .val (.int sel), .val (.ref u0), .val (.int c0), .val (.int c1), .val (.int c2), .val (.int ln), .val (.ref o), .val (.ref q), .val (.ref v)] at_280 rfl rfl ?_
          refine o_iload 284 W at_282 rfl ?_
          refine o_ifN 287 W at_284 (XT.i0_ne_f cse) ?_
          refine o_ldcC 289 16 W (vs := [.int 117, .int 115, .int 101, .int 114]) (z := 4) (fun q => q) (tw hw 86) (own_wS hw) (by first | (simp [own_EL]; done) | simp [own_EL, x]) (by decide) (by decide) rfl at_287 (by decide) (fun T h g bg kg W Eg Xg Cg Vg Ag ng => ?_)
          have Yg : Str Z h g [117, 115, 101, 114] := ⟨Xg, Cg, bg, kg, 4, Vg, by exact Ag, rfl⟩
          have Xv := Xv.ext Eg
          refine o_aload 291 W at_289 rfl rfl ?_
          refine o_virtual 294 [(.ref v)] W (tw hw 87) (tw hw 88) (tw hw 90) (tw hw 89) (tw hw 6) (tw hw 91) (Yg.1) (con_seq l Z b0 hw g v [117, 115, 101, 114] [117, 115, 101, 114] (by decide) (own_chS (by decide) (own_chS (by decide) (own_chS (by decide) (own_chS (by decide) own_ch0)))) (by decide) (own_chS (by decide) (own_chS (by decide) (own_chS (by decide) (own_chS (by decide) own_ch0)))) _ W.old Yg Xv cz hcz SC) pd16 at_291 rfl all0 (fun T h v W qq gg => ?_)
          obtain ⟨_, rfl, rfl, rfl⟩ := qq
          show Go p e below _ _ (mkF m 294 #[.val (.int x0), .val (.int x1), .val (.int x2), .val (.int x3), .val (.int x4), .val (.int sel), .val (.ref u0), .val (.int c0), .val (.int c1), .val (.int c2), .val (.int ln), .val (.ref o), .val (.ref q), .val (.ref v)] [(.int (own_bi (decide (([117, 115, 101, 114] : List Int32) = [117, 115, 101, 114]))))])
          exact o_nret W 1 (by simp) (by decide) at_294 (rfl)
        · refine o_new 153 W (tw hw 4) (tw hw 5) (tw hw 6) at_150 (fun T h o W Eo Ao Do go zo => ?_)
          have Po := Do (Or.inr (tw hw 33)) (ty := .array .byte) (by decide)
          have Co := Do (Or.inr (tw hw 31)) (ty := .byte) (by decide)
          refine o_dup 154 W at_153 rfl ?_
          refine o_iconst 155 W (2) at_154 (by first | rfl | decide) ?_
          refine o_newarray 157 2 W (tw hw 7) at_155 (by decide) (by decide) (fun T h d kd W Ed Ad gd zd => ?_)
          have Ad := own_pad 2 Ad
          refine o_dup 158 W at_157 rfl ?_
          refine o_iconst 159 W (0) at_158 (by first | rfl | decide) ?_
          refine o_iload 161 W at_159 rfl ?_
          refine o_castore 162 0 W Ad (by decide) rfl (by first | decide | simp) zd at_161 (fun T h W w0 Ad => ?_)
          have Ed := own_ext_wr Ed w0 gd
          refine o_dup 163 W at_162 rfl ?_
          refine o_iconst 164 W (1) at_163 (by first | rfl | decide) ?_
          refine o_iload 166 W at_164 rfl ?_
          refine o_castore 167 1 W Ad (by decide) rfl (by first | decide | simp) zd at_166 (fun T h W w1 Ad => ?_)
          have Ed := own_ext_wr Ed w1 gd
          simp only [own_nar r0, own_nar r1] at Ad
          have Ad : Arv Z h d kd .char 2 ([c0, c1].map Value.int) (.int 0) := Ad
          have Ao := Ao.ext Ed
          have Po := Po.ext Ed
          have Co := Co.ext Ed
          refine o_special 170 [(.ref d)] W (tw hw 8) (tw hw 9) (tw hw 6) (tw hw 10) (con_sin l Z b0 hw o d kd 2 [c0, c1] rfl (by first | decide | simp) (own_chS r0 (own_chS r1 own_ch0)) _ W.old Ad Ao Po Co zo cz hcz SC) pd13 at_167 rfl (by simp) (fun T h v W qq gg => ?_)
          obtain ⟨rfl, Ko, Xo⟩ := qq
          show Go p e below _ _ (mkF m 170 #[.val (.int x0), .val (.int x1), .val (.int x2), .val (.int x3), .val (.int x4), .val (.int sel), .val (.ref u0), .val (.int c0), .val (.int c1), .val (.int c2), .val (.int ln), .unset, .unset, .unset] [(.ref o)])
          refine o_astore 172 W #[.val (.int x0), .val (.int x1), .val (.int x2), .val (.int x3), .val (.int x4), .val (.int sel), .val (.ref u0), .val (.int c0), .val (.int c1), .val (.int c2), .val (.int ln), .val (.ref o), .unset, .unset] at_170 rfl rfl ?_
          refine o_new 175 W (tw hw 4) (tw hw 5) (tw hw 6) at_172 (fun T h q W Eq Aq Dq gq zq => ?_)
          have Pq := Dq (Or.inr (tw hw 33)) (ty := .array .byte) (by decide)
          have Cq := Dq (Or.inr (tw hw 31)) (ty := .byte) (by decide)
          refine o_dup 176 W at_175 rfl ?_
          refine o_iconst 177 W (2) at_176 (by first | rfl | decide) ?_
          refine o_newarray 179 2 W (tw hw 7) at_177 (by decide) (by decide) (fun T h ea kea W Eea Aea gea zea => ?_)
          have Aea := own_pad 2 Aea
          refine o_dup 180 W at_179 rfl ?_
          refine o_iconst 181 W (0) at_180 (by first | rfl | decide) ?_
          refine o_iload 183 W at_181 rfl ?_
          refine o_static 186 [(.int c0)] W (tw hw 34) (tw hw 35) (tw hw 36) (tw hw 37) (con_low l Z b0 hw c0 r0 _ W.old) pd14 at_183 rfl all0 (fun T h v W qq gg => ?_)
          obtain ⟨_, rfl, rfl, rfl⟩ := qq
          show Go p e below _ _ (mkF m 186 #[.val (.int x0), .val (.int x1), .val (.int x2), .val (.int x3), .val (.int x4), .val (.int sel), .val (.ref u0), .val (.int c0), .val (.int c1), .val (.int c2), .val (.int ln), .val (.ref o), .unset, .unset] [(.int (own_low c0)), (.int (0 : Int32)), (.ref ea), (.ref ea), (.ref q), (.ref q)])
          refine o_castore 187 0 W Aea (by decide) rfl (by first | decide | simp) zea at_186 (fun T h W w0 Aea => ?_)
          have Eea := own_ext_wr Eea w0 gea
          refine o_dup 188 W at_187 rfl ?_
          refine o_iconst 189 W (1) at_188 (by first | rfl | decide) ?_
          refine o_iload 191 W at_189 rfl ?_
          refine o_static 194 [(.int c1)] W (tw hw 34) (tw hw 35) (tw hw 36) (tw hw 37) (con_low l Z b0 hw c1 r1 _ W.old) pd14 at_191 rfl all0 (fun T h v W qq gg => ?_)
          obtain ⟨_, rfl, rfl, rfl⟩ := qq
          show Go p e below _ _ (mkF m 194 #[.val (.int x0), .val (.int x1), .val (.int x2), .val (.int x3), .val (.int x4), .val (.int sel), .val (.ref u0), .val (.int c0), .val (.int c1), .val (.int c2), .val (.int ln), .val (.ref o), .unset, .unset] [(.int (own_low c1)), (.int (1 : Int32)), (.ref ea), (.ref ea), (.ref q), (.ref q)])
          refine o_castore 195 1 W Aea (by decide) rfl (by first | decide | simp) zea at_194 (fun T h W w1 Aea => ?_)
          have Eea := own_ext_wr Eea w1 gea
          simp only [own_nar (own_lowr r0), own_nar (own_lowr r1)] at Aea
          have Aea : Arv Z h ea kea .char 2 ([(own_low c0), (own_low c1)].map Value.int) (.int 0) := Aea
          have Aq := Aq.ext Eea
          have Pq := Pq.ext Eea
          have Cq := Cq.ext Eea
          refine o_special 198 [(.ref ea)] W (tw hw 8) (tw hw 9) (tw hw 6) (tw hw 10) (con_sin l Z b0 hw q ea kea 2 [(own_low c0), (own_low c1)] rfl (by first | decide | simp) (own_chS (own_lowr r0) (own_chS (own_lowr r1) own_ch0)) _ W.old Aea Aq Pq Cq zq cz hcz SC) pd13 at_195 rfl (by simp) (fun T h v W qq gg => ?_)
          obtain ⟨rfl, Kq, Xq⟩ := qq
          show Go p e below _ _ (mkF m 198 #[.val (.int x0), .val (.int x1), .val (.int x2), .val (.int x3), .val (.int x4), .val (.int sel), .val (.ref u0), .val (.int c0), .val (.int c1), .val (.int c2), .val (.int ln), .val (.ref o), .unset, .unset] [(.ref q)])
          have Xo := Xo.ext (own_ext_keep (own_ext_trans Eq Eea) Kq gq)
          refine o_astore 200 W #[.val (.int x0), .val (.int x1), .val (.int x2), .val (.int x3), .val (.int x4), .val (.int sel), .val (.ref u0), .val (.int c0), .val (.int c1), .val (.int c2), .val (.int ln), .val (.ref o), .val (.ref q), .unset] at_198 rfl rfl ?_
          refine o_goto 266 W at_200 ?_
          refine o_new 269 W (tw hw 38) (tw hw 39) (tw hw 40) at_266 (fun T h b W Eb Ab Db gb zb => ?_)
          have Fb := Db (Or.inr (tw hw 74)) (ty := (.object "com/example/gatewarden/gatewarden/access/Assignee$Kind")) (by decide)
          have Gb := Db (Or.inr (tw hw 76)) (ty := (.object "java/lang/String")) (by decide)
          refine o_dup 270 W at_269 rfl ?_
          refine o_aload 272 W at_270 rfl rfl ?_
          refine o_aload 274 W at_272 rfl rfl ?_
          have Xq0 := Xq
          have Xo := Xo.ext Eb
          refine o_special 277 [(.ref u0), (.ref o)] W (tw hw 41) (tw hw 42) (tw hw 40) (tw hw 43) (con_ain l Z b0 hw b u0 o [c0, c1] (by first | decide | simp) (own_chS r0 (own_chS r1 own_ch0)) lo bl lg EL0 EB GB GL XL qi SQ EQ SR _ W.old Xo Ab Fb Gb zb cz hcz SC) pd15 at_274 rfl all0 (fun T h v W qq gg => ?_)
          obtain ⟨rfl, Kb, Ab, Fb, t, Gb, Xt⟩ := qq
          show Go p e below _ _ (mkF m 277 #[.val (.int x0), .val (.int x1), .val (.int x2), .val (.int x3), .val (.int x4), .val (.int sel), .val (.ref u0), .val (.int c0), .val (.int c1), .val (.int c2), .val (.int ln), .val (.ref o), .val (.ref q), .unset] [(.ref b)])
          have Xq := Xq0.ext (own_ext_keep Eb Kb gb)
          refine o_virtual 280 [] W (tw hw 77) (tw hw 78) (tw hw 80) (tw hw 79) (tw hw 40) (tw hw 81) (Ab) (con_viaU l Z b0 hw b u0 S0 _ W.old Fb) pd5 at_277 rfl all0 (fun T h v W qq gg => ?_)
          obtain ⟨_, rfl, v, rfl, Xv, Ev⟩ := qq
          show Go p e below _ _ (mkF m 280 #[.val (.int x0), .val (.int x1), .val (.int x2), .val (.int x3), .val (.int x4), .val (.int sel), .val (.ref u0), .val (.int c0), .val (.int c1), .val (.int c2), .val (.int ln), .val (.ref o), .val (.ref q), .unset] [(.ref v)])
          refine o_astore 282 W #[.val (.int x0), .val (.int x1), .val (.int x2), .val (.int x3), .val (.int x4), .val (.int sel), .val (.ref u0), .val (.int c0), .val (.int c1), .val (.int c2), .val (.int ln), .val (.ref o), .val (.ref q), .val (.ref v)] at_280 rfl rfl ?_
          refine o_iload 284 W at_282 rfl ?_
          refine o_ifN 287 W at_284 (XT.i0_ne_f cse) ?_
          refine o_ldcC 289 16 W (vs := [.int 117, .int 115, .int 101, .int 114]) (z := 4) (fun q => q) (tw hw 86) (own_wS hw) (by first | (simp [own_EL]; done) | simp [own_EL, x]) (by decide) (by decide) rfl at_287 (by decide) (fun T h g bg kg W Eg Xg Cg Vg Ag ng => ?_)
          have Yg : Str Z h g [117, 115, 101, 114] := ⟨Xg, Cg, bg, kg, 4, Vg, by exact Ag, rfl⟩
          have Xv := Xv.ext Eg
          refine o_aload 291 W at_289 rfl rfl ?_
          refine o_virtual 294 [(.ref v)] W (tw hw 87) (tw hw 88) (tw hw 90) (tw hw 89) (tw hw 6) (tw hw 91) (Yg.1) (con_seq l Z b0 hw g v [117, 115, 101, 114] [117, 115, 101, 114] (by decide) (own_chS (by decide) (own_chS (by decide) (own_chS (by decide) (own_chS (by decide) own_ch0)))) (by decide) (own_chS (by decide) (own_chS (by decide) (own_chS (by decide) (own_chS (by decide) own_ch0)))) _ W.old Yg Xv cz hcz SC) pd16 at_291 rfl all0 (fun T h v W qq gg => ?_)
          obtain ⟨_, rfl, rfl, rfl⟩ := qq
          show Go p e below _ _ (mkF m 294 #[.val (.int x0), .val (.int x1), .val (.int x2), .val (.int x3), .val (.int x4), .val (.int sel), .val (.ref u0), .val (.int c0), .val (.int c1), .val (.int c2), .val (.int ln), .val (.ref o), .val (.ref q), .val (.ref v)] [(.int (own_bi (decide (([117, 115, 101, 114] : List Int32) = [117, 115, 101, 114]))))])
          exact o_nret W 1 (by simp) (by decide) at_294 (rfl)
      · refine o_new 107 W (tw hw 4) (tw hw 5) (tw hw 6) at_104 (fun T h o W Eo Ao Do go zo => ?_)
        have Po := Do (Or.inr (tw hw 33)) (ty := .array .byte) (by decide)
        have Co := Do (Or.inr (tw hw 31)) (ty := .byte) (by decide)
        refine o_dup 108 W at_107 rfl ?_
        refine o_iconst 109 W (1) at_108 (by first | rfl | decide) ?_
        refine o_newarray 111 1 W (tw hw 7) at_109 (by decide) (by decide) (fun T h d kd W Ed Ad gd zd => ?_)
        have Ad := own_pad 1 Ad
        refine o_dup 112 W at_111 rfl ?_
        refine o_iconst 113 W (0) at_112 (by first | rfl | decide) ?_
        refine o_iload 115 W at_113 rfl ?_
        refine o_castore 116 0 W Ad (by decide) rfl (by first | decide | simp) zd at_115 (fun T h W w0 Ad => ?_)
        have Ed := own_ext_wr Ed w0 gd
        simp only [own_nar r0] at Ad
        have Ad : Arv Z h d kd .char 1 ([c0].map Value.int) (.int 0) := Ad
        have Ao := Ao.ext Ed
        have Po := Po.ext Ed
        have Co := Co.ext Ed
        refine o_special 119 [(.ref d)] W (tw hw 8) (tw hw 9) (tw hw 6) (tw hw 10) (con_sin l Z b0 hw o d kd 1 [c0] rfl (by first | decide | simp) (own_chS r0 own_ch0) _ W.old Ad Ao Po Co zo cz hcz SC) pd13 at_116 rfl (by simp) (fun T h v W qq gg => ?_)
        obtain ⟨rfl, Ko, Xo⟩ := qq
        show Go p e below _ _ (mkF m 119 #[.val (.int x0), .val (.int x1), .val (.int x2), .val (.int x3), .val (.int x4), .val (.int sel), .val (.ref u0), .val (.int c0), .val (.int c1), .val (.int c2), .val (.int ln), .unset, .unset, .unset] [(.ref o)])
        refine o_astore 121 W #[.val (.int x0), .val (.int x1), .val (.int x2), .val (.int x3), .val (.int x4), .val (.int sel), .val (.ref u0), .val (.int c0), .val (.int c1), .val (.int c2), .val (.int ln), .val (.ref o), .unset, .unset] at_119 rfl rfl ?_
        refine o_new 124 W (tw hw 4) (tw hw 5) (tw hw 6) at_121 (fun T h q W Eq Aq Dq gq zq => ?_)
        have Pq := Dq (Or.inr (tw hw 33)) (ty := .array .byte) (by decide)
        have Cq := Dq (Or.inr (tw hw 31)) (ty := .byte) (by decide)
        refine o_dup 125 W at_124 rfl ?_
        refine o_iconst 126 W (1) at_125 (by first | rfl | decide) ?_
        refine o_newarray 128 1 W (tw hw 7) at_126 (by decide) (by decide) (fun T h ea kea W Eea Aea gea zea => ?_)
        have Aea := own_pad 1 Aea
        refine o_dup 129 W at_128 rfl ?_
        refine o_iconst 130 W (0) at_129 (by first | rfl | decide) ?_
        refine o_iload 132 W at_130 rfl ?_
        refine o_static 135 [(.int c0)] W (tw hw 34) (tw hw 35) (tw hw 36) (tw hw 37) (con_low l Z b0 hw c0 r0 _ W.old) pd14 at_132 rfl all0 (fun T h v W qq gg => ?_)
        obtain ⟨_, rfl, rfl, rfl⟩ := qq
        show Go p e below _ _ (mkF m 135 #[.val (.int x0), .val (.int x1), .val (.int x2), .val (.int x3), .val (.int x4), .val (.int sel), .val (.ref u0), .val (.int c0), .val (.int c1), .val (.int c2), .val (.int ln), .val (.ref o), .unset, .unset] [(.int (own_low c0)), (.int (0 : Int32)), (.ref ea), (.ref ea), (.ref q), (.ref q)])
        refine o_castore 136 0 W Aea (by decide) rfl (by first | decide | simp) zea at_135 (fun T h W w0 Aea => ?_)
        have Eea := own_ext_wr Eea w0 gea
        simp only [own_nar (own_lowr r0)] at Aea
        have Aea : Arv Z h ea kea .char 1 ([(own_low c0)].map Value.int) (.int 0) := Aea
        have Aq := Aq.ext Eea
        have Pq := Pq.ext Eea
        have Cq := Cq.ext Eea
        refine o_special 139 [(.ref ea)] W (tw hw 8) (tw hw 9) (tw hw 6) (tw hw 10) (con_sin l Z b0 hw q ea kea 1 [(own_low c0)] rfl (by first | decide | simp) (own_chS (own_lowr r0) own_ch0) _ W.old Aea Aq Pq Cq zq cz hcz SC) pd13 at_136 rfl (by simp) (fun T h v W qq gg => ?_)
        obtain ⟨rfl, Kq, Xq⟩ := qq
        show Go p e below _ _ (mkF m 139 #[.val (.int x0), .val (.int x1), .val (.int x2), .val (.int x3), .val (.int x4), .val (.int sel), .val (.ref u0), .val (.int c0), .val (.int c1), .val (.int c2), .val (.int ln), .val (.ref o), .unset, .unset] [(.ref q)])
        have Xo := Xo.ext (own_ext_keep (own_ext_trans Eq Eea) Kq gq)
        refine o_astore 141 W #[.val (.int x0), .val (.int x1), .val (.int x2), .val (.int x3), .val (.int x4), .val (.int sel), .val (.ref u0), .val (.int c0), .val (.int c1), .val (.int c2), .val (.int ln), .val (.ref o), .val (.ref q), .unset] at_139 rfl rfl ?_
        refine o_goto 266 W at_141 ?_
        refine o_new 269 W (tw hw 38) (tw hw 39) (tw hw 40) at_266 (fun T h b W Eb Ab Db gb zb => ?_)
        have Fb := Db (Or.inr (tw hw 74)) (ty := (.object "com/example/gatewarden/gatewarden/access/Assignee$Kind")) (by decide)
        have Gb := Db (Or.inr (tw hw 76)) (ty := (.object "java/lang/String")) (by decide)
        refine o_dup 270 W at_269 rfl ?_
        refine o_aload 272 W at_270 rfl rfl ?_
        refine o_aload 274 W at_272 rfl rfl ?_
        have Xq0 := Xq
        have Xo := Xo.ext Eb
        refine o_special 277 [(.ref u0), (.ref o)] W (tw hw 41) (tw hw 42) (tw hw 40) (tw hw 43) (con_ain l Z b0 hw b u0 o [c0] (by first | decide | simp) (own_chS r0 own_ch0) lo bl lg EL0 EB GB GL XL qi SQ EQ SR _ W.old Xo Ab Fb Gb zb cz hcz SC) pd15 at_274 rfl all0 (fun T h v W qq gg => ?_)
        obtain ⟨rfl, Kb, Ab, Fb, t, Gb, Xt⟩ := qq
        show Go p e below _ _ (mkF m 277 #[.val (.int x0), .val (.int x1), .val (.int x2), .val (.int x3), .val (.int x4), .val (.int sel), .val (.ref u0), .val (.int c0), .val (.int c1), .val (.int c2), .val (.int ln), .val (.ref o), .val (.ref q), .unset] [(.ref b)])
        have Xq := Xq0.ext (own_ext_keep Eb Kb gb)
        refine o_virtual 280 [] W (tw hw 77) (tw hw 78) (tw hw 80) (tw hw 79) (tw hw 40) (tw hw 81) (Ab) (con_viaU l Z b0 hw b u0 S0 _ W.old Fb) pd5 at_277 rfl all0 (fun T h v W qq gg => ?_)
        obtain ⟨_, rfl, v, rfl, Xv, Ev⟩ := qq
        show Go p e below _ _ (mkF m 280 #[.val (.int x0), .val (.int x1), .val (.int x2), .val (.int x3), .val (.int x4), .val (.int sel), .val (.ref u0), .val (.int c0), .val (.int c1), .val (.int c2), .val (.int ln), .val (.ref o), .val (.ref q), .unset] [(.ref v)])
        refine o_astore 282 W #[.val (.int x0), .val (.int x1), .val (.int x2), .val (.int x3), .val (.int x4), .val (.int sel), .val (.ref u0), .val (.int c0), .val (.int c1), .val (.int c2), .val (.int ln), .val (.ref o), .val (.ref q), .val (.ref v)] at_280 rfl rfl ?_
        refine o_iload 284 W at_282 rfl ?_
        refine o_ifN 287 W at_284 (XT.i0_ne_f cse) ?_
        refine o_ldcC 289 16 W (vs := [.int 117, .int 115, .int 101, .int 114]) (z := 4) (fun q => q) (tw hw 86) (own_wS hw) (by first | (simp [own_EL]; done) | simp [own_EL, x]) (by decide) (by decide) rfl at_287 (by decide) (fun T h g bg kg W Eg Xg Cg Vg Ag ng => ?_)
        have Yg : Str Z h g [117, 115, 101, 114] := ⟨Xg, Cg, bg, kg, 4, Vg, by exact Ag, rfl⟩
        have Xv := Xv.ext Eg
        refine o_aload 291 W at_289 rfl rfl ?_
        refine o_virtual 294 [(.ref v)] W (tw hw 87) (tw hw 88) (tw hw 90) (tw hw 89) (tw hw 6) (tw hw 91) (Yg.1) (con_seq l Z b0 hw g v [117, 115, 101, 114] [117, 115, 101, 114] (by decide) (own_chS (by decide) (own_chS (by decide) (own_chS (by decide) (own_chS (by decide) own_ch0)))) (by decide) (own_chS (by decide) (own_chS (by decide) (own_chS (by decide) (own_chS (by decide) own_ch0)))) _ W.old Yg Xv cz hcz SC) pd16 at_291 rfl all0 (fun T h v W qq gg => ?_)
        obtain ⟨_, rfl, rfl, rfl⟩ := qq
        show Go p e below _ _ (mkF m 294 #[.val (.int x0), .val (.int x1), .val (.int x2), .val (.int x3), .val (.int x4), .val (.int sel), .val (.ref u0), .val (.int c0), .val (.int c1), .val (.int c2), .val (.int ln), .val (.ref o), .val (.ref q), .val (.ref v)] [(.int (own_bi (decide (([117, 115, 101, 114] : List Int32) = [117, 115, 101, 114]))))])
        exact o_nret W 1 (by simp) (by decide) at_294 (rfl)
    · refine o_new 74 W (tw hw 4) (tw hw 5) (tw hw 6) at_71 (fun T h o W Eo Ao Do go zo => ?_)
      have Po := Do (Or.inr (tw hw 33)) (ty := .array .byte) (by decide)
      have Co := Do (Or.inr (tw hw 31)) (ty := .byte) (by decide)
      refine o_dup 75 W at_74 rfl ?_
      refine o_iconst 76 W (0) at_75 (by first | rfl | decide) ?_
      refine o_newarray 78 0 W (tw hw 7) at_76 (by decide) (by decide) (fun T h d kd W Ed Ad gd zd => ?_)
      have Ad := own_pad 0 Ad
      have Ad : Arv Z h d kd .char 0 ([].map Value.int) (.int 0) := Ad
      have Ao := Ao.ext Ed
      have Po := Po.ext Ed
      have Co := Co.ext Ed
      refine o_special 81 [(.ref d)] W (tw hw 8) (tw hw 9) (tw hw 6) (tw hw 10) (con_sin l Z b0 hw o d kd 0 [] rfl (by first | decide | simp) own_ch0 _ W.old Ad Ao Po Co zo cz hcz SC) pd13 at_78 rfl (by simp) (fun T h v W qq gg => ?_)
      obtain ⟨rfl, Ko, Xo⟩ := qq
      show Go p e below _ _ (mkF m 81 #[.val (.int x0), .val (.int x1), .val (.int x2), .val (.int x3), .val (.int x4), .val (.int sel), .val (.ref u0), .val (.int c0), .val (.int c1), .val (.int c2), .val (.int ln), .unset, .unset, .unset] [(.ref o)])
      refine o_astore 83 W #[.val (.int x0), .val (.int x1), .val (.int x2), .val (.int x3), .val (.int x4), .val (.int sel), .val (.ref u0), .val (.int c0), .val (.int c1), .val (.int c2), .val (.int ln), .val (.ref o), .unset, .unset] at_81 rfl rfl ?_
      refine o_new 86 W (tw hw 4) (tw hw 5) (tw hw 6) at_83 (fun T h q W Eq Aq Dq gq zq => ?_)
      have Pq := Dq (Or.inr (tw hw 33)) (ty := .array .byte) (by decide)
      have Cq := Dq (Or.inr (tw hw 31)) (ty := .byte) (by decide)
      refine o_dup 87 W at_86 rfl ?_
      refine o_iconst 88 W (0) at_87 (by first | rfl | decide) ?_
      refine o_newarray 90 0 W (tw hw 7) at_88 (by decide) (by decide) (fun T h ea kea W Eea Aea gea zea => ?_)
      have Aea := own_pad 0 Aea
      have Aea : Arv Z h ea kea .char 0 ([].map Value.int) (.int 0) := Aea
      have Aq := Aq.ext Eea
      have Pq := Pq.ext Eea
      have Cq := Cq.ext Eea
      refine o_special 93 [(.ref ea)] W (tw hw 8) (tw hw 9) (tw hw 6) (tw hw 10) (con_sin l Z b0 hw q ea kea 0 [] rfl (by first | decide | simp) own_ch0 _ W.old Aea Aq Pq Cq zq cz hcz SC) pd13 at_90 rfl (by simp) (fun T h v W qq gg => ?_)
      obtain ⟨rfl, Kq, Xq⟩ := qq
      show Go p e below _ _ (mkF m 93 #[.val (.int x0), .val (.int x1), .val (.int x2), .val (.int x3), .val (.int x4), .val (.int sel), .val (.ref u0), .val (.int c0), .val (.int c1), .val (.int c2), .val (.int ln), .val (.ref o), .unset, .unset] [(.ref q)])
      have Xo := Xo.ext (own_ext_keep (own_ext_trans Eq Eea) Kq gq)
      refine o_astore 95 W #[.val (.int x0), .val (.int x1), .val (.int x2), .val (.int x3), .val (.int x4), .val (.int sel), .val (.ref u0), .val (.int c0), .val (.int c1), .val (.int c2), .val (.int ln), .val (.ref o), .val (.ref q), .unset] at_93 rfl rfl ?_
      refine o_goto 266 W at_95 ?_
      refine o_new 269 W (tw hw 38) (tw hw 39) (tw hw 40) at_266 (fun T h b W Eb Ab Db gb zb => ?_)
      have Fb := Db (Or.inr (tw hw 74)) (ty := (.object "com/example/gatewarden/gatewarden/access/Assignee$Kind")) (by decide)
      have Gb := Db (Or.inr (tw hw 76)) (ty := (.object "java/lang/String")) (by decide)
      refine o_dup 270 W at_269 rfl ?_
      refine o_aload 272 W at_270 rfl rfl ?_
      refine o_aload 274 W at_272 rfl rfl ?_
      have Xq0 := Xq
      have Xo := Xo.ext Eb
      refine o_special 277 [(.ref u0), (.ref o)] W (tw hw 41) (tw hw 42) (tw hw 40) (tw hw 43) (con_ain l Z b0 hw b u0 o [] (by first | decide | simp) own_ch0 lo bl lg EL0 EB GB GL XL qi SQ EQ SR _ W.old Xo Ab Fb Gb zb cz hcz SC) pd15 at_274 rfl all0 (fun T h v W qq gg => ?_)
      obtain ⟨rfl, Kb, Ab, Fb, t, Gb, Xt⟩ := qq
      show Go p e below _ _ (mkF m 277 #[.val (.int x0), .val (.int x1), .val (.int x2), .val (.int x3), .val (.int x4), .val (.int sel), .val (.ref u0), .val (.int c0), .val (.int c1), .val (.int c2), .val (.int ln), .val (.ref o), .val (.ref q), .unset] [(.ref b)])
      have Xq := Xq0.ext (own_ext_keep Eb Kb gb)
      refine o_virtual 280 [] W (tw hw 77) (tw hw 78) (tw hw 80) (tw hw 79) (tw hw 40) (tw hw 81) (Ab) (con_viaU l Z b0 hw b u0 S0 _ W.old Fb) pd5 at_277 rfl all0 (fun T h v W qq gg => ?_)
      obtain ⟨_, rfl, v, rfl, Xv, Ev⟩ := qq
      show Go p e below _ _ (mkF m 280 #[.val (.int x0), .val (.int x1), .val (.int x2), .val (.int x3), .val (.int x4), .val (.int sel), .val (.ref u0), .val (.int c0), .val (.int c1), .val (.int c2), .val (.int ln), .val (.ref o), .val (.ref q), .unset] [(.ref v)])
      refine o_astore 282 W #[.val (.int x0), .val (.int x1), .val (.int x2), .val (.int x3), .val (.int x4), .val (.int sel), .val (.ref u0), .val (.int c0), .val (.int c1), .val (.int c2), .val (.int ln), .val (.ref o), .val (.ref q), .val (.ref v)] at_280 rfl rfl ?_
      refine o_iload 284 W at_282 rfl ?_
      refine o_ifN 287 W at_284 (XT.i0_ne_f cse) ?_
      refine o_ldcC 289 16 W (vs := [.int 117, .int 115, .int 101, .int 114]) (z := 4) (fun q => q) (tw hw 86) (own_wS hw) (by first | (simp [own_EL]; done) | simp [own_EL, x]) (by decide) (by decide) rfl at_287 (by decide) (fun T h g bg kg W Eg Xg Cg Vg Ag ng => ?_)
      have Yg : Str Z h g [117, 115, 101, 114] := ⟨Xg, Cg, bg, kg, 4, Vg, by exact Ag, rfl⟩
      have Xv := Xv.ext Eg
      refine o_aload 291 W at_289 rfl rfl ?_
      refine o_virtual 294 [(.ref v)] W (tw hw 87) (tw hw 88) (tw hw 90) (tw hw 89) (tw hw 6) (tw hw 91) (Yg.1) (con_seq l Z b0 hw g v [117, 115, 101, 114] [117, 115, 101, 114] (by decide) (own_chS (by decide) (own_chS (by decide) (own_chS (by decide) (own_chS (by decide) own_ch0)))) (by decide) (own_chS (by decide) (own_chS (by decide) (own_chS (by decide) (own_chS (by decide) own_ch0)))) _ W.old Yg Xv cz hcz SC) pd16 at_291 rfl all0 (fun T h v W qq gg => ?_)
      obtain ⟨_, rfl, rfl, rfl⟩ := qq
      show Go p e below _ _ (mkF m 294 #[.val (.int x0), .val (.int x1), .val (.int x2), .val (.int x3), .val (.int x4), .val (.int sel), .val (.ref u0), .val (.int c0), .val (.int c1), .val (.int c2), .val (.int ln), .val (.ref o), .val (.ref q), .val (.ref v)] [(.int (own_bi (decide (([117, 115, 101, 114] : List Int32) = [117, 115, 101, 114]))))])
      exact o_nret W 1 (by simp) (by decide) at_294 (rfl)
theorem own_foldl (f : Nat → Option Bool) : ∀ (L : List Nat) (acc : Option Bool), L.foldl (fun acc i => match acc with | some true => f i | x => x) acc = some true → acc = some true ∧ ∀ i ∈ L, f i = some true
  | [], acc, h => ⟨h, fun i hi => nomatch hi⟩
  | a :: L, acc, h => by
    obtain ⟨h1, h2⟩ := own_foldl f L _ h
    have q : acc = some true := by
      cases acc with
      | none => simp at h1
      | some b => cases b <;> simp at h1 ⊢
    subst q
    exact ⟨rfl, fun i hi => (List.mem_cons.mp hi).elim (fun e => e ▸ h1) (h2 i)⟩
theorem own_all {Z : State} {args : Array Value} {t : Jvm.Term} {c : Jvm.Cond} {a : Addr} {cell : Cell} (ev : t.eval args Z none [] Z = some (.ref a)) (ha : Z.arrayAt? a = some cell) (hx : (Jvm.Cond.all t c).value args Z none Z [] = some true) : ∀ i, i < cell.slots.size → c.value args Z none Z [i] = some true := fun i hi => by
  simp only [Jvm.Cond.value, ev, ha] at hx
  exact (own_foldl _ _ _ hx).2 i (List.mem_range.mpr hi)
theorem own_nb (n : Nat) (h : n < 2 ^ 31) : n.toInt32.toNatClampNeg = n ∧ ¬ n.toInt32 < 0 := by
  have e : n.toInt32.toInt = n := Int32.toInt_ofNat_of_lt h
  have h0 : ¬ n.toInt32 < 0 := by
    rw [XT.negI32]; omega
  exact ⟨Int32.toNatClampNeg_ofNat_of_lt h, h0⟩
theorem own_len {Z : State} {args : Array Value} {t : Jvm.Term} {a : Addr} {cell : Cell} {k : Int32} (ev : t.eval args Z none [] Z = some (.ref a)) (ha : Z.arrayAt? a = some cell) (hx : (Jvm.Cond.eq (Jvm.Term.length t) (Jvm.Term.int k)).value args Z none Z [] = some true) (hk : ¬ k < 0) : cell.slots.size = k.toNatClampNeg := by
  obtain ⟨x, y, e1, e2, -, -⟩ := cmp_v (Or.inl hx)
  have e3 := e1
  simp only [Jvm.Term.eval, ev, ha, Option.bind_eq_bind, Option.bind_some] at e3
  split at e3
  · rename_i hb
    cases e3
    simp [Jvm.Cond.value, e1, Jvm.Term.int_eval] at hx
    have h2 := (own_nb _ hb).1
    rw [hx] at h2
    exact h2.symm
  · cases e3
theorem own_eix {Z : State} {args : Array Value} {t : Jvm.Term} {a : Addr} {cell : Cell} {i : Nat} (ev : t.eval args Z none [i] Z = some (.ref a)) (ha : Z.arrayAt? a = some cell) (hi : i < 2 ^ 31) : (Jvm.Term.elem t (Jvm.Term.index 0)).eval args Z none [i] Z = cell.slots[i]? := by
  have hn := own_nb i hi
  have eu : (Jvm.Term.index 0).eval args Z none [i] Z = some (.int i.toInt32) := rfl
  rw [Jvm.Term.eval]
  simp only [ev, eu, ha, hn.2, Option.bind_eq_bind, Option.bind_some, if_false, hn.1]
theorem own_elx {Z : State} {args : Array Value} {C n d K : String} {a : Addr} {cell : Cell} {i : Nat} (ev : (Jvm.Term.static C n d).eval args Z none [] Z = some (.ref a)) (ha : Z.arrayAt? a = some cell) (hi : i < 2 ^ 31) (hx : (Jvm.Cond.exactly (Jvm.Term.elem (Jvm.Term.static C n d) (Jvm.Term.index 0)) K).value args Z none Z [i] = some true) : ∃ x, cell.slots[i]? = some (.ref x) ∧ Exa Z Z.heap x K := by
  have ev' : (Jvm.Term.static C n d).eval args Z none [i] Z = some (.ref a) := ev
  have hx' : (Jvm.Cond.exactly (Jvm.Term.elem (Jvm.Term.static C n d) (Jvm.Term.index 0)) K).holds args Z none Z [i] = true := by simp [Jvm.Cond.holds, hx]
  obtain ⟨x, c', cl', k, e1, e2, e3, e4, e5, rfl, e7⟩ := Cond.exactly_spec hx'
  exact ⟨x, (own_eix ev' ha hi).symm.trans e1, cl', k, e3, e2, e4, e5, e7⟩
theorem own_fxr {Z : State} {args : Array Value} {t : Jvm.Term} {a : Addr} {O n d K : String} (e : t.eval args Z none [] Z = some (.ref a)) (hx : (Jvm.Cond.exactly (Jvm.Term.field t O n d) K).value args Z none Z [] = some true) : ∃ r, Fld Z Z.heap a O n d (.ref r) ∧ Exa Z Z.heap r K ∧ (Jvm.Term.field t O n d).eval args Z none [] Z = some (.ref r) := by
  obtain ⟨r, c', cell, k, e1, -⟩ := Cond.exactly_spec (Cond.before_iff.mpr hx)
  refine ⟨r, Fld.start ?_, Exa.start e1 hx, e1⟩
  have e3 := e1
  rw [Jvm.Term.eval] at e3
  simp only [e, Option.bind_eq_bind, Option.bind_some] at e3
  exact e3
theorem own_far {Z : State} {args : Array Value} {t : Jvm.Term} {a : Addr} {O n d : String} {ty : FieldType} (e : t.eval args Z none [] Z = some (.ref a)) (hx : (Jvm.Cond.arrayOf (Jvm.Term.field t O n d) ty).value args Z none Z [] = some true) : ∃ r c, Fld Z Z.heap a O n d (.ref r) ∧ Arr Z Z.heap r c ty ∧ (Jvm.Term.field t O n d).eval args Z none [] Z = some (.ref r) := by
  cases ev : (Jvm.Term.field t O n d).eval args Z none [] Z with
  | none => simp only [Jvm.Cond.value, ev] at hx; split at hx <;> simp at hx
  | some v =>
    cases v with
    | ref r =>
      obtain ⟨c, A⟩ := Arr.start ev hx
      refine ⟨r, c, Fld.start ?_, A, rfl⟩
      have e3 := ev
      rw [Jvm.Term.eval] at e3
      simp only [e, Option.bind_eq_bind, Option.bind_some] at e3
      exact e3
    | _ => simp only [Jvm.Cond.value, ev] at hx; split at hx <;> simp at hx
theorem own_arv {Z : State} {a : Addr} {c : Cell} {ty : FieldType} {z : Int32} {vs : List Value} {dv : Value} (hf : Fit Z) (A : Arr Z Z.heap a c ty) (hz : c.slots.size = z.toNatClampNeg) (h0 : ¬ z < 0) (hl : z.toNatClampNeg = vs.length) (H : HasL c 0 vs) : Arv Z Z.heap a c.cls ty z vs dv :=
  Arv.start hf A (by rw [hz]; exact (back32 h0).2) (by rw [hz]; exact (back32 h0).1) h0 hl H
theorem own_sx' {Z : State} {args a0 : Array Value} {C n d K : String} (hx : (Jvm.Cond.exactly (Jvm.Term.static C n d) K).value args Z none Z [] = some true) (hi : (Jvm.Cond.initializedFor C n d).before a0 Z = true) : ∃ a, Sta Z Z.heap C n d (.ref a) ∧ Exa Z Z.heap a K ∧ (Jvm.Term.static C n d).eval args Z none [] Z = some (.ref a) := by
  obtain ⟨a', c', cell, k, e1, -⟩ := Cond.exactly_spec (Cond.before_iff.mpr hx)
  exact ⟨a', Sta.start (args := a0) e1 (Or.inl hi), Exa.start e1 hx, e1⟩
set_option maxRecDepth 65536 in
set_option maxHeartbeats 40000000 in
theorem comes_1 {Post : Tables → Env → Array Value → State → Outcome → State → Prop} (hpost : ∀ tb e args s v u, (limb_1_1.after args s (.returned v) u = true ∧ limb_1_2.after args s (.returned v) u = true ∧ True) → ReturnedEndW s (.returned v) u (Jvm.fieldLocs frame_1_writes args s ++ Jvm.arrayLocs frame_1_arrays args s ++ Jvm.staticLocs frame_1_statics s) 40 6336 → Post tb e args s (.returned v) u) :
    ArmFor flags0 classFile x code maxLocals ret World_1 tables_1 room_1 Calls_1 rest_1 Pre_1 Post := by
  intro l hfl _ _ p e ha hc hk s m args below hf hA hF happ hP
  obtain ⟨hcalls, hrest, hpre⟩ := hP
  obtain ⟨-, -, -, hnamed, -, -, -, hat⟩ := (Spec.applies_iff hf).mp happ
  obtain ⟨hg, hn⟩ := and_e (Cond.before_iff.mp (show (Jvm.Cond.and given_1 narrow_1).before args s = true from hpre))
  obtain ⟨hg0, hg⟩ := and_e hg
  obtain ⟨w0, w1, w2, w3, w4, rfl⟩ : ∃ w0 w1 w2 w3 w4 : Value, args = #[w0, w1, w2, w3, w4] := by
    have hs : args.size = 5 := by simpa [Cond.value, given_1] using hg0
    obtain ⟨L⟩ := args
    match L, hs with
    | [w0, w1, w2, w3, w4], _ => exact ⟨w0, w1, w2, w3, w4, rfl⟩
  have hw := fun d (hd : d ∈ tables_1) => atoms_spec (ws := Jvm.Cond.code x code maxLocals ret :: tables_1) hat d (List.mem_cons_of_mem _ hd)
  have hfit : Fit s := fun {y c} hc i hi => by
    obtain ⟨ha, rfl⟩ := Array.getElem?_eq_some_iff.mp hc
    have q := List.all_eq_true.mp ((Array.all_eq_true_iff_forall_mem.mp hF) _ (Array.getElem_mem ha)) i (List.mem_range.mpr hi)
    simpa [Array.getElem?_eq_getElem hi] using q
  obtain ⟨hg1, hg⟩ := and_e hg
  obtain ⟨p0, e0⟩ := is_v hg1
  obtain rfl : w0 = (.int p0) := Option.some.inj e0
  obtain ⟨hg2, hg⟩ := and_e hg
  obtain ⟨p1, e1⟩ := is_v hg2
  obtain rfl : w1 = (.int p1) := Option.some.inj e1
  obtain ⟨hg3, hg⟩ := and_e hg
  obtain ⟨p2, e2⟩ := is_v hg3
  obtain rfl : w2 = (.int p2) := Option.some.inj e2
  obtain ⟨hg4, hg⟩ := and_e hg
  obtain ⟨p3, e3⟩ := is_v hg4
  obtain rfl : w3 = (.int p3) := Option.some.inj e3
  have hg5 := hg
  obtain ⟨p4, e4⟩ := is_v hg5
  obtain rfl : w4 = (.int p4) := Option.some.inj e4
  obtain ⟨hx0, hn⟩ := and_e hn
  obtain ⟨hx2, hn⟩ := and_e hn
  obtain ⟨ho2, hn⟩ := and_e hn
  obtain ⟨ho0, hn⟩ := and_e hn
  obtain ⟨hx1, hn⟩ := and_e hn
  have ho1 := hn
  obtain ⟨u0, S0, E0, v0⟩ := own_sx hx0 (tw hw 2) (tw hw 3)
  have O0 := own_fi v0 ho0
  obtain ⟨u1, S1, E1, v1⟩ := own_sx hx1 (tw hw 2) (tw hw 100)
  have O1 := own_fi v1 ho1
  obtain ⟨u2, S2, E2, v2⟩ := own_sx hx2 (tw hw 2) (tw hw 94)
  have O2 := own_fi v2 ho2
  obtain ⟨hjs, -⟩ := atoms_of jdkStatics_1 (own := restOwn_1) (show (jdkStatics_1.foldr Jvm.Cond.and restOwn_1).before _ s = true from hrest)
  obtain ⟨cz, hcz, SC⟩ := own_comp (a0 := #[]) (hjs _ (List.mem_of_getElem? (i := 0) rfl)) (hjs _ (List.mem_of_getElem? (i := 1) rfl)) (hjs _ (List.mem_of_getElem? (i := 2) rfl))
  obtain ⟨lo, SR, EL0, el⟩ := own_sx' (Cond.before_iff.mp (hjs _ (List.mem_of_getElem? (i := 11) rfl))) (hjs _ (List.mem_of_getElem? (i := 10) rfl))
  obtain ⟨bl, GB, EB, eb⟩ := own_fxr el (Cond.before_iff.mp (hjs _ (List.mem_of_getElem? (i := 12) rfl)))
  obtain ⟨lg, GL, EG, eg⟩ := own_fxr eb (Cond.before_iff.mp (hjs _ (List.mem_of_getElem? (i := 13) rfl)))
  have GC := own_fi eg (Cond.before_iff.mp (hjs _ (List.mem_of_getElem? (i := 14) rfl)))
  obtain ⟨d, c, GV, A, ed⟩ := own_far eg (Cond.before_iff.mp (hjs _ (List.mem_of_getElem? (i := 15) rfl)))
  have hd : s.arrayAt? d = some c := A.fin (Vm.Alike.refl _)
  have hz := own_len ed hd (Cond.before_iff.mp (hjs _ (List.mem_of_getElem? (i := 17) rfl))) (by decide)
  have XL : Str s s.heap lg [] := ⟨EG, GC, d, c.cls, 0, GV, own_arv hfit A hz (by decide) rfl trivial, rfl⟩
  obtain ⟨qi, SQ, EQ, -⟩ := own_sx' (Cond.before_iff.mp (hjs _ (List.mem_of_getElem? (i := 20) rfl))) (hjs _ (List.mem_of_getElem? (i := 19) rfl))
  have R := con_law l s _ hw p0 p1 p2 p3 p4 u0 S0 u1 S1 u2 S2 (O1.ne O0 (by decide)) (O2.ne O0 (by decide)) lo bl lg EL0 EB GB GL XL qi SQ EQ SR cz hcz SC
  have HCH : CHv s own_EL s.vm s.heap := CHv.start (own_ew0 hw) (fun p hp => hcalls.1 p (by revert hp; simp [own_EL, consts_1])) (show Jvm.Lit.compactW.before _ s = true from (hjs _ (List.mem_of_getElem? (i := 2) rfl))) (tw hw 23) (tw hw 5)
  obtain ⟨n, o, h1, h2, h3, _, Lc, rfl, ⟨_, rfl, rfl⟩, N, hCH, hEx, hNr, hq⟩ := R tables_1 p e ha hc hk s m _ below hf ((Spec.applies_iff_loose hf).mp happ).1 ⟨rfl, State.Warmed39.refl s, rfl, HCH, all0⟩ trivial
  refine ⟨n, _, h1, h2, h3, hpost _ _ _ _ _ _ ⟨Cond.after_iff.mpr rfl, Cond.after_iff.mpr (eq_i res_at (Term.int_eval (1)) rfl), trivial⟩ ⟨hq.1, hq.2.1, hq.2.2.1, (hq.2.2.2.sift fun y hy => Or.inr (N y hy)).mono (by decide) (by decide)⟩⟩
theorem main_1_1 : Claimed_1_1 := comes_1 fun _ _ _ _ _ _ h hF => ⟨h.1, hF⟩
theorem main_1_2 : Claimed_1_2 := comes_1 fun _ _ _ _ _ _ h hF => ⟨h.2.1, hF⟩
end Jvm.Pilot.@@N@@
namespace Jvm.Pilot.@@N@@
open Jvm Jvm.ClassFile Sem Op Lib Jvm.Free Jvm.Stand Jvm.Pilot.@@N@@.Jvm.D
/-! MADE BY PROGRAM (witnessworld.py) out of the Statement's table words and the real class files: 28 classes; the members and pool entries that the words name. The judged class is class 1, her method 1. -/
namespace start1
open Jvm.ClassFile
def u (s : String) : CpInfo := .utf8 (stringToUtf16 s)
/-- a pool by its gaps: so many unusable entries, then the entry; so many at the end -/
def gap : Nat → List CpInfo → List CpInfo
  | 0, r => r
  | n + 1, r => .unusable :: gap n r
def poolList (es : List (Nat × CpInfo)) (last : Nat) : List CpInfo := es.foldr (fun e r => gap e.1 (e.2 :: r)) (gap last [])
def pool (es : List (Nat × CpInfo)) (last : Nat) : Array CpInfo := ⟨poolList es last⟩
def fileOf (pool : Array CpInfo) (this : Nat) (attrs : Array Attribute := #[]) (ms : Array MethodInfo := #[]) (fl : Nat := 33) (sup : Nat := 0) (ifs : Array Nat := #[]) (fds : Array FieldInfo := #[]) : ClassFile where
  minorVersion := 0
  majorVersion := 65
  constantPool := pool
  accessFlags := fl
  thisClass := this
  superClass := sup
  interfaces := ifs
  fields := fds
  methods := ms
  attributes := attrs
def plain (name : String) (sup : Option ClassId) : Class where
  name := name
  kind := .ordinary
  loader := none
  accessFlags := 33
  super := sup
  interfaces := #[]
  cf := none
  fields := #[]
  methods := #[]
  instanceTypes := #[]
  staticTypes := #[]
  resolved := #[]
  callSites := []
  init := .initialized
  statics := none
  mirror := none

def pool0 : Array CpInfo := pool [(5, u "<init>"), (0, u "()V"), (1, .class_ 10), (1, u "java/lang/Object")] 113

def k0c0 : Code := { maxStack := 0, maxLocals := 1, code := object_method_1_code, exceptionTable := #[], attributes := #[] }
def k0m0 : Method := { name := "<init>", desc := "()V", sig := { parameters := [], returnType := none }, accessFlags := 1, code := some k0c0 }
/-- java/lang/Object -/
def k0 : Class := { plain "java/lang/Object" none with
  accessFlags := 33
  interfaces := #[]
  cf := some (fileOf pool0 8 #[] #[{ accessFlags := 1, nameIndex := 5, descriptorIndex := 6, attributes := #[] }] 33 0 #[] #[])
  fields := #[]
  methods := #[k0m0]
  instanceTypes := #[]
  staticTypes := #[]
  resolved := Array.replicate 124 none
  statics := none }

def pool1 : Array CpInfo := pool [(2, .class_ 4), (1, u "java/lang/Object"), (0, u "<init>"), (0, u "()V"), (0, .integer 2147483647), (0, .fieldref 9 10), (0, .class_ 11), (0, .nameAndType 12 13), (0, u "com/example/gatewarden/gatewarden/access/Assignee$Kind"), (0, u "USER"), (0, u "Lcom/example/gatewarden/gatewarden/access/Assignee$Kind;"), (0, .fieldref 9 15), (0, .nameAndType 16 13), (0, u "GROUP"), (0, .fieldref 9 18), (0, .nameAndType 19 13), (0, u "PRINCIPAL"), (0, .class_ 21), (0, u "java/lang/String"), (0, .methodref 20 23), (0, .nameAndType 5 24), (0, u "([C)V"), (0, .methodref 26 27), (0, .class_ 28), (0, .nameAndType 29 30), (0, u "com/example/gatewarden/gatewarden/access/AssigneeViaPinLaw"), (0, u "low"), (0, u "(C)C"), (0, .class_ 32), (0, u "com/example/gatewarden/gatewarden/access/Assignee"), (0, .methodref 31 34), (0, .nameAndType 5 35), (0, u "(Lcom/example/gatewarden/gatewarden/access/Assignee$Kind;Ljava/lang/String;)V"), (0, .methodref 31 37), (0, .nameAndType 38 39), (0, u "via"), (0, u "()Ljava/lang/String;"), (0, .string 41), (0, u "user"), (0, .methodref 20 43), (0, .nameAndType 44 45), (0, u "equals"), (0, u "(Ljava/lang/Object;)Z"), (2, u "law"), (0, u "(IIIII)Z")] 5

def k1m0 : Method := { name := "<init>", desc := "()V", sig := { parameters := [], returnType := none }, accessFlags := 1, code := none }
def k1c1 : Code := { maxStack := 6, maxLocals := 14, code := code, exceptionTable := #[], attributes := #[] }
def k1m1 : Method := { name := "law", desc := "(IIIII)Z", sig := { parameters := [.int, .int, .int, .int, .int], returnType := some .boolean }, accessFlags := 9, code := some k1c1 }
def k1c2 : Code := { maxStack := 2, maxLocals := 1, code := method_3_code, exceptionTable := #[], attributes := #[] }
def k1m2 : Method := { name := "low", desc := "(C)C", sig := { parameters := [.char], returnType := some .char }, accessFlags := 10, code := some k1c2 }
/-- com/example/gatewarden/gatewarden/access/AssigneeViaPinLaw -/
def k1 : Class := { plain "com/example/gatewarden/gatewarden/access/AssigneeViaPinLaw" (some 0) with
  accessFlags := 49
  interfaces := #[]
  cf := some (fileOf pool1 26 #[] #[{ accessFlags := 1, nameIndex := 5, descriptorIndex := 6, attributes := #[] }, { accessFlags := 9, nameIndex := 48, descriptorIndex := 49, attributes := #[] }, { accessFlags := 10, nameIndex := 29, descriptorIndex := 30, attributes := #[] }] 49 2 #[] #[])
  fields := #[]
  methods := #[k1m0, k1m1, k1m2]
  instanceTypes := #[]
  staticTypes := #[]
  resolved := Array.replicate 55 none
  statics := none }

def pool2 : Array CpInfo := pool [(1, .class_ 2), (0, u "java/lang/constant/Constable"), (0, .class_ 4), (0, u "java/lang/Object")] 6

/-- java/lang/constant/Constable -/
def k2 : Class := { plain "java/lang/constant/Constable" (some 0) with
  accessFlags := 1537
  interfaces := #[]
  cf := some (fileOf pool2 1 #[] #[] 1537 3 #[] #[])
  fields := #[]
  methods := #[]
  instanceTypes := #[]
  staticTypes := #[]
  resolved := Array.replicate 11 none
  statics := none }

def pool3 : Array CpInfo := pool [(1, .class_ 2), (0, u "java/lang/Comparable"), (0, .class_ 4), (0, u "java/lang/Object")] 7

/-- java/lang/Comparable -/
def k3 : Class := { plain "java/lang/Comparable" (some 0) with
  accessFlags := 1537
  interfaces := #[]
  cf := some (fileOf pool3 1 #[] #[] 1537 3 #[] #[])
  fields := #[]
  methods := #[]
  instanceTypes := #[]
  staticTypes := #[]
  resolved := Array.replicate 12 none
  statics := none }

def pool4 : Array CpInfo := pool [(1, .class_ 2), (0, u "java/io/Serializable"), (0, .class_ 4), (0, u "java/lang/Object")] 2

/-- java/io/Serializable -/
def k4 : Class := { plain "java/io/Serializable" (some 0) with
  accessFlags := 1537
  interfaces := #[]
  cf := some (fileOf pool4 1 #[] #[] 1537 3 #[] #[])
  fields := #[]
  methods := #[]
  instanceTypes := #[]
  staticTypes := #[]
  resolved := Array.replicate 7 none
  statics := none }

def pool5 : Array CpInfo := pool [(2, .class_ 4), (1, u "java/lang/Enum"), (0, u "name"), (0, u "Ljava/lang/String;"), (2, u "ordinal"), (0, u "I"), (1, .class_ 14), (1, u "java/lang/Object"), (4, u "hash"), (86, .class_ 108), (1, u "java/lang/Enum$EnumDesc"), (2, .class_ 112), (0, u "java/lang/constant/Constable"), (0, .class_ 114), (0, u "java/lang/Comparable"), (0, .class_ 116), (0, u "java/io/Serializable")] 87

/-- java/lang/Enum -/
def k5 : Class := { plain "java/lang/Enum" (some 0) with
  accessFlags := 1057
  interfaces := #[2, 3, 4]
  cf := some (fileOf pool5 2 #[.nestMembers #[106]] #[] 1057 12 #[111, 113, 115] #[{ accessFlags := 18, nameIndex := 5, descriptorIndex := 6, attributes := #[] }, { accessFlags := 18, nameIndex := 9, descriptorIndex := 10, attributes := #[] }, { accessFlags := 2, nameIndex := 19, descriptorIndex := 10, attributes := #[] }])
  fields := #[{ name := "name", type := (.object "java/lang/String"), accessFlags := 18, slot := 0, constantValue := 0 }, { name := "ordinal", type := .int, accessFlags := 18, slot := 1, constantValue := 0 }, { name := "hash", type := .int, accessFlags := 2, slot := 2, constantValue := 0 }]
  methods := #[]
  instanceTypes := #[(.object "java/lang/String"), .int, .int]
  staticTypes := #[]
  resolved := Array.replicate 204 none
  statics := none }

def pool6 : Array CpInfo := pool [(1, .class_ 2), (0, u "com/example/gatewarden/gatewarden/access/Assignee$Kind"), (2, u "USER"), (0, u "Lcom/example/gatewarden/gatewarden/access/Assignee$Kind;"), (2, u "GROUP"), (2, u "PRINCIPAL"), (2, u "$VALUES"), (0, u "[Lcom/example/gatewarden/gatewarden/access/Assignee$Kind;"), (6, .class_ 25), (1, u "java/lang/Enum"), (26, .class_ 53), (0, u "com/example/gatewarden/gatewarden/access/Assignee")] 2

/-- com/example/gatewarden/gatewarden/access/Assignee$Kind -/
def k6 : Class := { plain "com/example/gatewarden/gatewarden/access/Assignee$Kind" (some 5) with
  accessFlags := 16433
  interfaces := #[]
  cf := some (fileOf pool6 1 #[.nestHost 52] #[] 16433 23 #[] #[{ accessFlags := 16409, nameIndex := 5, descriptorIndex := 6, attributes := #[] }, { accessFlags := 16409, nameIndex := 9, descriptorIndex := 6, attributes := #[] }, { accessFlags := 16409, nameIndex := 12, descriptorIndex := 6, attributes := #[] }, { accessFlags := 4122, nameIndex := 15, descriptorIndex := 16, attributes := #[] }])
  fields := #[{ name := "USER", type := (.object "com/example/gatewarden/gatewarden/access/Assignee$Kind"), accessFlags := 16409, slot := 0, constantValue := 0 }, { name := "GROUP", type := (.object "com/example/gatewarden/gatewarden/access/Assignee$Kind"), accessFlags := 16409, slot := 1, constantValue := 0 }, { name := "PRINCIPAL", type := (.object "com/example/gatewarden/gatewarden/access/Assignee$Kind"), accessFlags := 16409, slot := 2, constantValue := 0 }, { name := "$VALUES", type := (.array (.object "com/example/gatewarden/gatewarden/access/Assignee$Kind")), accessFlags := 4122, slot := 3, constantValue := 0 }]
  methods := #[]
  instanceTypes := #[(.object "java/lang/String"), .int, .int]
  staticTypes := #[(.object "com/example/gatewarden/gatewarden/access/Assignee$Kind"), (.object "com/example/gatewarden/gatewarden/access/Assignee$Kind"), (.object "com/example/gatewarden/gatewarden/access/Assignee$Kind"), (.array (.object "com/example/gatewarden/gatewarden/access/Assignee$Kind"))]
  resolved := Array.replicate 56 none
  statics := some 0 }

def pool7 : Array CpInfo := pool [(2, .class_ 4), (1, u "java/lang/CharSequence"), (42, .class_ 48), (0, u "java/lang/CharSequence$1CodePointIterator"), (10, .class_ 60), (0, u "java/lang/CharSequence$1CharIterator"), (5, .class_ 67), (0, u "java/lang/Object")] 63

/-- java/lang/CharSequence -/
def k7 : Class := { plain "java/lang/CharSequence" (some 0) with
  accessFlags := 1537
  interfaces := #[]
  cf := some (fileOf pool7 2 #[.nestMembers #[47, 59]] #[] 1537 66 #[] #[])
  fields := #[]
  methods := #[]
  instanceTypes := #[]
  staticTypes := #[]
  resolved := Array.replicate 131 none
  statics := none }

def pool8 : Array CpInfo := pool [(1, .class_ 2), (0, u "java/lang/constant/ConstantDesc"), (0, .class_ 4), (0, u "java/lang/Object")] 32

/-- java/lang/constant/ConstantDesc -/
def k8 : Class := { plain "java/lang/constant/ConstantDesc" (some 0) with
  accessFlags := 1537
  interfaces := #[]
  cf := some (fileOf pool8 1 #[] #[] 1537 3 #[] #[])
  fields := #[]
  methods := #[]
  instanceTypes := #[]
  staticTypes := #[]
  resolved := Array.replicate 37 none
  statics := none }

def pool9 : Array CpInfo := pool [(1, .methodref 2 3), (0, .class_ 4), (0, .nameAndType 5 6), (0, u "java/lang/Object"), (0, u "<init>"), (0, u "()V"), (0, .string 8), (0, u ""), (0, .fieldref 10 11), (0, .class_ 12), (0, .nameAndType 13 14), (0, u "java/lang/String"), (0, u "value"), (0, u "[B"), (0, .fieldref 10 16), (0, .nameAndType 17 18), (0, u "coder"), (0, u "B"), (2, u "hash"), (0, u "I"), (2, u "hashIsZero"), (0, u "Z"), (0, .methodref 10 28), (0, .nameAndType 5 29), (0, u "([CIILjava/lang/Void;)V"), (8, .fieldref 10 39), (0, .nameAndType 40 26), (0, u "COMPACT_STRINGS"), (1, .class_ 44), (1, u "java/lang/StringUTF16"), (0, u "compress"), (1, .methodref 42 48), (0, .nameAndType 49 50), (0, u "coderFromArrayLen"), (0, u "([BI)B"), (56, .class_ 109), (1, u "java/lang/StringLatin1"), (32, u "()Z"), (34, .methodref 42 178), (0, .nameAndType 45 179), (0, u "([CII)[B"), (31, u "([BB)V"), (280, .methodref 10 493), (0, .nameAndType 494 142), (0, u "isLatin1"), (46, .methodref 107 542), (0, .nameAndType 543 544), (0, u "equals"), (0, u "([B[B)Z"), (28, u "(Ljava/lang/Object;)Z"), (1, .class_ 576), (0, u "java/lang/CharSequence"), (22, u "CASE_INSENSITIVE_ORDER"), (0, u "Ljava/util/Comparator;"), (238, .methodref 107 840), (0, .nameAndType 841 842), (0, u "toLowerCase"), (0, u "(Ljava/lang/String;[BLjava/util/Locale;)Ljava/lang/String;"), (9, u "(Ljava/util/Locale;)Ljava/lang/String;"), (157, u "([C)V"), (90, u "serialPersistentFields"), (0, u "[Ljava/io/ObjectStreamField;"), (0, .class_ 1104), (0, u "java/lang/String$CaseInsensitiveComparator"), (1, .class_ 1107), (0, u "java/io/Serializable"), (0, .class_ 1109), (0, u "java/lang/Comparable"), (0, .class_ 1111), (0, u "java/lang/constant/Constable"), (0, .class_ 1113), (0, u "java/lang/constant/ConstantDesc"), (2, u "serialVersionUID"), (0, u "J"), (3, u "REPL"), (0, u "C"), (2, u "LATIN1"), (1, u "UTF16")] 323

def k9m0 : Method := { name := "<init>", desc := "()V", sig := { parameters := [], returnType := none }, accessFlags := 1, code := none }
def k9c1 : Code := { maxStack := 5, maxLocals := 2, code := jdk_42_method_3_code, exceptionTable := #[], attributes := #[] }
def k9m1 : Method := { name := "<init>", desc := "([C)V", sig := { parameters := [(.array .char)], returnType := none }, accessFlags := 1, code := some k9c1 }
def k9c2 : Code := { maxStack := 2, maxLocals := 3, code := jdk_42_method_66_code, exceptionTable := #[], attributes := #[] }
def k9m2 : Method := { name := "equals", desc := "(Ljava/lang/Object;)Z", sig := { parameters := [(.object "java/lang/Object")], returnType := some .boolean }, accessFlags := 1, code := some k9c2 }
def k9c3 : Code := { maxStack := 3, maxLocals := 2, code := jdk_42_method_109_code, exceptionTable := #[], attributes := #[] }
def k9m3 : Method := { name := "toLowerCase", desc := "(Ljava/util/Locale;)Ljava/lang/String;", sig := { parameters := [(.object "java/util/Locale")], returnType := some (.object "java/lang/String") }, accessFlags := 1, code := some k9c3 }
def k9c4 : Code := { maxStack := 4, maxLocals := 6, code := jdk_42_method_149_code, exceptionTable := #[], attributes := #[] }
def k9m4 : Method := { name := "<init>", desc := "([CIILjava/lang/Void;)V", sig := { parameters := [(.array .char), .int, .int, (.object "java/lang/Void")], returnType := none }, accessFlags := 2, code := some k9c4 }
def k9c5 : Code := { maxStack := 2, maxLocals := 3, code := jdk_42_method_151_code, exceptionTable := #[], attributes := #[] }
def k9m5 : Method := { name := "<init>", desc := "([BB)V", sig := { parameters := [(.array .byte), .byte], returnType := none }, accessFlags := 0, code := some k9c5 }
def k9c6 : Code := { maxStack := 1, maxLocals := 1, code := jdk_42_method_154_code, exceptionTable := #[], attributes := #[] }
def k9m6 : Method := { name := "isLatin1", desc := "()Z", sig := { parameters := [], returnType := some .boolean }, accessFlags := 0, code := some k9c6 }
/-- java/lang/String -/
def k9 : Class := { plain "java/lang/String" (some 0) with
  accessFlags := 49
  interfaces := #[4, 3, 7, 2, 8]
  cf := some (fileOf pool9 10 #[.nestMembers #[1103]] #[{ accessFlags := 1, nameIndex := 5, descriptorIndex := 6, attributes := #[] }, { accessFlags := 1, nameIndex := 5, descriptorIndex := 1010, attributes := #[] }, { accessFlags := 1, nameIndex := 543, descriptorIndex := 573, attributes := #[] }, { accessFlags := 1, nameIndex := 841, descriptorIndex := 852, attributes := #[] }, { accessFlags := 2, nameIndex := 5, descriptorIndex := 29, attributes := #[] }, { accessFlags := 0, nameIndex := 5, descriptorIndex := 211, attributes := #[] }, { accessFlags := 0, nameIndex := 494, descriptorIndex := 142, attributes := #[] }] 49 2 #[1106, 1108, 575, 1110, 1112] #[{ accessFlags := 18, nameIndex := 13, descriptorIndex := 14, attributes := #[] }, { accessFlags := 18, nameIndex := 17, descriptorIndex := 18, attributes := #[] }, { accessFlags := 2, nameIndex := 21, descriptorIndex := 22, attributes := #[] }, { accessFlags := 2, nameIndex := 25, descriptorIndex := 26, attributes := #[] }, { accessFlags := 26, nameIndex := 1116, descriptorIndex := 1117, attributes := #[] }, { accessFlags := 24, nameIndex := 40, descriptorIndex := 26, attributes := #[] }, { accessFlags := 26, nameIndex := 1101, descriptorIndex := 1102, attributes := #[] }, { accessFlags := 26, nameIndex := 1121, descriptorIndex := 1122, attributes := #[] }, { accessFlags := 25, nameIndex := 599, descriptorIndex := 600, attributes := #[] }, { accessFlags := 24, nameIndex := 1125, descriptorIndex := 18, attributes := #[] }, { accessFlags := 24, nameIndex := 1127, descriptorIndex := 18, attributes := #[] }])
  fields := #[{ name := "value", type := (.array .byte), accessFlags := 18, slot := 0, constantValue := 0 }, { name := "coder", type := .byte, accessFlags := 18, slot := 1, constantValue := 0 }, { name := "hash", type := .int, accessFlags := 2, slot := 2, constantValue := 0 }, { name := "hashIsZero", type := .boolean, accessFlags := 2, slot := 3, constantValue := 0 }, { name := "serialVersionUID", type := .long, accessFlags := 26, slot := 0, constantValue := 0 }, { name := "COMPACT_STRINGS", type := .boolean, accessFlags := 24, slot := 1, constantValue := 0 }, { name := "serialPersistentFields", type := (.array (.object "java/io/ObjectStreamField")), accessFlags := 26, slot := 2, constantValue := 0 }, { name := "REPL", type := .char, accessFlags := 26, slot := 3, constantValue := 0 }, { name := "CASE_INSENSITIVE_ORDER", type := (.object "java/util/Comparator"), accessFlags := 25, slot := 4, constantValue := 0 }, { name := "LATIN1", type := .byte, accessFlags := 24, slot := 5, constantValue := 0 }, { name := "UTF16", type := .byte, accessFlags := 24, slot := 6, constantValue := 0 }]
  methods := #[k9m0, k9m1, k9m2, k9m3, k9m4, k9m5, k9m6]
  instanceTypes := #[(.array .byte), .byte, .int, .boolean]
  staticTypes := #[.long, .boolean, (.array (.object "java/io/ObjectStreamField")), .char, (.object "java/util/Comparator"), .byte, .byte]
  resolved := Array.replicate 1451 none
  statics := some 1 }

def pool10 : Array CpInfo := pool [(6, .class_ 8), (1, u "java/lang/Object"), (0, u "<init>"), (0, u "()V"), (1, .class_ 14), (1, u "java/lang/StringUTF16"), (31, u "$assertionsDisabled"), (0, u "Z"), (13, u "HI_BYTE_SHIFT"), (0, u "I"), (2, u "LO_BYTE_SHIFT"), (49, .methodref 12 116), (0, .nameAndType 117 118), (0, u "compress"), (0, u "([CI[BII)I"), (3, u "([CII)[B"), (138, u "coderFromArrayLen"), (0, u "([BI)B"), (106, .class_ 371), (1, u "java/lang/StringUTF16$LinesSpliterator"), (58, u "MAX_LENGTH"), (196, .class_ 628), (0, u "java/lang/StringUTF16$CodePointsSpliterator"), (0, .class_ 630), (0, u "java/lang/StringUTF16$CharsSpliterator")] 4

def k10m0 : Method := { name := "<init>", desc := "()V", sig := { parameters := [], returnType := none }, accessFlags := 0, code := none }
def k10c1 : Code := { maxStack := 2, maxLocals := 2, code := jdk_52_method_15_code, exceptionTable := #[], attributes := #[] }
def k10m1 : Method := { name := "coderFromArrayLen", desc := "([BI)B", sig := { parameters := [(.array .byte), .int], returnType := some .byte }, accessFlags := 8, code := some k10c1 }
def k10c2 : Code := { maxStack := 5, maxLocals := 6, code := jdk_52_method_16_code, exceptionTable := #[], attributes := #[] }
def k10m2 : Method := { name := "compress", desc := "([CII)[B", sig := { parameters := [(.array .char), .int, .int], returnType := some (.array .byte) }, accessFlags := 9, code := some k10c2 }
def k10c3 : Code := { maxStack := 3, maxLocals := 7, code := jdk_52_method_21_code, exceptionTable := #[], attributes := #[] }
def k10m3 : Method := { name := "compress", desc := "([CI[BII)I", sig := { parameters := [(.array .char), .int, (.array .byte), .int, .int], returnType := some .int }, accessFlags := 9, code := some k10c3 }
/-- java/lang/StringUTF16 -/
def k10 : Class := { plain "java/lang/StringUTF16" (some 0) with
  accessFlags := 48
  interfaces := #[]
  cf := some (fileOf pool10 12 #[.nestMembers #[627, 629, 369]] #[{ accessFlags := 0, nameIndex := 9, descriptorIndex := 10, attributes := #[] }, { accessFlags := 8, nameIndex := 261, descriptorIndex := 262, attributes := #[] }, { accessFlags := 9, nameIndex := 117, descriptorIndex := 122, attributes := #[] }, { accessFlags := 9, nameIndex := 117, descriptorIndex := 118, attributes := #[] }] 48 6 #[] #[{ accessFlags := 26, nameIndex := 61, descriptorIndex := 62, attributes := #[] }, { accessFlags := 26, nameIndex := 65, descriptorIndex := 62, attributes := #[] }, { accessFlags := 24, nameIndex := 430, descriptorIndex := 62, attributes := #[] }, { accessFlags := 4120, nameIndex := 46, descriptorIndex := 47, attributes := #[] }])
  fields := #[{ name := "HI_BYTE_SHIFT", type := .int, accessFlags := 26, slot := 0, constantValue := 0 }, { name := "LO_BYTE_SHIFT", type := .int, accessFlags := 26, slot := 1, constantValue := 0 }, { name := "MAX_LENGTH", type := .int, accessFlags := 24, slot := 2, constantValue := 0 }, { name := "$assertionsDisabled", type := .boolean, accessFlags := 4120, slot := 3, constantValue := 0 }]
  methods := #[k10m0, k10m1, k10m2, k10m3]
  instanceTypes := #[]
  staticTypes := #[.int, .int, .int, .boolean]
  resolved := Array.replicate 635 none
  statics := none }

def pool11 : Array CpInfo := pool [(1, .methodref 2 3), (0, .class_ 4), (0, .nameAndType 5 6), (0, u "java/lang/Object"), (0, u "<init>"), (0, u "()V"), (0, .class_ 8), (0, u "java/lang/Record")] 13

def k11c0 : Code := { maxStack := 1, maxLocals := 1, code := jdk_30_method_1_code, exceptionTable := #[], attributes := #[] }
def k11m0 : Method := { name := "<init>", desc := "()V", sig := { parameters := [], returnType := none }, accessFlags := 4, code := some k11c0 }
/-- java/lang/Record -/
def k11 : Class := { plain "java/lang/Record" (some 0) with
  accessFlags := 1057
  interfaces := #[]
  cf := some (fileOf pool11 7 #[] #[{ accessFlags := 4, nameIndex := 5, descriptorIndex := 6, attributes := #[] }] 1057 2 #[] #[])
  fields := #[]
  methods := #[k11m0]
  instanceTypes := #[]
  staticTypes := #[]
  resolved := Array.replicate 22 none
  statics := none }

def pool12 : Array CpInfo := pool [(1, .methodref 2 3), (0, .class_ 4), (0, .nameAndType 5 6), (0, u "java/lang/Record"), (0, u "<init>"), (0, u "()V"), (0, .fieldref 8 9), (0, .class_ 10), (0, .nameAndType 11 12), (0, u "java/util/Locale"), (0, u "ROOT"), (0, u "Ljava/util/Locale;"), (0, .methodref 14 15), (0, .class_ 16), (0, .nameAndType 17 18), (0, u "java/lang/String"), (0, u "toLowerCase"), (0, u "(Ljava/util/Locale;)Ljava/lang/String;"), (0, .fieldref 20 21), (0, .class_ 22), (0, .nameAndType 23 24), (0, u "com/example/gatewarden/gatewarden/access/Assignee"), (0, u "kind"), (0, u "Lcom/example/gatewarden/gatewarden/access/Assignee$Kind;"), (0, .fieldref 20 26), (0, .nameAndType 27 28), (0, u "name"), (0, u "Ljava/lang/String;"), (0, .fieldref 30 31), (0, .class_ 32), (0, .nameAndType 33 24), (0, u "com/example/gatewarden/gatewarden/access/Assignee$Kind"), (0, u "USER"), (2, u "(Lcom/example/gatewarden/gatewarden/access/Assignee$Kind;Ljava/lang/String;)V"), (12, .string 50), (0, u "user"), (24, u "ANONYMOUS"), (0, u "Lcom/example/gatewarden/gatewarden/access/Assignee;"), (4, u "AUTHENTICATED"), (5, u "()Ljava/lang/String;"), (1, u "via")] 37

def k12c0 : Code := { maxStack := 2, maxLocals := 3, code := prog_1_method_1_code, exceptionTable := #[], attributes := #[] }
def k12m0 : Method := { name := "<init>", desc := "(Lcom/example/gatewarden/gatewarden/access/Assignee$Kind;Ljava/lang/String;)V", sig := { parameters := [(.object "com/example/gatewarden/gatewarden/access/Assignee$Kind"), (.object "java/lang/String")], returnType := none }, accessFlags := 1, code := some k12c0 }
def k12c1 : Code := { maxStack := 2, maxLocals := 1, code := prog_1_method_5_code, exceptionTable := #[], attributes := #[] }
def k12m1 : Method := { name := "via", desc := "()Ljava/lang/String;", sig := { parameters := [], returnType := some (.object "java/lang/String") }, accessFlags := 1, code := some k12c1 }
/-- com/example/gatewarden/gatewarden/access/Assignee -/
def k12 : Class := { plain "com/example/gatewarden/gatewarden/access/Assignee" (some 11) with
  accessFlags := 49
  interfaces := #[]
  cf := some (fileOf pool12 20 #[.nestMembers #[30]] #[{ accessFlags := 1, nameIndex := 5, descriptorIndex := 36, attributes := #[] }, { accessFlags := 1, nameIndex := 89, descriptorIndex := 87, attributes := #[] }] 49 2 #[] #[{ accessFlags := 18, nameIndex := 23, descriptorIndex := 24, attributes := #[] }, { accessFlags := 18, nameIndex := 27, descriptorIndex := 28, attributes := #[] }, { accessFlags := 24, nameIndex := 75, descriptorIndex := 76, attributes := #[] }, { accessFlags := 24, nameIndex := 81, descriptorIndex := 76, attributes := #[] }])
  fields := #[{ name := "kind", type := (.object "com/example/gatewarden/gatewarden/access/Assignee$Kind"), accessFlags := 18, slot := 0, constantValue := 0 }, { name := "name", type := (.object "java/lang/String"), accessFlags := 18, slot := 1, constantValue := 0 }, { name := "ANONYMOUS", type := (.object "com/example/gatewarden/gatewarden/access/Assignee"), accessFlags := 24, slot := 0, constantValue := 0 }, { name := "AUTHENTICATED", type := (.object "com/example/gatewarden/gatewarden/access/Assignee"), accessFlags := 24, slot := 1, constantValue := 0 }]
  methods := #[k12m0, k12m1]
  instanceTypes := #[(.object "com/example/gatewarden/gatewarden/access/Assignee$Kind"), (.object "java/lang/String")]
  staticTypes := #[(.object "com/example/gatewarden/gatewarden/access/Assignee"), (.object "com/example/gatewarden/gatewarden/access/Assignee")]
  resolved := Array.replicate 127 none
  statics := none }

def pool13 : Array CpInfo := pool [(1, .class_ 2), (0, u "java/lang/Cloneable"), (0, .class_ 4), (0, u "java/lang/Object")] 2

/-- java/lang/Cloneable -/
def k13 : Class := { plain "java/lang/Cloneable" (some 0) with
  accessFlags := 1537
  interfaces := #[]
  cf := some (fileOf pool13 1 #[] #[] 1537 3 #[] #[])
  fields := #[]
  methods := #[]
  instanceTypes := #[]
  staticTypes := #[]
  resolved := Array.replicate 7 none
  statics := none }

def pool14 : Array CpInfo := pool [(2, .class_ 4), (1, u "sun/util/locale/BaseLocale"), (2, .class_ 8), (0, u "java/util/Locale"), (6, u "CONSTANT_LOCALES"), (0, u "Ljava/util/Map;"), (7, .class_ 26), (1, u "java/lang/Object"), (1, .fieldref 7 29), (0, .nameAndType 30 31), (0, u "baseLocale"), (0, u "Lsun/util/locale/BaseLocale;"), (2, u "localeExtensions"), (0, u "Lsun/util/locale/LocaleExtensions;"), (31, .class_ 69), (1, u "java/util/Locale$Cache"), (3, .class_ 74), (0, u "java/util/Locale$LocaleKey"), (3, u "defaultLocale"), (0, u "Ljava/util/Locale;"), (6, .class_ 88), (1, u "java/util/Locale$Category"), (4, u "defaultDisplayLocale"), (6, u "$assertionsDisabled"), (0, u "Z"), (12, u "defaultFormatLocale"), (12, u "Ljava/lang/String;"), (131, u "isoCountries"), (0, u "[Ljava/lang/String;"), (15, .class_ 278), (1, u "java/util/Locale$IsoCountryCode"), (4, u "isoLanguages"), (9, .methodref 2 294), (0, .nameAndType 295 296), (0, u "getLanguage"), (0, u "()Ljava/lang/String;"), (78, u "languageTag"), (114, .class_ 492), (1, u "java/util/Locale$LocaleNameGetter"), (125, u "hashCodeValue"), (0, u "I"), (29, u "ROOT"), (129, .class_ 781), (1, u "java/util/Locale$FilteringMode"), (39, u "ENGLISH"), (2, u "FRENCH"), (2, u "GERMAN"), (2, u "ITALIAN"), (2, u "JAPANESE"), (2, u "KOREAN"), (2, u "CHINESE"), (2, u "SIMPLIFIED_CHINESE"), (2, u "TRADITIONAL_CHINESE"), (2, u "FRANCE"), (2, u "GERMANY"), (2, u "ITALY"), (2, u "JAPAN"), (2, u "KOREA"), (2, u "UK"), (2, u "US"), (2, u "CANADA"), (2, u "CANADA_FRENCH"), (2, u "CHINA"), (2, u "PRC"), (2, u "TAIWAN"), (13, u "serialPersistentFields"), (0, u "[Ljava/io/ObjectStreamField;"), (0, .class_ 898), (0, u "java/lang/Cloneable"), (0, .class_ 900), (0, u "java/io/Serializable"), (2, u "PRIVATE_USE_EXTENSION"), (0, u "C"), (2, u "UNICODE_LOCALE_EXTENSION"), (1, u "serialVersionUID"), (0, u "J"), (2, u "DISPLAY_LANGUAGE"), (1, u "DISPLAY_COUNTRY"), (1, u "DISPLAY_VARIANT"), (1, u "DISPLAY_SCRIPT"), (1, u "DISPLAY_UEXT_KEY"), (1, u "DISPLAY_UEXT_TYPE"), (174, .class_ 1099), (0, u "java/util/Locale$LanguageRange"), (0, .class_ 1101), (0, u "java/util/Locale$Builder"), (0, .class_ 1103), (0, u "java/util/Locale$IsoCountryCode$3"), (0, .class_ 1105), (0, u "java/util/Locale$IsoCountryCode$2"), (0, .class_ 1107), (0, u "java/util/Locale$IsoCountryCode$1")] 46

def k14c0 : Code := { maxStack := 1, maxLocals := 1, code := jdk_2628_method_27_code, exceptionTable := #[], attributes := #[] }
def k14m0 : Method := { name := "getLanguage", desc := "()Ljava/lang/String;", sig := { parameters := [], returnType := some (.object "java/lang/String") }, accessFlags := 1, code := some k14c0 }
/-- java/util/Locale -/
def k14 : Class := { plain "java/util/Locale" (some 0) with
  accessFlags := 49
  interfaces := #[13, 4]
  cf := some (fileOf pool14 7 #[.nestMembers #[1098, 779, 1100, 86, 490, 73, 67, 276, 1102, 1104, 1106]] #[{ accessFlags := 1, nameIndex := 295, descriptorIndex := 296, attributes := #[] }] 49 24 #[897, 899] #[{ accessFlags := 25, nameIndex := 821, descriptorIndex := 79, attributes := #[] }, { accessFlags := 25, nameIndex := 824, descriptorIndex := 79, attributes := #[] }, { accessFlags := 25, nameIndex := 827, descriptorIndex := 79, attributes := #[] }, { accessFlags := 25, nameIndex := 830, descriptorIndex := 79, attributes := #[] }, { accessFlags := 25, nameIndex := 833, descriptorIndex := 79, attributes := #[] }, { accessFlags := 25, nameIndex := 836, descriptorIndex := 79, attributes := #[] }, { accessFlags := 25, nameIndex := 839, descriptorIndex := 79, attributes := #[] }, { accessFlags := 25, nameIndex := 842, descriptorIndex := 79, attributes := #[] }, { accessFlags := 25, nameIndex := 845, descriptorIndex := 79, attributes := #[] }, { accessFlags := 25, nameIndex := 848, descriptorIndex := 79, attributes := #[] }, { accessFlags := 25, nameIndex := 851, descriptorIndex := 79, attributes := #[] }, { accessFlags := 25, nameIndex := 854, descriptorIndex := 79, attributes := #[] }, { accessFlags := 25, nameIndex := 857, descriptorIndex := 79, attributes := #[] }, { accessFlags := 25, nameIndex := 860, descriptorIndex := 79, attributes := #[] }, { accessFlags := 25, nameIndex := 863, descriptorIndex := 79, attributes := #[] }, { accessFlags := 25, nameIndex := 866, descriptorIndex := 79, attributes := #[] }, { accessFlags := 25, nameIndex := 869, descriptorIndex := 79, attributes := #[] }, { accessFlags := 25, nameIndex := 872, descriptorIndex := 79, attributes := #[] }, { accessFlags := 25, nameIndex := 649, descriptorIndex := 79, attributes := #[] }, { accessFlags := 26, nameIndex := 15, descriptorIndex := 16, attributes := #[] }, { accessFlags := 25, nameIndex := 875, descriptorIndex := 79, attributes := #[] }, { accessFlags := 25, nameIndex := 878, descriptorIndex := 79, attributes := #[] }, { accessFlags := 25, nameIndex := 881, descriptorIndex := 79, attributes := #[] }, { accessFlags := 25, nameIndex := 903, descriptorIndex := 904, attributes := #[] }, { accessFlags := 25, nameIndex := 907, descriptorIndex := 904, attributes := #[] }, { accessFlags := 24, nameIndex := 909, descriptorIndex := 910, attributes := #[] }, { accessFlags := 26, nameIndex := 913, descriptorIndex := 619, attributes := #[] }, { accessFlags := 26, nameIndex := 915, descriptorIndex := 619, attributes := #[] }, { accessFlags := 26, nameIndex := 917, descriptorIndex := 619, attributes := #[] }, { accessFlags := 26, nameIndex := 919, descriptorIndex := 619, attributes := #[] }, { accessFlags := 26, nameIndex := 921, descriptorIndex := 619, attributes := #[] }, { accessFlags := 26, nameIndex := 923, descriptorIndex := 619, attributes := #[] }, { accessFlags := 130, nameIndex := 30, descriptorIndex := 31, attributes := #[] }, { accessFlags := 130, nameIndex := 34, descriptorIndex := 35, attributes := #[] }, { accessFlags := 130, nameIndex := 618, descriptorIndex := 619, attributes := #[] }, { accessFlags := 74, nameIndex := 78, descriptorIndex := 79, attributes := #[] }, { accessFlags := 74, nameIndex := 93, descriptorIndex := 79, attributes := #[] }, { accessFlags := 74, nameIndex := 114, descriptorIndex := 79, attributes := #[] }, { accessFlags := 194, nameIndex := 375, descriptorIndex := 127, attributes := #[] }, { accessFlags := 26, nameIndex := 895, descriptorIndex := 896, attributes := #[] }, { accessFlags := 74, nameIndex := 283, descriptorIndex := 260, attributes := #[] }, { accessFlags := 74, nameIndex := 259, descriptorIndex := 260, attributes := #[] }, { accessFlags := 4120, nameIndex := 100, descriptorIndex := 101, attributes := #[] }])
  fields := #[{ name := "ENGLISH", type := (.object "java/util/Locale"), accessFlags := 25, slot := 0, constantValue := 0 }, { name := "FRENCH", type := (.object "java/util/Locale"), accessFlags := 25, slot := 1, constantValue := 0 }, { name := "GERMAN", type := (.object "java/util/Locale"), accessFlags := 25, slot := 2, constantValue := 0 }, { name := "ITALIAN", type := (.object "java/util/Locale"), accessFlags := 25, slot := 3, constantValue := 0 }, { name := "JAPANESE", type := (.object "java/util/Locale"), accessFlags := 25, slot := 4, constantValue := 0 }, { name := "KOREAN", type := (.object "java/util/Locale"), accessFlags := 25, slot := 5, constantValue := 0 }, { name := "CHINESE", type := (.object "java/util/Locale"), accessFlags := 25, slot := 6, constantValue := 0 }, { name := "SIMPLIFIED_CHINESE", type := (.object "java/util/Locale"), accessFlags := 25, slot := 7, constantValue := 0 }, { name := "TRADITIONAL_CHINESE", type := (.object "java/util/Locale"), accessFlags := 25, slot := 8, constantValue := 0 }, { name := "FRANCE", type := (.object "java/util/Locale"), accessFlags := 25, slot := 9, constantValue := 0 }, { name := "GERMANY", type := (.object "java/util/Locale"), accessFlags := 25, slot := 10, constantValue := 0 }, { name := "ITALY", type := (.object "java/util/Locale"), accessFlags := 25, slot := 11, constantValue := 0 }, { name := "JAPAN", type := (.object "java/util/Locale"), accessFlags := 25, slot := 12, constantValue := 0 }, { name := "KOREA", type := (.object "java/util/Locale"), accessFlags := 25, slot := 13, constantValue := 0 }, { name := "UK", type := (.object "java/util/Locale"), accessFlags := 25, slot := 14, constantValue := 0 }, { name := "US", type := (.object "java/util/Locale"), accessFlags := 25, slot := 15, constantValue := 0 }, { name := "CANADA", type := (.object "java/util/Locale"), accessFlags := 25, slot := 16, constantValue := 0 }, { name := "CANADA_FRENCH", type := (.object "java/util/Locale"), accessFlags := 25, slot := 17, constantValue := 0 }, { name := "ROOT", type := (.object "java/util/Locale"), accessFlags := 25, slot := 18, constantValue := 0 }, { name := "CONSTANT_LOCALES", type := (.object "java/util/Map"), accessFlags := 26, slot := 19, constantValue := 0 }, { name := "CHINA", type := (.object "java/util/Locale"), accessFlags := 25, slot := 20, constantValue := 0 }, { name := "PRC", type := (.object "java/util/Locale"), accessFlags := 25, slot := 21, constantValue := 0 }, { name := "TAIWAN", type := (.object "java/util/Locale"), accessFlags := 25, slot := 22, constantValue := 0 }, { name := "PRIVATE_USE_EXTENSION", type := .char, accessFlags := 25, slot := 23, constantValue := 0 }, { name := "UNICODE_LOCALE_EXTENSION", type := .char, accessFlags := 25, slot := 24, constantValue := 0 }, { name := "serialVersionUID", type := .long, accessFlags := 24, slot := 25, constantValue := 0 }, { name := "DISPLAY_LANGUAGE", type := .int, accessFlags := 26, slot := 26, constantValue := 0 }, { name := "DISPLAY_COUNTRY", type := .int, accessFlags := 26, slot := 27, constantValue := 0 }, { name := "DISPLAY_VARIANT", type := .int, accessFlags := 26, slot := 28, constantValue := 0 }, { name := "DISPLAY_SCRIPT", type := .int, accessFlags := 26, slot := 29, constantValue := 0 }, { name := "DISPLAY_UEXT_KEY", type := .int, accessFlags := 26, slot := 30, constantValue := 0 }, { name := "DISPLAY_UEXT_TYPE", type := .int, accessFlags := 26, slot := 31, constantValue := 0 }, { name := "baseLocale", type := (.object "sun/util/locale/BaseLocale"), accessFlags := 130, slot := 0, constantValue := 0 }, { name := "localeExtensions", type := (.object "sun/util/locale/LocaleExtensions"), accessFlags := 130, slot := 1, constantValue := 0 }, { name := "hashCodeValue", type := .int, accessFlags := 130, slot := 2, constantValue := 0 }, { name := "defaultLocale", type := (.object "java/util/Locale"), accessFlags := 74, slot := 32, constantValue := 0 }, { name := "defaultDisplayLocale", type := (.object "java/util/Locale"), accessFlags := 74, slot := 33, constantValue := 0 }, { name := "defaultFormatLocale", type := (.object "java/util/Locale"), accessFlags := 74, slot := 34, constantValue := 0 }, { name := "languageTag", type := (.object "java/lang/String"), accessFlags := 194, slot := 3, constantValue := 0 }, { name := "serialPersistentFields", type := (.array (.object "java/io/ObjectStreamField")), accessFlags := 26, slot := 35, constantValue := 0 }, { name := "isoLanguages", type := (.array (.object "java/lang/String")), accessFlags := 74, slot := 36, constantValue := 0 }, { name := "isoCountries", type := (.array (.object "java/lang/String")), accessFlags := 74, slot := 37, constantValue := 0 }, { name := "$assertionsDisabled", type := .boolean, accessFlags := 4120, slot := 38, constantValue := 0 }]
  methods := #[k14m0]
  instanceTypes := #[(.object "sun/util/locale/BaseLocale"), (.object "sun/util/locale/LocaleExtensions"), .int, (.object "java/lang/String")]
  staticTypes := #[(.object "java/util/Locale"), (.object "java/util/Locale"), (.object "java/util/Locale"), (.object "java/util/Locale"), (.object "java/util/Locale"), (.object "java/util/Locale"), (.object "java/util/Locale"), (.object "java/util/Locale"), (.object "java/util/Locale"), (.object "java/util/Locale"), (.object "java/util/Locale"), (.object "java/util/Locale"), (.object "java/util/Locale"), (.object "java/util/Locale"), (.object "java/util/Locale"), (.object "java/util/Locale"), (.object "java/util/Locale"), (.object "java/util/Locale"), (.object "java/util/Locale"), (.object "java/util/Map"), (.object "java/util/Locale"), (.object "java/util/Locale"), (.object "java/util/Locale"), .char, .char, .long, .int, .int, .int, .int, .int, .int, (.object "java/util/Locale"), (.object "java/util/Locale"), (.object "java/util/Locale"), (.array (.object "java/io/ObjectStreamField")), (.array (.object "java/lang/String")), (.array (.object "java/lang/String")), .boolean]
  resolved := Array.replicate 1154 none
  statics := some 2 }

def pool15 : Array CpInfo := pool [(1, .class_ 2), (0, u "java/lang/String"), (1, .class_ 6), (1, u "java/lang/Object"), (0, u "<init>"), (0, u "()V"), (5, .class_ 16), (1, u "java/lang/StringLatin1"), (11, .methodref 29 30), (0, .class_ 31), (0, .nameAndType 32 33), (0, u "java/lang/System"), (0, u "arraycopy"), (0, u "(Ljava/lang/Object;ILjava/lang/Object;II)V"), (32, .fieldref 67 68), (0, .class_ 69), (0, .nameAndType 70 71), (0, u "java/lang/CharacterDataLatin1"), (0, u "instance"), (0, u "Ljava/lang/CharacterDataLatin1;"), (3, u "(I)I"), (4, u "toLowerCase"), (7, .methodref 14 89), (0, .nameAndType 90 91), (0, u "canEncode"), (0, u "(I)Z"), (20, .methodref 1 113), (0, .nameAndType 7 114), (0, u "([BB)V"), (6, u "$assertionsDisabled"), (0, u "Z"), (37, .methodref 67 161), (0, .nameAndType 80 75), (0, .methodref 163 164), (0, .class_ 165), (0, .nameAndType 166 167), (0, u "java/util/Locale"), (0, u "getLanguage"), (0, u "()Ljava/lang/String;"), (0, .string 169), (0, u "tr"), (0, .string 171), (0, u "az"), (0, .string 173), (0, u "lt"), (47, .class_ 223), (1, u "java/lang/StringLatin1$LinesSpliterator"), (57, u "equals"), (0, u "([B[B)Z"), (67, u "(Ljava/lang/String;[BLjava/util/Locale;)Ljava/lang/String;"), (39, .class_ 391), (0, u "java/lang/StringLatin1$CharsSpliterator")] 3

def k15m0 : Method := { name := "<init>", desc := "()V", sig := { parameters := [], returnType := none }, accessFlags := 0, code := none }
def k15c1 : Code := { maxStack := 2, maxLocals := 1, code := jdk_43_method_4_code, exceptionTable := #[], attributes := #[] }
def k15m1 : Method := { name := "canEncode", desc := "(I)Z", sig := { parameters := [.int], returnType := some .boolean }, accessFlags := 9, code := some k15c1 }
def k15c2 : Code := { maxStack := 3, maxLocals := 3, code := jdk_43_method_13_code, exceptionTable := #[], attributes := #[] }
def k15m2 : Method := { name := "equals", desc := "([B[B)Z", sig := { parameters := [(.array .byte), (.array .byte)], returnType := some .boolean }, accessFlags := 9, code := some k15c2 }
def k15c3 : Code := { maxStack := 5, maxLocals := 9, code := jdk_43_method_32_code, exceptionTable := #[], attributes := #[] }
def k15m3 : Method := { name := "toLowerCase", desc := "(Ljava/lang/String;[BLjava/util/Locale;)Ljava/lang/String;", sig := { parameters := [(.object "java/lang/String"), (.array .byte), (.object "java/util/Locale")], returnType := some (.object "java/lang/String") }, accessFlags := 9, code := some k15c3 }
/-- java/lang/StringLatin1 -/
def k15 : Class := { plain "java/lang/StringLatin1" (some 0) with
  accessFlags := 48
  interfaces := #[]
  cf := some (fileOf pool15 14 #[.nestMembers #[390, 221]] #[{ accessFlags := 0, nameIndex := 7, descriptorIndex := 8, attributes := #[] }, { accessFlags := 9, nameIndex := 90, descriptorIndex := 91, attributes := #[] }, { accessFlags := 9, nameIndex := 281, descriptorIndex := 282, attributes := #[] }, { accessFlags := 9, nameIndex := 80, descriptorIndex := 350, attributes := #[] }] 48 4 #[] #[{ accessFlags := 4120, nameIndex := 121, descriptorIndex := 122, attributes := #[] }])
  fields := #[{ name := "$assertionsDisabled", type := .boolean, accessFlags := 4120, slot := 0, constantValue := 0 }]
  methods := #[k15m0, k15m1, k15m2, k15m3]
  instanceTypes := #[]
  staticTypes := #[.boolean]
  resolved := Array.replicate 395 none
  statics := none }

def pool16 : Array CpInfo := pool [(2, .class_ 4), (1, u "java/lang/Object"), (0, u "<init>"), (0, u "()V"), (1, .class_ 10), (1, u "java/lang/CharacterData")] 75

def k16m0 : Method := { name := "<init>", desc := "()V", sig := { parameters := [], returnType := none }, accessFlags := 0, code := none }
/-- java/lang/CharacterData -/
def k16 : Class := { plain "java/lang/CharacterData" (some 0) with
  accessFlags := 1056
  interfaces := #[]
  cf := some (fileOf pool16 8 #[] #[{ accessFlags := 0, nameIndex := 5, descriptorIndex := 6, attributes := #[] }] 1056 2 #[] #[])
  fields := #[]
  methods := #[k16m0]
  instanceTypes := #[]
  staticTypes := #[]
  resolved := Array.replicate 86 none
  statics := none }

def pool17 : Array CpInfo := pool [(2, .class_ 4), (1, u "java/lang/CharacterDataLatin1"), (0, u "A"), (0, u "[I"), (2, u "B"), (0, u "[C"), (3, u "(I)I"), (12, u "DIGITS"), (0, u "[B"), (8, u "sharpsMap"), (1, .class_ 41), (1, u "java/lang/CharacterData"), (0, u "<init>"), (0, u "()V"), (3, u "instance"), (0, u "Ljava/lang/CharacterDataLatin1;"), (63, u "toLowerCase")] 28

def k17c0 : Code := { maxStack := 2, maxLocals := 3, code := jdk_116_method_20_code, exceptionTable := #[], attributes := #[] }
def k17m0 : Method := { name := "toLowerCase", desc := "(I)I", sig := { parameters := [.int], returnType := some .int }, accessFlags := 0, code := some k17c0 }
def k17m1 : Method := { name := "<init>", desc := "()V", sig := { parameters := [], returnType := none }, accessFlags := 2, code := none }
/-- java/lang/CharacterDataLatin1 -/
def k17 : Class := { plain "java/lang/CharacterDataLatin1" (some 16) with
  accessFlags := 32
  interfaces := #[]
  cf := some (fileOf pool17 2 #[] #[{ accessFlags := 0, nameIndex := 112, descriptorIndex := 14, attributes := #[] }, { accessFlags := 2, nameIndex := 42, descriptorIndex := 43, attributes := #[] }] 32 39 #[] #[{ accessFlags := 26, nameIndex := 27, descriptorIndex := 28, attributes := #[] }, { accessFlags := 8, nameIndex := 37, descriptorIndex := 10, attributes := #[] }, { accessFlags := 24, nameIndex := 47, descriptorIndex := 48, attributes := #[] }, { accessFlags := 24, nameIndex := 5, descriptorIndex := 6, attributes := #[] }, { accessFlags := 24, nameIndex := 9, descriptorIndex := 10, attributes := #[] }])
  fields := #[{ name := "DIGITS", type := (.array .byte), accessFlags := 26, slot := 0, constantValue := 0 }, { name := "sharpsMap", type := (.array .char), accessFlags := 8, slot := 1, constantValue := 0 }, { name := "instance", type := (.object "java/lang/CharacterDataLatin1"), accessFlags := 24, slot := 2, constantValue := 0 }, { name := "A", type := (.array .int), accessFlags := 24, slot := 3, constantValue := 0 }, { name := "B", type := (.array .char), accessFlags := 24, slot := 4, constantValue := 0 }]
  methods := #[k17m0, k17m1]
  instanceTypes := #[]
  staticTypes := #[(.array .byte), (.array .char), (.object "java/lang/CharacterDataLatin1"), (.array .int), (.array .char)]
  resolved := Array.replicate 141 none
  statics := some 3 }

def pool18 : Array CpInfo := pool [(2, .class_ 4), (1, u "java/lang/Object"), (13, u "()Ljava/lang/String;"), (0, .fieldref 20 21), (0, .class_ 22), (0, .nameAndType 23 24), (0, u "sun/util/locale/BaseLocale"), (0, u "language"), (0, u "Ljava/lang/String;"), (5, u "script"), (5, u "region"), (2, u "variant"), (11, u "constantBaseLocales"), (0, u "[Lsun/util/locale/BaseLocale;"), (2, u "getLanguage"), (10, .class_ 67), (0, u "sun/util/locale/BaseLocale$Key"), (2, .class_ 72), (1, u "sun/util/locale/BaseLocale$Cache"), (24, u "OLD_ISO_CODES"), (0, u "Z"), (32, u "hash"), (0, u "I"), (41, u "US"), (15, u "ENGLISH"), (0, u "B"), (2, u "FRENCH"), (1, u "GERMAN"), (1, u "ITALIAN"), (1, u "JAPANESE"), (1, u "KOREAN"), (1, u "CHINESE"), (1, u "SIMPLIFIED_CHINESE"), (1, u "TRADITIONAL_CHINESE"), (1, u "FRANCE"), (1, u "GERMANY"), (1, u "ITALY"), (1, u "JAPAN"), (1, u "KOREA"), (1, u "UK"), (2, u "CANADA"), (1, u "CANADA_FRENCH"), (1, u "ROOT"), (1, u "NUM_CONSTANTS"), (1, u "SEP")] 31

def k18c0 : Code := { maxStack := 1, maxLocals := 1, code := jdk_3003_method_5_code, exceptionTable := #[], attributes := #[] }
def k18m0 : Method := { name := "getLanguage", desc := "()Ljava/lang/String;", sig := { parameters := [], returnType := some (.object "java/lang/String") }, accessFlags := 1, code := some k18c0 }
/-- sun/util/locale/BaseLocale -/
def k18 : Class := { plain "sun/util/locale/BaseLocale" (some 0) with
  accessFlags := 49
  interfaces := #[]
  cf := some (fileOf pool18 20 #[.nestMembers #[70, 66]] #[{ accessFlags := 1, nameIndex := 55, descriptorIndex := 18, attributes := #[] }] 49 2 #[] #[{ accessFlags := 9, nameIndex := 51, descriptorIndex := 52, attributes := #[] }, { accessFlags := 25, nameIndex := 190, descriptorIndex := 191, attributes := #[] }, { accessFlags := 25, nameIndex := 194, descriptorIndex := 191, attributes := #[] }, { accessFlags := 25, nameIndex := 196, descriptorIndex := 191, attributes := #[] }, { accessFlags := 25, nameIndex := 198, descriptorIndex := 191, attributes := #[] }, { accessFlags := 25, nameIndex := 200, descriptorIndex := 191, attributes := #[] }, { accessFlags := 25, nameIndex := 202, descriptorIndex := 191, attributes := #[] }, { accessFlags := 25, nameIndex := 204, descriptorIndex := 191, attributes := #[] }, { accessFlags := 25, nameIndex := 206, descriptorIndex := 191, attributes := #[] }, { accessFlags := 25, nameIndex := 208, descriptorIndex := 191, attributes := #[] }, { accessFlags := 25, nameIndex := 210, descriptorIndex := 191, attributes := #[] }, { accessFlags := 25, nameIndex := 212, descriptorIndex := 191, attributes := #[] }, { accessFlags := 25, nameIndex := 214, descriptorIndex := 191, attributes := #[] }, { accessFlags := 25, nameIndex := 216, descriptorIndex := 191, attributes := #[] }, { accessFlags := 25, nameIndex := 218, descriptorIndex := 191, attributes := #[] }, { accessFlags := 25, nameIndex := 220, descriptorIndex := 191, attributes := #[] }, { accessFlags := 25, nameIndex := 174, descriptorIndex := 191, attributes := #[] }, { accessFlags := 25, nameIndex := 223, descriptorIndex := 191, attributes := #[] }, { accessFlags := 25, nameIndex := 225, descriptorIndex := 191, attributes := #[] }, { accessFlags := 25, nameIndex := 227, descriptorIndex := 191, attributes := #[] }, { accessFlags := 25, nameIndex := 229, descriptorIndex := 191, attributes := #[] }, { accessFlags := 25, nameIndex := 231, descriptorIndex := 24, attributes := #[] }, { accessFlags := 18, nameIndex := 23, descriptorIndex := 24, attributes := #[] }, { accessFlags := 18, nameIndex := 30, descriptorIndex := 24, attributes := #[] }, { accessFlags := 18, nameIndex := 36, descriptorIndex := 24, attributes := #[] }, { accessFlags := 18, nameIndex := 39, descriptorIndex := 24, attributes := #[] }, { accessFlags := 2, nameIndex := 131, descriptorIndex := 132, attributes := #[] }, { accessFlags := 26, nameIndex := 97, descriptorIndex := 98, attributes := #[] }])
  fields := #[{ name := "constantBaseLocales", type := (.array (.object "sun/util/locale/BaseLocale")), accessFlags := 9, slot := 0, constantValue := 0 }, { name := "ENGLISH", type := .byte, accessFlags := 25, slot := 1, constantValue := 0 }, { name := "FRENCH", type := .byte, accessFlags := 25, slot := 2, constantValue := 0 }, { name := "GERMAN", type := .byte, accessFlags := 25, slot := 3, constantValue := 0 }, { name := "ITALIAN", type := .byte, accessFlags := 25, slot := 4, constantValue := 0 }, { name := "JAPANESE", type := .byte, accessFlags := 25, slot := 5, constantValue := 0 }, { name := "KOREAN", type := .byte, accessFlags := 25, slot := 6, constantValue := 0 }, { name := "CHINESE", type := .byte, accessFlags := 25, slot := 7, constantValue := 0 }, { name := "SIMPLIFIED_CHINESE", type := .byte, accessFlags := 25, slot := 8, constantValue := 0 }, { name := "TRADITIONAL_CHINESE", type := .byte, accessFlags := 25, slot := 9, constantValue := 0 }, { name := "FRANCE", type := .byte, accessFlags := 25, slot := 10, constantValue := 0 }, { name := "GERMANY", type := .byte, accessFlags := 25, slot := 11, constantValue := 0 }, { name := "ITALY", type := .byte, accessFlags := 25, slot := 12, constantValue := 0 }, { name := "JAPAN", type := .byte, accessFlags := 25, slot := 13, constantValue := 0 }, { name := "KOREA", type := .byte, accessFlags := 25, slot := 14, constantValue := 0 }, { name := "UK", type := .byte, accessFlags := 25, slot := 15, constantValue := 0 }, { name := "US", type := .byte, accessFlags := 25, slot := 16, constantValue := 0 }, { name := "CANADA", type := .byte, accessFlags := 25, slot := 17, constantValue := 0 }, { name := "CANADA_FRENCH", type := .byte, accessFlags := 25, slot := 18, constantValue := 0 }, { name := "ROOT", type := .byte, accessFlags := 25, slot := 19, constantValue := 0 }, { name := "NUM_CONSTANTS", type := .byte, accessFlags := 25, slot := 20, constantValue := 0 }, { name := "SEP", type := (.object "java/lang/String"), accessFlags := 25, slot := 21, constantValue := 0 }, { name := "language", type := (.object "java/lang/String"), accessFlags := 18, slot := 0, constantValue := 0 }, { name := "script", type := (.object "java/lang/String"), accessFlags := 18, slot := 1, constantValue := 0 }, { name := "region", type := (.object "java/lang/String"), accessFlags := 18, slot := 2, constantValue := 0 }, { name := "variant", type := (.object "java/lang/String"), accessFlags := 18, slot := 3, constantValue := 0 }, { name := "hash", type := .int, accessFlags := 2, slot := 4, constantValue := 0 }, { name := "OLD_ISO_CODES", type := .boolean, accessFlags := 26, slot := 22, constantValue := 0 }]
  methods := #[k18m0]
  instanceTypes := #[(.object "java/lang/String"), (.object "java/lang/String"), (.object "java/lang/String"), (.object "java/lang/String"), .int]
  staticTypes := #[(.array (.object "sun/util/locale/BaseLocale")), .byte, .byte, .byte, .byte, .byte, .byte, .byte, .byte, .byte, .byte, .byte, .byte, .byte, .byte, .byte, .byte, .byte, .byte, .byte, .byte, (.object "java/lang/String"), .boolean]
  resolved := Array.replicate 263 none
  statics := none }

def pool19 : Array CpInfo := pool [(2, .class_ 4), (1, u "java/lang/Object"), (0, u "<init>"), (0, u "()V"), (1, .class_ 10), (1, u "java/lang/System"), (0, u "allowSecurityManager"), (0, u "I"), (16, u "cons"), (0, u "Ljava/io/Console;"), (77, .class_ 110), (1, u "java/lang/System$CallersHolder"), (43, u "initialErrStream"), (0, u "Ljava/io/PrintStream;"), (19, u "security"), (0, u "Ljava/lang/SecurityManager;"), (31, .class_ 209), (0, u "java/lang/System$1"), (7, u "props"), (0, u "Ljava/util/Properties;"), (2, u "lineSeparator"), (0, u "Ljava/lang/String;"), (96, .class_ 321), (1, u "java/lang/System$LoggerFinder"), (5, .class_ 328), (0, u "java/lang/System$Logger"), (67, u "err"), (2, u "out"), (91, u "notSupportedJnuEncoding"), (15, u "in"), (17, u "initialIn"), (0, u "Ljava/io/InputStream;"), (35, u "bootLayer"), (0, u "Ljava/lang/ModuleLayer;"), (99, .class_ 664), (0, u "java/lang/System$2"), (9, u "NEVER"), (2, u "MAYBE"), (49, u "arraycopy"), (0, u "(Ljava/lang/Object;ILjava/lang/Object;II)V"), (72, .class_ 802), (0, u "java/lang/System$Logger$Level")] 31

def k19m0 : Method := { name := "<init>", desc := "()V", sig := { parameters := [], returnType := none }, accessFlags := 2, code := none }
def k19m1 : Method := { name := "arraycopy", desc := "(Ljava/lang/Object;ILjava/lang/Object;II)V", sig := { parameters := [(.object "java/lang/Object"), .int, (.object "java/lang/Object"), .int, .int], returnType := none }, accessFlags := 265, code := none }
/-- java/lang/System -/
def k19 : Class := { plain "java/lang/System" (some 0) with
  accessFlags := 49
  interfaces := #[]
  cf := some (fileOf pool19 8 #[.nestMembers #[319, 327, 801, 108, 663, 208]] #[{ accessFlags := 2, nameIndex := 5, descriptorIndex := 6, attributes := #[] }, { accessFlags := 265, nameIndex := 727, descriptorIndex := 728, attributes := #[] }] 49 2 #[] #[{ accessFlags := 25, nameIndex := 507, descriptorIndex := 526, attributes := #[] }, { accessFlags := 25, nameIndex := 399, descriptorIndex := 155, attributes := #[] }, { accessFlags := 25, nameIndex := 396, descriptorIndex := 155, attributes := #[] }, { accessFlags := 10, nameIndex := 525, descriptorIndex := 526, attributes := #[] }, { accessFlags := 26, nameIndex := 674, descriptorIndex := 12, attributes := #[] }, { accessFlags := 26, nameIndex := 677, descriptorIndex := 12, attributes := #[] }, { accessFlags := 10, nameIndex := 11, descriptorIndex := 12, attributes := #[] }, { accessFlags := 74, nameIndex := 175, descriptorIndex := 176, attributes := #[] }, { accessFlags := 10, nameIndex := 491, descriptorIndex := 222, attributes := #[] }, { accessFlags := 74, nameIndex := 29, descriptorIndex := 30, attributes := #[] }, { accessFlags := 74, nameIndex := 154, descriptorIndex := 155, attributes := #[] }, { accessFlags := 10, nameIndex := 217, descriptorIndex := 218, attributes := #[] }, { accessFlags := 10, nameIndex := 221, descriptorIndex := 222, attributes := #[] }, { accessFlags := 8, nameIndex := 562, descriptorIndex := 563, attributes := #[] }])
  fields := #[{ name := "in", type := (.object "java/io/InputStream"), accessFlags := 25, slot := 0, constantValue := 0 }, { name := "out", type := (.object "java/io/PrintStream"), accessFlags := 25, slot := 1, constantValue := 0 }, { name := "err", type := (.object "java/io/PrintStream"), accessFlags := 25, slot := 2, constantValue := 0 }, { name := "initialIn", type := (.object "java/io/InputStream"), accessFlags := 10, slot := 3, constantValue := 0 }, { name := "NEVER", type := .int, accessFlags := 26, slot := 4, constantValue := 0 }, { name := "MAYBE", type := .int, accessFlags := 26, slot := 5, constantValue := 0 }, { name := "allowSecurityManager", type := .int, accessFlags := 10, slot := 6, constantValue := 0 }, { name := "security", type := (.object "java/lang/SecurityManager"), accessFlags := 74, slot := 7, constantValue := 0 }, { name := "notSupportedJnuEncoding", type := (.object "java/lang/String"), accessFlags := 10, slot := 8, constantValue := 0 }, { name := "cons", type := (.object "java/io/Console"), accessFlags := 74, slot := 9, constantValue := 0 }, { name := "initialErrStream", type := (.object "java/io/PrintStream"), accessFlags := 74, slot := 10, constantValue := 0 }, { name := "props", type := (.object "java/util/Properties"), accessFlags := 10, slot := 11, constantValue := 0 }, { name := "lineSeparator", type := (.object "java/lang/String"), accessFlags := 10, slot := 12, constantValue := 0 }, { name := "bootLayer", type := (.object "java/lang/ModuleLayer"), accessFlags := 8, slot := 13, constantValue := 0 }]
  methods := #[k19m0, k19m1]
  instanceTypes := #[]
  staticTypes := #[(.object "java/io/InputStream"), (.object "java/io/PrintStream"), (.object "java/io/PrintStream"), (.object "java/io/InputStream"), .int, .int, .int, (.object "java/lang/SecurityManager"), (.object "java/lang/String"), (.object "java/io/Console"), (.object "java/io/PrintStream"), (.object "java/util/Properties"), (.object "java/lang/String"), (.object "java/lang/ModuleLayer")]
  resolved := Array.replicate 834 none
  statics := none }

def pool20 : Array CpInfo := pool [(2, .class_ 4), (1, u "java/lang/Object"), (0, u "<init>"), (0, u "()V"), (17, .class_ 26), (1, u "jdk/internal/util/Preconditions"), (28, .class_ 56), (0, u "jdk/internal/util/Preconditions$4"), (57, .class_ 115), (0, u "jdk/internal/util/Preconditions$1"), (7, u "SIOOBE_FORMATTER"), (0, u "Ljava/util/function/BiFunction;"), (0, .class_ 126), (0, u "jdk/internal/util/Preconditions$2"), (3, u "AIOOBE_FORMATTER"), (0, .class_ 132), (0, u "jdk/internal/util/Preconditions$3"), (3, u "IOOBE_FORMATTER")] 57

def k20m0 : Method := { name := "<init>", desc := "()V", sig := { parameters := [], returnType := none }, accessFlags := 1, code := none }
/-- jdk/internal/util/Preconditions -/
def k20 : Class := { plain "jdk/internal/util/Preconditions" (some 0) with
  accessFlags := 33
  interfaces := #[]
  cf := some (fileOf pool20 24 #[.nestMembers #[55, 131, 125, 114]] #[{ accessFlags := 1, nameIndex := 5, descriptorIndex := 6, attributes := #[] }] 33 2 #[] #[{ accessFlags := 25, nameIndex := 123, descriptorIndex := 124, attributes := #[] }, { accessFlags := 25, nameIndex := 130, descriptorIndex := 124, attributes := #[] }, { accessFlags := 25, nameIndex := 136, descriptorIndex := 124, attributes := #[] }])
  fields := #[{ name := "SIOOBE_FORMATTER", type := (.object "java/util/function/BiFunction"), accessFlags := 25, slot := 0, constantValue := 0 }, { name := "AIOOBE_FORMATTER", type := (.object "java/util/function/BiFunction"), accessFlags := 25, slot := 1, constantValue := 0 }, { name := "IOOBE_FORMATTER", type := (.object "java/util/function/BiFunction"), accessFlags := 25, slot := 2, constantValue := 0 }]
  methods := #[k20m0]
  instanceTypes := #[]
  staticTypes := #[(.object "java/util/function/BiFunction"), (.object "java/util/function/BiFunction"), (.object "java/util/function/BiFunction")]
  resolved := Array.replicate 194 none
  statics := some 4 }

def pool21 : Array CpInfo := pool [(9, u "<init>"), (6, .class_ 18), (1, u "java/lang/Object"), (0, u "()V"), (1, .class_ 23), (1, u "jdk/internal/util/ArraysSupport"), (0, u "LOG2_ARRAY_LONG_INDEX_SCALE"), (0, u "I"), (2, u "U"), (0, u "Ljdk/internal/misc/Unsafe;"), (8, u "BIG_ENDIAN"), (0, u "Z"), (8, u "LOG2_BYTE_BIT_SIZE"), (4, u "LOG2_ARRAY_INT_INDEX_SCALE"), (54, u "JLA"), (0, u "Ljdk/internal/access/JavaLangAccess;"), (11, u "LOG2_ARRAY_BOOLEAN_INDEX_SCALE"), (9, u "LOG2_ARRAY_BYTE_INDEX_SCALE"), (5, u "LOG2_ARRAY_CHAR_INDEX_SCALE"), (5, u "LOG2_ARRAY_SHORT_INDEX_SCALE"), (18, u "LOG2_ARRAY_FLOAT_INDEX_SCALE"), (24, u "LOG2_ARRAY_DOUBLE_INDEX_SCALE"), (89, u "T_BOOLEAN"), (2, u "T_CHAR"), (1, u "T_FLOAT"), (1, u "T_DOUBLE"), (1, u "T_BYTE"), (1, u "T_SHORT"), (1, u "T_INT"), (1, u "T_LONG"), (1, u "SOFT_MAX_ARRAY_LENGTH")] 83

def k21m0 : Method := { name := "<init>", desc := "()V", sig := { parameters := [], returnType := none }, accessFlags := 2, code := none }
/-- jdk/internal/util/ArraysSupport -/
def k21 : Class := { plain "jdk/internal/util/ArraysSupport" (some 0) with
  accessFlags := 33
  interfaces := #[]
  cf := some (fileOf pool21 21 #[] #[{ accessFlags := 2, nameIndex := 9, descriptorIndex := 19, attributes := #[] }] 33 16 #[] #[{ accessFlags := 24, nameIndex := 28, descriptorIndex := 29, attributes := #[] }, { accessFlags := 26, nameIndex := 38, descriptorIndex := 39, attributes := #[] }, { accessFlags := 25, nameIndex := 121, descriptorIndex := 25, attributes := #[] }, { accessFlags := 25, nameIndex := 131, descriptorIndex := 25, attributes := #[] }, { accessFlags := 25, nameIndex := 137, descriptorIndex := 25, attributes := #[] }, { accessFlags := 25, nameIndex := 143, descriptorIndex := 25, attributes := #[] }, { accessFlags := 25, nameIndex := 53, descriptorIndex := 25, attributes := #[] }, { accessFlags := 25, nameIndex := 24, descriptorIndex := 25, attributes := #[] }, { accessFlags := 25, nameIndex := 162, descriptorIndex := 25, attributes := #[] }, { accessFlags := 25, nameIndex := 187, descriptorIndex := 25, attributes := #[] }, { accessFlags := 26, nameIndex := 48, descriptorIndex := 25, attributes := #[] }, { accessFlags := 25, nameIndex := 277, descriptorIndex := 25, attributes := #[] }, { accessFlags := 25, nameIndex := 280, descriptorIndex := 25, attributes := #[] }, { accessFlags := 25, nameIndex := 282, descriptorIndex := 25, attributes := #[] }, { accessFlags := 25, nameIndex := 284, descriptorIndex := 25, attributes := #[] }, { accessFlags := 25, nameIndex := 286, descriptorIndex := 25, attributes := #[] }, { accessFlags := 25, nameIndex := 288, descriptorIndex := 25, attributes := #[] }, { accessFlags := 25, nameIndex := 290, descriptorIndex := 25, attributes := #[] }, { accessFlags := 25, nameIndex := 292, descriptorIndex := 25, attributes := #[] }, { accessFlags := 26, nameIndex := 108, descriptorIndex := 109, attributes := #[] }, { accessFlags := 25, nameIndex := 294, descriptorIndex := 25, attributes := #[] }])
  fields := #[{ name := "U", type := (.object "jdk/internal/misc/Unsafe"), accessFlags := 24, slot := 0, constantValue := 0 }, { name := "BIG_ENDIAN", type := .boolean, accessFlags := 26, slot := 1, constantValue := 0 }, { name := "LOG2_ARRAY_BOOLEAN_INDEX_SCALE", type := .int, accessFlags := 25, slot := 2, constantValue := 0 }, { name := "LOG2_ARRAY_BYTE_INDEX_SCALE", type := .int, accessFlags := 25, slot := 3, constantValue := 0 }, { name := "LOG2_ARRAY_CHAR_INDEX_SCALE", type := .int, accessFlags := 25, slot := 4, constantValue := 0 }, { name := "LOG2_ARRAY_SHORT_INDEX_SCALE", type := .int, accessFlags := 25, slot := 5, constantValue := 0 }, { name := "LOG2_ARRAY_INT_INDEX_SCALE", type := .int, accessFlags := 25, slot := 6, constantValue := 0 }, { name := "LOG2_ARRAY_LONG_INDEX_SCALE", type := .int, accessFlags := 25, slot := 7, constantValue := 0 }, { name := "LOG2_ARRAY_FLOAT_INDEX_SCALE", type := .int, accessFlags := 25, slot := 8, constantValue := 0 }, { name := "LOG2_ARRAY_DOUBLE_INDEX_SCALE", type := .int, accessFlags := 25, slot := 9, constantValue := 0 }, { name := "LOG2_BYTE_BIT_SIZE", type := .int, accessFlags := 26, slot := 10, constantValue := 0 }, { name := "T_BOOLEAN", type := .int, accessFlags := 25, slot := 11, constantValue := 0 }, { name := "T_CHAR", type := .int, accessFlags := 25, slot := 12, constantValue := 0 }, { name := "T_FLOAT", type := .int, accessFlags := 25, slot := 13, constantValue := 0 }, { name := "T_DOUBLE", type := .int, accessFlags := 25, slot := 14, constantValue := 0 }, { name := "T_BYTE", type := .int, accessFlags := 25, slot := 15, constantValue := 0 }, { name := "T_SHORT", type := .int, accessFlags := 25, slot := 16, constantValue := 0 }, { name := "T_INT", type := .int, accessFlags := 25, slot := 17, constantValue := 0 }, { name := "T_LONG", type := .int, accessFlags := 25, slot := 18, constantValue := 0 }, { name := "JLA", type := (.object "jdk/internal/access/JavaLangAccess"), accessFlags := 26, slot := 19, constantValue := 0 }, { name := "SOFT_MAX_ARRAY_LENGTH", type := .int, accessFlags := 25, slot := 20, constantValue := 0 }]
  methods := #[k21m0]
  instanceTypes := #[]
  staticTypes := #[(.object "jdk/internal/misc/Unsafe"), .boolean, .int, .int, .int, .int, .int, .int, .int, .int, .int, .int, .int, .int, .int, .int, .int, .int, .int, (.object "jdk/internal/access/JavaLangAccess"), .int]
  resolved := Array.replicate 378 none
  statics := none }

/-- the primitive byte -/
def k22 : Class := { plain "byte" none with kind := .primitive 'B', accessFlags := 0x411 }
/-- [B -/
def k23 : Class := { plain "[B" (some 0) with kind := .array 22 .byte, interfaces := #[13, 4], accessFlags := 1041 }

/-- the primitive char -/
def k24 : Class := { plain "char" none with kind := .primitive 'C', accessFlags := 0x411 }
/-- [C -/
def k25 : Class := { plain "[C" (some 0) with kind := .array 24 .char, interfaces := #[13, 4], accessFlags := 1041 }

/-- the primitive int -/
def k26 : Class := { plain "int" none with kind := .primitive 'I', accessFlags := 0x411 }
/-- [I -/
def k27 : Class := { plain "[I" (some 0) with kind := .array 26 .int, interfaces := #[13, 4], accessFlags := 1041 }

def heap : Heap := #[{ cls := 6, slots := #[.ref 5, .ref 6, .ref 7, .null], vm := .statics 6 },
  { cls := 9, slots := #[.long 0, .int 1, .null, .int 0, .null, .int 0, .int 0], vm := .statics 9 },
  { cls := 14, slots := #[.null, .null, .null, .null, .null, .null, .null, .null, .null, .null, .null, .null, .null, .null, .null, .null, .null, .null, .ref 11, .null, .null, .null, .null, .int 0, .int 0, .long 0, .int 0, .int 0, .int 0, .int 0, .int 0, .int 0, .null, .null, .null, .null, .null, .null, .int 0], vm := .statics 14 },
  { cls := 17, slots := #[.null, .null, .ref 12, .null, .null], vm := .statics 17 },
  { cls := 20, slots := #[.null, .null, .null], vm := .statics 20 },
  { cls := 6, slots := #[.null, .int 0, .int 0], vm := .none },
  { cls := 6, slots := #[.null, .int 1, .int 0], vm := .none },
  { cls := 6, slots := #[.null, .int 2, .int 0], vm := .none },
  { cls := 23, slots := #[], vm := .none },
  { cls := 9, slots := #[.ref 8, .int 0, .int 0, .int 0], vm := .none },
  { cls := 18, slots := #[.ref 9, .null, .null, .null, .int 0], vm := .none },
  { cls := 14, slots := #[.ref 10, .null, .int 0, .null], vm := .none },
  { cls := 17, slots := #[], vm := .none }]
def classes : Array Class := #[k0, k1, k2, k3, k4, k5, k6, k7, k8, k9, k10, k11, k12, k13, k14, k15, k16, k17, k18, k19, k20, k21, k22, k23, k24, k25, k26, k27]
def interned : List (Array UInt16 × Addr) := []
def slotsUsed : Nat := 80
def theMethod : MethodId := ⟨1, 1⟩
def args0 : Array Value := #[.int 5, .int 7, .int 1, .int 2, .int 3]
def aboutOver (below : List Frame) : State where
  vm := { classes := classes, interned := interned.toArray }
  heap := heap
  slotsUsed := slotsUsed
  threads := #[{ frames := .invoking theMethod args0 :: below }]
def below0 : List Frame := [.native { method := ⟨0, 0⟩, args := #[] }]
def about1 : State := aboutOver below0
def p0 : Program := .bare "" "" ""
def e0 : Env := launch0.env 0 0 0
theorem w_frames : about1.frames = Frame.invoking theMethod args0 :: below0 := rfl
set_option maxRecDepth 65536 in
theorem w_args : argsFit about1.vm theMethod args0 = true := by decide +kernel
set_option maxRecDepth 65536 in
theorem w_heap : heapFits about1 = true := by decide +kernel
set_option maxRecDepth 65536 in
theorem w_runnable : about1.curStatus? = some .runnable := by decide +kernel
set_option maxRecDepth 65536 in
theorem w_alone : about1.alone = true := by decide +kernel
set_option maxRecDepth 65536 in
theorem w_named : about1.methodNamed? x = some theMethod := by decide +kernel
set_option maxRecDepth 65536 in
theorem w_hears : about1.hears theMethod below0 = true := by decide +kernel
set_option maxRecDepth 65536 in
theorem w_ripe : about1.ripe theMethod args0 below0 = true := by decide +kernel
theorem w_running : about1.status = .running := rfl
set_option maxRecDepth 65536 in
theorem w_room : about1.hasRoom e0.platform room_1 = true :=
  launch0.hasRoom_least _ room_1 (by decide +kernel) (by decide +kernel) (by decide +kernel) (by decide +kernel) (by decide +kernel) (by decide +kernel)
theorem allAtoms_all (ts : List Jvm.Cond) (a : Array Jvm.Value) (st : Jvm.State) : (allAtoms ts).before a st = ts.all (fun c => c.before a st) := by
  induction ts with
  | nil => rfl
  | cons c t ih =>
    show (Jvm.Cond.and c (allAtoms t)).before a st = _
    rw [Jvm.Cond.before_and, ih, List.all_cons]
def words1 : List Jvm.Cond := Jvm.Cond.code x code maxLocals ret :: tables_1
/-- a 'code' word, met by the world's own term for the bytes: nothing is compared byte by byte -/
theorem code_word {y : MethodName} {bytes : ByteArray} {mx : Nat} {rt : Option FieldType} {a : Array Value} {s : State} {m : MethodId} {meth : Method} {c : Code} (h1 : s.methodNamed? y = some m) (h2 : s.vm.method? m = some meth) (h3 : meth.code = some c) (h4 : c.code = bytes)
    (h5 : (c.maxLocals == mx && c.exceptionTable.isEmpty && decide (c.maxStack ≤ mostOperands) && decide (meth.sig.returnType = rt) && !meth.locks && decide (parseMethodDescriptor y.desc = some meth.sig)) = true) : (Jvm.Cond.code y bytes mx rt).before a s = true := by
  simp only [Bool.and_eq_true, beq_iff_eq, Bool.not_eq_true', decide_eq_true_eq] at h5
  obtain ⟨⟨⟨⟨⟨g1, g2⟩, g3⟩, g4⟩, g5⟩, g6⟩ := h5
  simp [Cond.before, Cond.holds, Cond.value, h1, h2, h3, h4, g1, g2, g3, g4, g5, g6]
def isCode : Jvm.Cond → Bool
  | .code _ _ _ _ => true
  | _ => false
theorem all_split {L : List Jvm.Cond} {P : Jvm.Cond → Bool} (h1 : L.all (fun c => isCode c || P c) = true) (h2 : ∀ c ∈ L.filter isCode, P c = true) : L.all P = true := by
  refine List.all_eq_true.mpr fun c hc => ?_
  have h := List.all_eq_true.mp h1 c hc
  rcases Bool.eq_false_or_eq_true (isCode c) with hi | hi
  · exact h2 c (List.mem_filter.mpr ⟨hc, hi⟩)
  · simpa [hi] using h
set_option maxRecDepth 65536 in
theorem w_c0 : (Jvm.Cond.code x code maxLocals ret).before args0 about1 = true := code_word (m := ⟨1, 1⟩) (meth := k1m1) (c := k1c1) (by decide +kernel) rfl rfl rfl (by decide +kernel)
set_option maxRecDepth 65536 in
theorem w_c1 : (Jvm.Cond.code ({ cls := "java/lang/String", name := "<init>", desc := "([C)V" } : Jvm.MethodName) jdk_42_method_3_code (2 : Nat) (Option.none : Option Jvm.ClassFile.FieldType)).before args0 about1 = true := code_word (m := ⟨9, 1⟩) (meth := k9m1) (c := k9c1) (by decide +kernel) rfl rfl rfl (by decide +kernel)
set_option maxRecDepth 65536 in
theorem w_c2 : (Jvm.Cond.code ({ cls := "java/lang/String", name := "<init>", desc := "([CIILjava/lang/Void;)V" } : Jvm.MethodName) jdk_42_method_149_code (6 : Nat) (Option.none : Option Jvm.ClassFile.FieldType)).before args0 about1 = true := code_word (m := ⟨9, 4⟩) (meth := k9m4) (c := k9c4) (by decide +kernel) rfl rfl rfl (by decide +kernel)
set_option maxRecDepth 65536 in
theorem w_c3 : (Jvm.Cond.code ({ cls := "java/lang/Object", name := "<init>", desc := "()V" } : Jvm.MethodName) object_method_1_code (1 : Nat) (Option.none : Option Jvm.ClassFile.FieldType)).before args0 about1 = true := code_word (m := ⟨0, 0⟩) (meth := k0m0) (c := k0c0) (by decide +kernel) rfl rfl rfl (by decide +kernel)
set_option maxRecDepth 65536 in
theorem w_c4 : (Jvm.Cond.code ({ cls := "java/lang/StringUTF16", name := "compress", desc := "([CII)[B" } : Jvm.MethodName) jdk_52_method_16_code (6 : Nat) (Option.some (Jvm.ClassFile.FieldType.array Jvm.ClassFile.FieldType.byte))).before args0 about1 = true := code_word (m := ⟨10, 2⟩) (meth := k10m2) (c := k10c2) (by decide +kernel) rfl rfl rfl (by decide +kernel)
set_option maxRecDepth 65536 in
theorem w_c5 : (Jvm.Cond.code ({ cls := "java/lang/StringUTF16", name := "compress", desc := "([CI[BII)I" } : Jvm.MethodName) jdk_52_method_21_code (7 : Nat) (Option.some Jvm.ClassFile.FieldType.int)).before args0 about1 = true := code_word (m := ⟨10, 3⟩) (meth := k10m3) (c := k10c3) (by decide +kernel) rfl rfl rfl (by decide +kernel)
set_option maxRecDepth 65536 in
theorem w_c6 : (Jvm.Cond.code ({ cls := "java/lang/StringUTF16", name := "coderFromArrayLen", desc := "([BI)B" } : Jvm.MethodName) jdk_52_method_15_code (2 : Nat) (Option.some Jvm.ClassFile.FieldType.byte)).before args0 about1 = true := code_word (m := ⟨10, 1⟩) (meth := k10m1) (c := k10c1) (by decide +kernel) rfl rfl rfl (by decide +kernel)
set_option maxRecDepth 65536 in
theorem w_c7 : (Jvm.Cond.code ({ cls := "com/example/gatewarden/gatewarden/access/AssigneeViaPinLaw", name := "low", desc := "(C)C" } : Jvm.MethodName) method_3_code (1 : Nat) (Option.some Jvm.ClassFile.FieldType.char)).before args0 about1 = true := code_word (m := ⟨1, 2⟩) (meth := k1m2) (c := k1c2) (by decide +kernel) rfl rfl rfl (by decide +kernel)
set_option maxRecDepth 65536 in
theorem w_c8 : (Jvm.Cond.code ({ cls := "com/example/gatewarden/gatewarden/access/Assignee", name := "<init>", desc := "(Lcom/example/gatewarden/gatewarden/access/Assignee$Kind;Ljava/lang/String;)V" } : Jvm.MethodName) prog_1_method_1_code (3 : Nat) (Option.none : Option Jvm.ClassFile.FieldType)).before args0 about1 = true := code_word (m := ⟨12, 0⟩) (meth := k12m0) (c := k12c0) (by decide +kernel) rfl rfl rfl (by decide +kernel)
set_option maxRecDepth 65536 in
theorem w_c9 : (Jvm.Cond.code ({ cls := "java/lang/Record", name := "<init>", desc := "()V" } : Jvm.MethodName) jdk_30_method_1_code (1 : Nat) (Option.none : Option Jvm.ClassFile.FieldType)).before args0 about1 = true := code_word (m := ⟨11, 0⟩) (meth := k11m0) (c := k11c0) (by decide +kernel) rfl rfl rfl (by decide +kernel)
set_option maxRecDepth 65536 in
theorem w_c10 : (Jvm.Cond.code ({ cls := "java/lang/String", name := "toLowerCase", desc := "(Ljava/util/Locale;)Ljava/lang/String;" } : Jvm.MethodName) jdk_42_method_109_code (2 : Nat) (Option.some (Jvm.ClassFile.FieldType.object "java/lang/String"))).before args0 about1 = true := code_word (m := ⟨9, 3⟩) (meth := k9m3) (c := k9c3) (by decide +kernel) rfl rfl rfl (by decide +kernel)
set_option maxRecDepth 65536 in
theorem w_c11 : (Jvm.Cond.code ({ cls := "java/lang/String", name := "isLatin1", desc := "()Z" } : Jvm.MethodName) jdk_42_method_154_code (1 : Nat) (Option.some Jvm.ClassFile.FieldType.boolean)).before args0 about1 = true := code_word (m := ⟨9, 6⟩) (meth := k9m6) (c := k9c6) (by decide +kernel) rfl rfl rfl (by decide +kernel)
set_option maxRecDepth 65536 in
theorem w_c12 : (Jvm.Cond.code ({ cls := "java/lang/StringLatin1", name := "toLowerCase", desc := "(Ljava/lang/String;[BLjava/util/Locale;)Ljava/lang/String;" } : Jvm.MethodName) jdk_43_method_32_code (9 : Nat) (Option.some (Jvm.ClassFile.FieldType.object "java/lang/String"))).before args0 about1 = true := code_word (m := ⟨15, 3⟩) (meth := k15m3) (c := k15c3) (by decide +kernel) rfl rfl rfl (by decide +kernel)
set_option maxRecDepth 65536 in
theorem w_c13 : (Jvm.Cond.code ({ cls := "java/lang/CharacterDataLatin1", name := "toLowerCase", desc := "(I)I" } : Jvm.MethodName) jdk_116_method_20_code (3 : Nat) (Option.some Jvm.ClassFile.FieldType.int)).before args0 about1 = true := code_word (m := ⟨17, 0⟩) (meth := k17m0) (c := k17c0) (by decide +kernel) rfl rfl rfl (by decide +kernel)
set_option maxRecDepth 65536 in
theorem w_c14 : (Jvm.Cond.code ({ cls := "com/example/gatewarden/gatewarden/access/Assignee", name := "via", desc := "()Ljava/lang/String;" } : Jvm.MethodName) prog_1_method_5_code (1 : Nat) (Option.some (Jvm.ClassFile.FieldType.object "java/lang/String"))).before args0 about1 = true := code_word (m := ⟨12, 1⟩) (meth := k12m1) (c := k12c1) (by decide +kernel) rfl rfl rfl (by decide +kernel)
set_option maxRecDepth 65536 in
theorem w_c15 : (Jvm.Cond.code ({ cls := "java/lang/String", name := "equals", desc := "(Ljava/lang/Object;)Z" } : Jvm.MethodName) jdk_42_method_66_code (3 : Nat) (Option.some Jvm.ClassFile.FieldType.boolean)).before args0 about1 = true := code_word (m := ⟨9, 2⟩) (meth := k9m2) (c := k9c2) (by decide +kernel) rfl rfl rfl (by decide +kernel)
set_option maxRecDepth 65536 in
theorem w_c16 : (Jvm.Cond.code ({ cls := "java/lang/StringLatin1", name := "equals", desc := "([B[B)Z" } : Jvm.MethodName) jdk_43_method_13_code (3 : Nat) (Option.some Jvm.ClassFile.FieldType.boolean)).before args0 about1 = true := code_word (m := ⟨15, 2⟩) (meth := k15m2) (c := k15c2) (by decide +kernel) rfl rfl rfl (by decide +kernel)
set_option maxRecDepth 65536 in
theorem w_c17 : (Jvm.Cond.code ({ cls := "java/util/Locale", name := "getLanguage", desc := "()Ljava/lang/String;" } : Jvm.MethodName) jdk_2628_method_27_code (1 : Nat) (Option.some (Jvm.ClassFile.FieldType.object "java/lang/String"))).before args0 about1 = true := code_word (m := ⟨14, 0⟩) (meth := k14m0) (c := k14c0) (by decide +kernel) rfl rfl rfl (by decide +kernel)
set_option maxRecDepth 65536 in
theorem w_c18 : (Jvm.Cond.code ({ cls := "sun/util/locale/BaseLocale", name := "getLanguage", desc := "()Ljava/lang/String;" } : Jvm.MethodName) jdk_3003_method_5_code (1 : Nat) (Option.some (Jvm.ClassFile.FieldType.object "java/lang/String"))).before args0 about1 = true := code_word (m := ⟨18, 0⟩) (meth := k18m0) (c := k18c0) (by decide +kernel) rfl rfl rfl (by decide +kernel)
set_option maxRecDepth 65536 in
theorem w_c19 : (Jvm.Cond.code ({ cls := "java/lang/StringLatin1", name := "canEncode", desc := "(I)Z" } : Jvm.MethodName) jdk_43_method_4_code (1 : Nat) (Option.some Jvm.ClassFile.FieldType.boolean)).before args0 about1 = true := code_word (m := ⟨15, 1⟩) (meth := k15m1) (c := k15c1) (by decide +kernel) rfl rfl rfl (by decide +kernel)
set_option maxRecDepth 65536 in
theorem w_c20 : (Jvm.Cond.code ({ cls := "java/lang/String", name := "<init>", desc := "([BB)V" } : Jvm.MethodName) jdk_42_method_151_code (3 : Nat) (Option.none : Option Jvm.ClassFile.FieldType)).before args0 about1 = true := code_word (m := ⟨9, 5⟩) (meth := k9m5) (c := k9c5) (by decide +kernel) rfl rfl rfl (by decide +kernel)
def codes1 : List Jvm.Cond := [Jvm.Cond.code x code maxLocals ret, Jvm.Cond.code ({ cls := "java/lang/String", name := "<init>", desc := "([C)V" } : Jvm.MethodName) jdk_42_method_3_code (2 : Nat) (Option.none : Option Jvm.ClassFile.FieldType), Jvm.Cond.code ({ cls := "java/lang/String", name := "<init>", desc := "([CIILjava/lang/Void;)V" } : Jvm.MethodName) jdk_42_method_149_code (6 : Nat) (Option.none : Option Jvm.ClassFile.FieldType), Jvm.Cond.code ({ cls := "java/lang/Object", name := "<init>", desc := "()V" } : Jvm.MethodName) object_method_1_code (1 : Nat) (Option.none : Option Jvm.ClassFile.FieldType), Jvm.Cond.code ({ cls := "java/lang/StringUTF16", name := "compress", desc := "([CII)[B" } : Jvm.MethodName) jdk_52_method_16_code (6 : Nat) (Option.some (Jvm.ClassFile.FieldType.array Jvm.ClassFile.FieldType.byte)), Jvm.Cond.code ({ cls := "java/lang/StringUTF16", name := "compress", desc := "([CI[BII)I" } : Jvm.MethodName) jdk_52_method_21_code (7 : Nat) (Option.some Jvm.ClassFile.FieldType.int), Jvm.Cond.code ({ cls := "java/lang/StringUTF16", name := "coderFromArrayLen", desc := "([BI)B" } : Jvm.MethodName) jdk_52_method_15_code (2 : Nat) (Option.some Jvm.ClassFile.FieldType.byte), Jvm.Cond.code ({ cls := "com/example/gatewarden/gatewarden/access/AssigneeViaPinLaw", name := "low", desc := "(C)C" } : Jvm.MethodName) method_3_code (1 : Nat) (Option.some Jvm.ClassFile.FieldType.char), Jvm.Cond.code ({ cls := "com/example/gatewarden/gatewarden/access/Assignee", name := "<init>", desc := "(Lcom/example/gatewarden/gatewarden/access/Assignee$Kind;Ljava/lang/String;)V" } : Jvm.MethodName) prog_1_method_1_code (3 : Nat) (Option.none : Option Jvm.ClassFile.FieldType), Jvm.Cond.code ({ cls := "java/lang/Record", name := "<init>", desc := "()V" } : Jvm.MethodName) jdk_30_method_1_code (1 : Nat) (Option.none : Option Jvm.ClassFile.FieldType), Jvm.Cond.code ({ cls := "java/lang/String", name := "toLowerCase", desc := "(Ljava/util/Locale;)Ljava/lang/String;" } : Jvm.MethodName) jdk_42_method_109_code (2 : Nat) (Option.some (Jvm.ClassFile.FieldType.object "java/lang/String")), Jvm.Cond.code ({ cls := "java/lang/String", name := "isLatin1", desc := "()Z" } : Jvm.MethodName) jdk_42_method_154_code (1 : Nat) (Option.some Jvm.ClassFile.FieldType.boolean), Jvm.Cond.code ({ cls := "java/lang/StringLatin1", name := "toLowerCase", desc := "(Ljava/lang/String;[BLjava/util/Locale;)Ljava/lang/String;" } : Jvm.MethodName) jdk_43_method_32_code (9 : Nat) (Option.some (Jvm.ClassFile.FieldType.object "java/lang/String")), Jvm.Cond.code ({ cls := "java/lang/CharacterDataLatin1", name := "toLowerCase", desc := "(I)I" } : Jvm.MethodName) jdk_116_method_20_code (3 : Nat) (Option.some Jvm.ClassFile.FieldType.int), Jvm.Cond.code ({ cls := "com/example/gatewarden/gatewarden/access/Assignee", name := "via", desc := "()Ljava/lang/String;" } : Jvm.MethodName) prog_1_method_5_code (1 : Nat) (Option.some (Jvm.ClassFile.FieldType.object "java/lang/String")), Jvm.Cond.code ({ cls := "java/lang/String", name := "equals", desc := "(Ljava/lang/Object;)Z" } : Jvm.MethodName) jdk_42_method_66_code (3 : Nat) (Option.some Jvm.ClassFile.FieldType.boolean), Jvm.Cond.code ({ cls := "java/lang/StringLatin1", name := "equals", desc := "([B[B)Z" } : Jvm.MethodName) jdk_43_method_13_code (3 : Nat) (Option.some Jvm.ClassFile.FieldType.boolean), Jvm.Cond.code ({ cls := "java/util/Locale", name := "getLanguage", desc := "()Ljava/lang/String;" } : Jvm.MethodName) jdk_2628_method_27_code (1 : Nat) (Option.some (Jvm.ClassFile.FieldType.object "java/lang/String")), Jvm.Cond.code ({ cls := "sun/util/locale/BaseLocale", name := "getLanguage", desc := "()Ljava/lang/String;" } : Jvm.MethodName) jdk_3003_method_5_code (1 : Nat) (Option.some (Jvm.ClassFile.FieldType.object "java/lang/String")), Jvm.Cond.code ({ cls := "java/lang/StringLatin1", name := "canEncode", desc := "(I)Z" } : Jvm.MethodName) jdk_43_method_4_code (1 : Nat) (Option.some Jvm.ClassFile.FieldType.boolean), Jvm.Cond.code ({ cls := "java/lang/String", name := "<init>", desc := "([BB)V" } : Jvm.MethodName) jdk_42_method_151_code (3 : Nat) (Option.none : Option Jvm.ClassFile.FieldType)]
set_option maxRecDepth 65536 in
theorem codes_eq : words1.filter isCode = codes1 := rfl
theorem w_codes : ∀ c ∈ words1.filter isCode, c.before args0 about1 = true := by
  rw [codes_eq]
  intro c hc
  simp only [codes1, List.mem_cons, List.not_mem_nil, or_false] at hc
  rcases hc with rfl | rfl | rfl | rfl | rfl | rfl | rfl | rfl | rfl | rfl | rfl | rfl | rfl | rfl | rfl | rfl | rfl | rfl | rfl | rfl | rfl
  · exact w_c0
  · exact w_c1
  · exact w_c2
  · exact w_c3
  · exact w_c4
  · exact w_c5
  · exact w_c6
  · exact w_c7
  · exact w_c8
  · exact w_c9
  · exact w_c10
  · exact w_c11
  · exact w_c12
  · exact w_c13
  · exact w_c14
  · exact w_c15
  · exact w_c16
  · exact w_c17
  · exact w_c18
  · exact w_c19
  · exact w_c20
set_option maxRecDepth 65536 in
theorem w_t1 : (words1.take 24).all (fun c => isCode c || c.before args0 about1) = true := by decide +kernel
set_option maxRecDepth 65536 in
theorem w_t2 : ((words1.drop 24).take 24).all (fun c => isCode c || c.before args0 about1) = true := by decide +kernel
set_option maxRecDepth 65536 in
theorem w_t3 : (((words1.drop 24).drop 24).take 24).all (fun c => isCode c || c.before args0 about1) = true := by decide +kernel
set_option maxRecDepth 65536 in
theorem w_t4 : ((((words1.drop 24).drop 24).drop 24).take 24).all (fun c => isCode c || c.before args0 about1) = true := by decide +kernel
set_option maxRecDepth 65536 in
theorem w_t5 : (((((words1.drop 24).drop 24).drop 24).drop 24).take 24).all (fun c => isCode c || c.before args0 about1) = true := by decide +kernel
set_option maxRecDepth 65536 in
theorem w_t6 : (((((words1.drop 24).drop 24).drop 24).drop 24).drop 24).all (fun c => isCode c || c.before args0 about1) = true := by decide +kernel
theorem w_tables : (allAtoms (Jvm.Cond.code x code maxLocals ret :: tables_1)).before args0 about1 = true := by
  rw [allAtoms_all]
  show words1.all (fun c => c.before args0 about1) = true
  refine all_split ?_ w_codes
  rw [← List.take_append_drop 24 words1, List.all_append, w_t1, ← List.take_append_drop 24 (words1.drop 24), List.all_append, w_t2, ← List.take_append_drop 24 ((words1.drop 24).drop 24), List.all_append, w_t3, ← List.take_append_drop 24 (((words1.drop 24).drop 24).drop 24), List.all_append, w_t4, ← List.take_append_drop 24 ((((words1.drop 24).drop 24).drop 24).drop 24), List.all_append, w_t5, w_t6]
  rfl
set_option maxRecDepth 65536 in
theorem w_rest : rest_1_c.before args0 about1 = true := by decide +kernel
set_option maxRecDepth 65536 in
theorem w_case : (Jvm.Cond.and given_1 narrow_1).before args0 about1 = true := by decide +kernel
set_option maxRecDepth 65536 in
theorem w_consts : constsHeld consts_1 about1 := Jvm.Lit.constsHeldB_iff.mp (by decide +kernel)
theorem w_applies : (headSpec (Jvm.Cond.code x code maxLocals ret :: tables_1) room_1).applies x e0.platform about1 = true :=
  (Spec.applies_iff w_frames).mpr ⟨w_running, w_runnable, w_alone, w_named, w_hears, w_ripe, w_room, w_tables⟩
theorem atStart : AtStart classFile x code maxLocals ret World_1 tables_1 room_1 Calls_1 rest_1 Pre_1 launch0 p0 e0 about1 theMethod args0 below0 :=
  ⟨lists_1, trivial, launch0.admits_env _ _ _, launch0.least_env, fairChoices_fair.cas, fairChoices_fair.clock, w_frames, w_args, w_heap, w_applies, ⟨w_consts, trivial⟩, w_rest, w_case⟩
end start1
theorem witness_1 : WitnessClaimed_1 := ⟨start1.p0, start1.e0, start1.about1, start1.theMethod, start1.args0, start1.below0, start1.atStart⟩
end Jvm.Pilot.@@N@@
