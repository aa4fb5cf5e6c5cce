import JvmDerived
import JvmDerived.Pilot.@@N@@Statement
import JvmDerived.Pilot.@@N@@Code
set_option linter.unusedVariables false
set_option linter.unusedSimpArgs false
namespace Jvm.Pilot.@@N@@
open Jvm Jvm.ClassFile Sem Op Lib Jvm.Free Jvm.Stand Jvm.LawKit Jvm.RoadKit Bundle Jvm.Pilot.@@N@@.Jvm.D
theorem tw {Z : State} {a0 : Array Value} (hw : ∀ d ∈ tables_1, d.before a0 Z = true) (i : Nat) {d : Jvm.Cond} (hd : tables_1[i]? = some d := by rfl) : d.before a0 Z = true := hw d (List.mem_of_getElem? hd)
abbrev own_Nar : Prop := False
abbrev own_EL : List (String × Nat) := [("com/example/mapwright/mapwright/sql/DialectForSettingValuePinLaw", 13), ("com/example/mapwright/mapwright/sql/DialectForSettingValuePinLaw", 15), ("com/example/mapwright/mapwright/sql/DialectForSettingValuePinLaw", 27)]
section Own
variable {p : Program} {l : Launch} {e : Env} {R : Room} {s : State} {m : MethodId} {args : Array Value} {below : List Frame} {meth : Method} {c : Code} {Z : State} {a0 : Array Value} {y : MethodName} {bytes : ByteArray} {maxL : Nat} {ret : Option FieldType} {T : State} {h : Heap} {ce sl : Nat} {sf : List Addr} {G : State → Prop} {pc : Nat} {L : Array Slot} {S : List Value}
/-- where a walk stands: the state T, its heap h, what has been made, the cells that no constant books -/
def Wk (p : Program) (l : Launch) (e : Env) (R : Room) (s : State) (m : MethodId) (args : Array Value) (below : List Frame) (meth : Method) (c : Code) (Z : State) (y : MethodName) (bytes : ByteArray) (maxL : Nat) (ret : Option FieldType) (T : State) (h : Heap) (ce sl : Nat) (sf : List Addr) : Prop :=
  ∃ (vm0 : Vm) (k0 : Nat) (locs : List Loc), Stand p l e R (s.setVm vm0) m args below meth c T locs ce sl ∧ T.heap = h ∧ s.Since vm0 k0 ∧ k0 ≤ h.size ∧ Z.Warmed39 (s.setVm vm0).vm ∧ (s.setVm vm0).vm.findClass y.cls = some m.cls ∧ Fr Z.heap.size locs ∧ (own_Nar → s.WarmedH vm0) ∧ CHr Z own_EL s.vm s.heap vm0 h ∧ (∀ x ∈ sf, x < h.size ∧ Safe Z own_EL vm0 h x) ∧ Ext Z.heap h ∧ (∃ a1, EW Z a1 own_EL) ∧ p.tables.exec = Jvm.exec ∧ c.code = bytes ∧ c.maxLocals = maxL ∧ meth.name = y.name ∧ meth.sig.returnType = ret ∧ meth.locks = false
def Go (p : Program) (e : Env) (below : List Frame) (G : State → Prop) (T : State) (g : JFrame) : Prop := ∃ u, Steps p.tables e below (T.setTop g) u ∧ G u
theorem Go.st {T' : State} {g g' : JFrame} (K : Go p e below G T' g') (f : ∀ u, Steps p.tables e below (T'.setTop g') u → Steps p.tables e below (T.setTop g) u) : Go p e below G T g := by
  obtain ⟨u, k, q⟩ := K
  exact ⟨u, f u k, q⟩
theorem Go.cut {g g' : JFrame} (A : Go p e below G T g' → Go p e below G T g) (B : Go p e below G T g') : Go p e below G T g := A B
theorem Go.eq {g g' : JFrame} (K : Go p e below G T g') (q : g' = g) : Go p e below G T g := q ▸ K
theorem Go.cutW {g g' : JFrame} (W : Wk p l e R s m args below meth c Z y bytes maxL ret T h ce sl sf) (A : (∀ T', Wk p l e R s m args below meth c Z y bytes maxL ret T' h ce sl sf → Go p e below G T' g') → Go p e below G T g) (B : ∀ T', Wk p l e R s m args below meth c Z y bytes maxL ret T' h ce sl sf → Go p e below G T' g') : Go p e below G T g := A B
theorem own_ext_refl (h : Heap) : Ext h h := ⟨Nat.le_refl _, fun _ _ q => q⟩
theorem own_ext_trans {h h' h2 : Heap} (A : Ext h h') (B : Ext h' h2) : Ext h h2 := ⟨Nat.le_trans A.1 B.1, fun x c q => B.2 x c (A.2 x c q)⟩
theorem own_ext_wr {h0 h h' : Heap} {a : Addr} {i : Nat} {v : Value} (E : Ext h0 h) (W : Wr h h' a i v) (q : h0.size ≤ a) : Ext h0 h' := by
  refine ⟨Nat.le_trans E.1 (Nat.le_of_eq W.size.symm), fun x cc r => ?_⟩
  obtain ⟨c', e1, -, -, -, e5, -⟩ := wr_at W (E.2 x cc r)
  have hlt := (Array.getElem?_eq_some_iff.mp r).1
  rw [e1, e5 (Nat.ne_of_lt (Nat.lt_of_lt_of_le hlt q))]
theorem own_ext_keep {h0 h h' : Heap} {a : Addr} (E : Ext h0 h) (K : Keep h h' [a]) (q : h0.size ≤ a) : Ext h0 h' := ⟨Nat.le_trans E.1 K.1, fun x cc r => K.2.1 x cc (E.2 x cc r) fun z => by
  have hlt := (Array.getElem?_eq_some_iff.mp r).1
  rw [List.mem_singleton.mp z] at hlt; omega⟩
theorem own_ns_root {O K : String} {n : Nat} (w : (Jvm.Cond.noSuperclass O).before a0 Z = true) (wk : (Jvm.Cond.instantiable K n).before a0 Z = true) (hn : O ≠ K) : NS Z O K := by
  obtain ⟨c, k, h1, h2, h3, -, -⟩ := Cond.noSuperclass_spec w
  obtain ⟨t, kt, g1, -⟩ := Cond.instantiable_spec wk
  have ne := ids_ne h1 g1 hn
  refine ⟨c, t, h1, g1, fun fuel => ?_⟩
  cases fuel with
  | zero => rfl
  | succ f => simp [Vm.isSubclassAux, ne, h2, h3]
theorem own_ns_no {C S' K : String} {n : Nat} (w : (Jvm.Cond.superclass C S').before a0 Z = true) (wk : (Jvm.Cond.instantiable K n).before a0 Z = true) (N : NS Z C K) (hn : C ≠ K) : ∃ c t, Z.vm.findClass C = some c ∧ Z.vm.findClass K = some t ∧ Z.vm.assignable c t = false := by
  obtain ⟨c, t, h0, g0, n3⟩ := N
  obtain ⟨p, k, kp, h1, h2, h3, h4, h5, -, h7⟩ := Cond.superclass_spec h0 w
  obtain ⟨t', kt, g1, g2, g3, g4, -⟩ := Cond.instantiable_spec wk
  cases g0.symm.trans g1
  have g7 : kt.isInterface = false := by cases q : kt.isInterface <;> simp_all
  have ne := ids_ne h0 g0 hn
  refine ⟨c, t, h0, g0, ?_⟩
  show Z.vm.assignableAux (255 + 1) c t = false
  simp [Vm.assignableAux, ne, h2, g2, h5, g3, g7, Vm.isSubclass, n3]
theorem Wk.old (W : Wk p l e R s m args below meth c Z y bytes maxL ret T h ce sl sf) : Ext Z.heap h := by obtain ⟨vm0, k0, locs, X, eT, hS, hk, hZ, hown, hF, hN, hC, hsf, hE, ⟨a1, hEL⟩, hx, hby, hml, hnm, hrt, hlk⟩ := W; exact hE
theorem Wk.mono (W : Wk p l e R s m args below meth c Z y bytes maxL ret T h ce sl sf) {ce' sl' : Nat} (q : ce ≤ ce') (r : sl ≤ sl') : Wk p l e R s m args below meth c Z y bytes maxL ret T h ce' sl' sf := by
  obtain ⟨vm0, k0, locs, X, eT, hS, hk, hZ, hown, hF, hN, hC, hsf, hE, ⟨a1, hEL⟩, hx, hby, hml, hnm, hrt, hlk⟩ := W
  exact ⟨vm0, k0, locs, X.mono q r, eT, hS, hk, hZ, hown, hF, hN, hC, hsf, hE, ⟨a1, hEL⟩, hx, hby, hml, hnm, hrt, hlk⟩
theorem Wk.drop (W : Wk p l e R s m args below meth c Z y bytes maxL ret T h ce sl sf) {sf' : List Addr} (q : ∀ x ∈ sf', x ∈ sf) : Wk p l e R s m args below meth c Z y bytes maxL ret T h ce sl sf' := by
  obtain ⟨vm0, k0, locs, X, eT, hS, hk, hZ, hown, hF, hN, hC, hsf, hE, ⟨a1, hEL⟩, hx, hby, hml, hnm, hrt, hlk⟩ := W
  exact ⟨vm0, k0, locs, X, eT, hS, hk, hZ, hown, hF, hN, hC, fun x hx => hsf x (q x hx), hE, ⟨a1, hEL⟩, hx, hby, hml, hnm, hrt, hlk⟩
theorem o_iloadN (pc' : Nat) (W : Wk p l e R s m args below meth c Z y bytes maxL ret T h ce sl sf) {k : Fin 4} {v : Int32} (hd : decode bytes pc = .ok (.iload_n k, 1)) (hl : L[k.val]? = some (.val (.int v))) (K : Go p e below G T (mkF m pc' L (.int v :: S))) (hp : pc + 1 = pc' := by rfl) : Go p e below G T (mkF m pc L (S)) := by
  subst hp
  obtain ⟨vm0, k0, locs, X, eT, hS, hk, hZ, hown, hF, hN, hC, hsf, hE, ⟨a1, hEL⟩, hx, hby, hml, hnm, hrt, hlk⟩ := W
  subst hby
  exact K.st fun u k => XS.iloadN X.here hx rfl hd hl k
theorem o_iload (pc' : Nat) (W : Wk p l e R s m args below meth c Z y bytes maxL ret T h ce sl sf) {k : Nat} {v : Int32} (hd : decode bytes pc = .ok (.iload k, 2)) (hl : L[k]? = some (.val (.int v))) (K : Go p e below G T (mkF m pc' L (.int v :: S))) (hp : pc + 2 = pc' := by rfl) : Go p e below G T (mkF m pc L (S)) := by
  subst hp
  obtain ⟨vm0, k0, locs, X, eT, hS, hk, hZ, hown, hF, hN, hC, hsf, hE, ⟨a1, hEL⟩, hx, hby, hml, hnm, hrt, hlk⟩ := W
  subst hby
  exact K.st fun u k => XS.iload X.here hx rfl hd hl k
theorem o_lloadN (pc' : Nat) (W : Wk p l e R s m args below meth c Z y bytes maxL ret T h ce sl sf) {k : Fin 4} {v : Int64} (hd : decode bytes pc = .ok (.lload_n k, 1)) (hl : L[k.val]? = some (.val (.long v))) (K : Go p e below G T (mkF m pc' L (.long v :: S))) (hp : pc + 1 = pc' := by rfl) : Go p e below G T (mkF m pc L (S)) := by
  subst hp
  obtain ⟨vm0, k0, locs, X, eT, hS, hk, hZ, hown, hF, hN, hC, hsf, hE, ⟨a1, hEL⟩, hx, hby, hml, hnm, hrt, hlk⟩ := W
  subst hby
  exact K.st fun u k => XT.lloadN X.here hx rfl hd hl k
theorem o_lload (pc' : Nat) (W : Wk p l e R s m args below meth c Z y bytes maxL ret T h ce sl sf) {k : Nat} {v : Int64} (hd : decode bytes pc = .ok (.lload k, 2)) (hl : L[k]? = some (.val (.long v))) (K : Go p e below G T (mkF m pc' L (.long v :: S))) (hp : pc + 2 = pc' := by rfl) : Go p e below G T (mkF m pc L (S)) := by
  subst hp
  obtain ⟨vm0, k0, locs, X, eT, hS, hk, hZ, hown, hF, hN, hC, hsf, hE, ⟨a1, hEL⟩, hx, hby, hml, hnm, hrt, hlk⟩ := W
  subst hby
  exact K.st fun u k => XT.lload X.here hx rfl hd hl k
theorem o_aloadN (pc' : Nat) (W : Wk p l e R s m args below meth c Z y bytes maxL ret T h ce sl sf) {k : Fin 4} {v : Value} (hd : decode bytes pc = .ok (.aload_n k, 1)) (hl : L[k.val]? = some (.val v)) (hv : v.isRef = true) (K : Go p e below G T (mkF m pc' L (v :: S))) (hp : pc + 1 = pc' := by rfl) : Go p e below G T (mkF m pc L (S)) := by
  subst hp
  obtain ⟨vm0, k0, locs, X, eT, hS, hk, hZ, hown, hF, hN, hC, hsf, hE, ⟨a1, hEL⟩, hx, hby, hml, hnm, hrt, hlk⟩ := W
  subst hby
  exact K.st fun u k => XS.aloadN X.here hx rfl hd hl hv k
theorem o_aload (pc' : Nat) (W : Wk p l e R s m args below meth c Z y bytes maxL ret T h ce sl sf) {k : Nat} {v : Value} (hd : decode bytes pc = .ok (.aload k, 2)) (hl : L[k]? = some (.val v)) (hv : v.isRef = true) (K : Go p e below G T (mkF m pc' L (v :: S))) (hp : pc + 2 = pc' := by rfl) : Go p e below G T (mkF m pc L (S)) := by
  subst hp
  obtain ⟨vm0, k0, locs, X, eT, hS, hk, hZ, hown, hF, hN, hC, hsf, hE, ⟨a1, hEL⟩, hx, hby, hml, hnm, hrt, hlk⟩ := W
  subst hby
  exact K.st fun u k => XS.aload X.here hx rfl hd hl hv k
theorem o_istoreN (pc' : Nat) (W : Wk p l e R s m args below meth c Z y bytes maxL ret T h ce sl sf) {k : Fin 4} {v : Int32} (L' : Array Slot) (hd : decode bytes pc = .ok (.istore_n k, 1)) (hl : storeLocals L k.val (.int v) = some L') (K : Go p e below G T (mkF m pc' L' (S))) (hp : pc + 1 = pc' := by rfl) : Go p e below G T (mkF m pc L (.int v :: S)) := by
  subst hp
  obtain ⟨vm0, k0, locs, X, eT, hS, hk, hZ, hown, hF, hN, hC, hsf, hE, ⟨a1, hEL⟩, hx, hby, hml, hnm, hrt, hlk⟩ := W
  subst hby
  exact K.st fun u k => XS.istoreN X.here hx rfl hd rfl hl k
theorem o_istore (pc' : Nat) (W : Wk p l e R s m args below meth c Z y bytes maxL ret T h ce sl sf) {k : Nat} {v : Int32} (L' : Array Slot) (hd : decode bytes pc = .ok (.istore k, 2)) (hl : storeLocals L k (.int v) = some L') (K : Go p e below G T (mkF m pc' L' (S))) (hp : pc + 2 = pc' := by rfl) : Go p e below G T (mkF m pc L (.int v :: S)) := by
  subst hp
  obtain ⟨vm0, k0, locs, X, eT, hS, hk, hZ, hown, hF, hN, hC, hsf, hE, ⟨a1, hEL⟩, hx, hby, hml, hnm, hrt, hlk⟩ := W
  subst hby
  exact K.st fun u k => XS.istore X.here hx rfl hd rfl hl k
theorem o_lstoreN (pc' : Nat) (W : Wk p l e R s m args below meth c Z y bytes maxL ret T h ce sl sf) {k : Fin 4} {v : Int64} (L' : Array Slot) (hd : decode bytes pc = .ok (.lstore_n k, 1)) (hl : storeLocals L k.val (.long v) = some L') (K : Go p e below G T (mkF m pc' L' (S))) (hp : pc + 1 = pc' := by rfl) : Go p e below G T (mkF m pc L (.long v :: S)) := by
  subst hp
  obtain ⟨vm0, k0, locs, X, eT, hS, hk, hZ, hown, hF, hN, hC, hsf, hE, ⟨a1, hEL⟩, hx, hby, hml, hnm, hrt, hlk⟩ := W
  subst hby
  exact K.st fun u k => XT.lstoreN X.here hx rfl hd rfl hl k
theorem o_lstore (pc' : Nat) (W : Wk p l e R s m args below meth c Z y bytes maxL ret T h ce sl sf) {k : Nat} {v : Int64} (L' : Array Slot) (hd : decode bytes pc = .ok (.lstore k, 2)) (hl : storeLocals L k (.long v) = some L') (K : Go p e below G T (mkF m pc' L' (S))) (hp : pc + 2 = pc' := by rfl) : Go p e below G T (mkF m pc L (.long v :: S)) := by
  subst hp
  obtain ⟨vm0, k0, locs, X, eT, hS, hk, hZ, hown, hF, hN, hC, hsf, hE, ⟨a1, hEL⟩, hx, hby, hml, hnm, hrt, hlk⟩ := W
  subst hby
  exact K.st fun u k => XT.lstore X.here hx rfl hd rfl hl k
theorem o_astoreN (pc' : Nat) (W : Wk p l e R s m args below meth c Z y bytes maxL ret T h ce sl sf) {k : Fin 4} {v : Value} (L' : Array Slot) (hd : decode bytes pc = .ok (.astore_n k, 1)) (hv : v.isRef = true) (hl : storeLocals L k.val v = some L') (K : Go p e below G T (mkF m pc' L' (S))) (hp : pc + 1 = pc' := by rfl) : Go p e below G T (mkF m pc L (v :: S)) := by
  subst hp
  obtain ⟨vm0, k0, locs, X, eT, hS, hk, hZ, hown, hF, hN, hC, hsf, hE, ⟨a1, hEL⟩, hx, hby, hml, hnm, hrt, hlk⟩ := W
  subst hby
  exact K.st fun u k => XS.astoreN X.here hx rfl hd rfl hv hl k
theorem o_astore (pc' : Nat) (W : Wk p l e R s m args below meth c Z y bytes maxL ret T h ce sl sf) {k : Nat} {v : Value} (L' : Array Slot) (hd : decode bytes pc = .ok (.astore k, 2)) (hv : v.isRef = true) (hl : storeLocals L k v = some L') (K : Go p e below G T (mkF m pc' L' (S))) (hp : pc + 2 = pc' := by rfl) : Go p e below G T (mkF m pc L (v :: S)) := by
  subst hp
  obtain ⟨vm0, k0, locs, X, eT, hS, hk, hZ, hown, hF, hN, hC, hsf, hE, ⟨a1, hEL⟩, hx, hby, hml, hnm, hrt, hlk⟩ := W
  subst hby
  exact K.st fun u k => XS.astore X.here hx rfl hd rfl hv hl k
theorem o_iconst (pc' : Nat) (W : Wk p l e R s m args below meth c Z y bytes maxL ret T h ce sl sf) {i : Int} (v : Int32) (hd : decode bytes pc = .ok (.iconst i, 1)) (hv : Int32.ofInt i = v) (K : Go p e below G T (mkF m pc' L (.int v :: S))) (hp : pc + 1 = pc' := by rfl) : Go p e below G T (mkF m pc L (S)) := by
  subst hp
  obtain ⟨vm0, k0, locs, X, eT, hS, hk, hZ, hown, hF, hN, hC, hsf, hE, ⟨a1, hEL⟩, hx, hby, hml, hnm, hrt, hlk⟩ := W
  subst hby
  exact K.st fun u k => XT.iconstV X.here hx rfl v hd hv k
theorem o_bipush (pc' : Nat) (W : Wk p l e R s m args below meth c Z y bytes maxL ret T h ce sl sf) {i : Int} (v : Int32) (hd : decode bytes pc = .ok (.bipush i, 2)) (hv : (Int8.ofInt i).toInt32 = v) (K : Go p e below G T (mkF m pc' L (.int v :: S))) (hp : pc + 2 = pc' := by rfl) : Go p e below G T (mkF m pc L (S)) := by
  subst hp
  obtain ⟨vm0, k0, locs, X, eT, hS, hk, hZ, hown, hF, hN, hC, hsf, hE, ⟨a1, hEL⟩, hx, hby, hml, hnm, hrt, hlk⟩ := W
  subst hby
  exact K.st fun u k => XT.bipushV X.here hx rfl v hd hv k
theorem o_sipush (pc' : Nat) (W : Wk p l e R s m args below meth c Z y bytes maxL ret T h ce sl sf) {i : Int} (v : Int32) (hd : decode bytes pc = .ok (.sipush i, 3)) (hv : (Int16.ofInt i).toInt32 = v) (K : Go p e below G T (mkF m pc' L (.int v :: S))) (hp : pc + 3 = pc' := by rfl) : Go p e below G T (mkF m pc L (S)) := by
  subst hp
  obtain ⟨vm0, k0, locs, X, eT, hS, hk, hZ, hown, hF, hN, hC, hsf, hE, ⟨a1, hEL⟩, hx, hby, hml, hnm, hrt, hlk⟩ := W
  subst hby
  exact K.st fun u k => XT.sipushV X.here hx rfl v hd hv k
theorem o_lconst (pc' : Nat) (W : Wk p l e R s m args below meth c Z y bytes maxL ret T h ce sl sf) {i : Fin 2} (v : Int64) (hd : decode bytes pc = .ok (.lconst i, 1)) (hv : Int64.ofNat i = v) (K : Go p e below G T (mkF m pc' L (.long v :: S))) (hp : pc + 1 = pc' := by rfl) : Go p e below G T (mkF m pc L (S)) := by
  subst hp
  obtain ⟨vm0, k0, locs, X, eT, hS, hk, hZ, hown, hF, hN, hC, hsf, hE, ⟨a1, hEL⟩, hx, hby, hml, hnm, hrt, hlk⟩ := W
  subst hby
  exact K.st fun u k => XT.lconstV X.here hx rfl v hd hv k
theorem o_null (pc' : Nat) (W : Wk p l e R s m args below meth c Z y bytes maxL ret T h ce sl sf)  (hd : decode bytes pc = .ok (.aconst_null, 1))  (K : Go p e below G T (mkF m pc' L (.null :: S))) (hp : pc + 1 = pc' := by rfl) : Go p e below G T (mkF m pc L (S)) := by
  subst hp
  obtain ⟨vm0, k0, locs, X, eT, hS, hk, hZ, hown, hF, hN, hC, hsf, hE, ⟨a1, hEL⟩, hx, hby, hml, hnm, hrt, hlk⟩ := W
  subst hby
  exact K.st fun u k => XS.aconstNull X.here hx rfl hd  k
theorem o_iadd (pc' : Nat) (W : Wk p l e R s m args below meth c Z y bytes maxL ret T h ce sl sf) {x z : Int32} (hd : decode bytes pc = .ok (.iadd, 1))  (K : Go p e below G T (mkF m pc' L (.int (x + z) :: S))) (hp : pc + 1 = pc' := by rfl) : Go p e below G T (mkF m pc L (.int z :: .int x :: S)) := by
  subst hp
  obtain ⟨vm0, k0, locs, X, eT, hS, hk, hZ, hown, hF, hN, hC, hsf, hE, ⟨a1, hEL⟩, hx, hby, hml, hnm, hrt, hlk⟩ := W
  subst hby
  exact K.st fun u k => XS.iadd X.here hx rfl hd rfl k
theorem o_isub (pc' : Nat) (W : Wk p l e R s m args below meth c Z y bytes maxL ret T h ce sl sf) {x z : Int32} (hd : decode bytes pc = .ok (.isub, 1))  (K : Go p e below G T (mkF m pc' L (.int (x - z) :: S))) (hp : pc + 1 = pc' := by rfl) : Go p e below G T (mkF m pc L (.int z :: .int x :: S)) := by
  subst hp
  obtain ⟨vm0, k0, locs, X, eT, hS, hk, hZ, hown, hF, hN, hC, hsf, hE, ⟨a1, hEL⟩, hx, hby, hml, hnm, hrt, hlk⟩ := W
  subst hby
  exact K.st fun u k => XS.isub X.here hx rfl hd rfl k
theorem o_iand (pc' : Nat) (W : Wk p l e R s m args below meth c Z y bytes maxL ret T h ce sl sf) {x z : Int32} (hd : decode bytes pc = .ok (.iand, 1))  (K : Go p e below G T (mkF m pc' L (.int (x &&& z) :: S))) (hp : pc + 1 = pc' := by rfl) : Go p e below G T (mkF m pc L (.int z :: .int x :: S)) := by
  subst hp
  obtain ⟨vm0, k0, locs, X, eT, hS, hk, hZ, hown, hF, hN, hC, hsf, hE, ⟨a1, hEL⟩, hx, hby, hml, hnm, hrt, hlk⟩ := W
  subst hby
  exact K.st fun u k => XS.iand X.here hx rfl hd rfl k
theorem o_imul (pc' : Nat) (W : Wk p l e R s m args below meth c Z y bytes maxL ret T h ce sl sf) {x z : Int32} (hd : decode bytes pc = .ok (.imul, 1))  (K : Go p e below G T (mkF m pc' L (.int (x * z) :: S))) (hp : pc + 1 = pc' := by rfl) : Go p e below G T (mkF m pc L (.int z :: .int x :: S)) := by
  subst hp
  obtain ⟨vm0, k0, locs, X, eT, hS, hk, hZ, hown, hF, hN, hC, hsf, hE, ⟨a1, hEL⟩, hx, hby, hml, hnm, hrt, hlk⟩ := W
  subst hby
  exact K.st fun u k => XS.imul X.here hx rfl hd rfl k
theorem o_ior (pc' : Nat) (W : Wk p l e R s m args below meth c Z y bytes maxL ret T h ce sl sf) {x z : Int32} (hd : decode bytes pc = .ok (.ior, 1))  (K : Go p e below G T (mkF m pc' L (.int (x ||| z) :: S))) (hp : pc + 1 = pc' := by rfl) : Go p e below G T (mkF m pc L (.int z :: .int x :: S)) := by
  subst hp
  obtain ⟨vm0, k0, locs, X, eT, hS, hk, hZ, hown, hF, hN, hC, hsf, hE, ⟨a1, hEL⟩, hx, hby, hml, hnm, hrt, hlk⟩ := W
  subst hby
  exact K.st fun u k => XT.ior X.here hx rfl hd rfl k
theorem o_ishl (pc' : Nat) (W : Wk p l e R s m args below meth c Z y bytes maxL ret T h ce sl sf) {x z : Int32} (hd : decode bytes pc = .ok (.ishl, 1))  (K : Go p e below G T (mkF m pc' L (.int (x <<< (z &&& 31)) :: S))) (hp : pc + 1 = pc' := by rfl) : Go p e below G T (mkF m pc L (.int z :: .int x :: S)) := by
  subst hp
  obtain ⟨vm0, k0, locs, X, eT, hS, hk, hZ, hown, hF, hN, hC, hsf, hE, ⟨a1, hEL⟩, hx, hby, hml, hnm, hrt, hlk⟩ := W
  subst hby
  exact K.st fun u k => XT.ishl X.here hx rfl hd rfl k
theorem o_iushr (pc' : Nat) (W : Wk p l e R s m args below meth c Z y bytes maxL ret T h ce sl sf) {x z : Int32} (hd : decode bytes pc = .ok (.iushr, 1))  (K : Go p e below G T (mkF m pc' L (.int (XT.ushr x z) :: S))) (hp : pc + 1 = pc' := by rfl) : Go p e below G T (mkF m pc L (.int z :: .int x :: S)) := by
  subst hp
  obtain ⟨vm0, k0, locs, X, eT, hS, hk, hZ, hown, hF, hN, hC, hsf, hE, ⟨a1, hEL⟩, hx, hby, hml, hnm, hrt, hlk⟩ := W
  subst hby
  exact K.st fun u k => XT.iushr X.here hx rfl hd rfl k
theorem o_ishr (pc' : Nat) (W : Wk p l e R s m args below meth c Z y bytes maxL ret T h ce sl sf) {x z : Int32} (hd : decode bytes pc = .ok (.ishr, 1))  (K : Go p e below G T (mkF m pc' L (.int (x >>> (z &&& 31)) :: S))) (hp : pc + 1 = pc' := by rfl) : Go p e below G T (mkF m pc L (.int z :: .int x :: S)) := by
  subst hp
  obtain ⟨vm0, k0, locs, X, eT, hS, hk, hZ, hown, hF, hN, hC, hsf, hE, ⟨a1, hEL⟩, hx, hby, hml, hnm, hrt, hlk⟩ := W
  subst hby
  exact K.st fun u k => XT.ishr X.here hx rfl hd rfl k
theorem o_ladd (pc' : Nat) (W : Wk p l e R s m args below meth c Z y bytes maxL ret T h ce sl sf) {x z : Int64} (hd : decode bytes pc = .ok (.ladd, 1))  (K : Go p e below G T (mkF m pc' L (.long (x + z) :: S))) (hp : pc + 1 = pc' := by rfl) : Go p e below G T (mkF m pc L (.long z :: .long x :: S)) := by
  subst hp
  obtain ⟨vm0, k0, locs, X, eT, hS, hk, hZ, hown, hF, hN, hC, hsf, hE, ⟨a1, hEL⟩, hx, hby, hml, hnm, hrt, hlk⟩ := W
  subst hby
  exact K.st fun u k => XT.ladd X.here hx rfl hd rfl k
theorem o_land (pc' : Nat) (W : Wk p l e R s m args below meth c Z y bytes maxL ret T h ce sl sf) {x z : Int64} (hd : decode bytes pc = .ok (.land, 1))  (K : Go p e below G T (mkF m pc' L (.long (x &&& z) :: S))) (hp : pc + 1 = pc' := by rfl) : Go p e below G T (mkF m pc L (.long z :: .long x :: S)) := by
  subst hp
  obtain ⟨vm0, k0, locs, X, eT, hS, hk, hZ, hown, hF, hN, hC, hsf, hE, ⟨a1, hEL⟩, hx, hby, hml, hnm, hrt, hlk⟩ := W
  subst hby
  exact K.st fun u k => XT.land X.here hx rfl hd rfl k
theorem o_lushr (pc' : Nat) (W : Wk p l e R s m args below meth c Z y bytes maxL ret T h ce sl sf) {x : Int64} {z : Int32} (hd : decode bytes pc = .ok (.lushr, 1))  (K : Go p e below G T (mkF m pc' L (.long (XT.ushrL x z) :: S))) (hp : pc + 1 = pc' := by rfl) : Go p e below G T (mkF m pc L (.int z :: .long x :: S)) := by
  subst hp
  obtain ⟨vm0, k0, locs, X, eT, hS, hk, hZ, hown, hF, hN, hC, hsf, hE, ⟨a1, hEL⟩, hx, hby, hml, hnm, hrt, hlk⟩ := W
  subst hby
  exact K.st fun u k => XT.lushr X.here hx rfl hd rfl k
theorem o_lcmp (pc' : Nat) (W : Wk p l e R s m args below meth c Z y bytes maxL ret T h ce sl sf) {x z : Int64} (hd : decode bytes pc = .ok (.lcmp, 1))  (K : Go p e below G T (mkF m pc' L (.int (XT.cmpL x z) :: S))) (hp : pc + 1 = pc' := by rfl) : Go p e below G T (mkF m pc L (.long z :: .long x :: S)) := by
  subst hp
  obtain ⟨vm0, k0, locs, X, eT, hS, hk, hZ, hown, hF, hN, hC, hsf, hE, ⟨a1, hEL⟩, hx, hby, hml, hnm, hrt, hlk⟩ := W
  subst hby
  exact K.st fun u k => XT.lcmp X.here hx rfl hd rfl k
theorem o_i2c (pc' : Nat) (W : Wk p l e R s m args below meth c Z y bytes maxL ret T h ce sl sf) {x : Int32} (hd : decode bytes pc = .ok (.i2c, 1))  (K : Go p e below G T (mkF m pc' L (.int x.toUInt32.toUInt16.toUInt32.toInt32 :: S))) (hp : pc + 1 = pc' := by rfl) : Go p e below G T (mkF m pc L (.int x :: S)) := by
  subst hp
  obtain ⟨vm0, k0, locs, X, eT, hS, hk, hZ, hown, hF, hN, hC, hsf, hE, ⟨a1, hEL⟩, hx, hby, hml, hnm, hrt, hlk⟩ := W
  subst hby
  exact K.st fun u k => XT.i2c X.here hx rfl hd rfl k
theorem o_i2b (pc' : Nat) (W : Wk p l e R s m args below meth c Z y bytes maxL ret T h ce sl sf) {x : Int32} (hd : decode bytes pc = .ok (.i2b, 1))  (K : Go p e below G T (mkF m pc' L (.int x.toInt8.toInt32 :: S))) (hp : pc + 1 = pc' := by rfl) : Go p e below G T (mkF m pc L (.int x :: S)) := by
  subst hp
  obtain ⟨vm0, k0, locs, X, eT, hS, hk, hZ, hown, hF, hN, hC, hsf, hE, ⟨a1, hEL⟩, hx, hby, hml, hnm, hrt, hlk⟩ := W
  subst hby
  exact K.st fun u k => XT.i2b X.here hx rfl hd rfl k
theorem o_i2l (pc' : Nat) (W : Wk p l e R s m args below meth c Z y bytes maxL ret T h ce sl sf) {x : Int32} (hd : decode bytes pc = .ok (.i2l, 1))  (K : Go p e below G T (mkF m pc' L (.long x.toInt64 :: S))) (hp : pc + 1 = pc' := by rfl) : Go p e below G T (mkF m pc L (.int x :: S)) := by
  subst hp
  obtain ⟨vm0, k0, locs, X, eT, hS, hk, hZ, hown, hF, hN, hC, hsf, hE, ⟨a1, hEL⟩, hx, hby, hml, hnm, hrt, hlk⟩ := W
  subst hby
  exact K.st fun u k => XT.i2l X.here hx rfl hd rfl k
theorem o_l2i (pc' : Nat) (W : Wk p l e R s m args below meth c Z y bytes maxL ret T h ce sl sf) {x : Int64} (hd : decode bytes pc = .ok (.l2i, 1))  (K : Go p e below G T (mkF m pc' L (.int x.toInt32 :: S))) (hp : pc + 1 = pc' := by rfl) : Go p e below G T (mkF m pc L (.long x :: S)) := by
  subst hp
  obtain ⟨vm0, k0, locs, X, eT, hS, hk, hZ, hown, hF, hN, hC, hsf, hE, ⟨a1, hEL⟩, hx, hby, hml, hnm, hrt, hlk⟩ := W
  subst hby
  exact K.st fun u k => XT.l2i X.here hx rfl hd rfl k
theorem o_dup (pc' : Nat) (W : Wk p l e R s m args below meth c Z y bytes maxL ret T h ce sl sf) {v : Value} (hd : decode bytes pc = .ok (.dup, 1)) (hc : v.category = 1) (K : Go p e below G T (mkF m pc' L (v :: v :: S))) (hp : pc + 1 = pc' := by rfl) : Go p e below G T (mkF m pc L (v :: S)) := by
  subst hp
  obtain ⟨vm0, k0, locs, X, eT, hS, hk, hZ, hown, hF, hN, hC, hsf, hE, ⟨a1, hEL⟩, hx, hby, hml, hnm, hrt, hlk⟩ := W
  subst hby
  exact K.st fun u k => XS.dup X.here hx rfl hd rfl hc k
theorem o_pop (pc' : Nat) (W : Wk p l e R s m args below meth c Z y bytes maxL ret T h ce sl sf) {v : Value} (hd : decode bytes pc = .ok (.pop, 1)) (hc : v.category = 1) (K : Go p e below G T (mkF m pc' L (S))) (hp : pc + 1 = pc' := by rfl) : Go p e below G T (mkF m pc L (v :: S)) := by
  subst hp
  obtain ⟨vm0, k0, locs, X, eT, hS, hk, hZ, hown, hF, hN, hC, hsf, hE, ⟨a1, hEL⟩, hx, hby, hml, hnm, hrt, hlk⟩ := W
  subst hby
  exact K.st fun u k => XT.pop X.here hx rfl hd rfl hc k
theorem o_iinc (pc' : Nat) (W : Wk p l e R s m args below meth c Z y bytes maxL ret T h ce sl sf) {k : Nat} {i : Int} {x : Int32} (v : Int32) (L' : Array Slot) (hd : decode bytes pc = .ok (.iinc k i, 3)) (hl : L[k]? = some (.val (.int x))) (hv : x + Int32.ofInt i = v) (hl' : storeLocals L k (.int v) = some L') (K : Go p e below G T (mkF m pc' L' (S))) (hp : pc + 3 = pc' := by rfl) : Go p e below G T (mkF m pc L (S)) := by
  subst hp
  obtain ⟨vm0, k0, locs, X, eT, hS, hk, hZ, hown, hF, hN, hC, hsf, hE, ⟨a1, hEL⟩, hx, hby, hml, hnm, hrt, hlk⟩ := W
  subst hby
  exact K.st fun u k => XS.iinc X.here hx rfl hd hl (hv ▸ hl') k
theorem o_irem (pc' : Nat) (W : Wk p l e R s m args below meth c Z y bytes maxL ret T h ce sl sf) {x z : Int32} (hd : decode bytes pc = .ok (.irem, 1)) (hz : z ≠ 0) (K : Go p e below G T (mkF m pc' L (.int (x % z) :: S))) (hp : pc + 1 = pc' := by rfl) : Go p e below G T (mkF m pc L (.int z :: .int x :: S)) := by
  subst hp
  obtain ⟨vm0, k0, locs, X, eT, hS, hk, hZ, hown, hF, hN, hC, hsf, hE, ⟨a1, hEL⟩, hx, hby, hml, hnm, hrt, hlk⟩ := W
  subst hby
  exact K.st fun u k => iremM X hx (g := mkF m pc L (.int z :: .int x :: S)) rfl hd rfl hz k
theorem o_goto (pc' : Nat) (W : Wk p l e R s m args below meth c Z y bytes maxL ret T h ce sl sf)  {o : Int} (hd : decode bytes pc = .ok (.goto o, 3))  (K : Go p e below G T (mkF m pc' L (S))) (ho : 0 ≤ (pc : Int) + o := by decide) (hp : ((pc : Int) + o).toNat = pc' := by decide) : Go p e below G T (mkF m pc L (S)) := by
  obtain ⟨vm0, k0, locs, X, eT, hS, hk, hZ, hown, hF, hN, hC, hsf, hE, ⟨a1, hEL⟩, hx, hby, hml, hnm, hrt, hlk⟩ := W
  subst hby
  exact K.st fun u k => XS.goto X.here hx rfl (pc0 := pc) rfl hd ho hp k
theorem o_ifeq (pt pf : Nat) (W : Wk p l e R s m args below meth c Z y bytes maxL ret T h ce sl sf) {x : Int32} {o : Int} (hd : decode bytes pc = .ok (.ifCond .eq o, 3)) (K1 : x = 0 → Go p e below G T (mkF m pt L S)) (K2 : ¬ x = 0 → Go p e below G T (mkF m pf L S)) (ho : 0 ≤ (pc : Int) + o := by decide) (hp : ((pc : Int) + o).toNat = pt := by decide) (hq : pc + 3 = pf := by rfl) : Go p e below G T (mkF m pc L (.int x :: S)) := by
  subst hq
  obtain ⟨vm0, k0, locs, X, eT, hS, hk, hZ, hown, hF, hN, hC, hsf, hE, ⟨a1, hEL⟩, hx, hby, hml, hnm, hrt, hlk⟩ := W
  subst hby
  by_cases q : x = 0
  · exact (K1 q).st fun u k => XS.ifYes X.here hx rfl (pc0 := pc) rfl hd rfl (XT.i0_eq_t q) ho hp k
  · exact (K2 q).st fun u k => XS.ifNo X.here hx rfl hd rfl (XT.i0_eq_f q) k
theorem o_ifne (pt pf : Nat) (W : Wk p l e R s m args below meth c Z y bytes maxL ret T h ce sl sf) {x : Int32} {o : Int} (hd : decode bytes pc = .ok (.ifCond .ne o, 3)) (K1 : ¬ x = 0 → Go p e below G T (mkF m pt L S)) (K2 : x = 0 → Go p e below G T (mkF m pf L S)) (ho : 0 ≤ (pc : Int) + o := by decide) (hp : ((pc : Int) + o).toNat = pt := by decide) (hq : pc + 3 = pf := by rfl) : Go p e below G T (mkF m pc L (.int x :: S)) := by
  subst hq
  obtain ⟨vm0, k0, locs, X, eT, hS, hk, hZ, hown, hF, hN, hC, hsf, hE, ⟨a1, hEL⟩, hx, hby, hml, hnm, hrt, hlk⟩ := W
  subst hby
  by_cases q : x = 0
  · exact (K2 q).st fun u k => XS.ifNo X.here hx rfl hd rfl (XT.i0_ne_f q) k
  · exact (K1 q).st fun u k => XS.ifYes X.here hx rfl (pc0 := pc) rfl hd rfl (XT.i0_ne_t q) ho hp k
theorem o_iflt (pt pf : Nat) (W : Wk p l e R s m args below meth c Z y bytes maxL ret T h ce sl sf) {x : Int32} {o : Int} (hd : decode bytes pc = .ok (.ifCond .lt o, 3)) (K1 : x < 0 → Go p e below G T (mkF m pt L S)) (K2 : ¬ x < 0 → Go p e below G T (mkF m pf L S)) (ho : 0 ≤ (pc : Int) + o := by decide) (hp : ((pc : Int) + o).toNat = pt := by decide) (hq : pc + 3 = pf := by rfl) : Go p e below G T (mkF m pc L (.int x :: S)) := by
  subst hq
  obtain ⟨vm0, k0, locs, X, eT, hS, hk, hZ, hown, hF, hN, hC, hsf, hE, ⟨a1, hEL⟩, hx, hby, hml, hnm, hrt, hlk⟩ := W
  subst hby
  by_cases q : x < 0
  · exact (K1 q).st fun u k => XS.ifYes X.here hx rfl (pc0 := pc) rfl hd rfl (XT.i0_lt_t q) ho hp k
  · exact (K2 q).st fun u k => XS.ifNo X.here hx rfl hd rfl (XT.i0_lt_f q) k
theorem o_ifge (pt pf : Nat) (W : Wk p l e R s m args below meth c Z y bytes maxL ret T h ce sl sf) {x : Int32} {o : Int} (hd : decode bytes pc = .ok (.ifCond .ge o, 3)) (K1 : ¬ x < 0 → Go p e below G T (mkF m pt L S)) (K2 : x < 0 → Go p e below G T (mkF m pf L S)) (ho : 0 ≤ (pc : Int) + o := by decide) (hp : ((pc : Int) + o).toNat = pt := by decide) (hq : pc + 3 = pf := by rfl) : Go p e below G T (mkF m pc L (.int x :: S)) := by
  subst hq
  obtain ⟨vm0, k0, locs, X, eT, hS, hk, hZ, hown, hF, hN, hC, hsf, hE, ⟨a1, hEL⟩, hx, hby, hml, hnm, hrt, hlk⟩ := W
  subst hby
  by_cases q : x < 0
  · exact (K2 q).st fun u k => XS.ifNo X.here hx rfl hd rfl (XT.i0_ge_f q) k
  · exact (K1 q).st fun u k => XS.ifYes X.here hx rfl (pc0 := pc) rfl hd rfl (XT.i0_ge_t q) ho hp k
theorem o_ifgt (pt pf : Nat) (W : Wk p l e R s m args below meth c Z y bytes maxL ret T h ce sl sf) {x : Int32} {o : Int} (hd : decode bytes pc = .ok (.ifCond .gt o, 3)) (K1 : 0 < x → Go p e below G T (mkF m pt L S)) (K2 : ¬ 0 < x → Go p e below G T (mkF m pf L S)) (ho : 0 ≤ (pc : Int) + o := by decide) (hp : ((pc : Int) + o).toNat = pt := by decide) (hq : pc + 3 = pf := by rfl) : Go p e below G T (mkF m pc L (.int x :: S)) := by
  subst hq
  obtain ⟨vm0, k0, locs, X, eT, hS, hk, hZ, hown, hF, hN, hC, hsf, hE, ⟨a1, hEL⟩, hx, hby, hml, hnm, hrt, hlk⟩ := W
  subst hby
  by_cases q : 0 < x
  · exact (K1 q).st fun u k => XS.ifYes X.here hx rfl (pc0 := pc) rfl hd rfl (XT.i0_gt_t q) ho hp k
  · exact (K2 q).st fun u k => XS.ifNo X.here hx rfl hd rfl (XT.i0_gt_f q) k
theorem o_ifle (pt pf : Nat) (W : Wk p l e R s m args below meth c Z y bytes maxL ret T h ce sl sf) {x : Int32} {o : Int} (hd : decode bytes pc = .ok (.ifCond .le o, 3)) (K1 : ¬ 0 < x → Go p e below G T (mkF m pt L S)) (K2 : 0 < x → Go p e below G T (mkF m pf L S)) (ho : 0 ≤ (pc : Int) + o := by decide) (hp : ((pc : Int) + o).toNat = pt := by decide) (hq : pc + 3 = pf := by rfl) : Go p e below G T (mkF m pc L (.int x :: S)) := by
  subst hq
  obtain ⟨vm0, k0, locs, X, eT, hS, hk, hZ, hown, hF, hN, hC, hsf, hE, ⟨a1, hEL⟩, hx, hby, hml, hnm, hrt, hlk⟩ := W
  subst hby
  by_cases q : 0 < x
  · exact (K2 q).st fun u k => XS.ifNo X.here hx rfl hd rfl (XT.i0_le_f q) k
  · exact (K1 q).st fun u k => XS.ifYes X.here hx rfl (pc0 := pc) rfl hd rfl (XT.i0_le_t q) ho hp k
theorem o_iceq (pt pf : Nat) (W : Wk p l e R s m args below meth c Z y bytes maxL ret T h ce sl sf) {x z : Int32} {o : Int} (hd : decode bytes pc = .ok (.if_icmp .eq o, 3)) (K1 : x = z → Go p e below G T (mkF m pt L S)) (K2 : ¬ x = z → Go p e below G T (mkF m pf L S)) (ho : 0 ≤ (pc : Int) + o := by decide) (hp : ((pc : Int) + o).toNat = pt := by decide) (hq : pc + 3 = pf := by rfl) : Go p e below G T (mkF m pc L (.int z :: .int x :: S)) := by
  subst hq
  obtain ⟨vm0, k0, locs, X, eT, hS, hk, hZ, hown, hF, hN, hC, hsf, hE, ⟨a1, hEL⟩, hx, hby, hml, hnm, hrt, hlk⟩ := W
  subst hby
  by_cases q : x = z
  · exact (K1 q).st fun u k => XS.icmpYes X.here hx rfl (pc0 := pc) rfl hd rfl (XT.ii_eq_t q) ho hp k
  · exact (K2 q).st fun u k => XS.icmpNo X.here hx rfl hd rfl (XT.ii_eq_f q) k
theorem o_icne (pt pf : Nat) (W : Wk p l e R s m args below meth c Z y bytes maxL ret T h ce sl sf) {x z : Int32} {o : Int} (hd : decode bytes pc = .ok (.if_icmp .ne o, 3)) (K1 : ¬ x = z → Go p e below G T (mkF m pt L S)) (K2 : x = z → Go p e below G T (mkF m pf L S)) (ho : 0 ≤ (pc : Int) + o := by decide) (hp : ((pc : Int) + o).toNat = pt := by decide) (hq : pc + 3 = pf := by rfl) : Go p e below G T (mkF m pc L (.int z :: .int x :: S)) := by
  subst hq
  obtain ⟨vm0, k0, locs, X, eT, hS, hk, hZ, hown, hF, hN, hC, hsf, hE, ⟨a1, hEL⟩, hx, hby, hml, hnm, hrt, hlk⟩ := W
  subst hby
  by_cases q : x = z
  · exact (K2 q).st fun u k => XS.icmpNo X.here hx rfl hd rfl (XT.ii_ne_f q) k
  · exact (K1 q).st fun u k => XS.icmpYes X.here hx rfl (pc0 := pc) rfl hd rfl (XT.ii_ne_t q) ho hp k
theorem o_iclt (pt pf : Nat) (W : Wk p l e R s m args below meth c Z y bytes maxL ret T h ce sl sf) {x z : Int32} {o : Int} (hd : decode bytes pc = .ok (.if_icmp .lt o, 3)) (K1 : x < z → Go p e below G T (mkF m pt L S)) (K2 : ¬ x < z → Go p e below G T (mkF m pf L S)) (ho : 0 ≤ (pc : Int) + o := by decide) (hp : ((pc : Int) + o).toNat = pt := by decide) (hq : pc + 3 = pf := by rfl) : Go p e below G T (mkF m pc L (.int z :: .int x :: S)) := by
  subst hq
  obtain ⟨vm0, k0, locs, X, eT, hS, hk, hZ, hown, hF, hN, hC, hsf, hE, ⟨a1, hEL⟩, hx, hby, hml, hnm, hrt, hlk⟩ := W
  subst hby
  by_cases q : x < z
  · exact (K1 q).st fun u k => XS.icmpYes X.here hx rfl (pc0 := pc) rfl hd rfl (XT.ii_lt_t q) ho hp k
  · exact (K2 q).st fun u k => XS.icmpNo X.here hx rfl hd rfl (XT.ii_lt_f q) k
theorem o_icge (pt pf : Nat) (W : Wk p l e R s m args below meth c Z y bytes maxL ret T h ce sl sf) {x z : Int32} {o : Int} (hd : decode bytes pc = .ok (.if_icmp .ge o, 3)) (K1 : ¬ x < z → Go p e below G T (mkF m pt L S)) (K2 : x < z → Go p e below G T (mkF m pf L S)) (ho : 0 ≤ (pc : Int) + o := by decide) (hp : ((pc : Int) + o).toNat = pt := by decide) (hq : pc + 3 = pf := by rfl) : Go p e below G T (mkF m pc L (.int z :: .int x :: S)) := by
  subst hq
  obtain ⟨vm0, k0, locs, X, eT, hS, hk, hZ, hown, hF, hN, hC, hsf, hE, ⟨a1, hEL⟩, hx, hby, hml, hnm, hrt, hlk⟩ := W
  subst hby
  by_cases q : x < z
  · exact (K2 q).st fun u k => XS.icmpNo X.here hx rfl hd rfl (XT.ii_ge_f q) k
  · exact (K1 q).st fun u k => XS.icmpYes X.here hx rfl (pc0 := pc) rfl hd rfl (XT.ii_ge_t q) ho hp k
theorem o_icgt (pt pf : Nat) (W : Wk p l e R s m args below meth c Z y bytes maxL ret T h ce sl sf) {x z : Int32} {o : Int} (hd : decode bytes pc = .ok (.if_icmp .gt o, 3)) (K1 : z < x → Go p e below G T (mkF m pt L S)) (K2 : ¬ z < x → Go p e below G T (mkF m pf L S)) (ho : 0 ≤ (pc : Int) + o := by decide) (hp : ((pc : Int) + o).toNat = pt := by decide) (hq : pc + 3 = pf := by rfl) : Go p e below G T (mkF m pc L (.int z :: .int x :: S)) := by
  subst hq
  obtain ⟨vm0, k0, locs, X, eT, hS, hk, hZ, hown, hF, hN, hC, hsf, hE, ⟨a1, hEL⟩, hx, hby, hml, hnm, hrt, hlk⟩ := W
  subst hby
  by_cases q : z < x
  · exact (K1 q).st fun u k => XS.icmpYes X.here hx rfl (pc0 := pc) rfl hd rfl (XT.ii_gt_t q) ho hp k
  · exact (K2 q).st fun u k => XS.icmpNo X.here hx rfl hd rfl (XT.ii_gt_f q) k
theorem o_icle (pt pf : Nat) (W : Wk p l e R s m args below meth c Z y bytes maxL ret T h ce sl sf) {x z : Int32} {o : Int} (hd : decode bytes pc = .ok (.if_icmp .le o, 3)) (K1 : ¬ z < x → Go p e below G T (mkF m pt L S)) (K2 : z < x → Go p e below G T (mkF m pf L S)) (ho : 0 ≤ (pc : Int) + o := by decide) (hp : ((pc : Int) + o).toNat = pt := by decide) (hq : pc + 3 = pf := by rfl) : Go p e below G T (mkF m pc L (.int z :: .int x :: S)) := by
  subst hq
  obtain ⟨vm0, k0, locs, X, eT, hS, hk, hZ, hown, hF, hN, hC, hsf, hE, ⟨a1, hEL⟩, hx, hby, hml, hnm, hrt, hlk⟩ := W
  subst hby
  by_cases q : z < x
  · exact (K2 q).st fun u k => XS.icmpNo X.here hx rfl hd rfl (XT.ii_le_f q) k
  · exact (K1 q).st fun u k => XS.icmpYes X.here hx rfl (pc0 := pc) rfl hd rfl (XT.ii_le_t q) ho hp k
theorem o_lceq (pt pf : Nat) (W : Wk p l e R s m args below meth c Z y bytes maxL ret T h ce sl sf) {x z : Int64} {o : Int} (hd : decode bytes pc = .ok (.ifCond .eq o, 3)) (K1 : x = z → Go p e below G T (mkF m pt L S)) (K2 : ¬ x = z → Go p e below G T (mkF m pf L S)) (ho : 0 ≤ (pc : Int) + o := by decide) (hp : ((pc : Int) + o).toNat = pt := by decide) (hq : pc + 3 = pf := by rfl) : Go p e below G T (mkF m pc L (.int (XT.cmpL x z) :: S)) := by
  subst hq
  obtain ⟨vm0, k0, locs, X, eT, hS, hk, hZ, hown, hF, hN, hC, hsf, hE, ⟨a1, hEL⟩, hx, hby, hml, hnm, hrt, hlk⟩ := W
  subst hby
  by_cases q : x = z
  · exact (K1 q).st fun u k => XS.ifYes X.here hx rfl (pc0 := pc) rfl hd rfl (XT.ll_eq_t q) ho hp k
  · exact (K2 q).st fun u k => XS.ifNo X.here hx rfl hd rfl (XT.ll_eq_f q) k
theorem o_lcne (pt pf : Nat) (W : Wk p l e R s m args below meth c Z y bytes maxL ret T h ce sl sf) {x z : Int64} {o : Int} (hd : decode bytes pc = .ok (.ifCond .ne o, 3)) (K1 : ¬ x = z → Go p e below G T (mkF m pt L S)) (K2 : x = z → Go p e below G T (mkF m pf L S)) (ho : 0 ≤ (pc : Int) + o := by decide) (hp : ((pc : Int) + o).toNat = pt := by decide) (hq : pc + 3 = pf := by rfl) : Go p e below G T (mkF m pc L (.int (XT.cmpL x z) :: S)) := by
  subst hq
  obtain ⟨vm0, k0, locs, X, eT, hS, hk, hZ, hown, hF, hN, hC, hsf, hE, ⟨a1, hEL⟩, hx, hby, hml, hnm, hrt, hlk⟩ := W
  subst hby
  by_cases q : x = z
  · exact (K2 q).st fun u k => XS.ifNo X.here hx rfl hd rfl (XT.ll_ne_f q) k
  · exact (K1 q).st fun u k => XS.ifYes X.here hx rfl (pc0 := pc) rfl hd rfl (XT.ll_ne_t q) ho hp k
theorem o_lclt (pt pf : Nat) (W : Wk p l e R s m args below meth c Z y bytes maxL ret T h ce sl sf) {x z : Int64} {o : Int} (hd : decode bytes pc = .ok (.ifCond .lt o, 3)) (K1 : x < z → Go p e below G T (mkF m pt L S)) (K2 : ¬ x < z → Go p e below G T (mkF m pf L S)) (ho : 0 ≤ (pc : Int) + o := by decide) (hp : ((pc : Int) + o).toNat = pt := by decide) (hq : pc + 3 = pf := by rfl) : Go p e below G T (mkF m pc L (.int (XT.cmpL x z) :: S)) := by
  subst hq
  obtain ⟨vm0, k0, locs, X, eT, hS, hk, hZ, hown, hF, hN, hC, hsf, hE, ⟨a1, hEL⟩, hx, hby, hml, hnm, hrt, hlk⟩ := W
  subst hby
  by_cases q : x < z
  · exact (K1 q).st fun u k => XS.ifYes X.here hx rfl (pc0 := pc) rfl hd rfl (XT.ll_lt_t q) ho hp k
  · exact (K2 q).st fun u k => XS.ifNo X.here hx rfl hd rfl (XT.ll_lt_f q) k
theorem o_lcge (pt pf : Nat) (W : Wk p l e R s m args below meth c Z y bytes maxL ret T h ce sl sf) {x z : Int64} {o : Int} (hd : decode bytes pc = .ok (.ifCond .ge o, 3)) (K1 : ¬ x < z → Go p e below G T (mkF m pt L S)) (K2 : x < z → Go p e below G T (mkF m pf L S)) (ho : 0 ≤ (pc : Int) + o := by decide) (hp : ((pc : Int) + o).toNat = pt := by decide) (hq : pc + 3 = pf := by rfl) : Go p e below G T (mkF m pc L (.int (XT.cmpL x z) :: S)) := by
  subst hq
  obtain ⟨vm0, k0, locs, X, eT, hS, hk, hZ, hown, hF, hN, hC, hsf, hE, ⟨a1, hEL⟩, hx, hby, hml, hnm, hrt, hlk⟩ := W
  subst hby
  by_cases q : x < z
  · exact (K2 q).st fun u k => XS.ifNo X.here hx rfl hd rfl (XT.ll_ge_f q) k
  · exact (K1 q).st fun u k => XS.ifYes X.here hx rfl (pc0 := pc) rfl hd rfl (XT.ll_ge_t q) ho hp k
theorem o_lcgt (pt pf : Nat) (W : Wk p l e R s m args below meth c Z y bytes maxL ret T h ce sl sf) {x z : Int64} {o : Int} (hd : decode bytes pc = .ok (.ifCond .gt o, 3)) (K1 : z < x → Go p e below G T (mkF m pt L S)) (K2 : ¬ z < x → Go p e below G T (mkF m pf L S)) (ho : 0 ≤ (pc : Int) + o := by decide) (hp : ((pc : Int) + o).toNat = pt := by decide) (hq : pc + 3 = pf := by rfl) : Go p e below G T (mkF m pc L (.int (XT.cmpL x z) :: S)) := by
  subst hq
  obtain ⟨vm0, k0, locs, X, eT, hS, hk, hZ, hown, hF, hN, hC, hsf, hE, ⟨a1, hEL⟩, hx, hby, hml, hnm, hrt, hlk⟩ := W
  subst hby
  by_cases q : z < x
  · exact (K1 q).st fun u k => XS.ifYes X.here hx rfl (pc0 := pc) rfl hd rfl (XT.ll_gt_t q) ho hp k
  · exact (K2 q).st fun u k => XS.ifNo X.here hx rfl hd rfl (XT.ll_gt_f q) k
theorem o_lcle (pt pf : Nat) (W : Wk p l e R s m args below meth c Z y bytes maxL ret T h ce sl sf) {x z : Int64} {o : Int} (hd : decode bytes pc = .ok (.ifCond .le o, 3)) (K1 : ¬ z < x → Go p e below G T (mkF m pt L S)) (K2 : z < x → Go p e below G T (mkF m pf L S)) (ho : 0 ≤ (pc : Int) + o := by decide) (hp : ((pc : Int) + o).toNat = pt := by decide) (hq : pc + 3 = pf := by rfl) : Go p e below G T (mkF m pc L (.int (XT.cmpL x z) :: S)) := by
  subst hq
  obtain ⟨vm0, k0, locs, X, eT, hS, hk, hZ, hown, hF, hN, hC, hsf, hE, ⟨a1, hEL⟩, hx, hby, hml, hnm, hrt, hlk⟩ := W
  subst hby
  by_cases q : z < x
  · exact (K2 q).st fun u k => XS.ifNo X.here hx rfl hd rfl (XT.ll_le_f q) k
  · exact (K1 q).st fun u k => XS.ifYes X.here hx rfl (pc0 := pc) rfl hd rfl (XT.ll_le_t q) ho hp k
theorem o_ifY (pc' : Nat) (W : Wk p l e R s m args below meth c Z y bytes maxL ret T h ce sl sf) {cd : ClassFile.Cond} {x : Int32} {o : Int} (hd : decode bytes pc = .ok (.ifCond cd o, 3)) (hc : ifCond.holds cd x = true) (K : Go p e below G T (mkF m pc' L (S))) (ho : 0 ≤ (pc : Int) + o := by decide) (hp : ((pc : Int) + o).toNat = pc' := by decide) : Go p e below G T (mkF m pc L (.int x :: S)) := by
  obtain ⟨vm0, k0, locs, X, eT, hS, hk, hZ, hown, hF, hN, hC, hsf, hE, ⟨a1, hEL⟩, hx, hby, hml, hnm, hrt, hlk⟩ := W
  subst hby
  exact K.st fun u k => XS.ifYes X.here hx rfl (pc0 := pc) rfl hd rfl hc ho hp k
theorem o_ifN (pc' : Nat) (W : Wk p l e R s m args below meth c Z y bytes maxL ret T h ce sl sf) {cd : ClassFile.Cond} {o : Int} {x : Int32} (hd : decode bytes pc = .ok (.ifCond cd o, 3)) (hc : ifCond.holds cd x = false) (K : Go p e below G T (mkF m pc' L (S))) (hp : pc + 3 = pc' := by rfl) : Go p e below G T (mkF m pc L (.int x :: S)) := by
  subst hp
  obtain ⟨vm0, k0, locs, X, eT, hS, hk, hZ, hown, hF, hN, hC, hsf, hE, ⟨a1, hEL⟩, hx, hby, hml, hnm, hrt, hlk⟩ := W
  subst hby
  exact K.st fun u k => XS.ifNo X.here hx rfl hd rfl hc k
theorem o_icY (pc' : Nat) (W : Wk p l e R s m args below meth c Z y bytes maxL ret T h ce sl sf) {cd : ClassFile.Cond} {x z : Int32} {o : Int} (hd : decode bytes pc = .ok (.if_icmp cd o, 3)) (hc : if_icmp.holds cd x z = true) (K : Go p e below G T (mkF m pc' L (S))) (ho : 0 ≤ (pc : Int) + o := by decide) (hp : ((pc : Int) + o).toNat = pc' := by decide) : Go p e below G T (mkF m pc L (.int z :: .int x :: S)) := by
  obtain ⟨vm0, k0, locs, X, eT, hS, hk, hZ, hown, hF, hN, hC, hsf, hE, ⟨a1, hEL⟩, hx, hby, hml, hnm, hrt, hlk⟩ := W
  subst hby
  exact K.st fun u k => XS.icmpYes X.here hx rfl (pc0 := pc) rfl hd rfl hc ho hp k
theorem o_icN (pc' : Nat) (W : Wk p l e R s m args below meth c Z y bytes maxL ret T h ce sl sf) {cd : ClassFile.Cond} {o : Int} {x z : Int32} (hd : decode bytes pc = .ok (.if_icmp cd o, 3)) (hc : if_icmp.holds cd x z = false) (K : Go p e below G T (mkF m pc' L (S))) (hp : pc + 3 = pc' := by rfl) : Go p e below G T (mkF m pc L (.int z :: .int x :: S)) := by
  subst hp
  obtain ⟨vm0, k0, locs, X, eT, hS, hk, hZ, hown, hF, hN, hC, hsf, hE, ⟨a1, hEL⟩, hx, hby, hml, hnm, hrt, hlk⟩ := W
  subst hby
  exact K.st fun u k => XS.icmpNo X.here hx rfl hd rfl hc k
theorem o_nullY (pc' : Nat) (W : Wk p l e R s m args below meth c Z y bytes maxL ret T h ce sl sf)  {o : Int} (hd : decode bytes pc = .ok (.ifnull o, 3))  (K : Go p e below G T (mkF m pc' L (S))) (ho : 0 ≤ (pc : Int) + o := by decide) (hp : ((pc : Int) + o).toNat = pc' := by decide) : Go p e below G T (mkF m pc L (.null :: S)) := by
  obtain ⟨vm0, k0, locs, X, eT, hS, hk, hZ, hown, hF, hN, hC, hsf, hE, ⟨a1, hEL⟩, hx, hby, hml, hnm, hrt, hlk⟩ := W
  subst hby
  exact K.st fun u k => XS.ifnullYes X.here hx rfl (pc0 := pc) rfl hd rfl ho hp k
theorem o_nullN (pc' : Nat) (W : Wk p l e R s m args below meth c Z y bytes maxL ret T h ce sl sf) {o : Int} {a : Addr} (hd : decode bytes pc = .ok (.ifnull o, 3))  (K : Go p e below G T (mkF m pc' L (S))) (hp : pc + 3 = pc' := by rfl) : Go p e below G T (mkF m pc L (.ref a :: S)) := by
  subst hp
  obtain ⟨vm0, k0, locs, X, eT, hS, hk, hZ, hown, hF, hN, hC, hsf, hE, ⟨a1, hEL⟩, hx, hby, hml, hnm, hrt, hlk⟩ := W
  subst hby
  exact K.st fun u k => XS.ifnullNo X.here hx rfl hd rfl k
theorem o_nnY (pc' : Nat) (W : Wk p l e R s m args below meth c Z y bytes maxL ret T h ce sl sf) {a : Addr} {o : Int} (hd : decode bytes pc = .ok (.ifnonnull o, 3))  (K : Go p e below G T (mkF m pc' L (S))) (ho : 0 ≤ (pc : Int) + o := by decide) (hp : ((pc : Int) + o).toNat = pc' := by decide) : Go p e below G T (mkF m pc L (.ref a :: S)) := by
  obtain ⟨vm0, k0, locs, X, eT, hS, hk, hZ, hown, hF, hN, hC, hsf, hE, ⟨a1, hEL⟩, hx, hby, hml, hnm, hrt, hlk⟩ := W
  subst hby
  exact K.st fun u k => XT.ifnonnullYes X.here hx rfl (pc0 := pc) rfl hd rfl ho hp k
theorem o_nnN (pc' : Nat) (W : Wk p l e R s m args below meth c Z y bytes maxL ret T h ce sl sf) {o : Int} (hd : decode bytes pc = .ok (.ifnonnull o, 3))  (K : Go p e below G T (mkF m pc' L (S))) (hp : pc + 3 = pc' := by rfl) : Go p e below G T (mkF m pc L (.null :: S)) := by
  subst hp
  obtain ⟨vm0, k0, locs, X, eT, hS, hk, hZ, hown, hF, hN, hC, hsf, hE, ⟨a1, hEL⟩, hx, hby, hml, hnm, hrt, hlk⟩ := W
  subst hby
  exact K.st fun u k => XT.ifnonnullNo X.here hx rfl hd rfl k
theorem o_aceq (pt pf : Nat) (W : Wk p l e R s m args below meth c Z y bytes maxL ret T h ce sl sf) {x z : Value} (h1 : x.isRef = true) (h2 : z.isRef = true) {o : Int} (hd : decode bytes pc = .ok (.if_acmp .eq o, 3)) (K1 : x = z → Go p e below G T (mkF m pt L S)) (K2 : ¬ x = z → Go p e below G T (mkF m pf L S)) (ho : 0 ≤ (pc : Int) + o := by decide) (hp : ((pc : Int) + o).toNat = pt := by decide) (hq : pc + 3 = pf := by rfl) : Go p e below G T (mkF m pc L (z :: x :: S)) := by
  subst hq hp
  obtain ⟨vm0, k0, locs, X, eT, hS, hk, hZ, hown, hF, hN, hC, hsf, hE, ⟨a1, hEL⟩, hx, hby, hml, hnm, hrt, hlk⟩ := W
  subst hby
  by_cases q : x = z
  · exact (K1 q).st fun u k => acmp X hx (g := mkF m pc L (z :: x :: S)) rfl h1 h2 (same := true) rfl hd rfl (by simp [q]) ho (by rfl) k
  · exact (K2 q).st fun u k => acmp X hx (g := mkF m pc L (z :: x :: S)) rfl h1 h2 (same := false) rfl hd rfl (by simp [q]) ho (by rfl) k
theorem o_acne (pt pf : Nat) (W : Wk p l e R s m args below meth c Z y bytes maxL ret T h ce sl sf) {x z : Value} (h1 : x.isRef = true) (h2 : z.isRef = true) {o : Int} (hd : decode bytes pc = .ok (.if_acmp .ne o, 3)) (K1 : ¬ x = z → Go p e below G T (mkF m pt L S)) (K2 : x = z → Go p e below G T (mkF m pf L S)) (ho : 0 ≤ (pc : Int) + o := by decide) (hp : ((pc : Int) + o).toNat = pt := by decide) (hq : pc + 3 = pf := by rfl) : Go p e below G T (mkF m pc L (z :: x :: S)) := by
  subst hq hp
  obtain ⟨vm0, k0, locs, X, eT, hS, hk, hZ, hown, hF, hN, hC, hsf, hE, ⟨a1, hEL⟩, hx, hby, hml, hnm, hrt, hlk⟩ := W
  subst hby
  by_cases q : x = z
  · exact (K2 q).st fun u k => acmp X hx (g := mkF m pc L (z :: x :: S)) rfl h1 h2 (same := true) rfl hd rfl (by simp [q]) ho (by rfl) k
  · exact (K1 q).st fun u k => acmp X hx (g := mkF m pc L (z :: x :: S)) rfl h1 h2 (same := false) rfl hd rfl (by simp [q]) ho (by rfl) k
theorem o_ldcI (pc' : Nat) (W : Wk p l e R s m args below meth c Z y bytes maxL ret T h ce sl sf) {i : Nat} {v : Int32} (w : (Jvm.Cond.constant y.cls i v).before a0 Z = true) (hd : decode bytes pc = .ok (.ldc i, 2)) (K : Go p e below G T (mkF m pc' L (.int v :: S))) (hp : pc + 2 = pc' := by rfl) : Go p e below G T (mkF m pc L S) := by
  subst hp
  obtain ⟨vm0, k0, locs, X, eT, hS, hk, hZ, hown, hF, hN, hC, hsf, hE, ⟨a1, hEL⟩, hx, hby, hml, hnm, hrt, hlk⟩ := W
  subst hby
  exact K.st fun u k => X.ldcI hx hown (mv hZ w) (g := mkF m pc L S) rfl hd k
theorem o_ldc2J (pc' : Nat) (W : Wk p l e R s m args below meth c Z y bytes maxL ret T h ce sl sf) {i : Nat} {v : Int64} (w : (Jvm.Cond.constantLong y.cls i v).before a0 Z = true) (hd : decode bytes pc = .ok (.ldc2_w i, 3)) (K : Go p e below G T (mkF m pc' L (.long v :: S))) (hp : pc + 3 = pc' := by rfl) : Go p e below G T (mkF m pc L S) := by
  subst hp
  obtain ⟨vm0, k0, locs, X, eT, hS, hk, hZ, hown, hF, hN, hC, hsf, hE, ⟨a1, hEL⟩, hx, hby, hml, hnm, hrt, hlk⟩ := W
  subst hby
  exact K.st fun u k => X.ldc2J hx hown (mv hZ w) (g := mkF m pc L S) rfl hd k
theorem o_getF (pc' : Nat) (W : Wk p l e R s m args below meth c Z y bytes maxL ret T h ce sl sf) {i : Nat} {R0 O n d : String} {a : Addr} {v : Value} (w : (Jvm.Cond.fieldLink y.cls i R0 n d).before a0 Z = true) (F : Fld Z h a O n d v) (hd : decode bytes pc = .ok (.getfield i, 3)) (K : ∀ T', Wk p l e R s m args below meth c Z y bytes maxL ret T' h ce sl sf → Go p e below G T' (mkF m pc' L (v :: S))) (via : Via Z R0 O n d := by exact Via.refl) (hp : pc + 3 = pc' := by rfl) : Go p e below G T (mkF m pc L (.ref a :: S)) := by
  subst hp
  obtain ⟨vm0, k0, locs, X, eT, hS, hk, hZ, hown, hF, hN, hC, hsf, hE, ⟨a1, hEL⟩, hx, hby, hml, hnm, hrt, hlk⟩ := W
  subst hby
  obtain ⟨T', X', e', st⟩ := getF X hx hZ hown (host := "") (Or.inl w) via eT F (g := mkF m pc L (.ref a :: S)) rfl rfl hd
  exact (K T' ⟨vm0, k0, locs, X', e', hS, hk, hZ, hown, hF, hN, hC, hsf, hE, ⟨a1, hEL⟩, hx, rfl, hml, hnm, hrt, hlk⟩).st st
theorem o_getS (pc' : Nat) (W : Wk p l e R s m args below meth c Z y bytes maxL ret T h ce sl sf) {i : Nat} {R0 O n d : String} {v : Value} (w : (Jvm.Cond.fieldLink y.cls i R0 n d).before a0 Z = true) (F : Sta Z Z.heap O n d v) (hd : decode bytes pc = .ok (.getstatic i, 3)) (K : ∀ T', Wk p l e R s m args below meth c Z y bytes maxL ret T' h ce sl sf → Go p e below G T' (mkF m pc' L (v :: S))) (via : Via Z R0 O n d := by exact Via.refl) (hp : pc + 3 = pc' := by rfl) : Go p e below G T (mkF m pc L S) := by
  subst hp
  obtain ⟨vm0, k0, locs, X, eT, hS, hk, hZ, hown, hF, hN, hC, hsf, hE, ⟨a1, hEL⟩, hx, hby, hml, hnm, hrt, hlk⟩ := W
  subst hby
  obtain ⟨T', X', e', st⟩ := getS X hx hZ hown w via eT (Sta.ext hE F) (g := mkF m pc L S) rfl hd (host := "")
  exact (K T' ⟨vm0, k0, locs, X', e', hS, hk, hZ, hown, hF, hN, hC, hsf, hE, ⟨a1, hEL⟩, hx, rfl, hml, hnm, hrt, hlk⟩).st st
theorem o_cast (pc' : Nat) (W : Wk p l e R s m args below meth c Z y bytes maxL ret T h ce sl sf) {i : Nat} {K0 : String} {a : Addr} (w : (Jvm.Cond.classLink y.cls i K0).before a0 Z = true) (F : Ins Z h a K0 true) (hd : decode bytes pc = .ok (.checkcast i, 3)) (K : ∀ T', Wk p l e R s m args below meth c Z y bytes maxL ret T' h ce sl sf → Go p e below G T' (mkF m pc' L (.ref a :: S))) (hp : pc + 3 = pc' := by rfl) : Go p e below G T (mkF m pc L (.ref a :: S)) := by
  subst hp
  obtain ⟨vm0, k0, locs, X, eT, hS, hk, hZ, hown, hF, hN, hC, hsf, hE, ⟨a1, hEL⟩, hx, hby, hml, hnm, hrt, hlk⟩ := W
  subst hby
  obtain ⟨T', X', e', st⟩ := castY X hx hZ hown w eT F (g := mkF m pc L (.ref a :: S)) rfl rfl hd
  exact (K T' ⟨vm0, k0, locs, X', e', hS, hk, hZ, hown, hF, hN, hC, hsf, hE, ⟨a1, hEL⟩, hx, rfl, hml, hnm, hrt, hlk⟩).st st
theorem o_instY (pc' : Nat) (W : Wk p l e R s m args below meth c Z y bytes maxL ret T h ce sl sf) {i : Nat} {K0 : String} {a : Addr} (w : (Jvm.Cond.classLink y.cls i K0).before a0 Z = true) (F : Ins Z h a K0 true) (hd : decode bytes pc = .ok (.instanceof i, 3)) (K : ∀ T', Wk p l e R s m args below meth c Z y bytes maxL ret T' h ce sl sf → Go p e below G T' (mkF m pc' L (.int 1 :: S))) (hp : pc + 3 = pc' := by rfl) : Go p e below G T (mkF m pc L (.ref a :: S)) := by
  subst hp
  obtain ⟨vm0, k0, locs, X, eT, hS, hk, hZ, hown, hF, hN, hC, hsf, hE, ⟨a1, hEL⟩, hx, hby, hml, hnm, hrt, hlk⟩ := W
  subst hby
  obtain ⟨T', X', e', st⟩ := instY X hx hZ hown w eT F (g := mkF m pc L (.ref a :: S)) rfl rfl hd
  exact (K T' ⟨vm0, k0, locs, X', e', hS, hk, hZ, hown, hF, hN, hC, hsf, hE, ⟨a1, hEL⟩, hx, rfl, hml, hnm, hrt, hlk⟩).st st
theorem o_instN (pc' : Nat) (W : Wk p l e R s m args below meth c Z y bytes maxL ret T h ce sl sf) {i : Nat} {K0 C : String} {a : Addr} (w : (Jvm.Cond.classLink y.cls i K0).before a0 Z = true) (E : Exa Z h a C) (F : ∃ c t, Z.vm.findClass C = some c ∧ Z.vm.findClass K0 = some t ∧ Z.vm.assignable c t = false) (hd : decode bytes pc = .ok (.instanceof i, 3)) (K : ∀ T', Wk p l e R s m args below meth c Z y bytes maxL ret T' h ce sl sf → Go p e below G T' (mkF m pc' L (.int 0 :: S))) (hp : pc + 3 = pc' := by rfl) : Go p e below G T (mkF m pc L (.ref a :: S)) := by
  subst hp
  obtain ⟨vm0, k0, locs, X, eT, hS, hk, hZ, hown, hF, hN, hC, hsf, hE, ⟨a1, hEL⟩, hx, hby, hml, hnm, hrt, hlk⟩ := W
  subst hby
  obtain ⟨T', X', e', st⟩ := instNo X hx hZ hown w eT E F (g := mkF m pc L (.ref a :: S)) rfl rfl hd
  exact (K T' ⟨vm0, k0, locs, X', e', hS, hk, hZ, hown, hF, hN, hC, hsf, hE, ⟨a1, hEL⟩, hx, rfl, hml, hnm, hrt, hlk⟩).st st
theorem o_instNull (pc' : Nat) (W : Wk p l e R s m args below meth c Z y bytes maxL ret T h ce sl sf) {i : Nat} (hd : decode bytes pc = .ok (.instanceof i, 3)) (K : Go p e below G T (mkF m pc' L (.int 0 :: S))) (hp : pc + 3 = pc' := by rfl) : Go p e below G T (mkF m pc L (.null :: S)) := by
  subst hp
  obtain ⟨vm0, k0, locs, X, eT, hS, hk, hZ, hown, hF, hN, hC, hsf, hE, ⟨a1, hEL⟩, hx, hby, hml, hnm, hrt, hlk⟩ := W
  subst hby
  exact K.st fun u k => X.instanceofNull hx (g := mkF m pc L (.null :: S)) rfl rfl hd u k
theorem o_castNull (pc' : Nat) (W : Wk p l e R s m args below meth c Z y bytes maxL ret T h ce sl sf) {i : Nat} (hd : decode bytes pc = .ok (.checkcast i, 3)) (K : Go p e below G T (mkF m pc' L (.null :: S))) (hp : pc + 3 = pc' := by rfl) : Go p e below G T (mkF m pc L (.null :: S)) := by
  subst hp
  obtain ⟨vm0, k0, locs, X, eT, hS, hk, hZ, hown, hF, hN, hC, hsf, hE, ⟨a1, hEL⟩, hx, hby, hml, hnm, hrt, hlk⟩ := W
  subst hby
  exact K.st fun u k => X.checkcastNull hx (g := mkF m pc L (.null :: S)) rfl rfl hd u k
theorem o_iaload (pc' : Nat) (W : Wk p l e R s m args below meth c Z y bytes maxL ret T h ce sl sf) {a : Addr} {cl : Cell} {j : Int32} {v : Value} (A : Arr Z h a cl .int) (hj : ¬ (j < 0 ∨ cl.slots.size ≤ j.toNatClampNeg)) (hv : cl.slots[j.toNatClampNeg]? = some v) (hd : decode bytes pc = .ok (.iaload, 1)) (K : Go p e below G T (mkF m pc' L (v :: S))) (hp : pc + 1 = pc' := by rfl) : Go p e below G T (mkF m pc L (.int j :: .ref a :: S)) := by
  subst hp
  obtain ⟨vm0, k0, locs, X, eT, hS, hk, hZ, hown, hF, hN, hC, hsf, hE, ⟨a1, hEL⟩, hx, hby, hml, hnm, hrt, hlk⟩ := W
  subst hby
  exact K.st fun u k => X.iaload hx (by rw [eT]; exact A.1) (State.isArrayOf_alike hZ.alike A.2.1) A.2.2 hj hv (g := mkF m pc L (.int j :: .ref a :: S)) rfl rfl hd u k
theorem o_caload (pc' : Nat) (W : Wk p l e R s m args below meth c Z y bytes maxL ret T h ce sl sf) {a : Addr} {cl : Cell} {j : Int32} {v : Value} (A : Arr Z h a cl .char) (hj : ¬ (j < 0 ∨ cl.slots.size ≤ j.toNatClampNeg)) (hv : cl.slots[j.toNatClampNeg]? = some v) (hd : decode bytes pc = .ok (.caload, 1)) (K : Go p e below G T (mkF m pc' L (v :: S))) (hp : pc + 1 = pc' := by rfl) : Go p e below G T (mkF m pc L (.int j :: .ref a :: S)) := by
  subst hp
  obtain ⟨vm0, k0, locs, X, eT, hS, hk, hZ, hown, hF, hN, hC, hsf, hE, ⟨a1, hEL⟩, hx, hby, hml, hnm, hrt, hlk⟩ := W
  subst hby
  exact K.st fun u k => X.caload hx (by rw [eT]; exact A.1) (State.isArrayOf_alike hZ.alike A.2.1) A.2.2 hj hv (g := mkF m pc L (.int j :: .ref a :: S)) rfl rfl hd u k
theorem o_baload (pc' : Nat) (W : Wk p l e R s m args below meth c Z y bytes maxL ret T h ce sl sf) {a : Addr} {cl : Cell} {j : Int32} {v : Value} (A : Arr Z h a cl .byte) (hj : ¬ (j < 0 ∨ cl.slots.size ≤ j.toNatClampNeg)) (hv : cl.slots[j.toNatClampNeg]? = some v) (hd : decode bytes pc = .ok (.baload, 1)) (K : Go p e below G T (mkF m pc' L (v :: S))) (hp : pc + 1 = pc' := by rfl) : Go p e below G T (mkF m pc L (.int j :: .ref a :: S)) := by
  subst hp
  obtain ⟨vm0, k0, locs, X, eT, hS, hk, hZ, hown, hF, hN, hC, hsf, hE, ⟨a1, hEL⟩, hx, hby, hml, hnm, hrt, hlk⟩ := W
  subst hby
  exact K.st fun u k => X.baloadBytes hx (by rw [eT]; exact A.1) (State.isArrayOf_alike hZ.alike A.2.1) A.2.2 hj hv (g := mkF m pc L (.int j :: .ref a :: S)) rfl rfl hd u k
theorem o_laload (pc' : Nat) (W : Wk p l e R s m args below meth c Z y bytes maxL ret T h ce sl sf) {a : Addr} {cl : Cell} {j : Int32} {v : Value} (A : Arr Z h a cl .long) (hj : ¬ (j < 0 ∨ cl.slots.size ≤ j.toNatClampNeg)) (hv : cl.slots[j.toNatClampNeg]? = some v) (hd : decode bytes pc = .ok (.laload, 1)) (K : Go p e below G T (mkF m pc' L (v :: S))) (hp : pc + 1 = pc' := by rfl) : Go p e below G T (mkF m pc L (.int j :: .ref a :: S)) := by
  subst hp
  obtain ⟨vm0, k0, locs, X, eT, hS, hk, hZ, hown, hF, hN, hC, hsf, hE, ⟨a1, hEL⟩, hx, hby, hml, hnm, hrt, hlk⟩ := W
  subst hby
  exact K.st fun u k => X.laload hx (by rw [eT]; exact A.1) (State.isArrayOf_alike hZ.alike A.2.1) A.2.2 hj hv (g := mkF m pc L (.int j :: .ref a :: S)) rfl rfl hd u k
theorem o_aaload (pc' : Nat) (W : Wk p l e R s m args below meth c Z y bytes maxL ret T h ce sl sf) {a : Addr} {cl : Cell} {j : Int32} {v : Value} {ty : FieldType} (A : Arr Z h a cl ty) (hty : ty.isReference = true) (hj : ¬ (j < 0 ∨ cl.slots.size ≤ j.toNatClampNeg)) (hv : cl.slots[j.toNatClampNeg]? = some v) (hd : decode bytes pc = .ok (.aaload, 1)) (K : Go p e below G T (mkF m pc' L (v :: S))) (hp : pc + 1 = pc' := by rfl) : Go p e below G T (mkF m pc L (.int j :: .ref a :: S)) := by
  subst hp
  obtain ⟨vm0, k0, locs, X, eT, hS, hk, hZ, hown, hF, hN, hC, hsf, hE, ⟨a1, hEL⟩, hx, hby, hml, hnm, hrt, hlk⟩ := W
  subst hby
  exact K.st fun u k => X.aaload hx (by rw [eT]; exact A.1) (State.isArrayOf_alike hZ.alike A.2.1) hty A.2.2 hj hv (g := mkF m pc L (.int j :: .ref a :: S)) rfl rfl hd u k
theorem o_alen (pc' : Nat) (W : Wk p l e R s m args below meth c Z y bytes maxL ret T h ce sl sf) {a : Addr} {cl : Cell} {ty : FieldType} (n : Int32) (A : Arr Z h a cl ty) (hn : cl.slots.size.toInt32 = n) (hd : decode bytes pc = .ok (.arraylength, 1)) (K : Go p e below G T (mkF m pc' L (.int n :: S))) (hp : pc + 1 = pc' := by rfl) : Go p e below G T (mkF m pc L (.ref a :: S)) := by
  subst hp hn
  obtain ⟨vm0, k0, locs, X, eT, hS, hk, hZ, hown, hF, hN, hC, hsf, hE, ⟨a1, hEL⟩, hx, hby, hml, hnm, hrt, hlk⟩ := W
  subst hby
  exact K.st fun u k => X.arraylength hx (by rw [eT]; exact A.1) (State.isArrayOf_alike hZ.alike A.2.1) (g := mkF m pc L (.ref a :: S)) rfl rfl hd u k
theorem o_ialoadV (pc' : Nat) (W : Wk p l e R s m args below meth c Z y bytes maxL ret T h ce sl sf) {a : Addr} {k : ClassId} {z j : Int32} {vs : List Value} {dv v : Value} (A : Arv Z h a k .int z vs dv) (hj : ¬ j < 0 ∧ j < z) (hv : vs.getD j.toNatClampNeg dv = v) (hd : decode bytes pc = .ok (.iaload, 1)) (K : Go p e below G T (mkF m pc' L (v :: S))) (hp : pc + 1 = pc' := by rfl) : Go p e below G T (mkF m pc L (.int j :: .ref a :: S)) := by
  obtain ⟨cl, A1, A2, A3, A4, A5, A6⟩ := A
  exact o_iaload pc' W A1 (inb_of A3 hj) (Has.at A5 (inb_of A3 hj) hv) hd K hp
theorem o_caloadV (pc' : Nat) (W : Wk p l e R s m args below meth c Z y bytes maxL ret T h ce sl sf) {a : Addr} {k : ClassId} {z j : Int32} {vs : List Value} {dv v : Value} (A : Arv Z h a k .char z vs dv) (hj : ¬ j < 0 ∧ j < z) (hv : vs.getD j.toNatClampNeg dv = v) (hd : decode bytes pc = .ok (.caload, 1)) (K : Go p e below G T (mkF m pc' L (v :: S))) (hp : pc + 1 = pc' := by rfl) : Go p e below G T (mkF m pc L (.int j :: .ref a :: S)) := by
  obtain ⟨cl, A1, A2, A3, A4, A5, A6⟩ := A
  exact o_caload pc' W A1 (inb_of A3 hj) (Has.at A5 (inb_of A3 hj) hv) hd K hp
theorem o_baloadV (pc' : Nat) (W : Wk p l e R s m args below meth c Z y bytes maxL ret T h ce sl sf) {a : Addr} {k : ClassId} {z j : Int32} {vs : List Value} {dv v : Value} (A : Arv Z h a k .byte z vs dv) (hj : ¬ j < 0 ∧ j < z) (hv : vs.getD j.toNatClampNeg dv = v) (hd : decode bytes pc = .ok (.baload, 1)) (K : Go p e below G T (mkF m pc' L (v :: S))) (hp : pc + 1 = pc' := by rfl) : Go p e below G T (mkF m pc L (.int j :: .ref a :: S)) := by
  obtain ⟨cl, A1, A2, A3, A4, A5, A6⟩ := A
  exact o_baload pc' W A1 (inb_of A3 hj) (Has.at A5 (inb_of A3 hj) hv) hd K hp
theorem o_alenV (pc' : Nat) (W : Wk p l e R s m args below meth c Z y bytes maxL ret T h ce sl sf) {a : Addr} {k : ClassId} {z : Int32} {ty : FieldType} {vs : List Value} {dv : Value} (A : Arv Z h a k ty z vs dv) (hd : decode bytes pc = .ok (.arraylength, 1)) (K : Go p e below G T (mkF m pc' L (.int z :: S))) (hp : pc + 1 = pc' := by rfl) : Go p e below G T (mkF m pc L (.ref a :: S)) := by
  obtain ⟨cl, A1, A2, A3, A4, A5, A6⟩ := A
  exact o_alen pc' W z A1 (len_of A3 A4) hd K hp
theorem o_new (pc' : Nat) (W : Wk p l e R s m args below meth c Z y bytes maxL ret T h ce sl sf) {C : String} {i n : Nat} (w : (Jvm.Cond.classLink y.cls i C).before a0 Z = true) (wi : (Jvm.Cond.instantiable C n).before a0 Z = true) (wz : (Jvm.Cond.initialized C).before a0 Z = true) (hd : decode bytes pc = .ok (.new i, 3))
    (K : ∀ T' h' a, Wk p l e R s m args below meth c Z y bytes maxL ret T' h' (ce + 1) (sl + n) (a :: sf) → Ext h h' → Exa Z h' a C → (∀ {O nm d : String} {ty : FieldType}, Laid Z a0 C O nm d → parseFieldDescriptor d = some ty → Fld Z h' a O nm d (defaultValue ty)) → h.size ≤ a → Z.heap.size ≤ a → Go p e below G T' (mkF m pc' L (.ref a :: S)))
    (hc : ce + 1 ≤ R.cells := by decide) (hs : sl + n ≤ R.slots := by decide) (hp : pc + 3 = pc' := by rfl) : Go p e below G T (mkF m pc L S) := by
  subst hp
  obtain ⟨vm0, k0, locs, X, eT, hS, hk, hZ, hown, hF, hN, hC, hsf, hE, ⟨a1, hEL⟩, hx, hby, hml, hnm, hrt, hlk⟩ := W
  subst hby
  obtain ⟨T', h', X', e', E, A, D, -, st⟩ := newO X hx hZ hown w wi wz eT (g := mkF m pc L S) rfl hd hc hs
  refine (K T' h' h.size ⟨vm0, k0, locs, X', e', hS, Nat.le_trans hk E.1, hZ, hown, hF, hN, hC.trans (CHr.ext E hC.1), fun x q => ?_, own_ext_trans hE E, ⟨a1, hEL⟩, hx, rfl, hml, hnm, hrt, hlk⟩ E A D (Nat.le_refl _) hE.1).st st
  rcases List.mem_cons.mp q with rfl | q
  · exact ⟨A.lt, Safe.ext E hC.1 (Safe.new (Nat.le_refl _))⟩
  · exact ⟨Nat.lt_of_lt_of_le (hsf x q).1 E.1, Safe.ext E hC.1 (hsf x q).2⟩
theorem own_pad {a : Addr} {k : ClassId} {ty : FieldType} {z : Int32} {dv : Value} (n : Nat) (A : Arv Z h a k ty z [] dv) : Arv Z h a k ty z (List.replicate n dv) dv := A.pad fun i => by
  rw [List.getD_eq_getElem?_getD, List.getElem?_replicate]; split <;> simp
theorem o_newarray (pc' : Nat) (cap : Nat) (W : Wk p l e R s m args below meth c Z y bytes maxL ret T h ce sl sf) {aty : ArrayType} {n : Int32} (w : (Jvm.Cond.arrayClass (newarray.typeOf aty)).before a0 Z = true) (hd : decode bytes pc = .ok (.newarray aty, 2)) (hn : ¬ n < 0) (hcap : n.toNatClampNeg ≤ cap)
    (K : ∀ T' h' a k, Wk p l e R s m args below meth c Z y bytes maxL ret T' h' (ce + 1) (sl + cap) (a :: sf) → Ext h h' → Arv Z h' a k (newarray.typeOf aty) n [] (defaultValue (newarray.typeOf aty)) → h.size ≤ a → Z.heap.size ≤ a → Go p e below G T' (mkF m pc' L (.ref a :: S)))
    (hb : cap * 8 ≤ 536870912 := by decide) (hc : ce + 1 ≤ R.cells := by decide) (hs : sl + cap ≤ R.slots := by decide) (hp : pc + 2 = pc' := by rfl) : Go p e below G T (mkF m pc L (.int n :: S)) := by
  subst hp
  obtain ⟨vm0, k0, locs, X, eT, hS, hk, hZ, hown, hF, hN, hC, hsf, hE, ⟨a1, hEL⟩, hx, hby, hml, hnm, hrt, hlk⟩ := W
  subst hby
  obtain ⟨T', h', cA, X', e', E, A, st⟩ := newP X hx hZ w eT (g := mkF m pc L (.int n :: S)) rfl hd rfl hn hcap hb hc hs
  refine (K T' h' h.size cA ⟨vm0, k0, locs, X', e', hS, Nat.le_trans hk E.1, hZ, hown, hF, hN, hC.trans (CHr.ext E hC.1), fun x q => ?_, own_ext_trans hE E, ⟨a1, hEL⟩, hx, rfl, hml, hnm, hrt, hlk⟩ E (Arv.new A hn) (Nat.le_refl _) hE.1).st st
  rcases List.mem_cons.mp q with rfl | q
  · exact ⟨A.lt, Safe.ext E hC.1 (Safe.new (Nat.le_refl _))⟩
  · exact ⟨Nat.lt_of_lt_of_le (hsf x q).1 E.1, Safe.ext E hC.1 (hsf x q).2⟩
theorem o_putF (pc' : Nat) (W : Wk p l e R s m args below meth c Z y bytes maxL ret T h ce sl sf) {i kk : Nat} {R0 O n d C : String} {ty : FieldType} {a : Addr} {v old : Value} (w : (Jvm.Cond.fieldLink y.cls i R0 n d).before a0 Z = true) (F : Fld Z h a O n d old) (E : Exa Z h a C) (Lz : (Jvm.Cond.lays C O n d).before a0 Z = true ∨ ((Jvm.Cond.laysFinal C O n d).before a0 Z = true ∧ y.cls = O ∧ y.name = "<init>")) (wi : (Jvm.Cond.instantiable C kk).before a0 Z = true) (hty : parseFieldDescriptor d = some ty) (hn : narrow ty v = v) (hf : fits ty v = true) (hsafe : a ∈ sf ∨ (C ≠ "java/lang/String" ∧ C ≠ "[B")) (ha : Z.heap.size ≤ a) (hd : decode bytes pc = .ok (.putfield i, 3))
    (K : ∀ T' h', Wk p l e R s m args below meth c Z y bytes maxL ret T' h' ce sl sf → Wr h h' a (Jvm.RoadKit.slotOf Z O n d) v → Go p e below G T' (mkF m pc' L S)) (via : Via Z R0 O n d := by exact Via.refl) (hp : pc + 3 = pc' := by rfl) : Go p e below G T (mkF m pc L (v :: .ref a :: S)) := by
  subst hp
  obtain ⟨vm0, k0, locs, X, eT, hS, hk, hZ, hown, hF, hN, hC, hsf, hE, ⟨a1, hEL⟩, hx, hby, hml, hnm, hrt, hlk⟩ := W
  subst hby
  have hsa : Safe Z own_EL vm0 h a := hsafe.elim (fun q => (hsf a q).2) fun q => Safe.exa hZ.alike E q.1 q.2
  obtain ⟨T', h', X', e', Wr0, st⟩ := putF X hx hZ hown (host := "") (Or.inl w) via eT F E (Lz.imp id fun q => ⟨q.1, q.2.1, hnm.trans q.2.2⟩) wi hty hn hf (g := mkF m pc L (v :: .ref a :: S)) rfl rfl hd
  exact (K T' h' ⟨vm0, k0, _, X', e', hS, Nat.le_trans hk (Nat.le_of_eq Wr0.size.symm), hZ, hown, Fr.snoc X' hF ha, hN, hC.trans (CHr.wr Wr0 hsa hC.1), fun x q => ⟨Nat.lt_of_lt_of_le (hsf x q).1 (Nat.le_of_eq Wr0.size.symm), Safe.wr Wr0 hsa hC.1 (hsf x q).2⟩, own_ext_wr hE Wr0 ha, ⟨a1, hEL⟩, hx, rfl, hml, hnm, hrt, hlk⟩ Wr0).st st
theorem o_initO (pc' : Nat) (W : Wk p l e R s m args below meth c Z y bytes maxL ret T h ce sl sf) {i : Nat} {a : Addr} (w1 : (Jvm.Cond.methodLink y.cls i Lib.objectInit).before a0 Z = true) (w2 : (Jvm.Cond.instanceMethod Lib.objectInit).before a0 Z = true) (w3 : (Jvm.Cond.code Lib.objectInit ⟨#[0xb1]⟩ 1 none).before a0 Z = true) (hd : decode bytes pc = .ok (.invokespecial i, 3)) (K : ∀ T', Wk p l e R s m args below meth c Z y bytes maxL ret T' h ce sl sf → Go p e below G T' (mkF m pc' L S)) (hsz : L.size = maxL := by rfl) (hf : 1 ≤ R.frames := by decide) (hl : (S.map fun v => v.category).sum + 12 ≤ R.locals := by first | decide | exact Nat.le_of_ble_eq_true rfl) (hp : pc + 3 = pc' := by rfl) : Go p e below G T (mkF m pc L (.ref a :: S)) := by
  subst hp
  obtain ⟨vm0, k0, locs, X, eT, hS, hk, hZ, hown, hF, hN, hC, hsf, hE, ⟨a1, hEL⟩, hx, hby, hml, hnm, hrt, hlk⟩ := W
  subst hby
  obtain ⟨T', X', e', st⟩ := initO X hx hZ hown w1 w2 w3 eT (g := mkF m pc L (.ref a :: S)) rfl (by rw [hml]; exact hsz) rfl hd hf (W := (S.map fun v => v.category).sum) (by show 2 * 0 + _ ≤ _; omega) hl
  exact (K T' ⟨vm0, k0, locs, X', e', hS, hk, hZ, hown, hF, hN, hC, hsf, hE, ⟨a1, hEL⟩, hx, rfl, hml, hnm, hrt, hlk⟩).st st
theorem o_castore (pc' : Nat) (i : Nat) (W : Wk p l e R s m args below meth c Z y bytes maxL ret T h ce sl sf) {a : Addr} {k : ClassId} {z j x : Int32} {vs : List Value} {dv : Value} (A : Arv Z h a k .char z vs dv) (hj : ¬ j < 0 ∧ j < z) (hi : j.toNatClampNeg = i) (hlt : i < vs.length)  (ha : Z.heap.size ≤ a) (hd : decode bytes pc = .ok (.castore, 1))
    (K : ∀ T' h', Wk p l e R s m args below meth c Z y bytes maxL ret T' h' ce sl sf → Wr h h' a j.toNatClampNeg (.int (nar .char x)) → Arv Z h' a k .char z (vs.set i (.int (nar .char x))) dv → Go p e below G T' (mkF m pc' L S)) (hp : pc + 1 = pc' := by rfl) : Go p e below G T (mkF m pc L (.int x :: .int j :: .ref a :: S)) := by
  subst hp
  obtain ⟨vm0, k0, locs, X, eT, hS, hk, hZ, hown, hF, hN, hC, hsf, hE, ⟨a1, hEL⟩, hx, hby, hml, hnm, hrt, hlk⟩ := W
  subst hby
  obtain ⟨cl, A1, A2, A3, A4, A5, A6⟩ := A
  have hsa : Safe Z own_EL vm0 h a := Safe.arr hZ.alike A1 (by decide)
  obtain ⟨T', h', X', e', Wr0, st⟩ := stC X hx hZ eT A1 (inb_of A3 hj) (g := mkF m pc L (.int x :: .int j :: .ref a :: S)) rfl rfl hd
  exact (K T' h' ⟨vm0, k0, _, X', e', hS, Nat.le_trans hk (Nat.le_of_eq Wr0.size.symm), hZ, hown, Fr.snoc X' hF ha, hN, hC.trans (CHr.wr Wr0 hsa hC.1), fun x q => ⟨Nat.lt_of_lt_of_le (hsf x q).1 (Nat.le_of_eq Wr0.size.symm), Safe.wr Wr0 hsa hC.1 (hsf x q).2⟩, own_ext_wr hE Wr0 ha, ⟨a1, hEL⟩, hx, rfl, hml, hnm, hrt, hlk⟩ Wr0 (Arv.set A1 A2 A3 A4 A5 A6 (fits_nar_char x) Wr0 i hi hlt)).st st
theorem o_bastore (pc' : Nat) (i : Nat) (W : Wk p l e R s m args below meth c Z y bytes maxL ret T h ce sl sf) {a : Addr} {k : ClassId} {z j x : Int32} {vs : List Value} {dv : Value} (A : Arv Z h a k .byte z vs dv) (hj : ¬ j < 0 ∧ j < z) (hi : j.toNatClampNeg = i) (hlt : i < vs.length) (hsafe : a ∈ sf) (ha : Z.heap.size ≤ a) (hd : decode bytes pc = .ok (.bastore, 1))
    (K : ∀ T' h', Wk p l e R s m args below meth c Z y bytes maxL ret T' h' ce sl sf → Wr h h' a j.toNatClampNeg (.int (nar .byte x)) → Arv Z h' a k .byte z (vs.set i (.int (nar .byte x))) dv → Go p e below G T' (mkF m pc' L S)) (hp : pc + 1 = pc' := by rfl) : Go p e below G T (mkF m pc L (.int x :: .int j :: .ref a :: S)) := by
  subst hp
  obtain ⟨vm0, k0, locs, X, eT, hS, hk, hZ, hown, hF, hN, hC, hsf, hE, ⟨a1, hEL⟩, hx, hby, hml, hnm, hrt, hlk⟩ := W
  subst hby
  obtain ⟨cl, A1, A2, A3, A4, A5, A6⟩ := A
  have hsa : Safe Z own_EL vm0 h a := (hsf a hsafe).2
  obtain ⟨T', h', X', e', Wr0, st⟩ := stB X hx hZ eT A1 (inb_of A3 hj) (g := mkF m pc L (.int x :: .int j :: .ref a :: S)) rfl rfl hd
  exact (K T' h' ⟨vm0, k0, _, X', e', hS, Nat.le_trans hk (Nat.le_of_eq Wr0.size.symm), hZ, hown, Fr.snoc X' hF ha, hN, hC.trans (CHr.wr Wr0 hsa hC.1), fun x q => ⟨Nat.lt_of_lt_of_le (hsf x q).1 (Nat.le_of_eq Wr0.size.symm), Safe.wr Wr0 hsa hC.1 (hsf x q).2⟩, own_ext_wr hE Wr0 ha, ⟨a1, hEL⟩, hx, rfl, hml, hnm, hrt, hlk⟩ Wr0 (Arv.set A1 A2 A3 A4 A5 A6 (fits_nar_byte x) Wr0 i hi hlt)).st st
theorem o_iastore (pc' : Nat) (i : Nat) (W : Wk p l e R s m args below meth c Z y bytes maxL ret T h ce sl sf) {a : Addr} {k : ClassId} {z j x : Int32} {vs : List Value} {dv : Value} (A : Arv Z h a k .int z vs dv) (hj : ¬ j < 0 ∧ j < z) (hi : j.toNatClampNeg = i) (hlt : i < vs.length)  (ha : Z.heap.size ≤ a) (hd : decode bytes pc = .ok (.iastore, 1))
    (K : ∀ T' h', Wk p l e R s m args below meth c Z y bytes maxL ret T' h' ce sl sf → Wr h h' a j.toNatClampNeg (.int x) → Arv Z h' a k .int z (vs.set i (.int x)) dv → Go p e below G T' (mkF m pc' L S)) (hp : pc + 1 = pc' := by rfl) : Go p e below G T (mkF m pc L (.int x :: .int j :: .ref a :: S)) := by
  subst hp
  obtain ⟨vm0, k0, locs, X, eT, hS, hk, hZ, hown, hF, hN, hC, hsf, hE, ⟨a1, hEL⟩, hx, hby, hml, hnm, hrt, hlk⟩ := W
  subst hby
  obtain ⟨cl, A1, A2, A3, A4, A5, A6⟩ := A
  have hsa : Safe Z own_EL vm0 h a := Safe.arr hZ.alike A1 (by decide)
  obtain ⟨T', h', X', e', Wr0, st⟩ := stI X hx hZ eT A1 (inb_of A3 hj) (g := mkF m pc L (.int x :: .int j :: .ref a :: S)) rfl rfl hd
  exact (K T' h' ⟨vm0, k0, _, X', e', hS, Nat.le_trans hk (Nat.le_of_eq Wr0.size.symm), hZ, hown, Fr.snoc X' hF ha, hN, hC.trans (CHr.wr Wr0 hsa hC.1), fun x q => ⟨Nat.lt_of_lt_of_le (hsf x q).1 (Nat.le_of_eq Wr0.size.symm), Safe.wr Wr0 hsa hC.1 (hsf x q).2⟩, own_ext_wr hE Wr0 ha, ⟨a1, hEL⟩, hx, rfl, hml, hnm, hrt, hlk⟩ Wr0 (Arv.set A1 A2 A3 A4 A5 A6 (rfl) Wr0 i hi hlt)).st st
theorem o_arraycopy (pc' : Nat) (W : Wk p l e R s m args below meth c Z y bytes maxL ret T h ce sl sf) {i : Nat} {a b : Addr} {k k' : ClassId} {z z' sp dp nn : Int32} {vs vd us : List Value} {dv dd : Value} {ty : FieldType} (w1 : (Jvm.Cond.methodLink y.cls i Jvm.Stand.acN).before a0 Z = true) (w2 : (Jvm.Cond.native Jvm.Stand.acN).before a0 Z = true) (w3 : (Jvm.Cond.static Jvm.Stand.acN).before a0 Z = true) (w4 : (Jvm.Cond.initialized "java/lang/System").before a0 Z = true) (A : Arv Z h a k ty z vs dv) (B : Arv Z h b k' ty z' vd dd) (hty : refKind ty = false)
    (h1 : ¬ sp < 0) (h2 : ¬ dp < 0) (h3 : ¬ nn < 0) (h4 : sp.toNatClampNeg + nn.toNatClampNeg ≤ z.toNatClampNeg) (h5 : dp.toNatClampNeg + nn.toNatClampNeg ≤ z'.toNatClampNeg) (hus : us = (List.range nn.toNatClampNeg).map fun i => vs.getD (sp.toNatClampNeg + i) dv) (hlv : dp.toNatClampNeg + nn.toNatClampNeg ≤ vd.length) (hsafe : b ∈ sf) (hb : Z.heap.size ≤ b) (hd : decode bytes pc = .ok (.invokestatic i, 3))
    (K : ∀ T' h', Wk p l e R s m args below meth c Z y bytes maxL ret T' h' ce sl sf → Keep h h' [b] → Arv Z h' b k' ty z' (vd.take dp.toNatClampNeg ++ us ++ vd.drop (dp.toNatClampNeg + nn.toNatClampNeg)) dd → Go p e below G T' (mkF m pc' L S)) (hsz : L.size = maxL := by rfl) (hf : 1 ≤ R.frames := by decide) (hl : (S.map fun v => v.category).sum + (nativeFrameWords "java/lang/System" "arraycopy" 5 + 11) ≤ R.locals := by first | decide | exact Nat.le_of_ble_eq_true rfl) (hp : pc + 3 = pc' := by rfl) : Go p e below G T (mkF m pc L (.int nn :: .int dp :: .ref b :: .int sp :: .ref a :: S)) := by
  subst hp
  obtain ⟨vm0, k0, locs, X, eT, hS, hk, hZ, hown, hF, hN, hC, hsf, hE, ⟨a1, hEL⟩, hx, hby, hml, hnm, hrt, hlk⟩ := W
  subst hby
  obtain ⟨T', h', L', X', e', N', Kp, A', st⟩ := cpA X hx hZ hown w1 w2 w3 w4 eT A B (Or.inl ⟨rfl, hty⟩) h1 h2 h3 h4 h5 hus hlv hF hb (g := mkF m pc L (.int nn :: .int dp :: .ref b :: .int sp :: .ref a :: S)) rfl (by rw [hml]; exact hsz) rfl hd hf (W := (S.map fun v => v.category).sum) (by show 2 * 0 + _ ≤ _; omega) hl
  have hs1 : ∀ x ∈ [b], Safe Z own_EL vm0 h x := fun x q => by rw [List.mem_singleton.mp q]; exact (hsf b hsafe).2
  have hE' : Ext Z.heap h' := ⟨Nat.le_trans hE.1 Kp.1, fun x cc r => Kp.2.1 x cc (hE.2 x cc r) fun q => by
    have hlt := (Array.getElem?_eq_some_iff.mp r).1
    rw [List.mem_singleton.mp q] at hlt; omega⟩
  exact (K T' h' ⟨vm0, k0, L', X', e', hS, Nat.le_trans hk Kp.1, hZ, hown, N', hN, hC.trans (CHr.keep Kp hs1 hC.1), fun x q => ⟨Nat.lt_of_lt_of_le (hsf x q).1 Kp.1, Safe.keep Kp hs1 hC.1 (hsf x q).2⟩, hE', ⟨a1, hEL⟩, hx, rfl, hml, hnm, hrt, hlk⟩ Kp A').st st
theorem o_clone (pc' : Nat) (cap : Nat) (W : Wk p l e R s m args below meth c Z y bytes maxL ret T h ce sl sf) {i : Nat} {ad : String} {a : Addr} {k : ClassId} {ty : FieldType} {z : Int32} {vs : List Value} {dv : Value} (w1 : (Jvm.Cond.methodLink y.cls i ⟨ad, "clone", "()Ljava/lang/Object;"⟩).before a0 Z = true) (w2 : (Jvm.Cond.sameMethod ad "java/lang/Object" "clone" "()Ljava/lang/Object;").before a0 Z = true) (w3 : (Jvm.Cond.native ⟨"java/lang/Object", "clone", "()Ljava/lang/Object;"⟩).before a0 Z = true) (w4 : (Jvm.Cond.instanceMethod ⟨"java/lang/Object", "clone", "()Ljava/lang/Object;"⟩).before a0 Z = true) (w5 : (Jvm.Cond.selects ad ⟨ad, "clone", "()Ljava/lang/Object;"⟩ ⟨"java/lang/Object", "clone", "()Ljava/lang/Object;"⟩).before a0 Z = true) (w6 : (Jvm.Cond.castable ad "java/lang/Cloneable").before a0 Z = true) (F : Arv Z h a k ty z vs dv) (E : Exa Z h a ad) (hd : decode bytes pc = .ok (.invokevirtual i, 3)) (hcap : z.toNatClampNeg ≤ cap)
    (K : ∀ T' h' b, Wk p l e R s m args below meth c Z y bytes maxL ret T' h' (ce + 1) (sl + cap) (b :: sf) → Ext h h' → Arv Z h' b k ty z vs dv → Exa Z h' b ad → h.size ≤ b → Z.heap.size ≤ b → Go p e below G T' (mkF m pc' L (.ref b :: S))) (hsz : L.size = maxL := by rfl) (hf : 1 ≤ R.frames := by decide) (hl : (S.map fun v => v.category).sum + 14 ≤ R.locals := by first | decide | exact Nat.le_of_ble_eq_true rfl) (hc : ce + 1 ≤ R.cells := by decide) (hs : sl + cap ≤ R.slots := by decide) (hp : pc + 3 = pc' := by rfl) : Go p e below G T (mkF m pc L (.ref a :: S)) := by
  subst hp
  obtain ⟨vm0, k0, locs, X, eT, hS, hk, hZ, hown, hF, hN, hC, hsf, hE, ⟨a1, hEL⟩, hx, hby, hml, hnm, hrt, hlk⟩ := W
  subst hby
  obtain ⟨T', h', X', e', Ee, A, Ex, st⟩ := cloneH X hx hZ hown w1 w2 w3 w4 w5 w6 eT (hs := []) F E (g := mkF m pc L (.ref a :: S)) rfl (by rw [hml]; exact hsz) rfl hd hf (W := (S.map fun v => v.category).sum) (by show 2 * 0 + _ ≤ _; omega) hl hcap hc hs
  refine (K T' h' h.size ⟨vm0, k0, locs, X', e', hS, Nat.le_trans hk Ee.1, hZ, hown, hF, hN, hC.trans (CHr.ext Ee hC.1), fun x q => ?_, own_ext_trans hE Ee, ⟨a1, hEL⟩, hx, rfl, hml, hnm, hrt, hlk⟩ Ee A Ex (Nat.le_refl _) hE.1).st st
  rcases List.mem_cons.mp q with rfl | q
  · exact ⟨Ex.lt, Safe.ext Ee hC.1 (Safe.new (Nat.le_refl _))⟩
  · exact ⟨Nat.lt_of_lt_of_le (hsf x q).1 Ee.1, Safe.ext Ee hC.1 (hsf x q).2⟩
theorem own_ew {a1 a2 : Array Value} (E : EW Z a1 own_EL) : EW Z a2 own_EL := fun q hq => by
  obtain ⟨t, h1, h2⟩ := E q hq
  exact ⟨t, mvS (s := Z) (vm0 := Z.vm) (State.Warmed39.refl Z) h1, h2⟩
theorem o_ldcS (pc' : Nat) (n : Nat) (W : Wk p l e R s m args below meth c Z y bytes maxL ret T h ce sl sf) {i : Nat} {text : String} (hnar : ¬ own_Nar) (w : (Jvm.Cond.stringLink y.cls i text).before a0 Z = true) (wS : ∀ a ∈ Bundle.stringAtoms, a.before a0 Z = true) (hd : decode bytes pc = .ok (.ldc i, 2)) (hn : 4 * text.toList.length ≤ n)
    (K : ∀ T' h' a, Wk p l e R s m args below meth c Z y bytes maxL ret T' h' (ce + 2) (sl + (n + 4)) sf → Ext h h' → Go p e below G T' (mkF m pc' L (.ref a :: S))) (hbig : n ≤ 536870912 := by decide) (hc : ce + 2 ≤ R.cells := by decide) (hs : sl + (n + 4) ≤ R.slots := by decide) (hp : pc + 2 = pc' := by rfl) : Go p e below G T (mkF m pc L S) := by
  subst hp
  obtain ⟨vm0, k0, locs, X, eT, hS, hk, hZ, hown, hF, hN, hC, hsf, hE, ⟨a1, hEL⟩, hx, hby, hml, hnm, hrt, hlk⟩ := W
  subst hby
  obtain ⟨a, T', h', k1, X', e', E, hS', hk', hZ', hown', hC', -, st⟩ := ldcOH X hx hZ hown w wS eT hS hk (own_ew hEL) hC.1 (g := mkF m pc L S) rfl hd hn hbig hc hs
  exact (K T' h' a ⟨T'.vm, k1, locs, X', e', hS', hk', hZ', hown', hF, fun q => absurd q hnar, hC.trans hC', fun x q => ⟨Nat.lt_of_lt_of_le (hsf x q).1 E.1, hC'.safe (hsf x q).1 (hsf x q).2⟩, own_ext_trans hE E, ⟨a1, hEL⟩, hx, rfl, hml, hnm, hrt, hlk⟩ E).st st
theorem o_ldcC (pc' : Nat) (n : Nat) (W : Wk p l e R s m args below meth c Z y bytes maxL ret T h ce sl sf) {i : Nat} {text : String} {vs : List Value} {z : Int32} (hnar : ¬ own_Nar) (w : (Jvm.Cond.stringLink y.cls i text).before a0 Z = true) (wS : ∀ a ∈ Bundle.stringAtoms, a.before a0 Z = true) (hmem : (y.cls, i) ∈ own_EL) (ht : (∀ c ∈ text.toList, c.toNat < 256) ∧ text.toList.map (fun c => Value.int (Jvm.Lit.byteI c.toNat.toUInt16)) = vs) (hz : ¬ z < 0) (hzl : z.toNatClampNeg = vs.length) (hd : decode bytes pc = .ok (.ldc i, 2)) (hn : 4 * text.toList.length ≤ n)
    (K : ∀ T' h' a b k, Wk p l e R s m args below meth c Z y bytes maxL ret T' h' (ce + 2) (sl + (n + 4)) sf → Ext h h' → Exa Z h' a "java/lang/String" → Fld Z h' a "java/lang/String" "coder" "B" (.int 0) → Fld Z h' a "java/lang/String" "value" "[B" (.ref b) → Arv Z h' b k .byte z vs (.int 0) → (∀ x ∈ sf, x ≠ a ∧ x ≠ b) → Go p e below G T' (mkF m pc' L (.ref a :: S))) (hbig : n ≤ 536870912 := by decide) (hc : ce + 2 ≤ R.cells := by decide) (hs : sl + (n + 4) ≤ R.slots := by decide) (hp : pc + 2 = pc' := by rfl) : Go p e below G T (mkF m pc L S) := by
  subst hp
  obtain ⟨vm0, k0, locs, X, eT, hS, hk, hZ, hown, hF, hN, hC, hsf, hE, ⟨a1, hEL⟩, hx, hby, hml, hnm, hrt, hlk⟩ := W
  subst hby
  obtain ⟨a, T', h', k1, b, k, X', e', E, hS', hk', hZ', hown', q1, q2, q3, q4, q5, q6, hC', -, hsaf, st⟩ := ldcCH X hx hZ hown w wS eT hS hk (own_ew hEL) hmem hC.1 ht hz hzl (g := mkF m pc L S) rfl hd hn hbig hc hs
  exact (K T' h' a b k ⟨T'.vm, k1, locs, X', e', hS', hk', hZ', hown', hF, fun q => absurd q hnar, hC.trans hC', fun x q => ⟨Nat.lt_of_lt_of_le (hsf x q).1 E.1, hC'.safe (hsf x q).1 (hsf x q).2⟩, own_ext_trans hE E, ⟨a1, hEL⟩, hx, rfl, hml, hnm, hrt, hlk⟩ E q1 q2 q3 q4 fun x q => hsaf x (hC'.safe (hsf x q).1 (hsf x q).2)).st st
/-- what a body's end leaves -/
def Gd (s : State) (below : List Frame) (Z : State) (Q : Option Value → Heap → Prop) (kc ks : Nat) (u : State) : Prop := u.status = .running ∧ ∃ (v : Option Value) (Lc : List Loc), Ended u below (.returned v) ∧ Q v u.heap ∧ Fr Z.heap.size Lc ∧ CHr Z own_EL s.vm s.heap u.vm u.heap ∧ Ext Z.heap u.heap ∧ (own_Nar → s.WarmedH u.vm) ∧ ReturnedEndW s (.returned v) u Lc kc ks
/-- a body's contract: from the heap h0, with the arguments as', it returns and leaves Q -/
def Con (l : Launch) (Z : State) (y : MethodName) (bytes : ByteArray) (maxL : Nat) (ret : Option FieldType) (rm : Room) (as' : Array Value) (h0 : Heap) (sf0 : List Addr) (Q : Option Value → Heap → Prop) : Prop :=
  ∀ ws : List Jvm.Cond, MetFree l y (head1 (Jvm.Cond.code y bytes maxL ret :: ws) rm) (fun a U => a = as' ∧ Z.Warmed39 U.vm ∧ U.heap = h0 ∧ CHv Z own_EL U.vm h0 ∧ ∀ x ∈ sf0, Safe Z own_EL U.vm h0 x) (fun _ _ _ _ _ => True)
    (fun _ U o U' => ∃ v Lc, o = .returned v ∧ Q v U'.heap ∧ Fr Z.heap.size Lc ∧ CHr Z own_EL U.vm U.heap U'.vm U'.heap ∧ Ext Z.heap U'.heap ∧ (own_Nar → U.WarmedH U'.vm) ∧ ReturnedEndW U o U' Lc rm.cells rm.slots)
/-- a value is returned -/
abbrev QV (Q : Value → Heap → Prop) (v : Option Value) (h : Heap) : Prop := ∃ w, v = some w ∧ Q w h
/-- nothing is returned -/
abbrev Q0 (Q : Heap → Prop) (v : Option Value) (h : Heap) : Prop := v = none ∧ Q h
theorem Con.of {rm : Room} {as' : Array Value} {h0 : Heap} {sf0 : List Addr} {Q : Option Value → Heap → Prop} {L0 : Array Slot} (hp : plainFor y = true) (hE : Ext Z.heap h0) (hEL : ∃ a1, EW Z a1 own_EL) (hsf : ∀ x ∈ sf0, x < h0.size)
    (hent : ∀ m : MethodId, entryFrame m as' maxL = mkF m 0 L0 [])
    (body : ∀ (p : Program) (e : Env) (s : State) (m : MethodId) (args : Array Value) (below : List Frame) (meth : Method) (c : Code) (T : State), Wk p l e rm s m args below meth c Z y bytes maxL ret T h0 0 0 sf0 → Go p e below (Gd s below Z Q rm.cells rm.slots) T (mkF m 0 L0 [])) :
    Con l Z y bytes maxL ret rm as' h0 sf0 Q := by
  intro ws
  refine MetFree.of_bodySF hp hisR ?_
  intro p e s m args below meth c s₁ Bd hml hP hK
  obtain ⟨rfl, hZ, hh, hCH, hsaf⟩ := hP
  have X0 : Stand p l e rm (s.setVm s.vm) m args below meth c s₁ [] 0 0 := Stand.of_body Bd
  have e0 : s₁.heap = h0 := by rw [← hh, Bd.state]; rfl
  have hlk : meth.locks = false := by first | exact Bd.notSynchronized | exact BodyLoose.notSynchronized Bd
  have W : Wk p l e rm s m args below meth c Z y bytes maxL ret s₁ h0 0 0 sf0 :=
    ⟨s.vm, 0, [], X0, e0, (State.WarmedH.refl s).since 0, Nat.zero_le _, hZ, findClass_of_methodNamed Bd.named, Fr.nil _, fun _ => State.WarmedH.refl s, by rw [hh]; exact CHr.refl hCH, fun x hx => ⟨hsf x hx, hsaf x hx⟩, hE, hEL, Bd.exec, Bd.bytes, hml, (name_of_methodNamed Bd.named Bd.method).1, Bd.returns, hlk⟩
  obtain ⟨u, k, g1, v, Lc, g2, g3, g4, g5, g6, g7, g8⟩ := body p e s m args below meth c s₁ W
  exact ⟨u, _, castTop (hent m) k, g1, g2, v, Lc, rfl, g3, g4, g5, g6, g7, g8⟩
theorem o_end {Q : Option Value → Heap → Prop} {kc ks : Nat} (W : Wk p l e R s m args below meth c Z y bytes maxL ret T h ce sl sf) {v : Option Value} {g : JFrame} (hv : meth.sig.returnType = none → v = none) (hq : Q v h) (hc : ce ≤ kc) (hs : sl ≤ ks)
    (K : ∀ fs : List Frame, (∀ (f : JFrame) (acts : List Action), f.method = m → f.locked = none → f.entered = [] → (doReturn e (T.setTop f) acts v).1 = T.setFrames fs) → Steps p.tables e below (T.setTop g) (T.setFrames fs)) : Go p e below (Gd s below Z Q kc ks) T g := by
  obtain ⟨vm0, k0, locs, X, eT, hS, hk, hZ, hown, hF, hN, hC, hsf, hE, ⟨a1, hEL⟩, hx, hby, hml, hnm, hrt, hlk⟩ := W
  subst eT
  obtain ⟨fs, hr, hrun, hended, hW⟩ := (X.mono hc hs).leaveW hS hk (v := v) hv hlk
  have hC2 := hC.trans (CHv.at X hZ hEL hC.1)
  refine ⟨T.setFrames fs, K fs hr, hrun, v, locs, hended, hq, hF, hC2, hE, fun q => ?_, hW⟩
  exact State.WarmedH.trans (t := s.setVm vm0) (hN q) X.warmed
theorem o_iret {Q : Value → Heap → Prop} {kc ks : Nat} (W : Wk p l e R s m args below meth c Z y bytes maxL (some .int) T h ce sl sf) {x : Int32} (hd : decode bytes pc = .ok (.ireturn, 1)) (hq : Q (.int x) h) (hc : ce ≤ kc := by decide) (hs : sl ≤ ks := by decide) : Go p e below (Gd s below Z (QV Q) kc ks) T (mkF m pc L (.int x :: S)) := by
  have W2 := W
  obtain ⟨vm0, k0, locs, X, eT, hS, hk, hZ, hown, hF, hN, hC, hsf, hE, ⟨a1, hEL⟩, hx, hby, hml, hnm, hrt, hlk⟩ := W2
  subst hby
  exact o_end W (v := some (.int x)) (fun q => by rw [hrt] at q; cases q) ⟨_, rfl, hq⟩ hc hs fun fs hr => retOut X hx hrt rfl (Or.inl ⟨rfl, Or.inl rfl, x, rfl⟩) hd hr
theorem o_nret {Q : Value → Heap → Prop} {kc ks : Nat} {t : FieldType} (W : Wk p l e R s m args below meth c Z y bytes maxL (some t) T h ce sl sf) {x : Int32} (x' : Int32) (ht : t = .boolean ∨ t = .byte ∨ t = .char ∨ t = .short) (hn : nar t x = x') (hd : decode bytes pc = .ok (.ireturn, 1)) (hq : Q (.int x') h) (hc : ce ≤ kc := by decide) (hs : sl ≤ ks := by decide) : Go p e below (Gd s below Z (QV Q) kc ks) T (mkF m pc L (.int x :: S)) := by
  have W2 := W
  obtain ⟨vm0, k0, locs, X, eT, hS, hk, hZ, hown, hF, hN, hC, hsf, hE, ⟨a1, hEL⟩, hx, hby, hml, hnm, hrt, hlk⟩ := W2
  subst hby hn
  exact o_end W (v := some (.int (nar t x))) (fun q => by rw [hrt] at q; cases q) ⟨_, rfl, hq⟩ hc hs fun fs hr => retN X hx hrt ht hd hr
theorem o_aret {Q : Value → Heap → Prop} {kc ks : Nat} {t : FieldType} (W : Wk p l e R s m args below meth c Z y bytes maxL (some t) T h ce sl sf) {x : Value} (ht : t.isReference = true) (hv : x.isRef = true) (hn : narrow t x = x) (hd : decode bytes pc = .ok (.areturn, 1)) (hq : Q x h) (hc : ce ≤ kc := by decide) (hs : sl ≤ ks := by decide) : Go p e below (Gd s below Z (QV Q) kc ks) T (mkF m pc L (x :: S)) := by
  have W2 := W
  obtain ⟨vm0, k0, locs, X, eT, hS, hk, hZ, hown, hF, hN, hC, hsf, hE, ⟨a1, hEL⟩, hx, hby, hml, hnm, hrt, hlk⟩ := W2
  subst hby
  exact o_end W (v := some x) (fun q => by rw [hrt] at q; cases q) ⟨_, rfl, hq⟩ hc hs fun fs hr => retOut X hx hrt hn (Or.inr (Or.inr (Or.inr (Or.inr ⟨rfl, ht, hv⟩)))) hd hr
theorem o_ret {Q : Heap → Prop} {kc ks : Nat} (W : Wk p l e R s m args below meth c Z y bytes maxL none T h ce sl sf) (hd : decode bytes pc = .ok (.return_, 1)) (hq : Q h) (hc : ce ≤ kc := by decide) (hs : sl ≤ ks := by decide) : Go p e below (Gd s below Z (Q0 Q) kc ks) T (mkF m pc L []) := by
  have W2 := W
  obtain ⟨vm0, k0, locs, X, eT, hS, hk, hZ, hown, hF, hN, hC, hsf, hE, ⟨a1, hEL⟩, hx, hby, hml, hnm, hrt, hlk⟩ := W2
  subst hby
  exact o_end W (v := none) (fun _ => rfl) ⟨rfl, hq⟩ hc hs fun fs hr => X.returnOut hx hrt hd hr
theorem own_back {vm0 : Vm} {y' : MethodName} {bytes' : ByteArray} {maxL' : Nat} {ret' : Option FieldType} {rm : Room} {as' : Array Value} {sf' : List Addr} {Q : Option Value → Heap → Prop} {len Wd : Nat} {a1 : Array Value} (C : Con l Z y' bytes' maxL' ret' rm as' h sf' Q) (hZ : Z.Warmed39 (s.setVm vm0).vm) (wc : (Jvm.Cond.code y' bytes' maxL' ret').before a0 Z = true) (wz : (Jvm.Cond.initialized y'.cls).before a0 Z = true)
    (hf : rm.frames + 1 ≤ R.frames) (hl : Wd + (maxL' + 11) + rm.locals ≤ R.locals) (hEL : EW Z a1 own_EL) (H : CHv Z own_EL vm0 h) (hsf : ∀ x ∈ sf', x < h.size ∧ Safe Z own_EL vm0 h x) :
    BackS l R p e below (s.setVm vm0) args y' len Wd (fun A a => a = as' ∧ A.U.heap = h ∧ A.cells + rm.cells ≤ R.cells ∧ A.slots + rm.slots ≤ R.slots)
      (fun A _ v B => ∃ Lc, Q v B.U.heap ∧ Fr Z.heap.size Lc ∧ B.locs = A.locs ++ Lc ∧ B.cells = A.cells + rm.cells ∧ B.slots = A.slots + rm.slots ∧ CHr Z own_EL vm0 h B.U.vm B.U.heap ∧ Ext Z.heap B.U.heap ∧ (own_Nar → A.U.WarmedH B.U.vm)) :=
  BackS.of_freeW (bytes := bytes') (maxL := maxL') (ret := ret') (E := fun _ first o t Lc k n => k = rm.cells ∧ n = rm.slots ∧ (∃ v, o = .returned v ∧ Q v t.heap) ∧ Fr Z.heap.size Lc ∧ CHr Z own_EL first.vm first.heap t.vm t.heap ∧ Ext Z.heap t.heap ∧ (own_Nar → first.WarmedH t.vm)) (C []) hf hl
    (fun m meth c A a Y hp => have hU : Z.Warmed39 A.U.vm := wtrans (s := s.setVm vm0) hZ Y.warmed
      ⟨by show (Jvm.Cond.and _ .tt).before a A.U = true; rw [Cond.before_and, mv hU wc]; rfl, mv hU wc, mv hU wz, hp.2.2.1, hp.2.2.2⟩)
    (fun m meth c A a g mk Y hp => ⟨hp.1, wtrans (s := s.setVm vm0) hZ Y.warmed, hp.2.1, (CHv.at Y hZ hEL H).1, fun x hx => (CHv.at Y hZ hEL H).safe (hsf x hx).1 (hsf x hx).2⟩) (fun _ _ _ _ _ _ _ _ _ => trivial)
    (fun _ _ _ _ ⟨v, Lc, h1, h2, h3, h4, h5, h6, h7⟩ => ⟨Lc, _, _, h7, rfl, rfl, ⟨v, h1, h2⟩, h3, h4, h5, h6⟩)
    (fun m meth c A a g mk v t Lc k n Y hp _ _ ⟨e1, e2, ⟨v', e3, e4⟩, e5, e6, e7, e8⟩ => by
      cases e3; subst e1 e2
      refine ⟨Lc, e4, e5, rfl, rfl, rfl, (CHv.at Y hZ hEL H).trans ?_, e7, fun q => ?_⟩
      · rw [← hp.2.1]; exact e6
      · exact e8 q)
theorem o_static (pc' : Nat) (A : List Value) (W : Wk p l e R s m args below meth c Z y bytes maxL ret T h ce sl sf) {y' : MethodName} {bytes' : ByteArray} {maxL' : Nat} {ret' : Option FieldType} {rm : Room} {sf' : List Addr} {Q : Option Value → Heap → Prop} {stk : List Value} {i : Nat} (w1 : (Jvm.Cond.methodLink y.cls i y').before a0 Z = true) (w2 : (Jvm.Cond.static y').before a0 Z = true) (wz : (Jvm.Cond.initialized y'.cls).before a0 Z = true) (wc : (Jvm.Cond.code y' bytes' maxL' ret').before a0 Z = true) (C : Con l Z y' bytes' maxL' ret' rm A.toArray h sf' Q) {ps : List FieldType} {rt : Option FieldType} (hpd : parseMethodDescriptor y'.desc = some ⟨ps, rt⟩) (hd : decode bytes pc = .ok (.invokestatic i, 3)) (hst : stk = A.reverse ++ S) (hsub : ∀ x ∈ sf', x ∈ sf) (K : ∀ T' h' v, Wk p l e R s m args below meth c Z y bytes maxL ret T' h' (ce + rm.cells) (sl + rm.slots) sf → Q v h' → h.size ≤ h'.size → Go p e below G T' (mkF m pc' L (v.toList ++ S))) (hsz : L.size = maxL := by rfl) (hln : A.length = ps.length := by rfl) (hy : y'.cls ≠ "java/lang/invoke/MethodHandle" ∧ y'.cls ≠ "java/lang/invoke/VarHandle" := by decide) (hf : rm.frames + 1 ≤ R.frames := by decide) (hl : (S.map fun v => v.category).sum + (maxL' + 11) + rm.locals ≤ R.locals := by first | decide | exact Nat.le_of_ble_eq_true rfl) (hc : ce + rm.cells ≤ R.cells := by decide) (hs : sl + rm.slots ≤ R.slots := by decide) (hp : pc + 3 = pc' := by rfl) : Go p e below G T (mkF m pc L stk) := by
  subst hp
  obtain ⟨vm0, k0, locs, X, eT, hS, hk, hZ, hown, hF, hN, hC, hsf, hE, ⟨a1, hEL⟩, hx, hby, hml, hnm, hrt, hlk⟩ := W
  subst hby
  obtain ⟨v, vm₁, ⟨T', locs', ce', sl'⟩, hW1, X', hS', hge, ⟨Lc, hQ, hFr, e1, e2, e3, hC', hE', hN'⟩, st⟩ := callSS X hx (y := y') hown (mvT hZ w1) (mvT hZ w2) (mvT hZ wz) (mvT hZ wc) hy (own_back (Wd := (S.map fun v => v.category).sum) C hZ wc wz hf hl hEL hC.1 fun x hx => hsf x (hsub x hx)) (g := mkF m pc L stk) rfl (by rw [hml]; exact hsz) (argsL := A) (rest := S) (lenOf hpd hln) hst (by show 2 * 0 + _ ≤ _; omega) hd (fun _ _ => ⟨rfl, eT, hc, hs⟩)
  dsimp only [Pt.U, Pt.locs, Pt.cells, Pt.slots] at X' hS' hge hQ e1 e2 e3 hC' hE' hN' st
  subst e1 e2 e3 eT
  refine (K T' T'.heap v ⟨T'.vm, T'.heap.size, locs ++ Lc, X', rfl, hS.trans hS' (Nat.le_trans hk hge), Nat.le_refl _, State.Warmed39.trans (t := s.setVm vm0) hZ hS'.1, by rw [show (s.setVm T'.vm).vm = T'.vm from rfl, hS'.1.alike.findClass]; exact hown, hF.app hFr, fun q => ?_, hC.trans hC', fun x hx => ⟨Nat.lt_of_lt_of_le (hsf x hx).1 hge, hC'.safe (hsf x hx).1 (hsf x hx).2⟩, hE', ⟨a1, hEL⟩, hx, rfl, hml, hnm, hrt, hlk⟩ hQ hge).st fun u k => st.trans k
  exact State.WarmedH.trans (t := s.setVm vm0) (hN q) (State.WarmedH.trans (s := s.setVm vm0) (t := T.setVm vm₁) hW1 (hN' q))
theorem o_special (pc' : Nat) (A : List Value) (W : Wk p l e R s m args below meth c Z y bytes maxL ret T h ce sl sf) {y' : MethodName} {bytes' : ByteArray} {maxL' : Nat} {rm : Room} {sf' : List Addr} {Q : Option Value → Heap → Prop} {stk : List Value} {i : Nat} {a : Addr} (w1 : (Jvm.Cond.methodLink y.cls i y').before a0 Z = true) (w2 : (Jvm.Cond.instanceMethod y').before a0 Z = true) (wz : (Jvm.Cond.initialized y'.cls).before a0 Z = true) (wc : (Jvm.Cond.code y' bytes' maxL' none).before a0 Z = true) (C : Con l Z y' bytes' maxL' none rm (.ref a :: A).toArray h sf' Q) {ps : List FieldType} {rt : Option FieldType} (hpd : parseMethodDescriptor y'.desc = some ⟨ps, rt⟩) (hd : decode bytes pc = .ok (.invokespecial i, 3)) (hst : stk = A.reverse ++ .ref a :: S) (hsub : ∀ x ∈ sf', x ∈ sf) (K : ∀ T' h' v, Wk p l e R s m args below meth c Z y bytes maxL ret T' h' (ce + rm.cells) (sl + rm.slots) sf → Q v h' → h.size ≤ h'.size → Go p e below G T' (mkF m pc' L (v.toList ++ S))) (hin : y'.name = "<init>" := by rfl) (hsz : L.size = maxL := by rfl) (hln : A.length = ps.length := by rfl) (hy : y'.cls ≠ "java/lang/invoke/MethodHandle" ∧ y'.cls ≠ "java/lang/invoke/VarHandle" := by decide) (hf : rm.frames + 1 ≤ R.frames := by decide) (hl : (S.map fun v => v.category).sum + (maxL' + 11) + rm.locals ≤ R.locals := by first | decide | exact Nat.le_of_ble_eq_true rfl) (hc : ce + rm.cells ≤ R.cells := by decide) (hs : sl + rm.slots ≤ R.slots := by decide) (hp : pc + 3 = pc' := by rfl) : Go p e below G T (mkF m pc L stk) := by
  subst hp
  obtain ⟨vm0, k0, locs, X, eT, hS, hk, hZ, hown, hF, hN, hC, hsf, hE, ⟨a1, hEL⟩, hx, hby, hml, hnm, hrt, hlk⟩ := W
  subst hby
  obtain ⟨v, vm₁, ⟨T', locs', ce', sl'⟩, hW1, X', hS', hge, ⟨Lc, hQ, hFr, e1, e2, e3, hC', hE', hN'⟩, st⟩ := X.specialBackS hx (y := y') hin hown (mvT hZ w1) (mvT hZ w2) (mvT hZ wc) hy (own_back (Wd := (S.map fun v => v.category).sum) C hZ wc wz hf hl hEL hC.1 fun x hx => hsf x (hsub x hx)) (g := mkF m pc L stk) rfl (by rw [hml]; exact hsz) (Steps.refl _) (a := a) (argsL := A) (rest := S) (lenOf hpd hln) hst (by show 2 * 0 + _ ≤ _; omega) hd (fun _ _ => ⟨rfl, eT, hc, hs⟩)
  dsimp only [Pt.U, Pt.locs, Pt.cells, Pt.slots] at X' hS' hge hQ e1 e2 e3 hC' hE' hN' st
  subst e1 e2 e3 eT
  refine (K T' T'.heap v ⟨T'.vm, T'.heap.size, locs ++ Lc, X', rfl, hS.trans hS' (Nat.le_trans hk hge), Nat.le_refl _, State.Warmed39.trans (t := s.setVm vm0) hZ hS'.1, by rw [show (s.setVm T'.vm).vm = T'.vm from rfl, hS'.1.alike.findClass]; exact hown, hF.app hFr, fun q => ?_, hC.trans hC', fun x hx => ⟨Nat.lt_of_lt_of_le (hsf x hx).1 hge, hC'.safe (hsf x hx).1 (hsf x hx).2⟩, hE', ⟨a1, hEL⟩, hx, rfl, hml, hnm, hrt, hlk⟩ hQ hge).st fun u k => st.trans k
  exact State.WarmedH.trans (t := s.setVm vm0) (hN q) (State.WarmedH.trans (s := s.setVm vm0) (t := T.setVm vm₁) hW1 (hN' q))
theorem o_virtual (pc' : Nat) (A : List Value) (W : Wk p l e R s m args below meth c Z y bytes maxL ret T h ce sl sf) {y' : MethodName} {bytes' : ByteArray} {maxL' : Nat} {ret' : Option FieldType} {rm : Room} {sf' : List Addr} {Q : Option Value → Heap → Prop} {stk : List Value} {i : Nat} {a : Addr} {C0 : String} (w1 : (Jvm.Cond.methodLink y.cls i y').before a0 Z = true) (w2 : (Jvm.Cond.declares y').before a0 Z = true) (w3 : (Jvm.Cond.selects C0 y' y').before a0 Z = true) (w4 : (Jvm.Cond.instanceMethod y').before a0 Z = true) (wz : (Jvm.Cond.initialized y'.cls).before a0 Z = true) (wc : (Jvm.Cond.code y' bytes' maxL' ret').before a0 Z = true) (E : Exa Z h a C0) (C : Con l Z y' bytes' maxL' ret' rm (.ref a :: A).toArray h sf' Q) {ps : List FieldType} {rt : Option FieldType} (hpd : parseMethodDescriptor y'.desc = some ⟨ps, rt⟩) (hd : decode bytes pc = .ok (.invokevirtual i, 3)) (hst : stk = A.reverse ++ .ref a :: S) (hsub : ∀ x ∈ sf', x ∈ sf) (K : ∀ T' h' v, Wk p l e R s m args below meth c Z y bytes maxL ret T' h' (ce + rm.cells) (sl + rm.slots) sf → Q v h' → h.size ≤ h'.size → Go p e below G T' (mkF m pc' L (v.toList ++ S))) (hsz : L.size = maxL := by rfl) (hln : A.length = ps.length := by rfl) (hy : y'.cls ≠ "java/lang/invoke/MethodHandle" ∧ y'.cls ≠ "java/lang/invoke/VarHandle" := by decide) (hf : rm.frames + 1 ≤ R.frames := by decide) (hl : (S.map fun v => v.category).sum + (maxL' + 11) + rm.locals ≤ R.locals := by first | decide | exact Nat.le_of_ble_eq_true rfl) (hc : ce + rm.cells ≤ R.cells := by decide) (hs : sl + rm.slots ≤ R.slots := by decide) (hp : pc + 3 = pc' := by rfl) : Go p e below G T (mkF m pc L stk) := by
  subst hp
  obtain ⟨vm0, k0, locs, X, eT, hS, hk, hZ, hown, hF, hN, hC, hsf, hE, ⟨a1, hEL⟩, hx, hby, hml, hnm, hrt, hlk⟩ := W
  subst hby
  obtain ⟨cB, kB, qa, qb, qc⟩ := isOf (T := T) hZ eT E
  obtain ⟨v, vm₁, ⟨T', locs', ce', sl'⟩, hW1, X', hS', hge, ⟨Lc, hQ, hFr, e1, e2, e3, hC', hE', hN'⟩, st⟩ := X.virtualBackS hx (y := y') (z := y') hown (mvT hZ w1) (mvT hZ w2) (notFace_of_selects (args := args) (mvT hZ w3)) (mvT hZ w3) (mvT hZ w4) hy (own_back (Wd := (S.map fun v => v.category).sum) C hZ wc wz hf hl hEL hC.1 fun x hx => hsf x (hsub x hx)) qa qc (g := mkF m pc L stk) rfl (by rw [hml]; exact hsz) (Steps.refl _) (argsL := A) (rest := S) (lenOf hpd hln) hst (by show 2 * 0 + _ ≤ _; omega) hd (fun _ _ => ⟨rfl, eT, hc, hs⟩)
  dsimp only [Pt.U, Pt.locs, Pt.cells, Pt.slots] at X' hS' hge hQ e1 e2 e3 hC' hE' hN' st
  subst e1 e2 e3 eT
  refine (K T' T'.heap v ⟨T'.vm, T'.heap.size, locs ++ Lc, X', rfl, hS.trans hS' (Nat.le_trans hk hge), Nat.le_refl _, State.Warmed39.trans (t := s.setVm vm0) hZ hS'.1, by rw [show (s.setVm T'.vm).vm = T'.vm from rfl, hS'.1.alike.findClass]; exact hown, hF.app hFr, fun q => ?_, hC.trans hC', fun x hx => ⟨Nat.lt_of_lt_of_le (hsf x hx).1 hge, hC'.safe (hsf x hx).1 (hsf x hx).2⟩, hE', ⟨a1, hEL⟩, hx, rfl, hml, hnm, hrt, hlk⟩ hQ hge).st fun u k => st.trans k
  exact State.WarmedH.trans (t := s.setVm vm0) (hN q) (State.WarmedH.trans (s := s.setVm vm0) (t := T.setVm vm₁) hW1 (hN' q))
theorem o_virtualUp (pc' : Nat) (A : List Value) (W : Wk p l e R s m args below meth c Z y bytes maxL ret T h ce sl sf) {y' : MethodName} {bytes' : ByteArray} {maxL' : Nat} {ret' : Option FieldType} {rm : Room} {sf' : List Addr} {Q : Option Value → Heap → Prop} {stk : List Value} {i : Nat} {a : Addr} {C0 owner : String} {x' : MethodName} (w1 : (Jvm.Cond.methodLink y.cls i x').before a0 Z = true) (w2 : (Jvm.Cond.sameMethod x'.cls owner x'.name x'.desc).before a0 Z = true) (w5 : (Jvm.Cond.declares ⟨owner, x'.name, x'.desc⟩).before a0 Z = true) (w3 : (Jvm.Cond.selects C0 x' y').before a0 Z = true) (w4 : (Jvm.Cond.instanceMethod y').before a0 Z = true) (wz : (Jvm.Cond.initialized y'.cls).before a0 Z = true) (wc : (Jvm.Cond.code y' bytes' maxL' ret').before a0 Z = true) (E : Exa Z h a C0) (C : Con l Z y' bytes' maxL' ret' rm (.ref a :: A).toArray h sf' Q) {ps : List FieldType} {rt : Option FieldType} (hpd : parseMethodDescriptor x'.desc = some ⟨ps, rt⟩) (hd : decode bytes pc = .ok (.invokevirtual i, 3)) (hst : stk = A.reverse ++ .ref a :: S) (hsub : ∀ x ∈ sf', x ∈ sf) (K : ∀ T' h' v, Wk p l e R s m args below meth c Z y bytes maxL ret T' h' (ce + rm.cells) (sl + rm.slots) sf → Q v h' → h.size ≤ h'.size → Go p e below G T' (mkF m pc' L (v.toList ++ S))) (hsz : L.size = maxL := by rfl) (hln : A.length = ps.length := by rfl) (hy : owner ≠ "java/lang/invoke/MethodHandle" ∧ owner ≠ "java/lang/invoke/VarHandle" := by decide) (hf : rm.frames + 1 ≤ R.frames := by decide) (hl : (S.map fun v => v.category).sum + (maxL' + 11) + rm.locals ≤ R.locals := by first | decide | exact Nat.le_of_ble_eq_true rfl) (hc : ce + rm.cells ≤ R.cells := by decide) (hs : sl + rm.slots ≤ R.slots := by decide) (hp : pc + 3 = pc' := by rfl) : Go p e below G T (mkF m pc L stk) := by
  subst hp
  obtain ⟨vm0, k0, locs, X, eT, hS, hk, hZ, hown, hF, hN, hC, hsf, hE, ⟨a1, hEL⟩, hx, hby, hml, hnm, hrt, hlk⟩ := W
  subst hby
  obtain ⟨cB, kB, qa, qb, qc⟩ := isOf (T := T) hZ eT E
  obtain ⟨v, vm₁, ⟨T', locs', ce', sl'⟩, hW1, X', hS', hge, ⟨Lc, hQ, hFr, e1, e2, e3, hC', hE', hN'⟩, st⟩ := X.virtualBackUpS hx (x := x') (y := y') (owner := owner) hown (mvT hZ w1) (mvT hZ w2) (mvT hZ w5) hy (mvT hZ w3) (mvT hZ w4) (own_back (Wd := (S.map fun v => v.category).sum) C hZ wc wz hf hl hEL hC.1 fun x hx => hsf x (hsub x hx)) qa qc (g := mkF m pc L stk) rfl (by rw [hml]; exact hsz) (Steps.refl _) (argsL := A) (rest := S) (lenOf hpd hln) hst (by show 2 * 0 + _ ≤ _; omega) hd (fun _ _ => ⟨rfl, eT, hc, hs⟩)
  dsimp only [Pt.U, Pt.locs, Pt.cells, Pt.slots] at X' hS' hge hQ e1 e2 e3 hC' hE' hN' st
  subst e1 e2 e3 eT
  refine (K T' T'.heap v ⟨T'.vm, T'.heap.size, locs ++ Lc, X', rfl, hS.trans hS' (Nat.le_trans hk hge), Nat.le_refl _, State.Warmed39.trans (t := s.setVm vm0) hZ hS'.1, by rw [show (s.setVm T'.vm).vm = T'.vm from rfl, hS'.1.alike.findClass]; exact hown, hF.app hFr, fun q => ?_, hC.trans hC', fun x hx => ⟨Nat.lt_of_lt_of_le (hsf x hx).1 hge, hC'.safe (hsf x hx).1 (hsf x hx).2⟩, hE', ⟨a1, hEL⟩, hx, rfl, hml, hnm, hrt, hlk⟩ hQ hge).st fun u k => st.trans k
  exact State.WarmedH.trans (t := s.setVm vm0) (hN q) (State.WarmedH.trans (s := s.setVm vm0) (t := T.setVm vm₁) hW1 (hN' q))
end Own
theorem own_sx {Z : State} {args a0 : Array Value} {C n d K : String} (hx : (Jvm.Cond.exactly (Jvm.Term.static C n d) K).value args Z none Z [] = some true) (hi : (Jvm.Cond.initialized C).before a0 Z = true) (hl : (Jvm.Cond.laysStatic C n d).before a0 Z = true) : ∃ a, Sta Z Z.heap C n d (.ref a) ∧ Exa Z Z.heap a K ∧ (Jvm.Term.static C n d).eval args Z none [] Z = some (.ref a) := by
  obtain ⟨a', c', cell, k, e1, -⟩ := Cond.exactly_spec (Cond.before_iff.mpr hx)
  exact ⟨a', Sta.start (args := a0) e1 (Or.inr ⟨hi, hl⟩), Exa.start e1 hx, e1⟩
theorem own_fx {Z : State} {args : Array Value} {t : Jvm.Term} {a : Addr} {O n d : String} {v : Value} {u : Jvm.Term} (e : t.eval args Z none [] Z = some (.ref a)) (hu : u.eval args Z none [] Z = some v) (hx : (Jvm.Cond.eq (Jvm.Term.field t O n d) u).value args Z none Z [] = some true) (hk : ∀ w, Kin v w → Kin w v → (Jvm.Cond.eq (Jvm.Term.field t O n d) u).value args Z none Z [] = some true → (Jvm.Term.field t O n d).eval args Z none [] Z = some w → w = v) : Fld Z Z.heap a O n d v := by
  obtain ⟨x, y, e1, e2, k1, k2⟩ := cmp_v (Or.inl hx)
  cases hu.symm.trans e2
  have q := hk x k2 k1 hx e1
  subst q
  refine Fld.start ?_
  have e3 := e1
  simp only [Jvm.Term.eval, e, Option.bind_eq_bind, Option.bind_some] at e3
  exact e3
theorem own_fi {Z : State} {args : Array Value} {t : Jvm.Term} {a : Addr} {O n d : String} {k : Int32} (e : t.eval args Z none [] Z = some (.ref a)) (hx : (Jvm.Cond.eq (Jvm.Term.field t O n d) (Jvm.Term.int k)).value args Z none Z [] = some true) : Fld Z Z.heap a O n d (.int k) := by
  refine own_fx e (Jvm.Term.int_eval k) hx fun w k1 k2 h1 h2 => ?_
  obtain ⟨z, rfl⟩ := k1
  simp [Jvm.Cond.value, h2, Jvm.Term.int_eval] at h1
  rw [h1]
theorem d1_0 : decode prog_116_method_5_code 0 = .ok (.invokestatic 47, 3) := by decide +kernel
theorem d1_3 : decode prog_116_method_5_code 3 = .ok (.astore_n 1, 1) := by decide +kernel
theorem d1_4 : decode prog_116_method_5_code 4 = .ok (.aload_n 1, 1) := by decide +kernel
theorem d1_5 : decode prog_116_method_5_code 5 = .ok (.arraylength, 1) := by decide +kernel
theorem d1_6 : decode prog_116_method_5_code 6 = .ok (.istore_n 2, 1) := by decide +kernel
theorem d1_7 : decode prog_116_method_5_code 7 = .ok (.iconst 0, 1) := by decide +kernel
theorem d1_8 : decode prog_116_method_5_code 8 = .ok (.istore_n 3, 1) := by decide +kernel
theorem d1_9 : decode prog_116_method_5_code 9 = .ok (.iload_n 3, 1) := by decide +kernel
theorem d1_10 : decode prog_116_method_5_code 10 = .ok (.iload_n 2, 1) := by decide +kernel
theorem d1_11 : decode prog_116_method_5_code 11 = .ok (.if_icmp .ge 32, 3) := by decide +kernel
theorem d1_14 : decode prog_116_method_5_code 14 = .ok (.aload_n 1, 1) := by decide +kernel
theorem d1_15 : decode prog_116_method_5_code 15 = .ok (.iload_n 3, 1) := by decide +kernel
theorem d1_16 : decode prog_116_method_5_code 16 = .ok (.aaload, 1) := by decide +kernel
theorem d1_17 : decode prog_116_method_5_code 17 = .ok (.astore 4, 2) := by decide +kernel
theorem d1_19 : decode prog_116_method_5_code 19 = .ok (.aload 4, 2) := by decide +kernel
theorem d1_21 : decode prog_116_method_5_code 21 = .ok (.getfield 29, 3) := by decide +kernel
theorem d1_24 : decode prog_116_method_5_code 24 = .ok (.aload_n 0, 1) := by decide +kernel
theorem d1_25 : decode prog_116_method_5_code 25 = .ok (.invokevirtual 51, 3) := by decide +kernel
theorem d1_28 : decode prog_116_method_5_code 28 = .ok (.ifCond .eq 9, 3) := by decide +kernel
theorem d1_31 : decode prog_116_method_5_code 31 = .ok (.aload 4, 2) := by decide +kernel
theorem d1_33 : decode prog_116_method_5_code 33 = .ok (.invokestatic 57, 3) := by decide +kernel
theorem d1_36 : decode prog_116_method_5_code 36 = .ok (.areturn, 1) := by decide +kernel
theorem d1_37 : decode prog_116_method_5_code 37 = .ok (.iinc 3 1, 3) := by decide +kernel
theorem d1_40 : decode prog_116_method_5_code 40 = .ok (.goto (-31), 3) := by decide +kernel
theorem d1_43 : decode prog_116_method_5_code 43 = .ok (.invokestatic 62, 3) := by decide +kernel
theorem d1_46 : decode prog_116_method_5_code 46 = .ok (.areturn, 1) := by decide +kernel
theorem d2_0 : decode prog_116_method_1_code 0 = .ok (.getstatic 10, 3) := by decide +kernel
theorem d2_3 : decode prog_116_method_1_code 3 = .ok (.invokevirtual 14, 3) := by decide +kernel
theorem d2_6 : decode prog_116_method_1_code 6 = .ok (.checkcast 15, 3) := by decide +kernel
theorem d2_9 : decode prog_116_method_1_code 9 = .ok (.areturn, 1) := by decide +kernel
theorem d4_0 : decode jdk_32_method_1_code 0 = .ok (.getstatic 1, 3) := by decide +kernel
theorem d4_3 : decode jdk_32_method_1_code 3 = .ok (.astore_n 0, 1) := by decide +kernel
theorem d4_4 : decode jdk_32_method_1_code 4 = .ok (.aload_n 0, 1) := by decide +kernel
theorem d4_5 : decode jdk_32_method_1_code 5 = .ok (.areturn, 1) := by decide +kernel
theorem d5_0 : decode jdk_32_method_15_code 0 = .ok (.aload_n 0, 1) := by decide +kernel
theorem d5_1 : decode jdk_32_method_15_code 1 = .ok (.getfield 13, 3) := by decide +kernel
theorem d5_4 : decode jdk_32_method_15_code 4 = .ok (.ifnull 10, 3) := by decide +kernel
theorem d5_7 : decode jdk_32_method_15_code 7 = .ok (.aload_n 0, 1) := by decide +kernel
theorem d5_8 : decode jdk_32_method_15_code 8 = .ok (.getfield 13, 3) := by decide +kernel
theorem d5_11 : decode jdk_32_method_15_code 11 = .ok (.goto 4, 3) := by decide +kernel
theorem d5_14 : decode jdk_32_method_15_code 14 = .ok (.aload_n 1, 1) := by decide +kernel
theorem d5_15 : decode jdk_32_method_15_code 15 = .ok (.areturn, 1) := by decide +kernel
theorem d13_0 : decode jdk_32_method_3_code 0 = .ok (.new 2, 3) := by decide +kernel
theorem d13_3 : decode jdk_32_method_3_code 3 = .ok (.dup, 1) := by decide +kernel
theorem d13_4 : decode jdk_32_method_3_code 4 = .ok (.aload_n 0, 1) := by decide +kernel
theorem d13_5 : decode jdk_32_method_3_code 5 = .ok (.invokestatic 17, 3) := by decide +kernel
theorem d13_8 : decode jdk_32_method_3_code 8 = .ok (.invokespecial 23, 3) := by decide +kernel
theorem d13_11 : decode jdk_32_method_3_code 11 = .ok (.areturn, 1) := by decide +kernel
theorem d14_0 : decode jdk_31_method_10_code 0 = .ok (.aload_n 0, 1) := by decide +kernel
theorem d14_1 : decode jdk_31_method_10_code 1 = .ok (.ifnonnull 11, 3) := by decide +kernel
theorem d14_4 : decode jdk_31_method_10_code 4 = .ok (.new 84, 3) := by decide +kernel
theorem d14_7 : decode jdk_31_method_10_code 7 = .ok (.dup, 1) := by decide +kernel
theorem d14_8 : decode jdk_31_method_10_code 8 = .ok (.invokespecial 86, 3) := by decide +kernel
theorem d14_11 : decode jdk_31_method_10_code 11 = .ok (.athrow, 1) := by decide +kernel
theorem d14_12 : decode jdk_31_method_10_code 12 = .ok (.aload_n 0, 1) := by decide +kernel
theorem d14_13 : decode jdk_31_method_10_code 13 = .ok (.areturn, 1) := by decide +kernel
theorem d15_0 : decode jdk_32_method_2_code 0 = .ok (.aload_n 0, 1) := by decide +kernel
theorem d15_1 : decode jdk_32_method_2_code 1 = .ok (.invokespecial 7, 3) := by decide +kernel
theorem d15_4 : decode jdk_32_method_2_code 4 = .ok (.aload_n 0, 1) := by decide +kernel
theorem d15_5 : decode jdk_32_method_2_code 5 = .ok (.aload_n 1, 1) := by decide +kernel
theorem d15_6 : decode jdk_32_method_2_code 6 = .ok (.putfield 13, 3) := by decide +kernel
theorem d15_9 : decode jdk_32_method_2_code 9 = .ok (.return_, 1) := by decide +kernel
theorem d16_0 : decode prog_116_method_4_code 0 = .ok (.aload_n 0, 1) := by decide +kernel
theorem d16_1 : decode prog_116_method_4_code 1 = .ok (.getfield 29, 3) := by decide +kernel
theorem d16_4 : decode prog_116_method_4_code 4 = .ok (.areturn, 1) := by decide +kernel
theorem d10_0 : decode jdk_52_method_21_code 0 = .ok (.iconst 0, 1) := by decide +kernel
theorem d10_1 : decode jdk_52_method_21_code 1 = .ok (.istore 5, 2) := by decide +kernel
theorem d10_3 : decode jdk_52_method_21_code 3 = .ok (.iload 5, 2) := by decide +kernel
theorem d10_5 : decode jdk_52_method_21_code 5 = .ok (.iload 4, 2) := by decide +kernel
theorem d10_7 : decode jdk_52_method_21_code 7 = .ok (.if_icmp .ge 37, 3) := by decide +kernel
theorem d10_10 : decode jdk_52_method_21_code 10 = .ok (.aload_n 0, 1) := by decide +kernel
theorem d10_11 : decode jdk_52_method_21_code 11 = .ok (.iload_n 1, 1) := by decide +kernel
theorem d10_12 : decode jdk_52_method_21_code 12 = .ok (.caload, 1) := by decide +kernel
theorem d10_13 : decode jdk_52_method_21_code 13 = .ok (.istore 6, 2) := by decide +kernel
theorem d10_15 : decode jdk_52_method_21_code 15 = .ok (.iload 6, 2) := by decide +kernel
theorem d10_17 : decode jdk_52_method_21_code 17 = .ok (.sipush 255, 3) := by decide +kernel
theorem d10_20 : decode jdk_52_method_21_code 20 = .ok (.if_icmp .le 6, 3) := by decide +kernel
theorem d10_23 : decode jdk_52_method_21_code 23 = .ok (.iload 5, 2) := by decide +kernel
theorem d10_25 : decode jdk_52_method_21_code 25 = .ok (.ireturn, 1) := by decide +kernel
theorem d10_26 : decode jdk_52_method_21_code 26 = .ok (.aload_n 2, 1) := by decide +kernel
theorem d10_27 : decode jdk_52_method_21_code 27 = .ok (.iload_n 3, 1) := by decide +kernel
theorem d10_28 : decode jdk_52_method_21_code 28 = .ok (.iload 6, 2) := by decide +kernel
theorem d10_30 : decode jdk_52_method_21_code 30 = .ok (.i2b, 1) := by decide +kernel
theorem d10_31 : decode jdk_52_method_21_code 31 = .ok (.bastore, 1) := by decide +kernel
theorem d10_32 : decode jdk_52_method_21_code 32 = .ok (.iinc 1 1, 3) := by decide +kernel
theorem d10_35 : decode jdk_52_method_21_code 35 = .ok (.iinc 3 1, 3) := by decide +kernel
theorem d10_38 : decode jdk_52_method_21_code 38 = .ok (.iinc 5 1, 3) := by decide +kernel
theorem d10_41 : decode jdk_52_method_21_code 41 = .ok (.goto (-38), 3) := by decide +kernel
theorem d10_44 : decode jdk_52_method_21_code 44 = .ok (.iload 4, 2) := by decide +kernel
theorem d10_46 : decode jdk_52_method_21_code 46 = .ok (.ireturn, 1) := by decide +kernel
theorem pn0 : plainName "java/lang/StringUTF16" = true := by first | (simp [plainName, overriddenIn]; done) | decide +kernel
theorem d9_0 : decode jdk_52_method_16_code 0 = .ok (.iload_n 2, 1) := by decide +kernel
theorem d9_1 : decode jdk_52_method_16_code 1 = .ok (.newarray .byte, 2) := by decide +kernel
theorem d9_3 : decode jdk_52_method_16_code 3 = .ok (.astore_n 3, 1) := by decide +kernel
theorem d9_4 : decode jdk_52_method_16_code 4 = .ok (.aload_n 0, 1) := by decide +kernel
theorem d9_5 : decode jdk_52_method_16_code 5 = .ok (.iload_n 1, 1) := by decide +kernel
theorem d9_6 : decode jdk_52_method_16_code 6 = .ok (.aload_n 3, 1) := by decide +kernel
theorem d9_7 : decode jdk_52_method_16_code 7 = .ok (.iconst 0, 1) := by decide +kernel
theorem d9_8 : decode jdk_52_method_16_code 8 = .ok (.iload_n 2, 1) := by decide +kernel
theorem d9_9 : decode jdk_52_method_16_code 9 = .ok (.invokestatic 115, 3) := by decide +kernel
theorem d9_12 : decode jdk_52_method_16_code 12 = .ok (.istore 4, 2) := by decide +kernel
theorem d9_14 : decode jdk_52_method_16_code 14 = .ok (.iload 4, 2) := by decide +kernel
theorem d9_16 : decode jdk_52_method_16_code 16 = .ok (.iload_n 2, 1) := by decide +kernel
theorem d9_17 : decode jdk_52_method_16_code 17 = .ok (.if_icmp .eq 40, 3) := by decide +kernel
theorem d9_20 : decode jdk_52_method_16_code 20 = .ok (.aload_n 0, 1) := by decide +kernel
theorem d9_21 : decode jdk_52_method_16_code 21 = .ok (.iload_n 1, 1) := by decide +kernel
theorem d9_22 : decode jdk_52_method_16_code 22 = .ok (.iload_n 2, 1) := by decide +kernel
theorem d9_23 : decode jdk_52_method_16_code 23 = .ok (.invokestatic 119, 3) := by decide +kernel
theorem d9_26 : decode jdk_52_method_16_code 26 = .ok (.astore 5, 2) := by decide +kernel
theorem d9_28 : decode jdk_52_method_16_code 28 = .ok (.aload 5, 2) := by decide +kernel
theorem d9_30 : decode jdk_52_method_16_code 30 = .ok (.iload 4, 2) := by decide +kernel
theorem d9_32 : decode jdk_52_method_16_code 32 = .ok (.invokestatic 71, 3) := by decide +kernel
theorem d9_35 : decode jdk_52_method_16_code 35 = .ok (.sipush 255, 3) := by decide +kernel
theorem d9_38 : decode jdk_52_method_16_code 38 = .ok (.if_icmp .gt 16, 3) := by decide +kernel
theorem d9_41 : decode jdk_52_method_16_code 41 = .ok (.aload 5, 2) := by decide +kernel
theorem d9_43 : decode jdk_52_method_16_code 43 = .ok (.iconst 0, 1) := by decide +kernel
theorem d9_44 : decode jdk_52_method_16_code 44 = .ok (.aload_n 3, 1) := by decide +kernel
theorem d9_45 : decode jdk_52_method_16_code 45 = .ok (.iconst 0, 1) := by decide +kernel
theorem d9_46 : decode jdk_52_method_16_code 46 = .ok (.iload_n 2, 1) := by decide +kernel
theorem d9_47 : decode jdk_52_method_16_code 47 = .ok (.invokestatic 123, 3) := by decide +kernel
theorem d9_50 : decode jdk_52_method_16_code 50 = .ok (.iload_n 2, 1) := by decide +kernel
theorem d9_51 : decode jdk_52_method_16_code 51 = .ok (.if_icmp .eq 6, 3) := by decide +kernel
theorem d9_54 : decode jdk_52_method_16_code 54 = .ok (.aload 5, 2) := by decide +kernel
theorem d9_56 : decode jdk_52_method_16_code 56 = .ok (.areturn, 1) := by decide +kernel
theorem d9_57 : decode jdk_52_method_16_code 57 = .ok (.aload_n 3, 1) := by decide +kernel
theorem d9_58 : decode jdk_52_method_16_code 58 = .ok (.areturn, 1) := by decide +kernel
theorem pd0 : parseMethodDescriptor "([CI[BII)I" = some ⟨[(.array .char), .int, (.array .byte), .int, .int], some .int⟩ := by decide +kernel
theorem d11_0 : decode jdk_52_method_15_code 0 = .ok (.iload_n 1, 1) := by decide +kernel
theorem d11_1 : decode jdk_52_method_15_code 1 = .ok (.aload_n 0, 1) := by decide +kernel
theorem d11_2 : decode jdk_52_method_15_code 2 = .ok (.arraylength, 1) := by decide +kernel
theorem d11_3 : decode jdk_52_method_15_code 3 = .ok (.isub, 1) := by decide +kernel
theorem d11_4 : decode jdk_52_method_15_code 4 = .ok (.bipush 31, 2) := by decide +kernel
theorem d11_6 : decode jdk_52_method_15_code 6 = .ok (.iushr, 1) := by decide +kernel
theorem d11_7 : decode jdk_52_method_15_code 7 = .ok (.i2b, 1) := by decide +kernel
theorem d11_8 : decode jdk_52_method_15_code 8 = .ok (.ireturn, 1) := by decide +kernel
theorem d7_0 : decode jdk_42_method_149_code 0 = .ok (.aload_n 0, 1) := by decide +kernel
theorem d7_1 : decode jdk_42_method_149_code 1 = .ok (.invokespecial 1, 3) := by decide +kernel
theorem d7_4 : decode jdk_42_method_149_code 4 = .ok (.iload_n 3, 1) := by decide +kernel
theorem d7_5 : decode jdk_42_method_149_code 5 = .ok (.ifCond .ne 22, 3) := by decide +kernel
theorem d7_8 : decode jdk_42_method_149_code 8 = .ok (.aload_n 0, 1) := by decide +kernel
theorem d7_9 : decode jdk_42_method_149_code 9 = .ok (.ldc 7, 2) := by decide +kernel
theorem d7_11 : decode jdk_42_method_149_code 11 = .ok (.getfield 9, 3) := by decide +kernel
theorem d7_14 : decode jdk_42_method_149_code 14 = .ok (.putfield 9, 3) := by decide +kernel
theorem d7_17 : decode jdk_42_method_149_code 17 = .ok (.aload_n 0, 1) := by decide +kernel
theorem d7_18 : decode jdk_42_method_149_code 18 = .ok (.ldc 7, 2) := by decide +kernel
theorem d7_20 : decode jdk_42_method_149_code 20 = .ok (.getfield 15, 3) := by decide +kernel
theorem d7_23 : decode jdk_42_method_149_code 23 = .ok (.putfield 15, 3) := by decide +kernel
theorem d7_26 : decode jdk_42_method_149_code 26 = .ok (.return_, 1) := by decide +kernel
theorem d7_27 : decode jdk_42_method_149_code 27 = .ok (.getstatic 38, 3) := by decide +kernel
theorem d7_30 : decode jdk_42_method_149_code 30 = .ok (.ifCond .eq 28, 3) := by decide +kernel
theorem d7_33 : decode jdk_42_method_149_code 33 = .ok (.aload_n 1, 1) := by decide +kernel
theorem d7_34 : decode jdk_42_method_149_code 34 = .ok (.iload_n 2, 1) := by decide +kernel
theorem d7_35 : decode jdk_42_method_149_code 35 = .ok (.iload_n 3, 1) := by decide +kernel
theorem d7_36 : decode jdk_42_method_149_code 36 = .ok (.invokestatic 177, 3) := by decide +kernel
theorem d7_39 : decode jdk_42_method_149_code 39 = .ok (.astore 5, 2) := by decide +kernel
theorem d7_41 : decode jdk_42_method_149_code 41 = .ok (.aload_n 0, 1) := by decide +kernel
theorem d7_42 : decode jdk_42_method_149_code 42 = .ok (.aload 5, 2) := by decide +kernel
theorem d7_44 : decode jdk_42_method_149_code 44 = .ok (.iload_n 3, 1) := by decide +kernel
theorem d7_45 : decode jdk_42_method_149_code 45 = .ok (.invokestatic 47, 3) := by decide +kernel
theorem d7_48 : decode jdk_42_method_149_code 48 = .ok (.putfield 15, 3) := by decide +kernel
theorem d7_51 : decode jdk_42_method_149_code 51 = .ok (.aload_n 0, 1) := by decide +kernel
theorem d7_52 : decode jdk_42_method_149_code 52 = .ok (.aload 5, 2) := by decide +kernel
theorem d7_54 : decode jdk_42_method_149_code 54 = .ok (.putfield 9, 3) := by decide +kernel
theorem d7_57 : decode jdk_42_method_149_code 57 = .ok (.return_, 1) := by decide +kernel
theorem d7_58 : decode jdk_42_method_149_code 58 = .ok (.aload_n 0, 1) := by decide +kernel
theorem d7_59 : decode jdk_42_method_149_code 59 = .ok (.iconst 1, 1) := by decide +kernel
theorem d7_60 : decode jdk_42_method_149_code 60 = .ok (.putfield 15, 3) := by decide +kernel
theorem d7_63 : decode jdk_42_method_149_code 63 = .ok (.aload_n 0, 1) := by decide +kernel
theorem d7_64 : decode jdk_42_method_149_code 64 = .ok (.aload_n 1, 1) := by decide +kernel
theorem d7_65 : decode jdk_42_method_149_code 65 = .ok (.iload_n 2, 1) := by decide +kernel
theorem d7_66 : decode jdk_42_method_149_code 66 = .ok (.iload_n 3, 1) := by decide +kernel
theorem d7_67 : decode jdk_42_method_149_code 67 = .ok (.invokestatic 180, 3) := by decide +kernel
theorem d7_70 : decode jdk_42_method_149_code 70 = .ok (.putfield 9, 3) := by decide +kernel
theorem d7_73 : decode jdk_42_method_149_code 73 = .ok (.return_, 1) := by decide +kernel
theorem pn1 : plainName "java/lang/String" = true := by first | (simp [plainName, overriddenIn]; done) | decide +kernel
theorem pd1 : parseMethodDescriptor "([CII)[B" = some ⟨[(.array .char), .int, .int], some (.array .byte)⟩ := by decide +kernel
theorem pd2 : parseMethodDescriptor "([BI)B" = some ⟨[(.array .byte), .int], some .byte⟩ := by decide +kernel
theorem d6_0 : decode jdk_42_method_3_code 0 = .ok (.aload_n 0, 1) := by decide +kernel
theorem d6_1 : decode jdk_42_method_3_code 1 = .ok (.aload_n 1, 1) := by decide +kernel
theorem d6_2 : decode jdk_42_method_3_code 2 = .ok (.iconst 0, 1) := by decide +kernel
theorem d6_3 : decode jdk_42_method_3_code 3 = .ok (.aload_n 1, 1) := by decide +kernel
theorem d6_4 : decode jdk_42_method_3_code 4 = .ok (.arraylength, 1) := by decide +kernel
theorem d6_5 : decode jdk_42_method_3_code 5 = .ok (.aconst_null, 1) := by decide +kernel
theorem d6_6 : decode jdk_42_method_3_code 6 = .ok (.invokespecial 27, 3) := by decide +kernel
theorem d6_9 : decode jdk_42_method_3_code 9 = .ok (.return_, 1) := by decide +kernel
theorem pd3 : parseMethodDescriptor "([CIILjava/lang/Void;)V" = some ⟨[(.array .char), .int, .int, (.object "java/lang/Void")], none⟩ := by decide +kernel
theorem d12_0 : decode jdk_43_method_13_code 0 = .ok (.aload_n 0, 1) := by decide +kernel
theorem d12_1 : decode jdk_43_method_13_code 1 = .ok (.arraylength, 1) := by decide +kernel
theorem d12_2 : decode jdk_43_method_13_code 2 = .ok (.aload_n 1, 1) := by decide +kernel
theorem d12_3 : decode jdk_43_method_13_code 3 = .ok (.arraylength, 1) := by decide +kernel
theorem d12_4 : decode jdk_43_method_13_code 4 = .ok (.if_icmp .ne 30, 3) := by decide +kernel
theorem d12_7 : decode jdk_43_method_13_code 7 = .ok (.iconst 0, 1) := by decide +kernel
theorem d12_8 : decode jdk_43_method_13_code 8 = .ok (.istore_n 2, 1) := by decide +kernel
theorem d12_9 : decode jdk_43_method_13_code 9 = .ok (.iload_n 2, 1) := by decide +kernel
theorem d12_10 : decode jdk_43_method_13_code 10 = .ok (.aload_n 0, 1) := by decide +kernel
theorem d12_11 : decode jdk_43_method_13_code 11 = .ok (.arraylength, 1) := by decide +kernel
theorem d12_12 : decode jdk_43_method_13_code 12 = .ok (.if_icmp .ge 20, 3) := by decide +kernel
theorem d12_15 : decode jdk_43_method_13_code 15 = .ok (.aload_n 0, 1) := by decide +kernel
theorem d12_16 : decode jdk_43_method_13_code 16 = .ok (.iload_n 2, 1) := by decide +kernel
theorem d12_17 : decode jdk_43_method_13_code 17 = .ok (.baload, 1) := by decide +kernel
theorem d12_18 : decode jdk_43_method_13_code 18 = .ok (.aload_n 1, 1) := by decide +kernel
theorem d12_19 : decode jdk_43_method_13_code 19 = .ok (.iload_n 2, 1) := by decide +kernel
theorem d12_20 : decode jdk_43_method_13_code 20 = .ok (.baload, 1) := by decide +kernel
theorem d12_21 : decode jdk_43_method_13_code 21 = .ok (.if_icmp .eq 5, 3) := by decide +kernel
theorem d12_24 : decode jdk_43_method_13_code 24 = .ok (.iconst 0, 1) := by decide +kernel
theorem d12_25 : decode jdk_43_method_13_code 25 = .ok (.ireturn, 1) := by decide +kernel
theorem d12_26 : decode jdk_43_method_13_code 26 = .ok (.iinc 2 1, 3) := by decide +kernel
theorem d12_29 : decode jdk_43_method_13_code 29 = .ok (.goto (-20), 3) := by decide +kernel
theorem d12_32 : decode jdk_43_method_13_code 32 = .ok (.iconst 1, 1) := by decide +kernel
theorem d12_33 : decode jdk_43_method_13_code 33 = .ok (.ireturn, 1) := by decide +kernel
theorem d12_34 : decode jdk_43_method_13_code 34 = .ok (.iconst 0, 1) := by decide +kernel
theorem d12_35 : decode jdk_43_method_13_code 35 = .ok (.ireturn, 1) := by decide +kernel
theorem pn2 : plainName "java/lang/StringLatin1" = true := by first | (simp [plainName, overriddenIn]; done) | decide +kernel
theorem d3_0 : decode jdk_42_method_66_code 0 = .ok (.aload_n 0, 1) := by decide +kernel
theorem d3_1 : decode jdk_42_method_66_code 1 = .ok (.aload_n 1, 1) := by decide +kernel
theorem d3_2 : decode jdk_42_method_66_code 2 = .ok (.if_acmp .ne 5, 3) := by decide +kernel
theorem d3_5 : decode jdk_42_method_66_code 5 = .ok (.iconst 1, 1) := by decide +kernel
theorem d3_6 : decode jdk_42_method_66_code 6 = .ok (.ireturn, 1) := by decide +kernel
theorem d3_7 : decode jdk_42_method_66_code 7 = .ok (.aload_n 1, 1) := by decide +kernel
theorem d3_8 : decode jdk_42_method_66_code 8 = .ok (.instanceof 10, 3) := by decide +kernel
theorem d3_11 : decode jdk_42_method_66_code 11 = .ok (.ifCond .eq 43, 3) := by decide +kernel
theorem d3_14 : decode jdk_42_method_66_code 14 = .ok (.aload_n 1, 1) := by decide +kernel
theorem d3_15 : decode jdk_42_method_66_code 15 = .ok (.checkcast 10, 3) := by decide +kernel
theorem d3_18 : decode jdk_42_method_66_code 18 = .ok (.astore_n 2, 1) := by decide +kernel
theorem d3_19 : decode jdk_42_method_66_code 19 = .ok (.getstatic 38, 3) := by decide +kernel
theorem d3_22 : decode jdk_42_method_66_code 22 = .ok (.ifCond .eq 14, 3) := by decide +kernel
theorem d3_25 : decode jdk_42_method_66_code 25 = .ok (.aload_n 0, 1) := by decide +kernel
theorem d3_26 : decode jdk_42_method_66_code 26 = .ok (.getfield 15, 3) := by decide +kernel
theorem d3_29 : decode jdk_42_method_66_code 29 = .ok (.aload_n 2, 1) := by decide +kernel
theorem d3_30 : decode jdk_42_method_66_code 30 = .ok (.getfield 15, 3) := by decide +kernel
theorem d3_33 : decode jdk_42_method_66_code 33 = .ok (.if_icmp .ne 21, 3) := by decide +kernel
theorem d3_36 : decode jdk_42_method_66_code 36 = .ok (.aload_n 0, 1) := by decide +kernel
theorem d3_37 : decode jdk_42_method_66_code 37 = .ok (.getfield 9, 3) := by decide +kernel
theorem d3_40 : decode jdk_42_method_66_code 40 = .ok (.aload_n 2, 1) := by decide +kernel
theorem d3_41 : decode jdk_42_method_66_code 41 = .ok (.getfield 9, 3) := by decide +kernel
theorem d3_44 : decode jdk_42_method_66_code 44 = .ok (.invokestatic 541, 3) := by decide +kernel
theorem d3_47 : decode jdk_42_method_66_code 47 = .ok (.ifCond .eq 7, 3) := by decide +kernel
theorem d3_50 : decode jdk_42_method_66_code 50 = .ok (.iconst 1, 1) := by decide +kernel
theorem d3_51 : decode jdk_42_method_66_code 51 = .ok (.goto 4, 3) := by decide +kernel
theorem d3_54 : decode jdk_42_method_66_code 54 = .ok (.iconst 0, 1) := by decide +kernel
theorem d3_55 : decode jdk_42_method_66_code 55 = .ok (.ireturn, 1) := by decide +kernel
theorem pd4 : parseMethodDescriptor "([B[B)Z" = some ⟨[(.array .byte), (.array .byte)], some .boolean⟩ := by decide +kernel
theorem pn3 : plainName "com/example/mapwright/mapwright/sql/Dialect" = true := by first | (simp [plainName, overriddenIn]; done) | decide +kernel
theorem pn4 : plainName "java/util/Optional" = true := by first | (simp [plainName, overriddenIn]; done) | decide +kernel
theorem pn5 : plainName "java/util/Objects" = true := by first | (simp [plainName, overriddenIn]; done) | decide +kernel
theorem pd5 : parseMethodDescriptor "(Ljava/lang/Object;)Ljava/lang/Object;" = some ⟨[(.object "java/lang/Object")], some (.object "java/lang/Object")⟩ := by decide +kernel
theorem pd6 : parseMethodDescriptor "(Ljava/lang/Object;)V" = some ⟨[(.object "java/lang/Object")], none⟩ := by decide +kernel
theorem pd7 : parseMethodDescriptor "()[Lcom/example/mapwright/mapwright/sql/Dialect;" = some ⟨[], some (.array (.object "com/example/mapwright/mapwright/sql/Dialect"))⟩ := by decide +kernel
theorem pd8 : parseMethodDescriptor "(Ljava/lang/Object;)Z" = some ⟨[(.object "java/lang/Object")], some .boolean⟩ := by decide +kernel
theorem pd9 : parseMethodDescriptor "()Ljava/util/Optional;" = some ⟨[], some (.object "java/util/Optional")⟩ := by decide +kernel
theorem pd10 : parseMethodDescriptor "(Ljava/lang/Object;)Ljava/util/Optional;" = some ⟨[(.object "java/lang/Object")], some (.object "java/util/Optional")⟩ := by decide +kernel
theorem pn6 : plainName "com/example/mapwright/mapwright/sql/DialectForSettingValuePinLaw" = true := by first | (simp [plainName, overriddenIn]; done) | decide +kernel
theorem pd11 : parseMethodDescriptor "(Ljava/lang/String;)Ljava/util/Optional;" = some ⟨[(.object "java/lang/String")], some (.object "java/util/Optional")⟩ := by decide +kernel
theorem pd12 : parseMethodDescriptor "()Ljava/lang/String;" = some ⟨[], some (.object "java/lang/String")⟩ := by decide +kernel
theorem pd13 : parseMethodDescriptor "([C)V" = some ⟨[(.array .char)], none⟩ := by decide +kernel
def own_b (c : Int32) : Int32 := c.toInt8.toInt32
theorem own_bb (c : Int32) : nar .byte (own_b c) = own_b c := by simp [nar, own_b]
def own_ch (cs : List Int32) : Prop := ∀ c ∈ cs, ¬ c < 0 ∧ ¬ (255 : Int32) < c
def own_bl : List Int32 → Nat → List Value
  | [], _ => []
  | _ :: cs, 0 => .int 0 :: own_bl cs 0
  | c :: cs, i + 1 => .int (own_b c) :: own_bl cs i
theorem own_bl_len : ∀ (cs : List Int32) (i : Nat), (own_bl cs i).length = cs.length
  | [], _ => rfl
  | _ :: cs, 0 => by simp [own_bl, own_bl_len cs 0]
  | _ :: cs, i + 1 => by simp [own_bl, own_bl_len cs i]
theorem own_bl_set : ∀ (cs : List Int32) (i : Nat), i < cs.length → (own_bl cs i).set i (.int (own_b (cs.getD i 0))) = own_bl cs (i + 1)
  | [], _, h => absurd h (Nat.not_lt_zero _)
  | c :: cs, 0, _ => by simp [own_bl]
  | c :: cs, i + 1, h => by
    have q := own_bl_set cs i (by simpa using h)
    simp only [own_bl, List.set_cons_succ, List.getD_cons_succ, q]
theorem own_bl_all : ∀ (cs : List Int32), own_bl cs cs.length = cs.map fun c => .int (own_b c)
  | [] => rfl
  | c :: cs => by simp [own_bl, own_bl_all cs]
theorem own_bl_0 : ∀ (cs : List Int32) (i : Nat), (own_bl cs 0).getD i (.int 0) = .int 0
  | [], i => by simp [own_bl]
  | c :: cs, 0 => by simp [own_bl]
  | c :: cs, i + 1 => by simp only [own_bl, List.getD_cons_succ]; exact own_bl_0 cs i
theorem own_gd (cs : List Int32) (i : Nat) : (cs.map Value.int).getD i (.int 0) = .int (cs.getD i 0) := by
  simp only [List.getD_eq_getElem?_getD, List.getElem?_map]
  cases cs[i]? <;> rfl
theorem own_gb (cs : List Int32) (i : Nat) : (cs.map fun c => Value.int (own_b c)).getD i (.int 0) = .int (own_b (cs.getD i 0)) := by
  simp only [List.getD_eq_getElem?_getD, List.getElem?_map]
  cases cs[i]? <;> rfl
theorem own_gm (cs : List Int32) (i : Nat) (h : i < cs.length) : cs.getD i 0 ∈ cs := by
  rw [List.getD_eq_getElem?_getD, List.getElem?_eq_getElem h]; exact List.getElem_mem h
theorem own_b_and : ∀ k : Fin 256, own_b (Int32.ofNat k.val) &&& 255 = Int32.ofNat k.val := by decide +kernel
theorem own_b_back {c : Int32} (h : ¬ c < 0 ∧ ¬ (255 : Int32) < c) : own_b c &&& 255 = c := by
  have q := nat_of h.1
  have h2 := h.2
  rw [Int32.lt_iff_toInt_lt] at h2
  have e : (255 : Int32).toInt = 255 := rfl
  have z := own_b_and ⟨c.toNatClampNeg, by omega⟩
  have e2 : Int32.ofNat c.toNatClampNeg = c := (back32 h.1).1
  simp only [e2] at z
  exact z
theorem own_b_inj {c d : Int32} (h : ¬ c < 0 ∧ ¬ (255 : Int32) < c) (h' : ¬ d < 0 ∧ ¬ (255 : Int32) < d) (e : own_b c = own_b d) : c = d := by
  rw [← own_b_back h, ← own_b_back h', e]
theorem own_list {a b : List Int32} (hl : a.length = b.length) (h : ∀ k, k < a.length → a.getD k 0 = b.getD k 0) : a = b := by
  apply List.ext_getElem hl
  intro i h1 h2
  have q := h i h1
  rw [List.getD_eq_getElem?_getD, List.getD_eq_getElem?_getD, List.getElem?_eq_getElem h1, List.getElem?_eq_getElem h2] at q
  exact q
def own_bi (b : Bool) : Int32 := if b = true then 1 else 0
theorem own_bi0 (b : Bool) : own_bi b = 0 ↔ b = false := by cases b <;> decide
theorem own_bin (b : Bool) : nar .boolean (own_bi b) = own_bi b := by cases b <;> decide
/-- the String at a spells cs (Latin-1) -/
def Str (Z : State) (h : Heap) (a : Addr) (cs : List Int32) : Prop := Exa Z h a "java/lang/String" ∧ Fld Z h a "java/lang/String" "coder" "B" (.int 0) ∧ ∃ (b : Addr) (k : ClassId) (n : Int32), Fld Z h a "java/lang/String" "value" "[B" (.ref b) ∧ Arv Z h b k .byte n (cs.map fun c => .int (own_b c)) (.int 0) ∧ n.toNatClampNeg = cs.length
theorem Str.ext {Z : State} {h h' : Heap} {a : Addr} {cs : List Int32} (X : Str Z h a cs) (E : Ext h h') : Str Z h' a cs := by
  obtain ⟨h1, h2, b, k, n, h3, h4, h5⟩ := X
  exact ⟨h1.ext E, h2.ext E, b, k, n, h3.ext E, h4.ext E, h5⟩
theorem own_fldinj {Z : State} {h : Heap} {a : Addr} {C n d : String} {v w : Value} (F : Fld Z h a C n d v) (G : Fld Z h a C n d w) : v = w := by
  obtain ⟨c1, _, _, _, _, h1, h2, -, -, -, -, h7⟩ := F
  obtain ⟨c2, _, _, _, _, g1, g2, -, -, -, -, g7⟩ := G
  cases h1.symm.trans g1; cases h2.symm.trans g2; exact Option.some.inj (h7.symm.trans g7)
theorem Str.inj {Z : State} {h : Heap} {a : Addr} {cs cs' : List Int32} (X : Str Z h a cs) (Y : Str Z h a cs') (hc : own_ch cs) (hc' : own_ch cs') : cs = cs' := by
  obtain ⟨-, -, b, k, n, h3, h4, h5⟩ := X
  obtain ⟨-, -, b', k', n', g3, g4, g5⟩ := Y
  cases own_fldinj h3 g3
  obtain ⟨c1, A1, -, S1, -, H1, -⟩ := h4
  obtain ⟨c2, A2, -, S2, -, H2, -⟩ := g4
  cases A1.1.symm.trans A2.1
  have hl : cs.length = cs'.length := by omega
  refine own_list hl fun i hi => ?_
  have e1 := H1 i (by omega)
  have e2 := H2 i (by omega)
  rw [own_gb] at e1 e2
  have e := Option.some.inj (e1.symm.trans e2)
  injection e with e
  exact own_b_inj (hc _ (own_gm cs i hi)) (hc' _ (own_gm cs' i (by omega))) e
theorem own_n {n : Int32} {k : Nat} (h0 : ¬ n < 0) (h : n.toNatClampNeg = k) : n.toInt = k := by rw [nat_of h0, h]
theorem own_ltI {x n : Int32} {i k : Nat} (h1 : x.toInt = i) (h2 : n.toInt = k) (h : i < k) : x < n := by rw [Int32.lt_iff_toInt_lt]; omega
theorem own_geI {x n : Int32} {i k : Nat} (h1 : x.toInt = i) (h2 : n.toInt = k) (h : k ≤ i) : ¬ x < n := by rw [Int32.lt_iff_toInt_lt]; omega
theorem own_inc1 {x : Int32} {i : Nat} (h1 : x.toInt = i) (h : i < 100000) : (x + 1).toInt = ((i + 1 : Nat) : Int) := by
  have e3 : (1 : Int32).toInt = 1 := rfl
  rw [XT.add32 ⟨by omega, by omega⟩]; omega
theorem own_nn {x : Int32} {i : Nat} (h1 : x.toInt = i) : ¬ x < 0 := by rw [XT.negI32]; omega
theorem own_cl {x : Int32} {i : Nat} (h1 : x.toInt = i) : x.toNatClampNeg = i := by
  have := nat_of (own_nn h1); omega
theorem own_nar256 : ∀ k : Fin 256, nar .char (Int32.ofNat k.val) = Int32.ofNat k.val := by decide +kernel
theorem own_rng256 {P : Int32 → Prop} (H : ∀ k : Fin 256, P (Int32.ofNat k.val)) {c : Int32} (h : ¬ c < 0 ∧ ¬ (255 : Int32) < c) : P c := by
  have q := nat_of h.1
  have h2 := h.2
  rw [Int32.lt_iff_toInt_lt] at h2
  have e : (255 : Int32).toInt = 255 := rfl
  have z := H ⟨c.toNatClampNeg, by omega⟩
  have e2 : Int32.ofNat c.toNatClampNeg = c := (back32 h.1).1
  simp only [e2] at z
  exact z
theorem own_nar {c : Int32} (h : ¬ c < 0 ∧ ¬ (255 : Int32) < c) : nar .char c = c := own_rng256 (P := fun c => nar .char c = c) own_nar256 h
theorem own_ch0 : own_ch [] := fun _ h => nomatch h
theorem own_chS {c : Int32} {cs : List Int32} (h : ¬ c < 0 ∧ ¬ (255 : Int32) < c) (t : own_ch cs) : own_ch (c :: cs) := fun x hx => (List.mem_cons.mp hx).elim (fun e => e ▸ h) (t x)
theorem own_u16 (t : UInt32) (h : t.toNat < 65536) : t.toUInt16.toUInt32 = t := by
  apply UInt32.toNat_inj.mp
  rw [UInt16.toNat_toUInt32, UInt32.toNat_toUInt16]
  exact Nat.mod_eq_of_lt h
theorem own_nc' (x : Int32) : x.toUInt32.toUInt16.toUInt32.toInt32.toUInt32.toUInt16.toUInt32.toInt32 = x.toUInt32.toUInt16.toUInt32.toInt32 := by
  have : x.toUInt32.toUInt16.toUInt32.toInt32.toUInt32 = x.toUInt32.toUInt16.toUInt32 := rfl
  rw [this, own_u16 x.toUInt32.toUInt16.toUInt32 (by rw [UInt16.toNat_toUInt32]; exact UInt16.toNat_lt _)]
theorem own_nc (x : Int32) : nar .char x.toUInt32.toUInt16.toUInt32.toInt32 = x.toUInt32.toUInt16.toUInt32.toInt32 := own_nc' x
theorem own_m255 (x : Int32) : (x &&& 255).toUInt32.toNat ≤ 255 := by
  have q : (x &&& 255).toUInt32.toNat = x.toBitVec.toNat &&& 255 := by
    show (x &&& 255).toBitVec.toNat = _
    simp
  rw [q]; exact Nat.and_le_right
theorem own_c255 (x : Int32) : ¬ (x &&& 255).toUInt32.toUInt16.toUInt32.toInt32 < 0 ∧ ¬ (255 : Int32) < (x &&& 255).toUInt32.toUInt16.toUInt32.toInt32 := by
  have h2 := own_m255 x
  rw [own_u16 _ (by omega)]
  have e : (x &&& 255).toUInt32.toInt32.toInt = (x &&& 255).toUInt32.toNat := by
    show ((x &&& 255).toUInt32).toBitVec.toInt = _
    rw [BitVec.toInt_eq_toNat_of_lt]
    · rfl
    · show 2 * (x &&& 255).toUInt32.toNat < 2 ^ 32
      omega
  constructor
  · rw [XT.negI32]; omega
  · rw [Int32.lt_iff_toInt_lt]; have : (255 : Int32).toInt = 255 := rfl; omega
theorem own_rf {v : Value} {t : FieldType} (h : v.isRef = true) (ht : t.isReference = true) : fits t v = true ∧ narrow t v = v := by
  rcases ref_cases h with rfl | ⟨a, rfl⟩ <;> cases t <;> simp_all [FieldType.isReference, fits, narrow]
theorem own_comp {s : State} {args a0 : Array Value} (hw1 : (Jvm.Cond.initializedFor "java/lang/String" "COMPACT_STRINGS" "Z").before args s = true) (h1 : (Jvm.Cond.isInt (Jvm.Term.static "java/lang/String" "COMPACT_STRINGS" "Z")).before args s = true) (h2 : (Jvm.Cond.not (Jvm.Cond.eq (Jvm.Term.static "java/lang/String" "COMPACT_STRINGS" "Z") (Jvm.Term.int 0))).before args s = true) : ∃ cz : Int32, ¬ cz = 0 ∧ Sta s s.heap "java/lang/String" "COMPACT_STRINGS" "Z" (.int cz) := by
  obtain ⟨cz, ev⟩ := is_v (Cond.before_iff.mp h1)
  refine ⟨cz, fun e => ?_, Sta.start ev (Or.inl hw1)⟩
  have q := not_v (Cond.before_iff.mp h2)
  simp [Jvm.Cond.value, ev, Jvm.Term.int_eval, e] at q
theorem own_modm (x k n : Int32) (hk : ¬ k < 0) (hn : 0 < n.toInt) : 0 ≤ ((x &&& k) % n).toInt ∧ ((x &&& k) % n).toInt < n.toInt := by
  have h0 : ¬ (x &&& k) < 0 := fun q => absurd ((XT.and_neg32 x k).mp q).2 hk
  rw [XT.negI32] at h0
  rw [Int32.toInt_mod]
  exact ⟨Int.tmod_nonneg _ (by omega), Int.tmod_lt_of_pos _ hn⟩
theorem own_mod (x n : Int32) (hn : 0 < n.toInt) : 0 ≤ ((x &&& 2147483647) % n).toInt ∧ ((x &&& 2147483647) % n).toInt < n.toInt := by
  have h0 : ¬ (x &&& 2147483647) < 0 := fun q => absurd ((XT.and_neg32 x 2147483647).mp q).2 (by decide)
  rw [XT.negI32] at h0
  rw [Int32.toInt_mod]
  exact ⟨Int.tmod_nonneg _ (by omega), Int.tmod_lt_of_pos _ hn⟩
set_option maxRecDepth 65536
set_option maxHeartbeats 4000000
theorem own_wS {Z : State} {b0 : Array Value} (hw : ∀ d ∈ tables_1, d.before b0 Z = true) : ∀ a ∈ Bundle.stringAtoms, a.before b0 Z = true := by
  intro a ha
  simp only [Bundle.stringAtoms, List.mem_cons, List.not_mem_nil, or_false] at ha
  rcases ha with rfl | rfl | rfl | rfl | rfl | rfl | rfl
  · exact tw hw 27
  · exact tw hw 43
  · exact tw hw 59
  · exact tw hw 69
  · exact tw hw 67
  · exact tw hw 71
  · exact tw hw 72
theorem own_ew0 {Z : State} {b0 : Array Value} (hw : ∀ d ∈ tables_1, d.before b0 Z = true) : EW Z b0 own_EL := (EW.cons (tw hw 80) (by decide) (EW.cons (tw hw 70) (by decide) (EW.cons (tw hw 79) (by decide) EW.nil)))
theorem con_cmpL (l : Launch) (Z : State) (b0 : Array Value) (hw : ∀ d ∈ tables_1, d.before b0 Z = true) (src dst : Addr) (ks kd : ClassId) (n : Int32) (cs : List Int32) (hn : n.toNatClampNeg = cs.length) (hbig : cs.length < 5000) (hcs : own_ch cs) (h0 : Heap) (hE : Ext Z.heap h0) (As : Arv Z h0 src ks .char n (cs.map Value.int) (.int 0)) (Ad : Arv Z h0 dst kd .byte n (own_bl cs 0) (.int 0)) (hne : src ≠ dst) (zd : Z.heap.size ≤ dst) : Con l Z (⟨"java/lang/StringUTF16", "compress", "([CI[BII)I"⟩ : MethodName) jdk_52_method_21_code 7 (some .int) ({ frames := 0, cells := 0, slots := 0, locals := 0 } : Room) #[(.ref src), (.int 0), (.ref dst), (.int 0), (.int n)] h0 [dst] (QV fun w h => w = .int n ∧ Keep h0 h [dst] ∧ Arv Z h dst kd .byte n (cs.map fun c => .int (own_b c)) (.int 0)) := by
  refine Con.of (plainFor_of_name pn0) hE ⟨b0, own_ew0 hw⟩ (fun x hx => by rw [List.mem_singleton.mp hx]; exact Ad.lt) (L0 := #[.val (.ref src), .val (.int 0), .val (.ref dst), .val (.int 0), .val (.int n), .unset, .unset]) (fun m => by first | (simp [entryFrame, mkF, argsToLocals, Value.category]; done) | rfl) ?_
  intro p e s m args below meth c T W
  have hn0 : ¬ n < 0 := by obtain ⟨cl, A1, A2, A3, A4, A5, A6⟩ := As; exact A4
  have hnI := own_n hn0 hn
  have loop : ∀ (r i : Nat) (x : Int32) (T : State) (h : Heap) (s6 : Slot), i + r = cs.length → x.toInt = i → (s6 = .unset ∨ ∃ w, s6 = .val w ∧ w.category = 1) → Wk p l e ({ frames := 0, cells := 0, slots := 0, locals := 0 } : Room) s m args below meth c Z (⟨"java/lang/StringUTF16", "compress", "([CI[BII)I"⟩ : MethodName) jdk_52_method_21_code 7 (some .int) T h 0 0 [dst] → Arv Z h src ks .char n (cs.map Value.int) (.int 0) → Arv Z h dst kd .byte n (own_bl cs i) (.int 0) → Keep h0 h [dst] → Go p e below (Gd s below Z (QV fun w h => w = .int n ∧ Keep h0 h [dst] ∧ Arv Z h dst kd .byte n (cs.map fun c => .int (own_b c)) (.int 0)) (({ frames := 0, cells := 0, slots := 0, locals := 0 } : Room)).cells (({ frames := 0, cells := 0, slots := 0, locals := 0 } : Room)).slots) T (mkF m 3 #[.val (.ref src), .val (.int x), .val (.ref dst), .val (.int x), .val (.int n), .val (.int x), s6] []) := by
    intro r
    induction r with
    | zero =>
      intro i x T h s6 hi hx h6 W As Ad K
      refine o_iload 5 W d10_3 rfl ?_
      refine o_iload 7 W d10_5 rfl ?_
      refine o_icY 44 W d10_7 (XT.ii_ge_t (own_geI hx hnI (by omega))) ?_
      refine o_iload 46 W d10_44 rfl ?_
      have e : i = cs.length := by omega
      rw [e, own_bl_all] at Ad
      exact o_iret W d10_46 (⟨rfl, K, Ad⟩)
    | succ r ih =>
      intro i x T h s6 hi hx h6 W As Ad K
      have hlt : i < cs.length := by omega
      have hj := And.intro (own_nn hx) (own_ltI hx hnI hlt)
      have hc := hcs _ (own_gm cs i hlt)
      refine o_iload 5 W d10_3 rfl ?_
      refine o_iload 7 W d10_5 rfl ?_
      refine o_icN 10 W d10_7 (XT.ii_ge_f (own_ltI hx hnI hlt)) ?_
      refine o_aloadN 11 W d10_10 rfl rfl ?_
      refine o_iloadN 12 W d10_11 rfl ?_
      refine o_caloadV 13 W As hj ((congrArg (fun z => (cs.map Value.int).getD z (.int 0)) (own_cl hx)).trans (own_gd cs i)) d10_12 ?_
      refine o_istore 15 W #[.val (.ref src), .val (.int x), .val (.ref dst), .val (.int x), .val (.int n), .val (.int x), .val (.int (cs.getD i 0))] d10_13 (by first | exact XS.store1 rfl h6 rfl | (rcases h6 with rfl | ⟨w, rfl, hw6⟩ <;> first | rfl | simp [storeLocals, storeSelf, setAt, hw6])) ?_
      refine o_iload 17 W d10_15 rfl ?_
      refine o_sipush 20 W (255) d10_17 (by first | rfl | decide) ?_
      refine o_icY 26 W d10_20 (XT.ii_le_t hc.2) ?_
      refine o_aloadN 27 W d10_26 rfl rfl ?_
      refine o_iloadN 28 W d10_27 rfl ?_
      refine o_iload 30 W d10_28 rfl ?_
      refine o_i2b 31 W d10_30 ?_
      refine o_bastore 32 i W Ad hj (own_cl hx) (by rw [own_bl_len]; exact hlt) (List.mem_singleton.mpr rfl) zd d10_31 (fun T h W w1 Ad => ?_)
      have Ad : Arv Z h dst kd .byte n (own_bl cs (i + 1)) (.int 0) := by rw [← own_bl_set cs i hlt, ← own_bb]; exact Ad
      refine o_iinc 35 W (x + (1 : Int32)) #[.val (.ref src), .val (.int (x + (1 : Int32))), .val (.ref dst), .val (.int x), .val (.int n), .val (.int x), .val (.int (cs.getD i 0))] d10_32 rfl rfl rfl ?_
      refine o_iinc 38 W (x + (1 : Int32)) #[.val (.ref src), .val (.int (x + (1 : Int32))), .val (.ref dst), .val (.int (x + (1 : Int32))), .val (.int n), .val (.int x), .val (.int (cs.getD i 0))] d10_35 rfl rfl rfl ?_
      refine o_iinc 41 W (x + (1 : Int32)) #[.val (.ref src), .val (.int (x + (1 : Int32))), .val (.ref dst), .val (.int (x + (1 : Int32))), .val (.int n), .val (.int (x + (1 : Int32))), .val (.int (cs.getD i 0))] d10_38 rfl rfl rfl ?_
      refine o_goto 3 W d10_41 ?_
      exact ih (i + 1) (x + 1) T h _ (by omega) (own_inc1 hx (by omega)) (Or.inr ⟨_, rfl, rfl⟩) W (As.other w1 hne) Ad (K.wr w1 (Or.inl (List.mem_singleton.mpr rfl)))
  refine o_iconst 1 W (0) d10_0 (by first | rfl | decide) ?_
  refine o_istore 3 W #[.val (.ref src), .val (.int 0), .val (.ref dst), .val (.int 0), .val (.int n), .val (.int (0 : Int32)), .unset] d10_1 rfl ?_
  exact loop cs.length 0 0 T h0 _ (by omega) rfl (Or.inl rfl) W As Ad (Keep.refl _ _)
theorem con_cmp (l : Launch) (Z : State) (b0 : Array Value) (hw : ∀ d ∈ tables_1, d.before b0 Z = true) (src : Addr) (ks : ClassId) (n : Int32) (cs : List Int32) (hn : n.toNatClampNeg = cs.length) (hbig : cs.length ≤ 16) (hcs : own_ch cs) (h0 : Heap) (hE : Ext Z.heap h0) (As : Arv Z h0 src ks .char n (cs.map Value.int) (.int 0)) : Con l Z (⟨"java/lang/StringUTF16", "compress", "([CII)[B"⟩ : MethodName) jdk_52_method_16_code 6 (some (.array .byte)) ({ frames := 1, cells := 1, slots := 16, locals := 40 } : Room) #[(.ref src), (.int 0), (.int n)] h0 [] (QV fun w h => ∃ d kd, w = .ref d ∧ h0.size ≤ d ∧ Ext h0 h ∧ Arv Z h d kd .byte n (cs.map fun c => .int (own_b c)) (.int 0)) := by
  refine Con.of (plainFor_of_name pn0) hE ⟨b0, own_ew0 hw⟩ all0 (L0 := #[.val (.ref src), .val (.int 0), .val (.int n), .unset, .unset, .unset]) (fun m => by first | (simp [entryFrame, mkF, argsToLocals, Value.category]; done) | rfl) ?_
  intro p e s m args below meth c T W
  have hn0 : ¬ n < 0 := by obtain ⟨cl, A1, A2, A3, A4, A5, A6⟩ := As; exact A4
  refine o_iloadN 1 W d9_0 rfl ?_
  refine o_newarray 3 16 W (tw hw 59) d9_1 hn0 (by omega) (fun T h d kd W Ed Ad gd zd => ?_)
  have hlt := As.lt
  have As := As.ext Ed
  have Ad : Arv Z h d kd .byte n (own_bl cs 0) (.int 0) := Arv.pad Ad fun i => by rw [own_bl_0]; rfl
  refine o_astoreN 4 W #[.val (.ref src), .val (.int 0), .val (.int n), .val (.ref d), .unset, .unset] d9_3 rfl rfl ?_
  refine o_aloadN 5 W d9_4 rfl rfl ?_
  refine o_iloadN 6 W d9_5 rfl ?_
  refine o_aloadN 7 W d9_6 rfl rfl ?_
  refine o_iconst 8 W (0) d9_7 (by first | rfl | decide) ?_
  refine o_iloadN 9 W d9_8 rfl ?_
  refine o_static 12 [(.ref src), (.int 0), (.ref d), (.int (0 : Int32)), (.int n)] W (tw hw 60) (tw hw 61) (tw hw 57) (tw hw 62) (con_cmpL l Z b0 hw src d ks kd n cs hn (by omega) hcs _ W.old As Ad (Nat.ne_of_lt (Nat.lt_of_lt_of_le hlt gd)) zd) pd0 d9_9 rfl (fun x hx => hx) (fun T h v W qq gg => ?_)
  obtain ⟨_, rfl, rfl, K, Ad⟩ := qq
  show Go p e below _ _ (mkF m 12 #[.val (.ref src), .val (.int 0), .val (.int n), .val (.ref d), .unset, .unset] [(.int n)])
  refine o_istore 14 W #[.val (.ref src), .val (.int 0), .val (.int n), .val (.ref d), .val (.int n), .unset] d9_12 rfl ?_
  refine o_iload 16 W d9_14 rfl ?_
  refine o_iloadN 17 W d9_16 rfl ?_
  refine o_icY 57 W d9_17 (XT.ii_eq_t rfl) ?_
  refine o_aloadN 58 W d9_57 rfl rfl ?_
  exact o_aret W rfl rfl rfl d9_58 (⟨d, kd, rfl, gd, own_ext_keep Ed K gd, Ad⟩)
theorem con_cod (l : Launch) (Z : State) (b0 : Array Value) (hw : ∀ d ∈ tables_1, d.before b0 Z = true) (d : Addr) (kd : ClassId) (n : Int32) (vs : List Value) (h0 : Heap) (hE : Ext Z.heap h0) (Ad : Arv Z h0 d kd .byte n vs (.int 0)) : Con l Z (⟨"java/lang/StringUTF16", "coderFromArrayLen", "([BI)B"⟩ : MethodName) jdk_52_method_15_code 2 (some .byte) ({ frames := 0, cells := 0, slots := 0, locals := 0 } : Room) #[(.ref d), (.int n)] h0 [] (QV fun w h => w = .int 0 ∧ h0 = h) := by
  refine Con.of (plainFor_of_name pn0) hE ⟨b0, own_ew0 hw⟩ all0 (L0 := #[.val (.ref d), .val (.int n)]) (fun m => by first | (simp [entryFrame, mkF, argsToLocals, Value.category]; done) | rfl) ?_
  intro p e s m args below meth c T W
  refine o_iloadN 1 W d11_0 rfl ?_
  refine o_aloadN 2 W d11_1 rfl rfl ?_
  refine o_alenV 3 W Ad d11_2 ?_
  refine o_isub 4 W d11_3 ?_
  refine o_bipush 6 W (31) d11_4 (by first | rfl | decide) ?_
  refine o_iushr 7 W d11_6 ?_
  refine o_i2b 8 W d11_7 ?_
  exact o_nret W 0 (by simp) (by rw [Int32.sub_self]; rfl) d11_8 (⟨rfl, rfl⟩)
theorem con_sin2 (l : Launch) (Z : State) (b0 : Array Value) (hw : ∀ d ∈ tables_1, d.before b0 Z = true) (a src : Addr) (ks : ClassId) (n : Int32) (cs : List Int32) (hn : n.toNatClampNeg = cs.length) (hbig : cs.length ≤ 16) (hcs : own_ch cs) (h0 : Heap) (hE : Ext Z.heap h0) (As : Arv Z h0 src ks .char n (cs.map Value.int) (.int 0)) (A : Exa Z h0 a "java/lang/String") (F1 : Fld Z h0 a "java/lang/String" "value" "[B" .null) (F2 : Fld Z h0 a "java/lang/String" "coder" "B" (.int 0)) (za : Z.heap.size ≤ a) (cz : Int32) (hcz : ¬ cz = 0) (SC : Sta Z Z.heap "java/lang/String" "COMPACT_STRINGS" "Z" (.int cz)) (hpos : cs ≠ []) : Con l Z (⟨"java/lang/String", "<init>", "([CIILjava/lang/Void;)V"⟩ : MethodName) jdk_42_method_149_code 6 none ({ frames := 2, cells := 1, slots := 16, locals := 64 } : Room) #[(.ref a), (.ref src), (.int 0), (.int n), .null] h0 [a] (Q0 fun h => Keep h0 h [a] ∧ Str Z h a cs) := by
  refine Con.of (plainFor_of_name pn1) hE ⟨b0, own_ew0 hw⟩ (fun x hx => by rw [List.mem_singleton.mp hx]; exact A.lt) (L0 := #[.val (.ref a), .val (.ref src), .val (.int 0), .val (.int n), .val (.null), .unset]) (fun m => by first | (simp [entryFrame, mkF, argsToLocals, Value.category]; done) | rfl) ?_
  intro p e s m args below meth c T W
  have hn0 : ¬ n < 0 := by obtain ⟨cl, A1, A2, A3, A4, A5, A6⟩ := As; exact A4
  have hnI := own_n hn0 hn
  refine o_aloadN 1 W d7_0 rfl rfl ?_
  refine o_initO 4 W (tw hw 51) (tw hw 52) (tw hw 53) d7_1 (fun T W => ?_)
  refine o_iloadN 5 W d7_4 rfl ?_
  have F0 := A
  have hnz : ¬ n = 0 := fun e => hpos (List.eq_nil_of_length_eq_zero (by rw [e] at hnI; have : (0 : Int32).toInt = 0 := rfl; omega))
  refine o_ifY 27 W d7_5 (XT.i0_ne_t hnz) ?_
  refine o_getS 30 W (tw hw 54) SC d7_27 fun T W => ?_
  refine o_ifN 33 W d7_30 (XT.i0_eq_f hcz) ?_
  refine o_aloadN 34 W d7_33 rfl rfl ?_
  refine o_iloadN 35 W d7_34 rfl ?_
  refine o_iloadN 36 W d7_35 rfl ?_
  refine o_static 39 [(.ref src), (.int 0), (.int n)] W (tw hw 55) (tw hw 56) (tw hw 57) (tw hw 58) (con_cmp l Z b0 hw src ks n cs hn hbig hcs _ W.old As) pd1 d7_36 rfl all0 (fun T h v W qq gg => ?_)
  obtain ⟨_, rfl, d, kd, rfl, gd, Ed, Ad⟩ := qq
  show Go p e below _ _ (mkF m 39 #[.val (.ref a), .val (.ref src), .val (.int 0), .val (.int n), .val (.null), .unset] [(.ref d)])
  have A := A.ext Ed
  have F1 := F1.ext Ed
  have F2 := F2.ext Ed
  have K0 := (Keep.refl h0 [a]).ext Ed
  have had : d ≠ a := Nat.ne_of_gt (Nat.lt_of_lt_of_le F0.lt gd)
  refine o_astore 41 W #[.val (.ref a), .val (.ref src), .val (.int 0), .val (.int n), .val (.null), .val (.ref d)] d7_39 rfl rfl ?_
  refine o_aloadN 42 W d7_41 rfl rfl ?_
  refine o_aload 44 W d7_42 rfl rfl ?_
  refine o_iloadN 45 W d7_44 rfl ?_
  refine o_static 48 [(.ref d), (.int n)] W (tw hw 63) (tw hw 64) (tw hw 57) (tw hw 65) (con_cod l Z b0 hw d kd n _ _ W.old Ad) pd2 d7_45 rfl all0 (fun T h v W qq gg => ?_)
  obtain ⟨_, rfl, rfl, rfl⟩ := qq
  show Go p e below _ _ (mkF m 48 #[.val (.ref a), .val (.ref src), .val (.int 0), .val (.int n), .val (.null), .val (.ref d)] [(.int 0), (.ref a)])
  refine o_putF 51 W (tw hw 66) F2 A (Or.inr ⟨(tw hw 67), rfl, rfl⟩) (tw hw 43) (ty := .byte) (by decide) rfl rfl (Or.inl (List.mem_singleton.mpr rfl)) za d7_48 (fun T h W w1 => ?_)
  have K0 := K0.wr w1 (Or.inl (List.mem_singleton.mpr rfl))
  have A := A.wr w1
  have F2 := F2.same w1
  have F1 := F1.other w1 (Or.inr (slot_ne (C := "java/lang/String") (Or.inr (tw hw 69)) (Or.inr (tw hw 67)) (by decide) (t := (.array .byte)) (t' := .byte) (by decide) (by decide)))
  have Ad := Ad.other w1 had
  refine o_aloadN 52 W d7_51 rfl rfl ?_
  refine o_aload 54 W d7_52 rfl rfl ?_
  refine o_putF 57 W (tw hw 68) F1 A (Or.inr ⟨(tw hw 69), rfl, rfl⟩) (tw hw 43) (ty := (.array .byte)) (by decide) rfl rfl (Or.inl (List.mem_singleton.mpr rfl)) za d7_54 (fun T h W w2 => ?_)
  have K0 := K0.wr w2 (Or.inl (List.mem_singleton.mpr rfl))
  have A := A.wr w2
  have F1 := F1.same w2
  have F2 := F2.other w2 (Or.inr (slot_ne (C := "java/lang/String") (Or.inr (tw hw 67)) (Or.inr (tw hw 69)) (by decide) (t := .byte) (t' := (.array .byte)) (by decide) (by decide)))
  have Ad := Ad.other w2 had
  exact o_ret W d7_57 (⟨K0, A, F2, d, kd, n, F1, Ad, hn⟩)
theorem con_sin (l : Launch) (Z : State) (b0 : Array Value) (hw : ∀ d ∈ tables_1, d.before b0 Z = true) (a src : Addr) (ks : ClassId) (n : Int32) (cs : List Int32) (hn : n.toNatClampNeg = cs.length) (hbig : cs.length ≤ 16) (hcs : own_ch cs) (h0 : Heap) (hE : Ext Z.heap h0) (As : Arv Z h0 src ks .char n (cs.map Value.int) (.int 0)) (A : Exa Z h0 a "java/lang/String") (F1 : Fld Z h0 a "java/lang/String" "value" "[B" .null) (F2 : Fld Z h0 a "java/lang/String" "coder" "B" (.int 0)) (za : Z.heap.size ≤ a) (cz : Int32) (hcz : ¬ cz = 0) (SC : Sta Z Z.heap "java/lang/String" "COMPACT_STRINGS" "Z" (.int cz)) (hpos : cs ≠ []) : Con l Z (⟨"java/lang/String", "<init>", "([C)V"⟩ : MethodName) jdk_42_method_3_code 2 none ({ frames := 3, cells := 1, slots := 16, locals := 96 } : Room) #[(.ref a), (.ref src)] h0 [a] (Q0 fun h => Keep h0 h [a] ∧ Str Z h a cs) := by
  refine Con.of (plainFor_of_name pn1) hE ⟨b0, own_ew0 hw⟩ (fun x hx => by rw [List.mem_singleton.mp hx]; exact A.lt) (L0 := #[.val (.ref a), .val (.ref src)]) (fun m => by first | (simp [entryFrame, mkF, argsToLocals, Value.category]; done) | rfl) ?_
  intro p e s m args below meth c T W
  refine o_aloadN 1 W d6_0 rfl rfl ?_
  refine o_aloadN 2 W d6_1 rfl rfl ?_
  refine o_iconst 3 W (0) d6_2 (by first | rfl | decide) ?_
  refine o_aloadN 4 W d6_3 rfl rfl ?_
  refine o_alenV 5 W As d6_4 ?_
  refine o_null 6 W d6_5 ?_
  refine o_special 9 [(.ref src), (.int (0 : Int32)), (.int n), (.null)] W (tw hw 47) (tw hw 48) (tw hw 27) (tw hw 50) (con_sin2 l Z b0 hw a src ks n cs hn hbig hcs _ W.old As A F1 F2 za cz hcz SC hpos) pd3 d6_6 rfl (fun x hx => hx) (fun T h v W qq gg => ?_)
  obtain ⟨rfl, K0, X⟩ := qq
  show Go p e below _ _ (mkF m 9 #[.val (.ref a), .val (.ref src)] [])
  exact o_ret W d6_9 (⟨K0, X⟩)
theorem con_leq (l : Launch) (Z : State) (b0 : Array Value) (hw : ∀ d ∈ tables_1, d.before b0 Z = true) (d1 : Addr) (k1 : ClassId) (n1 : Int32) (cs1 : List Int32) (hn1 : n1.toNatClampNeg = cs1.length) (hb1 : cs1.length < 5000) (hc1 : own_ch cs1) (d2 : Addr) (k2 : ClassId) (n2 : Int32) (cs2 : List Int32) (hn2 : n2.toNatClampNeg = cs2.length) (hb2 : cs2.length < 5000) (hc2 : own_ch cs2) (h0 : Heap) (hE : Ext Z.heap h0) (A1 : Arv Z h0 d1 k1 .byte n1 (cs1.map fun c => .int (own_b c)) (.int 0)) (A2 : Arv Z h0 d2 k2 .byte n2 (cs2.map fun c => .int (own_b c)) (.int 0)) : Con l Z (⟨"java/lang/StringLatin1", "equals", "([B[B)Z"⟩ : MethodName) jdk_43_method_13_code 3 (some .boolean) ({ frames := 0, cells := 0, slots := 0, locals := 0 } : Room) #[(.ref d1), (.ref d2)] h0 [] (QV fun w h => w = .int (own_bi (decide (cs1 = cs2))) ∧ h0 = h) := by
  refine Con.of (plainFor_of_name pn2) hE ⟨b0, own_ew0 hw⟩ all0 (L0 := #[.val (.ref d1), .val (.ref d2), .unset]) (fun m => by first | (simp [entryFrame, mkF, argsToLocals, Value.category]; done) | rfl) ?_
  intro p e s m args below meth c T W
  have m1 : ¬ n1 < 0 := by obtain ⟨cl, B1, B2, B3, B4, B5, B6⟩ := A1; exact B4
  have i1 := own_n m1 hn1
  have m2 : ¬ n2 < 0 := by obtain ⟨cl, B1, B2, B3, B4, B5, B6⟩ := A2; exact B4
  have i2 := own_n m2 hn2
  refine o_aloadN 1 W d12_0 rfl rfl ?_
  refine o_alenV 2 W A1 d12_1 ?_
  refine o_aloadN 3 W d12_2 rfl rfl ?_
  refine o_alenV 4 W A2 d12_3 ?_
  refine o_icne 34 7 W d12_4 (fun c4 => ?_) (fun c4 => ?_)
  · refine o_iconst 35 W (0) d12_34 (by first | rfl | decide) ?_
    exact o_nret W (0 : Int32) (by simp) (by decide) d12_35 (⟨by rw [decide_eq_false (fun e => c4 (Int32.toInt_inj.mp (by rw [i1, i2, e])))]; rfl, rfl⟩)
  · have hl : cs1.length = cs2.length := by rw [c4] at i1; omega
    have loop : ∀ (r i : Nat) (x : Int32) (T : State), i + r = cs1.length → x.toInt = i → (∀ k, k < i → cs1.getD k 0 = cs2.getD k 0) → Wk p l e ({ frames := 0, cells := 0, slots := 0, locals := 0 } : Room) s m args below meth c Z (⟨"java/lang/StringLatin1", "equals", "([B[B)Z"⟩ : MethodName) jdk_43_method_13_code 3 (some .boolean) T h0 0 0 [] → Go p e below (Gd s below Z (QV fun w h => w = .int (own_bi (decide (cs1 = cs2))) ∧ h0 = h) (({ frames := 0, cells := 0, slots := 0, locals := 0 } : Room)).cells (({ frames := 0, cells := 0, slots := 0, locals := 0 } : Room)).slots) T (mkF m 9 #[.val (.ref d1), .val (.ref d2), .val (.int x)] []) := by
      intro r
      induction r with
      | zero =>
        intro i x T hi hx he W
        refine o_iloadN 10 W d12_9 rfl ?_
        refine o_aloadN 11 W d12_10 rfl rfl ?_
        refine o_alenV 12 W A1 d12_11 ?_
        refine o_icY 32 W d12_12 (XT.ii_ge_t (own_geI hx i1 (by omega))) ?_
        refine o_iconst 33 W (1) d12_32 (by first | rfl | decide) ?_
        exact o_nret W (1 : Int32) (by simp) (by decide) d12_33 (⟨by rw [decide_eq_true (own_list hl fun k hk => he k (by omega))]; rfl, rfl⟩)
      | succ r ih =>
        intro i x T hi hx he W
        have hlt : i < cs1.length := by omega
        refine o_iloadN 10 W d12_9 rfl ?_
        refine o_aloadN 11 W d12_10 rfl rfl ?_
        refine o_alenV 12 W A1 d12_11 ?_
        refine o_icN 15 W d12_12 (XT.ii_ge_f (own_ltI hx i1 hlt)) ?_
        refine o_aloadN 16 W d12_15 rfl rfl ?_
        refine o_iloadN 17 W d12_16 rfl ?_
        refine o_baloadV 18 W A1 ⟨own_nn hx, own_ltI hx i1 (by omega)⟩ ((congrArg (fun z => (cs1.map fun c => Value.int (own_b c)).getD z (.int 0)) (own_cl hx)).trans (own_gb cs1 i)) d12_17 ?_
        refine o_aloadN 19 W d12_18 rfl rfl ?_
        refine o_iloadN 20 W d12_19 rfl ?_
        refine o_baloadV 21 W A2 ⟨own_nn hx, own_ltI hx i2 (by omega)⟩ ((congrArg (fun z => (cs2.map fun c => Value.int (own_b c)).getD z (.int 0)) (own_cl hx)).trans (own_gb cs2 i)) d12_20 ?_
        refine o_iceq 26 24 W d12_21 (fun c21 => ?_) (fun c21 => ?_)
        · have he2 := own_b_inj (hc1 _ (own_gm cs1 i hlt)) (hc2 _ (own_gm cs2 i (by omega))) c21
          refine o_iinc 29 W (x + (1 : Int32)) #[.val (.ref d1), .val (.ref d2), .val (.int (x + (1 : Int32)))] d12_26 rfl rfl rfl ?_
          refine o_goto 9 W d12_29 ?_
          exact ih (i + 1) (x + 1) T (by omega) (own_inc1 hx (by omega)) (fun k hk => if z : k < i then he k z else (by obtain rfl : k = i := (by omega); exact he2)) W
        · refine o_iconst 25 W (0) d12_24 (by first | rfl | decide) ?_
          exact o_nret W (0 : Int32) (by simp) (by decide) d12_25 (⟨by rw [decide_eq_false (fun e => c21 (by rw [e]))]; rfl, rfl⟩)
    refine o_iconst 8 W (0) d12_7 (by first | rfl | decide) ?_
    refine o_istoreN 9 W #[.val (.ref d1), .val (.ref d2), .val (.int (0 : Int32))] d12_8 rfl ?_
    exact loop cs1.length 0 0 T (by omega) rfl (fun k hk => absurd hk (Nat.not_lt_zero _)) W
theorem con_seq (l : Launch) (Z : State) (b0 : Array Value) (hw : ∀ d ∈ tables_1, d.before b0 Z = true) (a o : Addr) (cs1 cs2 : List Int32) (hb1 : cs1.length < 5000) (hc1 : own_ch cs1) (hb2 : cs2.length < 5000) (hc2 : own_ch cs2) (h0 : Heap) (hE : Ext Z.heap h0) (X1 : Str Z h0 a cs1) (X2 : Str Z h0 o cs2) (cz : Int32) (hcz : ¬ cz = 0) (SC : Sta Z Z.heap "java/lang/String" "COMPACT_STRINGS" "Z" (.int cz)) : Con l Z (⟨"java/lang/String", "equals", "(Ljava/lang/Object;)Z"⟩ : MethodName) jdk_42_method_66_code 3 (some .boolean) ({ frames := 1, cells := 0, slots := 0, locals := 16 } : Room) #[(.ref a), (.ref o)] h0 [] (QV fun w h => w = .int (own_bi (decide (cs1 = cs2))) ∧ h0 = h) := by
  refine Con.of (plainFor_of_name pn1) hE ⟨b0, own_ew0 hw⟩ all0 (L0 := #[.val (.ref a), .val (.ref o), .unset]) (fun m => by first | (simp [entryFrame, mkF, argsToLocals, Value.category]; done) | rfl) ?_
  intro p e s m args below meth c T W
  refine o_aloadN 1 W d3_0 rfl rfl ?_
  refine o_aloadN 2 W d3_1 rfl rfl ?_
  refine o_acne 7 5 W rfl rfl d3_2 (fun c2 => ?_) (fun c2 => ?_)
  · obtain ⟨E1, C1, d1, k1, n1, V1, A1, l1⟩ := X1
    obtain ⟨E2, C2, d2, k2, n2, V2, A2, l2⟩ := X2
    refine o_aloadN 8 W d3_7 rfl rfl ?_
    refine o_instY 11 W (tw hw 74) (Ins.self E2) d3_8 (fun T W => ?_)
    refine o_ifN 14 W d3_11 (by decide) ?_
    refine o_aloadN 15 W d3_14 rfl rfl ?_
    refine o_cast 18 W (tw hw 74) (Ins.self E2) d3_15 (fun T W => ?_)
    refine o_astoreN 19 W #[.val (.ref a), .val (.ref o), .val (.ref o)] d3_18 rfl rfl ?_
    refine o_getS 22 W (tw hw 54) SC d3_19 fun T W => ?_
    refine o_ifN 25 W d3_22 (XT.i0_eq_f hcz) ?_
    refine o_aloadN 26 W d3_25 rfl rfl ?_
    refine o_getF 29 W (tw hw 66) C1 d3_26 (fun T W => ?_)
    refine o_aloadN 30 W d3_29 rfl rfl ?_
    refine o_getF 33 W (tw hw 66) C2 d3_30 (fun T W => ?_)
    refine o_icN 36 W d3_33 (by decide) ?_
    refine o_aloadN 37 W d3_36 rfl rfl ?_
    refine o_getF 40 W (tw hw 68) V1 d3_37 (fun T W => ?_)
    refine o_aloadN 41 W d3_40 rfl rfl ?_
    refine o_getF 44 W (tw hw 68) V2 d3_41 (fun T W => ?_)
    refine o_static 47 [(.ref d1), (.ref d2)] W (tw hw 75) (tw hw 76) (tw hw 77) (tw hw 78) (con_leq l Z b0 hw d1 k1 n1 cs1 l1 hb1 hc1 d2 k2 n2 cs2 l2 hb2 hc2 _ W.old A1 A2) pd4 d3_44 rfl all0 (fun T h v W qq gg => ?_)
    obtain ⟨_, rfl, rfl, rfl⟩ := qq
    show Go p e below _ _ (mkF m 47 #[.val (.ref a), .val (.ref o), .val (.ref o)] [(.int (own_bi (decide (cs1 = cs2))))])
    refine o_ifeq 54 50 W d3_47 (fun c47 => ?_) (fun c47 => ?_)
    · refine o_iconst 55 W (0) d3_54 (by first | rfl | decide) ?_
      exact o_nret W (0 : Int32) (by simp) (by decide) d3_55 (⟨by rw [(own_bi0 _).mp c47]; rfl, rfl⟩)
    · refine o_iconst 51 W (1) d3_50 (by first | rfl | decide) ?_
      refine o_goto 55 W d3_51 ?_
      exact o_nret W (1 : Int32) (by simp) (by decide) d3_55 (⟨by cases q : decide (cs1 = cs2); exact absurd ((own_bi0 _).mpr q) c47; rfl, rfl⟩)
  · refine o_iconst 6 W (1) d3_5 (by first | rfl | decide) ?_
    simp only [Value.ref.injEq] at c2
    exact o_nret W (1 : Int32) (by simp) (by decide) d3_6 (⟨by rw [decide_eq_true (X1.inj (c2 ▸ X2) hc1 hc2)]; rfl, rfl⟩)
theorem con_seqI (l : Launch) (Z : State) (b0 : Array Value) (hw : ∀ d ∈ tables_1, d.before b0 Z = true) (a : Addr) (h0 : Heap) (hE : Ext Z.heap h0) : Con l Z (⟨"java/lang/String", "equals", "(Ljava/lang/Object;)Z"⟩ : MethodName) jdk_42_method_66_code 3 (some .boolean) ({ frames := 1, cells := 0, slots := 0, locals := 16 } : Room) #[(.ref a), (.ref a)] h0 [] (QV fun w h => w = .int 1 ∧ h0 = h) := by
  refine Con.of (plainFor_of_name pn1) hE ⟨b0, own_ew0 hw⟩ all0 (L0 := #[.val (.ref a), .val (.ref a), .unset]) (fun m => by first | (simp [entryFrame, mkF, argsToLocals, Value.category]; done) | rfl) ?_
  intro p e s m args below meth c T W
  refine o_aloadN 1 W d3_0 rfl rfl ?_
  refine o_aloadN 2 W d3_1 rfl rfl ?_
  refine o_acne 7 5 W rfl rfl d3_2 (fun c2 => ?_) (fun c2 => ?_)
  · exact absurd rfl c2
  · refine o_iconst 6 W (1) d3_5 (by first | rfl | decide) ?_
    exact o_nret W (1 : Int32) (by simp) (by decide) d3_6 (⟨rfl, rfl⟩)
theorem con_seqN (l : Launch) (Z : State) (b0 : Array Value) (hw : ∀ d ∈ tables_1, d.before b0 Z = true) (a : Addr) (h0 : Heap) (hE : Ext Z.heap h0) : Con l Z (⟨"java/lang/String", "equals", "(Ljava/lang/Object;)Z"⟩ : MethodName) jdk_42_method_66_code 3 (some .boolean) ({ frames := 1, cells := 0, slots := 0, locals := 16 } : Room) #[(.ref a), .null] h0 [] (QV fun w h => w = .int 0 ∧ h0 = h) := by
  refine Con.of (plainFor_of_name pn1) hE ⟨b0, own_ew0 hw⟩ all0 (L0 := #[.val (.ref a), .val (.null), .unset]) (fun m => by first | (simp [entryFrame, mkF, argsToLocals, Value.category]; done) | rfl) ?_
  intro p e s m args below meth c T W
  refine o_aloadN 1 W d3_0 rfl rfl ?_
  refine o_aloadN 2 W d3_1 rfl rfl ?_
  refine o_acne 7 5 W rfl rfl d3_2 (fun c2 => ?_) (fun c2 => ?_)
  · refine o_aloadN 8 W d3_7 rfl rfl ?_
    refine o_instNull 11 W d3_8 ?_
    refine o_ifY 54 W d3_11 (by decide) ?_
    refine o_iconst 55 W (0) d3_54 (by first | rfl | decide) ?_
    exact o_nret W (0 : Int32) (by simp) (by decide) d3_55 (⟨rfl, rfl⟩)
  · cases c2
def own_pg : List Int32 := [112, 111, 115, 116, 103, 114, 101, 115, 113, 108]
def own_md : List Int32 := [109, 97, 114, 105, 97, 100, 98]
theorem own_pgch : own_ch own_pg := (own_chS (by decide) (own_chS (by decide) (own_chS (by decide) (own_chS (by decide) (own_chS (by decide) (own_chS (by decide) (own_chS (by decide) (own_chS (by decide) (own_chS (by decide) (own_chS (by decide) own_ch0))))))))))
theorem own_mdch : own_ch own_md := (own_chS (by decide) (own_chS (by decide) (own_chS (by decide) (own_chS (by decide) (own_chS (by decide) (own_chS (by decide) (own_chS (by decide) own_ch0)))))))
theorem con_vals (l : Launch) (Z : State) (b0 : Array Value) (hw : ∀ d ∈ tables_1, d.before b0 Z = true) (va a0 a1 s0 s1 : Addr) (kv : ClassId) (SV : Sta Z Z.heap "com/example/mapwright/mapwright/sql/Dialect" "$VALUES" "[Lcom/example/mapwright/mapwright/sql/Dialect;" (.ref va)) (AV : Arv Z Z.heap va kv (.object "com/example/mapwright/mapwright/sql/Dialect") 2 [.ref a0, .ref a1] .null) (EV : Exa Z Z.heap va "[Lcom/example/mapwright/mapwright/sql/Dialect;") (E0 : Exa Z Z.heap a0 "com/example/mapwright/mapwright/sql/Dialect") (E1 : Exa Z Z.heap a1 "com/example/mapwright/mapwright/sql/Dialect") (G0 : Fld Z Z.heap a0 "com/example/mapwright/mapwright/sql/Dialect" "settingValue" "Ljava/lang/String;" (.ref s0)) (G1 : Fld Z Z.heap a1 "com/example/mapwright/mapwright/sql/Dialect" "settingValue" "Ljava/lang/String;" (.ref s1)) (X0 : Str Z Z.heap s0 own_pg) (X1 : Str Z Z.heap s1 own_md) (h0 : Heap) (hE : Ext Z.heap h0) : Con l Z (⟨"com/example/mapwright/mapwright/sql/Dialect", "values", "()[Lcom/example/mapwright/mapwright/sql/Dialect;"⟩ : MethodName) prog_116_method_1_code 0 (some (.array (.object "com/example/mapwright/mapwright/sql/Dialect"))) ({ frames := 1, cells := 1, slots := 2, locals := 20 } : Room) #[] h0 [] (QV fun w h => ∃ o, w = .ref o ∧ Ext h0 h ∧ Arv Z h o kv (.object "com/example/mapwright/mapwright/sql/Dialect") 2 [.ref a0, .ref a1] .null) := by
  refine Con.of (plainFor_of_name pn3) hE ⟨b0, own_ew0 hw⟩ all0 (L0 := #[]) (fun m => by first | (simp [entryFrame, mkF, argsToLocals, Value.category]; done) | rfl) ?_
  intro p e s m args below meth c T W
  refine o_getS 3 W (tw hw 7) SV d2_0 fun T W => ?_
  refine o_clone 6 2 W (tw hw 9) (tw hw 10) (tw hw 14) (tw hw 12) (tw hw 13) (tw hw 15) (AV.ext W.old) (EV.ext W.old) d2_3 (by decide) (fun T h o W Eo Ao Xo go zo => ?_)
  refine o_cast 9 W (tw hw 19) (Ins.self Xo) d2_6 (fun T W => ?_)
  exact o_aret W rfl rfl rfl d2_9 (⟨o, rfl, Eo, Ao⟩)
theorem con_emp (l : Launch) (Z : State) (b0 : Array Value) (hw : ∀ d ∈ tables_1, d.before b0 Z = true) (em : Addr) (SE : Sta Z Z.heap "java/util/Optional" "EMPTY" "Ljava/util/Optional;" (.ref em)) (EE : Exa Z Z.heap em "java/util/Optional") (GE : Fld Z Z.heap em "java/util/Optional" "value" "Ljava/lang/Object;" .null) (h0 : Heap) (hE : Ext Z.heap h0) : Con l Z (⟨"java/util/Optional", "empty", "()Ljava/util/Optional;"⟩ : MethodName) jdk_32_method_1_code 1 (some (.object "java/util/Optional")) ({ frames := 0, cells := 0, slots := 0, locals := 0 } : Room) #[] h0 [] (QV fun w h => w = .ref em ∧ h0 = h) := by
  refine Con.of (plainFor_of_name pn4) hE ⟨b0, own_ew0 hw⟩ all0 (L0 := #[.unset]) (fun m => by first | (simp [entryFrame, mkF, argsToLocals, Value.category]; done) | rfl) ?_
  intro p e s m args below meth c T W
  refine o_getS 3 W (tw hw 33) SE d4_0 fun T W => ?_
  refine o_astoreN 4 W #[.val (.ref em)] d4_3 rfl rfl ?_
  refine o_aloadN 5 W d4_4 rfl rfl ?_
  exact o_aret W rfl rfl rfl d4_5 (⟨rfl, rfl⟩)
theorem con_oreN (l : Launch) (Z : State) (b0 : Array Value) (hw : ∀ d ∈ tables_1, d.before b0 Z = true) (o : Addr) (h0 : Heap) (hE : Ext Z.heap h0) (F : Fld Z h0 o "java/util/Optional" "value" "Ljava/lang/Object;" .null) : Con l Z (⟨"java/util/Optional", "orElse", "(Ljava/lang/Object;)Ljava/lang/Object;"⟩ : MethodName) jdk_32_method_15_code 2 (some (.object "java/lang/Object")) ({ frames := 0, cells := 0, slots := 0, locals := 0 } : Room) #[(.ref o), .null] h0 [] (QV fun w h => w = .null ∧ h0 = h) := by
  refine Con.of (plainFor_of_name pn4) hE ⟨b0, own_ew0 hw⟩ all0 (L0 := #[.val (.ref o), .val (.null)]) (fun m => by first | (simp [entryFrame, mkF, argsToLocals, Value.category]; done) | rfl) ?_
  intro p e s m args below meth c T W
  refine o_aloadN 1 W d5_0 rfl rfl ?_
  refine o_getF 4 W (tw hw 39) F d5_1 (fun T W => ?_)
  refine o_nullY 14 W d5_4 ?_
  refine o_aloadN 15 W d5_14 rfl rfl ?_
  exact o_aret W rfl rfl rfl d5_15 (⟨rfl, rfl⟩)
theorem con_oreR (l : Launch) (Z : State) (b0 : Array Value) (hw : ∀ d ∈ tables_1, d.before b0 Z = true) (o v : Addr) (h0 : Heap) (hE : Ext Z.heap h0) (F : Fld Z h0 o "java/util/Optional" "value" "Ljava/lang/Object;" (.ref v)) : Con l Z (⟨"java/util/Optional", "orElse", "(Ljava/lang/Object;)Ljava/lang/Object;"⟩ : MethodName) jdk_32_method_15_code 2 (some (.object "java/lang/Object")) ({ frames := 0, cells := 0, slots := 0, locals := 0 } : Room) #[(.ref o), .null] h0 [] (QV fun w h => w = .ref v ∧ h0 = h) := by
  refine Con.of (plainFor_of_name pn4) hE ⟨b0, own_ew0 hw⟩ all0 (L0 := #[.val (.ref o), .val (.null)]) (fun m => by first | (simp [entryFrame, mkF, argsToLocals, Value.category]; done) | rfl) ?_
  intro p e s m args below meth c T W
  refine o_aloadN 1 W d5_0 rfl rfl ?_
  refine o_getF 4 W (tw hw 39) F d5_1 (fun T W => ?_)
  refine o_nullN 7 W d5_4 ?_
  refine o_aloadN 8 W d5_7 rfl rfl ?_
  refine o_getF 11 W (tw hw 39) F d5_8 (fun T W => ?_)
  refine o_goto 15 W d5_11 ?_
  exact o_aret W rfl rfl rfl d5_15 (⟨rfl, rfl⟩)
theorem con_rnn (l : Launch) (Z : State) (b0 : Array Value) (hw : ∀ d ∈ tables_1, d.before b0 Z = true) (x : Addr) (h0 : Heap) (hE : Ext Z.heap h0) : Con l Z (⟨"java/util/Objects", "requireNonNull", "(Ljava/lang/Object;)Ljava/lang/Object;"⟩ : MethodName) jdk_31_method_10_code 1 (some (.object "java/lang/Object")) ({ frames := 0, cells := 0, slots := 0, locals := 0 } : Room) #[(.ref x)] h0 [] (QV fun w h => w = .ref x ∧ h0 = h) := by
  refine Con.of (plainFor_of_name pn5) hE ⟨b0, own_ew0 hw⟩ all0 (L0 := #[.val (.ref x)]) (fun m => by first | (simp [entryFrame, mkF, argsToLocals, Value.category]; done) | rfl) ?_
  intro p e s m args below meth c T W
  refine o_aloadN 1 W d14_0 rfl rfl ?_
  refine o_nnY 12 W d14_1 ?_
  refine o_aloadN 13 W d14_12 rfl rfl ?_
  exact o_aret W rfl rfl rfl d14_13 (⟨rfl, rfl⟩)
theorem con_oin (l : Launch) (Z : State) (b0 : Array Value) (hw : ∀ d ∈ tables_1, d.before b0 Z = true) (o v : Addr) (h0 : Heap) (hE : Ext Z.heap h0) (A : Exa Z h0 o "java/util/Optional") (F : Fld Z h0 o "java/util/Optional" "value" "Ljava/lang/Object;" .null) (zo : Z.heap.size ≤ o) : Con l Z (⟨"java/util/Optional", "<init>", "(Ljava/lang/Object;)V"⟩ : MethodName) jdk_32_method_2_code 2 none ({ frames := 1, cells := 0, slots := 0, locals := 12 } : Room) #[(.ref o), (.ref v)] h0 [] (Q0 fun h => Keep h0 h [o] ∧ Exa Z h o "java/util/Optional" ∧ Fld Z h o "java/util/Optional" "value" "Ljava/lang/Object;" (.ref v)) := by
  refine Con.of (plainFor_of_name pn4) hE ⟨b0, own_ew0 hw⟩ all0 (L0 := #[.val (.ref o), .val (.ref v)]) (fun m => by first | (simp [entryFrame, mkF, argsToLocals, Value.category]; done) | rfl) ?_
  intro p e s m args below meth c T W
  refine o_aloadN 1 W d15_0 rfl rfl ?_
  refine o_initO 4 W (tw hw 95) (tw hw 52) (tw hw 53) d15_1 (fun T W => ?_)
  refine o_aloadN 5 W d15_4 rfl rfl ?_
  refine o_aloadN 6 W d15_5 rfl rfl ?_
  refine o_putF 9 W (tw hw 39) F A (Or.inr ⟨(tw hw 40), rfl, rfl⟩) (tw hw 86) (ty := (.object "java/lang/Object")) (by decide) rfl rfl (Or.inr (by decide)) zo d15_6 (fun T h W w1 => ?_)
  have K0 := Keep.of_wr w1
  have A := A.wr w1
  exact o_ret W d15_9 (⟨K0, A, F.same w1⟩)
theorem con_oof (l : Launch) (Z : State) (b0 : Array Value) (hw : ∀ d ∈ tables_1, d.before b0 Z = true) (v : Addr) (h0 : Heap) (hE : Ext Z.heap h0) : Con l Z (⟨"java/util/Optional", "of", "(Ljava/lang/Object;)Ljava/util/Optional;"⟩ : MethodName) jdk_32_method_3_code 1 (some (.object "java/util/Optional")) ({ frames := 2, cells := 1, slots := 1, locals := 32 } : Room) #[(.ref v)] h0 [] (QV fun w h => ∃ o, w = .ref o ∧ Exa Z h o "java/util/Optional" ∧ Fld Z h o "java/util/Optional" "value" "Ljava/lang/Object;" (.ref v) ∧ Ext h0 h) := by
  refine Con.of (plainFor_of_name pn4) hE ⟨b0, own_ew0 hw⟩ all0 (L0 := #[.val (.ref v)]) (fun m => by first | (simp [entryFrame, mkF, argsToLocals, Value.category]; done) | rfl) ?_
  intro p e s m args below meth c T W
  refine o_new 3 W (tw hw 85) (tw hw 86) (tw hw 31) d13_0 (fun T h o W Eo Ao Do go zo => ?_)
  have Fo := Do (Or.inr (tw hw 40)) (ty := .object "java/lang/Object") (by decide)
  refine o_dup 4 W d13_3 rfl ?_
  refine o_aloadN 5 W d13_4 rfl rfl ?_
  refine o_static 8 [(.ref v)] W (tw hw 87) (tw hw 88) (tw hw 89) (tw hw 90) (con_rnn l Z b0 hw v _ W.old) pd5 d13_5 rfl all0 (fun T h v W qq gg => ?_)
  obtain ⟨_, rfl, rfl, rfl⟩ := qq
  show Go p e below _ _ (mkF m 8 #[.val (.ref v)] [(.ref v), (.ref o), (.ref o)])
  refine o_special 11 [(.ref v)] W (tw hw 91) (tw hw 92) (tw hw 31) (tw hw 94) (con_oin l Z b0 hw o v _ W.old Ao Fo zo) pd6 d13_8 rfl all0 (fun T h v W qq gg => ?_)
  obtain ⟨rfl, K0, A, F⟩ := qq
  show Go p e below _ _ (mkF m 11 #[.val (.ref v)] [(.ref o)])
  exact o_aret W rfl rfl rfl d13_11 (⟨o, rfl, A, F, own_ext_keep Eo K0 go⟩)
theorem con_stv (l : Launch) (Z : State) (b0 : Array Value) (hw : ∀ d ∈ tables_1, d.before b0 Z = true) (a s : Addr) (h0 : Heap) (hE : Ext Z.heap h0) (F : Fld Z h0 a "com/example/mapwright/mapwright/sql/Dialect" "settingValue" "Ljava/lang/String;" (.ref s)) : Con l Z (⟨"com/example/mapwright/mapwright/sql/Dialect", "settingValue", "()Ljava/lang/String;"⟩ : MethodName) prog_116_method_4_code 1 (some (.object "java/lang/String")) ({ frames := 0, cells := 0, slots := 0, locals := 0 } : Room) #[(.ref a)] h0 [] (QV fun w h => w = .ref s ∧ h0 = h) := by
  refine Con.of (plainFor_of_name pn3) hE ⟨b0, own_ew0 hw⟩ all0 (L0 := #[.val (.ref a)]) (fun m => by first | (simp [entryFrame, mkF, argsToLocals, Value.category]; done) | rfl) ?_
  intro p e s m args below meth c T W
  refine o_aloadN 1 W d16_0 rfl rfl ?_
  refine o_getF 4 W (tw hw 21) F d16_1 (fun T W => ?_)
  exact o_aret W rfl rfl rfl d16_4 (⟨rfl, rfl⟩)
def own_val (cs : List Int32) (a0 a1 : Addr) : Value := if cs = own_pg then .ref a0 else if cs = own_md then .ref a1 else .null
theorem own_pm : ¬ own_md = own_pg := by decide
theorem con_fsv (l : Launch) (Z : State) (b0 : Array Value) (hw : ∀ d ∈ tables_1, d.before b0 Z = true) (t : Addr) (cs : List Int32) (hb : cs.length < 5000) (hc : own_ch cs) (va a0 a1 s0 s1 : Addr) (kv : ClassId) (SV : Sta Z Z.heap "com/example/mapwright/mapwright/sql/Dialect" "$VALUES" "[Lcom/example/mapwright/mapwright/sql/Dialect;" (.ref va)) (AV : Arv Z Z.heap va kv (.object "com/example/mapwright/mapwright/sql/Dialect") 2 [.ref a0, .ref a1] .null) (EV : Exa Z Z.heap va "[Lcom/example/mapwright/mapwright/sql/Dialect;") (E0 : Exa Z Z.heap a0 "com/example/mapwright/mapwright/sql/Dialect") (E1 : Exa Z Z.heap a1 "com/example/mapwright/mapwright/sql/Dialect") (G0 : Fld Z Z.heap a0 "com/example/mapwright/mapwright/sql/Dialect" "settingValue" "Ljava/lang/String;" (.ref s0)) (G1 : Fld Z Z.heap a1 "com/example/mapwright/mapwright/sql/Dialect" "settingValue" "Ljava/lang/String;" (.ref s1)) (X0 : Str Z Z.heap s0 own_pg) (X1 : Str Z Z.heap s1 own_md) (em : Addr) (SE : Sta Z Z.heap "java/util/Optional" "EMPTY" "Ljava/util/Optional;" (.ref em)) (EE : Exa Z Z.heap em "java/util/Optional") (GE : Fld Z Z.heap em "java/util/Optional" "value" "Ljava/lang/Object;" .null) (h0 : Heap) (hE : Ext Z.heap h0) (X : Str Z h0 t cs) (cz : Int32) (hcz : ¬ cz = 0) (SC : Sta Z Z.heap "java/lang/String" "COMPACT_STRINGS" "Z" (.int cz)) : Con l Z (⟨"com/example/mapwright/mapwright/sql/Dialect", "forSettingValue", "(Ljava/lang/String;)Ljava/util/Optional;"⟩ : MethodName) prog_116_method_5_code 5 (some (.object "java/util/Optional")) ({ frames := 3, cells := 2, slots := 3, locals := 112 } : Room) #[(.ref t)] h0 [] (QV fun w h => ∃ o, w = .ref o ∧ Exa Z h o "java/util/Optional" ∧ Fld Z h o "java/util/Optional" "value" "Ljava/lang/Object;" (own_val cs a0 a1) ∧ Ext h0 h) := by
  refine Con.of (plainFor_of_name pn3) hE ⟨b0, own_ew0 hw⟩ all0 (L0 := #[.val (.ref t), .unset, .unset, .unset, .unset]) (fun m => by first | (simp [entryFrame, mkF, argsToLocals, Value.category]; done) | rfl) ?_
  intro p e s m args below meth c T W
  refine o_static 3 [] W (tw hw 4) (tw hw 5) (tw hw 2) (tw hw 6) (con_vals l Z b0 hw va a0 a1 s0 s1 kv SV AV EV E0 E1 G0 G1 X0 X1 _ W.old) pd7 d1_0 rfl all0 (fun T h v W qq gg => ?_)
  obtain ⟨_, rfl, o, rfl, Eo, Ao⟩ := qq
  show Go p e below _ _ (mkF m 3 #[.val (.ref t), .unset, .unset, .unset, .unset] [(.ref o)])
  have X := X.ext Eo
  refine o_astoreN 4 W #[.val (.ref t), .val (.ref o), .unset, .unset, .unset] d1_3 rfl rfl ?_
  refine o_aloadN 5 W d1_4 rfl rfl ?_
  refine o_alenV 6 W Ao d1_5 ?_
  refine o_istoreN 7 W #[.val (.ref t), .val (.ref o), .val (.int (2 : Int32)), .unset, .unset] d1_6 rfl ?_
  refine o_iconst 8 W (0) d1_7 (by first | rfl | decide) ?_
  refine o_istoreN 9 W #[.val (.ref t), .val (.ref o), .val (.int (2 : Int32)), .val (.int (0 : Int32)), .unset] d1_8 rfl ?_
  refine o_iloadN 10 W d1_9 rfl ?_
  refine o_iloadN 11 W d1_10 rfl ?_
  refine o_icN 14 W d1_11 (by decide) ?_
  refine o_aloadN 15 W d1_14 rfl rfl ?_
  refine o_iloadN 16 W d1_15 rfl ?_
  obtain ⟨cl0, B1, B2, B3, B4, B5, B6⟩ := id Ao
  refine o_aaload 17 W B1 rfl (inb_of B3 (by decide)) (Has.at B5 (inb_of B3 (by decide)) rfl) d1_16 ?_
  refine o_astore 19 W #[.val (.ref t), .val (.ref o), .val (.int (2 : Int32)), .val (.int (0 : Int32)), .val (.ref a0)] d1_17 rfl rfl ?_
  refine o_aload 21 W d1_19 rfl rfl ?_
  refine o_getF 24 W (tw hw 21) (G0.ext W.old) d1_21 (fun T W => ?_)
  refine o_aloadN 25 W d1_24 rfl rfl ?_
  refine o_virtual 28 [(.ref t)] W (tw hw 23) (tw hw 24) (tw hw 26) (tw hw 25) (tw hw 27) (tw hw 28) ((X0.ext W.old).1) (con_seq l Z b0 hw s0 t own_pg cs (by decide) own_pgch hb hc _ W.old (X0.ext W.old) X cz hcz SC) pd8 d1_25 rfl all0 (fun T h v W qq gg => ?_)
  obtain ⟨_, rfl, rfl, rfl⟩ := qq
  show Go p e below _ _ (mkF m 28 #[.val (.ref t), .val (.ref o), .val (.int (2 : Int32)), .val (.int (0 : Int32)), .val (.ref a0)] [(.int (own_bi (decide (own_pg = cs))))])
  refine o_ifeq 37 31 W d1_28 (fun c28 => ?_) (fun c28 => ?_)
  · have n0 : ¬ cs = own_pg := fun e => by rw [own_bi0, decide_eq_false_iff_not] at c28; exact c28 e.symm
    refine o_iinc 40 W (1) #[.val (.ref t), .val (.ref o), .val (.int (2 : Int32)), .val (.int (1 : Int32)), .val (.ref a0)] d1_37 rfl (by decide) rfl ?_
    refine o_goto 9 W d1_40 ?_
    refine o_iloadN 10 W d1_9 rfl ?_
    refine o_iloadN 11 W d1_10 rfl ?_
    refine o_icN 14 W d1_11 (by decide) ?_
    refine o_aloadN 15 W d1_14 rfl rfl ?_
    refine o_iloadN 16 W d1_15 rfl ?_
    obtain ⟨cl1, B1, B2, B3, B4, B5, B6⟩ := id Ao
    refine o_aaload 17 W B1 rfl (inb_of B3 (by decide)) (Has.at B5 (inb_of B3 (by decide)) rfl) d1_16 ?_
    refine o_astore 19 W #[.val (.ref t), .val (.ref o), .val (.int (2 : Int32)), .val (.int (1 : Int32)), .val (.ref a1)] d1_17 rfl rfl ?_
    refine o_aload 21 W d1_19 rfl rfl ?_
    refine o_getF 24 W (tw hw 21) (G1.ext W.old) d1_21 (fun T W => ?_)
    refine o_aloadN 25 W d1_24 rfl rfl ?_
    refine o_virtual 28 [(.ref t)] W (tw hw 23) (tw hw 24) (tw hw 26) (tw hw 25) (tw hw 27) (tw hw 28) ((X1.ext W.old).1) (con_seq l Z b0 hw s1 t own_md cs (by decide) own_mdch hb hc _ W.old (X1.ext W.old) X cz hcz SC) pd8 d1_25 rfl all0 (fun T h v W qq gg => ?_)
    obtain ⟨_, rfl, rfl, rfl⟩ := qq
    show Go p e below _ _ (mkF m 28 #[.val (.ref t), .val (.ref o), .val (.int (2 : Int32)), .val (.int (1 : Int32)), .val (.ref a1)] [(.int (own_bi (decide (own_md = cs))))])
    refine o_ifeq 37 31 W d1_28 (fun c28 => ?_) (fun c28 => ?_)
    · have n1 : ¬ cs = own_md := fun e => by rw [own_bi0, decide_eq_false_iff_not] at c28; exact c28 e.symm
      refine o_iinc 40 W (2) #[.val (.ref t), .val (.ref o), .val (.int (2 : Int32)), .val (.int (2 : Int32)), .val (.ref a1)] d1_37 rfl (by decide) rfl ?_
      refine o_goto 9 W d1_40 ?_
      refine o_iloadN 10 W d1_9 rfl ?_
      refine o_iloadN 11 W d1_10 rfl ?_
      refine o_icY 43 W d1_11 (by decide) ?_
      refine o_static 46 [] W (tw hw 29) (tw hw 30) (tw hw 31) (tw hw 32) (con_emp l Z b0 hw em SE EE GE _ W.old) pd9 d1_43 rfl all0 (fun T h v W qq gg => ?_)
      obtain ⟨_, rfl, rfl, rfl⟩ := qq
      show Go p e below _ _ (mkF m 46 #[.val (.ref t), .val (.ref o), .val (.int (2 : Int32)), .val (.int (2 : Int32)), .val (.ref a1)] [(.ref em)])
      exact o_aret W rfl rfl rfl d1_46 (⟨em, rfl, EE.ext W.old, by rw [show own_val cs a0 a1 = .null by simp [own_val, n0, n1]]; exact GE.ext W.old, Eo⟩)
    · have q1 : cs = own_md := by cases z : decide (own_md = cs); exact absurd ((own_bi0 _).mpr z) c28; exact (of_decide_eq_true z).symm
      refine o_aload 33 W d1_31 rfl rfl ?_
      refine o_static 36 [(.ref a1)] W (tw hw 82) (tw hw 83) (tw hw 31) (tw hw 84) (con_oof l Z b0 hw a1 _ W.old) pd10 d1_33 rfl all0 (fun T h v W qq gg => ?_)
      obtain ⟨_, rfl, r, rfl, Ar, Fr_, Er⟩ := qq
      show Go p e below _ _ (mkF m 36 #[.val (.ref t), .val (.ref o), .val (.int (2 : Int32)), .val (.int (1 : Int32)), .val (.ref a1)] [(.ref r)])
      exact o_aret W rfl rfl rfl d1_36 (⟨r, rfl, Ar, by rw [show own_val cs a0 a1 = .ref a1 by simp [own_val, n0, q1, own_pm]]; exact Fr_, own_ext_trans Eo Er⟩)
  · have q0 : cs = own_pg := by cases z : decide (own_pg = cs); exact absurd ((own_bi0 _).mpr z) c28; exact (of_decide_eq_true z).symm
    refine o_aload 33 W d1_31 rfl rfl ?_
    refine o_static 36 [(.ref a0)] W (tw hw 82) (tw hw 83) (tw hw 31) (tw hw 84) (con_oof l Z b0 hw a0 _ W.old) pd10 d1_33 rfl all0 (fun T h v W qq gg => ?_)
    obtain ⟨_, rfl, r, rfl, Ar, Fr_, Er⟩ := qq
    show Go p e below _ _ (mkF m 36 #[.val (.ref t), .val (.ref o), .val (.int (2 : Int32)), .val (.int (0 : Int32)), .val (.ref a0)] [(.ref r)])
    exact o_aret W rfl rfl rfl d1_36 (⟨r, rfl, Ar, by rw [show own_val cs a0 a1 = .ref a0 by simp [own_val, q0]]; exact Fr_, own_ext_trans Eo Er⟩)
theorem con_fsvN (l : Launch) (Z : State) (b0 : Array Value) (hw : ∀ d ∈ tables_1, d.before b0 Z = true) (va a0 a1 s0 s1 : Addr) (kv : ClassId) (SV : Sta Z Z.heap "com/example/mapwright/mapwright/sql/Dialect" "$VALUES" "[Lcom/example/mapwright/mapwright/sql/Dialect;" (.ref va)) (AV : Arv Z Z.heap va kv (.object "com/example/mapwright/mapwright/sql/Dialect") 2 [.ref a0, .ref a1] .null) (EV : Exa Z Z.heap va "[Lcom/example/mapwright/mapwright/sql/Dialect;") (E0 : Exa Z Z.heap a0 "com/example/mapwright/mapwright/sql/Dialect") (E1 : Exa Z Z.heap a1 "com/example/mapwright/mapwright/sql/Dialect") (G0 : Fld Z Z.heap a0 "com/example/mapwright/mapwright/sql/Dialect" "settingValue" "Ljava/lang/String;" (.ref s0)) (G1 : Fld Z Z.heap a1 "com/example/mapwright/mapwright/sql/Dialect" "settingValue" "Ljava/lang/String;" (.ref s1)) (X0 : Str Z Z.heap s0 own_pg) (X1 : Str Z Z.heap s1 own_md) (em : Addr) (SE : Sta Z Z.heap "java/util/Optional" "EMPTY" "Ljava/util/Optional;" (.ref em)) (EE : Exa Z Z.heap em "java/util/Optional") (GE : Fld Z Z.heap em "java/util/Optional" "value" "Ljava/lang/Object;" .null) (h0 : Heap) (hE : Ext Z.heap h0) : Con l Z (⟨"com/example/mapwright/mapwright/sql/Dialect", "forSettingValue", "(Ljava/lang/String;)Ljava/util/Optional;"⟩ : MethodName) prog_116_method_5_code 5 (some (.object "java/util/Optional")) ({ frames := 3, cells := 2, slots := 3, locals := 112 } : Room) #[.null] h0 [] (QV fun w h => w = .ref em ∧ Ext h0 h) := by
  refine Con.of (plainFor_of_name pn3) hE ⟨b0, own_ew0 hw⟩ all0 (L0 := #[.val (.null), .unset, .unset, .unset, .unset]) (fun m => by first | (simp [entryFrame, mkF, argsToLocals, Value.category]; done) | rfl) ?_
  intro p e s m args below meth c T W
  refine o_static 3 [] W (tw hw 4) (tw hw 5) (tw hw 2) (tw hw 6) (con_vals l Z b0 hw va a0 a1 s0 s1 kv SV AV EV E0 E1 G0 G1 X0 X1 _ W.old) pd7 d1_0 rfl all0 (fun T h v W qq gg => ?_)
  obtain ⟨_, rfl, o, rfl, Eo, Ao⟩ := qq
  show Go p e below _ _ (mkF m 3 #[.val (.null), .unset, .unset, .unset, .unset] [(.ref o)])
  refine o_astoreN 4 W #[.val (.null), .val (.ref o), .unset, .unset, .unset] d1_3 rfl rfl ?_
  refine o_aloadN 5 W d1_4 rfl rfl ?_
  refine o_alenV 6 W Ao d1_5 ?_
  refine o_istoreN 7 W #[.val (.null), .val (.ref o), .val (.int (2 : Int32)), .unset, .unset] d1_6 rfl ?_
  refine o_iconst 8 W (0) d1_7 (by first | rfl | decide) ?_
  refine o_istoreN 9 W #[.val (.null), .val (.ref o), .val (.int (2 : Int32)), .val (.int (0 : Int32)), .unset] d1_8 rfl ?_
  refine o_iloadN 10 W d1_9 rfl ?_
  refine o_iloadN 11 W d1_10 rfl ?_
  refine o_icN 14 W d1_11 (by decide) ?_
  refine o_aloadN 15 W d1_14 rfl rfl ?_
  refine o_iloadN 16 W d1_15 rfl ?_
  obtain ⟨cl0, B1, B2, B3, B4, B5, B6⟩ := id Ao
  refine o_aaload 17 W B1 rfl (inb_of B3 (by decide)) (Has.at B5 (inb_of B3 (by decide)) rfl) d1_16 ?_
  refine o_astore 19 W #[.val (.null), .val (.ref o), .val (.int (2 : Int32)), .val (.int (0 : Int32)), .val (.ref a0)] d1_17 rfl rfl ?_
  refine o_aload 21 W d1_19 rfl rfl ?_
  refine o_getF 24 W (tw hw 21) (G0.ext W.old) d1_21 (fun T W => ?_)
  refine o_aloadN 25 W d1_24 rfl rfl ?_
  refine o_virtual 28 [(.null)] W (tw hw 23) (tw hw 24) (tw hw 26) (tw hw 25) (tw hw 27) (tw hw 28) ((X0.ext W.old).1) (con_seqN l Z b0 hw s0 _ W.old) pd8 d1_25 rfl all0 (fun T h v W qq gg => ?_)
  obtain ⟨_, rfl, rfl, rfl⟩ := qq
  show Go p e below _ _ (mkF m 28 #[.val (.null), .val (.ref o), .val (.int (2 : Int32)), .val (.int (0 : Int32)), .val (.ref a0)] [(.int (0 : Int32))])
  refine o_ifY 37 W d1_28 (by decide) ?_
  refine o_iinc 40 W (1) #[.val (.null), .val (.ref o), .val (.int (2 : Int32)), .val (.int (1 : Int32)), .val (.ref a0)] d1_37 rfl (by decide) rfl ?_
  refine o_goto 9 W d1_40 ?_
  refine o_iloadN 10 W d1_9 rfl ?_
  refine o_iloadN 11 W d1_10 rfl ?_
  refine o_icN 14 W d1_11 (by decide) ?_
  refine o_aloadN 15 W d1_14 rfl rfl ?_
  refine o_iloadN 16 W d1_15 rfl ?_
  obtain ⟨cl1, B1, B2, B3, B4, B5, B6⟩ := id Ao
  refine o_aaload 17 W B1 rfl (inb_of B3 (by decide)) (Has.at B5 (inb_of B3 (by decide)) rfl) d1_16 ?_
  refine o_astore 19 W #[.val (.null), .val (.ref o), .val (.int (2 : Int32)), .val (.int (1 : Int32)), .val (.ref a1)] d1_17 rfl rfl ?_
  refine o_aload 21 W d1_19 rfl rfl ?_
  refine o_getF 24 W (tw hw 21) (G1.ext W.old) d1_21 (fun T W => ?_)
  refine o_aloadN 25 W d1_24 rfl rfl ?_
  refine o_virtual 28 [(.null)] W (tw hw 23) (tw hw 24) (tw hw 26) (tw hw 25) (tw hw 27) (tw hw 28) ((X1.ext W.old).1) (con_seqN l Z b0 hw s1 _ W.old) pd8 d1_25 rfl all0 (fun T h v W qq gg => ?_)
  obtain ⟨_, rfl, rfl, rfl⟩ := qq
  show Go p e below _ _ (mkF m 28 #[.val (.null), .val (.ref o), .val (.int (2 : Int32)), .val (.int (1 : Int32)), .val (.ref a1)] [(.int (0 : Int32))])
  refine o_ifY 37 W d1_28 (by decide) ?_
  refine o_iinc 40 W (2) #[.val (.null), .val (.ref o), .val (.int (2 : Int32)), .val (.int (2 : Int32)), .val (.ref a1)] d1_37 rfl (by decide) rfl ?_
  refine o_goto 9 W d1_40 ?_
  refine o_iloadN 10 W d1_9 rfl ?_
  refine o_iloadN 11 W d1_10 rfl ?_
  refine o_icY 43 W d1_11 (by decide) ?_
  refine o_static 46 [] W (tw hw 29) (tw hw 30) (tw hw 31) (tw hw 32) (con_emp l Z b0 hw em SE EE GE _ W.old) pd9 d1_43 rfl all0 (fun T h v W qq gg => ?_)
  obtain ⟨_, rfl, rfl, rfl⟩ := qq
  show Go p e below _ _ (mkF m 46 #[.val (.null), .val (.ref o), .val (.int (2 : Int32)), .val (.int (2 : Int32)), .val (.ref a1)] [(.ref em)])
  exact o_aret W rfl rfl rfl d1_46 (⟨rfl, Eo⟩)
theorem own_set (cs : List Int32) (i : Nat) (v : Int32) : (cs.map Value.int).set i (.int v) = (cs.set i v).map Value.int := by rw [List.map_set]
theorem own_chset {cs : List Int32} (h : own_ch cs) (i : Nat) {v : Int32} (hv : ¬ v < 0 ∧ ¬ (255 : Int32) < v) : own_ch (cs.set i v) := fun c hc => by
  rcases List.mem_or_eq_of_mem_set hc with q | q
  · exact h c q
  · exact q ▸ hv
theorem con_law (l : Launch) (Z : State) (b0 : Array Value) (hw : ∀ d ∈ tables_1, d.before b0 Z = true) (x0 x1 x2 x3 : Int32) (va a0 a1 s0 s1 : Addr) (kv : ClassId) (SV : Sta Z Z.heap "com/example/mapwright/mapwright/sql/Dialect" "$VALUES" "[Lcom/example/mapwright/mapwright/sql/Dialect;" (.ref va)) (AV : Arv Z Z.heap va kv (.object "com/example/mapwright/mapwright/sql/Dialect") 2 [.ref a0, .ref a1] .null) (EV : Exa Z Z.heap va "[Lcom/example/mapwright/mapwright/sql/Dialect;") (E0 : Exa Z Z.heap a0 "com/example/mapwright/mapwright/sql/Dialect") (E1 : Exa Z Z.heap a1 "com/example/mapwright/mapwright/sql/Dialect") (G0 : Fld Z Z.heap a0 "com/example/mapwright/mapwright/sql/Dialect" "settingValue" "Ljava/lang/String;" (.ref s0)) (G1 : Fld Z Z.heap a1 "com/example/mapwright/mapwright/sql/Dialect" "settingValue" "Ljava/lang/String;" (.ref s1)) (X0 : Str Z Z.heap s0 own_pg) (X1 : Str Z Z.heap s1 own_md) (S0 : Sta Z Z.heap "com/example/mapwright/mapwright/sql/Dialect" "POSTGRESQL" "Lcom/example/mapwright/mapwright/sql/Dialect;" (.ref a0)) (S1 : Sta Z Z.heap "com/example/mapwright/mapwright/sql/Dialect" "MARIADB" "Lcom/example/mapwright/mapwright/sql/Dialect;" (.ref a1)) (n01 : a0 ≠ a1) (em : Addr) (SE : Sta Z Z.heap "java/util/Optional" "EMPTY" "Ljava/util/Optional;" (.ref em)) (EE : Exa Z Z.heap em "java/util/Optional") (GE : Fld Z Z.heap em "java/util/Optional" "value" "Ljava/lang/Object;" .null) (cz : Int32) (hcz : ¬ cz = 0) (SC : Sta Z Z.heap "java/lang/String" "COMPACT_STRINGS" "Z" (.int cz)) : Con l Z x code maxLocals ret room_1 #[(.int x0), (.int x1), (.int x2), (.int x3)] Z.heap [] (QV fun w h => w = .int 1) := by
  refine Con.of (plainFor_of_name pn6) (own_ext_refl _) ⟨b0, own_ew0 hw⟩ all0 (L0 := #[.val (.int x0), .val (.int x1), .val (.int x2), .val (.int x3), .unset, .unset, .unset, .unset, .unset, .unset]) (fun m => by first | (simp [entryFrame, mkF, argsToLocals, Value.category, maxLocals]; done) | rfl) ?_
  intro p e s m args below meth c T W
  refine o_iloadN 1 W at_0 rfl ?_
  refine o_sipush 4 W (255) at_1 (by first | rfl | decide) ?_
  refine o_iand 5 W at_4 ?_
  refine o_i2c 6 W at_5 ?_
  refine o_istore 8 W #[.val (.int x0), .val (.int x1), .val (.int x2), .val (.int x3), .val (.int ((x2 &&& (255 : Int32)).toUInt32.toUInt16.toUInt32.toInt32)), .unset, .unset, .unset, .unset, .unset] at_6 rfl ?_
  have rc := own_c255 x2
  generalize ((x2 &&& (255 : Int32)).toUInt32.toUInt16.toUInt32.toInt32) = ch at rc ⊢
  show Go p e below _ _ (mkF m 8 #[.val (.int x0), .val (.int x1), .val (.int x2), .val (.int x3), .val (.int ch), .unset, .unset, .unset, .unset, .unset] [])
  obtain ⟨sub, hsub⟩ : ∃ b : Bool, b = !decide (x3 &&& 1 = 0) := ⟨_, rfl⟩
  refine Go.cutW W (g' := (mkF m 19 #[.val (.int x0), .val (.int x1), .val (.int x2), .val (.int x3), .val (.int ch), .unset, .unset, .unset, .unset, .unset] [(.int (own_bi sub))])) (fun J => ?_) (fun T W => ?_)
  · refine o_iloadN 9 W at_8 rfl ?_
    refine o_iconst 10 W (1) at_9 (by first | rfl | decide) ?_
    refine o_iand 11 W at_10 ?_
    refine o_ifeq 18 14 W at_11 (fun c11 => ?_) (fun c11 => ?_)
    · refine o_iconst 19 W (0) at_18 (by first | rfl | decide) ?_
      exact (J _ W).eq (congrArg (fun z => mkF m 19 #[.val (.int x0), .val (.int x1), .val (.int x2), .val (.int x3), .val (.int ch), .unset, .unset, .unset, .unset, .unset] [(.int z)]) (by rw [hsub]; simp [own_bi, c11]))
    · refine o_iconst 15 W (1) at_14 (by first | rfl | decide) ?_
      refine o_goto 19 W at_15 ?_
      exact (J _ W).eq (congrArg (fun z => mkF m 19 #[.val (.int x0), .val (.int x1), .val (.int x2), .val (.int x3), .val (.int ch), .unset, .unset, .unset, .unset, .unset] [(.int z)]) (by rw [hsub]; simp [own_bi, c11]))
  clear hsub
  refine o_istore 21 W #[.val (.int x0), .val (.int x1), .val (.int x2), .val (.int x3), .val (.int ch), .val (.int (own_bi sub)), .unset, .unset, .unset, .unset] at_19 rfl ?_
  refine o_iloadN 22 W at_21 rfl ?_
  refine o_bipush 24 W (7) at_22 (by first | rfl | decide) ?_
  refine o_iand 25 W at_24 ?_
  refine o_istore 27 W #[.val (.int x0), .val (.int x1), .val (.int x2), .val (.int x3), .val (.int ch), .val (.int (own_bi sub)), .val (.int (x0 &&& (7 : Int32))), .unset, .unset, .unset] at_25 rfl ?_
  generalize (x0 &&& (7 : Int32)) = md
  show Go p e below _ _ (mkF m 27 #[.val (.int x0), .val (.int x1), .val (.int x2), .val (.int x3), .val (.int ch), .val (.int (own_bi sub)), .val (.int md), .unset, .unset, .unset] [])
  have J : ∀ (T : State) (h : Heap) (t : Addr) (cs : List Int32) (s8 : Slot), Wk p l e room_1 s m args below meth c Z x code maxLocals ret T h 10 100 [] → Str Z h t cs → own_ch cs → cs.length < 5000 → (s8 = .unset ∨ ∃ w, s8 = .val w ∧ w.category = 1) → Go p e below (Gd s below Z (QV fun w h => w = .int 1) room_1.cells room_1.slots) T (mkF m 500 #[.val (.int x0), .val (.int x1), .val (.int x2), .val (.int x3), .val (.int ch), .val (.int (own_bi sub)), .val (.int md), .val (.ref t), s8, .unset] []) := by
    intro T h t cs s8 W X hc hb h8
    refine o_null 501 W at_500 ?_
    refine o_astore 503 W #[.val (.int x0), .val (.int x1), .val (.int x2), .val (.int x3), .val (.int ch), .val (.int (own_bi sub)), .val (.int md), .val (.ref t), .val (.null), .unset] at_501 rfl (XS.store1 rfl h8 rfl) ?_
    refine o_aload 505 W at_503 rfl rfl ?_
    refine o_nullN 508 W at_505 ?_
    refine o_aload 510 W at_508 rfl rfl ?_
    refine o_ldcC 512 40 W (vs := [.int 112, .int 111, .int 115, .int 116, .int 103, .int 114, .int 101, .int 115, .int 113, .int 108]) (z := 10) (fun q => q) (tw hw 70) (own_wS hw) (by first | (simp [own_EL]; done) | simp [own_EL, x]) (by decide) (by decide) rfl at_510 (by decide) (fun T h g bg kg W Eg Xg Cg Vg Ag ng => ?_)
    have Yg : Str Z h g own_pg := ⟨Xg, Cg, bg, kg, 10, Vg, by exact Ag, rfl⟩
    have X := X.ext Eg
    refine o_virtual 515 [(.ref g)] W (tw hw 73) (tw hw 24) (tw hw 26) (tw hw 25) (tw hw 27) (tw hw 28) (X.1) (con_seq l Z b0 hw t g cs own_pg hb hc (by decide) own_pgch _ W.old X Yg cz hcz SC) pd8 at_512 rfl all0 (fun T h v W qq gg => ?_)
    obtain ⟨_, rfl, rfl, rfl⟩ := qq
    show Go p e below _ _ (mkF m 515 #[.val (.int x0), .val (.int x1), .val (.int x2), .val (.int x3), .val (.int ch), .val (.int (own_bi sub)), .val (.int md), .val (.ref t), .val (.null), .unset] [(.int (own_bi (decide (cs = own_pg))))])
    refine o_ifeq 526 518 W at_515 (fun c515 => ?_) (fun c515 => ?_)
    · have n0 : ¬ cs = own_pg := by rw [own_bi0, decide_eq_false_iff_not] at c515; exact c515
      refine o_aload 528 W at_526 rfl rfl ?_
      refine o_ldcC 530 28 W (vs := [.int 109, .int 97, .int 114, .int 105, .int 97, .int 100, .int 98]) (z := 7) (fun q => q) (tw hw 79) (own_wS hw) (by first | (simp [own_EL]; done) | simp [own_EL, x]) (by decide) (by decide) rfl at_528 (by decide) (fun T h d bd kd W Ed Xd Cd Vd Ad nd => ?_)
      have Yd : Str Z h d own_md := ⟨Xd, Cd, bd, kd, 7, Vd, by exact Ad, rfl⟩
      have X := X.ext Ed
      refine o_virtual 533 [(.ref d)] W (tw hw 73) (tw hw 24) (tw hw 26) (tw hw 25) (tw hw 27) (tw hw 28) (X.1) (con_seq l Z b0 hw t d cs own_md hb hc (by decide) own_mdch _ W.old X Yd cz hcz SC) pd8 at_530 rfl all0 (fun T h v W qq gg => ?_)
      obtain ⟨_, rfl, rfl, rfl⟩ := qq
      show Go p e below _ _ (mkF m 533 #[.val (.int x0), .val (.int x1), .val (.int x2), .val (.int x3), .val (.int ch), .val (.int (own_bi sub)), .val (.int md), .val (.ref t), .val (.null), .unset] [(.int (own_bi (decide (cs = own_md))))])
      refine o_ifeq 541 536 W at_533 (fun c533 => ?_) (fun c533 => ?_)
      · have n1 : ¬ cs = own_md := by rw [own_bi0, decide_eq_false_iff_not] at c533; exact c533
        refine o_aload 543 W at_541 rfl rfl ?_
        refine o_static 546 [(.ref t)] W (tw hw 0) (tw hw 1) (tw hw 2) (tw hw 3) (con_fsv l Z b0 hw t cs hb hc va a0 a1 s0 s1 kv SV AV EV E0 E1 G0 G1 X0 X1 em SE EE GE _ W.old X cz hcz SC) pd11 at_543 rfl all0 (fun T h v W qq gg => ?_)
        obtain ⟨_, rfl, r, rfl, Ar, Fr_, Er⟩ := qq
        show Go p e below _ _ (mkF m 546 #[.val (.int x0), .val (.int x1), .val (.int x2), .val (.int x3), .val (.int ch), .val (.int (own_bi sub)), .val (.int md), .val (.ref t), .val (.null), .unset] [(.ref r)])
        have X := X.ext Er
        rw [show own_val cs a0 a1 = .null by simp [own_val, n0, n1]] at Fr_
        refine o_null 547 W at_546 ?_
        refine o_virtual 550 [(.null)] W (tw hw 34) (tw hw 35) (tw hw 37) (tw hw 36) (tw hw 31) (tw hw 38) (Ar) (con_oreN l Z b0 hw r _ W.old Fr_) pd5 at_547 rfl all0 (fun T h v W qq gg => ?_)
        obtain ⟨_, rfl, rfl, rfl⟩ := qq
        show Go p e below _ _ (mkF m 550 #[.val (.int x0), .val (.int x1), .val (.int x2), .val (.int x3), .val (.int ch), .val (.int (own_bi sub)), .val (.int md), .val (.ref t), .val (.null), .unset] [(.null)])
        refine o_castNull 553 W at_550 ?_
        refine o_astore 555 W #[.val (.int x0), .val (.int x1), .val (.int x2), .val (.int x3), .val (.int ch), .val (.int (own_bi sub)), .val (.int md), .val (.ref t), .val (.null), .val (.null)] at_553 rfl rfl ?_
        refine o_aload 557 W at_555 rfl rfl ?_
        refine o_aload 559 W at_557 rfl rfl ?_
        refine o_aceq 564 562 W rfl rfl at_559 (fun c559 => ?_) (fun c559 => ?_)
        · refine o_aload 566 W at_564 rfl rfl ?_
          refine o_nullY 582 W at_566 ?_
          refine o_iconst 583 W (1) at_582 (by first | rfl | decide) ?_
          refine o_goto 587 W at_583 ?_
          exact o_nret W (1 : Int32) (by simp) (by decide) at_587 (rfl)
        · exact absurd rfl c559
      · have q1 : cs = own_md := by cases z : decide (cs = own_md); exact absurd ((own_bi0 _).mpr z) c533; exact of_decide_eq_true z
        refine o_getS 539 W (tw hw 81) S1 at_536 fun T W => ?_
        refine o_astore 541 W #[.val (.int x0), .val (.int x1), .val (.int x2), .val (.int x3), .val (.int ch), .val (.int (own_bi sub)), .val (.int md), .val (.ref t), .val (.ref a1), .unset] at_539 rfl rfl ?_
        refine o_aload 543 W at_541 rfl rfl ?_
        refine o_static 546 [(.ref t)] W (tw hw 0) (tw hw 1) (tw hw 2) (tw hw 3) (con_fsv l Z b0 hw t cs hb hc va a0 a1 s0 s1 kv SV AV EV E0 E1 G0 G1 X0 X1 em SE EE GE _ W.old X cz hcz SC) pd11 at_543 rfl all0 (fun T h v W qq gg => ?_)
        obtain ⟨_, rfl, r, rfl, Ar, Fr_, Er⟩ := qq
        show Go p e below _ _ (mkF m 546 #[.val (.int x0), .val (.int x1), .val (.int x2), .val (.int x3), .val (.int ch), .val (.int (own_bi sub)), .val (.int md), .val (.ref t), .val (.ref a1), .unset] [(.ref r)])
        have X := X.ext Er
        rw [show own_val cs a0 a1 = (.ref a1) by simp [own_val, n0, q1, own_pm]] at Fr_
        refine o_null 547 W at_546 ?_
        refine o_virtual 550 [(.null)] W (tw hw 34) (tw hw 35) (tw hw 37) (tw hw 36) (tw hw 31) (tw hw 38) (Ar) (con_oreR l Z b0 hw r a1 _ W.old Fr_) pd5 at_547 rfl all0 (fun T h v W qq gg => ?_)
        obtain ⟨_, rfl, rfl, rfl⟩ := qq
        show Go p e below _ _ (mkF m 550 #[.val (.int x0), .val (.int x1), .val (.int x2), .val (.int x3), .val (.int ch), .val (.int (own_bi sub)), .val (.int md), .val (.ref t), .val (.ref a1), .unset] [(.ref a1)])
        refine o_cast 553 W (tw hw 96) (Ins.self (E1.ext W.old)) at_550 (fun T W => ?_)
        refine o_astore 555 W #[.val (.int x0), .val (.int x1), .val (.int x2), .val (.int x3), .val (.int ch), .val (.int (own_bi sub)), .val (.int md), .val (.ref t), .val (.ref a1), .val (.ref a1)] at_553 rfl rfl ?_
        refine o_aload 557 W at_555 rfl rfl ?_
        refine o_aload 559 W at_557 rfl rfl ?_
        refine o_aceq 564 562 W rfl rfl at_559 (fun c559 => ?_) (fun c559 => ?_)
        · refine o_aload 566 W at_564 rfl rfl ?_
          refine o_nullN 569 W at_566 ?_
          refine o_aload 571 W at_569 rfl rfl ?_
          refine o_virtual 574 [] W (tw hw 98) (tw hw 99) (tw hw 101) (tw hw 100) (tw hw 2) (tw hw 102) ((E1.ext W.old)) (con_stv l Z b0 hw a1 s1 _ W.old (G1.ext W.old)) pd12 at_571 rfl all0 (fun T h v W qq gg => ?_)
          obtain ⟨_, rfl, rfl, rfl⟩ := qq
          show Go p e below _ _ (mkF m 574 #[.val (.int x0), .val (.int x1), .val (.int x2), .val (.int x3), .val (.int ch), .val (.int (own_bi sub)), .val (.int md), .val (.ref t), .val (.ref a1), .val (.ref a1)] [(.ref s1)])
          refine o_aload 576 W at_574 rfl rfl ?_
          refine o_virtual 579 [(.ref t)] W (tw hw 73) (tw hw 24) (tw hw 26) (tw hw 25) (tw hw 27) (tw hw 28) ((X1.ext W.old).1) (con_seq l Z b0 hw s1 t own_md cs (by decide) own_mdch hb hc _ W.old (X1.ext W.old) X cz hcz SC) pd8 at_576 rfl all0 (fun T h v W qq gg => ?_)
          obtain ⟨_, rfl, rfl, rfl⟩ := qq
          show Go p e below _ _ (mkF m 579 #[.val (.int x0), .val (.int x1), .val (.int x2), .val (.int x3), .val (.int ch), .val (.int (own_bi sub)), .val (.int md), .val (.ref t), .val (.ref a1), .val (.ref a1)] [(.int (own_bi (decide (own_md = cs))))])
          refine o_ifN 582 W at_579 (XT.i0_eq_f (by rw [decide_eq_true q1.symm]; decide)) ?_
          refine o_iconst 583 W (1) at_582 (by first | rfl | decide) ?_
          refine o_goto 587 W at_583 ?_
          exact o_nret W (1 : Int32) (by simp) (by decide) at_587 (rfl)
        · exact absurd rfl c559
    · have q0 : cs = own_pg := by cases z : decide (cs = own_pg); exact absurd ((own_bi0 _).mpr z) c515; exact of_decide_eq_true z
      refine o_getS 521 W (tw hw 103) S0 at_518 fun T W => ?_
      refine o_astore 523 W #[.val (.int x0), .val (.int x1), .val (.int x2), .val (.int x3), .val (.int ch), .val (.int (own_bi sub)), .val (.int md), .val (.ref t), .val (.ref a0), .unset] at_521 rfl rfl ?_
      refine o_goto 541 W at_523 ?_
      refine o_aload 543 W at_541 rfl rfl ?_
      refine o_static 546 [(.ref t)] W (tw hw 0) (tw hw 1) (tw hw 2) (tw hw 3) (con_fsv l Z b0 hw t cs hb hc va a0 a1 s0 s1 kv SV AV EV E0 E1 G0 G1 X0 X1 em SE EE GE _ W.old X cz hcz SC) pd11 at_543 rfl all0 (fun T h v W qq gg => ?_)
      obtain ⟨_, rfl, r, rfl, Ar, Fr_, Er⟩ := qq
      show Go p e below _ _ (mkF m 546 #[.val (.int x0), .val (.int x1), .val (.int x2), .val (.int x3), .val (.int ch), .val (.int (own_bi sub)), .val (.int md), .val (.ref t), .val (.ref a0), .unset] [(.ref r)])
      have X := X.ext Er
      rw [show own_val cs a0 a1 = (.ref a0) by simp [own_val, q0]] at Fr_
      refine o_null 547 W at_546 ?_
      refine o_virtual 550 [(.null)] W (tw hw 34) (tw hw 35) (tw hw 37) (tw hw 36) (tw hw 31) (tw hw 38) (Ar) (con_oreR l Z b0 hw r a0 _ W.old Fr_) pd5 at_547 rfl all0 (fun T h v W qq gg => ?_)
      obtain ⟨_, rfl, rfl, rfl⟩ := qq
      show Go p e below _ _ (mkF m 550 #[.val (.int x0), .val (.int x1), .val (.int x2), .val (.int x3), .val (.int ch), .val (.int (own_bi sub)), .val (.int md), .val (.ref t), .val (.ref a0), .unset] [(.ref a0)])
      refine o_cast 553 W (tw hw 96) (Ins.self (E0.ext W.old)) at_550 (fun T W => ?_)
      refine o_astore 555 W #[.val (.int x0), .val (.int x1), .val (.int x2), .val (.int x3), .val (.int ch), .val (.int (own_bi sub)), .val (.int md), .val (.ref t), .val (.ref a0), .val (.ref a0)] at_553 rfl rfl ?_
      refine o_aload 557 W at_555 rfl rfl ?_
      refine o_aload 559 W at_557 rfl rfl ?_
      refine o_aceq 564 562 W rfl rfl at_559 (fun c559 => ?_) (fun c559 => ?_)
      · refine o_aload 566 W at_564 rfl rfl ?_
        refine o_nullN 569 W at_566 ?_
        refine o_aload 571 W at_569 rfl rfl ?_
        refine o_virtual 574 [] W (tw hw 98) (tw hw 99) (tw hw 101) (tw hw 100) (tw hw 2) (tw hw 102) ((E0.ext W.old)) (con_stv l Z b0 hw a0 s0 _ W.old (G0.ext W.old)) pd12 at_571 rfl all0 (fun T h v W qq gg => ?_)
        obtain ⟨_, rfl, rfl, rfl⟩ := qq
        show Go p e below _ _ (mkF m 574 #[.val (.int x0), .val (.int x1), .val (.int x2), .val (.int x3), .val (.int ch), .val (.int (own_bi sub)), .val (.int md), .val (.ref t), .val (.ref a0), .val (.ref a0)] [(.ref s0)])
        refine o_aload 576 W at_574 rfl rfl ?_
        refine o_virtual 579 [(.ref t)] W (tw hw 73) (tw hw 24) (tw hw 26) (tw hw 25) (tw hw 27) (tw hw 28) ((X0.ext W.old).1) (con_seq l Z b0 hw s0 t own_pg cs (by decide) own_pgch hb hc _ W.old (X0.ext W.old) X cz hcz SC) pd8 at_576 rfl all0 (fun T h v W qq gg => ?_)
        obtain ⟨_, rfl, rfl, rfl⟩ := qq
        show Go p e below _ _ (mkF m 579 #[.val (.int x0), .val (.int x1), .val (.int x2), .val (.int x3), .val (.int ch), .val (.int (own_bi sub)), .val (.int md), .val (.ref t), .val (.ref a0), .val (.ref a0)] [(.int (own_bi (decide (own_pg = cs))))])
        refine o_ifN 582 W at_579 (XT.i0_eq_f (by rw [decide_eq_true q0.symm]; decide)) ?_
        refine o_iconst 583 W (1) at_582 (by first | rfl | decide) ?_
        refine o_goto 587 W at_583 ?_
        exact o_nret W (1 : Int32) (by simp) (by decide) at_587 (rfl)
      · exact absurd rfl c559
  refine o_iload 29 W at_27 rfl ?_
  refine o_ifne 38 32 W at_29 (fun c29 => ?_) (fun c29 => ?_)
  · refine o_iload 40 W at_38 rfl ?_
    refine o_iconst 41 W (1) at_40 (by first | rfl | decide) ?_
    refine o_icne 135 44 W at_41 (fun c41 => ?_) (fun c41 => ?_)
    · refine o_iload 137 W at_135 rfl ?_
      refine o_iconst 138 W (2) at_137 (by first | rfl | decide) ?_
      refine o_icne 214 141 W at_138 (fun c138 => ?_) (fun c138 => ?_)
      · refine o_iload 216 W at_214 rfl ?_
        refine o_iconst 217 W (3) at_216 (by first | rfl | decide) ?_
        refine o_icne 300 220 W at_217 (fun c217 => ?_) (fun c217 => ?_)
        · refine o_iload 302 W at_300 rfl ?_
          refine o_iconst 303 W (4) at_302 (by first | rfl | decide) ?_
          refine o_icne 368 306 W at_303 (fun c303 => ?_) (fun c303 => ?_)
          · refine o_iload 370 W at_368 rfl ?_
            refine o_iconst 371 W (5) at_370 (by first | rfl | decide) ?_
            refine o_icne 441 374 W at_371 (fun c371 => ?_) (fun c371 => ?_)
            · refine o_iload 443 W at_441 rfl ?_
              refine o_bipush 445 W (6) at_443 (by first | rfl | decide) ?_
              refine o_icne 496 448 W at_445 (fun c445 => ?_) (fun c445 => ?_)
              · refine o_ldcC 498 0 W (vs := []) (z := 0) (fun q => q) (tw hw 80) (own_wS hw) (by first | (simp [own_EL]; done) | simp [own_EL, x]) (by decide) (by decide) rfl at_496 (by decide) (fun T h t bt kt W Et Xt Ct Vt At nt => ?_)
                have Yt : Str Z h t [] := ⟨Xt, Ct, bt, kt, 0, Vt, by exact At, rfl⟩
                refine o_astore 500 W #[.val (.int x0), .val (.int x1), .val (.int x2), .val (.int x3), .val (.int ch), .val (.int (own_bi sub)), .val (.int md), .val (.ref t), .unset, .unset] at_498 rfl rfl ?_
                exact J T _ t [] _ ((W.mono (by decide) (by decide)).drop (fun x hx => nomatch hx)) Yt own_ch0 (by decide) (Or.inl rfl)
              · have r1 := own_c255 (XT.ushr x2 8)
                have r2 := own_c255 (XT.ushr x2 16)
                refine o_iconst 449 W (3) at_448 (by first | rfl | decide) ?_
                refine o_newarray 451 3 W (tw hw 41) at_449 (by decide) (by decide) (fun T h d kd W Ed Ad gd zd => ?_)
                have Ad := own_pad 3 Ad
                refine o_dup 452 W at_451 rfl ?_
                refine o_iconst 453 W (0) at_452 (by first | rfl | decide) ?_
                refine o_iload 455 W at_453 rfl ?_
                refine o_castore 456 0 W Ad (by decide) rfl (by first | decide | simp) zd at_455 (fun T h W w0 Ad => ?_)
                have Ed := own_ext_wr Ed w0 gd
                refine o_dup 457 W at_456 rfl ?_
                refine o_iconst 458 W (1) at_457 (by first | rfl | decide) ?_
                refine o_iloadN 459 W at_458 rfl ?_
                refine o_bipush 461 W (8) at_459 (by first | rfl | decide) ?_
                refine o_iushr 462 W at_461 ?_
                refine o_sipush 465 W (255) at_462 (by first | rfl | decide) ?_
                refine o_iand 466 W at_465 ?_
                refine o_i2c 467 W at_466 ?_
                refine o_castore 468 1 W Ad (by decide) rfl (by first | decide | simp) zd at_467 (fun T h W w1 Ad => ?_)
                have Ed := own_ext_wr Ed w1 gd
                refine o_dup 469 W at_468 rfl ?_
                refine o_iconst 470 W (2) at_469 (by first | rfl | decide) ?_
                refine o_iloadN 471 W at_470 rfl ?_
                refine o_bipush 473 W (16) at_471 (by first | rfl | decide) ?_
                refine o_iushr 474 W at_473 ?_
                refine o_sipush 477 W (255) at_474 (by first | rfl | decide) ?_
                refine o_iand 478 W at_477 ?_
                refine o_i2c 479 W at_478 ?_
                refine o_castore 480 2 W Ad (by decide) rfl (by first | decide | simp) zd at_479 (fun T h W w2 Ad => ?_)
                have Ed := own_ext_wr Ed w2 gd
                simp only [own_nar rc, own_nar r1, own_nar r2] at Ad
                have Ad : Arv Z h d kd .char 3 ([ch, ((XT.ushr x2 (8 : Int32) &&& (255 : Int32)).toUInt32.toUInt16.toUInt32.toInt32), ((XT.ushr x2 (16 : Int32) &&& (255 : Int32)).toUInt32.toUInt16.toUInt32.toInt32)].map Value.int) (.int 0) := Ad
                refine o_astore 482 W #[.val (.int x0), .val (.int x1), .val (.int x2), .val (.int x3), .val (.int ch), .val (.int (own_bi sub)), .val (.int md), .unset, .val (.ref d), .unset] at_480 rfl rfl ?_
                refine o_new 485 W (tw hw 42) (tw hw 43) (tw hw 27) at_482 (fun T h o W Eo Ao Do go zo => ?_)
                have Po := Do (Or.inr (tw hw 69)) (ty := .array .byte) (by decide)
                have Co := Do (Or.inr (tw hw 67)) (ty := .byte) (by decide)
                have Ad := Ad.ext Eo
                refine o_dup 486 W at_485 rfl ?_
                refine o_aload 488 W at_486 rfl rfl ?_
                refine o_special 491 [(.ref d)] W (tw hw 44) (tw hw 45) (tw hw 27) (tw hw 46) (con_sin l Z b0 hw o d kd 3 [ch, ((XT.ushr x2 (8 : Int32) &&& (255 : Int32)).toUInt32.toUInt16.toUInt32.toInt32), ((XT.ushr x2 (16 : Int32) &&& (255 : Int32)).toUInt32.toUInt16.toUInt32.toInt32)] rfl (by first | decide | simp) (own_chS rc (own_chS r1 (own_chS r2 own_ch0))) _ W.old Ad Ao Po Co zo cz hcz SC (by simp)) pd13 at_488 rfl (by simp) (fun T h v W qq gg => ?_)
                obtain ⟨rfl, Ko, Xo⟩ := qq
                show Go p e below _ _ (mkF m 491 #[.val (.int x0), .val (.int x1), .val (.int x2), .val (.int x3), .val (.int ch), .val (.int (own_bi sub)), .val (.int md), .unset, .val (.ref d), .unset] [(.ref o)])
                refine o_astore 493 W #[.val (.int x0), .val (.int x1), .val (.int x2), .val (.int x3), .val (.int ch), .val (.int (own_bi sub)), .val (.int md), .val (.ref o), .val (.ref d), .unset] at_491 rfl rfl ?_
                refine o_goto 500 W at_493 ?_
                exact J T _ o [ch, ((XT.ushr x2 (8 : Int32) &&& (255 : Int32)).toUInt32.toUInt16.toUInt32.toInt32), ((XT.ushr x2 (16 : Int32) &&& (255 : Int32)).toUInt32.toUInt16.toUInt32.toInt32)] _ ((W.mono (by decide) (by decide)).drop (fun x hx => nomatch hx)) Xo (own_chS rc (own_chS r1 (own_chS r2 own_ch0))) (by first | decide | simp) (Or.inr ⟨_, rfl, rfl⟩)
            · refine o_bipush 376 W (6) at_374 (by first | rfl | decide) ?_
              refine o_newarray 378 6 W (tw hw 41) at_376 (by decide) (by decide) (fun T h d kd W Ed Ad gd zd => ?_)
              have Ad := own_pad 6 Ad
              refine o_dup 379 W at_378 rfl ?_
              refine o_iconst 380 W (0) at_379 (by first | rfl | decide) ?_
              refine o_bipush 382 W (109) at_380 (by first | rfl | decide) ?_
              refine o_castore 383 0 W Ad (by decide) rfl (by first | decide | simp) zd at_382 (fun T h W w0 Ad => ?_)
              have Ed := own_ext_wr Ed w0 gd
              refine o_dup 384 W at_383 rfl ?_
              refine o_iconst 385 W (1) at_384 (by first | rfl | decide) ?_
              refine o_bipush 387 W (97) at_385 (by first | rfl | decide) ?_
              refine o_castore 388 1 W Ad (by decide) rfl (by first | decide | simp) zd at_387 (fun T h W w1 Ad => ?_)
              have Ed := own_ext_wr Ed w1 gd
              refine o_dup 389 W at_388 rfl ?_
              refine o_iconst 390 W (2) at_389 (by first | rfl | decide) ?_
              refine o_bipush 392 W (114) at_390 (by first | rfl | decide) ?_
              refine o_castore 393 2 W Ad (by decide) rfl (by first | decide | simp) zd at_392 (fun T h W w2 Ad => ?_)
              have Ed := own_ext_wr Ed w2 gd
              refine o_dup 394 W at_393 rfl ?_
              refine o_iconst 395 W (3) at_394 (by first | rfl | decide) ?_
              refine o_bipush 397 W (105) at_395 (by first | rfl | decide) ?_
              refine o_castore 398 3 W Ad (by decide) rfl (by first | decide | simp) zd at_397 (fun T h W w3 Ad => ?_)
              have Ed := own_ext_wr Ed w3 gd
              refine o_dup 399 W at_398 rfl ?_
              refine o_iconst 400 W (4) at_399 (by first | rfl | decide) ?_
              refine o_bipush 402 W (97) at_400 (by first | rfl | decide) ?_
              refine o_castore 403 4 W Ad (by decide) rfl (by first | decide | simp) zd at_402 (fun T h W w4 Ad => ?_)
              have Ed := own_ext_wr Ed w4 gd
              refine o_dup 404 W at_403 rfl ?_
              refine o_iconst 405 W (5) at_404 (by first | rfl | decide) ?_
              refine o_bipush 407 W (100) at_405 (by first | rfl | decide) ?_
              refine o_castore 408 5 W Ad (by decide) rfl (by first | decide | simp) zd at_407 (fun T h W w5 Ad => ?_)
              have Ed := own_ext_wr Ed w5 gd
              simp only [own_nar (c := 109) (by decide), own_nar (c := 97) (by decide), own_nar (c := 114) (by decide), own_nar (c := 105) (by decide), own_nar (c := 97) (by decide), own_nar (c := 100) (by decide)] at Ad
              have Ad : Arv Z h d kd .char 6 ([(109 : Int32), (97 : Int32), (114 : Int32), (105 : Int32), (97 : Int32), (100 : Int32)].map Value.int) (.int 0) := Ad
              refine o_astore 410 W #[.val (.int x0), .val (.int x1), .val (.int x2), .val (.int x3), .val (.int ch), .val (.int (own_bi sub)), .val (.int md), .unset, .val (.ref d), .unset] at_408 rfl rfl ?_
              refine o_iload 412 W at_410 rfl ?_
              refine o_ifeq 427 415 W at_412 (fun c412 => ?_) (fun c412 => ?_)
              · refine o_new 430 W (tw hw 42) (tw hw 43) (tw hw 27) at_427 (fun T h o W Eo Ao Do go zo => ?_)
                have Po := Do (Or.inr (tw hw 69)) (ty := .array .byte) (by decide)
                have Co := Do (Or.inr (tw hw 67)) (ty := .byte) (by decide)
                have Ad := Ad.ext Eo
                refine o_dup 431 W at_430 rfl ?_
                refine o_aload 433 W at_431 rfl rfl ?_
                refine o_special 436 [(.ref d)] W (tw hw 44) (tw hw 45) (tw hw 27) (tw hw 46) (con_sin l Z b0 hw o d kd 6 [(109 : Int32), (97 : Int32), (114 : Int32), (105 : Int32), (97 : Int32), (100 : Int32)] rfl (by first | decide | simp) (own_chS (by decide) (own_chS (by decide) (own_chS (by decide) (own_chS (by decide) (own_chS (by decide) (own_chS (by decide) own_ch0)))))) _ W.old Ad Ao Po Co zo cz hcz SC (by simp)) pd13 at_433 rfl (by simp) (fun T h v W qq gg => ?_)
                obtain ⟨rfl, Ko, Xo⟩ := qq
                show Go p e below _ _ (mkF m 436 #[.val (.int x0), .val (.int x1), .val (.int x2), .val (.int x3), .val (.int ch), .val (.int (own_bi sub)), .val (.int md), .unset, .val (.ref d), .unset] [(.ref o)])
                refine o_astore 438 W #[.val (.int x0), .val (.int x1), .val (.int x2), .val (.int x3), .val (.int ch), .val (.int (own_bi sub)), .val (.int md), .val (.ref o), .val (.ref d), .unset] at_436 rfl rfl ?_
                refine o_goto 500 W at_438 ?_
                exact J T _ o [(109 : Int32), (97 : Int32), (114 : Int32), (105 : Int32), (97 : Int32), (100 : Int32)] _ ((W.mono (by decide) (by decide)).drop (fun x hx => nomatch hx)) Xo (own_chS (by decide) (own_chS (by decide) (own_chS (by decide) (own_chS (by decide) (own_chS (by decide) (own_chS (by decide) own_ch0)))))) (by first | decide | simp) (Or.inr ⟨_, rfl, rfl⟩)
              · refine o_aload 417 W at_415 rfl rfl ?_
                refine o_iloadN 418 W at_417 rfl ?_
                refine o_ldcI 420 W (tw hw 104) at_418 ?_
                refine o_iand 421 W at_420 ?_
                refine o_bipush 423 W (6) at_421 (by first | rfl | decide) ?_
                refine o_irem 424 W at_423 (by decide) ?_
                refine o_iload 426 W at_424 rfl ?_
                have hm := own_mod x1 6 (by decide)
                have hN : (6 : Int32).toInt = ((6 : Nat) : Int) := rfl
                generalize ((x1 &&& (2147483647 : Int32)) % (6 : Int32)) = ix at hm ⊢
                show Go p e below _ _ (mkF m 426 #[.val (.int x0), .val (.int x1), .val (.int x2), .val (.int x3), .val (.int ch), .val (.int (own_bi sub)), .val (.int md), .unset, .val (.ref d), .unset] [(.int ch), (.int ix), (.ref d)])
                obtain ⟨ii, hii⟩ : ∃ ii : Nat, ix.toInt = ii := ⟨ix.toInt.toNat, by omega⟩
                have hib : ii < 6 := by omega
                refine o_castore 427 ii W Ad ⟨own_nn hii, own_ltI hii hN hib⟩ (own_cl hii) (by simpa using hib) zd at_426 (fun T h W wz Ad => ?_)
                rw [own_nar rc, own_set] at Ad
                refine o_new 430 W (tw hw 42) (tw hw 43) (tw hw 27) at_427 (fun T h o W Eo Ao Do go zo => ?_)
                have Po := Do (Or.inr (tw hw 69)) (ty := .array .byte) (by decide)
                have Co := Do (Or.inr (tw hw 67)) (ty := .byte) (by decide)
                have Ad := Ad.ext Eo
                refine o_dup 431 W at_430 rfl ?_
                refine o_aload 433 W at_431 rfl rfl ?_
                refine o_special 436 [(.ref d)] W (tw hw 44) (tw hw 45) (tw hw 27) (tw hw 46) (con_sin l Z b0 hw o d kd 6 ([(109 : Int32), (97 : Int32), (114 : Int32), (105 : Int32), (97 : Int32), (100 : Int32)].set ii ch) (by simp) (by simp) (own_chset (own_chS (by decide) (own_chS (by decide) (own_chS (by decide) (own_chS (by decide) (own_chS (by decide) (own_chS (by decide) own_ch0)))))) ii rc) _ W.old Ad Ao Po Co zo cz hcz SC (by intro e; have := congrArg List.length e; simp at this)) pd13 at_433 rfl (by simp) (fun T h v W qq gg => ?_)
                obtain ⟨rfl, Ko, Xo⟩ := qq
                show Go p e below _ _ (mkF m 436 #[.val (.int x0), .val (.int x1), .val (.int x2), .val (.int x3), .val (.int ch), .val (.int (own_bi sub)), .val (.int md), .unset, .val (.ref d), .unset] [(.ref o)])
                refine o_astore 438 W #[.val (.int x0), .val (.int x1), .val (.int x2), .val (.int x3), .val (.int ch), .val (.int (own_bi sub)), .val (.int md), .val (.ref o), .val (.ref d), .unset] at_436 rfl rfl ?_
                refine o_goto 500 W at_438 ?_
                exact J T _ o ([(109 : Int32), (97 : Int32), (114 : Int32), (105 : Int32), (97 : Int32), (100 : Int32)].set ii ch) _ ((W.mono (by decide) (by decide)).drop (fun x hx => nomatch hx)) Xo (own_chset (own_chS (by decide) (own_chS (by decide) (own_chS (by decide) (own_chS (by decide) (own_chS (by decide) (own_chS (by decide) own_ch0)))))) ii rc) (by simp) (Or.inr ⟨_, rfl, rfl⟩)
          · refine o_bipush 308 W (8) at_306 (by first | rfl | decide) ?_
            refine o_newarray 310 8 W (tw hw 41) at_308 (by decide) (by decide) (fun T h d kd W Ed Ad gd zd => ?_)
            have Ad := own_pad 8 Ad
            refine o_dup 311 W at_310 rfl ?_
            refine o_iconst 312 W (0) at_311 (by first | rfl | decide) ?_
            refine o_bipush 314 W (109) at_312 (by first | rfl | decide) ?_
            refine o_castore 315 0 W Ad (by decide) rfl (by first | decide | simp) zd at_314 (fun T h W w0 Ad => ?_)
            have Ed := own_ext_wr Ed w0 gd
            refine o_dup 316 W at_315 rfl ?_
            refine o_iconst 317 W (1) at_316 (by first | rfl | decide) ?_
            refine o_bipush 319 W (97) at_317 (by first | rfl | decide) ?_
            refine o_castore 320 1 W Ad (by decide) rfl (by first | decide | simp) zd at_319 (fun T h W w1 Ad => ?_)
            have Ed := own_ext_wr Ed w1 gd
            refine o_dup 321 W at_320 rfl ?_
            refine o_iconst 322 W (2) at_321 (by first | rfl | decide) ?_
            refine o_bipush 324 W (114) at_322 (by first | rfl | decide) ?_
            refine o_castore 325 2 W Ad (by decide) rfl (by first | decide | simp) zd at_324 (fun T h W w2 Ad => ?_)
            have Ed := own_ext_wr Ed w2 gd
            refine o_dup 326 W at_325 rfl ?_
            refine o_iconst 327 W (3) at_326 (by first | rfl | decide) ?_
            refine o_bipush 329 W (105) at_327 (by first | rfl | decide) ?_
            refine o_castore 330 3 W Ad (by decide) rfl (by first | decide | simp) zd at_329 (fun T h W w3 Ad => ?_)
            have Ed := own_ext_wr Ed w3 gd
            refine o_dup 331 W at_330 rfl ?_
            refine o_iconst 332 W (4) at_331 (by first | rfl | decide) ?_
            refine o_bipush 334 W (97) at_332 (by first | rfl | decide) ?_
            refine o_castore 335 4 W Ad (by decide) rfl (by first | decide | simp) zd at_334 (fun T h W w4 Ad => ?_)
            have Ed := own_ext_wr Ed w4 gd
            refine o_dup 336 W at_335 rfl ?_
            refine o_iconst 337 W (5) at_336 (by first | rfl | decide) ?_
            refine o_bipush 339 W (100) at_337 (by first | rfl | decide) ?_
            refine o_castore 340 5 W Ad (by decide) rfl (by first | decide | simp) zd at_339 (fun T h W w5 Ad => ?_)
            have Ed := own_ext_wr Ed w5 gd
            refine o_dup 341 W at_340 rfl ?_
            refine o_bipush 343 W (6) at_341 (by first | rfl | decide) ?_
            refine o_bipush 345 W (98) at_343 (by first | rfl | decide) ?_
            refine o_castore 346 6 W Ad (by decide) rfl (by first | decide | simp) zd at_345 (fun T h W w6 Ad => ?_)
            have Ed := own_ext_wr Ed w6 gd
            refine o_dup 347 W at_346 rfl ?_
            refine o_bipush 349 W (7) at_347 (by first | rfl | decide) ?_
            refine o_iload 351 W at_349 rfl ?_
            refine o_castore 352 7 W Ad (by decide) rfl (by first | decide | simp) zd at_351 (fun T h W w7 Ad => ?_)
            have Ed := own_ext_wr Ed w7 gd
            simp only [own_nar (c := 109) (by decide), own_nar (c := 97) (by decide), own_nar (c := 114) (by decide), own_nar (c := 105) (by decide), own_nar (c := 97) (by decide), own_nar (c := 100) (by decide), own_nar (c := 98) (by decide), own_nar rc] at Ad
            have Ad : Arv Z h d kd .char 8 ([(109 : Int32), (97 : Int32), (114 : Int32), (105 : Int32), (97 : Int32), (100 : Int32), (98 : Int32), ch].map Value.int) (.int 0) := Ad
            refine o_astore 354 W #[.val (.int x0), .val (.int x1), .val (.int x2), .val (.int x3), .val (.int ch), .val (.int (own_bi sub)), .val (.int md), .unset, .val (.ref d), .unset] at_352 rfl rfl ?_
            refine o_new 357 W (tw hw 42) (tw hw 43) (tw hw 27) at_354 (fun T h o W Eo Ao Do go zo => ?_)
            have Po := Do (Or.inr (tw hw 69)) (ty := .array .byte) (by decide)
            have Co := Do (Or.inr (tw hw 67)) (ty := .byte) (by decide)
            have Ad := Ad.ext Eo
            refine o_dup 358 W at_357 rfl ?_
            refine o_aload 360 W at_358 rfl rfl ?_
            refine o_special 363 [(.ref d)] W (tw hw 44) (tw hw 45) (tw hw 27) (tw hw 46) (con_sin l Z b0 hw o d kd 8 [(109 : Int32), (97 : Int32), (114 : Int32), (105 : Int32), (97 : Int32), (100 : Int32), (98 : Int32), ch] rfl (by first | decide | simp) (own_chS (c := 109) (by decide) (own_chS (c := 97) (by decide) (own_chS (c := 114) (by decide) (own_chS (c := 105) (by decide) (own_chS (c := 97) (by decide) (own_chS (c := 100) (by decide) (own_chS (c := 98) (by decide) (own_chS rc own_ch0)))))))) _ W.old Ad Ao Po Co zo cz hcz SC (by simp)) pd13 at_360 rfl (by simp) (fun T h v W qq gg => ?_)
            obtain ⟨rfl, Ko, Xo⟩ := qq
            show Go p e below _ _ (mkF m 363 #[.val (.int x0), .val (.int x1), .val (.int x2), .val (.int x3), .val (.int ch), .val (.int (own_bi sub)), .val (.int md), .unset, .val (.ref d), .unset] [(.ref o)])
            refine o_astore 365 W #[.val (.int x0), .val (.int x1), .val (.int x2), .val (.int x3), .val (.int ch), .val (.int (own_bi sub)), .val (.int md), .val (.ref o), .val (.ref d), .unset] at_363 rfl rfl ?_
            refine o_goto 500 W at_365 ?_
            exact J T _ o [(109 : Int32), (97 : Int32), (114 : Int32), (105 : Int32), (97 : Int32), (100 : Int32), (98 : Int32), ch] _ ((W.mono (by decide) (by decide)).drop (fun x hx => nomatch hx)) Xo (own_chS (c := 109) (by decide) (own_chS (c := 97) (by decide) (own_chS (c := 114) (by decide) (own_chS (c := 105) (by decide) (own_chS (c := 97) (by decide) (own_chS (c := 100) (by decide) (own_chS (c := 98) (by decide) (own_chS rc own_ch0)))))))) (by first | decide | simp) (Or.inr ⟨_, rfl, rfl⟩)
        · refine o_bipush 222 W (11) at_220 (by first | rfl | decide) ?_
          refine o_newarray 224 11 W (tw hw 41) at_222 (by decide) (by decide) (fun T h d kd W Ed Ad gd zd => ?_)
          have Ad := own_pad 11 Ad
          refine o_dup 225 W at_224 rfl ?_
          refine o_iconst 226 W (0) at_225 (by first | rfl | decide) ?_
          refine o_bipush 228 W (112) at_226 (by first | rfl | decide) ?_
          refine o_castore 229 0 W Ad (by decide) rfl (by first | decide | simp) zd at_228 (fun T h W w0 Ad => ?_)
          have Ed := own_ext_wr Ed w0 gd
          refine o_dup 230 W at_229 rfl ?_
          refine o_iconst 231 W (1) at_230 (by first | rfl | decide) ?_
          refine o_bipush 233 W (111) at_231 (by first | rfl | decide) ?_
          refine o_castore 234 1 W Ad (by decide) rfl (by first | decide | simp) zd at_233 (fun T h W w1 Ad => ?_)
          have Ed := own_ext_wr Ed w1 gd
          refine o_dup 235 W at_234 rfl ?_
          refine o_iconst 236 W (2) at_235 (by first | rfl | decide) ?_
          refine o_bipush 238 W (115) at_236 (by first | rfl | decide) ?_
          refine o_castore 239 2 W Ad (by decide) rfl (by first | decide | simp) zd at_238 (fun T h W w2 Ad => ?_)
          have Ed := own_ext_wr Ed w2 gd
          refine o_dup 240 W at_239 rfl ?_
          refine o_iconst 241 W (3) at_240 (by first | rfl | decide) ?_
          refine o_bipush 243 W (116) at_241 (by first | rfl | decide) ?_
          refine o_castore 244 3 W Ad (by decide) rfl (by first | decide | simp) zd at_243 (fun T h W w3 Ad => ?_)
          have Ed := own_ext_wr Ed w3 gd
          refine o_dup 245 W at_244 rfl ?_
          refine o_iconst 246 W (4) at_245 (by first | rfl | decide) ?_
          refine o_bipush 248 W (103) at_246 (by first | rfl | decide) ?_
          refine o_castore 249 4 W Ad (by decide) rfl (by first | decide | simp) zd at_248 (fun T h W w4 Ad => ?_)
          have Ed := own_ext_wr Ed w4 gd
          refine o_dup 250 W at_249 rfl ?_
          refine o_iconst 251 W (5) at_250 (by first | rfl | decide) ?_
          refine o_bipush 253 W (114) at_251 (by first | rfl | decide) ?_
          refine o_castore 254 5 W Ad (by decide) rfl (by first | decide | simp) zd at_253 (fun T h W w5 Ad => ?_)
          have Ed := own_ext_wr Ed w5 gd
          refine o_dup 255 W at_254 rfl ?_
          refine o_bipush 257 W (6) at_255 (by first | rfl | decide) ?_
          refine o_bipush 259 W (101) at_257 (by first | rfl | decide) ?_
          refine o_castore 260 6 W Ad (by decide) rfl (by first | decide | simp) zd at_259 (fun T h W w6 Ad => ?_)
          have Ed := own_ext_wr Ed w6 gd
          refine o_dup 261 W at_260 rfl ?_
          refine o_bipush 263 W (7) at_261 (by first | rfl | decide) ?_
          refine o_bipush 265 W (115) at_263 (by first | rfl | decide) ?_
          refine o_castore 266 7 W Ad (by decide) rfl (by first | decide | simp) zd at_265 (fun T h W w7 Ad => ?_)
          have Ed := own_ext_wr Ed w7 gd
          refine o_dup 267 W at_266 rfl ?_
          refine o_bipush 269 W (8) at_267 (by first | rfl | decide) ?_
          refine o_bipush 271 W (113) at_269 (by first | rfl | decide) ?_
          refine o_castore 272 8 W Ad (by decide) rfl (by first | decide | simp) zd at_271 (fun T h W w8 Ad => ?_)
          have Ed := own_ext_wr Ed w8 gd
          refine o_dup 273 W at_272 rfl ?_
          refine o_bipush 275 W (9) at_273 (by first | rfl | decide) ?_
          refine o_bipush 277 W (108) at_275 (by first | rfl | decide) ?_
          refine o_castore 278 9 W Ad (by decide) rfl (by first | decide | simp) zd at_277 (fun T h W w9 Ad => ?_)
          have Ed := own_ext_wr Ed w9 gd
          refine o_dup 279 W at_278 rfl ?_
          refine o_bipush 281 W (10) at_279 (by first | rfl | decide) ?_
          refine o_iload 283 W at_281 rfl ?_
          refine o_castore 284 10 W Ad (by decide) rfl (by first | decide | simp) zd at_283 (fun T h W w10 Ad => ?_)
          have Ed := own_ext_wr Ed w10 gd
          simp only [own_nar (c := 112) (by decide), own_nar (c := 111) (by decide), own_nar (c := 115) (by decide), own_nar (c := 116) (by decide), own_nar (c := 103) (by decide), own_nar (c := 114) (by decide), own_nar (c := 101) (by decide), own_nar (c := 115) (by decide), own_nar (c := 113) (by decide), own_nar (c := 108) (by decide), own_nar rc] at Ad
          have Ad : Arv Z h d kd .char 11 ([(112 : Int32), (111 : Int32), (115 : Int32), (116 : Int32), (103 : Int32), (114 : Int32), (101 : Int32), (115 : Int32), (113 : Int32), (108 : Int32), ch].map Value.int) (.int 0) := Ad
          refine o_astore 286 W #[.val (.int x0), .val (.int x1), .val (.int x2), .val (.int x3), .val (.int ch), .val (.int (own_bi sub)), .val (.int md), .unset, .val (.ref d), .unset] at_284 rfl rfl ?_
          refine o_new 289 W (tw hw 42) (tw hw 43) (tw hw 27) at_286 (fun T h o W Eo Ao Do go zo => ?_)
          have Po := Do (Or.inr (tw hw 69)) (ty := .array .byte) (by decide)
          have Co := Do (Or.inr (tw hw 67)) (ty := .byte) (by decide)
          have Ad := Ad.ext Eo
          refine o_dup 290 W at_289 rfl ?_
          refine o_aload 292 W at_290 rfl rfl ?_
          refine o_special 295 [(.ref d)] W (tw hw 44) (tw hw 45) (tw hw 27) (tw hw 46) (con_sin l Z b0 hw o d kd 11 [(112 : Int32), (111 : Int32), (115 : Int32), (116 : Int32), (103 : Int32), (114 : Int32), (101 : Int32), (115 : Int32), (113 : Int32), (108 : Int32), ch] rfl (by first | decide | simp) (own_chS (c := 112) (by decide) (own_chS (c := 111) (by decide) (own_chS (c := 115) (by decide) (own_chS (c := 116) (by decide) (own_chS (c := 103) (by decide) (own_chS (c := 114) (by decide) (own_chS (c := 101) (by decide) (own_chS (c := 115) (by decide) (own_chS (c := 113) (by decide) (own_chS (c := 108) (by decide) (own_chS rc own_ch0))))))))))) _ W.old Ad Ao Po Co zo cz hcz SC (by simp)) pd13 at_292 rfl (by simp) (fun T h v W qq gg => ?_)
          obtain ⟨rfl, Ko, Xo⟩ := qq
          show Go p e below _ _ (mkF m 295 #[.val (.int x0), .val (.int x1), .val (.int x2), .val (.int x3), .val (.int ch), .val (.int (own_bi sub)), .val (.int md), .unset, .val (.ref d), .unset] [(.ref o)])
          refine o_astore 297 W #[.val (.int x0), .val (.int x1), .val (.int x2), .val (.int x3), .val (.int ch), .val (.int (own_bi sub)), .val (.int md), .val (.ref o), .val (.ref d), .unset] at_295 rfl rfl ?_
          refine o_goto 500 W at_297 ?_
          exact J T _ o [(112 : Int32), (111 : Int32), (115 : Int32), (116 : Int32), (103 : Int32), (114 : Int32), (101 : Int32), (115 : Int32), (113 : Int32), (108 : Int32), ch] _ ((W.mono (by decide) (by decide)).drop (fun x hx => nomatch hx)) Xo (own_chS (c := 112) (by decide) (own_chS (c := 111) (by decide) (own_chS (c := 115) (by decide) (own_chS (c := 116) (by decide) (own_chS (c := 103) (by decide) (own_chS (c := 114) (by decide) (own_chS (c := 101) (by decide) (own_chS (c := 115) (by decide) (own_chS (c := 113) (by decide) (own_chS (c := 108) (by decide) (own_chS rc own_ch0))))))))))) (by first | decide | simp) (Or.inr ⟨_, rfl, rfl⟩)
      · refine o_bipush 143 W (7) at_141 (by first | rfl | decide) ?_
        refine o_newarray 145 7 W (tw hw 41) at_143 (by decide) (by decide) (fun T h d kd W Ed Ad gd zd => ?_)
        have Ad := own_pad 7 Ad
        refine o_dup 146 W at_145 rfl ?_
        refine o_iconst 147 W (0) at_146 (by first | rfl | decide) ?_
        refine o_bipush 149 W (109) at_147 (by first | rfl | decide) ?_
        refine o_castore 150 0 W Ad (by decide) rfl (by first | decide | simp) zd at_149 (fun T h W w0 Ad => ?_)
        have Ed := own_ext_wr Ed w0 gd
        refine o_dup 151 W at_150 rfl ?_
        refine o_iconst 152 W (1) at_151 (by first | rfl | decide) ?_
        refine o_bipush 154 W (97) at_152 (by first | rfl | decide) ?_
        refine o_castore 155 1 W Ad (by decide) rfl (by first | decide | simp) zd at_154 (fun T h W w1 Ad => ?_)
        have Ed := own_ext_wr Ed w1 gd
        refine o_dup 156 W at_155 rfl ?_
        refine o_iconst 157 W (2) at_156 (by first | rfl | decide) ?_
        refine o_bipush 159 W (114) at_157 (by first | rfl | decide) ?_
        refine o_castore 160 2 W Ad (by decide) rfl (by first | decide | simp) zd at_159 (fun T h W w2 Ad => ?_)
        have Ed := own_ext_wr Ed w2 gd
        refine o_dup 161 W at_160 rfl ?_
        refine o_iconst 162 W (3) at_161 (by first | rfl | decide) ?_
        refine o_bipush 164 W (105) at_162 (by first | rfl | decide) ?_
        refine o_castore 165 3 W Ad (by decide) rfl (by first | decide | simp) zd at_164 (fun T h W w3 Ad => ?_)
        have Ed := own_ext_wr Ed w3 gd
        refine o_dup 166 W at_165 rfl ?_
        refine o_iconst 167 W (4) at_166 (by first | rfl | decide) ?_
        refine o_bipush 169 W (97) at_167 (by first | rfl | decide) ?_
        refine o_castore 170 4 W Ad (by decide) rfl (by first | decide | simp) zd at_169 (fun T h W w4 Ad => ?_)
        have Ed := own_ext_wr Ed w4 gd
        refine o_dup 171 W at_170 rfl ?_
        refine o_iconst 172 W (5) at_171 (by first | rfl | decide) ?_
        refine o_bipush 174 W (100) at_172 (by first | rfl | decide) ?_
        refine o_castore 175 5 W Ad (by decide) rfl (by first | decide | simp) zd at_174 (fun T h W w5 Ad => ?_)
        have Ed := own_ext_wr Ed w5 gd
        refine o_dup 176 W at_175 rfl ?_
        refine o_bipush 178 W (6) at_176 (by first | rfl | decide) ?_
        refine o_bipush 180 W (98) at_178 (by first | rfl | decide) ?_
        refine o_castore 181 6 W Ad (by decide) rfl (by first | decide | simp) zd at_180 (fun T h W w6 Ad => ?_)
        have Ed := own_ext_wr Ed w6 gd
        simp only [own_nar (c := 109) (by decide), own_nar (c := 97) (by decide), own_nar (c := 114) (by decide), own_nar (c := 105) (by decide), own_nar (c := 97) (by decide), own_nar (c := 100) (by decide), own_nar (c := 98) (by decide)] at Ad
        have Ad : Arv Z h d kd .char 7 ([(109 : Int32), (97 : Int32), (114 : Int32), (105 : Int32), (97 : Int32), (100 : Int32), (98 : Int32)].map Value.int) (.int 0) := Ad
        refine o_astore 183 W #[.val (.int x0), .val (.int x1), .val (.int x2), .val (.int x3), .val (.int ch), .val (.int (own_bi sub)), .val (.int md), .unset, .val (.ref d), .unset] at_181 rfl rfl ?_
        refine o_iload 185 W at_183 rfl ?_
        refine o_ifeq 200 188 W at_185 (fun c185 => ?_) (fun c185 => ?_)
        · refine o_new 203 W (tw hw 42) (tw hw 43) (tw hw 27) at_200 (fun T h o W Eo Ao Do go zo => ?_)
          have Po := Do (Or.inr (tw hw 69)) (ty := .array .byte) (by decide)
          have Co := Do (Or.inr (tw hw 67)) (ty := .byte) (by decide)
          have Ad := Ad.ext Eo
          refine o_dup 204 W at_203 rfl ?_
          refine o_aload 206 W at_204 rfl rfl ?_
          refine o_special 209 [(.ref d)] W (tw hw 44) (tw hw 45) (tw hw 27) (tw hw 46) (con_sin l Z b0 hw o d kd 7 [(109 : Int32), (97 : Int32), (114 : Int32), (105 : Int32), (97 : Int32), (100 : Int32), (98 : Int32)] rfl (by first | decide | simp) (own_chS (by decide) (own_chS (by decide) (own_chS (by decide) (own_chS (by decide) (own_chS (by decide) (own_chS (by decide) (own_chS (by decide) own_ch0))))))) _ W.old Ad Ao Po Co zo cz hcz SC (by simp)) pd13 at_206 rfl (by simp) (fun T h v W qq gg => ?_)
          obtain ⟨rfl, Ko, Xo⟩ := qq
          show Go p e below _ _ (mkF m 209 #[.val (.int x0), .val (.int x1), .val (.int x2), .val (.int x3), .val (.int ch), .val (.int (own_bi sub)), .val (.int md), .unset, .val (.ref d), .unset] [(.ref o)])
          refine o_astore 211 W #[.val (.int x0), .val (.int x1), .val (.int x2), .val (.int x3), .val (.int ch), .val (.int (own_bi sub)), .val (.int md), .val (.ref o), .val (.ref d), .unset] at_209 rfl rfl ?_
          refine o_goto 500 W at_211 ?_
          exact J T _ o [(109 : Int32), (97 : Int32), (114 : Int32), (105 : Int32), (97 : Int32), (100 : Int32), (98 : Int32)] _ ((W.mono (by decide) (by decide)).drop (fun x hx => nomatch hx)) Xo (own_chS (by decide) (own_chS (by decide) (own_chS (by decide) (own_chS (by decide) (own_chS (by decide) (own_chS (by decide) (own_chS (by decide) own_ch0))))))) (by first | decide | simp) (Or.inr ⟨_, rfl, rfl⟩)
        · refine o_aload 190 W at_188 rfl rfl ?_
          refine o_iloadN 191 W at_190 rfl ?_
          refine o_ldcI 193 W (tw hw 104) at_191 ?_
          refine o_iand 194 W at_193 ?_
          refine o_bipush 196 W (7) at_194 (by first | rfl | decide) ?_
          refine o_irem 197 W at_196 (by decide) ?_
          refine o_iload 199 W at_197 rfl ?_
          have hm := own_mod x1 7 (by decide)
          have hN : (7 : Int32).toInt = ((7 : Nat) : Int) := rfl
          generalize ((x1 &&& (2147483647 : Int32)) % (7 : Int32)) = ix at hm ⊢
          show Go p e below _ _ (mkF m 199 #[.val (.int x0), .val (.int x1), .val (.int x2), .val (.int x3), .val (.int ch), .val (.int (own_bi sub)), .val (.int md), .unset, .val (.ref d), .unset] [(.int ch), (.int ix), (.ref d)])
          obtain ⟨ii, hii⟩ : ∃ ii : Nat, ix.toInt = ii := ⟨ix.toInt.toNat, by omega⟩
          have hib : ii < 7 := by omega
          refine o_castore 200 ii W Ad ⟨own_nn hii, own_ltI hii hN hib⟩ (own_cl hii) (by simpa using hib) zd at_199 (fun T h W wz Ad => ?_)
          rw [own_nar rc, own_set] at Ad
          refine o_new 203 W (tw hw 42) (tw hw 43) (tw hw 27) at_200 (fun T h o W Eo Ao Do go zo => ?_)
          have Po := Do (Or.inr (tw hw 69)) (ty := .array .byte) (by decide)
          have Co := Do (Or.inr (tw hw 67)) (ty := .byte) (by decide)
          have Ad := Ad.ext Eo
          refine o_dup 204 W at_203 rfl ?_
          refine o_aload 206 W at_204 rfl rfl ?_
          refine o_special 209 [(.ref d)] W (tw hw 44) (tw hw 45) (tw hw 27) (tw hw 46) (con_sin l Z b0 hw o d kd 7 ([(109 : Int32), (97 : Int32), (114 : Int32), (105 : Int32), (97 : Int32), (100 : Int32), (98 : Int32)].set ii ch) (by simp) (by simp) (own_chset (own_chS (by decide) (own_chS (by decide) (own_chS (by decide) (own_chS (by decide) (own_chS (by decide) (own_chS (by decide) (own_chS (by decide) own_ch0))))))) ii rc) _ W.old Ad Ao Po Co zo cz hcz SC (by intro e; have := congrArg List.length e; simp at this)) pd13 at_206 rfl (by simp) (fun T h v W qq gg => ?_)
          obtain ⟨rfl, Ko, Xo⟩ := qq
          show Go p e below _ _ (mkF m 209 #[.val (.int x0), .val (.int x1), .val (.int x2), .val (.int x3), .val (.int ch), .val (.int (own_bi sub)), .val (.int md), .unset, .val (.ref d), .unset] [(.ref o)])
          refine o_astore 211 W #[.val (.int x0), .val (.int x1), .val (.int x2), .val (.int x3), .val (.int ch), .val (.int (own_bi sub)), .val (.int md), .val (.ref o), .val (.ref d), .unset] at_209 rfl rfl ?_
          refine o_goto 500 W at_211 ?_
          exact J T _ o ([(109 : Int32), (97 : Int32), (114 : Int32), (105 : Int32), (97 : Int32), (100 : Int32), (98 : Int32)].set ii ch) _ ((W.mono (by decide) (by decide)).drop (fun x hx => nomatch hx)) Xo (own_chset (own_chS (by decide) (own_chS (by decide) (own_chS (by decide) (own_chS (by decide) (own_chS (by decide) (own_chS (by decide) (own_chS (by decide) own_ch0))))))) ii rc) (by simp) (Or.inr ⟨_, rfl, rfl⟩)
    · refine o_bipush 46 W (10) at_44 (by first | rfl | decide) ?_
      refine o_newarray 48 10 W (tw hw 41) at_46 (by decide) (by decide) (fun T h d kd W Ed Ad gd zd => ?_)
      have Ad := own_pad 10 Ad
      refine o_dup 49 W at_48 rfl ?_
      refine o_iconst 50 W (0) at_49 (by first | rfl | decide) ?_
      refine o_bipush 52 W (112) at_50 (by first | rfl | decide) ?_
      refine o_castore 53 0 W Ad (by decide) rfl (by first | decide | simp) zd at_52 (fun T h W w0 Ad => ?_)
      have Ed := own_ext_wr Ed w0 gd
      refine o_dup 54 W at_53 rfl ?_
      refine o_iconst 55 W (1) at_54 (by first | rfl | decide) ?_
      refine o_bipush 57 W (111) at_55 (by first | rfl | decide) ?_
      refine o_castore 58 1 W Ad (by decide) rfl (by first | decide | simp) zd at_57 (fun T h W w1 Ad => ?_)
      have Ed := own_ext_wr Ed w1 gd
      refine o_dup 59 W at_58 rfl ?_
      refine o_iconst 60 W (2) at_59 (by first | rfl | decide) ?_
      refine o_bipush 62 W (115) at_60 (by first | rfl | decide) ?_
      refine o_castore 63 2 W Ad (by decide) rfl (by first | decide | simp) zd at_62 (fun T h W w2 Ad => ?_)
      have Ed := own_ext_wr Ed w2 gd
      refine o_dup 64 W at_63 rfl ?_
      refine o_iconst 65 W (3) at_64 (by first | rfl | decide) ?_
      refine o_bipush 67 W (116) at_65 (by first | rfl | decide) ?_
      refine o_castore 68 3 W Ad (by decide) rfl (by first | decide | simp) zd at_67 (fun T h W w3 Ad => ?_)
      have Ed := own_ext_wr Ed w3 gd
      refine o_dup 69 W at_68 rfl ?_
      refine o_iconst 70 W (4) at_69 (by first | rfl | decide) ?_
      refine o_bipush 72 W (103) at_70 (by first | rfl | decide) ?_
      refine o_castore 73 4 W Ad (by decide) rfl (by first | decide | simp) zd at_72 (fun T h W w4 Ad => ?_)
      have Ed := own_ext_wr Ed w4 gd
      refine o_dup 74 W at_73 rfl ?_
      refine o_iconst 75 W (5) at_74 (by first | rfl | decide) ?_
      refine o_bipush 77 W (114) at_75 (by first | rfl | decide) ?_
      refine o_castore 78 5 W Ad (by decide) rfl (by first | decide | simp) zd at_77 (fun T h W w5 Ad => ?_)
      have Ed := own_ext_wr Ed w5 gd
      refine o_dup 79 W at_78 rfl ?_
      refine o_bipush 81 W (6) at_79 (by first | rfl | decide) ?_
      refine o_bipush 83 W (101) at_81 (by first | rfl | decide) ?_
      refine o_castore 84 6 W Ad (by decide) rfl (by first | decide | simp) zd at_83 (fun T h W w6 Ad => ?_)
      have Ed := own_ext_wr Ed w6 gd
      refine o_dup 85 W at_84 rfl ?_
      refine o_bipush 87 W (7) at_85 (by first | rfl | decide) ?_
      refine o_bipush 89 W (115) at_87 (by first | rfl | decide) ?_
      refine o_castore 90 7 W Ad (by decide) rfl (by first | decide | simp) zd at_89 (fun T h W w7 Ad => ?_)
      have Ed := own_ext_wr Ed w7 gd
      refine o_dup 91 W at_90 rfl ?_
      refine o_bipush 93 W (8) at_91 (by first | rfl | decide) ?_
      refine o_bipush 95 W (113) at_93 (by first | rfl | decide) ?_
      refine o_castore 96 8 W Ad (by decide) rfl (by first | decide | simp) zd at_95 (fun T h W w8 Ad => ?_)
      have Ed := own_ext_wr Ed w8 gd
      refine o_dup 97 W at_96 rfl ?_
      refine o_bipush 99 W (9) at_97 (by first | rfl | decide) ?_
      refine o_bipush 101 W (108) at_99 (by first | rfl | decide) ?_
      refine o_castore 102 9 W Ad (by decide) rfl (by first | decide | simp) zd at_101 (fun T h W w9 Ad => ?_)
      have Ed := own_ext_wr Ed w9 gd
      simp only [own_nar (c := 112) (by decide), own_nar (c := 111) (by decide), own_nar (c := 115) (by decide), own_nar (c := 116) (by decide), own_nar (c := 103) (by decide), own_nar (c := 114) (by decide), own_nar (c := 101) (by decide), own_nar (c := 115) (by decide), own_nar (c := 113) (by decide), own_nar (c := 108) (by decide)] at Ad
      have Ad : Arv Z h d kd .char 10 ([(112 : Int32), (111 : Int32), (115 : Int32), (116 : Int32), (103 : Int32), (114 : Int32), (101 : Int32), (115 : Int32), (113 : Int32), (108 : Int32)].map Value.int) (.int 0) := Ad
      refine o_astore 104 W #[.val (.int x0), .val (.int x1), .val (.int x2), .val (.int x3), .val (.int ch), .val (.int (own_bi sub)), .val (.int md), .unset, .val (.ref d), .unset] at_102 rfl rfl ?_
      refine o_iload 106 W at_104 rfl ?_
      refine o_ifeq 121 109 W at_106 (fun c106 => ?_) (fun c106 => ?_)
      · refine o_new 124 W (tw hw 42) (tw hw 43) (tw hw 27) at_121 (fun T h o W Eo Ao Do go zo => ?_)
        have Po := Do (Or.inr (tw hw 69)) (ty := .array .byte) (by decide)
        have Co := Do (Or.inr (tw hw 67)) (ty := .byte) (by decide)
        have Ad := Ad.ext Eo
        refine o_dup 125 W at_124 rfl ?_
        refine o_aload 127 W at_125 rfl rfl ?_
        refine o_special 130 [(.ref d)] W (tw hw 44) (tw hw 45) (tw hw 27) (tw hw 46) (con_sin l Z b0 hw o d kd 10 [(112 : Int32), (111 : Int32), (115 : Int32), (116 : Int32), (103 : Int32), (114 : Int32), (101 : Int32), (115 : Int32), (113 : Int32), (108 : Int32)] rfl (by first | decide | simp) (own_chS (by decide) (own_chS (by decide) (own_chS (by decide) (own_chS (by decide) (own_chS (by decide) (own_chS (by decide) (own_chS (by decide) (own_chS (by decide) (own_chS (by decide) (own_chS (by decide) own_ch0)))))))))) _ W.old Ad Ao Po Co zo cz hcz SC (by simp)) pd13 at_127 rfl (by simp) (fun T h v W qq gg => ?_)
        obtain ⟨rfl, Ko, Xo⟩ := qq
        show Go p e below _ _ (mkF m 130 #[.val (.int x0), .val (.int x1), .val (.int x2), .val (.int x3), .val (.int ch), .val (.int (own_bi sub)), .val (.int md), .unset, .val (.ref d), .unset] [(.ref o)])
        refine o_astore 132 W #[.val (.int x0), .val (.int x1), .val (.int x2), .val (.int x3), .val (.int ch), .val (.int (own_bi sub)), .val (.int md), .val (.ref o), .val (.ref d), .unset] at_130 rfl rfl ?_
        refine o_goto 500 W at_132 ?_
        exact J T _ o [(112 : Int32), (111 : Int32), (115 : Int32), (116 : Int32), (103 : Int32), (114 : Int32), (101 : Int32), (115 : Int32), (113 : Int32), (108 : Int32)] _ ((W.mono (by decide) (by decide)).drop (fun x hx => nomatch hx)) Xo (own_chS (by decide) (own_chS (by decide) (own_chS (by decide) (own_chS (by decide) (own_chS (by decide) (own_chS (by decide) (own_chS (by decide) (own_chS (by decide) (own_chS (by decide) (own_chS (by decide) own_ch0)))))))))) (by first | decide | simp) (Or.inr ⟨_, rfl, rfl⟩)
      · refine o_aload 111 W at_109 rfl rfl ?_
        refine o_iloadN 112 W at_111 rfl ?_
        refine o_ldcI 114 W (tw hw 104) at_112 ?_
        refine o_iand 115 W at_114 ?_
        refine o_bipush 117 W (10) at_115 (by first | rfl | decide) ?_
        refine o_irem 118 W at_117 (by decide) ?_
        refine o_iload 120 W at_118 rfl ?_
        have hm := own_mod x1 10 (by decide)
        have hN : (10 : Int32).toInt = ((10 : Nat) : Int) := rfl
        generalize ((x1 &&& (2147483647 : Int32)) % (10 : Int32)) = ix at hm ⊢
        show Go p e below _ _ (mkF m 120 #[.val (.int x0), .val (.int x1), .val (.int x2), .val (.int x3), .val (.int ch), .val (.int (own_bi sub)), .val (.int md), .unset, .val (.ref d), .unset] [(.int ch), (.int ix), (.ref d)])
        obtain ⟨ii, hii⟩ : ∃ ii : Nat, ix.toInt = ii := ⟨ix.toInt.toNat, by omega⟩
        have hib : ii < 10 := by omega
        refine o_castore 121 ii W Ad ⟨own_nn hii, own_ltI hii hN hib⟩ (own_cl hii) (by simpa using hib) zd at_120 (fun T h W wz Ad => ?_)
        rw [own_nar rc, own_set] at Ad
        refine o_new 124 W (tw hw 42) (tw hw 43) (tw hw 27) at_121 (fun T h o W Eo Ao Do go zo => ?_)
        have Po := Do (Or.inr (tw hw 69)) (ty := .array .byte) (by decide)
        have Co := Do (Or.inr (tw hw 67)) (ty := .byte) (by decide)
        have Ad := Ad.ext Eo
        refine o_dup 125 W at_124 rfl ?_
        refine o_aload 127 W at_125 rfl rfl ?_
        refine o_special 130 [(.ref d)] W (tw hw 44) (tw hw 45) (tw hw 27) (tw hw 46) (con_sin l Z b0 hw o d kd 10 ([(112 : Int32), (111 : Int32), (115 : Int32), (116 : Int32), (103 : Int32), (114 : Int32), (101 : Int32), (115 : Int32), (113 : Int32), (108 : Int32)].set ii ch) (by simp) (by simp) (own_chset (own_chS (by decide) (own_chS (by decide) (own_chS (by decide) (own_chS (by decide) (own_chS (by decide) (own_chS (by decide) (own_chS (by decide) (own_chS (by decide) (own_chS (by decide) (own_chS (by decide) own_ch0)))))))))) ii rc) _ W.old Ad Ao Po Co zo cz hcz SC (by intro e; have := congrArg List.length e; simp at this)) pd13 at_127 rfl (by simp) (fun T h v W qq gg => ?_)
        obtain ⟨rfl, Ko, Xo⟩ := qq
        show Go p e below _ _ (mkF m 130 #[.val (.int x0), .val (.int x1), .val (.int x2), .val (.int x3), .val (.int ch), .val (.int (own_bi sub)), .val (.int md), .unset, .val (.ref d), .unset] [(.ref o)])
        refine o_astore 132 W #[.val (.int x0), .val (.int x1), .val (.int x2), .val (.int x3), .val (.int ch), .val (.int (own_bi sub)), .val (.int md), .val (.ref o), .val (.ref d), .unset] at_130 rfl rfl ?_
        refine o_goto 500 W at_132 ?_
        exact J T _ o ([(112 : Int32), (111 : Int32), (115 : Int32), (116 : Int32), (103 : Int32), (114 : Int32), (101 : Int32), (115 : Int32), (113 : Int32), (108 : Int32)].set ii ch) _ ((W.mono (by decide) (by decide)).drop (fun x hx => nomatch hx)) Xo (own_chset (own_chS (by decide) (own_chS (by decide) (own_chS (by decide) (own_chS (by decide) (own_chS (by decide) (own_chS (by decide) (own_chS (by decide) (own_chS (by decide) (own_chS (by decide) (own_chS (by decide) own_ch0)))))))))) ii rc) (by simp) (Or.inr ⟨_, rfl, rfl⟩)
  · refine o_null 33 W at_32 ?_
    refine o_astore 35 W #[.val (.int x0), .val (.int x1), .val (.int x2), .val (.int x3), .val (.int ch), .val (.int (own_bi sub)), .val (.int md), .val (.null), .unset, .unset] at_33 rfl rfl ?_
    refine o_goto 500 W at_35 ?_
    refine o_null 501 W at_500 ?_
    refine o_astore 503 W #[.val (.int x0), .val (.int x1), .val (.int x2), .val (.int x3), .val (.int ch), .val (.int (own_bi sub)), .val (.int md), .val (.null), .val (.null), .unset] at_501 rfl rfl ?_
    refine o_aload 505 W at_503 rfl rfl ?_
    refine o_nullY 541 W at_505 ?_
    refine o_aload 543 W at_541 rfl rfl ?_
    refine o_static 546 [(.null)] W (tw hw 0) (tw hw 1) (tw hw 2) (tw hw 3) (con_fsvN l Z b0 hw va a0 a1 s0 s1 kv SV AV EV E0 E1 G0 G1 X0 X1 em SE EE GE _ W.old) pd11 at_543 rfl all0 (fun T h v W qq gg => ?_)
    obtain ⟨_, rfl, rfl, Er⟩ := qq
    show Go p e below _ _ (mkF m 546 #[.val (.int x0), .val (.int x1), .val (.int x2), .val (.int x3), .val (.int ch), .val (.int (own_bi sub)), .val (.int md), .val (.null), .val (.null), .unset] [(.ref em)])
    refine o_null 547 W at_546 ?_
    refine o_virtual 550 [(.null)] W (tw hw 34) (tw hw 35) (tw hw 37) (tw hw 36) (tw hw 31) (tw hw 38) ((EE.ext W.old)) (con_oreN l Z b0 hw em _ W.old (GE.ext W.old)) pd5 at_547 rfl all0 (fun T h v W qq gg => ?_)
    obtain ⟨_, rfl, rfl, rfl⟩ := qq
    show Go p e below _ _ (mkF m 550 #[.val (.int x0), .val (.int x1), .val (.int x2), .val (.int x3), .val (.int ch), .val (.int (own_bi sub)), .val (.int md), .val (.null), .val (.null), .unset] [(.null)])
    refine o_castNull 553 W at_550 ?_
    refine o_astore 555 W #[.val (.int x0), .val (.int x1), .val (.int x2), .val (.int x3), .val (.int ch), .val (.int (own_bi sub)), .val (.int md), .val (.null), .val (.null), .val (.null)] at_553 rfl rfl ?_
    refine o_aload 557 W at_555 rfl rfl ?_
    refine o_aload 559 W at_557 rfl rfl ?_
    refine o_aceq 564 562 W rfl rfl at_559 (fun c559 => ?_) (fun c559 => ?_)
    · refine o_aload 566 W at_564 rfl rfl ?_
      refine o_nullY 582 W at_566 ?_
      refine o_iconst 583 W (1) at_582 (by first | rfl | decide) ?_
      refine o_goto 587 W at_583 ?_
      exact o_nret W (1 : Int32) (by simp) (by decide) at_587 (rfl)
    · exact absurd rfl c559
theorem own_foldl (f : Nat → Option Bool) : ∀ (L : List Nat) (acc : Option Bool), L.foldl (fun acc i => match acc with | some true => f i | x => x) acc = some true → acc = some true ∧ ∀ i ∈ L, f i = some true
  | [], acc, h => ⟨h, fun i hi => nomatch hi⟩
  | a :: L, acc, h => by
    obtain ⟨h1, h2⟩ := own_foldl f L _ h
    have q : acc = some true := by
      cases acc with
      | none => simp at h1
      | some b => cases b <;> simp at h1 ⊢
    subst q
    exact ⟨rfl, fun i hi => (List.mem_cons.mp hi).elim (fun e => e ▸ h1) (h2 i)⟩
theorem own_all {Z : State} {args : Array Value} {t : Jvm.Term} {c : Jvm.Cond} {a : Addr} {cell : Cell} (ev : t.eval args Z none [] Z = some (.ref a)) (ha : Z.arrayAt? a = some cell) (hx : (Jvm.Cond.all t c).value args Z none Z [] = some true) : ∀ i, i < cell.slots.size → c.value args Z none Z [i] = some true := fun i hi => by
  simp only [Jvm.Cond.value, ev, ha] at hx
  exact (own_foldl _ _ _ hx).2 i (List.mem_range.mpr hi)
theorem own_nb (n : Nat) (h : n < 2 ^ 31) : n.toInt32.toNatClampNeg = n ∧ ¬ n.toInt32 < 0 := by
  have e : n.toInt32.toInt = n := Int32.toInt_ofNat_of_lt h
  have h0 : ¬ n.toInt32 < 0 := by
    rw [XT.negI32]; omega
  exact ⟨Int32.toNatClampNeg_ofNat_of_lt h, h0⟩
theorem own_len {Z : State} {args : Array Value} {t : Jvm.Term} {a : Addr} {cell : Cell} {k : Int32} (ev : t.eval args Z none [] Z = some (.ref a)) (ha : Z.arrayAt? a = some cell) (hx : (Jvm.Cond.eq (Jvm.Term.length t) (Jvm.Term.int k)).value args Z none Z [] = some true) (hk : ¬ k < 0) : cell.slots.size = k.toNatClampNeg := by
  obtain ⟨x, y, e1, e2, -, -⟩ := cmp_v (Or.inl hx)
  have e3 := e1
  simp only [Jvm.Term.eval, ev, ha, Option.bind_eq_bind, Option.bind_some] at e3
  split at e3
  · rename_i hb
    cases e3
    simp [Jvm.Cond.value, e1, Jvm.Term.int_eval] at hx
    have h2 := (own_nb _ hb).1
    rw [hx] at h2
    exact h2.symm
  · cases e3
theorem own_eix {Z : State} {args : Array Value} {t : Jvm.Term} {a : Addr} {cell : Cell} {i : Nat} (ev : t.eval args Z none [i] Z = some (.ref a)) (ha : Z.arrayAt? a = some cell) (hi : i < 2 ^ 31) : (Jvm.Term.elem t (Jvm.Term.index 0)).eval args Z none [i] Z = cell.slots[i]? := by
  have hn := own_nb i hi
  have eu : (Jvm.Term.index 0).eval args Z none [i] Z = some (.int i.toInt32) := rfl
  rw [Jvm.Term.eval]
  simp only [ev, eu, ha, hn.2, Option.bind_eq_bind, Option.bind_some, if_false, hn.1]
theorem own_elx {Z : State} {args : Array Value} {C n d K : String} {a : Addr} {cell : Cell} {i : Nat} (ev : (Jvm.Term.static C n d).eval args Z none [] Z = some (.ref a)) (ha : Z.arrayAt? a = some cell) (hi : i < 2 ^ 31) (hx : (Jvm.Cond.exactly (Jvm.Term.elem (Jvm.Term.static C n d) (Jvm.Term.index 0)) K).value args Z none Z [i] = some true) : ∃ x, cell.slots[i]? = some (.ref x) ∧ Exa Z Z.heap x K := by
  have ev' : (Jvm.Term.static C n d).eval args Z none [i] Z = some (.ref a) := ev
  have hx' : (Jvm.Cond.exactly (Jvm.Term.elem (Jvm.Term.static C n d) (Jvm.Term.index 0)) K).holds args Z none Z [i] = true := by simp [Jvm.Cond.holds, hx]
  obtain ⟨x, c', cl', k, e1, e2, e3, e4, e5, rfl, e7⟩ := Cond.exactly_spec hx'
  exact ⟨x, (own_eix ev' ha hi).symm.trans e1, cl', k, e3, e2, e4, e5, e7⟩
theorem own_els {Z : State} {args : Array Value} {t u : Jvm.Term} {a x : Addr} {cell : Cell} {j : Int32} (ev : t.eval args Z none [] Z = some (.ref a)) (ha : Z.arrayAt? a = some cell) (hj : ¬ j < 0) (eu : u.eval args Z none [] Z = some (.ref x)) (hx : (Jvm.Cond.eq (Jvm.Term.elem t (Jvm.Term.int j)) u).value args Z none Z [] = some true) : cell.slots[j.toNatClampNeg]? = some (.ref x) := by
  obtain ⟨v, w, e1, e2, k1, k2⟩ := cmp_v (Or.inl hx)
  cases eu.symm.trans e2
  have e3 : (Jvm.Term.elem t (Jvm.Term.int j)).eval args Z none [] Z = cell.slots[j.toNatClampNeg]? := by
    rw [Jvm.Term.eval]
    simp only [ev, Jvm.Term.int_eval, ha, hj, Option.bind_eq_bind, Option.bind_some, if_false]
  rw [← e3, e1]
  cases v with
  | ref r => simp [Jvm.Cond.value, e1, e2] at hx; rw [hx]
  | _ => simp [Jvm.Cond.value, e1, e2] at hx
theorem own_eli {Z : State} {args : Array Value} {t : Jvm.Term} {a : Addr} {cell : Cell} {j v : Int32} (ev : t.eval args Z none [] Z = some (.ref a)) (ha : Z.arrayAt? a = some cell) (hj : ¬ j < 0) (hx : (Jvm.Cond.eq (Jvm.Term.elem t (Jvm.Term.int j)) (Jvm.Term.int v)).value args Z none Z [] = some true) : cell.slots[j.toNatClampNeg]? = some (.int v) := by
  have e3 : (Jvm.Term.elem t (Jvm.Term.int j)).eval args Z none [] Z = cell.slots[j.toNatClampNeg]? := by
    rw [Jvm.Term.eval]
    simp only [ev, Jvm.Term.int_eval, ha, hj, Option.bind_eq_bind, Option.bind_some, if_false]
  obtain ⟨x, y, e1, e2, k1, k2⟩ := cmp_v (Or.inl hx)
  cases (Jvm.Term.int_eval v).symm.trans e2
  obtain ⟨z, rfl⟩ := k2
  simp [Jvm.Cond.value, e1, Jvm.Term.int_eval] at hx
  rw [← e3, e1, hx]
theorem own_fxr {Z : State} {args : Array Value} {t : Jvm.Term} {a : Addr} {O n d K : String} (e : t.eval args Z none [] Z = some (.ref a)) (hx : (Jvm.Cond.exactly (Jvm.Term.field t O n d) K).value args Z none Z [] = some true) : ∃ r, Fld Z Z.heap a O n d (.ref r) ∧ Exa Z Z.heap r K ∧ (Jvm.Term.field t O n d).eval args Z none [] Z = some (.ref r) := by
  obtain ⟨r, c', cell, k, e1, -⟩ := Cond.exactly_spec (Cond.before_iff.mpr hx)
  refine ⟨r, Fld.start ?_, Exa.start e1 hx, e1⟩
  have e3 := e1
  rw [Jvm.Term.eval] at e3
  simp only [e, Option.bind_eq_bind, Option.bind_some] at e3
  exact e3
theorem own_far {Z : State} {args : Array Value} {t : Jvm.Term} {a : Addr} {O n d : String} {ty : FieldType} (e : t.eval args Z none [] Z = some (.ref a)) (hx : (Jvm.Cond.arrayOf (Jvm.Term.field t O n d) ty).value args Z none Z [] = some true) : ∃ r c, Fld Z Z.heap a O n d (.ref r) ∧ Arr Z Z.heap r c ty ∧ (Jvm.Term.field t O n d).eval args Z none [] Z = some (.ref r) := by
  cases ev : (Jvm.Term.field t O n d).eval args Z none [] Z with
  | none => simp only [Jvm.Cond.value, ev] at hx; split at hx <;> simp at hx
  | some v =>
    cases v with
    | ref r =>
      obtain ⟨c, A⟩ := Arr.start ev hx
      refine ⟨r, c, Fld.start ?_, A, rfl⟩
      have e3 := ev
      rw [Jvm.Term.eval] at e3
      simp only [e, Option.bind_eq_bind, Option.bind_some] at e3
      exact e3
    | _ => simp only [Jvm.Cond.value, ev] at hx; split at hx <;> simp at hx
theorem own_fxn {Z : State} {args : Array Value} {t : Jvm.Term} {a : Addr} {O n d : String} (e : t.eval args Z none [] Z = some (.ref a)) (hx : (Jvm.Cond.eq (Jvm.Term.field t O n d) Jvm.Term.null).value args Z none Z [] = some true) : Fld Z Z.heap a O n d .null := by
  cases ev : (Jvm.Term.field t O n d).eval args Z none [] Z with
  | none => simp [Jvm.Cond.value, ev] at hx
  | some v =>
    cases v with
    | null =>
      refine Fld.start ?_
      have e3 := ev
      rw [Jvm.Term.eval] at e3
      simp only [e, Option.bind_eq_bind, Option.bind_some] at e3
      exact e3
    | _ => simp [Jvm.Cond.value, ev, null_at] at hx
theorem own_arv {Z : State} {a : Addr} {c : Cell} {ty : FieldType} {z : Int32} {vs : List Value} {dv : Value} (hf : Fit Z) (A : Arr Z Z.heap a c ty) (hz : c.slots.size = z.toNatClampNeg) (h0 : ¬ z < 0) (hl : z.toNatClampNeg = vs.length) (H : HasL c 0 vs) : Arv Z Z.heap a c.cls ty z vs dv :=
  Arv.start hf A (by rw [hz]; exact (back32 h0).2) (by rw [hz]; exact (back32 h0).1) h0 hl H
theorem own_sx' {Z : State} {args a0 : Array Value} {C n d K : String} (hx : (Jvm.Cond.exactly (Jvm.Term.static C n d) K).value args Z none Z [] = some true) (hi : (Jvm.Cond.initializedFor C n d).before a0 Z = true) : ∃ a, Sta Z Z.heap C n d (.ref a) ∧ Exa Z Z.heap a K ∧ (Jvm.Term.static C n d).eval args Z none [] Z = some (.ref a) := by
  obtain ⟨a', c', cell, k, e1, -⟩ := Cond.exactly_spec (Cond.before_iff.mpr hx)
  exact ⟨a', Sta.start (args := a0) e1 (Or.inl hi), Exa.start e1 hx, e1⟩
set_option maxRecDepth 65536 in
set_option maxHeartbeats 40000000 in
theorem comes_1 {Post : Tables → Env → Array Value → State → Outcome → State → Prop} (hpost : ∀ tb e args s v u, (limb_1_1.after args s (.returned v) u = true ∧ limb_1_2.after args s (.returned v) u = true ∧ True) → ReturnedEndW s (.returned v) u (Jvm.fieldLocs frame_1_writes args s ++ Jvm.arrayLocs frame_1_arrays args s ++ Jvm.staticLocs frame_1_statics s) 24 3264 → Post tb e args s (.returned v) u) :
    ArmFor flags0 classFile x code maxLocals ret World_1 tables_1 room_1 Calls_1 rest_1 Pre_1 Post := by
  intro l hfl _ _ p e ha hc hk s m args below hf hA hF happ hP
  obtain ⟨hcalls, hrest, hpre⟩ := hP
  obtain ⟨-, -, -, hnamed, -, -, -, hat⟩ := (Spec.applies_iff hf).mp happ
  obtain ⟨hg, hn⟩ := and_e (Cond.before_iff.mp (show (Jvm.Cond.and given_1 narrow_1).before args s = true from hpre))
  obtain ⟨hg0, hg⟩ := and_e hg
  obtain ⟨w0, w1, w2, w3, rfl⟩ : ∃ w0 w1 w2 w3 : Value, args = #[w0, w1, w2, w3] := by
    have hs : args.size = 4 := by simpa [Cond.value, given_1] using hg0
    obtain ⟨L⟩ := args
    match L, hs with
    | [w0, w1, w2, w3], _ => exact ⟨w0, w1, w2, w3, rfl⟩
  have hw := fun d (hd : d ∈ tables_1) => atoms_spec (ws := Jvm.Cond.code x code maxLocals ret :: tables_1) hat d (List.mem_cons_of_mem _ hd)
  have hfit : Fit s := fun {y c} hc i hi => by
    obtain ⟨ha, rfl⟩ := Array.getElem?_eq_some_iff.mp hc
    have q := List.all_eq_true.mp ((Array.all_eq_true_iff_forall_mem.mp hF) _ (Array.getElem_mem ha)) i (List.mem_range.mpr hi)
    simpa [Array.getElem?_eq_getElem hi] using q
  obtain ⟨hg1, hg⟩ := and_e hg
  obtain ⟨p0, e0⟩ := is_v hg1
  obtain rfl : w0 = (.int p0) := Option.some.inj e0
  obtain ⟨hg2, hg⟩ := and_e hg
  obtain ⟨p1, e1⟩ := is_v hg2
  obtain rfl : w1 = (.int p1) := Option.some.inj e1
  obtain ⟨hg3, hg⟩ := and_e hg
  obtain ⟨p2, e2⟩ := is_v hg3
  obtain rfl : w2 = (.int p2) := Option.some.inj e2
  have hg4 := hg
  obtain ⟨p3, e3⟩ := is_v hg4
  obtain rfl : w3 = (.int p3) := Option.some.inj e3
  obtain ⟨q0, hn⟩ := and_e hn
  obtain ⟨q1, hn⟩ := and_e hn
  obtain ⟨q2, hn⟩ := and_e hn
  obtain ⟨q3, hn⟩ := and_e hn
  obtain ⟨q4, hn⟩ := and_e hn
  obtain ⟨q5, hn⟩ := and_e hn
  obtain ⟨q6, hn⟩ := and_e hn
  obtain ⟨q7, hn⟩ := and_e hn
  obtain ⟨q8, hn⟩ := and_e hn
  obtain ⟨q9, hn⟩ := and_e hn
  obtain ⟨q10, hn⟩ := and_e hn
  obtain ⟨q11, hn⟩ := and_e hn
  obtain ⟨q12, hn⟩ := and_e hn
  obtain ⟨q13, hn⟩ := and_e hn
  obtain ⟨q14, hn⟩ := and_e hn
  obtain ⟨q15, hn⟩ := and_e hn
  obtain ⟨q16, hn⟩ := and_e hn
  obtain ⟨q17, hn⟩ := and_e hn
  obtain ⟨q18, hn⟩ := and_e hn
  obtain ⟨q19, hn⟩ := and_e hn
  obtain ⟨q20, hn⟩ := and_e hn
  obtain ⟨q21, hn⟩ := and_e hn
  obtain ⟨q22, hn⟩ := and_e hn
  obtain ⟨q23, hn⟩ := and_e hn
  obtain ⟨q24, hn⟩ := and_e hn
  obtain ⟨q25, hn⟩ := and_e hn
  obtain ⟨q26, hn⟩ := and_e hn
  obtain ⟨q27, hn⟩ := and_e hn
  obtain ⟨q28, hn⟩ := and_e hn
  obtain ⟨q29, hn⟩ := and_e hn
  obtain ⟨q30, hn⟩ := and_e hn
  have q31 := hn
  obtain ⟨va, SV, EV, ev⟩ := own_sx q1 (tw hw 2) (tw hw 8)
  obtain ⟨cv, AV0⟩ := Arr.start ev q0
  have hav : s.arrayAt? va = some cv := AV0.fin (Vm.Alike.refl _)
  have hvz : cv.slots.size = 2 := own_len ev hav q2 (by decide)
  obtain ⟨a0, S0, E0, ea0⟩ := own_sx q3 (tw hw 2) (tw hw 16)
  have el0 : cv.slots[0]? = some (.ref a0) := own_els ev hav (j := 0) (by decide) ea0 q4
  obtain ⟨s0, G0, D0, es0⟩ := own_fxr ea0 q7
  have C0 := own_fi es0 q9
  obtain ⟨d0, c0, B0, A0, eb0⟩ := own_far es0 q10
  have hb0 : s.arrayAt? d0 = some c0 := A0.fin (Vm.Alike.refl _)
  have z0 := own_len eb0 hb0 q11 (by decide)
  have y0_0 := own_eli eb0 hb0 (j := 0) (by decide) q15
  have y0_1 := own_eli eb0 hb0 (j := 1) (by decide) q16
  have y0_2 := own_eli eb0 hb0 (j := 2) (by decide) q17
  have y0_3 := own_eli eb0 hb0 (j := 3) (by decide) q18
  have y0_4 := own_eli eb0 hb0 (j := 4) (by decide) q19
  have y0_5 := own_eli eb0 hb0 (j := 5) (by decide) q20
  have y0_6 := own_eli eb0 hb0 (j := 6) (by decide) q21
  have y0_7 := own_eli eb0 hb0 (j := 7) (by decide) q22
  have y0_8 := own_eli eb0 hb0 (j := 8) (by decide) q23
  have y0_9 := own_eli eb0 hb0 (j := 9) (by decide) q24
  have X0 : Str s s.heap s0 own_pg := ⟨D0, C0, d0, c0.cls, 10, B0, own_arv hfit A0 z0 (by decide) rfl ⟨y0_0, y0_1, y0_2, y0_3, y0_4, y0_5, y0_6, y0_7, y0_8, y0_9, trivial⟩, rfl⟩
  obtain ⟨a1, S1, E1, ea1⟩ := own_sx q5 (tw hw 2) (tw hw 17)
  have el1 : cv.slots[1]? = some (.ref a1) := own_els ev hav (j := 1) (by decide) ea1 q6
  obtain ⟨s1, G1, D1, es1⟩ := own_fxr ea1 q8
  have C1 := own_fi es1 q12
  obtain ⟨d1, c1, B1, A1, eb1⟩ := own_far es1 q13
  have hb1 : s.arrayAt? d1 = some c1 := A1.fin (Vm.Alike.refl _)
  have z1 := own_len eb1 hb1 q14 (by decide)
  have y1_0 := own_eli eb1 hb1 (j := 0) (by decide) q25
  have y1_1 := own_eli eb1 hb1 (j := 1) (by decide) q26
  have y1_2 := own_eli eb1 hb1 (j := 2) (by decide) q27
  have y1_3 := own_eli eb1 hb1 (j := 3) (by decide) q28
  have y1_4 := own_eli eb1 hb1 (j := 4) (by decide) q29
  have y1_5 := own_eli eb1 hb1 (j := 5) (by decide) q30
  have y1_6 := own_eli eb1 hb1 (j := 6) (by decide) q31
  have X1 : Str s s.heap s1 own_md := ⟨D1, C1, d1, c1.cls, 7, B1, own_arv hfit A1 z1 (by decide) rfl ⟨y1_0, y1_1, y1_2, y1_3, y1_4, y1_5, y1_6, trivial⟩, rfl⟩
  have AV : Arv s s.heap va cv.cls (.object "com/example/mapwright/mapwright/sql/Dialect") 2 [.ref a0, .ref a1] .null := own_arv hfit AV0 hvz (by decide) rfl ⟨el0, el1, trivial⟩
  have n01 : a0 ≠ a1 := fun e => by subst e; cases own_fldinj G0 G1; exact absurd (X0.inj X1 own_pgch own_mdch) (by decide)
  obtain ⟨hjs, -⟩ := atoms_of jdkStatics_1 (own := restOwn_1) (show (jdkStatics_1.foldr Jvm.Cond.and restOwn_1).before _ s = true from hrest)
  obtain ⟨em, SE, EE, ee⟩ := own_sx' (Cond.before_iff.mp (hjs _ (List.mem_of_getElem? (i := 2) rfl))) (hjs _ (List.mem_of_getElem? (i := 1) rfl))
  have GE := own_fxn ee (Cond.before_iff.mp (hjs _ (List.mem_of_getElem? (i := 3) rfl)))
  obtain ⟨cz, hcz, SC⟩ := own_comp (a0 := #[]) (hjs _ (List.mem_of_getElem? (i := 4) rfl)) (hjs _ (List.mem_of_getElem? (i := 5) rfl)) (hjs _ (List.mem_of_getElem? (i := 6) rfl))
  have R := con_law l s _ hw p0 p1 p2 p3 va a0 a1 s0 s1 cv.cls SV AV EV E0 E1 G0 G1 X0 X1 S0 S1 n01 em SE EE GE cz hcz SC
  have HCH : CHv s own_EL s.vm s.heap := CHv.start (own_ew0 hw) (fun p hp => hcalls.1 p (by revert hp; simp [own_EL, consts_1])) (show Jvm.Lit.compactW.before _ s = true from (hjs _ (List.mem_of_getElem? (i := 6) rfl))) (tw hw 59) (tw hw 43)
  obtain ⟨n, o, h1, h2, h3, _, Lc, rfl, ⟨_, rfl, rfl⟩, N, hCH, hEx, hNr, hq⟩ := R tables_1 p e ha hc hk s m _ below hf ((Spec.applies_iff_loose hf).mp happ).1 ⟨rfl, State.Warmed39.refl s, rfl, HCH, all0⟩ trivial
  refine ⟨n, _, h1, h2, h3, hpost _ _ _ _ _ _ ⟨Cond.after_iff.mpr rfl, Cond.after_iff.mpr (eq_i res_at (Term.int_eval (1)) rfl), trivial⟩ ⟨hq.1, hq.2.1, hq.2.2.1, (hq.2.2.2.sift fun y hy => Or.inr (N y hy)).mono (by decide) (by decide)⟩⟩
theorem main_1_1 : Claimed_1_1 := comes_1 fun _ _ _ _ _ _ h hF => ⟨h.1, hF⟩
theorem main_1_2 : Claimed_1_2 := comes_1 fun _ _ _ _ _ _ h hF => ⟨h.2.1, hF⟩
end Jvm.Pilot.@@N@@
namespace Jvm.Pilot.@@N@@
open Jvm Jvm.ClassFile Sem Op Lib Jvm.Free Jvm.Stand Jvm.Pilot.@@N@@.Jvm.D
/-! MADE BY PROGRAM (witnessworld.py) out of the Statement's table words and the real class files: 24 classes; the members and pool entries that the words name. The judged class is class 1, her method 1. -/
namespace start1
open Jvm.ClassFile
def u (s : String) : CpInfo := .utf8 (stringToUtf16 s)
/-- a pool by its gaps: so many unusable entries, then the entry; so many at the end -/
def gap : Nat → List CpInfo → List CpInfo
  | 0, r => r
  | n + 1, r => .unusable :: gap n r
def poolList (es : List (Nat × CpInfo)) (last : Nat) : List CpInfo := es.foldr (fun e r => gap e.1 (e.2 :: r)) (gap last [])
def pool (es : List (Nat × CpInfo)) (last : Nat) : Array CpInfo := ⟨poolList es last⟩
def fileOf (pool : Array CpInfo) (this : Nat) (attrs : Array Attribute := #[]) (ms : Array MethodInfo := #[]) (fl : Nat := 33) (sup : Nat := 0) (ifs : Array Nat := #[]) (fds : Array FieldInfo := #[]) : ClassFile where
  minorVersion := 0
  majorVersion := 65
  constantPool := pool
  accessFlags := fl
  thisClass := this
  superClass := sup
  interfaces := ifs
  fields := fds
  methods := ms
  attributes := attrs
def plain (name : String) (sup : Option ClassId) : Class where
  name := name
  kind := .ordinary
  loader := none
  accessFlags := 33
  super := sup
  interfaces := #[]
  cf := none
  fields := #[]
  methods := #[]
  instanceTypes := #[]
  staticTypes := #[]
  resolved := #[]
  callSites := []
  init := .initialized
  statics := none
  mirror := none

def pool0 : Array CpInfo := pool [(5, u "<init>"), (0, u "()V"), (1, .class_ 10), (1, u "java/lang/Object"), (85, u "clone"), (0, u "()Ljava/lang/Object;")] 26

def k0c0 : Code := { maxStack := 0, maxLocals := 1, code := object_method_1_code, exceptionTable := #[], attributes := #[] }
def k0m0 : Method := { name := "<init>", desc := "()V", sig := { parameters := [], returnType := none }, accessFlags := 1, code := some k0c0 }
def k0m1 : Method := { name := "clone", desc := "()Ljava/lang/Object;", sig := { parameters := [], returnType := some (.object "java/lang/Object") }, accessFlags := 260, code := none }
/-- java/lang/Object -/
def k0 : Class := { plain "java/lang/Object" none with
  accessFlags := 33
  interfaces := #[]
  cf := some (fileOf pool0 8 #[] #[{ accessFlags := 1, nameIndex := 5, descriptorIndex := 6, attributes := #[] }, { accessFlags := 260, nameIndex := 96, descriptorIndex := 97, attributes := #[] }] 33 0 #[] #[])
  fields := #[]
  methods := #[k0m0, k0m1]
  instanceTypes := #[]
  staticTypes := #[]
  resolved := Array.replicate 124 none
  statics := none }

def pool1 : Array CpInfo := pool [(2, .class_ 4), (1, u "java/lang/Object"), (0, u "<init>"), (0, u "()V"), (0, .integer 2147483647), (0, .class_ 9), (0, u "java/lang/String"), (0, .methodref 8 11), (0, .nameAndType 5 12), (0, u "([C)V"), (0, .string 14), (0, u ""), (0, .string 16), (0, u "postgresql"), (0, .methodref 8 18), (0, .nameAndType 19 20), (0, u "equals"), (0, u "(Ljava/lang/Object;)Z"), (0, .fieldref 22 23), (0, .class_ 24), (0, .nameAndType 25 26), (0, u "com/example/mapwright/mapwright/sql/Dialect"), (0, u "POSTGRESQL"), (0, u "Lcom/example/mapwright/mapwright/sql/Dialect;"), (0, .string 28), (0, u "mariadb"), (0, .fieldref 22 30), (0, .nameAndType 31 26), (0, u "MARIADB"), (0, .methodref 22 33), (0, .nameAndType 34 35), (0, u "forSettingValue"), (0, u "(Ljava/lang/String;)Ljava/util/Optional;"), (0, .methodref 37 38), (0, .class_ 39), (0, .nameAndType 40 41), (0, u "java/util/Optional"), (0, u "orElse"), (0, u "(Ljava/lang/Object;)Ljava/lang/Object;"), (0, .methodref 22 43), (0, .nameAndType 44 45), (0, u "settingValue"), (0, u "()Ljava/lang/String;"), (0, .class_ 47), (0, u "com/example/mapwright/mapwright/sql/DialectForSettingValuePinLaw"), (2, u "law"), (0, u "(IIII)Z")] 5

def k1m0 : Method := { name := "<init>", desc := "()V", sig := { parameters := [], returnType := none }, accessFlags := 2, code := none }
def k1c1 : Code := { maxStack := 5, maxLocals := 10, code := code, exceptionTable := #[], attributes := #[] }
def k1m1 : Method := { name := "law", desc := "(IIII)Z", sig := { parameters := [.int, .int, .int, .int], returnType := some .boolean }, accessFlags := 9, code := some k1c1 }
/-- com/example/mapwright/mapwright/sql/DialectForSettingValuePinLaw -/
def k1 : Class := { plain "com/example/mapwright/mapwright/sql/DialectForSettingValuePinLaw" (some 0) with
  accessFlags := 49
  interfaces := #[]
  cf := some (fileOf pool1 46 #[] #[{ accessFlags := 2, nameIndex := 5, descriptorIndex := 6, attributes := #[] }, { accessFlags := 9, nameIndex := 50, descriptorIndex := 51, attributes := #[] }] 49 2 #[] #[])
  fields := #[]
  methods := #[k1m0, k1m1]
  instanceTypes := #[]
  staticTypes := #[]
  resolved := Array.replicate 57 none
  statics := none }

def pool2 : Array CpInfo := pool [(1, .class_ 2), (0, u "java/lang/constant/Constable"), (0, .class_ 4), (0, u "java/lang/Object")] 6

/-- java/lang/constant/Constable -/
def k2 : Class := { plain "java/lang/constant/Constable" (some 0) with
  accessFlags := 1537
  interfaces := #[]
  cf := some (fileOf pool2 1 #[] #[] 1537 3 #[] #[])
  fields := #[]
  methods := #[]
  instanceTypes := #[]
  staticTypes := #[]
  resolved := Array.replicate 11 none
  statics := none }

def pool3 : Array CpInfo := pool [(1, .class_ 2), (0, u "java/lang/Comparable"), (0, .class_ 4), (0, u "java/lang/Object")] 7

/-- java/lang/Comparable -/
def k3 : Class := { plain "java/lang/Comparable" (some 0) with
  accessFlags := 1537
  interfaces := #[]
  cf := some (fileOf pool3 1 #[] #[] 1537 3 #[] #[])
  fields := #[]
  methods := #[]
  instanceTypes := #[]
  staticTypes := #[]
  resolved := Array.replicate 12 none
  statics := none }

def pool4 : Array CpInfo := pool [(1, .class_ 2), (0, u "java/io/Serializable"), (0, .class_ 4), (0, u "java/lang/Object")] 2

/-- java/io/Serializable -/
def k4 : Class := { plain "java/io/Serializable" (some 0) with
  accessFlags := 1537
  interfaces := #[]
  cf := some (fileOf pool4 1 #[] #[] 1537 3 #[] #[])
  fields := #[]
  methods := #[]
  instanceTypes := #[]
  staticTypes := #[]
  resolved := Array.replicate 7 none
  statics := none }

def pool5 : Array CpInfo := pool [(2, .class_ 4), (1, u "java/lang/Enum"), (0, u "name"), (0, u "Ljava/lang/String;"), (2, u "ordinal"), (0, u "I"), (1, .class_ 14), (1, u "java/lang/Object"), (4, u "hash"), (86, .class_ 108), (1, u "java/lang/Enum$EnumDesc"), (2, .class_ 112), (0, u "java/lang/constant/Constable"), (0, .class_ 114), (0, u "java/lang/Comparable"), (0, .class_ 116), (0, u "java/io/Serializable")] 87

/-- java/lang/Enum -/
def k5 : Class := { plain "java/lang/Enum" (some 0) with
  accessFlags := 1057
  interfaces := #[2, 3, 4]
  cf := some (fileOf pool5 2 #[.nestMembers #[106]] #[] 1057 12 #[111, 113, 115] #[{ accessFlags := 18, nameIndex := 5, descriptorIndex := 6, attributes := #[] }, { accessFlags := 18, nameIndex := 9, descriptorIndex := 10, attributes := #[] }, { accessFlags := 2, nameIndex := 19, descriptorIndex := 10, attributes := #[] }])
  fields := #[{ name := "name", type := (.object "java/lang/String"), accessFlags := 18, slot := 0, constantValue := 0 }, { name := "ordinal", type := .int, accessFlags := 18, slot := 1, constantValue := 0 }, { name := "hash", type := .int, accessFlags := 2, slot := 2, constantValue := 0 }]
  methods := #[]
  instanceTypes := #[(.object "java/lang/String"), .int, .int]
  staticTypes := #[]
  resolved := Array.replicate 204 none
  statics := none }

def pool6 : Array CpInfo := pool [(1, .class_ 2), (0, u "com/example/mapwright/mapwright/sql/Dialect"), (2, u "POSTGRESQL"), (0, u "Lcom/example/mapwright/mapwright/sql/Dialect;"), (2, u "MARIADB"), (0, .fieldref 1 11), (0, .nameAndType 12 13), (0, u "$VALUES"), (0, u "[Lcom/example/mapwright/mapwright/sql/Dialect;"), (0, .methodref 15 16), (0, .class_ 13), (0, .nameAndType 17 18), (0, u "clone"), (0, u "()Ljava/lang/Object;"), (1, .class_ 22), (1, u "java/lang/Enum"), (6, .fieldref 1 30), (0, .nameAndType 31 32), (0, u "settingValue"), (0, u "Ljava/lang/String;"), (2, u "quote"), (0, u "C"), (4, u "of"), (3, u "productNames"), (0, u "Ljava/util/List;"), (0, .methodref 1 48), (0, .nameAndType 49 50), (0, u "values"), (0, u "()[Lcom/example/mapwright/mapwright/sql/Dialect;"), (0, .methodref 52 53), (0, .class_ 54), (0, .nameAndType 55 56), (0, u "java/lang/String"), (0, u "equals"), (0, u "(Ljava/lang/Object;)Z"), (0, .methodref 58 59), (0, .class_ 60), (0, .nameAndType 41 61), (0, u "java/util/Optional"), (0, u "(Ljava/lang/Object;)Ljava/util/Optional;"), (0, .methodref 58 63), (0, .nameAndType 64 65), (0, u "empty"), (0, u "()Ljava/util/Optional;"), (86, u "()Ljava/lang/String;"), (49, u "forSettingValue"), (0, u "(Ljava/lang/String;)Ljava/util/Optional;")] 39

def k6c0 : Code := { maxStack := 1, maxLocals := 0, code := prog_116_method_1_code, exceptionTable := #[], attributes := #[] }
def k6m0 : Method := { name := "values", desc := "()[Lcom/example/mapwright/mapwright/sql/Dialect;", sig := { parameters := [], returnType := some (.array (.object "com/example/mapwright/mapwright/sql/Dialect")) }, accessFlags := 9, code := some k6c0 }
def k6c1 : Code := { maxStack := 1, maxLocals := 1, code := prog_116_method_4_code, exceptionTable := #[], attributes := #[] }
def k6m1 : Method := { name := "settingValue", desc := "()Ljava/lang/String;", sig := { parameters := [], returnType := some (.object "java/lang/String") }, accessFlags := 1, code := some k6c1 }
def k6c2 : Code := { maxStack := 2, maxLocals := 5, code := prog_116_method_5_code, exceptionTable := #[], attributes := #[] }
def k6m2 : Method := { name := "forSettingValue", desc := "(Ljava/lang/String;)Ljava/util/Optional;", sig := { parameters := [(.object "java/lang/String")], returnType := some (.object "java/util/Optional") }, accessFlags := 9, code := some k6c2 }
/-- com/example/mapwright/mapwright/sql/Dialect -/
def k6 : Class := { plain "com/example/mapwright/mapwright/sql/Dialect" (some 5) with
  accessFlags := 16433
  interfaces := #[]
  cf := some (fileOf pool6 1 #[] #[{ accessFlags := 9, nameIndex := 49, descriptorIndex := 50, attributes := #[] }, { accessFlags := 1, nameIndex := 31, descriptorIndex := 152, attributes := #[] }, { accessFlags := 9, nameIndex := 202, descriptorIndex := 203, attributes := #[] }] 16433 20 #[] #[{ accessFlags := 16409, nameIndex := 5, descriptorIndex := 6, attributes := #[] }, { accessFlags := 16409, nameIndex := 9, descriptorIndex := 6, attributes := #[] }, { accessFlags := 18, nameIndex := 31, descriptorIndex := 32, attributes := #[] }, { accessFlags := 18, nameIndex := 35, descriptorIndex := 36, attributes := #[] }, { accessFlags := 18, nameIndex := 45, descriptorIndex := 46, attributes := #[] }, { accessFlags := 4122, nameIndex := 12, descriptorIndex := 13, attributes := #[] }])
  fields := #[{ name := "POSTGRESQL", type := (.object "com/example/mapwright/mapwright/sql/Dialect"), accessFlags := 16409, slot := 0, constantValue := 0 }, { name := "MARIADB", type := (.object "com/example/mapwright/mapwright/sql/Dialect"), accessFlags := 16409, slot := 1, constantValue := 0 }, { name := "settingValue", type := (.object "java/lang/String"), accessFlags := 18, slot := 3, constantValue := 0 }, { name := "quote", type := .char, accessFlags := 18, slot := 4, constantValue := 0 }, { name := "productNames", type := (.object "java/util/List"), accessFlags := 18, slot := 5, constantValue := 0 }, { name := "$VALUES", type := (.array (.object "com/example/mapwright/mapwright/sql/Dialect")), accessFlags := 4122, slot := 2, constantValue := 0 }]
  methods := #[k6m0, k6m1, k6m2]
  instanceTypes := #[(.object "java/lang/String"), .int, .int, (.object "java/lang/String"), .char, (.object "java/util/List")]
  staticTypes := #[(.object "com/example/mapwright/mapwright/sql/Dialect"), (.object "com/example/mapwright/mapwright/sql/Dialect"), (.array (.object "com/example/mapwright/mapwright/sql/Dialect"))]
  resolved := Array.replicate 243 none
  statics := some 0 }

def pool7 : Array CpInfo := pool [(1, .class_ 2), (0, u "java/lang/Cloneable"), (0, .class_ 4), (0, u "java/lang/Object")] 2

/-- java/lang/Cloneable -/
def k7 : Class := { plain "java/lang/Cloneable" (some 0) with
  accessFlags := 1537
  interfaces := #[]
  cf := some (fileOf pool7 1 #[] #[] 1537 3 #[] #[])
  fields := #[]
  methods := #[]
  instanceTypes := #[]
  staticTypes := #[]
  resolved := Array.replicate 7 none
  statics := none }

def pool8 : Array CpInfo := pool [(2, .class_ 4), (1, u "java/lang/CharSequence"), (42, .class_ 48), (0, u "java/lang/CharSequence$1CodePointIterator"), (10, .class_ 60), (0, u "java/lang/CharSequence$1CharIterator"), (5, .class_ 67), (0, u "java/lang/Object")] 63

/-- java/lang/CharSequence -/
def k8 : Class := { plain "java/lang/CharSequence" (some 0) with
  accessFlags := 1537
  interfaces := #[]
  cf := some (fileOf pool8 2 #[.nestMembers #[47, 59]] #[] 1537 66 #[] #[])
  fields := #[]
  methods := #[]
  instanceTypes := #[]
  staticTypes := #[]
  resolved := Array.replicate 131 none
  statics := none }

def pool9 : Array CpInfo := pool [(1, .class_ 2), (0, u "java/lang/constant/ConstantDesc"), (0, .class_ 4), (0, u "java/lang/Object")] 32

/-- java/lang/constant/ConstantDesc -/
def k9 : Class := { plain "java/lang/constant/ConstantDesc" (some 0) with
  accessFlags := 1537
  interfaces := #[]
  cf := some (fileOf pool9 1 #[] #[] 1537 3 #[] #[])
  fields := #[]
  methods := #[]
  instanceTypes := #[]
  staticTypes := #[]
  resolved := Array.replicate 37 none
  statics := none }

def pool10 : Array CpInfo := pool [(1, .methodref 2 3), (0, .class_ 4), (0, .nameAndType 5 6), (0, u "java/lang/Object"), (0, u "<init>"), (0, u "()V"), (2, .fieldref 10 11), (0, .class_ 12), (0, .nameAndType 13 14), (0, u "java/lang/String"), (0, u "value"), (0, u "[B"), (0, .fieldref 10 16), (0, .nameAndType 17 18), (0, u "coder"), (0, u "B"), (2, u "hash"), (0, u "I"), (2, u "hashIsZero"), (0, u "Z"), (0, .methodref 10 28), (0, .nameAndType 5 29), (0, u "([CIILjava/lang/Void;)V"), (8, .fieldref 10 39), (0, .nameAndType 40 26), (0, u "COMPACT_STRINGS"), (1, .class_ 44), (1, u "java/lang/StringUTF16"), (0, u "compress"), (1, .methodref 42 48), (0, .nameAndType 49 50), (0, u "coderFromArrayLen"), (0, u "([BI)B"), (56, .class_ 109), (1, u "java/lang/StringLatin1"), (67, .methodref 42 178), (0, .nameAndType 45 179), (0, u "([CII)[B"), (361, .methodref 107 542), (0, .nameAndType 543 544), (0, u "equals"), (0, u "([B[B)Z"), (28, u "(Ljava/lang/Object;)Z"), (1, .class_ 576), (0, u "java/lang/CharSequence"), (22, u "CASE_INSENSITIVE_ORDER"), (0, u "Ljava/util/Comparator;"), (409, u "([C)V"), (90, u "serialPersistentFields"), (0, u "[Ljava/io/ObjectStreamField;"), (0, .class_ 1104), (0, u "java/lang/String$CaseInsensitiveComparator"), (1, .class_ 1107), (0, u "java/io/Serializable"), (0, .class_ 1109), (0, u "java/lang/Comparable"), (0, .class_ 1111), (0, u "java/lang/constant/Constable"), (0, .class_ 1113), (0, u "java/lang/constant/ConstantDesc"), (2, u "serialVersionUID"), (0, u "J"), (3, u "REPL"), (0, u "C"), (2, u "LATIN1"), (1, u "UTF16")] 323

def k10m0 : Method := { name := "<init>", desc := "()V", sig := { parameters := [], returnType := none }, accessFlags := 1, code := none }
def k10c1 : Code := { maxStack := 5, maxLocals := 2, code := jdk_42_method_3_code, exceptionTable := #[], attributes := #[] }
def k10m1 : Method := { name := "<init>", desc := "([C)V", sig := { parameters := [(.array .char)], returnType := none }, accessFlags := 1, code := some k10c1 }
def k10c2 : Code := { maxStack := 2, maxLocals := 3, code := jdk_42_method_66_code, exceptionTable := #[], attributes := #[] }
def k10m2 : Method := { name := "equals", desc := "(Ljava/lang/Object;)Z", sig := { parameters := [(.object "java/lang/Object")], returnType := some .boolean }, accessFlags := 1, code := some k10c2 }
def k10c3 : Code := { maxStack := 4, maxLocals := 6, code := jdk_42_method_149_code, exceptionTable := #[], attributes := #[] }
def k10m3 : Method := { name := "<init>", desc := "([CIILjava/lang/Void;)V", sig := { parameters := [(.array .char), .int, .int, (.object "java/lang/Void")], returnType := none }, accessFlags := 2, code := some k10c3 }
/-- java/lang/String -/
def k10 : Class := { plain "java/lang/String" (some 0) with
  accessFlags := 49
  interfaces := #[4, 3, 8, 2, 9]
  cf := some (fileOf pool10 10 #[.nestMembers #[1103]] #[{ accessFlags := 1, nameIndex := 5, descriptorIndex := 6, attributes := #[] }, { accessFlags := 1, nameIndex := 5, descriptorIndex := 1010, attributes := #[] }, { accessFlags := 1, nameIndex := 543, descriptorIndex := 573, attributes := #[] }, { accessFlags := 2, nameIndex := 5, descriptorIndex := 29, attributes := #[] }] 49 2 #[1106, 1108, 575, 1110, 1112] #[{ accessFlags := 18, nameIndex := 13, descriptorIndex := 14, attributes := #[] }, { accessFlags := 18, nameIndex := 17, descriptorIndex := 18, attributes := #[] }, { accessFlags := 2, nameIndex := 21, descriptorIndex := 22, attributes := #[] }, { accessFlags := 2, nameIndex := 25, descriptorIndex := 26, attributes := #[] }, { accessFlags := 26, nameIndex := 1116, descriptorIndex := 1117, attributes := #[] }, { accessFlags := 24, nameIndex := 40, descriptorIndex := 26, attributes := #[] }, { accessFlags := 26, nameIndex := 1101, descriptorIndex := 1102, attributes := #[] }, { accessFlags := 26, nameIndex := 1121, descriptorIndex := 1122, attributes := #[] }, { accessFlags := 25, nameIndex := 599, descriptorIndex := 600, attributes := #[] }, { accessFlags := 24, nameIndex := 1125, descriptorIndex := 18, attributes := #[] }, { accessFlags := 24, nameIndex := 1127, descriptorIndex := 18, attributes := #[] }])
  fields := #[{ name := "value", type := (.array .byte), accessFlags := 18, slot := 0, constantValue := 0 }, { name := "coder", type := .byte, accessFlags := 18, slot := 1, constantValue := 0 }, { name := "hash", type := .int, accessFlags := 2, slot := 2, constantValue := 0 }, { name := "hashIsZero", type := .boolean, accessFlags := 2, slot := 3, constantValue := 0 }, { name := "serialVersionUID", type := .long, accessFlags := 26, slot := 0, constantValue := 0 }, { name := "COMPACT_STRINGS", type := .boolean, accessFlags := 24, slot := 1, constantValue := 0 }, { name := "serialPersistentFields", type := (.array (.object "java/io/ObjectStreamField")), accessFlags := 26, slot := 2, constantValue := 0 }, { name := "REPL", type := .char, accessFlags := 26, slot := 3, constantValue := 0 }, { name := "CASE_INSENSITIVE_ORDER", type := (.object "java/util/Comparator"), accessFlags := 25, slot := 4, constantValue := 0 }, { name := "LATIN1", type := .byte, accessFlags := 24, slot := 5, constantValue := 0 }, { name := "UTF16", type := .byte, accessFlags := 24, slot := 6, constantValue := 0 }]
  methods := #[k10m0, k10m1, k10m2, k10m3]
  instanceTypes := #[(.array .byte), .byte, .int, .boolean]
  staticTypes := #[.long, .boolean, (.array (.object "java/io/ObjectStreamField")), .char, (.object "java/util/Comparator"), .byte, .byte]
  resolved := Array.replicate 1451 none
  statics := some 1 }

def pool11 : Array CpInfo := pool [(1, .fieldref 2 3), (0, .class_ 4), (0, .nameAndType 5 6), (0, u "java/util/Optional"), (0, u "EMPTY"), (0, u "Ljava/util/Optional;"), (0, .methodref 8 9), (0, .class_ 10), (0, .nameAndType 11 12), (0, u "java/lang/Object"), (0, u "<init>"), (0, u "()V"), (0, .fieldref 2 14), (0, .nameAndType 15 16), (0, u "value"), (0, u "Ljava/lang/Object;"), (0, .methodref 18 19), (0, .class_ 20), (0, .nameAndType 21 22), (0, u "java/util/Objects"), (0, u "requireNonNull"), (0, u "(Ljava/lang/Object;)Ljava/lang/Object;"), (0, .methodref 2 24), (0, .nameAndType 11 25), (0, u "(Ljava/lang/Object;)V"), (29, u "empty"), (0, u "()Ljava/util/Optional;"), (8, u "(Ljava/lang/Object;)Ljava/util/Optional;"), (16, u "of"), (82, u "orElse")] 21

def k11c0 : Code := { maxStack := 1, maxLocals := 1, code := jdk_32_method_1_code, exceptionTable := #[], attributes := #[] }
def k11m0 : Method := { name := "empty", desc := "()Ljava/util/Optional;", sig := { parameters := [], returnType := some (.object "java/util/Optional") }, accessFlags := 9, code := some k11c0 }
def k11c1 : Code := { maxStack := 2, maxLocals := 2, code := jdk_32_method_2_code, exceptionTable := #[], attributes := #[] }
def k11m1 : Method := { name := "<init>", desc := "(Ljava/lang/Object;)V", sig := { parameters := [(.object "java/lang/Object")], returnType := none }, accessFlags := 2, code := some k11c1 }
def k11c2 : Code := { maxStack := 3, maxLocals := 1, code := jdk_32_method_3_code, exceptionTable := #[], attributes := #[] }
def k11m2 : Method := { name := "of", desc := "(Ljava/lang/Object;)Ljava/util/Optional;", sig := { parameters := [(.object "java/lang/Object")], returnType := some (.object "java/util/Optional") }, accessFlags := 9, code := some k11c2 }
def k11c3 : Code := { maxStack := 1, maxLocals := 2, code := jdk_32_method_15_code, exceptionTable := #[], attributes := #[] }
def k11m3 : Method := { name := "orElse", desc := "(Ljava/lang/Object;)Ljava/lang/Object;", sig := { parameters := [(.object "java/lang/Object")], returnType := some (.object "java/lang/Object") }, accessFlags := 1, code := some k11c3 }
/-- java/util/Optional -/
def k11 : Class := { plain "java/util/Optional" (some 0) with
  accessFlags := 49
  interfaces := #[]
  cf := some (fileOf pool11 2 #[] #[{ accessFlags := 9, nameIndex := 55, descriptorIndex := 56, attributes := #[] }, { accessFlags := 2, nameIndex := 11, descriptorIndex := 25, attributes := #[] }, { accessFlags := 9, nameIndex := 82, descriptorIndex := 65, attributes := #[] }, { accessFlags := 1, nameIndex := 165, descriptorIndex := 22, attributes := #[] }] 49 8 #[] #[{ accessFlags := 26, nameIndex := 5, descriptorIndex := 6, attributes := #[] }, { accessFlags := 18, nameIndex := 15, descriptorIndex := 16, attributes := #[] }])
  fields := #[{ name := "EMPTY", type := (.object "java/util/Optional"), accessFlags := 26, slot := 0, constantValue := 0 }, { name := "value", type := (.object "java/lang/Object"), accessFlags := 18, slot := 0, constantValue := 0 }]
  methods := #[k11m0, k11m1, k11m2, k11m3]
  instanceTypes := #[(.object "java/lang/Object")]
  staticTypes := #[(.object "java/util/Optional")]
  resolved := Array.replicate 187 none
  statics := some 2 }

def pool12 : Array CpInfo := pool [(6, .class_ 8), (1, u "java/lang/Object"), (0, u "<init>"), (0, u "()V"), (1, .class_ 14), (1, u "java/lang/StringUTF16"), (31, u "$assertionsDisabled"), (0, u "Z"), (13, u "HI_BYTE_SHIFT"), (0, u "I"), (2, u "LO_BYTE_SHIFT"), (49, .methodref 12 116), (0, .nameAndType 117 118), (0, u "compress"), (0, u "([CI[BII)I"), (3, u "([CII)[B"), (138, u "coderFromArrayLen"), (0, u "([BI)B"), (106, .class_ 371), (1, u "java/lang/StringUTF16$LinesSpliterator"), (58, u "MAX_LENGTH"), (196, .class_ 628), (0, u "java/lang/StringUTF16$CodePointsSpliterator"), (0, .class_ 630), (0, u "java/lang/StringUTF16$CharsSpliterator")] 4

def k12m0 : Method := { name := "<init>", desc := "()V", sig := { parameters := [], returnType := none }, accessFlags := 0, code := none }
def k12c1 : Code := { maxStack := 2, maxLocals := 2, code := jdk_52_method_15_code, exceptionTable := #[], attributes := #[] }
def k12m1 : Method := { name := "coderFromArrayLen", desc := "([BI)B", sig := { parameters := [(.array .byte), .int], returnType := some .byte }, accessFlags := 8, code := some k12c1 }
def k12c2 : Code := { maxStack := 5, maxLocals := 6, code := jdk_52_method_16_code, exceptionTable := #[], attributes := #[] }
def k12m2 : Method := { name := "compress", desc := "([CII)[B", sig := { parameters := [(.array .char), .int, .int], returnType := some (.array .byte) }, accessFlags := 9, code := some k12c2 }
def k12c3 : Code := { maxStack := 3, maxLocals := 7, code := jdk_52_method_21_code, exceptionTable := #[], attributes := #[] }
def k12m3 : Method := { name := "compress", desc := "([CI[BII)I", sig := { parameters := [(.array .char), .int, (.array .byte), .int, .int], returnType := some .int }, accessFlags := 9, code := some k12c3 }
/-- java/lang/StringUTF16 -/
def k12 : Class := { plain "java/lang/StringUTF16" (some 0) with
  accessFlags := 48
  interfaces := #[]
  cf := some (fileOf pool12 12 #[.nestMembers #[627, 629, 369]] #[{ accessFlags := 0, nameIndex := 9, descriptorIndex := 10, attributes := #[] }, { accessFlags := 8, nameIndex := 261, descriptorIndex := 262, attributes := #[] }, { accessFlags := 9, nameIndex := 117, descriptorIndex := 122, attributes := #[] }, { accessFlags := 9, nameIndex := 117, descriptorIndex := 118, attributes := #[] }] 48 6 #[] #[{ accessFlags := 26, nameIndex := 61, descriptorIndex := 62, attributes := #[] }, { accessFlags := 26, nameIndex := 65, descriptorIndex := 62, attributes := #[] }, { accessFlags := 24, nameIndex := 430, descriptorIndex := 62, attributes := #[] }, { accessFlags := 4120, nameIndex := 46, descriptorIndex := 47, attributes := #[] }])
  fields := #[{ name := "HI_BYTE_SHIFT", type := .int, accessFlags := 26, slot := 0, constantValue := 0 }, { name := "LO_BYTE_SHIFT", type := .int, accessFlags := 26, slot := 1, constantValue := 0 }, { name := "MAX_LENGTH", type := .int, accessFlags := 24, slot := 2, constantValue := 0 }, { name := "$assertionsDisabled", type := .boolean, accessFlags := 4120, slot := 3, constantValue := 0 }]
  methods := #[k12m0, k12m1, k12m2, k12m3]
  instanceTypes := #[]
  staticTypes := #[.int, .int, .int, .boolean]
  resolved := Array.replicate 635 none
  statics := none }

def pool13 : Array CpInfo := pool [(4, .class_ 6), (1, u "java/lang/Object"), (0, u "<init>"), (0, u "()V"), (5, .class_ 16), (1, u "java/lang/StringLatin1"), (104, u "$assertionsDisabled"), (0, u "Z"), (98, .class_ 223), (1, u "java/lang/StringLatin1$LinesSpliterator"), (57, u "equals"), (0, u "([B[B)Z"), (107, .class_ 391), (0, u "java/lang/StringLatin1$CharsSpliterator")] 3

def k13m0 : Method := { name := "<init>", desc := "()V", sig := { parameters := [], returnType := none }, accessFlags := 0, code := none }
def k13c1 : Code := { maxStack := 3, maxLocals := 3, code := jdk_43_method_13_code, exceptionTable := #[], attributes := #[] }
def k13m1 : Method := { name := "equals", desc := "([B[B)Z", sig := { parameters := [(.array .byte), (.array .byte)], returnType := some .boolean }, accessFlags := 9, code := some k13c1 }
/-- java/lang/StringLatin1 -/
def k13 : Class := { plain "java/lang/StringLatin1" (some 0) with
  accessFlags := 48
  interfaces := #[]
  cf := some (fileOf pool13 14 #[.nestMembers #[390, 221]] #[{ accessFlags := 0, nameIndex := 7, descriptorIndex := 8, attributes := #[] }, { accessFlags := 9, nameIndex := 281, descriptorIndex := 282, attributes := #[] }] 48 4 #[] #[{ accessFlags := 4120, nameIndex := 121, descriptorIndex := 122, attributes := #[] }])
  fields := #[{ name := "$assertionsDisabled", type := .boolean, accessFlags := 4120, slot := 0, constantValue := 0 }]
  methods := #[k13m0, k13m1]
  instanceTypes := #[]
  staticTypes := #[.boolean]
  resolved := Array.replicate 395 none
  statics := none }

def pool14 : Array CpInfo := pool [(2, .class_ 4), (1, u "java/lang/Object"), (0, u "<init>"), (0, u "()V"), (35, .class_ 44), (1, u "java/util/Objects"), (0, u "requireNonNull"), (0, u "(Ljava/lang/Object;)Ljava/lang/Object;")] 137

def k14m0 : Method := { name := "<init>", desc := "()V", sig := { parameters := [], returnType := none }, accessFlags := 2, code := none }
def k14c1 : Code := { maxStack := 2, maxLocals := 1, code := jdk_31_method_10_code, exceptionTable := #[], attributes := #[] }
def k14m1 : Method := { name := "requireNonNull", desc := "(Ljava/lang/Object;)Ljava/lang/Object;", sig := { parameters := [(.object "java/lang/Object")], returnType := some (.object "java/lang/Object") }, accessFlags := 9, code := some k14c1 }
/-- java/util/Objects -/
def k14 : Class := { plain "java/util/Objects" (some 0) with
  accessFlags := 49
  interfaces := #[]
  cf := some (fileOf pool14 42 #[] #[{ accessFlags := 2, nameIndex := 5, descriptorIndex := 6, attributes := #[] }, { accessFlags := 9, nameIndex := 45, descriptorIndex := 46, attributes := #[] }] 49 2 #[] #[])
  fields := #[]
  methods := #[k14m0, k14m1]
  instanceTypes := #[]
  staticTypes := #[]
  resolved := Array.replicate 184 none
  statics := none }

def pool15 : Array CpInfo := pool [(2, .class_ 4), (1, u "java/lang/Object"), (0, u "<init>"), (0, u "()V"), (17, .class_ 26), (1, u "jdk/internal/util/Preconditions"), (28, .class_ 56), (0, u "jdk/internal/util/Preconditions$4"), (57, .class_ 115), (0, u "jdk/internal/util/Preconditions$1"), (7, u "SIOOBE_FORMATTER"), (0, u "Ljava/util/function/BiFunction;"), (0, .class_ 126), (0, u "jdk/internal/util/Preconditions$2"), (3, u "AIOOBE_FORMATTER"), (0, .class_ 132), (0, u "jdk/internal/util/Preconditions$3"), (3, u "IOOBE_FORMATTER")] 57

def k15m0 : Method := { name := "<init>", desc := "()V", sig := { parameters := [], returnType := none }, accessFlags := 1, code := none }
/-- jdk/internal/util/Preconditions -/
def k15 : Class := { plain "jdk/internal/util/Preconditions" (some 0) with
  accessFlags := 33
  interfaces := #[]
  cf := some (fileOf pool15 24 #[.nestMembers #[55, 131, 125, 114]] #[{ accessFlags := 1, nameIndex := 5, descriptorIndex := 6, attributes := #[] }] 33 2 #[] #[{ accessFlags := 25, nameIndex := 123, descriptorIndex := 124, attributes := #[] }, { accessFlags := 25, nameIndex := 130, descriptorIndex := 124, attributes := #[] }, { accessFlags := 25, nameIndex := 136, descriptorIndex := 124, attributes := #[] }])
  fields := #[{ name := "SIOOBE_FORMATTER", type := (.object "java/util/function/BiFunction"), accessFlags := 25, slot := 0, constantValue := 0 }, { name := "AIOOBE_FORMATTER", type := (.object "java/util/function/BiFunction"), accessFlags := 25, slot := 1, constantValue := 0 }, { name := "IOOBE_FORMATTER", type := (.object "java/util/function/BiFunction"), accessFlags := 25, slot := 2, constantValue := 0 }]
  methods := #[k15m0]
  instanceTypes := #[]
  staticTypes := #[(.object "java/util/function/BiFunction"), (.object "java/util/function/BiFunction"), (.object "java/util/function/BiFunction")]
  resolved := Array.replicate 194 none
  statics := some 3 }

def pool16 : Array CpInfo := pool [(9, u "<init>"), (6, .class_ 18), (1, u "java/lang/Object"), (0, u "()V"), (1, .class_ 23), (1, u "jdk/internal/util/ArraysSupport"), (0, u "LOG2_ARRAY_LONG_INDEX_SCALE"), (0, u "I"), (2, u "U"), (0, u "Ljdk/internal/misc/Unsafe;"), (8, u "BIG_ENDIAN"), (0, u "Z"), (8, u "LOG2_BYTE_BIT_SIZE"), (4, u "LOG2_ARRAY_INT_INDEX_SCALE"), (54, u "JLA"), (0, u "Ljdk/internal/access/JavaLangAccess;"), (11, u "LOG2_ARRAY_BOOLEAN_INDEX_SCALE"), (9, u "LOG2_ARRAY_BYTE_INDEX_SCALE"), (5, u "LOG2_ARRAY_CHAR_INDEX_SCALE"), (5, u "LOG2_ARRAY_SHORT_INDEX_SCALE"), (18, u "LOG2_ARRAY_FLOAT_INDEX_SCALE"), (24, u "LOG2_ARRAY_DOUBLE_INDEX_SCALE"), (89, u "T_BOOLEAN"), (2, u "T_CHAR"), (1, u "T_FLOAT"), (1, u "T_DOUBLE"), (1, u "T_BYTE"), (1, u "T_SHORT"), (1, u "T_INT"), (1, u "T_LONG"), (1, u "SOFT_MAX_ARRAY_LENGTH")] 83

def k16m0 : Method := { name := "<init>", desc := "()V", sig := { parameters := [], returnType := none }, accessFlags := 2, code := none }
/-- jdk/internal/util/ArraysSupport -/
def k16 : Class := { plain "jdk/internal/util/ArraysSupport" (some 0) with
  accessFlags := 33
  interfaces := #[]
  cf := some (fileOf pool16 21 #[] #[{ accessFlags := 2, nameIndex := 9, descriptorIndex := 19, attributes := #[] }] 33 16 #[] #[{ accessFlags := 24, nameIndex := 28, descriptorIndex := 29, attributes := #[] }, { accessFlags := 26, nameIndex := 38, descriptorIndex := 39, attributes := #[] }, { accessFlags := 25, nameIndex := 121, descriptorIndex := 25, attributes := #[] }, { accessFlags := 25, nameIndex := 131, descriptorIndex := 25, attributes := #[] }, { accessFlags := 25, nameIndex := 137, descriptorIndex := 25, attributes := #[] }, { accessFlags := 25, nameIndex := 143, descriptorIndex := 25, attributes := #[] }, { accessFlags := 25, nameIndex := 53, descriptorIndex := 25, attributes := #[] }, { accessFlags := 25, nameIndex := 24, descriptorIndex := 25, attributes := #[] }, { accessFlags := 25, nameIndex := 162, descriptorIndex := 25, attributes := #[] }, { accessFlags := 25, nameIndex := 187, descriptorIndex := 25, attributes := #[] }, { accessFlags := 26, nameIndex := 48, descriptorIndex := 25, attributes := #[] }, { accessFlags := 25, nameIndex := 277, descriptorIndex := 25, attributes := #[] }, { accessFlags := 25, nameIndex := 280, descriptorIndex := 25, attributes := #[] }, { accessFlags := 25, nameIndex := 282, descriptorIndex := 25, attributes := #[] }, { accessFlags := 25, nameIndex := 284, descriptorIndex := 25, attributes := #[] }, { accessFlags := 25, nameIndex := 286, descriptorIndex := 25, attributes := #[] }, { accessFlags := 25, nameIndex := 288, descriptorIndex := 25, attributes := #[] }, { accessFlags := 25, nameIndex := 290, descriptorIndex := 25, attributes := #[] }, { accessFlags := 25, nameIndex := 292, descriptorIndex := 25, attributes := #[] }, { accessFlags := 26, nameIndex := 108, descriptorIndex := 109, attributes := #[] }, { accessFlags := 25, nameIndex := 294, descriptorIndex := 25, attributes := #[] }])
  fields := #[{ name := "U", type := (.object "jdk/internal/misc/Unsafe"), accessFlags := 24, slot := 0, constantValue := 0 }, { name := "BIG_ENDIAN", type := .boolean, accessFlags := 26, slot := 1, constantValue := 0 }, { name := "LOG2_ARRAY_BOOLEAN_INDEX_SCALE", type := .int, accessFlags := 25, slot := 2, constantValue := 0 }, { name := "LOG2_ARRAY_BYTE_INDEX_SCALE", type := .int, accessFlags := 25, slot := 3, constantValue := 0 }, { name := "LOG2_ARRAY_CHAR_INDEX_SCALE", type := .int, accessFlags := 25, slot := 4, constantValue := 0 }, { name := "LOG2_ARRAY_SHORT_INDEX_SCALE", type := .int, accessFlags := 25, slot := 5, constantValue := 0 }, { name := "LOG2_ARRAY_INT_INDEX_SCALE", type := .int, accessFlags := 25, slot := 6, constantValue := 0 }, { name := "LOG2_ARRAY_LONG_INDEX_SCALE", type := .int, accessFlags := 25, slot := 7, constantValue := 0 }, { name := "LOG2_ARRAY_FLOAT_INDEX_SCALE", type := .int, accessFlags := 25, slot := 8, constantValue := 0 }, { name := "LOG2_ARRAY_DOUBLE_INDEX_SCALE", type := .int, accessFlags := 25, slot := 9, constantValue := 0 }, { name := "LOG2_BYTE_BIT_SIZE", type := .int, accessFlags := 26, slot := 10, constantValue := 0 }, { name := "T_BOOLEAN", type := .int, accessFlags := 25, slot := 11, constantValue := 0 }, { name := "T_CHAR", type := .int, accessFlags := 25, slot := 12, constantValue := 0 }, { name := "T_FLOAT", type := .int, accessFlags := 25, slot := 13, constantValue := 0 }, { name := "T_DOUBLE", type := .int, accessFlags := 25, slot := 14, constantValue := 0 }, { name := "T_BYTE", type := .int, accessFlags := 25, slot := 15, constantValue := 0 }, { name := "T_SHORT", type := .int, accessFlags := 25, slot := 16, constantValue := 0 }, { name := "T_INT", type := .int, accessFlags := 25, slot := 17, constantValue := 0 }, { name := "T_LONG", type := .int, accessFlags := 25, slot := 18, constantValue := 0 }, { name := "JLA", type := (.object "jdk/internal/access/JavaLangAccess"), accessFlags := 26, slot := 19, constantValue := 0 }, { name := "SOFT_MAX_ARRAY_LENGTH", type := .int, accessFlags := 25, slot := 20, constantValue := 0 }]
  methods := #[k16m0]
  instanceTypes := #[]
  staticTypes := #[(.object "jdk/internal/misc/Unsafe"), .boolean, .int, .int, .int, .int, .int, .int, .int, .int, .int, .int, .int, .int, .int, .int, .int, .int, .int, (.object "jdk/internal/access/JavaLangAccess"), .int]
  resolved := Array.replicate 378 none
  statics := none }

/-- the primitive byte -/
def k17 : Class := { plain "byte" none with kind := .primitive 'B', accessFlags := 0x411 }
/-- [B -/
def k18 : Class := { plain "[B" (some 0) with kind := .array 17 .byte, interfaces := #[7, 4], accessFlags := 1041 }

/-- the primitive char -/
def k19 : Class := { plain "char" none with kind := .primitive 'C', accessFlags := 0x411 }
/-- [C -/
def k20 : Class := { plain "[C" (some 0) with kind := .array 19 .char, interfaces := #[7, 4], accessFlags := 1041 }

/-- the primitive int -/
def k21 : Class := { plain "int" none with kind := .primitive 'I', accessFlags := 0x411 }
/-- [I -/
def k22 : Class := { plain "[I" (some 0) with kind := .array 21 .int, interfaces := #[7, 4], accessFlags := 1041 }

/-- [Lcom/example/mapwright/mapwright/sql/Dialect; -/
def k23 : Class := { plain "[Lcom/example/mapwright/mapwright/sql/Dialect;" (some 0) with kind := .array 6 (.object "com/example/mapwright/mapwright/sql/Dialect"), interfaces := #[7, 4], accessFlags := 1041 }

def heap : Heap := #[{ cls := 6, slots := #[.ref 9, .ref 10, .ref 4], vm := .statics 6 },
  { cls := 10, slots := #[.long 0, .int 1, .null, .int 0, .null, .int 0, .int 0], vm := .statics 10 },
  { cls := 11, slots := #[.ref 11], vm := .statics 11 },
  { cls := 15, slots := #[.null, .null, .null], vm := .statics 15 },
  { cls := 23, slots := #[.ref 9, .ref 10], vm := .none },
  { cls := 18, slots := #[.int 112, .int 111, .int 115, .int 116, .int 103, .int 114, .int 101, .int 115, .int 113, .int 108], vm := .none },
  { cls := 18, slots := #[.int 109, .int 97, .int 114, .int 105, .int 97, .int 100, .int 98], vm := .none },
  { cls := 10, slots := #[.ref 5, .int 0, .int 0, .int 0], vm := .none },
  { cls := 10, slots := #[.ref 6, .int 0, .int 0, .int 0], vm := .none },
  { cls := 6, slots := #[.null, .int 0, .int 0, .ref 7, .int 34, .null], vm := .none },
  { cls := 6, slots := #[.null, .int 1, .int 0, .ref 8, .int 96, .null], vm := .none },
  { cls := 11, slots := #[.null], vm := .none }]
def classes : Array Class := #[k0, k1, k2, k3, k4, k5, k6, k7, k8, k9, k10, k11, k12, k13, k14, k15, k16, k17, k18, k19, k20, k21, k22, k23]
def interned : List (Array UInt16 × Addr) := []
def slotsUsed : Nat := 54
def theMethod : MethodId := ⟨1, 1⟩
def args0 : Array Value := #[.int 5, .int 7, .int 1, .int 2]
def aboutOver (below : List Frame) : State where
  vm := { classes := classes, interned := interned.toArray }
  heap := heap
  slotsUsed := slotsUsed
  threads := #[{ frames := .invoking theMethod args0 :: below }]
def below0 : List Frame := [.native { method := ⟨0, 0⟩, args := #[] }]
def about1 : State := aboutOver below0
def p0 : Program := .bare "" "" ""
def e0 : Env := launch0.env 0 0 0
theorem w_frames : about1.frames = Frame.invoking theMethod args0 :: below0 := rfl
set_option maxRecDepth 65536 in
theorem w_args : argsFit about1.vm theMethod args0 = true := by decide +kernel
set_option maxRecDepth 65536 in
theorem w_heap : heapFits about1 = true := by decide +kernel
set_option maxRecDepth 65536 in
theorem w_runnable : about1.curStatus? = some .runnable := by decide +kernel
set_option maxRecDepth 65536 in
theorem w_alone : about1.alone = true := by decide +kernel
set_option maxRecDepth 65536 in
theorem w_named : about1.methodNamed? x = some theMethod := by decide +kernel
set_option maxRecDepth 65536 in
theorem w_hears : about1.hears theMethod below0 = true := by decide +kernel
set_option maxRecDepth 65536 in
theorem w_ripe : about1.ripe theMethod args0 below0 = true := by decide +kernel
theorem w_running : about1.status = .running := rfl
set_option maxRecDepth 65536 in
theorem w_room : about1.hasRoom e0.platform room_1 = true :=
  launch0.hasRoom_least _ room_1 (by decide +kernel) (by decide +kernel) (by decide +kernel) (by decide +kernel) (by decide +kernel) (by decide +kernel)
theorem allAtoms_all (ts : List Jvm.Cond) (a : Array Jvm.Value) (st : Jvm.State) : (allAtoms ts).before a st = ts.all (fun c => c.before a st) := by
  induction ts with
  | nil => rfl
  | cons c t ih =>
    show (Jvm.Cond.and c (allAtoms t)).before a st = _
    rw [Jvm.Cond.before_and, ih, List.all_cons]
def words1 : List Jvm.Cond := Jvm.Cond.code x code maxLocals ret :: tables_1
/-- a 'code' word, met by the world's own term for the bytes: nothing is compared byte by byte -/
theorem code_word {y : MethodName} {bytes : ByteArray} {mx : Nat} {rt : Option FieldType} {a : Array Value} {s : State} {m : MethodId} {meth : Method} {c : Code} (h1 : s.methodNamed? y = some m) (h2 : s.vm.method? m = some meth) (h3 : meth.code = some c) (h4 : c.code = bytes)
    (h5 : (c.maxLocals == mx && c.exceptionTable.isEmpty && decide (c.maxStack ≤ mostOperands) && decide (meth.sig.returnType = rt) && !meth.locks && decide (parseMethodDescriptor y.desc = some meth.sig)) = true) : (Jvm.Cond.code y bytes mx rt).before a s = true := by
  simp only [Bool.and_eq_true, beq_iff_eq, Bool.not_eq_true', decide_eq_true_eq] at h5
  obtain ⟨⟨⟨⟨⟨g1, g2⟩, g3⟩, g4⟩, g5⟩, g6⟩ := h5
  simp [Cond.before, Cond.holds, Cond.value, h1, h2, h3, h4, g1, g2, g3, g4, g5, g6]
def isCode : Jvm.Cond → Bool
  | .code _ _ _ _ => true
  | _ => false
theorem all_split {L : List Jvm.Cond} {P : Jvm.Cond → Bool} (h1 : L.all (fun c => isCode c || P c) = true) (h2 : ∀ c ∈ L.filter isCode, P c = true) : L.all P = true := by
  refine List.all_eq_true.mpr fun c hc => ?_
  have h := List.all_eq_true.mp h1 c hc
  rcases Bool.eq_false_or_eq_true (isCode c) with hi | hi
  · exact h2 c (List.mem_filter.mpr ⟨hc, hi⟩)
  · simpa [hi] using h
set_option maxRecDepth 65536 in
theorem w_c0 : (Jvm.Cond.code x code maxLocals ret).before args0 about1 = true := code_word (m := ⟨1, 1⟩) (meth := k1m1) (c := k1c1) (by decide +kernel) rfl rfl rfl (by decide +kernel)
set_option maxRecDepth 65536 in
theorem w_c1 : (Jvm.Cond.code ({ cls := "com/example/mapwright/mapwright/sql/Dialect", name := "forSettingValue", desc := "(Ljava/lang/String;)Ljava/util/Optional;" } : Jvm.MethodName) prog_116_method_5_code (5 : Nat) (Option.some (Jvm.ClassFile.FieldType.object "java/util/Optional"))).before args0 about1 = true := code_word (m := ⟨6, 2⟩) (meth := k6m2) (c := k6c2) (by decide +kernel) rfl rfl rfl (by decide +kernel)
set_option maxRecDepth 65536 in
theorem w_c2 : (Jvm.Cond.code ({ cls := "com/example/mapwright/mapwright/sql/Dialect", name := "values", desc := "()[Lcom/example/mapwright/mapwright/sql/Dialect;" } : Jvm.MethodName) prog_116_method_1_code (0 : Nat) (Option.some (Jvm.ClassFile.FieldType.array (Jvm.ClassFile.FieldType.object "com/example/mapwright/mapwright/sql/Dialect")))).before args0 about1 = true := code_word (m := ⟨6, 0⟩) (meth := k6m0) (c := k6c0) (by decide +kernel) rfl rfl rfl (by decide +kernel)
set_option maxRecDepth 65536 in
theorem w_c3 : (Jvm.Cond.code ({ cls := "java/lang/String", name := "equals", desc := "(Ljava/lang/Object;)Z" } : Jvm.MethodName) jdk_42_method_66_code (3 : Nat) (Option.some Jvm.ClassFile.FieldType.boolean)).before args0 about1 = true := code_word (m := ⟨10, 2⟩) (meth := k10m2) (c := k10c2) (by decide +kernel) rfl rfl rfl (by decide +kernel)
set_option maxRecDepth 65536 in
theorem w_c4 : (Jvm.Cond.code ({ cls := "java/util/Optional", name := "empty", desc := "()Ljava/util/Optional;" } : Jvm.MethodName) jdk_32_method_1_code (1 : Nat) (Option.some (Jvm.ClassFile.FieldType.object "java/util/Optional"))).before args0 about1 = true := code_word (m := ⟨11, 0⟩) (meth := k11m0) (c := k11c0) (by decide +kernel) rfl rfl rfl (by decide +kernel)
set_option maxRecDepth 65536 in
theorem w_c5 : (Jvm.Cond.code ({ cls := "java/util/Optional", name := "orElse", desc := "(Ljava/lang/Object;)Ljava/lang/Object;" } : Jvm.MethodName) jdk_32_method_15_code (2 : Nat) (Option.some (Jvm.ClassFile.FieldType.object "java/lang/Object"))).before args0 about1 = true := code_word (m := ⟨11, 3⟩) (meth := k11m3) (c := k11c3) (by decide +kernel) rfl rfl rfl (by decide +kernel)
set_option maxRecDepth 65536 in
theorem w_c6 : (Jvm.Cond.code ({ cls := "java/lang/String", name := "<init>", desc := "([C)V" } : Jvm.MethodName) jdk_42_method_3_code (2 : Nat) (Option.none : Option Jvm.ClassFile.FieldType)).before args0 about1 = true := code_word (m := ⟨10, 1⟩) (meth := k10m1) (c := k10c1) (by decide +kernel) rfl rfl rfl (by decide +kernel)
set_option maxRecDepth 65536 in
theorem w_c7 : (Jvm.Cond.code ({ cls := "java/lang/String", name := "<init>", desc := "([CIILjava/lang/Void;)V" } : Jvm.MethodName) jdk_42_method_149_code (6 : Nat) (Option.none : Option Jvm.ClassFile.FieldType)).before args0 about1 = true := code_word (m := ⟨10, 3⟩) (meth := k10m3) (c := k10c3) (by decide +kernel) rfl rfl rfl (by decide +kernel)
set_option maxRecDepth 65536 in
theorem w_c8 : (Jvm.Cond.code ({ cls := "java/lang/Object", name := "<init>", desc := "()V" } : Jvm.MethodName) object_method_1_code (1 : Nat) (Option.none : Option Jvm.ClassFile.FieldType)).before args0 about1 = true := code_word (m := ⟨0, 0⟩) (meth := k0m0) (c := k0c0) (by decide +kernel) rfl rfl rfl (by decide +kernel)
set_option maxRecDepth 65536 in
theorem w_c9 : (Jvm.Cond.code ({ cls := "java/lang/StringUTF16", name := "compress", desc := "([CII)[B" } : Jvm.MethodName) jdk_52_method_16_code (6 : Nat) (Option.some (Jvm.ClassFile.FieldType.array Jvm.ClassFile.FieldType.byte))).before args0 about1 = true := code_word (m := ⟨12, 2⟩) (meth := k12m2) (c := k12c2) (by decide +kernel) rfl rfl rfl (by decide +kernel)
set_option maxRecDepth 65536 in
theorem w_c10 : (Jvm.Cond.code ({ cls := "java/lang/StringUTF16", name := "compress", desc := "([CI[BII)I" } : Jvm.MethodName) jdk_52_method_21_code (7 : Nat) (Option.some Jvm.ClassFile.FieldType.int)).before args0 about1 = true := code_word (m := ⟨12, 3⟩) (meth := k12m3) (c := k12c3) (by decide +kernel) rfl rfl rfl (by decide +kernel)
set_option maxRecDepth 65536 in
theorem w_c11 : (Jvm.Cond.code ({ cls := "java/lang/StringUTF16", name := "coderFromArrayLen", desc := "([BI)B" } : Jvm.MethodName) jdk_52_method_15_code (2 : Nat) (Option.some Jvm.ClassFile.FieldType.byte)).before args0 about1 = true := code_word (m := ⟨12, 1⟩) (meth := k12m1) (c := k12c1) (by decide +kernel) rfl rfl rfl (by decide +kernel)
set_option maxRecDepth 65536 in
theorem w_c12 : (Jvm.Cond.code ({ cls := "java/lang/StringLatin1", name := "equals", desc := "([B[B)Z" } : Jvm.MethodName) jdk_43_method_13_code (3 : Nat) (Option.some Jvm.ClassFile.FieldType.boolean)).before args0 about1 = true := code_word (m := ⟨13, 1⟩) (meth := k13m1) (c := k13c1) (by decide +kernel) rfl rfl rfl (by decide +kernel)
set_option maxRecDepth 65536 in
theorem w_c13 : (Jvm.Cond.code ({ cls := "java/util/Optional", name := "of", desc := "(Ljava/lang/Object;)Ljava/util/Optional;" } : Jvm.MethodName) jdk_32_method_3_code (1 : Nat) (Option.some (Jvm.ClassFile.FieldType.object "java/util/Optional"))).before args0 about1 = true := code_word (m := ⟨11, 2⟩) (meth := k11m2) (c := k11c2) (by decide +kernel) rfl rfl rfl (by decide +kernel)
set_option maxRecDepth 65536 in
theorem w_c14 : (Jvm.Cond.code ({ cls := "java/util/Objects", name := "requireNonNull", desc := "(Ljava/lang/Object;)Ljava/lang/Object;" } : Jvm.MethodName) jdk_31_method_10_code (1 : Nat) (Option.some (Jvm.ClassFile.FieldType.object "java/lang/Object"))).before args0 about1 = true := code_word (m := ⟨14, 1⟩) (meth := k14m1) (c := k14c1) (by decide +kernel) rfl rfl rfl (by decide +kernel)
set_option maxRecDepth 65536 in
theorem w_c15 : (Jvm.Cond.code ({ cls := "java/util/Optional", name := "<init>", desc := "(Ljava/lang/Object;)V" } : Jvm.MethodName) jdk_32_method_2_code (2 : Nat) (Option.none : Option Jvm.ClassFile.FieldType)).before args0 about1 = true := code_word (m := ⟨11, 1⟩) (meth := k11m1) (c := k11c1) (by decide +kernel) rfl rfl rfl (by decide +kernel)
set_option maxRecDepth 65536 in
theorem w_c16 : (Jvm.Cond.code ({ cls := "com/example/mapwright/mapwright/sql/Dialect", name := "settingValue", desc := "()Ljava/lang/String;" } : Jvm.MethodName) prog_116_method_4_code (1 : Nat) (Option.some (Jvm.ClassFile.FieldType.object "java/lang/String"))).before args0 about1 = true := code_word (m := ⟨6, 1⟩) (meth := k6m1) (c := k6c1) (by decide +kernel) rfl rfl rfl (by decide +kernel)
def codes1 : List Jvm.Cond := [Jvm.Cond.code x code maxLocals ret, Jvm.Cond.code ({ cls := "com/example/mapwright/mapwright/sql/Dialect", name := "forSettingValue", desc := "(Ljava/lang/String;)Ljava/util/Optional;" } : Jvm.MethodName) prog_116_method_5_code (5 : Nat) (Option.some (Jvm.ClassFile.FieldType.object "java/util/Optional")), Jvm.Cond.code ({ cls := "com/example/mapwright/mapwright/sql/Dialect", name := "values", desc := "()[Lcom/example/mapwright/mapwright/sql/Dialect;" } : Jvm.MethodName) prog_116_method_1_code (0 : Nat) (Option.some (Jvm.ClassFile.FieldType.array (Jvm.ClassFile.FieldType.object "com/example/mapwright/mapwright/sql/Dialect"))), Jvm.Cond.code ({ cls := "java/lang/String", name := "equals", desc := "(Ljava/lang/Object;)Z" } : Jvm.MethodName) jdk_42_method_66_code (3 : Nat) (Option.some Jvm.ClassFile.FieldType.boolean), Jvm.Cond.code ({ cls := "java/util/Optional", name := "empty", desc := "()Ljava/util/Optional;" } : Jvm.MethodName) jdk_32_method_1_code (1 : Nat) (Option.some (Jvm.ClassFile.FieldType.object "java/util/Optional")), Jvm.Cond.code ({ cls := "java/util/Optional", name := "orElse", desc := "(Ljava/lang/Object;)Ljava/lang/Object;" } : Jvm.MethodName) jdk_32_method_15_code (2 : Nat) (Option.some (Jvm.ClassFile.FieldType.object "java/lang/Object")), Jvm.Cond.code ({ cls := "java/lang/String", name := "<init>", desc := "([C)V" } : Jvm.MethodName) jdk_42_method_3_code (2 : Nat) (Option.none : Option Jvm.ClassFile.FieldType), Jvm.Cond.code ({ cls := "java/lang/String", name := "<init>", desc := "([CIILjava/lang/Void;)V" } : Jvm.MethodName) jdk_42_method_149_code (6 : Nat) (Option.none : Option Jvm.ClassFile.FieldType), Jvm.Cond.code ({ cls := "java/lang/Object", name := "<init>", desc := "()V" } : Jvm.MethodName) object_method_1_code (1 : Nat) (Option.none : Option Jvm.ClassFile.FieldType), Jvm.Cond.code ({ cls := "java/lang/StringUTF16", name := "compress", desc := "([CII)[B" } : Jvm.MethodName) jdk_52_method_16_code (6 : Nat) (Option.some (Jvm.ClassFile.FieldType.array Jvm.ClassFile.FieldType.byte)), Jvm.Cond.code ({ cls := "java/lang/StringUTF16", name := "compress", desc := "([CI[BII)I" } : Jvm.MethodName) jdk_52_method_21_code (7 : Nat) (Option.some Jvm.ClassFile.FieldType.int), Jvm.Cond.code ({ cls := "java/lang/StringUTF16", name := "coderFromArrayLen", desc := "([BI)B" } : Jvm.MethodName) jdk_52_method_15_code (2 : Nat) (Option.some Jvm.ClassFile.FieldType.byte), Jvm.Cond.code ({ cls := "java/lang/StringLatin1", name := "equals", desc := "([B[B)Z" } : Jvm.MethodName) jdk_43_method_13_code (3 : Nat) (Option.some Jvm.ClassFile.FieldType.boolean), Jvm.Cond.code ({ cls := "java/util/Optional", name := "of", desc := "(Ljava/lang/Object;)Ljava/util/Optional;" } : Jvm.MethodName) jdk_32_method_3_code (1 : Nat) (Option.some (Jvm.ClassFile.FieldType.object "java/util/Optional")), Jvm.Cond.code ({ cls := "java/util/Objects", name := "requireNonNull", desc := "(Ljava/lang/Object;)Ljava/lang/Object;" } : Jvm.MethodName) jdk_31_method_10_code (1 : Nat) (Option.some (Jvm.ClassFile.FieldType.object "java/lang/Object")), Jvm.Cond.code ({ cls := "java/util/Optional", name := "<init>", desc := "(Ljava/lang/Object;)V" } : Jvm.MethodName) jdk_32_method_2_code (2 : Nat) (Option.none : Option Jvm.ClassFile.FieldType), Jvm.Cond.code ({ cls := "com/example/mapwright/mapwright/sql/Dialect", name := "settingValue", desc := "()Ljava/lang/String;" } : Jvm.MethodName) prog_116_method_4_code (1 : Nat) (Option.some (Jvm.ClassFile.FieldType.object "java/lang/String"))]
set_option maxRecDepth 65536 in
theorem codes_eq : words1.filter isCode = codes1 := rfl
theorem w_codes : ∀ c ∈ words1.filter isCode, c.before args0 about1 = true := by
  rw [codes_eq]
  intro c hc
  simp only [codes1, List.mem_cons, List.not_mem_nil, or_false] at hc
  rcases hc with rfl | rfl | rfl | rfl | rfl | rfl | rfl | rfl | rfl | rfl | rfl | rfl | rfl | rfl | rfl | rfl | rfl
  · exact w_c0
  · exact w_c1
  · exact w_c2
  · exact w_c3
  · exact w_c4
  · exact w_c5
  · exact w_c6
  · exact w_c7
  · exact w_c8
  · exact w_c9
  · exact w_c10
  · exact w_c11
  · exact w_c12
  · exact w_c13
  · exact w_c14
  · exact w_c15
  · exact w_c16
set_option maxRecDepth 65536 in
theorem w_t1 : (words1.take 24).all (fun c => isCode c || c.before args0 about1) = true := by decide +kernel
set_option maxRecDepth 65536 in
theorem w_t2 : ((words1.drop 24).take 24).all (fun c => isCode c || c.before args0 about1) = true := by decide +kernel
set_option maxRecDepth 65536 in
theorem w_t3 : (((words1.drop 24).drop 24).take 24).all (fun c => isCode c || c.before args0 about1) = true := by decide +kernel
set_option maxRecDepth 65536 in
theorem w_t4 : ((((words1.drop 24).drop 24).drop 24).take 24).all (fun c => isCode c || c.before args0 about1) = true := by decide +kernel
set_option maxRecDepth 65536 in
theorem w_t5 : ((((words1.drop 24).drop 24).drop 24).drop 24).all (fun c => isCode c || c.before args0 about1) = true := by decide +kernel
theorem w_tables : (allAtoms (Jvm.Cond.code x code maxLocals ret :: tables_1)).before args0 about1 = true := by
  rw [allAtoms_all]
  show words1.all (fun c => c.before args0 about1) = true
  refine all_split ?_ w_codes
  rw [← List.take_append_drop 24 words1, List.all_append, w_t1, ← List.take_append_drop 24 (words1.drop 24), List.all_append, w_t2, ← List.take_append_drop 24 ((words1.drop 24).drop 24), List.all_append, w_t3, ← List.take_append_drop 24 (((words1.drop 24).drop 24).drop 24), List.all_append, w_t4, w_t5]
  rfl
set_option maxRecDepth 65536 in
theorem w_rest : rest_1_c.before args0 about1 = true := by decide +kernel
set_option maxRecDepth 65536 in
theorem w_case : (Jvm.Cond.and given_1 narrow_1).before args0 about1 = true := by decide +kernel
set_option maxRecDepth 65536 in
theorem w_consts : constsHeld consts_1 about1 := Jvm.Lit.constsHeldB_iff.mp (by decide +kernel)
theorem w_applies : (headSpec (Jvm.Cond.code x code maxLocals ret :: tables_1) room_1).applies x e0.platform about1 = true :=
  (Spec.applies_iff w_frames).mpr ⟨w_running, w_runnable, w_alone, w_named, w_hears, w_ripe, w_room, w_tables⟩
theorem atStart : AtStart classFile x code maxLocals ret World_1 tables_1 room_1 Calls_1 rest_1 Pre_1 launch0 p0 e0 about1 theMethod args0 below0 :=
  ⟨lists_1, trivial, launch0.admits_env _ _ _, launch0.least_env, fairChoices_fair.cas, fairChoices_fair.clock, w_frames, w_args, w_heap, w_applies, ⟨w_consts, trivial⟩, w_rest, w_case⟩
end start1
theorem witness_1 : WitnessClaimed_1 := ⟨start1.p0, start1.e0, start1.about1, start1.theMethod, start1.args0, start1.below0, start1.atStart⟩
end Jvm.Pilot.@@N@@
