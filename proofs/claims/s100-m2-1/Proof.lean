import JvmDerived
import JvmDerived.Pilot.@@N@@Statement
import JvmDerived.Pilot.@@N@@Code
set_option linter.unusedVariables false
set_option linter.unusedSimpArgs false
namespace Jvm.Pilot.@@N@@
open Jvm Jvm.ClassFile Sem Op Lib Jvm.Free Jvm.Stand Jvm.LawKit Jvm.RoadKit Bundle Jvm.Pilot.@@N@@.Jvm.D
theorem tw {Z : State} {a0 : Array Value} (hw : ∀ d ∈ tables_1, d.before a0 Z = true) (i : Nat) {d : Jvm.Cond} (hd : tables_1[i]? = some d := by rfl) : d.before a0 Z = true := hw d (List.mem_of_getElem? hd)
abbrev own_Nar : Prop := True
abbrev own_EL : List (String × Nat) := []
section Own
variable {p : Program} {l : Launch} {e : Env} {R : Room} {s : State} {m : MethodId} {args : Array Value} {below : List Frame} {meth : Method} {c : Code} {Z : State} {a0 : Array Value} {y : MethodName} {bytes : ByteArray} {maxL : Nat} {ret : Option FieldType} {T : State} {h : Heap} {ce sl : Nat} {sf : List Addr} {G : State → Prop} {pc : Nat} {L : Array Slot} {S : List Value}
/-- where a walk stands: the state T, its heap h, what has been made, the cells that no constant books -/
def Wk (p : Program) (l : Launch) (e : Env) (R : Room) (s : State) (m : MethodId) (args : Array Value) (below : List Frame) (meth : Method) (c : Code) (Z : State) (y : MethodName) (bytes : ByteArray) (maxL : Nat) (ret : Option FieldType) (T : State) (h : Heap) (ce sl : Nat) (sf : List Addr) : Prop :=
  ∃ (vm0 : Vm) (k0 : Nat) (locs : List Loc), Stand p l e R (s.setVm vm0) m args below meth c T locs ce sl ∧ T.heap = h ∧ s.Since vm0 k0 ∧ k0 ≤ h.size ∧ Z.Warmed39 (s.setVm vm0).vm ∧ (s.setVm vm0).vm.findClass y.cls = some m.cls ∧ Fr Z.heap.size locs ∧ (own_Nar → s.WarmedH vm0) ∧ CHr Z own_EL s.vm s.heap vm0 h ∧ (∀ x ∈ sf, x < h.size ∧ Safe Z own_EL vm0 h x) ∧ Ext Z.heap h ∧ (∃ a1, EW Z a1 own_EL) ∧ p.tables.exec = Jvm.exec ∧ c.code = bytes ∧ c.maxLocals = maxL ∧ meth.name = y.name ∧ meth.sig.returnType = ret ∧ meth.locks = false
def Go (p : Program) (e : Env) (below : List Frame) (G : State → Prop) (T : State) (g : JFrame) : Prop := ∃ u, Steps p.tables e below (T.setTop g) u ∧ G u
theorem Go.st {T' : State} {g g' : JFrame} (K : Go p e below G T' g') (f : ∀ u, Steps p.tables e below (T'.setTop g') u → Steps p.tables e below (T.setTop g) u) : Go p e below G T g := by
  obtain ⟨u, k, q⟩ := K
  exact ⟨u, f u k, q⟩
theorem Go.cut {g g' : JFrame} (A : Go p e below G T g' → Go p e below G T g) (B : Go p e below G T g') : Go p e below G T g := A B
theorem Go.eq {g g' : JFrame} (K : Go p e below G T g') (q : g' = g) : Go p e below G T g := q ▸ K
theorem Go.cutW {g g' : JFrame} (W : Wk p l e R s m args below meth c Z y bytes maxL ret T h ce sl sf) (A : (∀ T', Wk p l e R s m args below meth c Z y bytes maxL ret T' h ce sl sf → Go p e below G T' g') → Go p e below G T g) (B : ∀ T', Wk p l e R s m args below meth c Z y bytes maxL ret T' h ce sl sf → Go p e below G T' g') : Go p e below G T g := A B
theorem own_ext_refl (h : Heap) : Ext h h := ⟨Nat.le_refl _, fun _ _ q => q⟩
theorem own_ext_trans {h h' h2 : Heap} (A : Ext h h') (B : Ext h' h2) : Ext h h2 := ⟨Nat.le_trans A.1 B.1, fun x c q => B.2 x c (A.2 x c q)⟩
theorem own_ext_wr {h0 h h' : Heap} {a : Addr} {i : Nat} {v : Value} (E : Ext h0 h) (W : Wr h h' a i v) (q : h0.size ≤ a) : Ext h0 h' := by
  refine ⟨Nat.le_trans E.1 (Nat.le_of_eq W.size.symm), fun x cc r => ?_⟩
  obtain ⟨c', e1, -, -, -, e5, -⟩ := wr_at W (E.2 x cc r)
  have hlt := (Array.getElem?_eq_some_iff.mp r).1
  rw [e1, e5 (Nat.ne_of_lt (Nat.lt_of_lt_of_le hlt q))]
theorem own_ext_keep {h0 h h' : Heap} {a : Addr} (E : Ext h0 h) (K : Keep h h' [a]) (q : h0.size ≤ a) : Ext h0 h' := ⟨Nat.le_trans E.1 K.1, fun x cc r => K.2.1 x cc (E.2 x cc r) fun z => by
  have hlt := (Array.getElem?_eq_some_iff.mp r).1
  rw [List.mem_singleton.mp z] at hlt; omega⟩
theorem own_ns_root {O K : String} {n : Nat} (w : (Jvm.Cond.noSuperclass O).before a0 Z = true) (wk : (Jvm.Cond.instantiable K n).before a0 Z = true) (hn : O ≠ K) : NS Z O K := by
  obtain ⟨c, k, h1, h2, h3, -, -⟩ := Cond.noSuperclass_spec w
  obtain ⟨t, kt, g1, -⟩ := Cond.instantiable_spec wk
  have ne := ids_ne h1 g1 hn
  refine ⟨c, t, h1, g1, fun fuel => ?_⟩
  cases fuel with
  | zero => rfl
  | succ f => simp [Vm.isSubclassAux, ne, h2, h3]
theorem own_ns_no {C S' K : String} {n : Nat} (w : (Jvm.Cond.superclass C S').before a0 Z = true) (wk : (Jvm.Cond.instantiable K n).before a0 Z = true) (N : NS Z C K) (hn : C ≠ K) : ∃ c t, Z.vm.findClass C = some c ∧ Z.vm.findClass K = some t ∧ Z.vm.assignable c t = false := by
  obtain ⟨c, t, h0, g0, n3⟩ := N
  obtain ⟨p, k, kp, h1, h2, h3, h4, h5, -, h7⟩ := Cond.superclass_spec h0 w
  obtain ⟨t', kt, g1, g2, g3, g4, -⟩ := Cond.instantiable_spec wk
  cases g0.symm.trans g1
  have g7 : kt.isInterface = false := by cases q : kt.isInterface <;> simp_all
  have ne := ids_ne h0 g0 hn
  refine ⟨c, t, h0, g0, ?_⟩
  show Z.vm.assignableAux (255 + 1) c t = false
  simp [Vm.assignableAux, ne, h2, g2, h5, g3, g7, Vm.isSubclass, n3]
theorem Wk.old (W : Wk p l e R s m args below meth c Z y bytes maxL ret T h ce sl sf) : Ext Z.heap h := by obtain ⟨vm0, k0, locs, X, eT, hS, hk, hZ, hown, hF, hN, hC, hsf, hE, ⟨a1, hEL⟩, hx, hby, hml, hnm, hrt, hlk⟩ := W; exact hE
theorem Wk.mono (W : Wk p l e R s m args below meth c Z y bytes maxL ret T h ce sl sf) {ce' sl' : Nat} (q : ce ≤ ce') (r : sl ≤ sl') : Wk p l e R s m args below meth c Z y bytes maxL ret T h ce' sl' sf := by
  obtain ⟨vm0, k0, locs, X, eT, hS, hk, hZ, hown, hF, hN, hC, hsf, hE, ⟨a1, hEL⟩, hx, hby, hml, hnm, hrt, hlk⟩ := W
  exact ⟨vm0, k0, locs, X.mono q r, eT, hS, hk, hZ, hown, hF, hN, hC, hsf, hE, ⟨a1, hEL⟩, hx, hby, hml, hnm, hrt, hlk⟩
theorem Wk.drop (W : Wk p l e R s m args below meth c Z y bytes maxL ret T h ce sl sf) {sf' : List Addr} (q : ∀ x ∈ sf', x ∈ sf) : Wk p l e R s m args below meth c Z y bytes maxL ret T h ce sl sf' := by
  obtain ⟨vm0, k0, locs, X, eT, hS, hk, hZ, hown, hF, hN, hC, hsf, hE, ⟨a1, hEL⟩, hx, hby, hml, hnm, hrt, hlk⟩ := W
  exact ⟨vm0, k0, locs, X, eT, hS, hk, hZ, hown, hF, hN, hC, fun x hx => hsf x (q x hx), hE, ⟨a1, hEL⟩, hx, hby, hml, hnm, hrt, hlk⟩
theorem o_iloadN (pc' : Nat) (W : Wk p l e R s m args below meth c Z y bytes maxL ret T h ce sl sf) {k : Fin 4} {v : Int32} (hd : decode bytes pc = .ok (.iload_n k, 1)) (hl : L[k.val]? = some (.val (.int v))) (K : Go p e below G T (mkF m pc' L (.int v :: S))) (hp : pc + 1 = pc' := by rfl) : Go p e below G T (mkF m pc L (S)) := by
  subst hp
  obtain ⟨vm0, k0, locs, X, eT, hS, hk, hZ, hown, hF, hN, hC, hsf, hE, ⟨a1, hEL⟩, hx, hby, hml, hnm, hrt, hlk⟩ := W
  subst hby
  exact K.st fun u k => XS.iloadN X.here hx rfl hd hl k
theorem o_iload (pc' : Nat) (W : Wk p l e R s m args below meth c Z y bytes maxL ret T h ce sl sf) {k : Nat} {v : Int32} (hd : decode bytes pc = .ok (.iload k, 2)) (hl : L[k]? = some (.val (.int v))) (K : Go p e below G T (mkF m pc' L (.int v :: S))) (hp : pc + 2 = pc' := by rfl) : Go p e below G T (mkF m pc L (S)) := by
  subst hp
  obtain ⟨vm0, k0, locs, X, eT, hS, hk, hZ, hown, hF, hN, hC, hsf, hE, ⟨a1, hEL⟩, hx, hby, hml, hnm, hrt, hlk⟩ := W
  subst hby
  exact K.st fun u k => XS.iload X.here hx rfl hd hl k
theorem o_lloadN (pc' : Nat) (W : Wk p l e R s m args below meth c Z y bytes maxL ret T h ce sl sf) {k : Fin 4} {v : Int64} (hd : decode bytes pc = .ok (.lload_n k, 1)) (hl : L[k.val]? = some (.val (.long v))) (K : Go p e below G T (mkF m pc' L (.long v :: S))) (hp : pc + 1 = pc' := by rfl) : Go p e below G T (mkF m pc L (S)) := by
  subst hp
  obtain ⟨vm0, k0, locs, X, eT, hS, hk, hZ, hown, hF, hN, hC, hsf, hE, ⟨a1, hEL⟩, hx, hby, hml, hnm, hrt, hlk⟩ := W
  subst hby
  exact K.st fun u k => XT.lloadN X.here hx rfl hd hl k
theorem o_lload (pc' : Nat) (W : Wk p l e R s m args below meth c Z y bytes maxL ret T h ce sl sf) {k : Nat} {v : Int64} (hd : decode bytes pc = .ok (.lload k, 2)) (hl : L[k]? = some (.val (.long v))) (K : Go p e below G T (mkF m pc' L (.long v :: S))) (hp : pc + 2 = pc' := by rfl) : Go p e below G T (mkF m pc L (S)) := by
  subst hp
  obtain ⟨vm0, k0, locs, X, eT, hS, hk, hZ, hown, hF, hN, hC, hsf, hE, ⟨a1, hEL⟩, hx, hby, hml, hnm, hrt, hlk⟩ := W
  subst hby
  exact K.st fun u k => XT.lload X.here hx rfl hd hl k
theorem o_aloadN (pc' : Nat) (W : Wk p l e R s m args below meth c Z y bytes maxL ret T h ce sl sf) {k : Fin 4} {v : Value} (hd : decode bytes pc = .ok (.aload_n k, 1)) (hl : L[k.val]? = some (.val v)) (hv : v.isRef = true) (K : Go p e below G T (mkF m pc' L (v :: S))) (hp : pc + 1 = pc' := by rfl) : Go p e below G T (mkF m pc L (S)) := by
  subst hp
  obtain ⟨vm0, k0, locs, X, eT, hS, hk, hZ, hown, hF, hN, hC, hsf, hE, ⟨a1, hEL⟩, hx, hby, hml, hnm, hrt, hlk⟩ := W
  subst hby
  exact K.st fun u k => XS.aloadN X.here hx rfl hd hl hv k
theorem o_aload (pc' : Nat) (W : Wk p l e R s m args below meth c Z y bytes maxL ret T h ce sl sf) {k : Nat} {v : Value} (hd : decode bytes pc = .ok (.aload k, 2)) (hl : L[k]? = some (.val v)) (hv : v.isRef = true) (K : Go p e below G T (mkF m pc' L (v :: S))) (hp : pc + 2 = pc' := by rfl) : Go p e below G T (mkF m pc L (S)) := by
  subst hp
  obtain ⟨vm0, k0, locs, X, eT, hS, hk, hZ, hown, hF, hN, hC, hsf, hE, ⟨a1, hEL⟩, hx, hby, hml, hnm, hrt, hlk⟩ := W
  subst hby
  exact K.st fun u k => XS.aload X.here hx rfl hd hl hv k
theorem o_istoreN (pc' : Nat) (W : Wk p l e R s m args below meth c Z y bytes maxL ret T h ce sl sf) {k : Fin 4} {v : Int32} (L' : Array Slot) (hd : decode bytes pc = .ok (.istore_n k, 1)) (hl : storeLocals L k.val (.int v) = some L') (K : Go p e below G T (mkF m pc' L' (S))) (hp : pc + 1 = pc' := by rfl) : Go p e below G T (mkF m pc L (.int v :: S)) := by
  subst hp
  obtain ⟨vm0, k0, locs, X, eT, hS, hk, hZ, hown, hF, hN, hC, hsf, hE, ⟨a1, hEL⟩, hx, hby, hml, hnm, hrt, hlk⟩ := W
  subst hby
  exact K.st fun u k => XS.istoreN X.here hx rfl hd rfl hl k
theorem o_istore (pc' : Nat) (W : Wk p l e R s m args below meth c Z y bytes maxL ret T h ce sl sf) {k : Nat} {v : Int32} (L' : Array Slot) (hd : decode bytes pc = .ok (.istore k, 2)) (hl : storeLocals L k (.int v) = some L') (K : Go p e below G T (mkF m pc' L' (S))) (hp : pc + 2 = pc' := by rfl) : Go p e below G T (mkF m pc L (.int v :: S)) := by
  subst hp
  obtain ⟨vm0, k0, locs, X, eT, hS, hk, hZ, hown, hF, hN, hC, hsf, hE, ⟨a1, hEL⟩, hx, hby, hml, hnm, hrt, hlk⟩ := W
  subst hby
  exact K.st fun u k => XS.istore X.here hx rfl hd rfl hl k
theorem o_lstoreN (pc' : Nat) (W : Wk p l e R s m args below meth c Z y bytes maxL ret T h ce sl sf) {k : Fin 4} {v : Int64} (L' : Array Slot) (hd : decode bytes pc = .ok (.lstore_n k, 1)) (hl : storeLocals L k.val (.long v) = some L') (K : Go p e below G T (mkF m pc' L' (S))) (hp : pc + 1 = pc' := by rfl) : Go p e below G T (mkF m pc L (.long v :: S)) := by
  subst hp
  obtain ⟨vm0, k0, locs, X, eT, hS, hk, hZ, hown, hF, hN, hC, hsf, hE, ⟨a1, hEL⟩, hx, hby, hml, hnm, hrt, hlk⟩ := W
  subst hby
  exact K.st fun u k => XT.lstoreN X.here hx rfl hd rfl hl k
theorem o_lstore (pc' : Nat) (W : Wk p l e R s m args below meth c Z y bytes maxL ret T h ce sl sf) {k : Nat} {v : Int64} (L' : Array Slot) (hd : decode bytes pc = .ok (.lstore k, 2)) (hl : storeLocals L k (.long v) = some L') (K : Go p e below G T (mkF m pc' L' (S))) (hp : pc + 2 = pc' := by rfl) : Go p e below G T (mkF m pc L (.long v :: S)) := by
  subst hp
  obtain ⟨vm0, k0, locs, X, eT, hS, hk, hZ, hown, hF, hN, hC, hsf, hE, ⟨a1, hEL⟩, hx, hby, hml, hnm, hrt, hlk⟩ := W
  subst hby
  exact K.st fun u k => XT.lstore X.here hx rfl hd rfl hl k
theorem o_astoreN (pc' : Nat) (W : Wk p l e R s m args below meth c Z y bytes maxL ret T h ce sl sf) {k : Fin 4} {v : Value} (L' : Array Slot) (hd : decode bytes pc = .ok (.astore_n k, 1)) (hv : v.isRef = true) (hl : storeLocals L k.val v = some L') (K : Go p e below G T (mkF m pc' L' (S))) (hp : pc + 1 = pc' := by rfl) : Go p e below G T (mkF m pc L (v :: S)) := by
  subst hp
  obtain ⟨vm0, k0, locs, X, eT, hS, hk, hZ, hown, hF, hN, hC, hsf, hE, ⟨a1, hEL⟩, hx, hby, hml, hnm, hrt, hlk⟩ := W
  subst hby
  exact K.st fun u k => XS.astoreN X.here hx rfl hd rfl hv hl k
theorem o_astore (pc' : Nat) (W : Wk p l e R s m args below meth c Z y bytes maxL ret T h ce sl sf) {k : Nat} {v : Value} (L' : Array Slot) (hd : decode bytes pc = .ok (.astore k, 2)) (hv : v.isRef = true) (hl : storeLocals L k v = some L') (K : Go p e below G T (mkF m pc' L' (S))) (hp : pc + 2 = pc' := by rfl) : Go p e below G T (mkF m pc L (v :: S)) := by
  subst hp
  obtain ⟨vm0, k0, locs, X, eT, hS, hk, hZ, hown, hF, hN, hC, hsf, hE, ⟨a1, hEL⟩, hx, hby, hml, hnm, hrt, hlk⟩ := W
  subst hby
  exact K.st fun u k => XS.astore X.here hx rfl hd rfl hv hl k
theorem o_iconst (pc' : Nat) (W : Wk p l e R s m args below meth c Z y bytes maxL ret T h ce sl sf) {i : Int} (v : Int32) (hd : decode bytes pc = .ok (.iconst i, 1)) (hv : Int32.ofInt i = v) (K : Go p e below G T (mkF m pc' L (.int v :: S))) (hp : pc + 1 = pc' := by rfl) : Go p e below G T (mkF m pc L (S)) := by
  subst hp
  obtain ⟨vm0, k0, locs, X, eT, hS, hk, hZ, hown, hF, hN, hC, hsf, hE, ⟨a1, hEL⟩, hx, hby, hml, hnm, hrt, hlk⟩ := W
  subst hby
  exact K.st fun u k => XT.iconstV X.here hx rfl v hd hv k
theorem o_bipush (pc' : Nat) (W : Wk p l e R s m args below meth c Z y bytes maxL ret T h ce sl sf) {i : Int} (v : Int32) (hd : decode bytes pc = .ok (.bipush i, 2)) (hv : (Int8.ofInt i).toInt32 = v) (K : Go p e below G T (mkF m pc' L (.int v :: S))) (hp : pc + 2 = pc' := by rfl) : Go p e below G T (mkF m pc L (S)) := by
  subst hp
  obtain ⟨vm0, k0, locs, X, eT, hS, hk, hZ, hown, hF, hN, hC, hsf, hE, ⟨a1, hEL⟩, hx, hby, hml, hnm, hrt, hlk⟩ := W
  subst hby
  exact K.st fun u k => XT.bipushV X.here hx rfl v hd hv k
theorem o_sipush (pc' : Nat) (W : Wk p l e R s m args below meth c Z y bytes maxL ret T h ce sl sf) {i : Int} (v : Int32) (hd : decode bytes pc = .ok (.sipush i, 3)) (hv : (Int16.ofInt i).toInt32 = v) (K : Go p e below G T (mkF m pc' L (.int v :: S))) (hp : pc + 3 = pc' := by rfl) : Go p e below G T (mkF m pc L (S)) := by
  subst hp
  obtain ⟨vm0, k0, locs, X, eT, hS, hk, hZ, hown, hF, hN, hC, hsf, hE, ⟨a1, hEL⟩, hx, hby, hml, hnm, hrt, hlk⟩ := W
  subst hby
  exact K.st fun u k => XT.sipushV X.here hx rfl v hd hv k
theorem o_lconst (pc' : Nat) (W : Wk p l e R s m args below meth c Z y bytes maxL ret T h ce sl sf) {i : Fin 2} (v : Int64) (hd : decode bytes pc = .ok (.lconst i, 1)) (hv : Int64.ofNat i = v) (K : Go p e below G T (mkF m pc' L (.long v :: S))) (hp : pc + 1 = pc' := by rfl) : Go p e below G T (mkF m pc L (S)) := by
  subst hp
  obtain ⟨vm0, k0, locs, X, eT, hS, hk, hZ, hown, hF, hN, hC, hsf, hE, ⟨a1, hEL⟩, hx, hby, hml, hnm, hrt, hlk⟩ := W
  subst hby
  exact K.st fun u k => XT.lconstV X.here hx rfl v hd hv k
theorem o_null (pc' : Nat) (W : Wk p l e R s m args below meth c Z y bytes maxL ret T h ce sl sf)  (hd : decode bytes pc = .ok (.aconst_null, 1))  (K : Go p e below G T (mkF m pc' L (.null :: S))) (hp : pc + 1 = pc' := by rfl) : Go p e below G T (mkF m pc L (S)) := by
  subst hp
  obtain ⟨vm0, k0, locs, X, eT, hS, hk, hZ, hown, hF, hN, hC, hsf, hE, ⟨a1, hEL⟩, hx, hby, hml, hnm, hrt, hlk⟩ := W
  subst hby
  exact K.st fun u k => XS.aconstNull X.here hx rfl hd  k
theorem o_iadd (pc' : Nat) (W : Wk p l e R s m args below meth c Z y bytes maxL ret T h ce sl sf) {x z : Int32} (hd : decode bytes pc = .ok (.iadd, 1))  (K : Go p e below G T (mkF m pc' L (.int (x + z) :: S))) (hp : pc + 1 = pc' := by rfl) : Go p e below G T (mkF m pc L (.int z :: .int x :: S)) := by
  subst hp
  obtain ⟨vm0, k0, locs, X, eT, hS, hk, hZ, hown, hF, hN, hC, hsf, hE, ⟨a1, hEL⟩, hx, hby, hml, hnm, hrt, hlk⟩ := W
  subst hby
  exact K.st fun u k => XS.iadd X.here hx rfl hd rfl k
theorem o_isub (pc' : Nat) (W : Wk p l e R s m args below meth c Z y bytes maxL ret T h ce sl sf) {x z : Int32} (hd : decode bytes pc = .ok (.isub, 1))  (K : Go p e below G T (mkF m pc' L (.int (x - z) :: S))) (hp : pc + 1 = pc' := by rfl) : Go p e below G T (mkF m pc L (.int z :: .int x :: S)) := by
  subst hp
  obtain ⟨vm0, k0, locs, X, eT, hS, hk, hZ, hown, hF, hN, hC, hsf, hE, ⟨a1, hEL⟩, hx, hby, hml, hnm, hrt, hlk⟩ := W
  subst hby
  exact K.st fun u k => XS.isub X.here hx rfl hd rfl k
theorem o_iand (pc' : Nat) (W : Wk p l e R s m args below meth c Z y bytes maxL ret T h ce sl sf) {x z : Int32} (hd : decode bytes pc = .ok (.iand, 1))  (K : Go p e below G T (mkF m pc' L (.int (x &&& z) :: S))) (hp : pc + 1 = pc' := by rfl) : Go p e below G T (mkF m pc L (.int z :: .int x :: S)) := by
  subst hp
  obtain ⟨vm0, k0, locs, X, eT, hS, hk, hZ, hown, hF, hN, hC, hsf, hE, ⟨a1, hEL⟩, hx, hby, hml, hnm, hrt, hlk⟩ := W
  subst hby
  exact K.st fun u k => XS.iand X.here hx rfl hd rfl k
theorem o_imul (pc' : Nat) (W : Wk p l e R s m args below meth c Z y bytes maxL ret T h ce sl sf) {x z : Int32} (hd : decode bytes pc = .ok (.imul, 1))  (K : Go p e below G T (mkF m pc' L (.int (x * z) :: S))) (hp : pc + 1 = pc' := by rfl) : Go p e below G T (mkF m pc L (.int z :: .int x :: S)) := by
  subst hp
  obtain ⟨vm0, k0, locs, X, eT, hS, hk, hZ, hown, hF, hN, hC, hsf, hE, ⟨a1, hEL⟩, hx, hby, hml, hnm, hrt, hlk⟩ := W
  subst hby
  exact K.st fun u k => XS.imul X.here hx rfl hd rfl k
theorem o_ior (pc' : Nat) (W : Wk p l e R s m args below meth c Z y bytes maxL ret T h ce sl sf) {x z : Int32} (hd : decode bytes pc = .ok (.ior, 1))  (K : Go p e below G T (mkF m pc' L (.int (x ||| z) :: S))) (hp : pc + 1 = pc' := by rfl) : Go p e below G T (mkF m pc L (.int z :: .int x :: S)) := by
  subst hp
  obtain ⟨vm0, k0, locs, X, eT, hS, hk, hZ, hown, hF, hN, hC, hsf, hE, ⟨a1, hEL⟩, hx, hby, hml, hnm, hrt, hlk⟩ := W
  subst hby
  exact K.st fun u k => XT.ior X.here hx rfl hd rfl k
theorem o_ishl (pc' : Nat) (W : Wk p l e R s m args below meth c Z y bytes maxL ret T h ce sl sf) {x z : Int32} (hd : decode bytes pc = .ok (.ishl, 1))  (K : Go p e below G T (mkF m pc' L (.int (x <<< (z &&& 31)) :: S))) (hp : pc + 1 = pc' := by rfl) : Go p e below G T (mkF m pc L (.int z :: .int x :: S)) := by
  subst hp
  obtain ⟨vm0, k0, locs, X, eT, hS, hk, hZ, hown, hF, hN, hC, hsf, hE, ⟨a1, hEL⟩, hx, hby, hml, hnm, hrt, hlk⟩ := W
  subst hby
  exact K.st fun u k => XT.ishl X.here hx rfl hd rfl k
theorem o_iushr (pc' : Nat) (W : Wk p l e R s m args below meth c Z y bytes maxL ret T h ce sl sf) {x z : Int32} (hd : decode bytes pc = .ok (.iushr, 1))  (K : Go p e below G T (mkF m pc' L (.int (XT.ushr x z) :: S))) (hp : pc + 1 = pc' := by rfl) : Go p e below G T (mkF m pc L (.int z :: .int x :: S)) := by
  subst hp
  obtain ⟨vm0, k0, locs, X, eT, hS, hk, hZ, hown, hF, hN, hC, hsf, hE, ⟨a1, hEL⟩, hx, hby, hml, hnm, hrt, hlk⟩ := W
  subst hby
  exact K.st fun u k => XT.iushr X.here hx rfl hd rfl k
theorem o_ishr (pc' : Nat) (W : Wk p l e R s m args below meth c Z y bytes maxL ret T h ce sl sf) {x z : Int32} (hd : decode bytes pc = .ok (.ishr, 1))  (K : Go p e below G T (mkF m pc' L (.int (x >>> (z &&& 31)) :: S))) (hp : pc + 1 = pc' := by rfl) : Go p e below G T (mkF m pc L (.int z :: .int x :: S)) := by
  subst hp
  obtain ⟨vm0, k0, locs, X, eT, hS, hk, hZ, hown, hF, hN, hC, hsf, hE, ⟨a1, hEL⟩, hx, hby, hml, hnm, hrt, hlk⟩ := W
  subst hby
  exact K.st fun u k => XT.ishr X.here hx rfl hd rfl k
theorem o_ladd (pc' : Nat) (W : Wk p l e R s m args below meth c Z y bytes maxL ret T h ce sl sf) {x z : Int64} (hd : decode bytes pc = .ok (.ladd, 1))  (K : Go p e below G T (mkF m pc' L (.long (x + z) :: S))) (hp : pc + 1 = pc' := by rfl) : Go p e below G T (mkF m pc L (.long z :: .long x :: S)) := by
  subst hp
  obtain ⟨vm0, k0, locs, X, eT, hS, hk, hZ, hown, hF, hN, hC, hsf, hE, ⟨a1, hEL⟩, hx, hby, hml, hnm, hrt, hlk⟩ := W
  subst hby
  exact K.st fun u k => XT.ladd X.here hx rfl hd rfl k
theorem o_land (pc' : Nat) (W : Wk p l e R s m args below meth c Z y bytes maxL ret T h ce sl sf) {x z : Int64} (hd : decode bytes pc = .ok (.land, 1))  (K : Go p e below G T (mkF m pc' L (.long (x &&& z) :: S))) (hp : pc + 1 = pc' := by rfl) : Go p e below G T (mkF m pc L (.long z :: .long x :: S)) := by
  subst hp
  obtain ⟨vm0, k0, locs, X, eT, hS, hk, hZ, hown, hF, hN, hC, hsf, hE, ⟨a1, hEL⟩, hx, hby, hml, hnm, hrt, hlk⟩ := W
  subst hby
  exact K.st fun u k => XT.land X.here hx rfl hd rfl k
theorem o_lushr (pc' : Nat) (W : Wk p l e R s m args below meth c Z y bytes maxL ret T h ce sl sf) {x : Int64} {z : Int32} (hd : decode bytes pc = .ok (.lushr, 1))  (K : Go p e below G T (mkF m pc' L (.long (XT.ushrL x z) :: S))) (hp : pc + 1 = pc' := by rfl) : Go p e below G T (mkF m pc L (.int z :: .long x :: S)) := by
  subst hp
  obtain ⟨vm0, k0, locs, X, eT, hS, hk, hZ, hown, hF, hN, hC, hsf, hE, ⟨a1, hEL⟩, hx, hby, hml, hnm, hrt, hlk⟩ := W
  subst hby
  exact K.st fun u k => XT.lushr X.here hx rfl hd rfl k
theorem o_lcmp (pc' : Nat) (W : Wk p l e R s m args below meth c Z y bytes maxL ret T h ce sl sf) {x z : Int64} (hd : decode bytes pc = .ok (.lcmp, 1))  (K : Go p e below G T (mkF m pc' L (.int (XT.cmpL x z) :: S))) (hp : pc + 1 = pc' := by rfl) : Go p e below G T (mkF m pc L (.long z :: .long x :: S)) := by
  subst hp
  obtain ⟨vm0, k0, locs, X, eT, hS, hk, hZ, hown, hF, hN, hC, hsf, hE, ⟨a1, hEL⟩, hx, hby, hml, hnm, hrt, hlk⟩ := W
  subst hby
  exact K.st fun u k => XT.lcmp X.here hx rfl hd rfl k
theorem o_i2c (pc' : Nat) (W : Wk p l e R s m args below meth c Z y bytes maxL ret T h ce sl sf) {x : Int32} (hd : decode bytes pc = .ok (.i2c, 1))  (K : Go p e below G T (mkF m pc' L (.int x.toUInt32.toUInt16.toUInt32.toInt32 :: S))) (hp : pc + 1 = pc' := by rfl) : Go p e below G T (mkF m pc L (.int x :: S)) := by
  subst hp
  obtain ⟨vm0, k0, locs, X, eT, hS, hk, hZ, hown, hF, hN, hC, hsf, hE, ⟨a1, hEL⟩, hx, hby, hml, hnm, hrt, hlk⟩ := W
  subst hby
  exact K.st fun u k => XT.i2c X.here hx rfl hd rfl k
theorem o_i2b (pc' : Nat) (W : Wk p l e R s m args below meth c Z y bytes maxL ret T h ce sl sf) {x : Int32} (hd : decode bytes pc = .ok (.i2b, 1))  (K : Go p e below G T (mkF m pc' L (.int x.toInt8.toInt32 :: S))) (hp : pc + 1 = pc' := by rfl) : Go p e below G T (mkF m pc L (.int x :: S)) := by
  subst hp
  obtain ⟨vm0, k0, locs, X, eT, hS, hk, hZ, hown, hF, hN, hC, hsf, hE, ⟨a1, hEL⟩, hx, hby, hml, hnm, hrt, hlk⟩ := W
  subst hby
  exact K.st fun u k => XT.i2b X.here hx rfl hd rfl k
theorem o_i2l (pc' : Nat) (W : Wk p l e R s m args below meth c Z y bytes maxL ret T h ce sl sf) {x : Int32} (hd : decode bytes pc = .ok (.i2l, 1))  (K : Go p e below G T (mkF m pc' L (.long x.toInt64 :: S))) (hp : pc + 1 = pc' := by rfl) : Go p e below G T (mkF m pc L (.int x :: S)) := by
  subst hp
  obtain ⟨vm0, k0, locs, X, eT, hS, hk, hZ, hown, hF, hN, hC, hsf, hE, ⟨a1, hEL⟩, hx, hby, hml, hnm, hrt, hlk⟩ := W
  subst hby
  exact K.st fun u k => XT.i2l X.here hx rfl hd rfl k
theorem o_l2i (pc' : Nat) (W : Wk p l e R s m args below meth c Z y bytes maxL ret T h ce sl sf) {x : Int64} (hd : decode bytes pc = .ok (.l2i, 1))  (K : Go p e below G T (mkF m pc' L (.int x.toInt32 :: S))) (hp : pc + 1 = pc' := by rfl) : Go p e below G T (mkF m pc L (.long x :: S)) := by
  subst hp
  obtain ⟨vm0, k0, locs, X, eT, hS, hk, hZ, hown, hF, hN, hC, hsf, hE, ⟨a1, hEL⟩, hx, hby, hml, hnm, hrt, hlk⟩ := W
  subst hby
  exact K.st fun u k => XT.l2i X.here hx rfl hd rfl k
theorem o_dup (pc' : Nat) (W : Wk p l e R s m args below meth c Z y bytes maxL ret T h ce sl sf) {v : Value} (hd : decode bytes pc = .ok (.dup, 1)) (hc : v.category = 1) (K : Go p e below G T (mkF m pc' L (v :: v :: S))) (hp : pc + 1 = pc' := by rfl) : Go p e below G T (mkF m pc L (v :: S)) := by
  subst hp
  obtain ⟨vm0, k0, locs, X, eT, hS, hk, hZ, hown, hF, hN, hC, hsf, hE, ⟨a1, hEL⟩, hx, hby, hml, hnm, hrt, hlk⟩ := W
  subst hby
  exact K.st fun u k => XS.dup X.here hx rfl hd rfl hc k
theorem o_pop (pc' : Nat) (W : Wk p l e R s m args below meth c Z y bytes maxL ret T h ce sl sf) {v : Value} (hd : decode bytes pc = .ok (.pop, 1)) (hc : v.category = 1) (K : Go p e below G T (mkF m pc' L (S))) (hp : pc + 1 = pc' := by rfl) : Go p e below G T (mkF m pc L (v :: S)) := by
  subst hp
  obtain ⟨vm0, k0, locs, X, eT, hS, hk, hZ, hown, hF, hN, hC, hsf, hE, ⟨a1, hEL⟩, hx, hby, hml, hnm, hrt, hlk⟩ := W
  subst hby
  exact K.st fun u k => XT.pop X.here hx rfl hd rfl hc k
theorem o_iinc (pc' : Nat) (W : Wk p l e R s m args below meth c Z y bytes maxL ret T h ce sl sf) {k : Nat} {i : Int} {x : Int32} (v : Int32) (L' : Array Slot) (hd : decode bytes pc = .ok (.iinc k i, 3)) (hl : L[k]? = some (.val (.int x))) (hv : x + Int32.ofInt i = v) (hl' : storeLocals L k (.int v) = some L') (K : Go p e below G T (mkF m pc' L' (S))) (hp : pc + 3 = pc' := by rfl) : Go p e below G T (mkF m pc L (S)) := by
  subst hp
  obtain ⟨vm0, k0, locs, X, eT, hS, hk, hZ, hown, hF, hN, hC, hsf, hE, ⟨a1, hEL⟩, hx, hby, hml, hnm, hrt, hlk⟩ := W
  subst hby
  exact K.st fun u k => XS.iinc X.here hx rfl hd hl (hv ▸ hl') k
theorem o_irem (pc' : Nat) (W : Wk p l e R s m args below meth c Z y bytes maxL ret T h ce sl sf) {x z : Int32} (hd : decode bytes pc = .ok (.irem, 1)) (hz : z ≠ 0) (K : Go p e below G T (mkF m pc' L (.int (x % z) :: S))) (hp : pc + 1 = pc' := by rfl) : Go p e below G T (mkF m pc L (.int z :: .int x :: S)) := by
  subst hp
  obtain ⟨vm0, k0, locs, X, eT, hS, hk, hZ, hown, hF, hN, hC, hsf, hE, ⟨a1, hEL⟩, hx, hby, hml, hnm, hrt, hlk⟩ := W
  subst hby
  exact K.st fun u k => iremM X hx (g := mkF m pc L (.int z :: .int x :: S)) rfl hd rfl hz k
theorem o_goto (pc' : Nat) (W : Wk p l e R s m args below meth c Z y bytes maxL ret T h ce sl sf)  {o : Int} (hd : decode bytes pc = .ok (.goto o, 3))  (K : Go p e below G T (mkF m pc' L (S))) (ho : 0 ≤ (pc : Int) + o := by decide) (hp : ((pc : Int) + o).toNat = pc' := by decide) : Go p e below G T (mkF m pc L (S)) := by
  obtain ⟨vm0, k0, locs, X, eT, hS, hk, hZ, hown, hF, hN, hC, hsf, hE, ⟨a1, hEL⟩, hx, hby, hml, hnm, hrt, hlk⟩ := W
  subst hby
  exact K.st fun u k => XS.goto X.here hx rfl (pc0 := pc) rfl hd ho hp k
theorem o_ifeq (pt pf : Nat) (W : Wk p l e R s m args below meth c Z y bytes maxL ret T h ce sl sf) {x : Int32} {o : Int} (hd : decode bytes pc = .ok (.ifCond .eq o, 3)) (K1 : x = 0 → Go p e below G T (mkF m pt L S)) (K2 : ¬ x = 0 → Go p e below G T (mkF m pf L S)) (ho : 0 ≤ (pc : Int) + o := by decide) (hp : ((pc : Int) + o).toNat = pt := by decide) (hq : pc + 3 = pf := by rfl) : Go p e below G T (mkF m pc L (.int x :: S)) := by
  subst hq
  obtain ⟨vm0, k0, locs, X, eT, hS, hk, hZ, hown, hF, hN, hC, hsf, hE, ⟨a1, hEL⟩, hx, hby, hml, hnm, hrt, hlk⟩ := W
  subst hby
  by_cases q : x = 0
  · exact (K1 q).st fun u k => XS.ifYes X.here hx rfl (pc0 := pc) rfl hd rfl (XT.i0_eq_t q) ho hp k
  · exact (K2 q).st fun u k => XS.ifNo X.here hx rfl hd rfl (XT.i0_eq_f q) k
theorem o_ifne (pt pf : Nat) (W : Wk p l e R s m args below meth c Z y bytes maxL ret T h ce sl sf) {x : Int32} {o : Int} (hd : decode bytes pc = .ok (.ifCond .ne o, 3)) (K1 : ¬ x = 0 → Go p e below G T (mkF m pt L S)) (K2 : x = 0 → Go p e below G T (mkF m pf L S)) (ho : 0 ≤ (pc : Int) + o := by decide) (hp : ((pc : Int) + o).toNat = pt := by decide) (hq : pc + 3 = pf := by rfl) : Go p e below G T (mkF m pc L (.int x :: S)) := by
  subst hq
  obtain ⟨vm0, k0, locs, X, eT, hS, hk, hZ, hown, hF, hN, hC, hsf, hE, ⟨a1, hEL⟩, hx, hby, hml, hnm, hrt, hlk⟩ := W
  subst hby
  by_cases q : x = 0
  · exact (K2 q).st fun u k => XS.ifNo X.here hx rfl hd rfl (XT.i0_ne_f q) k
  · exact (K1 q).st fun u k => XS.ifYes X.here hx rfl (pc0 := pc) rfl hd rfl (XT.i0_ne_t q) ho hp k
theorem o_iflt (pt pf : Nat) (W : Wk p l e R s m args below meth c Z y bytes maxL ret T h ce sl sf) {x : Int32} {o : Int} (hd : decode bytes pc = .ok (.ifCond .lt o, 3)) (K1 : x < 0 → Go p e below G T (mkF m pt L S)) (K2 : ¬ x < 0 → Go p e below G T (mkF m pf L S)) (ho : 0 ≤ (pc : Int) + o := by decide) (hp : ((pc : Int) + o).toNat = pt := by decide) (hq : pc + 3 = pf := by rfl) : Go p e below G T (mkF m pc L (.int x :: S)) := by
  subst hq
  obtain ⟨vm0, k0, locs, X, eT, hS, hk, hZ, hown, hF, hN, hC, hsf, hE, ⟨a1, hEL⟩, hx, hby, hml, hnm, hrt, hlk⟩ := W
  subst hby
  by_cases q : x < 0
  · exact (K1 q).st fun u k => XS.ifYes X.here hx rfl (pc0 := pc) rfl hd rfl (XT.i0_lt_t q) ho hp k
  · exact (K2 q).st fun u k => XS.ifNo X.here hx rfl hd rfl (XT.i0_lt_f q) k
theorem o_ifge (pt pf : Nat) (W : Wk p l e R s m args below meth c Z y bytes maxL ret T h ce sl sf) {x : Int32} {o : Int} (hd : decode bytes pc = .ok (.ifCond .ge o, 3)) (K1 : ¬ x < 0 → Go p e below G T (mkF m pt L S)) (K2 : x < 0 → Go p e below G T (mkF m pf L S)) (ho : 0 ≤ (pc : Int) + o := by decide) (hp : ((pc : Int) + o).toNat = pt := by decide) (hq : pc + 3 = pf := by rfl) : Go p e below G T (mkF m pc L (.int x :: S)) := by
  subst hq
  obtain ⟨vm0, k0, locs, X, eT, hS, hk, hZ, hown, hF, hN, hC, hsf, hE, ⟨a1, hEL⟩, hx, hby, hml, hnm, hrt, hlk⟩ := W
  subst hby
  by_cases q : x < 0
  · exact (K2 q).st fun u k => XS.ifNo X.here hx rfl hd rfl (XT.i0_ge_f q) k
  · exact (K1 q).st fun u k => XS.ifYes X.here hx rfl (pc0 := pc) rfl hd rfl (XT.i0_ge_t q) ho hp k
theorem o_ifgt (pt pf : Nat) (W : Wk p l e R s m args below meth c Z y bytes maxL ret T h ce sl sf) {x : Int32} {o : Int} (hd : decode bytes pc = .ok (.ifCond .gt o, 3)) (K1 : 0 < x → Go p e below G T (mkF m pt L S)) (K2 : ¬ 0 < x → Go p e below G T (mkF m pf L S)) (ho : 0 ≤ (pc : Int) + o := by decide) (hp : ((pc : Int) + o).toNat = pt := by decide) (hq : pc + 3 = pf := by rfl) : Go p e below G T (mkF m pc L (.int x :: S)) := by
  subst hq
  obtain ⟨vm0, k0, locs, X, eT, hS, hk, hZ, hown, hF, hN, hC, hsf, hE, ⟨a1, hEL⟩, hx, hby, hml, hnm, hrt, hlk⟩ := W
  subst hby
  by_cases q : 0 < x
  · exact (K1 q).st fun u k => XS.ifYes X.here hx rfl (pc0 := pc) rfl hd rfl (XT.i0_gt_t q) ho hp k
  · exact (K2 q).st fun u k => XS.ifNo X.here hx rfl hd rfl (XT.i0_gt_f q) k
theorem o_ifle (pt pf : Nat) (W : Wk p l e R s m args below meth c Z y bytes maxL ret T h ce sl sf) {x : Int32} {o : Int} (hd : decode bytes pc = .ok (.ifCond .le o, 3)) (K1 : ¬ 0 < x → Go p e below G T (mkF m pt L S)) (K2 : 0 < x → Go p e below G T (mkF m pf L S)) (ho : 0 ≤ (pc : Int) + o := by decide) (hp : ((pc : Int) + o).toNat = pt := by decide) (hq : pc + 3 = pf := by rfl) : Go p e below G T (mkF m pc L (.int x :: S)) := by
  subst hq
  obtain ⟨vm0, k0, locs, X, eT, hS, hk, hZ, hown, hF, hN, hC, hsf, hE, ⟨a1, hEL⟩, hx, hby, hml, hnm, hrt, hlk⟩ := W
  subst hby
  by_cases q : 0 < x
  · exact (K2 q).st fun u k => XS.ifNo X.here hx rfl hd rfl (XT.i0_le_f q) k
  · exact (K1 q).st fun u k => XS.ifYes X.here hx rfl (pc0 := pc) rfl hd rfl (XT.i0_le_t q) ho hp k
theorem o_iceq (pt pf : Nat) (W : Wk p l e R s m args below meth c Z y bytes maxL ret T h ce sl sf) {x z : Int32} {o : Int} (hd : decode bytes pc = .ok (.if_icmp .eq o, 3)) (K1 : x = z → Go p e below G T (mkF m pt L S)) (K2 : ¬ x = z → Go p e below G T (mkF m pf L S)) (ho : 0 ≤ (pc : Int) + o := by decide) (hp : ((pc : Int) + o).toNat = pt := by decide) (hq : pc + 3 = pf := by rfl) : Go p e below G T (mkF m pc L (.int z :: .int x :: S)) := by
  subst hq
  obtain ⟨vm0, k0, locs, X, eT, hS, hk, hZ, hown, hF, hN, hC, hsf, hE, ⟨a1, hEL⟩, hx, hby, hml, hnm, hrt, hlk⟩ := W
  subst hby
  by_cases q : x = z
  · exact (K1 q).st fun u k => XS.icmpYes X.here hx rfl (pc0 := pc) rfl hd rfl (XT.ii_eq_t q) ho hp k
  · exact (K2 q).st fun u k => XS.icmpNo X.here hx rfl hd rfl (XT.ii_eq_f q) k
theorem o_icne (pt pf : Nat) (W : Wk p l e R s m args below meth c Z y bytes maxL ret T h ce sl sf) {x z : Int32} {o : Int} (hd : decode bytes pc = .ok (.if_icmp .ne o, 3)) (K1 : ¬ x = z → Go p e below G T (mkF m pt L S)) (K2 : x = z → Go p e below G T (mkF m pf L S)) (ho : 0 ≤ (pc : Int) + o := by decide) (hp : ((pc : Int) + o).toNat = pt := by decide) (hq : pc + 3 = pf := by rfl) : Go p e below G T (mkF m pc L (.int z :: .int x :: S)) := by
  subst hq
  obtain ⟨vm0, k0, locs, X, eT, hS, hk, hZ, hown, hF, hN, hC, hsf, hE, ⟨a1, hEL⟩, hx, hby, hml, hnm, hrt, hlk⟩ := W
  subst hby
  by_cases q : x = z
  · exact (K2 q).st fun u k => XS.icmpNo X.here hx rfl hd rfl (XT.ii_ne_f q) k
  · exact (K1 q).st fun u k => XS.icmpYes X.here hx rfl (pc0 := pc) rfl hd rfl (XT.ii_ne_t q) ho hp k
theorem o_iclt (pt pf : Nat) (W : Wk p l e R s m args below meth c Z y bytes maxL ret T h ce sl sf) {x z : Int32} {o : Int} (hd : decode bytes pc = .ok (.if_icmp .lt o, 3)) (K1 : x < z → Go p e below G T (mkF m pt L S)) (K2 : ¬ x < z → Go p e below G T (mkF m pf L S)) (ho : 0 ≤ (pc : Int) + o := by decide) (hp : ((pc : Int) + o).toNat = pt := by decide) (hq : pc + 3 = pf := by rfl) : Go p e below G T (mkF m pc L (.int z :: .int x :: S)) := by
  subst hq
  obtain ⟨vm0, k0, locs, X, eT, hS, hk, hZ, hown, hF, hN, hC, hsf, hE, ⟨a1, hEL⟩, hx, hby, hml, hnm, hrt, hlk⟩ := W
  subst hby
  by_cases q : x < z
  · exact (K1 q).st fun u k => XS.icmpYes X.here hx rfl (pc0 := pc) rfl hd rfl (XT.ii_lt_t q) ho hp k
  · exact (K2 q).st fun u k => XS.icmpNo X.here hx rfl hd rfl (XT.ii_lt_f q) k
theorem o_icge (pt pf : Nat) (W : Wk p l e R s m args below meth c Z y bytes maxL ret T h ce sl sf) {x z : Int32} {o : Int} (hd : decode bytes pc = .ok (.if_icmp .ge o, 3)) (K1 : ¬ x < z → Go p e below G T (mkF m pt L S)) (K2 : x < z → Go p e below G T (mkF m pf L S)) (ho : 0 ≤ (pc : Int) + o := by decide) (hp : ((pc : Int) + o).toNat = pt := by decide) (hq : pc + 3 = pf := by rfl) : Go p e below G T (mkF m pc L (.int z :: .int x :: S)) := by
  subst hq
  obtain ⟨vm0, k0, locs, X, eT, hS, hk, hZ, hown, hF, hN, hC, hsf, hE, ⟨a1, hEL⟩, hx, hby, hml, hnm, hrt, hlk⟩ := W
  subst hby
  by_cases q : x < z
  · exact (K2 q).st fun u k => XS.icmpNo X.here hx rfl hd rfl (XT.ii_ge_f q) k
  · exact (K1 q).st fun u k => XS.icmpYes X.here hx rfl (pc0 := pc) rfl hd rfl (XT.ii_ge_t q) ho hp k
theorem o_icgt (pt pf : Nat) (W : Wk p l e R s m args below meth c Z y bytes maxL ret T h ce sl sf) {x z : Int32} {o : Int} (hd : decode bytes pc = .ok (.if_icmp .gt o, 3)) (K1 : z < x → Go p e below G T (mkF m pt L S)) (K2 : ¬ z < x → Go p e below G T (mkF m pf L S)) (ho : 0 ≤ (pc : Int) + o := by decide) (hp : ((pc : Int) + o).toNat = pt := by decide) (hq : pc + 3 = pf := by rfl) : Go p e below G T (mkF m pc L (.int z :: .int x :: S)) := by
  subst hq
  obtain ⟨vm0, k0, locs, X, eT, hS, hk, hZ, hown, hF, hN, hC, hsf, hE, ⟨a1, hEL⟩, hx, hby, hml, hnm, hrt, hlk⟩ := W
  subst hby
  by_cases q : z < x
  · exact (K1 q).st fun u k => XS.icmpYes X.here hx rfl (pc0 := pc) rfl hd rfl (XT.ii_gt_t q) ho hp k
  · exact (K2 q).st fun u k => XS.icmpNo X.here hx rfl hd rfl (XT.ii_gt_f q) k
theorem o_icle (pt pf : Nat) (W : Wk p l e R s m args below meth c Z y bytes maxL ret T h ce sl sf) {x z : Int32} {o : Int} (hd : decode bytes pc = .ok (.if_icmp .le o, 3)) (K1 : ¬ z < x → Go p e below G T (mkF m pt L S)) (K2 : z < x → Go p e below G T (mkF m pf L S)) (ho : 0 ≤ (pc : Int) + o := by decide) (hp : ((pc : Int) + o).toNat = pt := by decide) (hq : pc + 3 = pf := by rfl) : Go p e below G T (mkF m pc L (.int z :: .int x :: S)) := by
  subst hq
  obtain ⟨vm0, k0, locs, X, eT, hS, hk, hZ, hown, hF, hN, hC, hsf, hE, ⟨a1, hEL⟩, hx, hby, hml, hnm, hrt, hlk⟩ := W
  subst hby
  by_cases q : z < x
  · exact (K2 q).st fun u k => XS.icmpNo X.here hx rfl hd rfl (XT.ii_le_f q) k
  · exact (K1 q).st fun u k => XS.icmpYes X.here hx rfl (pc0 := pc) rfl hd rfl (XT.ii_le_t q) ho hp k
theorem o_lceq (pt pf : Nat) (W : Wk p l e R s m args below meth c Z y bytes maxL ret T h ce sl sf) {x z : Int64} {o : Int} (hd : decode bytes pc = .ok (.ifCond .eq o, 3)) (K1 : x = z → Go p e below G T (mkF m pt L S)) (K2 : ¬ x = z → Go p e below G T (mkF m pf L S)) (ho : 0 ≤ (pc : Int) + o := by decide) (hp : ((pc : Int) + o).toNat = pt := by decide) (hq : pc + 3 = pf := by rfl) : Go p e below G T (mkF m pc L (.int (XT.cmpL x z) :: S)) := by
  subst hq
  obtain ⟨vm0, k0, locs, X, eT, hS, hk, hZ, hown, hF, hN, hC, hsf, hE, ⟨a1, hEL⟩, hx, hby, hml, hnm, hrt, hlk⟩ := W
  subst hby
  by_cases q : x = z
  · exact (K1 q).st fun u k => XS.ifYes X.here hx rfl (pc0 := pc) rfl hd rfl (XT.ll_eq_t q) ho hp k
  · exact (K2 q).st fun u k => XS.ifNo X.here hx rfl hd rfl (XT.ll_eq_f q) k
theorem o_lcne (pt pf : Nat) (W : Wk p l e R s m args below meth c Z y bytes maxL ret T h ce sl sf) {x z : Int64} {o : Int} (hd : decode bytes pc = .ok (.ifCond .ne o, 3)) (K1 : ¬ x = z → Go p e below G T (mkF m pt L S)) (K2 : x = z → Go p e below G T (mkF m pf L S)) (ho : 0 ≤ (pc : Int) + o := by decide) (hp : ((pc : Int) + o).toNat = pt := by decide) (hq : pc + 3 = pf := by rfl) : Go p e below G T (mkF m pc L (.int (XT.cmpL x z) :: S)) := by
  subst hq
  obtain ⟨vm0, k0, locs, X, eT, hS, hk, hZ, hown, hF, hN, hC, hsf, hE, ⟨a1, hEL⟩, hx, hby, hml, hnm, hrt, hlk⟩ := W
  subst hby
  by_cases q : x = z
  · exact (K2 q).st fun u k => XS.ifNo X.here hx rfl hd rfl (XT.ll_ne_f q) k
  · exact (K1 q).st fun u k => XS.ifYes X.here hx rfl (pc0 := pc) rfl hd rfl (XT.ll_ne_t q) ho hp k
theorem o_lclt (pt pf : Nat) (W : Wk p l e R s m args below meth c Z y bytes maxL ret T h ce sl sf) {x z : Int64} {o : Int} (hd : decode bytes pc = .ok (.ifCond .lt o, 3)) (K1 : x < z → Go p e below G T (mkF m pt L S)) (K2 : ¬ x < z → Go p e below G T (mkF m pf L S)) (ho : 0 ≤ (pc : Int) + o := by decide) (hp : ((pc : Int) + o).toNat = pt := by decide) (hq : pc + 3 = pf := by rfl) : Go p e below G T (mkF m pc L (.int (XT.cmpL x z) :: S)) := by
  subst hq
  obtain ⟨vm0, k0, locs, X, eT, hS, hk, hZ, hown, hF, hN, hC, hsf, hE, ⟨a1, hEL⟩, hx, hby, hml, hnm, hrt, hlk⟩ := W
  subst hby
  by_cases q : x < z
  · exact (K1 q).st fun u k => XS.ifYes X.here hx rfl (pc0 := pc) rfl hd rfl (XT.ll_lt_t q) ho hp k
  · exact (K2 q).st fun u k => XS.ifNo X.here hx rfl hd rfl (XT.ll_lt_f q) k
theorem o_lcge (pt pf : Nat) (W : Wk p l e R s m args below meth c Z y bytes maxL ret T h ce sl sf) {x z : Int64} {o : Int} (hd : decode bytes pc = .ok (.ifCond .ge o, 3)) (K1 : ¬ x < z → Go p e below G T (mkF m pt L S)) (K2 : x < z → Go p e below G T (mkF m pf L S)) (ho : 0 ≤ (pc : Int) + o := by decide) (hp : ((pc : Int) + o).toNat = pt := by decide) (hq : pc + 3 = pf := by rfl) : Go p e below G T (mkF m pc L (.int (XT.cmpL x z) :: S)) := by
  subst hq
  obtain ⟨vm0, k0, locs, X, eT, hS, hk, hZ, hown, hF, hN, hC, hsf, hE, ⟨a1, hEL⟩, hx, hby, hml, hnm, hrt, hlk⟩ := W
  subst hby
  by_cases q : x < z
  · exact (K2 q).st fun u k => XS.ifNo X.here hx rfl hd rfl (XT.ll_ge_f q) k
  · exact (K1 q).st fun u k => XS.ifYes X.here hx rfl (pc0 := pc) rfl hd rfl (XT.ll_ge_t q) ho hp k
theorem o_lcgt (pt pf : Nat) (W : Wk p l e R s m args below meth c Z y bytes maxL ret T h ce sl sf) {x z : Int64} {o : Int} (hd : decode bytes pc = .ok (.ifCond .gt o, 3)) (K1 : z < x → Go p e below G T (mkF m pt L S)) (K2 : ¬ z < x → Go p e below G T (mkF m pf L S)) (ho : 0 ≤ (pc : Int) + o := by decide) (hp : ((pc : Int) + o).toNat = pt := by decide) (hq : pc + 3 = pf := by rfl) : Go p e below G T (mkF m pc L (.int (XT.cmpL x z) :: S)) := by
  subst hq
  obtain ⟨vm0, k0, locs, X, eT, hS, hk, hZ, hown, hF, hN, hC, hsf, hE, ⟨a1, hEL⟩, hx, hby, hml, hnm, hrt, hlk⟩ := W
  subst hby
  by_cases q : z < x
  · exact (K1 q).st fun u k => XS.ifYes X.here hx rfl (pc0 := pc) rfl hd rfl (XT.ll_gt_t q) ho hp k
  · exact (K2 q).st fun u k => XS.ifNo X.here hx rfl hd rfl (XT.ll_gt_f q) k
theorem o_lcle (pt pf : Nat) (W : Wk p l e R s m args below meth c Z y bytes maxL ret T h ce sl sf) {x z : Int64} {o : Int} (hd : decode bytes pc = .ok (.ifCond .le o, 3)) (K1 : ¬ z < x → Go p e below G T (mkF m pt L S)) (K2 : z < x → Go p e below G T (mkF m pf L S)) (ho : 0 ≤ (pc : Int) + o := by decide) (hp : ((pc : Int) + o).toNat = pt := by decide) (hq : pc + 3 = pf := by rfl) : Go p e below G T (mkF m pc L (.int (XT.cmpL x z) :: S)) := by
  subst hq
  obtain ⟨vm0, k0, locs, X, eT, hS, hk, hZ, hown, hF, hN, hC, hsf, hE, ⟨a1, hEL⟩, hx, hby, hml, hnm, hrt, hlk⟩ := W
  subst hby
  by_cases q : z < x
  · exact (K2 q).st fun u k => XS.ifNo X.here hx rfl hd rfl (XT.ll_le_f q) k
  · exact (K1 q).st fun u k => XS.ifYes X.here hx rfl (pc0 := pc) rfl hd rfl (XT.ll_le_t q) ho hp k
theorem o_ifY (pc' : Nat) (W : Wk p l e R s m args below meth c Z y bytes maxL ret T h ce sl sf) {cd : ClassFile.Cond} {x : Int32} {o : Int} (hd : decode bytes pc = .ok (.ifCond cd o, 3)) (hc : ifCond.holds cd x = true) (K : Go p e below G T (mkF m pc' L (S))) (ho : 0 ≤ (pc : Int) + o := by decide) (hp : ((pc : Int) + o).toNat = pc' := by decide) : Go p e below G T (mkF m pc L (.int x :: S)) := by
  obtain ⟨vm0, k0, locs, X, eT, hS, hk, hZ, hown, hF, hN, hC, hsf, hE, ⟨a1, hEL⟩, hx, hby, hml, hnm, hrt, hlk⟩ := W
  subst hby
  exact K.st fun u k => XS.ifYes X.here hx rfl (pc0 := pc) rfl hd rfl hc ho hp k
theorem o_ifN (pc' : Nat) (W : Wk p l e R s m args below meth c Z y bytes maxL ret T h ce sl sf) {cd : ClassFile.Cond} {o : Int} {x : Int32} (hd : decode bytes pc = .ok (.ifCond cd o, 3)) (hc : ifCond.holds cd x = false) (K : Go p e below G T (mkF m pc' L (S))) (hp : pc + 3 = pc' := by rfl) : Go p e below G T (mkF m pc L (.int x :: S)) := by
  subst hp
  obtain ⟨vm0, k0, locs, X, eT, hS, hk, hZ, hown, hF, hN, hC, hsf, hE, ⟨a1, hEL⟩, hx, hby, hml, hnm, hrt, hlk⟩ := W
  subst hby
  exact K.st fun u k => XS.ifNo X.here hx rfl hd rfl hc k
theorem o_icY (pc' : Nat) (W : Wk p l e R s m args below meth c Z y bytes maxL ret T h ce sl sf) {cd : ClassFile.Cond} {x z : Int32} {o : Int} (hd : decode bytes pc = .ok (.if_icmp cd o, 3)) (hc : if_icmp.holds cd x z = true) (K : Go p e below G T (mkF m pc' L (S))) (ho : 0 ≤ (pc : Int) + o := by decide) (hp : ((pc : Int) + o).toNat = pc' := by decide) : Go p e below G T (mkF m pc L (.int z :: .int x :: S)) := by
  obtain ⟨vm0, k0, locs, X, eT, hS, hk, hZ, hown, hF, hN, hC, hsf, hE, ⟨a1, hEL⟩, hx, hby, hml, hnm, hrt, hlk⟩ := W
  subst hby
  exact K.st fun u k => XS.icmpYes X.here hx rfl (pc0 := pc) rfl hd rfl hc ho hp k
theorem o_icN (pc' : Nat) (W : Wk p l e R s m args below meth c Z y bytes maxL ret T h ce sl sf) {cd : ClassFile.Cond} {o : Int} {x z : Int32} (hd : decode bytes pc = .ok (.if_icmp cd o, 3)) (hc : if_icmp.holds cd x z = false) (K : Go p e below G T (mkF m pc' L (S))) (hp : pc + 3 = pc' := by rfl) : Go p e below G T (mkF m pc L (.int z :: .int x :: S)) := by
  subst hp
  obtain ⟨vm0, k0, locs, X, eT, hS, hk, hZ, hown, hF, hN, hC, hsf, hE, ⟨a1, hEL⟩, hx, hby, hml, hnm, hrt, hlk⟩ := W
  subst hby
  exact K.st fun u k => XS.icmpNo X.here hx rfl hd rfl hc k
theorem o_nullY (pc' : Nat) (W : Wk p l e R s m args below meth c Z y bytes maxL ret T h ce sl sf)  {o : Int} (hd : decode bytes pc = .ok (.ifnull o, 3))  (K : Go p e below G T (mkF m pc' L (S))) (ho : 0 ≤ (pc : Int) + o := by decide) (hp : ((pc : Int) + o).toNat = pc' := by decide) : Go p e below G T (mkF m pc L (.null :: S)) := by
  obtain ⟨vm0, k0, locs, X, eT, hS, hk, hZ, hown, hF, hN, hC, hsf, hE, ⟨a1, hEL⟩, hx, hby, hml, hnm, hrt, hlk⟩ := W
  subst hby
  exact K.st fun u k => XS.ifnullYes X.here hx rfl (pc0 := pc) rfl hd rfl ho hp k
theorem o_nullN (pc' : Nat) (W : Wk p l e R s m args below meth c Z y bytes maxL ret T h ce sl sf) {o : Int} {a : Addr} (hd : decode bytes pc = .ok (.ifnull o, 3))  (K : Go p e below G T (mkF m pc' L (S))) (hp : pc + 3 = pc' := by rfl) : Go p e below G T (mkF m pc L (.ref a :: S)) := by
  subst hp
  obtain ⟨vm0, k0, locs, X, eT, hS, hk, hZ, hown, hF, hN, hC, hsf, hE, ⟨a1, hEL⟩, hx, hby, hml, hnm, hrt, hlk⟩ := W
  subst hby
  exact K.st fun u k => XS.ifnullNo X.here hx rfl hd rfl k
theorem o_nnY (pc' : Nat) (W : Wk p l e R s m args below meth c Z y bytes maxL ret T h ce sl sf) {a : Addr} {o : Int} (hd : decode bytes pc = .ok (.ifnonnull o, 3))  (K : Go p e below G T (mkF m pc' L (S))) (ho : 0 ≤ (pc : Int) + o := by decide) (hp : ((pc : Int) + o).toNat = pc' := by decide) : Go p e below G T (mkF m pc L (.ref a :: S)) := by
  obtain ⟨vm0, k0, locs, X, eT, hS, hk, hZ, hown, hF, hN, hC, hsf, hE, ⟨a1, hEL⟩, hx, hby, hml, hnm, hrt, hlk⟩ := W
  subst hby
  exact K.st fun u k => XT.ifnonnullYes X.here hx rfl (pc0 := pc) rfl hd rfl ho hp k
theorem o_nnN (pc' : Nat) (W : Wk p l e R s m args below meth c Z y bytes maxL ret T h ce sl sf) {o : Int} (hd : decode bytes pc = .ok (.ifnonnull o, 3))  (K : Go p e below G T (mkF m pc' L (S))) (hp : pc + 3 = pc' := by rfl) : Go p e below G T (mkF m pc L (.null :: S)) := by
  subst hp
  obtain ⟨vm0, k0, locs, X, eT, hS, hk, hZ, hown, hF, hN, hC, hsf, hE, ⟨a1, hEL⟩, hx, hby, hml, hnm, hrt, hlk⟩ := W
  subst hby
  exact K.st fun u k => XT.ifnonnullNo X.here hx rfl hd rfl k
theorem o_aceq (pt pf : Nat) (W : Wk p l e R s m args below meth c Z y bytes maxL ret T h ce sl sf) {x z : Value} (h1 : x.isRef = true) (h2 : z.isRef = true) {o : Int} (hd : decode bytes pc = .ok (.if_acmp .eq o, 3)) (K1 : x = z → Go p e below G T (mkF m pt L S)) (K2 : ¬ x = z → Go p e below G T (mkF m pf L S)) (ho : 0 ≤ (pc : Int) + o := by decide) (hp : ((pc : Int) + o).toNat = pt := by decide) (hq : pc + 3 = pf := by rfl) : Go p e below G T (mkF m pc L (z :: x :: S)) := by
  subst hq hp
  obtain ⟨vm0, k0, locs, X, eT, hS, hk, hZ, hown, hF, hN, hC, hsf, hE, ⟨a1, hEL⟩, hx, hby, hml, hnm, hrt, hlk⟩ := W
  subst hby
  by_cases q : x = z
  · exact (K1 q).st fun u k => acmp X hx (g := mkF m pc L (z :: x :: S)) rfl h1 h2 (same := true) rfl hd rfl (by simp [q]) ho (by rfl) k
  · exact (K2 q).st fun u k => acmp X hx (g := mkF m pc L (z :: x :: S)) rfl h1 h2 (same := false) rfl hd rfl (by simp [q]) ho (by rfl) k
theorem o_acne (pt pf : Nat) (W : Wk p l e R s m args below meth c Z y bytes maxL ret T h ce sl sf) {x z : Value} (h1 : x.isRef = true) (h2 : z.isRef = true) {o : Int} (hd : decode bytes pc = .ok (.if_acmp .ne o, 3)) (K1 : ¬ x = z → Go p e below G T (mkF m pt L S)) (K2 : x = z → Go p e below G T (mkF m pf L S)) (ho : 0 ≤ (pc : Int) + o := by decide) (hp : ((pc : Int) + o).toNat = pt := by decide) (hq : pc + 3 = pf := by rfl) : Go p e below G T (mkF m pc L (z :: x :: S)) := by
  subst hq hp
  obtain ⟨vm0, k0, locs, X, eT, hS, hk, hZ, hown, hF, hN, hC, hsf, hE, ⟨a1, hEL⟩, hx, hby, hml, hnm, hrt, hlk⟩ := W
  subst hby
  by_cases q : x = z
  · exact (K2 q).st fun u k => acmp X hx (g := mkF m pc L (z :: x :: S)) rfl h1 h2 (same := true) rfl hd rfl (by simp [q]) ho (by rfl) k
  · exact (K1 q).st fun u k => acmp X hx (g := mkF m pc L (z :: x :: S)) rfl h1 h2 (same := false) rfl hd rfl (by simp [q]) ho (by rfl) k
theorem o_ldcI (pc' : Nat) (W : Wk p l e R s m args below meth c Z y bytes maxL ret T h ce sl sf) {i : Nat} {v : Int32} (w : (Jvm.Cond.constant y.cls i v).before a0 Z = true) (hd : decode bytes pc = .ok (.ldc i, 2)) (K : Go p e below G T (mkF m pc' L (.int v :: S))) (hp : pc + 2 = pc' := by rfl) : Go p e below G T (mkF m pc L S) := by
  subst hp
  obtain ⟨vm0, k0, locs, X, eT, hS, hk, hZ, hown, hF, hN, hC, hsf, hE, ⟨a1, hEL⟩, hx, hby, hml, hnm, hrt, hlk⟩ := W
  subst hby
  exact K.st fun u k => X.ldcI hx hown (mv hZ w) (g := mkF m pc L S) rfl hd k
theorem o_ldc2J (pc' : Nat) (W : Wk p l e R s m args below meth c Z y bytes maxL ret T h ce sl sf) {i : Nat} {v : Int64} (w : (Jvm.Cond.constantLong y.cls i v).before a0 Z = true) (hd : decode bytes pc = .ok (.ldc2_w i, 3)) (K : Go p e below G T (mkF m pc' L (.long v :: S))) (hp : pc + 3 = pc' := by rfl) : Go p e below G T (mkF m pc L S) := by
  subst hp
  obtain ⟨vm0, k0, locs, X, eT, hS, hk, hZ, hown, hF, hN, hC, hsf, hE, ⟨a1, hEL⟩, hx, hby, hml, hnm, hrt, hlk⟩ := W
  subst hby
  exact K.st fun u k => X.ldc2J hx hown (mv hZ w) (g := mkF m pc L S) rfl hd k
theorem o_getF (pc' : Nat) (W : Wk p l e R s m args below meth c Z y bytes maxL ret T h ce sl sf) {i : Nat} {R0 O n d : String} {a : Addr} {v : Value} (w : (Jvm.Cond.fieldLink y.cls i R0 n d).before a0 Z = true) (F : Fld Z h a O n d v) (hd : decode bytes pc = .ok (.getfield i, 3)) (K : ∀ T', Wk p l e R s m args below meth c Z y bytes maxL ret T' h ce sl sf → Go p e below G T' (mkF m pc' L (v :: S))) (via : Via Z R0 O n d := by exact Via.refl) (hp : pc + 3 = pc' := by rfl) : Go p e below G T (mkF m pc L (.ref a :: S)) := by
  subst hp
  obtain ⟨vm0, k0, locs, X, eT, hS, hk, hZ, hown, hF, hN, hC, hsf, hE, ⟨a1, hEL⟩, hx, hby, hml, hnm, hrt, hlk⟩ := W
  subst hby
  obtain ⟨T', X', e', st⟩ := getF X hx hZ hown (host := "") (Or.inl w) via eT F (g := mkF m pc L (.ref a :: S)) rfl rfl hd
  exact (K T' ⟨vm0, k0, locs, X', e', hS, hk, hZ, hown, hF, hN, hC, hsf, hE, ⟨a1, hEL⟩, hx, rfl, hml, hnm, hrt, hlk⟩).st st
theorem o_getS (pc' : Nat) (W : Wk p l e R s m args below meth c Z y bytes maxL ret T h ce sl sf) {i : Nat} {R0 O n d : String} {v : Value} (w : (Jvm.Cond.fieldLink y.cls i R0 n d).before a0 Z = true) (F : Sta Z Z.heap O n d v) (hd : decode bytes pc = .ok (.getstatic i, 3)) (K : ∀ T', Wk p l e R s m args below meth c Z y bytes maxL ret T' h ce sl sf → Go p e below G T' (mkF m pc' L (v :: S))) (via : Via Z R0 O n d := by exact Via.refl) (hp : pc + 3 = pc' := by rfl) : Go p e below G T (mkF m pc L S) := by
  subst hp
  obtain ⟨vm0, k0, locs, X, eT, hS, hk, hZ, hown, hF, hN, hC, hsf, hE, ⟨a1, hEL⟩, hx, hby, hml, hnm, hrt, hlk⟩ := W
  subst hby
  obtain ⟨T', X', e', st⟩ := getS X hx hZ hown w via eT (Sta.ext hE F) (g := mkF m pc L S) rfl hd (host := "")
  exact (K T' ⟨vm0, k0, locs, X', e', hS, hk, hZ, hown, hF, hN, hC, hsf, hE, ⟨a1, hEL⟩, hx, rfl, hml, hnm, hrt, hlk⟩).st st
theorem o_cast (pc' : Nat) (W : Wk p l e R s m args below meth c Z y bytes maxL ret T h ce sl sf) {i : Nat} {K0 : String} {a : Addr} (w : (Jvm.Cond.classLink y.cls i K0).before a0 Z = true) (F : Ins Z h a K0 true) (hd : decode bytes pc = .ok (.checkcast i, 3)) (K : ∀ T', Wk p l e R s m args below meth c Z y bytes maxL ret T' h ce sl sf → Go p e below G T' (mkF m pc' L (.ref a :: S))) (hp : pc + 3 = pc' := by rfl) : Go p e below G T (mkF m pc L (.ref a :: S)) := by
  subst hp
  obtain ⟨vm0, k0, locs, X, eT, hS, hk, hZ, hown, hF, hN, hC, hsf, hE, ⟨a1, hEL⟩, hx, hby, hml, hnm, hrt, hlk⟩ := W
  subst hby
  obtain ⟨T', X', e', st⟩ := castY X hx hZ hown w eT F (g := mkF m pc L (.ref a :: S)) rfl rfl hd
  exact (K T' ⟨vm0, k0, locs, X', e', hS, hk, hZ, hown, hF, hN, hC, hsf, hE, ⟨a1, hEL⟩, hx, rfl, hml, hnm, hrt, hlk⟩).st st
theorem o_instY (pc' : Nat) (W : Wk p l e R s m args below meth c Z y bytes maxL ret T h ce sl sf) {i : Nat} {K0 : String} {a : Addr} (w : (Jvm.Cond.classLink y.cls i K0).before a0 Z = true) (F : Ins Z h a K0 true) (hd : decode bytes pc = .ok (.instanceof i, 3)) (K : ∀ T', Wk p l e R s m args below meth c Z y bytes maxL ret T' h ce sl sf → Go p e below G T' (mkF m pc' L (.int 1 :: S))) (hp : pc + 3 = pc' := by rfl) : Go p e below G T (mkF m pc L (.ref a :: S)) := by
  subst hp
  obtain ⟨vm0, k0, locs, X, eT, hS, hk, hZ, hown, hF, hN, hC, hsf, hE, ⟨a1, hEL⟩, hx, hby, hml, hnm, hrt, hlk⟩ := W
  subst hby
  obtain ⟨T', X', e', st⟩ := instY X hx hZ hown w eT F (g := mkF m pc L (.ref a :: S)) rfl rfl hd
  exact (K T' ⟨vm0, k0, locs, X', e', hS, hk, hZ, hown, hF, hN, hC, hsf, hE, ⟨a1, hEL⟩, hx, rfl, hml, hnm, hrt, hlk⟩).st st
theorem o_instN (pc' : Nat) (W : Wk p l e R s m args below meth c Z y bytes maxL ret T h ce sl sf) {i : Nat} {K0 C : String} {a : Addr} (w : (Jvm.Cond.classLink y.cls i K0).before a0 Z = true) (E : Exa Z h a C) (F : ∃ c t, Z.vm.findClass C = some c ∧ Z.vm.findClass K0 = some t ∧ Z.vm.assignable c t = false) (hd : decode bytes pc = .ok (.instanceof i, 3)) (K : ∀ T', Wk p l e R s m args below meth c Z y bytes maxL ret T' h ce sl sf → Go p e below G T' (mkF m pc' L (.int 0 :: S))) (hp : pc + 3 = pc' := by rfl) : Go p e below G T (mkF m pc L (.ref a :: S)) := by
  subst hp
  obtain ⟨vm0, k0, locs, X, eT, hS, hk, hZ, hown, hF, hN, hC, hsf, hE, ⟨a1, hEL⟩, hx, hby, hml, hnm, hrt, hlk⟩ := W
  subst hby
  obtain ⟨T', X', e', st⟩ := instNo X hx hZ hown w eT E F (g := mkF m pc L (.ref a :: S)) rfl rfl hd
  exact (K T' ⟨vm0, k0, locs, X', e', hS, hk, hZ, hown, hF, hN, hC, hsf, hE, ⟨a1, hEL⟩, hx, rfl, hml, hnm, hrt, hlk⟩).st st
theorem o_instNull (pc' : Nat) (W : Wk p l e R s m args below meth c Z y bytes maxL ret T h ce sl sf) {i : Nat} (hd : decode bytes pc = .ok (.instanceof i, 3)) (K : Go p e below G T (mkF m pc' L (.int 0 :: S))) (hp : pc + 3 = pc' := by rfl) : Go p e below G T (mkF m pc L (.null :: S)) := by
  subst hp
  obtain ⟨vm0, k0, locs, X, eT, hS, hk, hZ, hown, hF, hN, hC, hsf, hE, ⟨a1, hEL⟩, hx, hby, hml, hnm, hrt, hlk⟩ := W
  subst hby
  exact K.st fun u k => X.instanceofNull hx (g := mkF m pc L (.null :: S)) rfl rfl hd u k
theorem o_castNull (pc' : Nat) (W : Wk p l e R s m args below meth c Z y bytes maxL ret T h ce sl sf) {i : Nat} (hd : decode bytes pc = .ok (.checkcast i, 3)) (K : Go p e below G T (mkF m pc' L (.null :: S))) (hp : pc + 3 = pc' := by rfl) : Go p e below G T (mkF m pc L (.null :: S)) := by
  subst hp
  obtain ⟨vm0, k0, locs, X, eT, hS, hk, hZ, hown, hF, hN, hC, hsf, hE, ⟨a1, hEL⟩, hx, hby, hml, hnm, hrt, hlk⟩ := W
  subst hby
  exact K.st fun u k => X.checkcastNull hx (g := mkF m pc L (.null :: S)) rfl rfl hd u k
theorem o_iaload (pc' : Nat) (W : Wk p l e R s m args below meth c Z y bytes maxL ret T h ce sl sf) {a : Addr} {cl : Cell} {j : Int32} {v : Value} (A : Arr Z h a cl .int) (hj : ¬ (j < 0 ∨ cl.slots.size ≤ j.toNatClampNeg)) (hv : cl.slots[j.toNatClampNeg]? = some v) (hd : decode bytes pc = .ok (.iaload, 1)) (K : Go p e below G T (mkF m pc' L (v :: S))) (hp : pc + 1 = pc' := by rfl) : Go p e below G T (mkF m pc L (.int j :: .ref a :: S)) := by
  subst hp
  obtain ⟨vm0, k0, locs, X, eT, hS, hk, hZ, hown, hF, hN, hC, hsf, hE, ⟨a1, hEL⟩, hx, hby, hml, hnm, hrt, hlk⟩ := W
  subst hby
  exact K.st fun u k => X.iaload hx (by rw [eT]; exact A.1) (State.isArrayOf_alike hZ.alike A.2.1) A.2.2 hj hv (g := mkF m pc L (.int j :: .ref a :: S)) rfl rfl hd u k
theorem o_caload (pc' : Nat) (W : Wk p l e R s m args below meth c Z y bytes maxL ret T h ce sl sf) {a : Addr} {cl : Cell} {j : Int32} {v : Value} (A : Arr Z h a cl .char) (hj : ¬ (j < 0 ∨ cl.slots.size ≤ j.toNatClampNeg)) (hv : cl.slots[j.toNatClampNeg]? = some v) (hd : decode bytes pc = .ok (.caload, 1)) (K : Go p e below G T (mkF m pc' L (v :: S))) (hp : pc + 1 = pc' := by rfl) : Go p e below G T (mkF m pc L (.int j :: .ref a :: S)) := by
  subst hp
  obtain ⟨vm0, k0, locs, X, eT, hS, hk, hZ, hown, hF, hN, hC, hsf, hE, ⟨a1, hEL⟩, hx, hby, hml, hnm, hrt, hlk⟩ := W
  subst hby
  exact K.st fun u k => X.caload hx (by rw [eT]; exact A.1) (State.isArrayOf_alike hZ.alike A.2.1) A.2.2 hj hv (g := mkF m pc L (.int j :: .ref a :: S)) rfl rfl hd u k
theorem o_baload (pc' : Nat) (W : Wk p l e R s m args below meth c Z y bytes maxL ret T h ce sl sf) {a : Addr} {cl : Cell} {j : Int32} {v : Value} (A : Arr Z h a cl .byte) (hj : ¬ (j < 0 ∨ cl.slots.size ≤ j.toNatClampNeg)) (hv : cl.slots[j.toNatClampNeg]? = some v) (hd : decode bytes pc = .ok (.baload, 1)) (K : Go p e below G T (mkF m pc' L (v :: S))) (hp : pc + 1 = pc' := by rfl) : Go p e below G T (mkF m pc L (.int j :: .ref a :: S)) := by
  subst hp
  obtain ⟨vm0, k0, locs, X, eT, hS, hk, hZ, hown, hF, hN, hC, hsf, hE, ⟨a1, hEL⟩, hx, hby, hml, hnm, hrt, hlk⟩ := W
  subst hby
  exact K.st fun u k => X.baloadBytes hx (by rw [eT]; exact A.1) (State.isArrayOf_alike hZ.alike A.2.1) A.2.2 hj hv (g := mkF m pc L (.int j :: .ref a :: S)) rfl rfl hd u k
theorem o_laload (pc' : Nat) (W : Wk p l e R s m args below meth c Z y bytes maxL ret T h ce sl sf) {a : Addr} {cl : Cell} {j : Int32} {v : Value} (A : Arr Z h a cl .long) (hj : ¬ (j < 0 ∨ cl.slots.size ≤ j.toNatClampNeg)) (hv : cl.slots[j.toNatClampNeg]? = some v) (hd : decode bytes pc = .ok (.laload, 1)) (K : Go p e below G T (mkF m pc' L (v :: S))) (hp : pc + 1 = pc' := by rfl) : Go p e below G T (mkF m pc L (.int j :: .ref a :: S)) := by
  subst hp
  obtain ⟨vm0, k0, locs, X, eT, hS, hk, hZ, hown, hF, hN, hC, hsf, hE, ⟨a1, hEL⟩, hx, hby, hml, hnm, hrt, hlk⟩ := W
  subst hby
  exact K.st fun u k => X.laload hx (by rw [eT]; exact A.1) (State.isArrayOf_alike hZ.alike A.2.1) A.2.2 hj hv (g := mkF m pc L (.int j :: .ref a :: S)) rfl rfl hd u k
theorem o_aaload (pc' : Nat) (W : Wk p l e R s m args below meth c Z y bytes maxL ret T h ce sl sf) {a : Addr} {cl : Cell} {j : Int32} {v : Value} {ty : FieldType} (A : Arr Z h a cl ty) (hty : ty.isReference = true) (hj : ¬ (j < 0 ∨ cl.slots.size ≤ j.toNatClampNeg)) (hv : cl.slots[j.toNatClampNeg]? = some v) (hd : decode bytes pc = .ok (.aaload, 1)) (K : Go p e below G T (mkF m pc' L (v :: S))) (hp : pc + 1 = pc' := by rfl) : Go p e below G T (mkF m pc L (.int j :: .ref a :: S)) := by
  subst hp
  obtain ⟨vm0, k0, locs, X, eT, hS, hk, hZ, hown, hF, hN, hC, hsf, hE, ⟨a1, hEL⟩, hx, hby, hml, hnm, hrt, hlk⟩ := W
  subst hby
  exact K.st fun u k => X.aaload hx (by rw [eT]; exact A.1) (State.isArrayOf_alike hZ.alike A.2.1) hty A.2.2 hj hv (g := mkF m pc L (.int j :: .ref a :: S)) rfl rfl hd u k
theorem o_alen (pc' : Nat) (W : Wk p l e R s m args below meth c Z y bytes maxL ret T h ce sl sf) {a : Addr} {cl : Cell} {ty : FieldType} (n : Int32) (A : Arr Z h a cl ty) (hn : cl.slots.size.toInt32 = n) (hd : decode bytes pc = .ok (.arraylength, 1)) (K : Go p e below G T (mkF m pc' L (.int n :: S))) (hp : pc + 1 = pc' := by rfl) : Go p e below G T (mkF m pc L (.ref a :: S)) := by
  subst hp hn
  obtain ⟨vm0, k0, locs, X, eT, hS, hk, hZ, hown, hF, hN, hC, hsf, hE, ⟨a1, hEL⟩, hx, hby, hml, hnm, hrt, hlk⟩ := W
  subst hby
  exact K.st fun u k => X.arraylength hx (by rw [eT]; exact A.1) (State.isArrayOf_alike hZ.alike A.2.1) (g := mkF m pc L (.ref a :: S)) rfl rfl hd u k
theorem o_ialoadV (pc' : Nat) (W : Wk p l e R s m args below meth c Z y bytes maxL ret T h ce sl sf) {a : Addr} {k : ClassId} {z j : Int32} {vs : List Value} {dv v : Value} (A : Arv Z h a k .int z vs dv) (hj : ¬ j < 0 ∧ j < z) (hv : vs.getD j.toNatClampNeg dv = v) (hd : decode bytes pc = .ok (.iaload, 1)) (K : Go p e below G T (mkF m pc' L (v :: S))) (hp : pc + 1 = pc' := by rfl) : Go p e below G T (mkF m pc L (.int j :: .ref a :: S)) := by
  obtain ⟨cl, A1, A2, A3, A4, A5, A6⟩ := A
  exact o_iaload pc' W A1 (inb_of A3 hj) (Has.at A5 (inb_of A3 hj) hv) hd K hp
theorem o_caloadV (pc' : Nat) (W : Wk p l e R s m args below meth c Z y bytes maxL ret T h ce sl sf) {a : Addr} {k : ClassId} {z j : Int32} {vs : List Value} {dv v : Value} (A : Arv Z h a k .char z vs dv) (hj : ¬ j < 0 ∧ j < z) (hv : vs.getD j.toNatClampNeg dv = v) (hd : decode bytes pc = .ok (.caload, 1)) (K : Go p e below G T (mkF m pc' L (v :: S))) (hp : pc + 1 = pc' := by rfl) : Go p e below G T (mkF m pc L (.int j :: .ref a :: S)) := by
  obtain ⟨cl, A1, A2, A3, A4, A5, A6⟩ := A
  exact o_caload pc' W A1 (inb_of A3 hj) (Has.at A5 (inb_of A3 hj) hv) hd K hp
theorem o_baloadV (pc' : Nat) (W : Wk p l e R s m args below meth c Z y bytes maxL ret T h ce sl sf) {a : Addr} {k : ClassId} {z j : Int32} {vs : List Value} {dv v : Value} (A : Arv Z h a k .byte z vs dv) (hj : ¬ j < 0 ∧ j < z) (hv : vs.getD j.toNatClampNeg dv = v) (hd : decode bytes pc = .ok (.baload, 1)) (K : Go p e below G T (mkF m pc' L (v :: S))) (hp : pc + 1 = pc' := by rfl) : Go p e below G T (mkF m pc L (.int j :: .ref a :: S)) := by
  obtain ⟨cl, A1, A2, A3, A4, A5, A6⟩ := A
  exact o_baload pc' W A1 (inb_of A3 hj) (Has.at A5 (inb_of A3 hj) hv) hd K hp
theorem o_alenV (pc' : Nat) (W : Wk p l e R s m args below meth c Z y bytes maxL ret T h ce sl sf) {a : Addr} {k : ClassId} {z : Int32} {ty : FieldType} {vs : List Value} {dv : Value} (A : Arv Z h a k ty z vs dv) (hd : decode bytes pc = .ok (.arraylength, 1)) (K : Go p e below G T (mkF m pc' L (.int z :: S))) (hp : pc + 1 = pc' := by rfl) : Go p e below G T (mkF m pc L (.ref a :: S)) := by
  obtain ⟨cl, A1, A2, A3, A4, A5, A6⟩ := A
  exact o_alen pc' W z A1 (len_of A3 A4) hd K hp
theorem o_new (pc' : Nat) (W : Wk p l e R s m args below meth c Z y bytes maxL ret T h ce sl sf) {C : String} {i n : Nat} (w : (Jvm.Cond.classLink y.cls i C).before a0 Z = true) (wi : (Jvm.Cond.instantiable C n).before a0 Z = true) (wz : (Jvm.Cond.initialized C).before a0 Z = true) (hd : decode bytes pc = .ok (.new i, 3))
    (K : ∀ T' h' a, Wk p l e R s m args below meth c Z y bytes maxL ret T' h' (ce + 1) (sl + n) (a :: sf) → Ext h h' → Exa Z h' a C → (∀ {O nm d : String} {ty : FieldType}, Laid Z a0 C O nm d → parseFieldDescriptor d = some ty → Fld Z h' a O nm d (defaultValue ty)) → h.size ≤ a → Z.heap.size ≤ a → Go p e below G T' (mkF m pc' L (.ref a :: S)))
    (hc : ce + 1 ≤ R.cells := by decide) (hs : sl + n ≤ R.slots := by decide) (hp : pc + 3 = pc' := by rfl) : Go p e below G T (mkF m pc L S) := by
  subst hp
  obtain ⟨vm0, k0, locs, X, eT, hS, hk, hZ, hown, hF, hN, hC, hsf, hE, ⟨a1, hEL⟩, hx, hby, hml, hnm, hrt, hlk⟩ := W
  subst hby
  obtain ⟨T', h', X', e', E, A, D, -, st⟩ := newO X hx hZ hown w wi wz eT (g := mkF m pc L S) rfl hd hc hs
  refine (K T' h' h.size ⟨vm0, k0, locs, X', e', hS, Nat.le_trans hk E.1, hZ, hown, hF, hN, hC.trans (CHr.ext E hC.1), fun x q => ?_, own_ext_trans hE E, ⟨a1, hEL⟩, hx, rfl, hml, hnm, hrt, hlk⟩ E A D (Nat.le_refl _) hE.1).st st
  rcases List.mem_cons.mp q with rfl | q
  · exact ⟨A.lt, Safe.ext E hC.1 (Safe.new (Nat.le_refl _))⟩
  · exact ⟨Nat.lt_of_lt_of_le (hsf x q).1 E.1, Safe.ext E hC.1 (hsf x q).2⟩
theorem own_pad {a : Addr} {k : ClassId} {ty : FieldType} {z : Int32} {dv : Value} (n : Nat) (A : Arv Z h a k ty z [] dv) : Arv Z h a k ty z (List.replicate n dv) dv := A.pad fun i => by
  rw [List.getD_eq_getElem?_getD, List.getElem?_replicate]; split <;> simp
theorem o_newarray (pc' : Nat) (cap : Nat) (W : Wk p l e R s m args below meth c Z y bytes maxL ret T h ce sl sf) {aty : ArrayType} {n : Int32} (w : (Jvm.Cond.arrayClass (newarray.typeOf aty)).before a0 Z = true) (hd : decode bytes pc = .ok (.newarray aty, 2)) (hn : ¬ n < 0) (hcap : n.toNatClampNeg ≤ cap)
    (K : ∀ T' h' a k, Wk p l e R s m args below meth c Z y bytes maxL ret T' h' (ce + 1) (sl + cap) (a :: sf) → Ext h h' → Arv Z h' a k (newarray.typeOf aty) n [] (defaultValue (newarray.typeOf aty)) → h.size ≤ a → Z.heap.size ≤ a → Go p e below G T' (mkF m pc' L (.ref a :: S)))
    (hb : cap * 8 ≤ 536870912 := by decide) (hc : ce + 1 ≤ R.cells := by decide) (hs : sl + cap ≤ R.slots := by decide) (hp : pc + 2 = pc' := by rfl) : Go p e below G T (mkF m pc L (.int n :: S)) := by
  subst hp
  obtain ⟨vm0, k0, locs, X, eT, hS, hk, hZ, hown, hF, hN, hC, hsf, hE, ⟨a1, hEL⟩, hx, hby, hml, hnm, hrt, hlk⟩ := W
  subst hby
  obtain ⟨T', h', cA, X', e', E, A, st⟩ := newP X hx hZ w eT (g := mkF m pc L (.int n :: S)) rfl hd rfl hn hcap hb hc hs
  refine (K T' h' h.size cA ⟨vm0, k0, locs, X', e', hS, Nat.le_trans hk E.1, hZ, hown, hF, hN, hC.trans (CHr.ext E hC.1), fun x q => ?_, own_ext_trans hE E, ⟨a1, hEL⟩, hx, rfl, hml, hnm, hrt, hlk⟩ E (Arv.new A hn) (Nat.le_refl _) hE.1).st st
  rcases List.mem_cons.mp q with rfl | q
  · exact ⟨A.lt, Safe.ext E hC.1 (Safe.new (Nat.le_refl _))⟩
  · exact ⟨Nat.lt_of_lt_of_le (hsf x q).1 E.1, Safe.ext E hC.1 (hsf x q).2⟩
theorem o_putF (pc' : Nat) (W : Wk p l e R s m args below meth c Z y bytes maxL ret T h ce sl sf) {i kk : Nat} {R0 O n d C : String} {ty : FieldType} {a : Addr} {v old : Value} (w : (Jvm.Cond.fieldLink y.cls i R0 n d).before a0 Z = true) (F : Fld Z h a O n d old) (E : Exa Z h a C) (Lz : (Jvm.Cond.lays C O n d).before a0 Z = true ∨ ((Jvm.Cond.laysFinal C O n d).before a0 Z = true ∧ y.cls = O ∧ y.name = "<init>")) (wi : (Jvm.Cond.instantiable C kk).before a0 Z = true) (hty : parseFieldDescriptor d = some ty) (hn : narrow ty v = v) (hf : fits ty v = true) (hsafe : a ∈ sf ∨ (C ≠ "java/lang/String" ∧ C ≠ "[B")) (ha : Z.heap.size ≤ a) (hd : decode bytes pc = .ok (.putfield i, 3))
    (K : ∀ T' h', Wk p l e R s m args below meth c Z y bytes maxL ret T' h' ce sl sf → Wr h h' a (Jvm.RoadKit.slotOf Z O n d) v → Go p e below G T' (mkF m pc' L S)) (via : Via Z R0 O n d := by exact Via.refl) (hp : pc + 3 = pc' := by rfl) : Go p e below G T (mkF m pc L (v :: .ref a :: S)) := by
  subst hp
  obtain ⟨vm0, k0, locs, X, eT, hS, hk, hZ, hown, hF, hN, hC, hsf, hE, ⟨a1, hEL⟩, hx, hby, hml, hnm, hrt, hlk⟩ := W
  subst hby
  have hsa : Safe Z own_EL vm0 h a := hsafe.elim (fun q => (hsf a q).2) fun q => Safe.exa hZ.alike E q.1 q.2
  obtain ⟨T', h', X', e', Wr0, st⟩ := putF X hx hZ hown (host := "") (Or.inl w) via eT F E (Lz.imp id fun q => ⟨q.1, q.2.1, hnm.trans q.2.2⟩) wi hty hn hf (g := mkF m pc L (v :: .ref a :: S)) rfl rfl hd
  exact (K T' h' ⟨vm0, k0, _, X', e', hS, Nat.le_trans hk (Nat.le_of_eq Wr0.size.symm), hZ, hown, Fr.snoc X' hF ha, hN, hC.trans (CHr.wr Wr0 hsa hC.1), fun x q => ⟨Nat.lt_of_lt_of_le (hsf x q).1 (Nat.le_of_eq Wr0.size.symm), Safe.wr Wr0 hsa hC.1 (hsf x q).2⟩, own_ext_wr hE Wr0 ha, ⟨a1, hEL⟩, hx, rfl, hml, hnm, hrt, hlk⟩ Wr0).st st
theorem o_initO (pc' : Nat) (W : Wk p l e R s m args below meth c Z y bytes maxL ret T h ce sl sf) {i : Nat} {a : Addr} (w1 : (Jvm.Cond.methodLink y.cls i Lib.objectInit).before a0 Z = true) (w2 : (Jvm.Cond.instanceMethod Lib.objectInit).before a0 Z = true) (w3 : (Jvm.Cond.code Lib.objectInit ⟨#[0xb1]⟩ 1 none).before a0 Z = true) (hd : decode bytes pc = .ok (.invokespecial i, 3)) (K : ∀ T', Wk p l e R s m args below meth c Z y bytes maxL ret T' h ce sl sf → Go p e below G T' (mkF m pc' L S)) (hsz : L.size = maxL := by rfl) (hf : 1 ≤ R.frames := by decide) (hl : (S.map fun v => v.category).sum + 12 ≤ R.locals := by first | decide | exact Nat.le_of_ble_eq_true rfl) (hp : pc + 3 = pc' := by rfl) : Go p e below G T (mkF m pc L (.ref a :: S)) := by
  subst hp
  obtain ⟨vm0, k0, locs, X, eT, hS, hk, hZ, hown, hF, hN, hC, hsf, hE, ⟨a1, hEL⟩, hx, hby, hml, hnm, hrt, hlk⟩ := W
  subst hby
  obtain ⟨T', X', e', st⟩ := initO X hx hZ hown w1 w2 w3 eT (g := mkF m pc L (.ref a :: S)) rfl (by rw [hml]; exact hsz) rfl hd hf (W := (S.map fun v => v.category).sum) (by show 2 * 0 + _ ≤ _; omega) hl
  exact (K T' ⟨vm0, k0, locs, X', e', hS, hk, hZ, hown, hF, hN, hC, hsf, hE, ⟨a1, hEL⟩, hx, rfl, hml, hnm, hrt, hlk⟩).st st
theorem o_castore (pc' : Nat) (i : Nat) (W : Wk p l e R s m args below meth c Z y bytes maxL ret T h ce sl sf) {a : Addr} {k : ClassId} {z j x : Int32} {vs : List Value} {dv : Value} (A : Arv Z h a k .char z vs dv) (hj : ¬ j < 0 ∧ j < z) (hi : j.toNatClampNeg = i) (hlt : i < vs.length)  (ha : Z.heap.size ≤ a) (hd : decode bytes pc = .ok (.castore, 1))
    (K : ∀ T' h', Wk p l e R s m args below meth c Z y bytes maxL ret T' h' ce sl sf → Wr h h' a j.toNatClampNeg (.int (nar .char x)) → Arv Z h' a k .char z (vs.set i (.int (nar .char x))) dv → Go p e below G T' (mkF m pc' L S)) (hp : pc + 1 = pc' := by rfl) : Go p e below G T (mkF m pc L (.int x :: .int j :: .ref a :: S)) := by
  subst hp
  obtain ⟨vm0, k0, locs, X, eT, hS, hk, hZ, hown, hF, hN, hC, hsf, hE, ⟨a1, hEL⟩, hx, hby, hml, hnm, hrt, hlk⟩ := W
  subst hby
  obtain ⟨cl, A1, A2, A3, A4, A5, A6⟩ := A
  have hsa : Safe Z own_EL vm0 h a := Safe.arr hZ.alike A1 (by decide)
  obtain ⟨T', h', X', e', Wr0, st⟩ := stC X hx hZ eT A1 (inb_of A3 hj) (g := mkF m pc L (.int x :: .int j :: .ref a :: S)) rfl rfl hd
  exact (K T' h' ⟨vm0, k0, _, X', e', hS, Nat.le_trans hk (Nat.le_of_eq Wr0.size.symm), hZ, hown, Fr.snoc X' hF ha, hN, hC.trans (CHr.wr Wr0 hsa hC.1), fun x q => ⟨Nat.lt_of_lt_of_le (hsf x q).1 (Nat.le_of_eq Wr0.size.symm), Safe.wr Wr0 hsa hC.1 (hsf x q).2⟩, own_ext_wr hE Wr0 ha, ⟨a1, hEL⟩, hx, rfl, hml, hnm, hrt, hlk⟩ Wr0 (Arv.set A1 A2 A3 A4 A5 A6 (fits_nar_char x) Wr0 i hi hlt)).st st
theorem o_bastore (pc' : Nat) (i : Nat) (W : Wk p l e R s m args below meth c Z y bytes maxL ret T h ce sl sf) {a : Addr} {k : ClassId} {z j x : Int32} {vs : List Value} {dv : Value} (A : Arv Z h a k .byte z vs dv) (hj : ¬ j < 0 ∧ j < z) (hi : j.toNatClampNeg = i) (hlt : i < vs.length) (hsafe : a ∈ sf) (ha : Z.heap.size ≤ a) (hd : decode bytes pc = .ok (.bastore, 1))
    (K : ∀ T' h', Wk p l e R s m args below meth c Z y bytes maxL ret T' h' ce sl sf → Wr h h' a j.toNatClampNeg (.int (nar .byte x)) → Arv Z h' a k .byte z (vs.set i (.int (nar .byte x))) dv → Go p e below G T' (mkF m pc' L S)) (hp : pc + 1 = pc' := by rfl) : Go p e below G T (mkF m pc L (.int x :: .int j :: .ref a :: S)) := by
  subst hp
  obtain ⟨vm0, k0, locs, X, eT, hS, hk, hZ, hown, hF, hN, hC, hsf, hE, ⟨a1, hEL⟩, hx, hby, hml, hnm, hrt, hlk⟩ := W
  subst hby
  obtain ⟨cl, A1, A2, A3, A4, A5, A6⟩ := A
  have hsa : Safe Z own_EL vm0 h a := (hsf a hsafe).2
  obtain ⟨T', h', X', e', Wr0, st⟩ := stB X hx hZ eT A1 (inb_of A3 hj) (g := mkF m pc L (.int x :: .int j :: .ref a :: S)) rfl rfl hd
  exact (K T' h' ⟨vm0, k0, _, X', e', hS, Nat.le_trans hk (Nat.le_of_eq Wr0.size.symm), hZ, hown, Fr.snoc X' hF ha, hN, hC.trans (CHr.wr Wr0 hsa hC.1), fun x q => ⟨Nat.lt_of_lt_of_le (hsf x q).1 (Nat.le_of_eq Wr0.size.symm), Safe.wr Wr0 hsa hC.1 (hsf x q).2⟩, own_ext_wr hE Wr0 ha, ⟨a1, hEL⟩, hx, rfl, hml, hnm, hrt, hlk⟩ Wr0 (Arv.set A1 A2 A3 A4 A5 A6 (fits_nar_byte x) Wr0 i hi hlt)).st st
theorem o_iastore (pc' : Nat) (i : Nat) (W : Wk p l e R s m args below meth c Z y bytes maxL ret T h ce sl sf) {a : Addr} {k : ClassId} {z j x : Int32} {vs : List Value} {dv : Value} (A : Arv Z h a k .int z vs dv) (hj : ¬ j < 0 ∧ j < z) (hi : j.toNatClampNeg = i) (hlt : i < vs.length)  (ha : Z.heap.size ≤ a) (hd : decode bytes pc = .ok (.iastore, 1))
    (K : ∀ T' h', Wk p l e R s m args below meth c Z y bytes maxL ret T' h' ce sl sf → Wr h h' a j.toNatClampNeg (.int x) → Arv Z h' a k .int z (vs.set i (.int x)) dv → Go p e below G T' (mkF m pc' L S)) (hp : pc + 1 = pc' := by rfl) : Go p e below G T (mkF m pc L (.int x :: .int j :: .ref a :: S)) := by
  subst hp
  obtain ⟨vm0, k0, locs, X, eT, hS, hk, hZ, hown, hF, hN, hC, hsf, hE, ⟨a1, hEL⟩, hx, hby, hml, hnm, hrt, hlk⟩ := W
  subst hby
  obtain ⟨cl, A1, A2, A3, A4, A5, A6⟩ := A
  have hsa : Safe Z own_EL vm0 h a := Safe.arr hZ.alike A1 (by decide)
  obtain ⟨T', h', X', e', Wr0, st⟩ := stI X hx hZ eT A1 (inb_of A3 hj) (g := mkF m pc L (.int x :: .int j :: .ref a :: S)) rfl rfl hd
  exact (K T' h' ⟨vm0, k0, _, X', e', hS, Nat.le_trans hk (Nat.le_of_eq Wr0.size.symm), hZ, hown, Fr.snoc X' hF ha, hN, hC.trans (CHr.wr Wr0 hsa hC.1), fun x q => ⟨Nat.lt_of_lt_of_le (hsf x q).1 (Nat.le_of_eq Wr0.size.symm), Safe.wr Wr0 hsa hC.1 (hsf x q).2⟩, own_ext_wr hE Wr0 ha, ⟨a1, hEL⟩, hx, rfl, hml, hnm, hrt, hlk⟩ Wr0 (Arv.set A1 A2 A3 A4 A5 A6 (rfl) Wr0 i hi hlt)).st st
theorem o_arraycopy (pc' : Nat) (W : Wk p l e R s m args below meth c Z y bytes maxL ret T h ce sl sf) {i : Nat} {a b : Addr} {k k' : ClassId} {z z' sp dp nn : Int32} {vs vd us : List Value} {dv dd : Value} {ty : FieldType} (w1 : (Jvm.Cond.methodLink y.cls i Jvm.Stand.acN).before a0 Z = true) (w2 : (Jvm.Cond.native Jvm.Stand.acN).before a0 Z = true) (w3 : (Jvm.Cond.static Jvm.Stand.acN).before a0 Z = true) (w4 : (Jvm.Cond.initialized "java/lang/System").before a0 Z = true) (A : Arv Z h a k ty z vs dv) (B : Arv Z h b k' ty z' vd dd) (hty : refKind ty = false)
    (h1 : ¬ sp < 0) (h2 : ¬ dp < 0) (h3 : ¬ nn < 0) (h4 : sp.toNatClampNeg + nn.toNatClampNeg ≤ z.toNatClampNeg) (h5 : dp.toNatClampNeg + nn.toNatClampNeg ≤ z'.toNatClampNeg) (hus : us = (List.range nn.toNatClampNeg).map fun i => vs.getD (sp.toNatClampNeg + i) dv) (hlv : dp.toNatClampNeg + nn.toNatClampNeg ≤ vd.length) (hsafe : b ∈ sf) (hb : Z.heap.size ≤ b) (hd : decode bytes pc = .ok (.invokestatic i, 3))
    (K : ∀ T' h', Wk p l e R s m args below meth c Z y bytes maxL ret T' h' ce sl sf → Keep h h' [b] → Arv Z h' b k' ty z' (vd.take dp.toNatClampNeg ++ us ++ vd.drop (dp.toNatClampNeg + nn.toNatClampNeg)) dd → Go p e below G T' (mkF m pc' L S)) (hsz : L.size = maxL := by rfl) (hf : 1 ≤ R.frames := by decide) (hl : (S.map fun v => v.category).sum + (nativeFrameWords "java/lang/System" "arraycopy" 5 + 11) ≤ R.locals := by first | decide | exact Nat.le_of_ble_eq_true rfl) (hp : pc + 3 = pc' := by rfl) : Go p e below G T (mkF m pc L (.int nn :: .int dp :: .ref b :: .int sp :: .ref a :: S)) := by
  subst hp
  obtain ⟨vm0, k0, locs, X, eT, hS, hk, hZ, hown, hF, hN, hC, hsf, hE, ⟨a1, hEL⟩, hx, hby, hml, hnm, hrt, hlk⟩ := W
  subst hby
  obtain ⟨T', h', L', X', e', N', Kp, A', st⟩ := cpA X hx hZ hown w1 w2 w3 w4 eT A B (Or.inl ⟨rfl, hty⟩) h1 h2 h3 h4 h5 hus hlv hF hb (g := mkF m pc L (.int nn :: .int dp :: .ref b :: .int sp :: .ref a :: S)) rfl (by rw [hml]; exact hsz) rfl hd hf (W := (S.map fun v => v.category).sum) (by show 2 * 0 + _ ≤ _; omega) hl
  have hs1 : ∀ x ∈ [b], Safe Z own_EL vm0 h x := fun x q => by rw [List.mem_singleton.mp q]; exact (hsf b hsafe).2
  have hE' : Ext Z.heap h' := ⟨Nat.le_trans hE.1 Kp.1, fun x cc r => Kp.2.1 x cc (hE.2 x cc r) fun q => by
    have hlt := (Array.getElem?_eq_some_iff.mp r).1
    rw [List.mem_singleton.mp q] at hlt; omega⟩
  exact (K T' h' ⟨vm0, k0, L', X', e', hS, Nat.le_trans hk Kp.1, hZ, hown, N', hN, hC.trans (CHr.keep Kp hs1 hC.1), fun x q => ⟨Nat.lt_of_lt_of_le (hsf x q).1 Kp.1, Safe.keep Kp hs1 hC.1 (hsf x q).2⟩, hE', ⟨a1, hEL⟩, hx, rfl, hml, hnm, hrt, hlk⟩ Kp A').st st
theorem o_clone (pc' : Nat) (cap : Nat) (W : Wk p l e R s m args below meth c Z y bytes maxL ret T h ce sl sf) {i : Nat} {ad : String} {a : Addr} {k : ClassId} {ty : FieldType} {z : Int32} {vs : List Value} {dv : Value} (w1 : (Jvm.Cond.methodLink y.cls i ⟨ad, "clone", "()Ljava/lang/Object;"⟩).before a0 Z = true) (w2 : (Jvm.Cond.sameMethod ad "java/lang/Object" "clone" "()Ljava/lang/Object;").before a0 Z = true) (w3 : (Jvm.Cond.native ⟨"java/lang/Object", "clone", "()Ljava/lang/Object;"⟩).before a0 Z = true) (w4 : (Jvm.Cond.instanceMethod ⟨"java/lang/Object", "clone", "()Ljava/lang/Object;"⟩).before a0 Z = true) (w5 : (Jvm.Cond.selects ad ⟨ad, "clone", "()Ljava/lang/Object;"⟩ ⟨"java/lang/Object", "clone", "()Ljava/lang/Object;"⟩).before a0 Z = true) (w6 : (Jvm.Cond.castable ad "java/lang/Cloneable").before a0 Z = true) (F : Arv Z h a k ty z vs dv) (E : Exa Z h a ad) (hd : decode bytes pc = .ok (.invokevirtual i, 3)) (hcap : z.toNatClampNeg ≤ cap)
    (K : ∀ T' h' b, Wk p l e R s m args below meth c Z y bytes maxL ret T' h' (ce + 1) (sl + cap) (b :: sf) → Ext h h' → Arv Z h' b k ty z vs dv → Exa Z h' b ad → h.size ≤ b → Z.heap.size ≤ b → Go p e below G T' (mkF m pc' L (.ref b :: S))) (hsz : L.size = maxL := by rfl) (hf : 1 ≤ R.frames := by decide) (hl : (S.map fun v => v.category).sum + 14 ≤ R.locals := by first | decide | exact Nat.le_of_ble_eq_true rfl) (hc : ce + 1 ≤ R.cells := by decide) (hs : sl + cap ≤ R.slots := by decide) (hp : pc + 3 = pc' := by rfl) : Go p e below G T (mkF m pc L (.ref a :: S)) := by
  subst hp
  obtain ⟨vm0, k0, locs, X, eT, hS, hk, hZ, hown, hF, hN, hC, hsf, hE, ⟨a1, hEL⟩, hx, hby, hml, hnm, hrt, hlk⟩ := W
  subst hby
  obtain ⟨T', h', X', e', Ee, A, Ex, st⟩ := cloneH X hx hZ hown w1 w2 w3 w4 w5 w6 eT (hs := []) F E (g := mkF m pc L (.ref a :: S)) rfl (by rw [hml]; exact hsz) rfl hd hf (W := (S.map fun v => v.category).sum) (by show 2 * 0 + _ ≤ _; omega) hl hcap hc hs
  refine (K T' h' h.size ⟨vm0, k0, locs, X', e', hS, Nat.le_trans hk Ee.1, hZ, hown, hF, hN, hC.trans (CHr.ext Ee hC.1), fun x q => ?_, own_ext_trans hE Ee, ⟨a1, hEL⟩, hx, rfl, hml, hnm, hrt, hlk⟩ Ee A Ex (Nat.le_refl _) hE.1).st st
  rcases List.mem_cons.mp q with rfl | q
  · exact ⟨Ex.lt, Safe.ext Ee hC.1 (Safe.new (Nat.le_refl _))⟩
  · exact ⟨Nat.lt_of_lt_of_le (hsf x q).1 Ee.1, Safe.ext Ee hC.1 (hsf x q).2⟩
theorem own_ew {a1 a2 : Array Value} (E : EW Z a1 own_EL) : EW Z a2 own_EL := fun q hq => by
  obtain ⟨t, h1, h2⟩ := E q hq
  exact ⟨t, mvS (s := Z) (vm0 := Z.vm) (State.Warmed39.refl Z) h1, h2⟩
theorem o_ldcS (pc' : Nat) (n : Nat) (W : Wk p l e R s m args below meth c Z y bytes maxL ret T h ce sl sf) {i : Nat} {text : String} (hnar : ¬ own_Nar) (w : (Jvm.Cond.stringLink y.cls i text).before a0 Z = true) (wS : ∀ a ∈ Bundle.stringAtoms, a.before a0 Z = true) (hd : decode bytes pc = .ok (.ldc i, 2)) (hn : 4 * text.toList.length ≤ n)
    (K : ∀ T' h' a, Wk p l e R s m args below meth c Z y bytes maxL ret T' h' (ce + 2) (sl + (n + 4)) sf → Ext h h' → Go p e below G T' (mkF m pc' L (.ref a :: S))) (hbig : n ≤ 536870912 := by decide) (hc : ce + 2 ≤ R.cells := by decide) (hs : sl + (n + 4) ≤ R.slots := by decide) (hp : pc + 2 = pc' := by rfl) : Go p e below G T (mkF m pc L S) := by
  subst hp
  obtain ⟨vm0, k0, locs, X, eT, hS, hk, hZ, hown, hF, hN, hC, hsf, hE, ⟨a1, hEL⟩, hx, hby, hml, hnm, hrt, hlk⟩ := W
  subst hby
  obtain ⟨a, T', h', k1, X', e', E, hS', hk', hZ', hown', hC', -, st⟩ := ldcOH X hx hZ hown w wS eT hS hk (own_ew hEL) hC.1 (g := mkF m pc L S) rfl hd hn hbig hc hs
  exact (K T' h' a ⟨T'.vm, k1, locs, X', e', hS', hk', hZ', hown', hF, fun q => absurd q hnar, hC.trans hC', fun x q => ⟨Nat.lt_of_lt_of_le (hsf x q).1 E.1, hC'.safe (hsf x q).1 (hsf x q).2⟩, own_ext_trans hE E, ⟨a1, hEL⟩, hx, rfl, hml, hnm, hrt, hlk⟩ E).st st
theorem o_ldcC (pc' : Nat) (n : Nat) (W : Wk p l e R s m args below meth c Z y bytes maxL ret T h ce sl sf) {i : Nat} {text : String} {vs : List Value} {z : Int32} (hnar : ¬ own_Nar) (w : (Jvm.Cond.stringLink y.cls i text).before a0 Z = true) (wS : ∀ a ∈ Bundle.stringAtoms, a.before a0 Z = true) (hmem : (y.cls, i) ∈ own_EL) (ht : (∀ c ∈ text.toList, c.toNat < 256) ∧ text.toList.map (fun c => Value.int (Jvm.Lit.byteI c.toNat.toUInt16)) = vs) (hz : ¬ z < 0) (hzl : z.toNatClampNeg = vs.length) (hd : decode bytes pc = .ok (.ldc i, 2)) (hn : 4 * text.toList.length ≤ n)
    (K : ∀ T' h' a b k, Wk p l e R s m args below meth c Z y bytes maxL ret T' h' (ce + 2) (sl + (n + 4)) sf → Ext h h' → Exa Z h' a "java/lang/String" → Fld Z h' a "java/lang/String" "coder" "B" (.int 0) → Fld Z h' a "java/lang/String" "value" "[B" (.ref b) → Arv Z h' b k .byte z vs (.int 0) → (∀ x ∈ sf, x ≠ a ∧ x ≠ b) → Go p e below G T' (mkF m pc' L (.ref a :: S))) (hbig : n ≤ 536870912 := by decide) (hc : ce + 2 ≤ R.cells := by decide) (hs : sl + (n + 4) ≤ R.slots := by decide) (hp : pc + 2 = pc' := by rfl) : Go p e below G T (mkF m pc L S) := by
  subst hp
  obtain ⟨vm0, k0, locs, X, eT, hS, hk, hZ, hown, hF, hN, hC, hsf, hE, ⟨a1, hEL⟩, hx, hby, hml, hnm, hrt, hlk⟩ := W
  subst hby
  obtain ⟨a, T', h', k1, b, k, X', e', E, hS', hk', hZ', hown', q1, q2, q3, q4, q5, q6, hC', -, hsaf, st⟩ := ldcCH X hx hZ hown w wS eT hS hk (own_ew hEL) hmem hC.1 ht hz hzl (g := mkF m pc L S) rfl hd hn hbig hc hs
  exact (K T' h' a b k ⟨T'.vm, k1, locs, X', e', hS', hk', hZ', hown', hF, fun q => absurd q hnar, hC.trans hC', fun x q => ⟨Nat.lt_of_lt_of_le (hsf x q).1 E.1, hC'.safe (hsf x q).1 (hsf x q).2⟩, own_ext_trans hE E, ⟨a1, hEL⟩, hx, rfl, hml, hnm, hrt, hlk⟩ E q1 q2 q3 q4 fun x q => hsaf x (hC'.safe (hsf x q).1 (hsf x q).2)).st st
/-- what a body's end leaves -/
def Gd (s : State) (below : List Frame) (Z : State) (Q : Option Value → Heap → Prop) (kc ks : Nat) (u : State) : Prop := u.status = .running ∧ ∃ (v : Option Value) (Lc : List Loc), Ended u below (.returned v) ∧ Q v u.heap ∧ Fr Z.heap.size Lc ∧ CHr Z own_EL s.vm s.heap u.vm u.heap ∧ Ext Z.heap u.heap ∧ (own_Nar → s.WarmedH u.vm) ∧ ReturnedEndW s (.returned v) u Lc kc ks
/-- a body's contract: from the heap h0, with the arguments as', it returns and leaves Q -/
def Con (l : Launch) (Z : State) (y : MethodName) (bytes : ByteArray) (maxL : Nat) (ret : Option FieldType) (rm : Room) (as' : Array Value) (h0 : Heap) (sf0 : List Addr) (Q : Option Value → Heap → Prop) : Prop :=
  ∀ ws : List Jvm.Cond, MetFree l y (head1 (Jvm.Cond.code y bytes maxL ret :: ws) rm) (fun a U => a = as' ∧ Z.Warmed39 U.vm ∧ U.heap = h0 ∧ CHv Z own_EL U.vm h0 ∧ ∀ x ∈ sf0, Safe Z own_EL U.vm h0 x) (fun _ _ _ _ _ => True)
    (fun _ U o U' => ∃ v Lc, o = .returned v ∧ Q v U'.heap ∧ Fr Z.heap.size Lc ∧ CHr Z own_EL U.vm U.heap U'.vm U'.heap ∧ Ext Z.heap U'.heap ∧ (own_Nar → U.WarmedH U'.vm) ∧ ReturnedEndW U o U' Lc rm.cells rm.slots)
/-- a value is returned -/
abbrev QV (Q : Value → Heap → Prop) (v : Option Value) (h : Heap) : Prop := ∃ w, v = some w ∧ Q w h
/-- nothing is returned -/
abbrev Q0 (Q : Heap → Prop) (v : Option Value) (h : Heap) : Prop := v = none ∧ Q h
theorem Con.of {rm : Room} {as' : Array Value} {h0 : Heap} {sf0 : List Addr} {Q : Option Value → Heap → Prop} {L0 : Array Slot} (hp : plainFor y = true) (hE : Ext Z.heap h0) (hEL : ∃ a1, EW Z a1 own_EL) (hsf : ∀ x ∈ sf0, x < h0.size)
    (hent : ∀ m : MethodId, entryFrame m as' maxL = mkF m 0 L0 [])
    (body : ∀ (p : Program) (e : Env) (s : State) (m : MethodId) (args : Array Value) (below : List Frame) (meth : Method) (c : Code) (T : State), Wk p l e rm s m args below meth c Z y bytes maxL ret T h0 0 0 sf0 → Go p e below (Gd s below Z Q rm.cells rm.slots) T (mkF m 0 L0 [])) :
    Con l Z y bytes maxL ret rm as' h0 sf0 Q := by
  intro ws
  refine MetFree.of_bodySF hp hisR ?_
  intro p e s m args below meth c s₁ Bd hml hP hK
  obtain ⟨rfl, hZ, hh, hCH, hsaf⟩ := hP
  have X0 : Stand p l e rm (s.setVm s.vm) m args below meth c s₁ [] 0 0 := Stand.of_body Bd
  have e0 : s₁.heap = h0 := by rw [← hh, Bd.state]; rfl
  have hlk : meth.locks = false := by first | exact Bd.notSynchronized | exact BodyLoose.notSynchronized Bd
  have W : Wk p l e rm s m args below meth c Z y bytes maxL ret s₁ h0 0 0 sf0 :=
    ⟨s.vm, 0, [], X0, e0, (State.WarmedH.refl s).since 0, Nat.zero_le _, hZ, findClass_of_methodNamed Bd.named, Fr.nil _, fun _ => State.WarmedH.refl s, by rw [hh]; exact CHr.refl hCH, fun x hx => ⟨hsf x hx, hsaf x hx⟩, hE, hEL, Bd.exec, Bd.bytes, hml, (name_of_methodNamed Bd.named Bd.method).1, Bd.returns, hlk⟩
  obtain ⟨u, k, g1, v, Lc, g2, g3, g4, g5, g6, g7, g8⟩ := body p e s m args below meth c s₁ W
  exact ⟨u, _, castTop (hent m) k, g1, g2, v, Lc, rfl, g3, g4, g5, g6, g7, g8⟩
theorem o_end {Q : Option Value → Heap → Prop} {kc ks : Nat} (W : Wk p l e R s m args below meth c Z y bytes maxL ret T h ce sl sf) {v : Option Value} {g : JFrame} (hv : meth.sig.returnType = none → v = none) (hq : Q v h) (hc : ce ≤ kc) (hs : sl ≤ ks)
    (K : ∀ fs : List Frame, (∀ (f : JFrame) (acts : List Action), f.method = m → f.locked = none → f.entered = [] → (doReturn e (T.setTop f) acts v).1 = T.setFrames fs) → Steps p.tables e below (T.setTop g) (T.setFrames fs)) : Go p e below (Gd s below Z Q kc ks) T g := by
  obtain ⟨vm0, k0, locs, X, eT, hS, hk, hZ, hown, hF, hN, hC, hsf, hE, ⟨a1, hEL⟩, hx, hby, hml, hnm, hrt, hlk⟩ := W
  subst eT
  obtain ⟨fs, hr, hrun, hended, hW⟩ := (X.mono hc hs).leaveW hS hk (v := v) hv hlk
  have hC2 := hC.trans (CHv.at X hZ hEL hC.1)
  refine ⟨T.setFrames fs, K fs hr, hrun, v, locs, hended, hq, hF, hC2, hE, fun q => ?_, hW⟩
  exact State.WarmedH.trans (t := s.setVm vm0) (hN q) X.warmed
theorem o_iret {Q : Value → Heap → Prop} {kc ks : Nat} (W : Wk p l e R s m args below meth c Z y bytes maxL (some .int) T h ce sl sf) {x : Int32} (hd : decode bytes pc = .ok (.ireturn, 1)) (hq : Q (.int x) h) (hc : ce ≤ kc := by decide) (hs : sl ≤ ks := by decide) : Go p e below (Gd s below Z (QV Q) kc ks) T (mkF m pc L (.int x :: S)) := by
  have W2 := W
  obtain ⟨vm0, k0, locs, X, eT, hS, hk, hZ, hown, hF, hN, hC, hsf, hE, ⟨a1, hEL⟩, hx, hby, hml, hnm, hrt, hlk⟩ := W2
  subst hby
  exact o_end W (v := some (.int x)) (fun q => by rw [hrt] at q; cases q) ⟨_, rfl, hq⟩ hc hs fun fs hr => retOut X hx hrt rfl (Or.inl ⟨rfl, Or.inl rfl, x, rfl⟩) hd hr
theorem o_nret {Q : Value → Heap → Prop} {kc ks : Nat} {t : FieldType} (W : Wk p l e R s m args below meth c Z y bytes maxL (some t) T h ce sl sf) {x : Int32} (x' : Int32) (ht : t = .boolean ∨ t = .byte ∨ t = .char ∨ t = .short) (hn : nar t x = x') (hd : decode bytes pc = .ok (.ireturn, 1)) (hq : Q (.int x') h) (hc : ce ≤ kc := by decide) (hs : sl ≤ ks := by decide) : Go p e below (Gd s below Z (QV Q) kc ks) T (mkF m pc L (.int x :: S)) := by
  have W2 := W
  obtain ⟨vm0, k0, locs, X, eT, hS, hk, hZ, hown, hF, hN, hC, hsf, hE, ⟨a1, hEL⟩, hx, hby, hml, hnm, hrt, hlk⟩ := W2
  subst hby hn
  exact o_end W (v := some (.int (nar t x))) (fun q => by rw [hrt] at q; cases q) ⟨_, rfl, hq⟩ hc hs fun fs hr => retN X hx hrt ht hd hr
theorem o_aret {Q : Value → Heap → Prop} {kc ks : Nat} {t : FieldType} (W : Wk p l e R s m args below meth c Z y bytes maxL (some t) T h ce sl sf) {x : Value} (ht : t.isReference = true) (hv : x.isRef = true) (hn : narrow t x = x) (hd : decode bytes pc = .ok (.areturn, 1)) (hq : Q x h) (hc : ce ≤ kc := by decide) (hs : sl ≤ ks := by decide) : Go p e below (Gd s below Z (QV Q) kc ks) T (mkF m pc L (x :: S)) := by
  have W2 := W
  obtain ⟨vm0, k0, locs, X, eT, hS, hk, hZ, hown, hF, hN, hC, hsf, hE, ⟨a1, hEL⟩, hx, hby, hml, hnm, hrt, hlk⟩ := W2
  subst hby
  exact o_end W (v := some x) (fun q => by rw [hrt] at q; cases q) ⟨_, rfl, hq⟩ hc hs fun fs hr => retOut X hx hrt hn (Or.inr (Or.inr (Or.inr (Or.inr ⟨rfl, ht, hv⟩)))) hd hr
theorem o_ret {Q : Heap → Prop} {kc ks : Nat} (W : Wk p l e R s m args below meth c Z y bytes maxL none T h ce sl sf) (hd : decode bytes pc = .ok (.return_, 1)) (hq : Q h) (hc : ce ≤ kc := by decide) (hs : sl ≤ ks := by decide) : Go p e below (Gd s below Z (Q0 Q) kc ks) T (mkF m pc L []) := by
  have W2 := W
  obtain ⟨vm0, k0, locs, X, eT, hS, hk, hZ, hown, hF, hN, hC, hsf, hE, ⟨a1, hEL⟩, hx, hby, hml, hnm, hrt, hlk⟩ := W2
  subst hby
  exact o_end W (v := none) (fun _ => rfl) ⟨rfl, hq⟩ hc hs fun fs hr => X.returnOut hx hrt hd hr
theorem own_back {vm0 : Vm} {y' : MethodName} {bytes' : ByteArray} {maxL' : Nat} {ret' : Option FieldType} {rm : Room} {as' : Array Value} {sf' : List Addr} {Q : Option Value → Heap → Prop} {len Wd : Nat} {a1 : Array Value} (C : Con l Z y' bytes' maxL' ret' rm as' h sf' Q) (hZ : Z.Warmed39 (s.setVm vm0).vm) (wc : (Jvm.Cond.code y' bytes' maxL' ret').before a0 Z = true) (wz : (Jvm.Cond.initialized y'.cls).before a0 Z = true)
    (hf : rm.frames + 1 ≤ R.frames) (hl : Wd + (maxL' + 11) + rm.locals ≤ R.locals) (hEL : EW Z a1 own_EL) (H : CHv Z own_EL vm0 h) (hsf : ∀ x ∈ sf', x < h.size ∧ Safe Z own_EL vm0 h x) :
    BackS l R p e below (s.setVm vm0) args y' len Wd (fun A a => a = as' ∧ A.U.heap = h ∧ A.cells + rm.cells ≤ R.cells ∧ A.slots + rm.slots ≤ R.slots)
      (fun A _ v B => ∃ Lc, Q v B.U.heap ∧ Fr Z.heap.size Lc ∧ B.locs = A.locs ++ Lc ∧ B.cells = A.cells + rm.cells ∧ B.slots = A.slots + rm.slots ∧ CHr Z own_EL vm0 h B.U.vm B.U.heap ∧ Ext Z.heap B.U.heap ∧ (own_Nar → A.U.WarmedH B.U.vm)) :=
  BackS.of_freeW (bytes := bytes') (maxL := maxL') (ret := ret') (E := fun _ first o t Lc k n => k = rm.cells ∧ n = rm.slots ∧ (∃ v, o = .returned v ∧ Q v t.heap) ∧ Fr Z.heap.size Lc ∧ CHr Z own_EL first.vm first.heap t.vm t.heap ∧ Ext Z.heap t.heap ∧ (own_Nar → first.WarmedH t.vm)) (C []) hf hl
    (fun m meth c A a Y hp => have hU : Z.Warmed39 A.U.vm := wtrans (s := s.setVm vm0) hZ Y.warmed
      ⟨by show (Jvm.Cond.and _ .tt).before a A.U = true; rw [Cond.before_and, mv hU wc]; rfl, mv hU wc, mv hU wz, hp.2.2.1, hp.2.2.2⟩)
    (fun m meth c A a g mk Y hp => ⟨hp.1, wtrans (s := s.setVm vm0) hZ Y.warmed, hp.2.1, (CHv.at Y hZ hEL H).1, fun x hx => (CHv.at Y hZ hEL H).safe (hsf x hx).1 (hsf x hx).2⟩) (fun _ _ _ _ _ _ _ _ _ => trivial)
    (fun _ _ _ _ ⟨v, Lc, h1, h2, h3, h4, h5, h6, h7⟩ => ⟨Lc, _, _, h7, rfl, rfl, ⟨v, h1, h2⟩, h3, h4, h5, h6⟩)
    (fun m meth c A a g mk v t Lc k n Y hp _ _ ⟨e1, e2, ⟨v', e3, e4⟩, e5, e6, e7, e8⟩ => by
      cases e3; subst e1 e2
      refine ⟨Lc, e4, e5, rfl, rfl, rfl, (CHv.at Y hZ hEL H).trans ?_, e7, fun q => ?_⟩
      · rw [← hp.2.1]; exact e6
      · exact e8 q)
theorem o_static (pc' : Nat) (A : List Value) (W : Wk p l e R s m args below meth c Z y bytes maxL ret T h ce sl sf) {y' : MethodName} {bytes' : ByteArray} {maxL' : Nat} {ret' : Option FieldType} {rm : Room} {sf' : List Addr} {Q : Option Value → Heap → Prop} {stk : List Value} {i : Nat} (w1 : (Jvm.Cond.methodLink y.cls i y').before a0 Z = true) (w2 : (Jvm.Cond.static y').before a0 Z = true) (wz : (Jvm.Cond.initialized y'.cls).before a0 Z = true) (wc : (Jvm.Cond.code y' bytes' maxL' ret').before a0 Z = true) (C : Con l Z y' bytes' maxL' ret' rm A.toArray h sf' Q) {ps : List FieldType} {rt : Option FieldType} (hpd : parseMethodDescriptor y'.desc = some ⟨ps, rt⟩) (hd : decode bytes pc = .ok (.invokestatic i, 3)) (hst : stk = A.reverse ++ S) (hsub : ∀ x ∈ sf', x ∈ sf) (K : ∀ T' h' v, Wk p l e R s m args below meth c Z y bytes maxL ret T' h' (ce + rm.cells) (sl + rm.slots) sf → Q v h' → h.size ≤ h'.size → Go p e below G T' (mkF m pc' L (v.toList ++ S))) (hsz : L.size = maxL := by rfl) (hln : A.length = ps.length := by rfl) (hy : y'.cls ≠ "java/lang/invoke/MethodHandle" ∧ y'.cls ≠ "java/lang/invoke/VarHandle" := by decide) (hf : rm.frames + 1 ≤ R.frames := by decide) (hl : (S.map fun v => v.category).sum + (maxL' + 11) + rm.locals ≤ R.locals := by first | decide | exact Nat.le_of_ble_eq_true rfl) (hc : ce + rm.cells ≤ R.cells := by decide) (hs : sl + rm.slots ≤ R.slots := by decide) (hp : pc + 3 = pc' := by rfl) : Go p e below G T (mkF m pc L stk) := by
  subst hp
  obtain ⟨vm0, k0, locs, X, eT, hS, hk, hZ, hown, hF, hN, hC, hsf, hE, ⟨a1, hEL⟩, hx, hby, hml, hnm, hrt, hlk⟩ := W
  subst hby
  obtain ⟨v, vm₁, ⟨T', locs', ce', sl'⟩, hW1, X', hS', hge, ⟨Lc, hQ, hFr, e1, e2, e3, hC', hE', hN'⟩, st⟩ := callSS X hx (y := y') hown (mvT hZ w1) (mvT hZ w2) (mvT hZ wz) (mvT hZ wc) hy (own_back (Wd := (S.map fun v => v.category).sum) C hZ wc wz hf hl hEL hC.1 fun x hx => hsf x (hsub x hx)) (g := mkF m pc L stk) rfl (by rw [hml]; exact hsz) (argsL := A) (rest := S) (lenOf hpd hln) hst (by show 2 * 0 + _ ≤ _; omega) hd (fun _ _ => ⟨rfl, eT, hc, hs⟩)
  dsimp only [Pt.U, Pt.locs, Pt.cells, Pt.slots] at X' hS' hge hQ e1 e2 e3 hC' hE' hN' st
  subst e1 e2 e3 eT
  refine (K T' T'.heap v ⟨T'.vm, T'.heap.size, locs ++ Lc, X', rfl, hS.trans hS' (Nat.le_trans hk hge), Nat.le_refl _, State.Warmed39.trans (t := s.setVm vm0) hZ hS'.1, by rw [show (s.setVm T'.vm).vm = T'.vm from rfl, hS'.1.alike.findClass]; exact hown, hF.app hFr, fun q => ?_, hC.trans hC', fun x hx => ⟨Nat.lt_of_lt_of_le (hsf x hx).1 hge, hC'.safe (hsf x hx).1 (hsf x hx).2⟩, hE', ⟨a1, hEL⟩, hx, rfl, hml, hnm, hrt, hlk⟩ hQ hge).st fun u k => st.trans k
  exact State.WarmedH.trans (t := s.setVm vm0) (hN q) (State.WarmedH.trans (s := s.setVm vm0) (t := T.setVm vm₁) hW1 (hN' q))
theorem o_special (pc' : Nat) (A : List Value) (W : Wk p l e R s m args below meth c Z y bytes maxL ret T h ce sl sf) {y' : MethodName} {bytes' : ByteArray} {maxL' : Nat} {rm : Room} {sf' : List Addr} {Q : Option Value → Heap → Prop} {stk : List Value} {i : Nat} {a : Addr} (w1 : (Jvm.Cond.methodLink y.cls i y').before a0 Z = true) (w2 : (Jvm.Cond.instanceMethod y').before a0 Z = true) (wz : (Jvm.Cond.initialized y'.cls).before a0 Z = true) (wc : (Jvm.Cond.code y' bytes' maxL' none).before a0 Z = true) (C : Con l Z y' bytes' maxL' none rm (.ref a :: A).toArray h sf' Q) {ps : List FieldType} {rt : Option FieldType} (hpd : parseMethodDescriptor y'.desc = some ⟨ps, rt⟩) (hd : decode bytes pc = .ok (.invokespecial i, 3)) (hst : stk = A.reverse ++ .ref a :: S) (hsub : ∀ x ∈ sf', x ∈ sf) (K : ∀ T' h' v, Wk p l e R s m args below meth c Z y bytes maxL ret T' h' (ce + rm.cells) (sl + rm.slots) sf → Q v h' → h.size ≤ h'.size → Go p e below G T' (mkF m pc' L (v.toList ++ S))) (hin : y'.name = "<init>" := by rfl) (hsz : L.size = maxL := by rfl) (hln : A.length = ps.length := by rfl) (hy : y'.cls ≠ "java/lang/invoke/MethodHandle" ∧ y'.cls ≠ "java/lang/invoke/VarHandle" := by decide) (hf : rm.frames + 1 ≤ R.frames := by decide) (hl : (S.map fun v => v.category).sum + (maxL' + 11) + rm.locals ≤ R.locals := by first | decide | exact Nat.le_of_ble_eq_true rfl) (hc : ce + rm.cells ≤ R.cells := by decide) (hs : sl + rm.slots ≤ R.slots := by decide) (hp : pc + 3 = pc' := by rfl) : Go p e below G T (mkF m pc L stk) := by
  subst hp
  obtain ⟨vm0, k0, locs, X, eT, hS, hk, hZ, hown, hF, hN, hC, hsf, hE, ⟨a1, hEL⟩, hx, hby, hml, hnm, hrt, hlk⟩ := W
  subst hby
  obtain ⟨v, vm₁, ⟨T', locs', ce', sl'⟩, hW1, X', hS', hge, ⟨Lc, hQ, hFr, e1, e2, e3, hC', hE', hN'⟩, st⟩ := X.specialBackS hx (y := y') hin hown (mvT hZ w1) (mvT hZ w2) (mvT hZ wc) hy (own_back (Wd := (S.map fun v => v.category).sum) C hZ wc wz hf hl hEL hC.1 fun x hx => hsf x (hsub x hx)) (g := mkF m pc L stk) rfl (by rw [hml]; exact hsz) (Steps.refl _) (a := a) (argsL := A) (rest := S) (lenOf hpd hln) hst (by show 2 * 0 + _ ≤ _; omega) hd (fun _ _ => ⟨rfl, eT, hc, hs⟩)
  dsimp only [Pt.U, Pt.locs, Pt.cells, Pt.slots] at X' hS' hge hQ e1 e2 e3 hC' hE' hN' st
  subst e1 e2 e3 eT
  refine (K T' T'.heap v ⟨T'.vm, T'.heap.size, locs ++ Lc, X', rfl, hS.trans hS' (Nat.le_trans hk hge), Nat.le_refl _, State.Warmed39.trans (t := s.setVm vm0) hZ hS'.1, by rw [show (s.setVm T'.vm).vm = T'.vm from rfl, hS'.1.alike.findClass]; exact hown, hF.app hFr, fun q => ?_, hC.trans hC', fun x hx => ⟨Nat.lt_of_lt_of_le (hsf x hx).1 hge, hC'.safe (hsf x hx).1 (hsf x hx).2⟩, hE', ⟨a1, hEL⟩, hx, rfl, hml, hnm, hrt, hlk⟩ hQ hge).st fun u k => st.trans k
  exact State.WarmedH.trans (t := s.setVm vm0) (hN q) (State.WarmedH.trans (s := s.setVm vm0) (t := T.setVm vm₁) hW1 (hN' q))
theorem o_virtual (pc' : Nat) (A : List Value) (W : Wk p l e R s m args below meth c Z y bytes maxL ret T h ce sl sf) {y' : MethodName} {bytes' : ByteArray} {maxL' : Nat} {ret' : Option FieldType} {rm : Room} {sf' : List Addr} {Q : Option Value → Heap → Prop} {stk : List Value} {i : Nat} {a : Addr} {C0 : String} (w1 : (Jvm.Cond.methodLink y.cls i y').before a0 Z = true) (w2 : (Jvm.Cond.declares y').before a0 Z = true) (w3 : (Jvm.Cond.selects C0 y' y').before a0 Z = true) (w4 : (Jvm.Cond.instanceMethod y').before a0 Z = true) (wz : (Jvm.Cond.initialized y'.cls).before a0 Z = true) (wc : (Jvm.Cond.code y' bytes' maxL' ret').before a0 Z = true) (E : Exa Z h a C0) (C : Con l Z y' bytes' maxL' ret' rm (.ref a :: A).toArray h sf' Q) {ps : List FieldType} {rt : Option FieldType} (hpd : parseMethodDescriptor y'.desc = some ⟨ps, rt⟩) (hd : decode bytes pc = .ok (.invokevirtual i, 3)) (hst : stk = A.reverse ++ .ref a :: S) (hsub : ∀ x ∈ sf', x ∈ sf) (K : ∀ T' h' v, Wk p l e R s m args below meth c Z y bytes maxL ret T' h' (ce + rm.cells) (sl + rm.slots) sf → Q v h' → h.size ≤ h'.size → Go p e below G T' (mkF m pc' L (v.toList ++ S))) (hsz : L.size = maxL := by rfl) (hln : A.length = ps.length := by rfl) (hy : y'.cls ≠ "java/lang/invoke/MethodHandle" ∧ y'.cls ≠ "java/lang/invoke/VarHandle" := by decide) (hf : rm.frames + 1 ≤ R.frames := by decide) (hl : (S.map fun v => v.category).sum + (maxL' + 11) + rm.locals ≤ R.locals := by first | decide | exact Nat.le_of_ble_eq_true rfl) (hc : ce + rm.cells ≤ R.cells := by decide) (hs : sl + rm.slots ≤ R.slots := by decide) (hp : pc + 3 = pc' := by rfl) : Go p e below G T (mkF m pc L stk) := by
  subst hp
  obtain ⟨vm0, k0, locs, X, eT, hS, hk, hZ, hown, hF, hN, hC, hsf, hE, ⟨a1, hEL⟩, hx, hby, hml, hnm, hrt, hlk⟩ := W
  subst hby
  obtain ⟨cB, kB, qa, qb, qc⟩ := isOf (T := T) hZ eT E
  obtain ⟨v, vm₁, ⟨T', locs', ce', sl'⟩, hW1, X', hS', hge, ⟨Lc, hQ, hFr, e1, e2, e3, hC', hE', hN'⟩, st⟩ := X.virtualBackS hx (y := y') (z := y') hown (mvT hZ w1) (mvT hZ w2) (notFace_of_selects (args := args) (mvT hZ w3)) (mvT hZ w3) (mvT hZ w4) hy (own_back (Wd := (S.map fun v => v.category).sum) C hZ wc wz hf hl hEL hC.1 fun x hx => hsf x (hsub x hx)) qa qc (g := mkF m pc L stk) rfl (by rw [hml]; exact hsz) (Steps.refl _) (argsL := A) (rest := S) (lenOf hpd hln) hst (by show 2 * 0 + _ ≤ _; omega) hd (fun _ _ => ⟨rfl, eT, hc, hs⟩)
  dsimp only [Pt.U, Pt.locs, Pt.cells, Pt.slots] at X' hS' hge hQ e1 e2 e3 hC' hE' hN' st
  subst e1 e2 e3 eT
  refine (K T' T'.heap v ⟨T'.vm, T'.heap.size, locs ++ Lc, X', rfl, hS.trans hS' (Nat.le_trans hk hge), Nat.le_refl _, State.Warmed39.trans (t := s.setVm vm0) hZ hS'.1, by rw [show (s.setVm T'.vm).vm = T'.vm from rfl, hS'.1.alike.findClass]; exact hown, hF.app hFr, fun q => ?_, hC.trans hC', fun x hx => ⟨Nat.lt_of_lt_of_le (hsf x hx).1 hge, hC'.safe (hsf x hx).1 (hsf x hx).2⟩, hE', ⟨a1, hEL⟩, hx, rfl, hml, hnm, hrt, hlk⟩ hQ hge).st fun u k => st.trans k
  exact State.WarmedH.trans (t := s.setVm vm0) (hN q) (State.WarmedH.trans (s := s.setVm vm0) (t := T.setVm vm₁) hW1 (hN' q))
theorem o_virtualUp (pc' : Nat) (A : List Value) (W : Wk p l e R s m args below meth c Z y bytes maxL ret T h ce sl sf) {y' : MethodName} {bytes' : ByteArray} {maxL' : Nat} {ret' : Option FieldType} {rm : Room} {sf' : List Addr} {Q : Option Value → Heap → Prop} {stk : List Value} {i : Nat} {a : Addr} {C0 owner : String} {x' : MethodName} (w1 : (Jvm.Cond.methodLink y.cls i x').before a0 Z = true) (w2 : (Jvm.Cond.sameMethod x'.cls owner x'.name x'.desc).before a0 Z = true) (w5 : (Jvm.Cond.declares ⟨owner, x'.name, x'.desc⟩).before a0 Z = true) (w3 : (Jvm.Cond.selects C0 x' y').before a0 Z = true) (w4 : (Jvm.Cond.instanceMethod y').before a0 Z = true) (wz : (Jvm.Cond.initialized y'.cls).before a0 Z = true) (wc : (Jvm.Cond.code y' bytes' maxL' ret').before a0 Z = true) (E : Exa Z h a C0) (C : Con l Z y' bytes' maxL' ret' rm (.ref a :: A).toArray h sf' Q) {ps : List FieldType} {rt : Option FieldType} (hpd : parseMethodDescriptor x'.desc = some ⟨ps, rt⟩) (hd : decode bytes pc = .ok (.invokevirtual i, 3)) (hst : stk = A.reverse ++ .ref a :: S) (hsub : ∀ x ∈ sf', x ∈ sf) (K : ∀ T' h' v, Wk p l e R s m args below meth c Z y bytes maxL ret T' h' (ce + rm.cells) (sl + rm.slots) sf → Q v h' → h.size ≤ h'.size → Go p e below G T' (mkF m pc' L (v.toList ++ S))) (hsz : L.size = maxL := by rfl) (hln : A.length = ps.length := by rfl) (hy : owner ≠ "java/lang/invoke/MethodHandle" ∧ owner ≠ "java/lang/invoke/VarHandle" := by decide) (hf : rm.frames + 1 ≤ R.frames := by decide) (hl : (S.map fun v => v.category).sum + (maxL' + 11) + rm.locals ≤ R.locals := by first | decide | exact Nat.le_of_ble_eq_true rfl) (hc : ce + rm.cells ≤ R.cells := by decide) (hs : sl + rm.slots ≤ R.slots := by decide) (hp : pc + 3 = pc' := by rfl) : Go p e below G T (mkF m pc L stk) := by
  subst hp
  obtain ⟨vm0, k0, locs, X, eT, hS, hk, hZ, hown, hF, hN, hC, hsf, hE, ⟨a1, hEL⟩, hx, hby, hml, hnm, hrt, hlk⟩ := W
  subst hby
  obtain ⟨cB, kB, qa, qb, qc⟩ := isOf (T := T) hZ eT E
  obtain ⟨v, vm₁, ⟨T', locs', ce', sl'⟩, hW1, X', hS', hge, ⟨Lc, hQ, hFr, e1, e2, e3, hC', hE', hN'⟩, st⟩ := X.virtualBackUpS hx (x := x') (y := y') (owner := owner) hown (mvT hZ w1) (mvT hZ w2) (mvT hZ w5) hy (mvT hZ w3) (mvT hZ w4) (own_back (Wd := (S.map fun v => v.category).sum) C hZ wc wz hf hl hEL hC.1 fun x hx => hsf x (hsub x hx)) qa qc (g := mkF m pc L stk) rfl (by rw [hml]; exact hsz) (Steps.refl _) (argsL := A) (rest := S) (lenOf hpd hln) hst (by show 2 * 0 + _ ≤ _; omega) hd (fun _ _ => ⟨rfl, eT, hc, hs⟩)
  dsimp only [Pt.U, Pt.locs, Pt.cells, Pt.slots] at X' hS' hge hQ e1 e2 e3 hC' hE' hN' st
  subst e1 e2 e3 eT
  refine (K T' T'.heap v ⟨T'.vm, T'.heap.size, locs ++ Lc, X', rfl, hS.trans hS' (Nat.le_trans hk hge), Nat.le_refl _, State.Warmed39.trans (t := s.setVm vm0) hZ hS'.1, by rw [show (s.setVm T'.vm).vm = T'.vm from rfl, hS'.1.alike.findClass]; exact hown, hF.app hFr, fun q => ?_, hC.trans hC', fun x hx => ⟨Nat.lt_of_lt_of_le (hsf x hx).1 hge, hC'.safe (hsf x hx).1 (hsf x hx).2⟩, hE', ⟨a1, hEL⟩, hx, rfl, hml, hnm, hrt, hlk⟩ hQ hge).st fun u k => st.trans k
  exact State.WarmedH.trans (t := s.setVm vm0) (hN q) (State.WarmedH.trans (s := s.setVm vm0) (t := T.setVm vm₁) hW1 (hN' q))
end Own
theorem own_sx {Z : State} {args a0 : Array Value} {C n d K : String} (hx : (Jvm.Cond.exactly (Jvm.Term.static C n d) K).value args Z none Z [] = some true) (hi : (Jvm.Cond.initialized C).before a0 Z = true) (hl : (Jvm.Cond.laysStatic C n d).before a0 Z = true) : ∃ a, Sta Z Z.heap C n d (.ref a) ∧ Exa Z Z.heap a K ∧ (Jvm.Term.static C n d).eval args Z none [] Z = some (.ref a) := by
  obtain ⟨a', c', cell, k, e1, -⟩ := Cond.exactly_spec (Cond.before_iff.mpr hx)
  exact ⟨a', Sta.start (args := a0) e1 (Or.inr ⟨hi, hl⟩), Exa.start e1 hx, e1⟩
theorem own_fx {Z : State} {args : Array Value} {t : Jvm.Term} {a : Addr} {O n d : String} {v : Value} {u : Jvm.Term} (e : t.eval args Z none [] Z = some (.ref a)) (hu : u.eval args Z none [] Z = some v) (hx : (Jvm.Cond.eq (Jvm.Term.field t O n d) u).value args Z none Z [] = some true) (hk : ∀ w, Kin v w → Kin w v → (Jvm.Cond.eq (Jvm.Term.field t O n d) u).value args Z none Z [] = some true → (Jvm.Term.field t O n d).eval args Z none [] Z = some w → w = v) : Fld Z Z.heap a O n d v := by
  obtain ⟨x, y, e1, e2, k1, k2⟩ := cmp_v (Or.inl hx)
  cases hu.symm.trans e2
  have q := hk x k2 k1 hx e1
  subst q
  refine Fld.start ?_
  have e3 := e1
  simp only [Jvm.Term.eval, e, Option.bind_eq_bind, Option.bind_some] at e3
  exact e3
theorem own_fi {Z : State} {args : Array Value} {t : Jvm.Term} {a : Addr} {O n d : String} {k : Int32} (e : t.eval args Z none [] Z = some (.ref a)) (hx : (Jvm.Cond.eq (Jvm.Term.field t O n d) (Jvm.Term.int k)).value args Z none Z [] = some true) : Fld Z Z.heap a O n d (.int k) := by
  refine own_fx e (Jvm.Term.int_eval k) hx fun w k1 k2 h1 h2 => ?_
  obtain ⟨z, rfl⟩ := k1
  simp [Jvm.Cond.value, h2, Jvm.Term.int_eval] at h1
  rw [h1]
theorem d1_0 : decode method_2_code 0 = .ok (.iload_n 0, 1) := by decide +kernel
theorem d1_1 : decode method_2_code 1 = .ok (.ifCond .ne 7, 3) := by decide +kernel
theorem d1_4 : decode method_2_code 4 = .ok (.getstatic 7, 3) := by decide +kernel
theorem d1_7 : decode method_2_code 7 = .ok (.areturn, 1) := by decide +kernel
theorem d1_8 : decode method_2_code 8 = .ok (.iload_n 0, 1) := by decide +kernel
theorem d1_9 : decode method_2_code 9 = .ok (.iconst 1, 1) := by decide +kernel
theorem d1_10 : decode method_2_code 10 = .ok (.if_icmp .ne 7, 3) := by decide +kernel
theorem d1_13 : decode method_2_code 13 = .ok (.getstatic 13, 3) := by decide +kernel
theorem d1_16 : decode method_2_code 16 = .ok (.areturn, 1) := by decide +kernel
theorem d1_17 : decode method_2_code 17 = .ok (.iload_n 0, 1) := by decide +kernel
theorem d1_18 : decode method_2_code 18 = .ok (.iconst 2, 1) := by decide +kernel
theorem d1_19 : decode method_2_code 19 = .ok (.if_icmp .ne 7, 3) := by decide +kernel
theorem d1_22 : decode method_2_code 22 = .ok (.getstatic 16, 3) := by decide +kernel
theorem d1_25 : decode method_2_code 25 = .ok (.areturn, 1) := by decide +kernel
theorem d1_26 : decode method_2_code 26 = .ok (.iload_n 0, 1) := by decide +kernel
theorem d1_27 : decode method_2_code 27 = .ok (.iconst 3, 1) := by decide +kernel
theorem d1_28 : decode method_2_code 28 = .ok (.if_icmp .ne 7, 3) := by decide +kernel
theorem d1_31 : decode method_2_code 31 = .ok (.getstatic 19, 3) := by decide +kernel
theorem d1_34 : decode method_2_code 34 = .ok (.areturn, 1) := by decide +kernel
theorem d1_35 : decode method_2_code 35 = .ok (.iload_n 0, 1) := by decide +kernel
theorem d1_36 : decode method_2_code 36 = .ok (.iconst 4, 1) := by decide +kernel
theorem d1_37 : decode method_2_code 37 = .ok (.if_icmp .ne 7, 3) := by decide +kernel
theorem d1_40 : decode method_2_code 40 = .ok (.getstatic 22, 3) := by decide +kernel
theorem d1_43 : decode method_2_code 43 = .ok (.areturn, 1) := by decide +kernel
theorem d1_44 : decode method_2_code 44 = .ok (.iload_n 0, 1) := by decide +kernel
theorem d1_45 : decode method_2_code 45 = .ok (.iconst 5, 1) := by decide +kernel
theorem d1_46 : decode method_2_code 46 = .ok (.if_icmp .ne 7, 3) := by decide +kernel
theorem d1_49 : decode method_2_code 49 = .ok (.getstatic 25, 3) := by decide +kernel
theorem d1_52 : decode method_2_code 52 = .ok (.areturn, 1) := by decide +kernel
theorem d1_53 : decode method_2_code 53 = .ok (.getstatic 28, 3) := by decide +kernel
theorem d1_56 : decode method_2_code 56 = .ok (.areturn, 1) := by decide +kernel
theorem d2_0 : decode prog_9_method_7_code 0 = .ok (.aload_n 0, 1) := by decide +kernel
theorem d2_1 : decode prog_9_method_7_code 1 = .ok (.getfield 48, 3) := by decide +kernel
theorem d2_4 : decode prog_9_method_7_code 4 = .ok (.iconst 1, 1) := by decide +kernel
theorem d2_5 : decode prog_9_method_7_code 5 = .ok (.aload_n 1, 1) := by decide +kernel
theorem d2_6 : decode prog_9_method_7_code 6 = .ok (.invokevirtual 44, 3) := by decide +kernel
theorem d2_9 : decode prog_9_method_7_code 9 = .ok (.ishl, 1) := by decide +kernel
theorem d2_10 : decode prog_9_method_7_code 10 = .ok (.iand, 1) := by decide +kernel
theorem d2_11 : decode prog_9_method_7_code 11 = .ok (.ifCond .eq 7, 3) := by decide +kernel
theorem d2_14 : decode prog_9_method_7_code 14 = .ok (.iconst 1, 1) := by decide +kernel
theorem d2_15 : decode prog_9_method_7_code 15 = .ok (.goto 4, 3) := by decide +kernel
theorem d2_18 : decode prog_9_method_7_code 18 = .ok (.iconst 0, 1) := by decide +kernel
theorem d2_19 : decode prog_9_method_7_code 19 = .ok (.ireturn, 1) := by decide +kernel
theorem d3_0 : decode jdk_37_method_2_code 0 = .ok (.aload_n 0, 1) := by decide +kernel
theorem d3_1 : decode jdk_37_method_2_code 1 = .ok (.getfield 7, 3) := by decide +kernel
theorem d3_4 : decode jdk_37_method_2_code 4 = .ok (.ireturn, 1) := by decide +kernel
theorem d4_0 : decode method_3_code 0 = .ok (.iload_n 0, 1) := by decide +kernel
theorem d4_1 : decode method_3_code 1 = .ok (.bipush 6, 2) := by decide +kernel
theorem d4_3 : decode method_3_code 3 = .ok (.if_icmp .ne 5, 3) := by decide +kernel
theorem d4_6 : decode method_3_code 6 = .ok (.iconst 1, 1) := by decide +kernel
theorem d4_7 : decode method_3_code 7 = .ok (.ireturn, 1) := by decide +kernel
theorem d4_8 : decode method_3_code 8 = .ok (.iload_n 0, 1) := by decide +kernel
theorem d4_9 : decode method_3_code 9 = .ok (.iconst 3, 1) := by decide +kernel
theorem d4_10 : decode method_3_code 10 = .ok (.if_icmp .gt 14, 3) := by decide +kernel
theorem d4_13 : decode method_3_code 13 = .ok (.iload_n 1, 1) := by decide +kernel
theorem d4_14 : decode method_3_code 14 = .ok (.iload_n 0, 1) := by decide +kernel
theorem d4_15 : decode method_3_code 15 = .ok (.if_icmp .gt 7, 3) := by decide +kernel
theorem d4_18 : decode method_3_code 18 = .ok (.iconst 1, 1) := by decide +kernel
theorem d4_19 : decode method_3_code 19 = .ok (.goto 4, 3) := by decide +kernel
theorem d4_22 : decode method_3_code 22 = .ok (.iconst 0, 1) := by decide +kernel
theorem d4_23 : decode method_3_code 23 = .ok (.ireturn, 1) := by decide +kernel
theorem d4_24 : decode method_3_code 24 = .ok (.iconst 4, 1) := by decide +kernel
theorem d4_25 : decode method_3_code 25 = .ok (.iload_n 1, 1) := by decide +kernel
theorem d4_26 : decode method_3_code 26 = .ok (.if_icmp .gt 12, 3) := by decide +kernel
theorem d4_29 : decode method_3_code 29 = .ok (.iload_n 1, 1) := by decide +kernel
theorem d4_30 : decode method_3_code 30 = .ok (.iload_n 0, 1) := by decide +kernel
theorem d4_31 : decode method_3_code 31 = .ok (.if_icmp .gt 7, 3) := by decide +kernel
theorem d4_34 : decode method_3_code 34 = .ok (.iconst 1, 1) := by decide +kernel
theorem d4_35 : decode method_3_code 35 = .ok (.goto 4, 3) := by decide +kernel
theorem d4_38 : decode method_3_code 38 = .ok (.iconst 0, 1) := by decide +kernel
theorem d4_39 : decode method_3_code 39 = .ok (.ireturn, 1) := by decide +kernel
theorem pn0 : plainName "com/example/gatewarden/gatewarden/access/RoleTypeIncludesPinLaw" = true := by first | (simp [plainName, overriddenIn]; done) | decide +kernel
theorem pn1 : plainName "java/lang/Enum" = true := by first | (simp [plainName, overriddenIn]; done) | decide +kernel
theorem pn2 : plainName "com/example/gatewarden/gatewarden/access/RoleType" = true := by first | (simp [plainName, overriddenIn]; done) | decide +kernel
theorem pd0 : parseMethodDescriptor "()I" = some ⟨[], some .int⟩ := by decide +kernel
theorem pd1 : parseMethodDescriptor "(I)Lcom/example/gatewarden/gatewarden/access/RoleType;" = some ⟨[.int], some (.object "com/example/gatewarden/gatewarden/access/RoleType")⟩ := by decide +kernel
theorem pd2 : parseMethodDescriptor "(Lcom/example/gatewarden/gatewarden/access/RoleType;)Z" = some ⟨[(.object "com/example/gatewarden/gatewarden/access/RoleType")], some .boolean⟩ := by decide +kernel
theorem pd3 : parseMethodDescriptor "(II)Z" = some ⟨[.int, .int], some .boolean⟩ := by decide +kernel
def own_pk (k : Int32) (a0 : Addr) (a1 : Addr) (a2 : Addr) (a3 : Addr) (a4 : Addr) (a5 : Addr) (a6 : Addr) : Addr := if k = 0 then a0 else if k = 1 then a1 else if k = 2 then a2 else if k = 3 then a3 else if k = 4 then a4 else if k = 5 then a5 else a6
def own_bits (k : Int32) : Int32 := if k = 0 then 1 else if k = 1 then 3 else if k = 2 then 7 else if k = 3 then 15 else if k = 4 then 16 else if k = 5 then 48 else 127
def own_ord (k : Int32) : Int32 := if k = 0 then 0 else if k = 1 then 1 else if k = 2 then 2 else if k = 3 then 3 else if k = 4 then 4 else if k = 5 then 5 else 6
def own_inc (b o : Int32) : Int32 := if b &&& ((1 : Int32) <<< (o &&& 31)) = 0 then 0 else 1
def own_ex (i j : Int32) : Int32 := if ¬ i = 6 then (if 3 < i then (if j < 4 then 0 else if i < j then 0 else 1) else if i < j then 0 else 1) else 1
theorem own_fin (i j : Int32) (hi : i = 0 ∨ i = 1 ∨ i = 2 ∨ i = 3 ∨ i = 4 ∨ i = 5 ∨ i = 6) (hj : j = 0 ∨ j = 1 ∨ j = 2 ∨ j = 3 ∨ j = 4 ∨ j = 5 ∨ j = 6) : own_inc (own_bits i) (own_ord j) = own_ex i j := by
  rcases hi with rfl | rfl | rfl | rfl | rfl | rfl | rfl <;> rcases hj with rfl | rfl | rfl | rfl | rfl | rfl | rfl <;> decide
theorem own_modm (x k n : Int32) (hk : ¬ k < 0) (hn : 0 < n.toInt) : 0 ≤ ((x &&& k) % n).toInt ∧ ((x &&& k) % n).toInt < n.toInt := by
  have h0 : ¬ (x &&& k) < 0 := fun q => absurd ((XT.and_neg32 x k).mp q).2 hk
  rw [XT.negI32] at h0
  rw [Int32.toInt_mod]
  exact ⟨Int.tmod_nonneg _ (by omega), Int.tmod_lt_of_pos _ hn⟩
theorem own_mod (x n : Int32) (hn : 0 < n.toInt) : 0 ≤ ((x &&& 2147483647) % n).toInt ∧ ((x &&& 2147483647) % n).toInt < n.toInt := by
  have h0 : ¬ (x &&& 2147483647) < 0 := fun q => absurd ((XT.and_neg32 x 2147483647).mp q).2 (by decide)
  rw [XT.negI32] at h0
  rw [Int32.toInt_mod]
  exact ⟨Int.tmod_nonneg _ (by omega), Int.tmod_lt_of_pos _ hn⟩
theorem own_mod7 (x : Int32) : (x &&& 2147483647) % 7 = 0 ∨ (x &&& 2147483647) % 7 = 1 ∨ (x &&& 2147483647) % 7 = 2 ∨ (x &&& 2147483647) % 7 = 3 ∨ (x &&& 2147483647) % 7 = 4 ∨ (x &&& 2147483647) % 7 = 5 ∨ (x &&& 2147483647) % 7 = 6 := by
  have h := own_mod x 7 (by decide)
  generalize (x &&& 2147483647) % 7 = k at h ⊢
  have h7 : (7 : Int32).toInt = 7 := rfl
  have q : k.toInt = 0 ∨ k.toInt = 1 ∨ k.toInt = 2 ∨ k.toInt = 3 ∨ k.toInt = 4 ∨ k.toInt = 5 ∨ k.toInt = 6 := by omega
  rcases q with q | q | q | q | q | q | q
  · have e : k = 0 := Int32.toInt_inj.mp q
    simp [e]
  · have e : k = 1 := Int32.toInt_inj.mp q
    simp [e]
  · have e : k = 2 := Int32.toInt_inj.mp q
    simp [e]
  · have e : k = 3 := Int32.toInt_inj.mp q
    simp [e]
  · have e : k = 4 := Int32.toInt_inj.mp q
    simp [e]
  · have e : k = 5 := Int32.toInt_inj.mp q
    simp [e]
  · have e : k = 6 := Int32.toInt_inj.mp q
    simp [e]

theorem own_includedBits {Z : State} (k : Int32) (a0 : Addr) (a1 : Addr) (a2 : Addr) (a3 : Addr) (a4 : Addr) (a5 : Addr) (a6 : Addr) (F0 : Fld Z Z.heap a0 "com/example/gatewarden/gatewarden/access/RoleType" "includedBits" "I" (.int 1)) (F1 : Fld Z Z.heap a1 "com/example/gatewarden/gatewarden/access/RoleType" "includedBits" "I" (.int 3)) (F2 : Fld Z Z.heap a2 "com/example/gatewarden/gatewarden/access/RoleType" "includedBits" "I" (.int 7)) (F3 : Fld Z Z.heap a3 "com/example/gatewarden/gatewarden/access/RoleType" "includedBits" "I" (.int 15)) (F4 : Fld Z Z.heap a4 "com/example/gatewarden/gatewarden/access/RoleType" "includedBits" "I" (.int 16)) (F5 : Fld Z Z.heap a5 "com/example/gatewarden/gatewarden/access/RoleType" "includedBits" "I" (.int 48)) (F6 : Fld Z Z.heap a6 "com/example/gatewarden/gatewarden/access/RoleType" "includedBits" "I" (.int 127)) : Fld Z Z.heap (own_pk k a0 a1 a2 a3 a4 a5 a6) "com/example/gatewarden/gatewarden/access/RoleType" "includedBits" "I" (.int (own_bits k)) := by
  by_cases c0 : k = 0
  · rw [show own_pk k a0 a1 a2 a3 a4 a5 a6 = a0 by simp [own_pk, c0], show own_bits k = 1 by simp [own_bits, c0]]; exact F0
  by_cases c1 : k = 1
  · rw [show own_pk k a0 a1 a2 a3 a4 a5 a6 = a1 by simp [own_pk, c0, c1], show own_bits k = 3 by simp [own_bits, c0, c1]]; exact F1
  by_cases c2 : k = 2
  · rw [show own_pk k a0 a1 a2 a3 a4 a5 a6 = a2 by simp [own_pk, c0, c1, c2], show own_bits k = 7 by simp [own_bits, c0, c1, c2]]; exact F2
  by_cases c3 : k = 3
  · rw [show own_pk k a0 a1 a2 a3 a4 a5 a6 = a3 by simp [own_pk, c0, c1, c2, c3], show own_bits k = 15 by simp [own_bits, c0, c1, c2, c3]]; exact F3
  by_cases c4 : k = 4
  · rw [show own_pk k a0 a1 a2 a3 a4 a5 a6 = a4 by simp [own_pk, c0, c1, c2, c3, c4], show own_bits k = 16 by simp [own_bits, c0, c1, c2, c3, c4]]; exact F4
  by_cases c5 : k = 5
  · rw [show own_pk k a0 a1 a2 a3 a4 a5 a6 = a5 by simp [own_pk, c0, c1, c2, c3, c4, c5], show own_bits k = 48 by simp [own_bits, c0, c1, c2, c3, c4, c5]]; exact F5
  rw [show own_pk k a0 a1 a2 a3 a4 a5 a6 = a6 by simp [own_pk, c0, c1, c2, c3, c4, c5], show own_bits k = 127 by simp [own_bits, c0, c1, c2, c3, c4, c5]]; exact F6
theorem own_ordinal {Z : State} (k : Int32) (a0 : Addr) (a1 : Addr) (a2 : Addr) (a3 : Addr) (a4 : Addr) (a5 : Addr) (a6 : Addr) (F0 : Fld Z Z.heap a0 "java/lang/Enum" "ordinal" "I" (.int 0)) (F1 : Fld Z Z.heap a1 "java/lang/Enum" "ordinal" "I" (.int 1)) (F2 : Fld Z Z.heap a2 "java/lang/Enum" "ordinal" "I" (.int 2)) (F3 : Fld Z Z.heap a3 "java/lang/Enum" "ordinal" "I" (.int 3)) (F4 : Fld Z Z.heap a4 "java/lang/Enum" "ordinal" "I" (.int 4)) (F5 : Fld Z Z.heap a5 "java/lang/Enum" "ordinal" "I" (.int 5)) (F6 : Fld Z Z.heap a6 "java/lang/Enum" "ordinal" "I" (.int 6)) : Fld Z Z.heap (own_pk k a0 a1 a2 a3 a4 a5 a6) "java/lang/Enum" "ordinal" "I" (.int (own_ord k)) := by
  by_cases c0 : k = 0
  · rw [show own_pk k a0 a1 a2 a3 a4 a5 a6 = a0 by simp [own_pk, c0], show own_ord k = 0 by simp [own_ord, c0]]; exact F0
  by_cases c1 : k = 1
  · rw [show own_pk k a0 a1 a2 a3 a4 a5 a6 = a1 by simp [own_pk, c0, c1], show own_ord k = 1 by simp [own_ord, c0, c1]]; exact F1
  by_cases c2 : k = 2
  · rw [show own_pk k a0 a1 a2 a3 a4 a5 a6 = a2 by simp [own_pk, c0, c1, c2], show own_ord k = 2 by simp [own_ord, c0, c1, c2]]; exact F2
  by_cases c3 : k = 3
  · rw [show own_pk k a0 a1 a2 a3 a4 a5 a6 = a3 by simp [own_pk, c0, c1, c2, c3], show own_ord k = 3 by simp [own_ord, c0, c1, c2, c3]]; exact F3
  by_cases c4 : k = 4
  · rw [show own_pk k a0 a1 a2 a3 a4 a5 a6 = a4 by simp [own_pk, c0, c1, c2, c3, c4], show own_ord k = 4 by simp [own_ord, c0, c1, c2, c3, c4]]; exact F4
  by_cases c5 : k = 5
  · rw [show own_pk k a0 a1 a2 a3 a4 a5 a6 = a5 by simp [own_pk, c0, c1, c2, c3, c4, c5], show own_ord k = 5 by simp [own_ord, c0, c1, c2, c3, c4, c5]]; exact F5
  rw [show own_pk k a0 a1 a2 a3 a4 a5 a6 = a6 by simp [own_pk, c0, c1, c2, c3, c4, c5], show own_ord k = 6 by simp [own_ord, c0, c1, c2, c3, c4, c5]]; exact F6
theorem own_exa {Z : State} (k : Int32) (a0 : Addr) (a1 : Addr) (a2 : Addr) (a3 : Addr) (a4 : Addr) (a5 : Addr) (a6 : Addr) (E0 : Exa Z Z.heap a0 "com/example/gatewarden/gatewarden/access/RoleType") (E1 : Exa Z Z.heap a1 "com/example/gatewarden/gatewarden/access/RoleType") (E2 : Exa Z Z.heap a2 "com/example/gatewarden/gatewarden/access/RoleType") (E3 : Exa Z Z.heap a3 "com/example/gatewarden/gatewarden/access/RoleType") (E4 : Exa Z Z.heap a4 "com/example/gatewarden/gatewarden/access/RoleType") (E5 : Exa Z Z.heap a5 "com/example/gatewarden/gatewarden/access/RoleType") (E6 : Exa Z Z.heap a6 "com/example/gatewarden/gatewarden/access/RoleType") : Exa Z Z.heap (own_pk k a0 a1 a2 a3 a4 a5 a6) "com/example/gatewarden/gatewarden/access/RoleType" := by
  by_cases c0 : k = 0
  · rw [show own_pk k a0 a1 a2 a3 a4 a5 a6 = a0 by simp [own_pk, c0]]; exact E0
  by_cases c1 : k = 1
  · rw [show own_pk k a0 a1 a2 a3 a4 a5 a6 = a1 by simp [own_pk, c0, c1]]; exact E1
  by_cases c2 : k = 2
  · rw [show own_pk k a0 a1 a2 a3 a4 a5 a6 = a2 by simp [own_pk, c0, c1, c2]]; exact E2
  by_cases c3 : k = 3
  · rw [show own_pk k a0 a1 a2 a3 a4 a5 a6 = a3 by simp [own_pk, c0, c1, c2, c3]]; exact E3
  by_cases c4 : k = 4
  · rw [show own_pk k a0 a1 a2 a3 a4 a5 a6 = a4 by simp [own_pk, c0, c1, c2, c3, c4]]; exact E4
  by_cases c5 : k = 5
  · rw [show own_pk k a0 a1 a2 a3 a4 a5 a6 = a5 by simp [own_pk, c0, c1, c2, c3, c4, c5]]; exact E5
  rw [show own_pk k a0 a1 a2 a3 a4 a5 a6 = a6 by simp [own_pk, c0, c1, c2, c3, c4, c5]]; exact E6
set_option maxRecDepth 65536
set_option maxHeartbeats 4000000
theorem con_pick (l : Launch) (Z : State) (b0 : Array Value) (hw : ∀ d ∈ tables_1, d.before b0 Z = true) (k : Int32) (a0 : Addr) (a1 : Addr) (a2 : Addr) (a3 : Addr) (a4 : Addr) (a5 : Addr) (a6 : Addr) (S0 : Sta Z Z.heap "com/example/gatewarden/gatewarden/access/RoleType" "USER" "Lcom/example/gatewarden/gatewarden/access/RoleType;" (.ref a0)) (S1 : Sta Z Z.heap "com/example/gatewarden/gatewarden/access/RoleType" "PRIVILEGED_USER" "Lcom/example/gatewarden/gatewarden/access/RoleType;" (.ref a1)) (S2 : Sta Z Z.heap "com/example/gatewarden/gatewarden/access/RoleType" "EDITOR" "Lcom/example/gatewarden/gatewarden/access/RoleType;" (.ref a2)) (S3 : Sta Z Z.heap "com/example/gatewarden/gatewarden/access/RoleType" "MANAGER" "Lcom/example/gatewarden/gatewarden/access/RoleType;" (.ref a3)) (S4 : Sta Z Z.heap "com/example/gatewarden/gatewarden/access/RoleType" "DELEGATOR" "Lcom/example/gatewarden/gatewarden/access/RoleType;" (.ref a4)) (S5 : Sta Z Z.heap "com/example/gatewarden/gatewarden/access/RoleType" "SECURITY_ADMINISTRATOR" "Lcom/example/gatewarden/gatewarden/access/RoleType;" (.ref a5)) (S6 : Sta Z Z.heap "com/example/gatewarden/gatewarden/access/RoleType" "ADMINISTRATOR" "Lcom/example/gatewarden/gatewarden/access/RoleType;" (.ref a6)) (h0 : Heap) (hE : Ext Z.heap h0) : Con l Z (⟨"com/example/gatewarden/gatewarden/access/RoleTypeIncludesPinLaw", "pick", "(I)Lcom/example/gatewarden/gatewarden/access/RoleType;"⟩ : MethodName) method_2_code 1 (some (.object "com/example/gatewarden/gatewarden/access/RoleType")) ({ frames := 0, cells := 0, slots := 0, locals := 0 } : Room) #[(.int k)] h0 [] (QV fun w h => w = .ref (own_pk k a0 a1 a2 a3 a4 a5 a6) ∧ h0 = h) := by
  refine Con.of (plainFor_of_name pn0) hE ⟨b0, EW.nil⟩ all0 (L0 := #[.val (.int k)]) (fun m => by first | (simp [entryFrame, mkF, argsToLocals, Value.category]; done) | rfl) ?_
  intro p e s m args below meth c T W
  refine o_iloadN 1 W d1_0 rfl ?_
  refine o_ifne 8 4 W d1_1 (fun c1 => ?_) (fun c1 => ?_)
  · refine o_iloadN 9 W d1_8 rfl ?_
    refine o_iconst 10 W (1) d1_9 (by first | rfl | decide) ?_
    refine o_icne 17 13 W d1_10 (fun c10 => ?_) (fun c10 => ?_)
    · refine o_iloadN 18 W d1_17 rfl ?_
      refine o_iconst 19 W (2) d1_18 (by first | rfl | decide) ?_
      refine o_icne 26 22 W d1_19 (fun c19 => ?_) (fun c19 => ?_)
      · refine o_iloadN 27 W d1_26 rfl ?_
        refine o_iconst 28 W (3) d1_27 (by first | rfl | decide) ?_
        refine o_icne 35 31 W d1_28 (fun c28 => ?_) (fun c28 => ?_)
        · refine o_iloadN 36 W d1_35 rfl ?_
          refine o_iconst 37 W (4) d1_36 (by first | rfl | decide) ?_
          refine o_icne 44 40 W d1_37 (fun c37 => ?_) (fun c37 => ?_)
          · refine o_iloadN 45 W d1_44 rfl ?_
            refine o_iconst 46 W (5) d1_45 (by first | rfl | decide) ?_
            refine o_icne 53 49 W d1_46 (fun c46 => ?_) (fun c46 => ?_)
            · refine o_getS 56 W (tw hw 37) S6 d1_53 fun T W => ?_
              exact o_aret W rfl rfl rfl d1_56 (⟨by simp [own_pk, c1, c10, c19, c28, c37, c46], rfl⟩)
            · refine o_getS 52 W (tw hw 31) S5 d1_49 fun T W => ?_
              exact o_aret W rfl rfl rfl d1_52 (⟨by simp [own_pk, c1, c10, c19, c28, c37, c46], rfl⟩)
          · refine o_getS 43 W (tw hw 35) S4 d1_40 fun T W => ?_
            exact o_aret W rfl rfl rfl d1_43 (⟨by simp [own_pk, c1, c10, c19, c28, c37], rfl⟩)
        · refine o_getS 34 W (tw hw 8) S3 d1_31 fun T W => ?_
          exact o_aret W rfl rfl rfl d1_34 (⟨by simp [own_pk, c1, c10, c19, c28], rfl⟩)
      · refine o_getS 25 W (tw hw 33) S2 d1_22 fun T W => ?_
        exact o_aret W rfl rfl rfl d1_25 (⟨by simp [own_pk, c1, c10, c19], rfl⟩)
    · refine o_getS 16 W (tw hw 29) S1 d1_13 fun T W => ?_
      exact o_aret W rfl rfl rfl d1_16 (⟨by simp [own_pk, c1, c10], rfl⟩)
  · refine o_getS 7 W (tw hw 5) S0 d1_4 fun T W => ?_
    exact o_aret W rfl rfl rfl d1_7 (⟨by simp [own_pk, c1], rfl⟩)
theorem con_ord (l : Launch) (Z : State) (b0 : Array Value) (hw : ∀ d ∈ tables_1, d.before b0 Z = true) (z : Addr) (o : Int32) (h0 : Heap) (hE : Ext Z.heap h0) (Fz : Fld Z h0 z "java/lang/Enum" "ordinal" "I" (.int o)) : Con l Z (⟨"java/lang/Enum", "ordinal", "()I"⟩ : MethodName) jdk_37_method_2_code 1 (some .int) ({ frames := 0, cells := 0, slots := 0, locals := 0 } : Room) #[(.ref z)] h0 [] (QV fun w h => w = .int o ∧ h0 = h) := by
  refine Con.of (plainFor_of_name pn1) hE ⟨b0, EW.nil⟩ all0 (L0 := #[.val (.ref z)]) (fun m => by first | (simp [entryFrame, mkF, argsToLocals, Value.category]; done) | rfl) ?_
  intro p e s m args below meth c T W
  refine o_aloadN 1 W d3_0 rfl rfl ?_
  refine o_getF 4 W (tw hw 24) Fz d3_1 (fun T W => ?_)
  exact o_iret W d3_4 (⟨rfl, rfl⟩)
theorem con_inc (l : Launch) (Z : State) (b0 : Array Value) (hw : ∀ d ∈ tables_1, d.before b0 Z = true) (x z : Addr) (b o : Int32) (h0 : Heap) (hE : Ext Z.heap h0) (Fx : Fld Z h0 x "com/example/gatewarden/gatewarden/access/RoleType" "includedBits" "I" (.int b)) (Fz : Fld Z h0 z "java/lang/Enum" "ordinal" "I" (.int o)) (Ez : Exa Z h0 z "com/example/gatewarden/gatewarden/access/RoleType") : Con l Z (⟨"com/example/gatewarden/gatewarden/access/RoleType", "includes", "(Lcom/example/gatewarden/gatewarden/access/RoleType;)Z"⟩ : MethodName) prog_9_method_7_code 2 (some .boolean) ({ frames := 1, cells := 0, slots := 0, locals := 16 } : Room) #[(.ref x), (.ref z)] h0 [] (QV fun w h => w = .int (own_inc b o) ∧ h0 = h) := by
  refine Con.of (plainFor_of_name pn2) hE ⟨b0, EW.nil⟩ all0 (L0 := #[.val (.ref x), .val (.ref z)]) (fun m => by first | (simp [entryFrame, mkF, argsToLocals, Value.category]; done) | rfl) ?_
  intro p e s m args below meth c T W
  refine o_aloadN 1 W d2_0 rfl rfl ?_
  refine o_getF 4 W (tw hw 15) Fx d2_1 (fun T W => ?_)
  refine o_iconst 5 W (1) d2_4 (by first | rfl | decide) ?_
  refine o_aloadN 6 W d2_5 rfl rfl ?_
  refine o_virtualUp 9 [] W (tw hw 17) (tw hw 18) (tw hw 19) (tw hw 21) (tw hw 20) (tw hw 22) (tw hw 23) (Ez) (con_ord l Z b0 hw z o _ hE Fz) pd0 d2_6 rfl all0 (fun T h v W qq gg => ?_)
  obtain ⟨_, rfl, rfl, rfl⟩ := qq
  show Go p e below _ _ (mkF m 9 #[.val (.ref x), .val (.ref z)] [(.int o), (.int (1 : Int32)), (.int b)])
  refine o_ishl 10 W d2_9 ?_
  refine o_iand 11 W d2_10 ?_
  refine o_ifeq 18 14 W d2_11 (fun c11 => ?_) (fun c11 => ?_)
  · refine o_iconst 19 W (0) d2_18 (by first | rfl | decide) ?_
    exact o_nret W (0 : Int32) (by simp) (by decide) d2_19 (⟨by simp only [own_inc]; rw [if_pos c11], rfl⟩)
  · refine o_iconst 15 W (1) d2_14 (by first | rfl | decide) ?_
    refine o_goto 19 W d2_15 ?_
    exact o_nret W (1 : Int32) (by simp) (by decide) d2_19 (⟨by simp only [own_inc]; rw [if_neg c11], rfl⟩)
theorem con_exp (l : Launch) (Z : State) (b0 : Array Value) (hw : ∀ d ∈ tables_1, d.before b0 Z = true) (i j : Int32) (h0 : Heap) (hE : Ext Z.heap h0) : Con l Z (⟨"com/example/gatewarden/gatewarden/access/RoleTypeIncludesPinLaw", "expected", "(II)Z"⟩ : MethodName) method_3_code 2 (some .boolean) ({ frames := 0, cells := 0, slots := 0, locals := 0 } : Room) #[(.int i), (.int j)] h0 [] (QV fun w h => w = .int (own_ex i j) ∧ h0 = h) := by
  refine Con.of (plainFor_of_name pn0) hE ⟨b0, EW.nil⟩ all0 (L0 := #[.val (.int i), .val (.int j)]) (fun m => by first | (simp [entryFrame, mkF, argsToLocals, Value.category]; done) | rfl) ?_
  intro p e s m args below meth c T W
  refine o_iloadN 1 W d4_0 rfl ?_
  refine o_bipush 3 W (6) d4_1 (by first | rfl | decide) ?_
  refine o_icne 8 6 W d4_3 (fun c3 => ?_) (fun c3 => ?_)
  · refine o_iloadN 9 W d4_8 rfl ?_
    refine o_iconst 10 W (3) d4_9 (by first | rfl | decide) ?_
    refine o_icgt 24 13 W d4_10 (fun c10 => ?_) (fun c10 => ?_)
    · refine o_iconst 25 W (4) d4_24 (by first | rfl | decide) ?_
      refine o_iloadN 26 W d4_25 rfl ?_
      refine o_icgt 38 29 W d4_26 (fun c26 => ?_) (fun c26 => ?_)
      · refine o_iconst 39 W (0) d4_38 (by first | rfl | decide) ?_
        exact o_nret W (0 : Int32) (by simp) (by decide) d4_39 (⟨by simp [own_ex, c3, c10, c26], rfl⟩)
      · refine o_iloadN 30 W d4_29 rfl ?_
        refine o_iloadN 31 W d4_30 rfl ?_
        refine o_icgt 38 34 W d4_31 (fun c31 => ?_) (fun c31 => ?_)
        · refine o_iconst 39 W (0) d4_38 (by first | rfl | decide) ?_
          exact o_nret W (0 : Int32) (by simp) (by decide) d4_39 (⟨by simp [own_ex, c3, c10, c26, c31], rfl⟩)
        · refine o_iconst 35 W (1) d4_34 (by first | rfl | decide) ?_
          refine o_goto 39 W d4_35 ?_
          exact o_nret W (1 : Int32) (by simp) (by decide) d4_39 (⟨by simp [own_ex, c3, c10, c26, c31], rfl⟩)
    · refine o_iloadN 14 W d4_13 rfl ?_
      refine o_iloadN 15 W d4_14 rfl ?_
      refine o_icgt 22 18 W d4_15 (fun c15 => ?_) (fun c15 => ?_)
      · refine o_iconst 23 W (0) d4_22 (by first | rfl | decide) ?_
        exact o_nret W (0 : Int32) (by simp) (by decide) d4_23 (⟨by simp [own_ex, c3, c10, c15], rfl⟩)
      · refine o_iconst 19 W (1) d4_18 (by first | rfl | decide) ?_
        refine o_goto 23 W d4_19 ?_
        exact o_nret W (1 : Int32) (by simp) (by decide) d4_23 (⟨by simp [own_ex, c3, c10, c15], rfl⟩)
  · refine o_iconst 7 W (1) d4_6 (by first | rfl | decide) ?_
    exact o_nret W (1 : Int32) (by simp) (by decide) d4_7 (⟨by simp [own_ex, c3], rfl⟩)
theorem con_law (l : Launch) (Z : State) (b0 : Array Value) (hw : ∀ d ∈ tables_1, d.before b0 Z = true) (x0 x1 : Int32) (a0 : Addr) (a1 : Addr) (a2 : Addr) (a3 : Addr) (a4 : Addr) (a5 : Addr) (a6 : Addr) (S0 : Sta Z Z.heap "com/example/gatewarden/gatewarden/access/RoleType" "USER" "Lcom/example/gatewarden/gatewarden/access/RoleType;" (.ref a0)) (S1 : Sta Z Z.heap "com/example/gatewarden/gatewarden/access/RoleType" "PRIVILEGED_USER" "Lcom/example/gatewarden/gatewarden/access/RoleType;" (.ref a1)) (S2 : Sta Z Z.heap "com/example/gatewarden/gatewarden/access/RoleType" "EDITOR" "Lcom/example/gatewarden/gatewarden/access/RoleType;" (.ref a2)) (S3 : Sta Z Z.heap "com/example/gatewarden/gatewarden/access/RoleType" "MANAGER" "Lcom/example/gatewarden/gatewarden/access/RoleType;" (.ref a3)) (S4 : Sta Z Z.heap "com/example/gatewarden/gatewarden/access/RoleType" "DELEGATOR" "Lcom/example/gatewarden/gatewarden/access/RoleType;" (.ref a4)) (S5 : Sta Z Z.heap "com/example/gatewarden/gatewarden/access/RoleType" "SECURITY_ADMINISTRATOR" "Lcom/example/gatewarden/gatewarden/access/RoleType;" (.ref a5)) (S6 : Sta Z Z.heap "com/example/gatewarden/gatewarden/access/RoleType" "ADMINISTRATOR" "Lcom/example/gatewarden/gatewarden/access/RoleType;" (.ref a6)) (B0 : Fld Z Z.heap a0 "com/example/gatewarden/gatewarden/access/RoleType" "includedBits" "I" (.int 1)) (B1 : Fld Z Z.heap a1 "com/example/gatewarden/gatewarden/access/RoleType" "includedBits" "I" (.int 3)) (B2 : Fld Z Z.heap a2 "com/example/gatewarden/gatewarden/access/RoleType" "includedBits" "I" (.int 7)) (B3 : Fld Z Z.heap a3 "com/example/gatewarden/gatewarden/access/RoleType" "includedBits" "I" (.int 15)) (B4 : Fld Z Z.heap a4 "com/example/gatewarden/gatewarden/access/RoleType" "includedBits" "I" (.int 16)) (B5 : Fld Z Z.heap a5 "com/example/gatewarden/gatewarden/access/RoleType" "includedBits" "I" (.int 48)) (B6 : Fld Z Z.heap a6 "com/example/gatewarden/gatewarden/access/RoleType" "includedBits" "I" (.int 127)) (O0 : Fld Z Z.heap a0 "java/lang/Enum" "ordinal" "I" (.int 0)) (O1 : Fld Z Z.heap a1 "java/lang/Enum" "ordinal" "I" (.int 1)) (O2 : Fld Z Z.heap a2 "java/lang/Enum" "ordinal" "I" (.int 2)) (O3 : Fld Z Z.heap a3 "java/lang/Enum" "ordinal" "I" (.int 3)) (O4 : Fld Z Z.heap a4 "java/lang/Enum" "ordinal" "I" (.int 4)) (O5 : Fld Z Z.heap a5 "java/lang/Enum" "ordinal" "I" (.int 5)) (O6 : Fld Z Z.heap a6 "java/lang/Enum" "ordinal" "I" (.int 6)) (E0 : Exa Z Z.heap a0 "com/example/gatewarden/gatewarden/access/RoleType") (E1 : Exa Z Z.heap a1 "com/example/gatewarden/gatewarden/access/RoleType") (E2 : Exa Z Z.heap a2 "com/example/gatewarden/gatewarden/access/RoleType") (E3 : Exa Z Z.heap a3 "com/example/gatewarden/gatewarden/access/RoleType") (E4 : Exa Z Z.heap a4 "com/example/gatewarden/gatewarden/access/RoleType") (E5 : Exa Z Z.heap a5 "com/example/gatewarden/gatewarden/access/RoleType") (E6 : Exa Z Z.heap a6 "com/example/gatewarden/gatewarden/access/RoleType") : Con l Z x code maxLocals ret room_1 #[(.int x0), (.int x1)] Z.heap [] (QV fun w h => w = .int 1) := by
  refine Con.of (plainFor_of_name pn0) (own_ext_refl _) ⟨b0, EW.nil⟩ all0 (L0 := #[.val (.int x0), .val (.int x1), .unset, .unset, .unset, .unset]) (fun m => by first | (simp [entryFrame, mkF, argsToLocals, Value.category, maxLocals]; done) | rfl) ?_
  intro p e s m args below meth c T W
  refine o_iloadN 1 W at_0 rfl ?_
  refine o_ldcI 3 W (tw hw 0) at_1 ?_
  refine o_iand 4 W at_3 ?_
  refine o_bipush 6 W (7) at_4 (by first | rfl | decide) ?_
  refine o_irem 7 W at_6 (by decide) ?_
  refine o_istoreN 8 W #[.val (.int x0), .val (.int x1), .val (.int ((x0 &&& (2147483647 : Int32)) % (7 : Int32))), .unset, .unset, .unset] at_7 rfl ?_
  refine o_iloadN 9 W at_8 rfl ?_
  refine o_ldcI 11 W (tw hw 0) at_9 ?_
  refine o_iand 12 W at_11 ?_
  refine o_bipush 14 W (7) at_12 (by first | rfl | decide) ?_
  refine o_irem 15 W at_14 (by decide) ?_
  refine o_istoreN 16 W #[.val (.int x0), .val (.int x1), .val (.int ((x0 &&& (2147483647 : Int32)) % (7 : Int32))), .val (.int ((x1 &&& (2147483647 : Int32)) % (7 : Int32))), .unset, .unset] at_15 rfl ?_
  refine o_iloadN 17 W at_16 rfl ?_
  refine o_static 20 [(.int ((x0 &&& (2147483647 : Int32)) % (7 : Int32)))] W (tw hw 1) (tw hw 2) (tw hw 3) (tw hw 4) (con_pick l Z b0 hw _ a0 a1 a2 a3 a4 a5 a6 S0 S1 S2 S3 S4 S5 S6 _ W.old) pd1 at_17 rfl all0 (fun T h v W qq gg => ?_)
  obtain ⟨_, rfl, rfl, rfl⟩ := qq
  show Go p e below _ _ (mkF m 20 #[.val (.int x0), .val (.int x1), .val (.int ((x0 &&& (2147483647 : Int32)) % (7 : Int32))), .val (.int ((x1 &&& (2147483647 : Int32)) % (7 : Int32))), .unset, .unset] [(.ref (own_pk ((x0 &&& (2147483647 : Int32)) % (7 : Int32)) a0 a1 a2 a3 a4 a5 a6))])
  refine o_astore 22 W #[.val (.int x0), .val (.int x1), .val (.int ((x0 &&& (2147483647 : Int32)) % (7 : Int32))), .val (.int ((x1 &&& (2147483647 : Int32)) % (7 : Int32))), .val (.ref (own_pk ((x0 &&& (2147483647 : Int32)) % (7 : Int32)) a0 a1 a2 a3 a4 a5 a6)), .unset] at_20 rfl rfl ?_
  refine o_iloadN 23 W at_22 rfl ?_
  refine o_static 26 [(.int ((x1 &&& (2147483647 : Int32)) % (7 : Int32)))] W (tw hw 1) (tw hw 2) (tw hw 3) (tw hw 4) (con_pick l Z b0 hw _ a0 a1 a2 a3 a4 a5 a6 S0 S1 S2 S3 S4 S5 S6 _ W.old) pd1 at_23 rfl all0 (fun T h v W qq gg => ?_)
  obtain ⟨_, rfl, rfl, rfl⟩ := qq
  show Go p e below _ _ (mkF m 26 #[.val (.int x0), .val (.int x1), .val (.int ((x0 &&& (2147483647 : Int32)) % (7 : Int32))), .val (.int ((x1 &&& (2147483647 : Int32)) % (7 : Int32))), .val (.ref (own_pk ((x0 &&& (2147483647 : Int32)) % (7 : Int32)) a0 a1 a2 a3 a4 a5 a6)), .unset] [(.ref (own_pk ((x1 &&& (2147483647 : Int32)) % (7 : Int32)) a0 a1 a2 a3 a4 a5 a6))])
  refine o_astore 28 W #[.val (.int x0), .val (.int x1), .val (.int ((x0 &&& (2147483647 : Int32)) % (7 : Int32))), .val (.int ((x1 &&& (2147483647 : Int32)) % (7 : Int32))), .val (.ref (own_pk ((x0 &&& (2147483647 : Int32)) % (7 : Int32)) a0 a1 a2 a3 a4 a5 a6)), .val (.ref (own_pk ((x1 &&& (2147483647 : Int32)) % (7 : Int32)) a0 a1 a2 a3 a4 a5 a6))] at_26 rfl rfl ?_
  refine o_aload 30 W at_28 rfl rfl ?_
  refine o_aload 32 W at_30 rfl rfl ?_
  refine o_virtual 35 [(.ref (own_pk ((x1 &&& (2147483647 : Int32)) % (7 : Int32)) a0 a1 a2 a3 a4 a5 a6))] W (tw hw 10) (tw hw 11) (tw hw 13) (tw hw 12) (tw hw 6) (tw hw 14) (own_exa ((x0 &&& (2147483647 : Int32)) % (7 : Int32)) a0 a1 a2 a3 a4 a5 a6 E0 E1 E2 E3 E4 E5 E6) (con_inc l Z b0 hw _ _ _ _ _ W.old (own_includedBits ((x0 &&& (2147483647 : Int32)) % (7 : Int32)) a0 a1 a2 a3 a4 a5 a6 B0 B1 B2 B3 B4 B5 B6) (own_ordinal ((x1 &&& (2147483647 : Int32)) % (7 : Int32)) a0 a1 a2 a3 a4 a5 a6 O0 O1 O2 O3 O4 O5 O6) (own_exa ((x1 &&& (2147483647 : Int32)) % (7 : Int32)) a0 a1 a2 a3 a4 a5 a6 E0 E1 E2 E3 E4 E5 E6)) pd2 at_32 rfl all0 (fun T h v W qq gg => ?_)
  obtain ⟨_, rfl, rfl, rfl⟩ := qq
  show Go p e below _ _ (mkF m 35 #[.val (.int x0), .val (.int x1), .val (.int ((x0 &&& (2147483647 : Int32)) % (7 : Int32))), .val (.int ((x1 &&& (2147483647 : Int32)) % (7 : Int32))), .val (.ref (own_pk ((x0 &&& (2147483647 : Int32)) % (7 : Int32)) a0 a1 a2 a3 a4 a5 a6)), .val (.ref (own_pk ((x1 &&& (2147483647 : Int32)) % (7 : Int32)) a0 a1 a2 a3 a4 a5 a6))] [(.int (own_inc (own_bits ((x0 &&& (2147483647 : Int32)) % (7 : Int32))) (own_ord ((x1 &&& (2147483647 : Int32)) % (7 : Int32)))))])
  refine o_iloadN 36 W at_35 rfl ?_
  refine o_iloadN 37 W at_36 rfl ?_
  refine o_static 40 [(.int ((x0 &&& (2147483647 : Int32)) % (7 : Int32))), (.int ((x1 &&& (2147483647 : Int32)) % (7 : Int32)))] W (tw hw 26) (tw hw 27) (tw hw 3) (tw hw 28) (con_exp l Z b0 hw _ _ _ W.old) pd3 at_37 rfl all0 (fun T h v W qq gg => ?_)
  obtain ⟨_, rfl, rfl, rfl⟩ := qq
  show Go p e below _ _ (mkF m 40 #[.val (.int x0), .val (.int x1), .val (.int ((x0 &&& (2147483647 : Int32)) % (7 : Int32))), .val (.int ((x1 &&& (2147483647 : Int32)) % (7 : Int32))), .val (.ref (own_pk ((x0 &&& (2147483647 : Int32)) % (7 : Int32)) a0 a1 a2 a3 a4 a5 a6)), .val (.ref (own_pk ((x1 &&& (2147483647 : Int32)) % (7 : Int32)) a0 a1 a2 a3 a4 a5 a6))] [(.int (own_ex ((x0 &&& (2147483647 : Int32)) % (7 : Int32)) ((x1 &&& (2147483647 : Int32)) % (7 : Int32)))), (.int (own_inc (own_bits ((x0 &&& (2147483647 : Int32)) % (7 : Int32))) (own_ord ((x1 &&& (2147483647 : Int32)) % (7 : Int32)))))])
  refine o_icN 43 W at_40 (XT.ii_ne_f (own_fin _ _ (own_mod7 x0) (own_mod7 x1))) ?_
  refine o_iconst 44 W (1) at_43 (by first | rfl | decide) ?_
  refine o_goto 48 W at_44 ?_
  exact o_nret W (1 : Int32) (by simp) (by decide) at_48 (rfl)
set_option maxRecDepth 65536 in
set_option maxHeartbeats 40000000 in
theorem comes_1 {Post : Tables → Env → Array Value → State → Outcome → State → Prop} (hpost : ∀ tb e args s v u, (limb_1_1.after args s (.returned v) u = true ∧ limb_1_2.after args s (.returned v) u = true ∧ True) → FrameEnd s (.returned v) u (Jvm.fieldLocs frame_1_writes args s ++ Jvm.arrayLocs frame_1_arrays args s ++ Jvm.staticLocs frame_1_statics s) 0 0 → Post tb e args s (.returned v) u) :
    ArmFor flags0 classFile x code maxLocals ret World_1 tables_1 room_1 Calls_1 rest_1 Pre_1 Post := by
  intro l hfl _ _ p e ha hc hk s m args below hf hA hF happ hP
  obtain ⟨hcalls, hrest, hpre⟩ := hP
  obtain ⟨-, -, -, hnamed, -, -, -, hat⟩ := (Spec.applies_iff hf).mp happ
  obtain ⟨hg, hn⟩ := and_e (Cond.before_iff.mp (show (Jvm.Cond.and given_1 narrow_1).before args s = true from hpre))
  obtain ⟨hg0, hg⟩ := and_e hg
  obtain ⟨w0, w1, rfl⟩ : ∃ w0 w1 : Value, args = #[w0, w1] := by
    have hs : args.size = 2 := by simpa [Cond.value, given_1] using hg0
    obtain ⟨L⟩ := args
    match L, hs with
    | [w0, w1], _ => exact ⟨w0, w1, rfl⟩
  have hw := fun d (hd : d ∈ tables_1) => atoms_spec (ws := Jvm.Cond.code x code maxLocals ret :: tables_1) hat d (List.mem_cons_of_mem _ hd)
  have hfit : Fit s := fun {y c} hc i hi => by
    obtain ⟨ha, rfl⟩ := Array.getElem?_eq_some_iff.mp hc
    have q := List.all_eq_true.mp ((Array.all_eq_true_iff_forall_mem.mp hF) _ (Array.getElem_mem ha)) i (List.mem_range.mpr hi)
    simpa [Array.getElem?_eq_getElem hi] using q
  obtain ⟨hg1, hg⟩ := and_e hg
  obtain ⟨p0, e0⟩ := is_v hg1
  obtain rfl : w0 = (.int p0) := Option.some.inj e0
  have hg2 := hg
  obtain ⟨p1, e1⟩ := is_v hg2
  obtain rfl : w1 = (.int p1) := Option.some.inj e1
  obtain ⟨hx0, hn⟩ := and_e hn
  obtain ⟨hx3, hn⟩ := and_e hn
  obtain ⟨hb0, hn⟩ := and_e hn
  obtain ⟨ho3, hn⟩ := and_e hn
  obtain ⟨hx1, hn⟩ := and_e hn
  obtain ⟨ho1, hn⟩ := and_e hn
  obtain ⟨hx5, hn⟩ := and_e hn
  obtain ⟨hb3, hn⟩ := and_e hn
  obtain ⟨ho5, hn⟩ := and_e hn
  obtain ⟨hx2, hn⟩ := and_e hn
  obtain ⟨hb1, hn⟩ := and_e hn
  obtain ⟨ho2, hn⟩ := and_e hn
  obtain ⟨hx4, hn⟩ := and_e hn
  obtain ⟨hb4, hn⟩ := and_e hn
  obtain ⟨ho0, hn⟩ := and_e hn
  obtain ⟨hx6, hn⟩ := and_e hn
  obtain ⟨ho6, hn⟩ := and_e hn
  obtain ⟨hb6, hn⟩ := and_e hn
  obtain ⟨hb5, hn⟩ := and_e hn
  obtain ⟨ho4, hn⟩ := and_e hn
  have hb2 := hn
  obtain ⟨a0, S0, E0, v0⟩ := own_sx hx0 (tw hw 6) (tw hw 7)
  have B0 := own_fi v0 hb0
  have O0 := own_fi v0 ho0
  obtain ⟨a1, S1, E1, v1⟩ := own_sx hx1 (tw hw 6) (tw hw 30)
  have B1 := own_fi v1 hb1
  have O1 := own_fi v1 ho1
  obtain ⟨a2, S2, E2, v2⟩ := own_sx hx2 (tw hw 6) (tw hw 34)
  have B2 := own_fi v2 hb2
  have O2 := own_fi v2 ho2
  obtain ⟨a3, S3, E3, v3⟩ := own_sx hx3 (tw hw 6) (tw hw 9)
  have B3 := own_fi v3 hb3
  have O3 := own_fi v3 ho3
  obtain ⟨a4, S4, E4, v4⟩ := own_sx hx4 (tw hw 6) (tw hw 36)
  have B4 := own_fi v4 hb4
  have O4 := own_fi v4 ho4
  obtain ⟨a5, S5, E5, v5⟩ := own_sx hx5 (tw hw 6) (tw hw 32)
  have B5 := own_fi v5 hb5
  have O5 := own_fi v5 ho5
  obtain ⟨a6, S6, E6, v6⟩ := own_sx hx6 (tw hw 6) (tw hw 38)
  have B6 := own_fi v6 hb6
  have O6 := own_fi v6 ho6
  have R := con_law l s _ hw p0 p1 a0 a1 a2 a3 a4 a5 a6 S0 S1 S2 S3 S4 S5 S6 B0 B1 B2 B3 B4 B5 B6 O0 O1 O2 O3 O4 O5 O6 E0 E1 E2 E3 E4 E5 E6
  have HCH : CHv s own_EL s.vm s.heap := fun p hp => by cases hp
  obtain ⟨n, o, h1, h2, h3, _, Lc, rfl, ⟨_, rfl, rfl⟩, N, hCH, hEx, hNr, hq⟩ := R tables_1 p e ha hc hk s m _ below hf ((Spec.applies_iff_loose hf).mp happ).1 ⟨rfl, State.Warmed39.refl s, rfl, HCH, all0⟩ trivial
  refine ⟨n, _, h1, h2, h3, hpost _ _ _ _ _ _ ⟨Cond.after_iff.mpr rfl, Cond.after_iff.mpr (eq_i res_at (Term.int_eval (1)) rfl), trivial⟩ ⟨hq.1, hNr trivial, (hq.2.2.2.sift fun y hy => Or.inr (N y hy)).mono (by decide) (by decide)⟩⟩
theorem main_1_1 : Claimed_1_1 := comes_1 fun _ _ _ _ _ _ h hF => ⟨h.1, hF⟩
theorem main_1_2 : Claimed_1_2 := comes_1 fun _ _ _ _ _ _ h hF => ⟨h.2.1, hF⟩
end Jvm.Pilot.@@N@@
namespace Jvm.Pilot.@@N@@
open Jvm Jvm.ClassFile Sem Op Lib Jvm.Free Jvm.Stand Jvm.Pilot.@@N@@.Jvm.D
/-! MADE BY PROGRAM (witnessworld.py) out of the Statement's table words and the real class files: 12 classes; the members and pool entries that the words name. The judged class is class 1, her method 3. -/
namespace start1
open Jvm.ClassFile
def u (s : String) : CpInfo := .utf8 (stringToUtf16 s)
/-- a pool by its gaps: so many unusable entries, then the entry; so many at the end -/
def gap : Nat → List CpInfo → List CpInfo
  | 0, r => r
  | n + 1, r => .unusable :: gap n r
def poolList (es : List (Nat × CpInfo)) (last : Nat) : List CpInfo := es.foldr (fun e r => gap e.1 (e.2 :: r)) (gap last [])
def pool (es : List (Nat × CpInfo)) (last : Nat) : Array CpInfo := ⟨poolList es last⟩
def fileOf (pool : Array CpInfo) (this : Nat) (attrs : Array Attribute := #[]) (ms : Array MethodInfo := #[]) (fl : Nat := 33) (sup : Nat := 0) (ifs : Array Nat := #[]) (fds : Array FieldInfo := #[]) : ClassFile where
  minorVersion := 0
  majorVersion := 65
  constantPool := pool
  accessFlags := fl
  thisClass := this
  superClass := sup
  interfaces := ifs
  fields := fds
  methods := ms
  attributes := attrs
def plain (name : String) (sup : Option ClassId) : Class where
  name := name
  kind := .ordinary
  loader := none
  accessFlags := 33
  super := sup
  interfaces := #[]
  cf := none
  fields := #[]
  methods := #[]
  instanceTypes := #[]
  staticTypes := #[]
  resolved := #[]
  callSites := []
  init := .initialized
  statics := none
  mirror := none

def pool0 : Array CpInfo := pool [(5, u "<init>"), (0, u "()V"), (1, .class_ 10), (1, u "java/lang/Object")] 113

def k0m0 : Method := { name := "<init>", desc := "()V", sig := { parameters := [], returnType := none }, accessFlags := 1, code := none }
/-- java/lang/Object -/
def k0 : Class := { plain "java/lang/Object" none with
  accessFlags := 33
  interfaces := #[]
  cf := some (fileOf pool0 8 #[] #[{ accessFlags := 1, nameIndex := 5, descriptorIndex := 6, attributes := #[] }] 33 0 #[] #[])
  fields := #[]
  methods := #[k0m0]
  instanceTypes := #[]
  staticTypes := #[]
  resolved := Array.replicate 124 none
  statics := none }

def pool1 : Array CpInfo := pool [(2, .class_ 4), (1, u "java/lang/Object"), (0, u "<init>"), (0, u "()V"), (0, .fieldref 8 9), (0, .class_ 10), (0, .nameAndType 11 12), (0, u "com/example/gatewarden/gatewarden/access/RoleType"), (0, u "USER"), (0, u "Lcom/example/gatewarden/gatewarden/access/RoleType;"), (0, .fieldref 8 14), (0, .nameAndType 15 12), (0, u "PRIVILEGED_USER"), (0, .fieldref 8 17), (0, .nameAndType 18 12), (0, u "EDITOR"), (0, .fieldref 8 20), (0, .nameAndType 21 12), (0, u "MANAGER"), (0, .fieldref 8 23), (0, .nameAndType 24 12), (0, u "DELEGATOR"), (0, .fieldref 8 26), (0, .nameAndType 27 12), (0, u "SECURITY_ADMINISTRATOR"), (0, .fieldref 8 29), (0, .nameAndType 30 12), (0, u "ADMINISTRATOR"), (0, .integer 2147483647), (0, .methodref 33 34), (0, .class_ 35), (0, .nameAndType 36 37), (0, u "com/example/gatewarden/gatewarden/access/RoleTypeIncludesPinLaw"), (0, u "pick"), (0, u "(I)Lcom/example/gatewarden/gatewarden/access/RoleType;"), (0, .methodref 8 39), (0, .nameAndType 40 41), (0, u "includes"), (0, u "(Lcom/example/gatewarden/gatewarden/access/RoleType;)Z"), (0, .methodref 33 43), (0, .nameAndType 44 45), (0, u "expected"), (0, u "(II)Z"), (3, u "law")] 2

def k1m0 : Method := { name := "<init>", desc := "()V", sig := { parameters := [], returnType := none }, accessFlags := 1, code := none }
def k1c1 : Code := { maxStack := 2, maxLocals := 1, code := method_2_code, exceptionTable := #[], attributes := #[] }
def k1m1 : Method := { name := "pick", desc := "(I)Lcom/example/gatewarden/gatewarden/access/RoleType;", sig := { parameters := [.int], returnType := some (.object "com/example/gatewarden/gatewarden/access/RoleType") }, accessFlags := 10, code := some k1c1 }
def k1c2 : Code := { maxStack := 2, maxLocals := 2, code := method_3_code, exceptionTable := #[], attributes := #[] }
def k1m2 : Method := { name := "expected", desc := "(II)Z", sig := { parameters := [.int, .int], returnType := some .boolean }, accessFlags := 10, code := some k1c2 }
def k1c3 : Code := { maxStack := 3, maxLocals := 6, code := code, exceptionTable := #[], attributes := #[] }
def k1m3 : Method := { name := "law", desc := "(II)Z", sig := { parameters := [.int, .int], returnType := some .boolean }, accessFlags := 9, code := some k1c3 }
/-- com/example/gatewarden/gatewarden/access/RoleTypeIncludesPinLaw -/
def k1 : Class := { plain "com/example/gatewarden/gatewarden/access/RoleTypeIncludesPinLaw" (some 0) with
  accessFlags := 49
  interfaces := #[]
  cf := some (fileOf pool1 33 #[] #[{ accessFlags := 1, nameIndex := 5, descriptorIndex := 6, attributes := #[] }, { accessFlags := 10, nameIndex := 36, descriptorIndex := 37, attributes := #[] }, { accessFlags := 10, nameIndex := 44, descriptorIndex := 45, attributes := #[] }, { accessFlags := 9, nameIndex := 49, descriptorIndex := 45, attributes := #[] }] 49 2 #[] #[])
  fields := #[]
  methods := #[k1m0, k1m1, k1m2, k1m3]
  instanceTypes := #[]
  staticTypes := #[]
  resolved := Array.replicate 52 none
  statics := none }

def pool2 : Array CpInfo := pool [(1, .class_ 2), (0, u "java/lang/constant/Constable"), (0, .class_ 4), (0, u "java/lang/Object")] 6

/-- java/lang/constant/Constable -/
def k2 : Class := { plain "java/lang/constant/Constable" (some 0) with
  accessFlags := 1537
  interfaces := #[]
  cf := some (fileOf pool2 1 #[] #[] 1537 3 #[] #[])
  fields := #[]
  methods := #[]
  instanceTypes := #[]
  staticTypes := #[]
  resolved := Array.replicate 11 none
  statics := none }

def pool3 : Array CpInfo := pool [(1, .class_ 2), (0, u "java/lang/Comparable"), (0, .class_ 4), (0, u "java/lang/Object")] 7

/-- java/lang/Comparable -/
def k3 : Class := { plain "java/lang/Comparable" (some 0) with
  accessFlags := 1537
  interfaces := #[]
  cf := some (fileOf pool3 1 #[] #[] 1537 3 #[] #[])
  fields := #[]
  methods := #[]
  instanceTypes := #[]
  staticTypes := #[]
  resolved := Array.replicate 12 none
  statics := none }

def pool4 : Array CpInfo := pool [(1, .class_ 2), (0, u "java/io/Serializable"), (0, .class_ 4), (0, u "java/lang/Object")] 2

/-- java/io/Serializable -/
def k4 : Class := { plain "java/io/Serializable" (some 0) with
  accessFlags := 1537
  interfaces := #[]
  cf := some (fileOf pool4 1 #[] #[] 1537 3 #[] #[])
  fields := #[]
  methods := #[]
  instanceTypes := #[]
  staticTypes := #[]
  resolved := Array.replicate 7 none
  statics := none }

def pool5 : Array CpInfo := pool [(2, .class_ 4), (1, u "java/lang/Enum"), (0, u "name"), (0, u "Ljava/lang/String;"), (0, .fieldref 2 8), (0, .nameAndType 9 10), (0, u "ordinal"), (0, u "I"), (1, .class_ 14), (1, u "java/lang/Object"), (4, u "hash"), (86, .class_ 108), (1, u "java/lang/Enum$EnumDesc"), (2, .class_ 112), (0, u "java/lang/constant/Constable"), (0, .class_ 114), (0, u "java/lang/Comparable"), (0, .class_ 116), (0, u "java/io/Serializable"), (9, u "()I")] 77

def k5c0 : Code := { maxStack := 1, maxLocals := 1, code := jdk_37_method_2_code, exceptionTable := #[], attributes := #[] }
def k5m0 : Method := { name := "ordinal", desc := "()I", sig := { parameters := [], returnType := some .int }, accessFlags := 17, code := some k5c0 }
/-- java/lang/Enum -/
def k5 : Class := { plain "java/lang/Enum" (some 0) with
  accessFlags := 1057
  interfaces := #[2, 3, 4]
  cf := some (fileOf pool5 2 #[.nestMembers #[106]] #[{ accessFlags := 17, nameIndex := 9, descriptorIndex := 126, attributes := #[] }] 1057 12 #[111, 113, 115] #[{ accessFlags := 18, nameIndex := 5, descriptorIndex := 6, attributes := #[] }, { accessFlags := 18, nameIndex := 9, descriptorIndex := 10, attributes := #[] }, { accessFlags := 2, nameIndex := 19, descriptorIndex := 10, attributes := #[] }])
  fields := #[{ name := "name", type := (.object "java/lang/String"), accessFlags := 18, slot := 0, constantValue := 0 }, { name := "ordinal", type := .int, accessFlags := 18, slot := 1, constantValue := 0 }, { name := "hash", type := .int, accessFlags := 2, slot := 2, constantValue := 0 }]
  methods := #[k5m0]
  instanceTypes := #[(.object "java/lang/String"), .int, .int]
  staticTypes := #[]
  resolved := Array.replicate 204 none
  statics := none }

def pool6 : Array CpInfo := pool [(1, .class_ 2), (0, u "com/example/gatewarden/gatewarden/access/RoleType"), (2, u "USER"), (0, u "Lcom/example/gatewarden/gatewarden/access/RoleType;"), (2, u "PRIVILEGED_USER"), (2, u "EDITOR"), (2, u "MANAGER"), (2, u "DELEGATOR"), (2, u "SECURITY_ADMINISTRATOR"), (2, u "ADMINISTRATOR"), (2, u "$VALUES"), (0, u "[Lcom/example/gatewarden/gatewarden/access/RoleType;"), (6, .class_ 37), (1, u "java/lang/Enum"), (6, .methodref 1 45), (0, .nameAndType 46 47), (0, u "ordinal"), (0, u "()I"), (0, .fieldref 1 49), (0, .nameAndType 50 51), (0, u "includedBits"), (0, u "I"), (2, u "typeName"), (0, u "Ljava/lang/String;"), (2, u "BY_NAME"), (0, u "Ljava/util/Map;"), (17, u "GREATER_FIRST"), (0, u "Ljava/util/List;"), (87, u "includes"), (0, u "(Lcom/example/gatewarden/gatewarden/access/RoleType;)Z")] 21

def k6c0 : Code := { maxStack := 3, maxLocals := 2, code := prog_9_method_7_code, exceptionTable := #[], attributes := #[] }
def k6m0 : Method := { name := "includes", desc := "(Lcom/example/gatewarden/gatewarden/access/RoleType;)Z", sig := { parameters := [(.object "com/example/gatewarden/gatewarden/access/RoleType")], returnType := some .boolean }, accessFlags := 1, code := some k6c0 }
/-- com/example/gatewarden/gatewarden/access/RoleType -/
def k6 : Class := { plain "com/example/gatewarden/gatewarden/access/RoleType" (some 5) with
  accessFlags := 16433
  interfaces := #[]
  cf := some (fileOf pool6 1 #[] #[{ accessFlags := 1, nameIndex := 166, descriptorIndex := 167, attributes := #[] }] 16433 35 #[] #[{ accessFlags := 16409, nameIndex := 5, descriptorIndex := 6, attributes := #[] }, { accessFlags := 16409, nameIndex := 9, descriptorIndex := 6, attributes := #[] }, { accessFlags := 16409, nameIndex := 12, descriptorIndex := 6, attributes := #[] }, { accessFlags := 16409, nameIndex := 15, descriptorIndex := 6, attributes := #[] }, { accessFlags := 16409, nameIndex := 18, descriptorIndex := 6, attributes := #[] }, { accessFlags := 16409, nameIndex := 21, descriptorIndex := 6, attributes := #[] }, { accessFlags := 16409, nameIndex := 24, descriptorIndex := 6, attributes := #[] }, { accessFlags := 26, nameIndex := 58, descriptorIndex := 59, attributes := #[] }, { accessFlags := 26, nameIndex := 77, descriptorIndex := 78, attributes := #[] }, { accessFlags := 18, nameIndex := 54, descriptorIndex := 55, attributes := #[] }, { accessFlags := 18, nameIndex := 50, descriptorIndex := 51, attributes := #[] }, { accessFlags := 4122, nameIndex := 27, descriptorIndex := 28, attributes := #[] }])
  fields := #[{ name := "USER", type := (.object "com/example/gatewarden/gatewarden/access/RoleType"), accessFlags := 16409, slot := 0, constantValue := 0 }, { name := "PRIVILEGED_USER", type := (.object "com/example/gatewarden/gatewarden/access/RoleType"), accessFlags := 16409, slot := 1, constantValue := 0 }, { name := "EDITOR", type := (.object "com/example/gatewarden/gatewarden/access/RoleType"), accessFlags := 16409, slot := 2, constantValue := 0 }, { name := "MANAGER", type := (.object "com/example/gatewarden/gatewarden/access/RoleType"), accessFlags := 16409, slot := 3, constantValue := 0 }, { name := "DELEGATOR", type := (.object "com/example/gatewarden/gatewarden/access/RoleType"), accessFlags := 16409, slot := 4, constantValue := 0 }, { name := "SECURITY_ADMINISTRATOR", type := (.object "com/example/gatewarden/gatewarden/access/RoleType"), accessFlags := 16409, slot := 5, constantValue := 0 }, { name := "ADMINISTRATOR", type := (.object "com/example/gatewarden/gatewarden/access/RoleType"), accessFlags := 16409, slot := 6, constantValue := 0 }, { name := "BY_NAME", type := (.object "java/util/Map"), accessFlags := 26, slot := 7, constantValue := 0 }, { name := "GREATER_FIRST", type := (.object "java/util/List"), accessFlags := 26, slot := 8, constantValue := 0 }, { name := "typeName", type := (.object "java/lang/String"), accessFlags := 18, slot := 3, constantValue := 0 }, { name := "includedBits", type := .int, accessFlags := 18, slot := 4, constantValue := 0 }, { name := "$VALUES", type := (.array (.object "com/example/gatewarden/gatewarden/access/RoleType")), accessFlags := 4122, slot := 9, constantValue := 0 }]
  methods := #[k6m0]
  instanceTypes := #[(.object "java/lang/String"), .int, .int, (.object "java/lang/String"), .int]
  staticTypes := #[(.object "com/example/gatewarden/gatewarden/access/RoleType"), (.object "com/example/gatewarden/gatewarden/access/RoleType"), (.object "com/example/gatewarden/gatewarden/access/RoleType"), (.object "com/example/gatewarden/gatewarden/access/RoleType"), (.object "com/example/gatewarden/gatewarden/access/RoleType"), (.object "com/example/gatewarden/gatewarden/access/RoleType"), (.object "com/example/gatewarden/gatewarden/access/RoleType"), (.object "java/util/Map"), (.object "java/util/List"), (.array (.object "com/example/gatewarden/gatewarden/access/RoleType"))]
  resolved := Array.replicate 189 none
  statics := some 0 }

def pool7 : Array CpInfo := pool [(1, u "java/lang/Cloneable"), (0, .class_ 1), (0, u "java/lang/Object"), (0, .class_ 3)] 3

/-- java/lang/Cloneable -/
def k7 : Class := { plain "java/lang/Cloneable" (some 0) with
  accessFlags := 1537
  interfaces := #[]
  cf := some (fileOf pool7 2 #[] #[] 1537 4 #[] #[])
  fields := #[]
  methods := #[]
  instanceTypes := #[]
  staticTypes := #[]
  resolved := Array.replicate 8 none
  statics := none }

/-- the primitive byte -/
def k8 : Class := { plain "byte" none with kind := .primitive 'B', accessFlags := 0x411 }
/-- [B -/
def k9 : Class := { plain "[B" (some 0) with kind := .array 8 .byte, interfaces := #[7, 4], accessFlags := 1041 }

/-- the primitive int -/
def k10 : Class := { plain "int" none with kind := .primitive 'I', accessFlags := 0x411 }
/-- [I -/
def k11 : Class := { plain "[I" (some 0) with kind := .array 10 .int, interfaces := #[7, 4], accessFlags := 1041 }

def heap : Heap := #[{ cls := 6, slots := #[.ref 1, .ref 2, .ref 3, .ref 4, .ref 5, .ref 6, .ref 7, .null, .null, .null], vm := .statics 6 },
  { cls := 6, slots := #[.null, .int 0, .int 0, .null, .int 1], vm := .none },
  { cls := 6, slots := #[.null, .int 1, .int 0, .null, .int 3], vm := .none },
  { cls := 6, slots := #[.null, .int 2, .int 0, .null, .int 7], vm := .none },
  { cls := 6, slots := #[.null, .int 3, .int 0, .null, .int 15], vm := .none },
  { cls := 6, slots := #[.null, .int 4, .int 0, .null, .int 16], vm := .none },
  { cls := 6, slots := #[.null, .int 5, .int 0, .null, .int 48], vm := .none },
  { cls := 6, slots := #[.null, .int 6, .int 0, .null, .int 127], vm := .none }]
def classes : Array Class := #[k0, k1, k2, k3, k4, k5, k6, k7, k8, k9, k10, k11]
def interned : List (Array UInt16 × Addr) := []
def slotsUsed : Nat := 45
def theMethod : MethodId := ⟨1, 3⟩
def args0 : Array Value := #[.int 5, .int 7]
def aboutOver (below : List Frame) : State where
  vm := { classes := classes, interned := interned.toArray }
  heap := heap
  slotsUsed := slotsUsed
  threads := #[{ frames := .invoking theMethod args0 :: below }]
def below0 : List Frame := [.native { method := ⟨0, 0⟩, args := #[] }]
def about1 : State := aboutOver below0
def p0 : Program := .bare "" "" ""
def e0 : Env := launch0.env 0 0 0
theorem w_frames : about1.frames = Frame.invoking theMethod args0 :: below0 := rfl
set_option maxRecDepth 65536 in
theorem w_args : argsFit about1.vm theMethod args0 = true := by decide +kernel
set_option maxRecDepth 65536 in
theorem w_heap : heapFits about1 = true := by decide +kernel
set_option maxRecDepth 65536 in
theorem w_runnable : about1.curStatus? = some .runnable := by decide +kernel
set_option maxRecDepth 65536 in
theorem w_alone : about1.alone = true := by decide +kernel
set_option maxRecDepth 65536 in
theorem w_named : about1.methodNamed? x = some theMethod := by decide +kernel
set_option maxRecDepth 65536 in
theorem w_hears : about1.hears theMethod below0 = true := by decide +kernel
set_option maxRecDepth 65536 in
theorem w_ripe : about1.ripe theMethod args0 below0 = true := by decide +kernel
theorem w_running : about1.status = .running := rfl
set_option maxRecDepth 65536 in
theorem w_room : about1.hasRoom e0.platform room_1 = true :=
  launch0.hasRoom_least _ room_1 (by decide +kernel) (by decide +kernel) (by decide +kernel) (by decide +kernel) (by decide +kernel) (by decide +kernel)
theorem allAtoms_all (ts : List Jvm.Cond) (a : Array Jvm.Value) (st : Jvm.State) : (allAtoms ts).before a st = ts.all (fun c => c.before a st) := by
  induction ts with
  | nil => rfl
  | cons c t ih =>
    show (Jvm.Cond.and c (allAtoms t)).before a st = _
    rw [Jvm.Cond.before_and, ih, List.all_cons]
def words1 : List Jvm.Cond := Jvm.Cond.code x code maxLocals ret :: tables_1
/-- a 'code' word, met by the world's own term for the bytes: nothing is compared byte by byte -/
theorem code_word {y : MethodName} {bytes : ByteArray} {mx : Nat} {rt : Option FieldType} {a : Array Value} {s : State} {m : MethodId} {meth : Method} {c : Code} (h1 : s.methodNamed? y = some m) (h2 : s.vm.method? m = some meth) (h3 : meth.code = some c) (h4 : c.code = bytes)
    (h5 : (c.maxLocals == mx && c.exceptionTable.isEmpty && decide (c.maxStack ≤ mostOperands) && decide (meth.sig.returnType = rt) && !meth.locks && decide (parseMethodDescriptor y.desc = some meth.sig)) = true) : (Jvm.Cond.code y bytes mx rt).before a s = true := by
  simp only [Bool.and_eq_true, beq_iff_eq, Bool.not_eq_true', decide_eq_true_eq] at h5
  obtain ⟨⟨⟨⟨⟨g1, g2⟩, g3⟩, g4⟩, g5⟩, g6⟩ := h5
  simp [Cond.before, Cond.holds, Cond.value, h1, h2, h3, h4, g1, g2, g3, g4, g5, g6]
def isCode : Jvm.Cond → Bool
  | .code _ _ _ _ => true
  | _ => false
theorem all_split {L : List Jvm.Cond} {P : Jvm.Cond → Bool} (h1 : L.all (fun c => isCode c || P c) = true) (h2 : ∀ c ∈ L.filter isCode, P c = true) : L.all P = true := by
  refine List.all_eq_true.mpr fun c hc => ?_
  have h := List.all_eq_true.mp h1 c hc
  rcases Bool.eq_false_or_eq_true (isCode c) with hi | hi
  · exact h2 c (List.mem_filter.mpr ⟨hc, hi⟩)
  · simpa [hi] using h
set_option maxRecDepth 65536 in
theorem w_c0 : (Jvm.Cond.code x code maxLocals ret).before args0 about1 = true := code_word (m := ⟨1, 3⟩) (meth := k1m3) (c := k1c3) (by decide +kernel) rfl rfl rfl (by decide +kernel)
set_option maxRecDepth 65536 in
theorem w_c1 : (Jvm.Cond.code ({ cls := "com/example/gatewarden/gatewarden/access/RoleTypeIncludesPinLaw", name := "pick", desc := "(I)Lcom/example/gatewarden/gatewarden/access/RoleType;" } : Jvm.MethodName) method_2_code (1 : Nat) (Option.some (Jvm.ClassFile.FieldType.object "com/example/gatewarden/gatewarden/access/RoleType"))).before args0 about1 = true := code_word (m := ⟨1, 1⟩) (meth := k1m1) (c := k1c1) (by decide +kernel) rfl rfl rfl (by decide +kernel)
set_option maxRecDepth 65536 in
theorem w_c2 : (Jvm.Cond.code ({ cls := "com/example/gatewarden/gatewarden/access/RoleType", name := "includes", desc := "(Lcom/example/gatewarden/gatewarden/access/RoleType;)Z" } : Jvm.MethodName) prog_9_method_7_code (2 : Nat) (Option.some Jvm.ClassFile.FieldType.boolean)).before args0 about1 = true := code_word (m := ⟨6, 0⟩) (meth := k6m0) (c := k6c0) (by decide +kernel) rfl rfl rfl (by decide +kernel)
set_option maxRecDepth 65536 in
theorem w_c3 : (Jvm.Cond.code ({ cls := "java/lang/Enum", name := "ordinal", desc := "()I" } : Jvm.MethodName) jdk_37_method_2_code (1 : Nat) (Option.some Jvm.ClassFile.FieldType.int)).before args0 about1 = true := code_word (m := ⟨5, 0⟩) (meth := k5m0) (c := k5c0) (by decide +kernel) rfl rfl rfl (by decide +kernel)
set_option maxRecDepth 65536 in
theorem w_c4 : (Jvm.Cond.code ({ cls := "com/example/gatewarden/gatewarden/access/RoleTypeIncludesPinLaw", name := "expected", desc := "(II)Z" } : Jvm.MethodName) method_3_code (2 : Nat) (Option.some Jvm.ClassFile.FieldType.boolean)).before args0 about1 = true := code_word (m := ⟨1, 2⟩) (meth := k1m2) (c := k1c2) (by decide +kernel) rfl rfl rfl (by decide +kernel)
def codes1 : List Jvm.Cond := [Jvm.Cond.code x code maxLocals ret, Jvm.Cond.code ({ cls := "com/example/gatewarden/gatewarden/access/RoleTypeIncludesPinLaw", name := "pick", desc := "(I)Lcom/example/gatewarden/gatewarden/access/RoleType;" } : Jvm.MethodName) method_2_code (1 : Nat) (Option.some (Jvm.ClassFile.FieldType.object "com/example/gatewarden/gatewarden/access/RoleType")), Jvm.Cond.code ({ cls := "com/example/gatewarden/gatewarden/access/RoleType", name := "includes", desc := "(Lcom/example/gatewarden/gatewarden/access/RoleType;)Z" } : Jvm.MethodName) prog_9_method_7_code (2 : Nat) (Option.some Jvm.ClassFile.FieldType.boolean), Jvm.Cond.code ({ cls := "java/lang/Enum", name := "ordinal", desc := "()I" } : Jvm.MethodName) jdk_37_method_2_code (1 : Nat) (Option.some Jvm.ClassFile.FieldType.int), Jvm.Cond.code ({ cls := "com/example/gatewarden/gatewarden/access/RoleTypeIncludesPinLaw", name := "expected", desc := "(II)Z" } : Jvm.MethodName) method_3_code (2 : Nat) (Option.some Jvm.ClassFile.FieldType.boolean)]
set_option maxRecDepth 65536 in
theorem codes_eq : words1.filter isCode = codes1 := rfl
theorem w_codes : ∀ c ∈ words1.filter isCode, c.before args0 about1 = true := by
  rw [codes_eq]
  intro c hc
  simp only [codes1, List.mem_cons, List.not_mem_nil, or_false] at hc
  rcases hc with rfl | rfl | rfl | rfl | rfl
  · exact w_c0
  · exact w_c1
  · exact w_c2
  · exact w_c3
  · exact w_c4
set_option maxRecDepth 65536 in
theorem w_t1 : (words1.take 24).all (fun c => isCode c || c.before args0 about1) = true := by decide +kernel
set_option maxRecDepth 65536 in
theorem w_t2 : (words1.drop 24).all (fun c => isCode c || c.before args0 about1) = true := by decide +kernel
theorem w_tables : (allAtoms (Jvm.Cond.code x code maxLocals ret :: tables_1)).before args0 about1 = true := by
  rw [allAtoms_all]
  show words1.all (fun c => c.before args0 about1) = true
  refine all_split ?_ w_codes
  rw [← List.take_append_drop 24 words1, List.all_append, w_t1, w_t2]
  rfl
set_option maxRecDepth 65536 in
theorem w_case : (Jvm.Cond.and given_1 narrow_1).before args0 about1 = true := by decide +kernel
theorem w_applies : (headSpec (Jvm.Cond.code x code maxLocals ret :: tables_1) room_1).applies x e0.platform about1 = true :=
  (Spec.applies_iff w_frames).mpr ⟨w_running, w_runnable, w_alone, w_named, w_hears, w_ripe, w_room, w_tables⟩
theorem atStart : AtStart classFile x code maxLocals ret World_1 tables_1 room_1 Calls_1 rest_1 Pre_1 launch0 p0 e0 about1 theMethod args0 below0 :=
  ⟨lists_1, trivial, launch0.admits_env _ _ _, launch0.least_env, fairChoices_fair.cas, fairChoices_fair.clock, w_frames, w_args, w_heap, w_applies, trivial, trivial, w_case⟩
end start1
theorem witness_1 : WitnessClaimed_1 := ⟨start1.p0, start1.e0, start1.about1, start1.theMethod, start1.args0, start1.below0, start1.atStart⟩
end Jvm.Pilot.@@N@@
