import JvmDerived
import JvmDerived.Pilot.@@N@@Statement
import JvmDerived.Pilot.@@N@@Code
set_option linter.unusedVariables false
set_option linter.unusedSimpArgs false
namespace Jvm.Pilot.@@N@@
open Jvm Jvm.ClassFile Sem Op Lib Jvm.Free Jvm.Stand Jvm.LawKit Jvm.RoadKit Bundle Jvm.Pilot.@@N@@.Jvm.D
theorem tw {Z : State} {a0 : Array Value} (hw : ∀ d ∈ tables_1, d.before a0 Z = true) (i : Nat) {d : Jvm.Cond} (hd : tables_1[i]? = some d := by rfl) : d.before a0 Z = true := hw d (List.mem_of_getElem? hd)
abbrev own_Nar : Prop := True
abbrev own_EL : List (String × Nat) := []
section Own
variable {p : Program} {l : Launch} {e : Env} {R : Room} {s : State} {m : MethodId} {args : Array Value} {below : List Frame} {meth : Method} {c : Code} {Z : State} {a0 : Array Value} {y : MethodName} {bytes : ByteArray} {maxL : Nat} {ret : Option FieldType} {T : State} {h : Heap} {ce sl : Nat} {sf : List Addr} {G : State → Prop} {pc : Nat} {L : Array Slot} {S : List Value}
/-- where a walk stands: the state T, its heap h, what has been made, the cells that no constant books -/
def Wk (p : Program) (l : Launch) (e : Env) (R : Room) (s : State) (m : MethodId) (args : Array Value) (below : List Frame) (meth : Method) (c : Code) (Z : State) (y : MethodName) (bytes : ByteArray) (maxL : Nat) (ret : Option FieldType) (T : State) (h : Heap) (ce sl : Nat) (sf : List Addr) : Prop :=
  ∃ (vm0 : Vm) (k0 : Nat) (locs : List Loc), Stand p l e R (s.setVm vm0) m args below meth c T locs ce sl ∧ T.heap = h ∧ s.Since vm0 k0 ∧ k0 ≤ h.size ∧ Z.Warmed39 (s.setVm vm0).vm ∧ (s.setVm vm0).vm.findClass y.cls = some m.cls ∧ Fr Z.heap.size locs ∧ (own_Nar → s.WarmedH vm0) ∧ CHr Z own_EL s.vm s.heap vm0 h ∧ (∀ x ∈ sf, x < h.size ∧ Safe Z own_EL vm0 h x) ∧ Ext Z.heap h ∧ (∃ a1, EW Z a1 own_EL) ∧ p.tables.exec = Jvm.exec ∧ c.code = bytes ∧ c.maxLocals = maxL ∧ meth.name = y.name ∧ meth.sig.returnType = ret ∧ meth.locks = false
def Go (p : Program) (e : Env) (below : List Frame) (G : State → Prop) (T : State) (g : JFrame) : Prop := ∃ u, Steps p.tables e below (T.setTop g) u ∧ G u
theorem Go.st {T' : State} {g g' : JFrame} (K : Go p e below G T' g') (f : ∀ u, Steps p.tables e below (T'.setTop g') u → Steps p.tables e below (T.setTop g) u) : Go p e below G T g := by
  obtain ⟨u, k, q⟩ := K
  exact ⟨u, f u k, q⟩
theorem Go.cut {g g' : JFrame} (A : Go p e below G T g' → Go p e below G T g) (B : Go p e below G T g') : Go p e below G T g := A B
theorem Go.eq {g g' : JFrame} (K : Go p e below G T g') (q : g' = g) : Go p e below G T g := q ▸ K
theorem Go.cutW {g g' : JFrame} (W : Wk p l e R s m args below meth c Z y bytes maxL ret T h ce sl sf) (A : (∀ T', Wk p l e R s m args below meth c Z y bytes maxL ret T' h ce sl sf → Go p e below G T' g') → Go p e below G T g) (B : ∀ T', Wk p l e R s m args below meth c Z y bytes maxL ret T' h ce sl sf → Go p e below G T' g') : Go p e below G T g := A B
theorem own_ext_refl (h : Heap) : Ext h h := ⟨Nat.le_refl _, fun _ _ q => q⟩
theorem own_ext_trans {h h' h2 : Heap} (A : Ext h h') (B : Ext h' h2) : Ext h h2 := ⟨Nat.le_trans A.1 B.1, fun x c q => B.2 x c (A.2 x c q)⟩
theorem own_ext_wr {h0 h h' : Heap} {a : Addr} {i : Nat} {v : Value} (E : Ext h0 h) (W : Wr h h' a i v) (q : h0.size ≤ a) : Ext h0 h' := by
  refine ⟨Nat.le_trans E.1 (Nat.le_of_eq W.size.symm), fun x cc r => ?_⟩
  obtain ⟨c', e1, -, -, -, e5, -⟩ := wr_at W (E.2 x cc r)
  have hlt := (Array.getElem?_eq_some_iff.mp r).1
  rw [e1, e5 (Nat.ne_of_lt (Nat.lt_of_lt_of_le hlt q))]
theorem own_ext_keep {h0 h h' : Heap} {a : Addr} (E : Ext h0 h) (K : Keep h h' [a]) (q : h0.size ≤ a) : Ext h0 h' := ⟨Nat.le_trans E.1 K.1, fun x cc r => K.2.1 x cc (E.2 x cc r) fun z => by
  have hlt := (Array.getElem?_eq_some_iff.mp r).1
  rw [List.mem_singleton.mp z] at hlt; omega⟩
theorem own_ns_root {O K : String} {n : Nat} (w : (Jvm.Cond.noSuperclass O).before a0 Z = true) (wk : (Jvm.Cond.instantiable K n).before a0 Z = true) (hn : O ≠ K) : NS Z O K := by
  obtain ⟨c, k, h1, h2, h3, -, -⟩ := Cond.noSuperclass_spec w
  obtain ⟨t, kt, g1, -⟩ := Cond.instantiable_spec wk
  have ne := ids_ne h1 g1 hn
  refine ⟨c, t, h1, g1, fun fuel => ?_⟩
  cases fuel with
  | zero => rfl
  | succ f => simp [Vm.isSubclassAux, ne, h2, h3]
theorem own_ns_no {C S' K : String} {n : Nat} (w : (Jvm.Cond.superclass C S').before a0 Z = true) (wk : (Jvm.Cond.instantiable K n).before a0 Z = true) (N : NS Z C K) (hn : C ≠ K) : ∃ c t, Z.vm.findClass C = some c ∧ Z.vm.findClass K = some t ∧ Z.vm.assignable c t = false := by
  obtain ⟨c, t, h0, g0, n3⟩ := N
  obtain ⟨p, k, kp, h1, h2, h3, h4, h5, -, h7⟩ := Cond.superclass_spec h0 w
  obtain ⟨t', kt, g1, g2, g3, g4, -⟩ := Cond.instantiable_spec wk
  cases g0.symm.trans g1
  have g7 : kt.isInterface = false := by cases q : kt.isInterface <;> simp_all
  have ne := ids_ne h0 g0 hn
  refine ⟨c, t, h0, g0, ?_⟩
  show Z.vm.assignableAux (255 + 1) c t = false
  simp [Vm.assignableAux, ne, h2, g2, h5, g3, g7, Vm.isSubclass, n3]
theorem Wk.old (W : Wk p l e R s m args below meth c Z y bytes maxL ret T h ce sl sf) : Ext Z.heap h := by obtain ⟨vm0, k0, locs, X, eT, hS, hk, hZ, hown, hF, hN, hC, hsf, hE, ⟨a1, hEL⟩, hx, hby, hml, hnm, hrt, hlk⟩ := W; exact hE
theorem Wk.mono (W : Wk p l e R s m args below meth c Z y bytes maxL ret T h ce sl sf) {ce' sl' : Nat} (q : ce ≤ ce') (r : sl ≤ sl') : Wk p l e R s m args below meth c Z y bytes maxL ret T h ce' sl' sf := by
  obtain ⟨vm0, k0, locs, X, eT, hS, hk, hZ, hown, hF, hN, hC, hsf, hE, ⟨a1, hEL⟩, hx, hby, hml, hnm, hrt, hlk⟩ := W
  exact ⟨vm0, k0, locs, X.mono q r, eT, hS, hk, hZ, hown, hF, hN, hC, hsf, hE, ⟨a1, hEL⟩, hx, hby, hml, hnm, hrt, hlk⟩
theorem Wk.drop (W : Wk p l e R s m args below meth c Z y bytes maxL ret T h ce sl sf) {sf' : List Addr} (q : ∀ x ∈ sf', x ∈ sf) : Wk p l e R s m args below meth c Z y bytes maxL ret T h ce sl sf' := by
  obtain ⟨vm0, k0, locs, X, eT, hS, hk, hZ, hown, hF, hN, hC, hsf, hE, ⟨a1, hEL⟩, hx, hby, hml, hnm, hrt, hlk⟩ := W
  exact ⟨vm0, k0, locs, X, eT, hS, hk, hZ, hown, hF, hN, hC, fun x hx => hsf x (q x hx), hE, ⟨a1, hEL⟩, hx, hby, hml, hnm, hrt, hlk⟩
theorem o_iloadN (pc' : Nat) (W : Wk p l e R s m args below meth c Z y bytes maxL ret T h ce sl sf) {k : Fin 4} {v : Int32} (hd : decode bytes pc = .ok (.iload_n k, 1)) (hl : L[k.val]? = some (.val (.int v))) (K : Go p e below G T (mkF m pc' L (.int v :: S))) (hp : pc + 1 = pc' := by rfl) : Go p e below G T (mkF m pc L (S)) := by
  subst hp
  obtain ⟨vm0, k0, locs, X, eT, hS, hk, hZ, hown, hF, hN, hC, hsf, hE, ⟨a1, hEL⟩, hx, hby, hml, hnm, hrt, hlk⟩ := W
  subst hby
  exact K.st fun u k => XS.iloadN X.here hx rfl hd hl k
theorem o_iload (pc' : Nat) (W : Wk p l e R s m args below meth c Z y bytes maxL ret T h ce sl sf) {k : Nat} {v : Int32} (hd : decode bytes pc = .ok (.iload k, 2)) (hl : L[k]? = some (.val (.int v))) (K : Go p e below G T (mkF m pc' L (.int v :: S))) (hp : pc + 2 = pc' := by rfl) : Go p e below G T (mkF m pc L (S)) := by
  subst hp
  obtain ⟨vm0, k0, locs, X, eT, hS, hk, hZ, hown, hF, hN, hC, hsf, hE, ⟨a1, hEL⟩, hx, hby, hml, hnm, hrt, hlk⟩ := W
  subst hby
  exact K.st fun u k => XS.iload X.here hx rfl hd hl k
theorem o_lloadN (pc' : Nat) (W : Wk p l e R s m args below meth c Z y bytes maxL ret T h ce sl sf) {k : Fin 4} {v : Int64} (hd : decode bytes pc = .ok (.lload_n k, 1)) (hl : L[k.val]? = some (.val (.long v))) (K : Go p e below G T (mkF m pc' L (.long v :: S))) (hp : pc + 1 = pc' := by rfl) : Go p e below G T (mkF m pc L (S)) := by
  subst hp
  obtain ⟨vm0, k0, locs, X, eT, hS, hk, hZ, hown, hF, hN, hC, hsf, hE, ⟨a1, hEL⟩, hx, hby, hml, hnm, hrt, hlk⟩ := W
  subst hby
  exact K.st fun u k => XT.lloadN X.here hx rfl hd hl k
theorem o_lload (pc' : Nat) (W : Wk p l e R s m args below meth c Z y bytes maxL ret T h ce sl sf) {k : Nat} {v : Int64} (hd : decode bytes pc = .ok (.lload k, 2)) (hl : L[k]? = some (.val (.long v))) (K : Go p e below G T (mkF m pc' L (.long v :: S))) (hp : pc + 2 = pc' := by rfl) : Go p e below G T (mkF m pc L (S)) := by
  subst hp
  obtain ⟨vm0, k0, locs, X, eT, hS, hk, hZ, hown, hF, hN, hC, hsf, hE, ⟨a1, hEL⟩, hx, hby, hml, hnm, hrt, hlk⟩ := W
  subst hby
  exact K.st fun u k => XT.lload X.here hx rfl hd hl k
theorem o_aloadN (pc' : Nat) (W : Wk p l e R s m args below meth c Z y bytes maxL ret T h ce sl sf) {k : Fin 4} {v : Value} (hd : decode bytes pc = .ok (.aload_n k, 1)) (hl : L[k.val]? = some (.val v)) (hv : v.isRef = true) (K : Go p e below G T (mkF m pc' L (v :: S))) (hp : pc + 1 = pc' := by rfl) : Go p e below G T (mkF m pc L (S)) := by
  subst hp
  obtain ⟨vm0, k0, locs, X, eT, hS, hk, hZ, hown, hF, hN, hC, hsf, hE, ⟨a1, hEL⟩, hx, hby, hml, hnm, hrt, hlk⟩ := W
  subst hby
  exact K.st fun u k => XS.aloadN X.here hx rfl hd hl hv k
theorem o_aload (pc' : Nat) (W : Wk p l e R s m args below meth c Z y bytes maxL ret T h ce sl sf) {k : Nat} {v : Value} (hd : decode bytes pc = .ok (.aload k, 2)) (hl : L[k]? = some (.val v)) (hv : v.isRef = true) (K : Go p e below G T (mkF m pc' L (v :: S))) (hp : pc + 2 = pc' := by rfl) : Go p e below G T (mkF m pc L (S)) := by
  subst hp
  obtain ⟨vm0, k0, locs, X, eT, hS, hk, hZ, hown, hF, hN, hC, hsf, hE, ⟨a1, hEL⟩, hx, hby, hml, hnm, hrt, hlk⟩ := W
  subst hby
  exact K.st fun u k => XS.aload X.here hx rfl hd hl hv k
theorem o_istoreN (pc' : Nat) (W : Wk p l e R s m args below meth c Z y bytes maxL ret T h ce sl sf) {k : Fin 4} {v : Int32} (L' : Array Slot) (hd : decode bytes pc = .ok (.istore_n k, 1)) (hl : storeLocals L k.val (.int v) = some L') (K : Go p e below G T (mkF m pc' L' (S))) (hp : pc + 1 = pc' := by rfl) : Go p e below G T (mkF m pc L (.int v :: S)) := by
  subst hp
  obtain ⟨vm0, k0, locs, X, eT, hS, hk, hZ, hown, hF, hN, hC, hsf, hE, ⟨a1, hEL⟩, hx, hby, hml, hnm, hrt, hlk⟩ := W
  subst hby
  exact K.st fun u k => XS.istoreN X.here hx rfl hd rfl hl k
theorem o_istore (pc' : Nat) (W : Wk p l e R s m args below meth c Z y bytes maxL ret T h ce sl sf) {k : Nat} {v : Int32} (L' : Array Slot) (hd : decode bytes pc = .ok (.istore k, 2)) (hl : storeLocals L k (.int v) = some L') (K : Go p e below G T (mkF m pc' L' (S))) (hp : pc + 2 = pc' := by rfl) : Go p e below G T (mkF m pc L (.int v :: S)) := by
  subst hp
  obtain ⟨vm0, k0, locs, X, eT, hS, hk, hZ, hown, hF, hN, hC, hsf, hE, ⟨a1, hEL⟩, hx, hby, hml, hnm, hrt, hlk⟩ := W
  subst hby
  exact K.st fun u k => XS.istore X.here hx rfl hd rfl hl k
theorem o_lstoreN (pc' : Nat) (W : Wk p l e R s m args below meth c Z y bytes maxL ret T h ce sl sf) {k : Fin 4} {v : Int64} (L' : Array Slot) (hd : decode bytes pc = .ok (.lstore_n k, 1)) (hl : storeLocals L k.val (.long v) = some L') (K : Go p e below G T (mkF m pc' L' (S))) (hp : pc + 1 = pc' := by rfl) : Go p e below G T (mkF m pc L (.long v :: S)) := by
  subst hp
  obtain ⟨vm0, k0, locs, X, eT, hS, hk, hZ, hown, hF, hN, hC, hsf, hE, ⟨a1, hEL⟩, hx, hby, hml, hnm, hrt, hlk⟩ := W
  subst hby
  exact K.st fun u k => XT.lstoreN X.here hx rfl hd rfl hl k
theorem o_lstore (pc' : Nat) (W : Wk p l e R s m args below meth c Z y bytes maxL ret T h ce sl sf) {k : Nat} {v : Int64} (L' : Array Slot) (hd : decode bytes pc = .ok (.lstore k, 2)) (hl : storeLocals L k (.long v) = some L') (K : Go p e below G T (mkF m pc' L' (S))) (hp : pc + 2 = pc' := by rfl) : Go p e below G T (mkF m pc L (.long v :: S)) := by
  subst hp
  obtain ⟨vm0, k0, locs, X, eT, hS, hk, hZ, hown, hF, hN, hC, hsf, hE, ⟨a1, hEL⟩, hx, hby, hml, hnm, hrt, hlk⟩ := W
  subst hby
  exact K.st fun u k => XT.lstore X.here hx rfl hd rfl hl k
theorem o_astoreN (pc' : Nat) (W : Wk p l e R s m args below meth c Z y bytes maxL ret T h ce sl sf) {k : Fin 4} {v : Value} (L' : Array Slot) (hd : decode bytes pc = .ok (.astore_n k, 1)) (hv : v.isRef = true) (hl : storeLocals L k.val v = some L') (K : Go p e below G T (mkF m pc' L' (S))) (hp : pc + 1 = pc' := by rfl) : Go p e below G T (mkF m pc L (v :: S)) := by
  subst hp
  obtain ⟨vm0, k0, locs, X, eT, hS, hk, hZ, hown, hF, hN, hC, hsf, hE, ⟨a1, hEL⟩, hx, hby, hml, hnm, hrt, hlk⟩ := W
  subst hby
  exact K.st fun u k => XS.astoreN X.here hx rfl hd rfl hv hl k
theorem o_astore (pc' : Nat) (W : Wk p l e R s m args below meth c Z y bytes maxL ret T h ce sl sf) {k : Nat} {v : Value} (L' : Array Slot) (hd : decode bytes pc = .ok (.astore k, 2)) (hv : v.isRef = true) (hl : storeLocals L k v = some L') (K : Go p e below G T (mkF m pc' L' (S))) (hp : pc + 2 = pc' := by rfl) : Go p e below G T (mkF m pc L (v :: S)) := by
  subst hp
  obtain ⟨vm0, k0, locs, X, eT, hS, hk, hZ, hown, hF, hN, hC, hsf, hE, ⟨a1, hEL⟩, hx, hby, hml, hnm, hrt, hlk⟩ := W
  subst hby
  exact K.st fun u k => XS.astore X.here hx rfl hd rfl hv hl k
theorem o_iconst (pc' : Nat) (W : Wk p l e R s m args below meth c Z y bytes maxL ret T h ce sl sf) {i : Int} (v : Int32) (hd : decode bytes pc = .ok (.iconst i, 1)) (hv : Int32.ofInt i = v) (K : Go p e below G T (mkF m pc' L (.int v :: S))) (hp : pc + 1 = pc' := by rfl) : Go p e below G T (mkF m pc L (S)) := by
  subst hp
  obtain ⟨vm0, k0, locs, X, eT, hS, hk, hZ, hown, hF, hN, hC, hsf, hE, ⟨a1, hEL⟩, hx, hby, hml, hnm, hrt, hlk⟩ := W
  subst hby
  exact K.st fun u k => XT.iconstV X.here hx rfl v hd hv k
theorem o_bipush (pc' : Nat) (W : Wk p l e R s m args below meth c Z y bytes maxL ret T h ce sl sf) {i : Int} (v : Int32) (hd : decode bytes pc = .ok (.bipush i, 2)) (hv : (Int8.ofInt i).toInt32 = v) (K : Go p e below G T (mkF m pc' L (.int v :: S))) (hp : pc + 2 = pc' := by rfl) : Go p e below G T (mkF m pc L (S)) := by
  subst hp
  obtain ⟨vm0, k0, locs, X, eT, hS, hk, hZ, hown, hF, hN, hC, hsf, hE, ⟨a1, hEL⟩, hx, hby, hml, hnm, hrt, hlk⟩ := W
  subst hby
  exact K.st fun u k => XT.bipushV X.here hx rfl v hd hv k
theorem o_sipush (pc' : Nat) (W : Wk p l e R s m args below meth c Z y bytes maxL ret T h ce sl sf) {i : Int} (v : Int32) (hd : decode bytes pc = .ok (.sipush i, 3)) (hv : (Int16.ofInt i).toInt32 = v) (K : Go p e below G T (mkF m pc' L (.int v :: S))) (hp : pc + 3 = pc' := by rfl) : Go p e below G T (mkF m pc L (S)) := by
  subst hp
  obtain ⟨vm0, k0, locs, X, eT, hS, hk, hZ, hown, hF, hN, hC, hsf, hE, ⟨a1, hEL⟩, hx, hby, hml, hnm, hrt, hlk⟩ := W
  subst hby
  exact K.st fun u k => XT.sipushV X.here hx rfl v hd hv k
theorem o_lconst (pc' : Nat) (W : Wk p l e R s m args below meth c Z y bytes maxL ret T h ce sl sf) {i : Fin 2} (v : Int64) (hd : decode bytes pc = .ok (.lconst i, 1)) (hv : Int64.ofNat i = v) (K : Go p e below G T (mkF m pc' L (.long v :: S))) (hp : pc + 1 = pc' := by rfl) : Go p e below G T (mkF m pc L (S)) := by
  subst hp
  obtain ⟨vm0, k0, locs, X, eT, hS, hk, hZ, hown, hF, hN, hC, hsf, hE, ⟨a1, hEL⟩, hx, hby, hml, hnm, hrt, hlk⟩ := W
  subst hby
  exact K.st fun u k => XT.lconstV X.here hx rfl v hd hv k
theorem o_null (pc' : Nat) (W : Wk p l e R s m args below meth c Z y bytes maxL ret T h ce sl sf)  (hd : decode bytes pc = .ok (.aconst_null, 1))  (K : Go p e below G T (mkF m pc' L (.null :: S))) (hp : pc + 1 = pc' := by rfl) : Go p e below G T (mkF m pc L (S)) := by
  subst hp
  obtain ⟨vm0, k0, locs, X, eT, hS, hk, hZ, hown, hF, hN, hC, hsf, hE, ⟨a1, hEL⟩, hx, hby, hml, hnm, hrt, hlk⟩ := W
  subst hby
  exact K.st fun u k => XS.aconstNull X.here hx rfl hd  k
theorem o_iadd (pc' : Nat) (W : Wk p l e R s m args below meth c Z y bytes maxL ret T h ce sl sf) {x z : Int32} (hd : decode bytes pc = .ok (.iadd, 1))  (K : Go p e below G T (mkF m pc' L (.int (x + z) :: S))) (hp : pc + 1 = pc' := by rfl) : Go p e below G T (mkF m pc L (.int z :: .int x :: S)) := by
  subst hp
  obtain ⟨vm0, k0, locs, X, eT, hS, hk, hZ, hown, hF, hN, hC, hsf, hE, ⟨a1, hEL⟩, hx, hby, hml, hnm, hrt, hlk⟩ := W
  subst hby
  exact K.st fun u k => XS.iadd X.here hx rfl hd rfl k
theorem o_isub (pc' : Nat) (W : Wk p l e R s m args below meth c Z y bytes maxL ret T h ce sl sf) {x z : Int32} (hd : decode bytes pc = .ok (.isub, 1))  (K : Go p e below G T (mkF m pc' L (.int (x - z) :: S))) (hp : pc + 1 = pc' := by rfl) : Go p e below G T (mkF m pc L (.int z :: .int x :: S)) := by
  subst hp
  obtain ⟨vm0, k0, locs, X, eT, hS, hk, hZ, hown, hF, hN, hC, hsf, hE, ⟨a1, hEL⟩, hx, hby, hml, hnm, hrt, hlk⟩ := W
  subst hby
  exact K.st fun u k => XS.isub X.here hx rfl hd rfl k
theorem o_iand (pc' : Nat) (W : Wk p l e R s m args below meth c Z y bytes maxL ret T h ce sl sf) {x z : Int32} (hd : decode bytes pc = .ok (.iand, 1))  (K : Go p e below G T (mkF m pc' L (.int (x &&& z) :: S))) (hp : pc + 1 = pc' := by rfl) : Go p e below G T (mkF m pc L (.int z :: .int x :: S)) := by
  subst hp
  obtain ⟨vm0, k0, locs, X, eT, hS, hk, hZ, hown, hF, hN, hC, hsf, hE, ⟨a1, hEL⟩, hx, hby, hml, hnm, hrt, hlk⟩ := W
  subst hby
  exact K.st fun u k => XS.iand X.here hx rfl hd rfl k
theorem o_imul (pc' : Nat) (W : Wk p l e R s m args below meth c Z y bytes maxL ret T h ce sl sf) {x z : Int32} (hd : decode bytes pc = .ok (.imul, 1))  (K : Go p e below G T (mkF m pc' L (.int (x * z) :: S))) (hp : pc + 1 = pc' := by rfl) : Go p e below G T (mkF m pc L (.int z :: .int x :: S)) := by
  subst hp
  obtain ⟨vm0, k0, locs, X, eT, hS, hk, hZ, hown, hF, hN, hC, hsf, hE, ⟨a1, hEL⟩, hx, hby, hml, hnm, hrt, hlk⟩ := W
  subst hby
  exact K.st fun u k => XS.imul X.here hx rfl hd rfl k
theorem o_ior (pc' : Nat) (W : Wk p l e R s m args below meth c Z y bytes maxL ret T h ce sl sf) {x z : Int32} (hd : decode bytes pc = .ok (.ior, 1))  (K : Go p e below G T (mkF m pc' L (.int (x ||| z) :: S))) (hp : pc + 1 = pc' := by rfl) : Go p e below G T (mkF m pc L (.int z :: .int x :: S)) := by
  subst hp
  obtain ⟨vm0, k0, locs, X, eT, hS, hk, hZ, hown, hF, hN, hC, hsf, hE, ⟨a1, hEL⟩, hx, hby, hml, hnm, hrt, hlk⟩ := W
  subst hby
  exact K.st fun u k => XT.ior X.here hx rfl hd rfl k
theorem o_ishl (pc' : Nat) (W : Wk p l e R s m args below meth c Z y bytes maxL ret T h ce sl sf) {x z : Int32} (hd : decode bytes pc = .ok (.ishl, 1))  (K : Go p e below G T (mkF m pc' L (.int (x <<< (z &&& 31)) :: S))) (hp : pc + 1 = pc' := by rfl) : Go p e below G T (mkF m pc L (.int z :: .int x :: S)) := by
  subst hp
  obtain ⟨vm0, k0, locs, X, eT, hS, hk, hZ, hown, hF, hN, hC, hsf, hE, ⟨a1, hEL⟩, hx, hby, hml, hnm, hrt, hlk⟩ := W
  subst hby
  exact K.st fun u k => XT.ishl X.here hx rfl hd rfl k
theorem o_iushr (pc' : Nat) (W : Wk p l e R s m args below meth c Z y bytes maxL ret T h ce sl sf) {x z : Int32} (hd : decode bytes pc = .ok (.iushr, 1))  (K : Go p e below G T (mkF m pc' L (.int (XT.ushr x z) :: S))) (hp : pc + 1 = pc' := by rfl) : Go p e below G T (mkF m pc L (.int z :: .int x :: S)) := by
  subst hp
  obtain ⟨vm0, k0, locs, X, eT, hS, hk, hZ, hown, hF, hN, hC, hsf, hE, ⟨a1, hEL⟩, hx, hby, hml, hnm, hrt, hlk⟩ := W
  subst hby
  exact K.st fun u k => XT.iushr X.here hx rfl hd rfl k
theorem o_ishr (pc' : Nat) (W : Wk p l e R s m args below meth c Z y bytes maxL ret T h ce sl sf) {x z : Int32} (hd : decode bytes pc = .ok (.ishr, 1))  (K : Go p e below G T (mkF m pc' L (.int (x >>> (z &&& 31)) :: S))) (hp : pc + 1 = pc' := by rfl) : Go p e below G T (mkF m pc L (.int z :: .int x :: S)) := by
  subst hp
  obtain ⟨vm0, k0, locs, X, eT, hS, hk, hZ, hown, hF, hN, hC, hsf, hE, ⟨a1, hEL⟩, hx, hby, hml, hnm, hrt, hlk⟩ := W
  subst hby
  exact K.st fun u k => XT.ishr X.here hx rfl hd rfl k
theorem o_ladd (pc' : Nat) (W : Wk p l e R s m args below meth c Z y bytes maxL ret T h ce sl sf) {x z : Int64} (hd : decode bytes pc = .ok (.ladd, 1))  (K : Go p e below G T (mkF m pc' L (.long (x + z) :: S))) (hp : pc + 1 = pc' := by rfl) : Go p e below G T (mkF m pc L (.long z :: .long x :: S)) := by
  subst hp
  obtain ⟨vm0, k0, locs, X, eT, hS, hk, hZ, hown, hF, hN, hC, hsf, hE, ⟨a1, hEL⟩, hx, hby, hml, hnm, hrt, hlk⟩ := W
  subst hby
  exact K.st fun u k => XT.ladd X.here hx rfl hd rfl k
theorem o_land (pc' : Nat) (W : Wk p l e R s m args below meth c Z y bytes maxL ret T h ce sl sf) {x z : Int64} (hd : decode bytes pc = .ok (.land, 1))  (K : Go p e below G T (mkF m pc' L (.long (x &&& z) :: S))) (hp : pc + 1 = pc' := by rfl) : Go p e below G T (mkF m pc L (.long z :: .long x :: S)) := by
  subst hp
  obtain ⟨vm0, k0, locs, X, eT, hS, hk, hZ, hown, hF, hN, hC, hsf, hE, ⟨a1, hEL⟩, hx, hby, hml, hnm, hrt, hlk⟩ := W
  subst hby
  exact K.st fun u k => XT.land X.here hx rfl hd rfl k
theorem o_lushr (pc' : Nat) (W : Wk p l e R s m args below meth c Z y bytes maxL ret T h ce sl sf) {x : Int64} {z : Int32} (hd : decode bytes pc = .ok (.lushr, 1))  (K : Go p e below G T (mkF m pc' L (.long (XT.ushrL x z) :: S))) (hp : pc + 1 = pc' := by rfl) : Go p e below G T (mkF m pc L (.int z :: .long x :: S)) := by
  subst hp
  obtain ⟨vm0, k0, locs, X, eT, hS, hk, hZ, hown, hF, hN, hC, hsf, hE, ⟨a1, hEL⟩, hx, hby, hml, hnm, hrt, hlk⟩ := W
  subst hby
  exact K.st fun u k => XT.lushr X.here hx rfl hd rfl k
theorem o_lcmp (pc' : Nat) (W : Wk p l e R s m args below meth c Z y bytes maxL ret T h ce sl sf) {x z : Int64} (hd : decode bytes pc = .ok (.lcmp, 1))  (K : Go p e below G T (mkF m pc' L (.int (XT.cmpL x z) :: S))) (hp : pc + 1 = pc' := by rfl) : Go p e below G T (mkF m pc L (.long z :: .long x :: S)) := by
  subst hp
  obtain ⟨vm0, k0, locs, X, eT, hS, hk, hZ, hown, hF, hN, hC, hsf, hE, ⟨a1, hEL⟩, hx, hby, hml, hnm, hrt, hlk⟩ := W
  subst hby
  exact K.st fun u k => XT.lcmp X.here hx rfl hd rfl k
theorem o_i2c (pc' : Nat) (W : Wk p l e R s m args below meth c Z y bytes maxL ret T h ce sl sf) {x : Int32} (hd : decode bytes pc = .ok (.i2c, 1))  (K : Go p e below G T (mkF m pc' L (.int x.toUInt32.toUInt16.toUInt32.toInt32 :: S))) (hp : pc + 1 = pc' := by rfl) : Go p e below G T (mkF m pc L (.int x :: S)) := by
  subst hp
  obtain ⟨vm0, k0, locs, X, eT, hS, hk, hZ, hown, hF, hN, hC, hsf, hE, ⟨a1, hEL⟩, hx, hby, hml, hnm, hrt, hlk⟩ := W
  subst hby
  exact K.st fun u k => XT.i2c X.here hx rfl hd rfl k
theorem o_i2b (pc' : Nat) (W : Wk p l e R s m args below meth c Z y bytes maxL ret T h ce sl sf) {x : Int32} (hd : decode bytes pc = .ok (.i2b, 1))  (K : Go p e below G T (mkF m pc' L (.int x.toInt8.toInt32 :: S))) (hp : pc + 1 = pc' := by rfl) : Go p e below G T (mkF m pc L (.int x :: S)) := by
  subst hp
  obtain ⟨vm0, k0, locs, X, eT, hS, hk, hZ, hown, hF, hN, hC, hsf, hE, ⟨a1, hEL⟩, hx, hby, hml, hnm, hrt, hlk⟩ := W
  subst hby
  exact K.st fun u k => XT.i2b X.here hx rfl hd rfl k
theorem o_i2l (pc' : Nat) (W : Wk p l e R s m args below meth c Z y bytes maxL ret T h ce sl sf) {x : Int32} (hd : decode bytes pc = .ok (.i2l, 1))  (K : Go p e below G T (mkF m pc' L (.long x.toInt64 :: S))) (hp : pc + 1 = pc' := by rfl) : Go p e below G T (mkF m pc L (.int x :: S)) := by
  subst hp
  obtain ⟨vm0, k0, locs, X, eT, hS, hk, hZ, hown, hF, hN, hC, hsf, hE, ⟨a1, hEL⟩, hx, hby, hml, hnm, hrt, hlk⟩ := W
  subst hby
  exact K.st fun u k => XT.i2l X.here hx rfl hd rfl k
theorem o_l2i (pc' : Nat) (W : Wk p l e R s m args below meth c Z y bytes maxL ret T h ce sl sf) {x : Int64} (hd : decode bytes pc = .ok (.l2i, 1))  (K : Go p e below G T (mkF m pc' L (.int x.toInt32 :: S))) (hp : pc + 1 = pc' := by rfl) : Go p e below G T (mkF m pc L (.long x :: S)) := by
  subst hp
  obtain ⟨vm0, k0, locs, X, eT, hS, hk, hZ, hown, hF, hN, hC, hsf, hE, ⟨a1, hEL⟩, hx, hby, hml, hnm, hrt, hlk⟩ := W
  subst hby
  exact K.st fun u k => XT.l2i X.here hx rfl hd rfl k
theorem o_dup (pc' : Nat) (W : Wk p l e R s m args below meth c Z y bytes maxL ret T h ce sl sf) {v : Value} (hd : decode bytes pc = .ok (.dup, 1)) (hc : v.category = 1) (K : Go p e below G T (mkF m pc' L (v :: v :: S))) (hp : pc + 1 = pc' := by rfl) : Go p e below G T (mkF m pc L (v :: S)) := by
  subst hp
  obtain ⟨vm0, k0, locs, X, eT, hS, hk, hZ, hown, hF, hN, hC, hsf, hE, ⟨a1, hEL⟩, hx, hby, hml, hnm, hrt, hlk⟩ := W
  subst hby
  exact K.st fun u k => XS.dup X.here hx rfl hd rfl hc k
theorem o_pop (pc' : Nat) (W : Wk p l e R s m args below meth c Z y bytes maxL ret T h ce sl sf) {v : Value} (hd : decode bytes pc = .ok (.pop, 1)) (hc : v.category = 1) (K : Go p e below G T (mkF m pc' L (S))) (hp : pc + 1 = pc' := by rfl) : Go p e below G T (mkF m pc L (v :: S)) := by
  subst hp
  obtain ⟨vm0, k0, locs, X, eT, hS, hk, hZ, hown, hF, hN, hC, hsf, hE, ⟨a1, hEL⟩, hx, hby, hml, hnm, hrt, hlk⟩ := W
  subst hby
  exact K.st fun u k => XT.pop X.here hx rfl hd rfl hc k
theorem o_iinc (pc' : Nat) (W : Wk p l e R s m args below meth c Z y bytes maxL ret T h ce sl sf) {k : Nat} {i : Int} {x : Int32} (v : Int32) (L' : Array Slot) (hd : decode bytes pc = .ok (.iinc k i, 3)) (hl : L[k]? = some (.val (.int x))) (hv : x + Int32.ofInt i = v) (hl' : storeLocals L k (.int v) = some L') (K : Go p e below G T (mkF m pc' L' (S))) (hp : pc + 3 = pc' := by rfl) : Go p e below G T (mkF m pc L (S)) := by
  subst hp
  obtain ⟨vm0, k0, locs, X, eT, hS, hk, hZ, hown, hF, hN, hC, hsf, hE, ⟨a1, hEL⟩, hx, hby, hml, hnm, hrt, hlk⟩ := W
  subst hby
  exact K.st fun u k => XS.iinc X.here hx rfl hd hl (hv ▸ hl') k
theorem o_irem (pc' : Nat) (W : Wk p l e R s m args below meth c Z y bytes maxL ret T h ce sl sf) {x z : Int32} (hd : decode bytes pc = .ok (.irem, 1)) (hz : z ≠ 0) (K : Go p e below G T (mkF m pc' L (.int (x % z) :: S))) (hp : pc + 1 = pc' := by rfl) : Go p e below G T (mkF m pc L (.int z :: .int x :: S)) := by
  subst hp
  obtain ⟨vm0, k0, locs, X, eT, hS, hk, hZ, hown, hF, hN, hC, hsf, hE, ⟨a1, hEL⟩, hx, hby, hml, hnm, hrt, hlk⟩ := W
  subst hby
  exact K.st fun u k => iremM X hx (g := mkF m pc L (.int z :: .int x :: S)) rfl hd rfl hz k
theorem o_goto (pc' : Nat) (W : Wk p l e R s m args below meth c Z y bytes maxL ret T h ce sl sf)  {o : Int} (hd : decode bytes pc = .ok (.goto o, 3))  (K : Go p e below G T (mkF m pc' L (S))) (ho : 0 ≤ (pc : Int) + o := by decide) (hp : ((pc : Int) + o).toNat = pc' := by decide) : Go p e below G T (mkF m pc L (S)) := by
  obtain ⟨vm0, k0, locs, X, eT, hS, hk, hZ, hown, hF, hN, hC, hsf, hE, ⟨a1, hEL⟩, hx, hby, hml, hnm, hrt, hlk⟩ := W
  subst hby
  exact K.st fun u k => XS.goto X.here hx rfl (pc0 := pc) rfl hd ho hp k
theorem o_ifeq (pt pf : Nat) (W : Wk p l e R s m args below meth c Z y bytes maxL ret T h ce sl sf) {x : Int32} {o : Int} (hd : decode bytes pc = .ok (.ifCond .eq o, 3)) (K1 : x = 0 → Go p e below G T (mkF m pt L S)) (K2 : ¬ x = 0 → Go p e below G T (mkF m pf L S)) (ho : 0 ≤ (pc : Int) + o := by decide) (hp : ((pc : Int) + o).toNat = pt := by decide) (hq : pc + 3 = pf := by rfl) : Go p e below G T (mkF m pc L (.int x :: S)) := by
  subst hq
  obtain ⟨vm0, k0, locs, X, eT, hS, hk, hZ, hown, hF, hN, hC, hsf, hE, ⟨a1, hEL⟩, hx, hby, hml, hnm, hrt, hlk⟩ := W
  subst hby
  by_cases q : x = 0
  · exact (K1 q).st fun u k => XS.ifYes X.here hx rfl (pc0 := pc) rfl hd rfl (XT.i0_eq_t q) ho hp k
  · exact (K2 q).st fun u k => XS.ifNo X.here hx rfl hd rfl (XT.i0_eq_f q) k
theorem o_ifne (pt pf : Nat) (W : Wk p l e R s m args below meth c Z y bytes maxL ret T h ce sl sf) {x : Int32} {o : Int} (hd : decode bytes pc = .ok (.ifCond .ne o, 3)) (K1 : ¬ x = 0 → Go p e below G T (mkF m pt L S)) (K2 : x = 0 → Go p e below G T (mkF m pf L S)) (ho : 0 ≤ (pc : Int) + o := by decide) (hp : ((pc : Int) + o).toNat = pt := by decide) (hq : pc + 3 = pf := by rfl) : Go p e below G T (mkF m pc L (.int x :: S)) := by
  subst hq
  obtain ⟨vm0, k0, locs, X, eT, hS, hk, hZ, hown, hF, hN, hC, hsf, hE, ⟨a1, hEL⟩, hx, hby, hml, hnm, hrt, hlk⟩ := W
  subst hby
  by_cases q : x = 0
  · exact (K2 q).st fun u k => XS.ifNo X.here hx rfl hd rfl (XT.i0_ne_f q) k
  · exact (K1 q).st fun u k => XS.ifYes X.here hx rfl (pc0 := pc) rfl hd rfl (XT.i0_ne_t q) ho hp k
theorem o_iflt (pt pf : Nat) (W : Wk p l e R s m args below meth c Z y bytes maxL ret T h ce sl sf) {x : Int32} {o : Int} (hd : decode bytes pc = .ok (.ifCond .lt o, 3)) (K1 : x < 0 → Go p e below G T (mkF m pt L S)) (K2 : ¬ x < 0 → Go p e below G T (mkF m pf L S)) (ho : 0 ≤ (pc : Int) + o := by decide) (hp : ((pc : Int) + o).toNat = pt := by decide) (hq : pc + 3 = pf := by rfl) : Go p e below G T (mkF m pc L (.int x :: S)) := by
  subst hq
  obtain ⟨vm0, k0, locs, X, eT, hS, hk, hZ, hown, hF, hN, hC, hsf, hE, ⟨a1, hEL⟩, hx, hby, hml, hnm, hrt, hlk⟩ := W
  subst hby
  by_cases q : x < 0
  · exact (K1 q).st fun u k => XS.ifYes X.here hx rfl (pc0 := pc) rfl hd rfl (XT.i0_lt_t q) ho hp k
  · exact (K2 q).st fun u k => XS.ifNo X.here hx rfl hd rfl (XT.i0_lt_f q) k
theorem o_ifge (pt pf : Nat) (W : Wk p l e R s m args below meth c Z y bytes maxL ret T h ce sl sf) {x : Int32} {o : Int} (hd : decode bytes pc = .ok (.ifCond .ge o, 3)) (K1 : ¬ x < 0 → Go p e below G T (mkF m pt L S)) (K2 : x < 0 → Go p e below G T (mkF m pf L S)) (ho : 0 ≤ (pc : Int) + o := by decide) (hp : ((pc : Int) + o).toNat = pt := by decide) (hq : pc + 3 = pf := by rfl) : Go p e below G T (mkF m pc L (.int x :: S)) := by
  subst hq
  obtain ⟨vm0, k0, locs, X, eT, hS, hk, hZ, hown, hF, hN, hC, hsf, hE, ⟨a1, hEL⟩, hx, hby, hml, hnm, hrt, hlk⟩ := W
  subst hby
  by_cases q : x < 0
  · exact (K2 q).st fun u k => XS.ifNo X.here hx rfl hd rfl (XT.i0_ge_f q) k
  · exact (K1 q).st fun u k => XS.ifYes X.here hx rfl (pc0 := pc) rfl hd rfl (XT.i0_ge_t q) ho hp k
theorem o_ifgt (pt pf : Nat) (W : Wk p l e R s m args below meth c Z y bytes maxL ret T h ce sl sf) {x : Int32} {o : Int} (hd : decode bytes pc = .ok (.ifCond .gt o, 3)) (K1 : 0 < x → Go p e below G T (mkF m pt L S)) (K2 : ¬ 0 < x → Go p e below G T (mkF m pf L S)) (ho : 0 ≤ (pc : Int) + o := by decide) (hp : ((pc : Int) + o).toNat = pt := by decide) (hq : pc + 3 = pf := by rfl) : Go p e below G T (mkF m pc L (.int x :: S)) := by
  subst hq
  obtain ⟨vm0, k0, locs, X, eT, hS, hk, hZ, hown, hF, hN, hC, hsf, hE, ⟨a1, hEL⟩, hx, hby, hml, hnm, hrt, hlk⟩ := W
  subst hby
  by_cases q : 0 < x
  · exact (K1 q).st fun u k => XS.ifYes X.here hx rfl (pc0 := pc) rfl hd rfl (XT.i0_gt_t q) ho hp k
  · exact (K2 q).st fun u k => XS.ifNo X.here hx rfl hd rfl (XT.i0_gt_f q) k
theorem o_ifle (pt pf : Nat) (W : Wk p l e R s m args below meth c Z y bytes maxL ret T h ce sl sf) {x : Int32} {o : Int} (hd : decode bytes pc = .ok (.ifCond .le o, 3)) (K1 : ¬ 0 < x → Go p e below G T (mkF m pt L S)) (K2 : 0 < x → Go p e below G T (mkF m pf L S)) (ho : 0 ≤ (pc : Int) + o := by decide) (hp : ((pc : Int) + o).toNat = pt := by decide) (hq : pc + 3 = pf := by rfl) : Go p e below G T (mkF m pc L (.int x :: S)) := by
  subst hq
  obtain ⟨vm0, k0, locs, X, eT, hS, hk, hZ, hown, hF, hN, hC, hsf, hE, ⟨a1, hEL⟩, hx, hby, hml, hnm, hrt, hlk⟩ := W
  subst hby
  by_cases q : 0 < x
  · exact (K2 q).st fun u k => XS.ifNo X.here hx rfl hd rfl (XT.i0_le_f q) k
  · exact (K1 q).st fun u k => XS.ifYes X.here hx rfl (pc0 := pc) rfl hd rfl (XT.i0_le_t q) ho hp k
theorem o_iceq (pt pf : Nat) (W : Wk p l e R s m args below meth c Z y bytes maxL ret T h ce sl sf) {x z : Int32} {o : Int} (hd : decode bytes pc = .ok (.if_icmp .eq o, 3)) (K1 : x = z → Go p e below G T (mkF m pt L S)) (K2 : ¬ x = z → Go p e below G T (mkF m pf L S)) (ho : 0 ≤ (pc : Int) + o := by decide) (hp : ((pc : Int) + o).toNat = pt := by decide) (hq : pc + 3 = pf := by rfl) : Go p e below G T (mkF m pc L (.int z :: .int x :: S)) := by
  subst hq
  obtain ⟨vm0, k0, locs, X, eT, hS, hk, hZ, hown, hF, hN, hC, hsf, hE, ⟨a1, hEL⟩, hx, hby, hml, hnm, hrt, hlk⟩ := W
  subst hby
  by_cases q : x = z
  · exact (K1 q).st fun u k => XS.icmpYes X.here hx rfl (pc0 := pc) rfl hd rfl (XT.ii_eq_t q) ho hp k
  · exact (K2 q).st fun u k => XS.icmpNo X.here hx rfl hd rfl (XT.ii_eq_f q) k
theorem o_icne (pt pf : Nat) (W : Wk p l e R s m args below meth c Z y bytes maxL ret T h ce sl sf) {x z : Int32} {o : Int} (hd : decode bytes pc = .ok (.if_icmp .ne o, 3)) (K1 : ¬ x = z → Go p e below G T (mkF m pt L S)) (K2 : x = z → Go p e below G T (mkF m pf L S)) (ho : 0 ≤ (pc : Int) + o := by decide) (hp : ((pc : Int) + o).toNat = pt := by decide) (hq : pc + 3 = pf := by rfl) : Go p e below G T (mkF m pc L (.int z :: .int x :: S)) := by
  subst hq
  obtain ⟨vm0, k0, locs, X, eT, hS, hk, hZ, hown, hF, hN, hC, hsf, hE, ⟨a1, hEL⟩, hx, hby, hml, hnm, hrt, hlk⟩ := W
  subst hby
  by_cases q : x = z
  · exact (K2 q).st fun u k => XS.icmpNo X.here hx rfl hd rfl (XT.ii_ne_f q) k
  · exact (K1 q).st fun u k => XS.icmpYes X.here hx rfl (pc0 := pc) rfl hd rfl (XT.ii_ne_t q) ho hp k
theorem o_iclt (pt pf : Nat) (W : Wk p l e R s m args below meth c Z y bytes maxL ret T h ce sl sf) {x z : Int32} {o : Int} (hd : decode bytes pc = .ok (.if_icmp .lt o, 3)) (K1 : x < z → Go p e below G T (mkF m pt L S)) (K2 : ¬ x < z → Go p e below G T (mkF m pf L S)) (ho : 0 ≤ (pc : Int) + o := by decide) (hp : ((pc : Int) + o).toNat = pt := by decide) (hq : pc + 3 = pf := by rfl) : Go p e below G T (mkF m pc L (.int z :: .int x :: S)) := by
  subst hq
  obtain ⟨vm0, k0, locs, X, eT, hS, hk, hZ, hown, hF, hN, hC, hsf, hE, ⟨a1, hEL⟩, hx, hby, hml, hnm, hrt, hlk⟩ := W
  subst hby
  by_cases q : x < z
  · exact (K1 q).st fun u k => XS.icmpYes X.here hx rfl (pc0 := pc) rfl hd rfl (XT.ii_lt_t q) ho hp k
  · exact (K2 q).st fun u k => XS.icmpNo X.here hx rfl hd rfl (XT.ii_lt_f q) k
theorem o_icge (pt pf : Nat) (W : Wk p l e R s m args below meth c Z y bytes maxL ret T h ce sl sf) {x z : Int32} {o : Int} (hd : decode bytes pc = .ok (.if_icmp .ge o, 3)) (K1 : ¬ x < z → Go p e below G T (mkF m pt L S)) (K2 : x < z → Go p e below G T (mkF m pf L S)) (ho : 0 ≤ (pc : Int) + o := by decide) (hp : ((pc : Int) + o).toNat = pt := by decide) (hq : pc + 3 = pf := by rfl) : Go p e below G T (mkF m pc L (.int z :: .int x :: S)) := by
  subst hq
  obtain ⟨vm0, k0, locs, X, eT, hS, hk, hZ, hown, hF, hN, hC, hsf, hE, ⟨a1, hEL⟩, hx, hby, hml, hnm, hrt, hlk⟩ := W
  subst hby
  by_cases q : x < z
  · exact (K2 q).st fun u k => XS.icmpNo X.here hx rfl hd rfl (XT.ii_ge_f q) k
  · exact (K1 q).st fun u k => XS.icmpYes X.here hx rfl (pc0 := pc) rfl hd rfl (XT.ii_ge_t q) ho hp k
theorem o_icgt (pt pf : Nat) (W : Wk p l e R s m args below meth c Z y bytes maxL ret T h ce sl sf) {x z : Int32} {o : Int} (hd : decode bytes pc = .ok (.if_icmp .gt o, 3)) (K1 : z < x → Go p e below G T (mkF m pt L S)) (K2 : ¬ z < x → Go p e below G T (mkF m pf L S)) (ho : 0 ≤ (pc : Int) + o := by decide) (hp : ((pc : Int) + o).toNat = pt := by decide) (hq : pc + 3 = pf := by rfl) : Go p e below G T (mkF m pc L (.int z :: .int x :: S)) := by
  subst hq
  obtain ⟨vm0, k0, locs, X, eT, hS, hk, hZ, hown, hF, hN, hC, hsf, hE, ⟨a1, hEL⟩, hx, hby, hml, hnm, hrt, hlk⟩ := W
  subst hby
  by_cases q : z < x
  · exact (K1 q).st fun u k => XS.icmpYes X.here hx rfl (pc0 := pc) rfl hd rfl (XT.ii_gt_t q) ho hp k
  · exact (K2 q).st fun u k => XS.icmpNo X.here hx rfl hd rfl (XT.ii_gt_f q) k
theorem o_icle (pt pf : Nat) (W : Wk p l e R s m args below meth c Z y bytes maxL ret T h ce sl sf) {x z : Int32} {o : Int} (hd : decode bytes pc = .ok (.if_icmp .le o, 3)) (K1 : ¬ z < x → Go p e below G T (mkF m pt L S)) (K2 : z < x → Go p e below G T (mkF m pf L S)) (ho : 0 ≤ (pc : Int) + o := by decide) (hp : ((pc : Int) + o).toNat = pt := by decide) (hq : pc + 3 = pf := by rfl) : Go p e below G T (mkF m pc L (.int z :: .int x :: S)) := by
  subst hq
  obtain ⟨vm0, k0, locs, X, eT, hS, hk, hZ, hown, hF, hN, hC, hsf, hE, ⟨a1, hEL⟩, hx, hby, hml, hnm, hrt, hlk⟩ := W
  subst hby
  by_cases q : z < x
  · exact (K2 q).st fun u k => XS.icmpNo X.here hx rfl hd rfl (XT.ii_le_f q) k
  · exact (K1 q).st fun u k => XS.icmpYes X.here hx rfl (pc0 := pc) rfl hd rfl (XT.ii_le_t q) ho hp k
theorem o_lceq (pt pf : Nat) (W : Wk p l e R s m args below meth c Z y bytes maxL ret T h ce sl sf) {x z : Int64} {o : Int} (hd : decode bytes pc = .ok (.ifCond .eq o, 3)) (K1 : x = z → Go p e below G T (mkF m pt L S)) (K2 : ¬ x = z → Go p e below G T (mkF m pf L S)) (ho : 0 ≤ (pc : Int) + o := by decide) (hp : ((pc : Int) + o).toNat = pt := by decide) (hq : pc + 3 = pf := by rfl) : Go p e below G T (mkF m pc L (.int (XT.cmpL x z) :: S)) := by
  subst hq
  obtain ⟨vm0, k0, locs, X, eT, hS, hk, hZ, hown, hF, hN, hC, hsf, hE, ⟨a1, hEL⟩, hx, hby, hml, hnm, hrt, hlk⟩ := W
  subst hby
  by_cases q : x = z
  · exact (K1 q).st fun u k => XS.ifYes X.here hx rfl (pc0 := pc) rfl hd rfl (XT.ll_eq_t q) ho hp k
  · exact (K2 q).st fun u k => XS.ifNo X.here hx rfl hd rfl (XT.ll_eq_f q) k
theorem o_lcne (pt pf : Nat) (W : Wk p l e R s m args below meth c Z y bytes maxL ret T h ce sl sf) {x z : Int64} {o : Int} (hd : decode bytes pc = .ok (.ifCond .ne o, 3)) (K1 : ¬ x = z → Go p e below G T (mkF m pt L S)) (K2 : x = z → Go p e below G T (mkF m pf L S)) (ho : 0 ≤ (pc : Int) + o := by decide) (hp : ((pc : Int) + o).toNat = pt := by decide) (hq : pc + 3 = pf := by rfl) : Go p e below G T (mkF m pc L (.int (XT.cmpL x z) :: S)) := by
  subst hq
  obtain ⟨vm0, k0, locs, X, eT, hS, hk, hZ, hown, hF, hN, hC, hsf, hE, ⟨a1, hEL⟩, hx, hby, hml, hnm, hrt, hlk⟩ := W
  subst hby
  by_cases q : x = z
  · exact (K2 q).st fun u k => XS.ifNo X.here hx rfl hd rfl (XT.ll_ne_f q) k
  · exact (K1 q).st fun u k => XS.ifYes X.here hx rfl (pc0 := pc) rfl hd rfl (XT.ll_ne_t q) ho hp k
theorem o_lclt (pt pf : Nat) (W : Wk p l e R s m args below meth c Z y bytes maxL ret T h ce sl sf) {x z : Int64} {o : Int} (hd : decode bytes pc = .ok (.ifCond .lt o, 3)) (K1 : x < z → Go p e below G T (mkF m pt L S)) (K2 : ¬ x < z → Go p e below G T (mkF m pf L S)) (ho : 0 ≤ (pc : Int) + o := by decide) (hp : ((pc : Int) + o).toNat = pt := by decide) (hq : pc + 3 = pf := by rfl) : Go p e below G T (mkF m pc L (.int (XT.cmpL x z) :: S)) := by
  subst hq
  obtain ⟨vm0, k0, locs, X, eT, hS, hk, hZ, hown, hF, hN, hC, hsf, hE, ⟨a1, hEL⟩, hx, hby, hml, hnm, hrt, hlk⟩ := W
  subst hby
  by_cases q : x < z
  · exact (K1 q).st fun u k => XS.ifYes X.here hx rfl (pc0 := pc) rfl hd rfl (XT.ll_lt_t q) ho hp k
  · exact (K2 q).st fun u k => XS.ifNo X.here hx rfl hd rfl (XT.ll_lt_f q) k
theorem o_lcge (pt pf : Nat) (W : Wk p l e R s m args below meth c Z y bytes maxL ret T h ce sl sf) {x z : Int64} {o : Int} (hd : decode bytes pc = .ok (.ifCond .ge o, 3)) (K1 : ¬ x < z → Go p e below G T (mkF m pt L S)) (K2 : x < z → Go p e below G T (mkF m pf L S)) (ho : 0 ≤ (pc : Int) + o := by decide) (hp : ((pc : Int) + o).toNat = pt := by decide) (hq : pc + 3 = pf := by rfl) : Go p e below G T (mkF m pc L (.int (XT.cmpL x z) :: S)) := by
  subst hq
  obtain ⟨vm0, k0, locs, X, eT, hS, hk, hZ, hown, hF, hN, hC, hsf, hE, ⟨a1, hEL⟩, hx, hby, hml, hnm, hrt, hlk⟩ := W
  subst hby
  by_cases q : x < z
  · exact (K2 q).st fun u k => XS.ifNo X.here hx rfl hd rfl (XT.ll_ge_f q) k
  · exact (K1 q).st fun u k => XS.ifYes X.here hx rfl (pc0 := pc) rfl hd rfl (XT.ll_ge_t q) ho hp k
theorem o_lcgt (pt pf : Nat) (W : Wk p l e R s m args below meth c Z y bytes maxL ret T h ce sl sf) {x z : Int64} {o : Int} (hd : decode bytes pc = .ok (.ifCond .gt o, 3)) (K1 : z < x → Go p e below G T (mkF m pt L S)) (K2 : ¬ z < x → Go p e below G T (mkF m pf L S)) (ho : 0 ≤ (pc : Int) + o := by decide) (hp : ((pc : Int) + o).toNat = pt := by decide) (hq : pc + 3 = pf := by rfl) : Go p e below G T (mkF m pc L (.int (XT.cmpL x z) :: S)) := by
  subst hq
  obtain ⟨vm0, k0, locs, X, eT, hS, hk, hZ, hown, hF, hN, hC, hsf, hE, ⟨a1, hEL⟩, hx, hby, hml, hnm, hrt, hlk⟩ := W
  subst hby
  by_cases q : z < x
  · exact (K1 q).st fun u k => XS.ifYes X.here hx rfl (pc0 := pc) rfl hd rfl (XT.ll_gt_t q) ho hp k
  · exact (K2 q).st fun u k => XS.ifNo X.here hx rfl hd rfl (XT.ll_gt_f q) k
theorem o_lcle (pt pf : Nat) (W : Wk p l e R s m args below meth c Z y bytes maxL ret T h ce sl sf) {x z : Int64} {o : Int} (hd : decode bytes pc = .ok (.ifCond .le o, 3)) (K1 : ¬ z < x → Go p e below G T (mkF m pt L S)) (K2 : z < x → Go p e below G T (mkF m pf L S)) (ho : 0 ≤ (pc : Int) + o := by decide) (hp : ((pc : Int) + o).toNat = pt := by decide) (hq : pc + 3 = pf := by rfl) : Go p e below G T (mkF m pc L (.int (XT.cmpL x z) :: S)) := by
  subst hq
  obtain ⟨vm0, k0, locs, X, eT, hS, hk, hZ, hown, hF, hN, hC, hsf, hE, ⟨a1, hEL⟩, hx, hby, hml, hnm, hrt, hlk⟩ := W
  subst hby
  by_cases q : z < x
  · exact (K2 q).st fun u k => XS.ifNo X.here hx rfl hd rfl (XT.ll_le_f q) k
  · exact (K1 q).st fun u k => XS.ifYes X.here hx rfl (pc0 := pc) rfl hd rfl (XT.ll_le_t q) ho hp k
theorem o_ifY (pc' : Nat) (W : Wk p l e R s m args below meth c Z y bytes maxL ret T h ce sl sf) {cd : ClassFile.Cond} {x : Int32} {o : Int} (hd : decode bytes pc = .ok (.ifCond cd o, 3)) (hc : ifCond.holds cd x = true) (K : Go p e below G T (mkF m pc' L (S))) (ho : 0 ≤ (pc : Int) + o := by decide) (hp : ((pc : Int) + o).toNat = pc' := by decide) : Go p e below G T (mkF m pc L (.int x :: S)) := by
  obtain ⟨vm0, k0, locs, X, eT, hS, hk, hZ, hown, hF, hN, hC, hsf, hE, ⟨a1, hEL⟩, hx, hby, hml, hnm, hrt, hlk⟩ := W
  subst hby
  exact K.st fun u k => XS.ifYes X.here hx rfl (pc0 := pc) rfl hd rfl hc ho hp k
theorem o_ifN (pc' : Nat) (W : Wk p l e R s m args below meth c Z y bytes maxL ret T h ce sl sf) {cd : ClassFile.Cond} {o : Int} {x : Int32} (hd : decode bytes pc = .ok (.ifCond cd o, 3)) (hc : ifCond.holds cd x = false) (K : Go p e below G T (mkF m pc' L (S))) (hp : pc + 3 = pc' := by rfl) : Go p e below G T (mkF m pc L (.int x :: S)) := by
  subst hp
  obtain ⟨vm0, k0, locs, X, eT, hS, hk, hZ, hown, hF, hN, hC, hsf, hE, ⟨a1, hEL⟩, hx, hby, hml, hnm, hrt, hlk⟩ := W
  subst hby
  exact K.st fun u k => XS.ifNo X.here hx rfl hd rfl hc k
theorem o_icY (pc' : Nat) (W : Wk p l e R s m args below meth c Z y bytes maxL ret T h ce sl sf) {cd : ClassFile.Cond} {x z : Int32} {o : Int} (hd : decode bytes pc = .ok (.if_icmp cd o, 3)) (hc : if_icmp.holds cd x z = true) (K : Go p e below G T (mkF m pc' L (S))) (ho : 0 ≤ (pc : Int) + o := by decide) (hp : ((pc : Int) + o).toNat = pc' := by decide) : Go p e below G T (mkF m pc L (.int z :: .int x :: S)) := by
  obtain ⟨vm0, k0, locs, X, eT, hS, hk, hZ, hown, hF, hN, hC, hsf, hE, ⟨a1, hEL⟩, hx, hby, hml, hnm, hrt, hlk⟩ := W
  subst hby
  exact K.st fun u k => XS.icmpYes X.here hx rfl (pc0 := pc) rfl hd rfl hc ho hp k
theorem o_icN (pc' : Nat) (W : Wk p l e R s m args below meth c Z y bytes maxL ret T h ce sl sf) {cd : ClassFile.Cond} {o : Int} {x z : Int32} (hd : decode bytes pc = .ok (.if_icmp cd o, 3)) (hc : if_icmp.holds cd x z = false) (K : Go p e below G T (mkF m pc' L (S))) (hp : pc + 3 = pc' := by rfl) : Go p e below G T (mkF m pc L (.int z :: .int x :: S)) := by
  subst hp
  obtain ⟨vm0, k0, locs, X, eT, hS, hk, hZ, hown, hF, hN, hC, hsf, hE, ⟨a1, hEL⟩, hx, hby, hml, hnm, hrt, hlk⟩ := W
  subst hby
  exact K.st fun u k => XS.icmpNo X.here hx rfl hd rfl hc k
theorem o_nullY (pc' : Nat) (W : Wk p l e R s m args below meth c Z y bytes maxL ret T h ce sl sf)  {o : Int} (hd : decode bytes pc = .ok (.ifnull o, 3))  (K : Go p e below G T (mkF m pc' L (S))) (ho : 0 ≤ (pc : Int) + o := by decide) (hp : ((pc : Int) + o).toNat = pc' := by decide) : Go p e below G T (mkF m pc L (.null :: S)) := by
  obtain ⟨vm0, k0, locs, X, eT, hS, hk, hZ, hown, hF, hN, hC, hsf, hE, ⟨a1, hEL⟩, hx, hby, hml, hnm, hrt, hlk⟩ := W
  subst hby
  exact K.st fun u k => XS.ifnullYes X.here hx rfl (pc0 := pc) rfl hd rfl ho hp k
theorem o_nullN (pc' : Nat) (W : Wk p l e R s m args below meth c Z y bytes maxL ret T h ce sl sf) {o : Int} {a : Addr} (hd : decode bytes pc = .ok (.ifnull o, 3))  (K : Go p e below G T (mkF m pc' L (S))) (hp : pc + 3 = pc' := by rfl) : Go p e below G T (mkF m pc L (.ref a :: S)) := by
  subst hp
  obtain ⟨vm0, k0, locs, X, eT, hS, hk, hZ, hown, hF, hN, hC, hsf, hE, ⟨a1, hEL⟩, hx, hby, hml, hnm, hrt, hlk⟩ := W
  subst hby
  exact K.st fun u k => XS.ifnullNo X.here hx rfl hd rfl k
theorem o_nnY (pc' : Nat) (W : Wk p l e R s m args below meth c Z y bytes maxL ret T h ce sl sf) {a : Addr} {o : Int} (hd : decode bytes pc = .ok (.ifnonnull o, 3))  (K : Go p e below G T (mkF m pc' L (S))) (ho : 0 ≤ (pc : Int) + o := by decide) (hp : ((pc : Int) + o).toNat = pc' := by decide) : Go p e below G T (mkF m pc L (.ref a :: S)) := by
  obtain ⟨vm0, k0, locs, X, eT, hS, hk, hZ, hown, hF, hN, hC, hsf, hE, ⟨a1, hEL⟩, hx, hby, hml, hnm, hrt, hlk⟩ := W
  subst hby
  exact K.st fun u k => XT.ifnonnullYes X.here hx rfl (pc0 := pc) rfl hd rfl ho hp k
theorem o_nnN (pc' : Nat) (W : Wk p l e R s m args below meth c Z y bytes maxL ret T h ce sl sf) {o : Int} (hd : decode bytes pc = .ok (.ifnonnull o, 3))  (K : Go p e below G T (mkF m pc' L (S))) (hp : pc + 3 = pc' := by rfl) : Go p e below G T (mkF m pc L (.null :: S)) := by
  subst hp
  obtain ⟨vm0, k0, locs, X, eT, hS, hk, hZ, hown, hF, hN, hC, hsf, hE, ⟨a1, hEL⟩, hx, hby, hml, hnm, hrt, hlk⟩ := W
  subst hby
  exact K.st fun u k => XT.ifnonnullNo X.here hx rfl hd rfl k
theorem o_aceq (pt pf : Nat) (W : Wk p l e R s m args below meth c Z y bytes maxL ret T h ce sl sf) {x z : Value} (h1 : x.isRef = true) (h2 : z.isRef = true) {o : Int} (hd : decode bytes pc = .ok (.if_acmp .eq o, 3)) (K1 : x = z → Go p e below G T (mkF m pt L S)) (K2 : ¬ x = z → Go p e below G T (mkF m pf L S)) (ho : 0 ≤ (pc : Int) + o := by decide) (hp : ((pc : Int) + o).toNat = pt := by decide) (hq : pc + 3 = pf := by rfl) : Go p e below G T (mkF m pc L (z :: x :: S)) := by
  subst hq hp
  obtain ⟨vm0, k0, locs, X, eT, hS, hk, hZ, hown, hF, hN, hC, hsf, hE, ⟨a1, hEL⟩, hx, hby, hml, hnm, hrt, hlk⟩ := W
  subst hby
  by_cases q : x = z
  · exact (K1 q).st fun u k => acmp X hx (g := mkF m pc L (z :: x :: S)) rfl h1 h2 (same := true) rfl hd rfl (by simp [q]) ho (by rfl) k
  · exact (K2 q).st fun u k => acmp X hx (g := mkF m pc L (z :: x :: S)) rfl h1 h2 (same := false) rfl hd rfl (by simp [q]) ho (by rfl) k
theorem o_acne (pt pf : Nat) (W : Wk p l e R s m args below meth c Z y bytes maxL ret T h ce sl sf) {x z : Value} (h1 : x.isRef = true) (h2 : z.isRef = true) {o : Int} (hd : decode bytes pc = .ok (.if_acmp .ne o, 3)) (K1 : ¬ x = z → Go p e below G T (mkF m pt L S)) (K2 : x = z → Go p e below G T (mkF m pf L S)) (ho : 0 ≤ (pc : Int) + o := by decide) (hp : ((pc : Int) + o).toNat = pt := by decide) (hq : pc + 3 = pf := by rfl) : Go p e below G T (mkF m pc L (z :: x :: S)) := by
  subst hq hp
  obtain ⟨vm0, k0, locs, X, eT, hS, hk, hZ, hown, hF, hN, hC, hsf, hE, ⟨a1, hEL⟩, hx, hby, hml, hnm, hrt, hlk⟩ := W
  subst hby
  by_cases q : x = z
  · exact (K2 q).st fun u k => acmp X hx (g := mkF m pc L (z :: x :: S)) rfl h1 h2 (same := true) rfl hd rfl (by simp [q]) ho (by rfl) k
  · exact (K1 q).st fun u k => acmp X hx (g := mkF m pc L (z :: x :: S)) rfl h1 h2 (same := false) rfl hd rfl (by simp [q]) ho (by rfl) k
theorem o_ldcI (pc' : Nat) (W : Wk p l e R s m args below meth c Z y bytes maxL ret T h ce sl sf) {i : Nat} {v : Int32} (w : (Jvm.Cond.constant y.cls i v).before a0 Z = true) (hd : decode bytes pc = .ok (.ldc i, 2)) (K : Go p e below G T (mkF m pc' L (.int v :: S))) (hp : pc + 2 = pc' := by rfl) : Go p e below G T (mkF m pc L S) := by
  subst hp
  obtain ⟨vm0, k0, locs, X, eT, hS, hk, hZ, hown, hF, hN, hC, hsf, hE, ⟨a1, hEL⟩, hx, hby, hml, hnm, hrt, hlk⟩ := W
  subst hby
  exact K.st fun u k => X.ldcI hx hown (mv hZ w) (g := mkF m pc L S) rfl hd k
theorem o_ldc2J (pc' : Nat) (W : Wk p l e R s m args below meth c Z y bytes maxL ret T h ce sl sf) {i : Nat} {v : Int64} (w : (Jvm.Cond.constantLong y.cls i v).before a0 Z = true) (hd : decode bytes pc = .ok (.ldc2_w i, 3)) (K : Go p e below G T (mkF m pc' L (.long v :: S))) (hp : pc + 3 = pc' := by rfl) : Go p e below G T (mkF m pc L S) := by
  subst hp
  obtain ⟨vm0, k0, locs, X, eT, hS, hk, hZ, hown, hF, hN, hC, hsf, hE, ⟨a1, hEL⟩, hx, hby, hml, hnm, hrt, hlk⟩ := W
  subst hby
  exact K.st fun u k => X.ldc2J hx hown (mv hZ w) (g := mkF m pc L S) rfl hd k
theorem o_getF (pc' : Nat) (W : Wk p l e R s m args below meth c Z y bytes maxL ret T h ce sl sf) {i : Nat} {R0 O n d : String} {a : Addr} {v : Value} (w : (Jvm.Cond.fieldLink y.cls i R0 n d).before a0 Z = true) (F : Fld Z h a O n d v) (hd : decode bytes pc = .ok (.getfield i, 3)) (K : ∀ T', Wk p l e R s m args below meth c Z y bytes maxL ret T' h ce sl sf → Go p e below G T' (mkF m pc' L (v :: S))) (via : Via Z R0 O n d := by exact Via.refl) (hp : pc + 3 = pc' := by rfl) : Go p e below G T (mkF m pc L (.ref a :: S)) := by
  subst hp
  obtain ⟨vm0, k0, locs, X, eT, hS, hk, hZ, hown, hF, hN, hC, hsf, hE, ⟨a1, hEL⟩, hx, hby, hml, hnm, hrt, hlk⟩ := W
  subst hby
  obtain ⟨T', X', e', st⟩ := getF X hx hZ hown (host := "") (Or.inl w) via eT F (g := mkF m pc L (.ref a :: S)) rfl rfl hd
  exact (K T' ⟨vm0, k0, locs, X', e', hS, hk, hZ, hown, hF, hN, hC, hsf, hE, ⟨a1, hEL⟩, hx, rfl, hml, hnm, hrt, hlk⟩).st st
theorem o_getS (pc' : Nat) (W : Wk p l e R s m args below meth c Z y bytes maxL ret T h ce sl sf) {i : Nat} {R0 O n d : String} {v : Value} (w : (Jvm.Cond.fieldLink y.cls i R0 n d).before a0 Z = true) (F : Sta Z Z.heap O n d v) (hd : decode bytes pc = .ok (.getstatic i, 3)) (K : ∀ T', Wk p l e R s m args below meth c Z y bytes maxL ret T' h ce sl sf → Go p e below G T' (mkF m pc' L (v :: S))) (via : Via Z R0 O n d := by exact Via.refl) (hp : pc + 3 = pc' := by rfl) : Go p e below G T (mkF m pc L S) := by
  subst hp
  obtain ⟨vm0, k0, locs, X, eT, hS, hk, hZ, hown, hF, hN, hC, hsf, hE, ⟨a1, hEL⟩, hx, hby, hml, hnm, hrt, hlk⟩ := W
  subst hby
  obtain ⟨T', X', e', st⟩ := getS X hx hZ hown w via eT (Sta.ext hE F) (g := mkF m pc L S) rfl hd (host := "")
  exact (K T' ⟨vm0, k0, locs, X', e', hS, hk, hZ, hown, hF, hN, hC, hsf, hE, ⟨a1, hEL⟩, hx, rfl, hml, hnm, hrt, hlk⟩).st st
theorem o_cast (pc' : Nat) (W : Wk p l e R s m args below meth c Z y bytes maxL ret T h ce sl sf) {i : Nat} {K0 : String} {a : Addr} (w : (Jvm.Cond.classLink y.cls i K0).before a0 Z = true) (F : Ins Z h a K0 true) (hd : decode bytes pc = .ok (.checkcast i, 3)) (K : ∀ T', Wk p l e R s m args below meth c Z y bytes maxL ret T' h ce sl sf → Go p e below G T' (mkF m pc' L (.ref a :: S))) (hp : pc + 3 = pc' := by rfl) : Go p e below G T (mkF m pc L (.ref a :: S)) := by
  subst hp
  obtain ⟨vm0, k0, locs, X, eT, hS, hk, hZ, hown, hF, hN, hC, hsf, hE, ⟨a1, hEL⟩, hx, hby, hml, hnm, hrt, hlk⟩ := W
  subst hby
  obtain ⟨T', X', e', st⟩ := castY X hx hZ hown w eT F (g := mkF m pc L (.ref a :: S)) rfl rfl hd
  exact (K T' ⟨vm0, k0, locs, X', e', hS, hk, hZ, hown, hF, hN, hC, hsf, hE, ⟨a1, hEL⟩, hx, rfl, hml, hnm, hrt, hlk⟩).st st
theorem o_instY (pc' : Nat) (W : Wk p l e R s m args below meth c Z y bytes maxL ret T h ce sl sf) {i : Nat} {K0 : String} {a : Addr} (w : (Jvm.Cond.classLink y.cls i K0).before a0 Z = true) (F : Ins Z h a K0 true) (hd : decode bytes pc = .ok (.instanceof i, 3)) (K : ∀ T', Wk p l e R s m args below meth c Z y bytes maxL ret T' h ce sl sf → Go p e below G T' (mkF m pc' L (.int 1 :: S))) (hp : pc + 3 = pc' := by rfl) : Go p e below G T (mkF m pc L (.ref a :: S)) := by
  subst hp
  obtain ⟨vm0, k0, locs, X, eT, hS, hk, hZ, hown, hF, hN, hC, hsf, hE, ⟨a1, hEL⟩, hx, hby, hml, hnm, hrt, hlk⟩ := W
  subst hby
  obtain ⟨T', X', e', st⟩ := instY X hx hZ hown w eT F (g := mkF m pc L (.ref a :: S)) rfl rfl hd
  exact (K T' ⟨vm0, k0, locs, X', e', hS, hk, hZ, hown, hF, hN, hC, hsf, hE, ⟨a1, hEL⟩, hx, rfl, hml, hnm, hrt, hlk⟩).st st
theorem o_instN (pc' : Nat) (W : Wk p l e R s m args below meth c Z y bytes maxL ret T h ce sl sf) {i : Nat} {K0 C : String} {a : Addr} (w : (Jvm.Cond.classLink y.cls i K0).before a0 Z = true) (E : Exa Z h a C) (F : ∃ c t, Z.vm.findClass C = some c ∧ Z.vm.findClass K0 = some t ∧ Z.vm.assignable c t = false) (hd : decode bytes pc = .ok (.instanceof i, 3)) (K : ∀ T', Wk p l e R s m args below meth c Z y bytes maxL ret T' h ce sl sf → Go p e below G T' (mkF m pc' L (.int 0 :: S))) (hp : pc + 3 = pc' := by rfl) : Go p e below G T (mkF m pc L (.ref a :: S)) := by
  subst hp
  obtain ⟨vm0, k0, locs, X, eT, hS, hk, hZ, hown, hF, hN, hC, hsf, hE, ⟨a1, hEL⟩, hx, hby, hml, hnm, hrt, hlk⟩ := W
  subst hby
  obtain ⟨T', X', e', st⟩ := instNo X hx hZ hown w eT E F (g := mkF m pc L (.ref a :: S)) rfl rfl hd
  exact (K T' ⟨vm0, k0, locs, X', e', hS, hk, hZ, hown, hF, hN, hC, hsf, hE, ⟨a1, hEL⟩, hx, rfl, hml, hnm, hrt, hlk⟩).st st
theorem o_instNull (pc' : Nat) (W : Wk p l e R s m args below meth c Z y bytes maxL ret T h ce sl sf) {i : Nat} (hd : decode bytes pc = .ok (.instanceof i, 3)) (K : Go p e below G T (mkF m pc' L (.int 0 :: S))) (hp : pc + 3 = pc' := by rfl) : Go p e below G T (mkF m pc L (.null :: S)) := by
  subst hp
  obtain ⟨vm0, k0, locs, X, eT, hS, hk, hZ, hown, hF, hN, hC, hsf, hE, ⟨a1, hEL⟩, hx, hby, hml, hnm, hrt, hlk⟩ := W
  subst hby
  exact K.st fun u k => X.instanceofNull hx (g := mkF m pc L (.null :: S)) rfl rfl hd u k
theorem o_castNull (pc' : Nat) (W : Wk p l e R s m args below meth c Z y bytes maxL ret T h ce sl sf) {i : Nat} (hd : decode bytes pc = .ok (.checkcast i, 3)) (K : Go p e below G T (mkF m pc' L (.null :: S))) (hp : pc + 3 = pc' := by rfl) : Go p e below G T (mkF m pc L (.null :: S)) := by
  subst hp
  obtain ⟨vm0, k0, locs, X, eT, hS, hk, hZ, hown, hF, hN, hC, hsf, hE, ⟨a1, hEL⟩, hx, hby, hml, hnm, hrt, hlk⟩ := W
  subst hby
  exact K.st fun u k => X.checkcastNull hx (g := mkF m pc L (.null :: S)) rfl rfl hd u k
theorem o_iaload (pc' : Nat) (W : Wk p l e R s m args below meth c Z y bytes maxL ret T h ce sl sf) {a : Addr} {cl : Cell} {j : Int32} {v : Value} (A : Arr Z h a cl .int) (hj : ¬ (j < 0 ∨ cl.slots.size ≤ j.toNatClampNeg)) (hv : cl.slots[j.toNatClampNeg]? = some v) (hd : decode bytes pc = .ok (.iaload, 1)) (K : Go p e below G T (mkF m pc' L (v :: S))) (hp : pc + 1 = pc' := by rfl) : Go p e below G T (mkF m pc L (.int j :: .ref a :: S)) := by
  subst hp
  obtain ⟨vm0, k0, locs, X, eT, hS, hk, hZ, hown, hF, hN, hC, hsf, hE, ⟨a1, hEL⟩, hx, hby, hml, hnm, hrt, hlk⟩ := W
  subst hby
  exact K.st fun u k => X.iaload hx (by rw [eT]; exact A.1) (State.isArrayOf_alike hZ.alike A.2.1) A.2.2 hj hv (g := mkF m pc L (.int j :: .ref a :: S)) rfl rfl hd u k
theorem o_caload (pc' : Nat) (W : Wk p l e R s m args below meth c Z y bytes maxL ret T h ce sl sf) {a : Addr} {cl : Cell} {j : Int32} {v : Value} (A : Arr Z h a cl .char) (hj : ¬ (j < 0 ∨ cl.slots.size ≤ j.toNatClampNeg)) (hv : cl.slots[j.toNatClampNeg]? = some v) (hd : decode bytes pc = .ok (.caload, 1)) (K : Go p e below G T (mkF m pc' L (v :: S))) (hp : pc + 1 = pc' := by rfl) : Go p e below G T (mkF m pc L (.int j :: .ref a :: S)) := by
  subst hp
  obtain ⟨vm0, k0, locs, X, eT, hS, hk, hZ, hown, hF, hN, hC, hsf, hE, ⟨a1, hEL⟩, hx, hby, hml, hnm, hrt, hlk⟩ := W
  subst hby
  exact K.st fun u k => X.caload hx (by rw [eT]; exact A.1) (State.isArrayOf_alike hZ.alike A.2.1) A.2.2 hj hv (g := mkF m pc L (.int j :: .ref a :: S)) rfl rfl hd u k
theorem o_baload (pc' : Nat) (W : Wk p l e R s m args below meth c Z y bytes maxL ret T h ce sl sf) {a : Addr} {cl : Cell} {j : Int32} {v : Value} (A : Arr Z h a cl .byte) (hj : ¬ (j < 0 ∨ cl.slots.size ≤ j.toNatClampNeg)) (hv : cl.slots[j.toNatClampNeg]? = some v) (hd : decode bytes pc = .ok (.baload, 1)) (K : Go p e below G T (mkF m pc' L (v :: S))) (hp : pc + 1 = pc' := by rfl) : Go p e below G T (mkF m pc L (.int j :: .ref a :: S)) := by
  subst hp
  obtain ⟨vm0, k0, locs, X, eT, hS, hk, hZ, hown, hF, hN, hC, hsf, hE, ⟨a1, hEL⟩, hx, hby, hml, hnm, hrt, hlk⟩ := W
  subst hby
  exact K.st fun u k => X.baloadBytes hx (by rw [eT]; exact A.1) (State.isArrayOf_alike hZ.alike A.2.1) A.2.2 hj hv (g := mkF m pc L (.int j :: .ref a :: S)) rfl rfl hd u k
theorem o_laload (pc' : Nat) (W : Wk p l e R s m args below meth c Z y bytes maxL ret T h ce sl sf) {a : Addr} {cl : Cell} {j : Int32} {v : Value} (A : Arr Z h a cl .long) (hj : ¬ (j < 0 ∨ cl.slots.size ≤ j.toNatClampNeg)) (hv : cl.slots[j.toNatClampNeg]? = some v) (hd : decode bytes pc = .ok (.laload, 1)) (K : Go p e below G T (mkF m pc' L (v :: S))) (hp : pc + 1 = pc' := by rfl) : Go p e below G T (mkF m pc L (.int j :: .ref a :: S)) := by
  subst hp
  obtain ⟨vm0, k0, locs, X, eT, hS, hk, hZ, hown, hF, hN, hC, hsf, hE, ⟨a1, hEL⟩, hx, hby, hml, hnm, hrt, hlk⟩ := W
  subst hby
  exact K.st fun u k => X.laload hx (by rw [eT]; exact A.1) (State.isArrayOf_alike hZ.alike A.2.1) A.2.2 hj hv (g := mkF m pc L (.int j :: .ref a :: S)) rfl rfl hd u k
theorem o_aaload (pc' : Nat) (W : Wk p l e R s m args below meth c Z y bytes maxL ret T h ce sl sf) {a : Addr} {cl : Cell} {j : Int32} {v : Value} {ty : FieldType} (A : Arr Z h a cl ty) (hty : ty.isReference = true) (hj : ¬ (j < 0 ∨ cl.slots.size ≤ j.toNatClampNeg)) (hv : cl.slots[j.toNatClampNeg]? = some v) (hd : decode bytes pc = .ok (.aaload, 1)) (K : Go p e below G T (mkF m pc' L (v :: S))) (hp : pc + 1 = pc' := by rfl) : Go p e below G T (mkF m pc L (.int j :: .ref a :: S)) := by
  subst hp
  obtain ⟨vm0, k0, locs, X, eT, hS, hk, hZ, hown, hF, hN, hC, hsf, hE, ⟨a1, hEL⟩, hx, hby, hml, hnm, hrt, hlk⟩ := W
  subst hby
  exact K.st fun u k => X.aaload hx (by rw [eT]; exact A.1) (State.isArrayOf_alike hZ.alike A.2.1) hty A.2.2 hj hv (g := mkF m pc L (.int j :: .ref a :: S)) rfl rfl hd u k
theorem o_alen (pc' : Nat) (W : Wk p l e R s m args below meth c Z y bytes maxL ret T h ce sl sf) {a : Addr} {cl : Cell} {ty : FieldType} (n : Int32) (A : Arr Z h a cl ty) (hn : cl.slots.size.toInt32 = n) (hd : decode bytes pc = .ok (.arraylength, 1)) (K : Go p e below G T (mkF m pc' L (.int n :: S))) (hp : pc + 1 = pc' := by rfl) : Go p e below G T (mkF m pc L (.ref a :: S)) := by
  subst hp hn
  obtain ⟨vm0, k0, locs, X, eT, hS, hk, hZ, hown, hF, hN, hC, hsf, hE, ⟨a1, hEL⟩, hx, hby, hml, hnm, hrt, hlk⟩ := W
  subst hby
  exact K.st fun u k => X.arraylength hx (by rw [eT]; exact A.1) (State.isArrayOf_alike hZ.alike A.2.1) (g := mkF m pc L (.ref a :: S)) rfl rfl hd u k
theorem o_ialoadV (pc' : Nat) (W : Wk p l e R s m args below meth c Z y bytes maxL ret T h ce sl sf) {a : Addr} {k : ClassId} {z j : Int32} {vs : List Value} {dv v : Value} (A : Arv Z h a k .int z vs dv) (hj : ¬ j < 0 ∧ j < z) (hv : vs.getD j.toNatClampNeg dv = v) (hd : decode bytes pc = .ok (.iaload, 1)) (K : Go p e below G T (mkF m pc' L (v :: S))) (hp : pc + 1 = pc' := by rfl) : Go p e below G T (mkF m pc L (.int j :: .ref a :: S)) := by
  obtain ⟨cl, A1, A2, A3, A4, A5, A6⟩ := A
  exact o_iaload pc' W A1 (inb_of A3 hj) (Has.at A5 (inb_of A3 hj) hv) hd K hp
theorem o_caloadV (pc' : Nat) (W : Wk p l e R s m args below meth c Z y bytes maxL ret T h ce sl sf) {a : Addr} {k : ClassId} {z j : Int32} {vs : List Value} {dv v : Value} (A : Arv Z h a k .char z vs dv) (hj : ¬ j < 0 ∧ j < z) (hv : vs.getD j.toNatClampNeg dv = v) (hd : decode bytes pc = .ok (.caload, 1)) (K : Go p e below G T (mkF m pc' L (v :: S))) (hp : pc + 1 = pc' := by rfl) : Go p e below G T (mkF m pc L (.int j :: .ref a :: S)) := by
  obtain ⟨cl, A1, A2, A3, A4, A5, A6⟩ := A
  exact o_caload pc' W A1 (inb_of A3 hj) (Has.at A5 (inb_of A3 hj) hv) hd K hp
theorem o_baloadV (pc' : Nat) (W : Wk p l e R s m args below meth c Z y bytes maxL ret T h ce sl sf) {a : Addr} {k : ClassId} {z j : Int32} {vs : List Value} {dv v : Value} (A : Arv Z h a k .byte z vs dv) (hj : ¬ j < 0 ∧ j < z) (hv : vs.getD j.toNatClampNeg dv = v) (hd : decode bytes pc = .ok (.baload, 1)) (K : Go p e below G T (mkF m pc' L (v :: S))) (hp : pc + 1 = pc' := by rfl) : Go p e below G T (mkF m pc L (.int j :: .ref a :: S)) := by
  obtain ⟨cl, A1, A2, A3, A4, A5, A6⟩ := A
  exact o_baload pc' W A1 (inb_of A3 hj) (Has.at A5 (inb_of A3 hj) hv) hd K hp
theorem o_alenV (pc' : Nat) (W : Wk p l e R s m args below meth c Z y bytes maxL ret T h ce sl sf) {a : Addr} {k : ClassId} {z : Int32} {ty : FieldType} {vs : List Value} {dv : Value} (A : Arv Z h a k ty z vs dv) (hd : decode bytes pc = .ok (.arraylength, 1)) (K : Go p e below G T (mkF m pc' L (.int z :: S))) (hp : pc + 1 = pc' := by rfl) : Go p e below G T (mkF m pc L (.ref a :: S)) := by
  obtain ⟨cl, A1, A2, A3, A4, A5, A6⟩ := A
  exact o_alen pc' W z A1 (len_of A3 A4) hd K hp
theorem o_new (pc' : Nat) (W : Wk p l e R s m args below meth c Z y bytes maxL ret T h ce sl sf) {C : String} {i n : Nat} (w : (Jvm.Cond.classLink y.cls i C).before a0 Z = true) (wi : (Jvm.Cond.instantiable C n).before a0 Z = true) (wz : (Jvm.Cond.initialized C).before a0 Z = true) (hd : decode bytes pc = .ok (.new i, 3))
    (K : ∀ T' h' a, Wk p l e R s m args below meth c Z y bytes maxL ret T' h' (ce + 1) (sl + n) (a :: sf) → Ext h h' → Exa Z h' a C → (∀ {O nm d : String} {ty : FieldType}, Laid Z a0 C O nm d → parseFieldDescriptor d = some ty → Fld Z h' a O nm d (defaultValue ty)) → h.size ≤ a → Z.heap.size ≤ a → Go p e below G T' (mkF m pc' L (.ref a :: S)))
    (hc : ce + 1 ≤ R.cells := by decide) (hs : sl + n ≤ R.slots := by decide) (hp : pc + 3 = pc' := by rfl) : Go p e below G T (mkF m pc L S) := by
  subst hp
  obtain ⟨vm0, k0, locs, X, eT, hS, hk, hZ, hown, hF, hN, hC, hsf, hE, ⟨a1, hEL⟩, hx, hby, hml, hnm, hrt, hlk⟩ := W
  subst hby
  obtain ⟨T', h', X', e', E, A, D, -, st⟩ := newO X hx hZ hown w wi wz eT (g := mkF m pc L S) rfl hd hc hs
  refine (K T' h' h.size ⟨vm0, k0, locs, X', e', hS, Nat.le_trans hk E.1, hZ, hown, hF, hN, hC.trans (CHr.ext E hC.1), fun x q => ?_, own_ext_trans hE E, ⟨a1, hEL⟩, hx, rfl, hml, hnm, hrt, hlk⟩ E A D (Nat.le_refl _) hE.1).st st
  rcases List.mem_cons.mp q with rfl | q
  · exact ⟨A.lt, Safe.ext E hC.1 (Safe.new (Nat.le_refl _))⟩
  · exact ⟨Nat.lt_of_lt_of_le (hsf x q).1 E.1, Safe.ext E hC.1 (hsf x q).2⟩
theorem own_pad {a : Addr} {k : ClassId} {ty : FieldType} {z : Int32} {dv : Value} (n : Nat) (A : Arv Z h a k ty z [] dv) : Arv Z h a k ty z (List.replicate n dv) dv := A.pad fun i => by
  rw [List.getD_eq_getElem?_getD, List.getElem?_replicate]; split <;> simp
theorem o_newarray (pc' : Nat) (cap : Nat) (W : Wk p l e R s m args below meth c Z y bytes maxL ret T h ce sl sf) {aty : ArrayType} {n : Int32} (w : (Jvm.Cond.arrayClass (newarray.typeOf aty)).before a0 Z = true) (hd : decode bytes pc = .ok (.newarray aty, 2)) (hn : ¬ n < 0) (hcap : n.toNatClampNeg ≤ cap)
    (K : ∀ T' h' a k, Wk p l e R s m args below meth c Z y bytes maxL ret T' h' (ce + 1) (sl + cap) (a :: sf) → Ext h h' → Arv Z h' a k (newarray.typeOf aty) n [] (defaultValue (newarray.typeOf aty)) → h.size ≤ a → Z.heap.size ≤ a → Go p e below G T' (mkF m pc' L (.ref a :: S)))
    (hb : cap * 8 ≤ 536870912 := by decide) (hc : ce + 1 ≤ R.cells := by decide) (hs : sl + cap ≤ R.slots := by decide) (hp : pc + 2 = pc' := by rfl) : Go p e below G T (mkF m pc L (.int n :: S)) := by
  subst hp
  obtain ⟨vm0, k0, locs, X, eT, hS, hk, hZ, hown, hF, hN, hC, hsf, hE, ⟨a1, hEL⟩, hx, hby, hml, hnm, hrt, hlk⟩ := W
  subst hby
  obtain ⟨T', h', cA, X', e', E, A, st⟩ := newP X hx hZ w eT (g := mkF m pc L (.int n :: S)) rfl hd rfl hn hcap hb hc hs
  refine (K T' h' h.size cA ⟨vm0, k0, locs, X', e', hS, Nat.le_trans hk E.1, hZ, hown, hF, hN, hC.trans (CHr.ext E hC.1), fun x q => ?_, own_ext_trans hE E, ⟨a1, hEL⟩, hx, rfl, hml, hnm, hrt, hlk⟩ E (Arv.new A hn) (Nat.le_refl _) hE.1).st st
  rcases List.mem_cons.mp q with rfl | q
  · exact ⟨A.lt, Safe.ext E hC.1 (Safe.new (Nat.le_refl _))⟩
  · exact ⟨Nat.lt_of_lt_of_le (hsf x q).1 E.1, Safe.ext E hC.1 (hsf x q).2⟩
theorem o_putF (pc' : Nat) (W : Wk p l e R s m args below meth c Z y bytes maxL ret T h ce sl sf) {i kk : Nat} {R0 O n d C : String} {ty : FieldType} {a : Addr} {v old : Value} (w : (Jvm.Cond.fieldLink y.cls i R0 n d).before a0 Z = true) (F : Fld Z h a O n d old) (E : Exa Z h a C) (Lz : (Jvm.Cond.lays C O n d).before a0 Z = true ∨ ((Jvm.Cond.laysFinal C O n d).before a0 Z = true ∧ y.cls = O ∧ y.name = "<init>")) (wi : (Jvm.Cond.instantiable C kk).before a0 Z = true) (hty : parseFieldDescriptor d = some ty) (hn : narrow ty v = v) (hf : fits ty v = true) (hsafe : a ∈ sf ∨ (C ≠ "java/lang/String" ∧ C ≠ "[B")) (ha : Z.heap.size ≤ a) (hd : decode bytes pc = .ok (.putfield i, 3))
    (K : ∀ T' h', Wk p l e R s m args below meth c Z y bytes maxL ret T' h' ce sl sf → Wr h h' a (Jvm.RoadKit.slotOf Z O n d) v → Go p e below G T' (mkF m pc' L S)) (via : Via Z R0 O n d := by exact Via.refl) (hp : pc + 3 = pc' := by rfl) : Go p e below G T (mkF m pc L (v :: .ref a :: S)) := by
  subst hp
  obtain ⟨vm0, k0, locs, X, eT, hS, hk, hZ, hown, hF, hN, hC, hsf, hE, ⟨a1, hEL⟩, hx, hby, hml, hnm, hrt, hlk⟩ := W
  subst hby
  have hsa : Safe Z own_EL vm0 h a := hsafe.elim (fun q => (hsf a q).2) fun q => Safe.exa hZ.alike E q.1 q.2
  obtain ⟨T', h', X', e', Wr0, st⟩ := putF X hx hZ hown (host := "") (Or.inl w) via eT F E (Lz.imp id fun q => ⟨q.1, q.2.1, hnm.trans q.2.2⟩) wi hty hn hf (g := mkF m pc L (v :: .ref a :: S)) rfl rfl hd
  exact (K T' h' ⟨vm0, k0, _, X', e', hS, Nat.le_trans hk (Nat.le_of_eq Wr0.size.symm), hZ, hown, Fr.snoc X' hF ha, hN, hC.trans (CHr.wr Wr0 hsa hC.1), fun x q => ⟨Nat.lt_of_lt_of_le (hsf x q).1 (Nat.le_of_eq Wr0.size.symm), Safe.wr Wr0 hsa hC.1 (hsf x q).2⟩, own_ext_wr hE Wr0 ha, ⟨a1, hEL⟩, hx, rfl, hml, hnm, hrt, hlk⟩ Wr0).st st
theorem o_initO (pc' : Nat) (W : Wk p l e R s m args below meth c Z y bytes maxL ret T h ce sl sf) {i : Nat} {a : Addr} (w1 : (Jvm.Cond.methodLink y.cls i Lib.objectInit).before a0 Z = true) (w2 : (Jvm.Cond.instanceMethod Lib.objectInit).before a0 Z = true) (w3 : (Jvm.Cond.code Lib.objectInit ⟨#[0xb1]⟩ 1 none).before a0 Z = true) (hd : decode bytes pc = .ok (.invokespecial i, 3)) (K : ∀ T', Wk p l e R s m args below meth c Z y bytes maxL ret T' h ce sl sf → Go p e below G T' (mkF m pc' L S)) (hsz : L.size = maxL := by rfl) (hf : 1 ≤ R.frames := by decide) (hl : (S.map fun v => v.category).sum + 12 ≤ R.locals := by decide) (hp : pc + 3 = pc' := by rfl) : Go p e below G T (mkF m pc L (.ref a :: S)) := by
  subst hp
  obtain ⟨vm0, k0, locs, X, eT, hS, hk, hZ, hown, hF, hN, hC, hsf, hE, ⟨a1, hEL⟩, hx, hby, hml, hnm, hrt, hlk⟩ := W
  subst hby
  obtain ⟨T', X', e', st⟩ := initO X hx hZ hown w1 w2 w3 eT (g := mkF m pc L (.ref a :: S)) rfl (by rw [hml]; exact hsz) rfl hd hf (W := (S.map fun v => v.category).sum) (by show 2 * 0 + _ ≤ _; omega) hl
  exact (K T' ⟨vm0, k0, locs, X', e', hS, hk, hZ, hown, hF, hN, hC, hsf, hE, ⟨a1, hEL⟩, hx, rfl, hml, hnm, hrt, hlk⟩).st st
theorem o_castore (pc' : Nat) (i : Nat) (W : Wk p l e R s m args below meth c Z y bytes maxL ret T h ce sl sf) {a : Addr} {k : ClassId} {z j x : Int32} {vs : List Value} {dv : Value} (A : Arv Z h a k .char z vs dv) (hj : ¬ j < 0 ∧ j < z) (hi : j.toNatClampNeg = i) (hlt : i < vs.length)  (ha : Z.heap.size ≤ a) (hd : decode bytes pc = .ok (.castore, 1))
    (K : ∀ T' h', Wk p l e R s m args below meth c Z y bytes maxL ret T' h' ce sl sf → Wr h h' a j.toNatClampNeg (.int (nar .char x)) → Arv Z h' a k .char z (vs.set i (.int (nar .char x))) dv → Go p e below G T' (mkF m pc' L S)) (hp : pc + 1 = pc' := by rfl) : Go p e below G T (mkF m pc L (.int x :: .int j :: .ref a :: S)) := by
  subst hp
  obtain ⟨vm0, k0, locs, X, eT, hS, hk, hZ, hown, hF, hN, hC, hsf, hE, ⟨a1, hEL⟩, hx, hby, hml, hnm, hrt, hlk⟩ := W
  subst hby
  obtain ⟨cl, A1, A2, A3, A4, A5, A6⟩ := A
  have hsa : Safe Z own_EL vm0 h a := Safe.arr hZ.alike A1 (by decide)
  obtain ⟨T', h', X', e', Wr0, st⟩ := stC X hx hZ eT A1 (inb_of A3 hj) (g := mkF m pc L (.int x :: .int j :: .ref a :: S)) rfl rfl hd
  exact (K T' h' ⟨vm0, k0, _, X', e', hS, Nat.le_trans hk (Nat.le_of_eq Wr0.size.symm), hZ, hown, Fr.snoc X' hF ha, hN, hC.trans (CHr.wr Wr0 hsa hC.1), fun x q => ⟨Nat.lt_of_lt_of_le (hsf x q).1 (Nat.le_of_eq Wr0.size.symm), Safe.wr Wr0 hsa hC.1 (hsf x q).2⟩, own_ext_wr hE Wr0 ha, ⟨a1, hEL⟩, hx, rfl, hml, hnm, hrt, hlk⟩ Wr0 (Arv.set A1 A2 A3 A4 A5 A6 (fits_nar_char x) Wr0 i hi hlt)).st st
theorem o_bastore (pc' : Nat) (i : Nat) (W : Wk p l e R s m args below meth c Z y bytes maxL ret T h ce sl sf) {a : Addr} {k : ClassId} {z j x : Int32} {vs : List Value} {dv : Value} (A : Arv Z h a k .byte z vs dv) (hj : ¬ j < 0 ∧ j < z) (hi : j.toNatClampNeg = i) (hlt : i < vs.length) (hsafe : a ∈ sf) (ha : Z.heap.size ≤ a) (hd : decode bytes pc = .ok (.bastore, 1))
    (K : ∀ T' h', Wk p l e R s m args below meth c Z y bytes maxL ret T' h' ce sl sf → Wr h h' a j.toNatClampNeg (.int (nar .byte x)) → Arv Z h' a k .byte z (vs.set i (.int (nar .byte x))) dv → Go p e below G T' (mkF m pc' L S)) (hp : pc + 1 = pc' := by rfl) : Go p e below G T (mkF m pc L (.int x :: .int j :: .ref a :: S)) := by
  subst hp
  obtain ⟨vm0, k0, locs, X, eT, hS, hk, hZ, hown, hF, hN, hC, hsf, hE, ⟨a1, hEL⟩, hx, hby, hml, hnm, hrt, hlk⟩ := W
  subst hby
  obtain ⟨cl, A1, A2, A3, A4, A5, A6⟩ := A
  have hsa : Safe Z own_EL vm0 h a := (hsf a hsafe).2
  obtain ⟨T', h', X', e', Wr0, st⟩ := stB X hx hZ eT A1 (inb_of A3 hj) (g := mkF m pc L (.int x :: .int j :: .ref a :: S)) rfl rfl hd
  exact (K T' h' ⟨vm0, k0, _, X', e', hS, Nat.le_trans hk (Nat.le_of_eq Wr0.size.symm), hZ, hown, Fr.snoc X' hF ha, hN, hC.trans (CHr.wr Wr0 hsa hC.1), fun x q => ⟨Nat.lt_of_lt_of_le (hsf x q).1 (Nat.le_of_eq Wr0.size.symm), Safe.wr Wr0 hsa hC.1 (hsf x q).2⟩, own_ext_wr hE Wr0 ha, ⟨a1, hEL⟩, hx, rfl, hml, hnm, hrt, hlk⟩ Wr0 (Arv.set A1 A2 A3 A4 A5 A6 (fits_nar_byte x) Wr0 i hi hlt)).st st
theorem o_iastore (pc' : Nat) (i : Nat) (W : Wk p l e R s m args below meth c Z y bytes maxL ret T h ce sl sf) {a : Addr} {k : ClassId} {z j x : Int32} {vs : List Value} {dv : Value} (A : Arv Z h a k .int z vs dv) (hj : ¬ j < 0 ∧ j < z) (hi : j.toNatClampNeg = i) (hlt : i < vs.length)  (ha : Z.heap.size ≤ a) (hd : decode bytes pc = .ok (.iastore, 1))
    (K : ∀ T' h', Wk p l e R s m args below meth c Z y bytes maxL ret T' h' ce sl sf → Wr h h' a j.toNatClampNeg (.int x) → Arv Z h' a k .int z (vs.set i (.int x)) dv → Go p e below G T' (mkF m pc' L S)) (hp : pc + 1 = pc' := by rfl) : Go p e below G T (mkF m pc L (.int x :: .int j :: .ref a :: S)) := by
  subst hp
  obtain ⟨vm0, k0, locs, X, eT, hS, hk, hZ, hown, hF, hN, hC, hsf, hE, ⟨a1, hEL⟩, hx, hby, hml, hnm, hrt, hlk⟩ := W
  subst hby
  obtain ⟨cl, A1, A2, A3, A4, A5, A6⟩ := A
  have hsa : Safe Z own_EL vm0 h a := Safe.arr hZ.alike A1 (by decide)
  obtain ⟨T', h', X', e', Wr0, st⟩ := stI X hx hZ eT A1 (inb_of A3 hj) (g := mkF m pc L (.int x :: .int j :: .ref a :: S)) rfl rfl hd
  exact (K T' h' ⟨vm0, k0, _, X', e', hS, Nat.le_trans hk (Nat.le_of_eq Wr0.size.symm), hZ, hown, Fr.snoc X' hF ha, hN, hC.trans (CHr.wr Wr0 hsa hC.1), fun x q => ⟨Nat.lt_of_lt_of_le (hsf x q).1 (Nat.le_of_eq Wr0.size.symm), Safe.wr Wr0 hsa hC.1 (hsf x q).2⟩, own_ext_wr hE Wr0 ha, ⟨a1, hEL⟩, hx, rfl, hml, hnm, hrt, hlk⟩ Wr0 (Arv.set A1 A2 A3 A4 A5 A6 (rfl) Wr0 i hi hlt)).st st
theorem o_arraycopy (pc' : Nat) (W : Wk p l e R s m args below meth c Z y bytes maxL ret T h ce sl sf) {i : Nat} {a b : Addr} {k k' : ClassId} {z z' sp dp nn : Int32} {vs vd us : List Value} {dv dd : Value} {ty : FieldType} (w1 : (Jvm.Cond.methodLink y.cls i Jvm.Stand.acN).before a0 Z = true) (w2 : (Jvm.Cond.native Jvm.Stand.acN).before a0 Z = true) (w3 : (Jvm.Cond.static Jvm.Stand.acN).before a0 Z = true) (w4 : (Jvm.Cond.initialized "java/lang/System").before a0 Z = true) (A : Arv Z h a k ty z vs dv) (B : Arv Z h b k' ty z' vd dd) (hty : refKind ty = false)
    (h1 : ¬ sp < 0) (h2 : ¬ dp < 0) (h3 : ¬ nn < 0) (h4 : sp.toNatClampNeg + nn.toNatClampNeg ≤ z.toNatClampNeg) (h5 : dp.toNatClampNeg + nn.toNatClampNeg ≤ z'.toNatClampNeg) (hus : us = (List.range nn.toNatClampNeg).map fun i => vs.getD (sp.toNatClampNeg + i) dv) (hlv : dp.toNatClampNeg + nn.toNatClampNeg ≤ vd.length) (hsafe : b ∈ sf) (hb : Z.heap.size ≤ b) (hd : decode bytes pc = .ok (.invokestatic i, 3))
    (K : ∀ T' h', Wk p l e R s m args below meth c Z y bytes maxL ret T' h' ce sl sf → Keep h h' [b] → Arv Z h' b k' ty z' (vd.take dp.toNatClampNeg ++ us ++ vd.drop (dp.toNatClampNeg + nn.toNatClampNeg)) dd → Go p e below G T' (mkF m pc' L S)) (hsz : L.size = maxL := by rfl) (hf : 1 ≤ R.frames := by decide) (hl : (S.map fun v => v.category).sum + (nativeFrameWords "java/lang/System" "arraycopy" 5 + 11) ≤ R.locals := by decide) (hp : pc + 3 = pc' := by rfl) : Go p e below G T (mkF m pc L (.int nn :: .int dp :: .ref b :: .int sp :: .ref a :: S)) := by
  subst hp
  obtain ⟨vm0, k0, locs, X, eT, hS, hk, hZ, hown, hF, hN, hC, hsf, hE, ⟨a1, hEL⟩, hx, hby, hml, hnm, hrt, hlk⟩ := W
  subst hby
  obtain ⟨T', h', L', X', e', N', Kp, A', st⟩ := cpA X hx hZ hown w1 w2 w3 w4 eT A B (Or.inl ⟨rfl, hty⟩) h1 h2 h3 h4 h5 hus hlv hF hb (g := mkF m pc L (.int nn :: .int dp :: .ref b :: .int sp :: .ref a :: S)) rfl (by rw [hml]; exact hsz) rfl hd hf (W := (S.map fun v => v.category).sum) (by show 2 * 0 + _ ≤ _; omega) hl
  have hs1 : ∀ x ∈ [b], Safe Z own_EL vm0 h x := fun x q => by rw [List.mem_singleton.mp q]; exact (hsf b hsafe).2
  have hE' : Ext Z.heap h' := ⟨Nat.le_trans hE.1 Kp.1, fun x cc r => Kp.2.1 x cc (hE.2 x cc r) fun q => by
    have hlt := (Array.getElem?_eq_some_iff.mp r).1
    rw [List.mem_singleton.mp q] at hlt; omega⟩
  exact (K T' h' ⟨vm0, k0, L', X', e', hS, Nat.le_trans hk Kp.1, hZ, hown, N', hN, hC.trans (CHr.keep Kp hs1 hC.1), fun x q => ⟨Nat.lt_of_lt_of_le (hsf x q).1 Kp.1, Safe.keep Kp hs1 hC.1 (hsf x q).2⟩, hE', ⟨a1, hEL⟩, hx, rfl, hml, hnm, hrt, hlk⟩ Kp A').st st
theorem o_clone (pc' : Nat) (cap : Nat) (W : Wk p l e R s m args below meth c Z y bytes maxL ret T h ce sl sf) {i : Nat} {ad : String} {a : Addr} {k : ClassId} {ty : FieldType} {z : Int32} {vs : List Value} {dv : Value} (w1 : (Jvm.Cond.methodLink y.cls i ⟨ad, "clone", "()Ljava/lang/Object;"⟩).before a0 Z = true) (w2 : (Jvm.Cond.sameMethod ad "java/lang/Object" "clone" "()Ljava/lang/Object;").before a0 Z = true) (w3 : (Jvm.Cond.native ⟨"java/lang/Object", "clone", "()Ljava/lang/Object;"⟩).before a0 Z = true) (w4 : (Jvm.Cond.instanceMethod ⟨"java/lang/Object", "clone", "()Ljava/lang/Object;"⟩).before a0 Z = true) (w5 : (Jvm.Cond.selects ad ⟨ad, "clone", "()Ljava/lang/Object;"⟩ ⟨"java/lang/Object", "clone", "()Ljava/lang/Object;"⟩).before a0 Z = true) (w6 : (Jvm.Cond.castable ad "java/lang/Cloneable").before a0 Z = true) (F : Arv Z h a k ty z vs dv) (E : Exa Z h a ad) (hd : decode bytes pc = .ok (.invokevirtual i, 3)) (hcap : z.toNatClampNeg ≤ cap)
    (K : ∀ T' h' b, Wk p l e R s m args below meth c Z y bytes maxL ret T' h' (ce + 1) (sl + cap) (b :: sf) → Ext h h' → Arv Z h' b k ty z vs dv → Exa Z h' b ad → h.size ≤ b → Z.heap.size ≤ b → Go p e below G T' (mkF m pc' L (.ref b :: S))) (hsz : L.size = maxL := by rfl) (hf : 1 ≤ R.frames := by decide) (hl : (S.map fun v => v.category).sum + 14 ≤ R.locals := by decide) (hc : ce + 1 ≤ R.cells := by decide) (hs : sl + cap ≤ R.slots := by decide) (hp : pc + 3 = pc' := by rfl) : Go p e below G T (mkF m pc L (.ref a :: S)) := by
  subst hp
  obtain ⟨vm0, k0, locs, X, eT, hS, hk, hZ, hown, hF, hN, hC, hsf, hE, ⟨a1, hEL⟩, hx, hby, hml, hnm, hrt, hlk⟩ := W
  subst hby
  obtain ⟨T', h', X', e', Ee, A, Ex, st⟩ := cloneH X hx hZ hown w1 w2 w3 w4 w5 w6 eT (hs := []) F E (g := mkF m pc L (.ref a :: S)) rfl (by rw [hml]; exact hsz) rfl hd hf (W := (S.map fun v => v.category).sum) (by show 2 * 0 + _ ≤ _; omega) hl hcap hc hs
  refine (K T' h' h.size ⟨vm0, k0, locs, X', e', hS, Nat.le_trans hk Ee.1, hZ, hown, hF, hN, hC.trans (CHr.ext Ee hC.1), fun x q => ?_, own_ext_trans hE Ee, ⟨a1, hEL⟩, hx, rfl, hml, hnm, hrt, hlk⟩ Ee A Ex (Nat.le_refl _) hE.1).st st
  rcases List.mem_cons.mp q with rfl | q
  · exact ⟨Ex.lt, Safe.ext Ee hC.1 (Safe.new (Nat.le_refl _))⟩
  · exact ⟨Nat.lt_of_lt_of_le (hsf x q).1 Ee.1, Safe.ext Ee hC.1 (hsf x q).2⟩
theorem own_ew {a1 a2 : Array Value} (E : EW Z a1 own_EL) : EW Z a2 own_EL := fun q hq => by
  obtain ⟨t, h1, h2⟩ := E q hq
  exact ⟨t, mvS (s := Z) (vm0 := Z.vm) (State.Warmed39.refl Z) h1, h2⟩
theorem o_ldcS (pc' : Nat) (n : Nat) (W : Wk p l e R s m args below meth c Z y bytes maxL ret T h ce sl sf) {i : Nat} {text : String} (hnar : ¬ own_Nar) (w : (Jvm.Cond.stringLink y.cls i text).before a0 Z = true) (wS : ∀ a ∈ Bundle.stringAtoms, a.before a0 Z = true) (hd : decode bytes pc = .ok (.ldc i, 2)) (hn : 4 * text.toList.length ≤ n)
    (K : ∀ T' h' a, Wk p l e R s m args below meth c Z y bytes maxL ret T' h' (ce + 2) (sl + (n + 4)) sf → Ext h h' → Go p e below G T' (mkF m pc' L (.ref a :: S))) (hbig : n ≤ 536870912 := by decide) (hc : ce + 2 ≤ R.cells := by decide) (hs : sl + (n + 4) ≤ R.slots := by decide) (hp : pc + 2 = pc' := by rfl) : Go p e below G T (mkF m pc L S) := by
  subst hp
  obtain ⟨vm0, k0, locs, X, eT, hS, hk, hZ, hown, hF, hN, hC, hsf, hE, ⟨a1, hEL⟩, hx, hby, hml, hnm, hrt, hlk⟩ := W
  subst hby
  obtain ⟨a, T', h', k1, X', e', E, hS', hk', hZ', hown', hC', -, st⟩ := ldcOH X hx hZ hown w wS eT hS hk (own_ew hEL) hC.1 (g := mkF m pc L S) rfl hd hn hbig hc hs
  exact (K T' h' a ⟨T'.vm, k1, locs, X', e', hS', hk', hZ', hown', hF, fun q => absurd q hnar, hC.trans hC', fun x q => ⟨Nat.lt_of_lt_of_le (hsf x q).1 E.1, hC'.safe (hsf x q).1 (hsf x q).2⟩, own_ext_trans hE E, ⟨a1, hEL⟩, hx, rfl, hml, hnm, hrt, hlk⟩ E).st st
theorem o_ldcC (pc' : Nat) (n : Nat) (W : Wk p l e R s m args below meth c Z y bytes maxL ret T h ce sl sf) {i : Nat} {text : String} {vs : List Value} {z : Int32} (hnar : ¬ own_Nar) (w : (Jvm.Cond.stringLink y.cls i text).before a0 Z = true) (wS : ∀ a ∈ Bundle.stringAtoms, a.before a0 Z = true) (hmem : (y.cls, i) ∈ own_EL) (ht : (∀ c ∈ text.toList, c.toNat < 256) ∧ text.toList.map (fun c => Value.int (Jvm.Lit.byteI c.toNat.toUInt16)) = vs) (hz : ¬ z < 0) (hzl : z.toNatClampNeg = vs.length) (hd : decode bytes pc = .ok (.ldc i, 2)) (hn : 4 * text.toList.length ≤ n)
    (K : ∀ T' h' a b k, Wk p l e R s m args below meth c Z y bytes maxL ret T' h' (ce + 2) (sl + (n + 4)) sf → Ext h h' → Exa Z h' a "java/lang/String" → Fld Z h' a "java/lang/String" "coder" "B" (.int 0) → Fld Z h' a "java/lang/String" "value" "[B" (.ref b) → Arv Z h' b k .byte z vs (.int 0) → (∀ x ∈ sf, x ≠ a ∧ x ≠ b) → Go p e below G T' (mkF m pc' L (.ref a :: S))) (hbig : n ≤ 536870912 := by decide) (hc : ce + 2 ≤ R.cells := by decide) (hs : sl + (n + 4) ≤ R.slots := by decide) (hp : pc + 2 = pc' := by rfl) : Go p e below G T (mkF m pc L S) := by
  subst hp
  obtain ⟨vm0, k0, locs, X, eT, hS, hk, hZ, hown, hF, hN, hC, hsf, hE, ⟨a1, hEL⟩, hx, hby, hml, hnm, hrt, hlk⟩ := W
  subst hby
  obtain ⟨a, T', h', k1, b, k, X', e', E, hS', hk', hZ', hown', q1, q2, q3, q4, q5, q6, hC', -, hsaf, st⟩ := ldcCH X hx hZ hown w wS eT hS hk (own_ew hEL) hmem hC.1 ht hz hzl (g := mkF m pc L S) rfl hd hn hbig hc hs
  exact (K T' h' a b k ⟨T'.vm, k1, locs, X', e', hS', hk', hZ', hown', hF, fun q => absurd q hnar, hC.trans hC', fun x q => ⟨Nat.lt_of_lt_of_le (hsf x q).1 E.1, hC'.safe (hsf x q).1 (hsf x q).2⟩, own_ext_trans hE E, ⟨a1, hEL⟩, hx, rfl, hml, hnm, hrt, hlk⟩ E q1 q2 q3 q4 fun x q => hsaf x (hC'.safe (hsf x q).1 (hsf x q).2)).st st
/-- what a body's end leaves -/
def Gd (s : State) (below : List Frame) (Z : State) (Q : Option Value → Heap → Prop) (kc ks : Nat) (u : State) : Prop := u.status = .running ∧ ∃ (v : Option Value) (Lc : List Loc), Ended u below (.returned v) ∧ Q v u.heap ∧ Fr Z.heap.size Lc ∧ CHr Z own_EL s.vm s.heap u.vm u.heap ∧ Ext Z.heap u.heap ∧ (own_Nar → s.WarmedH u.vm) ∧ ReturnedEndW s (.returned v) u Lc kc ks
/-- a body's contract: from the heap h0, with the arguments as', it returns and leaves Q -/
def Con (l : Launch) (Z : State) (y : MethodName) (bytes : ByteArray) (maxL : Nat) (ret : Option FieldType) (rm : Room) (as' : Array Value) (h0 : Heap) (sf0 : List Addr) (Q : Option Value → Heap → Prop) : Prop :=
  ∀ ws : List Jvm.Cond, MetFree l y (head1 (Jvm.Cond.code y bytes maxL ret :: ws) rm) (fun a U => a = as' ∧ Z.Warmed39 U.vm ∧ U.heap = h0 ∧ CHv Z own_EL U.vm h0 ∧ ∀ x ∈ sf0, Safe Z own_EL U.vm h0 x) (fun _ _ _ _ _ => True)
    (fun _ U o U' => ∃ v Lc, o = .returned v ∧ Q v U'.heap ∧ Fr Z.heap.size Lc ∧ CHr Z own_EL U.vm U.heap U'.vm U'.heap ∧ Ext Z.heap U'.heap ∧ (own_Nar → U.WarmedH U'.vm) ∧ ReturnedEndW U o U' Lc rm.cells rm.slots)
/-- a value is returned -/
abbrev QV (Q : Value → Heap → Prop) (v : Option Value) (h : Heap) : Prop := ∃ w, v = some w ∧ Q w h
/-- nothing is returned -/
abbrev Q0 (Q : Heap → Prop) (v : Option Value) (h : Heap) : Prop := v = none ∧ Q h
theorem Con.of {rm : Room} {as' : Array Value} {h0 : Heap} {sf0 : List Addr} {Q : Option Value → Heap → Prop} {L0 : Array Slot} (hp : plainFor y = true) (hE : Ext Z.heap h0) (hEL : ∃ a1, EW Z a1 own_EL) (hsf : ∀ x ∈ sf0, x < h0.size)
    (hent : ∀ m : MethodId, entryFrame m as' maxL = mkF m 0 L0 [])
    (body : ∀ (p : Program) (e : Env) (s : State) (m : MethodId) (args : Array Value) (below : List Frame) (meth : Method) (c : Code) (T : State), Wk p l e rm s m args below meth c Z y bytes maxL ret T h0 0 0 sf0 → Go p e below (Gd s below Z Q rm.cells rm.slots) T (mkF m 0 L0 [])) :
    Con l Z y bytes maxL ret rm as' h0 sf0 Q := by
  intro ws
  refine MetFree.of_bodySF hp hisR ?_
  intro p e s m args below meth c s₁ Bd hml hP hK
  obtain ⟨rfl, hZ, hh, hCH, hsaf⟩ := hP
  have X0 : Stand p l e rm (s.setVm s.vm) m args below meth c s₁ [] 0 0 := Stand.of_body Bd
  have e0 : s₁.heap = h0 := by rw [← hh, Bd.state]; rfl
  have hlk : meth.locks = false := by first | exact Bd.notSynchronized | exact BodyLoose.notSynchronized Bd
  have W : Wk p l e rm s m args below meth c Z y bytes maxL ret s₁ h0 0 0 sf0 :=
    ⟨s.vm, 0, [], X0, e0, (State.WarmedH.refl s).since 0, Nat.zero_le _, hZ, findClass_of_methodNamed Bd.named, Fr.nil _, fun _ => State.WarmedH.refl s, by rw [hh]; exact CHr.refl hCH, fun x hx => ⟨hsf x hx, hsaf x hx⟩, hE, hEL, Bd.exec, Bd.bytes, hml, (name_of_methodNamed Bd.named Bd.method).1, Bd.returns, hlk⟩
  obtain ⟨u, k, g1, v, Lc, g2, g3, g4, g5, g6, g7, g8⟩ := body p e s m args below meth c s₁ W
  exact ⟨u, _, castTop (hent m) k, g1, g2, v, Lc, rfl, g3, g4, g5, g6, g7, g8⟩
theorem o_end {Q : Option Value → Heap → Prop} {kc ks : Nat} (W : Wk p l e R s m args below meth c Z y bytes maxL ret T h ce sl sf) {v : Option Value} {g : JFrame} (hv : meth.sig.returnType = none → v = none) (hq : Q v h) (hc : ce ≤ kc) (hs : sl ≤ ks)
    (K : ∀ fs : List Frame, (∀ (f : JFrame) (acts : List Action), f.method = m → f.locked = none → f.entered = [] → (doReturn e (T.setTop f) acts v).1 = T.setFrames fs) → Steps p.tables e below (T.setTop g) (T.setFrames fs)) : Go p e below (Gd s below Z Q kc ks) T g := by
  obtain ⟨vm0, k0, locs, X, eT, hS, hk, hZ, hown, hF, hN, hC, hsf, hE, ⟨a1, hEL⟩, hx, hby, hml, hnm, hrt, hlk⟩ := W
  subst eT
  obtain ⟨fs, hr, hrun, hended, hW⟩ := (X.mono hc hs).leaveW hS hk (v := v) hv hlk
  have hC2 := hC.trans (CHv.at X hZ hEL hC.1)
  refine ⟨T.setFrames fs, K fs hr, hrun, v, locs, hended, hq, hF, hC2, hE, fun q => ?_, hW⟩
  exact State.WarmedH.trans (t := s.setVm vm0) (hN q) X.warmed
theorem o_iret {Q : Value → Heap → Prop} {kc ks : Nat} (W : Wk p l e R s m args below meth c Z y bytes maxL (some .int) T h ce sl sf) {x : Int32} (hd : decode bytes pc = .ok (.ireturn, 1)) (hq : Q (.int x) h) (hc : ce ≤ kc := by decide) (hs : sl ≤ ks := by decide) : Go p e below (Gd s below Z (QV Q) kc ks) T (mkF m pc L (.int x :: S)) := by
  have W2 := W
  obtain ⟨vm0, k0, locs, X, eT, hS, hk, hZ, hown, hF, hN, hC, hsf, hE, ⟨a1, hEL⟩, hx, hby, hml, hnm, hrt, hlk⟩ := W2
  subst hby
  exact o_end W (v := some (.int x)) (fun q => by rw [hrt] at q; cases q) ⟨_, rfl, hq⟩ hc hs fun fs hr => retOut X hx hrt rfl (Or.inl ⟨rfl, Or.inl rfl, x, rfl⟩) hd hr
theorem o_nret {Q : Value → Heap → Prop} {kc ks : Nat} {t : FieldType} (W : Wk p l e R s m args below meth c Z y bytes maxL (some t) T h ce sl sf) {x : Int32} (x' : Int32) (ht : t = .boolean ∨ t = .byte ∨ t = .char ∨ t = .short) (hn : nar t x = x') (hd : decode bytes pc = .ok (.ireturn, 1)) (hq : Q (.int x') h) (hc : ce ≤ kc := by decide) (hs : sl ≤ ks := by decide) : Go p e below (Gd s below Z (QV Q) kc ks) T (mkF m pc L (.int x :: S)) := by
  have W2 := W
  obtain ⟨vm0, k0, locs, X, eT, hS, hk, hZ, hown, hF, hN, hC, hsf, hE, ⟨a1, hEL⟩, hx, hby, hml, hnm, hrt, hlk⟩ := W2
  subst hby hn
  exact o_end W (v := some (.int (nar t x))) (fun q => by rw [hrt] at q; cases q) ⟨_, rfl, hq⟩ hc hs fun fs hr => retN X hx hrt ht hd hr
theorem o_aret {Q : Value → Heap → Prop} {kc ks : Nat} {t : FieldType} (W : Wk p l e R s m args below meth c Z y bytes maxL (some t) T h ce sl sf) {x : Value} (ht : t.isReference = true) (hv : x.isRef = true) (hn : narrow t x = x) (hd : decode bytes pc = .ok (.areturn, 1)) (hq : Q x h) (hc : ce ≤ kc := by decide) (hs : sl ≤ ks := by decide) : Go p e below (Gd s below Z (QV Q) kc ks) T (mkF m pc L (x :: S)) := by
  have W2 := W
  obtain ⟨vm0, k0, locs, X, eT, hS, hk, hZ, hown, hF, hN, hC, hsf, hE, ⟨a1, hEL⟩, hx, hby, hml, hnm, hrt, hlk⟩ := W2
  subst hby
  exact o_end W (v := some x) (fun q => by rw [hrt] at q; cases q) ⟨_, rfl, hq⟩ hc hs fun fs hr => retOut X hx hrt hn (Or.inr (Or.inr (Or.inr (Or.inr ⟨rfl, ht, hv⟩)))) hd hr
theorem o_ret {Q : Heap → Prop} {kc ks : Nat} (W : Wk p l e R s m args below meth c Z y bytes maxL none T h ce sl sf) (hd : decode bytes pc = .ok (.return_, 1)) (hq : Q h) (hc : ce ≤ kc := by decide) (hs : sl ≤ ks := by decide) : Go p e below (Gd s below Z (Q0 Q) kc ks) T (mkF m pc L []) := by
  have W2 := W
  obtain ⟨vm0, k0, locs, X, eT, hS, hk, hZ, hown, hF, hN, hC, hsf, hE, ⟨a1, hEL⟩, hx, hby, hml, hnm, hrt, hlk⟩ := W2
  subst hby
  exact o_end W (v := none) (fun _ => rfl) ⟨rfl, hq⟩ hc hs fun fs hr => X.returnOut hx hrt hd hr
theorem own_back {vm0 : Vm} {y' : MethodName} {bytes' : ByteArray} {maxL' : Nat} {ret' : Option FieldType} {rm : Room} {as' : Array Value} {sf' : List Addr} {Q : Option Value → Heap → Prop} {len Wd : Nat} {a1 : Array Value} (C : Con l Z y' bytes' maxL' ret' rm as' h sf' Q) (hZ : Z.Warmed39 (s.setVm vm0).vm) (wc : (Jvm.Cond.code y' bytes' maxL' ret').before a0 Z = true) (wz : (Jvm.Cond.initialized y'.cls).before a0 Z = true)
    (hf : rm.frames + 1 ≤ R.frames) (hl : Wd + (maxL' + 11) + rm.locals ≤ R.locals) (hEL : EW Z a1 own_EL) (H : CHv Z own_EL vm0 h) (hsf : ∀ x ∈ sf', x < h.size ∧ Safe Z own_EL vm0 h x) :
    BackS l R p e below (s.setVm vm0) args y' len Wd (fun A a => a = as' ∧ A.U.heap = h ∧ A.cells + rm.cells ≤ R.cells ∧ A.slots + rm.slots ≤ R.slots)
      (fun A _ v B => ∃ Lc, Q v B.U.heap ∧ Fr Z.heap.size Lc ∧ B.locs = A.locs ++ Lc ∧ B.cells = A.cells + rm.cells ∧ B.slots = A.slots + rm.slots ∧ CHr Z own_EL vm0 h B.U.vm B.U.heap ∧ Ext Z.heap B.U.heap ∧ (own_Nar → A.U.WarmedH B.U.vm)) :=
  BackS.of_freeW (bytes := bytes') (maxL := maxL') (ret := ret') (E := fun _ first o t Lc k n => k = rm.cells ∧ n = rm.slots ∧ (∃ v, o = .returned v ∧ Q v t.heap) ∧ Fr Z.heap.size Lc ∧ CHr Z own_EL first.vm first.heap t.vm t.heap ∧ Ext Z.heap t.heap ∧ (own_Nar → first.WarmedH t.vm)) (C []) hf hl
    (fun m meth c A a Y hp => have hU : Z.Warmed39 A.U.vm := wtrans (s := s.setVm vm0) hZ Y.warmed
      ⟨by show (Jvm.Cond.and _ .tt).before a A.U = true; rw [Cond.before_and, mv hU wc]; rfl, mv hU wc, mv hU wz, hp.2.2.1, hp.2.2.2⟩)
    (fun m meth c A a g mk Y hp => ⟨hp.1, wtrans (s := s.setVm vm0) hZ Y.warmed, hp.2.1, (CHv.at Y hZ hEL H).1, fun x hx => (CHv.at Y hZ hEL H).safe (hsf x hx).1 (hsf x hx).2⟩) (fun _ _ _ _ _ _ _ _ _ => trivial)
    (fun _ _ _ _ ⟨v, Lc, h1, h2, h3, h4, h5, h6, h7⟩ => ⟨Lc, _, _, h7, rfl, rfl, ⟨v, h1, h2⟩, h3, h4, h5, h6⟩)
    (fun m meth c A a g mk v t Lc k n Y hp _ _ ⟨e1, e2, ⟨v', e3, e4⟩, e5, e6, e7, e8⟩ => by
      cases e3; subst e1 e2
      refine ⟨Lc, e4, e5, rfl, rfl, rfl, (CHv.at Y hZ hEL H).trans ?_, e7, fun q => ?_⟩
      · rw [← hp.2.1]; exact e6
      · exact e8 q)
theorem o_static (pc' : Nat) (A : List Value) (W : Wk p l e R s m args below meth c Z y bytes maxL ret T h ce sl sf) {y' : MethodName} {bytes' : ByteArray} {maxL' : Nat} {ret' : Option FieldType} {rm : Room} {sf' : List Addr} {Q : Option Value → Heap → Prop} {stk : List Value} {i : Nat} (w1 : (Jvm.Cond.methodLink y.cls i y').before a0 Z = true) (w2 : (Jvm.Cond.static y').before a0 Z = true) (wz : (Jvm.Cond.initialized y'.cls).before a0 Z = true) (wc : (Jvm.Cond.code y' bytes' maxL' ret').before a0 Z = true) (C : Con l Z y' bytes' maxL' ret' rm A.toArray h sf' Q) {ps : List FieldType} {rt : Option FieldType} (hpd : parseMethodDescriptor y'.desc = some ⟨ps, rt⟩) (hd : decode bytes pc = .ok (.invokestatic i, 3)) (hst : stk = A.reverse ++ S) (hsub : ∀ x ∈ sf', x ∈ sf) (K : ∀ T' h' v, Wk p l e R s m args below meth c Z y bytes maxL ret T' h' (ce + rm.cells) (sl + rm.slots) sf → Q v h' → h.size ≤ h'.size → Go p e below G T' (mkF m pc' L (v.toList ++ S))) (hsz : L.size = maxL := by rfl) (hln : A.length = ps.length := by rfl) (hy : y'.cls ≠ "java/lang/invoke/MethodHandle" ∧ y'.cls ≠ "java/lang/invoke/VarHandle" := by decide) (hf : rm.frames + 1 ≤ R.frames := by decide) (hl : (S.map fun v => v.category).sum + (maxL' + 11) + rm.locals ≤ R.locals := by decide) (hc : ce + rm.cells ≤ R.cells := by decide) (hs : sl + rm.slots ≤ R.slots := by decide) (hp : pc + 3 = pc' := by rfl) : Go p e below G T (mkF m pc L stk) := by
  subst hp
  obtain ⟨vm0, k0, locs, X, eT, hS, hk, hZ, hown, hF, hN, hC, hsf, hE, ⟨a1, hEL⟩, hx, hby, hml, hnm, hrt, hlk⟩ := W
  subst hby
  obtain ⟨v, vm₁, ⟨T', locs', ce', sl'⟩, hW1, X', hS', hge, ⟨Lc, hQ, hFr, e1, e2, e3, hC', hE', hN'⟩, st⟩ := callSS X hx (y := y') hown (mvT hZ w1) (mvT hZ w2) (mvT hZ wz) (mvT hZ wc) hy (own_back (Wd := (S.map fun v => v.category).sum) C hZ wc wz hf hl hEL hC.1 fun x hx => hsf x (hsub x hx)) (g := mkF m pc L stk) rfl (by rw [hml]; exact hsz) (argsL := A) (rest := S) (lenOf hpd hln) hst (by show 2 * 0 + _ ≤ _; omega) hd (fun _ _ => ⟨rfl, eT, hc, hs⟩)
  dsimp only [Pt.U, Pt.locs, Pt.cells, Pt.slots] at X' hS' hge hQ e1 e2 e3 hC' hE' hN' st
  subst e1 e2 e3 eT
  refine (K T' T'.heap v ⟨T'.vm, T'.heap.size, locs ++ Lc, X', rfl, hS.trans hS' (Nat.le_trans hk hge), Nat.le_refl _, State.Warmed39.trans (t := s.setVm vm0) hZ hS'.1, by rw [show (s.setVm T'.vm).vm = T'.vm from rfl, hS'.1.alike.findClass]; exact hown, hF.app hFr, fun q => ?_, hC.trans hC', fun x hx => ⟨Nat.lt_of_lt_of_le (hsf x hx).1 hge, hC'.safe (hsf x hx).1 (hsf x hx).2⟩, hE', ⟨a1, hEL⟩, hx, rfl, hml, hnm, hrt, hlk⟩ hQ hge).st fun u k => st.trans k
  exact State.WarmedH.trans (t := s.setVm vm0) (hN q) (State.WarmedH.trans (s := s.setVm vm0) (t := T.setVm vm₁) hW1 (hN' q))
theorem o_special (pc' : Nat) (A : List Value) (W : Wk p l e R s m args below meth c Z y bytes maxL ret T h ce sl sf) {y' : MethodName} {bytes' : ByteArray} {maxL' : Nat} {rm : Room} {sf' : List Addr} {Q : Option Value → Heap → Prop} {stk : List Value} {i : Nat} {a : Addr} (w1 : (Jvm.Cond.methodLink y.cls i y').before a0 Z = true) (w2 : (Jvm.Cond.instanceMethod y').before a0 Z = true) (wz : (Jvm.Cond.initialized y'.cls).before a0 Z = true) (wc : (Jvm.Cond.code y' bytes' maxL' none).before a0 Z = true) (C : Con l Z y' bytes' maxL' none rm (.ref a :: A).toArray h sf' Q) {ps : List FieldType} {rt : Option FieldType} (hpd : parseMethodDescriptor y'.desc = some ⟨ps, rt⟩) (hd : decode bytes pc = .ok (.invokespecial i, 3)) (hst : stk = A.reverse ++ .ref a :: S) (hsub : ∀ x ∈ sf', x ∈ sf) (K : ∀ T' h' v, Wk p l e R s m args below meth c Z y bytes maxL ret T' h' (ce + rm.cells) (sl + rm.slots) sf → Q v h' → h.size ≤ h'.size → Go p e below G T' (mkF m pc' L (v.toList ++ S))) (hin : y'.name = "<init>" := by rfl) (hsz : L.size = maxL := by rfl) (hln : A.length = ps.length := by rfl) (hy : y'.cls ≠ "java/lang/invoke/MethodHandle" ∧ y'.cls ≠ "java/lang/invoke/VarHandle" := by decide) (hf : rm.frames + 1 ≤ R.frames := by decide) (hl : (S.map fun v => v.category).sum + (maxL' + 11) + rm.locals ≤ R.locals := by decide) (hc : ce + rm.cells ≤ R.cells := by decide) (hs : sl + rm.slots ≤ R.slots := by decide) (hp : pc + 3 = pc' := by rfl) : Go p e below G T (mkF m pc L stk) := by
  subst hp
  obtain ⟨vm0, k0, locs, X, eT, hS, hk, hZ, hown, hF, hN, hC, hsf, hE, ⟨a1, hEL⟩, hx, hby, hml, hnm, hrt, hlk⟩ := W
  subst hby
  obtain ⟨v, vm₁, ⟨T', locs', ce', sl'⟩, hW1, X', hS', hge, ⟨Lc, hQ, hFr, e1, e2, e3, hC', hE', hN'⟩, st⟩ := X.specialBackS hx (y := y') hin hown (mvT hZ w1) (mvT hZ w2) (mvT hZ wc) hy (own_back (Wd := (S.map fun v => v.category).sum) C hZ wc wz hf hl hEL hC.1 fun x hx => hsf x (hsub x hx)) (g := mkF m pc L stk) rfl (by rw [hml]; exact hsz) (Steps.refl _) (a := a) (argsL := A) (rest := S) (lenOf hpd hln) hst (by show 2 * 0 + _ ≤ _; omega) hd (fun _ _ => ⟨rfl, eT, hc, hs⟩)
  dsimp only [Pt.U, Pt.locs, Pt.cells, Pt.slots] at X' hS' hge hQ e1 e2 e3 hC' hE' hN' st
  subst e1 e2 e3 eT
  refine (K T' T'.heap v ⟨T'.vm, T'.heap.size, locs ++ Lc, X', rfl, hS.trans hS' (Nat.le_trans hk hge), Nat.le_refl _, State.Warmed39.trans (t := s.setVm vm0) hZ hS'.1, by rw [show (s.setVm T'.vm).vm = T'.vm from rfl, hS'.1.alike.findClass]; exact hown, hF.app hFr, fun q => ?_, hC.trans hC', fun x hx => ⟨Nat.lt_of_lt_of_le (hsf x hx).1 hge, hC'.safe (hsf x hx).1 (hsf x hx).2⟩, hE', ⟨a1, hEL⟩, hx, rfl, hml, hnm, hrt, hlk⟩ hQ hge).st fun u k => st.trans k
  exact State.WarmedH.trans (t := s.setVm vm0) (hN q) (State.WarmedH.trans (s := s.setVm vm0) (t := T.setVm vm₁) hW1 (hN' q))
theorem o_virtual (pc' : Nat) (A : List Value) (W : Wk p l e R s m args below meth c Z y bytes maxL ret T h ce sl sf) {y' : MethodName} {bytes' : ByteArray} {maxL' : Nat} {ret' : Option FieldType} {rm : Room} {sf' : List Addr} {Q : Option Value → Heap → Prop} {stk : List Value} {i : Nat} {a : Addr} {C0 : String} (w1 : (Jvm.Cond.methodLink y.cls i y').before a0 Z = true) (w2 : (Jvm.Cond.declares y').before a0 Z = true) (w3 : (Jvm.Cond.selects C0 y' y').before a0 Z = true) (w4 : (Jvm.Cond.instanceMethod y').before a0 Z = true) (wz : (Jvm.Cond.initialized y'.cls).before a0 Z = true) (wc : (Jvm.Cond.code y' bytes' maxL' ret').before a0 Z = true) (E : Exa Z h a C0) (C : Con l Z y' bytes' maxL' ret' rm (.ref a :: A).toArray h sf' Q) {ps : List FieldType} {rt : Option FieldType} (hpd : parseMethodDescriptor y'.desc = some ⟨ps, rt⟩) (hd : decode bytes pc = .ok (.invokevirtual i, 3)) (hst : stk = A.reverse ++ .ref a :: S) (hsub : ∀ x ∈ sf', x ∈ sf) (K : ∀ T' h' v, Wk p l e R s m args below meth c Z y bytes maxL ret T' h' (ce + rm.cells) (sl + rm.slots) sf → Q v h' → h.size ≤ h'.size → Go p e below G T' (mkF m pc' L (v.toList ++ S))) (hsz : L.size = maxL := by rfl) (hln : A.length = ps.length := by rfl) (hy : y'.cls ≠ "java/lang/invoke/MethodHandle" ∧ y'.cls ≠ "java/lang/invoke/VarHandle" := by decide) (hf : rm.frames + 1 ≤ R.frames := by decide) (hl : (S.map fun v => v.category).sum + (maxL' + 11) + rm.locals ≤ R.locals := by decide) (hc : ce + rm.cells ≤ R.cells := by decide) (hs : sl + rm.slots ≤ R.slots := by decide) (hp : pc + 3 = pc' := by rfl) : Go p e below G T (mkF m pc L stk) := by
  subst hp
  obtain ⟨vm0, k0, locs, X, eT, hS, hk, hZ, hown, hF, hN, hC, hsf, hE, ⟨a1, hEL⟩, hx, hby, hml, hnm, hrt, hlk⟩ := W
  subst hby
  obtain ⟨cB, kB, qa, qb, qc⟩ := isOf (T := T) hZ eT E
  obtain ⟨v, vm₁, ⟨T', locs', ce', sl'⟩, hW1, X', hS', hge, ⟨Lc, hQ, hFr, e1, e2, e3, hC', hE', hN'⟩, st⟩ := X.virtualBackS hx (y := y') (z := y') hown (mvT hZ w1) (mvT hZ w2) (notFace_of_selects (args := args) (mvT hZ w3)) (mvT hZ w3) (mvT hZ w4) hy (own_back (Wd := (S.map fun v => v.category).sum) C hZ wc wz hf hl hEL hC.1 fun x hx => hsf x (hsub x hx)) qa qc (g := mkF m pc L stk) rfl (by rw [hml]; exact hsz) (Steps.refl _) (argsL := A) (rest := S) (lenOf hpd hln) hst (by show 2 * 0 + _ ≤ _; omega) hd (fun _ _ => ⟨rfl, eT, hc, hs⟩)
  dsimp only [Pt.U, Pt.locs, Pt.cells, Pt.slots] at X' hS' hge hQ e1 e2 e3 hC' hE' hN' st
  subst e1 e2 e3 eT
  refine (K T' T'.heap v ⟨T'.vm, T'.heap.size, locs ++ Lc, X', rfl, hS.trans hS' (Nat.le_trans hk hge), Nat.le_refl _, State.Warmed39.trans (t := s.setVm vm0) hZ hS'.1, by rw [show (s.setVm T'.vm).vm = T'.vm from rfl, hS'.1.alike.findClass]; exact hown, hF.app hFr, fun q => ?_, hC.trans hC', fun x hx => ⟨Nat.lt_of_lt_of_le (hsf x hx).1 hge, hC'.safe (hsf x hx).1 (hsf x hx).2⟩, hE', ⟨a1, hEL⟩, hx, rfl, hml, hnm, hrt, hlk⟩ hQ hge).st fun u k => st.trans k
  exact State.WarmedH.trans (t := s.setVm vm0) (hN q) (State.WarmedH.trans (s := s.setVm vm0) (t := T.setVm vm₁) hW1 (hN' q))
theorem o_virtualUp (pc' : Nat) (A : List Value) (W : Wk p l e R s m args below meth c Z y bytes maxL ret T h ce sl sf) {y' : MethodName} {bytes' : ByteArray} {maxL' : Nat} {ret' : Option FieldType} {rm : Room} {sf' : List Addr} {Q : Option Value → Heap → Prop} {stk : List Value} {i : Nat} {a : Addr} {C0 owner : String} {x' : MethodName} (w1 : (Jvm.Cond.methodLink y.cls i x').before a0 Z = true) (w2 : (Jvm.Cond.sameMethod x'.cls owner x'.name x'.desc).before a0 Z = true) (w5 : (Jvm.Cond.declares ⟨owner, x'.name, x'.desc⟩).before a0 Z = true) (w3 : (Jvm.Cond.selects C0 x' y').before a0 Z = true) (w4 : (Jvm.Cond.instanceMethod y').before a0 Z = true) (wz : (Jvm.Cond.initialized y'.cls).before a0 Z = true) (wc : (Jvm.Cond.code y' bytes' maxL' ret').before a0 Z = true) (E : Exa Z h a C0) (C : Con l Z y' bytes' maxL' ret' rm (.ref a :: A).toArray h sf' Q) {ps : List FieldType} {rt : Option FieldType} (hpd : parseMethodDescriptor x'.desc = some ⟨ps, rt⟩) (hd : decode bytes pc = .ok (.invokevirtual i, 3)) (hst : stk = A.reverse ++ .ref a :: S) (hsub : ∀ x ∈ sf', x ∈ sf) (K : ∀ T' h' v, Wk p l e R s m args below meth c Z y bytes maxL ret T' h' (ce + rm.cells) (sl + rm.slots) sf → Q v h' → h.size ≤ h'.size → Go p e below G T' (mkF m pc' L (v.toList ++ S))) (hsz : L.size = maxL := by rfl) (hln : A.length = ps.length := by rfl) (hy : owner ≠ "java/lang/invoke/MethodHandle" ∧ owner ≠ "java/lang/invoke/VarHandle" := by decide) (hf : rm.frames + 1 ≤ R.frames := by decide) (hl : (S.map fun v => v.category).sum + (maxL' + 11) + rm.locals ≤ R.locals := by decide) (hc : ce + rm.cells ≤ R.cells := by decide) (hs : sl + rm.slots ≤ R.slots := by decide) (hp : pc + 3 = pc' := by rfl) : Go p e below G T (mkF m pc L stk) := by
  subst hp
  obtain ⟨vm0, k0, locs, X, eT, hS, hk, hZ, hown, hF, hN, hC, hsf, hE, ⟨a1, hEL⟩, hx, hby, hml, hnm, hrt, hlk⟩ := W
  subst hby
  obtain ⟨cB, kB, qa, qb, qc⟩ := isOf (T := T) hZ eT E
  obtain ⟨v, vm₁, ⟨T', locs', ce', sl'⟩, hW1, X', hS', hge, ⟨Lc, hQ, hFr, e1, e2, e3, hC', hE', hN'⟩, st⟩ := X.virtualBackUpS hx (x := x') (y := y') (owner := owner) hown (mvT hZ w1) (mvT hZ w2) (mvT hZ w5) hy (mvT hZ w3) (mvT hZ w4) (own_back (Wd := (S.map fun v => v.category).sum) C hZ wc wz hf hl hEL hC.1 fun x hx => hsf x (hsub x hx)) qa qc (g := mkF m pc L stk) rfl (by rw [hml]; exact hsz) (Steps.refl _) (argsL := A) (rest := S) (lenOf hpd hln) hst (by show 2 * 0 + _ ≤ _; omega) hd (fun _ _ => ⟨rfl, eT, hc, hs⟩)
  dsimp only [Pt.U, Pt.locs, Pt.cells, Pt.slots] at X' hS' hge hQ e1 e2 e3 hC' hE' hN' st
  subst e1 e2 e3 eT
  refine (K T' T'.heap v ⟨T'.vm, T'.heap.size, locs ++ Lc, X', rfl, hS.trans hS' (Nat.le_trans hk hge), Nat.le_refl _, State.Warmed39.trans (t := s.setVm vm0) hZ hS'.1, by rw [show (s.setVm T'.vm).vm = T'.vm from rfl, hS'.1.alike.findClass]; exact hown, hF.app hFr, fun q => ?_, hC.trans hC', fun x hx => ⟨Nat.lt_of_lt_of_le (hsf x hx).1 hge, hC'.safe (hsf x hx).1 (hsf x hx).2⟩, hE', ⟨a1, hEL⟩, hx, rfl, hml, hnm, hrt, hlk⟩ hQ hge).st fun u k => st.trans k
  exact State.WarmedH.trans (t := s.setVm vm0) (hN q) (State.WarmedH.trans (s := s.setVm vm0) (t := T.setVm vm₁) hW1 (hN' q))
end Own
theorem own_sx {Z : State} {args a0 : Array Value} {C n d K : String} (hx : (Jvm.Cond.exactly (Jvm.Term.static C n d) K).value args Z none Z [] = some true) (hi : (Jvm.Cond.initialized C).before a0 Z = true) (hl : (Jvm.Cond.laysStatic C n d).before a0 Z = true) : ∃ a, Sta Z Z.heap C n d (.ref a) ∧ Exa Z Z.heap a K ∧ (Jvm.Term.static C n d).eval args Z none [] Z = some (.ref a) := by
  obtain ⟨a', c', cell, k, e1, -⟩ := Cond.exactly_spec (Cond.before_iff.mpr hx)
  exact ⟨a', Sta.start (args := a0) e1 (Or.inr ⟨hi, hl⟩), Exa.start e1 hx, e1⟩
theorem own_fx {Z : State} {args : Array Value} {t : Jvm.Term} {a : Addr} {O n d : String} {v : Value} {u : Jvm.Term} (e : t.eval args Z none [] Z = some (.ref a)) (hu : u.eval args Z none [] Z = some v) (hx : (Jvm.Cond.eq (Jvm.Term.field t O n d) u).value args Z none Z [] = some true) (hk : ∀ w, Kin v w → Kin w v → (Jvm.Cond.eq (Jvm.Term.field t O n d) u).value args Z none Z [] = some true → (Jvm.Term.field t O n d).eval args Z none [] Z = some w → w = v) : Fld Z Z.heap a O n d v := by
  obtain ⟨x, y, e1, e2, k1, k2⟩ := cmp_v (Or.inl hx)
  cases hu.symm.trans e2
  have q := hk x k2 k1 hx e1
  subst q
  refine Fld.start ?_
  have e3 := e1
  simp only [Jvm.Term.eval, e, Option.bind_eq_bind, Option.bind_some] at e3
  exact e3
theorem own_fi {Z : State} {args : Array Value} {t : Jvm.Term} {a : Addr} {O n d : String} {k : Int32} (e : t.eval args Z none [] Z = some (.ref a)) (hx : (Jvm.Cond.eq (Jvm.Term.field t O n d) (Jvm.Term.int k)).value args Z none Z [] = some true) : Fld Z Z.heap a O n d (.int k) := by
  refine own_fx e (Jvm.Term.int_eval k) hx fun w k1 k2 h1 h2 => ?_
  obtain ⟨z, rfl⟩ := k1
  simp [Jvm.Cond.value, h2, Jvm.Term.int_eval] at h1
  rw [h1]
theorem d1_0 : decode method_2_code 0 = .ok (.iload_n 0, 1) := by decide +kernel
theorem d1_1 : decode method_2_code 1 = .ok (.ldc 7, 2) := by decide +kernel
theorem d1_3 : decode method_2_code 3 = .ok (.iand, 1) := by decide +kernel
theorem d1_4 : decode method_2_code 4 = .ok (.iconst 3, 1) := by decide +kernel
theorem d1_5 : decode method_2_code 5 = .ok (.irem, 1) := by decide +kernel
theorem d1_6 : decode method_2_code 6 = .ok (.istore_n 1, 1) := by decide +kernel
theorem d1_7 : decode method_2_code 7 = .ok (.iload_n 1, 1) := by decide +kernel
theorem d1_8 : decode method_2_code 8 = .ok (.ifCond .ne 7, 3) := by decide +kernel
theorem d1_11 : decode method_2_code 11 = .ok (.getstatic 8, 3) := by decide +kernel
theorem d1_14 : decode method_2_code 14 = .ok (.areturn, 1) := by decide +kernel
theorem d1_15 : decode method_2_code 15 = .ok (.iload_n 1, 1) := by decide +kernel
theorem d1_16 : decode method_2_code 16 = .ok (.iconst 1, 1) := by decide +kernel
theorem d1_17 : decode method_2_code 17 = .ok (.if_icmp .ne 7, 3) := by decide +kernel
theorem d1_20 : decode method_2_code 20 = .ok (.getstatic 14, 3) := by decide +kernel
theorem d1_23 : decode method_2_code 23 = .ok (.areturn, 1) := by decide +kernel
theorem d1_24 : decode method_2_code 24 = .ok (.getstatic 17, 3) := by decide +kernel
theorem d1_27 : decode method_2_code 27 = .ok (.areturn, 1) := by decide +kernel
theorem d2_0 : decode prog_23_method_5_code 0 = .ok (.aload_n 0, 1) := by decide +kernel
theorem d2_1 : decode prog_23_method_5_code 1 = .ok (.getstatic 7, 3) := by decide +kernel
theorem d2_4 : decode prog_23_method_5_code 4 = .ok (.if_acmp .ne 16, 3) := by decide +kernel
theorem d2_7 : decode prog_23_method_5_code 7 = .ok (.aload_n 1, 1) := by decide +kernel
theorem d2_8 : decode prog_23_method_5_code 8 = .ok (.getstatic 7, 3) := by decide +kernel
theorem d2_11 : decode prog_23_method_5_code 11 = .ok (.if_acmp .ne 9, 3) := by decide +kernel
theorem d2_14 : decode prog_23_method_5_code 14 = .ok (.getstatic 7, 3) := by decide +kernel
theorem d2_17 : decode prog_23_method_5_code 17 = .ok (.goto 6, 3) := by decide +kernel
theorem d2_20 : decode prog_23_method_5_code 20 = .ok (.getstatic 10, 3) := by decide +kernel
theorem d2_23 : decode prog_23_method_5_code 23 = .ok (.areturn, 1) := by decide +kernel
theorem pn0 : plainName "com/example/markov_reachability/markovreachability/TypeArithmeticPinLaw" = true := by first | (simp [plainName, overriddenIn]; done) | decide +kernel
theorem pn1 : plainName "com/example/markov_reachability/markovreachability/Expression$Type" = true := by first | (simp [plainName, overriddenIn]; done) | decide +kernel
theorem pd0 : parseMethodDescriptor "(I)Lcom/example/markov_reachability/markovreachability/Expression$Type;" = some ⟨[.int], some (.object "com/example/markov_reachability/markovreachability/Expression$Type")⟩ := by decide +kernel
theorem pd1 : parseMethodDescriptor "(Lcom/example/markov_reachability/markovreachability/Expression$Type;Lcom/example/markov_reachability/markovreachability/Expression$Type;)Lcom/example/markov_reachability/markovreachability/Expression$Type;" = some ⟨[(.object "com/example/markov_reachability/markovreachability/Expression$Type"), (.object "com/example/markov_reachability/markovreachability/Expression$Type")], some (.object "com/example/markov_reachability/markovreachability/Expression$Type")⟩ := by decide +kernel
def own_pk (k : Int32) (a0 : Addr) (a1 : Addr) (a2 : Addr) : Addr := if k = 0 then a0 else if k = 1 then a1 else a2
def own_ar (x z a1 a2 : Addr) : Addr := if x = a1 ∧ z = a1 then a1 else a2
theorem own_pk_in (k : Int32) (a0 : Addr) (a1 : Addr) (a2 : Addr) : own_pk k a0 a1 a2 = a0 ∨ own_pk k a0 a1 a2 = a1 ∨ own_pk k a0 a1 a2 = a2 := by
  unfold own_pk; split <;> (try split) <;> simp
set_option maxRecDepth 65536
set_option maxHeartbeats 4000000
theorem con_pick (l : Launch) (Z : State) (b0 : Array Value) (hw : ∀ d ∈ tables_1, d.before b0 Z = true) (k : Int32) (a0 : Addr) (a1 : Addr) (a2 : Addr) (S0 : Sta Z Z.heap "com/example/markov_reachability/markovreachability/Expression$Type" "BOOL" "Lcom/example/markov_reachability/markovreachability/Expression$Type;" (.ref a0)) (S1 : Sta Z Z.heap "com/example/markov_reachability/markovreachability/Expression$Type" "INT" "Lcom/example/markov_reachability/markovreachability/Expression$Type;" (.ref a1)) (S2 : Sta Z Z.heap "com/example/markov_reachability/markovreachability/Expression$Type" "REAL" "Lcom/example/markov_reachability/markovreachability/Expression$Type;" (.ref a2)) (h0 : Heap) (hE : Ext Z.heap h0) : Con l Z (⟨"com/example/markov_reachability/markovreachability/TypeArithmeticPinLaw", "pick", "(I)Lcom/example/markov_reachability/markovreachability/Expression$Type;"⟩ : MethodName) method_2_code 2 (some (.object "com/example/markov_reachability/markovreachability/Expression$Type")) ({ frames := 0, cells := 0, slots := 0, locals := 0 } : Room) #[(.int k)] h0 [] (QV fun w h => w = .ref (own_pk ((k &&& (2147483647 : Int32)) % (3 : Int32)) a0 a1 a2) ∧ h0 = h) := by
  refine Con.of (plainFor_of_name pn0) hE ⟨b0, EW.nil⟩ all0 (L0 := #[.val (.int k), .unset]) (fun m => by first | (simp [entryFrame, mkF, argsToLocals, Value.category]; done) | rfl) ?_
  intro p e s m args below meth c T W
  refine o_iloadN 1 W d1_0 rfl ?_
  refine o_ldcI 3 W (tw hw 4) d1_1 ?_
  refine o_iand 4 W d1_3 ?_
  refine o_iconst 5 W (3) d1_4 (by first | rfl | decide) ?_
  refine o_irem 6 W d1_5 (by decide) ?_
  refine o_istoreN 7 W #[.val (.int k), .val (.int ((k &&& (2147483647 : Int32)) % (3 : Int32)))] d1_6 rfl ?_
  refine o_iloadN 8 W d1_7 rfl ?_
  refine o_ifne 15 11 W d1_8 (fun c8 => ?_) (fun c8 => ?_)
  · refine o_iloadN 16 W d1_15 rfl ?_
    refine o_iconst 17 W (1) d1_16 (by first | rfl | decide) ?_
    refine o_icne 24 20 W d1_17 (fun c17 => ?_) (fun c17 => ?_)
    · refine o_getS 27 W (tw hw 15) S2 d1_24 fun T W => ?_
      exact o_aret W rfl rfl rfl d1_27 (⟨by simp [own_pk, c8, c17], rfl⟩)
    · refine o_getS 23 W (tw hw 16) S1 d1_20 fun T W => ?_
      exact o_aret W rfl rfl rfl d1_23 (⟨by simp [own_pk, c8, c17], rfl⟩)
  · refine o_getS 14 W (tw hw 5) S0 d1_11 fun T W => ?_
    exact o_aret W rfl rfl rfl d1_14 (⟨by simp [own_pk, c8], rfl⟩)
theorem con_ari (l : Launch) (Z : State) (b0 : Array Value) (hw : ∀ d ∈ tables_1, d.before b0 Z = true) (x z : Addr) (a0 : Addr) (a1 : Addr) (a2 : Addr) (S0 : Sta Z Z.heap "com/example/markov_reachability/markovreachability/Expression$Type" "BOOL" "Lcom/example/markov_reachability/markovreachability/Expression$Type;" (.ref a0)) (S1 : Sta Z Z.heap "com/example/markov_reachability/markovreachability/Expression$Type" "INT" "Lcom/example/markov_reachability/markovreachability/Expression$Type;" (.ref a1)) (S2 : Sta Z Z.heap "com/example/markov_reachability/markovreachability/Expression$Type" "REAL" "Lcom/example/markov_reachability/markovreachability/Expression$Type;" (.ref a2)) (h0 : Heap) (hE : Ext Z.heap h0) : Con l Z (⟨"com/example/markov_reachability/markovreachability/Expression$Type", "arithmetic", "(Lcom/example/markov_reachability/markovreachability/Expression$Type;Lcom/example/markov_reachability/markovreachability/Expression$Type;)Lcom/example/markov_reachability/markovreachability/Expression$Type;"⟩ : MethodName) prog_23_method_5_code 2 (some (.object "com/example/markov_reachability/markovreachability/Expression$Type")) ({ frames := 0, cells := 0, slots := 0, locals := 0 } : Room) #[(.ref x), (.ref z)] h0 [] (QV fun w h => w = .ref (own_ar x z a1 a2) ∧ h0 = h) := by
  refine Con.of (plainFor_of_name pn1) hE ⟨b0, EW.nil⟩ all0 (L0 := #[.val (.ref x), .val (.ref z)]) (fun m => by first | (simp [entryFrame, mkF, argsToLocals, Value.category]; done) | rfl) ?_
  intro p e s m args below meth c T W
  refine o_aloadN 1 W d2_0 rfl rfl ?_
  refine o_getS 4 W (tw hw 11) S1 d2_1 fun T W => ?_
  refine o_acne 20 7 W rfl rfl d2_4 (fun c4 => ?_) (fun c4 => ?_)
  · refine o_getS 23 W (tw hw 13) S2 d2_20 fun T W => ?_
    exact o_aret W rfl rfl rfl d2_23 (⟨by simp only [Value.ref.injEq] at c4; simp [own_ar, c4], rfl⟩)
  · refine o_aloadN 8 W d2_7 rfl rfl ?_
    refine o_getS 11 W (tw hw 11) S1 d2_8 fun T W => ?_
    refine o_acne 20 14 W rfl rfl d2_11 (fun c11 => ?_) (fun c11 => ?_)
    · refine o_getS 23 W (tw hw 13) S2 d2_20 fun T W => ?_
      exact o_aret W rfl rfl rfl d2_23 (⟨by simp only [Value.ref.injEq] at c4 c11; simp [own_ar, c4, c11], rfl⟩)
    · refine o_getS 17 W (tw hw 11) S1 d2_14 fun T W => ?_
      refine o_goto 23 W d2_17 ?_
      exact o_aret W rfl rfl rfl d2_23 (⟨by simp only [Value.ref.injEq] at c4 c11; simp [own_ar, c4, c11], rfl⟩)
theorem con_law (l : Launch) (Z : State) (b0 : Array Value) (hw : ∀ d ∈ tables_1, d.before b0 Z = true) (x0 x1 : Int32) (a0 : Addr) (a1 : Addr) (a2 : Addr) (S0 : Sta Z Z.heap "com/example/markov_reachability/markovreachability/Expression$Type" "BOOL" "Lcom/example/markov_reachability/markovreachability/Expression$Type;" (.ref a0)) (S1 : Sta Z Z.heap "com/example/markov_reachability/markovreachability/Expression$Type" "INT" "Lcom/example/markov_reachability/markovreachability/Expression$Type;" (.ref a1)) (S2 : Sta Z Z.heap "com/example/markov_reachability/markovreachability/Expression$Type" "REAL" "Lcom/example/markov_reachability/markovreachability/Expression$Type;" (.ref a2)) (n01 : a0 ≠ a1) (n02 : a0 ≠ a2) (n12 : a1 ≠ a2) : Con l Z x code maxLocals ret room_1 #[(.int x0), (.int x1)] Z.heap [] (QV fun w h => w = .int 1) := by
  refine Con.of (plainFor_of_name pn0) (own_ext_refl _) ⟨b0, EW.nil⟩ all0 (L0 := #[.val (.int x0), .val (.int x1), .unset, .unset, .unset, .unset]) (fun m => by first | (simp [entryFrame, mkF, argsToLocals, Value.category, maxLocals]; done) | rfl) ?_
  intro p e s m args below meth c T W
  refine o_iloadN 1 W at_0 rfl ?_
  refine o_static 4 [(.int x0)] W (tw hw 0) (tw hw 1) (tw hw 2) (tw hw 3) (con_pick l Z b0 hw x0 a0 a1 a2 S0 S1 S2 _ W.old) pd0 at_1 rfl all0 (fun T h v W qq gg => ?_)
  obtain ⟨_, rfl, rfl, rfl⟩ := qq
  show Go p e below _ _ (mkF m 4 #[.val (.int x0), .val (.int x1), .unset, .unset, .unset, .unset] [(.ref (own_pk ((x0 &&& (2147483647 : Int32)) % (3 : Int32)) a0 a1 a2))])
  refine o_astoreN 5 W #[.val (.int x0), .val (.int x1), .val (.ref (own_pk ((x0 &&& (2147483647 : Int32)) % (3 : Int32)) a0 a1 a2)), .unset, .unset, .unset] at_4 rfl rfl ?_
  refine o_iloadN 6 W at_5 rfl ?_
  refine o_static 9 [(.int x1)] W (tw hw 0) (tw hw 1) (tw hw 2) (tw hw 3) (con_pick l Z b0 hw x1 a0 a1 a2 S0 S1 S2 _ W.old) pd0 at_6 rfl all0 (fun T h v W qq gg => ?_)
  obtain ⟨_, rfl, rfl, rfl⟩ := qq
  show Go p e below _ _ (mkF m 9 #[.val (.int x0), .val (.int x1), .val (.ref (own_pk ((x0 &&& (2147483647 : Int32)) % (3 : Int32)) a0 a1 a2)), .unset, .unset, .unset] [(.ref (own_pk ((x1 &&& (2147483647 : Int32)) % (3 : Int32)) a0 a1 a2))])
  refine o_astoreN 10 W #[.val (.int x0), .val (.int x1), .val (.ref (own_pk ((x0 &&& (2147483647 : Int32)) % (3 : Int32)) a0 a1 a2)), .val (.ref (own_pk ((x1 &&& (2147483647 : Int32)) % (3 : Int32)) a0 a1 a2)), .unset, .unset] at_9 rfl rfl ?_
  refine o_aloadN 11 W at_10 rfl rfl ?_
  refine o_aloadN 12 W at_11 rfl rfl ?_
  refine o_static 15 [(.ref (own_pk ((x0 &&& (2147483647 : Int32)) % (3 : Int32)) a0 a1 a2)), (.ref (own_pk ((x1 &&& (2147483647 : Int32)) % (3 : Int32)) a0 a1 a2))] W (tw hw 8) (tw hw 9) (tw hw 6) (tw hw 10) (con_ari l Z b0 hw (own_pk ((x0 &&& (2147483647 : Int32)) % (3 : Int32)) a0 a1 a2) (own_pk ((x1 &&& (2147483647 : Int32)) % (3 : Int32)) a0 a1 a2) a0 a1 a2 S0 S1 S2 _ W.old) pd1 at_12 rfl all0 (fun T h v W qq gg => ?_)
  obtain ⟨_, rfl, rfl, rfl⟩ := qq
  show Go p e below _ _ (mkF m 15 #[.val (.int x0), .val (.int x1), .val (.ref (own_pk ((x0 &&& (2147483647 : Int32)) % (3 : Int32)) a0 a1 a2)), .val (.ref (own_pk ((x1 &&& (2147483647 : Int32)) % (3 : Int32)) a0 a1 a2)), .unset, .unset] [(.ref (own_ar (own_pk ((x0 &&& (2147483647 : Int32)) % (3 : Int32)) a0 a1 a2) (own_pk ((x1 &&& (2147483647 : Int32)) % (3 : Int32)) a0 a1 a2) a1 a2))])
  have hX := own_pk_in ((x0 &&& (2147483647 : Int32)) % (3 : Int32)) a0 a1 a2
  have hY := own_pk_in ((x1 &&& (2147483647 : Int32)) % (3 : Int32)) a0 a1 a2
  generalize (own_pk ((x0 &&& (2147483647 : Int32)) % (3 : Int32)) a0 a1 a2) = u at hX ⊢
  generalize (own_pk ((x1 &&& (2147483647 : Int32)) % (3 : Int32)) a0 a1 a2) = v at hY ⊢
  show Go p e below _ _ (mkF m 15 #[.val (.int x0), .val (.int x1), .val (.ref u), .val (.ref v), .unset, .unset] [(.ref (own_ar u v a1 a2))])
  refine o_astore 17 W #[.val (.int x0), .val (.int x1), .val (.ref u), .val (.ref v), .val (.ref (own_ar u v a1 a2)), .unset] at_15 rfl rfl ?_
  refine o_aloadN 18 W at_17 rfl rfl ?_
  refine o_getS 21 W (tw hw 15) S2 at_18 fun T W => ?_
  refine o_aceq 31 24 W rfl rfl at_21 (fun c21 => ?_) (fun c21 => ?_)
  · refine o_getS 34 W (tw hw 15) S2 at_31 fun T W => ?_
    refine o_astore 36 W #[.val (.int x0), .val (.int x1), .val (.ref u), .val (.ref v), .val (.ref (own_ar u v a1 a2)), .val (.ref a2)] at_34 rfl rfl ?_
    refine o_goto 66 W at_36 ?_
    refine o_aload 68 W at_66 rfl rfl ?_
    refine o_aload 70 W at_68 rfl rfl ?_
    have q : own_ar u v a1 a2 = a2 := by
      simp only [Value.ref.injEq] at c21
      rcases hX with rfl | rfl | rfl <;> rcases hY with rfl | rfl | rfl <;> simp_all [own_ar]
    refine o_acne 77 73 W rfl rfl at_70 (fun c70 => ?_) (fun c70 => ?_)
    · exact absurd (by rw [q]) c70
    · refine o_iconst 74 W (1) at_73 (by first | rfl | decide) ?_
      refine o_goto 78 W at_74 ?_
      exact o_nret W (1 : Int32) (by simp) (by decide) at_78 (rfl)
  · refine o_aloadN 25 W at_24 rfl rfl ?_
    refine o_getS 28 W (tw hw 15) S2 at_25 fun T W => ?_
    refine o_acne 39 31 W rfl rfl at_28 (fun c28 => ?_) (fun c28 => ?_)
    · refine o_aloadN 40 W at_39 rfl rfl ?_
      refine o_getS 43 W (tw hw 5) S0 at_40 fun T W => ?_
      refine o_aceq 53 46 W rfl rfl at_43 (fun c43 => ?_) (fun c43 => ?_)
      · refine o_getS 56 W (tw hw 15) S2 at_53 fun T W => ?_
        refine o_astore 58 W #[.val (.int x0), .val (.int x1), .val (.ref u), .val (.ref v), .val (.ref (own_ar u v a1 a2)), .val (.ref a2)] at_56 rfl rfl ?_
        refine o_goto 66 W at_58 ?_
        refine o_aload 68 W at_66 rfl rfl ?_
        refine o_aload 70 W at_68 rfl rfl ?_
        have q : own_ar u v a1 a2 = a2 := by
          simp only [Value.ref.injEq] at c21 c28 c43
          rcases hX with rfl | rfl | rfl <;> rcases hY with rfl | rfl | rfl <;> simp_all [own_ar]
        refine o_acne 77 73 W rfl rfl at_70 (fun c70 => ?_) (fun c70 => ?_)
        · exact absurd (by rw [q]) c70
        · refine o_iconst 74 W (1) at_73 (by first | rfl | decide) ?_
          refine o_goto 78 W at_74 ?_
          exact o_nret W (1 : Int32) (by simp) (by decide) at_78 (rfl)
      · refine o_aloadN 47 W at_46 rfl rfl ?_
        refine o_getS 50 W (tw hw 5) S0 at_47 fun T W => ?_
        refine o_acne 61 53 W rfl rfl at_50 (fun c50 => ?_) (fun c50 => ?_)
        · refine o_getS 64 W (tw hw 16) S1 at_61 fun T W => ?_
          refine o_astore 66 W #[.val (.int x0), .val (.int x1), .val (.ref u), .val (.ref v), .val (.ref (own_ar u v a1 a2)), .val (.ref a1)] at_64 rfl rfl ?_
          refine o_aload 68 W at_66 rfl rfl ?_
          refine o_aload 70 W at_68 rfl rfl ?_
          have q : own_ar u v a1 a2 = a1 := by
            simp only [Value.ref.injEq] at c21 c28 c43 c50
            rcases hX with rfl | rfl | rfl <;> rcases hY with rfl | rfl | rfl <;> simp_all [own_ar]
          refine o_acne 77 73 W rfl rfl at_70 (fun c70 => ?_) (fun c70 => ?_)
          · exact absurd (by rw [q]) c70
          · refine o_iconst 74 W (1) at_73 (by first | rfl | decide) ?_
            refine o_goto 78 W at_74 ?_
            exact o_nret W (1 : Int32) (by simp) (by decide) at_78 (rfl)
        · refine o_getS 56 W (tw hw 15) S2 at_53 fun T W => ?_
          refine o_astore 58 W #[.val (.int x0), .val (.int x1), .val (.ref u), .val (.ref v), .val (.ref (own_ar u v a1 a2)), .val (.ref a2)] at_56 rfl rfl ?_
          refine o_goto 66 W at_58 ?_
          refine o_aload 68 W at_66 rfl rfl ?_
          refine o_aload 70 W at_68 rfl rfl ?_
          have q : own_ar u v a1 a2 = a2 := by
            simp only [Value.ref.injEq] at c21 c28 c43 c50
            rcases hX with rfl | rfl | rfl <;> rcases hY with rfl | rfl | rfl <;> simp_all [own_ar]
          refine o_acne 77 73 W rfl rfl at_70 (fun c70 => ?_) (fun c70 => ?_)
          · exact absurd (by rw [q]) c70
          · refine o_iconst 74 W (1) at_73 (by first | rfl | decide) ?_
            refine o_goto 78 W at_74 ?_
            exact o_nret W (1 : Int32) (by simp) (by decide) at_78 (rfl)
    · refine o_getS 34 W (tw hw 15) S2 at_31 fun T W => ?_
      refine o_astore 36 W #[.val (.int x0), .val (.int x1), .val (.ref u), .val (.ref v), .val (.ref (own_ar u v a1 a2)), .val (.ref a2)] at_34 rfl rfl ?_
      refine o_goto 66 W at_36 ?_
      refine o_aload 68 W at_66 rfl rfl ?_
      refine o_aload 70 W at_68 rfl rfl ?_
      have q : own_ar u v a1 a2 = a2 := by
        simp only [Value.ref.injEq] at c21 c28
        rcases hX with rfl | rfl | rfl <;> rcases hY with rfl | rfl | rfl <;> simp_all [own_ar]
      refine o_acne 77 73 W rfl rfl at_70 (fun c70 => ?_) (fun c70 => ?_)
      · exact absurd (by rw [q]) c70
      · refine o_iconst 74 W (1) at_73 (by first | rfl | decide) ?_
        refine o_goto 78 W at_74 ?_
        exact o_nret W (1 : Int32) (by simp) (by decide) at_78 (rfl)
set_option maxRecDepth 65536 in
set_option maxHeartbeats 40000000 in
theorem comes_1 {Post : Tables → Env → Array Value → State → Outcome → State → Prop} (hpost : ∀ tb e args s v u, (limb_1_1.after args s (.returned v) u = true ∧ limb_1_2.after args s (.returned v) u = true ∧ True) → FrameEnd s (.returned v) u (Jvm.fieldLocs frame_1_writes args s ++ Jvm.arrayLocs frame_1_arrays args s ++ Jvm.staticLocs frame_1_statics s) 0 0 → Post tb e args s (.returned v) u) :
    ArmFor flags0 classFile x code maxLocals ret World_1 tables_1 room_1 Calls_1 rest_1 Pre_1 Post := by
  intro l hfl _ _ p e ha hc hk s m args below hf hA hF happ hP
  obtain ⟨hcalls, hrest, hpre⟩ := hP
  obtain ⟨-, -, -, hnamed, -, -, -, hat⟩ := (Spec.applies_iff hf).mp happ
  obtain ⟨hg, hn⟩ := and_e (Cond.before_iff.mp (show (Jvm.Cond.and given_1 narrow_1).before args s = true from hpre))
  obtain ⟨hg0, hg⟩ := and_e hg
  obtain ⟨w0, w1, rfl⟩ : ∃ w0 w1 : Value, args = #[w0, w1] := by
    have hs : args.size = 2 := by simpa [Cond.value, given_1] using hg0
    obtain ⟨L⟩ := args
    match L, hs with
    | [w0, w1], _ => exact ⟨w0, w1, rfl⟩
  have hw := fun d (hd : d ∈ tables_1) => atoms_spec (ws := Jvm.Cond.code x code maxLocals ret :: tables_1) hat d (List.mem_cons_of_mem _ hd)
  have hfit : Fit s := fun {y c} hc i hi => by
    obtain ⟨ha, rfl⟩ := Array.getElem?_eq_some_iff.mp hc
    have q := List.all_eq_true.mp ((Array.all_eq_true_iff_forall_mem.mp hF) _ (Array.getElem_mem ha)) i (List.mem_range.mpr hi)
    simpa [Array.getElem?_eq_getElem hi] using q
  obtain ⟨hg1, hg⟩ := and_e hg
  obtain ⟨p0, e0⟩ := is_v hg1
  obtain rfl : w0 = (.int p0) := Option.some.inj e0
  have hg2 := hg
  obtain ⟨p1, e1⟩ := is_v hg2
  obtain rfl : w1 = (.int p1) := Option.some.inj e1
  obtain ⟨hx0, hn⟩ := and_e hn
  obtain ⟨hx1, hn⟩ := and_e hn
  obtain ⟨hf0, hn⟩ := and_e hn
  obtain ⟨hf1, hn⟩ := and_e hn
  obtain ⟨hx2, hf2⟩ := and_e hn
  obtain ⟨a0, S0, E0, v0⟩ := own_sx hx0 (tw hw 6) (tw hw 7)
  have F0 := own_fi v0 hf0
  obtain ⟨a1, S1, E1, v1⟩ := own_sx hx1 (tw hw 6) (tw hw 12)
  have F1 := own_fi v1 hf1
  obtain ⟨a2, S2, E2, v2⟩ := own_sx hx2 (tw hw 6) (tw hw 14)
  have F2 := own_fi v2 hf2
  have R := con_law l s _ hw p0 p1 a0 a1 a2 S0 S1 S2 (F0.ne F1 (by decide)) (F0.ne F2 (by decide)) (F1.ne F2 (by decide))
  have HCH : CHv s own_EL s.vm s.heap := fun p hp => by cases hp
  obtain ⟨n, o, h1, h2, h3, _, Lc, rfl, ⟨_, rfl, rfl⟩, N, hCH, hEx, hNr, hq⟩ := R tables_1 p e ha hc hk s m _ below hf ((Spec.applies_iff_loose hf).mp happ).1 ⟨rfl, State.Warmed39.refl s, rfl, HCH, all0⟩ trivial
  refine ⟨n, _, h1, h2, h3, hpost _ _ _ _ _ _ ⟨Cond.after_iff.mpr rfl, Cond.after_iff.mpr (eq_i res_at (Term.int_eval (1)) rfl), trivial⟩ ⟨hq.1, hNr trivial, (hq.2.2.2.sift fun y hy => Or.inr (N y hy)).mono (by decide) (by decide)⟩⟩
theorem main_1_1 : Claimed_1_1 := comes_1 fun _ _ _ _ _ _ h hF => ⟨h.1, hF⟩
theorem main_1_2 : Claimed_1_2 := comes_1 fun _ _ _ _ _ _ h hF => ⟨h.2.1, hF⟩
end Jvm.Pilot.@@N@@
namespace Jvm.Pilot.@@N@@
open Jvm Jvm.ClassFile Sem Op Lib Jvm.Free Jvm.Stand Jvm.Pilot.@@N@@.Jvm.D
/-! MADE BY PROGRAM (witnessworld.py) out of the Statement's table words and the real class files: 12 classes; the members and pool entries that the words name. The judged class is class 1, her method 2. -/
namespace start1
open Jvm.ClassFile
def u (s : String) : CpInfo := .utf8 (stringToUtf16 s)
/-- a pool by its gaps: so many unusable entries, then the entry; so many at the end -/
def gap : Nat → List CpInfo → List CpInfo
  | 0, r => r
  | n + 1, r => .unusable :: gap n r
def poolList (es : List (Nat × CpInfo)) (last : Nat) : List CpInfo := es.foldr (fun e r => gap e.1 (e.2 :: r)) (gap last [])
def pool (es : List (Nat × CpInfo)) (last : Nat) : Array CpInfo := ⟨poolList es last⟩
def fileOf (pool : Array CpInfo) (this : Nat) (attrs : Array Attribute := #[]) (ms : Array MethodInfo := #[]) (fl : Nat := 33) (sup : Nat := 0) (ifs : Array Nat := #[]) (fds : Array FieldInfo := #[]) : ClassFile where
  minorVersion := 0
  majorVersion := 65
  constantPool := pool
  accessFlags := fl
  thisClass := this
  superClass := sup
  interfaces := ifs
  fields := fds
  methods := ms
  attributes := attrs
def plain (name : String) (sup : Option ClassId) : Class where
  name := name
  kind := .ordinary
  loader := none
  accessFlags := 33
  super := sup
  interfaces := #[]
  cf := none
  fields := #[]
  methods := #[]
  instanceTypes := #[]
  staticTypes := #[]
  resolved := #[]
  callSites := []
  init := .initialized
  statics := none
  mirror := none

def pool0 : Array CpInfo := pool [(5, u "<init>"), (0, u "()V"), (1, .class_ 10), (1, u "java/lang/Object")] 113

def k0m0 : Method := { name := "<init>", desc := "()V", sig := { parameters := [], returnType := none }, accessFlags := 1, code := none }
/-- java/lang/Object -/
def k0 : Class := { plain "java/lang/Object" none with
  accessFlags := 33
  interfaces := #[]
  cf := some (fileOf pool0 8 #[] #[{ accessFlags := 1, nameIndex := 5, descriptorIndex := 6, attributes := #[] }] 33 0 #[] #[])
  fields := #[]
  methods := #[k0m0]
  instanceTypes := #[]
  staticTypes := #[]
  resolved := Array.replicate 124 none
  statics := none }

def pool1 : Array CpInfo := pool [(2, .class_ 4), (1, u "java/lang/Object"), (0, u "<init>"), (0, u "()V"), (0, .integer 2147483647), (0, .fieldref 9 10), (0, .class_ 11), (0, .nameAndType 12 13), (0, u "com/example/markov_reachability/markovreachability/Expression$Type"), (0, u "BOOL"), (0, u "Lcom/example/markov_reachability/markovreachability/Expression$Type;"), (0, .fieldref 9 15), (0, .nameAndType 16 13), (0, u "INT"), (0, .fieldref 9 18), (0, .nameAndType 19 13), (0, u "REAL"), (0, .methodref 21 22), (0, .class_ 23), (0, .nameAndType 24 25), (0, u "com/example/markov_reachability/markovreachability/TypeArithmeticPinLaw"), (0, u "pick"), (0, u "(I)Lcom/example/markov_reachability/markovreachability/Expression$Type;"), (0, .methodref 9 27), (0, .nameAndType 28 29), (0, u "arithmetic"), (0, u "(Lcom/example/markov_reachability/markovreachability/Expression$Type;Lcom/example/markov_reachability/markovreachability/Expression$Type;)Lcom/example/markov_reachability/markovreachability/Expression$Type;"), (3, u "law"), (0, u "(II)Z")] 6

def k1m0 : Method := { name := "<init>", desc := "()V", sig := { parameters := [], returnType := none }, accessFlags := 1, code := none }
def k1c1 : Code := { maxStack := 2, maxLocals := 2, code := method_2_code, exceptionTable := #[], attributes := #[] }
def k1m1 : Method := { name := "pick", desc := "(I)Lcom/example/markov_reachability/markovreachability/Expression$Type;", sig := { parameters := [.int], returnType := some (.object "com/example/markov_reachability/markovreachability/Expression$Type") }, accessFlags := 10, code := some k1c1 }
def k1c2 : Code := { maxStack := 2, maxLocals := 6, code := code, exceptionTable := #[], attributes := #[] }
def k1m2 : Method := { name := "law", desc := "(II)Z", sig := { parameters := [.int, .int], returnType := some .boolean }, accessFlags := 9, code := some k1c2 }
/-- com/example/markov_reachability/markovreachability/TypeArithmeticPinLaw -/
def k1 : Class := { plain "com/example/markov_reachability/markovreachability/TypeArithmeticPinLaw" (some 0) with
  accessFlags := 49
  interfaces := #[]
  cf := some (fileOf pool1 21 #[] #[{ accessFlags := 1, nameIndex := 5, descriptorIndex := 6, attributes := #[] }, { accessFlags := 10, nameIndex := 24, descriptorIndex := 25, attributes := #[] }, { accessFlags := 9, nameIndex := 33, descriptorIndex := 34, attributes := #[] }] 49 2 #[] #[])
  fields := #[]
  methods := #[k1m0, k1m1, k1m2]
  instanceTypes := #[]
  staticTypes := #[]
  resolved := Array.replicate 41 none
  statics := none }

def pool2 : Array CpInfo := pool [(1, .class_ 2), (0, u "java/lang/constant/Constable"), (0, .class_ 4), (0, u "java/lang/Object")] 6

/-- java/lang/constant/Constable -/
def k2 : Class := { plain "java/lang/constant/Constable" (some 0) with
  accessFlags := 1537
  interfaces := #[]
  cf := some (fileOf pool2 1 #[] #[] 1537 3 #[] #[])
  fields := #[]
  methods := #[]
  instanceTypes := #[]
  staticTypes := #[]
  resolved := Array.replicate 11 none
  statics := none }

def pool3 : Array CpInfo := pool [(1, .class_ 2), (0, u "java/lang/Comparable"), (0, .class_ 4), (0, u "java/lang/Object")] 7

/-- java/lang/Comparable -/
def k3 : Class := { plain "java/lang/Comparable" (some 0) with
  accessFlags := 1537
  interfaces := #[]
  cf := some (fileOf pool3 1 #[] #[] 1537 3 #[] #[])
  fields := #[]
  methods := #[]
  instanceTypes := #[]
  staticTypes := #[]
  resolved := Array.replicate 12 none
  statics := none }

def pool4 : Array CpInfo := pool [(1, .class_ 2), (0, u "java/io/Serializable"), (0, .class_ 4), (0, u "java/lang/Object")] 2

/-- java/io/Serializable -/
def k4 : Class := { plain "java/io/Serializable" (some 0) with
  accessFlags := 1537
  interfaces := #[]
  cf := some (fileOf pool4 1 #[] #[] 1537 3 #[] #[])
  fields := #[]
  methods := #[]
  instanceTypes := #[]
  staticTypes := #[]
  resolved := Array.replicate 7 none
  statics := none }

def pool5 : Array CpInfo := pool [(2, .class_ 4), (1, u "java/lang/Enum"), (0, u "name"), (0, u "Ljava/lang/String;"), (2, u "ordinal"), (0, u "I"), (1, .class_ 14), (1, u "java/lang/Object"), (4, u "hash"), (86, .class_ 108), (1, u "java/lang/Enum$EnumDesc"), (2, .class_ 112), (0, u "java/lang/constant/Constable"), (0, .class_ 114), (0, u "java/lang/Comparable"), (0, .class_ 116), (0, u "java/io/Serializable")] 87

/-- java/lang/Enum -/
def k5 : Class := { plain "java/lang/Enum" (some 0) with
  accessFlags := 1057
  interfaces := #[2, 3, 4]
  cf := some (fileOf pool5 2 #[.nestMembers #[106]] #[] 1057 12 #[111, 113, 115] #[{ accessFlags := 18, nameIndex := 5, descriptorIndex := 6, attributes := #[] }, { accessFlags := 18, nameIndex := 9, descriptorIndex := 10, attributes := #[] }, { accessFlags := 2, nameIndex := 19, descriptorIndex := 10, attributes := #[] }])
  fields := #[{ name := "name", type := (.object "java/lang/String"), accessFlags := 18, slot := 0, constantValue := 0 }, { name := "ordinal", type := .int, accessFlags := 18, slot := 1, constantValue := 0 }, { name := "hash", type := .int, accessFlags := 2, slot := 2, constantValue := 0 }]
  methods := #[]
  instanceTypes := #[(.object "java/lang/String"), .int, .int]
  staticTypes := #[]
  resolved := Array.replicate 204 none
  statics := none }

def pool6 : Array CpInfo := pool [(1, .class_ 2), (0, u "com/example/markov_reachability/markovreachability/Expression$Type"), (2, u "BOOL"), (0, u "Lcom/example/markov_reachability/markovreachability/Expression$Type;"), (0, .fieldref 1 8), (0, .nameAndType 9 6), (0, u "INT"), (0, .fieldref 1 11), (0, .nameAndType 12 6), (0, u "REAL"), (2, u "$VALUES"), (0, u "[Lcom/example/markov_reachability/markovreachability/Expression$Type;"), (6, .class_ 25), (1, u "java/lang/Enum"), (8, u "description"), (0, u "Ljava/lang/String;"), (26, u "arithmetic"), (0, u "(Lcom/example/markov_reachability/markovreachability/Expression$Type;Lcom/example/markov_reachability/markovreachability/Expression$Type;)Lcom/example/markov_reachability/markovreachability/Expression$Type;"), (8, .class_ 73), (0, u "com/example/markov_reachability/markovreachability/Expression")] 2

def k6c0 : Code := { maxStack := 2, maxLocals := 2, code := prog_23_method_5_code, exceptionTable := #[], attributes := #[] }
def k6m0 : Method := { name := "arithmetic", desc := "(Lcom/example/markov_reachability/markovreachability/Expression$Type;Lcom/example/markov_reachability/markovreachability/Expression$Type;)Lcom/example/markov_reachability/markovreachability/Expression$Type;", sig := { parameters := [(.object "com/example/markov_reachability/markovreachability/Expression$Type"), (.object "com/example/markov_reachability/markovreachability/Expression$Type")], returnType := some (.object "com/example/markov_reachability/markovreachability/Expression$Type") }, accessFlags := 8, code := some k6c0 }
/-- com/example/markov_reachability/markovreachability/Expression$Type -/
def k6 : Class := { plain "com/example/markov_reachability/markovreachability/Expression$Type" (some 5) with
  accessFlags := 16432
  interfaces := #[]
  cf := some (fileOf pool6 1 #[.nestHost 72] #[{ accessFlags := 8, nameIndex := 62, descriptorIndex := 63, attributes := #[] }] 16432 23 #[] #[{ accessFlags := 16409, nameIndex := 5, descriptorIndex := 6, attributes := #[] }, { accessFlags := 16409, nameIndex := 9, descriptorIndex := 6, attributes := #[] }, { accessFlags := 16409, nameIndex := 12, descriptorIndex := 6, attributes := #[] }, { accessFlags := 18, nameIndex := 34, descriptorIndex := 35, attributes := #[] }, { accessFlags := 4122, nameIndex := 15, descriptorIndex := 16, attributes := #[] }])
  fields := #[{ name := "BOOL", type := (.object "com/example/markov_reachability/markovreachability/Expression$Type"), accessFlags := 16409, slot := 0, constantValue := 0 }, { name := "INT", type := (.object "com/example/markov_reachability/markovreachability/Expression$Type"), accessFlags := 16409, slot := 1, constantValue := 0 }, { name := "REAL", type := (.object "com/example/markov_reachability/markovreachability/Expression$Type"), accessFlags := 16409, slot := 2, constantValue := 0 }, { name := "description", type := (.object "java/lang/String"), accessFlags := 18, slot := 3, constantValue := 0 }, { name := "$VALUES", type := (.array (.object "com/example/markov_reachability/markovreachability/Expression$Type")), accessFlags := 4122, slot := 3, constantValue := 0 }]
  methods := #[k6m0]
  instanceTypes := #[(.object "java/lang/String"), .int, .int, (.object "java/lang/String")]
  staticTypes := #[(.object "com/example/markov_reachability/markovreachability/Expression$Type"), (.object "com/example/markov_reachability/markovreachability/Expression$Type"), (.object "com/example/markov_reachability/markovreachability/Expression$Type"), (.array (.object "com/example/markov_reachability/markovreachability/Expression$Type"))]
  resolved := Array.replicate 76 none
  statics := some 0 }

def pool7 : Array CpInfo := pool [(1, u "java/lang/Cloneable"), (0, .class_ 1), (0, u "java/lang/Object"), (0, .class_ 3)] 3

/-- java/lang/Cloneable -/
def k7 : Class := { plain "java/lang/Cloneable" (some 0) with
  accessFlags := 1537
  interfaces := #[]
  cf := some (fileOf pool7 2 #[] #[] 1537 4 #[] #[])
  fields := #[]
  methods := #[]
  instanceTypes := #[]
  staticTypes := #[]
  resolved := Array.replicate 8 none
  statics := none }

/-- the primitive byte -/
def k8 : Class := { plain "byte" none with kind := .primitive 'B', accessFlags := 0x411 }
/-- [B -/
def k9 : Class := { plain "[B" (some 0) with kind := .array 8 .byte, interfaces := #[7, 4], accessFlags := 1041 }

/-- the primitive int -/
def k10 : Class := { plain "int" none with kind := .primitive 'I', accessFlags := 0x411 }
/-- [I -/
def k11 : Class := { plain "[I" (some 0) with kind := .array 10 .int, interfaces := #[7, 4], accessFlags := 1041 }

def heap : Heap := #[{ cls := 6, slots := #[.ref 1, .ref 2, .ref 3, .null], vm := .statics 6 },
  { cls := 6, slots := #[.null, .int 0, .int 0, .null], vm := .none },
  { cls := 6, slots := #[.null, .int 1, .int 0, .null], vm := .none },
  { cls := 6, slots := #[.null, .int 2, .int 0, .null], vm := .none }]
def classes : Array Class := #[k0, k1, k2, k3, k4, k5, k6, k7, k8, k9, k10, k11]
def interned : List (Array UInt16 × Addr) := []
def slotsUsed : Nat := 16
def theMethod : MethodId := ⟨1, 2⟩
def args0 : Array Value := #[.int 5, .int 7]
def aboutOver (below : List Frame) : State where
  vm := { classes := classes, interned := interned.toArray }
  heap := heap
  slotsUsed := slotsUsed
  threads := #[{ frames := .invoking theMethod args0 :: below }]
def below0 : List Frame := [.native { method := ⟨0, 0⟩, args := #[] }]
def about1 : State := aboutOver below0
def p0 : Program := .bare "" "" ""
def e0 : Env := launch0.env 0 0 0
theorem w_frames : about1.frames = Frame.invoking theMethod args0 :: below0 := rfl
set_option maxRecDepth 65536 in
theorem w_args : argsFit about1.vm theMethod args0 = true := by decide +kernel
set_option maxRecDepth 65536 in
theorem w_heap : heapFits about1 = true := by decide +kernel
set_option maxRecDepth 65536 in
theorem w_runnable : about1.curStatus? = some .runnable := by decide +kernel
set_option maxRecDepth 65536 in
theorem w_alone : about1.alone = true := by decide +kernel
set_option maxRecDepth 65536 in
theorem w_named : about1.methodNamed? x = some theMethod := by decide +kernel
set_option maxRecDepth 65536 in
theorem w_hears : about1.hears theMethod below0 = true := by decide +kernel
set_option maxRecDepth 65536 in
theorem w_ripe : about1.ripe theMethod args0 below0 = true := by decide +kernel
theorem w_running : about1.status = .running := rfl
set_option maxRecDepth 65536 in
theorem w_room : about1.hasRoom e0.platform room_1 = true :=
  launch0.hasRoom_least _ room_1 (by decide +kernel) (by decide +kernel) (by decide +kernel) (by decide +kernel) (by decide +kernel) (by decide +kernel)
theorem allAtoms_all (ts : List Jvm.Cond) (a : Array Jvm.Value) (st : Jvm.State) : (allAtoms ts).before a st = ts.all (fun c => c.before a st) := by
  induction ts with
  | nil => rfl
  | cons c t ih =>
    show (Jvm.Cond.and c (allAtoms t)).before a st = _
    rw [Jvm.Cond.before_and, ih, List.all_cons]
def words1 : List Jvm.Cond := Jvm.Cond.code x code maxLocals ret :: tables_1
/-- a 'code' word, met by the world's own term for the bytes: nothing is compared byte by byte -/
theorem code_word {y : MethodName} {bytes : ByteArray} {mx : Nat} {rt : Option FieldType} {a : Array Value} {s : State} {m : MethodId} {meth : Method} {c : Code} (h1 : s.methodNamed? y = some m) (h2 : s.vm.method? m = some meth) (h3 : meth.code = some c) (h4 : c.code = bytes)
    (h5 : (c.maxLocals == mx && c.exceptionTable.isEmpty && decide (c.maxStack ≤ mostOperands) && decide (meth.sig.returnType = rt) && !meth.locks && decide (parseMethodDescriptor y.desc = some meth.sig)) = true) : (Jvm.Cond.code y bytes mx rt).before a s = true := by
  simp only [Bool.and_eq_true, beq_iff_eq, Bool.not_eq_true', decide_eq_true_eq] at h5
  obtain ⟨⟨⟨⟨⟨g1, g2⟩, g3⟩, g4⟩, g5⟩, g6⟩ := h5
  simp [Cond.before, Cond.holds, Cond.value, h1, h2, h3, h4, g1, g2, g3, g4, g5, g6]
def isCode : Jvm.Cond → Bool
  | .code _ _ _ _ => true
  | _ => false
theorem all_split {L : List Jvm.Cond} {P : Jvm.Cond → Bool} (h1 : L.all (fun c => isCode c || P c) = true) (h2 : ∀ c ∈ L.filter isCode, P c = true) : L.all P = true := by
  refine List.all_eq_true.mpr fun c hc => ?_
  have h := List.all_eq_true.mp h1 c hc
  rcases Bool.eq_false_or_eq_true (isCode c) with hi | hi
  · exact h2 c (List.mem_filter.mpr ⟨hc, hi⟩)
  · simpa [hi] using h
set_option maxRecDepth 65536 in
theorem w_c0 : (Jvm.Cond.code x code maxLocals ret).before args0 about1 = true := code_word (m := ⟨1, 2⟩) (meth := k1m2) (c := k1c2) (by decide +kernel) rfl rfl rfl (by decide +kernel)
set_option maxRecDepth 65536 in
theorem w_c1 : (Jvm.Cond.code ({ cls := "com/example/markov_reachability/markovreachability/TypeArithmeticPinLaw", name := "pick", desc := "(I)Lcom/example/markov_reachability/markovreachability/Expression$Type;" } : Jvm.MethodName) method_2_code (2 : Nat) (Option.some (Jvm.ClassFile.FieldType.object "com/example/markov_reachability/markovreachability/Expression$Type"))).before args0 about1 = true := code_word (m := ⟨1, 1⟩) (meth := k1m1) (c := k1c1) (by decide +kernel) rfl rfl rfl (by decide +kernel)
set_option maxRecDepth 65536 in
theorem w_c2 : (Jvm.Cond.code ({ cls := "com/example/markov_reachability/markovreachability/Expression$Type", name := "arithmetic", desc := "(Lcom/example/markov_reachability/markovreachability/Expression$Type;Lcom/example/markov_reachability/markovreachability/Expression$Type;)Lcom/example/markov_reachability/markovreachability/Expression$Type;" } : Jvm.MethodName) prog_23_method_5_code (2 : Nat) (Option.some (Jvm.ClassFile.FieldType.object "com/example/markov_reachability/markovreachability/Expression$Type"))).before args0 about1 = true := code_word (m := ⟨6, 0⟩) (meth := k6m0) (c := k6c0) (by decide +kernel) rfl rfl rfl (by decide +kernel)
def codes1 : List Jvm.Cond := [Jvm.Cond.code x code maxLocals ret, Jvm.Cond.code ({ cls := "com/example/markov_reachability/markovreachability/TypeArithmeticPinLaw", name := "pick", desc := "(I)Lcom/example/markov_reachability/markovreachability/Expression$Type;" } : Jvm.MethodName) method_2_code (2 : Nat) (Option.some (Jvm.ClassFile.FieldType.object "com/example/markov_reachability/markovreachability/Expression$Type")), Jvm.Cond.code ({ cls := "com/example/markov_reachability/markovreachability/Expression$Type", name := "arithmetic", desc := "(Lcom/example/markov_reachability/markovreachability/Expression$Type;Lcom/example/markov_reachability/markovreachability/Expression$Type;)Lcom/example/markov_reachability/markovreachability/Expression$Type;" } : Jvm.MethodName) prog_23_method_5_code (2 : Nat) (Option.some (Jvm.ClassFile.FieldType.object "com/example/markov_reachability/markovreachability/Expression$Type"))]
set_option maxRecDepth 65536 in
theorem codes_eq : words1.filter isCode = codes1 := rfl
theorem w_codes : ∀ c ∈ words1.filter isCode, c.before args0 about1 = true := by
  rw [codes_eq]
  intro c hc
  simp only [codes1, List.mem_cons, List.not_mem_nil, or_false] at hc
  rcases hc with rfl | rfl | rfl
  · exact w_c0
  · exact w_c1
  · exact w_c2
set_option maxRecDepth 65536 in
theorem w_t1 : words1.all (fun c => isCode c || c.before args0 about1) = true := by decide +kernel
theorem w_tables : (allAtoms (Jvm.Cond.code x code maxLocals ret :: tables_1)).before args0 about1 = true := by
  rw [allAtoms_all]
  show words1.all (fun c => c.before args0 about1) = true
  refine all_split ?_ w_codes
  rw [w_t1]
set_option maxRecDepth 65536 in
theorem w_case : (Jvm.Cond.and given_1 narrow_1).before args0 about1 = true := by decide +kernel
theorem w_applies : (headSpec (Jvm.Cond.code x code maxLocals ret :: tables_1) room_1).applies x e0.platform about1 = true :=
  (Spec.applies_iff w_frames).mpr ⟨w_running, w_runnable, w_alone, w_named, w_hears, w_ripe, w_room, w_tables⟩
theorem atStart : AtStart classFile x code maxLocals ret World_1 tables_1 room_1 Calls_1 rest_1 Pre_1 launch0 p0 e0 about1 theMethod args0 below0 :=
  ⟨lists_1, trivial, launch0.admits_env _ _ _, launch0.least_env, fairChoices_fair.cas, fairChoices_fair.clock, w_frames, w_args, w_heap, w_applies, trivial, trivial, w_case⟩
end start1
theorem witness_1 : WitnessClaimed_1 := ⟨start1.p0, start1.e0, start1.about1, start1.theMethod, start1.args0, start1.below0, start1.atStart⟩
end Jvm.Pilot.@@N@@
