import JvmDerived
import JvmDerived.Pilot.@@N@@Statement
import JvmDerived.Pilot.@@N@@Code
set_option linter.unusedVariables false
set_option linter.unusedSimpArgs false
namespace Jvm.Pilot.@@N@@
open Jvm Jvm.ClassFile Sem Op Lib Jvm.Free Jvm.Stand Jvm.LawKit Jvm.RoadKit Bundle Jvm.Pilot.@@N@@.Jvm.D
theorem tw {Z : State} {a0 : Array Value} (hw : ∀ d ∈ tables_1, d.before a0 Z = true) (i : Nat) {d : Jvm.Cond} (hd : tables_1[i]? = some d := by rfl) : d.before a0 Z = true := hw d (List.mem_of_getElem? hd)
abbrev own_Nar : Prop := True
abbrev own_EL : List (String × Nat) := []
section Own
variable {p : Program} {l : Launch} {e : Env} {R : Room} {s : State} {m : MethodId} {args : Array Value} {below : List Frame} {meth : Method} {c : Code} {Z : State} {a0 : Array Value} {y : MethodName} {bytes : ByteArray} {maxL : Nat} {ret : Option FieldType} {T : State} {h : Heap} {ce sl : Nat} {sf : List Addr} {G : State → Prop} {pc : Nat} {L : Array Slot} {S : List Value}
/-- where a walk stands: the state T, its heap h, what has been made, the cells that no constant books -/
def Wk (p : Program) (l : Launch) (e : Env) (R : Room) (s : State) (m : MethodId) (args : Array Value) (below : List Frame) (meth : Method) (c : Code) (Z : State) (y : MethodName) (bytes : ByteArray) (maxL : Nat) (ret : Option FieldType) (T : State) (h : Heap) (ce sl : Nat) (sf : List Addr) : Prop :=
  ∃ (vm0 : Vm) (k0 : Nat) (locs : List Loc), Stand p l e R (s.setVm vm0) m args below meth c T locs ce sl ∧ T.heap = h ∧ s.Since vm0 k0 ∧ k0 ≤ h.size ∧ Z.Warmed39 (s.setVm vm0).vm ∧ (s.setVm vm0).vm.findClass y.cls = some m.cls ∧ Fr Z.heap.size locs ∧ (own_Nar → s.WarmedH vm0) ∧ CHr Z own_EL s.vm s.heap vm0 h ∧ (∀ x ∈ sf, x < h.size ∧ Safe Z own_EL vm0 h x) ∧ Ext Z.heap h ∧ (∃ a1, EW Z a1 own_EL) ∧ p.tables.exec = Jvm.exec ∧ c.code = bytes ∧ c.maxLocals = maxL ∧ meth.name = y.name ∧ meth.sig.returnType = ret ∧ meth.locks = false
def Go (p : Program) (e : Env) (below : List Frame) (G : State → Prop) (T : State) (g : JFrame) : Prop := ∃ u, Steps p.tables e below (T.setTop g) u ∧ G u
theorem Go.st {T' : State} {g g' : JFrame} (K : Go p e below G T' g') (f : ∀ u, Steps p.tables e below (T'.setTop g') u → Steps p.tables e below (T.setTop g) u) : Go p e below G T g := by
  obtain ⟨u, k, q⟩ := K
  exact ⟨u, f u k, q⟩
theorem Go.cut {g g' : JFrame} (A : Go p e below G T g' → Go p e below G T g) (B : Go p e below G T g') : Go p e below G T g := A B
theorem Go.eq {g g' : JFrame} (K : Go p e below G T g') (q : g' = g) : Go p e below G T g := q ▸ K
theorem Go.cutW {g g' : JFrame} (W : Wk p l e R s m args below meth c Z y bytes maxL ret T h ce sl sf) (A : (∀ T', Wk p l e R s m args below meth c Z y bytes maxL ret T' h ce sl sf → Go p e below G T' g') → Go p e below G T g) (B : ∀ T', Wk p l e R s m args below meth c Z y bytes maxL ret T' h ce sl sf → Go p e below G T' g') : Go p e below G T g := A B
theorem own_ext_refl (h : Heap) : Ext h h := ⟨Nat.le_refl _, fun _ _ q => q⟩
theorem own_ext_trans {h h' h2 : Heap} (A : Ext h h') (B : Ext h' h2) : Ext h h2 := ⟨Nat.le_trans A.1 B.1, fun x c q => B.2 x c (A.2 x c q)⟩
theorem own_ext_wr {h0 h h' : Heap} {a : Addr} {i : Nat} {v : Value} (E : Ext h0 h) (W : Wr h h' a i v) (q : h0.size ≤ a) : Ext h0 h' := by
  refine ⟨Nat.le_trans E.1 (Nat.le_of_eq W.size.symm), fun x cc r => ?_⟩
  obtain ⟨c', e1, -, -, -, e5, -⟩ := wr_at W (E.2 x cc r)
  have hlt := (Array.getElem?_eq_some_iff.mp r).1
  rw [e1, e5 (Nat.ne_of_lt (Nat.lt_of_lt_of_le hlt q))]
theorem own_ext_keep {h0 h h' : Heap} {a : Addr} (E : Ext h0 h) (K : Keep h h' [a]) (q : h0.size ≤ a) : Ext h0 h' := ⟨Nat.le_trans E.1 K.1, fun x cc r => K.2.1 x cc (E.2 x cc r) fun z => by
  have hlt := (Array.getElem?_eq_some_iff.mp r).1
  rw [List.mem_singleton.mp z] at hlt; omega⟩
theorem own_ns_root {O K : String} {n : Nat} (w : (Jvm.Cond.noSuperclass O).before a0 Z = true) (wk : (Jvm.Cond.instantiable K n).before a0 Z = true) (hn : O ≠ K) : NS Z O K := by
  obtain ⟨c, k, h1, h2, h3, -, -⟩ := Cond.noSuperclass_spec w
  obtain ⟨t, kt, g1, -⟩ := Cond.instantiable_spec wk
  have ne := ids_ne h1 g1 hn
  refine ⟨c, t, h1, g1, fun fuel => ?_⟩
  cases fuel with
  | zero => rfl
  | succ f => simp [Vm.isSubclassAux, ne, h2, h3]
theorem own_ns_no {C S' K : String} {n : Nat} (w : (Jvm.Cond.superclass C S').before a0 Z = true) (wk : (Jvm.Cond.instantiable K n).before a0 Z = true) (N : NS Z C K) (hn : C ≠ K) : ∃ c t, Z.vm.findClass C = some c ∧ Z.vm.findClass K = some t ∧ Z.vm.assignable c t = false := by
  obtain ⟨c, t, h0, g0, n3⟩ := N
  obtain ⟨p, k, kp, h1, h2, h3, h4, h5, -, h7⟩ := Cond.superclass_spec h0 w
  obtain ⟨t', kt, g1, g2, g3, g4, -⟩ := Cond.instantiable_spec wk
  cases g0.symm.trans g1
  have g7 : kt.isInterface = false := by cases q : kt.isInterface <;> simp_all
  have ne := ids_ne h0 g0 hn
  refine ⟨c, t, h0, g0, ?_⟩
  show Z.vm.assignableAux (255 + 1) c t = false
  simp [Vm.assignableAux, ne, h2, g2, h5, g3, g7, Vm.isSubclass, n3]
theorem Wk.old (W : Wk p l e R s m args below meth c Z y bytes maxL ret T h ce sl sf) : Ext Z.heap h := by obtain ⟨vm0, k0, locs, X, eT, hS, hk, hZ, hown, hF, hN, hC, hsf, hE, ⟨a1, hEL⟩, hx, hby, hml, hnm, hrt, hlk⟩ := W; exact hE
theorem Wk.mono (W : Wk p l e R s m args below meth c Z y bytes maxL ret T h ce sl sf) {ce' sl' : Nat} (q : ce ≤ ce') (r : sl ≤ sl') : Wk p l e R s m args below meth c Z y bytes maxL ret T h ce' sl' sf := by
  obtain ⟨vm0, k0, locs, X, eT, hS, hk, hZ, hown, hF, hN, hC, hsf, hE, ⟨a1, hEL⟩, hx, hby, hml, hnm, hrt, hlk⟩ := W
  exact ⟨vm0, k0, locs, X.mono q r, eT, hS, hk, hZ, hown, hF, hN, hC, hsf, hE, ⟨a1, hEL⟩, hx, hby, hml, hnm, hrt, hlk⟩
theorem Wk.drop (W : Wk p l e R s m args below meth c Z y bytes maxL ret T h ce sl sf) {sf' : List Addr} (q : ∀ x ∈ sf', x ∈ sf) : Wk p l e R s m args below meth c Z y bytes maxL ret T h ce sl sf' := by
  obtain ⟨vm0, k0, locs, X, eT, hS, hk, hZ, hown, hF, hN, hC, hsf, hE, ⟨a1, hEL⟩, hx, hby, hml, hnm, hrt, hlk⟩ := W
  exact ⟨vm0, k0, locs, X, eT, hS, hk, hZ, hown, hF, hN, hC, fun x hx => hsf x (q x hx), hE, ⟨a1, hEL⟩, hx, hby, hml, hnm, hrt, hlk⟩
theorem o_iloadN (pc' : Nat) (W : Wk p l e R s m args below meth c Z y bytes maxL ret T h ce sl sf) {k : Fin 4} {v : Int32} (hd : decode bytes pc = .ok (.iload_n k, 1)) (hl : L[k.val]? = some (.val (.int v))) (K : Go p e below G T (mkF m pc' L (.int v :: S))) (hp : pc + 1 = pc' := by rfl) : Go p e below G T (mkF m pc L (S)) := by
  subst hp
  obtain ⟨vm0, k0, locs, X, eT, hS, hk, hZ, hown, hF, hN, hC, hsf, hE, ⟨a1, hEL⟩, hx, hby, hml, hnm, hrt, hlk⟩ := W
  subst hby
  exact K.st fun u k => XS.iloadN X.here hx rfl hd hl k
theorem o_iload (pc' : Nat) (W : Wk p l e R s m args below meth c Z y bytes maxL ret T h ce sl sf) {k : Nat} {v : Int32} (hd : decode bytes pc = .ok (.iload k, 2)) (hl : L[k]? = some (.val (.int v))) (K : Go p e below G T (mkF m pc' L (.int v :: S))) (hp : pc + 2 = pc' := by rfl) : Go p e below G T (mkF m pc L (S)) := by
  subst hp
  obtain ⟨vm0, k0, locs, X, eT, hS, hk, hZ, hown, hF, hN, hC, hsf, hE, ⟨a1, hEL⟩, hx, hby, hml, hnm, hrt, hlk⟩ := W
  subst hby
  exact K.st fun u k => XS.iload X.here hx rfl hd hl k
theorem o_lloadN (pc' : Nat) (W : Wk p l e R s m args below meth c Z y bytes maxL ret T h ce sl sf) {k : Fin 4} {v : Int64} (hd : decode bytes pc = .ok (.lload_n k, 1)) (hl : L[k.val]? = some (.val (.long v))) (K : Go p e below G T (mkF m pc' L (.long v :: S))) (hp : pc + 1 = pc' := by rfl) : Go p e below G T (mkF m pc L (S)) := by
  subst hp
  obtain ⟨vm0, k0, locs, X, eT, hS, hk, hZ, hown, hF, hN, hC, hsf, hE, ⟨a1, hEL⟩, hx, hby, hml, hnm, hrt, hlk⟩ := W
  subst hby
  exact K.st fun u k => XT.lloadN X.here hx rfl hd hl k
theorem o_lload (pc' : Nat) (W : Wk p l e R s m args below meth c Z y bytes maxL ret T h ce sl sf) {k : Nat} {v : Int64} (hd : decode bytes pc = .ok (.lload k, 2)) (hl : L[k]? = some (.val (.long v))) (K : Go p e below G T (mkF m pc' L (.long v :: S))) (hp : pc + 2 = pc' := by rfl) : Go p e below G T (mkF m pc L (S)) := by
  subst hp
  obtain ⟨vm0, k0, locs, X, eT, hS, hk, hZ, hown, hF, hN, hC, hsf, hE, ⟨a1, hEL⟩, hx, hby, hml, hnm, hrt, hlk⟩ := W
  subst hby
  exact K.st fun u k => XT.lload X.here hx rfl hd hl k
theorem o_aloadN (pc' : Nat) (W : Wk p l e R s m args below meth c Z y bytes maxL ret T h ce sl sf) {k : Fin 4} {v : Value} (hd : decode bytes pc = .ok (.aload_n k, 1)) (hl : L[k.val]? = some (.val v)) (hv : v.isRef = true) (K : Go p e below G T (mkF m pc' L (v :: S))) (hp : pc + 1 = pc' := by rfl) : Go p e below G T (mkF m pc L (S)) := by
  subst hp
  obtain ⟨vm0, k0, locs, X, eT, hS, hk, hZ, hown, hF, hN, hC, hsf, hE, ⟨a1, hEL⟩, hx, hby, hml, hnm, hrt, hlk⟩ := W
  subst hby
  exact K.st fun u k => XS.aloadN X.here hx rfl hd hl hv k
theorem o_aload (pc' : Nat) (W : Wk p l e R s m args below meth c Z y bytes maxL ret T h ce sl sf) {k : Nat} {v : Value} (hd : decode bytes pc = .ok (.aload k, 2)) (hl : L[k]? = some (.val v)) (hv : v.isRef = true) (K : Go p e below G T (mkF m pc' L (v :: S))) (hp : pc + 2 = pc' := by rfl) : Go p e below G T (mkF m pc L (S)) := by
  subst hp
  obtain ⟨vm0, k0, locs, X, eT, hS, hk, hZ, hown, hF, hN, hC, hsf, hE, ⟨a1, hEL⟩, hx, hby, hml, hnm, hrt, hlk⟩ := W
  subst hby
  exact K.st fun u k => XS.aload X.here hx rfl hd hl hv k
theorem o_istoreN (pc' : Nat) (W : Wk p l e R s m args below meth c Z y bytes maxL ret T h ce sl sf) {k : Fin 4} {v : Int32} (L' : Array Slot) (hd : decode bytes pc = .ok (.istore_n k, 1)) (hl : storeLocals L k.val (.int v) = some L') (K : Go p e below G T (mkF m pc' L' (S))) (hp : pc + 1 = pc' := by rfl) : Go p e below G T (mkF m pc L (.int v :: S)) := by
  subst hp
  obtain ⟨vm0, k0, locs, X, eT, hS, hk, hZ, hown, hF, hN, hC, hsf, hE, ⟨a1, hEL⟩, hx, hby, hml, hnm, hrt, hlk⟩ := W
  subst hby
  exact K.st fun u k => XS.istoreN X.here hx rfl hd rfl hl k
theorem o_istore (pc' : Nat) (W : Wk p l e R s m args below meth c Z y bytes maxL ret T h ce sl sf) {k : Nat} {v : Int32} (L' : Array Slot) (hd : decode bytes pc = .ok (.istore k, 2)) (hl : storeLocals L k (.int v) = some L') (K : Go p e below G T (mkF m pc' L' (S))) (hp : pc + 2 = pc' := by rfl) : Go p e below G T (mkF m pc L (.int v :: S)) := by
  subst hp
  obtain ⟨vm0, k0, locs, X, eT, hS, hk, hZ, hown, hF, hN, hC, hsf, hE, ⟨a1, hEL⟩, hx, hby, hml, hnm, hrt, hlk⟩ := W
  subst hby
  exact K.st fun u k => XS.istore X.here hx rfl hd rfl hl k
theorem o_lstoreN (pc' : Nat) (W : Wk p l e R s m args below meth c Z y bytes maxL ret T h ce sl sf) {k : Fin 4} {v : Int64} (L' : Array Slot) (hd : decode bytes pc = .ok (.lstore_n k, 1)) (hl : storeLocals L k.val (.long v) = some L') (K : Go p e below G T (mkF m pc' L' (S))) (hp : pc + 1 = pc' := by rfl) : Go p e below G T (mkF m pc L (.long v :: S)) := by
  subst hp
  obtain ⟨vm0, k0, locs, X, eT, hS, hk, hZ, hown, hF, hN, hC, hsf, hE, ⟨a1, hEL⟩, hx, hby, hml, hnm, hrt, hlk⟩ := W
  subst hby
  exact K.st fun u k => XT.lstoreN X.here hx rfl hd rfl hl k
theorem o_lstore (pc' : Nat) (W : Wk p l e R s m args below meth c Z y bytes maxL ret T h ce sl sf) {k : Nat} {v : Int64} (L' : Array Slot) (hd : decode bytes pc = .ok (.lstore k, 2)) (hl : storeLocals L k (.long v) = some L') (K : Go p e below G T (mkF m pc' L' (S))) (hp : pc + 2 = pc' := by rfl) : Go p e below G T (mkF m pc L (.long v :: S)) := by
  subst hp
  obtain ⟨vm0, k0, locs, X, eT, hS, hk, hZ, hown, hF, hN, hC, hsf, hE, ⟨a1, hEL⟩, hx, hby, hml, hnm, hrt, hlk⟩ := W
  subst hby
  exact K.st fun u k => XT.lstore X.here hx rfl hd rfl hl k
theorem o_astoreN (pc' : Nat) (W : Wk p l e R s m args below meth c Z y bytes maxL ret T h ce sl sf) {k : Fin 4} {v : Value} (L' : Array Slot) (hd : decode bytes pc = .ok (.astore_n k, 1)) (hv : v.isRef = true) (hl : storeLocals L k.val v = some L') (K : Go p e below G T (mkF m pc' L' (S))) (hp : pc + 1 = pc' := by rfl) : Go p e below G T (mkF m pc L (v :: S)) := by
  subst hp
  obtain ⟨vm0, k0, locs, X, eT, hS, hk, hZ, hown, hF, hN, hC, hsf, hE, ⟨a1, hEL⟩, hx, hby, hml, hnm, hrt, hlk⟩ := W
  subst hby
  exact K.st fun u k => XS.astoreN X.here hx rfl hd rfl hv hl k
theorem o_astore (pc' : Nat) (W : Wk p l e R s m args below meth c Z y bytes maxL ret T h ce sl sf) {k : Nat} {v : Value} (L' : Array Slot) (hd : decode bytes pc = .ok (.astore k, 2)) (hv : v.isRef = true) (hl : storeLocals L k v = some L') (K : Go p e below G T (mkF m pc' L' (S))) (hp : pc + 2 = pc' := by rfl) : Go p e below G T (mkF m pc L (v :: S)) := by
  subst hp
  obtain ⟨vm0, k0, locs, X, eT, hS, hk, hZ, hown, hF, hN, hC, hsf, hE, ⟨a1, hEL⟩, hx, hby, hml, hnm, hrt, hlk⟩ := W
  subst hby
  exact K.st fun u k => XS.astore X.here hx rfl hd rfl hv hl k
theorem o_iconst (pc' : Nat) (W : Wk p l e R s m args below meth c Z y bytes maxL ret T h ce sl sf) {i : Int} (v : Int32) (hd : decode bytes pc = .ok (.iconst i, 1)) (hv : Int32.ofInt i = v) (K : Go p e below G T (mkF m pc' L (.int v :: S))) (hp : pc + 1 = pc' := by rfl) : Go p e below G T (mkF m pc L (S)) := by
  subst hp
  obtain ⟨vm0, k0, locs, X, eT, hS, hk, hZ, hown, hF, hN, hC, hsf, hE, ⟨a1, hEL⟩, hx, hby, hml, hnm, hrt, hlk⟩ := W
  subst hby
  exact K.st fun u k => XT.iconstV X.here hx rfl v hd hv k
theorem o_bipush (pc' : Nat) (W : Wk p l e R s m args below meth c Z y bytes maxL ret T h ce sl sf) {i : Int} (v : Int32) (hd : decode bytes pc = .ok (.bipush i, 2)) (hv : (Int8.ofInt i).toInt32 = v) (K : Go p e below G T (mkF m pc' L (.int v :: S))) (hp : pc + 2 = pc' := by rfl) : Go p e below G T (mkF m pc L (S)) := by
  subst hp
  obtain ⟨vm0, k0, locs, X, eT, hS, hk, hZ, hown, hF, hN, hC, hsf, hE, ⟨a1, hEL⟩, hx, hby, hml, hnm, hrt, hlk⟩ := W
  subst hby
  exact K.st fun u k => XT.bipushV X.here hx rfl v hd hv k
theorem o_sipush (pc' : Nat) (W : Wk p l e R s m args below meth c Z y bytes maxL ret T h ce sl sf) {i : Int} (v : Int32) (hd : decode bytes pc = .ok (.sipush i, 3)) (hv : (Int16.ofInt i).toInt32 = v) (K : Go p e below G T (mkF m pc' L (.int v :: S))) (hp : pc + 3 = pc' := by rfl) : Go p e below G T (mkF m pc L (S)) := by
  subst hp
  obtain ⟨vm0, k0, locs, X, eT, hS, hk, hZ, hown, hF, hN, hC, hsf, hE, ⟨a1, hEL⟩, hx, hby, hml, hnm, hrt, hlk⟩ := W
  subst hby
  exact K.st fun u k => XT.sipushV X.here hx rfl v hd hv k
theorem o_lconst (pc' : Nat) (W : Wk p l e R s m args below meth c Z y bytes maxL ret T h ce sl sf) {i : Fin 2} (v : Int64) (hd : decode bytes pc = .ok (.lconst i, 1)) (hv : Int64.ofNat i = v) (K : Go p e below G T (mkF m pc' L (.long v :: S))) (hp : pc + 1 = pc' := by rfl) : Go p e below G T (mkF m pc L (S)) := by
  subst hp
  obtain ⟨vm0, k0, locs, X, eT, hS, hk, hZ, hown, hF, hN, hC, hsf, hE, ⟨a1, hEL⟩, hx, hby, hml, hnm, hrt, hlk⟩ := W
  subst hby
  exact K.st fun u k => XT.lconstV X.here hx rfl v hd hv k
theorem o_null (pc' : Nat) (W : Wk p l e R s m args below meth c Z y bytes maxL ret T h ce sl sf)  (hd : decode bytes pc = .ok (.aconst_null, 1))  (K : Go p e below G T (mkF m pc' L (.null :: S))) (hp : pc + 1 = pc' := by rfl) : Go p e below G T (mkF m pc L (S)) := by
  subst hp
  obtain ⟨vm0, k0, locs, X, eT, hS, hk, hZ, hown, hF, hN, hC, hsf, hE, ⟨a1, hEL⟩, hx, hby, hml, hnm, hrt, hlk⟩ := W
  subst hby
  exact K.st fun u k => XS.aconstNull X.here hx rfl hd  k
theorem o_iadd (pc' : Nat) (W : Wk p l e R s m args below meth c Z y bytes maxL ret T h ce sl sf) {x z : Int32} (hd : decode bytes pc = .ok (.iadd, 1))  (K : Go p e below G T (mkF m pc' L (.int (x + z) :: S))) (hp : pc + 1 = pc' := by rfl) : Go p e below G T (mkF m pc L (.int z :: .int x :: S)) := by
  subst hp
  obtain ⟨vm0, k0, locs, X, eT, hS, hk, hZ, hown, hF, hN, hC, hsf, hE, ⟨a1, hEL⟩, hx, hby, hml, hnm, hrt, hlk⟩ := W
  subst hby
  exact K.st fun u k => XS.iadd X.here hx rfl hd rfl k
theorem o_isub (pc' : Nat) (W : Wk p l e R s m args below meth c Z y bytes maxL ret T h ce sl sf) {x z : Int32} (hd : decode bytes pc = .ok (.isub, 1))  (K : Go p e below G T (mkF m pc' L (.int (x - z) :: S))) (hp : pc + 1 = pc' := by rfl) : Go p e below G T (mkF m pc L (.int z :: .int x :: S)) := by
  subst hp
  obtain ⟨vm0, k0, locs, X, eT, hS, hk, hZ, hown, hF, hN, hC, hsf, hE, ⟨a1, hEL⟩, hx, hby, hml, hnm, hrt, hlk⟩ := W
  subst hby
  exact K.st fun u k => XS.isub X.here hx rfl hd rfl k
theorem o_iand (pc' : Nat) (W : Wk p l e R s m args below meth c Z y bytes maxL ret T h ce sl sf) {x z : Int32} (hd : decode bytes pc = .ok (.iand, 1))  (K : Go p e below G T (mkF m pc' L (.int (x &&& z) :: S))) (hp : pc + 1 = pc' := by rfl) : Go p e below G T (mkF m pc L (.int z :: .int x :: S)) := by
  subst hp
  obtain ⟨vm0, k0, locs, X, eT, hS, hk, hZ, hown, hF, hN, hC, hsf, hE, ⟨a1, hEL⟩, hx, hby, hml, hnm, hrt, hlk⟩ := W
  subst hby
  exact K.st fun u k => XS.iand X.here hx rfl hd rfl k
theorem o_imul (pc' : Nat) (W : Wk p l e R s m args below meth c Z y bytes maxL ret T h ce sl sf) {x z : Int32} (hd : decode bytes pc = .ok (.imul, 1))  (K : Go p e below G T (mkF m pc' L (.int (x * z) :: S))) (hp : pc + 1 = pc' := by rfl) : Go p e below G T (mkF m pc L (.int z :: .int x :: S)) := by
  subst hp
  obtain ⟨vm0, k0, locs, X, eT, hS, hk, hZ, hown, hF, hN, hC, hsf, hE, ⟨a1, hEL⟩, hx, hby, hml, hnm, hrt, hlk⟩ := W
  subst hby
  exact K.st fun u k => XS.imul X.here hx rfl hd rfl k
theorem o_ior (pc' : Nat) (W : Wk p l e R s m args below meth c Z y bytes maxL ret T h ce sl sf) {x z : Int32} (hd : decode bytes pc = .ok (.ior, 1))  (K : Go p e below G T (mkF m pc' L (.int (x ||| z) :: S))) (hp : pc + 1 = pc' := by rfl) : Go p e below G T (mkF m pc L (.int z :: .int x :: S)) := by
  subst hp
  obtain ⟨vm0, k0, locs, X, eT, hS, hk, hZ, hown, hF, hN, hC, hsf, hE, ⟨a1, hEL⟩, hx, hby, hml, hnm, hrt, hlk⟩ := W
  subst hby
  exact K.st fun u k => XT.ior X.here hx rfl hd rfl k
theorem o_ishl (pc' : Nat) (W : Wk p l e R s m args below meth c Z y bytes maxL ret T h ce sl sf) {x z : Int32} (hd : decode bytes pc = .ok (.ishl, 1))  (K : Go p e below G T (mkF m pc' L (.int (x <<< (z &&& 31)) :: S))) (hp : pc + 1 = pc' := by rfl) : Go p e below G T (mkF m pc L (.int z :: .int x :: S)) := by
  subst hp
  obtain ⟨vm0, k0, locs, X, eT, hS, hk, hZ, hown, hF, hN, hC, hsf, hE, ⟨a1, hEL⟩, hx, hby, hml, hnm, hrt, hlk⟩ := W
  subst hby
  exact K.st fun u k => XT.ishl X.here hx rfl hd rfl k
theorem o_iushr (pc' : Nat) (W : Wk p l e R s m args below meth c Z y bytes maxL ret T h ce sl sf) {x z : Int32} (hd : decode bytes pc = .ok (.iushr, 1))  (K : Go p e below G T (mkF m pc' L (.int (XT.ushr x z) :: S))) (hp : pc + 1 = pc' := by rfl) : Go p e below G T (mkF m pc L (.int z :: .int x :: S)) := by
  subst hp
  obtain ⟨vm0, k0, locs, X, eT, hS, hk, hZ, hown, hF, hN, hC, hsf, hE, ⟨a1, hEL⟩, hx, hby, hml, hnm, hrt, hlk⟩ := W
  subst hby
  exact K.st fun u k => XT.iushr X.here hx rfl hd rfl k
theorem o_ishr (pc' : Nat) (W : Wk p l e R s m args below meth c Z y bytes maxL ret T h ce sl sf) {x z : Int32} (hd : decode bytes pc = .ok (.ishr, 1))  (K : Go p e below G T (mkF m pc' L (.int (x >>> (z &&& 31)) :: S))) (hp : pc + 1 = pc' := by rfl) : Go p e below G T (mkF m pc L (.int z :: .int x :: S)) := by
  subst hp
  obtain ⟨vm0, k0, locs, X, eT, hS, hk, hZ, hown, hF, hN, hC, hsf, hE, ⟨a1, hEL⟩, hx, hby, hml, hnm, hrt, hlk⟩ := W
  subst hby
  exact K.st fun u k => XT.ishr X.here hx rfl hd rfl k
theorem o_ladd (pc' : Nat) (W : Wk p l e R s m args below meth c Z y bytes maxL ret T h ce sl sf) {x z : Int64} (hd : decode bytes pc = .ok (.ladd, 1))  (K : Go p e below G T (mkF m pc' L (.long (x + z) :: S))) (hp : pc + 1 = pc' := by rfl) : Go p e below G T (mkF m pc L (.long z :: .long x :: S)) := by
  subst hp
  obtain ⟨vm0, k0, locs, X, eT, hS, hk, hZ, hown, hF, hN, hC, hsf, hE, ⟨a1, hEL⟩, hx, hby, hml, hnm, hrt, hlk⟩ := W
  subst hby
  exact K.st fun u k => XT.ladd X.here hx rfl hd rfl k
theorem o_land (pc' : Nat) (W : Wk p l e R s m args below meth c Z y bytes maxL ret T h ce sl sf) {x z : Int64} (hd : decode bytes pc = .ok (.land, 1))  (K : Go p e below G T (mkF m pc' L (.long (x &&& z) :: S))) (hp : pc + 1 = pc' := by rfl) : Go p e below G T (mkF m pc L (.long z :: .long x :: S)) := by
  subst hp
  obtain ⟨vm0, k0, locs, X, eT, hS, hk, hZ, hown, hF, hN, hC, hsf, hE, ⟨a1, hEL⟩, hx, hby, hml, hnm, hrt, hlk⟩ := W
  subst hby
  exact K.st fun u k => XT.land X.here hx rfl hd rfl k
theorem o_lushr (pc' : Nat) (W : Wk p l e R s m args below meth c Z y bytes maxL ret T h ce sl sf) {x : Int64} {z : Int32} (hd : decode bytes pc = .ok (.lushr, 1))  (K : Go p e below G T (mkF m pc' L (.long (XT.ushrL x z) :: S))) (hp : pc + 1 = pc' := by rfl) : Go p e below G T (mkF m pc L (.int z :: .long x :: S)) := by
  subst hp
  obtain ⟨vm0, k0, locs, X, eT, hS, hk, hZ, hown, hF, hN, hC, hsf, hE, ⟨a1, hEL⟩, hx, hby, hml, hnm, hrt, hlk⟩ := W
  subst hby
  exact K.st fun u k => XT.lushr X.here hx rfl hd rfl k
theorem o_lcmp (pc' : Nat) (W : Wk p l e R s m args below meth c Z y bytes maxL ret T h ce sl sf) {x z : Int64} (hd : decode bytes pc = .ok (.lcmp, 1))  (K : Go p e below G T (mkF m pc' L (.int (XT.cmpL x z) :: S))) (hp : pc + 1 = pc' := by rfl) : Go p e below G T (mkF m pc L (.long z :: .long x :: S)) := by
  subst hp
  obtain ⟨vm0, k0, locs, X, eT, hS, hk, hZ, hown, hF, hN, hC, hsf, hE, ⟨a1, hEL⟩, hx, hby, hml, hnm, hrt, hlk⟩ := W
  subst hby
  exact K.st fun u k => XT.lcmp X.here hx rfl hd rfl k
theorem o_i2c (pc' : Nat) (W : Wk p l e R s m args below meth c Z y bytes maxL ret T h ce sl sf) {x : Int32} (hd : decode bytes pc = .ok (.i2c, 1))  (K : Go p e below G T (mkF m pc' L (.int x.toUInt32.toUInt16.toUInt32.toInt32 :: S))) (hp : pc + 1 = pc' := by rfl) : Go p e below G T (mkF m pc L (.int x :: S)) := by
  subst hp
  obtain ⟨vm0, k0, locs, X, eT, hS, hk, hZ, hown, hF, hN, hC, hsf, hE, ⟨a1, hEL⟩, hx, hby, hml, hnm, hrt, hlk⟩ := W
  subst hby
  exact K.st fun u k => XT.i2c X.here hx rfl hd rfl k
theorem o_i2b (pc' : Nat) (W : Wk p l e R s m args below meth c Z y bytes maxL ret T h ce sl sf) {x : Int32} (hd : decode bytes pc = .ok (.i2b, 1))  (K : Go p e below G T (mkF m pc' L (.int x.toInt8.toInt32 :: S))) (hp : pc + 1 = pc' := by rfl) : Go p e below G T (mkF m pc L (.int x :: S)) := by
  subst hp
  obtain ⟨vm0, k0, locs, X, eT, hS, hk, hZ, hown, hF, hN, hC, hsf, hE, ⟨a1, hEL⟩, hx, hby, hml, hnm, hrt, hlk⟩ := W
  subst hby
  exact K.st fun u k => XT.i2b X.here hx rfl hd rfl k
theorem o_i2l (pc' : Nat) (W : Wk p l e R s m args below meth c Z y bytes maxL ret T h ce sl sf) {x : Int32} (hd : decode bytes pc = .ok (.i2l, 1))  (K : Go p e below G T (mkF m pc' L (.long x.toInt64 :: S))) (hp : pc + 1 = pc' := by rfl) : Go p e below G T (mkF m pc L (.int x :: S)) := by
  subst hp
  obtain ⟨vm0, k0, locs, X, eT, hS, hk, hZ, hown, hF, hN, hC, hsf, hE, ⟨a1, hEL⟩, hx, hby, hml, hnm, hrt, hlk⟩ := W
  subst hby
  exact K.st fun u k => XT.i2l X.here hx rfl hd rfl k
theorem o_l2i (pc' : Nat) (W : Wk p l e R s m args below meth c Z y bytes maxL ret T h ce sl sf) {x : Int64} (hd : decode bytes pc = .ok (.l2i, 1))  (K : Go p e below G T (mkF m pc' L (.int x.toInt32 :: S))) (hp : pc + 1 = pc' := by rfl) : Go p e below G T (mkF m pc L (.long x :: S)) := by
  subst hp
  obtain ⟨vm0, k0, locs, X, eT, hS, hk, hZ, hown, hF, hN, hC, hsf, hE, ⟨a1, hEL⟩, hx, hby, hml, hnm, hrt, hlk⟩ := W
  subst hby
  exact K.st fun u k => XT.l2i X.here hx rfl hd rfl k
theorem o_dup (pc' : Nat) (W : Wk p l e R s m args below meth c Z y bytes maxL ret T h ce sl sf) {v : Value} (hd : decode bytes pc = .ok (.dup, 1)) (hc : v.category = 1) (K : Go p e below G T (mkF m pc' L (v :: v :: S))) (hp : pc + 1 = pc' := by rfl) : Go p e below G T (mkF m pc L (v :: S)) := by
  subst hp
  obtain ⟨vm0, k0, locs, X, eT, hS, hk, hZ, hown, hF, hN, hC, hsf, hE, ⟨a1, hEL⟩, hx, hby, hml, hnm, hrt, hlk⟩ := W
  subst hby
  exact K.st fun u k => XS.dup X.here hx rfl hd rfl hc k
theorem o_pop (pc' : Nat) (W : Wk p l e R s m args below meth c Z y bytes maxL ret T h ce sl sf) {v : Value} (hd : decode bytes pc = .ok (.pop, 1)) (hc : v.category = 1) (K : Go p e below G T (mkF m pc' L (S))) (hp : pc + 1 = pc' := by rfl) : Go p e below G T (mkF m pc L (v :: S)) := by
  subst hp
  obtain ⟨vm0, k0, locs, X, eT, hS, hk, hZ, hown, hF, hN, hC, hsf, hE, ⟨a1, hEL⟩, hx, hby, hml, hnm, hrt, hlk⟩ := W
  subst hby
  exact K.st fun u k => XT.pop X.here hx rfl hd rfl hc k
theorem o_iinc (pc' : Nat) (W : Wk p l e R s m args below meth c Z y bytes maxL ret T h ce sl sf) {k : Nat} {i : Int} {x : Int32} (v : Int32) (L' : Array Slot) (hd : decode bytes pc = .ok (.iinc k i, 3)) (hl : L[k]? = some (.val (.int x))) (hv : x + Int32.ofInt i = v) (hl' : storeLocals L k (.int v) = some L') (K : Go p e below G T (mkF m pc' L' (S))) (hp : pc + 3 = pc' := by rfl) : Go p e below G T (mkF m pc L (S)) := by
  subst hp
  obtain ⟨vm0, k0, locs, X, eT, hS, hk, hZ, hown, hF, hN, hC, hsf, hE, ⟨a1, hEL⟩, hx, hby, hml, hnm, hrt, hlk⟩ := W
  subst hby
  exact K.st fun u k => XS.iinc X.here hx rfl hd hl (hv ▸ hl') k
theorem o_irem (pc' : Nat) (W : Wk p l e R s m args below meth c Z y bytes maxL ret T h ce sl sf) {x z : Int32} (hd : decode bytes pc = .ok (.irem, 1)) (hz : z ≠ 0) (K : Go p e below G T (mkF m pc' L (.int (x % z) :: S))) (hp : pc + 1 = pc' := by rfl) : Go p e below G T (mkF m pc L (.int z :: .int x :: S)) := by
  subst hp
  obtain ⟨vm0, k0, locs, X, eT, hS, hk, hZ, hown, hF, hN, hC, hsf, hE, ⟨a1, hEL⟩, hx, hby, hml, hnm, hrt, hlk⟩ := W
  subst hby
  exact K.st fun u k => iremM X hx (g := mkF m pc L (.int z :: .int x :: S)) rfl hd rfl hz k
theorem o_goto (pc' : Nat) (W : Wk p l e R s m args below meth c Z y bytes maxL ret T h ce sl sf)  {o : Int} (hd : decode bytes pc = .ok (.goto o, 3))  (K : Go p e below G T (mkF m pc' L (S))) (ho : 0 ≤ (pc : Int) + o := by decide) (hp : ((pc : Int) + o).toNat = pc' := by decide) : Go p e below G T (mkF m pc L (S)) := by
  obtain ⟨vm0, k0, locs, X, eT, hS, hk, hZ, hown, hF, hN, hC, hsf, hE, ⟨a1, hEL⟩, hx, hby, hml, hnm, hrt, hlk⟩ := W
  subst hby
  exact K.st fun u k => XS.goto X.here hx rfl (pc0 := pc) rfl hd ho hp k
theorem o_ifeq (pt pf : Nat) (W : Wk p l e R s m args below meth c Z y bytes maxL ret T h ce sl sf) {x : Int32} {o : Int} (hd : decode bytes pc = .ok (.ifCond .eq o, 3)) (K1 : x = 0 → Go p e below G T (mkF m pt L S)) (K2 : ¬ x = 0 → Go p e below G T (mkF m pf L S)) (ho : 0 ≤ (pc : Int) + o := by decide) (hp : ((pc : Int) + o).toNat = pt := by decide) (hq : pc + 3 = pf := by rfl) : Go p e below G T (mkF m pc L (.int x :: S)) := by
  subst hq
  obtain ⟨vm0, k0, locs, X, eT, hS, hk, hZ, hown, hF, hN, hC, hsf, hE, ⟨a1, hEL⟩, hx, hby, hml, hnm, hrt, hlk⟩ := W
  subst hby
  by_cases q : x = 0
  · exact (K1 q).st fun u k => XS.ifYes X.here hx rfl (pc0 := pc) rfl hd rfl (XT.i0_eq_t q) ho hp k
  · exact (K2 q).st fun u k => XS.ifNo X.here hx rfl hd rfl (XT.i0_eq_f q) k
theorem o_ifne (pt pf : Nat) (W : Wk p l e R s m args below meth c Z y bytes maxL ret T h ce sl sf) {x : Int32} {o : Int} (hd : decode bytes pc = .ok (.ifCond .ne o, 3)) (K1 : ¬ x = 0 → Go p e below G T (mkF m pt L S)) (K2 : x = 0 → Go p e below G T (mkF m pf L S)) (ho : 0 ≤ (pc : Int) + o := by decide) (hp : ((pc : Int) + o).toNat = pt := by decide) (hq : pc + 3 = pf := by rfl) : Go p e below G T (mkF m pc L (.int x :: S)) := by
  subst hq
  obtain ⟨vm0, k0, locs, X, eT, hS, hk, hZ, hown, hF, hN, hC, hsf, hE, ⟨a1, hEL⟩, hx, hby, hml, hnm, hrt, hlk⟩ := W
  subst hby
  by_cases q : x = 0
  · exact (K2 q).st fun u k => XS.ifNo X.here hx rfl hd rfl (XT.i0_ne_f q) k
  · exact (K1 q).st fun u k => XS.ifYes X.here hx rfl (pc0 := pc) rfl hd rfl (XT.i0_ne_t q) ho hp k
theorem o_iflt (pt pf : Nat) (W : Wk p l e R s m args below meth c Z y bytes maxL ret T h ce sl sf) {x : Int32} {o : Int} (hd : decode bytes pc = .ok (.ifCond .lt o, 3)) (K1 : x < 0 → Go p e below G T (mkF m pt L S)) (K2 : ¬ x < 0 → Go p e below G T (mkF m pf L S)) (ho : 0 ≤ (pc : Int) + o := by decide) (hp : ((pc : Int) + o).toNat = pt := by decide) (hq : pc + 3 = pf := by rfl) : Go p e below G T (mkF m pc L (.int x :: S)) := by
  subst hq
  obtain ⟨vm0, k0, locs, X, eT, hS, hk, hZ, hown, hF, hN, hC, hsf, hE, ⟨a1, hEL⟩, hx, hby, hml, hnm, hrt, hlk⟩ := W
  subst hby
  by_cases q : x < 0
  · exact (K1 q).st fun u k => XS.ifYes X.here hx rfl (pc0 := pc) rfl hd rfl (XT.i0_lt_t q) ho hp k
  · exact (K2 q).st fun u k => XS.ifNo X.here hx rfl hd rfl (XT.i0_lt_f q) k
theorem o_ifge (pt pf : Nat) (W : Wk p l e R s m args below meth c Z y bytes maxL ret T h ce sl sf) {x : Int32} {o : Int} (hd : decode bytes pc = .ok (.ifCond .ge o, 3)) (K1 : ¬ x < 0 → Go p e below G T (mkF m pt L S)) (K2 : x < 0 → Go p e below G T (mkF m pf L S)) (ho : 0 ≤ (pc : Int) + o := by decide) (hp : ((pc : Int) + o).toNat = pt := by decide) (hq : pc + 3 = pf := by rfl) : Go p e below G T (mkF m pc L (.int x :: S)) := by
  subst hq
  obtain ⟨vm0, k0, locs, X, eT, hS, hk, hZ, hown, hF, hN, hC, hsf, hE, ⟨a1, hEL⟩, hx, hby, hml, hnm, hrt, hlk⟩ := W
  subst hby
  by_cases q : x < 0
  · exact (K2 q).st fun u k => XS.ifNo X.here hx rfl hd rfl (XT.i0_ge_f q) k
  · exact (K1 q).st fun u k => XS.ifYes X.here hx rfl (pc0 := pc) rfl hd rfl (XT.i0_ge_t q) ho hp k
theorem o_ifgt (pt pf : Nat) (W : Wk p l e R s m args below meth c Z y bytes maxL ret T h ce sl sf) {x : Int32} {o : Int} (hd : decode bytes pc = .ok (.ifCond .gt o, 3)) (K1 : 0 < x → Go p e below G T (mkF m pt L S)) (K2 : ¬ 0 < x → Go p e below G T (mkF m pf L S)) (ho : 0 ≤ (pc : Int) + o := by decide) (hp : ((pc : Int) + o).toNat = pt := by decide) (hq : pc + 3 = pf := by rfl) : Go p e below G T (mkF m pc L (.int x :: S)) := by
  subst hq
  obtain ⟨vm0, k0, locs, X, eT, hS, hk, hZ, hown, hF, hN, hC, hsf, hE, ⟨a1, hEL⟩, hx, hby, hml, hnm, hrt, hlk⟩ := W
  subst hby
  by_cases q : 0 < x
  · exact (K1 q).st fun u k => XS.ifYes X.here hx rfl (pc0 := pc) rfl hd rfl (XT.i0_gt_t q) ho hp k
  · exact (K2 q).st fun u k => XS.ifNo X.here hx rfl hd rfl (XT.i0_gt_f q) k
theorem o_ifle (pt pf : Nat) (W : Wk p l e R s m args below meth c Z y bytes maxL ret T h ce sl sf) {x : Int32} {o : Int} (hd : decode bytes pc = .ok (.ifCond .le o, 3)) (K1 : ¬ 0 < x → Go p e below G T (mkF m pt L S)) (K2 : 0 < x → Go p e below G T (mkF m pf L S)) (ho : 0 ≤ (pc : Int) + o := by decide) (hp : ((pc : Int) + o).toNat = pt := by decide) (hq : pc + 3 = pf := by rfl) : Go p e below G T (mkF m pc L (.int x :: S)) := by
  subst hq
  obtain ⟨vm0, k0, locs, X, eT, hS, hk, hZ, hown, hF, hN, hC, hsf, hE, ⟨a1, hEL⟩, hx, hby, hml, hnm, hrt, hlk⟩ := W
  subst hby
  by_cases q : 0 < x
  · exact (K2 q).st fun u k => XS.ifNo X.here hx rfl hd rfl (XT.i0_le_f q) k
  · exact (K1 q).st fun u k => XS.ifYes X.here hx rfl (pc0 := pc) rfl hd rfl (XT.i0_le_t q) ho hp k
theorem o_iceq (pt pf : Nat) (W : Wk p l e R s m args below meth c Z y bytes maxL ret T h ce sl sf) {x z : Int32} {o : Int} (hd : decode bytes pc = .ok (.if_icmp .eq o, 3)) (K1 : x = z → Go p e below G T (mkF m pt L S)) (K2 : ¬ x = z → Go p e below G T (mkF m pf L S)) (ho : 0 ≤ (pc : Int) + o := by decide) (hp : ((pc : Int) + o).toNat = pt := by decide) (hq : pc + 3 = pf := by rfl) : Go p e below G T (mkF m pc L (.int z :: .int x :: S)) := by
  subst hq
  obtain ⟨vm0, k0, locs, X, eT, hS, hk, hZ, hown, hF, hN, hC, hsf, hE, ⟨a1, hEL⟩, hx, hby, hml, hnm, hrt, hlk⟩ := W
  subst hby
  by_cases q : x = z
  · exact (K1 q).st fun u k => XS.icmpYes X.here hx rfl (pc0 := pc) rfl hd rfl (XT.ii_eq_t q) ho hp k
  · exact (K2 q).st fun u k => XS.icmpNo X.here hx rfl hd rfl (XT.ii_eq_f q) k
theorem o_icne (pt pf : Nat) (W : Wk p l e R s m args below meth c Z y bytes maxL ret T h ce sl sf) {x z : Int32} {o : Int} (hd : decode bytes pc = .ok (.if_icmp .ne o, 3)) (K1 : ¬ x = z → Go p e below G T (mkF m pt L S)) (K2 : x = z → Go p e below G T (mkF m pf L S)) (ho : 0 ≤ (pc : Int) + o := by decide) (hp : ((pc : Int) + o).toNat = pt := by decide) (hq : pc + 3 = pf := by rfl) : Go p e below G T (mkF m pc L (.int z :: .int x :: S)) := by
  subst hq
  obtain ⟨vm0, k0, locs, X, eT, hS, hk, hZ, hown, hF, hN, hC, hsf, hE, ⟨a1, hEL⟩, hx, hby, hml, hnm, hrt, hlk⟩ := W
  subst hby
  by_cases q : x = z
  · exact (K2 q).st fun u k => XS.icmpNo X.here hx rfl hd rfl (XT.ii_ne_f q) k
  · exact (K1 q).st fun u k => XS.icmpYes X.here hx rfl (pc0 := pc) rfl hd rfl (XT.ii_ne_t q) ho hp k
theorem o_iclt (pt pf : Nat) (W : Wk p l e R s m args below meth c Z y bytes maxL ret T h ce sl sf) {x z : Int32} {o : Int} (hd : decode bytes pc = .ok (.if_icmp .lt o, 3)) (K1 : x < z → Go p e below G T (mkF m pt L S)) (K2 : ¬ x < z → Go p e below G T (mkF m pf L S)) (ho : 0 ≤ (pc : Int) + o := by decide) (hp : ((pc : Int) + o).toNat = pt := by decide) (hq : pc + 3 = pf := by rfl) : Go p e below G T (mkF m pc L (.int z :: .int x :: S)) := by
  subst hq
  obtain ⟨vm0, k0, locs, X, eT, hS, hk, hZ, hown, hF, hN, hC, hsf, hE, ⟨a1, hEL⟩, hx, hby, hml, hnm, hrt, hlk⟩ := W
  subst hby
  by_cases q : x < z
  · exact (K1 q).st fun u k => XS.icmpYes X.here hx rfl (pc0 := pc) rfl hd rfl (XT.ii_lt_t q) ho hp k
  · exact (K2 q).st fun u k => XS.icmpNo X.here hx rfl hd rfl (XT.ii_lt_f q) k
theorem o_icge (pt pf : Nat) (W : Wk p l e R s m args below meth c Z y bytes maxL ret T h ce sl sf) {x z : Int32} {o : Int} (hd : decode bytes pc = .ok (.if_icmp .ge o, 3)) (K1 : ¬ x < z → Go p e below G T (mkF m pt L S)) (K2 : x < z → Go p e below G T (mkF m pf L S)) (ho : 0 ≤ (pc : Int) + o := by decide) (hp : ((pc : Int) + o).toNat = pt := by decide) (hq : pc + 3 = pf := by rfl) : Go p e below G T (mkF m pc L (.int z :: .int x :: S)) := by
  subst hq
  obtain ⟨vm0, k0, locs, X, eT, hS, hk, hZ, hown, hF, hN, hC, hsf, hE, ⟨a1, hEL⟩, hx, hby, hml, hnm, hrt, hlk⟩ := W
  subst hby
  by_cases q : x < z
  · exact (K2 q).st fun u k => XS.icmpNo X.here hx rfl hd rfl (XT.ii_ge_f q) k
  · exact (K1 q).st fun u k => XS.icmpYes X.here hx rfl (pc0 := pc) rfl hd rfl (XT.ii_ge_t q) ho hp k
theorem o_icgt (pt pf : Nat) (W : Wk p l e R s m args below meth c Z y bytes maxL ret T h ce sl sf) {x z : Int32} {o : Int} (hd : decode bytes pc = .ok (.if_icmp .gt o, 3)) (K1 : z < x → Go p e below G T (mkF m pt L S)) (K2 : ¬ z < x → Go p e below G T (mkF m pf L S)) (ho : 0 ≤ (pc : Int) + o := by decide) (hp : ((pc : Int) + o).toNat = pt := by decide) (hq : pc + 3 = pf := by rfl) : Go p e below G T (mkF m pc L (.int z :: .int x :: S)) := by
  subst hq
  obtain ⟨vm0, k0, locs, X, eT, hS, hk, hZ, hown, hF, hN, hC, hsf, hE, ⟨a1, hEL⟩, hx, hby, hml, hnm, hrt, hlk⟩ := W
  subst hby
  by_cases q : z < x
  · exact (K1 q).st fun u k => XS.icmpYes X.here hx rfl (pc0 := pc) rfl hd rfl (XT.ii_gt_t q) ho hp k
  · exact (K2 q).st fun u k => XS.icmpNo X.here hx rfl hd rfl (XT.ii_gt_f q) k
theorem o_icle (pt pf : Nat) (W : Wk p l e R s m args below meth c Z y bytes maxL ret T h ce sl sf) {x z : Int32} {o : Int} (hd : decode bytes pc = .ok (.if_icmp .le o, 3)) (K1 : ¬ z < x → Go p e below G T (mkF m pt L S)) (K2 : z < x → Go p e below G T (mkF m pf L S)) (ho : 0 ≤ (pc : Int) + o := by decide) (hp : ((pc : Int) + o).toNat = pt := by decide) (hq : pc + 3 = pf := by rfl) : Go p e below G T (mkF m pc L (.int z :: .int x :: S)) := by
  subst hq
  obtain ⟨vm0, k0, locs, X, eT, hS, hk, hZ, hown, hF, hN, hC, hsf, hE, ⟨a1, hEL⟩, hx, hby, hml, hnm, hrt, hlk⟩ := W
  subst hby
  by_cases q : z < x
  · exact (K2 q).st fun u k => XS.icmpNo X.here hx rfl hd rfl (XT.ii_le_f q) k
  · exact (K1 q).st fun u k => XS.icmpYes X.here hx rfl (pc0 := pc) rfl hd rfl (XT.ii_le_t q) ho hp k
theorem o_lceq (pt pf : Nat) (W : Wk p l e R s m args below meth c Z y bytes maxL ret T h ce sl sf) {x z : Int64} {o : Int} (hd : decode bytes pc = .ok (.ifCond .eq o, 3)) (K1 : x = z → Go p e below G T (mkF m pt L S)) (K2 : ¬ x = z → Go p e below G T (mkF m pf L S)) (ho : 0 ≤ (pc : Int) + o := by decide) (hp : ((pc : Int) + o).toNat = pt := by decide) (hq : pc + 3 = pf := by rfl) : Go p e below G T (mkF m pc L (.int (XT.cmpL x z) :: S)) := by
  subst hq
  obtain ⟨vm0, k0, locs, X, eT, hS, hk, hZ, hown, hF, hN, hC, hsf, hE, ⟨a1, hEL⟩, hx, hby, hml, hnm, hrt, hlk⟩ := W
  subst hby
  by_cases q : x = z
  · exact (K1 q).st fun u k => XS.ifYes X.here hx rfl (pc0 := pc) rfl hd rfl (XT.ll_eq_t q) ho hp k
  · exact (K2 q).st fun u k => XS.ifNo X.here hx rfl hd rfl (XT.ll_eq_f q) k
theorem o_lcne (pt pf : Nat) (W : Wk p l e R s m args below meth c Z y bytes maxL ret T h ce sl sf) {x z : Int64} {o : Int} (hd : decode bytes pc = .ok (.ifCond .ne o, 3)) (K1 : ¬ x = z → Go p e below G T (mkF m pt L S)) (K2 : x = z → Go p e below G T (mkF m pf L S)) (ho : 0 ≤ (pc : Int) + o := by decide) (hp : ((pc : Int) + o).toNat = pt := by decide) (hq : pc + 3 = pf := by rfl) : Go p e below G T (mkF m pc L (.int (XT.cmpL x z) :: S)) := by
  subst hq
  obtain ⟨vm0, k0, locs, X, eT, hS, hk, hZ, hown, hF, hN, hC, hsf, hE, ⟨a1, hEL⟩, hx, hby, hml, hnm, hrt, hlk⟩ := W
  subst hby
  by_cases q : x = z
  · exact (K2 q).st fun u k => XS.ifNo X.here hx rfl hd rfl (XT.ll_ne_f q) k
  · exact (K1 q).st fun u k => XS.ifYes X.here hx rfl (pc0 := pc) rfl hd rfl (XT.ll_ne_t q) ho hp k
theorem o_lclt (pt pf : Nat) (W : Wk p l e R s m args below meth c Z y bytes maxL ret T h ce sl sf) {x z : Int64} {o : Int} (hd : decode bytes pc = .ok (.ifCond .lt o, 3)) (K1 : x < z → Go p e below G T (mkF m pt L S)) (K2 : ¬ x < z → Go p e below G T (mkF m pf L S)) (ho : 0 ≤ (pc : Int) + o := by decide) (hp : ((pc : Int) + o).toNat = pt := by decide) (hq : pc + 3 = pf := by rfl) : Go p e below G T (mkF m pc L (.int (XT.cmpL x z) :: S)) := by
  subst hq
  obtain ⟨vm0, k0, locs, X, eT, hS, hk, hZ, hown, hF, hN, hC, hsf, hE, ⟨a1, hEL⟩, hx, hby, hml, hnm, hrt, hlk⟩ := W
  subst hby
  by_cases q : x < z
  · exact (K1 q).st fun u k => XS.ifYes X.here hx rfl (pc0 := pc) rfl hd rfl (XT.ll_lt_t q) ho hp k
  · exact (K2 q).st fun u k => XS.ifNo X.here hx rfl hd rfl (XT.ll_lt_f q) k
theorem o_lcge (pt pf : Nat) (W : Wk p l e R s m args below meth c Z y bytes maxL ret T h ce sl sf) {x z : Int64} {o : Int} (hd : decode bytes pc = .ok (.ifCond .ge o, 3)) (K1 : ¬ x < z → Go p e below G T (mkF m pt L S)) (K2 : x < z → Go p e below G T (mkF m pf L S)) (ho : 0 ≤ (pc : Int) + o := by decide) (hp : ((pc : Int) + o).toNat = pt := by decide) (hq : pc + 3 = pf := by rfl) : Go p e below G T (mkF m pc L (.int (XT.cmpL x z) :: S)) := by
  subst hq
  obtain ⟨vm0, k0, locs, X, eT, hS, hk, hZ, hown, hF, hN, hC, hsf, hE, ⟨a1, hEL⟩, hx, hby, hml, hnm, hrt, hlk⟩ := W
  subst hby
  by_cases q : x < z
  · exact (K2 q).st fun u k => XS.ifNo X.here hx rfl hd rfl (XT.ll_ge_f q) k
  · exact (K1 q).st fun u k => XS.ifYes X.here hx rfl (pc0 := pc) rfl hd rfl (XT.ll_ge_t q) ho hp k
theorem o_lcgt (pt pf : Nat) (W : Wk p l e R s m args below meth c Z y bytes maxL ret T h ce sl sf) {x z : Int64} {o : Int} (hd : decode bytes pc = .ok (.ifCond .gt o, 3)) (K1 : z < x → Go p e below G T (mkF m pt L S)) (K2 : ¬ z < x → Go p e below G T (mkF m pf L S)) (ho : 0 ≤ (pc : Int) + o := by decide) (hp : ((pc : Int) + o).toNat = pt := by decide) (hq : pc + 3 = pf := by rfl) : Go p e below G T (mkF m pc L (.int (XT.cmpL x z) :: S)) := by
  subst hq
  obtain ⟨vm0, k0, locs, X, eT, hS, hk, hZ, hown, hF, hN, hC, hsf, hE, ⟨a1, hEL⟩, hx, hby, hml, hnm, hrt, hlk⟩ := W
  subst hby
  by_cases q : z < x
  · exact (K1 q).st fun u k => XS.ifYes X.here hx rfl (pc0 := pc) rfl hd rfl (XT.ll_gt_t q) ho hp k
  · exact (K2 q).st fun u k => XS.ifNo X.here hx rfl hd rfl (XT.ll_gt_f q) k
theorem o_lcle (pt pf : Nat) (W : Wk p l e R s m args below meth c Z y bytes maxL ret T h ce sl sf) {x z : Int64} {o : Int} (hd : decode bytes pc = .ok (.ifCond .le o, 3)) (K1 : ¬ z < x → Go p e below G T (mkF m pt L S)) (K2 : z < x → Go p e below G T (mkF m pf L S)) (ho : 0 ≤ (pc : Int) + o := by decide) (hp : ((pc : Int) + o).toNat = pt := by decide) (hq : pc + 3 = pf := by rfl) : Go p e below G T (mkF m pc L (.int (XT.cmpL x z) :: S)) := by
  subst hq
  obtain ⟨vm0, k0, locs, X, eT, hS, hk, hZ, hown, hF, hN, hC, hsf, hE, ⟨a1, hEL⟩, hx, hby, hml, hnm, hrt, hlk⟩ := W
  subst hby
  by_cases q : z < x
  · exact (K2 q).st fun u k => XS.ifNo X.here hx rfl hd rfl (XT.ll_le_f q) k
  · exact (K1 q).st fun u k => XS.ifYes X.here hx rfl (pc0 := pc) rfl hd rfl (XT.ll_le_t q) ho hp k
theorem o_ifY (pc' : Nat) (W : Wk p l e R s m args below meth c Z y bytes maxL ret T h ce sl sf) {cd : ClassFile.Cond} {x : Int32} {o : Int} (hd : decode bytes pc = .ok (.ifCond cd o, 3)) (hc : ifCond.holds cd x = true) (K : Go p e below G T (mkF m pc' L (S))) (ho : 0 ≤ (pc : Int) + o := by decide) (hp : ((pc : Int) + o).toNat = pc' := by decide) : Go p e below G T (mkF m pc L (.int x :: S)) := by
  obtain ⟨vm0, k0, locs, X, eT, hS, hk, hZ, hown, hF, hN, hC, hsf, hE, ⟨a1, hEL⟩, hx, hby, hml, hnm, hrt, hlk⟩ := W
  subst hby
  exact K.st fun u k => XS.ifYes X.here hx rfl (pc0 := pc) rfl hd rfl hc ho hp k
theorem o_ifN (pc' : Nat) (W : Wk p l e R s m args below meth c Z y bytes maxL ret T h ce sl sf) {cd : ClassFile.Cond} {o : Int} {x : Int32} (hd : decode bytes pc = .ok (.ifCond cd o, 3)) (hc : ifCond.holds cd x = false) (K : Go p e below G T (mkF m pc' L (S))) (hp : pc + 3 = pc' := by rfl) : Go p e below G T (mkF m pc L (.int x :: S)) := by
  subst hp
  obtain ⟨vm0, k0, locs, X, eT, hS, hk, hZ, hown, hF, hN, hC, hsf, hE, ⟨a1, hEL⟩, hx, hby, hml, hnm, hrt, hlk⟩ := W
  subst hby
  exact K.st fun u k => XS.ifNo X.here hx rfl hd rfl hc k
theorem o_icY (pc' : Nat) (W : Wk p l e R s m args below meth c Z y bytes maxL ret T h ce sl sf) {cd : ClassFile.Cond} {x z : Int32} {o : Int} (hd : decode bytes pc = .ok (.if_icmp cd o, 3)) (hc : if_icmp.holds cd x z = true) (K : Go p e below G T (mkF m pc' L (S))) (ho : 0 ≤ (pc : Int) + o := by decide) (hp : ((pc : Int) + o).toNat = pc' := by decide) : Go p e below G T (mkF m pc L (.int z :: .int x :: S)) := by
  obtain ⟨vm0, k0, locs, X, eT, hS, hk, hZ, hown, hF, hN, hC, hsf, hE, ⟨a1, hEL⟩, hx, hby, hml, hnm, hrt, hlk⟩ := W
  subst hby
  exact K.st fun u k => XS.icmpYes X.here hx rfl (pc0 := pc) rfl hd rfl hc ho hp k
theorem o_icN (pc' : Nat) (W : Wk p l e R s m args below meth c Z y bytes maxL ret T h ce sl sf) {cd : ClassFile.Cond} {o : Int} {x z : Int32} (hd : decode bytes pc = .ok (.if_icmp cd o, 3)) (hc : if_icmp.holds cd x z = false) (K : Go p e below G T (mkF m pc' L (S))) (hp : pc + 3 = pc' := by rfl) : Go p e below G T (mkF m pc L (.int z :: .int x :: S)) := by
  subst hp
  obtain ⟨vm0, k0, locs, X, eT, hS, hk, hZ, hown, hF, hN, hC, hsf, hE, ⟨a1, hEL⟩, hx, hby, hml, hnm, hrt, hlk⟩ := W
  subst hby
  exact K.st fun u k => XS.icmpNo X.here hx rfl hd rfl hc k
theorem o_nullY (pc' : Nat) (W : Wk p l e R s m args below meth c Z y bytes maxL ret T h ce sl sf)  {o : Int} (hd : decode bytes pc = .ok (.ifnull o, 3))  (K : Go p e below G T (mkF m pc' L (S))) (ho : 0 ≤ (pc : Int) + o := by decide) (hp : ((pc : Int) + o).toNat = pc' := by decide) : Go p e below G T (mkF m pc L (.null :: S)) := by
  obtain ⟨vm0, k0, locs, X, eT, hS, hk, hZ, hown, hF, hN, hC, hsf, hE, ⟨a1, hEL⟩, hx, hby, hml, hnm, hrt, hlk⟩ := W
  subst hby
  exact K.st fun u k => XS.ifnullYes X.here hx rfl (pc0 := pc) rfl hd rfl ho hp k
theorem o_nullN (pc' : Nat) (W : Wk p l e R s m args below meth c Z y bytes maxL ret T h ce sl sf) {o : Int} {a : Addr} (hd : decode bytes pc = .ok (.ifnull o, 3))  (K : Go p e below G T (mkF m pc' L (S))) (hp : pc + 3 = pc' := by rfl) : Go p e below G T (mkF m pc L (.ref a :: S)) := by
  subst hp
  obtain ⟨vm0, k0, locs, X, eT, hS, hk, hZ, hown, hF, hN, hC, hsf, hE, ⟨a1, hEL⟩, hx, hby, hml, hnm, hrt, hlk⟩ := W
  subst hby
  exact K.st fun u k => XS.ifnullNo X.here hx rfl hd rfl k
theorem o_nnY (pc' : Nat) (W : Wk p l e R s m args below meth c Z y bytes maxL ret T h ce sl sf) {a : Addr} {o : Int} (hd : decode bytes pc = .ok (.ifnonnull o, 3))  (K : Go p e below G T (mkF m pc' L (S))) (ho : 0 ≤ (pc : Int) + o := by decide) (hp : ((pc : Int) + o).toNat = pc' := by decide) : Go p e below G T (mkF m pc L (.ref a :: S)) := by
  obtain ⟨vm0, k0, locs, X, eT, hS, hk, hZ, hown, hF, hN, hC, hsf, hE, ⟨a1, hEL⟩, hx, hby, hml, hnm, hrt, hlk⟩ := W
  subst hby
  exact K.st fun u k => XT.ifnonnullYes X.here hx rfl (pc0 := pc) rfl hd rfl ho hp k
theorem o_nnN (pc' : Nat) (W : Wk p l e R s m args below meth c Z y bytes maxL ret T h ce sl sf) {o : Int} (hd : decode bytes pc = .ok (.ifnonnull o, 3))  (K : Go p e below G T (mkF m pc' L (S))) (hp : pc + 3 = pc' := by rfl) : Go p e below G T (mkF m pc L (.null :: S)) := by
  subst hp
  obtain ⟨vm0, k0, locs, X, eT, hS, hk, hZ, hown, hF, hN, hC, hsf, hE, ⟨a1, hEL⟩, hx, hby, hml, hnm, hrt, hlk⟩ := W
  subst hby
  exact K.st fun u k => XT.ifnonnullNo X.here hx rfl hd rfl k
theorem o_aceq (pt pf : Nat) (W : Wk p l e R s m args below meth c Z y bytes maxL ret T h ce sl sf) {x z : Value} (h1 : x.isRef = true) (h2 : z.isRef = true) {o : Int} (hd : decode bytes pc = .ok (.if_acmp .eq o, 3)) (K1 : x = z → Go p e below G T (mkF m pt L S)) (K2 : ¬ x = z → Go p e below G T (mkF m pf L S)) (ho : 0 ≤ (pc : Int) + o := by decide) (hp : ((pc : Int) + o).toNat = pt := by decide) (hq : pc + 3 = pf := by rfl) : Go p e below G T (mkF m pc L (z :: x :: S)) := by
  subst hq hp
  obtain ⟨vm0, k0, locs, X, eT, hS, hk, hZ, hown, hF, hN, hC, hsf, hE, ⟨a1, hEL⟩, hx, hby, hml, hnm, hrt, hlk⟩ := W
  subst hby
  by_cases q : x = z
  · exact (K1 q).st fun u k => acmp X hx (g := mkF m pc L (z :: x :: S)) rfl h1 h2 (same := true) rfl hd rfl (by simp [q]) ho (by rfl) k
  · exact (K2 q).st fun u k => acmp X hx (g := mkF m pc L (z :: x :: S)) rfl h1 h2 (same := false) rfl hd rfl (by simp [q]) ho (by rfl) k
theorem o_acne (pt pf : Nat) (W : Wk p l e R s m args below meth c Z y bytes maxL ret T h ce sl sf) {x z : Value} (h1 : x.isRef = true) (h2 : z.isRef = true) {o : Int} (hd : decode bytes pc = .ok (.if_acmp .ne o, 3)) (K1 : ¬ x = z → Go p e below G T (mkF m pt L S)) (K2 : x = z → Go p e below G T (mkF m pf L S)) (ho : 0 ≤ (pc : Int) + o := by decide) (hp : ((pc : Int) + o).toNat = pt := by decide) (hq : pc + 3 = pf := by rfl) : Go p e below G T (mkF m pc L (z :: x :: S)) := by
  subst hq hp
  obtain ⟨vm0, k0, locs, X, eT, hS, hk, hZ, hown, hF, hN, hC, hsf, hE, ⟨a1, hEL⟩, hx, hby, hml, hnm, hrt, hlk⟩ := W
  subst hby
  by_cases q : x = z
  · exact (K2 q).st fun u k => acmp X hx (g := mkF m pc L (z :: x :: S)) rfl h1 h2 (same := true) rfl hd rfl (by simp [q]) ho (by rfl) k
  · exact (K1 q).st fun u k => acmp X hx (g := mkF m pc L (z :: x :: S)) rfl h1 h2 (same := false) rfl hd rfl (by simp [q]) ho (by rfl) k
theorem o_ldcI (pc' : Nat) (W : Wk p l e R s m args below meth c Z y bytes maxL ret T h ce sl sf) {i : Nat} {v : Int32} (w : (Jvm.Cond.constant y.cls i v).before a0 Z = true) (hd : decode bytes pc = .ok (.ldc i, 2)) (K : Go p e below G T (mkF m pc' L (.int v :: S))) (hp : pc + 2 = pc' := by rfl) : Go p e below G T (mkF m pc L S) := by
  subst hp
  obtain ⟨vm0, k0, locs, X, eT, hS, hk, hZ, hown, hF, hN, hC, hsf, hE, ⟨a1, hEL⟩, hx, hby, hml, hnm, hrt, hlk⟩ := W
  subst hby
  exact K.st fun u k => X.ldcI hx hown (mv hZ w) (g := mkF m pc L S) rfl hd k
theorem o_ldc2J (pc' : Nat) (W : Wk p l e R s m args below meth c Z y bytes maxL ret T h ce sl sf) {i : Nat} {v : Int64} (w : (Jvm.Cond.constantLong y.cls i v).before a0 Z = true) (hd : decode bytes pc = .ok (.ldc2_w i, 3)) (K : Go p e below G T (mkF m pc' L (.long v :: S))) (hp : pc + 3 = pc' := by rfl) : Go p e below G T (mkF m pc L S) := by
  subst hp
  obtain ⟨vm0, k0, locs, X, eT, hS, hk, hZ, hown, hF, hN, hC, hsf, hE, ⟨a1, hEL⟩, hx, hby, hml, hnm, hrt, hlk⟩ := W
  subst hby
  exact K.st fun u k => X.ldc2J hx hown (mv hZ w) (g := mkF m pc L S) rfl hd k
theorem o_getF (pc' : Nat) (W : Wk p l e R s m args below meth c Z y bytes maxL ret T h ce sl sf) {i : Nat} {R0 O n d : String} {a : Addr} {v : Value} (w : (Jvm.Cond.fieldLink y.cls i R0 n d).before a0 Z = true) (F : Fld Z h a O n d v) (hd : decode bytes pc = .ok (.getfield i, 3)) (K : ∀ T', Wk p l e R s m args below meth c Z y bytes maxL ret T' h ce sl sf → Go p e below G T' (mkF m pc' L (v :: S))) (via : Via Z R0 O n d := by exact Via.refl) (hp : pc + 3 = pc' := by rfl) : Go p e below G T (mkF m pc L (.ref a :: S)) := by
  subst hp
  obtain ⟨vm0, k0, locs, X, eT, hS, hk, hZ, hown, hF, hN, hC, hsf, hE, ⟨a1, hEL⟩, hx, hby, hml, hnm, hrt, hlk⟩ := W
  subst hby
  obtain ⟨T', X', e', st⟩ := getF X hx hZ hown (host := "") (Or.inl w) via eT F (g := mkF m pc L (.ref a :: S)) rfl rfl hd
  exact (K T' ⟨vm0, k0, locs, X', e', hS, hk, hZ, hown, hF, hN, hC, hsf, hE, ⟨a1, hEL⟩, hx, rfl, hml, hnm, hrt, hlk⟩).st st
theorem o_getS (pc' : Nat) (W : Wk p l e R s m args below meth c Z y bytes maxL ret T h ce sl sf) {i : Nat} {R0 O n d : String} {v : Value} (w : (Jvm.Cond.fieldLink y.cls i R0 n d).before a0 Z = true) (F : Sta Z Z.heap O n d v) (hd : decode bytes pc = .ok (.getstatic i, 3)) (K : ∀ T', Wk p l e R s m args below meth c Z y bytes maxL ret T' h ce sl sf → Go p e below G T' (mkF m pc' L (v :: S))) (via : Via Z R0 O n d := by exact Via.refl) (hp : pc + 3 = pc' := by rfl) : Go p e below G T (mkF m pc L S) := by
  subst hp
  obtain ⟨vm0, k0, locs, X, eT, hS, hk, hZ, hown, hF, hN, hC, hsf, hE, ⟨a1, hEL⟩, hx, hby, hml, hnm, hrt, hlk⟩ := W
  subst hby
  obtain ⟨T', X', e', st⟩ := getS X hx hZ hown w via eT (Sta.ext hE F) (g := mkF m pc L S) rfl hd (host := "")
  exact (K T' ⟨vm0, k0, locs, X', e', hS, hk, hZ, hown, hF, hN, hC, hsf, hE, ⟨a1, hEL⟩, hx, rfl, hml, hnm, hrt, hlk⟩).st st
theorem o_cast (pc' : Nat) (W : Wk p l e R s m args below meth c Z y bytes maxL ret T h ce sl sf) {i : Nat} {K0 : String} {a : Addr} (w : (Jvm.Cond.classLink y.cls i K0).before a0 Z = true) (F : Ins Z h a K0 true) (hd : decode bytes pc = .ok (.checkcast i, 3)) (K : ∀ T', Wk p l e R s m args below meth c Z y bytes maxL ret T' h ce sl sf → Go p e below G T' (mkF m pc' L (.ref a :: S))) (hp : pc + 3 = pc' := by rfl) : Go p e below G T (mkF m pc L (.ref a :: S)) := by
  subst hp
  obtain ⟨vm0, k0, locs, X, eT, hS, hk, hZ, hown, hF, hN, hC, hsf, hE, ⟨a1, hEL⟩, hx, hby, hml, hnm, hrt, hlk⟩ := W
  subst hby
  obtain ⟨T', X', e', st⟩ := castY X hx hZ hown w eT F (g := mkF m pc L (.ref a :: S)) rfl rfl hd
  exact (K T' ⟨vm0, k0, locs, X', e', hS, hk, hZ, hown, hF, hN, hC, hsf, hE, ⟨a1, hEL⟩, hx, rfl, hml, hnm, hrt, hlk⟩).st st
theorem o_instY (pc' : Nat) (W : Wk p l e R s m args below meth c Z y bytes maxL ret T h ce sl sf) {i : Nat} {K0 : String} {a : Addr} (w : (Jvm.Cond.classLink y.cls i K0).before a0 Z = true) (F : Ins Z h a K0 true) (hd : decode bytes pc = .ok (.instanceof i, 3)) (K : ∀ T', Wk p l e R s m args below meth c Z y bytes maxL ret T' h ce sl sf → Go p e below G T' (mkF m pc' L (.int 1 :: S))) (hp : pc + 3 = pc' := by rfl) : Go p e below G T (mkF m pc L (.ref a :: S)) := by
  subst hp
  obtain ⟨vm0, k0, locs, X, eT, hS, hk, hZ, hown, hF, hN, hC, hsf, hE, ⟨a1, hEL⟩, hx, hby, hml, hnm, hrt, hlk⟩ := W
  subst hby
  obtain ⟨T', X', e', st⟩ := instY X hx hZ hown w eT F (g := mkF m pc L (.ref a :: S)) rfl rfl hd
  exact (K T' ⟨vm0, k0, locs, X', e', hS, hk, hZ, hown, hF, hN, hC, hsf, hE, ⟨a1, hEL⟩, hx, rfl, hml, hnm, hrt, hlk⟩).st st
theorem o_instN (pc' : Nat) (W : Wk p l e R s m args below meth c Z y bytes maxL ret T h ce sl sf) {i : Nat} {K0 C : String} {a : Addr} (w : (Jvm.Cond.classLink y.cls i K0).before a0 Z = true) (E : Exa Z h a C) (F : ∃ c t, Z.vm.findClass C = some c ∧ Z.vm.findClass K0 = some t ∧ Z.vm.assignable c t = false) (hd : decode bytes pc = .ok (.instanceof i, 3)) (K : ∀ T', Wk p l e R s m args below meth c Z y bytes maxL ret T' h ce sl sf → Go p e below G T' (mkF m pc' L (.int 0 :: S))) (hp : pc + 3 = pc' := by rfl) : Go p e below G T (mkF m pc L (.ref a :: S)) := by
  subst hp
  obtain ⟨vm0, k0, locs, X, eT, hS, hk, hZ, hown, hF, hN, hC, hsf, hE, ⟨a1, hEL⟩, hx, hby, hml, hnm, hrt, hlk⟩ := W
  subst hby
  obtain ⟨T', X', e', st⟩ := instNo X hx hZ hown w eT E F (g := mkF m pc L (.ref a :: S)) rfl rfl hd
  exact (K T' ⟨vm0, k0, locs, X', e', hS, hk, hZ, hown, hF, hN, hC, hsf, hE, ⟨a1, hEL⟩, hx, rfl, hml, hnm, hrt, hlk⟩).st st
theorem o_instNull (pc' : Nat) (W : Wk p l e R s m args below meth c Z y bytes maxL ret T h ce sl sf) {i : Nat} (hd : decode bytes pc = .ok (.instanceof i, 3)) (K : Go p e below G T (mkF m pc' L (.int 0 :: S))) (hp : pc + 3 = pc' := by rfl) : Go p e below G T (mkF m pc L (.null :: S)) := by
  subst hp
  obtain ⟨vm0, k0, locs, X, eT, hS, hk, hZ, hown, hF, hN, hC, hsf, hE, ⟨a1, hEL⟩, hx, hby, hml, hnm, hrt, hlk⟩ := W
  subst hby
  exact K.st fun u k => X.instanceofNull hx (g := mkF m pc L (.null :: S)) rfl rfl hd u k
theorem o_castNull (pc' : Nat) (W : Wk p l e R s m args below meth c Z y bytes maxL ret T h ce sl sf) {i : Nat} (hd : decode bytes pc = .ok (.checkcast i, 3)) (K : Go p e below G T (mkF m pc' L (.null :: S))) (hp : pc + 3 = pc' := by rfl) : Go p e below G T (mkF m pc L (.null :: S)) := by
  subst hp
  obtain ⟨vm0, k0, locs, X, eT, hS, hk, hZ, hown, hF, hN, hC, hsf, hE, ⟨a1, hEL⟩, hx, hby, hml, hnm, hrt, hlk⟩ := W
  subst hby
  exact K.st fun u k => X.checkcastNull hx (g := mkF m pc L (.null :: S)) rfl rfl hd u k
theorem o_iaload (pc' : Nat) (W : Wk p l e R s m args below meth c Z y bytes maxL ret T h ce sl sf) {a : Addr} {cl : Cell} {j : Int32} {v : Value} (A : Arr Z h a cl .int) (hj : ¬ (j < 0 ∨ cl.slots.size ≤ j.toNatClampNeg)) (hv : cl.slots[j.toNatClampNeg]? = some v) (hd : decode bytes pc = .ok (.iaload, 1)) (K : Go p e below G T (mkF m pc' L (v :: S))) (hp : pc + 1 = pc' := by rfl) : Go p e below G T (mkF m pc L (.int j :: .ref a :: S)) := by
  subst hp
  obtain ⟨vm0, k0, locs, X, eT, hS, hk, hZ, hown, hF, hN, hC, hsf, hE, ⟨a1, hEL⟩, hx, hby, hml, hnm, hrt, hlk⟩ := W
  subst hby
  exact K.st fun u k => X.iaload hx (by rw [eT]; exact A.1) (State.isArrayOf_alike hZ.alike A.2.1) A.2.2 hj hv (g := mkF m pc L (.int j :: .ref a :: S)) rfl rfl hd u k
theorem o_caload (pc' : Nat) (W : Wk p l e R s m args below meth c Z y bytes maxL ret T h ce sl sf) {a : Addr} {cl : Cell} {j : Int32} {v : Value} (A : Arr Z h a cl .char) (hj : ¬ (j < 0 ∨ cl.slots.size ≤ j.toNatClampNeg)) (hv : cl.slots[j.toNatClampNeg]? = some v) (hd : decode bytes pc = .ok (.caload, 1)) (K : Go p e below G T (mkF m pc' L (v :: S))) (hp : pc + 1 = pc' := by rfl) : Go p e below G T (mkF m pc L (.int j :: .ref a :: S)) := by
  subst hp
  obtain ⟨vm0, k0, locs, X, eT, hS, hk, hZ, hown, hF, hN, hC, hsf, hE, ⟨a1, hEL⟩, hx, hby, hml, hnm, hrt, hlk⟩ := W
  subst hby
  exact K.st fun u k => X.caload hx (by rw [eT]; exact A.1) (State.isArrayOf_alike hZ.alike A.2.1) A.2.2 hj hv (g := mkF m pc L (.int j :: .ref a :: S)) rfl rfl hd u k
theorem o_baload (pc' : Nat) (W : Wk p l e R s m args below meth c Z y bytes maxL ret T h ce sl sf) {a : Addr} {cl : Cell} {j : Int32} {v : Value} (A : Arr Z h a cl .byte) (hj : ¬ (j < 0 ∨ cl.slots.size ≤ j.toNatClampNeg)) (hv : cl.slots[j.toNatClampNeg]? = some v) (hd : decode bytes pc = .ok (.baload, 1)) (K : Go p e below G T (mkF m pc' L (v :: S))) (hp : pc + 1 = pc' := by rfl) : Go p e below G T (mkF m pc L (.int j :: .ref a :: S)) := by
  subst hp
  obtain ⟨vm0, k0, locs, X, eT, hS, hk, hZ, hown, hF, hN, hC, hsf, hE, ⟨a1, hEL⟩, hx, hby, hml, hnm, hrt, hlk⟩ := W
  subst hby
  exact K.st fun u k => X.baloadBytes hx (by rw [eT]; exact A.1) (State.isArrayOf_alike hZ.alike A.2.1) A.2.2 hj hv (g := mkF m pc L (.int j :: .ref a :: S)) rfl rfl hd u k
theorem o_laload (pc' : Nat) (W : Wk p l e R s m args below meth c Z y bytes maxL ret T h ce sl sf) {a : Addr} {cl : Cell} {j : Int32} {v : Value} (A : Arr Z h a cl .long) (hj : ¬ (j < 0 ∨ cl.slots.size ≤ j.toNatClampNeg)) (hv : cl.slots[j.toNatClampNeg]? = some v) (hd : decode bytes pc = .ok (.laload, 1)) (K : Go p e below G T (mkF m pc' L (v :: S))) (hp : pc + 1 = pc' := by rfl) : Go p e below G T (mkF m pc L (.int j :: .ref a :: S)) := by
  subst hp
  obtain ⟨vm0, k0, locs, X, eT, hS, hk, hZ, hown, hF, hN, hC, hsf, hE, ⟨a1, hEL⟩, hx, hby, hml, hnm, hrt, hlk⟩ := W
  subst hby
  exact K.st fun u k => X.laload hx (by rw [eT]; exact A.1) (State.isArrayOf_alike hZ.alike A.2.1) A.2.2 hj hv (g := mkF m pc L (.int j :: .ref a :: S)) rfl rfl hd u k
theorem o_aaload (pc' : Nat) (W : Wk p l e R s m args below meth c Z y bytes maxL ret T h ce sl sf) {a : Addr} {cl : Cell} {j : Int32} {v : Value} {ty : FieldType} (A : Arr Z h a cl ty) (hty : ty.isReference = true) (hj : ¬ (j < 0 ∨ cl.slots.size ≤ j.toNatClampNeg)) (hv : cl.slots[j.toNatClampNeg]? = some v) (hd : decode bytes pc = .ok (.aaload, 1)) (K : Go p e below G T (mkF m pc' L (v :: S))) (hp : pc + 1 = pc' := by rfl) : Go p e below G T (mkF m pc L (.int j :: .ref a :: S)) := by
  subst hp
  obtain ⟨vm0, k0, locs, X, eT, hS, hk, hZ, hown, hF, hN, hC, hsf, hE, ⟨a1, hEL⟩, hx, hby, hml, hnm, hrt, hlk⟩ := W
  subst hby
  exact K.st fun u k => X.aaload hx (by rw [eT]; exact A.1) (State.isArrayOf_alike hZ.alike A.2.1) hty A.2.2 hj hv (g := mkF m pc L (.int j :: .ref a :: S)) rfl rfl hd u k
theorem o_alen (pc' : Nat) (W : Wk p l e R s m args below meth c Z y bytes maxL ret T h ce sl sf) {a : Addr} {cl : Cell} {ty : FieldType} (n : Int32) (A : Arr Z h a cl ty) (hn : cl.slots.size.toInt32 = n) (hd : decode bytes pc = .ok (.arraylength, 1)) (K : Go p e below G T (mkF m pc' L (.int n :: S))) (hp : pc + 1 = pc' := by rfl) : Go p e below G T (mkF m pc L (.ref a :: S)) := by
  subst hp hn
  obtain ⟨vm0, k0, locs, X, eT, hS, hk, hZ, hown, hF, hN, hC, hsf, hE, ⟨a1, hEL⟩, hx, hby, hml, hnm, hrt, hlk⟩ := W
  subst hby
  exact K.st fun u k => X.arraylength hx (by rw [eT]; exact A.1) (State.isArrayOf_alike hZ.alike A.2.1) (g := mkF m pc L (.ref a :: S)) rfl rfl hd u k
theorem o_ialoadV (pc' : Nat) (W : Wk p l e R s m args below meth c Z y bytes maxL ret T h ce sl sf) {a : Addr} {k : ClassId} {z j : Int32} {vs : List Value} {dv v : Value} (A : Arv Z h a k .int z vs dv) (hj : ¬ j < 0 ∧ j < z) (hv : vs.getD j.toNatClampNeg dv = v) (hd : decode bytes pc = .ok (.iaload, 1)) (K : Go p e below G T (mkF m pc' L (v :: S))) (hp : pc + 1 = pc' := by rfl) : Go p e below G T (mkF m pc L (.int j :: .ref a :: S)) := by
  obtain ⟨cl, A1, A2, A3, A4, A5, A6⟩ := A
  exact o_iaload pc' W A1 (inb_of A3 hj) (Has.at A5 (inb_of A3 hj) hv) hd K hp
theorem o_caloadV (pc' : Nat) (W : Wk p l e R s m args below meth c Z y bytes maxL ret T h ce sl sf) {a : Addr} {k : ClassId} {z j : Int32} {vs : List Value} {dv v : Value} (A : Arv Z h a k .char z vs dv) (hj : ¬ j < 0 ∧ j < z) (hv : vs.getD j.toNatClampNeg dv = v) (hd : decode bytes pc = .ok (.caload, 1)) (K : Go p e below G T (mkF m pc' L (v :: S))) (hp : pc + 1 = pc' := by rfl) : Go p e below G T (mkF m pc L (.int j :: .ref a :: S)) := by
  obtain ⟨cl, A1, A2, A3, A4, A5, A6⟩ := A
  exact o_caload pc' W A1 (inb_of A3 hj) (Has.at A5 (inb_of A3 hj) hv) hd K hp
theorem o_baloadV (pc' : Nat) (W : Wk p l e R s m args below meth c Z y bytes maxL ret T h ce sl sf) {a : Addr} {k : ClassId} {z j : Int32} {vs : List Value} {dv v : Value} (A : Arv Z h a k .byte z vs dv) (hj : ¬ j < 0 ∧ j < z) (hv : vs.getD j.toNatClampNeg dv = v) (hd : decode bytes pc = .ok (.baload, 1)) (K : Go p e below G T (mkF m pc' L (v :: S))) (hp : pc + 1 = pc' := by rfl) : Go p e below G T (mkF m pc L (.int j :: .ref a :: S)) := by
  obtain ⟨cl, A1, A2, A3, A4, A5, A6⟩ := A
  exact o_baload pc' W A1 (inb_of A3 hj) (Has.at A5 (inb_of A3 hj) hv) hd K hp
theorem o_alenV (pc' : Nat) (W : Wk p l e R s m args below meth c Z y bytes maxL ret T h ce sl sf) {a : Addr} {k : ClassId} {z : Int32} {ty : FieldType} {vs : List Value} {dv : Value} (A : Arv Z h a k ty z vs dv) (hd : decode bytes pc = .ok (.arraylength, 1)) (K : Go p e below G T (mkF m pc' L (.int z :: S))) (hp : pc + 1 = pc' := by rfl) : Go p e below G T (mkF m pc L (.ref a :: S)) := by
  obtain ⟨cl, A1, A2, A3, A4, A5, A6⟩ := A
  exact o_alen pc' W z A1 (len_of A3 A4) hd K hp
theorem o_new (pc' : Nat) (W : Wk p l e R s m args below meth c Z y bytes maxL ret T h ce sl sf) {C : String} {i n : Nat} (w : (Jvm.Cond.classLink y.cls i C).before a0 Z = true) (wi : (Jvm.Cond.instantiable C n).before a0 Z = true) (wz : (Jvm.Cond.initialized C).before a0 Z = true) (hd : decode bytes pc = .ok (.new i, 3))
    (K : ∀ T' h' a, Wk p l e R s m args below meth c Z y bytes maxL ret T' h' (ce + 1) (sl + n) (a :: sf) → Ext h h' → Exa Z h' a C → (∀ {O nm d : String} {ty : FieldType}, Laid Z a0 C O nm d → parseFieldDescriptor d = some ty → Fld Z h' a O nm d (defaultValue ty)) → h.size ≤ a → Z.heap.size ≤ a → Go p e below G T' (mkF m pc' L (.ref a :: S)))
    (hc : ce + 1 ≤ R.cells := by decide) (hs : sl + n ≤ R.slots := by decide) (hp : pc + 3 = pc' := by rfl) : Go p e below G T (mkF m pc L S) := by
  subst hp
  obtain ⟨vm0, k0, locs, X, eT, hS, hk, hZ, hown, hF, hN, hC, hsf, hE, ⟨a1, hEL⟩, hx, hby, hml, hnm, hrt, hlk⟩ := W
  subst hby
  obtain ⟨T', h', X', e', E, A, D, -, st⟩ := newO X hx hZ hown w wi wz eT (g := mkF m pc L S) rfl hd hc hs
  refine (K T' h' h.size ⟨vm0, k0, locs, X', e', hS, Nat.le_trans hk E.1, hZ, hown, hF, hN, hC.trans (CHr.ext E hC.1), fun x q => ?_, own_ext_trans hE E, ⟨a1, hEL⟩, hx, rfl, hml, hnm, hrt, hlk⟩ E A D (Nat.le_refl _) hE.1).st st
  rcases List.mem_cons.mp q with rfl | q
  · exact ⟨A.lt, Safe.ext E hC.1 (Safe.new (Nat.le_refl _))⟩
  · exact ⟨Nat.lt_of_lt_of_le (hsf x q).1 E.1, Safe.ext E hC.1 (hsf x q).2⟩
theorem own_pad {a : Addr} {k : ClassId} {ty : FieldType} {z : Int32} {dv : Value} (n : Nat) (A : Arv Z h a k ty z [] dv) : Arv Z h a k ty z (List.replicate n dv) dv := A.pad fun i => by
  rw [List.getD_eq_getElem?_getD, List.getElem?_replicate]; split <;> simp
theorem o_newarray (pc' : Nat) (cap : Nat) (W : Wk p l e R s m args below meth c Z y bytes maxL ret T h ce sl sf) {aty : ArrayType} {n : Int32} (w : (Jvm.Cond.arrayClass (newarray.typeOf aty)).before a0 Z = true) (hd : decode bytes pc = .ok (.newarray aty, 2)) (hn : ¬ n < 0) (hcap : n.toNatClampNeg ≤ cap)
    (K : ∀ T' h' a k, Wk p l e R s m args below meth c Z y bytes maxL ret T' h' (ce + 1) (sl + cap) (a :: sf) → Ext h h' → Arv Z h' a k (newarray.typeOf aty) n [] (defaultValue (newarray.typeOf aty)) → h.size ≤ a → Z.heap.size ≤ a → Go p e below G T' (mkF m pc' L (.ref a :: S)))
    (hb : cap * 8 ≤ 536870912 := by decide) (hc : ce + 1 ≤ R.cells := by decide) (hs : sl + cap ≤ R.slots := by decide) (hp : pc + 2 = pc' := by rfl) : Go p e below G T (mkF m pc L (.int n :: S)) := by
  subst hp
  obtain ⟨vm0, k0, locs, X, eT, hS, hk, hZ, hown, hF, hN, hC, hsf, hE, ⟨a1, hEL⟩, hx, hby, hml, hnm, hrt, hlk⟩ := W
  subst hby
  obtain ⟨T', h', cA, X', e', E, A, st⟩ := newP X hx hZ w eT (g := mkF m pc L (.int n :: S)) rfl hd rfl hn hcap hb hc hs
  refine (K T' h' h.size cA ⟨vm0, k0, locs, X', e', hS, Nat.le_trans hk E.1, hZ, hown, hF, hN, hC.trans (CHr.ext E hC.1), fun x q => ?_, own_ext_trans hE E, ⟨a1, hEL⟩, hx, rfl, hml, hnm, hrt, hlk⟩ E (Arv.new A hn) (Nat.le_refl _) hE.1).st st
  rcases List.mem_cons.mp q with rfl | q
  · exact ⟨A.lt, Safe.ext E hC.1 (Safe.new (Nat.le_refl _))⟩
  · exact ⟨Nat.lt_of_lt_of_le (hsf x q).1 E.1, Safe.ext E hC.1 (hsf x q).2⟩
theorem o_putF (pc' : Nat) (W : Wk p l e R s m args below meth c Z y bytes maxL ret T h ce sl sf) {i kk : Nat} {R0 O n d C : String} {ty : FieldType} {a : Addr} {v old : Value} (w : (Jvm.Cond.fieldLink y.cls i R0 n d).before a0 Z = true) (F : Fld Z h a O n d old) (E : Exa Z h a C) (Lz : (Jvm.Cond.lays C O n d).before a0 Z = true ∨ ((Jvm.Cond.laysFinal C O n d).before a0 Z = true ∧ y.cls = O ∧ y.name = "<init>")) (wi : (Jvm.Cond.instantiable C kk).before a0 Z = true) (hty : parseFieldDescriptor d = some ty) (hn : narrow ty v = v) (hf : fits ty v = true) (hsafe : a ∈ sf ∨ (C ≠ "java/lang/String" ∧ C ≠ "[B")) (ha : Z.heap.size ≤ a) (hd : decode bytes pc = .ok (.putfield i, 3))
    (K : ∀ T' h', Wk p l e R s m args below meth c Z y bytes maxL ret T' h' ce sl sf → Wr h h' a (Jvm.RoadKit.slotOf Z O n d) v → Go p e below G T' (mkF m pc' L S)) (via : Via Z R0 O n d := by exact Via.refl) (hp : pc + 3 = pc' := by rfl) : Go p e below G T (mkF m pc L (v :: .ref a :: S)) := by
  subst hp
  obtain ⟨vm0, k0, locs, X, eT, hS, hk, hZ, hown, hF, hN, hC, hsf, hE, ⟨a1, hEL⟩, hx, hby, hml, hnm, hrt, hlk⟩ := W
  subst hby
  have hsa : Safe Z own_EL vm0 h a := hsafe.elim (fun q => (hsf a q).2) fun q => Safe.exa hZ.alike E q.1 q.2
  obtain ⟨T', h', X', e', Wr0, st⟩ := putF X hx hZ hown (host := "") (Or.inl w) via eT F E (Lz.imp id fun q => ⟨q.1, q.2.1, hnm.trans q.2.2⟩) wi hty hn hf (g := mkF m pc L (v :: .ref a :: S)) rfl rfl hd
  exact (K T' h' ⟨vm0, k0, _, X', e', hS, Nat.le_trans hk (Nat.le_of_eq Wr0.size.symm), hZ, hown, Fr.snoc X' hF ha, hN, hC.trans (CHr.wr Wr0 hsa hC.1), fun x q => ⟨Nat.lt_of_lt_of_le (hsf x q).1 (Nat.le_of_eq Wr0.size.symm), Safe.wr Wr0 hsa hC.1 (hsf x q).2⟩, own_ext_wr hE Wr0 ha, ⟨a1, hEL⟩, hx, rfl, hml, hnm, hrt, hlk⟩ Wr0).st st
theorem o_initO (pc' : Nat) (W : Wk p l e R s m args below meth c Z y bytes maxL ret T h ce sl sf) {i : Nat} {a : Addr} (w1 : (Jvm.Cond.methodLink y.cls i Lib.objectInit).before a0 Z = true) (w2 : (Jvm.Cond.instanceMethod Lib.objectInit).before a0 Z = true) (w3 : (Jvm.Cond.code Lib.objectInit ⟨#[0xb1]⟩ 1 none).before a0 Z = true) (hd : decode bytes pc = .ok (.invokespecial i, 3)) (K : ∀ T', Wk p l e R s m args below meth c Z y bytes maxL ret T' h ce sl sf → Go p e below G T' (mkF m pc' L S)) (hsz : L.size = maxL := by rfl) (hf : 1 ≤ R.frames := by decide) (hl : (S.map fun v => v.category).sum + 12 ≤ R.locals := by first | decide | exact Nat.le_of_ble_eq_true rfl) (hp : pc + 3 = pc' := by rfl) : Go p e below G T (mkF m pc L (.ref a :: S)) := by
  subst hp
  obtain ⟨vm0, k0, locs, X, eT, hS, hk, hZ, hown, hF, hN, hC, hsf, hE, ⟨a1, hEL⟩, hx, hby, hml, hnm, hrt, hlk⟩ := W
  subst hby
  obtain ⟨T', X', e', st⟩ := initO X hx hZ hown w1 w2 w3 eT (g := mkF m pc L (.ref a :: S)) rfl (by rw [hml]; exact hsz) rfl hd hf (W := (S.map fun v => v.category).sum) (by show 2 * 0 + _ ≤ _; omega) hl
  exact (K T' ⟨vm0, k0, locs, X', e', hS, hk, hZ, hown, hF, hN, hC, hsf, hE, ⟨a1, hEL⟩, hx, rfl, hml, hnm, hrt, hlk⟩).st st
theorem o_castore (pc' : Nat) (i : Nat) (W : Wk p l e R s m args below meth c Z y bytes maxL ret T h ce sl sf) {a : Addr} {k : ClassId} {z j x : Int32} {vs : List Value} {dv : Value} (A : Arv Z h a k .char z vs dv) (hj : ¬ j < 0 ∧ j < z) (hi : j.toNatClampNeg = i) (hlt : i < vs.length)  (ha : Z.heap.size ≤ a) (hd : decode bytes pc = .ok (.castore, 1))
    (K : ∀ T' h', Wk p l e R s m args below meth c Z y bytes maxL ret T' h' ce sl sf → Wr h h' a j.toNatClampNeg (.int (nar .char x)) → Arv Z h' a k .char z (vs.set i (.int (nar .char x))) dv → Go p e below G T' (mkF m pc' L S)) (hp : pc + 1 = pc' := by rfl) : Go p e below G T (mkF m pc L (.int x :: .int j :: .ref a :: S)) := by
  subst hp
  obtain ⟨vm0, k0, locs, X, eT, hS, hk, hZ, hown, hF, hN, hC, hsf, hE, ⟨a1, hEL⟩, hx, hby, hml, hnm, hrt, hlk⟩ := W
  subst hby
  obtain ⟨cl, A1, A2, A3, A4, A5, A6⟩ := A
  have hsa : Safe Z own_EL vm0 h a := Safe.arr hZ.alike A1 (by decide)
  obtain ⟨T', h', X', e', Wr0, st⟩ := stC X hx hZ eT A1 (inb_of A3 hj) (g := mkF m pc L (.int x :: .int j :: .ref a :: S)) rfl rfl hd
  exact (K T' h' ⟨vm0, k0, _, X', e', hS, Nat.le_trans hk (Nat.le_of_eq Wr0.size.symm), hZ, hown, Fr.snoc X' hF ha, hN, hC.trans (CHr.wr Wr0 hsa hC.1), fun x q => ⟨Nat.lt_of_lt_of_le (hsf x q).1 (Nat.le_of_eq Wr0.size.symm), Safe.wr Wr0 hsa hC.1 (hsf x q).2⟩, own_ext_wr hE Wr0 ha, ⟨a1, hEL⟩, hx, rfl, hml, hnm, hrt, hlk⟩ Wr0 (Arv.set A1 A2 A3 A4 A5 A6 (fits_nar_char x) Wr0 i hi hlt)).st st
theorem o_bastore (pc' : Nat) (i : Nat) (W : Wk p l e R s m args below meth c Z y bytes maxL ret T h ce sl sf) {a : Addr} {k : ClassId} {z j x : Int32} {vs : List Value} {dv : Value} (A : Arv Z h a k .byte z vs dv) (hj : ¬ j < 0 ∧ j < z) (hi : j.toNatClampNeg = i) (hlt : i < vs.length) (hsafe : a ∈ sf) (ha : Z.heap.size ≤ a) (hd : decode bytes pc = .ok (.bastore, 1))
    (K : ∀ T' h', Wk p l e R s m args below meth c Z y bytes maxL ret T' h' ce sl sf → Wr h h' a j.toNatClampNeg (.int (nar .byte x)) → Arv Z h' a k .byte z (vs.set i (.int (nar .byte x))) dv → Go p e below G T' (mkF m pc' L S)) (hp : pc + 1 = pc' := by rfl) : Go p e below G T (mkF m pc L (.int x :: .int j :: .ref a :: S)) := by
  subst hp
  obtain ⟨vm0, k0, locs, X, eT, hS, hk, hZ, hown, hF, hN, hC, hsf, hE, ⟨a1, hEL⟩, hx, hby, hml, hnm, hrt, hlk⟩ := W
  subst hby
  obtain ⟨cl, A1, A2, A3, A4, A5, A6⟩ := A
  have hsa : Safe Z own_EL vm0 h a := (hsf a hsafe).2
  obtain ⟨T', h', X', e', Wr0, st⟩ := stB X hx hZ eT A1 (inb_of A3 hj) (g := mkF m pc L (.int x :: .int j :: .ref a :: S)) rfl rfl hd
  exact (K T' h' ⟨vm0, k0, _, X', e', hS, Nat.le_trans hk (Nat.le_of_eq Wr0.size.symm), hZ, hown, Fr.snoc X' hF ha, hN, hC.trans (CHr.wr Wr0 hsa hC.1), fun x q => ⟨Nat.lt_of_lt_of_le (hsf x q).1 (Nat.le_of_eq Wr0.size.symm), Safe.wr Wr0 hsa hC.1 (hsf x q).2⟩, own_ext_wr hE Wr0 ha, ⟨a1, hEL⟩, hx, rfl, hml, hnm, hrt, hlk⟩ Wr0 (Arv.set A1 A2 A3 A4 A5 A6 (fits_nar_byte x) Wr0 i hi hlt)).st st
theorem o_iastore (pc' : Nat) (i : Nat) (W : Wk p l e R s m args below meth c Z y bytes maxL ret T h ce sl sf) {a : Addr} {k : ClassId} {z j x : Int32} {vs : List Value} {dv : Value} (A : Arv Z h a k .int z vs dv) (hj : ¬ j < 0 ∧ j < z) (hi : j.toNatClampNeg = i) (hlt : i < vs.length)  (ha : Z.heap.size ≤ a) (hd : decode bytes pc = .ok (.iastore, 1))
    (K : ∀ T' h', Wk p l e R s m args below meth c Z y bytes maxL ret T' h' ce sl sf → Wr h h' a j.toNatClampNeg (.int x) → Arv Z h' a k .int z (vs.set i (.int x)) dv → Go p e below G T' (mkF m pc' L S)) (hp : pc + 1 = pc' := by rfl) : Go p e below G T (mkF m pc L (.int x :: .int j :: .ref a :: S)) := by
  subst hp
  obtain ⟨vm0, k0, locs, X, eT, hS, hk, hZ, hown, hF, hN, hC, hsf, hE, ⟨a1, hEL⟩, hx, hby, hml, hnm, hrt, hlk⟩ := W
  subst hby
  obtain ⟨cl, A1, A2, A3, A4, A5, A6⟩ := A
  have hsa : Safe Z own_EL vm0 h a := Safe.arr hZ.alike A1 (by decide)
  obtain ⟨T', h', X', e', Wr0, st⟩ := stI X hx hZ eT A1 (inb_of A3 hj) (g := mkF m pc L (.int x :: .int j :: .ref a :: S)) rfl rfl hd
  exact (K T' h' ⟨vm0, k0, _, X', e', hS, Nat.le_trans hk (Nat.le_of_eq Wr0.size.symm), hZ, hown, Fr.snoc X' hF ha, hN, hC.trans (CHr.wr Wr0 hsa hC.1), fun x q => ⟨Nat.lt_of_lt_of_le (hsf x q).1 (Nat.le_of_eq Wr0.size.symm), Safe.wr Wr0 hsa hC.1 (hsf x q).2⟩, own_ext_wr hE Wr0 ha, ⟨a1, hEL⟩, hx, rfl, hml, hnm, hrt, hlk⟩ Wr0 (Arv.set A1 A2 A3 A4 A5 A6 (rfl) Wr0 i hi hlt)).st st
theorem o_arraycopy (pc' : Nat) (W : Wk p l e R s m args below meth c Z y bytes maxL ret T h ce sl sf) {i : Nat} {a b : Addr} {k k' : ClassId} {z z' sp dp nn : Int32} {vs vd us : List Value} {dv dd : Value} {ty : FieldType} (w1 : (Jvm.Cond.methodLink y.cls i Jvm.Stand.acN).before a0 Z = true) (w2 : (Jvm.Cond.native Jvm.Stand.acN).before a0 Z = true) (w3 : (Jvm.Cond.static Jvm.Stand.acN).before a0 Z = true) (w4 : (Jvm.Cond.initialized "java/lang/System").before a0 Z = true) (A : Arv Z h a k ty z vs dv) (B : Arv Z h b k' ty z' vd dd) (hty : refKind ty = false)
    (h1 : ¬ sp < 0) (h2 : ¬ dp < 0) (h3 : ¬ nn < 0) (h4 : sp.toNatClampNeg + nn.toNatClampNeg ≤ z.toNatClampNeg) (h5 : dp.toNatClampNeg + nn.toNatClampNeg ≤ z'.toNatClampNeg) (hus : us = (List.range nn.toNatClampNeg).map fun i => vs.getD (sp.toNatClampNeg + i) dv) (hlv : dp.toNatClampNeg + nn.toNatClampNeg ≤ vd.length) (hsafe : b ∈ sf) (hb : Z.heap.size ≤ b) (hd : decode bytes pc = .ok (.invokestatic i, 3))
    (K : ∀ T' h', Wk p l e R s m args below meth c Z y bytes maxL ret T' h' ce sl sf → Keep h h' [b] → Arv Z h' b k' ty z' (vd.take dp.toNatClampNeg ++ us ++ vd.drop (dp.toNatClampNeg + nn.toNatClampNeg)) dd → Go p e below G T' (mkF m pc' L S)) (hsz : L.size = maxL := by rfl) (hf : 1 ≤ R.frames := by decide) (hl : (S.map fun v => v.category).sum + (nativeFrameWords "java/lang/System" "arraycopy" 5 + 11) ≤ R.locals := by first | decide | exact Nat.le_of_ble_eq_true rfl) (hp : pc + 3 = pc' := by rfl) : Go p e below G T (mkF m pc L (.int nn :: .int dp :: .ref b :: .int sp :: .ref a :: S)) := by
  subst hp
  obtain ⟨vm0, k0, locs, X, eT, hS, hk, hZ, hown, hF, hN, hC, hsf, hE, ⟨a1, hEL⟩, hx, hby, hml, hnm, hrt, hlk⟩ := W
  subst hby
  obtain ⟨T', h', L', X', e', N', Kp, A', st⟩ := cpA X hx hZ hown w1 w2 w3 w4 eT A B (Or.inl ⟨rfl, hty⟩) h1 h2 h3 h4 h5 hus hlv hF hb (g := mkF m pc L (.int nn :: .int dp :: .ref b :: .int sp :: .ref a :: S)) rfl (by rw [hml]; exact hsz) rfl hd hf (W := (S.map fun v => v.category).sum) (by show 2 * 0 + _ ≤ _; omega) hl
  have hs1 : ∀ x ∈ [b], Safe Z own_EL vm0 h x := fun x q => by rw [List.mem_singleton.mp q]; exact (hsf b hsafe).2
  have hE' : Ext Z.heap h' := ⟨Nat.le_trans hE.1 Kp.1, fun x cc r => Kp.2.1 x cc (hE.2 x cc r) fun q => by
    have hlt := (Array.getElem?_eq_some_iff.mp r).1
    rw [List.mem_singleton.mp q] at hlt; omega⟩
  exact (K T' h' ⟨vm0, k0, L', X', e', hS, Nat.le_trans hk Kp.1, hZ, hown, N', hN, hC.trans (CHr.keep Kp hs1 hC.1), fun x q => ⟨Nat.lt_of_lt_of_le (hsf x q).1 Kp.1, Safe.keep Kp hs1 hC.1 (hsf x q).2⟩, hE', ⟨a1, hEL⟩, hx, rfl, hml, hnm, hrt, hlk⟩ Kp A').st st
theorem o_clone (pc' : Nat) (cap : Nat) (W : Wk p l e R s m args below meth c Z y bytes maxL ret T h ce sl sf) {i : Nat} {ad : String} {a : Addr} {k : ClassId} {ty : FieldType} {z : Int32} {vs : List Value} {dv : Value} (w1 : (Jvm.Cond.methodLink y.cls i ⟨ad, "clone", "()Ljava/lang/Object;"⟩).before a0 Z = true) (w2 : (Jvm.Cond.sameMethod ad "java/lang/Object" "clone" "()Ljava/lang/Object;").before a0 Z = true) (w3 : (Jvm.Cond.native ⟨"java/lang/Object", "clone", "()Ljava/lang/Object;"⟩).before a0 Z = true) (w4 : (Jvm.Cond.instanceMethod ⟨"java/lang/Object", "clone", "()Ljava/lang/Object;"⟩).before a0 Z = true) (w5 : (Jvm.Cond.selects ad ⟨ad, "clone", "()Ljava/lang/Object;"⟩ ⟨"java/lang/Object", "clone", "()Ljava/lang/Object;"⟩).before a0 Z = true) (w6 : (Jvm.Cond.castable ad "java/lang/Cloneable").before a0 Z = true) (F : Arv Z h a k ty z vs dv) (E : Exa Z h a ad) (hd : decode bytes pc = .ok (.invokevirtual i, 3)) (hcap : z.toNatClampNeg ≤ cap)
    (K : ∀ T' h' b, Wk p l e R s m args below meth c Z y bytes maxL ret T' h' (ce + 1) (sl + cap) (b :: sf) → Ext h h' → Arv Z h' b k ty z vs dv → Exa Z h' b ad → h.size ≤ b → Z.heap.size ≤ b → Go p e below G T' (mkF m pc' L (.ref b :: S))) (hsz : L.size = maxL := by rfl) (hf : 1 ≤ R.frames := by decide) (hl : (S.map fun v => v.category).sum + 14 ≤ R.locals := by first | decide | exact Nat.le_of_ble_eq_true rfl) (hc : ce + 1 ≤ R.cells := by decide) (hs : sl + cap ≤ R.slots := by decide) (hp : pc + 3 = pc' := by rfl) : Go p e below G T (mkF m pc L (.ref a :: S)) := by
  subst hp
  obtain ⟨vm0, k0, locs, X, eT, hS, hk, hZ, hown, hF, hN, hC, hsf, hE, ⟨a1, hEL⟩, hx, hby, hml, hnm, hrt, hlk⟩ := W
  subst hby
  obtain ⟨T', h', X', e', Ee, A, Ex, st⟩ := cloneH X hx hZ hown w1 w2 w3 w4 w5 w6 eT (hs := []) F E (g := mkF m pc L (.ref a :: S)) rfl (by rw [hml]; exact hsz) rfl hd hf (W := (S.map fun v => v.category).sum) (by show 2 * 0 + _ ≤ _; omega) hl hcap hc hs
  refine (K T' h' h.size ⟨vm0, k0, locs, X', e', hS, Nat.le_trans hk Ee.1, hZ, hown, hF, hN, hC.trans (CHr.ext Ee hC.1), fun x q => ?_, own_ext_trans hE Ee, ⟨a1, hEL⟩, hx, rfl, hml, hnm, hrt, hlk⟩ Ee A Ex (Nat.le_refl _) hE.1).st st
  rcases List.mem_cons.mp q with rfl | q
  · exact ⟨Ex.lt, Safe.ext Ee hC.1 (Safe.new (Nat.le_refl _))⟩
  · exact ⟨Nat.lt_of_lt_of_le (hsf x q).1 Ee.1, Safe.ext Ee hC.1 (hsf x q).2⟩
theorem own_ew {a1 a2 : Array Value} (E : EW Z a1 own_EL) : EW Z a2 own_EL := fun q hq => by
  obtain ⟨t, h1, h2⟩ := E q hq
  exact ⟨t, mvS (s := Z) (vm0 := Z.vm) (State.Warmed39.refl Z) h1, h2⟩
theorem o_ldcS (pc' : Nat) (n : Nat) (W : Wk p l e R s m args below meth c Z y bytes maxL ret T h ce sl sf) {i : Nat} {text : String} (hnar : ¬ own_Nar) (w : (Jvm.Cond.stringLink y.cls i text).before a0 Z = true) (wS : ∀ a ∈ Bundle.stringAtoms, a.before a0 Z = true) (hd : decode bytes pc = .ok (.ldc i, 2)) (hn : 4 * text.toList.length ≤ n)
    (K : ∀ T' h' a, Wk p l e R s m args below meth c Z y bytes maxL ret T' h' (ce + 2) (sl + (n + 4)) sf → Ext h h' → Go p e below G T' (mkF m pc' L (.ref a :: S))) (hbig : n ≤ 536870912 := by decide) (hc : ce + 2 ≤ R.cells := by decide) (hs : sl + (n + 4) ≤ R.slots := by decide) (hp : pc + 2 = pc' := by rfl) : Go p e below G T (mkF m pc L S) := by
  subst hp
  obtain ⟨vm0, k0, locs, X, eT, hS, hk, hZ, hown, hF, hN, hC, hsf, hE, ⟨a1, hEL⟩, hx, hby, hml, hnm, hrt, hlk⟩ := W
  subst hby
  obtain ⟨a, T', h', k1, X', e', E, hS', hk', hZ', hown', hC', -, st⟩ := ldcOH X hx hZ hown w wS eT hS hk (own_ew hEL) hC.1 (g := mkF m pc L S) rfl hd hn hbig hc hs
  exact (K T' h' a ⟨T'.vm, k1, locs, X', e', hS', hk', hZ', hown', hF, fun q => absurd q hnar, hC.trans hC', fun x q => ⟨Nat.lt_of_lt_of_le (hsf x q).1 E.1, hC'.safe (hsf x q).1 (hsf x q).2⟩, own_ext_trans hE E, ⟨a1, hEL⟩, hx, rfl, hml, hnm, hrt, hlk⟩ E).st st
theorem o_ldcC (pc' : Nat) (n : Nat) (W : Wk p l e R s m args below meth c Z y bytes maxL ret T h ce sl sf) {i : Nat} {text : String} {vs : List Value} {z : Int32} (hnar : ¬ own_Nar) (w : (Jvm.Cond.stringLink y.cls i text).before a0 Z = true) (wS : ∀ a ∈ Bundle.stringAtoms, a.before a0 Z = true) (hmem : (y.cls, i) ∈ own_EL) (ht : (∀ c ∈ text.toList, c.toNat < 256) ∧ text.toList.map (fun c => Value.int (Jvm.Lit.byteI c.toNat.toUInt16)) = vs) (hz : ¬ z < 0) (hzl : z.toNatClampNeg = vs.length) (hd : decode bytes pc = .ok (.ldc i, 2)) (hn : 4 * text.toList.length ≤ n)
    (K : ∀ T' h' a b k, Wk p l e R s m args below meth c Z y bytes maxL ret T' h' (ce + 2) (sl + (n + 4)) sf → Ext h h' → Exa Z h' a "java/lang/String" → Fld Z h' a "java/lang/String" "coder" "B" (.int 0) → Fld Z h' a "java/lang/String" "value" "[B" (.ref b) → Arv Z h' b k .byte z vs (.int 0) → (∀ x ∈ sf, x ≠ a ∧ x ≠ b) → Go p e below G T' (mkF m pc' L (.ref a :: S))) (hbig : n ≤ 536870912 := by decide) (hc : ce + 2 ≤ R.cells := by decide) (hs : sl + (n + 4) ≤ R.slots := by decide) (hp : pc + 2 = pc' := by rfl) : Go p e below G T (mkF m pc L S) := by
  subst hp
  obtain ⟨vm0, k0, locs, X, eT, hS, hk, hZ, hown, hF, hN, hC, hsf, hE, ⟨a1, hEL⟩, hx, hby, hml, hnm, hrt, hlk⟩ := W
  subst hby
  obtain ⟨a, T', h', k1, b, k, X', e', E, hS', hk', hZ', hown', q1, q2, q3, q4, q5, q6, hC', -, hsaf, st⟩ := ldcCH X hx hZ hown w wS eT hS hk (own_ew hEL) hmem hC.1 ht hz hzl (g := mkF m pc L S) rfl hd hn hbig hc hs
  exact (K T' h' a b k ⟨T'.vm, k1, locs, X', e', hS', hk', hZ', hown', hF, fun q => absurd q hnar, hC.trans hC', fun x q => ⟨Nat.lt_of_lt_of_le (hsf x q).1 E.1, hC'.safe (hsf x q).1 (hsf x q).2⟩, own_ext_trans hE E, ⟨a1, hEL⟩, hx, rfl, hml, hnm, hrt, hlk⟩ E q1 q2 q3 q4 fun x q => hsaf x (hC'.safe (hsf x q).1 (hsf x q).2)).st st
/-- what a body's end leaves -/
def Gd (s : State) (below : List Frame) (Z : State) (Q : Option Value → Heap → Prop) (kc ks : Nat) (u : State) : Prop := u.status = .running ∧ ∃ (v : Option Value) (Lc : List Loc), Ended u below (.returned v) ∧ Q v u.heap ∧ Fr Z.heap.size Lc ∧ CHr Z own_EL s.vm s.heap u.vm u.heap ∧ Ext Z.heap u.heap ∧ (own_Nar → s.WarmedH u.vm) ∧ ReturnedEndW s (.returned v) u Lc kc ks
/-- a body's contract: from the heap h0, with the arguments as', it returns and leaves Q -/
def Con (l : Launch) (Z : State) (y : MethodName) (bytes : ByteArray) (maxL : Nat) (ret : Option FieldType) (rm : Room) (as' : Array Value) (h0 : Heap) (sf0 : List Addr) (Q : Option Value → Heap → Prop) : Prop :=
  ∀ ws : List Jvm.Cond, MetFree l y (head1 (Jvm.Cond.code y bytes maxL ret :: ws) rm) (fun a U => a = as' ∧ Z.Warmed39 U.vm ∧ U.heap = h0 ∧ CHv Z own_EL U.vm h0 ∧ ∀ x ∈ sf0, Safe Z own_EL U.vm h0 x) (fun _ _ _ _ _ => True)
    (fun _ U o U' => ∃ v Lc, o = .returned v ∧ Q v U'.heap ∧ Fr Z.heap.size Lc ∧ CHr Z own_EL U.vm U.heap U'.vm U'.heap ∧ Ext Z.heap U'.heap ∧ (own_Nar → U.WarmedH U'.vm) ∧ ReturnedEndW U o U' Lc rm.cells rm.slots)
/-- a value is returned -/
abbrev QV (Q : Value → Heap → Prop) (v : Option Value) (h : Heap) : Prop := ∃ w, v = some w ∧ Q w h
/-- nothing is returned -/
abbrev Q0 (Q : Heap → Prop) (v : Option Value) (h : Heap) : Prop := v = none ∧ Q h
theorem Con.of {rm : Room} {as' : Array Value} {h0 : Heap} {sf0 : List Addr} {Q : Option Value → Heap → Prop} {L0 : Array Slot} (hp : plainFor y = true) (hE : Ext Z.heap h0) (hEL : ∃ a1, EW Z a1 own_EL) (hsf : ∀ x ∈ sf0, x < h0.size)
    (hent : ∀ m : MethodId, entryFrame m as' maxL = mkF m 0 L0 [])
    (body : ∀ (p : Program) (e : Env) (s : State) (m : MethodId) (args : Array Value) (below : List Frame) (meth : Method) (c : Code) (T : State), Wk p l e rm s m args below meth c Z y bytes maxL ret T h0 0 0 sf0 → Go p e below (Gd s below Z Q rm.cells rm.slots) T (mkF m 0 L0 [])) :
    Con l Z y bytes maxL ret rm as' h0 sf0 Q := by
  intro ws
  refine MetFree.of_bodySF hp hisR ?_
  intro p e s m args below meth c s₁ Bd hml hP hK
  obtain ⟨rfl, hZ, hh, hCH, hsaf⟩ := hP
  have X0 : Stand p l e rm (s.setVm s.vm) m args below meth c s₁ [] 0 0 := Stand.of_body Bd
  have e0 : s₁.heap = h0 := by rw [← hh, Bd.state]; rfl
  have hlk : meth.locks = false := by first | exact Bd.notSynchronized | exact BodyLoose.notSynchronized Bd
  have W : Wk p l e rm s m args below meth c Z y bytes maxL ret s₁ h0 0 0 sf0 :=
    ⟨s.vm, 0, [], X0, e0, (State.WarmedH.refl s).since 0, Nat.zero_le _, hZ, findClass_of_methodNamed Bd.named, Fr.nil _, fun _ => State.WarmedH.refl s, by rw [hh]; exact CHr.refl hCH, fun x hx => ⟨hsf x hx, hsaf x hx⟩, hE, hEL, Bd.exec, Bd.bytes, hml, (name_of_methodNamed Bd.named Bd.method).1, Bd.returns, hlk⟩
  obtain ⟨u, k, g1, v, Lc, g2, g3, g4, g5, g6, g7, g8⟩ := body p e s m args below meth c s₁ W
  exact ⟨u, _, castTop (hent m) k, g1, g2, v, Lc, rfl, g3, g4, g5, g6, g7, g8⟩
theorem o_end {Q : Option Value → Heap → Prop} {kc ks : Nat} (W : Wk p l e R s m args below meth c Z y bytes maxL ret T h ce sl sf) {v : Option Value} {g : JFrame} (hv : meth.sig.returnType = none → v = none) (hq : Q v h) (hc : ce ≤ kc) (hs : sl ≤ ks)
    (K : ∀ fs : List Frame, (∀ (f : JFrame) (acts : List Action), f.method = m → f.locked = none → f.entered = [] → (doReturn e (T.setTop f) acts v).1 = T.setFrames fs) → Steps p.tables e below (T.setTop g) (T.setFrames fs)) : Go p e below (Gd s below Z Q kc ks) T g := by
  obtain ⟨vm0, k0, locs, X, eT, hS, hk, hZ, hown, hF, hN, hC, hsf, hE, ⟨a1, hEL⟩, hx, hby, hml, hnm, hrt, hlk⟩ := W
  subst eT
  obtain ⟨fs, hr, hrun, hended, hW⟩ := (X.mono hc hs).leaveW hS hk (v := v) hv hlk
  have hC2 := hC.trans (CHv.at X hZ hEL hC.1)
  refine ⟨T.setFrames fs, K fs hr, hrun, v, locs, hended, hq, hF, hC2, hE, fun q => ?_, hW⟩
  exact State.WarmedH.trans (t := s.setVm vm0) (hN q) X.warmed
theorem o_iret {Q : Value → Heap → Prop} {kc ks : Nat} (W : Wk p l e R s m args below meth c Z y bytes maxL (some .int) T h ce sl sf) {x : Int32} (hd : decode bytes pc = .ok (.ireturn, 1)) (hq : Q (.int x) h) (hc : ce ≤ kc := by decide) (hs : sl ≤ ks := by decide) : Go p e below (Gd s below Z (QV Q) kc ks) T (mkF m pc L (.int x :: S)) := by
  have W2 := W
  obtain ⟨vm0, k0, locs, X, eT, hS, hk, hZ, hown, hF, hN, hC, hsf, hE, ⟨a1, hEL⟩, hx, hby, hml, hnm, hrt, hlk⟩ := W2
  subst hby
  exact o_end W (v := some (.int x)) (fun q => by rw [hrt] at q; cases q) ⟨_, rfl, hq⟩ hc hs fun fs hr => retOut X hx hrt rfl (Or.inl ⟨rfl, Or.inl rfl, x, rfl⟩) hd hr
theorem o_nret {Q : Value → Heap → Prop} {kc ks : Nat} {t : FieldType} (W : Wk p l e R s m args below meth c Z y bytes maxL (some t) T h ce sl sf) {x : Int32} (x' : Int32) (ht : t = .boolean ∨ t = .byte ∨ t = .char ∨ t = .short) (hn : nar t x = x') (hd : decode bytes pc = .ok (.ireturn, 1)) (hq : Q (.int x') h) (hc : ce ≤ kc := by decide) (hs : sl ≤ ks := by decide) : Go p e below (Gd s below Z (QV Q) kc ks) T (mkF m pc L (.int x :: S)) := by
  have W2 := W
  obtain ⟨vm0, k0, locs, X, eT, hS, hk, hZ, hown, hF, hN, hC, hsf, hE, ⟨a1, hEL⟩, hx, hby, hml, hnm, hrt, hlk⟩ := W2
  subst hby hn
  exact o_end W (v := some (.int (nar t x))) (fun q => by rw [hrt] at q; cases q) ⟨_, rfl, hq⟩ hc hs fun fs hr => retN X hx hrt ht hd hr
theorem o_aret {Q : Value → Heap → Prop} {kc ks : Nat} {t : FieldType} (W : Wk p l e R s m args below meth c Z y bytes maxL (some t) T h ce sl sf) {x : Value} (ht : t.isReference = true) (hv : x.isRef = true) (hn : narrow t x = x) (hd : decode bytes pc = .ok (.areturn, 1)) (hq : Q x h) (hc : ce ≤ kc := by decide) (hs : sl ≤ ks := by decide) : Go p e below (Gd s below Z (QV Q) kc ks) T (mkF m pc L (x :: S)) := by
  have W2 := W
  obtain ⟨vm0, k0, locs, X, eT, hS, hk, hZ, hown, hF, hN, hC, hsf, hE, ⟨a1, hEL⟩, hx, hby, hml, hnm, hrt, hlk⟩ := W2
  subst hby
  exact o_end W (v := some x) (fun q => by rw [hrt] at q; cases q) ⟨_, rfl, hq⟩ hc hs fun fs hr => retOut X hx hrt hn (Or.inr (Or.inr (Or.inr (Or.inr ⟨rfl, ht, hv⟩)))) hd hr
theorem o_ret {Q : Heap → Prop} {kc ks : Nat} (W : Wk p l e R s m args below meth c Z y bytes maxL none T h ce sl sf) (hd : decode bytes pc = .ok (.return_, 1)) (hq : Q h) (hc : ce ≤ kc := by decide) (hs : sl ≤ ks := by decide) : Go p e below (Gd s below Z (Q0 Q) kc ks) T (mkF m pc L []) := by
  have W2 := W
  obtain ⟨vm0, k0, locs, X, eT, hS, hk, hZ, hown, hF, hN, hC, hsf, hE, ⟨a1, hEL⟩, hx, hby, hml, hnm, hrt, hlk⟩ := W2
  subst hby
  exact o_end W (v := none) (fun _ => rfl) ⟨rfl, hq⟩ hc hs fun fs hr => X.returnOut hx hrt hd hr
theorem own_back {vm0 : Vm} {y' : MethodName} {bytes' : ByteArray} {maxL' : Nat} {ret' : Option FieldType} {rm : Room} {as' : Array Value} {sf' : List Addr} {Q : Option Value → Heap → Prop} {len Wd : Nat} {a1 : Array Value} (C : Con l Z y' bytes' maxL' ret' rm as' h sf' Q) (hZ : Z.Warmed39 (s.setVm vm0).vm) (wc : (Jvm.Cond.code y' bytes' maxL' ret').before a0 Z = true) (wz : (Jvm.Cond.initialized y'.cls).before a0 Z = true)
    (hf : rm.frames + 1 ≤ R.frames) (hl : Wd + (maxL' + 11) + rm.locals ≤ R.locals) (hEL : EW Z a1 own_EL) (H : CHv Z own_EL vm0 h) (hsf : ∀ x ∈ sf', x < h.size ∧ Safe Z own_EL vm0 h x) :
    BackS l R p e below (s.setVm vm0) args y' len Wd (fun A a => a = as' ∧ A.U.heap = h ∧ A.cells + rm.cells ≤ R.cells ∧ A.slots + rm.slots ≤ R.slots)
      (fun A _ v B => ∃ Lc, Q v B.U.heap ∧ Fr Z.heap.size Lc ∧ B.locs = A.locs ++ Lc ∧ B.cells = A.cells + rm.cells ∧ B.slots = A.slots + rm.slots ∧ CHr Z own_EL vm0 h B.U.vm B.U.heap ∧ Ext Z.heap B.U.heap ∧ (own_Nar → A.U.WarmedH B.U.vm)) :=
  BackS.of_freeW (bytes := bytes') (maxL := maxL') (ret := ret') (E := fun _ first o t Lc k n => k = rm.cells ∧ n = rm.slots ∧ (∃ v, o = .returned v ∧ Q v t.heap) ∧ Fr Z.heap.size Lc ∧ CHr Z own_EL first.vm first.heap t.vm t.heap ∧ Ext Z.heap t.heap ∧ (own_Nar → first.WarmedH t.vm)) (C []) hf hl
    (fun m meth c A a Y hp => have hU : Z.Warmed39 A.U.vm := wtrans (s := s.setVm vm0) hZ Y.warmed
      ⟨by show (Jvm.Cond.and _ .tt).before a A.U = true; rw [Cond.before_and, mv hU wc]; rfl, mv hU wc, mv hU wz, hp.2.2.1, hp.2.2.2⟩)
    (fun m meth c A a g mk Y hp => ⟨hp.1, wtrans (s := s.setVm vm0) hZ Y.warmed, hp.2.1, (CHv.at Y hZ hEL H).1, fun x hx => (CHv.at Y hZ hEL H).safe (hsf x hx).1 (hsf x hx).2⟩) (fun _ _ _ _ _ _ _ _ _ => trivial)
    (fun _ _ _ _ ⟨v, Lc, h1, h2, h3, h4, h5, h6, h7⟩ => ⟨Lc, _, _, h7, rfl, rfl, ⟨v, h1, h2⟩, h3, h4, h5, h6⟩)
    (fun m meth c A a g mk v t Lc k n Y hp _ _ ⟨e1, e2, ⟨v', e3, e4⟩, e5, e6, e7, e8⟩ => by
      cases e3; subst e1 e2
      refine ⟨Lc, e4, e5, rfl, rfl, rfl, (CHv.at Y hZ hEL H).trans ?_, e7, fun q => ?_⟩
      · rw [← hp.2.1]; exact e6
      · exact e8 q)
theorem o_static (pc' : Nat) (A : List Value) (W : Wk p l e R s m args below meth c Z y bytes maxL ret T h ce sl sf) {y' : MethodName} {bytes' : ByteArray} {maxL' : Nat} {ret' : Option FieldType} {rm : Room} {sf' : List Addr} {Q : Option Value → Heap → Prop} {stk : List Value} {i : Nat} (w1 : (Jvm.Cond.methodLink y.cls i y').before a0 Z = true) (w2 : (Jvm.Cond.static y').before a0 Z = true) (wz : (Jvm.Cond.initialized y'.cls).before a0 Z = true) (wc : (Jvm.Cond.code y' bytes' maxL' ret').before a0 Z = true) (C : Con l Z y' bytes' maxL' ret' rm A.toArray h sf' Q) {ps : List FieldType} {rt : Option FieldType} (hpd : parseMethodDescriptor y'.desc = some ⟨ps, rt⟩) (hd : decode bytes pc = .ok (.invokestatic i, 3)) (hst : stk = A.reverse ++ S) (hsub : ∀ x ∈ sf', x ∈ sf) (K : ∀ T' h' v, Wk p l e R s m args below meth c Z y bytes maxL ret T' h' (ce + rm.cells) (sl + rm.slots) sf → Q v h' → h.size ≤ h'.size → Go p e below G T' (mkF m pc' L (v.toList ++ S))) (hsz : L.size = maxL := by rfl) (hln : A.length = ps.length := by rfl) (hy : y'.cls ≠ "java/lang/invoke/MethodHandle" ∧ y'.cls ≠ "java/lang/invoke/VarHandle" := by decide) (hf : rm.frames + 1 ≤ R.frames := by decide) (hl : (S.map fun v => v.category).sum + (maxL' + 11) + rm.locals ≤ R.locals := by first | decide | exact Nat.le_of_ble_eq_true rfl) (hc : ce + rm.cells ≤ R.cells := by decide) (hs : sl + rm.slots ≤ R.slots := by decide) (hp : pc + 3 = pc' := by rfl) : Go p e below G T (mkF m pc L stk) := by
  subst hp
  obtain ⟨vm0, k0, locs, X, eT, hS, hk, hZ, hown, hF, hN, hC, hsf, hE, ⟨a1, hEL⟩, hx, hby, hml, hnm, hrt, hlk⟩ := W
  subst hby
  obtain ⟨v, vm₁, ⟨T', locs', ce', sl'⟩, hW1, X', hS', hge, ⟨Lc, hQ, hFr, e1, e2, e3, hC', hE', hN'⟩, st⟩ := callSS X hx (y := y') hown (mvT hZ w1) (mvT hZ w2) (mvT hZ wz) (mvT hZ wc) hy (own_back (Wd := (S.map fun v => v.category).sum) C hZ wc wz hf hl hEL hC.1 fun x hx => hsf x (hsub x hx)) (g := mkF m pc L stk) rfl (by rw [hml]; exact hsz) (argsL := A) (rest := S) (lenOf hpd hln) hst (by show 2 * 0 + _ ≤ _; omega) hd (fun _ _ => ⟨rfl, eT, hc, hs⟩)
  dsimp only [Pt.U, Pt.locs, Pt.cells, Pt.slots] at X' hS' hge hQ e1 e2 e3 hC' hE' hN' st
  subst e1 e2 e3 eT
  refine (K T' T'.heap v ⟨T'.vm, T'.heap.size, locs ++ Lc, X', rfl, hS.trans hS' (Nat.le_trans hk hge), Nat.le_refl _, State.Warmed39.trans (t := s.setVm vm0) hZ hS'.1, by rw [show (s.setVm T'.vm).vm = T'.vm from rfl, hS'.1.alike.findClass]; exact hown, hF.app hFr, fun q => ?_, hC.trans hC', fun x hx => ⟨Nat.lt_of_lt_of_le (hsf x hx).1 hge, hC'.safe (hsf x hx).1 (hsf x hx).2⟩, hE', ⟨a1, hEL⟩, hx, rfl, hml, hnm, hrt, hlk⟩ hQ hge).st fun u k => st.trans k
  exact State.WarmedH.trans (t := s.setVm vm0) (hN q) (State.WarmedH.trans (s := s.setVm vm0) (t := T.setVm vm₁) hW1 (hN' q))
theorem o_special (pc' : Nat) (A : List Value) (W : Wk p l e R s m args below meth c Z y bytes maxL ret T h ce sl sf) {y' : MethodName} {bytes' : ByteArray} {maxL' : Nat} {rm : Room} {sf' : List Addr} {Q : Option Value → Heap → Prop} {stk : List Value} {i : Nat} {a : Addr} (w1 : (Jvm.Cond.methodLink y.cls i y').before a0 Z = true) (w2 : (Jvm.Cond.instanceMethod y').before a0 Z = true) (wz : (Jvm.Cond.initialized y'.cls).before a0 Z = true) (wc : (Jvm.Cond.code y' bytes' maxL' none).before a0 Z = true) (C : Con l Z y' bytes' maxL' none rm (.ref a :: A).toArray h sf' Q) {ps : List FieldType} {rt : Option FieldType} (hpd : parseMethodDescriptor y'.desc = some ⟨ps, rt⟩) (hd : decode bytes pc = .ok (.invokespecial i, 3)) (hst : stk = A.reverse ++ .ref a :: S) (hsub : ∀ x ∈ sf', x ∈ sf) (K : ∀ T' h' v, Wk p l e R s m args below meth c Z y bytes maxL ret T' h' (ce + rm.cells) (sl + rm.slots) sf → Q v h' → h.size ≤ h'.size → Go p e below G T' (mkF m pc' L (v.toList ++ S))) (hin : y'.name = "<init>" := by rfl) (hsz : L.size = maxL := by rfl) (hln : A.length = ps.length := by rfl) (hy : y'.cls ≠ "java/lang/invoke/MethodHandle" ∧ y'.cls ≠ "java/lang/invoke/VarHandle" := by decide) (hf : rm.frames + 1 ≤ R.frames := by decide) (hl : (S.map fun v => v.category).sum + (maxL' + 11) + rm.locals ≤ R.locals := by first | decide | exact Nat.le_of_ble_eq_true rfl) (hc : ce + rm.cells ≤ R.cells := by decide) (hs : sl + rm.slots ≤ R.slots := by decide) (hp : pc + 3 = pc' := by rfl) : Go p e below G T (mkF m pc L stk) := by
  subst hp
  obtain ⟨vm0, k0, locs, X, eT, hS, hk, hZ, hown, hF, hN, hC, hsf, hE, ⟨a1, hEL⟩, hx, hby, hml, hnm, hrt, hlk⟩ := W
  subst hby
  obtain ⟨v, vm₁, ⟨T', locs', ce', sl'⟩, hW1, X', hS', hge, ⟨Lc, hQ, hFr, e1, e2, e3, hC', hE', hN'⟩, st⟩ := X.specialBackS hx (y := y') hin hown (mvT hZ w1) (mvT hZ w2) (mvT hZ wc) hy (own_back (Wd := (S.map fun v => v.category).sum) C hZ wc wz hf hl hEL hC.1 fun x hx => hsf x (hsub x hx)) (g := mkF m pc L stk) rfl (by rw [hml]; exact hsz) (Steps.refl _) (a := a) (argsL := A) (rest := S) (lenOf hpd hln) hst (by show 2 * 0 + _ ≤ _; omega) hd (fun _ _ => ⟨rfl, eT, hc, hs⟩)
  dsimp only [Pt.U, Pt.locs, Pt.cells, Pt.slots] at X' hS' hge hQ e1 e2 e3 hC' hE' hN' st
  subst e1 e2 e3 eT
  refine (K T' T'.heap v ⟨T'.vm, T'.heap.size, locs ++ Lc, X', rfl, hS.trans hS' (Nat.le_trans hk hge), Nat.le_refl _, State.Warmed39.trans (t := s.setVm vm0) hZ hS'.1, by rw [show (s.setVm T'.vm).vm = T'.vm from rfl, hS'.1.alike.findClass]; exact hown, hF.app hFr, fun q => ?_, hC.trans hC', fun x hx => ⟨Nat.lt_of_lt_of_le (hsf x hx).1 hge, hC'.safe (hsf x hx).1 (hsf x hx).2⟩, hE', ⟨a1, hEL⟩, hx, rfl, hml, hnm, hrt, hlk⟩ hQ hge).st fun u k => st.trans k
  exact State.WarmedH.trans (t := s.setVm vm0) (hN q) (State.WarmedH.trans (s := s.setVm vm0) (t := T.setVm vm₁) hW1 (hN' q))
theorem o_virtual (pc' : Nat) (A : List Value) (W : Wk p l e R s m args below meth c Z y bytes maxL ret T h ce sl sf) {y' : MethodName} {bytes' : ByteArray} {maxL' : Nat} {ret' : Option FieldType} {rm : Room} {sf' : List Addr} {Q : Option Value → Heap → Prop} {stk : List Value} {i : Nat} {a : Addr} {C0 : String} (w1 : (Jvm.Cond.methodLink y.cls i y').before a0 Z = true) (w2 : (Jvm.Cond.declares y').before a0 Z = true) (w3 : (Jvm.Cond.selects C0 y' y').before a0 Z = true) (w4 : (Jvm.Cond.instanceMethod y').before a0 Z = true) (wz : (Jvm.Cond.initialized y'.cls).before a0 Z = true) (wc : (Jvm.Cond.code y' bytes' maxL' ret').before a0 Z = true) (E : Exa Z h a C0) (C : Con l Z y' bytes' maxL' ret' rm (.ref a :: A).toArray h sf' Q) {ps : List FieldType} {rt : Option FieldType} (hpd : parseMethodDescriptor y'.desc = some ⟨ps, rt⟩) (hd : decode bytes pc = .ok (.invokevirtual i, 3)) (hst : stk = A.reverse ++ .ref a :: S) (hsub : ∀ x ∈ sf', x ∈ sf) (K : ∀ T' h' v, Wk p l e R s m args below meth c Z y bytes maxL ret T' h' (ce + rm.cells) (sl + rm.slots) sf → Q v h' → h.size ≤ h'.size → Go p e below G T' (mkF m pc' L (v.toList ++ S))) (hsz : L.size = maxL := by rfl) (hln : A.length = ps.length := by rfl) (hy : y'.cls ≠ "java/lang/invoke/MethodHandle" ∧ y'.cls ≠ "java/lang/invoke/VarHandle" := by decide) (hf : rm.frames + 1 ≤ R.frames := by decide) (hl : (S.map fun v => v.category).sum + (maxL' + 11) + rm.locals ≤ R.locals := by first | decide | exact Nat.le_of_ble_eq_true rfl) (hc : ce + rm.cells ≤ R.cells := by decide) (hs : sl + rm.slots ≤ R.slots := by decide) (hp : pc + 3 = pc' := by rfl) : Go p e below G T (mkF m pc L stk) := by
  subst hp
  obtain ⟨vm0, k0, locs, X, eT, hS, hk, hZ, hown, hF, hN, hC, hsf, hE, ⟨a1, hEL⟩, hx, hby, hml, hnm, hrt, hlk⟩ := W
  subst hby
  obtain ⟨cB, kB, qa, qb, qc⟩ := isOf (T := T) hZ eT E
  obtain ⟨v, vm₁, ⟨T', locs', ce', sl'⟩, hW1, X', hS', hge, ⟨Lc, hQ, hFr, e1, e2, e3, hC', hE', hN'⟩, st⟩ := X.virtualBackS hx (y := y') (z := y') hown (mvT hZ w1) (mvT hZ w2) (notFace_of_selects (args := args) (mvT hZ w3)) (mvT hZ w3) (mvT hZ w4) hy (own_back (Wd := (S.map fun v => v.category).sum) C hZ wc wz hf hl hEL hC.1 fun x hx => hsf x (hsub x hx)) qa qc (g := mkF m pc L stk) rfl (by rw [hml]; exact hsz) (Steps.refl _) (argsL := A) (rest := S) (lenOf hpd hln) hst (by show 2 * 0 + _ ≤ _; omega) hd (fun _ _ => ⟨rfl, eT, hc, hs⟩)
  dsimp only [Pt.U, Pt.locs, Pt.cells, Pt.slots] at X' hS' hge hQ e1 e2 e3 hC' hE' hN' st
  subst e1 e2 e3 eT
  refine (K T' T'.heap v ⟨T'.vm, T'.heap.size, locs ++ Lc, X', rfl, hS.trans hS' (Nat.le_trans hk hge), Nat.le_refl _, State.Warmed39.trans (t := s.setVm vm0) hZ hS'.1, by rw [show (s.setVm T'.vm).vm = T'.vm from rfl, hS'.1.alike.findClass]; exact hown, hF.app hFr, fun q => ?_, hC.trans hC', fun x hx => ⟨Nat.lt_of_lt_of_le (hsf x hx).1 hge, hC'.safe (hsf x hx).1 (hsf x hx).2⟩, hE', ⟨a1, hEL⟩, hx, rfl, hml, hnm, hrt, hlk⟩ hQ hge).st fun u k => st.trans k
  exact State.WarmedH.trans (t := s.setVm vm0) (hN q) (State.WarmedH.trans (s := s.setVm vm0) (t := T.setVm vm₁) hW1 (hN' q))
theorem o_virtualUp (pc' : Nat) (A : List Value) (W : Wk p l e R s m args below meth c Z y bytes maxL ret T h ce sl sf) {y' : MethodName} {bytes' : ByteArray} {maxL' : Nat} {ret' : Option FieldType} {rm : Room} {sf' : List Addr} {Q : Option Value → Heap → Prop} {stk : List Value} {i : Nat} {a : Addr} {C0 owner : String} {x' : MethodName} (w1 : (Jvm.Cond.methodLink y.cls i x').before a0 Z = true) (w2 : (Jvm.Cond.sameMethod x'.cls owner x'.name x'.desc).before a0 Z = true) (w5 : (Jvm.Cond.declares ⟨owner, x'.name, x'.desc⟩).before a0 Z = true) (w3 : (Jvm.Cond.selects C0 x' y').before a0 Z = true) (w4 : (Jvm.Cond.instanceMethod y').before a0 Z = true) (wz : (Jvm.Cond.initialized y'.cls).before a0 Z = true) (wc : (Jvm.Cond.code y' bytes' maxL' ret').before a0 Z = true) (E : Exa Z h a C0) (C : Con l Z y' bytes' maxL' ret' rm (.ref a :: A).toArray h sf' Q) {ps : List FieldType} {rt : Option FieldType} (hpd : parseMethodDescriptor x'.desc = some ⟨ps, rt⟩) (hd : decode bytes pc = .ok (.invokevirtual i, 3)) (hst : stk = A.reverse ++ .ref a :: S) (hsub : ∀ x ∈ sf', x ∈ sf) (K : ∀ T' h' v, Wk p l e R s m args below meth c Z y bytes maxL ret T' h' (ce + rm.cells) (sl + rm.slots) sf → Q v h' → h.size ≤ h'.size → Go p e below G T' (mkF m pc' L (v.toList ++ S))) (hsz : L.size = maxL := by rfl) (hln : A.length = ps.length := by rfl) (hy : owner ≠ "java/lang/invoke/MethodHandle" ∧ owner ≠ "java/lang/invoke/VarHandle" := by decide) (hf : rm.frames + 1 ≤ R.frames := by decide) (hl : (S.map fun v => v.category).sum + (maxL' + 11) + rm.locals ≤ R.locals := by first | decide | exact Nat.le_of_ble_eq_true rfl) (hc : ce + rm.cells ≤ R.cells := by decide) (hs : sl + rm.slots ≤ R.slots := by decide) (hp : pc + 3 = pc' := by rfl) : Go p e below G T (mkF m pc L stk) := by
  subst hp
  obtain ⟨vm0, k0, locs, X, eT, hS, hk, hZ, hown, hF, hN, hC, hsf, hE, ⟨a1, hEL⟩, hx, hby, hml, hnm, hrt, hlk⟩ := W
  subst hby
  obtain ⟨cB, kB, qa, qb, qc⟩ := isOf (T := T) hZ eT E
  obtain ⟨v, vm₁, ⟨T', locs', ce', sl'⟩, hW1, X', hS', hge, ⟨Lc, hQ, hFr, e1, e2, e3, hC', hE', hN'⟩, st⟩ := X.virtualBackUpS hx (x := x') (y := y') (owner := owner) hown (mvT hZ w1) (mvT hZ w2) (mvT hZ w5) hy (mvT hZ w3) (mvT hZ w4) (own_back (Wd := (S.map fun v => v.category).sum) C hZ wc wz hf hl hEL hC.1 fun x hx => hsf x (hsub x hx)) qa qc (g := mkF m pc L stk) rfl (by rw [hml]; exact hsz) (Steps.refl _) (argsL := A) (rest := S) (lenOf hpd hln) hst (by show 2 * 0 + _ ≤ _; omega) hd (fun _ _ => ⟨rfl, eT, hc, hs⟩)
  dsimp only [Pt.U, Pt.locs, Pt.cells, Pt.slots] at X' hS' hge hQ e1 e2 e3 hC' hE' hN' st
  subst e1 e2 e3 eT
  refine (K T' T'.heap v ⟨T'.vm, T'.heap.size, locs ++ Lc, X', rfl, hS.trans hS' (Nat.le_trans hk hge), Nat.le_refl _, State.Warmed39.trans (t := s.setVm vm0) hZ hS'.1, by rw [show (s.setVm T'.vm).vm = T'.vm from rfl, hS'.1.alike.findClass]; exact hown, hF.app hFr, fun q => ?_, hC.trans hC', fun x hx => ⟨Nat.lt_of_lt_of_le (hsf x hx).1 hge, hC'.safe (hsf x hx).1 (hsf x hx).2⟩, hE', ⟨a1, hEL⟩, hx, rfl, hml, hnm, hrt, hlk⟩ hQ hge).st fun u k => st.trans k
  exact State.WarmedH.trans (t := s.setVm vm0) (hN q) (State.WarmedH.trans (s := s.setVm vm0) (t := T.setVm vm₁) hW1 (hN' q))
end Own
theorem own_sx {Z : State} {args a0 : Array Value} {C n d K : String} (hx : (Jvm.Cond.exactly (Jvm.Term.static C n d) K).value args Z none Z [] = some true) (hi : (Jvm.Cond.initialized C).before a0 Z = true) (hl : (Jvm.Cond.laysStatic C n d).before a0 Z = true) : ∃ a, Sta Z Z.heap C n d (.ref a) ∧ Exa Z Z.heap a K ∧ (Jvm.Term.static C n d).eval args Z none [] Z = some (.ref a) := by
  obtain ⟨a', c', cell, k, e1, -⟩ := Cond.exactly_spec (Cond.before_iff.mpr hx)
  exact ⟨a', Sta.start (args := a0) e1 (Or.inr ⟨hi, hl⟩), Exa.start e1 hx, e1⟩
theorem own_fx {Z : State} {args : Array Value} {t : Jvm.Term} {a : Addr} {O n d : String} {v : Value} {u : Jvm.Term} (e : t.eval args Z none [] Z = some (.ref a)) (hu : u.eval args Z none [] Z = some v) (hx : (Jvm.Cond.eq (Jvm.Term.field t O n d) u).value args Z none Z [] = some true) (hk : ∀ w, Kin v w → Kin w v → (Jvm.Cond.eq (Jvm.Term.field t O n d) u).value args Z none Z [] = some true → (Jvm.Term.field t O n d).eval args Z none [] Z = some w → w = v) : Fld Z Z.heap a O n d v := by
  obtain ⟨x, y, e1, e2, k1, k2⟩ := cmp_v (Or.inl hx)
  cases hu.symm.trans e2
  have q := hk x k2 k1 hx e1
  subst q
  refine Fld.start ?_
  have e3 := e1
  simp only [Jvm.Term.eval, e, Option.bind_eq_bind, Option.bind_some] at e3
  exact e3
theorem own_fi {Z : State} {args : Array Value} {t : Jvm.Term} {a : Addr} {O n d : String} {k : Int32} (e : t.eval args Z none [] Z = some (.ref a)) (hx : (Jvm.Cond.eq (Jvm.Term.field t O n d) (Jvm.Term.int k)).value args Z none Z [] = some true) : Fld Z Z.heap a O n d (.int k) := by
  refine own_fx e (Jvm.Term.int_eval k) hx fun w k1 k2 h1 h2 => ?_
  obtain ⟨z, rfl⟩ := k1
  simp [Jvm.Cond.value, h2, Jvm.Term.int_eval] at h1
  rw [h1]
theorem d1_0 : decode method_4_code 0 = .ok (.iload_n 0, 1) := by decide +kernel
theorem d1_1 : decode method_4_code 1 = .ok (.bipush 97, 2) := by decide +kernel
theorem d1_3 : decode method_4_code 3 = .ok (.if_icmp .lt 13, 3) := by decide +kernel
theorem d1_6 : decode method_4_code 6 = .ok (.iload_n 0, 1) := by decide +kernel
theorem d1_7 : decode method_4_code 7 = .ok (.bipush 122, 2) := by decide +kernel
theorem d1_9 : decode method_4_code 9 = .ok (.if_icmp .gt 7, 3) := by decide +kernel
theorem d1_12 : decode method_4_code 12 = .ok (.iconst 1, 1) := by decide +kernel
theorem d1_13 : decode method_4_code 13 = .ok (.goto 4, 3) := by decide +kernel
theorem d1_16 : decode method_4_code 16 = .ok (.iconst 0, 1) := by decide +kernel
theorem d1_17 : decode method_4_code 17 = .ok (.istore_n 2, 1) := by decide +kernel
theorem d1_18 : decode method_4_code 18 = .ok (.iload_n 0, 1) := by decide +kernel
theorem d1_19 : decode method_4_code 19 = .ok (.bipush 65, 2) := by decide +kernel
theorem d1_21 : decode method_4_code 21 = .ok (.if_icmp .lt 13, 3) := by decide +kernel
theorem d1_24 : decode method_4_code 24 = .ok (.iload_n 0, 1) := by decide +kernel
theorem d1_25 : decode method_4_code 25 = .ok (.bipush 90, 2) := by decide +kernel
theorem d1_27 : decode method_4_code 27 = .ok (.if_icmp .gt 7, 3) := by decide +kernel
theorem d1_30 : decode method_4_code 30 = .ok (.iconst 1, 1) := by decide +kernel
theorem d1_31 : decode method_4_code 31 = .ok (.goto 4, 3) := by decide +kernel
theorem d1_34 : decode method_4_code 34 = .ok (.iconst 0, 1) := by decide +kernel
theorem d1_35 : decode method_4_code 35 = .ok (.istore_n 3, 1) := by decide +kernel
theorem d1_36 : decode method_4_code 36 = .ok (.iload_n 2, 1) := by decide +kernel
theorem d1_37 : decode method_4_code 37 = .ok (.ifCond .ne 7, 3) := by decide +kernel
theorem d1_40 : decode method_4_code 40 = .ok (.iload_n 3, 1) := by decide +kernel
theorem d1_41 : decode method_4_code 41 = .ok (.ifCond .eq 7, 3) := by decide +kernel
theorem d1_44 : decode method_4_code 44 = .ok (.iconst 1, 1) := by decide +kernel
theorem d1_45 : decode method_4_code 45 = .ok (.goto 4, 3) := by decide +kernel
theorem d1_48 : decode method_4_code 48 = .ok (.iconst 0, 1) := by decide +kernel
theorem d1_49 : decode method_4_code 49 = .ok (.istore 4, 2) := by decide +kernel
theorem d1_51 : decode method_4_code 51 = .ok (.iload_n 0, 1) := by decide +kernel
theorem d1_52 : decode method_4_code 52 = .ok (.bipush 48, 2) := by decide +kernel
theorem d1_54 : decode method_4_code 54 = .ok (.if_icmp .lt 13, 3) := by decide +kernel
theorem d1_57 : decode method_4_code 57 = .ok (.iload_n 0, 1) := by decide +kernel
theorem d1_58 : decode method_4_code 58 = .ok (.bipush 57, 2) := by decide +kernel
theorem d1_60 : decode method_4_code 60 = .ok (.if_icmp .gt 7, 3) := by decide +kernel
theorem d1_63 : decode method_4_code 63 = .ok (.iconst 1, 1) := by decide +kernel
theorem d1_64 : decode method_4_code 64 = .ok (.goto 4, 3) := by decide +kernel
theorem d1_67 : decode method_4_code 67 = .ok (.iconst 0, 1) := by decide +kernel
theorem d1_68 : decode method_4_code 68 = .ok (.istore 5, 2) := by decide +kernel
theorem d1_70 : decode method_4_code 70 = .ok (.iload 5, 2) := by decide +kernel
theorem d1_72 : decode method_4_code 72 = .ok (.ifCond .ne 27, 3) := by decide +kernel
theorem d1_75 : decode method_4_code 75 = .ok (.iload_n 0, 1) := by decide +kernel
theorem d1_76 : decode method_4_code 76 = .ok (.bipush 97, 2) := by decide +kernel
theorem d1_78 : decode method_4_code 78 = .ok (.if_icmp .lt 9, 3) := by decide +kernel
theorem d1_81 : decode method_4_code 81 = .ok (.iload_n 0, 1) := by decide +kernel
theorem d1_82 : decode method_4_code 82 = .ok (.bipush 102, 2) := by decide +kernel
theorem d1_84 : decode method_4_code 84 = .ok (.if_icmp .le 15, 3) := by decide +kernel
theorem d1_87 : decode method_4_code 87 = .ok (.iload_n 0, 1) := by decide +kernel
theorem d1_88 : decode method_4_code 88 = .ok (.bipush 65, 2) := by decide +kernel
theorem d1_90 : decode method_4_code 90 = .ok (.if_icmp .lt 13, 3) := by decide +kernel
theorem d1_93 : decode method_4_code 93 = .ok (.iload_n 0, 1) := by decide +kernel
theorem d1_94 : decode method_4_code 94 = .ok (.bipush 70, 2) := by decide +kernel
theorem d1_96 : decode method_4_code 96 = .ok (.if_icmp .gt 7, 3) := by decide +kernel
theorem d1_99 : decode method_4_code 99 = .ok (.iconst 1, 1) := by decide +kernel
theorem d1_100 : decode method_4_code 100 = .ok (.goto 4, 3) := by decide +kernel
theorem d1_103 : decode method_4_code 103 = .ok (.iconst 0, 1) := by decide +kernel
theorem d1_104 : decode method_4_code 104 = .ok (.istore 6, 2) := by decide +kernel
theorem d1_106 : decode method_4_code 106 = .ok (.iload 4, 2) := by decide +kernel
theorem d1_108 : decode method_4_code 108 = .ok (.ifCond .ne 26, 3) := by decide +kernel
theorem d1_111 : decode method_4_code 111 = .ok (.iload 5, 2) := by decide +kernel
theorem d1_113 : decode method_4_code 113 = .ok (.ifCond .ne 21, 3) := by decide +kernel
theorem d1_116 : decode method_4_code 116 = .ok (.iload_n 0, 1) := by decide +kernel
theorem d1_117 : decode method_4_code 117 = .ok (.bipush 43, 2) := by decide +kernel
theorem d1_119 : decode method_4_code 119 = .ok (.if_icmp .eq 15, 3) := by decide +kernel
theorem d1_122 : decode method_4_code 122 = .ok (.iload_n 0, 1) := by decide +kernel
theorem d1_123 : decode method_4_code 123 = .ok (.bipush 45, 2) := by decide +kernel
theorem d1_125 : decode method_4_code 125 = .ok (.if_icmp .eq 9, 3) := by decide +kernel
theorem d1_128 : decode method_4_code 128 = .ok (.iload_n 0, 1) := by decide +kernel
theorem d1_129 : decode method_4_code 129 = .ok (.bipush 46, 2) := by decide +kernel
theorem d1_131 : decode method_4_code 131 = .ok (.if_icmp .ne 7, 3) := by decide +kernel
theorem d1_134 : decode method_4_code 134 = .ok (.iconst 1, 1) := by decide +kernel
theorem d1_135 : decode method_4_code 135 = .ok (.goto 4, 3) := by decide +kernel
theorem d1_138 : decode method_4_code 138 = .ok (.iconst 0, 1) := by decide +kernel
theorem d1_139 : decode method_4_code 139 = .ok (.istore 7, 2) := by decide +kernel
theorem d1_141 : decode method_4_code 141 = .ok (.iload 4, 2) := by decide +kernel
theorem d1_143 : decode method_4_code 143 = .ok (.ifCond .ne 32, 3) := by decide +kernel
theorem d1_146 : decode method_4_code 146 = .ok (.iload 5, 2) := by decide +kernel
theorem d1_148 : decode method_4_code 148 = .ok (.ifCond .ne 27, 3) := by decide +kernel
theorem d1_151 : decode method_4_code 151 = .ok (.iload_n 0, 1) := by decide +kernel
theorem d1_152 : decode method_4_code 152 = .ok (.bipush 45, 2) := by decide +kernel
theorem d1_154 : decode method_4_code 154 = .ok (.if_icmp .eq 21, 3) := by decide +kernel
theorem d1_157 : decode method_4_code 157 = .ok (.iload_n 0, 1) := by decide +kernel
theorem d1_158 : decode method_4_code 158 = .ok (.bipush 46, 2) := by decide +kernel
theorem d1_160 : decode method_4_code 160 = .ok (.if_icmp .eq 15, 3) := by decide +kernel
theorem d1_163 : decode method_4_code 163 = .ok (.iload_n 0, 1) := by decide +kernel
theorem d1_164 : decode method_4_code 164 = .ok (.bipush 95, 2) := by decide +kernel
theorem d1_166 : decode method_4_code 166 = .ok (.if_icmp .eq 9, 3) := by decide +kernel
theorem d1_169 : decode method_4_code 169 = .ok (.iload_n 0, 1) := by decide +kernel
theorem d1_170 : decode method_4_code 170 = .ok (.bipush 126, 2) := by decide +kernel
theorem d1_172 : decode method_4_code 172 = .ok (.if_icmp .ne 7, 3) := by decide +kernel
theorem d1_175 : decode method_4_code 175 = .ok (.iconst 1, 1) := by decide +kernel
theorem d1_176 : decode method_4_code 176 = .ok (.goto 4, 3) := by decide +kernel
theorem d1_179 : decode method_4_code 179 = .ok (.iconst 0, 1) := by decide +kernel
theorem d1_180 : decode method_4_code 180 = .ok (.istore 8, 2) := by decide +kernel
theorem d1_182 : decode method_4_code 182 = .ok (.iload_n 0, 1) := by decide +kernel
theorem d1_183 : decode method_4_code 183 = .ok (.bipush 33, 2) := by decide +kernel
theorem d1_185 : decode method_4_code 185 = .ok (.if_icmp .eq 63, 3) := by decide +kernel
theorem d1_188 : decode method_4_code 188 = .ok (.iload_n 0, 1) := by decide +kernel
theorem d1_189 : decode method_4_code 189 = .ok (.bipush 36, 2) := by decide +kernel
theorem d1_191 : decode method_4_code 191 = .ok (.if_icmp .eq 57, 3) := by decide +kernel
theorem d1_194 : decode method_4_code 194 = .ok (.iload_n 0, 1) := by decide +kernel
theorem d1_195 : decode method_4_code 195 = .ok (.bipush 38, 2) := by decide +kernel
theorem d1_197 : decode method_4_code 197 = .ok (.if_icmp .eq 51, 3) := by decide +kernel
theorem d1_200 : decode method_4_code 200 = .ok (.iload_n 0, 1) := by decide +kernel
theorem d1_201 : decode method_4_code 201 = .ok (.bipush 39, 2) := by decide +kernel
theorem d1_203 : decode method_4_code 203 = .ok (.if_icmp .eq 45, 3) := by decide +kernel
theorem d1_206 : decode method_4_code 206 = .ok (.iload_n 0, 1) := by decide +kernel
theorem d1_207 : decode method_4_code 207 = .ok (.bipush 40, 2) := by decide +kernel
theorem d1_209 : decode method_4_code 209 = .ok (.if_icmp .eq 39, 3) := by decide +kernel
theorem d1_212 : decode method_4_code 212 = .ok (.iload_n 0, 1) := by decide +kernel
theorem d1_213 : decode method_4_code 213 = .ok (.bipush 41, 2) := by decide +kernel
theorem d1_215 : decode method_4_code 215 = .ok (.if_icmp .eq 33, 3) := by decide +kernel
theorem d1_218 : decode method_4_code 218 = .ok (.iload_n 0, 1) := by decide +kernel
theorem d1_219 : decode method_4_code 219 = .ok (.bipush 42, 2) := by decide +kernel
theorem d1_221 : decode method_4_code 221 = .ok (.if_icmp .eq 27, 3) := by decide +kernel
theorem d1_224 : decode method_4_code 224 = .ok (.iload_n 0, 1) := by decide +kernel
theorem d1_225 : decode method_4_code 225 = .ok (.bipush 43, 2) := by decide +kernel
theorem d1_227 : decode method_4_code 227 = .ok (.if_icmp .eq 21, 3) := by decide +kernel
theorem d1_230 : decode method_4_code 230 = .ok (.iload_n 0, 1) := by decide +kernel
theorem d1_231 : decode method_4_code 231 = .ok (.bipush 44, 2) := by decide +kernel
theorem d1_233 : decode method_4_code 233 = .ok (.if_icmp .eq 15, 3) := by decide +kernel
theorem d1_236 : decode method_4_code 236 = .ok (.iload_n 0, 1) := by decide +kernel
theorem d1_237 : decode method_4_code 237 = .ok (.bipush 59, 2) := by decide +kernel
theorem d1_239 : decode method_4_code 239 = .ok (.if_icmp .eq 9, 3) := by decide +kernel
theorem d1_242 : decode method_4_code 242 = .ok (.iload_n 0, 1) := by decide +kernel
theorem d1_243 : decode method_4_code 243 = .ok (.bipush 61, 2) := by decide +kernel
theorem d1_245 : decode method_4_code 245 = .ok (.if_icmp .ne 7, 3) := by decide +kernel
theorem d1_248 : decode method_4_code 248 = .ok (.iconst 1, 1) := by decide +kernel
theorem d1_249 : decode method_4_code 249 = .ok (.goto 4, 3) := by decide +kernel
theorem d1_252 : decode method_4_code 252 = .ok (.iconst 0, 1) := by decide +kernel
theorem d1_253 : decode method_4_code 253 = .ok (.istore 9, 2) := by decide +kernel
theorem d1_255 : decode method_4_code 255 = .ok (.iload_n 0, 1) := by decide +kernel
theorem d1_256 : decode method_4_code 256 = .ok (.bipush 58, 2) := by decide +kernel
theorem d1_258 : decode method_4_code 258 = .ok (.if_icmp .ne 7, 3) := by decide +kernel
theorem d1_261 : decode method_4_code 261 = .ok (.iconst 1, 1) := by decide +kernel
theorem d1_262 : decode method_4_code 262 = .ok (.goto 4, 3) := by decide +kernel
theorem d1_265 : decode method_4_code 265 = .ok (.iconst 0, 1) := by decide +kernel
theorem d1_266 : decode method_4_code 266 = .ok (.istore 10, 2) := by decide +kernel
theorem d1_268 : decode method_4_code 268 = .ok (.iload_n 0, 1) := by decide +kernel
theorem d1_269 : decode method_4_code 269 = .ok (.bipush 64, 2) := by decide +kernel
theorem d1_271 : decode method_4_code 271 = .ok (.if_icmp .ne 7, 3) := by decide +kernel
theorem d1_274 : decode method_4_code 274 = .ok (.iconst 1, 1) := by decide +kernel
theorem d1_275 : decode method_4_code 275 = .ok (.goto 4, 3) := by decide +kernel
theorem d1_278 : decode method_4_code 278 = .ok (.iconst 0, 1) := by decide +kernel
theorem d1_279 : decode method_4_code 279 = .ok (.istore 11, 2) := by decide +kernel
theorem d1_281 : decode method_4_code 281 = .ok (.iload_n 0, 1) := by decide +kernel
theorem d1_282 : decode method_4_code 282 = .ok (.bipush 47, 2) := by decide +kernel
theorem d1_284 : decode method_4_code 284 = .ok (.if_icmp .ne 7, 3) := by decide +kernel
theorem d1_287 : decode method_4_code 287 = .ok (.iconst 1, 1) := by decide +kernel
theorem d1_288 : decode method_4_code 288 = .ok (.goto 4, 3) := by decide +kernel
theorem d1_291 : decode method_4_code 291 = .ok (.iconst 0, 1) := by decide +kernel
theorem d1_292 : decode method_4_code 292 = .ok (.istore 12, 2) := by decide +kernel
theorem d1_294 : decode method_4_code 294 = .ok (.iload_n 0, 1) := by decide +kernel
theorem d1_295 : decode method_4_code 295 = .ok (.bipush 63, 2) := by decide +kernel
theorem d1_297 : decode method_4_code 297 = .ok (.if_icmp .ne 7, 3) := by decide +kernel
theorem d1_300 : decode method_4_code 300 = .ok (.iconst 1, 1) := by decide +kernel
theorem d1_301 : decode method_4_code 301 = .ok (.goto 4, 3) := by decide +kernel
theorem d1_304 : decode method_4_code 304 = .ok (.iconst 0, 1) := by decide +kernel
theorem d1_305 : decode method_4_code 305 = .ok (.istore 13, 2) := by decide +kernel
theorem d1_307 : decode method_4_code 307 = .ok (.iconst 0, 1) := by decide +kernel
theorem d1_308 : decode method_4_code 308 = .ok (.istore 14, 2) := by decide +kernel
theorem d1_310 : decode method_4_code 310 = .ok (.iload 4, 2) := by decide +kernel
theorem d1_312 : decode method_4_code 312 = .ok (.ifCond .eq 14, 3) := by decide +kernel
theorem d1_315 : decode method_4_code 315 = .ok (.iload_n 1, 1) := by decide +kernel
theorem d1_316 : decode method_4_code 316 = .ok (.iconst 1, 1) := by decide +kernel
theorem d1_317 : decode method_4_code 317 = .ok (.invokestatic 19, 3) := by decide +kernel
theorem d1_320 : decode method_4_code 320 = .ok (.ifCond .eq 6, 3) := by decide +kernel
theorem d1_323 : decode method_4_code 323 = .ok (.iconst 1, 1) := by decide +kernel
theorem d1_324 : decode method_4_code 324 = .ok (.istore 14, 2) := by decide +kernel
theorem d1_326 : decode method_4_code 326 = .ok (.iload 5, 2) := by decide +kernel
theorem d1_328 : decode method_4_code 328 = .ok (.ifCond .eq 14, 3) := by decide +kernel
theorem d1_331 : decode method_4_code 331 = .ok (.iload_n 1, 1) := by decide +kernel
theorem d1_332 : decode method_4_code 332 = .ok (.iconst 2, 1) := by decide +kernel
theorem d1_333 : decode method_4_code 333 = .ok (.invokestatic 19, 3) := by decide +kernel
theorem d1_336 : decode method_4_code 336 = .ok (.ifCond .eq 6, 3) := by decide +kernel
theorem d1_339 : decode method_4_code 339 = .ok (.iconst 1, 1) := by decide +kernel
theorem d1_340 : decode method_4_code 340 = .ok (.istore 14, 2) := by decide +kernel
theorem d1_342 : decode method_4_code 342 = .ok (.iload 6, 2) := by decide +kernel
theorem d1_344 : decode method_4_code 344 = .ok (.ifCond .eq 14, 3) := by decide +kernel
theorem d1_347 : decode method_4_code 347 = .ok (.iload_n 1, 1) := by decide +kernel
theorem d1_348 : decode method_4_code 348 = .ok (.iconst 4, 1) := by decide +kernel
theorem d1_349 : decode method_4_code 349 = .ok (.invokestatic 19, 3) := by decide +kernel
theorem d1_352 : decode method_4_code 352 = .ok (.ifCond .eq 6, 3) := by decide +kernel
theorem d1_355 : decode method_4_code 355 = .ok (.iconst 1, 1) := by decide +kernel
theorem d1_356 : decode method_4_code 356 = .ok (.istore 14, 2) := by decide +kernel
theorem d1_358 : decode method_4_code 358 = .ok (.iload 7, 2) := by decide +kernel
theorem d1_360 : decode method_4_code 360 = .ok (.ifCond .eq 15, 3) := by decide +kernel
theorem d1_363 : decode method_4_code 363 = .ok (.iload_n 1, 1) := by decide +kernel
theorem d1_364 : decode method_4_code 364 = .ok (.bipush 8, 2) := by decide +kernel
theorem d1_366 : decode method_4_code 366 = .ok (.invokestatic 19, 3) := by decide +kernel
theorem d1_369 : decode method_4_code 369 = .ok (.ifCond .eq 6, 3) := by decide +kernel
theorem d1_372 : decode method_4_code 372 = .ok (.iconst 1, 1) := by decide +kernel
theorem d1_373 : decode method_4_code 373 = .ok (.istore 14, 2) := by decide +kernel
theorem d1_375 : decode method_4_code 375 = .ok (.iload 8, 2) := by decide +kernel
theorem d1_377 : decode method_4_code 377 = .ok (.ifCond .eq 15, 3) := by decide +kernel
theorem d1_380 : decode method_4_code 380 = .ok (.iload_n 1, 1) := by decide +kernel
theorem d1_381 : decode method_4_code 381 = .ok (.bipush 16, 2) := by decide +kernel
theorem d1_383 : decode method_4_code 383 = .ok (.invokestatic 19, 3) := by decide +kernel
theorem d1_386 : decode method_4_code 386 = .ok (.ifCond .eq 6, 3) := by decide +kernel
theorem d1_389 : decode method_4_code 389 = .ok (.iconst 1, 1) := by decide +kernel
theorem d1_390 : decode method_4_code 390 = .ok (.istore 14, 2) := by decide +kernel
theorem d1_392 : decode method_4_code 392 = .ok (.iload 9, 2) := by decide +kernel
theorem d1_394 : decode method_4_code 394 = .ok (.ifCond .eq 15, 3) := by decide +kernel
theorem d1_397 : decode method_4_code 397 = .ok (.iload_n 1, 1) := by decide +kernel
theorem d1_398 : decode method_4_code 398 = .ok (.bipush 32, 2) := by decide +kernel
theorem d1_400 : decode method_4_code 400 = .ok (.invokestatic 19, 3) := by decide +kernel
theorem d1_403 : decode method_4_code 403 = .ok (.ifCond .eq 6, 3) := by decide +kernel
theorem d1_406 : decode method_4_code 406 = .ok (.iconst 1, 1) := by decide +kernel
theorem d1_407 : decode method_4_code 407 = .ok (.istore 14, 2) := by decide +kernel
theorem d1_409 : decode method_4_code 409 = .ok (.iload 10, 2) := by decide +kernel
theorem d1_411 : decode method_4_code 411 = .ok (.ifCond .eq 15, 3) := by decide +kernel
theorem d1_414 : decode method_4_code 414 = .ok (.iload_n 1, 1) := by decide +kernel
theorem d1_415 : decode method_4_code 415 = .ok (.bipush 64, 2) := by decide +kernel
theorem d1_417 : decode method_4_code 417 = .ok (.invokestatic 19, 3) := by decide +kernel
theorem d1_420 : decode method_4_code 420 = .ok (.ifCond .eq 6, 3) := by decide +kernel
theorem d1_423 : decode method_4_code 423 = .ok (.iconst 1, 1) := by decide +kernel
theorem d1_424 : decode method_4_code 424 = .ok (.istore 14, 2) := by decide +kernel
theorem d1_426 : decode method_4_code 426 = .ok (.iload 11, 2) := by decide +kernel
theorem d1_428 : decode method_4_code 428 = .ok (.ifCond .eq 16, 3) := by decide +kernel
theorem d1_431 : decode method_4_code 431 = .ok (.iload_n 1, 1) := by decide +kernel
theorem d1_432 : decode method_4_code 432 = .ok (.sipush 128, 3) := by decide +kernel
theorem d1_435 : decode method_4_code 435 = .ok (.invokestatic 19, 3) := by decide +kernel
theorem d1_438 : decode method_4_code 438 = .ok (.ifCond .eq 6, 3) := by decide +kernel
theorem d1_441 : decode method_4_code 441 = .ok (.iconst 1, 1) := by decide +kernel
theorem d1_442 : decode method_4_code 442 = .ok (.istore 14, 2) := by decide +kernel
theorem d1_444 : decode method_4_code 444 = .ok (.iload 12, 2) := by decide +kernel
theorem d1_446 : decode method_4_code 446 = .ok (.ifCond .eq 16, 3) := by decide +kernel
theorem d1_449 : decode method_4_code 449 = .ok (.iload_n 1, 1) := by decide +kernel
theorem d1_450 : decode method_4_code 450 = .ok (.sipush 256, 3) := by decide +kernel
theorem d1_453 : decode method_4_code 453 = .ok (.invokestatic 19, 3) := by decide +kernel
theorem d1_456 : decode method_4_code 456 = .ok (.ifCond .eq 6, 3) := by decide +kernel
theorem d1_459 : decode method_4_code 459 = .ok (.iconst 1, 1) := by decide +kernel
theorem d1_460 : decode method_4_code 460 = .ok (.istore 14, 2) := by decide +kernel
theorem d1_462 : decode method_4_code 462 = .ok (.iload 13, 2) := by decide +kernel
theorem d1_464 : decode method_4_code 464 = .ok (.ifCond .eq 16, 3) := by decide +kernel
theorem d1_467 : decode method_4_code 467 = .ok (.iload_n 1, 1) := by decide +kernel
theorem d1_468 : decode method_4_code 468 = .ok (.sipush 512, 3) := by decide +kernel
theorem d1_471 : decode method_4_code 471 = .ok (.invokestatic 19, 3) := by decide +kernel
theorem d1_474 : decode method_4_code 474 = .ok (.ifCond .eq 6, 3) := by decide +kernel
theorem d1_477 : decode method_4_code 477 = .ok (.iconst 1, 1) := by decide +kernel
theorem d1_478 : decode method_4_code 478 = .ok (.istore 14, 2) := by decide +kernel
theorem d1_480 : decode method_4_code 480 = .ok (.iload 14, 2) := by decide +kernel
theorem d1_482 : decode method_4_code 482 = .ok (.ireturn, 1) := by decide +kernel
theorem d2_0 : decode prog_1_method_2_code 0 = .ok (.iload_n 0, 1) := by decide +kernel
theorem d2_1 : decode prog_1_method_2_code 1 = .ok (.getstatic 9, 3) := by decide +kernel
theorem d2_4 : decode prog_1_method_2_code 4 = .ok (.arraylength, 1) := by decide +kernel
theorem d2_5 : decode prog_1_method_2_code 5 = .ok (.if_icmp .ge 17, 3) := by decide +kernel
theorem d2_8 : decode prog_1_method_2_code 8 = .ok (.getstatic 9, 3) := by decide +kernel
theorem d2_11 : decode prog_1_method_2_code 11 = .ok (.iload_n 0, 1) := by decide +kernel
theorem d2_12 : decode prog_1_method_2_code 12 = .ok (.iaload, 1) := by decide +kernel
theorem d2_13 : decode prog_1_method_2_code 13 = .ok (.iload_n 1, 1) := by decide +kernel
theorem d2_14 : decode prog_1_method_2_code 14 = .ok (.iand, 1) := by decide +kernel
theorem d2_15 : decode prog_1_method_2_code 15 = .ok (.ifCond .eq 7, 3) := by decide +kernel
theorem d2_18 : decode prog_1_method_2_code 18 = .ok (.iconst 1, 1) := by decide +kernel
theorem d2_19 : decode prog_1_method_2_code 19 = .ok (.goto 4, 3) := by decide +kernel
theorem d2_22 : decode prog_1_method_2_code 22 = .ok (.iconst 0, 1) := by decide +kernel
theorem d2_23 : decode prog_1_method_2_code 23 = .ok (.ireturn, 1) := by decide +kernel
theorem d3_0 : decode method_3_code 0 = .ok (.iload_n 0, 1) := by decide +kernel
theorem d3_1 : decode method_3_code 1 = .ok (.iload_n 1, 1) := by decide +kernel
theorem d3_2 : decode method_3_code 2 = .ok (.iand, 1) := by decide +kernel
theorem d3_3 : decode method_3_code 3 = .ok (.ifCond .eq 7, 3) := by decide +kernel
theorem d3_6 : decode method_3_code 6 = .ok (.iconst 1, 1) := by decide +kernel
theorem d3_7 : decode method_3_code 7 = .ok (.goto 4, 3) := by decide +kernel
theorem d3_10 : decode method_3_code 10 = .ok (.iconst 0, 1) := by decide +kernel
theorem d3_11 : decode method_3_code 11 = .ok (.ireturn, 1) := by decide +kernel
theorem pn0 : plainName "com/example/strict_uri/stricturi/CharClassInPinLaw" = true := by first | (simp [plainName, overriddenIn]; done) | decide +kernel
theorem pd0 : parseMethodDescriptor "(II)Z" = some ⟨[.int, .int], some .boolean⟩ := by decide +kernel
theorem pn1 : plainName "com/example/strict_uri/stricturi/CharClass" = true := by first | (simp [plainName, overriddenIn]; done) | decide +kernel
theorem pd1 : parseMethodDescriptor "(CI)Z" = some ⟨[.char, .int], some .boolean⟩ := by decide +kernel
def own_bi (b : Bool) : Int32 := if b = true then 1 else 0
theorem own_bi0 (b : Bool) : own_bi b = 0 ↔ b = false := by cases b <;> decide
theorem own_bin (b : Bool) : nar .boolean (own_bi b) = own_bi b := by cases b <;> decide
def own_has (m b : Int32) : Bool := !decide (m &&& b = 0)
def own_rng (c a b : Int32) : Bool := !decide (c < a) && !decide (b < c)
def own_lower (c : Int32) : Bool := own_rng c 97 122
def own_upper (c : Int32) : Bool := own_rng c 65 90
def own_alpha (c : Int32) : Bool := own_lower c || own_upper c
def own_digit (c : Int32) : Bool := own_rng c 48 57
def own_hex (c : Int32) : Bool := own_digit c || own_rng c 97 102 || own_rng c 65 70
def own_scheme (c : Int32) : Bool := own_alpha c || own_digit c || decide (c = 43) || decide (c = 45) || decide (c = 46)
def own_unres (c : Int32) : Bool := own_alpha c || own_digit c || decide (c = 45) || decide (c = 46) || decide (c = 95) || decide (c = 126)
def own_sub (c : Int32) : Bool := decide (c = 33) || decide (c = 36) || decide (c = 38) || decide (c = 39) || decide (c = 40) || decide (c = 41) || decide (c = 42) || decide (c = 43) || decide (c = 44) || decide (c = 59) || decide (c = 61)
def own_colon (c : Int32) : Bool := decide (c = 58)
def own_at (c : Int32) : Bool := decide (c = 64)
def own_slash (c : Int32) : Bool := decide (c = 47)
def own_quest (c : Int32) : Bool := decide (c = 63)
def own_r0 (c m : Int32) : Bool := false || (own_alpha c && own_has m 1)
def own_r1 (c m : Int32) : Bool := own_r0 c m || (own_digit c && own_has m 2)
def own_r2 (c m : Int32) : Bool := own_r1 c m || (own_hex c && own_has m 4)
def own_r3 (c m : Int32) : Bool := own_r2 c m || (own_scheme c && own_has m 8)
def own_r4 (c m : Int32) : Bool := own_r3 c m || (own_unres c && own_has m 16)
def own_r5 (c m : Int32) : Bool := own_r4 c m || (own_sub c && own_has m 32)
def own_r6 (c m : Int32) : Bool := own_r5 c m || (own_colon c && own_has m 64)
def own_r7 (c m : Int32) : Bool := own_r6 c m || (own_at c && own_has m 128)
def own_r8 (c m : Int32) : Bool := own_r7 c m || (own_slash c && own_has m 256)
def own_r9 (c m : Int32) : Bool := own_r8 c m || (own_quest c && own_has m 512)
set_option maxRecDepth 65536
set_option maxHeartbeats 4000000
theorem con_has (l : Launch) (Z : State) (b0 : Array Value) (hw : ∀ d ∈ tables_1, d.before b0 Z = true) (x z : Int32) (h0 : Heap) (hE : Ext Z.heap h0) : Con l Z (⟨"com/example/strict_uri/stricturi/CharClassInPinLaw", "has", "(II)Z"⟩ : MethodName) method_3_code 2 (some .boolean) ({ frames := 0, cells := 0, slots := 0, locals := 0 } : Room) #[(.int x), (.int z)] h0 [] (QV fun w h => w = .int (own_bi (own_has x z)) ∧ h0 = h) := by
  refine Con.of (plainFor_of_name pn0) hE ⟨b0, EW.nil⟩ all0 (L0 := #[.val (.int x), .val (.int z)]) (fun m => by first | (simp [entryFrame, mkF, argsToLocals, Value.category]; done) | rfl) ?_
  intro p e s m args below meth c T W
  refine o_iloadN 1 W d3_0 rfl ?_
  refine o_iloadN 2 W d3_1 rfl ?_
  refine o_iand 3 W d3_2 ?_
  refine o_ifeq 10 6 W d3_3 (fun c3 => ?_) (fun c3 => ?_)
  · refine o_iconst 11 W (0) d3_10 (by first | rfl | decide) ?_
    exact o_nret W (0 : Int32) (by simp) (by decide) d3_11 (⟨by simp [own_has, own_bi, c3], rfl⟩)
  · refine o_iconst 7 W (1) d3_6 (by first | rfl | decide) ?_
    refine o_goto 11 W d3_7 ?_
    exact o_nret W (1 : Int32) (by simp) (by decide) d3_11 (⟨by simp [own_has, own_bi, c3], rfl⟩)
theorem con_ref (l : Launch) (Z : State) (b0 : Array Value) (hw : ∀ d ∈ tables_1, d.before b0 Z = true) (ch mask : Int32) (h0 : Heap) (hE : Ext Z.heap h0) : Con l Z (⟨"com/example/strict_uri/stricturi/CharClassInPinLaw", "reference", "(CI)Z"⟩ : MethodName) method_4_code 15 (some .boolean) ({ frames := 1, cells := 0, slots := 0, locals := 14 } : Room) #[(.int ch), (.int mask)] h0 [] (QV fun w h => w = .int (own_bi (own_r9 ch mask)) ∧ h0 = h) := by
  refine Con.of (plainFor_of_name pn0) hE ⟨b0, EW.nil⟩ all0 (L0 := #[.val (.int ch), .val (.int mask), .unset, .unset, .unset, .unset, .unset, .unset, .unset, .unset, .unset, .unset, .unset, .unset, .unset]) (fun m => by first | (simp [entryFrame, mkF, argsToLocals, Value.category]; done) | rfl) ?_
  intro p e s m args below meth c T W
  refine Go.cutW W (g' := (mkF m 17 #[.val (.int ch), .val (.int mask), .unset, .unset, .unset, .unset, .unset, .unset, .unset, .unset, .unset, .unset, .unset, .unset, .unset] [(.int (own_bi (own_lower ch)))])) (fun J => ?_) (fun T W => ?_)
  · refine o_iloadN 1 W d1_0 rfl ?_
    refine o_bipush 3 W (97) d1_1 (by first | rfl | decide) ?_
    refine o_iclt 16 6 W d1_3 (fun c3 => ?_) (fun c3 => ?_)
    · refine o_iconst 17 W (0) d1_16 (by first | rfl | decide) ?_
      exact (J _ W).eq (congrArg (fun z => mkF m 17 #[.val (.int ch), .val (.int mask), .unset, .unset, .unset, .unset, .unset, .unset, .unset, .unset, .unset, .unset, .unset, .unset, .unset] [(.int z)]) (by simp [own_bi, own_lower, own_rng, c3]))
    · refine o_iloadN 7 W d1_6 rfl ?_
      refine o_bipush 9 W (122) d1_7 (by first | rfl | decide) ?_
      refine o_icgt 16 12 W d1_9 (fun c9 => ?_) (fun c9 => ?_)
      · refine o_iconst 17 W (0) d1_16 (by first | rfl | decide) ?_
        exact (J _ W).eq (congrArg (fun z => mkF m 17 #[.val (.int ch), .val (.int mask), .unset, .unset, .unset, .unset, .unset, .unset, .unset, .unset, .unset, .unset, .unset, .unset, .unset] [(.int z)]) (by simp [own_bi, own_lower, own_rng, c3, c9]))
      · refine o_iconst 13 W (1) d1_12 (by first | rfl | decide) ?_
        refine o_goto 17 W d1_13 ?_
        exact (J _ W).eq (congrArg (fun z => mkF m 17 #[.val (.int ch), .val (.int mask), .unset, .unset, .unset, .unset, .unset, .unset, .unset, .unset, .unset, .unset, .unset, .unset, .unset] [(.int z)]) (by simp [own_bi, own_lower, own_rng, c3, c9]))
  refine o_istoreN 18 W #[.val (.int ch), .val (.int mask), .val (.int (own_bi (own_lower ch))), .unset, .unset, .unset, .unset, .unset, .unset, .unset, .unset, .unset, .unset, .unset, .unset] d1_17 rfl ?_
  refine Go.cutW W (g' := (mkF m 35 #[.val (.int ch), .val (.int mask), .val (.int (own_bi (own_lower ch))), .unset, .unset, .unset, .unset, .unset, .unset, .unset, .unset, .unset, .unset, .unset, .unset] [(.int (own_bi (own_upper ch)))])) (fun J => ?_) (fun T W => ?_)
  · refine o_iloadN 19 W d1_18 rfl ?_
    refine o_bipush 21 W (65) d1_19 (by first | rfl | decide) ?_
    refine o_iclt 34 24 W d1_21 (fun c21 => ?_) (fun c21 => ?_)
    · refine o_iconst 35 W (0) d1_34 (by first | rfl | decide) ?_
      exact (J _ W).eq (congrArg (fun z => mkF m 35 #[.val (.int ch), .val (.int mask), .val (.int (own_bi (own_lower ch))), .unset, .unset, .unset, .unset, .unset, .unset, .unset, .unset, .unset, .unset, .unset, .unset] [(.int z)]) (by simp [own_bi, own_upper, own_rng, c21]))
    · refine o_iloadN 25 W d1_24 rfl ?_
      refine o_bipush 27 W (90) d1_25 (by first | rfl | decide) ?_
      refine o_icgt 34 30 W d1_27 (fun c27 => ?_) (fun c27 => ?_)
      · refine o_iconst 35 W (0) d1_34 (by first | rfl | decide) ?_
        exact (J _ W).eq (congrArg (fun z => mkF m 35 #[.val (.int ch), .val (.int mask), .val (.int (own_bi (own_lower ch))), .unset, .unset, .unset, .unset, .unset, .unset, .unset, .unset, .unset, .unset, .unset, .unset] [(.int z)]) (by simp [own_bi, own_upper, own_rng, c21, c27]))
      · refine o_iconst 31 W (1) d1_30 (by first | rfl | decide) ?_
        refine o_goto 35 W d1_31 ?_
        exact (J _ W).eq (congrArg (fun z => mkF m 35 #[.val (.int ch), .val (.int mask), .val (.int (own_bi (own_lower ch))), .unset, .unset, .unset, .unset, .unset, .unset, .unset, .unset, .unset, .unset, .unset, .unset] [(.int z)]) (by simp [own_bi, own_upper, own_rng, c21, c27]))
  refine o_istoreN 36 W #[.val (.int ch), .val (.int mask), .val (.int (own_bi (own_lower ch))), .val (.int (own_bi (own_upper ch))), .unset, .unset, .unset, .unset, .unset, .unset, .unset, .unset, .unset, .unset, .unset] d1_35 rfl ?_
  refine Go.cutW W (g' := (mkF m 49 #[.val (.int ch), .val (.int mask), .val (.int (own_bi (own_lower ch))), .val (.int (own_bi (own_upper ch))), .unset, .unset, .unset, .unset, .unset, .unset, .unset, .unset, .unset, .unset, .unset] [(.int (own_bi (own_alpha ch)))])) (fun J => ?_) (fun T W => ?_)
  · refine o_iloadN 37 W d1_36 rfl ?_
    refine o_ifne 44 40 W d1_37 (fun c37 => ?_) (fun c37 => ?_)
    · refine o_iconst 45 W (1) d1_44 (by first | rfl | decide) ?_
      refine o_goto 49 W d1_45 ?_
      simp only [own_bi0, Bool.not_eq_false] at c37
      exact (J _ W).eq (congrArg (fun z => mkF m 49 #[.val (.int ch), .val (.int mask), .val (.int (own_bi (own_lower ch))), .val (.int (own_bi (own_upper ch))), .unset, .unset, .unset, .unset, .unset, .unset, .unset, .unset, .unset, .unset, .unset] [(.int z)]) (by simp [own_bi, own_alpha, c37]))
    · refine o_iloadN 41 W d1_40 rfl ?_
      refine o_ifeq 48 44 W d1_41 (fun c41 => ?_) (fun c41 => ?_)
      · refine o_iconst 49 W (0) d1_48 (by first | rfl | decide) ?_
        simp only [own_bi0, Bool.not_eq_false] at c37 c41
        exact (J _ W).eq (congrArg (fun z => mkF m 49 #[.val (.int ch), .val (.int mask), .val (.int (own_bi (own_lower ch))), .val (.int (own_bi (own_upper ch))), .unset, .unset, .unset, .unset, .unset, .unset, .unset, .unset, .unset, .unset, .unset] [(.int z)]) (by simp [own_bi, own_alpha, c37, c41]))
      · refine o_iconst 45 W (1) d1_44 (by first | rfl | decide) ?_
        refine o_goto 49 W d1_45 ?_
        simp only [own_bi0, Bool.not_eq_false] at c37 c41
        exact (J _ W).eq (congrArg (fun z => mkF m 49 #[.val (.int ch), .val (.int mask), .val (.int (own_bi (own_lower ch))), .val (.int (own_bi (own_upper ch))), .unset, .unset, .unset, .unset, .unset, .unset, .unset, .unset, .unset, .unset, .unset] [(.int z)]) (by simp [own_bi, own_alpha, c37, c41]))
  refine o_istore 51 W #[.val (.int ch), .val (.int mask), .val (.int (own_bi (own_lower ch))), .val (.int (own_bi (own_upper ch))), .val (.int (own_bi (own_alpha ch))), .unset, .unset, .unset, .unset, .unset, .unset, .unset, .unset, .unset, .unset] d1_49 rfl ?_
  refine Go.cutW W (g' := (mkF m 68 #[.val (.int ch), .val (.int mask), .val (.int (own_bi (own_lower ch))), .val (.int (own_bi (own_upper ch))), .val (.int (own_bi (own_alpha ch))), .unset, .unset, .unset, .unset, .unset, .unset, .unset, .unset, .unset, .unset] [(.int (own_bi (own_digit ch)))])) (fun J => ?_) (fun T W => ?_)
  · refine o_iloadN 52 W d1_51 rfl ?_
    refine o_bipush 54 W (48) d1_52 (by first | rfl | decide) ?_
    refine o_iclt 67 57 W d1_54 (fun c54 => ?_) (fun c54 => ?_)
    · refine o_iconst 68 W (0) d1_67 (by first | rfl | decide) ?_
      exact (J _ W).eq (congrArg (fun z => mkF m 68 #[.val (.int ch), .val (.int mask), .val (.int (own_bi (own_lower ch))), .val (.int (own_bi (own_upper ch))), .val (.int (own_bi (own_alpha ch))), .unset, .unset, .unset, .unset, .unset, .unset, .unset, .unset, .unset, .unset] [(.int z)]) (by simp [own_bi, own_digit, own_rng, c54]))
    · refine o_iloadN 58 W d1_57 rfl ?_
      refine o_bipush 60 W (57) d1_58 (by first | rfl | decide) ?_
      refine o_icgt 67 63 W d1_60 (fun c60 => ?_) (fun c60 => ?_)
      · refine o_iconst 68 W (0) d1_67 (by first | rfl | decide) ?_
        exact (J _ W).eq (congrArg (fun z => mkF m 68 #[.val (.int ch), .val (.int mask), .val (.int (own_bi (own_lower ch))), .val (.int (own_bi (own_upper ch))), .val (.int (own_bi (own_alpha ch))), .unset, .unset, .unset, .unset, .unset, .unset, .unset, .unset, .unset, .unset] [(.int z)]) (by simp [own_bi, own_digit, own_rng, c54, c60]))
      · refine o_iconst 64 W (1) d1_63 (by first | rfl | decide) ?_
        refine o_goto 68 W d1_64 ?_
        exact (J _ W).eq (congrArg (fun z => mkF m 68 #[.val (.int ch), .val (.int mask), .val (.int (own_bi (own_lower ch))), .val (.int (own_bi (own_upper ch))), .val (.int (own_bi (own_alpha ch))), .unset, .unset, .unset, .unset, .unset, .unset, .unset, .unset, .unset, .unset] [(.int z)]) (by simp [own_bi, own_digit, own_rng, c54, c60]))
  refine o_istore 70 W #[.val (.int ch), .val (.int mask), .val (.int (own_bi (own_lower ch))), .val (.int (own_bi (own_upper ch))), .val (.int (own_bi (own_alpha ch))), .val (.int (own_bi (own_digit ch))), .unset, .unset, .unset, .unset, .unset, .unset, .unset, .unset, .unset] d1_68 rfl ?_
  refine Go.cutW W (g' := (mkF m 104 #[.val (.int ch), .val (.int mask), .val (.int (own_bi (own_lower ch))), .val (.int (own_bi (own_upper ch))), .val (.int (own_bi (own_alpha ch))), .val (.int (own_bi (own_digit ch))), .unset, .unset, .unset, .unset, .unset, .unset, .unset, .unset, .unset] [(.int (own_bi (own_hex ch)))])) (fun J => ?_) (fun T W => ?_)
  · refine o_iload 72 W d1_70 rfl ?_
    refine o_ifne 99 75 W d1_72 (fun c72 => ?_) (fun c72 => ?_)
    · refine o_iconst 100 W (1) d1_99 (by first | rfl | decide) ?_
      refine o_goto 104 W d1_100 ?_
      simp only [own_bi0, Bool.not_eq_false] at c72
      exact (J _ W).eq (congrArg (fun z => mkF m 104 #[.val (.int ch), .val (.int mask), .val (.int (own_bi (own_lower ch))), .val (.int (own_bi (own_upper ch))), .val (.int (own_bi (own_alpha ch))), .val (.int (own_bi (own_digit ch))), .unset, .unset, .unset, .unset, .unset, .unset, .unset, .unset, .unset] [(.int z)]) (by simp [own_bi, own_hex, own_rng, c72]))
    · refine o_iloadN 76 W d1_75 rfl ?_
      refine o_bipush 78 W (97) d1_76 (by first | rfl | decide) ?_
      refine o_iclt 87 81 W d1_78 (fun c78 => ?_) (fun c78 => ?_)
      · refine o_iloadN 88 W d1_87 rfl ?_
        refine o_bipush 90 W (65) d1_88 (by first | rfl | decide) ?_
        refine o_iclt 103 93 W d1_90 (fun c90 => ?_) (fun c90 => ?_)
        · refine o_iconst 104 W (0) d1_103 (by first | rfl | decide) ?_
          simp only [own_bi0, Bool.not_eq_false] at c72
          exact (J _ W).eq (congrArg (fun z => mkF m 104 #[.val (.int ch), .val (.int mask), .val (.int (own_bi (own_lower ch))), .val (.int (own_bi (own_upper ch))), .val (.int (own_bi (own_alpha ch))), .val (.int (own_bi (own_digit ch))), .unset, .unset, .unset, .unset, .unset, .unset, .unset, .unset, .unset] [(.int z)]) (by simp [own_bi, own_hex, own_rng, c72, c78, c90]))
        · refine o_iloadN 94 W d1_93 rfl ?_
          refine o_bipush 96 W (70) d1_94 (by first | rfl | decide) ?_
          refine o_icgt 103 99 W d1_96 (fun c96 => ?_) (fun c96 => ?_)
          · refine o_iconst 104 W (0) d1_103 (by first | rfl | decide) ?_
            simp only [own_bi0, Bool.not_eq_false] at c72
            exact (J _ W).eq (congrArg (fun z => mkF m 104 #[.val (.int ch), .val (.int mask), .val (.int (own_bi (own_lower ch))), .val (.int (own_bi (own_upper ch))), .val (.int (own_bi (own_alpha ch))), .val (.int (own_bi (own_digit ch))), .unset, .unset, .unset, .unset, .unset, .unset, .unset, .unset, .unset] [(.int z)]) (by simp [own_bi, own_hex, own_rng, c72, c78, c90, c96]))
          · refine o_iconst 100 W (1) d1_99 (by first | rfl | decide) ?_
            refine o_goto 104 W d1_100 ?_
            simp only [own_bi0, Bool.not_eq_false] at c72
            exact (J _ W).eq (congrArg (fun z => mkF m 104 #[.val (.int ch), .val (.int mask), .val (.int (own_bi (own_lower ch))), .val (.int (own_bi (own_upper ch))), .val (.int (own_bi (own_alpha ch))), .val (.int (own_bi (own_digit ch))), .unset, .unset, .unset, .unset, .unset, .unset, .unset, .unset, .unset] [(.int z)]) (by simp [own_bi, own_hex, own_rng, c72, c78, c90, c96]))
      · refine o_iloadN 82 W d1_81 rfl ?_
        refine o_bipush 84 W (102) d1_82 (by first | rfl | decide) ?_
        refine o_icle 99 87 W d1_84 (fun c84 => ?_) (fun c84 => ?_)
        · refine o_iconst 100 W (1) d1_99 (by first | rfl | decide) ?_
          refine o_goto 104 W d1_100 ?_
          simp only [own_bi0, Bool.not_eq_false] at c72
          exact (J _ W).eq (congrArg (fun z => mkF m 104 #[.val (.int ch), .val (.int mask), .val (.int (own_bi (own_lower ch))), .val (.int (own_bi (own_upper ch))), .val (.int (own_bi (own_alpha ch))), .val (.int (own_bi (own_digit ch))), .unset, .unset, .unset, .unset, .unset, .unset, .unset, .unset, .unset] [(.int z)]) (by simp [own_bi, own_hex, own_rng, c72, c78, c84]))
        · refine o_iloadN 88 W d1_87 rfl ?_
          refine o_bipush 90 W (65) d1_88 (by first | rfl | decide) ?_
          refine o_iclt 103 93 W d1_90 (fun c90 => ?_) (fun c90 => ?_)
          · refine o_iconst 104 W (0) d1_103 (by first | rfl | decide) ?_
            simp only [own_bi0, Bool.not_eq_false] at c72
            exact (J _ W).eq (congrArg (fun z => mkF m 104 #[.val (.int ch), .val (.int mask), .val (.int (own_bi (own_lower ch))), .val (.int (own_bi (own_upper ch))), .val (.int (own_bi (own_alpha ch))), .val (.int (own_bi (own_digit ch))), .unset, .unset, .unset, .unset, .unset, .unset, .unset, .unset, .unset] [(.int z)]) (by simp [own_bi, own_hex, own_rng, c72, c78, c84, c90]))
          · refine o_iloadN 94 W d1_93 rfl ?_
            refine o_bipush 96 W (70) d1_94 (by first | rfl | decide) ?_
            refine o_icgt 103 99 W d1_96 (fun c96 => ?_) (fun c96 => ?_)
            · refine o_iconst 104 W (0) d1_103 (by first | rfl | decide) ?_
              simp only [own_bi0, Bool.not_eq_false] at c72
              exact (J _ W).eq (congrArg (fun z => mkF m 104 #[.val (.int ch), .val (.int mask), .val (.int (own_bi (own_lower ch))), .val (.int (own_bi (own_upper ch))), .val (.int (own_bi (own_alpha ch))), .val (.int (own_bi (own_digit ch))), .unset, .unset, .unset, .unset, .unset, .unset, .unset, .unset, .unset] [(.int z)]) (by simp [own_bi, own_hex, own_rng, c72, c78, c84, c90, c96]))
            · refine o_iconst 100 W (1) d1_99 (by first | rfl | decide) ?_
              refine o_goto 104 W d1_100 ?_
              simp only [own_bi0, Bool.not_eq_false] at c72
              exact (J _ W).eq (congrArg (fun z => mkF m 104 #[.val (.int ch), .val (.int mask), .val (.int (own_bi (own_lower ch))), .val (.int (own_bi (own_upper ch))), .val (.int (own_bi (own_alpha ch))), .val (.int (own_bi (own_digit ch))), .unset, .unset, .unset, .unset, .unset, .unset, .unset, .unset, .unset] [(.int z)]) (by simp [own_bi, own_hex, own_rng, c72, c78, c84, c90, c96]))
  refine o_istore 106 W #[.val (.int ch), .val (.int mask), .val (.int (own_bi (own_lower ch))), .val (.int (own_bi (own_upper ch))), .val (.int (own_bi (own_alpha ch))), .val (.int (own_bi (own_digit ch))), .val (.int (own_bi (own_hex ch))), .unset, .unset, .unset, .unset, .unset, .unset, .unset, .unset] d1_104 rfl ?_
  refine Go.cutW W (g' := (mkF m 139 #[.val (.int ch), .val (.int mask), .val (.int (own_bi (own_lower ch))), .val (.int (own_bi (own_upper ch))), .val (.int (own_bi (own_alpha ch))), .val (.int (own_bi (own_digit ch))), .val (.int (own_bi (own_hex ch))), .unset, .unset, .unset, .unset, .unset, .unset, .unset, .unset] [(.int (own_bi (own_scheme ch)))])) (fun J => ?_) (fun T W => ?_)
  · refine o_iload 108 W d1_106 rfl ?_
    refine o_ifne 134 111 W d1_108 (fun c108 => ?_) (fun c108 => ?_)
    · refine o_iconst 135 W (1) d1_134 (by first | rfl | decide) ?_
      refine o_goto 139 W d1_135 ?_
      simp only [own_bi0, Bool.not_eq_false] at c108
      exact (J _ W).eq (congrArg (fun z => mkF m 139 #[.val (.int ch), .val (.int mask), .val (.int (own_bi (own_lower ch))), .val (.int (own_bi (own_upper ch))), .val (.int (own_bi (own_alpha ch))), .val (.int (own_bi (own_digit ch))), .val (.int (own_bi (own_hex ch))), .unset, .unset, .unset, .unset, .unset, .unset, .unset, .unset] [(.int z)]) (by simp [own_bi, own_scheme, c108]))
    · refine o_iload 113 W d1_111 rfl ?_
      refine o_ifne 134 116 W d1_113 (fun c113 => ?_) (fun c113 => ?_)
      · refine o_iconst 135 W (1) d1_134 (by first | rfl | decide) ?_
        refine o_goto 139 W d1_135 ?_
        simp only [own_bi0, Bool.not_eq_false] at c108 c113
        exact (J _ W).eq (congrArg (fun z => mkF m 139 #[.val (.int ch), .val (.int mask), .val (.int (own_bi (own_lower ch))), .val (.int (own_bi (own_upper ch))), .val (.int (own_bi (own_alpha ch))), .val (.int (own_bi (own_digit ch))), .val (.int (own_bi (own_hex ch))), .unset, .unset, .unset, .unset, .unset, .unset, .unset, .unset] [(.int z)]) (by simp [own_bi, own_scheme, c108, c113]))
      · refine o_iloadN 117 W d1_116 rfl ?_
        refine o_bipush 119 W (43) d1_117 (by first | rfl | decide) ?_
        refine o_iceq 134 122 W d1_119 (fun c119 => ?_) (fun c119 => ?_)
        · refine o_iconst 135 W (1) d1_134 (by first | rfl | decide) ?_
          refine o_goto 139 W d1_135 ?_
          simp only [own_bi0, Bool.not_eq_false] at c108 c113
          exact (J _ W).eq (congrArg (fun z => mkF m 139 #[.val (.int ch), .val (.int mask), .val (.int (own_bi (own_lower ch))), .val (.int (own_bi (own_upper ch))), .val (.int (own_bi (own_alpha ch))), .val (.int (own_bi (own_digit ch))), .val (.int (own_bi (own_hex ch))), .unset, .unset, .unset, .unset, .unset, .unset, .unset, .unset] [(.int z)]) (by simp [own_bi, own_scheme, c108, c113, c119]))
        · refine o_iloadN 123 W d1_122 rfl ?_
          refine o_bipush 125 W (45) d1_123 (by first | rfl | decide) ?_
          refine o_iceq 134 128 W d1_125 (fun c125 => ?_) (fun c125 => ?_)
          · refine o_iconst 135 W (1) d1_134 (by first | rfl | decide) ?_
            refine o_goto 139 W d1_135 ?_
            simp only [own_bi0, Bool.not_eq_false] at c108 c113
            exact (J _ W).eq (congrArg (fun z => mkF m 139 #[.val (.int ch), .val (.int mask), .val (.int (own_bi (own_lower ch))), .val (.int (own_bi (own_upper ch))), .val (.int (own_bi (own_alpha ch))), .val (.int (own_bi (own_digit ch))), .val (.int (own_bi (own_hex ch))), .unset, .unset, .unset, .unset, .unset, .unset, .unset, .unset] [(.int z)]) (by simp [own_bi, own_scheme, c108, c113, c119, c125]))
          · refine o_iloadN 129 W d1_128 rfl ?_
            refine o_bipush 131 W (46) d1_129 (by first | rfl | decide) ?_
            refine o_icne 138 134 W d1_131 (fun c131 => ?_) (fun c131 => ?_)
            · refine o_iconst 139 W (0) d1_138 (by first | rfl | decide) ?_
              simp only [own_bi0, Bool.not_eq_false] at c108 c113
              exact (J _ W).eq (congrArg (fun z => mkF m 139 #[.val (.int ch), .val (.int mask), .val (.int (own_bi (own_lower ch))), .val (.int (own_bi (own_upper ch))), .val (.int (own_bi (own_alpha ch))), .val (.int (own_bi (own_digit ch))), .val (.int (own_bi (own_hex ch))), .unset, .unset, .unset, .unset, .unset, .unset, .unset, .unset] [(.int z)]) (by simp [own_bi, own_scheme, c108, c113, c119, c125, c131]))
            · refine o_iconst 135 W (1) d1_134 (by first | rfl | decide) ?_
              refine o_goto 139 W d1_135 ?_
              simp only [own_bi0, Bool.not_eq_false] at c108 c113
              exact (J _ W).eq (congrArg (fun z => mkF m 139 #[.val (.int ch), .val (.int mask), .val (.int (own_bi (own_lower ch))), .val (.int (own_bi (own_upper ch))), .val (.int (own_bi (own_alpha ch))), .val (.int (own_bi (own_digit ch))), .val (.int (own_bi (own_hex ch))), .unset, .unset, .unset, .unset, .unset, .unset, .unset, .unset] [(.int z)]) (by simp [own_bi, own_scheme, c108, c113, c119, c125, c131]))
  refine o_istore 141 W #[.val (.int ch), .val (.int mask), .val (.int (own_bi (own_lower ch))), .val (.int (own_bi (own_upper ch))), .val (.int (own_bi (own_alpha ch))), .val (.int (own_bi (own_digit ch))), .val (.int (own_bi (own_hex ch))), .val (.int (own_bi (own_scheme ch))), .unset, .unset, .unset, .unset, .unset, .unset, .unset] d1_139 rfl ?_
  refine Go.cutW W (g' := (mkF m 180 #[.val (.int ch), .val (.int mask), .val (.int (own_bi (own_lower ch))), .val (.int (own_bi (own_upper ch))), .val (.int (own_bi (own_alpha ch))), .val (.int (own_bi (own_digit ch))), .val (.int (own_bi (own_hex ch))), .val (.int (own_bi (own_scheme ch))), .unset, .unset, .unset, .unset, .unset, .unset, .unset] [(.int (own_bi (own_unres ch)))])) (fun J => ?_) (fun T W => ?_)
  · refine o_iload 143 W d1_141 rfl ?_
    refine o_ifne 175 146 W d1_143 (fun c143 => ?_) (fun c143 => ?_)
    · refine o_iconst 176 W (1) d1_175 (by first | rfl | decide) ?_
      refine o_goto 180 W d1_176 ?_
      simp only [own_bi0, Bool.not_eq_false] at c143
      exact (J _ W).eq (congrArg (fun z => mkF m 180 #[.val (.int ch), .val (.int mask), .val (.int (own_bi (own_lower ch))), .val (.int (own_bi (own_upper ch))), .val (.int (own_bi (own_alpha ch))), .val (.int (own_bi (own_digit ch))), .val (.int (own_bi (own_hex ch))), .val (.int (own_bi (own_scheme ch))), .unset, .unset, .unset, .unset, .unset, .unset, .unset] [(.int z)]) (by simp [own_bi, own_unres, c143]))
    · refine o_iload 148 W d1_146 rfl ?_
      refine o_ifne 175 151 W d1_148 (fun c148 => ?_) (fun c148 => ?_)
      · refine o_iconst 176 W (1) d1_175 (by first | rfl | decide) ?_
        refine o_goto 180 W d1_176 ?_
        simp only [own_bi0, Bool.not_eq_false] at c143 c148
        exact (J _ W).eq (congrArg (fun z => mkF m 180 #[.val (.int ch), .val (.int mask), .val (.int (own_bi (own_lower ch))), .val (.int (own_bi (own_upper ch))), .val (.int (own_bi (own_alpha ch))), .val (.int (own_bi (own_digit ch))), .val (.int (own_bi (own_hex ch))), .val (.int (own_bi (own_scheme ch))), .unset, .unset, .unset, .unset, .unset, .unset, .unset] [(.int z)]) (by simp [own_bi, own_unres, c143, c148]))
      · refine o_iloadN 152 W d1_151 rfl ?_
        refine o_bipush 154 W (45) d1_152 (by first | rfl | decide) ?_
        refine o_iceq 175 157 W d1_154 (fun c154 => ?_) (fun c154 => ?_)
        · refine o_iconst 176 W (1) d1_175 (by first | rfl | decide) ?_
          refine o_goto 180 W d1_176 ?_
          simp only [own_bi0, Bool.not_eq_false] at c143 c148
          exact (J _ W).eq (congrArg (fun z => mkF m 180 #[.val (.int ch), .val (.int mask), .val (.int (own_bi (own_lower ch))), .val (.int (own_bi (own_upper ch))), .val (.int (own_bi (own_alpha ch))), .val (.int (own_bi (own_digit ch))), .val (.int (own_bi (own_hex ch))), .val (.int (own_bi (own_scheme ch))), .unset, .unset, .unset, .unset, .unset, .unset, .unset] [(.int z)]) (by simp [own_bi, own_unres, c143, c148, c154]))
        · refine o_iloadN 158 W d1_157 rfl ?_
          refine o_bipush 160 W (46) d1_158 (by first | rfl | decide) ?_
          refine o_iceq 175 163 W d1_160 (fun c160 => ?_) (fun c160 => ?_)
          · refine o_iconst 176 W (1) d1_175 (by first | rfl | decide) ?_
            refine o_goto 180 W d1_176 ?_
            simp only [own_bi0, Bool.not_eq_false] at c143 c148
            exact (J _ W).eq (congrArg (fun z => mkF m 180 #[.val (.int ch), .val (.int mask), .val (.int (own_bi (own_lower ch))), .val (.int (own_bi (own_upper ch))), .val (.int (own_bi (own_alpha ch))), .val (.int (own_bi (own_digit ch))), .val (.int (own_bi (own_hex ch))), .val (.int (own_bi (own_scheme ch))), .unset, .unset, .unset, .unset, .unset, .unset, .unset] [(.int z)]) (by simp [own_bi, own_unres, c143, c148, c154, c160]))
          · refine o_iloadN 164 W d1_163 rfl ?_
            refine o_bipush 166 W (95) d1_164 (by first | rfl | decide) ?_
            refine o_iceq 175 169 W d1_166 (fun c166 => ?_) (fun c166 => ?_)
            · refine o_iconst 176 W (1) d1_175 (by first | rfl | decide) ?_
              refine o_goto 180 W d1_176 ?_
              simp only [own_bi0, Bool.not_eq_false] at c143 c148
              exact (J _ W).eq (congrArg (fun z => mkF m 180 #[.val (.int ch), .val (.int mask), .val (.int (own_bi (own_lower ch))), .val (.int (own_bi (own_upper ch))), .val (.int (own_bi (own_alpha ch))), .val (.int (own_bi (own_digit ch))), .val (.int (own_bi (own_hex ch))), .val (.int (own_bi (own_scheme ch))), .unset, .unset, .unset, .unset, .unset, .unset, .unset] [(.int z)]) (by simp [own_bi, own_unres, c143, c148, c154, c160, c166]))
            · refine o_iloadN 170 W d1_169 rfl ?_
              refine o_bipush 172 W (126) d1_170 (by first | rfl | decide) ?_
              refine o_icne 179 175 W d1_172 (fun c172 => ?_) (fun c172 => ?_)
              · refine o_iconst 180 W (0) d1_179 (by first | rfl | decide) ?_
                simp only [own_bi0, Bool.not_eq_false] at c143 c148
                exact (J _ W).eq (congrArg (fun z => mkF m 180 #[.val (.int ch), .val (.int mask), .val (.int (own_bi (own_lower ch))), .val (.int (own_bi (own_upper ch))), .val (.int (own_bi (own_alpha ch))), .val (.int (own_bi (own_digit ch))), .val (.int (own_bi (own_hex ch))), .val (.int (own_bi (own_scheme ch))), .unset, .unset, .unset, .unset, .unset, .unset, .unset] [(.int z)]) (by simp [own_bi, own_unres, c143, c148, c154, c160, c166, c172]))
              · refine o_iconst 176 W (1) d1_175 (by first | rfl | decide) ?_
                refine o_goto 180 W d1_176 ?_
                simp only [own_bi0, Bool.not_eq_false] at c143 c148
                exact (J _ W).eq (congrArg (fun z => mkF m 180 #[.val (.int ch), .val (.int mask), .val (.int (own_bi (own_lower ch))), .val (.int (own_bi (own_upper ch))), .val (.int (own_bi (own_alpha ch))), .val (.int (own_bi (own_digit ch))), .val (.int (own_bi (own_hex ch))), .val (.int (own_bi (own_scheme ch))), .unset, .unset, .unset, .unset, .unset, .unset, .unset] [(.int z)]) (by simp [own_bi, own_unres, c143, c148, c154, c160, c166, c172]))
  refine o_istore 182 W #[.val (.int ch), .val (.int mask), .val (.int (own_bi (own_lower ch))), .val (.int (own_bi (own_upper ch))), .val (.int (own_bi (own_alpha ch))), .val (.int (own_bi (own_digit ch))), .val (.int (own_bi (own_hex ch))), .val (.int (own_bi (own_scheme ch))), .val (.int (own_bi (own_unres ch))), .unset, .unset, .unset, .unset, .unset, .unset] d1_180 rfl ?_
  refine Go.cutW W (g' := (mkF m 253 #[.val (.int ch), .val (.int mask), .val (.int (own_bi (own_lower ch))), .val (.int (own_bi (own_upper ch))), .val (.int (own_bi (own_alpha ch))), .val (.int (own_bi (own_digit ch))), .val (.int (own_bi (own_hex ch))), .val (.int (own_bi (own_scheme ch))), .val (.int (own_bi (own_unres ch))), .unset, .unset, .unset, .unset, .unset, .unset] [(.int (own_bi (own_sub ch)))])) (fun J => ?_) (fun T W => ?_)
  · refine o_iloadN 183 W d1_182 rfl ?_
    refine o_bipush 185 W (33) d1_183 (by first | rfl | decide) ?_
    refine o_iceq 248 188 W d1_185 (fun c185 => ?_) (fun c185 => ?_)
    · refine o_iconst 249 W (1) d1_248 (by first | rfl | decide) ?_
      refine o_goto 253 W d1_249 ?_
      exact (J _ W).eq (congrArg (fun z => mkF m 253 #[.val (.int ch), .val (.int mask), .val (.int (own_bi (own_lower ch))), .val (.int (own_bi (own_upper ch))), .val (.int (own_bi (own_alpha ch))), .val (.int (own_bi (own_digit ch))), .val (.int (own_bi (own_hex ch))), .val (.int (own_bi (own_scheme ch))), .val (.int (own_bi (own_unres ch))), .unset, .unset, .unset, .unset, .unset, .unset] [(.int z)]) (by simp [own_bi, own_sub, c185]))
    · refine o_iloadN 189 W d1_188 rfl ?_
      refine o_bipush 191 W (36) d1_189 (by first | rfl | decide) ?_
      refine o_iceq 248 194 W d1_191 (fun c191 => ?_) (fun c191 => ?_)
      · refine o_iconst 249 W (1) d1_248 (by first | rfl | decide) ?_
        refine o_goto 253 W d1_249 ?_
        exact (J _ W).eq (congrArg (fun z => mkF m 253 #[.val (.int ch), .val (.int mask), .val (.int (own_bi (own_lower ch))), .val (.int (own_bi (own_upper ch))), .val (.int (own_bi (own_alpha ch))), .val (.int (own_bi (own_digit ch))), .val (.int (own_bi (own_hex ch))), .val (.int (own_bi (own_scheme ch))), .val (.int (own_bi (own_unres ch))), .unset, .unset, .unset, .unset, .unset, .unset] [(.int z)]) (by simp [own_bi, own_sub, c185, c191]))
      · refine o_iloadN 195 W d1_194 rfl ?_
        refine o_bipush 197 W (38) d1_195 (by first | rfl | decide) ?_
        refine o_iceq 248 200 W d1_197 (fun c197 => ?_) (fun c197 => ?_)
        · refine o_iconst 249 W (1) d1_248 (by first | rfl | decide) ?_
          refine o_goto 253 W d1_249 ?_
          exact (J _ W).eq (congrArg (fun z => mkF m 253 #[.val (.int ch), .val (.int mask), .val (.int (own_bi (own_lower ch))), .val (.int (own_bi (own_upper ch))), .val (.int (own_bi (own_alpha ch))), .val (.int (own_bi (own_digit ch))), .val (.int (own_bi (own_hex ch))), .val (.int (own_bi (own_scheme ch))), .val (.int (own_bi (own_unres ch))), .unset, .unset, .unset, .unset, .unset, .unset] [(.int z)]) (by simp [own_bi, own_sub, c185, c191, c197]))
        · refine o_iloadN 201 W d1_200 rfl ?_
          refine o_bipush 203 W (39) d1_201 (by first | rfl | decide) ?_
          refine o_iceq 248 206 W d1_203 (fun c203 => ?_) (fun c203 => ?_)
          · refine o_iconst 249 W (1) d1_248 (by first | rfl | decide) ?_
            refine o_goto 253 W d1_249 ?_
            exact (J _ W).eq (congrArg (fun z => mkF m 253 #[.val (.int ch), .val (.int mask), .val (.int (own_bi (own_lower ch))), .val (.int (own_bi (own_upper ch))), .val (.int (own_bi (own_alpha ch))), .val (.int (own_bi (own_digit ch))), .val (.int (own_bi (own_hex ch))), .val (.int (own_bi (own_scheme ch))), .val (.int (own_bi (own_unres ch))), .unset, .unset, .unset, .unset, .unset, .unset] [(.int z)]) (by simp [own_bi, own_sub, c185, c191, c197, c203]))
          · refine o_iloadN 207 W d1_206 rfl ?_
            refine o_bipush 209 W (40) d1_207 (by first | rfl | decide) ?_
            refine o_iceq 248 212 W d1_209 (fun c209 => ?_) (fun c209 => ?_)
            · refine o_iconst 249 W (1) d1_248 (by first | rfl | decide) ?_
              refine o_goto 253 W d1_249 ?_
              exact (J _ W).eq (congrArg (fun z => mkF m 253 #[.val (.int ch), .val (.int mask), .val (.int (own_bi (own_lower ch))), .val (.int (own_bi (own_upper ch))), .val (.int (own_bi (own_alpha ch))), .val (.int (own_bi (own_digit ch))), .val (.int (own_bi (own_hex ch))), .val (.int (own_bi (own_scheme ch))), .val (.int (own_bi (own_unres ch))), .unset, .unset, .unset, .unset, .unset, .unset] [(.int z)]) (by simp [own_bi, own_sub, c185, c191, c197, c203, c209]))
            · refine o_iloadN 213 W d1_212 rfl ?_
              refine o_bipush 215 W (41) d1_213 (by first | rfl | decide) ?_
              refine o_iceq 248 218 W d1_215 (fun c215 => ?_) (fun c215 => ?_)
              · refine o_iconst 249 W (1) d1_248 (by first | rfl | decide) ?_
                refine o_goto 253 W d1_249 ?_
                exact (J _ W).eq (congrArg (fun z => mkF m 253 #[.val (.int ch), .val (.int mask), .val (.int (own_bi (own_lower ch))), .val (.int (own_bi (own_upper ch))), .val (.int (own_bi (own_alpha ch))), .val (.int (own_bi (own_digit ch))), .val (.int (own_bi (own_hex ch))), .val (.int (own_bi (own_scheme ch))), .val (.int (own_bi (own_unres ch))), .unset, .unset, .unset, .unset, .unset, .unset] [(.int z)]) (by simp [own_bi, own_sub, c185, c191, c197, c203, c209, c215]))
              · refine o_iloadN 219 W d1_218 rfl ?_
                refine o_bipush 221 W (42) d1_219 (by first | rfl | decide) ?_
                refine o_iceq 248 224 W d1_221 (fun c221 => ?_) (fun c221 => ?_)
                · refine o_iconst 249 W (1) d1_248 (by first | rfl | decide) ?_
                  refine o_goto 253 W d1_249 ?_
                  exact (J _ W).eq (congrArg (fun z => mkF m 253 #[.val (.int ch), .val (.int mask), .val (.int (own_bi (own_lower ch))), .val (.int (own_bi (own_upper ch))), .val (.int (own_bi (own_alpha ch))), .val (.int (own_bi (own_digit ch))), .val (.int (own_bi (own_hex ch))), .val (.int (own_bi (own_scheme ch))), .val (.int (own_bi (own_unres ch))), .unset, .unset, .unset, .unset, .unset, .unset] [(.int z)]) (by simp [own_bi, own_sub, c185, c191, c197, c203, c209, c215, c221]))
                · refine o_iloadN 225 W d1_224 rfl ?_
                  refine o_bipush 227 W (43) d1_225 (by first | rfl | decide) ?_
                  refine o_iceq 248 230 W d1_227 (fun c227 => ?_) (fun c227 => ?_)
                  · refine o_iconst 249 W (1) d1_248 (by first | rfl | decide) ?_
                    refine o_goto 253 W d1_249 ?_
                    exact (J _ W).eq (congrArg (fun z => mkF m 253 #[.val (.int ch), .val (.int mask), .val (.int (own_bi (own_lower ch))), .val (.int (own_bi (own_upper ch))), .val (.int (own_bi (own_alpha ch))), .val (.int (own_bi (own_digit ch))), .val (.int (own_bi (own_hex ch))), .val (.int (own_bi (own_scheme ch))), .val (.int (own_bi (own_unres ch))), .unset, .unset, .unset, .unset, .unset, .unset] [(.int z)]) (by simp [own_bi, own_sub, c185, c191, c197, c203, c209, c215, c221, c227]))
                  · refine o_iloadN 231 W d1_230 rfl ?_
                    refine o_bipush 233 W (44) d1_231 (by first | rfl | decide) ?_
                    refine o_iceq 248 236 W d1_233 (fun c233 => ?_) (fun c233 => ?_)
                    · refine o_iconst 249 W (1) d1_248 (by first | rfl | decide) ?_
                      refine o_goto 253 W d1_249 ?_
                      exact (J _ W).eq (congrArg (fun z => mkF m 253 #[.val (.int ch), .val (.int mask), .val (.int (own_bi (own_lower ch))), .val (.int (own_bi (own_upper ch))), .val (.int (own_bi (own_alpha ch))), .val (.int (own_bi (own_digit ch))), .val (.int (own_bi (own_hex ch))), .val (.int (own_bi (own_scheme ch))), .val (.int (own_bi (own_unres ch))), .unset, .unset, .unset, .unset, .unset, .unset] [(.int z)]) (by simp [own_bi, own_sub, c185, c191, c197, c203, c209, c215, c221, c227, c233]))
                    · refine o_iloadN 237 W d1_236 rfl ?_
                      refine o_bipush 239 W (59) d1_237 (by first | rfl | decide) ?_
                      refine o_iceq 248 242 W d1_239 (fun c239 => ?_) (fun c239 => ?_)
                      · refine o_iconst 249 W (1) d1_248 (by first | rfl | decide) ?_
                        refine o_goto 253 W d1_249 ?_
                        exact (J _ W).eq (congrArg (fun z => mkF m 253 #[.val (.int ch), .val (.int mask), .val (.int (own_bi (own_lower ch))), .val (.int (own_bi (own_upper ch))), .val (.int (own_bi (own_alpha ch))), .val (.int (own_bi (own_digit ch))), .val (.int (own_bi (own_hex ch))), .val (.int (own_bi (own_scheme ch))), .val (.int (own_bi (own_unres ch))), .unset, .unset, .unset, .unset, .unset, .unset] [(.int z)]) (by simp [own_bi, own_sub, c185, c191, c197, c203, c209, c215, c221, c227, c233, c239]))
                      · refine o_iloadN 243 W d1_242 rfl ?_
                        refine o_bipush 245 W (61) d1_243 (by first | rfl | decide) ?_
                        refine o_icne 252 248 W d1_245 (fun c245 => ?_) (fun c245 => ?_)
                        · refine o_iconst 253 W (0) d1_252 (by first | rfl | decide) ?_
                          exact (J _ W).eq (congrArg (fun z => mkF m 253 #[.val (.int ch), .val (.int mask), .val (.int (own_bi (own_lower ch))), .val (.int (own_bi (own_upper ch))), .val (.int (own_bi (own_alpha ch))), .val (.int (own_bi (own_digit ch))), .val (.int (own_bi (own_hex ch))), .val (.int (own_bi (own_scheme ch))), .val (.int (own_bi (own_unres ch))), .unset, .unset, .unset, .unset, .unset, .unset] [(.int z)]) (by simp [own_bi, own_sub, c185, c191, c197, c203, c209, c215, c221, c227, c233, c239, c245]))
                        · refine o_iconst 249 W (1) d1_248 (by first | rfl | decide) ?_
                          refine o_goto 253 W d1_249 ?_
                          exact (J _ W).eq (congrArg (fun z => mkF m 253 #[.val (.int ch), .val (.int mask), .val (.int (own_bi (own_lower ch))), .val (.int (own_bi (own_upper ch))), .val (.int (own_bi (own_alpha ch))), .val (.int (own_bi (own_digit ch))), .val (.int (own_bi (own_hex ch))), .val (.int (own_bi (own_scheme ch))), .val (.int (own_bi (own_unres ch))), .unset, .unset, .unset, .unset, .unset, .unset] [(.int z)]) (by simp [own_bi, own_sub, c185, c191, c197, c203, c209, c215, c221, c227, c233, c239, c245]))
  refine o_istore 255 W #[.val (.int ch), .val (.int mask), .val (.int (own_bi (own_lower ch))), .val (.int (own_bi (own_upper ch))), .val (.int (own_bi (own_alpha ch))), .val (.int (own_bi (own_digit ch))), .val (.int (own_bi (own_hex ch))), .val (.int (own_bi (own_scheme ch))), .val (.int (own_bi (own_unres ch))), .val (.int (own_bi (own_sub ch))), .unset, .unset, .unset, .unset, .unset] d1_253 rfl ?_
  refine Go.cutW W (g' := (mkF m 266 #[.val (.int ch), .val (.int mask), .val (.int (own_bi (own_lower ch))), .val (.int (own_bi (own_upper ch))), .val (.int (own_bi (own_alpha ch))), .val (.int (own_bi (own_digit ch))), .val (.int (own_bi (own_hex ch))), .val (.int (own_bi (own_scheme ch))), .val (.int (own_bi (own_unres ch))), .val (.int (own_bi (own_sub ch))), .unset, .unset, .unset, .unset, .unset] [(.int (own_bi (own_colon ch)))])) (fun J => ?_) (fun T W => ?_)
  · refine o_iloadN 256 W d1_255 rfl ?_
    refine o_bipush 258 W (58) d1_256 (by first | rfl | decide) ?_
    refine o_icne 265 261 W d1_258 (fun c258 => ?_) (fun c258 => ?_)
    · refine o_iconst 266 W (0) d1_265 (by first | rfl | decide) ?_
      exact (J _ W).eq (congrArg (fun z => mkF m 266 #[.val (.int ch), .val (.int mask), .val (.int (own_bi (own_lower ch))), .val (.int (own_bi (own_upper ch))), .val (.int (own_bi (own_alpha ch))), .val (.int (own_bi (own_digit ch))), .val (.int (own_bi (own_hex ch))), .val (.int (own_bi (own_scheme ch))), .val (.int (own_bi (own_unres ch))), .val (.int (own_bi (own_sub ch))), .unset, .unset, .unset, .unset, .unset] [(.int z)]) (by simp [own_bi, own_colon, c258]))
    · refine o_iconst 262 W (1) d1_261 (by first | rfl | decide) ?_
      refine o_goto 266 W d1_262 ?_
      exact (J _ W).eq (congrArg (fun z => mkF m 266 #[.val (.int ch), .val (.int mask), .val (.int (own_bi (own_lower ch))), .val (.int (own_bi (own_upper ch))), .val (.int (own_bi (own_alpha ch))), .val (.int (own_bi (own_digit ch))), .val (.int (own_bi (own_hex ch))), .val (.int (own_bi (own_scheme ch))), .val (.int (own_bi (own_unres ch))), .val (.int (own_bi (own_sub ch))), .unset, .unset, .unset, .unset, .unset] [(.int z)]) (by simp [own_bi, own_colon, c258]))
  refine o_istore 268 W #[.val (.int ch), .val (.int mask), .val (.int (own_bi (own_lower ch))), .val (.int (own_bi (own_upper ch))), .val (.int (own_bi (own_alpha ch))), .val (.int (own_bi (own_digit ch))), .val (.int (own_bi (own_hex ch))), .val (.int (own_bi (own_scheme ch))), .val (.int (own_bi (own_unres ch))), .val (.int (own_bi (own_sub ch))), .val (.int (own_bi (own_colon ch))), .unset, .unset, .unset, .unset] d1_266 rfl ?_
  refine Go.cutW W (g' := (mkF m 279 #[.val (.int ch), .val (.int mask), .val (.int (own_bi (own_lower ch))), .val (.int (own_bi (own_upper ch))), .val (.int (own_bi (own_alpha ch))), .val (.int (own_bi (own_digit ch))), .val (.int (own_bi (own_hex ch))), .val (.int (own_bi (own_scheme ch))), .val (.int (own_bi (own_unres ch))), .val (.int (own_bi (own_sub ch))), .val (.int (own_bi (own_colon ch))), .unset, .unset, .unset, .unset] [(.int (own_bi (own_at ch)))])) (fun J => ?_) (fun T W => ?_)
  · refine o_iloadN 269 W d1_268 rfl ?_
    refine o_bipush 271 W (64) d1_269 (by first | rfl | decide) ?_
    refine o_icne 278 274 W d1_271 (fun c271 => ?_) (fun c271 => ?_)
    · refine o_iconst 279 W (0) d1_278 (by first | rfl | decide) ?_
      exact (J _ W).eq (congrArg (fun z => mkF m 279 #[.val (.int ch), .val (.int mask), .val (.int (own_bi (own_lower ch))), .val (.int (own_bi (own_upper ch))), .val (.int (own_bi (own_alpha ch))), .val (.int (own_bi (own_digit ch))), .val (.int (own_bi (own_hex ch))), .val (.int (own_bi (own_scheme ch))), .val (.int (own_bi (own_unres ch))), .val (.int (own_bi (own_sub ch))), .val (.int (own_bi (own_colon ch))), .unset, .unset, .unset, .unset] [(.int z)]) (by simp [own_bi, own_at, c271]))
    · refine o_iconst 275 W (1) d1_274 (by first | rfl | decide) ?_
      refine o_goto 279 W d1_275 ?_
      exact (J _ W).eq (congrArg (fun z => mkF m 279 #[.val (.int ch), .val (.int mask), .val (.int (own_bi (own_lower ch))), .val (.int (own_bi (own_upper ch))), .val (.int (own_bi (own_alpha ch))), .val (.int (own_bi (own_digit ch))), .val (.int (own_bi (own_hex ch))), .val (.int (own_bi (own_scheme ch))), .val (.int (own_bi (own_unres ch))), .val (.int (own_bi (own_sub ch))), .val (.int (own_bi (own_colon ch))), .unset, .unset, .unset, .unset] [(.int z)]) (by simp [own_bi, own_at, c271]))
  refine o_istore 281 W #[.val (.int ch), .val (.int mask), .val (.int (own_bi (own_lower ch))), .val (.int (own_bi (own_upper ch))), .val (.int (own_bi (own_alpha ch))), .val (.int (own_bi (own_digit ch))), .val (.int (own_bi (own_hex ch))), .val (.int (own_bi (own_scheme ch))), .val (.int (own_bi (own_unres ch))), .val (.int (own_bi (own_sub ch))), .val (.int (own_bi (own_colon ch))), .val (.int (own_bi (own_at ch))), .unset, .unset, .unset] d1_279 rfl ?_
  refine Go.cutW W (g' := (mkF m 292 #[.val (.int ch), .val (.int mask), .val (.int (own_bi (own_lower ch))), .val (.int (own_bi (own_upper ch))), .val (.int (own_bi (own_alpha ch))), .val (.int (own_bi (own_digit ch))), .val (.int (own_bi (own_hex ch))), .val (.int (own_bi (own_scheme ch))), .val (.int (own_bi (own_unres ch))), .val (.int (own_bi (own_sub ch))), .val (.int (own_bi (own_colon ch))), .val (.int (own_bi (own_at ch))), .unset, .unset, .unset] [(.int (own_bi (own_slash ch)))])) (fun J => ?_) (fun T W => ?_)
  · refine o_iloadN 282 W d1_281 rfl ?_
    refine o_bipush 284 W (47) d1_282 (by first | rfl | decide) ?_
    refine o_icne 291 287 W d1_284 (fun c284 => ?_) (fun c284 => ?_)
    · refine o_iconst 292 W (0) d1_291 (by first | rfl | decide) ?_
      exact (J _ W).eq (congrArg (fun z => mkF m 292 #[.val (.int ch), .val (.int mask), .val (.int (own_bi (own_lower ch))), .val (.int (own_bi (own_upper ch))), .val (.int (own_bi (own_alpha ch))), .val (.int (own_bi (own_digit ch))), .val (.int (own_bi (own_hex ch))), .val (.int (own_bi (own_scheme ch))), .val (.int (own_bi (own_unres ch))), .val (.int (own_bi (own_sub ch))), .val (.int (own_bi (own_colon ch))), .val (.int (own_bi (own_at ch))), .unset, .unset, .unset] [(.int z)]) (by simp [own_bi, own_slash, c284]))
    · refine o_iconst 288 W (1) d1_287 (by first | rfl | decide) ?_
      refine o_goto 292 W d1_288 ?_
      exact (J _ W).eq (congrArg (fun z => mkF m 292 #[.val (.int ch), .val (.int mask), .val (.int (own_bi (own_lower ch))), .val (.int (own_bi (own_upper ch))), .val (.int (own_bi (own_alpha ch))), .val (.int (own_bi (own_digit ch))), .val (.int (own_bi (own_hex ch))), .val (.int (own_bi (own_scheme ch))), .val (.int (own_bi (own_unres ch))), .val (.int (own_bi (own_sub ch))), .val (.int (own_bi (own_colon ch))), .val (.int (own_bi (own_at ch))), .unset, .unset, .unset] [(.int z)]) (by simp [own_bi, own_slash, c284]))
  refine o_istore 294 W #[.val (.int ch), .val (.int mask), .val (.int (own_bi (own_lower ch))), .val (.int (own_bi (own_upper ch))), .val (.int (own_bi (own_alpha ch))), .val (.int (own_bi (own_digit ch))), .val (.int (own_bi (own_hex ch))), .val (.int (own_bi (own_scheme ch))), .val (.int (own_bi (own_unres ch))), .val (.int (own_bi (own_sub ch))), .val (.int (own_bi (own_colon ch))), .val (.int (own_bi (own_at ch))), .val (.int (own_bi (own_slash ch))), .unset, .unset] d1_292 rfl ?_
  refine Go.cutW W (g' := (mkF m 305 #[.val (.int ch), .val (.int mask), .val (.int (own_bi (own_lower ch))), .val (.int (own_bi (own_upper ch))), .val (.int (own_bi (own_alpha ch))), .val (.int (own_bi (own_digit ch))), .val (.int (own_bi (own_hex ch))), .val (.int (own_bi (own_scheme ch))), .val (.int (own_bi (own_unres ch))), .val (.int (own_bi (own_sub ch))), .val (.int (own_bi (own_colon ch))), .val (.int (own_bi (own_at ch))), .val (.int (own_bi (own_slash ch))), .unset, .unset] [(.int (own_bi (own_quest ch)))])) (fun J => ?_) (fun T W => ?_)
  · refine o_iloadN 295 W d1_294 rfl ?_
    refine o_bipush 297 W (63) d1_295 (by first | rfl | decide) ?_
    refine o_icne 304 300 W d1_297 (fun c297 => ?_) (fun c297 => ?_)
    · refine o_iconst 305 W (0) d1_304 (by first | rfl | decide) ?_
      exact (J _ W).eq (congrArg (fun z => mkF m 305 #[.val (.int ch), .val (.int mask), .val (.int (own_bi (own_lower ch))), .val (.int (own_bi (own_upper ch))), .val (.int (own_bi (own_alpha ch))), .val (.int (own_bi (own_digit ch))), .val (.int (own_bi (own_hex ch))), .val (.int (own_bi (own_scheme ch))), .val (.int (own_bi (own_unres ch))), .val (.int (own_bi (own_sub ch))), .val (.int (own_bi (own_colon ch))), .val (.int (own_bi (own_at ch))), .val (.int (own_bi (own_slash ch))), .unset, .unset] [(.int z)]) (by simp [own_bi, own_quest, c297]))
    · refine o_iconst 301 W (1) d1_300 (by first | rfl | decide) ?_
      refine o_goto 305 W d1_301 ?_
      exact (J _ W).eq (congrArg (fun z => mkF m 305 #[.val (.int ch), .val (.int mask), .val (.int (own_bi (own_lower ch))), .val (.int (own_bi (own_upper ch))), .val (.int (own_bi (own_alpha ch))), .val (.int (own_bi (own_digit ch))), .val (.int (own_bi (own_hex ch))), .val (.int (own_bi (own_scheme ch))), .val (.int (own_bi (own_unres ch))), .val (.int (own_bi (own_sub ch))), .val (.int (own_bi (own_colon ch))), .val (.int (own_bi (own_at ch))), .val (.int (own_bi (own_slash ch))), .unset, .unset] [(.int z)]) (by simp [own_bi, own_quest, c297]))
  refine o_istore 307 W #[.val (.int ch), .val (.int mask), .val (.int (own_bi (own_lower ch))), .val (.int (own_bi (own_upper ch))), .val (.int (own_bi (own_alpha ch))), .val (.int (own_bi (own_digit ch))), .val (.int (own_bi (own_hex ch))), .val (.int (own_bi (own_scheme ch))), .val (.int (own_bi (own_unres ch))), .val (.int (own_bi (own_sub ch))), .val (.int (own_bi (own_colon ch))), .val (.int (own_bi (own_at ch))), .val (.int (own_bi (own_slash ch))), .val (.int (own_bi (own_quest ch))), .unset] d1_305 rfl ?_
  refine o_iconst 308 W (0) d1_307 (by first | rfl | decide) ?_
  refine o_istore 310 W #[.val (.int ch), .val (.int mask), .val (.int (own_bi (own_lower ch))), .val (.int (own_bi (own_upper ch))), .val (.int (own_bi (own_alpha ch))), .val (.int (own_bi (own_digit ch))), .val (.int (own_bi (own_hex ch))), .val (.int (own_bi (own_scheme ch))), .val (.int (own_bi (own_unres ch))), .val (.int (own_bi (own_sub ch))), .val (.int (own_bi (own_colon ch))), .val (.int (own_bi (own_at ch))), .val (.int (own_bi (own_slash ch))), .val (.int (own_bi (own_quest ch))), .val (.int (0 : Int32))] d1_308 rfl ?_
  show Go p e below _ _ (mkF m 310 #[.val (.int ch), .val (.int mask), .val (.int (own_bi (own_lower ch))), .val (.int (own_bi (own_upper ch))), .val (.int (own_bi (own_alpha ch))), .val (.int (own_bi (own_digit ch))), .val (.int (own_bi (own_hex ch))), .val (.int (own_bi (own_scheme ch))), .val (.int (own_bi (own_unres ch))), .val (.int (own_bi (own_sub ch))), .val (.int (own_bi (own_colon ch))), .val (.int (own_bi (own_at ch))), .val (.int (own_bi (own_slash ch))), .val (.int (own_bi (own_quest ch))), .val (.int (own_bi false))] [])
  refine Go.cutW W (g' := (mkF m 326 #[.val (.int ch), .val (.int mask), .val (.int (own_bi (own_lower ch))), .val (.int (own_bi (own_upper ch))), .val (.int (own_bi (own_alpha ch))), .val (.int (own_bi (own_digit ch))), .val (.int (own_bi (own_hex ch))), .val (.int (own_bi (own_scheme ch))), .val (.int (own_bi (own_unres ch))), .val (.int (own_bi (own_sub ch))), .val (.int (own_bi (own_colon ch))), .val (.int (own_bi (own_at ch))), .val (.int (own_bi (own_slash ch))), .val (.int (own_bi (own_quest ch))), .val (.int (own_bi (own_r0 ch mask)))] [])) (fun J => ?_) (fun T W => ?_)
  · refine o_iload 312 W d1_310 rfl ?_
    refine o_ifeq 326 315 W d1_312 (fun c312 => ?_) (fun c312 => ?_)
    · simp only [own_bi0, Bool.not_eq_false] at c312
      exact (J _ W).eq (congrArg (fun z => mkF m 326 #[.val (.int ch), .val (.int mask), .val (.int (own_bi (own_lower ch))), .val (.int (own_bi (own_upper ch))), .val (.int (own_bi (own_alpha ch))), .val (.int (own_bi (own_digit ch))), .val (.int (own_bi (own_hex ch))), .val (.int (own_bi (own_scheme ch))), .val (.int (own_bi (own_unres ch))), .val (.int (own_bi (own_sub ch))), .val (.int (own_bi (own_colon ch))), .val (.int (own_bi (own_at ch))), .val (.int (own_bi (own_slash ch))), .val (.int (own_bi (own_quest ch))), .val (.int z)] []) (by simp [own_bi, own_r0, c312]))
    · refine o_iloadN 316 W d1_315 rfl ?_
      refine o_iconst 317 W (1) d1_316 (by first | rfl | decide) ?_
      refine o_static 320 [(.int mask), (.int (1 : Int32))] W (tw hw 11) (tw hw 12) (tw hw 3) (tw hw 13) (con_has l Z b0 hw _ _ _ W.old) pd0 d1_317 rfl all0 (fun T h v W qq gg => ?_)
      obtain ⟨_, rfl, rfl, rfl⟩ := qq
      show Go p e below _ _ (mkF m 320 #[.val (.int ch), .val (.int mask), .val (.int (own_bi (own_lower ch))), .val (.int (own_bi (own_upper ch))), .val (.int (own_bi (own_alpha ch))), .val (.int (own_bi (own_digit ch))), .val (.int (own_bi (own_hex ch))), .val (.int (own_bi (own_scheme ch))), .val (.int (own_bi (own_unres ch))), .val (.int (own_bi (own_sub ch))), .val (.int (own_bi (own_colon ch))), .val (.int (own_bi (own_at ch))), .val (.int (own_bi (own_slash ch))), .val (.int (own_bi (own_quest ch))), .val (.int (own_bi false))] [(.int (own_bi (own_has mask 1)))])
      refine o_ifeq 326 323 W d1_320 (fun c320 => ?_) (fun c320 => ?_)
      · simp only [own_bi0, Bool.not_eq_false] at c312 c320
        exact (J _ W).eq (congrArg (fun z => mkF m 326 #[.val (.int ch), .val (.int mask), .val (.int (own_bi (own_lower ch))), .val (.int (own_bi (own_upper ch))), .val (.int (own_bi (own_alpha ch))), .val (.int (own_bi (own_digit ch))), .val (.int (own_bi (own_hex ch))), .val (.int (own_bi (own_scheme ch))), .val (.int (own_bi (own_unres ch))), .val (.int (own_bi (own_sub ch))), .val (.int (own_bi (own_colon ch))), .val (.int (own_bi (own_at ch))), .val (.int (own_bi (own_slash ch))), .val (.int (own_bi (own_quest ch))), .val (.int z)] []) (by simp [own_bi, own_r0, c312, c320]))
      · refine o_iconst 324 W (1) d1_323 (by first | rfl | decide) ?_
        refine o_istore 326 W #[.val (.int ch), .val (.int mask), .val (.int (own_bi (own_lower ch))), .val (.int (own_bi (own_upper ch))), .val (.int (own_bi (own_alpha ch))), .val (.int (own_bi (own_digit ch))), .val (.int (own_bi (own_hex ch))), .val (.int (own_bi (own_scheme ch))), .val (.int (own_bi (own_unres ch))), .val (.int (own_bi (own_sub ch))), .val (.int (own_bi (own_colon ch))), .val (.int (own_bi (own_at ch))), .val (.int (own_bi (own_slash ch))), .val (.int (own_bi (own_quest ch))), .val (.int (1 : Int32))] d1_324 rfl ?_
        simp only [own_bi0, Bool.not_eq_false] at c312 c320
        exact (J _ W).eq (congrArg (fun z => mkF m 326 #[.val (.int ch), .val (.int mask), .val (.int (own_bi (own_lower ch))), .val (.int (own_bi (own_upper ch))), .val (.int (own_bi (own_alpha ch))), .val (.int (own_bi (own_digit ch))), .val (.int (own_bi (own_hex ch))), .val (.int (own_bi (own_scheme ch))), .val (.int (own_bi (own_unres ch))), .val (.int (own_bi (own_sub ch))), .val (.int (own_bi (own_colon ch))), .val (.int (own_bi (own_at ch))), .val (.int (own_bi (own_slash ch))), .val (.int (own_bi (own_quest ch))), .val (.int z)] []) (by simp [own_bi, own_r0, c312, c320]))
  refine Go.cutW W (g' := (mkF m 342 #[.val (.int ch), .val (.int mask), .val (.int (own_bi (own_lower ch))), .val (.int (own_bi (own_upper ch))), .val (.int (own_bi (own_alpha ch))), .val (.int (own_bi (own_digit ch))), .val (.int (own_bi (own_hex ch))), .val (.int (own_bi (own_scheme ch))), .val (.int (own_bi (own_unres ch))), .val (.int (own_bi (own_sub ch))), .val (.int (own_bi (own_colon ch))), .val (.int (own_bi (own_at ch))), .val (.int (own_bi (own_slash ch))), .val (.int (own_bi (own_quest ch))), .val (.int (own_bi (own_r1 ch mask)))] [])) (fun J => ?_) (fun T W => ?_)
  · refine o_iload 328 W d1_326 rfl ?_
    refine o_ifeq 342 331 W d1_328 (fun c328 => ?_) (fun c328 => ?_)
    · simp only [own_bi0, Bool.not_eq_false] at c328
      exact (J _ W).eq (congrArg (fun z => mkF m 342 #[.val (.int ch), .val (.int mask), .val (.int (own_bi (own_lower ch))), .val (.int (own_bi (own_upper ch))), .val (.int (own_bi (own_alpha ch))), .val (.int (own_bi (own_digit ch))), .val (.int (own_bi (own_hex ch))), .val (.int (own_bi (own_scheme ch))), .val (.int (own_bi (own_unres ch))), .val (.int (own_bi (own_sub ch))), .val (.int (own_bi (own_colon ch))), .val (.int (own_bi (own_at ch))), .val (.int (own_bi (own_slash ch))), .val (.int (own_bi (own_quest ch))), .val (.int z)] []) (by simp [own_bi, own_r1, c328]))
    · refine o_iloadN 332 W d1_331 rfl ?_
      refine o_iconst 333 W (2) d1_332 (by first | rfl | decide) ?_
      refine o_static 336 [(.int mask), (.int (2 : Int32))] W (tw hw 11) (tw hw 12) (tw hw 3) (tw hw 13) (con_has l Z b0 hw _ _ _ W.old) pd0 d1_333 rfl all0 (fun T h v W qq gg => ?_)
      obtain ⟨_, rfl, rfl, rfl⟩ := qq
      show Go p e below _ _ (mkF m 336 #[.val (.int ch), .val (.int mask), .val (.int (own_bi (own_lower ch))), .val (.int (own_bi (own_upper ch))), .val (.int (own_bi (own_alpha ch))), .val (.int (own_bi (own_digit ch))), .val (.int (own_bi (own_hex ch))), .val (.int (own_bi (own_scheme ch))), .val (.int (own_bi (own_unres ch))), .val (.int (own_bi (own_sub ch))), .val (.int (own_bi (own_colon ch))), .val (.int (own_bi (own_at ch))), .val (.int (own_bi (own_slash ch))), .val (.int (own_bi (own_quest ch))), .val (.int (own_bi (own_r0 ch mask)))] [(.int (own_bi (own_has mask 2)))])
      refine o_ifeq 342 339 W d1_336 (fun c336 => ?_) (fun c336 => ?_)
      · simp only [own_bi0, Bool.not_eq_false] at c328 c336
        exact (J _ W).eq (congrArg (fun z => mkF m 342 #[.val (.int ch), .val (.int mask), .val (.int (own_bi (own_lower ch))), .val (.int (own_bi (own_upper ch))), .val (.int (own_bi (own_alpha ch))), .val (.int (own_bi (own_digit ch))), .val (.int (own_bi (own_hex ch))), .val (.int (own_bi (own_scheme ch))), .val (.int (own_bi (own_unres ch))), .val (.int (own_bi (own_sub ch))), .val (.int (own_bi (own_colon ch))), .val (.int (own_bi (own_at ch))), .val (.int (own_bi (own_slash ch))), .val (.int (own_bi (own_quest ch))), .val (.int z)] []) (by simp [own_bi, own_r1, c328, c336]))
      · refine o_iconst 340 W (1) d1_339 (by first | rfl | decide) ?_
        refine o_istore 342 W #[.val (.int ch), .val (.int mask), .val (.int (own_bi (own_lower ch))), .val (.int (own_bi (own_upper ch))), .val (.int (own_bi (own_alpha ch))), .val (.int (own_bi (own_digit ch))), .val (.int (own_bi (own_hex ch))), .val (.int (own_bi (own_scheme ch))), .val (.int (own_bi (own_unres ch))), .val (.int (own_bi (own_sub ch))), .val (.int (own_bi (own_colon ch))), .val (.int (own_bi (own_at ch))), .val (.int (own_bi (own_slash ch))), .val (.int (own_bi (own_quest ch))), .val (.int (1 : Int32))] d1_340 rfl ?_
        simp only [own_bi0, Bool.not_eq_false] at c328 c336
        exact (J _ W).eq (congrArg (fun z => mkF m 342 #[.val (.int ch), .val (.int mask), .val (.int (own_bi (own_lower ch))), .val (.int (own_bi (own_upper ch))), .val (.int (own_bi (own_alpha ch))), .val (.int (own_bi (own_digit ch))), .val (.int (own_bi (own_hex ch))), .val (.int (own_bi (own_scheme ch))), .val (.int (own_bi (own_unres ch))), .val (.int (own_bi (own_sub ch))), .val (.int (own_bi (own_colon ch))), .val (.int (own_bi (own_at ch))), .val (.int (own_bi (own_slash ch))), .val (.int (own_bi (own_quest ch))), .val (.int z)] []) (by simp [own_bi, own_r1, c328, c336]))
  refine Go.cutW W (g' := (mkF m 358 #[.val (.int ch), .val (.int mask), .val (.int (own_bi (own_lower ch))), .val (.int (own_bi (own_upper ch))), .val (.int (own_bi (own_alpha ch))), .val (.int (own_bi (own_digit ch))), .val (.int (own_bi (own_hex ch))), .val (.int (own_bi (own_scheme ch))), .val (.int (own_bi (own_unres ch))), .val (.int (own_bi (own_sub ch))), .val (.int (own_bi (own_colon ch))), .val (.int (own_bi (own_at ch))), .val (.int (own_bi (own_slash ch))), .val (.int (own_bi (own_quest ch))), .val (.int (own_bi (own_r2 ch mask)))] [])) (fun J => ?_) (fun T W => ?_)
  · refine o_iload 344 W d1_342 rfl ?_
    refine o_ifeq 358 347 W d1_344 (fun c344 => ?_) (fun c344 => ?_)
    · simp only [own_bi0, Bool.not_eq_false] at c344
      exact (J _ W).eq (congrArg (fun z => mkF m 358 #[.val (.int ch), .val (.int mask), .val (.int (own_bi (own_lower ch))), .val (.int (own_bi (own_upper ch))), .val (.int (own_bi (own_alpha ch))), .val (.int (own_bi (own_digit ch))), .val (.int (own_bi (own_hex ch))), .val (.int (own_bi (own_scheme ch))), .val (.int (own_bi (own_unres ch))), .val (.int (own_bi (own_sub ch))), .val (.int (own_bi (own_colon ch))), .val (.int (own_bi (own_at ch))), .val (.int (own_bi (own_slash ch))), .val (.int (own_bi (own_quest ch))), .val (.int z)] []) (by simp [own_bi, own_r2, c344]))
    · refine o_iloadN 348 W d1_347 rfl ?_
      refine o_iconst 349 W (4) d1_348 (by first | rfl | decide) ?_
      refine o_static 352 [(.int mask), (.int (4 : Int32))] W (tw hw 11) (tw hw 12) (tw hw 3) (tw hw 13) (con_has l Z b0 hw _ _ _ W.old) pd0 d1_349 rfl all0 (fun T h v W qq gg => ?_)
      obtain ⟨_, rfl, rfl, rfl⟩ := qq
      show Go p e below _ _ (mkF m 352 #[.val (.int ch), .val (.int mask), .val (.int (own_bi (own_lower ch))), .val (.int (own_bi (own_upper ch))), .val (.int (own_bi (own_alpha ch))), .val (.int (own_bi (own_digit ch))), .val (.int (own_bi (own_hex ch))), .val (.int (own_bi (own_scheme ch))), .val (.int (own_bi (own_unres ch))), .val (.int (own_bi (own_sub ch))), .val (.int (own_bi (own_colon ch))), .val (.int (own_bi (own_at ch))), .val (.int (own_bi (own_slash ch))), .val (.int (own_bi (own_quest ch))), .val (.int (own_bi (own_r1 ch mask)))] [(.int (own_bi (own_has mask 4)))])
      refine o_ifeq 358 355 W d1_352 (fun c352 => ?_) (fun c352 => ?_)
      · simp only [own_bi0, Bool.not_eq_false] at c344 c352
        exact (J _ W).eq (congrArg (fun z => mkF m 358 #[.val (.int ch), .val (.int mask), .val (.int (own_bi (own_lower ch))), .val (.int (own_bi (own_upper ch))), .val (.int (own_bi (own_alpha ch))), .val (.int (own_bi (own_digit ch))), .val (.int (own_bi (own_hex ch))), .val (.int (own_bi (own_scheme ch))), .val (.int (own_bi (own_unres ch))), .val (.int (own_bi (own_sub ch))), .val (.int (own_bi (own_colon ch))), .val (.int (own_bi (own_at ch))), .val (.int (own_bi (own_slash ch))), .val (.int (own_bi (own_quest ch))), .val (.int z)] []) (by simp [own_bi, own_r2, c344, c352]))
      · refine o_iconst 356 W (1) d1_355 (by first | rfl | decide) ?_
        refine o_istore 358 W #[.val (.int ch), .val (.int mask), .val (.int (own_bi (own_lower ch))), .val (.int (own_bi (own_upper ch))), .val (.int (own_bi (own_alpha ch))), .val (.int (own_bi (own_digit ch))), .val (.int (own_bi (own_hex ch))), .val (.int (own_bi (own_scheme ch))), .val (.int (own_bi (own_unres ch))), .val (.int (own_bi (own_sub ch))), .val (.int (own_bi (own_colon ch))), .val (.int (own_bi (own_at ch))), .val (.int (own_bi (own_slash ch))), .val (.int (own_bi (own_quest ch))), .val (.int (1 : Int32))] d1_356 rfl ?_
        simp only [own_bi0, Bool.not_eq_false] at c344 c352
        exact (J _ W).eq (congrArg (fun z => mkF m 358 #[.val (.int ch), .val (.int mask), .val (.int (own_bi (own_lower ch))), .val (.int (own_bi (own_upper ch))), .val (.int (own_bi (own_alpha ch))), .val (.int (own_bi (own_digit ch))), .val (.int (own_bi (own_hex ch))), .val (.int (own_bi (own_scheme ch))), .val (.int (own_bi (own_unres ch))), .val (.int (own_bi (own_sub ch))), .val (.int (own_bi (own_colon ch))), .val (.int (own_bi (own_at ch))), .val (.int (own_bi (own_slash ch))), .val (.int (own_bi (own_quest ch))), .val (.int z)] []) (by simp [own_bi, own_r2, c344, c352]))
  refine Go.cutW W (g' := (mkF m 375 #[.val (.int ch), .val (.int mask), .val (.int (own_bi (own_lower ch))), .val (.int (own_bi (own_upper ch))), .val (.int (own_bi (own_alpha ch))), .val (.int (own_bi (own_digit ch))), .val (.int (own_bi (own_hex ch))), .val (.int (own_bi (own_scheme ch))), .val (.int (own_bi (own_unres ch))), .val (.int (own_bi (own_sub ch))), .val (.int (own_bi (own_colon ch))), .val (.int (own_bi (own_at ch))), .val (.int (own_bi (own_slash ch))), .val (.int (own_bi (own_quest ch))), .val (.int (own_bi (own_r3 ch mask)))] [])) (fun J => ?_) (fun T W => ?_)
  · refine o_iload 360 W d1_358 rfl ?_
    refine o_ifeq 375 363 W d1_360 (fun c360 => ?_) (fun c360 => ?_)
    · simp only [own_bi0, Bool.not_eq_false] at c360
      exact (J _ W).eq (congrArg (fun z => mkF m 375 #[.val (.int ch), .val (.int mask), .val (.int (own_bi (own_lower ch))), .val (.int (own_bi (own_upper ch))), .val (.int (own_bi (own_alpha ch))), .val (.int (own_bi (own_digit ch))), .val (.int (own_bi (own_hex ch))), .val (.int (own_bi (own_scheme ch))), .val (.int (own_bi (own_unres ch))), .val (.int (own_bi (own_sub ch))), .val (.int (own_bi (own_colon ch))), .val (.int (own_bi (own_at ch))), .val (.int (own_bi (own_slash ch))), .val (.int (own_bi (own_quest ch))), .val (.int z)] []) (by simp [own_bi, own_r3, c360]))
    · refine o_iloadN 364 W d1_363 rfl ?_
      refine o_bipush 366 W (8) d1_364 (by first | rfl | decide) ?_
      refine o_static 369 [(.int mask), (.int (8 : Int32))] W (tw hw 11) (tw hw 12) (tw hw 3) (tw hw 13) (con_has l Z b0 hw _ _ _ W.old) pd0 d1_366 rfl all0 (fun T h v W qq gg => ?_)
      obtain ⟨_, rfl, rfl, rfl⟩ := qq
      show Go p e below _ _ (mkF m 369 #[.val (.int ch), .val (.int mask), .val (.int (own_bi (own_lower ch))), .val (.int (own_bi (own_upper ch))), .val (.int (own_bi (own_alpha ch))), .val (.int (own_bi (own_digit ch))), .val (.int (own_bi (own_hex ch))), .val (.int (own_bi (own_scheme ch))), .val (.int (own_bi (own_unres ch))), .val (.int (own_bi (own_sub ch))), .val (.int (own_bi (own_colon ch))), .val (.int (own_bi (own_at ch))), .val (.int (own_bi (own_slash ch))), .val (.int (own_bi (own_quest ch))), .val (.int (own_bi (own_r2 ch mask)))] [(.int (own_bi (own_has mask 8)))])
      refine o_ifeq 375 372 W d1_369 (fun c369 => ?_) (fun c369 => ?_)
      · simp only [own_bi0, Bool.not_eq_false] at c360 c369
        exact (J _ W).eq (congrArg (fun z => mkF m 375 #[.val (.int ch), .val (.int mask), .val (.int (own_bi (own_lower ch))), .val (.int (own_bi (own_upper ch))), .val (.int (own_bi (own_alpha ch))), .val (.int (own_bi (own_digit ch))), .val (.int (own_bi (own_hex ch))), .val (.int (own_bi (own_scheme ch))), .val (.int (own_bi (own_unres ch))), .val (.int (own_bi (own_sub ch))), .val (.int (own_bi (own_colon ch))), .val (.int (own_bi (own_at ch))), .val (.int (own_bi (own_slash ch))), .val (.int (own_bi (own_quest ch))), .val (.int z)] []) (by simp [own_bi, own_r3, c360, c369]))
      · refine o_iconst 373 W (1) d1_372 (by first | rfl | decide) ?_
        refine o_istore 375 W #[.val (.int ch), .val (.int mask), .val (.int (own_bi (own_lower ch))), .val (.int (own_bi (own_upper ch))), .val (.int (own_bi (own_alpha ch))), .val (.int (own_bi (own_digit ch))), .val (.int (own_bi (own_hex ch))), .val (.int (own_bi (own_scheme ch))), .val (.int (own_bi (own_unres ch))), .val (.int (own_bi (own_sub ch))), .val (.int (own_bi (own_colon ch))), .val (.int (own_bi (own_at ch))), .val (.int (own_bi (own_slash ch))), .val (.int (own_bi (own_quest ch))), .val (.int (1 : Int32))] d1_373 rfl ?_
        simp only [own_bi0, Bool.not_eq_false] at c360 c369
        exact (J _ W).eq (congrArg (fun z => mkF m 375 #[.val (.int ch), .val (.int mask), .val (.int (own_bi (own_lower ch))), .val (.int (own_bi (own_upper ch))), .val (.int (own_bi (own_alpha ch))), .val (.int (own_bi (own_digit ch))), .val (.int (own_bi (own_hex ch))), .val (.int (own_bi (own_scheme ch))), .val (.int (own_bi (own_unres ch))), .val (.int (own_bi (own_sub ch))), .val (.int (own_bi (own_colon ch))), .val (.int (own_bi (own_at ch))), .val (.int (own_bi (own_slash ch))), .val (.int (own_bi (own_quest ch))), .val (.int z)] []) (by simp [own_bi, own_r3, c360, c369]))
  refine Go.cutW W (g' := (mkF m 392 #[.val (.int ch), .val (.int mask), .val (.int (own_bi (own_lower ch))), .val (.int (own_bi (own_upper ch))), .val (.int (own_bi (own_alpha ch))), .val (.int (own_bi (own_digit ch))), .val (.int (own_bi (own_hex ch))), .val (.int (own_bi (own_scheme ch))), .val (.int (own_bi (own_unres ch))), .val (.int (own_bi (own_sub ch))), .val (.int (own_bi (own_colon ch))), .val (.int (own_bi (own_at ch))), .val (.int (own_bi (own_slash ch))), .val (.int (own_bi (own_quest ch))), .val (.int (own_bi (own_r4 ch mask)))] [])) (fun J => ?_) (fun T W => ?_)
  · refine o_iload 377 W d1_375 rfl ?_
    refine o_ifeq 392 380 W d1_377 (fun c377 => ?_) (fun c377 => ?_)
    · simp only [own_bi0, Bool.not_eq_false] at c377
      exact (J _ W).eq (congrArg (fun z => mkF m 392 #[.val (.int ch), .val (.int mask), .val (.int (own_bi (own_lower ch))), .val (.int (own_bi (own_upper ch))), .val (.int (own_bi (own_alpha ch))), .val (.int (own_bi (own_digit ch))), .val (.int (own_bi (own_hex ch))), .val (.int (own_bi (own_scheme ch))), .val (.int (own_bi (own_unres ch))), .val (.int (own_bi (own_sub ch))), .val (.int (own_bi (own_colon ch))), .val (.int (own_bi (own_at ch))), .val (.int (own_bi (own_slash ch))), .val (.int (own_bi (own_quest ch))), .val (.int z)] []) (by simp [own_bi, own_r4, c377]))
    · refine o_iloadN 381 W d1_380 rfl ?_
      refine o_bipush 383 W (16) d1_381 (by first | rfl | decide) ?_
      refine o_static 386 [(.int mask), (.int (16 : Int32))] W (tw hw 11) (tw hw 12) (tw hw 3) (tw hw 13) (con_has l Z b0 hw _ _ _ W.old) pd0 d1_383 rfl all0 (fun T h v W qq gg => ?_)
      obtain ⟨_, rfl, rfl, rfl⟩ := qq
      show Go p e below _ _ (mkF m 386 #[.val (.int ch), .val (.int mask), .val (.int (own_bi (own_lower ch))), .val (.int (own_bi (own_upper ch))), .val (.int (own_bi (own_alpha ch))), .val (.int (own_bi (own_digit ch))), .val (.int (own_bi (own_hex ch))), .val (.int (own_bi (own_scheme ch))), .val (.int (own_bi (own_unres ch))), .val (.int (own_bi (own_sub ch))), .val (.int (own_bi (own_colon ch))), .val (.int (own_bi (own_at ch))), .val (.int (own_bi (own_slash ch))), .val (.int (own_bi (own_quest ch))), .val (.int (own_bi (own_r3 ch mask)))] [(.int (own_bi (own_has mask 16)))])
      refine o_ifeq 392 389 W d1_386 (fun c386 => ?_) (fun c386 => ?_)
      · simp only [own_bi0, Bool.not_eq_false] at c377 c386
        exact (J _ W).eq (congrArg (fun z => mkF m 392 #[.val (.int ch), .val (.int mask), .val (.int (own_bi (own_lower ch))), .val (.int (own_bi (own_upper ch))), .val (.int (own_bi (own_alpha ch))), .val (.int (own_bi (own_digit ch))), .val (.int (own_bi (own_hex ch))), .val (.int (own_bi (own_scheme ch))), .val (.int (own_bi (own_unres ch))), .val (.int (own_bi (own_sub ch))), .val (.int (own_bi (own_colon ch))), .val (.int (own_bi (own_at ch))), .val (.int (own_bi (own_slash ch))), .val (.int (own_bi (own_quest ch))), .val (.int z)] []) (by simp [own_bi, own_r4, c377, c386]))
      · refine o_iconst 390 W (1) d1_389 (by first | rfl | decide) ?_
        refine o_istore 392 W #[.val (.int ch), .val (.int mask), .val (.int (own_bi (own_lower ch))), .val (.int (own_bi (own_upper ch))), .val (.int (own_bi (own_alpha ch))), .val (.int (own_bi (own_digit ch))), .val (.int (own_bi (own_hex ch))), .val (.int (own_bi (own_scheme ch))), .val (.int (own_bi (own_unres ch))), .val (.int (own_bi (own_sub ch))), .val (.int (own_bi (own_colon ch))), .val (.int (own_bi (own_at ch))), .val (.int (own_bi (own_slash ch))), .val (.int (own_bi (own_quest ch))), .val (.int (1 : Int32))] d1_390 rfl ?_
        simp only [own_bi0, Bool.not_eq_false] at c377 c386
        exact (J _ W).eq (congrArg (fun z => mkF m 392 #[.val (.int ch), .val (.int mask), .val (.int (own_bi (own_lower ch))), .val (.int (own_bi (own_upper ch))), .val (.int (own_bi (own_alpha ch))), .val (.int (own_bi (own_digit ch))), .val (.int (own_bi (own_hex ch))), .val (.int (own_bi (own_scheme ch))), .val (.int (own_bi (own_unres ch))), .val (.int (own_bi (own_sub ch))), .val (.int (own_bi (own_colon ch))), .val (.int (own_bi (own_at ch))), .val (.int (own_bi (own_slash ch))), .val (.int (own_bi (own_quest ch))), .val (.int z)] []) (by simp [own_bi, own_r4, c377, c386]))
  refine Go.cutW W (g' := (mkF m 409 #[.val (.int ch), .val (.int mask), .val (.int (own_bi (own_lower ch))), .val (.int (own_bi (own_upper ch))), .val (.int (own_bi (own_alpha ch))), .val (.int (own_bi (own_digit ch))), .val (.int (own_bi (own_hex ch))), .val (.int (own_bi (own_scheme ch))), .val (.int (own_bi (own_unres ch))), .val (.int (own_bi (own_sub ch))), .val (.int (own_bi (own_colon ch))), .val (.int (own_bi (own_at ch))), .val (.int (own_bi (own_slash ch))), .val (.int (own_bi (own_quest ch))), .val (.int (own_bi (own_r5 ch mask)))] [])) (fun J => ?_) (fun T W => ?_)
  · refine o_iload 394 W d1_392 rfl ?_
    refine o_ifeq 409 397 W d1_394 (fun c394 => ?_) (fun c394 => ?_)
    · simp only [own_bi0, Bool.not_eq_false] at c394
      exact (J _ W).eq (congrArg (fun z => mkF m 409 #[.val (.int ch), .val (.int mask), .val (.int (own_bi (own_lower ch))), .val (.int (own_bi (own_upper ch))), .val (.int (own_bi (own_alpha ch))), .val (.int (own_bi (own_digit ch))), .val (.int (own_bi (own_hex ch))), .val (.int (own_bi (own_scheme ch))), .val (.int (own_bi (own_unres ch))), .val (.int (own_bi (own_sub ch))), .val (.int (own_bi (own_colon ch))), .val (.int (own_bi (own_at ch))), .val (.int (own_bi (own_slash ch))), .val (.int (own_bi (own_quest ch))), .val (.int z)] []) (by simp [own_bi, own_r5, c394]))
    · refine o_iloadN 398 W d1_397 rfl ?_
      refine o_bipush 400 W (32) d1_398 (by first | rfl | decide) ?_
      refine o_static 403 [(.int mask), (.int (32 : Int32))] W (tw hw 11) (tw hw 12) (tw hw 3) (tw hw 13) (con_has l Z b0 hw _ _ _ W.old) pd0 d1_400 rfl all0 (fun T h v W qq gg => ?_)
      obtain ⟨_, rfl, rfl, rfl⟩ := qq
      show Go p e below _ _ (mkF m 403 #[.val (.int ch), .val (.int mask), .val (.int (own_bi (own_lower ch))), .val (.int (own_bi (own_upper ch))), .val (.int (own_bi (own_alpha ch))), .val (.int (own_bi (own_digit ch))), .val (.int (own_bi (own_hex ch))), .val (.int (own_bi (own_scheme ch))), .val (.int (own_bi (own_unres ch))), .val (.int (own_bi (own_sub ch))), .val (.int (own_bi (own_colon ch))), .val (.int (own_bi (own_at ch))), .val (.int (own_bi (own_slash ch))), .val (.int (own_bi (own_quest ch))), .val (.int (own_bi (own_r4 ch mask)))] [(.int (own_bi (own_has mask 32)))])
      refine o_ifeq 409 406 W d1_403 (fun c403 => ?_) (fun c403 => ?_)
      · simp only [own_bi0, Bool.not_eq_false] at c394 c403
        exact (J _ W).eq (congrArg (fun z => mkF m 409 #[.val (.int ch), .val (.int mask), .val (.int (own_bi (own_lower ch))), .val (.int (own_bi (own_upper ch))), .val (.int (own_bi (own_alpha ch))), .val (.int (own_bi (own_digit ch))), .val (.int (own_bi (own_hex ch))), .val (.int (own_bi (own_scheme ch))), .val (.int (own_bi (own_unres ch))), .val (.int (own_bi (own_sub ch))), .val (.int (own_bi (own_colon ch))), .val (.int (own_bi (own_at ch))), .val (.int (own_bi (own_slash ch))), .val (.int (own_bi (own_quest ch))), .val (.int z)] []) (by simp [own_bi, own_r5, c394, c403]))
      · refine o_iconst 407 W (1) d1_406 (by first | rfl | decide) ?_
        refine o_istore 409 W #[.val (.int ch), .val (.int mask), .val (.int (own_bi (own_lower ch))), .val (.int (own_bi (own_upper ch))), .val (.int (own_bi (own_alpha ch))), .val (.int (own_bi (own_digit ch))), .val (.int (own_bi (own_hex ch))), .val (.int (own_bi (own_scheme ch))), .val (.int (own_bi (own_unres ch))), .val (.int (own_bi (own_sub ch))), .val (.int (own_bi (own_colon ch))), .val (.int (own_bi (own_at ch))), .val (.int (own_bi (own_slash ch))), .val (.int (own_bi (own_quest ch))), .val (.int (1 : Int32))] d1_407 rfl ?_
        simp only [own_bi0, Bool.not_eq_false] at c394 c403
        exact (J _ W).eq (congrArg (fun z => mkF m 409 #[.val (.int ch), .val (.int mask), .val (.int (own_bi (own_lower ch))), .val (.int (own_bi (own_upper ch))), .val (.int (own_bi (own_alpha ch))), .val (.int (own_bi (own_digit ch))), .val (.int (own_bi (own_hex ch))), .val (.int (own_bi (own_scheme ch))), .val (.int (own_bi (own_unres ch))), .val (.int (own_bi (own_sub ch))), .val (.int (own_bi (own_colon ch))), .val (.int (own_bi (own_at ch))), .val (.int (own_bi (own_slash ch))), .val (.int (own_bi (own_quest ch))), .val (.int z)] []) (by simp [own_bi, own_r5, c394, c403]))
  refine Go.cutW W (g' := (mkF m 426 #[.val (.int ch), .val (.int mask), .val (.int (own_bi (own_lower ch))), .val (.int (own_bi (own_upper ch))), .val (.int (own_bi (own_alpha ch))), .val (.int (own_bi (own_digit ch))), .val (.int (own_bi (own_hex ch))), .val (.int (own_bi (own_scheme ch))), .val (.int (own_bi (own_unres ch))), .val (.int (own_bi (own_sub ch))), .val (.int (own_bi (own_colon ch))), .val (.int (own_bi (own_at ch))), .val (.int (own_bi (own_slash ch))), .val (.int (own_bi (own_quest ch))), .val (.int (own_bi (own_r6 ch mask)))] [])) (fun J => ?_) (fun T W => ?_)
  · refine o_iload 411 W d1_409 rfl ?_
    refine o_ifeq 426 414 W d1_411 (fun c411 => ?_) (fun c411 => ?_)
    · simp only [own_bi0, Bool.not_eq_false] at c411
      exact (J _ W).eq (congrArg (fun z => mkF m 426 #[.val (.int ch), .val (.int mask), .val (.int (own_bi (own_lower ch))), .val (.int (own_bi (own_upper ch))), .val (.int (own_bi (own_alpha ch))), .val (.int (own_bi (own_digit ch))), .val (.int (own_bi (own_hex ch))), .val (.int (own_bi (own_scheme ch))), .val (.int (own_bi (own_unres ch))), .val (.int (own_bi (own_sub ch))), .val (.int (own_bi (own_colon ch))), .val (.int (own_bi (own_at ch))), .val (.int (own_bi (own_slash ch))), .val (.int (own_bi (own_quest ch))), .val (.int z)] []) (by simp [own_bi, own_r6, c411]))
    · refine o_iloadN 415 W d1_414 rfl ?_
      refine o_bipush 417 W (64) d1_415 (by first | rfl | decide) ?_
      refine o_static 420 [(.int mask), (.int (64 : Int32))] W (tw hw 11) (tw hw 12) (tw hw 3) (tw hw 13) (con_has l Z b0 hw _ _ _ W.old) pd0 d1_417 rfl all0 (fun T h v W qq gg => ?_)
      obtain ⟨_, rfl, rfl, rfl⟩ := qq
      show Go p e below _ _ (mkF m 420 #[.val (.int ch), .val (.int mask), .val (.int (own_bi (own_lower ch))), .val (.int (own_bi (own_upper ch))), .val (.int (own_bi (own_alpha ch))), .val (.int (own_bi (own_digit ch))), .val (.int (own_bi (own_hex ch))), .val (.int (own_bi (own_scheme ch))), .val (.int (own_bi (own_unres ch))), .val (.int (own_bi (own_sub ch))), .val (.int (own_bi (own_colon ch))), .val (.int (own_bi (own_at ch))), .val (.int (own_bi (own_slash ch))), .val (.int (own_bi (own_quest ch))), .val (.int (own_bi (own_r5 ch mask)))] [(.int (own_bi (own_has mask 64)))])
      refine o_ifeq 426 423 W d1_420 (fun c420 => ?_) (fun c420 => ?_)
      · simp only [own_bi0, Bool.not_eq_false] at c411 c420
        exact (J _ W).eq (congrArg (fun z => mkF m 426 #[.val (.int ch), .val (.int mask), .val (.int (own_bi (own_lower ch))), .val (.int (own_bi (own_upper ch))), .val (.int (own_bi (own_alpha ch))), .val (.int (own_bi (own_digit ch))), .val (.int (own_bi (own_hex ch))), .val (.int (own_bi (own_scheme ch))), .val (.int (own_bi (own_unres ch))), .val (.int (own_bi (own_sub ch))), .val (.int (own_bi (own_colon ch))), .val (.int (own_bi (own_at ch))), .val (.int (own_bi (own_slash ch))), .val (.int (own_bi (own_quest ch))), .val (.int z)] []) (by simp [own_bi, own_r6, c411, c420]))
      · refine o_iconst 424 W (1) d1_423 (by first | rfl | decide) ?_
        refine o_istore 426 W #[.val (.int ch), .val (.int mask), .val (.int (own_bi (own_lower ch))), .val (.int (own_bi (own_upper ch))), .val (.int (own_bi (own_alpha ch))), .val (.int (own_bi (own_digit ch))), .val (.int (own_bi (own_hex ch))), .val (.int (own_bi (own_scheme ch))), .val (.int (own_bi (own_unres ch))), .val (.int (own_bi (own_sub ch))), .val (.int (own_bi (own_colon ch))), .val (.int (own_bi (own_at ch))), .val (.int (own_bi (own_slash ch))), .val (.int (own_bi (own_quest ch))), .val (.int (1 : Int32))] d1_424 rfl ?_
        simp only [own_bi0, Bool.not_eq_false] at c411 c420
        exact (J _ W).eq (congrArg (fun z => mkF m 426 #[.val (.int ch), .val (.int mask), .val (.int (own_bi (own_lower ch))), .val (.int (own_bi (own_upper ch))), .val (.int (own_bi (own_alpha ch))), .val (.int (own_bi (own_digit ch))), .val (.int (own_bi (own_hex ch))), .val (.int (own_bi (own_scheme ch))), .val (.int (own_bi (own_unres ch))), .val (.int (own_bi (own_sub ch))), .val (.int (own_bi (own_colon ch))), .val (.int (own_bi (own_at ch))), .val (.int (own_bi (own_slash ch))), .val (.int (own_bi (own_quest ch))), .val (.int z)] []) (by simp [own_bi, own_r6, c411, c420]))
  refine Go.cutW W (g' := (mkF m 444 #[.val (.int ch), .val (.int mask), .val (.int (own_bi (own_lower ch))), .val (.int (own_bi (own_upper ch))), .val (.int (own_bi (own_alpha ch))), .val (.int (own_bi (own_digit ch))), .val (.int (own_bi (own_hex ch))), .val (.int (own_bi (own_scheme ch))), .val (.int (own_bi (own_unres ch))), .val (.int (own_bi (own_sub ch))), .val (.int (own_bi (own_colon ch))), .val (.int (own_bi (own_at ch))), .val (.int (own_bi (own_slash ch))), .val (.int (own_bi (own_quest ch))), .val (.int (own_bi (own_r7 ch mask)))] [])) (fun J => ?_) (fun T W => ?_)
  · refine o_iload 428 W d1_426 rfl ?_
    refine o_ifeq 444 431 W d1_428 (fun c428 => ?_) (fun c428 => ?_)
    · simp only [own_bi0, Bool.not_eq_false] at c428
      exact (J _ W).eq (congrArg (fun z => mkF m 444 #[.val (.int ch), .val (.int mask), .val (.int (own_bi (own_lower ch))), .val (.int (own_bi (own_upper ch))), .val (.int (own_bi (own_alpha ch))), .val (.int (own_bi (own_digit ch))), .val (.int (own_bi (own_hex ch))), .val (.int (own_bi (own_scheme ch))), .val (.int (own_bi (own_unres ch))), .val (.int (own_bi (own_sub ch))), .val (.int (own_bi (own_colon ch))), .val (.int (own_bi (own_at ch))), .val (.int (own_bi (own_slash ch))), .val (.int (own_bi (own_quest ch))), .val (.int z)] []) (by simp [own_bi, own_r7, c428]))
    · refine o_iloadN 432 W d1_431 rfl ?_
      refine o_sipush 435 W (128) d1_432 (by first | rfl | decide) ?_
      refine o_static 438 [(.int mask), (.int (128 : Int32))] W (tw hw 11) (tw hw 12) (tw hw 3) (tw hw 13) (con_has l Z b0 hw _ _ _ W.old) pd0 d1_435 rfl all0 (fun T h v W qq gg => ?_)
      obtain ⟨_, rfl, rfl, rfl⟩ := qq
      show Go p e below _ _ (mkF m 438 #[.val (.int ch), .val (.int mask), .val (.int (own_bi (own_lower ch))), .val (.int (own_bi (own_upper ch))), .val (.int (own_bi (own_alpha ch))), .val (.int (own_bi (own_digit ch))), .val (.int (own_bi (own_hex ch))), .val (.int (own_bi (own_scheme ch))), .val (.int (own_bi (own_unres ch))), .val (.int (own_bi (own_sub ch))), .val (.int (own_bi (own_colon ch))), .val (.int (own_bi (own_at ch))), .val (.int (own_bi (own_slash ch))), .val (.int (own_bi (own_quest ch))), .val (.int (own_bi (own_r6 ch mask)))] [(.int (own_bi (own_has mask 128)))])
      refine o_ifeq 444 441 W d1_438 (fun c438 => ?_) (fun c438 => ?_)
      · simp only [own_bi0, Bool.not_eq_false] at c428 c438
        exact (J _ W).eq (congrArg (fun z => mkF m 444 #[.val (.int ch), .val (.int mask), .val (.int (own_bi (own_lower ch))), .val (.int (own_bi (own_upper ch))), .val (.int (own_bi (own_alpha ch))), .val (.int (own_bi (own_digit ch))), .val (.int (own_bi (own_hex ch))), .val (.int (own_bi (own_scheme ch))), .val (.int (own_bi (own_unres ch))), .val (.int (own_bi (own_sub ch))), .val (.int (own_bi (own_colon ch))), .val (.int (own_bi (own_at ch))), .val (.int (own_bi (own_slash ch))), .val (.int (own_bi (own_quest ch))), .val (.int z)] []) (by simp [own_bi, own_r7, c428, c438]))
      · refine o_iconst 442 W (1) d1_441 (by first | rfl | decide) ?_
        refine o_istore 444 W #[.val (.int ch), .val (.int mask), .val (.int (own_bi (own_lower ch))), .val (.int (own_bi (own_upper ch))), .val (.int (own_bi (own_alpha ch))), .val (.int (own_bi (own_digit ch))), .val (.int (own_bi (own_hex ch))), .val (.int (own_bi (own_scheme ch))), .val (.int (own_bi (own_unres ch))), .val (.int (own_bi (own_sub ch))), .val (.int (own_bi (own_colon ch))), .val (.int (own_bi (own_at ch))), .val (.int (own_bi (own_slash ch))), .val (.int (own_bi (own_quest ch))), .val (.int (1 : Int32))] d1_442 rfl ?_
        simp only [own_bi0, Bool.not_eq_false] at c428 c438
        exact (J _ W).eq (congrArg (fun z => mkF m 444 #[.val (.int ch), .val (.int mask), .val (.int (own_bi (own_lower ch))), .val (.int (own_bi (own_upper ch))), .val (.int (own_bi (own_alpha ch))), .val (.int (own_bi (own_digit ch))), .val (.int (own_bi (own_hex ch))), .val (.int (own_bi (own_scheme ch))), .val (.int (own_bi (own_unres ch))), .val (.int (own_bi (own_sub ch))), .val (.int (own_bi (own_colon ch))), .val (.int (own_bi (own_at ch))), .val (.int (own_bi (own_slash ch))), .val (.int (own_bi (own_quest ch))), .val (.int z)] []) (by simp [own_bi, own_r7, c428, c438]))
  refine Go.cutW W (g' := (mkF m 462 #[.val (.int ch), .val (.int mask), .val (.int (own_bi (own_lower ch))), .val (.int (own_bi (own_upper ch))), .val (.int (own_bi (own_alpha ch))), .val (.int (own_bi (own_digit ch))), .val (.int (own_bi (own_hex ch))), .val (.int (own_bi (own_scheme ch))), .val (.int (own_bi (own_unres ch))), .val (.int (own_bi (own_sub ch))), .val (.int (own_bi (own_colon ch))), .val (.int (own_bi (own_at ch))), .val (.int (own_bi (own_slash ch))), .val (.int (own_bi (own_quest ch))), .val (.int (own_bi (own_r8 ch mask)))] [])) (fun J => ?_) (fun T W => ?_)
  · refine o_iload 446 W d1_444 rfl ?_
    refine o_ifeq 462 449 W d1_446 (fun c446 => ?_) (fun c446 => ?_)
    · simp only [own_bi0, Bool.not_eq_false] at c446
      exact (J _ W).eq (congrArg (fun z => mkF m 462 #[.val (.int ch), .val (.int mask), .val (.int (own_bi (own_lower ch))), .val (.int (own_bi (own_upper ch))), .val (.int (own_bi (own_alpha ch))), .val (.int (own_bi (own_digit ch))), .val (.int (own_bi (own_hex ch))), .val (.int (own_bi (own_scheme ch))), .val (.int (own_bi (own_unres ch))), .val (.int (own_bi (own_sub ch))), .val (.int (own_bi (own_colon ch))), .val (.int (own_bi (own_at ch))), .val (.int (own_bi (own_slash ch))), .val (.int (own_bi (own_quest ch))), .val (.int z)] []) (by simp [own_bi, own_r8, c446]))
    · refine o_iloadN 450 W d1_449 rfl ?_
      refine o_sipush 453 W (256) d1_450 (by first | rfl | decide) ?_
      refine o_static 456 [(.int mask), (.int (256 : Int32))] W (tw hw 11) (tw hw 12) (tw hw 3) (tw hw 13) (con_has l Z b0 hw _ _ _ W.old) pd0 d1_453 rfl all0 (fun T h v W qq gg => ?_)
      obtain ⟨_, rfl, rfl, rfl⟩ := qq
      show Go p e below _ _ (mkF m 456 #[.val (.int ch), .val (.int mask), .val (.int (own_bi (own_lower ch))), .val (.int (own_bi (own_upper ch))), .val (.int (own_bi (own_alpha ch))), .val (.int (own_bi (own_digit ch))), .val (.int (own_bi (own_hex ch))), .val (.int (own_bi (own_scheme ch))), .val (.int (own_bi (own_unres ch))), .val (.int (own_bi (own_sub ch))), .val (.int (own_bi (own_colon ch))), .val (.int (own_bi (own_at ch))), .val (.int (own_bi (own_slash ch))), .val (.int (own_bi (own_quest ch))), .val (.int (own_bi (own_r7 ch mask)))] [(.int (own_bi (own_has mask 256)))])
      refine o_ifeq 462 459 W d1_456 (fun c456 => ?_) (fun c456 => ?_)
      · simp only [own_bi0, Bool.not_eq_false] at c446 c456
        exact (J _ W).eq (congrArg (fun z => mkF m 462 #[.val (.int ch), .val (.int mask), .val (.int (own_bi (own_lower ch))), .val (.int (own_bi (own_upper ch))), .val (.int (own_bi (own_alpha ch))), .val (.int (own_bi (own_digit ch))), .val (.int (own_bi (own_hex ch))), .val (.int (own_bi (own_scheme ch))), .val (.int (own_bi (own_unres ch))), .val (.int (own_bi (own_sub ch))), .val (.int (own_bi (own_colon ch))), .val (.int (own_bi (own_at ch))), .val (.int (own_bi (own_slash ch))), .val (.int (own_bi (own_quest ch))), .val (.int z)] []) (by simp [own_bi, own_r8, c446, c456]))
      · refine o_iconst 460 W (1) d1_459 (by first | rfl | decide) ?_
        refine o_istore 462 W #[.val (.int ch), .val (.int mask), .val (.int (own_bi (own_lower ch))), .val (.int (own_bi (own_upper ch))), .val (.int (own_bi (own_alpha ch))), .val (.int (own_bi (own_digit ch))), .val (.int (own_bi (own_hex ch))), .val (.int (own_bi (own_scheme ch))), .val (.int (own_bi (own_unres ch))), .val (.int (own_bi (own_sub ch))), .val (.int (own_bi (own_colon ch))), .val (.int (own_bi (own_at ch))), .val (.int (own_bi (own_slash ch))), .val (.int (own_bi (own_quest ch))), .val (.int (1 : Int32))] d1_460 rfl ?_
        simp only [own_bi0, Bool.not_eq_false] at c446 c456
        exact (J _ W).eq (congrArg (fun z => mkF m 462 #[.val (.int ch), .val (.int mask), .val (.int (own_bi (own_lower ch))), .val (.int (own_bi (own_upper ch))), .val (.int (own_bi (own_alpha ch))), .val (.int (own_bi (own_digit ch))), .val (.int (own_bi (own_hex ch))), .val (.int (own_bi (own_scheme ch))), .val (.int (own_bi (own_unres ch))), .val (.int (own_bi (own_sub ch))), .val (.int (own_bi (own_colon ch))), .val (.int (own_bi (own_at ch))), .val (.int (own_bi (own_slash ch))), .val (.int (own_bi (own_quest ch))), .val (.int z)] []) (by simp [own_bi, own_r8, c446, c456]))
  refine Go.cutW W (g' := (mkF m 480 #[.val (.int ch), .val (.int mask), .val (.int (own_bi (own_lower ch))), .val (.int (own_bi (own_upper ch))), .val (.int (own_bi (own_alpha ch))), .val (.int (own_bi (own_digit ch))), .val (.int (own_bi (own_hex ch))), .val (.int (own_bi (own_scheme ch))), .val (.int (own_bi (own_unres ch))), .val (.int (own_bi (own_sub ch))), .val (.int (own_bi (own_colon ch))), .val (.int (own_bi (own_at ch))), .val (.int (own_bi (own_slash ch))), .val (.int (own_bi (own_quest ch))), .val (.int (own_bi (own_r9 ch mask)))] [])) (fun J => ?_) (fun T W => ?_)
  · refine o_iload 464 W d1_462 rfl ?_
    refine o_ifeq 480 467 W d1_464 (fun c464 => ?_) (fun c464 => ?_)
    · simp only [own_bi0, Bool.not_eq_false] at c464
      exact (J _ W).eq (congrArg (fun z => mkF m 480 #[.val (.int ch), .val (.int mask), .val (.int (own_bi (own_lower ch))), .val (.int (own_bi (own_upper ch))), .val (.int (own_bi (own_alpha ch))), .val (.int (own_bi (own_digit ch))), .val (.int (own_bi (own_hex ch))), .val (.int (own_bi (own_scheme ch))), .val (.int (own_bi (own_unres ch))), .val (.int (own_bi (own_sub ch))), .val (.int (own_bi (own_colon ch))), .val (.int (own_bi (own_at ch))), .val (.int (own_bi (own_slash ch))), .val (.int (own_bi (own_quest ch))), .val (.int z)] []) (by simp [own_bi, own_r9, c464]))
    · refine o_iloadN 468 W d1_467 rfl ?_
      refine o_sipush 471 W (512) d1_468 (by first | rfl | decide) ?_
      refine o_static 474 [(.int mask), (.int (512 : Int32))] W (tw hw 11) (tw hw 12) (tw hw 3) (tw hw 13) (con_has l Z b0 hw _ _ _ W.old) pd0 d1_471 rfl all0 (fun T h v W qq gg => ?_)
      obtain ⟨_, rfl, rfl, rfl⟩ := qq
      show Go p e below _ _ (mkF m 474 #[.val (.int ch), .val (.int mask), .val (.int (own_bi (own_lower ch))), .val (.int (own_bi (own_upper ch))), .val (.int (own_bi (own_alpha ch))), .val (.int (own_bi (own_digit ch))), .val (.int (own_bi (own_hex ch))), .val (.int (own_bi (own_scheme ch))), .val (.int (own_bi (own_unres ch))), .val (.int (own_bi (own_sub ch))), .val (.int (own_bi (own_colon ch))), .val (.int (own_bi (own_at ch))), .val (.int (own_bi (own_slash ch))), .val (.int (own_bi (own_quest ch))), .val (.int (own_bi (own_r8 ch mask)))] [(.int (own_bi (own_has mask 512)))])
      refine o_ifeq 480 477 W d1_474 (fun c474 => ?_) (fun c474 => ?_)
      · simp only [own_bi0, Bool.not_eq_false] at c464 c474
        exact (J _ W).eq (congrArg (fun z => mkF m 480 #[.val (.int ch), .val (.int mask), .val (.int (own_bi (own_lower ch))), .val (.int (own_bi (own_upper ch))), .val (.int (own_bi (own_alpha ch))), .val (.int (own_bi (own_digit ch))), .val (.int (own_bi (own_hex ch))), .val (.int (own_bi (own_scheme ch))), .val (.int (own_bi (own_unres ch))), .val (.int (own_bi (own_sub ch))), .val (.int (own_bi (own_colon ch))), .val (.int (own_bi (own_at ch))), .val (.int (own_bi (own_slash ch))), .val (.int (own_bi (own_quest ch))), .val (.int z)] []) (by simp [own_bi, own_r9, c464, c474]))
      · refine o_iconst 478 W (1) d1_477 (by first | rfl | decide) ?_
        refine o_istore 480 W #[.val (.int ch), .val (.int mask), .val (.int (own_bi (own_lower ch))), .val (.int (own_bi (own_upper ch))), .val (.int (own_bi (own_alpha ch))), .val (.int (own_bi (own_digit ch))), .val (.int (own_bi (own_hex ch))), .val (.int (own_bi (own_scheme ch))), .val (.int (own_bi (own_unres ch))), .val (.int (own_bi (own_sub ch))), .val (.int (own_bi (own_colon ch))), .val (.int (own_bi (own_at ch))), .val (.int (own_bi (own_slash ch))), .val (.int (own_bi (own_quest ch))), .val (.int (1 : Int32))] d1_478 rfl ?_
        simp only [own_bi0, Bool.not_eq_false] at c464 c474
        exact (J _ W).eq (congrArg (fun z => mkF m 480 #[.val (.int ch), .val (.int mask), .val (.int (own_bi (own_lower ch))), .val (.int (own_bi (own_upper ch))), .val (.int (own_bi (own_alpha ch))), .val (.int (own_bi (own_digit ch))), .val (.int (own_bi (own_hex ch))), .val (.int (own_bi (own_scheme ch))), .val (.int (own_bi (own_unres ch))), .val (.int (own_bi (own_sub ch))), .val (.int (own_bi (own_colon ch))), .val (.int (own_bi (own_at ch))), .val (.int (own_bi (own_slash ch))), .val (.int (own_bi (own_quest ch))), .val (.int z)] []) (by simp [own_bi, own_r9, c464, c474]))
  refine o_iload 482 W d1_480 rfl ?_
  exact o_nret W _ (by simp) (own_bin _) d1_482 (⟨rfl, rfl⟩)
def own_tab (n : Nat) : Int32 := if n < 33 then 0 else if n < 34 then 32 else if n < 35 then 0 else if n < 36 then 0 else if n < 37 then 32 else if n < 38 then 0 else if n < 43 then 32 else if n < 44 then 40 else if n < 45 then 32 else if n < 46 then 24 else if n < 47 then 24 else if n < 48 then 256 else if n < 58 then 30 else if n < 59 then 64 else if n < 60 then 32 else if n < 61 then 0 else if n < 62 then 32 else if n < 63 then 0 else if n < 64 then 512 else if n < 65 then 128 else if n < 71 then 29 else if n < 91 then 25 else if n < 95 then 0 else if n < 96 then 16 else if n < 97 then 0 else if n < 103 then 29 else if n < 123 then 25 else if n < 124 then 0 else if n < 125 then 0 else if n < 126 then 0 else if n < 127 then 16 else if n < 128 then 0 else 0
def own_in (c m : Int32) : Int32 := if ¬ c < 128 then 0 else if own_tab c.toNatClampNeg &&& m = 0 then 0 else 1
theorem own_clamp {c : Int32} (h0 : ¬ c < 0) (h1 : c < 128) : c.toNatClampNeg < 128 := by
  have q := nat_of h0
  rw [Int32.lt_iff_toInt_lt] at h1
  have e : (128 : Int32).toInt = 128 := rfl
  omega
theorem con_in (l : Launch) (Z : State) (b0 : Array Value) (hw : ∀ d ∈ tables_1, d.before b0 Z = true) (ch mask : Int32) (ta : Addr) (cl : Cell) (S0 : Sta Z Z.heap "com/example/strict_uri/stricturi/CharClass" "TABLE" "[I" (.ref ta)) (A : Arr Z Z.heap ta cl .int) (hs : cl.slots.size = 128) (hv : ∀ i, i < 128 → cl.slots[i]? = some (.int (own_tab i))) (hc : ¬ ch < 0) (h0 : Heap) (hE : Ext Z.heap h0) : Con l Z (⟨"com/example/strict_uri/stricturi/CharClass", "in", "(CI)Z"⟩ : MethodName) prog_1_method_2_code 2 (some .boolean) ({ frames := 0, cells := 0, slots := 0, locals := 0 } : Room) #[(.int ch), (.int mask)] h0 [] (QV fun w h => w = .int (own_in ch mask) ∧ h0 = h) := by
  refine Con.of (plainFor_of_name pn1) hE ⟨b0, EW.nil⟩ all0 (L0 := #[.val (.int ch), .val (.int mask)]) (fun m => by first | (simp [entryFrame, mkF, argsToLocals, Value.category]; done) | rfl) ?_
  intro p e s m args below meth c T W
  refine o_iloadN 1 W d2_0 rfl ?_
  refine o_getS 4 W (tw hw 9) S0 d2_1 fun T W => ?_
  refine o_alen 5 W (128) (A.ext W.old) (by rw [hs]; rfl) d2_4 ?_
  refine o_icge 22 8 W d2_5 (fun c5 => ?_) (fun c5 => ?_)
  · refine o_iconst 23 W (0) d2_22 (by first | rfl | decide) ?_
    exact o_nret W (0 : Int32) (by simp) (by decide) d2_23 (⟨by simp [own_in, c5], rfl⟩)
  · refine o_getS 11 W (tw hw 9) S0 d2_8 fun T W => ?_
    refine o_iloadN 12 W d2_11 rfl ?_
    have hlt : ch.toNatClampNeg < 128 := own_clamp hc c5
    refine o_iaload 13 W (A.ext W.old) (fun q => q.elim hc fun q => absurd hlt (by omega)) (hv _ hlt) d2_12 ?_
    refine o_iloadN 14 W d2_13 rfl ?_
    refine o_iand 15 W d2_14 ?_
    refine o_ifeq 22 18 W d2_15 (fun c15 => ?_) (fun c15 => ?_)
    · refine o_iconst 23 W (0) d2_22 (by first | rfl | decide) ?_
      exact o_nret W (0 : Int32) (by simp) (by decide) d2_23 (⟨by simp [own_in, c5, c15], rfl⟩)
    · refine o_iconst 19 W (1) d2_18 (by first | rfl | decide) ?_
      refine o_goto 23 W d2_19 ?_
      exact o_nret W (1 : Int32) (by simp) (by decide) d2_23 (⟨by simp [own_in, c5, c15], rfl⟩)
def own_b (c : Int32) : Int32 := (if own_alpha c = true then (1 : Int32) else 0) ||| (if own_digit c = true then (2 : Int32) else 0) ||| (if own_hex c = true then (4 : Int32) else 0) ||| (if own_scheme c = true then (8 : Int32) else 0) ||| (if own_unres c = true then (16 : Int32) else 0) ||| (if own_sub c = true then (32 : Int32) else 0) ||| (if own_colon c = true then (64 : Int32) else 0) ||| (if own_at c = true then (128 : Int32) else 0) ||| (if own_slash c = true then (256 : Int32) else 0) ||| (if own_quest c = true then (512 : Int32) else 0)
theorem own_tab_b : ∀ n : Fin 128, own_tab n.val = own_b (Int32.ofNat n.val) := by decide +kernel
theorem own_or0 (x z m : Int32) : (x ||| z) &&& m = 0 ↔ (x &&& m = 0 ∧ z &&& m = 0) := by
  have e : (x ||| z) &&& m = (x &&& m) ||| (z &&& m) := by
    apply Int32.toBitVec_inj.mp
    simp only [Int32.toBitVec_and, Int32.toBitVec_or]
    ext i hi
    simp [Bool.and_or_distrib_right]
  rw [e]
  constructor
  · intro q
    have q' := congrArg Int32.toBitVec q
    simp only [Int32.toBitVec_or] at q'
    have q2 : ∀ i, ((x &&& m).toBitVec.getLsbD i || (z &&& m).toBitVec.getLsbD i) = false := fun i => by
      rw [← BitVec.getLsbD_or, q']; simp
    constructor
    · apply Int32.toBitVec_inj.mp; apply BitVec.eq_of_getLsbD_eq; intro i hi
      have := q2 i; simp at this; simp; exact this.1
    · apply Int32.toBitVec_inj.mp; apply BitVec.eq_of_getLsbD_eq; intro i hi
      have := q2 i; simp at this; simp; exact this.2
  · rintro ⟨h1, h2⟩; rw [h1, h2]; rfl
theorem own_if0 (b : Bool) (k m : Int32) : (if b = true then k else 0) &&& m = 0 ↔ (b && own_has m k) = false := by
  cases b
  · simp
  · simp [own_has, Int32.and_comm]
theorem own_b0 (c m : Int32) : own_b c &&& m = 0 ↔ own_r9 c m = false := by
  simp only [own_b, own_or0, own_if0, own_r0, own_r1, own_r2, own_r3, own_r4, own_r5, own_r6, own_r7, own_r8, own_r9, Bool.or_eq_false_iff, Bool.false_or, and_assoc]
theorem own_far (c : Int32) (h : ¬ c < 128) (m : Int32) : own_r9 c m = false := by
  rw [Int32.lt_iff_toInt_lt] at h
  have e : (128 : Int32).toInt = 128 := rfl
  have g : ∀ b : Int32, b.toInt < 128 → b < c := fun b hb => by rw [Int32.lt_iff_toInt_lt]; omega
  have n : ∀ b : Int32, b.toInt < 128 → decide (c = b) = false := fun b hb => by
    have := g b hb
    simp only [decide_eq_false_iff_not]; rintro rfl; exact Int32.lt_irrefl this
  have r : ∀ a b : Int32, b.toInt < 128 → own_rng c a b = false := fun a b hb => by simp [own_rng, g b hb]
  have h1 : own_lower c = false := r _ _ (by decide)
  have h2 : own_upper c = false := r _ _ (by decide)
  have h3 : own_digit c = false := r _ _ (by decide)
  have h4 : own_alpha c = false := by simp only [own_alpha, h1, h2]; rfl
  have h5 : own_hex c = false := by simp only [own_hex, h3, r 97 102 (by decide), r 65 70 (by decide)]; rfl
  have h6 : own_scheme c = false := by simp only [own_scheme, h3, h4, n 43 (by decide), n 45 (by decide), n 46 (by decide)]; rfl
  have h7 : own_unres c = false := by simp only [own_unres, h3, h4, n 45 (by decide), n 46 (by decide), n 95 (by decide), n 126 (by decide)]; rfl
  have h8 : own_sub c = false := by simp only [own_sub, n 33 (by decide), n 36 (by decide), n 38 (by decide), n 39 (by decide), n 40 (by decide), n 41 (by decide), n 42 (by decide), n 43 (by decide), n 44 (by decide), n 59 (by decide), n 61 (by decide)]; rfl
  have h9 : own_colon c = false := n 58 (by decide)
  have h10 : own_at c = false := n 64 (by decide)
  have h11 : own_slash c = false := n 47 (by decide)
  have h12 : own_quest c = false := n 63 (by decide)
  simp [own_r0, own_r1, own_r2, own_r3, own_r4, own_r5, own_r6, own_r7, own_r8, own_r9, h3, h4, h5, h6, h7, h8, h9, h10, h11, h12]
theorem own_plain (c m : Int32) (hc : ¬ c < 0) : own_in c m = own_bi (own_r9 c m) := by
  unfold own_in
  by_cases h : c < 128
  · rw [if_neg (by simpa using h)]
    have hlt := own_clamp hc h
    have e : Int32.ofNat c.toNatClampNeg = c := (back32 hc).1
    have q := own_tab_b ⟨c.toNatClampNeg, hlt⟩
    simp only [e] at q
    rw [q]
    by_cases z : own_b c &&& m = 0
    · rw [if_pos z, (own_b0 c m).mp z]; rfl
    · rw [if_neg z]
      cases r : own_r9 c m
      · exact absurd ((own_b0 c m).mpr r) z
      · rfl
  · rw [if_pos h, own_far c h m]; rfl
theorem own_i2c_nn (x : Int32) : ¬ x.toUInt32.toUInt16.toUInt32.toInt32 < 0 := by
  rw [XT.neg32]
  show ¬ (x.toUInt32.toUInt16.toUInt32).toBitVec.msb = true
  simp [BitVec.msb_eq_decide]
  have := x.toUInt32.toUInt16.toNat_lt
  omega
theorem con_law (l : Launch) (Z : State) (b0 : Array Value) (hw : ∀ d ∈ tables_1, d.before b0 Z = true) (x0 x1 : Int32) (ta : Addr) (cl : Cell) (S0 : Sta Z Z.heap "com/example/strict_uri/stricturi/CharClass" "TABLE" "[I" (.ref ta)) (A : Arr Z Z.heap ta cl .int) (hs : cl.slots.size = 128) (hv : ∀ i, i < 128 → cl.slots[i]? = some (.int (own_tab i))) : Con l Z x code maxLocals ret room_1 #[(.int x0), (.int x1)] Z.heap [] (QV fun w h => w = .int 1) := by
  refine Con.of (plainFor_of_name pn0) (own_ext_refl _) ⟨b0, EW.nil⟩ all0 (L0 := #[.val (.int x0), .val (.int x1), .unset, .unset]) (fun m => by first | (simp [entryFrame, mkF, argsToLocals, Value.category, maxLocals]; done) | rfl) ?_
  intro p e s m args below meth c T W
  refine o_iloadN 1 W at_0 rfl ?_
  refine o_ldcI 3 W (tw hw 0) at_1 ?_
  refine o_iand 4 W at_3 ?_
  refine o_i2c 5 W at_4 ?_
  refine o_istoreN 6 W #[.val (.int x0), .val (.int x1), .val (.int ((x0 &&& (65535 : Int32)).toUInt32.toUInt16.toUInt32.toInt32)), .unset] at_5 rfl ?_
  have hc := own_i2c_nn (x0 &&& (65535 : Int32))
  generalize ((x0 &&& (65535 : Int32)).toUInt32.toUInt16.toUInt32.toInt32) = ch at hc ⊢
  show Go p e below _ _ (mkF m 6 #[.val (.int x0), .val (.int x1), .val (.int ch), .unset] [])
  refine o_iloadN 7 W at_6 rfl ?_
  refine o_iloadN 8 W at_7 rfl ?_
  refine o_static 11 [(.int ch), (.int x1)] W (tw hw 1) (tw hw 2) (tw hw 3) (tw hw 4) (con_ref l Z b0 hw _ _ _ W.old) pd1 at_8 rfl all0 (fun T h v W qq gg => ?_)
  obtain ⟨_, rfl, rfl, rfl⟩ := qq
  show Go p e below _ _ (mkF m 11 #[.val (.int x0), .val (.int x1), .val (.int ch), .unset] [(.int (own_bi (own_r9 ch x1)))])
  refine o_istoreN 12 W #[.val (.int x0), .val (.int x1), .val (.int ch), .val (.int (own_bi (own_r9 ch x1)))] at_11 rfl ?_
  refine o_iloadN 13 W at_12 rfl ?_
  refine o_iloadN 14 W at_13 rfl ?_
  refine o_static 17 [(.int ch), (.int x1)] W (tw hw 5) (tw hw 6) (tw hw 7) (tw hw 8) (con_in l Z b0 hw _ _ ta cl S0 A hs hv hc _ W.old) pd1 at_14 rfl all0 (fun T h v W qq gg => ?_)
  obtain ⟨_, rfl, rfl, rfl⟩ := qq
  show Go p e below _ _ (mkF m 17 #[.val (.int x0), .val (.int x1), .val (.int ch), .val (.int (own_bi (own_r9 ch x1)))] [(.int (own_in ch x1))])
  refine o_iloadN 18 W at_17 rfl ?_
  refine o_icN 21 W at_18 (XT.ii_ne_f (own_plain ch x1 hc)) ?_
  refine o_iconst 22 W (1) at_21 (by first | rfl | decide) ?_
  refine o_goto 26 W at_22 ?_
  exact o_nret W (1 : Int32) (by simp) (by decide) at_26 (rfl)
theorem own_foldl (f : Nat → Option Bool) : ∀ (L : List Nat) (acc : Option Bool), L.foldl (fun acc i => match acc with | some true => f i | x => x) acc = some true → acc = some true ∧ ∀ i ∈ L, f i = some true
  | [], acc, h => ⟨h, fun i hi => nomatch hi⟩
  | a :: L, acc, h => by
    obtain ⟨h1, h2⟩ := own_foldl f L _ h
    have q : acc = some true := by
      cases acc with
      | none => simp at h1
      | some b => cases b <;> simp at h1 ⊢
    subst q
    exact ⟨rfl, fun i hi => (List.mem_cons.mp hi).elim (fun e => e ▸ h1) (h2 i)⟩
theorem own_all {Z : State} {args : Array Value} {t : Jvm.Term} {c : Jvm.Cond} {a : Addr} {cell : Cell} (ev : t.eval args Z none [] Z = some (.ref a)) (ha : Z.arrayAt? a = some cell) (hx : (Jvm.Cond.all t c).value args Z none Z [] = some true) : ∀ i, i < cell.slots.size → c.value args Z none Z [i] = some true := fun i hi => by
  simp only [Jvm.Cond.value, ev, ha] at hx
  exact (own_foldl _ _ _ hx).2 i (List.mem_range.mpr hi)
theorem own_or {args : Array Value} {Z : State} {idx : List Nat} {a b : Jvm.Cond} (h : (Jvm.Cond.or a b).value args Z none Z idx = some true) : a.value args Z none Z idx = some true ∨ b.value args Z none Z idx = some true := by
  simp only [Jvm.Cond.value] at h
  cases ha : a.value args Z none Z idx with
  | none => simp [ha] at h
  | some r => cases r <;> simp [ha] at h ⊢; exact h
theorem own_nat (i : Nat) (h : i < 128) : i.toInt32.toInt = i := by
  have : ∀ n : Fin 128, (n.val.toInt32).toInt = n.val := by decide +kernel
  exact this ⟨i, h⟩
theorem own_cl (i : Nat) (h : i < 128) : ¬ i.toInt32 < 0 ∧ i.toInt32.toNatClampNeg = i := by
  have : ∀ n : Fin 128, ¬ n.val.toInt32 < 0 ∧ n.val.toInt32.toNatClampNeg = n.val := by decide +kernel
  exact this ⟨i, h⟩
theorem own_el {Z : State} {args : Array Value} {C n d : String} {a : Addr} {cell : Cell} {u : Jvm.Term} {j v : Int32} {idx : List Nat} (ev : (Jvm.Term.static C n d).eval args Z none [] Z = some (.ref a)) (ha : Z.arrayAt? a = some cell) (eu : u.eval args Z none idx Z = some (.int j)) (hj : ¬ j < 0) (hx : (Jvm.Cond.eq (Jvm.Term.elem (Jvm.Term.static C n d) u) (Jvm.Term.int v)).value args Z none Z idx = some true) : cell.slots[j.toNatClampNeg]? = some (.int v) := by
  have ev' : (Jvm.Term.static C n d).eval args Z none idx Z = some (.ref a) := ev
  obtain ⟨x, y, e1, e2, k1, k2⟩ := cmp_v (Or.inl hx)
  cases (Jvm.Term.int_eval v).symm.trans e2
  obtain ⟨z, rfl⟩ := k2
  have e3 : (Jvm.Term.elem (Jvm.Term.static C n d) u).eval args Z none idx Z = cell.slots[j.toNatClampNeg]? := by
    rw [Jvm.Term.eval]
    simp only [ev', eu, ha, hj, Option.bind_eq_bind, Option.bind_some, if_false]
  simp [Jvm.Cond.value, e1, Jvm.Term.int_eval] at hx
  rw [← e3, e1, hx]
theorem own_nb (n : Nat) (h : n < 2 ^ 31) : n.toInt32.toNatClampNeg = n := Int32.toNatClampNeg_ofNat_of_lt h
theorem own_lt {Z : State} {args : Array Value} {i : Nat} {k : Int32} (h : (Jvm.Cond.lt (Jvm.Term.index 0) (Jvm.Term.int k)).value args Z none Z [i] = some true) : i.toInt32 < k := by
  simpa [Jvm.Cond.value, Jvm.Term.eval] using h
theorem own_le {Z : State} {args : Array Value} {i : Nat} {k : Int32} (h : (Jvm.Cond.le (Jvm.Term.int k) (Jvm.Term.index 0)).value args Z none Z [i] = some true) : k ≤ i.toInt32 := by
  simpa [Jvm.Cond.value, Jvm.Term.eval] using h
theorem own_len {Z : State} {args : Array Value} {t : Jvm.Term} {a : Addr} {cell : Cell} (ev : t.eval args Z none [] Z = some (.ref a)) (ha : Z.arrayAt? a = some cell) (hx : (Jvm.Cond.eq (Jvm.Term.length t) (Jvm.Term.int 128)).value args Z none Z [] = some true) : cell.slots.size = 128 := by
  obtain ⟨x, y, e1, e2, -, -⟩ := cmp_v (Or.inl hx)
  have e3 := e1
  simp only [Jvm.Term.eval, ev, ha, Option.bind_eq_bind, Option.bind_some] at e3
  split at e3
  · rename_i hb
    cases e3
    simp [Jvm.Cond.value, e1, Jvm.Term.int_eval] at hx
    have h1 := idx_in (i := cell.slots.size) (n := cell.slots.size + 1) (Nat.lt_succ_self _)
    have h2 : cell.slots.size.toInt32.toNatClampNeg = cell.slots.size := own_nb _ hb
    rw [hx] at h2
    exact h2.symm
  · cases e3
set_option maxRecDepth 65536 in
set_option maxHeartbeats 40000000 in
theorem comes_1 {Post : Tables → Env → Array Value → State → Outcome → State → Prop} (hpost : ∀ tb e args s v u, (limb_1_1.after args s (.returned v) u = true ∧ limb_1_2.after args s (.returned v) u = true ∧ True) → FrameEnd s (.returned v) u (Jvm.fieldLocs frame_1_writes args s ++ Jvm.arrayLocs frame_1_arrays args s ++ Jvm.staticLocs frame_1_statics s) 0 0 → Post tb e args s (.returned v) u) :
    ArmFor flags0 classFile x code maxLocals ret World_1 tables_1 room_1 Calls_1 rest_1 Pre_1 Post := by
  intro l hfl _ _ p e ha hc hk s m args below hf hA hF happ hP
  obtain ⟨hcalls, hrest, hpre⟩ := hP
  obtain ⟨-, -, -, hnamed, -, -, -, hat⟩ := (Spec.applies_iff hf).mp happ
  obtain ⟨hg, hn⟩ := and_e (Cond.before_iff.mp (show (Jvm.Cond.and given_1 narrow_1).before args s = true from hpre))
  obtain ⟨hg0, hg⟩ := and_e hg
  obtain ⟨w0, w1, rfl⟩ : ∃ w0 w1 : Value, args = #[w0, w1] := by
    have hs : args.size = 2 := by simpa [Cond.value, given_1] using hg0
    obtain ⟨L⟩ := args
    match L, hs with
    | [w0, w1], _ => exact ⟨w0, w1, rfl⟩
  have hw := fun d (hd : d ∈ tables_1) => atoms_spec (ws := Jvm.Cond.code x code maxLocals ret :: tables_1) hat d (List.mem_cons_of_mem _ hd)
  have hfit : Fit s := fun {y c} hc i hi => by
    obtain ⟨ha, rfl⟩ := Array.getElem?_eq_some_iff.mp hc
    have q := List.all_eq_true.mp ((Array.all_eq_true_iff_forall_mem.mp hF) _ (Array.getElem_mem ha)) i (List.mem_range.mpr hi)
    simpa [Array.getElem?_eq_getElem hi] using q
  obtain ⟨hg1, hg⟩ := and_e hg
  obtain ⟨p0, e0⟩ := is_v hg1
  obtain rfl : w0 = (.int p0) := Option.some.inj e0
  have hg2 := hg
  obtain ⟨p1, e1⟩ := is_v hg2
  obtain rfl : w1 = (.int p1) := Option.some.inj e1
  obtain ⟨hA, hn⟩ := and_e hn
  obtain ⟨hL, hn⟩ := and_e hn
  obtain ⟨q0, hn⟩ := and_e hn
  obtain ⟨q1, hn⟩ := and_e hn
  obtain ⟨q2, hn⟩ := and_e hn
  obtain ⟨q3, hn⟩ := and_e hn
  obtain ⟨q4, hn⟩ := and_e hn
  obtain ⟨q5, hn⟩ := and_e hn
  obtain ⟨q6, hn⟩ := and_e hn
  obtain ⟨q7, hn⟩ := and_e hn
  obtain ⟨q8, hn⟩ := and_e hn
  obtain ⟨q9, hn⟩ := and_e hn
  obtain ⟨q10, hn⟩ := and_e hn
  obtain ⟨q11, hn⟩ := and_e hn
  obtain ⟨q12, hn⟩ := and_e hn
  obtain ⟨q13, hn⟩ := and_e hn
  obtain ⟨q14, hn⟩ := and_e hn
  obtain ⟨q15, hn⟩ := and_e hn
  obtain ⟨q16, hn⟩ := and_e hn
  obtain ⟨q17, hn⟩ := and_e hn
  obtain ⟨q18, hn⟩ := and_e hn
  obtain ⟨q19, hn⟩ := and_e hn
  obtain ⟨q20, hn⟩ := and_e hn
  obtain ⟨q21, hn⟩ := and_e hn
  obtain ⟨q22, hn⟩ := and_e hn
  obtain ⟨q23, hn⟩ := and_e hn
  obtain ⟨q24, hn⟩ := and_e hn
  obtain ⟨q25, hn⟩ := and_e hn
  obtain ⟨q26, hn⟩ := and_e hn
  obtain ⟨q27, hn⟩ := and_e hn
  obtain ⟨q28, hn⟩ := and_e hn
  obtain ⟨q29, hn⟩ := and_e hn
  obtain ⟨q30, hn⟩ := and_e hn
  have q31 := hn
  obtain ⟨tv, ev0, hfv⟩ := static_fit hfit (tw hw 10) (ty := .array .int) (by decide)
  obtain ⟨ta, rfl⟩ : ∃ ta, tv = .ref ta := by
    rcases ref_cases (fit_R hfv rfl) with rfl | q
    · simp [Jvm.Cond.value, ev0] at hA
    · exact q
  have ev : (Jvm.Term.static "com/example/strict_uri/stricturi/CharClass" "TABLE" "[I").eval #[.int p0, .int p1] s none [] s = some (.ref ta) := ev0
  obtain ⟨cl, A⟩ := Arr.start ev hA
  have ha2 : s.arrayAt? ta = some cl := A.fin (Vm.Alike.refl _)
  have S0 := Sta.start (args := #[.int p0, .int p1]) ev (Or.inr ⟨(tw hw 7), (tw hw 10)⟩)
  have hs : cl.slots.size = 128 := own_len ev ha2 hL
  have hv : ∀ i, i < 128 → cl.slots[i]? = some (.int (own_tab i)) := by
    intro i hi
    have hc := own_cl i hi
    have hi2 := own_nat i hi
    by_cases c0 : i < 33
    · have et : own_tab i = 0 := by simp [own_tab, c0]
      rw [et]
      have z := own_all ev ha2 q0 i (by omega)
      rcases own_or z with z | z
      · exact absurd (own_le z) (by simp [Int32.le_iff_toInt_le, hi2]; omega)
      have z2 := own_el (u := Jvm.Term.index 0) (j := i.toInt32) ev ha2 rfl hc.1 z
      rw [hc.2] at z2; exact z2
    by_cases c1 : i < 34
    · have et : own_tab i = 32 := by simp [own_tab, c0, c1]
      rw [et]
      obtain rfl : i = 33 := by omega
      exact own_el (u := Jvm.Term.int 33) (j := 33) ev ha2 (Jvm.Term.int_eval _) (by decide) q1
    by_cases c2 : i < 35
    · have et : own_tab i = 0 := by simp [own_tab, c0, c1, c2]
      rw [et]
      obtain rfl : i = 34 := by omega
      exact own_el (u := Jvm.Term.int 34) (j := 34) ev ha2 (Jvm.Term.int_eval _) (by decide) q2
    by_cases c3 : i < 36
    · have et : own_tab i = 0 := by simp [own_tab, c0, c1, c2, c3]
      rw [et]
      obtain rfl : i = 35 := by omega
      exact own_el (u := Jvm.Term.int 35) (j := 35) ev ha2 (Jvm.Term.int_eval _) (by decide) q3
    by_cases c4 : i < 37
    · have et : own_tab i = 32 := by simp [own_tab, c0, c1, c2, c3, c4]
      rw [et]
      obtain rfl : i = 36 := by omega
      exact own_el (u := Jvm.Term.int 36) (j := 36) ev ha2 (Jvm.Term.int_eval _) (by decide) q4
    by_cases c5 : i < 38
    · have et : own_tab i = 0 := by simp [own_tab, c0, c1, c2, c3, c4, c5]
      rw [et]
      obtain rfl : i = 37 := by omega
      exact own_el (u := Jvm.Term.int 37) (j := 37) ev ha2 (Jvm.Term.int_eval _) (by decide) q5
    by_cases c6 : i < 43
    · have et : own_tab i = 32 := by simp [own_tab, c0, c1, c2, c3, c4, c5, c6]
      rw [et]
      have z := own_all ev ha2 q6 i (by omega)
      rcases own_or z with z | z
      · exact absurd (own_lt z) (by simp [Int32.lt_iff_toInt_lt, hi2]; omega)
      rcases own_or z with z | z
      · exact absurd (own_le z) (by simp [Int32.le_iff_toInt_le, hi2]; omega)
      have z2 := own_el (u := Jvm.Term.index 0) (j := i.toInt32) ev ha2 rfl hc.1 z
      rw [hc.2] at z2; exact z2
    by_cases c7 : i < 44
    · have et : own_tab i = 40 := by simp [own_tab, c0, c1, c2, c3, c4, c5, c6, c7]
      rw [et]
      obtain rfl : i = 43 := by omega
      exact own_el (u := Jvm.Term.int 43) (j := 43) ev ha2 (Jvm.Term.int_eval _) (by decide) q7
    by_cases c8 : i < 45
    · have et : own_tab i = 32 := by simp [own_tab, c0, c1, c2, c3, c4, c5, c6, c7, c8]
      rw [et]
      obtain rfl : i = 44 := by omega
      exact own_el (u := Jvm.Term.int 44) (j := 44) ev ha2 (Jvm.Term.int_eval _) (by decide) q8
    by_cases c9 : i < 46
    · have et : own_tab i = 24 := by simp [own_tab, c0, c1, c2, c3, c4, c5, c6, c7, c8, c9]
      rw [et]
      obtain rfl : i = 45 := by omega
      exact own_el (u := Jvm.Term.int 45) (j := 45) ev ha2 (Jvm.Term.int_eval _) (by decide) q9
    by_cases c10 : i < 47
    · have et : own_tab i = 24 := by simp [own_tab, c0, c1, c2, c3, c4, c5, c6, c7, c8, c9, c10]
      rw [et]
      obtain rfl : i = 46 := by omega
      exact own_el (u := Jvm.Term.int 46) (j := 46) ev ha2 (Jvm.Term.int_eval _) (by decide) q10
    by_cases c11 : i < 48
    · have et : own_tab i = 256 := by simp [own_tab, c0, c1, c2, c3, c4, c5, c6, c7, c8, c9, c10, c11]
      rw [et]
      obtain rfl : i = 47 := by omega
      exact own_el (u := Jvm.Term.int 47) (j := 47) ev ha2 (Jvm.Term.int_eval _) (by decide) q11
    by_cases c12 : i < 58
    · have et : own_tab i = 30 := by simp [own_tab, c0, c1, c2, c3, c4, c5, c6, c7, c8, c9, c10, c11, c12]
      rw [et]
      have z := own_all ev ha2 q12 i (by omega)
      rcases own_or z with z | z
      · exact absurd (own_lt z) (by simp [Int32.lt_iff_toInt_lt, hi2]; omega)
      rcases own_or z with z | z
      · exact absurd (own_le z) (by simp [Int32.le_iff_toInt_le, hi2]; omega)
      have z2 := own_el (u := Jvm.Term.index 0) (j := i.toInt32) ev ha2 rfl hc.1 z
      rw [hc.2] at z2; exact z2
    by_cases c13 : i < 59
    · have et : own_tab i = 64 := by simp [own_tab, c0, c1, c2, c3, c4, c5, c6, c7, c8, c9, c10, c11, c12, c13]
      rw [et]
      obtain rfl : i = 58 := by omega
      exact own_el (u := Jvm.Term.int 58) (j := 58) ev ha2 (Jvm.Term.int_eval _) (by decide) q13
    by_cases c14 : i < 60
    · have et : own_tab i = 32 := by simp [own_tab, c0, c1, c2, c3, c4, c5, c6, c7, c8, c9, c10, c11, c12, c13, c14]
      rw [et]
      obtain rfl : i = 59 := by omega
      exact own_el (u := Jvm.Term.int 59) (j := 59) ev ha2 (Jvm.Term.int_eval _) (by decide) q14
    by_cases c15 : i < 61
    · have et : own_tab i = 0 := by simp [own_tab, c0, c1, c2, c3, c4, c5, c6, c7, c8, c9, c10, c11, c12, c13, c14, c15]
      rw [et]
      obtain rfl : i = 60 := by omega
      exact own_el (u := Jvm.Term.int 60) (j := 60) ev ha2 (Jvm.Term.int_eval _) (by decide) q15
    by_cases c16 : i < 62
    · have et : own_tab i = 32 := by simp [own_tab, c0, c1, c2, c3, c4, c5, c6, c7, c8, c9, c10, c11, c12, c13, c14, c15, c16]
      rw [et]
      obtain rfl : i = 61 := by omega
      exact own_el (u := Jvm.Term.int 61) (j := 61) ev ha2 (Jvm.Term.int_eval _) (by decide) q16
    by_cases c17 : i < 63
    · have et : own_tab i = 0 := by simp [own_tab, c0, c1, c2, c3, c4, c5, c6, c7, c8, c9, c10, c11, c12, c13, c14, c15, c16, c17]
      rw [et]
      obtain rfl : i = 62 := by omega
      exact own_el (u := Jvm.Term.int 62) (j := 62) ev ha2 (Jvm.Term.int_eval _) (by decide) q17
    by_cases c18 : i < 64
    · have et : own_tab i = 512 := by simp [own_tab, c0, c1, c2, c3, c4, c5, c6, c7, c8, c9, c10, c11, c12, c13, c14, c15, c16, c17, c18]
      rw [et]
      obtain rfl : i = 63 := by omega
      exact own_el (u := Jvm.Term.int 63) (j := 63) ev ha2 (Jvm.Term.int_eval _) (by decide) q18
    by_cases c19 : i < 65
    · have et : own_tab i = 128 := by simp [own_tab, c0, c1, c2, c3, c4, c5, c6, c7, c8, c9, c10, c11, c12, c13, c14, c15, c16, c17, c18, c19]
      rw [et]
      obtain rfl : i = 64 := by omega
      exact own_el (u := Jvm.Term.int 64) (j := 64) ev ha2 (Jvm.Term.int_eval _) (by decide) q19
    by_cases c20 : i < 71
    · have et : own_tab i = 29 := by simp [own_tab, c0, c1, c2, c3, c4, c5, c6, c7, c8, c9, c10, c11, c12, c13, c14, c15, c16, c17, c18, c19, c20]
      rw [et]
      have z := own_all ev ha2 q20 i (by omega)
      rcases own_or z with z | z
      · exact absurd (own_lt z) (by simp [Int32.lt_iff_toInt_lt, hi2]; omega)
      rcases own_or z with z | z
      · exact absurd (own_le z) (by simp [Int32.le_iff_toInt_le, hi2]; omega)
      have z2 := own_el (u := Jvm.Term.index 0) (j := i.toInt32) ev ha2 rfl hc.1 z
      rw [hc.2] at z2; exact z2
    by_cases c21 : i < 91
    · have et : own_tab i = 25 := by simp [own_tab, c0, c1, c2, c3, c4, c5, c6, c7, c8, c9, c10, c11, c12, c13, c14, c15, c16, c17, c18, c19, c20, c21]
      rw [et]
      have z := own_all ev ha2 q21 i (by omega)
      rcases own_or z with z | z
      · exact absurd (own_lt z) (by simp [Int32.lt_iff_toInt_lt, hi2]; omega)
      rcases own_or z with z | z
      · exact absurd (own_le z) (by simp [Int32.le_iff_toInt_le, hi2]; omega)
      have z2 := own_el (u := Jvm.Term.index 0) (j := i.toInt32) ev ha2 rfl hc.1 z
      rw [hc.2] at z2; exact z2
    by_cases c22 : i < 95
    · have et : own_tab i = 0 := by simp [own_tab, c0, c1, c2, c3, c4, c5, c6, c7, c8, c9, c10, c11, c12, c13, c14, c15, c16, c17, c18, c19, c20, c21, c22]
      rw [et]
      have z := own_all ev ha2 q22 i (by omega)
      rcases own_or z with z | z
      · exact absurd (own_lt z) (by simp [Int32.lt_iff_toInt_lt, hi2]; omega)
      rcases own_or z with z | z
      · exact absurd (own_le z) (by simp [Int32.le_iff_toInt_le, hi2]; omega)
      have z2 := own_el (u := Jvm.Term.index 0) (j := i.toInt32) ev ha2 rfl hc.1 z
      rw [hc.2] at z2; exact z2
    by_cases c23 : i < 96
    · have et : own_tab i = 16 := by simp [own_tab, c0, c1, c2, c3, c4, c5, c6, c7, c8, c9, c10, c11, c12, c13, c14, c15, c16, c17, c18, c19, c20, c21, c22, c23]
      rw [et]
      obtain rfl : i = 95 := by omega
      exact own_el (u := Jvm.Term.int 95) (j := 95) ev ha2 (Jvm.Term.int_eval _) (by decide) q23
    by_cases c24 : i < 97
    · have et : own_tab i = 0 := by simp [own_tab, c0, c1, c2, c3, c4, c5, c6, c7, c8, c9, c10, c11, c12, c13, c14, c15, c16, c17, c18, c19, c20, c21, c22, c23, c24]
      rw [et]
      obtain rfl : i = 96 := by omega
      exact own_el (u := Jvm.Term.int 96) (j := 96) ev ha2 (Jvm.Term.int_eval _) (by decide) q24
    by_cases c25 : i < 103
    · have et : own_tab i = 29 := by simp [own_tab, c0, c1, c2, c3, c4, c5, c6, c7, c8, c9, c10, c11, c12, c13, c14, c15, c16, c17, c18, c19, c20, c21, c22, c23, c24, c25]
      rw [et]
      have z := own_all ev ha2 q25 i (by omega)
      rcases own_or z with z | z
      · exact absurd (own_lt z) (by simp [Int32.lt_iff_toInt_lt, hi2]; omega)
      rcases own_or z with z | z
      · exact absurd (own_le z) (by simp [Int32.le_iff_toInt_le, hi2]; omega)
      have z2 := own_el (u := Jvm.Term.index 0) (j := i.toInt32) ev ha2 rfl hc.1 z
      rw [hc.2] at z2; exact z2
    by_cases c26 : i < 123
    · have et : own_tab i = 25 := by simp [own_tab, c0, c1, c2, c3, c4, c5, c6, c7, c8, c9, c10, c11, c12, c13, c14, c15, c16, c17, c18, c19, c20, c21, c22, c23, c24, c25, c26]
      rw [et]
      have z := own_all ev ha2 q26 i (by omega)
      rcases own_or z with z | z
      · exact absurd (own_lt z) (by simp [Int32.lt_iff_toInt_lt, hi2]; omega)
      rcases own_or z with z | z
      · exact absurd (own_le z) (by simp [Int32.le_iff_toInt_le, hi2]; omega)
      have z2 := own_el (u := Jvm.Term.index 0) (j := i.toInt32) ev ha2 rfl hc.1 z
      rw [hc.2] at z2; exact z2
    by_cases c27 : i < 124
    · have et : own_tab i = 0 := by simp [own_tab, c0, c1, c2, c3, c4, c5, c6, c7, c8, c9, c10, c11, c12, c13, c14, c15, c16, c17, c18, c19, c20, c21, c22, c23, c24, c25, c26, c27]
      rw [et]
      obtain rfl : i = 123 := by omega
      exact own_el (u := Jvm.Term.int 123) (j := 123) ev ha2 (Jvm.Term.int_eval _) (by decide) q27
    by_cases c28 : i < 125
    · have et : own_tab i = 0 := by simp [own_tab, c0, c1, c2, c3, c4, c5, c6, c7, c8, c9, c10, c11, c12, c13, c14, c15, c16, c17, c18, c19, c20, c21, c22, c23, c24, c25, c26, c27, c28]
      rw [et]
      obtain rfl : i = 124 := by omega
      exact own_el (u := Jvm.Term.int 124) (j := 124) ev ha2 (Jvm.Term.int_eval _) (by decide) q28
    by_cases c29 : i < 126
    · have et : own_tab i = 0 := by simp [own_tab, c0, c1, c2, c3, c4, c5, c6, c7, c8, c9, c10, c11, c12, c13, c14, c15, c16, c17, c18, c19, c20, c21, c22, c23, c24, c25, c26, c27, c28, c29]
      rw [et]
      obtain rfl : i = 125 := by omega
      exact own_el (u := Jvm.Term.int 125) (j := 125) ev ha2 (Jvm.Term.int_eval _) (by decide) q29
    by_cases c30 : i < 127
    · have et : own_tab i = 16 := by simp [own_tab, c0, c1, c2, c3, c4, c5, c6, c7, c8, c9, c10, c11, c12, c13, c14, c15, c16, c17, c18, c19, c20, c21, c22, c23, c24, c25, c26, c27, c28, c29, c30]
      rw [et]
      obtain rfl : i = 126 := by omega
      exact own_el (u := Jvm.Term.int 126) (j := 126) ev ha2 (Jvm.Term.int_eval _) (by decide) q30
    by_cases c31 : i < 128
    · have et : own_tab i = 0 := by simp [own_tab, c0, c1, c2, c3, c4, c5, c6, c7, c8, c9, c10, c11, c12, c13, c14, c15, c16, c17, c18, c19, c20, c21, c22, c23, c24, c25, c26, c27, c28, c29, c30, c31]
      rw [et]
      obtain rfl : i = 127 := by omega
      exact own_el (u := Jvm.Term.int 127) (j := 127) ev ha2 (Jvm.Term.int_eval _) (by decide) q31
    omega
  have R := con_law l s _ hw p0 p1 ta cl S0 A hs hv
  have HCH : CHv s own_EL s.vm s.heap := fun p hp => by cases hp
  obtain ⟨n, o, h1, h2, h3, _, Lc, rfl, ⟨_, rfl, rfl⟩, N, hCH, hEx, hNr, hq⟩ := R tables_1 p e ha hc hk s m _ below hf ((Spec.applies_iff_loose hf).mp happ).1 ⟨rfl, State.Warmed39.refl s, rfl, HCH, all0⟩ trivial
  refine ⟨n, _, h1, h2, h3, hpost _ _ _ _ _ _ ⟨Cond.after_iff.mpr rfl, Cond.after_iff.mpr (eq_i res_at (Term.int_eval (1)) rfl), trivial⟩ ⟨hq.1, hNr trivial, (hq.2.2.2.sift fun y hy => Or.inr (N y hy)).mono (by decide) (by decide)⟩⟩
theorem main_1_1 : Claimed_1_1 := comes_1 fun _ _ _ _ _ _ h hF => ⟨h.1, hF⟩
theorem main_1_2 : Claimed_1_2 := comes_1 fun _ _ _ _ _ _ h hF => ⟨h.2.1, hF⟩
end Jvm.Pilot.@@N@@
namespace Jvm.Pilot.@@N@@
open Jvm Jvm.ClassFile Sem Op Lib Jvm.Free Jvm.Stand Jvm.Pilot.@@N@@.Jvm.D
/-! MADE BY PROGRAM (witnessworld.py) out of the Statement's table words and the real class files: 9 classes; the members and pool entries that the words name. The judged class is class 1, her method 1. -/
namespace start1
open Jvm.ClassFile
def u (s : String) : CpInfo := .utf8 (stringToUtf16 s)
/-- a pool by its gaps: so many unusable entries, then the entry; so many at the end -/
def gap : Nat → List CpInfo → List CpInfo
  | 0, r => r
  | n + 1, r => .unusable :: gap n r
def poolList (es : List (Nat × CpInfo)) (last : Nat) : List CpInfo := es.foldr (fun e r => gap e.1 (e.2 :: r)) (gap last [])
def pool (es : List (Nat × CpInfo)) (last : Nat) : Array CpInfo := ⟨poolList es last⟩
def fileOf (pool : Array CpInfo) (this : Nat) (attrs : Array Attribute := #[]) (ms : Array MethodInfo := #[]) (fl : Nat := 33) (sup : Nat := 0) (ifs : Array Nat := #[]) (fds : Array FieldInfo := #[]) : ClassFile where
  minorVersion := 0
  majorVersion := 65
  constantPool := pool
  accessFlags := fl
  thisClass := this
  superClass := sup
  interfaces := ifs
  fields := fds
  methods := ms
  attributes := attrs
def plain (name : String) (sup : Option ClassId) : Class where
  name := name
  kind := .ordinary
  loader := none
  accessFlags := 33
  super := sup
  interfaces := #[]
  cf := none
  fields := #[]
  methods := #[]
  instanceTypes := #[]
  staticTypes := #[]
  resolved := #[]
  callSites := []
  init := .initialized
  statics := none
  mirror := none

def pool0 : Array CpInfo := pool [(5, u "<init>"), (0, u "()V"), (1, .class_ 10), (1, u "java/lang/Object")] 113

def k0m0 : Method := { name := "<init>", desc := "()V", sig := { parameters := [], returnType := none }, accessFlags := 1, code := none }
/-- java/lang/Object -/
def k0 : Class := { plain "java/lang/Object" none with
  accessFlags := 33
  interfaces := #[]
  cf := some (fileOf pool0 8 #[] #[{ accessFlags := 1, nameIndex := 5, descriptorIndex := 6, attributes := #[] }] 33 0 #[] #[])
  fields := #[]
  methods := #[k0m0]
  instanceTypes := #[]
  staticTypes := #[]
  resolved := Array.replicate 124 none
  statics := none }

def pool1 : Array CpInfo := pool [(2, .class_ 4), (1, u "java/lang/Object"), (0, u "<init>"), (0, u "()V"), (0, .integer 65535), (0, .methodref 9 10), (0, .class_ 11), (0, .nameAndType 12 13), (0, u "com/example/strict_uri/stricturi/CharClassInPinLaw"), (0, u "reference"), (0, u "(CI)Z"), (0, .methodref 15 16), (0, .class_ 17), (0, .nameAndType 18 13), (0, u "com/example/strict_uri/stricturi/CharClass"), (0, u "in"), (0, .methodref 9 20), (0, .nameAndType 21 22), (0, u "has"), (0, u "(II)Z"), (2, u "law")] 3

def k1m0 : Method := { name := "<init>", desc := "()V", sig := { parameters := [], returnType := none }, accessFlags := 2, code := none }
def k1c1 : Code := { maxStack := 2, maxLocals := 4, code := code, exceptionTable := #[], attributes := #[] }
def k1m1 : Method := { name := "law", desc := "(II)Z", sig := { parameters := [.int, .int], returnType := some .boolean }, accessFlags := 9, code := some k1c1 }
def k1c2 : Code := { maxStack := 2, maxLocals := 2, code := method_3_code, exceptionTable := #[], attributes := #[] }
def k1m2 : Method := { name := "has", desc := "(II)Z", sig := { parameters := [.int, .int], returnType := some .boolean }, accessFlags := 10, code := some k1c2 }
def k1c3 : Code := { maxStack := 2, maxLocals := 15, code := method_4_code, exceptionTable := #[], attributes := #[] }
def k1m3 : Method := { name := "reference", desc := "(CI)Z", sig := { parameters := [.char, .int], returnType := some .boolean }, accessFlags := 10, code := some k1c3 }
/-- com/example/strict_uri/stricturi/CharClassInPinLaw -/
def k1 : Class := { plain "com/example/strict_uri/stricturi/CharClassInPinLaw" (some 0) with
  accessFlags := 49
  interfaces := #[]
  cf := some (fileOf pool1 9 #[] #[{ accessFlags := 2, nameIndex := 5, descriptorIndex := 6, attributes := #[] }, { accessFlags := 9, nameIndex := 25, descriptorIndex := 22, attributes := #[] }, { accessFlags := 10, nameIndex := 21, descriptorIndex := 22, attributes := #[] }, { accessFlags := 10, nameIndex := 12, descriptorIndex := 13, attributes := #[] }] 49 2 #[] #[])
  fields := #[]
  methods := #[k1m0, k1m1, k1m2, k1m3]
  instanceTypes := #[]
  staticTypes := #[]
  resolved := Array.replicate 29 none
  statics := none }

def pool2 : Array CpInfo := pool [(1, .class_ 2), (0, u "com/example/strict_uri/stricturi/CharClass"), (1, .class_ 6), (1, u "java/lang/Object"), (0, u "<init>"), (0, u "()V"), (0, .fieldref 1 10), (0, .nameAndType 11 12), (0, u "TABLE"), (0, u "[I"), (34, u "ALPHA"), (0, u "I"), (2, u "DIGIT"), (1, u "HEXDIG"), (1, u "SCHEME"), (1, u "UNRESERVED"), (1, u "SUB_DELIM"), (1, u "COLON"), (1, u "AT"), (1, u "SLASH"), (1, u "QUESTION"), (1, u "REG_NAME"), (1, u "USER_INFO"), (1, u "PCHAR"), (1, u "SEGMENT_NC"), (1, u "PATH"), (1, u "QUERY"), (1, u "QUERY_PARAMETER"), (1, u "IP_FUTURE"), (2, u "in"), (0, u "(CI)Z")] 4

def k2m0 : Method := { name := "<init>", desc := "()V", sig := { parameters := [], returnType := none }, accessFlags := 2, code := none }
def k2c1 : Code := { maxStack := 2, maxLocals := 2, code := prog_1_method_2_code, exceptionTable := #[], attributes := #[] }
def k2m1 : Method := { name := "in", desc := "(CI)Z", sig := { parameters := [.char, .int], returnType := some .boolean }, accessFlags := 8, code := some k2c1 }
/-- com/example/strict_uri/stricturi/CharClass -/
def k2 : Class := { plain "com/example/strict_uri/stricturi/CharClass" (some 0) with
  accessFlags := 48
  interfaces := #[]
  cf := some (fileOf pool2 1 #[] #[{ accessFlags := 2, nameIndex := 7, descriptorIndex := 8, attributes := #[] }, { accessFlags := 8, nameIndex := 86, descriptorIndex := 87, attributes := #[] }] 48 4 #[] #[{ accessFlags := 24, nameIndex := 47, descriptorIndex := 48, attributes := #[] }, { accessFlags := 24, nameIndex := 51, descriptorIndex := 48, attributes := #[] }, { accessFlags := 24, nameIndex := 53, descriptorIndex := 48, attributes := #[] }, { accessFlags := 24, nameIndex := 55, descriptorIndex := 48, attributes := #[] }, { accessFlags := 24, nameIndex := 57, descriptorIndex := 48, attributes := #[] }, { accessFlags := 24, nameIndex := 59, descriptorIndex := 48, attributes := #[] }, { accessFlags := 24, nameIndex := 61, descriptorIndex := 48, attributes := #[] }, { accessFlags := 24, nameIndex := 63, descriptorIndex := 48, attributes := #[] }, { accessFlags := 24, nameIndex := 65, descriptorIndex := 48, attributes := #[] }, { accessFlags := 24, nameIndex := 67, descriptorIndex := 48, attributes := #[] }, { accessFlags := 24, nameIndex := 69, descriptorIndex := 48, attributes := #[] }, { accessFlags := 24, nameIndex := 71, descriptorIndex := 48, attributes := #[] }, { accessFlags := 24, nameIndex := 73, descriptorIndex := 48, attributes := #[] }, { accessFlags := 24, nameIndex := 75, descriptorIndex := 48, attributes := #[] }, { accessFlags := 24, nameIndex := 77, descriptorIndex := 48, attributes := #[] }, { accessFlags := 24, nameIndex := 79, descriptorIndex := 48, attributes := #[] }, { accessFlags := 24, nameIndex := 81, descriptorIndex := 48, attributes := #[] }, { accessFlags := 24, nameIndex := 83, descriptorIndex := 48, attributes := #[] }, { accessFlags := 26, nameIndex := 11, descriptorIndex := 12, attributes := #[] }])
  fields := #[{ name := "ALPHA", type := .int, accessFlags := 24, slot := 0, constantValue := 0 }, { name := "DIGIT", type := .int, accessFlags := 24, slot := 1, constantValue := 0 }, { name := "HEXDIG", type := .int, accessFlags := 24, slot := 2, constantValue := 0 }, { name := "SCHEME", type := .int, accessFlags := 24, slot := 3, constantValue := 0 }, { name := "UNRESERVED", type := .int, accessFlags := 24, slot := 4, constantValue := 0 }, { name := "SUB_DELIM", type := .int, accessFlags := 24, slot := 5, constantValue := 0 }, { name := "COLON", type := .int, accessFlags := 24, slot := 6, constantValue := 0 }, { name := "AT", type := .int, accessFlags := 24, slot := 7, constantValue := 0 }, { name := "SLASH", type := .int, accessFlags := 24, slot := 8, constantValue := 0 }, { name := "QUESTION", type := .int, accessFlags := 24, slot := 9, constantValue := 0 }, { name := "REG_NAME", type := .int, accessFlags := 24, slot := 10, constantValue := 0 }, { name := "USER_INFO", type := .int, accessFlags := 24, slot := 11, constantValue := 0 }, { name := "PCHAR", type := .int, accessFlags := 24, slot := 12, constantValue := 0 }, { name := "SEGMENT_NC", type := .int, accessFlags := 24, slot := 13, constantValue := 0 }, { name := "PATH", type := .int, accessFlags := 24, slot := 14, constantValue := 0 }, { name := "QUERY", type := .int, accessFlags := 24, slot := 15, constantValue := 0 }, { name := "QUERY_PARAMETER", type := .int, accessFlags := 24, slot := 16, constantValue := 0 }, { name := "IP_FUTURE", type := .int, accessFlags := 24, slot := 17, constantValue := 0 }, { name := "TABLE", type := (.array .int), accessFlags := 26, slot := 18, constantValue := 0 }]
  methods := #[k2m0, k2m1]
  instanceTypes := #[]
  staticTypes := #[.int, .int, .int, .int, .int, .int, .int, .int, .int, .int, .int, .int, .int, .int, .int, .int, .int, .int, (.array .int)]
  resolved := Array.replicate 92 none
  statics := some 0 }

def pool3 : Array CpInfo := pool [(1, u "java/lang/Cloneable"), (0, .class_ 1), (0, u "java/lang/Object"), (0, .class_ 3)] 3

/-- java/lang/Cloneable -/
def k3 : Class := { plain "java/lang/Cloneable" (some 0) with
  accessFlags := 1537
  interfaces := #[]
  cf := some (fileOf pool3 2 #[] #[] 1537 4 #[] #[])
  fields := #[]
  methods := #[]
  instanceTypes := #[]
  staticTypes := #[]
  resolved := Array.replicate 8 none
  statics := none }

def pool4 : Array CpInfo := pool [(1, u "java/io/Serializable"), (0, .class_ 1), (0, u "java/lang/Object"), (0, .class_ 3)] 3

/-- java/io/Serializable -/
def k4 : Class := { plain "java/io/Serializable" (some 0) with
  accessFlags := 1537
  interfaces := #[]
  cf := some (fileOf pool4 2 #[] #[] 1537 4 #[] #[])
  fields := #[]
  methods := #[]
  instanceTypes := #[]
  staticTypes := #[]
  resolved := Array.replicate 8 none
  statics := none }

/-- the primitive byte -/
def k5 : Class := { plain "byte" none with kind := .primitive 'B', accessFlags := 0x411 }
/-- [B -/
def k6 : Class := { plain "[B" (some 0) with kind := .array 5 .byte, interfaces := #[3, 4], accessFlags := 1041 }

/-- the primitive int -/
def k7 : Class := { plain "int" none with kind := .primitive 'I', accessFlags := 0x411 }
/-- [I -/
def k8 : Class := { plain "[I" (some 0) with kind := .array 7 .int, interfaces := #[3, 4], accessFlags := 1041 }

def heap : Heap := #[{ cls := 2, slots := #[.int 0, .int 0, .int 0, .int 0, .int 0, .int 0, .int 0, .int 0, .int 0, .int 0, .int 0, .int 0, .int 0, .int 0, .int 0, .int 0, .int 0, .int 0, .ref 1], vm := .statics 2 },
  { cls := 8, slots := #[.int 0, .int 0, .int 0, .int 0, .int 0, .int 0, .int 0, .int 0, .int 0, .int 0, .int 0, .int 0, .int 0, .int 0, .int 0, .int 0, .int 0, .int 0, .int 0, .int 0, .int 0, .int 0, .int 0, .int 0, .int 0, .int 0, .int 0, .int 0, .int 0, .int 0, .int 0, .int 0, .int 0, .int 32, .int 0, .int 0, .int 32, .int 0, .int 32, .int 32, .int 32, .int 32, .int 32, .int 40, .int 32, .int 24, .int 24, .int 256, .int 30, .int 30, .int 30, .int 30, .int 30, .int 30, .int 30, .int 30, .int 30, .int 30, .int 64, .int 32, .int 0, .int 32, .int 0, .int 512, .int 128, .int 29, .int 29, .int 29, .int 29, .int 29, .int 29, .int 25, .int 25, .int 25, .int 25, .int 25, .int 25, .int 25, .int 25, .int 25, .int 25, .int 25, .int 25, .int 25, .int 25, .int 25, .int 25, .int 25, .int 25, .int 25, .int 25, .int 0, .int 0, .int 0, .int 0, .int 16, .int 0, .int 29, .int 29, .int 29, .int 29, .int 29, .int 29, .int 25, .int 25, .int 25, .int 25, .int 25, .int 25, .int 25, .int 25, .int 25, .int 25, .int 25, .int 25, .int 25, .int 25, .int 25, .int 25, .int 25, .int 25, .int 25, .int 25, .int 0, .int 0, .int 0, .int 16, .int 0], vm := .none }]
def classes : Array Class := #[k0, k1, k2, k3, k4, k5, k6, k7, k8]
def interned : List (Array UInt16 × Addr) := []
def slotsUsed : Nat := 147
def theMethod : MethodId := ⟨1, 1⟩
def args0 : Array Value := #[.int 65, .int 1]
def aboutOver (below : List Frame) : State where
  vm := { classes := classes, interned := interned.toArray }
  heap := heap
  slotsUsed := slotsUsed
  threads := #[{ frames := .invoking theMethod args0 :: below }]
def below0 : List Frame := [.native { method := ⟨0, 0⟩, args := #[] }]
def about1 : State := aboutOver below0
def p0 : Program := .bare "" "" ""
def e0 : Env := launch0.env 0 0 0
theorem w_frames : about1.frames = Frame.invoking theMethod args0 :: below0 := rfl
set_option maxRecDepth 65536 in
theorem w_args : argsFit about1.vm theMethod args0 = true := by decide +kernel
set_option maxRecDepth 65536 in
theorem w_heap : heapFits about1 = true := by decide +kernel
set_option maxRecDepth 65536 in
theorem w_runnable : about1.curStatus? = some .runnable := by decide +kernel
set_option maxRecDepth 65536 in
theorem w_alone : about1.alone = true := by decide +kernel
set_option maxRecDepth 65536 in
theorem w_named : about1.methodNamed? x = some theMethod := by decide +kernel
set_option maxRecDepth 65536 in
theorem w_hears : about1.hears theMethod below0 = true := by decide +kernel
set_option maxRecDepth 65536 in
theorem w_ripe : about1.ripe theMethod args0 below0 = true := by decide +kernel
theorem w_running : about1.status = .running := rfl
set_option maxRecDepth 65536 in
theorem w_room : about1.hasRoom e0.platform room_1 = true :=
  launch0.hasRoom_least _ room_1 (by decide +kernel) (by decide +kernel) (by decide +kernel) (by decide +kernel) (by decide +kernel) (by decide +kernel)
theorem allAtoms_all (ts : List Jvm.Cond) (a : Array Jvm.Value) (st : Jvm.State) : (allAtoms ts).before a st = ts.all (fun c => c.before a st) := by
  induction ts with
  | nil => rfl
  | cons c t ih =>
    show (Jvm.Cond.and c (allAtoms t)).before a st = _
    rw [Jvm.Cond.before_and, ih, List.all_cons]
def words1 : List Jvm.Cond := Jvm.Cond.code x code maxLocals ret :: tables_1
/-- a 'code' word, met by the world's own term for the bytes: nothing is compared byte by byte -/
theorem code_word {y : MethodName} {bytes : ByteArray} {mx : Nat} {rt : Option FieldType} {a : Array Value} {s : State} {m : MethodId} {meth : Method} {c : Code} (h1 : s.methodNamed? y = some m) (h2 : s.vm.method? m = some meth) (h3 : meth.code = some c) (h4 : c.code = bytes)
    (h5 : (c.maxLocals == mx && c.exceptionTable.isEmpty && decide (c.maxStack ≤ mostOperands) && decide (meth.sig.returnType = rt) && !meth.locks && decide (parseMethodDescriptor y.desc = some meth.sig)) = true) : (Jvm.Cond.code y bytes mx rt).before a s = true := by
  simp only [Bool.and_eq_true, beq_iff_eq, Bool.not_eq_true', decide_eq_true_eq] at h5
  obtain ⟨⟨⟨⟨⟨g1, g2⟩, g3⟩, g4⟩, g5⟩, g6⟩ := h5
  simp [Cond.before, Cond.holds, Cond.value, h1, h2, h3, h4, g1, g2, g3, g4, g5, g6]
def isCode : Jvm.Cond → Bool
  | .code _ _ _ _ => true
  | _ => false
theorem all_split {L : List Jvm.Cond} {P : Jvm.Cond → Bool} (h1 : L.all (fun c => isCode c || P c) = true) (h2 : ∀ c ∈ L.filter isCode, P c = true) : L.all P = true := by
  refine List.all_eq_true.mpr fun c hc => ?_
  have h := List.all_eq_true.mp h1 c hc
  rcases Bool.eq_false_or_eq_true (isCode c) with hi | hi
  · exact h2 c (List.mem_filter.mpr ⟨hc, hi⟩)
  · simpa [hi] using h
set_option maxRecDepth 65536 in
theorem w_c0 : (Jvm.Cond.code x code maxLocals ret).before args0 about1 = true := code_word (m := ⟨1, 1⟩) (meth := k1m1) (c := k1c1) (by decide +kernel) rfl rfl rfl (by decide +kernel)
set_option maxRecDepth 65536 in
theorem w_c1 : (Jvm.Cond.code ({ cls := "com/example/strict_uri/stricturi/CharClassInPinLaw", name := "reference", desc := "(CI)Z" } : Jvm.MethodName) method_4_code (15 : Nat) (Option.some Jvm.ClassFile.FieldType.boolean)).before args0 about1 = true := code_word (m := ⟨1, 3⟩) (meth := k1m3) (c := k1c3) (by decide +kernel) rfl rfl rfl (by decide +kernel)
set_option maxRecDepth 65536 in
theorem w_c2 : (Jvm.Cond.code ({ cls := "com/example/strict_uri/stricturi/CharClass", name := "in", desc := "(CI)Z" } : Jvm.MethodName) prog_1_method_2_code (2 : Nat) (Option.some Jvm.ClassFile.FieldType.boolean)).before args0 about1 = true := code_word (m := ⟨2, 1⟩) (meth := k2m1) (c := k2c1) (by decide +kernel) rfl rfl rfl (by decide +kernel)
set_option maxRecDepth 65536 in
theorem w_c3 : (Jvm.Cond.code ({ cls := "com/example/strict_uri/stricturi/CharClassInPinLaw", name := "has", desc := "(II)Z" } : Jvm.MethodName) method_3_code (2 : Nat) (Option.some Jvm.ClassFile.FieldType.boolean)).before args0 about1 = true := code_word (m := ⟨1, 2⟩) (meth := k1m2) (c := k1c2) (by decide +kernel) rfl rfl rfl (by decide +kernel)
def codes1 : List Jvm.Cond := [Jvm.Cond.code x code maxLocals ret, Jvm.Cond.code ({ cls := "com/example/strict_uri/stricturi/CharClassInPinLaw", name := "reference", desc := "(CI)Z" } : Jvm.MethodName) method_4_code (15 : Nat) (Option.some Jvm.ClassFile.FieldType.boolean), Jvm.Cond.code ({ cls := "com/example/strict_uri/stricturi/CharClass", name := "in", desc := "(CI)Z" } : Jvm.MethodName) prog_1_method_2_code (2 : Nat) (Option.some Jvm.ClassFile.FieldType.boolean), Jvm.Cond.code ({ cls := "com/example/strict_uri/stricturi/CharClassInPinLaw", name := "has", desc := "(II)Z" } : Jvm.MethodName) method_3_code (2 : Nat) (Option.some Jvm.ClassFile.FieldType.boolean)]
set_option maxRecDepth 65536 in
theorem codes_eq : words1.filter isCode = codes1 := rfl
theorem w_codes : ∀ c ∈ words1.filter isCode, c.before args0 about1 = true := by
  rw [codes_eq]
  intro c hc
  simp only [codes1, List.mem_cons, List.not_mem_nil, or_false] at hc
  rcases hc with rfl | rfl | rfl | rfl
  · exact w_c0
  · exact w_c1
  · exact w_c2
  · exact w_c3
set_option maxRecDepth 65536 in
theorem w_t1 : words1.all (fun c => isCode c || c.before args0 about1) = true := by decide +kernel
theorem w_tables : (allAtoms (Jvm.Cond.code x code maxLocals ret :: tables_1)).before args0 about1 = true := by
  rw [allAtoms_all]
  show words1.all (fun c => c.before args0 about1) = true
  refine all_split ?_ w_codes
  rw [w_t1]
set_option maxRecDepth 65536 in
theorem w_case : (Jvm.Cond.and given_1 narrow_1).before args0 about1 = true := by decide +kernel
theorem w_applies : (headSpec (Jvm.Cond.code x code maxLocals ret :: tables_1) room_1).applies x e0.platform about1 = true :=
  (Spec.applies_iff w_frames).mpr ⟨w_running, w_runnable, w_alone, w_named, w_hears, w_ripe, w_room, w_tables⟩
theorem atStart : AtStart classFile x code maxLocals ret World_1 tables_1 room_1 Calls_1 rest_1 Pre_1 launch0 p0 e0 about1 theMethod args0 below0 :=
  ⟨lists_1, trivial, launch0.admits_env _ _ _, launch0.least_env, fairChoices_fair.cas, fairChoices_fair.clock, w_frames, w_args, w_heap, w_applies, trivial, trivial, w_case⟩
end start1
theorem witness_1 : WitnessClaimed_1 := ⟨start1.p0, start1.e0, start1.about1, start1.theMethod, start1.args0, start1.below0, start1.atStart⟩
end Jvm.Pilot.@@N@@
