import JvmDerived
import JvmDerived.Pilot.@@N@@Statement
import JvmDerived.Pilot.@@N@@Code
set_option linter.unusedVariables false
set_option linter.unusedSimpArgs false
@@BLOCK:HandJ.lean.txt@@
@@BLOCK:SymMore.lean.txt@@
namespace Jvm.Pilot.@@N@@
open Jvm Jvm.ClassFile Sem Op Lib Jvm.Free Jvm.Stand Jvm.LawKit Jvm.RoadKit Bundle Jvm.Pilot.@@N@@.Jvm.D
theorem tw {Z : State} {a0 : Array Value} (hw : ∀ d ∈ tables_1, d.before a0 Z = true) (i : Nat) {d : Jvm.Cond} (hd : tables_1[i]? = some d := by rfl) : d.before a0 Z = true := hw d (List.mem_of_getElem? hd)
abbrev own_Nar : Prop := True
abbrev own_EL : List (String × Nat) := []
section Own
variable {p : Program} {l : Launch} {e : Env} {R : Room} {s : State} {m : MethodId} {args : Array Value} {below : List Frame} {meth : Method} {c : Code} {Z : State} {a0 : Array Value} {y : MethodName} {bytes : ByteArray} {maxL : Nat} {ret : Option FieldType} {T : State} {h : Heap} {ce sl : Nat} {sf : List Addr} {G : State → Prop} {pc : Nat} {L : Array Slot} {S : List Value}
/-- where a walk stands: the state T, its heap h, what has been made, the cells that no constant books -/
def Wk (p : Program) (l : Launch) (e : Env) (R : Room) (s : State) (m : MethodId) (args : Array Value) (below : List Frame) (meth : Method) (c : Code) (Z : State) (y : MethodName) (bytes : ByteArray) (maxL : Nat) (ret : Option FieldType) (T : State) (h : Heap) (ce sl : Nat) (sf : List Addr) : Prop :=
  ∃ (vm0 : Vm) (k0 : Nat) (locs : List Loc), Stand p l e R (s.setVm vm0) m args below meth c T locs ce sl ∧ T.heap = h ∧ s.Since vm0 k0 ∧ k0 ≤ h.size ∧ Z.Warmed39 (s.setVm vm0).vm ∧ (s.setVm vm0).vm.findClass y.cls = some m.cls ∧ Fr Z.heap.size locs ∧ (own_Nar → s.WarmedH vm0) ∧ CHr Z own_EL s.vm s.heap vm0 h ∧ (∀ x ∈ sf, x < h.size ∧ Safe Z own_EL vm0 h x) ∧ Ext Z.heap h ∧ (∃ a1, EW Z a1 own_EL) ∧ p.tables.exec = Jvm.exec ∧ c.code = bytes ∧ c.maxLocals = maxL ∧ meth.name = y.name ∧ meth.sig.returnType = ret ∧ meth.locks = false
def Go (p : Program) (e : Env) (below : List Frame) (G : State → Prop) (T : State) (g : JFrame) : Prop := ∃ u, Steps p.tables e below (T.setTop g) u ∧ G u
theorem Go.st {T' : State} {g g' : JFrame} (K : Go p e below G T' g') (f : ∀ u, Steps p.tables e below (T'.setTop g') u → Steps p.tables e below (T.setTop g) u) : Go p e below G T g := by
  obtain ⟨u, k, q⟩ := K
  exact ⟨u, f u k, q⟩
theorem Go.cut {g g' : JFrame} (A : Go p e below G T g' → Go p e below G T g) (B : Go p e below G T g') : Go p e below G T g := A B
theorem Go.eq {g g' : JFrame} (K : Go p e below G T g') (q : g' = g) : Go p e below G T g := q ▸ K
theorem Go.cutW {g g' : JFrame} (W : Wk p l e R s m args below meth c Z y bytes maxL ret T h ce sl sf) (A : (∀ T', Wk p l e R s m args below meth c Z y bytes maxL ret T' h ce sl sf → Go p e below G T' g') → Go p e below G T g) (B : ∀ T', Wk p l e R s m args below meth c Z y bytes maxL ret T' h ce sl sf → Go p e below G T' g') : Go p e below G T g := A B
theorem own_ext_refl (h : Heap) : Ext h h := ⟨Nat.le_refl _, fun _ _ q => q⟩
theorem own_ext_trans {h h' h2 : Heap} (A : Ext h h') (B : Ext h' h2) : Ext h h2 := ⟨Nat.le_trans A.1 B.1, fun x c q => B.2 x c (A.2 x c q)⟩
theorem own_ext_wr {h0 h h' : Heap} {a : Addr} {i : Nat} {v : Value} (E : Ext h0 h) (W : Wr h h' a i v) (q : h0.size ≤ a) : Ext h0 h' := by
  refine ⟨Nat.le_trans E.1 (Nat.le_of_eq W.size.symm), fun x cc r => ?_⟩
  obtain ⟨c', e1, -, -, -, e5, -⟩ := wr_at W (E.2 x cc r)
  have hlt := (Array.getElem?_eq_some_iff.mp r).1
  rw [e1, e5 (Nat.ne_of_lt (Nat.lt_of_lt_of_le hlt q))]
theorem own_ext_keep {h0 h h' : Heap} {a : Addr} (E : Ext h0 h) (K : Keep h h' [a]) (q : h0.size ≤ a) : Ext h0 h' := ⟨Nat.le_trans E.1 K.1, fun x cc r => K.2.1 x cc (E.2 x cc r) fun z => by
  have hlt := (Array.getElem?_eq_some_iff.mp r).1
  rw [List.mem_singleton.mp z] at hlt; omega⟩
theorem own_ns_root {O K : String} {n : Nat} (w : (Jvm.Cond.noSuperclass O).before a0 Z = true) (wk : (Jvm.Cond.instantiable K n).before a0 Z = true) (hn : O ≠ K) : NS Z O K := by
  obtain ⟨c, k, h1, h2, h3, -, -⟩ := Cond.noSuperclass_spec w
  obtain ⟨t, kt, g1, -⟩ := Cond.instantiable_spec wk
  have ne := ids_ne h1 g1 hn
  refine ⟨c, t, h1, g1, fun fuel => ?_⟩
  cases fuel with
  | zero => rfl
  | succ f => simp [Vm.isSubclassAux, ne, h2, h3]
theorem own_ns_no {C S' K : String} {n : Nat} (w : (Jvm.Cond.superclass C S').before a0 Z = true) (wk : (Jvm.Cond.instantiable K n).before a0 Z = true) (N : NS Z C K) (hn : C ≠ K) : ∃ c t, Z.vm.findClass C = some c ∧ Z.vm.findClass K = some t ∧ Z.vm.assignable c t = false := by
  obtain ⟨c, t, h0, g0, n3⟩ := N
  obtain ⟨p, k, kp, h1, h2, h3, h4, h5, -, h7⟩ := Cond.superclass_spec h0 w
  obtain ⟨t', kt, g1, g2, g3, g4, -⟩ := Cond.instantiable_spec wk
  cases g0.symm.trans g1
  have g7 : kt.isInterface = false := by cases q : kt.isInterface <;> simp_all
  have ne := ids_ne h0 g0 hn
  refine ⟨c, t, h0, g0, ?_⟩
  show Z.vm.assignableAux (255 + 1) c t = false
  simp [Vm.assignableAux, ne, h2, g2, h5, g3, g7, Vm.isSubclass, n3]
theorem Wk.old (W : Wk p l e R s m args below meth c Z y bytes maxL ret T h ce sl sf) : Ext Z.heap h := by obtain ⟨vm0, k0, locs, X, eT, hS, hk, hZ, hown, hF, hN, hC, hsf, hE, ⟨a1, hEL⟩, hx, hby, hml, hnm, hrt, hlk⟩ := W; exact hE
theorem Wk.mono (W : Wk p l e R s m args below meth c Z y bytes maxL ret T h ce sl sf) {ce' sl' : Nat} (q : ce ≤ ce') (r : sl ≤ sl') : Wk p l e R s m args below meth c Z y bytes maxL ret T h ce' sl' sf := by
  obtain ⟨vm0, k0, locs, X, eT, hS, hk, hZ, hown, hF, hN, hC, hsf, hE, ⟨a1, hEL⟩, hx, hby, hml, hnm, hrt, hlk⟩ := W
  exact ⟨vm0, k0, locs, X.mono q r, eT, hS, hk, hZ, hown, hF, hN, hC, hsf, hE, ⟨a1, hEL⟩, hx, hby, hml, hnm, hrt, hlk⟩
theorem Wk.drop (W : Wk p l e R s m args below meth c Z y bytes maxL ret T h ce sl sf) {sf' : List Addr} (q : ∀ x ∈ sf', x ∈ sf) : Wk p l e R s m args below meth c Z y bytes maxL ret T h ce sl sf' := by
  obtain ⟨vm0, k0, locs, X, eT, hS, hk, hZ, hown, hF, hN, hC, hsf, hE, ⟨a1, hEL⟩, hx, hby, hml, hnm, hrt, hlk⟩ := W
  exact ⟨vm0, k0, locs, X, eT, hS, hk, hZ, hown, hF, hN, hC, fun x hx => hsf x (q x hx), hE, ⟨a1, hEL⟩, hx, hby, hml, hnm, hrt, hlk⟩
theorem o_iloadN (pc' : Nat) (W : Wk p l e R s m args below meth c Z y bytes maxL ret T h ce sl sf) {k : Fin 4} {v : Int32} (hd : decode bytes pc = .ok (.iload_n k, 1)) (hl : L[k.val]? = some (.val (.int v))) (K : Go p e below G T (mkF m pc' L (.int v :: S))) (hp : pc + 1 = pc' := by rfl) : Go p e below G T (mkF m pc L (S)) := by
  subst hp
  obtain ⟨vm0, k0, locs, X, eT, hS, hk, hZ, hown, hF, hN, hC, hsf, hE, ⟨a1, hEL⟩, hx, hby, hml, hnm, hrt, hlk⟩ := W
  subst hby
  exact K.st fun u k => XS.iloadN X.here hx rfl hd hl k
theorem o_iload (pc' : Nat) (W : Wk p l e R s m args below meth c Z y bytes maxL ret T h ce sl sf) {k : Nat} {v : Int32} (hd : decode bytes pc = .ok (.iload k, 2)) (hl : L[k]? = some (.val (.int v))) (K : Go p e below G T (mkF m pc' L (.int v :: S))) (hp : pc + 2 = pc' := by rfl) : Go p e below G T (mkF m pc L (S)) := by
  subst hp
  obtain ⟨vm0, k0, locs, X, eT, hS, hk, hZ, hown, hF, hN, hC, hsf, hE, ⟨a1, hEL⟩, hx, hby, hml, hnm, hrt, hlk⟩ := W
  subst hby
  exact K.st fun u k => XS.iload X.here hx rfl hd hl k
theorem o_lloadN (pc' : Nat) (W : Wk p l e R s m args below meth c Z y bytes maxL ret T h ce sl sf) {k : Fin 4} {v : Int64} (hd : decode bytes pc = .ok (.lload_n k, 1)) (hl : L[k.val]? = some (.val (.long v))) (K : Go p e below G T (mkF m pc' L (.long v :: S))) (hp : pc + 1 = pc' := by rfl) : Go p e below G T (mkF m pc L (S)) := by
  subst hp
  obtain ⟨vm0, k0, locs, X, eT, hS, hk, hZ, hown, hF, hN, hC, hsf, hE, ⟨a1, hEL⟩, hx, hby, hml, hnm, hrt, hlk⟩ := W
  subst hby
  exact K.st fun u k => XT.lloadN X.here hx rfl hd hl k
theorem o_lload (pc' : Nat) (W : Wk p l e R s m args below meth c Z y bytes maxL ret T h ce sl sf) {k : Nat} {v : Int64} (hd : decode bytes pc = .ok (.lload k, 2)) (hl : L[k]? = some (.val (.long v))) (K : Go p e below G T (mkF m pc' L (.long v :: S))) (hp : pc + 2 = pc' := by rfl) : Go p e below G T (mkF m pc L (S)) := by
  subst hp
  obtain ⟨vm0, k0, locs, X, eT, hS, hk, hZ, hown, hF, hN, hC, hsf, hE, ⟨a1, hEL⟩, hx, hby, hml, hnm, hrt, hlk⟩ := W
  subst hby
  exact K.st fun u k => XT.lload X.here hx rfl hd hl k
theorem o_aloadN (pc' : Nat) (W : Wk p l e R s m args below meth c Z y bytes maxL ret T h ce sl sf) {k : Fin 4} {v : Value} (hd : decode bytes pc = .ok (.aload_n k, 1)) (hl : L[k.val]? = some (.val v)) (hv : v.isRef = true) (K : Go p e below G T (mkF m pc' L (v :: S))) (hp : pc + 1 = pc' := by rfl) : Go p e below G T (mkF m pc L (S)) := by
  subst hp
  obtain ⟨vm0, k0, locs, X, eT, hS, hk, hZ, hown, hF, hN, hC, hsf, hE, ⟨a1, hEL⟩, hx, hby, hml, hnm, hrt, hlk⟩ := W
  subst hby
  exact K.st fun u k => XS.aloadN X.here hx rfl hd hl hv k
theorem o_aload (pc' : Nat) (W : Wk p l e R s m args below meth c Z y bytes maxL ret T h ce sl sf) {k : Nat} {v : Value} (hd : decode bytes pc = .ok (.aload k, 2)) (hl : L[k]? = some (.val v)) (hv : v.isRef = true) (K : Go p e below G T (mkF m pc' L (v :: S))) (hp : pc + 2 = pc' := by rfl) : Go p e below G T (mkF m pc L (S)) := by
  subst hp
  obtain ⟨vm0, k0, locs, X, eT, hS, hk, hZ, hown, hF, hN, hC, hsf, hE, ⟨a1, hEL⟩, hx, hby, hml, hnm, hrt, hlk⟩ := W
  subst hby
  exact K.st fun u k => XS.aload X.here hx rfl hd hl hv k
theorem o_istoreN (pc' : Nat) (W : Wk p l e R s m args below meth c Z y bytes maxL ret T h ce sl sf) {k : Fin 4} {v : Int32} (L' : Array Slot) (hd : decode bytes pc = .ok (.istore_n k, 1)) (hl : storeLocals L k.val (.int v) = some L') (K : Go p e below G T (mkF m pc' L' (S))) (hp : pc + 1 = pc' := by rfl) : Go p e below G T (mkF m pc L (.int v :: S)) := by
  subst hp
  obtain ⟨vm0, k0, locs, X, eT, hS, hk, hZ, hown, hF, hN, hC, hsf, hE, ⟨a1, hEL⟩, hx, hby, hml, hnm, hrt, hlk⟩ := W
  subst hby
  exact K.st fun u k => XS.istoreN X.here hx rfl hd rfl hl k
theorem o_istore (pc' : Nat) (W : Wk p l e R s m args below meth c Z y bytes maxL ret T h ce sl sf) {k : Nat} {v : Int32} (L' : Array Slot) (hd : decode bytes pc = .ok (.istore k, 2)) (hl : storeLocals L k (.int v) = some L') (K : Go p e below G T (mkF m pc' L' (S))) (hp : pc + 2 = pc' := by rfl) : Go p e below G T (mkF m pc L (.int v :: S)) := by
  subst hp
  obtain ⟨vm0, k0, locs, X, eT, hS, hk, hZ, hown, hF, hN, hC, hsf, hE, ⟨a1, hEL⟩, hx, hby, hml, hnm, hrt, hlk⟩ := W
  subst hby
  exact K.st fun u k => XS.istore X.here hx rfl hd rfl hl k
theorem o_lstoreN (pc' : Nat) (W : Wk p l e R s m args below meth c Z y bytes maxL ret T h ce sl sf) {k : Fin 4} {v : Int64} (L' : Array Slot) (hd : decode bytes pc = .ok (.lstore_n k, 1)) (hl : storeLocals L k.val (.long v) = some L') (K : Go p e below G T (mkF m pc' L' (S))) (hp : pc + 1 = pc' := by rfl) : Go p e below G T (mkF m pc L (.long v :: S)) := by
  subst hp
  obtain ⟨vm0, k0, locs, X, eT, hS, hk, hZ, hown, hF, hN, hC, hsf, hE, ⟨a1, hEL⟩, hx, hby, hml, hnm, hrt, hlk⟩ := W
  subst hby
  exact K.st fun u k => XT.lstoreN X.here hx rfl hd rfl hl k
theorem o_lstore (pc' : Nat) (W : Wk p l e R s m args below meth c Z y bytes maxL ret T h ce sl sf) {k : Nat} {v : Int64} (L' : Array Slot) (hd : decode bytes pc = .ok (.lstore k, 2)) (hl : storeLocals L k (.long v) = some L') (K : Go p e below G T (mkF m pc' L' (S))) (hp : pc + 2 = pc' := by rfl) : Go p e below G T (mkF m pc L (.long v :: S)) := by
  subst hp
  obtain ⟨vm0, k0, locs, X, eT, hS, hk, hZ, hown, hF, hN, hC, hsf, hE, ⟨a1, hEL⟩, hx, hby, hml, hnm, hrt, hlk⟩ := W
  subst hby
  exact K.st fun u k => XT.lstore X.here hx rfl hd rfl hl k
theorem o_astoreN (pc' : Nat) (W : Wk p l e R s m args below meth c Z y bytes maxL ret T h ce sl sf) {k : Fin 4} {v : Value} (L' : Array Slot) (hd : decode bytes pc = .ok (.astore_n k, 1)) (hv : v.isRef = true) (hl : storeLocals L k.val v = some L') (K : Go p e below G T (mkF m pc' L' (S))) (hp : pc + 1 = pc' := by rfl) : Go p e below G T (mkF m pc L (v :: S)) := by
  subst hp
  obtain ⟨vm0, k0, locs, X, eT, hS, hk, hZ, hown, hF, hN, hC, hsf, hE, ⟨a1, hEL⟩, hx, hby, hml, hnm, hrt, hlk⟩ := W
  subst hby
  exact K.st fun u k => XS.astoreN X.here hx rfl hd rfl hv hl k
theorem o_astore (pc' : Nat) (W : Wk p l e R s m args below meth c Z y bytes maxL ret T h ce sl sf) {k : Nat} {v : Value} (L' : Array Slot) (hd : decode bytes pc = .ok (.astore k, 2)) (hv : v.isRef = true) (hl : storeLocals L k v = some L') (K : Go p e below G T (mkF m pc' L' (S))) (hp : pc + 2 = pc' := by rfl) : Go p e below G T (mkF m pc L (v :: S)) := by
  subst hp
  obtain ⟨vm0, k0, locs, X, eT, hS, hk, hZ, hown, hF, hN, hC, hsf, hE, ⟨a1, hEL⟩, hx, hby, hml, hnm, hrt, hlk⟩ := W
  subst hby
  exact K.st fun u k => XS.astore X.here hx rfl hd rfl hv hl k
theorem o_iconst (pc' : Nat) (W : Wk p l e R s m args below meth c Z y bytes maxL ret T h ce sl sf) {i : Int} (v : Int32) (hd : decode bytes pc = .ok (.iconst i, 1)) (hv : Int32.ofInt i = v) (K : Go p e below G T (mkF m pc' L (.int v :: S))) (hp : pc + 1 = pc' := by rfl) : Go p e below G T (mkF m pc L (S)) := by
  subst hp
  obtain ⟨vm0, k0, locs, X, eT, hS, hk, hZ, hown, hF, hN, hC, hsf, hE, ⟨a1, hEL⟩, hx, hby, hml, hnm, hrt, hlk⟩ := W
  subst hby
  exact K.st fun u k => XT.iconstV X.here hx rfl v hd hv k
theorem o_bipush (pc' : Nat) (W : Wk p l e R s m args below meth c Z y bytes maxL ret T h ce sl sf) {i : Int} (v : Int32) (hd : decode bytes pc = .ok (.bipush i, 2)) (hv : (Int8.ofInt i).toInt32 = v) (K : Go p e below G T (mkF m pc' L (.int v :: S))) (hp : pc + 2 = pc' := by rfl) : Go p e below G T (mkF m pc L (S)) := by
  subst hp
  obtain ⟨vm0, k0, locs, X, eT, hS, hk, hZ, hown, hF, hN, hC, hsf, hE, ⟨a1, hEL⟩, hx, hby, hml, hnm, hrt, hlk⟩ := W
  subst hby
  exact K.st fun u k => XT.bipushV X.here hx rfl v hd hv k
theorem o_sipush (pc' : Nat) (W : Wk p l e R s m args below meth c Z y bytes maxL ret T h ce sl sf) {i : Int} (v : Int32) (hd : decode bytes pc = .ok (.sipush i, 3)) (hv : (Int16.ofInt i).toInt32 = v) (K : Go p e below G T (mkF m pc' L (.int v :: S))) (hp : pc + 3 = pc' := by rfl) : Go p e below G T (mkF m pc L (S)) := by
  subst hp
  obtain ⟨vm0, k0, locs, X, eT, hS, hk, hZ, hown, hF, hN, hC, hsf, hE, ⟨a1, hEL⟩, hx, hby, hml, hnm, hrt, hlk⟩ := W
  subst hby
  exact K.st fun u k => XT.sipushV X.here hx rfl v hd hv k
theorem o_lconst (pc' : Nat) (W : Wk p l e R s m args below meth c Z y bytes maxL ret T h ce sl sf) {i : Fin 2} (v : Int64) (hd : decode bytes pc = .ok (.lconst i, 1)) (hv : Int64.ofNat i = v) (K : Go p e below G T (mkF m pc' L (.long v :: S))) (hp : pc + 1 = pc' := by rfl) : Go p e below G T (mkF m pc L (S)) := by
  subst hp
  obtain ⟨vm0, k0, locs, X, eT, hS, hk, hZ, hown, hF, hN, hC, hsf, hE, ⟨a1, hEL⟩, hx, hby, hml, hnm, hrt, hlk⟩ := W
  subst hby
  exact K.st fun u k => XT.lconstV X.here hx rfl v hd hv k
theorem o_null (pc' : Nat) (W : Wk p l e R s m args below meth c Z y bytes maxL ret T h ce sl sf)  (hd : decode bytes pc = .ok (.aconst_null, 1))  (K : Go p e below G T (mkF m pc' L (.null :: S))) (hp : pc + 1 = pc' := by rfl) : Go p e below G T (mkF m pc L (S)) := by
  subst hp
  obtain ⟨vm0, k0, locs, X, eT, hS, hk, hZ, hown, hF, hN, hC, hsf, hE, ⟨a1, hEL⟩, hx, hby, hml, hnm, hrt, hlk⟩ := W
  subst hby
  exact K.st fun u k => XS.aconstNull X.here hx rfl hd  k
theorem o_iadd (pc' : Nat) (W : Wk p l e R s m args below meth c Z y bytes maxL ret T h ce sl sf) {x z : Int32} (hd : decode bytes pc = .ok (.iadd, 1))  (K : Go p e below G T (mkF m pc' L (.int (x + z) :: S))) (hp : pc + 1 = pc' := by rfl) : Go p e below G T (mkF m pc L (.int z :: .int x :: S)) := by
  subst hp
  obtain ⟨vm0, k0, locs, X, eT, hS, hk, hZ, hown, hF, hN, hC, hsf, hE, ⟨a1, hEL⟩, hx, hby, hml, hnm, hrt, hlk⟩ := W
  subst hby
  exact K.st fun u k => XS.iadd X.here hx rfl hd rfl k
theorem o_isub (pc' : Nat) (W : Wk p l e R s m args below meth c Z y bytes maxL ret T h ce sl sf) {x z : Int32} (hd : decode bytes pc = .ok (.isub, 1))  (K : Go p e below G T (mkF m pc' L (.int (x - z) :: S))) (hp : pc + 1 = pc' := by rfl) : Go p e below G T (mkF m pc L (.int z :: .int x :: S)) := by
  subst hp
  obtain ⟨vm0, k0, locs, X, eT, hS, hk, hZ, hown, hF, hN, hC, hsf, hE, ⟨a1, hEL⟩, hx, hby, hml, hnm, hrt, hlk⟩ := W
  subst hby
  exact K.st fun u k => XS.isub X.here hx rfl hd rfl k
theorem o_iand (pc' : Nat) (W : Wk p l e R s m args below meth c Z y bytes maxL ret T h ce sl sf) {x z : Int32} (hd : decode bytes pc = .ok (.iand, 1))  (K : Go p e below G T (mkF m pc' L (.int (x &&& z) :: S))) (hp : pc + 1 = pc' := by rfl) : Go p e below G T (mkF m pc L (.int z :: .int x :: S)) := by
  subst hp
  obtain ⟨vm0, k0, locs, X, eT, hS, hk, hZ, hown, hF, hN, hC, hsf, hE, ⟨a1, hEL⟩, hx, hby, hml, hnm, hrt, hlk⟩ := W
  subst hby
  exact K.st fun u k => XS.iand X.here hx rfl hd rfl k
theorem o_imul (pc' : Nat) (W : Wk p l e R s m args below meth c Z y bytes maxL ret T h ce sl sf) {x z : Int32} (hd : decode bytes pc = .ok (.imul, 1))  (K : Go p e below G T (mkF m pc' L (.int (x * z) :: S))) (hp : pc + 1 = pc' := by rfl) : Go p e below G T (mkF m pc L (.int z :: .int x :: S)) := by
  subst hp
  obtain ⟨vm0, k0, locs, X, eT, hS, hk, hZ, hown, hF, hN, hC, hsf, hE, ⟨a1, hEL⟩, hx, hby, hml, hnm, hrt, hlk⟩ := W
  subst hby
  exact K.st fun u k => XS.imul X.here hx rfl hd rfl k
theorem o_ior (pc' : Nat) (W : Wk p l e R s m args below meth c Z y bytes maxL ret T h ce sl sf) {x z : Int32} (hd : decode bytes pc = .ok (.ior, 1))  (K : Go p e below G T (mkF m pc' L (.int (x ||| z) :: S))) (hp : pc + 1 = pc' := by rfl) : Go p e below G T (mkF m pc L (.int z :: .int x :: S)) := by
  subst hp
  obtain ⟨vm0, k0, locs, X, eT, hS, hk, hZ, hown, hF, hN, hC, hsf, hE, ⟨a1, hEL⟩, hx, hby, hml, hnm, hrt, hlk⟩ := W
  subst hby
  exact K.st fun u k => XT.ior X.here hx rfl hd rfl k
theorem o_ishl (pc' : Nat) (W : Wk p l e R s m args below meth c Z y bytes maxL ret T h ce sl sf) {x z : Int32} (hd : decode bytes pc = .ok (.ishl, 1))  (K : Go p e below G T (mkF m pc' L (.int (x <<< (z &&& 31)) :: S))) (hp : pc + 1 = pc' := by rfl) : Go p e below G T (mkF m pc L (.int z :: .int x :: S)) := by
  subst hp
  obtain ⟨vm0, k0, locs, X, eT, hS, hk, hZ, hown, hF, hN, hC, hsf, hE, ⟨a1, hEL⟩, hx, hby, hml, hnm, hrt, hlk⟩ := W
  subst hby
  exact K.st fun u k => XT.ishl X.here hx rfl hd rfl k
theorem o_iushr (pc' : Nat) (W : Wk p l e R s m args below meth c Z y bytes maxL ret T h ce sl sf) {x z : Int32} (hd : decode bytes pc = .ok (.iushr, 1))  (K : Go p e below G T (mkF m pc' L (.int (XT.ushr x z) :: S))) (hp : pc + 1 = pc' := by rfl) : Go p e below G T (mkF m pc L (.int z :: .int x :: S)) := by
  subst hp
  obtain ⟨vm0, k0, locs, X, eT, hS, hk, hZ, hown, hF, hN, hC, hsf, hE, ⟨a1, hEL⟩, hx, hby, hml, hnm, hrt, hlk⟩ := W
  subst hby
  exact K.st fun u k => XT.iushr X.here hx rfl hd rfl k
theorem o_ishr (pc' : Nat) (W : Wk p l e R s m args below meth c Z y bytes maxL ret T h ce sl sf) {x z : Int32} (hd : decode bytes pc = .ok (.ishr, 1))  (K : Go p e below G T (mkF m pc' L (.int (x >>> (z &&& 31)) :: S))) (hp : pc + 1 = pc' := by rfl) : Go p e below G T (mkF m pc L (.int z :: .int x :: S)) := by
  subst hp
  obtain ⟨vm0, k0, locs, X, eT, hS, hk, hZ, hown, hF, hN, hC, hsf, hE, ⟨a1, hEL⟩, hx, hby, hml, hnm, hrt, hlk⟩ := W
  subst hby
  exact K.st fun u k => XT.ishr X.here hx rfl hd rfl k
theorem o_ladd (pc' : Nat) (W : Wk p l e R s m args below meth c Z y bytes maxL ret T h ce sl sf) {x z : Int64} (hd : decode bytes pc = .ok (.ladd, 1))  (K : Go p e below G T (mkF m pc' L (.long (x + z) :: S))) (hp : pc + 1 = pc' := by rfl) : Go p e below G T (mkF m pc L (.long z :: .long x :: S)) := by
  subst hp
  obtain ⟨vm0, k0, locs, X, eT, hS, hk, hZ, hown, hF, hN, hC, hsf, hE, ⟨a1, hEL⟩, hx, hby, hml, hnm, hrt, hlk⟩ := W
  subst hby
  exact K.st fun u k => XT.ladd X.here hx rfl hd rfl k
theorem o_land (pc' : Nat) (W : Wk p l e R s m args below meth c Z y bytes maxL ret T h ce sl sf) {x z : Int64} (hd : decode bytes pc = .ok (.land, 1))  (K : Go p e below G T (mkF m pc' L (.long (x &&& z) :: S))) (hp : pc + 1 = pc' := by rfl) : Go p e below G T (mkF m pc L (.long z :: .long x :: S)) := by
  subst hp
  obtain ⟨vm0, k0, locs, X, eT, hS, hk, hZ, hown, hF, hN, hC, hsf, hE, ⟨a1, hEL⟩, hx, hby, hml, hnm, hrt, hlk⟩ := W
  subst hby
  exact K.st fun u k => XT.land X.here hx rfl hd rfl k
theorem o_lushr (pc' : Nat) (W : Wk p l e R s m args below meth c Z y bytes maxL ret T h ce sl sf) {x : Int64} {z : Int32} (hd : decode bytes pc = .ok (.lushr, 1))  (K : Go p e below G T (mkF m pc' L (.long (XT.ushrL x z) :: S))) (hp : pc + 1 = pc' := by rfl) : Go p e below G T (mkF m pc L (.int z :: .long x :: S)) := by
  subst hp
  obtain ⟨vm0, k0, locs, X, eT, hS, hk, hZ, hown, hF, hN, hC, hsf, hE, ⟨a1, hEL⟩, hx, hby, hml, hnm, hrt, hlk⟩ := W
  subst hby
  exact K.st fun u k => XT.lushr X.here hx rfl hd rfl k
theorem o_lcmp (pc' : Nat) (W : Wk p l e R s m args below meth c Z y bytes maxL ret T h ce sl sf) {x z : Int64} (hd : decode bytes pc = .ok (.lcmp, 1))  (K : Go p e below G T (mkF m pc' L (.int (XT.cmpL x z) :: S))) (hp : pc + 1 = pc' := by rfl) : Go p e below G T (mkF m pc L (.long z :: .long x :: S)) := by
  subst hp
  obtain ⟨vm0, k0, locs, X, eT, hS, hk, hZ, hown, hF, hN, hC, hsf, hE, ⟨a1, hEL⟩, hx, hby, hml, hnm, hrt, hlk⟩ := W
  subst hby
  exact K.st fun u k => XT.lcmp X.here hx rfl hd rfl k
theorem o_i2c (pc' : Nat) (W : Wk p l e R s m args below meth c Z y bytes maxL ret T h ce sl sf) {x : Int32} (hd : decode bytes pc = .ok (.i2c, 1))  (K : Go p e below G T (mkF m pc' L (.int x.toUInt32.toUInt16.toUInt32.toInt32 :: S))) (hp : pc + 1 = pc' := by rfl) : Go p e below G T (mkF m pc L (.int x :: S)) := by
  subst hp
  obtain ⟨vm0, k0, locs, X, eT, hS, hk, hZ, hown, hF, hN, hC, hsf, hE, ⟨a1, hEL⟩, hx, hby, hml, hnm, hrt, hlk⟩ := W
  subst hby
  exact K.st fun u k => XT.i2c X.here hx rfl hd rfl k
theorem o_i2b (pc' : Nat) (W : Wk p l e R s m args below meth c Z y bytes maxL ret T h ce sl sf) {x : Int32} (hd : decode bytes pc = .ok (.i2b, 1))  (K : Go p e below G T (mkF m pc' L (.int x.toInt8.toInt32 :: S))) (hp : pc + 1 = pc' := by rfl) : Go p e below G T (mkF m pc L (.int x :: S)) := by
  subst hp
  obtain ⟨vm0, k0, locs, X, eT, hS, hk, hZ, hown, hF, hN, hC, hsf, hE, ⟨a1, hEL⟩, hx, hby, hml, hnm, hrt, hlk⟩ := W
  subst hby
  exact K.st fun u k => XT.i2b X.here hx rfl hd rfl k
theorem o_i2l (pc' : Nat) (W : Wk p l e R s m args below meth c Z y bytes maxL ret T h ce sl sf) {x : Int32} (hd : decode bytes pc = .ok (.i2l, 1))  (K : Go p e below G T (mkF m pc' L (.long x.toInt64 :: S))) (hp : pc + 1 = pc' := by rfl) : Go p e below G T (mkF m pc L (.int x :: S)) := by
  subst hp
  obtain ⟨vm0, k0, locs, X, eT, hS, hk, hZ, hown, hF, hN, hC, hsf, hE, ⟨a1, hEL⟩, hx, hby, hml, hnm, hrt, hlk⟩ := W
  subst hby
  exact K.st fun u k => XT.i2l X.here hx rfl hd rfl k
theorem o_l2i (pc' : Nat) (W : Wk p l e R s m args below meth c Z y bytes maxL ret T h ce sl sf) {x : Int64} (hd : decode bytes pc = .ok (.l2i, 1))  (K : Go p e below G T (mkF m pc' L (.int x.toInt32 :: S))) (hp : pc + 1 = pc' := by rfl) : Go p e below G T (mkF m pc L (.long x :: S)) := by
  subst hp
  obtain ⟨vm0, k0, locs, X, eT, hS, hk, hZ, hown, hF, hN, hC, hsf, hE, ⟨a1, hEL⟩, hx, hby, hml, hnm, hrt, hlk⟩ := W
  subst hby
  exact K.st fun u k => XT.l2i X.here hx rfl hd rfl k
theorem o_dup (pc' : Nat) (W : Wk p l e R s m args below meth c Z y bytes maxL ret T h ce sl sf) {v : Value} (hd : decode bytes pc = .ok (.dup, 1)) (hc : v.category = 1) (K : Go p e below G T (mkF m pc' L (v :: v :: S))) (hp : pc + 1 = pc' := by rfl) : Go p e below G T (mkF m pc L (v :: S)) := by
  subst hp
  obtain ⟨vm0, k0, locs, X, eT, hS, hk, hZ, hown, hF, hN, hC, hsf, hE, ⟨a1, hEL⟩, hx, hby, hml, hnm, hrt, hlk⟩ := W
  subst hby
  exact K.st fun u k => XS.dup X.here hx rfl hd rfl hc k
theorem o_pop (pc' : Nat) (W : Wk p l e R s m args below meth c Z y bytes maxL ret T h ce sl sf) {v : Value} (hd : decode bytes pc = .ok (.pop, 1)) (hc : v.category = 1) (K : Go p e below G T (mkF m pc' L (S))) (hp : pc + 1 = pc' := by rfl) : Go p e below G T (mkF m pc L (v :: S)) := by
  subst hp
  obtain ⟨vm0, k0, locs, X, eT, hS, hk, hZ, hown, hF, hN, hC, hsf, hE, ⟨a1, hEL⟩, hx, hby, hml, hnm, hrt, hlk⟩ := W
  subst hby
  exact K.st fun u k => XT.pop X.here hx rfl hd rfl hc k
theorem o_iinc (pc' : Nat) (W : Wk p l e R s m args below meth c Z y bytes maxL ret T h ce sl sf) {k : Nat} {i : Int} {x : Int32} (v : Int32) (L' : Array Slot) (hd : decode bytes pc = .ok (.iinc k i, 3)) (hl : L[k]? = some (.val (.int x))) (hv : x + Int32.ofInt i = v) (hl' : storeLocals L k (.int v) = some L') (K : Go p e below G T (mkF m pc' L' (S))) (hp : pc + 3 = pc' := by rfl) : Go p e below G T (mkF m pc L (S)) := by
  subst hp
  obtain ⟨vm0, k0, locs, X, eT, hS, hk, hZ, hown, hF, hN, hC, hsf, hE, ⟨a1, hEL⟩, hx, hby, hml, hnm, hrt, hlk⟩ := W
  subst hby
  exact K.st fun u k => XS.iinc X.here hx rfl hd hl (hv ▸ hl') k
theorem o_irem (pc' : Nat) (W : Wk p l e R s m args below meth c Z y bytes maxL ret T h ce sl sf) {x z : Int32} (hd : decode bytes pc = .ok (.irem, 1)) (hz : z ≠ 0) (K : Go p e below G T (mkF m pc' L (.int (x % z) :: S))) (hp : pc + 1 = pc' := by rfl) : Go p e below G T (mkF m pc L (.int z :: .int x :: S)) := by
  subst hp
  obtain ⟨vm0, k0, locs, X, eT, hS, hk, hZ, hown, hF, hN, hC, hsf, hE, ⟨a1, hEL⟩, hx, hby, hml, hnm, hrt, hlk⟩ := W
  subst hby
  exact K.st fun u k => iremM X hx (g := mkF m pc L (.int z :: .int x :: S)) rfl hd rfl hz k
theorem o_goto (pc' : Nat) (W : Wk p l e R s m args below meth c Z y bytes maxL ret T h ce sl sf)  {o : Int} (hd : decode bytes pc = .ok (.goto o, 3))  (K : Go p e below G T (mkF m pc' L (S))) (ho : 0 ≤ (pc : Int) + o := by decide) (hp : ((pc : Int) + o).toNat = pc' := by decide) : Go p e below G T (mkF m pc L (S)) := by
  obtain ⟨vm0, k0, locs, X, eT, hS, hk, hZ, hown, hF, hN, hC, hsf, hE, ⟨a1, hEL⟩, hx, hby, hml, hnm, hrt, hlk⟩ := W
  subst hby
  exact K.st fun u k => XS.goto X.here hx rfl (pc0 := pc) rfl hd ho hp k
theorem o_ifeq (pt pf : Nat) (W : Wk p l e R s m args below meth c Z y bytes maxL ret T h ce sl sf) {x : Int32} {o : Int} (hd : decode bytes pc = .ok (.ifCond .eq o, 3)) (K1 : x = 0 → Go p e below G T (mkF m pt L S)) (K2 : ¬ x = 0 → Go p e below G T (mkF m pf L S)) (ho : 0 ≤ (pc : Int) + o := by decide) (hp : ((pc : Int) + o).toNat = pt := by decide) (hq : pc + 3 = pf := by rfl) : Go p e below G T (mkF m pc L (.int x :: S)) := by
  subst hq
  obtain ⟨vm0, k0, locs, X, eT, hS, hk, hZ, hown, hF, hN, hC, hsf, hE, ⟨a1, hEL⟩, hx, hby, hml, hnm, hrt, hlk⟩ := W
  subst hby
  by_cases q : x = 0
  · exact (K1 q).st fun u k => XS.ifYes X.here hx rfl (pc0 := pc) rfl hd rfl (XT.i0_eq_t q) ho hp k
  · exact (K2 q).st fun u k => XS.ifNo X.here hx rfl hd rfl (XT.i0_eq_f q) k
theorem o_ifne (pt pf : Nat) (W : Wk p l e R s m args below meth c Z y bytes maxL ret T h ce sl sf) {x : Int32} {o : Int} (hd : decode bytes pc = .ok (.ifCond .ne o, 3)) (K1 : ¬ x = 0 → Go p e below G T (mkF m pt L S)) (K2 : x = 0 → Go p e below G T (mkF m pf L S)) (ho : 0 ≤ (pc : Int) + o := by decide) (hp : ((pc : Int) + o).toNat = pt := by decide) (hq : pc + 3 = pf := by rfl) : Go p e below G T (mkF m pc L (.int x :: S)) := by
  subst hq
  obtain ⟨vm0, k0, locs, X, eT, hS, hk, hZ, hown, hF, hN, hC, hsf, hE, ⟨a1, hEL⟩, hx, hby, hml, hnm, hrt, hlk⟩ := W
  subst hby
  by_cases q : x = 0
  · exact (K2 q).st fun u k => XS.ifNo X.here hx rfl hd rfl (XT.i0_ne_f q) k
  · exact (K1 q).st fun u k => XS.ifYes X.here hx rfl (pc0 := pc) rfl hd rfl (XT.i0_ne_t q) ho hp k
theorem o_iflt (pt pf : Nat) (W : Wk p l e R s m args below meth c Z y bytes maxL ret T h ce sl sf) {x : Int32} {o : Int} (hd : decode bytes pc = .ok (.ifCond .lt o, 3)) (K1 : x < 0 → Go p e below G T (mkF m pt L S)) (K2 : ¬ x < 0 → Go p e below G T (mkF m pf L S)) (ho : 0 ≤ (pc : Int) + o := by decide) (hp : ((pc : Int) + o).toNat = pt := by decide) (hq : pc + 3 = pf := by rfl) : Go p e below G T (mkF m pc L (.int x :: S)) := by
  subst hq
  obtain ⟨vm0, k0, locs, X, eT, hS, hk, hZ, hown, hF, hN, hC, hsf, hE, ⟨a1, hEL⟩, hx, hby, hml, hnm, hrt, hlk⟩ := W
  subst hby
  by_cases q : x < 0
  · exact (K1 q).st fun u k => XS.ifYes X.here hx rfl (pc0 := pc) rfl hd rfl (XT.i0_lt_t q) ho hp k
  · exact (K2 q).st fun u k => XS.ifNo X.here hx rfl hd rfl (XT.i0_lt_f q) k
theorem o_ifge (pt pf : Nat) (W : Wk p l e R s m args below meth c Z y bytes maxL ret T h ce sl sf) {x : Int32} {o : Int} (hd : decode bytes pc = .ok (.ifCond .ge o, 3)) (K1 : ¬ x < 0 → Go p e below G T (mkF m pt L S)) (K2 : x < 0 → Go p e below G T (mkF m pf L S)) (ho : 0 ≤ (pc : Int) + o := by decide) (hp : ((pc : Int) + o).toNat = pt := by decide) (hq : pc + 3 = pf := by rfl) : Go p e below G T (mkF m pc L (.int x :: S)) := by
  subst hq
  obtain ⟨vm0, k0, locs, X, eT, hS, hk, hZ, hown, hF, hN, hC, hsf, hE, ⟨a1, hEL⟩, hx, hby, hml, hnm, hrt, hlk⟩ := W
  subst hby
  by_cases q : x < 0
  · exact (K2 q).st fun u k => XS.ifNo X.here hx rfl hd rfl (XT.i0_ge_f q) k
  · exact (K1 q).st fun u k => XS.ifYes X.here hx rfl (pc0 := pc) rfl hd rfl (XT.i0_ge_t q) ho hp k
theorem o_ifgt (pt pf : Nat) (W : Wk p l e R s m args below meth c Z y bytes maxL ret T h ce sl sf) {x : Int32} {o : Int} (hd : decode bytes pc = .ok (.ifCond .gt o, 3)) (K1 : 0 < x → Go p e below G T (mkF m pt L S)) (K2 : ¬ 0 < x → Go p e below G T (mkF m pf L S)) (ho : 0 ≤ (pc : Int) + o := by decide) (hp : ((pc : Int) + o).toNat = pt := by decide) (hq : pc + 3 = pf := by rfl) : Go p e below G T (mkF m pc L (.int x :: S)) := by
  subst hq
  obtain ⟨vm0, k0, locs, X, eT, hS, hk, hZ, hown, hF, hN, hC, hsf, hE, ⟨a1, hEL⟩, hx, hby, hml, hnm, hrt, hlk⟩ := W
  subst hby
  by_cases q : 0 < x
  · exact (K1 q).st fun u k => XS.ifYes X.here hx rfl (pc0 := pc) rfl hd rfl (XT.i0_gt_t q) ho hp k
  · exact (K2 q).st fun u k => XS.ifNo X.here hx rfl hd rfl (XT.i0_gt_f q) k
theorem o_ifle (pt pf : Nat) (W : Wk p l e R s m args below meth c Z y bytes maxL ret T h ce sl sf) {x : Int32} {o : Int} (hd : decode bytes pc = .ok (.ifCond .le o, 3)) (K1 : ¬ 0 < x → Go p e below G T (mkF m pt L S)) (K2 : 0 < x → Go p e below G T (mkF m pf L S)) (ho : 0 ≤ (pc : Int) + o := by decide) (hp : ((pc : Int) + o).toNat = pt := by decide) (hq : pc + 3 = pf := by rfl) : Go p e below G T (mkF m pc L (.int x :: S)) := by
  subst hq
  obtain ⟨vm0, k0, locs, X, eT, hS, hk, hZ, hown, hF, hN, hC, hsf, hE, ⟨a1, hEL⟩, hx, hby, hml, hnm, hrt, hlk⟩ := W
  subst hby
  by_cases q : 0 < x
  · exact (K2 q).st fun u k => XS.ifNo X.here hx rfl hd rfl (XT.i0_le_f q) k
  · exact (K1 q).st fun u k => XS.ifYes X.here hx rfl (pc0 := pc) rfl hd rfl (XT.i0_le_t q) ho hp k
theorem o_iceq (pt pf : Nat) (W : Wk p l e R s m args below meth c Z y bytes maxL ret T h ce sl sf) {x z : Int32} {o : Int} (hd : decode bytes pc = .ok (.if_icmp .eq o, 3)) (K1 : x = z → Go p e below G T (mkF m pt L S)) (K2 : ¬ x = z → Go p e below G T (mkF m pf L S)) (ho : 0 ≤ (pc : Int) + o := by decide) (hp : ((pc : Int) + o).toNat = pt := by decide) (hq : pc + 3 = pf := by rfl) : Go p e below G T (mkF m pc L (.int z :: .int x :: S)) := by
  subst hq
  obtain ⟨vm0, k0, locs, X, eT, hS, hk, hZ, hown, hF, hN, hC, hsf, hE, ⟨a1, hEL⟩, hx, hby, hml, hnm, hrt, hlk⟩ := W
  subst hby
  by_cases q : x = z
  · exact (K1 q).st fun u k => XS.icmpYes X.here hx rfl (pc0 := pc) rfl hd rfl (XT.ii_eq_t q) ho hp k
  · exact (K2 q).st fun u k => XS.icmpNo X.here hx rfl hd rfl (XT.ii_eq_f q) k
theorem o_icne (pt pf : Nat) (W : Wk p l e R s m args below meth c Z y bytes maxL ret T h ce sl sf) {x z : Int32} {o : Int} (hd : decode bytes pc = .ok (.if_icmp .ne o, 3)) (K1 : ¬ x = z → Go p e below G T (mkF m pt L S)) (K2 : x = z → Go p e below G T (mkF m pf L S)) (ho : 0 ≤ (pc : Int) + o := by decide) (hp : ((pc : Int) + o).toNat = pt := by decide) (hq : pc + 3 = pf := by rfl) : Go p e below G T (mkF m pc L (.int z :: .int x :: S)) := by
  subst hq
  obtain ⟨vm0, k0, locs, X, eT, hS, hk, hZ, hown, hF, hN, hC, hsf, hE, ⟨a1, hEL⟩, hx, hby, hml, hnm, hrt, hlk⟩ := W
  subst hby
  by_cases q : x = z
  · exact (K2 q).st fun u k => XS.icmpNo X.here hx rfl hd rfl (XT.ii_ne_f q) k
  · exact (K1 q).st fun u k => XS.icmpYes X.here hx rfl (pc0 := pc) rfl hd rfl (XT.ii_ne_t q) ho hp k
theorem o_iclt (pt pf : Nat) (W : Wk p l e R s m args below meth c Z y bytes maxL ret T h ce sl sf) {x z : Int32} {o : Int} (hd : decode bytes pc = .ok (.if_icmp .lt o, 3)) (K1 : x < z → Go p e below G T (mkF m pt L S)) (K2 : ¬ x < z → Go p e below G T (mkF m pf L S)) (ho : 0 ≤ (pc : Int) + o := by decide) (hp : ((pc : Int) + o).toNat = pt := by decide) (hq : pc + 3 = pf := by rfl) : Go p e below G T (mkF m pc L (.int z :: .int x :: S)) := by
  subst hq
  obtain ⟨vm0, k0, locs, X, eT, hS, hk, hZ, hown, hF, hN, hC, hsf, hE, ⟨a1, hEL⟩, hx, hby, hml, hnm, hrt, hlk⟩ := W
  subst hby
  by_cases q : x < z
  · exact (K1 q).st fun u k => XS.icmpYes X.here hx rfl (pc0 := pc) rfl hd rfl (XT.ii_lt_t q) ho hp k
  · exact (K2 q).st fun u k => XS.icmpNo X.here hx rfl hd rfl (XT.ii_lt_f q) k
theorem o_icge (pt pf : Nat) (W : Wk p l e R s m args below meth c Z y bytes maxL ret T h ce sl sf) {x z : Int32} {o : Int} (hd : decode bytes pc = .ok (.if_icmp .ge o, 3)) (K1 : ¬ x < z → Go p e below G T (mkF m pt L S)) (K2 : x < z → Go p e below G T (mkF m pf L S)) (ho : 0 ≤ (pc : Int) + o := by decide) (hp : ((pc : Int) + o).toNat = pt := by decide) (hq : pc + 3 = pf := by rfl) : Go p e below G T (mkF m pc L (.int z :: .int x :: S)) := by
  subst hq
  obtain ⟨vm0, k0, locs, X, eT, hS, hk, hZ, hown, hF, hN, hC, hsf, hE, ⟨a1, hEL⟩, hx, hby, hml, hnm, hrt, hlk⟩ := W
  subst hby
  by_cases q : x < z
  · exact (K2 q).st fun u k => XS.icmpNo X.here hx rfl hd rfl (XT.ii_ge_f q) k
  · exact (K1 q).st fun u k => XS.icmpYes X.here hx rfl (pc0 := pc) rfl hd rfl (XT.ii_ge_t q) ho hp k
theorem o_icgt (pt pf : Nat) (W : Wk p l e R s m args below meth c Z y bytes maxL ret T h ce sl sf) {x z : Int32} {o : Int} (hd : decode bytes pc = .ok (.if_icmp .gt o, 3)) (K1 : z < x → Go p e below G T (mkF m pt L S)) (K2 : ¬ z < x → Go p e below G T (mkF m pf L S)) (ho : 0 ≤ (pc : Int) + o := by decide) (hp : ((pc : Int) + o).toNat = pt := by decide) (hq : pc + 3 = pf := by rfl) : Go p e below G T (mkF m pc L (.int z :: .int x :: S)) := by
  subst hq
  obtain ⟨vm0, k0, locs, X, eT, hS, hk, hZ, hown, hF, hN, hC, hsf, hE, ⟨a1, hEL⟩, hx, hby, hml, hnm, hrt, hlk⟩ := W
  subst hby
  by_cases q : z < x
  · exact (K1 q).st fun u k => XS.icmpYes X.here hx rfl (pc0 := pc) rfl hd rfl (XT.ii_gt_t q) ho hp k
  · exact (K2 q).st fun u k => XS.icmpNo X.here hx rfl hd rfl (XT.ii_gt_f q) k
theorem o_icle (pt pf : Nat) (W : Wk p l e R s m args below meth c Z y bytes maxL ret T h ce sl sf) {x z : Int32} {o : Int} (hd : decode bytes pc = .ok (.if_icmp .le o, 3)) (K1 : ¬ z < x → Go p e below G T (mkF m pt L S)) (K2 : z < x → Go p e below G T (mkF m pf L S)) (ho : 0 ≤ (pc : Int) + o := by decide) (hp : ((pc : Int) + o).toNat = pt := by decide) (hq : pc + 3 = pf := by rfl) : Go p e below G T (mkF m pc L (.int z :: .int x :: S)) := by
  subst hq
  obtain ⟨vm0, k0, locs, X, eT, hS, hk, hZ, hown, hF, hN, hC, hsf, hE, ⟨a1, hEL⟩, hx, hby, hml, hnm, hrt, hlk⟩ := W
  subst hby
  by_cases q : z < x
  · exact (K2 q).st fun u k => XS.icmpNo X.here hx rfl hd rfl (XT.ii_le_f q) k
  · exact (K1 q).st fun u k => XS.icmpYes X.here hx rfl (pc0 := pc) rfl hd rfl (XT.ii_le_t q) ho hp k
theorem o_lceq (pt pf : Nat) (W : Wk p l e R s m args below meth c Z y bytes maxL ret T h ce sl sf) {x z : Int64} {o : Int} (hd : decode bytes pc = .ok (.ifCond .eq o, 3)) (K1 : x = z → Go p e below G T (mkF m pt L S)) (K2 : ¬ x = z → Go p e below G T (mkF m pf L S)) (ho : 0 ≤ (pc : Int) + o := by decide) (hp : ((pc : Int) + o).toNat = pt := by decide) (hq : pc + 3 = pf := by rfl) : Go p e below G T (mkF m pc L (.int (XT.cmpL x z) :: S)) := by
  subst hq
  obtain ⟨vm0, k0, locs, X, eT, hS, hk, hZ, hown, hF, hN, hC, hsf, hE, ⟨a1, hEL⟩, hx, hby, hml, hnm, hrt, hlk⟩ := W
  subst hby
  by_cases q : x = z
  · exact (K1 q).st fun u k => XS.ifYes X.here hx rfl (pc0 := pc) rfl hd rfl (XT.ll_eq_t q) ho hp k
  · exact (K2 q).st fun u k => XS.ifNo X.here hx rfl hd rfl (XT.ll_eq_f q) k
theorem o_lcne (pt pf : Nat) (W : Wk p l e R s m args below meth c Z y bytes maxL ret T h ce sl sf) {x z : Int64} {o : Int} (hd : decode bytes pc = .ok (.ifCond .ne o, 3)) (K1 : ¬ x = z → Go p e below G T (mkF m pt L S)) (K2 : x = z → Go p e below G T (mkF m pf L S)) (ho : 0 ≤ (pc : Int) + o := by decide) (hp : ((pc : Int) + o).toNat = pt := by decide) (hq : pc + 3 = pf := by rfl) : Go p e below G T (mkF m pc L (.int (XT.cmpL x z) :: S)) := by
  subst hq
  obtain ⟨vm0, k0, locs, X, eT, hS, hk, hZ, hown, hF, hN, hC, hsf, hE, ⟨a1, hEL⟩, hx, hby, hml, hnm, hrt, hlk⟩ := W
  subst hby
  by_cases q : x = z
  · exact (K2 q).st fun u k => XS.ifNo X.here hx rfl hd rfl (XT.ll_ne_f q) k
  · exact (K1 q).st fun u k => XS.ifYes X.here hx rfl (pc0 := pc) rfl hd rfl (XT.ll_ne_t q) ho hp k
theorem o_lclt (pt pf : Nat) (W : Wk p l e R s m args below meth c Z y bytes maxL ret T h ce sl sf) {x z : Int64} {o : Int} (hd : decode bytes pc = .ok (.ifCond .lt o, 3)) (K1 : x < z → Go p e below G T (mkF m pt L S)) (K2 : ¬ x < z → Go p e below G T (mkF m pf L S)) (ho : 0 ≤ (pc : Int) + o := by decide) (hp : ((pc : Int) + o).toNat = pt := by decide) (hq : pc + 3 = pf := by rfl) : Go p e below G T (mkF m pc L (.int (XT.cmpL x z) :: S)) := by
  subst hq
  obtain ⟨vm0, k0, locs, X, eT, hS, hk, hZ, hown, hF, hN, hC, hsf, hE, ⟨a1, hEL⟩, hx, hby, hml, hnm, hrt, hlk⟩ := W
  subst hby
  by_cases q : x < z
  · exact (K1 q).st fun u k => XS.ifYes X.here hx rfl (pc0 := pc) rfl hd rfl (XT.ll_lt_t q) ho hp k
  · exact (K2 q).st fun u k => XS.ifNo X.here hx rfl hd rfl (XT.ll_lt_f q) k
theorem o_lcge (pt pf : Nat) (W : Wk p l e R s m args below meth c Z y bytes maxL ret T h ce sl sf) {x z : Int64} {o : Int} (hd : decode bytes pc = .ok (.ifCond .ge o, 3)) (K1 : ¬ x < z → Go p e below G T (mkF m pt L S)) (K2 : x < z → Go p e below G T (mkF m pf L S)) (ho : 0 ≤ (pc : Int) + o := by decide) (hp : ((pc : Int) + o).toNat = pt := by decide) (hq : pc + 3 = pf := by rfl) : Go p e below G T (mkF m pc L (.int (XT.cmpL x z) :: S)) := by
  subst hq
  obtain ⟨vm0, k0, locs, X, eT, hS, hk, hZ, hown, hF, hN, hC, hsf, hE, ⟨a1, hEL⟩, hx, hby, hml, hnm, hrt, hlk⟩ := W
  subst hby
  by_cases q : x < z
  · exact (K2 q).st fun u k => XS.ifNo X.here hx rfl hd rfl (XT.ll_ge_f q) k
  · exact (K1 q).st fun u k => XS.ifYes X.here hx rfl (pc0 := pc) rfl hd rfl (XT.ll_ge_t q) ho hp k
theorem o_lcgt (pt pf : Nat) (W : Wk p l e R s m args below meth c Z y bytes maxL ret T h ce sl sf) {x z : Int64} {o : Int} (hd : decode bytes pc = .ok (.ifCond .gt o, 3)) (K1 : z < x → Go p e below G T (mkF m pt L S)) (K2 : ¬ z < x → Go p e below G T (mkF m pf L S)) (ho : 0 ≤ (pc : Int) + o := by decide) (hp : ((pc : Int) + o).toNat = pt := by decide) (hq : pc + 3 = pf := by rfl) : Go p e below G T (mkF m pc L (.int (XT.cmpL x z) :: S)) := by
  subst hq
  obtain ⟨vm0, k0, locs, X, eT, hS, hk, hZ, hown, hF, hN, hC, hsf, hE, ⟨a1, hEL⟩, hx, hby, hml, hnm, hrt, hlk⟩ := W
  subst hby
  by_cases q : z < x
  · exact (K1 q).st fun u k => XS.ifYes X.here hx rfl (pc0 := pc) rfl hd rfl (XT.ll_gt_t q) ho hp k
  · exact (K2 q).st fun u k => XS.ifNo X.here hx rfl hd rfl (XT.ll_gt_f q) k
theorem o_lcle (pt pf : Nat) (W : Wk p l e R s m args below meth c Z y bytes maxL ret T h ce sl sf) {x z : Int64} {o : Int} (hd : decode bytes pc = .ok (.ifCond .le o, 3)) (K1 : ¬ z < x → Go p e below G T (mkF m pt L S)) (K2 : z < x → Go p e below G T (mkF m pf L S)) (ho : 0 ≤ (pc : Int) + o := by decide) (hp : ((pc : Int) + o).toNat = pt := by decide) (hq : pc + 3 = pf := by rfl) : Go p e below G T (mkF m pc L (.int (XT.cmpL x z) :: S)) := by
  subst hq
  obtain ⟨vm0, k0, locs, X, eT, hS, hk, hZ, hown, hF, hN, hC, hsf, hE, ⟨a1, hEL⟩, hx, hby, hml, hnm, hrt, hlk⟩ := W
  subst hby
  by_cases q : z < x
  · exact (K2 q).st fun u k => XS.ifNo X.here hx rfl hd rfl (XT.ll_le_f q) k
  · exact (K1 q).st fun u k => XS.ifYes X.here hx rfl (pc0 := pc) rfl hd rfl (XT.ll_le_t q) ho hp k
theorem o_ifY (pc' : Nat) (W : Wk p l e R s m args below meth c Z y bytes maxL ret T h ce sl sf) {cd : ClassFile.Cond} {x : Int32} {o : Int} (hd : decode bytes pc = .ok (.ifCond cd o, 3)) (hc : ifCond.holds cd x = true) (K : Go p e below G T (mkF m pc' L (S))) (ho : 0 ≤ (pc : Int) + o := by decide) (hp : ((pc : Int) + o).toNat = pc' := by decide) : Go p e below G T (mkF m pc L (.int x :: S)) := by
  obtain ⟨vm0, k0, locs, X, eT, hS, hk, hZ, hown, hF, hN, hC, hsf, hE, ⟨a1, hEL⟩, hx, hby, hml, hnm, hrt, hlk⟩ := W
  subst hby
  exact K.st fun u k => XS.ifYes X.here hx rfl (pc0 := pc) rfl hd rfl hc ho hp k
theorem o_ifN (pc' : Nat) (W : Wk p l e R s m args below meth c Z y bytes maxL ret T h ce sl sf) {cd : ClassFile.Cond} {o : Int} {x : Int32} (hd : decode bytes pc = .ok (.ifCond cd o, 3)) (hc : ifCond.holds cd x = false) (K : Go p e below G T (mkF m pc' L (S))) (hp : pc + 3 = pc' := by rfl) : Go p e below G T (mkF m pc L (.int x :: S)) := by
  subst hp
  obtain ⟨vm0, k0, locs, X, eT, hS, hk, hZ, hown, hF, hN, hC, hsf, hE, ⟨a1, hEL⟩, hx, hby, hml, hnm, hrt, hlk⟩ := W
  subst hby
  exact K.st fun u k => XS.ifNo X.here hx rfl hd rfl hc k
theorem o_icY (pc' : Nat) (W : Wk p l e R s m args below meth c Z y bytes maxL ret T h ce sl sf) {cd : ClassFile.Cond} {x z : Int32} {o : Int} (hd : decode bytes pc = .ok (.if_icmp cd o, 3)) (hc : if_icmp.holds cd x z = true) (K : Go p e below G T (mkF m pc' L (S))) (ho : 0 ≤ (pc : Int) + o := by decide) (hp : ((pc : Int) + o).toNat = pc' := by decide) : Go p e below G T (mkF m pc L (.int z :: .int x :: S)) := by
  obtain ⟨vm0, k0, locs, X, eT, hS, hk, hZ, hown, hF, hN, hC, hsf, hE, ⟨a1, hEL⟩, hx, hby, hml, hnm, hrt, hlk⟩ := W
  subst hby
  exact K.st fun u k => XS.icmpYes X.here hx rfl (pc0 := pc) rfl hd rfl hc ho hp k
theorem o_icN (pc' : Nat) (W : Wk p l e R s m args below meth c Z y bytes maxL ret T h ce sl sf) {cd : ClassFile.Cond} {o : Int} {x z : Int32} (hd : decode bytes pc = .ok (.if_icmp cd o, 3)) (hc : if_icmp.holds cd x z = false) (K : Go p e below G T (mkF m pc' L (S))) (hp : pc + 3 = pc' := by rfl) : Go p e below G T (mkF m pc L (.int z :: .int x :: S)) := by
  subst hp
  obtain ⟨vm0, k0, locs, X, eT, hS, hk, hZ, hown, hF, hN, hC, hsf, hE, ⟨a1, hEL⟩, hx, hby, hml, hnm, hrt, hlk⟩ := W
  subst hby
  exact K.st fun u k => XS.icmpNo X.here hx rfl hd rfl hc k
theorem o_nullY (pc' : Nat) (W : Wk p l e R s m args below meth c Z y bytes maxL ret T h ce sl sf)  {o : Int} (hd : decode bytes pc = .ok (.ifnull o, 3))  (K : Go p e below G T (mkF m pc' L (S))) (ho : 0 ≤ (pc : Int) + o := by decide) (hp : ((pc : Int) + o).toNat = pc' := by decide) : Go p e below G T (mkF m pc L (.null :: S)) := by
  obtain ⟨vm0, k0, locs, X, eT, hS, hk, hZ, hown, hF, hN, hC, hsf, hE, ⟨a1, hEL⟩, hx, hby, hml, hnm, hrt, hlk⟩ := W
  subst hby
  exact K.st fun u k => XS.ifnullYes X.here hx rfl (pc0 := pc) rfl hd rfl ho hp k
theorem o_nullN (pc' : Nat) (W : Wk p l e R s m args below meth c Z y bytes maxL ret T h ce sl sf) {o : Int} {a : Addr} (hd : decode bytes pc = .ok (.ifnull o, 3))  (K : Go p e below G T (mkF m pc' L (S))) (hp : pc + 3 = pc' := by rfl) : Go p e below G T (mkF m pc L (.ref a :: S)) := by
  subst hp
  obtain ⟨vm0, k0, locs, X, eT, hS, hk, hZ, hown, hF, hN, hC, hsf, hE, ⟨a1, hEL⟩, hx, hby, hml, hnm, hrt, hlk⟩ := W
  subst hby
  exact K.st fun u k => XS.ifnullNo X.here hx rfl hd rfl k
theorem o_nnY (pc' : Nat) (W : Wk p l e R s m args below meth c Z y bytes maxL ret T h ce sl sf) {a : Addr} {o : Int} (hd : decode bytes pc = .ok (.ifnonnull o, 3))  (K : Go p e below G T (mkF m pc' L (S))) (ho : 0 ≤ (pc : Int) + o := by decide) (hp : ((pc : Int) + o).toNat = pc' := by decide) : Go p e below G T (mkF m pc L (.ref a :: S)) := by
  obtain ⟨vm0, k0, locs, X, eT, hS, hk, hZ, hown, hF, hN, hC, hsf, hE, ⟨a1, hEL⟩, hx, hby, hml, hnm, hrt, hlk⟩ := W
  subst hby
  exact K.st fun u k => XT.ifnonnullYes X.here hx rfl (pc0 := pc) rfl hd rfl ho hp k
theorem o_nnN (pc' : Nat) (W : Wk p l e R s m args below meth c Z y bytes maxL ret T h ce sl sf) {o : Int} (hd : decode bytes pc = .ok (.ifnonnull o, 3))  (K : Go p e below G T (mkF m pc' L (S))) (hp : pc + 3 = pc' := by rfl) : Go p e below G T (mkF m pc L (.null :: S)) := by
  subst hp
  obtain ⟨vm0, k0, locs, X, eT, hS, hk, hZ, hown, hF, hN, hC, hsf, hE, ⟨a1, hEL⟩, hx, hby, hml, hnm, hrt, hlk⟩ := W
  subst hby
  exact K.st fun u k => XT.ifnonnullNo X.here hx rfl hd rfl k
theorem o_aceq (pt pf : Nat) (W : Wk p l e R s m args below meth c Z y bytes maxL ret T h ce sl sf) {x z : Value} (h1 : x.isRef = true) (h2 : z.isRef = true) {o : Int} (hd : decode bytes pc = .ok (.if_acmp .eq o, 3)) (K1 : x = z → Go p e below G T (mkF m pt L S)) (K2 : ¬ x = z → Go p e below G T (mkF m pf L S)) (ho : 0 ≤ (pc : Int) + o := by decide) (hp : ((pc : Int) + o).toNat = pt := by decide) (hq : pc + 3 = pf := by rfl) : Go p e below G T (mkF m pc L (z :: x :: S)) := by
  subst hq hp
  obtain ⟨vm0, k0, locs, X, eT, hS, hk, hZ, hown, hF, hN, hC, hsf, hE, ⟨a1, hEL⟩, hx, hby, hml, hnm, hrt, hlk⟩ := W
  subst hby
  by_cases q : x = z
  · exact (K1 q).st fun u k => acmp X hx (g := mkF m pc L (z :: x :: S)) rfl h1 h2 (same := true) rfl hd rfl (by simp [q]) ho (by rfl) k
  · exact (K2 q).st fun u k => acmp X hx (g := mkF m pc L (z :: x :: S)) rfl h1 h2 (same := false) rfl hd rfl (by simp [q]) ho (by rfl) k
theorem o_acne (pt pf : Nat) (W : Wk p l e R s m args below meth c Z y bytes maxL ret T h ce sl sf) {x z : Value} (h1 : x.isRef = true) (h2 : z.isRef = true) {o : Int} (hd : decode bytes pc = .ok (.if_acmp .ne o, 3)) (K1 : ¬ x = z → Go p e below G T (mkF m pt L S)) (K2 : x = z → Go p e below G T (mkF m pf L S)) (ho : 0 ≤ (pc : Int) + o := by decide) (hp : ((pc : Int) + o).toNat = pt := by decide) (hq : pc + 3 = pf := by rfl) : Go p e below G T (mkF m pc L (z :: x :: S)) := by
  subst hq hp
  obtain ⟨vm0, k0, locs, X, eT, hS, hk, hZ, hown, hF, hN, hC, hsf, hE, ⟨a1, hEL⟩, hx, hby, hml, hnm, hrt, hlk⟩ := W
  subst hby
  by_cases q : x = z
  · exact (K2 q).st fun u k => acmp X hx (g := mkF m pc L (z :: x :: S)) rfl h1 h2 (same := true) rfl hd rfl (by simp [q]) ho (by rfl) k
  · exact (K1 q).st fun u k => acmp X hx (g := mkF m pc L (z :: x :: S)) rfl h1 h2 (same := false) rfl hd rfl (by simp [q]) ho (by rfl) k
theorem o_ldcI (pc' : Nat) (W : Wk p l e R s m args below meth c Z y bytes maxL ret T h ce sl sf) {i : Nat} {v : Int32} (w : (Jvm.Cond.constant y.cls i v).before a0 Z = true) (hd : decode bytes pc = .ok (.ldc i, 2)) (K : Go p e below G T (mkF m pc' L (.int v :: S))) (hp : pc + 2 = pc' := by rfl) : Go p e below G T (mkF m pc L S) := by
  subst hp
  obtain ⟨vm0, k0, locs, X, eT, hS, hk, hZ, hown, hF, hN, hC, hsf, hE, ⟨a1, hEL⟩, hx, hby, hml, hnm, hrt, hlk⟩ := W
  subst hby
  exact K.st fun u k => X.ldcI hx hown (mv hZ w) (g := mkF m pc L S) rfl hd k
theorem o_ldc2J (pc' : Nat) (W : Wk p l e R s m args below meth c Z y bytes maxL ret T h ce sl sf) {i : Nat} {v : Int64} (w : (Jvm.Cond.constantLong y.cls i v).before a0 Z = true) (hd : decode bytes pc = .ok (.ldc2_w i, 3)) (K : Go p e below G T (mkF m pc' L (.long v :: S))) (hp : pc + 3 = pc' := by rfl) : Go p e below G T (mkF m pc L S) := by
  subst hp
  obtain ⟨vm0, k0, locs, X, eT, hS, hk, hZ, hown, hF, hN, hC, hsf, hE, ⟨a1, hEL⟩, hx, hby, hml, hnm, hrt, hlk⟩ := W
  subst hby
  exact K.st fun u k => X.ldc2J hx hown (mv hZ w) (g := mkF m pc L S) rfl hd k
theorem o_getF (pc' : Nat) (W : Wk p l e R s m args below meth c Z y bytes maxL ret T h ce sl sf) {i : Nat} {R0 O n d : String} {a : Addr} {v : Value} (w : (Jvm.Cond.fieldLink y.cls i R0 n d).before a0 Z = true) (F : Fld Z h a O n d v) (hd : decode bytes pc = .ok (.getfield i, 3)) (K : ∀ T', Wk p l e R s m args below meth c Z y bytes maxL ret T' h ce sl sf → Go p e below G T' (mkF m pc' L (v :: S))) (via : Via Z R0 O n d := by exact Via.refl) (hp : pc + 3 = pc' := by rfl) : Go p e below G T (mkF m pc L (.ref a :: S)) := by
  subst hp
  obtain ⟨vm0, k0, locs, X, eT, hS, hk, hZ, hown, hF, hN, hC, hsf, hE, ⟨a1, hEL⟩, hx, hby, hml, hnm, hrt, hlk⟩ := W
  subst hby
  obtain ⟨T', X', e', st⟩ := getF X hx hZ hown (host := "") (Or.inl w) via eT F (g := mkF m pc L (.ref a :: S)) rfl rfl hd
  exact (K T' ⟨vm0, k0, locs, X', e', hS, hk, hZ, hown, hF, hN, hC, hsf, hE, ⟨a1, hEL⟩, hx, rfl, hml, hnm, hrt, hlk⟩).st st
theorem o_getS (pc' : Nat) (W : Wk p l e R s m args below meth c Z y bytes maxL ret T h ce sl sf) {i : Nat} {R0 O n d : String} {v : Value} (w : (Jvm.Cond.fieldLink y.cls i R0 n d).before a0 Z = true) (F : Sta Z Z.heap O n d v) (hd : decode bytes pc = .ok (.getstatic i, 3)) (K : ∀ T', Wk p l e R s m args below meth c Z y bytes maxL ret T' h ce sl sf → Go p e below G T' (mkF m pc' L (v :: S))) (via : Via Z R0 O n d := by exact Via.refl) (hp : pc + 3 = pc' := by rfl) : Go p e below G T (mkF m pc L S) := by
  subst hp
  obtain ⟨vm0, k0, locs, X, eT, hS, hk, hZ, hown, hF, hN, hC, hsf, hE, ⟨a1, hEL⟩, hx, hby, hml, hnm, hrt, hlk⟩ := W
  subst hby
  obtain ⟨T', X', e', st⟩ := getS X hx hZ hown w via eT (Sta.ext hE F) (g := mkF m pc L S) rfl hd (host := "")
  exact (K T' ⟨vm0, k0, locs, X', e', hS, hk, hZ, hown, hF, hN, hC, hsf, hE, ⟨a1, hEL⟩, hx, rfl, hml, hnm, hrt, hlk⟩).st st
theorem o_cast (pc' : Nat) (W : Wk p l e R s m args below meth c Z y bytes maxL ret T h ce sl sf) {i : Nat} {K0 : String} {a : Addr} (w : (Jvm.Cond.classLink y.cls i K0).before a0 Z = true) (F : Ins Z h a K0 true) (hd : decode bytes pc = .ok (.checkcast i, 3)) (K : ∀ T', Wk p l e R s m args below meth c Z y bytes maxL ret T' h ce sl sf → Go p e below G T' (mkF m pc' L (.ref a :: S))) (hp : pc + 3 = pc' := by rfl) : Go p e below G T (mkF m pc L (.ref a :: S)) := by
  subst hp
  obtain ⟨vm0, k0, locs, X, eT, hS, hk, hZ, hown, hF, hN, hC, hsf, hE, ⟨a1, hEL⟩, hx, hby, hml, hnm, hrt, hlk⟩ := W
  subst hby
  obtain ⟨T', X', e', st⟩ := castY X hx hZ hown w eT F (g := mkF m pc L (.ref a :: S)) rfl rfl hd
  exact (K T' ⟨vm0, k0, locs, X', e', hS, hk, hZ, hown, hF, hN, hC, hsf, hE, ⟨a1, hEL⟩, hx, rfl, hml, hnm, hrt, hlk⟩).st st
theorem o_instY (pc' : Nat) (W : Wk p l e R s m args below meth c Z y bytes maxL ret T h ce sl sf) {i : Nat} {K0 : String} {a : Addr} (w : (Jvm.Cond.classLink y.cls i K0).before a0 Z = true) (F : Ins Z h a K0 true) (hd : decode bytes pc = .ok (.instanceof i, 3)) (K : ∀ T', Wk p l e R s m args below meth c Z y bytes maxL ret T' h ce sl sf → Go p e below G T' (mkF m pc' L (.int 1 :: S))) (hp : pc + 3 = pc' := by rfl) : Go p e below G T (mkF m pc L (.ref a :: S)) := by
  subst hp
  obtain ⟨vm0, k0, locs, X, eT, hS, hk, hZ, hown, hF, hN, hC, hsf, hE, ⟨a1, hEL⟩, hx, hby, hml, hnm, hrt, hlk⟩ := W
  subst hby
  obtain ⟨T', X', e', st⟩ := instY X hx hZ hown w eT F (g := mkF m pc L (.ref a :: S)) rfl rfl hd
  exact (K T' ⟨vm0, k0, locs, X', e', hS, hk, hZ, hown, hF, hN, hC, hsf, hE, ⟨a1, hEL⟩, hx, rfl, hml, hnm, hrt, hlk⟩).st st
theorem o_instN (pc' : Nat) (W : Wk p l e R s m args below meth c Z y bytes maxL ret T h ce sl sf) {i : Nat} {K0 C : String} {a : Addr} (w : (Jvm.Cond.classLink y.cls i K0).before a0 Z = true) (E : Exa Z h a C) (F : ∃ c t, Z.vm.findClass C = some c ∧ Z.vm.findClass K0 = some t ∧ Z.vm.assignable c t = false) (hd : decode bytes pc = .ok (.instanceof i, 3)) (K : ∀ T', Wk p l e R s m args below meth c Z y bytes maxL ret T' h ce sl sf → Go p e below G T' (mkF m pc' L (.int 0 :: S))) (hp : pc + 3 = pc' := by rfl) : Go p e below G T (mkF m pc L (.ref a :: S)) := by
  subst hp
  obtain ⟨vm0, k0, locs, X, eT, hS, hk, hZ, hown, hF, hN, hC, hsf, hE, ⟨a1, hEL⟩, hx, hby, hml, hnm, hrt, hlk⟩ := W
  subst hby
  obtain ⟨T', X', e', st⟩ := instNo X hx hZ hown w eT E F (g := mkF m pc L (.ref a :: S)) rfl rfl hd
  exact (K T' ⟨vm0, k0, locs, X', e', hS, hk, hZ, hown, hF, hN, hC, hsf, hE, ⟨a1, hEL⟩, hx, rfl, hml, hnm, hrt, hlk⟩).st st
theorem o_instNull (pc' : Nat) (W : Wk p l e R s m args below meth c Z y bytes maxL ret T h ce sl sf) {i : Nat} (hd : decode bytes pc = .ok (.instanceof i, 3)) (K : Go p e below G T (mkF m pc' L (.int 0 :: S))) (hp : pc + 3 = pc' := by rfl) : Go p e below G T (mkF m pc L (.null :: S)) := by
  subst hp
  obtain ⟨vm0, k0, locs, X, eT, hS, hk, hZ, hown, hF, hN, hC, hsf, hE, ⟨a1, hEL⟩, hx, hby, hml, hnm, hrt, hlk⟩ := W
  subst hby
  exact K.st fun u k => X.instanceofNull hx (g := mkF m pc L (.null :: S)) rfl rfl hd u k
theorem o_castNull (pc' : Nat) (W : Wk p l e R s m args below meth c Z y bytes maxL ret T h ce sl sf) {i : Nat} (hd : decode bytes pc = .ok (.checkcast i, 3)) (K : Go p e below G T (mkF m pc' L (.null :: S))) (hp : pc + 3 = pc' := by rfl) : Go p e below G T (mkF m pc L (.null :: S)) := by
  subst hp
  obtain ⟨vm0, k0, locs, X, eT, hS, hk, hZ, hown, hF, hN, hC, hsf, hE, ⟨a1, hEL⟩, hx, hby, hml, hnm, hrt, hlk⟩ := W
  subst hby
  exact K.st fun u k => X.checkcastNull hx (g := mkF m pc L (.null :: S)) rfl rfl hd u k
theorem o_iaload (pc' : Nat) (W : Wk p l e R s m args below meth c Z y bytes maxL ret T h ce sl sf) {a : Addr} {cl : Cell} {j : Int32} {v : Value} (A : Arr Z h a cl .int) (hj : ¬ (j < 0 ∨ cl.slots.size ≤ j.toNatClampNeg)) (hv : cl.slots[j.toNatClampNeg]? = some v) (hd : decode bytes pc = .ok (.iaload, 1)) (K : Go p e below G T (mkF m pc' L (v :: S))) (hp : pc + 1 = pc' := by rfl) : Go p e below G T (mkF m pc L (.int j :: .ref a :: S)) := by
  subst hp
  obtain ⟨vm0, k0, locs, X, eT, hS, hk, hZ, hown, hF, hN, hC, hsf, hE, ⟨a1, hEL⟩, hx, hby, hml, hnm, hrt, hlk⟩ := W
  subst hby
  exact K.st fun u k => X.iaload hx (by rw [eT]; exact A.1) (State.isArrayOf_alike hZ.alike A.2.1) A.2.2 hj hv (g := mkF m pc L (.int j :: .ref a :: S)) rfl rfl hd u k
theorem o_caload (pc' : Nat) (W : Wk p l e R s m args below meth c Z y bytes maxL ret T h ce sl sf) {a : Addr} {cl : Cell} {j : Int32} {v : Value} (A : Arr Z h a cl .char) (hj : ¬ (j < 0 ∨ cl.slots.size ≤ j.toNatClampNeg)) (hv : cl.slots[j.toNatClampNeg]? = some v) (hd : decode bytes pc = .ok (.caload, 1)) (K : Go p e below G T (mkF m pc' L (v :: S))) (hp : pc + 1 = pc' := by rfl) : Go p e below G T (mkF m pc L (.int j :: .ref a :: S)) := by
  subst hp
  obtain ⟨vm0, k0, locs, X, eT, hS, hk, hZ, hown, hF, hN, hC, hsf, hE, ⟨a1, hEL⟩, hx, hby, hml, hnm, hrt, hlk⟩ := W
  subst hby
  exact K.st fun u k => X.caload hx (by rw [eT]; exact A.1) (State.isArrayOf_alike hZ.alike A.2.1) A.2.2 hj hv (g := mkF m pc L (.int j :: .ref a :: S)) rfl rfl hd u k
theorem o_baload (pc' : Nat) (W : Wk p l e R s m args below meth c Z y bytes maxL ret T h ce sl sf) {a : Addr} {cl : Cell} {j : Int32} {v : Value} (A : Arr Z h a cl .byte) (hj : ¬ (j < 0 ∨ cl.slots.size ≤ j.toNatClampNeg)) (hv : cl.slots[j.toNatClampNeg]? = some v) (hd : decode bytes pc = .ok (.baload, 1)) (K : Go p e below G T (mkF m pc' L (v :: S))) (hp : pc + 1 = pc' := by rfl) : Go p e below G T (mkF m pc L (.int j :: .ref a :: S)) := by
  subst hp
  obtain ⟨vm0, k0, locs, X, eT, hS, hk, hZ, hown, hF, hN, hC, hsf, hE, ⟨a1, hEL⟩, hx, hby, hml, hnm, hrt, hlk⟩ := W
  subst hby
  exact K.st fun u k => X.baloadBytes hx (by rw [eT]; exact A.1) (State.isArrayOf_alike hZ.alike A.2.1) A.2.2 hj hv (g := mkF m pc L (.int j :: .ref a :: S)) rfl rfl hd u k
theorem o_laload (pc' : Nat) (W : Wk p l e R s m args below meth c Z y bytes maxL ret T h ce sl sf) {a : Addr} {cl : Cell} {j : Int32} {v : Value} (A : Arr Z h a cl .long) (hj : ¬ (j < 0 ∨ cl.slots.size ≤ j.toNatClampNeg)) (hv : cl.slots[j.toNatClampNeg]? = some v) (hd : decode bytes pc = .ok (.laload, 1)) (K : Go p e below G T (mkF m pc' L (v :: S))) (hp : pc + 1 = pc' := by rfl) : Go p e below G T (mkF m pc L (.int j :: .ref a :: S)) := by
  subst hp
  obtain ⟨vm0, k0, locs, X, eT, hS, hk, hZ, hown, hF, hN, hC, hsf, hE, ⟨a1, hEL⟩, hx, hby, hml, hnm, hrt, hlk⟩ := W
  subst hby
  exact K.st fun u k => X.laload hx (by rw [eT]; exact A.1) (State.isArrayOf_alike hZ.alike A.2.1) A.2.2 hj hv (g := mkF m pc L (.int j :: .ref a :: S)) rfl rfl hd u k
theorem o_aaload (pc' : Nat) (W : Wk p l e R s m args below meth c Z y bytes maxL ret T h ce sl sf) {a : Addr} {cl : Cell} {j : Int32} {v : Value} {ty : FieldType} (A : Arr Z h a cl ty) (hty : ty.isReference = true) (hj : ¬ (j < 0 ∨ cl.slots.size ≤ j.toNatClampNeg)) (hv : cl.slots[j.toNatClampNeg]? = some v) (hd : decode bytes pc = .ok (.aaload, 1)) (K : Go p e below G T (mkF m pc' L (v :: S))) (hp : pc + 1 = pc' := by rfl) : Go p e below G T (mkF m pc L (.int j :: .ref a :: S)) := by
  subst hp
  obtain ⟨vm0, k0, locs, X, eT, hS, hk, hZ, hown, hF, hN, hC, hsf, hE, ⟨a1, hEL⟩, hx, hby, hml, hnm, hrt, hlk⟩ := W
  subst hby
  exact K.st fun u k => X.aaload hx (by rw [eT]; exact A.1) (State.isArrayOf_alike hZ.alike A.2.1) hty A.2.2 hj hv (g := mkF m pc L (.int j :: .ref a :: S)) rfl rfl hd u k
theorem o_alen (pc' : Nat) (W : Wk p l e R s m args below meth c Z y bytes maxL ret T h ce sl sf) {a : Addr} {cl : Cell} {ty : FieldType} (n : Int32) (A : Arr Z h a cl ty) (hn : cl.slots.size.toInt32 = n) (hd : decode bytes pc = .ok (.arraylength, 1)) (K : Go p e below G T (mkF m pc' L (.int n :: S))) (hp : pc + 1 = pc' := by rfl) : Go p e below G T (mkF m pc L (.ref a :: S)) := by
  subst hp hn
  obtain ⟨vm0, k0, locs, X, eT, hS, hk, hZ, hown, hF, hN, hC, hsf, hE, ⟨a1, hEL⟩, hx, hby, hml, hnm, hrt, hlk⟩ := W
  subst hby
  exact K.st fun u k => X.arraylength hx (by rw [eT]; exact A.1) (State.isArrayOf_alike hZ.alike A.2.1) (g := mkF m pc L (.ref a :: S)) rfl rfl hd u k
theorem o_ialoadV (pc' : Nat) (W : Wk p l e R s m args below meth c Z y bytes maxL ret T h ce sl sf) {a : Addr} {k : ClassId} {z j : Int32} {vs : List Value} {dv v : Value} (A : Arv Z h a k .int z vs dv) (hj : ¬ j < 0 ∧ j < z) (hv : vs.getD j.toNatClampNeg dv = v) (hd : decode bytes pc = .ok (.iaload, 1)) (K : Go p e below G T (mkF m pc' L (v :: S))) (hp : pc + 1 = pc' := by rfl) : Go p e below G T (mkF m pc L (.int j :: .ref a :: S)) := by
  obtain ⟨cl, A1, A2, A3, A4, A5, A6⟩ := A
  exact o_iaload pc' W A1 (inb_of A3 hj) (Has.at A5 (inb_of A3 hj) hv) hd K hp
theorem o_caloadV (pc' : Nat) (W : Wk p l e R s m args below meth c Z y bytes maxL ret T h ce sl sf) {a : Addr} {k : ClassId} {z j : Int32} {vs : List Value} {dv v : Value} (A : Arv Z h a k .char z vs dv) (hj : ¬ j < 0 ∧ j < z) (hv : vs.getD j.toNatClampNeg dv = v) (hd : decode bytes pc = .ok (.caload, 1)) (K : Go p e below G T (mkF m pc' L (v :: S))) (hp : pc + 1 = pc' := by rfl) : Go p e below G T (mkF m pc L (.int j :: .ref a :: S)) := by
  obtain ⟨cl, A1, A2, A3, A4, A5, A6⟩ := A
  exact o_caload pc' W A1 (inb_of A3 hj) (Has.at A5 (inb_of A3 hj) hv) hd K hp
theorem o_baloadV (pc' : Nat) (W : Wk p l e R s m args below meth c Z y bytes maxL ret T h ce sl sf) {a : Addr} {k : ClassId} {z j : Int32} {vs : List Value} {dv v : Value} (A : Arv Z h a k .byte z vs dv) (hj : ¬ j < 0 ∧ j < z) (hv : vs.getD j.toNatClampNeg dv = v) (hd : decode bytes pc = .ok (.baload, 1)) (K : Go p e below G T (mkF m pc' L (v :: S))) (hp : pc + 1 = pc' := by rfl) : Go p e below G T (mkF m pc L (.int j :: .ref a :: S)) := by
  obtain ⟨cl, A1, A2, A3, A4, A5, A6⟩ := A
  exact o_baload pc' W A1 (inb_of A3 hj) (Has.at A5 (inb_of A3 hj) hv) hd K hp
theorem o_alenV (pc' : Nat) (W : Wk p l e R s m args below meth c Z y bytes maxL ret T h ce sl sf) {a : Addr} {k : ClassId} {z : Int32} {ty : FieldType} {vs : List Value} {dv : Value} (A : Arv Z h a k ty z vs dv) (hd : decode bytes pc = .ok (.arraylength, 1)) (K : Go p e below G T (mkF m pc' L (.int z :: S))) (hp : pc + 1 = pc' := by rfl) : Go p e below G T (mkF m pc L (.ref a :: S)) := by
  obtain ⟨cl, A1, A2, A3, A4, A5, A6⟩ := A
  exact o_alen pc' W z A1 (len_of A3 A4) hd K hp
theorem o_new (pc' : Nat) (W : Wk p l e R s m args below meth c Z y bytes maxL ret T h ce sl sf) {C : String} {i n : Nat} (w : (Jvm.Cond.classLink y.cls i C).before a0 Z = true) (wi : (Jvm.Cond.instantiable C n).before a0 Z = true) (wz : (Jvm.Cond.initialized C).before a0 Z = true) (hd : decode bytes pc = .ok (.new i, 3))
    (K : ∀ T' h' a, Wk p l e R s m args below meth c Z y bytes maxL ret T' h' (ce + 1) (sl + n) (a :: sf) → Ext h h' → Exa Z h' a C → (∀ {O nm d : String} {ty : FieldType}, Laid Z a0 C O nm d → parseFieldDescriptor d = some ty → Fld Z h' a O nm d (defaultValue ty)) → h.size ≤ a → Z.heap.size ≤ a → Go p e below G T' (mkF m pc' L (.ref a :: S)))
    (hc : ce + 1 ≤ R.cells := by decide) (hs : sl + n ≤ R.slots := by decide) (hp : pc + 3 = pc' := by rfl) : Go p e below G T (mkF m pc L S) := by
  subst hp
  obtain ⟨vm0, k0, locs, X, eT, hS, hk, hZ, hown, hF, hN, hC, hsf, hE, ⟨a1, hEL⟩, hx, hby, hml, hnm, hrt, hlk⟩ := W
  subst hby
  obtain ⟨T', h', X', e', E, A, D, -, st⟩ := newO X hx hZ hown w wi wz eT (g := mkF m pc L S) rfl hd hc hs
  refine (K T' h' h.size ⟨vm0, k0, locs, X', e', hS, Nat.le_trans hk E.1, hZ, hown, hF, hN, hC.trans (CHr.ext E hC.1), fun x q => ?_, own_ext_trans hE E, ⟨a1, hEL⟩, hx, rfl, hml, hnm, hrt, hlk⟩ E A D (Nat.le_refl _) hE.1).st st
  rcases List.mem_cons.mp q with rfl | q
  · exact ⟨A.lt, Safe.ext E hC.1 (Safe.new (Nat.le_refl _))⟩
  · exact ⟨Nat.lt_of_lt_of_le (hsf x q).1 E.1, Safe.ext E hC.1 (hsf x q).2⟩
theorem own_pad {a : Addr} {k : ClassId} {ty : FieldType} {z : Int32} {dv : Value} (n : Nat) (A : Arv Z h a k ty z [] dv) : Arv Z h a k ty z (List.replicate n dv) dv := A.pad fun i => by
  rw [List.getD_eq_getElem?_getD, List.getElem?_replicate]; split <;> simp
theorem o_newarray (pc' : Nat) (cap : Nat) (W : Wk p l e R s m args below meth c Z y bytes maxL ret T h ce sl sf) {aty : ArrayType} {n : Int32} (w : (Jvm.Cond.arrayClass (newarray.typeOf aty)).before a0 Z = true) (hd : decode bytes pc = .ok (.newarray aty, 2)) (hn : ¬ n < 0) (hcap : n.toNatClampNeg ≤ cap)
    (K : ∀ T' h' a k, Wk p l e R s m args below meth c Z y bytes maxL ret T' h' (ce + 1) (sl + cap) (a :: sf) → Ext h h' → Arv Z h' a k (newarray.typeOf aty) n [] (defaultValue (newarray.typeOf aty)) → h.size ≤ a → Z.heap.size ≤ a → Go p e below G T' (mkF m pc' L (.ref a :: S)))
    (hb : cap * 8 ≤ 536870912 := by decide) (hc : ce + 1 ≤ R.cells := by decide) (hs : sl + cap ≤ R.slots := by decide) (hp : pc + 2 = pc' := by rfl) : Go p e below G T (mkF m pc L (.int n :: S)) := by
  subst hp
  obtain ⟨vm0, k0, locs, X, eT, hS, hk, hZ, hown, hF, hN, hC, hsf, hE, ⟨a1, hEL⟩, hx, hby, hml, hnm, hrt, hlk⟩ := W
  subst hby
  obtain ⟨T', h', cA, X', e', E, A, st⟩ := newP X hx hZ w eT (g := mkF m pc L (.int n :: S)) rfl hd rfl hn hcap hb hc hs
  refine (K T' h' h.size cA ⟨vm0, k0, locs, X', e', hS, Nat.le_trans hk E.1, hZ, hown, hF, hN, hC.trans (CHr.ext E hC.1), fun x q => ?_, own_ext_trans hE E, ⟨a1, hEL⟩, hx, rfl, hml, hnm, hrt, hlk⟩ E (Arv.new A hn) (Nat.le_refl _) hE.1).st st
  rcases List.mem_cons.mp q with rfl | q
  · exact ⟨A.lt, Safe.ext E hC.1 (Safe.new (Nat.le_refl _))⟩
  · exact ⟨Nat.lt_of_lt_of_le (hsf x q).1 E.1, Safe.ext E hC.1 (hsf x q).2⟩
theorem o_putF (pc' : Nat) (W : Wk p l e R s m args below meth c Z y bytes maxL ret T h ce sl sf) {i kk : Nat} {R0 O n d C : String} {ty : FieldType} {a : Addr} {v old : Value} (w : (Jvm.Cond.fieldLink y.cls i R0 n d).before a0 Z = true) (F : Fld Z h a O n d old) (E : Exa Z h a C) (Lz : (Jvm.Cond.lays C O n d).before a0 Z = true ∨ ((Jvm.Cond.laysFinal C O n d).before a0 Z = true ∧ y.cls = O ∧ y.name = "<init>")) (wi : (Jvm.Cond.instantiable C kk).before a0 Z = true) (hty : parseFieldDescriptor d = some ty) (hn : narrow ty v = v) (hf : fits ty v = true) (hsafe : a ∈ sf ∨ (C ≠ "java/lang/String" ∧ C ≠ "[B")) (ha : Z.heap.size ≤ a) (hd : decode bytes pc = .ok (.putfield i, 3))
    (K : ∀ T' h', Wk p l e R s m args below meth c Z y bytes maxL ret T' h' ce sl sf → Wr h h' a (Jvm.RoadKit.slotOf Z O n d) v → Go p e below G T' (mkF m pc' L S)) (via : Via Z R0 O n d := by exact Via.refl) (hp : pc + 3 = pc' := by rfl) : Go p e below G T (mkF m pc L (v :: .ref a :: S)) := by
  subst hp
  obtain ⟨vm0, k0, locs, X, eT, hS, hk, hZ, hown, hF, hN, hC, hsf, hE, ⟨a1, hEL⟩, hx, hby, hml, hnm, hrt, hlk⟩ := W
  subst hby
  have hsa : Safe Z own_EL vm0 h a := hsafe.elim (fun q => (hsf a q).2) fun q => Safe.exa hZ.alike E q.1 q.2
  obtain ⟨T', h', X', e', Wr0, st⟩ := putF X hx hZ hown (host := "") (Or.inl w) via eT F E (Lz.imp id fun q => ⟨q.1, q.2.1, hnm.trans q.2.2⟩) wi hty hn hf (g := mkF m pc L (v :: .ref a :: S)) rfl rfl hd
  exact (K T' h' ⟨vm0, k0, _, X', e', hS, Nat.le_trans hk (Nat.le_of_eq Wr0.size.symm), hZ, hown, Fr.snoc X' hF ha, hN, hC.trans (CHr.wr Wr0 hsa hC.1), fun x q => ⟨Nat.lt_of_lt_of_le (hsf x q).1 (Nat.le_of_eq Wr0.size.symm), Safe.wr Wr0 hsa hC.1 (hsf x q).2⟩, own_ext_wr hE Wr0 ha, ⟨a1, hEL⟩, hx, rfl, hml, hnm, hrt, hlk⟩ Wr0).st st
theorem o_initO (pc' : Nat) (W : Wk p l e R s m args below meth c Z y bytes maxL ret T h ce sl sf) {i : Nat} {a : Addr} (w1 : (Jvm.Cond.methodLink y.cls i Lib.objectInit).before a0 Z = true) (w2 : (Jvm.Cond.instanceMethod Lib.objectInit).before a0 Z = true) (w3 : (Jvm.Cond.code Lib.objectInit ⟨#[0xb1]⟩ 1 none).before a0 Z = true) (hd : decode bytes pc = .ok (.invokespecial i, 3)) (K : ∀ T', Wk p l e R s m args below meth c Z y bytes maxL ret T' h ce sl sf → Go p e below G T' (mkF m pc' L S)) (hsz : L.size = maxL := by rfl) (hf : 1 ≤ R.frames := by decide) (hl : (S.map fun v => v.category).sum + 12 ≤ R.locals := by first | decide | exact Nat.le_of_ble_eq_true rfl) (hp : pc + 3 = pc' := by rfl) : Go p e below G T (mkF m pc L (.ref a :: S)) := by
  subst hp
  obtain ⟨vm0, k0, locs, X, eT, hS, hk, hZ, hown, hF, hN, hC, hsf, hE, ⟨a1, hEL⟩, hx, hby, hml, hnm, hrt, hlk⟩ := W
  subst hby
  obtain ⟨T', X', e', st⟩ := initO X hx hZ hown w1 w2 w3 eT (g := mkF m pc L (.ref a :: S)) rfl (by rw [hml]; exact hsz) rfl hd hf (W := (S.map fun v => v.category).sum) (by show 2 * 0 + _ ≤ _; omega) hl
  exact (K T' ⟨vm0, k0, locs, X', e', hS, hk, hZ, hown, hF, hN, hC, hsf, hE, ⟨a1, hEL⟩, hx, rfl, hml, hnm, hrt, hlk⟩).st st
theorem o_castore (pc' : Nat) (i : Nat) (W : Wk p l e R s m args below meth c Z y bytes maxL ret T h ce sl sf) {a : Addr} {k : ClassId} {z j x : Int32} {vs : List Value} {dv : Value} (A : Arv Z h a k .char z vs dv) (hj : ¬ j < 0 ∧ j < z) (hi : j.toNatClampNeg = i) (hlt : i < vs.length)  (ha : Z.heap.size ≤ a) (hd : decode bytes pc = .ok (.castore, 1))
    (K : ∀ T' h', Wk p l e R s m args below meth c Z y bytes maxL ret T' h' ce sl sf → Wr h h' a j.toNatClampNeg (.int (nar .char x)) → Arv Z h' a k .char z (vs.set i (.int (nar .char x))) dv → Go p e below G T' (mkF m pc' L S)) (hp : pc + 1 = pc' := by rfl) : Go p e below G T (mkF m pc L (.int x :: .int j :: .ref a :: S)) := by
  subst hp
  obtain ⟨vm0, k0, locs, X, eT, hS, hk, hZ, hown, hF, hN, hC, hsf, hE, ⟨a1, hEL⟩, hx, hby, hml, hnm, hrt, hlk⟩ := W
  subst hby
  obtain ⟨cl, A1, A2, A3, A4, A5, A6⟩ := A
  have hsa : Safe Z own_EL vm0 h a := Safe.arr hZ.alike A1 (by decide)
  obtain ⟨T', h', X', e', Wr0, st⟩ := stC X hx hZ eT A1 (inb_of A3 hj) (g := mkF m pc L (.int x :: .int j :: .ref a :: S)) rfl rfl hd
  exact (K T' h' ⟨vm0, k0, _, X', e', hS, Nat.le_trans hk (Nat.le_of_eq Wr0.size.symm), hZ, hown, Fr.snoc X' hF ha, hN, hC.trans (CHr.wr Wr0 hsa hC.1), fun x q => ⟨Nat.lt_of_lt_of_le (hsf x q).1 (Nat.le_of_eq Wr0.size.symm), Safe.wr Wr0 hsa hC.1 (hsf x q).2⟩, own_ext_wr hE Wr0 ha, ⟨a1, hEL⟩, hx, rfl, hml, hnm, hrt, hlk⟩ Wr0 (Arv.set A1 A2 A3 A4 A5 A6 (fits_nar_char x) Wr0 i hi hlt)).st st
theorem o_bastore (pc' : Nat) (i : Nat) (W : Wk p l e R s m args below meth c Z y bytes maxL ret T h ce sl sf) {a : Addr} {k : ClassId} {z j x : Int32} {vs : List Value} {dv : Value} (A : Arv Z h a k .byte z vs dv) (hj : ¬ j < 0 ∧ j < z) (hi : j.toNatClampNeg = i) (hlt : i < vs.length) (hsafe : a ∈ sf) (ha : Z.heap.size ≤ a) (hd : decode bytes pc = .ok (.bastore, 1))
    (K : ∀ T' h', Wk p l e R s m args below meth c Z y bytes maxL ret T' h' ce sl sf → Wr h h' a j.toNatClampNeg (.int (nar .byte x)) → Arv Z h' a k .byte z (vs.set i (.int (nar .byte x))) dv → Go p e below G T' (mkF m pc' L S)) (hp : pc + 1 = pc' := by rfl) : Go p e below G T (mkF m pc L (.int x :: .int j :: .ref a :: S)) := by
  subst hp
  obtain ⟨vm0, k0, locs, X, eT, hS, hk, hZ, hown, hF, hN, hC, hsf, hE, ⟨a1, hEL⟩, hx, hby, hml, hnm, hrt, hlk⟩ := W
  subst hby
  obtain ⟨cl, A1, A2, A3, A4, A5, A6⟩ := A
  have hsa : Safe Z own_EL vm0 h a := (hsf a hsafe).2
  obtain ⟨T', h', X', e', Wr0, st⟩ := stB X hx hZ eT A1 (inb_of A3 hj) (g := mkF m pc L (.int x :: .int j :: .ref a :: S)) rfl rfl hd
  exact (K T' h' ⟨vm0, k0, _, X', e', hS, Nat.le_trans hk (Nat.le_of_eq Wr0.size.symm), hZ, hown, Fr.snoc X' hF ha, hN, hC.trans (CHr.wr Wr0 hsa hC.1), fun x q => ⟨Nat.lt_of_lt_of_le (hsf x q).1 (Nat.le_of_eq Wr0.size.symm), Safe.wr Wr0 hsa hC.1 (hsf x q).2⟩, own_ext_wr hE Wr0 ha, ⟨a1, hEL⟩, hx, rfl, hml, hnm, hrt, hlk⟩ Wr0 (Arv.set A1 A2 A3 A4 A5 A6 (fits_nar_byte x) Wr0 i hi hlt)).st st
theorem o_iastore (pc' : Nat) (i : Nat) (W : Wk p l e R s m args below meth c Z y bytes maxL ret T h ce sl sf) {a : Addr} {k : ClassId} {z j x : Int32} {vs : List Value} {dv : Value} (A : Arv Z h a k .int z vs dv) (hj : ¬ j < 0 ∧ j < z) (hi : j.toNatClampNeg = i) (hlt : i < vs.length)  (ha : Z.heap.size ≤ a) (hd : decode bytes pc = .ok (.iastore, 1))
    (K : ∀ T' h', Wk p l e R s m args below meth c Z y bytes maxL ret T' h' ce sl sf → Wr h h' a j.toNatClampNeg (.int x) → Arv Z h' a k .int z (vs.set i (.int x)) dv → Go p e below G T' (mkF m pc' L S)) (hp : pc + 1 = pc' := by rfl) : Go p e below G T (mkF m pc L (.int x :: .int j :: .ref a :: S)) := by
  subst hp
  obtain ⟨vm0, k0, locs, X, eT, hS, hk, hZ, hown, hF, hN, hC, hsf, hE, ⟨a1, hEL⟩, hx, hby, hml, hnm, hrt, hlk⟩ := W
  subst hby
  obtain ⟨cl, A1, A2, A3, A4, A5, A6⟩ := A
  have hsa : Safe Z own_EL vm0 h a := Safe.arr hZ.alike A1 (by decide)
  obtain ⟨T', h', X', e', Wr0, st⟩ := stI X hx hZ eT A1 (inb_of A3 hj) (g := mkF m pc L (.int x :: .int j :: .ref a :: S)) rfl rfl hd
  exact (K T' h' ⟨vm0, k0, _, X', e', hS, Nat.le_trans hk (Nat.le_of_eq Wr0.size.symm), hZ, hown, Fr.snoc X' hF ha, hN, hC.trans (CHr.wr Wr0 hsa hC.1), fun x q => ⟨Nat.lt_of_lt_of_le (hsf x q).1 (Nat.le_of_eq Wr0.size.symm), Safe.wr Wr0 hsa hC.1 (hsf x q).2⟩, own_ext_wr hE Wr0 ha, ⟨a1, hEL⟩, hx, rfl, hml, hnm, hrt, hlk⟩ Wr0 (Arv.set A1 A2 A3 A4 A5 A6 (rfl) Wr0 i hi hlt)).st st
theorem o_arraycopy (pc' : Nat) (W : Wk p l e R s m args below meth c Z y bytes maxL ret T h ce sl sf) {i : Nat} {a b : Addr} {k k' : ClassId} {z z' sp dp nn : Int32} {vs vd us : List Value} {dv dd : Value} {ty : FieldType} (w1 : (Jvm.Cond.methodLink y.cls i Jvm.Stand.acN).before a0 Z = true) (w2 : (Jvm.Cond.native Jvm.Stand.acN).before a0 Z = true) (w3 : (Jvm.Cond.static Jvm.Stand.acN).before a0 Z = true) (w4 : (Jvm.Cond.initialized "java/lang/System").before a0 Z = true) (A : Arv Z h a k ty z vs dv) (B : Arv Z h b k' ty z' vd dd) (hty : refKind ty = false)
    (h1 : ¬ sp < 0) (h2 : ¬ dp < 0) (h3 : ¬ nn < 0) (h4 : sp.toNatClampNeg + nn.toNatClampNeg ≤ z.toNatClampNeg) (h5 : dp.toNatClampNeg + nn.toNatClampNeg ≤ z'.toNatClampNeg) (hus : us = (List.range nn.toNatClampNeg).map fun i => vs.getD (sp.toNatClampNeg + i) dv) (hlv : dp.toNatClampNeg + nn.toNatClampNeg ≤ vd.length) (hsafe : b ∈ sf) (hb : Z.heap.size ≤ b) (hd : decode bytes pc = .ok (.invokestatic i, 3))
    (K : ∀ T' h', Wk p l e R s m args below meth c Z y bytes maxL ret T' h' ce sl sf → Keep h h' [b] → Arv Z h' b k' ty z' (vd.take dp.toNatClampNeg ++ us ++ vd.drop (dp.toNatClampNeg + nn.toNatClampNeg)) dd → Go p e below G T' (mkF m pc' L S)) (hsz : L.size = maxL := by rfl) (hf : 1 ≤ R.frames := by decide) (hl : (S.map fun v => v.category).sum + (nativeFrameWords "java/lang/System" "arraycopy" 5 + 11) ≤ R.locals := by first | decide | exact Nat.le_of_ble_eq_true rfl) (hp : pc + 3 = pc' := by rfl) : Go p e below G T (mkF m pc L (.int nn :: .int dp :: .ref b :: .int sp :: .ref a :: S)) := by
  subst hp
  obtain ⟨vm0, k0, locs, X, eT, hS, hk, hZ, hown, hF, hN, hC, hsf, hE, ⟨a1, hEL⟩, hx, hby, hml, hnm, hrt, hlk⟩ := W
  subst hby
  obtain ⟨T', h', L', X', e', N', Kp, A', st⟩ := cpA X hx hZ hown w1 w2 w3 w4 eT A B (Or.inl ⟨rfl, hty⟩) h1 h2 h3 h4 h5 hus hlv hF hb (g := mkF m pc L (.int nn :: .int dp :: .ref b :: .int sp :: .ref a :: S)) rfl (by rw [hml]; exact hsz) rfl hd hf (W := (S.map fun v => v.category).sum) (by show 2 * 0 + _ ≤ _; omega) hl
  have hs1 : ∀ x ∈ [b], Safe Z own_EL vm0 h x := fun x q => by rw [List.mem_singleton.mp q]; exact (hsf b hsafe).2
  have hE' : Ext Z.heap h' := ⟨Nat.le_trans hE.1 Kp.1, fun x cc r => Kp.2.1 x cc (hE.2 x cc r) fun q => by
    have hlt := (Array.getElem?_eq_some_iff.mp r).1
    rw [List.mem_singleton.mp q] at hlt; omega⟩
  exact (K T' h' ⟨vm0, k0, L', X', e', hS, Nat.le_trans hk Kp.1, hZ, hown, N', hN, hC.trans (CHr.keep Kp hs1 hC.1), fun x q => ⟨Nat.lt_of_lt_of_le (hsf x q).1 Kp.1, Safe.keep Kp hs1 hC.1 (hsf x q).2⟩, hE', ⟨a1, hEL⟩, hx, rfl, hml, hnm, hrt, hlk⟩ Kp A').st st
theorem o_clone (pc' : Nat) (cap : Nat) (W : Wk p l e R s m args below meth c Z y bytes maxL ret T h ce sl sf) {i : Nat} {ad : String} {a : Addr} {k : ClassId} {ty : FieldType} {z : Int32} {vs : List Value} {dv : Value} (w1 : (Jvm.Cond.methodLink y.cls i ⟨ad, "clone", "()Ljava/lang/Object;"⟩).before a0 Z = true) (w2 : (Jvm.Cond.sameMethod ad "java/lang/Object" "clone" "()Ljava/lang/Object;").before a0 Z = true) (w3 : (Jvm.Cond.native ⟨"java/lang/Object", "clone", "()Ljava/lang/Object;"⟩).before a0 Z = true) (w4 : (Jvm.Cond.instanceMethod ⟨"java/lang/Object", "clone", "()Ljava/lang/Object;"⟩).before a0 Z = true) (w5 : (Jvm.Cond.selects ad ⟨ad, "clone", "()Ljava/lang/Object;"⟩ ⟨"java/lang/Object", "clone", "()Ljava/lang/Object;"⟩).before a0 Z = true) (w6 : (Jvm.Cond.castable ad "java/lang/Cloneable").before a0 Z = true) (F : Arv Z h a k ty z vs dv) (E : Exa Z h a ad) (hd : decode bytes pc = .ok (.invokevirtual i, 3)) (hcap : z.toNatClampNeg ≤ cap)
    (K : ∀ T' h' b, Wk p l e R s m args below meth c Z y bytes maxL ret T' h' (ce + 1) (sl + cap) (b :: sf) → Ext h h' → Arv Z h' b k ty z vs dv → Exa Z h' b ad → h.size ≤ b → Z.heap.size ≤ b → Go p e below G T' (mkF m pc' L (.ref b :: S))) (hsz : L.size = maxL := by rfl) (hf : 1 ≤ R.frames := by decide) (hl : (S.map fun v => v.category).sum + 14 ≤ R.locals := by first | decide | exact Nat.le_of_ble_eq_true rfl) (hc : ce + 1 ≤ R.cells := by decide) (hs : sl + cap ≤ R.slots := by decide) (hp : pc + 3 = pc' := by rfl) : Go p e below G T (mkF m pc L (.ref a :: S)) := by
  subst hp
  obtain ⟨vm0, k0, locs, X, eT, hS, hk, hZ, hown, hF, hN, hC, hsf, hE, ⟨a1, hEL⟩, hx, hby, hml, hnm, hrt, hlk⟩ := W
  subst hby
  obtain ⟨T', h', X', e', Ee, A, Ex, st⟩ := cloneH X hx hZ hown w1 w2 w3 w4 w5 w6 eT (hs := []) F E (g := mkF m pc L (.ref a :: S)) rfl (by rw [hml]; exact hsz) rfl hd hf (W := (S.map fun v => v.category).sum) (by show 2 * 0 + _ ≤ _; omega) hl hcap hc hs
  refine (K T' h' h.size ⟨vm0, k0, locs, X', e', hS, Nat.le_trans hk Ee.1, hZ, hown, hF, hN, hC.trans (CHr.ext Ee hC.1), fun x q => ?_, own_ext_trans hE Ee, ⟨a1, hEL⟩, hx, rfl, hml, hnm, hrt, hlk⟩ Ee A Ex (Nat.le_refl _) hE.1).st st
  rcases List.mem_cons.mp q with rfl | q
  · exact ⟨Ex.lt, Safe.ext Ee hC.1 (Safe.new (Nat.le_refl _))⟩
  · exact ⟨Nat.lt_of_lt_of_le (hsf x q).1 Ee.1, Safe.ext Ee hC.1 (hsf x q).2⟩
theorem own_ew {a1 a2 : Array Value} (E : EW Z a1 own_EL) : EW Z a2 own_EL := fun q hq => by
  obtain ⟨t, h1, h2⟩ := E q hq
  exact ⟨t, mvS (s := Z) (vm0 := Z.vm) (State.Warmed39.refl Z) h1, h2⟩
theorem o_ldcS (pc' : Nat) (n : Nat) (W : Wk p l e R s m args below meth c Z y bytes maxL ret T h ce sl sf) {i : Nat} {text : String} (hnar : ¬ own_Nar) (w : (Jvm.Cond.stringLink y.cls i text).before a0 Z = true) (wS : ∀ a ∈ Bundle.stringAtoms, a.before a0 Z = true) (hd : decode bytes pc = .ok (.ldc i, 2)) (hn : 4 * text.toList.length ≤ n)
    (K : ∀ T' h' a, Wk p l e R s m args below meth c Z y bytes maxL ret T' h' (ce + 2) (sl + (n + 4)) sf → Ext h h' → Go p e below G T' (mkF m pc' L (.ref a :: S))) (hbig : n ≤ 536870912 := by decide) (hc : ce + 2 ≤ R.cells := by decide) (hs : sl + (n + 4) ≤ R.slots := by decide) (hp : pc + 2 = pc' := by rfl) : Go p e below G T (mkF m pc L S) := by
  subst hp
  obtain ⟨vm0, k0, locs, X, eT, hS, hk, hZ, hown, hF, hN, hC, hsf, hE, ⟨a1, hEL⟩, hx, hby, hml, hnm, hrt, hlk⟩ := W
  subst hby
  obtain ⟨a, T', h', k1, X', e', E, hS', hk', hZ', hown', hC', -, st⟩ := ldcOH X hx hZ hown w wS eT hS hk (own_ew hEL) hC.1 (g := mkF m pc L S) rfl hd hn hbig hc hs
  exact (K T' h' a ⟨T'.vm, k1, locs, X', e', hS', hk', hZ', hown', hF, fun q => absurd q hnar, hC.trans hC', fun x q => ⟨Nat.lt_of_lt_of_le (hsf x q).1 E.1, hC'.safe (hsf x q).1 (hsf x q).2⟩, own_ext_trans hE E, ⟨a1, hEL⟩, hx, rfl, hml, hnm, hrt, hlk⟩ E).st st
theorem o_ldcC (pc' : Nat) (n : Nat) (W : Wk p l e R s m args below meth c Z y bytes maxL ret T h ce sl sf) {i : Nat} {text : String} {vs : List Value} {z : Int32} (hnar : ¬ own_Nar) (w : (Jvm.Cond.stringLink y.cls i text).before a0 Z = true) (wS : ∀ a ∈ Bundle.stringAtoms, a.before a0 Z = true) (hmem : (y.cls, i) ∈ own_EL) (ht : (∀ c ∈ text.toList, c.toNat < 256) ∧ text.toList.map (fun c => Value.int (Jvm.Lit.byteI c.toNat.toUInt16)) = vs) (hz : ¬ z < 0) (hzl : z.toNatClampNeg = vs.length) (hd : decode bytes pc = .ok (.ldc i, 2)) (hn : 4 * text.toList.length ≤ n)
    (K : ∀ T' h' a b k, Wk p l e R s m args below meth c Z y bytes maxL ret T' h' (ce + 2) (sl + (n + 4)) sf → Ext h h' → Exa Z h' a "java/lang/String" → Fld Z h' a "java/lang/String" "coder" "B" (.int 0) → Fld Z h' a "java/lang/String" "value" "[B" (.ref b) → Arv Z h' b k .byte z vs (.int 0) → (∀ x ∈ sf, x ≠ a ∧ x ≠ b) → Go p e below G T' (mkF m pc' L (.ref a :: S))) (hbig : n ≤ 536870912 := by decide) (hc : ce + 2 ≤ R.cells := by decide) (hs : sl + (n + 4) ≤ R.slots := by decide) (hp : pc + 2 = pc' := by rfl) : Go p e below G T (mkF m pc L S) := by
  subst hp
  obtain ⟨vm0, k0, locs, X, eT, hS, hk, hZ, hown, hF, hN, hC, hsf, hE, ⟨a1, hEL⟩, hx, hby, hml, hnm, hrt, hlk⟩ := W
  subst hby
  obtain ⟨a, T', h', k1, b, k, X', e', E, hS', hk', hZ', hown', q1, q2, q3, q4, q5, q6, hC', -, hsaf, st⟩ := ldcCH X hx hZ hown w wS eT hS hk (own_ew hEL) hmem hC.1 ht hz hzl (g := mkF m pc L S) rfl hd hn hbig hc hs
  exact (K T' h' a b k ⟨T'.vm, k1, locs, X', e', hS', hk', hZ', hown', hF, fun q => absurd q hnar, hC.trans hC', fun x q => ⟨Nat.lt_of_lt_of_le (hsf x q).1 E.1, hC'.safe (hsf x q).1 (hsf x q).2⟩, own_ext_trans hE E, ⟨a1, hEL⟩, hx, rfl, hml, hnm, hrt, hlk⟩ E q1 q2 q3 q4 fun x q => hsaf x (hC'.safe (hsf x q).1 (hsf x q).2)).st st
/-- what a body's end leaves -/
def Gd (s : State) (below : List Frame) (Z : State) (Q : Option Value → Heap → Prop) (kc ks : Nat) (u : State) : Prop := u.status = .running ∧ ∃ (v : Option Value) (Lc : List Loc), Ended u below (.returned v) ∧ Q v u.heap ∧ Fr Z.heap.size Lc ∧ CHr Z own_EL s.vm s.heap u.vm u.heap ∧ Ext Z.heap u.heap ∧ (own_Nar → s.WarmedH u.vm) ∧ ReturnedEndW s (.returned v) u Lc kc ks
/-- a body's contract: from the heap h0, with the arguments as', it returns and leaves Q -/
def Con (l : Launch) (Z : State) (y : MethodName) (bytes : ByteArray) (maxL : Nat) (ret : Option FieldType) (rm : Room) (as' : Array Value) (h0 : Heap) (sf0 : List Addr) (Q : Option Value → Heap → Prop) : Prop :=
  ∀ ws : List Jvm.Cond, MetFree l y (head1 (Jvm.Cond.code y bytes maxL ret :: ws) rm) (fun a U => a = as' ∧ Z.Warmed39 U.vm ∧ U.heap = h0 ∧ CHv Z own_EL U.vm h0 ∧ ∀ x ∈ sf0, Safe Z own_EL U.vm h0 x) (fun _ _ _ _ _ => True)
    (fun _ U o U' => ∃ v Lc, o = .returned v ∧ Q v U'.heap ∧ Fr Z.heap.size Lc ∧ CHr Z own_EL U.vm U.heap U'.vm U'.heap ∧ Ext Z.heap U'.heap ∧ (own_Nar → U.WarmedH U'.vm) ∧ ReturnedEndW U o U' Lc rm.cells rm.slots)
/-- a value is returned -/
abbrev QV (Q : Value → Heap → Prop) (v : Option Value) (h : Heap) : Prop := ∃ w, v = some w ∧ Q w h
/-- nothing is returned -/
abbrev Q0 (Q : Heap → Prop) (v : Option Value) (h : Heap) : Prop := v = none ∧ Q h
theorem Con.of {rm : Room} {as' : Array Value} {h0 : Heap} {sf0 : List Addr} {Q : Option Value → Heap → Prop} {L0 : Array Slot} (hp : plainFor y = true) (hE : Ext Z.heap h0) (hEL : ∃ a1, EW Z a1 own_EL) (hsf : ∀ x ∈ sf0, x < h0.size)
    (hent : ∀ m : MethodId, entryFrame m as' maxL = mkF m 0 L0 [])
    (body : ∀ (p : Program) (e : Env) (s : State) (m : MethodId) (args : Array Value) (below : List Frame) (meth : Method) (c : Code) (T : State), Wk p l e rm s m args below meth c Z y bytes maxL ret T h0 0 0 sf0 → Go p e below (Gd s below Z Q rm.cells rm.slots) T (mkF m 0 L0 [])) :
    Con l Z y bytes maxL ret rm as' h0 sf0 Q := by
  intro ws
  refine MetFree.of_bodySF hp hisR ?_
  intro p e s m args below meth c s₁ Bd hml hP hK
  obtain ⟨rfl, hZ, hh, hCH, hsaf⟩ := hP
  have X0 : Stand p l e rm (s.setVm s.vm) m args below meth c s₁ [] 0 0 := Stand.of_body Bd
  have e0 : s₁.heap = h0 := by rw [← hh, Bd.state]; rfl
  have hlk : meth.locks = false := by first | exact Bd.notSynchronized | exact BodyLoose.notSynchronized Bd
  have W : Wk p l e rm s m args below meth c Z y bytes maxL ret s₁ h0 0 0 sf0 :=
    ⟨s.vm, 0, [], X0, e0, (State.WarmedH.refl s).since 0, Nat.zero_le _, hZ, findClass_of_methodNamed Bd.named, Fr.nil _, fun _ => State.WarmedH.refl s, by rw [hh]; exact CHr.refl hCH, fun x hx => ⟨hsf x hx, hsaf x hx⟩, hE, hEL, Bd.exec, Bd.bytes, hml, (name_of_methodNamed Bd.named Bd.method).1, Bd.returns, hlk⟩
  obtain ⟨u, k, g1, v, Lc, g2, g3, g4, g5, g6, g7, g8⟩ := body p e s m args below meth c s₁ W
  exact ⟨u, _, castTop (hent m) k, g1, g2, v, Lc, rfl, g3, g4, g5, g6, g7, g8⟩
theorem o_end {Q : Option Value → Heap → Prop} {kc ks : Nat} (W : Wk p l e R s m args below meth c Z y bytes maxL ret T h ce sl sf) {v : Option Value} {g : JFrame} (hv : meth.sig.returnType = none → v = none) (hq : Q v h) (hc : ce ≤ kc) (hs : sl ≤ ks)
    (K : ∀ fs : List Frame, (∀ (f : JFrame) (acts : List Action), f.method = m → f.locked = none → f.entered = [] → (doReturn e (T.setTop f) acts v).1 = T.setFrames fs) → Steps p.tables e below (T.setTop g) (T.setFrames fs)) : Go p e below (Gd s below Z Q kc ks) T g := by
  obtain ⟨vm0, k0, locs, X, eT, hS, hk, hZ, hown, hF, hN, hC, hsf, hE, ⟨a1, hEL⟩, hx, hby, hml, hnm, hrt, hlk⟩ := W
  subst eT
  obtain ⟨fs, hr, hrun, hended, hW⟩ := (X.mono hc hs).leaveW hS hk (v := v) hv hlk
  have hC2 := hC.trans (CHv.at X hZ hEL hC.1)
  refine ⟨T.setFrames fs, K fs hr, hrun, v, locs, hended, hq, hF, hC2, hE, fun q => ?_, hW⟩
  exact State.WarmedH.trans (t := s.setVm vm0) (hN q) X.warmed
theorem o_iret {Q : Value → Heap → Prop} {kc ks : Nat} (W : Wk p l e R s m args below meth c Z y bytes maxL (some .int) T h ce sl sf) {x : Int32} (hd : decode bytes pc = .ok (.ireturn, 1)) (hq : Q (.int x) h) (hc : ce ≤ kc := by decide) (hs : sl ≤ ks := by decide) : Go p e below (Gd s below Z (QV Q) kc ks) T (mkF m pc L (.int x :: S)) := by
  have W2 := W
  obtain ⟨vm0, k0, locs, X, eT, hS, hk, hZ, hown, hF, hN, hC, hsf, hE, ⟨a1, hEL⟩, hx, hby, hml, hnm, hrt, hlk⟩ := W2
  subst hby
  exact o_end W (v := some (.int x)) (fun q => by rw [hrt] at q; cases q) ⟨_, rfl, hq⟩ hc hs fun fs hr => retOut X hx hrt rfl (Or.inl ⟨rfl, Or.inl rfl, x, rfl⟩) hd hr
theorem o_nret {Q : Value → Heap → Prop} {kc ks : Nat} {t : FieldType} (W : Wk p l e R s m args below meth c Z y bytes maxL (some t) T h ce sl sf) {x : Int32} (x' : Int32) (ht : t = .boolean ∨ t = .byte ∨ t = .char ∨ t = .short) (hn : nar t x = x') (hd : decode bytes pc = .ok (.ireturn, 1)) (hq : Q (.int x') h) (hc : ce ≤ kc := by decide) (hs : sl ≤ ks := by decide) : Go p e below (Gd s below Z (QV Q) kc ks) T (mkF m pc L (.int x :: S)) := by
  have W2 := W
  obtain ⟨vm0, k0, locs, X, eT, hS, hk, hZ, hown, hF, hN, hC, hsf, hE, ⟨a1, hEL⟩, hx, hby, hml, hnm, hrt, hlk⟩ := W2
  subst hby hn
  exact o_end W (v := some (.int (nar t x))) (fun q => by rw [hrt] at q; cases q) ⟨_, rfl, hq⟩ hc hs fun fs hr => retN X hx hrt ht hd hr
theorem o_aret {Q : Value → Heap → Prop} {kc ks : Nat} {t : FieldType} (W : Wk p l e R s m args below meth c Z y bytes maxL (some t) T h ce sl sf) {x : Value} (ht : t.isReference = true) (hv : x.isRef = true) (hn : narrow t x = x) (hd : decode bytes pc = .ok (.areturn, 1)) (hq : Q x h) (hc : ce ≤ kc := by decide) (hs : sl ≤ ks := by decide) : Go p e below (Gd s below Z (QV Q) kc ks) T (mkF m pc L (x :: S)) := by
  have W2 := W
  obtain ⟨vm0, k0, locs, X, eT, hS, hk, hZ, hown, hF, hN, hC, hsf, hE, ⟨a1, hEL⟩, hx, hby, hml, hnm, hrt, hlk⟩ := W2
  subst hby
  exact o_end W (v := some x) (fun q => by rw [hrt] at q; cases q) ⟨_, rfl, hq⟩ hc hs fun fs hr => retOut X hx hrt hn (Or.inr (Or.inr (Or.inr (Or.inr ⟨rfl, ht, hv⟩)))) hd hr
theorem o_ret {Q : Heap → Prop} {kc ks : Nat} (W : Wk p l e R s m args below meth c Z y bytes maxL none T h ce sl sf) (hd : decode bytes pc = .ok (.return_, 1)) (hq : Q h) (hc : ce ≤ kc := by decide) (hs : sl ≤ ks := by decide) : Go p e below (Gd s below Z (Q0 Q) kc ks) T (mkF m pc L []) := by
  have W2 := W
  obtain ⟨vm0, k0, locs, X, eT, hS, hk, hZ, hown, hF, hN, hC, hsf, hE, ⟨a1, hEL⟩, hx, hby, hml, hnm, hrt, hlk⟩ := W2
  subst hby
  exact o_end W (v := none) (fun _ => rfl) ⟨rfl, hq⟩ hc hs fun fs hr => X.returnOut hx hrt hd hr
theorem own_back {vm0 : Vm} {y' : MethodName} {bytes' : ByteArray} {maxL' : Nat} {ret' : Option FieldType} {rm : Room} {as' : Array Value} {sf' : List Addr} {Q : Option Value → Heap → Prop} {len Wd : Nat} {a1 : Array Value} (C : Con l Z y' bytes' maxL' ret' rm as' h sf' Q) (hZ : Z.Warmed39 (s.setVm vm0).vm) (wc : (Jvm.Cond.code y' bytes' maxL' ret').before a0 Z = true) (wz : (Jvm.Cond.initialized y'.cls).before a0 Z = true)
    (hf : rm.frames + 1 ≤ R.frames) (hl : Wd + (maxL' + 11) + rm.locals ≤ R.locals) (hEL : EW Z a1 own_EL) (H : CHv Z own_EL vm0 h) (hsf : ∀ x ∈ sf', x < h.size ∧ Safe Z own_EL vm0 h x) :
    BackS l R p e below (s.setVm vm0) args y' len Wd (fun A a => a = as' ∧ A.U.heap = h ∧ A.cells + rm.cells ≤ R.cells ∧ A.slots + rm.slots ≤ R.slots)
      (fun A _ v B => ∃ Lc, Q v B.U.heap ∧ Fr Z.heap.size Lc ∧ B.locs = A.locs ++ Lc ∧ B.cells = A.cells + rm.cells ∧ B.slots = A.slots + rm.slots ∧ CHr Z own_EL vm0 h B.U.vm B.U.heap ∧ Ext Z.heap B.U.heap ∧ (own_Nar → A.U.WarmedH B.U.vm)) :=
  BackS.of_freeW (bytes := bytes') (maxL := maxL') (ret := ret') (E := fun _ first o t Lc k n => k = rm.cells ∧ n = rm.slots ∧ (∃ v, o = .returned v ∧ Q v t.heap) ∧ Fr Z.heap.size Lc ∧ CHr Z own_EL first.vm first.heap t.vm t.heap ∧ Ext Z.heap t.heap ∧ (own_Nar → first.WarmedH t.vm)) (C []) hf hl
    (fun m meth c A a Y hp => have hU : Z.Warmed39 A.U.vm := wtrans (s := s.setVm vm0) hZ Y.warmed
      ⟨by show (Jvm.Cond.and _ .tt).before a A.U = true; rw [Cond.before_and, mv hU wc]; rfl, mv hU wc, mv hU wz, hp.2.2.1, hp.2.2.2⟩)
    (fun m meth c A a g mk Y hp => ⟨hp.1, wtrans (s := s.setVm vm0) hZ Y.warmed, hp.2.1, (CHv.at Y hZ hEL H).1, fun x hx => (CHv.at Y hZ hEL H).safe (hsf x hx).1 (hsf x hx).2⟩) (fun _ _ _ _ _ _ _ _ _ => trivial)
    (fun _ _ _ _ ⟨v, Lc, h1, h2, h3, h4, h5, h6, h7⟩ => ⟨Lc, _, _, h7, rfl, rfl, ⟨v, h1, h2⟩, h3, h4, h5, h6⟩)
    (fun m meth c A a g mk v t Lc k n Y hp _ _ ⟨e1, e2, ⟨v', e3, e4⟩, e5, e6, e7, e8⟩ => by
      cases e3; subst e1 e2
      refine ⟨Lc, e4, e5, rfl, rfl, rfl, (CHv.at Y hZ hEL H).trans ?_, e7, fun q => ?_⟩
      · rw [← hp.2.1]; exact e6
      · exact e8 q)
theorem o_static (pc' : Nat) (A : List Value) (W : Wk p l e R s m args below meth c Z y bytes maxL ret T h ce sl sf) {y' : MethodName} {bytes' : ByteArray} {maxL' : Nat} {ret' : Option FieldType} {rm : Room} {sf' : List Addr} {Q : Option Value → Heap → Prop} {stk : List Value} {i : Nat} (w1 : (Jvm.Cond.methodLink y.cls i y').before a0 Z = true) (w2 : (Jvm.Cond.static y').before a0 Z = true) (wz : (Jvm.Cond.initialized y'.cls).before a0 Z = true) (wc : (Jvm.Cond.code y' bytes' maxL' ret').before a0 Z = true) (C : Con l Z y' bytes' maxL' ret' rm A.toArray h sf' Q) {ps : List FieldType} {rt : Option FieldType} (hpd : parseMethodDescriptor y'.desc = some ⟨ps, rt⟩) (hd : decode bytes pc = .ok (.invokestatic i, 3)) (hst : stk = A.reverse ++ S) (hsub : ∀ x ∈ sf', x ∈ sf) (K : ∀ T' h' v, Wk p l e R s m args below meth c Z y bytes maxL ret T' h' (ce + rm.cells) (sl + rm.slots) sf → Q v h' → h.size ≤ h'.size → Go p e below G T' (mkF m pc' L (v.toList ++ S))) (hsz : L.size = maxL := by rfl) (hln : A.length = ps.length := by rfl) (hy : y'.cls ≠ "java/lang/invoke/MethodHandle" ∧ y'.cls ≠ "java/lang/invoke/VarHandle" := by decide) (hf : rm.frames + 1 ≤ R.frames := by decide) (hl : (S.map fun v => v.category).sum + (maxL' + 11) + rm.locals ≤ R.locals := by first | decide | exact Nat.le_of_ble_eq_true rfl) (hc : ce + rm.cells ≤ R.cells := by decide) (hs : sl + rm.slots ≤ R.slots := by decide) (hp : pc + 3 = pc' := by rfl) : Go p e below G T (mkF m pc L stk) := by
  subst hp
  obtain ⟨vm0, k0, locs, X, eT, hS, hk, hZ, hown, hF, hN, hC, hsf, hE, ⟨a1, hEL⟩, hx, hby, hml, hnm, hrt, hlk⟩ := W
  subst hby
  obtain ⟨v, vm₁, ⟨T', locs', ce', sl'⟩, hW1, X', hS', hge, ⟨Lc, hQ, hFr, e1, e2, e3, hC', hE', hN'⟩, st⟩ := callSS X hx (y := y') hown (mvT hZ w1) (mvT hZ w2) (mvT hZ wz) (mvT hZ wc) hy (own_back (Wd := (S.map fun v => v.category).sum) C hZ wc wz hf hl hEL hC.1 fun x hx => hsf x (hsub x hx)) (g := mkF m pc L stk) rfl (by rw [hml]; exact hsz) (argsL := A) (rest := S) (lenOf hpd hln) hst (by show 2 * 0 + _ ≤ _; omega) hd (fun _ _ => ⟨rfl, eT, hc, hs⟩)
  dsimp only [Pt.U, Pt.locs, Pt.cells, Pt.slots] at X' hS' hge hQ e1 e2 e3 hC' hE' hN' st
  subst e1 e2 e3 eT
  refine (K T' T'.heap v ⟨T'.vm, T'.heap.size, locs ++ Lc, X', rfl, hS.trans hS' (Nat.le_trans hk hge), Nat.le_refl _, State.Warmed39.trans (t := s.setVm vm0) hZ hS'.1, by rw [show (s.setVm T'.vm).vm = T'.vm from rfl, hS'.1.alike.findClass]; exact hown, hF.app hFr, fun q => ?_, hC.trans hC', fun x hx => ⟨Nat.lt_of_lt_of_le (hsf x hx).1 hge, hC'.safe (hsf x hx).1 (hsf x hx).2⟩, hE', ⟨a1, hEL⟩, hx, rfl, hml, hnm, hrt, hlk⟩ hQ hge).st fun u k => st.trans k
  exact State.WarmedH.trans (t := s.setVm vm0) (hN q) (State.WarmedH.trans (s := s.setVm vm0) (t := T.setVm vm₁) hW1 (hN' q))
theorem o_special (pc' : Nat) (A : List Value) (W : Wk p l e R s m args below meth c Z y bytes maxL ret T h ce sl sf) {y' : MethodName} {bytes' : ByteArray} {maxL' : Nat} {rm : Room} {sf' : List Addr} {Q : Option Value → Heap → Prop} {stk : List Value} {i : Nat} {a : Addr} (w1 : (Jvm.Cond.methodLink y.cls i y').before a0 Z = true) (w2 : (Jvm.Cond.instanceMethod y').before a0 Z = true) (wz : (Jvm.Cond.initialized y'.cls).before a0 Z = true) (wc : (Jvm.Cond.code y' bytes' maxL' none).before a0 Z = true) (C : Con l Z y' bytes' maxL' none rm (.ref a :: A).toArray h sf' Q) {ps : List FieldType} {rt : Option FieldType} (hpd : parseMethodDescriptor y'.desc = some ⟨ps, rt⟩) (hd : decode bytes pc = .ok (.invokespecial i, 3)) (hst : stk = A.reverse ++ .ref a :: S) (hsub : ∀ x ∈ sf', x ∈ sf) (K : ∀ T' h' v, Wk p l e R s m args below meth c Z y bytes maxL ret T' h' (ce + rm.cells) (sl + rm.slots) sf → Q v h' → h.size ≤ h'.size → Go p e below G T' (mkF m pc' L (v.toList ++ S))) (hin : y'.name = "<init>" := by rfl) (hsz : L.size = maxL := by rfl) (hln : A.length = ps.length := by rfl) (hy : y'.cls ≠ "java/lang/invoke/MethodHandle" ∧ y'.cls ≠ "java/lang/invoke/VarHandle" := by decide) (hf : rm.frames + 1 ≤ R.frames := by decide) (hl : (S.map fun v => v.category).sum + (maxL' + 11) + rm.locals ≤ R.locals := by first | decide | exact Nat.le_of_ble_eq_true rfl) (hc : ce + rm.cells ≤ R.cells := by decide) (hs : sl + rm.slots ≤ R.slots := by decide) (hp : pc + 3 = pc' := by rfl) : Go p e below G T (mkF m pc L stk) := by
  subst hp
  obtain ⟨vm0, k0, locs, X, eT, hS, hk, hZ, hown, hF, hN, hC, hsf, hE, ⟨a1, hEL⟩, hx, hby, hml, hnm, hrt, hlk⟩ := W
  subst hby
  obtain ⟨v, vm₁, ⟨T', locs', ce', sl'⟩, hW1, X', hS', hge, ⟨Lc, hQ, hFr, e1, e2, e3, hC', hE', hN'⟩, st⟩ := X.specialBackS hx (y := y') hin hown (mvT hZ w1) (mvT hZ w2) (mvT hZ wc) hy (own_back (Wd := (S.map fun v => v.category).sum) C hZ wc wz hf hl hEL hC.1 fun x hx => hsf x (hsub x hx)) (g := mkF m pc L stk) rfl (by rw [hml]; exact hsz) (Steps.refl _) (a := a) (argsL := A) (rest := S) (lenOf hpd hln) hst (by show 2 * 0 + _ ≤ _; omega) hd (fun _ _ => ⟨rfl, eT, hc, hs⟩)
  dsimp only [Pt.U, Pt.locs, Pt.cells, Pt.slots] at X' hS' hge hQ e1 e2 e3 hC' hE' hN' st
  subst e1 e2 e3 eT
  refine (K T' T'.heap v ⟨T'.vm, T'.heap.size, locs ++ Lc, X', rfl, hS.trans hS' (Nat.le_trans hk hge), Nat.le_refl _, State.Warmed39.trans (t := s.setVm vm0) hZ hS'.1, by rw [show (s.setVm T'.vm).vm = T'.vm from rfl, hS'.1.alike.findClass]; exact hown, hF.app hFr, fun q => ?_, hC.trans hC', fun x hx => ⟨Nat.lt_of_lt_of_le (hsf x hx).1 hge, hC'.safe (hsf x hx).1 (hsf x hx).2⟩, hE', ⟨a1, hEL⟩, hx, rfl, hml, hnm, hrt, hlk⟩ hQ hge).st fun u k => st.trans k
  exact State.WarmedH.trans (t := s.setVm vm0) (hN q) (State.WarmedH.trans (s := s.setVm vm0) (t := T.setVm vm₁) hW1 (hN' q))
theorem o_virtual (pc' : Nat) (A : List Value) (W : Wk p l e R s m args below meth c Z y bytes maxL ret T h ce sl sf) {y' : MethodName} {bytes' : ByteArray} {maxL' : Nat} {ret' : Option FieldType} {rm : Room} {sf' : List Addr} {Q : Option Value → Heap → Prop} {stk : List Value} {i : Nat} {a : Addr} {C0 : String} (w1 : (Jvm.Cond.methodLink y.cls i y').before a0 Z = true) (w2 : (Jvm.Cond.declares y').before a0 Z = true) (w3 : (Jvm.Cond.selects C0 y' y').before a0 Z = true) (w4 : (Jvm.Cond.instanceMethod y').before a0 Z = true) (wz : (Jvm.Cond.initialized y'.cls).before a0 Z = true) (wc : (Jvm.Cond.code y' bytes' maxL' ret').before a0 Z = true) (E : Exa Z h a C0) (C : Con l Z y' bytes' maxL' ret' rm (.ref a :: A).toArray h sf' Q) {ps : List FieldType} {rt : Option FieldType} (hpd : parseMethodDescriptor y'.desc = some ⟨ps, rt⟩) (hd : decode bytes pc = .ok (.invokevirtual i, 3)) (hst : stk = A.reverse ++ .ref a :: S) (hsub : ∀ x ∈ sf', x ∈ sf) (K : ∀ T' h' v, Wk p l e R s m args below meth c Z y bytes maxL ret T' h' (ce + rm.cells) (sl + rm.slots) sf → Q v h' → h.size ≤ h'.size → Go p e below G T' (mkF m pc' L (v.toList ++ S))) (hsz : L.size = maxL := by rfl) (hln : A.length = ps.length := by rfl) (hy : y'.cls ≠ "java/lang/invoke/MethodHandle" ∧ y'.cls ≠ "java/lang/invoke/VarHandle" := by decide) (hf : rm.frames + 1 ≤ R.frames := by decide) (hl : (S.map fun v => v.category).sum + (maxL' + 11) + rm.locals ≤ R.locals := by first | decide | exact Nat.le_of_ble_eq_true rfl) (hc : ce + rm.cells ≤ R.cells := by decide) (hs : sl + rm.slots ≤ R.slots := by decide) (hp : pc + 3 = pc' := by rfl) : Go p e below G T (mkF m pc L stk) := by
  subst hp
  obtain ⟨vm0, k0, locs, X, eT, hS, hk, hZ, hown, hF, hN, hC, hsf, hE, ⟨a1, hEL⟩, hx, hby, hml, hnm, hrt, hlk⟩ := W
  subst hby
  obtain ⟨cB, kB, qa, qb, qc⟩ := isOf (T := T) hZ eT E
  obtain ⟨v, vm₁, ⟨T', locs', ce', sl'⟩, hW1, X', hS', hge, ⟨Lc, hQ, hFr, e1, e2, e3, hC', hE', hN'⟩, st⟩ := X.virtualBackS hx (y := y') (z := y') hown (mvT hZ w1) (mvT hZ w2) (notFace_of_selects (args := args) (mvT hZ w3)) (mvT hZ w3) (mvT hZ w4) hy (own_back (Wd := (S.map fun v => v.category).sum) C hZ wc wz hf hl hEL hC.1 fun x hx => hsf x (hsub x hx)) qa qc (g := mkF m pc L stk) rfl (by rw [hml]; exact hsz) (Steps.refl _) (argsL := A) (rest := S) (lenOf hpd hln) hst (by show 2 * 0 + _ ≤ _; omega) hd (fun _ _ => ⟨rfl, eT, hc, hs⟩)
  dsimp only [Pt.U, Pt.locs, Pt.cells, Pt.slots] at X' hS' hge hQ e1 e2 e3 hC' hE' hN' st
  subst e1 e2 e3 eT
  refine (K T' T'.heap v ⟨T'.vm, T'.heap.size, locs ++ Lc, X', rfl, hS.trans hS' (Nat.le_trans hk hge), Nat.le_refl _, State.Warmed39.trans (t := s.setVm vm0) hZ hS'.1, by rw [show (s.setVm T'.vm).vm = T'.vm from rfl, hS'.1.alike.findClass]; exact hown, hF.app hFr, fun q => ?_, hC.trans hC', fun x hx => ⟨Nat.lt_of_lt_of_le (hsf x hx).1 hge, hC'.safe (hsf x hx).1 (hsf x hx).2⟩, hE', ⟨a1, hEL⟩, hx, rfl, hml, hnm, hrt, hlk⟩ hQ hge).st fun u k => st.trans k
  exact State.WarmedH.trans (t := s.setVm vm0) (hN q) (State.WarmedH.trans (s := s.setVm vm0) (t := T.setVm vm₁) hW1 (hN' q))
theorem o_virtualUp (pc' : Nat) (A : List Value) (W : Wk p l e R s m args below meth c Z y bytes maxL ret T h ce sl sf) {y' : MethodName} {bytes' : ByteArray} {maxL' : Nat} {ret' : Option FieldType} {rm : Room} {sf' : List Addr} {Q : Option Value → Heap → Prop} {stk : List Value} {i : Nat} {a : Addr} {C0 owner : String} {x' : MethodName} (w1 : (Jvm.Cond.methodLink y.cls i x').before a0 Z = true) (w2 : (Jvm.Cond.sameMethod x'.cls owner x'.name x'.desc).before a0 Z = true) (w5 : (Jvm.Cond.declares ⟨owner, x'.name, x'.desc⟩).before a0 Z = true) (w3 : (Jvm.Cond.selects C0 x' y').before a0 Z = true) (w4 : (Jvm.Cond.instanceMethod y').before a0 Z = true) (wz : (Jvm.Cond.initialized y'.cls).before a0 Z = true) (wc : (Jvm.Cond.code y' bytes' maxL' ret').before a0 Z = true) (E : Exa Z h a C0) (C : Con l Z y' bytes' maxL' ret' rm (.ref a :: A).toArray h sf' Q) {ps : List FieldType} {rt : Option FieldType} (hpd : parseMethodDescriptor x'.desc = some ⟨ps, rt⟩) (hd : decode bytes pc = .ok (.invokevirtual i, 3)) (hst : stk = A.reverse ++ .ref a :: S) (hsub : ∀ x ∈ sf', x ∈ sf) (K : ∀ T' h' v, Wk p l e R s m args below meth c Z y bytes maxL ret T' h' (ce + rm.cells) (sl + rm.slots) sf → Q v h' → h.size ≤ h'.size → Go p e below G T' (mkF m pc' L (v.toList ++ S))) (hsz : L.size = maxL := by rfl) (hln : A.length = ps.length := by rfl) (hy : owner ≠ "java/lang/invoke/MethodHandle" ∧ owner ≠ "java/lang/invoke/VarHandle" := by decide) (hf : rm.frames + 1 ≤ R.frames := by decide) (hl : (S.map fun v => v.category).sum + (maxL' + 11) + rm.locals ≤ R.locals := by first | decide | exact Nat.le_of_ble_eq_true rfl) (hc : ce + rm.cells ≤ R.cells := by decide) (hs : sl + rm.slots ≤ R.slots := by decide) (hp : pc + 3 = pc' := by rfl) : Go p e below G T (mkF m pc L stk) := by
  subst hp
  obtain ⟨vm0, k0, locs, X, eT, hS, hk, hZ, hown, hF, hN, hC, hsf, hE, ⟨a1, hEL⟩, hx, hby, hml, hnm, hrt, hlk⟩ := W
  subst hby
  obtain ⟨cB, kB, qa, qb, qc⟩ := isOf (T := T) hZ eT E
  obtain ⟨v, vm₁, ⟨T', locs', ce', sl'⟩, hW1, X', hS', hge, ⟨Lc, hQ, hFr, e1, e2, e3, hC', hE', hN'⟩, st⟩ := X.virtualBackUpS hx (x := x') (y := y') (owner := owner) hown (mvT hZ w1) (mvT hZ w2) (mvT hZ w5) hy (mvT hZ w3) (mvT hZ w4) (own_back (Wd := (S.map fun v => v.category).sum) C hZ wc wz hf hl hEL hC.1 fun x hx => hsf x (hsub x hx)) qa qc (g := mkF m pc L stk) rfl (by rw [hml]; exact hsz) (Steps.refl _) (argsL := A) (rest := S) (lenOf hpd hln) hst (by show 2 * 0 + _ ≤ _; omega) hd (fun _ _ => ⟨rfl, eT, hc, hs⟩)
  dsimp only [Pt.U, Pt.locs, Pt.cells, Pt.slots] at X' hS' hge hQ e1 e2 e3 hC' hE' hN' st
  subst e1 e2 e3 eT
  refine (K T' T'.heap v ⟨T'.vm, T'.heap.size, locs ++ Lc, X', rfl, hS.trans hS' (Nat.le_trans hk hge), Nat.le_refl _, State.Warmed39.trans (t := s.setVm vm0) hZ hS'.1, by rw [show (s.setVm T'.vm).vm = T'.vm from rfl, hS'.1.alike.findClass]; exact hown, hF.app hFr, fun q => ?_, hC.trans hC', fun x hx => ⟨Nat.lt_of_lt_of_le (hsf x hx).1 hge, hC'.safe (hsf x hx).1 (hsf x hx).2⟩, hE', ⟨a1, hEL⟩, hx, rfl, hml, hnm, hrt, hlk⟩ hQ hge).st fun u k => st.trans k
  exact State.WarmedH.trans (t := s.setVm vm0) (hN q) (State.WarmedH.trans (s := s.setVm vm0) (t := T.setVm vm₁) hW1 (hN' q))
end Own
theorem own_sx {Z : State} {args a0 : Array Value} {C n d K : String} (hx : (Jvm.Cond.exactly (Jvm.Term.static C n d) K).value args Z none Z [] = some true) (hi : (Jvm.Cond.initialized C).before a0 Z = true) (hl : (Jvm.Cond.laysStatic C n d).before a0 Z = true) : ∃ a, Sta Z Z.heap C n d (.ref a) ∧ Exa Z Z.heap a K ∧ (Jvm.Term.static C n d).eval args Z none [] Z = some (.ref a) := by
  obtain ⟨a', c', cell, k, e1, -⟩ := Cond.exactly_spec (Cond.before_iff.mpr hx)
  exact ⟨a', Sta.start (args := a0) e1 (Or.inr ⟨hi, hl⟩), Exa.start e1 hx, e1⟩
theorem own_fx {Z : State} {args : Array Value} {t : Jvm.Term} {a : Addr} {O n d : String} {v : Value} {u : Jvm.Term} (e : t.eval args Z none [] Z = some (.ref a)) (hu : u.eval args Z none [] Z = some v) (hx : (Jvm.Cond.eq (Jvm.Term.field t O n d) u).value args Z none Z [] = some true) (hk : ∀ w, Kin v w → Kin w v → (Jvm.Cond.eq (Jvm.Term.field t O n d) u).value args Z none Z [] = some true → (Jvm.Term.field t O n d).eval args Z none [] Z = some w → w = v) : Fld Z Z.heap a O n d v := by
  obtain ⟨x, y, e1, e2, k1, k2⟩ := cmp_v (Or.inl hx)
  cases hu.symm.trans e2
  have q := hk x k2 k1 hx e1
  subst q
  refine Fld.start ?_
  have e3 := e1
  simp only [Jvm.Term.eval, e, Option.bind_eq_bind, Option.bind_some] at e3
  exact e3
theorem own_fi {Z : State} {args : Array Value} {t : Jvm.Term} {a : Addr} {O n d : String} {k : Int32} (e : t.eval args Z none [] Z = some (.ref a)) (hx : (Jvm.Cond.eq (Jvm.Term.field t O n d) (Jvm.Term.int k)).value args Z none Z [] = some true) : Fld Z Z.heap a O n d (.int k) := by
  refine own_fx e (Jvm.Term.int_eval k) hx fun w k1 k2 h1 h2 => ?_
  obtain ⟨z, rfl⟩ := k1
  simp [Jvm.Cond.value, h2, Jvm.Term.int_eval] at h1
  rw [h1]
end Jvm.Pilot.@@N@@
namespace Own
open Jvm Jvm.FP.Core
def shf (k : Int) : Datum → Datum
  | .fin s c q => .fin s c (q + k)
  | d => d
theorem shf_sum (k : Int) (x y : Datum) : exactSum (shf k x) (shf k y) = shf k (exactSum x y) := by
  cases x <;> cases y <;> simp only [shf, exactSum] <;> try (split <;> rfl)
  rename_i s c q t d r
  have e : min (q + k) (r + k) = min q r + k := by omega
  have e1 : q + k - (min q r + k) = q - min q r := by omega
  have e2 : r + k - (min q r + k) = r - min q r := by omega
  simp only [sumUnits, inUnits, e, e1, e2]
theorem shf_neg (k : Int) (x : Datum) : negate (shf k x) = shf k (negate x) := by cases x <;> rfl
theorem shf_order (k : Int) (x y : Datum) : order (shf k x) (shf k y) = order x y := by
  cases x <;> cases y <;> simp only [shf, order]
  rename_i s c q t d r
  have e : min (q + k) (r + k) = min q r + k := by omega
  have e1 : q + k - (min q r + k) = q - min q r := by omega
  have e2 : r + k - (min q r + k) = r - min q r := by omega
  simp only [inUnits, e, e1, e2]
theorem signed_self (i : Int) : signed (decide (i < 0)) i.natAbs = i := by
  unfold signed; by_cases h : i < 0 <;> simp [h] <;> omega
theorem whole_shift {i : Int} {K : Nat} {d : Datum} (h : Whole i (shf K d)) (hi : i.natAbs ≤ 2 ^ 53) (hK : K ≤ 1000) : Whole i (shf K (round b64 d)) := by
  cases d with
  | nan => exact h
  | inf s => exact h
  | fin s c q =>
    have hn : c * 2 ^ (q + (K : Int)).toNat = i.natAbs * 2 ^ (-(q + (K : Int))).toNat := whole_natAbs h
    by_cases h0 : i = 0
    · have hc : c = 0 := (whole_zero h).mpr h0
      subst h0 hc
      show Whole 0 (shf K (roundRatio b64 s 0 1 q))
      unfold roundRatio
      rw [if_pos rfl]
      show signed s (0 * _) = 0 * _
      rw [Nat.zero_mul, signed_zero, Int.zero_mul]
    · obtain ⟨c', q', hf, he⟩ := natFit good_b64 wide_b64 s (n := i.natAbs) hi
      obtain ⟨f1, f2, f3, f4⟩ := hf
      have hq0 : -53 < q' := by
        refine Int.lt_of_not_ge fun hge => ?_
        have e1 : (0 - q').toNat = 53 + (-53 - q').toNat := by omega
        have e2 : (q' - 0).toNat = 0 := by omega
        rw [e1, e2, Nat.pow_add, Nat.pow_zero, Nat.mul_one, Nat.mul_one, ← Nat.mul_assoc] at he
        have f1' : c' < 2 ^ 53 := f1
        have p := Nat.two_pow_pos (-53 - q').toNat
        have p1 : 1 ≤ i.natAbs := by omega
        have p2 : 2 ^ 53 * 1 ≤ i.natAbs * 2 ^ 53 * 2 ^ (-53 - q').toNat := Nat.mul_le_mul (by omega) p
        omega
      have qm : b64.qmin = -1074 := by decide
      have qx : b64.qmax = 971 := by decide
      have hfit : fits b64 (.fin s c' (q' - K)) := ⟨f1, by omega, by omega, Or.inr (f4.elim (fun z => by omega) id)⟩
      have r1 : round b64 (.fin s c q) = .fin s c' (q' - K) := by
        show roundRatio b64 s c 1 q = _
        rw [roundRatio_congr (A' := i.natAbs) (B' := 1) (e' := -(K : Int)) (by decide) (by decide) (by rw [show q - -(K : Int) = q + K by omega, show -(K : Int) - q = -(q + K) by omega, Nat.mul_one, Nat.mul_one]; exact hn)]
        rw [roundRatio_congr (A' := c') (B' := 1) (e' := q' - K) (by decide) (by decide) (by rw [show -(K : Int) - (q' - K) = 0 - q' by omega, show q' - K - -(K : Int) = q' - 0 by omega, Nat.mul_one]; exact he)]
        exact round_of_fits good_b64 hfit
      rw [r1]
      show signed s (c' * 2 ^ (q' - K + K : Int).toNat) = i * ((2 ^ (-(q' - K + K : Int)).toNat : Nat) : Int)
      rw [show q' - (K : Int) + K = q' by omega]
      rw [show (0 - q').toNat = (-q').toNat by omega, show (q' - 0).toNat = q'.toNat by omega, Nat.mul_one] at he
      rw [← he, signed_mul, whole_sign h h0, signed_self]
def DQ (K : Nat) (i : Int) (a : UInt64) : Prop := Whole i (shf K (val64 a))
theorem DQ.add {K : Nat} {i j : Int} {a b : UInt64} (ha : DQ K i a) (hb : DQ K j b) (h : (i + j).natAbs ≤ 2 ^ 53) (hK : K ≤ 1000) : DQ K (i + j) (dadd a b) := by
  unfold DQ; rw [val64_dadd]
  exact whole_shift (by rw [← shf_sum]; exact whole_sum ha hb) h hK
theorem DQ.sub {K : Nat} {i j : Int} {a b : UInt64} (ha : DQ K i a) (hb : DQ K j b) (h : (i - j).natAbs ≤ 2 ^ 53) (hK : K ≤ 1000) : DQ K (i - j) (dsub a b) := by
  unfold DQ; rw [val64_dsub]
  exact whole_shift (by rw [← shf_sum, ← shf_neg]; exact whole_sum ha (whole_negate hb)) h hK
theorem DQ.mul {K L : Nat} {i j : Int} {a b : UInt64} (ha : DQ K i a) (hb : DQ L j b) (h : (i * j).natAbs ≤ 2 ^ 53) (hK : K + L ≤ 1000) : DQ (K + L) (i * j) (dmul a b) := by
  unfold DQ; rw [val64_dmul]
  refine whole_shift ?_ h hK
  unfold DQ at ha hb
  have w := whole_product ha hb
  cases hx : val64 a with
  | nan => rw [hx] at ha; exact ha.elim
  | inf s => rw [hx] at ha; exact ha.elim
  | fin s c q =>
    cases hy : val64 b with
    | nan => rw [hy] at hb; exact hb.elim
    | inf t => rw [hy] at hb; exact hb.elim
    | fin t d r =>
      rw [hx, hy] at w
      show Whole (i * j) (.fin (s != t) (c * d) (q + r + ((K + L : Nat) : Int)))
      rw [show q + r + ((K + L : Nat) : Int) = q + K + (r + L) by omega]; exact w
theorem DQ.neg {K : Nat} {i : Int} {a : UInt64} (ha : DQ K i a) : DQ K (-i) (dneg a) := by
  unfold DQ; rw [val64_dneg, ← shf_neg]; exact whole_negate ha
theorem DQ.negJ {K : Nat} {i : Int} {a : UInt64} (ha : DQ K i a) : DQ K (-i) (Jvm.FP.dneg a) := by
  unfold DQ; rw [Jvm.FP.val64_dneg, ← shf_neg]; exact whole_negate ha
theorem DQ.div {K k : Nat} {i : Int} {a b : UInt64} (ha : DQ K i a) (hb : val64 b = .fin false (2 ^ 52) ((k : Int) - 52)) (h : i.natAbs ≤ 2 ^ 53) (hK : K + k ≤ 1000) : DQ (K + k) i (ddiv a b) := by
  unfold DQ at ha ⊢; rw [val64_ddiv, hb]
  cases hx : val64 a with
  | nan => rw [hx] at ha; exact ha
  | inf s => rw [hx] at ha; exact ha.elim
  | fin s c q =>
    rw [hx] at ha
    have e : quotient b64 (.fin s c q) (.fin false (2 ^ 52) ((k : Int) - 52)) = round b64 (.fin s c (q - k)) := by
      show (if 2 ^ 52 = 0 then (if c = 0 then Datum.nan else .inf (s != false)) else roundRatio b64 (s != false) c (2 ^ 52) (q - ((k : Int) - 52))) = roundRatio b64 s c 1 (q - k)
      rw [if_neg (by decide), show (s != false) = s by cases s <;> rfl]
      refine roundRatio_congr (by decide) (by decide) ?_
      rw [show q - ((k : Int) - 52) - (q - k) = ((52 : Nat) : Int) by omega, show (q - k) - (q - ((k : Int) - 52)) = -((52 : Nat) : Int) by omega]
      simp
    rw [e]
    refine whole_shift (d := .fin s c (q - k)) ?_ h hK
    show Whole i (.fin s c (q - k + ((K + k : Nat) : Int)))
    rw [show q - (k : Int) + ((K + k : Nat) : Int) = q + K by omega]
    exact ha
theorem DQ.cmp {K : Nat} {i j : Int} {a b : UInt64} (ha : DQ K i a) (hb : DQ K j b) : dcmp a b = some (compare i j) := by
  show order (val64 a) (val64 b) = _
  rw [← shf_order K]; exact order_whole ha hb
theorem shf_zero (d : Datum) : shf ((0 : Nat) : Int) d = d := by cases d <;> simp [shf]
theorem DQ.l2d {a : Int64} (h : a.toInt.natAbs ≤ 2 ^ 53) : DQ 0 a.toInt (Jvm.FP.Core.l2d a) := by
  unfold DQ; rw [shf_zero]; exact l2d_int h
theorem DQ.i2d (a : Int32) : DQ 0 a.toInt (Jvm.FP.Core.i2d a) := by
  unfold DQ; rw [shf_zero]; exact i2d_int a
theorem DQ.zero (K : Nat) : DQ K 0 dconst0 := by
  unfold DQ; rw [val64_dconst0]; show signed false (0 * _) = 0 * _; rw [Nat.zero_mul, signed_zero, Int.zero_mul]
theorem DQ.nn {K : Nat} {i : Int} {a : UInt64} (ha : DQ K i a) : dIsNaN a = false := by
  unfold DQ at ha
  cases hx : val64 a with
  | nan => rw [hx] at ha; exact ha.elim
  | inf s => rw [hx] at ha; exact ha.elim
  | fin s c q => unfold dIsNaN isNaN; exact decide_eq_false (fun z => by have : val64 a = .nan := z; rw [hx] at this; cases this)
theorem DQ.up {K : Nat} {i : Int} {a : UInt64} (ha : DQ K i a) (m : Nat) : DQ (K + m) (i * ((2 ^ m : Nat) : Int)) a := by
  unfold DQ at ha ⊢
  cases hx : val64 a with
  | nan => rw [hx] at ha; exact ha
  | inf s => rw [hx] at ha; exact ha
  | fin s c q =>
    rw [hx] at ha
    have h1 : signed s (c * 2 ^ (q + (K : Int)).toNat) = i * ((2 ^ (-(q + (K : Int))).toNat : Nat) : Int) := ha
    show signed s (c * 2 ^ (q + ((K + m : Nat) : Int)).toNat) = i * ((2 ^ m : Nat) : Int) * ((2 ^ (-(q + ((K + m : Nat) : Int))).toNat : Nat) : Int)
    rw [show q + ((K + m : Nat) : Int) = q + K + m by omega]
    generalize q + (K : Int) = Q at h1 ⊢
    by_cases p : 0 ≤ Q
    · rw [show (Q + m).toNat = Q.toNat + m by omega, show (-(Q + m)).toNat = 0 by omega, Nat.pow_add, ← Nat.mul_assoc, signed_mul, h1, show (-Q).toNat = 0 by omega]; simp
    · rw [show Q.toNat = 0 by omega, Nat.pow_zero, Nat.mul_one] at h1
      by_cases p2 : 0 ≤ Q + m
      · rw [show (-(Q + m)).toNat = 0 by omega, signed_mul, h1, Nat.pow_zero]
        have : m = (-Q).toNat + (Q + m).toNat := by omega
        rw [Int.mul_assoc, ← Int.natCast_mul, ← Nat.pow_add, ← this]; simp
      · rw [show (Q + m).toNat = 0 by omega, Nat.pow_zero, Nat.mul_one, h1]
        have : (-Q).toNat = m + (-(Q + m)).toNat := by omega
        rw [Int.mul_assoc, ← Int.natCast_mul, ← Nat.pow_add, ← this]
end Own
namespace Jvm.Pilot.@@N@@
open Jvm Jvm.ClassFile Sem Op Lib Jvm.Free Jvm.Stand Jvm.LawKit Jvm.RoadKit Bundle Jvm.Pilot.@@N@@.Jvm.D Own
abbrev HE := Addr × ClassId × FieldType × Int32 × List Value × Value
abbrev HE.a (e : HE) : Addr := e.1
abbrev HE.k (e : HE) : ClassId := e.2.1
abbrev HE.ty (e : HE) : FieldType := e.2.2.1
abbrev HE.n (e : HE) : Int32 := e.2.2.2.1
abbrev HE.vs (e : HE) : List Value := e.2.2.2.2.1
abbrev HE.dv (e : HE) : Value := e.2.2.2.2.2
def HE.ok (Z : State) (h : Heap) (e : HE) : Prop := Arv Z h (HE.a e) (HE.k e) (HE.ty e) (HE.n e) (HE.vs e) (HE.dv e) ∧ Z.heap.size ≤ HE.a e
def HM (Z : State) (h : Heap) (M : List HE) : Prop := (M.map HE.a).Nodup ∧ ∀ e ∈ M, HE.ok Z h e
theorem HM.get {Z : State} {h : Heap} {M : List HE} (H : HM Z h M) (i : Nat) {e : HE} (hi : M[i]? = some e) : Arv Z h (HE.a e) (HE.k e) (HE.ty e) (HE.n e) (HE.vs e) (HE.dv e) := (H.2 e (List.mem_of_getElem? hi)).1
theorem HM.new? {Z : State} {h : Heap} {M : List HE} (H : HM Z h M) (i : Nat) {e : HE} (hi : M[i]? = some e) : Z.heap.size ≤ HE.a e := (H.2 e (List.mem_of_getElem? hi)).2
theorem HM.nil (Z : State) (h : Heap) : HM Z h [] := ⟨List.nodup_nil, fun _ q => nomatch q⟩
theorem HM.ext {Z : State} {h h' : Heap} {M : List HE} (H : HM Z h M) (E : Ext h h') : HM Z h' M := ⟨H.1, fun e q => ⟨(H.2 e q).1.ext E, (H.2 e q).2⟩⟩
theorem HM.lt {Z : State} {h : Heap} {M : List HE} (H : HM Z h M) {a : Addr} (q : a ∈ M.map HE.a) : a < h.size := by
  obtain ⟨e, q1, q2⟩ := List.mem_map.mp q
  subst q2; exact (H.2 e q1).1.lt
theorem HM.new {Z : State} {h h' : Heap} {M : List HE} (H : HM Z h M) (E : Ext h h') {a : Addr} {k : ClassId} {ty : FieldType} {n : Int32} {vs : List Value} {dv : Value} (A : Arv Z h' a k ty n vs dv) (g : h.size ≤ a) (z : Z.heap.size ≤ a) : HM Z h' (⟨a, k, ty, n, vs, dv⟩ :: M) := by
  refine ⟨List.nodup_cons.mpr ⟨fun q => ?_, H.1⟩, fun e q => ?_⟩
  · exact absurd (H.lt q) (Nat.not_lt.mpr g)
  · rcases List.mem_cons.mp q with rfl | q
    · exact ⟨A, z⟩
    · exact (H.ext E).2 e q
theorem HM.front {Z : State} {h : Heap} {M : List HE} (H : HM Z h M) (i : Nat) {e : HE} (hi : M[i]? = some e) : HM Z h (e :: M.eraseIdx i) := by
  obtain ⟨hl, rfl⟩ := List.getElem?_eq_some_iff.mp hi
  have p : (M[i] :: M.eraseIdx i).Perm M := by
    have e1 : M.take i ++ M[i] :: M.drop (i + 1) = M := by simp
    have e2 : M.eraseIdx i = M.take i ++ M.drop (i + 1) := List.eraseIdx_eq_take_drop_succ ..
    rw [e2]
    exact (List.perm_middle.symm.trans (List.Perm.of_eq e1))
  exact ⟨((p.map HE.a).nodup_iff).mpr H.1, fun e q => H.2 e (p.mem_iff.mp q)⟩
/-- a write into the array in front -/
theorem HM.wr {Z : State} {h h' : Heap} {M : List HE} (H : HM Z h M) (i : Nat) {e : HE} (hi : M[i]? = some e) {sl : Nat} {v : Value} (W : Wr h h' (HE.a e) sl v) {vs : List Value} (A : Arv Z h' (HE.a e) (HE.k e) (HE.ty e) (HE.n e) vs (HE.dv e)) : HM Z h' (M.set i (HE.a e, HE.k e, HE.ty e, HE.n e, vs, HE.dv e)) := by
  obtain ⟨hl, rfl⟩ := List.getElem?_eq_some_iff.mp hi
  refine ⟨?_, fun e q => ?_⟩
  · have : (M.set i (HE.a M[i], HE.k M[i], HE.ty M[i], HE.n M[i], vs, HE.dv M[i])).map HE.a = M.map HE.a := by
      rw [List.map_set]
      apply List.ext_getElem
      · simp
      · intro j h1 h2
        rw [List.getElem_set]
        split
        · rename_i q; subst q; simp
        · rfl
    rw [this]; exact H.1
  · obtain ⟨j, hj, rfl⟩ := List.getElem_of_mem q
    rw [List.getElem_set]
    by_cases c : i = j
    · rw [if_pos c]; exact ⟨A, (H.2 _ (List.getElem_mem hl)).2⟩
    · rw [if_neg c]
      have hj' : j < M.length := by simpa using hj
      have o := H.2 _ (List.getElem_mem hj')
      refine ⟨o.1.other W fun z => c ?_, o.2⟩
      have nd := H.1
      have e1 : (M.map HE.a)[j]'(by simpa using hj') = (M.map HE.a)[i]'(by simpa using hl) := by simpa using z
      exact ((List.getElem_inj nd).mp e1).symm
theorem HM.split {Z : State} {h : Heap} {P R : List HE} (H : HM Z h (P ++ R)) : HM Z h P ∧ HM Z h R := by
  have nd := H.1
  rw [List.map_append, List.nodup_append] at nd
  exact ⟨⟨nd.1, fun e q => H.2 e (List.mem_append_left _ q)⟩, ⟨nd.2.1, fun e q => H.2 e (List.mem_append_right _ q)⟩⟩
theorem HM.frame {Z : State} {h h' : Heap} {P R P' : List HE} (H : HM Z h (P ++ R)) (H' : HM Z h' P') (K : Keep h h' (P.map HE.a)) (q : ∀ x ∈ P'.map HE.a, x ∈ P.map HE.a ∨ h.size ≤ x) : HM Z h' (P' ++ R) := by
  have nd := H.1
  rw [List.map_append, List.nodup_append] at nd
  refine ⟨?_, fun e r => ?_⟩
  · rw [List.map_append, List.nodup_append]
    refine ⟨H'.1, nd.2.1, fun x hx y hy e => ?_⟩
    subst e
    rcases q x hx with z | z
    · exact nd.2.2 x z x hy rfl
    · exact absurd (H.split.2.lt hy) (Nat.not_lt.mpr z)
  · rcases List.mem_append.mp r with r | r
    · exact H'.2 e r
    · have o := H.2 e (List.mem_append_right _ r)
      exact ⟨o.1.keep K fun z => nd.2.2 _ z _ (List.mem_map_of_mem r) rfl, o.2⟩
/-- all that the rest keeps where a call writes other cells alone -/
theorem HM.keep {Z : State} {h h' : Heap} {M : List HE} {ws : List Addr} (H : HM Z h M) (K : Keep h h' ws) (q : ∀ x ∈ M.map HE.a, x ∉ ws) : HM Z h' M := ⟨H.1, fun e r => ⟨(H.2 e r).1.keep K (q _ (List.mem_map_of_mem r)), (H.2 e r).2⟩⟩
def OB (Z : State) (h : Heap) (o : Addr) (C : String) (fs : List (String × String × Value)) : Prop := Exa Z h o C ∧ ∀ f ∈ fs, Fld Z h o C f.1 f.2.1 f.2.2
theorem OB.get {Z : State} {h : Heap} {o : Addr} {C : String} {fs : List (String × String × Value)} (O : OB Z h o C fs) (i : Nat) {f : String × String × Value} (hi : fs[i]? = some f) : Fld Z h o C f.1 f.2.1 f.2.2 := O.2 f (List.mem_of_getElem? hi)
theorem OB.ext {Z : State} {h h' : Heap} {o : Addr} {C : String} {fs : List (String × String × Value)} (O : OB Z h o C fs) (E : Ext h h') : OB Z h' o C fs := ⟨O.1.ext E, fun f q => (O.2 f q).ext E⟩
theorem OB.ne {Z : State} {h : Heap} {o : Addr} {C : String} {fs : List (String × String × Value)} {b0 : Array Value} {kk : Nat} (O : OB Z h o C fs) (wi : (Jvm.Cond.instantiable C kk).before b0 Z = true) {a : Addr} {k : ClassId} {ty : FieldType} {n : Int32} {vs : List Value} {dv : Value} (A : Arv Z h a k ty n vs dv) : o ≠ a := fun e => by
  obtain ⟨c, A1, -⟩ := A
  exact ne_arr O.1 wi A1 e
theorem OB.wr {Z : State} {h h' : Heap} {o : Addr} {C : String} {fs : List (String × String × Value)} {b0 : Array Value} {kk : Nat} (O : OB Z h o C fs) (wi : (Jvm.Cond.instantiable C kk).before b0 Z = true) {a : Addr} {k : ClassId} {ty : FieldType} {n : Int32} {vs : List Value} {dv : Value} (A : Arv Z h a k ty n vs dv) {sl : Nat} {v : Value} (W : Wr h h' a sl v) : OB Z h' o C fs := ⟨O.1.wr W, fun f q => (O.2 f q).other W (Or.inl (O.ne wi A))⟩
theorem OB.keep {Z : State} {h h' : Heap} {o : Addr} {C : String} {fs : List (String × String × Value)} {b0 : Array Value} {kk : Nat} {M : List HE} (O : OB Z h o C fs) (wi : (Jvm.Cond.instantiable C kk).before b0 Z = true) (H : HM Z h M) (K : Keep h h' (M.map HE.a)) : OB Z h' o C fs := by
  have ni : o ∉ M.map HE.a := fun q => by
    obtain ⟨e, q1, q2⟩ := List.mem_map.mp q
    exact O.ne wi (H.2 e q1).1 q2.symm
  exact ⟨O.1.keep K, fun f q => (O.2 f q).keep K ni⟩
theorem HM.obj {Z : State} {h h' : Heap} {M : List HE} {o : Addr} {C : String} {fs : List (String × String × Value)} {b0 : Array Value} {kk : Nat} (H : HM Z h M) (O : OB Z h o C fs) (wi : (Jvm.Cond.instantiable C kk).before b0 Z = true) {sl : Nat} {v : Value} (W : Wr h h' o sl v) : HM Z h' M := ⟨H.1, fun e q => ⟨(H.2 e q).1.other W (O.ne wi (H.2 e q).1).symm, (H.2 e q).2⟩⟩
def OBL (Z : State) (b0 : Array Value) (C : String) (FL : List (String × String)) : Prop := (∀ p ∈ FL, Laid Z b0 C C p.1 p.2 ∧ ∃ t, parseFieldDescriptor p.2 = some t) ∧ (FL.map Prod.fst).Nodup
theorem OB.put {Z : State} {h h' : Heap} {o : Addr} {C : String} {fs : List (String × String × Value)} {b0 : Array Value} {FL : List (String × String)} (O : OB Z h o C fs) (B : OBL Z b0 C FL) (e : fs.map (fun f => (f.1, f.2.1)) = FL) (i : Nat) {n d : String} {old v : Value} (hi : fs[i]? = some (n, d, old)) (W : Wr h h' o (Jvm.RoadKit.slotOf Z C n d) v) : OB Z h' o C (fs.set i (n, d, v)) := by
  subst e
  refine ⟨O.1.wr W, fun f q => ?_⟩
  obtain ⟨hl, hi'⟩ := List.getElem?_eq_some_iff.mp hi
  obtain ⟨j, hj, rfl⟩ := List.getElem_of_mem q
  have hj' : j < fs.length := by simpa using hj
  rw [List.getElem_set]
  by_cases c : i = j
  · rw [if_pos c]
    have F : Fld Z h o C n d old := O.get i hi
    exact F.same W
  · rw [if_neg c]
    have m1 : (fs[j].1, fs[j].2.1) ∈ fs.map (fun f => (f.1, f.2.1)) := List.mem_map.mpr ⟨_, List.getElem_mem hj', rfl⟩
    have m2 : (n, d) ∈ fs.map (fun f => (f.1, f.2.1)) := List.mem_map.mpr ⟨_, List.getElem_mem hl, by rw [hi']⟩
    obtain ⟨L1, t1, p1⟩ := B.1 _ m1
    obtain ⟨L2, t2, p2⟩ := B.1 _ m2
    refine (O.2 _ (List.getElem_mem hj')).other W (Or.inr (slot_ne L1 L2 (fun z => c ?_) p1 p2))
    have nd := B.2
    rw [List.map_map] at nd
    have e1 : (fs.map (Prod.fst ∘ fun f => (f.1, f.2.1)))[i]'(by simpa using hl) = (fs.map (Prod.fst ∘ fun f => (f.1, f.2.1)))[j]'(by simpa using hj') := by
      simp only [List.getElem_map, Function.comp]
      rw [hi']; exact z.symm
    exact (List.getElem_inj nd).mp e1
theorem HM.frameO {Z : State} {h h' : Heap} {P R P' : List HE} {o : Addr} {C : String} {fs : List (String × String × Value)} {b0 : Array Value} {kk : Nat} (H : HM Z h (P ++ R)) (O : OB Z h o C fs) (wi : (Jvm.Cond.instantiable C kk).before b0 Z = true) (H' : HM Z h' P') (K : Keep h h' (o :: P.map HE.a)) (q : ∀ x ∈ P'.map HE.a, x ∈ P.map HE.a ∨ h.size ≤ x) : HM Z h' (P' ++ R) := by
  have nd := H.1
  rw [List.map_append, List.nodup_append] at nd
  refine ⟨?_, fun e r => ?_⟩
  · rw [List.map_append, List.nodup_append]
    refine ⟨H'.1, nd.2.1, fun x hx y hy e => ?_⟩
    subst e
    rcases q x hx with z | z
    · exact nd.2.2 x z x hy rfl
    · exact absurd (H.split.2.lt hy) (Nat.not_lt.mpr z)
  · rcases List.mem_append.mp r with r | r
    · exact H'.2 e r
    · have u := H.2 e (List.mem_append_right _ r)
      refine ⟨u.1.keep K fun z => ?_, u.2⟩
      rcases List.mem_cons.mp z with z | z
      · exact O.ne wi u.1 z.symm
      · exact nd.2.2 _ z _ (List.mem_map_of_mem r) rfl
section OwnD
open Own
variable {p : Program} {l : Launch} {e : Env} {R : Room} {s : State} {m : MethodId} {args : Array Value} {below : List Frame} {meth : Method} {c : Code} {Z : State} {a0 : Array Value} {y : MethodName} {bytes : ByteArray} {maxL : Nat} {ret : Option FieldType} {T : State} {h : Heap} {ce sl : Nat} {sf : List Addr} {G : State → Prop} {pc : Nat} {L : Array Slot} {S : List Value}
theorem o_dloadN (pc' : Nat) (W : Wk p l e R s m args below meth c Z y bytes maxL ret T h ce sl sf) {k : Fin 4} {v : UInt64} (hd : decode bytes pc = .ok (.dload_n k, 1)) (hl : L[k.val]? = some (.val (.double v))) (K : Go p e below G T (mkF m pc' L (.double v :: S))) (hp : pc + 1 = pc' := by rfl) : Go p e below G T (mkF m pc L (S)) := by
  subst hp
  obtain ⟨vm0, k0, locs, X, eT, hS, hk, hZ, hown, hF, hN, hC, hsf, hE, ⟨a1, hEL⟩, hx, hby, hml, hnm, hrt, hlk⟩ := W
  subst hby
  exact K.st fun u k => XT.dloadN X.here hx rfl hd hl k
theorem o_dload (pc' : Nat) (W : Wk p l e R s m args below meth c Z y bytes maxL ret T h ce sl sf) {k : Nat} {v : UInt64} (hd : decode bytes pc = .ok (.dload k, 2)) (hl : L[k]? = some (.val (.double v))) (K : Go p e below G T (mkF m pc' L (.double v :: S))) (hp : pc + 2 = pc' := by rfl) : Go p e below G T (mkF m pc L (S)) := by
  subst hp
  obtain ⟨vm0, k0, locs, X, eT, hS, hk, hZ, hown, hF, hN, hC, hsf, hE, ⟨a1, hEL⟩, hx, hby, hml, hnm, hrt, hlk⟩ := W
  subst hby
  exact K.st fun u k => XT.dload X.here hx rfl hd hl k
theorem o_dstoreN (pc' : Nat) (W : Wk p l e R s m args below meth c Z y bytes maxL ret T h ce sl sf) {k : Fin 4} {v : UInt64} (L' : Array Slot) (hd : decode bytes pc = .ok (.dstore_n k, 1)) (hl : storeLocals L k.val (.double v) = some L') (K : Go p e below G T (mkF m pc' L' (S))) (hp : pc + 1 = pc' := by rfl) : Go p e below G T (mkF m pc L (.double v :: S)) := by
  subst hp
  obtain ⟨vm0, k0, locs, X, eT, hS, hk, hZ, hown, hF, hN, hC, hsf, hE, ⟨a1, hEL⟩, hx, hby, hml, hnm, hrt, hlk⟩ := W
  subst hby
  exact K.st fun u k => XS.dstoreN X.here hx rfl hd rfl hl k
theorem o_dstore (pc' : Nat) (W : Wk p l e R s m args below meth c Z y bytes maxL ret T h ce sl sf) {k : Nat} {v : UInt64} (L' : Array Slot) (hd : decode bytes pc = .ok (.dstore k, 2)) (hl : storeLocals L k (.double v) = some L') (K : Go p e below G T (mkF m pc' L' (S))) (hp : pc + 2 = pc' := by rfl) : Go p e below G T (mkF m pc L (.double v :: S)) := by
  subst hp
  obtain ⟨vm0, k0, locs, X, eT, hS, hk, hZ, hown, hF, hN, hC, hsf, hE, ⟨a1, hEL⟩, hx, hby, hml, hnm, hrt, hlk⟩ := W
  subst hby
  exact K.st fun u k => XS.dstore X.here hx rfl hd rfl hl k
theorem o_dconst0 (pc' : Nat) (W : Wk p l e R s m args below meth c Z y bytes maxL ret T h ce sl sf)  (hd : decode bytes pc = .ok (.dconst 0, 1))  (K : Go p e below G T (mkF m pc' L (.double FP.dconst0 :: S))) (hp : pc + 1 = pc' := by rfl) : Go p e below G T (mkF m pc L (S)) := by
  subst hp
  obtain ⟨vm0, k0, locs, X, eT, hS, hk, hZ, hown, hF, hN, hC, hsf, hE, ⟨a1, hEL⟩, hx, hby, hml, hnm, hrt, hlk⟩ := W
  subst hby
  exact K.st fun u k => XS.dconst0 X.here hx rfl hd rfl k
theorem o_dconst1 (pc' : Nat) (W : Wk p l e R s m args below meth c Z y bytes maxL ret T h ce sl sf)  (hd : decode bytes pc = .ok (.dconst 1, 1))  (K : Go p e below G T (mkF m pc' L (.double FP.dconst1 :: S))) (hp : pc + 1 = pc' := by rfl) : Go p e below G T (mkF m pc L (S)) := by
  subst hp
  obtain ⟨vm0, k0, locs, X, eT, hS, hk, hZ, hown, hF, hN, hC, hsf, hE, ⟨a1, hEL⟩, hx, hby, hml, hnm, hrt, hlk⟩ := W
  subst hby
  exact K.st fun u k => XS.dconst1 X.here hx rfl hd rfl k
theorem o_lsub (pc' : Nat) (W : Wk p l e R s m args below meth c Z y bytes maxL ret T h ce sl sf) {x z : Int64} (hd : decode bytes pc = .ok (.lsub, 1))  (K : Go p e below G T (mkF m pc' L (.long (x - z) :: S))) (hp : pc + 1 = pc' := by rfl) : Go p e below G T (mkF m pc L (.long z :: .long x :: S)) := by
  subst hp
  obtain ⟨vm0, k0, locs, X, eT, hS, hk, hZ, hown, hF, hN, hC, hsf, hE, ⟨a1, hEL⟩, hx, hby, hml, hnm, hrt, hlk⟩ := W
  subst hby
  exact K.st fun u k => XT.lsub X.here hx rfl hd rfl k
theorem o_lmul (pc' : Nat) (W : Wk p l e R s m args below meth c Z y bytes maxL ret T h ce sl sf) {x z : Int64} (hd : decode bytes pc = .ok (.lmul, 1))  (K : Go p e below G T (mkF m pc' L (.long (x * z) :: S))) (hp : pc + 1 = pc' := by rfl) : Go p e below G T (mkF m pc L (.long z :: .long x :: S)) := by
  subst hp
  obtain ⟨vm0, k0, locs, X, eT, hS, hk, hZ, hown, hF, hN, hC, hsf, hE, ⟨a1, hEL⟩, hx, hby, hml, hnm, hrt, hlk⟩ := W
  subst hby
  exact K.st fun u k => XT.lmul X.here hx rfl hd rfl k
theorem o_idiv (pc' : Nat) (W : Wk p l e R s m args below meth c Z y bytes maxL ret T h ce sl sf) {x z : Int32} (hd : decode bytes pc = .ok (.idiv, 1)) (hz : z ≠ 0) (K : Go p e below G T (mkF m pc' L (.int (x / z) :: S))) (hp : pc + 1 = pc' := by rfl) : Go p e below G T (mkF m pc L (.int z :: .int x :: S)) := by
  subst hp
  obtain ⟨vm0, k0, locs, X, eT, hS, hk, hZ, hown, hF, hN, hC, hsf, hE, ⟨a1, hEL⟩, hx, hby, hml, hnm, hrt, hlk⟩ := W
  subst hby
  exact K.st fun u k => XS.idiv X.here hx rfl hd rfl hz k
theorem o_dup2 (pc' : Nat) (W : Wk p l e R s m args below meth c Z y bytes maxL ret T h ce sl sf) {v w : Value} (hd : decode bytes pc = .ok (.dup2, 1)) (hc : v.category = 1) (hc' : w.category = 1) (K : Go p e below G T (mkF m pc' L (v :: w :: v :: w :: S))) (hp : pc + 1 = pc' := by rfl) : Go p e below G T (mkF m pc L (v :: w :: S)) := by
  subst hp
  obtain ⟨vm0, k0, locs, X, eT, hS, hk, hZ, hown, hF, hN, hC, hsf, hE, ⟨a1, hEL⟩, hx, hby, hml, hnm, hrt, hlk⟩ := W
  subst hby
  exact K.st fun u k => XT.dup2 X.here hx rfl hd rfl hc hc' k
theorem o_dup_x1 (pc' : Nat) (W : Wk p l e R s m args below meth c Z y bytes maxL ret T h ce sl sf) {v w : Value} (hd : decode bytes pc = .ok (.dup_x1, 1)) (hc : v.category = 1) (hc' : w.category = 1) (K : Go p e below G T (mkF m pc' L (v :: w :: v :: S))) (hp : pc + 1 = pc' := by rfl) : Go p e below G T (mkF m pc L (v :: w :: S)) := by
  subst hp
  obtain ⟨vm0, k0, locs, X, eT, hS, hk, hZ, hown, hF, hN, hC, hsf, hE, ⟨a1, hEL⟩, hx, hby, hml, hnm, hrt, hlk⟩ := W
  subst hby
  exact K.st fun u k => XT.dupX1 X.here hx rfl hd rfl hc hc' k
theorem o_daddQ (pc' : Nat) (W : Wk p l e R s m args below meth c Z y bytes maxL ret T h ce sl sf) {x z : UInt64} {K0 : Nat} {i j : Int} (hx' : DQ K0 i x) (hz' : DQ K0 j z) (hb : (i + j).natAbs ≤ 2 ^ 53 := by omega) (hk' : K0 ≤ 1000 := by decide) (hd : decode bytes pc = .ok (.dadd, 1)) (K : ∀ v, DQ K0 (i + j) v → Go p e below G T (mkF m pc' L (.double v :: S))) (hp : pc + 1 = pc' := by rfl) : Go p e below G T (mkF m pc L (.double z :: .double x :: S)) := by
  subst hp
  have hq : DQ K0 (i + j) (FP.dadd x z) := DQ.add hx' hz' hb hk'
  obtain ⟨vm0, k0, locs, X, eT, hS, hk, hZ, hown, hF, hN, hC, hsf, hE, ⟨a1, hEL⟩, hx, hby, hml, hnm, hrt, hlk⟩ := W
  subst hby
  exact (K _ hq).st fun u k => XS.daddS X.here hx rfl hd rfl (Jvm.Free.Fl.noNaN64_no.mpr hq.nn) rfl k
theorem o_dsubQ (pc' : Nat) (W : Wk p l e R s m args below meth c Z y bytes maxL ret T h ce sl sf) {x z : UInt64} {K0 : Nat} {i j : Int} (hx' : DQ K0 i x) (hz' : DQ K0 j z) (hb : (i - j).natAbs ≤ 2 ^ 53 := by omega) (hk' : K0 ≤ 1000 := by decide) (hd : decode bytes pc = .ok (.dsub, 1)) (K : ∀ v, DQ K0 (i - j) v → Go p e below G T (mkF m pc' L (.double v :: S))) (hp : pc + 1 = pc' := by rfl) : Go p e below G T (mkF m pc L (.double z :: .double x :: S)) := by
  subst hp
  have hq : DQ K0 (i - j) (FP.dsub x z) := DQ.sub hx' hz' hb hk'
  obtain ⟨vm0, k0, locs, X, eT, hS, hk, hZ, hown, hF, hN, hC, hsf, hE, ⟨a1, hEL⟩, hx, hby, hml, hnm, hrt, hlk⟩ := W
  subst hby
  exact (K _ hq).st fun u k => XS.dsubS X.here hx rfl hd rfl (Jvm.Free.Fl.noNaN64_no.mpr hq.nn) rfl k
theorem o_dmulQ (pc' : Nat) (W : Wk p l e R s m args below meth c Z y bytes maxL ret T h ce sl sf) {x z : UInt64} {K0 K1 : Nat} {i j : Int} (hx' : DQ K0 i x) (hz' : DQ K1 j z) (hb : (i * j).natAbs ≤ 2 ^ 53) (hk' : K0 + K1 ≤ 1000 := by decide) (hd : decode bytes pc = .ok (.dmul, 1)) (K : ∀ v, DQ (K0 + K1) (i * j) v → Go p e below G T (mkF m pc' L (.double v :: S))) (hp : pc + 1 = pc' := by rfl) : Go p e below G T (mkF m pc L (.double z :: .double x :: S)) := by
  subst hp
  have hq : DQ (K0 + K1) (i * j) (FP.dmul x z) := DQ.mul hx' hz' hb hk'
  obtain ⟨vm0, k0, locs, X, eT, hS, hk, hZ, hown, hF, hN, hC, hsf, hE, ⟨a1, hEL⟩, hx, hby, hml, hnm, hrt, hlk⟩ := W
  subst hby
  exact (K _ hq).st fun u k => XS.dmulS X.here hx rfl hd rfl (Jvm.Free.Fl.noNaN64_no.mpr hq.nn) rfl k
theorem o_ddivQ (pc' : Nat) (W : Wk p l e R s m args below meth c Z y bytes maxL ret T h ce sl sf) {x z : UInt64} {K0 : Nat} {i : Int} (kk : Nat) (hx' : DQ K0 i x) (hz' : FP.Core.val64 z = .fin false (2 ^ 52) ((kk : Int) - 52)) (hb : i.natAbs ≤ 2 ^ 53 := by omega) (hk' : K0 + kk ≤ 1000 := by decide) (hd : decode bytes pc = .ok (.ddiv, 1)) (K : ∀ v, DQ (K0 + kk) i v → Go p e below G T (mkF m pc' L (.double v :: S))) (hp : pc + 1 = pc' := by rfl) : Go p e below G T (mkF m pc L (.double z :: .double x :: S)) := by
  subst hp
  have hq : DQ (K0 + kk) i (FP.ddiv x z) := DQ.div hx' hz' hb hk'
  obtain ⟨vm0, k0, locs, X, eT, hS, hk, hZ, hown, hF, hN, hC, hsf, hE, ⟨a1, hEL⟩, hx, hby, hml, hnm, hrt, hlk⟩ := W
  subst hby
  exact (K _ hq).st fun u k => XS.ddivS X.here hx rfl hd rfl (Jvm.Free.Fl.noNaN64_no.mpr hq.nn) rfl k
theorem o_i2dQ (pc' : Nat) (W : Wk p l e R s m args below meth c Z y bytes maxL ret T h ce sl sf) {x : Int32}  (hd : decode bytes pc = .ok (.i2d, 1)) (K : ∀ v, DQ 0 x.toInt v → Go p e below G T (mkF m pc' L (.double v :: S))) (hp : pc + 1 = pc' := by rfl) : Go p e below G T (mkF m pc L (.int x :: S)) := by
  subst hp
  have hq : DQ 0 x.toInt (FP.i2d x) := DQ.i2d x
  obtain ⟨vm0, k0, locs, X, eT, hS, hk, hZ, hown, hF, hN, hC, hsf, hE, ⟨a1, hEL⟩, hx, hby, hml, hnm, hrt, hlk⟩ := W
  subst hby
  exact (K _ hq).st fun u k => XS.i2dS X.here hx rfl hd rfl  rfl k
theorem o_l2dQ (pc' : Nat) (W : Wk p l e R s m args below meth c Z y bytes maxL ret T h ce sl sf) {x : Int64} (hb : x.toInt.natAbs ≤ 2 ^ 53) (hd : decode bytes pc = .ok (.l2d, 1)) (K : ∀ v, DQ 0 x.toInt v → Go p e below G T (mkF m pc' L (.double v :: S))) (hp : pc + 1 = pc' := by rfl) : Go p e below G T (mkF m pc L (.long x :: S)) := by
  subst hp
  have hq : DQ 0 x.toInt (FP.l2d x) := DQ.l2d hb
  obtain ⟨vm0, k0, locs, X, eT, hS, hk, hZ, hown, hF, hN, hC, hsf, hE, ⟨a1, hEL⟩, hx, hby, hml, hnm, hrt, hlk⟩ := W
  subst hby
  exact (K _ hq).st fun u k => XS.l2dS X.here hx rfl hd rfl  rfl k
theorem o_dnegQ (pc' : Nat) (W : Wk p l e R s m args below meth c Z y bytes maxL ret T h ce sl sf) {x : UInt64} {K0 : Nat} {i : Int} (hx' : DQ K0 i x) (hd : decode bytes pc = .ok (.dneg, 1)) (K : ∀ v, DQ K0 (-i) v → Go p e below G T (mkF m pc' L (.double v :: S))) (hp : pc + 1 = pc' := by rfl) : Go p e below G T (mkF m pc L (.double x :: S)) := by
  subst hp
  have hq : DQ K0 (-i) (FP.dneg x) := DQ.negJ hx'
  obtain ⟨vm0, k0, locs, X, eT, hS, hk, hZ, hown, hF, hN, hC, hsf, hE, ⟨a1, hEL⟩, hx, hby, hml, hnm, hrt, hlk⟩ := W
  subst hby
  exact (K _ hq).st fun u k => XS.dnegS X.here hx rfl hd rfl  rfl k
def own_c (i j : Int) : Int32 := if i < j then -1 else if i = j then 0 else 1
theorem own_c0 (i j : Int) : own_c i j = 0 ↔ i = j := by
  unfold own_c; split
  · constructor
    · intro q; exact absurd q (by decide)
    · omega
  · split
    · constructor <;> intro _ <;> first | assumption | rfl
    · constructor
      · intro q; exact absurd q (by decide)
      · intro q; contradiction
theorem own_cgt (i j : Int) : (0 : Int32) < own_c i j ↔ j < i := by
  unfold own_c; split
  · constructor
    · intro q; exact absurd q (by decide)
    · omega
  · split
    · constructor
      · intro q; exact absurd q (by decide)
      · omega
    · constructor
      · omega
      · intro _; decide
theorem own_cv {K0 : Nat} {i j : Int} {x z : UInt64} (hx : DQ K0 i x) (hz : DQ K0 j z) (op : CmpOp) : cmpValue (FP.dcmp x z) op = own_c i j := by
  have e : FP.dcmp x z = some (compare i j) := DQ.cmp hx hz
  rw [e, FP.Core.compare_ite]
  unfold own_c
  split
  · cases op <;> rfl
  · split <;> cases op <;> rfl
theorem o_dcmpQ (pc' : Nat) (W : Wk p l e R s m args below meth c Z y bytes maxL ret T h ce sl sf) {x z : UInt64} {K0 : Nat} {i j : Int} {op : CmpOp} (hx' : DQ K0 i x) (hz' : DQ K0 j z) (hd : decode bytes pc = .ok (.dcmp op, 1)) (K : Go p e below G T (mkF m pc' L (.int (own_c i j) :: S))) (hp : pc + 1 = pc' := by rfl) : Go p e below G T (mkF m pc L (.double z :: .double x :: S)) := by
  subst hp
  obtain ⟨vm0, k0, locs, X, eT, hS, hk, hZ, hown, hF, hN, hC, hsf, hE, ⟨a1, hEL⟩, hx, hby, hml, hnm, hrt, hlk⟩ := W
  subst hby
  exact K.st fun u k => XS.dcmpS X.here hx rfl hd rfl (own_cv hx' hz' op) k
theorem o_ldc2D (pc' : Nat) (W : Wk p l e R s m args below meth c Z y bytes maxL ret T h ce sl sf) {i : Nat} {v : UInt64} (w : (Jvm.Cond.constantDouble y.cls i v).before a0 Z = true) (hd : decode bytes pc = .ok (.ldc2_w i, 3)) (K : Go p e below G T (mkF m pc' L (.double v :: S))) (hp : pc + 3 = pc' := by rfl) : Go p e below G T (mkF m pc L S) := by
  subst hp
  obtain ⟨vm0, k0, locs, X, eT, hS, hk, hZ, hown, hF, hN, hC, hsf, hE, ⟨a1, hEL⟩, hx, hby, hml, hnm, hrt, hlk⟩ := W
  subst hby
  exact K.st fun u k => X.ldc2DoubleC hx hown (mvT hZ w) (g := mkF m pc L S) rfl hd u k
theorem o_daload (pc' : Nat) (W : Wk p l e R s m args below meth c Z y bytes maxL ret T h ce sl sf) {a : Addr} {cl : Cell} {j : Int32} {v : Value} (A : Arr Z h a cl .double) (hj : ¬ (j < 0 ∨ cl.slots.size ≤ j.toNatClampNeg)) (hv : cl.slots[j.toNatClampNeg]? = some v) (hd : decode bytes pc = .ok (.daload, 1)) (K : Go p e below G T (mkF m pc' L (v :: S))) (hp : pc + 1 = pc' := by rfl) : Go p e below G T (mkF m pc L (.int j :: .ref a :: S)) := by
  subst hp
  obtain ⟨vm0, k0, locs, X, eT, hS, hk, hZ, hown, hF, hN, hC, hsf, hE, ⟨a1, hEL⟩, hx, hby, hml, hnm, hrt, hlk⟩ := W
  subst hby
  exact K.st fun u k => X.daload hx (by rw [eT]; exact A.1) (State.isArrayOf_alike hZ.alike A.2.1) A.2.2 hj hv (g := mkF m pc L (.int j :: .ref a :: S)) rfl rfl hd u k
theorem o_daloadV (pc' : Nat) (W : Wk p l e R s m args below meth c Z y bytes maxL ret T h ce sl sf) {a : Addr} {k : ClassId} {z j : Int32} {vs : List Value} {dv v : Value} (A : Arv Z h a k .double z vs dv) (hj : ¬ j < 0 ∧ j < z) (hv : vs.getD j.toNatClampNeg dv = v) (hd : decode bytes pc = .ok (.daload, 1)) (K : Go p e below G T (mkF m pc' L (v :: S))) (hp : pc + 1 = pc' := by rfl) : Go p e below G T (mkF m pc L (.int j :: .ref a :: S)) := by
  obtain ⟨cl, A1, A2, A3, A4, A5, A6⟩ := A
  exact o_daload pc' W A1 (inb_of A3 hj) (Has.at A5 (inb_of A3 hj) hv) hd K hp
theorem o_aaloadV (pc' : Nat) (W : Wk p l e R s m args below meth c Z y bytes maxL ret T h ce sl sf) {a : Addr} {k : ClassId} {z j : Int32} {ty : FieldType} {vs : List Value} {dv v : Value} (A : Arv Z h a k ty z vs dv) (hty : ty.isReference = true) (hj : ¬ j < 0 ∧ j < z) (hv : vs.getD j.toNatClampNeg dv = v) (hd : decode bytes pc = .ok (.aaload, 1)) (K : Go p e below G T (mkF m pc' L (v :: S))) (hp : pc + 1 = pc' := by rfl) : Go p e below G T (mkF m pc L (.int j :: .ref a :: S)) := by
  obtain ⟨cl, A1, A2, A3, A4, A5, A6⟩ := A
  exact o_aaload pc' W A1 hty (inb_of A3 hj) (Has.at A5 (inb_of A3 hj) hv) hd K hp
theorem o_dastore (pc' : Nat) (i : Nat) (W : Wk p l e R s m args below meth c Z y bytes maxL ret T h ce sl sf) {a : Addr} {k : ClassId} {z j : Int32} {x : UInt64} {vs : List Value} {dv : Value} (A : Arv Z h a k .double z vs dv) (hj : ¬ j < 0 ∧ j < z) (hi : j.toNatClampNeg = i) (hlt : i < vs.length) (ha : Z.heap.size ≤ a) (hd : decode bytes pc = .ok (.dastore, 1))
    (K : ∀ T' h', Wk p l e R s m args below meth c Z y bytes maxL ret T' h' ce sl sf → Wr h h' a j.toNatClampNeg (.double x) → Arv Z h' a k .double z (vs.set i (.double x)) dv → Go p e below G T' (mkF m pc' L S)) (hp : pc + 1 = pc' := by rfl) : Go p e below G T (mkF m pc L (.double x :: .int j :: .ref a :: S)) := by
  subst hp
  obtain ⟨vm0, k0, locs, X, eT, hS, hk, hZ, hown, hF, hN, hC, hsf, hE, ⟨a1, hEL⟩, hx, hby, hml, hnm, hrt, hlk⟩ := W
  subst hby
  obtain ⟨cl, A1, A2, A3, A4, A5, A6⟩ := A
  have hsa : Safe Z own_EL vm0 h a := Safe.arr hZ.alike A1 (by decide)
  obtain ⟨T', h', X', e', Wr0, st⟩ := stD X hx hZ eT A1 (inb_of A3 hj) (g := mkF m pc L (.double x :: .int j :: .ref a :: S)) rfl rfl hd
  exact (K T' h' ⟨vm0, k0, _, X', e', hS, Nat.le_trans hk (Nat.le_of_eq Wr0.size.symm), hZ, hown, Fr.snoc X' hF ha, hN, hC.trans (CHr.wr Wr0 hsa hC.1), fun x q => ⟨Nat.lt_of_lt_of_le (hsf x q).1 (Nat.le_of_eq Wr0.size.symm), Safe.wr Wr0 hsa hC.1 (hsf x q).2⟩, own_ext_wr hE Wr0 ha, ⟨a1, hEL⟩, hx, rfl, hml, hnm, hrt, hlk⟩ Wr0 (Arv.set A1 A2 A3 A4 A5 A6 rfl Wr0 i hi hlt)).st st
/-- a reference into an array of arrays -/
theorem o_aastore (pc' : Nat) (i : Nat) (W : Wk p l e R s m args below meth c Z y bytes maxL ret T h ce sl sf) {a b : Addr} {k : ClassId} {z j : Int32} {ty : FieldType} {vs : List Value} {dv : Value} {C : String} (A : Arv Z h a k (.array ty) z vs dv) (B : Ins Z h b C true) (O : OvrA Z k ty C) (hj : ¬ j < 0 ∧ j < z) (hi : j.toNatClampNeg = i) (hlt : i < vs.length) (ha : Z.heap.size ≤ a) (hd : decode bytes pc = .ok (.aastore, 1))
    (K : ∀ T' h', Wk p l e R s m args below meth c Z y bytes maxL ret T' h' ce sl sf → Wr h h' a j.toNatClampNeg (.ref b) → Arv Z h' a k (.array ty) z (vs.set i (.ref b)) dv → Go p e below G T' (mkF m pc' L S)) (hp : pc + 1 = pc' := by rfl) : Go p e below G T (mkF m pc L (.ref b :: .int j :: .ref a :: S)) := by
  subst hp
  obtain ⟨vm0, k0, locs, X, eT, hS, hk, hZ, hown, hF, hN, hC, hsf, hE, ⟨a1, hEL⟩, hx, hby, hml, hnm, hrt, hlk⟩ := W
  subst hby
  obtain ⟨cl, A1, A2, A3, A4, A5, A6⟩ := A
  have hsa : Safe Z own_EL vm0 h a := Safe.arr hZ.alike A1 (by simp)
  obtain ⟨T', h', X', e', Wr0, st⟩ := stR X hx hZ eT A1 (inb_of A3 hj) rfl (Sto.ofVA A1 A2 O B) (g := mkF m pc L (.ref b :: .int j :: .ref a :: S)) rfl rfl hd
  exact (K T' h' ⟨vm0, k0, _, X', e', hS, Nat.le_trans hk (Nat.le_of_eq Wr0.size.symm), hZ, hown, Fr.snoc X' hF ha, hN, hC.trans (CHr.wr Wr0 hsa hC.1), fun x q => ⟨Nat.lt_of_lt_of_le (hsf x q).1 (Nat.le_of_eq Wr0.size.symm), Safe.wr Wr0 hsa hC.1 (hsf x q).2⟩, own_ext_wr hE Wr0 ha, ⟨a1, hEL⟩, hx, rfl, hml, hnm, hrt, hlk⟩ Wr0 (Arv.set A1 A2 A3 A4 A5 A6 rfl Wr0 i hi hlt)).st st
theorem o_anewarray (pc' : Nat) (cap : Nat) (W : Wk p l e R s m args below meth c Z y bytes maxL ret T h ce sl sf) {i : Nat} {C ad : String} {ty : FieldType} {n : Int32} (hC : (FieldType.array ty).toString = C) (had : "[" ++ C = ad) (w1 : (Jvm.Cond.classLink y.cls i C).before a0 Z = true) (w2 : (Jvm.Cond.arrayOver (.array ty)).before a0 Z = true) (hd : decode bytes pc = .ok (.anewarray i, 3)) (hn : ¬ n < 0) (hcap : n.toNatClampNeg ≤ cap)
    (K : ∀ T' h' a k, Wk p l e R s m args below meth c Z y bytes maxL ret T' h' (ce + 1) (sl + cap) (a :: sf) → Ext h h' → Arv Z h' a k (.array ty) n [] .null → OvrA Z k ty C → h.size ≤ a → Z.heap.size ≤ a → Go p e below G T' (mkF m pc' L (.ref a :: S)))
    (hb : cap * 8 ≤ 536870912 := by decide) (hc : ce + 1 ≤ R.cells := by decide) (hs : sl + cap ≤ R.slots := by decide) (hp : pc + 3 = pc' := by rfl) : Go p e below G T (mkF m pc L (.int n :: S)) := by
  subst hp
  obtain ⟨vm0, k0, locs, X, eT, hS, hk, hZ, hown, hF, hN, hC', hsf, hE, ⟨a1, hEL⟩, hx, hby, hml, hnm, hrt, hlk⟩ := W
  subst hby
  obtain ⟨T', h', cA, X', e', E, A, -, O, st⟩ := newRA X hx hZ hown hC w1 w2 eT (g := mkF m pc L (.int n :: S)) rfl hd rfl hn hcap hb hc hs had
  refine (K T' h' h.size cA ⟨vm0, k0, locs, X', e', hS, Nat.le_trans hk E.1, hZ, hown, hF, hN, hC'.trans (CHr.ext E hC'.1), fun x q => ?_, own_ext_trans hE E, ⟨a1, hEL⟩, hx, rfl, hml, hnm, hrt, hlk⟩ E (Arv.new A hn) O (Nat.le_refl _) hE.1).st st
  rcases List.mem_cons.mp q with rfl | q
  · exact ⟨A.lt, Safe.ext E hC'.1 (Safe.new (Nat.le_refl _))⟩
  · exact ⟨Nat.lt_of_lt_of_le (hsf x q).1 E.1, Safe.ext E hC'.1 (hsf x q).2⟩
theorem o_newarrayE (pc' : Nat) (cap : Nat) (W : Wk p l e R s m args below meth c Z y bytes maxL ret T h ce sl sf) {aty : ArrayType} {n : Int32} {ad : String} (had : "[" ++ (newarray.typeOf aty).toString = ad) (w : (Jvm.Cond.arrayClass (newarray.typeOf aty)).before a0 Z = true) (hd : decode bytes pc = .ok (.newarray aty, 2)) (hn : ¬ n < 0) (hcap : n.toNatClampNeg ≤ cap)
    (K : ∀ T' h' a k, Wk p l e R s m args below meth c Z y bytes maxL ret T' h' (ce + 1) (sl + cap) (a :: sf) → Ext h h' → Arv Z h' a k (newarray.typeOf aty) n [] (defaultValue (newarray.typeOf aty)) → Exa Z h' a ad → h.size ≤ a → Z.heap.size ≤ a → Go p e below G T' (mkF m pc' L (.ref a :: S)))
    (hb : cap * 8 ≤ 536870912 := by decide) (hc : ce + 1 ≤ R.cells := by decide) (hs : sl + cap ≤ R.slots := by decide) (hp : pc + 2 = pc' := by rfl) : Go p e below G T (mkF m pc L (.int n :: S)) := by
  subst hp had
  obtain ⟨vm0, k0, locs, X, eT, hS, hk, hZ, hown, hF, hN, hC, hsf, hE, ⟨a1, hEL⟩, hx, hby, hml, hnm, hrt, hlk⟩ := W
  subst hby
  have hcb : componentBytes (newarray.typeOf aty) ≤ 8 := by cases aty <;> decide
  obtain ⟨cA, kA, comp, h1, h2, h3, X1, st⟩ := X.newarrayPrim hx (mvA hZ w) (g := mkF m pc L (.int n :: S)) rfl hd rfl hn (Nat.le_trans (Nat.mul_le_mul hcap hcb) hb) hc (by omega)
  have X' := X1.more (Nat.le_refl _) (show sl + n.toNatClampNeg ≤ sl + cap by omega)
  subst eT
  rw [hZ.alike.findClass] at h1
  obtain ⟨kZ, z1, -⟩ := Vm.findClass_spec h1
  obtain ⟨k', z2, z3⟩ := hZ.alike.2.2 _ _ z1
  cases h2.symm.trans z2
  have E : Ext T.heap (T.heap.push (newA cA (newarray.typeOf aty) n)) := ext_of fun a q => Array.getElem?_push_lt q |>.trans (Array.getElem?_eq_getElem q).symm
  have A : Arr Z (T.heap.push (newA cA (newarray.typeOf aty) n)) T.heap.size (newA cA (newarray.typeOf aty) n) (newarray.typeOf aty) := ⟨by simp, ⟨by simp [newA], kZ, z1, comp, by rw [← h3, z3]⟩, by simp [newA]⟩
  refine (K _ (T.heap.push (newA cA (newarray.typeOf aty) n)) T.heap.size cA ⟨vm0, k0, locs, X', rfl, hS, Nat.le_trans hk E.1, hZ, hown, hF, hN, hC.trans (CHr.ext E hC.1), fun x q => ?_, own_ext_trans hE E, ⟨a1, hEL⟩, hx, rfl, hml, hnm, hrt, hlk⟩ E (Arv.new A hn) (exa_arr A h1 rfl) (Nat.le_refl _) hE.1).st st
  rcases List.mem_cons.mp q with rfl | q
  · exact ⟨A.lt, Safe.ext E hC.1 (Safe.new (Nat.le_refl _))⟩
  · exact ⟨Nat.lt_of_lt_of_le (hsf x q).1 E.1, Safe.ext E hC.1 (hsf x q).2⟩
theorem o_minD (pc' : Nat) (W : Wk p l e R s m args below meth c Z y bytes maxL ret T h ce sl sf) {i : Nat} {x z : UInt64} (w1 : (Jvm.Cond.methodLink y.cls i Jvm.Free.Fl.Abs.minDN).before a0 Z = true) (w2 : (Jvm.Cond.static Jvm.Free.Fl.Abs.minDN).before a0 Z = true) (w3 : (Jvm.Cond.initialized "java/lang/Math").before a0 Z = true) (w4 : (Jvm.Cond.code Jvm.Free.Fl.Abs.minDN Jvm.Free.Fl.Abs.minDCode 4 (some .double)).before a0 Z = true) (hx' : FP.Core.dIsNaN x = false) (hz' : FP.Core.dIsNaN z = false) (hd : decode bytes pc = .ok (.invokestatic i, 3))
    (K : ∀ T', Wk p l e R s m args below meth c Z y bytes maxL ret T' h ce sl sf → Go p e below G T' (mkF m pc' L (.double (Native.java_lang_Math.nans.pick64 false x z) :: S))) (hsz : L.size = maxL := by rfl) (hf : 1 ≤ R.frames := by decide) (hl : (S.map fun v => v.category).sum + 15 ≤ R.locals := by first | decide | exact Nat.le_of_ble_eq_true rfl) (hc : ce ≤ R.cells := by decide) (hs : sl ≤ R.slots := by decide) (hp : pc + 3 = pc' := by rfl) : Go p e below G T (mkF m pc L (.double z :: .double x :: S)) := by
  subst hp
  obtain ⟨vm0, k0, locs, X, eT, hS, hk, hZ, hown, hF, hN, hC, hsf, hE, ⟨a1, hEL⟩, hx, hby, hml, hnm, hrt, hlk⟩ := W
  subst hby
  obtain ⟨T', X', e', st⟩ := natS X hx hZ hown w1 w2 w3 w4 (by decide) eT (W := (S.map fun v => v.category).sum) (F := fun a' => a' = #[.double x, .double z] ∧ Jvm.Free.Fl.NoNaN64 x ∧ Jvm.Free.Fl.NoNaN64 z) (fun hk => Jvm.Free.Fl.Abs.minD_pays x z hk hf hl) (g := mkF m pc L (.double z :: .double x :: S)) rfl (by rw [hml]; exact hsz) (argsL := [.double x, .double z]) (rest := S) (fun sig q => by cases q; rfl) rfl (by show 2 * 0 + _ ≤ _; omega) hd hc hs ⟨rfl, Jvm.Free.Fl.noNaN64_no.mpr hx', Jvm.Free.Fl.noNaN64_no.mpr hz'⟩ rfl
  exact (K T' ⟨vm0, k0, locs, X', e', hS, hk, hZ, hown, hF, hN, hC, hsf, hE, ⟨a1, hEL⟩, hx, rfl, hml, hnm, hrt, hlk⟩).st st
theorem o_dret {Q : Value → Heap → Prop} {kc ks : Nat} (W : Wk p l e R s m args below meth c Z y bytes maxL (some .double) T h ce sl sf) {x : UInt64} (hd : decode bytes pc = .ok (.dreturn, 1)) (hq : Q (.double x) h) (hc : ce ≤ kc := by decide) (hs : sl ≤ ks := by decide) : Go p e below (Gd s below Z (QV Q) kc ks) T (mkF m pc L (.double x :: S)) := by
  have W2 := W
  obtain ⟨vm0, k0, locs, X, eT, hS, hk, hZ, hown, hF, hN, hC, hsf, hE, ⟨a1, hEL⟩, hx, hby, hml, hnm, hrt, hlk⟩ := W2
  subst hby
  exact o_end W (v := some (.double x)) (fun q => by rw [hrt] at q; cases q) ⟨_, rfl, hq⟩ hc hs fun fs hr => retOut X hx hrt rfl (Or.inr (Or.inr (Or.inl ⟨rfl, rfl, x, rfl⟩))) hd hr
end OwnD
section OwnP
variable {p : Program} {l : Launch} {e : Env} {R : Room} {s : State} {m : MethodId} {args : Array Value} {below : List Frame} {meth : Method} {c : Code} {Z : State} {a0 : Array Value} {y : MethodName} {bytes : ByteArray} {maxL : Nat} {ret : Option FieldType} {T : State} {h : Heap} {ce sl : Nat} {sf : List Addr} {G : State → Prop} {pc : Nat} {L : Array Slot} {S : List Value}
theorem o_private (pc' : Nat) (A : List Value) (W : Wk p l e R s m args below meth c Z y bytes maxL ret T h ce sl sf) {y' : MethodName} {bytes' : ByteArray} {maxL' : Nat} {ret' : Option FieldType} {rm : Room} {sf' : List Addr} {Q : Option Value → Heap → Prop} {stk : List Value} {i kk : Nat} {a : Addr} (w1 : (Jvm.Cond.methodLink y.cls i y').before a0 Z = true) (w4 : (Jvm.Cond.instanceMethod y').before a0 Z = true) (wp : (Jvm.Cond.privateMethod y').before a0 Z = true) (wi : (Jvm.Cond.instantiable y'.cls kk).before a0 Z = true) (wz : (Jvm.Cond.initialized y'.cls).before a0 Z = true) (wc : (Jvm.Cond.code y' bytes' maxL' ret').before a0 Z = true) {C0 : String} (E : Exa Z h a C0) (C : Con l Z y' bytes' maxL' ret' rm (.ref a :: A).toArray h sf' Q) {ps : List FieldType} {rt : Option FieldType} (hpd : parseMethodDescriptor y'.desc = some ⟨ps, rt⟩) (hd : decode bytes pc = .ok (.invokevirtual i, 3)) (hst : stk = A.reverse ++ .ref a :: S) (hsub : ∀ x ∈ sf', x ∈ sf) (K : ∀ T' h' v, Wk p l e R s m args below meth c Z y bytes maxL ret T' h' (ce + rm.cells) (sl + rm.slots) sf → Q v h' → h.size ≤ h'.size → Go p e below G T' (mkF m pc' L (v.toList ++ S))) (hsz : L.size = maxL := by rfl) (hln : A.length = ps.length := by rfl) (hy : y'.cls ≠ "java/lang/invoke/MethodHandle" ∧ y'.cls ≠ "java/lang/invoke/VarHandle" := by decide) (hf : rm.frames + 1 ≤ R.frames := by decide) (hl : (S.map fun v => v.category).sum + (maxL' + 11) + rm.locals ≤ R.locals := by first | decide | exact Nat.le_of_ble_eq_true rfl) (hc : ce + rm.cells ≤ R.cells := by decide) (hs : sl + rm.slots ≤ R.slots := by decide) (hp : pc + 3 = pc' := by rfl) : Go p e below G T (mkF m pc L stk) := by
  subst hp
  have hsel := Jvm.Kit.selects_private hy wi wp w4
  obtain ⟨vm0, k0, locs, X, eT, hS, hk, hZ, hown, hF, hN, hC, hsf, hE, ⟨a1, hEL⟩, hx, hby, hml, hnm, hrt, hlk⟩ := W
  subst hby
  obtain ⟨cellB, qa, qc⟩ := E.cell
  obtain ⟨v, vm₁, ⟨T', locs', ce', sl'⟩, hW1, X', hS', hge, ⟨Lc, hQ, hFr, e1, e2, e3, hC', hE', hN'⟩, st⟩ := X.privateBackS hx (y := y') hown (mvT hZ w1) (mvT hZ w4) (mvT hZ hsel) (Cond.privateMethod_at (args := args) (mvP hZ wp)) (mvT hZ wc) hy (own_back (Wd := (S.map fun v => v.category).sum) C hZ wc wz hf hl hEL hC.1 fun x hx => hsf x (hsub x hx)) (g := mkF m pc L stk) rfl (by rw [hml]; exact hsz) (Steps.refl _) (by rw [eT]; exact qa) qc (argsL := A) (rest := S) (lenOf hpd hln) hst (by show 2 * 0 + _ ≤ _; omega) hd (fun _ _ => ⟨rfl, eT, hc, hs⟩)
  dsimp only [Pt.U, Pt.locs, Pt.cells, Pt.slots] at X' hS' hge hQ e1 e2 e3 hC' hE' hN' st
  subst e1 e2 e3 eT
  refine (K T' T'.heap v ⟨T'.vm, T'.heap.size, locs ++ Lc, X', rfl, hS.trans hS' (Nat.le_trans hk hge), Nat.le_refl _, State.Warmed39.trans (t := s.setVm vm0) hZ hS'.1, by rw [show (s.setVm T'.vm).vm = T'.vm from rfl, hS'.1.alike.findClass]; exact hown, hF.app hFr, fun q => ?_, hC.trans hC', fun x hx => ⟨Nat.lt_of_lt_of_le (hsf x hx).1 hge, hC'.safe (hsf x hx).1 (hsf x hx).2⟩, hE', ⟨a1, hEL⟩, hx, rfl, hml, hnm, hrt, hlk⟩ hQ hge).st fun u k => st.trans k
  exact State.WarmedH.trans (t := s.setVm vm0) (hN q) (State.WarmedH.trans (s := s.setVm vm0) (t := T.setVm vm₁) hW1 (hN' q))
end OwnP
theorem d1_0 : decode jdk_29_method_69_code 0 = .ok (.iload_n 0, 1) := by decide +kernel
theorem d1_1 : decode jdk_29_method_69_code 1 = .ok (.iload_n 1, 1) := by decide +kernel
theorem d1_2 : decode jdk_29_method_69_code 2 = .ok (.if_icmp .gt 7, 3) := by decide +kernel
theorem d1_5 : decode jdk_29_method_69_code 5 = .ok (.iload_n 0, 1) := by decide +kernel
theorem d1_6 : decode jdk_29_method_69_code 6 = .ok (.goto 4, 3) := by decide +kernel
theorem d1_9 : decode jdk_29_method_69_code 9 = .ok (.iload_n 1, 1) := by decide +kernel
theorem d1_10 : decode jdk_29_method_69_code 10 = .ok (.ireturn, 1) := by decide +kernel
theorem d11_0 : decode jdk_29_method_72_code 0 = .ok (.dload_n 0, 1) := by decide +kernel
theorem d11_1 : decode jdk_29_method_72_code 1 = .ok (.dload_n 0, 1) := by decide +kernel
theorem d11_2 : decode jdk_29_method_72_code 2 = .ok (.dcmp .l, 1) := by decide +kernel
theorem d11_3 : decode jdk_29_method_72_code 3 = .ok (.ifCond .eq 5, 3) := by decide +kernel
theorem d11_6 : decode jdk_29_method_72_code 6 = .ok (.dload_n 0, 1) := by decide +kernel
theorem d11_7 : decode jdk_29_method_72_code 7 = .ok (.dreturn, 1) := by decide +kernel
theorem d11_8 : decode jdk_29_method_72_code 8 = .ok (.dload_n 0, 1) := by decide +kernel
theorem d11_9 : decode jdk_29_method_72_code 9 = .ok (.dconst 0, 1) := by decide +kernel
theorem d11_10 : decode jdk_29_method_72_code 10 = .ok (.dcmp .l, 1) := by decide +kernel
theorem d11_11 : decode jdk_29_method_72_code 11 = .ok (.ifCond .ne 22, 3) := by decide +kernel
theorem d11_14 : decode jdk_29_method_72_code 14 = .ok (.dload_n 2, 1) := by decide +kernel
theorem d11_15 : decode jdk_29_method_72_code 15 = .ok (.dconst 0, 1) := by decide +kernel
theorem d11_16 : decode jdk_29_method_72_code 16 = .ok (.dcmp .l, 1) := by decide +kernel
theorem d11_17 : decode jdk_29_method_72_code 17 = .ok (.ifCond .ne 16, 3) := by decide +kernel
theorem d11_20 : decode jdk_29_method_72_code 20 = .ok (.dload_n 2, 1) := by decide +kernel
theorem d11_21 : decode jdk_29_method_72_code 21 = .ok (.invokestatic 79, 3) := by decide +kernel
theorem d11_24 : decode jdk_29_method_72_code 24 = .ok (.getstatic 174, 3) := by decide +kernel
theorem d11_27 : decode jdk_29_method_72_code 27 = .ok (.lcmp, 1) := by decide +kernel
theorem d11_28 : decode jdk_29_method_72_code 28 = .ok (.ifCond .ne 5, 3) := by decide +kernel
theorem d11_31 : decode jdk_29_method_72_code 31 = .ok (.dload_n 2, 1) := by decide +kernel
theorem d11_32 : decode jdk_29_method_72_code 32 = .ok (.dreturn, 1) := by decide +kernel
theorem d11_33 : decode jdk_29_method_72_code 33 = .ok (.dload_n 0, 1) := by decide +kernel
theorem d11_34 : decode jdk_29_method_72_code 34 = .ok (.dload_n 2, 1) := by decide +kernel
theorem d11_35 : decode jdk_29_method_72_code 35 = .ok (.dcmp .g, 1) := by decide +kernel
theorem d11_36 : decode jdk_29_method_72_code 36 = .ok (.ifCond .gt 7, 3) := by decide +kernel
theorem d11_39 : decode jdk_29_method_72_code 39 = .ok (.dload_n 0, 1) := by decide +kernel
theorem d11_40 : decode jdk_29_method_72_code 40 = .ok (.goto 4, 3) := by decide +kernel
theorem d11_43 : decode jdk_29_method_72_code 43 = .ok (.dload_n 2, 1) := by decide +kernel
theorem d11_44 : decode jdk_29_method_72_code 44 = .ok (.dreturn, 1) := by decide +kernel
theorem d9_0 : decode prog_65_method_2_code 0 = .ok (.dload_n 0, 1) := by decide +kernel
theorem d9_1 : decode prog_65_method_2_code 1 = .ok (.dconst 0, 1) := by decide +kernel
theorem d9_2 : decode prog_65_method_2_code 2 = .ok (.dcmp .l, 1) := by decide +kernel
theorem d9_3 : decode prog_65_method_2_code 3 = .ok (.ifCond .ne 9, 3) := by decide +kernel
theorem d9_6 : decode prog_65_method_2_code 6 = .ok (.dload_n 2, 1) := by decide +kernel
theorem d9_7 : decode prog_65_method_2_code 7 = .ok (.dstore 4, 2) := by decide +kernel
theorem d9_9 : decode prog_65_method_2_code 9 = .ok (.goto 23, 3) := by decide +kernel
theorem d9_12 : decode prog_65_method_2_code 12 = .ok (.dload_n 2, 1) := by decide +kernel
theorem d9_13 : decode prog_65_method_2_code 13 = .ok (.dconst 0, 1) := by decide +kernel
theorem d9_14 : decode prog_65_method_2_code 14 = .ok (.dcmp .l, 1) := by decide +kernel
theorem d9_15 : decode prog_65_method_2_code 15 = .ok (.ifCond .ne 9, 3) := by decide +kernel
theorem d9_18 : decode prog_65_method_2_code 18 = .ok (.dload_n 0, 1) := by decide +kernel
theorem d9_19 : decode prog_65_method_2_code 19 = .ok (.dstore 4, 2) := by decide +kernel
theorem d9_21 : decode prog_65_method_2_code 21 = .ok (.goto 11, 3) := by decide +kernel
theorem d9_24 : decode prog_65_method_2_code 24 = .ok (.dload_n 0, 1) := by decide +kernel
theorem d9_25 : decode prog_65_method_2_code 25 = .ok (.dload_n 2, 1) := by decide +kernel
theorem d9_26 : decode prog_65_method_2_code 26 = .ok (.dadd, 1) := by decide +kernel
theorem d9_27 : decode prog_65_method_2_code 27 = .ok (.invokestatic 7, 3) := by decide +kernel
theorem d9_30 : decode prog_65_method_2_code 30 = .ok (.dstore 4, 2) := by decide +kernel
theorem d9_32 : decode prog_65_method_2_code 32 = .ok (.dload 4, 2) := by decide +kernel
theorem d9_34 : decode prog_65_method_2_code 34 = .ok (.dreturn, 1) := by decide +kernel
theorem d10_0 : decode prog_65_method_3_code 0 = .ok (.dload_n 0, 1) := by decide +kernel
theorem d10_1 : decode prog_65_method_3_code 1 = .ok (.dconst 0, 1) := by decide +kernel
theorem d10_2 : decode prog_65_method_3_code 2 = .ok (.dcmp .l, 1) := by decide +kernel
theorem d10_3 : decode prog_65_method_3_code 3 = .ok (.ifCond .ne 9, 3) := by decide +kernel
theorem d10_6 : decode prog_65_method_3_code 6 = .ok (.dload_n 2, 1) := by decide +kernel
theorem d10_7 : decode prog_65_method_3_code 7 = .ok (.dstore 4, 2) := by decide +kernel
theorem d10_9 : decode prog_65_method_3_code 9 = .ok (.goto 23, 3) := by decide +kernel
theorem d10_12 : decode prog_65_method_3_code 12 = .ok (.dload_n 2, 1) := by decide +kernel
theorem d10_13 : decode prog_65_method_3_code 13 = .ok (.dconst 0, 1) := by decide +kernel
theorem d10_14 : decode prog_65_method_3_code 14 = .ok (.dcmp .l, 1) := by decide +kernel
theorem d10_15 : decode prog_65_method_3_code 15 = .ok (.ifCond .ne 9, 3) := by decide +kernel
theorem d10_18 : decode prog_65_method_3_code 18 = .ok (.dload_n 0, 1) := by decide +kernel
theorem d10_19 : decode prog_65_method_3_code 19 = .ok (.dstore 4, 2) := by decide +kernel
theorem d10_21 : decode prog_65_method_3_code 21 = .ok (.goto 11, 3) := by decide +kernel
theorem d10_24 : decode prog_65_method_3_code 24 = .ok (.dload_n 0, 1) := by decide +kernel
theorem d10_25 : decode prog_65_method_3_code 25 = .ok (.dload_n 2, 1) := by decide +kernel
theorem d10_26 : decode prog_65_method_3_code 26 = .ok (.dadd, 1) := by decide +kernel
theorem d10_27 : decode prog_65_method_3_code 27 = .ok (.invokestatic 13, 3) := by decide +kernel
theorem d10_30 : decode prog_65_method_3_code 30 = .ok (.dstore 4, 2) := by decide +kernel
theorem d10_32 : decode prog_65_method_3_code 32 = .ok (.dload 4, 2) := by decide +kernel
theorem d10_34 : decode prog_65_method_3_code 34 = .ok (.dreturn, 1) := by decide +kernel
theorem d4_0 : decode jdk_65_method_103_code 0 = .ok (.iconst 0, 1) := by decide +kernel
theorem d4_1 : decode jdk_65_method_103_code 1 = .ok (.istore_n 2, 1) := by decide +kernel
theorem d4_2 : decode jdk_65_method_103_code 2 = .ok (.aload_n 0, 1) := by decide +kernel
theorem d4_3 : decode jdk_65_method_103_code 3 = .ok (.arraylength, 1) := by decide +kernel
theorem d4_4 : decode jdk_65_method_103_code 4 = .ok (.istore_n 3, 1) := by decide +kernel
theorem d4_5 : decode jdk_65_method_103_code 5 = .ok (.iload_n 2, 1) := by decide +kernel
theorem d4_6 : decode jdk_65_method_103_code 6 = .ok (.iload_n 3, 1) := by decide +kernel
theorem d4_7 : decode jdk_65_method_103_code 7 = .ok (.if_icmp .ge 13, 3) := by decide +kernel
theorem d4_10 : decode jdk_65_method_103_code 10 = .ok (.aload_n 0, 1) := by decide +kernel
theorem d4_11 : decode jdk_65_method_103_code 11 = .ok (.iload_n 2, 1) := by decide +kernel
theorem d4_12 : decode jdk_65_method_103_code 12 = .ok (.iload_n 1, 1) := by decide +kernel
theorem d4_13 : decode jdk_65_method_103_code 13 = .ok (.iastore, 1) := by decide +kernel
theorem d4_14 : decode jdk_65_method_103_code 14 = .ok (.iinc 2 1, 3) := by decide +kernel
theorem d4_17 : decode jdk_65_method_103_code 17 = .ok (.goto (-12), 3) := by decide +kernel
theorem d4_20 : decode jdk_65_method_103_code 20 = .ok (.return_, 1) := by decide +kernel
theorem d13_0 : decode jdk_65_method_123_code 0 = .ok (.iload_n 1, 1) := by decide +kernel
theorem d13_1 : decode jdk_65_method_123_code 1 = .ok (.aload_n 0, 1) := by decide +kernel
theorem d13_2 : decode jdk_65_method_123_code 2 = .ok (.arraylength, 1) := by decide +kernel
theorem d13_3 : decode jdk_65_method_123_code 3 = .ok (.if_icmp .ne 11, 3) := by decide +kernel
theorem d13_6 : decode jdk_65_method_123_code 6 = .ok (.aload_n 0, 1) := by decide +kernel
theorem d13_7 : decode jdk_65_method_123_code 7 = .ok (.invokevirtual 316, 3) := by decide +kernel
theorem d13_10 : decode jdk_65_method_123_code 10 = .ok (.checkcast 317, 3) := by decide +kernel
theorem d13_13 : decode jdk_65_method_123_code 13 = .ok (.areturn, 1) := by decide +kernel
theorem d13_14 : decode jdk_65_method_123_code 14 = .ok (.iload_n 1, 1) := by decide +kernel
theorem d13_15 : decode jdk_65_method_123_code 15 = .ok (.newarray .int, 2) := by decide +kernel
theorem d13_17 : decode jdk_65_method_123_code 17 = .ok (.astore_n 2, 1) := by decide +kernel
theorem d13_18 : decode jdk_65_method_123_code 18 = .ok (.aload_n 0, 1) := by decide +kernel
theorem d13_19 : decode jdk_65_method_123_code 19 = .ok (.iconst 0, 1) := by decide +kernel
theorem d13_20 : decode jdk_65_method_123_code 20 = .ok (.aload_n 2, 1) := by decide +kernel
theorem d13_21 : decode jdk_65_method_123_code 21 = .ok (.iconst 0, 1) := by decide +kernel
theorem d13_22 : decode jdk_65_method_123_code 22 = .ok (.aload_n 0, 1) := by decide +kernel
theorem d13_23 : decode jdk_65_method_123_code 23 = .ok (.arraylength, 1) := by decide +kernel
theorem d13_24 : decode jdk_65_method_123_code 24 = .ok (.iload_n 1, 1) := by decide +kernel
theorem d13_25 : decode jdk_65_method_123_code 25 = .ok (.invokestatic 304, 3) := by decide +kernel
theorem d13_28 : decode jdk_65_method_123_code 28 = .ok (.invokestatic 150, 3) := by decide +kernel
theorem d13_31 : decode jdk_65_method_123_code 31 = .ok (.aload_n 2, 1) := by decide +kernel
theorem d13_32 : decode jdk_65_method_123_code 32 = .ok (.areturn, 1) := by decide +kernel
theorem d14_0 : decode jdk_65_method_127_code 0 = .ok (.iload_n 1, 1) := by decide +kernel
theorem d14_1 : decode jdk_65_method_127_code 1 = .ok (.aload_n 0, 1) := by decide +kernel
theorem d14_2 : decode jdk_65_method_127_code 2 = .ok (.arraylength, 1) := by decide +kernel
theorem d14_3 : decode jdk_65_method_127_code 3 = .ok (.if_icmp .ne 11, 3) := by decide +kernel
theorem d14_6 : decode jdk_65_method_127_code 6 = .ok (.aload_n 0, 1) := by decide +kernel
theorem d14_7 : decode jdk_65_method_127_code 7 = .ok (.invokevirtual 328, 3) := by decide +kernel
theorem d14_10 : decode jdk_65_method_127_code 10 = .ok (.checkcast 329, 3) := by decide +kernel
theorem d14_13 : decode jdk_65_method_127_code 13 = .ok (.areturn, 1) := by decide +kernel
theorem d14_14 : decode jdk_65_method_127_code 14 = .ok (.iload_n 1, 1) := by decide +kernel
theorem d14_15 : decode jdk_65_method_127_code 15 = .ok (.newarray .double, 2) := by decide +kernel
theorem d14_17 : decode jdk_65_method_127_code 17 = .ok (.astore_n 2, 1) := by decide +kernel
theorem d14_18 : decode jdk_65_method_127_code 18 = .ok (.aload_n 0, 1) := by decide +kernel
theorem d14_19 : decode jdk_65_method_127_code 19 = .ok (.iconst 0, 1) := by decide +kernel
theorem d14_20 : decode jdk_65_method_127_code 20 = .ok (.aload_n 2, 1) := by decide +kernel
theorem d14_21 : decode jdk_65_method_127_code 21 = .ok (.iconst 0, 1) := by decide +kernel
theorem d14_22 : decode jdk_65_method_127_code 22 = .ok (.aload_n 0, 1) := by decide +kernel
theorem d14_23 : decode jdk_65_method_127_code 23 = .ok (.arraylength, 1) := by decide +kernel
theorem d14_24 : decode jdk_65_method_127_code 24 = .ok (.iload_n 1, 1) := by decide +kernel
theorem d14_25 : decode jdk_65_method_127_code 25 = .ok (.invokestatic 304, 3) := by decide +kernel
theorem d14_28 : decode jdk_65_method_127_code 28 = .ok (.invokestatic 150, 3) := by decide +kernel
theorem d14_31 : decode jdk_65_method_127_code 31 = .ok (.aload_n 2, 1) := by decide +kernel
theorem d14_32 : decode jdk_65_method_127_code 32 = .ok (.areturn, 1) := by decide +kernel
theorem d2_0 : decode prog_32_method_1_code 0 = .ok (.aload_n 0, 1) := by decide +kernel
theorem d2_1 : decode prog_32_method_1_code 1 = .ok (.invokespecial 1, 3) := by decide +kernel
theorem d2_4 : decode prog_32_method_1_code 4 = .ok (.aload_n 0, 1) := by decide +kernel
theorem d2_5 : decode prog_32_method_1_code 5 = .ok (.dload_n 2, 1) := by decide +kernel
theorem d2_6 : decode prog_32_method_1_code 6 = .ok (.putfield 7, 3) := by decide +kernel
theorem d2_9 : decode prog_32_method_1_code 9 = .ok (.aload_n 0, 1) := by decide +kernel
theorem d2_10 : decode prog_32_method_1_code 10 = .ok (.iconst 4, 1) := by decide +kernel
theorem d2_11 : decode prog_32_method_1_code 11 = .ok (.anewarray 13, 3) := by decide +kernel
theorem d2_14 : decode prog_32_method_1_code 14 = .ok (.putfield 15, 3) := by decide +kernel
theorem d2_17 : decode prog_32_method_1_code 17 = .ok (.aload_n 0, 1) := by decide +kernel
theorem d2_18 : decode prog_32_method_1_code 18 = .ok (.iconst 4, 1) := by decide +kernel
theorem d2_19 : decode prog_32_method_1_code 19 = .ok (.anewarray 19, 3) := by decide +kernel
theorem d2_22 : decode prog_32_method_1_code 22 = .ok (.putfield 21, 3) := by decide +kernel
theorem d2_25 : decode prog_32_method_1_code 25 = .ok (.aload_n 0, 1) := by decide +kernel
theorem d2_26 : decode prog_32_method_1_code 26 = .ok (.iconst 4, 1) := by decide +kernel
theorem d2_27 : decode prog_32_method_1_code 27 = .ok (.newarray .int, 2) := by decide +kernel
theorem d2_29 : decode prog_32_method_1_code 29 = .ok (.putfield 25, 3) := by decide +kernel
theorem d2_32 : decode prog_32_method_1_code 32 = .ok (.aload_n 0, 1) := by decide +kernel
theorem d2_33 : decode prog_32_method_1_code 33 = .ok (.bipush 8, 2) := by decide +kernel
theorem d2_35 : decode prog_32_method_1_code 35 = .ok (.newarray .double, 2) := by decide +kernel
theorem d2_37 : decode prog_32_method_1_code 37 = .ok (.putfield 28, 3) := by decide +kernel
theorem d2_40 : decode prog_32_method_1_code 40 = .ok (.aload_n 0, 1) := by decide +kernel
theorem d2_41 : decode prog_32_method_1_code 41 = .ok (.bipush 8, 2) := by decide +kernel
theorem d2_43 : decode prog_32_method_1_code 43 = .ok (.newarray .double, 2) := by decide +kernel
theorem d2_45 : decode prog_32_method_1_code 45 = .ok (.putfield 31, 3) := by decide +kernel
theorem d2_48 : decode prog_32_method_1_code 48 = .ok (.aload_n 0, 1) := by decide +kernel
theorem d2_49 : decode prog_32_method_1_code 49 = .ok (.iconst 4, 1) := by decide +kernel
theorem d2_50 : decode prog_32_method_1_code 50 = .ok (.newarray .boolean, 2) := by decide +kernel
theorem d2_52 : decode prog_32_method_1_code 52 = .ok (.putfield 34, 3) := by decide +kernel
theorem d2_55 : decode prog_32_method_1_code 55 = .ok (.aload_n 0, 1) := by decide +kernel
theorem d2_56 : decode prog_32_method_1_code 56 = .ok (.iload_n 1, 1) := by decide +kernel
theorem d2_57 : decode prog_32_method_1_code 57 = .ok (.anewarray 13, 3) := by decide +kernel
theorem d2_60 : decode prog_32_method_1_code 60 = .ok (.putfield 38, 3) := by decide +kernel
theorem d2_63 : decode prog_32_method_1_code 63 = .ok (.aload_n 0, 1) := by decide +kernel
theorem d2_64 : decode prog_32_method_1_code 64 = .ok (.iload_n 1, 1) := by decide +kernel
theorem d2_65 : decode prog_32_method_1_code 65 = .ok (.newarray .int, 2) := by decide +kernel
theorem d2_67 : decode prog_32_method_1_code 67 = .ok (.putfield 41, 3) := by decide +kernel
theorem d2_70 : decode prog_32_method_1_code 70 = .ok (.aload_n 0, 1) := by decide +kernel
theorem d2_71 : decode prog_32_method_1_code 71 = .ok (.iload_n 1, 1) := by decide +kernel
theorem d2_72 : decode prog_32_method_1_code 72 = .ok (.newarray .int, 2) := by decide +kernel
theorem d2_74 : decode prog_32_method_1_code 74 = .ok (.putfield 44, 3) := by decide +kernel
theorem d2_77 : decode prog_32_method_1_code 77 = .ok (.aload_n 0, 1) := by decide +kernel
theorem d2_78 : decode prog_32_method_1_code 78 = .ok (.iload_n 1, 1) := by decide +kernel
theorem d2_79 : decode prog_32_method_1_code 79 = .ok (.newarray .int, 2) := by decide +kernel
theorem d2_81 : decode prog_32_method_1_code 81 = .ok (.putfield 47, 3) := by decide +kernel
theorem d2_84 : decode prog_32_method_1_code 84 = .ok (.aload_n 0, 1) := by decide +kernel
theorem d2_85 : decode prog_32_method_1_code 85 = .ok (.iload_n 1, 1) := by decide +kernel
theorem d2_86 : decode prog_32_method_1_code 86 = .ok (.newarray .int, 2) := by decide +kernel
theorem d2_88 : decode prog_32_method_1_code 88 = .ok (.putfield 50, 3) := by decide +kernel
theorem d2_91 : decode prog_32_method_1_code 91 = .ok (.aload_n 0, 1) := by decide +kernel
theorem d2_92 : decode prog_32_method_1_code 92 = .ok (.iload_n 1, 1) := by decide +kernel
theorem d2_93 : decode prog_32_method_1_code 93 = .ok (.newarray .int, 2) := by decide +kernel
theorem d2_95 : decode prog_32_method_1_code 95 = .ok (.putfield 53, 3) := by decide +kernel
theorem d2_98 : decode prog_32_method_1_code 98 = .ok (.aload_n 0, 1) := by decide +kernel
theorem d2_99 : decode prog_32_method_1_code 99 = .ok (.getfield 53, 3) := by decide +kernel
theorem d2_102 : decode prog_32_method_1_code 102 = .ok (.iconst (-1), 1) := by decide +kernel
theorem d2_103 : decode prog_32_method_1_code 103 = .ok (.invokestatic 56, 3) := by decide +kernel
theorem d2_106 : decode prog_32_method_1_code 106 = .ok (.return_, 1) := by decide +kernel
theorem d5_0 : decode prog_32_method_2_code 0 = .ok (.aload_n 0, 1) := by decide +kernel
theorem d5_1 : decode prog_32_method_2_code 1 = .ok (.getfield 62, 3) := by decide +kernel
theorem d5_4 : decode prog_32_method_2_code 4 = .ok (.aload_n 0, 1) := by decide +kernel
theorem d5_5 : decode prog_32_method_2_code 5 = .ok (.getfield 25, 3) := by decide +kernel
theorem d5_8 : decode prog_32_method_2_code 8 = .ok (.arraylength, 1) := by decide +kernel
theorem d5_9 : decode prog_32_method_2_code 9 = .ok (.if_icmp .ne 92, 3) := by decide +kernel
theorem d5_12 : decode prog_32_method_2_code 12 = .ok (.iconst 2, 1) := by decide +kernel
theorem d5_13 : decode prog_32_method_2_code 13 = .ok (.aload_n 0, 1) := by decide +kernel
theorem d5_14 : decode prog_32_method_2_code 14 = .ok (.getfield 62, 3) := by decide +kernel
theorem d5_17 : decode prog_32_method_2_code 17 = .ok (.imul, 1) := by decide +kernel
theorem d5_18 : decode prog_32_method_2_code 18 = .ok (.istore_n 1, 1) := by decide +kernel
theorem d5_19 : decode prog_32_method_2_code 19 = .ok (.aload_n 0, 1) := by decide +kernel
theorem d5_20 : decode prog_32_method_2_code 20 = .ok (.aload_n 0, 1) := by decide +kernel
theorem d5_21 : decode prog_32_method_2_code 21 = .ok (.getfield 15, 3) := by decide +kernel
theorem d5_24 : decode prog_32_method_2_code 24 = .ok (.iload_n 1, 1) := by decide +kernel
theorem d5_25 : decode prog_32_method_2_code 25 = .ok (.invokestatic 66, 3) := by decide +kernel
theorem d5_28 : decode prog_32_method_2_code 28 = .ok (.checkcast 70, 3) := by decide +kernel
theorem d5_31 : decode prog_32_method_2_code 31 = .ok (.putfield 15, 3) := by decide +kernel
theorem d5_34 : decode prog_32_method_2_code 34 = .ok (.aload_n 0, 1) := by decide +kernel
theorem d5_35 : decode prog_32_method_2_code 35 = .ok (.aload_n 0, 1) := by decide +kernel
theorem d5_36 : decode prog_32_method_2_code 36 = .ok (.getfield 21, 3) := by decide +kernel
theorem d5_39 : decode prog_32_method_2_code 39 = .ok (.iload_n 1, 1) := by decide +kernel
theorem d5_40 : decode prog_32_method_2_code 40 = .ok (.invokestatic 66, 3) := by decide +kernel
theorem d5_43 : decode prog_32_method_2_code 43 = .ok (.checkcast 71, 3) := by decide +kernel
theorem d5_46 : decode prog_32_method_2_code 46 = .ok (.putfield 21, 3) := by decide +kernel
theorem d5_49 : decode prog_32_method_2_code 49 = .ok (.aload_n 0, 1) := by decide +kernel
theorem d5_50 : decode prog_32_method_2_code 50 = .ok (.aload_n 0, 1) := by decide +kernel
theorem d5_51 : decode prog_32_method_2_code 51 = .ok (.getfield 25, 3) := by decide +kernel
theorem d5_54 : decode prog_32_method_2_code 54 = .ok (.iload_n 1, 1) := by decide +kernel
theorem d5_55 : decode prog_32_method_2_code 55 = .ok (.invokestatic 72, 3) := by decide +kernel
theorem d5_58 : decode prog_32_method_2_code 58 = .ok (.putfield 25, 3) := by decide +kernel
theorem d5_61 : decode prog_32_method_2_code 61 = .ok (.aload_n 0, 1) := by decide +kernel
theorem d5_62 : decode prog_32_method_2_code 62 = .ok (.aload_n 0, 1) := by decide +kernel
theorem d5_63 : decode prog_32_method_2_code 63 = .ok (.getfield 28, 3) := by decide +kernel
theorem d5_66 : decode prog_32_method_2_code 66 = .ok (.iconst 2, 1) := by decide +kernel
theorem d5_67 : decode prog_32_method_2_code 67 = .ok (.iload_n 1, 1) := by decide +kernel
theorem d5_68 : decode prog_32_method_2_code 68 = .ok (.imul, 1) := by decide +kernel
theorem d5_69 : decode prog_32_method_2_code 69 = .ok (.invokestatic 75, 3) := by decide +kernel
theorem d5_72 : decode prog_32_method_2_code 72 = .ok (.putfield 28, 3) := by decide +kernel
theorem d5_75 : decode prog_32_method_2_code 75 = .ok (.aload_n 0, 1) := by decide +kernel
theorem d5_76 : decode prog_32_method_2_code 76 = .ok (.aload_n 0, 1) := by decide +kernel
theorem d5_77 : decode prog_32_method_2_code 77 = .ok (.getfield 31, 3) := by decide +kernel
theorem d5_80 : decode prog_32_method_2_code 80 = .ok (.iconst 2, 1) := by decide +kernel
theorem d5_81 : decode prog_32_method_2_code 81 = .ok (.iload_n 1, 1) := by decide +kernel
theorem d5_82 : decode prog_32_method_2_code 82 = .ok (.imul, 1) := by decide +kernel
theorem d5_83 : decode prog_32_method_2_code 83 = .ok (.invokestatic 75, 3) := by decide +kernel
theorem d5_86 : decode prog_32_method_2_code 86 = .ok (.putfield 31, 3) := by decide +kernel
theorem d5_89 : decode prog_32_method_2_code 89 = .ok (.aload_n 0, 1) := by decide +kernel
theorem d5_90 : decode prog_32_method_2_code 90 = .ok (.aload_n 0, 1) := by decide +kernel
theorem d5_91 : decode prog_32_method_2_code 91 = .ok (.getfield 34, 3) := by decide +kernel
theorem d5_94 : decode prog_32_method_2_code 94 = .ok (.iload_n 1, 1) := by decide +kernel
theorem d5_95 : decode prog_32_method_2_code 95 = .ok (.invokestatic 78, 3) := by decide +kernel
theorem d5_98 : decode prog_32_method_2_code 98 = .ok (.putfield 34, 3) := by decide +kernel
theorem d5_101 : decode prog_32_method_2_code 101 = .ok (.aload_n 0, 1) := by decide +kernel
theorem d5_102 : decode prog_32_method_2_code 102 = .ok (.getfield 15, 3) := by decide +kernel
theorem d5_105 : decode prog_32_method_2_code 105 = .ok (.aload_n 0, 1) := by decide +kernel
theorem d5_106 : decode prog_32_method_2_code 106 = .ok (.getfield 62, 3) := by decide +kernel
theorem d5_109 : decode prog_32_method_2_code 109 = .ok (.iconst 2, 1) := by decide +kernel
theorem d5_110 : decode prog_32_method_2_code 110 = .ok (.newarray .int, 2) := by decide +kernel
theorem d5_112 : decode prog_32_method_2_code 112 = .ok (.aastore, 1) := by decide +kernel
theorem d5_113 : decode prog_32_method_2_code 113 = .ok (.aload_n 0, 1) := by decide +kernel
theorem d5_114 : decode prog_32_method_2_code 114 = .ok (.getfield 21, 3) := by decide +kernel
theorem d5_117 : decode prog_32_method_2_code 117 = .ok (.aload_n 0, 1) := by decide +kernel
theorem d5_118 : decode prog_32_method_2_code 118 = .ok (.getfield 62, 3) := by decide +kernel
theorem d5_121 : decode prog_32_method_2_code 121 = .ok (.iconst 4, 1) := by decide +kernel
theorem d5_122 : decode prog_32_method_2_code 122 = .ok (.newarray .double, 2) := by decide +kernel
theorem d5_124 : decode prog_32_method_2_code 124 = .ok (.aastore, 1) := by decide +kernel
theorem d5_125 : decode prog_32_method_2_code 125 = .ok (.aload_n 0, 1) := by decide +kernel
theorem d5_126 : decode prog_32_method_2_code 126 = .ok (.dup, 1) := by decide +kernel
theorem d5_127 : decode prog_32_method_2_code 127 = .ok (.getfield 62, 3) := by decide +kernel
theorem d5_130 : decode prog_32_method_2_code 130 = .ok (.dup_x1, 1) := by decide +kernel
theorem d5_131 : decode prog_32_method_2_code 131 = .ok (.iconst 1, 1) := by decide +kernel
theorem d5_132 : decode prog_32_method_2_code 132 = .ok (.iadd, 1) := by decide +kernel
theorem d5_133 : decode prog_32_method_2_code 133 = .ok (.putfield 62, 3) := by decide +kernel
theorem d5_136 : decode prog_32_method_2_code 136 = .ok (.ireturn, 1) := by decide +kernel
theorem d6_0 : decode prog_32_method_3_code 0 = .ok (.iconst (-1), 1) := by decide +kernel
theorem d6_1 : decode prog_32_method_3_code 1 = .ok (.istore 7, 2) := by decide +kernel
theorem d6_3 : decode prog_32_method_3_code 3 = .ok (.iconst 0, 1) := by decide +kernel
theorem d6_4 : decode prog_32_method_3_code 4 = .ok (.istore 8, 2) := by decide +kernel
theorem d6_6 : decode prog_32_method_3_code 6 = .ok (.iload 8, 2) := by decide +kernel
theorem d6_8 : decode prog_32_method_3_code 8 = .ok (.aload_n 0, 1) := by decide +kernel
theorem d6_9 : decode prog_32_method_3_code 9 = .ok (.getfield 25, 3) := by decide +kernel
theorem d6_12 : decode prog_32_method_3_code 12 = .ok (.iload_n 1, 1) := by decide +kernel
theorem d6_13 : decode prog_32_method_3_code 13 = .ok (.iaload, 1) := by decide +kernel
theorem d6_14 : decode prog_32_method_3_code 14 = .ok (.if_icmp .ge 31, 3) := by decide +kernel
theorem d6_17 : decode prog_32_method_3_code 17 = .ok (.iload 7, 2) := by decide +kernel
theorem d6_19 : decode prog_32_method_3_code 19 = .ok (.ifCond .ge 26, 3) := by decide +kernel
theorem d6_22 : decode prog_32_method_3_code 22 = .ok (.aload_n 0, 1) := by decide +kernel
theorem d6_23 : decode prog_32_method_3_code 23 = .ok (.getfield 15, 3) := by decide +kernel
theorem d6_26 : decode prog_32_method_3_code 26 = .ok (.iload_n 1, 1) := by decide +kernel
theorem d6_27 : decode prog_32_method_3_code 27 = .ok (.aaload, 1) := by decide +kernel
theorem d6_28 : decode prog_32_method_3_code 28 = .ok (.iload 8, 2) := by decide +kernel
theorem d6_30 : decode prog_32_method_3_code 30 = .ok (.iaload, 1) := by decide +kernel
theorem d6_31 : decode prog_32_method_3_code 31 = .ok (.iload_n 2, 1) := by decide +kernel
theorem d6_32 : decode prog_32_method_3_code 32 = .ok (.if_icmp .ne 7, 3) := by decide +kernel
theorem d6_35 : decode prog_32_method_3_code 35 = .ok (.iload 8, 2) := by decide +kernel
theorem d6_37 : decode prog_32_method_3_code 37 = .ok (.istore 7, 2) := by decide +kernel
theorem d6_39 : decode prog_32_method_3_code 39 = .ok (.iinc 8 1, 3) := by decide +kernel
theorem d6_42 : decode prog_32_method_3_code 42 = .ok (.goto (-36), 3) := by decide +kernel
theorem d6_45 : decode prog_32_method_3_code 45 = .ok (.iload 7, 2) := by decide +kernel
theorem d6_47 : decode prog_32_method_3_code 47 = .ok (.ifCond .lt 59, 3) := by decide +kernel
theorem d6_50 : decode prog_32_method_3_code 50 = .ok (.aload_n 0, 1) := by decide +kernel
theorem d6_51 : decode prog_32_method_3_code 51 = .ok (.getfield 21, 3) := by decide +kernel
theorem d6_54 : decode prog_32_method_3_code 54 = .ok (.iload_n 1, 1) := by decide +kernel
theorem d6_55 : decode prog_32_method_3_code 55 = .ok (.aaload, 1) := by decide +kernel
theorem d6_56 : decode prog_32_method_3_code 56 = .ok (.astore 8, 2) := by decide +kernel
theorem d6_58 : decode prog_32_method_3_code 58 = .ok (.aload 8, 2) := by decide +kernel
theorem d6_60 : decode prog_32_method_3_code 60 = .ok (.iconst 2, 1) := by decide +kernel
theorem d6_61 : decode prog_32_method_3_code 61 = .ok (.iload 7, 2) := by decide +kernel
theorem d6_63 : decode prog_32_method_3_code 63 = .ok (.imul, 1) := by decide +kernel
theorem d6_64 : decode prog_32_method_3_code 64 = .ok (.aload 8, 2) := by decide +kernel
theorem d6_66 : decode prog_32_method_3_code 66 = .ok (.iconst 2, 1) := by decide +kernel
theorem d6_67 : decode prog_32_method_3_code 67 = .ok (.iload 7, 2) := by decide +kernel
theorem d6_69 : decode prog_32_method_3_code 69 = .ok (.imul, 1) := by decide +kernel
theorem d6_70 : decode prog_32_method_3_code 70 = .ok (.daload, 1) := by decide +kernel
theorem d6_71 : decode prog_32_method_3_code 71 = .ok (.dload_n 3, 1) := by decide +kernel
theorem d6_72 : decode prog_32_method_3_code 72 = .ok (.invokestatic 81, 3) := by decide +kernel
theorem d6_75 : decode prog_32_method_3_code 75 = .ok (.dastore, 1) := by decide +kernel
theorem d6_76 : decode prog_32_method_3_code 76 = .ok (.aload 8, 2) := by decide +kernel
theorem d6_78 : decode prog_32_method_3_code 78 = .ok (.iconst 2, 1) := by decide +kernel
theorem d6_79 : decode prog_32_method_3_code 79 = .ok (.iload 7, 2) := by decide +kernel
theorem d6_81 : decode prog_32_method_3_code 81 = .ok (.imul, 1) := by decide +kernel
theorem d6_82 : decode prog_32_method_3_code 82 = .ok (.iconst 1, 1) := by decide +kernel
theorem d6_83 : decode prog_32_method_3_code 83 = .ok (.iadd, 1) := by decide +kernel
theorem d6_84 : decode prog_32_method_3_code 84 = .ok (.dconst 1, 1) := by decide +kernel
theorem d6_85 : decode prog_32_method_3_code 85 = .ok (.aload 8, 2) := by decide +kernel
theorem d6_87 : decode prog_32_method_3_code 87 = .ok (.iconst 2, 1) := by decide +kernel
theorem d6_88 : decode prog_32_method_3_code 88 = .ok (.iload 7, 2) := by decide +kernel
theorem d6_90 : decode prog_32_method_3_code 90 = .ok (.imul, 1) := by decide +kernel
theorem d6_91 : decode prog_32_method_3_code 91 = .ok (.iconst 1, 1) := by decide +kernel
theorem d6_92 : decode prog_32_method_3_code 92 = .ok (.iadd, 1) := by decide +kernel
theorem d6_93 : decode prog_32_method_3_code 93 = .ok (.daload, 1) := by decide +kernel
theorem d6_94 : decode prog_32_method_3_code 94 = .ok (.dload 5, 2) := by decide +kernel
theorem d6_96 : decode prog_32_method_3_code 96 = .ok (.invokestatic 87, 3) := by decide +kernel
theorem d6_99 : decode prog_32_method_3_code 99 = .ok (.invokestatic 90, 3) := by decide +kernel
theorem d6_102 : decode prog_32_method_3_code 102 = .ok (.dastore, 1) := by decide +kernel
theorem d6_103 : decode prog_32_method_3_code 103 = .ok (.goto 12, 3) := by decide +kernel
theorem d6_106 : decode prog_32_method_3_code 106 = .ok (.aload_n 0, 1) := by decide +kernel
theorem d6_107 : decode prog_32_method_3_code 107 = .ok (.iload_n 1, 1) := by decide +kernel
theorem d6_108 : decode prog_32_method_3_code 108 = .ok (.iload_n 2, 1) := by decide +kernel
theorem d6_109 : decode prog_32_method_3_code 109 = .ok (.dload_n 3, 1) := by decide +kernel
theorem d6_110 : decode prog_32_method_3_code 110 = .ok (.dload 5, 2) := by decide +kernel
theorem d6_112 : decode prog_32_method_3_code 112 = .ok (.invokevirtual 95, 3) := by decide +kernel
theorem d6_115 : decode prog_32_method_3_code 115 = .ok (.return_, 1) := by decide +kernel
theorem d7_0 : decode prog_32_method_15_code 0 = .ok (.aload_n 0, 1) := by decide +kernel
theorem d7_1 : decode prog_32_method_15_code 1 = .ok (.getfield 25, 3) := by decide +kernel
theorem d7_4 : decode prog_32_method_15_code 4 = .ok (.iload_n 1, 1) := by decide +kernel
theorem d7_5 : decode prog_32_method_15_code 5 = .ok (.iaload, 1) := by decide +kernel
theorem d7_6 : decode prog_32_method_15_code 6 = .ok (.istore 7, 2) := by decide +kernel
theorem d7_8 : decode prog_32_method_15_code 8 = .ok (.iload 7, 2) := by decide +kernel
theorem d7_10 : decode prog_32_method_15_code 10 = .ok (.aload_n 0, 1) := by decide +kernel
theorem d7_11 : decode prog_32_method_15_code 11 = .ok (.getfield 15, 3) := by decide +kernel
theorem d7_14 : decode prog_32_method_15_code 14 = .ok (.iload_n 1, 1) := by decide +kernel
theorem d7_15 : decode prog_32_method_15_code 15 = .ok (.aaload, 1) := by decide +kernel
theorem d7_16 : decode prog_32_method_15_code 16 = .ok (.arraylength, 1) := by decide +kernel
theorem d7_17 : decode prog_32_method_15_code 17 = .ok (.if_icmp .ne 41, 3) := by decide +kernel
theorem d7_20 : decode prog_32_method_15_code 20 = .ok (.aload_n 0, 1) := by decide +kernel
theorem d7_21 : decode prog_32_method_15_code 21 = .ok (.getfield 15, 3) := by decide +kernel
theorem d7_24 : decode prog_32_method_15_code 24 = .ok (.iload_n 1, 1) := by decide +kernel
theorem d7_25 : decode prog_32_method_15_code 25 = .ok (.aload_n 0, 1) := by decide +kernel
theorem d7_26 : decode prog_32_method_15_code 26 = .ok (.getfield 15, 3) := by decide +kernel
theorem d7_29 : decode prog_32_method_15_code 29 = .ok (.iload_n 1, 1) := by decide +kernel
theorem d7_30 : decode prog_32_method_15_code 30 = .ok (.aaload, 1) := by decide +kernel
theorem d7_31 : decode prog_32_method_15_code 31 = .ok (.iconst 2, 1) := by decide +kernel
theorem d7_32 : decode prog_32_method_15_code 32 = .ok (.iload 7, 2) := by decide +kernel
theorem d7_34 : decode prog_32_method_15_code 34 = .ok (.imul, 1) := by decide +kernel
theorem d7_35 : decode prog_32_method_15_code 35 = .ok (.invokestatic 72, 3) := by decide +kernel
theorem d7_38 : decode prog_32_method_15_code 38 = .ok (.aastore, 1) := by decide +kernel
theorem d7_39 : decode prog_32_method_15_code 39 = .ok (.aload_n 0, 1) := by decide +kernel
theorem d7_40 : decode prog_32_method_15_code 40 = .ok (.getfield 21, 3) := by decide +kernel
theorem d7_43 : decode prog_32_method_15_code 43 = .ok (.iload_n 1, 1) := by decide +kernel
theorem d7_44 : decode prog_32_method_15_code 44 = .ok (.aload_n 0, 1) := by decide +kernel
theorem d7_45 : decode prog_32_method_15_code 45 = .ok (.getfield 21, 3) := by decide +kernel
theorem d7_48 : decode prog_32_method_15_code 48 = .ok (.iload_n 1, 1) := by decide +kernel
theorem d7_49 : decode prog_32_method_15_code 49 = .ok (.aaload, 1) := by decide +kernel
theorem d7_50 : decode prog_32_method_15_code 50 = .ok (.iconst 4, 1) := by decide +kernel
theorem d7_51 : decode prog_32_method_15_code 51 = .ok (.iload 7, 2) := by decide +kernel
theorem d7_53 : decode prog_32_method_15_code 53 = .ok (.imul, 1) := by decide +kernel
theorem d7_54 : decode prog_32_method_15_code 54 = .ok (.invokestatic 75, 3) := by decide +kernel
theorem d7_57 : decode prog_32_method_15_code 57 = .ok (.aastore, 1) := by decide +kernel
theorem d7_58 : decode prog_32_method_15_code 58 = .ok (.aload_n 0, 1) := by decide +kernel
theorem d7_59 : decode prog_32_method_15_code 59 = .ok (.getfield 15, 3) := by decide +kernel
theorem d7_62 : decode prog_32_method_15_code 62 = .ok (.iload_n 1, 1) := by decide +kernel
theorem d7_63 : decode prog_32_method_15_code 63 = .ok (.aaload, 1) := by decide +kernel
theorem d7_64 : decode prog_32_method_15_code 64 = .ok (.iload 7, 2) := by decide +kernel
theorem d7_66 : decode prog_32_method_15_code 66 = .ok (.iload_n 2, 1) := by decide +kernel
theorem d7_67 : decode prog_32_method_15_code 67 = .ok (.iastore, 1) := by decide +kernel
theorem d7_68 : decode prog_32_method_15_code 68 = .ok (.aload_n 0, 1) := by decide +kernel
theorem d7_69 : decode prog_32_method_15_code 69 = .ok (.getfield 21, 3) := by decide +kernel
theorem d7_72 : decode prog_32_method_15_code 72 = .ok (.iload_n 1, 1) := by decide +kernel
theorem d7_73 : decode prog_32_method_15_code 73 = .ok (.aaload, 1) := by decide +kernel
theorem d7_74 : decode prog_32_method_15_code 74 = .ok (.iconst 2, 1) := by decide +kernel
theorem d7_75 : decode prog_32_method_15_code 75 = .ok (.iload 7, 2) := by decide +kernel
theorem d7_77 : decode prog_32_method_15_code 77 = .ok (.imul, 1) := by decide +kernel
theorem d7_78 : decode prog_32_method_15_code 78 = .ok (.dload_n 3, 1) := by decide +kernel
theorem d7_79 : decode prog_32_method_15_code 79 = .ok (.dastore, 1) := by decide +kernel
theorem d7_80 : decode prog_32_method_15_code 80 = .ok (.aload_n 0, 1) := by decide +kernel
theorem d7_81 : decode prog_32_method_15_code 81 = .ok (.getfield 21, 3) := by decide +kernel
theorem d7_84 : decode prog_32_method_15_code 84 = .ok (.iload_n 1, 1) := by decide +kernel
theorem d7_85 : decode prog_32_method_15_code 85 = .ok (.aaload, 1) := by decide +kernel
theorem d7_86 : decode prog_32_method_15_code 86 = .ok (.iconst 2, 1) := by decide +kernel
theorem d7_87 : decode prog_32_method_15_code 87 = .ok (.iload 7, 2) := by decide +kernel
theorem d7_89 : decode prog_32_method_15_code 89 = .ok (.imul, 1) := by decide +kernel
theorem d7_90 : decode prog_32_method_15_code 90 = .ok (.iconst 1, 1) := by decide +kernel
theorem d7_91 : decode prog_32_method_15_code 91 = .ok (.iadd, 1) := by decide +kernel
theorem d7_92 : decode prog_32_method_15_code 92 = .ok (.dload 5, 2) := by decide +kernel
theorem d7_94 : decode prog_32_method_15_code 94 = .ok (.dastore, 1) := by decide +kernel
theorem d7_95 : decode prog_32_method_15_code 95 = .ok (.aload_n 0, 1) := by decide +kernel
theorem d7_96 : decode prog_32_method_15_code 96 = .ok (.getfield 25, 3) := by decide +kernel
theorem d7_99 : decode prog_32_method_15_code 99 = .ok (.iload_n 1, 1) := by decide +kernel
theorem d7_100 : decode prog_32_method_15_code 100 = .ok (.iload 7, 2) := by decide +kernel
theorem d7_102 : decode prog_32_method_15_code 102 = .ok (.iconst 1, 1) := by decide +kernel
theorem d7_103 : decode prog_32_method_15_code 103 = .ok (.iadd, 1) := by decide +kernel
theorem d7_104 : decode prog_32_method_15_code 104 = .ok (.iastore, 1) := by decide +kernel
theorem d7_105 : decode prog_32_method_15_code 105 = .ok (.aload_n 0, 1) := by decide +kernel
theorem d7_106 : decode prog_32_method_15_code 106 = .ok (.getfield 41, 3) := by decide +kernel
theorem d7_109 : decode prog_32_method_15_code 109 = .ok (.iload_n 2, 1) := by decide +kernel
theorem d7_110 : decode prog_32_method_15_code 110 = .ok (.iaload, 1) := by decide +kernel
theorem d7_111 : decode prog_32_method_15_code 111 = .ok (.istore 8, 2) := by decide +kernel
theorem d7_113 : decode prog_32_method_15_code 113 = .ok (.aload_n 0, 1) := by decide +kernel
theorem d7_114 : decode prog_32_method_15_code 114 = .ok (.getfield 38, 3) := by decide +kernel
theorem d7_117 : decode prog_32_method_15_code 117 = .ok (.iload_n 2, 1) := by decide +kernel
theorem d7_118 : decode prog_32_method_15_code 118 = .ok (.aaload, 1) := by decide +kernel
theorem d7_119 : decode prog_32_method_15_code 119 = .ok (.ifnonnull 15, 3) := by decide +kernel
theorem d7_122 : decode prog_32_method_15_code 122 = .ok (.aload_n 0, 1) := by decide +kernel
theorem d7_123 : decode prog_32_method_15_code 123 = .ok (.getfield 38, 3) := by decide +kernel
theorem d7_126 : decode prog_32_method_15_code 126 = .ok (.iload_n 2, 1) := by decide +kernel
theorem d7_127 : decode prog_32_method_15_code 127 = .ok (.iconst 4, 1) := by decide +kernel
theorem d7_128 : decode prog_32_method_15_code 128 = .ok (.newarray .int, 2) := by decide +kernel
theorem d7_130 : decode prog_32_method_15_code 130 = .ok (.aastore, 1) := by decide +kernel
theorem d7_131 : decode prog_32_method_15_code 131 = .ok (.goto 34, 3) := by decide +kernel
theorem d7_134 : decode prog_32_method_15_code 134 = .ok (.iload 8, 2) := by decide +kernel
theorem d7_136 : decode prog_32_method_15_code 136 = .ok (.aload_n 0, 1) := by decide +kernel
theorem d7_137 : decode prog_32_method_15_code 137 = .ok (.getfield 38, 3) := by decide +kernel
theorem d7_140 : decode prog_32_method_15_code 140 = .ok (.iload_n 2, 1) := by decide +kernel
theorem d7_141 : decode prog_32_method_15_code 141 = .ok (.aaload, 1) := by decide +kernel
theorem d7_142 : decode prog_32_method_15_code 142 = .ok (.arraylength, 1) := by decide +kernel
theorem d7_143 : decode prog_32_method_15_code 143 = .ok (.if_icmp .ne 22, 3) := by decide +kernel
theorem d7_146 : decode prog_32_method_15_code 146 = .ok (.aload_n 0, 1) := by decide +kernel
theorem d7_147 : decode prog_32_method_15_code 147 = .ok (.getfield 38, 3) := by decide +kernel
theorem d7_150 : decode prog_32_method_15_code 150 = .ok (.iload_n 2, 1) := by decide +kernel
theorem d7_151 : decode prog_32_method_15_code 151 = .ok (.aload_n 0, 1) := by decide +kernel
theorem d7_152 : decode prog_32_method_15_code 152 = .ok (.getfield 38, 3) := by decide +kernel
theorem d7_155 : decode prog_32_method_15_code 155 = .ok (.iload_n 2, 1) := by decide +kernel
theorem d7_156 : decode prog_32_method_15_code 156 = .ok (.aaload, 1) := by decide +kernel
theorem d7_157 : decode prog_32_method_15_code 157 = .ok (.iconst 2, 1) := by decide +kernel
theorem d7_158 : decode prog_32_method_15_code 158 = .ok (.iload 8, 2) := by decide +kernel
theorem d7_160 : decode prog_32_method_15_code 160 = .ok (.imul, 1) := by decide +kernel
theorem d7_161 : decode prog_32_method_15_code 161 = .ok (.invokestatic 72, 3) := by decide +kernel
theorem d7_164 : decode prog_32_method_15_code 164 = .ok (.aastore, 1) := by decide +kernel
theorem d7_165 : decode prog_32_method_15_code 165 = .ok (.aload_n 0, 1) := by decide +kernel
theorem d7_166 : decode prog_32_method_15_code 166 = .ok (.getfield 38, 3) := by decide +kernel
theorem d7_169 : decode prog_32_method_15_code 169 = .ok (.iload_n 2, 1) := by decide +kernel
theorem d7_170 : decode prog_32_method_15_code 170 = .ok (.aaload, 1) := by decide +kernel
theorem d7_171 : decode prog_32_method_15_code 171 = .ok (.iload 8, 2) := by decide +kernel
theorem d7_173 : decode prog_32_method_15_code 173 = .ok (.iload_n 1, 1) := by decide +kernel
theorem d7_174 : decode prog_32_method_15_code 174 = .ok (.iastore, 1) := by decide +kernel
theorem d7_175 : decode prog_32_method_15_code 175 = .ok (.aload_n 0, 1) := by decide +kernel
theorem d7_176 : decode prog_32_method_15_code 176 = .ok (.getfield 41, 3) := by decide +kernel
theorem d7_179 : decode prog_32_method_15_code 179 = .ok (.iload_n 2, 1) := by decide +kernel
theorem d7_180 : decode prog_32_method_15_code 180 = .ok (.iload 8, 2) := by decide +kernel
theorem d7_182 : decode prog_32_method_15_code 182 = .ok (.iconst 1, 1) := by decide +kernel
theorem d7_183 : decode prog_32_method_15_code 183 = .ok (.iadd, 1) := by decide +kernel
theorem d7_184 : decode prog_32_method_15_code 184 = .ok (.iastore, 1) := by decide +kernel
theorem d7_185 : decode prog_32_method_15_code 185 = .ok (.aload_n 0, 1) := by decide +kernel
theorem d7_186 : decode prog_32_method_15_code 186 = .ok (.getfield 44, 3) := by decide +kernel
theorem d7_189 : decode prog_32_method_15_code 189 = .ok (.iload_n 2, 1) := by decide +kernel
theorem d7_190 : decode prog_32_method_15_code 190 = .ok (.dup2, 1) := by decide +kernel
theorem d7_191 : decode prog_32_method_15_code 191 = .ok (.iaload, 1) := by decide +kernel
theorem d7_192 : decode prog_32_method_15_code 192 = .ok (.iconst 1, 1) := by decide +kernel
theorem d7_193 : decode prog_32_method_15_code 193 = .ok (.iadd, 1) := by decide +kernel
theorem d7_194 : decode prog_32_method_15_code 194 = .ok (.iastore, 1) := by decide +kernel
theorem d7_195 : decode prog_32_method_15_code 195 = .ok (.return_, 1) := by decide +kernel
theorem d8_0 : decode prog_32_method_5_code 0 = .ok (.aload_n 0, 1) := by decide +kernel
theorem d8_1 : decode prog_32_method_5_code 1 = .ok (.getfield 31, 3) := by decide +kernel
theorem d8_4 : decode prog_32_method_5_code 4 = .ok (.iconst 2, 1) := by decide +kernel
theorem d8_5 : decode prog_32_method_5_code 5 = .ok (.iload_n 1, 1) := by decide +kernel
theorem d8_6 : decode prog_32_method_5_code 6 = .ok (.imul, 1) := by decide +kernel
theorem d8_7 : decode prog_32_method_5_code 7 = .ok (.aload_n 0, 1) := by decide +kernel
theorem d8_8 : decode prog_32_method_5_code 8 = .ok (.getfield 31, 3) := by decide +kernel
theorem d8_11 : decode prog_32_method_5_code 11 = .ok (.iconst 2, 1) := by decide +kernel
theorem d8_12 : decode prog_32_method_5_code 12 = .ok (.iload_n 1, 1) := by decide +kernel
theorem d8_13 : decode prog_32_method_5_code 13 = .ok (.imul, 1) := by decide +kernel
theorem d8_14 : decode prog_32_method_5_code 14 = .ok (.daload, 1) := by decide +kernel
theorem d8_15 : decode prog_32_method_5_code 15 = .ok (.dload_n 2, 1) := by decide +kernel
theorem d8_16 : decode prog_32_method_5_code 16 = .ok (.invokestatic 81, 3) := by decide +kernel
theorem d8_19 : decode prog_32_method_5_code 19 = .ok (.dastore, 1) := by decide +kernel
theorem d8_20 : decode prog_32_method_5_code 20 = .ok (.aload_n 0, 1) := by decide +kernel
theorem d8_21 : decode prog_32_method_5_code 21 = .ok (.getfield 31, 3) := by decide +kernel
theorem d8_24 : decode prog_32_method_5_code 24 = .ok (.iconst 2, 1) := by decide +kernel
theorem d8_25 : decode prog_32_method_5_code 25 = .ok (.iload_n 1, 1) := by decide +kernel
theorem d8_26 : decode prog_32_method_5_code 26 = .ok (.imul, 1) := by decide +kernel
theorem d8_27 : decode prog_32_method_5_code 27 = .ok (.iconst 1, 1) := by decide +kernel
theorem d8_28 : decode prog_32_method_5_code 28 = .ok (.iadd, 1) := by decide +kernel
theorem d8_29 : decode prog_32_method_5_code 29 = .ok (.dconst 1, 1) := by decide +kernel
theorem d8_30 : decode prog_32_method_5_code 30 = .ok (.aload_n 0, 1) := by decide +kernel
theorem d8_31 : decode prog_32_method_5_code 31 = .ok (.getfield 31, 3) := by decide +kernel
theorem d8_34 : decode prog_32_method_5_code 34 = .ok (.iconst 2, 1) := by decide +kernel
theorem d8_35 : decode prog_32_method_5_code 35 = .ok (.iload_n 1, 1) := by decide +kernel
theorem d8_36 : decode prog_32_method_5_code 36 = .ok (.imul, 1) := by decide +kernel
theorem d8_37 : decode prog_32_method_5_code 37 = .ok (.iconst 1, 1) := by decide +kernel
theorem d8_38 : decode prog_32_method_5_code 38 = .ok (.iadd, 1) := by decide +kernel
theorem d8_39 : decode prog_32_method_5_code 39 = .ok (.daload, 1) := by decide +kernel
theorem d8_40 : decode prog_32_method_5_code 40 = .ok (.dload 4, 2) := by decide +kernel
theorem d8_42 : decode prog_32_method_5_code 42 = .ok (.invokestatic 87, 3) := by decide +kernel
theorem d8_45 : decode prog_32_method_5_code 45 = .ok (.invokestatic 90, 3) := by decide +kernel
theorem d8_48 : decode prog_32_method_5_code 48 = .ok (.dastore, 1) := by decide +kernel
theorem d8_49 : decode prog_32_method_5_code 49 = .ok (.return_, 1) := by decide +kernel
theorem d12_0 : decode prog_32_method_20_code 0 = .ok (.aload_n 3, 1) := by decide +kernel
theorem d12_1 : decode prog_32_method_20_code 1 = .ok (.iload_n 2, 1) := by decide +kernel
theorem d12_2 : decode prog_32_method_20_code 2 = .ok (.daload, 1) := by decide +kernel
theorem d12_3 : decode prog_32_method_20_code 3 = .ok (.dstore 4, 2) := by decide +kernel
theorem d12_5 : decode prog_32_method_20_code 5 = .ok (.aload_n 0, 1) := by decide +kernel
theorem d12_6 : decode prog_32_method_20_code 6 = .ok (.getfield 31, 3) := by decide +kernel
theorem d12_9 : decode prog_32_method_20_code 9 = .ok (.iconst 2, 1) := by decide +kernel
theorem d12_10 : decode prog_32_method_20_code 10 = .ok (.iload_n 1, 1) := by decide +kernel
theorem d12_11 : decode prog_32_method_20_code 11 = .ok (.imul, 1) := by decide +kernel
theorem d12_12 : decode prog_32_method_20_code 12 = .ok (.daload, 1) := by decide +kernel
theorem d12_13 : decode prog_32_method_20_code 13 = .ok (.aload_n 0, 1) := by decide +kernel
theorem d12_14 : decode prog_32_method_20_code 14 = .ok (.getfield 31, 3) := by decide +kernel
theorem d12_17 : decode prog_32_method_20_code 17 = .ok (.iconst 2, 1) := by decide +kernel
theorem d12_18 : decode prog_32_method_20_code 18 = .ok (.iload_n 1, 1) := by decide +kernel
theorem d12_19 : decode prog_32_method_20_code 19 = .ok (.imul, 1) := by decide +kernel
theorem d12_20 : decode prog_32_method_20_code 20 = .ok (.iconst 1, 1) := by decide +kernel
theorem d12_21 : decode prog_32_method_20_code 21 = .ok (.iadd, 1) := by decide +kernel
theorem d12_22 : decode prog_32_method_20_code 22 = .ok (.daload, 1) := by decide +kernel
theorem d12_23 : decode prog_32_method_20_code 23 = .ok (.dadd, 1) := by decide +kernel
theorem d12_24 : decode prog_32_method_20_code 24 = .ok (.dneg, 1) := by decide +kernel
theorem d12_25 : decode prog_32_method_20_code 25 = .ok (.ldc2_w 167, 3) := by decide +kernel
theorem d12_28 : decode prog_32_method_20_code 28 = .ok (.ddiv, 1) := by decide +kernel
theorem d12_29 : decode prog_32_method_20_code 29 = .ok (.dload 4, 2) := by decide +kernel
theorem d12_31 : decode prog_32_method_20_code 31 = .ok (.dmul, 1) := by decide +kernel
theorem d12_32 : decode prog_32_method_20_code 32 = .ok (.dstore 6, 2) := by decide +kernel
theorem d12_34 : decode prog_32_method_20_code 34 = .ok (.iconst 0, 1) := by decide +kernel
theorem d12_35 : decode prog_32_method_20_code 35 = .ok (.istore 8, 2) := by decide +kernel
theorem d12_37 : decode prog_32_method_20_code 37 = .ok (.iload 8, 2) := by decide +kernel
theorem d12_39 : decode prog_32_method_20_code 39 = .ok (.aload_n 0, 1) := by decide +kernel
theorem d12_40 : decode prog_32_method_20_code 40 = .ok (.getfield 25, 3) := by decide +kernel
theorem d12_43 : decode prog_32_method_20_code 43 = .ok (.iload_n 1, 1) := by decide +kernel
theorem d12_44 : decode prog_32_method_20_code 44 = .ok (.iaload, 1) := by decide +kernel
theorem d12_45 : decode prog_32_method_20_code 45 = .ok (.if_icmp .ge 68, 3) := by decide +kernel
theorem d12_48 : decode prog_32_method_20_code 48 = .ok (.aload_n 0, 1) := by decide +kernel
theorem d12_49 : decode prog_32_method_20_code 49 = .ok (.getfield 15, 3) := by decide +kernel
theorem d12_52 : decode prog_32_method_20_code 52 = .ok (.iload_n 1, 1) := by decide +kernel
theorem d12_53 : decode prog_32_method_20_code 53 = .ok (.aaload, 1) := by decide +kernel
theorem d12_54 : decode prog_32_method_20_code 54 = .ok (.iload 8, 2) := by decide +kernel
theorem d12_56 : decode prog_32_method_20_code 56 = .ok (.iaload, 1) := by decide +kernel
theorem d12_57 : decode prog_32_method_20_code 57 = .ok (.istore 9, 2) := by decide +kernel
theorem d12_59 : decode prog_32_method_20_code 59 = .ok (.iload 9, 2) := by decide +kernel
theorem d12_61 : decode prog_32_method_20_code 61 = .ok (.iload_n 2, 1) := by decide +kernel
theorem d12_62 : decode prog_32_method_20_code 62 = .ok (.if_icmp .eq 45, 3) := by decide +kernel
theorem d12_65 : decode prog_32_method_20_code 65 = .ok (.dload 6, 2) := by decide +kernel
theorem d12_67 : decode prog_32_method_20_code 67 = .ok (.aload_n 0, 1) := by decide +kernel
theorem d12_68 : decode prog_32_method_20_code 68 = .ok (.getfield 21, 3) := by decide +kernel
theorem d12_71 : decode prog_32_method_20_code 71 = .ok (.iload_n 1, 1) := by decide +kernel
theorem d12_72 : decode prog_32_method_20_code 72 = .ok (.aaload, 1) := by decide +kernel
theorem d12_73 : decode prog_32_method_20_code 73 = .ok (.iconst 2, 1) := by decide +kernel
theorem d12_74 : decode prog_32_method_20_code 74 = .ok (.iload 8, 2) := by decide +kernel
theorem d12_76 : decode prog_32_method_20_code 76 = .ok (.imul, 1) := by decide +kernel
theorem d12_77 : decode prog_32_method_20_code 77 = .ok (.daload, 1) := by decide +kernel
theorem d12_78 : decode prog_32_method_20_code 78 = .ok (.aload_n 0, 1) := by decide +kernel
theorem d12_79 : decode prog_32_method_20_code 79 = .ok (.getfield 21, 3) := by decide +kernel
theorem d12_82 : decode prog_32_method_20_code 82 = .ok (.iload_n 1, 1) := by decide +kernel
theorem d12_83 : decode prog_32_method_20_code 83 = .ok (.aaload, 1) := by decide +kernel
theorem d12_84 : decode prog_32_method_20_code 84 = .ok (.iconst 2, 1) := by decide +kernel
theorem d12_85 : decode prog_32_method_20_code 85 = .ok (.iload 8, 2) := by decide +kernel
theorem d12_87 : decode prog_32_method_20_code 87 = .ok (.imul, 1) := by decide +kernel
theorem d12_88 : decode prog_32_method_20_code 88 = .ok (.iconst 1, 1) := by decide +kernel
theorem d12_89 : decode prog_32_method_20_code 89 = .ok (.iadd, 1) := by decide +kernel
theorem d12_90 : decode prog_32_method_20_code 90 = .ok (.daload, 1) := by decide +kernel
theorem d12_91 : decode prog_32_method_20_code 91 = .ok (.dadd, 1) := by decide +kernel
theorem d12_92 : decode prog_32_method_20_code 92 = .ok (.ldc2_w 167, 3) := by decide +kernel
theorem d12_95 : decode prog_32_method_20_code 95 = .ok (.ddiv, 1) := by decide +kernel
theorem d12_96 : decode prog_32_method_20_code 96 = .ok (.aload_n 3, 1) := by decide +kernel
theorem d12_97 : decode prog_32_method_20_code 97 = .ok (.iload 9, 2) := by decide +kernel
theorem d12_99 : decode prog_32_method_20_code 99 = .ok (.daload, 1) := by decide +kernel
theorem d12_100 : decode prog_32_method_20_code 100 = .ok (.dload 4, 2) := by decide +kernel
theorem d12_102 : decode prog_32_method_20_code 102 = .ok (.dsub, 1) := by decide +kernel
theorem d12_103 : decode prog_32_method_20_code 103 = .ok (.dmul, 1) := by decide +kernel
theorem d12_104 : decode prog_32_method_20_code 104 = .ok (.dadd, 1) := by decide +kernel
theorem d12_105 : decode prog_32_method_20_code 105 = .ok (.dstore 6, 2) := by decide +kernel
theorem d12_107 : decode prog_32_method_20_code 107 = .ok (.iinc 8 1, 3) := by decide +kernel
theorem d12_110 : decode prog_32_method_20_code 110 = .ok (.goto (-73), 3) := by decide +kernel
theorem d12_113 : decode prog_32_method_20_code 113 = .ok (.dload 6, 2) := by decide +kernel
theorem d12_115 : decode prog_32_method_20_code 115 = .ok (.dreturn, 1) := by decide +kernel
theorem pn0 : plainName "com/example/markov_reachability/markovreachability/Rounding" = true := by first | (simp [plainName, overriddenIn]; done) | decide +kernel
theorem pn1 : plainName "java/util/Arrays" = true := by first | (simp [plainName, overriddenIn]; done) | decide +kernel
theorem pd0 : parseMethodDescriptor "(II)I" = some ⟨[.int, .int], some .int⟩ := by decide +kernel
theorem pn2 : plainName "com/example/markov_reachability/markovreachability/IntervalEquations" = true := by first | (simp [plainName, overriddenIn]; done) | decide +kernel
theorem pd1 : parseMethodDescriptor "([II)V" = some ⟨[(.array .int), .int], none⟩ := by decide +kernel
theorem pd2 : parseMethodDescriptor "([II)[I" = some ⟨[(.array .int), .int], some (.array .int)⟩ := by decide +kernel
theorem pd3 : parseMethodDescriptor "([DI)[D" = some ⟨[(.array .double), .int], some (.array .double)⟩ := by decide +kernel
theorem pd4 : parseMethodDescriptor "(IIDD)V" = some ⟨[.int, .int, .double, .double], none⟩ := by decide +kernel
theorem pd5 : parseMethodDescriptor "(DD)D" = some ⟨[.double, .double], some .double⟩ := by decide +kernel
theorem pd6 : parseMethodDescriptor "(IDD)V" = some ⟨[.int, .double, .double], none⟩ := by decide +kernel
theorem pd7 : parseMethodDescriptor "(II[D)D" = some ⟨[.int, .int, (.array .double)], some .double⟩ := by decide +kernel
theorem pn3 : plainName "com/example/markov_reachability/markovreachability/IntervalEquationsMiddleChangePinLaw" = true := by first | (simp [plainName, overriddenIn]; done) | decide +kernel
theorem pd8 : parseMethodDescriptor "(ID)V" = some ⟨[.int, .double], none⟩ := by decide +kernel
theorem pd9 : parseMethodDescriptor "()I" = some ⟨[], some .int⟩ := by decide +kernel
theorem own_n {n : Int32} {k : Nat} (h0 : ¬ n < 0) (h : n.toNatClampNeg = k) : n.toInt = k := by rw [nat_of h0, h]
theorem own_ltI {x n : Int32} {i k : Nat} (h1 : x.toInt = i) (h2 : n.toInt = k) (h : i < k) : x < n := by rw [Int32.lt_iff_toInt_lt]; omega
theorem own_geI {x n : Int32} {i k : Nat} (h1 : x.toInt = i) (h2 : n.toInt = k) (h : k ≤ i) : ¬ x < n := by rw [Int32.lt_iff_toInt_lt]; omega
theorem own_inc1 {x : Int32} {i : Nat} (h1 : x.toInt = i) (h : i < 100000) : (x + 1).toInt = ((i + 1 : Nat) : Int) := by
  have e3 : (1 : Int32).toInt = 1 := rfl
  rw [XT.add32 ⟨by omega, by omega⟩]; omega
theorem own_nn {x : Int32} {i : Nat} (h1 : x.toInt = i) : ¬ x < 0 := by rw [XT.negI32]; omega
theorem own_cl {x : Int32} {i : Nat} (h1 : x.toInt = i) : x.toNatClampNeg = i := by
  have := nat_of (own_nn h1); omega
set_option maxRecDepth 65536
set_option maxHeartbeats 4000000
theorem own_nb32 (x : Int32) : x.toInt.natAbs ≤ 2 ^ 53 := by have := x.toInt_lt; have := x.le_toInt; omega
theorem own_256 : FP.Core.val64 4643211215818981376 = .fin false (2 ^ 52) (((8 : Nat) : Int) - 52) := by decide +kernel
theorem own_2 : FP.Core.val64 4611686018427387904 = .fin false (2 ^ 52) (((1 : Nat) : Int) - 52) := by decide +kernel
theorem own_131072 : FP.Core.val64 4683743612465315840 = .fin false (2 ^ 52) (((17 : Nat) : Int) - 52) := by decide +kernel
theorem own_one : DQ 8 256 FP.dconst1 := by
  show FP.Core.Whole 256 (shf ((8 : Nat) : Int) (FP.Core.val64 FP.Core.dconst1))
  rw [FP.Core.val64_dconst1]
  show FP.Core.signed false (2 ^ 52 * 2 ^ (-52 + ((8 : Nat) : Int)).toNat) = 256 * ((2 ^ (-(-52 + ((8 : Nat) : Int))).toNat : Nat) : Int)
  decide +kernel
theorem own_gset {l : List Value} {i : Nat} {x d : Value} (h : i < l.length) : (l.set i x).getD i d = x := by
  rw [List.getD_eq_getElem?_getD, List.getElem?_set_self h]; rfl
theorem own_r3 {r : Int32} (h : ¬ r < 0 ∧ r < 3) : r.toNatClampNeg < 3 := by
  have q := nat_of h.1
  have h2 := h.2
  rw [Int32.lt_iff_toInt_lt] at h2
  have e : (3 : Int32).toInt = 3 := rfl
  omega
theorem own_r4 {r : Int32} (h : ¬ r < 0 ∧ r < 4) : r.toNatClampNeg < 4 := by
  have q := nat_of h.1
  have h2 := h.2
  rw [Int32.lt_iff_toInt_lt] at h2
  have e : (4 : Int32).toInt = 4 := rfl
  omega
theorem con_mini (l : Launch) (Z : State) (b0 : Array Value) (hw : ∀ d ∈ tables_1, d.before b0 Z = true) (i j : Int32) (h0 : Heap) (hE : Ext Z.heap h0) : Con l Z (⟨"java/lang/Math", "min", "(II)I"⟩ : MethodName) jdk_29_method_69_code 2 (some .int) ({ frames := 0, cells := 0, slots := 0, locals := 0 } : Room) #[(.int i), (.int j)] h0 [] (QV fun w h => w = .int (if j < i then j else i) ∧ h0 = h) := by
  refine Con.of (by first | decide | decide +kernel) hE ⟨b0, EW.nil⟩ all0 (L0 := #[.val (.int i), .val (.int j)]) (fun m => by first | (simp [entryFrame, mkF, argsToLocals, Value.category]; done) | rfl) ?_
  intro p e s m args below meth c T W
  refine o_iloadN 1 W d1_0 rfl ?_
  refine o_iloadN 2 W d1_1 rfl ?_
  refine o_icgt 9 5 W d1_2 (fun c2 => ?_) (fun c2 => ?_)
  · refine o_iloadN 10 W d1_9 rfl ?_
    exact o_iret W d1_10 (⟨by rw [if_pos c2], rfl⟩)
  · refine o_iloadN 6 W d1_5 rfl ?_
    refine o_goto 10 W d1_6 ?_
    exact o_iret W d1_10 (⟨by rw [if_neg c2], rfl⟩)
theorem con_sd (l : Launch) (Z : State) (b0 : Array Value) (hw : ∀ d ∈ tables_1, d.before b0 Z = true) (x z : UInt64) {K0 : Nat} (hx : DQ K0 0 x) (h0 : Heap) (hE : Ext Z.heap h0) : Con l Z (⟨"com/example/markov_reachability/markovreachability/Rounding", "sumDown", "(DD)D"⟩ : MethodName) prog_65_method_2_code 6 (some .double) ({ frames := 0, cells := 0, slots := 0, locals := 0 } : Room) #[(.double x), (.double z)] h0 [] (QV fun w h => w = .double z ∧ h0 = h) := by
  refine Con.of (plainFor_of_name pn0) hE ⟨b0, EW.nil⟩ all0 (L0 := #[.val (.double x), .second, .val (.double z), .second, .unset, .unset]) (fun m => by first | (simp [entryFrame, mkF, argsToLocals, Value.category]; done) | rfl) ?_
  intro p e s m args below meth c T W
  refine o_dloadN 1 W d9_0 rfl ?_
  refine o_dconst0 2 W d9_1 ?_
  refine o_dcmpQ 3 W hx (DQ.zero K0) d9_2 ?_
  refine o_ifN 6 W d9_3 (XT.i0_ne_f ((own_c0 _ _).mpr rfl)) ?_
  refine o_dloadN 7 W d9_6 rfl ?_
  refine o_dstore 9 W #[.val (.double x), .second, .val (.double z), .second, .val (.double z), .second] d9_7 rfl ?_
  refine o_goto 32 W d9_9 ?_
  refine o_dload 34 W d9_32 rfl ?_
  exact o_dret W d9_34 (⟨rfl, rfl⟩)
theorem con_su (l : Launch) (Z : State) (b0 : Array Value) (hw : ∀ d ∈ tables_1, d.before b0 Z = true) (x z : UInt64) {K0 : Nat} (hx : DQ K0 0 x) (h0 : Heap) (hE : Ext Z.heap h0) : Con l Z (⟨"com/example/markov_reachability/markovreachability/Rounding", "sumUp", "(DD)D"⟩ : MethodName) prog_65_method_3_code 6 (some .double) ({ frames := 0, cells := 0, slots := 0, locals := 0 } : Room) #[(.double x), (.double z)] h0 [] (QV fun w h => w = .double z ∧ h0 = h) := by
  refine Con.of (plainFor_of_name pn0) hE ⟨b0, EW.nil⟩ all0 (L0 := #[.val (.double x), .second, .val (.double z), .second, .unset, .unset]) (fun m => by first | (simp [entryFrame, mkF, argsToLocals, Value.category]; done) | rfl) ?_
  intro p e s m args below meth c T W
  refine o_dloadN 1 W d10_0 rfl ?_
  refine o_dconst0 2 W d10_1 ?_
  refine o_dcmpQ 3 W hx (DQ.zero K0) d10_2 ?_
  refine o_ifN 6 W d10_3 (XT.i0_ne_f ((own_c0 _ _).mpr rfl)) ?_
  refine o_dloadN 7 W d10_6 rfl ?_
  refine o_dstore 9 W #[.val (.double x), .second, .val (.double z), .second, .val (.double z), .second] d10_7 rfl ?_
  refine o_goto 32 W d10_9 ?_
  refine o_dload 34 W d10_32 rfl ?_
  exact o_dret W d10_34 (⟨rfl, rfl⟩)
theorem con_fil (l : Launch) (Z : State) (b0 : Array Value) (hw : ∀ d ∈ tables_1, d.before b0 Z = true) (a : Addr) (k : ClassId) (n x : Int32) (vs : List Value) (hn : n.toNatClampNeg = vs.length) (hb : vs.length < 5000) (h0 : Heap) (hE : Ext Z.heap h0) (A : Arv Z h0 a k .int n vs (.int 0)) (za : Z.heap.size ≤ a) : Con l Z (⟨"java/util/Arrays", "fill", "([II)V"⟩ : MethodName) jdk_65_method_103_code 4 none ({ frames := 0, cells := 0, slots := 0, locals := 0 } : Room) #[(.ref a), (.int x)] h0 [] (Q0 fun h => Keep h0 h [a]) := by
  refine Con.of (plainFor_of_name pn1) hE ⟨b0, EW.nil⟩ all0 (L0 := #[.val (.ref a), .val (.int x), .unset, .unset]) (fun m => by first | (simp [entryFrame, mkF, argsToLocals, Value.category]; done) | rfl) ?_
  intro p e s m args below meth c T W
  have hn0 : ¬ n < 0 := by obtain ⟨cl, A1, A2, A3, A4, A5, A6⟩ := A; exact A4
  have hnI := own_n hn0 hn
  have loop : ∀ (r i : Nat) (j : Int32) (T : State) (h : Heap) (ws : List Value), i + r = vs.length → ws.length = vs.length → j.toInt = i → Wk p l e ({ frames := 0, cells := 0, slots := 0, locals := 0 } : Room) s m args below meth c Z (⟨"java/util/Arrays", "fill", "([II)V"⟩ : MethodName) jdk_65_method_103_code 4 none T h 0 0 [] → Arv Z h a k .int n ws (.int 0) → Keep h0 h [a] → Go p e below (Gd s below Z (Q0 fun h => Keep h0 h [a]) (({ frames := 0, cells := 0, slots := 0, locals := 0 } : Room)).cells (({ frames := 0, cells := 0, slots := 0, locals := 0 } : Room)).slots) T (mkF m 5 #[.val (.ref a), .val (.int x), .val (.int j), .val (.int n)] []) := by
    intro r
    induction r with
    | zero =>
      intro i j T h ws hi hl hj W A K
      refine o_iloadN 6 W d4_5 rfl ?_
      refine o_iloadN 7 W d4_6 rfl ?_
      refine o_icY 20 W d4_7 (XT.ii_ge_t (own_geI hj hnI (by omega))) ?_
      exact o_ret W d4_20 (K)
    | succ r ih =>
      intro i j T h ws hi hl hj W A K
      refine o_iloadN 6 W d4_5 rfl ?_
      refine o_iloadN 7 W d4_6 rfl ?_
      refine o_icN 10 W d4_7 (XT.ii_ge_f (own_ltI hj hnI (by omega))) ?_
      refine o_aloadN 11 W d4_10 rfl rfl ?_
      refine o_iloadN 12 W d4_11 rfl ?_
      refine o_iloadN 13 W d4_12 rfl ?_
      refine o_iastore 14 i W A ⟨own_nn hj, own_ltI hj hnI (by omega)⟩ (own_cl hj) (by omega) za d4_13 (fun T h W w1 A => ?_)
      refine o_iinc 17 W (j + (1 : Int32)) #[.val (.ref a), .val (.int x), .val (.int (j + (1 : Int32))), .val (.int n)] d4_14 rfl rfl rfl ?_
      refine o_goto 5 W d4_17 ?_
      exact ih (i + 1) (j + 1) T h _ (by omega) (by simpa using hl) (own_inc1 hj (by omega)) W A (K.wr w1 (Or.inl (List.mem_singleton.mpr rfl)))
  refine o_iconst 1 W (0) d4_0 (by first | rfl | decide) ?_
  refine o_istoreN 2 W #[.val (.ref a), .val (.int x), .val (.int (0 : Int32)), .unset] d4_1 rfl ?_
  refine o_aloadN 3 W d4_2 rfl rfl ?_
  refine o_alenV 4 W A d4_3 ?_
  refine o_istoreN 5 W #[.val (.ref a), .val (.int x), .val (.int (0 : Int32)), .val (.int n)] d4_4 rfl ?_
  exact loop vs.length 0 0 T h0 vs (by omega) rfl rfl W A (Keep.refl _ _)
theorem con_cpi (l : Launch) (Z : State) (b0 : Array Value) (hw : ∀ d ∈ tables_1, d.before b0 Z = true) (d : Addr) (k : ClassId) (u0 u1 : Value) (h0 : Heap) (hE : Ext Z.heap h0) (A1 : Arv Z h0 d k .int 2 [u0, u1] (.int 0)) : Con l Z (⟨"java/util/Arrays", "copyOf", "([II)[I"⟩ : MethodName) jdk_65_method_123_code 3 (some (.array .int)) ({ frames := 1, cells := 1, slots := 4, locals := 40 } : Room) #[(.ref d), (.int 4)] h0 [] (QV fun w h => ∃ (o : Addr) (ko : ClassId), w = .ref o ∧ h0.size ≤ o ∧ Z.heap.size ≤ o ∧ Ext h0 h ∧ Arv Z h o ko .int 4 [u0, u1, (.int 0), (.int 0)] (.int 0) ∧ Exa Z h o "[I") := by
  refine Con.of (plainFor_of_name pn1) hE ⟨b0, EW.nil⟩ all0 (L0 := #[.val (.ref d), .val (.int (4 : Int32)), .unset]) (fun m => by first | (simp [entryFrame, mkF, argsToLocals, Value.category]; done) | rfl) ?_
  intro p e s m args below meth c T W
  refine o_iloadN 1 W d13_0 rfl ?_
  refine o_aloadN 2 W d13_1 rfl rfl ?_
  refine o_alenV 3 W A1 d13_2 ?_
  refine o_icY 14 W d13_3 (XT.ii_ne_t (by decide)) ?_
  refine o_iloadN 15 W d13_14 rfl ?_
  refine o_newarrayE 17 4 W (ad := "[I") (by decide) (tw hw 24) d13_15 (by decide) (by decide) (fun T h o ko W Eo Ao Xo go zo => ?_)
  have A1 := A1.ext Eo
  have Ao := own_pad 4 Ao
  refine o_astoreN 18 W #[.val (.ref d), .val (.int (4 : Int32)), .val (.ref o)] d13_17 rfl rfl ?_
  refine o_aloadN 19 W d13_18 rfl rfl ?_
  refine o_iconst 20 W (0) d13_19 (by first | rfl | decide) ?_
  refine o_aloadN 21 W d13_20 rfl rfl ?_
  refine o_iconst 22 W (0) d13_21 (by first | rfl | decide) ?_
  refine o_aloadN 23 W d13_22 rfl rfl ?_
  refine o_alenV 24 W A1 d13_23 ?_
  refine o_iloadN 25 W d13_24 rfl ?_
  refine o_static 28 [(.int (2 : Int32)), (.int (4 : Int32))] W (tw hw 97) (tw hw 2) (tw hw 3) (tw hw 4) (con_mini l Z b0 hw 2 4 _ W.old) pd0 d13_25 rfl all0 (fun T h v W qq gg => ?_)
  obtain ⟨_, rfl, rfl, rfl⟩ := qq
  show Go p e below _ _ (mkF m 28 #[.val (.ref d), .val (.int (4 : Int32)), .val (.ref o)] [(.int (2 : Int32)), (.int (0 : Int32)), (.ref o), (.int (0 : Int32)), (.ref d)])
  refine o_arraycopy 31 W (tw hw 98) (tw hw 101) (tw hw 99) (tw hw 100) A1 Ao rfl (by decide) (by decide) (by decide) (by decide) (by decide) (us := [u0, u1]) rfl (by decide) (by simp) zo d13_28 (fun T h W Kc Ac => ?_)
  refine o_aloadN 32 W d13_31 rfl rfl ?_
  exact o_aret W rfl rfl rfl d13_32 (⟨o, ko, rfl, go, zo, own_ext_keep Eo Kc go, Ac, Xo.keep Kc⟩)
theorem con_cpd (l : Launch) (Z : State) (b0 : Array Value) (hw : ∀ d ∈ tables_1, d.before b0 Z = true) (d : Addr) (k : ClassId) (u0 u1 u2 u3 : Value) (h0 : Heap) (hE : Ext Z.heap h0) (A1 : Arv Z h0 d k .double 4 [u0, u1, u2, u3] (.double 0)) : Con l Z (⟨"java/util/Arrays", "copyOf", "([DI)[D"⟩ : MethodName) jdk_65_method_127_code 3 (some (.array .double)) ({ frames := 1, cells := 1, slots := 8, locals := 40 } : Room) #[(.ref d), (.int 8)] h0 [] (QV fun w h => ∃ (o : Addr) (ko : ClassId), w = .ref o ∧ h0.size ≤ o ∧ Z.heap.size ≤ o ∧ Ext h0 h ∧ Arv Z h o ko .double 8 [u0, u1, u2, u3, (.double 0), (.double 0), (.double 0), (.double 0)] (.double 0) ∧ Exa Z h o "[D") := by
  refine Con.of (plainFor_of_name pn1) hE ⟨b0, EW.nil⟩ all0 (L0 := #[.val (.ref d), .val (.int (8 : Int32)), .unset]) (fun m => by first | (simp [entryFrame, mkF, argsToLocals, Value.category]; done) | rfl) ?_
  intro p e s m args below meth c T W
  refine o_iloadN 1 W d14_0 rfl ?_
  refine o_aloadN 2 W d14_1 rfl rfl ?_
  refine o_alenV 3 W A1 d14_2 ?_
  refine o_icY 14 W d14_3 (XT.ii_ne_t (by decide)) ?_
  refine o_iloadN 15 W d14_14 rfl ?_
  refine o_newarrayE 17 8 W (ad := "[D") (by decide) (tw hw 27) d14_15 (by decide) (by decide) (fun T h o ko W Eo Ao Xo go zo => ?_)
  have A1 := A1.ext Eo
  have Ao := own_pad 8 Ao
  refine o_astoreN 18 W #[.val (.ref d), .val (.int (8 : Int32)), .val (.ref o)] d14_17 rfl rfl ?_
  refine o_aloadN 19 W d14_18 rfl rfl ?_
  refine o_iconst 20 W (0) d14_19 (by first | rfl | decide) ?_
  refine o_aloadN 21 W d14_20 rfl rfl ?_
  refine o_iconst 22 W (0) d14_21 (by first | rfl | decide) ?_
  refine o_aloadN 23 W d14_22 rfl rfl ?_
  refine o_alenV 24 W A1 d14_23 ?_
  refine o_iloadN 25 W d14_24 rfl ?_
  refine o_static 28 [(.int (4 : Int32)), (.int (8 : Int32))] W (tw hw 97) (tw hw 2) (tw hw 3) (tw hw 4) (con_mini l Z b0 hw 4 8 _ W.old) pd0 d14_25 rfl all0 (fun T h v W qq gg => ?_)
  obtain ⟨_, rfl, rfl, rfl⟩ := qq
  show Go p e below _ _ (mkF m 28 #[.val (.ref d), .val (.int (8 : Int32)), .val (.ref o)] [(.int (4 : Int32)), (.int (0 : Int32)), (.ref o), (.int (0 : Int32)), (.ref d)])
  refine o_arraycopy 31 W (tw hw 98) (tw hw 101) (tw hw 99) (tw hw 100) A1 Ao rfl (by decide) (by decide) (by decide) (by decide) (by decide) (us := [u0, u1, u2, u3]) rfl (by decide) (by simp) zo d14_28 (fun T h W Kc Ac => ?_)
  refine o_aloadN 32 W d14_31 rfl rfl ?_
  exact o_aret W rfl rfl rfl d14_32 (⟨o, ko, rfl, go, zo, own_ext_keep Eo Kc go, Ac, Xo.keep Kc⟩)
def own_FL : List (String × String) := [("ceiling", "D"), ("variables", "[[I"), ("coefficients", "[[D"), ("length", "[I"), ("constant", "[D"), ("exit", "[D"), ("eliminating", "[Z"), ("users", "[[I"), ("userCount", "[I"), ("substitutable", "[I"), ("eliminatedVariable", "[I"), ("eliminatedRow", "[I"), ("slot", "[I"), ("rowCount", "I")]
theorem own_obl {Z : State} {b0 : Array Value} (hw : ∀ d ∈ tables_1, d.before b0 Z = true) : OBL Z b0 "com/example/markov_reachability/markovreachability/IntervalEquations" own_FL := by
  refine ⟨fun p hp => ?_, by decide⟩
  simp only [own_FL, List.mem_cons, List.not_mem_nil, or_false] at hp
  rcases hp with rfl | rfl | rfl | rfl | rfl | rfl | rfl | rfl | rfl | rfl | rfl | rfl | rfl | rfl
  · exact ⟨(Or.inr (tw hw 15)), .double, by decide⟩
  · exact ⟨(Or.inl (tw hw 19)), (.array (.array .int)), by decide⟩
  · exact ⟨(Or.inl (tw hw 23)), (.array (.array .double)), by decide⟩
  · exact ⟨(Or.inl (tw hw 26)), (.array .int), by decide⟩
  · exact ⟨(Or.inl (tw hw 29)), (.array .double), by decide⟩
  · exact ⟨(Or.inl (tw hw 31)), (.array .double), by decide⟩
  · exact ⟨(Or.inl (tw hw 34)), (.array .boolean), by decide⟩
  · exact ⟨(Or.inr (tw hw 36)), (.array (.array .int)), by decide⟩
  · exact ⟨(Or.inr (tw hw 38)), (.array .int), by decide⟩
  · exact ⟨(Or.inr (tw hw 40)), (.array .int), by decide⟩
  · exact ⟨(Or.inr (tw hw 42)), (.array .int), by decide⟩
  · exact ⟨(Or.inr (tw hw 44)), (.array .int), by decide⟩
  · exact ⟨(Or.inr (tw hw 46)), (.array .int), by decide⟩
  · exact ⟨(Or.inl (tw hw 57)), .int, by decide⟩
theorem con_ini (l : Launch) (Z : State) (b0 : Array Value) (hw : ∀ d ∈ tables_1, d.before b0 Z = true) (o : Addr) (h0 : Heap) (hE : Ext Z.heap h0) (OBJ : OB Z h0 o "com/example/markov_reachability/markovreachability/IntervalEquations" [("ceiling", "D", (.double 0)), ("variables", "[[I", (.null)), ("coefficients", "[[D", (.null)), ("length", "[I", (.null)), ("constant", "[D", (.null)), ("exit", "[D", (.null)), ("eliminating", "[Z", (.null)), ("users", "[[I", (.null)), ("userCount", "[I", (.null)), ("substitutable", "[I", (.null)), ("eliminatedVariable", "[I", (.null)), ("eliminatedRow", "[I", (.null)), ("slot", "[I", (.null)), ("rowCount", "I", (.int 0))]) (zo : Z.heap.size ≤ o) : Con l Z (⟨"com/example/markov_reachability/markovreachability/IntervalEquations", "<init>", "(ID)V"⟩ : MethodName) prog_32_method_1_code 4 none ({ frames := 1, cells := 12, slots := 80, locals := 20 } : Room) #[(.ref o), (.int 3), (.double FP.dconst1)] h0 [] (Q0 fun h => Keep h0 h [o] ∧ ∃ (va ca la ka ea la2 ua uc sa ev er so : Addr) (kva kca kla kka kea kla2 kua kuc ksa kev ker kso : ClassId), (HM Z h [(er, ker, .int, 3, [(.int 0), (.int 0), (.int 0)], (.int 0)), (ev, kev, .int, 3, [(.int 0), (.int 0), (.int 0)], (.int 0)), (sa, ksa, .int, 3, [(.int 0), (.int 0), (.int 0)], (.int 0)), (uc, kuc, .int, 3, [(.int 0), (.int 0), (.int 0)], (.int 0)), (ua, kua, (.array .int), 3, [(.null), (.null), (.null)], (.null)), (la2, kla2, .boolean, 4, [(.int 0), (.int 0), (.int 0), (.int 0)], (.int 0)), (ea, kea, .double, 8, [(.double 0), (.double 0), (.double 0), (.double 0), (.double 0), (.double 0), (.double 0), (.double 0)], (.double 0)), (ka, kka, .double, 8, [(.double 0), (.double 0), (.double 0), (.double 0), (.double 0), (.double 0), (.double 0), (.double 0)], (.double 0)), (la, kla, .int, 4, [(.int 0), (.int 0), (.int 0), (.int 0)], (.int 0)), (ca, kca, (.array .double), 4, [(.null), (.null), (.null), (.null)], (.null)), (va, kva, (.array .int), 4, [(.null), (.null), (.null), (.null)], (.null))]) ∧ (OB Z h o "com/example/markov_reachability/markovreachability/IntervalEquations" [("ceiling", "D", (.double FP.dconst1)), ("variables", "[[I", (.ref va)), ("coefficients", "[[D", (.ref ca)), ("length", "[I", (.ref la)), ("constant", "[D", (.ref ka)), ("exit", "[D", (.ref ea)), ("eliminating", "[Z", (.ref la2)), ("users", "[[I", (.ref ua)), ("userCount", "[I", (.ref uc)), ("substitutable", "[I", (.ref sa)), ("eliminatedVariable", "[I", (.ref ev)), ("eliminatedRow", "[I", (.ref er)), ("slot", "[I", (.ref so)), ("rowCount", "I", (.int 0))]) ∧ OvrA Z kva .int "[I" ∧ OvrA Z kca .double "[D" ∧ OvrA Z kua .int "[I" ∧ h0.size ≤ er ∧ h0.size ≤ ev ∧ h0.size ≤ sa ∧ h0.size ≤ uc ∧ h0.size ≤ ua ∧ h0.size ≤ la2 ∧ h0.size ≤ ea ∧ h0.size ≤ ka ∧ h0.size ≤ la ∧ h0.size ≤ ca ∧ h0.size ≤ va) := by
  refine Con.of (plainFor_of_name pn2) hE ⟨b0, EW.nil⟩ all0 (L0 := #[.val (.ref o), .val (.int (3 : Int32)), .val (.double FP.dconst1), .second]) (fun m => by first | (simp [entryFrame, mkF, argsToLocals, Value.category]; done) | rfl) ?_
  intro p e s m args below meth c T W
  have K0 := Keep.refl h0 [o]
  have H : HM Z h0 [] := HM.nil Z h0
  refine o_aloadN 1 W d2_0 rfl rfl ?_
  refine o_initO 4 W (tw hw 11) (tw hw 12) (tw hw 13) d2_1 (fun T W => ?_)
  refine o_aloadN 5 W d2_4 rfl rfl ?_
  refine o_dloadN 6 W d2_5 rfl ?_
  refine o_putF 9 W (tw hw 14) (OBJ.get 0 rfl) OBJ.1 (Or.inr ⟨(tw hw 15), rfl, rfl⟩) (tw hw 6) (ty := .double) (by decide) rfl rfl (Or.inr (by decide)) zo d2_6 (fun T h W w1 => ?_)
  have H := H.obj OBJ (tw hw 6) w1
  have OBJ : OB Z h o "com/example/markov_reachability/markovreachability/IntervalEquations" [("ceiling", "D", (.double FP.dconst1)), ("variables", "[[I", (.null)), ("coefficients", "[[D", (.null)), ("length", "[I", (.null)), ("constant", "[D", (.null)), ("exit", "[D", (.null)), ("eliminating", "[Z", (.null)), ("users", "[[I", (.null)), ("userCount", "[I", (.null)), ("substitutable", "[I", (.null)), ("eliminatedVariable", "[I", (.null)), ("eliminatedRow", "[I", (.null)), ("slot", "[I", (.null)), ("rowCount", "I", (.int 0))] := OBJ.put (own_obl hw) rfl 0 rfl w1
  have K0 := K0.wr w1 (Or.inl (List.mem_singleton.mpr rfl))
  refine o_aloadN 10 W d2_9 rfl rfl ?_
  refine o_iconst 11 W (4) d2_10 (by first | rfl | decide) ?_
  refine o_anewarray 14 4 W (ad := "[[I") (C := "[I") (ty := .int) (by decide) (by decide) (tw hw 16) (tw hw 17) d2_11 (by decide) (by decide) (fun T h va kva W Eva Ava Ova gva zva => ?_)
  have Ava : Arv Z h va kva (.array .int) 4 [(.null), (.null), (.null), (.null)] (.null) := own_pad 4 Ava
  have OBJ := OBJ.ext Eva
  have nva := Nat.le_trans K0.1 gva
  have K0 := K0.ext Eva
  have H : HM Z h [(va, kva, (.array .int), 4, [(.null), (.null), (.null), (.null)], (.null))] := H.new Eva Ava gva zva
  refine o_putF 17 W (tw hw 18) (OBJ.get 1 rfl) OBJ.1 (Or.inl (tw hw 19)) (tw hw 6) (ty := (.array (.array .int))) (by decide) rfl rfl (Or.inr (by decide)) zo d2_14 (fun T h W w1 => ?_)
  have H := H.obj OBJ (tw hw 6) w1
  have OBJ : OB Z h o "com/example/markov_reachability/markovreachability/IntervalEquations" [("ceiling", "D", (.double FP.dconst1)), ("variables", "[[I", (.ref va)), ("coefficients", "[[D", (.null)), ("length", "[I", (.null)), ("constant", "[D", (.null)), ("exit", "[D", (.null)), ("eliminating", "[Z", (.null)), ("users", "[[I", (.null)), ("userCount", "[I", (.null)), ("substitutable", "[I", (.null)), ("eliminatedVariable", "[I", (.null)), ("eliminatedRow", "[I", (.null)), ("slot", "[I", (.null)), ("rowCount", "I", (.int 0))] := OBJ.put (own_obl hw) rfl 1 rfl w1
  have K0 := K0.wr w1 (Or.inl (List.mem_singleton.mpr rfl))
  refine o_aloadN 18 W d2_17 rfl rfl ?_
  refine o_iconst 19 W (4) d2_18 (by first | rfl | decide) ?_
  refine o_anewarray 22 4 W (ad := "[[D") (C := "[D") (ty := .double) (by decide) (by decide) (tw hw 20) (tw hw 21) d2_19 (by decide) (by decide) (fun T h ca kca W Eca Aca Oca gca zca => ?_)
  have Aca : Arv Z h ca kca (.array .double) 4 [(.null), (.null), (.null), (.null)] (.null) := own_pad 4 Aca
  have OBJ := OBJ.ext Eca
  have nca := Nat.le_trans K0.1 gca
  have K0 := K0.ext Eca
  have H : HM Z h [(ca, kca, (.array .double), 4, [(.null), (.null), (.null), (.null)], (.null)), (va, kva, (.array .int), 4, [(.null), (.null), (.null), (.null)], (.null))] := H.new Eca Aca gca zca
  refine o_putF 25 W (tw hw 22) (OBJ.get 2 rfl) OBJ.1 (Or.inl (tw hw 23)) (tw hw 6) (ty := (.array (.array .double))) (by decide) rfl rfl (Or.inr (by decide)) zo d2_22 (fun T h W w1 => ?_)
  have H := H.obj OBJ (tw hw 6) w1
  have OBJ : OB Z h o "com/example/markov_reachability/markovreachability/IntervalEquations" [("ceiling", "D", (.double FP.dconst1)), ("variables", "[[I", (.ref va)), ("coefficients", "[[D", (.ref ca)), ("length", "[I", (.null)), ("constant", "[D", (.null)), ("exit", "[D", (.null)), ("eliminating", "[Z", (.null)), ("users", "[[I", (.null)), ("userCount", "[I", (.null)), ("substitutable", "[I", (.null)), ("eliminatedVariable", "[I", (.null)), ("eliminatedRow", "[I", (.null)), ("slot", "[I", (.null)), ("rowCount", "I", (.int 0))] := OBJ.put (own_obl hw) rfl 2 rfl w1
  have K0 := K0.wr w1 (Or.inl (List.mem_singleton.mpr rfl))
  refine o_aloadN 26 W d2_25 rfl rfl ?_
  refine o_iconst 27 W (4) d2_26 (by first | rfl | decide) ?_
  refine o_newarray 29 4 W (tw hw 24) d2_27 (by decide) (by decide) (fun T h la kla W Ela Ala gla zla => ?_)
  have Ala : Arv Z h la kla .int 4 [(.int 0), (.int 0), (.int 0), (.int 0)] (.int 0) := own_pad 4 Ala
  have OBJ := OBJ.ext Ela
  have nla := Nat.le_trans K0.1 gla
  have K0 := K0.ext Ela
  have H : HM Z h [(la, kla, .int, 4, [(.int 0), (.int 0), (.int 0), (.int 0)], (.int 0)), (ca, kca, (.array .double), 4, [(.null), (.null), (.null), (.null)], (.null)), (va, kva, (.array .int), 4, [(.null), (.null), (.null), (.null)], (.null))] := H.new Ela Ala gla zla
  refine o_putF 32 W (tw hw 25) (OBJ.get 3 rfl) OBJ.1 (Or.inl (tw hw 26)) (tw hw 6) (ty := (.array .int)) (by decide) rfl rfl (Or.inr (by decide)) zo d2_29 (fun T h W w1 => ?_)
  have H := H.obj OBJ (tw hw 6) w1
  have OBJ : OB Z h o "com/example/markov_reachability/markovreachability/IntervalEquations" [("ceiling", "D", (.double FP.dconst1)), ("variables", "[[I", (.ref va)), ("coefficients", "[[D", (.ref ca)), ("length", "[I", (.ref la)), ("constant", "[D", (.null)), ("exit", "[D", (.null)), ("eliminating", "[Z", (.null)), ("users", "[[I", (.null)), ("userCount", "[I", (.null)), ("substitutable", "[I", (.null)), ("eliminatedVariable", "[I", (.null)), ("eliminatedRow", "[I", (.null)), ("slot", "[I", (.null)), ("rowCount", "I", (.int 0))] := OBJ.put (own_obl hw) rfl 3 rfl w1
  have K0 := K0.wr w1 (Or.inl (List.mem_singleton.mpr rfl))
  refine o_aloadN 33 W d2_32 rfl rfl ?_
  refine o_bipush 35 W (8) d2_33 (by first | rfl | decide) ?_
  refine o_newarray 37 8 W (tw hw 27) d2_35 (by decide) (by decide) (fun T h ka kka W Eka Aka gka zka => ?_)
  have Aka : Arv Z h ka kka .double 8 [(.double 0), (.double 0), (.double 0), (.double 0), (.double 0), (.double 0), (.double 0), (.double 0)] (.double 0) := own_pad 8 Aka
  have OBJ := OBJ.ext Eka
  have nka := Nat.le_trans K0.1 gka
  have K0 := K0.ext Eka
  have H : HM Z h [(ka, kka, .double, 8, [(.double 0), (.double 0), (.double 0), (.double 0), (.double 0), (.double 0), (.double 0), (.double 0)], (.double 0)), (la, kla, .int, 4, [(.int 0), (.int 0), (.int 0), (.int 0)], (.int 0)), (ca, kca, (.array .double), 4, [(.null), (.null), (.null), (.null)], (.null)), (va, kva, (.array .int), 4, [(.null), (.null), (.null), (.null)], (.null))] := H.new Eka Aka gka zka
  refine o_putF 40 W (tw hw 28) (OBJ.get 4 rfl) OBJ.1 (Or.inl (tw hw 29)) (tw hw 6) (ty := (.array .double)) (by decide) rfl rfl (Or.inr (by decide)) zo d2_37 (fun T h W w1 => ?_)
  have H := H.obj OBJ (tw hw 6) w1
  have OBJ : OB Z h o "com/example/markov_reachability/markovreachability/IntervalEquations" [("ceiling", "D", (.double FP.dconst1)), ("variables", "[[I", (.ref va)), ("coefficients", "[[D", (.ref ca)), ("length", "[I", (.ref la)), ("constant", "[D", (.ref ka)), ("exit", "[D", (.null)), ("eliminating", "[Z", (.null)), ("users", "[[I", (.null)), ("userCount", "[I", (.null)), ("substitutable", "[I", (.null)), ("eliminatedVariable", "[I", (.null)), ("eliminatedRow", "[I", (.null)), ("slot", "[I", (.null)), ("rowCount", "I", (.int 0))] := OBJ.put (own_obl hw) rfl 4 rfl w1
  have K0 := K0.wr w1 (Or.inl (List.mem_singleton.mpr rfl))
  refine o_aloadN 41 W d2_40 rfl rfl ?_
  refine o_bipush 43 W (8) d2_41 (by first | rfl | decide) ?_
  refine o_newarray 45 8 W (tw hw 27) d2_43 (by decide) (by decide) (fun T h ea kea W Eea Aea gea zea => ?_)
  have Aea : Arv Z h ea kea .double 8 [(.double 0), (.double 0), (.double 0), (.double 0), (.double 0), (.double 0), (.double 0), (.double 0)] (.double 0) := own_pad 8 Aea
  have OBJ := OBJ.ext Eea
  have nea := Nat.le_trans K0.1 gea
  have K0 := K0.ext Eea
  have H : HM Z h [(ea, kea, .double, 8, [(.double 0), (.double 0), (.double 0), (.double 0), (.double 0), (.double 0), (.double 0), (.double 0)], (.double 0)), (ka, kka, .double, 8, [(.double 0), (.double 0), (.double 0), (.double 0), (.double 0), (.double 0), (.double 0), (.double 0)], (.double 0)), (la, kla, .int, 4, [(.int 0), (.int 0), (.int 0), (.int 0)], (.int 0)), (ca, kca, (.array .double), 4, [(.null), (.null), (.null), (.null)], (.null)), (va, kva, (.array .int), 4, [(.null), (.null), (.null), (.null)], (.null))] := H.new Eea Aea gea zea
  refine o_putF 48 W (tw hw 30) (OBJ.get 5 rfl) OBJ.1 (Or.inl (tw hw 31)) (tw hw 6) (ty := (.array .double)) (by decide) rfl rfl (Or.inr (by decide)) zo d2_45 (fun T h W w1 => ?_)
  have H := H.obj OBJ (tw hw 6) w1
  have OBJ : OB Z h o "com/example/markov_reachability/markovreachability/IntervalEquations" [("ceiling", "D", (.double FP.dconst1)), ("variables", "[[I", (.ref va)), ("coefficients", "[[D", (.ref ca)), ("length", "[I", (.ref la)), ("constant", "[D", (.ref ka)), ("exit", "[D", (.ref ea)), ("eliminating", "[Z", (.null)), ("users", "[[I", (.null)), ("userCount", "[I", (.null)), ("substitutable", "[I", (.null)), ("eliminatedVariable", "[I", (.null)), ("eliminatedRow", "[I", (.null)), ("slot", "[I", (.null)), ("rowCount", "I", (.int 0))] := OBJ.put (own_obl hw) rfl 5 rfl w1
  have K0 := K0.wr w1 (Or.inl (List.mem_singleton.mpr rfl))
  refine o_aloadN 49 W d2_48 rfl rfl ?_
  refine o_iconst 50 W (4) d2_49 (by first | rfl | decide) ?_
  refine o_newarray 52 4 W (tw hw 32) d2_50 (by decide) (by decide) (fun T h la2 kla2 W Ela2 Ala2 gla2 zla2 => ?_)
  have Ala2 : Arv Z h la2 kla2 .boolean 4 [(.int 0), (.int 0), (.int 0), (.int 0)] (.int 0) := own_pad 4 Ala2
  have OBJ := OBJ.ext Ela2
  have nla2 := Nat.le_trans K0.1 gla2
  have K0 := K0.ext Ela2
  have H : HM Z h [(la2, kla2, .boolean, 4, [(.int 0), (.int 0), (.int 0), (.int 0)], (.int 0)), (ea, kea, .double, 8, [(.double 0), (.double 0), (.double 0), (.double 0), (.double 0), (.double 0), (.double 0), (.double 0)], (.double 0)), (ka, kka, .double, 8, [(.double 0), (.double 0), (.double 0), (.double 0), (.double 0), (.double 0), (.double 0), (.double 0)], (.double 0)), (la, kla, .int, 4, [(.int 0), (.int 0), (.int 0), (.int 0)], (.int 0)), (ca, kca, (.array .double), 4, [(.null), (.null), (.null), (.null)], (.null)), (va, kva, (.array .int), 4, [(.null), (.null), (.null), (.null)], (.null))] := H.new Ela2 Ala2 gla2 zla2
  refine o_putF 55 W (tw hw 33) (OBJ.get 6 rfl) OBJ.1 (Or.inl (tw hw 34)) (tw hw 6) (ty := (.array .boolean)) (by decide) rfl rfl (Or.inr (by decide)) zo d2_52 (fun T h W w1 => ?_)
  have H := H.obj OBJ (tw hw 6) w1
  have OBJ : OB Z h o "com/example/markov_reachability/markovreachability/IntervalEquations" [("ceiling", "D", (.double FP.dconst1)), ("variables", "[[I", (.ref va)), ("coefficients", "[[D", (.ref ca)), ("length", "[I", (.ref la)), ("constant", "[D", (.ref ka)), ("exit", "[D", (.ref ea)), ("eliminating", "[Z", (.ref la2)), ("users", "[[I", (.null)), ("userCount", "[I", (.null)), ("substitutable", "[I", (.null)), ("eliminatedVariable", "[I", (.null)), ("eliminatedRow", "[I", (.null)), ("slot", "[I", (.null)), ("rowCount", "I", (.int 0))] := OBJ.put (own_obl hw) rfl 6 rfl w1
  have K0 := K0.wr w1 (Or.inl (List.mem_singleton.mpr rfl))
  refine o_aloadN 56 W d2_55 rfl rfl ?_
  refine o_iloadN 57 W d2_56 rfl ?_
  refine o_anewarray 60 3 W (ad := "[[I") (C := "[I") (ty := .int) (by decide) (by decide) (tw hw 16) (tw hw 17) d2_57 (by decide) (by decide) (fun T h ua kua W Eua Aua Oua gua zua => ?_)
  have Aua : Arv Z h ua kua (.array .int) 3 [(.null), (.null), (.null)] (.null) := own_pad 3 Aua
  have OBJ := OBJ.ext Eua
  have nua := Nat.le_trans K0.1 gua
  have K0 := K0.ext Eua
  have H : HM Z h [(ua, kua, (.array .int), 3, [(.null), (.null), (.null)], (.null)), (la2, kla2, .boolean, 4, [(.int 0), (.int 0), (.int 0), (.int 0)], (.int 0)), (ea, kea, .double, 8, [(.double 0), (.double 0), (.double 0), (.double 0), (.double 0), (.double 0), (.double 0), (.double 0)], (.double 0)), (ka, kka, .double, 8, [(.double 0), (.double 0), (.double 0), (.double 0), (.double 0), (.double 0), (.double 0), (.double 0)], (.double 0)), (la, kla, .int, 4, [(.int 0), (.int 0), (.int 0), (.int 0)], (.int 0)), (ca, kca, (.array .double), 4, [(.null), (.null), (.null), (.null)], (.null)), (va, kva, (.array .int), 4, [(.null), (.null), (.null), (.null)], (.null))] := H.new Eua Aua gua zua
  refine o_putF 63 W (tw hw 35) (OBJ.get 7 rfl) OBJ.1 (Or.inr ⟨(tw hw 36), rfl, rfl⟩) (tw hw 6) (ty := (.array (.array .int))) (by decide) rfl rfl (Or.inr (by decide)) zo d2_60 (fun T h W w1 => ?_)
  have H := H.obj OBJ (tw hw 6) w1
  have OBJ : OB Z h o "com/example/markov_reachability/markovreachability/IntervalEquations" [("ceiling", "D", (.double FP.dconst1)), ("variables", "[[I", (.ref va)), ("coefficients", "[[D", (.ref ca)), ("length", "[I", (.ref la)), ("constant", "[D", (.ref ka)), ("exit", "[D", (.ref ea)), ("eliminating", "[Z", (.ref la2)), ("users", "[[I", (.ref ua)), ("userCount", "[I", (.null)), ("substitutable", "[I", (.null)), ("eliminatedVariable", "[I", (.null)), ("eliminatedRow", "[I", (.null)), ("slot", "[I", (.null)), ("rowCount", "I", (.int 0))] := OBJ.put (own_obl hw) rfl 7 rfl w1
  have K0 := K0.wr w1 (Or.inl (List.mem_singleton.mpr rfl))
  refine o_aloadN 64 W d2_63 rfl rfl ?_
  refine o_iloadN 65 W d2_64 rfl ?_
  refine o_newarray 67 3 W (tw hw 24) d2_65 (by decide) (by decide) (fun T h uc kuc W Euc Auc guc zuc => ?_)
  have Auc : Arv Z h uc kuc .int 3 [(.int 0), (.int 0), (.int 0)] (.int 0) := own_pad 3 Auc
  have OBJ := OBJ.ext Euc
  have nuc := Nat.le_trans K0.1 guc
  have K0 := K0.ext Euc
  have H : HM Z h [(uc, kuc, .int, 3, [(.int 0), (.int 0), (.int 0)], (.int 0)), (ua, kua, (.array .int), 3, [(.null), (.null), (.null)], (.null)), (la2, kla2, .boolean, 4, [(.int 0), (.int 0), (.int 0), (.int 0)], (.int 0)), (ea, kea, .double, 8, [(.double 0), (.double 0), (.double 0), (.double 0), (.double 0), (.double 0), (.double 0), (.double 0)], (.double 0)), (ka, kka, .double, 8, [(.double 0), (.double 0), (.double 0), (.double 0), (.double 0), (.double 0), (.double 0), (.double 0)], (.double 0)), (la, kla, .int, 4, [(.int 0), (.int 0), (.int 0), (.int 0)], (.int 0)), (ca, kca, (.array .double), 4, [(.null), (.null), (.null), (.null)], (.null)), (va, kva, (.array .int), 4, [(.null), (.null), (.null), (.null)], (.null))] := H.new Euc Auc guc zuc
  refine o_putF 70 W (tw hw 37) (OBJ.get 8 rfl) OBJ.1 (Or.inr ⟨(tw hw 38), rfl, rfl⟩) (tw hw 6) (ty := (.array .int)) (by decide) rfl rfl (Or.inr (by decide)) zo d2_67 (fun T h W w1 => ?_)
  have H := H.obj OBJ (tw hw 6) w1
  have OBJ : OB Z h o "com/example/markov_reachability/markovreachability/IntervalEquations" [("ceiling", "D", (.double FP.dconst1)), ("variables", "[[I", (.ref va)), ("coefficients", "[[D", (.ref ca)), ("length", "[I", (.ref la)), ("constant", "[D", (.ref ka)), ("exit", "[D", (.ref ea)), ("eliminating", "[Z", (.ref la2)), ("users", "[[I", (.ref ua)), ("userCount", "[I", (.ref uc)), ("substitutable", "[I", (.null)), ("eliminatedVariable", "[I", (.null)), ("eliminatedRow", "[I", (.null)), ("slot", "[I", (.null)), ("rowCount", "I", (.int 0))] := OBJ.put (own_obl hw) rfl 8 rfl w1
  have K0 := K0.wr w1 (Or.inl (List.mem_singleton.mpr rfl))
  refine o_aloadN 71 W d2_70 rfl rfl ?_
  refine o_iloadN 72 W d2_71 rfl ?_
  refine o_newarray 74 3 W (tw hw 24) d2_72 (by decide) (by decide) (fun T h sa ksa W Esa Asa gsa zsa => ?_)
  have Asa : Arv Z h sa ksa .int 3 [(.int 0), (.int 0), (.int 0)] (.int 0) := own_pad 3 Asa
  have OBJ := OBJ.ext Esa
  have nsa := Nat.le_trans K0.1 gsa
  have K0 := K0.ext Esa
  have H : HM Z h [(sa, ksa, .int, 3, [(.int 0), (.int 0), (.int 0)], (.int 0)), (uc, kuc, .int, 3, [(.int 0), (.int 0), (.int 0)], (.int 0)), (ua, kua, (.array .int), 3, [(.null), (.null), (.null)], (.null)), (la2, kla2, .boolean, 4, [(.int 0), (.int 0), (.int 0), (.int 0)], (.int 0)), (ea, kea, .double, 8, [(.double 0), (.double 0), (.double 0), (.double 0), (.double 0), (.double 0), (.double 0), (.double 0)], (.double 0)), (ka, kka, .double, 8, [(.double 0), (.double 0), (.double 0), (.double 0), (.double 0), (.double 0), (.double 0), (.double 0)], (.double 0)), (la, kla, .int, 4, [(.int 0), (.int 0), (.int 0), (.int 0)], (.int 0)), (ca, kca, (.array .double), 4, [(.null), (.null), (.null), (.null)], (.null)), (va, kva, (.array .int), 4, [(.null), (.null), (.null), (.null)], (.null))] := H.new Esa Asa gsa zsa
  refine o_putF 77 W (tw hw 39) (OBJ.get 9 rfl) OBJ.1 (Or.inr ⟨(tw hw 40), rfl, rfl⟩) (tw hw 6) (ty := (.array .int)) (by decide) rfl rfl (Or.inr (by decide)) zo d2_74 (fun T h W w1 => ?_)
  have H := H.obj OBJ (tw hw 6) w1
  have OBJ : OB Z h o "com/example/markov_reachability/markovreachability/IntervalEquations" [("ceiling", "D", (.double FP.dconst1)), ("variables", "[[I", (.ref va)), ("coefficients", "[[D", (.ref ca)), ("length", "[I", (.ref la)), ("constant", "[D", (.ref ka)), ("exit", "[D", (.ref ea)), ("eliminating", "[Z", (.ref la2)), ("users", "[[I", (.ref ua)), ("userCount", "[I", (.ref uc)), ("substitutable", "[I", (.ref sa)), ("eliminatedVariable", "[I", (.null)), ("eliminatedRow", "[I", (.null)), ("slot", "[I", (.null)), ("rowCount", "I", (.int 0))] := OBJ.put (own_obl hw) rfl 9 rfl w1
  have K0 := K0.wr w1 (Or.inl (List.mem_singleton.mpr rfl))
  refine o_aloadN 78 W d2_77 rfl rfl ?_
  refine o_iloadN 79 W d2_78 rfl ?_
  refine o_newarray 81 3 W (tw hw 24) d2_79 (by decide) (by decide) (fun T h ev kev W Eev Aev gev zev => ?_)
  have Aev : Arv Z h ev kev .int 3 [(.int 0), (.int 0), (.int 0)] (.int 0) := own_pad 3 Aev
  have OBJ := OBJ.ext Eev
  have nev := Nat.le_trans K0.1 gev
  have K0 := K0.ext Eev
  have H : HM Z h [(ev, kev, .int, 3, [(.int 0), (.int 0), (.int 0)], (.int 0)), (sa, ksa, .int, 3, [(.int 0), (.int 0), (.int 0)], (.int 0)), (uc, kuc, .int, 3, [(.int 0), (.int 0), (.int 0)], (.int 0)), (ua, kua, (.array .int), 3, [(.null), (.null), (.null)], (.null)), (la2, kla2, .boolean, 4, [(.int 0), (.int 0), (.int 0), (.int 0)], (.int 0)), (ea, kea, .double, 8, [(.double 0), (.double 0), (.double 0), (.double 0), (.double 0), (.double 0), (.double 0), (.double 0)], (.double 0)), (ka, kka, .double, 8, [(.double 0), (.double 0), (.double 0), (.double 0), (.double 0), (.double 0), (.double 0), (.double 0)], (.double 0)), (la, kla, .int, 4, [(.int 0), (.int 0), (.int 0), (.int 0)], (.int 0)), (ca, kca, (.array .double), 4, [(.null), (.null), (.null), (.null)], (.null)), (va, kva, (.array .int), 4, [(.null), (.null), (.null), (.null)], (.null))] := H.new Eev Aev gev zev
  refine o_putF 84 W (tw hw 41) (OBJ.get 10 rfl) OBJ.1 (Or.inr ⟨(tw hw 42), rfl, rfl⟩) (tw hw 6) (ty := (.array .int)) (by decide) rfl rfl (Or.inr (by decide)) zo d2_81 (fun T h W w1 => ?_)
  have H := H.obj OBJ (tw hw 6) w1
  have OBJ : OB Z h o "com/example/markov_reachability/markovreachability/IntervalEquations" [("ceiling", "D", (.double FP.dconst1)), ("variables", "[[I", (.ref va)), ("coefficients", "[[D", (.ref ca)), ("length", "[I", (.ref la)), ("constant", "[D", (.ref ka)), ("exit", "[D", (.ref ea)), ("eliminating", "[Z", (.ref la2)), ("users", "[[I", (.ref ua)), ("userCount", "[I", (.ref uc)), ("substitutable", "[I", (.ref sa)), ("eliminatedVariable", "[I", (.ref ev)), ("eliminatedRow", "[I", (.null)), ("slot", "[I", (.null)), ("rowCount", "I", (.int 0))] := OBJ.put (own_obl hw) rfl 10 rfl w1
  have K0 := K0.wr w1 (Or.inl (List.mem_singleton.mpr rfl))
  refine o_aloadN 85 W d2_84 rfl rfl ?_
  refine o_iloadN 86 W d2_85 rfl ?_
  refine o_newarray 88 3 W (tw hw 24) d2_86 (by decide) (by decide) (fun T h er ker W Eer Aer ger zer => ?_)
  have Aer : Arv Z h er ker .int 3 [(.int 0), (.int 0), (.int 0)] (.int 0) := own_pad 3 Aer
  have OBJ := OBJ.ext Eer
  have ner := Nat.le_trans K0.1 ger
  have K0 := K0.ext Eer
  have H : HM Z h [(er, ker, .int, 3, [(.int 0), (.int 0), (.int 0)], (.int 0)), (ev, kev, .int, 3, [(.int 0), (.int 0), (.int 0)], (.int 0)), (sa, ksa, .int, 3, [(.int 0), (.int 0), (.int 0)], (.int 0)), (uc, kuc, .int, 3, [(.int 0), (.int 0), (.int 0)], (.int 0)), (ua, kua, (.array .int), 3, [(.null), (.null), (.null)], (.null)), (la2, kla2, .boolean, 4, [(.int 0), (.int 0), (.int 0), (.int 0)], (.int 0)), (ea, kea, .double, 8, [(.double 0), (.double 0), (.double 0), (.double 0), (.double 0), (.double 0), (.double 0), (.double 0)], (.double 0)), (ka, kka, .double, 8, [(.double 0), (.double 0), (.double 0), (.double 0), (.double 0), (.double 0), (.double 0), (.double 0)], (.double 0)), (la, kla, .int, 4, [(.int 0), (.int 0), (.int 0), (.int 0)], (.int 0)), (ca, kca, (.array .double), 4, [(.null), (.null), (.null), (.null)], (.null)), (va, kva, (.array .int), 4, [(.null), (.null), (.null), (.null)], (.null))] := H.new Eer Aer ger zer
  refine o_putF 91 W (tw hw 43) (OBJ.get 11 rfl) OBJ.1 (Or.inr ⟨(tw hw 44), rfl, rfl⟩) (tw hw 6) (ty := (.array .int)) (by decide) rfl rfl (Or.inr (by decide)) zo d2_88 (fun T h W w1 => ?_)
  have H := H.obj OBJ (tw hw 6) w1
  have OBJ : OB Z h o "com/example/markov_reachability/markovreachability/IntervalEquations" [("ceiling", "D", (.double FP.dconst1)), ("variables", "[[I", (.ref va)), ("coefficients", "[[D", (.ref ca)), ("length", "[I", (.ref la)), ("constant", "[D", (.ref ka)), ("exit", "[D", (.ref ea)), ("eliminating", "[Z", (.ref la2)), ("users", "[[I", (.ref ua)), ("userCount", "[I", (.ref uc)), ("substitutable", "[I", (.ref sa)), ("eliminatedVariable", "[I", (.ref ev)), ("eliminatedRow", "[I", (.ref er)), ("slot", "[I", (.null)), ("rowCount", "I", (.int 0))] := OBJ.put (own_obl hw) rfl 11 rfl w1
  have K0 := K0.wr w1 (Or.inl (List.mem_singleton.mpr rfl))
  refine o_aloadN 92 W d2_91 rfl rfl ?_
  refine o_iloadN 93 W d2_92 rfl ?_
  refine o_newarray 95 3 W (tw hw 24) d2_93 (by decide) (by decide) (fun T h so kso W Eso Aso gso zso => ?_)
  have Aso : Arv Z h so kso .int 3 [(.int 0), (.int 0), (.int 0)] (.int 0) := own_pad 3 Aso
  have OBJ := OBJ.ext Eso
  have nso := Nat.le_trans K0.1 gso
  have K0 := K0.ext Eso
  have H : HM Z h [(so, kso, .int, 3, [(.int 0), (.int 0), (.int 0)], (.int 0)), (er, ker, .int, 3, [(.int 0), (.int 0), (.int 0)], (.int 0)), (ev, kev, .int, 3, [(.int 0), (.int 0), (.int 0)], (.int 0)), (sa, ksa, .int, 3, [(.int 0), (.int 0), (.int 0)], (.int 0)), (uc, kuc, .int, 3, [(.int 0), (.int 0), (.int 0)], (.int 0)), (ua, kua, (.array .int), 3, [(.null), (.null), (.null)], (.null)), (la2, kla2, .boolean, 4, [(.int 0), (.int 0), (.int 0), (.int 0)], (.int 0)), (ea, kea, .double, 8, [(.double 0), (.double 0), (.double 0), (.double 0), (.double 0), (.double 0), (.double 0), (.double 0)], (.double 0)), (ka, kka, .double, 8, [(.double 0), (.double 0), (.double 0), (.double 0), (.double 0), (.double 0), (.double 0), (.double 0)], (.double 0)), (la, kla, .int, 4, [(.int 0), (.int 0), (.int 0), (.int 0)], (.int 0)), (ca, kca, (.array .double), 4, [(.null), (.null), (.null), (.null)], (.null)), (va, kva, (.array .int), 4, [(.null), (.null), (.null), (.null)], (.null))] := H.new Eso Aso gso zso
  refine o_putF 98 W (tw hw 45) (OBJ.get 12 rfl) OBJ.1 (Or.inr ⟨(tw hw 46), rfl, rfl⟩) (tw hw 6) (ty := (.array .int)) (by decide) rfl rfl (Or.inr (by decide)) zo d2_95 (fun T h W w1 => ?_)
  have H := H.obj OBJ (tw hw 6) w1
  have OBJ : OB Z h o "com/example/markov_reachability/markovreachability/IntervalEquations" [("ceiling", "D", (.double FP.dconst1)), ("variables", "[[I", (.ref va)), ("coefficients", "[[D", (.ref ca)), ("length", "[I", (.ref la)), ("constant", "[D", (.ref ka)), ("exit", "[D", (.ref ea)), ("eliminating", "[Z", (.ref la2)), ("users", "[[I", (.ref ua)), ("userCount", "[I", (.ref uc)), ("substitutable", "[I", (.ref sa)), ("eliminatedVariable", "[I", (.ref ev)), ("eliminatedRow", "[I", (.ref er)), ("slot", "[I", (.ref so)), ("rowCount", "I", (.int 0))] := OBJ.put (own_obl hw) rfl 12 rfl w1
  have K0 := K0.wr w1 (Or.inl (List.mem_singleton.mpr rfl))
  refine o_aloadN 99 W d2_98 rfl rfl ?_
  refine o_getF 102 W (tw hw 45) (OBJ.get 12 rfl) d2_99 (fun T W => ?_)
  refine o_iconst 103 W (-1) d2_102 (by first | rfl | decide) ?_
  refine o_static 106 [(.ref so), (.int (-1 : Int32))] W (tw hw 47) (tw hw 48) (tw hw 49) (tw hw 50) (con_fil l Z b0 hw so kso 3 (-1) [(.int 0), (.int 0), (.int 0)] rfl (by decide) _ W.old (H.get 0 rfl) zso) pd1 d2_103 rfl all0 (fun T h v W qq gg => ?_)
  obtain ⟨rfl, Ks⟩ := qq
  show Go p e below _ _ (mkF m 106 #[.val (.ref o), .val (.int (3 : Int32)), .val (.double FP.dconst1), .second] [])
  have OBJ := OBJ.keep (tw hw 6) (M := [(so, kso, .int, 3, [(.int 0), (.int 0), (.int 0)], (.int 0))]) (HM.split (P := [_]) H).1 Ks
  have H := HM.frame (P := [_]) H (HM.nil Z _) Ks (fun x q => nomatch q)
  have K0 := K0.trans Ks (fun x q => Or.inr (by rw [List.mem_singleton.mp q]; exact nso))
  exact o_ret W d2_106 (⟨K0, va, ca, la, ka, ea, la2, ua, uc, sa, ev, er, so, kva, kca, kla, kka, kea, kla2, kua, kuc, ksa, kev, ker, kso, H, OBJ, Ova, Oca, Oua, ner, nev, nsa, nuc, nua, nla2, nea, nka, nla, nca, nva⟩)
theorem con_adr0 (l : Launch) (Z : State) (b0 : Array Value) (hw : ∀ d ∈ tables_1, d.before b0 Z = true) (o va ca la ka ea la2 ua uc sa ev er so : Addr) (kva kca kla kka kea kla2 kua kuc ksa kev ker kso : ClassId) (u0 u1 u2 u3 c0 c1 c2 c3 l0 l1 l2 l3 : Value) (Ova : OvrA Z kva .int "[I") (Oca : OvrA Z kca .double "[D") (h0 : Heap) (hE : Ext Z.heap h0) (OBJ : OB Z h0 o "com/example/markov_reachability/markovreachability/IntervalEquations" [("ceiling", "D", (.double FP.dconst1)), ("variables", "[[I", (.ref va)), ("coefficients", "[[D", (.ref ca)), ("length", "[I", (.ref la)), ("constant", "[D", (.ref ka)), ("exit", "[D", (.ref ea)), ("eliminating", "[Z", (.ref la2)), ("users", "[[I", (.ref ua)), ("userCount", "[I", (.ref uc)), ("substitutable", "[I", (.ref sa)), ("eliminatedVariable", "[I", (.ref ev)), ("eliminatedRow", "[I", (.ref er)), ("slot", "[I", (.ref so)), ("rowCount", "I", (.int 0))]) (zo : Z.heap.size ≤ o) (H : HM Z h0 [(va, kva, (.array .int), 4, [u0, u1, u2, u3], (.null)), (ca, kca, (.array .double), 4, [c0, c1, c2, c3], (.null)), (la, kla, .int, 4, [l0, l1, l2, l3], (.int 0))]) : Con l Z (⟨"com/example/markov_reachability/markovreachability/IntervalEquations", "addRow", "()I"⟩ : MethodName) prog_32_method_2_code 2 (some .int) ({ frames := 0, cells := 2, slots := 6, locals := 0 } : Room) #[(.ref o)] h0 [] (QV fun w h => w = .int 0 ∧ Keep h0 h [o, va, ca, la] ∧ ∃ (rx ry : Addr) (krx kry : ClassId), h0.size ≤ rx ∧ h0.size ≤ ry ∧ (HM Z h [(ry, kry, .double, 4, [(.double 0), (.double 0), (.double 0), (.double 0)], (.double 0)), (rx, krx, .int, 2, [(.int 0), (.int 0)], (.int 0)), (va, kva, (.array .int), 4, [(.ref rx), u1, u2, u3], (.null)), (ca, kca, (.array .double), 4, [(.ref ry), c1, c2, c3], (.null)), (la, kla, .int, 4, [l0, l1, l2, l3], (.int 0))]) ∧ (OB Z h o "com/example/markov_reachability/markovreachability/IntervalEquations" [("ceiling", "D", (.double FP.dconst1)), ("variables", "[[I", (.ref va)), ("coefficients", "[[D", (.ref ca)), ("length", "[I", (.ref la)), ("constant", "[D", (.ref ka)), ("exit", "[D", (.ref ea)), ("eliminating", "[Z", (.ref la2)), ("users", "[[I", (.ref ua)), ("userCount", "[I", (.ref uc)), ("substitutable", "[I", (.ref sa)), ("eliminatedVariable", "[I", (.ref ev)), ("eliminatedRow", "[I", (.ref er)), ("slot", "[I", (.ref so)), ("rowCount", "I", (.int 1))])) := by
  refine Con.of (plainFor_of_name pn2) hE ⟨b0, EW.nil⟩ all0 (L0 := #[.val (.ref o), .unset]) (fun m => by first | (simp [entryFrame, mkF, argsToLocals, Value.category]; done) | rfl) ?_
  intro p e s m args below meth c T W
  have K0 := Keep.refl h0 [o, va, ca, la]
  refine o_aloadN 1 W d5_0 rfl rfl ?_
  refine o_getF 4 W (tw hw 56) (OBJ.get 13 rfl) d5_1 (fun T W => ?_)
  refine o_aloadN 5 W d5_4 rfl rfl ?_
  refine o_getF 8 W (tw hw 25) (OBJ.get 3 rfl) d5_5 (fun T W => ?_)
  have G0 : Arv Z _ la kla .int 4 [l0, l1, l2, l3] (.int 0) := H.get 2 rfl
  refine o_alenV 9 W G0 d5_8 ?_
  show Go p e below _ _ (mkF m 9 #[.val (.ref o), .unset] [(.int (4 : Int32)), (.int (0 : Int32))])
  refine o_icY 101 W d5_9 (XT.ii_ne_t (by decide)) ?_
  refine o_aloadN 102 W d5_101 rfl rfl ?_
  refine o_getF 105 W (tw hw 18) (OBJ.get 1 rfl) d5_102 (fun T W => ?_)
  refine o_aloadN 106 W d5_105 rfl rfl ?_
  refine o_getF 109 W (tw hw 56) (OBJ.get 13 rfl) d5_106 (fun T W => ?_)
  refine o_iconst 110 W (2) d5_109 (by first | rfl | decide) ?_
  refine o_newarrayE 112 2 W (ad := "[I") (by decide) (tw hw 24) d5_110 (by decide) (by decide) (fun T h rx krx W Erx Arx Xrx grx zrx => ?_)
  have Arx : Arv Z h rx krx .int 2 [(.int 0), (.int 0)] (.int 0) := own_pad 2 Arx
  have OBJ := OBJ.ext Erx
  have nrx := Nat.le_trans K0.1 grx
  have K0 := K0.ext Erx
  have H : HM Z h [(rx, krx, .int, 2, [(.int 0), (.int 0)], (.int 0)), (va, kva, (.array .int), 4, [u0, u1, u2, u3], (.null)), (ca, kca, (.array .double), 4, [c0, c1, c2, c3], (.null)), (la, kla, .int, 4, [l0, l1, l2, l3], (.int 0))] := H.new Erx Arx grx zrx
  have G0 : Arv Z _ va kva (.array .int) 4 [u0, u1, u2, u3] (.null) := H.get 1 rfl
  refine o_aastore 113 0 W G0 (Ins.self Xrx) Ova (by decide) rfl (by simp) (H.new? 1 rfl) d5_112 (fun T h W w1 A1 => ?_)
  have OBJ := OBJ.wr (tw hw 6) (H.get 1 rfl) w1
  have H : HM Z h [(rx, krx, .int, 2, [(.int 0), (.int 0)], (.int 0)), (va, kva, (.array .int), 4, [(.ref rx), u1, u2, u3], (.null)), (ca, kca, (.array .double), 4, [c0, c1, c2, c3], (.null)), (la, kla, .int, 4, [l0, l1, l2, l3], (.int 0))] := H.wr 1 rfl w1 A1
  have K0 := K0.wr w1 (Or.inl (by simp))
  refine o_aloadN 114 W d5_113 rfl rfl ?_
  refine o_getF 117 W (tw hw 22) (OBJ.get 2 rfl) d5_114 (fun T W => ?_)
  refine o_aloadN 118 W d5_117 rfl rfl ?_
  refine o_getF 121 W (tw hw 56) (OBJ.get 13 rfl) d5_118 (fun T W => ?_)
  refine o_iconst 122 W (4) d5_121 (by first | rfl | decide) ?_
  refine o_newarrayE 124 4 W (ad := "[D") (by decide) (tw hw 27) d5_122 (by decide) (by decide) (fun T h ry kry W Ery Ary Xry gry zry => ?_)
  have Ary : Arv Z h ry kry .double 4 [(.double 0), (.double 0), (.double 0), (.double 0)] (.double 0) := own_pad 4 Ary
  have OBJ := OBJ.ext Ery
  have nry := Nat.le_trans K0.1 gry
  have K0 := K0.ext Ery
  have H : HM Z h [(ry, kry, .double, 4, [(.double 0), (.double 0), (.double 0), (.double 0)], (.double 0)), (rx, krx, .int, 2, [(.int 0), (.int 0)], (.int 0)), (va, kva, (.array .int), 4, [(.ref rx), u1, u2, u3], (.null)), (ca, kca, (.array .double), 4, [c0, c1, c2, c3], (.null)), (la, kla, .int, 4, [l0, l1, l2, l3], (.int 0))] := H.new Ery Ary gry zry
  have G0 : Arv Z _ ca kca (.array .double) 4 [c0, c1, c2, c3] (.null) := H.get 3 rfl
  refine o_aastore 125 0 W G0 (Ins.self Xry) Oca (by decide) rfl (by simp) (H.new? 3 rfl) d5_124 (fun T h W w1 A1 => ?_)
  have OBJ := OBJ.wr (tw hw 6) (H.get 3 rfl) w1
  have H : HM Z h [(ry, kry, .double, 4, [(.double 0), (.double 0), (.double 0), (.double 0)], (.double 0)), (rx, krx, .int, 2, [(.int 0), (.int 0)], (.int 0)), (va, kva, (.array .int), 4, [(.ref rx), u1, u2, u3], (.null)), (ca, kca, (.array .double), 4, [(.ref ry), c1, c2, c3], (.null)), (la, kla, .int, 4, [l0, l1, l2, l3], (.int 0))] := H.wr 3 rfl w1 A1
  have K0 := K0.wr w1 (Or.inl (by simp))
  refine o_aloadN 126 W d5_125 rfl rfl ?_
  refine o_dup 127 W d5_126 rfl ?_
  refine o_getF 130 W (tw hw 56) (OBJ.get 13 rfl) d5_127 (fun T W => ?_)
  refine o_dup_x1 131 W d5_130 rfl rfl ?_
  refine o_iconst 132 W (1) d5_131 (by first | rfl | decide) ?_
  refine o_iadd 133 W d5_132 ?_
  show Go p e below _ _ (mkF m 133 #[.val (.ref o), .unset] [(.int ((0 : Int32) + (1 : Int32))), (.ref o), (.int (0 : Int32))])
  show Go p e below _ _ (mkF m 133 #[.val (.ref o), .unset] [(.int (1 : Int32)), (.ref o), (.int (0 : Int32))])
  refine o_putF 136 W (tw hw 56) (OBJ.get 13 rfl) OBJ.1 (Or.inl (tw hw 57)) (tw hw 6) (ty := .int) (by decide) rfl rfl (Or.inr (by decide)) zo d5_133 (fun T h W w1 => ?_)
  have H := H.obj OBJ (tw hw 6) w1
  have OBJ : OB Z h o "com/example/markov_reachability/markovreachability/IntervalEquations" [("ceiling", "D", (.double FP.dconst1)), ("variables", "[[I", (.ref va)), ("coefficients", "[[D", (.ref ca)), ("length", "[I", (.ref la)), ("constant", "[D", (.ref ka)), ("exit", "[D", (.ref ea)), ("eliminating", "[Z", (.ref la2)), ("users", "[[I", (.ref ua)), ("userCount", "[I", (.ref uc)), ("substitutable", "[I", (.ref sa)), ("eliminatedVariable", "[I", (.ref ev)), ("eliminatedRow", "[I", (.ref er)), ("slot", "[I", (.ref so)), ("rowCount", "I", (.int 1))] := OBJ.put (own_obl hw) rfl 13 rfl w1
  have K0 := K0.wr w1 (Or.inl (by simp))
  exact o_iret W d5_136 (⟨rfl, K0, rx, ry, krx, kry, nrx, nry, H, OBJ⟩)
theorem con_adr1 (l : Launch) (Z : State) (b0 : Array Value) (hw : ∀ d ∈ tables_1, d.before b0 Z = true) (o va ca la ka ea la2 ua uc sa ev er so : Addr) (kva kca kla kka kea kla2 kua kuc ksa kev ker kso : ClassId) (u0 u1 u2 u3 c0 c1 c2 c3 l0 l1 l2 l3 : Value) (Ova : OvrA Z kva .int "[I") (Oca : OvrA Z kca .double "[D") (h0 : Heap) (hE : Ext Z.heap h0) (OBJ : OB Z h0 o "com/example/markov_reachability/markovreachability/IntervalEquations" [("ceiling", "D", (.double FP.dconst1)), ("variables", "[[I", (.ref va)), ("coefficients", "[[D", (.ref ca)), ("length", "[I", (.ref la)), ("constant", "[D", (.ref ka)), ("exit", "[D", (.ref ea)), ("eliminating", "[Z", (.ref la2)), ("users", "[[I", (.ref ua)), ("userCount", "[I", (.ref uc)), ("substitutable", "[I", (.ref sa)), ("eliminatedVariable", "[I", (.ref ev)), ("eliminatedRow", "[I", (.ref er)), ("slot", "[I", (.ref so)), ("rowCount", "I", (.int 1))]) (zo : Z.heap.size ≤ o) (H : HM Z h0 [(va, kva, (.array .int), 4, [u0, u1, u2, u3], (.null)), (ca, kca, (.array .double), 4, [c0, c1, c2, c3], (.null)), (la, kla, .int, 4, [l0, l1, l2, l3], (.int 0))]) : Con l Z (⟨"com/example/markov_reachability/markovreachability/IntervalEquations", "addRow", "()I"⟩ : MethodName) prog_32_method_2_code 2 (some .int) ({ frames := 0, cells := 2, slots := 6, locals := 0 } : Room) #[(.ref o)] h0 [] (QV fun w h => w = .int 1 ∧ Keep h0 h [o, va, ca, la] ∧ ∃ (rx ry : Addr) (krx kry : ClassId), h0.size ≤ rx ∧ h0.size ≤ ry ∧ (HM Z h [(ry, kry, .double, 4, [(.double 0), (.double 0), (.double 0), (.double 0)], (.double 0)), (rx, krx, .int, 2, [(.int 0), (.int 0)], (.int 0)), (va, kva, (.array .int), 4, [u0, (.ref rx), u2, u3], (.null)), (ca, kca, (.array .double), 4, [c0, (.ref ry), c2, c3], (.null)), (la, kla, .int, 4, [l0, l1, l2, l3], (.int 0))]) ∧ (OB Z h o "com/example/markov_reachability/markovreachability/IntervalEquations" [("ceiling", "D", (.double FP.dconst1)), ("variables", "[[I", (.ref va)), ("coefficients", "[[D", (.ref ca)), ("length", "[I", (.ref la)), ("constant", "[D", (.ref ka)), ("exit", "[D", (.ref ea)), ("eliminating", "[Z", (.ref la2)), ("users", "[[I", (.ref ua)), ("userCount", "[I", (.ref uc)), ("substitutable", "[I", (.ref sa)), ("eliminatedVariable", "[I", (.ref ev)), ("eliminatedRow", "[I", (.ref er)), ("slot", "[I", (.ref so)), ("rowCount", "I", (.int 2))])) := by
  refine Con.of (plainFor_of_name pn2) hE ⟨b0, EW.nil⟩ all0 (L0 := #[.val (.ref o), .unset]) (fun m => by first | (simp [entryFrame, mkF, argsToLocals, Value.category]; done) | rfl) ?_
  intro p e s m args below meth c T W
  have K0 := Keep.refl h0 [o, va, ca, la]
  refine o_aloadN 1 W d5_0 rfl rfl ?_
  refine o_getF 4 W (tw hw 56) (OBJ.get 13 rfl) d5_1 (fun T W => ?_)
  refine o_aloadN 5 W d5_4 rfl rfl ?_
  refine o_getF 8 W (tw hw 25) (OBJ.get 3 rfl) d5_5 (fun T W => ?_)
  have G0 : Arv Z _ la kla .int 4 [l0, l1, l2, l3] (.int 0) := H.get 2 rfl
  refine o_alenV 9 W G0 d5_8 ?_
  show Go p e below _ _ (mkF m 9 #[.val (.ref o), .unset] [(.int (4 : Int32)), (.int (1 : Int32))])
  refine o_icY 101 W d5_9 (XT.ii_ne_t (by decide)) ?_
  refine o_aloadN 102 W d5_101 rfl rfl ?_
  refine o_getF 105 W (tw hw 18) (OBJ.get 1 rfl) d5_102 (fun T W => ?_)
  refine o_aloadN 106 W d5_105 rfl rfl ?_
  refine o_getF 109 W (tw hw 56) (OBJ.get 13 rfl) d5_106 (fun T W => ?_)
  refine o_iconst 110 W (2) d5_109 (by first | rfl | decide) ?_
  refine o_newarrayE 112 2 W (ad := "[I") (by decide) (tw hw 24) d5_110 (by decide) (by decide) (fun T h rx krx W Erx Arx Xrx grx zrx => ?_)
  have Arx : Arv Z h rx krx .int 2 [(.int 0), (.int 0)] (.int 0) := own_pad 2 Arx
  have OBJ := OBJ.ext Erx
  have nrx := Nat.le_trans K0.1 grx
  have K0 := K0.ext Erx
  have H : HM Z h [(rx, krx, .int, 2, [(.int 0), (.int 0)], (.int 0)), (va, kva, (.array .int), 4, [u0, u1, u2, u3], (.null)), (ca, kca, (.array .double), 4, [c0, c1, c2, c3], (.null)), (la, kla, .int, 4, [l0, l1, l2, l3], (.int 0))] := H.new Erx Arx grx zrx
  have G0 : Arv Z _ va kva (.array .int) 4 [u0, u1, u2, u3] (.null) := H.get 1 rfl
  refine o_aastore 113 1 W G0 (Ins.self Xrx) Ova (by decide) rfl (by simp) (H.new? 1 rfl) d5_112 (fun T h W w1 A1 => ?_)
  have OBJ := OBJ.wr (tw hw 6) (H.get 1 rfl) w1
  have H : HM Z h [(rx, krx, .int, 2, [(.int 0), (.int 0)], (.int 0)), (va, kva, (.array .int), 4, [u0, (.ref rx), u2, u3], (.null)), (ca, kca, (.array .double), 4, [c0, c1, c2, c3], (.null)), (la, kla, .int, 4, [l0, l1, l2, l3], (.int 0))] := H.wr 1 rfl w1 A1
  have K0 := K0.wr w1 (Or.inl (by simp))
  refine o_aloadN 114 W d5_113 rfl rfl ?_
  refine o_getF 117 W (tw hw 22) (OBJ.get 2 rfl) d5_114 (fun T W => ?_)
  refine o_aloadN 118 W d5_117 rfl rfl ?_
  refine o_getF 121 W (tw hw 56) (OBJ.get 13 rfl) d5_118 (fun T W => ?_)
  refine o_iconst 122 W (4) d5_121 (by first | rfl | decide) ?_
  refine o_newarrayE 124 4 W (ad := "[D") (by decide) (tw hw 27) d5_122 (by decide) (by decide) (fun T h ry kry W Ery Ary Xry gry zry => ?_)
  have Ary : Arv Z h ry kry .double 4 [(.double 0), (.double 0), (.double 0), (.double 0)] (.double 0) := own_pad 4 Ary
  have OBJ := OBJ.ext Ery
  have nry := Nat.le_trans K0.1 gry
  have K0 := K0.ext Ery
  have H : HM Z h [(ry, kry, .double, 4, [(.double 0), (.double 0), (.double 0), (.double 0)], (.double 0)), (rx, krx, .int, 2, [(.int 0), (.int 0)], (.int 0)), (va, kva, (.array .int), 4, [u0, (.ref rx), u2, u3], (.null)), (ca, kca, (.array .double), 4, [c0, c1, c2, c3], (.null)), (la, kla, .int, 4, [l0, l1, l2, l3], (.int 0))] := H.new Ery Ary gry zry
  have G0 : Arv Z _ ca kca (.array .double) 4 [c0, c1, c2, c3] (.null) := H.get 3 rfl
  refine o_aastore 125 1 W G0 (Ins.self Xry) Oca (by decide) rfl (by simp) (H.new? 3 rfl) d5_124 (fun T h W w1 A1 => ?_)
  have OBJ := OBJ.wr (tw hw 6) (H.get 3 rfl) w1
  have H : HM Z h [(ry, kry, .double, 4, [(.double 0), (.double 0), (.double 0), (.double 0)], (.double 0)), (rx, krx, .int, 2, [(.int 0), (.int 0)], (.int 0)), (va, kva, (.array .int), 4, [u0, (.ref rx), u2, u3], (.null)), (ca, kca, (.array .double), 4, [c0, (.ref ry), c2, c3], (.null)), (la, kla, .int, 4, [l0, l1, l2, l3], (.int 0))] := H.wr 3 rfl w1 A1
  have K0 := K0.wr w1 (Or.inl (by simp))
  refine o_aloadN 126 W d5_125 rfl rfl ?_
  refine o_dup 127 W d5_126 rfl ?_
  refine o_getF 130 W (tw hw 56) (OBJ.get 13 rfl) d5_127 (fun T W => ?_)
  refine o_dup_x1 131 W d5_130 rfl rfl ?_
  refine o_iconst 132 W (1) d5_131 (by first | rfl | decide) ?_
  refine o_iadd 133 W d5_132 ?_
  show Go p e below _ _ (mkF m 133 #[.val (.ref o), .unset] [(.int ((1 : Int32) + (1 : Int32))), (.ref o), (.int (1 : Int32))])
  show Go p e below _ _ (mkF m 133 #[.val (.ref o), .unset] [(.int (2 : Int32)), (.ref o), (.int (1 : Int32))])
  refine o_putF 136 W (tw hw 56) (OBJ.get 13 rfl) OBJ.1 (Or.inl (tw hw 57)) (tw hw 6) (ty := .int) (by decide) rfl rfl (Or.inr (by decide)) zo d5_133 (fun T h W w1 => ?_)
  have H := H.obj OBJ (tw hw 6) w1
  have OBJ : OB Z h o "com/example/markov_reachability/markovreachability/IntervalEquations" [("ceiling", "D", (.double FP.dconst1)), ("variables", "[[I", (.ref va)), ("coefficients", "[[D", (.ref ca)), ("length", "[I", (.ref la)), ("constant", "[D", (.ref ka)), ("exit", "[D", (.ref ea)), ("eliminating", "[Z", (.ref la2)), ("users", "[[I", (.ref ua)), ("userCount", "[I", (.ref uc)), ("substitutable", "[I", (.ref sa)), ("eliminatedVariable", "[I", (.ref ev)), ("eliminatedRow", "[I", (.ref er)), ("slot", "[I", (.ref so)), ("rowCount", "I", (.int 2))] := OBJ.put (own_obl hw) rfl 13 rfl w1
  have K0 := K0.wr w1 (Or.inl (by simp))
  exact o_iret W d5_136 (⟨rfl, K0, rx, ry, krx, kry, nrx, nry, H, OBJ⟩)
theorem con_appA0 (l : Launch) (Z : State) (b0 : Array Value) (hw : ∀ d ∈ tables_1, d.before b0 Z = true) (o va ca la ka ea la2 ua uc sa ev er so rx ry : Addr) (kva kca kla kka kea kla2 kua kuc ksa kev ker kso krx kry : ClassId) (rcv : Value) (r v sv : Int32) (x z : UInt64) (VL CL LL UL UC SL : List Value) (a0 a1 d0 d1 d2 d3 : Value) (hr : ¬ r < 0 ∧ r < 4) (hv : ¬ v < 0 ∧ v < 3) (lV : VL.length = 4) (lC : CL.length = 4) (lL : LL.length = 4) (lU : UL.length = 3) (lN : UC.length = 3) (lS : SL.length = 3) (hV : VL.getD r.toNatClampNeg (.null) = .ref rx) (hC : CL.getD r.toNatClampNeg (.null) = .ref ry) (hL : LL.getD r.toNatClampNeg (.int 0) = .int 0) (hU : UL.getD v.toNatClampNeg (.null) = .null) (hN : UC.getD v.toNatClampNeg (.int 0) = .int 0) (hS : SL.getD v.toNatClampNeg (.int 0) = .int sv) (Ova : OvrA Z kva .int "[I") (Oca : OvrA Z kca .double "[D") (Oua : OvrA Z kua .int "[I") (h0 : Heap) (hE : Ext Z.heap h0) (OBJ : OB Z h0 o "com/example/markov_reachability/markovreachability/IntervalEquations" [("ceiling", "D", (.double FP.dconst1)), ("variables", "[[I", (.ref va)), ("coefficients", "[[D", (.ref ca)), ("length", "[I", (.ref la)), ("constant", "[D", (.ref ka)), ("exit", "[D", (.ref ea)), ("eliminating", "[Z", (.ref la2)), ("users", "[[I", (.ref ua)), ("userCount", "[I", (.ref uc)), ("substitutable", "[I", (.ref sa)), ("eliminatedVariable", "[I", (.ref ev)), ("eliminatedRow", "[I", (.ref er)), ("slot", "[I", (.ref so)), ("rowCount", "I", rcv)]) (H : HM Z h0 [(va, kva, (.array .int), 4, VL, (.null)), (ca, kca, (.array .double), 4, CL, (.null)), (la, kla, .int, 4, LL, (.int 0)), (ua, kua, (.array .int), 3, UL, (.null)), (uc, kuc, .int, 3, UC, (.int 0)), (sa, ksa, .int, 3, SL, (.int 0)), (rx, krx, .int, 2, [a0, a1], (.int 0)), (ry, kry, .double, 4, [d0, d1, d2, d3], (.double 0))]) : Con l Z (⟨"com/example/markov_reachability/markovreachability/IntervalEquations", "append", "(IIDD)V"⟩ : MethodName) prog_32_method_15_code 9 none ({ frames := 2, cells := 1, slots := 4, locals := 64 } : Room) #[(.ref o), (.int r), (.int v), (.double x), (.double z)] h0 [] (Q0 fun h => Keep h0 h [va, ca, la, ua, uc, sa, rx, ry] ∧ (OB Z h o "com/example/markov_reachability/markovreachability/IntervalEquations" [("ceiling", "D", (.double FP.dconst1)), ("variables", "[[I", (.ref va)), ("coefficients", "[[D", (.ref ca)), ("length", "[I", (.ref la)), ("constant", "[D", (.ref ka)), ("exit", "[D", (.ref ea)), ("eliminating", "[Z", (.ref la2)), ("users", "[[I", (.ref ua)), ("userCount", "[I", (.ref uc)), ("substitutable", "[I", (.ref sa)), ("eliminatedVariable", "[I", (.ref ev)), ("eliminatedRow", "[I", (.ref er)), ("slot", "[I", (.ref so)), ("rowCount", "I", rcv)]) ∧ ∃ (us : Addr) (kus : ClassId), h0.size ≤ us ∧ (HM Z h [(us, kus, .int, 4, [(.int r), (.int 0), (.int 0), (.int 0)], (.int 0)), (va, kva, (.array .int), 4, VL, (.null)), (ca, kca, (.array .double), 4, CL, (.null)), (la, kla, .int, 4, (LL.set r.toNatClampNeg (.int 1)), (.int 0)), (ua, kua, (.array .int), 3, (UL.set v.toNatClampNeg (.ref us)), (.null)), (uc, kuc, .int, 3, (UC.set v.toNatClampNeg (.int 1)), (.int 0)), (sa, ksa, .int, 3, (SL.set v.toNatClampNeg (.int (sv + 1))), (.int 0)), (rx, krx, .int, 2, [(.int v), a1], (.int 0)), (ry, kry, .double, 4, [(.double x), (.double z), d2, d3], (.double 0))])) := by
  refine Con.of (plainFor_of_name pn2) hE ⟨b0, EW.nil⟩ all0 (L0 := #[.val (.ref o), .val (.int r), .val (.int v), .val (.double x), .second, .val (.double z), .second, .unset, .unset]) (fun m => by first | (simp [entryFrame, mkF, argsToLocals, Value.category]; done) | rfl) ?_
  intro p e s m args below meth c T W
  have K0 := Keep.refl h0 [va, ca, la, ua, uc, sa, rx, ry]
  have r4 := own_r4 hr
  have v4 := own_r3 hv
  refine o_aloadN 1 W d7_0 rfl rfl ?_
  refine o_getF 4 W (tw hw 25) (OBJ.get 3 rfl) d7_1 (fun T W => ?_)
  refine o_iloadN 5 W d7_4 rfl ?_
  have G0 : Arv Z _ la kla .int 4 LL (.int 0) := H.get 2 rfl
  refine o_ialoadV 6 W G0 hr hL d7_5 ?_
  refine o_istore 8 W #[.val (.ref o), .val (.int r), .val (.int v), .val (.double x), .second, .val (.double z), .second, .val (.int (0 : Int32)), .unset] d7_6 rfl ?_
  refine o_iload 10 W d7_8 rfl ?_
  refine o_aloadN 11 W d7_10 rfl rfl ?_
  refine o_getF 14 W (tw hw 18) (OBJ.get 1 rfl) d7_11 (fun T W => ?_)
  refine o_iloadN 15 W d7_14 rfl ?_
  have G0 : Arv Z _ va kva (.array .int) 4 VL (.null) := H.get 0 rfl
  refine o_aaloadV 16 W G0 rfl hr hV d7_15 ?_
  have G0 : Arv Z _ rx krx .int 2 [a0, a1] (.int 0) := H.get 6 rfl
  refine o_alenV 17 W G0 d7_16 ?_
  refine o_icY 58 W d7_17 (XT.ii_ne_t (by decide)) ?_
  refine o_aloadN 59 W d7_58 rfl rfl ?_
  refine o_getF 62 W (tw hw 18) (OBJ.get 1 rfl) d7_59 (fun T W => ?_)
  refine o_iloadN 63 W d7_62 rfl ?_
  have G0 : Arv Z _ va kva (.array .int) 4 VL (.null) := H.get 0 rfl
  refine o_aaloadV 64 W G0 rfl hr hV d7_63 ?_
  refine o_iload 66 W d7_64 rfl ?_
  refine o_iloadN 67 W d7_66 rfl ?_
  have G0 : Arv Z _ rx krx .int 2 [a0, a1] (.int 0) := H.get 6 rfl
  refine o_iastore 68 0 W G0 (by decide) rfl (by simp) (H.new? 6 rfl) d7_67 (fun T h W w1 A1 => ?_)
  have OBJ := OBJ.wr (tw hw 6) (H.get 6 rfl) w1
  have H : HM Z h [(va, kva, (.array .int), 4, VL, (.null)), (ca, kca, (.array .double), 4, CL, (.null)), (la, kla, .int, 4, LL, (.int 0)), (ua, kua, (.array .int), 3, UL, (.null)), (uc, kuc, .int, 3, UC, (.int 0)), (sa, ksa, .int, 3, SL, (.int 0)), (rx, krx, .int, 2, [(.int v), a1], (.int 0)), (ry, kry, .double, 4, [d0, d1, d2, d3], (.double 0))] := H.wr 6 rfl w1 A1
  have K0 := K0.wr w1 (Or.inl (by simp))
  refine o_aloadN 69 W d7_68 rfl rfl ?_
  refine o_getF 72 W (tw hw 22) (OBJ.get 2 rfl) d7_69 (fun T W => ?_)
  refine o_iloadN 73 W d7_72 rfl ?_
  have G0 : Arv Z _ ca kca (.array .double) 4 CL (.null) := H.get 1 rfl
  refine o_aaloadV 74 W G0 rfl hr hC d7_73 ?_
  refine o_iconst 75 W (2) d7_74 (by first | rfl | decide) ?_
  refine o_iload 77 W d7_75 rfl ?_
  refine o_imul 78 W d7_77 ?_
  refine o_dloadN 79 W d7_78 rfl ?_
  show Go p e below _ _ (mkF m 79 #[.val (.ref o), .val (.int r), .val (.int v), .val (.double x), .second, .val (.double z), .second, .val (.int (0 : Int32)), .unset] [(.double x), (.int (0 : Int32)), (.ref ry)])
  have G0 : Arv Z _ ry kry .double 4 [d0, d1, d2, d3] (.double 0) := H.get 7 rfl
  refine o_dastore 80 0 W G0 (by decide) rfl (by simp) (H.new? 7 rfl) d7_79 (fun T h W w1 A1 => ?_)
  have OBJ := OBJ.wr (tw hw 6) (H.get 7 rfl) w1
  have H : HM Z h [(va, kva, (.array .int), 4, VL, (.null)), (ca, kca, (.array .double), 4, CL, (.null)), (la, kla, .int, 4, LL, (.int 0)), (ua, kua, (.array .int), 3, UL, (.null)), (uc, kuc, .int, 3, UC, (.int 0)), (sa, ksa, .int, 3, SL, (.int 0)), (rx, krx, .int, 2, [(.int v), a1], (.int 0)), (ry, kry, .double, 4, [(.double x), d1, d2, d3], (.double 0))] := H.wr 7 rfl w1 A1
  have K0 := K0.wr w1 (Or.inl (by simp))
  refine o_aloadN 81 W d7_80 rfl rfl ?_
  refine o_getF 84 W (tw hw 22) (OBJ.get 2 rfl) d7_81 (fun T W => ?_)
  refine o_iloadN 85 W d7_84 rfl ?_
  have G0 : Arv Z _ ca kca (.array .double) 4 CL (.null) := H.get 1 rfl
  refine o_aaloadV 86 W G0 rfl hr hC d7_85 ?_
  refine o_iconst 87 W (2) d7_86 (by first | rfl | decide) ?_
  refine o_iload 89 W d7_87 rfl ?_
  refine o_imul 90 W d7_89 ?_
  refine o_iconst 91 W (1) d7_90 (by first | rfl | decide) ?_
  refine o_iadd 92 W d7_91 ?_
  refine o_dload 94 W d7_92 rfl ?_
  show Go p e below _ _ (mkF m 94 #[.val (.ref o), .val (.int r), .val (.int v), .val (.double x), .second, .val (.double z), .second, .val (.int (0 : Int32)), .unset] [(.double z), (.int (1 : Int32)), (.ref ry)])
  have G0 : Arv Z _ ry kry .double 4 [(.double x), d1, d2, d3] (.double 0) := H.get 7 rfl
  refine o_dastore 95 1 W G0 (by decide) rfl (by simp) (H.new? 7 rfl) d7_94 (fun T h W w1 A1 => ?_)
  have OBJ := OBJ.wr (tw hw 6) (H.get 7 rfl) w1
  have H : HM Z h [(va, kva, (.array .int), 4, VL, (.null)), (ca, kca, (.array .double), 4, CL, (.null)), (la, kla, .int, 4, LL, (.int 0)), (ua, kua, (.array .int), 3, UL, (.null)), (uc, kuc, .int, 3, UC, (.int 0)), (sa, ksa, .int, 3, SL, (.int 0)), (rx, krx, .int, 2, [(.int v), a1], (.int 0)), (ry, kry, .double, 4, [(.double x), (.double z), d2, d3], (.double 0))] := H.wr 7 rfl w1 A1
  have K0 := K0.wr w1 (Or.inl (by simp))
  refine o_aloadN 96 W d7_95 rfl rfl ?_
  refine o_getF 99 W (tw hw 25) (OBJ.get 3 rfl) d7_96 (fun T W => ?_)
  refine o_iloadN 100 W d7_99 rfl ?_
  refine o_iload 102 W d7_100 rfl ?_
  refine o_iconst 103 W (1) d7_102 (by first | rfl | decide) ?_
  refine o_iadd 104 W d7_103 ?_
  show Go p e below _ _ (mkF m 104 #[.val (.ref o), .val (.int r), .val (.int v), .val (.double x), .second, .val (.double z), .second, .val (.int (0 : Int32)), .unset] [(.int (1 : Int32)), (.int r), (.ref la)])
  have G0 : Arv Z _ la kla .int 4 LL (.int 0) := H.get 2 rfl
  refine o_iastore 105 r.toNatClampNeg W G0 hr rfl (by omega) (H.new? 2 rfl) d7_104 (fun T h W w1 A1 => ?_)
  have OBJ := OBJ.wr (tw hw 6) (H.get 2 rfl) w1
  have H : HM Z h [(va, kva, (.array .int), 4, VL, (.null)), (ca, kca, (.array .double), 4, CL, (.null)), (la, kla, .int, 4, (LL.set r.toNatClampNeg (.int 1)), (.int 0)), (ua, kua, (.array .int), 3, UL, (.null)), (uc, kuc, .int, 3, UC, (.int 0)), (sa, ksa, .int, 3, SL, (.int 0)), (rx, krx, .int, 2, [(.int v), a1], (.int 0)), (ry, kry, .double, 4, [(.double x), (.double z), d2, d3], (.double 0))] := H.wr 2 rfl w1 A1
  have K0 := K0.wr w1 (Or.inl (by simp))
  refine o_aloadN 106 W d7_105 rfl rfl ?_
  refine o_getF 109 W (tw hw 37) (OBJ.get 8 rfl) d7_106 (fun T W => ?_)
  refine o_iloadN 110 W d7_109 rfl ?_
  have G0 : Arv Z _ uc kuc .int 3 UC (.int 0) := H.get 4 rfl
  refine o_ialoadV 111 W G0 hv hN d7_110 ?_
  refine o_istore 113 W #[.val (.ref o), .val (.int r), .val (.int v), .val (.double x), .second, .val (.double z), .second, .val (.int (0 : Int32)), .val (.int (0 : Int32))] d7_111 rfl ?_
  refine o_aloadN 114 W d7_113 rfl rfl ?_
  refine o_getF 117 W (tw hw 35) (OBJ.get 7 rfl) d7_114 (fun T W => ?_)
  refine o_iloadN 118 W d7_117 rfl ?_
  have G0 : Arv Z _ ua kua (.array .int) 3 UL (.null) := H.get 3 rfl
  refine o_aaloadV 119 W G0 rfl hv hU d7_118 ?_
  refine o_nnN 122 W d7_119 ?_
  refine o_aloadN 123 W d7_122 rfl rfl ?_
  refine o_getF 126 W (tw hw 35) (OBJ.get 7 rfl) d7_123 (fun T W => ?_)
  refine o_iloadN 127 W d7_126 rfl ?_
  refine o_iconst 128 W (4) d7_127 (by first | rfl | decide) ?_
  refine o_newarrayE 130 4 W (ad := "[I") (by decide) (tw hw 24) d7_128 (by decide) (by decide) (fun T h us kus W Eus Aus Xus gus zus => ?_)
  have Aus : Arv Z h us kus .int 4 [(.int 0), (.int 0), (.int 0), (.int 0)] (.int 0) := own_pad 4 Aus
  have OBJ := OBJ.ext Eus
  have nus := Nat.le_trans K0.1 gus
  have K0 := K0.ext Eus
  have H : HM Z h [(us, kus, .int, 4, [(.int 0), (.int 0), (.int 0), (.int 0)], (.int 0)), (va, kva, (.array .int), 4, VL, (.null)), (ca, kca, (.array .double), 4, CL, (.null)), (la, kla, .int, 4, (LL.set r.toNatClampNeg (.int 1)), (.int 0)), (ua, kua, (.array .int), 3, UL, (.null)), (uc, kuc, .int, 3, UC, (.int 0)), (sa, ksa, .int, 3, SL, (.int 0)), (rx, krx, .int, 2, [(.int v), a1], (.int 0)), (ry, kry, .double, 4, [(.double x), (.double z), d2, d3], (.double 0))] := H.new Eus Aus gus zus
  have G0 : Arv Z _ ua kua (.array .int) 3 UL (.null) := H.get 4 rfl
  refine o_aastore 131 v.toNatClampNeg W G0 (Ins.self Xus) Oua hv rfl (by omega) (H.new? 4 rfl) d7_130 (fun T h W w1 A1 => ?_)
  have OBJ := OBJ.wr (tw hw 6) (H.get 4 rfl) w1
  have H : HM Z h [(us, kus, .int, 4, [(.int 0), (.int 0), (.int 0), (.int 0)], (.int 0)), (va, kva, (.array .int), 4, VL, (.null)), (ca, kca, (.array .double), 4, CL, (.null)), (la, kla, .int, 4, (LL.set r.toNatClampNeg (.int 1)), (.int 0)), (ua, kua, (.array .int), 3, (UL.set v.toNatClampNeg (.ref us)), (.null)), (uc, kuc, .int, 3, UC, (.int 0)), (sa, ksa, .int, 3, SL, (.int 0)), (rx, krx, .int, 2, [(.int v), a1], (.int 0)), (ry, kry, .double, 4, [(.double x), (.double z), d2, d3], (.double 0))] := H.wr 4 rfl w1 A1
  have K0 := K0.wr w1 (Or.inl (by simp))
  refine o_goto 165 W d7_131 ?_
  refine o_aloadN 166 W d7_165 rfl rfl ?_
  refine o_getF 169 W (tw hw 35) (OBJ.get 7 rfl) d7_166 (fun T W => ?_)
  refine o_iloadN 170 W d7_169 rfl ?_
  have G0 : Arv Z _ ua kua (.array .int) 3 (UL.set v.toNatClampNeg (.ref us)) (.null) := H.get 4 rfl
  refine o_aaloadV 171 W G0 rfl hv (own_gset (by omega)) d7_170 ?_
  refine o_iload 173 W d7_171 rfl ?_
  refine o_iloadN 174 W d7_173 rfl ?_
  have G0 : Arv Z _ us kus .int 4 [(.int 0), (.int 0), (.int 0), (.int 0)] (.int 0) := H.get 0 rfl
  refine o_iastore 175 0 W G0 (by decide) rfl (by simp) (H.new? 0 rfl) d7_174 (fun T h W w1 A1 => ?_)
  have OBJ := OBJ.wr (tw hw 6) (H.get 0 rfl) w1
  have H : HM Z h [(us, kus, .int, 4, [(.int r), (.int 0), (.int 0), (.int 0)], (.int 0)), (va, kva, (.array .int), 4, VL, (.null)), (ca, kca, (.array .double), 4, CL, (.null)), (la, kla, .int, 4, (LL.set r.toNatClampNeg (.int 1)), (.int 0)), (ua, kua, (.array .int), 3, (UL.set v.toNatClampNeg (.ref us)), (.null)), (uc, kuc, .int, 3, UC, (.int 0)), (sa, ksa, .int, 3, SL, (.int 0)), (rx, krx, .int, 2, [(.int v), a1], (.int 0)), (ry, kry, .double, 4, [(.double x), (.double z), d2, d3], (.double 0))] := H.wr 0 rfl w1 A1
  have K0 := K0.wr w1 (Or.inr nus)
  refine o_aloadN 176 W d7_175 rfl rfl ?_
  refine o_getF 179 W (tw hw 37) (OBJ.get 8 rfl) d7_176 (fun T W => ?_)
  refine o_iloadN 180 W d7_179 rfl ?_
  refine o_iload 182 W d7_180 rfl ?_
  refine o_iconst 183 W (1) d7_182 (by first | rfl | decide) ?_
  refine o_iadd 184 W d7_183 ?_
  show Go p e below _ _ (mkF m 184 #[.val (.ref o), .val (.int r), .val (.int v), .val (.double x), .second, .val (.double z), .second, .val (.int (0 : Int32)), .val (.int (0 : Int32))] [(.int (1 : Int32)), (.int v), (.ref uc)])
  have G0 : Arv Z _ uc kuc .int 3 UC (.int 0) := H.get 5 rfl
  refine o_iastore 185 v.toNatClampNeg W G0 hv rfl (by omega) (H.new? 5 rfl) d7_184 (fun T h W w1 A1 => ?_)
  have OBJ := OBJ.wr (tw hw 6) (H.get 5 rfl) w1
  have H : HM Z h [(us, kus, .int, 4, [(.int r), (.int 0), (.int 0), (.int 0)], (.int 0)), (va, kva, (.array .int), 4, VL, (.null)), (ca, kca, (.array .double), 4, CL, (.null)), (la, kla, .int, 4, (LL.set r.toNatClampNeg (.int 1)), (.int 0)), (ua, kua, (.array .int), 3, (UL.set v.toNatClampNeg (.ref us)), (.null)), (uc, kuc, .int, 3, (UC.set v.toNatClampNeg (.int 1)), (.int 0)), (sa, ksa, .int, 3, SL, (.int 0)), (rx, krx, .int, 2, [(.int v), a1], (.int 0)), (ry, kry, .double, 4, [(.double x), (.double z), d2, d3], (.double 0))] := H.wr 5 rfl w1 A1
  have K0 := K0.wr w1 (Or.inl (by simp))
  refine o_aloadN 186 W d7_185 rfl rfl ?_
  refine o_getF 189 W (tw hw 39) (OBJ.get 9 rfl) d7_186 (fun T W => ?_)
  refine o_iloadN 190 W d7_189 rfl ?_
  refine o_dup2 191 W d7_190 rfl rfl ?_
  have G0 : Arv Z _ sa ksa .int 3 SL (.int 0) := H.get 6 rfl
  refine o_ialoadV 192 W G0 hv hS d7_191 ?_
  refine o_iconst 193 W (1) d7_192 (by first | rfl | decide) ?_
  refine o_iadd 194 W d7_193 ?_
  have G0 : Arv Z _ sa ksa .int 3 SL (.int 0) := H.get 6 rfl
  refine o_iastore 195 v.toNatClampNeg W G0 hv rfl (by omega) (H.new? 6 rfl) d7_194 (fun T h W w1 A1 => ?_)
  have OBJ := OBJ.wr (tw hw 6) (H.get 6 rfl) w1
  have H : HM Z h [(us, kus, .int, 4, [(.int r), (.int 0), (.int 0), (.int 0)], (.int 0)), (va, kva, (.array .int), 4, VL, (.null)), (ca, kca, (.array .double), 4, CL, (.null)), (la, kla, .int, 4, (LL.set r.toNatClampNeg (.int 1)), (.int 0)), (ua, kua, (.array .int), 3, (UL.set v.toNatClampNeg (.ref us)), (.null)), (uc, kuc, .int, 3, (UC.set v.toNatClampNeg (.int 1)), (.int 0)), (sa, ksa, .int, 3, (SL.set v.toNatClampNeg (.int (sv + 1))), (.int 0)), (rx, krx, .int, 2, [(.int v), a1], (.int 0)), (ry, kry, .double, 4, [(.double x), (.double z), d2, d3], (.double 0))] := H.wr 6 rfl w1 A1
  have K0 := K0.wr w1 (Or.inl (by simp))
  exact o_ret W d7_195 (⟨K0, OBJ, us, kus, nus, H⟩)
theorem con_appA1 (l : Launch) (Z : State) (b0 : Array Value) (hw : ∀ d ∈ tables_1, d.before b0 Z = true) (o va ca la ka ea la2 ua uc sa ev er so rx ry : Addr) (kva kca kla kka kea kla2 kua kuc ksa kev ker kso krx kry : ClassId) (rcv : Value) (r v sv : Int32) (x z : UInt64) (VL CL LL UL UC SL : List Value) (a0 a1 d0 d1 d2 d3 : Value) (hr : ¬ r < 0 ∧ r < 4) (hv : ¬ v < 0 ∧ v < 3) (lV : VL.length = 4) (lC : CL.length = 4) (lL : LL.length = 4) (lU : UL.length = 3) (lN : UC.length = 3) (lS : SL.length = 3) (hV : VL.getD r.toNatClampNeg (.null) = .ref rx) (hC : CL.getD r.toNatClampNeg (.null) = .ref ry) (hL : LL.getD r.toNatClampNeg (.int 0) = .int 1) (hU : UL.getD v.toNatClampNeg (.null) = .null) (hN : UC.getD v.toNatClampNeg (.int 0) = .int 0) (hS : SL.getD v.toNatClampNeg (.int 0) = .int sv) (Ova : OvrA Z kva .int "[I") (Oca : OvrA Z kca .double "[D") (Oua : OvrA Z kua .int "[I") (h0 : Heap) (hE : Ext Z.heap h0) (OBJ : OB Z h0 o "com/example/markov_reachability/markovreachability/IntervalEquations" [("ceiling", "D", (.double FP.dconst1)), ("variables", "[[I", (.ref va)), ("coefficients", "[[D", (.ref ca)), ("length", "[I", (.ref la)), ("constant", "[D", (.ref ka)), ("exit", "[D", (.ref ea)), ("eliminating", "[Z", (.ref la2)), ("users", "[[I", (.ref ua)), ("userCount", "[I", (.ref uc)), ("substitutable", "[I", (.ref sa)), ("eliminatedVariable", "[I", (.ref ev)), ("eliminatedRow", "[I", (.ref er)), ("slot", "[I", (.ref so)), ("rowCount", "I", rcv)]) (H : HM Z h0 [(va, kva, (.array .int), 4, VL, (.null)), (ca, kca, (.array .double), 4, CL, (.null)), (la, kla, .int, 4, LL, (.int 0)), (ua, kua, (.array .int), 3, UL, (.null)), (uc, kuc, .int, 3, UC, (.int 0)), (sa, ksa, .int, 3, SL, (.int 0)), (rx, krx, .int, 2, [a0, a1], (.int 0)), (ry, kry, .double, 4, [d0, d1, d2, d3], (.double 0))]) : Con l Z (⟨"com/example/markov_reachability/markovreachability/IntervalEquations", "append", "(IIDD)V"⟩ : MethodName) prog_32_method_15_code 9 none ({ frames := 2, cells := 1, slots := 4, locals := 64 } : Room) #[(.ref o), (.int r), (.int v), (.double x), (.double z)] h0 [] (Q0 fun h => Keep h0 h [va, ca, la, ua, uc, sa, rx, ry] ∧ (OB Z h o "com/example/markov_reachability/markovreachability/IntervalEquations" [("ceiling", "D", (.double FP.dconst1)), ("variables", "[[I", (.ref va)), ("coefficients", "[[D", (.ref ca)), ("length", "[I", (.ref la)), ("constant", "[D", (.ref ka)), ("exit", "[D", (.ref ea)), ("eliminating", "[Z", (.ref la2)), ("users", "[[I", (.ref ua)), ("userCount", "[I", (.ref uc)), ("substitutable", "[I", (.ref sa)), ("eliminatedVariable", "[I", (.ref ev)), ("eliminatedRow", "[I", (.ref er)), ("slot", "[I", (.ref so)), ("rowCount", "I", rcv)]) ∧ ∃ (us : Addr) (kus : ClassId), h0.size ≤ us ∧ (HM Z h [(us, kus, .int, 4, [(.int r), (.int 0), (.int 0), (.int 0)], (.int 0)), (va, kva, (.array .int), 4, VL, (.null)), (ca, kca, (.array .double), 4, CL, (.null)), (la, kla, .int, 4, (LL.set r.toNatClampNeg (.int 2)), (.int 0)), (ua, kua, (.array .int), 3, (UL.set v.toNatClampNeg (.ref us)), (.null)), (uc, kuc, .int, 3, (UC.set v.toNatClampNeg (.int 1)), (.int 0)), (sa, ksa, .int, 3, (SL.set v.toNatClampNeg (.int (sv + 1))), (.int 0)), (rx, krx, .int, 2, [a0, (.int v)], (.int 0)), (ry, kry, .double, 4, [d0, d1, (.double x), (.double z)], (.double 0))])) := by
  refine Con.of (plainFor_of_name pn2) hE ⟨b0, EW.nil⟩ all0 (L0 := #[.val (.ref o), .val (.int r), .val (.int v), .val (.double x), .second, .val (.double z), .second, .unset, .unset]) (fun m => by first | (simp [entryFrame, mkF, argsToLocals, Value.category]; done) | rfl) ?_
  intro p e s m args below meth c T W
  have K0 := Keep.refl h0 [va, ca, la, ua, uc, sa, rx, ry]
  have r4 := own_r4 hr
  have v4 := own_r3 hv
  refine o_aloadN 1 W d7_0 rfl rfl ?_
  refine o_getF 4 W (tw hw 25) (OBJ.get 3 rfl) d7_1 (fun T W => ?_)
  refine o_iloadN 5 W d7_4 rfl ?_
  have G0 : Arv Z _ la kla .int 4 LL (.int 0) := H.get 2 rfl
  refine o_ialoadV 6 W G0 hr hL d7_5 ?_
  refine o_istore 8 W #[.val (.ref o), .val (.int r), .val (.int v), .val (.double x), .second, .val (.double z), .second, .val (.int (1 : Int32)), .unset] d7_6 rfl ?_
  refine o_iload 10 W d7_8 rfl ?_
  refine o_aloadN 11 W d7_10 rfl rfl ?_
  refine o_getF 14 W (tw hw 18) (OBJ.get 1 rfl) d7_11 (fun T W => ?_)
  refine o_iloadN 15 W d7_14 rfl ?_
  have G0 : Arv Z _ va kva (.array .int) 4 VL (.null) := H.get 0 rfl
  refine o_aaloadV 16 W G0 rfl hr hV d7_15 ?_
  have G0 : Arv Z _ rx krx .int 2 [a0, a1] (.int 0) := H.get 6 rfl
  refine o_alenV 17 W G0 d7_16 ?_
  refine o_icY 58 W d7_17 (XT.ii_ne_t (by decide)) ?_
  refine o_aloadN 59 W d7_58 rfl rfl ?_
  refine o_getF 62 W (tw hw 18) (OBJ.get 1 rfl) d7_59 (fun T W => ?_)
  refine o_iloadN 63 W d7_62 rfl ?_
  have G0 : Arv Z _ va kva (.array .int) 4 VL (.null) := H.get 0 rfl
  refine o_aaloadV 64 W G0 rfl hr hV d7_63 ?_
  refine o_iload 66 W d7_64 rfl ?_
  refine o_iloadN 67 W d7_66 rfl ?_
  have G0 : Arv Z _ rx krx .int 2 [a0, a1] (.int 0) := H.get 6 rfl
  refine o_iastore 68 1 W G0 (by decide) rfl (by simp) (H.new? 6 rfl) d7_67 (fun T h W w1 A1 => ?_)
  have OBJ := OBJ.wr (tw hw 6) (H.get 6 rfl) w1
  have H : HM Z h [(va, kva, (.array .int), 4, VL, (.null)), (ca, kca, (.array .double), 4, CL, (.null)), (la, kla, .int, 4, LL, (.int 0)), (ua, kua, (.array .int), 3, UL, (.null)), (uc, kuc, .int, 3, UC, (.int 0)), (sa, ksa, .int, 3, SL, (.int 0)), (rx, krx, .int, 2, [a0, (.int v)], (.int 0)), (ry, kry, .double, 4, [d0, d1, d2, d3], (.double 0))] := H.wr 6 rfl w1 A1
  have K0 := K0.wr w1 (Or.inl (by simp))
  refine o_aloadN 69 W d7_68 rfl rfl ?_
  refine o_getF 72 W (tw hw 22) (OBJ.get 2 rfl) d7_69 (fun T W => ?_)
  refine o_iloadN 73 W d7_72 rfl ?_
  have G0 : Arv Z _ ca kca (.array .double) 4 CL (.null) := H.get 1 rfl
  refine o_aaloadV 74 W G0 rfl hr hC d7_73 ?_
  refine o_iconst 75 W (2) d7_74 (by first | rfl | decide) ?_
  refine o_iload 77 W d7_75 rfl ?_
  refine o_imul 78 W d7_77 ?_
  refine o_dloadN 79 W d7_78 rfl ?_
  show Go p e below _ _ (mkF m 79 #[.val (.ref o), .val (.int r), .val (.int v), .val (.double x), .second, .val (.double z), .second, .val (.int (1 : Int32)), .unset] [(.double x), (.int (2 : Int32)), (.ref ry)])
  have G0 : Arv Z _ ry kry .double 4 [d0, d1, d2, d3] (.double 0) := H.get 7 rfl
  refine o_dastore 80 2 W G0 (by decide) rfl (by simp) (H.new? 7 rfl) d7_79 (fun T h W w1 A1 => ?_)
  have OBJ := OBJ.wr (tw hw 6) (H.get 7 rfl) w1
  have H : HM Z h [(va, kva, (.array .int), 4, VL, (.null)), (ca, kca, (.array .double), 4, CL, (.null)), (la, kla, .int, 4, LL, (.int 0)), (ua, kua, (.array .int), 3, UL, (.null)), (uc, kuc, .int, 3, UC, (.int 0)), (sa, ksa, .int, 3, SL, (.int 0)), (rx, krx, .int, 2, [a0, (.int v)], (.int 0)), (ry, kry, .double, 4, [d0, d1, (.double x), d3], (.double 0))] := H.wr 7 rfl w1 A1
  have K0 := K0.wr w1 (Or.inl (by simp))
  refine o_aloadN 81 W d7_80 rfl rfl ?_
  refine o_getF 84 W (tw hw 22) (OBJ.get 2 rfl) d7_81 (fun T W => ?_)
  refine o_iloadN 85 W d7_84 rfl ?_
  have G0 : Arv Z _ ca kca (.array .double) 4 CL (.null) := H.get 1 rfl
  refine o_aaloadV 86 W G0 rfl hr hC d7_85 ?_
  refine o_iconst 87 W (2) d7_86 (by first | rfl | decide) ?_
  refine o_iload 89 W d7_87 rfl ?_
  refine o_imul 90 W d7_89 ?_
  refine o_iconst 91 W (1) d7_90 (by first | rfl | decide) ?_
  refine o_iadd 92 W d7_91 ?_
  refine o_dload 94 W d7_92 rfl ?_
  show Go p e below _ _ (mkF m 94 #[.val (.ref o), .val (.int r), .val (.int v), .val (.double x), .second, .val (.double z), .second, .val (.int (1 : Int32)), .unset] [(.double z), (.int (3 : Int32)), (.ref ry)])
  have G0 : Arv Z _ ry kry .double 4 [d0, d1, (.double x), d3] (.double 0) := H.get 7 rfl
  refine o_dastore 95 3 W G0 (by decide) rfl (by simp) (H.new? 7 rfl) d7_94 (fun T h W w1 A1 => ?_)
  have OBJ := OBJ.wr (tw hw 6) (H.get 7 rfl) w1
  have H : HM Z h [(va, kva, (.array .int), 4, VL, (.null)), (ca, kca, (.array .double), 4, CL, (.null)), (la, kla, .int, 4, LL, (.int 0)), (ua, kua, (.array .int), 3, UL, (.null)), (uc, kuc, .int, 3, UC, (.int 0)), (sa, ksa, .int, 3, SL, (.int 0)), (rx, krx, .int, 2, [a0, (.int v)], (.int 0)), (ry, kry, .double, 4, [d0, d1, (.double x), (.double z)], (.double 0))] := H.wr 7 rfl w1 A1
  have K0 := K0.wr w1 (Or.inl (by simp))
  refine o_aloadN 96 W d7_95 rfl rfl ?_
  refine o_getF 99 W (tw hw 25) (OBJ.get 3 rfl) d7_96 (fun T W => ?_)
  refine o_iloadN 100 W d7_99 rfl ?_
  refine o_iload 102 W d7_100 rfl ?_
  refine o_iconst 103 W (1) d7_102 (by first | rfl | decide) ?_
  refine o_iadd 104 W d7_103 ?_
  show Go p e below _ _ (mkF m 104 #[.val (.ref o), .val (.int r), .val (.int v), .val (.double x), .second, .val (.double z), .second, .val (.int (1 : Int32)), .unset] [(.int (2 : Int32)), (.int r), (.ref la)])
  have G0 : Arv Z _ la kla .int 4 LL (.int 0) := H.get 2 rfl
  refine o_iastore 105 r.toNatClampNeg W G0 hr rfl (by omega) (H.new? 2 rfl) d7_104 (fun T h W w1 A1 => ?_)
  have OBJ := OBJ.wr (tw hw 6) (H.get 2 rfl) w1
  have H : HM Z h [(va, kva, (.array .int), 4, VL, (.null)), (ca, kca, (.array .double), 4, CL, (.null)), (la, kla, .int, 4, (LL.set r.toNatClampNeg (.int 2)), (.int 0)), (ua, kua, (.array .int), 3, UL, (.null)), (uc, kuc, .int, 3, UC, (.int 0)), (sa, ksa, .int, 3, SL, (.int 0)), (rx, krx, .int, 2, [a0, (.int v)], (.int 0)), (ry, kry, .double, 4, [d0, d1, (.double x), (.double z)], (.double 0))] := H.wr 2 rfl w1 A1
  have K0 := K0.wr w1 (Or.inl (by simp))
  refine o_aloadN 106 W d7_105 rfl rfl ?_
  refine o_getF 109 W (tw hw 37) (OBJ.get 8 rfl) d7_106 (fun T W => ?_)
  refine o_iloadN 110 W d7_109 rfl ?_
  have G0 : Arv Z _ uc kuc .int 3 UC (.int 0) := H.get 4 rfl
  refine o_ialoadV 111 W G0 hv hN d7_110 ?_
  refine o_istore 113 W #[.val (.ref o), .val (.int r), .val (.int v), .val (.double x), .second, .val (.double z), .second, .val (.int (1 : Int32)), .val (.int (0 : Int32))] d7_111 rfl ?_
  refine o_aloadN 114 W d7_113 rfl rfl ?_
  refine o_getF 117 W (tw hw 35) (OBJ.get 7 rfl) d7_114 (fun T W => ?_)
  refine o_iloadN 118 W d7_117 rfl ?_
  have G0 : Arv Z _ ua kua (.array .int) 3 UL (.null) := H.get 3 rfl
  refine o_aaloadV 119 W G0 rfl hv hU d7_118 ?_
  refine o_nnN 122 W d7_119 ?_
  refine o_aloadN 123 W d7_122 rfl rfl ?_
  refine o_getF 126 W (tw hw 35) (OBJ.get 7 rfl) d7_123 (fun T W => ?_)
  refine o_iloadN 127 W d7_126 rfl ?_
  refine o_iconst 128 W (4) d7_127 (by first | rfl | decide) ?_
  refine o_newarrayE 130 4 W (ad := "[I") (by decide) (tw hw 24) d7_128 (by decide) (by decide) (fun T h us kus W Eus Aus Xus gus zus => ?_)
  have Aus : Arv Z h us kus .int 4 [(.int 0), (.int 0), (.int 0), (.int 0)] (.int 0) := own_pad 4 Aus
  have OBJ := OBJ.ext Eus
  have nus := Nat.le_trans K0.1 gus
  have K0 := K0.ext Eus
  have H : HM Z h [(us, kus, .int, 4, [(.int 0), (.int 0), (.int 0), (.int 0)], (.int 0)), (va, kva, (.array .int), 4, VL, (.null)), (ca, kca, (.array .double), 4, CL, (.null)), (la, kla, .int, 4, (LL.set r.toNatClampNeg (.int 2)), (.int 0)), (ua, kua, (.array .int), 3, UL, (.null)), (uc, kuc, .int, 3, UC, (.int 0)), (sa, ksa, .int, 3, SL, (.int 0)), (rx, krx, .int, 2, [a0, (.int v)], (.int 0)), (ry, kry, .double, 4, [d0, d1, (.double x), (.double z)], (.double 0))] := H.new Eus Aus gus zus
  have G0 : Arv Z _ ua kua (.array .int) 3 UL (.null) := H.get 4 rfl
  refine o_aastore 131 v.toNatClampNeg W G0 (Ins.self Xus) Oua hv rfl (by omega) (H.new? 4 rfl) d7_130 (fun T h W w1 A1 => ?_)
  have OBJ := OBJ.wr (tw hw 6) (H.get 4 rfl) w1
  have H : HM Z h [(us, kus, .int, 4, [(.int 0), (.int 0), (.int 0), (.int 0)], (.int 0)), (va, kva, (.array .int), 4, VL, (.null)), (ca, kca, (.array .double), 4, CL, (.null)), (la, kla, .int, 4, (LL.set r.toNatClampNeg (.int 2)), (.int 0)), (ua, kua, (.array .int), 3, (UL.set v.toNatClampNeg (.ref us)), (.null)), (uc, kuc, .int, 3, UC, (.int 0)), (sa, ksa, .int, 3, SL, (.int 0)), (rx, krx, .int, 2, [a0, (.int v)], (.int 0)), (ry, kry, .double, 4, [d0, d1, (.double x), (.double z)], (.double 0))] := H.wr 4 rfl w1 A1
  have K0 := K0.wr w1 (Or.inl (by simp))
  refine o_goto 165 W d7_131 ?_
  refine o_aloadN 166 W d7_165 rfl rfl ?_
  refine o_getF 169 W (tw hw 35) (OBJ.get 7 rfl) d7_166 (fun T W => ?_)
  refine o_iloadN 170 W d7_169 rfl ?_
  have G0 : Arv Z _ ua kua (.array .int) 3 (UL.set v.toNatClampNeg (.ref us)) (.null) := H.get 4 rfl
  refine o_aaloadV 171 W G0 rfl hv (own_gset (by omega)) d7_170 ?_
  refine o_iload 173 W d7_171 rfl ?_
  refine o_iloadN 174 W d7_173 rfl ?_
  have G0 : Arv Z _ us kus .int 4 [(.int 0), (.int 0), (.int 0), (.int 0)] (.int 0) := H.get 0 rfl
  refine o_iastore 175 0 W G0 (by decide) rfl (by simp) (H.new? 0 rfl) d7_174 (fun T h W w1 A1 => ?_)
  have OBJ := OBJ.wr (tw hw 6) (H.get 0 rfl) w1
  have H : HM Z h [(us, kus, .int, 4, [(.int r), (.int 0), (.int 0), (.int 0)], (.int 0)), (va, kva, (.array .int), 4, VL, (.null)), (ca, kca, (.array .double), 4, CL, (.null)), (la, kla, .int, 4, (LL.set r.toNatClampNeg (.int 2)), (.int 0)), (ua, kua, (.array .int), 3, (UL.set v.toNatClampNeg (.ref us)), (.null)), (uc, kuc, .int, 3, UC, (.int 0)), (sa, ksa, .int, 3, SL, (.int 0)), (rx, krx, .int, 2, [a0, (.int v)], (.int 0)), (ry, kry, .double, 4, [d0, d1, (.double x), (.double z)], (.double 0))] := H.wr 0 rfl w1 A1
  have K0 := K0.wr w1 (Or.inr nus)
  refine o_aloadN 176 W d7_175 rfl rfl ?_
  refine o_getF 179 W (tw hw 37) (OBJ.get 8 rfl) d7_176 (fun T W => ?_)
  refine o_iloadN 180 W d7_179 rfl ?_
  refine o_iload 182 W d7_180 rfl ?_
  refine o_iconst 183 W (1) d7_182 (by first | rfl | decide) ?_
  refine o_iadd 184 W d7_183 ?_
  show Go p e below _ _ (mkF m 184 #[.val (.ref o), .val (.int r), .val (.int v), .val (.double x), .second, .val (.double z), .second, .val (.int (1 : Int32)), .val (.int (0 : Int32))] [(.int (1 : Int32)), (.int v), (.ref uc)])
  have G0 : Arv Z _ uc kuc .int 3 UC (.int 0) := H.get 5 rfl
  refine o_iastore 185 v.toNatClampNeg W G0 hv rfl (by omega) (H.new? 5 rfl) d7_184 (fun T h W w1 A1 => ?_)
  have OBJ := OBJ.wr (tw hw 6) (H.get 5 rfl) w1
  have H : HM Z h [(us, kus, .int, 4, [(.int r), (.int 0), (.int 0), (.int 0)], (.int 0)), (va, kva, (.array .int), 4, VL, (.null)), (ca, kca, (.array .double), 4, CL, (.null)), (la, kla, .int, 4, (LL.set r.toNatClampNeg (.int 2)), (.int 0)), (ua, kua, (.array .int), 3, (UL.set v.toNatClampNeg (.ref us)), (.null)), (uc, kuc, .int, 3, (UC.set v.toNatClampNeg (.int 1)), (.int 0)), (sa, ksa, .int, 3, SL, (.int 0)), (rx, krx, .int, 2, [a0, (.int v)], (.int 0)), (ry, kry, .double, 4, [d0, d1, (.double x), (.double z)], (.double 0))] := H.wr 5 rfl w1 A1
  have K0 := K0.wr w1 (Or.inl (by simp))
  refine o_aloadN 186 W d7_185 rfl rfl ?_
  refine o_getF 189 W (tw hw 39) (OBJ.get 9 rfl) d7_186 (fun T W => ?_)
  refine o_iloadN 190 W d7_189 rfl ?_
  refine o_dup2 191 W d7_190 rfl rfl ?_
  have G0 : Arv Z _ sa ksa .int 3 SL (.int 0) := H.get 6 rfl
  refine o_ialoadV 192 W G0 hv hS d7_191 ?_
  refine o_iconst 193 W (1) d7_192 (by first | rfl | decide) ?_
  refine o_iadd 194 W d7_193 ?_
  have G0 : Arv Z _ sa ksa .int 3 SL (.int 0) := H.get 6 rfl
  refine o_iastore 195 v.toNatClampNeg W G0 hv rfl (by omega) (H.new? 6 rfl) d7_194 (fun T h W w1 A1 => ?_)
  have OBJ := OBJ.wr (tw hw 6) (H.get 6 rfl) w1
  have H : HM Z h [(us, kus, .int, 4, [(.int r), (.int 0), (.int 0), (.int 0)], (.int 0)), (va, kva, (.array .int), 4, VL, (.null)), (ca, kca, (.array .double), 4, CL, (.null)), (la, kla, .int, 4, (LL.set r.toNatClampNeg (.int 2)), (.int 0)), (ua, kua, (.array .int), 3, (UL.set v.toNatClampNeg (.ref us)), (.null)), (uc, kuc, .int, 3, (UC.set v.toNatClampNeg (.int 1)), (.int 0)), (sa, ksa, .int, 3, (SL.set v.toNatClampNeg (.int (sv + 1))), (.int 0)), (rx, krx, .int, 2, [a0, (.int v)], (.int 0)), (ry, kry, .double, 4, [d0, d1, (.double x), (.double z)], (.double 0))] := H.wr 6 rfl w1 A1
  have K0 := K0.wr w1 (Or.inl (by simp))
  exact o_ret W d7_195 (⟨K0, OBJ, us, kus, nus, H⟩)
theorem con_appB0 (l : Launch) (Z : State) (b0 : Array Value) (hw : ∀ d ∈ tables_1, d.before b0 Z = true) (o va ca la ka ea la2 ua uc sa ev er so rx ry us : Addr) (kva kca kla kka kea kla2 kua kuc ksa kev ker kso krx kry kus : ClassId) (rcv : Value) (r v sv : Int32) (x z : UInt64) (VL CL LL UL UC SL : List Value) (a0 a1 d0 d1 d2 d3 y0 y1 y2 y3 : Value) (hr : ¬ r < 0 ∧ r < 4) (hv : ¬ v < 0 ∧ v < 3) (lV : VL.length = 4) (lC : CL.length = 4) (lL : LL.length = 4) (lU : UL.length = 3) (lN : UC.length = 3) (lS : SL.length = 3) (hV : VL.getD r.toNatClampNeg (.null) = .ref rx) (hC : CL.getD r.toNatClampNeg (.null) = .ref ry) (hL : LL.getD r.toNatClampNeg (.int 0) = .int 0) (hU : UL.getD v.toNatClampNeg (.null) = .ref us) (hN : UC.getD v.toNatClampNeg (.int 0) = .int 1) (hS : SL.getD v.toNatClampNeg (.int 0) = .int sv) (Ova : OvrA Z kva .int "[I") (Oca : OvrA Z kca .double "[D") (Oua : OvrA Z kua .int "[I") (h0 : Heap) (hE : Ext Z.heap h0) (OBJ : OB Z h0 o "com/example/markov_reachability/markovreachability/IntervalEquations" [("ceiling", "D", (.double FP.dconst1)), ("variables", "[[I", (.ref va)), ("coefficients", "[[D", (.ref ca)), ("length", "[I", (.ref la)), ("constant", "[D", (.ref ka)), ("exit", "[D", (.ref ea)), ("eliminating", "[Z", (.ref la2)), ("users", "[[I", (.ref ua)), ("userCount", "[I", (.ref uc)), ("substitutable", "[I", (.ref sa)), ("eliminatedVariable", "[I", (.ref ev)), ("eliminatedRow", "[I", (.ref er)), ("slot", "[I", (.ref so)), ("rowCount", "I", rcv)]) (H : HM Z h0 [(va, kva, (.array .int), 4, VL, (.null)), (ca, kca, (.array .double), 4, CL, (.null)), (la, kla, .int, 4, LL, (.int 0)), (ua, kua, (.array .int), 3, UL, (.null)), (uc, kuc, .int, 3, UC, (.int 0)), (sa, ksa, .int, 3, SL, (.int 0)), (rx, krx, .int, 2, [a0, a1], (.int 0)), (ry, kry, .double, 4, [d0, d1, d2, d3], (.double 0)), (us, kus, .int, 4, [y0, y1, y2, y3], (.int 0))]) : Con l Z (⟨"com/example/markov_reachability/markovreachability/IntervalEquations", "append", "(IIDD)V"⟩ : MethodName) prog_32_method_15_code 9 none ({ frames := 2, cells := 1, slots := 4, locals := 64 } : Room) #[(.ref o), (.int r), (.int v), (.double x), (.double z)] h0 [] (Q0 fun h => Keep h0 h [va, ca, la, ua, uc, sa, rx, ry, us] ∧ (OB Z h o "com/example/markov_reachability/markovreachability/IntervalEquations" [("ceiling", "D", (.double FP.dconst1)), ("variables", "[[I", (.ref va)), ("coefficients", "[[D", (.ref ca)), ("length", "[I", (.ref la)), ("constant", "[D", (.ref ka)), ("exit", "[D", (.ref ea)), ("eliminating", "[Z", (.ref la2)), ("users", "[[I", (.ref ua)), ("userCount", "[I", (.ref uc)), ("substitutable", "[I", (.ref sa)), ("eliminatedVariable", "[I", (.ref ev)), ("eliminatedRow", "[I", (.ref er)), ("slot", "[I", (.ref so)), ("rowCount", "I", rcv)]) ∧ (HM Z h [(va, kva, (.array .int), 4, VL, (.null)), (ca, kca, (.array .double), 4, CL, (.null)), (la, kla, .int, 4, (LL.set r.toNatClampNeg (.int 1)), (.int 0)), (ua, kua, (.array .int), 3, UL, (.null)), (uc, kuc, .int, 3, (UC.set v.toNatClampNeg (.int 2)), (.int 0)), (sa, ksa, .int, 3, (SL.set v.toNatClampNeg (.int (sv + 1))), (.int 0)), (rx, krx, .int, 2, [(.int v), a1], (.int 0)), (ry, kry, .double, 4, [(.double x), (.double z), d2, d3], (.double 0)), (us, kus, .int, 4, [y0, (.int r), y2, y3], (.int 0))])) := by
  refine Con.of (plainFor_of_name pn2) hE ⟨b0, EW.nil⟩ all0 (L0 := #[.val (.ref o), .val (.int r), .val (.int v), .val (.double x), .second, .val (.double z), .second, .unset, .unset]) (fun m => by first | (simp [entryFrame, mkF, argsToLocals, Value.category]; done) | rfl) ?_
  intro p e s m args below meth c T W
  have K0 := Keep.refl h0 [va, ca, la, ua, uc, sa, rx, ry, us]
  have r4 := own_r4 hr
  have v4 := own_r3 hv
  refine o_aloadN 1 W d7_0 rfl rfl ?_
  refine o_getF 4 W (tw hw 25) (OBJ.get 3 rfl) d7_1 (fun T W => ?_)
  refine o_iloadN 5 W d7_4 rfl ?_
  have G0 : Arv Z _ la kla .int 4 LL (.int 0) := H.get 2 rfl
  refine o_ialoadV 6 W G0 hr hL d7_5 ?_
  refine o_istore 8 W #[.val (.ref o), .val (.int r), .val (.int v), .val (.double x), .second, .val (.double z), .second, .val (.int (0 : Int32)), .unset] d7_6 rfl ?_
  refine o_iload 10 W d7_8 rfl ?_
  refine o_aloadN 11 W d7_10 rfl rfl ?_
  refine o_getF 14 W (tw hw 18) (OBJ.get 1 rfl) d7_11 (fun T W => ?_)
  refine o_iloadN 15 W d7_14 rfl ?_
  have G0 : Arv Z _ va kva (.array .int) 4 VL (.null) := H.get 0 rfl
  refine o_aaloadV 16 W G0 rfl hr hV d7_15 ?_
  have G0 : Arv Z _ rx krx .int 2 [a0, a1] (.int 0) := H.get 6 rfl
  refine o_alenV 17 W G0 d7_16 ?_
  refine o_icY 58 W d7_17 (XT.ii_ne_t (by decide)) ?_
  refine o_aloadN 59 W d7_58 rfl rfl ?_
  refine o_getF 62 W (tw hw 18) (OBJ.get 1 rfl) d7_59 (fun T W => ?_)
  refine o_iloadN 63 W d7_62 rfl ?_
  have G0 : Arv Z _ va kva (.array .int) 4 VL (.null) := H.get 0 rfl
  refine o_aaloadV 64 W G0 rfl hr hV d7_63 ?_
  refine o_iload 66 W d7_64 rfl ?_
  refine o_iloadN 67 W d7_66 rfl ?_
  have G0 : Arv Z _ rx krx .int 2 [a0, a1] (.int 0) := H.get 6 rfl
  refine o_iastore 68 0 W G0 (by decide) rfl (by simp) (H.new? 6 rfl) d7_67 (fun T h W w1 A1 => ?_)
  have OBJ := OBJ.wr (tw hw 6) (H.get 6 rfl) w1
  have H : HM Z h [(va, kva, (.array .int), 4, VL, (.null)), (ca, kca, (.array .double), 4, CL, (.null)), (la, kla, .int, 4, LL, (.int 0)), (ua, kua, (.array .int), 3, UL, (.null)), (uc, kuc, .int, 3, UC, (.int 0)), (sa, ksa, .int, 3, SL, (.int 0)), (rx, krx, .int, 2, [(.int v), a1], (.int 0)), (ry, kry, .double, 4, [d0, d1, d2, d3], (.double 0)), (us, kus, .int, 4, [y0, y1, y2, y3], (.int 0))] := H.wr 6 rfl w1 A1
  have K0 := K0.wr w1 (Or.inl (by simp))
  refine o_aloadN 69 W d7_68 rfl rfl ?_
  refine o_getF 72 W (tw hw 22) (OBJ.get 2 rfl) d7_69 (fun T W => ?_)
  refine o_iloadN 73 W d7_72 rfl ?_
  have G0 : Arv Z _ ca kca (.array .double) 4 CL (.null) := H.get 1 rfl
  refine o_aaloadV 74 W G0 rfl hr hC d7_73 ?_
  refine o_iconst 75 W (2) d7_74 (by first | rfl | decide) ?_
  refine o_iload 77 W d7_75 rfl ?_
  refine o_imul 78 W d7_77 ?_
  refine o_dloadN 79 W d7_78 rfl ?_
  show Go p e below _ _ (mkF m 79 #[.val (.ref o), .val (.int r), .val (.int v), .val (.double x), .second, .val (.double z), .second, .val (.int (0 : Int32)), .unset] [(.double x), (.int (0 : Int32)), (.ref ry)])
  have G0 : Arv Z _ ry kry .double 4 [d0, d1, d2, d3] (.double 0) := H.get 7 rfl
  refine o_dastore 80 0 W G0 (by decide) rfl (by simp) (H.new? 7 rfl) d7_79 (fun T h W w1 A1 => ?_)
  have OBJ := OBJ.wr (tw hw 6) (H.get 7 rfl) w1
  have H : HM Z h [(va, kva, (.array .int), 4, VL, (.null)), (ca, kca, (.array .double), 4, CL, (.null)), (la, kla, .int, 4, LL, (.int 0)), (ua, kua, (.array .int), 3, UL, (.null)), (uc, kuc, .int, 3, UC, (.int 0)), (sa, ksa, .int, 3, SL, (.int 0)), (rx, krx, .int, 2, [(.int v), a1], (.int 0)), (ry, kry, .double, 4, [(.double x), d1, d2, d3], (.double 0)), (us, kus, .int, 4, [y0, y1, y2, y3], (.int 0))] := H.wr 7 rfl w1 A1
  have K0 := K0.wr w1 (Or.inl (by simp))
  refine o_aloadN 81 W d7_80 rfl rfl ?_
  refine o_getF 84 W (tw hw 22) (OBJ.get 2 rfl) d7_81 (fun T W => ?_)
  refine o_iloadN 85 W d7_84 rfl ?_
  have G0 : Arv Z _ ca kca (.array .double) 4 CL (.null) := H.get 1 rfl
  refine o_aaloadV 86 W G0 rfl hr hC d7_85 ?_
  refine o_iconst 87 W (2) d7_86 (by first | rfl | decide) ?_
  refine o_iload 89 W d7_87 rfl ?_
  refine o_imul 90 W d7_89 ?_
  refine o_iconst 91 W (1) d7_90 (by first | rfl | decide) ?_
  refine o_iadd 92 W d7_91 ?_
  refine o_dload 94 W d7_92 rfl ?_
  show Go p e below _ _ (mkF m 94 #[.val (.ref o), .val (.int r), .val (.int v), .val (.double x), .second, .val (.double z), .second, .val (.int (0 : Int32)), .unset] [(.double z), (.int (1 : Int32)), (.ref ry)])
  have G0 : Arv Z _ ry kry .double 4 [(.double x), d1, d2, d3] (.double 0) := H.get 7 rfl
  refine o_dastore 95 1 W G0 (by decide) rfl (by simp) (H.new? 7 rfl) d7_94 (fun T h W w1 A1 => ?_)
  have OBJ := OBJ.wr (tw hw 6) (H.get 7 rfl) w1
  have H : HM Z h [(va, kva, (.array .int), 4, VL, (.null)), (ca, kca, (.array .double), 4, CL, (.null)), (la, kla, .int, 4, LL, (.int 0)), (ua, kua, (.array .int), 3, UL, (.null)), (uc, kuc, .int, 3, UC, (.int 0)), (sa, ksa, .int, 3, SL, (.int 0)), (rx, krx, .int, 2, [(.int v), a1], (.int 0)), (ry, kry, .double, 4, [(.double x), (.double z), d2, d3], (.double 0)), (us, kus, .int, 4, [y0, y1, y2, y3], (.int 0))] := H.wr 7 rfl w1 A1
  have K0 := K0.wr w1 (Or.inl (by simp))
  refine o_aloadN 96 W d7_95 rfl rfl ?_
  refine o_getF 99 W (tw hw 25) (OBJ.get 3 rfl) d7_96 (fun T W => ?_)
  refine o_iloadN 100 W d7_99 rfl ?_
  refine o_iload 102 W d7_100 rfl ?_
  refine o_iconst 103 W (1) d7_102 (by first | rfl | decide) ?_
  refine o_iadd 104 W d7_103 ?_
  show Go p e below _ _ (mkF m 104 #[.val (.ref o), .val (.int r), .val (.int v), .val (.double x), .second, .val (.double z), .second, .val (.int (0 : Int32)), .unset] [(.int (1 : Int32)), (.int r), (.ref la)])
  have G0 : Arv Z _ la kla .int 4 LL (.int 0) := H.get 2 rfl
  refine o_iastore 105 r.toNatClampNeg W G0 hr rfl (by omega) (H.new? 2 rfl) d7_104 (fun T h W w1 A1 => ?_)
  have OBJ := OBJ.wr (tw hw 6) (H.get 2 rfl) w1
  have H : HM Z h [(va, kva, (.array .int), 4, VL, (.null)), (ca, kca, (.array .double), 4, CL, (.null)), (la, kla, .int, 4, (LL.set r.toNatClampNeg (.int 1)), (.int 0)), (ua, kua, (.array .int), 3, UL, (.null)), (uc, kuc, .int, 3, UC, (.int 0)), (sa, ksa, .int, 3, SL, (.int 0)), (rx, krx, .int, 2, [(.int v), a1], (.int 0)), (ry, kry, .double, 4, [(.double x), (.double z), d2, d3], (.double 0)), (us, kus, .int, 4, [y0, y1, y2, y3], (.int 0))] := H.wr 2 rfl w1 A1
  have K0 := K0.wr w1 (Or.inl (by simp))
  refine o_aloadN 106 W d7_105 rfl rfl ?_
  refine o_getF 109 W (tw hw 37) (OBJ.get 8 rfl) d7_106 (fun T W => ?_)
  refine o_iloadN 110 W d7_109 rfl ?_
  have G0 : Arv Z _ uc kuc .int 3 UC (.int 0) := H.get 4 rfl
  refine o_ialoadV 111 W G0 hv hN d7_110 ?_
  refine o_istore 113 W #[.val (.ref o), .val (.int r), .val (.int v), .val (.double x), .second, .val (.double z), .second, .val (.int (0 : Int32)), .val (.int (1 : Int32))] d7_111 rfl ?_
  refine o_aloadN 114 W d7_113 rfl rfl ?_
  refine o_getF 117 W (tw hw 35) (OBJ.get 7 rfl) d7_114 (fun T W => ?_)
  refine o_iloadN 118 W d7_117 rfl ?_
  have G0 : Arv Z _ ua kua (.array .int) 3 UL (.null) := H.get 3 rfl
  refine o_aaloadV 119 W G0 rfl hv hU d7_118 ?_
  refine o_nnY 134 W d7_119 ?_
  refine o_iload 136 W d7_134 rfl ?_
  refine o_aloadN 137 W d7_136 rfl rfl ?_
  refine o_getF 140 W (tw hw 35) (OBJ.get 7 rfl) d7_137 (fun T W => ?_)
  refine o_iloadN 141 W d7_140 rfl ?_
  have G0 : Arv Z _ ua kua (.array .int) 3 UL (.null) := H.get 3 rfl
  refine o_aaloadV 142 W G0 rfl hv hU d7_141 ?_
  have G0 : Arv Z _ us kus .int 4 [y0, y1, y2, y3] (.int 0) := H.get 8 rfl
  refine o_alenV 143 W G0 d7_142 ?_
  refine o_icY 165 W d7_143 (XT.ii_ne_t (by decide)) ?_
  refine o_aloadN 166 W d7_165 rfl rfl ?_
  refine o_getF 169 W (tw hw 35) (OBJ.get 7 rfl) d7_166 (fun T W => ?_)
  refine o_iloadN 170 W d7_169 rfl ?_
  have G0 : Arv Z _ ua kua (.array .int) 3 UL (.null) := H.get 3 rfl
  refine o_aaloadV 171 W G0 rfl hv hU d7_170 ?_
  refine o_iload 173 W d7_171 rfl ?_
  refine o_iloadN 174 W d7_173 rfl ?_
  have G0 : Arv Z _ us kus .int 4 [y0, y1, y2, y3] (.int 0) := H.get 8 rfl
  refine o_iastore 175 1 W G0 (by decide) rfl (by simp) (H.new? 8 rfl) d7_174 (fun T h W w1 A1 => ?_)
  have OBJ := OBJ.wr (tw hw 6) (H.get 8 rfl) w1
  have H : HM Z h [(va, kva, (.array .int), 4, VL, (.null)), (ca, kca, (.array .double), 4, CL, (.null)), (la, kla, .int, 4, (LL.set r.toNatClampNeg (.int 1)), (.int 0)), (ua, kua, (.array .int), 3, UL, (.null)), (uc, kuc, .int, 3, UC, (.int 0)), (sa, ksa, .int, 3, SL, (.int 0)), (rx, krx, .int, 2, [(.int v), a1], (.int 0)), (ry, kry, .double, 4, [(.double x), (.double z), d2, d3], (.double 0)), (us, kus, .int, 4, [y0, (.int r), y2, y3], (.int 0))] := H.wr 8 rfl w1 A1
  have K0 := K0.wr w1 (Or.inl (by simp))
  refine o_aloadN 176 W d7_175 rfl rfl ?_
  refine o_getF 179 W (tw hw 37) (OBJ.get 8 rfl) d7_176 (fun T W => ?_)
  refine o_iloadN 180 W d7_179 rfl ?_
  refine o_iload 182 W d7_180 rfl ?_
  refine o_iconst 183 W (1) d7_182 (by first | rfl | decide) ?_
  refine o_iadd 184 W d7_183 ?_
  show Go p e below _ _ (mkF m 184 #[.val (.ref o), .val (.int r), .val (.int v), .val (.double x), .second, .val (.double z), .second, .val (.int (0 : Int32)), .val (.int (1 : Int32))] [(.int (2 : Int32)), (.int v), (.ref uc)])
  have G0 : Arv Z _ uc kuc .int 3 UC (.int 0) := H.get 4 rfl
  refine o_iastore 185 v.toNatClampNeg W G0 hv rfl (by omega) (H.new? 4 rfl) d7_184 (fun T h W w1 A1 => ?_)
  have OBJ := OBJ.wr (tw hw 6) (H.get 4 rfl) w1
  have H : HM Z h [(va, kva, (.array .int), 4, VL, (.null)), (ca, kca, (.array .double), 4, CL, (.null)), (la, kla, .int, 4, (LL.set r.toNatClampNeg (.int 1)), (.int 0)), (ua, kua, (.array .int), 3, UL, (.null)), (uc, kuc, .int, 3, (UC.set v.toNatClampNeg (.int 2)), (.int 0)), (sa, ksa, .int, 3, SL, (.int 0)), (rx, krx, .int, 2, [(.int v), a1], (.int 0)), (ry, kry, .double, 4, [(.double x), (.double z), d2, d3], (.double 0)), (us, kus, .int, 4, [y0, (.int r), y2, y3], (.int 0))] := H.wr 4 rfl w1 A1
  have K0 := K0.wr w1 (Or.inl (by simp))
  refine o_aloadN 186 W d7_185 rfl rfl ?_
  refine o_getF 189 W (tw hw 39) (OBJ.get 9 rfl) d7_186 (fun T W => ?_)
  refine o_iloadN 190 W d7_189 rfl ?_
  refine o_dup2 191 W d7_190 rfl rfl ?_
  have G0 : Arv Z _ sa ksa .int 3 SL (.int 0) := H.get 5 rfl
  refine o_ialoadV 192 W G0 hv hS d7_191 ?_
  refine o_iconst 193 W (1) d7_192 (by first | rfl | decide) ?_
  refine o_iadd 194 W d7_193 ?_
  have G0 : Arv Z _ sa ksa .int 3 SL (.int 0) := H.get 5 rfl
  refine o_iastore 195 v.toNatClampNeg W G0 hv rfl (by omega) (H.new? 5 rfl) d7_194 (fun T h W w1 A1 => ?_)
  have OBJ := OBJ.wr (tw hw 6) (H.get 5 rfl) w1
  have H : HM Z h [(va, kva, (.array .int), 4, VL, (.null)), (ca, kca, (.array .double), 4, CL, (.null)), (la, kla, .int, 4, (LL.set r.toNatClampNeg (.int 1)), (.int 0)), (ua, kua, (.array .int), 3, UL, (.null)), (uc, kuc, .int, 3, (UC.set v.toNatClampNeg (.int 2)), (.int 0)), (sa, ksa, .int, 3, (SL.set v.toNatClampNeg (.int (sv + 1))), (.int 0)), (rx, krx, .int, 2, [(.int v), a1], (.int 0)), (ry, kry, .double, 4, [(.double x), (.double z), d2, d3], (.double 0)), (us, kus, .int, 4, [y0, (.int r), y2, y3], (.int 0))] := H.wr 5 rfl w1 A1
  have K0 := K0.wr w1 (Or.inl (by simp))
  exact o_ret W d7_195 (⟨K0, OBJ, H⟩)
theorem con_appC2 (l : Launch) (Z : State) (b0 : Array Value) (hw : ∀ d ∈ tables_1, d.before b0 Z = true) (o va ca la ka ea la2 ua uc sa ev er so rx ry : Addr) (kva kca kla kka kea kla2 kua kuc ksa kev ker kso krx kry : ClassId) (rcv : Value) (r v sv : Int32) (x z : UInt64) (VL CL LL UL UC SL : List Value) (a0 a1 d0 d1 d2 d3 : Value) (hr : ¬ r < 0 ∧ r < 4) (hv : ¬ v < 0 ∧ v < 3) (lV : VL.length = 4) (lC : CL.length = 4) (lL : LL.length = 4) (lU : UL.length = 3) (lN : UC.length = 3) (lS : SL.length = 3) (hV : VL.getD r.toNatClampNeg (.null) = .ref rx) (hC : CL.getD r.toNatClampNeg (.null) = .ref ry) (hL : LL.getD r.toNatClampNeg (.int 0) = .int 2) (hU : UL.getD v.toNatClampNeg (.null) = .null) (hN : UC.getD v.toNatClampNeg (.int 0) = .int 0) (hS : SL.getD v.toNatClampNeg (.int 0) = .int sv) (Ova : OvrA Z kva .int "[I") (Oca : OvrA Z kca .double "[D") (Oua : OvrA Z kua .int "[I") (h0 : Heap) (hE : Ext Z.heap h0) (OBJ : OB Z h0 o "com/example/markov_reachability/markovreachability/IntervalEquations" [("ceiling", "D", (.double FP.dconst1)), ("variables", "[[I", (.ref va)), ("coefficients", "[[D", (.ref ca)), ("length", "[I", (.ref la)), ("constant", "[D", (.ref ka)), ("exit", "[D", (.ref ea)), ("eliminating", "[Z", (.ref la2)), ("users", "[[I", (.ref ua)), ("userCount", "[I", (.ref uc)), ("substitutable", "[I", (.ref sa)), ("eliminatedVariable", "[I", (.ref ev)), ("eliminatedRow", "[I", (.ref er)), ("slot", "[I", (.ref so)), ("rowCount", "I", rcv)]) (H : HM Z h0 [(va, kva, (.array .int), 4, VL, (.null)), (ca, kca, (.array .double), 4, CL, (.null)), (la, kla, .int, 4, LL, (.int 0)), (ua, kua, (.array .int), 3, UL, (.null)), (uc, kuc, .int, 3, UC, (.int 0)), (sa, ksa, .int, 3, SL, (.int 0)), (rx, krx, .int, 2, [a0, a1], (.int 0)), (ry, kry, .double, 4, [d0, d1, d2, d3], (.double 0))]) : Con l Z (⟨"com/example/markov_reachability/markovreachability/IntervalEquations", "append", "(IIDD)V"⟩ : MethodName) prog_32_method_15_code 9 none ({ frames := 2, cells := 3, slots := 16, locals := 64 } : Room) #[(.ref o), (.int r), (.int v), (.double x), (.double z)] h0 [] (Q0 fun h => Keep h0 h [va, ca, la, ua, uc, sa, rx, ry] ∧ (OB Z h o "com/example/markov_reachability/markovreachability/IntervalEquations" [("ceiling", "D", (.double FP.dconst1)), ("variables", "[[I", (.ref va)), ("coefficients", "[[D", (.ref ca)), ("length", "[I", (.ref la)), ("constant", "[D", (.ref ka)), ("exit", "[D", (.ref ea)), ("eliminating", "[Z", (.ref la2)), ("users", "[[I", (.ref ua)), ("userCount", "[I", (.ref uc)), ("substitutable", "[I", (.ref sa)), ("eliminatedVariable", "[I", (.ref ev)), ("eliminatedRow", "[I", (.ref er)), ("slot", "[I", (.ref so)), ("rowCount", "I", rcv)]) ∧ ∃ (us ry2 rx2 : Addr) (kus kry2 krx2 : ClassId), h0.size ≤ us ∧ h0.size ≤ ry2 ∧ h0.size ≤ rx2 ∧ (HM Z h [(us, kus, .int, 4, [(.int r), (.int 0), (.int 0), (.int 0)], (.int 0)), (ry2, kry2, .double, 8, [d0, d1, d2, d3, (.double x), (.double z), (.double 0), (.double 0)], (.double 0)), (rx2, krx2, .int, 4, [a0, a1, (.int v), (.int 0)], (.int 0)), (va, kva, (.array .int), 4, (VL.set r.toNatClampNeg (.ref rx2)), (.null)), (ca, kca, (.array .double), 4, (CL.set r.toNatClampNeg (.ref ry2)), (.null)), (la, kla, .int, 4, (LL.set r.toNatClampNeg (.int 3)), (.int 0)), (ua, kua, (.array .int), 3, (UL.set v.toNatClampNeg (.ref us)), (.null)), (uc, kuc, .int, 3, (UC.set v.toNatClampNeg (.int 1)), (.int 0)), (sa, ksa, .int, 3, (SL.set v.toNatClampNeg (.int (sv + 1))), (.int 0)), (rx, krx, .int, 2, [a0, a1], (.int 0)), (ry, kry, .double, 4, [d0, d1, d2, d3], (.double 0))])) := by
  refine Con.of (plainFor_of_name pn2) hE ⟨b0, EW.nil⟩ all0 (L0 := #[.val (.ref o), .val (.int r), .val (.int v), .val (.double x), .second, .val (.double z), .second, .unset, .unset]) (fun m => by first | (simp [entryFrame, mkF, argsToLocals, Value.category]; done) | rfl) ?_
  intro p e s m args below meth c T W
  have K0 := Keep.refl h0 [va, ca, la, ua, uc, sa, rx, ry]
  have r4 := own_r4 hr
  have v4 := own_r3 hv
  refine o_aloadN 1 W d7_0 rfl rfl ?_
  refine o_getF 4 W (tw hw 25) (OBJ.get 3 rfl) d7_1 (fun T W => ?_)
  refine o_iloadN 5 W d7_4 rfl ?_
  have G0 : Arv Z _ la kla .int 4 LL (.int 0) := H.get 2 rfl
  refine o_ialoadV 6 W G0 hr hL d7_5 ?_
  refine o_istore 8 W #[.val (.ref o), .val (.int r), .val (.int v), .val (.double x), .second, .val (.double z), .second, .val (.int (2 : Int32)), .unset] d7_6 rfl ?_
  refine o_iload 10 W d7_8 rfl ?_
  refine o_aloadN 11 W d7_10 rfl rfl ?_
  refine o_getF 14 W (tw hw 18) (OBJ.get 1 rfl) d7_11 (fun T W => ?_)
  refine o_iloadN 15 W d7_14 rfl ?_
  have G0 : Arv Z _ va kva (.array .int) 4 VL (.null) := H.get 0 rfl
  refine o_aaloadV 16 W G0 rfl hr hV d7_15 ?_
  have G0 : Arv Z _ rx krx .int 2 [a0, a1] (.int 0) := H.get 6 rfl
  refine o_alenV 17 W G0 d7_16 ?_
  refine o_icN 20 W d7_17 (XT.ii_ne_f rfl) ?_
  refine o_aloadN 21 W d7_20 rfl rfl ?_
  refine o_getF 24 W (tw hw 18) (OBJ.get 1 rfl) d7_21 (fun T W => ?_)
  refine o_iloadN 25 W d7_24 rfl ?_
  refine o_aloadN 26 W d7_25 rfl rfl ?_
  refine o_getF 29 W (tw hw 18) (OBJ.get 1 rfl) d7_26 (fun T W => ?_)
  refine o_iloadN 30 W d7_29 rfl ?_
  have G0 : Arv Z _ va kva (.array .int) 4 VL (.null) := H.get 0 rfl
  refine o_aaloadV 31 W G0 rfl hr hV d7_30 ?_
  refine o_iconst 32 W (2) d7_31 (by first | rfl | decide) ?_
  refine o_iload 34 W d7_32 rfl ?_
  refine o_imul 35 W d7_34 ?_
  show Go p e below _ _ (mkF m 35 #[.val (.ref o), .val (.int r), .val (.int v), .val (.double x), .second, .val (.double z), .second, .val (.int (2 : Int32)), .unset] [(.int (4 : Int32)), (.ref rx), (.int r), (.ref va)])
  have G0 : Arv Z _ rx krx .int 2 [a0, a1] (.int 0) := H.get 6 rfl
  refine o_static 38 [(.ref rx), (.int (4 : Int32))] W (tw hw 94) (tw hw 95) (tw hw 49) (tw hw 96) (con_cpi l Z b0 hw rx krx a0 a1 _ W.old G0) pd2 d7_35 rfl all0 (fun T h v W qq gg => ?_)
  obtain ⟨_, rfl, rx2, krx2, rfl, grx2, zrx2, Erx2, Arx2, Xrx2⟩ := qq
  show Go p e below _ _ (mkF m 38 #[.val (.ref o), .val (.int r), .val (.int v), .val (.double x), .second, .val (.double z), .second, .val (.int (2 : Int32)), .unset] [(.ref rx2), (.int r), (.ref va)])
  have nrx2 := Nat.le_trans K0.1 grx2
  have K0 := K0.ext Erx2
  have OBJ := OBJ.ext Erx2
  have H : HM Z h [(rx2, krx2, .int, 4, [a0, a1, (.int 0), (.int 0)], (.int 0)), (va, kva, (.array .int), 4, VL, (.null)), (ca, kca, (.array .double), 4, CL, (.null)), (la, kla, .int, 4, LL, (.int 0)), (ua, kua, (.array .int), 3, UL, (.null)), (uc, kuc, .int, 3, UC, (.int 0)), (sa, ksa, .int, 3, SL, (.int 0)), (rx, krx, .int, 2, [a0, a1], (.int 0)), (ry, kry, .double, 4, [d0, d1, d2, d3], (.double 0))] := H.new Erx2 Arx2 grx2 zrx2
  have G0 : Arv Z _ va kva (.array .int) 4 VL (.null) := H.get 1 rfl
  refine o_aastore 39 r.toNatClampNeg W G0 (Ins.self Xrx2) Ova hr rfl (by omega) (H.new? 1 rfl) d7_38 (fun T h W w1 A1 => ?_)
  have OBJ := OBJ.wr (tw hw 6) (H.get 1 rfl) w1
  have H : HM Z h [(rx2, krx2, .int, 4, [a0, a1, (.int 0), (.int 0)], (.int 0)), (va, kva, (.array .int), 4, (VL.set r.toNatClampNeg (.ref rx2)), (.null)), (ca, kca, (.array .double), 4, CL, (.null)), (la, kla, .int, 4, LL, (.int 0)), (ua, kua, (.array .int), 3, UL, (.null)), (uc, kuc, .int, 3, UC, (.int 0)), (sa, ksa, .int, 3, SL, (.int 0)), (rx, krx, .int, 2, [a0, a1], (.int 0)), (ry, kry, .double, 4, [d0, d1, d2, d3], (.double 0))] := H.wr 1 rfl w1 A1
  have K0 := K0.wr w1 (Or.inl (by simp))
  refine o_aloadN 40 W d7_39 rfl rfl ?_
  refine o_getF 43 W (tw hw 22) (OBJ.get 2 rfl) d7_40 (fun T W => ?_)
  refine o_iloadN 44 W d7_43 rfl ?_
  refine o_aloadN 45 W d7_44 rfl rfl ?_
  refine o_getF 48 W (tw hw 22) (OBJ.get 2 rfl) d7_45 (fun T W => ?_)
  refine o_iloadN 49 W d7_48 rfl ?_
  have G0 : Arv Z _ ca kca (.array .double) 4 CL (.null) := H.get 2 rfl
  refine o_aaloadV 50 W G0 rfl hr hC d7_49 ?_
  refine o_iconst 51 W (4) d7_50 (by first | rfl | decide) ?_
  refine o_iload 53 W d7_51 rfl ?_
  refine o_imul 54 W d7_53 ?_
  show Go p e below _ _ (mkF m 54 #[.val (.ref o), .val (.int r), .val (.int v), .val (.double x), .second, .val (.double z), .second, .val (.int (2 : Int32)), .unset] [(.int (8 : Int32)), (.ref ry), (.int r), (.ref ca)])
  have G0 : Arv Z _ ry kry .double 4 [d0, d1, d2, d3] (.double 0) := H.get 8 rfl
  refine o_static 57 [(.ref ry), (.int (8 : Int32))] W (tw hw 102) (tw hw 103) (tw hw 49) (tw hw 104) (con_cpd l Z b0 hw ry kry d0 d1 d2 d3 _ W.old G0) pd3 d7_54 rfl all0 (fun T h v W qq gg => ?_)
  obtain ⟨_, rfl, ry2, kry2, rfl, gry2, zry2, Ery2, Ary2, Xry2⟩ := qq
  show Go p e below _ _ (mkF m 57 #[.val (.ref o), .val (.int r), .val (.int v), .val (.double x), .second, .val (.double z), .second, .val (.int (2 : Int32)), .unset] [(.ref ry2), (.int r), (.ref ca)])
  have nry2 := Nat.le_trans K0.1 gry2
  have K0 := K0.ext Ery2
  have OBJ := OBJ.ext Ery2
  have H : HM Z h [(ry2, kry2, .double, 8, [d0, d1, d2, d3, (.double 0), (.double 0), (.double 0), (.double 0)], (.double 0)), (rx2, krx2, .int, 4, [a0, a1, (.int 0), (.int 0)], (.int 0)), (va, kva, (.array .int), 4, (VL.set r.toNatClampNeg (.ref rx2)), (.null)), (ca, kca, (.array .double), 4, CL, (.null)), (la, kla, .int, 4, LL, (.int 0)), (ua, kua, (.array .int), 3, UL, (.null)), (uc, kuc, .int, 3, UC, (.int 0)), (sa, ksa, .int, 3, SL, (.int 0)), (rx, krx, .int, 2, [a0, a1], (.int 0)), (ry, kry, .double, 4, [d0, d1, d2, d3], (.double 0))] := H.new Ery2 Ary2 gry2 zry2
  have G0 : Arv Z _ ca kca (.array .double) 4 CL (.null) := H.get 3 rfl
  refine o_aastore 58 r.toNatClampNeg W G0 (Ins.self Xry2) Oca hr rfl (by omega) (H.new? 3 rfl) d7_57 (fun T h W w1 A1 => ?_)
  have OBJ := OBJ.wr (tw hw 6) (H.get 3 rfl) w1
  have H : HM Z h [(ry2, kry2, .double, 8, [d0, d1, d2, d3, (.double 0), (.double 0), (.double 0), (.double 0)], (.double 0)), (rx2, krx2, .int, 4, [a0, a1, (.int 0), (.int 0)], (.int 0)), (va, kva, (.array .int), 4, (VL.set r.toNatClampNeg (.ref rx2)), (.null)), (ca, kca, (.array .double), 4, (CL.set r.toNatClampNeg (.ref ry2)), (.null)), (la, kla, .int, 4, LL, (.int 0)), (ua, kua, (.array .int), 3, UL, (.null)), (uc, kuc, .int, 3, UC, (.int 0)), (sa, ksa, .int, 3, SL, (.int 0)), (rx, krx, .int, 2, [a0, a1], (.int 0)), (ry, kry, .double, 4, [d0, d1, d2, d3], (.double 0))] := H.wr 3 rfl w1 A1
  have K0 := K0.wr w1 (Or.inl (by simp))
  refine o_aloadN 59 W d7_58 rfl rfl ?_
  refine o_getF 62 W (tw hw 18) (OBJ.get 1 rfl) d7_59 (fun T W => ?_)
  refine o_iloadN 63 W d7_62 rfl ?_
  have G0 : Arv Z _ va kva (.array .int) 4 (VL.set r.toNatClampNeg (.ref rx2)) (.null) := H.get 2 rfl
  refine o_aaloadV 64 W G0 rfl hr (own_gset (by omega)) d7_63 ?_
  refine o_iload 66 W d7_64 rfl ?_
  refine o_iloadN 67 W d7_66 rfl ?_
  have G0 : Arv Z _ rx2 krx2 .int 4 [a0, a1, (.int 0), (.int 0)] (.int 0) := H.get 1 rfl
  refine o_iastore 68 2 W G0 (by decide) rfl (by simp) (H.new? 1 rfl) d7_67 (fun T h W w1 A1 => ?_)
  have OBJ := OBJ.wr (tw hw 6) (H.get 1 rfl) w1
  have H : HM Z h [(ry2, kry2, .double, 8, [d0, d1, d2, d3, (.double 0), (.double 0), (.double 0), (.double 0)], (.double 0)), (rx2, krx2, .int, 4, [a0, a1, (.int v), (.int 0)], (.int 0)), (va, kva, (.array .int), 4, (VL.set r.toNatClampNeg (.ref rx2)), (.null)), (ca, kca, (.array .double), 4, (CL.set r.toNatClampNeg (.ref ry2)), (.null)), (la, kla, .int, 4, LL, (.int 0)), (ua, kua, (.array .int), 3, UL, (.null)), (uc, kuc, .int, 3, UC, (.int 0)), (sa, ksa, .int, 3, SL, (.int 0)), (rx, krx, .int, 2, [a0, a1], (.int 0)), (ry, kry, .double, 4, [d0, d1, d2, d3], (.double 0))] := H.wr 1 rfl w1 A1
  have K0 := K0.wr w1 (Or.inr nrx2)
  refine o_aloadN 69 W d7_68 rfl rfl ?_
  refine o_getF 72 W (tw hw 22) (OBJ.get 2 rfl) d7_69 (fun T W => ?_)
  refine o_iloadN 73 W d7_72 rfl ?_
  have G0 : Arv Z _ ca kca (.array .double) 4 (CL.set r.toNatClampNeg (.ref ry2)) (.null) := H.get 3 rfl
  refine o_aaloadV 74 W G0 rfl hr (own_gset (by omega)) d7_73 ?_
  refine o_iconst 75 W (2) d7_74 (by first | rfl | decide) ?_
  refine o_iload 77 W d7_75 rfl ?_
  refine o_imul 78 W d7_77 ?_
  refine o_dloadN 79 W d7_78 rfl ?_
  show Go p e below _ _ (mkF m 79 #[.val (.ref o), .val (.int r), .val (.int v), .val (.double x), .second, .val (.double z), .second, .val (.int (2 : Int32)), .unset] [(.double x), (.int (4 : Int32)), (.ref ry2)])
  have G0 : Arv Z _ ry2 kry2 .double 8 [d0, d1, d2, d3, (.double 0), (.double 0), (.double 0), (.double 0)] (.double 0) := H.get 0 rfl
  refine o_dastore 80 4 W G0 (by decide) rfl (by simp) (H.new? 0 rfl) d7_79 (fun T h W w1 A1 => ?_)
  have OBJ := OBJ.wr (tw hw 6) (H.get 0 rfl) w1
  have H : HM Z h [(ry2, kry2, .double, 8, [d0, d1, d2, d3, (.double x), (.double 0), (.double 0), (.double 0)], (.double 0)), (rx2, krx2, .int, 4, [a0, a1, (.int v), (.int 0)], (.int 0)), (va, kva, (.array .int), 4, (VL.set r.toNatClampNeg (.ref rx2)), (.null)), (ca, kca, (.array .double), 4, (CL.set r.toNatClampNeg (.ref ry2)), (.null)), (la, kla, .int, 4, LL, (.int 0)), (ua, kua, (.array .int), 3, UL, (.null)), (uc, kuc, .int, 3, UC, (.int 0)), (sa, ksa, .int, 3, SL, (.int 0)), (rx, krx, .int, 2, [a0, a1], (.int 0)), (ry, kry, .double, 4, [d0, d1, d2, d3], (.double 0))] := H.wr 0 rfl w1 A1
  have K0 := K0.wr w1 (Or.inr nry2)
  refine o_aloadN 81 W d7_80 rfl rfl ?_
  refine o_getF 84 W (tw hw 22) (OBJ.get 2 rfl) d7_81 (fun T W => ?_)
  refine o_iloadN 85 W d7_84 rfl ?_
  have G0 : Arv Z _ ca kca (.array .double) 4 (CL.set r.toNatClampNeg (.ref ry2)) (.null) := H.get 3 rfl
  refine o_aaloadV 86 W G0 rfl hr (own_gset (by omega)) d7_85 ?_
  refine o_iconst 87 W (2) d7_86 (by first | rfl | decide) ?_
  refine o_iload 89 W d7_87 rfl ?_
  refine o_imul 90 W d7_89 ?_
  refine o_iconst 91 W (1) d7_90 (by first | rfl | decide) ?_
  refine o_iadd 92 W d7_91 ?_
  refine o_dload 94 W d7_92 rfl ?_
  show Go p e below _ _ (mkF m 94 #[.val (.ref o), .val (.int r), .val (.int v), .val (.double x), .second, .val (.double z), .second, .val (.int (2 : Int32)), .unset] [(.double z), (.int (5 : Int32)), (.ref ry2)])
  have G0 : Arv Z _ ry2 kry2 .double 8 [d0, d1, d2, d3, (.double x), (.double 0), (.double 0), (.double 0)] (.double 0) := H.get 0 rfl
  refine o_dastore 95 5 W G0 (by decide) rfl (by simp) (H.new? 0 rfl) d7_94 (fun T h W w1 A1 => ?_)
  have OBJ := OBJ.wr (tw hw 6) (H.get 0 rfl) w1
  have H : HM Z h [(ry2, kry2, .double, 8, [d0, d1, d2, d3, (.double x), (.double z), (.double 0), (.double 0)], (.double 0)), (rx2, krx2, .int, 4, [a0, a1, (.int v), (.int 0)], (.int 0)), (va, kva, (.array .int), 4, (VL.set r.toNatClampNeg (.ref rx2)), (.null)), (ca, kca, (.array .double), 4, (CL.set r.toNatClampNeg (.ref ry2)), (.null)), (la, kla, .int, 4, LL, (.int 0)), (ua, kua, (.array .int), 3, UL, (.null)), (uc, kuc, .int, 3, UC, (.int 0)), (sa, ksa, .int, 3, SL, (.int 0)), (rx, krx, .int, 2, [a0, a1], (.int 0)), (ry, kry, .double, 4, [d0, d1, d2, d3], (.double 0))] := H.wr 0 rfl w1 A1
  have K0 := K0.wr w1 (Or.inr nry2)
  refine o_aloadN 96 W d7_95 rfl rfl ?_
  refine o_getF 99 W (tw hw 25) (OBJ.get 3 rfl) d7_96 (fun T W => ?_)
  refine o_iloadN 100 W d7_99 rfl ?_
  refine o_iload 102 W d7_100 rfl ?_
  refine o_iconst 103 W (1) d7_102 (by first | rfl | decide) ?_
  refine o_iadd 104 W d7_103 ?_
  show Go p e below _ _ (mkF m 104 #[.val (.ref o), .val (.int r), .val (.int v), .val (.double x), .second, .val (.double z), .second, .val (.int (2 : Int32)), .unset] [(.int (3 : Int32)), (.int r), (.ref la)])
  have G0 : Arv Z _ la kla .int 4 LL (.int 0) := H.get 4 rfl
  refine o_iastore 105 r.toNatClampNeg W G0 hr rfl (by omega) (H.new? 4 rfl) d7_104 (fun T h W w1 A1 => ?_)
  have OBJ := OBJ.wr (tw hw 6) (H.get 4 rfl) w1
  have H : HM Z h [(ry2, kry2, .double, 8, [d0, d1, d2, d3, (.double x), (.double z), (.double 0), (.double 0)], (.double 0)), (rx2, krx2, .int, 4, [a0, a1, (.int v), (.int 0)], (.int 0)), (va, kva, (.array .int), 4, (VL.set r.toNatClampNeg (.ref rx2)), (.null)), (ca, kca, (.array .double), 4, (CL.set r.toNatClampNeg (.ref ry2)), (.null)), (la, kla, .int, 4, (LL.set r.toNatClampNeg (.int 3)), (.int 0)), (ua, kua, (.array .int), 3, UL, (.null)), (uc, kuc, .int, 3, UC, (.int 0)), (sa, ksa, .int, 3, SL, (.int 0)), (rx, krx, .int, 2, [a0, a1], (.int 0)), (ry, kry, .double, 4, [d0, d1, d2, d3], (.double 0))] := H.wr 4 rfl w1 A1
  have K0 := K0.wr w1 (Or.inl (by simp))
  refine o_aloadN 106 W d7_105 rfl rfl ?_
  refine o_getF 109 W (tw hw 37) (OBJ.get 8 rfl) d7_106 (fun T W => ?_)
  refine o_iloadN 110 W d7_109 rfl ?_
  have G0 : Arv Z _ uc kuc .int 3 UC (.int 0) := H.get 6 rfl
  refine o_ialoadV 111 W G0 hv hN d7_110 ?_
  refine o_istore 113 W #[.val (.ref o), .val (.int r), .val (.int v), .val (.double x), .second, .val (.double z), .second, .val (.int (2 : Int32)), .val (.int (0 : Int32))] d7_111 rfl ?_
  refine o_aloadN 114 W d7_113 rfl rfl ?_
  refine o_getF 117 W (tw hw 35) (OBJ.get 7 rfl) d7_114 (fun T W => ?_)
  refine o_iloadN 118 W d7_117 rfl ?_
  have G0 : Arv Z _ ua kua (.array .int) 3 UL (.null) := H.get 5 rfl
  refine o_aaloadV 119 W G0 rfl hv hU d7_118 ?_
  refine o_nnN 122 W d7_119 ?_
  refine o_aloadN 123 W d7_122 rfl rfl ?_
  refine o_getF 126 W (tw hw 35) (OBJ.get 7 rfl) d7_123 (fun T W => ?_)
  refine o_iloadN 127 W d7_126 rfl ?_
  refine o_iconst 128 W (4) d7_127 (by first | rfl | decide) ?_
  refine o_newarrayE 130 4 W (ad := "[I") (by decide) (tw hw 24) d7_128 (by decide) (by decide) (fun T h us kus W Eus Aus Xus gus zus => ?_)
  have Aus : Arv Z h us kus .int 4 [(.int 0), (.int 0), (.int 0), (.int 0)] (.int 0) := own_pad 4 Aus
  have OBJ := OBJ.ext Eus
  have nus := Nat.le_trans K0.1 gus
  have K0 := K0.ext Eus
  have H : HM Z h [(us, kus, .int, 4, [(.int 0), (.int 0), (.int 0), (.int 0)], (.int 0)), (ry2, kry2, .double, 8, [d0, d1, d2, d3, (.double x), (.double z), (.double 0), (.double 0)], (.double 0)), (rx2, krx2, .int, 4, [a0, a1, (.int v), (.int 0)], (.int 0)), (va, kva, (.array .int), 4, (VL.set r.toNatClampNeg (.ref rx2)), (.null)), (ca, kca, (.array .double), 4, (CL.set r.toNatClampNeg (.ref ry2)), (.null)), (la, kla, .int, 4, (LL.set r.toNatClampNeg (.int 3)), (.int 0)), (ua, kua, (.array .int), 3, UL, (.null)), (uc, kuc, .int, 3, UC, (.int 0)), (sa, ksa, .int, 3, SL, (.int 0)), (rx, krx, .int, 2, [a0, a1], (.int 0)), (ry, kry, .double, 4, [d0, d1, d2, d3], (.double 0))] := H.new Eus Aus gus zus
  have G0 : Arv Z _ ua kua (.array .int) 3 UL (.null) := H.get 6 rfl
  refine o_aastore 131 v.toNatClampNeg W G0 (Ins.self Xus) Oua hv rfl (by omega) (H.new? 6 rfl) d7_130 (fun T h W w1 A1 => ?_)
  have OBJ := OBJ.wr (tw hw 6) (H.get 6 rfl) w1
  have H : HM Z h [(us, kus, .int, 4, [(.int 0), (.int 0), (.int 0), (.int 0)], (.int 0)), (ry2, kry2, .double, 8, [d0, d1, d2, d3, (.double x), (.double z), (.double 0), (.double 0)], (.double 0)), (rx2, krx2, .int, 4, [a0, a1, (.int v), (.int 0)], (.int 0)), (va, kva, (.array .int), 4, (VL.set r.toNatClampNeg (.ref rx2)), (.null)), (ca, kca, (.array .double), 4, (CL.set r.toNatClampNeg (.ref ry2)), (.null)), (la, kla, .int, 4, (LL.set r.toNatClampNeg (.int 3)), (.int 0)), (ua, kua, (.array .int), 3, (UL.set v.toNatClampNeg (.ref us)), (.null)), (uc, kuc, .int, 3, UC, (.int 0)), (sa, ksa, .int, 3, SL, (.int 0)), (rx, krx, .int, 2, [a0, a1], (.int 0)), (ry, kry, .double, 4, [d0, d1, d2, d3], (.double 0))] := H.wr 6 rfl w1 A1
  have K0 := K0.wr w1 (Or.inl (by simp))
  refine o_goto 165 W d7_131 ?_
  refine o_aloadN 166 W d7_165 rfl rfl ?_
  refine o_getF 169 W (tw hw 35) (OBJ.get 7 rfl) d7_166 (fun T W => ?_)
  refine o_iloadN 170 W d7_169 rfl ?_
  have G0 : Arv Z _ ua kua (.array .int) 3 (UL.set v.toNatClampNeg (.ref us)) (.null) := H.get 6 rfl
  refine o_aaloadV 171 W G0 rfl hv (own_gset (by omega)) d7_170 ?_
  refine o_iload 173 W d7_171 rfl ?_
  refine o_iloadN 174 W d7_173 rfl ?_
  have G0 : Arv Z _ us kus .int 4 [(.int 0), (.int 0), (.int 0), (.int 0)] (.int 0) := H.get 0 rfl
  refine o_iastore 175 0 W G0 (by decide) rfl (by simp) (H.new? 0 rfl) d7_174 (fun T h W w1 A1 => ?_)
  have OBJ := OBJ.wr (tw hw 6) (H.get 0 rfl) w1
  have H : HM Z h [(us, kus, .int, 4, [(.int r), (.int 0), (.int 0), (.int 0)], (.int 0)), (ry2, kry2, .double, 8, [d0, d1, d2, d3, (.double x), (.double z), (.double 0), (.double 0)], (.double 0)), (rx2, krx2, .int, 4, [a0, a1, (.int v), (.int 0)], (.int 0)), (va, kva, (.array .int), 4, (VL.set r.toNatClampNeg (.ref rx2)), (.null)), (ca, kca, (.array .double), 4, (CL.set r.toNatClampNeg (.ref ry2)), (.null)), (la, kla, .int, 4, (LL.set r.toNatClampNeg (.int 3)), (.int 0)), (ua, kua, (.array .int), 3, (UL.set v.toNatClampNeg (.ref us)), (.null)), (uc, kuc, .int, 3, UC, (.int 0)), (sa, ksa, .int, 3, SL, (.int 0)), (rx, krx, .int, 2, [a0, a1], (.int 0)), (ry, kry, .double, 4, [d0, d1, d2, d3], (.double 0))] := H.wr 0 rfl w1 A1
  have K0 := K0.wr w1 (Or.inr nus)
  refine o_aloadN 176 W d7_175 rfl rfl ?_
  refine o_getF 179 W (tw hw 37) (OBJ.get 8 rfl) d7_176 (fun T W => ?_)
  refine o_iloadN 180 W d7_179 rfl ?_
  refine o_iload 182 W d7_180 rfl ?_
  refine o_iconst 183 W (1) d7_182 (by first | rfl | decide) ?_
  refine o_iadd 184 W d7_183 ?_
  show Go p e below _ _ (mkF m 184 #[.val (.ref o), .val (.int r), .val (.int v), .val (.double x), .second, .val (.double z), .second, .val (.int (2 : Int32)), .val (.int (0 : Int32))] [(.int (1 : Int32)), (.int v), (.ref uc)])
  have G0 : Arv Z _ uc kuc .int 3 UC (.int 0) := H.get 7 rfl
  refine o_iastore 185 v.toNatClampNeg W G0 hv rfl (by omega) (H.new? 7 rfl) d7_184 (fun T h W w1 A1 => ?_)
  have OBJ := OBJ.wr (tw hw 6) (H.get 7 rfl) w1
  have H : HM Z h [(us, kus, .int, 4, [(.int r), (.int 0), (.int 0), (.int 0)], (.int 0)), (ry2, kry2, .double, 8, [d0, d1, d2, d3, (.double x), (.double z), (.double 0), (.double 0)], (.double 0)), (rx2, krx2, .int, 4, [a0, a1, (.int v), (.int 0)], (.int 0)), (va, kva, (.array .int), 4, (VL.set r.toNatClampNeg (.ref rx2)), (.null)), (ca, kca, (.array .double), 4, (CL.set r.toNatClampNeg (.ref ry2)), (.null)), (la, kla, .int, 4, (LL.set r.toNatClampNeg (.int 3)), (.int 0)), (ua, kua, (.array .int), 3, (UL.set v.toNatClampNeg (.ref us)), (.null)), (uc, kuc, .int, 3, (UC.set v.toNatClampNeg (.int 1)), (.int 0)), (sa, ksa, .int, 3, SL, (.int 0)), (rx, krx, .int, 2, [a0, a1], (.int 0)), (ry, kry, .double, 4, [d0, d1, d2, d3], (.double 0))] := H.wr 7 rfl w1 A1
  have K0 := K0.wr w1 (Or.inl (by simp))
  refine o_aloadN 186 W d7_185 rfl rfl ?_
  refine o_getF 189 W (tw hw 39) (OBJ.get 9 rfl) d7_186 (fun T W => ?_)
  refine o_iloadN 190 W d7_189 rfl ?_
  refine o_dup2 191 W d7_190 rfl rfl ?_
  have G0 : Arv Z _ sa ksa .int 3 SL (.int 0) := H.get 8 rfl
  refine o_ialoadV 192 W G0 hv hS d7_191 ?_
  refine o_iconst 193 W (1) d7_192 (by first | rfl | decide) ?_
  refine o_iadd 194 W d7_193 ?_
  have G0 : Arv Z _ sa ksa .int 3 SL (.int 0) := H.get 8 rfl
  refine o_iastore 195 v.toNatClampNeg W G0 hv rfl (by omega) (H.new? 8 rfl) d7_194 (fun T h W w1 A1 => ?_)
  have OBJ := OBJ.wr (tw hw 6) (H.get 8 rfl) w1
  have H : HM Z h [(us, kus, .int, 4, [(.int r), (.int 0), (.int 0), (.int 0)], (.int 0)), (ry2, kry2, .double, 8, [d0, d1, d2, d3, (.double x), (.double z), (.double 0), (.double 0)], (.double 0)), (rx2, krx2, .int, 4, [a0, a1, (.int v), (.int 0)], (.int 0)), (va, kva, (.array .int), 4, (VL.set r.toNatClampNeg (.ref rx2)), (.null)), (ca, kca, (.array .double), 4, (CL.set r.toNatClampNeg (.ref ry2)), (.null)), (la, kla, .int, 4, (LL.set r.toNatClampNeg (.int 3)), (.int 0)), (ua, kua, (.array .int), 3, (UL.set v.toNatClampNeg (.ref us)), (.null)), (uc, kuc, .int, 3, (UC.set v.toNatClampNeg (.int 1)), (.int 0)), (sa, ksa, .int, 3, (SL.set v.toNatClampNeg (.int (sv + 1))), (.int 0)), (rx, krx, .int, 2, [a0, a1], (.int 0)), (ry, kry, .double, 4, [d0, d1, d2, d3], (.double 0))] := H.wr 8 rfl w1 A1
  have K0 := K0.wr w1 (Or.inl (by simp))
  exact o_ret W d7_195 (⟨K0, OBJ, us, ry2, rx2, kus, kry2, krx2, nus, nry2, nrx2, H⟩)
theorem con_adcA0 (l : Launch) (Z : State) (b0 : Array Value) (hw : ∀ d ∈ tables_1, d.before b0 Z = true) (o va ca la ka ea la2 ua uc sa ev er so rx ry : Addr) (kva kca kla kka kea kla2 kua kuc ksa kev ker kso krx kry : ClassId) (rcv : Value) (r v sv : Int32) (x z : UInt64) (VL CL LL UL UC SL : List Value) (a0 a1 d0 d1 d2 d3 : Value) (hr : ¬ r < 0 ∧ r < 4) (hv : ¬ v < 0 ∧ v < 3) (lV : VL.length = 4) (lC : CL.length = 4) (lL : LL.length = 4) (lU : UL.length = 3) (lN : UC.length = 3) (lS : SL.length = 3) (hV : VL.getD r.toNatClampNeg (.null) = .ref rx) (hC : CL.getD r.toNatClampNeg (.null) = .ref ry) (hL : LL.getD r.toNatClampNeg (.int 0) = .int 0) (hU : UL.getD v.toNatClampNeg (.null) = .null) (hN : UC.getD v.toNatClampNeg (.int 0) = .int 0) (hS : SL.getD v.toNatClampNeg (.int 0) = .int sv) (Ova : OvrA Z kva .int "[I") (Oca : OvrA Z kca .double "[D") (Oua : OvrA Z kua .int "[I") (h0 : Heap) (hE : Ext Z.heap h0) (OBJ : OB Z h0 o "com/example/markov_reachability/markovreachability/IntervalEquations" [("ceiling", "D", (.double FP.dconst1)), ("variables", "[[I", (.ref va)), ("coefficients", "[[D", (.ref ca)), ("length", "[I", (.ref la)), ("constant", "[D", (.ref ka)), ("exit", "[D", (.ref ea)), ("eliminating", "[Z", (.ref la2)), ("users", "[[I", (.ref ua)), ("userCount", "[I", (.ref uc)), ("substitutable", "[I", (.ref sa)), ("eliminatedVariable", "[I", (.ref ev)), ("eliminatedRow", "[I", (.ref er)), ("slot", "[I", (.ref so)), ("rowCount", "I", rcv)]) (H : HM Z h0 [(va, kva, (.array .int), 4, VL, (.null)), (ca, kca, (.array .double), 4, CL, (.null)), (la, kla, .int, 4, LL, (.int 0)), (ua, kua, (.array .int), 3, UL, (.null)), (uc, kuc, .int, 3, UC, (.int 0)), (sa, ksa, .int, 3, SL, (.int 0)), (rx, krx, .int, 2, [a0, a1], (.int 0)), (ry, kry, .double, 4, [d0, d1, d2, d3], (.double 0))]) : Con l Z (⟨"com/example/markov_reachability/markovreachability/IntervalEquations", "addCoefficient", "(IIDD)V"⟩ : MethodName) prog_32_method_3_code 9 none ({ frames := 3, cells := 1, slots := 4, locals := 96 } : Room) #[(.ref o), (.int r), (.int v), (.double x), (.double z)] h0 [] (Q0 fun h => Keep h0 h [va, ca, la, ua, uc, sa, rx, ry] ∧ (OB Z h o "com/example/markov_reachability/markovreachability/IntervalEquations" [("ceiling", "D", (.double FP.dconst1)), ("variables", "[[I", (.ref va)), ("coefficients", "[[D", (.ref ca)), ("length", "[I", (.ref la)), ("constant", "[D", (.ref ka)), ("exit", "[D", (.ref ea)), ("eliminating", "[Z", (.ref la2)), ("users", "[[I", (.ref ua)), ("userCount", "[I", (.ref uc)), ("substitutable", "[I", (.ref sa)), ("eliminatedVariable", "[I", (.ref ev)), ("eliminatedRow", "[I", (.ref er)), ("slot", "[I", (.ref so)), ("rowCount", "I", rcv)]) ∧ ∃ (us : Addr) (kus : ClassId), h0.size ≤ us ∧ (HM Z h [(us, kus, .int, 4, [(.int r), (.int 0), (.int 0), (.int 0)], (.int 0)), (va, kva, (.array .int), 4, VL, (.null)), (ca, kca, (.array .double), 4, CL, (.null)), (la, kla, .int, 4, (LL.set r.toNatClampNeg (.int 1)), (.int 0)), (ua, kua, (.array .int), 3, (UL.set v.toNatClampNeg (.ref us)), (.null)), (uc, kuc, .int, 3, (UC.set v.toNatClampNeg (.int 1)), (.int 0)), (sa, ksa, .int, 3, (SL.set v.toNatClampNeg (.int (sv + 1))), (.int 0)), (rx, krx, .int, 2, [(.int v), a1], (.int 0)), (ry, kry, .double, 4, [(.double x), (.double z), d2, d3], (.double 0))])) := by
  refine Con.of (plainFor_of_name pn2) hE ⟨b0, EW.nil⟩ all0 (L0 := #[.val (.ref o), .val (.int r), .val (.int v), .val (.double x), .second, .val (.double z), .second, .unset, .unset]) (fun m => by first | (simp [entryFrame, mkF, argsToLocals, Value.category]; done) | rfl) ?_
  intro p e s m args below meth c T W
  refine o_iconst 1 W (-1) d6_0 (by first | rfl | decide) ?_
  refine o_istore 3 W #[.val (.ref o), .val (.int r), .val (.int v), .val (.double x), .second, .val (.double z), .second, .val (.int (-1 : Int32)), .unset] d6_1 rfl ?_
  refine o_iconst 4 W (0) d6_3 (by first | rfl | decide) ?_
  refine o_istore 6 W #[.val (.ref o), .val (.int r), .val (.int v), .val (.double x), .second, .val (.double z), .second, .val (.int (-1 : Int32)), .val (.int (0 : Int32))] d6_4 rfl ?_
  refine o_iload 8 W d6_6 rfl ?_
  refine o_aloadN 9 W d6_8 rfl rfl ?_
  refine o_getF 12 W (tw hw 25) (OBJ.get 3 rfl) d6_9 (fun T W => ?_)
  refine o_iloadN 13 W d6_12 rfl ?_
  have G0 : Arv Z _ la kla .int 4 LL (.int 0) := H.get 2 rfl
  refine o_ialoadV 14 W G0 hr hL d6_13 ?_
  refine o_icY 45 W d6_14 (XT.ii_ge_t (by decide)) ?_
  refine o_iload 47 W d6_45 rfl ?_
  refine o_ifY 106 W d6_47 (XT.i0_lt_t (by decide)) ?_
  refine o_aloadN 107 W d6_106 rfl rfl ?_
  refine o_iloadN 108 W d6_107 rfl ?_
  refine o_iloadN 109 W d6_108 rfl ?_
  refine o_dloadN 110 W d6_109 rfl ?_
  refine o_dload 112 W d6_110 rfl ?_
  refine o_private 115 [(.int r), (.int v), (.double x), (.double z)] W (tw hw 65) (tw hw 66) (tw hw 67) (tw hw 6) (tw hw 7) (tw hw 68) (OBJ.1) (con_appA0 l Z b0 hw o va ca la ka ea la2 ua uc sa ev er so rx ry kva kca kla kka kea kla2 kua kuc ksa kev ker kso krx kry rcv r v sv x z VL CL LL UL UC SL a0 a1 d0 d1 d2 d3 hr hv lV lC lL lU lN lS hV hC hL hU hN hS Ova Oca Oua _ W.old OBJ H) pd4 d6_112 rfl all0 (fun T h v W qq gg => ?_)
  obtain ⟨rfl, qq⟩ := qq
  show Go p e below _ _ (mkF m 115 #[.val (.ref o), .val (.int r), .val (.int v), .val (.double x), .second, .val (.double z), .second, .val (.int (-1 : Int32)), .val (.int (0 : Int32))] [])
  exact o_ret W d6_115 (qq)
theorem con_adcA1 (l : Launch) (Z : State) (b0 : Array Value) (hw : ∀ d ∈ tables_1, d.before b0 Z = true) (o va ca la ka ea la2 ua uc sa ev er so rx ry : Addr) (kva kca kla kka kea kla2 kua kuc ksa kev ker kso krx kry : ClassId) (rcv : Value) (r v sv : Int32) (x z : UInt64) (VL CL LL UL UC SL : List Value) (a0 a1 d0 d1 d2 d3 : Value) (hr : ¬ r < 0 ∧ r < 4) (hv : ¬ v < 0 ∧ v < 3) (lV : VL.length = 4) (lC : CL.length = 4) (lL : LL.length = 4) (lU : UL.length = 3) (lN : UC.length = 3) (lS : SL.length = 3) (hV : VL.getD r.toNatClampNeg (.null) = .ref rx) (hC : CL.getD r.toNatClampNeg (.null) = .ref ry) (hL : LL.getD r.toNatClampNeg (.int 0) = .int 1) (hU : UL.getD v.toNatClampNeg (.null) = .null) (hN : UC.getD v.toNatClampNeg (.int 0) = .int 0) (hS : SL.getD v.toNatClampNeg (.int 0) = .int sv) (Ova : OvrA Z kva .int "[I") (Oca : OvrA Z kca .double "[D") (Oua : OvrA Z kua .int "[I") (h0 : Heap) (hE : Ext Z.heap h0) (OBJ : OB Z h0 o "com/example/markov_reachability/markovreachability/IntervalEquations" [("ceiling", "D", (.double FP.dconst1)), ("variables", "[[I", (.ref va)), ("coefficients", "[[D", (.ref ca)), ("length", "[I", (.ref la)), ("constant", "[D", (.ref ka)), ("exit", "[D", (.ref ea)), ("eliminating", "[Z", (.ref la2)), ("users", "[[I", (.ref ua)), ("userCount", "[I", (.ref uc)), ("substitutable", "[I", (.ref sa)), ("eliminatedVariable", "[I", (.ref ev)), ("eliminatedRow", "[I", (.ref er)), ("slot", "[I", (.ref so)), ("rowCount", "I", rcv)]) (H : HM Z h0 [(va, kva, (.array .int), 4, VL, (.null)), (ca, kca, (.array .double), 4, CL, (.null)), (la, kla, .int, 4, LL, (.int 0)), (ua, kua, (.array .int), 3, UL, (.null)), (uc, kuc, .int, 3, UC, (.int 0)), (sa, ksa, .int, 3, SL, (.int 0)), (rx, krx, .int, 2, [a0, a1], (.int 0)), (ry, kry, .double, 4, [d0, d1, d2, d3], (.double 0))]) (w0 : Int32) (ha0 : a0 = .int w0) (hw0 : ¬ w0 = v) : Con l Z (⟨"com/example/markov_reachability/markovreachability/IntervalEquations", "addCoefficient", "(IIDD)V"⟩ : MethodName) prog_32_method_3_code 9 none ({ frames := 3, cells := 1, slots := 4, locals := 96 } : Room) #[(.ref o), (.int r), (.int v), (.double x), (.double z)] h0 [] (Q0 fun h => Keep h0 h [va, ca, la, ua, uc, sa, rx, ry] ∧ (OB Z h o "com/example/markov_reachability/markovreachability/IntervalEquations" [("ceiling", "D", (.double FP.dconst1)), ("variables", "[[I", (.ref va)), ("coefficients", "[[D", (.ref ca)), ("length", "[I", (.ref la)), ("constant", "[D", (.ref ka)), ("exit", "[D", (.ref ea)), ("eliminating", "[Z", (.ref la2)), ("users", "[[I", (.ref ua)), ("userCount", "[I", (.ref uc)), ("substitutable", "[I", (.ref sa)), ("eliminatedVariable", "[I", (.ref ev)), ("eliminatedRow", "[I", (.ref er)), ("slot", "[I", (.ref so)), ("rowCount", "I", rcv)]) ∧ ∃ (us : Addr) (kus : ClassId), h0.size ≤ us ∧ (HM Z h [(us, kus, .int, 4, [(.int r), (.int 0), (.int 0), (.int 0)], (.int 0)), (va, kva, (.array .int), 4, VL, (.null)), (ca, kca, (.array .double), 4, CL, (.null)), (la, kla, .int, 4, (LL.set r.toNatClampNeg (.int 2)), (.int 0)), (ua, kua, (.array .int), 3, (UL.set v.toNatClampNeg (.ref us)), (.null)), (uc, kuc, .int, 3, (UC.set v.toNatClampNeg (.int 1)), (.int 0)), (sa, ksa, .int, 3, (SL.set v.toNatClampNeg (.int (sv + 1))), (.int 0)), (rx, krx, .int, 2, [a0, (.int v)], (.int 0)), (ry, kry, .double, 4, [d0, d1, (.double x), (.double z)], (.double 0))])) := by
  refine Con.of (plainFor_of_name pn2) hE ⟨b0, EW.nil⟩ all0 (L0 := #[.val (.ref o), .val (.int r), .val (.int v), .val (.double x), .second, .val (.double z), .second, .unset, .unset]) (fun m => by first | (simp [entryFrame, mkF, argsToLocals, Value.category]; done) | rfl) ?_
  intro p e s m args below meth c T W
  subst ha0
  refine o_iconst 1 W (-1) d6_0 (by first | rfl | decide) ?_
  refine o_istore 3 W #[.val (.ref o), .val (.int r), .val (.int v), .val (.double x), .second, .val (.double z), .second, .val (.int (-1 : Int32)), .unset] d6_1 rfl ?_
  refine o_iconst 4 W (0) d6_3 (by first | rfl | decide) ?_
  refine o_istore 6 W #[.val (.ref o), .val (.int r), .val (.int v), .val (.double x), .second, .val (.double z), .second, .val (.int (-1 : Int32)), .val (.int (0 : Int32))] d6_4 rfl ?_
  refine o_iload 8 W d6_6 rfl ?_
  refine o_aloadN 9 W d6_8 rfl rfl ?_
  refine o_getF 12 W (tw hw 25) (OBJ.get 3 rfl) d6_9 (fun T W => ?_)
  refine o_iloadN 13 W d6_12 rfl ?_
  have G0 : Arv Z _ la kla .int 4 LL (.int 0) := H.get 2 rfl
  refine o_ialoadV 14 W G0 hr hL d6_13 ?_
  refine o_icN 17 W d6_14 (XT.ii_ge_f (by decide)) ?_
  refine o_iload 19 W d6_17 rfl ?_
  refine o_ifN 22 W d6_19 (XT.i0_ge_f (by decide)) ?_
  refine o_aloadN 23 W d6_22 rfl rfl ?_
  refine o_getF 26 W (tw hw 18) (OBJ.get 1 rfl) d6_23 (fun T W => ?_)
  refine o_iloadN 27 W d6_26 rfl ?_
  have G0 : Arv Z _ va kva (.array .int) 4 VL (.null) := H.get 0 rfl
  refine o_aaloadV 28 W G0 rfl hr hV d6_27 ?_
  refine o_iload 30 W d6_28 rfl ?_
  have G0 : Arv Z _ rx krx .int 2 [(.int w0), a1] (.int 0) := H.get 6 rfl
  refine o_ialoadV 31 W G0 (by decide) rfl d6_30 ?_
  refine o_iloadN 32 W d6_31 rfl ?_
  refine o_icY 39 W d6_32 (XT.ii_ne_t hw0) ?_
  refine o_iinc 42 W (1) #[.val (.ref o), .val (.int r), .val (.int v), .val (.double x), .second, .val (.double z), .second, .val (.int (-1 : Int32)), .val (.int (1 : Int32))] d6_39 rfl (by decide) rfl ?_
  refine o_goto 6 W d6_42 ?_
  refine o_iload 8 W d6_6 rfl ?_
  refine o_aloadN 9 W d6_8 rfl rfl ?_
  refine o_getF 12 W (tw hw 25) (OBJ.get 3 rfl) d6_9 (fun T W => ?_)
  refine o_iloadN 13 W d6_12 rfl ?_
  have G0 : Arv Z _ la kla .int 4 LL (.int 0) := H.get 2 rfl
  refine o_ialoadV 14 W G0 hr hL d6_13 ?_
  refine o_icY 45 W d6_14 (XT.ii_ge_t (by decide)) ?_
  refine o_iload 47 W d6_45 rfl ?_
  refine o_ifY 106 W d6_47 (XT.i0_lt_t (by decide)) ?_
  refine o_aloadN 107 W d6_106 rfl rfl ?_
  refine o_iloadN 108 W d6_107 rfl ?_
  refine o_iloadN 109 W d6_108 rfl ?_
  refine o_dloadN 110 W d6_109 rfl ?_
  refine o_dload 112 W d6_110 rfl ?_
  refine o_private 115 [(.int r), (.int v), (.double x), (.double z)] W (tw hw 65) (tw hw 66) (tw hw 67) (tw hw 6) (tw hw 7) (tw hw 68) (OBJ.1) (con_appA1 l Z b0 hw o va ca la ka ea la2 ua uc sa ev er so rx ry kva kca kla kka kea kla2 kua kuc ksa kev ker kso krx kry rcv r v sv x z VL CL LL UL UC SL (.int w0) a1 d0 d1 d2 d3 hr hv lV lC lL lU lN lS hV hC hL hU hN hS Ova Oca Oua _ W.old OBJ H) pd4 d6_112 rfl all0 (fun T h v W qq gg => ?_)
  obtain ⟨rfl, qq⟩ := qq
  show Go p e below _ _ (mkF m 115 #[.val (.ref o), .val (.int r), .val (.int v), .val (.double x), .second, .val (.double z), .second, .val (.int (-1 : Int32)), .val (.int (1 : Int32))] [])
  exact o_ret W d6_115 (qq)
theorem con_adcB0 (l : Launch) (Z : State) (b0 : Array Value) (hw : ∀ d ∈ tables_1, d.before b0 Z = true) (o va ca la ka ea la2 ua uc sa ev er so rx ry us : Addr) (kva kca kla kka kea kla2 kua kuc ksa kev ker kso krx kry kus : ClassId) (rcv : Value) (r v sv : Int32) (x z : UInt64) (VL CL LL UL UC SL : List Value) (a0 a1 d0 d1 d2 d3 y0 y1 y2 y3 : Value) (hr : ¬ r < 0 ∧ r < 4) (hv : ¬ v < 0 ∧ v < 3) (lV : VL.length = 4) (lC : CL.length = 4) (lL : LL.length = 4) (lU : UL.length = 3) (lN : UC.length = 3) (lS : SL.length = 3) (hV : VL.getD r.toNatClampNeg (.null) = .ref rx) (hC : CL.getD r.toNatClampNeg (.null) = .ref ry) (hL : LL.getD r.toNatClampNeg (.int 0) = .int 0) (hU : UL.getD v.toNatClampNeg (.null) = .ref us) (hN : UC.getD v.toNatClampNeg (.int 0) = .int 1) (hS : SL.getD v.toNatClampNeg (.int 0) = .int sv) (Ova : OvrA Z kva .int "[I") (Oca : OvrA Z kca .double "[D") (Oua : OvrA Z kua .int "[I") (h0 : Heap) (hE : Ext Z.heap h0) (OBJ : OB Z h0 o "com/example/markov_reachability/markovreachability/IntervalEquations" [("ceiling", "D", (.double FP.dconst1)), ("variables", "[[I", (.ref va)), ("coefficients", "[[D", (.ref ca)), ("length", "[I", (.ref la)), ("constant", "[D", (.ref ka)), ("exit", "[D", (.ref ea)), ("eliminating", "[Z", (.ref la2)), ("users", "[[I", (.ref ua)), ("userCount", "[I", (.ref uc)), ("substitutable", "[I", (.ref sa)), ("eliminatedVariable", "[I", (.ref ev)), ("eliminatedRow", "[I", (.ref er)), ("slot", "[I", (.ref so)), ("rowCount", "I", rcv)]) (H : HM Z h0 [(va, kva, (.array .int), 4, VL, (.null)), (ca, kca, (.array .double), 4, CL, (.null)), (la, kla, .int, 4, LL, (.int 0)), (ua, kua, (.array .int), 3, UL, (.null)), (uc, kuc, .int, 3, UC, (.int 0)), (sa, ksa, .int, 3, SL, (.int 0)), (rx, krx, .int, 2, [a0, a1], (.int 0)), (ry, kry, .double, 4, [d0, d1, d2, d3], (.double 0)), (us, kus, .int, 4, [y0, y1, y2, y3], (.int 0))]) : Con l Z (⟨"com/example/markov_reachability/markovreachability/IntervalEquations", "addCoefficient", "(IIDD)V"⟩ : MethodName) prog_32_method_3_code 9 none ({ frames := 3, cells := 1, slots := 4, locals := 96 } : Room) #[(.ref o), (.int r), (.int v), (.double x), (.double z)] h0 [] (Q0 fun h => Keep h0 h [va, ca, la, ua, uc, sa, rx, ry, us] ∧ (OB Z h o "com/example/markov_reachability/markovreachability/IntervalEquations" [("ceiling", "D", (.double FP.dconst1)), ("variables", "[[I", (.ref va)), ("coefficients", "[[D", (.ref ca)), ("length", "[I", (.ref la)), ("constant", "[D", (.ref ka)), ("exit", "[D", (.ref ea)), ("eliminating", "[Z", (.ref la2)), ("users", "[[I", (.ref ua)), ("userCount", "[I", (.ref uc)), ("substitutable", "[I", (.ref sa)), ("eliminatedVariable", "[I", (.ref ev)), ("eliminatedRow", "[I", (.ref er)), ("slot", "[I", (.ref so)), ("rowCount", "I", rcv)]) ∧ (HM Z h [(va, kva, (.array .int), 4, VL, (.null)), (ca, kca, (.array .double), 4, CL, (.null)), (la, kla, .int, 4, (LL.set r.toNatClampNeg (.int 1)), (.int 0)), (ua, kua, (.array .int), 3, UL, (.null)), (uc, kuc, .int, 3, (UC.set v.toNatClampNeg (.int 2)), (.int 0)), (sa, ksa, .int, 3, (SL.set v.toNatClampNeg (.int (sv + 1))), (.int 0)), (rx, krx, .int, 2, [(.int v), a1], (.int 0)), (ry, kry, .double, 4, [(.double x), (.double z), d2, d3], (.double 0)), (us, kus, .int, 4, [y0, (.int r), y2, y3], (.int 0))])) := by
  refine Con.of (plainFor_of_name pn2) hE ⟨b0, EW.nil⟩ all0 (L0 := #[.val (.ref o), .val (.int r), .val (.int v), .val (.double x), .second, .val (.double z), .second, .unset, .unset]) (fun m => by first | (simp [entryFrame, mkF, argsToLocals, Value.category]; done) | rfl) ?_
  intro p e s m args below meth c T W
  refine o_iconst 1 W (-1) d6_0 (by first | rfl | decide) ?_
  refine o_istore 3 W #[.val (.ref o), .val (.int r), .val (.int v), .val (.double x), .second, .val (.double z), .second, .val (.int (-1 : Int32)), .unset] d6_1 rfl ?_
  refine o_iconst 4 W (0) d6_3 (by first | rfl | decide) ?_
  refine o_istore 6 W #[.val (.ref o), .val (.int r), .val (.int v), .val (.double x), .second, .val (.double z), .second, .val (.int (-1 : Int32)), .val (.int (0 : Int32))] d6_4 rfl ?_
  refine o_iload 8 W d6_6 rfl ?_
  refine o_aloadN 9 W d6_8 rfl rfl ?_
  refine o_getF 12 W (tw hw 25) (OBJ.get 3 rfl) d6_9 (fun T W => ?_)
  refine o_iloadN 13 W d6_12 rfl ?_
  have G0 : Arv Z _ la kla .int 4 LL (.int 0) := H.get 2 rfl
  refine o_ialoadV 14 W G0 hr hL d6_13 ?_
  refine o_icY 45 W d6_14 (XT.ii_ge_t (by decide)) ?_
  refine o_iload 47 W d6_45 rfl ?_
  refine o_ifY 106 W d6_47 (XT.i0_lt_t (by decide)) ?_
  refine o_aloadN 107 W d6_106 rfl rfl ?_
  refine o_iloadN 108 W d6_107 rfl ?_
  refine o_iloadN 109 W d6_108 rfl ?_
  refine o_dloadN 110 W d6_109 rfl ?_
  refine o_dload 112 W d6_110 rfl ?_
  refine o_private 115 [(.int r), (.int v), (.double x), (.double z)] W (tw hw 65) (tw hw 66) (tw hw 67) (tw hw 6) (tw hw 7) (tw hw 68) (OBJ.1) (con_appB0 l Z b0 hw o va ca la ka ea la2 ua uc sa ev er so rx ry us kva kca kla kka kea kla2 kua kuc ksa kev ker kso krx kry kus rcv r v sv x z VL CL LL UL UC SL a0 a1 d0 d1 d2 d3 y0 y1 y2 y3 hr hv lV lC lL lU lN lS hV hC hL hU hN hS Ova Oca Oua _ W.old OBJ H) pd4 d6_112 rfl all0 (fun T h v W qq gg => ?_)
  obtain ⟨rfl, qq⟩ := qq
  show Go p e below _ _ (mkF m 115 #[.val (.ref o), .val (.int r), .val (.int v), .val (.double x), .second, .val (.double z), .second, .val (.int (-1 : Int32)), .val (.int (0 : Int32))] [])
  exact o_ret W d6_115 (qq)
theorem con_adcC2 (l : Launch) (Z : State) (b0 : Array Value) (hw : ∀ d ∈ tables_1, d.before b0 Z = true) (o va ca la ka ea la2 ua uc sa ev er so rx ry : Addr) (kva kca kla kka kea kla2 kua kuc ksa kev ker kso krx kry : ClassId) (rcv : Value) (r v sv : Int32) (x z : UInt64) (VL CL LL UL UC SL : List Value) (a0 a1 d0 d1 d2 d3 : Value) (hr : ¬ r < 0 ∧ r < 4) (hv : ¬ v < 0 ∧ v < 3) (lV : VL.length = 4) (lC : CL.length = 4) (lL : LL.length = 4) (lU : UL.length = 3) (lN : UC.length = 3) (lS : SL.length = 3) (hV : VL.getD r.toNatClampNeg (.null) = .ref rx) (hC : CL.getD r.toNatClampNeg (.null) = .ref ry) (hL : LL.getD r.toNatClampNeg (.int 0) = .int 2) (hU : UL.getD v.toNatClampNeg (.null) = .null) (hN : UC.getD v.toNatClampNeg (.int 0) = .int 0) (hS : SL.getD v.toNatClampNeg (.int 0) = .int sv) (Ova : OvrA Z kva .int "[I") (Oca : OvrA Z kca .double "[D") (Oua : OvrA Z kua .int "[I") (h0 : Heap) (hE : Ext Z.heap h0) (OBJ : OB Z h0 o "com/example/markov_reachability/markovreachability/IntervalEquations" [("ceiling", "D", (.double FP.dconst1)), ("variables", "[[I", (.ref va)), ("coefficients", "[[D", (.ref ca)), ("length", "[I", (.ref la)), ("constant", "[D", (.ref ka)), ("exit", "[D", (.ref ea)), ("eliminating", "[Z", (.ref la2)), ("users", "[[I", (.ref ua)), ("userCount", "[I", (.ref uc)), ("substitutable", "[I", (.ref sa)), ("eliminatedVariable", "[I", (.ref ev)), ("eliminatedRow", "[I", (.ref er)), ("slot", "[I", (.ref so)), ("rowCount", "I", rcv)]) (H : HM Z h0 [(va, kva, (.array .int), 4, VL, (.null)), (ca, kca, (.array .double), 4, CL, (.null)), (la, kla, .int, 4, LL, (.int 0)), (ua, kua, (.array .int), 3, UL, (.null)), (uc, kuc, .int, 3, UC, (.int 0)), (sa, ksa, .int, 3, SL, (.int 0)), (rx, krx, .int, 2, [a0, a1], (.int 0)), (ry, kry, .double, 4, [d0, d1, d2, d3], (.double 0))]) (w0 : Int32) (ha0 : a0 = .int w0) (hw0 : ¬ w0 = v) (w1 : Int32) (ha1 : a1 = .int w1) (hw1 : ¬ w1 = v) : Con l Z (⟨"com/example/markov_reachability/markovreachability/IntervalEquations", "addCoefficient", "(IIDD)V"⟩ : MethodName) prog_32_method_3_code 9 none ({ frames := 3, cells := 3, slots := 16, locals := 96 } : Room) #[(.ref o), (.int r), (.int v), (.double x), (.double z)] h0 [] (Q0 fun h => Keep h0 h [va, ca, la, ua, uc, sa, rx, ry] ∧ (OB Z h o "com/example/markov_reachability/markovreachability/IntervalEquations" [("ceiling", "D", (.double FP.dconst1)), ("variables", "[[I", (.ref va)), ("coefficients", "[[D", (.ref ca)), ("length", "[I", (.ref la)), ("constant", "[D", (.ref ka)), ("exit", "[D", (.ref ea)), ("eliminating", "[Z", (.ref la2)), ("users", "[[I", (.ref ua)), ("userCount", "[I", (.ref uc)), ("substitutable", "[I", (.ref sa)), ("eliminatedVariable", "[I", (.ref ev)), ("eliminatedRow", "[I", (.ref er)), ("slot", "[I", (.ref so)), ("rowCount", "I", rcv)]) ∧ ∃ (us ry2 rx2 : Addr) (kus kry2 krx2 : ClassId), h0.size ≤ us ∧ h0.size ≤ ry2 ∧ h0.size ≤ rx2 ∧ (HM Z h [(us, kus, .int, 4, [(.int r), (.int 0), (.int 0), (.int 0)], (.int 0)), (ry2, kry2, .double, 8, [d0, d1, d2, d3, (.double x), (.double z), (.double 0), (.double 0)], (.double 0)), (rx2, krx2, .int, 4, [a0, a1, (.int v), (.int 0)], (.int 0)), (va, kva, (.array .int), 4, (VL.set r.toNatClampNeg (.ref rx2)), (.null)), (ca, kca, (.array .double), 4, (CL.set r.toNatClampNeg (.ref ry2)), (.null)), (la, kla, .int, 4, (LL.set r.toNatClampNeg (.int 3)), (.int 0)), (ua, kua, (.array .int), 3, (UL.set v.toNatClampNeg (.ref us)), (.null)), (uc, kuc, .int, 3, (UC.set v.toNatClampNeg (.int 1)), (.int 0)), (sa, ksa, .int, 3, (SL.set v.toNatClampNeg (.int (sv + 1))), (.int 0)), (rx, krx, .int, 2, [a0, a1], (.int 0)), (ry, kry, .double, 4, [d0, d1, d2, d3], (.double 0))])) := by
  refine Con.of (plainFor_of_name pn2) hE ⟨b0, EW.nil⟩ all0 (L0 := #[.val (.ref o), .val (.int r), .val (.int v), .val (.double x), .second, .val (.double z), .second, .unset, .unset]) (fun m => by first | (simp [entryFrame, mkF, argsToLocals, Value.category]; done) | rfl) ?_
  intro p e s m args below meth c T W
  subst ha0
  subst ha1
  refine o_iconst 1 W (-1) d6_0 (by first | rfl | decide) ?_
  refine o_istore 3 W #[.val (.ref o), .val (.int r), .val (.int v), .val (.double x), .second, .val (.double z), .second, .val (.int (-1 : Int32)), .unset] d6_1 rfl ?_
  refine o_iconst 4 W (0) d6_3 (by first | rfl | decide) ?_
  refine o_istore 6 W #[.val (.ref o), .val (.int r), .val (.int v), .val (.double x), .second, .val (.double z), .second, .val (.int (-1 : Int32)), .val (.int (0 : Int32))] d6_4 rfl ?_
  refine o_iload 8 W d6_6 rfl ?_
  refine o_aloadN 9 W d6_8 rfl rfl ?_
  refine o_getF 12 W (tw hw 25) (OBJ.get 3 rfl) d6_9 (fun T W => ?_)
  refine o_iloadN 13 W d6_12 rfl ?_
  have G0 : Arv Z _ la kla .int 4 LL (.int 0) := H.get 2 rfl
  refine o_ialoadV 14 W G0 hr hL d6_13 ?_
  refine o_icN 17 W d6_14 (XT.ii_ge_f (by decide)) ?_
  refine o_iload 19 W d6_17 rfl ?_
  refine o_ifN 22 W d6_19 (XT.i0_ge_f (by decide)) ?_
  refine o_aloadN 23 W d6_22 rfl rfl ?_
  refine o_getF 26 W (tw hw 18) (OBJ.get 1 rfl) d6_23 (fun T W => ?_)
  refine o_iloadN 27 W d6_26 rfl ?_
  have G0 : Arv Z _ va kva (.array .int) 4 VL (.null) := H.get 0 rfl
  refine o_aaloadV 28 W G0 rfl hr hV d6_27 ?_
  refine o_iload 30 W d6_28 rfl ?_
  have G0 : Arv Z _ rx krx .int 2 [(.int w0), (.int w1)] (.int 0) := H.get 6 rfl
  refine o_ialoadV 31 W G0 (by decide) rfl d6_30 ?_
  refine o_iloadN 32 W d6_31 rfl ?_
  refine o_icY 39 W d6_32 (XT.ii_ne_t hw0) ?_
  refine o_iinc 42 W (1) #[.val (.ref o), .val (.int r), .val (.int v), .val (.double x), .second, .val (.double z), .second, .val (.int (-1 : Int32)), .val (.int (1 : Int32))] d6_39 rfl (by decide) rfl ?_
  refine o_goto 6 W d6_42 ?_
  refine o_iload 8 W d6_6 rfl ?_
  refine o_aloadN 9 W d6_8 rfl rfl ?_
  refine o_getF 12 W (tw hw 25) (OBJ.get 3 rfl) d6_9 (fun T W => ?_)
  refine o_iloadN 13 W d6_12 rfl ?_
  have G0 : Arv Z _ la kla .int 4 LL (.int 0) := H.get 2 rfl
  refine o_ialoadV 14 W G0 hr hL d6_13 ?_
  refine o_icN 17 W d6_14 (XT.ii_ge_f (by decide)) ?_
  refine o_iload 19 W d6_17 rfl ?_
  refine o_ifN 22 W d6_19 (XT.i0_ge_f (by decide)) ?_
  refine o_aloadN 23 W d6_22 rfl rfl ?_
  refine o_getF 26 W (tw hw 18) (OBJ.get 1 rfl) d6_23 (fun T W => ?_)
  refine o_iloadN 27 W d6_26 rfl ?_
  have G0 : Arv Z _ va kva (.array .int) 4 VL (.null) := H.get 0 rfl
  refine o_aaloadV 28 W G0 rfl hr hV d6_27 ?_
  refine o_iload 30 W d6_28 rfl ?_
  have G0 : Arv Z _ rx krx .int 2 [(.int w0), (.int w1)] (.int 0) := H.get 6 rfl
  refine o_ialoadV 31 W G0 (by decide) rfl d6_30 ?_
  refine o_iloadN 32 W d6_31 rfl ?_
  refine o_icY 39 W d6_32 (XT.ii_ne_t hw1) ?_
  refine o_iinc 42 W (2) #[.val (.ref o), .val (.int r), .val (.int v), .val (.double x), .second, .val (.double z), .second, .val (.int (-1 : Int32)), .val (.int (2 : Int32))] d6_39 rfl (by decide) rfl ?_
  refine o_goto 6 W d6_42 ?_
  refine o_iload 8 W d6_6 rfl ?_
  refine o_aloadN 9 W d6_8 rfl rfl ?_
  refine o_getF 12 W (tw hw 25) (OBJ.get 3 rfl) d6_9 (fun T W => ?_)
  refine o_iloadN 13 W d6_12 rfl ?_
  have G0 : Arv Z _ la kla .int 4 LL (.int 0) := H.get 2 rfl
  refine o_ialoadV 14 W G0 hr hL d6_13 ?_
  refine o_icY 45 W d6_14 (XT.ii_ge_t (by decide)) ?_
  refine o_iload 47 W d6_45 rfl ?_
  refine o_ifY 106 W d6_47 (XT.i0_lt_t (by decide)) ?_
  refine o_aloadN 107 W d6_106 rfl rfl ?_
  refine o_iloadN 108 W d6_107 rfl ?_
  refine o_iloadN 109 W d6_108 rfl ?_
  refine o_dloadN 110 W d6_109 rfl ?_
  refine o_dload 112 W d6_110 rfl ?_
  refine o_private 115 [(.int r), (.int v), (.double x), (.double z)] W (tw hw 65) (tw hw 66) (tw hw 67) (tw hw 6) (tw hw 7) (tw hw 68) (OBJ.1) (con_appC2 l Z b0 hw o va ca la ka ea la2 ua uc sa ev er so rx ry kva kca kla kka kea kla2 kua kuc ksa kev ker kso krx kry rcv r v sv x z VL CL LL UL UC SL (.int w0) (.int w1) d0 d1 d2 d3 hr hv lV lC lL lU lN lS hV hC hL hU hN hS Ova Oca Oua _ W.old OBJ H) pd4 d6_112 rfl all0 (fun T h v W qq gg => ?_)
  obtain ⟨rfl, qq⟩ := qq
  show Go p e below _ _ (mkF m 115 #[.val (.ref o), .val (.int r), .val (.int v), .val (.double x), .second, .val (.double z), .second, .val (.int (-1 : Int32)), .val (.int (2 : Int32))] [])
  exact o_ret W d6_115 (qq)
theorem own_mask (x k : Int32) (hk : ¬ k < 0) : 0 ≤ (x &&& k).toInt ∧ (x &&& k).toInt ≤ k.toInt := by
  have h0 : ¬ (x &&& k) < 0 := fun q => absurd ((XT.and_neg32 x k).mp q).2 hk
  have e : (x &&& k).toInt = ((x &&& k).toBitVec.toNat : Int) := by
    rw [XT.neg32] at h0
    show (x &&& k).toBitVec.toInt = _
    rw [BitVec.toInt_eq_msb_cond, if_neg h0]
  have e2 : k.toInt = (k.toBitVec.toNat : Int) := by
    rw [XT.neg32] at hk
    show k.toBitVec.toInt = _
    rw [BitVec.toInt_eq_msb_cond, if_neg hk]
  have h2 : (x &&& k).toBitVec.toNat = x.toBitVec.toNat &&& k.toBitVec.toNat := by
    show (x.toBitVec &&& k.toBitVec).toNat = _
    rw [BitVec.toNat_and]
  have h3 : x.toBitVec.toNat &&& k.toBitVec.toNat ≤ k.toBitVec.toNat := Nat.and_le_right
  rw [e, e2, h2]
  constructor <;> omega
theorem own_and3 (x : Int32) : x &&& 3 = 0 ∨ x &&& 3 = 1 ∨ x &&& 3 = 2 ∨ x &&& 3 = 3 := by
  have h := own_mask x 3 (by decide)
  have e : (3 : Int32).toInt = 3 := rfl
  generalize x &&& 3 = k at h ⊢
  have q : k.toInt = 0 ∨ k.toInt = 1 ∨ k.toInt = 2 ∨ k.toInt = 3 := by omega
  rcases q with q | q | q | q
  · exact Or.inl (Int32.toInt_inj.mp q)
  · exact Or.inr (Or.inl (Int32.toInt_inj.mp q))
  · exact Or.inr (Or.inr (Or.inl (Int32.toInt_inj.mp q)))
  · exact Or.inr (Or.inr (Or.inr (Int32.toInt_inj.mp q)))
theorem own_and1 (x : Int32) : x &&& 1 = 0 ∨ x &&& 1 = 1 := by
  have h := own_mask x 1 (by decide)
  have e : (1 : Int32).toInt = 1 := rfl
  generalize x &&& 1 = k at h ⊢
  have q : k.toInt = 0 ∨ k.toInt = 1 := by omega
  rcases q with q | q
  · exact Or.inl (Int32.toInt_inj.mp q)
  · exact Or.inr (Int32.toInt_inj.mp q)
theorem own_byte (x : Int32) : 0 ≤ (x &&& 255).toInt ∧ (x &&& 255).toInt ≤ 255 := own_mask x 255 (by decide)
theorem own_gsetne {l : List Value} {i j : Nat} {x d : Value} (h : i ≠ j) : (l.set i x).getD j d = l.getD j d := by
  rw [List.getD_eq_getElem?_getD, List.getElem?_set_ne h, ← List.getD_eq_getElem?_getD]
theorem own_rep4 (v : Value) : ∀ i : Nat, [v, v, v, v].getD i v = v
  | 0 => rfl
  | 1 => rfl
  | 2 => rfl
  | 3 => rfl
  | _ + 4 => rfl
theorem own_modm (x k n : Int32) (hk : ¬ k < 0) (hn : 0 < n.toInt) : 0 ≤ ((x &&& k) % n).toInt ∧ ((x &&& k) % n).toInt < n.toInt := by
  have h0 : ¬ (x &&& k) < 0 := fun q => absurd ((XT.and_neg32 x k).mp q).2 hk
  rw [XT.negI32] at h0
  rw [Int32.toInt_mod]
  exact ⟨Int.tmod_nonneg _ (by omega), Int.tmod_lt_of_pos _ hn⟩
theorem own_mod (x n : Int32) (hn : 0 < n.toInt) : 0 ≤ ((x &&& 2147483647) % n).toInt ∧ ((x &&& 2147483647) % n).toInt < n.toInt := by
  have h0 : ¬ (x &&& 2147483647) < 0 := fun q => absurd ((XT.and_neg32 x 2147483647).mp q).2 (by decide)
  rw [XT.negI32] at h0
  rw [Int32.toInt_mod]
  exact ⟨Int.tmod_nonneg _ (by omega), Int.tmod_lt_of_pos _ hn⟩
theorem own_mod3 (x : Int32) : (x &&& 2147483647) % 3 = 0 ∨ (x &&& 2147483647) % 3 = 1 ∨ (x &&& 2147483647) % 3 = 2 := by
  have h := own_mod x 3 (by decide)
  generalize (x &&& 2147483647) % 3 = k at h ⊢
  have h7 : (3 : Int32).toInt = 3 := rfl
  have q : k.toInt = 0 ∨ k.toInt = 1 ∨ k.toInt = 2 := by omega
  rcases q with q | q | q
  · have e : k = 0 := Int32.toInt_inj.mp q
    simp [e]
  · have e : k = 1 := Int32.toInt_inj.mp q
    simp [e]
  · have e : k = 2 := Int32.toInt_inj.mp q
    simp [e]
theorem own_32 : FP.Core.val64 4629700416936869888 = .fin false (2 ^ 52) (((5 : Nat) : Int) - 52) := by decide +kernel
theorem own_one5 : DQ 5 32 FP.dconst1 := by
  show FP.Core.Whole 32 (shf ((5 : Nat) : Int) (FP.Core.val64 FP.Core.dconst1))
  rw [FP.Core.val64_dconst1]
  show FP.Core.signed false (2 ^ 52 * 2 ^ (-52 + ((5 : Nat) : Int)).toNat) = 32 * ((2 ^ (-(-52 + ((5 : Nat) : Int))).toNat : Nat) : Int)
  decide +kernel
theorem own_v64 : FP.Core.val64 4634204016564240384 = .fin false (2 ^ 52) (-46) := by decide +kernel
theorem own_64 : DQ 0 64 (4634204016564240384 : UInt64) := by
  show FP.Core.Whole 64 (shf ((0 : Nat) : Int) (FP.Core.val64 4634204016564240384))
  rw [own_v64]
  show FP.Core.signed false (2 ^ 52 * 2 ^ (-46 + ((0 : Nat) : Int)).toNat) = 64 * ((2 ^ (-(-46 + ((0 : Nat) : Int))).toNat : Nat) : Int)
  decide +kernel
theorem own_vh : FP.Core.val64 4602678819172646912 = .fin false (2 ^ 52) (-53) := by decide +kernel
theorem own_half : DQ 5 16 (4602678819172646912 : UInt64) := by
  show FP.Core.Whole 16 (shf ((5 : Nat) : Int) (FP.Core.val64 4602678819172646912))
  rw [own_vh]
  show FP.Core.signed false (2 ^ 52 * 2 ^ (-53 + ((5 : Nat) : Int)).toNat) = 16 * ((2 ^ (-(-53 + ((5 : Nat) : Int))).toNat : Nat) : Int)
  decide +kernel
theorem own_pick {K : Nat} {i j : Int} {a b : UInt64} (ha : DQ K i a) (hb : DQ K j b) (h : j ≤ i) : DQ K j (Native.java_lang_Math.nans.pick64 false a b) := by
  have e : FP.dcmp a b = some (compare i j) := DQ.cmp ha hb
  unfold Native.java_lang_Math.nans.pick64
  by_cases q : i = j
  · subst q
    have c : compare i i = .eq := by rw [FP.Core.compare_ite, if_neg (by omega), if_pos rfl]
    rw [e, c]
    show DQ K i (if (a >>> 63 == 1) == false then b else a)
    split
    · exact hb
    · exact ha
  · have c : compare i j = .gt := by rw [FP.Core.compare_ite, if_neg (by omega), if_neg q]
    rw [e, c]
    exact hb
theorem own_pbn {s q : Int} (h1 : -64 ≤ s) (h2 : s ≤ 64) (h3 : -4294967296 ≤ q) (h4 : q ≤ 4294967296) : -274877906944 ≤ s * q ∧ s * q ≤ 274877906944 := by
  have : (s * q).natAbs ≤ 64 * 4294967296 := by
    rw [Int.natAbs_mul]; exact Nat.mul_le_mul (by omega) (by omega)
  omega
theorem own_rep8 (v : Value) : ∀ i : Nat, [v, v, v, v, v, v, v, v].getD i v = v
  | 0 => rfl
  | 1 => rfl
  | 2 => rfl
  | 3 => rfl
  | 4 => rfl
  | 5 => rfl
  | 6 => rfl
  | 7 => rfl
  | _ + 8 => rfl
theorem own_i31 (q : Int32) : -2147483648 ≤ q.toInt ∧ q.toInt ≤ 2147483647 := by
  have := q.toInt_lt; have := q.le_toInt; omega
theorem own_add32 {f g : Int32} {i j : Int} (hf : f.toInt = i) (hg : g.toInt = j) (hb : -1000 ≤ i + j ∧ i + j ≤ 1000) : (f + g).toInt = i + j := by
  rw [Int32.toInt_add, hf, hg]; exact Int.bmod_eq_of_le (by omega) (by omega)
theorem own_sub32 {f g : Int32} {i j : Int} (hf : f.toInt = i) (hg : g.toInt = j) (hb : -1000 ≤ i - j ∧ i - j ≤ 1000) : (f - g).toInt = i - j := by
  rw [Int32.toInt_sub, hf, hg]; exact Int.bmod_eq_of_le (by omega) (by omega)
theorem own_half32 {f : Int32} {i : Int} (hf : f.toInt = i) (hb : 0 ≤ i ∧ i ≤ 1000) : (f / 2).toInt = i / 2 := by
  rw [Int32.toInt_div, hf]
  have e : (2 : Int32).toInt = 2 := rfl
  rw [e, Int.tdiv_eq_ediv_of_nonneg hb.1]; exact Int.bmod_eq_of_le (by omega) (by omega)
theorem own_minI {f g : Int32} {i j : Int} (hf : f.toInt = i) (hg : g.toInt = j) : (if g < f then g else f).toInt = if j < i then j else i := by
  simp only [Int32.lt_iff_toInt_lt, hf, hg]
  split <;> assumption
theorem own_lm {f g q : Int32} {i j : Int} (hf : f.toInt = i) (hg : g.toInt = j) (hi : 0 ≤ i ∧ i ≤ 20) (hj : 0 ≤ j ∧ j ≤ 20) : ((f + g).toInt64 * q.toInt64).toInt = (i + j) * q.toInt := by
  have h31 := own_i31 q
  have pb := own_pbn (s := i + j) (q := q.toInt) (by omega) (by omega) (by omega) (by omega)
  rw [Int64.toInt_mul, Int32.toInt_toInt64, Int32.toInt_toInt64, own_add32 hf hg (by omega)]; exact Int.bmod_eq_of_le (by omega) (by omega)
theorem own_ladd {y z : Int64} {i j : Int} (hy : y.toInt = i) (hz : z.toInt = j) (hb : -1000000000000000 ≤ i + j ∧ i + j ≤ 1000000000000000) : (y + z).toInt = i + j := by
  rw [Int64.toInt_add, hy, hz]; exact Int.bmod_eq_of_le (by omega) (by omega)
theorem own_lsub {y z : Int64} {i j : Int} (hy : y.toInt = i) (hz : z.toInt = j) (hb : -1000000000000000 ≤ i - j ∧ i - j ≤ 1000000000000000) : (y - z).toInt = i - j := by
  rw [Int64.toInt_sub, hy, hz]; exact Int.bmod_eq_of_le (by omega) (by omega)
theorem own_l64 (q : Int32) : (64 * q.toInt64).toInt = 64 * q.toInt := by
  have h31 := own_i31 q
  have e : (64 : Int64).toInt = 64 := rfl
  rw [Int64.toInt_mul, Int32.toInt_toInt64, e]; exact Int.bmod_eq_of_le (by omega) (by omega)
theorem own_b7 (v : Int32) : 0 ≤ (v &&& 7).toInt ∧ (v &&& 7).toInt ≤ 7 := own_mask v 7 (by decide)
theorem own_b15 (v : Int32) : 0 ≤ (v &&& 15).toInt ∧ (v &&& 15).toInt ≤ 15 := own_mask v 15 (by decide)
theorem own_r8 {r : Int32} (h : ¬ r < 0 ∧ r < 8) : r.toNatClampNeg < 8 := by
  have q := nat_of h.1
  have h2 := h.2
  rw [Int32.lt_iff_toInt_lt] at h2
  have e : (8 : Int32).toInt = 8 := rfl
  omega
theorem con_adx (l : Launch) (Z : State) (b0 : Array Value) (hw : ∀ d ∈ tables_1, d.before b0 Z = true) (o va ca la ka ea la2 ua uc sa ev er so : Addr) (kva kca kla kka kea kla2 kua kuc ksa kev ker kso : ClassId) (rcv : Value) (r : Int32) (v z : UInt64) (EL : List Value) {i j : Int} (hx : DQ 5 i v) (hz : DQ 5 j z) (hj : j ≤ 32) (ki0 : ¬ ((2 : Int32) * r) < 0 ∧ ((2 : Int32) * r) < 8) (ki1 : ¬ (((2 : Int32) * r) + (1 : Int32)) < 0 ∧ (((2 : Int32) * r) + (1 : Int32)) < 8) (lE : EL.length = 8) (e0 : EL.getD ((2 : Int32) * r).toNatClampNeg (.double 0) = .double 0) (e1 : EL.getD (((2 : Int32) * r) + (1 : Int32)).toNatClampNeg (.double 0) = .double 0) (hne : ((2 : Int32) * r).toNatClampNeg ≠ (((2 : Int32) * r) + (1 : Int32)).toNatClampNeg) (h0 : Heap) (hE : Ext Z.heap h0) (OBJ : OB Z h0 o "com/example/markov_reachability/markovreachability/IntervalEquations" [("ceiling", "D", (.double FP.dconst1)), ("variables", "[[I", (.ref va)), ("coefficients", "[[D", (.ref ca)), ("length", "[I", (.ref la)), ("constant", "[D", (.ref ka)), ("exit", "[D", (.ref ea)), ("eliminating", "[Z", (.ref la2)), ("users", "[[I", (.ref ua)), ("userCount", "[I", (.ref uc)), ("substitutable", "[I", (.ref sa)), ("eliminatedVariable", "[I", (.ref ev)), ("eliminatedRow", "[I", (.ref er)), ("slot", "[I", (.ref so)), ("rowCount", "I", rcv)]) (zo : Z.heap.size ≤ o) (H : HM Z h0 [(ea, kea, .double, 8, EL, (.double 0))]) : Con l Z (⟨"com/example/markov_reachability/markovreachability/IntervalEquations", "addExit", "(IDD)V"⟩ : MethodName) prog_32_method_5_code 6 none ({ frames := 1, cells := 0, slots := 0, locals := 40 } : Room) #[(.ref o), (.int r), (.double v), (.double z)] h0 [] (Q0 fun h => Keep h0 h [ea] ∧ (OB Z h o "com/example/markov_reachability/markovreachability/IntervalEquations" [("ceiling", "D", (.double FP.dconst1)), ("variables", "[[I", (.ref va)), ("coefficients", "[[D", (.ref ca)), ("length", "[I", (.ref la)), ("constant", "[D", (.ref ka)), ("exit", "[D", (.ref ea)), ("eliminating", "[Z", (.ref la2)), ("users", "[[I", (.ref ua)), ("userCount", "[I", (.ref uc)), ("substitutable", "[I", (.ref sa)), ("eliminatedVariable", "[I", (.ref ev)), ("eliminatedRow", "[I", (.ref er)), ("slot", "[I", (.ref so)), ("rowCount", "I", rcv)]) ∧ ∃ u, DQ 5 j u ∧ HM Z h [(ea, kea, .double, 8, ((EL.set ((2 : Int32) * r).toNatClampNeg (.double v)).set (((2 : Int32) * r) + (1 : Int32)).toNatClampNeg (.double u)), (.double 0))]) := by
  refine Con.of (plainFor_of_name pn2) hE ⟨b0, EW.nil⟩ all0 (L0 := #[.val (.ref o), .val (.int r), .val (.double v), .second, .val (.double z), .second]) (fun m => by first | (simp [entryFrame, mkF, argsToLocals, Value.category]; done) | rfl) ?_
  intro p e s m args below meth c T W
  have K0 := Keep.refl h0 [ea]
  have hz0 : DQ 5 0 (0 : UInt64) := DQ.zero 5
  have h1 := own_one5
  have q0 := own_r8 ki0
  have q1 := own_r8 ki1
  refine o_aloadN 1 W d8_0 rfl rfl ?_
  refine o_getF 4 W (tw hw 30) (OBJ.get 5 rfl) d8_1 (fun T W => ?_)
  refine o_iconst 5 W (2) d8_4 (by first | rfl | decide) ?_
  refine o_iloadN 6 W d8_5 rfl ?_
  refine o_imul 7 W d8_6 ?_
  refine o_aloadN 8 W d8_7 rfl rfl ?_
  refine o_getF 11 W (tw hw 30) (OBJ.get 5 rfl) d8_8 (fun T W => ?_)
  refine o_iconst 12 W (2) d8_11 (by first | rfl | decide) ?_
  refine o_iloadN 13 W d8_12 rfl ?_
  refine o_imul 14 W d8_13 ?_
  have G0 : Arv Z _ ea kea .double 8 EL (.double 0) := H.get 0 rfl
  refine o_daloadV 15 W G0 ki0 e0 d8_14 ?_
  show Go p e below _ _ (mkF m 15 #[.val (.ref o), .val (.int r), .val (.double v), .second, .val (.double z), .second] [(.double 0), (.int ((2 : Int32) * r)), (.ref ea)])
  refine o_dloadN 16 W d8_15 rfl ?_
  refine o_static 19 [(.double 0), (.double v)] W (tw hw 75) (tw hw 76) (tw hw 77) (tw hw 78) (con_sd l Z b0 hw 0 v hz0 _ W.old) pd5 d8_16 rfl all0 (fun T h v W qq gg => ?_)
  obtain ⟨_, rfl, rfl, rfl⟩ := qq
  show Go p e below _ _ (mkF m 19 #[.val (.ref o), .val (.int r), .val (.double v), .second, .val (.double z), .second] [(.double v), (.int ((2 : Int32) * r)), (.ref ea)])
  have G0 : Arv Z _ ea kea .double 8 EL (.double 0) := H.get 0 rfl
  refine o_dastore 20 ((2 : Int32) * r).toNatClampNeg W G0 ki0 rfl (by simp [lE, q0]) (H.new? 0 rfl) d8_19 (fun T h W w1 A1 => ?_)
  have OBJ := OBJ.wr (tw hw 6) (H.get 0 rfl) w1
  have H : HM Z h [(ea, kea, .double, 8, (EL.set ((2 : Int32) * r).toNatClampNeg (.double v)), (.double 0))] := H.wr 0 rfl w1 A1
  have K0 := K0.wr w1 (Or.inl (by simp))
  refine o_aloadN 21 W d8_20 rfl rfl ?_
  refine o_getF 24 W (tw hw 30) (OBJ.get 5 rfl) d8_21 (fun T W => ?_)
  refine o_iconst 25 W (2) d8_24 (by first | rfl | decide) ?_
  refine o_iloadN 26 W d8_25 rfl ?_
  refine o_imul 27 W d8_26 ?_
  refine o_iconst 28 W (1) d8_27 (by first | rfl | decide) ?_
  refine o_iadd 29 W d8_28 ?_
  refine o_dconst1 30 W d8_29 ?_
  refine o_aloadN 31 W d8_30 rfl rfl ?_
  refine o_getF 34 W (tw hw 30) (OBJ.get 5 rfl) d8_31 (fun T W => ?_)
  refine o_iconst 35 W (2) d8_34 (by first | rfl | decide) ?_
  refine o_iloadN 36 W d8_35 rfl ?_
  refine o_imul 37 W d8_36 ?_
  refine o_iconst 38 W (1) d8_37 (by first | rfl | decide) ?_
  refine o_iadd 39 W d8_38 ?_
  have G0 : Arv Z _ ea kea .double 8 (EL.set ((2 : Int32) * r).toNatClampNeg (.double v)) (.double 0) := H.get 0 rfl
  refine o_daloadV 40 W G0 ki1 ((own_gsetne hne).trans e1) d8_39 ?_
  show Go p e below _ _ (mkF m 40 #[.val (.ref o), .val (.int r), .val (.double v), .second, .val (.double z), .second] [(.double 0), (.double FP.dconst1), (.int (((2 : Int32) * r) + (1 : Int32))), (.ref ea)])
  refine o_dload 42 W d8_40 rfl ?_
  refine o_static 45 [(.double 0), (.double z)] W (tw hw 79) (tw hw 80) (tw hw 77) (tw hw 81) (con_su l Z b0 hw 0 z hz0 _ W.old) pd5 d8_42 rfl all0 (fun T h v W qq gg => ?_)
  obtain ⟨_, rfl, rfl, rfl⟩ := qq
  show Go p e below _ _ (mkF m 45 #[.val (.ref o), .val (.int r), .val (.double v), .second, .val (.double z), .second] [(.double z), (.double FP.dconst1), (.int (((2 : Int32) * r) + (1 : Int32))), (.ref ea)])
  refine o_minD 48 W (tw hw 82) (tw hw 83) (tw hw 3) (tw hw 84) h1.nn hz.nn d8_45 (fun T W => ?_)
  have hu := own_pick h1 hz hj
  generalize (Native.java_lang_Math.nans.pick64 false FP.dconst1 z) = u at hu ⊢
  have G0 : Arv Z _ ea kea .double 8 (EL.set ((2 : Int32) * r).toNatClampNeg (.double v)) (.double 0) := H.get 0 rfl
  refine o_dastore 49 (((2 : Int32) * r) + (1 : Int32)).toNatClampNeg W G0 ki1 rfl (by simp [lE, q1]) (H.new? 0 rfl) d8_48 (fun T h W w1 A1 => ?_)
  have OBJ := OBJ.wr (tw hw 6) (H.get 0 rfl) w1
  have H : HM Z h [(ea, kea, .double, 8, ((EL.set ((2 : Int32) * r).toNatClampNeg (.double v)).set (((2 : Int32) * r) + (1 : Int32)).toNatClampNeg (.double u)), (.double 0))] := H.wr 0 rfl w1 A1
  have K0 := K0.wr w1 (Or.inl (by simp))
  exact o_ret W d8_49 (⟨K0, OBJ, u, hu, H⟩)
theorem con_mc0 (l : Launch) (Z : State) (b0 : Array Value) (hw : ∀ d ∈ tables_1, d.before b0 Z = true) (o va ca la ka ea la2 ua uc sa ev er so rx ry mi : Addr) (kva kca kla kka kea kla2 kua kuc ksa kev ker kso krx kry kmi : ClassId) (rcv : Value) (r ow : Int32) (VL CL LL ML EL : List Value) (a0 a1 d0 d1 d2 d3 : Value) (hr : ¬ r < 0 ∧ r < 4) (hV : VL.getD r.toNatClampNeg (.null) = .ref rx) (hC : CL.getD r.toNatClampNeg (.null) = .ref ry) (hL : LL.getD r.toNatClampNeg (.int 0) = .int 0) (ki0 : ¬ ((2 : Int32) * r) < 0 ∧ ((2 : Int32) * r) < 8) (ki1 : ¬ (((2 : Int32) * r) + (1 : Int32)) < 0 ∧ (((2 : Int32) * r) + (1 : Int32)) < 8) (xl xh to : UInt64) (el eh qo : Int) (hxl : DQ 5 el xl) (hxh : DQ 5 eh xh) (hto : DQ 0 qo to) (be : 0 ≤ el ∧ el ≤ 32 ∧ 0 ≤ eh ∧ eh ≤ 32 ∧ -2147483648 ≤ qo ∧ qo ≤ 2147483648) (e0 : EL.getD ((2 : Int32) * r).toNatClampNeg (.double 0) = .double xl) (e1 : EL.getD (((2 : Int32) * r) + (1 : Int32)).toNatClampNeg (.double 0) = .double xh) (ho : ¬ ow < 0 ∧ ow < 3) (hmo : ML.getD ow.toNatClampNeg (.double 0) = .double to) (h0 : Heap) (hE : Ext Z.heap h0) (OBJ : OB Z h0 o "com/example/markov_reachability/markovreachability/IntervalEquations" [("ceiling", "D", (.double FP.dconst1)), ("variables", "[[I", (.ref va)), ("coefficients", "[[D", (.ref ca)), ("length", "[I", (.ref la)), ("constant", "[D", (.ref ka)), ("exit", "[D", (.ref ea)), ("eliminating", "[Z", (.ref la2)), ("users", "[[I", (.ref ua)), ("userCount", "[I", (.ref uc)), ("substitutable", "[I", (.ref sa)), ("eliminatedVariable", "[I", (.ref ev)), ("eliminatedRow", "[I", (.ref er)), ("slot", "[I", (.ref so)), ("rowCount", "I", rcv)]) (H : HM Z h0 [(va, kva, (.array .int), 4, VL, (.null)), (ca, kca, (.array .double), 4, CL, (.null)), (la, kla, .int, 4, LL, (.int 0)), (rx, krx, .int, 2, [a0, a1], (.int 0)), (ry, kry, .double, 4, [d0, d1, d2, d3], (.double 0)), (mi, kmi, .double, 3, ML, (.double 0)), (ea, kea, .double, 8, EL, (.double 0))]) : Con l Z (⟨"com/example/markov_reachability/markovreachability/IntervalEquations", "middleChange", "(II[D)D"⟩ : MethodName) prog_32_method_20_code 10 (some .double) ({ frames := 0, cells := 0, slots := 0, locals := 0 } : Room) #[(.ref o), (.int r), (.int ow), (.ref mi)] h0 [] (QV fun w h => ∃ v, w = .double v ∧ DQ 6 (-(el + eh) * qo) v ∧ h0 = h) := by
  refine Con.of (plainFor_of_name pn2) hE ⟨b0, EW.nil⟩ all0 (L0 := #[.val (.ref o), .val (.int r), .val (.int ow), .val (.ref mi), .unset, .unset, .unset, .unset, .unset, .unset]) (fun m => by first | (simp [entryFrame, mkF, argsToLocals, Value.category]; done) | rfl) ?_
  intro p e s m args below meth c T W
  have pbE := own_pbn (s := -(el + eh)) (q := qo) (by omega) (by omega) (by omega) (by omega)
  have L0 : ∀ (T : State) (acc : UInt64), DQ 6 (-(el + eh) * qo) acc → Wk p l e ({ frames := 0, cells := 0, slots := 0, locals := 0 } : Room) s m args below meth c Z (⟨"com/example/markov_reachability/markovreachability/IntervalEquations", "middleChange", "(II[D)D"⟩ : MethodName) prog_32_method_20_code 10 (some .double) T h0 0 0 [] → Go p e below (Gd s below Z (QV fun w h => ∃ v, w = .double v ∧ DQ 6 (-(el + eh) * qo) v ∧ h0 = h) (({ frames := 0, cells := 0, slots := 0, locals := 0 } : Room)).cells (({ frames := 0, cells := 0, slots := 0, locals := 0 } : Room)).slots) T (mkF m 37 #[.val (.ref o), .val (.int r), .val (.int ow), .val (.ref mi), .val (.double to), .second, .val (.double acc), .second, .val (.int (0 : Int32)), .unset] []) := by
    intro T acc hacc W
    refine o_iload 39 W d12_37 rfl ?_
    refine o_aloadN 40 W d12_39 rfl rfl ?_
    refine o_getF 43 W (tw hw 25) (OBJ.get 3 rfl) d12_40 (fun T W => ?_)
    refine o_iloadN 44 W d12_43 rfl ?_
    have G0 : Arv Z _ la kla .int 4 LL (.int 0) := H.get 2 rfl
    refine o_ialoadV 45 W G0 hr hL d12_44 ?_
    refine o_icY 113 W d12_45 (XT.ii_ge_t (by decide)) ?_
    refine o_dload 115 W d12_113 rfl ?_
    exact o_dret W d12_115 (⟨_, rfl, hacc, rfl⟩)
  refine o_aloadN 1 W d12_0 rfl rfl ?_
  refine o_iloadN 2 W d12_1 rfl ?_
  have G0 : Arv Z _ mi kmi .double 3 ML (.double 0) := H.get 5 rfl
  refine o_daloadV 3 W G0 ho hmo d12_2 ?_
  refine o_dstore 5 W #[.val (.ref o), .val (.int r), .val (.int ow), .val (.ref mi), .val (.double to), .second, .unset, .unset, .unset, .unset] d12_3 rfl ?_
  refine o_aloadN 6 W d12_5 rfl rfl ?_
  refine o_getF 9 W (tw hw 30) (OBJ.get 5 rfl) d12_6 (fun T W => ?_)
  refine o_iconst 10 W (2) d12_9 (by first | rfl | decide) ?_
  refine o_iloadN 11 W d12_10 rfl ?_
  refine o_imul 12 W d12_11 ?_
  have G0 : Arv Z _ ea kea .double 8 EL (.double 0) := H.get 6 rfl
  refine o_daloadV 13 W G0 ki0 e0 d12_12 ?_
  refine o_aloadN 14 W d12_13 rfl rfl ?_
  refine o_getF 17 W (tw hw 30) (OBJ.get 5 rfl) d12_14 (fun T W => ?_)
  refine o_iconst 18 W (2) d12_17 (by first | rfl | decide) ?_
  refine o_iloadN 19 W d12_18 rfl ?_
  refine o_imul 20 W d12_19 ?_
  refine o_iconst 21 W (1) d12_20 (by first | rfl | decide) ?_
  refine o_iadd 22 W d12_21 ?_
  have G0 : Arv Z _ ea kea .double 8 EL (.double 0) := H.get 6 rfl
  refine o_daloadV 23 W G0 ki1 e1 d12_22 ?_
  refine o_daddQ 24 W hxl hxh (by omega) (hd := d12_23) (K := fun y1 hy1 => ?_)
  refine o_dnegQ 25 W hy1 (hd := d12_24) (K := fun y2 hy2 => ?_)
  refine o_ldc2D 28 W (tw hw 92) d12_25 ?_
  refine o_ddivQ 29 W 1 hy2 own_2 (by omega) (hd := d12_28) (K := fun y3 hy3 => ?_)
  refine o_dload 31 W d12_29 rfl ?_
  refine o_dmulQ 32 W hy3 hto (by omega) (hd := d12_31) (K := fun y4 hy4 => ?_)
  refine o_dstore 34 W #[.val (.ref o), .val (.int r), .val (.int ow), .val (.ref mi), .val (.double to), .second, .val (.double y4), .second, .unset, .unset] d12_32 rfl ?_
  refine o_iconst 35 W (0) d12_34 (by first | rfl | decide) ?_
  refine o_istore 37 W #[.val (.ref o), .val (.int r), .val (.int ow), .val (.ref mi), .val (.double to), .second, .val (.double y4), .second, .val (.int (0 : Int32)), .unset] d12_35 rfl ?_
  exact L0 T y4 hy4 W
theorem con_mc1 (l : Launch) (Z : State) (b0 : Array Value) (hw : ∀ d ∈ tables_1, d.before b0 Z = true) (o va ca la ka ea la2 ua uc sa ev er so rx ry mi : Addr) (kva kca kla kka kea kla2 kua kuc ksa kev ker kso krx kry kmi : ClassId) (rcv : Value) (r ow : Int32) (VL CL LL ML EL : List Value) (a1 d2 d3 : Value) (hr : ¬ r < 0 ∧ r < 4) (hV : VL.getD r.toNatClampNeg (.null) = .ref rx) (hC : CL.getD r.toNatClampNeg (.null) = .ref ry) (hL : LL.getD r.toNatClampNeg (.int 0) = .int 1) (ki0 : ¬ ((2 : Int32) * r) < 0 ∧ ((2 : Int32) * r) < 8) (ki1 : ¬ (((2 : Int32) * r) + (1 : Int32)) < 0 ∧ (((2 : Int32) * r) + (1 : Int32)) < 8) (xl xh to : UInt64) (el eh qo : Int) (hxl : DQ 5 el xl) (hxh : DQ 5 eh xh) (hto : DQ 0 qo to) (be : 0 ≤ el ∧ el ≤ 32 ∧ 0 ≤ eh ∧ eh ≤ 32 ∧ -2147483648 ≤ qo ∧ qo ≤ 2147483648) (e0 : EL.getD ((2 : Int32) * r).toNatClampNeg (.double 0) = .double xl) (e1 : EL.getD (((2 : Int32) * r) + (1 : Int32)).toNatClampNeg (.double 0) = .double xh) (ho : ¬ ow < 0 ∧ ow < 3) (hmo : ML.getD ow.toNatClampNeg (.double 0) = .double to) (w0 : Int32) (x0 z0 t0 : UInt64) (i0 j0 q0 : Int) (hx0 : DQ 5 i0 x0) (hz0 : DQ 5 j0 z0) (ht0 : DQ 0 q0 t0) (bd0 : 0 ≤ i0 ∧ i0 ≤ 32 ∧ 0 ≤ j0 ∧ j0 ≤ 32 ∧ -2147483648 ≤ q0 ∧ q0 ≤ 2147483648) (hv0 : ¬ w0 < 0 ∧ w0 < 3) (hm0 : ML.getD w0.toNatClampNeg (.double 0) = .double t0) (hq0 : w0 = ow → q0 = qo) (h0 : Heap) (hE : Ext Z.heap h0) (OBJ : OB Z h0 o "com/example/markov_reachability/markovreachability/IntervalEquations" [("ceiling", "D", (.double FP.dconst1)), ("variables", "[[I", (.ref va)), ("coefficients", "[[D", (.ref ca)), ("length", "[I", (.ref la)), ("constant", "[D", (.ref ka)), ("exit", "[D", (.ref ea)), ("eliminating", "[Z", (.ref la2)), ("users", "[[I", (.ref ua)), ("userCount", "[I", (.ref uc)), ("substitutable", "[I", (.ref sa)), ("eliminatedVariable", "[I", (.ref ev)), ("eliminatedRow", "[I", (.ref er)), ("slot", "[I", (.ref so)), ("rowCount", "I", rcv)]) (H : HM Z h0 [(va, kva, (.array .int), 4, VL, (.null)), (ca, kca, (.array .double), 4, CL, (.null)), (la, kla, .int, 4, LL, (.int 0)), (rx, krx, .int, 2, [(.int w0), a1], (.int 0)), (ry, kry, .double, 4, [(.double x0), (.double z0), d2, d3], (.double 0)), (mi, kmi, .double, 3, ML, (.double 0)), (ea, kea, .double, 8, EL, (.double 0))]) : Con l Z (⟨"com/example/markov_reachability/markovreachability/IntervalEquations", "middleChange", "(II[D)D"⟩ : MethodName) prog_32_method_20_code 10 (some .double) ({ frames := 0, cells := 0, slots := 0, locals := 0 } : Room) #[(.ref o), (.int r), (.int ow), (.ref mi)] h0 [] (QV fun w h => ∃ v, w = .double v ∧ DQ 6 ((-(el + eh) * qo + (i0 + j0) * (q0 - qo))) v ∧ h0 = h) := by
  refine Con.of (plainFor_of_name pn2) hE ⟨b0, EW.nil⟩ all0 (L0 := #[.val (.ref o), .val (.int r), .val (.int ow), .val (.ref mi), .unset, .unset, .unset, .unset, .unset, .unset]) (fun m => by first | (simp [entryFrame, mkF, argsToLocals, Value.category]; done) | rfl) ?_
  intro p e s m args below meth c T W
  have pbE := own_pbn (s := -(el + eh)) (q := qo) (by omega) (by omega) (by omega) (by omega)
  have pb0 := own_pbn (s := i0 + j0) (q := q0 - qo) (by omega) (by omega) (by omega) (by omega)
  have L1 : ∀ (T : State) (acc : UInt64), DQ 6 ((-(el + eh) * qo + (i0 + j0) * (q0 - qo))) acc → Wk p l e ({ frames := 0, cells := 0, slots := 0, locals := 0 } : Room) s m args below meth c Z (⟨"com/example/markov_reachability/markovreachability/IntervalEquations", "middleChange", "(II[D)D"⟩ : MethodName) prog_32_method_20_code 10 (some .double) T h0 0 0 [] → Go p e below (Gd s below Z (QV fun w h => ∃ v, w = .double v ∧ DQ 6 ((-(el + eh) * qo + (i0 + j0) * (q0 - qo))) v ∧ h0 = h) (({ frames := 0, cells := 0, slots := 0, locals := 0 } : Room)).cells (({ frames := 0, cells := 0, slots := 0, locals := 0 } : Room)).slots) T (mkF m 37 #[.val (.ref o), .val (.int r), .val (.int ow), .val (.ref mi), .val (.double to), .second, .val (.double acc), .second, .val (.int (1 : Int32)), .val (.int w0)] []) := by
    intro T acc hacc W
    refine o_iload 39 W d12_37 rfl ?_
    refine o_aloadN 40 W d12_39 rfl rfl ?_
    refine o_getF 43 W (tw hw 25) (OBJ.get 3 rfl) d12_40 (fun T W => ?_)
    refine o_iloadN 44 W d12_43 rfl ?_
    have G0 : Arv Z _ la kla .int 4 LL (.int 0) := H.get 2 rfl
    refine o_ialoadV 45 W G0 hr hL d12_44 ?_
    refine o_icY 113 W d12_45 (XT.ii_ge_t (by decide)) ?_
    refine o_dload 115 W d12_113 rfl ?_
    exact o_dret W d12_115 (⟨_, rfl, hacc, rfl⟩)
  have L0 : ∀ (T : State) (acc : UInt64), DQ 6 (-(el + eh) * qo) acc → Wk p l e ({ frames := 0, cells := 0, slots := 0, locals := 0 } : Room) s m args below meth c Z (⟨"com/example/markov_reachability/markovreachability/IntervalEquations", "middleChange", "(II[D)D"⟩ : MethodName) prog_32_method_20_code 10 (some .double) T h0 0 0 [] → Go p e below (Gd s below Z (QV fun w h => ∃ v, w = .double v ∧ DQ 6 ((-(el + eh) * qo + (i0 + j0) * (q0 - qo))) v ∧ h0 = h) (({ frames := 0, cells := 0, slots := 0, locals := 0 } : Room)).cells (({ frames := 0, cells := 0, slots := 0, locals := 0 } : Room)).slots) T (mkF m 37 #[.val (.ref o), .val (.int r), .val (.int ow), .val (.ref mi), .val (.double to), .second, .val (.double acc), .second, .val (.int (0 : Int32)), .unset] []) := by
    intro T acc hacc W
    refine o_iload 39 W d12_37 rfl ?_
    refine o_aloadN 40 W d12_39 rfl rfl ?_
    refine o_getF 43 W (tw hw 25) (OBJ.get 3 rfl) d12_40 (fun T W => ?_)
    refine o_iloadN 44 W d12_43 rfl ?_
    have G0 : Arv Z _ la kla .int 4 LL (.int 0) := H.get 2 rfl
    refine o_ialoadV 45 W G0 hr hL d12_44 ?_
    refine o_icN 48 W d12_45 (XT.ii_ge_f (by decide)) ?_
    refine o_aloadN 49 W d12_48 rfl rfl ?_
    refine o_getF 52 W (tw hw 18) (OBJ.get 1 rfl) d12_49 (fun T W => ?_)
    refine o_iloadN 53 W d12_52 rfl ?_
    have G0 : Arv Z _ va kva (.array .int) 4 VL (.null) := H.get 0 rfl
    refine o_aaloadV 54 W G0 rfl hr hV d12_53 ?_
    refine o_iload 56 W d12_54 rfl ?_
    have G0 : Arv Z _ rx krx .int 2 [(.int w0), a1] (.int 0) := H.get 3 rfl
    refine o_ialoadV 57 W G0 (by decide) rfl d12_56 ?_
    refine o_istore 59 W #[.val (.ref o), .val (.int r), .val (.int ow), .val (.ref mi), .val (.double to), .second, .val (.double acc), .second, .val (.int (0 : Int32)), .val (.int w0)] d12_57 rfl ?_
    refine o_iload 61 W d12_59 rfl ?_
    refine o_iloadN 62 W d12_61 rfl ?_
    refine o_iceq 107 65 W d12_62 (fun c62 => ?_) (fun c62 => ?_)
    · refine o_iinc 110 W (1) #[.val (.ref o), .val (.int r), .val (.int ow), .val (.ref mi), .val (.double to), .second, .val (.double acc), .second, .val (.int (1 : Int32)), .val (.int w0)] d12_107 rfl (by decide) rfl ?_
      refine o_goto 37 W d12_110 ?_
      exact L1 T acc (by rw [hq0 c62, Int.sub_self, Int.mul_zero, Int.add_zero]; exact hacc) W
    · refine o_dload 67 W d12_65 rfl ?_
      refine o_aloadN 68 W d12_67 rfl rfl ?_
      refine o_getF 71 W (tw hw 22) (OBJ.get 2 rfl) d12_68 (fun T W => ?_)
      refine o_iloadN 72 W d12_71 rfl ?_
      have G0 : Arv Z _ ca kca (.array .double) 4 CL (.null) := H.get 1 rfl
      refine o_aaloadV 73 W G0 rfl hr hC d12_72 ?_
      refine o_iconst 74 W (2) d12_73 (by first | rfl | decide) ?_
      refine o_iload 76 W d12_74 rfl ?_
      refine o_imul 77 W d12_76 ?_
      show Go p e below _ _ (mkF m 77 #[.val (.ref o), .val (.int r), .val (.int ow), .val (.ref mi), .val (.double to), .second, .val (.double acc), .second, .val (.int (0 : Int32)), .val (.int w0)] [(.int (0 : Int32)), (.ref ry), (.double acc)])
      have G0 : Arv Z _ ry kry .double 4 [(.double x0), (.double z0), d2, d3] (.double 0) := H.get 4 rfl
      refine o_daloadV 78 W G0 (by decide) rfl d12_77 ?_
      refine o_aloadN 79 W d12_78 rfl rfl ?_
      refine o_getF 82 W (tw hw 22) (OBJ.get 2 rfl) d12_79 (fun T W => ?_)
      refine o_iloadN 83 W d12_82 rfl ?_
      have G0 : Arv Z _ ca kca (.array .double) 4 CL (.null) := H.get 1 rfl
      refine o_aaloadV 84 W G0 rfl hr hC d12_83 ?_
      refine o_iconst 85 W (2) d12_84 (by first | rfl | decide) ?_
      refine o_iload 87 W d12_85 rfl ?_
      refine o_imul 88 W d12_87 ?_
      refine o_iconst 89 W (1) d12_88 (by first | rfl | decide) ?_
      refine o_iadd 90 W d12_89 ?_
      show Go p e below _ _ (mkF m 90 #[.val (.ref o), .val (.int r), .val (.int ow), .val (.ref mi), .val (.double to), .second, .val (.double acc), .second, .val (.int (0 : Int32)), .val (.int w0)] [(.int (1 : Int32)), (.ref ry), (.double x0), (.double acc)])
      have G0 : Arv Z _ ry kry .double 4 [(.double x0), (.double z0), d2, d3] (.double 0) := H.get 4 rfl
      refine o_daloadV 91 W G0 (by decide) rfl d12_90 ?_
      refine o_daddQ 92 W hx0 hz0 (by omega) (hd := d12_91) (K := fun e1 he1 => ?_)
      refine o_ldc2D 95 W (tw hw 92) d12_92 ?_
      refine o_ddivQ 96 W 1 he1 own_2 (by omega) (hd := d12_95) (K := fun e2 he2 => ?_)
      refine o_aloadN 97 W d12_96 rfl rfl ?_
      refine o_iload 99 W d12_97 rfl ?_
      have G0 : Arv Z _ mi kmi .double 3 ML (.double 0) := H.get 5 rfl
      refine o_daloadV 100 W G0 hv0 hm0 d12_99 ?_
      refine o_dload 102 W d12_100 rfl ?_
      refine o_dsubQ 103 W ht0 hto (by omega) (hd := d12_102) (K := fun e3 he3 => ?_)
      refine o_dmulQ 104 W he2 he3 (by omega) (hd := d12_103) (K := fun e4 he4 => ?_)
      refine o_daddQ 105 W hacc he4 (by omega) (hd := d12_104) (K := fun e5 he5 => ?_)
      refine o_dstore 107 W #[.val (.ref o), .val (.int r), .val (.int ow), .val (.ref mi), .val (.double to), .second, .val (.double e5), .second, .val (.int (0 : Int32)), .val (.int w0)] d12_105 rfl ?_
      refine o_iinc 110 W (1) #[.val (.ref o), .val (.int r), .val (.int ow), .val (.ref mi), .val (.double to), .second, .val (.double e5), .second, .val (.int (1 : Int32)), .val (.int w0)] d12_107 rfl (by decide) rfl ?_
      refine o_goto 37 W d12_110 ?_
      exact L1 T e5 he5 W
  refine o_aloadN 1 W d12_0 rfl rfl ?_
  refine o_iloadN 2 W d12_1 rfl ?_
  have G0 : Arv Z _ mi kmi .double 3 ML (.double 0) := H.get 5 rfl
  refine o_daloadV 3 W G0 ho hmo d12_2 ?_
  refine o_dstore 5 W #[.val (.ref o), .val (.int r), .val (.int ow), .val (.ref mi), .val (.double to), .second, .unset, .unset, .unset, .unset] d12_3 rfl ?_
  refine o_aloadN 6 W d12_5 rfl rfl ?_
  refine o_getF 9 W (tw hw 30) (OBJ.get 5 rfl) d12_6 (fun T W => ?_)
  refine o_iconst 10 W (2) d12_9 (by first | rfl | decide) ?_
  refine o_iloadN 11 W d12_10 rfl ?_
  refine o_imul 12 W d12_11 ?_
  have G0 : Arv Z _ ea kea .double 8 EL (.double 0) := H.get 6 rfl
  refine o_daloadV 13 W G0 ki0 e0 d12_12 ?_
  refine o_aloadN 14 W d12_13 rfl rfl ?_
  refine o_getF 17 W (tw hw 30) (OBJ.get 5 rfl) d12_14 (fun T W => ?_)
  refine o_iconst 18 W (2) d12_17 (by first | rfl | decide) ?_
  refine o_iloadN 19 W d12_18 rfl ?_
  refine o_imul 20 W d12_19 ?_
  refine o_iconst 21 W (1) d12_20 (by first | rfl | decide) ?_
  refine o_iadd 22 W d12_21 ?_
  have G0 : Arv Z _ ea kea .double 8 EL (.double 0) := H.get 6 rfl
  refine o_daloadV 23 W G0 ki1 e1 d12_22 ?_
  refine o_daddQ 24 W hxl hxh (by omega) (hd := d12_23) (K := fun y1 hy1 => ?_)
  refine o_dnegQ 25 W hy1 (hd := d12_24) (K := fun y2 hy2 => ?_)
  refine o_ldc2D 28 W (tw hw 92) d12_25 ?_
  refine o_ddivQ 29 W 1 hy2 own_2 (by omega) (hd := d12_28) (K := fun y3 hy3 => ?_)
  refine o_dload 31 W d12_29 rfl ?_
  refine o_dmulQ 32 W hy3 hto (by omega) (hd := d12_31) (K := fun y4 hy4 => ?_)
  refine o_dstore 34 W #[.val (.ref o), .val (.int r), .val (.int ow), .val (.ref mi), .val (.double to), .second, .val (.double y4), .second, .unset, .unset] d12_32 rfl ?_
  refine o_iconst 35 W (0) d12_34 (by first | rfl | decide) ?_
  refine o_istore 37 W #[.val (.ref o), .val (.int r), .val (.int ow), .val (.ref mi), .val (.double to), .second, .val (.double y4), .second, .val (.int (0 : Int32)), .unset] d12_35 rfl ?_
  exact L0 T y4 hy4 W
theorem con_mc2 (l : Launch) (Z : State) (b0 : Array Value) (hw : ∀ d ∈ tables_1, d.before b0 Z = true) (o va ca la ka ea la2 ua uc sa ev er so rx ry mi : Addr) (kva kca kla kka kea kla2 kua kuc ksa kev ker kso krx kry kmi : ClassId) (rcv : Value) (r ow : Int32) (VL CL LL ML EL : List Value) (hr : ¬ r < 0 ∧ r < 4) (hV : VL.getD r.toNatClampNeg (.null) = .ref rx) (hC : CL.getD r.toNatClampNeg (.null) = .ref ry) (hL : LL.getD r.toNatClampNeg (.int 0) = .int 2) (ki0 : ¬ ((2 : Int32) * r) < 0 ∧ ((2 : Int32) * r) < 8) (ki1 : ¬ (((2 : Int32) * r) + (1 : Int32)) < 0 ∧ (((2 : Int32) * r) + (1 : Int32)) < 8) (xl xh to : UInt64) (el eh qo : Int) (hxl : DQ 5 el xl) (hxh : DQ 5 eh xh) (hto : DQ 0 qo to) (be : 0 ≤ el ∧ el ≤ 32 ∧ 0 ≤ eh ∧ eh ≤ 32 ∧ -2147483648 ≤ qo ∧ qo ≤ 2147483648) (e0 : EL.getD ((2 : Int32) * r).toNatClampNeg (.double 0) = .double xl) (e1 : EL.getD (((2 : Int32) * r) + (1 : Int32)).toNatClampNeg (.double 0) = .double xh) (ho : ¬ ow < 0 ∧ ow < 3) (hmo : ML.getD ow.toNatClampNeg (.double 0) = .double to) (w0 : Int32) (x0 z0 t0 : UInt64) (i0 j0 q0 : Int) (hx0 : DQ 5 i0 x0) (hz0 : DQ 5 j0 z0) (ht0 : DQ 0 q0 t0) (bd0 : 0 ≤ i0 ∧ i0 ≤ 32 ∧ 0 ≤ j0 ∧ j0 ≤ 32 ∧ -2147483648 ≤ q0 ∧ q0 ≤ 2147483648) (hv0 : ¬ w0 < 0 ∧ w0 < 3) (hm0 : ML.getD w0.toNatClampNeg (.double 0) = .double t0) (hq0 : w0 = ow → q0 = qo) (w1 : Int32) (x1 z1 t1 : UInt64) (i1 j1 q1 : Int) (hx1 : DQ 5 i1 x1) (hz1 : DQ 5 j1 z1) (ht1 : DQ 0 q1 t1) (bd1 : 0 ≤ i1 ∧ i1 ≤ 32 ∧ 0 ≤ j1 ∧ j1 ≤ 32 ∧ -2147483648 ≤ q1 ∧ q1 ≤ 2147483648) (hv1 : ¬ w1 < 0 ∧ w1 < 3) (hm1 : ML.getD w1.toNatClampNeg (.double 0) = .double t1) (hq1 : w1 = ow → q1 = qo) (h0 : Heap) (hE : Ext Z.heap h0) (OBJ : OB Z h0 o "com/example/markov_reachability/markovreachability/IntervalEquations" [("ceiling", "D", (.double FP.dconst1)), ("variables", "[[I", (.ref va)), ("coefficients", "[[D", (.ref ca)), ("length", "[I", (.ref la)), ("constant", "[D", (.ref ka)), ("exit", "[D", (.ref ea)), ("eliminating", "[Z", (.ref la2)), ("users", "[[I", (.ref ua)), ("userCount", "[I", (.ref uc)), ("substitutable", "[I", (.ref sa)), ("eliminatedVariable", "[I", (.ref ev)), ("eliminatedRow", "[I", (.ref er)), ("slot", "[I", (.ref so)), ("rowCount", "I", rcv)]) (H : HM Z h0 [(va, kva, (.array .int), 4, VL, (.null)), (ca, kca, (.array .double), 4, CL, (.null)), (la, kla, .int, 4, LL, (.int 0)), (rx, krx, .int, 2, [(.int w0), (.int w1)], (.int 0)), (ry, kry, .double, 4, [(.double x0), (.double z0), (.double x1), (.double z1)], (.double 0)), (mi, kmi, .double, 3, ML, (.double 0)), (ea, kea, .double, 8, EL, (.double 0))]) : Con l Z (⟨"com/example/markov_reachability/markovreachability/IntervalEquations", "middleChange", "(II[D)D"⟩ : MethodName) prog_32_method_20_code 10 (some .double) ({ frames := 0, cells := 0, slots := 0, locals := 0 } : Room) #[(.ref o), (.int r), (.int ow), (.ref mi)] h0 [] (QV fun w h => ∃ v, w = .double v ∧ DQ 6 (((-(el + eh) * qo + (i0 + j0) * (q0 - qo)) + (i1 + j1) * (q1 - qo))) v ∧ h0 = h) := by
  refine Con.of (plainFor_of_name pn2) hE ⟨b0, EW.nil⟩ all0 (L0 := #[.val (.ref o), .val (.int r), .val (.int ow), .val (.ref mi), .unset, .unset, .unset, .unset, .unset, .unset]) (fun m => by first | (simp [entryFrame, mkF, argsToLocals, Value.category]; done) | rfl) ?_
  intro p e s m args below meth c T W
  have pbE := own_pbn (s := -(el + eh)) (q := qo) (by omega) (by omega) (by omega) (by omega)
  have pb0 := own_pbn (s := i0 + j0) (q := q0 - qo) (by omega) (by omega) (by omega) (by omega)
  have pb1 := own_pbn (s := i1 + j1) (q := q1 - qo) (by omega) (by omega) (by omega) (by omega)
  have L2 : ∀ (T : State) (acc : UInt64), DQ 6 (((-(el + eh) * qo + (i0 + j0) * (q0 - qo)) + (i1 + j1) * (q1 - qo))) acc → Wk p l e ({ frames := 0, cells := 0, slots := 0, locals := 0 } : Room) s m args below meth c Z (⟨"com/example/markov_reachability/markovreachability/IntervalEquations", "middleChange", "(II[D)D"⟩ : MethodName) prog_32_method_20_code 10 (some .double) T h0 0 0 [] → Go p e below (Gd s below Z (QV fun w h => ∃ v, w = .double v ∧ DQ 6 (((-(el + eh) * qo + (i0 + j0) * (q0 - qo)) + (i1 + j1) * (q1 - qo))) v ∧ h0 = h) (({ frames := 0, cells := 0, slots := 0, locals := 0 } : Room)).cells (({ frames := 0, cells := 0, slots := 0, locals := 0 } : Room)).slots) T (mkF m 37 #[.val (.ref o), .val (.int r), .val (.int ow), .val (.ref mi), .val (.double to), .second, .val (.double acc), .second, .val (.int (2 : Int32)), .val (.int w1)] []) := by
    intro T acc hacc W
    refine o_iload 39 W d12_37 rfl ?_
    refine o_aloadN 40 W d12_39 rfl rfl ?_
    refine o_getF 43 W (tw hw 25) (OBJ.get 3 rfl) d12_40 (fun T W => ?_)
    refine o_iloadN 44 W d12_43 rfl ?_
    have G0 : Arv Z _ la kla .int 4 LL (.int 0) := H.get 2 rfl
    refine o_ialoadV 45 W G0 hr hL d12_44 ?_
    refine o_icY 113 W d12_45 (XT.ii_ge_t (by decide)) ?_
    refine o_dload 115 W d12_113 rfl ?_
    exact o_dret W d12_115 (⟨_, rfl, hacc, rfl⟩)
  have L1 : ∀ (T : State) (acc : UInt64), DQ 6 ((-(el + eh) * qo + (i0 + j0) * (q0 - qo))) acc → Wk p l e ({ frames := 0, cells := 0, slots := 0, locals := 0 } : Room) s m args below meth c Z (⟨"com/example/markov_reachability/markovreachability/IntervalEquations", "middleChange", "(II[D)D"⟩ : MethodName) prog_32_method_20_code 10 (some .double) T h0 0 0 [] → Go p e below (Gd s below Z (QV fun w h => ∃ v, w = .double v ∧ DQ 6 (((-(el + eh) * qo + (i0 + j0) * (q0 - qo)) + (i1 + j1) * (q1 - qo))) v ∧ h0 = h) (({ frames := 0, cells := 0, slots := 0, locals := 0 } : Room)).cells (({ frames := 0, cells := 0, slots := 0, locals := 0 } : Room)).slots) T (mkF m 37 #[.val (.ref o), .val (.int r), .val (.int ow), .val (.ref mi), .val (.double to), .second, .val (.double acc), .second, .val (.int (1 : Int32)), .val (.int w0)] []) := by
    intro T acc hacc W
    refine o_iload 39 W d12_37 rfl ?_
    refine o_aloadN 40 W d12_39 rfl rfl ?_
    refine o_getF 43 W (tw hw 25) (OBJ.get 3 rfl) d12_40 (fun T W => ?_)
    refine o_iloadN 44 W d12_43 rfl ?_
    have G0 : Arv Z _ la kla .int 4 LL (.int 0) := H.get 2 rfl
    refine o_ialoadV 45 W G0 hr hL d12_44 ?_
    refine o_icN 48 W d12_45 (XT.ii_ge_f (by decide)) ?_
    refine o_aloadN 49 W d12_48 rfl rfl ?_
    refine o_getF 52 W (tw hw 18) (OBJ.get 1 rfl) d12_49 (fun T W => ?_)
    refine o_iloadN 53 W d12_52 rfl ?_
    have G0 : Arv Z _ va kva (.array .int) 4 VL (.null) := H.get 0 rfl
    refine o_aaloadV 54 W G0 rfl hr hV d12_53 ?_
    refine o_iload 56 W d12_54 rfl ?_
    have G0 : Arv Z _ rx krx .int 2 [(.int w0), (.int w1)] (.int 0) := H.get 3 rfl
    refine o_ialoadV 57 W G0 (by decide) rfl d12_56 ?_
    refine o_istore 59 W #[.val (.ref o), .val (.int r), .val (.int ow), .val (.ref mi), .val (.double to), .second, .val (.double acc), .second, .val (.int (1 : Int32)), .val (.int w1)] d12_57 rfl ?_
    refine o_iload 61 W d12_59 rfl ?_
    refine o_iloadN 62 W d12_61 rfl ?_
    refine o_iceq 107 65 W d12_62 (fun c62 => ?_) (fun c62 => ?_)
    · refine o_iinc 110 W (2) #[.val (.ref o), .val (.int r), .val (.int ow), .val (.ref mi), .val (.double to), .second, .val (.double acc), .second, .val (.int (2 : Int32)), .val (.int w1)] d12_107 rfl (by decide) rfl ?_
      refine o_goto 37 W d12_110 ?_
      exact L2 T acc (by rw [hq1 c62, Int.sub_self, Int.mul_zero, Int.add_zero]; exact hacc) W
    · refine o_dload 67 W d12_65 rfl ?_
      refine o_aloadN 68 W d12_67 rfl rfl ?_
      refine o_getF 71 W (tw hw 22) (OBJ.get 2 rfl) d12_68 (fun T W => ?_)
      refine o_iloadN 72 W d12_71 rfl ?_
      have G0 : Arv Z _ ca kca (.array .double) 4 CL (.null) := H.get 1 rfl
      refine o_aaloadV 73 W G0 rfl hr hC d12_72 ?_
      refine o_iconst 74 W (2) d12_73 (by first | rfl | decide) ?_
      refine o_iload 76 W d12_74 rfl ?_
      refine o_imul 77 W d12_76 ?_
      show Go p e below _ _ (mkF m 77 #[.val (.ref o), .val (.int r), .val (.int ow), .val (.ref mi), .val (.double to), .second, .val (.double acc), .second, .val (.int (1 : Int32)), .val (.int w1)] [(.int (2 : Int32)), (.ref ry), (.double acc)])
      have G0 : Arv Z _ ry kry .double 4 [(.double x0), (.double z0), (.double x1), (.double z1)] (.double 0) := H.get 4 rfl
      refine o_daloadV 78 W G0 (by decide) rfl d12_77 ?_
      refine o_aloadN 79 W d12_78 rfl rfl ?_
      refine o_getF 82 W (tw hw 22) (OBJ.get 2 rfl) d12_79 (fun T W => ?_)
      refine o_iloadN 83 W d12_82 rfl ?_
      have G0 : Arv Z _ ca kca (.array .double) 4 CL (.null) := H.get 1 rfl
      refine o_aaloadV 84 W G0 rfl hr hC d12_83 ?_
      refine o_iconst 85 W (2) d12_84 (by first | rfl | decide) ?_
      refine o_iload 87 W d12_85 rfl ?_
      refine o_imul 88 W d12_87 ?_
      refine o_iconst 89 W (1) d12_88 (by first | rfl | decide) ?_
      refine o_iadd 90 W d12_89 ?_
      show Go p e below _ _ (mkF m 90 #[.val (.ref o), .val (.int r), .val (.int ow), .val (.ref mi), .val (.double to), .second, .val (.double acc), .second, .val (.int (1 : Int32)), .val (.int w1)] [(.int (3 : Int32)), (.ref ry), (.double x1), (.double acc)])
      have G0 : Arv Z _ ry kry .double 4 [(.double x0), (.double z0), (.double x1), (.double z1)] (.double 0) := H.get 4 rfl
      refine o_daloadV 91 W G0 (by decide) rfl d12_90 ?_
      refine o_daddQ 92 W hx1 hz1 (by omega) (hd := d12_91) (K := fun e1 he1 => ?_)
      refine o_ldc2D 95 W (tw hw 92) d12_92 ?_
      refine o_ddivQ 96 W 1 he1 own_2 (by omega) (hd := d12_95) (K := fun e2 he2 => ?_)
      refine o_aloadN 97 W d12_96 rfl rfl ?_
      refine o_iload 99 W d12_97 rfl ?_
      have G0 : Arv Z _ mi kmi .double 3 ML (.double 0) := H.get 5 rfl
      refine o_daloadV 100 W G0 hv1 hm1 d12_99 ?_
      refine o_dload 102 W d12_100 rfl ?_
      refine o_dsubQ 103 W ht1 hto (by omega) (hd := d12_102) (K := fun e3 he3 => ?_)
      refine o_dmulQ 104 W he2 he3 (by omega) (hd := d12_103) (K := fun e4 he4 => ?_)
      refine o_daddQ 105 W hacc he4 (by omega) (hd := d12_104) (K := fun e5 he5 => ?_)
      refine o_dstore 107 W #[.val (.ref o), .val (.int r), .val (.int ow), .val (.ref mi), .val (.double to), .second, .val (.double e5), .second, .val (.int (1 : Int32)), .val (.int w1)] d12_105 rfl ?_
      refine o_iinc 110 W (2) #[.val (.ref o), .val (.int r), .val (.int ow), .val (.ref mi), .val (.double to), .second, .val (.double e5), .second, .val (.int (2 : Int32)), .val (.int w1)] d12_107 rfl (by decide) rfl ?_
      refine o_goto 37 W d12_110 ?_
      exact L2 T e5 he5 W
  have L0 : ∀ (T : State) (acc : UInt64), DQ 6 (-(el + eh) * qo) acc → Wk p l e ({ frames := 0, cells := 0, slots := 0, locals := 0 } : Room) s m args below meth c Z (⟨"com/example/markov_reachability/markovreachability/IntervalEquations", "middleChange", "(II[D)D"⟩ : MethodName) prog_32_method_20_code 10 (some .double) T h0 0 0 [] → Go p e below (Gd s below Z (QV fun w h => ∃ v, w = .double v ∧ DQ 6 (((-(el + eh) * qo + (i0 + j0) * (q0 - qo)) + (i1 + j1) * (q1 - qo))) v ∧ h0 = h) (({ frames := 0, cells := 0, slots := 0, locals := 0 } : Room)).cells (({ frames := 0, cells := 0, slots := 0, locals := 0 } : Room)).slots) T (mkF m 37 #[.val (.ref o), .val (.int r), .val (.int ow), .val (.ref mi), .val (.double to), .second, .val (.double acc), .second, .val (.int (0 : Int32)), .unset] []) := by
    intro T acc hacc W
    refine o_iload 39 W d12_37 rfl ?_
    refine o_aloadN 40 W d12_39 rfl rfl ?_
    refine o_getF 43 W (tw hw 25) (OBJ.get 3 rfl) d12_40 (fun T W => ?_)
    refine o_iloadN 44 W d12_43 rfl ?_
    have G0 : Arv Z _ la kla .int 4 LL (.int 0) := H.get 2 rfl
    refine o_ialoadV 45 W G0 hr hL d12_44 ?_
    refine o_icN 48 W d12_45 (XT.ii_ge_f (by decide)) ?_
    refine o_aloadN 49 W d12_48 rfl rfl ?_
    refine o_getF 52 W (tw hw 18) (OBJ.get 1 rfl) d12_49 (fun T W => ?_)
    refine o_iloadN 53 W d12_52 rfl ?_
    have G0 : Arv Z _ va kva (.array .int) 4 VL (.null) := H.get 0 rfl
    refine o_aaloadV 54 W G0 rfl hr hV d12_53 ?_
    refine o_iload 56 W d12_54 rfl ?_
    have G0 : Arv Z _ rx krx .int 2 [(.int w0), (.int w1)] (.int 0) := H.get 3 rfl
    refine o_ialoadV 57 W G0 (by decide) rfl d12_56 ?_
    refine o_istore 59 W #[.val (.ref o), .val (.int r), .val (.int ow), .val (.ref mi), .val (.double to), .second, .val (.double acc), .second, .val (.int (0 : Int32)), .val (.int w0)] d12_57 rfl ?_
    refine o_iload 61 W d12_59 rfl ?_
    refine o_iloadN 62 W d12_61 rfl ?_
    refine o_iceq 107 65 W d12_62 (fun c62 => ?_) (fun c62 => ?_)
    · refine o_iinc 110 W (1) #[.val (.ref o), .val (.int r), .val (.int ow), .val (.ref mi), .val (.double to), .second, .val (.double acc), .second, .val (.int (1 : Int32)), .val (.int w0)] d12_107 rfl (by decide) rfl ?_
      refine o_goto 37 W d12_110 ?_
      exact L1 T acc (by rw [hq0 c62, Int.sub_self, Int.mul_zero, Int.add_zero]; exact hacc) W
    · refine o_dload 67 W d12_65 rfl ?_
      refine o_aloadN 68 W d12_67 rfl rfl ?_
      refine o_getF 71 W (tw hw 22) (OBJ.get 2 rfl) d12_68 (fun T W => ?_)
      refine o_iloadN 72 W d12_71 rfl ?_
      have G0 : Arv Z _ ca kca (.array .double) 4 CL (.null) := H.get 1 rfl
      refine o_aaloadV 73 W G0 rfl hr hC d12_72 ?_
      refine o_iconst 74 W (2) d12_73 (by first | rfl | decide) ?_
      refine o_iload 76 W d12_74 rfl ?_
      refine o_imul 77 W d12_76 ?_
      show Go p e below _ _ (mkF m 77 #[.val (.ref o), .val (.int r), .val (.int ow), .val (.ref mi), .val (.double to), .second, .val (.double acc), .second, .val (.int (0 : Int32)), .val (.int w0)] [(.int (0 : Int32)), (.ref ry), (.double acc)])
      have G0 : Arv Z _ ry kry .double 4 [(.double x0), (.double z0), (.double x1), (.double z1)] (.double 0) := H.get 4 rfl
      refine o_daloadV 78 W G0 (by decide) rfl d12_77 ?_
      refine o_aloadN 79 W d12_78 rfl rfl ?_
      refine o_getF 82 W (tw hw 22) (OBJ.get 2 rfl) d12_79 (fun T W => ?_)
      refine o_iloadN 83 W d12_82 rfl ?_
      have G0 : Arv Z _ ca kca (.array .double) 4 CL (.null) := H.get 1 rfl
      refine o_aaloadV 84 W G0 rfl hr hC d12_83 ?_
      refine o_iconst 85 W (2) d12_84 (by first | rfl | decide) ?_
      refine o_iload 87 W d12_85 rfl ?_
      refine o_imul 88 W d12_87 ?_
      refine o_iconst 89 W (1) d12_88 (by first | rfl | decide) ?_
      refine o_iadd 90 W d12_89 ?_
      show Go p e below _ _ (mkF m 90 #[.val (.ref o), .val (.int r), .val (.int ow), .val (.ref mi), .val (.double to), .second, .val (.double acc), .second, .val (.int (0 : Int32)), .val (.int w0)] [(.int (1 : Int32)), (.ref ry), (.double x0), (.double acc)])
      have G0 : Arv Z _ ry kry .double 4 [(.double x0), (.double z0), (.double x1), (.double z1)] (.double 0) := H.get 4 rfl
      refine o_daloadV 91 W G0 (by decide) rfl d12_90 ?_
      refine o_daddQ 92 W hx0 hz0 (by omega) (hd := d12_91) (K := fun e1 he1 => ?_)
      refine o_ldc2D 95 W (tw hw 92) d12_92 ?_
      refine o_ddivQ 96 W 1 he1 own_2 (by omega) (hd := d12_95) (K := fun e2 he2 => ?_)
      refine o_aloadN 97 W d12_96 rfl rfl ?_
      refine o_iload 99 W d12_97 rfl ?_
      have G0 : Arv Z _ mi kmi .double 3 ML (.double 0) := H.get 5 rfl
      refine o_daloadV 100 W G0 hv0 hm0 d12_99 ?_
      refine o_dload 102 W d12_100 rfl ?_
      refine o_dsubQ 103 W ht0 hto (by omega) (hd := d12_102) (K := fun e3 he3 => ?_)
      refine o_dmulQ 104 W he2 he3 (by omega) (hd := d12_103) (K := fun e4 he4 => ?_)
      refine o_daddQ 105 W hacc he4 (by omega) (hd := d12_104) (K := fun e5 he5 => ?_)
      refine o_dstore 107 W #[.val (.ref o), .val (.int r), .val (.int ow), .val (.ref mi), .val (.double to), .second, .val (.double e5), .second, .val (.int (0 : Int32)), .val (.int w0)] d12_105 rfl ?_
      refine o_iinc 110 W (1) #[.val (.ref o), .val (.int r), .val (.int ow), .val (.ref mi), .val (.double to), .second, .val (.double e5), .second, .val (.int (1 : Int32)), .val (.int w0)] d12_107 rfl (by decide) rfl ?_
      refine o_goto 37 W d12_110 ?_
      exact L1 T e5 he5 W
  refine o_aloadN 1 W d12_0 rfl rfl ?_
  refine o_iloadN 2 W d12_1 rfl ?_
  have G0 : Arv Z _ mi kmi .double 3 ML (.double 0) := H.get 5 rfl
  refine o_daloadV 3 W G0 ho hmo d12_2 ?_
  refine o_dstore 5 W #[.val (.ref o), .val (.int r), .val (.int ow), .val (.ref mi), .val (.double to), .second, .unset, .unset, .unset, .unset] d12_3 rfl ?_
  refine o_aloadN 6 W d12_5 rfl rfl ?_
  refine o_getF 9 W (tw hw 30) (OBJ.get 5 rfl) d12_6 (fun T W => ?_)
  refine o_iconst 10 W (2) d12_9 (by first | rfl | decide) ?_
  refine o_iloadN 11 W d12_10 rfl ?_
  refine o_imul 12 W d12_11 ?_
  have G0 : Arv Z _ ea kea .double 8 EL (.double 0) := H.get 6 rfl
  refine o_daloadV 13 W G0 ki0 e0 d12_12 ?_
  refine o_aloadN 14 W d12_13 rfl rfl ?_
  refine o_getF 17 W (tw hw 30) (OBJ.get 5 rfl) d12_14 (fun T W => ?_)
  refine o_iconst 18 W (2) d12_17 (by first | rfl | decide) ?_
  refine o_iloadN 19 W d12_18 rfl ?_
  refine o_imul 20 W d12_19 ?_
  refine o_iconst 21 W (1) d12_20 (by first | rfl | decide) ?_
  refine o_iadd 22 W d12_21 ?_
  have G0 : Arv Z _ ea kea .double 8 EL (.double 0) := H.get 6 rfl
  refine o_daloadV 23 W G0 ki1 e1 d12_22 ?_
  refine o_daddQ 24 W hxl hxh (by omega) (hd := d12_23) (K := fun y1 hy1 => ?_)
  refine o_dnegQ 25 W hy1 (hd := d12_24) (K := fun y2 hy2 => ?_)
  refine o_ldc2D 28 W (tw hw 92) d12_25 ?_
  refine o_ddivQ 29 W 1 hy2 own_2 (by omega) (hd := d12_28) (K := fun y3 hy3 => ?_)
  refine o_dload 31 W d12_29 rfl ?_
  refine o_dmulQ 32 W hy3 hto (by omega) (hd := d12_31) (K := fun y4 hy4 => ?_)
  refine o_dstore 34 W #[.val (.ref o), .val (.int r), .val (.int ow), .val (.ref mi), .val (.double to), .second, .val (.double y4), .second, .unset, .unset] d12_32 rfl ?_
  refine o_iconst 35 W (0) d12_34 (by first | rfl | decide) ?_
  refine o_istore 37 W #[.val (.ref o), .val (.int r), .val (.int ow), .val (.ref mi), .val (.double to), .second, .val (.double y4), .second, .val (.int (0 : Int32)), .unset] d12_35 rfl ?_
  exact L0 T y4 hy4 W
theorem con_mc3 (l : Launch) (Z : State) (b0 : Array Value) (hw : ∀ d ∈ tables_1, d.before b0 Z = true) (o va ca la ka ea la2 ua uc sa ev er so rx ry mi : Addr) (kva kca kla kka kea kla2 kua kuc ksa kev ker kso krx kry kmi : ClassId) (rcv : Value) (r ow : Int32) (VL CL LL ML EL : List Value) (a3 d6 d7 : Value) (hr : ¬ r < 0 ∧ r < 4) (hV : VL.getD r.toNatClampNeg (.null) = .ref rx) (hC : CL.getD r.toNatClampNeg (.null) = .ref ry) (hL : LL.getD r.toNatClampNeg (.int 0) = .int 3) (ki0 : ¬ ((2 : Int32) * r) < 0 ∧ ((2 : Int32) * r) < 8) (ki1 : ¬ (((2 : Int32) * r) + (1 : Int32)) < 0 ∧ (((2 : Int32) * r) + (1 : Int32)) < 8) (xl xh to : UInt64) (el eh qo : Int) (hxl : DQ 5 el xl) (hxh : DQ 5 eh xh) (hto : DQ 0 qo to) (be : 0 ≤ el ∧ el ≤ 32 ∧ 0 ≤ eh ∧ eh ≤ 32 ∧ -2147483648 ≤ qo ∧ qo ≤ 2147483648) (e0 : EL.getD ((2 : Int32) * r).toNatClampNeg (.double 0) = .double xl) (e1 : EL.getD (((2 : Int32) * r) + (1 : Int32)).toNatClampNeg (.double 0) = .double xh) (ho : ¬ ow < 0 ∧ ow < 3) (hmo : ML.getD ow.toNatClampNeg (.double 0) = .double to) (w0 : Int32) (x0 z0 t0 : UInt64) (i0 j0 q0 : Int) (hx0 : DQ 5 i0 x0) (hz0 : DQ 5 j0 z0) (ht0 : DQ 0 q0 t0) (bd0 : 0 ≤ i0 ∧ i0 ≤ 32 ∧ 0 ≤ j0 ∧ j0 ≤ 32 ∧ -2147483648 ≤ q0 ∧ q0 ≤ 2147483648) (hv0 : ¬ w0 < 0 ∧ w0 < 3) (hm0 : ML.getD w0.toNatClampNeg (.double 0) = .double t0) (hq0 : w0 = ow → q0 = qo) (w1 : Int32) (x1 z1 t1 : UInt64) (i1 j1 q1 : Int) (hx1 : DQ 5 i1 x1) (hz1 : DQ 5 j1 z1) (ht1 : DQ 0 q1 t1) (bd1 : 0 ≤ i1 ∧ i1 ≤ 32 ∧ 0 ≤ j1 ∧ j1 ≤ 32 ∧ -2147483648 ≤ q1 ∧ q1 ≤ 2147483648) (hv1 : ¬ w1 < 0 ∧ w1 < 3) (hm1 : ML.getD w1.toNatClampNeg (.double 0) = .double t1) (hq1 : w1 = ow → q1 = qo) (w2 : Int32) (x2 z2 t2 : UInt64) (i2 j2 q2 : Int) (hx2 : DQ 5 i2 x2) (hz2 : DQ 5 j2 z2) (ht2 : DQ 0 q2 t2) (bd2 : 0 ≤ i2 ∧ i2 ≤ 32 ∧ 0 ≤ j2 ∧ j2 ≤ 32 ∧ -2147483648 ≤ q2 ∧ q2 ≤ 2147483648) (hv2 : ¬ w2 < 0 ∧ w2 < 3) (hm2 : ML.getD w2.toNatClampNeg (.double 0) = .double t2) (hq2 : w2 = ow → q2 = qo) (h0 : Heap) (hE : Ext Z.heap h0) (OBJ : OB Z h0 o "com/example/markov_reachability/markovreachability/IntervalEquations" [("ceiling", "D", (.double FP.dconst1)), ("variables", "[[I", (.ref va)), ("coefficients", "[[D", (.ref ca)), ("length", "[I", (.ref la)), ("constant", "[D", (.ref ka)), ("exit", "[D", (.ref ea)), ("eliminating", "[Z", (.ref la2)), ("users", "[[I", (.ref ua)), ("userCount", "[I", (.ref uc)), ("substitutable", "[I", (.ref sa)), ("eliminatedVariable", "[I", (.ref ev)), ("eliminatedRow", "[I", (.ref er)), ("slot", "[I", (.ref so)), ("rowCount", "I", rcv)]) (H : HM Z h0 [(va, kva, (.array .int), 4, VL, (.null)), (ca, kca, (.array .double), 4, CL, (.null)), (la, kla, .int, 4, LL, (.int 0)), (rx, krx, .int, 4, [(.int w0), (.int w1), (.int w2), a3], (.int 0)), (ry, kry, .double, 8, [(.double x0), (.double z0), (.double x1), (.double z1), (.double x2), (.double z2), d6, d7], (.double 0)), (mi, kmi, .double, 3, ML, (.double 0)), (ea, kea, .double, 8, EL, (.double 0))]) : Con l Z (⟨"com/example/markov_reachability/markovreachability/IntervalEquations", "middleChange", "(II[D)D"⟩ : MethodName) prog_32_method_20_code 10 (some .double) ({ frames := 0, cells := 0, slots := 0, locals := 0 } : Room) #[(.ref o), (.int r), (.int ow), (.ref mi)] h0 [] (QV fun w h => ∃ v, w = .double v ∧ DQ 6 ((((-(el + eh) * qo + (i0 + j0) * (q0 - qo)) + (i1 + j1) * (q1 - qo)) + (i2 + j2) * (q2 - qo))) v ∧ h0 = h) := by
  refine Con.of (plainFor_of_name pn2) hE ⟨b0, EW.nil⟩ all0 (L0 := #[.val (.ref o), .val (.int r), .val (.int ow), .val (.ref mi), .unset, .unset, .unset, .unset, .unset, .unset]) (fun m => by first | (simp [entryFrame, mkF, argsToLocals, Value.category]; done) | rfl) ?_
  intro p e s m args below meth c T W
  have pbE := own_pbn (s := -(el + eh)) (q := qo) (by omega) (by omega) (by omega) (by omega)
  have pb0 := own_pbn (s := i0 + j0) (q := q0 - qo) (by omega) (by omega) (by omega) (by omega)
  have pb1 := own_pbn (s := i1 + j1) (q := q1 - qo) (by omega) (by omega) (by omega) (by omega)
  have pb2 := own_pbn (s := i2 + j2) (q := q2 - qo) (by omega) (by omega) (by omega) (by omega)
  have L3 : ∀ (T : State) (acc : UInt64), DQ 6 ((((-(el + eh) * qo + (i0 + j0) * (q0 - qo)) + (i1 + j1) * (q1 - qo)) + (i2 + j2) * (q2 - qo))) acc → Wk p l e ({ frames := 0, cells := 0, slots := 0, locals := 0 } : Room) s m args below meth c Z (⟨"com/example/markov_reachability/markovreachability/IntervalEquations", "middleChange", "(II[D)D"⟩ : MethodName) prog_32_method_20_code 10 (some .double) T h0 0 0 [] → Go p e below (Gd s below Z (QV fun w h => ∃ v, w = .double v ∧ DQ 6 ((((-(el + eh) * qo + (i0 + j0) * (q0 - qo)) + (i1 + j1) * (q1 - qo)) + (i2 + j2) * (q2 - qo))) v ∧ h0 = h) (({ frames := 0, cells := 0, slots := 0, locals := 0 } : Room)).cells (({ frames := 0, cells := 0, slots := 0, locals := 0 } : Room)).slots) T (mkF m 37 #[.val (.ref o), .val (.int r), .val (.int ow), .val (.ref mi), .val (.double to), .second, .val (.double acc), .second, .val (.int (3 : Int32)), .val (.int w2)] []) := by
    intro T acc hacc W
    refine o_iload 39 W d12_37 rfl ?_
    refine o_aloadN 40 W d12_39 rfl rfl ?_
    refine o_getF 43 W (tw hw 25) (OBJ.get 3 rfl) d12_40 (fun T W => ?_)
    refine o_iloadN 44 W d12_43 rfl ?_
    have G0 : Arv Z _ la kla .int 4 LL (.int 0) := H.get 2 rfl
    refine o_ialoadV 45 W G0 hr hL d12_44 ?_
    refine o_icY 113 W d12_45 (XT.ii_ge_t (by decide)) ?_
    refine o_dload 115 W d12_113 rfl ?_
    exact o_dret W d12_115 (⟨_, rfl, hacc, rfl⟩)
  have L2 : ∀ (T : State) (acc : UInt64), DQ 6 (((-(el + eh) * qo + (i0 + j0) * (q0 - qo)) + (i1 + j1) * (q1 - qo))) acc → Wk p l e ({ frames := 0, cells := 0, slots := 0, locals := 0 } : Room) s m args below meth c Z (⟨"com/example/markov_reachability/markovreachability/IntervalEquations", "middleChange", "(II[D)D"⟩ : MethodName) prog_32_method_20_code 10 (some .double) T h0 0 0 [] → Go p e below (Gd s below Z (QV fun w h => ∃ v, w = .double v ∧ DQ 6 ((((-(el + eh) * qo + (i0 + j0) * (q0 - qo)) + (i1 + j1) * (q1 - qo)) + (i2 + j2) * (q2 - qo))) v ∧ h0 = h) (({ frames := 0, cells := 0, slots := 0, locals := 0 } : Room)).cells (({ frames := 0, cells := 0, slots := 0, locals := 0 } : Room)).slots) T (mkF m 37 #[.val (.ref o), .val (.int r), .val (.int ow), .val (.ref mi), .val (.double to), .second, .val (.double acc), .second, .val (.int (2 : Int32)), .val (.int w1)] []) := by
    intro T acc hacc W
    refine o_iload 39 W d12_37 rfl ?_
    refine o_aloadN 40 W d12_39 rfl rfl ?_
    refine o_getF 43 W (tw hw 25) (OBJ.get 3 rfl) d12_40 (fun T W => ?_)
    refine o_iloadN 44 W d12_43 rfl ?_
    have G0 : Arv Z _ la kla .int 4 LL (.int 0) := H.get 2 rfl
    refine o_ialoadV 45 W G0 hr hL d12_44 ?_
    refine o_icN 48 W d12_45 (XT.ii_ge_f (by decide)) ?_
    refine o_aloadN 49 W d12_48 rfl rfl ?_
    refine o_getF 52 W (tw hw 18) (OBJ.get 1 rfl) d12_49 (fun T W => ?_)
    refine o_iloadN 53 W d12_52 rfl ?_
    have G0 : Arv Z _ va kva (.array .int) 4 VL (.null) := H.get 0 rfl
    refine o_aaloadV 54 W G0 rfl hr hV d12_53 ?_
    refine o_iload 56 W d12_54 rfl ?_
    have G0 : Arv Z _ rx krx .int 4 [(.int w0), (.int w1), (.int w2), a3] (.int 0) := H.get 3 rfl
    refine o_ialoadV 57 W G0 (by decide) rfl d12_56 ?_
    refine o_istore 59 W #[.val (.ref o), .val (.int r), .val (.int ow), .val (.ref mi), .val (.double to), .second, .val (.double acc), .second, .val (.int (2 : Int32)), .val (.int w2)] d12_57 rfl ?_
    refine o_iload 61 W d12_59 rfl ?_
    refine o_iloadN 62 W d12_61 rfl ?_
    refine o_iceq 107 65 W d12_62 (fun c62 => ?_) (fun c62 => ?_)
    · refine o_iinc 110 W (3) #[.val (.ref o), .val (.int r), .val (.int ow), .val (.ref mi), .val (.double to), .second, .val (.double acc), .second, .val (.int (3 : Int32)), .val (.int w2)] d12_107 rfl (by decide) rfl ?_
      refine o_goto 37 W d12_110 ?_
      exact L3 T acc (by rw [hq2 c62, Int.sub_self, Int.mul_zero, Int.add_zero]; exact hacc) W
    · refine o_dload 67 W d12_65 rfl ?_
      refine o_aloadN 68 W d12_67 rfl rfl ?_
      refine o_getF 71 W (tw hw 22) (OBJ.get 2 rfl) d12_68 (fun T W => ?_)
      refine o_iloadN 72 W d12_71 rfl ?_
      have G0 : Arv Z _ ca kca (.array .double) 4 CL (.null) := H.get 1 rfl
      refine o_aaloadV 73 W G0 rfl hr hC d12_72 ?_
      refine o_iconst 74 W (2) d12_73 (by first | rfl | decide) ?_
      refine o_iload 76 W d12_74 rfl ?_
      refine o_imul 77 W d12_76 ?_
      show Go p e below _ _ (mkF m 77 #[.val (.ref o), .val (.int r), .val (.int ow), .val (.ref mi), .val (.double to), .second, .val (.double acc), .second, .val (.int (2 : Int32)), .val (.int w2)] [(.int (4 : Int32)), (.ref ry), (.double acc)])
      have G0 : Arv Z _ ry kry .double 8 [(.double x0), (.double z0), (.double x1), (.double z1), (.double x2), (.double z2), d6, d7] (.double 0) := H.get 4 rfl
      refine o_daloadV 78 W G0 (by decide) rfl d12_77 ?_
      refine o_aloadN 79 W d12_78 rfl rfl ?_
      refine o_getF 82 W (tw hw 22) (OBJ.get 2 rfl) d12_79 (fun T W => ?_)
      refine o_iloadN 83 W d12_82 rfl ?_
      have G0 : Arv Z _ ca kca (.array .double) 4 CL (.null) := H.get 1 rfl
      refine o_aaloadV 84 W G0 rfl hr hC d12_83 ?_
      refine o_iconst 85 W (2) d12_84 (by first | rfl | decide) ?_
      refine o_iload 87 W d12_85 rfl ?_
      refine o_imul 88 W d12_87 ?_
      refine o_iconst 89 W (1) d12_88 (by first | rfl | decide) ?_
      refine o_iadd 90 W d12_89 ?_
      show Go p e below _ _ (mkF m 90 #[.val (.ref o), .val (.int r), .val (.int ow), .val (.ref mi), .val (.double to), .second, .val (.double acc), .second, .val (.int (2 : Int32)), .val (.int w2)] [(.int (5 : Int32)), (.ref ry), (.double x2), (.double acc)])
      have G0 : Arv Z _ ry kry .double 8 [(.double x0), (.double z0), (.double x1), (.double z1), (.double x2), (.double z2), d6, d7] (.double 0) := H.get 4 rfl
      refine o_daloadV 91 W G0 (by decide) rfl d12_90 ?_
      refine o_daddQ 92 W hx2 hz2 (by omega) (hd := d12_91) (K := fun e1 he1 => ?_)
      refine o_ldc2D 95 W (tw hw 92) d12_92 ?_
      refine o_ddivQ 96 W 1 he1 own_2 (by omega) (hd := d12_95) (K := fun e2 he2 => ?_)
      refine o_aloadN 97 W d12_96 rfl rfl ?_
      refine o_iload 99 W d12_97 rfl ?_
      have G0 : Arv Z _ mi kmi .double 3 ML (.double 0) := H.get 5 rfl
      refine o_daloadV 100 W G0 hv2 hm2 d12_99 ?_
      refine o_dload 102 W d12_100 rfl ?_
      refine o_dsubQ 103 W ht2 hto (by omega) (hd := d12_102) (K := fun e3 he3 => ?_)
      refine o_dmulQ 104 W he2 he3 (by omega) (hd := d12_103) (K := fun e4 he4 => ?_)
      refine o_daddQ 105 W hacc he4 (by omega) (hd := d12_104) (K := fun e5 he5 => ?_)
      refine o_dstore 107 W #[.val (.ref o), .val (.int r), .val (.int ow), .val (.ref mi), .val (.double to), .second, .val (.double e5), .second, .val (.int (2 : Int32)), .val (.int w2)] d12_105 rfl ?_
      refine o_iinc 110 W (3) #[.val (.ref o), .val (.int r), .val (.int ow), .val (.ref mi), .val (.double to), .second, .val (.double e5), .second, .val (.int (3 : Int32)), .val (.int w2)] d12_107 rfl (by decide) rfl ?_
      refine o_goto 37 W d12_110 ?_
      exact L3 T e5 he5 W
  have L1 : ∀ (T : State) (acc : UInt64), DQ 6 ((-(el + eh) * qo + (i0 + j0) * (q0 - qo))) acc → Wk p l e ({ frames := 0, cells := 0, slots := 0, locals := 0 } : Room) s m args below meth c Z (⟨"com/example/markov_reachability/markovreachability/IntervalEquations", "middleChange", "(II[D)D"⟩ : MethodName) prog_32_method_20_code 10 (some .double) T h0 0 0 [] → Go p e below (Gd s below Z (QV fun w h => ∃ v, w = .double v ∧ DQ 6 ((((-(el + eh) * qo + (i0 + j0) * (q0 - qo)) + (i1 + j1) * (q1 - qo)) + (i2 + j2) * (q2 - qo))) v ∧ h0 = h) (({ frames := 0, cells := 0, slots := 0, locals := 0 } : Room)).cells (({ frames := 0, cells := 0, slots := 0, locals := 0 } : Room)).slots) T (mkF m 37 #[.val (.ref o), .val (.int r), .val (.int ow), .val (.ref mi), .val (.double to), .second, .val (.double acc), .second, .val (.int (1 : Int32)), .val (.int w0)] []) := by
    intro T acc hacc W
    refine o_iload 39 W d12_37 rfl ?_
    refine o_aloadN 40 W d12_39 rfl rfl ?_
    refine o_getF 43 W (tw hw 25) (OBJ.get 3 rfl) d12_40 (fun T W => ?_)
    refine o_iloadN 44 W d12_43 rfl ?_
    have G0 : Arv Z _ la kla .int 4 LL (.int 0) := H.get 2 rfl
    refine o_ialoadV 45 W G0 hr hL d12_44 ?_
    refine o_icN 48 W d12_45 (XT.ii_ge_f (by decide)) ?_
    refine o_aloadN 49 W d12_48 rfl rfl ?_
    refine o_getF 52 W (tw hw 18) (OBJ.get 1 rfl) d12_49 (fun T W => ?_)
    refine o_iloadN 53 W d12_52 rfl ?_
    have G0 : Arv Z _ va kva (.array .int) 4 VL (.null) := H.get 0 rfl
    refine o_aaloadV 54 W G0 rfl hr hV d12_53 ?_
    refine o_iload 56 W d12_54 rfl ?_
    have G0 : Arv Z _ rx krx .int 4 [(.int w0), (.int w1), (.int w2), a3] (.int 0) := H.get 3 rfl
    refine o_ialoadV 57 W G0 (by decide) rfl d12_56 ?_
    refine o_istore 59 W #[.val (.ref o), .val (.int r), .val (.int ow), .val (.ref mi), .val (.double to), .second, .val (.double acc), .second, .val (.int (1 : Int32)), .val (.int w1)] d12_57 rfl ?_
    refine o_iload 61 W d12_59 rfl ?_
    refine o_iloadN 62 W d12_61 rfl ?_
    refine o_iceq 107 65 W d12_62 (fun c62 => ?_) (fun c62 => ?_)
    · refine o_iinc 110 W (2) #[.val (.ref o), .val (.int r), .val (.int ow), .val (.ref mi), .val (.double to), .second, .val (.double acc), .second, .val (.int (2 : Int32)), .val (.int w1)] d12_107 rfl (by decide) rfl ?_
      refine o_goto 37 W d12_110 ?_
      exact L2 T acc (by rw [hq1 c62, Int.sub_self, Int.mul_zero, Int.add_zero]; exact hacc) W
    · refine o_dload 67 W d12_65 rfl ?_
      refine o_aloadN 68 W d12_67 rfl rfl ?_
      refine o_getF 71 W (tw hw 22) (OBJ.get 2 rfl) d12_68 (fun T W => ?_)
      refine o_iloadN 72 W d12_71 rfl ?_
      have G0 : Arv Z _ ca kca (.array .double) 4 CL (.null) := H.get 1 rfl
      refine o_aaloadV 73 W G0 rfl hr hC d12_72 ?_
      refine o_iconst 74 W (2) d12_73 (by first | rfl | decide) ?_
      refine o_iload 76 W d12_74 rfl ?_
      refine o_imul 77 W d12_76 ?_
      show Go p e below _ _ (mkF m 77 #[.val (.ref o), .val (.int r), .val (.int ow), .val (.ref mi), .val (.double to), .second, .val (.double acc), .second, .val (.int (1 : Int32)), .val (.int w1)] [(.int (2 : Int32)), (.ref ry), (.double acc)])
      have G0 : Arv Z _ ry kry .double 8 [(.double x0), (.double z0), (.double x1), (.double z1), (.double x2), (.double z2), d6, d7] (.double 0) := H.get 4 rfl
      refine o_daloadV 78 W G0 (by decide) rfl d12_77 ?_
      refine o_aloadN 79 W d12_78 rfl rfl ?_
      refine o_getF 82 W (tw hw 22) (OBJ.get 2 rfl) d12_79 (fun T W => ?_)
      refine o_iloadN 83 W d12_82 rfl ?_
      have G0 : Arv Z _ ca kca (.array .double) 4 CL (.null) := H.get 1 rfl
      refine o_aaloadV 84 W G0 rfl hr hC d12_83 ?_
      refine o_iconst 85 W (2) d12_84 (by first | rfl | decide) ?_
      refine o_iload 87 W d12_85 rfl ?_
      refine o_imul 88 W d12_87 ?_
      refine o_iconst 89 W (1) d12_88 (by first | rfl | decide) ?_
      refine o_iadd 90 W d12_89 ?_
      show Go p e below _ _ (mkF m 90 #[.val (.ref o), .val (.int r), .val (.int ow), .val (.ref mi), .val (.double to), .second, .val (.double acc), .second, .val (.int (1 : Int32)), .val (.int w1)] [(.int (3 : Int32)), (.ref ry), (.double x1), (.double acc)])
      have G0 : Arv Z _ ry kry .double 8 [(.double x0), (.double z0), (.double x1), (.double z1), (.double x2), (.double z2), d6, d7] (.double 0) := H.get 4 rfl
      refine o_daloadV 91 W G0 (by decide) rfl d12_90 ?_
      refine o_daddQ 92 W hx1 hz1 (by omega) (hd := d12_91) (K := fun e1 he1 => ?_)
      refine o_ldc2D 95 W (tw hw 92) d12_92 ?_
      refine o_ddivQ 96 W 1 he1 own_2 (by omega) (hd := d12_95) (K := fun e2 he2 => ?_)
      refine o_aloadN 97 W d12_96 rfl rfl ?_
      refine o_iload 99 W d12_97 rfl ?_
      have G0 : Arv Z _ mi kmi .double 3 ML (.double 0) := H.get 5 rfl
      refine o_daloadV 100 W G0 hv1 hm1 d12_99 ?_
      refine o_dload 102 W d12_100 rfl ?_
      refine o_dsubQ 103 W ht1 hto (by omega) (hd := d12_102) (K := fun e3 he3 => ?_)
      refine o_dmulQ 104 W he2 he3 (by omega) (hd := d12_103) (K := fun e4 he4 => ?_)
      refine o_daddQ 105 W hacc he4 (by omega) (hd := d12_104) (K := fun e5 he5 => ?_)
      refine o_dstore 107 W #[.val (.ref o), .val (.int r), .val (.int ow), .val (.ref mi), .val (.double to), .second, .val (.double e5), .second, .val (.int (1 : Int32)), .val (.int w1)] d12_105 rfl ?_
      refine o_iinc 110 W (2) #[.val (.ref o), .val (.int r), .val (.int ow), .val (.ref mi), .val (.double to), .second, .val (.double e5), .second, .val (.int (2 : Int32)), .val (.int w1)] d12_107 rfl (by decide) rfl ?_
      refine o_goto 37 W d12_110 ?_
      exact L2 T e5 he5 W
  have L0 : ∀ (T : State) (acc : UInt64), DQ 6 (-(el + eh) * qo) acc → Wk p l e ({ frames := 0, cells := 0, slots := 0, locals := 0 } : Room) s m args below meth c Z (⟨"com/example/markov_reachability/markovreachability/IntervalEquations", "middleChange", "(II[D)D"⟩ : MethodName) prog_32_method_20_code 10 (some .double) T h0 0 0 [] → Go p e below (Gd s below Z (QV fun w h => ∃ v, w = .double v ∧ DQ 6 ((((-(el + eh) * qo + (i0 + j0) * (q0 - qo)) + (i1 + j1) * (q1 - qo)) + (i2 + j2) * (q2 - qo))) v ∧ h0 = h) (({ frames := 0, cells := 0, slots := 0, locals := 0 } : Room)).cells (({ frames := 0, cells := 0, slots := 0, locals := 0 } : Room)).slots) T (mkF m 37 #[.val (.ref o), .val (.int r), .val (.int ow), .val (.ref mi), .val (.double to), .second, .val (.double acc), .second, .val (.int (0 : Int32)), .unset] []) := by
    intro T acc hacc W
    refine o_iload 39 W d12_37 rfl ?_
    refine o_aloadN 40 W d12_39 rfl rfl ?_
    refine o_getF 43 W (tw hw 25) (OBJ.get 3 rfl) d12_40 (fun T W => ?_)
    refine o_iloadN 44 W d12_43 rfl ?_
    have G0 : Arv Z _ la kla .int 4 LL (.int 0) := H.get 2 rfl
    refine o_ialoadV 45 W G0 hr hL d12_44 ?_
    refine o_icN 48 W d12_45 (XT.ii_ge_f (by decide)) ?_
    refine o_aloadN 49 W d12_48 rfl rfl ?_
    refine o_getF 52 W (tw hw 18) (OBJ.get 1 rfl) d12_49 (fun T W => ?_)
    refine o_iloadN 53 W d12_52 rfl ?_
    have G0 : Arv Z _ va kva (.array .int) 4 VL (.null) := H.get 0 rfl
    refine o_aaloadV 54 W G0 rfl hr hV d12_53 ?_
    refine o_iload 56 W d12_54 rfl ?_
    have G0 : Arv Z _ rx krx .int 4 [(.int w0), (.int w1), (.int w2), a3] (.int 0) := H.get 3 rfl
    refine o_ialoadV 57 W G0 (by decide) rfl d12_56 ?_
    refine o_istore 59 W #[.val (.ref o), .val (.int r), .val (.int ow), .val (.ref mi), .val (.double to), .second, .val (.double acc), .second, .val (.int (0 : Int32)), .val (.int w0)] d12_57 rfl ?_
    refine o_iload 61 W d12_59 rfl ?_
    refine o_iloadN 62 W d12_61 rfl ?_
    refine o_iceq 107 65 W d12_62 (fun c62 => ?_) (fun c62 => ?_)
    · refine o_iinc 110 W (1) #[.val (.ref o), .val (.int r), .val (.int ow), .val (.ref mi), .val (.double to), .second, .val (.double acc), .second, .val (.int (1 : Int32)), .val (.int w0)] d12_107 rfl (by decide) rfl ?_
      refine o_goto 37 W d12_110 ?_
      exact L1 T acc (by rw [hq0 c62, Int.sub_self, Int.mul_zero, Int.add_zero]; exact hacc) W
    · refine o_dload 67 W d12_65 rfl ?_
      refine o_aloadN 68 W d12_67 rfl rfl ?_
      refine o_getF 71 W (tw hw 22) (OBJ.get 2 rfl) d12_68 (fun T W => ?_)
      refine o_iloadN 72 W d12_71 rfl ?_
      have G0 : Arv Z _ ca kca (.array .double) 4 CL (.null) := H.get 1 rfl
      refine o_aaloadV 73 W G0 rfl hr hC d12_72 ?_
      refine o_iconst 74 W (2) d12_73 (by first | rfl | decide) ?_
      refine o_iload 76 W d12_74 rfl ?_
      refine o_imul 77 W d12_76 ?_
      show Go p e below _ _ (mkF m 77 #[.val (.ref o), .val (.int r), .val (.int ow), .val (.ref mi), .val (.double to), .second, .val (.double acc), .second, .val (.int (0 : Int32)), .val (.int w0)] [(.int (0 : Int32)), (.ref ry), (.double acc)])
      have G0 : Arv Z _ ry kry .double 8 [(.double x0), (.double z0), (.double x1), (.double z1), (.double x2), (.double z2), d6, d7] (.double 0) := H.get 4 rfl
      refine o_daloadV 78 W G0 (by decide) rfl d12_77 ?_
      refine o_aloadN 79 W d12_78 rfl rfl ?_
      refine o_getF 82 W (tw hw 22) (OBJ.get 2 rfl) d12_79 (fun T W => ?_)
      refine o_iloadN 83 W d12_82 rfl ?_
      have G0 : Arv Z _ ca kca (.array .double) 4 CL (.null) := H.get 1 rfl
      refine o_aaloadV 84 W G0 rfl hr hC d12_83 ?_
      refine o_iconst 85 W (2) d12_84 (by first | rfl | decide) ?_
      refine o_iload 87 W d12_85 rfl ?_
      refine o_imul 88 W d12_87 ?_
      refine o_iconst 89 W (1) d12_88 (by first | rfl | decide) ?_
      refine o_iadd 90 W d12_89 ?_
      show Go p e below _ _ (mkF m 90 #[.val (.ref o), .val (.int r), .val (.int ow), .val (.ref mi), .val (.double to), .second, .val (.double acc), .second, .val (.int (0 : Int32)), .val (.int w0)] [(.int (1 : Int32)), (.ref ry), (.double x0), (.double acc)])
      have G0 : Arv Z _ ry kry .double 8 [(.double x0), (.double z0), (.double x1), (.double z1), (.double x2), (.double z2), d6, d7] (.double 0) := H.get 4 rfl
      refine o_daloadV 91 W G0 (by decide) rfl d12_90 ?_
      refine o_daddQ 92 W hx0 hz0 (by omega) (hd := d12_91) (K := fun e1 he1 => ?_)
      refine o_ldc2D 95 W (tw hw 92) d12_92 ?_
      refine o_ddivQ 96 W 1 he1 own_2 (by omega) (hd := d12_95) (K := fun e2 he2 => ?_)
      refine o_aloadN 97 W d12_96 rfl rfl ?_
      refine o_iload 99 W d12_97 rfl ?_
      have G0 : Arv Z _ mi kmi .double 3 ML (.double 0) := H.get 5 rfl
      refine o_daloadV 100 W G0 hv0 hm0 d12_99 ?_
      refine o_dload 102 W d12_100 rfl ?_
      refine o_dsubQ 103 W ht0 hto (by omega) (hd := d12_102) (K := fun e3 he3 => ?_)
      refine o_dmulQ 104 W he2 he3 (by omega) (hd := d12_103) (K := fun e4 he4 => ?_)
      refine o_daddQ 105 W hacc he4 (by omega) (hd := d12_104) (K := fun e5 he5 => ?_)
      refine o_dstore 107 W #[.val (.ref o), .val (.int r), .val (.int ow), .val (.ref mi), .val (.double to), .second, .val (.double e5), .second, .val (.int (0 : Int32)), .val (.int w0)] d12_105 rfl ?_
      refine o_iinc 110 W (1) #[.val (.ref o), .val (.int r), .val (.int ow), .val (.ref mi), .val (.double to), .second, .val (.double e5), .second, .val (.int (1 : Int32)), .val (.int w0)] d12_107 rfl (by decide) rfl ?_
      refine o_goto 37 W d12_110 ?_
      exact L1 T e5 he5 W
  refine o_aloadN 1 W d12_0 rfl rfl ?_
  refine o_iloadN 2 W d12_1 rfl ?_
  have G0 : Arv Z _ mi kmi .double 3 ML (.double 0) := H.get 5 rfl
  refine o_daloadV 3 W G0 ho hmo d12_2 ?_
  refine o_dstore 5 W #[.val (.ref o), .val (.int r), .val (.int ow), .val (.ref mi), .val (.double to), .second, .unset, .unset, .unset, .unset] d12_3 rfl ?_
  refine o_aloadN 6 W d12_5 rfl rfl ?_
  refine o_getF 9 W (tw hw 30) (OBJ.get 5 rfl) d12_6 (fun T W => ?_)
  refine o_iconst 10 W (2) d12_9 (by first | rfl | decide) ?_
  refine o_iloadN 11 W d12_10 rfl ?_
  refine o_imul 12 W d12_11 ?_
  have G0 : Arv Z _ ea kea .double 8 EL (.double 0) := H.get 6 rfl
  refine o_daloadV 13 W G0 ki0 e0 d12_12 ?_
  refine o_aloadN 14 W d12_13 rfl rfl ?_
  refine o_getF 17 W (tw hw 30) (OBJ.get 5 rfl) d12_14 (fun T W => ?_)
  refine o_iconst 18 W (2) d12_17 (by first | rfl | decide) ?_
  refine o_iloadN 19 W d12_18 rfl ?_
  refine o_imul 20 W d12_19 ?_
  refine o_iconst 21 W (1) d12_20 (by first | rfl | decide) ?_
  refine o_iadd 22 W d12_21 ?_
  have G0 : Arv Z _ ea kea .double 8 EL (.double 0) := H.get 6 rfl
  refine o_daloadV 23 W G0 ki1 e1 d12_22 ?_
  refine o_daddQ 24 W hxl hxh (by omega) (hd := d12_23) (K := fun y1 hy1 => ?_)
  refine o_dnegQ 25 W hy1 (hd := d12_24) (K := fun y2 hy2 => ?_)
  refine o_ldc2D 28 W (tw hw 92) d12_25 ?_
  refine o_ddivQ 29 W 1 hy2 own_2 (by omega) (hd := d12_28) (K := fun y3 hy3 => ?_)
  refine o_dload 31 W d12_29 rfl ?_
  refine o_dmulQ 32 W hy3 hto (by omega) (hd := d12_31) (K := fun y4 hy4 => ?_)
  refine o_dstore 34 W #[.val (.ref o), .val (.int r), .val (.int ow), .val (.ref mi), .val (.double to), .second, .val (.double y4), .second, .unset, .unset] d12_32 rfl ?_
  refine o_iconst 35 W (0) d12_34 (by first | rfl | decide) ?_
  refine o_istore 37 W #[.val (.ref o), .val (.int r), .val (.int ow), .val (.ref mi), .val (.double to), .second, .val (.double y4), .second, .val (.int (0 : Int32)), .unset] d12_35 rfl ?_
  exact L0 T y4 hy4 W
theorem own_tail0 (l : Launch) (Z : State) (b0 : Array Value) (hw : ∀ d ∈ tables_1, d.before b0 Z = true) {p : Program} {e : Env} {s : State} {m : MethodId} {args : Array Value} {below : List Frame} {meth : Method} {c : Code} {T : State} {h : Heap} {sf : List Addr} (n0 n1 n2 n3 n4 f0 g0 f1 g1 f2 g2 r ro dr ow pr se hf rs dm el eh qo : Int32) (o va ca la ka ea la2 ua uc sa ev er so px py rx ry : Addr) (kva kca kla kka kea kla2 kua kuc ksa kev ker kso kpx kpy krx kry : ClassId) (rcv : Value) (VL CL LL : List Value) (r4 : ¬ r < 0 ∧ r < 4) (ro4 : ¬ ro < 0 ∧ ro < 4) (hne : ro.toNatClampNeg ≠ r.toNatClampNeg) (xr0r1 : ((2 : Int32) * r).toNatClampNeg ≠ (((2 : Int32) * r) + (1 : Int32)).toNatClampNeg) (xro0r0 : ((2 : Int32) * ro).toNatClampNeg ≠ ((2 : Int32) * r).toNatClampNeg) (xro0r1 : ((2 : Int32) * ro).toNatClampNeg ≠ (((2 : Int32) * r) + (1 : Int32)).toNatClampNeg) (xro0ro1 : ((2 : Int32) * ro).toNatClampNeg ≠ (((2 : Int32) * ro) + (1 : Int32)).toNatClampNeg) (xro1r0 : (((2 : Int32) * ro) + (1 : Int32)).toNatClampNeg ≠ ((2 : Int32) * r).toNatClampNeg) (xro1r1 : (((2 : Int32) * ro) + (1 : Int32)).toNatClampNeg ≠ (((2 : Int32) * r) + (1 : Int32)).toNatClampNeg) (kr0 : ¬ ((2 : Int32) * r) < 0 ∧ ((2 : Int32) * r) < 8) (kr1 : ¬ (((2 : Int32) * r) + (1 : Int32)) < 0 ∧ (((2 : Int32) * r) + (1 : Int32)) < 8) (kro0 : ¬ ((2 : Int32) * ro) < 0 ∧ ((2 : Int32) * ro) < 8) (kro1 : ¬ (((2 : Int32) * ro) + (1 : Int32)) < 0 ∧ (((2 : Int32) * ro) + (1 : Int32)) < 8) (lV : VL.length = 4) (lC : CL.length = 4) (lL : LL.length = 4) (hV : VL.getD r.toNatClampNeg (.null) = .ref rx) (hVo : VL.getD ro.toNatClampNeg (.null) = .ref px) (hC : CL.getD r.toNatClampNeg (.null) = .ref ry) (hCo : CL.getD ro.toNatClampNeg (.null) = .ref py) (hL : LL.getD r.toNatClampNeg (.int 0) = .int 0) (hLo : LL.getD ro.toNatClampNeg (.int 0) = .int 0) (bf0 : 0 ≤ f0.toInt ∧ f0.toInt ≤ 20) (bg0 : 0 ≤ g0.toInt ∧ g0.toInt ≤ 20) (bf1 : 0 ≤ f1.toInt ∧ f1.toInt ≤ 20) (bg1 : 0 ≤ g1.toInt ∧ g1.toInt ≤ 20) (bf2 : 0 ≤ f2.toInt ∧ f2.toInt ≤ 20) (bg2 : 0 ≤ g2.toInt ∧ g2.toInt ≤ 20) (bel : 0 ≤ el.toInt ∧ el.toInt ≤ 32) (beh : 0 ≤ eh.toInt ∧ eh.toInt ≤ 32) (hee : el.toInt + eh.toInt = 64 - (0)) (how : ow = 0 ∧ qo = n0 ∨ ow = 1 ∧ qo = n1 ∨ ow = 2 ∧ qo = n2) (Ova : OvrA Z kva .int "[I") (Oca : OvrA Z kca .double "[D") (Oua : OvrA Z kua .int "[I") (zo : Z.heap.size ≤ o) (W : Wk p l e room_1 s m args below meth c Z x code maxLocals ret T h 17 107 sf) (OBJ : OB Z h o "com/example/markov_reachability/markovreachability/IntervalEquations" [("ceiling", "D", (.double FP.dconst1)), ("variables", "[[I", (.ref va)), ("coefficients", "[[D", (.ref ca)), ("length", "[I", (.ref la)), ("constant", "[D", (.ref ka)), ("exit", "[D", (.ref ea)), ("eliminating", "[Z", (.ref la2)), ("users", "[[I", (.ref ua)), ("userCount", "[I", (.ref uc)), ("substitutable", "[I", (.ref sa)), ("eliminatedVariable", "[I", (.ref ev)), ("eliminatedRow", "[I", (.ref er)), ("slot", "[I", (.ref so)), ("rowCount", "I", rcv)]) (H : HM Z h [(va, kva, (.array .int), 4, VL, (.null)), (ca, kca, (.array .double), 4, CL, (.null)), (la, kla, .int, 4, LL, (.int 0)), (ua, kua, (.array .int), 3, [(.null), (.null), (.null)], (.null)), (uc, kuc, .int, 3, [(.int 0), (.int 0), (.int 0)], (.int 0)), (sa, ksa, .int, 3, [(.int 0), (.int 0), (.int 0)], (.int 0)), (px, kpx, .int, 2, [(.int 0), (.int 0)], (.int 0)), (py, kpy, .double, 4, [(.double 0), (.double 0), (.double 0), (.double 0)], (.double 0)), (rx, krx, .int, 2, [(.int 0), (.int 0)], (.int 0)), (ry, kry, .double, 4, [(.double 0), (.double 0), (.double 0), (.double 0)], (.double 0)), (ea, kea, .double, 8, [(.double 0), (.double 0), (.double 0), (.double 0), (.double 0), (.double 0), (.double 0), (.double 0)], (.double 0))]) : Go p e below (Gd s below Z (QV fun w h => w = .int 1) (room_1).cells (room_1).slots) T (mkF m 259 #[.val (.int n0), .val (.int n1), .val (.int n2), .val (.int n3), .val (.int n4), .val (.int f0), .val (.int g0), .val (.int f1), .val (.int g1), .val (.int f2), .val (.int g2), .val (.int (0 : Int32)), .val (.int (0 : Int32)), .val (.int (0 : Int32)), .val (.int r), .val (.int ro), .val (.int dr), .val (.int ow), .val (.int pr), .val (.int se), .val (.int hf), .val (.int rs), .val (.int dm), .val (.int el), .val (.int eh), .val (.ref o), .unset, .unset, .unset, .unset, .unset] []) := by
  have rr := own_r4 r4
  have qr := own_r4 ro4
  have qr0 := own_r8 kr0
  have qr1 := own_r8 kr1
  have qro0 := own_r8 kro0
  have qro1 := own_r8 kro1
  refine o_aload 261 W at_259 rfl rfl ?_
  refine o_iload 263 W at_261 rfl ?_
  refine o_iconst 264 W (0) at_263 (by first | rfl | decide) ?_
  refine o_dconst1 265 W at_264 ?_
  refine o_dconst1 266 W at_265 ?_
  have H : HM Z h [(va, kva, (.array .int), 4, VL, (.null)), (ca, kca, (.array .double), 4, CL, (.null)), (la, kla, .int, 4, LL, (.int 0)), (ua, kua, (.array .int), 3, [(.null), (.null), (.null)], (.null)), (uc, kuc, .int, 3, [(.int 0), (.int 0), (.int 0)], (.int 0)), (sa, ksa, .int, 3, [(.int 0), (.int 0), (.int 0)], (.int 0)), (px, kpx, .int, 2, [(.int 0), (.int 0)], (.int 0)), (py, kpy, .double, 4, [(.double 0), (.double 0), (.double 0), (.double 0)], (.double 0)), (rx, krx, .int, 2, [(.int 0), (.int 0)], (.int 0)), (ry, kry, .double, 4, [(.double 0), (.double 0), (.double 0), (.double 0)], (.double 0)), (ea, kea, .double, 8, [(.double 0), (.double 0), (.double 0), (.double 0), (.double 0), (.double 0), (.double 0), (.double 0)], (.double 0))] := ((((((((H.front 7 rfl).front 7 rfl).front 7 rfl).front 7 rfl).front 7 rfl).front 7 rfl).front 7 rfl).front 7 rfl)
  refine o_virtual 269 [(.int ro), (.int (0 : Int32)), (.double FP.dconst1), (.double FP.dconst1)] W (tw hw 60) (tw hw 61) (tw hw 63) (tw hw 62) (tw hw 7) (tw hw 64) (OBJ.1) (con_adcA0 l Z b0 hw o va ca la ka ea la2 ua uc sa ev er so px py kva kca kla kka kea kla2 kua kuc ksa kev ker kso kpx kpy rcv ro (0 : Int32) 0 FP.dconst1 FP.dconst1 VL CL LL [(.null), (.null), (.null)] [(.int 0), (.int 0), (.int 0)] [(.int 0), (.int 0), (.int 0)] (.int 0) (.int 0) (.double 0) (.double 0) (.double 0) (.double 0) ro4 (by decide) (by simp [lV]) (by simp [lC]) (by simp [lL]) (by simp) (by simp) (by simp) hVo hCo hLo rfl rfl rfl Ova Oca Oua _ W.old OBJ (HM.split (P := [_, _, _, _, _, _, _, _]) H).1) pd4 at_266 rfl all0 (fun T h v W qq gg => ?_)
  obtain ⟨rfl, Kc, OBJ1, us0, kus0, nus0, H1⟩ := qq
  show Go p e below _ _ (mkF m 269 #[.val (.int n0), .val (.int n1), .val (.int n2), .val (.int n3), .val (.int n4), .val (.int f0), .val (.int g0), .val (.int f1), .val (.int g1), .val (.int f2), .val (.int g2), .val (.int (0 : Int32)), .val (.int (0 : Int32)), .val (.int (0 : Int32)), .val (.int r), .val (.int ro), .val (.int dr), .val (.int ow), .val (.int pr), .val (.int se), .val (.int hf), .val (.int rs), .val (.int dm), .val (.int el), .val (.int eh), .val (.ref o), .unset, .unset, .unset, .unset, .unset] [])
  have H : HM Z h [(us0, kus0, .int, 4, [(.int ro), (.int 0), (.int 0), (.int 0)], (.int 0)), (va, kva, (.array .int), 4, VL, (.null)), (ca, kca, (.array .double), 4, CL, (.null)), (la, kla, .int, 4, (LL.set ro.toNatClampNeg (.int 1)), (.int 0)), (ua, kua, (.array .int), 3, ([(.null), (.null), (.null)].set (0 : Int32).toNatClampNeg (.ref us0)), (.null)), (uc, kuc, .int, 3, ([(.int 0), (.int 0), (.int 0)].set (0 : Int32).toNatClampNeg (.int 1)), (.int 0)), (sa, ksa, .int, 3, ([(.int 0), (.int 0), (.int 0)].set (0 : Int32).toNatClampNeg (.int (0 + 1))), (.int 0)), (px, kpx, .int, 2, [(.int (0 : Int32)), (.int 0)], (.int 0)), (py, kpy, .double, 4, [(.double FP.dconst1), (.double FP.dconst1), (.double 0), (.double 0)], (.double 0)), (rx, krx, .int, 2, [(.int 0), (.int 0)], (.int 0)), (ry, kry, .double, 4, [(.double 0), (.double 0), (.double 0), (.double 0)], (.double 0)), (ea, kea, .double, 8, [(.double 0), (.double 0), (.double 0), (.double 0), (.double 0), (.double 0), (.double 0), (.double 0)], (.double 0))] := HM.frame (P := [_, _, _, _, _, _, _, _]) H H1 Kc (by simp [HE.a, nus0])
  have OBJ := OBJ1
  have H : HM Z h [(us0, kus0, .int, 4, [(.int ro), (.int 0), (.int 0), (.int 0)], (.int 0)), (va, kva, (.array .int), 4, VL, (.null)), (ca, kca, (.array .double), 4, CL, (.null)), (la, kla, .int, 4, (LL.set ro.toNatClampNeg (.int 1)), (.int 0)), (ua, kua, (.array .int), 3, [(.ref us0), (.null), (.null)], (.null)), (uc, kuc, .int, 3, [(.int 1), (.int 0), (.int 0)], (.int 0)), (sa, ksa, .int, 3, [(.int (0 + 1)), (.int 0), (.int 0)], (.int 0)), (px, kpx, .int, 2, [(.int (0 : Int32)), (.int 0)], (.int 0)), (py, kpy, .double, 4, [(.double FP.dconst1), (.double FP.dconst1), (.double 0), (.double 0)], (.double 0)), (rx, krx, .int, 2, [(.int 0), (.int 0)], (.int 0)), (ry, kry, .double, 4, [(.double 0), (.double 0), (.double 0), (.double 0)], (.double 0)), (ea, kea, .double, 8, [(.double 0), (.double 0), (.double 0), (.double 0), (.double 0), (.double 0), (.double 0), (.double 0)], (.double 0))] := H
  refine o_aload 271 W at_269 rfl rfl ?_
  refine o_iload 273 W at_271 rfl ?_
  refine o_ldc2D 276 W (tw hw 69) at_273 ?_
  refine o_dconst1 277 W at_276 ?_
  have H : HM Z h [(ea, kea, .double, 8, [(.double 0), (.double 0), (.double 0), (.double 0), (.double 0), (.double 0), (.double 0), (.double 0)], (.double 0)), (us0, kus0, .int, 4, [(.int ro), (.int 0), (.int 0), (.int 0)], (.int 0)), (va, kva, (.array .int), 4, VL, (.null)), (ca, kca, (.array .double), 4, CL, (.null)), (la, kla, .int, 4, (LL.set ro.toNatClampNeg (.int 1)), (.int 0)), (ua, kua, (.array .int), 3, [(.ref us0), (.null), (.null)], (.null)), (uc, kuc, .int, 3, [(.int 1), (.int 0), (.int 0)], (.int 0)), (sa, ksa, .int, 3, [(.int (0 + 1)), (.int 0), (.int 0)], (.int 0)), (px, kpx, .int, 2, [(.int (0 : Int32)), (.int 0)], (.int 0)), (py, kpy, .double, 4, [(.double FP.dconst1), (.double FP.dconst1), (.double 0), (.double 0)], (.double 0)), (rx, krx, .int, 2, [(.int 0), (.int 0)], (.int 0)), (ry, kry, .double, 4, [(.double 0), (.double 0), (.double 0), (.double 0)], (.double 0))] := (H.front 11 rfl)
  refine o_virtual 280 [(.int ro), (.double (4602678819172646912 : UInt64)), (.double FP.dconst1)] W (tw hw 70) (tw hw 71) (tw hw 73) (tw hw 72) (tw hw 7) (tw hw 74) (OBJ.1) (con_adx l Z b0 hw o va ca la ka ea la2 ua uc sa ev er so kva kca kla kka kea kla2 kua kuc ksa kev ker kso rcv ro (4602678819172646912 : UInt64) FP.dconst1 [(.double 0), (.double 0), (.double 0), (.double 0), (.double 0), (.double 0), (.double 0), (.double 0)] own_half own_one5 (by omega) kro0 kro1 (by simp) (own_rep8 _ _) (own_rep8 _ _) xro0ro1 _ W.old OBJ zo (HM.split (P := [_]) H).1) pd6 at_277 rfl all0 (fun T h v W qq gg => ?_)
  obtain ⟨rfl, Kc, OBJ1, yo, hyo, H1⟩ := qq
  show Go p e below _ _ (mkF m 280 #[.val (.int n0), .val (.int n1), .val (.int n2), .val (.int n3), .val (.int n4), .val (.int f0), .val (.int g0), .val (.int f1), .val (.int g1), .val (.int f2), .val (.int g2), .val (.int (0 : Int32)), .val (.int (0 : Int32)), .val (.int (0 : Int32)), .val (.int r), .val (.int ro), .val (.int dr), .val (.int ow), .val (.int pr), .val (.int se), .val (.int hf), .val (.int rs), .val (.int dm), .val (.int el), .val (.int eh), .val (.ref o), .unset, .unset, .unset, .unset, .unset] [])
  have H : HM Z h [(ea, kea, .double, 8, (([(.double 0), (.double 0), (.double 0), (.double 0), (.double 0), (.double 0), (.double 0), (.double 0)].set ((2 : Int32) * ro).toNatClampNeg (.double (4602678819172646912 : UInt64))).set (((2 : Int32) * ro) + (1 : Int32)).toNatClampNeg (.double yo)), (.double 0)), (us0, kus0, .int, 4, [(.int ro), (.int 0), (.int 0), (.int 0)], (.int 0)), (va, kva, (.array .int), 4, VL, (.null)), (ca, kca, (.array .double), 4, CL, (.null)), (la, kla, .int, 4, (LL.set ro.toNatClampNeg (.int 1)), (.int 0)), (ua, kua, (.array .int), 3, [(.ref us0), (.null), (.null)], (.null)), (uc, kuc, .int, 3, [(.int 1), (.int 0), (.int 0)], (.int 0)), (sa, ksa, .int, 3, [(.int (0 + 1)), (.int 0), (.int 0)], (.int 0)), (px, kpx, .int, 2, [(.int (0 : Int32)), (.int 0)], (.int 0)), (py, kpy, .double, 4, [(.double FP.dconst1), (.double FP.dconst1), (.double 0), (.double 0)], (.double 0)), (rx, krx, .int, 2, [(.int 0), (.int 0)], (.int 0)), (ry, kry, .double, 4, [(.double 0), (.double 0), (.double 0), (.double 0)], (.double 0))] := HM.frame (P := [_]) H H1 Kc (by simp [HE.a])
  have OBJ := OBJ1
  refine o_iload 282 W at_280 rfl ?_
  refine o_ifY 307 W at_282 (XT.i0_eq_t (by decide)) ?_
  refine o_iload 309 W at_307 rfl ?_
  refine o_ifY 334 W at_309 (XT.i0_eq_t (by decide)) ?_
  refine o_iload 336 W at_334 rfl ?_
  refine o_ifY 361 W at_336 (XT.i0_eq_t (by decide)) ?_
  refine o_aload 363 W at_361 rfl rfl ?_
  refine o_iload 365 W at_363 rfl ?_
  refine o_iload 367 W at_365 rfl ?_
  refine o_i2dQ 368 W  (hd := at_367) (K := fun uxl huxl => ?_)
  refine o_ldc2D 371 W (tw hw 85) at_368 ?_
  refine o_ddivQ 372 W 5 huxl own_32 (own_nb32 _) (hd := at_371) (K := fun xl hxl => ?_)
  refine o_iload 374 W at_372 rfl ?_
  refine o_i2dQ 375 W  (hd := at_374) (K := fun uxh huxh => ?_)
  refine o_ldc2D 378 W (tw hw 85) at_375 ?_
  refine o_ddivQ 379 W 5 huxh own_32 (own_nb32 _) (hd := at_378) (K := fun xh hxh => ?_)
  have H : HM Z h [(ea, kea, .double, 8, (([(.double 0), (.double 0), (.double 0), (.double 0), (.double 0), (.double 0), (.double 0), (.double 0)].set ((2 : Int32) * ro).toNatClampNeg (.double (4602678819172646912 : UInt64))).set (((2 : Int32) * ro) + (1 : Int32)).toNatClampNeg (.double yo)), (.double 0)), (us0, kus0, .int, 4, [(.int ro), (.int 0), (.int 0), (.int 0)], (.int 0)), (va, kva, (.array .int), 4, VL, (.null)), (ca, kca, (.array .double), 4, CL, (.null)), (la, kla, .int, 4, (LL.set ro.toNatClampNeg (.int 1)), (.int 0)), (ua, kua, (.array .int), 3, [(.ref us0), (.null), (.null)], (.null)), (uc, kuc, .int, 3, [(.int 1), (.int 0), (.int 0)], (.int 0)), (sa, ksa, .int, 3, [(.int (0 + 1)), (.int 0), (.int 0)], (.int 0)), (px, kpx, .int, 2, [(.int (0 : Int32)), (.int 0)], (.int 0)), (py, kpy, .double, 4, [(.double FP.dconst1), (.double FP.dconst1), (.double 0), (.double 0)], (.double 0)), (rx, krx, .int, 2, [(.int 0), (.int 0)], (.int 0)), (ry, kry, .double, 4, [(.double 0), (.double 0), (.double 0), (.double 0)], (.double 0))] := (H.front 0 rfl)
  refine o_virtual 382 [(.int r), (.double xl), (.double xh)] W (tw hw 70) (tw hw 71) (tw hw 73) (tw hw 72) (tw hw 7) (tw hw 74) (OBJ.1) (con_adx l Z b0 hw o va ca la ka ea la2 ua uc sa ev er so kva kca kla kka kea kla2 kua kuc ksa kev ker kso rcv r xl xh (([(.double 0), (.double 0), (.double 0), (.double 0), (.double 0), (.double 0), (.double 0), (.double 0)].set ((2 : Int32) * ro).toNatClampNeg (.double (4602678819172646912 : UInt64))).set (((2 : Int32) * ro) + (1 : Int32)).toNatClampNeg (.double yo)) hxl hxh beh.2 kr0 kr1 (by simp) ((own_gsetne xro1r0).trans ((own_gsetne xro0r0).trans (own_rep8 _ _))) ((own_gsetne xro1r1).trans ((own_gsetne xro0r1).trans (own_rep8 _ _))) xr0r1 _ W.old OBJ zo (HM.split (P := [_]) H).1) pd6 at_379 rfl all0 (fun T h v W qq gg => ?_)
  obtain ⟨rfl, Kc, OBJ1, yh, hyh, H1⟩ := qq
  show Go p e below _ _ (mkF m 382 #[.val (.int n0), .val (.int n1), .val (.int n2), .val (.int n3), .val (.int n4), .val (.int f0), .val (.int g0), .val (.int f1), .val (.int g1), .val (.int f2), .val (.int g2), .val (.int (0 : Int32)), .val (.int (0 : Int32)), .val (.int (0 : Int32)), .val (.int r), .val (.int ro), .val (.int dr), .val (.int ow), .val (.int pr), .val (.int se), .val (.int hf), .val (.int rs), .val (.int dm), .val (.int el), .val (.int eh), .val (.ref o), .unset, .unset, .unset, .unset, .unset] [])
  have H : HM Z h [(ea, kea, .double, 8, (((([(.double 0), (.double 0), (.double 0), (.double 0), (.double 0), (.double 0), (.double 0), (.double 0)].set ((2 : Int32) * ro).toNatClampNeg (.double (4602678819172646912 : UInt64))).set (((2 : Int32) * ro) + (1 : Int32)).toNatClampNeg (.double yo)).set ((2 : Int32) * r).toNatClampNeg (.double xl)).set (((2 : Int32) * r) + (1 : Int32)).toNatClampNeg (.double yh)), (.double 0)), (us0, kus0, .int, 4, [(.int ro), (.int 0), (.int 0), (.int 0)], (.int 0)), (va, kva, (.array .int), 4, VL, (.null)), (ca, kca, (.array .double), 4, CL, (.null)), (la, kla, .int, 4, (LL.set ro.toNatClampNeg (.int 1)), (.int 0)), (ua, kua, (.array .int), 3, [(.ref us0), (.null), (.null)], (.null)), (uc, kuc, .int, 3, [(.int 1), (.int 0), (.int 0)], (.int 0)), (sa, ksa, .int, 3, [(.int (0 + 1)), (.int 0), (.int 0)], (.int 0)), (px, kpx, .int, 2, [(.int (0 : Int32)), (.int 0)], (.int 0)), (py, kpy, .double, 4, [(.double FP.dconst1), (.double FP.dconst1), (.double 0), (.double 0)], (.double 0)), (rx, krx, .int, 2, [(.int 0), (.int 0)], (.int 0)), (ry, kry, .double, 4, [(.double 0), (.double 0), (.double 0), (.double 0)], (.double 0))] := HM.frame (P := [_]) H H1 Kc (by simp [HE.a])
  have OBJ := OBJ1
  refine o_iconst 383 W (3) at_382 (by first | rfl | decide) ?_
  refine o_newarray 385 3 W (tw hw 27) at_383 (by decide) (by decide) (fun T h mi kmi W Emi Ami gmi zmi => ?_)
  have Ami : Arv Z h mi kmi .double 3 [(.double 0), (.double 0), (.double 0)] (.double 0) := own_pad 3 Ami
  have OBJ := OBJ.ext Emi
  have H : HM Z h [(mi, kmi, .double, 3, [(.double 0), (.double 0), (.double 0)], (.double 0)), (ea, kea, .double, 8, (((([(.double 0), (.double 0), (.double 0), (.double 0), (.double 0), (.double 0), (.double 0), (.double 0)].set ((2 : Int32) * ro).toNatClampNeg (.double (4602678819172646912 : UInt64))).set (((2 : Int32) * ro) + (1 : Int32)).toNatClampNeg (.double yo)).set ((2 : Int32) * r).toNatClampNeg (.double xl)).set (((2 : Int32) * r) + (1 : Int32)).toNatClampNeg (.double yh)), (.double 0)), (us0, kus0, .int, 4, [(.int ro), (.int 0), (.int 0), (.int 0)], (.int 0)), (va, kva, (.array .int), 4, VL, (.null)), (ca, kca, (.array .double), 4, CL, (.null)), (la, kla, .int, 4, (LL.set ro.toNatClampNeg (.int 1)), (.int 0)), (ua, kua, (.array .int), 3, [(.ref us0), (.null), (.null)], (.null)), (uc, kuc, .int, 3, [(.int 1), (.int 0), (.int 0)], (.int 0)), (sa, ksa, .int, 3, [(.int (0 + 1)), (.int 0), (.int 0)], (.int 0)), (px, kpx, .int, 2, [(.int (0 : Int32)), (.int 0)], (.int 0)), (py, kpy, .double, 4, [(.double FP.dconst1), (.double FP.dconst1), (.double 0), (.double 0)], (.double 0)), (rx, krx, .int, 2, [(.int 0), (.int 0)], (.int 0)), (ry, kry, .double, 4, [(.double 0), (.double 0), (.double 0), (.double 0)], (.double 0))] := H.new Emi Ami gmi zmi
  refine o_astore 387 W #[.val (.int n0), .val (.int n1), .val (.int n2), .val (.int n3), .val (.int n4), .val (.int f0), .val (.int g0), .val (.int f1), .val (.int g1), .val (.int f2), .val (.int g2), .val (.int (0 : Int32)), .val (.int (0 : Int32)), .val (.int (0 : Int32)), .val (.int r), .val (.int ro), .val (.int dr), .val (.int ow), .val (.int pr), .val (.int se), .val (.int hf), .val (.int rs), .val (.int dm), .val (.int el), .val (.int eh), .val (.ref o), .val (.ref mi), .unset, .unset, .unset, .unset] at_385 rfl rfl ?_
  refine o_aload 389 W at_387 rfl rfl ?_
  refine o_iconst 390 W (0) at_389 (by first | rfl | decide) ?_
  refine o_iloadN 391 W at_390 rfl ?_
  refine o_i2dQ 392 W  (hd := at_391) (K := fun t0 ht0 => ?_)
  have G0 : Arv Z _ mi kmi .double 3 [(.double 0), (.double 0), (.double 0)] (.double 0) := H.get 0 rfl
  refine o_dastore 393 0 W G0 (by decide) rfl (by simp) (H.new? 0 rfl) at_392 (fun T h W w1 A1 => ?_)
  have OBJ := OBJ.wr (tw hw 6) (H.get 0 rfl) w1
  have H : HM Z h [(mi, kmi, .double, 3, [(.double t0), (.double 0), (.double 0)], (.double 0)), (ea, kea, .double, 8, (((([(.double 0), (.double 0), (.double 0), (.double 0), (.double 0), (.double 0), (.double 0), (.double 0)].set ((2 : Int32) * ro).toNatClampNeg (.double (4602678819172646912 : UInt64))).set (((2 : Int32) * ro) + (1 : Int32)).toNatClampNeg (.double yo)).set ((2 : Int32) * r).toNatClampNeg (.double xl)).set (((2 : Int32) * r) + (1 : Int32)).toNatClampNeg (.double yh)), (.double 0)), (us0, kus0, .int, 4, [(.int ro), (.int 0), (.int 0), (.int 0)], (.int 0)), (va, kva, (.array .int), 4, VL, (.null)), (ca, kca, (.array .double), 4, CL, (.null)), (la, kla, .int, 4, (LL.set ro.toNatClampNeg (.int 1)), (.int 0)), (ua, kua, (.array .int), 3, [(.ref us0), (.null), (.null)], (.null)), (uc, kuc, .int, 3, [(.int 1), (.int 0), (.int 0)], (.int 0)), (sa, ksa, .int, 3, [(.int (0 + 1)), (.int 0), (.int 0)], (.int 0)), (px, kpx, .int, 2, [(.int (0 : Int32)), (.int 0)], (.int 0)), (py, kpy, .double, 4, [(.double FP.dconst1), (.double FP.dconst1), (.double 0), (.double 0)], (.double 0)), (rx, krx, .int, 2, [(.int 0), (.int 0)], (.int 0)), (ry, kry, .double, 4, [(.double 0), (.double 0), (.double 0), (.double 0)], (.double 0))] := H.wr 0 rfl w1 A1
  refine o_aload 395 W at_393 rfl rfl ?_
  refine o_iconst 396 W (1) at_395 (by first | rfl | decide) ?_
  refine o_iloadN 397 W at_396 rfl ?_
  refine o_i2dQ 398 W  (hd := at_397) (K := fun t1 ht1 => ?_)
  have G0 : Arv Z _ mi kmi .double 3 [(.double t0), (.double 0), (.double 0)] (.double 0) := H.get 0 rfl
  refine o_dastore 399 1 W G0 (by decide) rfl (by simp) (H.new? 0 rfl) at_398 (fun T h W w1 A1 => ?_)
  have OBJ := OBJ.wr (tw hw 6) (H.get 0 rfl) w1
  have H : HM Z h [(mi, kmi, .double, 3, [(.double t0), (.double t1), (.double 0)], (.double 0)), (ea, kea, .double, 8, (((([(.double 0), (.double 0), (.double 0), (.double 0), (.double 0), (.double 0), (.double 0), (.double 0)].set ((2 : Int32) * ro).toNatClampNeg (.double (4602678819172646912 : UInt64))).set (((2 : Int32) * ro) + (1 : Int32)).toNatClampNeg (.double yo)).set ((2 : Int32) * r).toNatClampNeg (.double xl)).set (((2 : Int32) * r) + (1 : Int32)).toNatClampNeg (.double yh)), (.double 0)), (us0, kus0, .int, 4, [(.int ro), (.int 0), (.int 0), (.int 0)], (.int 0)), (va, kva, (.array .int), 4, VL, (.null)), (ca, kca, (.array .double), 4, CL, (.null)), (la, kla, .int, 4, (LL.set ro.toNatClampNeg (.int 1)), (.int 0)), (ua, kua, (.array .int), 3, [(.ref us0), (.null), (.null)], (.null)), (uc, kuc, .int, 3, [(.int 1), (.int 0), (.int 0)], (.int 0)), (sa, ksa, .int, 3, [(.int (0 + 1)), (.int 0), (.int 0)], (.int 0)), (px, kpx, .int, 2, [(.int (0 : Int32)), (.int 0)], (.int 0)), (py, kpy, .double, 4, [(.double FP.dconst1), (.double FP.dconst1), (.double 0), (.double 0)], (.double 0)), (rx, krx, .int, 2, [(.int 0), (.int 0)], (.int 0)), (ry, kry, .double, 4, [(.double 0), (.double 0), (.double 0), (.double 0)], (.double 0))] := H.wr 0 rfl w1 A1
  refine o_aload 401 W at_399 rfl rfl ?_
  refine o_iconst 402 W (2) at_401 (by first | rfl | decide) ?_
  refine o_iloadN 403 W at_402 rfl ?_
  refine o_i2dQ 404 W  (hd := at_403) (K := fun t2 ht2 => ?_)
  have G0 : Arv Z _ mi kmi .double 3 [(.double t0), (.double t1), (.double 0)] (.double 0) := H.get 0 rfl
  refine o_dastore 405 2 W G0 (by decide) rfl (by simp) (H.new? 0 rfl) at_404 (fun T h W w1 A1 => ?_)
  have OBJ := OBJ.wr (tw hw 6) (H.get 0 rfl) w1
  have H : HM Z h [(mi, kmi, .double, 3, [(.double t0), (.double t1), (.double t2)], (.double 0)), (ea, kea, .double, 8, (((([(.double 0), (.double 0), (.double 0), (.double 0), (.double 0), (.double 0), (.double 0), (.double 0)].set ((2 : Int32) * ro).toNatClampNeg (.double (4602678819172646912 : UInt64))).set (((2 : Int32) * ro) + (1 : Int32)).toNatClampNeg (.double yo)).set ((2 : Int32) * r).toNatClampNeg (.double xl)).set (((2 : Int32) * r) + (1 : Int32)).toNatClampNeg (.double yh)), (.double 0)), (us0, kus0, .int, 4, [(.int ro), (.int 0), (.int 0), (.int 0)], (.int 0)), (va, kva, (.array .int), 4, VL, (.null)), (ca, kca, (.array .double), 4, CL, (.null)), (la, kla, .int, 4, (LL.set ro.toNatClampNeg (.int 1)), (.int 0)), (ua, kua, (.array .int), 3, [(.ref us0), (.null), (.null)], (.null)), (uc, kuc, .int, 3, [(.int 1), (.int 0), (.int 0)], (.int 0)), (sa, ksa, .int, 3, [(.int (0 + 1)), (.int 0), (.int 0)], (.int 0)), (px, kpx, .int, 2, [(.int (0 : Int32)), (.int 0)], (.int 0)), (py, kpy, .double, 4, [(.double FP.dconst1), (.double FP.dconst1), (.double 0), (.double 0)], (.double 0)), (rx, krx, .int, 2, [(.int 0), (.int 0)], (.int 0)), (ry, kry, .double, 4, [(.double 0), (.double 0), (.double 0), (.double 0)], (.double 0))] := H.wr 0 rfl w1 A1
  obtain ⟨to, hto, hmo, ho, hq0, hq1, hq2⟩ : ∃ to, DQ 0 qo.toInt to ∧ ([(.double t0), (.double t1), (.double t2)] : List Value).getD ow.toNatClampNeg (.double 0) = .double to ∧ (¬ ow < 0 ∧ ow < 3) ∧ (ow = 0 → qo = n0) ∧ (ow = 1 → qo = n1) ∧ (ow = 2 → qo = n2) := by
    rcases how with ⟨rfl, rfl⟩ | ⟨rfl, rfl⟩ | ⟨rfl, rfl⟩
    · exact ⟨t0, ht0, rfl, by decide, fun _ => rfl, fun q => absurd q (by decide), fun q => absurd q (by decide)⟩
    · exact ⟨t1, ht1, rfl, by decide, fun q => absurd q (by decide), fun _ => rfl, fun q => absurd q (by decide)⟩
    · exact ⟨t2, ht2, rfl, by decide, fun q => absurd q (by decide), fun q => absurd q (by decide), fun _ => rfl⟩
  refine Go.cutW W (g' := (mkF m 428 #[.val (.int n0), .val (.int n1), .val (.int n2), .val (.int n3), .val (.int n4), .val (.int f0), .val (.int g0), .val (.int f1), .val (.int g1), .val (.int f2), .val (.int g2), .val (.int (0 : Int32)), .val (.int (0 : Int32)), .val (.int (0 : Int32)), .val (.int r), .val (.int ro), .val (.int dr), .val (.int ow), .val (.int pr), .val (.int se), .val (.int hf), .val (.int rs), .val (.int dm), .val (.int el), .val (.int eh), .val (.ref o), .val (.ref mi), .unset, .unset, .unset, .unset] [(.long qo.toInt64)])) (fun J => ?_) (fun T W => ?_)
  · refine o_iload 407 W at_405 rfl ?_
    refine o_ifne 415 410 W at_407 (fun c407 => ?_) (fun c407 => ?_)
    · refine o_iload 417 W at_415 rfl ?_
      refine o_iconst 418 W (1) at_417 (by first | rfl | decide) ?_
      refine o_icne 426 421 W at_418 (fun c418 => ?_) (fun c418 => ?_)
      · refine o_iloadN 427 W at_426 rfl ?_
        refine o_i2l 428 W at_427 ?_
        rcases how with ⟨z1, z2⟩ | ⟨z1, z2⟩ | ⟨z1, z2⟩
        · exact absurd z1 c407
        · exact absurd z1 c418
        · rw [z2] at J; exact J T W
      · refine o_iloadN 422 W at_421 rfl ?_
        refine o_i2l 423 W at_422 ?_
        refine o_goto 428 W at_423 ?_
        rw [hq1 c418] at J
        exact J T W
    · refine o_iloadN 411 W at_410 rfl ?_
      refine o_i2l 412 W at_411 ?_
      refine o_goto 428 W at_412 ?_
      rw [hq0 c407] at J
      exact J T W
  refine o_lstore 430 W #[.val (.int n0), .val (.int n1), .val (.int n2), .val (.int n3), .val (.int n4), .val (.int f0), .val (.int g0), .val (.int f1), .val (.int g1), .val (.int f2), .val (.int g2), .val (.int (0 : Int32)), .val (.int (0 : Int32)), .val (.int (0 : Int32)), .val (.int r), .val (.int ro), .val (.int dr), .val (.int ow), .val (.int pr), .val (.int se), .val (.int hf), .val (.int rs), .val (.int dm), .val (.int el), .val (.int eh), .val (.ref o), .val (.ref mi), .val (.long qo.toInt64), .second, .unset, .unset] at_428 rfl ?_
  refine o_iload 432 W at_430 rfl ?_
  refine o_ifY 447 W at_432 (XT.i0_eq_t (by decide)) ?_
  refine o_lconst 448 W (0) at_447 (by first | rfl | decide) ?_
  have hp0 : (0 : Int64).toInt = 0 := rfl
  refine o_iload 450 W at_448 rfl ?_
  refine o_ifY 465 W at_450 (XT.i0_eq_t (by decide)) ?_
  refine o_lconst 466 W (0) at_465 (by first | rfl | decide) ?_
  have hp1 : (0 : Int64).toInt = 0 := rfl
  refine o_ladd 467 W at_466 ?_
  have hr1 := own_ladd hp0 hp1 (by omega)
  generalize ((0 : Int64) + (0 : Int64)) = r1 at hr1 ⊢
  refine o_iload 469 W at_467 rfl ?_
  refine o_ifY 484 W at_469 (XT.i0_eq_t (by decide)) ?_
  refine o_lconst 485 W (0) at_484 (by first | rfl | decide) ?_
  have hp2 : (0 : Int64).toInt = 0 := rfl
  refine o_ladd 486 W at_485 ?_
  have hr2 := own_ladd hr1 hp2 (by omega)
  generalize (r1 + (0 : Int64)) = r2 at hr2 ⊢
  refine o_ldc2J 489 W (tw hw 86) at_486 ?_
  refine o_lload 491 W at_489 rfl ?_
  refine o_lmul 492 W at_491 ?_
  have h64 := own_l64 qo
  have bqo := own_i31 qo
  generalize ((64 : Int64) * qo.toInt64) = p9 at h64 ⊢
  refine o_lsub 493 W at_492 ?_
  have href := own_lsub hr2 h64 (by omega)
  generalize (r2 - p9) = rf at href ⊢
  refine o_lstore 495 W #[.val (.int n0), .val (.int n1), .val (.int n2), .val (.int n3), .val (.int n4), .val (.int f0), .val (.int g0), .val (.int f1), .val (.int g1), .val (.int f2), .val (.int g2), .val (.int (0 : Int32)), .val (.int (0 : Int32)), .val (.int (0 : Int32)), .val (.int r), .val (.int ro), .val (.int dr), .val (.int ow), .val (.int pr), .val (.int se), .val (.int hf), .val (.int rs), .val (.int dm), .val (.int el), .val (.int eh), .val (.ref o), .val (.ref mi), .val (.long qo.toInt64), .second, .val (.long rf), .second] at_493 rfl ?_
  refine o_aload 497 W at_495 rfl rfl ?_
  refine o_iload 499 W at_497 rfl ?_
  refine o_iload 501 W at_499 rfl ?_
  refine o_aload 503 W at_501 rfl rfl ?_
  have H : HM Z h [(va, kva, (.array .int), 4, VL, (.null)), (ca, kca, (.array .double), 4, CL, (.null)), (la, kla, .int, 4, (LL.set ro.toNatClampNeg (.int 1)), (.int 0)), (rx, krx, .int, 2, [(.int 0), (.int 0)], (.int 0)), (ry, kry, .double, 4, [(.double 0), (.double 0), (.double 0), (.double 0)], (.double 0)), (mi, kmi, .double, 3, [(.double t0), (.double t1), (.double t2)], (.double 0)), (ea, kea, .double, 8, (((([(.double 0), (.double 0), (.double 0), (.double 0), (.double 0), (.double 0), (.double 0), (.double 0)].set ((2 : Int32) * ro).toNatClampNeg (.double (4602678819172646912 : UInt64))).set (((2 : Int32) * ro) + (1 : Int32)).toNatClampNeg (.double yo)).set ((2 : Int32) * r).toNatClampNeg (.double xl)).set (((2 : Int32) * r) + (1 : Int32)).toNatClampNeg (.double yh)), (.double 0)), (us0, kus0, .int, 4, [(.int ro), (.int 0), (.int 0), (.int 0)], (.int 0)), (ua, kua, (.array .int), 3, [(.ref us0), (.null), (.null)], (.null)), (uc, kuc, .int, 3, [(.int 1), (.int 0), (.int 0)], (.int 0)), (sa, ksa, .int, 3, [(.int (0 + 1)), (.int 0), (.int 0)], (.int 0)), (px, kpx, .int, 2, [(.int (0 : Int32)), (.int 0)], (.int 0)), (py, kpy, .double, 4, [(.double FP.dconst1), (.double FP.dconst1), (.double 0), (.double 0)], (.double 0))] := (((((((H.front 1 rfl).front 1 rfl).front 12 rfl).front 12 rfl).front 7 rfl).front 7 rfl).front 7 rfl)
  refine o_virtual 506 [(.int r), (.int ow), (.ref mi)] W (tw hw 87) (tw hw 88) (tw hw 90) (tw hw 89) (tw hw 7) (tw hw 91) (OBJ.1) (con_mc0 l Z b0 hw o va ca la ka ea la2 ua uc sa ev er so rx ry mi kva kca kla kka kea kla2 kua kuc ksa kev ker kso krx kry kmi rcv r ow VL CL (LL.set ro.toNatClampNeg (.int 1)) [(.double t0), (.double t1), (.double t2)] (((([(.double 0), (.double 0), (.double 0), (.double 0), (.double 0), (.double 0), (.double 0), (.double 0)].set ((2 : Int32) * ro).toNatClampNeg (.double (4602678819172646912 : UInt64))).set (((2 : Int32) * ro) + (1 : Int32)).toNatClampNeg (.double yo)).set ((2 : Int32) * r).toNatClampNeg (.double xl)).set (((2 : Int32) * r) + (1 : Int32)).toNatClampNeg (.double yh)) (.int 0) (.int 0) (.double 0) (.double 0) (.double 0) (.double 0) r4 hV hC ((own_gsetne hne).trans hL) kr0 kr1 xl yh to el.toInt eh.toInt qo.toInt hxl hyh hto ⟨bel.1, bel.2, beh.1, beh.2, bqo.1, (by omega)⟩ ((own_gsetne xr0r1.symm).trans (own_gset (by simp [qr0]))) (own_gset (by simp [qr1])) ho hmo  _ W.old OBJ (HM.split (P := [_, _, _, _, _, _, _]) H).1) pd7 at_503 rfl all0 (fun T h v W qq gg => ?_)
  obtain ⟨_, rfl, sm, rfl, hsm, rfl⟩ := qq
  show Go p e below _ _ (mkF m 506 #[.val (.int n0), .val (.int n1), .val (.int n2), .val (.int n3), .val (.int n4), .val (.int f0), .val (.int g0), .val (.int f1), .val (.int g1), .val (.int f2), .val (.int g2), .val (.int (0 : Int32)), .val (.int (0 : Int32)), .val (.int (0 : Int32)), .val (.int r), .val (.int ro), .val (.int dr), .val (.int ow), .val (.int pr), .val (.int se), .val (.int hf), .val (.int rs), .val (.int dm), .val (.int el), .val (.int eh), .val (.ref o), .val (.ref mi), .val (.long qo.toInt64), .second, .val (.long rf), .second] [(.double sm)])
  have hS : -(el.toInt + eh.toInt) * qo.toInt = 0 + 0 + 0 - 64 * qo.toInt := by
    have e9 : el.toInt = 64 - (0) - eh.toInt := by omega
    rw [e9]
    simp only [Int.mul_sub, Int.sub_mul, Int.add_mul, Int.neg_mul, Int.zero_mul]
    omega
  rw [hS, ← href] at hsm
  have bS : -1000000000000 ≤ rf.toInt ∧ rf.toInt ≤ 1000000000000 := by rw [href]; omega
  refine o_ldc2D 509 W (tw hw 93) at_506 ?_
  refine o_dmulQ 510 W hsm own_64 (by omega) (hd := at_509) (K := fun ym hym => ?_)
  refine o_lload 512 W at_510 rfl ?_
  refine o_l2dQ 513 W (by omega) (hd := at_512) (K := fun yr hyr => ?_)
  have hyu := hyr.up 6
  refine o_dcmpQ 514 W hym hyu at_513 ?_
  refine o_ifN 517 W at_514 (XT.i0_ne_f ((own_c0 _ _).mpr (by first | rfl | omega))) ?_
  refine o_iconst 518 W (1) at_517 (by first | rfl | decide) ?_
  refine o_goto 522 W at_518 ?_
  exact o_nret W (1 : Int32) (by simp) (by decide) at_522 (rfl)
theorem own_tail1 (l : Launch) (Z : State) (b0 : Array Value) (hw : ∀ d ∈ tables_1, d.before b0 Z = true) {p : Program} {e : Env} {s : State} {m : MethodId} {args : Array Value} {below : List Frame} {meth : Method} {c : Code} {T : State} {h : Heap} {sf : List Addr} (n0 n1 n2 n3 n4 f0 g0 f1 g1 f2 g2 r ro dr ow pr se hf rs dm el eh qo : Int32) (o va ca la ka ea la2 ua uc sa ev er so px py rx ry : Addr) (kva kca kla kka kea kla2 kua kuc ksa kev ker kso kpx kpy krx kry : ClassId) (rcv : Value) (VL CL LL : List Value) (r4 : ¬ r < 0 ∧ r < 4) (ro4 : ¬ ro < 0 ∧ ro < 4) (hne : ro.toNatClampNeg ≠ r.toNatClampNeg) (xr0r1 : ((2 : Int32) * r).toNatClampNeg ≠ (((2 : Int32) * r) + (1 : Int32)).toNatClampNeg) (xro0r0 : ((2 : Int32) * ro).toNatClampNeg ≠ ((2 : Int32) * r).toNatClampNeg) (xro0r1 : ((2 : Int32) * ro).toNatClampNeg ≠ (((2 : Int32) * r) + (1 : Int32)).toNatClampNeg) (xro0ro1 : ((2 : Int32) * ro).toNatClampNeg ≠ (((2 : Int32) * ro) + (1 : Int32)).toNatClampNeg) (xro1r0 : (((2 : Int32) * ro) + (1 : Int32)).toNatClampNeg ≠ ((2 : Int32) * r).toNatClampNeg) (xro1r1 : (((2 : Int32) * ro) + (1 : Int32)).toNatClampNeg ≠ (((2 : Int32) * r) + (1 : Int32)).toNatClampNeg) (kr0 : ¬ ((2 : Int32) * r) < 0 ∧ ((2 : Int32) * r) < 8) (kr1 : ¬ (((2 : Int32) * r) + (1 : Int32)) < 0 ∧ (((2 : Int32) * r) + (1 : Int32)) < 8) (kro0 : ¬ ((2 : Int32) * ro) < 0 ∧ ((2 : Int32) * ro) < 8) (kro1 : ¬ (((2 : Int32) * ro) + (1 : Int32)) < 0 ∧ (((2 : Int32) * ro) + (1 : Int32)) < 8) (lV : VL.length = 4) (lC : CL.length = 4) (lL : LL.length = 4) (hV : VL.getD r.toNatClampNeg (.null) = .ref rx) (hVo : VL.getD ro.toNatClampNeg (.null) = .ref px) (hC : CL.getD r.toNatClampNeg (.null) = .ref ry) (hCo : CL.getD ro.toNatClampNeg (.null) = .ref py) (hL : LL.getD r.toNatClampNeg (.int 0) = .int 0) (hLo : LL.getD ro.toNatClampNeg (.int 0) = .int 0) (bf0 : 0 ≤ f0.toInt ∧ f0.toInt ≤ 20) (bg0 : 0 ≤ g0.toInt ∧ g0.toInt ≤ 20) (bf1 : 0 ≤ f1.toInt ∧ f1.toInt ≤ 20) (bg1 : 0 ≤ g1.toInt ∧ g1.toInt ≤ 20) (bf2 : 0 ≤ f2.toInt ∧ f2.toInt ≤ 20) (bg2 : 0 ≤ g2.toInt ∧ g2.toInt ≤ 20) (bel : 0 ≤ el.toInt ∧ el.toInt ≤ 32) (beh : 0 ≤ eh.toInt ∧ eh.toInt ≤ 32) (hee : el.toInt + eh.toInt = 64 - ((f0.toInt + g0.toInt))) (how : ow = 0 ∧ qo = n0 ∨ ow = 1 ∧ qo = n1 ∨ ow = 2 ∧ qo = n2) (Ova : OvrA Z kva .int "[I") (Oca : OvrA Z kca .double "[D") (Oua : OvrA Z kua .int "[I") (zo : Z.heap.size ≤ o) (W : Wk p l e room_1 s m args below meth c Z x code maxLocals ret T h 17 107 sf) (OBJ : OB Z h o "com/example/markov_reachability/markovreachability/IntervalEquations" [("ceiling", "D", (.double FP.dconst1)), ("variables", "[[I", (.ref va)), ("coefficients", "[[D", (.ref ca)), ("length", "[I", (.ref la)), ("constant", "[D", (.ref ka)), ("exit", "[D", (.ref ea)), ("eliminating", "[Z", (.ref la2)), ("users", "[[I", (.ref ua)), ("userCount", "[I", (.ref uc)), ("substitutable", "[I", (.ref sa)), ("eliminatedVariable", "[I", (.ref ev)), ("eliminatedRow", "[I", (.ref er)), ("slot", "[I", (.ref so)), ("rowCount", "I", rcv)]) (H : HM Z h [(va, kva, (.array .int), 4, VL, (.null)), (ca, kca, (.array .double), 4, CL, (.null)), (la, kla, .int, 4, LL, (.int 0)), (ua, kua, (.array .int), 3, [(.null), (.null), (.null)], (.null)), (uc, kuc, .int, 3, [(.int 0), (.int 0), (.int 0)], (.int 0)), (sa, ksa, .int, 3, [(.int 0), (.int 0), (.int 0)], (.int 0)), (px, kpx, .int, 2, [(.int 0), (.int 0)], (.int 0)), (py, kpy, .double, 4, [(.double 0), (.double 0), (.double 0), (.double 0)], (.double 0)), (rx, krx, .int, 2, [(.int 0), (.int 0)], (.int 0)), (ry, kry, .double, 4, [(.double 0), (.double 0), (.double 0), (.double 0)], (.double 0)), (ea, kea, .double, 8, [(.double 0), (.double 0), (.double 0), (.double 0), (.double 0), (.double 0), (.double 0), (.double 0)], (.double 0))]) : Go p e below (Gd s below Z (QV fun w h => w = .int 1) (room_1).cells (room_1).slots) T (mkF m 259 #[.val (.int n0), .val (.int n1), .val (.int n2), .val (.int n3), .val (.int n4), .val (.int f0), .val (.int g0), .val (.int f1), .val (.int g1), .val (.int f2), .val (.int g2), .val (.int (1 : Int32)), .val (.int (0 : Int32)), .val (.int (0 : Int32)), .val (.int r), .val (.int ro), .val (.int dr), .val (.int ow), .val (.int pr), .val (.int se), .val (.int hf), .val (.int rs), .val (.int dm), .val (.int el), .val (.int eh), .val (.ref o), .unset, .unset, .unset, .unset, .unset] []) := by
  have rr := own_r4 r4
  have qr := own_r4 ro4
  have qr0 := own_r8 kr0
  have qr1 := own_r8 kr1
  have qro0 := own_r8 kro0
  have qro1 := own_r8 kro1
  refine o_aload 261 W at_259 rfl rfl ?_
  refine o_iload 263 W at_261 rfl ?_
  refine o_iconst 264 W (0) at_263 (by first | rfl | decide) ?_
  refine o_dconst1 265 W at_264 ?_
  refine o_dconst1 266 W at_265 ?_
  have H : HM Z h [(va, kva, (.array .int), 4, VL, (.null)), (ca, kca, (.array .double), 4, CL, (.null)), (la, kla, .int, 4, LL, (.int 0)), (ua, kua, (.array .int), 3, [(.null), (.null), (.null)], (.null)), (uc, kuc, .int, 3, [(.int 0), (.int 0), (.int 0)], (.int 0)), (sa, ksa, .int, 3, [(.int 0), (.int 0), (.int 0)], (.int 0)), (px, kpx, .int, 2, [(.int 0), (.int 0)], (.int 0)), (py, kpy, .double, 4, [(.double 0), (.double 0), (.double 0), (.double 0)], (.double 0)), (rx, krx, .int, 2, [(.int 0), (.int 0)], (.int 0)), (ry, kry, .double, 4, [(.double 0), (.double 0), (.double 0), (.double 0)], (.double 0)), (ea, kea, .double, 8, [(.double 0), (.double 0), (.double 0), (.double 0), (.double 0), (.double 0), (.double 0), (.double 0)], (.double 0))] := ((((((((H.front 7 rfl).front 7 rfl).front 7 rfl).front 7 rfl).front 7 rfl).front 7 rfl).front 7 rfl).front 7 rfl)
  refine o_virtual 269 [(.int ro), (.int (0 : Int32)), (.double FP.dconst1), (.double FP.dconst1)] W (tw hw 60) (tw hw 61) (tw hw 63) (tw hw 62) (tw hw 7) (tw hw 64) (OBJ.1) (con_adcA0 l Z b0 hw o va ca la ka ea la2 ua uc sa ev er so px py kva kca kla kka kea kla2 kua kuc ksa kev ker kso kpx kpy rcv ro (0 : Int32) 0 FP.dconst1 FP.dconst1 VL CL LL [(.null), (.null), (.null)] [(.int 0), (.int 0), (.int 0)] [(.int 0), (.int 0), (.int 0)] (.int 0) (.int 0) (.double 0) (.double 0) (.double 0) (.double 0) ro4 (by decide) (by simp [lV]) (by simp [lC]) (by simp [lL]) (by simp) (by simp) (by simp) hVo hCo hLo rfl rfl rfl Ova Oca Oua _ W.old OBJ (HM.split (P := [_, _, _, _, _, _, _, _]) H).1) pd4 at_266 rfl all0 (fun T h v W qq gg => ?_)
  obtain ⟨rfl, Kc, OBJ1, us0, kus0, nus0, H1⟩ := qq
  show Go p e below _ _ (mkF m 269 #[.val (.int n0), .val (.int n1), .val (.int n2), .val (.int n3), .val (.int n4), .val (.int f0), .val (.int g0), .val (.int f1), .val (.int g1), .val (.int f2), .val (.int g2), .val (.int (1 : Int32)), .val (.int (0 : Int32)), .val (.int (0 : Int32)), .val (.int r), .val (.int ro), .val (.int dr), .val (.int ow), .val (.int pr), .val (.int se), .val (.int hf), .val (.int rs), .val (.int dm), .val (.int el), .val (.int eh), .val (.ref o), .unset, .unset, .unset, .unset, .unset] [])
  have H : HM Z h [(us0, kus0, .int, 4, [(.int ro), (.int 0), (.int 0), (.int 0)], (.int 0)), (va, kva, (.array .int), 4, VL, (.null)), (ca, kca, (.array .double), 4, CL, (.null)), (la, kla, .int, 4, (LL.set ro.toNatClampNeg (.int 1)), (.int 0)), (ua, kua, (.array .int), 3, ([(.null), (.null), (.null)].set (0 : Int32).toNatClampNeg (.ref us0)), (.null)), (uc, kuc, .int, 3, ([(.int 0), (.int 0), (.int 0)].set (0 : Int32).toNatClampNeg (.int 1)), (.int 0)), (sa, ksa, .int, 3, ([(.int 0), (.int 0), (.int 0)].set (0 : Int32).toNatClampNeg (.int (0 + 1))), (.int 0)), (px, kpx, .int, 2, [(.int (0 : Int32)), (.int 0)], (.int 0)), (py, kpy, .double, 4, [(.double FP.dconst1), (.double FP.dconst1), (.double 0), (.double 0)], (.double 0)), (rx, krx, .int, 2, [(.int 0), (.int 0)], (.int 0)), (ry, kry, .double, 4, [(.double 0), (.double 0), (.double 0), (.double 0)], (.double 0)), (ea, kea, .double, 8, [(.double 0), (.double 0), (.double 0), (.double 0), (.double 0), (.double 0), (.double 0), (.double 0)], (.double 0))] := HM.frame (P := [_, _, _, _, _, _, _, _]) H H1 Kc (by simp [HE.a, nus0])
  have OBJ := OBJ1
  have H : HM Z h [(us0, kus0, .int, 4, [(.int ro), (.int 0), (.int 0), (.int 0)], (.int 0)), (va, kva, (.array .int), 4, VL, (.null)), (ca, kca, (.array .double), 4, CL, (.null)), (la, kla, .int, 4, (LL.set ro.toNatClampNeg (.int 1)), (.int 0)), (ua, kua, (.array .int), 3, [(.ref us0), (.null), (.null)], (.null)), (uc, kuc, .int, 3, [(.int 1), (.int 0), (.int 0)], (.int 0)), (sa, ksa, .int, 3, [(.int (0 + 1)), (.int 0), (.int 0)], (.int 0)), (px, kpx, .int, 2, [(.int (0 : Int32)), (.int 0)], (.int 0)), (py, kpy, .double, 4, [(.double FP.dconst1), (.double FP.dconst1), (.double 0), (.double 0)], (.double 0)), (rx, krx, .int, 2, [(.int 0), (.int 0)], (.int 0)), (ry, kry, .double, 4, [(.double 0), (.double 0), (.double 0), (.double 0)], (.double 0)), (ea, kea, .double, 8, [(.double 0), (.double 0), (.double 0), (.double 0), (.double 0), (.double 0), (.double 0), (.double 0)], (.double 0))] := H
  refine o_aload 271 W at_269 rfl rfl ?_
  refine o_iload 273 W at_271 rfl ?_
  refine o_ldc2D 276 W (tw hw 69) at_273 ?_
  refine o_dconst1 277 W at_276 ?_
  have H : HM Z h [(ea, kea, .double, 8, [(.double 0), (.double 0), (.double 0), (.double 0), (.double 0), (.double 0), (.double 0), (.double 0)], (.double 0)), (us0, kus0, .int, 4, [(.int ro), (.int 0), (.int 0), (.int 0)], (.int 0)), (va, kva, (.array .int), 4, VL, (.null)), (ca, kca, (.array .double), 4, CL, (.null)), (la, kla, .int, 4, (LL.set ro.toNatClampNeg (.int 1)), (.int 0)), (ua, kua, (.array .int), 3, [(.ref us0), (.null), (.null)], (.null)), (uc, kuc, .int, 3, [(.int 1), (.int 0), (.int 0)], (.int 0)), (sa, ksa, .int, 3, [(.int (0 + 1)), (.int 0), (.int 0)], (.int 0)), (px, kpx, .int, 2, [(.int (0 : Int32)), (.int 0)], (.int 0)), (py, kpy, .double, 4, [(.double FP.dconst1), (.double FP.dconst1), (.double 0), (.double 0)], (.double 0)), (rx, krx, .int, 2, [(.int 0), (.int 0)], (.int 0)), (ry, kry, .double, 4, [(.double 0), (.double 0), (.double 0), (.double 0)], (.double 0))] := (H.front 11 rfl)
  refine o_virtual 280 [(.int ro), (.double (4602678819172646912 : UInt64)), (.double FP.dconst1)] W (tw hw 70) (tw hw 71) (tw hw 73) (tw hw 72) (tw hw 7) (tw hw 74) (OBJ.1) (con_adx l Z b0 hw o va ca la ka ea la2 ua uc sa ev er so kva kca kla kka kea kla2 kua kuc ksa kev ker kso rcv ro (4602678819172646912 : UInt64) FP.dconst1 [(.double 0), (.double 0), (.double 0), (.double 0), (.double 0), (.double 0), (.double 0), (.double 0)] own_half own_one5 (by omega) kro0 kro1 (by simp) (own_rep8 _ _) (own_rep8 _ _) xro0ro1 _ W.old OBJ zo (HM.split (P := [_]) H).1) pd6 at_277 rfl all0 (fun T h v W qq gg => ?_)
  obtain ⟨rfl, Kc, OBJ1, yo, hyo, H1⟩ := qq
  show Go p e below _ _ (mkF m 280 #[.val (.int n0), .val (.int n1), .val (.int n2), .val (.int n3), .val (.int n4), .val (.int f0), .val (.int g0), .val (.int f1), .val (.int g1), .val (.int f2), .val (.int g2), .val (.int (1 : Int32)), .val (.int (0 : Int32)), .val (.int (0 : Int32)), .val (.int r), .val (.int ro), .val (.int dr), .val (.int ow), .val (.int pr), .val (.int se), .val (.int hf), .val (.int rs), .val (.int dm), .val (.int el), .val (.int eh), .val (.ref o), .unset, .unset, .unset, .unset, .unset] [])
  have H : HM Z h [(ea, kea, .double, 8, (([(.double 0), (.double 0), (.double 0), (.double 0), (.double 0), (.double 0), (.double 0), (.double 0)].set ((2 : Int32) * ro).toNatClampNeg (.double (4602678819172646912 : UInt64))).set (((2 : Int32) * ro) + (1 : Int32)).toNatClampNeg (.double yo)), (.double 0)), (us0, kus0, .int, 4, [(.int ro), (.int 0), (.int 0), (.int 0)], (.int 0)), (va, kva, (.array .int), 4, VL, (.null)), (ca, kca, (.array .double), 4, CL, (.null)), (la, kla, .int, 4, (LL.set ro.toNatClampNeg (.int 1)), (.int 0)), (ua, kua, (.array .int), 3, [(.ref us0), (.null), (.null)], (.null)), (uc, kuc, .int, 3, [(.int 1), (.int 0), (.int 0)], (.int 0)), (sa, ksa, .int, 3, [(.int (0 + 1)), (.int 0), (.int 0)], (.int 0)), (px, kpx, .int, 2, [(.int (0 : Int32)), (.int 0)], (.int 0)), (py, kpy, .double, 4, [(.double FP.dconst1), (.double FP.dconst1), (.double 0), (.double 0)], (.double 0)), (rx, krx, .int, 2, [(.int 0), (.int 0)], (.int 0)), (ry, kry, .double, 4, [(.double 0), (.double 0), (.double 0), (.double 0)], (.double 0))] := HM.frame (P := [_]) H H1 Kc (by simp [HE.a])
  have OBJ := OBJ1
  refine o_iload 282 W at_280 rfl ?_
  refine o_ifN 285 W at_282 (XT.i0_eq_f (by decide)) ?_
  refine o_aload 287 W at_285 rfl rfl ?_
  refine o_iload 289 W at_287 rfl ?_
  refine o_iconst 290 W (0) at_289 (by first | rfl | decide) ?_
  refine o_iload 292 W at_290 rfl ?_
  refine o_i2dQ 293 W  (hd := at_292) (K := fun ux0 hux0 => ?_)
  refine o_ldc2D 296 W (tw hw 85) at_293 ?_
  refine o_ddivQ 297 W 5 hux0 own_32 (own_nb32 _) (hd := at_296) (K := fun x0 hx0 => ?_)
  refine o_iload 299 W at_297 rfl ?_
  refine o_i2dQ 300 W  (hd := at_299) (K := fun uz0 huz0 => ?_)
  refine o_ldc2D 303 W (tw hw 85) at_300 ?_
  refine o_ddivQ 304 W 5 huz0 own_32 (own_nb32 _) (hd := at_303) (K := fun z0 hz0 => ?_)
  have H : HM Z h [(va, kva, (.array .int), 4, VL, (.null)), (ca, kca, (.array .double), 4, CL, (.null)), (la, kla, .int, 4, (LL.set ro.toNatClampNeg (.int 1)), (.int 0)), (ua, kua, (.array .int), 3, [(.ref us0), (.null), (.null)], (.null)), (uc, kuc, .int, 3, [(.int 1), (.int 0), (.int 0)], (.int 0)), (sa, ksa, .int, 3, [(.int (0 + 1)), (.int 0), (.int 0)], (.int 0)), (rx, krx, .int, 2, [(.int 0), (.int 0)], (.int 0)), (ry, kry, .double, 4, [(.double 0), (.double 0), (.double 0), (.double 0)], (.double 0)), (us0, kus0, .int, 4, [(.int ro), (.int 0), (.int 0), (.int 0)], (.int 0)), (ea, kea, .double, 8, (([(.double 0), (.double 0), (.double 0), (.double 0), (.double 0), (.double 0), (.double 0), (.double 0)].set ((2 : Int32) * ro).toNatClampNeg (.double (4602678819172646912 : UInt64))).set (((2 : Int32) * ro) + (1 : Int32)).toNatClampNeg (.double yo)), (.double 0)), (px, kpx, .int, 2, [(.int (0 : Int32)), (.int 0)], (.int 0)), (py, kpy, .double, 4, [(.double FP.dconst1), (.double FP.dconst1), (.double 0), (.double 0)], (.double 0))] := (((((((((H.front 1 rfl).front 11 rfl).front 11 rfl).front 9 rfl).front 9 rfl).front 9 rfl).front 9 rfl).front 9 rfl).front 9 rfl)
  refine o_virtual 307 [(.int r), (.int (0 : Int32)), (.double x0), (.double z0)] W (tw hw 60) (tw hw 61) (tw hw 63) (tw hw 62) (tw hw 7) (tw hw 64) (OBJ.1) (con_adcB0 l Z b0 hw o va ca la ka ea la2 ua uc sa ev er so rx ry us0 kva kca kla kka kea kla2 kua kuc ksa kev ker kso krx kry kus0 rcv r (0 : Int32) (0 + 1) x0 z0 VL CL (LL.set ro.toNatClampNeg (.int 1)) [(.ref us0), (.null), (.null)] [(.int 1), (.int 0), (.int 0)] [(.int (0 + 1)), (.int 0), (.int 0)] (.int 0) (.int 0) (.double 0) (.double 0) (.double 0) (.double 0) (.int ro) (.int 0) (.int 0) (.int 0) r4 (by decide) (by simp [lV]) (by simp [lC]) (by simp [lL]) (by simp) (by simp) (by simp) hV hC ((own_gsetne hne).trans hL) rfl rfl rfl Ova Oca Oua _ W.old OBJ (HM.split (P := [_, _, _, _, _, _, _, _, _]) H).1) pd4 at_304 rfl all0 (fun T h v W qq gg => ?_)
  obtain ⟨rfl, Kc, OBJ1, H1⟩ := qq
  show Go p e below _ _ (mkF m 307 #[.val (.int n0), .val (.int n1), .val (.int n2), .val (.int n3), .val (.int n4), .val (.int f0), .val (.int g0), .val (.int f1), .val (.int g1), .val (.int f2), .val (.int g2), .val (.int (1 : Int32)), .val (.int (0 : Int32)), .val (.int (0 : Int32)), .val (.int r), .val (.int ro), .val (.int dr), .val (.int ow), .val (.int pr), .val (.int se), .val (.int hf), .val (.int rs), .val (.int dm), .val (.int el), .val (.int eh), .val (.ref o), .unset, .unset, .unset, .unset, .unset] [])
  have H : HM Z h [(va, kva, (.array .int), 4, VL, (.null)), (ca, kca, (.array .double), 4, CL, (.null)), (la, kla, .int, 4, ((LL.set ro.toNatClampNeg (.int 1)).set r.toNatClampNeg (.int 1)), (.int 0)), (ua, kua, (.array .int), 3, [(.ref us0), (.null), (.null)], (.null)), (uc, kuc, .int, 3, ([(.int 1), (.int 0), (.int 0)].set (0 : Int32).toNatClampNeg (.int 2)), (.int 0)), (sa, ksa, .int, 3, ([(.int (0 + 1)), (.int 0), (.int 0)].set (0 : Int32).toNatClampNeg (.int ((0 + 1) + 1))), (.int 0)), (rx, krx, .int, 2, [(.int (0 : Int32)), (.int 0)], (.int 0)), (ry, kry, .double, 4, [(.double x0), (.double z0), (.double 0), (.double 0)], (.double 0)), (us0, kus0, .int, 4, [(.int ro), (.int r), (.int 0), (.int 0)], (.int 0)), (ea, kea, .double, 8, (([(.double 0), (.double 0), (.double 0), (.double 0), (.double 0), (.double 0), (.double 0), (.double 0)].set ((2 : Int32) * ro).toNatClampNeg (.double (4602678819172646912 : UInt64))).set (((2 : Int32) * ro) + (1 : Int32)).toNatClampNeg (.double yo)), (.double 0)), (px, kpx, .int, 2, [(.int (0 : Int32)), (.int 0)], (.int 0)), (py, kpy, .double, 4, [(.double FP.dconst1), (.double FP.dconst1), (.double 0), (.double 0)], (.double 0))] := HM.frame (P := [_, _, _, _, _, _, _, _, _]) H H1 Kc (by simp [HE.a])
  have OBJ := OBJ1
  have H : HM Z h [(va, kva, (.array .int), 4, VL, (.null)), (ca, kca, (.array .double), 4, CL, (.null)), (la, kla, .int, 4, ((LL.set ro.toNatClampNeg (.int 1)).set r.toNatClampNeg (.int 1)), (.int 0)), (ua, kua, (.array .int), 3, [(.ref us0), (.null), (.null)], (.null)), (uc, kuc, .int, 3, [(.int 2), (.int 0), (.int 0)], (.int 0)), (sa, ksa, .int, 3, [(.int ((0 + 1) + 1)), (.int 0), (.int 0)], (.int 0)), (rx, krx, .int, 2, [(.int (0 : Int32)), (.int 0)], (.int 0)), (ry, kry, .double, 4, [(.double x0), (.double z0), (.double 0), (.double 0)], (.double 0)), (us0, kus0, .int, 4, [(.int ro), (.int r), (.int 0), (.int 0)], (.int 0)), (ea, kea, .double, 8, (([(.double 0), (.double 0), (.double 0), (.double 0), (.double 0), (.double 0), (.double 0), (.double 0)].set ((2 : Int32) * ro).toNatClampNeg (.double (4602678819172646912 : UInt64))).set (((2 : Int32) * ro) + (1 : Int32)).toNatClampNeg (.double yo)), (.double 0)), (px, kpx, .int, 2, [(.int (0 : Int32)), (.int 0)], (.int 0)), (py, kpy, .double, 4, [(.double FP.dconst1), (.double FP.dconst1), (.double 0), (.double 0)], (.double 0))] := H
  refine o_iload 309 W at_307 rfl ?_
  refine o_ifY 334 W at_309 (XT.i0_eq_t (by decide)) ?_
  refine o_iload 336 W at_334 rfl ?_
  refine o_ifY 361 W at_336 (XT.i0_eq_t (by decide)) ?_
  refine o_aload 363 W at_361 rfl rfl ?_
  refine o_iload 365 W at_363 rfl ?_
  refine o_iload 367 W at_365 rfl ?_
  refine o_i2dQ 368 W  (hd := at_367) (K := fun uxl huxl => ?_)
  refine o_ldc2D 371 W (tw hw 85) at_368 ?_
  refine o_ddivQ 372 W 5 huxl own_32 (own_nb32 _) (hd := at_371) (K := fun xl hxl => ?_)
  refine o_iload 374 W at_372 rfl ?_
  refine o_i2dQ 375 W  (hd := at_374) (K := fun uxh huxh => ?_)
  refine o_ldc2D 378 W (tw hw 85) at_375 ?_
  refine o_ddivQ 379 W 5 huxh own_32 (own_nb32 _) (hd := at_378) (K := fun xh hxh => ?_)
  have H : HM Z h [(ea, kea, .double, 8, (([(.double 0), (.double 0), (.double 0), (.double 0), (.double 0), (.double 0), (.double 0), (.double 0)].set ((2 : Int32) * ro).toNatClampNeg (.double (4602678819172646912 : UInt64))).set (((2 : Int32) * ro) + (1 : Int32)).toNatClampNeg (.double yo)), (.double 0)), (va, kva, (.array .int), 4, VL, (.null)), (ca, kca, (.array .double), 4, CL, (.null)), (la, kla, .int, 4, ((LL.set ro.toNatClampNeg (.int 1)).set r.toNatClampNeg (.int 1)), (.int 0)), (ua, kua, (.array .int), 3, [(.ref us0), (.null), (.null)], (.null)), (uc, kuc, .int, 3, [(.int 2), (.int 0), (.int 0)], (.int 0)), (sa, ksa, .int, 3, [(.int ((0 + 1) + 1)), (.int 0), (.int 0)], (.int 0)), (rx, krx, .int, 2, [(.int (0 : Int32)), (.int 0)], (.int 0)), (ry, kry, .double, 4, [(.double x0), (.double z0), (.double 0), (.double 0)], (.double 0)), (us0, kus0, .int, 4, [(.int ro), (.int r), (.int 0), (.int 0)], (.int 0)), (px, kpx, .int, 2, [(.int (0 : Int32)), (.int 0)], (.int 0)), (py, kpy, .double, 4, [(.double FP.dconst1), (.double FP.dconst1), (.double 0), (.double 0)], (.double 0))] := (H.front 9 rfl)
  refine o_virtual 382 [(.int r), (.double xl), (.double xh)] W (tw hw 70) (tw hw 71) (tw hw 73) (tw hw 72) (tw hw 7) (tw hw 74) (OBJ.1) (con_adx l Z b0 hw o va ca la ka ea la2 ua uc sa ev er so kva kca kla kka kea kla2 kua kuc ksa kev ker kso rcv r xl xh (([(.double 0), (.double 0), (.double 0), (.double 0), (.double 0), (.double 0), (.double 0), (.double 0)].set ((2 : Int32) * ro).toNatClampNeg (.double (4602678819172646912 : UInt64))).set (((2 : Int32) * ro) + (1 : Int32)).toNatClampNeg (.double yo)) hxl hxh beh.2 kr0 kr1 (by simp) ((own_gsetne xro1r0).trans ((own_gsetne xro0r0).trans (own_rep8 _ _))) ((own_gsetne xro1r1).trans ((own_gsetne xro0r1).trans (own_rep8 _ _))) xr0r1 _ W.old OBJ zo (HM.split (P := [_]) H).1) pd6 at_379 rfl all0 (fun T h v W qq gg => ?_)
  obtain ⟨rfl, Kc, OBJ1, yh, hyh, H1⟩ := qq
  show Go p e below _ _ (mkF m 382 #[.val (.int n0), .val (.int n1), .val (.int n2), .val (.int n3), .val (.int n4), .val (.int f0), .val (.int g0), .val (.int f1), .val (.int g1), .val (.int f2), .val (.int g2), .val (.int (1 : Int32)), .val (.int (0 : Int32)), .val (.int (0 : Int32)), .val (.int r), .val (.int ro), .val (.int dr), .val (.int ow), .val (.int pr), .val (.int se), .val (.int hf), .val (.int rs), .val (.int dm), .val (.int el), .val (.int eh), .val (.ref o), .unset, .unset, .unset, .unset, .unset] [])
  have H : HM Z h [(ea, kea, .double, 8, (((([(.double 0), (.double 0), (.double 0), (.double 0), (.double 0), (.double 0), (.double 0), (.double 0)].set ((2 : Int32) * ro).toNatClampNeg (.double (4602678819172646912 : UInt64))).set (((2 : Int32) * ro) + (1 : Int32)).toNatClampNeg (.double yo)).set ((2 : Int32) * r).toNatClampNeg (.double xl)).set (((2 : Int32) * r) + (1 : Int32)).toNatClampNeg (.double yh)), (.double 0)), (va, kva, (.array .int), 4, VL, (.null)), (ca, kca, (.array .double), 4, CL, (.null)), (la, kla, .int, 4, ((LL.set ro.toNatClampNeg (.int 1)).set r.toNatClampNeg (.int 1)), (.int 0)), (ua, kua, (.array .int), 3, [(.ref us0), (.null), (.null)], (.null)), (uc, kuc, .int, 3, [(.int 2), (.int 0), (.int 0)], (.int 0)), (sa, ksa, .int, 3, [(.int ((0 + 1) + 1)), (.int 0), (.int 0)], (.int 0)), (rx, krx, .int, 2, [(.int (0 : Int32)), (.int 0)], (.int 0)), (ry, kry, .double, 4, [(.double x0), (.double z0), (.double 0), (.double 0)], (.double 0)), (us0, kus0, .int, 4, [(.int ro), (.int r), (.int 0), (.int 0)], (.int 0)), (px, kpx, .int, 2, [(.int (0 : Int32)), (.int 0)], (.int 0)), (py, kpy, .double, 4, [(.double FP.dconst1), (.double FP.dconst1), (.double 0), (.double 0)], (.double 0))] := HM.frame (P := [_]) H H1 Kc (by simp [HE.a])
  have OBJ := OBJ1
  refine o_iconst 383 W (3) at_382 (by first | rfl | decide) ?_
  refine o_newarray 385 3 W (tw hw 27) at_383 (by decide) (by decide) (fun T h mi kmi W Emi Ami gmi zmi => ?_)
  have Ami : Arv Z h mi kmi .double 3 [(.double 0), (.double 0), (.double 0)] (.double 0) := own_pad 3 Ami
  have OBJ := OBJ.ext Emi
  have H : HM Z h [(mi, kmi, .double, 3, [(.double 0), (.double 0), (.double 0)], (.double 0)), (ea, kea, .double, 8, (((([(.double 0), (.double 0), (.double 0), (.double 0), (.double 0), (.double 0), (.double 0), (.double 0)].set ((2 : Int32) * ro).toNatClampNeg (.double (4602678819172646912 : UInt64))).set (((2 : Int32) * ro) + (1 : Int32)).toNatClampNeg (.double yo)).set ((2 : Int32) * r).toNatClampNeg (.double xl)).set (((2 : Int32) * r) + (1 : Int32)).toNatClampNeg (.double yh)), (.double 0)), (va, kva, (.array .int), 4, VL, (.null)), (ca, kca, (.array .double), 4, CL, (.null)), (la, kla, .int, 4, ((LL.set ro.toNatClampNeg (.int 1)).set r.toNatClampNeg (.int 1)), (.int 0)), (ua, kua, (.array .int), 3, [(.ref us0), (.null), (.null)], (.null)), (uc, kuc, .int, 3, [(.int 2), (.int 0), (.int 0)], (.int 0)), (sa, ksa, .int, 3, [(.int ((0 + 1) + 1)), (.int 0), (.int 0)], (.int 0)), (rx, krx, .int, 2, [(.int (0 : Int32)), (.int 0)], (.int 0)), (ry, kry, .double, 4, [(.double x0), (.double z0), (.double 0), (.double 0)], (.double 0)), (us0, kus0, .int, 4, [(.int ro), (.int r), (.int 0), (.int 0)], (.int 0)), (px, kpx, .int, 2, [(.int (0 : Int32)), (.int 0)], (.int 0)), (py, kpy, .double, 4, [(.double FP.dconst1), (.double FP.dconst1), (.double 0), (.double 0)], (.double 0))] := H.new Emi Ami gmi zmi
  refine o_astore 387 W #[.val (.int n0), .val (.int n1), .val (.int n2), .val (.int n3), .val (.int n4), .val (.int f0), .val (.int g0), .val (.int f1), .val (.int g1), .val (.int f2), .val (.int g2), .val (.int (1 : Int32)), .val (.int (0 : Int32)), .val (.int (0 : Int32)), .val (.int r), .val (.int ro), .val (.int dr), .val (.int ow), .val (.int pr), .val (.int se), .val (.int hf), .val (.int rs), .val (.int dm), .val (.int el), .val (.int eh), .val (.ref o), .val (.ref mi), .unset, .unset, .unset, .unset] at_385 rfl rfl ?_
  refine o_aload 389 W at_387 rfl rfl ?_
  refine o_iconst 390 W (0) at_389 (by first | rfl | decide) ?_
  refine o_iloadN 391 W at_390 rfl ?_
  refine o_i2dQ 392 W  (hd := at_391) (K := fun t0 ht0 => ?_)
  have G0 : Arv Z _ mi kmi .double 3 [(.double 0), (.double 0), (.double 0)] (.double 0) := H.get 0 rfl
  refine o_dastore 393 0 W G0 (by decide) rfl (by simp) (H.new? 0 rfl) at_392 (fun T h W w1 A1 => ?_)
  have OBJ := OBJ.wr (tw hw 6) (H.get 0 rfl) w1
  have H : HM Z h [(mi, kmi, .double, 3, [(.double t0), (.double 0), (.double 0)], (.double 0)), (ea, kea, .double, 8, (((([(.double 0), (.double 0), (.double 0), (.double 0), (.double 0), (.double 0), (.double 0), (.double 0)].set ((2 : Int32) * ro).toNatClampNeg (.double (4602678819172646912 : UInt64))).set (((2 : Int32) * ro) + (1 : Int32)).toNatClampNeg (.double yo)).set ((2 : Int32) * r).toNatClampNeg (.double xl)).set (((2 : Int32) * r) + (1 : Int32)).toNatClampNeg (.double yh)), (.double 0)), (va, kva, (.array .int), 4, VL, (.null)), (ca, kca, (.array .double), 4, CL, (.null)), (la, kla, .int, 4, ((LL.set ro.toNatClampNeg (.int 1)).set r.toNatClampNeg (.int 1)), (.int 0)), (ua, kua, (.array .int), 3, [(.ref us0), (.null), (.null)], (.null)), (uc, kuc, .int, 3, [(.int 2), (.int 0), (.int 0)], (.int 0)), (sa, ksa, .int, 3, [(.int ((0 + 1) + 1)), (.int 0), (.int 0)], (.int 0)), (rx, krx, .int, 2, [(.int (0 : Int32)), (.int 0)], (.int 0)), (ry, kry, .double, 4, [(.double x0), (.double z0), (.double 0), (.double 0)], (.double 0)), (us0, kus0, .int, 4, [(.int ro), (.int r), (.int 0), (.int 0)], (.int 0)), (px, kpx, .int, 2, [(.int (0 : Int32)), (.int 0)], (.int 0)), (py, kpy, .double, 4, [(.double FP.dconst1), (.double FP.dconst1), (.double 0), (.double 0)], (.double 0))] := H.wr 0 rfl w1 A1
  refine o_aload 395 W at_393 rfl rfl ?_
  refine o_iconst 396 W (1) at_395 (by first | rfl | decide) ?_
  refine o_iloadN 397 W at_396 rfl ?_
  refine o_i2dQ 398 W  (hd := at_397) (K := fun t1 ht1 => ?_)
  have G0 : Arv Z _ mi kmi .double 3 [(.double t0), (.double 0), (.double 0)] (.double 0) := H.get 0 rfl
  refine o_dastore 399 1 W G0 (by decide) rfl (by simp) (H.new? 0 rfl) at_398 (fun T h W w1 A1 => ?_)
  have OBJ := OBJ.wr (tw hw 6) (H.get 0 rfl) w1
  have H : HM Z h [(mi, kmi, .double, 3, [(.double t0), (.double t1), (.double 0)], (.double 0)), (ea, kea, .double, 8, (((([(.double 0), (.double 0), (.double 0), (.double 0), (.double 0), (.double 0), (.double 0), (.double 0)].set ((2 : Int32) * ro).toNatClampNeg (.double (4602678819172646912 : UInt64))).set (((2 : Int32) * ro) + (1 : Int32)).toNatClampNeg (.double yo)).set ((2 : Int32) * r).toNatClampNeg (.double xl)).set (((2 : Int32) * r) + (1 : Int32)).toNatClampNeg (.double yh)), (.double 0)), (va, kva, (.array .int), 4, VL, (.null)), (ca, kca, (.array .double), 4, CL, (.null)), (la, kla, .int, 4, ((LL.set ro.toNatClampNeg (.int 1)).set r.toNatClampNeg (.int 1)), (.int 0)), (ua, kua, (.array .int), 3, [(.ref us0), (.null), (.null)], (.null)), (uc, kuc, .int, 3, [(.int 2), (.int 0), (.int 0)], (.int 0)), (sa, ksa, .int, 3, [(.int ((0 + 1) + 1)), (.int 0), (.int 0)], (.int 0)), (rx, krx, .int, 2, [(.int (0 : Int32)), (.int 0)], (.int 0)), (ry, kry, .double, 4, [(.double x0), (.double z0), (.double 0), (.double 0)], (.double 0)), (us0, kus0, .int, 4, [(.int ro), (.int r), (.int 0), (.int 0)], (.int 0)), (px, kpx, .int, 2, [(.int (0 : Int32)), (.int 0)], (.int 0)), (py, kpy, .double, 4, [(.double FP.dconst1), (.double FP.dconst1), (.double 0), (.double 0)], (.double 0))] := H.wr 0 rfl w1 A1
  refine o_aload 401 W at_399 rfl rfl ?_
  refine o_iconst 402 W (2) at_401 (by first | rfl | decide) ?_
  refine o_iloadN 403 W at_402 rfl ?_
  refine o_i2dQ 404 W  (hd := at_403) (K := fun t2 ht2 => ?_)
  have G0 : Arv Z _ mi kmi .double 3 [(.double t0), (.double t1), (.double 0)] (.double 0) := H.get 0 rfl
  refine o_dastore 405 2 W G0 (by decide) rfl (by simp) (H.new? 0 rfl) at_404 (fun T h W w1 A1 => ?_)
  have OBJ := OBJ.wr (tw hw 6) (H.get 0 rfl) w1
  have H : HM Z h [(mi, kmi, .double, 3, [(.double t0), (.double t1), (.double t2)], (.double 0)), (ea, kea, .double, 8, (((([(.double 0), (.double 0), (.double 0), (.double 0), (.double 0), (.double 0), (.double 0), (.double 0)].set ((2 : Int32) * ro).toNatClampNeg (.double (4602678819172646912 : UInt64))).set (((2 : Int32) * ro) + (1 : Int32)).toNatClampNeg (.double yo)).set ((2 : Int32) * r).toNatClampNeg (.double xl)).set (((2 : Int32) * r) + (1 : Int32)).toNatClampNeg (.double yh)), (.double 0)), (va, kva, (.array .int), 4, VL, (.null)), (ca, kca, (.array .double), 4, CL, (.null)), (la, kla, .int, 4, ((LL.set ro.toNatClampNeg (.int 1)).set r.toNatClampNeg (.int 1)), (.int 0)), (ua, kua, (.array .int), 3, [(.ref us0), (.null), (.null)], (.null)), (uc, kuc, .int, 3, [(.int 2), (.int 0), (.int 0)], (.int 0)), (sa, ksa, .int, 3, [(.int ((0 + 1) + 1)), (.int 0), (.int 0)], (.int 0)), (rx, krx, .int, 2, [(.int (0 : Int32)), (.int 0)], (.int 0)), (ry, kry, .double, 4, [(.double x0), (.double z0), (.double 0), (.double 0)], (.double 0)), (us0, kus0, .int, 4, [(.int ro), (.int r), (.int 0), (.int 0)], (.int 0)), (px, kpx, .int, 2, [(.int (0 : Int32)), (.int 0)], (.int 0)), (py, kpy, .double, 4, [(.double FP.dconst1), (.double FP.dconst1), (.double 0), (.double 0)], (.double 0))] := H.wr 0 rfl w1 A1
  obtain ⟨to, hto, hmo, ho, hq0, hq1, hq2⟩ : ∃ to, DQ 0 qo.toInt to ∧ ([(.double t0), (.double t1), (.double t2)] : List Value).getD ow.toNatClampNeg (.double 0) = .double to ∧ (¬ ow < 0 ∧ ow < 3) ∧ (ow = 0 → qo = n0) ∧ (ow = 1 → qo = n1) ∧ (ow = 2 → qo = n2) := by
    rcases how with ⟨rfl, rfl⟩ | ⟨rfl, rfl⟩ | ⟨rfl, rfl⟩
    · exact ⟨t0, ht0, rfl, by decide, fun _ => rfl, fun q => absurd q (by decide), fun q => absurd q (by decide)⟩
    · exact ⟨t1, ht1, rfl, by decide, fun q => absurd q (by decide), fun _ => rfl, fun q => absurd q (by decide)⟩
    · exact ⟨t2, ht2, rfl, by decide, fun q => absurd q (by decide), fun q => absurd q (by decide), fun _ => rfl⟩
  refine Go.cutW W (g' := (mkF m 428 #[.val (.int n0), .val (.int n1), .val (.int n2), .val (.int n3), .val (.int n4), .val (.int f0), .val (.int g0), .val (.int f1), .val (.int g1), .val (.int f2), .val (.int g2), .val (.int (1 : Int32)), .val (.int (0 : Int32)), .val (.int (0 : Int32)), .val (.int r), .val (.int ro), .val (.int dr), .val (.int ow), .val (.int pr), .val (.int se), .val (.int hf), .val (.int rs), .val (.int dm), .val (.int el), .val (.int eh), .val (.ref o), .val (.ref mi), .unset, .unset, .unset, .unset] [(.long qo.toInt64)])) (fun J => ?_) (fun T W => ?_)
  · refine o_iload 407 W at_405 rfl ?_
    refine o_ifne 415 410 W at_407 (fun c407 => ?_) (fun c407 => ?_)
    · refine o_iload 417 W at_415 rfl ?_
      refine o_iconst 418 W (1) at_417 (by first | rfl | decide) ?_
      refine o_icne 426 421 W at_418 (fun c418 => ?_) (fun c418 => ?_)
      · refine o_iloadN 427 W at_426 rfl ?_
        refine o_i2l 428 W at_427 ?_
        rcases how with ⟨z1, z2⟩ | ⟨z1, z2⟩ | ⟨z1, z2⟩
        · exact absurd z1 c407
        · exact absurd z1 c418
        · rw [z2] at J; exact J T W
      · refine o_iloadN 422 W at_421 rfl ?_
        refine o_i2l 423 W at_422 ?_
        refine o_goto 428 W at_423 ?_
        rw [hq1 c418] at J
        exact J T W
    · refine o_iloadN 411 W at_410 rfl ?_
      refine o_i2l 412 W at_411 ?_
      refine o_goto 428 W at_412 ?_
      rw [hq0 c407] at J
      exact J T W
  refine o_lstore 430 W #[.val (.int n0), .val (.int n1), .val (.int n2), .val (.int n3), .val (.int n4), .val (.int f0), .val (.int g0), .val (.int f1), .val (.int g1), .val (.int f2), .val (.int g2), .val (.int (1 : Int32)), .val (.int (0 : Int32)), .val (.int (0 : Int32)), .val (.int r), .val (.int ro), .val (.int dr), .val (.int ow), .val (.int pr), .val (.int se), .val (.int hf), .val (.int rs), .val (.int dm), .val (.int el), .val (.int eh), .val (.ref o), .val (.ref mi), .val (.long qo.toInt64), .second, .unset, .unset] at_428 rfl ?_
  refine o_iload 432 W at_430 rfl ?_
  refine o_ifN 435 W at_432 (XT.i0_eq_f (by decide)) ?_
  refine o_iload 437 W at_435 rfl ?_
  refine o_iload 439 W at_437 rfl ?_
  refine o_iadd 440 W at_439 ?_
  refine o_i2l 441 W at_440 ?_
  refine o_iloadN 442 W at_441 rfl ?_
  refine o_i2l 443 W at_442 ?_
  refine o_lmul 444 W at_443 ?_
  have hp0 := own_lm (f := f0) (g := g0) (q := n0) rfl rfl bf0 bg0
  have pb0 := own_pbn (s := f0.toInt + g0.toInt) (q := n0.toInt) (by omega) (by omega) (by have := own_i31 n0; omega) (by have := own_i31 n0; omega)
  generalize (((f0 + g0).toInt64) * (n0.toInt64)) = p0 at hp0 ⊢
  refine o_goto 448 W at_444 ?_
  refine o_iload 450 W at_448 rfl ?_
  refine o_ifY 465 W at_450 (XT.i0_eq_t (by decide)) ?_
  refine o_lconst 466 W (0) at_465 (by first | rfl | decide) ?_
  have hp1 : (0 : Int64).toInt = 0 := rfl
  refine o_ladd 467 W at_466 ?_
  have hr1 := own_ladd hp0 hp1 (by omega)
  generalize (p0 + (0 : Int64)) = r1 at hr1 ⊢
  refine o_iload 469 W at_467 rfl ?_
  refine o_ifY 484 W at_469 (XT.i0_eq_t (by decide)) ?_
  refine o_lconst 485 W (0) at_484 (by first | rfl | decide) ?_
  have hp2 : (0 : Int64).toInt = 0 := rfl
  refine o_ladd 486 W at_485 ?_
  have hr2 := own_ladd hr1 hp2 (by omega)
  generalize (r1 + (0 : Int64)) = r2 at hr2 ⊢
  refine o_ldc2J 489 W (tw hw 86) at_486 ?_
  refine o_lload 491 W at_489 rfl ?_
  refine o_lmul 492 W at_491 ?_
  have h64 := own_l64 qo
  have bqo := own_i31 qo
  generalize ((64 : Int64) * qo.toInt64) = p9 at h64 ⊢
  refine o_lsub 493 W at_492 ?_
  have href := own_lsub hr2 h64 (by omega)
  generalize (r2 - p9) = rf at href ⊢
  refine o_lstore 495 W #[.val (.int n0), .val (.int n1), .val (.int n2), .val (.int n3), .val (.int n4), .val (.int f0), .val (.int g0), .val (.int f1), .val (.int g1), .val (.int f2), .val (.int g2), .val (.int (1 : Int32)), .val (.int (0 : Int32)), .val (.int (0 : Int32)), .val (.int r), .val (.int ro), .val (.int dr), .val (.int ow), .val (.int pr), .val (.int se), .val (.int hf), .val (.int rs), .val (.int dm), .val (.int el), .val (.int eh), .val (.ref o), .val (.ref mi), .val (.long qo.toInt64), .second, .val (.long rf), .second] at_493 rfl ?_
  refine o_aload 497 W at_495 rfl rfl ?_
  refine o_iload 499 W at_497 rfl ?_
  refine o_iload 501 W at_499 rfl ?_
  refine o_aload 503 W at_501 rfl rfl ?_
  have H : HM Z h [(va, kva, (.array .int), 4, VL, (.null)), (ca, kca, (.array .double), 4, CL, (.null)), (la, kla, .int, 4, ((LL.set ro.toNatClampNeg (.int 1)).set r.toNatClampNeg (.int 1)), (.int 0)), (rx, krx, .int, 2, [(.int (0 : Int32)), (.int 0)], (.int 0)), (ry, kry, .double, 4, [(.double x0), (.double z0), (.double 0), (.double 0)], (.double 0)), (mi, kmi, .double, 3, [(.double t0), (.double t1), (.double t2)], (.double 0)), (ea, kea, .double, 8, (((([(.double 0), (.double 0), (.double 0), (.double 0), (.double 0), (.double 0), (.double 0), (.double 0)].set ((2 : Int32) * ro).toNatClampNeg (.double (4602678819172646912 : UInt64))).set (((2 : Int32) * ro) + (1 : Int32)).toNatClampNeg (.double yo)).set ((2 : Int32) * r).toNatClampNeg (.double xl)).set (((2 : Int32) * r) + (1 : Int32)).toNatClampNeg (.double yh)), (.double 0)), (ua, kua, (.array .int), 3, [(.ref us0), (.null), (.null)], (.null)), (uc, kuc, .int, 3, [(.int 2), (.int 0), (.int 0)], (.int 0)), (sa, ksa, .int, 3, [(.int ((0 + 1) + 1)), (.int 0), (.int 0)], (.int 0)), (us0, kus0, .int, 4, [(.int ro), (.int r), (.int 0), (.int 0)], (.int 0)), (px, kpx, .int, 2, [(.int (0 : Int32)), (.int 0)], (.int 0)), (py, kpy, .double, 4, [(.double FP.dconst1), (.double FP.dconst1), (.double 0), (.double 0)], (.double 0))] := (((((((H.front 1 rfl).front 1 rfl).front 9 rfl).front 9 rfl).front 6 rfl).front 6 rfl).front 6 rfl)
  refine o_virtual 506 [(.int r), (.int ow), (.ref mi)] W (tw hw 87) (tw hw 88) (tw hw 90) (tw hw 89) (tw hw 7) (tw hw 91) (OBJ.1) (con_mc1 l Z b0 hw o va ca la ka ea la2 ua uc sa ev er so rx ry mi kva kca kla kka kea kla2 kua kuc ksa kev ker kso krx kry kmi rcv r ow VL CL ((LL.set ro.toNatClampNeg (.int 1)).set r.toNatClampNeg (.int 1)) [(.double t0), (.double t1), (.double t2)] (((([(.double 0), (.double 0), (.double 0), (.double 0), (.double 0), (.double 0), (.double 0), (.double 0)].set ((2 : Int32) * ro).toNatClampNeg (.double (4602678819172646912 : UInt64))).set (((2 : Int32) * ro) + (1 : Int32)).toNatClampNeg (.double yo)).set ((2 : Int32) * r).toNatClampNeg (.double xl)).set (((2 : Int32) * r) + (1 : Int32)).toNatClampNeg (.double yh)) (.int 0) (.double 0) (.double 0) r4 hV hC (own_gset (by simp [rr, lL])) kr0 kr1 xl yh to el.toInt eh.toInt qo.toInt hxl hyh hto ⟨bel.1, bel.2, beh.1, beh.2, bqo.1, (by omega)⟩ ((own_gsetne xr0r1.symm).trans (own_gset (by simp [qr0]))) (own_gset (by simp [qr1])) ho hmo 0 x0 z0 t0 f0.toInt g0.toInt n0.toInt hx0 hz0 ht0 ⟨bf0.1, (by omega), bg0.1, (by omega), (own_i31 _).1, (by have := own_i31 n0; omega)⟩ (by decide) rfl (fun q => by rw [hq0 q.symm]) _ W.old OBJ (HM.split (P := [_, _, _, _, _, _, _]) H).1) pd7 at_503 rfl all0 (fun T h v W qq gg => ?_)
  obtain ⟨_, rfl, sm, rfl, hsm, rfl⟩ := qq
  show Go p e below _ _ (mkF m 506 #[.val (.int n0), .val (.int n1), .val (.int n2), .val (.int n3), .val (.int n4), .val (.int f0), .val (.int g0), .val (.int f1), .val (.int g1), .val (.int f2), .val (.int g2), .val (.int (1 : Int32)), .val (.int (0 : Int32)), .val (.int (0 : Int32)), .val (.int r), .val (.int ro), .val (.int dr), .val (.int ow), .val (.int pr), .val (.int se), .val (.int hf), .val (.int rs), .val (.int dm), .val (.int el), .val (.int eh), .val (.ref o), .val (.ref mi), .val (.long qo.toInt64), .second, .val (.long rf), .second] [(.double sm)])
  have hS : (-(el.toInt + eh.toInt) * qo.toInt + (f0.toInt + g0.toInt) * (n0.toInt - qo.toInt)) = (f0.toInt + g0.toInt) * n0.toInt + 0 + 0 - 64 * qo.toInt := by
    have e9 : el.toInt = 64 - ((f0.toInt + g0.toInt)) - eh.toInt := by omega
    rw [e9]
    simp only [Int.mul_sub, Int.sub_mul, Int.add_mul, Int.neg_mul, Int.zero_mul]
    omega
  rw [hS, ← href] at hsm
  have bS : -1000000000000 ≤ rf.toInt ∧ rf.toInt ≤ 1000000000000 := by rw [href]; omega
  refine o_ldc2D 509 W (tw hw 93) at_506 ?_
  refine o_dmulQ 510 W hsm own_64 (by omega) (hd := at_509) (K := fun ym hym => ?_)
  refine o_lload 512 W at_510 rfl ?_
  refine o_l2dQ 513 W (by omega) (hd := at_512) (K := fun yr hyr => ?_)
  have hyu := hyr.up 6
  refine o_dcmpQ 514 W hym hyu at_513 ?_
  refine o_ifN 517 W at_514 (XT.i0_ne_f ((own_c0 _ _).mpr (by first | rfl | omega))) ?_
  refine o_iconst 518 W (1) at_517 (by first | rfl | decide) ?_
  refine o_goto 522 W at_518 ?_
  exact o_nret W (1 : Int32) (by simp) (by decide) at_522 (rfl)
theorem own_tail2 (l : Launch) (Z : State) (b0 : Array Value) (hw : ∀ d ∈ tables_1, d.before b0 Z = true) {p : Program} {e : Env} {s : State} {m : MethodId} {args : Array Value} {below : List Frame} {meth : Method} {c : Code} {T : State} {h : Heap} {sf : List Addr} (n0 n1 n2 n3 n4 f0 g0 f1 g1 f2 g2 r ro dr ow pr se hf rs dm el eh qo : Int32) (o va ca la ka ea la2 ua uc sa ev er so px py rx ry : Addr) (kva kca kla kka kea kla2 kua kuc ksa kev ker kso kpx kpy krx kry : ClassId) (rcv : Value) (VL CL LL : List Value) (r4 : ¬ r < 0 ∧ r < 4) (ro4 : ¬ ro < 0 ∧ ro < 4) (hne : ro.toNatClampNeg ≠ r.toNatClampNeg) (xr0r1 : ((2 : Int32) * r).toNatClampNeg ≠ (((2 : Int32) * r) + (1 : Int32)).toNatClampNeg) (xro0r0 : ((2 : Int32) * ro).toNatClampNeg ≠ ((2 : Int32) * r).toNatClampNeg) (xro0r1 : ((2 : Int32) * ro).toNatClampNeg ≠ (((2 : Int32) * r) + (1 : Int32)).toNatClampNeg) (xro0ro1 : ((2 : Int32) * ro).toNatClampNeg ≠ (((2 : Int32) * ro) + (1 : Int32)).toNatClampNeg) (xro1r0 : (((2 : Int32) * ro) + (1 : Int32)).toNatClampNeg ≠ ((2 : Int32) * r).toNatClampNeg) (xro1r1 : (((2 : Int32) * ro) + (1 : Int32)).toNatClampNeg ≠ (((2 : Int32) * r) + (1 : Int32)).toNatClampNeg) (kr0 : ¬ ((2 : Int32) * r) < 0 ∧ ((2 : Int32) * r) < 8) (kr1 : ¬ (((2 : Int32) * r) + (1 : Int32)) < 0 ∧ (((2 : Int32) * r) + (1 : Int32)) < 8) (kro0 : ¬ ((2 : Int32) * ro) < 0 ∧ ((2 : Int32) * ro) < 8) (kro1 : ¬ (((2 : Int32) * ro) + (1 : Int32)) < 0 ∧ (((2 : Int32) * ro) + (1 : Int32)) < 8) (lV : VL.length = 4) (lC : CL.length = 4) (lL : LL.length = 4) (hV : VL.getD r.toNatClampNeg (.null) = .ref rx) (hVo : VL.getD ro.toNatClampNeg (.null) = .ref px) (hC : CL.getD r.toNatClampNeg (.null) = .ref ry) (hCo : CL.getD ro.toNatClampNeg (.null) = .ref py) (hL : LL.getD r.toNatClampNeg (.int 0) = .int 0) (hLo : LL.getD ro.toNatClampNeg (.int 0) = .int 0) (bf0 : 0 ≤ f0.toInt ∧ f0.toInt ≤ 20) (bg0 : 0 ≤ g0.toInt ∧ g0.toInt ≤ 20) (bf1 : 0 ≤ f1.toInt ∧ f1.toInt ≤ 20) (bg1 : 0 ≤ g1.toInt ∧ g1.toInt ≤ 20) (bf2 : 0 ≤ f2.toInt ∧ f2.toInt ≤ 20) (bg2 : 0 ≤ g2.toInt ∧ g2.toInt ≤ 20) (bel : 0 ≤ el.toInt ∧ el.toInt ≤ 32) (beh : 0 ≤ eh.toInt ∧ eh.toInt ≤ 32) (hee : el.toInt + eh.toInt = 64 - ((f1.toInt + g1.toInt))) (how : ow = 0 ∧ qo = n0 ∨ ow = 1 ∧ qo = n1 ∨ ow = 2 ∧ qo = n2) (Ova : OvrA Z kva .int "[I") (Oca : OvrA Z kca .double "[D") (Oua : OvrA Z kua .int "[I") (zo : Z.heap.size ≤ o) (W : Wk p l e room_1 s m args below meth c Z x code maxLocals ret T h 17 107 sf) (OBJ : OB Z h o "com/example/markov_reachability/markovreachability/IntervalEquations" [("ceiling", "D", (.double FP.dconst1)), ("variables", "[[I", (.ref va)), ("coefficients", "[[D", (.ref ca)), ("length", "[I", (.ref la)), ("constant", "[D", (.ref ka)), ("exit", "[D", (.ref ea)), ("eliminating", "[Z", (.ref la2)), ("users", "[[I", (.ref ua)), ("userCount", "[I", (.ref uc)), ("substitutable", "[I", (.ref sa)), ("eliminatedVariable", "[I", (.ref ev)), ("eliminatedRow", "[I", (.ref er)), ("slot", "[I", (.ref so)), ("rowCount", "I", rcv)]) (H : HM Z h [(va, kva, (.array .int), 4, VL, (.null)), (ca, kca, (.array .double), 4, CL, (.null)), (la, kla, .int, 4, LL, (.int 0)), (ua, kua, (.array .int), 3, [(.null), (.null), (.null)], (.null)), (uc, kuc, .int, 3, [(.int 0), (.int 0), (.int 0)], (.int 0)), (sa, ksa, .int, 3, [(.int 0), (.int 0), (.int 0)], (.int 0)), (px, kpx, .int, 2, [(.int 0), (.int 0)], (.int 0)), (py, kpy, .double, 4, [(.double 0), (.double 0), (.double 0), (.double 0)], (.double 0)), (rx, krx, .int, 2, [(.int 0), (.int 0)], (.int 0)), (ry, kry, .double, 4, [(.double 0), (.double 0), (.double 0), (.double 0)], (.double 0)), (ea, kea, .double, 8, [(.double 0), (.double 0), (.double 0), (.double 0), (.double 0), (.double 0), (.double 0), (.double 0)], (.double 0))]) : Go p e below (Gd s below Z (QV fun w h => w = .int 1) (room_1).cells (room_1).slots) T (mkF m 259 #[.val (.int n0), .val (.int n1), .val (.int n2), .val (.int n3), .val (.int n4), .val (.int f0), .val (.int g0), .val (.int f1), .val (.int g1), .val (.int f2), .val (.int g2), .val (.int (0 : Int32)), .val (.int (1 : Int32)), .val (.int (0 : Int32)), .val (.int r), .val (.int ro), .val (.int dr), .val (.int ow), .val (.int pr), .val (.int se), .val (.int hf), .val (.int rs), .val (.int dm), .val (.int el), .val (.int eh), .val (.ref o), .unset, .unset, .unset, .unset, .unset] []) := by
  have rr := own_r4 r4
  have qr := own_r4 ro4
  have qr0 := own_r8 kr0
  have qr1 := own_r8 kr1
  have qro0 := own_r8 kro0
  have qro1 := own_r8 kro1
  refine o_aload 261 W at_259 rfl rfl ?_
  refine o_iload 263 W at_261 rfl ?_
  refine o_iconst 264 W (0) at_263 (by first | rfl | decide) ?_
  refine o_dconst1 265 W at_264 ?_
  refine o_dconst1 266 W at_265 ?_
  have H : HM Z h [(va, kva, (.array .int), 4, VL, (.null)), (ca, kca, (.array .double), 4, CL, (.null)), (la, kla, .int, 4, LL, (.int 0)), (ua, kua, (.array .int), 3, [(.null), (.null), (.null)], (.null)), (uc, kuc, .int, 3, [(.int 0), (.int 0), (.int 0)], (.int 0)), (sa, ksa, .int, 3, [(.int 0), (.int 0), (.int 0)], (.int 0)), (px, kpx, .int, 2, [(.int 0), (.int 0)], (.int 0)), (py, kpy, .double, 4, [(.double 0), (.double 0), (.double 0), (.double 0)], (.double 0)), (rx, krx, .int, 2, [(.int 0), (.int 0)], (.int 0)), (ry, kry, .double, 4, [(.double 0), (.double 0), (.double 0), (.double 0)], (.double 0)), (ea, kea, .double, 8, [(.double 0), (.double 0), (.double 0), (.double 0), (.double 0), (.double 0), (.double 0), (.double 0)], (.double 0))] := ((((((((H.front 7 rfl).front 7 rfl).front 7 rfl).front 7 rfl).front 7 rfl).front 7 rfl).front 7 rfl).front 7 rfl)
  refine o_virtual 269 [(.int ro), (.int (0 : Int32)), (.double FP.dconst1), (.double FP.dconst1)] W (tw hw 60) (tw hw 61) (tw hw 63) (tw hw 62) (tw hw 7) (tw hw 64) (OBJ.1) (con_adcA0 l Z b0 hw o va ca la ka ea la2 ua uc sa ev er so px py kva kca kla kka kea kla2 kua kuc ksa kev ker kso kpx kpy rcv ro (0 : Int32) 0 FP.dconst1 FP.dconst1 VL CL LL [(.null), (.null), (.null)] [(.int 0), (.int 0), (.int 0)] [(.int 0), (.int 0), (.int 0)] (.int 0) (.int 0) (.double 0) (.double 0) (.double 0) (.double 0) ro4 (by decide) (by simp [lV]) (by simp [lC]) (by simp [lL]) (by simp) (by simp) (by simp) hVo hCo hLo rfl rfl rfl Ova Oca Oua _ W.old OBJ (HM.split (P := [_, _, _, _, _, _, _, _]) H).1) pd4 at_266 rfl all0 (fun T h v W qq gg => ?_)
  obtain ⟨rfl, Kc, OBJ1, us0, kus0, nus0, H1⟩ := qq
  show Go p e below _ _ (mkF m 269 #[.val (.int n0), .val (.int n1), .val (.int n2), .val (.int n3), .val (.int n4), .val (.int f0), .val (.int g0), .val (.int f1), .val (.int g1), .val (.int f2), .val (.int g2), .val (.int (0 : Int32)), .val (.int (1 : Int32)), .val (.int (0 : Int32)), .val (.int r), .val (.int ro), .val (.int dr), .val (.int ow), .val (.int pr), .val (.int se), .val (.int hf), .val (.int rs), .val (.int dm), .val (.int el), .val (.int eh), .val (.ref o), .unset, .unset, .unset, .unset, .unset] [])
  have H : HM Z h [(us0, kus0, .int, 4, [(.int ro), (.int 0), (.int 0), (.int 0)], (.int 0)), (va, kva, (.array .int), 4, VL, (.null)), (ca, kca, (.array .double), 4, CL, (.null)), (la, kla, .int, 4, (LL.set ro.toNatClampNeg (.int 1)), (.int 0)), (ua, kua, (.array .int), 3, ([(.null), (.null), (.null)].set (0 : Int32).toNatClampNeg (.ref us0)), (.null)), (uc, kuc, .int, 3, ([(.int 0), (.int 0), (.int 0)].set (0 : Int32).toNatClampNeg (.int 1)), (.int 0)), (sa, ksa, .int, 3, ([(.int 0), (.int 0), (.int 0)].set (0 : Int32).toNatClampNeg (.int (0 + 1))), (.int 0)), (px, kpx, .int, 2, [(.int (0 : Int32)), (.int 0)], (.int 0)), (py, kpy, .double, 4, [(.double FP.dconst1), (.double FP.dconst1), (.double 0), (.double 0)], (.double 0)), (rx, krx, .int, 2, [(.int 0), (.int 0)], (.int 0)), (ry, kry, .double, 4, [(.double 0), (.double 0), (.double 0), (.double 0)], (.double 0)), (ea, kea, .double, 8, [(.double 0), (.double 0), (.double 0), (.double 0), (.double 0), (.double 0), (.double 0), (.double 0)], (.double 0))] := HM.frame (P := [_, _, _, _, _, _, _, _]) H H1 Kc (by simp [HE.a, nus0])
  have OBJ := OBJ1
  have H : HM Z h [(us0, kus0, .int, 4, [(.int ro), (.int 0), (.int 0), (.int 0)], (.int 0)), (va, kva, (.array .int), 4, VL, (.null)), (ca, kca, (.array .double), 4, CL, (.null)), (la, kla, .int, 4, (LL.set ro.toNatClampNeg (.int 1)), (.int 0)), (ua, kua, (.array .int), 3, [(.ref us0), (.null), (.null)], (.null)), (uc, kuc, .int, 3, [(.int 1), (.int 0), (.int 0)], (.int 0)), (sa, ksa, .int, 3, [(.int (0 + 1)), (.int 0), (.int 0)], (.int 0)), (px, kpx, .int, 2, [(.int (0 : Int32)), (.int 0)], (.int 0)), (py, kpy, .double, 4, [(.double FP.dconst1), (.double FP.dconst1), (.double 0), (.double 0)], (.double 0)), (rx, krx, .int, 2, [(.int 0), (.int 0)], (.int 0)), (ry, kry, .double, 4, [(.double 0), (.double 0), (.double 0), (.double 0)], (.double 0)), (ea, kea, .double, 8, [(.double 0), (.double 0), (.double 0), (.double 0), (.double 0), (.double 0), (.double 0), (.double 0)], (.double 0))] := H
  refine o_aload 271 W at_269 rfl rfl ?_
  refine o_iload 273 W at_271 rfl ?_
  refine o_ldc2D 276 W (tw hw 69) at_273 ?_
  refine o_dconst1 277 W at_276 ?_
  have H : HM Z h [(ea, kea, .double, 8, [(.double 0), (.double 0), (.double 0), (.double 0), (.double 0), (.double 0), (.double 0), (.double 0)], (.double 0)), (us0, kus0, .int, 4, [(.int ro), (.int 0), (.int 0), (.int 0)], (.int 0)), (va, kva, (.array .int), 4, VL, (.null)), (ca, kca, (.array .double), 4, CL, (.null)), (la, kla, .int, 4, (LL.set ro.toNatClampNeg (.int 1)), (.int 0)), (ua, kua, (.array .int), 3, [(.ref us0), (.null), (.null)], (.null)), (uc, kuc, .int, 3, [(.int 1), (.int 0), (.int 0)], (.int 0)), (sa, ksa, .int, 3, [(.int (0 + 1)), (.int 0), (.int 0)], (.int 0)), (px, kpx, .int, 2, [(.int (0 : Int32)), (.int 0)], (.int 0)), (py, kpy, .double, 4, [(.double FP.dconst1), (.double FP.dconst1), (.double 0), (.double 0)], (.double 0)), (rx, krx, .int, 2, [(.int 0), (.int 0)], (.int 0)), (ry, kry, .double, 4, [(.double 0), (.double 0), (.double 0), (.double 0)], (.double 0))] := (H.front 11 rfl)
  refine o_virtual 280 [(.int ro), (.double (4602678819172646912 : UInt64)), (.double FP.dconst1)] W (tw hw 70) (tw hw 71) (tw hw 73) (tw hw 72) (tw hw 7) (tw hw 74) (OBJ.1) (con_adx l Z b0 hw o va ca la ka ea la2 ua uc sa ev er so kva kca kla kka kea kla2 kua kuc ksa kev ker kso rcv ro (4602678819172646912 : UInt64) FP.dconst1 [(.double 0), (.double 0), (.double 0), (.double 0), (.double 0), (.double 0), (.double 0), (.double 0)] own_half own_one5 (by omega) kro0 kro1 (by simp) (own_rep8 _ _) (own_rep8 _ _) xro0ro1 _ W.old OBJ zo (HM.split (P := [_]) H).1) pd6 at_277 rfl all0 (fun T h v W qq gg => ?_)
  obtain ⟨rfl, Kc, OBJ1, yo, hyo, H1⟩ := qq
  show Go p e below _ _ (mkF m 280 #[.val (.int n0), .val (.int n1), .val (.int n2), .val (.int n3), .val (.int n4), .val (.int f0), .val (.int g0), .val (.int f1), .val (.int g1), .val (.int f2), .val (.int g2), .val (.int (0 : Int32)), .val (.int (1 : Int32)), .val (.int (0 : Int32)), .val (.int r), .val (.int ro), .val (.int dr), .val (.int ow), .val (.int pr), .val (.int se), .val (.int hf), .val (.int rs), .val (.int dm), .val (.int el), .val (.int eh), .val (.ref o), .unset, .unset, .unset, .unset, .unset] [])
  have H : HM Z h [(ea, kea, .double, 8, (([(.double 0), (.double 0), (.double 0), (.double 0), (.double 0), (.double 0), (.double 0), (.double 0)].set ((2 : Int32) * ro).toNatClampNeg (.double (4602678819172646912 : UInt64))).set (((2 : Int32) * ro) + (1 : Int32)).toNatClampNeg (.double yo)), (.double 0)), (us0, kus0, .int, 4, [(.int ro), (.int 0), (.int 0), (.int 0)], (.int 0)), (va, kva, (.array .int), 4, VL, (.null)), (ca, kca, (.array .double), 4, CL, (.null)), (la, kla, .int, 4, (LL.set ro.toNatClampNeg (.int 1)), (.int 0)), (ua, kua, (.array .int), 3, [(.ref us0), (.null), (.null)], (.null)), (uc, kuc, .int, 3, [(.int 1), (.int 0), (.int 0)], (.int 0)), (sa, ksa, .int, 3, [(.int (0 + 1)), (.int 0), (.int 0)], (.int 0)), (px, kpx, .int, 2, [(.int (0 : Int32)), (.int 0)], (.int 0)), (py, kpy, .double, 4, [(.double FP.dconst1), (.double FP.dconst1), (.double 0), (.double 0)], (.double 0)), (rx, krx, .int, 2, [(.int 0), (.int 0)], (.int 0)), (ry, kry, .double, 4, [(.double 0), (.double 0), (.double 0), (.double 0)], (.double 0))] := HM.frame (P := [_]) H H1 Kc (by simp [HE.a])
  have OBJ := OBJ1
  refine o_iload 282 W at_280 rfl ?_
  refine o_ifY 307 W at_282 (XT.i0_eq_t (by decide)) ?_
  refine o_iload 309 W at_307 rfl ?_
  refine o_ifN 312 W at_309 (XT.i0_eq_f (by decide)) ?_
  refine o_aload 314 W at_312 rfl rfl ?_
  refine o_iload 316 W at_314 rfl ?_
  refine o_iconst 317 W (1) at_316 (by first | rfl | decide) ?_
  refine o_iload 319 W at_317 rfl ?_
  refine o_i2dQ 320 W  (hd := at_319) (K := fun ux1 hux1 => ?_)
  refine o_ldc2D 323 W (tw hw 85) at_320 ?_
  refine o_ddivQ 324 W 5 hux1 own_32 (own_nb32 _) (hd := at_323) (K := fun x1 hx1 => ?_)
  refine o_iload 326 W at_324 rfl ?_
  refine o_i2dQ 327 W  (hd := at_326) (K := fun uz1 huz1 => ?_)
  refine o_ldc2D 330 W (tw hw 85) at_327 ?_
  refine o_ddivQ 331 W 5 huz1 own_32 (own_nb32 _) (hd := at_330) (K := fun z1 hz1 => ?_)
  have H : HM Z h [(va, kva, (.array .int), 4, VL, (.null)), (ca, kca, (.array .double), 4, CL, (.null)), (la, kla, .int, 4, (LL.set ro.toNatClampNeg (.int 1)), (.int 0)), (ua, kua, (.array .int), 3, [(.ref us0), (.null), (.null)], (.null)), (uc, kuc, .int, 3, [(.int 1), (.int 0), (.int 0)], (.int 0)), (sa, ksa, .int, 3, [(.int (0 + 1)), (.int 0), (.int 0)], (.int 0)), (rx, krx, .int, 2, [(.int 0), (.int 0)], (.int 0)), (ry, kry, .double, 4, [(.double 0), (.double 0), (.double 0), (.double 0)], (.double 0)), (ea, kea, .double, 8, (([(.double 0), (.double 0), (.double 0), (.double 0), (.double 0), (.double 0), (.double 0), (.double 0)].set ((2 : Int32) * ro).toNatClampNeg (.double (4602678819172646912 : UInt64))).set (((2 : Int32) * ro) + (1 : Int32)).toNatClampNeg (.double yo)), (.double 0)), (us0, kus0, .int, 4, [(.int ro), (.int 0), (.int 0), (.int 0)], (.int 0)), (px, kpx, .int, 2, [(.int (0 : Int32)), (.int 0)], (.int 0)), (py, kpy, .double, 4, [(.double FP.dconst1), (.double FP.dconst1), (.double 0), (.double 0)], (.double 0))] := ((((((((H.front 11 rfl).front 11 rfl).front 9 rfl).front 9 rfl).front 9 rfl).front 9 rfl).front 9 rfl).front 9 rfl)
  refine o_virtual 334 [(.int r), (.int (1 : Int32)), (.double x1), (.double z1)] W (tw hw 60) (tw hw 61) (tw hw 63) (tw hw 62) (tw hw 7) (tw hw 64) (OBJ.1) (con_adcA0 l Z b0 hw o va ca la ka ea la2 ua uc sa ev er so rx ry kva kca kla kka kea kla2 kua kuc ksa kev ker kso krx kry rcv r (1 : Int32) 0 x1 z1 VL CL (LL.set ro.toNatClampNeg (.int 1)) [(.ref us0), (.null), (.null)] [(.int 1), (.int 0), (.int 0)] [(.int (0 + 1)), (.int 0), (.int 0)] (.int 0) (.int 0) (.double 0) (.double 0) (.double 0) (.double 0) r4 (by decide) (by simp [lV]) (by simp [lC]) (by simp [lL]) (by simp) (by simp) (by simp) hV hC ((own_gsetne hne).trans hL) rfl rfl rfl Ova Oca Oua _ W.old OBJ (HM.split (P := [_, _, _, _, _, _, _, _]) H).1) pd4 at_331 rfl all0 (fun T h v W qq gg => ?_)
  obtain ⟨rfl, Kc, OBJ1, us1, kus1, nus1, H1⟩ := qq
  show Go p e below _ _ (mkF m 334 #[.val (.int n0), .val (.int n1), .val (.int n2), .val (.int n3), .val (.int n4), .val (.int f0), .val (.int g0), .val (.int f1), .val (.int g1), .val (.int f2), .val (.int g2), .val (.int (0 : Int32)), .val (.int (1 : Int32)), .val (.int (0 : Int32)), .val (.int r), .val (.int ro), .val (.int dr), .val (.int ow), .val (.int pr), .val (.int se), .val (.int hf), .val (.int rs), .val (.int dm), .val (.int el), .val (.int eh), .val (.ref o), .unset, .unset, .unset, .unset, .unset] [])
  have H : HM Z h [(us1, kus1, .int, 4, [(.int r), (.int 0), (.int 0), (.int 0)], (.int 0)), (va, kva, (.array .int), 4, VL, (.null)), (ca, kca, (.array .double), 4, CL, (.null)), (la, kla, .int, 4, ((LL.set ro.toNatClampNeg (.int 1)).set r.toNatClampNeg (.int 1)), (.int 0)), (ua, kua, (.array .int), 3, ([(.ref us0), (.null), (.null)].set (1 : Int32).toNatClampNeg (.ref us1)), (.null)), (uc, kuc, .int, 3, ([(.int 1), (.int 0), (.int 0)].set (1 : Int32).toNatClampNeg (.int 1)), (.int 0)), (sa, ksa, .int, 3, ([(.int (0 + 1)), (.int 0), (.int 0)].set (1 : Int32).toNatClampNeg (.int (0 + 1))), (.int 0)), (rx, krx, .int, 2, [(.int (1 : Int32)), (.int 0)], (.int 0)), (ry, kry, .double, 4, [(.double x1), (.double z1), (.double 0), (.double 0)], (.double 0)), (ea, kea, .double, 8, (([(.double 0), (.double 0), (.double 0), (.double 0), (.double 0), (.double 0), (.double 0), (.double 0)].set ((2 : Int32) * ro).toNatClampNeg (.double (4602678819172646912 : UInt64))).set (((2 : Int32) * ro) + (1 : Int32)).toNatClampNeg (.double yo)), (.double 0)), (us0, kus0, .int, 4, [(.int ro), (.int 0), (.int 0), (.int 0)], (.int 0)), (px, kpx, .int, 2, [(.int (0 : Int32)), (.int 0)], (.int 0)), (py, kpy, .double, 4, [(.double FP.dconst1), (.double FP.dconst1), (.double 0), (.double 0)], (.double 0))] := HM.frame (P := [_, _, _, _, _, _, _, _]) H H1 Kc (by simp [HE.a, nus1])
  have OBJ := OBJ1
  have H : HM Z h [(us1, kus1, .int, 4, [(.int r), (.int 0), (.int 0), (.int 0)], (.int 0)), (va, kva, (.array .int), 4, VL, (.null)), (ca, kca, (.array .double), 4, CL, (.null)), (la, kla, .int, 4, ((LL.set ro.toNatClampNeg (.int 1)).set r.toNatClampNeg (.int 1)), (.int 0)), (ua, kua, (.array .int), 3, [(.ref us0), (.ref us1), (.null)], (.null)), (uc, kuc, .int, 3, [(.int 1), (.int 1), (.int 0)], (.int 0)), (sa, ksa, .int, 3, [(.int (0 + 1)), (.int (0 + 1)), (.int 0)], (.int 0)), (rx, krx, .int, 2, [(.int (1 : Int32)), (.int 0)], (.int 0)), (ry, kry, .double, 4, [(.double x1), (.double z1), (.double 0), (.double 0)], (.double 0)), (ea, kea, .double, 8, (([(.double 0), (.double 0), (.double 0), (.double 0), (.double 0), (.double 0), (.double 0), (.double 0)].set ((2 : Int32) * ro).toNatClampNeg (.double (4602678819172646912 : UInt64))).set (((2 : Int32) * ro) + (1 : Int32)).toNatClampNeg (.double yo)), (.double 0)), (us0, kus0, .int, 4, [(.int ro), (.int 0), (.int 0), (.int 0)], (.int 0)), (px, kpx, .int, 2, [(.int (0 : Int32)), (.int 0)], (.int 0)), (py, kpy, .double, 4, [(.double FP.dconst1), (.double FP.dconst1), (.double 0), (.double 0)], (.double 0))] := H
  refine o_iload 336 W at_334 rfl ?_
  refine o_ifY 361 W at_336 (XT.i0_eq_t (by decide)) ?_
  refine o_aload 363 W at_361 rfl rfl ?_
  refine o_iload 365 W at_363 rfl ?_
  refine o_iload 367 W at_365 rfl ?_
  refine o_i2dQ 368 W  (hd := at_367) (K := fun uxl huxl => ?_)
  refine o_ldc2D 371 W (tw hw 85) at_368 ?_
  refine o_ddivQ 372 W 5 huxl own_32 (own_nb32 _) (hd := at_371) (K := fun xl hxl => ?_)
  refine o_iload 374 W at_372 rfl ?_
  refine o_i2dQ 375 W  (hd := at_374) (K := fun uxh huxh => ?_)
  refine o_ldc2D 378 W (tw hw 85) at_375 ?_
  refine o_ddivQ 379 W 5 huxh own_32 (own_nb32 _) (hd := at_378) (K := fun xh hxh => ?_)
  have H : HM Z h [(ea, kea, .double, 8, (([(.double 0), (.double 0), (.double 0), (.double 0), (.double 0), (.double 0), (.double 0), (.double 0)].set ((2 : Int32) * ro).toNatClampNeg (.double (4602678819172646912 : UInt64))).set (((2 : Int32) * ro) + (1 : Int32)).toNatClampNeg (.double yo)), (.double 0)), (us1, kus1, .int, 4, [(.int r), (.int 0), (.int 0), (.int 0)], (.int 0)), (va, kva, (.array .int), 4, VL, (.null)), (ca, kca, (.array .double), 4, CL, (.null)), (la, kla, .int, 4, ((LL.set ro.toNatClampNeg (.int 1)).set r.toNatClampNeg (.int 1)), (.int 0)), (ua, kua, (.array .int), 3, [(.ref us0), (.ref us1), (.null)], (.null)), (uc, kuc, .int, 3, [(.int 1), (.int 1), (.int 0)], (.int 0)), (sa, ksa, .int, 3, [(.int (0 + 1)), (.int (0 + 1)), (.int 0)], (.int 0)), (rx, krx, .int, 2, [(.int (1 : Int32)), (.int 0)], (.int 0)), (ry, kry, .double, 4, [(.double x1), (.double z1), (.double 0), (.double 0)], (.double 0)), (us0, kus0, .int, 4, [(.int ro), (.int 0), (.int 0), (.int 0)], (.int 0)), (px, kpx, .int, 2, [(.int (0 : Int32)), (.int 0)], (.int 0)), (py, kpy, .double, 4, [(.double FP.dconst1), (.double FP.dconst1), (.double 0), (.double 0)], (.double 0))] := (H.front 9 rfl)
  refine o_virtual 382 [(.int r), (.double xl), (.double xh)] W (tw hw 70) (tw hw 71) (tw hw 73) (tw hw 72) (tw hw 7) (tw hw 74) (OBJ.1) (con_adx l Z b0 hw o va ca la ka ea la2 ua uc sa ev er so kva kca kla kka kea kla2 kua kuc ksa kev ker kso rcv r xl xh (([(.double 0), (.double 0), (.double 0), (.double 0), (.double 0), (.double 0), (.double 0), (.double 0)].set ((2 : Int32) * ro).toNatClampNeg (.double (4602678819172646912 : UInt64))).set (((2 : Int32) * ro) + (1 : Int32)).toNatClampNeg (.double yo)) hxl hxh beh.2 kr0 kr1 (by simp) ((own_gsetne xro1r0).trans ((own_gsetne xro0r0).trans (own_rep8 _ _))) ((own_gsetne xro1r1).trans ((own_gsetne xro0r1).trans (own_rep8 _ _))) xr0r1 _ W.old OBJ zo (HM.split (P := [_]) H).1) pd6 at_379 rfl all0 (fun T h v W qq gg => ?_)
  obtain ⟨rfl, Kc, OBJ1, yh, hyh, H1⟩ := qq
  show Go p e below _ _ (mkF m 382 #[.val (.int n0), .val (.int n1), .val (.int n2), .val (.int n3), .val (.int n4), .val (.int f0), .val (.int g0), .val (.int f1), .val (.int g1), .val (.int f2), .val (.int g2), .val (.int (0 : Int32)), .val (.int (1 : Int32)), .val (.int (0 : Int32)), .val (.int r), .val (.int ro), .val (.int dr), .val (.int ow), .val (.int pr), .val (.int se), .val (.int hf), .val (.int rs), .val (.int dm), .val (.int el), .val (.int eh), .val (.ref o), .unset, .unset, .unset, .unset, .unset] [])
  have H : HM Z h [(ea, kea, .double, 8, (((([(.double 0), (.double 0), (.double 0), (.double 0), (.double 0), (.double 0), (.double 0), (.double 0)].set ((2 : Int32) * ro).toNatClampNeg (.double (4602678819172646912 : UInt64))).set (((2 : Int32) * ro) + (1 : Int32)).toNatClampNeg (.double yo)).set ((2 : Int32) * r).toNatClampNeg (.double xl)).set (((2 : Int32) * r) + (1 : Int32)).toNatClampNeg (.double yh)), (.double 0)), (us1, kus1, .int, 4, [(.int r), (.int 0), (.int 0), (.int 0)], (.int 0)), (va, kva, (.array .int), 4, VL, (.null)), (ca, kca, (.array .double), 4, CL, (.null)), (la, kla, .int, 4, ((LL.set ro.toNatClampNeg (.int 1)).set r.toNatClampNeg (.int 1)), (.int 0)), (ua, kua, (.array .int), 3, [(.ref us0), (.ref us1), (.null)], (.null)), (uc, kuc, .int, 3, [(.int 1), (.int 1), (.int 0)], (.int 0)), (sa, ksa, .int, 3, [(.int (0 + 1)), (.int (0 + 1)), (.int 0)], (.int 0)), (rx, krx, .int, 2, [(.int (1 : Int32)), (.int 0)], (.int 0)), (ry, kry, .double, 4, [(.double x1), (.double z1), (.double 0), (.double 0)], (.double 0)), (us0, kus0, .int, 4, [(.int ro), (.int 0), (.int 0), (.int 0)], (.int 0)), (px, kpx, .int, 2, [(.int (0 : Int32)), (.int 0)], (.int 0)), (py, kpy, .double, 4, [(.double FP.dconst1), (.double FP.dconst1), (.double 0), (.double 0)], (.double 0))] := HM.frame (P := [_]) H H1 Kc (by simp [HE.a])
  have OBJ := OBJ1
  refine o_iconst 383 W (3) at_382 (by first | rfl | decide) ?_
  refine o_newarray 385 3 W (tw hw 27) at_383 (by decide) (by decide) (fun T h mi kmi W Emi Ami gmi zmi => ?_)
  have Ami : Arv Z h mi kmi .double 3 [(.double 0), (.double 0), (.double 0)] (.double 0) := own_pad 3 Ami
  have OBJ := OBJ.ext Emi
  have H : HM Z h [(mi, kmi, .double, 3, [(.double 0), (.double 0), (.double 0)], (.double 0)), (ea, kea, .double, 8, (((([(.double 0), (.double 0), (.double 0), (.double 0), (.double 0), (.double 0), (.double 0), (.double 0)].set ((2 : Int32) * ro).toNatClampNeg (.double (4602678819172646912 : UInt64))).set (((2 : Int32) * ro) + (1 : Int32)).toNatClampNeg (.double yo)).set ((2 : Int32) * r).toNatClampNeg (.double xl)).set (((2 : Int32) * r) + (1 : Int32)).toNatClampNeg (.double yh)), (.double 0)), (us1, kus1, .int, 4, [(.int r), (.int 0), (.int 0), (.int 0)], (.int 0)), (va, kva, (.array .int), 4, VL, (.null)), (ca, kca, (.array .double), 4, CL, (.null)), (la, kla, .int, 4, ((LL.set ro.toNatClampNeg (.int 1)).set r.toNatClampNeg (.int 1)), (.int 0)), (ua, kua, (.array .int), 3, [(.ref us0), (.ref us1), (.null)], (.null)), (uc, kuc, .int, 3, [(.int 1), (.int 1), (.int 0)], (.int 0)), (sa, ksa, .int, 3, [(.int (0 + 1)), (.int (0 + 1)), (.int 0)], (.int 0)), (rx, krx, .int, 2, [(.int (1 : Int32)), (.int 0)], (.int 0)), (ry, kry, .double, 4, [(.double x1), (.double z1), (.double 0), (.double 0)], (.double 0)), (us0, kus0, .int, 4, [(.int ro), (.int 0), (.int 0), (.int 0)], (.int 0)), (px, kpx, .int, 2, [(.int (0 : Int32)), (.int 0)], (.int 0)), (py, kpy, .double, 4, [(.double FP.dconst1), (.double FP.dconst1), (.double 0), (.double 0)], (.double 0))] := H.new Emi Ami gmi zmi
  refine o_astore 387 W #[.val (.int n0), .val (.int n1), .val (.int n2), .val (.int n3), .val (.int n4), .val (.int f0), .val (.int g0), .val (.int f1), .val (.int g1), .val (.int f2), .val (.int g2), .val (.int (0 : Int32)), .val (.int (1 : Int32)), .val (.int (0 : Int32)), .val (.int r), .val (.int ro), .val (.int dr), .val (.int ow), .val (.int pr), .val (.int se), .val (.int hf), .val (.int rs), .val (.int dm), .val (.int el), .val (.int eh), .val (.ref o), .val (.ref mi), .unset, .unset, .unset, .unset] at_385 rfl rfl ?_
  refine o_aload 389 W at_387 rfl rfl ?_
  refine o_iconst 390 W (0) at_389 (by first | rfl | decide) ?_
  refine o_iloadN 391 W at_390 rfl ?_
  refine o_i2dQ 392 W  (hd := at_391) (K := fun t0 ht0 => ?_)
  have G0 : Arv Z _ mi kmi .double 3 [(.double 0), (.double 0), (.double 0)] (.double 0) := H.get 0 rfl
  refine o_dastore 393 0 W G0 (by decide) rfl (by simp) (H.new? 0 rfl) at_392 (fun T h W w1 A1 => ?_)
  have OBJ := OBJ.wr (tw hw 6) (H.get 0 rfl) w1
  have H : HM Z h [(mi, kmi, .double, 3, [(.double t0), (.double 0), (.double 0)], (.double 0)), (ea, kea, .double, 8, (((([(.double 0), (.double 0), (.double 0), (.double 0), (.double 0), (.double 0), (.double 0), (.double 0)].set ((2 : Int32) * ro).toNatClampNeg (.double (4602678819172646912 : UInt64))).set (((2 : Int32) * ro) + (1 : Int32)).toNatClampNeg (.double yo)).set ((2 : Int32) * r).toNatClampNeg (.double xl)).set (((2 : Int32) * r) + (1 : Int32)).toNatClampNeg (.double yh)), (.double 0)), (us1, kus1, .int, 4, [(.int r), (.int 0), (.int 0), (.int 0)], (.int 0)), (va, kva, (.array .int), 4, VL, (.null)), (ca, kca, (.array .double), 4, CL, (.null)), (la, kla, .int, 4, ((LL.set ro.toNatClampNeg (.int 1)).set r.toNatClampNeg (.int 1)), (.int 0)), (ua, kua, (.array .int), 3, [(.ref us0), (.ref us1), (.null)], (.null)), (uc, kuc, .int, 3, [(.int 1), (.int 1), (.int 0)], (.int 0)), (sa, ksa, .int, 3, [(.int (0 + 1)), (.int (0 + 1)), (.int 0)], (.int 0)), (rx, krx, .int, 2, [(.int (1 : Int32)), (.int 0)], (.int 0)), (ry, kry, .double, 4, [(.double x1), (.double z1), (.double 0), (.double 0)], (.double 0)), (us0, kus0, .int, 4, [(.int ro), (.int 0), (.int 0), (.int 0)], (.int 0)), (px, kpx, .int, 2, [(.int (0 : Int32)), (.int 0)], (.int 0)), (py, kpy, .double, 4, [(.double FP.dconst1), (.double FP.dconst1), (.double 0), (.double 0)], (.double 0))] := H.wr 0 rfl w1 A1
  refine o_aload 395 W at_393 rfl rfl ?_
  refine o_iconst 396 W (1) at_395 (by first | rfl | decide) ?_
  refine o_iloadN 397 W at_396 rfl ?_
  refine o_i2dQ 398 W  (hd := at_397) (K := fun t1 ht1 => ?_)
  have G0 : Arv Z _ mi kmi .double 3 [(.double t0), (.double 0), (.double 0)] (.double 0) := H.get 0 rfl
  refine o_dastore 399 1 W G0 (by decide) rfl (by simp) (H.new? 0 rfl) at_398 (fun T h W w1 A1 => ?_)
  have OBJ := OBJ.wr (tw hw 6) (H.get 0 rfl) w1
  have H : HM Z h [(mi, kmi, .double, 3, [(.double t0), (.double t1), (.double 0)], (.double 0)), (ea, kea, .double, 8, (((([(.double 0), (.double 0), (.double 0), (.double 0), (.double 0), (.double 0), (.double 0), (.double 0)].set ((2 : Int32) * ro).toNatClampNeg (.double (4602678819172646912 : UInt64))).set (((2 : Int32) * ro) + (1 : Int32)).toNatClampNeg (.double yo)).set ((2 : Int32) * r).toNatClampNeg (.double xl)).set (((2 : Int32) * r) + (1 : Int32)).toNatClampNeg (.double yh)), (.double 0)), (us1, kus1, .int, 4, [(.int r), (.int 0), (.int 0), (.int 0)], (.int 0)), (va, kva, (.array .int), 4, VL, (.null)), (ca, kca, (.array .double), 4, CL, (.null)), (la, kla, .int, 4, ((LL.set ro.toNatClampNeg (.int 1)).set r.toNatClampNeg (.int 1)), (.int 0)), (ua, kua, (.array .int), 3, [(.ref us0), (.ref us1), (.null)], (.null)), (uc, kuc, .int, 3, [(.int 1), (.int 1), (.int 0)], (.int 0)), (sa, ksa, .int, 3, [(.int (0 + 1)), (.int (0 + 1)), (.int 0)], (.int 0)), (rx, krx, .int, 2, [(.int (1 : Int32)), (.int 0)], (.int 0)), (ry, kry, .double, 4, [(.double x1), (.double z1), (.double 0), (.double 0)], (.double 0)), (us0, kus0, .int, 4, [(.int ro), (.int 0), (.int 0), (.int 0)], (.int 0)), (px, kpx, .int, 2, [(.int (0 : Int32)), (.int 0)], (.int 0)), (py, kpy, .double, 4, [(.double FP.dconst1), (.double FP.dconst1), (.double 0), (.double 0)], (.double 0))] := H.wr 0 rfl w1 A1
  refine o_aload 401 W at_399 rfl rfl ?_
  refine o_iconst 402 W (2) at_401 (by first | rfl | decide) ?_
  refine o_iloadN 403 W at_402 rfl ?_
  refine o_i2dQ 404 W  (hd := at_403) (K := fun t2 ht2 => ?_)
  have G0 : Arv Z _ mi kmi .double 3 [(.double t0), (.double t1), (.double 0)] (.double 0) := H.get 0 rfl
  refine o_dastore 405 2 W G0 (by decide) rfl (by simp) (H.new? 0 rfl) at_404 (fun T h W w1 A1 => ?_)
  have OBJ := OBJ.wr (tw hw 6) (H.get 0 rfl) w1
  have H : HM Z h [(mi, kmi, .double, 3, [(.double t0), (.double t1), (.double t2)], (.double 0)), (ea, kea, .double, 8, (((([(.double 0), (.double 0), (.double 0), (.double 0), (.double 0), (.double 0), (.double 0), (.double 0)].set ((2 : Int32) * ro).toNatClampNeg (.double (4602678819172646912 : UInt64))).set (((2 : Int32) * ro) + (1 : Int32)).toNatClampNeg (.double yo)).set ((2 : Int32) * r).toNatClampNeg (.double xl)).set (((2 : Int32) * r) + (1 : Int32)).toNatClampNeg (.double yh)), (.double 0)), (us1, kus1, .int, 4, [(.int r), (.int 0), (.int 0), (.int 0)], (.int 0)), (va, kva, (.array .int), 4, VL, (.null)), (ca, kca, (.array .double), 4, CL, (.null)), (la, kla, .int, 4, ((LL.set ro.toNatClampNeg (.int 1)).set r.toNatClampNeg (.int 1)), (.int 0)), (ua, kua, (.array .int), 3, [(.ref us0), (.ref us1), (.null)], (.null)), (uc, kuc, .int, 3, [(.int 1), (.int 1), (.int 0)], (.int 0)), (sa, ksa, .int, 3, [(.int (0 + 1)), (.int (0 + 1)), (.int 0)], (.int 0)), (rx, krx, .int, 2, [(.int (1 : Int32)), (.int 0)], (.int 0)), (ry, kry, .double, 4, [(.double x1), (.double z1), (.double 0), (.double 0)], (.double 0)), (us0, kus0, .int, 4, [(.int ro), (.int 0), (.int 0), (.int 0)], (.int 0)), (px, kpx, .int, 2, [(.int (0 : Int32)), (.int 0)], (.int 0)), (py, kpy, .double, 4, [(.double FP.dconst1), (.double FP.dconst1), (.double 0), (.double 0)], (.double 0))] := H.wr 0 rfl w1 A1
  obtain ⟨to, hto, hmo, ho, hq0, hq1, hq2⟩ : ∃ to, DQ 0 qo.toInt to ∧ ([(.double t0), (.double t1), (.double t2)] : List Value).getD ow.toNatClampNeg (.double 0) = .double to ∧ (¬ ow < 0 ∧ ow < 3) ∧ (ow = 0 → qo = n0) ∧ (ow = 1 → qo = n1) ∧ (ow = 2 → qo = n2) := by
    rcases how with ⟨rfl, rfl⟩ | ⟨rfl, rfl⟩ | ⟨rfl, rfl⟩
    · exact ⟨t0, ht0, rfl, by decide, fun _ => rfl, fun q => absurd q (by decide), fun q => absurd q (by decide)⟩
    · exact ⟨t1, ht1, rfl, by decide, fun q => absurd q (by decide), fun _ => rfl, fun q => absurd q (by decide)⟩
    · exact ⟨t2, ht2, rfl, by decide, fun q => absurd q (by decide), fun q => absurd q (by decide), fun _ => rfl⟩
  refine Go.cutW W (g' := (mkF m 428 #[.val (.int n0), .val (.int n1), .val (.int n2), .val (.int n3), .val (.int n4), .val (.int f0), .val (.int g0), .val (.int f1), .val (.int g1), .val (.int f2), .val (.int g2), .val (.int (0 : Int32)), .val (.int (1 : Int32)), .val (.int (0 : Int32)), .val (.int r), .val (.int ro), .val (.int dr), .val (.int ow), .val (.int pr), .val (.int se), .val (.int hf), .val (.int rs), .val (.int dm), .val (.int el), .val (.int eh), .val (.ref o), .val (.ref mi), .unset, .unset, .unset, .unset] [(.long qo.toInt64)])) (fun J => ?_) (fun T W => ?_)
  · refine o_iload 407 W at_405 rfl ?_
    refine o_ifne 415 410 W at_407 (fun c407 => ?_) (fun c407 => ?_)
    · refine o_iload 417 W at_415 rfl ?_
      refine o_iconst 418 W (1) at_417 (by first | rfl | decide) ?_
      refine o_icne 426 421 W at_418 (fun c418 => ?_) (fun c418 => ?_)
      · refine o_iloadN 427 W at_426 rfl ?_
        refine o_i2l 428 W at_427 ?_
        rcases how with ⟨z1, z2⟩ | ⟨z1, z2⟩ | ⟨z1, z2⟩
        · exact absurd z1 c407
        · exact absurd z1 c418
        · rw [z2] at J; exact J T W
      · refine o_iloadN 422 W at_421 rfl ?_
        refine o_i2l 423 W at_422 ?_
        refine o_goto 428 W at_423 ?_
        rw [hq1 c418] at J
        exact J T W
    · refine o_iloadN 411 W at_410 rfl ?_
      refine o_i2l 412 W at_411 ?_
      refine o_goto 428 W at_412 ?_
      rw [hq0 c407] at J
      exact J T W
  refine o_lstore 430 W #[.val (.int n0), .val (.int n1), .val (.int n2), .val (.int n3), .val (.int n4), .val (.int f0), .val (.int g0), .val (.int f1), .val (.int g1), .val (.int f2), .val (.int g2), .val (.int (0 : Int32)), .val (.int (1 : Int32)), .val (.int (0 : Int32)), .val (.int r), .val (.int ro), .val (.int dr), .val (.int ow), .val (.int pr), .val (.int se), .val (.int hf), .val (.int rs), .val (.int dm), .val (.int el), .val (.int eh), .val (.ref o), .val (.ref mi), .val (.long qo.toInt64), .second, .unset, .unset] at_428 rfl ?_
  refine o_iload 432 W at_430 rfl ?_
  refine o_ifY 447 W at_432 (XT.i0_eq_t (by decide)) ?_
  refine o_lconst 448 W (0) at_447 (by first | rfl | decide) ?_
  have hp0 : (0 : Int64).toInt = 0 := rfl
  refine o_iload 450 W at_448 rfl ?_
  refine o_ifN 453 W at_450 (XT.i0_eq_f (by decide)) ?_
  refine o_iload 455 W at_453 rfl ?_
  refine o_iload 457 W at_455 rfl ?_
  refine o_iadd 458 W at_457 ?_
  refine o_i2l 459 W at_458 ?_
  refine o_iloadN 460 W at_459 rfl ?_
  refine o_i2l 461 W at_460 ?_
  refine o_lmul 462 W at_461 ?_
  have hp1 := own_lm (f := f1) (g := g1) (q := n1) rfl rfl bf1 bg1
  have pb1 := own_pbn (s := f1.toInt + g1.toInt) (q := n1.toInt) (by omega) (by omega) (by have := own_i31 n1; omega) (by have := own_i31 n1; omega)
  generalize (((f1 + g1).toInt64) * (n1.toInt64)) = p1 at hp1 ⊢
  refine o_goto 466 W at_462 ?_
  refine o_ladd 467 W at_466 ?_
  have hr1 := own_ladd hp0 hp1 (by omega)
  generalize ((0 : Int64) + p1) = r1 at hr1 ⊢
  refine o_iload 469 W at_467 rfl ?_
  refine o_ifY 484 W at_469 (XT.i0_eq_t (by decide)) ?_
  refine o_lconst 485 W (0) at_484 (by first | rfl | decide) ?_
  have hp2 : (0 : Int64).toInt = 0 := rfl
  refine o_ladd 486 W at_485 ?_
  have hr2 := own_ladd hr1 hp2 (by omega)
  generalize (r1 + (0 : Int64)) = r2 at hr2 ⊢
  refine o_ldc2J 489 W (tw hw 86) at_486 ?_
  refine o_lload 491 W at_489 rfl ?_
  refine o_lmul 492 W at_491 ?_
  have h64 := own_l64 qo
  have bqo := own_i31 qo
  generalize ((64 : Int64) * qo.toInt64) = p9 at h64 ⊢
  refine o_lsub 493 W at_492 ?_
  have href := own_lsub hr2 h64 (by omega)
  generalize (r2 - p9) = rf at href ⊢
  refine o_lstore 495 W #[.val (.int n0), .val (.int n1), .val (.int n2), .val (.int n3), .val (.int n4), .val (.int f0), .val (.int g0), .val (.int f1), .val (.int g1), .val (.int f2), .val (.int g2), .val (.int (0 : Int32)), .val (.int (1 : Int32)), .val (.int (0 : Int32)), .val (.int r), .val (.int ro), .val (.int dr), .val (.int ow), .val (.int pr), .val (.int se), .val (.int hf), .val (.int rs), .val (.int dm), .val (.int el), .val (.int eh), .val (.ref o), .val (.ref mi), .val (.long qo.toInt64), .second, .val (.long rf), .second] at_493 rfl ?_
  refine o_aload 497 W at_495 rfl rfl ?_
  refine o_iload 499 W at_497 rfl ?_
  refine o_iload 501 W at_499 rfl ?_
  refine o_aload 503 W at_501 rfl rfl ?_
  have H : HM Z h [(va, kva, (.array .int), 4, VL, (.null)), (ca, kca, (.array .double), 4, CL, (.null)), (la, kla, .int, 4, ((LL.set ro.toNatClampNeg (.int 1)).set r.toNatClampNeg (.int 1)), (.int 0)), (rx, krx, .int, 2, [(.int (1 : Int32)), (.int 0)], (.int 0)), (ry, kry, .double, 4, [(.double x1), (.double z1), (.double 0), (.double 0)], (.double 0)), (mi, kmi, .double, 3, [(.double t0), (.double t1), (.double t2)], (.double 0)), (ea, kea, .double, 8, (((([(.double 0), (.double 0), (.double 0), (.double 0), (.double 0), (.double 0), (.double 0), (.double 0)].set ((2 : Int32) * ro).toNatClampNeg (.double (4602678819172646912 : UInt64))).set (((2 : Int32) * ro) + (1 : Int32)).toNatClampNeg (.double yo)).set ((2 : Int32) * r).toNatClampNeg (.double xl)).set (((2 : Int32) * r) + (1 : Int32)).toNatClampNeg (.double yh)), (.double 0)), (us1, kus1, .int, 4, [(.int r), (.int 0), (.int 0), (.int 0)], (.int 0)), (ua, kua, (.array .int), 3, [(.ref us0), (.ref us1), (.null)], (.null)), (uc, kuc, .int, 3, [(.int 1), (.int 1), (.int 0)], (.int 0)), (sa, ksa, .int, 3, [(.int (0 + 1)), (.int (0 + 1)), (.int 0)], (.int 0)), (us0, kus0, .int, 4, [(.int ro), (.int 0), (.int 0), (.int 0)], (.int 0)), (px, kpx, .int, 2, [(.int (0 : Int32)), (.int 0)], (.int 0)), (py, kpy, .double, 4, [(.double FP.dconst1), (.double FP.dconst1), (.double 0), (.double 0)], (.double 0))] := (((((((H.front 1 rfl).front 1 rfl).front 10 rfl).front 10 rfl).front 7 rfl).front 7 rfl).front 7 rfl)
  refine o_virtual 506 [(.int r), (.int ow), (.ref mi)] W (tw hw 87) (tw hw 88) (tw hw 90) (tw hw 89) (tw hw 7) (tw hw 91) (OBJ.1) (con_mc1 l Z b0 hw o va ca la ka ea la2 ua uc sa ev er so rx ry mi kva kca kla kka kea kla2 kua kuc ksa kev ker kso krx kry kmi rcv r ow VL CL ((LL.set ro.toNatClampNeg (.int 1)).set r.toNatClampNeg (.int 1)) [(.double t0), (.double t1), (.double t2)] (((([(.double 0), (.double 0), (.double 0), (.double 0), (.double 0), (.double 0), (.double 0), (.double 0)].set ((2 : Int32) * ro).toNatClampNeg (.double (4602678819172646912 : UInt64))).set (((2 : Int32) * ro) + (1 : Int32)).toNatClampNeg (.double yo)).set ((2 : Int32) * r).toNatClampNeg (.double xl)).set (((2 : Int32) * r) + (1 : Int32)).toNatClampNeg (.double yh)) (.int 0) (.double 0) (.double 0) r4 hV hC (own_gset (by simp [rr, lL])) kr0 kr1 xl yh to el.toInt eh.toInt qo.toInt hxl hyh hto ⟨bel.1, bel.2, beh.1, beh.2, bqo.1, (by omega)⟩ ((own_gsetne xr0r1.symm).trans (own_gset (by simp [qr0]))) (own_gset (by simp [qr1])) ho hmo 1 x1 z1 t1 f1.toInt g1.toInt n1.toInt hx1 hz1 ht1 ⟨bf1.1, (by omega), bg1.1, (by omega), (own_i31 _).1, (by have := own_i31 n1; omega)⟩ (by decide) rfl (fun q => by rw [hq1 q.symm]) _ W.old OBJ (HM.split (P := [_, _, _, _, _, _, _]) H).1) pd7 at_503 rfl all0 (fun T h v W qq gg => ?_)
  obtain ⟨_, rfl, sm, rfl, hsm, rfl⟩ := qq
  show Go p e below _ _ (mkF m 506 #[.val (.int n0), .val (.int n1), .val (.int n2), .val (.int n3), .val (.int n4), .val (.int f0), .val (.int g0), .val (.int f1), .val (.int g1), .val (.int f2), .val (.int g2), .val (.int (0 : Int32)), .val (.int (1 : Int32)), .val (.int (0 : Int32)), .val (.int r), .val (.int ro), .val (.int dr), .val (.int ow), .val (.int pr), .val (.int se), .val (.int hf), .val (.int rs), .val (.int dm), .val (.int el), .val (.int eh), .val (.ref o), .val (.ref mi), .val (.long qo.toInt64), .second, .val (.long rf), .second] [(.double sm)])
  have hS : (-(el.toInt + eh.toInt) * qo.toInt + (f1.toInt + g1.toInt) * (n1.toInt - qo.toInt)) = 0 + (f1.toInt + g1.toInt) * n1.toInt + 0 - 64 * qo.toInt := by
    have e9 : el.toInt = 64 - ((f1.toInt + g1.toInt)) - eh.toInt := by omega
    rw [e9]
    simp only [Int.mul_sub, Int.sub_mul, Int.add_mul, Int.neg_mul, Int.zero_mul]
    omega
  rw [hS, ← href] at hsm
  have bS : -1000000000000 ≤ rf.toInt ∧ rf.toInt ≤ 1000000000000 := by rw [href]; omega
  refine o_ldc2D 509 W (tw hw 93) at_506 ?_
  refine o_dmulQ 510 W hsm own_64 (by omega) (hd := at_509) (K := fun ym hym => ?_)
  refine o_lload 512 W at_510 rfl ?_
  refine o_l2dQ 513 W (by omega) (hd := at_512) (K := fun yr hyr => ?_)
  have hyu := hyr.up 6
  refine o_dcmpQ 514 W hym hyu at_513 ?_
  refine o_ifN 517 W at_514 (XT.i0_ne_f ((own_c0 _ _).mpr (by first | rfl | omega))) ?_
  refine o_iconst 518 W (1) at_517 (by first | rfl | decide) ?_
  refine o_goto 522 W at_518 ?_
  exact o_nret W (1 : Int32) (by simp) (by decide) at_522 (rfl)
theorem own_tail3 (l : Launch) (Z : State) (b0 : Array Value) (hw : ∀ d ∈ tables_1, d.before b0 Z = true) {p : Program} {e : Env} {s : State} {m : MethodId} {args : Array Value} {below : List Frame} {meth : Method} {c : Code} {T : State} {h : Heap} {sf : List Addr} (n0 n1 n2 n3 n4 f0 g0 f1 g1 f2 g2 r ro dr ow pr se hf rs dm el eh qo : Int32) (o va ca la ka ea la2 ua uc sa ev er so px py rx ry : Addr) (kva kca kla kka kea kla2 kua kuc ksa kev ker kso kpx kpy krx kry : ClassId) (rcv : Value) (VL CL LL : List Value) (r4 : ¬ r < 0 ∧ r < 4) (ro4 : ¬ ro < 0 ∧ ro < 4) (hne : ro.toNatClampNeg ≠ r.toNatClampNeg) (xr0r1 : ((2 : Int32) * r).toNatClampNeg ≠ (((2 : Int32) * r) + (1 : Int32)).toNatClampNeg) (xro0r0 : ((2 : Int32) * ro).toNatClampNeg ≠ ((2 : Int32) * r).toNatClampNeg) (xro0r1 : ((2 : Int32) * ro).toNatClampNeg ≠ (((2 : Int32) * r) + (1 : Int32)).toNatClampNeg) (xro0ro1 : ((2 : Int32) * ro).toNatClampNeg ≠ (((2 : Int32) * ro) + (1 : Int32)).toNatClampNeg) (xro1r0 : (((2 : Int32) * ro) + (1 : Int32)).toNatClampNeg ≠ ((2 : Int32) * r).toNatClampNeg) (xro1r1 : (((2 : Int32) * ro) + (1 : Int32)).toNatClampNeg ≠ (((2 : Int32) * r) + (1 : Int32)).toNatClampNeg) (kr0 : ¬ ((2 : Int32) * r) < 0 ∧ ((2 : Int32) * r) < 8) (kr1 : ¬ (((2 : Int32) * r) + (1 : Int32)) < 0 ∧ (((2 : Int32) * r) + (1 : Int32)) < 8) (kro0 : ¬ ((2 : Int32) * ro) < 0 ∧ ((2 : Int32) * ro) < 8) (kro1 : ¬ (((2 : Int32) * ro) + (1 : Int32)) < 0 ∧ (((2 : Int32) * ro) + (1 : Int32)) < 8) (lV : VL.length = 4) (lC : CL.length = 4) (lL : LL.length = 4) (hV : VL.getD r.toNatClampNeg (.null) = .ref rx) (hVo : VL.getD ro.toNatClampNeg (.null) = .ref px) (hC : CL.getD r.toNatClampNeg (.null) = .ref ry) (hCo : CL.getD ro.toNatClampNeg (.null) = .ref py) (hL : LL.getD r.toNatClampNeg (.int 0) = .int 0) (hLo : LL.getD ro.toNatClampNeg (.int 0) = .int 0) (bf0 : 0 ≤ f0.toInt ∧ f0.toInt ≤ 20) (bg0 : 0 ≤ g0.toInt ∧ g0.toInt ≤ 20) (bf1 : 0 ≤ f1.toInt ∧ f1.toInt ≤ 20) (bg1 : 0 ≤ g1.toInt ∧ g1.toInt ≤ 20) (bf2 : 0 ≤ f2.toInt ∧ f2.toInt ≤ 20) (bg2 : 0 ≤ g2.toInt ∧ g2.toInt ≤ 20) (bel : 0 ≤ el.toInt ∧ el.toInt ≤ 32) (beh : 0 ≤ eh.toInt ∧ eh.toInt ≤ 32) (hee : el.toInt + eh.toInt = 64 - ((f0.toInt + g0.toInt) + (f1.toInt + g1.toInt))) (how : ow = 0 ∧ qo = n0 ∨ ow = 1 ∧ qo = n1 ∨ ow = 2 ∧ qo = n2) (Ova : OvrA Z kva .int "[I") (Oca : OvrA Z kca .double "[D") (Oua : OvrA Z kua .int "[I") (zo : Z.heap.size ≤ o) (W : Wk p l e room_1 s m args below meth c Z x code maxLocals ret T h 17 107 sf) (OBJ : OB Z h o "com/example/markov_reachability/markovreachability/IntervalEquations" [("ceiling", "D", (.double FP.dconst1)), ("variables", "[[I", (.ref va)), ("coefficients", "[[D", (.ref ca)), ("length", "[I", (.ref la)), ("constant", "[D", (.ref ka)), ("exit", "[D", (.ref ea)), ("eliminating", "[Z", (.ref la2)), ("users", "[[I", (.ref ua)), ("userCount", "[I", (.ref uc)), ("substitutable", "[I", (.ref sa)), ("eliminatedVariable", "[I", (.ref ev)), ("eliminatedRow", "[I", (.ref er)), ("slot", "[I", (.ref so)), ("rowCount", "I", rcv)]) (H : HM Z h [(va, kva, (.array .int), 4, VL, (.null)), (ca, kca, (.array .double), 4, CL, (.null)), (la, kla, .int, 4, LL, (.int 0)), (ua, kua, (.array .int), 3, [(.null), (.null), (.null)], (.null)), (uc, kuc, .int, 3, [(.int 0), (.int 0), (.int 0)], (.int 0)), (sa, ksa, .int, 3, [(.int 0), (.int 0), (.int 0)], (.int 0)), (px, kpx, .int, 2, [(.int 0), (.int 0)], (.int 0)), (py, kpy, .double, 4, [(.double 0), (.double 0), (.double 0), (.double 0)], (.double 0)), (rx, krx, .int, 2, [(.int 0), (.int 0)], (.int 0)), (ry, kry, .double, 4, [(.double 0), (.double 0), (.double 0), (.double 0)], (.double 0)), (ea, kea, .double, 8, [(.double 0), (.double 0), (.double 0), (.double 0), (.double 0), (.double 0), (.double 0), (.double 0)], (.double 0))]) : Go p e below (Gd s below Z (QV fun w h => w = .int 1) (room_1).cells (room_1).slots) T (mkF m 259 #[.val (.int n0), .val (.int n1), .val (.int n2), .val (.int n3), .val (.int n4), .val (.int f0), .val (.int g0), .val (.int f1), .val (.int g1), .val (.int f2), .val (.int g2), .val (.int (1 : Int32)), .val (.int (1 : Int32)), .val (.int (0 : Int32)), .val (.int r), .val (.int ro), .val (.int dr), .val (.int ow), .val (.int pr), .val (.int se), .val (.int hf), .val (.int rs), .val (.int dm), .val (.int el), .val (.int eh), .val (.ref o), .unset, .unset, .unset, .unset, .unset] []) := by
  have rr := own_r4 r4
  have qr := own_r4 ro4
  have qr0 := own_r8 kr0
  have qr1 := own_r8 kr1
  have qro0 := own_r8 kro0
  have qro1 := own_r8 kro1
  refine o_aload 261 W at_259 rfl rfl ?_
  refine o_iload 263 W at_261 rfl ?_
  refine o_iconst 264 W (0) at_263 (by first | rfl | decide) ?_
  refine o_dconst1 265 W at_264 ?_
  refine o_dconst1 266 W at_265 ?_
  have H : HM Z h [(va, kva, (.array .int), 4, VL, (.null)), (ca, kca, (.array .double), 4, CL, (.null)), (la, kla, .int, 4, LL, (.int 0)), (ua, kua, (.array .int), 3, [(.null), (.null), (.null)], (.null)), (uc, kuc, .int, 3, [(.int 0), (.int 0), (.int 0)], (.int 0)), (sa, ksa, .int, 3, [(.int 0), (.int 0), (.int 0)], (.int 0)), (px, kpx, .int, 2, [(.int 0), (.int 0)], (.int 0)), (py, kpy, .double, 4, [(.double 0), (.double 0), (.double 0), (.double 0)], (.double 0)), (rx, krx, .int, 2, [(.int 0), (.int 0)], (.int 0)), (ry, kry, .double, 4, [(.double 0), (.double 0), (.double 0), (.double 0)], (.double 0)), (ea, kea, .double, 8, [(.double 0), (.double 0), (.double 0), (.double 0), (.double 0), (.double 0), (.double 0), (.double 0)], (.double 0))] := ((((((((H.front 7 rfl).front 7 rfl).front 7 rfl).front 7 rfl).front 7 rfl).front 7 rfl).front 7 rfl).front 7 rfl)
  refine o_virtual 269 [(.int ro), (.int (0 : Int32)), (.double FP.dconst1), (.double FP.dconst1)] W (tw hw 60) (tw hw 61) (tw hw 63) (tw hw 62) (tw hw 7) (tw hw 64) (OBJ.1) (con_adcA0 l Z b0 hw o va ca la ka ea la2 ua uc sa ev er so px py kva kca kla kka kea kla2 kua kuc ksa kev ker kso kpx kpy rcv ro (0 : Int32) 0 FP.dconst1 FP.dconst1 VL CL LL [(.null), (.null), (.null)] [(.int 0), (.int 0), (.int 0)] [(.int 0), (.int 0), (.int 0)] (.int 0) (.int 0) (.double 0) (.double 0) (.double 0) (.double 0) ro4 (by decide) (by simp [lV]) (by simp [lC]) (by simp [lL]) (by simp) (by simp) (by simp) hVo hCo hLo rfl rfl rfl Ova Oca Oua _ W.old OBJ (HM.split (P := [_, _, _, _, _, _, _, _]) H).1) pd4 at_266 rfl all0 (fun T h v W qq gg => ?_)
  obtain ⟨rfl, Kc, OBJ1, us0, kus0, nus0, H1⟩ := qq
  show Go p e below _ _ (mkF m 269 #[.val (.int n0), .val (.int n1), .val (.int n2), .val (.int n3), .val (.int n4), .val (.int f0), .val (.int g0), .val (.int f1), .val (.int g1), .val (.int f2), .val (.int g2), .val (.int (1 : Int32)), .val (.int (1 : Int32)), .val (.int (0 : Int32)), .val (.int r), .val (.int ro), .val (.int dr), .val (.int ow), .val (.int pr), .val (.int se), .val (.int hf), .val (.int rs), .val (.int dm), .val (.int el), .val (.int eh), .val (.ref o), .unset, .unset, .unset, .unset, .unset] [])
  have H : HM Z h [(us0, kus0, .int, 4, [(.int ro), (.int 0), (.int 0), (.int 0)], (.int 0)), (va, kva, (.array .int), 4, VL, (.null)), (ca, kca, (.array .double), 4, CL, (.null)), (la, kla, .int, 4, (LL.set ro.toNatClampNeg (.int 1)), (.int 0)), (ua, kua, (.array .int), 3, ([(.null), (.null), (.null)].set (0 : Int32).toNatClampNeg (.ref us0)), (.null)), (uc, kuc, .int, 3, ([(.int 0), (.int 0), (.int 0)].set (0 : Int32).toNatClampNeg (.int 1)), (.int 0)), (sa, ksa, .int, 3, ([(.int 0), (.int 0), (.int 0)].set (0 : Int32).toNatClampNeg (.int (0 + 1))), (.int 0)), (px, kpx, .int, 2, [(.int (0 : Int32)), (.int 0)], (.int 0)), (py, kpy, .double, 4, [(.double FP.dconst1), (.double FP.dconst1), (.double 0), (.double 0)], (.double 0)), (rx, krx, .int, 2, [(.int 0), (.int 0)], (.int 0)), (ry, kry, .double, 4, [(.double 0), (.double 0), (.double 0), (.double 0)], (.double 0)), (ea, kea, .double, 8, [(.double 0), (.double 0), (.double 0), (.double 0), (.double 0), (.double 0), (.double 0), (.double 0)], (.double 0))] := HM.frame (P := [_, _, _, _, _, _, _, _]) H H1 Kc (by simp [HE.a, nus0])
  have OBJ := OBJ1
  have H : HM Z h [(us0, kus0, .int, 4, [(.int ro), (.int 0), (.int 0), (.int 0)], (.int 0)), (va, kva, (.array .int), 4, VL, (.null)), (ca, kca, (.array .double), 4, CL, (.null)), (la, kla, .int, 4, (LL.set ro.toNatClampNeg (.int 1)), (.int 0)), (ua, kua, (.array .int), 3, [(.ref us0), (.null), (.null)], (.null)), (uc, kuc, .int, 3, [(.int 1), (.int 0), (.int 0)], (.int 0)), (sa, ksa, .int, 3, [(.int (0 + 1)), (.int 0), (.int 0)], (.int 0)), (px, kpx, .int, 2, [(.int (0 : Int32)), (.int 0)], (.int 0)), (py, kpy, .double, 4, [(.double FP.dconst1), (.double FP.dconst1), (.double 0), (.double 0)], (.double 0)), (rx, krx, .int, 2, [(.int 0), (.int 0)], (.int 0)), (ry, kry, .double, 4, [(.double 0), (.double 0), (.double 0), (.double 0)], (.double 0)), (ea, kea, .double, 8, [(.double 0), (.double 0), (.double 0), (.double 0), (.double 0), (.double 0), (.double 0), (.double 0)], (.double 0))] := H
  refine o_aload 271 W at_269 rfl rfl ?_
  refine o_iload 273 W at_271 rfl ?_
  refine o_ldc2D 276 W (tw hw 69) at_273 ?_
  refine o_dconst1 277 W at_276 ?_
  have H : HM Z h [(ea, kea, .double, 8, [(.double 0), (.double 0), (.double 0), (.double 0), (.double 0), (.double 0), (.double 0), (.double 0)], (.double 0)), (us0, kus0, .int, 4, [(.int ro), (.int 0), (.int 0), (.int 0)], (.int 0)), (va, kva, (.array .int), 4, VL, (.null)), (ca, kca, (.array .double), 4, CL, (.null)), (la, kla, .int, 4, (LL.set ro.toNatClampNeg (.int 1)), (.int 0)), (ua, kua, (.array .int), 3, [(.ref us0), (.null), (.null)], (.null)), (uc, kuc, .int, 3, [(.int 1), (.int 0), (.int 0)], (.int 0)), (sa, ksa, .int, 3, [(.int (0 + 1)), (.int 0), (.int 0)], (.int 0)), (px, kpx, .int, 2, [(.int (0 : Int32)), (.int 0)], (.int 0)), (py, kpy, .double, 4, [(.double FP.dconst1), (.double FP.dconst1), (.double 0), (.double 0)], (.double 0)), (rx, krx, .int, 2, [(.int 0), (.int 0)], (.int 0)), (ry, kry, .double, 4, [(.double 0), (.double 0), (.double 0), (.double 0)], (.double 0))] := (H.front 11 rfl)
  refine o_virtual 280 [(.int ro), (.double (4602678819172646912 : UInt64)), (.double FP.dconst1)] W (tw hw 70) (tw hw 71) (tw hw 73) (tw hw 72) (tw hw 7) (tw hw 74) (OBJ.1) (con_adx l Z b0 hw o va ca la ka ea la2 ua uc sa ev er so kva kca kla kka kea kla2 kua kuc ksa kev ker kso rcv ro (4602678819172646912 : UInt64) FP.dconst1 [(.double 0), (.double 0), (.double 0), (.double 0), (.double 0), (.double 0), (.double 0), (.double 0)] own_half own_one5 (by omega) kro0 kro1 (by simp) (own_rep8 _ _) (own_rep8 _ _) xro0ro1 _ W.old OBJ zo (HM.split (P := [_]) H).1) pd6 at_277 rfl all0 (fun T h v W qq gg => ?_)
  obtain ⟨rfl, Kc, OBJ1, yo, hyo, H1⟩ := qq
  show Go p e below _ _ (mkF m 280 #[.val (.int n0), .val (.int n1), .val (.int n2), .val (.int n3), .val (.int n4), .val (.int f0), .val (.int g0), .val (.int f1), .val (.int g1), .val (.int f2), .val (.int g2), .val (.int (1 : Int32)), .val (.int (1 : Int32)), .val (.int (0 : Int32)), .val (.int r), .val (.int ro), .val (.int dr), .val (.int ow), .val (.int pr), .val (.int se), .val (.int hf), .val (.int rs), .val (.int dm), .val (.int el), .val (.int eh), .val (.ref o), .unset, .unset, .unset, .unset, .unset] [])
  have H : HM Z h [(ea, kea, .double, 8, (([(.double 0), (.double 0), (.double 0), (.double 0), (.double 0), (.double 0), (.double 0), (.double 0)].set ((2 : Int32) * ro).toNatClampNeg (.double (4602678819172646912 : UInt64))).set (((2 : Int32) * ro) + (1 : Int32)).toNatClampNeg (.double yo)), (.double 0)), (us0, kus0, .int, 4, [(.int ro), (.int 0), (.int 0), (.int 0)], (.int 0)), (va, kva, (.array .int), 4, VL, (.null)), (ca, kca, (.array .double), 4, CL, (.null)), (la, kla, .int, 4, (LL.set ro.toNatClampNeg (.int 1)), (.int 0)), (ua, kua, (.array .int), 3, [(.ref us0), (.null), (.null)], (.null)), (uc, kuc, .int, 3, [(.int 1), (.int 0), (.int 0)], (.int 0)), (sa, ksa, .int, 3, [(.int (0 + 1)), (.int 0), (.int 0)], (.int 0)), (px, kpx, .int, 2, [(.int (0 : Int32)), (.int 0)], (.int 0)), (py, kpy, .double, 4, [(.double FP.dconst1), (.double FP.dconst1), (.double 0), (.double 0)], (.double 0)), (rx, krx, .int, 2, [(.int 0), (.int 0)], (.int 0)), (ry, kry, .double, 4, [(.double 0), (.double 0), (.double 0), (.double 0)], (.double 0))] := HM.frame (P := [_]) H H1 Kc (by simp [HE.a])
  have OBJ := OBJ1
  refine o_iload 282 W at_280 rfl ?_
  refine o_ifN 285 W at_282 (XT.i0_eq_f (by decide)) ?_
  refine o_aload 287 W at_285 rfl rfl ?_
  refine o_iload 289 W at_287 rfl ?_
  refine o_iconst 290 W (0) at_289 (by first | rfl | decide) ?_
  refine o_iload 292 W at_290 rfl ?_
  refine o_i2dQ 293 W  (hd := at_292) (K := fun ux0 hux0 => ?_)
  refine o_ldc2D 296 W (tw hw 85) at_293 ?_
  refine o_ddivQ 297 W 5 hux0 own_32 (own_nb32 _) (hd := at_296) (K := fun x0 hx0 => ?_)
  refine o_iload 299 W at_297 rfl ?_
  refine o_i2dQ 300 W  (hd := at_299) (K := fun uz0 huz0 => ?_)
  refine o_ldc2D 303 W (tw hw 85) at_300 ?_
  refine o_ddivQ 304 W 5 huz0 own_32 (own_nb32 _) (hd := at_303) (K := fun z0 hz0 => ?_)
  have H : HM Z h [(va, kva, (.array .int), 4, VL, (.null)), (ca, kca, (.array .double), 4, CL, (.null)), (la, kla, .int, 4, (LL.set ro.toNatClampNeg (.int 1)), (.int 0)), (ua, kua, (.array .int), 3, [(.ref us0), (.null), (.null)], (.null)), (uc, kuc, .int, 3, [(.int 1), (.int 0), (.int 0)], (.int 0)), (sa, ksa, .int, 3, [(.int (0 + 1)), (.int 0), (.int 0)], (.int 0)), (rx, krx, .int, 2, [(.int 0), (.int 0)], (.int 0)), (ry, kry, .double, 4, [(.double 0), (.double 0), (.double 0), (.double 0)], (.double 0)), (us0, kus0, .int, 4, [(.int ro), (.int 0), (.int 0), (.int 0)], (.int 0)), (ea, kea, .double, 8, (([(.double 0), (.double 0), (.double 0), (.double 0), (.double 0), (.double 0), (.double 0), (.double 0)].set ((2 : Int32) * ro).toNatClampNeg (.double (4602678819172646912 : UInt64))).set (((2 : Int32) * ro) + (1 : Int32)).toNatClampNeg (.double yo)), (.double 0)), (px, kpx, .int, 2, [(.int (0 : Int32)), (.int 0)], (.int 0)), (py, kpy, .double, 4, [(.double FP.dconst1), (.double FP.dconst1), (.double 0), (.double 0)], (.double 0))] := (((((((((H.front 1 rfl).front 11 rfl).front 11 rfl).front 9 rfl).front 9 rfl).front 9 rfl).front 9 rfl).front 9 rfl).front 9 rfl)
  refine o_virtual 307 [(.int r), (.int (0 : Int32)), (.double x0), (.double z0)] W (tw hw 60) (tw hw 61) (tw hw 63) (tw hw 62) (tw hw 7) (tw hw 64) (OBJ.1) (con_adcB0 l Z b0 hw o va ca la ka ea la2 ua uc sa ev er so rx ry us0 kva kca kla kka kea kla2 kua kuc ksa kev ker kso krx kry kus0 rcv r (0 : Int32) (0 + 1) x0 z0 VL CL (LL.set ro.toNatClampNeg (.int 1)) [(.ref us0), (.null), (.null)] [(.int 1), (.int 0), (.int 0)] [(.int (0 + 1)), (.int 0), (.int 0)] (.int 0) (.int 0) (.double 0) (.double 0) (.double 0) (.double 0) (.int ro) (.int 0) (.int 0) (.int 0) r4 (by decide) (by simp [lV]) (by simp [lC]) (by simp [lL]) (by simp) (by simp) (by simp) hV hC ((own_gsetne hne).trans hL) rfl rfl rfl Ova Oca Oua _ W.old OBJ (HM.split (P := [_, _, _, _, _, _, _, _, _]) H).1) pd4 at_304 rfl all0 (fun T h v W qq gg => ?_)
  obtain ⟨rfl, Kc, OBJ1, H1⟩ := qq
  show Go p e below _ _ (mkF m 307 #[.val (.int n0), .val (.int n1), .val (.int n2), .val (.int n3), .val (.int n4), .val (.int f0), .val (.int g0), .val (.int f1), .val (.int g1), .val (.int f2), .val (.int g2), .val (.int (1 : Int32)), .val (.int (1 : Int32)), .val (.int (0 : Int32)), .val (.int r), .val (.int ro), .val (.int dr), .val (.int ow), .val (.int pr), .val (.int se), .val (.int hf), .val (.int rs), .val (.int dm), .val (.int el), .val (.int eh), .val (.ref o), .unset, .unset, .unset, .unset, .unset] [])
  have H : HM Z h [(va, kva, (.array .int), 4, VL, (.null)), (ca, kca, (.array .double), 4, CL, (.null)), (la, kla, .int, 4, ((LL.set ro.toNatClampNeg (.int 1)).set r.toNatClampNeg (.int 1)), (.int 0)), (ua, kua, (.array .int), 3, [(.ref us0), (.null), (.null)], (.null)), (uc, kuc, .int, 3, ([(.int 1), (.int 0), (.int 0)].set (0 : Int32).toNatClampNeg (.int 2)), (.int 0)), (sa, ksa, .int, 3, ([(.int (0 + 1)), (.int 0), (.int 0)].set (0 : Int32).toNatClampNeg (.int ((0 + 1) + 1))), (.int 0)), (rx, krx, .int, 2, [(.int (0 : Int32)), (.int 0)], (.int 0)), (ry, kry, .double, 4, [(.double x0), (.double z0), (.double 0), (.double 0)], (.double 0)), (us0, kus0, .int, 4, [(.int ro), (.int r), (.int 0), (.int 0)], (.int 0)), (ea, kea, .double, 8, (([(.double 0), (.double 0), (.double 0), (.double 0), (.double 0), (.double 0), (.double 0), (.double 0)].set ((2 : Int32) * ro).toNatClampNeg (.double (4602678819172646912 : UInt64))).set (((2 : Int32) * ro) + (1 : Int32)).toNatClampNeg (.double yo)), (.double 0)), (px, kpx, .int, 2, [(.int (0 : Int32)), (.int 0)], (.int 0)), (py, kpy, .double, 4, [(.double FP.dconst1), (.double FP.dconst1), (.double 0), (.double 0)], (.double 0))] := HM.frame (P := [_, _, _, _, _, _, _, _, _]) H H1 Kc (by simp [HE.a])
  have OBJ := OBJ1
  have H : HM Z h [(va, kva, (.array .int), 4, VL, (.null)), (ca, kca, (.array .double), 4, CL, (.null)), (la, kla, .int, 4, ((LL.set ro.toNatClampNeg (.int 1)).set r.toNatClampNeg (.int 1)), (.int 0)), (ua, kua, (.array .int), 3, [(.ref us0), (.null), (.null)], (.null)), (uc, kuc, .int, 3, [(.int 2), (.int 0), (.int 0)], (.int 0)), (sa, ksa, .int, 3, [(.int ((0 + 1) + 1)), (.int 0), (.int 0)], (.int 0)), (rx, krx, .int, 2, [(.int (0 : Int32)), (.int 0)], (.int 0)), (ry, kry, .double, 4, [(.double x0), (.double z0), (.double 0), (.double 0)], (.double 0)), (us0, kus0, .int, 4, [(.int ro), (.int r), (.int 0), (.int 0)], (.int 0)), (ea, kea, .double, 8, (([(.double 0), (.double 0), (.double 0), (.double 0), (.double 0), (.double 0), (.double 0), (.double 0)].set ((2 : Int32) * ro).toNatClampNeg (.double (4602678819172646912 : UInt64))).set (((2 : Int32) * ro) + (1 : Int32)).toNatClampNeg (.double yo)), (.double 0)), (px, kpx, .int, 2, [(.int (0 : Int32)), (.int 0)], (.int 0)), (py, kpy, .double, 4, [(.double FP.dconst1), (.double FP.dconst1), (.double 0), (.double 0)], (.double 0))] := H
  refine o_iload 309 W at_307 rfl ?_
  refine o_ifN 312 W at_309 (XT.i0_eq_f (by decide)) ?_
  refine o_aload 314 W at_312 rfl rfl ?_
  refine o_iload 316 W at_314 rfl ?_
  refine o_iconst 317 W (1) at_316 (by first | rfl | decide) ?_
  refine o_iload 319 W at_317 rfl ?_
  refine o_i2dQ 320 W  (hd := at_319) (K := fun ux1 hux1 => ?_)
  refine o_ldc2D 323 W (tw hw 85) at_320 ?_
  refine o_ddivQ 324 W 5 hux1 own_32 (own_nb32 _) (hd := at_323) (K := fun x1 hx1 => ?_)
  refine o_iload 326 W at_324 rfl ?_
  refine o_i2dQ 327 W  (hd := at_326) (K := fun uz1 huz1 => ?_)
  refine o_ldc2D 330 W (tw hw 85) at_327 ?_
  refine o_ddivQ 331 W 5 huz1 own_32 (own_nb32 _) (hd := at_330) (K := fun z1 hz1 => ?_)
  have H : HM Z h [(va, kva, (.array .int), 4, VL, (.null)), (ca, kca, (.array .double), 4, CL, (.null)), (la, kla, .int, 4, ((LL.set ro.toNatClampNeg (.int 1)).set r.toNatClampNeg (.int 1)), (.int 0)), (ua, kua, (.array .int), 3, [(.ref us0), (.null), (.null)], (.null)), (uc, kuc, .int, 3, [(.int 2), (.int 0), (.int 0)], (.int 0)), (sa, ksa, .int, 3, [(.int ((0 + 1) + 1)), (.int 0), (.int 0)], (.int 0)), (rx, krx, .int, 2, [(.int (0 : Int32)), (.int 0)], (.int 0)), (ry, kry, .double, 4, [(.double x0), (.double z0), (.double 0), (.double 0)], (.double 0)), (us0, kus0, .int, 4, [(.int ro), (.int r), (.int 0), (.int 0)], (.int 0)), (ea, kea, .double, 8, (([(.double 0), (.double 0), (.double 0), (.double 0), (.double 0), (.double 0), (.double 0), (.double 0)].set ((2 : Int32) * ro).toNatClampNeg (.double (4602678819172646912 : UInt64))).set (((2 : Int32) * ro) + (1 : Int32)).toNatClampNeg (.double yo)), (.double 0)), (px, kpx, .int, 2, [(.int (0 : Int32)), (.int 0)], (.int 0)), (py, kpy, .double, 4, [(.double FP.dconst1), (.double FP.dconst1), (.double 0), (.double 0)], (.double 0))] := ((((((((H.front 7 rfl).front 7 rfl).front 7 rfl).front 7 rfl).front 7 rfl).front 7 rfl).front 7 rfl).front 7 rfl)
  refine o_virtual 334 [(.int r), (.int (1 : Int32)), (.double x1), (.double z1)] W (tw hw 60) (tw hw 61) (tw hw 63) (tw hw 62) (tw hw 7) (tw hw 64) (OBJ.1) (con_adcA1 l Z b0 hw o va ca la ka ea la2 ua uc sa ev er so rx ry kva kca kla kka kea kla2 kua kuc ksa kev ker kso krx kry rcv r (1 : Int32) 0 x1 z1 VL CL ((LL.set ro.toNatClampNeg (.int 1)).set r.toNatClampNeg (.int 1)) [(.ref us0), (.null), (.null)] [(.int 2), (.int 0), (.int 0)] [(.int ((0 + 1) + 1)), (.int 0), (.int 0)] (.int (0 : Int32)) (.int 0) (.double x0) (.double z0) (.double 0) (.double 0) r4 (by decide) (by simp [lV]) (by simp [lC]) (by simp [lL]) (by simp) (by simp) (by simp) hV hC (own_gset (by simp [rr, lL])) rfl rfl rfl Ova Oca Oua _ W.old OBJ (HM.split (P := [_, _, _, _, _, _, _, _]) H).1 0 rfl (by decide)) pd4 at_331 rfl all0 (fun T h v W qq gg => ?_)
  obtain ⟨rfl, Kc, OBJ1, us1, kus1, nus1, H1⟩ := qq
  show Go p e below _ _ (mkF m 334 #[.val (.int n0), .val (.int n1), .val (.int n2), .val (.int n3), .val (.int n4), .val (.int f0), .val (.int g0), .val (.int f1), .val (.int g1), .val (.int f2), .val (.int g2), .val (.int (1 : Int32)), .val (.int (1 : Int32)), .val (.int (0 : Int32)), .val (.int r), .val (.int ro), .val (.int dr), .val (.int ow), .val (.int pr), .val (.int se), .val (.int hf), .val (.int rs), .val (.int dm), .val (.int el), .val (.int eh), .val (.ref o), .unset, .unset, .unset, .unset, .unset] [])
  have H : HM Z h [(us1, kus1, .int, 4, [(.int r), (.int 0), (.int 0), (.int 0)], (.int 0)), (va, kva, (.array .int), 4, VL, (.null)), (ca, kca, (.array .double), 4, CL, (.null)), (la, kla, .int, 4, (((LL.set ro.toNatClampNeg (.int 1)).set r.toNatClampNeg (.int 1)).set r.toNatClampNeg (.int 2)), (.int 0)), (ua, kua, (.array .int), 3, ([(.ref us0), (.null), (.null)].set (1 : Int32).toNatClampNeg (.ref us1)), (.null)), (uc, kuc, .int, 3, ([(.int 2), (.int 0), (.int 0)].set (1 : Int32).toNatClampNeg (.int 1)), (.int 0)), (sa, ksa, .int, 3, ([(.int ((0 + 1) + 1)), (.int 0), (.int 0)].set (1 : Int32).toNatClampNeg (.int (0 + 1))), (.int 0)), (rx, krx, .int, 2, [(.int (0 : Int32)), (.int (1 : Int32))], (.int 0)), (ry, kry, .double, 4, [(.double x0), (.double z0), (.double x1), (.double z1)], (.double 0)), (us0, kus0, .int, 4, [(.int ro), (.int r), (.int 0), (.int 0)], (.int 0)), (ea, kea, .double, 8, (([(.double 0), (.double 0), (.double 0), (.double 0), (.double 0), (.double 0), (.double 0), (.double 0)].set ((2 : Int32) * ro).toNatClampNeg (.double (4602678819172646912 : UInt64))).set (((2 : Int32) * ro) + (1 : Int32)).toNatClampNeg (.double yo)), (.double 0)), (px, kpx, .int, 2, [(.int (0 : Int32)), (.int 0)], (.int 0)), (py, kpy, .double, 4, [(.double FP.dconst1), (.double FP.dconst1), (.double 0), (.double 0)], (.double 0))] := HM.frame (P := [_, _, _, _, _, _, _, _]) H H1 Kc (by simp [HE.a, nus1])
  have OBJ := OBJ1
  have H : HM Z h [(us1, kus1, .int, 4, [(.int r), (.int 0), (.int 0), (.int 0)], (.int 0)), (va, kva, (.array .int), 4, VL, (.null)), (ca, kca, (.array .double), 4, CL, (.null)), (la, kla, .int, 4, (((LL.set ro.toNatClampNeg (.int 1)).set r.toNatClampNeg (.int 1)).set r.toNatClampNeg (.int 2)), (.int 0)), (ua, kua, (.array .int), 3, [(.ref us0), (.ref us1), (.null)], (.null)), (uc, kuc, .int, 3, [(.int 2), (.int 1), (.int 0)], (.int 0)), (sa, ksa, .int, 3, [(.int ((0 + 1) + 1)), (.int (0 + 1)), (.int 0)], (.int 0)), (rx, krx, .int, 2, [(.int (0 : Int32)), (.int (1 : Int32))], (.int 0)), (ry, kry, .double, 4, [(.double x0), (.double z0), (.double x1), (.double z1)], (.double 0)), (us0, kus0, .int, 4, [(.int ro), (.int r), (.int 0), (.int 0)], (.int 0)), (ea, kea, .double, 8, (([(.double 0), (.double 0), (.double 0), (.double 0), (.double 0), (.double 0), (.double 0), (.double 0)].set ((2 : Int32) * ro).toNatClampNeg (.double (4602678819172646912 : UInt64))).set (((2 : Int32) * ro) + (1 : Int32)).toNatClampNeg (.double yo)), (.double 0)), (px, kpx, .int, 2, [(.int (0 : Int32)), (.int 0)], (.int 0)), (py, kpy, .double, 4, [(.double FP.dconst1), (.double FP.dconst1), (.double 0), (.double 0)], (.double 0))] := H
  refine o_iload 336 W at_334 rfl ?_
  refine o_ifY 361 W at_336 (XT.i0_eq_t (by decide)) ?_
  refine o_aload 363 W at_361 rfl rfl ?_
  refine o_iload 365 W at_363 rfl ?_
  refine o_iload 367 W at_365 rfl ?_
  refine o_i2dQ 368 W  (hd := at_367) (K := fun uxl huxl => ?_)
  refine o_ldc2D 371 W (tw hw 85) at_368 ?_
  refine o_ddivQ 372 W 5 huxl own_32 (own_nb32 _) (hd := at_371) (K := fun xl hxl => ?_)
  refine o_iload 374 W at_372 rfl ?_
  refine o_i2dQ 375 W  (hd := at_374) (K := fun uxh huxh => ?_)
  refine o_ldc2D 378 W (tw hw 85) at_375 ?_
  refine o_ddivQ 379 W 5 huxh own_32 (own_nb32 _) (hd := at_378) (K := fun xh hxh => ?_)
  have H : HM Z h [(ea, kea, .double, 8, (([(.double 0), (.double 0), (.double 0), (.double 0), (.double 0), (.double 0), (.double 0), (.double 0)].set ((2 : Int32) * ro).toNatClampNeg (.double (4602678819172646912 : UInt64))).set (((2 : Int32) * ro) + (1 : Int32)).toNatClampNeg (.double yo)), (.double 0)), (us1, kus1, .int, 4, [(.int r), (.int 0), (.int 0), (.int 0)], (.int 0)), (va, kva, (.array .int), 4, VL, (.null)), (ca, kca, (.array .double), 4, CL, (.null)), (la, kla, .int, 4, (((LL.set ro.toNatClampNeg (.int 1)).set r.toNatClampNeg (.int 1)).set r.toNatClampNeg (.int 2)), (.int 0)), (ua, kua, (.array .int), 3, [(.ref us0), (.ref us1), (.null)], (.null)), (uc, kuc, .int, 3, [(.int 2), (.int 1), (.int 0)], (.int 0)), (sa, ksa, .int, 3, [(.int ((0 + 1) + 1)), (.int (0 + 1)), (.int 0)], (.int 0)), (rx, krx, .int, 2, [(.int (0 : Int32)), (.int (1 : Int32))], (.int 0)), (ry, kry, .double, 4, [(.double x0), (.double z0), (.double x1), (.double z1)], (.double 0)), (us0, kus0, .int, 4, [(.int ro), (.int r), (.int 0), (.int 0)], (.int 0)), (px, kpx, .int, 2, [(.int (0 : Int32)), (.int 0)], (.int 0)), (py, kpy, .double, 4, [(.double FP.dconst1), (.double FP.dconst1), (.double 0), (.double 0)], (.double 0))] := (H.front 10 rfl)
  refine o_virtual 382 [(.int r), (.double xl), (.double xh)] W (tw hw 70) (tw hw 71) (tw hw 73) (tw hw 72) (tw hw 7) (tw hw 74) (OBJ.1) (con_adx l Z b0 hw o va ca la ka ea la2 ua uc sa ev er so kva kca kla kka kea kla2 kua kuc ksa kev ker kso rcv r xl xh (([(.double 0), (.double 0), (.double 0), (.double 0), (.double 0), (.double 0), (.double 0), (.double 0)].set ((2 : Int32) * ro).toNatClampNeg (.double (4602678819172646912 : UInt64))).set (((2 : Int32) * ro) + (1 : Int32)).toNatClampNeg (.double yo)) hxl hxh beh.2 kr0 kr1 (by simp) ((own_gsetne xro1r0).trans ((own_gsetne xro0r0).trans (own_rep8 _ _))) ((own_gsetne xro1r1).trans ((own_gsetne xro0r1).trans (own_rep8 _ _))) xr0r1 _ W.old OBJ zo (HM.split (P := [_]) H).1) pd6 at_379 rfl all0 (fun T h v W qq gg => ?_)
  obtain ⟨rfl, Kc, OBJ1, yh, hyh, H1⟩ := qq
  show Go p e below _ _ (mkF m 382 #[.val (.int n0), .val (.int n1), .val (.int n2), .val (.int n3), .val (.int n4), .val (.int f0), .val (.int g0), .val (.int f1), .val (.int g1), .val (.int f2), .val (.int g2), .val (.int (1 : Int32)), .val (.int (1 : Int32)), .val (.int (0 : Int32)), .val (.int r), .val (.int ro), .val (.int dr), .val (.int ow), .val (.int pr), .val (.int se), .val (.int hf), .val (.int rs), .val (.int dm), .val (.int el), .val (.int eh), .val (.ref o), .unset, .unset, .unset, .unset, .unset] [])
  have H : HM Z h [(ea, kea, .double, 8, (((([(.double 0), (.double 0), (.double 0), (.double 0), (.double 0), (.double 0), (.double 0), (.double 0)].set ((2 : Int32) * ro).toNatClampNeg (.double (4602678819172646912 : UInt64))).set (((2 : Int32) * ro) + (1 : Int32)).toNatClampNeg (.double yo)).set ((2 : Int32) * r).toNatClampNeg (.double xl)).set (((2 : Int32) * r) + (1 : Int32)).toNatClampNeg (.double yh)), (.double 0)), (us1, kus1, .int, 4, [(.int r), (.int 0), (.int 0), (.int 0)], (.int 0)), (va, kva, (.array .int), 4, VL, (.null)), (ca, kca, (.array .double), 4, CL, (.null)), (la, kla, .int, 4, (((LL.set ro.toNatClampNeg (.int 1)).set r.toNatClampNeg (.int 1)).set r.toNatClampNeg (.int 2)), (.int 0)), (ua, kua, (.array .int), 3, [(.ref us0), (.ref us1), (.null)], (.null)), (uc, kuc, .int, 3, [(.int 2), (.int 1), (.int 0)], (.int 0)), (sa, ksa, .int, 3, [(.int ((0 + 1) + 1)), (.int (0 + 1)), (.int 0)], (.int 0)), (rx, krx, .int, 2, [(.int (0 : Int32)), (.int (1 : Int32))], (.int 0)), (ry, kry, .double, 4, [(.double x0), (.double z0), (.double x1), (.double z1)], (.double 0)), (us0, kus0, .int, 4, [(.int ro), (.int r), (.int 0), (.int 0)], (.int 0)), (px, kpx, .int, 2, [(.int (0 : Int32)), (.int 0)], (.int 0)), (py, kpy, .double, 4, [(.double FP.dconst1), (.double FP.dconst1), (.double 0), (.double 0)], (.double 0))] := HM.frame (P := [_]) H H1 Kc (by simp [HE.a])
  have OBJ := OBJ1
  refine o_iconst 383 W (3) at_382 (by first | rfl | decide) ?_
  refine o_newarray 385 3 W (tw hw 27) at_383 (by decide) (by decide) (fun T h mi kmi W Emi Ami gmi zmi => ?_)
  have Ami : Arv Z h mi kmi .double 3 [(.double 0), (.double 0), (.double 0)] (.double 0) := own_pad 3 Ami
  have OBJ := OBJ.ext Emi
  have H : HM Z h [(mi, kmi, .double, 3, [(.double 0), (.double 0), (.double 0)], (.double 0)), (ea, kea, .double, 8, (((([(.double 0), (.double 0), (.double 0), (.double 0), (.double 0), (.double 0), (.double 0), (.double 0)].set ((2 : Int32) * ro).toNatClampNeg (.double (4602678819172646912 : UInt64))).set (((2 : Int32) * ro) + (1 : Int32)).toNatClampNeg (.double yo)).set ((2 : Int32) * r).toNatClampNeg (.double xl)).set (((2 : Int32) * r) + (1 : Int32)).toNatClampNeg (.double yh)), (.double 0)), (us1, kus1, .int, 4, [(.int r), (.int 0), (.int 0), (.int 0)], (.int 0)), (va, kva, (.array .int), 4, VL, (.null)), (ca, kca, (.array .double), 4, CL, (.null)), (la, kla, .int, 4, (((LL.set ro.toNatClampNeg (.int 1)).set r.toNatClampNeg (.int 1)).set r.toNatClampNeg (.int 2)), (.int 0)), (ua, kua, (.array .int), 3, [(.ref us0), (.ref us1), (.null)], (.null)), (uc, kuc, .int, 3, [(.int 2), (.int 1), (.int 0)], (.int 0)), (sa, ksa, .int, 3, [(.int ((0 + 1) + 1)), (.int (0 + 1)), (.int 0)], (.int 0)), (rx, krx, .int, 2, [(.int (0 : Int32)), (.int (1 : Int32))], (.int 0)), (ry, kry, .double, 4, [(.double x0), (.double z0), (.double x1), (.double z1)], (.double 0)), (us0, kus0, .int, 4, [(.int ro), (.int r), (.int 0), (.int 0)], (.int 0)), (px, kpx, .int, 2, [(.int (0 : Int32)), (.int 0)], (.int 0)), (py, kpy, .double, 4, [(.double FP.dconst1), (.double FP.dconst1), (.double 0), (.double 0)], (.double 0))] := H.new Emi Ami gmi zmi
  refine o_astore 387 W #[.val (.int n0), .val (.int n1), .val (.int n2), .val (.int n3), .val (.int n4), .val (.int f0), .val (.int g0), .val (.int f1), .val (.int g1), .val (.int f2), .val (.int g2), .val (.int (1 : Int32)), .val (.int (1 : Int32)), .val (.int (0 : Int32)), .val (.int r), .val (.int ro), .val (.int dr), .val (.int ow), .val (.int pr), .val (.int se), .val (.int hf), .val (.int rs), .val (.int dm), .val (.int el), .val (.int eh), .val (.ref o), .val (.ref mi), .unset, .unset, .unset, .unset] at_385 rfl rfl ?_
  refine o_aload 389 W at_387 rfl rfl ?_
  refine o_iconst 390 W (0) at_389 (by first | rfl | decide) ?_
  refine o_iloadN 391 W at_390 rfl ?_
  refine o_i2dQ 392 W  (hd := at_391) (K := fun t0 ht0 => ?_)
  have G0 : Arv Z _ mi kmi .double 3 [(.double 0), (.double 0), (.double 0)] (.double 0) := H.get 0 rfl
  refine o_dastore 393 0 W G0 (by decide) rfl (by simp) (H.new? 0 rfl) at_392 (fun T h W w1 A1 => ?_)
  have OBJ := OBJ.wr (tw hw 6) (H.get 0 rfl) w1
  have H : HM Z h [(mi, kmi, .double, 3, [(.double t0), (.double 0), (.double 0)], (.double 0)), (ea, kea, .double, 8, (((([(.double 0), (.double 0), (.double 0), (.double 0), (.double 0), (.double 0), (.double 0), (.double 0)].set ((2 : Int32) * ro).toNatClampNeg (.double (4602678819172646912 : UInt64))).set (((2 : Int32) * ro) + (1 : Int32)).toNatClampNeg (.double yo)).set ((2 : Int32) * r).toNatClampNeg (.double xl)).set (((2 : Int32) * r) + (1 : Int32)).toNatClampNeg (.double yh)), (.double 0)), (us1, kus1, .int, 4, [(.int r), (.int 0), (.int 0), (.int 0)], (.int 0)), (va, kva, (.array .int), 4, VL, (.null)), (ca, kca, (.array .double), 4, CL, (.null)), (la, kla, .int, 4, (((LL.set ro.toNatClampNeg (.int 1)).set r.toNatClampNeg (.int 1)).set r.toNatClampNeg (.int 2)), (.int 0)), (ua, kua, (.array .int), 3, [(.ref us0), (.ref us1), (.null)], (.null)), (uc, kuc, .int, 3, [(.int 2), (.int 1), (.int 0)], (.int 0)), (sa, ksa, .int, 3, [(.int ((0 + 1) + 1)), (.int (0 + 1)), (.int 0)], (.int 0)), (rx, krx, .int, 2, [(.int (0 : Int32)), (.int (1 : Int32))], (.int 0)), (ry, kry, .double, 4, [(.double x0), (.double z0), (.double x1), (.double z1)], (.double 0)), (us0, kus0, .int, 4, [(.int ro), (.int r), (.int 0), (.int 0)], (.int 0)), (px, kpx, .int, 2, [(.int (0 : Int32)), (.int 0)], (.int 0)), (py, kpy, .double, 4, [(.double FP.dconst1), (.double FP.dconst1), (.double 0), (.double 0)], (.double 0))] := H.wr 0 rfl w1 A1
  refine o_aload 395 W at_393 rfl rfl ?_
  refine o_iconst 396 W (1) at_395 (by first | rfl | decide) ?_
  refine o_iloadN 397 W at_396 rfl ?_
  refine o_i2dQ 398 W  (hd := at_397) (K := fun t1 ht1 => ?_)
  have G0 : Arv Z _ mi kmi .double 3 [(.double t0), (.double 0), (.double 0)] (.double 0) := H.get 0 rfl
  refine o_dastore 399 1 W G0 (by decide) rfl (by simp) (H.new? 0 rfl) at_398 (fun T h W w1 A1 => ?_)
  have OBJ := OBJ.wr (tw hw 6) (H.get 0 rfl) w1
  have H : HM Z h [(mi, kmi, .double, 3, [(.double t0), (.double t1), (.double 0)], (.double 0)), (ea, kea, .double, 8, (((([(.double 0), (.double 0), (.double 0), (.double 0), (.double 0), (.double 0), (.double 0), (.double 0)].set ((2 : Int32) * ro).toNatClampNeg (.double (4602678819172646912 : UInt64))).set (((2 : Int32) * ro) + (1 : Int32)).toNatClampNeg (.double yo)).set ((2 : Int32) * r).toNatClampNeg (.double xl)).set (((2 : Int32) * r) + (1 : Int32)).toNatClampNeg (.double yh)), (.double 0)), (us1, kus1, .int, 4, [(.int r), (.int 0), (.int 0), (.int 0)], (.int 0)), (va, kva, (.array .int), 4, VL, (.null)), (ca, kca, (.array .double), 4, CL, (.null)), (la, kla, .int, 4, (((LL.set ro.toNatClampNeg (.int 1)).set r.toNatClampNeg (.int 1)).set r.toNatClampNeg (.int 2)), (.int 0)), (ua, kua, (.array .int), 3, [(.ref us0), (.ref us1), (.null)], (.null)), (uc, kuc, .int, 3, [(.int 2), (.int 1), (.int 0)], (.int 0)), (sa, ksa, .int, 3, [(.int ((0 + 1) + 1)), (.int (0 + 1)), (.int 0)], (.int 0)), (rx, krx, .int, 2, [(.int (0 : Int32)), (.int (1 : Int32))], (.int 0)), (ry, kry, .double, 4, [(.double x0), (.double z0), (.double x1), (.double z1)], (.double 0)), (us0, kus0, .int, 4, [(.int ro), (.int r), (.int 0), (.int 0)], (.int 0)), (px, kpx, .int, 2, [(.int (0 : Int32)), (.int 0)], (.int 0)), (py, kpy, .double, 4, [(.double FP.dconst1), (.double FP.dconst1), (.double 0), (.double 0)], (.double 0))] := H.wr 0 rfl w1 A1
  refine o_aload 401 W at_399 rfl rfl ?_
  refine o_iconst 402 W (2) at_401 (by first | rfl | decide) ?_
  refine o_iloadN 403 W at_402 rfl ?_
  refine o_i2dQ 404 W  (hd := at_403) (K := fun t2 ht2 => ?_)
  have G0 : Arv Z _ mi kmi .double 3 [(.double t0), (.double t1), (.double 0)] (.double 0) := H.get 0 rfl
  refine o_dastore 405 2 W G0 (by decide) rfl (by simp) (H.new? 0 rfl) at_404 (fun T h W w1 A1 => ?_)
  have OBJ := OBJ.wr (tw hw 6) (H.get 0 rfl) w1
  have H : HM Z h [(mi, kmi, .double, 3, [(.double t0), (.double t1), (.double t2)], (.double 0)), (ea, kea, .double, 8, (((([(.double 0), (.double 0), (.double 0), (.double 0), (.double 0), (.double 0), (.double 0), (.double 0)].set ((2 : Int32) * ro).toNatClampNeg (.double (4602678819172646912 : UInt64))).set (((2 : Int32) * ro) + (1 : Int32)).toNatClampNeg (.double yo)).set ((2 : Int32) * r).toNatClampNeg (.double xl)).set (((2 : Int32) * r) + (1 : Int32)).toNatClampNeg (.double yh)), (.double 0)), (us1, kus1, .int, 4, [(.int r), (.int 0), (.int 0), (.int 0)], (.int 0)), (va, kva, (.array .int), 4, VL, (.null)), (ca, kca, (.array .double), 4, CL, (.null)), (la, kla, .int, 4, (((LL.set ro.toNatClampNeg (.int 1)).set r.toNatClampNeg (.int 1)).set r.toNatClampNeg (.int 2)), (.int 0)), (ua, kua, (.array .int), 3, [(.ref us0), (.ref us1), (.null)], (.null)), (uc, kuc, .int, 3, [(.int 2), (.int 1), (.int 0)], (.int 0)), (sa, ksa, .int, 3, [(.int ((0 + 1) + 1)), (.int (0 + 1)), (.int 0)], (.int 0)), (rx, krx, .int, 2, [(.int (0 : Int32)), (.int (1 : Int32))], (.int 0)), (ry, kry, .double, 4, [(.double x0), (.double z0), (.double x1), (.double z1)], (.double 0)), (us0, kus0, .int, 4, [(.int ro), (.int r), (.int 0), (.int 0)], (.int 0)), (px, kpx, .int, 2, [(.int (0 : Int32)), (.int 0)], (.int 0)), (py, kpy, .double, 4, [(.double FP.dconst1), (.double FP.dconst1), (.double 0), (.double 0)], (.double 0))] := H.wr 0 rfl w1 A1
  obtain ⟨to, hto, hmo, ho, hq0, hq1, hq2⟩ : ∃ to, DQ 0 qo.toInt to ∧ ([(.double t0), (.double t1), (.double t2)] : List Value).getD ow.toNatClampNeg (.double 0) = .double to ∧ (¬ ow < 0 ∧ ow < 3) ∧ (ow = 0 → qo = n0) ∧ (ow = 1 → qo = n1) ∧ (ow = 2 → qo = n2) := by
    rcases how with ⟨rfl, rfl⟩ | ⟨rfl, rfl⟩ | ⟨rfl, rfl⟩
    · exact ⟨t0, ht0, rfl, by decide, fun _ => rfl, fun q => absurd q (by decide), fun q => absurd q (by decide)⟩
    · exact ⟨t1, ht1, rfl, by decide, fun q => absurd q (by decide), fun _ => rfl, fun q => absurd q (by decide)⟩
    · exact ⟨t2, ht2, rfl, by decide, fun q => absurd q (by decide), fun q => absurd q (by decide), fun _ => rfl⟩
  refine Go.cutW W (g' := (mkF m 428 #[.val (.int n0), .val (.int n1), .val (.int n2), .val (.int n3), .val (.int n4), .val (.int f0), .val (.int g0), .val (.int f1), .val (.int g1), .val (.int f2), .val (.int g2), .val (.int (1 : Int32)), .val (.int (1 : Int32)), .val (.int (0 : Int32)), .val (.int r), .val (.int ro), .val (.int dr), .val (.int ow), .val (.int pr), .val (.int se), .val (.int hf), .val (.int rs), .val (.int dm), .val (.int el), .val (.int eh), .val (.ref o), .val (.ref mi), .unset, .unset, .unset, .unset] [(.long qo.toInt64)])) (fun J => ?_) (fun T W => ?_)
  · refine o_iload 407 W at_405 rfl ?_
    refine o_ifne 415 410 W at_407 (fun c407 => ?_) (fun c407 => ?_)
    · refine o_iload 417 W at_415 rfl ?_
      refine o_iconst 418 W (1) at_417 (by first | rfl | decide) ?_
      refine o_icne 426 421 W at_418 (fun c418 => ?_) (fun c418 => ?_)
      · refine o_iloadN 427 W at_426 rfl ?_
        refine o_i2l 428 W at_427 ?_
        rcases how with ⟨z1, z2⟩ | ⟨z1, z2⟩ | ⟨z1, z2⟩
        · exact absurd z1 c407
        · exact absurd z1 c418
        · rw [z2] at J; exact J T W
      · refine o_iloadN 422 W at_421 rfl ?_
        refine o_i2l 423 W at_422 ?_
        refine o_goto 428 W at_423 ?_
        rw [hq1 c418] at J
        exact J T W
    · refine o_iloadN 411 W at_410 rfl ?_
      refine o_i2l 412 W at_411 ?_
      refine o_goto 428 W at_412 ?_
      rw [hq0 c407] at J
      exact J T W
  refine o_lstore 430 W #[.val (.int n0), .val (.int n1), .val (.int n2), .val (.int n3), .val (.int n4), .val (.int f0), .val (.int g0), .val (.int f1), .val (.int g1), .val (.int f2), .val (.int g2), .val (.int (1 : Int32)), .val (.int (1 : Int32)), .val (.int (0 : Int32)), .val (.int r), .val (.int ro), .val (.int dr), .val (.int ow), .val (.int pr), .val (.int se), .val (.int hf), .val (.int rs), .val (.int dm), .val (.int el), .val (.int eh), .val (.ref o), .val (.ref mi), .val (.long qo.toInt64), .second, .unset, .unset] at_428 rfl ?_
  refine o_iload 432 W at_430 rfl ?_
  refine o_ifN 435 W at_432 (XT.i0_eq_f (by decide)) ?_
  refine o_iload 437 W at_435 rfl ?_
  refine o_iload 439 W at_437 rfl ?_
  refine o_iadd 440 W at_439 ?_
  refine o_i2l 441 W at_440 ?_
  refine o_iloadN 442 W at_441 rfl ?_
  refine o_i2l 443 W at_442 ?_
  refine o_lmul 444 W at_443 ?_
  have hp0 := own_lm (f := f0) (g := g0) (q := n0) rfl rfl bf0 bg0
  have pb0 := own_pbn (s := f0.toInt + g0.toInt) (q := n0.toInt) (by omega) (by omega) (by have := own_i31 n0; omega) (by have := own_i31 n0; omega)
  generalize (((f0 + g0).toInt64) * (n0.toInt64)) = p0 at hp0 ⊢
  refine o_goto 448 W at_444 ?_
  refine o_iload 450 W at_448 rfl ?_
  refine o_ifN 453 W at_450 (XT.i0_eq_f (by decide)) ?_
  refine o_iload 455 W at_453 rfl ?_
  refine o_iload 457 W at_455 rfl ?_
  refine o_iadd 458 W at_457 ?_
  refine o_i2l 459 W at_458 ?_
  refine o_iloadN 460 W at_459 rfl ?_
  refine o_i2l 461 W at_460 ?_
  refine o_lmul 462 W at_461 ?_
  have hp1 := own_lm (f := f1) (g := g1) (q := n1) rfl rfl bf1 bg1
  have pb1 := own_pbn (s := f1.toInt + g1.toInt) (q := n1.toInt) (by omega) (by omega) (by have := own_i31 n1; omega) (by have := own_i31 n1; omega)
  generalize (((f1 + g1).toInt64) * (n1.toInt64)) = p1 at hp1 ⊢
  refine o_goto 466 W at_462 ?_
  refine o_ladd 467 W at_466 ?_
  have hr1 := own_ladd hp0 hp1 (by omega)
  generalize (p0 + p1) = r1 at hr1 ⊢
  refine o_iload 469 W at_467 rfl ?_
  refine o_ifY 484 W at_469 (XT.i0_eq_t (by decide)) ?_
  refine o_lconst 485 W (0) at_484 (by first | rfl | decide) ?_
  have hp2 : (0 : Int64).toInt = 0 := rfl
  refine o_ladd 486 W at_485 ?_
  have hr2 := own_ladd hr1 hp2 (by omega)
  generalize (r1 + (0 : Int64)) = r2 at hr2 ⊢
  refine o_ldc2J 489 W (tw hw 86) at_486 ?_
  refine o_lload 491 W at_489 rfl ?_
  refine o_lmul 492 W at_491 ?_
  have h64 := own_l64 qo
  have bqo := own_i31 qo
  generalize ((64 : Int64) * qo.toInt64) = p9 at h64 ⊢
  refine o_lsub 493 W at_492 ?_
  have href := own_lsub hr2 h64 (by omega)
  generalize (r2 - p9) = rf at href ⊢
  refine o_lstore 495 W #[.val (.int n0), .val (.int n1), .val (.int n2), .val (.int n3), .val (.int n4), .val (.int f0), .val (.int g0), .val (.int f1), .val (.int g1), .val (.int f2), .val (.int g2), .val (.int (1 : Int32)), .val (.int (1 : Int32)), .val (.int (0 : Int32)), .val (.int r), .val (.int ro), .val (.int dr), .val (.int ow), .val (.int pr), .val (.int se), .val (.int hf), .val (.int rs), .val (.int dm), .val (.int el), .val (.int eh), .val (.ref o), .val (.ref mi), .val (.long qo.toInt64), .second, .val (.long rf), .second] at_493 rfl ?_
  refine o_aload 497 W at_495 rfl rfl ?_
  refine o_iload 499 W at_497 rfl ?_
  refine o_iload 501 W at_499 rfl ?_
  refine o_aload 503 W at_501 rfl rfl ?_
  have H : HM Z h [(va, kva, (.array .int), 4, VL, (.null)), (ca, kca, (.array .double), 4, CL, (.null)), (la, kla, .int, 4, (((LL.set ro.toNatClampNeg (.int 1)).set r.toNatClampNeg (.int 1)).set r.toNatClampNeg (.int 2)), (.int 0)), (rx, krx, .int, 2, [(.int (0 : Int32)), (.int (1 : Int32))], (.int 0)), (ry, kry, .double, 4, [(.double x0), (.double z0), (.double x1), (.double z1)], (.double 0)), (mi, kmi, .double, 3, [(.double t0), (.double t1), (.double t2)], (.double 0)), (ea, kea, .double, 8, (((([(.double 0), (.double 0), (.double 0), (.double 0), (.double 0), (.double 0), (.double 0), (.double 0)].set ((2 : Int32) * ro).toNatClampNeg (.double (4602678819172646912 : UInt64))).set (((2 : Int32) * ro) + (1 : Int32)).toNatClampNeg (.double yo)).set ((2 : Int32) * r).toNatClampNeg (.double xl)).set (((2 : Int32) * r) + (1 : Int32)).toNatClampNeg (.double yh)), (.double 0)), (us1, kus1, .int, 4, [(.int r), (.int 0), (.int 0), (.int 0)], (.int 0)), (ua, kua, (.array .int), 3, [(.ref us0), (.ref us1), (.null)], (.null)), (uc, kuc, .int, 3, [(.int 2), (.int 1), (.int 0)], (.int 0)), (sa, ksa, .int, 3, [(.int ((0 + 1) + 1)), (.int (0 + 1)), (.int 0)], (.int 0)), (us0, kus0, .int, 4, [(.int ro), (.int r), (.int 0), (.int 0)], (.int 0)), (px, kpx, .int, 2, [(.int (0 : Int32)), (.int 0)], (.int 0)), (py, kpy, .double, 4, [(.double FP.dconst1), (.double FP.dconst1), (.double 0), (.double 0)], (.double 0))] := (((((((H.front 1 rfl).front 1 rfl).front 10 rfl).front 10 rfl).front 7 rfl).front 7 rfl).front 7 rfl)
  refine o_virtual 506 [(.int r), (.int ow), (.ref mi)] W (tw hw 87) (tw hw 88) (tw hw 90) (tw hw 89) (tw hw 7) (tw hw 91) (OBJ.1) (con_mc2 l Z b0 hw o va ca la ka ea la2 ua uc sa ev er so rx ry mi kva kca kla kka kea kla2 kua kuc ksa kev ker kso krx kry kmi rcv r ow VL CL (((LL.set ro.toNatClampNeg (.int 1)).set r.toNatClampNeg (.int 1)).set r.toNatClampNeg (.int 2)) [(.double t0), (.double t1), (.double t2)] (((([(.double 0), (.double 0), (.double 0), (.double 0), (.double 0), (.double 0), (.double 0), (.double 0)].set ((2 : Int32) * ro).toNatClampNeg (.double (4602678819172646912 : UInt64))).set (((2 : Int32) * ro) + (1 : Int32)).toNatClampNeg (.double yo)).set ((2 : Int32) * r).toNatClampNeg (.double xl)).set (((2 : Int32) * r) + (1 : Int32)).toNatClampNeg (.double yh))  r4 hV hC (own_gset (by simp [rr, lL])) kr0 kr1 xl yh to el.toInt eh.toInt qo.toInt hxl hyh hto ⟨bel.1, bel.2, beh.1, beh.2, bqo.1, (by omega)⟩ ((own_gsetne xr0r1.symm).trans (own_gset (by simp [qr0]))) (own_gset (by simp [qr1])) ho hmo 0 x0 z0 t0 f0.toInt g0.toInt n0.toInt hx0 hz0 ht0 ⟨bf0.1, (by omega), bg0.1, (by omega), (own_i31 _).1, (by have := own_i31 n0; omega)⟩ (by decide) rfl (fun q => by rw [hq0 q.symm]) 1 x1 z1 t1 f1.toInt g1.toInt n1.toInt hx1 hz1 ht1 ⟨bf1.1, (by omega), bg1.1, (by omega), (own_i31 _).1, (by have := own_i31 n1; omega)⟩ (by decide) rfl (fun q => by rw [hq1 q.symm]) _ W.old OBJ (HM.split (P := [_, _, _, _, _, _, _]) H).1) pd7 at_503 rfl all0 (fun T h v W qq gg => ?_)
  obtain ⟨_, rfl, sm, rfl, hsm, rfl⟩ := qq
  show Go p e below _ _ (mkF m 506 #[.val (.int n0), .val (.int n1), .val (.int n2), .val (.int n3), .val (.int n4), .val (.int f0), .val (.int g0), .val (.int f1), .val (.int g1), .val (.int f2), .val (.int g2), .val (.int (1 : Int32)), .val (.int (1 : Int32)), .val (.int (0 : Int32)), .val (.int r), .val (.int ro), .val (.int dr), .val (.int ow), .val (.int pr), .val (.int se), .val (.int hf), .val (.int rs), .val (.int dm), .val (.int el), .val (.int eh), .val (.ref o), .val (.ref mi), .val (.long qo.toInt64), .second, .val (.long rf), .second] [(.double sm)])
  have hS : ((-(el.toInt + eh.toInt) * qo.toInt + (f0.toInt + g0.toInt) * (n0.toInt - qo.toInt)) + (f1.toInt + g1.toInt) * (n1.toInt - qo.toInt)) = (f0.toInt + g0.toInt) * n0.toInt + (f1.toInt + g1.toInt) * n1.toInt + 0 - 64 * qo.toInt := by
    have e9 : el.toInt = 64 - ((f0.toInt + g0.toInt) + (f1.toInt + g1.toInt)) - eh.toInt := by omega
    rw [e9]
    simp only [Int.mul_sub, Int.sub_mul, Int.add_mul, Int.neg_mul, Int.zero_mul]
    omega
  rw [hS, ← href] at hsm
  have bS : -1000000000000 ≤ rf.toInt ∧ rf.toInt ≤ 1000000000000 := by rw [href]; omega
  refine o_ldc2D 509 W (tw hw 93) at_506 ?_
  refine o_dmulQ 510 W hsm own_64 (by omega) (hd := at_509) (K := fun ym hym => ?_)
  refine o_lload 512 W at_510 rfl ?_
  refine o_l2dQ 513 W (by omega) (hd := at_512) (K := fun yr hyr => ?_)
  have hyu := hyr.up 6
  refine o_dcmpQ 514 W hym hyu at_513 ?_
  refine o_ifN 517 W at_514 (XT.i0_ne_f ((own_c0 _ _).mpr (by first | rfl | omega))) ?_
  refine o_iconst 518 W (1) at_517 (by first | rfl | decide) ?_
  refine o_goto 522 W at_518 ?_
  exact o_nret W (1 : Int32) (by simp) (by decide) at_522 (rfl)
theorem own_tail4 (l : Launch) (Z : State) (b0 : Array Value) (hw : ∀ d ∈ tables_1, d.before b0 Z = true) {p : Program} {e : Env} {s : State} {m : MethodId} {args : Array Value} {below : List Frame} {meth : Method} {c : Code} {T : State} {h : Heap} {sf : List Addr} (n0 n1 n2 n3 n4 f0 g0 f1 g1 f2 g2 r ro dr ow pr se hf rs dm el eh qo : Int32) (o va ca la ka ea la2 ua uc sa ev er so px py rx ry : Addr) (kva kca kla kka kea kla2 kua kuc ksa kev ker kso kpx kpy krx kry : ClassId) (rcv : Value) (VL CL LL : List Value) (r4 : ¬ r < 0 ∧ r < 4) (ro4 : ¬ ro < 0 ∧ ro < 4) (hne : ro.toNatClampNeg ≠ r.toNatClampNeg) (xr0r1 : ((2 : Int32) * r).toNatClampNeg ≠ (((2 : Int32) * r) + (1 : Int32)).toNatClampNeg) (xro0r0 : ((2 : Int32) * ro).toNatClampNeg ≠ ((2 : Int32) * r).toNatClampNeg) (xro0r1 : ((2 : Int32) * ro).toNatClampNeg ≠ (((2 : Int32) * r) + (1 : Int32)).toNatClampNeg) (xro0ro1 : ((2 : Int32) * ro).toNatClampNeg ≠ (((2 : Int32) * ro) + (1 : Int32)).toNatClampNeg) (xro1r0 : (((2 : Int32) * ro) + (1 : Int32)).toNatClampNeg ≠ ((2 : Int32) * r).toNatClampNeg) (xro1r1 : (((2 : Int32) * ro) + (1 : Int32)).toNatClampNeg ≠ (((2 : Int32) * r) + (1 : Int32)).toNatClampNeg) (kr0 : ¬ ((2 : Int32) * r) < 0 ∧ ((2 : Int32) * r) < 8) (kr1 : ¬ (((2 : Int32) * r) + (1 : Int32)) < 0 ∧ (((2 : Int32) * r) + (1 : Int32)) < 8) (kro0 : ¬ ((2 : Int32) * ro) < 0 ∧ ((2 : Int32) * ro) < 8) (kro1 : ¬ (((2 : Int32) * ro) + (1 : Int32)) < 0 ∧ (((2 : Int32) * ro) + (1 : Int32)) < 8) (lV : VL.length = 4) (lC : CL.length = 4) (lL : LL.length = 4) (hV : VL.getD r.toNatClampNeg (.null) = .ref rx) (hVo : VL.getD ro.toNatClampNeg (.null) = .ref px) (hC : CL.getD r.toNatClampNeg (.null) = .ref ry) (hCo : CL.getD ro.toNatClampNeg (.null) = .ref py) (hL : LL.getD r.toNatClampNeg (.int 0) = .int 0) (hLo : LL.getD ro.toNatClampNeg (.int 0) = .int 0) (bf0 : 0 ≤ f0.toInt ∧ f0.toInt ≤ 20) (bg0 : 0 ≤ g0.toInt ∧ g0.toInt ≤ 20) (bf1 : 0 ≤ f1.toInt ∧ f1.toInt ≤ 20) (bg1 : 0 ≤ g1.toInt ∧ g1.toInt ≤ 20) (bf2 : 0 ≤ f2.toInt ∧ f2.toInt ≤ 20) (bg2 : 0 ≤ g2.toInt ∧ g2.toInt ≤ 20) (bel : 0 ≤ el.toInt ∧ el.toInt ≤ 32) (beh : 0 ≤ eh.toInt ∧ eh.toInt ≤ 32) (hee : el.toInt + eh.toInt = 64 - ((f2.toInt + g2.toInt))) (how : ow = 0 ∧ qo = n0 ∨ ow = 1 ∧ qo = n1 ∨ ow = 2 ∧ qo = n2) (Ova : OvrA Z kva .int "[I") (Oca : OvrA Z kca .double "[D") (Oua : OvrA Z kua .int "[I") (zo : Z.heap.size ≤ o) (W : Wk p l e room_1 s m args below meth c Z x code maxLocals ret T h 17 107 sf) (OBJ : OB Z h o "com/example/markov_reachability/markovreachability/IntervalEquations" [("ceiling", "D", (.double FP.dconst1)), ("variables", "[[I", (.ref va)), ("coefficients", "[[D", (.ref ca)), ("length", "[I", (.ref la)), ("constant", "[D", (.ref ka)), ("exit", "[D", (.ref ea)), ("eliminating", "[Z", (.ref la2)), ("users", "[[I", (.ref ua)), ("userCount", "[I", (.ref uc)), ("substitutable", "[I", (.ref sa)), ("eliminatedVariable", "[I", (.ref ev)), ("eliminatedRow", "[I", (.ref er)), ("slot", "[I", (.ref so)), ("rowCount", "I", rcv)]) (H : HM Z h [(va, kva, (.array .int), 4, VL, (.null)), (ca, kca, (.array .double), 4, CL, (.null)), (la, kla, .int, 4, LL, (.int 0)), (ua, kua, (.array .int), 3, [(.null), (.null), (.null)], (.null)), (uc, kuc, .int, 3, [(.int 0), (.int 0), (.int 0)], (.int 0)), (sa, ksa, .int, 3, [(.int 0), (.int 0), (.int 0)], (.int 0)), (px, kpx, .int, 2, [(.int 0), (.int 0)], (.int 0)), (py, kpy, .double, 4, [(.double 0), (.double 0), (.double 0), (.double 0)], (.double 0)), (rx, krx, .int, 2, [(.int 0), (.int 0)], (.int 0)), (ry, kry, .double, 4, [(.double 0), (.double 0), (.double 0), (.double 0)], (.double 0)), (ea, kea, .double, 8, [(.double 0), (.double 0), (.double 0), (.double 0), (.double 0), (.double 0), (.double 0), (.double 0)], (.double 0))]) : Go p e below (Gd s below Z (QV fun w h => w = .int 1) (room_1).cells (room_1).slots) T (mkF m 259 #[.val (.int n0), .val (.int n1), .val (.int n2), .val (.int n3), .val (.int n4), .val (.int f0), .val (.int g0), .val (.int f1), .val (.int g1), .val (.int f2), .val (.int g2), .val (.int (0 : Int32)), .val (.int (0 : Int32)), .val (.int (1 : Int32)), .val (.int r), .val (.int ro), .val (.int dr), .val (.int ow), .val (.int pr), .val (.int se), .val (.int hf), .val (.int rs), .val (.int dm), .val (.int el), .val (.int eh), .val (.ref o), .unset, .unset, .unset, .unset, .unset] []) := by
  have rr := own_r4 r4
  have qr := own_r4 ro4
  have qr0 := own_r8 kr0
  have qr1 := own_r8 kr1
  have qro0 := own_r8 kro0
  have qro1 := own_r8 kro1
  refine o_aload 261 W at_259 rfl rfl ?_
  refine o_iload 263 W at_261 rfl ?_
  refine o_iconst 264 W (0) at_263 (by first | rfl | decide) ?_
  refine o_dconst1 265 W at_264 ?_
  refine o_dconst1 266 W at_265 ?_
  have H : HM Z h [(va, kva, (.array .int), 4, VL, (.null)), (ca, kca, (.array .double), 4, CL, (.null)), (la, kla, .int, 4, LL, (.int 0)), (ua, kua, (.array .int), 3, [(.null), (.null), (.null)], (.null)), (uc, kuc, .int, 3, [(.int 0), (.int 0), (.int 0)], (.int 0)), (sa, ksa, .int, 3, [(.int 0), (.int 0), (.int 0)], (.int 0)), (px, kpx, .int, 2, [(.int 0), (.int 0)], (.int 0)), (py, kpy, .double, 4, [(.double 0), (.double 0), (.double 0), (.double 0)], (.double 0)), (rx, krx, .int, 2, [(.int 0), (.int 0)], (.int 0)), (ry, kry, .double, 4, [(.double 0), (.double 0), (.double 0), (.double 0)], (.double 0)), (ea, kea, .double, 8, [(.double 0), (.double 0), (.double 0), (.double 0), (.double 0), (.double 0), (.double 0), (.double 0)], (.double 0))] := ((((((((H.front 7 rfl).front 7 rfl).front 7 rfl).front 7 rfl).front 7 rfl).front 7 rfl).front 7 rfl).front 7 rfl)
  refine o_virtual 269 [(.int ro), (.int (0 : Int32)), (.double FP.dconst1), (.double FP.dconst1)] W (tw hw 60) (tw hw 61) (tw hw 63) (tw hw 62) (tw hw 7) (tw hw 64) (OBJ.1) (con_adcA0 l Z b0 hw o va ca la ka ea la2 ua uc sa ev er so px py kva kca kla kka kea kla2 kua kuc ksa kev ker kso kpx kpy rcv ro (0 : Int32) 0 FP.dconst1 FP.dconst1 VL CL LL [(.null), (.null), (.null)] [(.int 0), (.int 0), (.int 0)] [(.int 0), (.int 0), (.int 0)] (.int 0) (.int 0) (.double 0) (.double 0) (.double 0) (.double 0) ro4 (by decide) (by simp [lV]) (by simp [lC]) (by simp [lL]) (by simp) (by simp) (by simp) hVo hCo hLo rfl rfl rfl Ova Oca Oua _ W.old OBJ (HM.split (P := [_, _, _, _, _, _, _, _]) H).1) pd4 at_266 rfl all0 (fun T h v W qq gg => ?_)
  obtain ⟨rfl, Kc, OBJ1, us0, kus0, nus0, H1⟩ := qq
  show Go p e below _ _ (mkF m 269 #[.val (.int n0), .val (.int n1), .val (.int n2), .val (.int n3), .val (.int n4), .val (.int f0), .val (.int g0), .val (.int f1), .val (.int g1), .val (.int f2), .val (.int g2), .val (.int (0 : Int32)), .val (.int (0 : Int32)), .val (.int (1 : Int32)), .val (.int r), .val (.int ro), .val (.int dr), .val (.int ow), .val (.int pr), .val (.int se), .val (.int hf), .val (.int rs), .val (.int dm), .val (.int el), .val (.int eh), .val (.ref o), .unset, .unset, .unset, .unset, .unset] [])
  have H : HM Z h [(us0, kus0, .int, 4, [(.int ro), (.int 0), (.int 0), (.int 0)], (.int 0)), (va, kva, (.array .int), 4, VL, (.null)), (ca, kca, (.array .double), 4, CL, (.null)), (la, kla, .int, 4, (LL.set ro.toNatClampNeg (.int 1)), (.int 0)), (ua, kua, (.array .int), 3, ([(.null), (.null), (.null)].set (0 : Int32).toNatClampNeg (.ref us0)), (.null)), (uc, kuc, .int, 3, ([(.int 0), (.int 0), (.int 0)].set (0 : Int32).toNatClampNeg (.int 1)), (.int 0)), (sa, ksa, .int, 3, ([(.int 0), (.int 0), (.int 0)].set (0 : Int32).toNatClampNeg (.int (0 + 1))), (.int 0)), (px, kpx, .int, 2, [(.int (0 : Int32)), (.int 0)], (.int 0)), (py, kpy, .double, 4, [(.double FP.dconst1), (.double FP.dconst1), (.double 0), (.double 0)], (.double 0)), (rx, krx, .int, 2, [(.int 0), (.int 0)], (.int 0)), (ry, kry, .double, 4, [(.double 0), (.double 0), (.double 0), (.double 0)], (.double 0)), (ea, kea, .double, 8, [(.double 0), (.double 0), (.double 0), (.double 0), (.double 0), (.double 0), (.double 0), (.double 0)], (.double 0))] := HM.frame (P := [_, _, _, _, _, _, _, _]) H H1 Kc (by simp [HE.a, nus0])
  have OBJ := OBJ1
  have H : HM Z h [(us0, kus0, .int, 4, [(.int ro), (.int 0), (.int 0), (.int 0)], (.int 0)), (va, kva, (.array .int), 4, VL, (.null)), (ca, kca, (.array .double), 4, CL, (.null)), (la, kla, .int, 4, (LL.set ro.toNatClampNeg (.int 1)), (.int 0)), (ua, kua, (.array .int), 3, [(.ref us0), (.null), (.null)], (.null)), (uc, kuc, .int, 3, [(.int 1), (.int 0), (.int 0)], (.int 0)), (sa, ksa, .int, 3, [(.int (0 + 1)), (.int 0), (.int 0)], (.int 0)), (px, kpx, .int, 2, [(.int (0 : Int32)), (.int 0)], (.int 0)), (py, kpy, .double, 4, [(.double FP.dconst1), (.double FP.dconst1), (.double 0), (.double 0)], (.double 0)), (rx, krx, .int, 2, [(.int 0), (.int 0)], (.int 0)), (ry, kry, .double, 4, [(.double 0), (.double 0), (.double 0), (.double 0)], (.double 0)), (ea, kea, .double, 8, [(.double 0), (.double 0), (.double 0), (.double 0), (.double 0), (.double 0), (.double 0), (.double 0)], (.double 0))] := H
  refine o_aload 271 W at_269 rfl rfl ?_
  refine o_iload 273 W at_271 rfl ?_
  refine o_ldc2D 276 W (tw hw 69) at_273 ?_
  refine o_dconst1 277 W at_276 ?_
  have H : HM Z h [(ea, kea, .double, 8, [(.double 0), (.double 0), (.double 0), (.double 0), (.double 0), (.double 0), (.double 0), (.double 0)], (.double 0)), (us0, kus0, .int, 4, [(.int ro), (.int 0), (.int 0), (.int 0)], (.int 0)), (va, kva, (.array .int), 4, VL, (.null)), (ca, kca, (.array .double), 4, CL, (.null)), (la, kla, .int, 4, (LL.set ro.toNatClampNeg (.int 1)), (.int 0)), (ua, kua, (.array .int), 3, [(.ref us0), (.null), (.null)], (.null)), (uc, kuc, .int, 3, [(.int 1), (.int 0), (.int 0)], (.int 0)), (sa, ksa, .int, 3, [(.int (0 + 1)), (.int 0), (.int 0)], (.int 0)), (px, kpx, .int, 2, [(.int (0 : Int32)), (.int 0)], (.int 0)), (py, kpy, .double, 4, [(.double FP.dconst1), (.double FP.dconst1), (.double 0), (.double 0)], (.double 0)), (rx, krx, .int, 2, [(.int 0), (.int 0)], (.int 0)), (ry, kry, .double, 4, [(.double 0), (.double 0), (.double 0), (.double 0)], (.double 0))] := (H.front 11 rfl)
  refine o_virtual 280 [(.int ro), (.double (4602678819172646912 : UInt64)), (.double FP.dconst1)] W (tw hw 70) (tw hw 71) (tw hw 73) (tw hw 72) (tw hw 7) (tw hw 74) (OBJ.1) (con_adx l Z b0 hw o va ca la ka ea la2 ua uc sa ev er so kva kca kla kka kea kla2 kua kuc ksa kev ker kso rcv ro (4602678819172646912 : UInt64) FP.dconst1 [(.double 0), (.double 0), (.double 0), (.double 0), (.double 0), (.double 0), (.double 0), (.double 0)] own_half own_one5 (by omega) kro0 kro1 (by simp) (own_rep8 _ _) (own_rep8 _ _) xro0ro1 _ W.old OBJ zo (HM.split (P := [_]) H).1) pd6 at_277 rfl all0 (fun T h v W qq gg => ?_)
  obtain ⟨rfl, Kc, OBJ1, yo, hyo, H1⟩ := qq
  show Go p e below _ _ (mkF m 280 #[.val (.int n0), .val (.int n1), .val (.int n2), .val (.int n3), .val (.int n4), .val (.int f0), .val (.int g0), .val (.int f1), .val (.int g1), .val (.int f2), .val (.int g2), .val (.int (0 : Int32)), .val (.int (0 : Int32)), .val (.int (1 : Int32)), .val (.int r), .val (.int ro), .val (.int dr), .val (.int ow), .val (.int pr), .val (.int se), .val (.int hf), .val (.int rs), .val (.int dm), .val (.int el), .val (.int eh), .val (.ref o), .unset, .unset, .unset, .unset, .unset] [])
  have H : HM Z h [(ea, kea, .double, 8, (([(.double 0), (.double 0), (.double 0), (.double 0), (.double 0), (.double 0), (.double 0), (.double 0)].set ((2 : Int32) * ro).toNatClampNeg (.double (4602678819172646912 : UInt64))).set (((2 : Int32) * ro) + (1 : Int32)).toNatClampNeg (.double yo)), (.double 0)), (us0, kus0, .int, 4, [(.int ro), (.int 0), (.int 0), (.int 0)], (.int 0)), (va, kva, (.array .int), 4, VL, (.null)), (ca, kca, (.array .double), 4, CL, (.null)), (la, kla, .int, 4, (LL.set ro.toNatClampNeg (.int 1)), (.int 0)), (ua, kua, (.array .int), 3, [(.ref us0), (.null), (.null)], (.null)), (uc, kuc, .int, 3, [(.int 1), (.int 0), (.int 0)], (.int 0)), (sa, ksa, .int, 3, [(.int (0 + 1)), (.int 0), (.int 0)], (.int 0)), (px, kpx, .int, 2, [(.int (0 : Int32)), (.int 0)], (.int 0)), (py, kpy, .double, 4, [(.double FP.dconst1), (.double FP.dconst1), (.double 0), (.double 0)], (.double 0)), (rx, krx, .int, 2, [(.int 0), (.int 0)], (.int 0)), (ry, kry, .double, 4, [(.double 0), (.double 0), (.double 0), (.double 0)], (.double 0))] := HM.frame (P := [_]) H H1 Kc (by simp [HE.a])
  have OBJ := OBJ1
  refine o_iload 282 W at_280 rfl ?_
  refine o_ifY 307 W at_282 (XT.i0_eq_t (by decide)) ?_
  refine o_iload 309 W at_307 rfl ?_
  refine o_ifY 334 W at_309 (XT.i0_eq_t (by decide)) ?_
  refine o_iload 336 W at_334 rfl ?_
  refine o_ifN 339 W at_336 (XT.i0_eq_f (by decide)) ?_
  refine o_aload 341 W at_339 rfl rfl ?_
  refine o_iload 343 W at_341 rfl ?_
  refine o_iconst 344 W (2) at_343 (by first | rfl | decide) ?_
  refine o_iload 346 W at_344 rfl ?_
  refine o_i2dQ 347 W  (hd := at_346) (K := fun ux2 hux2 => ?_)
  refine o_ldc2D 350 W (tw hw 85) at_347 ?_
  refine o_ddivQ 351 W 5 hux2 own_32 (own_nb32 _) (hd := at_350) (K := fun x2 hx2 => ?_)
  refine o_iload 353 W at_351 rfl ?_
  refine o_i2dQ 354 W  (hd := at_353) (K := fun uz2 huz2 => ?_)
  refine o_ldc2D 357 W (tw hw 85) at_354 ?_
  refine o_ddivQ 358 W 5 huz2 own_32 (own_nb32 _) (hd := at_357) (K := fun z2 hz2 => ?_)
  have H : HM Z h [(va, kva, (.array .int), 4, VL, (.null)), (ca, kca, (.array .double), 4, CL, (.null)), (la, kla, .int, 4, (LL.set ro.toNatClampNeg (.int 1)), (.int 0)), (ua, kua, (.array .int), 3, [(.ref us0), (.null), (.null)], (.null)), (uc, kuc, .int, 3, [(.int 1), (.int 0), (.int 0)], (.int 0)), (sa, ksa, .int, 3, [(.int (0 + 1)), (.int 0), (.int 0)], (.int 0)), (rx, krx, .int, 2, [(.int 0), (.int 0)], (.int 0)), (ry, kry, .double, 4, [(.double 0), (.double 0), (.double 0), (.double 0)], (.double 0)), (ea, kea, .double, 8, (([(.double 0), (.double 0), (.double 0), (.double 0), (.double 0), (.double 0), (.double 0), (.double 0)].set ((2 : Int32) * ro).toNatClampNeg (.double (4602678819172646912 : UInt64))).set (((2 : Int32) * ro) + (1 : Int32)).toNatClampNeg (.double yo)), (.double 0)), (us0, kus0, .int, 4, [(.int ro), (.int 0), (.int 0), (.int 0)], (.int 0)), (px, kpx, .int, 2, [(.int (0 : Int32)), (.int 0)], (.int 0)), (py, kpy, .double, 4, [(.double FP.dconst1), (.double FP.dconst1), (.double 0), (.double 0)], (.double 0))] := ((((((((H.front 11 rfl).front 11 rfl).front 9 rfl).front 9 rfl).front 9 rfl).front 9 rfl).front 9 rfl).front 9 rfl)
  refine o_virtual 361 [(.int r), (.int (2 : Int32)), (.double x2), (.double z2)] W (tw hw 60) (tw hw 61) (tw hw 63) (tw hw 62) (tw hw 7) (tw hw 64) (OBJ.1) (con_adcA0 l Z b0 hw o va ca la ka ea la2 ua uc sa ev er so rx ry kva kca kla kka kea kla2 kua kuc ksa kev ker kso krx kry rcv r (2 : Int32) 0 x2 z2 VL CL (LL.set ro.toNatClampNeg (.int 1)) [(.ref us0), (.null), (.null)] [(.int 1), (.int 0), (.int 0)] [(.int (0 + 1)), (.int 0), (.int 0)] (.int 0) (.int 0) (.double 0) (.double 0) (.double 0) (.double 0) r4 (by decide) (by simp [lV]) (by simp [lC]) (by simp [lL]) (by simp) (by simp) (by simp) hV hC ((own_gsetne hne).trans hL) rfl rfl rfl Ova Oca Oua _ W.old OBJ (HM.split (P := [_, _, _, _, _, _, _, _]) H).1) pd4 at_358 rfl all0 (fun T h v W qq gg => ?_)
  obtain ⟨rfl, Kc, OBJ1, us2, kus2, nus2, H1⟩ := qq
  show Go p e below _ _ (mkF m 361 #[.val (.int n0), .val (.int n1), .val (.int n2), .val (.int n3), .val (.int n4), .val (.int f0), .val (.int g0), .val (.int f1), .val (.int g1), .val (.int f2), .val (.int g2), .val (.int (0 : Int32)), .val (.int (0 : Int32)), .val (.int (1 : Int32)), .val (.int r), .val (.int ro), .val (.int dr), .val (.int ow), .val (.int pr), .val (.int se), .val (.int hf), .val (.int rs), .val (.int dm), .val (.int el), .val (.int eh), .val (.ref o), .unset, .unset, .unset, .unset, .unset] [])
  have H : HM Z h [(us2, kus2, .int, 4, [(.int r), (.int 0), (.int 0), (.int 0)], (.int 0)), (va, kva, (.array .int), 4, VL, (.null)), (ca, kca, (.array .double), 4, CL, (.null)), (la, kla, .int, 4, ((LL.set ro.toNatClampNeg (.int 1)).set r.toNatClampNeg (.int 1)), (.int 0)), (ua, kua, (.array .int), 3, ([(.ref us0), (.null), (.null)].set (2 : Int32).toNatClampNeg (.ref us2)), (.null)), (uc, kuc, .int, 3, ([(.int 1), (.int 0), (.int 0)].set (2 : Int32).toNatClampNeg (.int 1)), (.int 0)), (sa, ksa, .int, 3, ([(.int (0 + 1)), (.int 0), (.int 0)].set (2 : Int32).toNatClampNeg (.int (0 + 1))), (.int 0)), (rx, krx, .int, 2, [(.int (2 : Int32)), (.int 0)], (.int 0)), (ry, kry, .double, 4, [(.double x2), (.double z2), (.double 0), (.double 0)], (.double 0)), (ea, kea, .double, 8, (([(.double 0), (.double 0), (.double 0), (.double 0), (.double 0), (.double 0), (.double 0), (.double 0)].set ((2 : Int32) * ro).toNatClampNeg (.double (4602678819172646912 : UInt64))).set (((2 : Int32) * ro) + (1 : Int32)).toNatClampNeg (.double yo)), (.double 0)), (us0, kus0, .int, 4, [(.int ro), (.int 0), (.int 0), (.int 0)], (.int 0)), (px, kpx, .int, 2, [(.int (0 : Int32)), (.int 0)], (.int 0)), (py, kpy, .double, 4, [(.double FP.dconst1), (.double FP.dconst1), (.double 0), (.double 0)], (.double 0))] := HM.frame (P := [_, _, _, _, _, _, _, _]) H H1 Kc (by simp [HE.a, nus2])
  have OBJ := OBJ1
  have H : HM Z h [(us2, kus2, .int, 4, [(.int r), (.int 0), (.int 0), (.int 0)], (.int 0)), (va, kva, (.array .int), 4, VL, (.null)), (ca, kca, (.array .double), 4, CL, (.null)), (la, kla, .int, 4, ((LL.set ro.toNatClampNeg (.int 1)).set r.toNatClampNeg (.int 1)), (.int 0)), (ua, kua, (.array .int), 3, [(.ref us0), (.null), (.ref us2)], (.null)), (uc, kuc, .int, 3, [(.int 1), (.int 0), (.int 1)], (.int 0)), (sa, ksa, .int, 3, [(.int (0 + 1)), (.int 0), (.int (0 + 1))], (.int 0)), (rx, krx, .int, 2, [(.int (2 : Int32)), (.int 0)], (.int 0)), (ry, kry, .double, 4, [(.double x2), (.double z2), (.double 0), (.double 0)], (.double 0)), (ea, kea, .double, 8, (([(.double 0), (.double 0), (.double 0), (.double 0), (.double 0), (.double 0), (.double 0), (.double 0)].set ((2 : Int32) * ro).toNatClampNeg (.double (4602678819172646912 : UInt64))).set (((2 : Int32) * ro) + (1 : Int32)).toNatClampNeg (.double yo)), (.double 0)), (us0, kus0, .int, 4, [(.int ro), (.int 0), (.int 0), (.int 0)], (.int 0)), (px, kpx, .int, 2, [(.int (0 : Int32)), (.int 0)], (.int 0)), (py, kpy, .double, 4, [(.double FP.dconst1), (.double FP.dconst1), (.double 0), (.double 0)], (.double 0))] := H
  refine o_aload 363 W at_361 rfl rfl ?_
  refine o_iload 365 W at_363 rfl ?_
  refine o_iload 367 W at_365 rfl ?_
  refine o_i2dQ 368 W  (hd := at_367) (K := fun uxl huxl => ?_)
  refine o_ldc2D 371 W (tw hw 85) at_368 ?_
  refine o_ddivQ 372 W 5 huxl own_32 (own_nb32 _) (hd := at_371) (K := fun xl hxl => ?_)
  refine o_iload 374 W at_372 rfl ?_
  refine o_i2dQ 375 W  (hd := at_374) (K := fun uxh huxh => ?_)
  refine o_ldc2D 378 W (tw hw 85) at_375 ?_
  refine o_ddivQ 379 W 5 huxh own_32 (own_nb32 _) (hd := at_378) (K := fun xh hxh => ?_)
  have H : HM Z h [(ea, kea, .double, 8, (([(.double 0), (.double 0), (.double 0), (.double 0), (.double 0), (.double 0), (.double 0), (.double 0)].set ((2 : Int32) * ro).toNatClampNeg (.double (4602678819172646912 : UInt64))).set (((2 : Int32) * ro) + (1 : Int32)).toNatClampNeg (.double yo)), (.double 0)), (us2, kus2, .int, 4, [(.int r), (.int 0), (.int 0), (.int 0)], (.int 0)), (va, kva, (.array .int), 4, VL, (.null)), (ca, kca, (.array .double), 4, CL, (.null)), (la, kla, .int, 4, ((LL.set ro.toNatClampNeg (.int 1)).set r.toNatClampNeg (.int 1)), (.int 0)), (ua, kua, (.array .int), 3, [(.ref us0), (.null), (.ref us2)], (.null)), (uc, kuc, .int, 3, [(.int 1), (.int 0), (.int 1)], (.int 0)), (sa, ksa, .int, 3, [(.int (0 + 1)), (.int 0), (.int (0 + 1))], (.int 0)), (rx, krx, .int, 2, [(.int (2 : Int32)), (.int 0)], (.int 0)), (ry, kry, .double, 4, [(.double x2), (.double z2), (.double 0), (.double 0)], (.double 0)), (us0, kus0, .int, 4, [(.int ro), (.int 0), (.int 0), (.int 0)], (.int 0)), (px, kpx, .int, 2, [(.int (0 : Int32)), (.int 0)], (.int 0)), (py, kpy, .double, 4, [(.double FP.dconst1), (.double FP.dconst1), (.double 0), (.double 0)], (.double 0))] := (H.front 9 rfl)
  refine o_virtual 382 [(.int r), (.double xl), (.double xh)] W (tw hw 70) (tw hw 71) (tw hw 73) (tw hw 72) (tw hw 7) (tw hw 74) (OBJ.1) (con_adx l Z b0 hw o va ca la ka ea la2 ua uc sa ev er so kva kca kla kka kea kla2 kua kuc ksa kev ker kso rcv r xl xh (([(.double 0), (.double 0), (.double 0), (.double 0), (.double 0), (.double 0), (.double 0), (.double 0)].set ((2 : Int32) * ro).toNatClampNeg (.double (4602678819172646912 : UInt64))).set (((2 : Int32) * ro) + (1 : Int32)).toNatClampNeg (.double yo)) hxl hxh beh.2 kr0 kr1 (by simp) ((own_gsetne xro1r0).trans ((own_gsetne xro0r0).trans (own_rep8 _ _))) ((own_gsetne xro1r1).trans ((own_gsetne xro0r1).trans (own_rep8 _ _))) xr0r1 _ W.old OBJ zo (HM.split (P := [_]) H).1) pd6 at_379 rfl all0 (fun T h v W qq gg => ?_)
  obtain ⟨rfl, Kc, OBJ1, yh, hyh, H1⟩ := qq
  show Go p e below _ _ (mkF m 382 #[.val (.int n0), .val (.int n1), .val (.int n2), .val (.int n3), .val (.int n4), .val (.int f0), .val (.int g0), .val (.int f1), .val (.int g1), .val (.int f2), .val (.int g2), .val (.int (0 : Int32)), .val (.int (0 : Int32)), .val (.int (1 : Int32)), .val (.int r), .val (.int ro), .val (.int dr), .val (.int ow), .val (.int pr), .val (.int se), .val (.int hf), .val (.int rs), .val (.int dm), .val (.int el), .val (.int eh), .val (.ref o), .unset, .unset, .unset, .unset, .unset] [])
  have H : HM Z h [(ea, kea, .double, 8, (((([(.double 0), (.double 0), (.double 0), (.double 0), (.double 0), (.double 0), (.double 0), (.double 0)].set ((2 : Int32) * ro).toNatClampNeg (.double (4602678819172646912 : UInt64))).set (((2 : Int32) * ro) + (1 : Int32)).toNatClampNeg (.double yo)).set ((2 : Int32) * r).toNatClampNeg (.double xl)).set (((2 : Int32) * r) + (1 : Int32)).toNatClampNeg (.double yh)), (.double 0)), (us2, kus2, .int, 4, [(.int r), (.int 0), (.int 0), (.int 0)], (.int 0)), (va, kva, (.array .int), 4, VL, (.null)), (ca, kca, (.array .double), 4, CL, (.null)), (la, kla, .int, 4, ((LL.set ro.toNatClampNeg (.int 1)).set r.toNatClampNeg (.int 1)), (.int 0)), (ua, kua, (.array .int), 3, [(.ref us0), (.null), (.ref us2)], (.null)), (uc, kuc, .int, 3, [(.int 1), (.int 0), (.int 1)], (.int 0)), (sa, ksa, .int, 3, [(.int (0 + 1)), (.int 0), (.int (0 + 1))], (.int 0)), (rx, krx, .int, 2, [(.int (2 : Int32)), (.int 0)], (.int 0)), (ry, kry, .double, 4, [(.double x2), (.double z2), (.double 0), (.double 0)], (.double 0)), (us0, kus0, .int, 4, [(.int ro), (.int 0), (.int 0), (.int 0)], (.int 0)), (px, kpx, .int, 2, [(.int (0 : Int32)), (.int 0)], (.int 0)), (py, kpy, .double, 4, [(.double FP.dconst1), (.double FP.dconst1), (.double 0), (.double 0)], (.double 0))] := HM.frame (P := [_]) H H1 Kc (by simp [HE.a])
  have OBJ := OBJ1
  refine o_iconst 383 W (3) at_382 (by first | rfl | decide) ?_
  refine o_newarray 385 3 W (tw hw 27) at_383 (by decide) (by decide) (fun T h mi kmi W Emi Ami gmi zmi => ?_)
  have Ami : Arv Z h mi kmi .double 3 [(.double 0), (.double 0), (.double 0)] (.double 0) := own_pad 3 Ami
  have OBJ := OBJ.ext Emi
  have H : HM Z h [(mi, kmi, .double, 3, [(.double 0), (.double 0), (.double 0)], (.double 0)), (ea, kea, .double, 8, (((([(.double 0), (.double 0), (.double 0), (.double 0), (.double 0), (.double 0), (.double 0), (.double 0)].set ((2 : Int32) * ro).toNatClampNeg (.double (4602678819172646912 : UInt64))).set (((2 : Int32) * ro) + (1 : Int32)).toNatClampNeg (.double yo)).set ((2 : Int32) * r).toNatClampNeg (.double xl)).set (((2 : Int32) * r) + (1 : Int32)).toNatClampNeg (.double yh)), (.double 0)), (us2, kus2, .int, 4, [(.int r), (.int 0), (.int 0), (.int 0)], (.int 0)), (va, kva, (.array .int), 4, VL, (.null)), (ca, kca, (.array .double), 4, CL, (.null)), (la, kla, .int, 4, ((LL.set ro.toNatClampNeg (.int 1)).set r.toNatClampNeg (.int 1)), (.int 0)), (ua, kua, (.array .int), 3, [(.ref us0), (.null), (.ref us2)], (.null)), (uc, kuc, .int, 3, [(.int 1), (.int 0), (.int 1)], (.int 0)), (sa, ksa, .int, 3, [(.int (0 + 1)), (.int 0), (.int (0 + 1))], (.int 0)), (rx, krx, .int, 2, [(.int (2 : Int32)), (.int 0)], (.int 0)), (ry, kry, .double, 4, [(.double x2), (.double z2), (.double 0), (.double 0)], (.double 0)), (us0, kus0, .int, 4, [(.int ro), (.int 0), (.int 0), (.int 0)], (.int 0)), (px, kpx, .int, 2, [(.int (0 : Int32)), (.int 0)], (.int 0)), (py, kpy, .double, 4, [(.double FP.dconst1), (.double FP.dconst1), (.double 0), (.double 0)], (.double 0))] := H.new Emi Ami gmi zmi
  refine o_astore 387 W #[.val (.int n0), .val (.int n1), .val (.int n2), .val (.int n3), .val (.int n4), .val (.int f0), .val (.int g0), .val (.int f1), .val (.int g1), .val (.int f2), .val (.int g2), .val (.int (0 : Int32)), .val (.int (0 : Int32)), .val (.int (1 : Int32)), .val (.int r), .val (.int ro), .val (.int dr), .val (.int ow), .val (.int pr), .val (.int se), .val (.int hf), .val (.int rs), .val (.int dm), .val (.int el), .val (.int eh), .val (.ref o), .val (.ref mi), .unset, .unset, .unset, .unset] at_385 rfl rfl ?_
  refine o_aload 389 W at_387 rfl rfl ?_
  refine o_iconst 390 W (0) at_389 (by first | rfl | decide) ?_
  refine o_iloadN 391 W at_390 rfl ?_
  refine o_i2dQ 392 W  (hd := at_391) (K := fun t0 ht0 => ?_)
  have G0 : Arv Z _ mi kmi .double 3 [(.double 0), (.double 0), (.double 0)] (.double 0) := H.get 0 rfl
  refine o_dastore 393 0 W G0 (by decide) rfl (by simp) (H.new? 0 rfl) at_392 (fun T h W w1 A1 => ?_)
  have OBJ := OBJ.wr (tw hw 6) (H.get 0 rfl) w1
  have H : HM Z h [(mi, kmi, .double, 3, [(.double t0), (.double 0), (.double 0)], (.double 0)), (ea, kea, .double, 8, (((([(.double 0), (.double 0), (.double 0), (.double 0), (.double 0), (.double 0), (.double 0), (.double 0)].set ((2 : Int32) * ro).toNatClampNeg (.double (4602678819172646912 : UInt64))).set (((2 : Int32) * ro) + (1 : Int32)).toNatClampNeg (.double yo)).set ((2 : Int32) * r).toNatClampNeg (.double xl)).set (((2 : Int32) * r) + (1 : Int32)).toNatClampNeg (.double yh)), (.double 0)), (us2, kus2, .int, 4, [(.int r), (.int 0), (.int 0), (.int 0)], (.int 0)), (va, kva, (.array .int), 4, VL, (.null)), (ca, kca, (.array .double), 4, CL, (.null)), (la, kla, .int, 4, ((LL.set ro.toNatClampNeg (.int 1)).set r.toNatClampNeg (.int 1)), (.int 0)), (ua, kua, (.array .int), 3, [(.ref us0), (.null), (.ref us2)], (.null)), (uc, kuc, .int, 3, [(.int 1), (.int 0), (.int 1)], (.int 0)), (sa, ksa, .int, 3, [(.int (0 + 1)), (.int 0), (.int (0 + 1))], (.int 0)), (rx, krx, .int, 2, [(.int (2 : Int32)), (.int 0)], (.int 0)), (ry, kry, .double, 4, [(.double x2), (.double z2), (.double 0), (.double 0)], (.double 0)), (us0, kus0, .int, 4, [(.int ro), (.int 0), (.int 0), (.int 0)], (.int 0)), (px, kpx, .int, 2, [(.int (0 : Int32)), (.int 0)], (.int 0)), (py, kpy, .double, 4, [(.double FP.dconst1), (.double FP.dconst1), (.double 0), (.double 0)], (.double 0))] := H.wr 0 rfl w1 A1
  refine o_aload 395 W at_393 rfl rfl ?_
  refine o_iconst 396 W (1) at_395 (by first | rfl | decide) ?_
  refine o_iloadN 397 W at_396 rfl ?_
  refine o_i2dQ 398 W  (hd := at_397) (K := fun t1 ht1 => ?_)
  have G0 : Arv Z _ mi kmi .double 3 [(.double t0), (.double 0), (.double 0)] (.double 0) := H.get 0 rfl
  refine o_dastore 399 1 W G0 (by decide) rfl (by simp) (H.new? 0 rfl) at_398 (fun T h W w1 A1 => ?_)
  have OBJ := OBJ.wr (tw hw 6) (H.get 0 rfl) w1
  have H : HM Z h [(mi, kmi, .double, 3, [(.double t0), (.double t1), (.double 0)], (.double 0)), (ea, kea, .double, 8, (((([(.double 0), (.double 0), (.double 0), (.double 0), (.double 0), (.double 0), (.double 0), (.double 0)].set ((2 : Int32) * ro).toNatClampNeg (.double (4602678819172646912 : UInt64))).set (((2 : Int32) * ro) + (1 : Int32)).toNatClampNeg (.double yo)).set ((2 : Int32) * r).toNatClampNeg (.double xl)).set (((2 : Int32) * r) + (1 : Int32)).toNatClampNeg (.double yh)), (.double 0)), (us2, kus2, .int, 4, [(.int r), (.int 0), (.int 0), (.int 0)], (.int 0)), (va, kva, (.array .int), 4, VL, (.null)), (ca, kca, (.array .double), 4, CL, (.null)), (la, kla, .int, 4, ((LL.set ro.toNatClampNeg (.int 1)).set r.toNatClampNeg (.int 1)), (.int 0)), (ua, kua, (.array .int), 3, [(.ref us0), (.null), (.ref us2)], (.null)), (uc, kuc, .int, 3, [(.int 1), (.int 0), (.int 1)], (.int 0)), (sa, ksa, .int, 3, [(.int (0 + 1)), (.int 0), (.int (0 + 1))], (.int 0)), (rx, krx, .int, 2, [(.int (2 : Int32)), (.int 0)], (.int 0)), (ry, kry, .double, 4, [(.double x2), (.double z2), (.double 0), (.double 0)], (.double 0)), (us0, kus0, .int, 4, [(.int ro), (.int 0), (.int 0), (.int 0)], (.int 0)), (px, kpx, .int, 2, [(.int (0 : Int32)), (.int 0)], (.int 0)), (py, kpy, .double, 4, [(.double FP.dconst1), (.double FP.dconst1), (.double 0), (.double 0)], (.double 0))] := H.wr 0 rfl w1 A1
  refine o_aload 401 W at_399 rfl rfl ?_
  refine o_iconst 402 W (2) at_401 (by first | rfl | decide) ?_
  refine o_iloadN 403 W at_402 rfl ?_
  refine o_i2dQ 404 W  (hd := at_403) (K := fun t2 ht2 => ?_)
  have G0 : Arv Z _ mi kmi .double 3 [(.double t0), (.double t1), (.double 0)] (.double 0) := H.get 0 rfl
  refine o_dastore 405 2 W G0 (by decide) rfl (by simp) (H.new? 0 rfl) at_404 (fun T h W w1 A1 => ?_)
  have OBJ := OBJ.wr (tw hw 6) (H.get 0 rfl) w1
  have H : HM Z h [(mi, kmi, .double, 3, [(.double t0), (.double t1), (.double t2)], (.double 0)), (ea, kea, .double, 8, (((([(.double 0), (.double 0), (.double 0), (.double 0), (.double 0), (.double 0), (.double 0), (.double 0)].set ((2 : Int32) * ro).toNatClampNeg (.double (4602678819172646912 : UInt64))).set (((2 : Int32) * ro) + (1 : Int32)).toNatClampNeg (.double yo)).set ((2 : Int32) * r).toNatClampNeg (.double xl)).set (((2 : Int32) * r) + (1 : Int32)).toNatClampNeg (.double yh)), (.double 0)), (us2, kus2, .int, 4, [(.int r), (.int 0), (.int 0), (.int 0)], (.int 0)), (va, kva, (.array .int), 4, VL, (.null)), (ca, kca, (.array .double), 4, CL, (.null)), (la, kla, .int, 4, ((LL.set ro.toNatClampNeg (.int 1)).set r.toNatClampNeg (.int 1)), (.int 0)), (ua, kua, (.array .int), 3, [(.ref us0), (.null), (.ref us2)], (.null)), (uc, kuc, .int, 3, [(.int 1), (.int 0), (.int 1)], (.int 0)), (sa, ksa, .int, 3, [(.int (0 + 1)), (.int 0), (.int (0 + 1))], (.int 0)), (rx, krx, .int, 2, [(.int (2 : Int32)), (.int 0)], (.int 0)), (ry, kry, .double, 4, [(.double x2), (.double z2), (.double 0), (.double 0)], (.double 0)), (us0, kus0, .int, 4, [(.int ro), (.int 0), (.int 0), (.int 0)], (.int 0)), (px, kpx, .int, 2, [(.int (0 : Int32)), (.int 0)], (.int 0)), (py, kpy, .double, 4, [(.double FP.dconst1), (.double FP.dconst1), (.double 0), (.double 0)], (.double 0))] := H.wr 0 rfl w1 A1
  obtain ⟨to, hto, hmo, ho, hq0, hq1, hq2⟩ : ∃ to, DQ 0 qo.toInt to ∧ ([(.double t0), (.double t1), (.double t2)] : List Value).getD ow.toNatClampNeg (.double 0) = .double to ∧ (¬ ow < 0 ∧ ow < 3) ∧ (ow = 0 → qo = n0) ∧ (ow = 1 → qo = n1) ∧ (ow = 2 → qo = n2) := by
    rcases how with ⟨rfl, rfl⟩ | ⟨rfl, rfl⟩ | ⟨rfl, rfl⟩
    · exact ⟨t0, ht0, rfl, by decide, fun _ => rfl, fun q => absurd q (by decide), fun q => absurd q (by decide)⟩
    · exact ⟨t1, ht1, rfl, by decide, fun q => absurd q (by decide), fun _ => rfl, fun q => absurd q (by decide)⟩
    · exact ⟨t2, ht2, rfl, by decide, fun q => absurd q (by decide), fun q => absurd q (by decide), fun _ => rfl⟩
  refine Go.cutW W (g' := (mkF m 428 #[.val (.int n0), .val (.int n1), .val (.int n2), .val (.int n3), .val (.int n4), .val (.int f0), .val (.int g0), .val (.int f1), .val (.int g1), .val (.int f2), .val (.int g2), .val (.int (0 : Int32)), .val (.int (0 : Int32)), .val (.int (1 : Int32)), .val (.int r), .val (.int ro), .val (.int dr), .val (.int ow), .val (.int pr), .val (.int se), .val (.int hf), .val (.int rs), .val (.int dm), .val (.int el), .val (.int eh), .val (.ref o), .val (.ref mi), .unset, .unset, .unset, .unset] [(.long qo.toInt64)])) (fun J => ?_) (fun T W => ?_)
  · refine o_iload 407 W at_405 rfl ?_
    refine o_ifne 415 410 W at_407 (fun c407 => ?_) (fun c407 => ?_)
    · refine o_iload 417 W at_415 rfl ?_
      refine o_iconst 418 W (1) at_417 (by first | rfl | decide) ?_
      refine o_icne 426 421 W at_418 (fun c418 => ?_) (fun c418 => ?_)
      · refine o_iloadN 427 W at_426 rfl ?_
        refine o_i2l 428 W at_427 ?_
        rcases how with ⟨z1, z2⟩ | ⟨z1, z2⟩ | ⟨z1, z2⟩
        · exact absurd z1 c407
        · exact absurd z1 c418
        · rw [z2] at J; exact J T W
      · refine o_iloadN 422 W at_421 rfl ?_
        refine o_i2l 423 W at_422 ?_
        refine o_goto 428 W at_423 ?_
        rw [hq1 c418] at J
        exact J T W
    · refine o_iloadN 411 W at_410 rfl ?_
      refine o_i2l 412 W at_411 ?_
      refine o_goto 428 W at_412 ?_
      rw [hq0 c407] at J
      exact J T W
  refine o_lstore 430 W #[.val (.int n0), .val (.int n1), .val (.int n2), .val (.int n3), .val (.int n4), .val (.int f0), .val (.int g0), .val (.int f1), .val (.int g1), .val (.int f2), .val (.int g2), .val (.int (0 : Int32)), .val (.int (0 : Int32)), .val (.int (1 : Int32)), .val (.int r), .val (.int ro), .val (.int dr), .val (.int ow), .val (.int pr), .val (.int se), .val (.int hf), .val (.int rs), .val (.int dm), .val (.int el), .val (.int eh), .val (.ref o), .val (.ref mi), .val (.long qo.toInt64), .second, .unset, .unset] at_428 rfl ?_
  refine o_iload 432 W at_430 rfl ?_
  refine o_ifY 447 W at_432 (XT.i0_eq_t (by decide)) ?_
  refine o_lconst 448 W (0) at_447 (by first | rfl | decide) ?_
  have hp0 : (0 : Int64).toInt = 0 := rfl
  refine o_iload 450 W at_448 rfl ?_
  refine o_ifY 465 W at_450 (XT.i0_eq_t (by decide)) ?_
  refine o_lconst 466 W (0) at_465 (by first | rfl | decide) ?_
  have hp1 : (0 : Int64).toInt = 0 := rfl
  refine o_ladd 467 W at_466 ?_
  have hr1 := own_ladd hp0 hp1 (by omega)
  generalize ((0 : Int64) + (0 : Int64)) = r1 at hr1 ⊢
  refine o_iload 469 W at_467 rfl ?_
  refine o_ifN 472 W at_469 (XT.i0_eq_f (by decide)) ?_
  refine o_iload 474 W at_472 rfl ?_
  refine o_iload 476 W at_474 rfl ?_
  refine o_iadd 477 W at_476 ?_
  refine o_i2l 478 W at_477 ?_
  refine o_iloadN 479 W at_478 rfl ?_
  refine o_i2l 480 W at_479 ?_
  refine o_lmul 481 W at_480 ?_
  have hp2 := own_lm (f := f2) (g := g2) (q := n2) rfl rfl bf2 bg2
  have pb2 := own_pbn (s := f2.toInt + g2.toInt) (q := n2.toInt) (by omega) (by omega) (by have := own_i31 n2; omega) (by have := own_i31 n2; omega)
  generalize (((f2 + g2).toInt64) * (n2.toInt64)) = p2 at hp2 ⊢
  refine o_goto 485 W at_481 ?_
  refine o_ladd 486 W at_485 ?_
  have hr2 := own_ladd hr1 hp2 (by omega)
  generalize (r1 + p2) = r2 at hr2 ⊢
  refine o_ldc2J 489 W (tw hw 86) at_486 ?_
  refine o_lload 491 W at_489 rfl ?_
  refine o_lmul 492 W at_491 ?_
  have h64 := own_l64 qo
  have bqo := own_i31 qo
  generalize ((64 : Int64) * qo.toInt64) = p9 at h64 ⊢
  refine o_lsub 493 W at_492 ?_
  have href := own_lsub hr2 h64 (by omega)
  generalize (r2 - p9) = rf at href ⊢
  refine o_lstore 495 W #[.val (.int n0), .val (.int n1), .val (.int n2), .val (.int n3), .val (.int n4), .val (.int f0), .val (.int g0), .val (.int f1), .val (.int g1), .val (.int f2), .val (.int g2), .val (.int (0 : Int32)), .val (.int (0 : Int32)), .val (.int (1 : Int32)), .val (.int r), .val (.int ro), .val (.int dr), .val (.int ow), .val (.int pr), .val (.int se), .val (.int hf), .val (.int rs), .val (.int dm), .val (.int el), .val (.int eh), .val (.ref o), .val (.ref mi), .val (.long qo.toInt64), .second, .val (.long rf), .second] at_493 rfl ?_
  refine o_aload 497 W at_495 rfl rfl ?_
  refine o_iload 499 W at_497 rfl ?_
  refine o_iload 501 W at_499 rfl ?_
  refine o_aload 503 W at_501 rfl rfl ?_
  have H : HM Z h [(va, kva, (.array .int), 4, VL, (.null)), (ca, kca, (.array .double), 4, CL, (.null)), (la, kla, .int, 4, ((LL.set ro.toNatClampNeg (.int 1)).set r.toNatClampNeg (.int 1)), (.int 0)), (rx, krx, .int, 2, [(.int (2 : Int32)), (.int 0)], (.int 0)), (ry, kry, .double, 4, [(.double x2), (.double z2), (.double 0), (.double 0)], (.double 0)), (mi, kmi, .double, 3, [(.double t0), (.double t1), (.double t2)], (.double 0)), (ea, kea, .double, 8, (((([(.double 0), (.double 0), (.double 0), (.double 0), (.double 0), (.double 0), (.double 0), (.double 0)].set ((2 : Int32) * ro).toNatClampNeg (.double (4602678819172646912 : UInt64))).set (((2 : Int32) * ro) + (1 : Int32)).toNatClampNeg (.double yo)).set ((2 : Int32) * r).toNatClampNeg (.double xl)).set (((2 : Int32) * r) + (1 : Int32)).toNatClampNeg (.double yh)), (.double 0)), (us2, kus2, .int, 4, [(.int r), (.int 0), (.int 0), (.int 0)], (.int 0)), (ua, kua, (.array .int), 3, [(.ref us0), (.null), (.ref us2)], (.null)), (uc, kuc, .int, 3, [(.int 1), (.int 0), (.int 1)], (.int 0)), (sa, ksa, .int, 3, [(.int (0 + 1)), (.int 0), (.int (0 + 1))], (.int 0)), (us0, kus0, .int, 4, [(.int ro), (.int 0), (.int 0), (.int 0)], (.int 0)), (px, kpx, .int, 2, [(.int (0 : Int32)), (.int 0)], (.int 0)), (py, kpy, .double, 4, [(.double FP.dconst1), (.double FP.dconst1), (.double 0), (.double 0)], (.double 0))] := (((((((H.front 1 rfl).front 1 rfl).front 10 rfl).front 10 rfl).front 7 rfl).front 7 rfl).front 7 rfl)
  refine o_virtual 506 [(.int r), (.int ow), (.ref mi)] W (tw hw 87) (tw hw 88) (tw hw 90) (tw hw 89) (tw hw 7) (tw hw 91) (OBJ.1) (con_mc1 l Z b0 hw o va ca la ka ea la2 ua uc sa ev er so rx ry mi kva kca kla kka kea kla2 kua kuc ksa kev ker kso krx kry kmi rcv r ow VL CL ((LL.set ro.toNatClampNeg (.int 1)).set r.toNatClampNeg (.int 1)) [(.double t0), (.double t1), (.double t2)] (((([(.double 0), (.double 0), (.double 0), (.double 0), (.double 0), (.double 0), (.double 0), (.double 0)].set ((2 : Int32) * ro).toNatClampNeg (.double (4602678819172646912 : UInt64))).set (((2 : Int32) * ro) + (1 : Int32)).toNatClampNeg (.double yo)).set ((2 : Int32) * r).toNatClampNeg (.double xl)).set (((2 : Int32) * r) + (1 : Int32)).toNatClampNeg (.double yh)) (.int 0) (.double 0) (.double 0) r4 hV hC (own_gset (by simp [rr, lL])) kr0 kr1 xl yh to el.toInt eh.toInt qo.toInt hxl hyh hto ⟨bel.1, bel.2, beh.1, beh.2, bqo.1, (by omega)⟩ ((own_gsetne xr0r1.symm).trans (own_gset (by simp [qr0]))) (own_gset (by simp [qr1])) ho hmo 2 x2 z2 t2 f2.toInt g2.toInt n2.toInt hx2 hz2 ht2 ⟨bf2.1, (by omega), bg2.1, (by omega), (own_i31 _).1, (by have := own_i31 n2; omega)⟩ (by decide) rfl (fun q => by rw [hq2 q.symm]) _ W.old OBJ (HM.split (P := [_, _, _, _, _, _, _]) H).1) pd7 at_503 rfl all0 (fun T h v W qq gg => ?_)
  obtain ⟨_, rfl, sm, rfl, hsm, rfl⟩ := qq
  show Go p e below _ _ (mkF m 506 #[.val (.int n0), .val (.int n1), .val (.int n2), .val (.int n3), .val (.int n4), .val (.int f0), .val (.int g0), .val (.int f1), .val (.int g1), .val (.int f2), .val (.int g2), .val (.int (0 : Int32)), .val (.int (0 : Int32)), .val (.int (1 : Int32)), .val (.int r), .val (.int ro), .val (.int dr), .val (.int ow), .val (.int pr), .val (.int se), .val (.int hf), .val (.int rs), .val (.int dm), .val (.int el), .val (.int eh), .val (.ref o), .val (.ref mi), .val (.long qo.toInt64), .second, .val (.long rf), .second] [(.double sm)])
  have hS : (-(el.toInt + eh.toInt) * qo.toInt + (f2.toInt + g2.toInt) * (n2.toInt - qo.toInt)) = 0 + 0 + (f2.toInt + g2.toInt) * n2.toInt - 64 * qo.toInt := by
    have e9 : el.toInt = 64 - ((f2.toInt + g2.toInt)) - eh.toInt := by omega
    rw [e9]
    simp only [Int.mul_sub, Int.sub_mul, Int.add_mul, Int.neg_mul, Int.zero_mul]
    omega
  rw [hS, ← href] at hsm
  have bS : -1000000000000 ≤ rf.toInt ∧ rf.toInt ≤ 1000000000000 := by rw [href]; omega
  refine o_ldc2D 509 W (tw hw 93) at_506 ?_
  refine o_dmulQ 510 W hsm own_64 (by omega) (hd := at_509) (K := fun ym hym => ?_)
  refine o_lload 512 W at_510 rfl ?_
  refine o_l2dQ 513 W (by omega) (hd := at_512) (K := fun yr hyr => ?_)
  have hyu := hyr.up 6
  refine o_dcmpQ 514 W hym hyu at_513 ?_
  refine o_ifN 517 W at_514 (XT.i0_ne_f ((own_c0 _ _).mpr (by first | rfl | omega))) ?_
  refine o_iconst 518 W (1) at_517 (by first | rfl | decide) ?_
  refine o_goto 522 W at_518 ?_
  exact o_nret W (1 : Int32) (by simp) (by decide) at_522 (rfl)
theorem own_tail5 (l : Launch) (Z : State) (b0 : Array Value) (hw : ∀ d ∈ tables_1, d.before b0 Z = true) {p : Program} {e : Env} {s : State} {m : MethodId} {args : Array Value} {below : List Frame} {meth : Method} {c : Code} {T : State} {h : Heap} {sf : List Addr} (n0 n1 n2 n3 n4 f0 g0 f1 g1 f2 g2 r ro dr ow pr se hf rs dm el eh qo : Int32) (o va ca la ka ea la2 ua uc sa ev er so px py rx ry : Addr) (kva kca kla kka kea kla2 kua kuc ksa kev ker kso kpx kpy krx kry : ClassId) (rcv : Value) (VL CL LL : List Value) (r4 : ¬ r < 0 ∧ r < 4) (ro4 : ¬ ro < 0 ∧ ro < 4) (hne : ro.toNatClampNeg ≠ r.toNatClampNeg) (xr0r1 : ((2 : Int32) * r).toNatClampNeg ≠ (((2 : Int32) * r) + (1 : Int32)).toNatClampNeg) (xro0r0 : ((2 : Int32) * ro).toNatClampNeg ≠ ((2 : Int32) * r).toNatClampNeg) (xro0r1 : ((2 : Int32) * ro).toNatClampNeg ≠ (((2 : Int32) * r) + (1 : Int32)).toNatClampNeg) (xro0ro1 : ((2 : Int32) * ro).toNatClampNeg ≠ (((2 : Int32) * ro) + (1 : Int32)).toNatClampNeg) (xro1r0 : (((2 : Int32) * ro) + (1 : Int32)).toNatClampNeg ≠ ((2 : Int32) * r).toNatClampNeg) (xro1r1 : (((2 : Int32) * ro) + (1 : Int32)).toNatClampNeg ≠ (((2 : Int32) * r) + (1 : Int32)).toNatClampNeg) (kr0 : ¬ ((2 : Int32) * r) < 0 ∧ ((2 : Int32) * r) < 8) (kr1 : ¬ (((2 : Int32) * r) + (1 : Int32)) < 0 ∧ (((2 : Int32) * r) + (1 : Int32)) < 8) (kro0 : ¬ ((2 : Int32) * ro) < 0 ∧ ((2 : Int32) * ro) < 8) (kro1 : ¬ (((2 : Int32) * ro) + (1 : Int32)) < 0 ∧ (((2 : Int32) * ro) + (1 : Int32)) < 8) (lV : VL.length = 4) (lC : CL.length = 4) (lL : LL.length = 4) (hV : VL.getD r.toNatClampNeg (.null) = .ref rx) (hVo : VL.getD ro.toNatClampNeg (.null) = .ref px) (hC : CL.getD r.toNatClampNeg (.null) = .ref ry) (hCo : CL.getD ro.toNatClampNeg (.null) = .ref py) (hL : LL.getD r.toNatClampNeg (.int 0) = .int 0) (hLo : LL.getD ro.toNatClampNeg (.int 0) = .int 0) (bf0 : 0 ≤ f0.toInt ∧ f0.toInt ≤ 20) (bg0 : 0 ≤ g0.toInt ∧ g0.toInt ≤ 20) (bf1 : 0 ≤ f1.toInt ∧ f1.toInt ≤ 20) (bg1 : 0 ≤ g1.toInt ∧ g1.toInt ≤ 20) (bf2 : 0 ≤ f2.toInt ∧ f2.toInt ≤ 20) (bg2 : 0 ≤ g2.toInt ∧ g2.toInt ≤ 20) (bel : 0 ≤ el.toInt ∧ el.toInt ≤ 32) (beh : 0 ≤ eh.toInt ∧ eh.toInt ≤ 32) (hee : el.toInt + eh.toInt = 64 - ((f0.toInt + g0.toInt) + (f2.toInt + g2.toInt))) (how : ow = 0 ∧ qo = n0 ∨ ow = 1 ∧ qo = n1 ∨ ow = 2 ∧ qo = n2) (Ova : OvrA Z kva .int "[I") (Oca : OvrA Z kca .double "[D") (Oua : OvrA Z kua .int "[I") (zo : Z.heap.size ≤ o) (W : Wk p l e room_1 s m args below meth c Z x code maxLocals ret T h 17 107 sf) (OBJ : OB Z h o "com/example/markov_reachability/markovreachability/IntervalEquations" [("ceiling", "D", (.double FP.dconst1)), ("variables", "[[I", (.ref va)), ("coefficients", "[[D", (.ref ca)), ("length", "[I", (.ref la)), ("constant", "[D", (.ref ka)), ("exit", "[D", (.ref ea)), ("eliminating", "[Z", (.ref la2)), ("users", "[[I", (.ref ua)), ("userCount", "[I", (.ref uc)), ("substitutable", "[I", (.ref sa)), ("eliminatedVariable", "[I", (.ref ev)), ("eliminatedRow", "[I", (.ref er)), ("slot", "[I", (.ref so)), ("rowCount", "I", rcv)]) (H : HM Z h [(va, kva, (.array .int), 4, VL, (.null)), (ca, kca, (.array .double), 4, CL, (.null)), (la, kla, .int, 4, LL, (.int 0)), (ua, kua, (.array .int), 3, [(.null), (.null), (.null)], (.null)), (uc, kuc, .int, 3, [(.int 0), (.int 0), (.int 0)], (.int 0)), (sa, ksa, .int, 3, [(.int 0), (.int 0), (.int 0)], (.int 0)), (px, kpx, .int, 2, [(.int 0), (.int 0)], (.int 0)), (py, kpy, .double, 4, [(.double 0), (.double 0), (.double 0), (.double 0)], (.double 0)), (rx, krx, .int, 2, [(.int 0), (.int 0)], (.int 0)), (ry, kry, .double, 4, [(.double 0), (.double 0), (.double 0), (.double 0)], (.double 0)), (ea, kea, .double, 8, [(.double 0), (.double 0), (.double 0), (.double 0), (.double 0), (.double 0), (.double 0), (.double 0)], (.double 0))]) : Go p e below (Gd s below Z (QV fun w h => w = .int 1) (room_1).cells (room_1).slots) T (mkF m 259 #[.val (.int n0), .val (.int n1), .val (.int n2), .val (.int n3), .val (.int n4), .val (.int f0), .val (.int g0), .val (.int f1), .val (.int g1), .val (.int f2), .val (.int g2), .val (.int (1 : Int32)), .val (.int (0 : Int32)), .val (.int (1 : Int32)), .val (.int r), .val (.int ro), .val (.int dr), .val (.int ow), .val (.int pr), .val (.int se), .val (.int hf), .val (.int rs), .val (.int dm), .val (.int el), .val (.int eh), .val (.ref o), .unset, .unset, .unset, .unset, .unset] []) := by
  have rr := own_r4 r4
  have qr := own_r4 ro4
  have qr0 := own_r8 kr0
  have qr1 := own_r8 kr1
  have qro0 := own_r8 kro0
  have qro1 := own_r8 kro1
  refine o_aload 261 W at_259 rfl rfl ?_
  refine o_iload 263 W at_261 rfl ?_
  refine o_iconst 264 W (0) at_263 (by first | rfl | decide) ?_
  refine o_dconst1 265 W at_264 ?_
  refine o_dconst1 266 W at_265 ?_
  have H : HM Z h [(va, kva, (.array .int), 4, VL, (.null)), (ca, kca, (.array .double), 4, CL, (.null)), (la, kla, .int, 4, LL, (.int 0)), (ua, kua, (.array .int), 3, [(.null), (.null), (.null)], (.null)), (uc, kuc, .int, 3, [(.int 0), (.int 0), (.int 0)], (.int 0)), (sa, ksa, .int, 3, [(.int 0), (.int 0), (.int 0)], (.int 0)), (px, kpx, .int, 2, [(.int 0), (.int 0)], (.int 0)), (py, kpy, .double, 4, [(.double 0), (.double 0), (.double 0), (.double 0)], (.double 0)), (rx, krx, .int, 2, [(.int 0), (.int 0)], (.int 0)), (ry, kry, .double, 4, [(.double 0), (.double 0), (.double 0), (.double 0)], (.double 0)), (ea, kea, .double, 8, [(.double 0), (.double 0), (.double 0), (.double 0), (.double 0), (.double 0), (.double 0), (.double 0)], (.double 0))] := ((((((((H.front 7 rfl).front 7 rfl).front 7 rfl).front 7 rfl).front 7 rfl).front 7 rfl).front 7 rfl).front 7 rfl)
  refine o_virtual 269 [(.int ro), (.int (0 : Int32)), (.double FP.dconst1), (.double FP.dconst1)] W (tw hw 60) (tw hw 61) (tw hw 63) (tw hw 62) (tw hw 7) (tw hw 64) (OBJ.1) (con_adcA0 l Z b0 hw o va ca la ka ea la2 ua uc sa ev er so px py kva kca kla kka kea kla2 kua kuc ksa kev ker kso kpx kpy rcv ro (0 : Int32) 0 FP.dconst1 FP.dconst1 VL CL LL [(.null), (.null), (.null)] [(.int 0), (.int 0), (.int 0)] [(.int 0), (.int 0), (.int 0)] (.int 0) (.int 0) (.double 0) (.double 0) (.double 0) (.double 0) ro4 (by decide) (by simp [lV]) (by simp [lC]) (by simp [lL]) (by simp) (by simp) (by simp) hVo hCo hLo rfl rfl rfl Ova Oca Oua _ W.old OBJ (HM.split (P := [_, _, _, _, _, _, _, _]) H).1) pd4 at_266 rfl all0 (fun T h v W qq gg => ?_)
  obtain ⟨rfl, Kc, OBJ1, us0, kus0, nus0, H1⟩ := qq
  show Go p e below _ _ (mkF m 269 #[.val (.int n0), .val (.int n1), .val (.int n2), .val (.int n3), .val (.int n4), .val (.int f0), .val (.int g0), .val (.int f1), .val (.int g1), .val (.int f2), .val (.int g2), .val (.int (1 : Int32)), .val (.int (0 : Int32)), .val (.int (1 : Int32)), .val (.int r), .val (.int ro), .val (.int dr), .val (.int ow), .val (.int pr), .val (.int se), .val (.int hf), .val (.int rs), .val (.int dm), .val (.int el), .val (.int eh), .val (.ref o), .unset, .unset, .unset, .unset, .unset] [])
  have H : HM Z h [(us0, kus0, .int, 4, [(.int ro), (.int 0), (.int 0), (.int 0)], (.int 0)), (va, kva, (.array .int), 4, VL, (.null)), (ca, kca, (.array .double), 4, CL, (.null)), (la, kla, .int, 4, (LL.set ro.toNatClampNeg (.int 1)), (.int 0)), (ua, kua, (.array .int), 3, ([(.null), (.null), (.null)].set (0 : Int32).toNatClampNeg (.ref us0)), (.null)), (uc, kuc, .int, 3, ([(.int 0), (.int 0), (.int 0)].set (0 : Int32).toNatClampNeg (.int 1)), (.int 0)), (sa, ksa, .int, 3, ([(.int 0), (.int 0), (.int 0)].set (0 : Int32).toNatClampNeg (.int (0 + 1))), (.int 0)), (px, kpx, .int, 2, [(.int (0 : Int32)), (.int 0)], (.int 0)), (py, kpy, .double, 4, [(.double FP.dconst1), (.double FP.dconst1), (.double 0), (.double 0)], (.double 0)), (rx, krx, .int, 2, [(.int 0), (.int 0)], (.int 0)), (ry, kry, .double, 4, [(.double 0), (.double 0), (.double 0), (.double 0)], (.double 0)), (ea, kea, .double, 8, [(.double 0), (.double 0), (.double 0), (.double 0), (.double 0), (.double 0), (.double 0), (.double 0)], (.double 0))] := HM.frame (P := [_, _, _, _, _, _, _, _]) H H1 Kc (by simp [HE.a, nus0])
  have OBJ := OBJ1
  have H : HM Z h [(us0, kus0, .int, 4, [(.int ro), (.int 0), (.int 0), (.int 0)], (.int 0)), (va, kva, (.array .int), 4, VL, (.null)), (ca, kca, (.array .double), 4, CL, (.null)), (la, kla, .int, 4, (LL.set ro.toNatClampNeg (.int 1)), (.int 0)), (ua, kua, (.array .int), 3, [(.ref us0), (.null), (.null)], (.null)), (uc, kuc, .int, 3, [(.int 1), (.int 0), (.int 0)], (.int 0)), (sa, ksa, .int, 3, [(.int (0 + 1)), (.int 0), (.int 0)], (.int 0)), (px, kpx, .int, 2, [(.int (0 : Int32)), (.int 0)], (.int 0)), (py, kpy, .double, 4, [(.double FP.dconst1), (.double FP.dconst1), (.double 0), (.double 0)], (.double 0)), (rx, krx, .int, 2, [(.int 0), (.int 0)], (.int 0)), (ry, kry, .double, 4, [(.double 0), (.double 0), (.double 0), (.double 0)], (.double 0)), (ea, kea, .double, 8, [(.double 0), (.double 0), (.double 0), (.double 0), (.double 0), (.double 0), (.double 0), (.double 0)], (.double 0))] := H
  refine o_aload 271 W at_269 rfl rfl ?_
  refine o_iload 273 W at_271 rfl ?_
  refine o_ldc2D 276 W (tw hw 69) at_273 ?_
  refine o_dconst1 277 W at_276 ?_
  have H : HM Z h [(ea, kea, .double, 8, [(.double 0), (.double 0), (.double 0), (.double 0), (.double 0), (.double 0), (.double 0), (.double 0)], (.double 0)), (us0, kus0, .int, 4, [(.int ro), (.int 0), (.int 0), (.int 0)], (.int 0)), (va, kva, (.array .int), 4, VL, (.null)), (ca, kca, (.array .double), 4, CL, (.null)), (la, kla, .int, 4, (LL.set ro.toNatClampNeg (.int 1)), (.int 0)), (ua, kua, (.array .int), 3, [(.ref us0), (.null), (.null)], (.null)), (uc, kuc, .int, 3, [(.int 1), (.int 0), (.int 0)], (.int 0)), (sa, ksa, .int, 3, [(.int (0 + 1)), (.int 0), (.int 0)], (.int 0)), (px, kpx, .int, 2, [(.int (0 : Int32)), (.int 0)], (.int 0)), (py, kpy, .double, 4, [(.double FP.dconst1), (.double FP.dconst1), (.double 0), (.double 0)], (.double 0)), (rx, krx, .int, 2, [(.int 0), (.int 0)], (.int 0)), (ry, kry, .double, 4, [(.double 0), (.double 0), (.double 0), (.double 0)], (.double 0))] := (H.front 11 rfl)
  refine o_virtual 280 [(.int ro), (.double (4602678819172646912 : UInt64)), (.double FP.dconst1)] W (tw hw 70) (tw hw 71) (tw hw 73) (tw hw 72) (tw hw 7) (tw hw 74) (OBJ.1) (con_adx l Z b0 hw o va ca la ka ea la2 ua uc sa ev er so kva kca kla kka kea kla2 kua kuc ksa kev ker kso rcv ro (4602678819172646912 : UInt64) FP.dconst1 [(.double 0), (.double 0), (.double 0), (.double 0), (.double 0), (.double 0), (.double 0), (.double 0)] own_half own_one5 (by omega) kro0 kro1 (by simp) (own_rep8 _ _) (own_rep8 _ _) xro0ro1 _ W.old OBJ zo (HM.split (P := [_]) H).1) pd6 at_277 rfl all0 (fun T h v W qq gg => ?_)
  obtain ⟨rfl, Kc, OBJ1, yo, hyo, H1⟩ := qq
  show Go p e below _ _ (mkF m 280 #[.val (.int n0), .val (.int n1), .val (.int n2), .val (.int n3), .val (.int n4), .val (.int f0), .val (.int g0), .val (.int f1), .val (.int g1), .val (.int f2), .val (.int g2), .val (.int (1 : Int32)), .val (.int (0 : Int32)), .val (.int (1 : Int32)), .val (.int r), .val (.int ro), .val (.int dr), .val (.int ow), .val (.int pr), .val (.int se), .val (.int hf), .val (.int rs), .val (.int dm), .val (.int el), .val (.int eh), .val (.ref o), .unset, .unset, .unset, .unset, .unset] [])
  have H : HM Z h [(ea, kea, .double, 8, (([(.double 0), (.double 0), (.double 0), (.double 0), (.double 0), (.double 0), (.double 0), (.double 0)].set ((2 : Int32) * ro).toNatClampNeg (.double (4602678819172646912 : UInt64))).set (((2 : Int32) * ro) + (1 : Int32)).toNatClampNeg (.double yo)), (.double 0)), (us0, kus0, .int, 4, [(.int ro), (.int 0), (.int 0), (.int 0)], (.int 0)), (va, kva, (.array .int), 4, VL, (.null)), (ca, kca, (.array .double), 4, CL, (.null)), (la, kla, .int, 4, (LL.set ro.toNatClampNeg (.int 1)), (.int 0)), (ua, kua, (.array .int), 3, [(.ref us0), (.null), (.null)], (.null)), (uc, kuc, .int, 3, [(.int 1), (.int 0), (.int 0)], (.int 0)), (sa, ksa, .int, 3, [(.int (0 + 1)), (.int 0), (.int 0)], (.int 0)), (px, kpx, .int, 2, [(.int (0 : Int32)), (.int 0)], (.int 0)), (py, kpy, .double, 4, [(.double FP.dconst1), (.double FP.dconst1), (.double 0), (.double 0)], (.double 0)), (rx, krx, .int, 2, [(.int 0), (.int 0)], (.int 0)), (ry, kry, .double, 4, [(.double 0), (.double 0), (.double 0), (.double 0)], (.double 0))] := HM.frame (P := [_]) H H1 Kc (by simp [HE.a])
  have OBJ := OBJ1
  refine o_iload 282 W at_280 rfl ?_
  refine o_ifN 285 W at_282 (XT.i0_eq_f (by decide)) ?_
  refine o_aload 287 W at_285 rfl rfl ?_
  refine o_iload 289 W at_287 rfl ?_
  refine o_iconst 290 W (0) at_289 (by first | rfl | decide) ?_
  refine o_iload 292 W at_290 rfl ?_
  refine o_i2dQ 293 W  (hd := at_292) (K := fun ux0 hux0 => ?_)
  refine o_ldc2D 296 W (tw hw 85) at_293 ?_
  refine o_ddivQ 297 W 5 hux0 own_32 (own_nb32 _) (hd := at_296) (K := fun x0 hx0 => ?_)
  refine o_iload 299 W at_297 rfl ?_
  refine o_i2dQ 300 W  (hd := at_299) (K := fun uz0 huz0 => ?_)
  refine o_ldc2D 303 W (tw hw 85) at_300 ?_
  refine o_ddivQ 304 W 5 huz0 own_32 (own_nb32 _) (hd := at_303) (K := fun z0 hz0 => ?_)
  have H : HM Z h [(va, kva, (.array .int), 4, VL, (.null)), (ca, kca, (.array .double), 4, CL, (.null)), (la, kla, .int, 4, (LL.set ro.toNatClampNeg (.int 1)), (.int 0)), (ua, kua, (.array .int), 3, [(.ref us0), (.null), (.null)], (.null)), (uc, kuc, .int, 3, [(.int 1), (.int 0), (.int 0)], (.int 0)), (sa, ksa, .int, 3, [(.int (0 + 1)), (.int 0), (.int 0)], (.int 0)), (rx, krx, .int, 2, [(.int 0), (.int 0)], (.int 0)), (ry, kry, .double, 4, [(.double 0), (.double 0), (.double 0), (.double 0)], (.double 0)), (us0, kus0, .int, 4, [(.int ro), (.int 0), (.int 0), (.int 0)], (.int 0)), (ea, kea, .double, 8, (([(.double 0), (.double 0), (.double 0), (.double 0), (.double 0), (.double 0), (.double 0), (.double 0)].set ((2 : Int32) * ro).toNatClampNeg (.double (4602678819172646912 : UInt64))).set (((2 : Int32) * ro) + (1 : Int32)).toNatClampNeg (.double yo)), (.double 0)), (px, kpx, .int, 2, [(.int (0 : Int32)), (.int 0)], (.int 0)), (py, kpy, .double, 4, [(.double FP.dconst1), (.double FP.dconst1), (.double 0), (.double 0)], (.double 0))] := (((((((((H.front 1 rfl).front 11 rfl).front 11 rfl).front 9 rfl).front 9 rfl).front 9 rfl).front 9 rfl).front 9 rfl).front 9 rfl)
  refine o_virtual 307 [(.int r), (.int (0 : Int32)), (.double x0), (.double z0)] W (tw hw 60) (tw hw 61) (tw hw 63) (tw hw 62) (tw hw 7) (tw hw 64) (OBJ.1) (con_adcB0 l Z b0 hw o va ca la ka ea la2 ua uc sa ev er so rx ry us0 kva kca kla kka kea kla2 kua kuc ksa kev ker kso krx kry kus0 rcv r (0 : Int32) (0 + 1) x0 z0 VL CL (LL.set ro.toNatClampNeg (.int 1)) [(.ref us0), (.null), (.null)] [(.int 1), (.int 0), (.int 0)] [(.int (0 + 1)), (.int 0), (.int 0)] (.int 0) (.int 0) (.double 0) (.double 0) (.double 0) (.double 0) (.int ro) (.int 0) (.int 0) (.int 0) r4 (by decide) (by simp [lV]) (by simp [lC]) (by simp [lL]) (by simp) (by simp) (by simp) hV hC ((own_gsetne hne).trans hL) rfl rfl rfl Ova Oca Oua _ W.old OBJ (HM.split (P := [_, _, _, _, _, _, _, _, _]) H).1) pd4 at_304 rfl all0 (fun T h v W qq gg => ?_)
  obtain ⟨rfl, Kc, OBJ1, H1⟩ := qq
  show Go p e below _ _ (mkF m 307 #[.val (.int n0), .val (.int n1), .val (.int n2), .val (.int n3), .val (.int n4), .val (.int f0), .val (.int g0), .val (.int f1), .val (.int g1), .val (.int f2), .val (.int g2), .val (.int (1 : Int32)), .val (.int (0 : Int32)), .val (.int (1 : Int32)), .val (.int r), .val (.int ro), .val (.int dr), .val (.int ow), .val (.int pr), .val (.int se), .val (.int hf), .val (.int rs), .val (.int dm), .val (.int el), .val (.int eh), .val (.ref o), .unset, .unset, .unset, .unset, .unset] [])
  have H : HM Z h [(va, kva, (.array .int), 4, VL, (.null)), (ca, kca, (.array .double), 4, CL, (.null)), (la, kla, .int, 4, ((LL.set ro.toNatClampNeg (.int 1)).set r.toNatClampNeg (.int 1)), (.int 0)), (ua, kua, (.array .int), 3, [(.ref us0), (.null), (.null)], (.null)), (uc, kuc, .int, 3, ([(.int 1), (.int 0), (.int 0)].set (0 : Int32).toNatClampNeg (.int 2)), (.int 0)), (sa, ksa, .int, 3, ([(.int (0 + 1)), (.int 0), (.int 0)].set (0 : Int32).toNatClampNeg (.int ((0 + 1) + 1))), (.int 0)), (rx, krx, .int, 2, [(.int (0 : Int32)), (.int 0)], (.int 0)), (ry, kry, .double, 4, [(.double x0), (.double z0), (.double 0), (.double 0)], (.double 0)), (us0, kus0, .int, 4, [(.int ro), (.int r), (.int 0), (.int 0)], (.int 0)), (ea, kea, .double, 8, (([(.double 0), (.double 0), (.double 0), (.double 0), (.double 0), (.double 0), (.double 0), (.double 0)].set ((2 : Int32) * ro).toNatClampNeg (.double (4602678819172646912 : UInt64))).set (((2 : Int32) * ro) + (1 : Int32)).toNatClampNeg (.double yo)), (.double 0)), (px, kpx, .int, 2, [(.int (0 : Int32)), (.int 0)], (.int 0)), (py, kpy, .double, 4, [(.double FP.dconst1), (.double FP.dconst1), (.double 0), (.double 0)], (.double 0))] := HM.frame (P := [_, _, _, _, _, _, _, _, _]) H H1 Kc (by simp [HE.a])
  have OBJ := OBJ1
  have H : HM Z h [(va, kva, (.array .int), 4, VL, (.null)), (ca, kca, (.array .double), 4, CL, (.null)), (la, kla, .int, 4, ((LL.set ro.toNatClampNeg (.int 1)).set r.toNatClampNeg (.int 1)), (.int 0)), (ua, kua, (.array .int), 3, [(.ref us0), (.null), (.null)], (.null)), (uc, kuc, .int, 3, [(.int 2), (.int 0), (.int 0)], (.int 0)), (sa, ksa, .int, 3, [(.int ((0 + 1) + 1)), (.int 0), (.int 0)], (.int 0)), (rx, krx, .int, 2, [(.int (0 : Int32)), (.int 0)], (.int 0)), (ry, kry, .double, 4, [(.double x0), (.double z0), (.double 0), (.double 0)], (.double 0)), (us0, kus0, .int, 4, [(.int ro), (.int r), (.int 0), (.int 0)], (.int 0)), (ea, kea, .double, 8, (([(.double 0), (.double 0), (.double 0), (.double 0), (.double 0), (.double 0), (.double 0), (.double 0)].set ((2 : Int32) * ro).toNatClampNeg (.double (4602678819172646912 : UInt64))).set (((2 : Int32) * ro) + (1 : Int32)).toNatClampNeg (.double yo)), (.double 0)), (px, kpx, .int, 2, [(.int (0 : Int32)), (.int 0)], (.int 0)), (py, kpy, .double, 4, [(.double FP.dconst1), (.double FP.dconst1), (.double 0), (.double 0)], (.double 0))] := H
  refine o_iload 309 W at_307 rfl ?_
  refine o_ifY 334 W at_309 (XT.i0_eq_t (by decide)) ?_
  refine o_iload 336 W at_334 rfl ?_
  refine o_ifN 339 W at_336 (XT.i0_eq_f (by decide)) ?_
  refine o_aload 341 W at_339 rfl rfl ?_
  refine o_iload 343 W at_341 rfl ?_
  refine o_iconst 344 W (2) at_343 (by first | rfl | decide) ?_
  refine o_iload 346 W at_344 rfl ?_
  refine o_i2dQ 347 W  (hd := at_346) (K := fun ux2 hux2 => ?_)
  refine o_ldc2D 350 W (tw hw 85) at_347 ?_
  refine o_ddivQ 351 W 5 hux2 own_32 (own_nb32 _) (hd := at_350) (K := fun x2 hx2 => ?_)
  refine o_iload 353 W at_351 rfl ?_
  refine o_i2dQ 354 W  (hd := at_353) (K := fun uz2 huz2 => ?_)
  refine o_ldc2D 357 W (tw hw 85) at_354 ?_
  refine o_ddivQ 358 W 5 huz2 own_32 (own_nb32 _) (hd := at_357) (K := fun z2 hz2 => ?_)
  have H : HM Z h [(va, kva, (.array .int), 4, VL, (.null)), (ca, kca, (.array .double), 4, CL, (.null)), (la, kla, .int, 4, ((LL.set ro.toNatClampNeg (.int 1)).set r.toNatClampNeg (.int 1)), (.int 0)), (ua, kua, (.array .int), 3, [(.ref us0), (.null), (.null)], (.null)), (uc, kuc, .int, 3, [(.int 2), (.int 0), (.int 0)], (.int 0)), (sa, ksa, .int, 3, [(.int ((0 + 1) + 1)), (.int 0), (.int 0)], (.int 0)), (rx, krx, .int, 2, [(.int (0 : Int32)), (.int 0)], (.int 0)), (ry, kry, .double, 4, [(.double x0), (.double z0), (.double 0), (.double 0)], (.double 0)), (us0, kus0, .int, 4, [(.int ro), (.int r), (.int 0), (.int 0)], (.int 0)), (ea, kea, .double, 8, (([(.double 0), (.double 0), (.double 0), (.double 0), (.double 0), (.double 0), (.double 0), (.double 0)].set ((2 : Int32) * ro).toNatClampNeg (.double (4602678819172646912 : UInt64))).set (((2 : Int32) * ro) + (1 : Int32)).toNatClampNeg (.double yo)), (.double 0)), (px, kpx, .int, 2, [(.int (0 : Int32)), (.int 0)], (.int 0)), (py, kpy, .double, 4, [(.double FP.dconst1), (.double FP.dconst1), (.double 0), (.double 0)], (.double 0))] := ((((((((H.front 7 rfl).front 7 rfl).front 7 rfl).front 7 rfl).front 7 rfl).front 7 rfl).front 7 rfl).front 7 rfl)
  refine o_virtual 361 [(.int r), (.int (2 : Int32)), (.double x2), (.double z2)] W (tw hw 60) (tw hw 61) (tw hw 63) (tw hw 62) (tw hw 7) (tw hw 64) (OBJ.1) (con_adcA1 l Z b0 hw o va ca la ka ea la2 ua uc sa ev er so rx ry kva kca kla kka kea kla2 kua kuc ksa kev ker kso krx kry rcv r (2 : Int32) 0 x2 z2 VL CL ((LL.set ro.toNatClampNeg (.int 1)).set r.toNatClampNeg (.int 1)) [(.ref us0), (.null), (.null)] [(.int 2), (.int 0), (.int 0)] [(.int ((0 + 1) + 1)), (.int 0), (.int 0)] (.int (0 : Int32)) (.int 0) (.double x0) (.double z0) (.double 0) (.double 0) r4 (by decide) (by simp [lV]) (by simp [lC]) (by simp [lL]) (by simp) (by simp) (by simp) hV hC (own_gset (by simp [rr, lL])) rfl rfl rfl Ova Oca Oua _ W.old OBJ (HM.split (P := [_, _, _, _, _, _, _, _]) H).1 0 rfl (by decide)) pd4 at_358 rfl all0 (fun T h v W qq gg => ?_)
  obtain ⟨rfl, Kc, OBJ1, us2, kus2, nus2, H1⟩ := qq
  show Go p e below _ _ (mkF m 361 #[.val (.int n0), .val (.int n1), .val (.int n2), .val (.int n3), .val (.int n4), .val (.int f0), .val (.int g0), .val (.int f1), .val (.int g1), .val (.int f2), .val (.int g2), .val (.int (1 : Int32)), .val (.int (0 : Int32)), .val (.int (1 : Int32)), .val (.int r), .val (.int ro), .val (.int dr), .val (.int ow), .val (.int pr), .val (.int se), .val (.int hf), .val (.int rs), .val (.int dm), .val (.int el), .val (.int eh), .val (.ref o), .unset, .unset, .unset, .unset, .unset] [])
  have H : HM Z h [(us2, kus2, .int, 4, [(.int r), (.int 0), (.int 0), (.int 0)], (.int 0)), (va, kva, (.array .int), 4, VL, (.null)), (ca, kca, (.array .double), 4, CL, (.null)), (la, kla, .int, 4, (((LL.set ro.toNatClampNeg (.int 1)).set r.toNatClampNeg (.int 1)).set r.toNatClampNeg (.int 2)), (.int 0)), (ua, kua, (.array .int), 3, ([(.ref us0), (.null), (.null)].set (2 : Int32).toNatClampNeg (.ref us2)), (.null)), (uc, kuc, .int, 3, ([(.int 2), (.int 0), (.int 0)].set (2 : Int32).toNatClampNeg (.int 1)), (.int 0)), (sa, ksa, .int, 3, ([(.int ((0 + 1) + 1)), (.int 0), (.int 0)].set (2 : Int32).toNatClampNeg (.int (0 + 1))), (.int 0)), (rx, krx, .int, 2, [(.int (0 : Int32)), (.int (2 : Int32))], (.int 0)), (ry, kry, .double, 4, [(.double x0), (.double z0), (.double x2), (.double z2)], (.double 0)), (us0, kus0, .int, 4, [(.int ro), (.int r), (.int 0), (.int 0)], (.int 0)), (ea, kea, .double, 8, (([(.double 0), (.double 0), (.double 0), (.double 0), (.double 0), (.double 0), (.double 0), (.double 0)].set ((2 : Int32) * ro).toNatClampNeg (.double (4602678819172646912 : UInt64))).set (((2 : Int32) * ro) + (1 : Int32)).toNatClampNeg (.double yo)), (.double 0)), (px, kpx, .int, 2, [(.int (0 : Int32)), (.int 0)], (.int 0)), (py, kpy, .double, 4, [(.double FP.dconst1), (.double FP.dconst1), (.double 0), (.double 0)], (.double 0))] := HM.frame (P := [_, _, _, _, _, _, _, _]) H H1 Kc (by simp [HE.a, nus2])
  have OBJ := OBJ1
  have H : HM Z h [(us2, kus2, .int, 4, [(.int r), (.int 0), (.int 0), (.int 0)], (.int 0)), (va, kva, (.array .int), 4, VL, (.null)), (ca, kca, (.array .double), 4, CL, (.null)), (la, kla, .int, 4, (((LL.set ro.toNatClampNeg (.int 1)).set r.toNatClampNeg (.int 1)).set r.toNatClampNeg (.int 2)), (.int 0)), (ua, kua, (.array .int), 3, [(.ref us0), (.null), (.ref us2)], (.null)), (uc, kuc, .int, 3, [(.int 2), (.int 0), (.int 1)], (.int 0)), (sa, ksa, .int, 3, [(.int ((0 + 1) + 1)), (.int 0), (.int (0 + 1))], (.int 0)), (rx, krx, .int, 2, [(.int (0 : Int32)), (.int (2 : Int32))], (.int 0)), (ry, kry, .double, 4, [(.double x0), (.double z0), (.double x2), (.double z2)], (.double 0)), (us0, kus0, .int, 4, [(.int ro), (.int r), (.int 0), (.int 0)], (.int 0)), (ea, kea, .double, 8, (([(.double 0), (.double 0), (.double 0), (.double 0), (.double 0), (.double 0), (.double 0), (.double 0)].set ((2 : Int32) * ro).toNatClampNeg (.double (4602678819172646912 : UInt64))).set (((2 : Int32) * ro) + (1 : Int32)).toNatClampNeg (.double yo)), (.double 0)), (px, kpx, .int, 2, [(.int (0 : Int32)), (.int 0)], (.int 0)), (py, kpy, .double, 4, [(.double FP.dconst1), (.double FP.dconst1), (.double 0), (.double 0)], (.double 0))] := H
  refine o_aload 363 W at_361 rfl rfl ?_
  refine o_iload 365 W at_363 rfl ?_
  refine o_iload 367 W at_365 rfl ?_
  refine o_i2dQ 368 W  (hd := at_367) (K := fun uxl huxl => ?_)
  refine o_ldc2D 371 W (tw hw 85) at_368 ?_
  refine o_ddivQ 372 W 5 huxl own_32 (own_nb32 _) (hd := at_371) (K := fun xl hxl => ?_)
  refine o_iload 374 W at_372 rfl ?_
  refine o_i2dQ 375 W  (hd := at_374) (K := fun uxh huxh => ?_)
  refine o_ldc2D 378 W (tw hw 85) at_375 ?_
  refine o_ddivQ 379 W 5 huxh own_32 (own_nb32 _) (hd := at_378) (K := fun xh hxh => ?_)
  have H : HM Z h [(ea, kea, .double, 8, (([(.double 0), (.double 0), (.double 0), (.double 0), (.double 0), (.double 0), (.double 0), (.double 0)].set ((2 : Int32) * ro).toNatClampNeg (.double (4602678819172646912 : UInt64))).set (((2 : Int32) * ro) + (1 : Int32)).toNatClampNeg (.double yo)), (.double 0)), (us2, kus2, .int, 4, [(.int r), (.int 0), (.int 0), (.int 0)], (.int 0)), (va, kva, (.array .int), 4, VL, (.null)), (ca, kca, (.array .double), 4, CL, (.null)), (la, kla, .int, 4, (((LL.set ro.toNatClampNeg (.int 1)).set r.toNatClampNeg (.int 1)).set r.toNatClampNeg (.int 2)), (.int 0)), (ua, kua, (.array .int), 3, [(.ref us0), (.null), (.ref us2)], (.null)), (uc, kuc, .int, 3, [(.int 2), (.int 0), (.int 1)], (.int 0)), (sa, ksa, .int, 3, [(.int ((0 + 1) + 1)), (.int 0), (.int (0 + 1))], (.int 0)), (rx, krx, .int, 2, [(.int (0 : Int32)), (.int (2 : Int32))], (.int 0)), (ry, kry, .double, 4, [(.double x0), (.double z0), (.double x2), (.double z2)], (.double 0)), (us0, kus0, .int, 4, [(.int ro), (.int r), (.int 0), (.int 0)], (.int 0)), (px, kpx, .int, 2, [(.int (0 : Int32)), (.int 0)], (.int 0)), (py, kpy, .double, 4, [(.double FP.dconst1), (.double FP.dconst1), (.double 0), (.double 0)], (.double 0))] := (H.front 10 rfl)
  refine o_virtual 382 [(.int r), (.double xl), (.double xh)] W (tw hw 70) (tw hw 71) (tw hw 73) (tw hw 72) (tw hw 7) (tw hw 74) (OBJ.1) (con_adx l Z b0 hw o va ca la ka ea la2 ua uc sa ev er so kva kca kla kka kea kla2 kua kuc ksa kev ker kso rcv r xl xh (([(.double 0), (.double 0), (.double 0), (.double 0), (.double 0), (.double 0), (.double 0), (.double 0)].set ((2 : Int32) * ro).toNatClampNeg (.double (4602678819172646912 : UInt64))).set (((2 : Int32) * ro) + (1 : Int32)).toNatClampNeg (.double yo)) hxl hxh beh.2 kr0 kr1 (by simp) ((own_gsetne xro1r0).trans ((own_gsetne xro0r0).trans (own_rep8 _ _))) ((own_gsetne xro1r1).trans ((own_gsetne xro0r1).trans (own_rep8 _ _))) xr0r1 _ W.old OBJ zo (HM.split (P := [_]) H).1) pd6 at_379 rfl all0 (fun T h v W qq gg => ?_)
  obtain ⟨rfl, Kc, OBJ1, yh, hyh, H1⟩ := qq
  show Go p e below _ _ (mkF m 382 #[.val (.int n0), .val (.int n1), .val (.int n2), .val (.int n3), .val (.int n4), .val (.int f0), .val (.int g0), .val (.int f1), .val (.int g1), .val (.int f2), .val (.int g2), .val (.int (1 : Int32)), .val (.int (0 : Int32)), .val (.int (1 : Int32)), .val (.int r), .val (.int ro), .val (.int dr), .val (.int ow), .val (.int pr), .val (.int se), .val (.int hf), .val (.int rs), .val (.int dm), .val (.int el), .val (.int eh), .val (.ref o), .unset, .unset, .unset, .unset, .unset] [])
  have H : HM Z h [(ea, kea, .double, 8, (((([(.double 0), (.double 0), (.double 0), (.double 0), (.double 0), (.double 0), (.double 0), (.double 0)].set ((2 : Int32) * ro).toNatClampNeg (.double (4602678819172646912 : UInt64))).set (((2 : Int32) * ro) + (1 : Int32)).toNatClampNeg (.double yo)).set ((2 : Int32) * r).toNatClampNeg (.double xl)).set (((2 : Int32) * r) + (1 : Int32)).toNatClampNeg (.double yh)), (.double 0)), (us2, kus2, .int, 4, [(.int r), (.int 0), (.int 0), (.int 0)], (.int 0)), (va, kva, (.array .int), 4, VL, (.null)), (ca, kca, (.array .double), 4, CL, (.null)), (la, kla, .int, 4, (((LL.set ro.toNatClampNeg (.int 1)).set r.toNatClampNeg (.int 1)).set r.toNatClampNeg (.int 2)), (.int 0)), (ua, kua, (.array .int), 3, [(.ref us0), (.null), (.ref us2)], (.null)), (uc, kuc, .int, 3, [(.int 2), (.int 0), (.int 1)], (.int 0)), (sa, ksa, .int, 3, [(.int ((0 + 1) + 1)), (.int 0), (.int (0 + 1))], (.int 0)), (rx, krx, .int, 2, [(.int (0 : Int32)), (.int (2 : Int32))], (.int 0)), (ry, kry, .double, 4, [(.double x0), (.double z0), (.double x2), (.double z2)], (.double 0)), (us0, kus0, .int, 4, [(.int ro), (.int r), (.int 0), (.int 0)], (.int 0)), (px, kpx, .int, 2, [(.int (0 : Int32)), (.int 0)], (.int 0)), (py, kpy, .double, 4, [(.double FP.dconst1), (.double FP.dconst1), (.double 0), (.double 0)], (.double 0))] := HM.frame (P := [_]) H H1 Kc (by simp [HE.a])
  have OBJ := OBJ1
  refine o_iconst 383 W (3) at_382 (by first | rfl | decide) ?_
  refine o_newarray 385 3 W (tw hw 27) at_383 (by decide) (by decide) (fun T h mi kmi W Emi Ami gmi zmi => ?_)
  have Ami : Arv Z h mi kmi .double 3 [(.double 0), (.double 0), (.double 0)] (.double 0) := own_pad 3 Ami
  have OBJ := OBJ.ext Emi
  have H : HM Z h [(mi, kmi, .double, 3, [(.double 0), (.double 0), (.double 0)], (.double 0)), (ea, kea, .double, 8, (((([(.double 0), (.double 0), (.double 0), (.double 0), (.double 0), (.double 0), (.double 0), (.double 0)].set ((2 : Int32) * ro).toNatClampNeg (.double (4602678819172646912 : UInt64))).set (((2 : Int32) * ro) + (1 : Int32)).toNatClampNeg (.double yo)).set ((2 : Int32) * r).toNatClampNeg (.double xl)).set (((2 : Int32) * r) + (1 : Int32)).toNatClampNeg (.double yh)), (.double 0)), (us2, kus2, .int, 4, [(.int r), (.int 0), (.int 0), (.int 0)], (.int 0)), (va, kva, (.array .int), 4, VL, (.null)), (ca, kca, (.array .double), 4, CL, (.null)), (la, kla, .int, 4, (((LL.set ro.toNatClampNeg (.int 1)).set r.toNatClampNeg (.int 1)).set r.toNatClampNeg (.int 2)), (.int 0)), (ua, kua, (.array .int), 3, [(.ref us0), (.null), (.ref us2)], (.null)), (uc, kuc, .int, 3, [(.int 2), (.int 0), (.int 1)], (.int 0)), (sa, ksa, .int, 3, [(.int ((0 + 1) + 1)), (.int 0), (.int (0 + 1))], (.int 0)), (rx, krx, .int, 2, [(.int (0 : Int32)), (.int (2 : Int32))], (.int 0)), (ry, kry, .double, 4, [(.double x0), (.double z0), (.double x2), (.double z2)], (.double 0)), (us0, kus0, .int, 4, [(.int ro), (.int r), (.int 0), (.int 0)], (.int 0)), (px, kpx, .int, 2, [(.int (0 : Int32)), (.int 0)], (.int 0)), (py, kpy, .double, 4, [(.double FP.dconst1), (.double FP.dconst1), (.double 0), (.double 0)], (.double 0))] := H.new Emi Ami gmi zmi
  refine o_astore 387 W #[.val (.int n0), .val (.int n1), .val (.int n2), .val (.int n3), .val (.int n4), .val (.int f0), .val (.int g0), .val (.int f1), .val (.int g1), .val (.int f2), .val (.int g2), .val (.int (1 : Int32)), .val (.int (0 : Int32)), .val (.int (1 : Int32)), .val (.int r), .val (.int ro), .val (.int dr), .val (.int ow), .val (.int pr), .val (.int se), .val (.int hf), .val (.int rs), .val (.int dm), .val (.int el), .val (.int eh), .val (.ref o), .val (.ref mi), .unset, .unset, .unset, .unset] at_385 rfl rfl ?_
  refine o_aload 389 W at_387 rfl rfl ?_
  refine o_iconst 390 W (0) at_389 (by first | rfl | decide) ?_
  refine o_iloadN 391 W at_390 rfl ?_
  refine o_i2dQ 392 W  (hd := at_391) (K := fun t0 ht0 => ?_)
  have G0 : Arv Z _ mi kmi .double 3 [(.double 0), (.double 0), (.double 0)] (.double 0) := H.get 0 rfl
  refine o_dastore 393 0 W G0 (by decide) rfl (by simp) (H.new? 0 rfl) at_392 (fun T h W w1 A1 => ?_)
  have OBJ := OBJ.wr (tw hw 6) (H.get 0 rfl) w1
  have H : HM Z h [(mi, kmi, .double, 3, [(.double t0), (.double 0), (.double 0)], (.double 0)), (ea, kea, .double, 8, (((([(.double 0), (.double 0), (.double 0), (.double 0), (.double 0), (.double 0), (.double 0), (.double 0)].set ((2 : Int32) * ro).toNatClampNeg (.double (4602678819172646912 : UInt64))).set (((2 : Int32) * ro) + (1 : Int32)).toNatClampNeg (.double yo)).set ((2 : Int32) * r).toNatClampNeg (.double xl)).set (((2 : Int32) * r) + (1 : Int32)).toNatClampNeg (.double yh)), (.double 0)), (us2, kus2, .int, 4, [(.int r), (.int 0), (.int 0), (.int 0)], (.int 0)), (va, kva, (.array .int), 4, VL, (.null)), (ca, kca, (.array .double), 4, CL, (.null)), (la, kla, .int, 4, (((LL.set ro.toNatClampNeg (.int 1)).set r.toNatClampNeg (.int 1)).set r.toNatClampNeg (.int 2)), (.int 0)), (ua, kua, (.array .int), 3, [(.ref us0), (.null), (.ref us2)], (.null)), (uc, kuc, .int, 3, [(.int 2), (.int 0), (.int 1)], (.int 0)), (sa, ksa, .int, 3, [(.int ((0 + 1) + 1)), (.int 0), (.int (0 + 1))], (.int 0)), (rx, krx, .int, 2, [(.int (0 : Int32)), (.int (2 : Int32))], (.int 0)), (ry, kry, .double, 4, [(.double x0), (.double z0), (.double x2), (.double z2)], (.double 0)), (us0, kus0, .int, 4, [(.int ro), (.int r), (.int 0), (.int 0)], (.int 0)), (px, kpx, .int, 2, [(.int (0 : Int32)), (.int 0)], (.int 0)), (py, kpy, .double, 4, [(.double FP.dconst1), (.double FP.dconst1), (.double 0), (.double 0)], (.double 0))] := H.wr 0 rfl w1 A1
  refine o_aload 395 W at_393 rfl rfl ?_
  refine o_iconst 396 W (1) at_395 (by first | rfl | decide) ?_
  refine o_iloadN 397 W at_396 rfl ?_
  refine o_i2dQ 398 W  (hd := at_397) (K := fun t1 ht1 => ?_)
  have G0 : Arv Z _ mi kmi .double 3 [(.double t0), (.double 0), (.double 0)] (.double 0) := H.get 0 rfl
  refine o_dastore 399 1 W G0 (by decide) rfl (by simp) (H.new? 0 rfl) at_398 (fun T h W w1 A1 => ?_)
  have OBJ := OBJ.wr (tw hw 6) (H.get 0 rfl) w1
  have H : HM Z h [(mi, kmi, .double, 3, [(.double t0), (.double t1), (.double 0)], (.double 0)), (ea, kea, .double, 8, (((([(.double 0), (.double 0), (.double 0), (.double 0), (.double 0), (.double 0), (.double 0), (.double 0)].set ((2 : Int32) * ro).toNatClampNeg (.double (4602678819172646912 : UInt64))).set (((2 : Int32) * ro) + (1 : Int32)).toNatClampNeg (.double yo)).set ((2 : Int32) * r).toNatClampNeg (.double xl)).set (((2 : Int32) * r) + (1 : Int32)).toNatClampNeg (.double yh)), (.double 0)), (us2, kus2, .int, 4, [(.int r), (.int 0), (.int 0), (.int 0)], (.int 0)), (va, kva, (.array .int), 4, VL, (.null)), (ca, kca, (.array .double), 4, CL, (.null)), (la, kla, .int, 4, (((LL.set ro.toNatClampNeg (.int 1)).set r.toNatClampNeg (.int 1)).set r.toNatClampNeg (.int 2)), (.int 0)), (ua, kua, (.array .int), 3, [(.ref us0), (.null), (.ref us2)], (.null)), (uc, kuc, .int, 3, [(.int 2), (.int 0), (.int 1)], (.int 0)), (sa, ksa, .int, 3, [(.int ((0 + 1) + 1)), (.int 0), (.int (0 + 1))], (.int 0)), (rx, krx, .int, 2, [(.int (0 : Int32)), (.int (2 : Int32))], (.int 0)), (ry, kry, .double, 4, [(.double x0), (.double z0), (.double x2), (.double z2)], (.double 0)), (us0, kus0, .int, 4, [(.int ro), (.int r), (.int 0), (.int 0)], (.int 0)), (px, kpx, .int, 2, [(.int (0 : Int32)), (.int 0)], (.int 0)), (py, kpy, .double, 4, [(.double FP.dconst1), (.double FP.dconst1), (.double 0), (.double 0)], (.double 0))] := H.wr 0 rfl w1 A1
  refine o_aload 401 W at_399 rfl rfl ?_
  refine o_iconst 402 W (2) at_401 (by first | rfl | decide) ?_
  refine o_iloadN 403 W at_402 rfl ?_
  refine o_i2dQ 404 W  (hd := at_403) (K := fun t2 ht2 => ?_)
  have G0 : Arv Z _ mi kmi .double 3 [(.double t0), (.double t1), (.double 0)] (.double 0) := H.get 0 rfl
  refine o_dastore 405 2 W G0 (by decide) rfl (by simp) (H.new? 0 rfl) at_404 (fun T h W w1 A1 => ?_)
  have OBJ := OBJ.wr (tw hw 6) (H.get 0 rfl) w1
  have H : HM Z h [(mi, kmi, .double, 3, [(.double t0), (.double t1), (.double t2)], (.double 0)), (ea, kea, .double, 8, (((([(.double 0), (.double 0), (.double 0), (.double 0), (.double 0), (.double 0), (.double 0), (.double 0)].set ((2 : Int32) * ro).toNatClampNeg (.double (4602678819172646912 : UInt64))).set (((2 : Int32) * ro) + (1 : Int32)).toNatClampNeg (.double yo)).set ((2 : Int32) * r).toNatClampNeg (.double xl)).set (((2 : Int32) * r) + (1 : Int32)).toNatClampNeg (.double yh)), (.double 0)), (us2, kus2, .int, 4, [(.int r), (.int 0), (.int 0), (.int 0)], (.int 0)), (va, kva, (.array .int), 4, VL, (.null)), (ca, kca, (.array .double), 4, CL, (.null)), (la, kla, .int, 4, (((LL.set ro.toNatClampNeg (.int 1)).set r.toNatClampNeg (.int 1)).set r.toNatClampNeg (.int 2)), (.int 0)), (ua, kua, (.array .int), 3, [(.ref us0), (.null), (.ref us2)], (.null)), (uc, kuc, .int, 3, [(.int 2), (.int 0), (.int 1)], (.int 0)), (sa, ksa, .int, 3, [(.int ((0 + 1) + 1)), (.int 0), (.int (0 + 1))], (.int 0)), (rx, krx, .int, 2, [(.int (0 : Int32)), (.int (2 : Int32))], (.int 0)), (ry, kry, .double, 4, [(.double x0), (.double z0), (.double x2), (.double z2)], (.double 0)), (us0, kus0, .int, 4, [(.int ro), (.int r), (.int 0), (.int 0)], (.int 0)), (px, kpx, .int, 2, [(.int (0 : Int32)), (.int 0)], (.int 0)), (py, kpy, .double, 4, [(.double FP.dconst1), (.double FP.dconst1), (.double 0), (.double 0)], (.double 0))] := H.wr 0 rfl w1 A1
  obtain ⟨to, hto, hmo, ho, hq0, hq1, hq2⟩ : ∃ to, DQ 0 qo.toInt to ∧ ([(.double t0), (.double t1), (.double t2)] : List Value).getD ow.toNatClampNeg (.double 0) = .double to ∧ (¬ ow < 0 ∧ ow < 3) ∧ (ow = 0 → qo = n0) ∧ (ow = 1 → qo = n1) ∧ (ow = 2 → qo = n2) := by
    rcases how with ⟨rfl, rfl⟩ | ⟨rfl, rfl⟩ | ⟨rfl, rfl⟩
    · exact ⟨t0, ht0, rfl, by decide, fun _ => rfl, fun q => absurd q (by decide), fun q => absurd q (by decide)⟩
    · exact ⟨t1, ht1, rfl, by decide, fun q => absurd q (by decide), fun _ => rfl, fun q => absurd q (by decide)⟩
    · exact ⟨t2, ht2, rfl, by decide, fun q => absurd q (by decide), fun q => absurd q (by decide), fun _ => rfl⟩
  refine Go.cutW W (g' := (mkF m 428 #[.val (.int n0), .val (.int n1), .val (.int n2), .val (.int n3), .val (.int n4), .val (.int f0), .val (.int g0), .val (.int f1), .val (.int g1), .val (.int f2), .val (.int g2), .val (.int (1 : Int32)), .val (.int (0 : Int32)), .val (.int (1 : Int32)), .val (.int r), .val (.int ro), .val (.int dr), .val (.int ow), .val (.int pr), .val (.int se), .val (.int hf), .val (.int rs), .val (.int dm), .val (.int el), .val (.int eh), .val (.ref o), .val (.ref mi), .unset, .unset, .unset, .unset] [(.long qo.toInt64)])) (fun J => ?_) (fun T W => ?_)
  · refine o_iload 407 W at_405 rfl ?_
    refine o_ifne 415 410 W at_407 (fun c407 => ?_) (fun c407 => ?_)
    · refine o_iload 417 W at_415 rfl ?_
      refine o_iconst 418 W (1) at_417 (by first | rfl | decide) ?_
      refine o_icne 426 421 W at_418 (fun c418 => ?_) (fun c418 => ?_)
      · refine o_iloadN 427 W at_426 rfl ?_
        refine o_i2l 428 W at_427 ?_
        rcases how with ⟨z1, z2⟩ | ⟨z1, z2⟩ | ⟨z1, z2⟩
        · exact absurd z1 c407
        · exact absurd z1 c418
        · rw [z2] at J; exact J T W
      · refine o_iloadN 422 W at_421 rfl ?_
        refine o_i2l 423 W at_422 ?_
        refine o_goto 428 W at_423 ?_
        rw [hq1 c418] at J
        exact J T W
    · refine o_iloadN 411 W at_410 rfl ?_
      refine o_i2l 412 W at_411 ?_
      refine o_goto 428 W at_412 ?_
      rw [hq0 c407] at J
      exact J T W
  refine o_lstore 430 W #[.val (.int n0), .val (.int n1), .val (.int n2), .val (.int n3), .val (.int n4), .val (.int f0), .val (.int g0), .val (.int f1), .val (.int g1), .val (.int f2), .val (.int g2), .val (.int (1 : Int32)), .val (.int (0 : Int32)), .val (.int (1 : Int32)), .val (.int r), .val (.int ro), .val (.int dr), .val (.int ow), .val (.int pr), .val (.int se), .val (.int hf), .val (.int rs), .val (.int dm), .val (.int el), .val (.int eh), .val (.ref o), .val (.ref mi), .val (.long qo.toInt64), .second, .unset, .unset] at_428 rfl ?_
  refine o_iload 432 W at_430 rfl ?_
  refine o_ifN 435 W at_432 (XT.i0_eq_f (by decide)) ?_
  refine o_iload 437 W at_435 rfl ?_
  refine o_iload 439 W at_437 rfl ?_
  refine o_iadd 440 W at_439 ?_
  refine o_i2l 441 W at_440 ?_
  refine o_iloadN 442 W at_441 rfl ?_
  refine o_i2l 443 W at_442 ?_
  refine o_lmul 444 W at_443 ?_
  have hp0 := own_lm (f := f0) (g := g0) (q := n0) rfl rfl bf0 bg0
  have pb0 := own_pbn (s := f0.toInt + g0.toInt) (q := n0.toInt) (by omega) (by omega) (by have := own_i31 n0; omega) (by have := own_i31 n0; omega)
  generalize (((f0 + g0).toInt64) * (n0.toInt64)) = p0 at hp0 ⊢
  refine o_goto 448 W at_444 ?_
  refine o_iload 450 W at_448 rfl ?_
  refine o_ifY 465 W at_450 (XT.i0_eq_t (by decide)) ?_
  refine o_lconst 466 W (0) at_465 (by first | rfl | decide) ?_
  have hp1 : (0 : Int64).toInt = 0 := rfl
  refine o_ladd 467 W at_466 ?_
  have hr1 := own_ladd hp0 hp1 (by omega)
  generalize (p0 + (0 : Int64)) = r1 at hr1 ⊢
  refine o_iload 469 W at_467 rfl ?_
  refine o_ifN 472 W at_469 (XT.i0_eq_f (by decide)) ?_
  refine o_iload 474 W at_472 rfl ?_
  refine o_iload 476 W at_474 rfl ?_
  refine o_iadd 477 W at_476 ?_
  refine o_i2l 478 W at_477 ?_
  refine o_iloadN 479 W at_478 rfl ?_
  refine o_i2l 480 W at_479 ?_
  refine o_lmul 481 W at_480 ?_
  have hp2 := own_lm (f := f2) (g := g2) (q := n2) rfl rfl bf2 bg2
  have pb2 := own_pbn (s := f2.toInt + g2.toInt) (q := n2.toInt) (by omega) (by omega) (by have := own_i31 n2; omega) (by have := own_i31 n2; omega)
  generalize (((f2 + g2).toInt64) * (n2.toInt64)) = p2 at hp2 ⊢
  refine o_goto 485 W at_481 ?_
  refine o_ladd 486 W at_485 ?_
  have hr2 := own_ladd hr1 hp2 (by omega)
  generalize (r1 + p2) = r2 at hr2 ⊢
  refine o_ldc2J 489 W (tw hw 86) at_486 ?_
  refine o_lload 491 W at_489 rfl ?_
  refine o_lmul 492 W at_491 ?_
  have h64 := own_l64 qo
  have bqo := own_i31 qo
  generalize ((64 : Int64) * qo.toInt64) = p9 at h64 ⊢
  refine o_lsub 493 W at_492 ?_
  have href := own_lsub hr2 h64 (by omega)
  generalize (r2 - p9) = rf at href ⊢
  refine o_lstore 495 W #[.val (.int n0), .val (.int n1), .val (.int n2), .val (.int n3), .val (.int n4), .val (.int f0), .val (.int g0), .val (.int f1), .val (.int g1), .val (.int f2), .val (.int g2), .val (.int (1 : Int32)), .val (.int (0 : Int32)), .val (.int (1 : Int32)), .val (.int r), .val (.int ro), .val (.int dr), .val (.int ow), .val (.int pr), .val (.int se), .val (.int hf), .val (.int rs), .val (.int dm), .val (.int el), .val (.int eh), .val (.ref o), .val (.ref mi), .val (.long qo.toInt64), .second, .val (.long rf), .second] at_493 rfl ?_
  refine o_aload 497 W at_495 rfl rfl ?_
  refine o_iload 499 W at_497 rfl ?_
  refine o_iload 501 W at_499 rfl ?_
  refine o_aload 503 W at_501 rfl rfl ?_
  have H : HM Z h [(va, kva, (.array .int), 4, VL, (.null)), (ca, kca, (.array .double), 4, CL, (.null)), (la, kla, .int, 4, (((LL.set ro.toNatClampNeg (.int 1)).set r.toNatClampNeg (.int 1)).set r.toNatClampNeg (.int 2)), (.int 0)), (rx, krx, .int, 2, [(.int (0 : Int32)), (.int (2 : Int32))], (.int 0)), (ry, kry, .double, 4, [(.double x0), (.double z0), (.double x2), (.double z2)], (.double 0)), (mi, kmi, .double, 3, [(.double t0), (.double t1), (.double t2)], (.double 0)), (ea, kea, .double, 8, (((([(.double 0), (.double 0), (.double 0), (.double 0), (.double 0), (.double 0), (.double 0), (.double 0)].set ((2 : Int32) * ro).toNatClampNeg (.double (4602678819172646912 : UInt64))).set (((2 : Int32) * ro) + (1 : Int32)).toNatClampNeg (.double yo)).set ((2 : Int32) * r).toNatClampNeg (.double xl)).set (((2 : Int32) * r) + (1 : Int32)).toNatClampNeg (.double yh)), (.double 0)), (us2, kus2, .int, 4, [(.int r), (.int 0), (.int 0), (.int 0)], (.int 0)), (ua, kua, (.array .int), 3, [(.ref us0), (.null), (.ref us2)], (.null)), (uc, kuc, .int, 3, [(.int 2), (.int 0), (.int 1)], (.int 0)), (sa, ksa, .int, 3, [(.int ((0 + 1) + 1)), (.int 0), (.int (0 + 1))], (.int 0)), (us0, kus0, .int, 4, [(.int ro), (.int r), (.int 0), (.int 0)], (.int 0)), (px, kpx, .int, 2, [(.int (0 : Int32)), (.int 0)], (.int 0)), (py, kpy, .double, 4, [(.double FP.dconst1), (.double FP.dconst1), (.double 0), (.double 0)], (.double 0))] := (((((((H.front 1 rfl).front 1 rfl).front 10 rfl).front 10 rfl).front 7 rfl).front 7 rfl).front 7 rfl)
  refine o_virtual 506 [(.int r), (.int ow), (.ref mi)] W (tw hw 87) (tw hw 88) (tw hw 90) (tw hw 89) (tw hw 7) (tw hw 91) (OBJ.1) (con_mc2 l Z b0 hw o va ca la ka ea la2 ua uc sa ev er so rx ry mi kva kca kla kka kea kla2 kua kuc ksa kev ker kso krx kry kmi rcv r ow VL CL (((LL.set ro.toNatClampNeg (.int 1)).set r.toNatClampNeg (.int 1)).set r.toNatClampNeg (.int 2)) [(.double t0), (.double t1), (.double t2)] (((([(.double 0), (.double 0), (.double 0), (.double 0), (.double 0), (.double 0), (.double 0), (.double 0)].set ((2 : Int32) * ro).toNatClampNeg (.double (4602678819172646912 : UInt64))).set (((2 : Int32) * ro) + (1 : Int32)).toNatClampNeg (.double yo)).set ((2 : Int32) * r).toNatClampNeg (.double xl)).set (((2 : Int32) * r) + (1 : Int32)).toNatClampNeg (.double yh))  r4 hV hC (own_gset (by simp [rr, lL])) kr0 kr1 xl yh to el.toInt eh.toInt qo.toInt hxl hyh hto ⟨bel.1, bel.2, beh.1, beh.2, bqo.1, (by omega)⟩ ((own_gsetne xr0r1.symm).trans (own_gset (by simp [qr0]))) (own_gset (by simp [qr1])) ho hmo 0 x0 z0 t0 f0.toInt g0.toInt n0.toInt hx0 hz0 ht0 ⟨bf0.1, (by omega), bg0.1, (by omega), (own_i31 _).1, (by have := own_i31 n0; omega)⟩ (by decide) rfl (fun q => by rw [hq0 q.symm]) 2 x2 z2 t2 f2.toInt g2.toInt n2.toInt hx2 hz2 ht2 ⟨bf2.1, (by omega), bg2.1, (by omega), (own_i31 _).1, (by have := own_i31 n2; omega)⟩ (by decide) rfl (fun q => by rw [hq2 q.symm]) _ W.old OBJ (HM.split (P := [_, _, _, _, _, _, _]) H).1) pd7 at_503 rfl all0 (fun T h v W qq gg => ?_)
  obtain ⟨_, rfl, sm, rfl, hsm, rfl⟩ := qq
  show Go p e below _ _ (mkF m 506 #[.val (.int n0), .val (.int n1), .val (.int n2), .val (.int n3), .val (.int n4), .val (.int f0), .val (.int g0), .val (.int f1), .val (.int g1), .val (.int f2), .val (.int g2), .val (.int (1 : Int32)), .val (.int (0 : Int32)), .val (.int (1 : Int32)), .val (.int r), .val (.int ro), .val (.int dr), .val (.int ow), .val (.int pr), .val (.int se), .val (.int hf), .val (.int rs), .val (.int dm), .val (.int el), .val (.int eh), .val (.ref o), .val (.ref mi), .val (.long qo.toInt64), .second, .val (.long rf), .second] [(.double sm)])
  have hS : ((-(el.toInt + eh.toInt) * qo.toInt + (f0.toInt + g0.toInt) * (n0.toInt - qo.toInt)) + (f2.toInt + g2.toInt) * (n2.toInt - qo.toInt)) = (f0.toInt + g0.toInt) * n0.toInt + 0 + (f2.toInt + g2.toInt) * n2.toInt - 64 * qo.toInt := by
    have e9 : el.toInt = 64 - ((f0.toInt + g0.toInt) + (f2.toInt + g2.toInt)) - eh.toInt := by omega
    rw [e9]
    simp only [Int.mul_sub, Int.sub_mul, Int.add_mul, Int.neg_mul, Int.zero_mul]
    omega
  rw [hS, ← href] at hsm
  have bS : -1000000000000 ≤ rf.toInt ∧ rf.toInt ≤ 1000000000000 := by rw [href]; omega
  refine o_ldc2D 509 W (tw hw 93) at_506 ?_
  refine o_dmulQ 510 W hsm own_64 (by omega) (hd := at_509) (K := fun ym hym => ?_)
  refine o_lload 512 W at_510 rfl ?_
  refine o_l2dQ 513 W (by omega) (hd := at_512) (K := fun yr hyr => ?_)
  have hyu := hyr.up 6
  refine o_dcmpQ 514 W hym hyu at_513 ?_
  refine o_ifN 517 W at_514 (XT.i0_ne_f ((own_c0 _ _).mpr (by first | rfl | omega))) ?_
  refine o_iconst 518 W (1) at_517 (by first | rfl | decide) ?_
  refine o_goto 522 W at_518 ?_
  exact o_nret W (1 : Int32) (by simp) (by decide) at_522 (rfl)
theorem own_tail6 (l : Launch) (Z : State) (b0 : Array Value) (hw : ∀ d ∈ tables_1, d.before b0 Z = true) {p : Program} {e : Env} {s : State} {m : MethodId} {args : Array Value} {below : List Frame} {meth : Method} {c : Code} {T : State} {h : Heap} {sf : List Addr} (n0 n1 n2 n3 n4 f0 g0 f1 g1 f2 g2 r ro dr ow pr se hf rs dm el eh qo : Int32) (o va ca la ka ea la2 ua uc sa ev er so px py rx ry : Addr) (kva kca kla kka kea kla2 kua kuc ksa kev ker kso kpx kpy krx kry : ClassId) (rcv : Value) (VL CL LL : List Value) (r4 : ¬ r < 0 ∧ r < 4) (ro4 : ¬ ro < 0 ∧ ro < 4) (hne : ro.toNatClampNeg ≠ r.toNatClampNeg) (xr0r1 : ((2 : Int32) * r).toNatClampNeg ≠ (((2 : Int32) * r) + (1 : Int32)).toNatClampNeg) (xro0r0 : ((2 : Int32) * ro).toNatClampNeg ≠ ((2 : Int32) * r).toNatClampNeg) (xro0r1 : ((2 : Int32) * ro).toNatClampNeg ≠ (((2 : Int32) * r) + (1 : Int32)).toNatClampNeg) (xro0ro1 : ((2 : Int32) * ro).toNatClampNeg ≠ (((2 : Int32) * ro) + (1 : Int32)).toNatClampNeg) (xro1r0 : (((2 : Int32) * ro) + (1 : Int32)).toNatClampNeg ≠ ((2 : Int32) * r).toNatClampNeg) (xro1r1 : (((2 : Int32) * ro) + (1 : Int32)).toNatClampNeg ≠ (((2 : Int32) * r) + (1 : Int32)).toNatClampNeg) (kr0 : ¬ ((2 : Int32) * r) < 0 ∧ ((2 : Int32) * r) < 8) (kr1 : ¬ (((2 : Int32) * r) + (1 : Int32)) < 0 ∧ (((2 : Int32) * r) + (1 : Int32)) < 8) (kro0 : ¬ ((2 : Int32) * ro) < 0 ∧ ((2 : Int32) * ro) < 8) (kro1 : ¬ (((2 : Int32) * ro) + (1 : Int32)) < 0 ∧ (((2 : Int32) * ro) + (1 : Int32)) < 8) (lV : VL.length = 4) (lC : CL.length = 4) (lL : LL.length = 4) (hV : VL.getD r.toNatClampNeg (.null) = .ref rx) (hVo : VL.getD ro.toNatClampNeg (.null) = .ref px) (hC : CL.getD r.toNatClampNeg (.null) = .ref ry) (hCo : CL.getD ro.toNatClampNeg (.null) = .ref py) (hL : LL.getD r.toNatClampNeg (.int 0) = .int 0) (hLo : LL.getD ro.toNatClampNeg (.int 0) = .int 0) (bf0 : 0 ≤ f0.toInt ∧ f0.toInt ≤ 20) (bg0 : 0 ≤ g0.toInt ∧ g0.toInt ≤ 20) (bf1 : 0 ≤ f1.toInt ∧ f1.toInt ≤ 20) (bg1 : 0 ≤ g1.toInt ∧ g1.toInt ≤ 20) (bf2 : 0 ≤ f2.toInt ∧ f2.toInt ≤ 20) (bg2 : 0 ≤ g2.toInt ∧ g2.toInt ≤ 20) (bel : 0 ≤ el.toInt ∧ el.toInt ≤ 32) (beh : 0 ≤ eh.toInt ∧ eh.toInt ≤ 32) (hee : el.toInt + eh.toInt = 64 - ((f1.toInt + g1.toInt) + (f2.toInt + g2.toInt))) (how : ow = 0 ∧ qo = n0 ∨ ow = 1 ∧ qo = n1 ∨ ow = 2 ∧ qo = n2) (Ova : OvrA Z kva .int "[I") (Oca : OvrA Z kca .double "[D") (Oua : OvrA Z kua .int "[I") (zo : Z.heap.size ≤ o) (W : Wk p l e room_1 s m args below meth c Z x code maxLocals ret T h 17 107 sf) (OBJ : OB Z h o "com/example/markov_reachability/markovreachability/IntervalEquations" [("ceiling", "D", (.double FP.dconst1)), ("variables", "[[I", (.ref va)), ("coefficients", "[[D", (.ref ca)), ("length", "[I", (.ref la)), ("constant", "[D", (.ref ka)), ("exit", "[D", (.ref ea)), ("eliminating", "[Z", (.ref la2)), ("users", "[[I", (.ref ua)), ("userCount", "[I", (.ref uc)), ("substitutable", "[I", (.ref sa)), ("eliminatedVariable", "[I", (.ref ev)), ("eliminatedRow", "[I", (.ref er)), ("slot", "[I", (.ref so)), ("rowCount", "I", rcv)]) (H : HM Z h [(va, kva, (.array .int), 4, VL, (.null)), (ca, kca, (.array .double), 4, CL, (.null)), (la, kla, .int, 4, LL, (.int 0)), (ua, kua, (.array .int), 3, [(.null), (.null), (.null)], (.null)), (uc, kuc, .int, 3, [(.int 0), (.int 0), (.int 0)], (.int 0)), (sa, ksa, .int, 3, [(.int 0), (.int 0), (.int 0)], (.int 0)), (px, kpx, .int, 2, [(.int 0), (.int 0)], (.int 0)), (py, kpy, .double, 4, [(.double 0), (.double 0), (.double 0), (.double 0)], (.double 0)), (rx, krx, .int, 2, [(.int 0), (.int 0)], (.int 0)), (ry, kry, .double, 4, [(.double 0), (.double 0), (.double 0), (.double 0)], (.double 0)), (ea, kea, .double, 8, [(.double 0), (.double 0), (.double 0), (.double 0), (.double 0), (.double 0), (.double 0), (.double 0)], (.double 0))]) : Go p e below (Gd s below Z (QV fun w h => w = .int 1) (room_1).cells (room_1).slots) T (mkF m 259 #[.val (.int n0), .val (.int n1), .val (.int n2), .val (.int n3), .val (.int n4), .val (.int f0), .val (.int g0), .val (.int f1), .val (.int g1), .val (.int f2), .val (.int g2), .val (.int (0 : Int32)), .val (.int (1 : Int32)), .val (.int (1 : Int32)), .val (.int r), .val (.int ro), .val (.int dr), .val (.int ow), .val (.int pr), .val (.int se), .val (.int hf), .val (.int rs), .val (.int dm), .val (.int el), .val (.int eh), .val (.ref o), .unset, .unset, .unset, .unset, .unset] []) := by
  have rr := own_r4 r4
  have qr := own_r4 ro4
  have qr0 := own_r8 kr0
  have qr1 := own_r8 kr1
  have qro0 := own_r8 kro0
  have qro1 := own_r8 kro1
  refine o_aload 261 W at_259 rfl rfl ?_
  refine o_iload 263 W at_261 rfl ?_
  refine o_iconst 264 W (0) at_263 (by first | rfl | decide) ?_
  refine o_dconst1 265 W at_264 ?_
  refine o_dconst1 266 W at_265 ?_
  have H : HM Z h [(va, kva, (.array .int), 4, VL, (.null)), (ca, kca, (.array .double), 4, CL, (.null)), (la, kla, .int, 4, LL, (.int 0)), (ua, kua, (.array .int), 3, [(.null), (.null), (.null)], (.null)), (uc, kuc, .int, 3, [(.int 0), (.int 0), (.int 0)], (.int 0)), (sa, ksa, .int, 3, [(.int 0), (.int 0), (.int 0)], (.int 0)), (px, kpx, .int, 2, [(.int 0), (.int 0)], (.int 0)), (py, kpy, .double, 4, [(.double 0), (.double 0), (.double 0), (.double 0)], (.double 0)), (rx, krx, .int, 2, [(.int 0), (.int 0)], (.int 0)), (ry, kry, .double, 4, [(.double 0), (.double 0), (.double 0), (.double 0)], (.double 0)), (ea, kea, .double, 8, [(.double 0), (.double 0), (.double 0), (.double 0), (.double 0), (.double 0), (.double 0), (.double 0)], (.double 0))] := ((((((((H.front 7 rfl).front 7 rfl).front 7 rfl).front 7 rfl).front 7 rfl).front 7 rfl).front 7 rfl).front 7 rfl)
  refine o_virtual 269 [(.int ro), (.int (0 : Int32)), (.double FP.dconst1), (.double FP.dconst1)] W (tw hw 60) (tw hw 61) (tw hw 63) (tw hw 62) (tw hw 7) (tw hw 64) (OBJ.1) (con_adcA0 l Z b0 hw o va ca la ka ea la2 ua uc sa ev er so px py kva kca kla kka kea kla2 kua kuc ksa kev ker kso kpx kpy rcv ro (0 : Int32) 0 FP.dconst1 FP.dconst1 VL CL LL [(.null), (.null), (.null)] [(.int 0), (.int 0), (.int 0)] [(.int 0), (.int 0), (.int 0)] (.int 0) (.int 0) (.double 0) (.double 0) (.double 0) (.double 0) ro4 (by decide) (by simp [lV]) (by simp [lC]) (by simp [lL]) (by simp) (by simp) (by simp) hVo hCo hLo rfl rfl rfl Ova Oca Oua _ W.old OBJ (HM.split (P := [_, _, _, _, _, _, _, _]) H).1) pd4 at_266 rfl all0 (fun T h v W qq gg => ?_)
  obtain ⟨rfl, Kc, OBJ1, us0, kus0, nus0, H1⟩ := qq
  show Go p e below _ _ (mkF m 269 #[.val (.int n0), .val (.int n1), .val (.int n2), .val (.int n3), .val (.int n4), .val (.int f0), .val (.int g0), .val (.int f1), .val (.int g1), .val (.int f2), .val (.int g2), .val (.int (0 : Int32)), .val (.int (1 : Int32)), .val (.int (1 : Int32)), .val (.int r), .val (.int ro), .val (.int dr), .val (.int ow), .val (.int pr), .val (.int se), .val (.int hf), .val (.int rs), .val (.int dm), .val (.int el), .val (.int eh), .val (.ref o), .unset, .unset, .unset, .unset, .unset] [])
  have H : HM Z h [(us0, kus0, .int, 4, [(.int ro), (.int 0), (.int 0), (.int 0)], (.int 0)), (va, kva, (.array .int), 4, VL, (.null)), (ca, kca, (.array .double), 4, CL, (.null)), (la, kla, .int, 4, (LL.set ro.toNatClampNeg (.int 1)), (.int 0)), (ua, kua, (.array .int), 3, ([(.null), (.null), (.null)].set (0 : Int32).toNatClampNeg (.ref us0)), (.null)), (uc, kuc, .int, 3, ([(.int 0), (.int 0), (.int 0)].set (0 : Int32).toNatClampNeg (.int 1)), (.int 0)), (sa, ksa, .int, 3, ([(.int 0), (.int 0), (.int 0)].set (0 : Int32).toNatClampNeg (.int (0 + 1))), (.int 0)), (px, kpx, .int, 2, [(.int (0 : Int32)), (.int 0)], (.int 0)), (py, kpy, .double, 4, [(.double FP.dconst1), (.double FP.dconst1), (.double 0), (.double 0)], (.double 0)), (rx, krx, .int, 2, [(.int 0), (.int 0)], (.int 0)), (ry, kry, .double, 4, [(.double 0), (.double 0), (.double 0), (.double 0)], (.double 0)), (ea, kea, .double, 8, [(.double 0), (.double 0), (.double 0), (.double 0), (.double 0), (.double 0), (.double 0), (.double 0)], (.double 0))] := HM.frame (P := [_, _, _, _, _, _, _, _]) H H1 Kc (by simp [HE.a, nus0])
  have OBJ := OBJ1
  have H : HM Z h [(us0, kus0, .int, 4, [(.int ro), (.int 0), (.int 0), (.int 0)], (.int 0)), (va, kva, (.array .int), 4, VL, (.null)), (ca, kca, (.array .double), 4, CL, (.null)), (la, kla, .int, 4, (LL.set ro.toNatClampNeg (.int 1)), (.int 0)), (ua, kua, (.array .int), 3, [(.ref us0), (.null), (.null)], (.null)), (uc, kuc, .int, 3, [(.int 1), (.int 0), (.int 0)], (.int 0)), (sa, ksa, .int, 3, [(.int (0 + 1)), (.int 0), (.int 0)], (.int 0)), (px, kpx, .int, 2, [(.int (0 : Int32)), (.int 0)], (.int 0)), (py, kpy, .double, 4, [(.double FP.dconst1), (.double FP.dconst1), (.double 0), (.double 0)], (.double 0)), (rx, krx, .int, 2, [(.int 0), (.int 0)], (.int 0)), (ry, kry, .double, 4, [(.double 0), (.double 0), (.double 0), (.double 0)], (.double 0)), (ea, kea, .double, 8, [(.double 0), (.double 0), (.double 0), (.double 0), (.double 0), (.double 0), (.double 0), (.double 0)], (.double 0))] := H
  refine o_aload 271 W at_269 rfl rfl ?_
  refine o_iload 273 W at_271 rfl ?_
  refine o_ldc2D 276 W (tw hw 69) at_273 ?_
  refine o_dconst1 277 W at_276 ?_
  have H : HM Z h [(ea, kea, .double, 8, [(.double 0), (.double 0), (.double 0), (.double 0), (.double 0), (.double 0), (.double 0), (.double 0)], (.double 0)), (us0, kus0, .int, 4, [(.int ro), (.int 0), (.int 0), (.int 0)], (.int 0)), (va, kva, (.array .int), 4, VL, (.null)), (ca, kca, (.array .double), 4, CL, (.null)), (la, kla, .int, 4, (LL.set ro.toNatClampNeg (.int 1)), (.int 0)), (ua, kua, (.array .int), 3, [(.ref us0), (.null), (.null)], (.null)), (uc, kuc, .int, 3, [(.int 1), (.int 0), (.int 0)], (.int 0)), (sa, ksa, .int, 3, [(.int (0 + 1)), (.int 0), (.int 0)], (.int 0)), (px, kpx, .int, 2, [(.int (0 : Int32)), (.int 0)], (.int 0)), (py, kpy, .double, 4, [(.double FP.dconst1), (.double FP.dconst1), (.double 0), (.double 0)], (.double 0)), (rx, krx, .int, 2, [(.int 0), (.int 0)], (.int 0)), (ry, kry, .double, 4, [(.double 0), (.double 0), (.double 0), (.double 0)], (.double 0))] := (H.front 11 rfl)
  refine o_virtual 280 [(.int ro), (.double (4602678819172646912 : UInt64)), (.double FP.dconst1)] W (tw hw 70) (tw hw 71) (tw hw 73) (tw hw 72) (tw hw 7) (tw hw 74) (OBJ.1) (con_adx l Z b0 hw o va ca la ka ea la2 ua uc sa ev er so kva kca kla kka kea kla2 kua kuc ksa kev ker kso rcv ro (4602678819172646912 : UInt64) FP.dconst1 [(.double 0), (.double 0), (.double 0), (.double 0), (.double 0), (.double 0), (.double 0), (.double 0)] own_half own_one5 (by omega) kro0 kro1 (by simp) (own_rep8 _ _) (own_rep8 _ _) xro0ro1 _ W.old OBJ zo (HM.split (P := [_]) H).1) pd6 at_277 rfl all0 (fun T h v W qq gg => ?_)
  obtain ⟨rfl, Kc, OBJ1, yo, hyo, H1⟩ := qq
  show Go p e below _ _ (mkF m 280 #[.val (.int n0), .val (.int n1), .val (.int n2), .val (.int n3), .val (.int n4), .val (.int f0), .val (.int g0), .val (.int f1), .val (.int g1), .val (.int f2), .val (.int g2), .val (.int (0 : Int32)), .val (.int (1 : Int32)), .val (.int (1 : Int32)), .val (.int r), .val (.int ro), .val (.int dr), .val (.int ow), .val (.int pr), .val (.int se), .val (.int hf), .val (.int rs), .val (.int dm), .val (.int el), .val (.int eh), .val (.ref o), .unset, .unset, .unset, .unset, .unset] [])
  have H : HM Z h [(ea, kea, .double, 8, (([(.double 0), (.double 0), (.double 0), (.double 0), (.double 0), (.double 0), (.double 0), (.double 0)].set ((2 : Int32) * ro).toNatClampNeg (.double (4602678819172646912 : UInt64))).set (((2 : Int32) * ro) + (1 : Int32)).toNatClampNeg (.double yo)), (.double 0)), (us0, kus0, .int, 4, [(.int ro), (.int 0), (.int 0), (.int 0)], (.int 0)), (va, kva, (.array .int), 4, VL, (.null)), (ca, kca, (.array .double), 4, CL, (.null)), (la, kla, .int, 4, (LL.set ro.toNatClampNeg (.int 1)), (.int 0)), (ua, kua, (.array .int), 3, [(.ref us0), (.null), (.null)], (.null)), (uc, kuc, .int, 3, [(.int 1), (.int 0), (.int 0)], (.int 0)), (sa, ksa, .int, 3, [(.int (0 + 1)), (.int 0), (.int 0)], (.int 0)), (px, kpx, .int, 2, [(.int (0 : Int32)), (.int 0)], (.int 0)), (py, kpy, .double, 4, [(.double FP.dconst1), (.double FP.dconst1), (.double 0), (.double 0)], (.double 0)), (rx, krx, .int, 2, [(.int 0), (.int 0)], (.int 0)), (ry, kry, .double, 4, [(.double 0), (.double 0), (.double 0), (.double 0)], (.double 0))] := HM.frame (P := [_]) H H1 Kc (by simp [HE.a])
  have OBJ := OBJ1
  refine o_iload 282 W at_280 rfl ?_
  refine o_ifY 307 W at_282 (XT.i0_eq_t (by decide)) ?_
  refine o_iload 309 W at_307 rfl ?_
  refine o_ifN 312 W at_309 (XT.i0_eq_f (by decide)) ?_
  refine o_aload 314 W at_312 rfl rfl ?_
  refine o_iload 316 W at_314 rfl ?_
  refine o_iconst 317 W (1) at_316 (by first | rfl | decide) ?_
  refine o_iload 319 W at_317 rfl ?_
  refine o_i2dQ 320 W  (hd := at_319) (K := fun ux1 hux1 => ?_)
  refine o_ldc2D 323 W (tw hw 85) at_320 ?_
  refine o_ddivQ 324 W 5 hux1 own_32 (own_nb32 _) (hd := at_323) (K := fun x1 hx1 => ?_)
  refine o_iload 326 W at_324 rfl ?_
  refine o_i2dQ 327 W  (hd := at_326) (K := fun uz1 huz1 => ?_)
  refine o_ldc2D 330 W (tw hw 85) at_327 ?_
  refine o_ddivQ 331 W 5 huz1 own_32 (own_nb32 _) (hd := at_330) (K := fun z1 hz1 => ?_)
  have H : HM Z h [(va, kva, (.array .int), 4, VL, (.null)), (ca, kca, (.array .double), 4, CL, (.null)), (la, kla, .int, 4, (LL.set ro.toNatClampNeg (.int 1)), (.int 0)), (ua, kua, (.array .int), 3, [(.ref us0), (.null), (.null)], (.null)), (uc, kuc, .int, 3, [(.int 1), (.int 0), (.int 0)], (.int 0)), (sa, ksa, .int, 3, [(.int (0 + 1)), (.int 0), (.int 0)], (.int 0)), (rx, krx, .int, 2, [(.int 0), (.int 0)], (.int 0)), (ry, kry, .double, 4, [(.double 0), (.double 0), (.double 0), (.double 0)], (.double 0)), (ea, kea, .double, 8, (([(.double 0), (.double 0), (.double 0), (.double 0), (.double 0), (.double 0), (.double 0), (.double 0)].set ((2 : Int32) * ro).toNatClampNeg (.double (4602678819172646912 : UInt64))).set (((2 : Int32) * ro) + (1 : Int32)).toNatClampNeg (.double yo)), (.double 0)), (us0, kus0, .int, 4, [(.int ro), (.int 0), (.int 0), (.int 0)], (.int 0)), (px, kpx, .int, 2, [(.int (0 : Int32)), (.int 0)], (.int 0)), (py, kpy, .double, 4, [(.double FP.dconst1), (.double FP.dconst1), (.double 0), (.double 0)], (.double 0))] := ((((((((H.front 11 rfl).front 11 rfl).front 9 rfl).front 9 rfl).front 9 rfl).front 9 rfl).front 9 rfl).front 9 rfl)
  refine o_virtual 334 [(.int r), (.int (1 : Int32)), (.double x1), (.double z1)] W (tw hw 60) (tw hw 61) (tw hw 63) (tw hw 62) (tw hw 7) (tw hw 64) (OBJ.1) (con_adcA0 l Z b0 hw o va ca la ka ea la2 ua uc sa ev er so rx ry kva kca kla kka kea kla2 kua kuc ksa kev ker kso krx kry rcv r (1 : Int32) 0 x1 z1 VL CL (LL.set ro.toNatClampNeg (.int 1)) [(.ref us0), (.null), (.null)] [(.int 1), (.int 0), (.int 0)] [(.int (0 + 1)), (.int 0), (.int 0)] (.int 0) (.int 0) (.double 0) (.double 0) (.double 0) (.double 0) r4 (by decide) (by simp [lV]) (by simp [lC]) (by simp [lL]) (by simp) (by simp) (by simp) hV hC ((own_gsetne hne).trans hL) rfl rfl rfl Ova Oca Oua _ W.old OBJ (HM.split (P := [_, _, _, _, _, _, _, _]) H).1) pd4 at_331 rfl all0 (fun T h v W qq gg => ?_)
  obtain ⟨rfl, Kc, OBJ1, us1, kus1, nus1, H1⟩ := qq
  show Go p e below _ _ (mkF m 334 #[.val (.int n0), .val (.int n1), .val (.int n2), .val (.int n3), .val (.int n4), .val (.int f0), .val (.int g0), .val (.int f1), .val (.int g1), .val (.int f2), .val (.int g2), .val (.int (0 : Int32)), .val (.int (1 : Int32)), .val (.int (1 : Int32)), .val (.int r), .val (.int ro), .val (.int dr), .val (.int ow), .val (.int pr), .val (.int se), .val (.int hf), .val (.int rs), .val (.int dm), .val (.int el), .val (.int eh), .val (.ref o), .unset, .unset, .unset, .unset, .unset] [])
  have H : HM Z h [(us1, kus1, .int, 4, [(.int r), (.int 0), (.int 0), (.int 0)], (.int 0)), (va, kva, (.array .int), 4, VL, (.null)), (ca, kca, (.array .double), 4, CL, (.null)), (la, kla, .int, 4, ((LL.set ro.toNatClampNeg (.int 1)).set r.toNatClampNeg (.int 1)), (.int 0)), (ua, kua, (.array .int), 3, ([(.ref us0), (.null), (.null)].set (1 : Int32).toNatClampNeg (.ref us1)), (.null)), (uc, kuc, .int, 3, ([(.int 1), (.int 0), (.int 0)].set (1 : Int32).toNatClampNeg (.int 1)), (.int 0)), (sa, ksa, .int, 3, ([(.int (0 + 1)), (.int 0), (.int 0)].set (1 : Int32).toNatClampNeg (.int (0 + 1))), (.int 0)), (rx, krx, .int, 2, [(.int (1 : Int32)), (.int 0)], (.int 0)), (ry, kry, .double, 4, [(.double x1), (.double z1), (.double 0), (.double 0)], (.double 0)), (ea, kea, .double, 8, (([(.double 0), (.double 0), (.double 0), (.double 0), (.double 0), (.double 0), (.double 0), (.double 0)].set ((2 : Int32) * ro).toNatClampNeg (.double (4602678819172646912 : UInt64))).set (((2 : Int32) * ro) + (1 : Int32)).toNatClampNeg (.double yo)), (.double 0)), (us0, kus0, .int, 4, [(.int ro), (.int 0), (.int 0), (.int 0)], (.int 0)), (px, kpx, .int, 2, [(.int (0 : Int32)), (.int 0)], (.int 0)), (py, kpy, .double, 4, [(.double FP.dconst1), (.double FP.dconst1), (.double 0), (.double 0)], (.double 0))] := HM.frame (P := [_, _, _, _, _, _, _, _]) H H1 Kc (by simp [HE.a, nus1])
  have OBJ := OBJ1
  have H : HM Z h [(us1, kus1, .int, 4, [(.int r), (.int 0), (.int 0), (.int 0)], (.int 0)), (va, kva, (.array .int), 4, VL, (.null)), (ca, kca, (.array .double), 4, CL, (.null)), (la, kla, .int, 4, ((LL.set ro.toNatClampNeg (.int 1)).set r.toNatClampNeg (.int 1)), (.int 0)), (ua, kua, (.array .int), 3, [(.ref us0), (.ref us1), (.null)], (.null)), (uc, kuc, .int, 3, [(.int 1), (.int 1), (.int 0)], (.int 0)), (sa, ksa, .int, 3, [(.int (0 + 1)), (.int (0 + 1)), (.int 0)], (.int 0)), (rx, krx, .int, 2, [(.int (1 : Int32)), (.int 0)], (.int 0)), (ry, kry, .double, 4, [(.double x1), (.double z1), (.double 0), (.double 0)], (.double 0)), (ea, kea, .double, 8, (([(.double 0), (.double 0), (.double 0), (.double 0), (.double 0), (.double 0), (.double 0), (.double 0)].set ((2 : Int32) * ro).toNatClampNeg (.double (4602678819172646912 : UInt64))).set (((2 : Int32) * ro) + (1 : Int32)).toNatClampNeg (.double yo)), (.double 0)), (us0, kus0, .int, 4, [(.int ro), (.int 0), (.int 0), (.int 0)], (.int 0)), (px, kpx, .int, 2, [(.int (0 : Int32)), (.int 0)], (.int 0)), (py, kpy, .double, 4, [(.double FP.dconst1), (.double FP.dconst1), (.double 0), (.double 0)], (.double 0))] := H
  refine o_iload 336 W at_334 rfl ?_
  refine o_ifN 339 W at_336 (XT.i0_eq_f (by decide)) ?_
  refine o_aload 341 W at_339 rfl rfl ?_
  refine o_iload 343 W at_341 rfl ?_
  refine o_iconst 344 W (2) at_343 (by first | rfl | decide) ?_
  refine o_iload 346 W at_344 rfl ?_
  refine o_i2dQ 347 W  (hd := at_346) (K := fun ux2 hux2 => ?_)
  refine o_ldc2D 350 W (tw hw 85) at_347 ?_
  refine o_ddivQ 351 W 5 hux2 own_32 (own_nb32 _) (hd := at_350) (K := fun x2 hx2 => ?_)
  refine o_iload 353 W at_351 rfl ?_
  refine o_i2dQ 354 W  (hd := at_353) (K := fun uz2 huz2 => ?_)
  refine o_ldc2D 357 W (tw hw 85) at_354 ?_
  refine o_ddivQ 358 W 5 huz2 own_32 (own_nb32 _) (hd := at_357) (K := fun z2 hz2 => ?_)
  have H : HM Z h [(va, kva, (.array .int), 4, VL, (.null)), (ca, kca, (.array .double), 4, CL, (.null)), (la, kla, .int, 4, ((LL.set ro.toNatClampNeg (.int 1)).set r.toNatClampNeg (.int 1)), (.int 0)), (ua, kua, (.array .int), 3, [(.ref us0), (.ref us1), (.null)], (.null)), (uc, kuc, .int, 3, [(.int 1), (.int 1), (.int 0)], (.int 0)), (sa, ksa, .int, 3, [(.int (0 + 1)), (.int (0 + 1)), (.int 0)], (.int 0)), (rx, krx, .int, 2, [(.int (1 : Int32)), (.int 0)], (.int 0)), (ry, kry, .double, 4, [(.double x1), (.double z1), (.double 0), (.double 0)], (.double 0)), (us1, kus1, .int, 4, [(.int r), (.int 0), (.int 0), (.int 0)], (.int 0)), (ea, kea, .double, 8, (([(.double 0), (.double 0), (.double 0), (.double 0), (.double 0), (.double 0), (.double 0), (.double 0)].set ((2 : Int32) * ro).toNatClampNeg (.double (4602678819172646912 : UInt64))).set (((2 : Int32) * ro) + (1 : Int32)).toNatClampNeg (.double yo)), (.double 0)), (us0, kus0, .int, 4, [(.int ro), (.int 0), (.int 0), (.int 0)], (.int 0)), (px, kpx, .int, 2, [(.int (0 : Int32)), (.int 0)], (.int 0)), (py, kpy, .double, 4, [(.double FP.dconst1), (.double FP.dconst1), (.double 0), (.double 0)], (.double 0))] := ((((((((H.front 8 rfl).front 8 rfl).front 8 rfl).front 8 rfl).front 8 rfl).front 8 rfl).front 8 rfl).front 8 rfl)
  refine o_virtual 361 [(.int r), (.int (2 : Int32)), (.double x2), (.double z2)] W (tw hw 60) (tw hw 61) (tw hw 63) (tw hw 62) (tw hw 7) (tw hw 64) (OBJ.1) (con_adcA1 l Z b0 hw o va ca la ka ea la2 ua uc sa ev er so rx ry kva kca kla kka kea kla2 kua kuc ksa kev ker kso krx kry rcv r (2 : Int32) 0 x2 z2 VL CL ((LL.set ro.toNatClampNeg (.int 1)).set r.toNatClampNeg (.int 1)) [(.ref us0), (.ref us1), (.null)] [(.int 1), (.int 1), (.int 0)] [(.int (0 + 1)), (.int (0 + 1)), (.int 0)] (.int (1 : Int32)) (.int 0) (.double x1) (.double z1) (.double 0) (.double 0) r4 (by decide) (by simp [lV]) (by simp [lC]) (by simp [lL]) (by simp) (by simp) (by simp) hV hC (own_gset (by simp [rr, lL])) rfl rfl rfl Ova Oca Oua _ W.old OBJ (HM.split (P := [_, _, _, _, _, _, _, _]) H).1 1 rfl (by decide)) pd4 at_358 rfl all0 (fun T h v W qq gg => ?_)
  obtain ⟨rfl, Kc, OBJ1, us2, kus2, nus2, H1⟩ := qq
  show Go p e below _ _ (mkF m 361 #[.val (.int n0), .val (.int n1), .val (.int n2), .val (.int n3), .val (.int n4), .val (.int f0), .val (.int g0), .val (.int f1), .val (.int g1), .val (.int f2), .val (.int g2), .val (.int (0 : Int32)), .val (.int (1 : Int32)), .val (.int (1 : Int32)), .val (.int r), .val (.int ro), .val (.int dr), .val (.int ow), .val (.int pr), .val (.int se), .val (.int hf), .val (.int rs), .val (.int dm), .val (.int el), .val (.int eh), .val (.ref o), .unset, .unset, .unset, .unset, .unset] [])
  have H : HM Z h [(us2, kus2, .int, 4, [(.int r), (.int 0), (.int 0), (.int 0)], (.int 0)), (va, kva, (.array .int), 4, VL, (.null)), (ca, kca, (.array .double), 4, CL, (.null)), (la, kla, .int, 4, (((LL.set ro.toNatClampNeg (.int 1)).set r.toNatClampNeg (.int 1)).set r.toNatClampNeg (.int 2)), (.int 0)), (ua, kua, (.array .int), 3, ([(.ref us0), (.ref us1), (.null)].set (2 : Int32).toNatClampNeg (.ref us2)), (.null)), (uc, kuc, .int, 3, ([(.int 1), (.int 1), (.int 0)].set (2 : Int32).toNatClampNeg (.int 1)), (.int 0)), (sa, ksa, .int, 3, ([(.int (0 + 1)), (.int (0 + 1)), (.int 0)].set (2 : Int32).toNatClampNeg (.int (0 + 1))), (.int 0)), (rx, krx, .int, 2, [(.int (1 : Int32)), (.int (2 : Int32))], (.int 0)), (ry, kry, .double, 4, [(.double x1), (.double z1), (.double x2), (.double z2)], (.double 0)), (us1, kus1, .int, 4, [(.int r), (.int 0), (.int 0), (.int 0)], (.int 0)), (ea, kea, .double, 8, (([(.double 0), (.double 0), (.double 0), (.double 0), (.double 0), (.double 0), (.double 0), (.double 0)].set ((2 : Int32) * ro).toNatClampNeg (.double (4602678819172646912 : UInt64))).set (((2 : Int32) * ro) + (1 : Int32)).toNatClampNeg (.double yo)), (.double 0)), (us0, kus0, .int, 4, [(.int ro), (.int 0), (.int 0), (.int 0)], (.int 0)), (px, kpx, .int, 2, [(.int (0 : Int32)), (.int 0)], (.int 0)), (py, kpy, .double, 4, [(.double FP.dconst1), (.double FP.dconst1), (.double 0), (.double 0)], (.double 0))] := HM.frame (P := [_, _, _, _, _, _, _, _]) H H1 Kc (by simp [HE.a, nus2])
  have OBJ := OBJ1
  have H : HM Z h [(us2, kus2, .int, 4, [(.int r), (.int 0), (.int 0), (.int 0)], (.int 0)), (va, kva, (.array .int), 4, VL, (.null)), (ca, kca, (.array .double), 4, CL, (.null)), (la, kla, .int, 4, (((LL.set ro.toNatClampNeg (.int 1)).set r.toNatClampNeg (.int 1)).set r.toNatClampNeg (.int 2)), (.int 0)), (ua, kua, (.array .int), 3, [(.ref us0), (.ref us1), (.ref us2)], (.null)), (uc, kuc, .int, 3, [(.int 1), (.int 1), (.int 1)], (.int 0)), (sa, ksa, .int, 3, [(.int (0 + 1)), (.int (0 + 1)), (.int (0 + 1))], (.int 0)), (rx, krx, .int, 2, [(.int (1 : Int32)), (.int (2 : Int32))], (.int 0)), (ry, kry, .double, 4, [(.double x1), (.double z1), (.double x2), (.double z2)], (.double 0)), (us1, kus1, .int, 4, [(.int r), (.int 0), (.int 0), (.int 0)], (.int 0)), (ea, kea, .double, 8, (([(.double 0), (.double 0), (.double 0), (.double 0), (.double 0), (.double 0), (.double 0), (.double 0)].set ((2 : Int32) * ro).toNatClampNeg (.double (4602678819172646912 : UInt64))).set (((2 : Int32) * ro) + (1 : Int32)).toNatClampNeg (.double yo)), (.double 0)), (us0, kus0, .int, 4, [(.int ro), (.int 0), (.int 0), (.int 0)], (.int 0)), (px, kpx, .int, 2, [(.int (0 : Int32)), (.int 0)], (.int 0)), (py, kpy, .double, 4, [(.double FP.dconst1), (.double FP.dconst1), (.double 0), (.double 0)], (.double 0))] := H
  refine o_aload 363 W at_361 rfl rfl ?_
  refine o_iload 365 W at_363 rfl ?_
  refine o_iload 367 W at_365 rfl ?_
  refine o_i2dQ 368 W  (hd := at_367) (K := fun uxl huxl => ?_)
  refine o_ldc2D 371 W (tw hw 85) at_368 ?_
  refine o_ddivQ 372 W 5 huxl own_32 (own_nb32 _) (hd := at_371) (K := fun xl hxl => ?_)
  refine o_iload 374 W at_372 rfl ?_
  refine o_i2dQ 375 W  (hd := at_374) (K := fun uxh huxh => ?_)
  refine o_ldc2D 378 W (tw hw 85) at_375 ?_
  refine o_ddivQ 379 W 5 huxh own_32 (own_nb32 _) (hd := at_378) (K := fun xh hxh => ?_)
  have H : HM Z h [(ea, kea, .double, 8, (([(.double 0), (.double 0), (.double 0), (.double 0), (.double 0), (.double 0), (.double 0), (.double 0)].set ((2 : Int32) * ro).toNatClampNeg (.double (4602678819172646912 : UInt64))).set (((2 : Int32) * ro) + (1 : Int32)).toNatClampNeg (.double yo)), (.double 0)), (us2, kus2, .int, 4, [(.int r), (.int 0), (.int 0), (.int 0)], (.int 0)), (va, kva, (.array .int), 4, VL, (.null)), (ca, kca, (.array .double), 4, CL, (.null)), (la, kla, .int, 4, (((LL.set ro.toNatClampNeg (.int 1)).set r.toNatClampNeg (.int 1)).set r.toNatClampNeg (.int 2)), (.int 0)), (ua, kua, (.array .int), 3, [(.ref us0), (.ref us1), (.ref us2)], (.null)), (uc, kuc, .int, 3, [(.int 1), (.int 1), (.int 1)], (.int 0)), (sa, ksa, .int, 3, [(.int (0 + 1)), (.int (0 + 1)), (.int (0 + 1))], (.int 0)), (rx, krx, .int, 2, [(.int (1 : Int32)), (.int (2 : Int32))], (.int 0)), (ry, kry, .double, 4, [(.double x1), (.double z1), (.double x2), (.double z2)], (.double 0)), (us1, kus1, .int, 4, [(.int r), (.int 0), (.int 0), (.int 0)], (.int 0)), (us0, kus0, .int, 4, [(.int ro), (.int 0), (.int 0), (.int 0)], (.int 0)), (px, kpx, .int, 2, [(.int (0 : Int32)), (.int 0)], (.int 0)), (py, kpy, .double, 4, [(.double FP.dconst1), (.double FP.dconst1), (.double 0), (.double 0)], (.double 0))] := (H.front 10 rfl)
  refine o_virtual 382 [(.int r), (.double xl), (.double xh)] W (tw hw 70) (tw hw 71) (tw hw 73) (tw hw 72) (tw hw 7) (tw hw 74) (OBJ.1) (con_adx l Z b0 hw o va ca la ka ea la2 ua uc sa ev er so kva kca kla kka kea kla2 kua kuc ksa kev ker kso rcv r xl xh (([(.double 0), (.double 0), (.double 0), (.double 0), (.double 0), (.double 0), (.double 0), (.double 0)].set ((2 : Int32) * ro).toNatClampNeg (.double (4602678819172646912 : UInt64))).set (((2 : Int32) * ro) + (1 : Int32)).toNatClampNeg (.double yo)) hxl hxh beh.2 kr0 kr1 (by simp) ((own_gsetne xro1r0).trans ((own_gsetne xro0r0).trans (own_rep8 _ _))) ((own_gsetne xro1r1).trans ((own_gsetne xro0r1).trans (own_rep8 _ _))) xr0r1 _ W.old OBJ zo (HM.split (P := [_]) H).1) pd6 at_379 rfl all0 (fun T h v W qq gg => ?_)
  obtain ⟨rfl, Kc, OBJ1, yh, hyh, H1⟩ := qq
  show Go p e below _ _ (mkF m 382 #[.val (.int n0), .val (.int n1), .val (.int n2), .val (.int n3), .val (.int n4), .val (.int f0), .val (.int g0), .val (.int f1), .val (.int g1), .val (.int f2), .val (.int g2), .val (.int (0 : Int32)), .val (.int (1 : Int32)), .val (.int (1 : Int32)), .val (.int r), .val (.int ro), .val (.int dr), .val (.int ow), .val (.int pr), .val (.int se), .val (.int hf), .val (.int rs), .val (.int dm), .val (.int el), .val (.int eh), .val (.ref o), .unset, .unset, .unset, .unset, .unset] [])
  have H : HM Z h [(ea, kea, .double, 8, (((([(.double 0), (.double 0), (.double 0), (.double 0), (.double 0), (.double 0), (.double 0), (.double 0)].set ((2 : Int32) * ro).toNatClampNeg (.double (4602678819172646912 : UInt64))).set (((2 : Int32) * ro) + (1 : Int32)).toNatClampNeg (.double yo)).set ((2 : Int32) * r).toNatClampNeg (.double xl)).set (((2 : Int32) * r) + (1 : Int32)).toNatClampNeg (.double yh)), (.double 0)), (us2, kus2, .int, 4, [(.int r), (.int 0), (.int 0), (.int 0)], (.int 0)), (va, kva, (.array .int), 4, VL, (.null)), (ca, kca, (.array .double), 4, CL, (.null)), (la, kla, .int, 4, (((LL.set ro.toNatClampNeg (.int 1)).set r.toNatClampNeg (.int 1)).set r.toNatClampNeg (.int 2)), (.int 0)), (ua, kua, (.array .int), 3, [(.ref us0), (.ref us1), (.ref us2)], (.null)), (uc, kuc, .int, 3, [(.int 1), (.int 1), (.int 1)], (.int 0)), (sa, ksa, .int, 3, [(.int (0 + 1)), (.int (0 + 1)), (.int (0 + 1))], (.int 0)), (rx, krx, .int, 2, [(.int (1 : Int32)), (.int (2 : Int32))], (.int 0)), (ry, kry, .double, 4, [(.double x1), (.double z1), (.double x2), (.double z2)], (.double 0)), (us1, kus1, .int, 4, [(.int r), (.int 0), (.int 0), (.int 0)], (.int 0)), (us0, kus0, .int, 4, [(.int ro), (.int 0), (.int 0), (.int 0)], (.int 0)), (px, kpx, .int, 2, [(.int (0 : Int32)), (.int 0)], (.int 0)), (py, kpy, .double, 4, [(.double FP.dconst1), (.double FP.dconst1), (.double 0), (.double 0)], (.double 0))] := HM.frame (P := [_]) H H1 Kc (by simp [HE.a])
  have OBJ := OBJ1
  refine o_iconst 383 W (3) at_382 (by first | rfl | decide) ?_
  refine o_newarray 385 3 W (tw hw 27) at_383 (by decide) (by decide) (fun T h mi kmi W Emi Ami gmi zmi => ?_)
  have Ami : Arv Z h mi kmi .double 3 [(.double 0), (.double 0), (.double 0)] (.double 0) := own_pad 3 Ami
  have OBJ := OBJ.ext Emi
  have H : HM Z h [(mi, kmi, .double, 3, [(.double 0), (.double 0), (.double 0)], (.double 0)), (ea, kea, .double, 8, (((([(.double 0), (.double 0), (.double 0), (.double 0), (.double 0), (.double 0), (.double 0), (.double 0)].set ((2 : Int32) * ro).toNatClampNeg (.double (4602678819172646912 : UInt64))).set (((2 : Int32) * ro) + (1 : Int32)).toNatClampNeg (.double yo)).set ((2 : Int32) * r).toNatClampNeg (.double xl)).set (((2 : Int32) * r) + (1 : Int32)).toNatClampNeg (.double yh)), (.double 0)), (us2, kus2, .int, 4, [(.int r), (.int 0), (.int 0), (.int 0)], (.int 0)), (va, kva, (.array .int), 4, VL, (.null)), (ca, kca, (.array .double), 4, CL, (.null)), (la, kla, .int, 4, (((LL.set ro.toNatClampNeg (.int 1)).set r.toNatClampNeg (.int 1)).set r.toNatClampNeg (.int 2)), (.int 0)), (ua, kua, (.array .int), 3, [(.ref us0), (.ref us1), (.ref us2)], (.null)), (uc, kuc, .int, 3, [(.int 1), (.int 1), (.int 1)], (.int 0)), (sa, ksa, .int, 3, [(.int (0 + 1)), (.int (0 + 1)), (.int (0 + 1))], (.int 0)), (rx, krx, .int, 2, [(.int (1 : Int32)), (.int (2 : Int32))], (.int 0)), (ry, kry, .double, 4, [(.double x1), (.double z1), (.double x2), (.double z2)], (.double 0)), (us1, kus1, .int, 4, [(.int r), (.int 0), (.int 0), (.int 0)], (.int 0)), (us0, kus0, .int, 4, [(.int ro), (.int 0), (.int 0), (.int 0)], (.int 0)), (px, kpx, .int, 2, [(.int (0 : Int32)), (.int 0)], (.int 0)), (py, kpy, .double, 4, [(.double FP.dconst1), (.double FP.dconst1), (.double 0), (.double 0)], (.double 0))] := H.new Emi Ami gmi zmi
  refine o_astore 387 W #[.val (.int n0), .val (.int n1), .val (.int n2), .val (.int n3), .val (.int n4), .val (.int f0), .val (.int g0), .val (.int f1), .val (.int g1), .val (.int f2), .val (.int g2), .val (.int (0 : Int32)), .val (.int (1 : Int32)), .val (.int (1 : Int32)), .val (.int r), .val (.int ro), .val (.int dr), .val (.int ow), .val (.int pr), .val (.int se), .val (.int hf), .val (.int rs), .val (.int dm), .val (.int el), .val (.int eh), .val (.ref o), .val (.ref mi), .unset, .unset, .unset, .unset] at_385 rfl rfl ?_
  refine o_aload 389 W at_387 rfl rfl ?_
  refine o_iconst 390 W (0) at_389 (by first | rfl | decide) ?_
  refine o_iloadN 391 W at_390 rfl ?_
  refine o_i2dQ 392 W  (hd := at_391) (K := fun t0 ht0 => ?_)
  have G0 : Arv Z _ mi kmi .double 3 [(.double 0), (.double 0), (.double 0)] (.double 0) := H.get 0 rfl
  refine o_dastore 393 0 W G0 (by decide) rfl (by simp) (H.new? 0 rfl) at_392 (fun T h W w1 A1 => ?_)
  have OBJ := OBJ.wr (tw hw 6) (H.get 0 rfl) w1
  have H : HM Z h [(mi, kmi, .double, 3, [(.double t0), (.double 0), (.double 0)], (.double 0)), (ea, kea, .double, 8, (((([(.double 0), (.double 0), (.double 0), (.double 0), (.double 0), (.double 0), (.double 0), (.double 0)].set ((2 : Int32) * ro).toNatClampNeg (.double (4602678819172646912 : UInt64))).set (((2 : Int32) * ro) + (1 : Int32)).toNatClampNeg (.double yo)).set ((2 : Int32) * r).toNatClampNeg (.double xl)).set (((2 : Int32) * r) + (1 : Int32)).toNatClampNeg (.double yh)), (.double 0)), (us2, kus2, .int, 4, [(.int r), (.int 0), (.int 0), (.int 0)], (.int 0)), (va, kva, (.array .int), 4, VL, (.null)), (ca, kca, (.array .double), 4, CL, (.null)), (la, kla, .int, 4, (((LL.set ro.toNatClampNeg (.int 1)).set r.toNatClampNeg (.int 1)).set r.toNatClampNeg (.int 2)), (.int 0)), (ua, kua, (.array .int), 3, [(.ref us0), (.ref us1), (.ref us2)], (.null)), (uc, kuc, .int, 3, [(.int 1), (.int 1), (.int 1)], (.int 0)), (sa, ksa, .int, 3, [(.int (0 + 1)), (.int (0 + 1)), (.int (0 + 1))], (.int 0)), (rx, krx, .int, 2, [(.int (1 : Int32)), (.int (2 : Int32))], (.int 0)), (ry, kry, .double, 4, [(.double x1), (.double z1), (.double x2), (.double z2)], (.double 0)), (us1, kus1, .int, 4, [(.int r), (.int 0), (.int 0), (.int 0)], (.int 0)), (us0, kus0, .int, 4, [(.int ro), (.int 0), (.int 0), (.int 0)], (.int 0)), (px, kpx, .int, 2, [(.int (0 : Int32)), (.int 0)], (.int 0)), (py, kpy, .double, 4, [(.double FP.dconst1), (.double FP.dconst1), (.double 0), (.double 0)], (.double 0))] := H.wr 0 rfl w1 A1
  refine o_aload 395 W at_393 rfl rfl ?_
  refine o_iconst 396 W (1) at_395 (by first | rfl | decide) ?_
  refine o_iloadN 397 W at_396 rfl ?_
  refine o_i2dQ 398 W  (hd := at_397) (K := fun t1 ht1 => ?_)
  have G0 : Arv Z _ mi kmi .double 3 [(.double t0), (.double 0), (.double 0)] (.double 0) := H.get 0 rfl
  refine o_dastore 399 1 W G0 (by decide) rfl (by simp) (H.new? 0 rfl) at_398 (fun T h W w1 A1 => ?_)
  have OBJ := OBJ.wr (tw hw 6) (H.get 0 rfl) w1
  have H : HM Z h [(mi, kmi, .double, 3, [(.double t0), (.double t1), (.double 0)], (.double 0)), (ea, kea, .double, 8, (((([(.double 0), (.double 0), (.double 0), (.double 0), (.double 0), (.double 0), (.double 0), (.double 0)].set ((2 : Int32) * ro).toNatClampNeg (.double (4602678819172646912 : UInt64))).set (((2 : Int32) * ro) + (1 : Int32)).toNatClampNeg (.double yo)).set ((2 : Int32) * r).toNatClampNeg (.double xl)).set (((2 : Int32) * r) + (1 : Int32)).toNatClampNeg (.double yh)), (.double 0)), (us2, kus2, .int, 4, [(.int r), (.int 0), (.int 0), (.int 0)], (.int 0)), (va, kva, (.array .int), 4, VL, (.null)), (ca, kca, (.array .double), 4, CL, (.null)), (la, kla, .int, 4, (((LL.set ro.toNatClampNeg (.int 1)).set r.toNatClampNeg (.int 1)).set r.toNatClampNeg (.int 2)), (.int 0)), (ua, kua, (.array .int), 3, [(.ref us0), (.ref us1), (.ref us2)], (.null)), (uc, kuc, .int, 3, [(.int 1), (.int 1), (.int 1)], (.int 0)), (sa, ksa, .int, 3, [(.int (0 + 1)), (.int (0 + 1)), (.int (0 + 1))], (.int 0)), (rx, krx, .int, 2, [(.int (1 : Int32)), (.int (2 : Int32))], (.int 0)), (ry, kry, .double, 4, [(.double x1), (.double z1), (.double x2), (.double z2)], (.double 0)), (us1, kus1, .int, 4, [(.int r), (.int 0), (.int 0), (.int 0)], (.int 0)), (us0, kus0, .int, 4, [(.int ro), (.int 0), (.int 0), (.int 0)], (.int 0)), (px, kpx, .int, 2, [(.int (0 : Int32)), (.int 0)], (.int 0)), (py, kpy, .double, 4, [(.double FP.dconst1), (.double FP.dconst1), (.double 0), (.double 0)], (.double 0))] := H.wr 0 rfl w1 A1
  refine o_aload 401 W at_399 rfl rfl ?_
  refine o_iconst 402 W (2) at_401 (by first | rfl | decide) ?_
  refine o_iloadN 403 W at_402 rfl ?_
  refine o_i2dQ 404 W  (hd := at_403) (K := fun t2 ht2 => ?_)
  have G0 : Arv Z _ mi kmi .double 3 [(.double t0), (.double t1), (.double 0)] (.double 0) := H.get 0 rfl
  refine o_dastore 405 2 W G0 (by decide) rfl (by simp) (H.new? 0 rfl) at_404 (fun T h W w1 A1 => ?_)
  have OBJ := OBJ.wr (tw hw 6) (H.get 0 rfl) w1
  have H : HM Z h [(mi, kmi, .double, 3, [(.double t0), (.double t1), (.double t2)], (.double 0)), (ea, kea, .double, 8, (((([(.double 0), (.double 0), (.double 0), (.double 0), (.double 0), (.double 0), (.double 0), (.double 0)].set ((2 : Int32) * ro).toNatClampNeg (.double (4602678819172646912 : UInt64))).set (((2 : Int32) * ro) + (1 : Int32)).toNatClampNeg (.double yo)).set ((2 : Int32) * r).toNatClampNeg (.double xl)).set (((2 : Int32) * r) + (1 : Int32)).toNatClampNeg (.double yh)), (.double 0)), (us2, kus2, .int, 4, [(.int r), (.int 0), (.int 0), (.int 0)], (.int 0)), (va, kva, (.array .int), 4, VL, (.null)), (ca, kca, (.array .double), 4, CL, (.null)), (la, kla, .int, 4, (((LL.set ro.toNatClampNeg (.int 1)).set r.toNatClampNeg (.int 1)).set r.toNatClampNeg (.int 2)), (.int 0)), (ua, kua, (.array .int), 3, [(.ref us0), (.ref us1), (.ref us2)], (.null)), (uc, kuc, .int, 3, [(.int 1), (.int 1), (.int 1)], (.int 0)), (sa, ksa, .int, 3, [(.int (0 + 1)), (.int (0 + 1)), (.int (0 + 1))], (.int 0)), (rx, krx, .int, 2, [(.int (1 : Int32)), (.int (2 : Int32))], (.int 0)), (ry, kry, .double, 4, [(.double x1), (.double z1), (.double x2), (.double z2)], (.double 0)), (us1, kus1, .int, 4, [(.int r), (.int 0), (.int 0), (.int 0)], (.int 0)), (us0, kus0, .int, 4, [(.int ro), (.int 0), (.int 0), (.int 0)], (.int 0)), (px, kpx, .int, 2, [(.int (0 : Int32)), (.int 0)], (.int 0)), (py, kpy, .double, 4, [(.double FP.dconst1), (.double FP.dconst1), (.double 0), (.double 0)], (.double 0))] := H.wr 0 rfl w1 A1
  obtain ⟨to, hto, hmo, ho, hq0, hq1, hq2⟩ : ∃ to, DQ 0 qo.toInt to ∧ ([(.double t0), (.double t1), (.double t2)] : List Value).getD ow.toNatClampNeg (.double 0) = .double to ∧ (¬ ow < 0 ∧ ow < 3) ∧ (ow = 0 → qo = n0) ∧ (ow = 1 → qo = n1) ∧ (ow = 2 → qo = n2) := by
    rcases how with ⟨rfl, rfl⟩ | ⟨rfl, rfl⟩ | ⟨rfl, rfl⟩
    · exact ⟨t0, ht0, rfl, by decide, fun _ => rfl, fun q => absurd q (by decide), fun q => absurd q (by decide)⟩
    · exact ⟨t1, ht1, rfl, by decide, fun q => absurd q (by decide), fun _ => rfl, fun q => absurd q (by decide)⟩
    · exact ⟨t2, ht2, rfl, by decide, fun q => absurd q (by decide), fun q => absurd q (by decide), fun _ => rfl⟩
  refine Go.cutW W (g' := (mkF m 428 #[.val (.int n0), .val (.int n1), .val (.int n2), .val (.int n3), .val (.int n4), .val (.int f0), .val (.int g0), .val (.int f1), .val (.int g1), .val (.int f2), .val (.int g2), .val (.int (0 : Int32)), .val (.int (1 : Int32)), .val (.int (1 : Int32)), .val (.int r), .val (.int ro), .val (.int dr), .val (.int ow), .val (.int pr), .val (.int se), .val (.int hf), .val (.int rs), .val (.int dm), .val (.int el), .val (.int eh), .val (.ref o), .val (.ref mi), .unset, .unset, .unset, .unset] [(.long qo.toInt64)])) (fun J => ?_) (fun T W => ?_)
  · refine o_iload 407 W at_405 rfl ?_
    refine o_ifne 415 410 W at_407 (fun c407 => ?_) (fun c407 => ?_)
    · refine o_iload 417 W at_415 rfl ?_
      refine o_iconst 418 W (1) at_417 (by first | rfl | decide) ?_
      refine o_icne 426 421 W at_418 (fun c418 => ?_) (fun c418 => ?_)
      · refine o_iloadN 427 W at_426 rfl ?_
        refine o_i2l 428 W at_427 ?_
        rcases how with ⟨z1, z2⟩ | ⟨z1, z2⟩ | ⟨z1, z2⟩
        · exact absurd z1 c407
        · exact absurd z1 c418
        · rw [z2] at J; exact J T W
      · refine o_iloadN 422 W at_421 rfl ?_
        refine o_i2l 423 W at_422 ?_
        refine o_goto 428 W at_423 ?_
        rw [hq1 c418] at J
        exact J T W
    · refine o_iloadN 411 W at_410 rfl ?_
      refine o_i2l 412 W at_411 ?_
      refine o_goto 428 W at_412 ?_
      rw [hq0 c407] at J
      exact J T W
  refine o_lstore 430 W #[.val (.int n0), .val (.int n1), .val (.int n2), .val (.int n3), .val (.int n4), .val (.int f0), .val (.int g0), .val (.int f1), .val (.int g1), .val (.int f2), .val (.int g2), .val (.int (0 : Int32)), .val (.int (1 : Int32)), .val (.int (1 : Int32)), .val (.int r), .val (.int ro), .val (.int dr), .val (.int ow), .val (.int pr), .val (.int se), .val (.int hf), .val (.int rs), .val (.int dm), .val (.int el), .val (.int eh), .val (.ref o), .val (.ref mi), .val (.long qo.toInt64), .second, .unset, .unset] at_428 rfl ?_
  refine o_iload 432 W at_430 rfl ?_
  refine o_ifY 447 W at_432 (XT.i0_eq_t (by decide)) ?_
  refine o_lconst 448 W (0) at_447 (by first | rfl | decide) ?_
  have hp0 : (0 : Int64).toInt = 0 := rfl
  refine o_iload 450 W at_448 rfl ?_
  refine o_ifN 453 W at_450 (XT.i0_eq_f (by decide)) ?_
  refine o_iload 455 W at_453 rfl ?_
  refine o_iload 457 W at_455 rfl ?_
  refine o_iadd 458 W at_457 ?_
  refine o_i2l 459 W at_458 ?_
  refine o_iloadN 460 W at_459 rfl ?_
  refine o_i2l 461 W at_460 ?_
  refine o_lmul 462 W at_461 ?_
  have hp1 := own_lm (f := f1) (g := g1) (q := n1) rfl rfl bf1 bg1
  have pb1 := own_pbn (s := f1.toInt + g1.toInt) (q := n1.toInt) (by omega) (by omega) (by have := own_i31 n1; omega) (by have := own_i31 n1; omega)
  generalize (((f1 + g1).toInt64) * (n1.toInt64)) = p1 at hp1 ⊢
  refine o_goto 466 W at_462 ?_
  refine o_ladd 467 W at_466 ?_
  have hr1 := own_ladd hp0 hp1 (by omega)
  generalize ((0 : Int64) + p1) = r1 at hr1 ⊢
  refine o_iload 469 W at_467 rfl ?_
  refine o_ifN 472 W at_469 (XT.i0_eq_f (by decide)) ?_
  refine o_iload 474 W at_472 rfl ?_
  refine o_iload 476 W at_474 rfl ?_
  refine o_iadd 477 W at_476 ?_
  refine o_i2l 478 W at_477 ?_
  refine o_iloadN 479 W at_478 rfl ?_
  refine o_i2l 480 W at_479 ?_
  refine o_lmul 481 W at_480 ?_
  have hp2 := own_lm (f := f2) (g := g2) (q := n2) rfl rfl bf2 bg2
  have pb2 := own_pbn (s := f2.toInt + g2.toInt) (q := n2.toInt) (by omega) (by omega) (by have := own_i31 n2; omega) (by have := own_i31 n2; omega)
  generalize (((f2 + g2).toInt64) * (n2.toInt64)) = p2 at hp2 ⊢
  refine o_goto 485 W at_481 ?_
  refine o_ladd 486 W at_485 ?_
  have hr2 := own_ladd hr1 hp2 (by omega)
  generalize (r1 + p2) = r2 at hr2 ⊢
  refine o_ldc2J 489 W (tw hw 86) at_486 ?_
  refine o_lload 491 W at_489 rfl ?_
  refine o_lmul 492 W at_491 ?_
  have h64 := own_l64 qo
  have bqo := own_i31 qo
  generalize ((64 : Int64) * qo.toInt64) = p9 at h64 ⊢
  refine o_lsub 493 W at_492 ?_
  have href := own_lsub hr2 h64 (by omega)
  generalize (r2 - p9) = rf at href ⊢
  refine o_lstore 495 W #[.val (.int n0), .val (.int n1), .val (.int n2), .val (.int n3), .val (.int n4), .val (.int f0), .val (.int g0), .val (.int f1), .val (.int g1), .val (.int f2), .val (.int g2), .val (.int (0 : Int32)), .val (.int (1 : Int32)), .val (.int (1 : Int32)), .val (.int r), .val (.int ro), .val (.int dr), .val (.int ow), .val (.int pr), .val (.int se), .val (.int hf), .val (.int rs), .val (.int dm), .val (.int el), .val (.int eh), .val (.ref o), .val (.ref mi), .val (.long qo.toInt64), .second, .val (.long rf), .second] at_493 rfl ?_
  refine o_aload 497 W at_495 rfl rfl ?_
  refine o_iload 499 W at_497 rfl ?_
  refine o_iload 501 W at_499 rfl ?_
  refine o_aload 503 W at_501 rfl rfl ?_
  have H : HM Z h [(va, kva, (.array .int), 4, VL, (.null)), (ca, kca, (.array .double), 4, CL, (.null)), (la, kla, .int, 4, (((LL.set ro.toNatClampNeg (.int 1)).set r.toNatClampNeg (.int 1)).set r.toNatClampNeg (.int 2)), (.int 0)), (rx, krx, .int, 2, [(.int (1 : Int32)), (.int (2 : Int32))], (.int 0)), (ry, kry, .double, 4, [(.double x1), (.double z1), (.double x2), (.double z2)], (.double 0)), (mi, kmi, .double, 3, [(.double t0), (.double t1), (.double t2)], (.double 0)), (ea, kea, .double, 8, (((([(.double 0), (.double 0), (.double 0), (.double 0), (.double 0), (.double 0), (.double 0), (.double 0)].set ((2 : Int32) * ro).toNatClampNeg (.double (4602678819172646912 : UInt64))).set (((2 : Int32) * ro) + (1 : Int32)).toNatClampNeg (.double yo)).set ((2 : Int32) * r).toNatClampNeg (.double xl)).set (((2 : Int32) * r) + (1 : Int32)).toNatClampNeg (.double yh)), (.double 0)), (us2, kus2, .int, 4, [(.int r), (.int 0), (.int 0), (.int 0)], (.int 0)), (ua, kua, (.array .int), 3, [(.ref us0), (.ref us1), (.ref us2)], (.null)), (uc, kuc, .int, 3, [(.int 1), (.int 1), (.int 1)], (.int 0)), (sa, ksa, .int, 3, [(.int (0 + 1)), (.int (0 + 1)), (.int (0 + 1))], (.int 0)), (us1, kus1, .int, 4, [(.int r), (.int 0), (.int 0), (.int 0)], (.int 0)), (us0, kus0, .int, 4, [(.int ro), (.int 0), (.int 0), (.int 0)], (.int 0)), (px, kpx, .int, 2, [(.int (0 : Int32)), (.int 0)], (.int 0)), (py, kpy, .double, 4, [(.double FP.dconst1), (.double FP.dconst1), (.double 0), (.double 0)], (.double 0))] := (((((((H.front 1 rfl).front 1 rfl).front 10 rfl).front 10 rfl).front 7 rfl).front 7 rfl).front 7 rfl)
  refine o_virtual 506 [(.int r), (.int ow), (.ref mi)] W (tw hw 87) (tw hw 88) (tw hw 90) (tw hw 89) (tw hw 7) (tw hw 91) (OBJ.1) (con_mc2 l Z b0 hw o va ca la ka ea la2 ua uc sa ev er so rx ry mi kva kca kla kka kea kla2 kua kuc ksa kev ker kso krx kry kmi rcv r ow VL CL (((LL.set ro.toNatClampNeg (.int 1)).set r.toNatClampNeg (.int 1)).set r.toNatClampNeg (.int 2)) [(.double t0), (.double t1), (.double t2)] (((([(.double 0), (.double 0), (.double 0), (.double 0), (.double 0), (.double 0), (.double 0), (.double 0)].set ((2 : Int32) * ro).toNatClampNeg (.double (4602678819172646912 : UInt64))).set (((2 : Int32) * ro) + (1 : Int32)).toNatClampNeg (.double yo)).set ((2 : Int32) * r).toNatClampNeg (.double xl)).set (((2 : Int32) * r) + (1 : Int32)).toNatClampNeg (.double yh))  r4 hV hC (own_gset (by simp [rr, lL])) kr0 kr1 xl yh to el.toInt eh.toInt qo.toInt hxl hyh hto ⟨bel.1, bel.2, beh.1, beh.2, bqo.1, (by omega)⟩ ((own_gsetne xr0r1.symm).trans (own_gset (by simp [qr0]))) (own_gset (by simp [qr1])) ho hmo 1 x1 z1 t1 f1.toInt g1.toInt n1.toInt hx1 hz1 ht1 ⟨bf1.1, (by omega), bg1.1, (by omega), (own_i31 _).1, (by have := own_i31 n1; omega)⟩ (by decide) rfl (fun q => by rw [hq1 q.symm]) 2 x2 z2 t2 f2.toInt g2.toInt n2.toInt hx2 hz2 ht2 ⟨bf2.1, (by omega), bg2.1, (by omega), (own_i31 _).1, (by have := own_i31 n2; omega)⟩ (by decide) rfl (fun q => by rw [hq2 q.symm]) _ W.old OBJ (HM.split (P := [_, _, _, _, _, _, _]) H).1) pd7 at_503 rfl all0 (fun T h v W qq gg => ?_)
  obtain ⟨_, rfl, sm, rfl, hsm, rfl⟩ := qq
  show Go p e below _ _ (mkF m 506 #[.val (.int n0), .val (.int n1), .val (.int n2), .val (.int n3), .val (.int n4), .val (.int f0), .val (.int g0), .val (.int f1), .val (.int g1), .val (.int f2), .val (.int g2), .val (.int (0 : Int32)), .val (.int (1 : Int32)), .val (.int (1 : Int32)), .val (.int r), .val (.int ro), .val (.int dr), .val (.int ow), .val (.int pr), .val (.int se), .val (.int hf), .val (.int rs), .val (.int dm), .val (.int el), .val (.int eh), .val (.ref o), .val (.ref mi), .val (.long qo.toInt64), .second, .val (.long rf), .second] [(.double sm)])
  have hS : ((-(el.toInt + eh.toInt) * qo.toInt + (f1.toInt + g1.toInt) * (n1.toInt - qo.toInt)) + (f2.toInt + g2.toInt) * (n2.toInt - qo.toInt)) = 0 + (f1.toInt + g1.toInt) * n1.toInt + (f2.toInt + g2.toInt) * n2.toInt - 64 * qo.toInt := by
    have e9 : el.toInt = 64 - ((f1.toInt + g1.toInt) + (f2.toInt + g2.toInt)) - eh.toInt := by omega
    rw [e9]
    simp only [Int.mul_sub, Int.sub_mul, Int.add_mul, Int.neg_mul, Int.zero_mul]
    omega
  rw [hS, ← href] at hsm
  have bS : -1000000000000 ≤ rf.toInt ∧ rf.toInt ≤ 1000000000000 := by rw [href]; omega
  refine o_ldc2D 509 W (tw hw 93) at_506 ?_
  refine o_dmulQ 510 W hsm own_64 (by omega) (hd := at_509) (K := fun ym hym => ?_)
  refine o_lload 512 W at_510 rfl ?_
  refine o_l2dQ 513 W (by omega) (hd := at_512) (K := fun yr hyr => ?_)
  have hyu := hyr.up 6
  refine o_dcmpQ 514 W hym hyu at_513 ?_
  refine o_ifN 517 W at_514 (XT.i0_ne_f ((own_c0 _ _).mpr (by first | rfl | omega))) ?_
  refine o_iconst 518 W (1) at_517 (by first | rfl | decide) ?_
  refine o_goto 522 W at_518 ?_
  exact o_nret W (1 : Int32) (by simp) (by decide) at_522 (rfl)
theorem own_tail7 (l : Launch) (Z : State) (b0 : Array Value) (hw : ∀ d ∈ tables_1, d.before b0 Z = true) {p : Program} {e : Env} {s : State} {m : MethodId} {args : Array Value} {below : List Frame} {meth : Method} {c : Code} {T : State} {h : Heap} {sf : List Addr} (n0 n1 n2 n3 n4 f0 g0 f1 g1 f2 g2 r ro dr ow pr se hf rs dm el eh qo : Int32) (o va ca la ka ea la2 ua uc sa ev er so px py rx ry : Addr) (kva kca kla kka kea kla2 kua kuc ksa kev ker kso kpx kpy krx kry : ClassId) (rcv : Value) (VL CL LL : List Value) (r4 : ¬ r < 0 ∧ r < 4) (ro4 : ¬ ro < 0 ∧ ro < 4) (hne : ro.toNatClampNeg ≠ r.toNatClampNeg) (xr0r1 : ((2 : Int32) * r).toNatClampNeg ≠ (((2 : Int32) * r) + (1 : Int32)).toNatClampNeg) (xro0r0 : ((2 : Int32) * ro).toNatClampNeg ≠ ((2 : Int32) * r).toNatClampNeg) (xro0r1 : ((2 : Int32) * ro).toNatClampNeg ≠ (((2 : Int32) * r) + (1 : Int32)).toNatClampNeg) (xro0ro1 : ((2 : Int32) * ro).toNatClampNeg ≠ (((2 : Int32) * ro) + (1 : Int32)).toNatClampNeg) (xro1r0 : (((2 : Int32) * ro) + (1 : Int32)).toNatClampNeg ≠ ((2 : Int32) * r).toNatClampNeg) (xro1r1 : (((2 : Int32) * ro) + (1 : Int32)).toNatClampNeg ≠ (((2 : Int32) * r) + (1 : Int32)).toNatClampNeg) (kr0 : ¬ ((2 : Int32) * r) < 0 ∧ ((2 : Int32) * r) < 8) (kr1 : ¬ (((2 : Int32) * r) + (1 : Int32)) < 0 ∧ (((2 : Int32) * r) + (1 : Int32)) < 8) (kro0 : ¬ ((2 : Int32) * ro) < 0 ∧ ((2 : Int32) * ro) < 8) (kro1 : ¬ (((2 : Int32) * ro) + (1 : Int32)) < 0 ∧ (((2 : Int32) * ro) + (1 : Int32)) < 8) (lV : VL.length = 4) (lC : CL.length = 4) (lL : LL.length = 4) (hV : VL.getD r.toNatClampNeg (.null) = .ref rx) (hVo : VL.getD ro.toNatClampNeg (.null) = .ref px) (hC : CL.getD r.toNatClampNeg (.null) = .ref ry) (hCo : CL.getD ro.toNatClampNeg (.null) = .ref py) (hL : LL.getD r.toNatClampNeg (.int 0) = .int 0) (hLo : LL.getD ro.toNatClampNeg (.int 0) = .int 0) (bf0 : 0 ≤ f0.toInt ∧ f0.toInt ≤ 20) (bg0 : 0 ≤ g0.toInt ∧ g0.toInt ≤ 20) (bf1 : 0 ≤ f1.toInt ∧ f1.toInt ≤ 20) (bg1 : 0 ≤ g1.toInt ∧ g1.toInt ≤ 20) (bf2 : 0 ≤ f2.toInt ∧ f2.toInt ≤ 20) (bg2 : 0 ≤ g2.toInt ∧ g2.toInt ≤ 20) (bel : 0 ≤ el.toInt ∧ el.toInt ≤ 32) (beh : 0 ≤ eh.toInt ∧ eh.toInt ≤ 32) (hee : el.toInt + eh.toInt = 64 - ((f0.toInt + g0.toInt) + (f1.toInt + g1.toInt) + (f2.toInt + g2.toInt))) (how : ow = 0 ∧ qo = n0 ∨ ow = 1 ∧ qo = n1 ∨ ow = 2 ∧ qo = n2) (Ova : OvrA Z kva .int "[I") (Oca : OvrA Z kca .double "[D") (Oua : OvrA Z kua .int "[I") (zo : Z.heap.size ≤ o) (W : Wk p l e room_1 s m args below meth c Z x code maxLocals ret T h 17 107 sf) (OBJ : OB Z h o "com/example/markov_reachability/markovreachability/IntervalEquations" [("ceiling", "D", (.double FP.dconst1)), ("variables", "[[I", (.ref va)), ("coefficients", "[[D", (.ref ca)), ("length", "[I", (.ref la)), ("constant", "[D", (.ref ka)), ("exit", "[D", (.ref ea)), ("eliminating", "[Z", (.ref la2)), ("users", "[[I", (.ref ua)), ("userCount", "[I", (.ref uc)), ("substitutable", "[I", (.ref sa)), ("eliminatedVariable", "[I", (.ref ev)), ("eliminatedRow", "[I", (.ref er)), ("slot", "[I", (.ref so)), ("rowCount", "I", rcv)]) (H : HM Z h [(va, kva, (.array .int), 4, VL, (.null)), (ca, kca, (.array .double), 4, CL, (.null)), (la, kla, .int, 4, LL, (.int 0)), (ua, kua, (.array .int), 3, [(.null), (.null), (.null)], (.null)), (uc, kuc, .int, 3, [(.int 0), (.int 0), (.int 0)], (.int 0)), (sa, ksa, .int, 3, [(.int 0), (.int 0), (.int 0)], (.int 0)), (px, kpx, .int, 2, [(.int 0), (.int 0)], (.int 0)), (py, kpy, .double, 4, [(.double 0), (.double 0), (.double 0), (.double 0)], (.double 0)), (rx, krx, .int, 2, [(.int 0), (.int 0)], (.int 0)), (ry, kry, .double, 4, [(.double 0), (.double 0), (.double 0), (.double 0)], (.double 0)), (ea, kea, .double, 8, [(.double 0), (.double 0), (.double 0), (.double 0), (.double 0), (.double 0), (.double 0), (.double 0)], (.double 0))]) : Go p e below (Gd s below Z (QV fun w h => w = .int 1) (room_1).cells (room_1).slots) T (mkF m 259 #[.val (.int n0), .val (.int n1), .val (.int n2), .val (.int n3), .val (.int n4), .val (.int f0), .val (.int g0), .val (.int f1), .val (.int g1), .val (.int f2), .val (.int g2), .val (.int (1 : Int32)), .val (.int (1 : Int32)), .val (.int (1 : Int32)), .val (.int r), .val (.int ro), .val (.int dr), .val (.int ow), .val (.int pr), .val (.int se), .val (.int hf), .val (.int rs), .val (.int dm), .val (.int el), .val (.int eh), .val (.ref o), .unset, .unset, .unset, .unset, .unset] []) := by
  have rr := own_r4 r4
  have qr := own_r4 ro4
  have qr0 := own_r8 kr0
  have qr1 := own_r8 kr1
  have qro0 := own_r8 kro0
  have qro1 := own_r8 kro1
  refine o_aload 261 W at_259 rfl rfl ?_
  refine o_iload 263 W at_261 rfl ?_
  refine o_iconst 264 W (0) at_263 (by first | rfl | decide) ?_
  refine o_dconst1 265 W at_264 ?_
  refine o_dconst1 266 W at_265 ?_
  have H : HM Z h [(va, kva, (.array .int), 4, VL, (.null)), (ca, kca, (.array .double), 4, CL, (.null)), (la, kla, .int, 4, LL, (.int 0)), (ua, kua, (.array .int), 3, [(.null), (.null), (.null)], (.null)), (uc, kuc, .int, 3, [(.int 0), (.int 0), (.int 0)], (.int 0)), (sa, ksa, .int, 3, [(.int 0), (.int 0), (.int 0)], (.int 0)), (px, kpx, .int, 2, [(.int 0), (.int 0)], (.int 0)), (py, kpy, .double, 4, [(.double 0), (.double 0), (.double 0), (.double 0)], (.double 0)), (rx, krx, .int, 2, [(.int 0), (.int 0)], (.int 0)), (ry, kry, .double, 4, [(.double 0), (.double 0), (.double 0), (.double 0)], (.double 0)), (ea, kea, .double, 8, [(.double 0), (.double 0), (.double 0), (.double 0), (.double 0), (.double 0), (.double 0), (.double 0)], (.double 0))] := ((((((((H.front 7 rfl).front 7 rfl).front 7 rfl).front 7 rfl).front 7 rfl).front 7 rfl).front 7 rfl).front 7 rfl)
  refine o_virtual 269 [(.int ro), (.int (0 : Int32)), (.double FP.dconst1), (.double FP.dconst1)] W (tw hw 60) (tw hw 61) (tw hw 63) (tw hw 62) (tw hw 7) (tw hw 64) (OBJ.1) (con_adcA0 l Z b0 hw o va ca la ka ea la2 ua uc sa ev er so px py kva kca kla kka kea kla2 kua kuc ksa kev ker kso kpx kpy rcv ro (0 : Int32) 0 FP.dconst1 FP.dconst1 VL CL LL [(.null), (.null), (.null)] [(.int 0), (.int 0), (.int 0)] [(.int 0), (.int 0), (.int 0)] (.int 0) (.int 0) (.double 0) (.double 0) (.double 0) (.double 0) ro4 (by decide) (by simp [lV]) (by simp [lC]) (by simp [lL]) (by simp) (by simp) (by simp) hVo hCo hLo rfl rfl rfl Ova Oca Oua _ W.old OBJ (HM.split (P := [_, _, _, _, _, _, _, _]) H).1) pd4 at_266 rfl all0 (fun T h v W qq gg => ?_)
  obtain ⟨rfl, Kc, OBJ1, us0, kus0, nus0, H1⟩ := qq
  show Go p e below _ _ (mkF m 269 #[.val (.int n0), .val (.int n1), .val (.int n2), .val (.int n3), .val (.int n4), .val (.int f0), .val (.int g0), .val (.int f1), .val (.int g1), .val (.int f2), .val (.int g2), .val (.int (1 : Int32)), .val (.int (1 : Int32)), .val (.int (1 : Int32)), .val (.int r), .val (.int ro), .val (.int dr), .val (.int ow), .val (.int pr), .val (.int se), .val (.int hf), .val (.int rs), .val (.int dm), .val (.int el), .val (.int eh), .val (.ref o), .unset, .unset, .unset, .unset, .unset] [])
  have H : HM Z h [(us0, kus0, .int, 4, [(.int ro), (.int 0), (.int 0), (.int 0)], (.int 0)), (va, kva, (.array .int), 4, VL, (.null)), (ca, kca, (.array .double), 4, CL, (.null)), (la, kla, .int, 4, (LL.set ro.toNatClampNeg (.int 1)), (.int 0)), (ua, kua, (.array .int), 3, ([(.null), (.null), (.null)].set (0 : Int32).toNatClampNeg (.ref us0)), (.null)), (uc, kuc, .int, 3, ([(.int 0), (.int 0), (.int 0)].set (0 : Int32).toNatClampNeg (.int 1)), (.int 0)), (sa, ksa, .int, 3, ([(.int 0), (.int 0), (.int 0)].set (0 : Int32).toNatClampNeg (.int (0 + 1))), (.int 0)), (px, kpx, .int, 2, [(.int (0 : Int32)), (.int 0)], (.int 0)), (py, kpy, .double, 4, [(.double FP.dconst1), (.double FP.dconst1), (.double 0), (.double 0)], (.double 0)), (rx, krx, .int, 2, [(.int 0), (.int 0)], (.int 0)), (ry, kry, .double, 4, [(.double 0), (.double 0), (.double 0), (.double 0)], (.double 0)), (ea, kea, .double, 8, [(.double 0), (.double 0), (.double 0), (.double 0), (.double 0), (.double 0), (.double 0), (.double 0)], (.double 0))] := HM.frame (P := [_, _, _, _, _, _, _, _]) H H1 Kc (by simp [HE.a, nus0])
  have OBJ := OBJ1
  have H : HM Z h [(us0, kus0, .int, 4, [(.int ro), (.int 0), (.int 0), (.int 0)], (.int 0)), (va, kva, (.array .int), 4, VL, (.null)), (ca, kca, (.array .double), 4, CL, (.null)), (la, kla, .int, 4, (LL.set ro.toNatClampNeg (.int 1)), (.int 0)), (ua, kua, (.array .int), 3, [(.ref us0), (.null), (.null)], (.null)), (uc, kuc, .int, 3, [(.int 1), (.int 0), (.int 0)], (.int 0)), (sa, ksa, .int, 3, [(.int (0 + 1)), (.int 0), (.int 0)], (.int 0)), (px, kpx, .int, 2, [(.int (0 : Int32)), (.int 0)], (.int 0)), (py, kpy, .double, 4, [(.double FP.dconst1), (.double FP.dconst1), (.double 0), (.double 0)], (.double 0)), (rx, krx, .int, 2, [(.int 0), (.int 0)], (.int 0)), (ry, kry, .double, 4, [(.double 0), (.double 0), (.double 0), (.double 0)], (.double 0)), (ea, kea, .double, 8, [(.double 0), (.double 0), (.double 0), (.double 0), (.double 0), (.double 0), (.double 0), (.double 0)], (.double 0))] := H
  refine o_aload 271 W at_269 rfl rfl ?_
  refine o_iload 273 W at_271 rfl ?_
  refine o_ldc2D 276 W (tw hw 69) at_273 ?_
  refine o_dconst1 277 W at_276 ?_
  have H : HM Z h [(ea, kea, .double, 8, [(.double 0), (.double 0), (.double 0), (.double 0), (.double 0), (.double 0), (.double 0), (.double 0)], (.double 0)), (us0, kus0, .int, 4, [(.int ro), (.int 0), (.int 0), (.int 0)], (.int 0)), (va, kva, (.array .int), 4, VL, (.null)), (ca, kca, (.array .double), 4, CL, (.null)), (la, kla, .int, 4, (LL.set ro.toNatClampNeg (.int 1)), (.int 0)), (ua, kua, (.array .int), 3, [(.ref us0), (.null), (.null)], (.null)), (uc, kuc, .int, 3, [(.int 1), (.int 0), (.int 0)], (.int 0)), (sa, ksa, .int, 3, [(.int (0 + 1)), (.int 0), (.int 0)], (.int 0)), (px, kpx, .int, 2, [(.int (0 : Int32)), (.int 0)], (.int 0)), (py, kpy, .double, 4, [(.double FP.dconst1), (.double FP.dconst1), (.double 0), (.double 0)], (.double 0)), (rx, krx, .int, 2, [(.int 0), (.int 0)], (.int 0)), (ry, kry, .double, 4, [(.double 0), (.double 0), (.double 0), (.double 0)], (.double 0))] := (H.front 11 rfl)
  refine o_virtual 280 [(.int ro), (.double (4602678819172646912 : UInt64)), (.double FP.dconst1)] W (tw hw 70) (tw hw 71) (tw hw 73) (tw hw 72) (tw hw 7) (tw hw 74) (OBJ.1) (con_adx l Z b0 hw o va ca la ka ea la2 ua uc sa ev er so kva kca kla kka kea kla2 kua kuc ksa kev ker kso rcv ro (4602678819172646912 : UInt64) FP.dconst1 [(.double 0), (.double 0), (.double 0), (.double 0), (.double 0), (.double 0), (.double 0), (.double 0)] own_half own_one5 (by omega) kro0 kro1 (by simp) (own_rep8 _ _) (own_rep8 _ _) xro0ro1 _ W.old OBJ zo (HM.split (P := [_]) H).1) pd6 at_277 rfl all0 (fun T h v W qq gg => ?_)
  obtain ⟨rfl, Kc, OBJ1, yo, hyo, H1⟩ := qq
  show Go p e below _ _ (mkF m 280 #[.val (.int n0), .val (.int n1), .val (.int n2), .val (.int n3), .val (.int n4), .val (.int f0), .val (.int g0), .val (.int f1), .val (.int g1), .val (.int f2), .val (.int g2), .val (.int (1 : Int32)), .val (.int (1 : Int32)), .val (.int (1 : Int32)), .val (.int r), .val (.int ro), .val (.int dr), .val (.int ow), .val (.int pr), .val (.int se), .val (.int hf), .val (.int rs), .val (.int dm), .val (.int el), .val (.int eh), .val (.ref o), .unset, .unset, .unset, .unset, .unset] [])
  have H : HM Z h [(ea, kea, .double, 8, (([(.double 0), (.double 0), (.double 0), (.double 0), (.double 0), (.double 0), (.double 0), (.double 0)].set ((2 : Int32) * ro).toNatClampNeg (.double (4602678819172646912 : UInt64))).set (((2 : Int32) * ro) + (1 : Int32)).toNatClampNeg (.double yo)), (.double 0)), (us0, kus0, .int, 4, [(.int ro), (.int 0), (.int 0), (.int 0)], (.int 0)), (va, kva, (.array .int), 4, VL, (.null)), (ca, kca, (.array .double), 4, CL, (.null)), (la, kla, .int, 4, (LL.set ro.toNatClampNeg (.int 1)), (.int 0)), (ua, kua, (.array .int), 3, [(.ref us0), (.null), (.null)], (.null)), (uc, kuc, .int, 3, [(.int 1), (.int 0), (.int 0)], (.int 0)), (sa, ksa, .int, 3, [(.int (0 + 1)), (.int 0), (.int 0)], (.int 0)), (px, kpx, .int, 2, [(.int (0 : Int32)), (.int 0)], (.int 0)), (py, kpy, .double, 4, [(.double FP.dconst1), (.double FP.dconst1), (.double 0), (.double 0)], (.double 0)), (rx, krx, .int, 2, [(.int 0), (.int 0)], (.int 0)), (ry, kry, .double, 4, [(.double 0), (.double 0), (.double 0), (.double 0)], (.double 0))] := HM.frame (P := [_]) H H1 Kc (by simp [HE.a])
  have OBJ := OBJ1
  refine o_iload 282 W at_280 rfl ?_
  refine o_ifN 285 W at_282 (XT.i0_eq_f (by decide)) ?_
  refine o_aload 287 W at_285 rfl rfl ?_
  refine o_iload 289 W at_287 rfl ?_
  refine o_iconst 290 W (0) at_289 (by first | rfl | decide) ?_
  refine o_iload 292 W at_290 rfl ?_
  refine o_i2dQ 293 W  (hd := at_292) (K := fun ux0 hux0 => ?_)
  refine o_ldc2D 296 W (tw hw 85) at_293 ?_
  refine o_ddivQ 297 W 5 hux0 own_32 (own_nb32 _) (hd := at_296) (K := fun x0 hx0 => ?_)
  refine o_iload 299 W at_297 rfl ?_
  refine o_i2dQ 300 W  (hd := at_299) (K := fun uz0 huz0 => ?_)
  refine o_ldc2D 303 W (tw hw 85) at_300 ?_
  refine o_ddivQ 304 W 5 huz0 own_32 (own_nb32 _) (hd := at_303) (K := fun z0 hz0 => ?_)
  have H : HM Z h [(va, kva, (.array .int), 4, VL, (.null)), (ca, kca, (.array .double), 4, CL, (.null)), (la, kla, .int, 4, (LL.set ro.toNatClampNeg (.int 1)), (.int 0)), (ua, kua, (.array .int), 3, [(.ref us0), (.null), (.null)], (.null)), (uc, kuc, .int, 3, [(.int 1), (.int 0), (.int 0)], (.int 0)), (sa, ksa, .int, 3, [(.int (0 + 1)), (.int 0), (.int 0)], (.int 0)), (rx, krx, .int, 2, [(.int 0), (.int 0)], (.int 0)), (ry, kry, .double, 4, [(.double 0), (.double 0), (.double 0), (.double 0)], (.double 0)), (us0, kus0, .int, 4, [(.int ro), (.int 0), (.int 0), (.int 0)], (.int 0)), (ea, kea, .double, 8, (([(.double 0), (.double 0), (.double 0), (.double 0), (.double 0), (.double 0), (.double 0), (.double 0)].set ((2 : Int32) * ro).toNatClampNeg (.double (4602678819172646912 : UInt64))).set (((2 : Int32) * ro) + (1 : Int32)).toNatClampNeg (.double yo)), (.double 0)), (px, kpx, .int, 2, [(.int (0 : Int32)), (.int 0)], (.int 0)), (py, kpy, .double, 4, [(.double FP.dconst1), (.double FP.dconst1), (.double 0), (.double 0)], (.double 0))] := (((((((((H.front 1 rfl).front 11 rfl).front 11 rfl).front 9 rfl).front 9 rfl).front 9 rfl).front 9 rfl).front 9 rfl).front 9 rfl)
  refine o_virtual 307 [(.int r), (.int (0 : Int32)), (.double x0), (.double z0)] W (tw hw 60) (tw hw 61) (tw hw 63) (tw hw 62) (tw hw 7) (tw hw 64) (OBJ.1) (con_adcB0 l Z b0 hw o va ca la ka ea la2 ua uc sa ev er so rx ry us0 kva kca kla kka kea kla2 kua kuc ksa kev ker kso krx kry kus0 rcv r (0 : Int32) (0 + 1) x0 z0 VL CL (LL.set ro.toNatClampNeg (.int 1)) [(.ref us0), (.null), (.null)] [(.int 1), (.int 0), (.int 0)] [(.int (0 + 1)), (.int 0), (.int 0)] (.int 0) (.int 0) (.double 0) (.double 0) (.double 0) (.double 0) (.int ro) (.int 0) (.int 0) (.int 0) r4 (by decide) (by simp [lV]) (by simp [lC]) (by simp [lL]) (by simp) (by simp) (by simp) hV hC ((own_gsetne hne).trans hL) rfl rfl rfl Ova Oca Oua _ W.old OBJ (HM.split (P := [_, _, _, _, _, _, _, _, _]) H).1) pd4 at_304 rfl all0 (fun T h v W qq gg => ?_)
  obtain ⟨rfl, Kc, OBJ1, H1⟩ := qq
  show Go p e below _ _ (mkF m 307 #[.val (.int n0), .val (.int n1), .val (.int n2), .val (.int n3), .val (.int n4), .val (.int f0), .val (.int g0), .val (.int f1), .val (.int g1), .val (.int f2), .val (.int g2), .val (.int (1 : Int32)), .val (.int (1 : Int32)), .val (.int (1 : Int32)), .val (.int r), .val (.int ro), .val (.int dr), .val (.int ow), .val (.int pr), .val (.int se), .val (.int hf), .val (.int rs), .val (.int dm), .val (.int el), .val (.int eh), .val (.ref o), .unset, .unset, .unset, .unset, .unset] [])
  have H : HM Z h [(va, kva, (.array .int), 4, VL, (.null)), (ca, kca, (.array .double), 4, CL, (.null)), (la, kla, .int, 4, ((LL.set ro.toNatClampNeg (.int 1)).set r.toNatClampNeg (.int 1)), (.int 0)), (ua, kua, (.array .int), 3, [(.ref us0), (.null), (.null)], (.null)), (uc, kuc, .int, 3, ([(.int 1), (.int 0), (.int 0)].set (0 : Int32).toNatClampNeg (.int 2)), (.int 0)), (sa, ksa, .int, 3, ([(.int (0 + 1)), (.int 0), (.int 0)].set (0 : Int32).toNatClampNeg (.int ((0 + 1) + 1))), (.int 0)), (rx, krx, .int, 2, [(.int (0 : Int32)), (.int 0)], (.int 0)), (ry, kry, .double, 4, [(.double x0), (.double z0), (.double 0), (.double 0)], (.double 0)), (us0, kus0, .int, 4, [(.int ro), (.int r), (.int 0), (.int 0)], (.int 0)), (ea, kea, .double, 8, (([(.double 0), (.double 0), (.double 0), (.double 0), (.double 0), (.double 0), (.double 0), (.double 0)].set ((2 : Int32) * ro).toNatClampNeg (.double (4602678819172646912 : UInt64))).set (((2 : Int32) * ro) + (1 : Int32)).toNatClampNeg (.double yo)), (.double 0)), (px, kpx, .int, 2, [(.int (0 : Int32)), (.int 0)], (.int 0)), (py, kpy, .double, 4, [(.double FP.dconst1), (.double FP.dconst1), (.double 0), (.double 0)], (.double 0))] := HM.frame (P := [_, _, _, _, _, _, _, _, _]) H H1 Kc (by simp [HE.a])
  have OBJ := OBJ1
  have H : HM Z h [(va, kva, (.array .int), 4, VL, (.null)), (ca, kca, (.array .double), 4, CL, (.null)), (la, kla, .int, 4, ((LL.set ro.toNatClampNeg (.int 1)).set r.toNatClampNeg (.int 1)), (.int 0)), (ua, kua, (.array .int), 3, [(.ref us0), (.null), (.null)], (.null)), (uc, kuc, .int, 3, [(.int 2), (.int 0), (.int 0)], (.int 0)), (sa, ksa, .int, 3, [(.int ((0 + 1) + 1)), (.int 0), (.int 0)], (.int 0)), (rx, krx, .int, 2, [(.int (0 : Int32)), (.int 0)], (.int 0)), (ry, kry, .double, 4, [(.double x0), (.double z0), (.double 0), (.double 0)], (.double 0)), (us0, kus0, .int, 4, [(.int ro), (.int r), (.int 0), (.int 0)], (.int 0)), (ea, kea, .double, 8, (([(.double 0), (.double 0), (.double 0), (.double 0), (.double 0), (.double 0), (.double 0), (.double 0)].set ((2 : Int32) * ro).toNatClampNeg (.double (4602678819172646912 : UInt64))).set (((2 : Int32) * ro) + (1 : Int32)).toNatClampNeg (.double yo)), (.double 0)), (px, kpx, .int, 2, [(.int (0 : Int32)), (.int 0)], (.int 0)), (py, kpy, .double, 4, [(.double FP.dconst1), (.double FP.dconst1), (.double 0), (.double 0)], (.double 0))] := H
  refine o_iload 309 W at_307 rfl ?_
  refine o_ifN 312 W at_309 (XT.i0_eq_f (by decide)) ?_
  refine o_aload 314 W at_312 rfl rfl ?_
  refine o_iload 316 W at_314 rfl ?_
  refine o_iconst 317 W (1) at_316 (by first | rfl | decide) ?_
  refine o_iload 319 W at_317 rfl ?_
  refine o_i2dQ 320 W  (hd := at_319) (K := fun ux1 hux1 => ?_)
  refine o_ldc2D 323 W (tw hw 85) at_320 ?_
  refine o_ddivQ 324 W 5 hux1 own_32 (own_nb32 _) (hd := at_323) (K := fun x1 hx1 => ?_)
  refine o_iload 326 W at_324 rfl ?_
  refine o_i2dQ 327 W  (hd := at_326) (K := fun uz1 huz1 => ?_)
  refine o_ldc2D 330 W (tw hw 85) at_327 ?_
  refine o_ddivQ 331 W 5 huz1 own_32 (own_nb32 _) (hd := at_330) (K := fun z1 hz1 => ?_)
  have H : HM Z h [(va, kva, (.array .int), 4, VL, (.null)), (ca, kca, (.array .double), 4, CL, (.null)), (la, kla, .int, 4, ((LL.set ro.toNatClampNeg (.int 1)).set r.toNatClampNeg (.int 1)), (.int 0)), (ua, kua, (.array .int), 3, [(.ref us0), (.null), (.null)], (.null)), (uc, kuc, .int, 3, [(.int 2), (.int 0), (.int 0)], (.int 0)), (sa, ksa, .int, 3, [(.int ((0 + 1) + 1)), (.int 0), (.int 0)], (.int 0)), (rx, krx, .int, 2, [(.int (0 : Int32)), (.int 0)], (.int 0)), (ry, kry, .double, 4, [(.double x0), (.double z0), (.double 0), (.double 0)], (.double 0)), (us0, kus0, .int, 4, [(.int ro), (.int r), (.int 0), (.int 0)], (.int 0)), (ea, kea, .double, 8, (([(.double 0), (.double 0), (.double 0), (.double 0), (.double 0), (.double 0), (.double 0), (.double 0)].set ((2 : Int32) * ro).toNatClampNeg (.double (4602678819172646912 : UInt64))).set (((2 : Int32) * ro) + (1 : Int32)).toNatClampNeg (.double yo)), (.double 0)), (px, kpx, .int, 2, [(.int (0 : Int32)), (.int 0)], (.int 0)), (py, kpy, .double, 4, [(.double FP.dconst1), (.double FP.dconst1), (.double 0), (.double 0)], (.double 0))] := ((((((((H.front 7 rfl).front 7 rfl).front 7 rfl).front 7 rfl).front 7 rfl).front 7 rfl).front 7 rfl).front 7 rfl)
  refine o_virtual 334 [(.int r), (.int (1 : Int32)), (.double x1), (.double z1)] W (tw hw 60) (tw hw 61) (tw hw 63) (tw hw 62) (tw hw 7) (tw hw 64) (OBJ.1) (con_adcA1 l Z b0 hw o va ca la ka ea la2 ua uc sa ev er so rx ry kva kca kla kka kea kla2 kua kuc ksa kev ker kso krx kry rcv r (1 : Int32) 0 x1 z1 VL CL ((LL.set ro.toNatClampNeg (.int 1)).set r.toNatClampNeg (.int 1)) [(.ref us0), (.null), (.null)] [(.int 2), (.int 0), (.int 0)] [(.int ((0 + 1) + 1)), (.int 0), (.int 0)] (.int (0 : Int32)) (.int 0) (.double x0) (.double z0) (.double 0) (.double 0) r4 (by decide) (by simp [lV]) (by simp [lC]) (by simp [lL]) (by simp) (by simp) (by simp) hV hC (own_gset (by simp [rr, lL])) rfl rfl rfl Ova Oca Oua _ W.old OBJ (HM.split (P := [_, _, _, _, _, _, _, _]) H).1 0 rfl (by decide)) pd4 at_331 rfl all0 (fun T h v W qq gg => ?_)
  obtain ⟨rfl, Kc, OBJ1, us1, kus1, nus1, H1⟩ := qq
  show Go p e below _ _ (mkF m 334 #[.val (.int n0), .val (.int n1), .val (.int n2), .val (.int n3), .val (.int n4), .val (.int f0), .val (.int g0), .val (.int f1), .val (.int g1), .val (.int f2), .val (.int g2), .val (.int (1 : Int32)), .val (.int (1 : Int32)), .val (.int (1 : Int32)), .val (.int r), .val (.int ro), .val (.int dr), .val (.int ow), .val (.int pr), .val (.int se), .val (.int hf), .val (.int rs), .val (.int dm), .val (.int el), .val (.int eh), .val (.ref o), .unset, .unset, .unset, .unset, .unset] [])
  have H : HM Z h [(us1, kus1, .int, 4, [(.int r), (.int 0), (.int 0), (.int 0)], (.int 0)), (va, kva, (.array .int), 4, VL, (.null)), (ca, kca, (.array .double), 4, CL, (.null)), (la, kla, .int, 4, (((LL.set ro.toNatClampNeg (.int 1)).set r.toNatClampNeg (.int 1)).set r.toNatClampNeg (.int 2)), (.int 0)), (ua, kua, (.array .int), 3, ([(.ref us0), (.null), (.null)].set (1 : Int32).toNatClampNeg (.ref us1)), (.null)), (uc, kuc, .int, 3, ([(.int 2), (.int 0), (.int 0)].set (1 : Int32).toNatClampNeg (.int 1)), (.int 0)), (sa, ksa, .int, 3, ([(.int ((0 + 1) + 1)), (.int 0), (.int 0)].set (1 : Int32).toNatClampNeg (.int (0 + 1))), (.int 0)), (rx, krx, .int, 2, [(.int (0 : Int32)), (.int (1 : Int32))], (.int 0)), (ry, kry, .double, 4, [(.double x0), (.double z0), (.double x1), (.double z1)], (.double 0)), (us0, kus0, .int, 4, [(.int ro), (.int r), (.int 0), (.int 0)], (.int 0)), (ea, kea, .double, 8, (([(.double 0), (.double 0), (.double 0), (.double 0), (.double 0), (.double 0), (.double 0), (.double 0)].set ((2 : Int32) * ro).toNatClampNeg (.double (4602678819172646912 : UInt64))).set (((2 : Int32) * ro) + (1 : Int32)).toNatClampNeg (.double yo)), (.double 0)), (px, kpx, .int, 2, [(.int (0 : Int32)), (.int 0)], (.int 0)), (py, kpy, .double, 4, [(.double FP.dconst1), (.double FP.dconst1), (.double 0), (.double 0)], (.double 0))] := HM.frame (P := [_, _, _, _, _, _, _, _]) H H1 Kc (by simp [HE.a, nus1])
  have OBJ := OBJ1
  have H : HM Z h [(us1, kus1, .int, 4, [(.int r), (.int 0), (.int 0), (.int 0)], (.int 0)), (va, kva, (.array .int), 4, VL, (.null)), (ca, kca, (.array .double), 4, CL, (.null)), (la, kla, .int, 4, (((LL.set ro.toNatClampNeg (.int 1)).set r.toNatClampNeg (.int 1)).set r.toNatClampNeg (.int 2)), (.int 0)), (ua, kua, (.array .int), 3, [(.ref us0), (.ref us1), (.null)], (.null)), (uc, kuc, .int, 3, [(.int 2), (.int 1), (.int 0)], (.int 0)), (sa, ksa, .int, 3, [(.int ((0 + 1) + 1)), (.int (0 + 1)), (.int 0)], (.int 0)), (rx, krx, .int, 2, [(.int (0 : Int32)), (.int (1 : Int32))], (.int 0)), (ry, kry, .double, 4, [(.double x0), (.double z0), (.double x1), (.double z1)], (.double 0)), (us0, kus0, .int, 4, [(.int ro), (.int r), (.int 0), (.int 0)], (.int 0)), (ea, kea, .double, 8, (([(.double 0), (.double 0), (.double 0), (.double 0), (.double 0), (.double 0), (.double 0), (.double 0)].set ((2 : Int32) * ro).toNatClampNeg (.double (4602678819172646912 : UInt64))).set (((2 : Int32) * ro) + (1 : Int32)).toNatClampNeg (.double yo)), (.double 0)), (px, kpx, .int, 2, [(.int (0 : Int32)), (.int 0)], (.int 0)), (py, kpy, .double, 4, [(.double FP.dconst1), (.double FP.dconst1), (.double 0), (.double 0)], (.double 0))] := H
  refine o_iload 336 W at_334 rfl ?_
  refine o_ifN 339 W at_336 (XT.i0_eq_f (by decide)) ?_
  refine o_aload 341 W at_339 rfl rfl ?_
  refine o_iload 343 W at_341 rfl ?_
  refine o_iconst 344 W (2) at_343 (by first | rfl | decide) ?_
  refine o_iload 346 W at_344 rfl ?_
  refine o_i2dQ 347 W  (hd := at_346) (K := fun ux2 hux2 => ?_)
  refine o_ldc2D 350 W (tw hw 85) at_347 ?_
  refine o_ddivQ 351 W 5 hux2 own_32 (own_nb32 _) (hd := at_350) (K := fun x2 hx2 => ?_)
  refine o_iload 353 W at_351 rfl ?_
  refine o_i2dQ 354 W  (hd := at_353) (K := fun uz2 huz2 => ?_)
  refine o_ldc2D 357 W (tw hw 85) at_354 ?_
  refine o_ddivQ 358 W 5 huz2 own_32 (own_nb32 _) (hd := at_357) (K := fun z2 hz2 => ?_)
  have H : HM Z h [(va, kva, (.array .int), 4, VL, (.null)), (ca, kca, (.array .double), 4, CL, (.null)), (la, kla, .int, 4, (((LL.set ro.toNatClampNeg (.int 1)).set r.toNatClampNeg (.int 1)).set r.toNatClampNeg (.int 2)), (.int 0)), (ua, kua, (.array .int), 3, [(.ref us0), (.ref us1), (.null)], (.null)), (uc, kuc, .int, 3, [(.int 2), (.int 1), (.int 0)], (.int 0)), (sa, ksa, .int, 3, [(.int ((0 + 1) + 1)), (.int (0 + 1)), (.int 0)], (.int 0)), (rx, krx, .int, 2, [(.int (0 : Int32)), (.int (1 : Int32))], (.int 0)), (ry, kry, .double, 4, [(.double x0), (.double z0), (.double x1), (.double z1)], (.double 0)), (us1, kus1, .int, 4, [(.int r), (.int 0), (.int 0), (.int 0)], (.int 0)), (us0, kus0, .int, 4, [(.int ro), (.int r), (.int 0), (.int 0)], (.int 0)), (ea, kea, .double, 8, (([(.double 0), (.double 0), (.double 0), (.double 0), (.double 0), (.double 0), (.double 0), (.double 0)].set ((2 : Int32) * ro).toNatClampNeg (.double (4602678819172646912 : UInt64))).set (((2 : Int32) * ro) + (1 : Int32)).toNatClampNeg (.double yo)), (.double 0)), (px, kpx, .int, 2, [(.int (0 : Int32)), (.int 0)], (.int 0)), (py, kpy, .double, 4, [(.double FP.dconst1), (.double FP.dconst1), (.double 0), (.double 0)], (.double 0))] := ((((((((H.front 8 rfl).front 8 rfl).front 8 rfl).front 8 rfl).front 8 rfl).front 8 rfl).front 8 rfl).front 8 rfl)
  refine o_virtual 361 [(.int r), (.int (2 : Int32)), (.double x2), (.double z2)] W (tw hw 60) (tw hw 61) (tw hw 63) (tw hw 62) (tw hw 7) (tw hw 64) (OBJ.1) (con_adcC2 l Z b0 hw o va ca la ka ea la2 ua uc sa ev er so rx ry kva kca kla kka kea kla2 kua kuc ksa kev ker kso krx kry rcv r (2 : Int32) 0 x2 z2 VL CL (((LL.set ro.toNatClampNeg (.int 1)).set r.toNatClampNeg (.int 1)).set r.toNatClampNeg (.int 2)) [(.ref us0), (.ref us1), (.null)] [(.int 2), (.int 1), (.int 0)] [(.int ((0 + 1) + 1)), (.int (0 + 1)), (.int 0)] (.int (0 : Int32)) (.int (1 : Int32)) (.double x0) (.double z0) (.double x1) (.double z1) r4 (by decide) (by simp [lV]) (by simp [lC]) (by simp [lL]) (by simp) (by simp) (by simp) hV hC (own_gset (by simp [rr, lL])) rfl rfl rfl Ova Oca Oua _ W.old OBJ (HM.split (P := [_, _, _, _, _, _, _, _]) H).1 0 rfl (by decide) 1 rfl (by decide)) pd4 at_358 rfl all0 (fun T h v W qq gg => ?_)
  obtain ⟨rfl, Kc, OBJ1, us2, ryx, rxx, kus2, kryx, krxx, nus2, nryx, nrxx, H1⟩ := qq
  show Go p e below _ _ (mkF m 361 #[.val (.int n0), .val (.int n1), .val (.int n2), .val (.int n3), .val (.int n4), .val (.int f0), .val (.int g0), .val (.int f1), .val (.int g1), .val (.int f2), .val (.int g2), .val (.int (1 : Int32)), .val (.int (1 : Int32)), .val (.int (1 : Int32)), .val (.int r), .val (.int ro), .val (.int dr), .val (.int ow), .val (.int pr), .val (.int se), .val (.int hf), .val (.int rs), .val (.int dm), .val (.int el), .val (.int eh), .val (.ref o), .unset, .unset, .unset, .unset, .unset] [])
  have H : HM Z h [(us2, kus2, .int, 4, [(.int r), (.int 0), (.int 0), (.int 0)], (.int 0)), (ryx, kryx, .double, 8, [(.double x0), (.double z0), (.double x1), (.double z1), (.double x2), (.double z2), (.double 0), (.double 0)], (.double 0)), (rxx, krxx, .int, 4, [(.int (0 : Int32)), (.int (1 : Int32)), (.int (2 : Int32)), (.int 0)], (.int 0)), (va, kva, (.array .int), 4, (VL.set r.toNatClampNeg (.ref rxx)), (.null)), (ca, kca, (.array .double), 4, (CL.set r.toNatClampNeg (.ref ryx)), (.null)), (la, kla, .int, 4, ((((LL.set ro.toNatClampNeg (.int 1)).set r.toNatClampNeg (.int 1)).set r.toNatClampNeg (.int 2)).set r.toNatClampNeg (.int 3)), (.int 0)), (ua, kua, (.array .int), 3, ([(.ref us0), (.ref us1), (.null)].set (2 : Int32).toNatClampNeg (.ref us2)), (.null)), (uc, kuc, .int, 3, ([(.int 2), (.int 1), (.int 0)].set (2 : Int32).toNatClampNeg (.int 1)), (.int 0)), (sa, ksa, .int, 3, ([(.int ((0 + 1) + 1)), (.int (0 + 1)), (.int 0)].set (2 : Int32).toNatClampNeg (.int (0 + 1))), (.int 0)), (rx, krx, .int, 2, [(.int (0 : Int32)), (.int (1 : Int32))], (.int 0)), (ry, kry, .double, 4, [(.double x0), (.double z0), (.double x1), (.double z1)], (.double 0)), (us1, kus1, .int, 4, [(.int r), (.int 0), (.int 0), (.int 0)], (.int 0)), (us0, kus0, .int, 4, [(.int ro), (.int r), (.int 0), (.int 0)], (.int 0)), (ea, kea, .double, 8, (([(.double 0), (.double 0), (.double 0), (.double 0), (.double 0), (.double 0), (.double 0), (.double 0)].set ((2 : Int32) * ro).toNatClampNeg (.double (4602678819172646912 : UInt64))).set (((2 : Int32) * ro) + (1 : Int32)).toNatClampNeg (.double yo)), (.double 0)), (px, kpx, .int, 2, [(.int (0 : Int32)), (.int 0)], (.int 0)), (py, kpy, .double, 4, [(.double FP.dconst1), (.double FP.dconst1), (.double 0), (.double 0)], (.double 0))] := HM.frame (P := [_, _, _, _, _, _, _, _]) H H1 Kc (by simp [HE.a, nus2, nryx, nrxx])
  have OBJ := OBJ1
  have H : HM Z h [(us2, kus2, .int, 4, [(.int r), (.int 0), (.int 0), (.int 0)], (.int 0)), (ryx, kryx, .double, 8, [(.double x0), (.double z0), (.double x1), (.double z1), (.double x2), (.double z2), (.double 0), (.double 0)], (.double 0)), (rxx, krxx, .int, 4, [(.int (0 : Int32)), (.int (1 : Int32)), (.int (2 : Int32)), (.int 0)], (.int 0)), (va, kva, (.array .int), 4, (VL.set r.toNatClampNeg (.ref rxx)), (.null)), (ca, kca, (.array .double), 4, (CL.set r.toNatClampNeg (.ref ryx)), (.null)), (la, kla, .int, 4, ((((LL.set ro.toNatClampNeg (.int 1)).set r.toNatClampNeg (.int 1)).set r.toNatClampNeg (.int 2)).set r.toNatClampNeg (.int 3)), (.int 0)), (ua, kua, (.array .int), 3, [(.ref us0), (.ref us1), (.ref us2)], (.null)), (uc, kuc, .int, 3, [(.int 2), (.int 1), (.int 1)], (.int 0)), (sa, ksa, .int, 3, [(.int ((0 + 1) + 1)), (.int (0 + 1)), (.int (0 + 1))], (.int 0)), (rx, krx, .int, 2, [(.int (0 : Int32)), (.int (1 : Int32))], (.int 0)), (ry, kry, .double, 4, [(.double x0), (.double z0), (.double x1), (.double z1)], (.double 0)), (us1, kus1, .int, 4, [(.int r), (.int 0), (.int 0), (.int 0)], (.int 0)), (us0, kus0, .int, 4, [(.int ro), (.int r), (.int 0), (.int 0)], (.int 0)), (ea, kea, .double, 8, (([(.double 0), (.double 0), (.double 0), (.double 0), (.double 0), (.double 0), (.double 0), (.double 0)].set ((2 : Int32) * ro).toNatClampNeg (.double (4602678819172646912 : UInt64))).set (((2 : Int32) * ro) + (1 : Int32)).toNatClampNeg (.double yo)), (.double 0)), (px, kpx, .int, 2, [(.int (0 : Int32)), (.int 0)], (.int 0)), (py, kpy, .double, 4, [(.double FP.dconst1), (.double FP.dconst1), (.double 0), (.double 0)], (.double 0))] := H
  refine o_aload 363 W at_361 rfl rfl ?_
  refine o_iload 365 W at_363 rfl ?_
  refine o_iload 367 W at_365 rfl ?_
  refine o_i2dQ 368 W  (hd := at_367) (K := fun uxl huxl => ?_)
  refine o_ldc2D 371 W (tw hw 85) at_368 ?_
  refine o_ddivQ 372 W 5 huxl own_32 (own_nb32 _) (hd := at_371) (K := fun xl hxl => ?_)
  refine o_iload 374 W at_372 rfl ?_
  refine o_i2dQ 375 W  (hd := at_374) (K := fun uxh huxh => ?_)
  refine o_ldc2D 378 W (tw hw 85) at_375 ?_
  refine o_ddivQ 379 W 5 huxh own_32 (own_nb32 _) (hd := at_378) (K := fun xh hxh => ?_)
  have H : HM Z h [(ea, kea, .double, 8, (([(.double 0), (.double 0), (.double 0), (.double 0), (.double 0), (.double 0), (.double 0), (.double 0)].set ((2 : Int32) * ro).toNatClampNeg (.double (4602678819172646912 : UInt64))).set (((2 : Int32) * ro) + (1 : Int32)).toNatClampNeg (.double yo)), (.double 0)), (us2, kus2, .int, 4, [(.int r), (.int 0), (.int 0), (.int 0)], (.int 0)), (ryx, kryx, .double, 8, [(.double x0), (.double z0), (.double x1), (.double z1), (.double x2), (.double z2), (.double 0), (.double 0)], (.double 0)), (rxx, krxx, .int, 4, [(.int (0 : Int32)), (.int (1 : Int32)), (.int (2 : Int32)), (.int 0)], (.int 0)), (va, kva, (.array .int), 4, (VL.set r.toNatClampNeg (.ref rxx)), (.null)), (ca, kca, (.array .double), 4, (CL.set r.toNatClampNeg (.ref ryx)), (.null)), (la, kla, .int, 4, ((((LL.set ro.toNatClampNeg (.int 1)).set r.toNatClampNeg (.int 1)).set r.toNatClampNeg (.int 2)).set r.toNatClampNeg (.int 3)), (.int 0)), (ua, kua, (.array .int), 3, [(.ref us0), (.ref us1), (.ref us2)], (.null)), (uc, kuc, .int, 3, [(.int 2), (.int 1), (.int 1)], (.int 0)), (sa, ksa, .int, 3, [(.int ((0 + 1) + 1)), (.int (0 + 1)), (.int (0 + 1))], (.int 0)), (rx, krx, .int, 2, [(.int (0 : Int32)), (.int (1 : Int32))], (.int 0)), (ry, kry, .double, 4, [(.double x0), (.double z0), (.double x1), (.double z1)], (.double 0)), (us1, kus1, .int, 4, [(.int r), (.int 0), (.int 0), (.int 0)], (.int 0)), (us0, kus0, .int, 4, [(.int ro), (.int r), (.int 0), (.int 0)], (.int 0)), (px, kpx, .int, 2, [(.int (0 : Int32)), (.int 0)], (.int 0)), (py, kpy, .double, 4, [(.double FP.dconst1), (.double FP.dconst1), (.double 0), (.double 0)], (.double 0))] := (H.front 13 rfl)
  refine o_virtual 382 [(.int r), (.double xl), (.double xh)] W (tw hw 70) (tw hw 71) (tw hw 73) (tw hw 72) (tw hw 7) (tw hw 74) (OBJ.1) (con_adx l Z b0 hw o va ca la ka ea la2 ua uc sa ev er so kva kca kla kka kea kla2 kua kuc ksa kev ker kso rcv r xl xh (([(.double 0), (.double 0), (.double 0), (.double 0), (.double 0), (.double 0), (.double 0), (.double 0)].set ((2 : Int32) * ro).toNatClampNeg (.double (4602678819172646912 : UInt64))).set (((2 : Int32) * ro) + (1 : Int32)).toNatClampNeg (.double yo)) hxl hxh beh.2 kr0 kr1 (by simp) ((own_gsetne xro1r0).trans ((own_gsetne xro0r0).trans (own_rep8 _ _))) ((own_gsetne xro1r1).trans ((own_gsetne xro0r1).trans (own_rep8 _ _))) xr0r1 _ W.old OBJ zo (HM.split (P := [_]) H).1) pd6 at_379 rfl all0 (fun T h v W qq gg => ?_)
  obtain ⟨rfl, Kc, OBJ1, yh, hyh, H1⟩ := qq
  show Go p e below _ _ (mkF m 382 #[.val (.int n0), .val (.int n1), .val (.int n2), .val (.int n3), .val (.int n4), .val (.int f0), .val (.int g0), .val (.int f1), .val (.int g1), .val (.int f2), .val (.int g2), .val (.int (1 : Int32)), .val (.int (1 : Int32)), .val (.int (1 : Int32)), .val (.int r), .val (.int ro), .val (.int dr), .val (.int ow), .val (.int pr), .val (.int se), .val (.int hf), .val (.int rs), .val (.int dm), .val (.int el), .val (.int eh), .val (.ref o), .unset, .unset, .unset, .unset, .unset] [])
  have H : HM Z h [(ea, kea, .double, 8, (((([(.double 0), (.double 0), (.double 0), (.double 0), (.double 0), (.double 0), (.double 0), (.double 0)].set ((2 : Int32) * ro).toNatClampNeg (.double (4602678819172646912 : UInt64))).set (((2 : Int32) * ro) + (1 : Int32)).toNatClampNeg (.double yo)).set ((2 : Int32) * r).toNatClampNeg (.double xl)).set (((2 : Int32) * r) + (1 : Int32)).toNatClampNeg (.double yh)), (.double 0)), (us2, kus2, .int, 4, [(.int r), (.int 0), (.int 0), (.int 0)], (.int 0)), (ryx, kryx, .double, 8, [(.double x0), (.double z0), (.double x1), (.double z1), (.double x2), (.double z2), (.double 0), (.double 0)], (.double 0)), (rxx, krxx, .int, 4, [(.int (0 : Int32)), (.int (1 : Int32)), (.int (2 : Int32)), (.int 0)], (.int 0)), (va, kva, (.array .int), 4, (VL.set r.toNatClampNeg (.ref rxx)), (.null)), (ca, kca, (.array .double), 4, (CL.set r.toNatClampNeg (.ref ryx)), (.null)), (la, kla, .int, 4, ((((LL.set ro.toNatClampNeg (.int 1)).set r.toNatClampNeg (.int 1)).set r.toNatClampNeg (.int 2)).set r.toNatClampNeg (.int 3)), (.int 0)), (ua, kua, (.array .int), 3, [(.ref us0), (.ref us1), (.ref us2)], (.null)), (uc, kuc, .int, 3, [(.int 2), (.int 1), (.int 1)], (.int 0)), (sa, ksa, .int, 3, [(.int ((0 + 1) + 1)), (.int (0 + 1)), (.int (0 + 1))], (.int 0)), (rx, krx, .int, 2, [(.int (0 : Int32)), (.int (1 : Int32))], (.int 0)), (ry, kry, .double, 4, [(.double x0), (.double z0), (.double x1), (.double z1)], (.double 0)), (us1, kus1, .int, 4, [(.int r), (.int 0), (.int 0), (.int 0)], (.int 0)), (us0, kus0, .int, 4, [(.int ro), (.int r), (.int 0), (.int 0)], (.int 0)), (px, kpx, .int, 2, [(.int (0 : Int32)), (.int 0)], (.int 0)), (py, kpy, .double, 4, [(.double FP.dconst1), (.double FP.dconst1), (.double 0), (.double 0)], (.double 0))] := HM.frame (P := [_]) H H1 Kc (by simp [HE.a])
  have OBJ := OBJ1
  refine o_iconst 383 W (3) at_382 (by first | rfl | decide) ?_
  refine o_newarray 385 3 W (tw hw 27) at_383 (by decide) (by decide) (fun T h mi kmi W Emi Ami gmi zmi => ?_)
  have Ami : Arv Z h mi kmi .double 3 [(.double 0), (.double 0), (.double 0)] (.double 0) := own_pad 3 Ami
  have OBJ := OBJ.ext Emi
  have H : HM Z h [(mi, kmi, .double, 3, [(.double 0), (.double 0), (.double 0)], (.double 0)), (ea, kea, .double, 8, (((([(.double 0), (.double 0), (.double 0), (.double 0), (.double 0), (.double 0), (.double 0), (.double 0)].set ((2 : Int32) * ro).toNatClampNeg (.double (4602678819172646912 : UInt64))).set (((2 : Int32) * ro) + (1 : Int32)).toNatClampNeg (.double yo)).set ((2 : Int32) * r).toNatClampNeg (.double xl)).set (((2 : Int32) * r) + (1 : Int32)).toNatClampNeg (.double yh)), (.double 0)), (us2, kus2, .int, 4, [(.int r), (.int 0), (.int 0), (.int 0)], (.int 0)), (ryx, kryx, .double, 8, [(.double x0), (.double z0), (.double x1), (.double z1), (.double x2), (.double z2), (.double 0), (.double 0)], (.double 0)), (rxx, krxx, .int, 4, [(.int (0 : Int32)), (.int (1 : Int32)), (.int (2 : Int32)), (.int 0)], (.int 0)), (va, kva, (.array .int), 4, (VL.set r.toNatClampNeg (.ref rxx)), (.null)), (ca, kca, (.array .double), 4, (CL.set r.toNatClampNeg (.ref ryx)), (.null)), (la, kla, .int, 4, ((((LL.set ro.toNatClampNeg (.int 1)).set r.toNatClampNeg (.int 1)).set r.toNatClampNeg (.int 2)).set r.toNatClampNeg (.int 3)), (.int 0)), (ua, kua, (.array .int), 3, [(.ref us0), (.ref us1), (.ref us2)], (.null)), (uc, kuc, .int, 3, [(.int 2), (.int 1), (.int 1)], (.int 0)), (sa, ksa, .int, 3, [(.int ((0 + 1) + 1)), (.int (0 + 1)), (.int (0 + 1))], (.int 0)), (rx, krx, .int, 2, [(.int (0 : Int32)), (.int (1 : Int32))], (.int 0)), (ry, kry, .double, 4, [(.double x0), (.double z0), (.double x1), (.double z1)], (.double 0)), (us1, kus1, .int, 4, [(.int r), (.int 0), (.int 0), (.int 0)], (.int 0)), (us0, kus0, .int, 4, [(.int ro), (.int r), (.int 0), (.int 0)], (.int 0)), (px, kpx, .int, 2, [(.int (0 : Int32)), (.int 0)], (.int 0)), (py, kpy, .double, 4, [(.double FP.dconst1), (.double FP.dconst1), (.double 0), (.double 0)], (.double 0))] := H.new Emi Ami gmi zmi
  refine o_astore 387 W #[.val (.int n0), .val (.int n1), .val (.int n2), .val (.int n3), .val (.int n4), .val (.int f0), .val (.int g0), .val (.int f1), .val (.int g1), .val (.int f2), .val (.int g2), .val (.int (1 : Int32)), .val (.int (1 : Int32)), .val (.int (1 : Int32)), .val (.int r), .val (.int ro), .val (.int dr), .val (.int ow), .val (.int pr), .val (.int se), .val (.int hf), .val (.int rs), .val (.int dm), .val (.int el), .val (.int eh), .val (.ref o), .val (.ref mi), .unset, .unset, .unset, .unset] at_385 rfl rfl ?_
  refine o_aload 389 W at_387 rfl rfl ?_
  refine o_iconst 390 W (0) at_389 (by first | rfl | decide) ?_
  refine o_iloadN 391 W at_390 rfl ?_
  refine o_i2dQ 392 W  (hd := at_391) (K := fun t0 ht0 => ?_)
  have G0 : Arv Z _ mi kmi .double 3 [(.double 0), (.double 0), (.double 0)] (.double 0) := H.get 0 rfl
  refine o_dastore 393 0 W G0 (by decide) rfl (by simp) (H.new? 0 rfl) at_392 (fun T h W w1 A1 => ?_)
  have OBJ := OBJ.wr (tw hw 6) (H.get 0 rfl) w1
  have H : HM Z h [(mi, kmi, .double, 3, [(.double t0), (.double 0), (.double 0)], (.double 0)), (ea, kea, .double, 8, (((([(.double 0), (.double 0), (.double 0), (.double 0), (.double 0), (.double 0), (.double 0), (.double 0)].set ((2 : Int32) * ro).toNatClampNeg (.double (4602678819172646912 : UInt64))).set (((2 : Int32) * ro) + (1 : Int32)).toNatClampNeg (.double yo)).set ((2 : Int32) * r).toNatClampNeg (.double xl)).set (((2 : Int32) * r) + (1 : Int32)).toNatClampNeg (.double yh)), (.double 0)), (us2, kus2, .int, 4, [(.int r), (.int 0), (.int 0), (.int 0)], (.int 0)), (ryx, kryx, .double, 8, [(.double x0), (.double z0), (.double x1), (.double z1), (.double x2), (.double z2), (.double 0), (.double 0)], (.double 0)), (rxx, krxx, .int, 4, [(.int (0 : Int32)), (.int (1 : Int32)), (.int (2 : Int32)), (.int 0)], (.int 0)), (va, kva, (.array .int), 4, (VL.set r.toNatClampNeg (.ref rxx)), (.null)), (ca, kca, (.array .double), 4, (CL.set r.toNatClampNeg (.ref ryx)), (.null)), (la, kla, .int, 4, ((((LL.set ro.toNatClampNeg (.int 1)).set r.toNatClampNeg (.int 1)).set r.toNatClampNeg (.int 2)).set r.toNatClampNeg (.int 3)), (.int 0)), (ua, kua, (.array .int), 3, [(.ref us0), (.ref us1), (.ref us2)], (.null)), (uc, kuc, .int, 3, [(.int 2), (.int 1), (.int 1)], (.int 0)), (sa, ksa, .int, 3, [(.int ((0 + 1) + 1)), (.int (0 + 1)), (.int (0 + 1))], (.int 0)), (rx, krx, .int, 2, [(.int (0 : Int32)), (.int (1 : Int32))], (.int 0)), (ry, kry, .double, 4, [(.double x0), (.double z0), (.double x1), (.double z1)], (.double 0)), (us1, kus1, .int, 4, [(.int r), (.int 0), (.int 0), (.int 0)], (.int 0)), (us0, kus0, .int, 4, [(.int ro), (.int r), (.int 0), (.int 0)], (.int 0)), (px, kpx, .int, 2, [(.int (0 : Int32)), (.int 0)], (.int 0)), (py, kpy, .double, 4, [(.double FP.dconst1), (.double FP.dconst1), (.double 0), (.double 0)], (.double 0))] := H.wr 0 rfl w1 A1
  refine o_aload 395 W at_393 rfl rfl ?_
  refine o_iconst 396 W (1) at_395 (by first | rfl | decide) ?_
  refine o_iloadN 397 W at_396 rfl ?_
  refine o_i2dQ 398 W  (hd := at_397) (K := fun t1 ht1 => ?_)
  have G0 : Arv Z _ mi kmi .double 3 [(.double t0), (.double 0), (.double 0)] (.double 0) := H.get 0 rfl
  refine o_dastore 399 1 W G0 (by decide) rfl (by simp) (H.new? 0 rfl) at_398 (fun T h W w1 A1 => ?_)
  have OBJ := OBJ.wr (tw hw 6) (H.get 0 rfl) w1
  have H : HM Z h [(mi, kmi, .double, 3, [(.double t0), (.double t1), (.double 0)], (.double 0)), (ea, kea, .double, 8, (((([(.double 0), (.double 0), (.double 0), (.double 0), (.double 0), (.double 0), (.double 0), (.double 0)].set ((2 : Int32) * ro).toNatClampNeg (.double (4602678819172646912 : UInt64))).set (((2 : Int32) * ro) + (1 : Int32)).toNatClampNeg (.double yo)).set ((2 : Int32) * r).toNatClampNeg (.double xl)).set (((2 : Int32) * r) + (1 : Int32)).toNatClampNeg (.double yh)), (.double 0)), (us2, kus2, .int, 4, [(.int r), (.int 0), (.int 0), (.int 0)], (.int 0)), (ryx, kryx, .double, 8, [(.double x0), (.double z0), (.double x1), (.double z1), (.double x2), (.double z2), (.double 0), (.double 0)], (.double 0)), (rxx, krxx, .int, 4, [(.int (0 : Int32)), (.int (1 : Int32)), (.int (2 : Int32)), (.int 0)], (.int 0)), (va, kva, (.array .int), 4, (VL.set r.toNatClampNeg (.ref rxx)), (.null)), (ca, kca, (.array .double), 4, (CL.set r.toNatClampNeg (.ref ryx)), (.null)), (la, kla, .int, 4, ((((LL.set ro.toNatClampNeg (.int 1)).set r.toNatClampNeg (.int 1)).set r.toNatClampNeg (.int 2)).set r.toNatClampNeg (.int 3)), (.int 0)), (ua, kua, (.array .int), 3, [(.ref us0), (.ref us1), (.ref us2)], (.null)), (uc, kuc, .int, 3, [(.int 2), (.int 1), (.int 1)], (.int 0)), (sa, ksa, .int, 3, [(.int ((0 + 1) + 1)), (.int (0 + 1)), (.int (0 + 1))], (.int 0)), (rx, krx, .int, 2, [(.int (0 : Int32)), (.int (1 : Int32))], (.int 0)), (ry, kry, .double, 4, [(.double x0), (.double z0), (.double x1), (.double z1)], (.double 0)), (us1, kus1, .int, 4, [(.int r), (.int 0), (.int 0), (.int 0)], (.int 0)), (us0, kus0, .int, 4, [(.int ro), (.int r), (.int 0), (.int 0)], (.int 0)), (px, kpx, .int, 2, [(.int (0 : Int32)), (.int 0)], (.int 0)), (py, kpy, .double, 4, [(.double FP.dconst1), (.double FP.dconst1), (.double 0), (.double 0)], (.double 0))] := H.wr 0 rfl w1 A1
  refine o_aload 401 W at_399 rfl rfl ?_
  refine o_iconst 402 W (2) at_401 (by first | rfl | decide) ?_
  refine o_iloadN 403 W at_402 rfl ?_
  refine o_i2dQ 404 W  (hd := at_403) (K := fun t2 ht2 => ?_)
  have G0 : Arv Z _ mi kmi .double 3 [(.double t0), (.double t1), (.double 0)] (.double 0) := H.get 0 rfl
  refine o_dastore 405 2 W G0 (by decide) rfl (by simp) (H.new? 0 rfl) at_404 (fun T h W w1 A1 => ?_)
  have OBJ := OBJ.wr (tw hw 6) (H.get 0 rfl) w1
  have H : HM Z h [(mi, kmi, .double, 3, [(.double t0), (.double t1), (.double t2)], (.double 0)), (ea, kea, .double, 8, (((([(.double 0), (.double 0), (.double 0), (.double 0), (.double 0), (.double 0), (.double 0), (.double 0)].set ((2 : Int32) * ro).toNatClampNeg (.double (4602678819172646912 : UInt64))).set (((2 : Int32) * ro) + (1 : Int32)).toNatClampNeg (.double yo)).set ((2 : Int32) * r).toNatClampNeg (.double xl)).set (((2 : Int32) * r) + (1 : Int32)).toNatClampNeg (.double yh)), (.double 0)), (us2, kus2, .int, 4, [(.int r), (.int 0), (.int 0), (.int 0)], (.int 0)), (ryx, kryx, .double, 8, [(.double x0), (.double z0), (.double x1), (.double z1), (.double x2), (.double z2), (.double 0), (.double 0)], (.double 0)), (rxx, krxx, .int, 4, [(.int (0 : Int32)), (.int (1 : Int32)), (.int (2 : Int32)), (.int 0)], (.int 0)), (va, kva, (.array .int), 4, (VL.set r.toNatClampNeg (.ref rxx)), (.null)), (ca, kca, (.array .double), 4, (CL.set r.toNatClampNeg (.ref ryx)), (.null)), (la, kla, .int, 4, ((((LL.set ro.toNatClampNeg (.int 1)).set r.toNatClampNeg (.int 1)).set r.toNatClampNeg (.int 2)).set r.toNatClampNeg (.int 3)), (.int 0)), (ua, kua, (.array .int), 3, [(.ref us0), (.ref us1), (.ref us2)], (.null)), (uc, kuc, .int, 3, [(.int 2), (.int 1), (.int 1)], (.int 0)), (sa, ksa, .int, 3, [(.int ((0 + 1) + 1)), (.int (0 + 1)), (.int (0 + 1))], (.int 0)), (rx, krx, .int, 2, [(.int (0 : Int32)), (.int (1 : Int32))], (.int 0)), (ry, kry, .double, 4, [(.double x0), (.double z0), (.double x1), (.double z1)], (.double 0)), (us1, kus1, .int, 4, [(.int r), (.int 0), (.int 0), (.int 0)], (.int 0)), (us0, kus0, .int, 4, [(.int ro), (.int r), (.int 0), (.int 0)], (.int 0)), (px, kpx, .int, 2, [(.int (0 : Int32)), (.int 0)], (.int 0)), (py, kpy, .double, 4, [(.double FP.dconst1), (.double FP.dconst1), (.double 0), (.double 0)], (.double 0))] := H.wr 0 rfl w1 A1
  obtain ⟨to, hto, hmo, ho, hq0, hq1, hq2⟩ : ∃ to, DQ 0 qo.toInt to ∧ ([(.double t0), (.double t1), (.double t2)] : List Value).getD ow.toNatClampNeg (.double 0) = .double to ∧ (¬ ow < 0 ∧ ow < 3) ∧ (ow = 0 → qo = n0) ∧ (ow = 1 → qo = n1) ∧ (ow = 2 → qo = n2) := by
    rcases how with ⟨rfl, rfl⟩ | ⟨rfl, rfl⟩ | ⟨rfl, rfl⟩
    · exact ⟨t0, ht0, rfl, by decide, fun _ => rfl, fun q => absurd q (by decide), fun q => absurd q (by decide)⟩
    · exact ⟨t1, ht1, rfl, by decide, fun q => absurd q (by decide), fun _ => rfl, fun q => absurd q (by decide)⟩
    · exact ⟨t2, ht2, rfl, by decide, fun q => absurd q (by decide), fun q => absurd q (by decide), fun _ => rfl⟩
  refine Go.cutW W (g' := (mkF m 428 #[.val (.int n0), .val (.int n1), .val (.int n2), .val (.int n3), .val (.int n4), .val (.int f0), .val (.int g0), .val (.int f1), .val (.int g1), .val (.int f2), .val (.int g2), .val (.int (1 : Int32)), .val (.int (1 : Int32)), .val (.int (1 : Int32)), .val (.int r), .val (.int ro), .val (.int dr), .val (.int ow), .val (.int pr), .val (.int se), .val (.int hf), .val (.int rs), .val (.int dm), .val (.int el), .val (.int eh), .val (.ref o), .val (.ref mi), .unset, .unset, .unset, .unset] [(.long qo.toInt64)])) (fun J => ?_) (fun T W => ?_)
  · refine o_iload 407 W at_405 rfl ?_
    refine o_ifne 415 410 W at_407 (fun c407 => ?_) (fun c407 => ?_)
    · refine o_iload 417 W at_415 rfl ?_
      refine o_iconst 418 W (1) at_417 (by first | rfl | decide) ?_
      refine o_icne 426 421 W at_418 (fun c418 => ?_) (fun c418 => ?_)
      · refine o_iloadN 427 W at_426 rfl ?_
        refine o_i2l 428 W at_427 ?_
        rcases how with ⟨z1, z2⟩ | ⟨z1, z2⟩ | ⟨z1, z2⟩
        · exact absurd z1 c407
        · exact absurd z1 c418
        · rw [z2] at J; exact J T W
      · refine o_iloadN 422 W at_421 rfl ?_
        refine o_i2l 423 W at_422 ?_
        refine o_goto 428 W at_423 ?_
        rw [hq1 c418] at J
        exact J T W
    · refine o_iloadN 411 W at_410 rfl ?_
      refine o_i2l 412 W at_411 ?_
      refine o_goto 428 W at_412 ?_
      rw [hq0 c407] at J
      exact J T W
  refine o_lstore 430 W #[.val (.int n0), .val (.int n1), .val (.int n2), .val (.int n3), .val (.int n4), .val (.int f0), .val (.int g0), .val (.int f1), .val (.int g1), .val (.int f2), .val (.int g2), .val (.int (1 : Int32)), .val (.int (1 : Int32)), .val (.int (1 : Int32)), .val (.int r), .val (.int ro), .val (.int dr), .val (.int ow), .val (.int pr), .val (.int se), .val (.int hf), .val (.int rs), .val (.int dm), .val (.int el), .val (.int eh), .val (.ref o), .val (.ref mi), .val (.long qo.toInt64), .second, .unset, .unset] at_428 rfl ?_
  refine o_iload 432 W at_430 rfl ?_
  refine o_ifN 435 W at_432 (XT.i0_eq_f (by decide)) ?_
  refine o_iload 437 W at_435 rfl ?_
  refine o_iload 439 W at_437 rfl ?_
  refine o_iadd 440 W at_439 ?_
  refine o_i2l 441 W at_440 ?_
  refine o_iloadN 442 W at_441 rfl ?_
  refine o_i2l 443 W at_442 ?_
  refine o_lmul 444 W at_443 ?_
  have hp0 := own_lm (f := f0) (g := g0) (q := n0) rfl rfl bf0 bg0
  have pb0 := own_pbn (s := f0.toInt + g0.toInt) (q := n0.toInt) (by omega) (by omega) (by have := own_i31 n0; omega) (by have := own_i31 n0; omega)
  generalize (((f0 + g0).toInt64) * (n0.toInt64)) = p0 at hp0 ⊢
  refine o_goto 448 W at_444 ?_
  refine o_iload 450 W at_448 rfl ?_
  refine o_ifN 453 W at_450 (XT.i0_eq_f (by decide)) ?_
  refine o_iload 455 W at_453 rfl ?_
  refine o_iload 457 W at_455 rfl ?_
  refine o_iadd 458 W at_457 ?_
  refine o_i2l 459 W at_458 ?_
  refine o_iloadN 460 W at_459 rfl ?_
  refine o_i2l 461 W at_460 ?_
  refine o_lmul 462 W at_461 ?_
  have hp1 := own_lm (f := f1) (g := g1) (q := n1) rfl rfl bf1 bg1
  have pb1 := own_pbn (s := f1.toInt + g1.toInt) (q := n1.toInt) (by omega) (by omega) (by have := own_i31 n1; omega) (by have := own_i31 n1; omega)
  generalize (((f1 + g1).toInt64) * (n1.toInt64)) = p1 at hp1 ⊢
  refine o_goto 466 W at_462 ?_
  refine o_ladd 467 W at_466 ?_
  have hr1 := own_ladd hp0 hp1 (by omega)
  generalize (p0 + p1) = r1 at hr1 ⊢
  refine o_iload 469 W at_467 rfl ?_
  refine o_ifN 472 W at_469 (XT.i0_eq_f (by decide)) ?_
  refine o_iload 474 W at_472 rfl ?_
  refine o_iload 476 W at_474 rfl ?_
  refine o_iadd 477 W at_476 ?_
  refine o_i2l 478 W at_477 ?_
  refine o_iloadN 479 W at_478 rfl ?_
  refine o_i2l 480 W at_479 ?_
  refine o_lmul 481 W at_480 ?_
  have hp2 := own_lm (f := f2) (g := g2) (q := n2) rfl rfl bf2 bg2
  have pb2 := own_pbn (s := f2.toInt + g2.toInt) (q := n2.toInt) (by omega) (by omega) (by have := own_i31 n2; omega) (by have := own_i31 n2; omega)
  generalize (((f2 + g2).toInt64) * (n2.toInt64)) = p2 at hp2 ⊢
  refine o_goto 485 W at_481 ?_
  refine o_ladd 486 W at_485 ?_
  have hr2 := own_ladd hr1 hp2 (by omega)
  generalize (r1 + p2) = r2 at hr2 ⊢
  refine o_ldc2J 489 W (tw hw 86) at_486 ?_
  refine o_lload 491 W at_489 rfl ?_
  refine o_lmul 492 W at_491 ?_
  have h64 := own_l64 qo
  have bqo := own_i31 qo
  generalize ((64 : Int64) * qo.toInt64) = p9 at h64 ⊢
  refine o_lsub 493 W at_492 ?_
  have href := own_lsub hr2 h64 (by omega)
  generalize (r2 - p9) = rf at href ⊢
  refine o_lstore 495 W #[.val (.int n0), .val (.int n1), .val (.int n2), .val (.int n3), .val (.int n4), .val (.int f0), .val (.int g0), .val (.int f1), .val (.int g1), .val (.int f2), .val (.int g2), .val (.int (1 : Int32)), .val (.int (1 : Int32)), .val (.int (1 : Int32)), .val (.int r), .val (.int ro), .val (.int dr), .val (.int ow), .val (.int pr), .val (.int se), .val (.int hf), .val (.int rs), .val (.int dm), .val (.int el), .val (.int eh), .val (.ref o), .val (.ref mi), .val (.long qo.toInt64), .second, .val (.long rf), .second] at_493 rfl ?_
  refine o_aload 497 W at_495 rfl rfl ?_
  refine o_iload 499 W at_497 rfl ?_
  refine o_iload 501 W at_499 rfl ?_
  refine o_aload 503 W at_501 rfl rfl ?_
  have H : HM Z h [(va, kva, (.array .int), 4, (VL.set r.toNatClampNeg (.ref rxx)), (.null)), (ca, kca, (.array .double), 4, (CL.set r.toNatClampNeg (.ref ryx)), (.null)), (la, kla, .int, 4, ((((LL.set ro.toNatClampNeg (.int 1)).set r.toNatClampNeg (.int 1)).set r.toNatClampNeg (.int 2)).set r.toNatClampNeg (.int 3)), (.int 0)), (rxx, krxx, .int, 4, [(.int (0 : Int32)), (.int (1 : Int32)), (.int (2 : Int32)), (.int 0)], (.int 0)), (ryx, kryx, .double, 8, [(.double x0), (.double z0), (.double x1), (.double z1), (.double x2), (.double z2), (.double 0), (.double 0)], (.double 0)), (mi, kmi, .double, 3, [(.double t0), (.double t1), (.double t2)], (.double 0)), (ea, kea, .double, 8, (((([(.double 0), (.double 0), (.double 0), (.double 0), (.double 0), (.double 0), (.double 0), (.double 0)].set ((2 : Int32) * ro).toNatClampNeg (.double (4602678819172646912 : UInt64))).set (((2 : Int32) * ro) + (1 : Int32)).toNatClampNeg (.double yo)).set ((2 : Int32) * r).toNatClampNeg (.double xl)).set (((2 : Int32) * r) + (1 : Int32)).toNatClampNeg (.double yh)), (.double 0)), (us2, kus2, .int, 4, [(.int r), (.int 0), (.int 0), (.int 0)], (.int 0)), (ua, kua, (.array .int), 3, [(.ref us0), (.ref us1), (.ref us2)], (.null)), (uc, kuc, .int, 3, [(.int 2), (.int 1), (.int 1)], (.int 0)), (sa, ksa, .int, 3, [(.int ((0 + 1) + 1)), (.int (0 + 1)), (.int (0 + 1))], (.int 0)), (rx, krx, .int, 2, [(.int (0 : Int32)), (.int (1 : Int32))], (.int 0)), (ry, kry, .double, 4, [(.double x0), (.double z0), (.double x1), (.double z1)], (.double 0)), (us1, kus1, .int, 4, [(.int r), (.int 0), (.int 0), (.int 0)], (.int 0)), (us0, kus0, .int, 4, [(.int ro), (.int r), (.int 0), (.int 0)], (.int 0)), (px, kpx, .int, 2, [(.int (0 : Int32)), (.int 0)], (.int 0)), (py, kpy, .double, 4, [(.double FP.dconst1), (.double FP.dconst1), (.double 0), (.double 0)], (.double 0))] := (((((((H.front 1 rfl).front 1 rfl).front 3 rfl).front 4 rfl).front 7 rfl).front 7 rfl).front 7 rfl)
  refine o_virtual 506 [(.int r), (.int ow), (.ref mi)] W (tw hw 87) (tw hw 88) (tw hw 90) (tw hw 89) (tw hw 7) (tw hw 91) (OBJ.1) (con_mc3 l Z b0 hw o va ca la ka ea la2 ua uc sa ev er so rxx ryx mi kva kca kla kka kea kla2 kua kuc ksa kev ker kso krxx kryx kmi rcv r ow (VL.set r.toNatClampNeg (.ref rxx)) (CL.set r.toNatClampNeg (.ref ryx)) ((((LL.set ro.toNatClampNeg (.int 1)).set r.toNatClampNeg (.int 1)).set r.toNatClampNeg (.int 2)).set r.toNatClampNeg (.int 3)) [(.double t0), (.double t1), (.double t2)] (((([(.double 0), (.double 0), (.double 0), (.double 0), (.double 0), (.double 0), (.double 0), (.double 0)].set ((2 : Int32) * ro).toNatClampNeg (.double (4602678819172646912 : UInt64))).set (((2 : Int32) * ro) + (1 : Int32)).toNatClampNeg (.double yo)).set ((2 : Int32) * r).toNatClampNeg (.double xl)).set (((2 : Int32) * r) + (1 : Int32)).toNatClampNeg (.double yh)) (.int 0) (.double 0) (.double 0) r4 (own_gset (by simp [rr, lV])) (own_gset (by simp [rr, lC])) (own_gset (by simp [rr, lL])) kr0 kr1 xl yh to el.toInt eh.toInt qo.toInt hxl hyh hto ⟨bel.1, bel.2, beh.1, beh.2, bqo.1, (by omega)⟩ ((own_gsetne xr0r1.symm).trans (own_gset (by simp [qr0]))) (own_gset (by simp [qr1])) ho hmo 0 x0 z0 t0 f0.toInt g0.toInt n0.toInt hx0 hz0 ht0 ⟨bf0.1, (by omega), bg0.1, (by omega), (own_i31 _).1, (by have := own_i31 n0; omega)⟩ (by decide) rfl (fun q => by rw [hq0 q.symm]) 1 x1 z1 t1 f1.toInt g1.toInt n1.toInt hx1 hz1 ht1 ⟨bf1.1, (by omega), bg1.1, (by omega), (own_i31 _).1, (by have := own_i31 n1; omega)⟩ (by decide) rfl (fun q => by rw [hq1 q.symm]) 2 x2 z2 t2 f2.toInt g2.toInt n2.toInt hx2 hz2 ht2 ⟨bf2.1, (by omega), bg2.1, (by omega), (own_i31 _).1, (by have := own_i31 n2; omega)⟩ (by decide) rfl (fun q => by rw [hq2 q.symm]) _ W.old OBJ (HM.split (P := [_, _, _, _, _, _, _]) H).1) pd7 at_503 rfl all0 (fun T h v W qq gg => ?_)
  obtain ⟨_, rfl, sm, rfl, hsm, rfl⟩ := qq
  show Go p e below _ _ (mkF m 506 #[.val (.int n0), .val (.int n1), .val (.int n2), .val (.int n3), .val (.int n4), .val (.int f0), .val (.int g0), .val (.int f1), .val (.int g1), .val (.int f2), .val (.int g2), .val (.int (1 : Int32)), .val (.int (1 : Int32)), .val (.int (1 : Int32)), .val (.int r), .val (.int ro), .val (.int dr), .val (.int ow), .val (.int pr), .val (.int se), .val (.int hf), .val (.int rs), .val (.int dm), .val (.int el), .val (.int eh), .val (.ref o), .val (.ref mi), .val (.long qo.toInt64), .second, .val (.long rf), .second] [(.double sm)])
  have hS : (((-(el.toInt + eh.toInt) * qo.toInt + (f0.toInt + g0.toInt) * (n0.toInt - qo.toInt)) + (f1.toInt + g1.toInt) * (n1.toInt - qo.toInt)) + (f2.toInt + g2.toInt) * (n2.toInt - qo.toInt)) = (f0.toInt + g0.toInt) * n0.toInt + (f1.toInt + g1.toInt) * n1.toInt + (f2.toInt + g2.toInt) * n2.toInt - 64 * qo.toInt := by
    have e9 : el.toInt = 64 - ((f0.toInt + g0.toInt) + (f1.toInt + g1.toInt) + (f2.toInt + g2.toInt)) - eh.toInt := by omega
    rw [e9]
    simp only [Int.mul_sub, Int.sub_mul, Int.add_mul, Int.neg_mul, Int.zero_mul]
    omega
  rw [hS, ← href] at hsm
  have bS : -1000000000000 ≤ rf.toInt ∧ rf.toInt ≤ 1000000000000 := by rw [href]; omega
  refine o_ldc2D 509 W (tw hw 93) at_506 ?_
  refine o_dmulQ 510 W hsm own_64 (by omega) (hd := at_509) (K := fun ym hym => ?_)
  refine o_lload 512 W at_510 rfl ?_
  refine o_l2dQ 513 W (by omega) (hd := at_512) (K := fun yr hyr => ?_)
  have hyu := hyr.up 6
  refine o_dcmpQ 514 W hym hyu at_513 ?_
  refine o_ifN 517 W at_514 (XT.i0_ne_f ((own_c0 _ _).mpr (by first | rfl | omega))) ?_
  refine o_iconst 518 W (1) at_517 (by first | rfl | decide) ?_
  refine o_goto 522 W at_518 ?_
  exact o_nret W (1 : Int32) (by simp) (by decide) at_522 (rfl)
theorem con_law (l : Launch) (Z : State) (b0 : Array Value) (hw : ∀ d ∈ tables_1, d.before b0 Z = true) (n0 n1 n2 n3 n4 : Int32) : Con l Z x code maxLocals ret room_1 #[(.int n0), (.int n1), (.int n2), (.int n3), (.int n4)] Z.heap [] (QV fun w h => w = .int 1) := by
  refine Con.of (plainFor_of_name pn3) (own_ext_refl _) ⟨b0, EW.nil⟩ all0 (L0 := #[.val (.int n0), .val (.int n1), .val (.int n2), .val (.int n3), .val (.int n4), .unset, .unset, .unset, .unset, .unset, .unset, .unset, .unset, .unset, .unset, .unset, .unset, .unset, .unset, .unset, .unset, .unset, .unset, .unset, .unset, .unset, .unset, .unset, .unset, .unset, .unset]) (fun m => by first | (simp [entryFrame, mkF, argsToLocals, Value.category, maxLocals]; done) | rfl) ?_
  intro p e s m args below meth c T W
  refine o_iloadN 1 W at_0 rfl ?_
  refine o_bipush 3 W (7) at_1 (by first | rfl | decide) ?_
  refine o_iand 4 W at_3 ?_
  have hf0 := own_b7 n3
  generalize (n3 &&& (7 : Int32)) = f0 at hf0 ⊢
  refine o_istore 6 W #[.val (.int n0), .val (.int n1), .val (.int n2), .val (.int n3), .val (.int n4), .val (.int f0), .unset, .unset, .unset, .unset, .unset, .unset, .unset, .unset, .unset, .unset, .unset, .unset, .unset, .unset, .unset, .unset, .unset, .unset, .unset, .unset, .unset, .unset, .unset, .unset, .unset] at_4 rfl ?_
  refine o_iload 8 W at_6 rfl ?_
  refine o_iloadN 9 W at_8 rfl ?_
  refine o_iconst 10 W (3) at_9 (by first | rfl | decide) ?_
  refine o_iushr 11 W at_10 ?_
  refine o_bipush 13 W (7) at_11 (by first | rfl | decide) ?_
  refine o_iand 14 W at_13 ?_
  have hd0 := own_b7 (XT.ushr n3 3)
  generalize ((XT.ushr n3 (3 : Int32)) &&& (7 : Int32)) = d0 at hd0 ⊢
  refine o_iadd 15 W at_14 ?_
  have hg0 := own_add32 (f := f0) (g := d0) rfl rfl (by omega)
  generalize (f0 + d0) = g0 at hg0 ⊢
  have bf0 : 0 ≤ f0.toInt ∧ f0.toInt ≤ 7 := hf0
  have bg0 : 0 ≤ g0.toInt ∧ g0.toInt ≤ 14 := by omega
  clear hg0 hd0
  refine o_istore 17 W #[.val (.int n0), .val (.int n1), .val (.int n2), .val (.int n3), .val (.int n4), .val (.int f0), .val (.int g0), .unset, .unset, .unset, .unset, .unset, .unset, .unset, .unset, .unset, .unset, .unset, .unset, .unset, .unset, .unset, .unset, .unset, .unset, .unset, .unset, .unset, .unset, .unset, .unset] at_15 rfl ?_
  refine o_iloadN 18 W at_17 rfl ?_
  refine o_bipush 20 W (6) at_18 (by first | rfl | decide) ?_
  refine o_iushr 21 W at_20 ?_
  refine o_bipush 23 W (7) at_21 (by first | rfl | decide) ?_
  refine o_iand 24 W at_23 ?_
  have hf1 := own_b7 (XT.ushr n3 6)
  generalize ((XT.ushr n3 (6 : Int32)) &&& (7 : Int32)) = f1 at hf1 ⊢
  refine o_istore 26 W #[.val (.int n0), .val (.int n1), .val (.int n2), .val (.int n3), .val (.int n4), .val (.int f0), .val (.int g0), .val (.int f1), .unset, .unset, .unset, .unset, .unset, .unset, .unset, .unset, .unset, .unset, .unset, .unset, .unset, .unset, .unset, .unset, .unset, .unset, .unset, .unset, .unset, .unset, .unset] at_24 rfl ?_
  refine o_iload 28 W at_26 rfl ?_
  refine o_iloadN 29 W at_28 rfl ?_
  refine o_bipush 31 W (9) at_29 (by first | rfl | decide) ?_
  refine o_iushr 32 W at_31 ?_
  refine o_bipush 34 W (7) at_32 (by first | rfl | decide) ?_
  refine o_iand 35 W at_34 ?_
  have hd1 := own_b7 (XT.ushr n3 9)
  generalize ((XT.ushr n3 (9 : Int32)) &&& (7 : Int32)) = d1 at hd1 ⊢
  refine o_iadd 36 W at_35 ?_
  have hg1 := own_add32 (f := f1) (g := d1) rfl rfl (by omega)
  generalize (f1 + d1) = g1 at hg1 ⊢
  have bf1 : 0 ≤ f1.toInt ∧ f1.toInt ≤ 7 := hf1
  have bg1 : 0 ≤ g1.toInt ∧ g1.toInt ≤ 14 := by omega
  clear hg1 hd1
  refine o_istore 38 W #[.val (.int n0), .val (.int n1), .val (.int n2), .val (.int n3), .val (.int n4), .val (.int f0), .val (.int g0), .val (.int f1), .val (.int g1), .unset, .unset, .unset, .unset, .unset, .unset, .unset, .unset, .unset, .unset, .unset, .unset, .unset, .unset, .unset, .unset, .unset, .unset, .unset, .unset, .unset, .unset] at_36 rfl ?_
  refine o_iloadN 39 W at_38 rfl ?_
  refine o_bipush 41 W (12) at_39 (by first | rfl | decide) ?_
  refine o_iushr 42 W at_41 ?_
  refine o_bipush 44 W (7) at_42 (by first | rfl | decide) ?_
  refine o_iand 45 W at_44 ?_
  have hf2 := own_b7 (XT.ushr n3 12)
  generalize ((XT.ushr n3 (12 : Int32)) &&& (7 : Int32)) = f2 at hf2 ⊢
  refine o_istore 47 W #[.val (.int n0), .val (.int n1), .val (.int n2), .val (.int n3), .val (.int n4), .val (.int f0), .val (.int g0), .val (.int f1), .val (.int g1), .val (.int f2), .unset, .unset, .unset, .unset, .unset, .unset, .unset, .unset, .unset, .unset, .unset, .unset, .unset, .unset, .unset, .unset, .unset, .unset, .unset, .unset, .unset] at_45 rfl ?_
  refine o_iload 49 W at_47 rfl ?_
  refine o_iloadN 50 W at_49 rfl ?_
  refine o_bipush 52 W (15) at_50 (by first | rfl | decide) ?_
  refine o_iushr 53 W at_52 ?_
  refine o_bipush 55 W (7) at_53 (by first | rfl | decide) ?_
  refine o_iand 56 W at_55 ?_
  have hd2 := own_b7 (XT.ushr n3 15)
  generalize ((XT.ushr n3 (15 : Int32)) &&& (7 : Int32)) = d2 at hd2 ⊢
  refine o_iadd 57 W at_56 ?_
  have hg2 := own_add32 (f := f2) (g := d2) rfl rfl (by omega)
  generalize (f2 + d2) = g2 at hg2 ⊢
  have bf2 : 0 ≤ f2.toInt ∧ f2.toInt ≤ 7 := hf2
  have bg2 : 0 ≤ g2.toInt ∧ g2.toInt ≤ 14 := by omega
  clear hg2 hd2
  refine o_istore 59 W #[.val (.int n0), .val (.int n1), .val (.int n2), .val (.int n3), .val (.int n4), .val (.int f0), .val (.int g0), .val (.int f1), .val (.int g1), .val (.int f2), .val (.int g2), .unset, .unset, .unset, .unset, .unset, .unset, .unset, .unset, .unset, .unset, .unset, .unset, .unset, .unset, .unset, .unset, .unset, .unset, .unset, .unset] at_57 rfl ?_
  have J : ∀ (T : State) (b0_ b1_ b2_ r ro dr ow pr : Int32) (k0 k1 k2 : Int), (b0_ = 0 ∧ k0 = 0 ∨ b0_ = 1 ∧ k0 = f0.toInt + g0.toInt) → (b1_ = 0 ∧ k1 = 0 ∨ b1_ = 1 ∧ k1 = f1.toInt + g1.toInt) → (b2_ = 0 ∧ k2 = 0 ∨ b2_ = 1 ∧ k2 = f2.toInt + g2.toInt) → (r = 0 ∧ ro = 1 ∨ r = 1 ∧ ro = 0) → (0 ≤ dr.toInt ∧ dr.toInt ≤ 15) → (ow = 0 ∨ ow = 1 ∨ ow = 2) → pr.toInt = k0 + k1 + k2 → Wk p l e room_1 s m args below meth c Z x code maxLocals ret T Z.heap 0 0 [] → Go p e below (Gd s below Z (QV fun w h => w = .int 1) (room_1).cells (room_1).slots) T (mkF m 185 #[.val (.int n0), .val (.int n1), .val (.int n2), .val (.int n3), .val (.int n4), .val (.int f0), .val (.int g0), .val (.int f1), .val (.int g1), .val (.int f2), .val (.int g2), .val (.int b0_), .val (.int b1_), .val (.int b2_), .val (.int r), .val (.int ro), .val (.int dr), .val (.int ow), .val (.int pr), .unset, .unset, .unset, .unset, .unset, .unset, .unset, .unset, .unset, .unset, .unset, .unset] []) := by
    intro T b0_ b1_ b2_ r ro dr ow pr k0 k1 k2 hb0 hb1 hb2 hrr hdr how hpr W
    have bpr : 0 ≤ pr.toInt ∧ pr.toInt ≤ 63 := by
      rcases hb0 with ⟨-, z0⟩ | ⟨-, z0⟩ <;> rcases hb1 with ⟨-, z1⟩ | ⟨-, z1⟩ <;> rcases hb2 with ⟨-, z2⟩ | ⟨-, z2⟩ <;> omega
    refine o_bipush 187 W (64) at_185 (by first | rfl | decide) ?_
    refine o_iload 189 W at_187 rfl ?_
    refine o_isub 190 W at_189 ?_
    have hse := own_sub32 (f := 64) (g := pr) (i := 64) rfl rfl (by omega)
    generalize ((64 : Int32) - pr) = se at hse ⊢
    refine o_istore 192 W #[.val (.int n0), .val (.int n1), .val (.int n2), .val (.int n3), .val (.int n4), .val (.int f0), .val (.int g0), .val (.int f1), .val (.int g1), .val (.int f2), .val (.int g2), .val (.int b0_), .val (.int b1_), .val (.int b2_), .val (.int r), .val (.int ro), .val (.int dr), .val (.int ow), .val (.int pr), .val (.int se), .unset, .unset, .unset, .unset, .unset, .unset, .unset, .unset, .unset, .unset, .unset] at_190 rfl ?_
    refine o_iload 194 W at_192 rfl ?_
    refine o_iconst 195 W (2) at_194 (by first | rfl | decide) ?_
    refine o_idiv 196 W at_195 (by decide) ?_
    have hhf := own_half32 hse (by omega)
    generalize (se / (2 : Int32)) = hf at hhf ⊢
    refine o_istore 198 W #[.val (.int n0), .val (.int n1), .val (.int n2), .val (.int n3), .val (.int n4), .val (.int f0), .val (.int g0), .val (.int f1), .val (.int g1), .val (.int f2), .val (.int g2), .val (.int b0_), .val (.int b1_), .val (.int b2_), .val (.int r), .val (.int ro), .val (.int dr), .val (.int ow), .val (.int pr), .val (.int se), .val (.int hf), .unset, .unset, .unset, .unset, .unset, .unset, .unset, .unset, .unset, .unset] at_196 rfl ?_
    refine o_iload 200 W at_198 rfl ?_
    refine o_iload 202 W at_200 rfl ?_
    refine o_isub 203 W at_202 ?_
    have hrs := own_sub32 hse hhf (by omega)
    generalize (se - hf) = rs at hrs ⊢
    refine o_istore 205 W #[.val (.int n0), .val (.int n1), .val (.int n2), .val (.int n3), .val (.int n4), .val (.int f0), .val (.int g0), .val (.int f1), .val (.int g1), .val (.int f2), .val (.int g2), .val (.int b0_), .val (.int b1_), .val (.int b2_), .val (.int r), .val (.int ro), .val (.int dr), .val (.int ow), .val (.int pr), .val (.int se), .val (.int hf), .val (.int rs), .unset, .unset, .unset, .unset, .unset, .unset, .unset, .unset, .unset] at_203 rfl ?_
    refine o_iload 207 W at_205 rfl ?_
    refine o_iload 209 W at_207 rfl ?_
    refine o_bipush 211 W (32) at_209 (by first | rfl | decide) ?_
    refine o_iload 213 W at_211 rfl ?_
    refine o_isub 214 W at_213 ?_
    have htm := own_sub32 (f := 32) (g := rs) (i := 32) rfl hrs (by omega)
    generalize ((32 : Int32) - rs) = tm at htm ⊢
    refine o_static 217 [(.int hf), (.int tm)] W (tw hw 1) (tw hw 2) (tw hw 3) (tw hw 4) (con_mini l Z b0 hw hf tm _ W.old) pd0 at_214 rfl all0 (fun T h v W qq gg => ?_)
    obtain ⟨_, rfl, rfl, rfl⟩ := qq
    show Go p e below _ _ (mkF m 217 #[.val (.int n0), .val (.int n1), .val (.int n2), .val (.int n3), .val (.int n4), .val (.int f0), .val (.int g0), .val (.int f1), .val (.int g1), .val (.int f2), .val (.int g2), .val (.int b0_), .val (.int b1_), .val (.int b2_), .val (.int r), .val (.int ro), .val (.int dr), .val (.int ow), .val (.int pr), .val (.int se), .val (.int hf), .val (.int rs), .unset, .unset, .unset, .unset, .unset, .unset, .unset, .unset, .unset] [(.int (if tm < hf then tm else hf)), (.int dr)])
    have hm1_ := own_minI (f := hf) (g := tm) rfl rfl
    generalize (if tm < hf then tm else hf) = m1_ at hm1_ ⊢
    have bm1 : 0 ≤ m1_.toInt ∧ m1_.toInt ≤ hf.toInt ∧ m1_.toInt ≤ 32 - rs.toInt := by
      rw [hm1_]
      first | omega | (split <;> omega)
    refine o_static 220 [(.int dr), (.int m1_)] W (tw hw 1) (tw hw 2) (tw hw 3) (tw hw 4) (con_mini l Z b0 hw dr m1_ _ W.old) pd0 at_217 rfl all0 (fun T h v W qq gg => ?_)
    obtain ⟨_, rfl, rfl, rfl⟩ := qq
    show Go p e below _ _ (mkF m 220 #[.val (.int n0), .val (.int n1), .val (.int n2), .val (.int n3), .val (.int n4), .val (.int f0), .val (.int g0), .val (.int f1), .val (.int g1), .val (.int f2), .val (.int g2), .val (.int b0_), .val (.int b1_), .val (.int b2_), .val (.int r), .val (.int ro), .val (.int dr), .val (.int ow), .val (.int pr), .val (.int se), .val (.int hf), .val (.int rs), .unset, .unset, .unset, .unset, .unset, .unset, .unset, .unset, .unset] [(.int (if m1_ < dr then m1_ else dr))])
    have hdm := own_minI (f := dr) (g := m1_) rfl rfl
    generalize (if m1_ < dr then m1_ else dr) = dm at hdm ⊢
    have bdm : 0 ≤ dm.toInt ∧ dm.toInt ≤ hf.toInt ∧ dm.toInt ≤ 32 - rs.toInt := by
      rw [hdm]
      first | omega | (split <;> omega)
    refine o_istore 222 W #[.val (.int n0), .val (.int n1), .val (.int n2), .val (.int n3), .val (.int n4), .val (.int f0), .val (.int g0), .val (.int f1), .val (.int g1), .val (.int f2), .val (.int g2), .val (.int b0_), .val (.int b1_), .val (.int b2_), .val (.int r), .val (.int ro), .val (.int dr), .val (.int ow), .val (.int pr), .val (.int se), .val (.int hf), .val (.int rs), .val (.int dm), .unset, .unset, .unset, .unset, .unset, .unset, .unset, .unset] at_220 rfl ?_
    refine o_iload 224 W at_222 rfl ?_
    refine o_iload 226 W at_224 rfl ?_
    refine o_isub 227 W at_226 ?_
    have hel := own_sub32 (f := hf) (g := dm) rfl rfl (by omega)
    generalize (hf - dm) = el at hel ⊢
    refine o_istore 229 W #[.val (.int n0), .val (.int n1), .val (.int n2), .val (.int n3), .val (.int n4), .val (.int f0), .val (.int g0), .val (.int f1), .val (.int g1), .val (.int f2), .val (.int g2), .val (.int b0_), .val (.int b1_), .val (.int b2_), .val (.int r), .val (.int ro), .val (.int dr), .val (.int ow), .val (.int pr), .val (.int se), .val (.int hf), .val (.int rs), .val (.int dm), .val (.int el), .unset, .unset, .unset, .unset, .unset, .unset, .unset] at_227 rfl ?_
    refine o_iload 231 W at_229 rfl ?_
    refine o_iload 233 W at_231 rfl ?_
    refine o_iadd 234 W at_233 ?_
    have heh := own_add32 (f := rs) (g := dm) rfl rfl (by omega)
    generalize (rs + dm) = eh at heh ⊢
    have bel : 0 ≤ el.toInt ∧ el.toInt ≤ 32 := by omega
    have beh : 0 ≤ eh.toInt ∧ eh.toInt ≤ 32 := by omega
    have hee : el.toInt + eh.toInt = 64 - (k0 + k1 + k2) := by omega
    have H : HM Z Z.heap [] := HM.nil Z _
    refine o_istore 236 W #[.val (.int n0), .val (.int n1), .val (.int n2), .val (.int n3), .val (.int n4), .val (.int f0), .val (.int g0), .val (.int f1), .val (.int g1), .val (.int f2), .val (.int g2), .val (.int b0_), .val (.int b1_), .val (.int b2_), .val (.int r), .val (.int ro), .val (.int dr), .val (.int ow), .val (.int pr), .val (.int se), .val (.int hf), .val (.int rs), .val (.int dm), .val (.int el), .val (.int eh), .unset, .unset, .unset, .unset, .unset, .unset] at_234 rfl ?_
    refine o_new 239 W (tw hw 5) (tw hw 6) (tw hw 7) at_236 (fun T h o W Eo Ao Do go zo => ?_)
    have H := H.ext Eo
    have OBJ : OB Z h o "com/example/markov_reachability/markovreachability/IntervalEquations" [("ceiling", "D", (.double 0)), ("variables", "[[I", (.null)), ("coefficients", "[[D", (.null)), ("length", "[I", (.null)), ("constant", "[D", (.null)), ("exit", "[D", (.null)), ("eliminating", "[Z", (.null)), ("users", "[[I", (.null)), ("userCount", "[I", (.null)), ("substitutable", "[I", (.null)), ("eliminatedVariable", "[I", (.null)), ("eliminatedRow", "[I", (.null)), ("slot", "[I", (.null)), ("rowCount", "I", (.int 0))] := by
      refine ⟨Ao, fun f hf => ?_⟩
      simp only [List.mem_cons, List.not_mem_nil, or_false] at hf
      rcases hf with rfl | rfl | rfl | rfl | rfl | rfl | rfl | rfl | rfl | rfl | rfl | rfl | rfl | rfl
      · exact Do (Or.inr (tw hw 15)) (ty := .double) (by decide)
      · exact Do (Or.inl (tw hw 19)) (ty := (.array (.array .int))) (by decide)
      · exact Do (Or.inl (tw hw 23)) (ty := (.array (.array .double))) (by decide)
      · exact Do (Or.inl (tw hw 26)) (ty := (.array .int)) (by decide)
      · exact Do (Or.inl (tw hw 29)) (ty := (.array .double)) (by decide)
      · exact Do (Or.inl (tw hw 31)) (ty := (.array .double)) (by decide)
      · exact Do (Or.inl (tw hw 34)) (ty := (.array .boolean)) (by decide)
      · exact Do (Or.inr (tw hw 36)) (ty := (.array (.array .int))) (by decide)
      · exact Do (Or.inr (tw hw 38)) (ty := (.array .int)) (by decide)
      · exact Do (Or.inr (tw hw 40)) (ty := (.array .int)) (by decide)
      · exact Do (Or.inr (tw hw 42)) (ty := (.array .int)) (by decide)
      · exact Do (Or.inr (tw hw 44)) (ty := (.array .int)) (by decide)
      · exact Do (Or.inr (tw hw 46)) (ty := (.array .int)) (by decide)
      · exact Do (Or.inl (tw hw 57)) (ty := .int) (by decide)
    refine o_dup 240 W at_239 rfl ?_
    refine o_iconst 241 W (3) at_240 (by first | rfl | decide) ?_
    refine o_dconst1 242 W at_241 ?_
    refine o_special 245 [(.int (3 : Int32)), (.double FP.dconst1)] W (tw hw 8) (tw hw 9) (tw hw 7) (tw hw 10) (con_ini l Z b0 hw o _ W.old OBJ zo) pd8 at_242 rfl all0 (fun T h v W qq gg => ?_)
    obtain ⟨rfl, Ki, va, ca, la, ka, ea, la2, ua, uc, sa, ev, er, so, kva, kca, kla, kka, kea, kla2, kua, kuc, ksa, kev, ker, kso, H1, OBJ1, Ova, Oca, Oua, ner, nev, nsa, nuc, nua, nla2, nea, nka, nla, nca, nva⟩ := qq
    show Go p e below _ _ (mkF m 245 #[.val (.int n0), .val (.int n1), .val (.int n2), .val (.int n3), .val (.int n4), .val (.int f0), .val (.int g0), .val (.int f1), .val (.int g1), .val (.int f2), .val (.int g2), .val (.int b0_), .val (.int b1_), .val (.int b2_), .val (.int r), .val (.int ro), .val (.int dr), .val (.int ow), .val (.int pr), .val (.int se), .val (.int hf), .val (.int rs), .val (.int dm), .val (.int el), .val (.int eh), .unset, .unset, .unset, .unset, .unset, .unset] [(.ref o)])
    have H : HM Z h [(er, ker, .int, 3, [(.int 0), (.int 0), (.int 0)], (.int 0)), (ev, kev, .int, 3, [(.int 0), (.int 0), (.int 0)], (.int 0)), (sa, ksa, .int, 3, [(.int 0), (.int 0), (.int 0)], (.int 0)), (uc, kuc, .int, 3, [(.int 0), (.int 0), (.int 0)], (.int 0)), (ua, kua, (.array .int), 3, [(.null), (.null), (.null)], (.null)), (la2, kla2, .boolean, 4, [(.int 0), (.int 0), (.int 0), (.int 0)], (.int 0)), (ea, kea, .double, 8, [(.double 0), (.double 0), (.double 0), (.double 0), (.double 0), (.double 0), (.double 0), (.double 0)], (.double 0)), (ka, kka, .double, 8, [(.double 0), (.double 0), (.double 0), (.double 0), (.double 0), (.double 0), (.double 0), (.double 0)], (.double 0)), (la, kla, .int, 4, [(.int 0), (.int 0), (.int 0), (.int 0)], (.int 0)), (ca, kca, (.array .double), 4, [(.null), (.null), (.null), (.null)], (.null)), (va, kva, (.array .int), 4, [(.null), (.null), (.null), (.null)], (.null))] := H1
    have OBJ := OBJ1
    refine o_astore 247 W #[.val (.int n0), .val (.int n1), .val (.int n2), .val (.int n3), .val (.int n4), .val (.int f0), .val (.int g0), .val (.int f1), .val (.int g1), .val (.int f2), .val (.int g2), .val (.int b0_), .val (.int b1_), .val (.int b2_), .val (.int r), .val (.int ro), .val (.int dr), .val (.int ow), .val (.int pr), .val (.int se), .val (.int hf), .val (.int rs), .val (.int dm), .val (.int el), .val (.int eh), .val (.ref o), .unset, .unset, .unset, .unset, .unset] at_245 rfl rfl ?_
    refine o_aload 249 W at_247 rfl rfl ?_
    have H : HM Z h [(va, kva, (.array .int), 4, [(.null), (.null), (.null), (.null)], (.null)), (ca, kca, (.array .double), 4, [(.null), (.null), (.null), (.null)], (.null)), (la, kla, .int, 4, [(.int 0), (.int 0), (.int 0), (.int 0)], (.int 0)), (er, ker, .int, 3, [(.int 0), (.int 0), (.int 0)], (.int 0)), (ev, kev, .int, 3, [(.int 0), (.int 0), (.int 0)], (.int 0)), (sa, ksa, .int, 3, [(.int 0), (.int 0), (.int 0)], (.int 0)), (uc, kuc, .int, 3, [(.int 0), (.int 0), (.int 0)], (.int 0)), (ua, kua, (.array .int), 3, [(.null), (.null), (.null)], (.null)), (la2, kla2, .boolean, 4, [(.int 0), (.int 0), (.int 0), (.int 0)], (.int 0)), (ea, kea, .double, 8, [(.double 0), (.double 0), (.double 0), (.double 0), (.double 0), (.double 0), (.double 0), (.double 0)], (.double 0)), (ka, kka, .double, 8, [(.double 0), (.double 0), (.double 0), (.double 0), (.double 0), (.double 0), (.double 0), (.double 0)], (.double 0))] := (((H.front 8 rfl).front 9 rfl).front 10 rfl)
    refine o_virtual 252 [] W (tw hw 51) (tw hw 52) (tw hw 54) (tw hw 53) (tw hw 7) (tw hw 55) (OBJ.1) (con_adr0 l Z b0 hw o va ca la ka ea la2 ua uc sa ev er so kva kca kla kka kea kla2 kua kuc ksa kev ker kso (.null) (.null) (.null) (.null) (.null) (.null) (.null) (.null) (.int 0) (.int 0) (.int 0) (.int 0) Ova Oca _ W.old OBJ zo (HM.split (P := [_, _, _]) H).1) pd9 at_249 rfl all0 (fun T h v W qq gg => ?_)
    obtain ⟨_, rfl, rfl, Kr, rx0, ry0, krx0, kry0, nrx0, nry0, H1, OBJ1⟩ := qq
    show Go p e below _ _ (mkF m 252 #[.val (.int n0), .val (.int n1), .val (.int n2), .val (.int n3), .val (.int n4), .val (.int f0), .val (.int g0), .val (.int f1), .val (.int g1), .val (.int f2), .val (.int g2), .val (.int b0_), .val (.int b1_), .val (.int b2_), .val (.int r), .val (.int ro), .val (.int dr), .val (.int ow), .val (.int pr), .val (.int se), .val (.int hf), .val (.int rs), .val (.int dm), .val (.int el), .val (.int eh), .val (.ref o), .unset, .unset, .unset, .unset, .unset] [(.int (0 : Int32))])
    have H : HM Z h [(ry0, kry0, .double, 4, [(.double 0), (.double 0), (.double 0), (.double 0)], (.double 0)), (rx0, krx0, .int, 2, [(.int 0), (.int 0)], (.int 0)), (va, kva, (.array .int), 4, [(.ref rx0), (.null), (.null), (.null)], (.null)), (ca, kca, (.array .double), 4, [(.ref ry0), (.null), (.null), (.null)], (.null)), (la, kla, .int, 4, [(.int 0), (.int 0), (.int 0), (.int 0)], (.int 0)), (er, ker, .int, 3, [(.int 0), (.int 0), (.int 0)], (.int 0)), (ev, kev, .int, 3, [(.int 0), (.int 0), (.int 0)], (.int 0)), (sa, ksa, .int, 3, [(.int 0), (.int 0), (.int 0)], (.int 0)), (uc, kuc, .int, 3, [(.int 0), (.int 0), (.int 0)], (.int 0)), (ua, kua, (.array .int), 3, [(.null), (.null), (.null)], (.null)), (la2, kla2, .boolean, 4, [(.int 0), (.int 0), (.int 0), (.int 0)], (.int 0)), (ea, kea, .double, 8, [(.double 0), (.double 0), (.double 0), (.double 0), (.double 0), (.double 0), (.double 0), (.double 0)], (.double 0)), (ka, kka, .double, 8, [(.double 0), (.double 0), (.double 0), (.double 0), (.double 0), (.double 0), (.double 0), (.double 0)], (.double 0))] := HM.frameO (P := [_, _, _]) H OBJ (tw hw 6) H1 Kr (by simp [HE.a, nrx0, nry0])
    have OBJ := OBJ1
    refine o_pop 253 W at_252 rfl ?_
    refine o_aload 255 W at_253 rfl rfl ?_
    have H : HM Z h [(va, kva, (.array .int), 4, [(.ref rx0), (.null), (.null), (.null)], (.null)), (ca, kca, (.array .double), 4, [(.ref ry0), (.null), (.null), (.null)], (.null)), (la, kla, .int, 4, [(.int 0), (.int 0), (.int 0), (.int 0)], (.int 0)), (ry0, kry0, .double, 4, [(.double 0), (.double 0), (.double 0), (.double 0)], (.double 0)), (rx0, krx0, .int, 2, [(.int 0), (.int 0)], (.int 0)), (er, ker, .int, 3, [(.int 0), (.int 0), (.int 0)], (.int 0)), (ev, kev, .int, 3, [(.int 0), (.int 0), (.int 0)], (.int 0)), (sa, ksa, .int, 3, [(.int 0), (.int 0), (.int 0)], (.int 0)), (uc, kuc, .int, 3, [(.int 0), (.int 0), (.int 0)], (.int 0)), (ua, kua, (.array .int), 3, [(.null), (.null), (.null)], (.null)), (la2, kla2, .boolean, 4, [(.int 0), (.int 0), (.int 0), (.int 0)], (.int 0)), (ea, kea, .double, 8, [(.double 0), (.double 0), (.double 0), (.double 0), (.double 0), (.double 0), (.double 0), (.double 0)], (.double 0)), (ka, kka, .double, 8, [(.double 0), (.double 0), (.double 0), (.double 0), (.double 0), (.double 0), (.double 0), (.double 0)], (.double 0))] := (((H.front 4 rfl).front 4 rfl).front 4 rfl)
    refine o_virtual 258 [] W (tw hw 51) (tw hw 52) (tw hw 54) (tw hw 53) (tw hw 7) (tw hw 55) (OBJ.1) (con_adr1 l Z b0 hw o va ca la ka ea la2 ua uc sa ev er so kva kca kla kka kea kla2 kua kuc ksa kev ker kso (.ref rx0) (.null) (.null) (.null) (.ref ry0) (.null) (.null) (.null) (.int 0) (.int 0) (.int 0) (.int 0) Ova Oca _ W.old OBJ zo (HM.split (P := [_, _, _]) H).1) pd9 at_255 rfl all0 (fun T h v W qq gg => ?_)
    obtain ⟨_, rfl, rfl, Kr, rx1, ry1, krx1, kry1, nrx1, nry1, H1, OBJ1⟩ := qq
    show Go p e below _ _ (mkF m 258 #[.val (.int n0), .val (.int n1), .val (.int n2), .val (.int n3), .val (.int n4), .val (.int f0), .val (.int g0), .val (.int f1), .val (.int g1), .val (.int f2), .val (.int g2), .val (.int b0_), .val (.int b1_), .val (.int b2_), .val (.int r), .val (.int ro), .val (.int dr), .val (.int ow), .val (.int pr), .val (.int se), .val (.int hf), .val (.int rs), .val (.int dm), .val (.int el), .val (.int eh), .val (.ref o), .unset, .unset, .unset, .unset, .unset] [(.int (1 : Int32))])
    have H : HM Z h [(ry1, kry1, .double, 4, [(.double 0), (.double 0), (.double 0), (.double 0)], (.double 0)), (rx1, krx1, .int, 2, [(.int 0), (.int 0)], (.int 0)), (va, kva, (.array .int), 4, [(.ref rx0), (.ref rx1), (.null), (.null)], (.null)), (ca, kca, (.array .double), 4, [(.ref ry0), (.ref ry1), (.null), (.null)], (.null)), (la, kla, .int, 4, [(.int 0), (.int 0), (.int 0), (.int 0)], (.int 0)), (ry0, kry0, .double, 4, [(.double 0), (.double 0), (.double 0), (.double 0)], (.double 0)), (rx0, krx0, .int, 2, [(.int 0), (.int 0)], (.int 0)), (er, ker, .int, 3, [(.int 0), (.int 0), (.int 0)], (.int 0)), (ev, kev, .int, 3, [(.int 0), (.int 0), (.int 0)], (.int 0)), (sa, ksa, .int, 3, [(.int 0), (.int 0), (.int 0)], (.int 0)), (uc, kuc, .int, 3, [(.int 0), (.int 0), (.int 0)], (.int 0)), (ua, kua, (.array .int), 3, [(.null), (.null), (.null)], (.null)), (la2, kla2, .boolean, 4, [(.int 0), (.int 0), (.int 0), (.int 0)], (.int 0)), (ea, kea, .double, 8, [(.double 0), (.double 0), (.double 0), (.double 0), (.double 0), (.double 0), (.double 0), (.double 0)], (.double 0)), (ka, kka, .double, 8, [(.double 0), (.double 0), (.double 0), (.double 0), (.double 0), (.double 0), (.double 0), (.double 0)], (.double 0))] := HM.frameO (P := [_, _, _]) H OBJ (tw hw 6) H1 Kr (by simp [HE.a, nrx1, nry1])
    have OBJ := OBJ1
    refine o_pop 259 W at_258 rfl ?_
    obtain ⟨qo, how⟩ : ∃ qo, ow = 0 ∧ qo = n0 ∨ ow = 1 ∧ qo = n1 ∨ ow = 2 ∧ qo = n2 := by
      rcases how with q | q | q
      · exact ⟨n0, Or.inl ⟨q, rfl⟩⟩
      · exact ⟨n1, Or.inr (Or.inl ⟨q, rfl⟩)⟩
      · exact ⟨n2, Or.inr (Or.inr ⟨q, rfl⟩)⟩
    have cf0 : 0 ≤ f0.toInt ∧ f0.toInt ≤ 20 := by omega
    have cg0 : 0 ≤ g0.toInt ∧ g0.toInt ≤ 20 := by omega
    have cf1 : 0 ≤ f1.toInt ∧ f1.toInt ≤ 20 := by omega
    have cg1 : 0 ≤ g1.toInt ∧ g1.toInt ≤ 20 := by omega
    have cf2 : 0 ≤ f2.toInt ∧ f2.toInt ≤ 20 := by omega
    have cg2 : 0 ≤ g2.toInt ∧ g2.toInt ≤ 20 := by omega
    rcases hrr with ⟨rfl, rfl⟩ | ⟨rfl, rfl⟩
    · have H : HM Z h [(va, kva, (.array .int), 4, [(.ref rx0), (.ref rx1), (.null), (.null)], (.null)), (ca, kca, (.array .double), 4, [(.ref ry0), (.ref ry1), (.null), (.null)], (.null)), (la, kla, .int, 4, [(.int 0), (.int 0), (.int 0), (.int 0)], (.int 0)), (ua, kua, (.array .int), 3, [(.null), (.null), (.null)], (.null)), (uc, kuc, .int, 3, [(.int 0), (.int 0), (.int 0)], (.int 0)), (sa, ksa, .int, 3, [(.int 0), (.int 0), (.int 0)], (.int 0)), (rx1, krx1, .int, 2, [(.int 0), (.int 0)], (.int 0)), (ry1, kry1, .double, 4, [(.double 0), (.double 0), (.double 0), (.double 0)], (.double 0)), (rx0, krx0, .int, 2, [(.int 0), (.int 0)], (.int 0)), (ry0, kry0, .double, 4, [(.double 0), (.double 0), (.double 0), (.double 0)], (.double 0)), (ea, kea, .double, 8, [(.double 0), (.double 0), (.double 0), (.double 0), (.double 0), (.double 0), (.double 0), (.double 0)], (.double 0)), (er, ker, .int, 3, [(.int 0), (.int 0), (.int 0)], (.int 0)), (ev, kev, .int, 3, [(.int 0), (.int 0), (.int 0)], (.int 0)), (la2, kla2, .boolean, 4, [(.int 0), (.int 0), (.int 0), (.int 0)], (.int 0)), (ka, kka, .double, 8, [(.double 0), (.double 0), (.double 0), (.double 0), (.double 0), (.double 0), (.double 0), (.double 0)], (.double 0))] := (((((((((((H.front 13 rfl).front 6 rfl).front 7 rfl).front 3 rfl).front 4 rfl).front 10 rfl).front 11 rfl).front 12 rfl).front 10 rfl).front 10 rfl).front 10 rfl)
      have H := (HM.split (P := [_, _, _, _, _, _, _, _, _, _, _]) H).1
      rcases hb0 with ⟨rfl, rfl⟩ | ⟨rfl, rfl⟩ <;> rcases hb1 with ⟨rfl, rfl⟩ | ⟨rfl, rfl⟩ <;> rcases hb2 with ⟨rfl, rfl⟩ | ⟨rfl, rfl⟩
      · exact own_tail0 l Z b0 hw n0 n1 n2 n3 n4 f0 g0 f1 g1 f2 g2 0 1 dr ow pr se hf rs dm el eh qo o va ca la ka ea la2 ua uc sa ev er so rx1 ry1 rx0 ry0 kva kca kla kka kea kla2 kua kuc ksa kev ker kso krx1 kry1 krx0 kry0 (.int 2) [(.ref rx0), (.ref rx1), (.null), (.null)] [(.ref ry0), (.ref ry1), (.null), (.null)] [(.int 0), (.int 0), (.int 0), (.int 0)] (by decide) (by decide) (by decide) (by decide) (by decide) (by decide) (by decide) (by decide) (by decide) (by decide) (by decide) (by decide) (by decide) rfl rfl rfl rfl rfl rfl rfl rfl rfl cf0 cg0 cf1 cg1 cf2 cg2 bel beh (by omega) how Ova Oca Oua zo W OBJ H
      · exact own_tail4 l Z b0 hw n0 n1 n2 n3 n4 f0 g0 f1 g1 f2 g2 0 1 dr ow pr se hf rs dm el eh qo o va ca la ka ea la2 ua uc sa ev er so rx1 ry1 rx0 ry0 kva kca kla kka kea kla2 kua kuc ksa kev ker kso krx1 kry1 krx0 kry0 (.int 2) [(.ref rx0), (.ref rx1), (.null), (.null)] [(.ref ry0), (.ref ry1), (.null), (.null)] [(.int 0), (.int 0), (.int 0), (.int 0)] (by decide) (by decide) (by decide) (by decide) (by decide) (by decide) (by decide) (by decide) (by decide) (by decide) (by decide) (by decide) (by decide) rfl rfl rfl rfl rfl rfl rfl rfl rfl cf0 cg0 cf1 cg1 cf2 cg2 bel beh (by omega) how Ova Oca Oua zo W OBJ H
      · exact own_tail2 l Z b0 hw n0 n1 n2 n3 n4 f0 g0 f1 g1 f2 g2 0 1 dr ow pr se hf rs dm el eh qo o va ca la ka ea la2 ua uc sa ev er so rx1 ry1 rx0 ry0 kva kca kla kka kea kla2 kua kuc ksa kev ker kso krx1 kry1 krx0 kry0 (.int 2) [(.ref rx0), (.ref rx1), (.null), (.null)] [(.ref ry0), (.ref ry1), (.null), (.null)] [(.int 0), (.int 0), (.int 0), (.int 0)] (by decide) (by decide) (by decide) (by decide) (by decide) (by decide) (by decide) (by decide) (by decide) (by decide) (by decide) (by decide) (by decide) rfl rfl rfl rfl rfl rfl rfl rfl rfl cf0 cg0 cf1 cg1 cf2 cg2 bel beh (by omega) how Ova Oca Oua zo W OBJ H
      · exact own_tail6 l Z b0 hw n0 n1 n2 n3 n4 f0 g0 f1 g1 f2 g2 0 1 dr ow pr se hf rs dm el eh qo o va ca la ka ea la2 ua uc sa ev er so rx1 ry1 rx0 ry0 kva kca kla kka kea kla2 kua kuc ksa kev ker kso krx1 kry1 krx0 kry0 (.int 2) [(.ref rx0), (.ref rx1), (.null), (.null)] [(.ref ry0), (.ref ry1), (.null), (.null)] [(.int 0), (.int 0), (.int 0), (.int 0)] (by decide) (by decide) (by decide) (by decide) (by decide) (by decide) (by decide) (by decide) (by decide) (by decide) (by decide) (by decide) (by decide) rfl rfl rfl rfl rfl rfl rfl rfl rfl cf0 cg0 cf1 cg1 cf2 cg2 bel beh (by omega) how Ova Oca Oua zo W OBJ H
      · exact own_tail1 l Z b0 hw n0 n1 n2 n3 n4 f0 g0 f1 g1 f2 g2 0 1 dr ow pr se hf rs dm el eh qo o va ca la ka ea la2 ua uc sa ev er so rx1 ry1 rx0 ry0 kva kca kla kka kea kla2 kua kuc ksa kev ker kso krx1 kry1 krx0 kry0 (.int 2) [(.ref rx0), (.ref rx1), (.null), (.null)] [(.ref ry0), (.ref ry1), (.null), (.null)] [(.int 0), (.int 0), (.int 0), (.int 0)] (by decide) (by decide) (by decide) (by decide) (by decide) (by decide) (by decide) (by decide) (by decide) (by decide) (by decide) (by decide) (by decide) rfl rfl rfl rfl rfl rfl rfl rfl rfl cf0 cg0 cf1 cg1 cf2 cg2 bel beh (by omega) how Ova Oca Oua zo W OBJ H
      · exact own_tail5 l Z b0 hw n0 n1 n2 n3 n4 f0 g0 f1 g1 f2 g2 0 1 dr ow pr se hf rs dm el eh qo o va ca la ka ea la2 ua uc sa ev er so rx1 ry1 rx0 ry0 kva kca kla kka kea kla2 kua kuc ksa kev ker kso krx1 kry1 krx0 kry0 (.int 2) [(.ref rx0), (.ref rx1), (.null), (.null)] [(.ref ry0), (.ref ry1), (.null), (.null)] [(.int 0), (.int 0), (.int 0), (.int 0)] (by decide) (by decide) (by decide) (by decide) (by decide) (by decide) (by decide) (by decide) (by decide) (by decide) (by decide) (by decide) (by decide) rfl rfl rfl rfl rfl rfl rfl rfl rfl cf0 cg0 cf1 cg1 cf2 cg2 bel beh (by omega) how Ova Oca Oua zo W OBJ H
      · exact own_tail3 l Z b0 hw n0 n1 n2 n3 n4 f0 g0 f1 g1 f2 g2 0 1 dr ow pr se hf rs dm el eh qo o va ca la ka ea la2 ua uc sa ev er so rx1 ry1 rx0 ry0 kva kca kla kka kea kla2 kua kuc ksa kev ker kso krx1 kry1 krx0 kry0 (.int 2) [(.ref rx0), (.ref rx1), (.null), (.null)] [(.ref ry0), (.ref ry1), (.null), (.null)] [(.int 0), (.int 0), (.int 0), (.int 0)] (by decide) (by decide) (by decide) (by decide) (by decide) (by decide) (by decide) (by decide) (by decide) (by decide) (by decide) (by decide) (by decide) rfl rfl rfl rfl rfl rfl rfl rfl rfl cf0 cg0 cf1 cg1 cf2 cg2 bel beh (by omega) how Ova Oca Oua zo W OBJ H
      · exact own_tail7 l Z b0 hw n0 n1 n2 n3 n4 f0 g0 f1 g1 f2 g2 0 1 dr ow pr se hf rs dm el eh qo o va ca la ka ea la2 ua uc sa ev er so rx1 ry1 rx0 ry0 kva kca kla kka kea kla2 kua kuc ksa kev ker kso krx1 kry1 krx0 kry0 (.int 2) [(.ref rx0), (.ref rx1), (.null), (.null)] [(.ref ry0), (.ref ry1), (.null), (.null)] [(.int 0), (.int 0), (.int 0), (.int 0)] (by decide) (by decide) (by decide) (by decide) (by decide) (by decide) (by decide) (by decide) (by decide) (by decide) (by decide) (by decide) (by decide) rfl rfl rfl rfl rfl rfl rfl rfl rfl cf0 cg0 cf1 cg1 cf2 cg2 bel beh (by omega) how Ova Oca Oua zo W OBJ H
    · have H : HM Z h [(va, kva, (.array .int), 4, [(.ref rx0), (.ref rx1), (.null), (.null)], (.null)), (ca, kca, (.array .double), 4, [(.ref ry0), (.ref ry1), (.null), (.null)], (.null)), (la, kla, .int, 4, [(.int 0), (.int 0), (.int 0), (.int 0)], (.int 0)), (ua, kua, (.array .int), 3, [(.null), (.null), (.null)], (.null)), (uc, kuc, .int, 3, [(.int 0), (.int 0), (.int 0)], (.int 0)), (sa, ksa, .int, 3, [(.int 0), (.int 0), (.int 0)], (.int 0)), (rx0, krx0, .int, 2, [(.int 0), (.int 0)], (.int 0)), (ry0, kry0, .double, 4, [(.double 0), (.double 0), (.double 0), (.double 0)], (.double 0)), (rx1, krx1, .int, 2, [(.int 0), (.int 0)], (.int 0)), (ry1, kry1, .double, 4, [(.double 0), (.double 0), (.double 0), (.double 0)], (.double 0)), (ea, kea, .double, 8, [(.double 0), (.double 0), (.double 0), (.double 0), (.double 0), (.double 0), (.double 0), (.double 0)], (.double 0)), (er, ker, .int, 3, [(.int 0), (.int 0), (.int 0)], (.int 0)), (ev, kev, .int, 3, [(.int 0), (.int 0), (.int 0)], (.int 0)), (la2, kla2, .boolean, 4, [(.int 0), (.int 0), (.int 0), (.int 0)], (.int 0)), (ka, kka, .double, 8, [(.double 0), (.double 0), (.double 0), (.double 0), (.double 0), (.double 0), (.double 0), (.double 0)], (.double 0))] := (((((((((((H.front 13 rfl).front 1 rfl).front 2 rfl).front 6 rfl).front 7 rfl).front 10 rfl).front 11 rfl).front 12 rfl).front 10 rfl).front 10 rfl).front 10 rfl)
      have H := (HM.split (P := [_, _, _, _, _, _, _, _, _, _, _]) H).1
      rcases hb0 with ⟨rfl, rfl⟩ | ⟨rfl, rfl⟩ <;> rcases hb1 with ⟨rfl, rfl⟩ | ⟨rfl, rfl⟩ <;> rcases hb2 with ⟨rfl, rfl⟩ | ⟨rfl, rfl⟩
      · exact own_tail0 l Z b0 hw n0 n1 n2 n3 n4 f0 g0 f1 g1 f2 g2 1 0 dr ow pr se hf rs dm el eh qo o va ca la ka ea la2 ua uc sa ev er so rx0 ry0 rx1 ry1 kva kca kla kka kea kla2 kua kuc ksa kev ker kso krx0 kry0 krx1 kry1 (.int 2) [(.ref rx0), (.ref rx1), (.null), (.null)] [(.ref ry0), (.ref ry1), (.null), (.null)] [(.int 0), (.int 0), (.int 0), (.int 0)] (by decide) (by decide) (by decide) (by decide) (by decide) (by decide) (by decide) (by decide) (by decide) (by decide) (by decide) (by decide) (by decide) rfl rfl rfl rfl rfl rfl rfl rfl rfl cf0 cg0 cf1 cg1 cf2 cg2 bel beh (by omega) how Ova Oca Oua zo W OBJ H
      · exact own_tail4 l Z b0 hw n0 n1 n2 n3 n4 f0 g0 f1 g1 f2 g2 1 0 dr ow pr se hf rs dm el eh qo o va ca la ka ea la2 ua uc sa ev er so rx0 ry0 rx1 ry1 kva kca kla kka kea kla2 kua kuc ksa kev ker kso krx0 kry0 krx1 kry1 (.int 2) [(.ref rx0), (.ref rx1), (.null), (.null)] [(.ref ry0), (.ref ry1), (.null), (.null)] [(.int 0), (.int 0), (.int 0), (.int 0)] (by decide) (by decide) (by decide) (by decide) (by decide) (by decide) (by decide) (by decide) (by decide) (by decide) (by decide) (by decide) (by decide) rfl rfl rfl rfl rfl rfl rfl rfl rfl cf0 cg0 cf1 cg1 cf2 cg2 bel beh (by omega) how Ova Oca Oua zo W OBJ H
      · exact own_tail2 l Z b0 hw n0 n1 n2 n3 n4 f0 g0 f1 g1 f2 g2 1 0 dr ow pr se hf rs dm el eh qo o va ca la ka ea la2 ua uc sa ev er so rx0 ry0 rx1 ry1 kva kca kla kka kea kla2 kua kuc ksa kev ker kso krx0 kry0 krx1 kry1 (.int 2) [(.ref rx0), (.ref rx1), (.null), (.null)] [(.ref ry0), (.ref ry1), (.null), (.null)] [(.int 0), (.int 0), (.int 0), (.int 0)] (by decide) (by decide) (by decide) (by decide) (by decide) (by decide) (by decide) (by decide) (by decide) (by decide) (by decide) (by decide) (by decide) rfl rfl rfl rfl rfl rfl rfl rfl rfl cf0 cg0 cf1 cg1 cf2 cg2 bel beh (by omega) how Ova Oca Oua zo W OBJ H
      · exact own_tail6 l Z b0 hw n0 n1 n2 n3 n4 f0 g0 f1 g1 f2 g2 1 0 dr ow pr se hf rs dm el eh qo o va ca la ka ea la2 ua uc sa ev er so rx0 ry0 rx1 ry1 kva kca kla kka kea kla2 kua kuc ksa kev ker kso krx0 kry0 krx1 kry1 (.int 2) [(.ref rx0), (.ref rx1), (.null), (.null)] [(.ref ry0), (.ref ry1), (.null), (.null)] [(.int 0), (.int 0), (.int 0), (.int 0)] (by decide) (by decide) (by decide) (by decide) (by decide) (by decide) (by decide) (by decide) (by decide) (by decide) (by decide) (by decide) (by decide) rfl rfl rfl rfl rfl rfl rfl rfl rfl cf0 cg0 cf1 cg1 cf2 cg2 bel beh (by omega) how Ova Oca Oua zo W OBJ H
      · exact own_tail1 l Z b0 hw n0 n1 n2 n3 n4 f0 g0 f1 g1 f2 g2 1 0 dr ow pr se hf rs dm el eh qo o va ca la ka ea la2 ua uc sa ev er so rx0 ry0 rx1 ry1 kva kca kla kka kea kla2 kua kuc ksa kev ker kso krx0 kry0 krx1 kry1 (.int 2) [(.ref rx0), (.ref rx1), (.null), (.null)] [(.ref ry0), (.ref ry1), (.null), (.null)] [(.int 0), (.int 0), (.int 0), (.int 0)] (by decide) (by decide) (by decide) (by decide) (by decide) (by decide) (by decide) (by decide) (by decide) (by decide) (by decide) (by decide) (by decide) rfl rfl rfl rfl rfl rfl rfl rfl rfl cf0 cg0 cf1 cg1 cf2 cg2 bel beh (by omega) how Ova Oca Oua zo W OBJ H
      · exact own_tail5 l Z b0 hw n0 n1 n2 n3 n4 f0 g0 f1 g1 f2 g2 1 0 dr ow pr se hf rs dm el eh qo o va ca la ka ea la2 ua uc sa ev er so rx0 ry0 rx1 ry1 kva kca kla kka kea kla2 kua kuc ksa kev ker kso krx0 kry0 krx1 kry1 (.int 2) [(.ref rx0), (.ref rx1), (.null), (.null)] [(.ref ry0), (.ref ry1), (.null), (.null)] [(.int 0), (.int 0), (.int 0), (.int 0)] (by decide) (by decide) (by decide) (by decide) (by decide) (by decide) (by decide) (by decide) (by decide) (by decide) (by decide) (by decide) (by decide) rfl rfl rfl rfl rfl rfl rfl rfl rfl cf0 cg0 cf1 cg1 cf2 cg2 bel beh (by omega) how Ova Oca Oua zo W OBJ H
      · exact own_tail3 l Z b0 hw n0 n1 n2 n3 n4 f0 g0 f1 g1 f2 g2 1 0 dr ow pr se hf rs dm el eh qo o va ca la ka ea la2 ua uc sa ev er so rx0 ry0 rx1 ry1 kva kca kla kka kea kla2 kua kuc ksa kev ker kso krx0 kry0 krx1 kry1 (.int 2) [(.ref rx0), (.ref rx1), (.null), (.null)] [(.ref ry0), (.ref ry1), (.null), (.null)] [(.int 0), (.int 0), (.int 0), (.int 0)] (by decide) (by decide) (by decide) (by decide) (by decide) (by decide) (by decide) (by decide) (by decide) (by decide) (by decide) (by decide) (by decide) rfl rfl rfl rfl rfl rfl rfl rfl rfl cf0 cg0 cf1 cg1 cf2 cg2 bel beh (by omega) how Ova Oca Oua zo W OBJ H
      · exact own_tail7 l Z b0 hw n0 n1 n2 n3 n4 f0 g0 f1 g1 f2 g2 1 0 dr ow pr se hf rs dm el eh qo o va ca la ka ea la2 ua uc sa ev er so rx0 ry0 rx1 ry1 kva kca kla kka kea kla2 kua kuc ksa kev ker kso krx0 kry0 krx1 kry1 (.int 2) [(.ref rx0), (.ref rx1), (.null), (.null)] [(.ref ry0), (.ref ry1), (.null), (.null)] [(.int 0), (.int 0), (.int 0), (.int 0)] (by decide) (by decide) (by decide) (by decide) (by decide) (by decide) (by decide) (by decide) (by decide) (by decide) (by decide) (by decide) (by decide) rfl rfl rfl rfl rfl rfl rfl rfl rfl cf0 cg0 cf1 cg1 cf2 cg2 bel beh (by omega) how Ova Oca Oua zo W OBJ H
  refine o_iloadN 60 W at_59 rfl ?_
  refine o_bipush 62 W (18) at_60 (by first | rfl | decide) ?_
  refine o_iushr 63 W at_62 ?_
  refine o_iconst 64 W (1) at_63 (by first | rfl | decide) ?_
  refine o_iand 65 W at_64 ?_
  have hbt0 := own_and1 (XT.ushr n3 18)
  generalize ((XT.ushr n3 (18 : Int32)) &&& (1 : Int32)) = bt0 at hbt0 ⊢
  rcases hbt0 with rfl | rfl
  · refine o_ifY 72 W at_65 (XT.i0_eq_t (by decide)) ?_
    refine o_iconst 73 W (0) at_72 (by first | rfl | decide) ?_
    refine o_istore 75 W #[.val (.int n0), .val (.int n1), .val (.int n2), .val (.int n3), .val (.int n4), .val (.int f0), .val (.int g0), .val (.int f1), .val (.int g1), .val (.int f2), .val (.int g2), .val (.int (0 : Int32)), .unset, .unset, .unset, .unset, .unset, .unset, .unset, .unset, .unset, .unset, .unset, .unset, .unset, .unset, .unset, .unset, .unset, .unset, .unset] at_73 rfl ?_
    refine o_iloadN 76 W at_75 rfl ?_
    refine o_bipush 78 W (19) at_76 (by first | rfl | decide) ?_
    refine o_iushr 79 W at_78 ?_
    refine o_iconst 80 W (1) at_79 (by first | rfl | decide) ?_
    refine o_iand 81 W at_80 ?_
    have hbt1 := own_and1 (XT.ushr n3 19)
    generalize ((XT.ushr n3 (19 : Int32)) &&& (1 : Int32)) = bt1 at hbt1 ⊢
    rcases hbt1 with rfl | rfl
    · refine o_ifY 88 W at_81 (XT.i0_eq_t (by decide)) ?_
      refine o_iconst 89 W (0) at_88 (by first | rfl | decide) ?_
      refine o_istore 91 W #[.val (.int n0), .val (.int n1), .val (.int n2), .val (.int n3), .val (.int n4), .val (.int f0), .val (.int g0), .val (.int f1), .val (.int g1), .val (.int f2), .val (.int g2), .val (.int (0 : Int32)), .val (.int (0 : Int32)), .unset, .unset, .unset, .unset, .unset, .unset, .unset, .unset, .unset, .unset, .unset, .unset, .unset, .unset, .unset, .unset, .unset, .unset] at_89 rfl ?_
      refine o_iloadN 92 W at_91 rfl ?_
      refine o_bipush 94 W (20) at_92 (by first | rfl | decide) ?_
      refine o_iushr 95 W at_94 ?_
      refine o_iconst 96 W (1) at_95 (by first | rfl | decide) ?_
      refine o_iand 97 W at_96 ?_
      have hbt2 := own_and1 (XT.ushr n3 20)
      generalize ((XT.ushr n3 (20 : Int32)) &&& (1 : Int32)) = bt2 at hbt2 ⊢
      rcases hbt2 with rfl | rfl
      · refine o_ifY 104 W at_97 (XT.i0_eq_t (by decide)) ?_
        refine o_iconst 105 W (0) at_104 (by first | rfl | decide) ?_
        refine o_istore 107 W #[.val (.int n0), .val (.int n1), .val (.int n2), .val (.int n3), .val (.int n4), .val (.int f0), .val (.int g0), .val (.int f1), .val (.int g1), .val (.int f2), .val (.int g2), .val (.int (0 : Int32)), .val (.int (0 : Int32)), .val (.int (0 : Int32)), .unset, .unset, .unset, .unset, .unset, .unset, .unset, .unset, .unset, .unset, .unset, .unset, .unset, .unset, .unset, .unset, .unset] at_105 rfl ?_
        refine o_iloadN 108 W at_107 rfl ?_
        refine o_bipush 110 W (21) at_108 (by first | rfl | decide) ?_
        refine o_iushr 111 W at_110 ?_
        refine o_iconst 112 W (1) at_111 (by first | rfl | decide) ?_
        refine o_iand 113 W at_112 ?_
        have hr := own_and1 (XT.ushr n3 21)
        generalize ((XT.ushr n3 (21 : Int32)) &&& (1 : Int32)) = r at hr ⊢
        refine o_istore 115 W #[.val (.int n0), .val (.int n1), .val (.int n2), .val (.int n3), .val (.int n4), .val (.int f0), .val (.int g0), .val (.int f1), .val (.int g1), .val (.int f2), .val (.int g2), .val (.int (0 : Int32)), .val (.int (0 : Int32)), .val (.int (0 : Int32)), .val (.int r), .unset, .unset, .unset, .unset, .unset, .unset, .unset, .unset, .unset, .unset, .unset, .unset, .unset, .unset, .unset, .unset] at_113 rfl ?_
        refine o_iconst 116 W (1) at_115 (by first | rfl | decide) ?_
        refine o_iload 118 W at_116 rfl ?_
        refine o_isub 119 W at_118 ?_
        have hrr : r = 0 ∧ 1 - r = 1 ∨ r = 1 ∧ 1 - r = 0 := by
          rcases hr with rfl | rfl
          · exact Or.inl ⟨rfl, rfl⟩
          · exact Or.inr ⟨rfl, rfl⟩
        generalize ((1 : Int32) - r) = ro at hrr ⊢
        refine o_istore 121 W #[.val (.int n0), .val (.int n1), .val (.int n2), .val (.int n3), .val (.int n4), .val (.int f0), .val (.int g0), .val (.int f1), .val (.int g1), .val (.int f2), .val (.int g2), .val (.int (0 : Int32)), .val (.int (0 : Int32)), .val (.int (0 : Int32)), .val (.int r), .val (.int ro), .unset, .unset, .unset, .unset, .unset, .unset, .unset, .unset, .unset, .unset, .unset, .unset, .unset, .unset, .unset] at_119 rfl ?_
        refine o_iloadN 122 W at_121 rfl ?_
        refine o_bipush 124 W (22) at_122 (by first | rfl | decide) ?_
        refine o_iushr 125 W at_124 ?_
        refine o_bipush 127 W (15) at_125 (by first | rfl | decide) ?_
        refine o_iand 128 W at_127 ?_
        have hdr := own_b15 (XT.ushr n3 22)
        generalize ((XT.ushr n3 (22 : Int32)) &&& (15 : Int32)) = dr at hdr ⊢
        refine o_istore 130 W #[.val (.int n0), .val (.int n1), .val (.int n2), .val (.int n3), .val (.int n4), .val (.int f0), .val (.int g0), .val (.int f1), .val (.int g1), .val (.int f2), .val (.int g2), .val (.int (0 : Int32)), .val (.int (0 : Int32)), .val (.int (0 : Int32)), .val (.int r), .val (.int ro), .val (.int dr), .unset, .unset, .unset, .unset, .unset, .unset, .unset, .unset, .unset, .unset, .unset, .unset, .unset, .unset] at_128 rfl ?_
        refine o_iload 132 W at_130 rfl ?_
        refine o_ldcI 134 W (tw hw 0) at_132 ?_
        refine o_iand 135 W at_134 ?_
        refine o_iconst 136 W (3) at_135 (by first | rfl | decide) ?_
        refine o_irem 137 W at_136 (by decide) ?_
        have how := own_mod3 n4
        generalize ((n4 &&& (2147483647 : Int32)) % (3 : Int32)) = ow at how ⊢
        refine o_istore 139 W #[.val (.int n0), .val (.int n1), .val (.int n2), .val (.int n3), .val (.int n4), .val (.int f0), .val (.int g0), .val (.int f1), .val (.int g1), .val (.int f2), .val (.int g2), .val (.int (0 : Int32)), .val (.int (0 : Int32)), .val (.int (0 : Int32)), .val (.int r), .val (.int ro), .val (.int dr), .val (.int ow), .unset, .unset, .unset, .unset, .unset, .unset, .unset, .unset, .unset, .unset, .unset, .unset, .unset] at_137 rfl ?_
        refine o_iload 141 W at_139 rfl ?_
        refine o_ifY 152 W at_141 (XT.i0_eq_t (by decide)) ?_
        have hp0 : (0 : Int32).toInt = 0 := rfl
        refine o_iconst 153 W (0) at_152 (by first | rfl | decide) ?_
        refine o_iload 155 W at_153 rfl ?_
        refine o_ifY 166 W at_155 (XT.i0_eq_t (by decide)) ?_
        have hp1 : (0 : Int32).toInt = 0 := rfl
        refine o_iconst 167 W (0) at_166 (by first | rfl | decide) ?_
        refine o_iadd 168 W at_167 ?_
        have hq1 := own_add32 hp0 hp1 (by omega)
        generalize ((0 : Int32) + (0 : Int32)) = p1_ at hq1 ⊢
        refine o_iload 170 W at_168 rfl ?_
        refine o_ifY 181 W at_170 (XT.i0_eq_t (by decide)) ?_
        have hp2 : (0 : Int32).toInt = 0 := rfl
        refine o_iconst 182 W (0) at_181 (by first | rfl | decide) ?_
        refine o_iadd 183 W at_182 ?_
        have hq2 := own_add32 hq1 hp2 (by omega)
        generalize (p1_ + (0 : Int32)) = p2_ at hq2 ⊢
        refine o_istore 185 W #[.val (.int n0), .val (.int n1), .val (.int n2), .val (.int n3), .val (.int n4), .val (.int f0), .val (.int g0), .val (.int f1), .val (.int g1), .val (.int f2), .val (.int g2), .val (.int (0 : Int32)), .val (.int (0 : Int32)), .val (.int (0 : Int32)), .val (.int r), .val (.int ro), .val (.int dr), .val (.int ow), .val (.int p2_), .unset, .unset, .unset, .unset, .unset, .unset, .unset, .unset, .unset, .unset, .unset, .unset] at_183 rfl ?_
        exact J T 0 0 0 r ro dr ow p2_ 0 0 0 (Or.inl ⟨rfl, rfl⟩) (Or.inl ⟨rfl, rfl⟩) (Or.inl ⟨rfl, rfl⟩) hrr hdr how (by omega) W
      · refine o_ifN 100 W at_97 (XT.i0_eq_f (by decide)) ?_
        refine o_iconst 101 W (1) at_100 (by first | rfl | decide) ?_
        refine o_goto 105 W at_101 ?_
        refine o_istore 107 W #[.val (.int n0), .val (.int n1), .val (.int n2), .val (.int n3), .val (.int n4), .val (.int f0), .val (.int g0), .val (.int f1), .val (.int g1), .val (.int f2), .val (.int g2), .val (.int (0 : Int32)), .val (.int (0 : Int32)), .val (.int (1 : Int32)), .unset, .unset, .unset, .unset, .unset, .unset, .unset, .unset, .unset, .unset, .unset, .unset, .unset, .unset, .unset, .unset, .unset] at_105 rfl ?_
        refine o_iloadN 108 W at_107 rfl ?_
        refine o_bipush 110 W (21) at_108 (by first | rfl | decide) ?_
        refine o_iushr 111 W at_110 ?_
        refine o_iconst 112 W (1) at_111 (by first | rfl | decide) ?_
        refine o_iand 113 W at_112 ?_
        have hr := own_and1 (XT.ushr n3 21)
        generalize ((XT.ushr n3 (21 : Int32)) &&& (1 : Int32)) = r at hr ⊢
        refine o_istore 115 W #[.val (.int n0), .val (.int n1), .val (.int n2), .val (.int n3), .val (.int n4), .val (.int f0), .val (.int g0), .val (.int f1), .val (.int g1), .val (.int f2), .val (.int g2), .val (.int (0 : Int32)), .val (.int (0 : Int32)), .val (.int (1 : Int32)), .val (.int r), .unset, .unset, .unset, .unset, .unset, .unset, .unset, .unset, .unset, .unset, .unset, .unset, .unset, .unset, .unset, .unset] at_113 rfl ?_
        refine o_iconst 116 W (1) at_115 (by first | rfl | decide) ?_
        refine o_iload 118 W at_116 rfl ?_
        refine o_isub 119 W at_118 ?_
        have hrr : r = 0 ∧ 1 - r = 1 ∨ r = 1 ∧ 1 - r = 0 := by
          rcases hr with rfl | rfl
          · exact Or.inl ⟨rfl, rfl⟩
          · exact Or.inr ⟨rfl, rfl⟩
        generalize ((1 : Int32) - r) = ro at hrr ⊢
        refine o_istore 121 W #[.val (.int n0), .val (.int n1), .val (.int n2), .val (.int n3), .val (.int n4), .val (.int f0), .val (.int g0), .val (.int f1), .val (.int g1), .val (.int f2), .val (.int g2), .val (.int (0 : Int32)), .val (.int (0 : Int32)), .val (.int (1 : Int32)), .val (.int r), .val (.int ro), .unset, .unset, .unset, .unset, .unset, .unset, .unset, .unset, .unset, .unset, .unset, .unset, .unset, .unset, .unset] at_119 rfl ?_
        refine o_iloadN 122 W at_121 rfl ?_
        refine o_bipush 124 W (22) at_122 (by first | rfl | decide) ?_
        refine o_iushr 125 W at_124 ?_
        refine o_bipush 127 W (15) at_125 (by first | rfl | decide) ?_
        refine o_iand 128 W at_127 ?_
        have hdr := own_b15 (XT.ushr n3 22)
        generalize ((XT.ushr n3 (22 : Int32)) &&& (15 : Int32)) = dr at hdr ⊢
        refine o_istore 130 W #[.val (.int n0), .val (.int n1), .val (.int n2), .val (.int n3), .val (.int n4), .val (.int f0), .val (.int g0), .val (.int f1), .val (.int g1), .val (.int f2), .val (.int g2), .val (.int (0 : Int32)), .val (.int (0 : Int32)), .val (.int (1 : Int32)), .val (.int r), .val (.int ro), .val (.int dr), .unset, .unset, .unset, .unset, .unset, .unset, .unset, .unset, .unset, .unset, .unset, .unset, .unset, .unset] at_128 rfl ?_
        refine o_iload 132 W at_130 rfl ?_
        refine o_ldcI 134 W (tw hw 0) at_132 ?_
        refine o_iand 135 W at_134 ?_
        refine o_iconst 136 W (3) at_135 (by first | rfl | decide) ?_
        refine o_irem 137 W at_136 (by decide) ?_
        have how := own_mod3 n4
        generalize ((n4 &&& (2147483647 : Int32)) % (3 : Int32)) = ow at how ⊢
        refine o_istore 139 W #[.val (.int n0), .val (.int n1), .val (.int n2), .val (.int n3), .val (.int n4), .val (.int f0), .val (.int g0), .val (.int f1), .val (.int g1), .val (.int f2), .val (.int g2), .val (.int (0 : Int32)), .val (.int (0 : Int32)), .val (.int (1 : Int32)), .val (.int r), .val (.int ro), .val (.int dr), .val (.int ow), .unset, .unset, .unset, .unset, .unset, .unset, .unset, .unset, .unset, .unset, .unset, .unset, .unset] at_137 rfl ?_
        refine o_iload 141 W at_139 rfl ?_
        refine o_ifY 152 W at_141 (XT.i0_eq_t (by decide)) ?_
        have hp0 : (0 : Int32).toInt = 0 := rfl
        refine o_iconst 153 W (0) at_152 (by first | rfl | decide) ?_
        refine o_iload 155 W at_153 rfl ?_
        refine o_ifY 166 W at_155 (XT.i0_eq_t (by decide)) ?_
        have hp1 : (0 : Int32).toInt = 0 := rfl
        refine o_iconst 167 W (0) at_166 (by first | rfl | decide) ?_
        refine o_iadd 168 W at_167 ?_
        have hq1 := own_add32 hp0 hp1 (by omega)
        generalize ((0 : Int32) + (0 : Int32)) = p1_ at hq1 ⊢
        refine o_iload 170 W at_168 rfl ?_
        refine o_ifN 173 W at_170 (XT.i0_eq_f (by decide)) ?_
        refine o_iload 175 W at_173 rfl ?_
        refine o_iload 177 W at_175 rfl ?_
        refine o_iadd 178 W at_177 ?_
        have hp2 := own_add32 (f := f2) (g := g2) rfl rfl (by omega)
        generalize (f2 + g2) = p2 at hp2 ⊢
        refine o_goto 182 W at_178 ?_
        refine o_iadd 183 W at_182 ?_
        have hq2 := own_add32 hq1 hp2 (by omega)
        generalize (p1_ + p2) = p2_ at hq2 ⊢
        refine o_istore 185 W #[.val (.int n0), .val (.int n1), .val (.int n2), .val (.int n3), .val (.int n4), .val (.int f0), .val (.int g0), .val (.int f1), .val (.int g1), .val (.int f2), .val (.int g2), .val (.int (0 : Int32)), .val (.int (0 : Int32)), .val (.int (1 : Int32)), .val (.int r), .val (.int ro), .val (.int dr), .val (.int ow), .val (.int p2_), .unset, .unset, .unset, .unset, .unset, .unset, .unset, .unset, .unset, .unset, .unset, .unset] at_183 rfl ?_
        exact J T 0 0 1 r ro dr ow p2_ 0 0 (f2.toInt + g2.toInt) (Or.inl ⟨rfl, rfl⟩) (Or.inl ⟨rfl, rfl⟩) (Or.inr ⟨rfl, rfl⟩) hrr hdr how (by omega) W
    · refine o_ifN 84 W at_81 (XT.i0_eq_f (by decide)) ?_
      refine o_iconst 85 W (1) at_84 (by first | rfl | decide) ?_
      refine o_goto 89 W at_85 ?_
      refine o_istore 91 W #[.val (.int n0), .val (.int n1), .val (.int n2), .val (.int n3), .val (.int n4), .val (.int f0), .val (.int g0), .val (.int f1), .val (.int g1), .val (.int f2), .val (.int g2), .val (.int (0 : Int32)), .val (.int (1 : Int32)), .unset, .unset, .unset, .unset, .unset, .unset, .unset, .unset, .unset, .unset, .unset, .unset, .unset, .unset, .unset, .unset, .unset, .unset] at_89 rfl ?_
      refine o_iloadN 92 W at_91 rfl ?_
      refine o_bipush 94 W (20) at_92 (by first | rfl | decide) ?_
      refine o_iushr 95 W at_94 ?_
      refine o_iconst 96 W (1) at_95 (by first | rfl | decide) ?_
      refine o_iand 97 W at_96 ?_
      have hbt2 := own_and1 (XT.ushr n3 20)
      generalize ((XT.ushr n3 (20 : Int32)) &&& (1 : Int32)) = bt2 at hbt2 ⊢
      rcases hbt2 with rfl | rfl
      · refine o_ifY 104 W at_97 (XT.i0_eq_t (by decide)) ?_
        refine o_iconst 105 W (0) at_104 (by first | rfl | decide) ?_
        refine o_istore 107 W #[.val (.int n0), .val (.int n1), .val (.int n2), .val (.int n3), .val (.int n4), .val (.int f0), .val (.int g0), .val (.int f1), .val (.int g1), .val (.int f2), .val (.int g2), .val (.int (0 : Int32)), .val (.int (1 : Int32)), .val (.int (0 : Int32)), .unset, .unset, .unset, .unset, .unset, .unset, .unset, .unset, .unset, .unset, .unset, .unset, .unset, .unset, .unset, .unset, .unset] at_105 rfl ?_
        refine o_iloadN 108 W at_107 rfl ?_
        refine o_bipush 110 W (21) at_108 (by first | rfl | decide) ?_
        refine o_iushr 111 W at_110 ?_
        refine o_iconst 112 W (1) at_111 (by first | rfl | decide) ?_
        refine o_iand 113 W at_112 ?_
        have hr := own_and1 (XT.ushr n3 21)
        generalize ((XT.ushr n3 (21 : Int32)) &&& (1 : Int32)) = r at hr ⊢
        refine o_istore 115 W #[.val (.int n0), .val (.int n1), .val (.int n2), .val (.int n3), .val (.int n4), .val (.int f0), .val (.int g0), .val (.int f1), .val (.int g1), .val (.int f2), .val (.int g2), .val (.int (0 : Int32)), .val (.int (1 : Int32)), .val (.int (0 : Int32)), .val (.int r), .unset, .unset, .unset, .unset, .unset, .unset, .unset, .unset, .unset, .unset, .unset, .unset, .unset, .unset, .unset, .unset] at_113 rfl ?_
        refine o_iconst 116 W (1) at_115 (by first | rfl | decide) ?_
        refine o_iload 118 W at_116 rfl ?_
        refine o_isub 119 W at_118 ?_
        have hrr : r = 0 ∧ 1 - r = 1 ∨ r = 1 ∧ 1 - r = 0 := by
          rcases hr with rfl | rfl
          · exact Or.inl ⟨rfl, rfl⟩
          · exact Or.inr ⟨rfl, rfl⟩
        generalize ((1 : Int32) - r) = ro at hrr ⊢
        refine o_istore 121 W #[.val (.int n0), .val (.int n1), .val (.int n2), .val (.int n3), .val (.int n4), .val (.int f0), .val (.int g0), .val (.int f1), .val (.int g1), .val (.int f2), .val (.int g2), .val (.int (0 : Int32)), .val (.int (1 : Int32)), .val (.int (0 : Int32)), .val (.int r), .val (.int ro), .unset, .unset, .unset, .unset, .unset, .unset, .unset, .unset, .unset, .unset, .unset, .unset, .unset, .unset, .unset] at_119 rfl ?_
        refine o_iloadN 122 W at_121 rfl ?_
        refine o_bipush 124 W (22) at_122 (by first | rfl | decide) ?_
        refine o_iushr 125 W at_124 ?_
        refine o_bipush 127 W (15) at_125 (by first | rfl | decide) ?_
        refine o_iand 128 W at_127 ?_
        have hdr := own_b15 (XT.ushr n3 22)
        generalize ((XT.ushr n3 (22 : Int32)) &&& (15 : Int32)) = dr at hdr ⊢
        refine o_istore 130 W #[.val (.int n0), .val (.int n1), .val (.int n2), .val (.int n3), .val (.int n4), .val (.int f0), .val (.int g0), .val (.int f1), .val (.int g1), .val (.int f2), .val (.int g2), .val (.int (0 : Int32)), .val (.int (1 : Int32)), .val (.int (0 : Int32)), .val (.int r), .val (.int ro), .val (.int dr), .unset, .unset, .unset, .unset, .unset, .unset, .unset, .unset, .unset, .unset, .unset, .unset, .unset, .unset] at_128 rfl ?_
        refine o_iload 132 W at_130 rfl ?_
        refine o_ldcI 134 W (tw hw 0) at_132 ?_
        refine o_iand 135 W at_134 ?_
        refine o_iconst 136 W (3) at_135 (by first | rfl | decide) ?_
        refine o_irem 137 W at_136 (by decide) ?_
        have how := own_mod3 n4
        generalize ((n4 &&& (2147483647 : Int32)) % (3 : Int32)) = ow at how ⊢
        refine o_istore 139 W #[.val (.int n0), .val (.int n1), .val (.int n2), .val (.int n3), .val (.int n4), .val (.int f0), .val (.int g0), .val (.int f1), .val (.int g1), .val (.int f2), .val (.int g2), .val (.int (0 : Int32)), .val (.int (1 : Int32)), .val (.int (0 : Int32)), .val (.int r), .val (.int ro), .val (.int dr), .val (.int ow), .unset, .unset, .unset, .unset, .unset, .unset, .unset, .unset, .unset, .unset, .unset, .unset, .unset] at_137 rfl ?_
        refine o_iload 141 W at_139 rfl ?_
        refine o_ifY 152 W at_141 (XT.i0_eq_t (by decide)) ?_
        have hp0 : (0 : Int32).toInt = 0 := rfl
        refine o_iconst 153 W (0) at_152 (by first | rfl | decide) ?_
        refine o_iload 155 W at_153 rfl ?_
        refine o_ifN 158 W at_155 (XT.i0_eq_f (by decide)) ?_
        refine o_iload 160 W at_158 rfl ?_
        refine o_iload 162 W at_160 rfl ?_
        refine o_iadd 163 W at_162 ?_
        have hp1 := own_add32 (f := f1) (g := g1) rfl rfl (by omega)
        generalize (f1 + g1) = p1 at hp1 ⊢
        refine o_goto 167 W at_163 ?_
        refine o_iadd 168 W at_167 ?_
        have hq1 := own_add32 hp0 hp1 (by omega)
        generalize ((0 : Int32) + p1) = p1_ at hq1 ⊢
        refine o_iload 170 W at_168 rfl ?_
        refine o_ifY 181 W at_170 (XT.i0_eq_t (by decide)) ?_
        have hp2 : (0 : Int32).toInt = 0 := rfl
        refine o_iconst 182 W (0) at_181 (by first | rfl | decide) ?_
        refine o_iadd 183 W at_182 ?_
        have hq2 := own_add32 hq1 hp2 (by omega)
        generalize (p1_ + (0 : Int32)) = p2_ at hq2 ⊢
        refine o_istore 185 W #[.val (.int n0), .val (.int n1), .val (.int n2), .val (.int n3), .val (.int n4), .val (.int f0), .val (.int g0), .val (.int f1), .val (.int g1), .val (.int f2), .val (.int g2), .val (.int (0 : Int32)), .val (.int (1 : Int32)), .val (.int (0 : Int32)), .val (.int r), .val (.int ro), .val (.int dr), .val (.int ow), .val (.int p2_), .unset, .unset, .unset, .unset, .unset, .unset, .unset, .unset, .unset, .unset, .unset, .unset] at_183 rfl ?_
        exact J T 0 1 0 r ro dr ow p2_ 0 (f1.toInt + g1.toInt) 0 (Or.inl ⟨rfl, rfl⟩) (Or.inr ⟨rfl, rfl⟩) (Or.inl ⟨rfl, rfl⟩) hrr hdr how (by omega) W
      · refine o_ifN 100 W at_97 (XT.i0_eq_f (by decide)) ?_
        refine o_iconst 101 W (1) at_100 (by first | rfl | decide) ?_
        refine o_goto 105 W at_101 ?_
        refine o_istore 107 W #[.val (.int n0), .val (.int n1), .val (.int n2), .val (.int n3), .val (.int n4), .val (.int f0), .val (.int g0), .val (.int f1), .val (.int g1), .val (.int f2), .val (.int g2), .val (.int (0 : Int32)), .val (.int (1 : Int32)), .val (.int (1 : Int32)), .unset, .unset, .unset, .unset, .unset, .unset, .unset, .unset, .unset, .unset, .unset, .unset, .unset, .unset, .unset, .unset, .unset] at_105 rfl ?_
        refine o_iloadN 108 W at_107 rfl ?_
        refine o_bipush 110 W (21) at_108 (by first | rfl | decide) ?_
        refine o_iushr 111 W at_110 ?_
        refine o_iconst 112 W (1) at_111 (by first | rfl | decide) ?_
        refine o_iand 113 W at_112 ?_
        have hr := own_and1 (XT.ushr n3 21)
        generalize ((XT.ushr n3 (21 : Int32)) &&& (1 : Int32)) = r at hr ⊢
        refine o_istore 115 W #[.val (.int n0), .val (.int n1), .val (.int n2), .val (.int n3), .val (.int n4), .val (.int f0), .val (.int g0), .val (.int f1), .val (.int g1), .val (.int f2), .val (.int g2), .val (.int (0 : Int32)), .val (.int (1 : Int32)), .val (.int (1 : Int32)), .val (.int r), .unset, .unset, .unset, .unset, .unset, .unset, .unset, .unset, .unset, .unset, .unset, .unset, .unset, .unset, .unset, .unset] at_113 rfl ?_
        refine o_iconst 116 W (1) at_115 (by first | rfl | decide) ?_
        refine o_iload 118 W at_116 rfl ?_
        refine o_isub 119 W at_118 ?_
        have hrr : r = 0 ∧ 1 - r = 1 ∨ r = 1 ∧ 1 - r = 0 := by
          rcases hr with rfl | rfl
          · exact Or.inl ⟨rfl, rfl⟩
          · exact Or.inr ⟨rfl, rfl⟩
        generalize ((1 : Int32) - r) = ro at hrr ⊢
        refine o_istore 121 W #[.val (.int n0), .val (.int n1), .val (.int n2), .val (.int n3), .val (.int n4), .val (.int f0), .val (.int g0), .val (.int f1), .val (.int g1), .val (.int f2), .val (.int g2), .val (.int (0 : Int32)), .val (.int (1 : Int32)), .val (.int (1 : Int32)), .val (.int r), .val (.int ro), .unset, .unset, .unset, .unset, .unset, .unset, .unset, .unset, .unset, .unset, .unset, .unset, .unset, .unset, .unset] at_119 rfl ?_
        refine o_iloadN 122 W at_121 rfl ?_
        refine o_bipush 124 W (22) at_122 (by first | rfl | decide) ?_
        refine o_iushr 125 W at_124 ?_
        refine o_bipush 127 W (15) at_125 (by first | rfl | decide) ?_
        refine o_iand 128 W at_127 ?_
        have hdr := own_b15 (XT.ushr n3 22)
        generalize ((XT.ushr n3 (22 : Int32)) &&& (15 : Int32)) = dr at hdr ⊢
        refine o_istore 130 W #[.val (.int n0), .val (.int n1), .val (.int n2), .val (.int n3), .val (.int n4), .val (.int f0), .val (.int g0), .val (.int f1), .val (.int g1), .val (.int f2), .val (.int g2), .val (.int (0 : Int32)), .val (.int (1 : Int32)), .val (.int (1 : Int32)), .val (.int r), .val (.int ro), .val (.int dr), .unset, .unset, .unset, .unset, .unset, .unset, .unset, .unset, .unset, .unset, .unset, .unset, .unset, .unset] at_128 rfl ?_
        refine o_iload 132 W at_130 rfl ?_
        refine o_ldcI 134 W (tw hw 0) at_132 ?_
        refine o_iand 135 W at_134 ?_
        refine o_iconst 136 W (3) at_135 (by first | rfl | decide) ?_
        refine o_irem 137 W at_136 (by decide) ?_
        have how := own_mod3 n4
        generalize ((n4 &&& (2147483647 : Int32)) % (3 : Int32)) = ow at how ⊢
        refine o_istore 139 W #[.val (.int n0), .val (.int n1), .val (.int n2), .val (.int n3), .val (.int n4), .val (.int f0), .val (.int g0), .val (.int f1), .val (.int g1), .val (.int f2), .val (.int g2), .val (.int (0 : Int32)), .val (.int (1 : Int32)), .val (.int (1 : Int32)), .val (.int r), .val (.int ro), .val (.int dr), .val (.int ow), .unset, .unset, .unset, .unset, .unset, .unset, .unset, .unset, .unset, .unset, .unset, .unset, .unset] at_137 rfl ?_
        refine o_iload 141 W at_139 rfl ?_
        refine o_ifY 152 W at_141 (XT.i0_eq_t (by decide)) ?_
        have hp0 : (0 : Int32).toInt = 0 := rfl
        refine o_iconst 153 W (0) at_152 (by first | rfl | decide) ?_
        refine o_iload 155 W at_153 rfl ?_
        refine o_ifN 158 W at_155 (XT.i0_eq_f (by decide)) ?_
        refine o_iload 160 W at_158 rfl ?_
        refine o_iload 162 W at_160 rfl ?_
        refine o_iadd 163 W at_162 ?_
        have hp1 := own_add32 (f := f1) (g := g1) rfl rfl (by omega)
        generalize (f1 + g1) = p1 at hp1 ⊢
        refine o_goto 167 W at_163 ?_
        refine o_iadd 168 W at_167 ?_
        have hq1 := own_add32 hp0 hp1 (by omega)
        generalize ((0 : Int32) + p1) = p1_ at hq1 ⊢
        refine o_iload 170 W at_168 rfl ?_
        refine o_ifN 173 W at_170 (XT.i0_eq_f (by decide)) ?_
        refine o_iload 175 W at_173 rfl ?_
        refine o_iload 177 W at_175 rfl ?_
        refine o_iadd 178 W at_177 ?_
        have hp2 := own_add32 (f := f2) (g := g2) rfl rfl (by omega)
        generalize (f2 + g2) = p2 at hp2 ⊢
        refine o_goto 182 W at_178 ?_
        refine o_iadd 183 W at_182 ?_
        have hq2 := own_add32 hq1 hp2 (by omega)
        generalize (p1_ + p2) = p2_ at hq2 ⊢
        refine o_istore 185 W #[.val (.int n0), .val (.int n1), .val (.int n2), .val (.int n3), .val (.int n4), .val (.int f0), .val (.int g0), .val (.int f1), .val (.int g1), .val (.int f2), .val (.int g2), .val (.int (0 : Int32)), .val (.int (1 : Int32)), .val (.int (1 : Int32)), .val (.int r), .val (.int ro), .val (.int dr), .val (.int ow), .val (.int p2_), .unset, .unset, .unset, .unset, .unset, .unset, .unset, .unset, .unset, .unset, .unset, .unset] at_183 rfl ?_
        exact J T 0 1 1 r ro dr ow p2_ 0 (f1.toInt + g1.toInt) (f2.toInt + g2.toInt) (Or.inl ⟨rfl, rfl⟩) (Or.inr ⟨rfl, rfl⟩) (Or.inr ⟨rfl, rfl⟩) hrr hdr how (by omega) W
  · refine o_ifN 68 W at_65 (XT.i0_eq_f (by decide)) ?_
    refine o_iconst 69 W (1) at_68 (by first | rfl | decide) ?_
    refine o_goto 73 W at_69 ?_
    refine o_istore 75 W #[.val (.int n0), .val (.int n1), .val (.int n2), .val (.int n3), .val (.int n4), .val (.int f0), .val (.int g0), .val (.int f1), .val (.int g1), .val (.int f2), .val (.int g2), .val (.int (1 : Int32)), .unset, .unset, .unset, .unset, .unset, .unset, .unset, .unset, .unset, .unset, .unset, .unset, .unset, .unset, .unset, .unset, .unset, .unset, .unset] at_73 rfl ?_
    refine o_iloadN 76 W at_75 rfl ?_
    refine o_bipush 78 W (19) at_76 (by first | rfl | decide) ?_
    refine o_iushr 79 W at_78 ?_
    refine o_iconst 80 W (1) at_79 (by first | rfl | decide) ?_
    refine o_iand 81 W at_80 ?_
    have hbt1 := own_and1 (XT.ushr n3 19)
    generalize ((XT.ushr n3 (19 : Int32)) &&& (1 : Int32)) = bt1 at hbt1 ⊢
    rcases hbt1 with rfl | rfl
    · refine o_ifY 88 W at_81 (XT.i0_eq_t (by decide)) ?_
      refine o_iconst 89 W (0) at_88 (by first | rfl | decide) ?_
      refine o_istore 91 W #[.val (.int n0), .val (.int n1), .val (.int n2), .val (.int n3), .val (.int n4), .val (.int f0), .val (.int g0), .val (.int f1), .val (.int g1), .val (.int f2), .val (.int g2), .val (.int (1 : Int32)), .val (.int (0 : Int32)), .unset, .unset, .unset, .unset, .unset, .unset, .unset, .unset, .unset, .unset, .unset, .unset, .unset, .unset, .unset, .unset, .unset, .unset] at_89 rfl ?_
      refine o_iloadN 92 W at_91 rfl ?_
      refine o_bipush 94 W (20) at_92 (by first | rfl | decide) ?_
      refine o_iushr 95 W at_94 ?_
      refine o_iconst 96 W (1) at_95 (by first | rfl | decide) ?_
      refine o_iand 97 W at_96 ?_
      have hbt2 := own_and1 (XT.ushr n3 20)
      generalize ((XT.ushr n3 (20 : Int32)) &&& (1 : Int32)) = bt2 at hbt2 ⊢
      rcases hbt2 with rfl | rfl
      · refine o_ifY 104 W at_97 (XT.i0_eq_t (by decide)) ?_
        refine o_iconst 105 W (0) at_104 (by first | rfl | decide) ?_
        refine o_istore 107 W #[.val (.int n0), .val (.int n1), .val (.int n2), .val (.int n3), .val (.int n4), .val (.int f0), .val (.int g0), .val (.int f1), .val (.int g1), .val (.int f2), .val (.int g2), .val (.int (1 : Int32)), .val (.int (0 : Int32)), .val (.int (0 : Int32)), .unset, .unset, .unset, .unset, .unset, .unset, .unset, .unset, .unset, .unset, .unset, .unset, .unset, .unset, .unset, .unset, .unset] at_105 rfl ?_
        refine o_iloadN 108 W at_107 rfl ?_
        refine o_bipush 110 W (21) at_108 (by first | rfl | decide) ?_
        refine o_iushr 111 W at_110 ?_
        refine o_iconst 112 W (1) at_111 (by first | rfl | decide) ?_
        refine o_iand 113 W at_112 ?_
        have hr := own_and1 (XT.ushr n3 21)
        generalize ((XT.ushr n3 (21 : Int32)) &&& (1 : Int32)) = r at hr ⊢
        refine o_istore 115 W #[.val (.int n0), .val (.int n1), .val (.int n2), .val (.int n3), .val (.int n4), .val (.int f0), .val (.int g0), .val (.int f1), .val (.int g1), .val (.int f2), .val (.int g2), .val (.int (1 : Int32)), .val (.int (0 : Int32)), .val (.int (0 : Int32)), .val (.int r), .unset, .unset, .unset, .unset, .unset, .unset, .unset, .unset, .unset, .unset, .unset, .unset, .unset, .unset, .unset, .unset] at_113 rfl ?_
        refine o_iconst 116 W (1) at_115 (by first | rfl | decide) ?_
        refine o_iload 118 W at_116 rfl ?_
        refine o_isub 119 W at_118 ?_
        have hrr : r = 0 ∧ 1 - r = 1 ∨ r = 1 ∧ 1 - r = 0 := by
          rcases hr with rfl | rfl
          · exact Or.inl ⟨rfl, rfl⟩
          · exact Or.inr ⟨rfl, rfl⟩
        generalize ((1 : Int32) - r) = ro at hrr ⊢
        refine o_istore 121 W #[.val (.int n0), .val (.int n1), .val (.int n2), .val (.int n3), .val (.int n4), .val (.int f0), .val (.int g0), .val (.int f1), .val (.int g1), .val (.int f2), .val (.int g2), .val (.int (1 : Int32)), .val (.int (0 : Int32)), .val (.int (0 : Int32)), .val (.int r), .val (.int ro), .unset, .unset, .unset, .unset, .unset, .unset, .unset, .unset, .unset, .unset, .unset, .unset, .unset, .unset, .unset] at_119 rfl ?_
        refine o_iloadN 122 W at_121 rfl ?_
        refine o_bipush 124 W (22) at_122 (by first | rfl | decide) ?_
        refine o_iushr 125 W at_124 ?_
        refine o_bipush 127 W (15) at_125 (by first | rfl | decide) ?_
        refine o_iand 128 W at_127 ?_
        have hdr := own_b15 (XT.ushr n3 22)
        generalize ((XT.ushr n3 (22 : Int32)) &&& (15 : Int32)) = dr at hdr ⊢
        refine o_istore 130 W #[.val (.int n0), .val (.int n1), .val (.int n2), .val (.int n3), .val (.int n4), .val (.int f0), .val (.int g0), .val (.int f1), .val (.int g1), .val (.int f2), .val (.int g2), .val (.int (1 : Int32)), .val (.int (0 : Int32)), .val (.int (0 : Int32)), .val (.int r), .val (.int ro), .val (.int dr), .unset, .unset, .unset, .unset, .unset, .unset, .unset, .unset, .unset, .unset, .unset, .unset, .unset, .unset] at_128 rfl ?_
        refine o_iload 132 W at_130 rfl ?_
        refine o_ldcI 134 W (tw hw 0) at_132 ?_
        refine o_iand 135 W at_134 ?_
        refine o_iconst 136 W (3) at_135 (by first | rfl | decide) ?_
        refine o_irem 137 W at_136 (by decide) ?_
        have how := own_mod3 n4
        generalize ((n4 &&& (2147483647 : Int32)) % (3 : Int32)) = ow at how ⊢
        refine o_istore 139 W #[.val (.int n0), .val (.int n1), .val (.int n2), .val (.int n3), .val (.int n4), .val (.int f0), .val (.int g0), .val (.int f1), .val (.int g1), .val (.int f2), .val (.int g2), .val (.int (1 : Int32)), .val (.int (0 : Int32)), .val (.int (0 : Int32)), .val (.int r), .val (.int ro), .val (.int dr), .val (.int ow), .unset, .unset, .unset, .unset, .unset, .unset, .unset, .unset, .unset, .unset, .unset, .unset, .unset] at_137 rfl ?_
        refine o_iload 141 W at_139 rfl ?_
        refine o_ifN 144 W at_141 (XT.i0_eq_f (by decide)) ?_
        refine o_iload 146 W at_144 rfl ?_
        refine o_iload 148 W at_146 rfl ?_
        refine o_iadd 149 W at_148 ?_
        have hp0 := own_add32 (f := f0) (g := g0) rfl rfl (by omega)
        generalize (f0 + g0) = p0 at hp0 ⊢
        refine o_goto 153 W at_149 ?_
        refine o_iload 155 W at_153 rfl ?_
        refine o_ifY 166 W at_155 (XT.i0_eq_t (by decide)) ?_
        have hp1 : (0 : Int32).toInt = 0 := rfl
        refine o_iconst 167 W (0) at_166 (by first | rfl | decide) ?_
        refine o_iadd 168 W at_167 ?_
        have hq1 := own_add32 hp0 hp1 (by omega)
        generalize (p0 + (0 : Int32)) = p1_ at hq1 ⊢
        refine o_iload 170 W at_168 rfl ?_
        refine o_ifY 181 W at_170 (XT.i0_eq_t (by decide)) ?_
        have hp2 : (0 : Int32).toInt = 0 := rfl
        refine o_iconst 182 W (0) at_181 (by first | rfl | decide) ?_
        refine o_iadd 183 W at_182 ?_
        have hq2 := own_add32 hq1 hp2 (by omega)
        generalize (p1_ + (0 : Int32)) = p2_ at hq2 ⊢
        refine o_istore 185 W #[.val (.int n0), .val (.int n1), .val (.int n2), .val (.int n3), .val (.int n4), .val (.int f0), .val (.int g0), .val (.int f1), .val (.int g1), .val (.int f2), .val (.int g2), .val (.int (1 : Int32)), .val (.int (0 : Int32)), .val (.int (0 : Int32)), .val (.int r), .val (.int ro), .val (.int dr), .val (.int ow), .val (.int p2_), .unset, .unset, .unset, .unset, .unset, .unset, .unset, .unset, .unset, .unset, .unset, .unset] at_183 rfl ?_
        exact J T 1 0 0 r ro dr ow p2_ (f0.toInt + g0.toInt) 0 0 (Or.inr ⟨rfl, rfl⟩) (Or.inl ⟨rfl, rfl⟩) (Or.inl ⟨rfl, rfl⟩) hrr hdr how (by omega) W
      · refine o_ifN 100 W at_97 (XT.i0_eq_f (by decide)) ?_
        refine o_iconst 101 W (1) at_100 (by first | rfl | decide) ?_
        refine o_goto 105 W at_101 ?_
        refine o_istore 107 W #[.val (.int n0), .val (.int n1), .val (.int n2), .val (.int n3), .val (.int n4), .val (.int f0), .val (.int g0), .val (.int f1), .val (.int g1), .val (.int f2), .val (.int g2), .val (.int (1 : Int32)), .val (.int (0 : Int32)), .val (.int (1 : Int32)), .unset, .unset, .unset, .unset, .unset, .unset, .unset, .unset, .unset, .unset, .unset, .unset, .unset, .unset, .unset, .unset, .unset] at_105 rfl ?_
        refine o_iloadN 108 W at_107 rfl ?_
        refine o_bipush 110 W (21) at_108 (by first | rfl | decide) ?_
        refine o_iushr 111 W at_110 ?_
        refine o_iconst 112 W (1) at_111 (by first | rfl | decide) ?_
        refine o_iand 113 W at_112 ?_
        have hr := own_and1 (XT.ushr n3 21)
        generalize ((XT.ushr n3 (21 : Int32)) &&& (1 : Int32)) = r at hr ⊢
        refine o_istore 115 W #[.val (.int n0), .val (.int n1), .val (.int n2), .val (.int n3), .val (.int n4), .val (.int f0), .val (.int g0), .val (.int f1), .val (.int g1), .val (.int f2), .val (.int g2), .val (.int (1 : Int32)), .val (.int (0 : Int32)), .val (.int (1 : Int32)), .val (.int r), .unset, .unset, .unset, .unset, .unset, .unset, .unset, .unset, .unset, .unset, .unset, .unset, .unset, .unset, .unset, .unset] at_113 rfl ?_
        refine o_iconst 116 W (1) at_115 (by first | rfl | decide) ?_
        refine o_iload 118 W at_116 rfl ?_
        refine o_isub 119 W at_118 ?_
        have hrr : r = 0 ∧ 1 - r = 1 ∨ r = 1 ∧ 1 - r = 0 := by
          rcases hr with rfl | rfl
          · exact Or.inl ⟨rfl, rfl⟩
          · exact Or.inr ⟨rfl, rfl⟩
        generalize ((1 : Int32) - r) = ro at hrr ⊢
        refine o_istore 121 W #[.val (.int n0), .val (.int n1), .val (.int n2), .val (.int n3), .val (.int n4), .val (.int f0), .val (.int g0), .val (.int f1), .val (.int g1), .val (.int f2), .val (.int g2), .val (.int (1 : Int32)), .val (.int (0 : Int32)), .val (.int (1 : Int32)), .val (.int r), .val (.int ro), .unset, .unset, .unset, .unset, .unset, .unset, .unset, .unset, .unset, .unset, .unset, .unset, .unset, .unset, .unset] at_119 rfl ?_
        refine o_iloadN 122 W at_121 rfl ?_
        refine o_bipush 124 W (22) at_122 (by first | rfl | decide) ?_
        refine o_iushr 125 W at_124 ?_
        refine o_bipush 127 W (15) at_125 (by first | rfl | decide) ?_
        refine o_iand 128 W at_127 ?_
        have hdr := own_b15 (XT.ushr n3 22)
        generalize ((XT.ushr n3 (22 : Int32)) &&& (15 : Int32)) = dr at hdr ⊢
        refine o_istore 130 W #[.val (.int n0), .val (.int n1), .val (.int n2), .val (.int n3), .val (.int n4), .val (.int f0), .val (.int g0), .val (.int f1), .val (.int g1), .val (.int f2), .val (.int g2), .val (.int (1 : Int32)), .val (.int (0 : Int32)), .val (.int (1 : Int32)), .val (.int r), .val (.int ro), .val (.int dr), .unset, .unset, .unset, .unset, .unset, .unset, .unset, .unset, .unset, .unset, .unset, .unset, .unset, .unset] at_128 rfl ?_
        refine o_iload 132 W at_130 rfl ?_
        refine o_ldcI 134 W (tw hw 0) at_132 ?_
        refine o_iand 135 W at_134 ?_
        refine o_iconst 136 W (3) at_135 (by first | rfl | decide) ?_
        refine o_irem 137 W at_136 (by decide) ?_
        have how := own_mod3 n4
        generalize ((n4 &&& (2147483647 : Int32)) % (3 : Int32)) = ow at how ⊢
        refine o_istore 139 W #[.val (.int n0), .val (.int n1), .val (.int n2), .val (.int n3), .val (.int n4), .val (.int f0), .val (.int g0), .val (.int f1), .val (.int g1), .val (.int f2), .val (.int g2), .val (.int (1 : Int32)), .val (.int (0 : Int32)), .val (.int (1 : Int32)), .val (.int r), .val (.int ro), .val (.int dr), .val (.int ow), .unset, .unset, .unset, .unset, .unset, .unset, .unset, .unset, .unset, .unset, .unset, .unset, .unset] at_137 rfl ?_
        refine o_iload 141 W at_139 rfl ?_
        refine o_ifN 144 W at_141 (XT.i0_eq_f (by decide)) ?_
        refine o_iload 146 W at_144 rfl ?_
        refine o_iload 148 W at_146 rfl ?_
        refine o_iadd 149 W at_148 ?_
        have hp0 := own_add32 (f := f0) (g := g0) rfl rfl (by omega)
        generalize (f0 + g0) = p0 at hp0 ⊢
        refine o_goto 153 W at_149 ?_
        refine o_iload 155 W at_153 rfl ?_
        refine o_ifY 166 W at_155 (XT.i0_eq_t (by decide)) ?_
        have hp1 : (0 : Int32).toInt = 0 := rfl
        refine o_iconst 167 W (0) at_166 (by first | rfl | decide) ?_
        refine o_iadd 168 W at_167 ?_
        have hq1 := own_add32 hp0 hp1 (by omega)
        generalize (p0 + (0 : Int32)) = p1_ at hq1 ⊢
        refine o_iload 170 W at_168 rfl ?_
        refine o_ifN 173 W at_170 (XT.i0_eq_f (by decide)) ?_
        refine o_iload 175 W at_173 rfl ?_
        refine o_iload 177 W at_175 rfl ?_
        refine o_iadd 178 W at_177 ?_
        have hp2 := own_add32 (f := f2) (g := g2) rfl rfl (by omega)
        generalize (f2 + g2) = p2 at hp2 ⊢
        refine o_goto 182 W at_178 ?_
        refine o_iadd 183 W at_182 ?_
        have hq2 := own_add32 hq1 hp2 (by omega)
        generalize (p1_ + p2) = p2_ at hq2 ⊢
        refine o_istore 185 W #[.val (.int n0), .val (.int n1), .val (.int n2), .val (.int n3), .val (.int n4), .val (.int f0), .val (.int g0), .val (.int f1), .val (.int g1), .val (.int f2), .val (.int g2), .val (.int (1 : Int32)), .val (.int (0 : Int32)), .val (.int (1 : Int32)), .val (.int r), .val (.int ro), .val (.int dr), .val (.int ow), .val (.int p2_), .unset, .unset, .unset, .unset, .unset, .unset, .unset, .unset, .unset, .unset, .unset, .unset] at_183 rfl ?_
        exact J T 1 0 1 r ro dr ow p2_ (f0.toInt + g0.toInt) 0 (f2.toInt + g2.toInt) (Or.inr ⟨rfl, rfl⟩) (Or.inl ⟨rfl, rfl⟩) (Or.inr ⟨rfl, rfl⟩) hrr hdr how (by omega) W
    · refine o_ifN 84 W at_81 (XT.i0_eq_f (by decide)) ?_
      refine o_iconst 85 W (1) at_84 (by first | rfl | decide) ?_
      refine o_goto 89 W at_85 ?_
      refine o_istore 91 W #[.val (.int n0), .val (.int n1), .val (.int n2), .val (.int n3), .val (.int n4), .val (.int f0), .val (.int g0), .val (.int f1), .val (.int g1), .val (.int f2), .val (.int g2), .val (.int (1 : Int32)), .val (.int (1 : Int32)), .unset, .unset, .unset, .unset, .unset, .unset, .unset, .unset, .unset, .unset, .unset, .unset, .unset, .unset, .unset, .unset, .unset, .unset] at_89 rfl ?_
      refine o_iloadN 92 W at_91 rfl ?_
      refine o_bipush 94 W (20) at_92 (by first | rfl | decide) ?_
      refine o_iushr 95 W at_94 ?_
      refine o_iconst 96 W (1) at_95 (by first | rfl | decide) ?_
      refine o_iand 97 W at_96 ?_
      have hbt2 := own_and1 (XT.ushr n3 20)
      generalize ((XT.ushr n3 (20 : Int32)) &&& (1 : Int32)) = bt2 at hbt2 ⊢
      rcases hbt2 with rfl | rfl
      · refine o_ifY 104 W at_97 (XT.i0_eq_t (by decide)) ?_
        refine o_iconst 105 W (0) at_104 (by first | rfl | decide) ?_
        refine o_istore 107 W #[.val (.int n0), .val (.int n1), .val (.int n2), .val (.int n3), .val (.int n4), .val (.int f0), .val (.int g0), .val (.int f1), .val (.int g1), .val (.int f2), .val (.int g2), .val (.int (1 : Int32)), .val (.int (1 : Int32)), .val (.int (0 : Int32)), .unset, .unset, .unset, .unset, .unset, .unset, .unset, .unset, .unset, .unset, .unset, .unset, .unset, .unset, .unset, .unset, .unset] at_105 rfl ?_
        refine o_iloadN 108 W at_107 rfl ?_
        refine o_bipush 110 W (21) at_108 (by first | rfl | decide) ?_
        refine o_iushr 111 W at_110 ?_
        refine o_iconst 112 W (1) at_111 (by first | rfl | decide) ?_
        refine o_iand 113 W at_112 ?_
        have hr := own_and1 (XT.ushr n3 21)
        generalize ((XT.ushr n3 (21 : Int32)) &&& (1 : Int32)) = r at hr ⊢
        refine o_istore 115 W #[.val (.int n0), .val (.int n1), .val (.int n2), .val (.int n3), .val (.int n4), .val (.int f0), .val (.int g0), .val (.int f1), .val (.int g1), .val (.int f2), .val (.int g2), .val (.int (1 : Int32)), .val (.int (1 : Int32)), .val (.int (0 : Int32)), .val (.int r), .unset, .unset, .unset, .unset, .unset, .unset, .unset, .unset, .unset, .unset, .unset, .unset, .unset, .unset, .unset, .unset] at_113 rfl ?_
        refine o_iconst 116 W (1) at_115 (by first | rfl | decide) ?_
        refine o_iload 118 W at_116 rfl ?_
        refine o_isub 119 W at_118 ?_
        have hrr : r = 0 ∧ 1 - r = 1 ∨ r = 1 ∧ 1 - r = 0 := by
          rcases hr with rfl | rfl
          · exact Or.inl ⟨rfl, rfl⟩
          · exact Or.inr ⟨rfl, rfl⟩
        generalize ((1 : Int32) - r) = ro at hrr ⊢
        refine o_istore 121 W #[.val (.int n0), .val (.int n1), .val (.int n2), .val (.int n3), .val (.int n4), .val (.int f0), .val (.int g0), .val (.int f1), .val (.int g1), .val (.int f2), .val (.int g2), .val (.int (1 : Int32)), .val (.int (1 : Int32)), .val (.int (0 : Int32)), .val (.int r), .val (.int ro), .unset, .unset, .unset, .unset, .unset, .unset, .unset, .unset, .unset, .unset, .unset, .unset, .unset, .unset, .unset] at_119 rfl ?_
        refine o_iloadN 122 W at_121 rfl ?_
        refine o_bipush 124 W (22) at_122 (by first | rfl | decide) ?_
        refine o_iushr 125 W at_124 ?_
        refine o_bipush 127 W (15) at_125 (by first | rfl | decide) ?_
        refine o_iand 128 W at_127 ?_
        have hdr := own_b15 (XT.ushr n3 22)
        generalize ((XT.ushr n3 (22 : Int32)) &&& (15 : Int32)) = dr at hdr ⊢
        refine o_istore 130 W #[.val (.int n0), .val (.int n1), .val (.int n2), .val (.int n3), .val (.int n4), .val (.int f0), .val (.int g0), .val (.int f1), .val (.int g1), .val (.int f2), .val (.int g2), .val (.int (1 : Int32)), .val (.int (1 : Int32)), .val (.int (0 : Int32)), .val (.int r), .val (.int ro), .val (.int dr), .unset, .unset, .unset, .unset, .unset, .unset, .unset, .unset, .unset, .unset, .unset, .unset, .unset, .unset] at_128 rfl ?_
        refine o_iload 132 W at_130 rfl ?_
        refine o_ldcI 134 W (tw hw 0) at_132 ?_
        refine o_iand 135 W at_134 ?_
        refine o_iconst 136 W (3) at_135 (by first | rfl | decide) ?_
        refine o_irem 137 W at_136 (by decide) ?_
        have how := own_mod3 n4
        generalize ((n4 &&& (2147483647 : Int32)) % (3 : Int32)) = ow at how ⊢
        refine o_istore 139 W #[.val (.int n0), .val (.int n1), .val (.int n2), .val (.int n3), .val (.int n4), .val (.int f0), .val (.int g0), .val (.int f1), .val (.int g1), .val (.int f2), .val (.int g2), .val (.int (1 : Int32)), .val (.int (1 : Int32)), .val (.int (0 : Int32)), .val (.int r), .val (.int ro), .val (.int dr), .val (.int ow), .unset, .unset, .unset, .unset, .unset, .unset, .unset, .unset, .unset, .unset, .unset, .unset, .unset] at_137 rfl ?_
        refine o_iload 141 W at_139 rfl ?_
        refine o_ifN 144 W at_141 (XT.i0_eq_f (by decide)) ?_
        refine o_iload 146 W at_144 rfl ?_
        refine o_iload 148 W at_146 rfl ?_
        refine o_iadd 149 W at_148 ?_
        have hp0 := own_add32 (f := f0) (g := g0) rfl rfl (by omega)
        generalize (f0 + g0) = p0 at hp0 ⊢
        refine o_goto 153 W at_149 ?_
        refine o_iload 155 W at_153 rfl ?_
        refine o_ifN 158 W at_155 (XT.i0_eq_f (by decide)) ?_
        refine o_iload 160 W at_158 rfl ?_
        refine o_iload 162 W at_160 rfl ?_
        refine o_iadd 163 W at_162 ?_
        have hp1 := own_add32 (f := f1) (g := g1) rfl rfl (by omega)
        generalize (f1 + g1) = p1 at hp1 ⊢
        refine o_goto 167 W at_163 ?_
        refine o_iadd 168 W at_167 ?_
        have hq1 := own_add32 hp0 hp1 (by omega)
        generalize (p0 + p1) = p1_ at hq1 ⊢
        refine o_iload 170 W at_168 rfl ?_
        refine o_ifY 181 W at_170 (XT.i0_eq_t (by decide)) ?_
        have hp2 : (0 : Int32).toInt = 0 := rfl
        refine o_iconst 182 W (0) at_181 (by first | rfl | decide) ?_
        refine o_iadd 183 W at_182 ?_
        have hq2 := own_add32 hq1 hp2 (by omega)
        generalize (p1_ + (0 : Int32)) = p2_ at hq2 ⊢
        refine o_istore 185 W #[.val (.int n0), .val (.int n1), .val (.int n2), .val (.int n3), .val (.int n4), .val (.int f0), .val (.int g0), .val (.int f1), .val (.int g1), .val (.int f2), .val (.int g2), .val (.int (1 : Int32)), .val (.int (1 : Int32)), .val (.int (0 : Int32)), .val (.int r), .val (.int ro), .val (.int dr), .val (.int ow), .val (.int p2_), .unset, .unset, .unset, .unset, .unset, .unset, .unset, .unset, .unset, .unset, .unset, .unset] at_183 rfl ?_
        exact J T 1 1 0 r ro dr ow p2_ (f0.toInt + g0.toInt) (f1.toInt + g1.toInt) 0 (Or.inr ⟨rfl, rfl⟩) (Or.inr ⟨rfl, rfl⟩) (Or.inl ⟨rfl, rfl⟩) hrr hdr how (by omega) W
      · refine o_ifN 100 W at_97 (XT.i0_eq_f (by decide)) ?_
        refine o_iconst 101 W (1) at_100 (by first | rfl | decide) ?_
        refine o_goto 105 W at_101 ?_
        refine o_istore 107 W #[.val (.int n0), .val (.int n1), .val (.int n2), .val (.int n3), .val (.int n4), .val (.int f0), .val (.int g0), .val (.int f1), .val (.int g1), .val (.int f2), .val (.int g2), .val (.int (1 : Int32)), .val (.int (1 : Int32)), .val (.int (1 : Int32)), .unset, .unset, .unset, .unset, .unset, .unset, .unset, .unset, .unset, .unset, .unset, .unset, .unset, .unset, .unset, .unset, .unset] at_105 rfl ?_
        refine o_iloadN 108 W at_107 rfl ?_
        refine o_bipush 110 W (21) at_108 (by first | rfl | decide) ?_
        refine o_iushr 111 W at_110 ?_
        refine o_iconst 112 W (1) at_111 (by first | rfl | decide) ?_
        refine o_iand 113 W at_112 ?_
        have hr := own_and1 (XT.ushr n3 21)
        generalize ((XT.ushr n3 (21 : Int32)) &&& (1 : Int32)) = r at hr ⊢
        refine o_istore 115 W #[.val (.int n0), .val (.int n1), .val (.int n2), .val (.int n3), .val (.int n4), .val (.int f0), .val (.int g0), .val (.int f1), .val (.int g1), .val (.int f2), .val (.int g2), .val (.int (1 : Int32)), .val (.int (1 : Int32)), .val (.int (1 : Int32)), .val (.int r), .unset, .unset, .unset, .unset, .unset, .unset, .unset, .unset, .unset, .unset, .unset, .unset, .unset, .unset, .unset, .unset] at_113 rfl ?_
        refine o_iconst 116 W (1) at_115 (by first | rfl | decide) ?_
        refine o_iload 118 W at_116 rfl ?_
        refine o_isub 119 W at_118 ?_
        have hrr : r = 0 ∧ 1 - r = 1 ∨ r = 1 ∧ 1 - r = 0 := by
          rcases hr with rfl | rfl
          · exact Or.inl ⟨rfl, rfl⟩
          · exact Or.inr ⟨rfl, rfl⟩
        generalize ((1 : Int32) - r) = ro at hrr ⊢
        refine o_istore 121 W #[.val (.int n0), .val (.int n1), .val (.int n2), .val (.int n3), .val (.int n4), .val (.int f0), .val (.int g0), .val (.int f1), .val (.int g1), .val (.int f2), .val (.int g2), .val (.int (1 : Int32)), .val (.int (1 : Int32)), .val (.int (1 : Int32)), .val (.int r), .val (.int ro), .unset, .unset, .unset, .unset, .unset, .unset, .unset, .unset, .unset, .unset, .unset, .unset, .unset, .unset, .unset] at_119 rfl ?_
        refine o_iloadN 122 W at_121 rfl ?_
        refine o_bipush 124 W (22) at_122 (by first | rfl | decide) ?_
        refine o_iushr 125 W at_124 ?_
        refine o_bipush 127 W (15) at_125 (by first | rfl | decide) ?_
        refine o_iand 128 W at_127 ?_
        have hdr := own_b15 (XT.ushr n3 22)
        generalize ((XT.ushr n3 (22 : Int32)) &&& (15 : Int32)) = dr at hdr ⊢
        refine o_istore 130 W #[.val (.int n0), .val (.int n1), .val (.int n2), .val (.int n3), .val (.int n4), .val (.int f0), .val (.int g0), .val (.int f1), .val (.int g1), .val (.int f2), .val (.int g2), .val (.int (1 : Int32)), .val (.int (1 : Int32)), .val (.int (1 : Int32)), .val (.int r), .val (.int ro), .val (.int dr), .unset, .unset, .unset, .unset, .unset, .unset, .unset, .unset, .unset, .unset, .unset, .unset, .unset, .unset] at_128 rfl ?_
        refine o_iload 132 W at_130 rfl ?_
        refine o_ldcI 134 W (tw hw 0) at_132 ?_
        refine o_iand 135 W at_134 ?_
        refine o_iconst 136 W (3) at_135 (by first | rfl | decide) ?_
        refine o_irem 137 W at_136 (by decide) ?_
        have how := own_mod3 n4
        generalize ((n4 &&& (2147483647 : Int32)) % (3 : Int32)) = ow at how ⊢
        refine o_istore 139 W #[.val (.int n0), .val (.int n1), .val (.int n2), .val (.int n3), .val (.int n4), .val (.int f0), .val (.int g0), .val (.int f1), .val (.int g1), .val (.int f2), .val (.int g2), .val (.int (1 : Int32)), .val (.int (1 : Int32)), .val (.int (1 : Int32)), .val (.int r), .val (.int ro), .val (.int dr), .val (.int ow), .unset, .unset, .unset, .unset, .unset, .unset, .unset, .unset, .unset, .unset, .unset, .unset, .unset] at_137 rfl ?_
        refine o_iload 141 W at_139 rfl ?_
        refine o_ifN 144 W at_141 (XT.i0_eq_f (by decide)) ?_
        refine o_iload 146 W at_144 rfl ?_
        refine o_iload 148 W at_146 rfl ?_
        refine o_iadd 149 W at_148 ?_
        have hp0 := own_add32 (f := f0) (g := g0) rfl rfl (by omega)
        generalize (f0 + g0) = p0 at hp0 ⊢
        refine o_goto 153 W at_149 ?_
        refine o_iload 155 W at_153 rfl ?_
        refine o_ifN 158 W at_155 (XT.i0_eq_f (by decide)) ?_
        refine o_iload 160 W at_158 rfl ?_
        refine o_iload 162 W at_160 rfl ?_
        refine o_iadd 163 W at_162 ?_
        have hp1 := own_add32 (f := f1) (g := g1) rfl rfl (by omega)
        generalize (f1 + g1) = p1 at hp1 ⊢
        refine o_goto 167 W at_163 ?_
        refine o_iadd 168 W at_167 ?_
        have hq1 := own_add32 hp0 hp1 (by omega)
        generalize (p0 + p1) = p1_ at hq1 ⊢
        refine o_iload 170 W at_168 rfl ?_
        refine o_ifN 173 W at_170 (XT.i0_eq_f (by decide)) ?_
        refine o_iload 175 W at_173 rfl ?_
        refine o_iload 177 W at_175 rfl ?_
        refine o_iadd 178 W at_177 ?_
        have hp2 := own_add32 (f := f2) (g := g2) rfl rfl (by omega)
        generalize (f2 + g2) = p2 at hp2 ⊢
        refine o_goto 182 W at_178 ?_
        refine o_iadd 183 W at_182 ?_
        have hq2 := own_add32 hq1 hp2 (by omega)
        generalize (p1_ + p2) = p2_ at hq2 ⊢
        refine o_istore 185 W #[.val (.int n0), .val (.int n1), .val (.int n2), .val (.int n3), .val (.int n4), .val (.int f0), .val (.int g0), .val (.int f1), .val (.int g1), .val (.int f2), .val (.int g2), .val (.int (1 : Int32)), .val (.int (1 : Int32)), .val (.int (1 : Int32)), .val (.int r), .val (.int ro), .val (.int dr), .val (.int ow), .val (.int p2_), .unset, .unset, .unset, .unset, .unset, .unset, .unset, .unset, .unset, .unset, .unset, .unset] at_183 rfl ?_
        exact J T 1 1 1 r ro dr ow p2_ (f0.toInt + g0.toInt) (f1.toInt + g1.toInt) (f2.toInt + g2.toInt) (Or.inr ⟨rfl, rfl⟩) (Or.inr ⟨rfl, rfl⟩) (Or.inr ⟨rfl, rfl⟩) hrr hdr how (by omega) W
set_option maxRecDepth 65536 in
set_option maxHeartbeats 40000000 in
theorem comes_1 {Post : Tables → Env → Array Value → State → Outcome → State → Prop} (hpost : ∀ tb e args s v u, (limb_1_1.after args s (.returned v) u = true ∧ limb_1_2.after args s (.returned v) u = true ∧ True) → FrameEnd s (.returned v) u (Jvm.fieldLocs frame_1_writes args s ++ Jvm.arrayLocs frame_1_arrays args s ++ Jvm.staticLocs frame_1_statics s) 56 320 → Post tb e args s (.returned v) u) :
    ArmFor flags0 classFile x code maxLocals ret World_1 tables_1 room_1 Calls_1 rest_1 Pre_1 Post := by
  intro l hfl _ _ p e ha hc hk s m args below hf hA hF happ hP
  obtain ⟨hcalls, hrest, hpre⟩ := hP
  obtain ⟨-, -, -, hnamed, -, -, -, hat⟩ := (Spec.applies_iff hf).mp happ
  obtain ⟨hg, hn⟩ := and_e (Cond.before_iff.mp (show (Jvm.Cond.and given_1 narrow_1).before args s = true from hpre))
  obtain ⟨hg0, hg⟩ := and_e hg
  obtain ⟨w0, w1, w2, w3, w4, rfl⟩ : ∃ w0 w1 w2 w3 w4 : Value, args = #[w0, w1, w2, w3, w4] := by
    have hs : args.size = 5 := by simpa [Cond.value, given_1] using hg0
    obtain ⟨L⟩ := args
    match L, hs with
    | [w0, w1, w2, w3, w4], _ => exact ⟨w0, w1, w2, w3, w4, rfl⟩
  have hw := fun d (hd : d ∈ tables_1) => atoms_spec (ws := Jvm.Cond.code x code maxLocals ret :: tables_1) hat d (List.mem_cons_of_mem _ hd)
  have hfit : Fit s := fun {y c} hc i hi => by
    obtain ⟨ha, rfl⟩ := Array.getElem?_eq_some_iff.mp hc
    have q := List.all_eq_true.mp ((Array.all_eq_true_iff_forall_mem.mp hF) _ (Array.getElem_mem ha)) i (List.mem_range.mpr hi)
    simpa [Array.getElem?_eq_getElem hi] using q
  obtain ⟨hg1, hg⟩ := and_e hg
  obtain ⟨p0, e0⟩ := is_v hg1
  obtain rfl : w0 = (.int p0) := Option.some.inj e0
  obtain ⟨hg2, hg⟩ := and_e hg
  obtain ⟨p1, e1⟩ := is_v hg2
  obtain rfl : w1 = (.int p1) := Option.some.inj e1
  obtain ⟨hg3, hg⟩ := and_e hg
  obtain ⟨p2, e2⟩ := is_v hg3
  obtain rfl : w2 = (.int p2) := Option.some.inj e2
  obtain ⟨hg4, hg⟩ := and_e hg
  obtain ⟨p3, e3⟩ := is_v hg4
  obtain rfl : w3 = (.int p3) := Option.some.inj e3
  have hg5 := hg
  obtain ⟨p4, e4⟩ := is_v hg5
  obtain rfl : w4 = (.int p4) := Option.some.inj e4
  have R := con_law l s _ hw p0 p1 p2 p3 p4
  have HCH : CHv s own_EL s.vm s.heap := fun p hp => by cases hp
  obtain ⟨n, o, h1, h2, h3, _, Lc, rfl, ⟨_, rfl, rfl⟩, N, hCH, hEx, hNr, hq⟩ := R tables_1 p e ha hc hk s m _ below hf ((Spec.applies_iff_loose hf).mp happ).1 ⟨rfl, State.Warmed39.refl s, rfl, HCH, all0⟩ trivial
  refine ⟨n, _, h1, h2, h3, hpost _ _ _ _ _ _ ⟨Cond.after_iff.mpr rfl, Cond.after_iff.mpr (eq_i res_at (Term.int_eval (1)) rfl), trivial⟩ ⟨hq.1, hNr trivial, (hq.2.2.2.sift fun y hy => Or.inr (N y hy)).mono (by decide) (by decide)⟩⟩
theorem main_1_1 : Claimed_1_1 := comes_1 fun _ _ _ _ _ _ h hF => ⟨h.1, hF⟩
theorem main_1_2 : Claimed_1_2 := comes_1 fun _ _ _ _ _ _ h hF => ⟨h.2.1, hF⟩
end Jvm.Pilot.@@N@@
namespace Jvm.Pilot.@@N@@
open Jvm Jvm.ClassFile Sem Op Lib Jvm.Free Jvm.Stand Jvm.Pilot.@@N@@.Jvm.D
/-! MADE BY PROGRAM (witnessworld.py) out of the Statement's table words and the real class files: 19 classes; the members and pool entries that the words name. The judged class is class 1, her method 1. -/
namespace start1
open Jvm.ClassFile
def u (s : String) : CpInfo := .utf8 (stringToUtf16 s)
/-- a pool by its gaps: so many unusable entries, then the entry; so many at the end -/
def gap : Nat → List CpInfo → List CpInfo
  | 0, r => r
  | n + 1, r => .unusable :: gap n r
def poolList (es : List (Nat × CpInfo)) (last : Nat) : List CpInfo := es.foldr (fun e r => gap e.1 (e.2 :: r)) (gap last [])
def pool (es : List (Nat × CpInfo)) (last : Nat) : Array CpInfo := ⟨poolList es last⟩
def fileOf (pool : Array CpInfo) (this : Nat) (attrs : Array Attribute := #[]) (ms : Array MethodInfo := #[]) (fl : Nat := 33) (sup : Nat := 0) (ifs : Array Nat := #[]) (fds : Array FieldInfo := #[]) : ClassFile where
  minorVersion := 0
  majorVersion := 65
  constantPool := pool
  accessFlags := fl
  thisClass := this
  superClass := sup
  interfaces := ifs
  fields := fds
  methods := ms
  attributes := attrs
def plain (name : String) (sup : Option ClassId) : Class where
  name := name
  kind := .ordinary
  loader := none
  accessFlags := 33
  super := sup
  interfaces := #[]
  cf := none
  fields := #[]
  methods := #[]
  instanceTypes := #[]
  staticTypes := #[]
  resolved := #[]
  callSites := []
  init := .initialized
  statics := none
  mirror := none

def pool0 : Array CpInfo := pool [(5, u "<init>"), (0, u "()V"), (1, .class_ 10), (1, u "java/lang/Object")] 113

def k0c0 : Code := { maxStack := 0, maxLocals := 1, code := object_method_1_code, exceptionTable := #[], attributes := #[] }
def k0m0 : Method := { name := "<init>", desc := "()V", sig := { parameters := [], returnType := none }, accessFlags := 1, code := some k0c0 }
/-- java/lang/Object -/
def k0 : Class := { plain "java/lang/Object" none with
  accessFlags := 33
  interfaces := #[]
  cf := some (fileOf pool0 8 #[] #[{ accessFlags := 1, nameIndex := 5, descriptorIndex := 6, attributes := #[] }] 33 0 #[] #[])
  fields := #[]
  methods := #[k0m0]
  instanceTypes := #[]
  staticTypes := #[]
  resolved := Array.replicate 124 none
  statics := none }

def pool1 : Array CpInfo := pool [(2, .class_ 4), (1, u "java/lang/Object"), (0, u "<init>"), (0, u "()V"), (0, .integer 2147483647), (0, .methodref 9 10), (0, .class_ 11), (0, .nameAndType 12 13), (0, u "java/lang/Math"), (0, u "min"), (0, u "(II)I"), (0, .class_ 15), (0, u "com/example/markov_reachability/markovreachability/IntervalEquations"), (0, .methodref 14 17), (0, .nameAndType 5 18), (0, u "(ID)V"), (0, .methodref 14 20), (0, .nameAndType 21 22), (0, u "addRow"), (0, u "()I"), (0, .methodref 14 24), (0, .nameAndType 25 26), (0, u "addCoefficient"), (0, u "(IIDD)V"), (0, .double 4602678819172646912), (1, .methodref 14 30), (0, .nameAndType 31 32), (0, u "addExit"), (0, u "(IDD)V"), (0, .double 4629700416936869888), (1, .long 64), (1, .methodref 14 38), (0, .nameAndType 39 40), (0, u "middleChange"), (0, u "(II[D)D"), (0, .double 4634204016564240384), (1, .class_ 44), (0, u "com/example/markov_reachability/markovreachability/IntervalEquationsMiddleChangePinLaw"), (2, u "law"), (0, u "(IIIII)Z")] 5

def k1m0 : Method := { name := "<init>", desc := "()V", sig := { parameters := [], returnType := none }, accessFlags := 1, code := none }
def k1c1 : Code := { maxStack := 9, maxLocals := 31, code := code, exceptionTable := #[], attributes := #[] }
def k1m1 : Method := { name := "law", desc := "(IIIII)Z", sig := { parameters := [.int, .int, .int, .int, .int], returnType := some .boolean }, accessFlags := 9, code := some k1c1 }
/-- com/example/markov_reachability/markovreachability/IntervalEquationsMiddleChangePinLaw -/
def k1 : Class := { plain "com/example/markov_reachability/markovreachability/IntervalEquationsMiddleChangePinLaw" (some 0) with
  accessFlags := 49
  interfaces := #[]
  cf := some (fileOf pool1 43 #[] #[{ accessFlags := 1, nameIndex := 5, descriptorIndex := 6, attributes := #[] }, { accessFlags := 9, nameIndex := 47, descriptorIndex := 48, attributes := #[] }] 49 2 #[] #[])
  fields := #[]
  methods := #[k1m0, k1m1]
  instanceTypes := #[]
  staticTypes := #[]
  resolved := Array.replicate 54 none
  statics := none }

def pool2 : Array CpInfo := pool [(1, .class_ 2), (0, u "java/lang/Math"), (1, .class_ 6), (1, u "java/lang/Object"), (0, u "<init>"), (0, u "()V"), (43, u "(DD)D"), (45, .class_ 100), (1, u "java/lang/Math$RandomNumberGeneratorHolder"), (71, u "negativeZeroFloatBits"), (0, u "J"), (2, u "negativeZeroDoubleBits"), (24, u "min"), (43, u "$assertionsDisabled"), (0, u "Z"), (88, u "(II)I"), (2, u "twoToTheDoubleScaleDown"), (0, u "D"), (4, u "twoToTheDoubleScaleUp"), (9, u "E"), (3, u "PI"), (2, u "TAU"), (2, u "DEGREES_TO_RADIANS"), (0, u "RADIANS_TO_DEGREES")] 94

def k2m0 : Method := { name := "<init>", desc := "()V", sig := { parameters := [], returnType := none }, accessFlags := 2, code := none }
def k2c1 : Code := { maxStack := 2, maxLocals := 2, code := jdk_29_method_69_code, exceptionTable := #[], attributes := #[] }
def k2m1 : Method := { name := "min", desc := "(II)I", sig := { parameters := [.int, .int], returnType := some .int }, accessFlags := 9, code := some k2c1 }
def k2c2 : Code := { maxStack := 4, maxLocals := 4, code := jdk_29_method_72_code, exceptionTable := #[], attributes := #[] }
def k2m2 : Method := { name := "min", desc := "(DD)D", sig := { parameters := [.double, .double], returnType := some .double }, accessFlags := 9, code := some k2c2 }
/-- java/lang/Math -/
def k2 : Class := { plain "java/lang/Math" (some 0) with
  accessFlags := 49
  interfaces := #[]
  cf := some (fileOf pool2 1 #[.nestMembers #[98]] #[{ accessFlags := 2, nameIndex := 7, descriptorIndex := 8, attributes := #[] }, { accessFlags := 9, nameIndex := 201, descriptorIndex := 335, attributes := #[] }, { accessFlags := 9, nameIndex := 201, descriptorIndex := 52, attributes := #[] }] 49 4 #[] #[{ accessFlags := 25, nameIndex := 354, descriptorIndex := 339, attributes := #[] }, { accessFlags := 25, nameIndex := 358, descriptorIndex := 339, attributes := #[] }, { accessFlags := 25, nameIndex := 361, descriptorIndex := 339, attributes := #[] }, { accessFlags := 26, nameIndex := 364, descriptorIndex := 339, attributes := #[] }, { accessFlags := 26, nameIndex := 365, descriptorIndex := 339, attributes := #[] }, { accessFlags := 26, nameIndex := 172, descriptorIndex := 173, attributes := #[] }, { accessFlags := 26, nameIndex := 176, descriptorIndex := 173, attributes := #[] }, { accessFlags := 8, nameIndex := 344, descriptorIndex := 339, attributes := #[] }, { accessFlags := 8, nameIndex := 338, descriptorIndex := 339, attributes := #[] }, { accessFlags := 4120, nameIndex := 245, descriptorIndex := 246, attributes := #[] }])
  fields := #[{ name := "E", type := .double, accessFlags := 25, slot := 0, constantValue := 0 }, { name := "PI", type := .double, accessFlags := 25, slot := 1, constantValue := 0 }, { name := "TAU", type := .double, accessFlags := 25, slot := 2, constantValue := 0 }, { name := "DEGREES_TO_RADIANS", type := .double, accessFlags := 26, slot := 3, constantValue := 0 }, { name := "RADIANS_TO_DEGREES", type := .double, accessFlags := 26, slot := 4, constantValue := 0 }, { name := "negativeZeroFloatBits", type := .long, accessFlags := 26, slot := 5, constantValue := 0 }, { name := "negativeZeroDoubleBits", type := .long, accessFlags := 26, slot := 6, constantValue := 0 }, { name := "twoToTheDoubleScaleUp", type := .double, accessFlags := 8, slot := 7, constantValue := 0 }, { name := "twoToTheDoubleScaleDown", type := .double, accessFlags := 8, slot := 8, constantValue := 0 }, { name := "$assertionsDisabled", type := .boolean, accessFlags := 4120, slot := 9, constantValue := 0 }]
  methods := #[k2m0, k2m1, k2m2]
  instanceTypes := #[]
  staticTypes := #[.double, .double, .double, .double, .double, .long, .long, .double, .double, .boolean]
  resolved := Array.replicate 460 none
  statics := none }

def pool3 : Array CpInfo := pool [(1, .methodref 2 3), (0, .class_ 4), (0, .nameAndType 5 6), (0, u "java/lang/Object"), (0, u "<init>"), (0, u "()V"), (0, .fieldref 8 9), (0, .class_ 10), (0, .nameAndType 11 12), (0, u "com/example/markov_reachability/markovreachability/IntervalEquations"), (0, u "ceiling"), (0, u "D"), (0, .class_ 14), (0, u "[I"), (0, .fieldref 8 16), (0, .nameAndType 17 18), (0, u "variables"), (0, u "[[I"), (0, .class_ 20), (0, u "[D"), (0, .fieldref 8 22), (0, .nameAndType 23 24), (0, u "coefficients"), (0, u "[[D"), (0, .fieldref 8 26), (0, .nameAndType 27 14), (0, u "length"), (0, .fieldref 8 29), (0, .nameAndType 30 20), (0, u "constant"), (0, .fieldref 8 32), (0, .nameAndType 33 20), (0, u "exit"), (0, .fieldref 8 35), (0, .nameAndType 36 37), (0, u "eliminating"), (0, u "[Z"), (0, .fieldref 8 39), (0, .nameAndType 40 18), (0, u "users"), (0, .fieldref 8 42), (0, .nameAndType 43 14), (0, u "userCount"), (0, .fieldref 8 45), (0, .nameAndType 46 14), (0, u "substitutable"), (0, .fieldref 8 48), (0, .nameAndType 49 14), (0, u "eliminatedVariable"), (0, .fieldref 8 51), (0, .nameAndType 52 14), (0, u "eliminatedRow"), (0, .fieldref 8 54), (0, .nameAndType 55 14), (0, u "slot"), (0, .methodref 57 58), (0, .class_ 59), (0, .nameAndType 60 61), (0, u "java/util/Arrays"), (0, u "fill"), (0, u "([II)V"), (0, .fieldref 8 63), (0, .nameAndType 64 65), (0, u "rowCount"), (0, u "I"), (2, u "copyOf"), (3, .methodref 57 73), (0, .nameAndType 68 74), (0, u "([II)[I"), (0, .methodref 57 76), (0, .nameAndType 68 77), (0, u "([DI)[D"), (3, .methodref 82 83), (0, .class_ 84), (0, .nameAndType 85 86), (0, u "com/example/markov_reachability/markovreachability/Rounding"), (0, u "sumDown"), (0, u "(DD)D"), (0, .methodref 82 88), (0, .nameAndType 89 86), (0, u "sumUp"), (0, .methodref 91 92), (0, .class_ 93), (0, .nameAndType 94 86), (0, u "java/lang/Math"), (0, u "min"), (0, .methodref 8 96), (0, .nameAndType 97 98), (0, u "append"), (0, u "(IIDD)V"), (2, u "addRow"), (0, u "()I"), (2, u "addExit"), (0, u "(IDD)V"), (10, u "eliminatedCount"), (49, .double 4611686018427387904), (1, u "(ID)V"), (3, u "addCoefficient"), (9, u "middleChange"), (0, u "(II[D)D")] 3

def k3c0 : Code := { maxStack := 3, maxLocals := 4, code := prog_32_method_1_code, exceptionTable := #[], attributes := #[] }
def k3m0 : Method := { name := "<init>", desc := "(ID)V", sig := { parameters := [.int, .double], returnType := none }, accessFlags := 0, code := some k3c0 }
def k3c1 : Code := { maxStack := 4, maxLocals := 2, code := prog_32_method_2_code, exceptionTable := #[], attributes := #[] }
def k3m1 : Method := { name := "addRow", desc := "()I", sig := { parameters := [], returnType := some .int }, accessFlags := 0, code := some k3c1 }
def k3c2 : Code := { maxStack := 8, maxLocals := 9, code := prog_32_method_3_code, exceptionTable := #[], attributes := #[] }
def k3m2 : Method := { name := "addCoefficient", desc := "(IIDD)V", sig := { parameters := [.int, .int, .double, .double], returnType := none }, accessFlags := 0, code := some k3c2 }
def k3c3 : Code := { maxStack := 8, maxLocals := 6, code := prog_32_method_5_code, exceptionTable := #[], attributes := #[] }
def k3m3 : Method := { name := "addExit", desc := "(IDD)V", sig := { parameters := [.int, .double, .double], returnType := none }, accessFlags := 0, code := some k3c3 }
def k3c4 : Code := { maxStack := 5, maxLocals := 9, code := prog_32_method_15_code, exceptionTable := #[], attributes := #[] }
def k3m4 : Method := { name := "append", desc := "(IIDD)V", sig := { parameters := [.int, .int, .double, .double], returnType := none }, accessFlags := 2, code := some k3c4 }
def k3c5 : Code := { maxStack := 8, maxLocals := 10, code := prog_32_method_20_code, exceptionTable := #[], attributes := #[] }
def k3m5 : Method := { name := "middleChange", desc := "(II[D)D", sig := { parameters := [.int, .int, (.array .double)], returnType := some .double }, accessFlags := 0, code := some k3c5 }
/-- com/example/markov_reachability/markovreachability/IntervalEquations -/
def k3 : Class := { plain "com/example/markov_reachability/markovreachability/IntervalEquations" (some 0) with
  accessFlags := 32
  interfaces := #[]
  cf := some (fileOf pool3 8 #[] #[{ accessFlags := 0, nameIndex := 5, descriptorIndex := 169, attributes := #[] }, { accessFlags := 0, nameIndex := 101, descriptorIndex := 102, attributes := #[] }, { accessFlags := 0, nameIndex := 173, descriptorIndex := 98, attributes := #[] }, { accessFlags := 0, nameIndex := 105, descriptorIndex := 106, attributes := #[] }, { accessFlags := 2, nameIndex := 97, descriptorIndex := 98, attributes := #[] }, { accessFlags := 0, nameIndex := 183, descriptorIndex := 184, attributes := #[] }] 32 2 #[] #[{ accessFlags := 18, nameIndex := 11, descriptorIndex := 12, attributes := #[] }, { accessFlags := 2, nameIndex := 64, descriptorIndex := 65, attributes := #[] }, { accessFlags := 2, nameIndex := 17, descriptorIndex := 18, attributes := #[] }, { accessFlags := 2, nameIndex := 23, descriptorIndex := 24, attributes := #[] }, { accessFlags := 2, nameIndex := 27, descriptorIndex := 14, attributes := #[] }, { accessFlags := 2, nameIndex := 30, descriptorIndex := 20, attributes := #[] }, { accessFlags := 2, nameIndex := 33, descriptorIndex := 20, attributes := #[] }, { accessFlags := 2, nameIndex := 36, descriptorIndex := 37, attributes := #[] }, { accessFlags := 18, nameIndex := 40, descriptorIndex := 18, attributes := #[] }, { accessFlags := 18, nameIndex := 43, descriptorIndex := 14, attributes := #[] }, { accessFlags := 18, nameIndex := 46, descriptorIndex := 14, attributes := #[] }, { accessFlags := 18, nameIndex := 49, descriptorIndex := 14, attributes := #[] }, { accessFlags := 18, nameIndex := 52, descriptorIndex := 14, attributes := #[] }, { accessFlags := 2, nameIndex := 117, descriptorIndex := 65, attributes := #[] }, { accessFlags := 18, nameIndex := 55, descriptorIndex := 14, attributes := #[] }])
  fields := #[{ name := "ceiling", type := .double, accessFlags := 18, slot := 0, constantValue := 0 }, { name := "rowCount", type := .int, accessFlags := 2, slot := 1, constantValue := 0 }, { name := "variables", type := (.array (.array .int)), accessFlags := 2, slot := 2, constantValue := 0 }, { name := "coefficients", type := (.array (.array .double)), accessFlags := 2, slot := 3, constantValue := 0 }, { name := "length", type := (.array .int), accessFlags := 2, slot := 4, constantValue := 0 }, { name := "constant", type := (.array .double), accessFlags := 2, slot := 5, constantValue := 0 }, { name := "exit", type := (.array .double), accessFlags := 2, slot := 6, constantValue := 0 }, { name := "eliminating", type := (.array .boolean), accessFlags := 2, slot := 7, constantValue := 0 }, { name := "users", type := (.array (.array .int)), accessFlags := 18, slot := 8, constantValue := 0 }, { name := "userCount", type := (.array .int), accessFlags := 18, slot := 9, constantValue := 0 }, { name := "substitutable", type := (.array .int), accessFlags := 18, slot := 10, constantValue := 0 }, { name := "eliminatedVariable", type := (.array .int), accessFlags := 18, slot := 11, constantValue := 0 }, { name := "eliminatedRow", type := (.array .int), accessFlags := 18, slot := 12, constantValue := 0 }, { name := "eliminatedCount", type := .int, accessFlags := 2, slot := 13, constantValue := 0 }, { name := "slot", type := (.array .int), accessFlags := 18, slot := 14, constantValue := 0 }]
  methods := #[k3m0, k3m1, k3m2, k3m3, k3m4, k3m5]
  instanceTypes := #[.double, .int, (.array (.array .int)), (.array (.array .double)), (.array .int), (.array .double), (.array .double), (.array .boolean), (.array (.array .int)), (.array .int), (.array .int), (.array .int), (.array .int), .int, (.array .int)]
  staticTypes := #[]
  resolved := Array.replicate 188 none
  statics := none }

def pool4 : Array CpInfo := pool [(2, .class_ 4), (1, u "java/lang/Object"), (0, u "<init>"), (0, u "()V"), (7, .class_ 16), (1, u "java/util/Arrays"), (57, .class_ 76), (1, u "java/util/Arrays$NaturalOrder"), (36, .class_ 115), (1, u "java/util/Arrays$LegacyMergeSort"), (1, u "Z"), (32, .methodref 151 152), (0, .class_ 153), (0, .nameAndType 154 155), (0, u "java/lang/System"), (0, u "arraycopy"), (0, u "(Ljava/lang/Object;ILjava/lang/Object;II)V"), (146, u "copyOf"), (1, .methodref 305 306), (0, .class_ 307), (0, .nameAndType 308 309), (0, u "java/lang/Math"), (0, u "min"), (0, u "(II)I"), (65, .class_ 376), (0, u "java/util/Arrays$ArrayList"), (68, u "$assertionsDisabled"), (269, u "MIN_ARRAY_SORT_GRAN"), (0, u "I"), (2, u "INSERTIONSORT_THRESHOLD"), (120, u "fill"), (4, u "([II)V"), (25, u "([II)[I"), (3, u "([DI)[D"), (99, .class_ 976), (0, u "java/util/Arrays$ArrayItr")] 52

def k4m0 : Method := { name := "<init>", desc := "()V", sig := { parameters := [], returnType := none }, accessFlags := 2, code := none }
def k4c1 : Code := { maxStack := 3, maxLocals := 4, code := jdk_65_method_103_code, exceptionTable := #[], attributes := #[] }
def k4m1 : Method := { name := "fill", desc := "([II)V", sig := { parameters := [(.array .int), .int], returnType := none }, accessFlags := 9, code := some k4c1 }
def k4c2 : Code := { maxStack := 6, maxLocals := 3, code := jdk_65_method_123_code, exceptionTable := #[], attributes := #[] }
def k4m2 : Method := { name := "copyOf", desc := "([II)[I", sig := { parameters := [(.array .int), .int], returnType := some (.array .int) }, accessFlags := 9, code := some k4c2 }
def k4c3 : Code := { maxStack := 6, maxLocals := 3, code := jdk_65_method_127_code, exceptionTable := #[], attributes := #[] }
def k4m3 : Method := { name := "copyOf", desc := "([DI)[D", sig := { parameters := [(.array .double), .int], returnType := some (.array .double) }, accessFlags := 9, code := some k4c3 }
/-- java/util/Arrays -/
def k4 : Class := { plain "java/util/Arrays" (some 0) with
  accessFlags := 49
  interfaces := #[]
  cf := some (fileOf pool4 14 #[.nestMembers #[975, 375, 113, 74]] #[{ accessFlags := 2, nameIndex := 5, descriptorIndex := 6, attributes := #[] }, { accessFlags := 9, nameIndex := 840, descriptorIndex := 845, attributes := #[] }, { accessFlags := 9, nameIndex := 302, descriptorIndex := 871, attributes := #[] }, { accessFlags := 9, nameIndex := 302, descriptorIndex := 875, attributes := #[] }] 49 2 #[] #[{ accessFlags := 26, nameIndex := 715, descriptorIndex := 716, attributes := #[] }, { accessFlags := 26, nameIndex := 719, descriptorIndex := 716, attributes := #[] }, { accessFlags := 4120, nameIndex := 445, descriptorIndex := 117, attributes := #[] }])
  fields := #[{ name := "MIN_ARRAY_SORT_GRAN", type := .int, accessFlags := 26, slot := 0, constantValue := 0 }, { name := "INSERTIONSORT_THRESHOLD", type := .int, accessFlags := 26, slot := 1, constantValue := 0 }, { name := "$assertionsDisabled", type := .boolean, accessFlags := 4120, slot := 2, constantValue := 0 }]
  methods := #[k4m0, k4m1, k4m2, k4m3]
  instanceTypes := #[]
  staticTypes := #[.int, .int, .boolean]
  resolved := Array.replicate 1029 none
  statics := none }

def pool5 : Array CpInfo := pool [(2, .class_ 4), (1, u "java/lang/Object"), (0, u "<init>"), (0, u "()V"), (12, u "(DD)D"), (0, .class_ 21), (0, u "com/example/markov_reachability/markovreachability/Rounding"), (2, u "sumDown"), (1, u "sumUp")] 8

def k5m0 : Method := { name := "<init>", desc := "()V", sig := { parameters := [], returnType := none }, accessFlags := 2, code := none }
def k5c1 : Code := { maxStack := 4, maxLocals := 6, code := prog_65_method_2_code, exceptionTable := #[], attributes := #[] }
def k5m1 : Method := { name := "sumDown", desc := "(DD)D", sig := { parameters := [.double, .double], returnType := some .double }, accessFlags := 8, code := some k5c1 }
def k5c2 : Code := { maxStack := 4, maxLocals := 6, code := prog_65_method_3_code, exceptionTable := #[], attributes := #[] }
def k5m2 : Method := { name := "sumUp", desc := "(DD)D", sig := { parameters := [.double, .double], returnType := some .double }, accessFlags := 8, code := some k5c2 }
/-- com/example/markov_reachability/markovreachability/Rounding -/
def k5 : Class := { plain "com/example/markov_reachability/markovreachability/Rounding" (some 0) with
  accessFlags := 32
  interfaces := #[]
  cf := some (fileOf pool5 20 #[] #[{ accessFlags := 2, nameIndex := 5, descriptorIndex := 6, attributes := #[] }, { accessFlags := 8, nameIndex := 24, descriptorIndex := 19, attributes := #[] }, { accessFlags := 8, nameIndex := 26, descriptorIndex := 19, attributes := #[] }] 32 2 #[] #[])
  fields := #[]
  methods := #[k5m0, k5m1, k5m2]
  instanceTypes := #[]
  staticTypes := #[]
  resolved := Array.replicate 35 none
  statics := none }

def pool6 : Array CpInfo := pool [(2, .class_ 4), (1, u "java/lang/Object"), (0, u "<init>"), (0, u "()V"), (1, .class_ 10), (1, u "java/lang/System"), (0, u "allowSecurityManager"), (0, u "I"), (16, u "cons"), (0, u "Ljava/io/Console;"), (77, .class_ 110), (1, u "java/lang/System$CallersHolder"), (43, u "initialErrStream"), (0, u "Ljava/io/PrintStream;"), (19, u "security"), (0, u "Ljava/lang/SecurityManager;"), (31, .class_ 209), (0, u "java/lang/System$1"), (7, u "props"), (0, u "Ljava/util/Properties;"), (2, u "lineSeparator"), (0, u "Ljava/lang/String;"), (96, .class_ 321), (1, u "java/lang/System$LoggerFinder"), (5, .class_ 328), (0, u "java/lang/System$Logger"), (67, u "err"), (2, u "out"), (91, u "notSupportedJnuEncoding"), (15, u "in"), (17, u "initialIn"), (0, u "Ljava/io/InputStream;"), (35, u "bootLayer"), (0, u "Ljava/lang/ModuleLayer;"), (99, .class_ 664), (0, u "java/lang/System$2"), (9, u "NEVER"), (2, u "MAYBE"), (49, u "arraycopy"), (0, u "(Ljava/lang/Object;ILjava/lang/Object;II)V"), (72, .class_ 802), (0, u "java/lang/System$Logger$Level")] 31

def k6m0 : Method := { name := "<init>", desc := "()V", sig := { parameters := [], returnType := none }, accessFlags := 2, code := none }
def k6m1 : Method := { name := "arraycopy", desc := "(Ljava/lang/Object;ILjava/lang/Object;II)V", sig := { parameters := [(.object "java/lang/Object"), .int, (.object "java/lang/Object"), .int, .int], returnType := none }, accessFlags := 265, code := none }
/-- java/lang/System -/
def k6 : Class := { plain "java/lang/System" (some 0) with
  accessFlags := 49
  interfaces := #[]
  cf := some (fileOf pool6 8 #[.nestMembers #[319, 327, 801, 108, 663, 208]] #[{ accessFlags := 2, nameIndex := 5, descriptorIndex := 6, attributes := #[] }, { accessFlags := 265, nameIndex := 727, descriptorIndex := 728, attributes := #[] }] 49 2 #[] #[{ accessFlags := 25, nameIndex := 507, descriptorIndex := 526, attributes := #[] }, { accessFlags := 25, nameIndex := 399, descriptorIndex := 155, attributes := #[] }, { accessFlags := 25, nameIndex := 396, descriptorIndex := 155, attributes := #[] }, { accessFlags := 10, nameIndex := 525, descriptorIndex := 526, attributes := #[] }, { accessFlags := 26, nameIndex := 674, descriptorIndex := 12, attributes := #[] }, { accessFlags := 26, nameIndex := 677, descriptorIndex := 12, attributes := #[] }, { accessFlags := 10, nameIndex := 11, descriptorIndex := 12, attributes := #[] }, { accessFlags := 74, nameIndex := 175, descriptorIndex := 176, attributes := #[] }, { accessFlags := 10, nameIndex := 491, descriptorIndex := 222, attributes := #[] }, { accessFlags := 74, nameIndex := 29, descriptorIndex := 30, attributes := #[] }, { accessFlags := 74, nameIndex := 154, descriptorIndex := 155, attributes := #[] }, { accessFlags := 10, nameIndex := 217, descriptorIndex := 218, attributes := #[] }, { accessFlags := 10, nameIndex := 221, descriptorIndex := 222, attributes := #[] }, { accessFlags := 8, nameIndex := 562, descriptorIndex := 563, attributes := #[] }])
  fields := #[{ name := "in", type := (.object "java/io/InputStream"), accessFlags := 25, slot := 0, constantValue := 0 }, { name := "out", type := (.object "java/io/PrintStream"), accessFlags := 25, slot := 1, constantValue := 0 }, { name := "err", type := (.object "java/io/PrintStream"), accessFlags := 25, slot := 2, constantValue := 0 }, { name := "initialIn", type := (.object "java/io/InputStream"), accessFlags := 10, slot := 3, constantValue := 0 }, { name := "NEVER", type := .int, accessFlags := 26, slot := 4, constantValue := 0 }, { name := "MAYBE", type := .int, accessFlags := 26, slot := 5, constantValue := 0 }, { name := "allowSecurityManager", type := .int, accessFlags := 10, slot := 6, constantValue := 0 }, { name := "security", type := (.object "java/lang/SecurityManager"), accessFlags := 74, slot := 7, constantValue := 0 }, { name := "notSupportedJnuEncoding", type := (.object "java/lang/String"), accessFlags := 10, slot := 8, constantValue := 0 }, { name := "cons", type := (.object "java/io/Console"), accessFlags := 74, slot := 9, constantValue := 0 }, { name := "initialErrStream", type := (.object "java/io/PrintStream"), accessFlags := 74, slot := 10, constantValue := 0 }, { name := "props", type := (.object "java/util/Properties"), accessFlags := 10, slot := 11, constantValue := 0 }, { name := "lineSeparator", type := (.object "java/lang/String"), accessFlags := 10, slot := 12, constantValue := 0 }, { name := "bootLayer", type := (.object "java/lang/ModuleLayer"), accessFlags := 8, slot := 13, constantValue := 0 }]
  methods := #[k6m0, k6m1]
  instanceTypes := #[]
  staticTypes := #[(.object "java/io/InputStream"), (.object "java/io/PrintStream"), (.object "java/io/PrintStream"), (.object "java/io/InputStream"), .int, .int, .int, (.object "java/lang/SecurityManager"), (.object "java/lang/String"), (.object "java/io/Console"), (.object "java/io/PrintStream"), (.object "java/util/Properties"), (.object "java/lang/String"), (.object "java/lang/ModuleLayer")]
  resolved := Array.replicate 834 none
  statics := none }

def pool7 : Array CpInfo := pool [(1, u "java/lang/Cloneable"), (0, .class_ 1), (0, u "java/lang/Object"), (0, .class_ 3)] 3

/-- java/lang/Cloneable -/
def k7 : Class := { plain "java/lang/Cloneable" (some 0) with
  accessFlags := 1537
  interfaces := #[]
  cf := some (fileOf pool7 2 #[] #[] 1537 4 #[] #[])
  fields := #[]
  methods := #[]
  instanceTypes := #[]
  staticTypes := #[]
  resolved := Array.replicate 8 none
  statics := none }

def pool8 : Array CpInfo := pool [(1, u "java/io/Serializable"), (0, .class_ 1), (0, u "java/lang/Object"), (0, .class_ 3)] 3

/-- java/io/Serializable -/
def k8 : Class := { plain "java/io/Serializable" (some 0) with
  accessFlags := 1537
  interfaces := #[]
  cf := some (fileOf pool8 2 #[] #[] 1537 4 #[] #[])
  fields := #[]
  methods := #[]
  instanceTypes := #[]
  staticTypes := #[]
  resolved := Array.replicate 8 none
  statics := none }

/-- the primitive boolean -/
def k9 : Class := { plain "boolean" none with kind := .primitive 'Z', accessFlags := 0x411 }
/-- [Z -/
def k10 : Class := { plain "[Z" (some 0) with kind := .array 9 .boolean, interfaces := #[7, 8], accessFlags := 1041 }

/-- the primitive byte -/
def k11 : Class := { plain "byte" none with kind := .primitive 'B', accessFlags := 0x411 }
/-- [B -/
def k12 : Class := { plain "[B" (some 0) with kind := .array 11 .byte, interfaces := #[7, 8], accessFlags := 1041 }

/-- the primitive double -/
def k13 : Class := { plain "double" none with kind := .primitive 'D', accessFlags := 0x411 }
/-- [D -/
def k14 : Class := { plain "[D" (some 0) with kind := .array 13 .double, interfaces := #[7, 8], accessFlags := 1041 }

/-- the primitive int -/
def k15 : Class := { plain "int" none with kind := .primitive 'I', accessFlags := 0x411 }
/-- [I -/
def k16 : Class := { plain "[I" (some 0) with kind := .array 15 .int, interfaces := #[7, 8], accessFlags := 1041 }

/-- [[D -/
def k17 : Class := { plain "[[D" (some 0) with kind := .array 14 (.array .double), interfaces := #[7, 8], accessFlags := 1041 }

/-- [[I -/
def k18 : Class := { plain "[[I" (some 0) with kind := .array 16 (.array .int), interfaces := #[7, 8], accessFlags := 1041 }

def heap : Heap := #[]
def classes : Array Class := #[k0, k1, k2, k3, k4, k5, k6, k7, k8, k9, k10, k11, k12, k13, k14, k15, k16, k17, k18]
def interned : List (Array UInt16 × Addr) := []
def slotsUsed : Nat := 0
def theMethod : MethodId := ⟨1, 1⟩
def args0 : Array Value := #[.int 55, .int 1234567, .int 7654321, .int 99, .int 5]
def aboutOver (below : List Frame) : State where
  vm := { classes := classes, interned := interned.toArray }
  heap := heap
  slotsUsed := slotsUsed
  threads := #[{ frames := .invoking theMethod args0 :: below }]
def below0 : List Frame := [.native { method := ⟨0, 0⟩, args := #[] }]
def about1 : State := aboutOver below0
def p0 : Program := .bare "" "" ""
def e0 : Env := launch0.env 0 0 0
theorem w_frames : about1.frames = Frame.invoking theMethod args0 :: below0 := rfl
set_option maxRecDepth 65536 in
theorem w_args : argsFit about1.vm theMethod args0 = true := by decide +kernel
set_option maxRecDepth 65536 in
theorem w_heap : heapFits about1 = true := by decide +kernel
set_option maxRecDepth 65536 in
theorem w_runnable : about1.curStatus? = some .runnable := by decide +kernel
set_option maxRecDepth 65536 in
theorem w_alone : about1.alone = true := by decide +kernel
set_option maxRecDepth 65536 in
theorem w_named : about1.methodNamed? x = some theMethod := by decide +kernel
set_option maxRecDepth 65536 in
theorem w_hears : about1.hears theMethod below0 = true := by decide +kernel
set_option maxRecDepth 65536 in
theorem w_ripe : about1.ripe theMethod args0 below0 = true := by decide +kernel
theorem w_running : about1.status = .running := rfl
set_option maxRecDepth 65536 in
theorem w_room : about1.hasRoom e0.platform room_1 = true :=
  launch0.hasRoom_least _ room_1 (by decide +kernel) (by decide +kernel) (by decide +kernel) (by decide +kernel) (by decide +kernel) (by decide +kernel)
theorem allAtoms_all (ts : List Jvm.Cond) (a : Array Jvm.Value) (st : Jvm.State) : (allAtoms ts).before a st = ts.all (fun c => c.before a st) := by
  induction ts with
  | nil => rfl
  | cons c t ih =>
    show (Jvm.Cond.and c (allAtoms t)).before a st = _
    rw [Jvm.Cond.before_and, ih, List.all_cons]
def words1 : List Jvm.Cond := Jvm.Cond.code x code maxLocals ret :: tables_1
/-- a 'code' word, met by the world's own term for the bytes: nothing is compared byte by byte -/
theorem code_word {y : MethodName} {bytes : ByteArray} {mx : Nat} {rt : Option FieldType} {a : Array Value} {s : State} {m : MethodId} {meth : Method} {c : Code} (h1 : s.methodNamed? y = some m) (h2 : s.vm.method? m = some meth) (h3 : meth.code = some c) (h4 : c.code = bytes)
    (h5 : (c.maxLocals == mx && c.exceptionTable.isEmpty && decide (c.maxStack ≤ mostOperands) && decide (meth.sig.returnType = rt) && !meth.locks && decide (parseMethodDescriptor y.desc = some meth.sig)) = true) : (Jvm.Cond.code y bytes mx rt).before a s = true := by
  simp only [Bool.and_eq_true, beq_iff_eq, Bool.not_eq_true', decide_eq_true_eq] at h5
  obtain ⟨⟨⟨⟨⟨g1, g2⟩, g3⟩, g4⟩, g5⟩, g6⟩ := h5
  simp [Cond.before, Cond.holds, Cond.value, h1, h2, h3, h4, g1, g2, g3, g4, g5, g6]
def isCode : Jvm.Cond → Bool
  | .code _ _ _ _ => true
  | _ => false
theorem all_split {L : List Jvm.Cond} {P : Jvm.Cond → Bool} (h1 : L.all (fun c => isCode c || P c) = true) (h2 : ∀ c ∈ L.filter isCode, P c = true) : L.all P = true := by
  refine List.all_eq_true.mpr fun c hc => ?_
  have h := List.all_eq_true.mp h1 c hc
  rcases Bool.eq_false_or_eq_true (isCode c) with hi | hi
  · exact h2 c (List.mem_filter.mpr ⟨hc, hi⟩)
  · simpa [hi] using h
set_option maxRecDepth 65536 in
theorem w_c0 : (Jvm.Cond.code x code maxLocals ret).before args0 about1 = true := code_word (m := ⟨1, 1⟩) (meth := k1m1) (c := k1c1) (by decide +kernel) rfl rfl rfl (by decide +kernel)
set_option maxRecDepth 65536 in
theorem w_c1 : (Jvm.Cond.code ({ cls := "java/lang/Math", name := "min", desc := "(II)I" } : Jvm.MethodName) jdk_29_method_69_code (2 : Nat) (Option.some Jvm.ClassFile.FieldType.int)).before args0 about1 = true := code_word (m := ⟨2, 1⟩) (meth := k2m1) (c := k2c1) (by decide +kernel) rfl rfl rfl (by decide +kernel)
set_option maxRecDepth 65536 in
theorem w_c2 : (Jvm.Cond.code ({ cls := "com/example/markov_reachability/markovreachability/IntervalEquations", name := "<init>", desc := "(ID)V" } : Jvm.MethodName) prog_32_method_1_code (4 : Nat) (Option.none : Option Jvm.ClassFile.FieldType)).before args0 about1 = true := code_word (m := ⟨3, 0⟩) (meth := k3m0) (c := k3c0) (by decide +kernel) rfl rfl rfl (by decide +kernel)
set_option maxRecDepth 65536 in
theorem w_c3 : (Jvm.Cond.code ({ cls := "java/lang/Object", name := "<init>", desc := "()V" } : Jvm.MethodName) object_method_1_code (1 : Nat) (Option.none : Option Jvm.ClassFile.FieldType)).before args0 about1 = true := code_word (m := ⟨0, 0⟩) (meth := k0m0) (c := k0c0) (by decide +kernel) rfl rfl rfl (by decide +kernel)
set_option maxRecDepth 65536 in
theorem w_c4 : (Jvm.Cond.code ({ cls := "java/util/Arrays", name := "fill", desc := "([II)V" } : Jvm.MethodName) jdk_65_method_103_code (4 : Nat) (Option.none : Option Jvm.ClassFile.FieldType)).before args0 about1 = true := code_word (m := ⟨4, 1⟩) (meth := k4m1) (c := k4c1) (by decide +kernel) rfl rfl rfl (by decide +kernel)
set_option maxRecDepth 65536 in
theorem w_c5 : (Jvm.Cond.code ({ cls := "com/example/markov_reachability/markovreachability/IntervalEquations", name := "addRow", desc := "()I" } : Jvm.MethodName) prog_32_method_2_code (2 : Nat) (Option.some Jvm.ClassFile.FieldType.int)).before args0 about1 = true := code_word (m := ⟨3, 1⟩) (meth := k3m1) (c := k3c1) (by decide +kernel) rfl rfl rfl (by decide +kernel)
set_option maxRecDepth 65536 in
theorem w_c6 : (Jvm.Cond.code ({ cls := "com/example/markov_reachability/markovreachability/IntervalEquations", name := "addCoefficient", desc := "(IIDD)V" } : Jvm.MethodName) prog_32_method_3_code (9 : Nat) (Option.none : Option Jvm.ClassFile.FieldType)).before args0 about1 = true := code_word (m := ⟨3, 2⟩) (meth := k3m2) (c := k3c2) (by decide +kernel) rfl rfl rfl (by decide +kernel)
set_option maxRecDepth 65536 in
theorem w_c7 : (Jvm.Cond.code ({ cls := "com/example/markov_reachability/markovreachability/IntervalEquations", name := "append", desc := "(IIDD)V" } : Jvm.MethodName) prog_32_method_15_code (9 : Nat) (Option.none : Option Jvm.ClassFile.FieldType)).before args0 about1 = true := code_word (m := ⟨3, 4⟩) (meth := k3m4) (c := k3c4) (by decide +kernel) rfl rfl rfl (by decide +kernel)
set_option maxRecDepth 65536 in
theorem w_c8 : (Jvm.Cond.code ({ cls := "com/example/markov_reachability/markovreachability/IntervalEquations", name := "addExit", desc := "(IDD)V" } : Jvm.MethodName) prog_32_method_5_code (6 : Nat) (Option.none : Option Jvm.ClassFile.FieldType)).before args0 about1 = true := code_word (m := ⟨3, 3⟩) (meth := k3m3) (c := k3c3) (by decide +kernel) rfl rfl rfl (by decide +kernel)
set_option maxRecDepth 65536 in
theorem w_c9 : (Jvm.Cond.code ({ cls := "com/example/markov_reachability/markovreachability/Rounding", name := "sumDown", desc := "(DD)D" } : Jvm.MethodName) prog_65_method_2_code (6 : Nat) (Option.some Jvm.ClassFile.FieldType.double)).before args0 about1 = true := code_word (m := ⟨5, 1⟩) (meth := k5m1) (c := k5c1) (by decide +kernel) rfl rfl rfl (by decide +kernel)
set_option maxRecDepth 65536 in
theorem w_c10 : (Jvm.Cond.code ({ cls := "com/example/markov_reachability/markovreachability/Rounding", name := "sumUp", desc := "(DD)D" } : Jvm.MethodName) prog_65_method_3_code (6 : Nat) (Option.some Jvm.ClassFile.FieldType.double)).before args0 about1 = true := code_word (m := ⟨5, 2⟩) (meth := k5m2) (c := k5c2) (by decide +kernel) rfl rfl rfl (by decide +kernel)
set_option maxRecDepth 65536 in
theorem w_c11 : (Jvm.Cond.code ({ cls := "java/lang/Math", name := "min", desc := "(DD)D" } : Jvm.MethodName) jdk_29_method_72_code (4 : Nat) (Option.some Jvm.ClassFile.FieldType.double)).before args0 about1 = true := code_word (m := ⟨2, 2⟩) (meth := k2m2) (c := k2c2) (by decide +kernel) rfl rfl rfl (by decide +kernel)
set_option maxRecDepth 65536 in
theorem w_c12 : (Jvm.Cond.code ({ cls := "com/example/markov_reachability/markovreachability/IntervalEquations", name := "middleChange", desc := "(II[D)D" } : Jvm.MethodName) prog_32_method_20_code (10 : Nat) (Option.some Jvm.ClassFile.FieldType.double)).before args0 about1 = true := code_word (m := ⟨3, 5⟩) (meth := k3m5) (c := k3c5) (by decide +kernel) rfl rfl rfl (by decide +kernel)
set_option maxRecDepth 65536 in
theorem w_c13 : (Jvm.Cond.code ({ cls := "java/util/Arrays", name := "copyOf", desc := "([II)[I" } : Jvm.MethodName) jdk_65_method_123_code (3 : Nat) (Option.some (Jvm.ClassFile.FieldType.array Jvm.ClassFile.FieldType.int))).before args0 about1 = true := code_word (m := ⟨4, 2⟩) (meth := k4m2) (c := k4c2) (by decide +kernel) rfl rfl rfl (by decide +kernel)
set_option maxRecDepth 65536 in
theorem w_c14 : (Jvm.Cond.code ({ cls := "java/util/Arrays", name := "copyOf", desc := "([DI)[D" } : Jvm.MethodName) jdk_65_method_127_code (3 : Nat) (Option.some (Jvm.ClassFile.FieldType.array Jvm.ClassFile.FieldType.double))).before args0 about1 = true := code_word (m := ⟨4, 3⟩) (meth := k4m3) (c := k4c3) (by decide +kernel) rfl rfl rfl (by decide +kernel)
def codes1 : List Jvm.Cond := [Jvm.Cond.code x code maxLocals ret, Jvm.Cond.code ({ cls := "java/lang/Math", name := "min", desc := "(II)I" } : Jvm.MethodName) jdk_29_method_69_code (2 : Nat) (Option.some Jvm.ClassFile.FieldType.int), Jvm.Cond.code ({ cls := "com/example/markov_reachability/markovreachability/IntervalEquations", name := "<init>", desc := "(ID)V" } : Jvm.MethodName) prog_32_method_1_code (4 : Nat) (Option.none : Option Jvm.ClassFile.FieldType), Jvm.Cond.code ({ cls := "java/lang/Object", name := "<init>", desc := "()V" } : Jvm.MethodName) object_method_1_code (1 : Nat) (Option.none : Option Jvm.ClassFile.FieldType), Jvm.Cond.code ({ cls := "java/util/Arrays", name := "fill", desc := "([II)V" } : Jvm.MethodName) jdk_65_method_103_code (4 : Nat) (Option.none : Option Jvm.ClassFile.FieldType), Jvm.Cond.code ({ cls := "com/example/markov_reachability/markovreachability/IntervalEquations", name := "addRow", desc := "()I" } : Jvm.MethodName) prog_32_method_2_code (2 : Nat) (Option.some Jvm.ClassFile.FieldType.int), Jvm.Cond.code ({ cls := "com/example/markov_reachability/markovreachability/IntervalEquations", name := "addCoefficient", desc := "(IIDD)V" } : Jvm.MethodName) prog_32_method_3_code (9 : Nat) (Option.none : Option Jvm.ClassFile.FieldType), Jvm.Cond.code ({ cls := "com/example/markov_reachability/markovreachability/IntervalEquations", name := "append", desc := "(IIDD)V" } : Jvm.MethodName) prog_32_method_15_code (9 : Nat) (Option.none : Option Jvm.ClassFile.FieldType), Jvm.Cond.code ({ cls := "com/example/markov_reachability/markovreachability/IntervalEquations", name := "addExit", desc := "(IDD)V" } : Jvm.MethodName) prog_32_method_5_code (6 : Nat) (Option.none : Option Jvm.ClassFile.FieldType), Jvm.Cond.code ({ cls := "com/example/markov_reachability/markovreachability/Rounding", name := "sumDown", desc := "(DD)D" } : Jvm.MethodName) prog_65_method_2_code (6 : Nat) (Option.some Jvm.ClassFile.FieldType.double), Jvm.Cond.code ({ cls := "com/example/markov_reachability/markovreachability/Rounding", name := "sumUp", desc := "(DD)D" } : Jvm.MethodName) prog_65_method_3_code (6 : Nat) (Option.some Jvm.ClassFile.FieldType.double), Jvm.Cond.code ({ cls := "java/lang/Math", name := "min", desc := "(DD)D" } : Jvm.MethodName) jdk_29_method_72_code (4 : Nat) (Option.some Jvm.ClassFile.FieldType.double), Jvm.Cond.code ({ cls := "com/example/markov_reachability/markovreachability/IntervalEquations", name := "middleChange", desc := "(II[D)D" } : Jvm.MethodName) prog_32_method_20_code (10 : Nat) (Option.some Jvm.ClassFile.FieldType.double), Jvm.Cond.code ({ cls := "java/util/Arrays", name := "copyOf", desc := "([II)[I" } : Jvm.MethodName) jdk_65_method_123_code (3 : Nat) (Option.some (Jvm.ClassFile.FieldType.array Jvm.ClassFile.FieldType.int)), Jvm.Cond.code ({ cls := "java/util/Arrays", name := "copyOf", desc := "([DI)[D" } : Jvm.MethodName) jdk_65_method_127_code (3 : Nat) (Option.some (Jvm.ClassFile.FieldType.array Jvm.ClassFile.FieldType.double))]
set_option maxRecDepth 65536 in
theorem codes_eq : words1.filter isCode = codes1 := rfl
theorem w_codes : ∀ c ∈ words1.filter isCode, c.before args0 about1 = true := by
  rw [codes_eq]
  intro c hc
  simp only [codes1, List.mem_cons, List.not_mem_nil, or_false] at hc
  rcases hc with rfl | rfl | rfl | rfl | rfl | rfl | rfl | rfl | rfl | rfl | rfl | rfl | rfl | rfl | rfl
  · exact w_c0
  · exact w_c1
  · exact w_c2
  · exact w_c3
  · exact w_c4
  · exact w_c5
  · exact w_c6
  · exact w_c7
  · exact w_c8
  · exact w_c9
  · exact w_c10
  · exact w_c11
  · exact w_c12
  · exact w_c13
  · exact w_c14
set_option maxRecDepth 65536 in
theorem w_t1 : (words1.take 24).all (fun c => isCode c || c.before args0 about1) = true := by decide +kernel
set_option maxRecDepth 65536 in
theorem w_t2 : ((words1.drop 24).take 24).all (fun c => isCode c || c.before args0 about1) = true := by decide +kernel
set_option maxRecDepth 65536 in
theorem w_t3 : (((words1.drop 24).drop 24).take 24).all (fun c => isCode c || c.before args0 about1) = true := by decide +kernel
set_option maxRecDepth 65536 in
theorem w_t4 : ((((words1.drop 24).drop 24).drop 24).take 24).all (fun c => isCode c || c.before args0 about1) = true := by decide +kernel
set_option maxRecDepth 65536 in
theorem w_t5 : ((((words1.drop 24).drop 24).drop 24).drop 24).all (fun c => isCode c || c.before args0 about1) = true := by decide +kernel
theorem w_tables : (allAtoms (Jvm.Cond.code x code maxLocals ret :: tables_1)).before args0 about1 = true := by
  rw [allAtoms_all]
  show words1.all (fun c => c.before args0 about1) = true
  refine all_split ?_ w_codes
  rw [← List.take_append_drop 24 words1, List.all_append, w_t1, ← List.take_append_drop 24 (words1.drop 24), List.all_append, w_t2, ← List.take_append_drop 24 ((words1.drop 24).drop 24), List.all_append, w_t3, ← List.take_append_drop 24 (((words1.drop 24).drop 24).drop 24), List.all_append, w_t4, w_t5]
  rfl
set_option maxRecDepth 65536 in
theorem w_case : (Jvm.Cond.and given_1 narrow_1).before args0 about1 = true := by decide +kernel
theorem w_applies : (headSpec (Jvm.Cond.code x code maxLocals ret :: tables_1) room_1).applies x e0.platform about1 = true :=
  (Spec.applies_iff w_frames).mpr ⟨w_running, w_runnable, w_alone, w_named, w_hears, w_ripe, w_room, w_tables⟩
theorem atStart : AtStart classFile x code maxLocals ret World_1 tables_1 room_1 Calls_1 rest_1 Pre_1 launch0 p0 e0 about1 theMethod args0 below0 :=
  ⟨lists_1, trivial, launch0.admits_env _ _ _, launch0.least_env, fairChoices_fair.cas, fairChoices_fair.clock, w_frames, w_args, w_heap, w_applies, trivial, trivial, w_case⟩
end start1
theorem witness_1 : WitnessClaimed_1 := ⟨start1.p0, start1.e0, start1.about1, start1.theMethod, start1.args0, start1.below0, start1.atStart⟩
end Jvm.Pilot.@@N@@
